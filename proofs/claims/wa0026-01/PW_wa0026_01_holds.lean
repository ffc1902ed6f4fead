import PyProof.Rows.All
import Wide.All
import OpenK.AllK
import Wide.FinOn
import Lean
import PySem.Challenge.RW_wa0026_01
set_option Elab.async false
set_option rowWalk.seconds 0

-- Hd
namespace Mine
open PySem PySem.W PyProof.Rows
set_option Elab.async false
set_option maxRecDepth 100000
set_option maxHeartbeats 8000000
open_top hd for PySem.Challenge.rw_wa0026_01
end Mine

-- B0
namespace Mine
open PySem PySem.W PySem.Calls PyProof.Rows
set_option Elab.async false
set_option maxRecDepth 100000
set_option maxHeartbeats 8000000
abbrev PP : Program := PySem.Challenge.rw_wa0026_01.row.prog
noncomputable def Ext (h h' : Heap) : Prop := ∀ b o, h.get? b = some o → h'.get? b = some o
theorem Ext.refl (h : Heap) : Ext h h := fun _ _ e => e
theorem Ext.trans {h h' h'' : Heap} (a : Ext h h') (b : Ext h' h'') : Ext h h'' := fun x o e => b x o (a x o e)

structure Gd (w : World) (h : Heap) : Prop where
  K : (hd.heap_39 w.params).In h
  T : ∃ mg mb, TopRead hd.view_39 (looseW hd.view_39 []) mg mb h
theorem Gd.keeps {w : World} {h h' : Heap} (G : Gd w h) (e : Ext h h') : Gd w h' :=
  ⟨G.K.keeps e, let ⟨a, b, t⟩ := G.T; ⟨a, b, t.keeps e⟩⟩

theorem callD {w : World} {A : Around} {s : Shared} {K : Frag} {Q E : Value → Shared → Prop}
   {name qual : Str} {params : Arguments} {body : List Stmt} {scope : Scope} {dV kV doc pm cdv ct oc : Value} {an od : Option Addr} {osl : Array (Option Value)} {f : Addr} {args : List Value} {binds : List (Str × Value)}
   (X : K.In s.heap) (hl : s.heap.NoLimit) (hroom : A.depth < recursionLimit)
   (ho : K.lookup f = some ⟨oc, od, .func (fnOf name qual params body scope dV kV doc pm an cdv ct), osl⟩) (hcd : codeIn K cdv qual = true)
   (hbind : bindArgs (fnOf name qual params body scope dV kV doc pm an cdv ct) ⟨args, []⟩ = pure binds) (hloc : ∀ y ∈ binds, scope.names.lookup y.1 = some .local)
   (h : ∀ L h₁, Fr s.heap L h₁ (fun y => binds.reverse.lookup y) → News s.heap L h₁ [] →
      wpAny (model PP w) (A.deeper (envOf qual scope L f cdv)) (execs body (envOf qual scope L f cdv))
        (fun fl s' => Q (match fl with | .ret v => v | _ => .none) s') (fun _ _ => False)
        { s with heap := h₁, toks := s.toks + binds.length })
   (hcell : ∀ x ∈ scope.names, x.2 ≠ .cell) (hco : scope.isCoroutine = false := by rfl) (hgen : scope.isGenerator = false := by rfl) (hk : scope.kind = .function := by rfl) :
   wpAny (model PP w) A (call (.ref f) args) Q E s := by
  refine wpAny_call (codeAny_call_def (fd := fnOf name qual params body scope dV kV doc pm an cdv ct) (body := body) (binds := binds) hroom (X _ _ ho) rfl hl (codeRec_of X hcd) rfl (BindsTo.of_eq hbind) hcell hloc (fun h₁ hns hk₁ => ?_) hco hgen hk)
  exact wpAny_mono (h s.heap.objs.size h₁ ⟨hns, hk₁, Nat.le_refl _⟩ (fun _ hp => nomatch hp)) (fun _ _ q => q) (fun _ _ q => q.elim)
end Mine

-- B1
namespace Mine
open PySem PySem.W PySem.Calls PyProof.Rows
set_option Elab.async false
set_option maxRecDepth 100000
section
variable {prog : Program} {w : World} {A : Around} {s : Shared} {env : Env} {h₀ : Heap}

/-- how a turn ends that goes on -/
inductive TurnN (h₀ : Heap) (L : Addr) (wr : List Addr) (own : List (Addr × Obj)) (Jn : (Str → Option Value) → List (Addr × Obj) → Prop) (s₁ s₂ : Shared) : Prop
  | mk (h' : Heap) (tk : Nat) (m₂ : Str → Option Value) (news₂ : List (Addr × Obj)) (q0 : s₂ = { s₁ with heap := h', toks := tk }) (q1 : Fr h₀ L h' m₂) (q2 : News h₀ L h' (own ++ news₂)) (q3 : ∀ p ∈ news₂, p.1 ∉ wr) (q4 : Jn m₂ news₂) : TurnN h₀ L wr own Jn s₁ s₂
/-- between two turns -/
inductive InvJ (s : Shared) (h₀ : Heap) (L : Addr) (wr : List Addr) (St : Nat → Heap → Prop) (J : Nat → (Str → Option Value) → List (Addr × Obj) → Prop) (n k : Nat) (s' : Shared) : Prop
  | mk (h' : Heap) (tk : Nat) (m' : Str → Option Value) (news' : List (Addr × Obj)) (i : Nat) (q0 : s' = { s with heap := h', toks := tk }) (q1 : St i h') (q2 : Fr h₀ L h' m') (q3 : News h₀ L h' news') (q4 : ∀ p ∈ news', p.1 ∉ wr) (q5 : J i m' news') (q6 : i ≤ n) (q7 : k = n + 1 - i) : InvJ s h₀ L wr St J n k s'
/-- what one turn leaves: on, out, or back with a value -/
noncomputable def TurnJ (h₀ : Heap) (L : Addr) (wr : List Addr) (own : List (Addr × Obj)) (Jn : (Str → Option Value) → List (Addr × Obj) → Prop) (Q : Flow → Shared → Prop) (s₁ : Shared) (f : Flow) (s₂ : Shared) : Prop :=
  match f with
  | .next | .cont => TurnN h₀ L wr own Jn s₁ s₂
  | .brk => Q .next s₂
  | .ret v => Q (.ret v) s₂

inductive LoopJ (prog : Program) (w : World) (A : Around) (h₀ : Heap) (env : Env) (target : Expr) (body : List Stmt) (Q : Flow → Shared → Prop) (it : Value) (s₂ : Shared) : Prop
  | mk (I : Addr) (fp wr : List Addr) (n : Nat) (P : Nat → Value → Prop) (St : Nat → Heap → Prop) (m : Str → Option Value) (news : List (Addr × Obj)) (J : Nat → (Str → Option Value) → List (Addr × Obj) → Prop) (q0 : it = .ref I) (q1 : Walks prog w A I fp wr n P St) (q2 : env.locals ∉ fp) (q3 : (∀ b ∈ wr, h₀.get? b = none)) (q4 : (∀ p ∈ news, p.1 ∉ wr)) (q5 : St 0 s₂.heap) (q6 : Fr h₀ env.locals s₂.heap m) (q7 : News h₀ env.locals s₂.heap news) (q8 : (∀ i (s' : Shared) v (Q' : Unit → Shared → Prop), St i s'.heap → Q' () s' → wpAny (model prog w) A (letOwnedTupleGo target (.ref I) v) Q' (fun _ _ => False) s')) (q9 : J 0 m news) (q10 : (∀ i v m₁ news₁ s₁ own, i < n → P i v → J i m₁ news₁ → (∀ p ∈ news₁, p.1 ∉ wr) → (∀ p ∈ own, p.1 ∈ fp) → (∀ b ∈ fp, h₀.get? b = none → ∀ o, s₁.heap.get? b = some o → (b, o) ∈ own) → St (i + 1) s₁.heap → (s₁.gens = s₂.gens ∧ s₁.drawn = s₂.drawn) → s₁.os = s₂.os → Fr h₀ env.locals s₁.heap m₁ → News h₀ env.locals s₁.heap (own ++ news₁) → wpAny (model prog w) A (assign target env v) (fun _ s₃ => wpAny (model prog w) A (execs body env) (TurnJ h₀ env.locals wr own (J (i + 1)) Q s₁) (fun _ _ => False) s₃) (fun _ _ => False) s₁)) (q11 : ∀ h' tk m' news', Fr h₀ env.locals h' m' → News h₀ env.locals h' news' → (∀ p ∈ news', p.1 ∉ wr) → J n m' news' → Q .next { s₂ with heap := h', toks := tk }) : LoopJ prog w A h₀ env target body Q it s₂

theorem codeJ {R : Result → Shared → Prop} {target : Expr} {body : List Stmt} {Q : Flow → Shared → Prop} {it : Value} (h : LoopJ prog w A h₀ env target body Q it s) (hQR : ∀ f s', Q f s' → R (.ok f) s') :
    codeAny (model prog w) A (.forLoop target it body [] env) R s := by
  obtain ⟨I, fp, wr, n, P, St, m, news, J, rfl, W, hLf, hwr, hnw, hst, F, N, hgo, h0, step, hR⟩ := h
  have hLw : env.locals ∉ wr := fun h => hLf (W.sub _ h)
  have old : ∀ b o, h₀.get? b = some o → b ∉ wr := fun b o e hb => by rw [hwr b hb] at e; cases e
  have nev : ∀ {α : Type} {t : Sem α} {Q' : α → Shared → Prop} {s' : Shared}, wpAny (model prog w) A t Q' (fun _ _ => False) s' → wpAny (model prog w) A t Q' (notedBy (model prog w) A env fun e s' => R (.error e) s') s' :=
    fun h => wpAny_noRaise h
  refine codeAny_forLoop_any
    (InvJ s h₀ env.locals wr St J n) ?_ (n + 1)
    ⟨s.heap, s.toks, m, news, 0, rfl, hst, F, N, hnw, h0, Nat.zero_le _, rfl⟩
  rintro k s' ⟨h', tk, m', news', i, rfl, hst', F', N', hnw', hJ, hi, rfl⟩
  have next : ∀ h₁ : Heap, (∀ b o, b ∉ wr → h'.get? b = some o → h₁.get? b = some o) → Fr h₀ env.locals h₁ m' ∧ News h₀ env.locals h₁ news' := fun h₁ hk₁ =>
    ⟨⟨F'.ns.at' fun o e => hk₁ _ o hLw e, fun b o e => hk₁ b o (old b o e) (F'.keep b o e), F'.above⟩, fun p hp => ⟨hk₁ _ _ (hnw' p hp) (N' p hp).1, (N' p hp).2⟩⟩
  by_cases hlt : i < n
  · refine W.item i _ _ _ hlt hst' fun v h₁ tk₁ hP hst₁ hk₁ => ?_
    obtain ⟨F₁, N₁⟩ := next h₁ hk₁
    have Nown : News h₀ env.locals h₁ (ownOf h₀ fp h₁) := news_ownOf hLf
    refine nev (hgo (i + 1) _ v _ hst₁ ?_)
    refine nev (wpAny_mono (step i v m' news' { s with heap := h₁, toks := tk₁ } (ownOf h₀ fp h₁) hlt hP hJ hnw' ownOf_sub (fun b hb hn o e => mem_ownOf hb hn e) hst₁ ⟨rfl, rfl⟩ rfl F₁ (Nown.append N₁))
      (fun _ s₂ h₂ => nev (wpAny_mono h₂ (fun f s₃ h₃ => ?_) fun _ _ e => e)) fun _ _ e => e)
    have on : TurnN h₀ env.locals wr (ownOf h₀ fp h₁) (J (i + 1)) { s with heap := h₁, toks := tk₁ } s₃ → ∃ k, k < n + 1 - i ∧ InvJ s h₀ env.locals wr St J n k s₃ := by
      rintro ⟨h₃', tk₃, m₂, news₂, rfl, F₃, N₃, ha₃, hJ₃⟩
      refine ⟨n + 1 - (i + 1), by omega, h₃', tk₃, m₂, news₂, i + 1, rfl, ?_, F₃, N₃.right, ha₃, hJ₃, hlt, rfl⟩
      refine W.frame _ _ _ hst₁ fun b hb o e => ?_
      cases hn : h₀.get? b with
      | some o₀ =>
        have : o₀ = o := by have := F₁.keep b o₀ hn; rw [e] at this; exact (Option.some.inj this).symm
        exact this ▸ F₃.keep b o₀ hn
      | none => exact (N₃ _ (List.mem_append_left _ (mem_ownOf hb hn e))).1
    cases f with
    | next => exact on h₃
    | cont => exact on h₃
    | brk => exact hQR _ _ h₃
    | ret v => exact hQR _ _ h₃
  · have hin : i = n := by omega
    subst hin
    refine W.done _ _ _ hst' fun h₁ tk₁ hk₁ => wpAny_execs_nil ?_
    obtain ⟨F₁, N₁⟩ := next h₁ hk₁
    exact hQR _ _ (hR h₁ tk₁ m' news' F₁ N₁ hnw' hJ)

theorem forJ {Q : Flow → Shared → Prop} {target iter : Expr} {pos : Pos} {body : List Stmt} (h₀ : Heap)
    (h : wpAny (model prog w) A (eval iter env) (fun xv s₁ => wpAny (model prog w) A (pyIter xv) (fun it s₂ => LoopJ prog w A h₀ env target body Q it s₂) (fun _ _ => False) s₁) (fun _ _ => False) s)
    (hs : ∀ x, foldedSetIterable iter env x = pure x) :
    wpAny (model prog w) A (exec (.For target iter body [] pos) env) Q (fun _ _ => False) s := by
  refine wpAny_For (wpAny_mono h (fun xv s₁ h₁ => wpAny_mono h₁ (fun it s₂ h₂ => ?_) fun _ _ e => e) fun _ _ e => e) hs
  exact codeJ h₂ fun _ _ q => q
end
end Mine

-- B2
namespace Mine
open PySem PySem.W PySem.Calls PyProof.Rows
set_option Elab.async false
set_option maxRecDepth 100000
/-- a statement's end: it goes on, in a state where P holds -/
noncomputable def After (P : Shared → Prop) (f : Flow) (s : Shared) : Prop := f = .next ∧ P s
/-- a value's end -/
noncomputable def Has (P : Value → Shared → Prop) (v : Value) (s : Shared) : Prop := P v s
section
variable {M : Model} {A : Around} {s : Shared} {env : Env} {Q : Flow → Shared → Prop} {E : Value → Shared → Prop}
theorem seqJ {st : Stmt} {rest : List Stmt} (P : Shared → Prop) (h1 : wpAny M A (exec st env) (After P) E s) (h2 : ∀ s', P s' → wpAny M A (execs rest env) Q E s') :
    wpAny M A (execs (st :: rest) env) Q E s :=
  wpAny_execs_cons (wpAny_mono h1 (fun f s' h => by obtain ⟨rfl, h⟩ := h; exact h2 s' h) fun _ _ e => e)
theorem lastJ {st : Stmt} (h1 : wpAny M A (exec st env) Q E s) : wpAny M A (execs [st] env) Q E s :=
  wpAny_execs_cons (wpAny_mono h1 (fun f s' h => by cases f <;> first | exact wpAny_execs_nil h | exact h) fun _ _ e => e)
end
/-- all but heap and tokens as it was -/
noncomputable def Same (s s' : Shared) : Prop := s'.gens = s.gens ∧ s'.drawn = s.drawn ∧ s'.os = s.os
theorem same_eq {s s' : Shared} (h : Same s s') : s' = { s with heap := s'.heap, toks := s'.toks } := by
  obtain ⟨a, b, c⟩ := h
  cases s'; cases s; simp only at a b c; subst a b c; rfl
noncomputable def Stopped (p : Prop) : Prop := p
theorem stopHere {p : Prop} (h : Stopped p) : p := h
theorem lk_cons {y k : Str} {v : Value} {r : List (Str × Value)} : List.lookup y ((k, v) :: r) = if y = k then some v else List.lookup y r := by
  rw [List.lookup_cons]
  by_cases h : y = k
  · subst h; simp
  · have : (y == k) = false := by simpa using h
    simp [this, h]
theorem lk_nil {y : Str} : List.lookup y ([] : List (Str × Value)) = none := rfl
theorem Fr.to {h₀ h : Heap} {L : Addr} {m m' : Str → Option Value} (F : Fr h₀ L h m) (e : ∀ y, m y = m' y) : Fr h₀ L h m' := (funext e : m = m') ▸ F
theorem News.sub {h₀ h : Heap} {L : Addr} {n n' : List (Addr × Obj)} (N : News h₀ L h n) (hs : ∀ p ∈ n', p ∈ n) : News h₀ L h n' := fun p hp => N p (hs p hp)
theorem paired_all {α β : Type} {F : α → β → Prop} {p : α → Bool} {l : List α} {r : List β} (h : Paired F (l.filter p) r) (hp : ∀ a, p a = true) : Paired F l r := by
  rwa [List.filter_eq_self.mpr (fun a _ => hp a)] at h
/-- the items of a made list, one by one -/
theorem ints_of_paired {g : Int → Int} {vs ys : List Value} {ns : List Int} (hi : IntsAre vs ns) (hp : Paired (fun v y => ∀ n t, v = .int n t → ∃ u, y = .int (g n) u) vs ys) : IntsAre ys (ns.map g) := by
  induction hi generalizing ys with
  | nil => cases hp; exact .nil
  | cons n t _ ih => cases hp with
    | cons h hp =>
      obtain ⟨u, rfl⟩ := h n t rfl
      exact .cons _ _ (ih hp)
theorem list_of_items {vs vs' : List Value} (hl : vs'.length = vs.length) (h : ∀ (j : Nat) (v : Value), vs'[j]? = some v → vs.toArray[j]? = some v) : vs' = vs := by
  apply List.ext_getElem hl
  intro i h1 h2
  have := h i vs'[i] (by simp [h1])
  simpa [h2] using this.symm
end Mine
open PySem PySem.W PySem.Calls PyProof.Rows Mine
local macro_rules | `(tactic| walk_at "execs nil") => `(tactic| refine wpAny_execs_nil ?_)
local macro_rules | `(tactic| walk_at "call ref") => `(tactic| refine stopHere ?_)
local macro_rules | `(tactic| walk_at "eval ListComp") => `(tactic| refine stopHere ?_)
local macro_rules | `(tactic| walk_at "call builtin:str.join") => `(tactic| refine stopHere ?_)
local macro_rules | `(tactic| walk_at "call type:enumerate") => `(tactic| refine stopHere ?_)

-- B3
namespace Mine
open PySem PySem.W PySem.Calls PyProof.Rows
set_option Elab.async false
set_option maxRecDepth 100000
section
variable {prog : Program} {w : World} {A : Around} {s : Shared} {env : Env} {h₀ : Heap} {Q : Value → Shared → Prop}

/-- what a comprehension wants of its iterator, and what it hands on -/
inductive CompJ (prog : Program) (w : World) (A : Around) (h₀ : Heap) (env : Env) (scope : Scope) (cl : List (Str × Addr)) (x : Str) (elt : Expr) (F : Value → Value → Prop) (Q : Value → Shared → Prop) (it : Value) (s₂ : Shared) : Prop
  | mk (I : Addr) (fp wr : List Addr) (n : Nat) (P : Nat → Value → Prop) (St : Nat → Heap → Prop) (m : Str → Option Value) (news : List (Addr × Obj)) (q0 : it = .ref I) (q1 : Walks prog w A I fp wr n P St) (q2 : n ≤ sizeLine) (q3 : St 0 s₂.heap) (q4 : (∀ b ∈ fp, b < s₂.heap.objs.size)) (q5 : Fr h₀ env.locals s₂.heap m) (q6 : News h₀ env.locals s₂.heap news) (q7 : (∀ b ∈ wr, h₀.get? b = none)) (q8 : env.locals ∉ wr) (q9 : (∀ p ∈ news, p.1 ∉ wr)) (q10 : (∀ C i v (s₃ : Shared) m₃, s₂.heap.objs.size ≤ C → P i v → s₃.heap.Ns C m₃ → m₃ x = some v → (∀ b o, b ∉ wr → s₂.heap.get? b = some o → s₃.heap.get? b = some o) → s₂.toks ≤ s₃.toks → wpAny (model prog w) A (eval elt (compEnvC scope cl C env)) (fun y s₄ => F v y ∧ Keeps s₃ s₄) (fun _ _ => False) s₃)) (q11 : (∀ D ys k (vs : List Value) h' tk, Fr h₀ env.locals h' m → News h₀ env.locals h' ((D, listOf ys k) :: news) → vs.length = n → (∀ (j : Nat) (v : Value), vs[j]? = some v → P j v) → Paired F vs ys.toList → Q (.ref D) { s₂ with heap := h', toks := tk })) : CompJ prog w A h₀ env scope cl x elt F Q it s₂

theorem compJ {elt iter : Expr} {x : Str} {px : Pos} {scope : Scope} {cl : List (Str × Addr)} {pos : Pos} (h₀ : Heap) (F : Value → Value → Prop)
    (hclos : closureFor scope env = pure cl) (hcell : ∀ y ∈ scope.names, y.2 ≠ .cell) (hkind : scope.kind = .function)
    (hnames : ∀ y ∈ scope.names, y.2 = .local → scope.names.lookup y.1 = some .local) (hx : scope.names.lookup x = some .local)
    (h : wpAny (model prog w) A (eval iter env) (fun xv s₁ => wpAny (model prog w) A (pyIter xv) (CompJ prog w A h₀ env scope cl x elt F Q) (fun _ _ => False) s₁) (fun _ _ => False) s)
    (hs : ∀ x, foldedSetIterable iter env x = pure x) :
    wpAny (model prog w) A (eval (.ListComp elt [⟨.Name x px, iter, [], 0⟩] scope pos) env) Q (fun _ _ => False) s := by
  refine wpAny_ListComp_free (fun _ => true) F hclos hcell hkind hnames hx (wpAny_mono h (fun xv s₁ h₁ => wpAny_mono h₁ (fun it s₂ h₂ => ?_) fun _ _ e => e) fun _ _ e => e) hs
  obtain ⟨I, fp, wr, n, P, St, m, news, rfl, W, hsz, hst, hfp, hF, hN, hwr, hLw, hnw, helt, hQ⟩ := h₂
  refine ⟨I, fp, wr, n, P, St, rfl, W, hsz, hst, hfp, ⟨fun C i v s₃ m₃ E' _ _ _ _ _ _ => ?_, fun C i v s₃ m₃ E' hC hP _ hn hm hk htk => ?_⟩, fun D h' tk ys vs hD hl hpl hlen hP hPd hk => ?_⟩
  · exact wpAny_pure ⟨rfl, s₃.heap, s₃.toks, rfl, fun _ _ e => e⟩
  · exact wpAny_noRaise (helt C i v s₃ m₃ hC hP hn hm hk htk)
  · obtain ⟨k, hk'⟩ := hpl
    have hDn : ∀ o, s₂.heap.get? D ≠ some o := fun o e => by rw [hD] at e; cases e
    have old : ∀ b o, h₀.get? b = some o → b ∉ wr := fun b o e hb => by rw [hwr b hb] at e; cases e
    refine hQ D ys k vs h' tk ⟨hF.ns.at' fun o e => hk _ o hLw e, fun b o e => hk b o (old b o e) (hF.keep b o e), hF.above⟩ (fun p hp => ?_) hlen hP (paired_all hPd fun _ => rfl)
    rcases List.mem_cons.mp hp with rfl | hp
    · refine ⟨hk', fun e => ?_, ?_⟩
      · obtain ⟨o, _, _, ho, _⟩ := hF.ns
        have e' : D = env.locals := e
        exact hDn o (by rw [e']; exact ho)
      · cases e : h₀.get? D with
        | none => rfl
        | some o => exact absurd (hF.keep _ _ e) (hDn o)
    · exact ⟨hk _ _ (hnw p hp) (hN p hp).1, (hN p hp).2⟩

/-- the same over a list in the ledger -/
theorem CompJ.list {x : Str} {elt : Expr} {scope : Scope} {cl : List (Str × Addr)} {F : Value → Value → Prop} {m : Str → Option Value} {news : List (Addr × Obj)} {l : Addr} {vs : List Value}
    (hh : A.handled = none) (hF : Fr h₀ env.locals s.heap m) (hN : News h₀ env.locals s.heap news) (hl : s.heap.IsList l vs.toArray) (hsz : vs.length ≤ sizeLine)
    (helt : ∀ C v (s₃ : Shared) m₃, s.heap.objs.size < C → v ∈ vs → s₃.heap.Ns C m₃ → m₃ x = some v → (∀ b o, s.heap.get? b = some o → s₃.heap.get? b = some o) → s.toks ≤ s₃.toks →
      wpAny (model prog w) A (eval elt (compEnvC scope cl C env)) (fun y s₄ => F v y ∧ Keeps s₃ s₄) (fun _ _ => False) s₃)
    (hQ : ∀ D ys k h' tk, Fr h₀ env.locals h' m → News h₀ env.locals h' ((D, listOf ys k) :: news) → Paired F vs ys.toList → Q (.ref D) { s with heap := h', toks := tk }) :
    wpAny (model prog w) A (pyIter (.ref l)) (CompJ prog w A h₀ env scope cl x elt F Q) (fun _ _ => False) s := by
  have hlt : l < s.heap.objs.size := by obtain ⟨o, ho, _⟩ := hl; exact Heap.lt_size ho
  refine wpAny_pyIter_list hl ?_
  refine ⟨s.heap.objs.size, _, _, vs.length, _, _, m, news, rfl, Walks.list hh s.heap.objs.size l (Nat.ne_of_lt hlt) vs.toArray, hsz, ⟨⟨_, Heap.get?_push_size _ rfl, rfl, rfl⟩, hl.at fun o e => Heap.get?_push_of_some _ e⟩, ?_, hF.push _, hN.pushKeep _, ?_, ?_, ?_, ?_, ?_⟩
  · intro b hb
    have hz : (s.heap.push { cls := .type "list_iterator", data := .fields #[.ref l, .int 0 0] }).objs.size = s.heap.objs.size + 1 := Heap.size_push ..
    show b < (s.heap.push { cls := .type "list_iterator", data := .fields #[.ref l, .int 0 0] }).objs.size
    rw [hz]
    rcases List.mem_cons.mp hb with rfl | hb
    · exact Nat.lt_succ_self _
    · rw [List.mem_singleton.mp hb]; exact Nat.lt_succ_of_lt hlt
  · intro b hb
    rw [List.mem_singleton.mp hb]
    exact hF.fresh
  · intro e
    exact absurd hF.ns.lt (List.mem_singleton.mp e ▸ Nat.lt_irrefl _)
  · intro p hp e
    exact absurd (Heap.lt_size (hN p hp).1) (List.mem_singleton.mp e ▸ Nat.lt_irrefl _)
  · intro C i v s₃ m₃ hC hP hn hm hk htk
    have hz : (s.heap.push { cls := .type "list_iterator", data := .fields #[.ref l, .int 0 0] }).objs.size = s.heap.objs.size + 1 := Heap.size_push ..
    refine helt C v s₃ m₃ ?_ ?_ hn hm (fun b o e => hk b o (fun hb => absurd (Heap.lt_size e) (List.mem_singleton.mp hb ▸ Nat.lt_irrefl _)) (Heap.get?_push_of_some _ e)) htk
    · have hC' : (s.heap.push { cls := .type "list_iterator", data := .fields #[.ref l, .int 0 0] }).objs.size ≤ C := hC
      rw [hz] at hC'
      exact hC'
    · have : vs[i]? = some v := by simpa using hP
      exact List.mem_of_getElem? this
  · intro D ys k vs' h' tk hF' hN' hlen hP hPd
    have := list_of_items hlen hP
    subst this
    exact hQ D ys k h' tk hF' hN' hPd
end
theorem ints_mem {v : Value} {vs : List Value} {ns : List Int} (hi : IntsAre vs ns) (h : v ∈ vs) : ∃ n t, v = .int n t := by
  induction hi with
  | nil => cases h
  | cons n t _ ih =>
    rcases List.mem_cons.mp h with rfl | h
    · exact ⟨n, t, rfl⟩
    · exact ih h
end Mine

-- F1
namespace Mine
open PySem PySem.W PySem.Calls PyProof.Rows
set_option Elab.async false
set_option maxRecDepth 100000
set_option maxHeartbeats 4000000
noncomputable def foldStep (ways : Int) (fs : List Int) (k : Int) : List Int := fs ++ [Int.fmod (Int.fdiv ways (2 ^ k.toNat)) 2] ++ fs.reverse.map fun f => 1 - f
noncomputable def foldsTo (ways low : Int) : Nat → List Int
  | 0 => []
  | i + 1 => foldStep ways (foldsTo ways low i) (low + i)
theorem foldsTo_length (ways low : Int) : ∀ i, (foldsTo ways low i).length + 1 = 2 ^ i
  | 0 => rfl
  | i + 1 => by
    have := foldsTo_length ways low i
    simp only [foldsTo, foldStep, List.length_append, List.length_map, List.length_reverse, List.length_cons, List.length_nil]
    rw [Nat.pow_succ]; omega
noncomputable def mFld (ways low : Int) (t1 t2 : Tok) (kv : Option Value) (l : Addr) : Str → Option Value := fun y =>
  if y = "k" then kv else if y = "folds" then some (.ref l) else if y = "ways" then some (.int ways t1) else if y = "low" then some (.int low t2) else none
inductive FldA (s : Shared) (L : Addr) (ways low : Int) (t1 t2 : Tok) (s' : Shared) : Prop
  | mk (h' : Heap) (tk : Nat) (l : Addr) (q0 : s' = { s with heap := h', toks := tk }) (q1 : Fr s.heap L h' (mFld ways low t1 t2 none l)) (q2 : News s.heap L h' [(l, listOf #[] 0)]) : FldA s L ways low t1 t2 s'
inductive FldB (s : Shared) (L : Addr) (ways low : Int) (t1 t2 : Tok) (s' : Shared) : Prop
  | mk (h' : Heap) (tk : Nat) (l : Addr) (vs : List Value) (kv : Option Value) (q0 : s' = { s with heap := h', toks := tk }) (q1 : Fr s.heap L h' (mFld ways low t1 t2 kv l)) (q2 : News s.heap L h' [(l, listOf (List.toArray vs) 0)]) (q3 : IntsAre vs (foldsTo ways low (6 - low).toNat)) : FldB s L ways low t1 t2 s'
inductive FldJ (ways low : Int) (t1 t2 : Tok) (i : Nat) (m : Str → Option Value) (news : List (Addr × Obj)) : Prop
  | mk (l : Addr) (vs : List Value) (kv : Option Value) (q0 : m = mFld ways low t1 t2 kv l) (q1 : news = [(l, listOf (List.toArray vs) 0)]) (q2 : IntsAre vs (foldsTo ways low i)) : FldJ ways low t1 t2 i m news
theorem fld {w : World} {A : Around} {s : Shared} {Q E : Value → Shared → Prop} {ways low : Int} {t1 t2 : Tok} (hx1 : 0 ≤ ways) (hx2 : ways < 1000000) (hl1 : 0 ≤ low) (hl2 : low ≤ 6) (G : Gd w s.heap) (hroom : A.depth < recursionLimit) (hu : A.units + 8 < cLine) (hh : A.handled = none)
   (h : ∀ l vs h' tk, Ext s.heap h' → h'.IsList l vs.toArray → IntsAre vs (foldsTo ways low (6 - low).toNat) → Q (.ref l) { s with heap := h', toks := tk }) :
   wpAny (model Challenge.rw_wa0026_01.row.prog w) A (call (.ref 82) [.int ways t1, .int low t2]) Q E s := by
  obtain ⟨hd0, dp, frs, gds, un⟩ := A
  simp only at hh hroom hu
  subst hh
  obtain ⟨X, mg, mb, T⟩ := G
  revert X
  k_fill
  intro X
  refine' callD (K := hd.heap_39 w.params) (binds := [("ways", .int ways t1), ("low", .int low t2)]) X T.nolimit hroom ?k1 ?k2 ?k3 ?k4 ?_ ?k5 ?k6 ?k7 ?k8
  case k1 => k_is
  case k2 => k_is
  case k3 => exact rfl
  case k4 => exact locs rfl
  case k5 => decide
  case k6 => exact rfl
  case k7 => exact rfl
  case k8 => exact rfl
  intro L h₁ F N
  (try dsimp only)
  refine seqJ (FldA s L ways low t1 t2) ?_ ?_
  · repeat' walk1
    exact ⟨rfl, _, _, _, rfl, Fr.to (by assumption) (by (intro y; simp only [List.reverse_cons, List.reverse_nil, List.nil_append, List.cons_append, lk_cons, lk_nil, mFld]; by_cases e1 : y = "k"; (subst e1; rfl); by_cases e2 : y = "folds"; (subst e2; rfl); by_cases e3 : y = "ways"; (subst e3; rfl); by_cases e4 : y = "low"; (subst e4; rfl); simp only [e1, e2, e3, e4, if_false])), by assumption⟩
  clear F N
  rintro _ ⟨h', tk, l, rfl, F, N⟩
  refine seqJ (FldB s L ways low t1 t2) ?_ ?_
  · refine forJ s.heap ?_ (fun _ => rfl)
    repeat' walk1
    rename_i h1 tk1 ta tb tc hR hF hN hE
    have hsz : h1.objs.size ≠ L := Nat.ne_of_gt hF.ns.lt
    have hfI : s.heap.get? h1.objs.size = none := hF.fresh
    refine wpAny_pyIter_range hR (small_one (by omega) (by omega) (by omega) (by omega)) ?_
    rw [rangeSize_nat]
    refine ⟨_, _, _, (6 - low).toNat, _, _, _, _, FldJ ways low t1 t2, rfl, Walks.range rfl h1.objs.size low 1 (6 - low).toNat, ?_, ?_, ?_, ?_, hF.push _, hN.pushKeep _, ?_, ⟨l, [], none, rfl, rfl, .nil⟩, ?_, ?_⟩
    · show L ∉ [h1.objs.size]
      simpa using fun e => hsz e.symm
    · intro b hb
      rw [List.mem_singleton.mp hb]
      exact hF.fresh
    · intro p hp
      exact fun e => absurd (Heap.lt_size (hN p hp).1) (List.mem_singleton.mp e ▸ Nat.lt_irrefl _)
    · simp only [Int.natCast_zero, Int.zero_mul, Int.add_zero, Int.sub_zero]
      exact Heap.get?_push_size _ rfl
    · intro i s' v Q' _ hq
      exact wpAny_pure hq
    · clear hR hF hN hE
      rintro i v _ _ s₁ own hi ⟨t, rfl⟩ ⟨l1, vs, kv, rfl, rfl, hI⟩ hw ho hin hst hg hos F N
      have hIn := hin _ (.head _) hfI _ hst
      have hlen := foldsTo_length ways low i
      have hpow : 2 ^ i ≤ 2 ^ 6 := Nat.pow_le_pow_right (by decide) (by omega)
      have hne : ∀ p ∈ own, p.1 ≠ l1 := fun p hp e => hw _ (.head _) (by rw [← e]; exact ho p hp)
      have N0 : News s.heap L s₁.heap ((l1, listOf (List.toArray vs) 0) :: own) := News.sub N fun p hp => by simpa [or_comm] using hp
      clear N
      replace F : Fr s.heap L s₁.heap (mFld ways low t1 t2 kv l1) := F
      repeat' walk1
      unfold Stopped
      refine compJ s.heap (fun v y => ∀ n t, v = .int n t → ∃ u, y = .int (1 - n) u) (cl := []) rfl (by decide) rfl (by decide) rfl ?_ (fun _ => rfl)
      repeat' walk1
      rename_i D1 ws1 h5 hI1 _ D2 ws2 h6 F6 N6 hI2 hC2 l6
      have hw2 : ws2.length ≤ 64 := by rw [hI2.length]; simp only [List.length_reverse]; omega
      refine CompJ.list rfl F6 N6 (News.isList N6 (.head _)) (by rw [sizeLine_eq]; omega) ?_ ?_
      · intro C v s₃ m₃ hC hv hn hm hk htk
        obtain ⟨n, u, rfl⟩ := ints_mem hI2 hv
        refine wpAny_BinOp (wpAny_Constant_int (wpAny_Name (wpAny_loadName_local rfl rfl hn hm (sub_int ?_)) (by decide)))
        exact ⟨fun n' t' e => by cases e; exact ⟨_, rfl⟩, _, _, rfl, fun _ _ e => e⟩
      intro D3 ys k3 h7 tk7 F7 N7 hP7
      have hI3 : IntsAre ys.toList ((foldsTo ways low i).reverse.map fun f => 1 - f) := ints_of_paired hI2 hP7
      replace F7 : Fr s.heap L h7 _ := F7
      replace N7 : News s.heap L h7 _ := N7
      refine add_arrays_ints (hsz := ?hsz) (its := List.toArray ws1) (its2 := ys) F7 N7 (News.isList N7 (.tail _ (.tail _ (.head _)))) (News.isList N7 (.head _)) hI1 hI3 (fun h8 F8 N8 hI8 => ?_)
      case hsz => rw [sizeLine_eq]; simp only [List.length_append, List.length_map, List.length_reverse, List.length_cons, List.length_nil]; omega
      have hfar : h7.objs.size ≠ h1.objs.size := Nat.ne_of_gt (Heap.lt_size (N7 _ (.tail _ (.tail _ (.tail _ (.tail _ (.tail _ hIn)))))).1)
      clear F7 N7 F6 N6
      repeat' walk1
      rename_i h9 F9 N9
      refine ⟨h9, _, mFld ways low t1 t2 (some (.int (low + (i : Nat) * 1) t)) h7.objs.size, [(h7.objs.size, listOf (List.toArray (ws1 ++ ys.toList)) 0)], rfl, Fr.to F9 (by (intro y; simp only [List.reverse_cons, List.reverse_nil, List.nil_append, List.cons_append, lk_cons, lk_nil, mFld]; by_cases e1 : y = "k"; (subst e1; rfl); by_cases e2 : y = "folds"; (subst e2; rfl); by_cases e3 : y = "ways"; (subst e3; rfl); by_cases e4 : y = "low"; (subst e4; rfl); simp only [e1, e2, e3, e4, if_false])), News.sub N9 ?_, ?_, ⟨h7.objs.size, ws1 ++ ys.toList, _, rfl, rfl, ?_⟩⟩
      · intro p hp
        rcases List.mem_append.mp hp with hp | hp
        · simp [hp]
        · rw [List.mem_singleton.mp hp]; exact .head _
      · intro p hp
        rw [List.mem_singleton.mp hp]
        exact fun e => hfar (List.mem_singleton.mp e)
      · simp only [foldsTo, foldStep]
        simpa using hI8
    · rintro h2 tk2 m2 news2 F2 N2 _ ⟨l1, vs, kv, rfl, rfl, hI⟩
      exact ⟨rfl, _, _, _, _, _, rfl, F2, N2, hI⟩
  clear F N
  rintro _ ⟨h', tk, l, vs, kv, rfl, F, N, hI⟩
  refine lastJ ?_
  repeat' walk1
  exact h _ _ _ _ F.keep (News.isList N (.head _)) hI
end Mine

-- B4
namespace Mine
open PySem PySem.W PySem.Calls PyProof.Rows
set_option Elab.async false
set_option maxRecDepth 100000
theorem lt5 {k : Nat} (h : k < 5) : k = 0 ∨ k = 1 ∨ k = 2 ∨ k = 3 ∨ k = 4 := (by decide : ∀ k < 5, k = 0 ∨ k = 1 ∨ k = 2 ∨ k = 3 ∨ k = 4) k h
theorem lt5i {k : Int} (h0 : 0 ≤ k) (h : k < 5) : k = 0 ∨ k = 1 ∨ k = 2 ∨ k = 3 ∨ k = 4 := by
  obtain ⟨n, rfl⟩ := Int.eq_ofNat_of_zero_le h0
  rcases lt5 (Int.ofNat_lt.mp h) with rfl | rfl | rfl | rfl | rfl <;> simp
theorem mod3 (n : Nat) : n % 3 = 0 ∨ n % 3 = 1 ∨ n % 3 = 2 := (by decide : ∀ k < 3, k = 0 ∨ k = 1 ∨ k = 2) _ (Nat.mod_lt _ (by decide))
theorem mod4 (n : Nat) : n % 4 = 0 ∨ n % 4 = 1 ∨ n % 4 = 2 ∨ n % 4 = 3 := (by decide : ∀ k < 4, k = 0 ∨ k = 1 ∨ k = 2 ∨ k = 3) _ (Nat.mod_lt _ (by decide))
theorem le_one {k : Nat} (h : k ≤ 1) : k = 0 ∨ k = 1 := (by decide : ∀ k < 2, k = 0 ∨ k = 1) k (Nat.lt_succ_of_le h)
/-- a text by its signs -/
noncomputable def ofL (l : List Nat) : Str := ⟨l.toArray⟩
theorem ofL_length (l : List Nat) : (ofL l).length = l.length := by simp [ofL, Str.length]
theorem ofL_append (a b : List Nat) : ofL a ++ ofL b = ofL (a ++ b) := by
  show Str.mk (a.toArray ++ b.toArray) = Str.mk (a ++ b).toArray
  simp
theorem ofL_of (x : Str) : ofL x.cps.toList = x := by cases x; simp [ofL]
theorem ofL_inj {a b : List Nat} (h : ofL a = ofL b) : a = b := by
  have := congrArg (fun s : Str => s.cps.toList) h
  simpa [ofL] using this
theorem ofL_eq_iff {a b : List Nat} : ofL a = ofL b ↔ a = b := ⟨ofL_inj, fun h => h ▸ rfl⟩
theorem ofL_beq (a b : List Nat) : (ofL a == ofL b) = decide (a = b) := by
  by_cases h : a = b
  · subst h; simp
  · have : ofL a ≠ ofL b := fun e => h (ofL_inj e)
    simp [this, h]
theorem item_ofL (l : List Nat) (i : Nat) (h : i < l.length) : Txt.item (ofL l) (i : Int) = ofL [l[i]] := by
  have e : seqIndex? (i : Int) (ofL l).length = some i := by
    rw [ofL_length]; unfold seqIndex?
    have h1 : ¬ ((i : Int) < 0) := by omega
    simp only [h1, if_false]
    have h2 : (decide (0 ≤ (i : Int)) && decide ((i : Int) < (l.length : Int))) = true := by simp; omega
    rw [if_pos h2]; simp
  unfold Txt.item Txt.charAt
  rw [e]
  simp [ofL, h]
theorem lit_quot : Str.ofString "\"" = ofL [34] := by decide
theorem lit_none : Str.ofString "" = ofL [] := by decide
theorem len_append (a b : Str) : (a ++ b).length = a.length + b.length := Str.length_append a b
section
variable {prog : Program} {w : World} {A : Around} {E : Value → Shared → Prop} {s : Shared} {value slice : PySem.Expr} {l a b : List Nat} {t u : Tok} {k : Nat} {Q : Value → Shared → Prop}
theorem itemL (h : k < l.length) (hz : l.length ≤ 16777216) (hq : Q (.str (ofL [l[k]]) s.toks) { s with toks := s.toks + 1 })
    (hs : subscripted slice false (.str (ofL l) t) (.int k u) = operate [.str (ofL l) t, .int k u] (getItem (.str (ofL l) t) (.int k u)))
    (ht : ∀ r, letTemporaryGo value (.str (ofL l) t) r = pure ()) :
    wpAny (model prog w) A (subscriptTail value slice (.str (ofL l) t) (.int k u)) Q E s := by
  have hl := ofL_length l
  refine item_str (fitsSsize_of (N := 9223372036854775808) (by omega) (by omega) (Int.le_refl _)) (by omega) (by omega) (fun _ => ?_) hs ht
  rw [item_ofL l k h]
  exact hq
theorem addL (hz : a.length + b.length ≤ 16777216) (hq : ∀ t' tk, Q (.str (ofL (a ++ b)) t') { s with toks := tk }) :
    wpAny (model prog w) A (binaryOp .Add (.str (ofL a) t) (.str (ofL b) u)) Q E s := by
  refine PyProof.Rows.add_str (fun t' tk => ?_) ?_
  · rw [ofL_append]; exact hq t' tk
  · rw [ofL_length, ofL_length, sizeLine_eq]; exact hz
end
end Mine

-- F2
namespace Mine
open PySem PySem.W PySem.Calls PyProof.Rows
set_option Elab.async false
set_option maxRecDepth 100000
set_option maxHeartbeats 4000000
noncomputable def maskTo (sg : List Nat) (st rs : Int) : Nat → List Nat × Bool
  | 0 => ([], true)
  | i + 1 =>
    ((maskTo sg st rs i).1 ++ (if ((Int.fmod ((i : Int) + 1) st == rs) == (maskTo sg st rs i).2) = true then [] else [34]) ++ [sg.getD i 0], Int.fmod ((i : Int) + 1) st == rs)
noncomputable def maskF (sg : List Nat) (st rs : Int) : List Nat :=
  if (maskTo sg st rs sg.length).2 = true then (maskTo sg st rs sg.length).1 else (maskTo sg st rs sg.length).1 ++ [34]
theorem maskTo_length (sg : List Nat) (st rs : Int) : ∀ i, (maskTo sg st rs i).1.length ≤ 2 * i
  | 0 => Nat.le_refl _
  | i + 1 => by
    have := maskTo_length sg st rs i
    simp only [maskTo]
    split <;> simp only [List.length_append, List.length_cons, List.length_nil] <;> omega
noncomputable def mMsk (sg : List Nat) (st rs : Int) (t1 t2 t3 : Tok) (pv bv : Option Value) (tx : List Nat) (tt : Tok) (sh : Bool) : Str → Option Value := fun y =>
  if y = "text" then some (.str (ofL tx) tt) else if y = "shown" then some (.bool sh) else if y = "signs" then some (.str (ofL sg) t1) else if y = "step" then some (.int st t2) else if y = "rest" then some (.int rs t3)
  else if y = "place" then pv else if y = "bare" then bv else none
inductive MskA (s : Shared) (L : Addr) (sg : List Nat) (st rs : Int) (t1 t2 t3 : Tok) (s' : Shared) : Prop
  | mk (h' : Heap) (tk : Nat) (tt : Tok) (q0 : s' = { s with heap := h', toks := tk }) (q1 : Fr s.heap L h' (mMsk sg st rs t1 t2 t3 none none [] tt true)) : MskA s L sg st rs t1 t2 t3 s'
inductive MskB (s : Shared) (L : Addr) (sg : List Nat) (st rs : Int) (t1 t2 t3 : Tok) (s' : Shared) : Prop
  | mk (h' : Heap) (tk : Nat) (pv bv : Option Value) (tt : Tok) (q0 : s' = { s with heap := h', toks := tk }) (q1 : Fr s.heap L h' (mMsk sg st rs t1 t2 t3 pv bv (maskTo sg st rs sg.length).1 tt (maskTo sg st rs sg.length).2)) : MskB s L sg st rs t1 t2 t3 s'
inductive MskJ (sg : List Nat) (st rs : Int) (t1 t2 t3 : Tok) (i : Nat) (m : Str → Option Value) (news : List (Addr × Obj)) : Prop
  | mk (pv bv : Option Value) (tt : Tok) (q0 : m = mMsk sg st rs t1 t2 t3 pv bv (maskTo sg st rs i).1 tt (maskTo sg st rs i).2) (q1 : news = []) : MskJ sg st rs t1 t2 t3 i m news
theorem msk {w : World} {A : Around} {s : Shared} {Q E : Value → Shared → Prop} {sg : List Nat} {st rs : Int} {t1 t2 t3 : Tok} (hx1 : sg.length ≤ 1000) (hx2 : 0 < st) (hx3 : st < 1000) (G : Gd w s.heap) (hroom : A.depth < recursionLimit) (hu : A.units + 8 < cLine) (hh : A.handled = none)
   (h : ∀ h' t tk, Ext s.heap h' → Q (.str (ofL (maskF sg st rs)) t) { s with heap := h', toks := tk }) :
   wpAny (model Challenge.rw_wa0026_01.row.prog w) A (call (.ref 89) [.str (ofL sg) t1, .int st t2, .int rs t3]) Q E s := by
  obtain ⟨hd0, dp, frs, gds, un⟩ := A
  simp only at hh hroom hu
  subst hh
  obtain ⟨X, mg, mb, T⟩ := G
  revert X
  k_fill
  intro X
  refine' callD (K := hd.heap_39 w.params) (binds := [("signs", .str (ofL sg) t1), ("step", .int st t2), ("rest", .int rs t3)]) X T.nolimit hroom ?k1 ?k2 ?k3 ?k4 ?_ ?k5 ?k6 ?k7 ?k8
  case k1 => k_is
  case k2 => k_is
  case k3 => exact rfl
  case k4 => exact locs rfl
  case k5 => decide
  case k6 => exact rfl
  case k7 => exact rfl
  case k8 => exact rfl
  intro L h₁ F N
  (try dsimp only)
  refine seqJ (MskA s L sg st rs t1 t2 t3) ?_ ?_
  · repeat' (first | ((with_reducible show wpAny _ _ (binaryOp Operator.Add (Value.str _ _) (Value.str _ _)) _ _ _); ((try simp only [lit_quot, lit_none]); refine' addL ?hz ?_; (case hz => ((simp only [List.length_append, List.length_cons, List.length_nil]); omega)); intro _ _)) | ((with_reducible show wpAny _ _ (subscriptTail (Expr.Name _ _) (Expr.Name _ _) (Value.str _ _) (Value.int _ _)) _ _ _); (refine' itemL ?hk ?hz ?_ (by with_unfolding_all rfl) (by intro _; with_unfolding_all rfl); (case hk => assumption); (case hz => omega))) | walk1)
    exact ⟨rfl, _, _, _, rfl, Fr.to (by assumption) (by (intro y; simp only [List.reverse_cons, List.reverse_nil, List.nil_append, List.cons_append, lk_cons, lk_nil, mMsk]; by_cases e1 : y = "text"; (subst e1; rfl); by_cases e2 : y = "shown"; (subst e2; rfl); by_cases e3 : y = "signs"; (subst e3; rfl); by_cases e4 : y = "step"; (subst e4; rfl); by_cases e5 : y = "rest"; (subst e5; rfl); by_cases e6 : y = "place"; (subst e6; rfl); by_cases e7 : y = "bare"; (subst e7; rfl); simp only [e1, e2, e3, e4, e5, e6, e7, if_false]))⟩
  clear F N
  rintro _ ⟨h', tk, tt, rfl, F⟩
  have N : News s.heap L h' [] := News.nil
  have hlen : (ofL sg).length ≤ 1000 := by rw [ofL_length]; exact hx1
  refine seqJ (MskB s L sg st rs t1 t2 t3) ?_ ?_
  · refine forJ s.heap ?_ (fun _ => rfl)
    repeat' (first | ((with_reducible show wpAny _ _ (binaryOp Operator.Add (Value.str _ _) (Value.str _ _)) _ _ _); ((try simp only [lit_quot, lit_none]); refine' addL ?hz ?_; (case hz => ((simp only [List.length_append, List.length_cons, List.length_nil]); omega)); intro _ _)) | ((with_reducible show wpAny _ _ (subscriptTail (Expr.Name _ _) (Expr.Name _ _) (Value.str _ _) (Value.int _ _)) _ _ _); (refine' itemL ?hk ?hz ?_ (by with_unfolding_all rfl) (by intro _; with_unfolding_all rfl); (case hk => assumption); (case hz => omega))) | walk1)
    rename_i h1 tk1 ta tb tc hR hF hN hE
    have hsz : h1.objs.size ≠ L := Nat.ne_of_gt hF.ns.lt
    have hfI : s.heap.get? h1.objs.size = none := hF.fresh
    refine wpAny_pyIter_range hR (small_one (by omega) (by omega) (by omega) (by omega)) ?_
    rw [rangeSize_nat]
    simp only [Int.sub_zero, Int.toNat_natCast, ofL_length]
    refine ⟨_, _, _, sg.length, _, _, _, _, MskJ sg st rs t1 t2 t3, rfl, Walks.range rfl h1.objs.size 0 1 sg.length, ?_, ?_, ?_, ?_, hF.push _, hN.pushKeep _, ?_, ⟨none, none, tt, rfl, rfl⟩, ?_, ?_⟩
    · show L ∉ [h1.objs.size]
      simpa using fun e => hsz e.symm
    · intro b hb
      rw [List.mem_singleton.mp hb]
      exact hF.fresh
    · intro p hp
      exact fun e => absurd (Heap.lt_size (hN p hp).1) (List.mem_singleton.mp e ▸ Nat.lt_irrefl _)
    · simp only [Int.natCast_zero, Int.zero_mul, Int.add_zero, Int.sub_zero]
      exact Heap.get?_push_size _ rfl
    · intro i s' v Q' _ hq
      exact wpAny_pure hq
    · clear hR hF hN hE
      rintro i v _ _ s₁ own hi ⟨t, rfl⟩ ⟨pv, bv, tt, rfl, rfl⟩ hw ho hin hst hg hos F N
      replace F : Fr s.heap L s₁.heap _ := F
      replace N : News s.heap L s₁.heap own := News.sub N fun p hp => List.mem_append_left _ hp
      have hl := maskTo_length sg st rs i
      have hgd : sg.getD i 0 = sg[i] := by simp [List.getD, hi]
      simp only [Int.mul_one, Int.zero_add] at *
      repeat' (first | ((with_reducible show wpAny _ _ (binaryOp Operator.Add (Value.str _ _) (Value.str _ _)) _ _ _); ((try simp only [lit_quot, lit_none]); refine' addL ?hz ?_; (case hz => ((simp only [List.length_append, List.length_cons, List.length_nil]); omega)); intro _ _)) | ((with_reducible show wpAny _ _ (subscriptTail (Expr.Name _ _) (Expr.Name _ _) (Value.str _ _) (Value.int _ _)) _ _ _); (refine' itemL ?hk ?hz ?_ (by with_unfolding_all rfl) (by intro _; with_unfolding_all rfl); (case hk => assumption); (case hz => omega))) | walk1)
      · rename_i hc t8 tk8 t9 tk9 h8 h9 F9 N9
        have e1 : maskTo sg st rs (i + 1) = ((maskTo sg st rs i).1 ++ [] ++ [sg[i]], Int.fmod ((i : Int) + 1) st == rs) := by
          simp only [maskTo]; rw [hc, hgd]; rfl
        refine ⟨h9, _, mMsk sg st rs t1 t2 t3 (some (.int (i : Int) t)) (some (.bool (Int.fmod ((i : Int) + 1) st == rs))) ((maskTo sg st rs i).1 ++ [] ++ [sg[i]]) t9 (Int.fmod ((i : Int) + 1) st == rs), [], rfl, Fr.to F9 (by (intro y; simp only [List.reverse_cons, List.reverse_nil, List.nil_append, List.cons_append, lk_cons, lk_nil, mMsk]; by_cases e1 : y = "text"; (subst e1; rfl); by_cases e2 : y = "shown"; (subst e2; rfl); by_cases e3 : y = "signs"; (subst e3; rfl); by_cases e4 : y = "step"; (subst e4; rfl); by_cases e5 : y = "rest"; (subst e5; rfl); by_cases e6 : y = "place"; (subst e6; rfl); by_cases e7 : y = "bare"; (subst e7; rfl); simp only [e1, e2, e3, e4, e5, e6, e7, if_false])), News.sub N9 (fun p hp => by simpa using hp), (fun p hp => nomatch hp), ⟨_, _, _, by rw [e1], rfl⟩⟩
      · rename_i hc t8 tk8 t9 tk9 h8 h9 F9 N9
        have e1 : maskTo sg st rs (i + 1) = ((maskTo sg st rs i).1 ++ [34] ++ [sg[i]], Int.fmod ((i : Int) + 1) st == rs) := by
          simp only [maskTo]; rw [hc, hgd]; rfl
        refine ⟨h9, _, mMsk sg st rs t1 t2 t3 (some (.int (i : Int) t)) (some (.bool (Int.fmod ((i : Int) + 1) st == rs))) ((maskTo sg st rs i).1 ++ [34] ++ [sg[i]]) t9 (Int.fmod ((i : Int) + 1) st == rs), [], rfl, Fr.to F9 (by (intro y; simp only [List.reverse_cons, List.reverse_nil, List.nil_append, List.cons_append, lk_cons, lk_nil, mMsk]; by_cases e1 : y = "text"; (subst e1; rfl); by_cases e2 : y = "shown"; (subst e2; rfl); by_cases e3 : y = "signs"; (subst e3; rfl); by_cases e4 : y = "step"; (subst e4; rfl); by_cases e5 : y = "rest"; (subst e5; rfl); by_cases e6 : y = "place"; (subst e6; rfl); by_cases e7 : y = "bare"; (subst e7; rfl); simp only [e1, e2, e3, e4, e5, e6, e7, if_false])), News.sub N9 (fun p hp => by simpa using hp), (fun p hp => nomatch hp), ⟨_, _, _, by rw [e1], rfl⟩⟩
    · rintro h2 tk2 m2 news2 F2 N2 _ ⟨pv, bv, tt, rfl, rfl⟩
      exact ⟨rfl, _, _, _, _, _, rfl, F2⟩
  clear F N
  rintro _ ⟨h', tk, pv, bv, tt, rfl, F⟩
  have N : News s.heap L h' [] := News.nil
  refine lastJ ?_
  have hl := maskTo_length sg st rs sg.length
  have hff := F.keep
  repeat' (first | ((with_reducible show wpAny _ _ (binaryOp Operator.Add (Value.str _ _) (Value.str _ _)) _ _ _); ((try simp only [lit_quot, lit_none]); refine' addL ?hz ?_; (case hz => ((simp only [List.length_append, List.length_cons, List.length_nil]); omega)); intro _ _)) | ((with_reducible show wpAny _ _ (subscriptTail (Expr.Name _ _) (Expr.Name _ _) (Value.str _ _) (Value.int _ _)) _ _ _); (refine' itemL ?hk ?hz ?_ (by with_unfolding_all rfl) (by intro _; with_unfolding_all rfl); (case hk => assumption); (case hz => omega))) | walk1)
  · rename_i hc
    have e : maskF sg st rs = (maskTo sg st rs sg.length).1 := by simp [maskF, hc]
    exact e ▸ h h' tt tk hff
  · rename_i hc t9 tk9
    have e : maskF sg st rs = (maskTo sg st rs sg.length).1 ++ [34] := by simp [maskF, hc]
    exact e ▸ h h' t9 tk9 hff
end Mine

-- B5
namespace Mine
open PySem PySem.W PySem.Calls PyProof.Rows
set_option Elab.async false
set_option maxRecDepth 100000
section
variable {M : Model} {A : Around} {s : Shared} {env : Env} {Q : Flow → Shared → Prop} {E : Value → Shared → Prop}
theorem seqT {st : Stmt} {rest : List Stmt} (P : Shared → Prop) (hn : 1 ≤ s.toks) (h1 : wpAny M A (exec st env) (After P) E s) (h2 : ∀ s', 1 ≤ s'.toks → P s' → wpAny M A (execs rest env) Q E s') :
    wpAny M A (execs (st :: rest) env) Q E s :=
  wpAny_execs_cons (wpAny_mono (wpAny_toks_of hn h1) (fun f s' h => by obtain ⟨ht, rfl, h⟩ := h; exact h2 s' ht h) fun _ _ e => e.2)
end
/-- one sign written anew -/
noncomputable def rep (c : Nat) (z l : List Nat) : List Nat := l.flatMap fun a => if a = c then z else [a]
theorem rep_free {c : Nat} {z : List Nat} : ∀ {l : List Nat}, c ∉ l → rep c z l = l
  | [], _ => rfl
  | a :: r, h => by
    have h1 : ¬ a = c := fun e => h (e ▸ List.mem_cons_self ..)
    have h2 : c ∉ r := fun m => h (List.mem_cons_of_mem _ m)
    have ih := rep_free (z := z) h2
    unfold rep at ih ⊢
    rw [List.flatMap_cons, if_neg h1, ih]; rfl
theorem rep_append (c : Nat) (z a b : List Nat) : rep c z (a ++ b) = rep c z a ++ rep c z b := by unfold rep; rw [List.flatMap_append]
theorem rep_length {c : Nat} {z : List Nat} {k : Nat} (hk : 1 ≤ k) (hz : z.length ≤ k) : ∀ l : List Nat, (rep c z l).length ≤ k * l.length
  | [] => Nat.le_refl _
  | a :: r => by
    have ih := rep_length (c := c) hk hz r
    unfold rep at ih ⊢
    rw [List.flatMap_cons, List.length_append, List.length_cons, Nat.mul_succ]
    split
    · omega
    · simp only [List.length_cons, List.length_nil]; omega
theorem rep_join (c : Nat) (z : List Nat) : ∀ parts : List Str, (∀ p ∈ parts, c ∉ p.cps.toList) → rep c z (Str.join (ofL [c]) parts).cps.toList = (Str.join (ofL z) parts).cps.toList
  | [], _ => rfl
  | [p], h => rep_free (h p (List.mem_singleton.mpr rfl))
  | p :: q :: r, h => by
    have ih := rep_join c z (q :: r) fun a ha => h a (List.mem_cons_of_mem _ ha)
    show rep c z (p ++ ofL [c] ++ Str.join (ofL [c]) (q :: r)).cps.toList = (p ++ ofL z ++ Str.join (ofL z) (q :: r)).cps.toList
    simp only [Str.cps_append, Array.toList_append]
    rw [rep_append, rep_append, ih, rep_free (h p (List.mem_cons_self ..))]
    have : rep c z (ofL [c]).cps.toList = (ofL z).cps.toList := by simp [rep, ofL]
    rw [this]
theorem replace_ofL (c : Nat) (z l : List Nat) : Txt.replace (ofL l) (ofL [c]) (ofL z) = ofL (rep c z l) := by
  have h1 := StrLaws.replace_one (ofL l) (ofL z) c
  have h2 := rep_join c z _ (StrLaws.split_free (ofL l) c)
  have e : (⟨#[c]⟩ : Str) = ofL [c] := rfl
  rw [e] at h1 h2
  rw [StrLaws.join_split] at h2
  have h3 := ofL_of (Txt.replace (ofL l) (ofL [c]) (ofL z))
  rw [← h3, h1, ← h2]
  simp [ofL]
theorem in_ofL (c : Nat) (l : List Nat) : (!(Builtin.Str.occurrences (ofL l) (ofL [c]) 0 (ofL l).length 1).isEmpty) = decide (c ∈ l) := by
  have := StrLaws.found_one (ofL l) c
  have e : (⟨#[c]⟩ : Str) = ofL [c] := rfl
  rw [e] at this
  rw [this]
  have e2 : (ofL l).cps.toList = l := by simp [ofL]
  exact e2 ▸ rfl
section
variable {prog : Program} {w : World} {A : Around} {E : Value → Shared → Prop} {s : Shared} {l z : List Nat} {c : Nat} {y y' : Str} {t u v : Tok} {Q : Value → Shared → Prop}
theorem replaceL (hy : y = ofL [c]) (hy' : y' = ofL z) (hu : u ≠ 0) (hv : v ≠ 0) (huv : u ≠ v) (hcz : (ofL [c] == ofL z) = false) (hl : l.length ≤ 1000000) (hz : z.length ≤ 14) (hq : ∀ t' k, Q (.str (ofL (rep c z l)) t') { s with toks := k }) :
    wpAny (model prog w) A (call (.builtin "str.replace") [.str (ofL l) t, .str y u, .str y' v]) Q E s := by
  subst hy hy'
  refine SC.replaceW hu hv huv hcz (by rw [ofL_length]; omega) (by rw [ofL_length]; exact hz) fun t' k => ?_
  rw [replace_ofL]
  exact hq t' k
theorem inL (hy : y = ofL [c]) (hq : Q (.bool (decide (c ∈ l))) s) : wpAny (model prog w) A (compareOp .In (.str y u) (.str (ofL l) t)) Q E s := by
  subst hy
  refine PyProof.Rows.in_str ?_
  rw [in_ofL]
  exact hq
end
theorem l_amp : Str.ofString "&" = ofL [38] := by decide
theorem l_lt : Str.ofString "<" = ofL [60] := by decide
theorem l_gt : Str.ofString ">" = ofL [62] := by decide
theorem l_q : Str.ofString "\"" = ofL [34] := by decide
theorem l_cr : Str.ofString "\r" = ofL [13] := by decide
theorem l_nl : Str.ofString "\n" = ofL [10] := by decide
theorem l_tab : Str.ofString "\t" = ofL [9] := by decide
noncomputable def cAmp : List Nat := [38, 97, 109, 112, 59]
noncomputable def cLt : List Nat := [38, 108, 116, 59]
noncomputable def cGt : List Nat := [38, 103, 116, 59]
noncomputable def cQ : List Nat := [38, 113, 117, 111, 116, 59]
noncomputable def cCr : List Nat := [38, 35, 49, 51, 59]
noncomputable def cNl : List Nat := [38, 35, 49, 48, 59]
noncomputable def cTab : List Nat := [38, 35, 48, 57, 59]
noncomputable def xCr : List Nat := [38, 35, 120, 68, 59]
noncomputable def xNl : List Nat := [38, 35, 120, 65, 59]
noncomputable def xTab : List Nat := [38, 35, 120, 57, 59]
theorem l_cAmp : Str.ofString "&amp;" = ofL cAmp := by decide
theorem l_cLt : Str.ofString "&lt;" = ofL cLt := by decide
theorem l_cGt : Str.ofString "&gt;" = ofL cGt := by decide
theorem l_cQ : Str.ofString "&quot;" = ofL cQ := by decide
theorem l_cCr : Str.ofString "&#13;" = ofL cCr := by decide
theorem l_cNl : Str.ofString "&#10;" = ofL cNl := by decide
theorem l_cTab : Str.ofString "&#09;" = ofL cTab := by decide
theorem l_xCr : Str.ofString "&#xD;" = ofL xCr := by decide
theorem l_xNl : Str.ofString "&#xA;" = ofL xNl := by decide
theorem l_xTab : Str.ofString "&#x9;" = ofL xTab := by decide
end Mine

-- B6
namespace Mine
open PySem PySem.W PySem.Calls PyProof.Rows
set_option Elab.async false
set_option maxRecDepth 100000
theorem callDC {w : World} {A : Around} {s : Shared} {K : Frag} {Q E : Value → Shared → Prop}
   {name qual : Str} {params : Arguments} {body : List Stmt} {scope : Scope} {dV kV doc pm cdv ct oc : Value} {an od : Option Addr} {osl : Array (Option Value)} {f : Addr} {args : List Value} {binds : List (Str × Value)}
   (X : K.In s.heap) (hl : s.heap.NoLimit) (hroom : A.depth < recursionLimit)
   (ho : K.lookup f = some ⟨oc, od, .func (fnOf name qual params body scope dV kV doc pm an cdv ct), osl⟩) (hcd : codeIn K cdv qual = true)
   (hbind : bindArgs (fnOf name qual params body scope dV kV doc pm an cdv ct) ⟨args, []⟩ = pure binds)
   (hkind : (binds.all fun y => scope.names.lookup y.1 == some .local || scope.names.lookup y.1 == some .cell) = true)
   (hnd : ((cellsFrom 0 scope.names []).map (·.1)).Nodup)
   (h : ∀ L h₁ tk cells, Fr s.heap L h₁ (bindL (envOfC qual scope L f cdv).kindOf binds fun _ => none) → News s.heap L h₁ cells →
      CellsAre (bindC (envOfC qual scope L f cdv).kindOf binds fun _ => none) (cellsFrom (L + 1) scope.names []) cells →
      wpAny (model PP w) (A.deeper (envOfC qual scope L f cdv)) (execs body (envOfC qual scope L f cdv))
        (fun fl s' => Q (match fl with | .ret v => v | _ => .none) s') (fun _ _ => False)
        { s with heap := h₁, toks := tk })
   (hco : scope.isCoroutine = false) (hgen : scope.isGenerator = false) (hk : scope.kind = .function) :
   wpAny (model PP w) A (call (.ref f) args) Q E s := by
  refine wpAny_call (codeAny_call_function (fd := fnOf name qual params body scope dV kV doc pm an cdv ct) hroom (X _ _ ho) rfl hco hgen rfl (codeRec_of X hcd) (BindsTo.of_eq hbind _ _ _ _ ?_))
  refine wpAny_newFunctionEnv_cells hk (kindsX hkind _) fun env' he s' x => ?_
  subst he
  refine ⟨hl.keeps x.toInCall.keep, codeAny_func ?_⟩
  obtain ⟨h₁, tk, rfl, _⟩ := x.done
  have hk₁ := x.toInCall.keep
  obtain ⟨cells, NC, Y⟩ := Cl.news (h₀ := s.heap) (Nat.le_refl _) fun n c hm => ⟨x.cell n c (lookup_of_mem_nodup (cellsFrom_names scope.names 0 (s.heap.objs.size + 1) [] [] rfl ▸ hnd) hm), x.above n c hm⟩
  exact wpAny_mono (h s.heap.objs.size h₁ tk cells ⟨x.toInCall.ns, hk₁, Nat.le_refl _⟩ NC Y) (fun fl s' q => q) (fun _ _ q => q.elim)
end Mine

-- B7
namespace Mine
open PySem PySem.W PySem.Calls PyProof.Rows
set_option Elab.async false
set_option maxRecDepth 100000
/-- keys and values of a written table of texts, the keys of one sign -/
inductive Lits : List (Option PySem.Expr) → List PySem.Expr → List (Nat × List Nat) → Prop
  | nil : Lits [] [] []
  | cons {k v : Str} {i j : Nat} {p q : Pos} {ks : List (Option PySem.Expr)} {vs : List PySem.Expr} {c : Nat} {z : List Nat} {D : List (Nat × List Nat)} (hk : k = ofL [c]) (hv : v = ofL z) (r : Lits ks vs D) :
      Lits (some (.Constant (.str k) i p) :: ks) (.Constant (.str v) j q :: vs) ((c, z) :: D)
inductive LVals : List (Value × Value) → List (Nat × List Nat) → Prop
  | nil : LVals [] []
  | cons {c : Nat} {z : List Nat} {t u : Tok} {vs : List (Value × Value)} {D : List (Nat × List Nat)} (r : LVals vs D) : LVals ((.str (ofL [c]) t, .str (ofL z) u) :: vs) ((c, z) :: D)
noncomputable def encD (D : List (Nat × List Nat)) : List (PyData × PyData) := D.map fun p => (.str (ofL [p.1]), .str (ofL p.2))
theorem LVals.keys {vs D} (h : LVals vs D) : allStrKeys vs = true := by
  induction h with
  | nil => rfl
  | cons _ ih => exact ih
theorem LVals.flat {vs D} (h : LVals vs D) : PyProof.V.FlatPairs PyData.str (strPairs vs) (encD D) := by
  induction h with
  | nil => exact .nil
  | cons _ ih => exact .cons (PyProof.V.Flat.str _ _) ih
theorem LVals.names {vs D} (h : LVals vs D) : (strPairs vs).map (·.1) = D.map fun p => ofL [p.1] := by
  induction h with
  | nil => rfl
  | cons _ ih => exact congrArg (_ :: ·) ih
theorem Lits.lengths {ks vs D} (h : Lits ks vs D) : ks.length = vs.length ∧ ks.all (·.isSome) = true ∧ ks.length = D.length := by
  induction h with
  | nil => exact ⟨rfl, rfl, rfl⟩
  | cons _ _ _ r => exact ⟨congrArg (· + 1) r.1, r.2.1, congrArg (· + 1) r.2.2⟩
theorem nodup_keys {D : List (Nat × List Nat)} (h : (D.map (·.1)).Nodup) : (D.map fun p => ofL [p.1]).Nodup := by
  have e : (D.map fun p => ofL [p.1]) = (D.map (·.1)).map fun c => ofL [c] := by rw [List.map_map]; rfl
  rw [e]
  refine List.Pairwise.map _ (fun a b hab he => hab ?_) h
  have := ofL_inj he
  simpa using this
section
variable {prog : Program} {w : World} {A : Around} {s : Shared} {env : Env} {E : Value → Shared → Prop} {h₀ : Heap} {L : Addr} {m : Str → Option Value} {news : List (Addr × Obj)}
theorem evalLits {pos : Pos} {keys : List (Option PySem.Expr)} {values : List PySem.Expr} {D : List (Nat × List Nat)} {s : Shared} {Q : List (Value × Value) → Shared → Prop} (h : Lits keys values D) (hq : ∀ vs tk, LVals vs D → Q vs { s with toks := tk }) :
    wpAny (model prog w) A (evalPairs (pairTrees keys values env pos)) Q E s := by
  induction h generalizing s Q with
  | nil => exact pairTrees_nil_walk (hq [] s.toks .nil)
  | cons hk hv _ ih =>
    subst hk hv
    exact pairTrees_cons_walk (Constant_str (Constant_str (ih fun vs tk hv => hq _ tk (.cons hv))))
abbrev TabL (w : World) (h : Heap) (d : Addr) (D : List (Nat × List Nat)) : Prop := TabAt (strKind PP w) PyData.str h d (encD D)
noncomputable def TabO (w : World) (o : Obj) (D : List (Nat × List Nat)) : Prop := ∃ kvs, o.IsDictOf (strKind PP w) kvs ∧ PyProof.V.FlatPairs PyData.str kvs (encD D)
theorem TabO.at {w : World} {h : Heap} {d : Addr} {o : Obj} {D : List (Nat × List Nat)} (T : TabO w o D) (N : News h₀ L h news) (hp : (d, o) ∈ news) (lo : (d == sysModules) = false) : TabL w h d D :=
  let ⟨_, a, b⟩ := T; TabAt.ofNews N hp lo a b
theorem dictL {keys : List (Option PySem.Expr)} {values : List PySem.Expr} {pos : Pos} {D : List (Nat × List Nat)} {Q : Value → Shared → Prop} (hL : Lits keys values D) (h0 : D ≠ []) (hlen : D.length ≤ 15) (hnd : (D.map (·.1)).Nodup)
    (F : Fr h₀ L s.heap m) (N : News h₀ L s.heap news) (hlow : sysModules < h₀.objs.size)
    (hQ : ∀ o h' tk, Fr h₀ L h' m → News h₀ L h' ((s.heap.objs.size, o) :: news) → (s.heap.objs.size == sysModules) = false → TabO w o D → Q (.ref s.heap.objs.size) { s with heap := h', toks := tk }) :
    wpAny (model PP w) A (eval (.Dict keys values pos) env) Q E s := by
  obtain ⟨l1, l2, l3⟩ := hL.lengths
  have hk0 : keys ≠ [] := fun e => h0 (List.length_eq_zero_iff.mp (by rw [← l3, e]; rfl))
  refine wpAny_Dict_walk (knd := strKind PP w) l2 l1 hk0 (by omega) (evalLits hL fun vs tk hv => ?_)
  refine display_done_str hv.keys (by rw [hv.names]; exact nodup_keys hnd) (Heap.DictOf.new _) fun h' hm hs => ?_
  have hs' : Heap.SameBut s.heap.objs.size (s.heap.push { cls := .type "dict", data := .dict #[] }) h' := hs
  obtain ⟨o, ho, hd⟩ := Heap.dictOf_iff.mp hm
  have F' : Fr h₀ L h' m := F.filled hs'
  have N' : News h₀ L h' ((s.heap.objs.size, o) :: news) := N.filled F hs' ho
  exact hQ o h' _ F' N' (F.notModules hlow) ⟨_, hd, hv.flat⟩
end
theorem lookupD (D : List (Nat × List Nat)) (c : Nat) : PySem.Spec.lookup (.str (ofL [c])) (encD D) = (D.lookup c).map fun z => PyData.str (ofL z) := by
  induction D with
  | nil => rfl
  | cons p r ih =>
    obtain ⟨c', z⟩ := p
    have e : encD ((c', z) :: r) = (PyData.str (ofL [c']), PyData.str (ofL z)) :: encD r := rfl
    rw [e, List.lookup_cons]
    unfold PySem.Spec.lookup
    rw [PyProof.V.same_str]
    by_cases h : c = c'
    · subst h
      simp
    · have h1 : (c == c') = false := by simpa using h
      have h2 : ofL [c'] ≠ ofL [c] := fun x => h (by have := ofL_inj x; simpa using this.symm)
      simp only [h1, h2, decide_false, Bool.false_eq_true, if_false]
      exact ih
/-- glued without a sign between -/
theorem join_ofL : ∀ ls : List (List Nat), Str.join (ofL []) (ls.map ofL) = ofL ls.flatten
  | [] => rfl
  | [x] => by simp [Str.join]
  | x :: y :: r => by
    have ih := join_ofL (y :: r)
    show ofL x ++ ofL [] ++ Str.join (ofL []) ((y :: r).map ofL) = _
    rw [ih, ofL_append, ofL_append]
    simp
section
variable {prog : Program} {w : World} {A : Around} {E : Value → Shared → Prop} {s : Shared}
theorem joinL {D : Addr} {vs : List Value} {ls : List (List Nat)} {y : Str} {t : Tok} {B : Nat} {Q : Value → Shared → Prop} (hy : y = ofL []) (hl : s.heap.IsList D vs.toArray) (hv : Paired (fun v l => ∃ u, v = .str (ofL l) u) vs ls)
    (hB : ∀ l ∈ ls, l.length ≤ B) (hz : ls.length * B ≤ 16777216) (hq : ∀ t' k, Q (.str (ofL ls.flatten) t') { s with toks := k }) :
    wpAny (model prog w) A (call (.builtin "str.join") [.str y t, .ref D]) Q E s := by
  subst hy
  have hp : ∃ ps : List (Str × Tok), strValues ps = vs ∧ ps.map (·.1) = ls.map ofL := by
    clear hl hB hz hq
    induction hv with
    | nil => exact ⟨[], rfl, rfl⟩
    | cons h _ ih =>
      obtain ⟨u, rfl⟩ := h
      obtain ⟨ps, h1, h2⟩ := ih
      exact ⟨(_, u) :: ps, by rw [← h1]; rfl, by rw [List.map_cons, h2]; rfl⟩
  obtain ⟨ps, rfl, h2⟩ := hp
  have hfit : JoinOk (ofL []) (ls.map ofL) = true := by
    unfold JoinOk
    rw [StrLaws.joinFits (B := B) (sep := ofL []) (texts := ls.map ofL)]
    · rfl
    · intro y hy
      obtain ⟨l, hl, rfl⟩ := List.mem_map.mp hy
      rw [ofL_length]; exact hB l hl
    · rw [List.length_map, ofL_length]; simpa using hz
  refine SC.join hl h2 hfit fun t' k => ?_
  have e : Txt.join (ofL []) (ls.map ofL) = ofL ls.flatten := by
    unfold Txt.join
    rw [StrLaws.glued_eq_join, join_ofL]
  rw [e]
  exact hq t' k
end
theorem v_amp : Str.ofString "amp;" = ofL [97, 109, 112, 59] := by decide
theorem v_lt : Str.ofString "lt;" = ofL [108, 116, 59] := by decide
theorem v_gt : Str.ofString "gt;" = ofL [103, 116, 59] := by decide
theorem v_q : Str.ofString "quot;" = ofL [113, 117, 111, 116, 59] := by decide
theorem v_13 : Str.ofString "#13;" = ofL [35, 49, 51, 59] := by decide
theorem v_10 : Str.ofString "#10;" = ofL [35, 49, 48, 59] := by decide
theorem v_09 : Str.ofString "#09;" = ofL [35, 48, 57, 59] := by decide
theorem v_xD : Str.ofString "#xD;" = ofL [35, 120, 68, 59] := by decide
theorem v_xA : Str.ofString "#xA;" = ofL [35, 120, 65, 59] := by decide
theorem v_x9 : Str.ofString "#x9;" = ofL [35, 120, 57, 59] := by decide
noncomputable def tab : Nat → List (Nat × List Nat)
  | 0 => [(38, [97, 109, 112, 59]), (60, [108, 116, 59]), (62, [103, 116, 59])]
  | 1 => [(38, [97, 109, 112, 59]), (60, [108, 116, 59]), (62, [103, 116, 59]), (34, [113, 117, 111, 116, 59]), (13, [35, 49, 51, 59]), (10, [35, 49, 48, 59]), (9, [35, 48, 57, 59])]
  | 2 => [(38, [97, 109, 112, 59]), (62, [103, 116, 59]), (34, [113, 117, 111, 116, 59])]
  | 3 => [(38, [97, 109, 112, 59]), (60, [108, 116, 59]), (62, [103, 116, 59]), (13, [35, 120, 68, 59])]
  | _ => [(38, [97, 109, 112, 59]), (60, [108, 116, 59]), (34, [113, 117, 111, 116, 59]), (13, [35, 120, 68, 59]), (10, [35, 120, 65, 59]), (9, [35, 120, 57, 59])]
/-- one sign as the escape writes it -/
noncomputable def wcode (hand c : Nat) : List Nat := match (tab hand).lookup c with
  | some z => 38 :: z
  | none => [c]
end Mine

-- B8
namespace Mine
open PySem PySem.W PySem.Calls PyProof.Rows
set_option Elab.async false
set_option maxRecDepth 100000
section
variable {prog : Program} {w : World} {A : Around} {s : Shared} {env : Env} {h₀ : Heap} {Q : Value → Shared → Prop}
/-- over the signs of a text -/
theorem CompJ.str {x : Str} {elt : PySem.Expr} {scope : Scope} {cl : List (Str × Addr)} {m : Str → Option Value} {news : List (Addr × Obj)} {l : List Nat} {t : Tok} (g : Nat → List Nat)
    (hh : A.handled = none) (hF : Fr h₀ env.locals s.heap m) (hN : News h₀ env.locals s.heap news) (hsz : l.length ≤ sizeLine)
    (helt : ∀ C c u (s₃ : Shared) m₃, c ∈ l → s₃.heap.Ns C m₃ → m₃ x = some (.str (ofL [c]) u) → (∀ b o, s.heap.get? b = some o → s₃.heap.get? b = some o) → s.toks ≤ s₃.toks →
      wpAny (model prog w) A (eval elt (compEnvC scope cl C env)) (fun y s₄ => (∃ u', y = .str (ofL (g c)) u') ∧ Keeps s₃ s₄) (fun _ _ => False) s₃)
    (hQ : ∀ D ys k h' tk, Fr h₀ env.locals h' m → News h₀ env.locals h' ((D, listOf ys k) :: news) → Paired (fun v l => ∃ u, v = .str (ofL l) u) ys.toList (l.map g) → Q (.ref D) { s with heap := h', toks := tk }) :
    wpAny (model prog w) A (pyIter (.str (ofL l) t)) (CompJ prog w A h₀ env scope cl x elt (fun v y => ∀ c u, v = .str (ofL [c]) u → ∃ u', y = .str (ofL (g c)) u') Q) (fun _ _ => False) s := by
  refine wpAny_pyIter_str fun o St hW h0 => ?_
  have hsz' : (ofL l).cps.size = l.length := by simp [ofL]
  have hat : ∀ i v, SignAt (ofL l) i v → ∃ c u, l[i]? = some c ∧ v = .str (ofL [c]) u := fun i v ⟨c, u, hc, hv⟩ => ⟨c, u, by simpa [ofL] using hc, hv⟩
  have W := hW A hh
  rw [hsz'] at W
  refine ⟨s.heap.objs.size, _, _, l.length, _, _, m, news, rfl, W, hsz, h0, ?_, hF.push _, hN.pushKeep _, ?_, ?_, ?_, ?_, ?_⟩
  · intro b hb
    have hz : (s.heap.push o).objs.size = s.heap.objs.size + 1 := Heap.size_push ..
    show b < (s.heap.push o).objs.size
    rw [hz, List.mem_singleton.mp hb]
    exact Nat.lt_succ_self _
  · intro b hb
    rw [List.mem_singleton.mp hb]
    exact hF.fresh
  · intro e
    exact absurd hF.ns.lt (List.mem_singleton.mp e ▸ Nat.lt_irrefl _)
  · intro p hp e
    exact absurd (Heap.lt_size (hN p hp).1) (List.mem_singleton.mp e ▸ Nat.lt_irrefl _)
  · intro C i v s₃ m₃ hC hP hn hm hk htk
    obtain ⟨c, u, hc, rfl⟩ := hat i v hP
    refine wpAny_mono (helt C c u s₃ m₃ (List.mem_of_getElem? hc) hn hm (fun b o e => hk b o (fun hb => absurd (Heap.lt_size e) (List.mem_singleton.mp hb ▸ Nat.lt_irrefl _)) (Heap.get?_push_of_some _ e)) htk) (fun y s₄ h₄ => ⟨fun c' u' e => ?_, h₄.2⟩) fun _ _ e => e
    injection e with e1 e2
    have := ofL_inj e1
    have e3 : c = c' := by simpa using this
    exact e3 ▸ h₄.1
  · intro D ys k vs' h' tk hF' hN' hlen hP hPd
    refine hQ D ys k h' tk hF' hN' ?_
    have key : ∀ (vs : List Value) (l' : List Nat) (zs : List Value), vs.length = l'.length → (∀ (j : Nat) (v : Value), vs[j]? = some v → ∃ c u, l'[j]? = some c ∧ v = .str (ofL [c]) u) →
        Paired (fun v y => ∀ c u, v = .str (ofL [c]) u → ∃ u', y = .str (ofL (g c)) u') vs zs → Paired (fun v l => ∃ u, v = .str (ofL l) u) zs (l'.map g) := by
      intro vs l' zs hl hj hp
      induction hp generalizing l' with
      | nil => cases l' with
        | nil => exact .nil
        | cons _ _ => simp at hl
      | cons h _ ih => cases l' with
        | nil => simp at hl
        | cons c r =>
          obtain ⟨c', u, hc, hv⟩ := hj 0 _ rfl
          have : c = c' := by simpa using hc
          subst this
          exact .cons (h c u hv) (ih r (by simpa using hl) fun j v hv => by have := hj (j + 1) v (by simpa using hv); simpa using this)
    exact key vs' l ys.toList hlen (fun j v hv => hat j v (hP j v hv)) hPd
end
/-- an item of a list at a place -/
theorem listAt {prog : Program} {w : World} {A : Around} {E : Value → Shared → Prop} {s : Shared} {value slice : PySem.Expr} {l : Addr} {vs : List Value} {k : Int} {u : Tok} {v : Value} {Q : Value → Shared → Prop}
    (hl : s.heap.IsList l vs.toArray) (h0 : 0 ≤ k) (hhi : k < 2 ^ 63) (hx : vs[k.toNat]? = some v) (h : Q v s)
    (hs : subscripted slice false (.ref l) (.int k u) = operate [.ref l, .int k u] (getItem (.ref l) (.int k u)))
    (ht : ∀ r, letTemporaryGo value (.ref l) r = pure ()) :
    wpAny (model prog w) A (subscriptTail value slice (.ref l) (.int k u)) Q E s :=
  subscriptTail_builtin hl.typeIs slot_list_getitem.lookup (wpAny_getItem_list hl h0 hhi (by simpa using hx) h) hs ht
end Mine

-- B9
namespace Mine
open PySem PySem.W PySem.Calls PyProof.Rows
set_option Elab.async false
set_option maxRecDepth 100000
theorem News.apartD {h₀ h : Heap} {L a b : Addr} {o o' : Obj} {n n' : List (Addr × Obj)} (N : News h₀ L h n) (N' : News h₀ L h n') (hm : (a, o) ∈ n) (hm' : (b, o') ∈ n') (hd : o.data ≠ o'.data) : a ≠ b := fun e => by
  have h1 := (N _ hm).1
  have h2 := (N' _ hm').1
  have e' : a = b := e
  subst e'
  have : o = o' := Option.some.inj (h1.symm.trans h2)
  exact hd (this ▸ rfl)
theorem TabO.notCell {w : World} {o o' : Obj} {D : List (Nat × List Nat)} {v : Option Value} (T : TabO w o D) (hd : o'.data = .cell v) : o.data ≠ o'.data := by
  obtain ⟨kvs, ⟨es, ep, _, h, _⟩, _⟩ := T
  rw [h, hd]; exact fun e => nomatch e
/-- a cell is filled: all else stays -/
theorem storeCell {M : Model} {A : Around} {E : Value → Shared → Prop} {s : Shared} {env : Env} {h₀ : Heap} {c : Addr} {m : Str → Option Value} {rest : List (Addr × Obj)} {o : Obj} {v₀ : Option Value} {x : Str} {v : Value} {Q : Unit → Shared → Prop}
    (F : Fr h₀ env.locals s.heap m) (NC : News h₀ env.locals s.heap [(c, o)]) (N : News h₀ env.locals s.heap rest) (hne : ∀ p ∈ rest, p.1 ≠ c) (hd : o.data = .cell v₀)
    (hk : env.scope.kind = .function) (hx : env.kindOf x = some .cell) (hc : env.cells.lookup x = some c)
    (h : ∀ h' o' tk, Fr h₀ env.locals h' m → News h₀ env.locals h' ((c, o') :: rest) → o'.data = .cell (some v) → Q () { s with heap := h', toks := tk }) :
    wpAny M A (storeName env x v) Q E s := by
  have hm := NC _ (.head _)
  refine wpAny_storeName_cell hk hx hc ⟨o, hm.1, hd⟩ fun h' hv hs => ?_
  obtain ⟨o', ho', hd'⟩ := hv
  refine h h' o' s.toks ⟨F.ns.sameBut hs (Ne.symm hm.2.1), fun b ob e => (hs.2 b (fun q => ?_)).trans (F.keep b ob e), F.above⟩ (fun p hp => ?_) hd'
  · have := hm.2.2; rw [q] at e; exact absurd (this.symm.trans e) (fun z => nomatch z)
  · rcases List.mem_cons.mp hp with rfl | hp
    · exact ⟨ho', hm.2⟩
    · exact ⟨(hs.2 _ (hne p hp)).trans (N p hp).1, (N p hp).2⟩
open PyProof.V in
theorem item_strTabT {prog : Program} {w : World} {A : Around} {E : Value → Shared → Prop} {s : Shared} {value slice : PySem.Expr} {d : Addr} {D : List (PyData × PyData)} {x : Str} {t : Tok} {dv : PyData} {ops : List Value} {Q : Value → Shared → Prop}
    (T : StrTab prog w s.heap d D) (hl : PySem.Spec.lookup (.str x) D = some dv) (h : ∀ v, PyProof.V.Flat v dv → Q v { s with toks := s.toks + 1 })
    (hs : subscripted slice false (.ref d) (.str x t) = operate ops (getItem (.ref d) (.str x t))) :
    wpAny (model prog w) A (subscriptTail value slice (.ref d) (.str x t)) Q E s := by
  obtain ⟨lo, kvs, hd, hf⟩ := T
  obtain ⟨v, hv, hfl⟩ := hf.of_lookup same_str hl
  exact tail_any hd.typeIs slot_dict_getitem.lookup (wpAny_getItem_of (strKind_is prog w x t) hd.mapOf hv (h v hfl)) hs
end Mine

-- F3
namespace Mine
open PySem PySem.W PySem.Calls PyProof.Rows
set_option Elab.async false
set_option maxRecDepth 100000
set_option maxHeartbeats 4000000
local macro_rules | `(tactic| walk_at "storeName") => `(tactic| refine stopHere ?_)
local macro_rules | `(tactic| walk_at "mine lit") => `(tactic| first | exact l_amp | exact l_lt | exact l_gt | exact l_q | exact l_cr | exact l_nl | exact l_tab | exact v_amp | exact v_lt | exact v_gt | exact v_q | exact v_13 | exact v_10 | exact v_09 | exact v_xD | exact v_xA | exact v_x9)
local macro_rules | `(tactic| walk_at "mine lits") => `(tactic| first | exact Lits.nil | (refine' Lits.cons ?lk ?lv ?lr; (case lk => walk_at "mine lit"); (case lv => walk_at "mine lit"); (case lr => walk_at "mine lits")))
local macro_rules | `(tactic| walk_at "eval Dict") => `(tactic| (refine' dictL ?dL ?d0 ?dl ?dn ?dF ?dN ?dlow ?_; (case dL => walk_at "mine lits"); (case d0 => exact List.cons_ne_nil _ _); (case dl => decide); (case dn => decide); (case dF => assumption); (case dN => assumption); (case dlow => assumption); intro o' h' tk' F' N' lo' T'))
inductive WrtS (w : World) (h₀ : Heap) (L : Addr) (l : List Nat) (hand : Int) (t t2 : Tok) (s s' : Shared) : Prop
  | mk (h' : Heap) (tk : Nat) (o1 o2 : Obj) (c0 c1 c2 c3 c4 : Addr) (e0 e1 e2 e3 e4 : Obj) (nl : Addr) (m : Str → Option Value) (q0 : s' = { s with heap := h', toks := tk }) (q1 : Fr h₀ L h' m) (q2 : m "signs" = some (.str (ofL l) t))
    (q3 : News h₀ L h' [(L + 1 + 1, o1), (L + 1, o2), (nl, listOf #[.ref c0, .ref c1, .ref c2, .ref c3, .ref c4] 0), (c0, e0), (c1, e1), (c2, e2), (c3, e3), (c4, e4)])
    (q4 : o1.data = .cell (some (.ref nl))) (q5 : o2.data = .cell (some (.int hand t2))) (q6 : (c0 == sysModules) = false) (q7 : (c1 == sysModules) = false) (q8 : (c2 == sysModules) = false) (q9 : (c3 == sysModules) = false) (q10 : (c4 == sysModules) = false)
    (q11 : TabO w e0 (tab 0)) (q12 : TabO w e1 (tab 1)) (q13 : TabO w e2 (tab 2)) (q14 : TabO w e3 (tab 3)) (q15 : TabO w e4 (tab 4)) : WrtS w h₀ L l hand t t2 s s'
theorem seq_notCell {its : Array Value} {k : Nat} {o' : Obj} {v : Option Value} (hd : o'.data = .cell v) : (listOf its k).data ≠ o'.data := by rw [hd]; exact fun e => nomatch e
theorem tab_len {h c : Nat} {z : List Nat} (e : (tab h).lookup c = some z) : z.length ≤ 5 := by
  have hm : (c, z) ∈ tab h := by
    revert e
    generalize tab h = D
    induction D with
    | nil => intro e; cases e
    | cons p r ih =>
      obtain ⟨c', z'⟩ := p
      intro e
      rw [List.lookup_cons] at e
      by_cases q : (c == c') = true
      · rw [q] at e
        have q' : c = c' := by simpa using q
        injection e with e; subst e q'; exact .head _
      · have q' : (c == c') = false := by simpa using q
        rw [q'] at e
        exact .tail _ (ih e)
  have all : ∀ h, ∀ p ∈ tab h, p.2.length ≤ 5 := fun h => by
    match h with
    | 0 => decide
    | 1 => decide
    | 2 => decide
    | 3 => decide
    | n + 4 => exact (by decide : ∀ p ∈ tab 4, p.2.length ≤ 5)
  exact all h _ hm
theorem wcode_len (h c : Nat) : (wcode h c).length ≤ 6 := by
  unfold wcode
  cases e : (tab h).lookup c with
  | none => simp
  | some z => have := tab_len e; simp only [List.length_cons]; omega
theorem wrtStore {w : World} {M : Model} {A : Around} {E : Value → Shared → Prop} {s : Shared} {env : Env} {h₀ : Heap} {c b nl c0 c1 c2 c3 c4 : Addr} {m : Str → Option Value} {o o2 e0 e1 e2 e3 e4 : Obj} {v₀ : Option Value} {x : Str} {v : Value} {its : Array Value} {k : Nat} {D0 D1 D2 D3 D4 : List (Nat × List Nat)} {Q : Unit → Shared → Prop}
    (F : Fr h₀ env.locals s.heap m) (N : News h₀ env.locals s.heap [(nl, listOf its k), (c4, e4), (c3, e3), (c2, e2), (c1, e1), (c0, e0), (c, o), (b, o2)]) (hcb : b ≠ c)
    (T0 : TabO w e0 D0) (T1 : TabO w e1 D1) (T2 : TabO w e2 D2) (T3 : TabO w e3 D3) (T4 : TabO w e4 D4) (hd : o.data = .cell v₀)
    (hk : env.scope.kind = .function) (hx : env.kindOf x = some .cell) (hc : env.cells.lookup x = some c)
    (h : ∀ h' o' tk, Fr h₀ env.locals h' m → News h₀ env.locals h' [(c, o'), (b, o2), (nl, listOf its k), (c0, e0), (c1, e1), (c2, e2), (c3, e3), (c4, e4)] → o'.data = .cell (some v) → Q () { s with heap := h', toks := tk }) :
    wpAny M A (storeName env x v) Q E s := by
  have hm : (c, o) ∈ [(nl, listOf its k), (c4, e4), (c3, e3), (c2, e2), (c1, e1), (c0, e0), (c, o), (b, o2)] := by simp
  refine storeCell F (News.sub N fun p hp => by rw [List.mem_singleton.mp hp]; exact hm) (rest := [(b, o2), (nl, listOf its k), (c0, e0), (c1, e1), (c2, e2), (c3, e3), (c4, e4)]) (News.sub N fun p hp => by simp only [List.mem_cons, List.not_mem_nil, or_false] at hp ⊢; rcases hp with h | h | h | h | h | h | h <;> simp [h]) ?_ hd hk hx hc h
  intro p hp
  simp only [List.mem_cons, List.not_mem_nil, or_false] at hp
  rcases hp with rfl | rfl | rfl | rfl | rfl | rfl | rfl
  · exact hcb
  · exact News.apartD N N (.head _) hm (seq_notCell hd)
  · exact News.apartD N N (by simp) hm (T0.notCell hd)
  · exact News.apartD N N (by simp) hm (T1.notCell hd)
  · exact News.apartD N N (by simp) hm (T2.notCell hd)
  · exact News.apartD N N (by simp) hm (T3.notCell hd)
  · exact News.apartD N N (by simp) hm (T4.notCell hd)
theorem wrt {w : World} {A : Around} {s : Shared} {Q E : Value → Shared → Prop} {l : List Nat} {hand : Int} {t t2 : Tok} (hx : l.length ≤ 100) (h0 : 0 ≤ hand) (h5 : hand < 5) (G : Gd w s.heap) (hroom : A.depth < recursionLimit) (hu : A.units + 8 < cLine) (hh : A.handled = none)
   (h : ∀ h' t tk, Ext s.heap h' → Q (.str (ofL (l.flatMap (wcode hand.toNat))) t) { s with heap := h', toks := tk }) :
   wpAny (model Challenge.rw_wa0026_01.row.prog w) A (call (.ref 94) [.str (ofL l) t, .int hand t2]) Q E s := by
  obtain ⟨hd0, dp, frs, gds, un⟩ := A
  simp only at hh hroom hu
  subst hh
  obtain ⟨X, mg, mb, T⟩ := G
  revert X
  k_fill
  intro X
  have hlow : sysModules < s.heap.objs.size := modules_low T.nolimit
  refine' callDC (K := hd.heap_39 w.params) (binds := [("signs", .str (ofL l) t), ("hand", .int hand t2)]) X T.nolimit hroom ?k1 ?k2 ?k3 ?k4 ?k5 ?_ ?k6 ?k7 ?k8
  case k1 => k_is
  case k2 => k_is
  case k3 => exact rfl
  case k4 => exact rfl
  case k5 => decide +kernel
  case k6 => exact rfl
  case k7 => exact rfl
  case k8 => exact rfl
  intro L h₁ tk cells F N Y
  k_cells Y
  (try dsimp only)
  with_reducible refine seqJ (WrtS w s.heap L l hand t t2 s) ?_ ?_
  · repeat' walk1
    rename_i oC oH d1 d2 e0 hA tA lo0 T0 e1 hB tB lo1 T1 e2 hC tC lo2 T2 e3 hD tD lo3 T3 e4 hE tE lo4 T4 nl hF F1 N1 _
    unfold Stopped
    have d2' : oH.data = .cell (some (.int hand t2)) := d2
    refine wrtStore F1 N1 (Nat.ne_of_lt (Nat.lt_succ_self _)) T0 T1 T2 T3 T4 d1 rfl rfl rfl fun h' o' tk' F2 N2 hd2 => ?_
    exact ⟨rfl, h', _, o', oH, _, _, _, _, _, e0, e1, e2, e3, e4, nl, _, rfl, F2, rfl, N2, hd2, d2', lo0, lo1, lo2, lo3, lo4, T0, T1, T2, T3, T4⟩
  clear F N
  rintro _ ⟨h', tk', o1, o2, c0, c1, c2, c3, c4, e0, e1, e2, e3, e4, nl, m, rfl, F, hms, N, hd1, hd2, lo0, lo1, lo2, lo3, lo4, T0, T1, T2, T3, T4⟩
  with_reducible refine lastJ ?_
  have hpick : ∃ d e, ([.ref c0, .ref c1, .ref c2, .ref c3, .ref c4] : List Value)[hand.toNat]? = some (.ref d) ∧ (d, e) ∈ [(L + 1 + 1, o1), (L + 1, o2), (nl, listOf #[.ref c0, .ref c1, .ref c2, .ref c3, .ref c4] 0), (c0, e0), (c1, e1), (c2, e2), (c3, e3), (c4, e4)] ∧ (d == sysModules) = false ∧ TabO w e (tab hand.toNat) := by
    have := lt5i h0 h5
    rcases this with rfl | rfl | rfl | rfl | rfl
    · exact ⟨c0, e0, rfl, by simp, lo0, T0⟩
    · exact ⟨c1, e1, rfl, by simp, lo1, T1⟩
    · exact ⟨c2, e2, rfl, by simp, lo2, T2⟩
    · exact ⟨c3, e3, rfl, by simp, lo3, T3⟩
    · exact ⟨c4, e4, rfl, by simp, lo4, T4⟩
  obtain ⟨d, e, hpk, hpm, hplo, hpT⟩ := hpick
  walk1
  walk1
  walk1
  walk1
  walk1
  walk1
  refine compJ s.heap (fun v y => ∀ c u, v = .str (ofL [c]) u → ∃ u', y = .str (ofL (wcode hand.toNat c)) u') (cl := _) rfl (by decide) rfl (by decide) rfl ?_ (fun _ => rfl)
  refine wpAny_Name (wpAny_loadName_local rfl rfl F.ns hms ?_) (by decide)
  refine CompJ.str (wcode hand.toNat) rfl F N (by rw [sizeLine_eq]; omega) ?_ ?_
  · intro C c u s₃ m₃ hc hn hm hk htk
    have N₃ : News s.heap L s₃.heap _ := News.grown N hk
    have hl₃ := News.isList N₃ (a := nl) (.tail _ (.tail _ (.head _)))
    have hT₃ := hpT.at N₃ hpm hplo
    refine wpAny_IfExp (wpAny_isTrue_Compare1 (wpAny_Name (wpAny_loadName_local rfl rfl hn hm ?_) (by decide)))
    refine Subscript_ (wpAny_Name (wpAny_loadName_cell rfl rfl rfl ⟨o1, N₃.get (by simp), hd1⟩ (wpAny_Name (wpAny_loadName_cell rfl rfl rfl ⟨o2, N₃.get (by simp), hd2⟩ ?_) (by decide))) (by decide))
    refine listAt hl₃ h0 (by omega) hpk (in_strTab hT₃ (wpAny_truthy_bool ?_)) (by with_unfolding_all rfl) (by intro _; with_unfolding_all rfl)
    rw [lookupD]
    cases hlk : (tab hand.toNat).lookup c with
    | none =>
      simp only [Option.map_none, Option.isSome_none, Bool.false_eq_true, if_false]
      refine wpAny_Name (wpAny_loadName_local rfl rfl hn hm ?_) (by decide)
      refine ⟨⟨u, ?_⟩, _, _, rfl, fun _ _ e => e⟩
      simp only [wcode, hlk]
    | some z =>
      simp only [Option.map_some, Option.isSome_some, if_true]
      refine wpAny_BinOp (Constant_str (Subscript_ (Subscript_ (wpAny_Name (wpAny_loadName_cell rfl rfl rfl ⟨o1, N₃.get (by simp), hd1⟩ (wpAny_Name (wpAny_loadName_cell rfl rfl rfl ⟨o2, N₃.get (by simp), hd2⟩ ?_) (by decide))) (by decide)))))
      refine listAt hl₃ h0 (by omega) hpk ?_ (by with_unfolding_all rfl) (by intro _; with_unfolding_all rfl)
      refine wpAny_Name (wpAny_loadName_local rfl rfl hn hm ?_) (by decide)
      refine item_strTabT hT₃ (dv := .str (ofL z)) (by rw [lookupD, hlk]; rfl) (fun v hv => ?_) (by with_unfolding_all rfl)
      obtain ⟨t9, rfl⟩ := hv.str_inv
      · rw [l_amp]
        refine addL (by have := tab_len hlk; simp only [List.length_cons, List.length_nil]; omega) (fun t' tk' => ?_)
        refine ⟨⟨t', ?_⟩, _, _, rfl, fun _ _ e => e⟩
        simp only [wcode, hlk, List.singleton_append]
  intro D ys k h9 tk9 F9 N9 hP9
  walk1
  refine joinL (vs := ys.toList) (ls := l.map (wcode hand.toNat)) (B := 6) lit_none (News.isList N9 (.head _)) hP9 ?_ ?_ (fun t' tk'' => ?_)
  · intro x hx'
    obtain ⟨c, _, rfl⟩ := List.mem_map.mp hx'
    exact wcode_len _ _
  · rw [List.length_map]; omega
  · have := h h9 t' tk'' F9.keep
    rw [List.flatMap] at this
    exact this
end Mine

-- F4
namespace Mine
open PySem PySem.W PySem.Calls PyProof.Rows
set_option Elab.async false
set_option maxRecDepth 100000
set_option maxHeartbeats 4000000
noncomputable def mEsc (l : List Nat) (t : Tok) : Str → Option Value := fun y => if y = "text" then some (.str (ofL l) t) else none
theorem mEsc_text (l : List Nat) (t : Tok) : mEsc l t "text" = some (.str (ofL l) t) := rfl
section
variable {prog : Program} {w : World} {A : Around} {s : Shared} {h₀ : Heap} {L a : Addr} {name : Str} {scope : Scope} {cd : Value}
inductive EscOk (h₀ : Heap) (L : Addr) (l : List Nat) (s s' : Shared) : Prop
  | mk (h' : Heap) (tk : Nat) (t' : Tok) (q0 : s' = { s with heap := h', toks := tk }) (q1 : Fr h₀ L h' (mEsc l t')) : EscOk h₀ L l s s'
/-- «if c in text: text = text.replace(c, z)» -/
theorem escIf {c : Nat} {z l : List Nat} {y y' : Str} {t : Tok} {p1 p2 p3 p4 p5 p6 p7 p8 p9 p10 p11 : Pos} (F : Fr h₀ L s.heap (mEsc l t))
    (hy : y = ofL [c]) (hy' : y' = ofL z) (hcz : (ofL [c] == ofL z) = false) (hl : l.length ≤ 1000000) (hz : z.length ≤ 14)
    (hk : scope.kind = .function) (hloc : (envOf name scope L a cd).kindOf "text" = some .local) {pl : Sem Bool}
    (he : eval (.Call (.Attribute (.Name "text" p5) "replace" p6) [.Constant (.str y) 0 p7, .Constant (.str y') 0 p8] [] p9) (envOf name scope L a cd) = (do
      let ov ← eval (.Name "text" p5) (envOf name scope L a cd)
      standAt p6.atName
      let (f, first) ← holding [ov] (getMethod ov "replace" pl)
      callWith p9 f first (backTo p9 (starEach [.Constant (.str y) 0 p7, .Constant (.str y') 0 p8] (envOf name scope L a cd))) [])) :
    wpAny (model prog w) A (exec (.If (.Compare (.Constant (.str y) 0 p1) [.In] [.Name "text" p2] p3) [.Assign [.Name "text" p4] (.Call (.Attribute (.Name "text" p5) "replace" p6) [.Constant (.str y) 0 p7, .Constant (.str y') 0 p8] [] p9) p10] [] p11) (envOf name scope L a cd))
      (After (EscOk h₀ L (rep c z l) s)) (fun _ _ => False) s := by
  refine wpAny_If (wpAny_isTrue_Compare1 (Constant_str (ld F (mEsc_text l t) (inL hy (wpAny_truthy_bool ?_)) hk hloc)))
  by_cases hc : c ∈ l
  · rw [decide_eq_true hc, if_pos rfl]
    refine wpAny_execs_cons (wpAny_Assign_Name (MethodCall_ (ld F (mEsc_text l t) (GM.replace (callWith_method1 (spliced_more (Constant_str (spliced_more (Constant_str (Calls.spliced_nil ?_))))))) hk hloc) he))
    refine replaceL hy hy' (Nat.succ_ne_zero _) (Nat.succ_ne_zero _) (Nat.ne_of_lt (Nat.lt_succ_self _)) hcz hl hz fun t' tk' => ?_
    refine st F (fun h' F' => wpAny_execs_nil ⟨rfl, h', _, t', rfl, Fr.to F' fun y => ?_⟩) hk hloc
    by_cases e : y = "text"
    · subst e; rfl
    · simp only [mEsc, e, if_false]
  · rw [decide_eq_false hc, if_neg Bool.false_ne_true, rep_free hc]
    exact wpAny_execs_nil ⟨rfl, s.heap, _, t, rfl, F⟩
end
theorem mEsc_start (l : List Nat) (t : Tok) (y : Str) : List.lookup y [(("text" : Str), Value.str (ofL l) t)].reverse = mEsc l t y := by
  simp only [List.reverse_cons, List.reverse_nil, List.nil_append, lk_cons, lk_nil, mEsc]
theorem EscOk.trans {h₀ : Heap} {L : Addr} {l l' : List Nat} {s s' s'' : Shared} (x : EscOk h₀ L l s s') (y : EscOk h₀ L l' s' s'') : EscOk h₀ L l' s s'' := by
  obtain ⟨h', tk, t', rfl, _⟩ := x
  obtain ⟨h'', tk', t'', rfl, F⟩ := y
  exact ⟨h'', tk', t'', rfl, F⟩
theorem rep6 (c : Nat) (z l : List Nat) (h : z.length ≤ 6) : (rep c z l).length ≤ 6 * l.length := rep_length (by decide) h l
theorem escCdata {w : World} {A : Around} {s : Shared} {Q E : Value → Shared → Prop} {l : List Nat} {t : Tok} (hx : l.length ≤ 70) (G : Gd w s.heap) (hroom : A.depth < recursionLimit)
   (h : ∀ h' t tk, Ext s.heap h' → Q (.str (ofL (rep 62 cGt (rep 60 cLt (rep 38 cAmp l)))) t) { s with heap := h', toks := tk }) :
   wpAny (model Challenge.rw_wa0026_01.row.prog w) A (call (.ref 49) [.str (ofL l) t]) Q E s := by
  obtain ⟨X, mg, mb, T⟩ := G
  revert X
  k_fill
  intro X
  refine' callD (K := hd.heap_39 w.params) (binds := [("text", .str (ofL l) t)]) X T.nolimit hroom ?k1 ?k2 ?k3 ?k4 ?_ ?k5 ?k6 ?k7 ?k8
  case k1 => k_is
  case k2 => k_is
  case k3 => exact rfl
  case k4 => exact locs rfl
  case k5 => decide
  case k6 => exact rfl
  case k7 => exact rfl
  case k8 => exact rfl
  intro L h₁ F N
  replace F : Fr s.heap L h₁ (mEsc l t) := Fr.to F (mEsc_start l t)
  have hl0 := rep_length (c := 38) (z := cAmp) (k := 5) (by decide) (by decide) l
  have hl1 := rep_length (c := 60) (z := cLt) (k := 4) (by decide) (by decide) (rep 38 cAmp l)
  have hl2 := rep_length (c := 62) (z := cGt) (k := 4) (by decide) (by decide) (rep 60 cLt (rep 38 cAmp l))
  refine lastJ (wpAny_Try_except (wpAny_noRaise ?_))
  refine' seqJ _ (escIf (by assumption) ?hy ?hz ?hcz ?hl ?hzl ?hk ?hloc ?he) ?_
  case hy => first | exact l_amp | exact l_lt | exact l_gt | exact l_q | exact l_cr | exact l_nl | exact l_tab | exact l_cAmp | exact l_cLt | exact l_cGt | exact l_cQ | exact l_cCr | exact l_cNl | exact l_cTab | exact l_xCr | exact l_xNl | exact l_xTab
  case hz => first | exact l_amp | exact l_lt | exact l_gt | exact l_q | exact l_cr | exact l_nl | exact l_tab | exact l_cAmp | exact l_cLt | exact l_cGt | exact l_cQ | exact l_cCr | exact l_cNl | exact l_cTab | exact l_xCr | exact l_xNl | exact l_xTab
  case hcz => decide
  case hl => omega
  case hzl => decide
  case hk => exact rfl
  case hloc => exact rfl
  case he => exact rfl
  clear F
  rintro _ ⟨h2, tk2, t2, rfl, F⟩
  refine' seqJ _ (escIf (by assumption) ?hy ?hz ?hcz ?hl ?hzl ?hk ?hloc ?he) ?_
  case hy => first | exact l_amp | exact l_lt | exact l_gt | exact l_q | exact l_cr | exact l_nl | exact l_tab | exact l_cAmp | exact l_cLt | exact l_cGt | exact l_cQ | exact l_cCr | exact l_cNl | exact l_cTab | exact l_xCr | exact l_xNl | exact l_xTab
  case hz => first | exact l_amp | exact l_lt | exact l_gt | exact l_q | exact l_cr | exact l_nl | exact l_tab | exact l_cAmp | exact l_cLt | exact l_cGt | exact l_cQ | exact l_cCr | exact l_cNl | exact l_cTab | exact l_xCr | exact l_xNl | exact l_xTab
  case hcz => decide
  case hl => omega
  case hzl => decide
  case hk => exact rfl
  case hloc => exact rfl
  case he => exact rfl
  clear F
  rintro _ ⟨h3, tk3, t3, rfl, F⟩
  refine' seqJ _ (escIf (by assumption) ?hy ?hz ?hcz ?hl ?hzl ?hk ?hloc ?he) ?_
  case hy => first | exact l_amp | exact l_lt | exact l_gt | exact l_q | exact l_cr | exact l_nl | exact l_tab | exact l_cAmp | exact l_cLt | exact l_cGt | exact l_cQ | exact l_cCr | exact l_cNl | exact l_cTab | exact l_xCr | exact l_xNl | exact l_xTab
  case hz => first | exact l_amp | exact l_lt | exact l_gt | exact l_q | exact l_cr | exact l_nl | exact l_tab | exact l_cAmp | exact l_cLt | exact l_cGt | exact l_cQ | exact l_cCr | exact l_cNl | exact l_cTab | exact l_xCr | exact l_xNl | exact l_xTab
  case hcz => decide
  case hl => omega
  case hzl => decide
  case hk => exact rfl
  case hloc => exact rfl
  case he => exact rfl
  clear F
  rintro _ ⟨h4, tk4, t4, rfl, F⟩
  refine lastJ (wpAny_Return_some (ld F rfl ?_))
  exact h _ _ _ F.keep
theorem escAttrib {w : World} {A : Around} {s : Shared} {Q E : Value → Shared → Prop} {l : List Nat} {t : Tok} (hx : l.length ≤ 70) (G : Gd w s.heap) (hroom : A.depth < recursionLimit)
   (h : ∀ h' t tk, Ext s.heap h' → Q (.str (ofL (rep 9 cTab (rep 10 cNl (rep 13 cCr (rep 34 cQ (rep 62 cGt (rep 60 cLt (rep 38 cAmp l)))))))) t) { s with heap := h', toks := tk }) :
   wpAny (model Challenge.rw_wa0026_01.row.prog w) A (call (.ref 56) [.str (ofL l) t]) Q E s := by
  obtain ⟨X, mg, mb, T⟩ := G
  revert X
  k_fill
  intro X
  refine' callD (K := hd.heap_39 w.params) (binds := [("text", .str (ofL l) t)]) X T.nolimit hroom ?k1 ?k2 ?k3 ?k4 ?_ ?k5 ?k6 ?k7 ?k8
  case k1 => k_is
  case k2 => k_is
  case k3 => exact rfl
  case k4 => exact locs rfl
  case k5 => decide
  case k6 => exact rfl
  case k7 => exact rfl
  case k8 => exact rfl
  intro L h₁ F N
  replace F : Fr s.heap L h₁ (mEsc l t) := Fr.to F (mEsc_start l t)
  have hl0 := rep_length (c := 38) (z := cAmp) (k := 5) (by decide) (by decide) l
  have hl1 := rep_length (c := 60) (z := cLt) (k := 4) (by decide) (by decide) (rep 38 cAmp l)
  have hl2 := rep_length (c := 62) (z := cGt) (k := 4) (by decide) (by decide) (rep 60 cLt (rep 38 cAmp l))
  have hl3 := rep_length (c := 34) (z := cQ) (k := 6) (by decide) (by decide) (rep 62 cGt (rep 60 cLt (rep 38 cAmp l)))
  have hl4 := rep_length (c := 13) (z := cCr) (k := 5) (by decide) (by decide) (rep 34 cQ (rep 62 cGt (rep 60 cLt (rep 38 cAmp l))))
  have hl5 := rep_length (c := 10) (z := cNl) (k := 5) (by decide) (by decide) (rep 13 cCr (rep 34 cQ (rep 62 cGt (rep 60 cLt (rep 38 cAmp l)))))
  have hl6 := rep_length (c := 9) (z := cTab) (k := 5) (by decide) (by decide) (rep 10 cNl (rep 13 cCr (rep 34 cQ (rep 62 cGt (rep 60 cLt (rep 38 cAmp l))))))
  refine lastJ (wpAny_Try_except (wpAny_noRaise ?_))
  refine' seqJ _ (escIf (by assumption) ?hy ?hz ?hcz ?hl ?hzl ?hk ?hloc ?he) ?_
  case hy => first | exact l_amp | exact l_lt | exact l_gt | exact l_q | exact l_cr | exact l_nl | exact l_tab | exact l_cAmp | exact l_cLt | exact l_cGt | exact l_cQ | exact l_cCr | exact l_cNl | exact l_cTab | exact l_xCr | exact l_xNl | exact l_xTab
  case hz => first | exact l_amp | exact l_lt | exact l_gt | exact l_q | exact l_cr | exact l_nl | exact l_tab | exact l_cAmp | exact l_cLt | exact l_cGt | exact l_cQ | exact l_cCr | exact l_cNl | exact l_cTab | exact l_xCr | exact l_xNl | exact l_xTab
  case hcz => decide
  case hl => omega
  case hzl => decide
  case hk => exact rfl
  case hloc => exact rfl
  case he => exact rfl
  clear F
  rintro _ ⟨h2, tk2, t2, rfl, F⟩
  refine' seqJ _ (escIf (by assumption) ?hy ?hz ?hcz ?hl ?hzl ?hk ?hloc ?he) ?_
  case hy => first | exact l_amp | exact l_lt | exact l_gt | exact l_q | exact l_cr | exact l_nl | exact l_tab | exact l_cAmp | exact l_cLt | exact l_cGt | exact l_cQ | exact l_cCr | exact l_cNl | exact l_cTab | exact l_xCr | exact l_xNl | exact l_xTab
  case hz => first | exact l_amp | exact l_lt | exact l_gt | exact l_q | exact l_cr | exact l_nl | exact l_tab | exact l_cAmp | exact l_cLt | exact l_cGt | exact l_cQ | exact l_cCr | exact l_cNl | exact l_cTab | exact l_xCr | exact l_xNl | exact l_xTab
  case hcz => decide
  case hl => omega
  case hzl => decide
  case hk => exact rfl
  case hloc => exact rfl
  case he => exact rfl
  clear F
  rintro _ ⟨h3, tk3, t3, rfl, F⟩
  refine' seqJ _ (escIf (by assumption) ?hy ?hz ?hcz ?hl ?hzl ?hk ?hloc ?he) ?_
  case hy => first | exact l_amp | exact l_lt | exact l_gt | exact l_q | exact l_cr | exact l_nl | exact l_tab | exact l_cAmp | exact l_cLt | exact l_cGt | exact l_cQ | exact l_cCr | exact l_cNl | exact l_cTab | exact l_xCr | exact l_xNl | exact l_xTab
  case hz => first | exact l_amp | exact l_lt | exact l_gt | exact l_q | exact l_cr | exact l_nl | exact l_tab | exact l_cAmp | exact l_cLt | exact l_cGt | exact l_cQ | exact l_cCr | exact l_cNl | exact l_cTab | exact l_xCr | exact l_xNl | exact l_xTab
  case hcz => decide
  case hl => omega
  case hzl => decide
  case hk => exact rfl
  case hloc => exact rfl
  case he => exact rfl
  clear F
  rintro _ ⟨h4, tk4, t4, rfl, F⟩
  refine' seqJ _ (escIf (by assumption) ?hy ?hz ?hcz ?hl ?hzl ?hk ?hloc ?he) ?_
  case hy => first | exact l_amp | exact l_lt | exact l_gt | exact l_q | exact l_cr | exact l_nl | exact l_tab | exact l_cAmp | exact l_cLt | exact l_cGt | exact l_cQ | exact l_cCr | exact l_cNl | exact l_cTab | exact l_xCr | exact l_xNl | exact l_xTab
  case hz => first | exact l_amp | exact l_lt | exact l_gt | exact l_q | exact l_cr | exact l_nl | exact l_tab | exact l_cAmp | exact l_cLt | exact l_cGt | exact l_cQ | exact l_cCr | exact l_cNl | exact l_cTab | exact l_xCr | exact l_xNl | exact l_xTab
  case hcz => decide
  case hl => omega
  case hzl => decide
  case hk => exact rfl
  case hloc => exact rfl
  case he => exact rfl
  clear F
  rintro _ ⟨h5, tk5, t5, rfl, F⟩
  refine' seqJ _ (escIf (by assumption) ?hy ?hz ?hcz ?hl ?hzl ?hk ?hloc ?he) ?_
  case hy => first | exact l_amp | exact l_lt | exact l_gt | exact l_q | exact l_cr | exact l_nl | exact l_tab | exact l_cAmp | exact l_cLt | exact l_cGt | exact l_cQ | exact l_cCr | exact l_cNl | exact l_cTab | exact l_xCr | exact l_xNl | exact l_xTab
  case hz => first | exact l_amp | exact l_lt | exact l_gt | exact l_q | exact l_cr | exact l_nl | exact l_tab | exact l_cAmp | exact l_cLt | exact l_cGt | exact l_cQ | exact l_cCr | exact l_cNl | exact l_cTab | exact l_xCr | exact l_xNl | exact l_xTab
  case hcz => decide
  case hl => omega
  case hzl => decide
  case hk => exact rfl
  case hloc => exact rfl
  case he => exact rfl
  clear F
  rintro _ ⟨h6, tk6, t6, rfl, F⟩
  refine' seqJ _ (escIf (by assumption) ?hy ?hz ?hcz ?hl ?hzl ?hk ?hloc ?he) ?_
  case hy => first | exact l_amp | exact l_lt | exact l_gt | exact l_q | exact l_cr | exact l_nl | exact l_tab | exact l_cAmp | exact l_cLt | exact l_cGt | exact l_cQ | exact l_cCr | exact l_cNl | exact l_cTab | exact l_xCr | exact l_xNl | exact l_xTab
  case hz => first | exact l_amp | exact l_lt | exact l_gt | exact l_q | exact l_cr | exact l_nl | exact l_tab | exact l_cAmp | exact l_cLt | exact l_cGt | exact l_cQ | exact l_cCr | exact l_cNl | exact l_cTab | exact l_xCr | exact l_xNl | exact l_xTab
  case hcz => decide
  case hl => omega
  case hzl => decide
  case hk => exact rfl
  case hloc => exact rfl
  case he => exact rfl
  clear F
  rintro _ ⟨h7, tk7, t7, rfl, F⟩
  refine' seqJ _ (escIf (by assumption) ?hy ?hz ?hcz ?hl ?hzl ?hk ?hloc ?he) ?_
  case hy => first | exact l_amp | exact l_lt | exact l_gt | exact l_q | exact l_cr | exact l_nl | exact l_tab | exact l_cAmp | exact l_cLt | exact l_cGt | exact l_cQ | exact l_cCr | exact l_cNl | exact l_cTab | exact l_xCr | exact l_xNl | exact l_xTab
  case hz => first | exact l_amp | exact l_lt | exact l_gt | exact l_q | exact l_cr | exact l_nl | exact l_tab | exact l_cAmp | exact l_cLt | exact l_cGt | exact l_cQ | exact l_cCr | exact l_cNl | exact l_cTab | exact l_xCr | exact l_xNl | exact l_xTab
  case hcz => decide
  case hl => omega
  case hzl => decide
  case hk => exact rfl
  case hloc => exact rfl
  case he => exact rfl
  clear F
  rintro _ ⟨h8, tk8, t8, rfl, F⟩
  refine lastJ (wpAny_Return_some (ld F rfl ?_))
  exact h _ _ _ F.keep
theorem escHtml {w : World} {A : Around} {s : Shared} {Q E : Value → Shared → Prop} {l : List Nat} {t : Tok} (hx : l.length ≤ 70) (G : Gd w s.heap) (hroom : A.depth < recursionLimit)
   (h : ∀ h' t tk, Ext s.heap h' → Q (.str (ofL (rep 34 cQ (rep 62 cGt (rep 38 cAmp l)))) t) { s with heap := h', toks := tk }) :
   wpAny (model Challenge.rw_wa0026_01.row.prog w) A (call (.ref 63) [.str (ofL l) t]) Q E s := by
  obtain ⟨X, mg, mb, T⟩ := G
  revert X
  k_fill
  intro X
  refine' callD (K := hd.heap_39 w.params) (binds := [("text", .str (ofL l) t)]) X T.nolimit hroom ?k1 ?k2 ?k3 ?k4 ?_ ?k5 ?k6 ?k7 ?k8
  case k1 => k_is
  case k2 => k_is
  case k3 => exact rfl
  case k4 => exact locs rfl
  case k5 => decide
  case k6 => exact rfl
  case k7 => exact rfl
  case k8 => exact rfl
  intro L h₁ F N
  replace F : Fr s.heap L h₁ (mEsc l t) := Fr.to F (mEsc_start l t)
  have hl0 := rep_length (c := 38) (z := cAmp) (k := 5) (by decide) (by decide) l
  have hl1 := rep_length (c := 62) (z := cGt) (k := 4) (by decide) (by decide) (rep 38 cAmp l)
  have hl2 := rep_length (c := 34) (z := cQ) (k := 6) (by decide) (by decide) (rep 62 cGt (rep 38 cAmp l))
  refine lastJ (wpAny_Try_except (wpAny_noRaise ?_))
  refine' seqJ _ (escIf (by assumption) ?hy ?hz ?hcz ?hl ?hzl ?hk ?hloc ?he) ?_
  case hy => first | exact l_amp | exact l_lt | exact l_gt | exact l_q | exact l_cr | exact l_nl | exact l_tab | exact l_cAmp | exact l_cLt | exact l_cGt | exact l_cQ | exact l_cCr | exact l_cNl | exact l_cTab | exact l_xCr | exact l_xNl | exact l_xTab
  case hz => first | exact l_amp | exact l_lt | exact l_gt | exact l_q | exact l_cr | exact l_nl | exact l_tab | exact l_cAmp | exact l_cLt | exact l_cGt | exact l_cQ | exact l_cCr | exact l_cNl | exact l_cTab | exact l_xCr | exact l_xNl | exact l_xTab
  case hcz => decide
  case hl => omega
  case hzl => decide
  case hk => exact rfl
  case hloc => exact rfl
  case he => exact rfl
  clear F
  rintro _ ⟨h2, tk2, t2, rfl, F⟩
  refine' seqJ _ (escIf (by assumption) ?hy ?hz ?hcz ?hl ?hzl ?hk ?hloc ?he) ?_
  case hy => first | exact l_amp | exact l_lt | exact l_gt | exact l_q | exact l_cr | exact l_nl | exact l_tab | exact l_cAmp | exact l_cLt | exact l_cGt | exact l_cQ | exact l_cCr | exact l_cNl | exact l_cTab | exact l_xCr | exact l_xNl | exact l_xTab
  case hz => first | exact l_amp | exact l_lt | exact l_gt | exact l_q | exact l_cr | exact l_nl | exact l_tab | exact l_cAmp | exact l_cLt | exact l_cGt | exact l_cQ | exact l_cCr | exact l_cNl | exact l_cTab | exact l_xCr | exact l_xNl | exact l_xTab
  case hcz => decide
  case hl => omega
  case hzl => decide
  case hk => exact rfl
  case hloc => exact rfl
  case he => exact rfl
  clear F
  rintro _ ⟨h3, tk3, t3, rfl, F⟩
  refine' seqJ _ (escIf (by assumption) ?hy ?hz ?hcz ?hl ?hzl ?hk ?hloc ?he) ?_
  case hy => first | exact l_amp | exact l_lt | exact l_gt | exact l_q | exact l_cr | exact l_nl | exact l_tab | exact l_cAmp | exact l_cLt | exact l_cGt | exact l_cQ | exact l_cCr | exact l_cNl | exact l_cTab | exact l_xCr | exact l_xNl | exact l_xTab
  case hz => first | exact l_amp | exact l_lt | exact l_gt | exact l_q | exact l_cr | exact l_nl | exact l_tab | exact l_cAmp | exact l_cLt | exact l_cGt | exact l_cQ | exact l_cCr | exact l_cNl | exact l_cTab | exact l_xCr | exact l_xNl | exact l_xTab
  case hcz => decide
  case hl => omega
  case hzl => decide
  case hk => exact rfl
  case hloc => exact rfl
  case he => exact rfl
  clear F
  rintro _ ⟨h4, tk4, t4, rfl, F⟩
  refine lastJ (wpAny_Return_some (ld F rfl ?_))
  exact h _ _ _ F.keep
theorem escCdataC {w : World} {A : Around} {s : Shared} {Q E : Value → Shared → Prop} {l : List Nat} {t : Tok} (hx : l.length ≤ 70) (G : Gd w s.heap) (hroom : A.depth < recursionLimit)
   (h : ∀ h' t tk, Ext s.heap h' → Q (.str (ofL (rep 13 xCr (rep 62 cGt (rep 60 cLt (rep 38 cAmp l))))) t) { s with heap := h', toks := tk }) :
   wpAny (model Challenge.rw_wa0026_01.row.prog w) A (call (.ref 70) [.str (ofL l) t]) Q E s := by
  obtain ⟨X, mg, mb, T⟩ := G
  revert X
  k_fill
  intro X
  refine' callD (K := hd.heap_39 w.params) (binds := [("text", .str (ofL l) t)]) X T.nolimit hroom ?k1 ?k2 ?k3 ?k4 ?_ ?k5 ?k6 ?k7 ?k8
  case k1 => k_is
  case k2 => k_is
  case k3 => exact rfl
  case k4 => exact locs rfl
  case k5 => decide
  case k6 => exact rfl
  case k7 => exact rfl
  case k8 => exact rfl
  intro L h₁ F N
  replace F : Fr s.heap L h₁ (mEsc l t) := Fr.to F (mEsc_start l t)
  have hl0 := rep_length (c := 38) (z := cAmp) (k := 5) (by decide) (by decide) l
  have hl1 := rep_length (c := 60) (z := cLt) (k := 4) (by decide) (by decide) (rep 38 cAmp l)
  have hl2 := rep_length (c := 62) (z := cGt) (k := 4) (by decide) (by decide) (rep 60 cLt (rep 38 cAmp l))
  have hl3 := rep_length (c := 13) (z := xCr) (k := 5) (by decide) (by decide) (rep 62 cGt (rep 60 cLt (rep 38 cAmp l)))
  refine lastJ (wpAny_Try_except (wpAny_noRaise ?_))
  refine' seqJ _ (escIf (by assumption) ?hy ?hz ?hcz ?hl ?hzl ?hk ?hloc ?he) ?_
  case hy => first | exact l_amp | exact l_lt | exact l_gt | exact l_q | exact l_cr | exact l_nl | exact l_tab | exact l_cAmp | exact l_cLt | exact l_cGt | exact l_cQ | exact l_cCr | exact l_cNl | exact l_cTab | exact l_xCr | exact l_xNl | exact l_xTab
  case hz => first | exact l_amp | exact l_lt | exact l_gt | exact l_q | exact l_cr | exact l_nl | exact l_tab | exact l_cAmp | exact l_cLt | exact l_cGt | exact l_cQ | exact l_cCr | exact l_cNl | exact l_cTab | exact l_xCr | exact l_xNl | exact l_xTab
  case hcz => decide
  case hl => omega
  case hzl => decide
  case hk => exact rfl
  case hloc => exact rfl
  case he => exact rfl
  clear F
  rintro _ ⟨h2, tk2, t2, rfl, F⟩
  refine' seqJ _ (escIf (by assumption) ?hy ?hz ?hcz ?hl ?hzl ?hk ?hloc ?he) ?_
  case hy => first | exact l_amp | exact l_lt | exact l_gt | exact l_q | exact l_cr | exact l_nl | exact l_tab | exact l_cAmp | exact l_cLt | exact l_cGt | exact l_cQ | exact l_cCr | exact l_cNl | exact l_cTab | exact l_xCr | exact l_xNl | exact l_xTab
  case hz => first | exact l_amp | exact l_lt | exact l_gt | exact l_q | exact l_cr | exact l_nl | exact l_tab | exact l_cAmp | exact l_cLt | exact l_cGt | exact l_cQ | exact l_cCr | exact l_cNl | exact l_cTab | exact l_xCr | exact l_xNl | exact l_xTab
  case hcz => decide
  case hl => omega
  case hzl => decide
  case hk => exact rfl
  case hloc => exact rfl
  case he => exact rfl
  clear F
  rintro _ ⟨h3, tk3, t3, rfl, F⟩
  refine' seqJ _ (escIf (by assumption) ?hy ?hz ?hcz ?hl ?hzl ?hk ?hloc ?he) ?_
  case hy => first | exact l_amp | exact l_lt | exact l_gt | exact l_q | exact l_cr | exact l_nl | exact l_tab | exact l_cAmp | exact l_cLt | exact l_cGt | exact l_cQ | exact l_cCr | exact l_cNl | exact l_cTab | exact l_xCr | exact l_xNl | exact l_xTab
  case hz => first | exact l_amp | exact l_lt | exact l_gt | exact l_q | exact l_cr | exact l_nl | exact l_tab | exact l_cAmp | exact l_cLt | exact l_cGt | exact l_cQ | exact l_cCr | exact l_cNl | exact l_cTab | exact l_xCr | exact l_xNl | exact l_xTab
  case hcz => decide
  case hl => omega
  case hzl => decide
  case hk => exact rfl
  case hloc => exact rfl
  case he => exact rfl
  clear F
  rintro _ ⟨h4, tk4, t4, rfl, F⟩
  refine' seqJ _ (escIf (by assumption) ?hy ?hz ?hcz ?hl ?hzl ?hk ?hloc ?he) ?_
  case hy => first | exact l_amp | exact l_lt | exact l_gt | exact l_q | exact l_cr | exact l_nl | exact l_tab | exact l_cAmp | exact l_cLt | exact l_cGt | exact l_cQ | exact l_cCr | exact l_cNl | exact l_cTab | exact l_xCr | exact l_xNl | exact l_xTab
  case hz => first | exact l_amp | exact l_lt | exact l_gt | exact l_q | exact l_cr | exact l_nl | exact l_tab | exact l_cAmp | exact l_cLt | exact l_cGt | exact l_cQ | exact l_cCr | exact l_cNl | exact l_cTab | exact l_xCr | exact l_xNl | exact l_xTab
  case hcz => decide
  case hl => omega
  case hzl => decide
  case hk => exact rfl
  case hloc => exact rfl
  case he => exact rfl
  clear F
  rintro _ ⟨h5, tk5, t5, rfl, F⟩
  refine lastJ (wpAny_Return_some (ld F rfl ?_))
  exact h _ _ _ F.keep
theorem escAttribC {w : World} {A : Around} {s : Shared} {Q E : Value → Shared → Prop} {l : List Nat} {t : Tok} (hx : l.length ≤ 70) (G : Gd w s.heap) (hroom : A.depth < recursionLimit)
   (h : ∀ h' t tk, Ext s.heap h' → Q (.str (ofL (rep 13 xCr (rep 10 xNl (rep 9 xTab (rep 34 cQ (rep 60 cLt (rep 38 cAmp l))))))) t) { s with heap := h', toks := tk }) :
   wpAny (model Challenge.rw_wa0026_01.row.prog w) A (call (.ref 77) [.str (ofL l) t]) Q E s := by
  obtain ⟨X, mg, mb, T⟩ := G
  revert X
  k_fill
  intro X
  refine' callD (K := hd.heap_39 w.params) (binds := [("text", .str (ofL l) t)]) X T.nolimit hroom ?k1 ?k2 ?k3 ?k4 ?_ ?k5 ?k6 ?k7 ?k8
  case k1 => k_is
  case k2 => k_is
  case k3 => exact rfl
  case k4 => exact locs rfl
  case k5 => decide
  case k6 => exact rfl
  case k7 => exact rfl
  case k8 => exact rfl
  intro L h₁ F N
  replace F : Fr s.heap L h₁ (mEsc l t) := Fr.to F (mEsc_start l t)
  have hl0 := rep_length (c := 38) (z := cAmp) (k := 5) (by decide) (by decide) l
  have hl1 := rep_length (c := 60) (z := cLt) (k := 4) (by decide) (by decide) (rep 38 cAmp l)
  have hl2 := rep_length (c := 34) (z := cQ) (k := 6) (by decide) (by decide) (rep 60 cLt (rep 38 cAmp l))
  have hl3 := rep_length (c := 9) (z := xTab) (k := 5) (by decide) (by decide) (rep 34 cQ (rep 60 cLt (rep 38 cAmp l)))
  have hl4 := rep_length (c := 10) (z := xNl) (k := 5) (by decide) (by decide) (rep 9 xTab (rep 34 cQ (rep 60 cLt (rep 38 cAmp l))))
  have hl5 := rep_length (c := 13) (z := xCr) (k := 5) (by decide) (by decide) (rep 10 xNl (rep 9 xTab (rep 34 cQ (rep 60 cLt (rep 38 cAmp l)))))
  refine lastJ (wpAny_Try_except (wpAny_noRaise ?_))
  refine' seqJ _ (escIf (by assumption) ?hy ?hz ?hcz ?hl ?hzl ?hk ?hloc ?he) ?_
  case hy => first | exact l_amp | exact l_lt | exact l_gt | exact l_q | exact l_cr | exact l_nl | exact l_tab | exact l_cAmp | exact l_cLt | exact l_cGt | exact l_cQ | exact l_cCr | exact l_cNl | exact l_cTab | exact l_xCr | exact l_xNl | exact l_xTab
  case hz => first | exact l_amp | exact l_lt | exact l_gt | exact l_q | exact l_cr | exact l_nl | exact l_tab | exact l_cAmp | exact l_cLt | exact l_cGt | exact l_cQ | exact l_cCr | exact l_cNl | exact l_cTab | exact l_xCr | exact l_xNl | exact l_xTab
  case hcz => decide
  case hl => omega
  case hzl => decide
  case hk => exact rfl
  case hloc => exact rfl
  case he => exact rfl
  clear F
  rintro _ ⟨h2, tk2, t2, rfl, F⟩
  refine' seqJ _ (escIf (by assumption) ?hy ?hz ?hcz ?hl ?hzl ?hk ?hloc ?he) ?_
  case hy => first | exact l_amp | exact l_lt | exact l_gt | exact l_q | exact l_cr | exact l_nl | exact l_tab | exact l_cAmp | exact l_cLt | exact l_cGt | exact l_cQ | exact l_cCr | exact l_cNl | exact l_cTab | exact l_xCr | exact l_xNl | exact l_xTab
  case hz => first | exact l_amp | exact l_lt | exact l_gt | exact l_q | exact l_cr | exact l_nl | exact l_tab | exact l_cAmp | exact l_cLt | exact l_cGt | exact l_cQ | exact l_cCr | exact l_cNl | exact l_cTab | exact l_xCr | exact l_xNl | exact l_xTab
  case hcz => decide
  case hl => omega
  case hzl => decide
  case hk => exact rfl
  case hloc => exact rfl
  case he => exact rfl
  clear F
  rintro _ ⟨h3, tk3, t3, rfl, F⟩
  refine' seqJ _ (escIf (by assumption) ?hy ?hz ?hcz ?hl ?hzl ?hk ?hloc ?he) ?_
  case hy => first | exact l_amp | exact l_lt | exact l_gt | exact l_q | exact l_cr | exact l_nl | exact l_tab | exact l_cAmp | exact l_cLt | exact l_cGt | exact l_cQ | exact l_cCr | exact l_cNl | exact l_cTab | exact l_xCr | exact l_xNl | exact l_xTab
  case hz => first | exact l_amp | exact l_lt | exact l_gt | exact l_q | exact l_cr | exact l_nl | exact l_tab | exact l_cAmp | exact l_cLt | exact l_cGt | exact l_cQ | exact l_cCr | exact l_cNl | exact l_cTab | exact l_xCr | exact l_xNl | exact l_xTab
  case hcz => decide
  case hl => omega
  case hzl => decide
  case hk => exact rfl
  case hloc => exact rfl
  case he => exact rfl
  clear F
  rintro _ ⟨h4, tk4, t4, rfl, F⟩
  refine' seqJ _ (escIf (by assumption) ?hy ?hz ?hcz ?hl ?hzl ?hk ?hloc ?he) ?_
  case hy => first | exact l_amp | exact l_lt | exact l_gt | exact l_q | exact l_cr | exact l_nl | exact l_tab | exact l_cAmp | exact l_cLt | exact l_cGt | exact l_cQ | exact l_cCr | exact l_cNl | exact l_cTab | exact l_xCr | exact l_xNl | exact l_xTab
  case hz => first | exact l_amp | exact l_lt | exact l_gt | exact l_q | exact l_cr | exact l_nl | exact l_tab | exact l_cAmp | exact l_cLt | exact l_cGt | exact l_cQ | exact l_cCr | exact l_cNl | exact l_cTab | exact l_xCr | exact l_xNl | exact l_xTab
  case hcz => decide
  case hl => omega
  case hzl => decide
  case hk => exact rfl
  case hloc => exact rfl
  case he => exact rfl
  clear F
  rintro _ ⟨h5, tk5, t5, rfl, F⟩
  refine' seqJ _ (escIf (by assumption) ?hy ?hz ?hcz ?hl ?hzl ?hk ?hloc ?he) ?_
  case hy => first | exact l_amp | exact l_lt | exact l_gt | exact l_q | exact l_cr | exact l_nl | exact l_tab | exact l_cAmp | exact l_cLt | exact l_cGt | exact l_cQ | exact l_cCr | exact l_cNl | exact l_cTab | exact l_xCr | exact l_xNl | exact l_xTab
  case hz => first | exact l_amp | exact l_lt | exact l_gt | exact l_q | exact l_cr | exact l_nl | exact l_tab | exact l_cAmp | exact l_cLt | exact l_cGt | exact l_cQ | exact l_cCr | exact l_cNl | exact l_cTab | exact l_xCr | exact l_xNl | exact l_xTab
  case hcz => decide
  case hl => omega
  case hzl => decide
  case hk => exact rfl
  case hloc => exact rfl
  case he => exact rfl
  clear F
  rintro _ ⟨h6, tk6, t6, rfl, F⟩
  refine' seqJ _ (escIf (by assumption) ?hy ?hz ?hcz ?hl ?hzl ?hk ?hloc ?he) ?_
  case hy => first | exact l_amp | exact l_lt | exact l_gt | exact l_q | exact l_cr | exact l_nl | exact l_tab | exact l_cAmp | exact l_cLt | exact l_cGt | exact l_cQ | exact l_cCr | exact l_cNl | exact l_cTab | exact l_xCr | exact l_xNl | exact l_xTab
  case hz => first | exact l_amp | exact l_lt | exact l_gt | exact l_q | exact l_cr | exact l_nl | exact l_tab | exact l_cAmp | exact l_cLt | exact l_cGt | exact l_cQ | exact l_cCr | exact l_cNl | exact l_cTab | exact l_xCr | exact l_xNl | exact l_xTab
  case hcz => decide
  case hl => omega
  case hzl => decide
  case hk => exact rfl
  case hloc => exact rfl
  case he => exact rfl
  clear F
  rintro _ ⟨h7, tk7, t7, rfl, F⟩
  refine lastJ (wpAny_Return_some (ld F rfl ?_))
  exact h _ _ _ F.keep
end Mine

-- B10
namespace Mine
open PySem PySem.W PySem.Calls PyProof.Rows
open PySem.Builtin PySem.Builtin.Str
set_option Elab.async false
set_option maxRecDepth 100000
theorem beqL (a b : List Nat) : (a == b) = decide (a = b) := by
  by_cases h : a = b <;> simp [h]
/-- w stands in g at i, ahead of b -/
noncomputable def occB (g w : List Nat) (b i : Nat) : Bool := decide (i + w.length ≤ b) && decide ((g.drop i).take w.length = w)
noncomputable def findFrom (g w : List Nat) (a b : Nat) : Option Nat := (List.range' a (b + 1 - a)).find? (occB g w b)
theorem toList_ofL (l : List Nat) : (ofL l).cps.toList = l := by simp [ofL]
theorem at_ofL (g w : List Nat) (b i : Nat) : PySem.StrLaws.At (ofL g) (ofL w) b i ↔ occB g w b i = true := by
  unfold PySem.StrLaws.At occB
  rw [PySem.StrLaws.subAt_eq, ofL_length, toList_ofL, toList_ofL]
  simp
theorem occ_find (g w : List Nat) (a b : Nat) : (Builtin.Str.occurrences (ofL g) (ofL w) a b 1).head? = findFrom g w a b := by
  rw [PySem.StrLaws.occ_eq]
  unfold findFrom
  have key := PySem.StrLaws.occ_first (ofL g) (ofL w) b 1 (Nat.le_refl _) (List.range' a (b + 1 - a)) a (fun i hi => by have := List.mem_range'_1.mp hi; omega)
  rcases key with ⟨h0, hn⟩ | ⟨pre, i, post, e, h0, ha, hn⟩
  · rw [h0]
    symm
    show List.find? _ _ = none
    rw [List.find?_eq_none]
    intro x hx hb
    exact hn x hx ((at_ofL g w b x).mpr hb)
  · generalize (forIn (List.range' a (b + 1 - a)) ((#[] : Array Nat), a) (PySem.StrLaws.occBody (ofL g) (ofL w) b 1)).run.fst = arr at h0
    have h1 : arr.toList.head? = some i := by
      rw [List.head?_eq_getElem?]
      simpa using h0
    rw [h1, e, List.find?_append]
    have hp : List.find? (occB g w b) pre = none := by
      rw [List.find?_eq_none]
      intro x hx hb
      exact hn x hx ((at_ofL g w b x).mpr hb)
    rw [hp, Option.none_or, List.find?_cons, (at_ofL g w b i).mp ha]
noncomputable def findI (o : Option Nat) : Int := match o with | some i => (i : Int) | none => -1
theorem gives_find4 (g w : List Nat) (a b : Nat) (hb : b ≤ g.length) (t u v z : Tok) : Gives (Builtin.«str.find» ⟨[.str (ofL g) t, .str (ofL w) u, .int a v, .int b z], []⟩) (.int (findI (findFrom g w a b))) := by
  have e : (match Builtin.Str.occurrences (ofL g) (ofL w) (fromIndex (ofL g).length a) (min (fromIndex (ofL g).length b) (ofL g).length) 1 with | k :: _ => (k : Int) | [] => -1) = findI (findFrom g w a b) := by
    have e1 : fromIndex (ofL g).length (a : Int) = a := by unfold fromIndex; have : ¬ ((a : Int) < 0) := by omega
                                                           rw [if_neg this]; omega
    have e2 : fromIndex (ofL g).length (b : Int) = b := by unfold fromIndex; have : ¬ ((b : Int) < 0) := by omega
                                                           rw [if_neg this]; omega
    rw [e1, e2, ofL_length, Nat.min_eq_left hb, ← occ_find]
    cases Builtin.Str.occurrences (ofL g) (ofL w) a b 1 <;> rfl
  rw [← e]
  show Gives (match Builtin.Str.occurrences (ofL g) (ofL w) (fromIndex (ofL g).length a) (min (fromIndex (ofL g).length b) (ofL g).length) 1 with | k :: _ => retInt k | [] => (do rule "str.find.not-found"; retInt (-1))) _
  cases Builtin.Str.occurrences (ofL g) (ofL w) (fromIndex (ofL g).length a) (min (fromIndex (ofL g).length b) (ofL g).length) 1 with
  | nil => exact .rule (.of_eq rfl)
  | cons k _ => exact .of_eq rfl
section
variable {prog : Program} {w : World} {A : Around} {E : Value → Shared → Prop} {s : Shared} {t u v z : Tok} {g p : List Nat} {a b : Nat} {Q : Value → Shared → Prop}
theorem find4 (hb : b ≤ g.length) (hq : Q (.int (findI (findFrom g p a b)) s.toks) { s with toks := s.toks + 1 }) :
    wpAny (model prog w) A (call (.builtin "str.find") [.str (ofL g) t, .str (ofL p) u, .int a v, .int b z]) Q E s :=
  call_gives F.slot_str_find (typeIs_str _ _ _) F.entry_str_find (F.args_str_find_4 _ _ _ _) (gives_find4 g p a b hb t u v z) hq
theorem find2 (hq : Q (.int (findI (findFrom g p 0 g.length)) s.toks) { s with toks := s.toks + 1 }) :
    wpAny (model prog w) A (call (.builtin "str.find") [.str (ofL g) t, .str (ofL p) u]) Q E s := by
  refine SC.find ?_
  have e : Txt.find (ofL g) (ofL p) = findI (findFrom g p 0 g.length) := by
    unfold Txt.find
    rw [← occ_find, ofL_length]
    cases Builtin.Str.occurrences (ofL g) (ofL p) 0 g.length 1 <;> rfl
  rw [e]; exact hq
theorem startsL (hq : Q (.bool (occB g p g.length 0)) s) : wpAny (model prog w) A (call (.builtin "str.startswith") [.str (ofL g) t, .str (ofL p) u]) Q E s := by
  refine SC.startswith ?_
  have e : Txt.startswith (ofL g) (ofL p) = occB g p g.length 0 := by
    unfold Txt.startswith occB
    rw [PySem.StrLaws.subAt_eq, ofL_length, ofL_length, toList_ofL, toList_ofL]
    simp [beqL]
  rw [e]; exact hq
theorem endsL (hq : Q (.bool (decide (p.length ≤ g.length) && occB g p g.length (g.length - p.length))) s) : wpAny (model prog w) A (call (.builtin "str.endswith") [.str (ofL g) t, .str (ofL p) u]) Q E s := by
  refine SC.endswith ?_
  have e : Txt.endswith (ofL g) (ofL p) = (decide (p.length ≤ g.length) && occB g p g.length (g.length - p.length)) := by
    unfold Txt.endswith occB
    rw [PySem.StrLaws.subAt_eq, ofL_length, ofL_length, toList_ofL, toList_ofL]
    by_cases h : p.length ≤ g.length
    · have h1 : g.length - p.length + p.length ≤ g.length := by omega
      simp [h, beqL]
    · simp [h]
  rw [e]; exact hq
theorem truthyL {Q : Bool → Shared → Prop} (hl : p.length ≤ 1000000) (hq : Q (decide (p ≠ [])) { s with toks := s.toks + 1 + 1 }) : wpAny (model prog w) A (PySem.truthy (.str (ofL p) t)) Q E s := by
  refine SBL.truthy (by rw [ofL_length]; omega) ?_
  have e : (((ofL p).length : Int) != 0) = decide (p ≠ []) := by
    rw [ofL_length]
    cases p with
    | nil => rfl
    | cons a r => simp; omega
  rw [e]; exact hq
end
end Mine

-- B11
namespace Mine
open PySem PySem.W PySem.Calls PyProof.Rows
set_option Elab.async false
set_option maxRecDepth 100000
section
variable {M : Model} {A : Around} {s : Shared} {env : Env} {Q : Flow → Shared → Prop} {E : Value → Shared → Prop}
noncomputable def On (P : Shared → Prop) (Q : Flow → Shared → Prop) (f : Flow) (s : Shared) : Prop := match f with | .next => P s | f => Q f s
theorem seqR {st : Stmt} {rest : List Stmt} (P : Shared → Prop) (h1 : wpAny M A (exec st env) (On P Q) E s) (h2 : ∀ s', P s' → wpAny M A (execs rest env) Q E s') :
    wpAny M A (execs (st :: rest) env) Q E s :=
  wpAny_execs_cons (wpAny_mono h1 (fun f s' h => by cases f <;> first | exact h2 s' h | exact h) fun _ _ e => e)
/-- the same, what is wanted behind it hidden -/
theorem seqO {st : Stmt} {rest : List Stmt} (P : Shared → Prop) (h1 : ∀ R : Flow → Shared → Prop, (∀ s', P s' → R .next s') → (∀ v s', Q (.ret v) s' → R (.ret v) s') → wpAny M A (exec st env) R E s) (h2 : ∀ s', P s' → wpAny M A (execs rest env) Q E s') :
    wpAny M A (execs (st :: rest) env) Q E s := seqR P (h1 (On P Q) (fun _ h => h) (fun _ _ h => h)) h2
end
/-- values that are texts, told by their signs -/
abbrev SL (vs : List Value) (ws : List (List Nat)) : Prop := Paired (fun v l => ∃ u, v = Value.str (ofL l) u) vs ws
theorem SL.length {vs : List Value} {ws : List (List Nat)} (h : SL vs ws) : vs.length = ws.length := by
  induction h with
  | nil => rfl
  | cons _ _ ih => exact congrArg (· + 1) ih
theorem SL.at {vs : List Value} {ws : List (List Nat)} (i : Nat) {l : List Nat} (h : SL vs ws) (e : ws[i]? = some l) : ∃ u, vs[i]? = some (.str (ofL l) u) := by
  induction h generalizing i with
  | nil => simp at e
  | cons h _ ih =>
    cases i with
    | zero =>
      obtain ⟨u, rfl⟩ := h
      injection e with e
      exact ⟨u, by rw [← e]; rfl⟩
    | succ i =>
      have := ih i (by simpa using e)
      simpa using this
theorem SL.at' {vs : List Value} {ws : List (List Nat)} (i : Nat) {v : Value} (h : SL vs ws) (e : vs[i]? = some v) : ∃ l u, ws[i]? = some l ∧ v = .str (ofL l) u := by
  induction h generalizing i with
  | nil => simp at e
  | cons h _ ih =>
    cases i with
    | zero =>
      obtain ⟨u, rfl⟩ := h
      injection e with e
      exact ⟨_, u, rfl, e.symm⟩
    | succ i =>
      have := ih i (by simpa using e)
      simpa using this
theorem SL.erase {vs : List Value} {ws : List (List Nat)} (k : Nat) (h : SL vs ws) : SL (vs.eraseIdx k) (ws.eraseIdx k) := by
  induction h generalizing k with
  | nil => exact .nil
  | cons h r ih =>
    cases k with
    | zero => exact r
    | succ k => exact .cons h (ih k)
theorem SL.of_map {l : List (Str × Tok)} {ws : List (List Nat)} (h : l.map (·.1) = ws.map ofL) : SL (strValues l) ws := by
  induction ws generalizing l with
  | nil => cases l with
    | nil => exact .nil
    | cons _ _ => cases h
  | cons w r ih => cases l with
    | nil => cases h
    | cons p l =>
      obtain ⟨x, t⟩ := p
      simp only [List.map_cons, List.cons.injEq] at h
      obtain ⟨h1, h2⟩ := h
      subst h1
      exact .cons ⟨t, rfl⟩ (ih h2)
section
variable {prog : Program} {w : World} {A : Around} {E : Value → Shared → Prop} {s : Shared} {h₀ : Heap} {L D : Addr} {m : Str → Option Value} {vs : List Value} {i : Int} {u : Tok} {k n : Nat}
theorem delL {Q : Unit → Shared → Prop} (F : Fr h₀ L s.heap m) (N : News h₀ L s.heap [(D, listOf vs.toArray n)]) (hfit : Builtin.List.listFitsIndex i = true) (hk : seqIndex? i vs.length = some k) (hz : vs.length ≤ 1000000)
    (hQ : ∀ h' n', Fr h₀ L h' m → News h₀ L h' [(D, listOf (vs.eraseIdx k).toArray n')] → Q () { s with heap := h' }) :
    wpAny (model prog w) A (delItem (.ref D) (.int i u)) Q E s := by
  have hm := N _ (.head _)
  refine wpAny_delItem_plain (hsz := by rw [List.size_toArray, sizeLine_eq]; omega) (items := vs.toArray) ⟨n, hm.1⟩ hfit (by rw [List.size_toArray]; exact hk) fun h' hpl hs => ?_
  obtain ⟨n', hn'⟩ := hpl
  have e : vs.toArray.eraseIdxIfInBounds k = (vs.eraseIdx k).toArray := by simp
  rw [e] at hn'
  refine hQ h' n' (F.change hs hm.2.1 hm.2.2) fun p hp => ?_
  rw [List.mem_singleton.mp hp]
  exact ⟨hn', hm.2⟩
theorem splitL {x y : List Nat} {ws : List (List Nat)} {news : List (Addr × Obj)} {t : Tok} {Q : Value → Shared → Prop} (F : Fr h₀ L s.heap m) (N : News h₀ L s.heap news) (hy : y ≠ []) (hs : Txt.split (ofL x) (ofL y) = ws.map ofL) (hz : x.length ≤ 1000000)
    (hQ : ∀ vs h' tk, SL vs ws → Fr h₀ L h' m → News h₀ L h' ((s.heap.objs.size, listOf vs.toArray 0) :: news) → Q (.ref s.heap.objs.size) { s with heap := h', toks := tk }) :
    wpAny (model prog w) A (call (.builtin "str.split") [.str (ofL x) t, .str (ofL y) u]) Q E s := by
  refine splitN1 F N ?_ (fun l h' tk hl F' N' => hQ (strValues l) h' tk (SL.of_map (hl.trans hs)) F' N') (by rw [ofL_length, sizeLine_eq]; omega)
  rw [ofL_length]
  cases y with
  | nil => exact absurd rfl hy
  | cons _ _ => rfl
end
theorem lenL {prog : Program} {w : World} {A : Around} {E : Value → Shared → Prop} {s : Shared} {l : List Nat} {t : Tok} {Q : Value → Shared → Prop} (hl : l.length ≤ 1000000) (hq : Q (.int l.length (s.toks + 1)) { s with toks := s.toks + 1 + 1 }) :
    wpAny (model prog w) A (call (.builtin "len") [.str (ofL l) t]) Q E s := by
  refine SBL.len (by rw [ofL_length]; omega) ?_
  rw [ofL_length]; exact hq
/-- the last item of a list -/
theorem listLast {prog : Program} {w : World} {A : Around} {E : Value → Shared → Prop} {s : Shared} {value slice : PySem.Expr} {l : Addr} {vs : List Value} {u : Tok} {v : Value} {Q : Value → Shared → Prop}
    (hl : s.heap.IsList l vs.toArray) (hx : vs[vs.length - 1]? = some v) (h : Q v s)
    (hs : subscripted slice false (.ref l) (.int (-1) u) = operate [.ref l, .int (-1) u] (getItem (.ref l) (.int (-1) u)))
    (ht : ∀ r, letTemporaryGo value (.ref l) r = pure ()) :
    wpAny (model prog w) A (subscriptTail value slice (.ref l) (.int (-1) u)) Q E s := by
  have hp : 0 < vs.length := by
    cases vs with
    | nil => simp at hx
    | cons _ _ => simp
  refine subscriptTail_builtin hl.typeIs slot_list_getitem.lookup (wpAny_getItem_list_neg hl (by decide) (by rw [List.size_toArray]; omega) (by decide) ?_ h) hs ht
  have e : ((-1 : Int) + (vs.toArray.size : Nat)).toNat = vs.length - 1 := by rw [List.size_toArray]; omega
  rw [e]
  simpa using hx
end Mine

-- F5
namespace Mine
open PySem PySem.W PySem.Calls PyProof.Rows
set_option Elab.async false
set_option maxRecDepth 100000
set_option maxHeartbeats 4000000
noncomputable def ellRest (g : List Nat) : List (List Nat) → Nat → Nat → Bool
  | [], _, _ => true
  | w :: r, a, b => match findFrom g w a b with
    | none => false
    | some i => ellRest g r (i + w.length) b
noncomputable def ellGo (ws : List (List Nat)) (g : List Nat) (a b : Nat) : Bool := if b < a then false else ellRest g ws a b
noncomputable def ellEnd (ws : List (List Nat)) (g : List Nat) (a : Nat) : Bool :=
  if ws.getD (ws.length - 1) [] = [] then ellGo ws g a g.length
  else if (decide ((ws.getD (ws.length - 1) []).length ≤ g.length) && occB g (ws.getD (ws.length - 1) []) g.length (g.length - (ws.getD (ws.length - 1) []).length)) = true then ellGo (ws.eraseIdx (ws.length - 1)) g a (g.length - (ws.getD (ws.length - 1) []).length)
  else false
noncomputable def ellW (ws : List (List Nat)) (g : List Nat) : Bool :=
  if ws.getD 0 [] = [] then ellEnd ws g 0
  else if occB g (ws.getD 0 []) g.length 0 = true then ellEnd (ws.eraseIdx 0) g (ws.getD 0 []).length
  else false
noncomputable def mEll (want got : List Nat) (t1 t2 : Tok) (D : Addr) (a b : Nat) (ta tb : Tok) (wv : Option Value) : Str → Option Value := fun y =>
  if y = "w" then wv else if y = "startpos" then some (.int a ta) else if y = "endpos" then some (.int b tb) else if y = "ws" then some (.ref D) else if y = "got" then some (.str (ofL got) t2) else if y = "want" then some (.str (ofL want) t1) else none
noncomputable def mEl0 (want got : List Nat) (t1 t2 : Tok) : Str → Option Value := fun y => if y = "got" then some (.str (ofL got) t2) else if y = "want" then some (.str (ofL want) t1) else none
noncomputable def mEl1 (want got : List Nat) (t1 t2 : Tok) (D : Addr) : Str → Option Value := fun y => if y = "ws" then some (.ref D) else if y = "got" then some (.str (ofL got) t2) else if y = "want" then some (.str (ofL want) t1) else none
theorem mEl0_start (want got : List Nat) (t1 t2 : Tok) (y : Str) : List.lookup y [(("want" : Str), Value.str (ofL want) t1), (("got" : Str), Value.str (ofL got) t2)].reverse = mEl0 want got t1 t2 y := by
  simp only [List.reverse_cons, List.reverse_nil, List.nil_append, List.cons_append, lk_cons, lk_nil, mEl0]
inductive EllS (h₀ : Heap) (L : Addr) (want got : List Nat) (t1 t2 : Tok) (ws : List (List Nat)) (a b : Nat) (wo : Option (List Nat)) (s s' : Shared) : Prop
  | mk (h' : Heap) (tk : Nat) (D : Addr) (n : Nat) (vs : List Value) (wv : Option Value) (ta tb : Tok) (q0 : s' = { s with heap := h', toks := tk }) (q1 : Fr h₀ L h' (mEll want got t1 t2 D a b ta tb wv)) (q2 : News h₀ L h' [(D, listOf (List.toArray vs) n)]) (q3 : SL vs ws) (q4 : ∀ l, wo = some l → ∃ u, wv = some (.str (ofL l) u)) : EllS h₀ L want got t1 t2 ws a b wo s s'
inductive El0 (L : Addr) (want got : List Nat) (t1 t2 : Tok) (s s' : Shared) : Prop
  | mk (h' : Heap) (tk : Nat) (q0 : s' = { s with heap := h', toks := tk }) (q1 : Fr s.heap L h' (mEl0 want got t1 t2)) : El0 L want got t1 t2 s s'
inductive El1 (L : Addr) (want got : List Nat) (t1 t2 : Tok) (ws : List (List Nat)) (s s' : Shared) : Prop
  | mk (h' : Heap) (tk : Nat) (D : Addr) (vs : List Value) (q0 : s' = { s with heap := h', toks := tk }) (q1 : Fr s.heap L h' (mEl1 want got t1 t2 D)) (q2 : News s.heap L h' [(D, listOf (List.toArray vs) 0)]) (q3 : SL vs ws) : El1 L want got t1 t2 ws s s'
inductive EllP (L : Addr) (want got : List Nat) (t1 t2 : Tok) (ws : List (List Nat)) (s s' : Shared) : Prop
  | mk (ws' : List (List Nat)) (a : Nat) (p1 : 1 ≤ ws'.length) (p2 : ws'.length ≤ ws.length) (p3 : ∀ x ∈ ws', x ∈ ws) (p4 : a ≤ 10000) (p5 : EllS s.heap L want got t1 t2 ws' a got.length none s s') (p6 : ellEnd ws' got a = ellW ws got) : EllP L want got t1 t2 ws s s'
inductive EllQ (L : Addr) (want got : List Nat) (t1 t2 : Tok) (ws : List (List Nat)) (a : Nat) (s s' : Shared) : Prop
  | mk (ws' : List (List Nat)) (b : Nat) (p1 : ws'.length ≤ ws.length) (p2 : ∀ x ∈ ws', x ∈ ws) (p3 : b ≤ got.length) (p5 : EllS s.heap L want got t1 t2 ws' a b none s s') (p6 : ellGo ws' got a b = ellW ws got) : EllQ L want got t1 t2 ws a s s'
inductive EllJ (want got : List Nat) (t1 t2 : Tok) (D : Addr) (n b : Nat) (tb : Tok) (vs : List Value) (ws1 : List (List Nat)) (r : Bool) (i : Nat) (m : Str → Option Value) (news : List (Addr × Obj)) : Prop
  | mk (x : Nat) (wv : Option Value) (ta : Tok) (q0 : m = mEll want got t1 t2 D x b ta tb wv) (q1 : news = [(D, listOf (List.toArray vs) n)]) (q2 : x ≤ b) (q3 : ellRest got (ws1.drop i) x b = r) : EllJ want got t1 t2 D n b tb vs ws1 r i m news
theorem mEll_start (want got : List Nat) (t1 t2 : Tok) (D : Addr) (a b : Nat) (ta tb : Tok) (wv : Option Value) (a' : Nat) (x : Int) (hx : x = a') (t : Tok) : ∀ y : Str, (if y = "startpos" then some (.int x t) else mEll want got t1 t2 D a b ta tb wv y) = mEll want got t1 t2 D a' b t tb wv y := by
  intro y; subst hx; simp only [mEll]; by_cases e1 : y = "w"
  · subst e1; rfl
  by_cases e2 : y = "startpos"
  · subst e2; rfl
  simp only [e1, e2, if_false]
theorem mEll_end (want got : List Nat) (t1 t2 : Tok) (D : Addr) (a b : Nat) (ta tb : Tok) (wv : Option Value) (b' : Nat) (x : Int) (hx : x = b') (t : Tok) : ∀ y : Str, (if y = "endpos" then some (.int x t) else mEll want got t1 t2 D a b ta tb wv y) = mEll want got t1 t2 D a b' ta t wv y := by
  intro y; subst hx; simp only [mEll]; by_cases e1 : y = "w"
  · subst e1; rfl
  by_cases e2 : y = "startpos"
  · subst e2; rfl
  by_cases e3 : y = "endpos"
  · subst e3; rfl
  simp only [e1, e2, e3, if_false]
theorem mEll_w (want got : List Nat) (t1 t2 : Tok) (D : Addr) (a b : Nat) (ta tb : Tok) (wv : Option Value) (v : Value) : ∀ y : Str, (if y = "w" then some v else mEll want got t1 t2 D a b ta tb wv y) = mEll want got t1 t2 D a b ta tb (some v) y := by
  intro y; simp only [mEll]; by_cases e1 : y = "w"
  · subst e1; rfl
  simp only [e1, if_false]
theorem mEll_turn (want got : List Nat) (t1 t2 : Tok) (D : Addr) (a b : Nat) (ta tb : Tok) (wv : Option Value) (a' : Nat) (x : Int) (hx : x = a') (t : Tok) (q v : Value) : ∀ y : Str, (if y = "startpos" then some (.int x t) else if y = "startpos" then some q else if y = "w" then some v else mEll want got t1 t2 D a b ta tb wv y) = mEll want got t1 t2 D a' b t tb (some v) y := by
  intro y; subst hx; simp only [mEll]; by_cases e1 : y = "w"
  · subst e1; rfl
  by_cases e2 : y = "startpos"
  · subst e2; rfl
  simp only [e1, e2, if_false]
theorem l_dots : Str.ofString "..." = ofL [46, 46, 46] := by decide
local macro_rules | `(tactic| walk_at "call builtin:str.startswith") => `(tactic| refine startsL ?_)
local macro_rules | `(tactic| walk_at "call builtin:str.endswith") => `(tactic| refine endsL ?_)
local macro_rules | `(tactic| walk_at "call builtin:str.split") => `(tactic| refine stopHere ?_)
theorem ellNo {w : World} {A : Around} {s : Shared} {Q E : Value → Shared → Prop} {want got : List Nat} {t1 t2 : Tok} (hx1 : want.length ≤ 10000) (hx2 : got.length ≤ 10000) (hno : (Builtin.Str.occurrences (ofL want) (ofL [46, 46, 46]) 0 (ofL want).length 1).isEmpty = true) (G : Gd w s.heap) (hroom : A.depth < recursionLimit) (hh : A.handled = none)
   (h : ∀ h' tk, Ext s.heap h' → Q (.bool (decide (want = got))) { s with heap := h', toks := tk }) :
   wpAny (model Challenge.rw_wa0026_01.row.prog w) A (call (.ref 21) [.str (ofL want) t1, .str (ofL got) t2]) Q E s := by
  obtain ⟨hd0, dp, frs, gds, un⟩ := A
  simp only at hh hroom
  subst hh
  obtain ⟨X, mg, mb, T⟩ := G
  revert X
  k_fill
  intro X
  refine' callD (K := hd.heap_39 w.params) (binds := [("want", .str (ofL want) t1), ("got", .str (ofL got) t2)]) X T.nolimit hroom ?k1 ?k2 ?k3 ?k4 ?_ ?k5 ?k6 ?k7 ?k8
  case k1 => k_is
  case k2 => k_is
  case k3 => exact rfl
  case k4 => exact locs rfl
  case k5 => decide
  case k6 => exact rfl
  case k7 => exact rfl
  case k8 => exact rfl
  intro L h₁ F N
  have hff := F.keep
  (try dsimp only)
  repeat' (first | ((with_reducible show wpAny _ _ (PySem.call (Value.builtin "len") [_]) _ _ _); (first | (refine' lenL ?hz ?_; (case hz => omega)) | (refine' len_list ?hl ?hf ?_; (case hl => exact News.isList (by assumption) (.head _)); (case hf => omega)))) | ((with_reducible show wpAny _ _ (PySem.truthy (Value.str _ _)) _ _ _); (refine' truthyL ?hz ?_; (case hz => omega))) | ((with_reducible show wpAny _ _ (PySem.call (Value.builtin "str.find") [_, _, _, _]) _ _ _); (refine' find4 ?hb ?_; (case hb => assumption))) | ((with_reducible show wpAny _ _ (delItem (Value.ref _) (Value.int _ _)) _ _ _); (refine' delL (by assumption) (by assumption) ?hf ?hk ?hz ?_; (case hf => decide); (case hk => first | exact seqIndex_at (by decide) (by omega) | exact seqIndex_back (by decide) (by omega)); (case hz => omega); intro _ _ _ _)) | ((with_reducible show wpAny _ _ (subscriptTail (Expr.Name _ _) (Expr.UnaryOp _ _ _) (Value.ref _) (Value.int _ _)) _ _ _); (refine' listLast ?hl ?hx ?_ (by with_unfolding_all rfl) (by intro _; with_unfolding_all rfl); (case hl => exact News.isList (by assumption) (.head _)); (case hx => assumption))) | walk1)
  · show Q (.bool (ofL want == ofL got)) _
    rw [ofL_beq]
    exact h _ _ hff
  · rename_i hc
    rw [l_dots, hno] at hc
    exact absurd hc (by decide)
theorem ellIn {w : World} {A : Around} {s : Shared} {Q E : Value → Shared → Prop} {want got : List Nat} {ws : List (List Nat)} {t1 t2 : Tok} (hx1 : want.length ≤ 10000) (hx2 : got.length ≤ 10000) (hin : (Builtin.Str.occurrences (ofL want) (ofL [46, 46, 46]) 0 (ofL want).length 1).isEmpty = false)
   (hs : Txt.split (ofL want) (ofL [46, 46, 46]) = ws.map ofL) (h2 : 2 ≤ ws.length) (hw : ws.length ≤ 1000) (hwl : ∀ x ∈ ws, x.length ≤ 10000) (G : Gd w s.heap) (hroom : A.depth < recursionLimit) (hh : A.handled = none)
   (h : ∀ h' tk, Ext s.heap h' → Q (.bool (ellW ws got)) { s with heap := h', toks := tk }) :
   wpAny (model Challenge.rw_wa0026_01.row.prog w) A (call (.ref 21) [.str (ofL want) t1, .str (ofL got) t2]) Q E s := by
  obtain ⟨hd0, dp, frs, gds, un⟩ := A
  simp only at hh hroom
  subst hh
  obtain ⟨X, mg, mb, T⟩ := G
  revert X
  k_fill
  intro X
  refine' callD (K := hd.heap_39 w.params) (binds := [("want", .str (ofL want) t1), ("got", .str (ofL got) t2)]) X T.nolimit hroom ?k1 ?k2 ?k3 ?k4 ?_ ?k5 ?k6 ?k7 ?k8
  case k1 => k_is
  case k2 => k_is
  case k3 => exact rfl
  case k4 => exact locs rfl
  case k5 => decide
  case k6 => exact rfl
  case k7 => exact rfl
  case k8 => exact rfl
  intro L h₁ F N
  have hff := F.keep
  (try dsimp only)
  replace F : Fr s.heap L h₁ (mEl0 want got t1 t2) := Fr.to F (mEl0_start want got t1 t2)
  with_reducible refine seqO (El0 L want got t1 t2 s) ?_ ?_
  · intro R hNx hRt
    repeat' (first | ((with_reducible show wpAny _ _ (PySem.call (Value.builtin "len") [_]) _ _ _); (first | (refine' lenL ?hz ?_; (case hz => omega)) | (refine' len_list ?hl ?hf ?_; (case hl => exact News.isList (by assumption) (.head _)); (case hf => omega)))) | ((with_reducible show wpAny _ _ (PySem.truthy (Value.str _ _)) _ _ _); (refine' truthyL ?hz ?_; (case hz => omega))) | ((with_reducible show wpAny _ _ (PySem.call (Value.builtin "str.find") [_, _, _, _]) _ _ _); (refine' find4 ?hb ?_; (case hb => assumption))) | ((with_reducible show wpAny _ _ (delItem (Value.ref _) (Value.int _ _)) _ _ _); (refine' delL (by assumption) (by assumption) ?hf ?hk ?hz ?_; (case hf => decide); (case hk => first | exact seqIndex_at (by decide) (by omega) | exact seqIndex_back (by decide) (by omega)); (case hz => omega); intro _ _ _ _)) | ((with_reducible show wpAny _ _ (subscriptTail (Expr.Name _ _) (Expr.UnaryOp _ _ _) (Value.ref _) (Value.int _ _)) _ _ _); (refine' listLast ?hl ?hx ?_ (by with_unfolding_all rfl) (by intro _; with_unfolding_all rfl); (case hl => exact News.isList (by assumption) (.head _)); (case hx => assumption))) | walk1)
    · rename_i hc
      rw [l_dots, hin] at hc
      exact absurd hc (by decide)
    · exact hNx _ ⟨_, _, rfl, F⟩
  clear F N
  rintro _ ⟨h', tk, rfl, F⟩
  have N : News s.heap L h' [] := News.nil
  with_reducible refine seqO (El1 L want got t1 t2 ws s) ?_ ?_
  · intro R hNx hRt
    repeat' (first | ((with_reducible show wpAny _ _ (PySem.call (Value.builtin "len") [_]) _ _ _); (first | (refine' lenL ?hz ?_; (case hz => omega)) | (refine' len_list ?hl ?hf ?_; (case hl => exact News.isList (by assumption) (.head _)); (case hf => omega)))) | ((with_reducible show wpAny _ _ (PySem.truthy (Value.str _ _)) _ _ _); (refine' truthyL ?hz ?_; (case hz => omega))) | ((with_reducible show wpAny _ _ (PySem.call (Value.builtin "str.find") [_, _, _, _]) _ _ _); (refine' find4 ?hb ?_; (case hb => assumption))) | ((with_reducible show wpAny _ _ (delItem (Value.ref _) (Value.int _ _)) _ _ _); (refine' delL (by assumption) (by assumption) ?hf ?hk ?hz ?_; (case hf => decide); (case hk => first | exact seqIndex_at (by decide) (by omega) | exact seqIndex_back (by decide) (by omega)); (case hz => omega); intro _ _ _ _)) | ((with_reducible show wpAny _ _ (subscriptTail (Expr.Name _ _) (Expr.UnaryOp _ _ _) (Value.ref _) (Value.int _ _)) _ _ _); (refine' listLast ?hl ?hx ?_ (by with_unfolding_all rfl) (by intro _; with_unfolding_all rfl); (case hl => exact News.isList (by assumption) (.head _)); (case hx => assumption))) | walk1)
    unfold Stopped
    rw [l_dots]
    refine splitL F N (by decide) hs (by omega) fun vs h2 tk2 hv F2 N2 => ?_
    refine stN F2 N2 (fun h3 F3 N3 => ?_) rfl rfl
    exact hNx _ ⟨h3, _, _, vs, rfl, Fr.to F3 (by (intro y; simp only [mEll, mEl1, mEl0]; first | done | (by_cases e1 : y = "w"; (subst e1; rfl); by_cases e2 : y = "startpos"; (subst e2; rfl); by_cases e3 : y = "endpos"; (subst e3; rfl); by_cases e4 : y = "ws"; (subst e4; rfl); by_cases e5 : y = "got"; (subst e5; rfl); by_cases e6 : y = "want"; (subst e6; rfl); simp only [e1, e2, e3, e4, e5, e6, if_false]))), N3, hv⟩
  clear F N
  rintro _ ⟨h', tk, D, vs, rfl, F, N, hv⟩
  have hsz : ((List.toArray vs).size : Int) = ws.length := by rw [List.size_toArray, hv.length]
  with_reducible refine seqO (El1 L want got t1 t2 ws s) ?_ ?_
  · intro R hNx hRt
    repeat' (first | ((with_reducible show wpAny _ _ (PySem.call (Value.builtin "len") [_]) _ _ _); (first | (refine' lenL ?hz ?_; (case hz => omega)) | (refine' len_list ?hl ?hf ?_; (case hl => exact News.isList (by assumption) (.head _)); (case hf => omega)))) | ((with_reducible show wpAny _ _ (PySem.truthy (Value.str _ _)) _ _ _); (refine' truthyL ?hz ?_; (case hz => omega))) | ((with_reducible show wpAny _ _ (PySem.call (Value.builtin "str.find") [_, _, _, _]) _ _ _); (refine' find4 ?hb ?_; (case hb => assumption))) | ((with_reducible show wpAny _ _ (delItem (Value.ref _) (Value.int _ _)) _ _ _); (refine' delL (by assumption) (by assumption) ?hf ?hk ?hz ?_; (case hf => decide); (case hk => first | exact seqIndex_at (by decide) (by omega) | exact seqIndex_back (by decide) (by omega)); (case hz => omega); intro _ _ _ _)) | ((with_reducible show wpAny _ _ (subscriptTail (Expr.Name _ _) (Expr.UnaryOp _ _ _) (Value.ref _) (Value.int _ _)) _ _ _); (refine' listLast ?hl ?hx ?_ (by with_unfolding_all rfl) (by intro _; with_unfolding_all rfl); (case hl => exact News.isList (by assumption) (.head _)); (case hx => assumption))) | walk1)
    exact hNx _ ⟨_, _, D, vs, rfl, F, N, hv⟩
  clear F N hsz
  rintro _ ⟨h', tk, D, vs, rfl, F, N, hv⟩
  with_reducible refine seqO (EllS s.heap L want got t1 t2 ws 0 got.length none s) ?_ ?_
  · intro R hNx hRt
    repeat' (first | ((with_reducible show wpAny _ _ (PySem.call (Value.builtin "len") [_]) _ _ _); (first | (refine' lenL ?hz ?_; (case hz => omega)) | (refine' len_list ?hl ?hf ?_; (case hl => exact News.isList (by assumption) (.head _)); (case hf => omega)))) | ((with_reducible show wpAny _ _ (PySem.truthy (Value.str _ _)) _ _ _); (refine' truthyL ?hz ?_; (case hz => omega))) | ((with_reducible show wpAny _ _ (PySem.call (Value.builtin "str.find") [_, _, _, _]) _ _ _); (refine' find4 ?hb ?_; (case hb => assumption))) | ((with_reducible show wpAny _ _ (delItem (Value.ref _) (Value.int _ _)) _ _ _); (refine' delL (by assumption) (by assumption) ?hf ?hk ?hz ?_; (case hf => decide); (case hk => first | exact seqIndex_at (by decide) (by omega) | exact seqIndex_back (by decide) (by omega)); (case hz => omega); intro _ _ _ _)) | ((with_reducible show wpAny _ _ (subscriptTail (Expr.Name _ _) (Expr.UnaryOp _ _ _) (Value.ref _) (Value.int _ _)) _ _ _); (refine' listLast ?hl ?hx ?_ (by with_unfolding_all rfl) (by intro _; with_unfolding_all rfl); (case hl => exact News.isList (by assumption) (.head _)); (case hx => assumption))) | walk1)
    refine' hNx _ ⟨_, _, D, 0, vs, none, ?ta, ?tb, rfl, Fr.to (by assumption) ?hm, News.sub (by assumption) ?hn, hv, fun _ e => nomatch e⟩
    case hm => (intro y; simp only [mEll, mEl1, mEl0]; first | done | (by_cases e1 : y = "w"; (subst e1; rfl); by_cases e2 : y = "startpos"; (subst e2; rfl); by_cases e3 : y = "endpos"; (subst e3; rfl); by_cases e4 : y = "ws"; (subst e4; rfl); by_cases e5 : y = "got"; (subst e5; rfl); by_cases e6 : y = "want"; (subst e6; rfl); simp only [e1, e2, e3, e4, e5, e6, if_false]))
    case hn => intro p hp; exact .tail _ hp
  clear F N
  rintro _ ⟨h', tk, D, n, vs, wv, ta, tb, rfl, F, N, hv, _⟩
  obtain ⟨w0, hw0⟩ : ∃ w0, ws[0]? = some w0 := by cases ws with
    | nil => simp at h2
    | cons a r => exact ⟨a, rfl⟩
  with_reducible refine seqO (EllS s.heap L want got t1 t2 ws 0 got.length (some w0) s) ?_ ?_
  · intro R hNx hRt
    obtain ⟨u0, hu0⟩ := hv.at 0 hw0
    refine wpAny_Assign_Name (Subscript_ (ld F rfl (wpAny_Constant_int (listAt (News.isList N (.head _)) (by decide) (by decide) hu0 ?_ (by with_unfolding_all rfl) (by intro _; with_unfolding_all rfl)))))
    refine stN F N (fun h3 F3 N3 => ?_) rfl rfl
    exact hNx _ ⟨h3, _, D, n, vs, some (.str (ofL w0) u0), ta, tb, rfl, Fr.to F3 (by (intro y; simp only [mEll, mEl1, mEl0]; first | done | (by_cases e1 : y = "w"; (subst e1; rfl); by_cases e2 : y = "startpos"; (subst e2; rfl); by_cases e3 : y = "endpos"; (subst e3; rfl); by_cases e4 : y = "ws"; (subst e4; rfl); by_cases e5 : y = "got"; (subst e5; rfl); by_cases e6 : y = "want"; (subst e6; rfl); simp only [e1, e2, e3, e4, e5, e6, if_false]))), N3, hv, fun l e => by cases e; exact ⟨u0, rfl⟩⟩
  clear F N hv
  rintro _ ⟨h', tk, D, n, vs, wv, ta, tb, rfl, F, N, hv, hwv⟩
  obtain ⟨u0, rfl⟩ := hwv w0 rfl
  have hw0l : w0.length ≤ 10000 := hwl _ (List.mem_of_getElem? hw0)
  have hg0 : ws.getD 0 [] = w0 := by rw [List.getD_eq_getElem?_getD, hw0]; rfl
  have hvl : vs.length = ws.length := hv.length
  with_reducible refine seqO (EllP L want got t1 t2 ws s) ?_ ?_
  · intro R hNx hRt
    have hff := F.keep
    repeat' (first | ((with_reducible show wpAny _ _ (PySem.call (Value.builtin "len") [_]) _ _ _); (first | (refine' lenL ?hz ?_; (case hz => omega)) | (refine' len_list ?hl ?hf ?_; (case hl => exact News.isList (by assumption) (.head _)); (case hf => omega)))) | ((with_reducible show wpAny _ _ (PySem.truthy (Value.str _ _)) _ _ _); (refine' truthyL ?hz ?_; (case hz => omega))) | ((with_reducible show wpAny _ _ (PySem.call (Value.builtin "str.find") [_, _, _, _]) _ _ _); (refine' find4 ?hb ?_; (case hb => assumption))) | ((with_reducible show wpAny _ _ (delItem (Value.ref _) (Value.int _ _)) _ _ _); (refine' delL (by assumption) (by assumption) ?hf ?hk ?hz ?_; (case hf => decide); (case hk => first | exact seqIndex_at (by decide) (by omega) | exact seqIndex_back (by decide) (by omega)); (case hz => omega); intro _ _ _ _)) | ((with_reducible show wpAny _ _ (subscriptTail (Expr.Name _ _) (Expr.UnaryOp _ _ _) (Value.ref _) (Value.int _ _)) _ _ _); (refine' listLast ?hl ?hx ?_ (by with_unfolding_all rfl) (by intro _; with_unfolding_all rfl); (case hl => exact News.isList (by assumption) (.head _)); (case hx => assumption))) | walk1)
    · rename_i hne _ hoc hX fa na h9 n9 F9 N9
      have F9' := Fr.to F9 (mEll_start want got t1 t2 D 0 got.length ta tb (some (.str (ofL w0) u0)) w0.length _ (by simp only [ofL_length]) _)
      refine' hNx _ ⟨ws.eraseIdx 0, w0.length, ?l1, ?l2, ?l3, hw0l, ⟨h9, _, D, n9, vs.eraseIdx 0, some (.str (ofL w0) u0), _, tb, rfl, F9', N9, hv.erase 0, fun _ e => nomatch e⟩, ?l4⟩
      case l1 => rw [List.length_eraseIdx]; split <;> omega
      case l2 => rw [List.length_eraseIdx]; split <;> omega
      case l3 => exact fun x hx => List.mem_of_mem_eraseIdx hx
      case l4 => unfold ellW; rw [hg0, if_neg hne, hoc]; rfl
    · rename_i hne hoc
      have e : ellW ws got = false := by unfold ellW; rw [hg0, if_neg hne, hoc]; rfl
      refine hRt _ _ ?_
      exact e ▸ h _ _ hff
    · rename_i he
      have he' : w0 = [] := Classical.not_not.mp he
      refine hNx _ ⟨ws, 0, by omega, Nat.le_refl _, fun x hx => hx, by omega, ⟨h', _, D, n, vs, _, ta, tb, rfl, F, N, hv, fun _ e => nomatch e⟩, ?_⟩
      unfold ellW; rw [hg0, if_pos he']
  clear F N hv hvl hw0l hg0 hwv
  rintro _ ⟨ws1, a, hn1, hn2, hsub, ha, ⟨h', tk, D, n, vs, wv, ta, tb, rfl, F, N, hv, _⟩, hres⟩
  obtain ⟨w1, hw1⟩ : ∃ w1, ws1[ws1.length - 1]? = some w1 := ⟨ws1[ws1.length - 1], by simp⟩
  have hg1 : ws1.getD (ws1.length - 1) [] = w1 := by rw [List.getD_eq_getElem?_getD, hw1]; rfl
  have hw1l : w1.length ≤ 10000 := hwl _ (hsub _ (List.mem_of_getElem? hw1))
  have hvl : vs.length = ws1.length := hv.length
  with_reducible refine seqO (EllS s.heap L want got t1 t2 ws1 a got.length (some w1) s) ?_ ?_
  · intro R hNx hRt
    obtain ⟨u1, hu1⟩ := hv.at _ hw1
    rw [← hvl] at hu1
    repeat' (first | ((with_reducible show wpAny _ _ (PySem.call (Value.builtin "len") [_]) _ _ _); (first | (refine' lenL ?hz ?_; (case hz => omega)) | (refine' len_list ?hl ?hf ?_; (case hl => exact News.isList (by assumption) (.head _)); (case hf => omega)))) | ((with_reducible show wpAny _ _ (PySem.truthy (Value.str _ _)) _ _ _); (refine' truthyL ?hz ?_; (case hz => omega))) | ((with_reducible show wpAny _ _ (PySem.call (Value.builtin "str.find") [_, _, _, _]) _ _ _); (refine' find4 ?hb ?_; (case hb => assumption))) | ((with_reducible show wpAny _ _ (delItem (Value.ref _) (Value.int _ _)) _ _ _); (refine' delL (by assumption) (by assumption) ?hf ?hk ?hz ?_; (case hf => decide); (case hk => first | exact seqIndex_at (by decide) (by omega) | exact seqIndex_back (by decide) (by omega)); (case hz => omega); intro _ _ _ _)) | ((with_reducible show wpAny _ _ (subscriptTail (Expr.Name _ _) (Expr.UnaryOp _ _ _) (Value.ref _) (Value.int _ _)) _ _ _); (refine' listLast ?hl ?hx ?_ (by with_unfolding_all rfl) (by intro _; with_unfolding_all rfl); (case hl => exact News.isList (by assumption) (.head _)); (case hx => assumption))) | walk1)
    rename_i h9 F9 N9
    exact hNx _ ⟨h9, _, D, n, vs, _, ta, tb, rfl, Fr.to F9 (mEll_w want got t1 t2 D a got.length ta tb wv _), N9, hv, fun l e => by cases e; exact ⟨u1, rfl⟩⟩
  clear F N hv hvl
  rintro _ ⟨h', tk, D, n, vs, wv, ta, tb, rfl, F, N, hv, hwv⟩
  obtain ⟨u1, rfl⟩ := hwv w1 rfl
  have hvl : vs.length = ws1.length := hv.length
  with_reducible refine seqO (EllQ L want got t1 t2 ws a s) ?_ ?_
  · intro R hNx hRt
    have hff := F.keep
    repeat' (first | ((with_reducible show wpAny _ _ (PySem.call (Value.builtin "len") [_]) _ _ _); (first | (refine' lenL ?hz ?_; (case hz => omega)) | (refine' len_list ?hl ?hf ?_; (case hl => exact News.isList (by assumption) (.head _)); (case hf => omega)))) | ((with_reducible show wpAny _ _ (PySem.truthy (Value.str _ _)) _ _ _); (refine' truthyL ?hz ?_; (case hz => omega))) | ((with_reducible show wpAny _ _ (PySem.call (Value.builtin "str.find") [_, _, _, _]) _ _ _); (refine' find4 ?hb ?_; (case hb => assumption))) | ((with_reducible show wpAny _ _ (delItem (Value.ref _) (Value.int _ _)) _ _ _); (refine' delL (by assumption) (by assumption) ?hf ?hk ?hz ?_; (case hf => decide); (case hk => first | exact seqIndex_at (by decide) (by omega) | exact seqIndex_back (by decide) (by omega)); (case hz => omega); intro _ _ _ _)) | ((with_reducible show wpAny _ _ (subscriptTail (Expr.Name _ _) (Expr.UnaryOp _ _ _) (Value.ref _) (Value.int _ _)) _ _ _); (refine' listLast ?hl ?hx ?_ (by with_unfolding_all rfl) (by intro _; with_unfolding_all rfl); (case hl => exact News.isList (by assumption) (.head _)); (case hx => assumption))) | walk1)
    · rename_i hne _ hoc hX fa na h9 n9 F9 N9
      have hle : w1.length ≤ got.length := by
        simp only [Bool.and_eq_true, decide_eq_true_eq] at hoc
        exact hoc.1
      have F9' := Fr.to F9 (mEll_end want got t1 t2 D a got.length ta tb (some (.str (ofL w1) u1)) (got.length - w1.length) _ (by first | omega | (simp only [ofL_length]; omega)) _)
      have hk : (-1 + (vs.length : Int)).toNat = ws1.length - 1 := by omega
      rw [hk] at N9
      refine' hNx _ ⟨ws1.eraseIdx (ws1.length - 1), got.length - w1.length, ?l2, ?l3, Nat.sub_le _ _, ⟨h9, _, D, n9, vs.eraseIdx (ws1.length - 1), some (.str (ofL w1) u1), ta, _, rfl, F9', N9, hv.erase _, fun _ e => nomatch e⟩, ?l4⟩
      case l2 => rw [List.length_eraseIdx]; split <;> omega
      case l3 => exact fun x hx => hsub x (List.mem_of_mem_eraseIdx hx)
      case l4 => rw [← hres]; unfold ellEnd; rw [hg1, if_neg hne, if_pos hoc]
    · rename_i hne hoc
      have e : ellW ws got = false := by rw [← hres]; unfold ellEnd; rw [hg1, if_neg hne, hoc]; rfl
      refine hRt _ _ ?_
      exact e ▸ h _ _ hff
    · rename_i he
      have he' : w1 = [] := Classical.not_not.mp he
      refine hNx _ ⟨ws1, got.length, hn2, hsub, Nat.le_refl _, ⟨h', _, D, n, vs, _, ta, tb, rfl, F, N, hv, fun _ e => nomatch e⟩, ?_⟩
      rw [← hres]; unfold ellEnd; rw [hg1, if_pos he']
  clear F N hv hvl hg1 hw1l hres hsub hn1 hn2 hw1 ws1 
  rintro _ ⟨ws1, b, hn2, hsub, hb, ⟨h', tk, D, n, vs, wv, ta, tb, rfl, F, N, hv, _⟩, hres⟩
  have hvl : vs.length = ws1.length := hv.length
  with_reducible refine seqO (fun s' => a ≤ b ∧ ellRest got ws1 a b = ellW ws got ∧ EllS s.heap L want got t1 t2 ws1 a b none s s') ?_ ?_
  · intro R hNx hRt
    have hff := F.keep
    repeat' (first | ((with_reducible show wpAny _ _ (PySem.call (Value.builtin "len") [_]) _ _ _); (first | (refine' lenL ?hz ?_; (case hz => omega)) | (refine' len_list ?hl ?hf ?_; (case hl => exact News.isList (by assumption) (.head _)); (case hf => omega)))) | ((with_reducible show wpAny _ _ (PySem.truthy (Value.str _ _)) _ _ _); (refine' truthyL ?hz ?_; (case hz => omega))) | ((with_reducible show wpAny _ _ (PySem.call (Value.builtin "str.find") [_, _, _, _]) _ _ _); (refine' find4 ?hb ?_; (case hb => assumption))) | ((with_reducible show wpAny _ _ (delItem (Value.ref _) (Value.int _ _)) _ _ _); (refine' delL (by assumption) (by assumption) ?hf ?hk ?hz ?_; (case hf => decide); (case hk => first | exact seqIndex_at (by decide) (by omega) | exact seqIndex_back (by decide) (by omega)); (case hz => omega); intro _ _ _ _)) | ((with_reducible show wpAny _ _ (subscriptTail (Expr.Name _ _) (Expr.UnaryOp _ _ _) (Value.ref _) (Value.int _ _)) _ _ _); (refine' listLast ?hl ?hx ?_ (by with_unfolding_all rfl) (by intro _; with_unfolding_all rfl); (case hl => exact News.isList (by assumption) (.head _)); (case hx => assumption))) | walk1)
    · rename_i hlt
      have e : ellW ws got = false := by rw [← hres]; unfold ellGo; rw [if_pos (by omega)]
      refine hRt _ _ ?_
      exact e ▸ h _ _ hff
    · rename_i hlt
      refine hNx _ ⟨by omega, ?_, ⟨h', _, D, n, vs, _, ta, tb, rfl, F, N, hv, fun _ e => nomatch e⟩⟩
      rw [← hres]; unfold ellGo; rw [if_neg (by omega)]
  clear F N hv hvl hres
  rintro _ ⟨hab, hres, ⟨h', tk, D, n, vs, wv, ta, tb, rfl, F, N, hv, _⟩⟩
  have hvl : vs.length = ws1.length := hv.length
  have hff := F.keep
  with_reducible refine seqO (fun s' => ∃ h' tk, Ext s.heap h' ∧ s' = { s with heap := h', toks := tk } ∧ ellW ws got = true) ?_ ?_
  · intro R hNx hRt
    refine forJ s.heap ?_ (fun _ => rfl)
    refine ld F rfl (wpAny_pyIter_list (News.isList N (.head _)) ?_)
    have hN := N
    have hF := F
    have hsz : h'.objs.size ≠ L := Nat.ne_of_gt hF.ns.lt
    have hDl : D ≠ h'.objs.size := Nat.ne_of_lt (Heap.lt_size (hN _ (.head _)).1)
    refine ⟨_, _, _, _, _, _, _, _, EllJ want got t1 t2 D n b tb vs ws1 (ellW ws got), rfl, Walks.list rfl h'.objs.size D hDl (List.toArray vs), ?_, ?_, ?_, ?_, hF.push _, hN.pushKeep _, ?_, ⟨a, wv, ta, rfl, rfl, hab, by simpa using hres⟩, ?_, ?_⟩
    · show L ∉ [h'.objs.size, D]
      intro e
      rcases List.mem_cons.mp e with e | e
      · exact hsz e.symm
      · exact (hN _ (.head _)).2.1 (List.mem_singleton.mp e).symm
    · intro b' hb'
      rw [List.mem_singleton.mp hb']
      exact hF.fresh
    · intro p hp
      exact fun e => absurd (Heap.lt_size (hN p hp).1) (List.mem_singleton.mp e ▸ Nat.lt_irrefl _)
    · exact ⟨⟨_, Heap.get?_push_size _ rfl, rfl, rfl⟩, News.isList (hN.pushKeep _) (.head _)⟩
    · intro i s' v Q' _ hq
      exact wpAny_pure hq
    · clear hF hN F N
      rintro i v _ _ s₁ own hi hP ⟨x, wv', ta', rfl, rfl, hxb, hr⟩ hw' ho hin hst hg hos F N
      rw [List.getElem?_toArray] at hP
      have hi' : i < ws1.length := by rw [← hvl]; simpa using hi
      obtain ⟨l, u, hl, rfl⟩ := hv.at' i hP
      have hff' := F.keep
      have hll := hwl _ (hsub _ (List.mem_of_getElem? hl))
      replace F : Fr s.heap L s₁.heap _ := F
      have hdr : ws1.drop i = l :: ws1.drop (i + 1) := by
        rw [List.drop_eq_getElem_cons (by omega)]
        congr 1
        have := List.getElem?_eq_getElem (l := ws1) (i := i) (by omega)
        rw [this] at hl; exact Option.some.inj hl
      rw [hdr] at hr
      repeat' (first | ((with_reducible show wpAny _ _ (PySem.call (Value.builtin "len") [_]) _ _ _); (first | (refine' lenL ?hz ?_; (case hz => omega)) | (refine' len_list ?hl ?hf ?_; (case hl => exact News.isList (by assumption) (.head _)); (case hf => omega)))) | ((with_reducible show wpAny _ _ (PySem.truthy (Value.str _ _)) _ _ _); (refine' truthyL ?hz ?_; (case hz => omega))) | ((with_reducible show wpAny _ _ (PySem.call (Value.builtin "str.find") [_, _, _, _]) _ _ _); (refine' find4 ?hb ?_; (case hb => assumption))) | ((with_reducible show wpAny _ _ (delItem (Value.ref _) (Value.int _ _)) _ _ _); (refine' delL (by assumption) (by assumption) ?hf ?hk ?hz ?_; (case hf => decide); (case hk => first | exact seqIndex_at (by decide) (by omega) | exact seqIndex_back (by decide) (by omega)); (case hz => omega); intro _ _ _ _)) | ((with_reducible show wpAny _ _ (subscriptTail (Expr.Name _ _) (Expr.UnaryOp _ _ _) (Value.ref _) (Value.int _ _)) _ _ _); (refine' listLast ?hl ?hx ?_ (by with_unfolding_all rfl) (by intro _; with_unfolding_all rfl); (case hl => exact News.isList (by assumption) (.head _)); (case hx => assumption))) | walk1)
      · rename_i F9 _ _ hlt
        have e : ellW ws got = false := by
          rw [← hr]; unfold ellRest
          cases hf : findFrom got l x b with
          | none => rfl
          | some j => rw [hf] at hlt; exact absurd hlt (by simp only [findI]; omega)
        have hs : ∀ hp tk, ({ heap := hp, gens := s₁.gens, drawn := s₁.drawn, toks := tk, os := s₁.os } : Shared) = { s with heap := hp, toks := tk } := fun hp tk => by rw [hg.1, hg.2, hos]
        refine hRt _ _ ?_
        show Q (.bool false) _
        rw [hs, ← e]
        exact h _ _ F9.keep
      · rename_i hge h9 F9 N9
        cases hf : findFrom got l x b with
        | none => rw [hf] at hge; exact absurd (show findI none < 0 by decide) hge
        | some j =>
          have hj := List.find?_some hf
          simp only [occB, Bool.and_eq_true, decide_eq_true_eq] at hj
          rw [hf] at F9
          refine ⟨h9, _, mEll want got t1 t2 D (j + l.length) b _ tb (some (.str (ofL l) u)), [(D, listOf (List.toArray vs) n)], rfl, Fr.to F9 (mEll_turn want got t1 t2 D x b ta' tb wv' (j + l.length) _ ?_ _ _ _), N9, hw', ⟨_, _, _, rfl, rfl, hj.1, ?_⟩⟩
          · simp only [findI, ofL_length]; omega
          · rw [← hr]
            conv => rhs; unfold ellRest
            rw [hf]
    · rintro h2 tk2 m2 news2 F2 N2 _ ⟨x, wv', ta', rfl, rfl, hxb, hr⟩
      refine hNx _ ⟨h2, tk2, F2.keep, rfl, ?_⟩
      rw [← hr, List.drop_eq_nil_of_le (by simp [hvl])]
      rfl
  rintro _ ⟨h', tk, hx, rfl, hr⟩
  with_reducible refine lastJ ?_
  repeat' (first | ((with_reducible show wpAny _ _ (PySem.call (Value.builtin "len") [_]) _ _ _); (first | (refine' lenL ?hz ?_; (case hz => omega)) | (refine' len_list ?hl ?hf ?_; (case hl => exact News.isList (by assumption) (.head _)); (case hf => omega)))) | ((with_reducible show wpAny _ _ (PySem.truthy (Value.str _ _)) _ _ _); (refine' truthyL ?hz ?_; (case hz => omega))) | ((with_reducible show wpAny _ _ (PySem.call (Value.builtin "str.find") [_, _, _, _]) _ _ _); (refine' find4 ?hb ?_; (case hb => assumption))) | ((with_reducible show wpAny _ _ (delItem (Value.ref _) (Value.int _ _)) _ _ _); (refine' delL (by assumption) (by assumption) ?hf ?hk ?hz ?_; (case hf => decide); (case hk => first | exact seqIndex_at (by decide) (by omega) | exact seqIndex_back (by decide) (by omega)); (case hz => omega); intro _ _ _ _)) | ((with_reducible show wpAny _ _ (subscriptTail (Expr.Name _ _) (Expr.UnaryOp _ _ _) (Value.ref _) (Value.int _ _)) _ _ _); (refine' listLast ?hl ?hx ?_ (by with_unfolding_all rfl) (by intro _; with_unfolding_all rfl); (case hl => exact News.isList (by assumption) (.head _)); (case hx => assumption))) | walk1)
  exact hr ▸ h _ _ hx
end Mine

-- B12
namespace Mine
open PySem PySem.W PySem.Calls PyProof.Rows
set_option Elab.async false
set_option maxRecDepth 100000
section
variable {M : Model} {A : Around} {R : GenEnd} {Y : Protocol} {n : Nat} {s₀ : Shared} {c : Code} {fs : List Frame} {s : Shared} {env : Env}
  {K : Flow → Sem Fin} {H : Value → Sem Fin} {gd : Bool → Bool} {lv : List Value → List Value}
theorem seg_exec {st : Stmt} (h : wpAny M (A.over c fs) (exec st env) (fun f s' => Seg M A R Y n s₀ c (K f) fs s') (fun _ _ => False) s) :
    Seg M A R Y n s₀ c ((exec st env).wrap K H gd lv) fs s := seg_wrap (wpAny_noRaise h)
theorem seg_If {test : Expr} {body orelse : List Stmt} {pos : Pos}
    (h : wpAny M (A.over c fs) (isTrue test env (eval test env)) (fun b s' => if b = true then Seg M A R Y n s₀ c ((execs body env).wrap K H gd lv) fs s' else Seg M A R Y n s₀ c ((execs orelse env).wrap K H gd lv) fs s') (fun _ _ => False) s) :
    Seg M A R Y n s₀ c ((exec (.If test body orelse pos) env).wrap K H gd lv) fs s := by
  rw [exec_If]
  refine seg_bind_wrap (wpAny_standAt (seg_bind_wrap (wpAny_noRaise (wpAny_mono h (fun b s' hb => ?_) fun _ _ x => x))))
  cases b
  · rw [if_neg Bool.false_ne_true] at hb ⊢; exact hb
  · rw [if_pos rfl] at hb ⊢; exact hb
theorem seg_For {target iter : Expr} {body orelse : List Stmt} {pos : Pos}
    (h : wpAny M (A.over c fs) (eval iter env) (fun xv s₁ => wpAny M (A.over c fs) (pyIter xv) (fun it s₂ => ∀ p, Seg M A R Y n s₀ (.forLoop target it body orelse env) (M.den (.forLoop target it body orelse env))
      (.ret (fun r => ((match r with | .ok f => (.pure f : Sem Flow) | .error e => .raise e).onRaise fun (x : Value) => do
        if (← field x 1) == Value.none then unsupported "frame.own-activation:exception-without-traceback"
        setFlight x env.frame).wrap K H gd lv) none (gd false) (lv []) c p [] :: fs) s₂) (fun _ _ => False) s₁) (fun _ _ => False) s)
    (hs : ∀ x, foldedSetIterable iter env x = pure x) :
    Seg M A R Y n s₀ c ((exec (.For target iter body orelse pos) env).wrap K H gd lv) fs s := by
  rw [exec_For]
  refine seg_bind_wrap (wpAny_standAt (seg_bind_wrap (wpAny_noRaise (wpAny_mono h (fun xv s₁ h₁ => ?_) fun _ _ x => x))))
  refine seg_bind_wrap (wpAny_of_eq (hs xv) (seg_bind_wrap (wpAny_standAt (seg_bind_wrap (wpAny_noRaise (wpAny_holding (wpAny_mono h₁ (fun it s₂ h₂ => ?_) fun _ _ x => x)))))))
  exact seg_call h₂
end
section
variable {prog : Program} {w : World} {A : Around} {R : GenEnd} {Y : Protocol} {n : Nat} {s₀ : Shared} {fs : List Frame} {s : Shared} {env : Env}
noncomputable def turnK (c : Code) : Flow → Sem Fin := fun f => match f with
  | .next | .cont => .pure (.again c)
  | .brk => .pure (.done .next)
  | .ret v => .pure (.done (.ret v))
theorem seg_forLoop {target : Expr} {it : Value} {body : List Stmt}
    (h : wpAny (model prog w) (A.over (.forLoop target it body [] env) fs) (pyNext it) (fun r s₁ => match r with
      | none => Seg (model prog w) A R Y n s₀ (.block [] env) (.pure (.done .next)) fs s₁
      | some v => wpAny (model prog w) (A.over (.forLoop target it body [] env) fs) (letOwnedTupleGo target it v) (fun _ s₂ =>
          wpAny (model prog w) (A.over (.forLoop target it body [] env) fs) (assign target env v) (fun _ s₃ =>
            ∀ H, Seg (model prog w) A R Y n s₀ (.forLoop target it body [] env) ((execs body env).wrap (turnK (.forLoop target it body [] env)) H id id) fs s₃) (fun _ _ => False) s₂) (fun _ _ => False) s₁) (fun _ _ => False) s) :
    Seg (model prog w) A R Y n s₀ (.forLoop target it body [] env) ((model prog w).den (.forLoop target it body [] env)) fs s := by
  show Seg _ A R Y n s₀ _ ((forTurn target it body [] env).onRaise (fun x => do noteFrame x env; theTreesLotGoes x)) fs s
  rw [Sem.onRaise_eq_wrap]
  unfold forTurn
  refine seg_bind_wrap (wpAny_standAt (seg_bind_wrap (wpAny_noRaise (wpAny_onRaise (wpAny_mono h (fun r s₁ h₁ => ?_) fun _ _ x => x.elim)))))
  cases r with
  | none => exact seg_again rfl h₁
  | some v =>
    refine seg_bind_wrap (wpAny_noRaise (wpAny_mono h₁ (fun _ s₂ h₂ => ?_) fun _ _ x => x))
    refine seg_bind_wrap (wpAny_noRaise (wpAny_mono h₂ (fun _ s₃ h₃ => ?_) fun _ _ x => x))
    rw [Sem.bind_eq_wrap', Sem.wrap_wrap]
    rw [Sem.wrap_congr (execs body env) _ _ (K' := turnK (.forLoop target it body [] env)) (fun f => by cases f <;> rfl) (fun e => rfl)]
    exact h₃ _
end
end Mine

-- B13
namespace Mine
open PySem PySem.W PySem.Calls PyProof.Rows
set_option Elab.async false
set_option maxRecDepth 100000
section
variable {prog : Program} {w : World} {A : Around} {E : Value → Shared → Prop} {s : Shared} {env : Env}
theorem assignPair {x1 x2 : Str} {p1 p2 pos : Pos} {k : Nat} {T : Addr} {a b : Value} {m : Str → Option Value} {Q : Unit → Shared → Prop} (hh : A.handled = none) (ht : s.heap.IsTuple T #[a, b]) (hn : s.heap.Ns env.locals m)
    (h1 : env.kindOf x1 = some .local) (h2 : env.kindOf x2 = some .local) (hp : (env.scope.kind == .class || (env.scope.kind == .module && env.locals != env.globals)) = false)
    (hQ : ∀ h' tk, h'.Ns env.locals (fun y => if y = x2 then some b else if y = x1 then some a else m y) → (∀ c o, c ≠ env.locals → s.heap.get? c = some o → h'.get? c = some o) → Q () { s with heap := h', toks := tk }) :
    wpAny (model prog w) A (assign (.Tuple [.Name x1 p1, .Name x2 p2] k pos) env (.ref T)) Q E s := by
  refine wpAny_assign_Tuple hh ht rfl rfl fun h₃ hx₃ => ?_
  replace hx₃ : Heap.ExtBut s.heap.objs.size s.heap h₃ := hx₃
  have old₃ : ∀ c o, s.heap.get? c = some o → h₃.get? c = some o := fun c o x => hx₃ c o (Nat.ne_of_lt (Heap.lt_size x)) x
  have hn₃ : h₃.Ns env.locals m := hn.at fun o x => old₃ _ o x
  show wpAny _ A (do holding [b] (assign (.Name x1 p1) env a); do holding [] (assign (.Name x2 p2) env b); pure ()) _ _ _
  refine wpAny_bind (wpAny_holding (wpAny_assign_Name (wpAny_storeName_local h1 hn₃ (fun h₄ hn₄ hs₄ => ?_) hp)))
  replace hs₄ : Heap.SameBut env.locals h₃ h₄ := hs₄
  refine wpAny_bind (wpAny_holding (wpAny_assign_Name (wpAny_storeName_local h2 hn₄ (fun h₅ hn₅ hs₅ => wpAny_pure ?_) hp)))
  replace hs₅ : Heap.SameBut env.locals h₄ h₅ := hs₅
  exact hQ h₅ _ hn₅ fun c o hc e => hs₅.extBut c o hc (hs₄.extBut c o hc (old₃ c o e))
theorem goGen {elts : List Expr} {k : Nat} {pos : Pos} {a T : Addr} {g : Nat} {Q : Unit → Shared → Prop} (hg : s.heap.IsGen a g) (hQ : Q () s) :
    wpAny (model prog w) A (letOwnedTupleGo (.Tuple elts k pos) (.ref a) (.ref T)) Q E s := by
  obtain ⟨o, nm, qn, ho, hc, hd, _⟩ := hg
  unfold letOwnedTupleGo
  refine wpAny_bind (wpAny_load ho ?_)
  rw [hc, hd]
  show wpAny _ A (if (["enumerate", "zip", "dict_itemiterator", "dict_reverseitemiterator", "odict_iterator", "itertools.zip_longest", "itertools.pairwise"].contains "generator" &&
      (#[.int g 0, nm, qn] : Array Value)[0]? == some (rawInt T)) = true then _ else _) Q E s
  rw [if_neg (by
    intro h
    rw [show (["enumerate", "zip", "dict_itemiterator", "dict_reverseitemiterator", "odict_iterator", "itertools.zip_longest", "itertools.pairwise"].contains "generator") = false from by decide, Bool.false_and] at h
    cases h)]
  exact wpAny_pure hQ
end
/-- the chunks that the reader hands on: place and text -/
noncomputable def genOut : Nat → Bool → List Nat → List (Nat × List Nat)
  | i, true, [] => [(i - 1, [92])]
  | _, false, [] => []
  | i, true, c :: r => (i, [92, c]) :: genOut (i + 1) false r
  | i, false, c :: r => if c = 92 then genOut (i + 1) true r else (i, [c]) :: genOut (i + 1) false r
noncomputable def ChunkY (h₀ : Heap) (C E I : Addr) (out : List (Nat × List Nat)) : Protocol := fun m s₀ v s kap =>
  (∃ p q t u T, out[out.length - 1 - m]? = some (p, q) ∧ v = .ref T ∧ (∀ b o, b ≠ C → b ∉ [E, I] → s₀.heap.get? b = some o → b ≠ T) ∧ s.heap.IsTuple T #[.int (p : Nat) t, .str (ofL q) u]) ∧ GenSince C [E, I] s₀ s ∧
    ∀ s'' : Shared, (∀ b ∈ [C, E, I], ∀ o, s.heap.get? b = some o → s''.heap.get? b = some o) → Ext h₀ s''.heap → kap (.send .none) s''
abbrev ChunkR (C E I : Addr) : GenEnd := fun n s₀ r s₁ => r = .ok (.ret .none) ∧ (n = 0 ∧ GenSince C [E, I] s₀ s₁)
noncomputable def mGen (l : List Nat) (t : Tok) (pv : Int) (pt : Tok) (ev : Bool) (cv : Option Value) : Str → Option Value := fun y =>
  if y = "ch" then cv else if y = "escape" then some (.bool ev) else if y = "pos" then some (.int pv pt) else if y = "addr" then some (.str (ofL l) t) else none
theorem mGen_pair (l : List Nat) (t : Tok) (pv : Int) (pt : Tok) (ev : Bool) (cv : Option Value) (p : Int) (u : Tok) (v : Value) :
    (fun y : Str => if y = "ch" then some v else if y = "pos" then some (.int p u) else mGen l t pv pt ev cv y) = mGen l t p u ev (some v) := by
  funext y; simp only [mGen]
  by_cases e1 : y = "ch"
  · subst e1; rfl
  by_cases e2 : y = "pos"
  · subst e2; rfl
  simp only [e1, e2, if_false]
theorem mGen_esc (l : List Nat) (t : Tok) (pv : Int) (pt : Tok) (ev : Bool) (cv : Option Value) (b : Bool) :
    (fun y : Str => if y = "escape" then some (.bool b) else mGen l t pv pt ev cv y) = mGen l t pv pt b cv := by
  funext y; simp only [mGen]
  by_cases e1 : y = "ch"
  · subst e1; rfl
  by_cases e2 : y = "escape"
  · subst e2; rfl
  simp only [e1, e2, if_false]
theorem out_at {α : Type} {out pre r : List α} {x : α} (h : out = pre ++ x :: r) : out[out.length - 1 - r.length]? = some x := by
  subst h
  rw [List.length_append, List.length_cons]
  have : pre.length + (r.length + 1) - 1 - r.length = pre.length := by omega
  rw [this, List.getElem?_append_right (Nat.le_refl _), Nat.sub_self]; rfl
theorem chunkYield {h₀ : Heap} {C E I : Addr} {out pre : List (Nat × List Nat)} {p : Nat} {q : List Nat} {r : List (Nat × List Nat)} {s₀ s : Shared} {t u : Tok} {kap : Resume → Shared → Prop} (ho : out = pre ++ (p, q) :: r) (S : GenSince C [E, I] s₀ s)
    (h : ∀ s'' : Shared, (∀ b ∈ [C, E, I], ∀ o, s.heap.get? b = some o → s''.heap.get? b = some o) → Ext h₀ s''.heap → kap (.send .none) s'') :
    ChunkY h₀ C E I out r.length s₀ (.ref s.heap.objs.size) { s with heap := s.heap.push { cls := .type "tuple", data := .seq [Value.int (p : Nat) t, Value.str (ofL q) u].toArray } } kap := by
  obtain ⟨h', tk, rfl, hk⟩ := S
  refine ⟨⟨p, q, t, u, _, out_at ho, rfl, fun b o h1 h2 e => Nat.ne_of_lt (Heap.lt_size (hk b o h1 h2 e)), ⟨_, Heap.get?_push_size _ rfl, rfl, _, rfl⟩⟩, ⟨_, _, rfl, fun b o h1 h2 e => Heap.get?_push_of_some _ (hk b o h1 h2 e)⟩, fun s'' hal hx => h s'' (fun b hb o e => hal b hb o (Heap.get?_push_of_some _ e)) hx⟩
end Mine

-- B14
namespace Mine
open PySem PySem.W PySem.Calls PyProof.Rows
set_option Elab.async false
set_option maxRecDepth 100000
noncomputable def escNext (esc : Bool) (c : Nat) : Bool := if esc then false else decide (c = 92)
/-- where the reader stands ahead of sign i -/
structure GSt (h₀ : Heap) (env : Env) (l : List Nat) (t : Tok) (E I : Addr) (i : Nat) (pv : Int) (esc : Bool) (h : Heap) : Prop where
  ns : ∃ pt cv, h.Ns env.locals (mGen l t pv pt esc cv)
  ext : Ext h₀ h
  en : ∃ old, IsEnum h E I i old
  it : h.IsStrIter I (strIterType (ofL l)) (ofL l) t i
theorem GSt.at {h₀ h h' : Heap} {env : Env} {l : List Nat} {t : Tok} {E I : Addr} {i : Nat} {pv : Int} {esc : Bool} (G : GSt h₀ env l t E I i pv esc h) (hal : ∀ b ∈ [env.locals, E, I], ∀ o, h.get? b = some o → h'.get? b = some o) (hx : Ext h₀ h') : GSt h₀ env l t E I i pv esc h' where
  ns := let ⟨pt, cv, hn⟩ := G.ns; ⟨pt, cv, hn.at fun o e => hal _ (List.mem_cons_self ..) o e⟩
  ext := hx
  en := let ⟨old, he⟩ := G.en; ⟨old, hal E (by simp) _ he⟩
  it := let ⟨o, ho, r⟩ := G.it; ⟨o, hal I (by simp) o ho, r⟩
theorem GSt.esc {h₀ h h' : Heap} {env : Env} {l : List Nat} {t : Tok} {E I : Addr} {i : Nat} {pv : Int} {esc b : Bool} (G : GSt h₀ env l t E I i pv esc h) (hs : Heap.SameBut env.locals h h') (hn : ∃ pt cv, h'.Ns env.locals (fun y => if y = "escape" then some (.bool b) else mGen l t pv pt esc cv y)) (hE : E ≠ env.locals) (hI : I ≠ env.locals) (hL : h₀.get? env.locals = none) : GSt h₀ env l t E I i pv b h' where
  ns := let ⟨pt, cv, hn⟩ := hn; ⟨pt, cv, mGen_esc l t pv pt esc cv b ▸ hn⟩
  ext := fun c o e => hs.extBut c o (fun q => by rw [q, hL] at e; cases e) (G.ext c o e)
  en := let ⟨old, he⟩ := G.en; ⟨old, hs.extBut E _ hE he⟩
  it := let ⟨o, ho, r⟩ := G.it; ⟨o, hs.extBut I o hI ho, r⟩
theorem drawsStr {prog : Program} {w : World} {A : Around} (hh : A.handled = none) (it : Addr) (x : Str) (t : Tok) :
    Draws prog w A it [it] x.cps.size (fun i v => ∃ c u, x.cps[i]? = some c ∧ v = .str ⟨#[c]⟩ u) (fun i h => h.IsStrIter it (strIterType x) x t i) := by
  unfold strIterType
  split
  · exact Draws.strAscii hh it x t
  · exact Draws.strWide hh it x t
section
variable {prog : Program} {w : World} {A : Around} {env : Env} {h₀ : Heap} {l : List Nat} {t : Tok} {E I : Addr} {out : List (Nat × List Nat)} {F : Frame} {p1 p2 p3 : Pos} {k : Nat} {body : List Stmt}
abbrev gT (p1 p2 p3 : Pos) (k : Nat) : PySem.Expr := .Tuple [.Name "pos" p1, .Name "ch" p2] k p3
abbrev SegC (prog : Program) (w : World) (A : Around) (h₀ : Heap) (C E I : Addr) (out : List (Nat × List Nat)) := Seg (model prog w) A (ChunkR C E I) (ChunkY h₀ C E I out)
theorem genLoop (hh : A.handled = none) (hov : (A.over (.forLoop (gT p1 p2 p3 k) (.ref E) body [] env) [F]).handled = none) (hEI : E ≠ I) (hE : E ≠ env.locals) (hI : I ≠ env.locals) (h0E : h₀.get? E = none) (h0I : h₀.get? I = none) (hL0 : h₀.get? env.locals = none)
    (hx1 : env.kindOf "pos" = some .local) (hx2 : env.kindOf "ch" = some .local) (hp : (env.scope.kind == .class || (env.scope.kind == .module && env.locals != env.globals)) = false)
    (step : ∀ i esc c pt u s₀ s pre rest H, out = pre ++ genOut i esc (c :: rest) → s.heap.Ns env.locals (mGen l t (i : Nat) pt esc (some (.str (ofL [c]) u))) → GSt h₀ env l t E I (i + 1) (i : Nat) esc s.heap → GenSince env.locals [E, I] s₀ s →
      (∀ s₀' s', GSt h₀ env l t E I (i + 1) (i : Nat) (escNext esc c) s'.heap → GenSince env.locals [E, I] s₀' s' → SegC prog w A h₀ env.locals E I out (genOut (i + 1) (escNext esc c) rest).length s₀' (.forLoop (gT p1 p2 p3 k) (.ref E) body [] env) (.pure (.again (.forLoop (gT p1 p2 p3 k) (.ref E) body [] env))) [F] s') →
      SegC prog w A h₀ env.locals E I out (genOut i esc (c :: rest)).length s₀ (.forLoop (gT p1 p2 p3 k) (.ref E) body [] env) ((execs body env).wrap (turnK (.forLoop (gT p1 p2 p3 k) (.ref E) body [] env)) H id id) [F] s)
    (fin : ∀ esc pt cv s₀ s pv pre, out = pre ++ genOut l.length esc [] → (esc = true → pv = ((l.length - 1 : Nat) : Int)) → s.heap.Ns env.locals (mGen l t pv pt esc cv) → Ext h₀ s.heap → GenSince env.locals [E, I] s₀ s →
      SegC prog w A h₀ env.locals E I out (genOut l.length esc []).length s₀ (.block [] env) (.pure (.done .next)) [F] s) :
    ∀ (rest : List Nat) (i : Nat) (esc : Bool) (pv : Int) (pre : List (Nat × List Nat)) s₀ s, l.drop i = rest → i ≤ l.length → out = pre ++ genOut i esc rest → (esc = true → pv = ((i - 1 : Nat) : Int)) → GSt h₀ env l t E I i pv esc s.heap → GenSince env.locals [E, I] s₀ s →
      SegC prog w A h₀ env.locals E I out (genOut i esc rest).length s₀ (.forLoop (gT p1 p2 p3 k) (.ref E) body [] env) ((model prog w).den (.forLoop (gT p1 p2 p3 k) (.ref E) body [] env)) [F] s := by
  intro rest
  induction rest with
  | nil =>
    intro i esc pv pre s₀ s hd hi ho hpv G S
    have hil : i = l.length := by
      have := congrArg List.length hd
      simp only [List.length_drop, List.length_nil] at this
      omega
    subst hil
    refine seg_forLoop ?_
    obtain ⟨old, he⟩ := G.en
    have hsz : (ofL l).cps.size = l.length := ofL_length l
    refine wpAny_pyNext_enum_endD (drawsStr (A := (A.over (.forLoop (gT p1 p2 p3 k) (.ref E) body [] env) [F]).in1) hov I (ofL l) t) he (by rw [hsz]; exact G.it) fun h' hx => ?_
    obtain ⟨pt, cv, hns⟩ := G.ns
    refine fin esc pt cv s₀ _ pv pre ho hpv (hns.extBut hx (Ne.symm hI)) (fun b o e => hx b o (fun q => by rw [q, h0I] at e; cases e) (G.ext b o e)) (S.step fun b o _ hw e => hx b o (fun q => hw (by simp [q])) e)
  | cons c rest ih =>
    intro i esc pv pre s₀ s hd hi ho hpv G S
    have hlt : i < l.length := by
      rcases Nat.lt_or_ge i l.length with h | h
      · exact h
      · rw [List.drop_of_length_le h] at hd; cases hd
    have hci : l[i]? = some c := by
      have := List.drop_eq_getElem_cons hlt
      rw [this] at hd
      injection hd with h1 h2
      rw [List.getElem?_eq_getElem hlt, h1]
    have hdn : l.drop (i + 1) = rest := by
      have := List.drop_eq_getElem_cons hlt
      rw [this] at hd
      injection hd
    have hsz : (ofL l).cps.size = l.length := ofL_length l
    refine seg_forLoop ?_
    obtain ⟨old, he⟩ := G.en
    obtain ⟨pt0, cv0, hns⟩ := G.ns
    obtain ⟨oI, hoI, _⟩ := id G.it
    refine wpAny_pyNext_enum_itemD (drawsStr (A := (A.over (.forLoop (gT p1 p2 p3 k) (.ref E) body [] env) [F]).in1) hov I (ofL l) t) he G.it (by rw [hsz]; exact hlt) hEI (by simpa using hEI) fun x h₁ tk hP heo hit ht hz hk => ?_
    obtain ⟨c', u, hc', rfl⟩ := hP
    have hcc : c' = c := by
      have : (ofL l).cps[i]? = l[i]? := by simp [ofL]
      rw [this, hci] at hc'
      exact (Option.some.inj hc').symm
    subst hcc
    have hEh : E < s.heap.objs.size := Heap.lt_size he
    have hIh : I < s.heap.objs.size := Heap.lt_size hoI
    refine wpAny_letOwnedTupleGo_enum heo fun h₂ he₂ hs₂ => ?_
    replace hs₂ : Heap.SameBut E h₁ h₂ := hs₂
    have ht₂ : h₂.IsTuple s.heap.objs.size #[.int i tk, .str ⟨#[c']⟩ u] := ⟨_, (hs₂.2 _ (Nat.ne_of_gt hEh)).trans ht, rfl, _, rfl⟩
    have hns₂ : h₂.Ns env.locals _ := (hns.at fun o e => hk _ o (Ne.symm hE) (Ne.symm hI) e).sameBut hs₂ (Ne.symm hE)
    refine assignPair hov ht₂ hns₂ hx1 hx2 hp fun h₃ tk₃ hns₃ hk₃ => ?_
    rw [mGen_pair] at hns₃
    have hfst : ((i : Nat) : Int) + 1 = ((i + 1 : Nat) : Int) := by push_cast; rfl
    have up : ∀ b o, b ≠ env.locals → b ≠ E → b ≠ I → s.heap.get? b = some o → h₃.get? b = some o := fun b o h1 h2 h3 e => hk₃ b o h1 ((hs₂.2 b h2).trans (hk b o h2 h3 e))
    have G₃ : GSt h₀ env l t E I (i + 1) (i : Nat) esc h₃ := ⟨⟨_, _, hns₃⟩, fun b o e => up b o (fun q => by rw [q, hL0] at e; cases e) (fun q => by rw [q, h0E] at e; cases e) (fun q => by rw [q, h0I] at e; cases e) (G.ext b o e),
      ⟨_, hfst ▸ hk₃ _ _ hE he₂⟩, (let ⟨o, ho, r⟩ := hit.extBut hs₂.extBut (Ne.symm hEI); ⟨o, hk₃ _ o hI ho, r⟩)⟩
    intro H
    refine step i esc c' tk u s₀ { s with heap := h₃, toks := tk₃ } pre rest H ho hns₃ G₃ (S.step fun b o h1 h2 e => up b o h1 (fun q => h2 (by simp [q])) (fun q => h2 (by simp [q])) e) fun s₀' s' G' S' => ?_
    have ho' : ∃ pre', out = pre' ++ genOut (i + 1) (escNext esc c') rest := by
      cases esc with
      | true => exact ⟨pre ++ [(i, [92, c'])], by rw [ho]; simp [genOut, escNext]⟩
      | false =>
        by_cases h92 : c' = 92
        · exact ⟨pre, by rw [ho]; simp [genOut, escNext, h92]⟩
        · exact ⟨pre ++ [(i, [c'])], by rw [ho]; simp [genOut, escNext, h92]⟩
    obtain ⟨pre', ho'⟩ := ho'
    exact seg_again rfl (ih (i + 1) _ _ pre' s₀' s' hdn hlt ho' (fun _ => rfl) G' S')
end
end Mine

-- F6a
namespace Mine
open PySem PySem.W PySem.Calls PyProof.Rows
set_option Elab.async false
set_option maxRecDepth 100000
set_option maxHeartbeats 4000000
theorem concF {K : Frag} {f : Addr} {P : Prop} {name qual name' qual' : Str} {params params' : Arguments} {body body' : List Stmt} {scope scope' : Scope} {dV kV doc pm cdv ct oc dV' kV' doc' pm' cdv' ct' oc' : Value} {an od an' od' : Option Addr} {osl osl' : Array (Option Value)}
    (h1 : K.lookup f = some ⟨oc, od, .func (fnOf name qual params body scope dV kV doc pm an cdv ct), osl⟩) (h2 : K.lookup f = some ⟨oc', od', .func (fnOf name' qual' params' body' scope' dV' kV' doc' pm' an' cdv' ct'), osl'⟩)
    (h : qual' = qual → body' = body → scope' = scope → cdv' = cdv → P) : P := by
  have e := Option.some.inj (h2.symm.trans h1)
  injection e with e1 e2 e3 e4
  injection e3 with e5
  injection e5
  rename_i q1 q2 q3 q4 q5 _ _ _ _ _ _ _ q6 _ _
  exact h q2 (FuncBody.stmts.inj q4) q5 q6
theorem l_bs : Str.ofString "\\" = ofL [92] := by decide
local macro_rules | `(tactic| walk_at "mine none") => `(tactic| skip)
local macro_rules | `(tactic| walk_at "mine none") => `(tactic| skip)
local macro_rules | `(tactic| walk_at "mine none") => `(tactic| skip)
local macro_rules | `(tactic| walk_at "execs nil") => `(tactic| refine stopHere ?_)
local macro_rules | `(tactic| walk_at "binaryOp Add str str") => `(tactic| (rw [l_bs]; refine' addL ?hz ?_; (case hz => ((simp only [List.length_append, List.length_cons, List.length_nil]); omega)); intro t' tk'))
local macro_rules | `(tactic| walk_at "newTuple") => `(tactic| refine stopHere ?_)
theorem genStart {w : World} {A : Around} {h₀ : Heap} {C : Addr} {l : List Nat} {t : Tok} {s : Shared} {name qual : Str} {params : Arguments} {body : List Stmt} {scope : Scope} {dV kV doc pm cdv ct oc : Value} {an od : Option Addr} {osl : Array (Option Value)}
    (ho : (hd.heap_39 w.params).lookup 28 = some ⟨oc, od, .func (fnOf name qual params body scope dV kV doc pm an cdv ct), osl⟩)
    (hh : A.handled = none) (X : (hd.heap_39 w.params).In h₀) (T : ∃ mg mb, TopRead hd.view_39 (looseW hd.view_39 []) mg mb h₀)
    (F : Fr h₀ C s.heap (fun y => if y = "addr" then some (.str (ofL l) t) else none)) (hC0 : h₀.get? C = none) (hz : l.length ≤ 10000) :
    SegC Challenge.rw_wa0026_01.row.prog w A h₀ C (s.heap.objs.size + 1) s.heap.objs.size (genOut 0 false l) (genOut 0 false l).length s (.func body (envOf qual scope C 28 cdv)) ((model Challenge.rw_wa0026_01.row.prog w).den (.func body (envOf qual scope C 28 cdv))) [] s := by
  obtain ⟨hd0, dp, frs, gds, un⟩ := A
  simp only at hh
  subst hh
  obtain ⟨mg, mb, T⟩ := T
  revert X
  k_fill
  intro X
  refine' concF ho ?k1 ?_
  case k1 => k_is
  rintro rfl rfl rfl rfl
  clear ho
  refine seg_func ?_
  refine seg_execs_cons (seg_exec ?_)
  refine wpAny_Assign_Name (wpAny_Constant_int (wpAny_storeName_local rfl F.ns (fun h1 n1 s1 => ?_) rfl))
  replace s1 : Heap.SameBut C s.heap h1 := s1
  refine seg_execs_cons (seg_exec ?_)
  refine wpAny_Assign_Name (wpAny_Constant_bool (wpAny_storeName_local rfl n1 (fun h2 n2 s2 => ?_) rfl))
  replace s2 : Heap.SameBut C h1 h2 := s2
  have F2 : Fr h₀ C h2 (mGen l t 0 (s.toks) false none) := ⟨by
      have e : (fun y : Str => if y = "escape" then some (Value.bool false) else if y = "pos" then some (Value.int 0 s.toks) else if y = "addr" then some (.str (ofL l) t) else none) = mGen l t 0 s.toks false none := by
        funext y; simp only [mGen]
        by_cases e1 : y = "ch"
        · subst e1; rfl
        simp only [e1, if_false]
      exact e ▸ n2, fun b o e => (s2.2 b (Nat.ne_of_lt (Nat.lt_of_lt_of_le (Heap.lt_size e) F.above))).trans ((s1.2 b (Nat.ne_of_lt (Nat.lt_of_lt_of_le (Heap.lt_size e) F.above))).trans (F.keep b o e)), F.above⟩
  have hsz : h2.objs.size = s.heap.objs.size := s2.1.trans s1.1
  have hC2 : C < h2.objs.size := F2.ns.lt
  have N2 : News h₀ C h2 [] := News.nil
  refine seg_execs_cons (seg_For ?_ (fun _ => rfl))
  repeat' walk1
  unfold Stopped
  refine call_enumerate_str fun h3 he hit hz3 hk3 => ?_
  replace he : IsEnum h3 (h2.objs.size + 1) h2.objs.size 0 .none := he
  replace hit : h3.IsStrIter h2.objs.size (strIterType (ofL l)) (ofL l) t 0 := hit
  replace hk3 : ∀ b o, h2.get? b = some o → h3.get? b = some o := hk3
  refine wpAny_pyIter_enum he ?_
  intro p
  rw [hsz] at he hit ⊢
  have hEh : s.heap.objs.size + 1 ≠ C := by
    have : C < s.heap.objs.size := hsz ▸ hC2
    exact Nat.ne_of_gt (Nat.lt_succ_of_lt this)
  have hIh : s.heap.objs.size ≠ C := Nat.ne_of_gt (hsz ▸ hC2)
  have fresh : ∀ k, h₀.get? (s.heap.objs.size + k) = none := by
    intro k
    cases hq : h₀.get? (s.heap.objs.size + k) with
    | none => rfl
    | some o => exact absurd (Heap.lt_size (F.keep _ _ hq)) (Nat.not_lt.mpr (Nat.le_add_right _ _))
  refine' genLoop (env := envOf _ _ C 28 _) ?hh ?hov ?hEI ?hE ?hI ?h0E ?h0I ?hL0 ?hx1 ?hx2 ?hp ?step ?fin l 0 false 0 [] s _ ?hd ?hi ?ho ?hpv ?gs ?since
  case hh => exact rfl
  case hov => exact rfl
  case hEI => exact Nat.succ_ne_self _
  case hE => exact hEh
  case hI => exact hIh
  case h0E => exact fresh 1
  case h0I => exact fresh 0
  case hL0 => exact hC0
  case hx1 => exact rfl
  case hx2 => exact rfl
  case hp => exact rfl
  case hd => exact rfl
  case hi => exact Nat.zero_le _
  case ho => exact rfl
  case hpv => exact fun e => nomatch e
  case gs => exact ⟨⟨_, _, F2.ns.at fun o e => hk3 _ o e⟩, fun b o e => hk3 _ _ (F2.keep b o e), ⟨_, he⟩, hit⟩
  case since => exact ⟨_, _, rfl, fun b o q1 q2 e => hk3 b o ((s2.2 b q1).trans ((s1.2 b q1).trans e))⟩
  case step =>
    intro i esc c pt u s₀ s1 pre rest H ho hn G S next
    have F1 : Fr h₀ C s1.heap (mGen l t (i : Nat) pt esc (some (.str (ofL [c]) u))) := ⟨hn, G.ext, F.above⟩
    have N1 : News h₀ C s1.heap [] := News.nil
    refine seg_execs_cons (seg_If ?_)
    cases esc with
    | true =>
      have e : (genOut i true (c :: rest)).length = (genOut (i + 1) false rest).length + 1 := rfl
      rw [e]
      repeat' walk1
      refine seg_execs_cons (seg_Expr_Yield rfl rfl rfl ?_)
      repeat' walk1
      unfold Stopped
      refine wpAny_newTuple ?_
      intro kap hkap
      refine chunkYield (show _ = pre ++ (i, [92, c]) :: genOut (i + 1) false rest from ho) (S.step fun _ _ _ _ e => e) (fun s'' hal hx => hkap .none s'' ?_)
      have G2 := G.at hal hx
      obtain ⟨pt2, cv2, hn2⟩ := G2.ns
      refine seg_execs_cons (seg_exec ?_)
      refine wpAny_Assign_Name (wpAny_Constant_bool (wpAny_storeName_local rfl hn2 (fun h4 n4 s4 => ?_) rfl))
      exact seg_execs_nil (next s'' _ (G2.esc s4 ⟨_, _, n4⟩ hEh hIh hC0) ⟨_, _, rfl, fun b o q1 q2 e => (s4.2 b q1).trans e⟩)
    | false =>
      repeat' walk1
      refine seg_execs_cons (seg_If ?_)
      by_cases hc : c = 92
      · subst hc
        have e : genOut i false (92 :: rest) = genOut (i + 1) true rest := rfl
        rw [e] at ho ⊢
        repeat' walk1
        refine seg_execs_cons (seg_exec ?_)
        refine wpAny_Assign_Name (wpAny_Constant_bool (wpAny_storeName_local rfl hn (fun h4 n4 s4 => ?_) rfl))
        refine seg_execs_nil (seg_execs_nil (next s₀ _ (G.esc s4 ⟨_, _, n4⟩ hEh hIh hC0) (S.step fun b o q1 q2 e => (s4.2 b q1).trans e)))
      · have e : genOut i false (c :: rest) = (i, [c]) :: genOut (i + 1) false rest := by simp [genOut, hc]
        have en : escNext false c = false := by simp [escNext, hc]
        rw [e] at ho ⊢
        rw [List.length_cons]
        rw [en] at next
        repeat' walk1
        · rename_i hq
          rw [l_bs, ofL_beq] at hq
          simp only [decide_eq_true_eq, List.cons.injEq, and_true] at hq
          exact absurd hq hc
        · refine seg_execs_cons (seg_Expr_Yield rfl rfl rfl ?_)
          repeat' walk1
          unfold Stopped
          refine wpAny_newTuple ?_
          intro kap hkap
          refine chunkYield ho (S.step fun _ _ _ _ e => e) (fun s'' hal hx => hkap .none s'' ?_)
          exact seg_execs_nil (seg_execs_nil (next s'' _ (G.at hal hx) ⟨_, _, rfl, fun b o q1 q2 e => e⟩))
  case fin =>
    intro esc pt cv s₀ s1 pv pre ho hpv hn hx S
    have F1 : Fr h₀ C s1.heap (mGen l t pv pt esc cv) := ⟨hn, hx, F.above⟩
    have N1 : News h₀ C s1.heap [] := News.nil
    refine seg_leaf (.ok .next) ?_
    refine seg_execs_cons (seg_If ?_)
    cases esc with
    | false =>
      repeat' walk1
      exact seg_end (.ok (.ret .none)) ⟨rfl, rfl, S⟩
    | true =>
      have hpv' := hpv rfl
      subst hpv'
      have e : (genOut l.length true []).length = 0 + 1 := rfl
      rw [e]
      repeat' walk1
      refine seg_execs_cons (seg_Expr_Yield rfl rfl rfl ?_)
      repeat' walk1
      unfold Stopped
      refine wpAny_newTuple ?_
      intro kap hkap
      rw [l_bs]
      refine chunkYield (r := []) ho (S.step fun _ _ _ _ e => e) (fun s'' hal hx => hkap .none s'' ?_)
      exact seg_end (.ok (.ret .none)) ⟨rfl, rfl, GenSince.refl _ _ _⟩
end Mine

-- B15
namespace Mine
open PySem PySem.W PySem.Calls PyProof.Rows
set_option Elab.async false
set_option maxRecDepth 100000
section
variable {prog : Program} {w : World} {A : Around} {s : Shared}
/-- a call of a generator def: the body does not run yet -/
theorem callG {h₀ : Heap} {K : Frag} {Q E : Value → Shared → Prop}
   {name qual : Str} {params : Arguments} {body : List Stmt} {scope : Scope} {dV kV doc pm cdv ct oc : Value} {an od : Option Addr} {osl : Array (Option Value)} {f : Addr} {args : List Value} {binds : List (Str × Value)}
   (X : K.In h₀) (hx : Ext h₀ s.heap) (hl : s.heap.NoLimit) (hroom : A.depth < recursionLimit)
   (ho : K.lookup f = some ⟨oc, od, .func (fnOf name qual params body scope dV kV doc pm an cdv ct), osl⟩) (hcd : codeIn K cdv qual = true)
   (hbind : bindArgs (fnOf name qual params body scope dV kV doc pm an cdv ct) ⟨args, []⟩ = pure binds) (hloc : ∀ y ∈ binds, scope.names.lookup y.1 = some .local)
   (hcell : ∀ x ∈ scope.names, x.2 ≠ .cell) (hco : scope.isCoroutine = false) (hgen : scope.isGenerator = true) (hk : scope.kind = .function)
   (h : ∀ h₁ nm qn tk, h₁.Ns s.heap.objs.size (fun x => binds.reverse.lookup x) → Ext s.heap h₁ → Q (.ref h₁.objs.size)
      { s with heap := h₁.push { cls := .type "generator", data := .fields #[.int s.gens.size 0, nm, qn] }, gens := s.gens.push (.fresh (.func body (envOf qual scope s.heap.objs.size f cdv))), toks := tk }) :
   wpAny (model prog w) A (call (.ref f) args) Q E s := by
  have X' := X.keeps hx
  refine wpAny_call (codeAny_call_generator (fd := fnOf name qual params body scope dV kV doc pm an cdv ct) (body := body) hroom (X' _ _ ho) rfl hco hgen rfl (codeRec_of X' hcd) ?_)
  refine BindsTo.of_eq hbind _ _ _ _ ?_
  refine wpAny_newFunctionEnv hcell hloc (fun h₁ hns hsb => ⟨hl.fresh _ hsb, ?_⟩) hk
  exact h h₁ _ _ _ hns fun b o e => hsb.extBut b o (Nat.ne_of_lt (Heap.lt_size e)) (Heap.get?_push_of_some _ e)
end
inductive InvG (prog : Program) (w : World) (A : Around) (s : Shared) (h₀ : Heap) (L a C N : Addr) (gens0 : Array GenState) (out : List (Nat × List Nat)) (J : Nat → (Str → Option Value) → List (Addr × Obj) → Prop) (k : Nat) (s' : Shared) : Prop
  | mk (h' : Heap) (tk : Nat) (gs : GenState) (m' : Str → Option Value) (news' : List (Addr × Obj)) (j : Nat) (q0 : s' = { s with heap := h', toks := tk, gens := gens0.push gs }) (q1 : Fr h₀ L h' m') (q2 : News h₀ L h' news') (q3 : ∀ p ∈ news', p.1 ∉ [a, C, N + 1, N]) (q4 : h'.IsGen a gens0.size) (q5 : J j m' news')
      (q6 : ∀ s'' : Shared, (∀ b ∈ [C, N + 1, N], ∀ o, h'.get? b = some o → s''.heap.get? b = some o) → Ext h₀ s''.heap → (j = 0 → s''.heap.objs.size = N) → gs.Goes (model prog w) A.in1 (ChunkR C (N + 1) N) (ChunkY h₀ C (N + 1) N out) (out.length - j) (.send .none) s'')
      (q7 : j = 0 → h'.objs.size = N) (q8 : j ≤ out.length) (q9 : k = out.length + 1 - j) : InvG prog w A s h₀ L a C N gens0 out J k s'
theorem g_idx {a j n : Nat} (h : a - j = n + 1) : a - 1 - (a - j - 1) = j := by omega
theorem g_next {a j n : Nat} (h : a - j = n + 1) : a - (j + 1) = n := by rw [Nat.sub_add_eq, h]; rfl
theorem g_dec {a j n : Nat} (h : a - j = n + 1) : a + 1 - (j + 1) < a + 1 - j := by omega
theorem g_le {a j n : Nat} (h : a - j = n + 1) : j + 1 ≤ a := by omega
theorem g_end {a j : Nat} (h : j ≤ a) (h' : a - j = 0) : j = a := Nat.le_antisymm h (Nat.le_of_sub_eq_zero h')
theorem push_set (a : Array GenState) (x y : GenState) : (a.push x).setIfInBounds a.size y = a.push y := by
  apply Array.ext'
  simp [List.set_append]
section
variable {prog : Program} {w : World} {A : Around} {s : Shared} {env : Env} {h₀ : Heap}
theorem forG {x1 x2 : Str} {p1 p2 pt : Pos} {k : Nat} {body : List Stmt} {a C N : Addr} {gens0 : Array GenState} {out : List (Nat × List Nat)} {gs0 : GenState} {m : Str → Option Value} {news : List (Addr × Obj)} {Q : Flow → Shared → Prop} {R : Result → Shared → Prop}
    (J : Nat → (Str → Option Value) → List (Addr × Obj) → Prop) (hh : A.handled = none) (hroom : A.depth < recursionLimit) (hlim : h₀.NoLimit)
    (hx1 : env.kindOf x1 = some .local) (hx2 : env.kindOf x2 = some .local) (hp : (env.scope.kind == .class || (env.scope.kind == .module && env.locals != env.globals)) = false)
    (hL : env.locals ∉ [a, C, N + 1, N]) (hfr : ∀ b ∈ [a, C, N + 1, N], h₀.get? b = none) (haC : a ∉ [C, N + 1, N])
    (hs : s.gens = gens0.push gs0) (hN : s.heap.objs.size = N) (hgen : s.heap.IsGen a gens0.size)
    (hgo : ∀ s'' : Shared, (∀ b ∈ [C, N + 1, N], ∀ o, s.heap.get? b = some o → s''.heap.get? b = some o) → Ext h₀ s''.heap → s''.heap.objs.size = N →
      gs0.Goes (model prog w) A.in1 (ChunkR C (N + 1) N) (ChunkY h₀ C (N + 1) N out) out.length (.send .none) s'')
    (F : Fr h₀ env.locals s.heap m) (N0 : News h₀ env.locals s.heap news) (hnw : ∀ p ∈ news, p.1 ∉ [a, C, N + 1, N]) (h0 : J 0 m news)
    (step : ∀ j p q t u own m₁ news₁ s₁ g₁, out[j]? = some (p, q) → J j m₁ news₁ → (∀ x ∈ news₁, x.1 ∉ [a, C, N + 1, N]) → (∀ x ∈ own, ∀ y ∈ news₁, x.1 ≠ y.1) → s₁ = { s with heap := s₁.heap, toks := s₁.toks, gens := g₁ } →
      Fr h₀ env.locals s₁.heap (fun y => if y = x2 then some (.str (ofL q) u) else if y = x1 then some (.int (p : Nat) t) else m₁ y) → News h₀ env.locals s₁.heap (own ++ news₁) →
      wpAny (model prog w) A (execs body env) (TurnJ h₀ env.locals [a, C, N + 1, N] own (J (j + 1)) Q s₁) (fun _ _ => False) s₁)
    (hR : ∀ h' tk m' news', Fr h₀ env.locals h' m' → News h₀ env.locals h' news' → J out.length m' news' → Q .next { s with heap := h', toks := tk, gens := gens0.push .finished })
    (hQR : ∀ f s', Q f s' → R (.ok f) s') :
    codeAny (model prog w) A (.forLoop (.Tuple [.Name x1 p1, .Name x2 p2] k pt) (.ref a) body [] env) R s := by
  have old : ∀ b o, h₀.get? b = some o → b ∉ [a, C, N + 1, N] := fun b o e hb => by rw [hfr b hb] at e; cases e
  have nev : ∀ {α : Type} {t : Sem α} {Q' : α → Shared → Prop} {s' : Shared}, wpAny (model prog w) A t Q' (fun _ _ => False) s' → wpAny (model prog w) A t Q' (notedBy (model prog w) A env fun e s' => R (.error e) s') s' :=
    fun h => wpAny_noRaise h
  refine codeAny_forLoop_any
    (InvG prog w A s h₀ env.locals a C N gens0 out J) ?_ (out.length + 1)
    ⟨s.heap, s.toks, gs0, m, news, 0, by rw [← hs], F, N0, hnw, hgen, h0, fun s'' hal hx hz => hgo s'' hal hx (hz rfl), fun _ => hN, Nat.zero_le _, rfl⟩
  rintro k' s' ⟨h', tk, gs, m', news', j, rfl, F', N', hnw', hgen', hJ, hgo', hz', hj, rfl⟩
  have hgs : (gens0.push gs)[gens0.size]? = some gs := by simp
  refine nev (wpAny_pyNext_gen (g := gens0.size) (n := out.length - j) (gs := gs) (P := fun n s₀ s₁ => n = 0 ∧ GenSince C [N + 1, N] s₀ s₁) (Y := ChunkY h₀ C (N + 1) N out) hh (hlim.keeps F'.keep) hroom hgen' hgs (hgo' _ (fun _ _ _ e => e) F'.keep hz') (fun v s₁ gs' hv => ?_) (fun s₁ hP h₁ hk₁ => ?_))
  · obtain ⟨⟨p, q, t, u, T, hat, rfl, hT, htup⟩, ⟨h₁, tk₁, rfl, hk₁⟩, hkap⟩ := hv
    simp only [Shared.setGen] at hT htup hkap hk₁ ⊢
    obtain ⟨n', hn'⟩ : ∃ n', out.length - j = n' + 1 := by
      cases hq : out.length - j with
      | succ n' => exact ⟨n', rfl⟩
      | zero =>
        rw [hq] at hkap
        exact (hkap { s with heap := h₁ } (fun _ _ _ e => e) (fun b o e => hk₁ b o (fun q => old b o e (by simp [q])) (fun q => old b o e (List.mem_cons_of_mem _ (List.mem_cons_of_mem _ q))) (F'.keep b o e))).elim
    have hidx : out.length - 1 - (out.length - j - 1) = j := g_idx hn'
    rw [hidx] at hat
    rw [hn'] at hkap
    have hT1 : ∀ b o, b ∉ [a, C, N + 1, N] → h'.get? b = some o → b ≠ T := fun b o hb e => hT b o (fun q => hb (by simp [q])) (fun q => hb (List.mem_cons_of_mem _ (List.mem_cons_of_mem _ q))) e
    have up : ∀ b o, b ≠ C → b ∉ [N + 1, N] → h'.get? b = some o → h₁.get? b = some o := hk₁
    have F₁ : Fr h₀ env.locals h₁ m' := ⟨F'.ns.at' fun o e => up _ o (fun q => hL (by simp [q])) (fun q => hL (List.mem_cons_of_mem _ (List.mem_cons_of_mem _ q))) e, fun b o e => up b o (fun q => old b o e (by simp [q])) (fun q => old b o e (List.mem_cons_of_mem _ (List.mem_cons_of_mem _ q))) (F'.keep b o e), F'.above⟩
    have N₁ : News h₀ env.locals h₁ news' := fun x hx => ⟨up _ _ (fun q => hnw' x hx (by simp [q])) (fun q => hnw' x hx (List.mem_cons_of_mem _ (List.mem_cons_of_mem _ q))) (N' x hx).1, (N' x hx).2⟩
    have hgen₁ : h₁.IsGen a gens0.size := let ⟨o, nm, qn, ho, r⟩ := hgen'; ⟨o, nm, qn, up a o (fun q => haC (by simp [q])) (fun q => haC (List.mem_cons_of_mem _ q)) ho, r⟩
    obtain ⟨oT, hoT, htup'⟩ := id htup
    have hTL : T ≠ env.locals := by
      obtain ⟨o, _, _, ho, _⟩ := F'.ns
      exact (hT1 _ o hL ho).symm
    have hT0 : h₀.get? T = none := by
      cases hq : h₀.get? T with
      | none => rfl
      | some o => exact absurd rfl (hT1 T o (old T o hq) (F'.keep T o hq))
    refine nev (goGen hgen₁ ?_)
    refine nev (assignPair hh htup F₁.ns hx1 hx2 hp fun h₂ tk₂ hn₂ hk₂ => ?_)
    have F₂ : Fr h₀ env.locals h₂ (fun y => if y = x2 then some (.str (ofL q) u) else if y = x1 then some (.int (p : Nat) t) else m' y) :=
      ⟨hn₂, fun b o e => hk₂ b o (fun q => hL (absurd e (by rw [q]; intro e'; exact absurd (Heap.lt_size e') (Nat.not_lt.mpr F'.above)))) (F₁.keep b o e), F'.above⟩
    have N₂ : News h₀ env.locals h₂ news' := fun x hx => ⟨hk₂ _ _ (N' x hx).2.1 (N₁ x hx).1, (N' x hx).2⟩
    have NT : News h₀ env.locals h₂ [(T, oT)] := fun x hx => by
      rw [List.mem_singleton.mp hx]
      exact ⟨hk₂ _ _ hTL hoT, hTL, hT0⟩
    have Nown : News h₀ env.locals h₂ (ownOf h₀ [a, C, N + 1, N] h₂) := news_ownOf hL
    refine nev (wpAny_mono (step j p q t u (ownOf h₀ [a, C, N + 1, N] h₂ ++ [(T, oT)]) m' news' _ _ hat hJ hnw' ?_ rfl F₂ ((Nown.append NT).append N₂)) (fun f s₃ h₃ => ?_) fun _ _ e => e)
    · intro x hx y hy e
      rcases List.mem_append.mp hx with hx | hx
      · exact hnw' y hy (e ▸ ownOf_sub x hx)
      · rw [List.mem_singleton.mp hx] at e
        exact hT1 y.1 y.2 (hnw' y hy) (N' y hy).1 e.symm
    have on : TurnN h₀ env.locals [a, C, N + 1, N] (ownOf h₀ [a, C, N + 1, N] h₂ ++ [(T, oT)]) (J (j + 1)) { s with heap := h₂, toks := tk₂, gens := (gens0.push gs |>.setIfInBounds gens0.size .running |>.setIfInBounds gens0.size gs') } s₃ → ∃ k, k < out.length + 1 - j ∧ InvG prog w A s h₀ env.locals a C N gens0 out J k s₃ := by
      rintro ⟨h₃', tk₃, m₂, news₂, rfl, F₃, N₃, ha₃, hJ₃⟩
      have kept : ∀ b ∈ [a, C, N + 1, N], ∀ o, h₂.get? b = some o → h₃'.get? b = some o := fun b hb o e => (N₃ _ (List.mem_append_left _ (List.mem_append_left _ (mem_ownOf hb (hfr b hb) e)))).1
      refine ⟨out.length + 1 - (j + 1), g_dec hn', h₃', tk₃, gs', m₂, news₂, j + 1, ?_, F₃, N₃.right, ha₃, ?_, hJ₃, ?_, fun e => absurd e (Nat.succ_ne_zero _), g_le hn', rfl⟩
      · rw [push_set, push_set]
      · obtain ⟨o, nm, qn, ho, r⟩ := hgen₁
        exact ⟨o, nm, qn, kept a (by simp) o (hk₂ a o (fun q => hL (by simp [q])) ho), r⟩
      · intro s'' hal hx _
        have e : out.length - (j + 1) = n' := g_next hn'
        rw [e]
        exact hkap s'' (fun b hb o eb => hal b hb o (kept b (List.mem_cons_of_mem _ hb) o (hk₂ b o (fun q => hL (q ▸ List.mem_cons_of_mem _ hb)) eb))) hx
    cases f with
    | next => exact on h₃
    | cont => exact on h₃
    | brk => exact hQR _ _ h₃
    | ret v => exact hQR _ _ h₃
  · obtain ⟨hn0, ⟨h₂, tk₂, rfl, hk₂⟩⟩ := hP
    have hjn : j = out.length := g_end hj hn0
    subst hjn
    refine wpAny_execs_nil (hQR _ _ ?_)
    simp only [Shared.setGen] at hk₂ hk₁ ⊢
    rw [push_set, push_set]
    have up : ∀ b o, b ≠ C → b ∉ [N + 1, N] → h'.get? b = some o → h₁.get? b = some o := fun b o h1 h2 e => hk₁ b o (hk₂ b o h1 h2 e)
    refine hR h₁ tk₂ m' news' ⟨F'.ns.at' fun o e => up _ o (fun q => hL (by simp [q])) (fun q => hL (List.mem_cons_of_mem _ (List.mem_cons_of_mem _ q))) e, fun b o e => up b o (fun q => old b o e (by simp [q])) (fun q => old b o e (List.mem_cons_of_mem _ (List.mem_cons_of_mem _ q))) (F'.keep b o e), F'.above⟩
      (fun x hx => ⟨up _ _ (fun q => hnw' x hx (by simp [q])) (fun q => hnw' x hx (List.mem_cons_of_mem _ (List.mem_cons_of_mem _ q))) (N' x hx).1, (N' x hx).2⟩) hJ
end
end Mine

-- B16
namespace Mine
open PySem PySem.W PySem.Calls PyProof.Rows
open PySem.Builtin PySem.Builtin.Str
set_option Elab.async false
set_option maxRecDepth 100000
theorem pick_run (l : List Nat) : ∀ (c a : Nat), a + c ≤ l.length → ((List.range c).map (fun (k : Nat) => ((a : Int) + 1 * (k : Int)).toNat)).filterMap (fun i => (ofL l).cps[i]?) = (l.drop a).take c := by
  intro c
  induction c with
  | zero => intro a _; simp
  | succ c ih =>
    intro a h
    rw [List.range_succ, List.map_append, List.filterMap_append, ih a (by omega)]
    have e : ((a : Int) + 1 * (c : Int)).toNat = a + c := by omega
    have h1 : (ofL l).cps[a + c]? = some l[a + c] := by simp [ofL]
    simp only [List.map_cons, List.map_nil, List.filterMap_cons, List.filterMap_nil, e, h1]
    rw [List.take_add_one]
    have h2 : (l.drop a)[c]? = some l[a + c] := by rw [List.getElem?_drop]; simp
    rw [h2]; rfl
theorem run_len (a b : Nat) : sliceRange (a : Int) (b : Int) 1 = (List.range (b - a)).map fun (k : Nat) => ((a : Int) + 1 * (k : Int)).toNat := by
  unfold sliceRange
  simp only [show (1 : Int) > 0 by decide, if_true]
  by_cases h : (a : Int) < b
  · rw [if_pos h, Int.ediv_one]
    have : ((b : Int) - a + 1 - 1).toNat = b - a := by omega
    rw [this]
  · rw [if_neg h]
    have : b - a = 0 := by omega
    rw [this]; rfl
theorem slice_of (l : List Nat) (lo hi : Option Int) (a b : Nat) (hb : b ≤ l.length) (ha : a ≤ l.length) (e : strSliceIndices lo hi 1 l.length = sliceRange (a : Int) (b : Int) 1) : Txt.slice (ofL l) lo hi = ofL ((l.take b).drop a) := by
  unfold Txt.slice
  rw [ofL_length, e, run_len]
  have key : (l.take b).drop a = (l.drop a).take (b - a) := by rw [List.drop_take]
  split
  · rename_i h
    simp only [List.length_map, List.length_range, beq_self_eq_true, Bool.true_and, beq_iff_eq] at h
    have hb' : b = l.length := by omega
    have ha' : a = 0 ∨ l.length = 0 := by omega
    subst hb'
    rcases ha' with rfl | h0
    · simp
    · have : l = [] := List.eq_nil_of_length_eq_zero h0
      subst this; simp
  · by_cases hab : a ≤ b
    · rw [pick_run l (b - a) a (by omega), ← key]; rfl
    · have : b - a = 0 := by omega
      rw [key, this]; simp [ofL]
theorem clipN (i n : Nat) : max (0 : Int) (min (if (i : Int) < 0 then (i : Int) + n else i) n) = ((min i n : Nat) : Int) := by
  have : ¬ ((i : Int) < 0) := by omega
  rw [if_neg this]; omega
theorem slice_ss (l : List Nat) (i j : Nat) : Txt.slice (ofL l) (some (i : Int)) (some (j : Int)) = ofL ((l.take j).drop i) := by
  rw [slice_of l (some (i : Int)) (some (j : Int)) (min i l.length) (min j l.length) (Nat.min_le_right _ _) (Nat.min_le_right _ _)]
  · congr 1
    have e1 : l.take (min j l.length) = l.take j := by
      rw [← List.take_take, List.take_length]
    rw [e1]
    by_cases h : i ≤ l.length
    · rw [Nat.min_eq_left h]
    · rw [Nat.min_eq_right (by omega), List.drop_of_length_le (by rw [List.length_take]; omega), List.drop_of_length_le (by rw [List.length_take]; omega)]
  · unfold strSliceIndices
    simp only [show (1 : Int) > 0 by decide, if_true, clipN]
theorem slice_sn (l : List Nat) (i : Nat) : Txt.slice (ofL l) (some (i : Int)) none = ofL (l.drop i) := by
  rw [slice_of l (some (i : Int)) none (min i l.length) l.length (Nat.le_refl _) (Nat.min_le_right _ _)]
  · congr 1
    rw [List.take_length]
    by_cases h : i ≤ l.length
    · rw [Nat.min_eq_left h]
    · rw [Nat.min_eq_right (by omega), List.drop_of_length_le (by simp), List.drop_of_length_le (by omega)]
  · unfold strSliceIndices
    simp only [show (1 : Int) > 0 by decide, if_true, clipN]
theorem slice_ns (l : List Nat) (j : Nat) : Txt.slice (ofL l) none (some (j : Int)) = ofL (l.take j) := by
  rw [slice_of l none (some (j : Int)) 0 (min j l.length) (Nat.min_le_right _ _) (Nat.zero_le _)]
  · congr 1
    rw [List.drop_zero, ← List.take_take, List.take_length]
  · unfold strSliceIndices
    simp only [show (1 : Int) > 0 by decide, if_true, clipN]
    rfl
/-- every k-th sign -/
noncomputable def every (k : Nat) (l : List Nat) : List Nat := (List.range ((l.length + k - 1) / k)).filterMap fun q => l[k * q]?
theorem sliceBy_sn (l : List Nat) (i k : Nat) (hk : 1 ≤ k) (hi : i < l.length) (ui uk : Tok) : Txt.sliceBy (ofL l) (some ((i : Int), ui)) none ((k : Int), uk) = ofL (every k (l.drop i)) := by
  have hk0 : (k : Int) > 0 := Int.ofNat_lt.mpr hk
  have hmin : min i l.length = i := Nat.min_eq_left (Nat.le_of_lt hi)
  have hidx : slicePicked (ofL l) (some ((i : Int), ui)) none (some ((k : Int), uk)) = (List.range (((l.drop i).length + k - 1) / k)).map fun q => i + k * q := by
    unfold slicePicked strSliceIndices
    simp only [Option.map_some, Option.map_none, Option.getD_some, ofL_length, hk0, if_true, clipN, hmin]
    unfold sliceRange
    simp only [hk0, if_true, List.length_drop, if_pos (Int.ofNat_lt.mpr hi)]
    obtain ⟨d, hd⟩ : ∃ d, l.length = i + d := ⟨l.length - i, (Nat.add_sub_cancel' (Nat.le_of_lt hi)).symm⟩
    obtain ⟨k', rfl⟩ : ∃ k', k = k' + 1 := ⟨k - 1, (Nat.sub_add_cancel hk).symm⟩
    have e1 : ((l.length : Int) - (i : Int) + ((k' + 1 : Nat) : Int) - 1) = ((d + k' : Nat) : Int) := by rw [hd]; push_cast; omega
    have e2 : l.length - i + (k' + 1) - 1 = d + k' := by rw [hd, Nat.add_sub_cancel_left]; rfl
    rw [e1, e2, ← Int.natCast_ediv, Int.toNat_natCast]
    apply List.map_congr_left
    intro q _
    have : (i : Int) + ((k' + 1 : Nat) : Int) * (q : Int) = ((i + (k' + 1) * q : Nat) : Int) := by push_cast; rfl
    rw [this, Int.toNat_natCast]
  have hpick : ((List.range (((l.drop i).length + k - 1) / k)).map fun q => i + k * q).filterMap (fun p => (ofL l).cps[p]?) = every k (l.drop i) := by
    unfold every
    rw [List.filterMap_map]
    congr 1
    funext q
    simp only [Function.comp, List.getElem?_drop]
    simp [ofL]
  unfold Txt.sliceBy
  rw [hidx, hpick]
  split
  · rename_i h
    simp only [Option.map_some, Option.getD_some, Bool.and_eq_true, beq_iff_eq, List.length_map, List.length_range, ofL_length] at h
    obtain ⟨h1, h2⟩ := h
    have hk1 : k = 1 := Int.ofNat_inj.mp h1
    subst hk1
    simp only [List.length_drop, Nat.add_sub_cancel, Nat.div_one] at h2
    have h0 : i = 0 := by omega
    subst h0
    have e : every 1 (l.drop 0) = l.drop 0 := by
      unfold every
      simp only [Nat.add_sub_cancel, Nat.div_one, Nat.one_mul, List.drop_zero]
      have := pick_run l l.length 0 (by simp)
      rw [List.drop_zero, List.take_length, List.filterMap_map] at this
      have e2 : (fun i_1 => (ofL l).cps[i_1]?) ∘ (fun (k : Nat) => (((0 : Nat) : Int) + 1 * (k : Int)).toNat) = fun q => l[q]? := by
        funext q
        simp [ofL]
      rw [e2] at this
      exact this
    rw [e, List.drop_zero]
  · rfl
end Mine

-- F6b
namespace Mine
open PySem PySem.W PySem.Calls PyProof.Rows
set_option Elab.async false
set_option maxRecDepth 100000
set_option maxHeartbeats 4000000
noncomputable def stripStep (l : List Nat) (p : Nat) (q : List Nat) (x : Nat × Option Nat × List (List Nat)) : Nat × Option Nat × List (List Nat) :=
  if q = [34] then (match x.2.1 with
    | none => (x.1, some p, x.2.2)
    | some o => (p + 1, none, if x.1 = o then x.2.2 else x.2.2 ++ [(l.take o).drop x.1]))
  else x
noncomputable def stripTo (l : List Nat) (j : Nat) : Nat × Option Nat × List (List Nat) := ((genOut 0 false l).take j).foldl (fun x pq => stripStep l pq.1 pq.2 x) (0, none, [])
noncomputable def stripF (l : List Nat) : List Nat :=
  if 34 ∈ l then
    (if (stripTo l (genOut 0 false l).length).1 < l.length then (stripTo l (genOut 0 false l).length).2.2 ++ [l.drop (stripTo l (genOut 0 false l).length).1] else (stripTo l (genOut 0 false l).length).2.2).flatten
  else l
theorem stripTo_succ (l : List Nat) (j p : Nat) (q : List Nat) (h : (genOut 0 false l)[j]? = some (p, q)) : stripTo l (j + 1) = stripStep l p q (stripTo l j) := by
  unfold stripTo
  rw [List.take_add_one, h]
  simp
theorem genOut_length : ∀ (r : List Nat) (i : Nat) (e : Bool), (genOut i e r).length ≤ r.length + 1
  | [], i, true => by simp [genOut]
  | [], i, false => by simp [genOut]
  | c :: r, i, true => by
    have := genOut_length r (i + 1) false
    simp only [genOut, List.length_cons]; omega
  | c :: r, i, false => by
    unfold genOut
    split
    · have := genOut_length r (i + 1) true
      simp only [List.length_cons]; omega
    · have := genOut_length r (i + 1) false
      simp only [List.length_cons]; omega
theorem stripTo_all (l : List Nat) : ∀ j, (stripTo l j).2.2.length ≤ j ∧ ∀ x ∈ (stripTo l j).2.2, x.length ≤ l.length
  | 0 => ⟨Nat.le_refl _, fun x hx => nomatch hx⟩
  | j + 1 => by
    have ih := stripTo_all l j
    cases h : (genOut 0 false l)[j]? with
    | none =>
      have e : stripTo l (j + 1) = stripTo l j := by unfold stripTo; rw [List.take_add_one, h]; simp
      rw [e]; exact ⟨by omega, ih.2⟩
    | some pq =>
      obtain ⟨p, q⟩ := pq
      rw [stripTo_succ l j p q h]
      unfold stripStep
      split
      · split
        · exact ⟨by have := ih.1; simp only; omega, ih.2⟩
        · simp only
          split
          · exact ⟨by have := ih.1; omega, ih.2⟩
          · refine ⟨by rw [List.length_append, List.length_singleton]; have := ih.1; omega, fun x hx => ?_⟩
            rcases List.mem_append.mp hx with hx | hx
            · exact ih.2 x hx
            · rw [List.mem_singleton.mp hx, List.length_drop, List.length_take]; omega
      · exact ⟨by have := ih.1; omega, ih.2⟩
theorem notInL {prog : Program} {w : World} {A : Around} {E : Value → Shared → Prop} {s : Shared} {l : List Nat} {c : Nat} {y : Str} {t u : Tok} {Q : Value → Shared → Prop} (hy : y = ofL [c]) (hq : Q (.bool (!decide (c ∈ l))) s) : wpAny (model prog w) A (compareOp .NotIn (.str y u) (.str (ofL l) t)) Q E s := by
  subst hy
  refine PyProof.Rows.notIn_str ?_
  rw [in_ofL]
  exact hq
noncomputable def OpIs (v : Value) (o : Option Nat) : Prop := match o with | some n => ∃ t, v = .int (n : Nat) t | none => v = .none
noncomputable def mStr (l : List Nat) (t : Tok) (st : Nat) (tst : Tok) (op : Value) (D : Addr) (pv cv : Option Value) : Str → Option Value := fun y =>
  if y = "ch" then cv else if y = "pos" then pv else if y = "result" then some (.ref D) else if y = "open_pos" then some op else if y = "start" then some (.int st tst) else if y = "addr" then some (.str (ofL l) t) else none
theorem mStr_pair (l : List Nat) (t : Tok) (st : Nat) (tst : Tok) (op : Value) (D : Addr) (pv cv : Option Value) (p : Int) (u : Tok) (v : Value) :
    (fun y : Str => if y = "ch" then some v else if y = "pos" then some (.int p u) else mStr l t st tst op D pv cv y) = mStr l t st tst op D (some (.int p u)) (some v) := by
  funext y; simp only [mStr]
  by_cases e1 : y = "ch"
  · subst e1; rfl
  by_cases e2 : y = "pos"
  · subst e2; rfl
  simp only [e1, e2, if_false]
theorem mStr_init (l : List Nat) (t tst : Tok) (D : Addr) :
    (fun y : Str => if y = "result" then some (.ref D) else if y = "open_pos" then some Value.none else if y = "start" then some (.int 0 tst) else List.lookup y [(("addr" : Str), Value.str (ofL l) t)].reverse) = mStr l t (stripTo l 0).1 tst .none D none none := by
  funext y
  simp only [mStr, List.reverse_cons, List.reverse_nil, List.nil_append, lk_cons, lk_nil]
  by_cases e1 : y = "ch"
  · subst e1; rfl
  by_cases e2 : y = "pos"
  · subst e2; rfl
  by_cases e3 : y = "result"
  · subst e3; rfl
  by_cases e4 : y = "open_pos"
  · subst e4; rfl
  by_cases e5 : y = "start"
  · subst e5; rfl
  by_cases e6 : y = "addr"
  · subst e6; rfl
  simp only [e1, e2, e3, e4, e5, e6, if_false]
theorem mStr_op (l : List Nat) (t : Tok) (st : Nat) (tst : Tok) (op : Value) (D : Addr) (pv cv : Option Value) (op' : Value) : ∀ y : Str, (if y = "open_pos" then some op' else mStr l t st tst op D pv cv y) = mStr l t st tst op' D pv cv y := by
  intro y; simp only [mStr]
  by_cases e1 : y = "ch"
  · subst e1; rfl
  by_cases e2 : y = "pos"
  · subst e2; rfl
  by_cases e3 : y = "result"
  · subst e3; rfl
  by_cases e4 : y = "open_pos"
  · subst e4; rfl
  simp only [e1, e2, e3, e4, if_false]
theorem mStr_st (l : List Nat) (t : Tok) (st : Nat) (tst : Tok) (op : Value) (D : Addr) (pv cv : Option Value) (op' : Value) (st' : Nat) (z : Int) (hz : z = st') (t' : Tok) :
    ∀ y : Str, (if y = "open_pos" then some op' else if y = "start" then some (.int z t') else mStr l t st tst op D pv cv y) = mStr l t st' t' op' D pv cv y := by
  intro y; subst hz; simp only [mStr]
  by_cases e1 : y = "ch"
  · subst e1; rfl
  by_cases e2 : y = "pos"
  · subst e2; rfl
  by_cases e3 : y = "result"
  · subst e3; rfl
  by_cases e4 : y = "open_pos"
  · subst e4; rfl
  by_cases e5 : y = "start"
  · subst e5; rfl
  simp only [e1, e2, e3, e4, e5, if_false]
inductive StrS (s : Shared) (L : Addr) (l : List Nat) (t : Tok) (s' : Shared) : Prop
  | mk (h' : Heap) (tk : Nat) (tst : Tok) (op : Value) (D : Addr) (n : Nat) (vs : List Value) (pv cv : Option Value) (q0 : s' = { s with heap := h', toks := tk, gens := s.gens.push .finished }) (q1 : Fr s.heap L h' (mStr l t (stripTo l (genOut 0 false l).length).1 tst op D pv cv)) (q2 : News s.heap L h' [(D, listOf (List.toArray vs) n)]) (q3 : SL vs (stripTo l (genOut 0 false l).length).2.2) : StrS s L l t s'
inductive StrJ (l : List Nat) (t : Tok) (D : Addr) (j : Nat) (m : Str → Option Value) (news : List (Addr × Obj)) : Prop
  | mk (vs : List Value) (n : Nat) (tst : Tok) (op : Value) (pv cv : Option Value) (q0 : m = mStr l t (stripTo l j).1 tst op D pv cv) (q1 : OpIs op (stripTo l j).2.1) (q2 : news = [(D, listOf (List.toArray vs) n)]) (q3 : SL vs (stripTo l j).2.2) : StrJ l t D j m news
local macro_rules | `(tactic| walk_at "mine none") => `(tactic| skip)
local macro_rules | `(tactic| walk_at "mine none") => `(tactic| skip)
local macro_rules | `(tactic| walk_at "call builtin:list.append") => `(tactic| (refine' append_head (hsz := ?hsz) (by assumption) (by assumption) ?hap ?_; (case hsz => (rw [List.size_toArray, sizeLine_eq]; omega)); (case hap => first | assumption | (intro _ hp; cases hp)); intro h' F' N'; rw [List.push_toArray] at N'; replace N' : News _ _ h' ((_, listOf (List.toArray (_ ++ [_])) (_ + 1)) :: _) := N'))
local macro_rules | `(tactic| walk_at "compareOp NotIn str str") => `(tactic| refine notInL l_q ?_)
local macro_rules | `(tactic| walk_at "exec For") => `(tactic| refine stopHere ?_)
theorem strip {w : World} {A : Around} {s : Shared} {Q E : Value → Shared → Prop} {l : List Nat} {t : Tok} (hx : l.length ≤ 1000) (G : Gd w s.heap) (hroom : A.depth + 1 < recursionLimit) (hh : A.handled = none)
   (h : ∀ h' t tk gens', Ext s.heap h' → (gens' = s.gens ∨ gens' = s.gens.push .finished) → Q (.str (ofL (stripF l)) t) { s with heap := h', toks := tk, gens := gens' }) :
   wpAny (model Challenge.rw_wa0026_01.row.prog w) A (call (.ref 35) [.str (ofL l) t]) Q E s := by
  obtain ⟨hd0, dp, frs, gds, un⟩ := A
  simp only at hh hroom
  subst hh
  have G0 := G
  obtain ⟨X, mg, mb, T⟩ := G
  revert X
  k_fill
  intro X
  refine' callD (K := hd.heap_39 w.params) (binds := [("addr", .str (ofL l) t)]) X T.nolimit (Nat.lt_of_succ_lt hroom) ?k1 ?k2 ?k3 ?k4 ?_ ?k5 ?k6 ?k7 ?k8
  case k1 => k_is
  case k2 => k_is
  case k3 => exact rfl
  case k4 => exact locs rfl
  case k5 => decide
  case k6 => exact rfl
  case k7 => exact rfl
  case k8 => exact rfl
  intro L h₁ F N
  have hff := F.keep
  (try dsimp only)
  by_cases h34 : 34 ∈ l
  · with_reducible refine seqR (fun s' => ∃ h' tk, s' = { s with heap := h', toks := tk } ∧ Fr s.heap L h' (fun y => List.lookup y [(("addr" : Str), Value.str (ofL l) t)].reverse)) ?_ ?_
    · repeat' (first | ((with_reducible show wpAny _ _ (subscriptTail (Expr.Name _ _) (Expr.Slice _ _ _ _) (Value.str _ _) (Value.ref _)) _ _ _); (first | (refine' slice_strN_ss (hsz := ?hsz) (s := ⟨_, _, _, _, _⟩) (by assumption) (by assumption) ?_; (case hsz => (rw [ofL_length, sizeLine_eq]; omega)); intro _ _ _ _ _; rw [slice_ss]) | (refine' slice_strN_sn (hsz := ?hsz) (s := ⟨_, _, _, _, _⟩) (by assumption) (by assumption) ?_; (case hsz => (rw [ofL_length, sizeLine_eq]; omega)); intro _ _ _ _ _; rw [slice_sn]))) | ((with_reducible show wpAny _ _ (PySem.call (Value.builtin "len") [_]) _ _ _); (refine' lenL ?hz ?_; (case hz => omega))) | walk1)
      · exact ⟨_, _, rfl, F⟩
      · rename_i hc
        exact absurd h34 hc
    clear F N
    rintro _ ⟨h', tk, rfl, F⟩
    have N : News s.heap L h' [] := News.nil
    repeat' (first | ((with_reducible show wpAny _ _ (subscriptTail (Expr.Name _ _) (Expr.Slice _ _ _ _) (Value.str _ _) (Value.ref _)) _ _ _); (first | (refine' slice_strN_ss (hsz := ?hsz) (s := ⟨_, _, _, _, _⟩) (by assumption) (by assumption) ?_; (case hsz => (rw [ofL_length, sizeLine_eq]; omega)); intro _ _ _ _ _; rw [slice_ss]) | (refine' slice_strN_sn (hsz := ?hsz) (s := ⟨_, _, _, _, _⟩) (by assumption) (by assumption) ?_; (case hsz => (rw [ofL_length, sizeLine_eq]; omega)); intro _ _ _ _ _; rw [slice_sn]))) | ((with_reducible show wpAny _ _ (PySem.call (Value.builtin "len") [_]) _ _ _); (refine' lenL ?hz ?_; (case hz => omega))) | walk1)
    unfold Stopped
    rename_i h4 D h5 _ h6 F6 N6
    refine wpAny_mono (Q := fun f s' => f = .next ∧ StrS s L l t s') ?_ (fun f s' hf => ?_) (fun _ _ e => e)
    · refine wpAny_For ?_ (fun _ => rfl)
      repeat' (first | ((with_reducible show wpAny _ _ (subscriptTail (Expr.Name _ _) (Expr.Slice _ _ _ _) (Value.str _ _) (Value.ref _)) _ _ _); (first | (refine' slice_strN_ss (hsz := ?hsz) (s := ⟨_, _, _, _, _⟩) (by assumption) (by assumption) ?_; (case hsz => (rw [ofL_length, sizeLine_eq]; omega)); intro _ _ _ _ _; rw [slice_ss]) | (refine' slice_strN_sn (hsz := ?hsz) (s := ⟨_, _, _, _, _⟩) (by assumption) (by assumption) ?_; (case hsz => (rw [ofL_length, sizeLine_eq]; omega)); intro _ _ _ _ _; rw [slice_sn]))) | ((with_reducible show wpAny _ _ (PySem.call (Value.builtin "len") [_]) _ _ _); (refine' lenL ?hz ?_; (case hz => omega))) | walk1)
      unfold Stopped
      have hL6 : L < h6.objs.size := F6.ns.lt
      refine' callG (h₀ := s.heap) (K := hd.heap_39 w.params) (binds := [("addr", .str (ofL l) t)]) X F6.keep (T.nolimit.keeps F6.keep) ?c0 ?c1 ?c2 ?c3 ?c4 ?c5 ?c6 ?c7 ?c8 ?c9
      case c0 => exact hroom
      case c1 => k_is
      case c2 => k_is
      case c3 => exact rfl
      case c4 => exact locs rfl
      case c5 => decide
      case c6 => exact rfl
      case c7 => exact rfl
      case c8 => exact rfl
      case c9 =>
      intro h₁' nm qn tk1 hn1 hk1
      replace hk1 : Ext h6 h₁' := hk1
      have hgen : (h₁'.push { cls := .type "generator", data := .fields #[.int s.gens.size 0, nm, qn] }).IsGen h₁'.objs.size s.gens.size := ⟨_, nm, qn, Heap.get?_push_size _ rfl, rfl, rfl, rfl⟩
      refine wpAny_pyIter_gen hgen ?_
      have hC : h6.objs.size < h₁'.objs.size := hn1.lt
      have hz : (h₁'.push { cls := .type "generator", data := .fields #[.int s.gens.size 0, nm, qn] }).objs.size = h₁'.objs.size + 1 := Heap.size_push ..
      have hup : Ext h6 (h₁'.push { cls := .type "generator", data := .fields #[.int s.gens.size 0, nm, qn] }) := fun b o e => Heap.get?_push_of_some _ (hk1 b o e)
      have fresh : ∀ b, h6.objs.size ≤ b → s.heap.get? b = none := by
        intro b hb
        cases hq : s.heap.get? b with
        | none => rfl
        | some o => exact absurd (Heap.lt_size (F6.keep _ _ hq)) (Nat.not_lt.mpr hb)
      have far : ∀ b, b < h6.objs.size → b ∉ [h₁'.objs.size, h6.objs.size, h₁'.objs.size + 1 + 1, h₁'.objs.size + 1] := by
        intro b hb hm
        simp only [List.mem_cons, List.not_mem_nil, or_false] at hm
        have hb' : (b : Nat) < h6.objs.size := hb
        have hC' : (h6.objs.size : Nat) < h₁'.objs.size := hC
        rcases hm with e | e | e | e <;> (rw [e] at hb'; omega)
      refine' forG (env := envOf _ _ L 35 _) (gens0 := s.gens) (C := h6.objs.size) (N := h₁'.objs.size + 1) (out := genOut 0 false l) (Q := fun f s' => f = .next ∧ StrS s L l t s')
        (J := StrJ l t D)
        ?f1 ?f2 ?f3 ?f4 ?f5 ?f6 ?f7 ?f8 ?f9 ?f10 ?f11 ?f12 ?f13 (Fr.grownK F6 hup) (News.grown N6 hup) ?f14 ?f15 ?f16 ?f17 ?f18
      case f1 => exact rfl
      case f2 => exact hroom
      case f3 => exact T.nolimit
      case f4 => exact rfl
      case f5 => exact rfl
      case f6 => exact rfl
      case f7 => exact far L hL6
      case f8 =>
        intro b hb
        refine fresh b ?_
        simp only [List.mem_cons, List.not_mem_nil, or_false] at hb
        rcases hb with rfl | rfl | rfl | rfl
        · exact Nat.le_of_lt hC
        · exact Nat.le_refl _
        · exact Nat.le_of_lt (Nat.lt_succ_of_lt (Nat.lt_succ_of_lt hC))
        · exact Nat.le_of_lt (Nat.lt_succ_of_lt hC)
      case f9 =>
        intro hm
        simp only [List.mem_cons, List.not_mem_nil, or_false] at hm
        rcases hm with e | e | e
        · exact absurd e (Nat.ne_of_gt hC)
        · exact absurd e (Nat.ne_of_lt (Nat.lt_succ_of_lt (Nat.lt_succ_self _)))
        · exact absurd e (Nat.ne_of_lt (Nat.lt_succ_self _))
      case f10 => exact rfl
      case f11 => exact hz
      case f12 => exact hgen
      case f13 =>
        intro s'' hal hx2 hzz
        have FC : Fr s.heap h6.objs.size s''.heap (fun y => if y = "addr" then some (.str (ofL l) t) else none) :=
          ⟨by
            have e : (fun x => List.lookup x [(("addr" : Str), Value.str (ofL l) t)].reverse) = fun y : Str => if y = "addr" then some (Value.str (ofL l) t) else none := by
              funext y; simp only [List.reverse_cons, List.reverse_nil, List.nil_append, lk_cons, lk_nil]
            rw [← e]
            exact hn1.at fun o eo => hal _ (by simp) o (Heap.get?_push_of_some _ eo), hx2, Nat.le_of_lt (Nat.lt_of_le_of_lt F6.above hL6)⟩
        refine ⟨rfl, ?_⟩
        rw [← hzz]
        refine' genStart ?g1 rfl X ⟨_, _, T⟩ FC (fresh _ (Nat.le_refl _)) (by omega)
        case g1 => k_is
      case f14 =>
        intro p hp
        rw [List.mem_singleton.mp hp]
        exact far D (Heap.lt_size (N6 _ (.head _)).1)
      case f15 =>
        exact ⟨[], 0, _, .none, none, none, mStr_init _ _ _ _, rfl, rfl, .nil⟩
      case f16 =>
        rintro j p q tp u own _ _ s₁ g₁ hat ⟨vs, n, tst, op, pv, cv, rfl, hop, rfl, hv⟩ hnw hap hs1 F7 N7
        rw [mStr_pair] at F7
        replace F7 : Fr s.heap L s₁.heap (mStr l t (stripTo l j).1 tst op D (some (.int (p : Nat) tp)) (some (.str (ofL q) u))) := F7
        have N8 : News s.heap L s₁.heap ((D, listOf (List.toArray vs) n) :: own) := News.sub N7 fun p hp => by simpa [or_comm] using hp
        have hD : ∀ p ∈ own, p.1 ≠ D := fun p hp => hap p hp _ (.head _)
        clear N7 N6 F6
        have hst := stripTo_succ l j p q hat
        have hvs : vs.length ≤ 1001 := by
          have h1 := (stripTo_all l j).1
          have h2 := genOut_length l 0 false
          have h3 := (List.getElem?_eq_some_iff.mp hat).1
          rw [hv.length]; omega
        by_cases hq : q = [34]
        · subst hq
          cases ho : (stripTo l j).2.1 with
          | none =>
            rw [ho] at hop
            have hop' : op = .none := hop
            subst hop'
            have hst' : stripTo l (j + 1) = ((stripTo l j).1, some p, (stripTo l j).2.2) := by rw [hst]; unfold stripStep; rw [if_pos rfl, ho]
            repeat' (first | ((with_reducible show wpAny _ _ (subscriptTail (Expr.Name _ _) (Expr.Slice _ _ _ _) (Value.str _ _) (Value.ref _)) _ _ _); (first | (refine' slice_strN_ss (hsz := ?hsz) (s := ⟨_, _, _, _, _⟩) (by assumption) (by assumption) ?_; (case hsz => (rw [ofL_length, sizeLine_eq]; omega)); intro _ _ _ _ _; rw [slice_ss]) | (refine' slice_strN_sn (hsz := ?hsz) (s := ⟨_, _, _, _, _⟩) (by assumption) (by assumption) ?_; (case hsz => (rw [ofL_length, sizeLine_eq]; omega)); intro _ _ _ _ _; rw [slice_sn]))) | ((with_reducible show wpAny _ _ (PySem.call (Value.builtin "len") [_]) _ _ _); (refine' lenL ?hz ?_; (case hz => omega))) | walk1)
            rename_i h9 F9 N9
            refine ⟨h9, _, _, _, rfl, Fr.to F9 (mStr_op _ _ _ _ _ _ _ _ _), News.sub N9 fun p hp => by simpa [or_comm] using hp, hnw, ⟨vs, n, tst, .int (p : Nat) tp, some (.int (p : Nat) tp), some (.str (ofL [34]) u), ?_, ?_, rfl, ?_⟩⟩
            · rw [hst']
            · rw [hst']; exact ⟨tp, rfl⟩
            · rw [hst']; exact hv
          | some o =>
            rw [ho] at hop
            obtain ⟨to, rfl⟩ := hop
            have hst' : stripTo l (j + 1) = (p + 1, none, if (stripTo l j).1 = o then (stripTo l j).2.2 else (stripTo l j).2.2 ++ [(l.take o).drop (stripTo l j).1]) := by rw [hst]; unfold stripStep; rw [if_pos rfl, ho]
            repeat' (first | ((with_reducible show wpAny _ _ (subscriptTail (Expr.Name _ _) (Expr.Slice _ _ _ _) (Value.str _ _) (Value.ref _)) _ _ _); (first | (refine' slice_strN_ss (hsz := ?hsz) (s := ⟨_, _, _, _, _⟩) (by assumption) (by assumption) ?_; (case hsz => (rw [ofL_length, sizeLine_eq]; omega)); intro _ _ _ _ _; rw [slice_ss]) | (refine' slice_strN_sn (hsz := ?hsz) (s := ⟨_, _, _, _, _⟩) (by assumption) (by assumption) ?_; (case hsz => (rw [ofL_length, sizeLine_eq]; omega)); intro _ _ _ _ _; rw [slice_sn]))) | ((with_reducible show wpAny _ _ (PySem.call (Value.builtin "len") [_]) _ _ _); (refine' lenL ?hz ?_; (case hz => omega))) | walk1)
            · rename_i hne _ _ _ _ _ h9 F9 N9
              have hne' : (stripTo l j).1 ≠ o := by omega
              have e1 : (stripTo l (j + 1)).2.2 = (stripTo l j).2.2 ++ [(l.take o).drop (stripTo l j).1] := by rw [hst']; simp only [hne', if_false]
              refine ⟨h9, _, _, _, rfl, Fr.to F9 (mStr_st _ _ _ _ _ _ _ _ _ (p + 1) _ (by push_cast; rfl) _), News.sub N9 fun p hp => by simpa [or_comm] using hp, (fun x hx => by rw [List.mem_singleton.mp hx]; exact hnw (D, listOf (List.toArray vs) n) (.head _)), ⟨vs ++ [_], n + 1, _, .none, some (.int (p : Nat) tp), some (.str (ofL [34]) u), congrArg (fun z => mStr l t z _ .none D _ _) (congrArg Prod.fst hst').symm, (by rw [hst']; exact rfl), rfl, ?_⟩⟩
              rw [e1]
              exact Paired.snoc hv ⟨_, rfl⟩
            · rename_i heq _ h9 F9 N9
              have heq' : (stripTo l j).1 = o := by omega
              refine ⟨h9, _, _, _, rfl, Fr.to F9 (mStr_st _ _ _ _ _ _ _ _ _ (p + 1) _ (by push_cast; rfl) _), News.sub N9 fun p hp => by simpa [or_comm] using hp, hnw, ⟨vs, n, _, .none, some (.int (p : Nat) tp), some (.str (ofL [34]) u), congrArg (fun z => mStr l t z _ .none D _ _) (congrArg Prod.fst hst').symm, (by rw [hst']; exact rfl), rfl, ?_⟩⟩
              rw [hst']; simp only [heq', if_true]; exact hv
        · repeat' (first | ((with_reducible show wpAny _ _ (subscriptTail (Expr.Name _ _) (Expr.Slice _ _ _ _) (Value.str _ _) (Value.ref _)) _ _ _); (first | (refine' slice_strN_ss (hsz := ?hsz) (s := ⟨_, _, _, _, _⟩) (by assumption) (by assumption) ?_; (case hsz => (rw [ofL_length, sizeLine_eq]; omega)); intro _ _ _ _ _; rw [slice_ss]) | (refine' slice_strN_sn (hsz := ?hsz) (s := ⟨_, _, _, _, _⟩) (by assumption) (by assumption) ?_; (case hsz => (rw [ofL_length, sizeLine_eq]; omega)); intro _ _ _ _ _; rw [slice_sn]))) | ((with_reducible show wpAny _ _ (PySem.call (Value.builtin "len") [_]) _ _ _); (refine' lenL ?hz ?_; (case hz => omega))) | walk1)
          · rename_i hc
            rw [l_q, ofL_beq] at hc
            exact absurd (of_decide_eq_true hc) hq
          · refine ⟨_, _, _, _, rfl, F7, News.sub N8 fun p hp => by simpa [or_comm] using hp, hnw, ⟨vs, n, tst, op, some (.int (p : Nat) tp), some (.str (ofL q) u), ?_, ?_, rfl, ?_⟩⟩
            · rw [hst]; unfold stripStep; rw [if_neg hq]
            · rw [hst]; unfold stripStep; rw [if_neg hq]; exact hop
            · rw [hst]; unfold stripStep; rw [if_neg hq]; exact hv
      case f17 =>
        rintro h' tk m' news' F7 N7 ⟨vs, n, tst, op, pv, cv, rfl, hop, rfl, hv⟩
        exact ⟨rfl, h', tk, tst, op, D, n, vs, pv, cv, rfl, F7, N7, hv⟩
      case f18 =>
        exact fun _ _ q => q
    · obtain ⟨rfl, hp⟩ := hf
      dsimp only
      obtain ⟨h', tk, tst, op, D, n, vs, pv, cv, rfl, F7, N7, hv⟩ := hp
      clear N6 F6
      have hvs : vs.length ≤ 1001 := by
        have h1 := (stripTo_all l (genOut 0 false l).length).1
        have h2 := genOut_length l 0 false
        rw [hv.length]; omega
      have hpl : ∀ x ∈ (stripTo l (genOut 0 false l).length).2.2, x.length ≤ 1000 := fun x hx' => Nat.le_trans ((stripTo_all l _).2 x hx') hx
      repeat' (first | ((with_reducible show wpAny _ _ (subscriptTail (Expr.Name _ _) (Expr.Slice _ _ _ _) (Value.str _ _) (Value.ref _)) _ _ _); (first | (refine' slice_strN_ss (hsz := ?hsz) (s := ⟨_, _, _, _, _⟩) (by assumption) (by assumption) ?_; (case hsz => (rw [ofL_length, sizeLine_eq]; omega)); intro _ _ _ _ _; rw [slice_ss]) | (refine' slice_strN_sn (hsz := ?hsz) (s := ⟨_, _, _, _, _⟩) (by assumption) (by assumption) ?_; (case hsz => (rw [ofL_length, sizeLine_eq]; omega)); intro _ _ _ _ _; rw [slice_sn]))) | ((with_reducible show wpAny _ _ (PySem.call (Value.builtin "len") [_]) _ _ _); (refine' lenL ?hz ?_; (case hz => omega))) | walk1)
      · rename_i hlt _ _ _ h9 F9 N9
        rw [List.push_toArray] at N9
        unfold Stopped
        refine joinL (vs := vs ++ [_]) (ls := (stripTo l (genOut 0 false l).length).2.2 ++ [l.drop (stripTo l (genOut 0 false l).length).1]) (B := 1000) lit_none (News.isList N9 (.head _)) (Paired.snoc hv ⟨_, rfl⟩) ?_ ?_ (fun t' k => ?_)
        · intro x hx'
          rcases List.mem_append.mp hx' with hx' | hx'
          · exact hpl x hx'
          · rw [List.mem_singleton.mp hx', List.length_drop]; omega
        · rw [List.length_append, List.length_singleton, ← hv.length]; omega
        · have := h h9 t' k (s.gens.push .finished) F9.keep (.inr rfl)
          unfold stripF at this
          rw [if_pos h34, if_pos (by omega)] at this
          exact this
      · rename_i hlt
        unfold Stopped
        refine joinL (vs := vs) (ls := (stripTo l (genOut 0 false l).length).2.2) (B := 1000) lit_none (News.isList N7 (.head _)) hv hpl ?_ (fun t' k => ?_)
        · rw [← hv.length]; omega
        · have := h h' t' k (s.gens.push .finished) F7.keep (.inr rfl)
          unfold stripF at this
          rw [if_pos h34, if_neg (by omega)] at this
          exact this
  · have e : stripF l = l := by unfold stripF; rw [if_neg h34]
    with_reducible refine seqR (fun _ => False) ?_ (fun _ h => h.elim)
    repeat' (first | ((with_reducible show wpAny _ _ (subscriptTail (Expr.Name _ _) (Expr.Slice _ _ _ _) (Value.str _ _) (Value.ref _)) _ _ _); (first | (refine' slice_strN_ss (hsz := ?hsz) (s := ⟨_, _, _, _, _⟩) (by assumption) (by assumption) ?_; (case hsz => (rw [ofL_length, sizeLine_eq]; omega)); intro _ _ _ _ _; rw [slice_ss]) | (refine' slice_strN_sn (hsz := ?hsz) (s := ⟨_, _, _, _, _⟩) (by assumption) (by assumption) ?_; (case hsz => (rw [ofL_length, sizeLine_eq]; omega)); intro _ _ _ _ _; rw [slice_sn]))) | ((with_reducible show wpAny _ _ (PySem.call (Value.builtin "len") [_]) _ _ _); (refine' lenL ?hz ?_; (case hz => omega))) | walk1)
    have := fun tk => h h₁ t tk s.gens hff (.inl rfl)
    rw [e] at this
    exact this _
end Mine

-- B17
namespace Mine
open PySem PySem.W PySem.Calls PyProof.Rows
set_option Elab.async false
set_option maxRecDepth 100000
section
variable {prog : Program} {w : World} {A : Around} {s : Shared} {env : Env} {h₀ : Heap} {Q : Value → Shared → Prop}
inductive CompT (prog : Program) (w : World) (A : Around) (h₀ : Heap) (env : Env) (scope : Scope) (cl : List (Str × Addr)) (a b : Str) (elt : PySem.Expr) (g : Nat → Value → Prop) (Q : Value → Shared → Prop) (it : Value) (s₂ : Shared) : Prop
  | mk (I : Addr) (fp wr : List Addr) (n : Nat) (Pt : Nat → Array Value → Prop) (St : Nat → Heap → Prop) (Mid : Nat → Addr → Heap → Prop) (m : Str → Option Value) (news : List (Addr × Obj)) (q0 : it = .ref I) (q1 : A.handled = none) (q2 : WalksT prog w A I fp wr n Pt St Mid) (q3 : n ≤ sizeLine) (q4 : St 0 s₂.heap) (q5 : (∀ b ∈ fp, b < s₂.heap.objs.size)) (q6 : Fr h₀ env.locals s₂.heap m) (q7 : News h₀ env.locals s₂.heap news) (q8 : (∀ b ∈ wr, h₀.get? b = none)) (q9 : env.locals ∉ wr) (q10 : (∀ p ∈ news, p.1 ∉ wr)) (q11 : (∀ i vals, Pt i vals → ∃ x y, vals = #[x, y])) (q12 : (∀ C i x y (s₃ : Shared) m₃, i < n → Pt i #[x, y] → s₃.heap.Ns C m₃ → m₃ a = some x → m₃ b = some y → (∀ b o, b ∉ wr → s₂.heap.get? b = some o → s₃.heap.get? b = some o) → wpAny (model prog w) A (eval elt (compEnvC scope cl C env)) (fun z s₄ => g i z ∧ Keeps s₃ s₄) (fun _ _ => False) s₃)) (q13 : (∀ D ys k h' tk, Fr h₀ env.locals h' m → News h₀ env.locals h' ((D, listOf (List.toArray ys) k) :: news) → ys.length = n → (∀ (i : Nat) (z : Value), ys[i]? = some z → g i z) → Q (.ref D) { s₂ with heap := h', toks := tk })) : CompT prog w A h₀ env scope cl a b elt g Q it s₂
inductive InvT (s₂ : Shared) (wr : List Addr) (St : Nat → Heap → Prop) (g : Nat → Value → Prop) (C D n k : Nat) (s' : Shared) : Prop
  | mk (h' : Heap) (tk i : Nat) (ys : List Value) (m' : Str → Option Value) (kd : Nat) (q0 : s' = { s₂ with heap := h', toks := tk }) (q1 : i ≤ n) (q2 : k = n + 1 - i) (q3 : ys.length = i) (q4 : St i h') (q5 : h'.Ns C m') (q6 : h'.get? D = some (listOf (List.toArray ys) kd)) (q7 : ∀ b o, b ∉ wr → s₂.heap.get? b = some o → h'.get? b = some o) (q8 : ∀ (i : Nat) (z : Value), ys[i]? = some z → g i z) : InvT s₂ wr St g C D n k s'
theorem compT {elt iter : PySem.Expr} {a b : Str} {pa pb tp : Pos} {kk : Nat} {scope : Scope} {cl : List (Str × Addr)} {pos : Pos} (h₀ : Heap) (g : Nat → Value → Prop)
    (hclos : closureFor scope env = pure cl) (hcell : ∀ y ∈ scope.names, y.2 ≠ .cell) (hkind : scope.kind = .function)
    (hnames : ∀ y ∈ scope.names, y.2 = .local → scope.names.lookup y.1 = some .local) (hxa : scope.names.lookup a = some .local) (hxb : scope.names.lookup b = some .local) (hab : a ≠ b)
    (h : wpAny (model prog w) A (eval iter env) (fun xv s₁ => wpAny (model prog w) A (pyIter xv) (CompT prog w A h₀ env scope cl a b elt g Q) (fun _ _ => False) s₁) (fun _ _ => False) s)
    (hs : ∀ x, foldedSetIterable iter env x = pure x) :
    wpAny (model prog w) A (eval (.ListComp elt [⟨.Tuple [.Name a pa, .Name b pb] kk tp, iter, [], 0⟩] scope pos) env) Q (fun _ _ => False) s := by
  rw [eval_ListComp]
  refine wpAny_comprehension_free (use := none) rfl hs hclos hkind hnames (wpAny_mono h (fun xv s₁ h₁ => wpAny_mono h₁ (fun it s₂ h₂ => ?_) fun _ _ e => e) fun _ _ e => e)
  obtain ⟨I, fp, wr, n, Pt, St, Mid, m, news, rfl, hh, W, hsz, hst, hfp, F, N, hwr, hLw, hnw, hPt, helt, hQ⟩ := h₂
  refine wpAny_newObj_type (wpAny_newFunctionEnv hcell (by intro y hy; simp at hy) (fun h₁ hns₁ hsb₁ => ?_) hkind)
  dsimp only at hns₁ hsb₁ ⊢
  generalize hH2 : s₂.heap.push { cls := .type "list", dict := none, data := .seq ([] : List Value).toArray } = H2 at hns₁ hsb₁ ⊢
  have hC : H2.objs.size = s₂.heap.objs.size + 1 := by rw [← hH2, Heap.size_push]
  have hDC : s₂.heap.objs.size ≠ H2.objs.size := by rw [hC]; exact Nat.ne_of_lt (Nat.lt_succ_self _)
  have below : ∀ b, b < s₂.heap.objs.size → b ≠ H2.objs.size ∧ b ≠ s₂.heap.objs.size := fun b hb => ⟨by rw [hC]; exact Nat.ne_of_lt (Nat.lt_succ_of_lt hb), Nat.ne_of_lt hb⟩
  have old : ∀ b o, s₂.heap.get? b = some o → h₁.get? b = some o := fun b o e => hsb₁.extBut b o (below b (Heap.lt_size e)).1 (Heap.get?_push_of_some _ (hH2 ▸ Heap.get?_push_of_some _ e))
  have hacc : h₁.get? s₂.heap.objs.size = some (listOf (List.toArray []) 0) := hsb₁.extBut _ _ hDC (Heap.get?_push_of_some _ (hH2 ▸ Heap.get?_push_size _ rfl))
  have fresh₀ : ∀ a, s₂.heap.objs.size ≤ a → h₀.get? a = none := fun a ha => by
    cases e : h₀.get? a with
    | none => rfl
    | some o' => exact absurd (Heap.lt_size (F.keep a o' e)) (Nat.not_lt.mpr ha)
  have hD₀ : h₀.get? s₂.heap.objs.size = none := fresh₀ _ (Nat.le_refl _)
  have hC₀ : h₀.get? H2.objs.size = none := fresh₀ _ (by rw [hC]; exact Nat.le_succ _)
  have hLlt : env.locals < s₂.heap.objs.size := F.ns.lt
  have hDL : s₂.heap.objs.size ≠ env.locals := Ne.symm (below _ hLlt).2
  have hCL : H2.objs.size ≠ env.locals := Ne.symm (below _ hLlt).1
  have hfC : ∀ b ∈ fp, b ≠ H2.objs.size ∧ b ≠ s₂.heap.objs.size := fun b hb => below b (hfp b hb)
  have hwC : H2.objs.size ∉ wr := fun hb => (hfC _ (W.sub _ hb)).1 rfl
  have hwD : s₂.heap.objs.size ∉ wr := fun hb => (hfC _ (W.sub _ hb)).2 rfl
  have nev : ∀ {α : Type} {t : Sem α} {Q' : α → Shared → Prop} {E' : Value → Shared → Prop} {s' : Shared}, wpAny (model prog w) A t Q' (fun _ _ => False) s' → wpAny (model prog w) A t Q' E' s' := fun h => wpAny_noRaise h
  have loop : ∀ s₃ : Shared, s₃ = { s₂ with heap := h₁, toks := s₂.toks + ([] : List (Str × Value)).length } →
      codeAny (model prog w) A (.compLoop (.ListComp elt [⟨.Tuple [.Name a pa, .Name b pb] kk tp, iter, [], 0⟩] scope pos) 0 (.ref I) (.ref s₂.heap.objs.size) (compEnvC scope cl H2.objs.size env))
        (compPost (model prog w) A (fun _ _ => False) none Q (.ref s₂.heap.objs.size) H2.objs.size) s₃ := by
    rintro s₃ rfl
    refine kcp_loop
      (InvT s₂ wr St g H2.objs.size s₂.heap.objs.size n) ?_ (n + 1)
      ⟨h₁, _, 0, [], _, 0, rfl, Nat.zero_le _, rfl, rfl, W.frame _ _ _ hst fun b _ o e => old b o e, hns₁, hacc, fun b o _ e => old b o e, fun i z e => by simp at e⟩
    rintro k s' ⟨h', tk, i, ys, m', kd, rfl, hi, rfl, hyl, hst', hn', hD', hk', hg'⟩
    by_cases hlt : i < n
    · refine W.item i _ _ _ hlt hst' fun T vals h₂ tk₂ hP hTs hT hM hk₂ => ?_
      obtain ⟨x, y, rfl⟩ := hPt i vals hP
      refine W.go _ _ _ i T _ _ _ hM fun h₃ hst₃ hk₃ => ?_
      have up₃ : ∀ c o, c ∉ wr → h'.get? c = some o → h₃.get? c = some o := fun c o hc e => hk₃ c o hc (hk₂ c o hc e)
      have hTw : T ∉ wr := W.apart i T _ hM
      have hT₃ : h₃.IsTuple T #[x, y] := let ⟨o, ho, r⟩ := hT; ⟨o, hk₃ T o hTw ho, r⟩
      refine nev (assignPair (env := compEnvC scope cl H2.objs.size env) hh hT₃ (hn'.at' fun o e => up₃ _ o hwC e) (lookup_relabel_local hxa) (lookup_relabel_local hxb) (by simp [compEnvC, relabel, hkind]) fun h₄ tk₄ hn₄ hs₄ => ?_)
      have up : ∀ c o, c ∉ wr → c ≠ H2.objs.size → h'.get? c = some o → h₄.get? c = some o := fun c o h1 h2 e => hs₄ c o h2 (up₃ c o h1 e)
      refine nev (wpAny_mono (helt H2.objs.size i x y { s₂ with heap := h₄, toks := tk₄ } _ hlt hP hn₄ (by simp [hab]) (by simp) fun c o h1 e => up c o h1 (below c (Heap.lt_size e)).1 (hk' c o h1 e)) (fun z s₅ h₅ => ?_) fun _ _ e => e)
      obtain ⟨hgz, h₅, tk₅, rfl, hk₅⟩ := h₅
      have zD := hk₅ _ _ (up _ _ hwD hDC hD')
      refine append_at (hsz := by show ys.toArray.size ≤ sizeLine; rw [List.size_toArray, hyl]; exact Nat.le_trans hi hsz) zD fun h₆ hs₆ hD₆ => ?_
      rw [List.push_toArray] at hD₆
      refine ⟨n + 1 - (i + 1), by omega, h₆, tk₅, i + 1, ys ++ [z], _, kd + 1, rfl, hlt, rfl, by rw [List.length_append, List.length_singleton, hyl], ?_, (hn₄.keeps hk₅).sameBut hs₆ (Ne.symm hDC), hD₆, ?_, ?_⟩
      · refine W.frame _ _ _ hst₃ fun b hb o e => hs₆.extBut b o (hfC b hb).2 (hk₅ b o (hs₄ b o (hfC b hb).1 e))
      · exact fun b o hb e => hs₆.extBut b o (below b (Heap.lt_size e)).2 (hk₅ b o (up b o hb (below b (Heap.lt_size e)).1 (hk' b o hb e)))
      · intro j z' e
        by_cases hj : j < ys.length
        · rw [List.getElem?_append_left hj] at e
          exact hg' j z' e
        · rw [List.getElem?_append_right (by omega)] at e
          have hj0 : j - ys.length = 0 := by
            rcases Nat.eq_zero_or_pos (j - ys.length) with h0 | h0
            · exact h0
            · rw [List.getElem?_eq_none (by simp; omega)] at e; cases e
          rw [hj0] at e
          have ez : z' = z := by simpa using e.symm
          have ej : j = i := by omega
          rw [ez, ej]; exact hgz
    · have hin : i = n := by omega
      subst hin
      refine W.done _ _ _ hst' fun h₂ tk₂ hk₂ => ?_
      refine ⟨m', hn'.at' fun o e => hk₂ _ o hwC e, fun h'' hs'' => hQ s₂.heap.objs.size ys kd h'' tk₂ ?_ ?_ hyl hg'⟩
      · exact ⟨F.ns.at' fun o e => hs''.extBut _ o (Ne.symm hCL) (hk₂ _ o hLw (hk' _ o hLw e)), fun b o e => hs''.extBut b o (fun q => by rw [q, hC₀] at e; cases e) (hk₂ b o (fun q => by rw [hwr b q] at e; cases e) (hk' b o (fun q => by rw [hwr b q] at e; cases e) (F.keep b o e))), F.above⟩
      · intro p hp
        rcases List.mem_cons.mp hp with rfl | hp
        · exact ⟨hs''.extBut _ _ hDC (hk₂ _ _ hwD hD'), hDL, hD₀⟩
        · exact ⟨hs''.extBut _ _ (below _ (Heap.lt_size (N p hp).1)).1 (hk₂ _ _ (hnw p hp) (hk' _ _ (hnw p hp) (N p hp).1)), (N p hp).2⟩
  exact codeAny_compStart_list (loop _ rfl) (W.self 0 _ _ _ (W.frame _ _ _ hst fun b _ o e => old b o e) (loop _ rfl))
end
end Mine

-- B18
namespace Mine
open PySem PySem.W PySem.Calls PyProof.Rows
set_option Elab.async false
set_option maxRecDepth 100000
/-- the law's body from its k-th statement on -/
noncomputable def LawRest (w : World) (A : Around) (L : Addr) (k : Nat) (Q : Value → Shared → Prop) (s : Shared) : Prop :=
  ∀ (name qual : Str) (params : Arguments) (body : List Stmt) (scope : Scope) (dV kV doc pm cdv ct oc : Value) (an od : Option Addr) (osl : Array (Option Value)),
    (hd.heap_39 w.params).lookup 99 = some ⟨oc, od, .func (fnOf name qual params body scope dV kV doc pm an cdv ct), osl⟩ →
    wpAny (model Challenge.rw_wa0026_01.row.prog w) (A.deeper (envOfC qual scope L 99 cdv)) (execs (body.drop k) (envOfC qual scope L 99 cdv)) (fun fl s' => Q (match fl with | .ret v => v | _ => .none) s') (fun _ _ => False) s
theorem lawRest_use {w : World} {A : Around} {L : Addr} {k : Nat} {Q : Value → Shared → Prop} {s : Shared} (h : LawRest w A L k Q s) {name qual : Str} {params : Arguments} {body rest : List Stmt} {scope : Scope} {dV kV doc pm cdv ct oc : Value} {an od : Option Addr} {osl : Array (Option Value)}
    (ho : (hd.heap_39 w.params).lookup 99 = some ⟨oc, od, .func (fnOf name qual params body scope dV kV doc pm an cdv ct), osl⟩) (e : body.drop k = rest) :
    wpAny (model Challenge.rw_wa0026_01.row.prog w) (A.deeper (envOfC qual scope L 99 cdv)) (execs rest (envOfC qual scope L 99 cdv)) (fun fl s' => Q (match fl with | .ret v => v | _ => .none) s') (fun _ _ => False) s := e ▸ h _ _ _ _ _ _ _ _ _ _ _ _ _ _ _ ho
theorem lawRest_mk {w : World} {A : Around} {L : Addr} {k : Nat} {Q : Value → Shared → Prop} {s : Shared} {name qual : Str} {params : Arguments} {body rest : List Stmt} {scope : Scope} {dV kV doc pm cdv ct oc : Value} {an od : Option Addr} {osl : Array (Option Value)}
    (ho : (hd.heap_39 w.params).lookup 99 = some ⟨oc, od, .func (fnOf name qual params body scope dV kV doc pm an cdv ct), osl⟩) (e : body.drop k = rest)
    (h : wpAny (model Challenge.rw_wa0026_01.row.prog w) (A.deeper (envOfC qual scope L 99 cdv)) (execs rest (envOfC qual scope L 99 cdv)) (fun fl s' => Q (match fl with | .ret v => v | _ => .none) s') (fun _ _ => False) s) : LawRest w A L k Q s := by
  intro name' qual' params' body' scope' dV' kV' doc' pm' cdv' ct' oc' an' od' osl' ho'
  have e1 := Option.some.inj (ho.symm.trans ho')
  injection e1 with _ _ e3 _
  injection e3 with e5
  injection e5 with q1 q2 q3 q4 q5 _ _ _ _ _ _ _ q6 _ _
  have q4' := FuncBody.stmts.inj q4
  subst q2 q4' q5 q6
  rw [e]; exact h
end Mine

-- F7
namespace Mine
open PySem PySem.W PySem.Calls PyProof.Rows
set_option Elab.async false
set_option maxRecDepth 100000
set_option maxHeartbeats 4000000
noncomputable def mFirst (ax : Addr) (f : Nat) (tf : Tok) : Str → Option Value := fun y => if y = "first" then some (.int f tf) else if y = "script" then some (.ref ax) else none
inductive LawA (s : Shared) (L ax : Addr) (s' : Shared) : Prop
  | mk (h' : Heap) (tk f : Nat) (tf : Tok) (o : Obj) (q : f < 1000000) (q0 : s' = { s with heap := h', toks := tk }) (q1 : Fr s.heap L h' (mFirst ax f tf)) (q2 : News s.heap L h' [(L + 1, o)]) (q3 : o.data = .cell none) : LawA s L ax s'
theorem first_nat (z : Int) : ∃ f : Nat, f < 1000000 ∧ z.fmod (10 ^ Int.toNat 6) = (f : Int) := by
  have h1 : z.fmod 1000000 = z % 1000000 := Int.fmod_eq_emod_of_nonneg z (by decide)
  have h2 := Int.emod_nonneg z (show (1000000 : Int) ≠ 0 by decide)
  have h3 := Int.emod_lt_of_pos z (show (0 : Int) < 1000000 by decide)
  refine ⟨(z % 1000000).toNat, by omega, ?_⟩
  show z.fmod 1000000 = _
  rw [h1]; omega
theorem mFirst_of (ax : Addr) (f : Nat) (tf : Tok) {k : Str → Option NameKind} (hk : k "script" = some .local := by rfl) : ∀ y : Str, (if y = "first" then some (.int (f : Nat) tf) else bindL k [("script", .ref ax)] (fun _ => none) y) = mFirst ax f tf y := by
  intro y
  simp only [mFirst, bindL]
  by_cases e1 : y = "first"
  · subst e1; rfl
  rw [if_pos hk]
noncomputable def stepF (f : Nat) : Nat := f / 64 % 4 * 2 + 1
noncomputable def restF (f : Nat) : Nat := f / 256 % stepF f
noncomputable def otherF (f : Nat) : Nat := [9, 10, 13].getD (f / 2048 % 3) 9
noncomputable def handF (f : Nat) : Nat := f / 6144 % 5
noncomputable def wref (h : Nat) : Addr := [49, 56, 63, 70, 77].getD h 49
noncomputable def mPar (ax : Addr) (f : Nat) (tf t1 t2 t3 : Tok) : Str → Option Value := fun y => if y = "writer" then some (.ref (wref (handF f))) else if y = "hand" then some (.int (handF f) t1) else if y = "rest" then some (.int (restF f) t2) else if y = "step" then some (.int (stepF f) t3) else mFirst ax f tf y
noncomputable def signAt (o i : Nat) (b : Int) : Nat := if i % 2 = 0 then (if b = 0 then 60 else 62) else (if b = 0 then 38 else o)
noncomputable def signsF (f : Nat) : List Nat := (List.range 63).map fun i => signAt (otherF f) i ((foldsTo f 0 6).getD i 0)
theorem flat_one (g : Nat → Nat) : ∀ l : List Nat, (l.map fun i => [g i]).flatten = l.map g
  | [] => rfl
  | a :: r => by rw [List.map_cons, List.flatten_cons, flat_one g r]; rfl
noncomputable def mSig (ax : Addr) (f : Nat) (tf t1 t2 t3 t4 : Tok) : Str → Option Value := fun y => if y = "signs" then some (.str (ofL (signsF f)) t4) else mPar ax f tf t1 t2 t3 y
theorem dm (f a b : Nat) : ((f : Int).fdiv (a : Int)).fmod (b : Int) = ((f / a % b : Nat) : Int) := by
  rw [Int.fdiv_eq_ediv_of_nonneg _ (by omega), Int.fmod_eq_emod_of_nonneg _ (by omega)]; norm_cast
theorem handEq (f : Nat) : ((f : Int).fdiv 6144).fmod 5 = (handF f : Nat) := dm f 6144 5
theorem otherEq (f : Nat) : ((f : Int).fdiv 2048).fmod 3 = ((f / 2048 % 3 : Nat) : Int) := dm f 2048 3
theorem stepEq (f : Nat) : ((f : Int).fdiv 64).fmod 4 * 2 + 1 = (stepF f : Nat) := by
  have := dm f 64 4
  have h : ((f : Int).fdiv 64).fmod 4 = ((f / 64 % 4 : Nat) : Int) := this
  rw [h]; unfold stepF; push_cast; rfl
theorem restEq (f : Nat) : ((f : Int).fdiv 256).fmod (((f : Int).fdiv 64).fmod 4 * 2 + 1) = (restF f : Nat) := by
  rw [stepEq]; exact dm f 256 (stepF f)
theorem handF_lt (f : Nat) : handF f < 5 := Nat.mod_lt _ (by decide)
theorem mPar_of (ax : Addr) (f : Nat) (tf t1 t2 t3 : Tok) (a b c : Int) (ha : a = (handF f : Nat)) (hb : b = (restF f : Nat)) (hc : c = (stepF f : Nat)) : ∀ y : Str, (if y = "writer" then some (.ref (wref (handF f))) else if y = "hand" then some (.int a t1) else if y = "rest" then some (.int b t2) else if y = "step" then some (.int c t3) else mFirst ax f tf y) = mPar ax f tf t1 t2 t3 y := by
  intro y; subst ha hb hc; rfl
theorem pickW {prog : Program} {w : World} {A : Around} {E : Value → Shared → Prop} {s : Shared} {value slice : PySem.Expr} {D : Addr} {z : Int} {k : Nat} {u : Tok} {Q : Value → Shared → Prop} (ht : IsTup s.heap D #[.ref 49, .ref 56, .ref 63, .ref 70, .ref 77]) (hz : z = (k : Nat)) (hk : k < 5) (h : Q (.ref (wref k)) s)
    (hs : subscripted slice false (.ref D) (.int z u) = operate [.ref D, .int z u] (getItem (.ref D) (.int z u))) :
    wpAny (model prog w) A (subscriptTail value slice (.ref D) (.int z u)) Q E s := by
  subst hz
  refine item_tupleT (l := [.ref 49, .ref 56, .ref 63, .ref 70, .ref 77]) (j := k) (x := .ref (wref k)) ht (by omega) (by omega) (seqIndex_at (by omega) (by simp; omega)) ?_ h hs
  have := lt5 hk
  rcases this with rfl | rfl | rfl | rfl | rfl <;> rfl
theorem l_others : Str.ofString "\t\n\x0d" = ofL [9, 10, 13] := by decide
theorem otherIt (f : Nat) : Txt.item (Str.ofString "\t\n\x0d") (((f : Int).fdiv 2048).fmod 3) = ofL [otherF f] := by
  have hk : f / 2048 % 3 < 3 := Nat.mod_lt _ (by decide)
  rw [l_others, otherEq, item_ofL [9, 10, 13] (f / 2048 % 3) hk]
  unfold otherF
  have := mod3 (f / 2048)
  rcases this with h | h | h <;> simp [h]
theorem folds_bits (ways low : Int) : ∀ i, ∀ x ∈ foldsTo ways low i, x = 0 ∨ x = 1
  | 0, x, h => nomatch h
  | i + 1, x, h => by
    simp only [foldsTo, foldStep] at h
    rcases List.mem_append.mp h with h | h
    · rcases List.mem_append.mp h with h | h
      · exact folds_bits ways low i x h
      · rw [List.mem_singleton.mp h, Int.fmod_eq_emod_of_nonneg _ (by decide)]; omega
    · obtain ⟨y, hy, rfl⟩ := List.mem_map.mp h
      rcases folds_bits ways low i y (List.mem_reverse.mp hy) with rfl | rfl <;> simp
theorem ints_at {vs : List Value} {ns : List Int} {i : Nat} {v : Value} (hi : IntsAre vs ns) (h : vs[i]? = some v) : ∃ u, v = .int (ns.getD i 0) u := by
  induction hi generalizing i with
  | nil => simp at h
  | cons n t _ ih =>
    cases i with
    | zero =>
      have : Value.int n t = v := by simpa using h
      exact ⟨t, by rw [← this]; rfl⟩
    | succ i =>
      obtain ⟨u, hu⟩ := ih (i := i) (by simpa using h)
      exact ⟨u, by simpa using hu⟩
theorem l_ltgt : Str.ofString "<>" = ofL [60, 62] := by decide
theorem paired_at {g : Nat → List Nat} : ∀ (n : Nat) (ys : List Value), ys.length = n → (∀ (i : Nat) (z : Value), ys[i]? = some z → ∃ u, z = .str (ofL (g i)) u) → Paired (fun v l => ∃ u, v = .str (ofL l) u) ys ((List.range n).map g)
  | 0, ys, hl, h => by
    have : ys = [] := List.eq_nil_of_length_eq_zero hl
    subst this; exact .nil
  | n + 1, ys, hl, h => by
    have hne : ys ≠ [] := by intro e; rw [e] at hl; cases hl
    have e := List.dropLast_concat_getLast hne
    have hl' : ys.dropLast.length = n := by rw [List.length_dropLast]; omega
    rw [List.range_succ, List.map_append, ← e]
    refine Paired.snoc (paired_at n ys.dropLast hl' fun i z hz => h i z ?_) (h n _ ?_)
    · rw [← e, List.getElem?_append_left (List.getElem?_eq_some_iff.mp hz).1]; exact hz
    · rw [List.getLast_eq_getElem, List.getElem?_eq_getElem (by omega)]
      congr 2; omega
local macro_rules | `(tactic| walk_at "subscriptTail") => `(tactic| ((with_reducible show wpAny _ _ (subscriptTail (Expr.Tuple _ _ _) _ (Value.ref _) (Value.int _ _)) _ _ _); refine stopHere ?_))
theorem law1 {w : World} {A : Around} {s : Shared} {Q E : Value → Shared → Prop} {ax : Addr} {vs : List Value} {ns : List Int} (hL : s.heap.IsList ax vs.toArray) (hI : IntsAre vs ns) (hlen : ns.length ≤ 63) (G : Gd w s.heap)
   (hroom : A.depth + 3 < recursionLimit) (hu : A.units + 20 < cLine) (hh : A.handled = none)
   (h : ∀ L f h' tk tf t1 t2 t3 t4 oC u, f < 1000000 → Fr s.heap L h' (mSig ax f tf t1 t2 t3 t4) → News s.heap L h' [(L + 1, oC)] → oC.data = .cell (some (.str (ofL [otherF f]) u)) → LawRest w A L 7 Q { s with heap := h', toks := tk }) :
   wpAny (model Challenge.rw_wa0026_01.row.prog w) A (call (.ref 99) [.ref ax]) Q E s := by
  obtain ⟨hd0, dp, frs, gds, un⟩ := A
  simp only at hh hroom hu
  subst hh
  have G0 := G
  obtain ⟨X, mg, mb, T⟩ := G
  revert X
  k_fill
  intro X
  have hlow : sysModules < s.heap.objs.size := modules_low T.nolimit
  refine' callDC (K := hd.heap_39 w.params) (binds := [("script", .ref ax)]) X T.nolimit (by simp only; omega) ?k1 ?k2 ?k3 ?k4 ?k5 ?_ ?k6 ?k7 ?k8
  case k1 => k_is
  case k2 => k_is
  case k3 => exact rfl
  case k4 => exact rfl
  case k5 => decide +kernel
  case k6 => exact rfl
  case k7 => exact rfl
  case k8 => exact rfl
  intro L h₁ tk cells F N Y
  k_cells Y
  (try dsimp only)
  with_reducible refine seqR (LawA s L ax) ?_ ?_
  · repeat' walk1
    rename_i o1 d1 _ _ _ h2 F2 N2
    obtain ⟨f, hf, hx⟩ := first_nat (8812 + ns.sum)
    have hx' : (8812 + ns.sum).fmod (10 ^ Int.toNat 6) = (f : Int) := hx
    rw [hx'] at F2
    exact ⟨h2, _, f, _, o1, hf, rfl, Fr.to F2 (mFirst_of ax f _), N2, d1⟩
  clear F N
  rintro _ ⟨h', tk, f, tf, oC, hf, rfl, F, N, hoC⟩
  repeat' walk1
  unfold Stopped
  refine pickW (News.isTup (by assumption) (.head _)) (handEq _) (handF_lt _) ?_ (by with_unfolding_all rfl)
  repeat' walk1
  rename_i h1 _ _ h3 oC' hoC' h4 D h5 _ h6 F6 N6
  unfold Stopped
  have N7 : News s.heap L h6 [(L + 1, oC')] := News.sub N6 fun p hp => .tail _ hp
  clear N6
  rw [otherIt] at hoC'
  have F7 := Fr.to F6 (mPar_of ax f tf _ _ _ _ _ _ (handEq f) (restEq f) (stepEq f))
  clear F6
  refine compT s.heap (fun i z => ∃ u, z = .str (ofL [signAt (otherF f) i ((foldsTo f 0 6).getD i 0)]) u) (cl := _) rfl (by decide) rfl (by decide) rfl rfl (by decide) ?_ (fun _ => rfl)
  repeat' walk1
  unfold Stopped
  refine fld (by omega) (by omega) (by omega) (by omega) (Gd.keeps G0 F7.keep) (by show dp + 1 < recursionLimit; omega) (by show un + 3 + 8 < cLine; omega) rfl fun lf vf h8 tk8 hx8 hlf hif => ?_
  have F8 := Fr.grownK F7 hx8
  have N8 := News.grown N7 hx8
  repeat' walk1
  unfold Stopped
  have hlfl : lf < h8.objs.size := let ⟨o, ho, _⟩ := hlf; Heap.lt_size ho
  have hvfl : vf.length = 63 := by
    have h1 := foldsTo_length f 0 6
    have h2 := hif.length
    have e : ((6 : Int) - 0).toNat = 6 := rfl
    rw [e] at h2
    omega
  refine call_enumerate_list hlf fun h9 he hit hz9 hk9 => ?_
  replace hk9 : Ext h8 h9 := hk9
  have F9 := Fr.grownK F8 hk9
  have N9 := News.grown N8 hk9
  refine wpAny_pyIter_enum he ?_
  have fr8 : ∀ b, h8.objs.size ≤ b → s.heap.get? b = none := by
    intro b hb
    cases hq : s.heap.get? b with
    | none => rfl
    | some o => exact absurd (Heap.lt_size (F8.keep _ _ hq)) (Nat.not_lt.mpr hb)
  have lo8 : ∀ b, b < h8.objs.size → b ∉ [h8.objs.size + 1, h8.objs.size] := by
    intro b hb hm
    rcases List.mem_cons.mp hm with e | e
    · exact absurd e (Nat.ne_of_lt (Nat.lt_succ_of_lt hb))
    · exact absurd (List.mem_singleton.mp e) (Nat.ne_of_lt hb)
  have hcw : L + 1 ∉ [h8.objs.size + 1, h8.objs.size] := lo8 _ (Heap.lt_size (N8 _ (.head _)).1)
  refine' ⟨_, _, _, _, _, _, _, _, _, rfl, rfl, WalksT.enumerate rfl (h8.objs.size + 1) h8.objs.size lf (Nat.succ_ne_self _) (Nat.ne_of_lt (Nat.lt_succ_of_lt hlfl)) (Nat.ne_of_lt hlfl) vf.toArray, ?c1, ⟨⟨_, he⟩, hit, ?c2⟩, ?c3, F9, N9, ?c4, ?c5, ?c6, ?c7, ?c8, ?c9⟩
  case c1 => rw [List.size_toArray, sizeLine_eq]; omega
  case c2 => exact hlf.at fun o e => hk9 _ _ e
  case c3 =>
    intro b hb
    have hz : h9.objs.size = h8.objs.size + 2 := hz9
    show b < h9.objs.size
    rw [hz]
    simp only [List.mem_cons, List.not_mem_nil, or_false] at hb
    rcases hb with rfl | rfl | rfl
    · exact Nat.lt_succ_self _
    · exact Nat.lt_succ_of_lt (Nat.lt_succ_self _)
    · exact Nat.lt_succ_of_lt (Nat.lt_succ_of_lt hlfl)
  case c4 =>
    intro b hb
    rcases List.mem_cons.mp hb with rfl | hb
    · exact fr8 _ (Nat.le_succ _)
    · rw [List.mem_singleton.mp hb]; exact fr8 _ (Nat.le_refl _)
  case c5 => exact lo8 _ F8.ns.lt
  case c6 =>
    intro p hp
    rw [List.mem_singleton.mp hp]
    exact hcw
  case c7 => rintro i _ ⟨t, x, _, rfl⟩; exact ⟨_, _, rfl⟩
  case c8 =>
    intro C i x y s₃ m₃ hi hP hn hma hmb hk3
    obtain ⟨t, x', hx', e⟩ := hP
    have e1 : x = .int i t ∧ y = x' := by
      have := congrArg Array.toList e
      simp only [List.cons.injEq, and_true] at this
      exact this
    obtain ⟨rfl, rfl⟩ := e1
    obtain ⟨uy, rfl⟩ := ints_at hif (by simpa using hx')
    have hcell : s₃.heap.get? (L + 1) = some oC' := hk3 _ _ hcw (N9 _ (.head _)).1
    refine Subscript_ (Subscript_ (Tuple_ ?_))
    walk1
    walk1
    walk1
    walk1
    walk1
    refine wpAny_Name (wpAny_loadName_cell rfl rfl rfl ⟨oC', hcell, hoC'⟩ ?_) (by decide)
    rw [l_amp]
    refine addL (by simp) fun ta tka => ?_
    walk1
    refine wpAny_newTuple ?_
    walk1
    refine wpAny_Name (wpAny_loadName_local rfl rfl (hn.push _) hma ?_) (by decide)
    walk1
    walk1
    have hbit : (foldsTo f 0 6).getD i 0 = 0 ∨ (foldsTo f 0 6).getD i 0 = 1 := by
      rw [List.getD_eq_getElem?_getD]
      cases hq : (foldsTo f 0 6)[i]? with
      | none => exact .inl rfl
      | some z => exact folds_bits f 0 6 z (List.mem_of_getElem? hq)
    have hbit' : (foldsTo (f : Int) 0 ((6 : Int) - 0).toNat).getD i 0 = (foldsTo f 0 6).getD i 0 := rfl
    rw [hbit'] at hmb
    generalize (foldsTo f 0 6).getD i 0 = bt at hbit hmb ⊢
    rcases Nat.mod_two_eq_zero_or_one i with hpar | hpar
    · have hk : Int.fmod (i : Int) 2 = 0 := by rw [Int.fmod_eq_emod_of_nonneg _ (by decide)]; omega
      rw [hk]
      refine item_tupleT (l := [.str (Str.ofString "<>") _, .str (ofL ([38] ++ [otherF f])) ta]) (j := 0) (x := .str (Str.ofString "<>") _) ⟨_, Heap.get?_push_size _ rfl, rfl, _, rfl⟩ (by decide) (by decide) rfl rfl ?_
      refine wpAny_Name (wpAny_loadName_local rfl rfl (hn.push _) hmb ?_) (by decide)
      rw [l_ltgt]
      rcases hbit with rfl | rfl
      · refine itemL (k := 0) (by decide) (by decide) ?_ (by with_unfolding_all rfl) (by intro _; with_unfolding_all rfl)
        refine ⟨⟨_, by unfold signAt; rw [if_pos hpar, if_pos rfl]; rfl⟩, _, _, rfl, fun b o e => Heap.get?_push_of_some _ e⟩
      · refine itemL (k := 1) (by decide) (by decide) ?_ (by with_unfolding_all rfl) (by intro _; with_unfolding_all rfl)
        refine ⟨⟨_, by unfold signAt; rw [if_pos hpar, if_neg (by decide)]; rfl⟩, _, _, rfl, fun b o e => Heap.get?_push_of_some _ e⟩
    · have hk : Int.fmod (i : Int) 2 = 1 := by rw [Int.fmod_eq_emod_of_nonneg _ (by decide)]; omega
      rw [hk]
      refine item_tupleT (l := [.str (Str.ofString "<>") _, .str (ofL ([38] ++ [otherF f])) ta]) (j := 1) (x := .str (ofL ([38] ++ [otherF f])) ta) ⟨_, Heap.get?_push_size _ rfl, rfl, _, rfl⟩ (by decide) (by decide) rfl rfl ?_
      refine wpAny_Name (wpAny_loadName_local rfl rfl (hn.push _) hmb ?_) (by decide)
      rcases hbit with rfl | rfl
      · refine itemL (k := 0) (by simp) (by simp) ?_ (by with_unfolding_all rfl) (by intro _; with_unfolding_all rfl)
        refine ⟨⟨_, by unfold signAt; rw [if_neg (by omega), if_pos rfl]; rfl⟩, _, _, rfl, fun b o e => Heap.get?_push_of_some _ e⟩
      · refine itemL (k := 1) (by simp) (by simp) ?_ (by with_unfolding_all rfl) (by intro _; with_unfolding_all rfl)
        refine ⟨⟨_, by unfold signAt; rw [if_neg (by omega), if_neg (by decide)]; rfl⟩, _, _, rfl, fun b o e => Heap.get?_push_of_some _ e⟩
  case c9 =>
    intro D9 ys k9 h10 tk10 F10 N10 hyl hyg
    replace F10 : Fr s.heap L h10 _ := F10
    replace N10 : News s.heap L h10 _ := N10
    walk1
    refine joinL (vs := ys) (ls := (List.range 63).map fun i => [signAt (otherF f) i ((foldsTo f 0 6).getD i 0)]) (B := 1) lit_none (News.isList N10 (.head _)) (paired_at 63 _ (by rw [hyl, List.size_toArray, hvfl]) hyg) ?_ ?_ (fun t' k' => ?_)
    · intro x hx
      obtain ⟨i, _, rfl⟩ := List.mem_map.mp hx
      simp
    · simp
    have N11 : News s.heap L h10 [(L + 1, oC')] := News.sub N10 fun p hp => .tail _ hp
    clear N10
    walk1
    rename_i h12 F12 N12
    have e : ((List.range 63).map fun i => [signAt (otherF f) i ((foldsTo f 0 6).getD i 0)]).flatten = signsF f := by
      unfold signsF
      exact flat_one _ _
    rw [e] at F12
    refine' lawRest_use (h L f h12 _ tf _ _ _ _ oC' _ hf F12 N12 hoC') ?ho ?e
    case ho => k_is
    case e => rfl
end Mine

-- B19
namespace Mine
open PySem PySem.W PySem.Calls PyProof.Rows
set_option Elab.async false
set_option maxRecDepth 100000
section
variable {w : World} {A : Around} {s : Shared} {env : Env} {E : Value → Shared → Prop}
/-- a dict display whose keys are one sign each, told by how its pairs evaluate -/
theorem dictV {keys : List (Option PySem.Expr)} {values : List PySem.Expr} {pos : Pos} {D : List (Nat × List Nat)} {Q : Value → Shared → Prop} (l2 : keys.all (·.isSome) = true) (l1 : keys.length = values.length) (hk0 : keys ≠ []) (hlen : keys.length ≤ 15) (hnd : (D.map (·.1)).Nodup)
    (hlow : sysModules < s.heap.objs.size)
    (hev : ∀ (s' : Shared) (Q' : List (Value × Value) → Shared → Prop), (∀ b o, s.heap.get? b = some o → s'.heap.get? b = some o) → (∀ vs tk, LVals vs D → Q' vs { s' with toks := tk }) → wpAny (model PP w) A (evalPairs (pairTrees keys values env pos)) Q' E s')
    (hQ : ∀ h' tk, (∀ b o, s.heap.get? b = some o → h'.get? b = some o) → TabL w h' s.heap.objs.size D → Q (.ref s.heap.objs.size) { s with heap := h', toks := tk }) :
    wpAny (model PP w) A (eval (.Dict keys values pos) env) Q E s := by
  refine wpAny_Dict_walk (knd := strKind PP w) l2 l1 hk0 (by omega) (hev _ _ (fun b o e => Heap.get?_push_of_some _ e) fun vs tk hv => ?_)
  refine display_done_str hv.keys (by rw [hv.names]; exact nodup_keys hnd) (Heap.DictOf.new _) fun h' hm hs => ?_
  have hs' : Heap.SameBut s.heap.objs.size (s.heap.push { cls := .type "dict", data := .dict #[] }) h' := hs
  obtain ⟨o, ho, hd⟩ := Heap.dictOf_iff.mp hm
  have hkeep : ∀ b o, s.heap.get? b = some o → h'.get? b = some o := fun b o e => hs'.extBut b o (Nat.ne_of_lt (Heap.lt_size e)) (Heap.get?_push_of_some _ e)
  refine hQ h' _ hkeep ?_
  exact TabAt.ofObj (by simpa using (Nat.ne_of_gt hlow)) ho hd hv.flat
end
end Mine

-- F8
namespace Mine
open PySem PySem.W PySem.Calls PyProof.Rows
set_option Elab.async false
set_option maxRecDepth 100000
set_option maxHeartbeats 4000000
noncomputable def leftA (f : Nat) : List Nat := if 0 < restF f then every (stepF f) ((signsF f).drop (restF f - 1)) else (signsF f).take (63 / stepF f)
noncomputable def flipF (o c : Nat) : Nat := if c = 60 then 62 else if c = 62 then 60 else if c = 38 then o else 38
noncomputable def leftB (f : Nat) : List Nat := if restF f = 0 ∧ stepF f % 4 = 3 then (leftA f).map (flipF (otherF f)) else leftA f
noncomputable def leftF (f : Nat) : List Nat := leftB f ++ [92, 34, 43, 34]
noncomputable def mLeft (ax : Addr) (f : Nat) (tf t1 t2 t3 t4 : Tok) (lv : List Nat) (t5 : Tok) : Str → Option Value := fun y => if y = "left" then some (.str (ofL lv) t5) else mSig ax f tf t1 t2 t3 t4 y
theorem mLeft_of (ax : Addr) (f : Nat) (tf t1 t2 t3 t4 : Tok) (lv lv' : List Nat) (t5 t6 : Tok) : ∀ y : Str, (if y = "left" then some (.str (ofL lv') t6) else mLeft ax f tf t1 t2 t3 t4 lv t5 y) = mLeft ax f tf t1 t2 t3 t4 lv' t6 y := by
  intro y; simp only [mLeft]
  by_cases e1 : y = "left"
  · subst e1; rfl
  simp only [e1, if_false]
theorem l_tail : Str.ofString "\\\"+\"" = ofL [92, 34, 43, 34] := by decide
theorem stepF_pos (f : Nat) : 1 ≤ stepF f := by unfold stepF; omega
theorem stepF_le (f : Nat) : stepF f ≤ 7 := by unfold stepF; omega
theorem signsF_length (f : Nat) : (signsF f).length = 63 := by unfold signsF; simp
theorem signsF_mem (f c : Nat) (h : c ∈ signsF f) : c = 60 ∨ c = 62 ∨ c = 38 ∨ c = otherF f := by
  unfold signsF at h
  obtain ⟨i, _, rfl⟩ := List.mem_map.mp h
  unfold signAt
  split <;> split <;> simp
theorem every_mem {k : Nat} {l : List Nat} {c : Nat} (h : c ∈ every k l) : c ∈ l := by
  unfold every at h
  obtain ⟨q, _, hq⟩ := List.mem_filterMap.mp h
  exact List.mem_of_getElem? hq
theorem every_length (k : Nat) (l : List Nat) : (every k l).length ≤ (l.length + k - 1) / k := by
  unfold every
  refine Nat.le_trans (List.length_filterMap_le _ _) ?_
  simp
theorem leftA_mem (f c : Nat) (h : c ∈ leftA f) : c = 60 ∨ c = 62 ∨ c = 38 ∨ c = otherF f := by
  unfold leftA at h
  split at h
  · exact signsF_mem f c (List.mem_of_mem_drop (every_mem h))
  · exact signsF_mem f c (List.mem_of_mem_take h)
theorem leftA_length (f : Nat) : (leftA f).length ≤ 63 := by
  unfold leftA
  split
  · refine Nat.le_trans (every_length _ _) ?_
    rw [List.length_drop, signsF_length]
    have := stepF_pos f
    refine Nat.div_le_of_le_mul ?_
    have : 63 ≤ stepF f * 63 := Nat.le_mul_of_pos_left _ (by omega)
    have h2 : stepF f - 1 ≤ stepF f * 63 := by omega
    have h3 : stepF f * 63 ≥ stepF f + 62 := by omega
    omega
  · rw [List.length_take, signsF_length]; omega
local macro_rules | `(tactic| walk_at "subscriptTail Name Slice str ref") => `(tactic| refine stopHere ?_)
theorem law2 {w : World} {A : Around} {s : Shared} {Q : Value → Shared → Prop} {ax L : Addr} {f : Nat} {tf t1 t2 t3 t4 u : Tok} {oC : Obj} {h' : Heap} {tk : Nat} (hf : f < 1000000) (G : Gd w s.heap) (hh : A.handled = none)
   (F : Fr s.heap L h' (mSig ax f tf t1 t2 t3 t4)) (N : News s.heap L h' [(L + 1, oC)]) (hoC : oC.data = .cell (some (.str (ofL [otherF f]) u)))
   (h : ∀ h' tk t5, Fr s.heap L h' (mLeft ax f tf t1 t2 t3 t4 (leftF f) t5) → News s.heap L h' [(L + 1, oC)] → LawRest w A L 10 Q { s with heap := h', toks := tk }) :
   LawRest w A L 7 Q { s with heap := h', toks := tk } := by
  obtain ⟨hd0, dp, frs, gds, un⟩ := A
  simp only at hh
  subst hh
  obtain ⟨X, mg, mb, T⟩ := G
  revert X
  have hcon : (model Challenge.rw_wa0026_01.row.prog w) = (model Challenge.rw_wa0026_01.row.prog w) := rfl
  revert hcon
  k_fill
  intro _ X
  have hlow : sysModules < s.heap.objs.size := modules_low T.nolimit
  have hst := stepF_pos f
  have hst7 := stepF_le f
  have hrl : restF f < stepF f := Nat.mod_lt _ hst
  have hsl := signsF_length f
  refine' lawRest_mk ?ho ?e ?_
  case ho => k_is
  case e => exact rfl
  simp only [List.drop_succ_cons, List.drop_zero]
  with_reducible refine seqO (fun s' => ∃ h' tk t5, s' = { s with heap := h', toks := tk } ∧ Fr s.heap L h' (mLeft ax f tf t1 t2 t3 t4 (leftA f) t5) ∧ News s.heap L h' [(L + 1, oC)]) ?_ ?_
  · intro R hNx hRt
    repeat' walk1
    · rename_i hpos
      unfold Stopped
      have hi : (restF f : Int) - 1 = ((restF f - 1 : Nat) : Int) := by omega
      rw [hi]
      refine' slice_strK_sn (hsz := ?hsz) (s := ⟨_, _, _, _, _⟩) F N ?hk fun h7 t7 c7 F7 N7 => ?hm
      case hsz => rw [ofL_length, sizeLine_eq]; omega
      case hk =>
        have : (stepF f : Int) ≠ 0 := by omega
        simpa using this
      case hm =>
        rw [sliceBy_sn _ _ _ hst (by rw [hsl]; omega)]
        have e : every (stepF f) ((signsF f).drop (restF f - 1)) = leftA f := by unfold leftA; rw [if_pos (by omega)]
        rw [e]
        repeat' walk1
        rename_i h9 F9 N9
        exact hNx _ ⟨h9, _, _, rfl, F9, N9⟩
    · rename_i hpos
      unfold Stopped
      have hi : Int.fdiv 63 (stepF f : Int) = ((63 / stepF f : Nat) : Int) := by
        rw [Int.fdiv_eq_ediv_of_nonneg _ (by omega)]; norm_cast
      rw [hi]
      refine' slice_strN_ns (hsz := ?hsz) (s := ⟨_, _, _, _, _⟩) F N fun h7 t7 c7 F7 N7 => ?hm
      case hsz => rw [ofL_length, sizeLine_eq]; omega
      case hm =>
        rw [slice_ns]
        have e : (signsF f).take (63 / stepF f) = leftA f := by unfold leftA; rw [if_neg (by omega)]
        rw [e]
        repeat' walk1
        rename_i h9 F9 N9
        exact hNx _ ⟨h9, _, _, rfl, F9, N9⟩
  clear F N
  rintro _ ⟨h7, tk7, t5, rfl, F, N⟩
  with_reducible refine seqO (fun s' => ∃ h' tk t5, s' = { s with heap := h', toks := tk } ∧ Fr s.heap L h' (mLeft ax f tf t1 t2 t3 t4 (leftB f) t5) ∧ News s.heap L h' [(L + 1, oC)]) ?_ ?_
  · intro R hNx hRt
    have hLs : s.heap.objs.size ≤ L := F.above
    repeat' walk1
    · rename_i hr0 hs3
      have hc : restF f = 0 ∧ stepF f % 4 = 3 := by
        rw [Int.fmod_eq_emod_of_nonneg _ (by decide)] at hs3
        omega
      have e : leftB f = (leftA f).map (flipF (otherF f)) := by unfold leftB; rw [if_pos hc]
      unfold Stopped
      refine compJ s.heap (fun v y => ∀ c u, v = .str (ofL [c]) u → ∃ u', y = .str (ofL [flipF (otherF f) c]) u') (cl := _) rfl (by decide) rfl (by decide) rfl ?_ (fun _ => rfl)
      walk1
      have hz63 := leftA_length f
      refine CompJ.str (fun c => [flipF (otherF f) c]) rfl F N (by rw [sizeLine_eq]; omega) ?_ ?_
      · intro C c u3 s₃ m₃ hc hn hm hk htk
        have hcell : s₃.heap.get? (L + 1) = some oC := hk _ _ (N _ (.head _)).1
        have hL7 : L < s₃.heap.objs.size := by
          obtain ⟨o, _, _, ho, _⟩ := F.ns
          exact Heap.lt_size (hk _ _ ho)
        have ho3 : otherF f = 9 ∨ otherF f = 10 ∨ otherF f = 13 := by
          unfold otherF
          have := mod3 (f / 2048)
          rcases this with h | h | h <;> simp [h]
        refine Subscript_ (dictV (D := [(60, [62]), (62, [60]), (38, [otherF f]), (otherF f, [38])]) rfl rfl (List.cons_ne_nil _ _) (by decide) ?_ (Nat.lt_of_lt_of_le hlow (Nat.le_trans F.above (Nat.le_of_lt hL7))) ?_ fun h8 tk8 hk8 hT8 => ?_)
        · rcases ho3 with h | h | h <;> rw [h] <;> decide
        · intro s' Q' hk' hq
          have hcell' : s'.heap.get? (L + 1) = some oC := hk' _ _ hcell
          refine pairTrees_cons_walk (Constant_str (Constant_str ?_))
          refine pairTrees_cons_walk (Constant_str (Constant_str ?_))
          refine pairTrees_cons_walk (Constant_str (wpAny_Name (wpAny_loadName_cell rfl rfl rfl ⟨oC, hcell', hoC⟩ ?_) (by decide)))
          refine pairTrees_cons_walk (wpAny_Name (wpAny_loadName_cell rfl rfl rfl ⟨oC, hcell', hoC⟩ (Constant_str ?_)) (by decide))
          refine pairTrees_nil_walk ?_
          rw [l_lt, l_gt, l_amp]
          exact hq _ _ (.cons (.cons (.cons (.cons .nil))))
        · refine wpAny_Name (wpAny_loadName_local rfl rfl (hn.keeps hk8) hm ?_) (by decide)
          have hlk : List.lookup c [(60, [62]), (62, [60]), (38, [otherF f]), (otherF f, [38])] = some [flipF (otherF f) c] := by
            rcases leftA_mem f c hc with rfl | rfl | rfl | rfl
            · rfl
            · rfl
            · rfl
            · rcases ho3 with h | h | h <;> rw [h] <;> rfl
          refine item_strTabT hT8 (dv := .str (ofL [flipF (otherF f) c])) (by rw [lookupD, hlk]; rfl) (fun v hv => ?_) (by with_unfolding_all rfl)
          obtain ⟨t9, rfl⟩ := hv.str_inv
          exact ⟨⟨t9, rfl⟩, _, _, rfl, hk8⟩
      intro D9 ys k9 h10 tk10 F10 N10 hyg
      replace F10 : Fr s.heap L h10 _ := F10
      replace N10 : News s.heap L h10 _ := N10
      walk1
      refine joinL (vs := ys.toList) (ls := (leftA f).map fun c => [flipF (otherF f) c]) (B := 1) lit_none (News.isList N10 (.head _)) hyg ?_ ?_ (fun t' k' => ?_)
      · intro x hx
        obtain ⟨i, _, rfl⟩ := List.mem_map.mp hx
        simp
      · rw [List.length_map]; omega
      have N11 : News s.heap L h10 [(L + 1, oC)] := News.sub N10 fun p hp => .tail _ hp
      clear N10
      rw [flat_one, ← e]
      repeat' walk1
      rename_i h12 F12 N12
      exact hNx _ ⟨h12, _, _, rfl, Fr.to F12 (mLeft_of _ _ _ _ _ _ _ _ _ _ _), N12⟩
    · rename_i hr0 hs3
      have hc : ¬ (restF f = 0 ∧ stepF f % 4 = 3) := by
        rw [Int.fmod_eq_emod_of_nonneg _ (by decide)] at hs3
        omega
      have e : leftB f = leftA f := by unfold leftB; rw [if_neg hc]
      exact hNx _ ⟨h7, _, _, rfl, e ▸ F, N⟩
    · rename_i hr0
      have hc : ¬ (restF f = 0 ∧ stepF f % 4 = 3) := by omega
      have e : leftB f = leftA f := by unfold leftB; rw [if_neg hc]
      exact hNx _ ⟨h7, _, _, rfl, e ▸ F, N⟩
  clear F N
  rintro _ ⟨h8, tk8, t6, rfl, F, N⟩
  have hlB : (leftB f).length ≤ 63 := by
    unfold leftB; split
    · rw [List.length_map]; exact leftA_length f
    · exact leftA_length f
  with_reducible refine seqO (fun s' => ∃ h' tk t5, s' = { s with heap := h', toks := tk } ∧ Fr s.heap L h' (mLeft ax f tf t1 t2 t3 t4 (leftF f) t5) ∧ News s.heap L h' [(L + 1, oC)]) ?_ ?_
  · intro R hNx hRt
    repeat' walk1
    rw [l_tail]
    refine addL (by simp; omega) fun t' k' => ?_
    repeat' walk1
    rename_i h12 F12 N12
    exact hNx _ ⟨h12, _, _, rfl, Fr.to F12 (mLeft_of _ _ _ _ _ _ _ _ _ _ _), N12⟩
  clear F N
  rintro _ ⟨h9, tk9, t7, rfl, F, N⟩
  refine' lawRest_use (h h9 tk9 t7 F N) ?ho ?e
  case ho => k_is
  case e => exact rfl
end Mine

-- M1
namespace Mine
open PySem PySem.W PySem.Calls PyProof.Rows
set_option Elab.async false
set_option maxRecDepth 100000
/-- what a text leaves when the quoted stretches go -/
noncomputable def unq : Bool → List Nat → List Nat
  | _, [] => []
  | b, c :: r => if c = 34 then unq (!b) r else if b = true then unq b r else c :: unq b r
noncomputable def qst : Bool → List Nat → Bool
  | b, [] => b
  | b, c :: r => if c = 34 then qst (!b) r else qst b r
theorem unq_eq (b : Bool) (c : Nat) (r : List Nat) : unq b (c :: r) = if c = 34 then unq (!b) r else if b = true then unq b r else c :: unq b r := by
  cases b <;> rfl
theorem qst_eq (b : Bool) (c : Nat) (r : List Nat) : qst b (c :: r) = if c = 34 then qst (!b) r else qst b r := rfl
theorem unq_append : ∀ (x y : List Nat) (b : Bool), unq b (x ++ y) = unq b x ++ unq (qst b x) y
  | [], _, b => by cases b <;> rfl
  | c :: r, y, b => by
    rw [List.cons_append, unq_eq, unq_eq b c r, qst_eq]
    by_cases h : c = 34
    · rw [if_pos h, if_pos h, if_pos h]; exact unq_append r y (!b)
    · rw [if_neg h, if_neg h, if_neg h]
      cases b
      · rw [if_neg (by decide), if_neg (by decide), List.cons_append, unq_append r y false]
      · rw [if_pos rfl, if_pos rfl]; exact unq_append r y true
theorem qst_append : ∀ (x y : List Nat) (b : Bool), qst b (x ++ y) = qst (qst b x) y
  | [], _, _ => rfl
  | c :: r, y, b => by
    rw [List.cons_append, qst_eq, qst_eq b c r]
    split
    · exact qst_append r y (!b)
    · exact qst_append r y b
theorem unq_none : ∀ (x : List Nat), 34 ∉ x → unq false x = x
  | [], _ => rfl
  | c :: r, h => by
    have h1 : ¬ c = 34 := fun e => h (by rw [e]; exact List.mem_cons_self ..)
    rw [unq_eq, if_neg h1, if_neg (by decide), unq_none r fun m => h (List.mem_cons_of_mem _ m)]
/-- the scan's state, told by what is left so far -/
noncomputable def SInv (l : List Nat) (i : Nat) (b : Bool) (x : Nat × Option Nat × List (List Nat)) (acc : List Nat) : Prop :=
  match b with
  | false => x.2.1 = none ∧ x.1 ≤ i ∧ x.2.2.flatten ++ (l.take i).drop x.1 = acc
  | true => ∃ o, x.2.1 = some o ∧ x.1 ≤ o ∧ o < i ∧ x.2.2.flatten ++ (l.take o).drop x.1 = acc
theorem take_succ_drop {l : List Nat} {i k c : Nat} (hc : l[i]? = some c) (hk : k ≤ i) : (l.take (i + 1)).drop k = (l.take i).drop k ++ [c] := by
  have hi := (List.getElem?_eq_some_iff.mp hc).1
  rw [List.take_add_one, hc, List.drop_append_of_le_length (by rw [List.length_take]; omega)]
  rfl
theorem sinv_step {l : List Nat} {i : Nat} {b : Bool} {x : Nat × Option Nat × List (List Nat)} {acc : List Nat} {c : Nat} (hc : l[i]? = some c) (h : SInv l i b x acc) :
    SInv l (i + 1) (if c = 34 then !b else b) (stripStep l i [c] x) (acc ++ unq b [c]) := by
  obtain ⟨st, op, parts⟩ := x
  have hi := (List.getElem?_eq_some_iff.mp hc).1
  by_cases h34 : c = 34
  · subst h34
    rw [if_pos rfl]
    have eu : unq b [34] = [] := rfl
    rw [eu, List.append_nil]
    unfold stripStep
    rw [if_pos rfl]
    cases b with
    | false =>
      obtain ⟨h1, h2, h3⟩ := h
      simp only at h1 h2 h3
      subst h1
      exact ⟨i, rfl, h2, Nat.lt_succ_self _, h3⟩
    | true =>
      obtain ⟨o, h1, h2, h3, h4⟩ := h
      simp only at h1 h2 h3 h4
      subst h1
      refine ⟨rfl, Nat.le_refl _, ?_⟩
      simp only
      have e0 : (l.take (i + 1)).drop (i + 1) = [] := List.drop_of_length_le (by rw [List.length_take]; omega)
      rw [e0, List.append_nil]
      by_cases he : st = o
      · rw [if_pos he, ← h4, he]
        have : (l.take o).drop o = [] := List.drop_of_length_le (by rw [List.length_take]; omega)
        rw [this, List.append_nil]
      · rw [if_neg he, List.flatten_append, ← h4]
        simp
  · rw [if_neg h34]
    have hne : ¬ ([c] = [34]) := by simpa using h34
    unfold stripStep
    rw [if_neg hne]
    cases b with
    | false =>
      obtain ⟨h1, h2, h3⟩ := h
      refine ⟨h1, by simp only at h2 ⊢; omega, ?_⟩
      have eu : unq false [c] = [c] := by rw [unq_eq, if_neg h34]; rfl
      rw [eu, ← h3, List.append_assoc, take_succ_drop hc h2]
    | true =>
      obtain ⟨o, h1, h2, h3, h4⟩ := h
      have eu : unq true [c] = [] := by rw [unq_eq, if_neg h34]; rfl
      rw [eu, List.append_nil]
      exact ⟨o, h1, h2, by omega, h4⟩
theorem unq_cons (b : Bool) (c : Nat) (r : List Nat) : unq b (c :: r) = unq b [c] ++ unq (if c = 34 then !b else b) r := by
  have := unq_append [c] r b
  rw [List.singleton_append] at this
  rw [this]
  congr 2
theorem qst_cons (b : Bool) (c : Nat) (r : List Nat) : qst b (c :: r) = qst (if c = 34 then !b else b) r := by
  show (if c = 34 then qst (!b) r else qst b r) = _
  split <;> rfl
theorem genOut_c (i c : Nat) (r : List Nat) : genOut i false (c :: r) = if c = 92 then genOut (i + 1) true r else (i, [c]) :: genOut (i + 1) false r := rfl
/-- over a stretch without a backslash -/
theorem sinv_run {l : List Nat} : ∀ (y z : List Nat) (i : Nat) (b : Bool) (x : Nat × Option Nat × List (List Nat)) (acc : List Nat), l.drop i = y ++ z → 92 ∉ y → SInv l i b x acc →
    ∃ out x', genOut i false (y ++ z) = out ++ genOut (i + y.length) false z ∧ out.foldl (fun x pq => stripStep l pq.1 pq.2 x) x = x' ∧ SInv l (i + y.length) (qst b y) x' (acc ++ unq b y)
  | [], z, i, b, x, acc, _, _, h => ⟨[], x, rfl, rfl, by simpa [unq, qst] using h⟩
  | c :: y, z, i, b, x, acc, hl, hy, h => by
    have hc : l[i]? = some c := by
      have : (l.drop i)[0]? = some c := by rw [hl]; rfl
      rwa [List.getElem?_drop, Nat.add_zero] at this
    have hl' : l.drop (i + 1) = y ++ z := by rw [← List.drop_drop, hl]; rfl
    obtain ⟨out, x', h1, h2, h3⟩ := sinv_run y z (i + 1) _ _ _ hl' (fun m => hy (List.mem_cons_of_mem _ m)) (sinv_step hc h)
    refine ⟨(i, [c]) :: out, x', ?_, h2, ?_⟩
    · show genOut i false (c :: (y ++ z)) = _
      rw [genOut_c, if_neg (fun e : c = 92 => hy (by rw [e]; exact List.mem_cons_self ..)), h1, List.length_cons]
      have : i + 1 + y.length = i + (y.length + 1) := by omega
      rw [this]; rfl
    · rw [unq_cons, qst_cons, ← List.append_assoc, List.length_cons]
      have : i + (y.length + 1) = i + 1 + y.length := by omega
      rw [this]; exact h3
theorem sinv_zero (l : List Nat) : SInv l 0 false (0, none, []) [] := ⟨rfl, Nat.le_refl _, rfl⟩
theorem stripTo_full (l : List Nat) : stripTo l (genOut 0 false l).length = (genOut 0 false l).foldl (fun x pq => stripStep l pq.1 pq.2 x) (0, none, []) := by
  unfold stripTo; rw [List.take_length]
/-- balanced, no backslash -/
theorem strip_plain {l : List Nat} (h92 : 92 ∉ l) (hq : qst false l = false) : stripF l = unq false l := by
  obtain ⟨out, x', h1, h2, h3⟩ := sinv_run (l := l) l [] 0 false (0, none, []) [] (by simp) h92 (sinv_zero l)
  rw [hq] at h3
  rw [List.append_nil] at h1
  have e : stripTo l (genOut 0 false l).length = x' := by rw [stripTo_full, h1]; rw [show genOut (0 + l.length) false [] = [] from rfl, List.append_nil]; exact h2
  unfold stripF
  by_cases hm : 34 ∈ l
  · rw [if_pos hm, e]
    obtain ⟨g1, g2, g3⟩ := h3
    rw [Nat.zero_add, List.take_length, List.nil_append] at g3
    rw [← g3]
    by_cases hlt : x'.1 < l.length
    · rw [if_pos hlt, List.flatten_append]; simp
    · rw [if_neg hlt, List.drop_of_length_le (by omega), List.append_nil]
  · rw [if_neg hm, unq_none l hm]
/-- balanced, then a backslash, a mark, a plus and a mark -/
theorem strip_tail {y : List Nat} (h92 : 92 ∉ y) (hq : qst false y = false) : stripF (y ++ [92, 34, 43, 34]) = unq false y ++ [92, 34, 43, 34] := by
  obtain ⟨out, x', h1, h2, h3⟩ := sinv_run (l := y ++ [92, 34, 43, 34]) y [92, 34, 43, 34] 0 false (0, none, []) [] (by simp) h92 (sinv_zero _)
  rw [hq] at h3
  rw [Nat.zero_add] at h1 h3
  obtain ⟨g1, g2, g3⟩ := h3
  rw [List.nil_append, List.take_left] at g3
  have eg : genOut y.length false [92, 34, 43, 34] = [(y.length + 1, [92, 34]), (y.length + 1 + 1, [43]), (y.length + 1 + 1 + 1, [34])] := rfl
  have e : stripTo (y ++ [92, 34, 43, 34]) (genOut 0 false (y ++ [92, 34, 43, 34])).length = (x'.1, some (y.length + 1 + 1 + 1), x'.2.2) := by
    rw [stripTo_full, h1, eg, List.foldl_append, h2]
    simp only [List.foldl_cons, List.foldl_nil]
    unfold stripStep
    simp only [List.cons.injEq, reduceCtorEq, and_false, if_false, and_true, if_true, g1, show ¬ ((43 : Nat) = 34) by decide, show ¬ ((92 : Nat) = 34) by decide]
  unfold stripF
  have hm : 34 ∈ y ++ [92, 34, 43, 34] := by simp
  rw [if_pos hm, e]
  have hlt : x'.1 < (y ++ [92, 34, 43, 34]).length := by rw [List.length_append]; simp only [List.length_cons, List.length_nil]; omega
  simp only [hlt, if_true]
  rw [List.flatten_append, ← g3, List.append_assoc]
  congr 1
  rw [List.drop_append_of_le_length g2]
  simp
end Mine

-- M2
namespace Mine
open PySem PySem.W PySem.Calls PyProof.Rows
set_option Elab.async false
set_option maxRecDepth 100000
/-- the signs at the bare places -/
noncomputable def bareTo (sg : List Nat) (st rs : Int) : Nat → List Nat
  | 0 => []
  | i + 1 => bareTo sg st rs i ++ (if (Int.fmod ((i : Int) + 1) st == rs) = true then [sg.getD i 0] else [])
theorem getD_ne {sg : List Nat} {c : Nat} (h : ∀ x ∈ sg, x ≠ c) (h0 : c ≠ 0) (i : Nat) : sg.getD i 0 ≠ c := by
  rw [List.getD_eq_getElem?_getD]
  cases e : sg[i]? with
  | none => exact fun q => h0 q.symm
  | some x => exact h x (List.mem_of_getElem? e)
theorem mask_unq {sg : List Nat} {st rs : Int} (h : ∀ x ∈ sg, x ≠ 34) : ∀ i, unq false (maskTo sg st rs i).1 = bareTo sg st rs i ∧ qst false (maskTo sg st rs i).1 = !(maskTo sg st rs i).2
  | 0 => ⟨rfl, rfl⟩
  | i + 1 => by
    obtain ⟨h1, h2⟩ := mask_unq h i
    have hc := getD_ne h (by decide) i
    simp only [maskTo, bareTo]
    generalize (maskTo sg st rs i).1 = t at h1 h2 ⊢
    generalize (maskTo sg st rs i).2 = sh at h2 ⊢
    generalize (Int.fmod ((i : Int) + 1) st == rs) = bare
    generalize sg.getD i 0 = c at hc ⊢
    rw [unq_append, unq_append, qst_append, qst_append, h1, h2, List.append_assoc]
    have e : ∀ b, unq b [c] = if b = true then [] else [c] := fun b => by rw [unq_eq, if_neg hc]; cases b <;> rfl
    have eq : ∀ b, qst b [c] = b := fun b => by rw [qst_eq, if_neg hc]; rfl
    have u0 : ∀ b, unq b [] = [] := fun b => by cases b <;> rfl
    have q0 : ∀ b, qst b [] = b := fun b => rfl
    have u34 : ∀ b, unq b [34] = [] := fun b => by cases b <;> rfl
    have q34 : ∀ b, qst b [34] = !b := fun b => rfl
    cases bare <;> cases sh <;> simp [e, eq, u0, q0, u34, q34, qst_append, h2]
theorem maskF_unq {sg : List Nat} {st rs : Int} (h : ∀ x ∈ sg, x ≠ 34) : unq false (maskF sg st rs) = bareTo sg st rs sg.length ∧ qst false (maskF sg st rs) = false := by
  obtain ⟨h1, h2⟩ := mask_unq (st := st) (rs := rs) h sg.length
  unfold maskF
  split
  · rename_i e
    rw [e] at h2
    exact ⟨h1, h2⟩
  · rename_i e
    have e' : (maskTo sg st rs sg.length).2 = false := by simpa using e
    rw [e'] at h2
    rw [unq_append, qst_append, h1, h2]
    exact ⟨by simp [unq], by simp [qst]⟩
theorem mask_mem {sg : List Nat} {st rs : Int} {c : Nat} (h : ∀ x ∈ sg, x ≠ c) (h0 : c ≠ 0) (h34 : c ≠ 34) : ∀ i, c ∉ (maskTo sg st rs i).1
  | 0 => fun h => nomatch h
  | i + 1 => by
    have ih := mask_mem (st := st) (rs := rs) h h0 h34 i
    simp only [maskTo]
    intro hm
    rcases List.mem_append.mp hm with hm | hm
    · rcases List.mem_append.mp hm with hm | hm
      · exact ih hm
      · split at hm
        · cases hm
        · exact h34 (List.mem_singleton.mp hm)
    · exact getD_ne h h0 i (List.mem_singleton.mp hm).symm
theorem maskF_mem {sg : List Nat} {st rs : Int} {c : Nat} (h : ∀ x ∈ sg, x ≠ c) (h0 : c ≠ 0) (h34 : c ≠ 34) : c ∉ maskF sg st rs := by
  have := mask_mem (st := st) (rs := rs) h h0 h34 sg.length
  unfold maskF
  split
  · exact this
  · intro hm
    rcases List.mem_append.mp hm with hm | hm
    · exact this hm
    · exact h34 (List.mem_singleton.mp hm)
theorem strip_mask {sg : List Nat} {st rs : Int} (h34 : ∀ x ∈ sg, x ≠ 34) (h92 : ∀ x ∈ sg, x ≠ 92) : stripF (maskF sg st rs) = bareTo sg st rs sg.length := by
  obtain ⟨h1, h2⟩ := maskF_unq (st := st) (rs := rs) h34
  rw [strip_plain (maskF_mem h92 (by decide) (by decide)) h2, h1]
theorem strip_maskT {sg : List Nat} {st rs : Int} (h34 : ∀ x ∈ sg, x ≠ 34) (h92 : ∀ x ∈ sg, x ≠ 92) : stripF (maskF sg st rs ++ [92, 34, 43, 34]) = bareTo sg st rs sg.length ++ [92, 34, 43, 34] := by
  obtain ⟨h1, h2⟩ := maskF_unq (st := st) (rs := rs) h34
  rw [strip_tail (maskF_mem h92 (by decide) (by decide)) h2, h1]
end Mine

-- M3
namespace Mine
open PySem PySem.W PySem.Calls PyProof.Rows
set_option Elab.async false
set_option maxRecDepth 100000
/-- which figure a fold is made by, and whether the other way -/
noncomputable def shapeTo : Nat → List (Nat × Bool)
  | 0 => []
  | i + 1 => shapeTo i ++ [(i, false)] ++ (shapeTo i).reverse.map fun p => (p.1, !p.2)
noncomputable def valN (f : Nat) (p : Nat × Bool) : Nat := if p.2 = true then 1 - f / 2 ^ p.1 % 2 else f / 2 ^ p.1 % 2
theorem fold_bit (f k : Nat) : Int.fmod (Int.fdiv (f : Int) (2 ^ ((k : Int)).toNat)) 2 = ((f / 2 ^ k % 2 : Nat) : Int) := by
  have := dm f (2 ^ k) 2
  rw [← this, Int.toNat_natCast]
  push_cast
  rfl
theorem valN_le (f : Nat) (p : Nat × Bool) : valN f p ≤ 1 := by unfold valN; split <;> omega
theorem folds_shape (f lo : Nat) : ∀ n, foldsTo (f : Int) (lo : Int) n = (shapeTo n).map fun p => ((valN f (lo + p.1, p.2) : Nat) : Int)
  | 0 => rfl
  | n + 1 => by
    have ih := folds_shape f lo n
    simp only [foldsTo, foldStep, shapeTo]
    have e : ((lo : Int) + (n : Int)) = ((lo + n : Nat) : Int) := by push_cast; rfl
    rw [ih, e, fold_bit f (lo + n), List.map_append, List.map_append, List.map_reverse, List.map_reverse, List.map_reverse, List.map_map, List.map_map]
    congr 2
    apply List.map_congr_left
    rintro ⟨k, s⟩ _
    simp only [Function.comp, valN]
    cases s
    · simp only [Bool.false_eq_true, if_false, Bool.not_false, if_true]; omega
    · simp only [if_true, Bool.not_true, Bool.false_eq_true, if_false]; omega
theorem shape_len : ∀ n, (shapeTo n).length + 1 = 2 ^ n
  | 0 => rfl
  | i + 1 => by
    have := shape_len i
    simp only [shapeTo, List.length_append, List.length_map, List.length_reverse, List.length_cons, List.length_nil]
    rw [Nat.pow_succ]; omega
/-- the fold at a place -/
noncomputable def bitAt (f i : Nat) : Nat := valN f ((shapeTo 6).getD i (0, false))
theorem bit_of (f i : Nat) (hi : i < 63) : (foldsTo (f : Int) 0 6).getD i 0 = ((bitAt f i : Nat) : Int) := by
  have h := folds_shape f 0 6
  have hl := shape_len 6
  have h0 : (((0 : Nat) : Int)) = 0 := rfl
  rw [h0] at h
  rw [h]
  unfold bitAt
  rw [List.getD_eq_getElem?_getD, List.getD_eq_getElem?_getD, List.getElem?_map]
  have hi' : i < (shapeTo 6).length := by omega
  rw [List.getElem?_eq_getElem hi']
  simp
/-- a step of 1, 3, 5 or 7 finds the same folds, or the other way -/
noncomputable def chkStep (st : Nat) : Bool :=
  (List.range (63 / st)).all fun q => (shapeTo 6).getD (st * (q + 1) - 1) (0, false) == (if st % 4 = 3 then (((shapeTo 6).getD q (0, false)).1, !((shapeTo 6).getD q (0, false)).2) else (shapeTo 6).getD q (0, false))
theorem chk_steps : ([1, 3, 5, 7].all chkStep) = true := by decide +kernel
noncomputable def chkHalf : Bool := (List.range 31).all fun q => (shapeTo 6).getD (2 * q + 1) (0, false) == (((shapeTo 5).getD q (0, false)).1 + 1, ((shapeTo 5).getD q (0, false)).2)
theorem chk_half : chkHalf = true := by decide +kernel
theorem valN_flip (f k : Nat) (s : Bool) : valN f (k, !s) = 1 - valN f (k, s) := by
  unfold valN; cases s
  · simp
  · simp only [Bool.not_true, Bool.false_eq_true, if_false, if_true]
    rcases Nat.mod_two_eq_zero_or_one (f / 2 ^ k) with e | e <;> rw [e]
theorem bit_step {f st q : Nat} (hst : st ∈ [1, 3, 5, 7]) (hq : q < 63 / st) : bitAt f (st * (q + 1) - 1) = if st % 4 = 3 then 1 - bitAt f q else bitAt f q := by
  have h := List.all_eq_true.mp (List.all_eq_true.mp chk_steps st hst) q (List.mem_range.mpr hq)
  have h' := eq_of_beq h
  unfold bitAt
  rw [h']
  split
  · exact valN_flip _ _ _
  · rfl
theorem less_of (f q : Nat) (hq : q < 31) : (foldsTo (f : Int) 1 5).getD q 0 = ((bitAt f (2 * q + 1) : Nat) : Int) := by
  have h := folds_shape f 1 5
  have hl := shape_len 5
  have h1 : (((1 : Nat) : Int)) = 1 := rfl
  rw [h1] at h
  rw [h]
  have hc := eq_of_beq (List.all_eq_true.mp chk_half q (List.mem_range.mpr hq))
  unfold bitAt
  rw [hc, List.getD_eq_getElem?_getD, List.getD_eq_getElem?_getD, List.getElem?_map]
  have hi' : q < (shapeTo 5).length := by omega
  rw [List.getElem?_eq_getElem hi', Option.map_some, Option.getD_some, Option.getD_some, Nat.add_comm]
end Mine

-- M4
namespace Mine
open PySem PySem.W PySem.Calls PyProof.Rows
set_option Elab.async false
set_option maxRecDepth 100000
noncomputable def posL (st rs : Nat) : List Nat := (List.range 63).filter fun i => (i + 1) % st == rs
noncomputable def sgn (f i : Nat) : Nat := signAt (otherF f) i ((bitAt f i : Nat) : Int)
theorem other_of (f : Nat) : otherF f = 9 ∨ otherF f = 10 ∨ otherF f = 13 := by
  unfold otherF
  have := mod3 (f / 2048)
  rcases this with h | h | h <;> simp [h]
theorem signs_at {f i : Nat} (hi : i < 63) : (signsF f)[i]? = some (sgn f i) := by
  unfold signsF
  rw [List.getElem?_map, List.getElem?_range hi, Option.map_some, bit_of f i hi]; rfl
theorem signs_getD {f i : Nat} (hi : i < 63) : (signsF f).getD i 0 = sgn f i := by
  rw [List.getD_eq_getElem?_getD, signs_at hi]; rfl
theorem fmod_beq (i st rs : Nat) : (Int.fmod ((i : Int) + 1) (st : Int) == (rs : Int)) = ((i + 1) % st == rs) := by
  have e : Int.fmod ((i : Int) + 1) (st : Int) = (((i + 1) % st : Nat) : Int) := by
    rw [Int.fmod_eq_emod_of_nonneg _ (by omega)]; norm_cast
  rw [e, Bool.eq_iff_iff, beq_iff_eq, beq_iff_eq]
  omega
theorem bareTo_pos (sg : List Nat) (st rs : Nat) : ∀ n, bareTo sg (st : Int) (rs : Int) n = ((List.range n).filter fun i => (i + 1) % st == rs).map fun i => sg.getD i 0
  | 0 => rfl
  | n + 1 => by
    rw [List.range_succ, List.filter_append, List.map_append, ← bareTo_pos sg st rs n]
    simp only [bareTo, fmod_beq]
    congr 1
    cases h : ((n + 1) % st == rs)
    · simp [h]
    · simp [h]
theorem pos_lt {st rs i : Nat} (h : i ∈ posL st rs) : i < 63 := List.mem_range.mp (List.mem_filter.mp h).1
theorem bare_signs (f st rs : Nat) : bareTo (signsF f) (st : Int) (rs : Int) (signsF f).length = (posL st rs).map (sgn f) := by
  rw [signsF_length, bareTo_pos]
  exact List.map_congr_left fun i hi => signs_getD (pos_lt hi)
theorem pick_map (f : Nat) : ∀ L : List Nat, (∀ i ∈ L, i < 63) → L.filterMap (fun i => (signsF f)[i]?) = L.map (sgn f)
  | [], _ => rfl
  | i :: r, h => by
    rw [List.filterMap_cons, signs_at (h i (List.mem_cons_self ..)), pick_map f r fun j hj => h j (List.mem_cons_of_mem _ hj)]; rfl
theorem pos_rest : ∀ st ∈ [1, 3, 5, 7], ∀ rs < st, 0 < rs → posL st rs = (List.range ((63 - (rs - 1) + st - 1) / st)).map fun q => rs - 1 + st * q := by decide +kernel
theorem pos_zero : ∀ st ∈ [1, 3, 5, 7], posL st 0 = (List.range (63 / st)).map fun q => st * (q + 1) - 1 := by decide +kernel
theorem step_mem (f : Nat) : stepF f ∈ [1, 3, 5, 7] := by
  unfold stepF
  have := mod4 (f / 64)
  rcases this with h | h | h | h <;> simp [h]
theorem rest_lt (f : Nat) : restF f < stepF f := Nat.mod_lt _ (stepF_pos f)
theorem flip_sign {o i b : Nat} (ho : o = 9 ∨ o = 10 ∨ o = 13) (hb : b ≤ 1) : flipF o (signAt o i (b : Int)) = signAt o i ((1 - b : Nat) : Int) := by
  have hb' := le_one hb
  unfold signAt flipF
  rcases Nat.mod_two_eq_zero_or_one i with h | h <;> rcases hb' with rfl | rfl <;> rcases ho with rfl | rfl | rfl <;> simp [h]
theorem sign_par {o i j : Nat} (b : Int) (h : i % 2 = j % 2) : signAt o i b = signAt o j b := by unfold signAt; rw [h]
theorem par_step {st q : Nat} (hst : st ∈ [1, 3, 5, 7]) : (st * (q + 1) - 1) % 2 = q % 2 := by
  have key : ∀ m : Nat, ((2 * m + 1) * (q + 1) - 1) % 2 = q % 2 := fun m => by
    have e : (2 * m + 1) * (q + 1) - 1 = 2 * (m * (q + 1)) + q := by
      rw [Nat.add_mul, Nat.one_mul, Nat.mul_assoc]; rfl
    rw [e, Nat.mul_add_mod]
  simp only [List.mem_cons, List.not_mem_nil, or_false] at hst
  rcases hst with rfl | rfl | rfl | rfl
  · exact key 0
  · exact key 1
  · exact key 2
  · exact key 3
theorem bit_le (f i : Nat) : bitAt f i ≤ 1 := valN_le _ _
theorem leftB_pos (f : Nat) : leftB f = (posL (stepF f) (restF f)).map (sgn f) := by
  have hst := step_mem f
  have hrs := rest_lt f
  have hpos := stepF_pos f
  unfold leftB leftA
  by_cases h0 : 0 < restF f
  · have hn : ¬ (restF f = 0 ∧ stepF f % 4 = 3) := by omega
    rw [if_neg hn, if_pos h0]
    have hp := pos_rest (stepF f) hst (restF f) hrs h0
    rw [← pick_map f _ fun i hi => pos_lt hi]
    rw [hp, List.filterMap_map]
    unfold every
    rw [List.length_drop, signsF_length]
    congr 1
    funext q
    simp only [Function.comp, List.getElem?_drop]
  · have hz : restF f = 0 := by omega
    rw [if_neg h0, hz, pos_zero _ hst, List.map_map]
    have ht : (signsF f).take (63 / stepF f) = (List.range (63 / stepF f)).map (sgn f) := by
      have hle : 63 / stepF f ≤ 63 := Nat.div_le_self _ _
      rw [← pick_map f (List.range (63 / stepF f)) fun i hi => by have := List.mem_range.mp hi; omega]
      apply List.ext_getElem?
      intro i
      rw [pick_map f (List.range (63 / stepF f)) fun i hi => by have := List.mem_range.mp hi; omega]
      by_cases hi : i < 63 / stepF f
      · rw [List.getElem?_take_of_lt hi, signs_at (by omega), List.getElem?_map, List.getElem?_range hi]; rfl
      · rw [List.getElem?_eq_none (by rw [List.length_take, signsF_length]; omega), List.getElem?_eq_none (by simp; omega)]
    rw [ht]
    by_cases h3 : stepF f % 4 = 3
    · rw [if_pos ⟨rfl, h3⟩, List.map_map]
      apply List.map_congr_left
      intro q hq
      have hb := bit_step (f := f) hst (List.mem_range.mp hq)
      rw [if_pos h3] at hb
      simp only [Function.comp, sgn]
      rw [hb, flip_sign (other_of f) (bit_le f q)]
      exact sign_par _ (par_step hst).symm
    · rw [if_neg (fun h => h3 h.2)]
      apply List.map_congr_left
      intro q hq
      have hb := bit_step (f := f) hst (List.mem_range.mp hq)
      rw [if_neg h3] at hb
      simp only [Function.comp, sgn]
      rw [hb]
      exact sign_par _ (par_step hst).symm
theorem sign_ne {f c : Nat} (hc : c = 34 ∨ c = 92 ∨ c = 46) : ∀ x ∈ signsF f, x ≠ c := by
  intro x hx
  have h1 := signsF_mem f x hx
  rcases other_of f with ho | ho | ho <;> rw [ho] at h1 <;> rcases h1 with rfl | rfl | rfl | rfl <;> rcases hc with rfl | rfl | rfl <;> decide
end Mine

-- PL
namespace Mine
open PySem PySem.W PySem.Calls PyProof.Rows
set_option Elab.async false
set_option maxRecDepth 100000
noncomputable def lessF (f : Nat) : List Nat := (foldsTo f 1 5).map fun b => if b = 0 then 38 else otherF f
theorem strip_left (f : Nat) : stripF (maskF (signsF f) (stepF f) (restF f) ++ [92, 34, 43, 34]) = leftF f := by
  rw [strip_maskT (sign_ne (.inl rfl)) (sign_ne (.inr (.inl rfl))), bare_signs]
  unfold leftF
  rw [leftB_pos]
theorem pos_two : posL 2 0 = (List.range 31).map fun q => 2 * q + 1 := by decide +kernel
theorem less_len (f : Nat) : (foldsTo (f : Int) 1 5).length = 31 := by
  have := foldsTo_length (f : Int) 1 5
  omega
theorem lessF_pos (f : Nat) : lessF f = (List.range 31).map fun q => sgn f (2 * q + 1) := by
  unfold lessF
  apply List.ext_getElem?
  intro q
  rw [List.getElem?_map, List.getElem?_map]
  by_cases hq : q < 31
  · have hl := less_len f
    have h := less_of f q hq
    rw [List.getElem?_range hq, List.getElem?_eq_getElem (by omega)]
    rw [List.getD_eq_getElem?_getD, List.getElem?_eq_getElem (by omega), Option.getD_some] at h
    rw [h]
    simp only [Option.map_some, sgn, signAt]
    rw [if_neg (show ¬ (2 * q + 1) % 2 = 0 by omega)]
  · rw [List.getElem?_eq_none (by rw [less_len]; omega), List.getElem?_eq_none (by simp; omega)]; rfl
theorem strip_less (f : Nat) : stripF (maskF (signsF f) 2 0) = lessF f := by
  rw [strip_mask (sign_ne (.inl rfl)) (sign_ne (.inr (.inl rfl)))]
  have := bare_signs f 2 0
  rw [lessF_pos]
  rw [pos_two, List.map_map] at this
  exact this
end Mine

-- F9
namespace Mine
open PySem PySem.W PySem.Calls PyProof.Rows
set_option Elab.async false
set_option maxRecDepth 100000
set_option maxHeartbeats 4000000
inductive FinG (g0 : Array GenState) : Array GenState → Prop
  | refl : FinG g0 g0
  | push {g : Array GenState} (h : FinG g0 g) : FinG g0 (g.push .finished)
theorem FinG.next {g0 g g' : Array GenState} (h : FinG g0 g) (e : g' = g ∨ g' = g.push .finished) : FinG g0 g' := by
  rcases e with rfl | rfl
  · exact h
  · exact .push h
noncomputable def mLess (ax : Addr) (f : Nat) (tf t1 t2 t3 t4 t5 t6 : Tok) : Str → Option Value := fun y => if y = "less" then some (.str (ofL (lessF f)) t6) else mLeft ax f tf t1 t2 t3 t4 (leftF f) t5 y
theorem leftB_length (f : Nat) : (leftB f).length ≤ 63 := by
  unfold leftB; split
  · rw [List.length_map]; exact leftA_length f
  · exact leftA_length f
theorem leftF_length (f : Nat) : (leftF f).length ≤ 67 := by
  unfold leftF; rw [List.length_append]; have := leftB_length f; simp only [List.length_cons, List.length_nil]; omega
theorem maskF_length (sg : List Nat) (st rs : Int) : (maskF sg st rs).length ≤ 2 * sg.length + 1 := by
  have := maskTo_length sg st rs sg.length
  unfold maskF; split
  · omega
  · rw [List.length_append, List.length_singleton]; omega
theorem lessF_length (f : Nat) : (lessF f).length = 31 := by
  unfold lessF; rw [List.length_map]; have := foldsTo_length f 1 5; omega
theorem ints_bit {vs : List Value} {ns : List Int} {v : Value} (hi : IntsAre vs ns) (hb : ∀ x ∈ ns, x = 0 ∨ x = 1) (h : v ∈ vs) : ∃ b u, v = .int b u ∧ (b = 0 ∨ b = 1) := by
  induction hi with
  | nil => cases h
  | cons n t _ ih =>
    rcases List.mem_cons.mp h with rfl | h
    · exact ⟨n, t, rfl, hb n (List.mem_cons_self ..)⟩
    · exact ih (fun x hx => hb x (List.mem_cons_of_mem _ hx)) h
theorem strs_of_ints {g : Int → List Nat} {vs ys : List Value} {ns : List Int} (hi : IntsAre vs ns) (hp : Paired (fun v y => ∀ b u, v = .int b u → ∃ u', y = .str (ofL (g b)) u') vs ys) : Paired (fun v l => ∃ u, v = .str (ofL l) u) ys (ns.map g) := by
  induction hi generalizing ys with
  | nil => cases hp; exact .nil
  | cons n t _ ih => cases hp with
    | cons h hp => exact .cons (h n t rfl) (ih hp)
theorem flat_oneI (g : Int → Nat) : ∀ l : List Int, (l.map fun i => [g i]).flatten = l.map g
  | [] => rfl
  | a :: r => by rw [List.map_cons, List.flatten_cons, flat_oneI g r]; rfl
theorem law3 {w : World} {A : Around} {s : Shared} {Q : Value → Shared → Prop} {ax L : Addr} {f : Nat} {tf t1 t2 t3 t4 t5 u : Tok} {oC : Obj} {h' : Heap} {tk : Nat} (hf : f < 1000000) (G : Gd w s.heap) (hh : A.handled = none) (hroom : A.depth + 3 < recursionLimit) (hu : A.units + 20 < cLine)
   (F : Fr s.heap L h' (mLeft ax f tf t1 t2 t3 t4 (leftF f) t5)) (N : News s.heap L h' [(L + 1, oC)]) (hoC : oC.data = .cell (some (.str (ofL [otherF f]) u)))
   (h : ∀ h' tk g t6, FinG s.gens g → Fr s.heap L h' (mLess ax f tf t1 t2 t3 t4 t5 t6) → News s.heap L h' [(L + 1, oC)] → LawRest w A L 13 Q { s with heap := h', toks := tk, gens := g }) :
   LawRest w A L 10 Q { s with heap := h', toks := tk } := by
  obtain ⟨hd0, dp, frs, gds, un⟩ := A
  simp only at hh hroom hu
  subst hh
  have G0 := G
  obtain ⟨X, mg, mb, T⟩ := G
  revert X
  have hcon : (model Challenge.rw_wa0026_01.row.prog w) = (model Challenge.rw_wa0026_01.row.prog w) := rfl
  revert hcon
  k_fill
  intro _ X
  have hlow : sysModules < s.heap.objs.size := modules_low T.nolimit
  have hst := stepF_pos f
  have hst7 := stepF_le f
  have hsl := signsF_length f
  have hlf := leftF_length f
  refine' lawRest_mk ?ho ?e ?_
  case ho => k_is
  case e => exact rfl
  simp only [List.drop_succ_cons, List.drop_zero]
  with_reducible refine seqO (fun s' => ∃ h' tk g, s' = { s with heap := h', toks := tk, gens := g } ∧ FinG s.gens g ∧ Fr s.heap L h' (mLeft ax f tf t1 t2 t3 t4 (leftF f) t5) ∧ News s.heap L h' [(L + 1, oC)]) ?_ ?_
  · intro R hNx hRt
    repeat' walk1
    unfold Stopped
    refine msk (by omega) (by omega) (by omega) (Gd.keeps G0 F.keep) (by show dp + 1 < recursionLimit; omega) (by show un + 3 + 8 < cLine; omega) rfl fun h7 t7 tk7 hx7 => ?_
    have F7 := Fr.grownK F hx7
    have N7 := News.grown N hx7
    clear F N
    repeat' walk1
    rw [l_tail]
    have hml := maskF_length (signsF f) (stepF f) (restF f)
    refine addL (by simp only [List.length_cons, List.length_nil]; omega) fun t8 tk8 => ?_
    repeat' walk1
    unfold Stopped
    refine strip (by rw [List.length_append]; simp only [List.length_cons, List.length_nil]; omega) (Gd.keeps G0 F7.keep) (by show dp + 1 + 1 < recursionLimit; omega) rfl fun h9 t9 tk9 g9 hx9 hg9 => ?_
    have F9 := Fr.grownK F7 hx9
    have N9 := News.grown N7 hx9
    clear F7 N7
    rw [strip_left]
    repeat' walk1
    · rename_i hc
      simp at hc
    · exact hNx _ ⟨h9, _, g9, rfl, FinG.refl.next hg9, F9, N9⟩
  clear F N
  rintro _ ⟨h1, tk1, g1, rfl, hg1, F, N⟩
  with_reducible refine seqO (fun s' => ∃ h' tk t6, s' = { s with heap := h', toks := tk, gens := g1 } ∧ Fr s.heap L h' (mLess ax f tf t1 t2 t3 t4 t5 t6) ∧ News s.heap L h' [(L + 1, oC)]) ?_ ?_
  · intro R hNx hRt
    repeat' walk1
    unfold Stopped
    refine compJ s.heap (fun v y => ∀ b u, v = .int b u → ∃ u', y = .str (ofL [if b = 0 then 38 else otherF f]) u') (cl := _) rfl (by decide) rfl (by decide) rfl ?_ (fun _ => rfl)
    repeat' walk1
    unfold Stopped
    refine fld (by omega) (by omega) (by omega) (by omega) (Gd.keeps G0 F.keep) (by show dp + 1 < recursionLimit; omega) (by show un + 3 + 8 < cLine; omega) rfl fun lf vf h8 tk8 hx8 hlf hif => ?_
    have F8 := Fr.grownK F hx8
    have N8 := News.grown N hx8
    clear F N
    have hvl : vf.length = 31 := by
      have h1 := foldsTo_length f 1 5
      have h2 := hif.length
      have e : ((6 : Int) - 1).toNat = 5 := rfl
      rw [e] at h2
      omega
    refine CompJ.list rfl F8 N8 hlf (by rw [sizeLine_eq]; omega) ?_ ?_
    · intro C v s₃ m₃ hC hv hn hm hk htk
      obtain ⟨b, ub, rfl, hb⟩ := ints_bit hif (folds_bits f 1 _) hv
      have hcell : s₃.heap.get? (L + 1) = some oC := hk _ _ (N8 _ (.head _)).1
      refine Subscript_ (wpAny_BinOp (Constant_str (wpAny_Name (wpAny_loadName_cell rfl rfl rfl ⟨oC, hcell, hoC⟩ ?_) (by decide))))
      rw [l_amp]
      refine addL (by simp) fun ta tka => ?_
      refine wpAny_Name (wpAny_loadName_local rfl rfl hn hm ?_) (by decide)
      rcases hb with rfl | rfl
      · refine itemL (k := 0) (by simp) (by simp) ?_ (by with_unfolding_all rfl) (by intro _; with_unfolding_all rfl)
        exact ⟨fun b' u' e => by cases e; exact ⟨_, rfl⟩, _, _, rfl, fun b o e => e⟩
      · refine itemL (k := 1) (by simp) (by simp) ?_ (by with_unfolding_all rfl) (by intro _; with_unfolding_all rfl)
        exact ⟨fun b' u' e => by cases e; exact ⟨_, rfl⟩, _, _, rfl, fun b o e => e⟩
    intro D9 ys k9 h10 tk10 F10 N10 hyg
    replace F10 : Fr s.heap L h10 _ := F10
    replace N10 : News s.heap L h10 _ := N10
    walk1
    refine joinL (vs := ys.toList) (ls := (foldsTo f 1 5).map fun b => [if b = 0 then 38 else otherF f]) (B := 1) lit_none (News.isList N10 (.head _)) (strs_of_ints hif hyg) ?_ ?_ (fun t' k' => ?_)
    · intro x hx
      obtain ⟨i, _, rfl⟩ := List.mem_map.mp hx
      simp
    · rw [List.length_map]; have := foldsTo_length f 1 5; omega
    have N11 : News s.heap L h10 [(L + 1, oC)] := News.sub N10 fun p hp => .tail _ hp
    clear N10
    have e : ((foldsTo f 1 5).map fun b => [if b = 0 then 38 else otherF f]).flatten = lessF f := flat_oneI _ _
    rw [e]
    repeat' walk1
    rename_i h12 F12 N12
    exact hNx _ ⟨h12, _, _, rfl, F12, N12⟩
  clear F N
  rintro _ ⟨h2, tk2, t6, rfl, F, N⟩
  with_reducible refine seqO (fun s' => ∃ h' tk g, s' = { s with heap := h', toks := tk, gens := g } ∧ FinG s.gens g ∧ Fr s.heap L h' (mLess ax f tf t1 t2 t3 t4 t5 t6) ∧ News s.heap L h' [(L + 1, oC)]) ?_ ?_
  · intro R hNx hRt
    repeat' walk1
    unfold Stopped
    refine msk (by omega) (by decide) (by decide) (Gd.keeps G0 F.keep) (by show dp + 1 < recursionLimit; omega) (by show un + 3 + 8 < cLine; omega) rfl fun h7 t7 tk7 hx7 => ?_
    have F7 := Fr.grownK F hx7
    have N7 := News.grown N hx7
    clear F N
    repeat' walk1
    unfold Stopped
    have hml := maskF_length (signsF f) 2 0
    refine strip (by omega) (Gd.keeps G0 F7.keep) (by show dp + 1 + 1 < recursionLimit; omega) rfl fun h9 t9 tk9 g9 hx9 hg9 => ?_
    have F9 := Fr.grownK F7 hx9
    have N9 := News.grown N7 hx9
    clear F7 N7
    rw [strip_less]
    repeat' walk1
    · rename_i hc
      simp at hc
    · exact hNx _ ⟨h9, _, g9, rfl, hg1.next hg9, F9, N9⟩
  clear F N
  rintro _ ⟨h3, tk3, g3, rfl, hg3, F, N⟩
  refine' lawRest_use (h h3 tk3 g3 t6 hg3 F N) ?ho ?e
  case ho => k_is
  case e => exact rfl
end Mine

-- PR
namespace Mine
open PySem PySem.W PySem.Calls PyProof.Rows
set_option Elab.async false
set_option maxRecDepth 100000
theorem chain0 : ∀ l : List Nat, rep 62 cGt (rep 60 cLt (rep 38 cAmp l)) = l.flatMap (wcode 0)
  | [] => rfl
  | x :: r => by
    have e : x :: r = [x] ++ r := rfl
    rw [e, rep_append, rep_append, rep_append, chain0 r, List.flatMap_append]
    congr 1
    by_cases h0 : x = 38
    · subst h0; rfl
    have b0 : (x == 38) = false := by simp [h0]
    by_cases h1 : x = 60
    · subst h1; rfl
    have b1 : (x == 60) = false := by simp [h1]
    by_cases h2 : x = 62
    · subst h2; rfl
    have b2 : (x == 62) = false := by simp [h2]
    simp only [rep, wcode, tab, List.lookup, b0, h0, b1, h1, b2, h2, if_false, List.flatMap_cons, List.flatMap_nil, List.append_nil]
theorem chain1 : ∀ l : List Nat, rep 9 cTab (rep 10 cNl (rep 13 cCr (rep 34 cQ (rep 62 cGt (rep 60 cLt (rep 38 cAmp l)))))) = l.flatMap (wcode 1)
  | [] => rfl
  | x :: r => by
    have e : x :: r = [x] ++ r := rfl
    rw [e, rep_append, rep_append, rep_append, rep_append, rep_append, rep_append, rep_append, chain1 r, List.flatMap_append]
    congr 1
    by_cases h0 : x = 38
    · subst h0; rfl
    have b0 : (x == 38) = false := by simp [h0]
    by_cases h1 : x = 60
    · subst h1; rfl
    have b1 : (x == 60) = false := by simp [h1]
    by_cases h2 : x = 62
    · subst h2; rfl
    have b2 : (x == 62) = false := by simp [h2]
    by_cases h3 : x = 34
    · subst h3; rfl
    have b3 : (x == 34) = false := by simp [h3]
    by_cases h4 : x = 13
    · subst h4; rfl
    have b4 : (x == 13) = false := by simp [h4]
    by_cases h5 : x = 10
    · subst h5; rfl
    have b5 : (x == 10) = false := by simp [h5]
    by_cases h6 : x = 9
    · subst h6; rfl
    have b6 : (x == 9) = false := by simp [h6]
    simp only [rep, wcode, tab, List.lookup, b0, h0, b1, h1, b2, h2, b3, h3, b4, h4, b5, h5, b6, h6, if_false, List.flatMap_cons, List.flatMap_nil, List.append_nil]
theorem chain2 : ∀ l : List Nat, rep 34 cQ (rep 62 cGt (rep 38 cAmp l)) = l.flatMap (wcode 2)
  | [] => rfl
  | x :: r => by
    have e : x :: r = [x] ++ r := rfl
    rw [e, rep_append, rep_append, rep_append, chain2 r, List.flatMap_append]
    congr 1
    by_cases h0 : x = 38
    · subst h0; rfl
    have b0 : (x == 38) = false := by simp [h0]
    by_cases h1 : x = 62
    · subst h1; rfl
    have b1 : (x == 62) = false := by simp [h1]
    by_cases h2 : x = 34
    · subst h2; rfl
    have b2 : (x == 34) = false := by simp [h2]
    simp only [rep, wcode, tab, List.lookup, b0, h0, b1, h1, b2, h2, if_false, List.flatMap_cons, List.flatMap_nil, List.append_nil]
theorem chain3 : ∀ l : List Nat, rep 13 xCr (rep 62 cGt (rep 60 cLt (rep 38 cAmp l))) = l.flatMap (wcode 3)
  | [] => rfl
  | x :: r => by
    have e : x :: r = [x] ++ r := rfl
    rw [e, rep_append, rep_append, rep_append, rep_append, chain3 r, List.flatMap_append]
    congr 1
    by_cases h0 : x = 38
    · subst h0; rfl
    have b0 : (x == 38) = false := by simp [h0]
    by_cases h1 : x = 60
    · subst h1; rfl
    have b1 : (x == 60) = false := by simp [h1]
    by_cases h2 : x = 62
    · subst h2; rfl
    have b2 : (x == 62) = false := by simp [h2]
    by_cases h3 : x = 13
    · subst h3; rfl
    have b3 : (x == 13) = false := by simp [h3]
    simp only [rep, wcode, tab, List.lookup, b0, h0, b1, h1, b2, h2, b3, h3, if_false, List.flatMap_cons, List.flatMap_nil, List.append_nil]
theorem chain4 : ∀ l : List Nat, rep 13 xCr (rep 10 xNl (rep 9 xTab (rep 34 cQ (rep 60 cLt (rep 38 cAmp l))))) = l.flatMap (wcode 4)
  | [] => rfl
  | x :: r => by
    have e : x :: r = [x] ++ r := rfl
    rw [e, rep_append, rep_append, rep_append, rep_append, rep_append, rep_append, chain4 r, List.flatMap_append]
    congr 1
    by_cases h0 : x = 38
    · subst h0; rfl
    have b0 : (x == 38) = false := by simp [h0]
    by_cases h1 : x = 60
    · subst h1; rfl
    have b1 : (x == 60) = false := by simp [h1]
    by_cases h2 : x = 34
    · subst h2; rfl
    have b2 : (x == 34) = false := by simp [h2]
    by_cases h3 : x = 9
    · subst h3; rfl
    have b3 : (x == 9) = false := by simp [h3]
    by_cases h4 : x = 10
    · subst h4; rfl
    have b4 : (x == 10) = false := by simp [h4]
    by_cases h5 : x = 13
    · subst h5; rfl
    have b5 : (x == 13) = false := by simp [h5]
    simp only [rep, wcode, tab, List.lookup, b0, h0, b1, h1, b2, h2, b3, h3, b4, h4, b5, h5, if_false, List.flatMap_cons, List.flatMap_nil, List.append_nil]
end Mine

-- F10
namespace Mine
open PySem PySem.W PySem.Calls PyProof.Rows
set_option Elab.async false
set_option maxRecDepth 100000
set_option maxHeartbeats 4000000
theorem escAny {w : World} {A : Around} {s : Shared} {Q E : Value → Shared → Prop} {l : List Nat} {t : Tok} {k : Nat} (hk : k < 5) (hx : l.length ≤ 70) (G : Gd w s.heap) (hroom : A.depth < recursionLimit)
   (h : ∀ h' t tk, Ext s.heap h' → Q (.str (ofL (l.flatMap (wcode k))) t) { s with heap := h', toks := tk }) :
   wpAny (model Challenge.rw_wa0026_01.row.prog w) A (call (.ref (wref k)) [.str (ofL l) t]) Q E s := by
  have := lt5 hk
  rcases this with rfl | rfl | rfl | rfl | rfl
  · exact escCdata hx G hroom fun h' t tk hx => by rw [chain0]; exact h h' t tk hx
  · exact escAttrib hx G hroom fun h' t tk hx => by rw [chain1]; exact h h' t tk hx
  · exact escHtml hx G hroom fun h' t tk hx => by rw [chain2]; exact h h' t tk hx
  · exact escCdataC hx G hroom fun h' t tk hx => by rw [chain3]; exact h h' t tk hx
  · exact escAttribC hx G hroom fun h' t tk hx => by rw [chain4]; exact h h' t tk hx
theorem funAt {K : Frag} {h : Heap} {f : Addr} (X : K.In h) {name qual : Str} {params : Arguments} {body : List Stmt} {scope : Scope} {dV kV doc pm cdv ct oc : Value} {an od : Option Addr} {osl : Array (Option Value)}
    (ho : K.lookup f = some ⟨oc, od, .func (fnOf name qual params body scope dV kV doc pm an cdv ct), osl⟩) : ∃ o fd, h.get? f = some o ∧ o.data = .func fd := ⟨_, _, X _ _ ho, rfl⟩
theorem wfun {w : World} {h : Heap} {k : Nat} (hk : k < 5) (X : (hd.heap_39 w.params).In h) (hcon : (model Challenge.rw_wa0026_01.row.prog w) = (model Challenge.rw_wa0026_01.row.prog w)) : ∃ o fd, h.get? (wref k) = some o ∧ o.data = .func fd := by
  revert X hcon
  k_fill
  intro X _
  have := lt5 hk
  rcases this with rfl | rfl | rfl | rfl | rfl
  · refine' funAt (f := 49) X ?k
    case k => k_is
  · refine' funAt (f := 56) X ?k
    case k => k_is
  · refine' funAt (f := 63) X ?k
    case k => k_is
  · refine' funAt (f := 70) X ?k
    case k => k_is
  · refine' funAt (f := 77) X ?k
    case k => k_is
noncomputable def pageF (f : Nat) : List Nat := (leftF f).flatMap (wcode (handF f))
noncomputable def leafF (f : Nat) : List Nat := (lessF f).flatMap (wcode (handF f))
noncomputable def mPage (ax : Addr) (f : Nat) (tf t1 t2 t3 t4 t5 t6 t7 t8 : Tok) : Str → Option Value := fun y => if y = "page" then some (.str (ofL (pageF f)) t7) else if y = "leaf" then some (.str (ofL (leafF f)) t8) else mLess ax f tf t1 t2 t3 t4 t5 t6 y
theorem law4 {w : World} {A : Around} {s : Shared} {Q : Value → Shared → Prop} {ax L : Addr} {f : Nat} {tf t1 t2 t3 t4 t5 t6 u : Tok} {oC : Obj} {h' : Heap} {tk : Nat} {g : Array GenState} (hf : f < 1000000) (G : Gd w s.heap) (hh : A.handled = none) (hroom : A.depth + 3 < recursionLimit) (hu : A.units + 20 < cLine)
   (F : Fr s.heap L h' (mLess ax f tf t1 t2 t3 t4 t5 t6)) (N : News s.heap L h' [(L + 1, oC)])
   (h : ∀ h' tk t7 t8, Fr s.heap L h' (mPage ax f tf t1 t2 t3 t4 t5 t6 t7 t8) → LawRest w A L 15 Q { s with heap := h', toks := tk, gens := g }) :
   LawRest w A L 13 Q { s with heap := h', toks := tk, gens := g } := by
  obtain ⟨hd0, dp, frs, gds, un⟩ := A
  simp only at hh hroom hu
  subst hh
  have G0 := G
  obtain ⟨X, mg, mb, T⟩ := G
  revert X
  have hcon : (model Challenge.rw_wa0026_01.row.prog w) = (model Challenge.rw_wa0026_01.row.prog w) := rfl
  revert hcon
  k_fill
  intro _ X
  have hlow : sysModules < s.heap.objs.size := modules_low T.nolimit
  have hlf := leftF_length f
  have hll := lessF_length f
  have hhd := handF_lt f
  refine' lawRest_mk ?ho ?e ?_
  case ho => k_is
  case e => exact rfl
  simp only [List.drop_succ_cons, List.drop_zero]
  with_reducible refine seqO (fun s' => ∃ h' tk t7 t8, s' = { s with heap := h', toks := tk, gens := g } ∧ Fr s.heap L h' (mPage ax f tf t1 t2 t3 t4 t5 t6 t7 t8) ∧ News s.heap L h' []) ?_ ?_
  · intro R hNx hRt
    obtain ⟨ow, fdw, how, hdw⟩ := wfun hhd X rfl
    repeat' walk1
    unfold Stopped
    refine escAny hhd (by omega) (Gd.keeps G0 F.keep) (by show dp + 1 < recursionLimit; omega) fun h7 t7 tk7 hx7 => ?_
    have F7 := Fr.grownK F hx7
    have N7 := News.grown N hx7
    clear F N
    repeat' walk1
    unfold Stopped
    refine escAny hhd (by omega) (Gd.keeps G0 F7.keep) (by show dp + 1 < recursionLimit; omega) fun h8 t8 tk8 hx8 => ?_
    have F8 := Fr.grownK F7 hx8
    have N8 := News.grown N7 hx8
    clear F7 N7
    repeat' walk1
    rename_i h9 F9 N9
    exact hNx _ ⟨h9, _, _, _, rfl, F9, News.nil⟩
  clear F N
  rintro _ ⟨h1, tk1, t7, t8, rfl, F, N⟩
  with_reducible refine seqO (fun s' => ∃ h' tk, s' = { s with heap := h', toks := tk, gens := g } ∧ Fr s.heap L h' (mPage ax f tf t1 t2 t3 t4 t5 t6 t7 t8)) ?_ ?_
  · intro R hNx hRt
    repeat' walk1
    unfold Stopped
    refine wrt (by omega) (by omega) (by omega) (Gd.keeps G0 F.keep) (by show dp + 1 < recursionLimit; omega) (by show un + 3 + 8 < cLine; omega) rfl fun h7 t9 tk7 hx7 => ?_
    have F7 := Fr.grownK F hx7
    have N7 := News.grown N hx7
    clear F N
    have e1 : (leftF f).flatMap (wcode ((handF f : Nat) : Int).toNat) = pageF f := by rw [Int.toNat_natCast]; rfl
    rw [e1]
    repeat' walk1
    · rename_i hc
      simp at hc
    · unfold Stopped
      refine wrt (by omega) (by omega) (by omega) (Gd.keeps G0 F7.keep) (by show dp + 1 < recursionLimit; omega) (by show un + 3 + 8 < cLine; omega) rfl fun h8 t10 tk8 hx8 => ?_
      have F8 := Fr.grownK F7 hx8
      have N8 := News.grown N7 hx8
      clear F7 N7
      have e2 : (lessF f).flatMap (wcode ((handF f : Nat) : Int).toNat) = leafF f := by rw [Int.toNat_natCast]; rfl
      rw [e2]
      repeat' walk1
      · rename_i hc
        simp at hc
      · exact hNx _ ⟨h8, _, rfl, F8⟩
  clear F N
  rintro _ ⟨h2, tk2, rfl, F⟩
  refine' lawRest_use (h h2 tk2 t7 t8 F) ?ho ?e
  case ho => k_is
  case e => exact rfl
end Mine

-- B20
namespace Mine
open PySem PySem.W PySem.Calls PyProof.Rows
open PySem.Sem (wp)
set_option Elab.async false
set_option maxRecDepth 100000
section
variable {prog : Program} {w : World} {A : Around} {E : Value → Shared → Prop} {s : Shared}
theorem nextTup {it t : Addr} {i : Nat} {items : Array Value} {x : Value} {Q : Value → Shared → Prop} (hit : s.heap.IsTupleIter it t i) (ht : s.heap.IsTuple t items) (hx : items[i]? = some x)
    (hQ : ∀ h', h'.IsTupleIter it t (i + 1) → Heap.SameBut it s.heap h' → Q x { s with heap := h' }) :
    wpAny (model prog w) A (Builtin.SmallTypes.nextOf (.ref it)) Q E s := by
  obtain ⟨o, ho, hc, hd⟩ := id hit
  obtain ⟨ol, hol, _, nl, hdl⟩ := ht
  unfold Builtin.SmallTypes.nextOf
  refine wpAny_bind (wpAny_callSpecial?_slot (name := Str.ofString "__next__") hit.typeIs PySem.F.slot_tuple_iterator_next
    (wpAny_call_entry PySem.F.slot_tuple_iterator_next hit.typeIs PySem.F.entry_tuple_iterator_next ?_ (PySem.F.args_tuple_iterator_next_1 _)))
  show wpAny _ _ (field (.ref it) 0 >>= _) _ _ s
  refine wpAny_bind (wpAny_field ho hd (x := .ref t) rfl ?_)
  show wpAny _ _ (if (Value.ref t == Value.none) = true then _ else _) _ _ s
  rw [if_neg (show ¬ ((Value.ref t == Value.none) = true) from Bool.false_ne_true)]
  show wpAny _ _ (field (.ref it) 1 >>= _) _ _ s
  refine wpAny_bind (wpAny_field ho hd (x := .int i 0) rfl ?_)
  show wpAny _ _ (seqItems? (.ref t) >>= _) _ _ s
  refine wpAny_bind (wpAny_seqItems hol hdl ?_)
  simp only [Int.toNat_natCast, hx]
  refine wpAny_bind (wpAny_setField ho hd (by simp) (wpAny_pure ⟨x, rfl, wpAny_pure (hQ _ ?_ (Heap.SameBut.update ..))⟩))
  exact ⟨_, Heap.get?_update_self _ ho (Obj.isFreed_of_fields (Obj.data_mapFields hd _)), (Obj.cls_mapFields ..).trans hc, by
    rw [Obj.data_mapFields hd]; simp [rawInt]⟩
theorem nextTupEnd {it t : Addr} {i : Nat} {items : Array Value} {Q : Value → Shared → Prop} (hh : A.handled = none) (hit : s.heap.IsTupleIter it t i) (ht : s.heap.IsTuple t items) (hx : items[i]? = none)
    (hE : ∀ h' e, Heap.ExtBut it s.heap h' → (∃ o, h'.get? e = some o ∧ o.cls = .type "StopIteration") → E (.ref e) { s with heap := h' }) :
    wpAny (model prog w) A (Builtin.SmallTypes.nextOf (.ref it)) Q E s := by
  obtain ⟨o, ho, hc, hd⟩ := id hit
  obtain ⟨ol, hol, _, nl, hdl⟩ := ht
  unfold Builtin.SmallTypes.nextOf
  refine wpAny_bind (wpAny_callSpecial?_slot (name := Str.ofString "__next__") hit.typeIs PySem.F.slot_tuple_iterator_next
    (wpAny_call_entry PySem.F.slot_tuple_iterator_next hit.typeIs PySem.F.entry_tuple_iterator_next ?_ (PySem.F.args_tuple_iterator_next_1 _)))
  show wpAny _ _ (field (.ref it) 0 >>= _) _ _ s
  refine wpAny_bind (wpAny_field ho hd (x := .ref t) rfl ?_)
  show wpAny _ _ (if (Value.ref t == Value.none) = true then _ else _) _ _ s
  rw [if_neg (show ¬ ((Value.ref t == Value.none) = true) from Bool.false_ne_true)]
  show wpAny _ _ (field (.ref it) 1 >>= _) _ _ s
  refine wpAny_bind (wpAny_field ho hd (x := .int i 0) rfl ?_)
  show wpAny _ _ (seqItems? (.ref t) >>= _) _ _ s
  refine wpAny_bind (wpAny_seqItems hol hdl ?_)
  simp only [Int.toNat_natCast, hx]
  refine wpAny_bind (wpAny_rule (wpAny_bind (wpAny_setField ho hd (by simp) ?_)))
  show wpAny _ _ (newExc (.type "StopIteration") [] >>= _) _ _ _
  refine wpAny_bind ?_
  simp only [newExc, newTuple]
  refine wpAny_bind (wpAny_newObj_type ?_ (by size_fits))
  refine wpAny_bind (m := firstArgMember _ _) (wpAny_of_eq (a := Value.none) (by first | rfl | (simp only [firstArgMember]; rfl)) ?_)
  refine wpAny_newObj_type ?_ (by size_fits)
  simp only [raiseNew]
  refine wpAny_bind (wpAny_handled ?_)
  first | rw [show A.in1.handled = none from hh] | rw [hh]
  refine wpAny_bind (wpAny_pure (wpAny_throw ?_))
  exact hE _ _ (((Heap.SameBut.update ..).extBut.push _).push _) ⟨_, Heap.get?_push_size _ rfl, rfl⟩
end
theorem Draws.tup {prog : Program} {w : World} {A : Around} (hh : A.handled = none) (it t : Addr) (hne : t ≠ it) (items : Array Value) :
    Draws prog w A it [it, t] items.size (fun i v => items[i]? = some v) (fun i h => h.IsTupleIter it t i ∧ h.IsTuple t items) where
  live := fun _ _ st => let ⟨o, ho, _⟩ := st.1; ⟨o, ho⟩
  frame := fun _ _ _ st hk => ⟨let ⟨o, ho, r⟩ := st.1; ⟨o, hk it (by simp) o ho, r⟩, let ⟨o, ho, r⟩ := st.2; ⟨o, hk t (by simp) o ho, r⟩⟩
  item := fun i s Q E hi st hQ => by
    refine nextTup st.1 st.2 (x := items[i]) (by simp [hi]) fun h' hit' hs' => ?_
    exact hQ _ h' s.toks (by simp [hi]) ⟨hit', st.2.extBut hs'.extBut hne⟩ hs'
  done := fun s Q E st hE => nextTupEnd hh st.1 st.2 (by simp) hE
end Mine

-- B21
namespace Mine
open PySem PySem.W PySem.Calls PyProof.Rows
open PySem.AutoSeq1 (wpAny_loadPart')
set_option Elab.async false
set_option maxRecDepth 100000
set_option maxHeartbeats 1000000
theorem meets_enum_tup (l : Addr) (items : Array Value) (n : Nat) (dct : Option Addr) (sl : Array (Option Value)) :
    Meets (Builtin.«enumerate.__new__» ⟨[.type "enumerate", .ref l], []⟩) (fun _ R s => s.heap.get? l = some { cls := .type "tuple", dict := dct, data := .seq items n, slots := sl } ∧
      R (.ok (.ret (.ref (s.heap.push { cls := .type "tuple_iterator", data := .fields #[.ref l, .int 0 0] }).objs.size)))
        { s with heap := (s.heap.push { cls := .type "tuple_iterator", data := .fields #[.ref l, .int 0 0] }).push { cls := .type "enumerate", data := .fields #[.none, .bool false, .ref s.heap.objs.size, rawInt 0, .none, .none] } }) :=
  .of_wp fun prog w A R s h => by
    obtain ⟨hp, g, d, tk, os⟩ := s; obtain ⟨hl, h⟩ := h
    have hsub := sub_enumerate
    have hL : Heap.IsTuple (Shared.heap ⟨hp, g, d, tk, os⟩) l items := ⟨_, hl, rfl, n, rfl⟩
    wp_walk using wpAny_loadPart' hl
    refine wpAny_stack_any fun st => wpAny_pure ?_
    split
    · rename_i c _ _ _ _ _
      cases (c == Value.type "enumerate")
      · wp_walk using wpAny_loadPart' hl, wpAny_pyIter_tuple hL
        exact ⟨_, rfl, h⟩
      · wp_walk using wpAny_loadPart' hl, wpAny_pyIter_tuple hL
        exact ⟨_, rfl, h⟩
    · wp_walk using wpAny_loadPart' hl, wpAny_pyIter_tuple hL
      exact ⟨_, rfl, h⟩
section
variable {prog : Program} {w : World} {A : Around} {E : Value → Shared → Prop} {s : Shared}
theorem call_enum_tup {l : Addr} {items : Array Value} {Q : Value → Shared → Prop} (hL : s.heap.IsTuple l items)
    (h : ∀ h', IsEnum h' (s.heap.objs.size + 1) s.heap.objs.size 0 .none → h'.IsTupleIter s.heap.objs.size l 0 → h'.objs.size = s.heap.objs.size + 2 →
      (∀ b o, s.heap.get? b = some o → h'.get? b = some o) → Q (.ref (s.heap.objs.size + 1)) { s with heap := h' }) :
    wpAny (model prog w) A (call (.type "enumerate") [.ref l]) Q E s := by
  obtain ⟨⟨c, dct, dt, sl⟩, hl, hc, n, hd⟩ := hL
  replace hc : c = .type "tuple" := hc
  replace hd : dt = .seq items n := hd
  subst hc hd
  refine callType_new PySem.F.called_enumerate (by decide) (PySem.F.typeCall_enumerate_1 _) (PySem.F.newCall_enumerate_1 _) (fun obj => PySem.F.args_object_init_2 obj _) PySem.F.entry_enumerate_new
    (meets_enum_tup l items n dct sl) ⟨hl, ?_⟩
  have hz : (s.heap.push { cls := .type "tuple_iterator", data := .fields #[.ref l, .int 0 0] }).objs.size = s.heap.objs.size + 1 := Heap.size_push ..
  show _ ∧ _
  rw [hz]
  have he : IsEnum ((s.heap.push { cls := .type "tuple_iterator", data := .fields #[.ref l, .int 0 0] }).push
      { cls := .type "enumerate", data := .fields #[.none, .bool false, .ref s.heap.objs.size, rawInt 0, .none, .none] }) (s.heap.objs.size + 1) s.heap.objs.size 0 .none := by
    have := Heap.get?_push_size (s.heap.push { cls := .type "tuple_iterator", data := .fields #[.ref l, .int 0 0] })
      (o := { cls := .type "enumerate", data := .fields #[.none, .bool false, .ref s.heap.objs.size, rawInt 0, .none, .none] }) rfl
    rw [hz] at this; exact this
  exact ⟨⟨_, he, rfl⟩, h _ he ⟨_, Heap.get?_push_of_some _ (Heap.get?_push_size _ rfl), rfl, rfl⟩ (by rw [Heap.size_push, hz]) fun b o x => Heap.get?_push_of_some _ (Heap.get?_push_of_some _ x)⟩
end
end Mine

-- B22
namespace Mine
open PySem PySem.W PySem.Calls PyProof.Rows
set_option Elab.async false
set_option maxRecDepth 100000
section
variable {prog : Program} {w : World} {A : Around} {s : Shared} {env : Env} {h₀ : Heap}
/-- what a for-loop with a pair target wants of its iterator -/
inductive LoopT (prog : Program) (w : World) (A : Around) (h₀ : Heap) (env : Env) (x1 x2 : Str) (body : List Stmt) (Q : Flow → Shared → Prop) (it : Value) (s₂ : Shared) : Prop
  | mk (I : Addr) (fp wr : List Addr) (n : Nat) (Pt : Nat → Array Value → Prop) (St : Nat → Heap → Prop) (Mid : Nat → Addr → Heap → Prop) (m : Str → Option Value) (news : List (Addr × Obj)) (J : Nat → (Str → Option Value) → List (Addr × Obj) → Prop) (q0 : it = .ref I) (q1 : A.handled = none) (q2 : WalksU prog w A I fp wr n Pt St Mid) (q3 : env.locals ∉ fp) (q4 : (∀ b ∈ wr, h₀.get? b = none)) (q5 : (∀ p ∈ news, p.1 ∉ wr)) (q6 : St 0 s₂.heap) (q7 : Fr h₀ env.locals s₂.heap m) (q8 : News h₀ env.locals s₂.heap news) (q9 : (∀ i vals, Pt i vals → ∃ x y, vals = #[x, y])) (q10 : J 0 m news) (q11 : (∀ i x y m₁ news₁ s₁ own, i < n → Pt i #[x, y] → J i m₁ news₁ → (∀ p ∈ news₁, p.1 ∉ wr) → s₁ = { s₂ with heap := s₁.heap, toks := s₁.toks } → Fr h₀ env.locals s₁.heap (fun z => if z = x2 then some y else if z = x1 then some x else m₁ z) → News h₀ env.locals s₁.heap (own ++ news₁) → wpAny (model prog w) A (execs body env) (TurnJ h₀ env.locals wr own (J (i + 1)) Q s₁) (fun _ _ => False) s₁)) (q12 : ∀ h' tk m' news', Fr h₀ env.locals h' m' → News h₀ env.locals h' news' → (∀ p ∈ news', p.1 ∉ wr) → J n m' news' → Q .next { s₂ with heap := h', toks := tk }) : LoopT prog w A h₀ env x1 x2 body Q it s₂
theorem codeT {R : Result → Shared → Prop} {x1 x2 : Str} {p1 p2 pt : Pos} {kk : Nat} {body : List Stmt} {Q : Flow → Shared → Prop} {it : Value} (hx1 : env.kindOf x1 = some .local) (hx2 : env.kindOf x2 = some .local) (hp : (env.scope.kind == .class || (env.scope.kind == .module && env.locals != env.globals)) = false)
    (h : LoopT prog w A h₀ env x1 x2 body Q it s) (hQR : ∀ f s', Q f s' → R (.ok f) s') :
    codeAny (model prog w) A (.forLoop (.Tuple [.Name x1 p1, .Name x2 p2] kk pt) it body [] env) R s := by
  obtain ⟨I, fp, wr, n, Pt, St, Mid, m, news, J, rfl, hh, W, hLf, hwr, hnw, hst, F, N, hPt, h0, step, hR⟩ := h
  have hLw : env.locals ∉ wr := fun h => hLf (W.sub _ h)
  have old : ∀ b o, h₀.get? b = some o → b ∉ wr := fun b o e hb => by rw [hwr b hb] at e; cases e
  have nev : ∀ {α : Type} {t : Sem α} {Q' : α → Shared → Prop} {s' : Shared}, wpAny (model prog w) A t Q' (fun _ _ => False) s' → wpAny (model prog w) A t Q' (notedBy (model prog w) A env fun e s' => R (.error e) s') s' :=
    fun h => wpAny_noRaise h
  refine codeAny_forLoop_any
    (InvJ s h₀ env.locals wr St J n) ?_ (n + 1)
    ⟨s.heap, s.toks, m, news, 0, rfl, hst, F, N, hnw, h0, Nat.zero_le _, rfl⟩
  rintro k s' ⟨h', tk, m', news', i, rfl, hst', F', N', hnw', hJ, hi, rfl⟩
  have next : ∀ h₁ : Heap, (∀ b o, b ∉ wr → h'.get? b = some o → h₁.get? b = some o) → Fr h₀ env.locals h₁ m' ∧ News h₀ env.locals h₁ news' := fun h₁ hk₁ =>
    ⟨⟨F'.ns.at' fun o e => hk₁ _ o hLw e, fun b o e => hk₁ b o (old b o e) (F'.keep b o e), F'.above⟩, fun p hp => ⟨hk₁ _ _ (hnw' p hp) (N' p hp).1, (N' p hp).2⟩⟩
  by_cases hlt : i < n
  · refine W.item i _ _ _ hlt hst' fun T vals h₁ tk₁ hP hT hM hk₁ => ?_
    obtain ⟨x, y, rfl⟩ := hPt i vals hP
    have hTw : T ∉ wr := W.apart i T _ hM
    refine W.go _ _ _ i T _ _ _ hM fun h₂ hst₂ hk₂ => ?_
    have hT₂ : h₂.IsTuple T #[x, y] := let ⟨o, ho, r⟩ := hT; ⟨o, hk₂ T o hTw ho, r⟩
    obtain ⟨F₂, N₂⟩ := next h₂ fun b o hb e => hk₂ b o hb (hk₁ b o hb e)
    refine nev (assignPair hh hT₂ F₂.ns hx1 hx2 hp fun h₃ tk₃ hn₃ hk₃ => ?_)
    have hL0 : h₀.get? env.locals = none := by
      cases hq : h₀.get? env.locals with
      | none => rfl
      | some o => exact absurd (Heap.lt_size hq) (Nat.not_lt.mpr F'.above)
    have F₃ : Fr h₀ env.locals h₃ (fun z => if z = x2 then some y else if z = x1 then some x else m' z) :=
      ⟨hn₃, fun b o e => hk₃ b o (fun q => by rw [q, hL0] at e; cases e) (F₂.keep b o e), F'.above⟩
    have N₃ : News h₀ env.locals h₃ news' := fun p hp => ⟨hk₃ _ _ (N' p hp).2.1 (N₂ p hp).1, (N' p hp).2⟩
    have hst₃ : St (i + 1) h₃ := W.frame _ _ _ hst₂ fun b hb o e => hk₃ b o (fun q => hLf (q ▸ hb)) e
    have Nown : News h₀ env.locals h₃ (ownOf h₀ fp h₃) := news_ownOf hLf
    refine nev (wpAny_mono (step i x y m' news' { s with heap := h₃, toks := tk₃ } (ownOf h₀ fp h₃) hlt hP hJ hnw' rfl F₃ (Nown.append N₃)) (fun f s₃ h₃' => ?_) fun _ _ e => e)
    have on : TurnN h₀ env.locals wr (ownOf h₀ fp h₃) (J (i + 1)) { s with heap := h₃, toks := tk₃ } s₃ → ∃ k, k < n + 1 - i ∧ InvJ s h₀ env.locals wr St J n k s₃ := by
      rintro ⟨h₄, tk₄, m₂, news₂, rfl, F₄, N₄, ha₄, hJ₄⟩
      refine ⟨n + 1 - (i + 1), by omega, h₄, tk₄, m₂, news₂, i + 1, rfl, ?_, F₄, N₄.right, ha₄, hJ₄, hlt, rfl⟩
      refine W.frame _ _ _ hst₃ fun b hb o e => ?_
      cases hn : h₀.get? b with
      | some o₀ =>
        have : o₀ = o := by have := F₃.keep b o₀ hn; rw [e] at this; exact (Option.some.inj this).symm
        exact this ▸ F₄.keep b o₀ hn
      | none => exact (N₄ _ (List.mem_append_left _ (mem_ownOf hb hn e))).1
    cases f with
    | next => exact on h₃'
    | cont => exact on h₃'
    | brk => exact hQR _ _ h₃'
    | ret v => exact hQR _ _ h₃'
  · have hin : i = n := by omega
    subst hin
    refine W.done _ _ _ hst' fun h₁ tk₁ hk₁ => wpAny_execs_nil ?_
    obtain ⟨F₁, N₁⟩ := next h₁ hk₁
    exact hQR _ _ (hR h₁ tk₁ m' news' F₁ N₁ hnw' hJ)
theorem forT {Q : Flow → Shared → Prop} {x1 x2 : Str} {p1 p2 pt : Pos} {kk : Nat} {iter : PySem.Expr} {pos : Pos} {body : List Stmt} (h₀ : Heap) (hx1 : env.kindOf x1 = some .local) (hx2 : env.kindOf x2 = some .local) (hp : (env.scope.kind == .class || (env.scope.kind == .module && env.locals != env.globals)) = false)
    (h : wpAny (model prog w) A (eval iter env) (fun xv s₁ => wpAny (model prog w) A (pyIter xv) (fun it s₂ => LoopT prog w A h₀ env x1 x2 body Q it s₂) (fun _ _ => False) s₁) (fun _ _ => False) s)
    (hs : ∀ x, foldedSetIterable iter env x = pure x) :
    wpAny (model prog w) A (exec (.For (.Tuple [.Name x1 p1, .Name x2 p2] kk pt) iter body [] pos) env) Q (fun _ _ => False) s := by
  refine wpAny_For (wpAny_mono h (fun xv s₁ h₁ => wpAny_mono h₁ (fun it s₂ h₂ => ?_) fun _ _ e => e) fun _ _ e => e) hs
  exact codeT hx1 hx2 hp h₂ fun _ _ q => q
end
end Mine

-- B23
namespace Mine
open PySem PySem.W PySem.Calls PyProof.Rows
set_option Elab.async false
set_option maxRecDepth 100000
/-- the sum of a list of ints, wherever the list lies -/
theorem sumL {prog : Program} {w : World} {A : Around} {E : Value → Shared → Prop} {s : Shared} {l : Addr} {items : Array Value} {ns : List Int} {Q : Value → Shared → Prop} (hh : A.handled = none) (hl : s.heap.IsList l items) (hi : IntsAre items.toList ns)
    (h : ∀ h' tk t', Ext s.heap h' → Q (.int ns.sum t') { s with heap := h', toks := tk }) :
    wpAny (model prog w) A (call (.builtin "sum") [.ref l]) Q E s := by
  have ha : AllInts items := by simpa using hi.allInts
  have hn : numsOf items.toList = ns := hi.numsOf
  obtain ⟨xs, rfl⟩ := ha.items
  rw [nums_intItems] at hn
  refine sum_intListG hh hl fun h' tk t' hk => ?_
  have := h h' tk t' hk
  rw [← hn] at this
  rw [preSum_eq, List.take_of_length_le (by simp)]; exact this
end Mine

-- PG
namespace Mine
open PySem PySem.W PySem.Calls PyProof.Rows
set_option Elab.async false
set_option maxRecDepth 100000
theorem wcode_pos (h c : Nat) : 1 ≤ (wcode h c).length := by unfold wcode; split <;> simp
theorem flat_len (h : Nat) : ∀ l : List Nat, l.length ≤ (l.flatMap (wcode h)).length ∧ (l.flatMap (wcode h)).length ≤ 6 * l.length
  | [] => ⟨Nat.le_refl _, Nat.le_refl _⟩
  | c :: r => by
    have ih := flat_len h r
    have h1 := wcode_pos h c
    have h2 := wcode_len h c
    rw [List.flatMap_cons, List.length_append, List.length_cons]
    omega
theorem page_len (f : Nat) : 4 ≤ (pageF f).length ∧ (pageF f).length ≤ 402 := by
  have h1 := flat_len (handF f) (leftF f)
  have h2 := leftF_length f
  have h3 : 4 ≤ (leftF f).length := by unfold leftF; rw [List.length_append]; simp
  unfold pageF; omega
theorem leaf_len (f : Nat) : 31 ≤ (leafF f).length ∧ (leafF f).length ≤ 186 := by
  have h1 := flat_len (handF f) (lessF f)
  have h2 := lessF_length f
  unfold leafF; omega
end Mine

-- Q1
namespace Mine
open PySem PySem.W PySem.Calls PyProof.Rows
open PySem.Builtin PySem.Builtin.Str
set_option Elab.async false
set_option maxRecDepth 100000
/-- parts with three dots between -/
noncomputable def joinD : List (List Nat) → List Nat
  | [] => []
  | [w] => w
  | w :: v :: r => w ++ ([46, 46, 46] ++ joinD (v :: r))
theorem at_dots (x : List Nat) (k : Nat) : StrLaws.At (ofL x) (ofL [46, 46, 46]) (ofL x).length k ↔ (k + 3 ≤ x.length ∧ (x.drop k).take 3 = [46, 46, 46]) := by
  rw [ofL_length, at_ofL]
  unfold occB
  simp
theorem at_dot1 {x : List Nat} {k : Nat} (h : StrLaws.At (ofL x) (ofL [46, 46, 46]) (ofL x).length k) : x[k]? = some 46 := by
  have h2 := ((at_dots x k).mp h).2
  have := congrArg (fun l => l[0]?) h2
  simpa [List.getElem?_take, List.getElem?_drop] using this
theorem at_dots_of {x w r : List Nat} {a : Nat} (e : x.drop a = w ++ ([46, 46, 46] ++ r)) : StrLaws.At (ofL x) (ofL [46, 46, 46]) (ofL x).length (a + w.length) := by
  have hl := congrArg List.length e
  simp only [List.length_drop, List.length_append, List.length_cons, List.length_nil] at hl
  refine (at_dots x _).mpr ⟨by omega, ?_⟩
  rw [← List.drop_drop, e, List.drop_left]
  rfl
theorem strSub_ofL (x : List Nat) (i j : Nat) : strSub (ofL x) i j = ofL ((x.drop i).take (j - i)) := by
  rw [← ofL_of (strSub (ofL x) i j), StrLaws.strSub_toList, toList_ofL]
theorem parts_dots (x : List Nat) : ∀ (ws : List (List Nat)) (a : Nat) (cuts : List Nat) (f : Nat), ws ≠ [] → (∀ w ∈ ws, 46 ∉ w) → x.drop a = joinD ws →
    StrLaws.ChainG (ofL x) (ofL [46, 46, 46]) (ofL x).length a cuts f → (∀ k, f ≤ k → ¬ StrLaws.At (ofL x) (ofL [46, 46, 46]) (ofL x).length k) → StrLaws.partsFrom (ofL x) 3 a cuts = ws.map ofL
  | [], _, _, _, h0, _, _, _, _ => absurd rfl h0
  | [w], a, cuts, f, _, hw, e, hG, hn => by
    have e' : x.drop a = w := e
    have free : ∀ k, a ≤ k → ¬ StrLaws.At (ofL x) (ofL [46, 46, 46]) (ofL x).length k := by
      intro k hk hA
      have h1 := at_dot1 hA
      have h2 : (x.drop a)[k - a]? = some 46 := by rw [List.getElem?_drop, Nat.add_sub_cancel' hk]; exact h1
      rw [e'] at h2
      exact hw w (List.mem_singleton.mpr rfl) (List.mem_of_getElem? h2)
    cases cuts with
    | nil =>
      show [strSub (ofL x) a (ofL x).length] = [ofL w]
      rw [strSub_ofL, e', ofL_length]
      have : w.length = x.length - a := by rw [← e', List.length_drop]
      rw [← this, List.take_length]
    | cons c r => exact absurd hG.2.1 (free c hG.1)
  | w :: v :: r, a, cuts, f, _, hw, e, hG, hn => by
    have e' : x.drop a = w ++ ([46, 46, 46] ++ joinD (v :: r)) := e
    have hA := at_dots_of e'
    have free : ∀ k, a ≤ k → k < a + w.length → ¬ StrLaws.At (ofL x) (ofL [46, 46, 46]) (ofL x).length k := by
      intro k hk hk2 hA
      have h1 := at_dot1 hA
      have h2 : (x.drop a)[k - a]? = some 46 := by rw [List.getElem?_drop, Nat.add_sub_cancel' hk]; exact h1
      rw [e', List.getElem?_append_left (by omega)] at h2
      exact hw w (List.mem_cons_self ..) (List.mem_of_getElem? h2)
    cases cuts with
    | nil =>
      have hf : f = a := hG
      exact absurd hA (hn _ (by omega))
    | cons c cr =>
      obtain ⟨h1, h2, h3, h4⟩ := hG
      have hc : c = a + w.length := by
        rcases Nat.lt_trichotomy c (a + w.length) with h | h | h
        · exact absurd h2 (free c h1 h)
        · exact h
        · exact absurd hA (h3 _ (Nat.le_add_right _ _) h)
      subst hc
      have h5 : x.drop (a + w.length + 3) = joinD (v :: r) := by
        rw [← List.drop_drop, ← List.drop_drop, e', List.drop_left]
        rfl
      have ih := parts_dots x (v :: r) (a + w.length + 3) cr f (List.cons_ne_nil _ _) (fun y hy => hw y (List.mem_cons_of_mem _ hy)) h5 h4 hn
      show strSub (ofL x) a (a + w.length) :: StrLaws.partsFrom (ofL x) 3 (a + w.length + 3) cr = ofL w :: (v :: r).map ofL
      rw [ih, strSub_ofL, e', Nat.add_sub_cancel_left, List.take_left]
theorem kind_dots : Builtin.Str.strKind (ofL [46, 46, 46]) = 1 := by decide +kernel
theorem kind_pos (x : Str) : 1 ≤ Builtin.Str.strKind x := by unfold Builtin.Str.strKind; split <;> (try split) <;> omega
theorem head_dots {w v : List Nat} {r : List (List Nat)} {x : List Nat} (e : x = joinD (w :: v :: r)) : StrLaws.At (ofL x) (ofL [46, 46, 46]) (ofL x).length w.length := by
  have := at_dots_of (x := x) (w := w) (r := joinD (v :: r)) (a := 0) (by rw [List.drop_zero]; exact e)
  rwa [Nat.zero_add] at this
theorem split_dots (w v : List Nat) (r : List (List Nat)) (hw : ∀ y ∈ w :: v :: r, 46 ∉ y) : Txt.split (ofL (joinD (w :: v :: r))) (ofL [46, 46, 46]) = (w :: v :: r).map ofL := by
  obtain ⟨f, hG, hn⟩ := StrLaws.occ_tight (ofL (joinD (w :: v :: r))) (ofL [46, 46, 46]) (by decide)
  have hA := head_dots (x := joinD (w :: v :: r)) rfl
  have hlen : w.length + 3 ≤ (joinD (w :: v :: r)).length := ((at_dots _ _).mp hA).1
  unfold Txt.split
  rw [if_neg]
  · rw [if_neg]
    · rw [StrLaws.partsBetween_eq]
      exact parts_dots _ (w :: v :: r) 0 _ f (List.cons_ne_nil _ _) hw (List.drop_zero ..) hG hn
    · intro he
      have e0 := List.isEmpty_iff.mp he
      rw [e0] at hG
      have hf : f = 0 := hG
      exact hn _ (by omega) hA
  · have h1 : ¬ (ofL (joinD (w :: v :: r))).length < (ofL [46, 46, 46]).length := by rw [ofL_length, ofL_length]; simp only [List.length_cons, List.length_nil]; omega
    have h2 : ¬ Builtin.Str.strKind (ofL (joinD (w :: v :: r))) < Builtin.Str.strKind (ofL [46, 46, 46]) := by rw [kind_dots]; have := kind_pos (ofL (joinD (w :: v :: r))); omega
    simp [h1, h2]
theorem in_dots (w v : List Nat) (r : List (List Nat)) : (occurrences (ofL (joinD (w :: v :: r))) (ofL [46, 46, 46]) 0 (ofL (joinD (w :: v :: r))).length 1).isEmpty = false := by
  rcases StrLaws.occ_head (ofL (joinD (w :: v :: r))) (ofL [46, 46, 46]) 1 (Nat.le_refl _) with ⟨_, hn⟩ | ⟨i, q, h0, _, _⟩
  · exact absurd (head_dots rfl) (hn _)
  · rw [h0]; rfl
theorem no_dots (x : List Nat) (h : 46 ∉ x) : (occurrences (ofL x) (ofL [46, 46, 46]) 0 (ofL x).length 1).isEmpty = true := by
  rcases StrLaws.occ_head (ofL x) (ofL [46, 46, 46]) 1 (Nat.le_refl _) with ⟨h0, _⟩ | ⟨i, q, h0, hA, _⟩
  · rw [h0]; rfl
  · exact absurd (List.mem_of_getElem? (at_dot1 hA)) h
end Mine

-- Q2
namespace Mine
open PySem PySem.W PySem.Calls PyProof.Rows
set_option Elab.async false
set_option maxRecDepth 100000
/-- w stands in g at i -/
noncomputable def Oc (g w : List Nat) (i : Nat) : Prop := i + w.length ≤ g.length ∧ (g.drop i).take w.length = w
theorem occB_iff {g w : List Nat} {b i : Nat} (hb : b ≤ g.length) : occB g w b i = true ↔ i + w.length ≤ b ∧ Oc g w i := by
  unfold occB Oc
  simp only [Bool.and_eq_true, decide_eq_true_eq]
  constructor
  · rintro ⟨h1, h2⟩; exact ⟨h1, by omega, h2⟩
  · rintro ⟨h1, _, h2⟩; exact ⟨h1, h2⟩
theorem find_some {g w : List Nat} {a b i : Nat} (hb : b ≤ g.length) (h : findFrom g w a b = some i) : a ≤ i ∧ i + w.length ≤ b ∧ Oc g w i ∧ ∀ k, a ≤ k → k < i → ¬ Oc g w k := by
  unfold findFrom at h
  have h1 := (occB_iff hb).mp (List.find?_some h)
  have h2 := List.mem_range'_1.mp (List.mem_of_find?_eq_some h)
  refine ⟨h2.1, h1.1, h1.2, fun k hk1 hk2 hO => ?_⟩
  rw [List.find?_eq_some_iff_append] at h
  obtain ⟨_, as, bs, e, hn⟩ := h
  have hk := (StrLaws.range'_split_from e).2 k hk1 hk2
  have := hn k hk
  simp only [Bool.not_eq_true'] at this
  have h3 : occB g w b k = true := (occB_iff hb).mpr ⟨by omega, hO⟩
  rw [h3] at this; cases this
theorem find_none {g w : List Nat} {a b : Nat} (hb : b ≤ g.length) (h : findFrom g w a b = none) : ∀ k, a ≤ k → k + w.length ≤ b → ¬ Oc g w k := by
  unfold findFrom at h
  rw [List.find?_eq_none] at h
  intro k h1 h2 hO
  exact h k (List.mem_range'_1.mpr ⟨h1, by omega⟩) ((occB_iff hb).mpr ⟨h2, hO⟩)
theorem find_isSome {g w : List Nat} {a b : Nat} (hb : b ≤ g.length) : (findFrom g w a b).isSome = true ↔ ∃ k, a ≤ k ∧ k + w.length ≤ b ∧ Oc g w k := by
  cases h : findFrom g w a b with
  | none =>
    have := find_none hb h
    simp only [Option.isSome_none, Bool.false_eq_true, false_iff]
    rintro ⟨k, h1, h2, h3⟩; exact this k h1 h2 h3
  | some i =>
    have := find_some hb h
    simp only [Option.isSome_some, true_iff]
    exact ⟨i, this.1, this.2.1, this.2.2.1⟩
theorem oc_nil (g : List Nat) {i : Nat} (h : i ≤ g.length) : Oc g [] i := ⟨h, by simp⟩
theorem find_nil {g : List Nat} {a b : Nat} (hab : a ≤ b) (hb : b ≤ g.length) : findFrom g [] a b = some a := by
  cases h : findFrom g [] a b with
  | none => exact absurd (oc_nil g (by omega)) (find_none hb h a (Nat.le_refl _) hab)
  | some i =>
    have := find_some hb h
    rcases Nat.lt_or_ge a i with h1 | h1
    · exact absurd (oc_nil g (by omega)) (this.2.2.2 a (Nat.le_refl _) h1)
    · congr 1; omega
theorem rest_nil {g : List Nat} {a b : Nat} (r : List (List Nat)) (hab : a ≤ b) (hb : b ≤ g.length) : ellRest g ([] :: r) a b = ellRest g r a b := by
  conv => lhs; unfold ellRest
  rw [find_nil hab hb]; rfl
theorem rest_one {g c : List Nat} {a b : Nat} (hb : b ≤ g.length) : ellRest g [c, []] a b = (findFrom g c a b).isSome := by
  unfold ellRest
  cases h : findFrom g c a b with
  | none => rfl
  | some i =>
    have := find_some hb h
    simp only [Option.isSome_some]
    rw [rest_nil [] this.2.1 hb]; rfl
theorem rest_last {g c : List Nat} {a b : Nat} : ellRest g [c] a b = (findFrom g c a b).isSome := by
  unfold ellRest
  cases h : findFrom g c a b with
  | none => rfl
  | some i => rfl
theorem w_one (g c : List Nat) : ellW [[], c, []] g = (findFrom g c 0 g.length).isSome := by
  show (if g.length < 0 then false else ellRest g [[], c, []] 0 g.length) = _
  rw [if_neg (Nat.not_lt_zero _), rest_nil _ (Nat.zero_le _) (Nat.le_refl _), rest_one (Nat.le_refl _)]
theorem w_two (g c : List Nat) : ellW [[], c, c, []] g = match findFrom g c 0 g.length with | none => false | some i => (findFrom g c (i + c.length) g.length).isSome := by
  show (if g.length < 0 then false else ellRest g [[], c, c, []] 0 g.length) = _
  rw [if_neg (Nat.not_lt_zero _), rest_nil _ (Nat.zero_le _) (Nat.le_refl _)]
  conv => lhs; unfold ellRest
  cases h : findFrom g c 0 g.length with
  | none => rfl
  | some i => exact rest_one (Nat.le_refl _)
theorem oc_pre {g c : List Nat} : occB g c g.length 0 = true ↔ Oc g c 0 := by
  rw [occB_iff (Nat.le_refl _)]
  constructor
  · exact fun h => h.2
  · exact fun h => ⟨h.1, h⟩

/-- the last place, as rfind tells it -/
noncomputable def lastI (g w : List Nat) : Int := Txt.rfind (ofL g) (ofL w)
noncomputable def firstI (g w : List Nat) : Int := findI (findFrom g w 0 g.length)
theorem at_oc (g w : List Nat) (i : Nat) : StrLaws.At (ofL g) (ofL w) (ofL g).length i ↔ Oc g w i := by
  rw [ofL_length, at_ofL, occB_iff (Nat.le_refl _)]
  exact ⟨fun h => h.2, fun h => ⟨h.1, h⟩⟩
theorem last_of {g w : List Nat} {p : Nat} (h : Oc g w p) : ∃ j : Nat, lastI g w = (j : Int) ∧ Oc g w j ∧ ∀ k, j < k → ¬ Oc g w k := by
  rcases rfind_whole (ofL g) (ofL w) with ⟨_, hn⟩ | ⟨j, h1, h2, h3⟩
  · exact absurd ((at_oc g w p).mpr h) (hn p)
  · exact ⟨j, h1, (at_oc g w j).mp h2, fun k hk hO => h3 k hk ((at_oc g w k).mpr hO)⟩
theorem first_of {g w : List Nat} {p : Nat} (h : Oc g w p) : ∃ i : Nat, findFrom g w 0 g.length = some i ∧ firstI g w = (i : Int) ∧ Oc g w i ∧ ∀ k, k < i → ¬ Oc g w k := by
  cases e : findFrom g w 0 g.length with
  | none => exact absurd h (find_none (Nat.le_refl _) e p (Nat.zero_le _) h.1)
  | some i =>
    have := find_some (Nat.le_refl _) e
    exact ⟨i, rfl, by unfold firstI; rw [e]; rfl, this.2.2.1, fun k hk => this.2.2.2 k (Nat.zero_le _) hk⟩
section
variable {P : List Nat} {pl bh : Nat}
noncomputable def cutF (P : List Nat) (pl bh : Nat) : List Nat := (P.take bh).drop pl
theorem cut_len : (cutF P pl bh).length = min bh P.length - pl := by unfold cutF; rw [List.length_drop, List.length_take]
theorem cut_ne (h1 : pl < P.length) (h2 : pl < bh) : cutF P pl bh ≠ [] := by
  intro e
  have := congrArg List.length e
  rw [cut_len] at this
  simp only [List.length_nil] at this
  omega
theorem cut_oc (h1 : pl < P.length) (h2 : pl < bh) : Oc P (cutF P pl bh) pl := by
  have e : cutF P pl bh = (P.drop pl).take (bh - pl) := by unfold cutF; rw [List.drop_take]
  have hl : (cutF P pl bh).length ≤ P.length - pl := by rw [e]; exact Nat.le_trans (List.length_take_le' ..) (by rw [List.length_drop]; exact Nat.le_refl _)
  refine ⟨Nat.le_trans (Nat.add_le_add_left hl pl) (Nat.le_of_eq (Nat.add_sub_cancel' (Nat.le_of_lt h1))), ?_⟩
  conv => lhs; rw [e]
  conv => rhs; rw [e]
  rw [List.length_take, ← List.take_take, List.take_length]
theorem bool_of {b : Bool} {p : Prop} [Decidable p] (h : b = true ↔ p) : b = decide p := by
  by_cases hp : p
  · rw [h.mpr hp]; simp [hp]
  · have : b ≠ true := fun e => hp (h.mp e)
    simp only [Bool.not_eq_true] at this
    rw [this]; simp [hp]
theorem due2 (h1 : pl < P.length) (h2 : pl < bh) : ellW [[], cutF P pl bh, cutF P pl bh, []] P = decide (((cutF P pl bh).length : Int) ≤ lastI P (cutF P pl bh) - firstI P (cutF P pl bh)) := by
  have hO := cut_oc h1 h2
  generalize cutF P pl bh = c at hO ⊢
  obtain ⟨i, ei, e1, hi, ni⟩ := first_of hO
  obtain ⟨j, e2, hj, nj⟩ := last_of hO
  rw [w_two, ei]
  simp only
  refine bool_of ?_
  rw [find_isSome (Nat.le_refl _), e1, e2]
  constructor
  · rintro ⟨k, hk1, hk2, hk3⟩
    have : ¬ j < k := fun h => nj k h hk3
    omega
  · intro h
    exact ⟨j, by omega, hj.1, hj⟩
theorem due3 (h1 : pl < P.length) (h2 : pl < bh) : ellW [cutF P pl bh, []] P = decide (firstI P (cutF P pl bh) = 0) := by
  have hO := cut_oc h1 h2
  have hne := cut_ne h1 h2
  generalize cutF P pl bh = c at hO hne ⊢
  obtain ⟨i, ei, e1, hi, ni⟩ := first_of hO
  refine bool_of ?_
  have e : ellW [c, []] P = if occB P c P.length 0 = true then (if P.length < c.length then false else ellRest P [[]] c.length P.length) else false := by
    show (if c = [] then _ else if occB P c P.length 0 = true then _ else false) = _
    rw [if_neg hne]; rfl
  rw [e, e1]
  by_cases h0 : occB P c P.length 0 = true
  · have hz := (occB_iff (Nat.le_refl _)).mp h0
    rw [if_pos h0, if_neg (by omega), rest_nil [] (by omega) (Nat.le_refl _)]
    have : ¬ 0 < i := fun h => ni 0 h hz.2
    simp only [ellRest, true_iff]; omega
  · rw [if_neg h0]
    simp only [Bool.false_eq_true, false_iff]
    intro hi0
    have : i = 0 := by omega
    subst this
    exact h0 ((occB_iff (Nat.le_refl _)).mpr ⟨hi.1, hi⟩)
theorem due4 (h1 : pl < P.length) (h2 : pl < bh) : ellW [[], cutF P pl bh] P = decide (lastI P (cutF P pl bh) + ((cutF P pl bh).length : Int) = (P.length : Int)) := by
  have hO := cut_oc h1 h2
  have hne := cut_ne h1 h2
  generalize cutF P pl bh = c at hO hne ⊢
  obtain ⟨j, e2, hj, nj⟩ := last_of hO
  refine bool_of ?_
  have e : ellW [[], c] P = if (decide (c.length ≤ P.length) && occB P c P.length (P.length - c.length)) = true then (if P.length - c.length < 0 then false else ellRest P [[]] 0 (P.length - c.length)) else false := by
    show (if c = [] then _ else if (decide (c.length ≤ P.length) && occB P c P.length (P.length - c.length)) = true then _ else false) = _
    rw [if_neg hne]; rfl
  rw [e, e2]
  by_cases h0 : (decide (c.length ≤ P.length) && occB P c P.length (P.length - c.length)) = true
  · rw [if_pos h0, if_neg (Nat.not_lt_zero _), rest_nil [] (by omega) (by omega)]
    rw [Bool.and_eq_true, decide_eq_true_iff] at h0
    have hz := (occB_iff (Nat.le_refl _)).mp h0.2
    have : ¬ j < P.length - c.length := fun h => nj _ h hz.2
    have := hj.1
    simp only [ellRest, true_iff]; omega
  · rw [if_neg h0]
    simp only [Bool.false_eq_true, false_iff]
    intro hj0
    have : j = P.length - c.length := by omega
    subst this
    apply h0
    rw [Bool.and_eq_true, decide_eq_true_iff]
    exact ⟨by omega, (occB_iff (Nat.le_refl _)).mpr ⟨hj.1, hj⟩⟩
theorem suf_drop {P : List Nat} {k : Nat} (hk : k ≤ P.length) : (decide ((P.drop k).length ≤ P.length) && occB P (P.drop k) P.length (P.length - (P.drop k).length)) = true ∧ P.length - (P.drop k).length = k := by
  have hl : (P.drop k).length = P.length - k := List.length_drop
  have e : P.length - (P.drop k).length = k := by omega
  refine ⟨?_, e⟩
  rw [e, Bool.and_eq_true, decide_eq_true_iff, occB_iff (Nat.le_refl _)]
  refine ⟨by omega, by omega, by omega, ?_⟩
  rw [List.take_length]
theorem pre_take {P : List Nat} (k : Nat) : occB P (P.take k) P.length 0 = true := by
  rw [occB_iff (Nat.le_refl _)]
  have hl : (P.take k).length = min k P.length := List.length_take
  refine ⟨by omega, by omega, ?_⟩
  rw [List.drop_zero, hl, List.take_eq_take_iff]
  omega
theorem drop_ne (h1 : pl < P.length) : P.drop pl ≠ [] := by
  intro e
  have := congrArg List.length e
  rw [List.length_drop] at this
  simp only [List.length_nil] at this
  omega
theorem take_ne (h1 : pl < P.length) (h2 : pl < bh) : P.take bh ≠ [] := by
  intro e
  have := congrArg List.length e
  rw [List.length_take] at this
  simp only [List.length_nil] at this
  omega
theorem due5 (h1 : pl < P.length) (h2 : pl < bh) : ellW [[], cutF P pl bh, P.drop pl] P = decide (firstI P (cutF P pl bh) + ((cutF P pl bh).length : Int) ≤ (pl : Int)) := by
  have hO := cut_oc h1 h2
  have hd := drop_ne (P := P) h1
  generalize cutF P pl bh = c at hO ⊢
  obtain ⟨i, ei, e1, hi, ni⟩ := first_of hO
  obtain ⟨hs1, hs2⟩ := suf_drop (P := P) (k := pl) (by omega)
  refine bool_of ?_
  have e : ellW [[], c, P.drop pl] P = ellRest P [[], c] 0 pl := by
    show (if P.drop pl = [] then _ else if (decide ((P.drop pl).length ≤ P.length) && occB P (P.drop pl) P.length (P.length - (P.drop pl).length)) = true then (if P.length - (P.drop pl).length < 0 then false else ellRest P [[], c] 0 (P.length - (P.drop pl).length)) else false) = _
    rw [if_neg hd, if_pos hs1, if_neg (Nat.not_lt_zero _), hs2]
  rw [e, rest_nil _ (Nat.zero_le _) (by omega), rest_last, find_isSome (by omega), e1]
  constructor
  · rintro ⟨k, _, hk2, hk3⟩
    have : ¬ k < i := fun h => ni k h hk3
    omega
  · intro h
    exact ⟨i, Nat.zero_le _, by omega, hi⟩
theorem due6 (h1 : pl < P.length) (h2 : pl < bh) : ellW [P.take bh, cutF P pl bh, []] P = decide ((bh : Int) ≤ lastI P (cutF P pl bh)) := by
  have hO := cut_oc h1 h2
  have ht := take_ne (P := P) h1 h2
  have hne := cut_ne h1 h2
  generalize cutF P pl bh = c at hO hne ⊢
  obtain ⟨j, e2, hj, nj⟩ := last_of hO
  have hl : (P.take bh).length = min bh P.length := List.length_take
  refine bool_of ?_
  have e : ellW [P.take bh, c, []] P = ellRest P [c, []] (P.take bh).length P.length := by
    show (if P.take bh = [] then _ else if occB P (P.take bh) P.length 0 = true then (if P.length < (P.take bh).length then false else ellRest P [c, []] (P.take bh).length P.length) else false) = _
    rw [if_neg ht, if_pos (pre_take bh), if_neg (by omega)]
  rw [e, rest_one (Nat.le_refl _), find_isSome (Nat.le_refl _), e2, hl]
  have hc : 1 ≤ c.length := by
    cases c with
    | nil => exact absurd rfl hne
    | cons _ _ => simp
  constructor
  · rintro ⟨k, hk1, hk2, hk3⟩
    have : ¬ j < k := fun h => nj k h hk3
    omega
  · intro h
    exact ⟨j, by omega, hj.1, hj⟩
theorem due7 (h1 : pl < P.length) (h2 : pl < bh) : ellW [P.take bh, P.drop pl] P = false := by
  have ht := take_ne (P := P) h1 h2
  have hd := drop_ne (P := P) h1
  obtain ⟨hs1, hs2⟩ := suf_drop (P := P) (k := pl) (by omega)
  have hl : (P.take bh).length = min bh P.length := List.length_take
  show (if P.take bh = [] then _ else if occB P (P.take bh) P.length 0 = true then (if P.drop pl = [] then _ else if (decide ((P.drop pl).length ≤ P.length) && occB P (P.drop pl) P.length (P.length - (P.drop pl).length)) = true then (if P.length - (P.drop pl).length < (P.take bh).length then false else ellRest P [] (P.take bh).length (P.length - (P.drop pl).length)) else false) else false) = _
  rw [if_neg ht, if_pos (pre_take bh), if_neg hd, if_pos hs1, if_pos (by omega)]
theorem end_all {ws : List (List Nat)} {g : List Nat} {a : Nat} {t : List Nat} (hws : ws = [] ∨ ws = [[]]) (ha : a ≤ g.length - t.length) (ht : t = [] ∨ (decide (t.length ≤ g.length) && occB g t g.length (g.length - t.length)) = true) : ellEnd (ws ++ [t]) g a = true := by
  have hl : (ws ++ [t]).length - 1 = ws.length := by simp
  have hg : (ws ++ [t]).getD ((ws ++ [t]).length - 1) [] = t := by rw [hl]; simp
  unfold ellEnd
  rw [hg]
  by_cases h0 : t = []
  · subst h0
    rw [if_pos rfl]
    simp only [List.length_nil, Nat.sub_zero] at ha
    unfold ellGo
    rw [if_neg (by omega)]
    rcases hws with rfl | rfl
    · show ellRest g [[]] a g.length = true
      rw [rest_nil _ ha (Nat.le_refl _)]; rfl
    · show ellRest g [[], []] a g.length = true
      rw [rest_nil _ ha (Nat.le_refl _), rest_nil _ ha (Nat.le_refl _)]; rfl
  · rw [if_neg h0, if_pos (ht.resolve_left h0)]
    unfold ellGo
    rw [if_neg (by omega), hl]
    rcases hws with rfl | rfl
    · rfl
    · show ellRest g [[]] a _ = true
      rw [rest_nil _ ha (by omega)]; rfl
theorem due8 (h1 : pl < P.length) (h2 : pl < bh) : ellW [P.take pl, P.drop bh] P = true := by
  have hl : (P.take pl).length = min pl P.length := List.length_take
  have hl2 : (P.drop bh).length = P.length - bh := List.length_drop
  have ht : P.drop bh = [] ∨ (decide ((P.drop bh).length ≤ P.length) && occB P (P.drop bh) P.length (P.length - (P.drop bh).length)) = true := by
    by_cases hb : bh ≤ P.length
    · exact .inr (suf_drop hb).1
    · exact .inl (List.drop_of_length_le (by omega))
  unfold ellW
  by_cases h0 : P.take pl = []
  · rw [show [P.take pl, P.drop bh].getD 0 [] = P.take pl from rfl, if_pos h0, h0]
    exact end_all (ws := [[]]) (.inr rfl) (by omega) ht
  · rw [show [P.take pl, P.drop bh].getD 0 [] = P.take pl from rfl, if_neg h0, if_pos (pre_take pl)]
    exact end_all (ws := []) (.inl rfl) (by omega) ht
end
end Mine

-- B24
namespace Mine
open PySem PySem.W PySem.Calls PyProof.Rows
set_option Elab.async false
set_option maxRecDepth 100000
/-- the loop's body from its k-th statement on -/
noncomputable def TurnRest (w : World) (A : Around) (L : Addr) (k : Nat) (Qf : Flow → Shared → Prop) (s : Shared) : Prop :=
  ∀ (name qual : Str) (params : Arguments) (body : List Stmt) (scope : Scope) (dV kV doc pm cdv ct oc : Value) (an od : Option Addr) (osl : Array (Option Value)) (tgt it : PySem.Expr) (fb : List Stmt) (pos : Pos),
    (hd.heap_39 w.params).lookup 99 = some ⟨oc, od, .func (fnOf name qual params body scope dV kV doc pm an cdv ct), osl⟩ → body[15]? = some (.For tgt it fb [] pos) →
    wpAny (model Challenge.rw_wa0026_01.row.prog w) (A.deeper (envOfC qual scope L 99 cdv)) (execs (fb.drop k) (envOfC qual scope L 99 cdv)) Qf (fun _ _ => False) s
theorem turnRest_use {w : World} {A : Around} {L : Addr} {k : Nat} {Qf : Flow → Shared → Prop} {s : Shared} (h : TurnRest w A L k Qf s) {name qual : Str} {params : Arguments} {body rest : List Stmt} {scope : Scope} {dV kV doc pm cdv ct oc : Value} {an od : Option Addr} {osl : Array (Option Value)} {tgt it : PySem.Expr} {fb : List Stmt} {pos : Pos}
    (ho : (hd.heap_39 w.params).lookup 99 = some ⟨oc, od, .func (fnOf name qual params body scope dV kV doc pm an cdv ct), osl⟩) (e5 : body[15]? = some (.For tgt it fb [] pos)) (e : fb.drop k = rest) :
    wpAny (model Challenge.rw_wa0026_01.row.prog w) (A.deeper (envOfC qual scope L 99 cdv)) (execs rest (envOfC qual scope L 99 cdv)) Qf (fun _ _ => False) s := e ▸ h _ _ _ _ _ _ _ _ _ _ _ _ _ _ _ _ _ _ _ ho e5
theorem turnRest_mk {w : World} {A : Around} {L : Addr} {k : Nat} {Qf : Flow → Shared → Prop} {s : Shared} {name qual : Str} {params : Arguments} {body rest : List Stmt} {scope : Scope} {dV kV doc pm cdv ct oc : Value} {an od : Option Addr} {osl : Array (Option Value)} {tgt it : PySem.Expr} {fb : List Stmt} {pos : Pos}
    (ho : (hd.heap_39 w.params).lookup 99 = some ⟨oc, od, .func (fnOf name qual params body scope dV kV doc pm an cdv ct), osl⟩) (e5 : body[15]? = some (.For tgt it fb [] pos)) (e : fb.drop k = rest)
    (h : wpAny (model Challenge.rw_wa0026_01.row.prog w) (A.deeper (envOfC qual scope L 99 cdv)) (execs rest (envOfC qual scope L 99 cdv)) Qf (fun _ _ => False) s) : TurnRest w A L k Qf s := by
  intro name' qual' params' body' scope' dV' kV' doc' pm' cdv' ct' oc' an' od' osl' tgt' it' fb' pos' ho' e5'
  have e1 := Option.some.inj (ho.symm.trans ho')
  injection e1 with _ _ e3 _
  injection e3 with e5
  injection e5 with q1 q2 q3 q4 q5 _ _ _ _ _ _ _ q6 _ _
  have q4' := FuncBody.stmts.inj q4
  subst q2 q4' q5 q6
  have q7 := Option.some.inj (Eq.trans (Eq.symm ‹body[15]? = some (.For tgt it fb [] pos)›) e5')
  injection q7 with _ _ q8 _ _
  subst q8
  rw [e]; exact h
/-- what the loop's turns read: all else is free -/
noncomputable def mTurn (ax : Addr) (f : Nat) (t1 t6 t7 t8 : Tok) (mr : Str → Option Value) : Str → Option Value := fun y =>
  if y = "page" then some (.str (ofL (pageF f)) t7) else if y = "leaf" then some (.str (ofL (leafF f)) t8) else if y = "less" then some (.str (ofL (lessF f)) t6) else if y = "hand" then some (.int (handF f) t1) else if y = "script" then some (.ref ax) else mr y
theorem mTurn_of (ax : Addr) (f : Nat) (t1 t6 t7 t8 : Tok) (m : Str → Option Value) (h1 : m "page" = some (.str (ofL (pageF f)) t7)) (h2 : m "leaf" = some (.str (ofL (leafF f)) t8)) (h3 : m "less" = some (.str (ofL (lessF f)) t6)) (h4 : m "hand" = some (.int (handF f) t1)) (h5 : m "script" = some (.ref ax)) :
    m = mTurn ax f t1 t6 t7 t8 m := by
  funext y; simp only [mTurn]
  by_cases e1 : y = "page"
  · subst e1; rw [h1]; rfl
  by_cases e2 : y = "leaf"
  · subst e2; rw [h2]; rfl
  by_cases e3 : y = "less"
  · subst e3; rw [h3]; rfl
  by_cases e4 : y = "hand"
  · subst e4; rw [h4]; rfl
  by_cases e5 : y = "script"
  · subst e5; rw [h5]; rfl
  simp only [e1, e2, e3, e4, e5, if_false]
noncomputable def mStart (ax : Addr) (f : Nat) (t1 t6 t7 t8 : Tok) (mr : Str → Option Value) (i : Nat) (tx : Tok) (st : Int) (ut : Tok) : Str → Option Value := fun y =>
  if y = "start" then some (.int st ut) else if y = "k" then some (.int i tx) else mTurn ax f t1 t6 t7 t8 mr y
noncomputable def mCut (ax : Addr) (f : Nat) (t1 t6 t7 t8 : Tok) (mr : Str → Option Value) (dr pl bh : Nat) (td tp tb tc : Tok) : Str → Option Value := fun y =>
  if y = "cut" then some (.str (ofL (cutF (pageF f) pl bh)) tc) else if y = "behind" then some (.int bh tb) else if y = "place" then some (.int pl tp) else if y = "drawn" then some (.int dr td) else mTurn ax f t1 t6 t7 t8 mr y
theorem mCut_of (ax : Addr) (f : Nat) (t1 t6 t7 t8 : Tok) (mr : Str → Option Value) (dr pl bh : Nat) (td tp tb tc : Tok) (i : Nat) (tx : Tok) (st : Int) (ut : Tok) (c : List Nat) (hc : c = cutF (pageF f) pl bh) (z1 z2 : Int) (h1 : z1 = (bh : Nat)) (h2 : z2 = (pl : Nat)) :
    ∀ y : Str, (if y = "cut" then some (.str (ofL c) tc) else if y = "behind" then some (.int z1 tb) else if y = "place" then some (.int z2 tp) else if y = "drawn" then some (.int (dr : Nat) td) else mStart ax f t1 t6 t7 t8 mr i tx st ut y) = mCut ax f t1 t6 t7 t8 (mStart ax f t1 t6 t7 t8 mr i tx st ut) dr pl bh td tp tb tc y := by
  intro y; subst hc h1 h2
  unfold mCut
  rw [← mTurn_of ax f t1 t6 t7 t8 (mStart ax f t1 t6 t7 t8 mr i tx st ut) rfl rfl rfl rfl rfl]
end Mine

-- F11a
namespace Mine
open PySem PySem.W PySem.Calls PyProof.Rows
set_option Elab.async false
set_option maxRecDepth 100000
set_option maxHeartbeats 4000000
local macro_rules | `(tactic| walk_at "mine none") => `(tactic| skip)
local macro_rules | `(tactic| walk_at "mine none") => `(tactic| skip)
local macro_rules | `(tactic| walk_at "mine none") => `(tactic| skip)
local macro_rules | `(tactic| walk_at "mine none") => `(tactic| skip)
local macro_rules | `(tactic| walk_at "call builtin:len") => `(tactic| refine stopHere ?_)
local macro_rules | `(tactic| walk_at "call builtin:sum") => `(tactic| refine stopHere ?_)
local macro_rules | `(tactic| walk_at "subscriptTail Name Slice str ref") => `(tactic| refine stopHere ?_)
theorem turnA {w : World} {A : Around} {s : Shared} {Qf : Flow → Shared → Prop} {ax L : Addr} {f : Nat} {t1 t6 t7 t8 : Tok} {mr : Str → Option Value} {i : Nat} {tx : Tok} {st : Int} {ut : Tok} {h' : Heap} {tk : Nat} {g : Array GenState} {own : List (Addr × Obj)} {vs : List Value} {ns : List Int} (hL : s.heap.IsList ax vs.toArray) (hI : IntsAre vs ns) (hlen : ns.length ≤ 63) (hs0 : 0 ≤ st) (hs9 : st < 1000000) (G : Gd w s.heap) (hh : A.handled = none)
   (F : Fr s.heap L h' (mStart ax f t1 t6 t7 t8 mr i tx st ut)) (N : News s.heap L h' own)
   (h : ∀ h' tk dr td tp tb tc, dr < 1000000 → Fr s.heap L h' (mCut ax f t1 t6 t7 t8 (mStart ax f t1 t6 t7 t8 mr i tx st ut) dr (dr % (pageF f).length) (dr % (pageF f).length + 1 + dr / (pageF f).length % ((pageF f).length / 2)) td tp tb tc) → News s.heap L h' own → TurnRest w A L 4 Qf { s with heap := h', toks := tk, gens := g }) :
   TurnRest w A L 0 Qf { s with heap := h', toks := tk, gens := g } := by
  obtain ⟨hd0, dp, frs, gds, un⟩ := A
  simp only at hh
  subst hh
  have G0 := G
  obtain ⟨X, mg, mb, T⟩ := G
  revert X
  have hcon : (model Challenge.rw_wa0026_01.row.prog w) = (model Challenge.rw_wa0026_01.row.prog w) := rfl
  revert hcon
  k_fill
  intro _ X
  refine' turnRest_mk ?ho ?e5 ?e ?_
  case ho => k_is
  case e5 => exact rfl
  case e => exact rfl
  simp only [List.drop_zero]
  have hpl := page_len f
  have own0 : News s.heap L h' own := N
  with_reducible refine seqO (fun s' => ∃ h' tk dr td, dr < 1000000 ∧ s' = { s with heap := h', toks := tk, gens := g } ∧ Fr s.heap L h' (fun y => if y = "drawn" then some (.int (dr : Nat) td) else mStart ax f t1 t6 t7 t8 mr i tx st ut y) ∧ News s.heap L h' own) ?_ ?_
  · intro R hNx hRt
    repeat' walk1
    unfold Stopped
    rename_i h5 F5 N5
    have hI5 := IntsAre.pick hI (some (i : Int)) none (some 8)
    refine sumL rfl (News.isList N5 (.head _)) hI5 fun h6 tk6 t6' hx6 => ?_
    have F6 := Fr.grownK F5 hx6
    have N6 : News s.heap L h6 own := News.grown (News.sub N5 fun p hp => .tail _ hp) hx6
    clear F5 N5 F N own0
    generalize (pickNums ns (some (i : Int)) none (some 8)).sum = sm
    obtain ⟨dr, hdr, hdx⟩ := first_nat (st + sm)
    repeat' walk1
    rename_i h7 F7 N7
    have hdx' : (st + sm).fmod (10 ^ Int.toNat 6) = (dr : Int) := hdx
    rw [hdx'] at F7
    exact hNx _ ⟨h7, _, dr, _, hdr, rfl, F7, N7⟩
  clear F N own0
  rintro _ ⟨h', tk, dr, td, hdr, rfl, F, N⟩
  have hpm : (dr : Int).fmod ((pageF f).length : Int) = ((dr % (pageF f).length : Nat) : Int) := by
    rw [Int.fmod_eq_emod_of_nonneg _ (by omega)]; norm_cast
  have hhalf : ((pageF f).length : Int).fdiv 2 = (((pageF f).length / 2 : Nat) : Int) := by
    rw [Int.fdiv_eq_ediv_of_nonneg _ (by decide)]; norm_cast
  have hh0 : ((pageF f).length : Int).fdiv 2 ≠ 0 := by rw [hhalf]; omega
  have hlt : dr % (pageF f).length < (pageF f).length := Nat.mod_lt _ (by omega)
  have hbh : ((dr % (pageF f).length : Nat) : Int) + 1 + ((dr : Int).fdiv ((pageF f).length : Int)).fmod (((pageF f).length : Int).fdiv 2) = ((dr % (pageF f).length + 1 + dr / (pageF f).length % ((pageF f).length / 2) : Nat) : Int) := by
    rw [hhalf, Int.fdiv_eq_ediv_of_nonneg _ (by omega), Int.fmod_eq_emod_of_nonneg _ (by omega)]; norm_cast
  repeat' walk1
  unfold Stopped
  refine lenL (by omega) ?_
  repeat' walk1
  unfold Stopped
  refine lenL (by omega) ?_
  repeat' walk1
  unfold Stopped
  refine lenL (by omega) ?_
  repeat' walk1
  unfold Stopped
  rename_i h7 F7 N7
  refine' slice_strN_ss (hsz := ?hsz) (s := ⟨_, _, _, _, _⟩) F7 N7 fun h8 tq c8 F8 N8 => ?hm
  case hsz => rw [ofL_length, sizeLine_eq]; omega
  case hm =>
    rw [hpm] at F8 ⊢
    rw [hbh] at F8 ⊢
    rw [slice_ss]
    walk1
    (try dsimp only)
    rename_i h9 F9 N9
    replace F9 := Fr.to F9 (mCut_of ax f t1 t6 t7 t8 mr dr _ _ td _ _ _ i tx st ut _ rfl _ _ rfl rfl)
    refine' turnRest_use (h h9 _ dr td _ _ _ hdr F9 N9) ?ho ?e5 ?e
    case ho => k_is
    case e5 => exact rfl
    case e => exact rfl
end Mine

-- F11b
namespace Mine
open PySem PySem.W PySem.Calls PyProof.Rows
set_option Elab.async false
set_option maxRecDepth 100000
set_option maxHeartbeats 4000000
noncomputable def mMost (ax : Addr) (f : Nat) (t1 t6 t7 t8 : Tok) (mr : Str → Option Value) (dr pl bh : Nat) (td tp tb tc tl tm : Tok) : Str → Option Value := fun y =>
  if y = "least" then some (.int (firstI (pageF f) (cutF (pageF f) pl bh)) tl) else if y = "most" then some (.int (lastI (pageF f) (cutF (pageF f) pl bh)) tm) else mCut ax f t1 t6 t7 t8 mr dr pl bh td tp tb tc y
local macro_rules | `(tactic| walk_at "call builtin:str.find") => `(tactic| refine find2 ?_)
theorem turnB {w : World} {A : Around} {s : Shared} {Qf : Flow → Shared → Prop} {ax L : Addr} {f : Nat} {t1 t6 t7 t8 : Tok} {mr : Str → Option Value} {dr pl bh : Nat} {td tp tb tc : Tok} {h' : Heap} {tk : Nat} {g : Array GenState} {own : List (Addr × Obj)} (G : Gd w s.heap) (hh : A.handled = none)
   (F : Fr s.heap L h' (mCut ax f t1 t6 t7 t8 mr dr pl bh td tp tb tc)) (N : News s.heap L h' own)
   (h : ∀ h' tk tl tm, Fr s.heap L h' (mMost ax f t1 t6 t7 t8 mr dr pl bh td tp tb tc tl tm) → News s.heap L h' own → TurnRest w A L 5 Qf { s with heap := h', toks := tk, gens := g }) :
   TurnRest w A L 4 Qf { s with heap := h', toks := tk, gens := g } := by
  obtain ⟨hd0, dp, frs, gds, un⟩ := A
  simp only at hh
  subst hh
  have G0 := G
  obtain ⟨X, mg, mb, T⟩ := G
  revert X
  have hcon : (model Challenge.rw_wa0026_01.row.prog w) = (model Challenge.rw_wa0026_01.row.prog w) := rfl
  revert hcon
  k_fill
  intro _ X
  refine' turnRest_mk ?ho ?e5 ?e ?_
  case ho => k_is
  case e5 => exact rfl
  case e => exact rfl
  simp only [List.drop_succ_cons, List.drop_zero]
  have hpl := page_len f
  with_reducible refine seqO (fun s' => ∃ h' tk tl tm, s' = { s with heap := h', toks := tk, gens := g } ∧ Fr s.heap L h' (mMost ax f t1 t6 t7 t8 mr dr pl bh td tp tb tc tl tm) ∧ News s.heap L h' own) ?_ ?_
  · intro R hNx hRt
    repeat' walk1
    rename_i h7 F7 N7
    exact hNx _ ⟨h7, _, _, _, rfl, F7, News.sub N7 fun p hp => .tail _ hp⟩
  clear F N
  rintro _ ⟨h7, tk7, tl, tm, rfl, F7, N7⟩
  refine' turnRest_use (h h7 _ _ _ F7 N7) ?ho ?e5 ?e
  case ho => k_is
  case e5 => exact rfl
  case e => exact rfl
end Mine

-- Q3
namespace Mine
open PySem PySem.W PySem.Calls PyProof.Rows
set_option Elab.async false
set_option maxRecDepth 100000
/-- what is asked, and what is due -/
noncomputable def AskP (P want : List Nat) (due : Bool) : Prop := ∃ (w v : List Nat) (r : List (List Nat)), want = joinD (w :: v :: r) ∧ r.length ≤ 900 ∧ (∀ x ∈ w :: v :: r, x.length ≤ 10000 ∧ 46 ∉ x) ∧ want.length ≤ 10000 ∧ ellW (w :: v :: r) P = due
section
variable {P : List Nat} {pl bh : Nat}
theorem cut_sub {x : Nat} (h : x ∈ cutF P pl bh) : x ∈ P := List.mem_of_mem_take (List.mem_of_mem_drop h)
theorem ask1 (h1 : pl < P.length) (h2 : pl < bh) (hd : 46 ∉ P) (hP : P.length ≤ 402) (hsq : ∀ c, c ≠ [] → ∀ i, ¬ Oc P (c ++ c) i) : AskP P (46 :: 46 :: 46 :: (cutF P pl bh ++ cutF P pl bh ++ [46, 46, 46])) false := by
  have hl : (cutF P pl bh).length ≤ 402 := by rw [cut_len]; omega
  refine ⟨[], cutF P pl bh ++ cutF P pl bh, [[]], by simp [joinD], by simp, ?_, ?_, ?_⟩
  · intro x hx
    simp only [List.mem_cons, List.not_mem_nil, or_false] at hx
    rcases hx with rfl | rfl | rfl
    · simp
    · refine ⟨by rw [List.length_append]; omega, fun hm => ?_⟩
      rcases List.mem_append.mp hm with hm | hm <;> exact hd (cut_sub hm)
    · simp
  · simp only [List.length_cons, List.length_append, List.length_nil]; omega
  · rw [w_one]
    cases e : (findFrom P (cutF P pl bh ++ cutF P pl bh) 0 P.length).isSome with
    | false => rfl
    | true =>
      obtain ⟨k, _, _, hk⟩ := (find_isSome (Nat.le_refl _)).mp e
      exact absurd hk (hsq _ (cut_ne h1 h2) k)
theorem ask2 (h1 : pl < P.length) (h2 : pl < bh) (hd : 46 ∉ P) (hP : P.length ≤ 402) : AskP P (46 :: 46 :: 46 :: (cutF P pl bh ++ [46, 46, 46] ++ cutF P pl bh ++ [46, 46, 46])) (decide (((cutF P pl bh).length : Int) ≤ lastI P (cutF P pl bh) - firstI P (cutF P pl bh))) := by
  have hl : (cutF P pl bh).length ≤ 402 := by rw [cut_len]; omega
  refine ⟨[], cutF P pl bh, [cutF P pl bh, []], by simp [joinD], by simp, ?_, ?_, due2 h1 h2⟩
  · intro x hx
    simp only [List.mem_cons, List.not_mem_nil, or_false] at hx
    rcases hx with rfl | rfl | rfl | rfl
    · simp
    · exact ⟨by omega, fun hm => hd (cut_sub hm)⟩
    · exact ⟨by omega, fun hm => hd (cut_sub hm)⟩
    · simp
  · simp only [List.length_cons, List.length_append, List.length_nil]; omega
theorem ask3 (h1 : pl < P.length) (h2 : pl < bh) (hd : 46 ∉ P) (hP : P.length ≤ 402) : AskP P (cutF P pl bh ++ [46, 46, 46]) (firstI P (cutF P pl bh) == 0) := by
  have hl : (cutF P pl bh).length ≤ 402 := by rw [cut_len]; omega
  refine ⟨cutF P pl bh, [], [], by simp [joinD], by simp, ?_, ?_, due3 h1 h2⟩
  · intro x hx
    simp only [List.mem_cons, List.not_mem_nil, or_false] at hx
    rcases hx with rfl | rfl
    · exact ⟨by omega, fun hm => hd (cut_sub hm)⟩
    · simp
  · simp only [List.length_cons, List.length_append, List.length_nil]; omega
theorem ask4 (h1 : pl < P.length) (h2 : pl < bh) (hd : 46 ∉ P) (hP : P.length ≤ 402) : AskP P (46 :: 46 :: 46 :: cutF P pl bh) (lastI P (cutF P pl bh) + ((cutF P pl bh).length : Int) == (P.length : Int)) := by
  have hl : (cutF P pl bh).length ≤ 402 := by rw [cut_len]; omega
  refine ⟨[], cutF P pl bh, [], by simp [joinD], by simp, ?_, ?_, due4 h1 h2⟩
  · intro x hx
    simp only [List.mem_cons, List.not_mem_nil, or_false] at hx
    rcases hx with rfl | rfl
    · simp
    · exact ⟨by omega, fun hm => hd (cut_sub hm)⟩
  · simp only [List.length_cons]; omega
theorem ask5 (h1 : pl < P.length) (h2 : pl < bh) (hd : 46 ∉ P) (hP : P.length ≤ 402) : AskP P (46 :: 46 :: 46 :: (cutF P pl bh ++ [46, 46, 46] ++ P.drop pl)) (decide (firstI P (cutF P pl bh) + ((cutF P pl bh).length : Int) ≤ (pl : Int))) := by
  have hl : (cutF P pl bh).length ≤ 402 := by rw [cut_len]; omega
  have hl2 : (P.drop pl).length ≤ 402 := by rw [List.length_drop]; omega
  refine ⟨[], cutF P pl bh, [P.drop pl], by simp [joinD], by simp, ?_, ?_, due5 h1 h2⟩
  · intro x hx
    simp only [List.mem_cons, List.not_mem_nil, or_false] at hx
    rcases hx with rfl | rfl | rfl
    · simp
    · exact ⟨by omega, fun hm => hd (cut_sub hm)⟩
    · exact ⟨by omega, fun hm => hd (List.mem_of_mem_drop hm)⟩
  · simp only [List.length_cons, List.length_append, List.length_nil]; omega
theorem ask6 (h1 : pl < P.length) (h2 : pl < bh) (hd : 46 ∉ P) (hP : P.length ≤ 402) : AskP P (P.take bh ++ [46, 46, 46] ++ cutF P pl bh ++ [46, 46, 46]) (decide ((bh : Int) ≤ lastI P (cutF P pl bh))) := by
  have hl : (cutF P pl bh).length ≤ 402 := by rw [cut_len]; omega
  have hl2 : (P.take bh).length ≤ 402 := by rw [List.length_take]; omega
  refine ⟨P.take bh, cutF P pl bh, [[]], by simp [joinD], by simp, ?_, ?_, due6 h1 h2⟩
  · intro x hx
    simp only [List.mem_cons, List.not_mem_nil, or_false] at hx
    rcases hx with rfl | rfl | rfl
    · exact ⟨by omega, fun hm => hd (List.mem_of_mem_take hm)⟩
    · exact ⟨by omega, fun hm => hd (cut_sub hm)⟩
    · simp
  · simp only [List.length_cons, List.length_append, List.length_nil]; omega
theorem ask7 (h1 : pl < P.length) (h2 : pl < bh) (hd : 46 ∉ P) (hP : P.length ≤ 402) : AskP P (P.take bh ++ [46, 46, 46] ++ P.drop pl) false := by
  have hl : (P.drop pl).length ≤ 402 := by rw [List.length_drop]; omega
  have hl2 : (P.take bh).length ≤ 402 := by rw [List.length_take]; omega
  refine ⟨P.take bh, P.drop pl, [], by simp [joinD], by simp, ?_, ?_, due7 h1 h2⟩
  · intro x hx
    simp only [List.mem_cons, List.not_mem_nil, or_false] at hx
    rcases hx with rfl | rfl
    · exact ⟨by omega, fun hm => hd (List.mem_of_mem_take hm)⟩
    · exact ⟨by omega, fun hm => hd (List.mem_of_mem_drop hm)⟩
  · simp only [List.length_cons, List.length_append, List.length_nil]; omega
theorem ask8 (h1 : pl < P.length) (h2 : pl < bh) (hd : 46 ∉ P) (hP : P.length ≤ 402) : AskP P (P.take pl ++ [46, 46, 46] ++ P.drop bh) true := by
  have hl : (P.drop bh).length ≤ 402 := by rw [List.length_drop]; omega
  have hl2 : (P.take pl).length ≤ 402 := by rw [List.length_take]; omega
  refine ⟨P.take pl, P.drop bh, [], by simp [joinD], by simp, ?_, ?_, due8 h1 h2⟩
  · intro x hx
    simp only [List.mem_cons, List.not_mem_nil, or_false] at hx
    rcases hx with rfl | rfl
    · exact ⟨by omega, fun hm => hd (List.mem_of_mem_take hm)⟩
    · exact ⟨by omega, fun hm => hd (List.mem_of_mem_drop hm)⟩
  · simp only [List.length_cons, List.length_append, List.length_nil]; omega
end
noncomputable def AskV (P : List Nat) (v : Array Value) : Prop := ∃ want u due, v = #[.str (ofL want) u, .bool due] ∧ AskP P want due
/-- a list of pairs that ask -/
noncomputable def Asked (P : List Nat) (L : Addr) (h : Heap) (D : Addr) : Prop := ∃ (its : Array Value), h.IsList D its ∧ D ≠ L ∧ D < h.objs.size ∧
  ∀ (j : Nat) (v : Value), its[j]? = some v → ∃ T vals, v = .ref T ∧ h.IsTuple T vals ∧ T ≠ L ∧ T < h.objs.size ∧ AskV P vals
theorem Asked.fns {P : List Nat} {L : Addr} {h : Heap} {D : Addr} (a : Asked P L h D) : ∃ (its : Array Value) (Ts : Nat → Addr) (vals : Nat → Array Value), h.IsList D its ∧ D ≠ L ∧ D < h.objs.size ∧
    ∀ j, j < its.size → its[j]? = some (.ref (Ts j)) ∧ h.IsTuple (Ts j) (vals j) ∧ Ts j ≠ L ∧ Ts j < h.objs.size ∧ AskV P (vals j) := by
  obtain ⟨its, h1, h2, h3, h4⟩ := a
  have key : ∀ j, ∃ p : Addr × Array Value, j < its.size → its[j]? = some (.ref p.1) ∧ h.IsTuple p.1 p.2 ∧ p.1 ≠ L ∧ p.1 < h.objs.size ∧ AskV P p.2 := by
    intro j
    by_cases hj : j < its.size
    · obtain ⟨T, vals, e, r⟩ := h4 j its[j] (by simp [hj])
      exact ⟨(T, vals), fun _ => ⟨by simp [hj, e], r⟩⟩
    · exact ⟨(0, #[]), fun h => absurd h hj⟩
  obtain ⟨fn, hfn⟩ := Classical.axiomOfChoice key
  exact ⟨its, fun j => (fn j).1, fun j => (fn j).2, h1, h2, h3, hfn⟩
theorem news_ask {P : List Nat} {h₀ h : Heap} {L T : Addr} {news : List (Addr × Obj)} {want : List Nat} {u : Tok} {due : Bool} (N : News h₀ L h news) (hm : (T, { cls := Value.type "tuple", data := .seq #[.str (ofL want) u, .bool due] }) ∈ news) (ha : AskP P want due) :
    ∃ T' vals, Value.ref T = .ref T' ∧ h.IsTuple T' vals ∧ T' ≠ L ∧ T' < h.objs.size ∧ AskV P vals :=
  ⟨T, _, rfl, News.isTup N hm, (N _ hm).2.1, Heap.lt_size (N _ hm).1, want, u, due, rfl, ha⟩
end Mine

-- M5
namespace Mine
open PySem PySem.W PySem.Calls PyProof.Rows
set_option Elab.async false
set_option maxRecDepth 100000
/-- no p pairs in a row that may be equal, c of them seen -/
noncomputable def noRun {α : Type} (r : α → α → Bool) (p : Nat) : Nat → List α → List α → Bool
  | c, x :: xs, y :: ys => bif r x y then (bif Nat.beq (c + 1) p then false else noRun r p (c + 1) xs ys) else noRun r p 0 xs ys
  | _, _, _ => true
noncomputable def Run {α : Type} (r : α → α → Bool) (xs ys : List α) (i n : Nat) : Prop := ∀ j < n, ∃ u v, xs[i + j]? = some u ∧ ys[i + j]? = some v ∧ r u v = true
section
variable {α : Type} {r : α → α → Bool}
theorem run_nil {xs ys : List α} {i n : Nat} (h : Run r xs ys i n) (hn : 0 < n) (h0 : xs = [] ∨ ys = []) : False := by
  obtain ⟨u, v, h1, h2, _⟩ := h 0 hn
  rcases h0 with rfl | rfl <;> simp at h1 h2
theorem run_tail {x y : α} {xs ys : List α} {i n : Nat} (h : Run r (x :: xs) (y :: ys) (i + 1) n) : Run r xs ys i n := by
  intro j hj
  obtain ⟨u, v, h1, h2, h3⟩ := h j hj
  have e : i + 1 + j = (i + j) + 1 := by omega
  rw [e, List.getElem?_cons_succ] at h1 h2
  exact ⟨u, v, h1, h2, h3⟩
theorem run_head {x y : α} {xs ys : List α} {n : Nat} (h : Run r (x :: xs) (y :: ys) 0 (n + 1)) : r x y = true ∧ Run r xs ys 0 n := by
  obtain ⟨u, v, h1, h2, h3⟩ := h 0 (Nat.succ_pos _)
  have e1 : x = u := by simpa using h1
  have e2 : y = v := by simpa using h2
  subst e1 e2
  refine ⟨h3, fun j hj => ?_⟩
  obtain ⟨u, v, h1, h2, h3⟩ := h (j + 1) (by omega)
  have e : 0 + (j + 1) = (0 + j) + 1 := by omega
  rw [e, List.getElem?_cons_succ] at h1 h2
  exact ⟨u, v, h1, h2, h3⟩
theorem run_less {xs ys : List α} {i n k : Nat} (h : Run r xs ys i n) (hk : k ≤ n) : Run r xs ys i k := fun j hj => h j (by omega)
theorem noRun_spec (p : Nat) : ∀ (xs ys : List α) (c : Nat), noRun r p c xs ys = true → c < p → (∀ i, ¬ Run r xs ys i p) ∧ ¬ Run r xs ys 0 (p - c)
  | [], ys, c, _, hc => ⟨fun i h => run_nil h (by omega) (.inl rfl), fun h => run_nil h (by omega) (.inl rfl)⟩
  | x :: xs, [], c, _, hc => ⟨fun i h => run_nil h (by omega) (.inr rfl), fun h => run_nil h (by omega) (.inr rfl)⟩
  | x :: xs, y :: ys, c, h, hc => by
    have he : noRun r p c (x :: xs) (y :: ys) = bif r x y then (bif Nat.beq (c + 1) p then false else noRun r p (c + 1) xs ys) else noRun r p 0 xs ys := rfl
    rw [he] at h
    cases hb : r x y with
    | false =>
      rw [hb] at h
      have ih := noRun_spec p xs ys 0 h (by omega)
      have h0 : ∀ n, 0 < n → ¬ Run r (x :: xs) (y :: ys) 0 n := by
        intro n hn hr
        obtain ⟨m, rfl⟩ : ∃ m, n = m + 1 := ⟨n - 1, by omega⟩
        have := (run_head hr).1
        rw [hb] at this; cases this
      refine ⟨fun i => ?_, h0 _ (by omega)⟩
      cases i with
      | zero => exact h0 _ (by omega)
      | succ i => exact fun hr => ih.1 i (run_tail hr)
    | true =>
      rw [hb] at h
      cases hp : Nat.beq (c + 1) p with
      | true => rw [hp] at h; cases h
      | false =>
        rw [hp] at h
        have hne : c + 1 ≠ p := fun e => by rw [e, Nat.beq_refl] at hp; cases hp
        have ih := noRun_spec p xs ys (c + 1) h (by omega)
        have h0 : ¬ Run r (x :: xs) (y :: ys) 0 (p - c) := by
          intro hr
          have e : p - c = p - (c + 1) + 1 := by omega
          rw [e] at hr
          exact ih.2 (run_head hr).2
        refine ⟨fun i => ?_, h0⟩
        cases i with
        | zero => exact fun hr => h0 (run_less hr (by omega))
        | succ i => exact fun hr => ih.1 i (run_tail hr)
end
theorem oc_at {P x : List Nat} {i j : Nat} (h : Oc P x i) (hj : j < x.length) : P[i + j]? = x[j]? := by
  have h2 := h.2
  have : ((P.drop i).take x.length)[j]? = x[j]? := by rw [h2]
  rwa [List.getElem?_take_of_lt hj, List.getElem?_drop] at this
theorem oc_run {α : Type} {r : α → α → Bool} {val : α → Nat} {L : List α} {c : List Nat} {i : Nat} (hr : ∀ x ∈ L, ∀ y ∈ L, val x = val y → r x y = true) (h : Oc (L.map val) (c ++ c) i) : Run r L (L.drop c.length) i c.length := by
  intro j hj
  have hl : (c ++ c).length = c.length + c.length := List.length_append
  have h1 := oc_at h (j := j) (by omega)
  have h2 := oc_at h (j := c.length + j) (by omega)
  rw [List.getElem?_append_left hj, List.getElem?_eq_getElem hj, List.getElem?_map] at h1
  rw [List.getElem?_append_right (by omega), Nat.add_sub_cancel_left, List.getElem?_eq_getElem hj, List.getElem?_map] at h2
  obtain ⟨u, hu, eu⟩ := Option.map_eq_some_iff.mp h1
  obtain ⟨v, hv, ev⟩ := Option.map_eq_some_iff.mp h2
  refine ⟨u, v, hu, ?_, hr u (List.mem_of_getElem? hu) v (List.mem_of_getElem? hv) (eu.trans ev.symm)⟩
  rw [List.getElem?_drop]
  have e : c.length + (i + j) = i + (c.length + j) := by omega
  rw [e]; exact hv
noncomputable def sqfree {α : Type} (r : α → α → Bool) (l : List α) : Bool := (List.range (l.length / 2)).all fun k => noRun r (k + 1) 0 l (l.drop (k + 1))
theorem sqfree_spec {α : Type} {r : α → α → Bool} {val : α → Nat} {L : List α} (hr : ∀ x ∈ L, ∀ y ∈ L, val x = val y → r x y = true) (h : sqfree r L = true) : ∀ c, c ≠ [] → ∀ i, ¬ Oc (L.map val) (c ++ c) i := by
  intro c hc i hO
  have hl : (c ++ c).length = c.length + c.length := List.length_append
  have h1 := hO.1
  rw [List.length_map] at h1
  have hp : 1 ≤ c.length := by
    cases c with
    | nil => exact absurd rfl hc
    | cons _ _ => simp
  have h2 := List.all_eq_true.mp h (c.length - 1) (List.mem_range.mpr (by omega))
  have e : c.length - 1 + 1 = c.length := by omega
  rw [e] at h2
  exact (noRun_spec c.length L (L.drop c.length) 0 h2 hp).1 i (oc_run hr hO)
/-- a letter by its class and by what makes it -/
noncomputable def letV (f : Nat) (x : Nat × Nat × Bool) : Nat := if x.1 < 2 then 2 * x.1 + valN f x.2 else x.1
noncomputable def mayEq (x y : Nat × Nat × Bool) : Bool := bif Nat.beq x.1 y.1 then (bif Nat.blt x.1 2 then (bif Nat.beq x.2.1 y.2.1 then x.2.2 == y.2.2 else true) else true) else false
theorem mayEq_of (f : Nat) (x y : Nat × Nat × Bool) (h : letV f x = letV f y) (hx : x.1 < 2 ∨ 4 ≤ x.1) (hy : y.1 < 2 ∨ 4 ≤ y.1) : mayEq x y = true := by
  obtain ⟨c, k, s⟩ := x
  obtain ⟨c', k', s'⟩ := y
  have h1 := valN_le f (k, s)
  have h2 := valN_le f (k', s')
  simp only [letV] at h
  simp only at hx hy
  have hcc : c = c' := by
    by_cases h3 : c < 2 <;> by_cases h4 : c' < 2 <;> simp only [h3, h4, if_true, if_false] at h <;> omega
  subst hcc
  unfold mayEq
  simp only [Nat.beq_refl, cond_true]
  cases hlt : Nat.blt c 2 with
  | false => rfl
  | true =>
    have h3 : c < 2 := by have : c ≤ 1 := by simpa [Nat.blt] using hlt
                          omega
    simp only [h3, if_true] at h
    cases hk : Nat.beq k k' with
    | false => rfl
    | true =>
      have hk' : k = k' := Nat.eq_of_beq_eq_true hk
      subst hk'
      simp only [cond_true]
      cases s <;> cases s'
      · rfl
      · have := valN_flip f k false
        simp only [Bool.not_false] at this
        omega
      · have := valN_flip f k false
        simp only [Bool.not_false] at this
        omega
      · rfl
/-- a sign's number: its place's parity and its fold -/
noncomputable def code (f i : Nat) : Nat := 2 * (i % 2) + bitAt f i
noncomputable def phi (o : Nat) : Nat → Nat
  | 0 => 60
  | 1 => 62
  | 2 => 38
  | 3 => o
  | 4 => 92
  | 5 => 34
  | _ => 43
theorem sgn_code (f i : Nat) : sgn f i = phi (otherF f) (code f i) := by
  have hb := bit_le f i
  have hb' := le_one hb
  unfold sgn signAt code
  rcases Nat.mod_two_eq_zero_or_one i with h | h <;> rcases hb' with e | e <;> simp [h, e, phi]
theorem code_lt (f i : Nat) : code f i < 4 := by
  have hb := bit_le f i
  unfold code; omega
noncomputable def sym (i : Nat) : Nat × Nat × Bool := (i % 2, (shapeTo 6).getD i (0, false))
theorem code_sym (f i : Nat) : code f i = letV f (sym i) := by
  unfold code letV sym bitAt
  rw [if_pos (Nat.mod_lt _ (by decide))]
noncomputable def tailS : List (Nat × Nat × Bool) := [(4, 0, false), (5, 0, false), (6, 0, false), (5, 0, false)]
noncomputable def lefts (st rs : Nat) : List (Nat × Nat × Bool) := (posL st rs).map sym ++ tailS
theorem lefts_cls {st rs : Nat} : ∀ x ∈ lefts st rs, x.1 < 2 ∨ (4 ≤ x.1 ∧ x.1 < 7) := by
  intro x hx
  rcases List.mem_append.mp hx with hx | hx
  · obtain ⟨i, _, rfl⟩ := List.mem_map.mp hx
    exact .inl (Nat.mod_lt _ (by decide))
  · simp only [tailS, List.mem_cons, List.not_mem_nil, or_false] at hx
    rcases hx with rfl | rfl | rfl | rfl <;> exact .inr (by decide)
/-- the left's letters by number -/
noncomputable def leftC (f : Nat) : List Nat := (lefts (stepF f) (restF f)).map (letV f)
theorem left_codes (f : Nat) : leftF f = (leftC f).map (phi (otherF f)) := by
  unfold leftF leftC lefts
  rw [leftB_pos, List.map_append, List.map_append, List.map_map, List.map_map]
  congr 1
  apply List.map_congr_left
  intro i _
  simp only [Function.comp]
  rw [sgn_code, code_sym]
theorem leftC_lt (f : Nat) : ∀ c ∈ leftC f, c < 7 := by
  intro c hc
  obtain ⟨x, hx, rfl⟩ := List.mem_map.mp hc
  have := lefts_cls x hx
  have := valN_le f x.2
  unfold letV
  split <;> omega
end Mine

-- M6
namespace Mine
open PySem PySem.W PySem.Calls PyProof.Rows
set_option Elab.async false
set_option maxRecDepth 100000
theorem sq_steps : ∀ st ∈ [1, 3, 5, 7], ∀ r < st, sqfree mayEq (lefts st r) = true := by decide +kernel
end Mine

-- M7
namespace Mine
open PySem PySem.W PySem.Calls PyProof.Rows
set_option Elab.async false
set_option maxRecDepth 100000
theorem oc_split {g w : List Nat} {i : Nat} (h : Oc g w i) : g = g.take i ++ (w ++ g.drop (i + w.length)) := by
  have h2 := h.2
  conv => lhs; rw [← List.take_append_drop i g]
  congr 1
  conv => lhs; rw [← List.take_append_drop w.length (g.drop i)]
  rw [h2, List.drop_drop]
theorem oc_mk (A w B : List Nat) : Oc (A ++ (w ++ B)) w A.length := by
  refine ⟨by simp only [List.length_append]; omega, ?_⟩
  rw [List.drop_left, List.take_left]
theorem mem_tw {p : Nat → Bool} {y : Nat} : ∀ {l : List Nat}, y ∈ l.takeWhile p → p y = true
  | [], h => nomatch h
  | a :: r, h => by
    rw [List.takeWhile_cons] at h
    split at h
    · rename_i ha
      rcases List.mem_cons.mp h with e | h
      · rw [e]; exact ha
      · exact mem_tw h
    · cases h
/-- a code whose words begin, and only begin, with a sign of S -/
structure Sync (n : Nat) (W : Nat → List Nat) (S : Nat → Bool) : Prop where
  head : ∀ c < n, ∃ a z, W c = a :: z ∧ S a = true ∧ ∀ x ∈ z, S x = false
  sqz : ∀ c < n, ∀ x, x ≠ [] → ∀ i, ¬ Oc (W c).tail (x ++ x) i
  tri : ∀ b < n, ∀ c < n, ∀ k, 1 ≤ k → k ≤ (W b).length → (W c).take k = (W b).take k → (k = (W b).length → b = c) ∧
    ∀ a < n, k < (W b).length → (W b).length - k ≤ (W a).length → (W a).drop ((W a).length - ((W b).length - k)) = (W b).drop k → a = b ∨ b = c
section
variable {n : Nat} {W : Nat → List Nat} {S : Nat → Bool}
theorem Sync.start (Y : Sync n W S) : ∀ u : List Nat, (∀ c ∈ u, c < n) → u = [] ∨ ∃ s r, u.flatMap W = s :: r ∧ S s = true
  | [], _ => .inl rfl
  | c :: r, h => by
    obtain ⟨a, z, e, ha, _⟩ := Y.head c (h c (List.mem_cons_self ..))
    exact .inr ⟨a, z ++ r.flatMap W, by rw [List.flatMap_cons, e]; rfl, ha⟩
theorem Sync.cut (Y : Sync n W S) : ∀ (u X T : List Nat), (∀ c ∈ u, c < n) → u.flatMap W = X ++ T → (T = [] ∨ ∃ s r, T = s :: r ∧ S s = true) → ∃ u' u'', u = u' ++ u'' ∧ u'.flatMap W = X ∧ u''.flatMap W = T
  | [], X, T, _, h, _ => by
    have h' : X ++ T = [] := h.symm
    obtain ⟨h1, h2⟩ := List.append_eq_nil_iff.mp h'
    subst h1 h2
    exact ⟨[], [], rfl, rfl, rfl⟩
  | c :: r, [], T, _, h, _ => ⟨[], c :: r, rfl, rfl, h⟩
  | c :: r, x :: X, T, hu, h, hT => by
    obtain ⟨a, z, e, ha, hz⟩ := Y.head c (hu c (List.mem_cons_self ..))
    rw [List.flatMap_cons] at h
    rcases List.append_eq_append_iff.mp h with ⟨d, h1, h2⟩ | ⟨d, h1, h2⟩
    · obtain ⟨u', u'', q1, q2, q3⟩ := Y.cut r d T (fun y hy => hu y (List.mem_cons_of_mem _ hy)) h2 hT
      exact ⟨c :: u', u'', by rw [q1]; rfl, by rw [List.flatMap_cons, q2, h1], q3⟩
    · cases d with
      | nil =>
        rw [List.append_nil] at h1
        exact ⟨[c], r, rfl, by rw [List.flatMap_cons, h1]; simp, h2.symm⟩
      | cons y d =>
        rcases hT with rfl | ⟨s, q, rfl, hs⟩
        · cases h2
        · have hy : y = s := by
            have := congrArg List.head? h2
            simpa using this.symm
          subst hy
          rw [e] at h1
          have : y ∈ z := by
            have := congrArg List.tail h1
            simp only [List.tail_cons, List.cons_append] at this
            rw [this]; simp
          rw [hz y this] at hs; cases hs
theorem Sync.inj (Y : Sync n W S) : ∀ (v v' : List Nat), (∀ c ∈ v, c < n) → (∀ c ∈ v', c < n) → v.flatMap W = v'.flatMap W → v = v'
  | [], [], _, _, _ => rfl
  | [], c :: r, _, h, e => by
    rcases Y.start (c :: r) h with q | ⟨s, t, q, _⟩
    · cases q
    · rw [q] at e; cases e
  | c :: r, [], h, _, e => by
    rcases Y.start (c :: r) h with q | ⟨s, t, q, _⟩
    · cases q
    · rw [q] at e; cases e
  | b :: r, c :: r', h, h', e => by
    have hb := h b (List.mem_cons_self ..)
    have hc := h' c (List.mem_cons_self ..)
    have pos : ∀ x < n, 1 ≤ (W x).length := fun x hx => by obtain ⟨a, z, e, _⟩ := Y.head x hx; rw [e]; simp
    have hbc : b = c := by
      rw [List.flatMap_cons, List.flatMap_cons] at e
      rcases List.append_eq_append_iff.mp e with ⟨d, h1, _⟩ | ⟨d, h1, _⟩
      · exact (Y.tri b hb c hc (W b).length (pos b hb) (Nat.le_refl _) (by rw [h1, List.take_left, List.take_length])).1 rfl
      · exact ((Y.tri c hc b hb (W c).length (pos c hc) (Nat.le_refl _) (by rw [h1, List.take_left, List.take_length])).1 rfl).symm
    subst hbc
    rw [List.flatMap_cons, List.flatMap_cons] at e
    have := Y.inj r r' (fun y hy => h y (List.mem_cons_of_mem _ hy)) (fun y hy => h' y (List.mem_cons_of_mem _ hy)) (List.append_cancel_left e)
    rw [this]
/-- a stretch without a beginning lies within a word -/
theorem Sync.inner (Y : Sync n W S) {q : List Nat} (hq : q ≠ []) (hn : ∀ x ∈ q, S x = false) : ∀ (u A B : List Nat), (∀ c ∈ u, c < n) → u.flatMap W = A ++ (q ++ B) → ∃ c ∈ u, ∃ A' B', (W c).tail = A' ++ (q ++ B')
  | [], A, B, _, h => by
    have h' : A ++ (q ++ B) = [] := h.symm
    exact absurd (List.append_eq_nil_iff.mp (List.append_eq_nil_iff.mp h').2).1 hq
  | c :: r, A, B, hu, h => by
    obtain ⟨a, z, e, ha, hz⟩ := Y.head c (hu c (List.mem_cons_self ..))
    have hr : ∀ y ∈ r, y < n := fun y hy => hu y (List.mem_cons_of_mem _ hy)
    have noq : ∀ d B', r.flatMap W = d ++ B' → d ≠ [] → (∀ x ∈ d, S x = false) → False := by
      intro d B' h1 h2 h3
      rcases Y.start r hr with rfl | ⟨s, t, h4, hs⟩
      · have : d ++ B' = [] := h1.symm
        exact h2 (List.append_eq_nil_iff.mp this).1
      · cases d with
        | nil => exact h2 rfl
        | cons y d =>
          rw [h1] at h4
          have : y = s := by simpa using congrArg List.head? h4
          subst this
          rw [h3 y (List.mem_cons_self ..)] at hs; cases hs
    rw [List.flatMap_cons] at h
    rcases List.append_eq_append_iff.mp h with ⟨d, h1, h2⟩ | ⟨d, h1, h2⟩
    · obtain ⟨c', hc', r1⟩ := Y.inner hq hn r d B hr h2
      exact ⟨c', List.mem_cons_of_mem _ hc', r1⟩
    · -- W c = A ++ d, q ++ B = d ++ rest
      have hd : ∃ d', d = q ++ d' := by
        rcases List.append_eq_append_iff.mp h2 with ⟨k, h3, h4⟩ | ⟨k, h3, h4⟩
        · exact ⟨k, h3⟩
        · by_cases hk : k = []
          · subst hk
            rw [List.append_nil] at h3
            exact ⟨[], by rw [h3, List.append_nil]⟩
          · exact (noq k B h4 hk fun x hx => hn x (by rw [h3]; exact List.mem_append_right _ hx)).elim
      obtain ⟨d', rfl⟩ := hd
      refine ⟨c, List.mem_cons_self .., ?_⟩
      cases A with
      | nil =>
        cases q with
        | nil => exact absurd rfl hq
        | cons y q =>
          rw [e] at h1
          have : a = y := by simpa using congrArg List.head? h1
          subst this
          rw [hn a (List.mem_cons_self ..)] at ha; cases ha
      | cons y A => exact ⟨A, d', by rw [h1]; rfl⟩
/-- a square in what is written is one in what was to be written -/
theorem Sync.square (Y : Sync n W S) {u : List Nat} (hu : ∀ c ∈ u, c < n) (hsq : ∀ c, c ≠ [] → ∀ i, ¬ Oc u (c ++ c) i) : ∀ x, x ≠ [] → ∀ i, ¬ Oc (u.flatMap W) (x ++ x) i := by
  intro x hx i hO
  have hP := oc_split hO
  generalize (u.flatMap W).take i = A at hP
  generalize (u.flatMap W).drop (i + (x ++ x).length) = B at hP
  have hxs : x = x.takeWhile (fun y => !S y) ++ x.dropWhile (fun y => !S y) := (List.takeWhile_append_dropWhile ..).symm
  have hs : ∀ y ∈ x.takeWhile (fun y => !S y), S y = false := fun y hy => by
    have := mem_tw hy
    simpa using this
  have hy0 : x.dropWhile (fun y => !S y) = [] ∨ ∃ a r, x.dropWhile (fun y => !S y) = a :: r ∧ S a = true := by
    cases h : x.dropWhile (fun y => !S y) with
    | nil => exact .inl rfl
    | cons a r =>
      refine .inr ⟨a, r, rfl, ?_⟩
      have := List.head_dropWhile_not (fun y => !S y) (l := x) (by rw [h]; exact List.cons_ne_nil _ _)
      simp only [h, List.head_cons] at this
      simpa using this
  generalize x.takeWhile (fun y => !S y) = s at hxs hs
  generalize x.dropWhile (fun y => !S y) = y at hxs hy0
  subst hxs
  rcases hy0 with rfl | ⟨y0, yr, hy, hS0⟩
  · rw [List.append_nil] at hP hx
    obtain ⟨c, hc, A', B', h1⟩ := Y.inner (q := s ++ s) (by simpa using hx) (fun z hz => by rcases List.mem_append.mp hz with h | h <;> exact hs z h) u A B hu hP
    refine Y.sqz c (hu c hc) s hx A'.length ?_
    rw [h1]; exact oc_mk _ _ _
  · have e1 : u.flatMap W = (A ++ s) ++ (y ++ (s ++ (y ++ B))) := by rw [hP]; simp only [List.append_assoc]
    have st : ∀ T, (y ++ T = [] ∨ ∃ s r, y ++ T = s :: r ∧ S s = true) := fun T => .inr ⟨y0, yr ++ T, by rw [hy]; rfl, hS0⟩
    obtain ⟨u1, u2, q1, f1, f2⟩ := Y.cut u _ _ hu e1 (st _)
    have hu1 : ∀ c ∈ u1, c < n := fun c hc => hu c (by rw [q1]; exact List.mem_append_left _ hc)
    have hu2 : ∀ c ∈ u2, c < n := fun c hc => hu c (by rw [q1]; exact List.mem_append_right _ hc)
    have e2 : u2.flatMap W = (y ++ s) ++ (y ++ B) := by rw [f2]; simp only [List.append_assoc]
    obtain ⟨u3, u4, q2, f3, f4⟩ := Y.cut u2 _ _ hu2 e2 (st _)
    have hu3 : ∀ c ∈ u3, c < n := fun c hc => hu2 c (by rw [q2]; exact List.mem_append_left _ hc)
    have hu4 : ∀ c ∈ u4, c < n := fun c hc => hu2 c (by rw [q2]; exact List.mem_append_right _ hc)
    have hyne : y ≠ [] := by rw [hy]; exact List.cons_ne_nil _ _
    have h3ne : u3 ≠ [] := by
      intro e
      rw [e] at f3
      exact hyne (List.append_eq_nil_iff.mp f3.symm).1
    obtain ⟨v, b, hvb⟩ : ∃ v b, u3 = v ++ [b] := ⟨_, _, (List.dropLast_concat_getLast h3ne).symm⟩
    subst hvb
    have hb : b < n := hu3 b (by simp)
    obtain ⟨ab, zb, eb, hab, hzb⟩ := Y.head b hb
    rw [List.flatMap_append, List.flatMap_singleton] at f3
    have key : ∃ t, y = v.flatMap W ++ t ∧ W b = t ++ s := by
      rcases List.append_eq_append_iff.mp f3 with ⟨d, h1, h2⟩ | ⟨d, h1, h2⟩
      · exact ⟨d, h1, h2⟩
      · have : S ab = false := hs ab (by rw [h2, eb]; simp)
        rw [this] at hab; cases hab
    obtain ⟨t, ht1, ht2⟩ := key
    have htne : t ≠ [] := by
      intro e
      rw [e, List.nil_append] at ht2
      have : S ab = false := hs ab (by rw [← ht2, eb]; exact List.mem_cons_self ..)
      rw [this] at hab; cases hab
    obtain ⟨tr, htr⟩ : ∃ tr, t = ab :: tr := by
      cases t with
      | nil => exact absurd rfl htne
      | cons c r =>
        rw [eb] at ht2
        have : ab = c := by simpa using congrArg List.head? ht2
        exact ⟨r, by rw [this]⟩
    have hzbt : zb = tr ++ s := by
      rw [eb, htr] at ht2
      have := congrArg List.tail ht2
      simpa using this
    have e4 : u4.flatMap W = v.flatMap W ++ (t ++ B) := by rw [f4, ht1, List.append_assoc]
    obtain ⟨v', u5, q3, f5, f6⟩ := Y.cut u4 _ _ hu4 e4 (.inr ⟨ab, tr ++ B, by rw [htr]; rfl, hab⟩)
    have hv' : v' = v := Y.inj v' v (fun c hc => hu4 c (by rw [q3]; exact List.mem_append_left _ hc)) (fun c hc => hu3 c (List.mem_append_left _ hc)) f5
    subst hv'
    have hu5 : ∀ c ∈ u5, c < n := fun c hc => hu4 c (by rw [q3]; exact List.mem_append_right _ hc)
    obtain ⟨c, r5, hcr⟩ : ∃ c r5, u5 = c :: r5 := by
      cases u5 with
      | nil =>
        have : t ++ B = [] := f6.symm
        exact absurd (List.append_eq_nil_iff.mp this).1 htne
      | cons c r => exact ⟨c, r, rfl⟩
    subst hcr
    have hc : c < n := hu5 c (List.mem_cons_self ..)
    have hWc : ∃ d, W c = t ++ d := by
      rw [List.flatMap_cons] at f6
      rcases List.append_eq_append_iff.mp f6 with ⟨d, h1, h2⟩ | ⟨d, h1, h2⟩
      · -- t = W c ++ d
        cases d with
        | nil => exact ⟨[], by rw [h1]; simp⟩
        | cons y1 d =>
          rcases Y.start r5 (fun z hz => hu5 z (List.mem_cons_of_mem _ hz)) with h0 | ⟨s5, t5, h5, hs5⟩
          · rw [h0] at h2; cases h2
          · rw [h5] at h2
            have e : s5 = y1 := by simpa using congrArg List.head? h2
            subst e
            obtain ⟨ac, zc, ec, _, _⟩ := Y.head c hc
            have : s5 ∈ zb := by
              rw [hzbt]
              refine List.mem_append_left _ ?_
              rw [htr, ec] at h1
              have := congrArg List.tail h1
              simp only [List.tail_cons, List.cons_append] at this
              rw [this]; simp
            rw [hzb s5 this] at hs5; cases hs5
      · exact ⟨d, h1⟩
    obtain ⟨d, hd⟩ := hWc
    have hlb : (W b).length = t.length + s.length := by rw [ht2, List.length_append]
    have hk1 : 1 ≤ t.length := by rw [htr]; simp
    have htri := Y.tri b hb c hc t.length hk1 (by omega) (by rw [hd, ht2, List.take_left, List.take_left])
    have fin : (b = c) → False := by
      intro e
      subst e
      refine hsq (v' ++ [b]) (by simp) u1.length ?_
      rw [q1, q2, q3]
      have e : u1 ++ ((v' ++ [b]) ++ (v' ++ b :: r5)) = u1 ++ (((v' ++ [b]) ++ (v' ++ [b])) ++ r5) := by simp
      rw [e]; exact oc_mk _ _ _
    by_cases hse : s = []
    · exact fin (htri.1 (by rw [hlb, hse]; rfl))
    · have h1ne : u1 ≠ [] := by
        intro e
        rw [e] at f1
        exact hse (List.append_eq_nil_iff.mp f1.symm).2
      obtain ⟨w, a, hwa⟩ : ∃ w a, u1 = w ++ [a] := ⟨_, _, (List.dropLast_concat_getLast h1ne).symm⟩
      subst hwa
      have ha : a < n := hu1 a (by simp)
      obtain ⟨aa, za, ea, haa, hza⟩ := Y.head a ha
      rw [List.flatMap_append, List.flatMap_singleton] at f1
      have hWa : ∃ e, W a = e ++ s := by
        rcases List.append_eq_append_iff.mp f1 with ⟨d, h1, h2⟩ | ⟨d, h1, h2⟩
        · exact ⟨d, h2⟩
        · have : S aa = false := hs aa (by rw [h2, ea]; simp)
          rw [this] at haa; cases haa
      obtain ⟨e, he⟩ := hWa
      have hsl : 1 ≤ s.length := by
        cases s with
        | nil => exact absurd rfl hse
        | cons _ _ => simp
      have hla : (W a).length = e.length + s.length := by rw [he, List.length_append]
      have := htri.2 a ha (by omega) (by omega) (by
        have e1 : (W a).length - ((W b).length - t.length) = e.length := by omega
        rw [e1, he, ht2, List.drop_left, List.drop_left])
      rcases this with h | h
      · subst h
        refine hsq (a :: v') (List.cons_ne_nil _ _) w.length ?_
        rw [q1, q2, q3]
        have e : (w ++ [a]) ++ ((v' ++ [a]) ++ (v' ++ c :: r5)) = w ++ (((a :: v') ++ (a :: v')) ++ (c :: r5)) := by simp
        rw [e]; exact oc_mk _ _ _
      · exact fin h
/-- what is written within what is written was to be written there -/
theorem Sync.infix (Y : Sync n W S) {u w : List Nat} (hu : ∀ c ∈ u, c < n) (hw : ∀ c ∈ w, c < n) (hne : w ≠ []) : (∃ i, Oc (u.flatMap W) (w.flatMap W) i) ↔ ∃ i, Oc u w i := by
  constructor
  · rintro ⟨i, hO⟩
    have hP := oc_split hO
    generalize (u.flatMap W).take i = A at hP
    generalize (u.flatMap W).drop (i + (w.flatMap W).length) = B at hP
    obtain ⟨u1, u2, q1, f1, f2⟩ := Y.cut u _ _ hu hP (by
      rcases Y.start w hw with h | ⟨s, r, h, hs⟩
      · exact absurd h hne
      · exact .inr ⟨s, r ++ B, by rw [h]; rfl, hs⟩)
    have pre : ∀ (w u B : List Nat), (∀ c ∈ w, c < n) → (∀ c ∈ u, c < n) → u.flatMap W = w.flatMap W ++ B → ∃ r, u = w ++ r := by
      intro w
      induction w with
      | nil => intro u B _ _ _; exact ⟨u, rfl⟩
      | cons b w ih =>
        intro u B hw hu h
        have hb := hw b (List.mem_cons_self ..)
        have pos : ∀ x < n, 1 ≤ (W x).length := fun x hx => by obtain ⟨a, z, e, _⟩ := Y.head x hx; rw [e]; simp
        cases u with
        | nil =>
          obtain ⟨a, z, e, _⟩ := Y.head b hb
          rw [List.flatMap_cons, e] at h; cases h
        | cons c u =>
          have hc := hu c (List.mem_cons_self ..)
          rw [List.flatMap_cons, List.flatMap_cons, List.append_assoc] at h
          have hbc : b = c := by
            rcases List.append_eq_append_iff.mp h with ⟨d, h1, _⟩ | ⟨d, h1, _⟩
            · exact ((Y.tri c hc b hb (W c).length (pos c hc) (Nat.le_refl _) (by rw [h1, List.take_left, List.take_length])).1 rfl).symm
            · exact (Y.tri b hb c hc (W b).length (pos b hb) (Nat.le_refl _) (by rw [h1, List.take_left, List.take_length])).1 rfl
          subst hbc
          obtain ⟨r, hr⟩ := ih u B (fun y hy => hw y (List.mem_cons_of_mem _ hy)) (fun y hy => hu y (List.mem_cons_of_mem _ hy)) (List.append_cancel_left h)
          exact ⟨r, by rw [hr]; rfl⟩
    obtain ⟨r, hr⟩ := pre w u2 B hw (fun c hc => hu c (by rw [q1]; exact List.mem_append_right _ hc)) f2
    refine ⟨u1.length, ?_⟩
    rw [q1, hr]; exact oc_mk _ _ _
  · rintro ⟨i, hO⟩
    have hP := oc_split hO
    refine ⟨((u.take i).flatMap W).length, ?_⟩
    rw [hP, List.flatMap_append, List.flatMap_append]
    have e : (u.take i ++ (w ++ u.drop (i + w.length))).take i = u.take i := by rw [← hP]
    rw [e]; exact oc_mk _ _ _
end
end Mine

-- M8
namespace Mine
open PySem PySem.W PySem.Calls PyProof.Rows
set_option Elab.async false
set_option maxRecDepth 100000
noncomputable def isS (c : Nat) : Bool := [38, 60, 62, 9, 10, 13, 92, 34, 43].contains c
noncomputable def chkHead (z : List Nat) : Bool := match z with
  | [] => false
  | a :: z => isS a && (z.all fun x => !isS x) && sqfree Nat.beq z
noncomputable def chkTri (W : Nat → List Nat) (b c k : Nat) : Bool :=
  b == c || !((W c).take k == (W b).take k) || (!(k == (W b).length) && (List.range 7).all fun a => a == b || decide ((W a).length < (W b).length - k) || !((W a).drop ((W a).length - ((W b).length - k)) == (W b).drop k))
noncomputable def chkSync (W : Nat → List Nat) : Bool := (List.range 7).all fun b => chkHead (W b) && (List.range 7).all fun c => (List.range (W b).length).all fun k => chkTri W b c (k + 1)
theorem sync_of {W : Nat → List Nat} (h : chkSync W = true) : Sync 7 W isS where
  head := fun c hc => by
    have h1 := List.all_eq_true.mp h c (List.mem_range.mpr hc)
    have h2 := (Bool.and_eq_true_iff.mp h1).1
    unfold chkHead at h2
    split at h2
    · cases h2
    · rename_i a z e
      have h3 := Bool.and_eq_true_iff.mp (Bool.and_eq_true_iff.mp h2).1
      refine ⟨a, z, e, h3.1, fun x hx => ?_⟩
      have := List.all_eq_true.mp h3.2 x hx
      simpa using this
  sqz := fun c hc => by
    have h1 := List.all_eq_true.mp h c (List.mem_range.mpr hc)
    have h2 := (Bool.and_eq_true_iff.mp h1).1
    unfold chkHead at h2
    split at h2
    · cases h2
    · rename_i a z e
      have h3 := (Bool.and_eq_true_iff.mp h2).2
      rw [e, List.tail_cons]
      have := sqfree_spec (val := fun x => x) (r := Nat.beq) (L := z) (fun x _ y _ e => by
        have e' : x = y := e
        rw [e']; exact Nat.beq_refl y) h3
      rwa [List.map_id'] at this
  tri := fun b hb c hc k h1 h2 hp => by
    have q1 := List.all_eq_true.mp h b (List.mem_range.mpr hb)
    have q2 := (Bool.and_eq_true_iff.mp q1).2
    have q3 := List.all_eq_true.mp q2 c (List.mem_range.mpr hc)
    have q4 := List.all_eq_true.mp q3 (k - 1) (List.mem_range.mpr (by omega))
    have e : k - 1 + 1 = k := by omega
    rw [e] at q4
    unfold chkTri at q4
    rcases Bool.or_eq_true_iff.mp q4 with q5 | q5
    · rcases Bool.or_eq_true_iff.mp q5 with q6 | q6
      · have hbc : b = c := eq_of_beq q6
        exact ⟨fun _ => hbc, fun _ _ _ _ _ => .inr hbc⟩
      · rw [hp] at q6; simp at q6
    · obtain ⟨q6, q7⟩ := Bool.and_eq_true_iff.mp q5
      refine ⟨fun hk => ?_, fun a ha hk hl hs => ?_⟩
      · rw [hk] at q6; simp at q6
      · have q8 := List.all_eq_true.mp q7 a (List.mem_range.mpr ha)
        rcases Bool.or_eq_true_iff.mp q8 with q9 | q9
        · rcases Bool.or_eq_true_iff.mp q9 with q10 | q10
          · exact .inl (eq_of_beq q10)
          · have := of_decide_eq_true q10; omega
        · rw [hs] at q9; simp at q9
noncomputable def word (h o c : Nat) : List Nat := wcode h (phi o c)
theorem chk_all : ∀ h < 5, ∀ o ∈ [9, 10, 13], chkSync (word h o) = true := by decide +kernel
theorem chk_dot : ∀ h < 5, ∀ o ∈ [9, 10, 13], ∀ c < 7, (word h o c).contains 46 = false := by decide +kernel
theorem other_mem (f : Nat) : otherF f ∈ [9, 10, 13] := by
  rcases other_of f with h | h | h <;> rw [h] <;> simp
theorem sync_f (f : Nat) : Sync 7 (word (handF f) (otherF f)) isS := sync_of (chk_all _ (handF_lt f) _ (other_mem f))
theorem word_dot (f : Nat) {c : Nat} (hc : c < 7) : 46 ∉ word (handF f) (otherF f) c := by
  have := chk_dot _ (handF_lt f) _ (other_mem f) c hc
  intro hm
  rw [List.contains_iff_mem.mpr hm] at this; cases this
end Mine

-- PL2
namespace Mine
open PySem PySem.W PySem.Calls PyProof.Rows
set_option Elab.async false
set_option maxRecDepth 100000
theorem sq_steps_all : ∀ st ∈ [1, 3, 5, 7], ∀ r < st, sqfree mayEq (lefts st r) = true := sq_steps
theorem leftC_sq (f : Nat) : ∀ c, c ≠ [] → ∀ i, ¬ Oc (leftC f) (c ++ c) i := by
  unfold leftC
  refine sqfree_spec (r := mayEq) (fun x hx y hy e => mayEq_of f x y e ?_ ?_) (sq_steps_all _ (step_mem f) _ (rest_lt f))
  · exact (lefts_cls x hx).imp id fun h => h.1
  · exact (lefts_cls y hy).imp id fun h => h.1
theorem page_codes (f : Nat) : pageF f = (leftC f).flatMap (word (handF f) (otherF f)) := by
  unfold pageF
  rw [left_codes, List.flatMap_map]; rfl
theorem page_nodot (f : Nat) : 46 ∉ pageF f := by
  rw [page_codes]
  intro hm
  obtain ⟨c, hc, h⟩ := List.mem_flatMap.mp hm
  exact word_dot f (leftC_lt f c hc) h
theorem page_sq (f : Nat) : ∀ c, c ≠ [] → ∀ i, ¬ Oc (pageF f) (c ++ c) i := by
  rw [page_codes]
  exact (sync_f f).square (leftC_lt f) (leftC_sq f)
end Mine

-- F11c
namespace Mine
open PySem PySem.W PySem.Calls PyProof.Rows
set_option Elab.async false
set_option maxRecDepth 100000
set_option maxHeartbeats 4000000
noncomputable def mD (ax : Addr) (f : Nat) (t1 t6 t7 t8 : Tok) (mr : Str → Option Value) (dr : Nat) (td : Tok) : Str → Option Value := fun y => if y = "drawn" then some (.int dr td) else mTurn ax f t1 t6 t7 t8 mr y
theorem mD_of (ax : Addr) (f : Nat) (t1 t6 t7 t8 : Tok) (m : Str → Option Value) (dr : Nat) (td : Tok) (h0 : m "drawn" = some (.int dr td)) (h1 : m "page" = some (.str (ofL (pageF f)) t7)) (h2 : m "leaf" = some (.str (ofL (leafF f)) t8)) (h3 : m "less" = some (.str (ofL (lessF f)) t6)) (h4 : m "hand" = some (.int (handF f) t1)) (h5 : m "script" = some (.ref ax)) :
    m = mD ax f t1 t6 t7 t8 m dr td := by
  funext y
  unfold mD
  rw [← mTurn_of ax f t1 t6 t7 t8 m h1 h2 h3 h4 h5]
  by_cases e1 : y = "drawn"
  · subst e1; rw [h0]; rfl
  · rw [if_neg e1]
noncomputable def mAsk (ax : Addr) (f : Nat) (t1 t6 t7 t8 : Tok) (mr : Str → Option Value) (dr : Nat) (td : Tok) (D : Addr) : Str → Option Value := fun y => if y = "asked" then some (.ref D) else mD ax f t1 t6 t7 t8 mr dr td y
theorem mAsk_of (ax : Addr) (f : Nat) (t1 t6 t7 t8 : Tok) (mr : Str → Option Value) (dr pl bh : Nat) (td tp tb tc tl tm : Tok) (D : Addr) : ∀ y : Str, (if y = "asked" then some (.ref D) else mMost ax f t1 t6 t7 t8 mr dr pl bh td tp tb tc tl tm y) = mAsk ax f t1 t6 t7 t8 (mMost ax f t1 t6 t7 t8 mr dr pl bh td tp tb tc tl tm) dr td D y := by
  intro y
  unfold mAsk
  rw [← mD_of ax f t1 t6 t7 t8 (mMost ax f t1 t6 t7 t8 mr dr pl bh td tp tb tc tl tm) dr td rfl rfl rfl rfl rfl rfl]
theorem turnC {w : World} {A : Around} {s : Shared} {Qf : Flow → Shared → Prop} {ax L : Addr} {f : Nat} {t1 t6 t7 t8 : Tok} {mr : Str → Option Value} {dr pl bh : Nat} {td tp tb tc tl tm : Tok} {h' : Heap} {tk : Nat} {g : Array GenState} {own : List (Addr × Obj)} (hp1 : pl < (pageF f).length) (hp2 : pl < bh) (hp3 : bh < 10000) (G : Gd w s.heap) (hh : A.handled = none)
   (F : Fr s.heap L h' (mMost ax f t1 t6 t7 t8 mr dr pl bh td tp tb tc tl tm)) (N : News s.heap L h' own)
   (h : ∀ h' tk D mr', Fr s.heap L h' (mAsk ax f t1 t6 t7 t8 mr' dr td D) → News s.heap L h' own → Asked (pageF f) L h' D → TurnRest w A L 6 Qf { s with heap := h', toks := tk, gens := g }) :
   TurnRest w A L 5 Qf { s with heap := h', toks := tk, gens := g } := by
  obtain ⟨hd0, dp, frs, gds, un⟩ := A
  simp only at hh
  subst hh
  have G0 := G
  obtain ⟨X, mg, mb, T⟩ := G
  revert X
  have hcon : (model Challenge.rw_wa0026_01.row.prog w) = (model Challenge.rw_wa0026_01.row.prog w) := rfl
  revert hcon
  k_fill
  intro _ X
  refine' turnRest_mk ?ho ?e5 ?e ?_
  case ho => k_is
  case e5 => exact rfl
  case e => exact rfl
  simp only [List.drop_succ_cons, List.drop_zero]
  have hpl := page_len f
  have hcl : (cutF (pageF f) pl bh).length ≤ 402 := by rw [cut_len]; omega
  with_reducible refine seqO (fun s' => ∃ h' tk D mr', s' = { s with heap := h', toks := tk, gens := g } ∧ Fr s.heap L h' (mAsk ax f t1 t6 t7 t8 mr' dr td D) ∧ News s.heap L h' own ∧ Asked (pageF f) L h' D) ?_ ?_
  · intro R hNx hRt
    repeat' (first | ((with_reducible show wpAny _ _ (binaryOp Operator.Add (Value.str _ _) (Value.str _ _)) _ _ _); ((try rw [l_dots]); refine' addL ?hz ?_; (case hz => ((simp only [List.length_append, List.length_cons, List.length_nil, List.length_drop, List.length_take]); omega)); intro _ _)) | ((with_reducible show wpAny _ _ (PySem.call (Value.builtin "len") [_]) _ _ _); (refine' lenL ?hz ?_; (case hz => omega))) | ((with_reducible show wpAny _ _ (subscriptTail (Expr.Name _ _) (Expr.Slice _ _ _ _) (Value.str _ _) (Value.ref _)) _ _ _); (first | (refine' slice_strN_sn (hsz := ?hsz) (s := ⟨_, _, _, _, _⟩) (by assumption) (by assumption) ?_; (case hsz => (rw [ofL_length, sizeLine_eq]; omega)); intro _ _ _ _ _; rw [slice_sn]) | (refine' slice_strN_ns (hsz := ?hsz) (s := ⟨_, _, _, _, _⟩) (by assumption) (by assumption) ?_; (case hsz => (rw [ofL_length, sizeLine_eq]; omega)); intro _ _ _ _ _; rw [slice_ns]))) | walk1)
    have hd := page_nodot f
    rename_i h9 F9 N9
    refine hNx _ ⟨h9, _, _, _, rfl, Fr.to F9 (mAsk_of ax f t1 t6 t7 t8 mr dr pl bh td tp tb tc tl tm _), News.sub N9 fun p hp => .tail _ (.tail _ (.tail _ (.tail _ (.tail _ (.tail _ (.tail _ (.tail _ (.tail _ hp)))))))), ⟨_, News.isList N9 (.head _), (N9 _ (.head _)).2.1, Heap.lt_size (N9 _ (.head _)).1, ?_⟩⟩
    intro j v hv
    have hm := Array.mem_of_getElem? hv
    simp only [List.mem_toArray, List.mem_cons, List.not_mem_nil, or_false] at hm
    rcases hm with rfl | rfl | rfl | rfl | rfl | rfl | rfl | rfl
    · exact news_ask N9 (.tail _ (.tail _ (.tail _ (.tail _ (.tail _ (.tail _ (.tail _ (.tail _ (.head _))))))))) (ask1 hp1 hp2 hd hpl.2 (page_sq f))
    · exact news_ask N9 (.tail _ (.tail _ (.tail _ (.tail _ (.tail _ (.tail _ (.tail _ (.head _)))))))) (ask2 hp1 hp2 hd hpl.2)
    · exact news_ask N9 (.tail _ (.tail _ (.tail _ (.tail _ (.tail _ (.tail _ (.head _))))))) (ask3 hp1 hp2 hd hpl.2)
    · exact news_ask N9 (.tail _ (.tail _ (.tail _ (.tail _ (.tail _ (.head _)))))) (ask4 hp1 hp2 hd hpl.2)
    · exact news_ask N9 (.tail _ (.tail _ (.tail _ (.tail _ (.head _))))) (ask5 hp1 hp2 hd hpl.2)
    · exact news_ask N9 (.tail _ (.tail _ (.tail _ (.head _)))) (ask6 hp1 hp2 hd hpl.2)
    · exact news_ask N9 (.tail _ (.tail _ (.head _))) (ask7 hp1 hp2 hd hpl.2)
    · exact news_ask N9 (.tail _ (.head _)) (ask8 hp1 hp2 hd hpl.2)
  clear F N
  rintro _ ⟨h7, tk7, D, mr', rfl, F7, N7, A7⟩
  refine' turnRest_use (h h7 _ _ _ F7 N7 A7) ?ho ?e5 ?e
  case ho => k_is
  case e5 => exact rfl
  case e => exact rfl
end Mine

-- F11d
namespace Mine
open PySem PySem.W PySem.Calls PyProof.Rows
set_option Elab.async false
set_option maxRecDepth 100000
set_option maxHeartbeats 4000000
noncomputable def mAsk2 (ax : Addr) (f : Nat) (t1 t6 t7 t8 : Tok) (mr : Str → Option Value) (dr : Nat) (td : Tok) (x y : Value) : Str → Option Value := fun z => if z = "due" then some y else if z = "want" then some x else mD ax f t1 t6 t7 t8 mr dr td z
theorem mAsk2_of (ax : Addr) (f : Nat) (t1 t6 t7 t8 : Tok) (mr : Str → Option Value) (dr : Nat) (td : Tok) (x y : Value) : mAsk2 ax f t1 t6 t7 t8 mr dr td x y = mD ax f t1 t6 t7 t8 (mAsk2 ax f t1 t6 t7 t8 mr dr td x y) dr td :=
  mD_of ax f t1 t6 t7 t8 _ dr td rfl rfl rfl rfl rfl rfl
theorem mAsk_D (ax : Addr) (f : Nat) (t1 t6 t7 t8 : Tok) (mr : Str → Option Value) (dr : Nat) (td : Tok) (D : Addr) : mAsk ax f t1 t6 t7 t8 mr dr td D = mD ax f t1 t6 t7 t8 (mAsk ax f t1 t6 t7 t8 mr dr td D) dr td :=
  mD_of ax f t1 t6 t7 t8 _ dr td rfl rfl rfl rfl rfl rfl
theorem turnD {w : World} {A : Around} {s : Shared} {Qf : Flow → Shared → Prop} {ax L : Addr} {f : Nat} {t1 t6 t7 t8 : Tok} {mr : Str → Option Value} {dr : Nat} {td : Tok} {D : Addr} {h' : Heap} {tk : Nat} {g : Array GenState} {own : List (Addr × Obj)} (G : Gd w s.heap) (hh : A.handled = none) (hroom : A.depth + 3 < recursionLimit) (hu : A.units + 20 < cLine)
   (F : Fr s.heap L h' (mAsk ax f t1 t6 t7 t8 mr dr td D)) (N : News s.heap L h' own) (hA : Asked (pageF f) L h' D)
   (h : ∀ h' tk mr', Fr s.heap L h' (mD ax f t1 t6 t7 t8 mr' dr td) → News s.heap L h' own → TurnRest w A L 7 Qf { s with heap := h', toks := tk, gens := g }) :
   TurnRest w A L 6 Qf { s with heap := h', toks := tk, gens := g } := by
  obtain ⟨hd0, dp, frs, gds, un⟩ := A
  simp only at hh hroom hu
  subst hh
  have G0 := G
  obtain ⟨X, mg, mb, T⟩ := G
  revert X
  have hcon : (model Challenge.rw_wa0026_01.row.prog w) = (model Challenge.rw_wa0026_01.row.prog w) := rfl
  revert hcon
  k_fill
  intro _ X
  refine' turnRest_mk ?ho ?e5 ?e ?_
  case ho => k_is
  case e5 => exact rfl
  case e => exact rfl
  simp only [List.drop_succ_cons, List.drop_zero]
  have hpl := page_len f
  with_reducible refine seqR (fun s' => ∃ h' tk mr', s' = { s with heap := h', toks := tk, gens := g } ∧ Fr s.heap L h' (mD ax f t1 t6 t7 t8 mr' dr td) ∧ News s.heap L h' own) ?_ ?_
  · obtain ⟨its, Ts, vals, hDl, hDL, hDz, hT⟩ := hA.fns
    refine forT s.heap rfl rfl rfl ?_ (fun _ => rfl)
    refine wpAny_Name (wpAny_loadName_local rfl rfl F.ns rfl ?_) (by decide)
    refine wpAny_pyIter_list hDl ?_
    have hsz : h'.objs.size ≠ L := Nat.ne_of_gt F.ns.lt
    have hDI : D ≠ h'.objs.size := Nat.ne_of_lt hDz
    refine' ⟨_, _, _, _, _, _, _, _, _, fun i m news => news = own ∧ ∃ mr', m = mD ax f t1 t6 t7 t8 mr' dr td, rfl, rfl, (WalksU.listOfTuples rfl h'.objs.size D hDI its Ts vals (fun j hj => (hT j hj).1) (fun j hj => Nat.ne_of_lt (hT j hj).2.2.2.1)).bound, ?c2, ?c3, ?c4, ⟨⟨_, Heap.get?_push_size _ rfl, rfl, rfl⟩, ?c5, ?c5b⟩, F.push _, N.pushKeep _, ?c6, ?c7, ?c8, ?c9⟩
    case c2 =>
      intro hm
      have hm' : L ∈ h'.objs.size :: D :: (List.range its.size).map Ts := hm
      rcases List.mem_cons.mp hm' with e | hm'
      · exact hsz e.symm
      · rcases List.mem_cons.mp hm' with e | hm'
        · exact hDL e.symm
        · obtain ⟨j, hj, e⟩ := List.mem_map.mp hm'
          exact (hT j (List.mem_range.mp hj)).2.2.1 e
    case c3 =>
      intro b hb
      rw [List.mem_singleton.mp hb]
      exact F.fresh
    case c4 =>
      intro p hp
      exact fun e => absurd (Heap.lt_size (N p hp).1) (List.mem_singleton.mp e ▸ Nat.lt_irrefl _)
    case c5 => exact hDl.at fun o e => Heap.get?_push_of_some _ e
    case c5b => exact fun k hk => (hT k hk).2.1.at fun o e => Heap.get?_push_of_some _ e
    case c6 =>
      rintro i v ⟨hi, rfl⟩
      obtain ⟨want, u, due, e, _⟩ := (hT i hi).2.2.2.2
      exact ⟨_, _, e⟩
    case c7 => exact ⟨rfl, _, mAsk_D ax f t1 t6 t7 t8 mr dr td D⟩
    case c8 =>
      rintro i x y _ _ s₁ own' hi ⟨_, hv⟩ ⟨rfl, mr', rfl⟩ hnw hs1 F2 N2
      obtain ⟨want, u, due, e, w0, v0, r, rfl, hr, hx, hl, he⟩ := (hT i hi).2.2.2.2
      have e1 : x = .str (ofL (joinD (w0 :: v0 :: r))) u ∧ y = .bool due := by
        have := congrArg Array.toList (hv.trans e)
        simp only [List.cons.injEq, and_true] at this
        exact this
      obtain ⟨rfl, rfl⟩ := e1
      replace F2 : Fr s.heap L s₁.heap (mAsk2 ax f t1 t6 t7 t8 mr' dr td (.str (ofL (joinD (w0 :: v0 :: r))) u) (.bool due)) := F2
      repeat' walk1
      unfold Stopped
      refine ellIn (ws := w0 :: v0 :: r) hl (by omega) (in_dots w0 v0 r) (split_dots w0 v0 r fun y hy => (hx y hy).2) (by simp) (by simp only [List.length_cons]; omega) (fun y hy => (hx y hy).1) (Gd.keeps G0 F2.keep) (by show dp + 1 < recursionLimit; omega) rfl fun h5 tk5 hx5 => ?_
      rw [he]
      have F5 := Fr.grownK F2 hx5
      have N5 := News.grown N2 hx5
      clear F2 N2
      repeat' walk1
      · rename_i hc
        simp at hc
      · exact ⟨h5, tk5, _, _, rfl, F5, N5, hnw, rfl, _, mAsk2_of ax f t1 t6 t7 t8 mr' dr td _ _⟩
    case c9 =>
      rintro h2 tk2 m2 news2 F2 N2 _ ⟨rfl, mr', rfl⟩
      exact ⟨h2, tk2, _, rfl, F2, N2⟩
  clear F N
  rintro _ ⟨h7, tk7, mr', rfl, F7, N7⟩
  refine' turnRest_use (h h7 _ _ F7 N7) ?ho ?e5 ?e
  case ho => k_is
  case e5 => exact rfl
  case e => exact rfl
end Mine

-- M9
namespace Mine
open PySem PySem.W PySem.Calls PyProof.Rows
set_option Elab.async false
set_option maxRecDepth 100000
noncomputable def lessS : List (Nat × Nat × Bool) := (List.range 31).map fun q => sym (2 * q + 1)
theorem less_runs : ∀ p ∈ [2, 4, 6, 8], noRun mayEq p 0 lessS (lessS.drop p) = true := by decide +kernel
noncomputable def lessC (f : Nat) : List Nat := lessS.map (letV f)
theorem less_run7 : ∀ a < 64, noRun Nat.beq 7 0 (lessC a) ((lessC a).drop 7) = true := by decide +kernel
theorem lessC_code (f : Nat) : lessC f = (List.range 31).map fun q => code f (2 * q + 1) := by
  unfold lessC lessS
  rw [List.map_map]
  apply List.map_congr_left
  intro q _
  exact (code_sym f _).symm
theorem shape_six : (shapeTo 6).all (fun p => decide (p.1 < 6)) = true := by decide +kernel
theorem bit_mod (f i : Nat) : bitAt f i = bitAt (f % 64) i := by
  have hk : ((shapeTo 6).getD i (0, false)).1 < 6 := by
    rw [List.getD_eq_getElem?_getD]
    cases h : (shapeTo 6)[i]? with
    | none => exact (by decide : 0 < 6)
    | some p => exact of_decide_eq_true (List.all_eq_true.mp shape_six p (List.mem_of_getElem? h))
  unfold bitAt valN
  generalize (shapeTo 6).getD i (0, false) = p at hk ⊢
  obtain ⟨k, s⟩ := p
  simp only at hk ⊢
  have : f / 2 ^ k % 2 = f % 64 / 2 ^ k % 2 := by
    rw [← Nat.toNat_testBit, ← Nat.toNat_testBit, show 64 = 2 ^ 6 from rfl, Nat.testBit_mod_two_pow, decide_eq_true hk, Bool.true_and]
  rw [this]
theorem lessC_mod (f : Nat) : lessC f = lessC (f % 64) := by
  rw [lessC_code, lessC_code]
  apply List.map_congr_left
  intro q _
  unfold code
  rw [bit_mod]
theorem lessS_cls : ∀ x ∈ lessS, x.1 < 2 := by
  intro x hx
  obtain ⟨q, _, rfl⟩ := List.mem_map.mp hx
  exact Nat.mod_lt _ (by decide)
theorem less_135 {f i : Nat} {co : List Nat} (h1 : 1 ≤ co.length) (h8 : co.length ≤ 8) (hO : Oc (lessC f) (co ++ co) i) : co.length = 1 ∨ co.length = 3 ∨ co.length = 5 := by
  have even : co.length ∈ [2, 4, 6, 8] → False := fun hm => by
    have hr : Run mayEq lessS (lessS.drop co.length) i co.length := oc_run (val := letV f) (fun x hx y hy e => mayEq_of f x y e (.inl (lessS_cls x hx)) (.inl (lessS_cls y hy))) hO
    exact (noRun_spec co.length lessS _ 0 (less_runs _ hm) h1).1 i hr
  have seven : co.length = 7 → False := fun h7 => by
    rw [lessC_mod] at hO
    have hO' : Oc ((lessC (f % 64)).map fun x => x) (co ++ co) i := by rw [List.map_id']; exact hO
    have hr : Run Nat.beq (lessC (f % 64)) ((lessC (f % 64)).drop co.length) i co.length := oc_run (val := fun x => x) (fun x _ y _ e => by
      have e' : x = y := e
      rw [e']; exact Nat.beq_refl y) hO'
    rw [h7] at hr
    exact (noRun_spec 7 _ _ 0 (less_run7 (f % 64) (Nat.mod_lt _ (by decide))) (by decide)).1 i hr
  have e2 : co.length ≠ 2 := fun e => even (by rw [e]; simp)
  have e4 : co.length ≠ 4 := fun e => even (by rw [e]; simp)
  have e6 : co.length ≠ 6 := fun e => even (by rw [e]; simp)
  have e8 : co.length ≠ 8 := fun e => even (by rw [e]; simp)
  have e7 : co.length ≠ 7 := seven
  clear even seven hO
  rcases (by decide : ∀ n < 9, n = 0 ∨ n = 1 ∨ n = 2 ∨ n = 3 ∨ n = 4 ∨ n = 5 ∨ n = 6 ∨ n = 7 ∨ n = 8) co.length (Nat.lt_succ_of_le h8) with e | e | e | e | e | e | e | e | e
  · rw [e] at h1; exact absurd h1 (by decide)
  · exact .inl e
  · exact absurd e e2
  · exact .inr (.inl e)
  · exact absurd e e4
  · exact .inr (.inr e)
  · exact absurd e e6
  · exact absurd e e7
  · exact absurd e e8
end Mine

-- PL3
namespace Mine
open PySem PySem.W PySem.Calls PyProof.Rows
set_option Elab.async false
set_option maxRecDepth 100000
noncomputable def dueB (less fo : List Nat) : Bool := decide (fo.length = 1 ∨ fo.length = 3 ∨ fo.length = 5) && (findFrom less (fo ++ fo) 0 less.length).isSome
theorem less_codes (f : Nat) : lessF f = (lessC f).map (phi (otherF f)) := by
  rw [lessF_pos, lessC_code, List.map_map]
  apply List.map_congr_left
  intro q _
  exact sgn_code f _
theorem lessC_lt (f : Nat) : ∀ c ∈ lessC f, c < 7 := by
  rw [lessC_code]
  intro c hc
  obtain ⟨q, _, rfl⟩ := List.mem_map.mp hc
  have := code_lt f (2 * q + 1); omega
noncomputable def one (o c : Nat) : List Nat := [phi o c]
theorem chk_one : ∀ o ∈ [9, 10, 13], chkSync (one o) = true := by decide +kernel
theorem flat_map (o : Nat) : ∀ l : List Nat, l.map (phi o) = l.flatMap (one o)
  | [] => rfl
  | a :: r => by rw [List.map_cons, List.flatMap_cons, flat_map o r]; rfl
theorem leaf_ask (f dr : Nat) (fo : List Nat) (hfo : cutF (lessF f) (dr % 31) (dr % 31 + 1 + dr / 31 % 8) = fo) : AskP (leafF f) (46 :: 46 :: 46 :: ((fo ++ fo).flatMap (wcode (handF f)) ++ [46, 46, 46])) (dueB (lessF f) fo) := by
  have hll := lessF_length f
  have hlc : (lessC f).length = 31 := by rw [← hll, less_codes, List.length_map]
  have hco : fo = (cutF (lessC f) (dr % 31) (dr % 31 + 1 + dr / 31 % 8)).map (phi (otherF f)) := by
    rw [← hfo, less_codes]
    unfold cutF
    rw [List.map_drop, List.map_take]
  have hc1 := cut_ne (P := lessC f) (pl := dr % 31) (bh := dr % 31 + 1 + dr / 31 % 8) (by omega) (by omega)
  have hc2 : (cutF (lessC f) (dr % 31) (dr % 31 + 1 + dr / 31 % 8)).length ≤ 8 := by rw [cut_len]; omega
  have hcm : ∀ c ∈ cutF (lessC f) (dr % 31) (dr % 31 + 1 + dr / 31 % 8), c < 7 := fun c hc => lessC_lt f c (cut_sub hc)
  generalize cutF (lessC f) (dr % 31) (dr % 31 + 1 + dr / 31 % 8) = co at hco hc1 hc2 hcm
  subst hco
  clear hfo
  have hcl : 1 ≤ co.length := by
    cases co with
    | nil => exact absurd rfl hc1
    | cons _ _ => simp
  have hcc : ∀ c ∈ co ++ co, c < 7 := fun c hc => by rcases List.mem_append.mp hc with h | h <;> exact hcm c h
  have hne : co ++ co ≠ [] := by simp [hc1]
  have e1 : (co.map (phi (otherF f)) ++ co.map (phi (otherF f))) = (co ++ co).map (phi (otherF f)) := (List.map_append ..).symm
  have e2 : ((co ++ co).map (phi (otherF f))).flatMap (wcode (handF f)) = (co ++ co).flatMap (word (handF f) (otherF f)) := by rw [List.flatMap_map]; rfl
  have e3 : leafF f = (lessC f).flatMap (word (handF f) (otherF f)) := by
    unfold leafF; rw [less_codes, List.flatMap_map]; rfl
  have i1 := (sync_f f).infix (lessC_lt f) hcc hne
  have i2 := (sync_of (chk_one _ (other_mem f))).infix (lessC_lt f) hcc hne
  have hwl : ((co ++ co).flatMap (word (handF f) (otherF f))).length ≤ 100 := by
    rw [← e2]
    have := (flat_len (handF f) ((co ++ co).map (phi (otherF f)))).2
    rw [List.length_map, List.length_append] at this; omega
  rw [e1, e2]
  refine ⟨[], (co ++ co).flatMap (word (handF f) (otherF f)), [[]], by simp [joinD], by simp, ?_, by simp only [List.length_cons, List.length_append, List.length_nil]; omega, ?_⟩
  · intro x hx
    simp only [List.mem_cons, List.not_mem_nil, or_false] at hx
    rcases hx with rfl | rfl | rfl
    · simp
    · refine ⟨by omega, fun hm => ?_⟩
      obtain ⟨c, hc, h⟩ := List.mem_flatMap.mp hm
      exact word_dot f (hcc c hc) h
    · simp
  · rw [w_one, e3]
    have s1 : (findFrom ((lessC f).flatMap (word (handF f) (otherF f))) ((co ++ co).flatMap (word (handF f) (otherF f))) 0 ((lessC f).flatMap (word (handF f) (otherF f))).length).isSome = true ↔ ∃ i, Oc (lessC f) (co ++ co) i := by
      rw [find_isSome (Nat.le_refl _), ← i1]
      exact ⟨fun ⟨k, _, _, h⟩ => ⟨k, h⟩, fun ⟨k, h⟩ => ⟨k, Nat.zero_le _, h.1, h⟩⟩
    have s2 : (findFrom (lessF f) (co.map (phi (otherF f)) ++ co.map (phi (otherF f))) 0 (lessF f).length).isSome = true ↔ ∃ i, Oc (lessC f) (co ++ co) i := by
      rw [find_isSome (Nat.le_refl _), e1, less_codes, flat_map, flat_map, ← i2]
      exact ⟨fun ⟨k, _, _, h⟩ => ⟨k, h⟩, fun ⟨k, h⟩ => ⟨k, Nat.zero_le _, h.1, h⟩⟩
    unfold dueB
    rw [Bool.eq_iff_iff, Bool.and_eq_true, decide_eq_true_iff, s1, s2, List.length_map]
    constructor
    · rintro ⟨i, hi⟩
      exact ⟨less_135 hcl hc2 hi, i, hi⟩
    · exact fun h => h.2
end Mine

-- F11e
namespace Mine
open PySem PySem.W PySem.Calls PyProof.Rows
set_option Elab.async false
set_option maxRecDepth 100000
set_option maxHeartbeats 4000000
local macro_rules | `(tactic| walk_at "subscriptTail Name Slice str ref") => `(tactic| refine stopHere ?_)
noncomputable def mFo (ax : Addr) (f : Nat) (t1 t6 t7 t8 : Tok) (mr : Str → Option Value) (dr : Nat) (td : Tok) (fo : List Nat) (tf : Tok) : Str → Option Value := fun z => if z = "folds" then some (.str (ofL fo) tf) else mD ax f t1 t6 t7 t8 mr dr td z
theorem folds_cut (l : List Nat) (dr : Nat) : Txt.slice (ofL l) (some ((dr : Int).fmod 31)) (some ((dr : Int).fmod 31 + 1 + ((dr : Int).fdiv 31).fmod 8)) = ofL (cutF l (dr % 31) (dr % 31 + 1 + dr / 31 % 8)) := by
  have e1 : (dr : Int).fmod 31 = ((dr % 31 : Nat) : Int) := by
    rw [Int.fmod_eq_emod_of_nonneg _ (by decide)]; norm_cast
  have e2 : (dr : Int).fmod 31 + 1 + ((dr : Int).fdiv 31).fmod 8 = ((dr % 31 + 1 + dr / 31 % 8 : Nat) : Int) := by
    rw [Int.fdiv_eq_ediv_of_nonneg _ (by decide), Int.fmod_eq_emod_of_nonneg _ (by decide), Int.fmod_eq_emod_of_nonneg _ (by decide)]; norm_cast
  rw [e2, e1, slice_ss]; rfl
theorem sliceSS {prog : Program} {w : World} {A : Around} {E : Value → Shared → Prop} {s : Shared} {h₀ : Heap} {L : Addr} {m : Str → Option Value} {news : List (Addr × Obj)} {value slice : PySem.Expr} {l z : List Nat} {t : Tok} {i j : Int} {ui uj : Tok} {Q : Value → Shared → Prop} (hz : Txt.slice (ofL l) (some i) (some j) = ofL z) (hF : Fr h₀ L s.heap m) (hN : News h₀ L s.heap news) (hl : l.length ≤ 1000) (h : ∀ h' t' k, Fr h₀ L h' m → News h₀ L h' news → Q (.str (ofL z) t') { s with heap := h', toks := k })
    (hs : subscripted slice false (.str (ofL l) t) (.ref s.heap.objs.size) = operate [.ref s.heap.objs.size, .str (ofL l) t] (getItem (.str (ofL l) t) (.ref s.heap.objs.size)))
    (ht : ∀ r, letTemporaryGo value (.str (ofL l) t) r = pure ()) :
    wpAny (model prog w) A (subscriptTail value slice (.str (ofL l) t) (.ref s.heap.objs.size)) Q E { s with heap := s.heap.push { cls := .type "slice", data := .fields #[.int i ui, .int j uj, .none] } } :=
  slice_strN_ss hF hN (fun h' t' k F N => by rw [hz]; exact h h' t' k F N) hs ht (by rw [ofL_length, sizeLine_eq]; omega)
theorem inT {prog : Program} {w : World} {A : Around} {E : Value → Shared → Prop} {s : Shared} {g p : List Nat} {t u : Tok} {Q : Value → Shared → Prop} (hq : Q (.bool (findFrom g p 0 g.length).isSome) s) : wpAny (model prog w) A (compareOp .In (.str (ofL p) u) (.str (ofL g) t)) Q E s := by
  refine PyProof.Rows.in_str ?_
  have e : (!(Builtin.Str.occurrences (ofL g) (ofL p) 0 (ofL g).length 1).isEmpty) = (findFrom g p 0 g.length).isSome := by
    rw [← occ_find, ofL_length]
    cases Builtin.Str.occurrences (ofL g) (ofL p) 0 g.length 1 <;> rfl
  rw [e]; exact hq
theorem any135 (n : Nat) : ([1, 3, 5] : List Int).any (fun x => x == (n : Int)) = decide (n = 1 ∨ n = 3 ∨ n = 5) := by
  refine bool_of ?_
  simp only [List.any_cons, List.any_nil, Bool.or_false, Bool.or_eq_true, beq_iff_eq]
  rw [show (1 : Int) = ((1 : Nat) : Int) from rfl, show (3 : Int) = ((3 : Nat) : Int) from rfl, show (5 : Int) = ((5 : Nat) : Int) from rfl, Int.ofNat_inj, Int.ofNat_inj, Int.ofNat_inj, eq_comm, eq_comm (a := 3), eq_comm (a := 5)]
theorem dueB_t {less fo : List Nat} (hc : ([1, 3, 5] : List Int).any (fun x => x == (fo.length : Int)) = true) : dueB less fo = (findFrom less (fo ++ fo) 0 less.length).isSome := by
  unfold dueB; rw [← any135, hc, Bool.true_and]
theorem dueB_f {less fo : List Nat} (hc : ([1, 3, 5] : List Int).any (fun x => x == (fo.length : Int)) = false) : dueB less fo = false := by
  unfold dueB; rw [← any135, hc, Bool.false_and]
noncomputable def mDue (ax : Addr) (f : Nat) (t1 t6 t7 t8 : Tok) (mr : Str → Option Value) (dr : Nat) (td : Tok) (fo : List Nat) (tf : Tok) (b : Bool) : Str → Option Value := fun z => if z = "due" then some (.bool b) else mFo ax f t1 t6 t7 t8 mr dr td fo tf z
theorem mDue_of (ax : Addr) (f : Nat) (t1 t6 t7 t8 : Tok) (mr : Str → Option Value) (dr : Nat) (td : Tok) (fo : List Nat) (tf : Tok) (b : Bool) : mDue ax f t1 t6 t7 t8 mr dr td fo tf b = mTurn ax f t1 t6 t7 t8 (mDue ax f t1 t6 t7 t8 mr dr td fo tf b) := mTurn_of ax f t1 t6 t7 t8 _ rfl rfl rfl rfl rfl
local macro_rules | `(tactic| walk_at "compareOp In str str") => `(tactic| refine inT ?_)
theorem ellJ {w : World} {A : Around} {s : Shared} {Q E : Value → Shared → Prop} {want got w0 v0 : List Nat} {r : List (List Nat)} {t1 t2 : Tok} (hw : want = joinD (w0 :: v0 :: r)) (hr : r.length ≤ 900) (hx : ∀ x ∈ w0 :: v0 :: r, x.length ≤ 10000 ∧ 46 ∉ x) (hl : want.length ≤ 10000) (hg : got.length ≤ 10000) (G : Gd w s.heap) (hroom : A.depth < recursionLimit) (hh : A.handled = none)
   (h : ∀ h' tk, Ext s.heap h' → Q (.bool (ellW (w0 :: v0 :: r) got)) { s with heap := h', toks := tk }) :
   wpAny (model Challenge.rw_wa0026_01.row.prog w) A (call (.ref 21) [.str (ofL want) t1, .str (ofL got) t2]) Q E s := by
  subst hw
  exact ellIn (ws := w0 :: v0 :: r) hl hg (in_dots w0 v0 r) (split_dots w0 v0 r fun y hy => (hx y hy).2) (by simp) (by simp only [List.length_cons]; omega) (fun y hy => (hx y hy).1) G hroom hh h
theorem turnE {w : World} {A : Around} {s : Shared} {Qf : Flow → Shared → Prop} {ax L : Addr} {f : Nat} {t1 t6 t7 t8 : Tok} {mr : Str → Option Value} {dr : Nat} {td : Tok} {h' : Heap} {tk : Nat} {g : Array GenState} {own : List (Addr × Obj)} (G : Gd w s.heap) (hh : A.handled = none) (hroom : A.depth + 3 < recursionLimit) (hu : A.units + 20 < cLine)
   (F : Fr s.heap L h' (mD ax f t1 t6 t7 t8 mr dr td)) (N : News s.heap L h' own)
   (h : ∀ h' tk mr', Fr s.heap L h' (mTurn ax f t1 t6 t7 t8 mr') → News s.heap L h' own → Qf .next { s with heap := h', toks := tk, gens := g }) :
   TurnRest w A L 7 Qf { s with heap := h', toks := tk, gens := g } := by
  obtain ⟨hd0, dp, frs, gds, un⟩ := A
  simp only at hh hroom hu
  subst hh
  have G0 := G
  obtain ⟨X, mg, mb, T⟩ := G
  revert X
  have hcon : (model Challenge.rw_wa0026_01.row.prog w) = (model Challenge.rw_wa0026_01.row.prog w) := rfl
  revert hcon
  k_fill
  intro _ X
  refine' turnRest_mk ?ho ?e5 ?e ?_
  case ho => k_is
  case e5 => exact rfl
  case e => exact rfl
  simp only [List.drop_succ_cons, List.drop_zero]
  have hpl := leaf_len f
  have hll := lessF_length f
  with_reducible refine seqO (fun s' => ∃ h' tk tf, s' = { s with heap := h', toks := tk, gens := g } ∧ Fr s.heap L h' (mFo ax f t1 t6 t7 t8 mr dr td (cutF (lessF f) (dr % 31) (dr % 31 + 1 + dr / 31 % 8)) tf) ∧ News s.heap L h' own) ?_ ?_
  · intro R hNx hRt
    repeat' (first | ((with_reducible show wpAny _ _ (PySem.call (Value.builtin "len") [_]) _ _ _); (refine' lenL ?hz ?_; (case hz => omega))) | ((with_reducible show wpAny _ _ (binaryOp Operator.Add (Value.str _ _) (Value.str _ _)) _ _ _); ((try rw [l_dots]); refine' addL ?hz ?_; (case hz => ((try simp only [List.length_append, List.length_cons, List.length_nil]); omega)); intro _ _)) | walk1)
    unfold Stopped
    refine' sliceSS (s := ⟨_, _, _, _, _⟩) (folds_cut (lessF f) dr) F N (by omega) (fun h8 tq c8 F8 N8 => ?hm) (by with_unfolding_all rfl) (by intro _; with_unfolding_all rfl)
    repeat' (first | ((with_reducible show wpAny _ _ (PySem.call (Value.builtin "len") [_]) _ _ _); (refine' lenL ?hz ?_; (case hz => omega))) | ((with_reducible show wpAny _ _ (binaryOp Operator.Add (Value.str _ _) (Value.str _ _)) _ _ _); ((try rw [l_dots]); refine' addL ?hz ?_; (case hz => ((try simp only [List.length_append, List.length_cons, List.length_nil]); omega)); intro _ _)) | walk1)
    rename_i h9 F9 N9
    exact hNx _ ⟨h9, _, _, rfl, F9, N9⟩
  clear F N
  rintro _ ⟨h7, tk7, tf, rfl, F7, N7⟩
  have hfl : (cutF (lessF f) (dr % 31) (dr % 31 + 1 + dr / 31 % 8)).length ≤ 8 := by rw [cut_len]; omega
  generalize hfo : cutF (lessF f) (dr % 31) (dr % 31 + 1 + dr / 31 % 8) = fo at F7 hfl
  with_reducible refine seqO (fun s' => ∃ h' tk, s' = { s with heap := h', toks := tk, gens := g } ∧ Fr s.heap L h' (mDue ax f t1 t6 t7 t8 mr dr td fo tf (dueB (lessF f) fo)) ∧ News s.heap L h' own) ?_ ?_
  · intro R hNx hRt
    repeat' (first | ((with_reducible show wpAny _ _ (PySem.call (Value.builtin "len") [_]) _ _ _); (refine' lenL ?hz ?_; (case hz => omega))) | ((with_reducible show wpAny _ _ (binaryOp Operator.Add (Value.str _ _) (Value.str _ _)) _ _ _); ((try rw [l_dots]); refine' addL ?hz ?_; (case hz => ((try simp only [List.length_append, List.length_cons, List.length_nil]); omega)); intro _ _)) | walk1)
    · rename_i hc _ _ h9 F9 N9
      refine hNx _ ⟨h9, _, rfl, ?_, News.sub N9 fun p hp => .tail _ hp⟩
      rw [dueB_t hc]; exact F9
    · rename_i hc h9 F9 N9
      refine hNx _ ⟨h9, _, rfl, ?_, News.sub N9 fun p hp => .tail _ hp⟩
      rw [hc] at F9
      rw [dueB_f hc]; exact F9
  clear F7 N7
  rintro _ ⟨h8, tk8, rfl, F8, N8⟩
  have hhd := handF_lt f
  obtain ⟨w0, v0, r, eask, hr, hx, hl, he⟩ := leaf_ask f dr fo hfo
  generalize dueB (lessF f) fo = due at F8 he
  repeat' (first | ((with_reducible show wpAny _ _ (PySem.call (Value.builtin "len") [_]) _ _ _); (refine' lenL ?hz ?_; (case hz => omega))) | ((with_reducible show wpAny _ _ (binaryOp Operator.Add (Value.str _ _) (Value.str _ _)) _ _ _); ((try rw [l_dots]); refine' addL ?hz ?_; (case hz => ((try simp only [List.length_append, List.length_cons, List.length_nil]); omega)); intro _ _)) | walk1)
  unfold Stopped
  refine wrt (by rw [List.length_append]; omega) (by omega) (by omega) (Gd.keeps G0 F8.keep) (by show dp + 1 < recursionLimit; omega) (by show un + 3 + 8 < cLine; omega) rfl fun h9 t9 tk9 hx9 => ?_
  have F9 := Fr.grownK F8 hx9
  have N9 := News.grown N8 hx9
  clear F8 N8
  have e1 : (fo ++ fo).flatMap (wcode ((handF f : Nat) : Int).toNat) = (fo ++ fo).flatMap (wcode (handF f)) := by rw [Int.toNat_natCast]
  rw [e1]
  have hwl : ((fo ++ fo).flatMap (wcode (handF f))).length ≤ 100 := by
    have := (flat_len (handF f) (fo ++ fo)).2
    rw [List.length_append] at this; omega
  repeat' (first | ((with_reducible show wpAny _ _ (PySem.call (Value.builtin "len") [_]) _ _ _); (refine' lenL ?hz ?_; (case hz => omega))) | ((with_reducible show wpAny _ _ (binaryOp Operator.Add (Value.str _ _) (Value.str _ _)) _ _ _); ((try rw [l_dots]); refine' addL ?hz ?_; (case hz => ((try simp only [List.length_append, List.length_cons, List.length_nil]); omega)); intro _ _)) | walk1)
  unfold Stopped
  refine ellJ eask hr hx hl (by omega) (Gd.keeps G0 F9.keep) (by show dp + 1 < recursionLimit; omega) rfl fun h5 tk5 hx5 => ?_
  rw [he]
  have F5 := Fr.grownK F9 hx5
  have N5 := News.grown N9 hx5
  clear F9 N9
  repeat' (first | ((with_reducible show wpAny _ _ (PySem.call (Value.builtin "len") [_]) _ _ _); (refine' lenL ?hz ?_; (case hz => omega))) | ((with_reducible show wpAny _ _ (binaryOp Operator.Add (Value.str _ _) (Value.str _ _)) _ _ _); ((try rw [l_dots]); refine' addL ?hz ?_; (case hz => ((try simp only [List.length_append, List.length_cons, List.length_nil]); omega)); intro _ _)) | walk1)
  · rename_i hc
    simp at hc
  · exact h h5 _ _ (mDue_of ax f t1 t6 t7 t8 mr dr td fo tf due ▸ F5) N5
end Mine

-- F11
namespace Mine
open PySem PySem.W PySem.Calls PyProof.Rows
set_option Elab.async false
set_option maxRecDepth 100000
set_option maxHeartbeats 4000000
theorem law5 {w : World} {A : Around} {s : Shared} {Q : Value → Shared → Prop} {ax L : Addr} {f : Nat} {tf t1 t2 t3 t4 t5 t6 t7 t8 u : Tok} {h' : Heap} {tk : Nat} {g : Array GenState} {vs : List Value} {ns : List Int} (hL : s.heap.IsList ax vs.toArray) (hI : IntsAre vs ns) (hlen : ns.length ≤ 63) (hf : f < 1000000) (G : Gd w s.heap) (hh : A.handled = none) (hroom : A.depth + 3 < recursionLimit) (hu : A.units + 20 < cLine)
   (F : Fr s.heap L h' (mPage ax f tf t1 t2 t3 t4 t5 t6 t7 t8))
   (h : ∀ h' tk m, Fr s.heap L h' m → m "page" = some (.str (ofL (pageF f)) t7) → LawRest w A L 16 Q { s with heap := h', toks := tk, gens := g }) :
   LawRest w A L 15 Q { s with heap := h', toks := tk, gens := g } := by
  obtain ⟨hd0, dp, frs, gds, un⟩ := A
  simp only at hh hroom hu
  subst hh
  have G0 := G
  obtain ⟨X, mg, mb, T⟩ := G
  revert X
  have hcon : (model Challenge.rw_wa0026_01.row.prog w) = (model Challenge.rw_wa0026_01.row.prog w) := rfl
  revert hcon
  k_fill
  intro _ X
  have N : News s.heap L h' [] := News.nil
  refine' lawRest_mk ?ho ?e ?_
  case ho => k_is
  case e => exact rfl
  simp only [List.drop_succ_cons, List.drop_zero]
  with_reducible refine seqR (fun s' => ∃ h' tk m, s' = { s with heap := h', toks := tk, gens := g } ∧ Fr s.heap L h' m ∧ m "page" = some (.str (ofL (pageF f)) t7)) ?_ ?_
  · refine forT s.heap rfl rfl rfl ?_ (fun _ => rfl)
    repeat' walk1
    rename_i D h1 F1 N1 _
    unfold Stopped
    have hDl : D < h1.objs.size := Heap.lt_size (N1 _ (.head _)).1
    have hDt' : ∃ its : Array Value, h1.IsTuple D its ∧ ∀ v ∈ its.toList, ∃ n u, v = .int n u ∧ 0 ≤ n ∧ n < 1000000 := by
      refine ⟨_, News.isTup N1 (.head _), ?_⟩
      intro v hv
      simp only [List.mem_cons, List.not_mem_nil, or_false] at hv
      rcases hv with rfl | rfl | rfl | rfl | rfl | rfl | rfl | rfl <;> exact ⟨_, _, rfl, by decide, by decide⟩
    obtain ⟨its, hDt, hits⟩ := hDt'
    refine call_enum_tup hDt fun h9 he hit hz9 hk9 => ?_
    replace hk9 : Ext h1 h9 := hk9
    have F9 := Fr.grownK F1 hk9
    have N9 : News s.heap L h9 [] := News.nil
    refine wpAny_pyIter_enum he ?_
    have fr1 : ∀ b, h1.objs.size ≤ b → s.heap.get? b = none := by
      intro b hb
      cases hq : s.heap.get? b with
      | none => rfl
      | some o => exact absurd (Heap.lt_size (F1.keep _ _ hq)) (Nat.not_lt.mpr hb)
    have hLlt : L < h1.objs.size := F1.ns.lt
    have hDL : D ≠ L := (N1 _ (.head _)).2.1
    refine' ⟨_, _, _, _, _, _, _, _, _, fun i m news => news = [] ∧ ∃ mr, m = mTurn ax f t1 t6 t7 t8 mr, rfl, rfl, (WalksT.enumerateD (Draws.tup rfl h1.objs.size D (Nat.ne_of_lt hDl) its) (h1.objs.size + 1) (Nat.succ_ne_self _) ?c1 (.head _)).toU, ?c2, ?c3, ?c4, ⟨⟨_, he⟩, hit, ?c5⟩, F9, N9, ?c6, ?c7, ?c8, ?c9⟩
    case c1 =>
      intro hm
      rcases List.mem_cons.mp hm with e | e
      · exact absurd e (Nat.succ_ne_self _)
      · exact absurd (List.mem_singleton.mp e) (Nat.ne_of_gt (Nat.lt_succ_of_lt hDl))
    case c2 =>
      intro hm
      have hm' : L ∈ [h1.objs.size + 1, h1.objs.size, D] := hm
      simp only [List.mem_cons, List.not_mem_nil, or_false] at hm'
      rcases hm' with e | e | e
      · exact absurd e (Nat.ne_of_lt (Nat.lt_succ_of_lt hLlt))
      · exact absurd e (Nat.ne_of_lt hLlt)
      · exact absurd e.symm hDL
    case c3 =>
      intro b hb
      rcases List.mem_cons.mp hb with rfl | hb
      · exact fr1 _ (Nat.le_succ _)
      · rw [List.mem_singleton.mp hb]; exact fr1 _ (Nat.le_refl _)
    case c4 => intro p hp; cases hp
    case c5 => exact let ⟨o, ho, r⟩ := hDt; ⟨o, hk9 _ _ ho, r⟩
    case c6 => rintro i _ ⟨t, x, _, rfl⟩; exact ⟨_, _, rfl⟩
    case c7 => exact ⟨rfl, _, mTurn_of _ _ _ _ _ _ _ rfl rfl rfl rfl rfl⟩
    case c8 =>
      rintro i x y _ _ s₁ own hi ⟨tx, y', hy, e⟩ ⟨rfl, mr, rfl⟩ hnw hs1 F2 N2
      have e1 : x = .int i tx ∧ y = y' := by
        have := congrArg Array.toList e
        simp only [List.cons.injEq, and_true] at this
        exact this
      obtain ⟨rfl, rfl⟩ := e1
      obtain ⟨st, ut, rfl, hs0, hs9⟩ := hits y (by
        have := Array.mem_of_getElem? hy
        simpa using this)
      replace F2 : Fr s.heap L s₁.heap (mStart ax f t1 t6 t7 t8 mr i tx st ut) := F2
      replace N2 : News s.heap L s₁.heap (own ++ []) := N2
      rw [List.append_nil] at N2
      have hs2 : s₁ = { s with heap := s₁.heap, toks := s₁.toks, gens := g } := hs1
      have hpl := page_len f
      clear F9 N9 N1 F1
      have key : ∀ Qf : Flow → Shared → Prop, (∀ h' tk mr', Fr s.heap L h' (mTurn ax f t1 t6 t7 t8 mr') → News s.heap L h' own → Qf .next { s with heap := h', toks := tk, gens := g }) → TurnRest w { depth := dp, frames := frs, guards := gds, units := un } L 0 Qf { s with heap := s₁.heap, toks := s₁.toks, gens := g } := by
        intro Qf hQf
        refine turnA hL hI hlen hs0 hs9 G0 rfl F2 N2 fun h3 tk3 dr td tp tb tc hdr F3 N3 => ?_
        have hlt : dr % (pageF f).length < (pageF f).length := Nat.mod_lt _ (by omega)
        have hlt2 : dr / (pageF f).length % ((pageF f).length / 2) < (pageF f).length / 2 := Nat.mod_lt _ (by omega)
        refine turnB G0 rfl F3 N3 fun h4 tk4 tl tm F4 N4 => ?_
        refine turnC hlt (by omega) (by omega) G0 rfl F4 N4 fun h5 tk5 D5 mr5 F5 N5 A5 => ?_
        refine turnD G0 rfl hroom hu F5 N5 A5 fun h6 tk6 mr6 F6 N6 => ?_
        exact turnE G0 rfl hroom hu F6 N6 hQf
      rw [hs2]
      refine' turnRest_use (key _ ?kq) ?ho ?e5 ?e
      case kq =>
        intro h7 tk7 mr7 F7 N7
        refine ⟨h7, tk7, _, [], rfl, F7, ?_, hnw, rfl, _, rfl⟩
        rw [List.append_nil]; exact N7
      case ho => k_is
      case e5 => exact rfl
      case e => exact rfl
    case c9 =>
      rintro h2 tk2 m2 news2 F2 N2 _ ⟨_, mr, rfl⟩
      exact ⟨h2, tk2, _, rfl, F2, rfl⟩
  clear F N
  rintro _ ⟨h2, tk2, m, rfl, F, hm⟩
  refine' lawRest_use (h h2 tk2 m F hm) ?ho ?e
  case ho => k_is
  case e => exact rfl
end Mine

-- F12
namespace Mine
open PySem PySem.W PySem.Calls PyProof.Rows
set_option Elab.async false
set_option maxRecDepth 100000
set_option maxHeartbeats 4000000
theorem l_plus : Str.ofString "+" = ofL [43] := by decide
noncomputable def mPg (f : Nat) (t7 : Tok) (m : Str → Option Value) : Str → Option Value := fun y => if y = "page" then some (.str (ofL (pageF f)) t7) else m y
theorem mPg_of {f : Nat} {t7 : Tok} {m : Str → Option Value} (h : m "page" = some (.str (ofL (pageF f)) t7)) : ∀ y, m y = mPg f t7 m y := by
  intro y; unfold mPg
  by_cases e : y = "page"
  · subst e; rw [h]; rfl
  · rw [if_neg e]
theorem law6 {w : World} {A : Around} {s : Shared} {Q : Value → Shared → Prop} {L : Addr} {f : Nat} {t7 : Tok} {m : Str → Option Value} {h' : Heap} {tk : Nat} {g : Array GenState} (G : Gd w s.heap) (hh : A.handled = none) (hroom : A.depth + 3 < recursionLimit) (hu : A.units + 20 < cLine)
   (F : Fr s.heap L h' m) (hm : m "page" = some (.str (ofL (pageF f)) t7))
   (h : ∀ h' tk, Ext s.heap h' → Q (.bool true) { s with heap := h', toks := tk, gens := g }) :
   LawRest w A L 16 Q { s with heap := h', toks := tk, gens := g } := by
  obtain ⟨hd0, dp, frs, gds, un⟩ := A
  simp only at hh hroom hu
  subst hh
  have G0 := G
  obtain ⟨X, mg, mb, T⟩ := G
  revert X
  have hcon : (model Challenge.rw_wa0026_01.row.prog w) = (model Challenge.rw_wa0026_01.row.prog w) := rfl
  revert hcon
  k_fill
  intro _ X
  have N : News s.heap L h' [] := News.nil
  replace F := Fr.to F (mPg_of hm)
  have hpl := page_len f
  have hnd := page_nodot f
  refine' lawRest_mk ?ho ?e ?_
  case ho => k_is
  case e => exact rfl
  simp only [List.drop_succ_cons, List.drop_zero]
  with_reducible refine lastJ ?_
  repeat' (first | ((with_reducible show wpAny _ _ (binaryOp Operator.Add (Value.str _ _) (Value.str _ _)) _ _ _); ((try rw [l_plus]); refine' addL ?hz ?_; (case hz => ((try simp only [List.length_append, List.length_cons, List.length_nil]); omega)); intro _ _)) | walk1)
  unfold Stopped
  refine ellNo (by omega) (by omega) (no_dots _ hnd) (Gd.keeps G0 F.keep) (by show dp + 1 < recursionLimit; omega) rfl fun h5 tk5 hx5 => ?_
  have F5 := Fr.grownK F hx5
  have N5 := News.grown N hx5
  clear F N
  rw [show decide (pageF f = pageF f) = true from decide_eq_true rfl]
  repeat' (first | ((with_reducible show wpAny _ _ (binaryOp Operator.Add (Value.str _ _) (Value.str _ _)) _ _ _); ((try rw [l_plus]); refine' addL ?hz ?_; (case hz => ((try simp only [List.length_append, List.length_cons, List.length_nil]); omega)); intro _ _)) | walk1)
  unfold Stopped
  refine ellNo (by omega) (by rw [List.length_append]; simp only [List.length_cons, List.length_nil]; omega) (no_dots _ hnd) (Gd.keeps G0 F5.keep) (by show dp + 1 < recursionLimit; omega) rfl fun h6 tk6 hx6 => ?_
  have hne : ¬ pageF f = pageF f ++ [43] := by
    intro e
    have := congrArg List.length e
    rw [List.length_append] at this
    simp at this
  rw [show decide (pageF f = pageF f ++ [43]) = false from decide_eq_false hne]
  have F6 := Fr.grownK F5 hx6
  have N6 := News.grown N5 hx6
  clear F5 N5
  repeat' (first | ((with_reducible show wpAny _ _ (binaryOp Operator.Add (Value.str _ _) (Value.str _ _)) _ _ _); ((try rw [l_plus]); refine' addL ?hz ?_; (case hz => ((try simp only [List.length_append, List.length_cons, List.length_nil]); omega)); intro _ _)) | walk1)
  exact h h6 _ F6.keep
end Mine

-- Z1
namespace Mine
open PySem PySem.W PySem.Calls PyProof.Rows
set_option Elab.async false
set_option maxRecDepth 100000
set_option maxHeartbeats 4000000
theorem lawAll {w : World} {A : Around} {s : Shared} {Q E : Value → Shared → Prop} {ax : Addr} {vs : List Value} {ns : List Int} (hL : s.heap.IsList ax vs.toArray) (hI : IntsAre vs ns) (hlen : ns.length ≤ 63) (G : Gd w s.heap)
   (hroom : A.depth + 3 < recursionLimit) (hu : A.units + 20 < cLine) (hh : A.handled = none)
   (h : ∀ h' tk g, FinG s.gens g → Ext s.heap h' → Q (.bool true) { s with heap := h', toks := tk, gens := g }) :
   wpAny (model Challenge.rw_wa0026_01.row.prog w) A (call (.ref 99) [.ref ax]) Q E s := by
  refine law1 hL hI hlen G hroom hu hh fun L f h1 tk1 tf t1 t2 t3 t4 oC u hf F1 N1 hoC => ?_
  refine law2 hf G hh F1 N1 hoC fun h2 tk2 t5 F2 N2 => ?_
  refine law3 hf G hh hroom hu F2 N2 hoC fun h3 tk3 g t6 hg F3 N3 => ?_
  refine law4 (u := u) hf G hh hroom hu F3 N3 fun h4 tk4 t7 t8 F4 => ?_
  refine law5 (u := u) hL hI hlen hf G hh hroom hu F4 fun h5 tk5 m F5 hm => ?_
  exact law6 G hh hroom hu F5 hm fun h6 tk6 hx => h h6 tk6 g hg hx
theorem bareG {g0 g : Array GenState} (h0 : g0 = #[]) (h : FinG g0 g) : AllBare g := by
  induction h with
  | refl => subst h0; exact AllBare.empty
  | push _ ih =>
    intro y hy
    rcases Array.mem_push.mp hy with hy | hy
    · exact ih y hy
    · subst hy; rfl
theorem endWG {c : ClaimW} {cl : Str → Option Addr} {mean : ExcName → Option Value} {args : List WData} {s₁ : Shared} {h : Heap} {g : Array GenState} {t : Nat} (hk : Ext s₁.heap h) (hr : ∀ cls, c.raises args cls = false) (hp : c.post args (.bool true) args = true) (hb : AllBare g) :
    GoodWG c cl mean args s₁ (.ok (.ret (.bool true))) { s₁ with heap := h, toks := t, gens := g } :=
  ⟨.inl ⟨_, _, [], rfl, hr, ReadsW.bool true, hp, fun _ => ⟨List.nodup_nil, fun _ hm => (nomatch hm)⟩⟩, .of_keep hk, rfl, hb⟩
theorem top : PySem.Challenge.rw_wa0026_01.Holds := hd (by
  k_fill
  intro w s₀ s₁ mg mb G Y fa o pm cd doc dV kV ho hdt hcd hD hmg hg args vals as hpre hlay hrd hwl hlo
  have KX := kIn_of Y
  refine Ground.open G ?_
  intro T B D TE TW
  have G0 : Gd w s₁.heap := ⟨KX, mg, mb, topRead_of T⟩
  have hfa : fa = 99 := by
    have e1 := mg_of KX T.g (n := "law") (v := .ref 99) (by k_is)
    have e2 := Option.some.inj (e1.symm.trans hmg)
    injection e2 with e3
    exact e3.symm
  clear hD hmg TE TW D B ho hdt hcd
  wrow_args hpre hlay hrd hwl hlo
  rename_i ns _ _ _ _ _ _ _ ax vs _ hL _ _ _ hI _ hc _
  subst hfa
  show wpAny _ callerA (PySem.call (.ref 99) [.ref ax]) _ _ s₁
  refine lawAll hL hI (by omega) G0 (by decide) (by decide) rfl fun h' tk g hf hx => endWG hx (fun _ => rfl) ?_ (bareG hg hf)
  first | rfl | wrow_post)
end Mine

theorem PySem.Challenge.cw_wa0026_01_holds : PySem.Challenge.rw_wa0026_01.Holds := by
  exact Mine.top

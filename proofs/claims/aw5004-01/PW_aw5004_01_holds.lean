import PyProof.Rows.All
import Wide.All
import OpenK.AllK
import Wide.FinOn
import KE.KNest
import Lean
import PySem.Challenge.RW_aw5004_01
open PySem PySem.W PyProof.Rows PySem.Calls PySem.Spec PyProof.Rows.LCg
set_option Elab.async false
set_option maxRecDepth 100000
set_option maxHeartbeats 8000000
set_option linter.all false
namespace Mine
open_top hd for PySem.Challenge.rw_aw5004_01
theorem topOff : True := by
  w_top off
  trivial
end Mine
namespace Mine
abbrev NR : Value → Shared → Prop := fun _ _ => False
abbrev Led := List (Addr × Obj)
abbrev Loc := Str → Option Value

section loops
variable {prog : Program} {w : World} {A : Around} {s : Shared} {env : Env} {h₀ : Heap} {L : Addr}

/-- between two turns of a loop: the frame, the ledger (the iterator first), the word -/
def TurnAt (h₀ : Heap) (L I : Addr) (oI : Obj) (S : Led → Prop) (J : Loc → Led → Prop) (s s₂ : Shared) : Prop :=
  s₂.os = s.os ∧ AllBare s₂.gens ∧ ∃ m₂ news₂, Fr h₀ L s₂.heap m₂ ∧ News h₀ L s₂.heap ((I, oI) :: news₂) ∧ (∀ p ∈ news₂, p.1 ≠ I) ∧ S news₂ ∧ J m₂ news₂
def BodyEnd (h₀ : Heap) (L I : Addr) (oI : Obj) (S : Led → Prop) (J : Loc → Led → Prop) (s : Shared) (Q : Flow → Shared → Prop) (f : Flow) (s₂ : Shared) : Prop :=
  match f with
  | .ret v => Q (.ret v) s₂
  | .brk => Q .next s₂
  | .next => TurnAt h₀ L I oI S J s s₂
  | .cont => TurnAt h₀ L I oI S J s s₂

theorem forW {target : Expr} {body : List Stmt} {R : Result → Shared → Prop} {Q : Flow → Shared → Prop} {I : Addr} {fp : List Addr} {n : Nat} {P : Nat → Value → Prop} {St : Nat → Heap → Prop} {S : Led → Prop} {m : Loc} {news : Led} (s₀ : Shared)
    (W : Walks prog w A I fp [I] n P St) (hIo : ∀ i h, St i h → ∃ o, h.get? I = some o)
    (hSt : ∀ i h h' o nw, St i h → h.get? I = some o → h'.get? I = some o → (∀ b o, h₀.get? b = some o → h'.get? b = some o) → News h₀ L h' nw → S nw → St i h')
    (hIL : L ≠ I) (hI₀ : h₀.get? I = none) (ht : ∀ it v, letOwnedTupleGo target it v = pure ())
    (J : Nat → Loc → Led → Prop)
    (hst : St 0 s.heap) (F : Fr h₀ L s.heap m) (N : News h₀ L s.heap news) (off : ∀ p ∈ news, p.1 ≠ I) (hS : S news) (hg : AllBare s.gens) (hos : s.os = s₀.os) (hj : J 0 m news)
    (turn : ∀ i v m₁ news₁ oI s₁, i < n → P i v → J i m₁ news₁ → S news₁ → s₁.os = s₀.os → AllBare s₁.gens → Fr h₀ L s₁.heap m₁ → News h₀ L s₁.heap ((I, oI) :: news₁) → (∀ p ∈ news₁, p.1 ≠ I) →
      wpAny (model prog w) A (assign target env v) (fun _ s₂ => wpAny (model prog w) A (execs body env) (BodyEnd h₀ L I oI S (J (i + 1)) s₀ Q) NR s₂) NR s₁)
    (done : ∀ m₁ news₁ s₁, J n m₁ news₁ → S news₁ → s₁.os = s₀.os → AllBare s₁.gens → Fr h₀ L s₁.heap m₁ → News h₀ L s₁.heap news₁ → Q .next s₁)
    (hQ : ∀ f s', Q f s' → R (.ok f) s') :
    codeAny (model prog w) A (.forLoop target (.ref I) body [] env) R s := by
  refine codeAny_forLoop_any (fun k s' => ∃ i m' news', i ≤ n ∧ k = n + 1 - i ∧ St i s'.heap ∧ Fr h₀ L s'.heap m' ∧ News h₀ L s'.heap news' ∧ (∀ p ∈ news', p.1 ≠ I) ∧ S news' ∧ AllBare s'.gens ∧ s'.os = s₀.os ∧ J i m' news')
    ?_ (n + 1) ⟨0, m, news, Nat.zero_le _, rfl, hst, F, N, off, hS, hg, hos, hj⟩
  rintro k s' ⟨i, m', news', hi, rfl, hst', F', N', off', hS', hg', hos', hj'⟩
  by_cases hlt : i < n
  · refine W.item i _ _ _ hlt hst' fun v h₁ tk₁ hP hst₁ hk₁ => ?_
    have F₁ : Fr h₀ L h₁ m' := fr_but F' hk₁ hIL hI₀
    have N₁ : News h₀ L h₁ news' := news_but N' hk₁ off'
    obtain ⟨oI, heI⟩ := hIo _ _ hst₁
    dsimp only
    rw [ht]
    refine wpAny_pure ?_
    have N₂ : News h₀ L h₁ ((I, oI) :: news') := fun p hp => by
      rcases List.mem_cons.mp hp with rfl | hp
      · exact ⟨heI, Ne.symm hIL, hI₀⟩
      · exact N₁ p hp
    have T := turn i v m' news' oI { s' with heap := h₁, toks := tk₁ } hlt hP hj' hS' hos' hg' F₁ N₂ off'
    refine wpAny_mono T (fun _ s₂ h₂ => ?_) fun _ _ e => e.elim
    refine wpAny_mono h₂ (fun f s₃ h₃ => ?_) fun _ _ e => e.elim
    have fin : TurnAt h₀ L I oI S (J (i + 1)) s₀ s₃ → ∃ k', k' < n + 1 - i ∧ ∃ i m' news', i ≤ n ∧ k' = n + 1 - i ∧ St i s₃.heap ∧ Fr h₀ L s₃.heap m' ∧ News h₀ L s₃.heap news' ∧ (∀ p ∈ news', p.1 ≠ I) ∧ S news' ∧ AllBare s₃.gens ∧ s₃.os = s₀.os ∧ J i m' news' := by
      rintro ⟨e1, e2, m₂, news₂, e3, e4, e5, e6, e7⟩
      have e8 : News h₀ L s₃.heap news₂ := fun p hp => e4 p (List.mem_cons_of_mem _ hp)
      exact ⟨n + 1 - (i + 1), by omega, i + 1, m₂, news₂, hlt, rfl, hSt _ _ _ _ _ hst₁ heI (e4 _ List.mem_cons_self).1 e3.keep e8 e6, e3, e8, e5, e6, e2, e1, e7⟩
    cases f with
    | next => exact fin h₃
    | cont => exact fin h₃
    | brk => exact hQ _ _ h₃
    | ret v => exact hQ _ _ h₃
  · have hin : i = n := by omega
    subst hin
    refine W.done _ _ _ hst' fun h₁ tk₁ hk₁ => wpAny_execs_nil ?_
    exact hQ _ _ (done m' news' _ hj' hS' hos' hg' (fr_but F' hk₁ hIL hI₀) (news_but N' hk₁ off'))

/-- the iterable is a range a, a + 1 .. of n ints -/
def RngAt (h₀ : Heap) (L : Addr) (a : Int) (n : Nat) (J : Loc → Led → Prop) (s : Shared) (xv : Value) (s₁ : Shared) : Prop :=
  ∃ r b t u v m news, xv = .ref r ∧ IsRange s₁.heap r a b 1 t u v ∧ Builtin.Range.small a b 1 = true ∧ Builtin.Range.rangeSize a b 1 = ((n : Nat) : Int) ∧ Fr h₀ L s₁.heap m ∧ News h₀ L s₁.heap news ∧ AllBare s₁.gens ∧ s₁.os = s.os ∧ J m news
/-- the iterable is a list of the ledger (or of what stood) -/
def LstAt (h₀ : Heap) (L : Addr) (its : Array Value) (J : Loc → Led → Prop) (s : Shared) (xv : Value) (s₁ : Shared) : Prop :=
  ∃ ax m news, xv = .ref ax ∧ SrcAt h₀ ax its news ∧ Fr h₀ L s₁.heap m ∧ News h₀ L s₁.heap news ∧ AllBare s₁.gens ∧ s₁.os = s.os ∧ J m news

theorem forRange {target iter : Expr} {body : List Stmt} {pos : Pos} {Q : Flow → Shared → Prop} {a : Int} {n : Nat}
    (J : Nat → Loc → Led → Prop) (hh : A.handled = none)
    (hiter : wpAny (model prog w) A (eval iter env) (RngAt h₀ L a n (J 0) s) NR s)
    (turn : ∀ i t m₁ news₁ I oI s₁, i < n → J i m₁ news₁ → s₁.os = s.os → AllBare s₁.gens → Fr h₀ L s₁.heap m₁ → News h₀ L s₁.heap ((I, oI) :: news₁) → (∀ p ∈ news₁, p.1 ≠ I) →
      wpAny (model prog w) A (assign target env (.int (a + (i : Int)) t)) (fun _ s₂ => wpAny (model prog w) A (execs body env) (BodyEnd h₀ L I oI (fun _ => True) (J (i + 1)) s Q) NR s₂) NR s₁)
    (done : ∀ m₁ news₁ s₁, J n m₁ news₁ → s₁.os = s.os → AllBare s₁.gens → Fr h₀ L s₁.heap m₁ → News h₀ L s₁.heap news₁ → Q .next s₁)
    (ht : ∀ it v, letOwnedTupleGo target it v = pure () := by intro _ _; rfl)
    (hs : ∀ x, foldedSetIterable iter env x = pure x := by intro _; rfl) :
    wpAny (model prog w) A (exec (.For target iter body [] pos) env) Q NR s := by
  refine wpAny_For (wpAny_mono hiter (fun xv s₁ h₁ => ?_) fun _ _ e => e) hs
  obtain ⟨r, b, t, u, v, m, news, rfl, hr, hsm, hn, F, N, hg, hos, hj⟩ := h₁
  refine wpAny_pyIter_range hr hsm ?_
  refine forW (n := n) (S := fun _ => True) (Q := Q) s (range_walks hh a n) (fun i h st => ⟨_, st⟩) range_st (Nat.ne_of_lt F.ns.lt) (next_is_new F) ht J
    (by show IsRangeIter _ _ _ _ _; rw [hn]; simpa using Heap.get?_push_size _ rfl) (F.keeps fun _ _ e => Heap.get?_push_of_some _ e) (N.grown fun _ _ e => Heap.get?_push_of_some _ e) (fun p hp => Nat.ne_of_lt (Heap.lt_size (N p hp).1)) trivial hg hos hj ?_ ?_ (fun f s' h => h)
  · rintro i v m₁ news₁ oI s₂ hlt ⟨t', rfl⟩ hj' _ h1 h2 h3 h4 h5
    exact turn i t' m₁ news₁ _ oI s₂ hlt hj' h1 h2 h3 h4 h5
  · exact fun m₁ news₁ s₂ hj' _ h1 h2 h3 h4 => done m₁ news₁ s₂ hj' h1 h2 h3 h4

theorem forList {target iter : Expr} {body : List Stmt} {pos : Pos} {Q : Flow → Shared → Prop} {its : Array Value}
    (J : Nat → Loc → Led → Prop) (hh : A.handled = none)
    (hiter : wpAny (model prog w) A (eval iter env) (LstAt h₀ L its (J 0) s) NR s)
    (turn : ∀ i v m₁ news₁ ax I oI s₁, its[i]? = some v → J i m₁ news₁ → SrcAt h₀ ax its news₁ → s₁.os = s.os → AllBare s₁.gens → Fr h₀ L s₁.heap m₁ → News h₀ L s₁.heap ((I, oI) :: news₁) → (∀ p ∈ news₁, p.1 ≠ I) →
      wpAny (model prog w) A (assign target env v) (fun _ s₂ => wpAny (model prog w) A (execs body env) (BodyEnd h₀ L I oI (SrcAt h₀ ax its) (J (i + 1)) s Q) NR s₂) NR s₁)
    (done : ∀ m₁ news₁ s₁, J its.size m₁ news₁ → s₁.os = s.os → AllBare s₁.gens → Fr h₀ L s₁.heap m₁ → News h₀ L s₁.heap news₁ → Q .next s₁)
    (ht : ∀ it v, letOwnedTupleGo target it v = pure () := by intro _ _; rfl)
    (hs : ∀ x, foldedSetIterable iter env x = pure x := by intro _; rfl) :
    wpAny (model prog w) A (exec (.For target iter body [] pos) env) Q NR s := by
  refine wpAny_For (wpAny_mono hiter (fun xv s₁ h₁ => ?_) fun _ _ e => e) hs
  obtain ⟨ax, m, news, rfl, S, F, N, hg, hos, hj⟩ := h₁
  have hl := S.list F.keep N
  have hlt : ax < s₁.heap.objs.size := by obtain ⟨_, e, _⟩ := hl; exact Heap.lt_size e
  refine wpAny_pyIter_list hl ?_
  have up : ∀ b o, s₁.heap.get? b = some o → (s₁.heap.push { cls := .type "list_iterator", data := .fields #[.ref ax, .int 0 0] }).get? b = some o := fun b o e => Heap.get?_push_of_some _ e
  refine forW (n := its.size) (S := SrcAt h₀ ax its) (Q := Q) s (Walks.list hh s₁.heap.objs.size ax (Nat.ne_of_lt hlt) its) (fun i h st => by obtain ⟨o, e, _⟩ := st.1; exact ⟨o, e⟩) list_st (Nat.ne_of_lt F.ns.lt) (next_is_new F) ht J
    ⟨⟨_, Heap.get?_push_size _ rfl, rfl, rfl⟩, hl.push _⟩ (F.keeps up) (N.grown up) (fun p hp => Nat.ne_of_lt (Heap.lt_size (N p hp).1)) S hg hos hj ?_ ?_ (fun f s' h => h)
  · rintro i v m₁ news₁ oI s₂ _ hP hj' hS h1 h2 h3 h4 h5
    exact turn i v m₁ news₁ ax _ oI s₂ hP hj' hS h1 h2 h3 h4 h5
  · exact fun m₁ news₁ s₂ hj' _ h1 h2 h3 h4 => done m₁ news₁ s₂ hj' h1 h2 h3 h4

/-- a local target -/
theorem assignL {x : Str} {px : Pos} {v : Value} {m : Loc} {news : Led} {Q : Unit → Shared → Prop} (hx : env.kindOf x = some .local)
    (hp : (env.scope.kind == .class || (env.scope.kind == .module && env.locals != env.globals)) = false) (F : Fr h₀ env.locals s.heap m) (N : News h₀ env.locals s.heap news)
    (h : ∀ h', Fr h₀ env.locals h' (fun y => if y = x then some v else m y) → News h₀ env.locals h' news → Q () { s with heap := h', toks := s.toks + 1 }) :
    wpAny (model prog w) A (assign (.Name x px) env v) Q NR s :=
  wpAny_assign_Name (wpAny_storeName_local hx F.ns (fun h' hn hs => h h' (F.set hn hs) (N.set hs)) hp)
end loops
end Mine

namespace Mine
section comps
variable {prog : Program} {w : World} {A : Around} {s : Shared} {env cenv : Env} {h₀ : Heap} {L : Addr}

abbrev testsOf (ifs : List Expr) (cenv : Env) : Sem Bool := forIn ifs true fun c r => if r = true then do let ok ← isTrue c cenv (eval c cenv); pure (ForInStep.yield ok) else pure (ForInStep.yield r)

/-- one turn of a block's last clause -/
def LeafT (prog : Program) (w : World) (A : Around) (target : Expr) (ifs : List Expr) (elt : Expr) (cenv : Env) (it acc : Value) (R : Shared → Prop) (It : Nat → Shared → Prop) (n : Nat) (r : Option Value) (s₁ : Shared) : Prop :=
  match r with
  | none => R s₁
  | some v => wpAny (model prog w) A (letOwnedTupleGo target it v) (fun _ s₁' => wpAny (model prog w) A (assign target cenv v) (fun _ s₂ => wpAny (model prog w) A (testsOf ifs cenv) (fun ok s₃ =>
      if ok = true then wpAny (model prog w) A (eval elt cenv) (fun x s₄ => wpAny (model prog w) A (call (.builtin "list.append") [acc, x]) (fun _ s₅ => ∃ k, k < n ∧ It k s₅) NR s₄) NR s₃
      else ∃ k, k < n ∧ It k s₃) NR s₂) NR s₁') NR s₁
/-- one turn of a block's first clause of two -/
def InT (prog : Program) (w : World) (A : Around) (target iter' : Expr) (e : Expr) (cenv : Env) (it acc : Value) (R : Shared → Prop) (It : Nat → Shared → Prop) (n : Nat) (r : Option Value) (s₁ : Shared) : Prop :=
  match r with
  | none => R s₁
  | some v => wpAny (model prog w) A (letOwnedTupleGo target it v) (fun _ s₁' => wpAny (model prog w) A (assign target cenv v) (fun _ s₂ => wpAny (model prog w) A (eval iter' cenv) (fun x s₃ => wpAny (model prog w) A (pyIter x) (fun it' s₄ =>
      codeAny (model prog w) A (.compStart e 1 it' acc cenv) (fun r s₅ => match r with | .ok _ => ∃ k, k < n ∧ It k s₅ | .error _ => False) s₄) NR s₃) NR s₂) NR s₁') NR s₁

theorem compTurn_leaf2 (g0 : Comprehension) (elt target iter : Expr) (ifs : List Expr) (scope : Scope) (pos : Pos) (it acc : Value) (env : Env) :
    compTurn (.ListComp elt [g0, ⟨target, iter, ifs, 0⟩] scope pos) 1 it acc env = (do
      standAt iter.pos
      match ← pyNext it with
      | none => pure (.done .next)
      | some v =>
        letOwnedTupleGo target it v
        assign target env v
        let mut ok := true
        for c in ifs do
          if ok then ok ← isTrue c env (eval c env)
        if ok then
          (do let _ ← call (.builtin "list.append") [acc, ← eval elt env])
        again (.compLoop (.ListComp elt [g0, ⟨target, iter, ifs, 0⟩] scope pos) 1 it acc env)) := by rfl
theorem compTurn_in2 (elt target iter target' iter' : Expr) (scope : Scope) (pos : Pos) (it acc : Value) (env : Env) :
    compTurn (.ListComp elt [⟨target, iter, [], 0⟩, ⟨target', iter', [], 0⟩] scope pos) 0 it acc env = (do
      standAt iter.pos
      match ← pyNext it with
      | none => pure (.done .next)
      | some v =>
        letOwnedTupleGo target it v
        assign target env v
        let x ← eval iter' env
        standAt iter'.pos
        let x ← foldedSetIterable iter' env x
        let it' ← holding [x] (pyIter x)
        let _ ← runOwn (.compStart (.ListComp elt [⟨target, iter, [], 0⟩, ⟨target', iter', [], 0⟩] scope pos) 1 it' acc env) env
        again (.compLoop (.ListComp elt [⟨target, iter, [], 0⟩, ⟨target', iter', [], 0⟩] scope pos) 0 it acc env)) := by rfl

theorem leaf1 {elt target iter : Expr} {ifs : List Expr} {scope : Scope} {pos : Pos} {it acc : Value} {R : Result → Shared → Prop} (It : Nat → Shared → Prop)
    (turn : ∀ n s, It n s → wpAny (model prog w) A (pyNext it) (LeafT prog w A target ifs elt cenv it acc (fun s' => R (.ok .next) s') It n) NR s)
    (n : Nat) (h : It n s) : codeAny (model prog w) A (.compLoop (.ListComp elt [⟨target, iter, ifs, 0⟩] scope pos) 0 it acc cenv) R s := by
  refine codeAny_loop rfl It (fun n s hI => ?_) n h
  show wpAny _ A ((compTurn (.ListComp elt [⟨target, iter, ifs, 0⟩] scope pos) 0 it acc cenv).onRaise (fun x => do noteFrame x cenv; theTreesLotGoes x)) _ _ s
  refine wpAny_noted ?_
  rw [compTurn_list]
  refine wpAny_noRaise (wpAny_bind (wpAny_standAt (wpAny_bind (wpAny_mono (turn n s hI) (fun r s₁ h₁ => ?_) fun _ _ h' => h'))))
  cases r with
  | none => exact wpAny_pure h₁
  | some v =>
    refine wpAny_bind (wpAny_mono h₁ (fun _ s₁' h₁' => ?_) fun _ _ h' => h')
    refine wpAny_bind (wpAny_mono h₁' (fun _ s₂ h₂ => wpAny_bind (wpAny_mono h₂ (fun ok s₃ h₃ => ?_) fun _ _ h' => h')) fun _ _ h' => h')
    cases ok with
    | false => exact wpAny_pure ⟨rfl, h₃⟩
    | true => exact wpAny_bind (wpAny_bind (wpAny_mono h₃ (fun x s₄ h₄ => wpAny_bind (wpAny_mono h₄ (fun _ s₅ h₅ => wpAny_pure (wpAny_pure ⟨rfl, h₅⟩)) fun _ _ h' => h')) fun _ _ h' => h'))
theorem leaf2 {g0 : Comprehension} {elt target iter : Expr} {ifs : List Expr} {scope : Scope} {pos : Pos} {it acc : Value} {R : Result → Shared → Prop} (It : Nat → Shared → Prop)
    (turn : ∀ n s, It n s → wpAny (model prog w) A (pyNext it) (LeafT prog w A target ifs elt cenv it acc (fun s' => R (.ok .next) s') It n) NR s)
    (n : Nat) (h : It n s) : codeAny (model prog w) A (.compLoop (.ListComp elt [g0, ⟨target, iter, ifs, 0⟩] scope pos) 1 it acc cenv) R s := by
  refine codeAny_loop rfl It (fun n s hI => ?_) n h
  show wpAny _ A ((compTurn (.ListComp elt [g0, ⟨target, iter, ifs, 0⟩] scope pos) 1 it acc cenv).onRaise (fun x => do noteFrame x cenv; theTreesLotGoes x)) _ _ s
  refine wpAny_noted ?_
  rw [compTurn_leaf2]
  refine wpAny_noRaise (wpAny_bind (wpAny_standAt (wpAny_bind (wpAny_mono (turn n s hI) (fun r s₁ h₁ => ?_) fun _ _ h' => h'))))
  cases r with
  | none => exact wpAny_pure h₁
  | some v =>
    refine wpAny_bind (wpAny_mono h₁ (fun _ s₁' h₁' => ?_) fun _ _ h' => h')
    refine wpAny_bind (wpAny_mono h₁' (fun _ s₂ h₂ => wpAny_bind (wpAny_mono h₂ (fun ok s₃ h₃ => ?_) fun _ _ h' => h')) fun _ _ h' => h')
    cases ok with
    | false => exact wpAny_pure ⟨rfl, h₃⟩
    | true => exact wpAny_bind (wpAny_bind (wpAny_mono h₃ (fun x s₄ h₄ => wpAny_bind (wpAny_mono h₄ (fun _ s₅ h₅ => wpAny_pure (wpAny_pure ⟨rfl, h₅⟩)) fun _ _ h' => h')) fun _ _ h' => h'))
theorem in2 {elt target iter target' iter' : Expr} {scope : Scope} {pos : Pos} {it acc : Value} {R : Result → Shared → Prop} (It : Nat → Shared → Prop)
    (hs : ∀ x, foldedSetIterable iter' cenv x = pure x)
    (turn : ∀ n s, It n s → wpAny (model prog w) A (pyNext it) (InT prog w A target iter' (.ListComp elt [⟨target, iter, [], 0⟩, ⟨target', iter', [], 0⟩] scope pos) cenv it acc (fun s' => R (.ok .next) s') It n) NR s)
    (n : Nat) (h : It n s) : codeAny (model prog w) A (.compLoop (.ListComp elt [⟨target, iter, [], 0⟩, ⟨target', iter', [], 0⟩] scope pos) 0 it acc cenv) R s := by
  refine codeAny_loop rfl It (fun n s hI => ?_) n h
  show wpAny _ A ((compTurn (.ListComp elt [⟨target, iter, [], 0⟩, ⟨target', iter', [], 0⟩] scope pos) 0 it acc cenv).onRaise (fun x => do noteFrame x cenv; theTreesLotGoes x)) _ _ s
  refine wpAny_noted ?_
  rw [compTurn_in2]
  refine wpAny_noRaise (wpAny_bind (wpAny_standAt (wpAny_bind (wpAny_mono (turn n s hI) (fun r s₁ h₁ => ?_) fun _ _ h' => h'))))
  cases r with
  | none => exact wpAny_pure h₁
  | some v =>
    refine wpAny_bind (wpAny_mono h₁ (fun _ s₁' h₁' => ?_) fun _ _ h' => h')
    refine wpAny_bind (wpAny_mono h₁' (fun _ s₂ h₂ => ?_) fun _ _ h' => h')
    refine wpAny_bind (wpAny_mono h₂ (fun x s₃ h₃ => wpAny_bind (wpAny_standAt (wpAny_bind (wpAny_of_eq (hs x) (wpAny_bind (wpAny_holding (wpAny_mono h₃ (fun it' s₄ h₄ => wpAny_bind (wpAny_runOwn (codeAny_mono h₄ fun r s₅ h₅ => ?_))) fun _ _ h' => h'))))))) fun _ _ h' => h')
    cases r with
    | ok f => exact wpAny_pure ⟨rfl, h₅⟩
    | error e => exact h₅.elim

/-- behind a turn of a block: the frame, the ledger (the iterator first, then the list that is made), the word -/
def CTurn (h₀ : Heap) (L : Addr) (m : Loc) (I : Addr) (oI : Obj) (D : Addr) (S : Led → Prop) (J : List Value → Led → Prop) (s s₂ : Shared) : Prop :=
  s₂.os = s.os ∧ AllBare s₂.gens ∧ ∃ ys rest, Fr h₀ L s₂.heap m ∧ News h₀ L s₂.heap ((I, oI) :: (D, lst ys) :: rest) ∧ (∀ p ∈ rest, p.1 ≠ I ∧ p.1 ≠ D) ∧ S rest ∧ J ys rest
/-- behind the element's reckoning -/
def CElt (h₀ : Heap) (L : Addr) (m : Loc) (I : Addr) (oI : Obj) (D : Addr) (S : Led → Prop) (ys : List Value) (J : List Value → Led → Prop) (s : Shared) (y : Value) (s₂ : Shared) : Prop :=
  s₂.os = s.os ∧ AllBare s₂.gens ∧ ∃ rest, Fr h₀ L s₂.heap m ∧ News h₀ L s₂.heap ((I, oI) :: (D, lst ys) :: rest) ∧ (∀ p ∈ rest, p.1 ≠ I ∧ p.1 ≠ D) ∧ S rest ∧ J (ys ++ [y]) rest

theorem leafW {c : Code} {R : Result → Shared → Prop} {target elt : Expr} {ifs : List Expr} {I D : Addr} {fp : List Addr} {n : Nat} {P : Nat → Value → Prop} {St : Nat → Heap → Prop} {S : Led → Prop} {m : Loc} {rest : Led} {ys : List Value} (s₀ : Shared)
    (rule : ∀ (It : Nat → Shared → Prop), (∀ n s, It n s → wpAny (model prog w) A (pyNext (.ref I)) (LeafT prog w A target ifs elt cenv (.ref I) (.ref D) (fun s' => R (.ok .next) s') It n) NR s) → ∀ n, It n s → codeAny (model prog w) A c R s)
    (W : Walks prog w A I fp [I] n P St) (hIo : ∀ i h, St i h → ∃ o, h.get? I = some o)
    (hSt : ∀ i h h' o nw, St i h → h.get? I = some o → h'.get? I = some o → (∀ b o, h₀.get? b = some o → h'.get? b = some o) → News h₀ L h' nw → S nw → St i h')
    (hfD : D ∉ fp) (hIL : L ≠ I) (hI₀ : h₀.get? I = none) (ht : ∀ it v, letOwnedTupleGo target it v = pure ())
    (J : Nat → List Value → Led → Prop) (hJ : ∀ i ys rest, J i ys rest → ys.length ≤ sizeLine)
    (hst : St 0 s.heap) (F : Fr h₀ L s.heap m) (N : News h₀ L s.heap ((D, lst ys) :: rest)) (hDI : D ≠ I) (off : ∀ p ∈ rest, p.1 ≠ I ∧ p.1 ≠ D) (hS : S rest) (hg : AllBare s.gens) (hos : s.os = s₀.os) (hj : J 0 ys rest)
    (turn : ∀ i v ys rest oI s₁, i < n → P i v → J i ys rest → S rest → s₁.os = s₀.os → AllBare s₁.gens → Fr h₀ L s₁.heap m → News h₀ L s₁.heap ((I, oI) :: (D, lst ys) :: rest) → (∀ p ∈ rest, p.1 ≠ I ∧ p.1 ≠ D) →
      wpAny (model prog w) A (assign target cenv v) (fun _ s₂ => wpAny (model prog w) A (testsOf ifs cenv) (fun ok s₃ =>
        if ok = true then wpAny (model prog w) A (eval elt cenv) (CElt h₀ L m I oI D S ys (J (i + 1)) s₀) NR s₃ else CTurn h₀ L m I oI D S (J (i + 1)) s₀ s₃) NR s₂) NR s₁)
    (done : ∀ ys rest s₁, J n ys rest → S rest → s₁.os = s₀.os → AllBare s₁.gens → Fr h₀ L s₁.heap m → News h₀ L s₁.heap ((D, lst ys) :: rest) → (∀ p ∈ rest, p.1 ≠ D) → R (.ok .next) s₁) :
    codeAny (model prog w) A c R s := by
  refine rule (fun k s' => ∃ i ys rest, i ≤ n ∧ k = n + 1 - i ∧ St i s'.heap ∧ Fr h₀ L s'.heap m ∧ News h₀ L s'.heap ((D, lst ys) :: rest) ∧ (∀ p ∈ rest, p.1 ≠ I ∧ p.1 ≠ D) ∧ S rest ∧ AllBare s'.gens ∧ s'.os = s₀.os ∧ J i ys rest)
    ?_ (n + 1) ⟨0, ys, rest, Nat.zero_le _, rfl, hst, F, N, off, hS, hg, hos, hj⟩
  rintro k s' ⟨i, ys, rest, hi, rfl, hst', F', N', off', hS', hg', hos', hj'⟩
  have offI : ∀ p ∈ (D, lst ys) :: rest, p.1 ≠ I := fun p hp => by
    rcases List.mem_cons.mp hp with rfl | hp
    · exact hDI
    · exact (off' p hp).1
  have hD := N' _ List.mem_cons_self
  by_cases hlt : i < n
  · refine W.item i _ _ _ hlt hst' fun v h₁ tk₁ hP hst₁ hk₁ => ?_
    have F₁ : Fr h₀ L h₁ m := fr_but F' hk₁ hIL hI₀
    have N₁ : News h₀ L h₁ ((D, lst ys) :: rest) := news_but N' hk₁ offI
    obtain ⟨oI, heI⟩ := hIo _ _ hst₁
    show LeafT _ _ _ _ _ _ _ _ _ _ _ _ _ _
    dsimp only [LeafT]
    rw [ht]
    refine wpAny_pure ?_
    have N₂ : News h₀ L h₁ ((I, oI) :: (D, lst ys) :: rest) := fun p hp => by
      rcases List.mem_cons.mp hp with rfl | hp
      · exact ⟨heI, Ne.symm hIL, hI₀⟩
      · exact N₁ p hp
    have T := turn i v ys rest oI { s' with heap := h₁, toks := tk₁ } hlt hP hj' hS' hos' hg' F₁ N₂ off'
    refine wpAny_mono T (fun _ s₂ h₂ => ?_) fun _ _ e => e
    refine wpAny_mono h₂ (fun ok s₃ h₃ => ?_) fun _ _ e => e
    cases ok with
    | true =>
      simp only [if_true] at h₃ ⊢
      refine wpAny_mono h₃ (fun y s₄ h₄ => ?_) fun _ _ e => e
      obtain ⟨e1, e2, rest₂, e3, e4, e5, e6, e7⟩ := h₄
      have zD := (e4 (D, lst ys) (List.mem_cons_of_mem _ List.mem_cons_self))
      have zI := (e4 (I, oI) List.mem_cons_self)
      have N₄ : News h₀ L s₄.heap rest₂ := fun p hp => e4 p (List.mem_cons_of_mem _ (List.mem_cons_of_mem _ hp))
      have hst₄ : St (i + 1) s₄.heap := hSt _ _ _ _ _ hst₁ heI zI.1 e3.keep N₄ e6
      refine append_at (hsz := by rw [List.size_toArray]; exact hJ _ _ _ hj') zD.1 fun h₅ hs₅ hD₅ => ?_
      refine ⟨n + 1 - (i + 1), by omega, i + 1, ys ++ [y], rest₂, hlt, rfl, W.frame _ _ _ hst₄ fun b hb o e => hs₅.extBut b o (fun q => hfD (q ▸ hb)) e, e3.change hs₅ zD.2.1 zD.2.2, fun p hp => ?_, e5, e6, e2, e1, e7⟩
      rcases List.mem_cons.mp hp with rfl | hp
      · exact ⟨hD₅.trans (congrArg some (lst_snoc ys y)), zD.2⟩
      · exact ⟨hs₅.extBut _ _ (e5 p hp).2 (N₄ p hp).1, (N₄ p hp).2⟩
    | false =>
      simp only [Bool.false_eq_true, if_false] at h₃ ⊢
      obtain ⟨e1, e2, ys₂, rest₂, e3, e4, e5, e6, e7⟩ := h₃
      have zI := (e4 (I, oI) List.mem_cons_self)
      have N₄ : News h₀ L s₃.heap rest₂ := fun p hp => e4 p (List.mem_cons_of_mem _ (List.mem_cons_of_mem _ hp))
      exact ⟨n + 1 - (i + 1), by omega, i + 1, ys₂, rest₂, hlt, rfl, hSt _ _ _ _ _ hst₁ heI zI.1 e3.keep N₄ e6, e3, fun p hp => e4 p (List.mem_cons_of_mem _ hp), e5, e6, e2, e1, e7⟩
  · have hin : i = n := by omega
    subst hin
    refine W.done _ _ _ hst' fun h₁ tk₁ hk₁ => ?_
    exact done ys rest _ hj' hS' hos' hg' (fr_but F' hk₁ hIL hI₀) (news_but N' hk₁ offI) fun p hp => (off' p hp).2

theorem inW {e target iter' : Expr} {c : Code} {R : Result → Shared → Prop} {I D : Addr} {fp : List Addr} {n : Nat} {P : Nat → Value → Prop} {St : Nat → Heap → Prop} {S : Led → Prop} {m : Loc} {rest : Led} {ys : List Value} (s₀ : Shared)
    (rule : ∀ (It : Nat → Shared → Prop), (∀ n s, It n s → wpAny (model prog w) A (pyNext (.ref I)) (InT prog w A target iter' e cenv (.ref I) (.ref D) (fun s' => R (.ok .next) s') It n) NR s) → ∀ n, It n s → codeAny (model prog w) A c R s)
    (W : Walks prog w A I fp [I] n P St) (hIo : ∀ i h, St i h → ∃ o, h.get? I = some o)
    (hSt : ∀ i h h' o nw, St i h → h.get? I = some o → h'.get? I = some o → (∀ b o, h₀.get? b = some o → h'.get? b = some o) → News h₀ L h' nw → S nw → St i h')
    (hIL : L ≠ I) (hI₀ : h₀.get? I = none) (ht : ∀ it v, letOwnedTupleGo target it v = pure ())
    (J : Nat → List Value → Led → Prop)
    (hst : St 0 s.heap) (F : Fr h₀ L s.heap m) (N : News h₀ L s.heap ((D, lst ys) :: rest)) (hDI : D ≠ I) (off : ∀ p ∈ rest, p.1 ≠ I ∧ p.1 ≠ D) (hS : S rest) (hg : AllBare s.gens) (hos : s.os = s₀.os) (hj : J 0 ys rest)
    (turn : ∀ i v ys rest oI s₁, i < n → P i v → J i ys rest → S rest → s₁.os = s₀.os → AllBare s₁.gens → Fr h₀ L s₁.heap m → News h₀ L s₁.heap ((I, oI) :: (D, lst ys) :: rest) → (∀ p ∈ rest, p.1 ≠ I ∧ p.1 ≠ D) →
      wpAny (model prog w) A (assign target cenv v) (fun _ s₂ => wpAny (model prog w) A (eval iter' cenv) (fun x s₃ => wpAny (model prog w) A (pyIter x) (fun it' s₄ =>
        codeAny (model prog w) A (.compStart e 1 it' (.ref D) cenv) (fun r s₅ => match r with | .ok _ => CTurn h₀ L m I oI D S (J (i + 1)) s₀ s₅ | .error _ => False) s₄) NR s₃) NR s₂) NR s₁)
    (done : ∀ ys rest s₁, J n ys rest → S rest → s₁.os = s₀.os → AllBare s₁.gens → Fr h₀ L s₁.heap m → News h₀ L s₁.heap ((D, lst ys) :: rest) → (∀ p ∈ rest, p.1 ≠ D) → R (.ok .next) s₁) :
    codeAny (model prog w) A c R s := by
  refine rule (fun k s' => ∃ i ys rest, i ≤ n ∧ k = n + 1 - i ∧ St i s'.heap ∧ Fr h₀ L s'.heap m ∧ News h₀ L s'.heap ((D, lst ys) :: rest) ∧ (∀ p ∈ rest, p.1 ≠ I ∧ p.1 ≠ D) ∧ S rest ∧ AllBare s'.gens ∧ s'.os = s₀.os ∧ J i ys rest)
    ?_ (n + 1) ⟨0, ys, rest, Nat.zero_le _, rfl, hst, F, N, off, hS, hg, hos, hj⟩
  rintro k s' ⟨i, ys, rest, hi, rfl, hst', F', N', off', hS', hg', hos', hj'⟩
  have offI : ∀ p ∈ (D, lst ys) :: rest, p.1 ≠ I := fun p hp => by
    rcases List.mem_cons.mp hp with rfl | hp
    · exact hDI
    · exact (off' p hp).1
  by_cases hlt : i < n
  · refine W.item i _ _ _ hlt hst' fun v h₁ tk₁ hP hst₁ hk₁ => ?_
    have F₁ : Fr h₀ L h₁ m := fr_but F' hk₁ hIL hI₀
    have N₁ : News h₀ L h₁ ((D, lst ys) :: rest) := news_but N' hk₁ offI
    obtain ⟨oI, heI⟩ := hIo _ _ hst₁
    show InT _ _ _ _ _ _ _ _ _ _ _ _ _ _
    dsimp only [InT]
    rw [ht]
    refine wpAny_pure ?_
    have N₂ : News h₀ L h₁ ((I, oI) :: (D, lst ys) :: rest) := fun p hp => by
      rcases List.mem_cons.mp hp with rfl | hp
      · exact ⟨heI, Ne.symm hIL, hI₀⟩
      · exact N₁ p hp
    have T := turn i v ys rest oI { s' with heap := h₁, toks := tk₁ } hlt hP hj' hS' hos' hg' F₁ N₂ off'
    refine wpAny_mono T (fun _ s₂ h₂ => ?_) fun _ _ e => e
    refine wpAny_mono h₂ (fun x s₃ h₃ => wpAny_mono h₃ (fun it' s₄ h₄ => codeAny_mono h₄ fun r s₅ h₅ => ?_) fun _ _ e => e) fun _ _ e => e
    cases r with
    | error _ => exact h₅
    | ok f =>
      obtain ⟨e1, e2, ys₂, rest₂, e3, e4, e5, e6, e7⟩ := h₅
      have zI := (e4 (I, oI) List.mem_cons_self)
      have N₄ : News h₀ L s₅.heap rest₂ := fun p hp => e4 p (List.mem_cons_of_mem _ (List.mem_cons_of_mem _ hp))
      exact ⟨n + 1 - (i + 1), by omega, i + 1, ys₂, rest₂, hlt, rfl, hSt _ _ _ _ _ hst₁ heI zI.1 e3.keep N₄ e6, e3, fun p hp => e4 p (List.mem_cons_of_mem _ hp), e5, e6, e2, e1, e7⟩
  · have hin : i = n := by omega
    subst hin
    refine W.done _ _ _ hst' fun h₁ tk₁ hk₁ => ?_
    exact done ys rest _ hj' hS' hos' hg' (fr_but F' hk₁ hIL hI₀) (news_but N' hk₁ offI) fun p hp => (off' p hp).2
end comps
end Mine

namespace Mine
section comps
variable {prog : Program} {w : World} {A : Around} {s : Shared} {env cenv : Env} {h₀ : Heap} {L : Addr}

theorem compStart1 {elt target iter : Expr} {ifs : List Expr} {g0 : Comprehension} {scope : Scope} {pos : Pos} {it acc : Value} {R : Result → Shared → Prop}
    (h0 : codeAny (model prog w) A (.compLoop (.ListComp elt [g0, ⟨target, iter, ifs, 0⟩] scope pos) 1 it acc cenv) R s)
    (h : wpAny (model prog w) A (pyIter it) (fun it' s' => codeAny (model prog w) A (.compLoop (.ListComp elt [g0, ⟨target, iter, ifs, 0⟩] scope pos) 1 it' acc cenv) R s') NR s) :
    codeAny (model prog w) A (.compStart (.ListComp elt [g0, ⟨target, iter, ifs, 0⟩] scope pos) 1 it acc cenv) R s := by
  refine codeAny_of_tree ?_
  show wpAny _ _ ((compStart (.ListComp elt [g0, ⟨target, iter, ifs, 0⟩] scope pos) 1 it acc cenv).onRaise (fun x => do noteFrame x cenv; standAt theWindowsPlace)) _ _ s
  refine wpAny_notedAt ?_
  refine wpAny_noRaise ?_
  unfold compStart
  show wpAny _ _ (ask >>= _) _ _ s
  refine wpAny_bind (wpAny_askSetting (wpAny_ite ?_))
  split
  · first
      | exact wpAny_bind (wpAny_pure (wpAny_pure (And.intro rfl h0)))
      | exact wpAny_pure (And.intro rfl h0)
  · first
      | exact wpAny_bind (wpAny_rule (wpAny_bind (wpAny_standAt (wpAny_bind (wpAny_mono h (fun it' s' h' => wpAny_pure (And.intro rfl h')) fun _ _ x => x)))))
      | (refine wpAny_bind (wpAny_rule ?_); show wpAny _ _ (standAt iter.pos >>= _) _ _ s; exact wpAny_bind (wpAny_standAt (wpAny_bind (wpAny_mono h (fun it' s' h' => wpAny_pure (And.intro rfl h')) fun _ _ x => x))))

/-- behind a block -/
def BlkEnd (h₀ : Heap) (L : Addr) (m : Loc) (C D : Addr) (Fin : Addr → List Value → Led → Prop) (s : Shared) (r : Result) (s' : Shared) : Prop :=
  match r with
  | .error _ => False
  | .ok _ => s'.os = s.os ∧ AllBare s'.gens ∧ ∃ ys rest oC mC, NsObj oC mC ∧ Fr h₀ L s'.heap m ∧ News h₀ L s'.heap ((D, lst ys) :: (C, oC) :: rest) ∧ D ≠ C ∧ (∀ p ∈ rest, p.1 ≠ D ∧ p.1 ≠ C) ∧ Fin D ys rest
/-- ahead of a block: the iterator stands -/
def BlkAt (prog : Program) (w : World) (A : Around) (h₀ : Heap) (L : Addr) (m : Loc) (env : Env) (e : Expr) (scope : Scope) (cl : List (Str × Addr)) (Fin : Addr → List Value → Led → Prop) (s : Shared) (it : Value) (s₂ : Shared) : Prop :=
  ∃ news, Fr h₀ L s₂.heap m ∧ News h₀ L s₂.heap news ∧ AllBare s₂.gens ∧ s₂.os = s.os ∧
    ∀ C D oC s₃, (∀ p ∈ news, p.1 < D) → s₂.heap.objs.size ≤ D → D < C → L < D → NsObj oC (fun _ => none) → Fr h₀ L s₃.heap m → News h₀ L s₃.heap ((D, lst []) :: (C, oC) :: news) → s₃.os = s.os → AllBare s₃.gens → (∀ b o, s₂.heap.get? b = some o → s₃.heap.get? b = some o) →
      codeAny (model prog w) A (.compStart e 0 it (.ref D) (compEnvC scope cl C env)) (BlkEnd h₀ L m C D Fin s) s₃

theorem blk_new {e : Expr} {scope : Scope} {cl : List (Str × Addr)} {m : Loc} {Fin : Addr → List Value → Led → Prop} {s₀ : Shared} {it : Value} {RR : Value → Addr → Result → Shared → Prop}
    (hcell : ∀ y ∈ scope.names, y.2 ≠ .cell) (hkind : scope.kind = .function)
    (hb : BlkAt prog w A h₀ L m env e scope cl Fin s₀ it s)
    (hR : ∀ C D r s', BlkEnd h₀ L m C D Fin s₀ r s' → RR (.ref D) C r s') :
    wpAny (model prog w) A (newList []) (fun acc s₃ => wpAny (model prog w) A (newFunctionEnv scope env.globals cl [] env.qual none .none (some env)) (fun cenv s₄ =>
      codeAny (model prog w) A (.compStart e 0 it acc { cenv with scope := relabel scope env }) (RR acc cenv.locals) s₄) NR s₃) NR s := by
  obtain ⟨news, F, N, hg, hos, h⟩ := hb
  refine wpAny_newObj_type (wpAny_newFunctionEnv hcell (by intro y hy; simp at hy) (fun h₁ hns₁ hsb₁ => ?_) hkind)
  dsimp only at hns₁ hsb₁ ⊢
  generalize hH2 : s.heap.push { cls := .type "list", dict := none, data := .seq ([] : List Value).toArray } = H2 at hns₁ hsb₁ ⊢
  have hC : H2.objs.size = s.heap.objs.size + 1 := by rw [← hH2, Heap.size_push]
  have below : ∀ b, b < s.heap.objs.size → b ≠ H2.objs.size ∧ b ≠ s.heap.objs.size := fun b hb => ⟨by rw [hC]; exact Nat.ne_of_lt (Nat.lt_succ_of_lt hb), Nat.ne_of_lt hb⟩
  have old : ∀ b o, s.heap.get? b = some o → h₁.get? b = some o := fun b o e => hsb₁.extBut b o (below b (Heap.lt_size e)).1 (Heap.get?_push_of_some _ (hH2 ▸ Heap.get?_push_of_some _ e))
  have hDC : s.heap.objs.size ≠ H2.objs.size := by rw [hC]; exact Nat.ne_of_lt (Nat.lt_succ_self _)
  have hacc : h₁.get? s.heap.objs.size = some (lst []) := hsb₁.extBut _ _ hDC (Heap.get?_push_of_some _ (hH2 ▸ Heap.get?_push_size _ rfl))
  have fresh₀ : ∀ a, s.heap.objs.size ≤ a → h₀.get? a = none := fun a ha => by
    cases e : h₀.get? a with
    | none => rfl
    | some o' => exact absurd (Heap.lt_size (F.keep a o' e)) (Nat.not_lt.mpr ha)
  have hLlt : L < s.heap.objs.size := F.ns.lt
  obtain ⟨oC, heC, hoC⟩ := ns_obj hns₁
  have X := h H2.objs.size s.heap.objs.size oC { s with heap := h₁, toks := s.toks + ([] : List (Str × Value)).length } (fun p hp => Heap.lt_size (N p hp).1) (Nat.le_refl _) (by rw [hC]; exact Nat.lt_succ_self _) hLlt hoC (F.keeps old)
    (fun p hp => by
      rcases List.mem_cons.mp hp with rfl | hp
      · exact ⟨hacc, Nat.ne_of_gt hLlt, fresh₀ _ (Nat.le_refl _)⟩
      · rcases List.mem_cons.mp hp with rfl | hp
        · exact ⟨heC, by rw [hC]; exact Nat.ne_of_gt (Nat.lt_succ_of_lt hLlt), fresh₀ _ (by rw [hC]; exact Nat.le_succ _)⟩
        · exact ⟨old _ _ (N p hp).1, (N p hp).2⟩) hos hg old
  exact codeAny_mono X fun r s' hr => hR _ _ r s' hr

theorem blk_let {m : Loc} {C D : Addr} {ys : List Value} {rest : Led} {oC : Obj} {h h' : Heap} (F : Fr h₀ L h m) (N : News h₀ L h ((D, lst ys) :: (C, oC) :: rest)) (hDC : D ≠ C) (off : ∀ p ∈ rest, p.1 ≠ D ∧ p.1 ≠ C) (hs : Heap.SameBut C h h') :
    Fr h₀ L h' m ∧ News h₀ L h' ((D, lst ys) :: rest) := by
  have hC := N (C, oC) (List.mem_cons_of_mem _ List.mem_cons_self)
  refine ⟨F.change hs hC.2.1 hC.2.2, fun p hp => ?_⟩
  rcases List.mem_cons.mp hp with rfl | hp
  · exact ⟨hs.extBut _ _ hDC (N _ List.mem_cons_self).1, (N _ List.mem_cons_self).2⟩
  · have n := N p (List.mem_cons_of_mem _ (List.mem_cons_of_mem _ hp))
    exact ⟨hs.extBut _ _ (off p hp).2 n.1, n.2⟩

theorem compE {elt target iter : Expr} {ifs : List Expr} {gs : List Comprehension} {scope : Scope} {cl : List (Str × Addr)} {pos : Pos} {Q : Value → Shared → Prop} {m : Loc} (Fin : Addr → List Value → Led → Prop)
    (hclos : closureFor scope env = pure cl) (hcell : ∀ y ∈ scope.names, y.2 ≠ .cell) (hkind : scope.kind = .function)
    (hnames : ∀ y ∈ scope.names, y.2 = .local → scope.names.lookup y.1 = some .local)
    (h : wpAny (model prog w) A (eval iter env) (fun xv s₁ => wpAny (model prog w) A (pyIter xv) (BlkAt prog w A h₀ L m env (.ListComp elt (⟨target, iter, ifs, 0⟩ :: gs) scope pos) scope cl Fin s) NR s₁) NR s)
    (fin : ∀ ys rest D s', Fin D ys rest → Fr h₀ L s'.heap m → News h₀ L s'.heap ((D, lst ys) :: rest) → (∀ p ∈ rest, p.1 ≠ D) → AllBare s'.gens → s'.os = s.os → Q (.ref D) s')
    (hs : ∀ x, foldedSetIterable iter env x = pure x := by intro _; rfl) :
    wpAny (model prog w) A (eval (.ListComp elt (⟨target, iter, ifs, 0⟩ :: gs) scope pos) env) Q NR s := by
  rw [eval_ListComp]
  refine wpAny_comprehension_free (use := none) rfl hs hclos hkind hnames (wpAny_mono h (fun xv s₁ h₁ => wpAny_mono h₁ (fun it s₂ h₂ => ?_) fun _ _ e => e) fun _ _ e => e)
  refine blk_new hcell hkind h₂ fun C D r s' hr => ?_
  cases r with
  | error e => exact hr.elim
  | ok f =>
    obtain ⟨hos, hg, ys, rest, oC, mC, hoC, F, N, hDC, off, hf⟩ := hr
    refine ⟨mC, hoC.ns (N (C, oC) (List.mem_cons_of_mem _ List.mem_cons_self)).1, fun h' hs' => ?_⟩
    have X := blk_let F N hDC off hs'
    exact fin ys rest D _ hf X.1 X.2 (fun p hp => (off p hp).1) hg hos

theorem compA {elt target iter : Expr} {ifs : List Expr} {gs : List Comprehension} {scope : Scope} {cl : List (Str × Addr)} {pos py spos : Pos} {y : Str} {Q : Flow → Shared → Prop} {m : Loc} (Fin : Addr → List Value → Led → Prop)
    (hsw : swapsWith (.ListComp elt (⟨target, iter, ifs, 0⟩ :: gs) scope pos) (some (.Name y py)) spos.line env = pure true)
    (hclos : closureFor scope env = pure cl) (hcell : ∀ y ∈ scope.names, y.2 ≠ .cell) (hkind : scope.kind = .function)
    (hnames : ∀ y ∈ scope.names, y.2 = .local → scope.names.lookup y.1 = some .local)
    (hy : env.kindOf y = some .local) (hp : (env.scope.kind == .class || (env.scope.kind == .module && env.locals != env.globals)) = false)
    (h : wpAny (model prog w) A (eval iter env) (fun xv s₁ => wpAny (model prog w) A (pyIter xv) (BlkAt prog w A h₀ env.locals m env (.ListComp elt (⟨target, iter, ifs, 0⟩ :: gs) scope pos) scope cl Fin s) NR s₁) NR s)
    (fin : ∀ ys rest D s', Fin D ys rest → Fr h₀ env.locals s'.heap (fun z => if z = y then some (.ref D) else m z) → News h₀ env.locals s'.heap ((D, lst ys) :: rest) → (∀ p ∈ rest, p.1 ≠ D) → AllBare s'.gens → s'.os = s.os → Q .next s')
    (hs : ∀ x, foldedSetIterable iter env x = pure x := by intro _; rfl) :
    wpAny (model prog w) A (exec (.Assign [.Name y py] (.ListComp elt (⟨target, iter, ifs, 0⟩ :: gs) scope pos) spos) env) Q NR s := by
  rw [exec_Assign_Name_used _ _ _ _ hsw]
  refine wpAny_bind (wpAny_standAt (wpAny_bind ?_))
  show wpAny _ A (do let _ ← comprehension (.ListComp elt (⟨target, iter, ifs, 0⟩ :: gs) scope pos) scope env _ (newList []) false (eval iter env) (some (assign (.Name y py) env))) _ _ s
  refine wpAny_bind (wpAny_mono (wpAny_comprehension_free (use := some (assign (.Name y py) env)) (Q := fun _ s' => Q .next s') rfl hs hclos hkind hnames
    (wpAny_mono h (fun xv s₁ h₁ => wpAny_mono h₁ (fun it s₂ h₂ => ?_) fun _ _ e => e) fun _ _ e => e)) (fun _ s' hq => wpAny_pure (wpAny_pure hq)) fun _ _ e => e)
  refine blk_new hcell hkind h₂ fun C D r s' hr => ?_
  cases r with
  | error e => exact hr.elim
  | ok f =>
    obtain ⟨hos, hg, ys, rest, oC, mC, hoC, F, N, hDC, off, hf⟩ := hr
    show wpAny _ A (assign (.Name y py) env (.ref D)) _ _ _
    refine assignL hy hp F N fun h₂ F₂ N₂ => ?_
    refine ⟨mC, hoC.ns (N₂ (C, oC) (List.mem_cons_of_mem _ List.mem_cons_self)).1, fun h' hs' => ?_⟩
    have X := blk_let F₂ N₂ hDC off hs'
    exact fin ys rest D _ hf X.1 X.2 (fun p hp => (off p hp).1) hg hos
end comps
end Mine

namespace Mine
section comps
variable {prog : Program} {w : World} {A : Around} {s : Shared} {env cenv : Env} {h₀ : Heap} {L : Addr}

/-- a local of a block is stored -/
theorem assignC {x : Str} {px : Pos} {v : Value} {scope : Scope} {cl : List (Str × Addr)} {C : Addr} {oC : Obj} {mC m : Loc} {pre rest : Led} {Q : Unit → Shared → Prop} (hx : scope.names.lookup x = some .local) (hkind : scope.kind = .function)
    (hoC : NsObj oC mC) (F : Fr h₀ L s.heap m) (N : News h₀ L s.heap (pre ++ (C, oC) :: rest)) (h1 : ∀ p ∈ pre, p.1 ≠ C) (h2 : ∀ p ∈ rest, p.1 ≠ C)
    (h : ∀ h' oC', NsObj oC' (fun y => if y = x then some v else mC y) → Fr h₀ L h' m → News h₀ L h' (pre ++ (C, oC') :: rest) → Q () { s with heap := h', toks := s.toks + 1 }) :
    wpAny (model prog w) A (assign (.Name x px) (compEnvC scope cl C env) v) Q NR s := by
  have hC := N (C, oC) (List.mem_append_right _ List.mem_cons_self)
  refine wpAny_assign_Name (wpAny_storeName_local (lookup_relabel_local hx) (hoC.ns hC.1) (fun h₃ hn₃ hs₃ => ?_) (by simp [compEnvC, relabel, hkind]))
  obtain ⟨oC', heC, hoC'⟩ := ns_obj hn₃
  refine h h₃ oC' hoC' (F.change hs₃ hC.2.1 hC.2.2) fun p hp => ?_
  rcases List.mem_append.mp hp with hp | hp
  · have n := N p (List.mem_append_left _ hp)
    exact ⟨hs₃.extBut _ _ (h1 p hp) n.1, n.2⟩
  · rcases List.mem_cons.mp hp with rfl | hp
    · exact ⟨heC, hC.2⟩
    · have n := N p (List.mem_append_right _ (List.mem_cons_of_mem _ hp))
      exact ⟨hs₃.extBut _ _ (h2 p hp) n.1, n.2⟩

def Apart (I D C : Addr) (rest : Led) : Prop := (I ≠ D ∧ I ≠ C ∧ D ≠ C) ∧ ∀ p ∈ rest, p.1 ≠ I ∧ p.1 ≠ D ∧ p.1 ≠ C

def El (h₀ : Heap) (L : Addr) (m : Loc) (I : Addr) (oI : Obj) (D C : Addr) (oC : Obj) (S : Led → Prop) (ys : List Value) (K : List Value → Led → Prop) (s : Shared) (y : Value) (s₂ : Shared) : Prop :=
  s₂.os = s.os ∧ AllBare s₂.gens ∧ ∃ rest, Fr h₀ L s₂.heap m ∧ News h₀ L s₂.heap ((I, oI) :: (D, lst ys) :: (C, oC) :: rest) ∧ Apart I D C rest ∧ S rest ∧ K (ys ++ [y]) rest
def Tu (h₀ : Heap) (L : Addr) (m : Loc) (I : Addr) (oI : Obj) (D C : Addr) (oC : Obj) (S : Led → Prop) (ys : List Value) (K : List Value → Led → Prop) (s s₂ : Shared) : Prop :=
  s₂.os = s.os ∧ AllBare s₂.gens ∧ ∃ rest, Fr h₀ L s₂.heap m ∧ News h₀ L s₂.heap ((I, oI) :: (D, lst ys) :: (C, oC) :: rest) ∧ Apart I D C rest ∧ S rest ∧ K ys rest

theorem blk1W {elt iter : Expr} {ifs : List Expr} {x : Str} {px : Pos} {scope : Scope} {cl : List (Str × Addr)} {pos : Pos} {I : Addr} {fp : List Addr} {n : Nat} {P : Nat → Value → Prop} {St : Nat → Heap → Prop} {S : Led → Prop} {m : Loc} {news : Led} (s₀ : Shared)
    (W : Walks prog w A I fp [I] n P St) (hIo : ∀ i h, St i h → ∃ o, h.get? I = some o)
    (hSt : ∀ i h h' o nw, St i h → h.get? I = some o → h'.get? I = some o → (∀ b o, h₀.get? b = some o → h'.get? b = some o) → News h₀ L h' nw → S nw → St i h')
    (hfp : ∀ b ∈ fp, b < s.heap.objs.size) (hIL : L ≠ I) (hI₀ : h₀.get? I = none) (hx : scope.names.lookup x = some .local) (hkind : scope.kind = .function)
    (K : Addr → Nat → List Value → Led → Prop) (hK : ∀ D i ys rest, K D i ys rest → ys.length ≤ sizeLine)
    (hst : St 0 s.heap) (F : Fr h₀ L s.heap m) (N : News h₀ L s.heap news) (off : ∀ p ∈ news, p.1 ≠ I) (hS : S news) (hg : AllBare s.gens) (hos : s.os = s₀.os) (hj : ∀ D, (∀ p ∈ news, p.1 < D) → K D 0 [] news)
    (turn : ∀ i v ys rest oI oC mC C D s₁, i < n → P i v → K D i ys rest → S rest → s₁.os = s₀.os → AllBare s₁.gens → NsObj oC mC → mC x = some v → Fr h₀ L s₁.heap m → News h₀ L s₁.heap ((I, oI) :: (D, lst ys) :: (C, oC) :: rest) → Apart I D C rest →
      wpAny (model prog w) A (testsOf ifs (compEnvC scope cl C env)) (fun ok s₃ =>
        if ok = true then wpAny (model prog w) A (eval elt (compEnvC scope cl C env)) (El h₀ L m I oI D C oC S ys (K D (i + 1)) s₀) NR s₃ else Tu h₀ L m I oI D C oC S ys (K D (i + 1)) s₀ s₃) NR s₁) :
    BlkAt prog w A h₀ L m env (.ListComp elt [⟨.Name x px, iter, ifs, 0⟩] scope pos) scope cl (fun D => K D n) s₀ (.ref I) s := by
  refine ⟨news, F, N, hg, hos, fun C D oC s₃ hnD hsD hDC hLD hoC F₃ N₃ hos₃ hg₃ up => ?_⟩
  have hst₃ : St 0 s₃.heap := W.frame _ _ _ hst fun b _ o e => up b o e
  have hIlt : I < s.heap.objs.size := hfp I (W.sub I (List.mem_singleton.mpr rfl))
  have hID : D ≠ I := fun e => absurd (Nat.lt_of_lt_of_le hIlt hsD) (by rw [e]; exact Nat.lt_irrefl _)
  have hIC : C ≠ I := fun e => absurd (Nat.lt_trans (Nat.lt_of_lt_of_le hIlt hsD) hDC) (by rw [e]; exact Nat.lt_irrefl _)
  have hfD : D ∉ fp := fun h => absurd (Nat.lt_of_lt_of_le (hfp D h) hsD) (Nat.lt_irrefl _)
  have loop : codeAny (model prog w) A (.compLoop (.ListComp elt [⟨.Name x px, iter, ifs, 0⟩] scope pos) 0 (.ref I) (.ref D) (compEnvC scope cl C env)) (BlkEnd h₀ L m C D (fun D => K D n) s₀) s₃ := by
    refine leafW (n := n) (cenv := compEnvC scope cl C env) (S := fun rest => ∃ oC r, rest = (C, oC) :: r ∧ S r) (m := m) s₀ (fun It turn n h => leaf1 It turn n h) W hIo
      (fun i h h' o nw st e1 e2 k Nw ⟨oC, r, e, hS⟩ => hSt i h h' o r st e1 e2 k (fun p hp => Nw p (e ▸ List.mem_cons_of_mem _ hp)) hS)
      hfD hIL hI₀ (fun _ _ => rfl) (fun i ys rest => ∃ oC mC r, rest = (C, oC) :: r ∧ NsObj oC mC ∧ (∀ p ∈ r, p.1 ≠ C) ∧ K D i ys r) (fun i ys rest ⟨_, _, _, _, _, _, h⟩ => hK D i ys _ h)
      hst₃ F₃ N₃ hID (fun p hp => ?_) ⟨oC, news, rfl, hS⟩ hg₃ hos₃ ⟨oC, _, news, rfl, hoC, fun p hp e => ?_, hj D hnD⟩ ?_ ?_
    · rcases List.mem_cons.mp hp with rfl | hp
      · exact ⟨hIC, Nat.ne_of_gt hDC⟩
      · exact ⟨off p hp, Nat.ne_of_lt (hnD p hp)⟩
    · exact absurd (Nat.lt_trans (hnD p hp) hDC) (by rw [e]; exact Nat.lt_irrefl _)
    · rintro i v ys rest oI s₁ hi hP ⟨oC₁, mC, r, rfl, hoC₁, hrC, hk⟩ ⟨oC₂, r₂, e₂, hS₂⟩ h1 h2 F₁ N₁ off₁
      cases e₂
      have hap : Apart I D C r := ⟨⟨Ne.symm hID, Ne.symm hIC, Nat.ne_of_lt hDC⟩, fun p hp => ⟨(off₁ p (List.mem_cons_of_mem _ hp)).1, (off₁ p (List.mem_cons_of_mem _ hp)).2, hrC p hp⟩⟩
      refine assignC (pre := [(I, oI), (D, lst ys)]) hx hkind hoC₁ F₁ N₁ (fun p hp => ?_) hrC fun h' oC' hoC' F' N' => ?_
      · rcases List.mem_cons.mp hp with rfl | hp
        · exact Ne.symm hIC
        · rw [List.mem_singleton.mp hp]; exact Nat.ne_of_lt hDC
      refine wpAny_mono (turn i v ys r oI oC' _ C D _ hi hP hk hS₂ h1 h2 hoC' (by simp) F' N' hap) (fun ok s₄ h₄ => ?_) fun _ _ e => e
      cases ok with
      | true =>
        simp only [if_true] at h₄ ⊢
        refine wpAny_mono h₄ (fun y s₅ h₅ => ?_) fun _ _ e => e
        obtain ⟨e1, e2, rest₂, e3, e4, ⟨e5, e5'⟩, e6, e7⟩ := h₅
        refine ⟨e1, e2, (C, oC') :: rest₂, e3, e4, fun p hp => ?_, ⟨_, _, rfl, e6⟩, ⟨oC', _, rest₂, rfl, hoC', fun p hp => (e5' p hp).2.2, e7⟩⟩
        rcases List.mem_cons.mp hp with rfl | hp
        · exact ⟨hIC, Nat.ne_of_gt hDC⟩
        · exact ⟨(e5' p hp).1, (e5' p hp).2.1⟩
      | false =>
        simp only [Bool.false_eq_true, if_false] at h₄ ⊢
        obtain ⟨e1, e2, rest₂, e3, e4, ⟨e5, e5'⟩, e6, e7⟩ := h₄
        refine ⟨e1, e2, ys, (C, oC') :: rest₂, e3, e4, fun p hp => ?_, ⟨_, _, rfl, e6⟩, ⟨oC', _, rest₂, rfl, hoC', fun p hp => (e5' p hp).2.2, e7⟩⟩
        rcases List.mem_cons.mp hp with rfl | hp
        · exact ⟨hIC, Nat.ne_of_gt hDC⟩
        · exact ⟨(e5' p hp).1, (e5' p hp).2.1⟩
    · rintro ys rest s₁ ⟨oC₁, mC, r, rfl, hoC₁, hrC, hk⟩ _ h1 h2 F₁ N₁ off₁
      exact ⟨h1, h2, ys, r, oC₁, mC, hoC₁, F₁, N₁, Nat.ne_of_lt hDC, fun p hp => ⟨off₁ p (List.mem_cons_of_mem _ hp), hrC p hp⟩, hk⟩
  exact codeAny_compStart_list loop (W.self 0 _ _ _ hst₃ loop)

/-- the iterable of a block is a range -/
def RngB (h₀ : Heap) (L : Addr) (m : Loc) (a : Int) (n : Nat) (K : Led → Prop) (s : Shared) (xv : Value) (s₁ : Shared) : Prop :=
  ∃ r b t u v news, xv = .ref r ∧ IsRange s₁.heap r a b 1 t u v ∧ Builtin.Range.small a b 1 = true ∧ Builtin.Range.rangeSize a b 1 = ((n : Nat) : Int) ∧ Fr h₀ L s₁.heap m ∧ News h₀ L s₁.heap news ∧ AllBare s₁.gens ∧ s₁.os = s.os ∧ K news
/-- .. a list -/
def LstB (h₀ : Heap) (L : Addr) (m : Loc) (its : Array Value) (K : Led → Prop) (s : Shared) (xv : Value) (s₁ : Shared) : Prop :=
  ∃ ax news, xv = .ref ax ∧ SrcAt h₀ ax its news ∧ Fr h₀ L s₁.heap m ∧ News h₀ L s₁.heap news ∧ AllBare s₁.gens ∧ s₁.os = s.os ∧ K news

theorem blk1Range {elt iter : Expr} {ifs : List Expr} {x : Str} {px : Pos} {scope : Scope} {cl : List (Str × Addr)} {pos : Pos} {a : Int} {n : Nat} {m : Loc} {xv : Value} (s₀ : Shared) (hh : A.handled = none)
    (K : Addr → Nat → List Value → Led → Prop) (hr : RngB h₀ L m a n (fun news => ∀ D, (∀ p ∈ news, p.1 < D) → K D 0 [] news) s₀ xv s) (hx : scope.names.lookup x = some .local) (hkind : scope.kind = .function)
    (hK : ∀ D i ys rest, K D i ys rest → ys.length ≤ sizeLine)
    (turn : ∀ i t ys rest I oI oC mC C D s₁, i < n → K D i ys rest → s₁.os = s₀.os → AllBare s₁.gens → NsObj oC mC → mC x = some (.int (a + (i : Int)) t) → Fr h₀ L s₁.heap m → News h₀ L s₁.heap ((I, oI) :: (D, lst ys) :: (C, oC) :: rest) → Apart I D C rest →
      wpAny (model prog w) A (testsOf ifs (compEnvC scope cl C env)) (fun ok s₃ =>
        if ok = true then wpAny (model prog w) A (eval elt (compEnvC scope cl C env)) (El h₀ L m I oI D C oC (fun _ => True) ys (K D (i + 1)) s₀) NR s₃ else Tu h₀ L m I oI D C oC (fun _ => True) ys (K D (i + 1)) s₀ s₃) NR s₁) :
    wpAny (model prog w) A (pyIter xv) (BlkAt prog w A h₀ L m env (.ListComp elt [⟨.Name x px, iter, ifs, 0⟩] scope pos) scope cl (fun D => K D n) s₀) NR s := by
  obtain ⟨r, b, t, u, v, news, rfl, hr, hsm, hn, F, N, hg, hos, hj⟩ := hr
  refine wpAny_pyIter_range hr hsm ?_
  refine blk1W (n := n) (S := fun _ => True) (m := m) s₀ (range_walks hh a n) (fun i h st => ⟨_, st⟩) range_st (fun b hb => ?_) (Nat.ne_of_lt F.ns.lt) (next_is_new F) hx hkind K hK
    (by show IsRangeIter _ _ _ _ _; rw [hn]; simpa using Heap.get?_push_size _ rfl) (F.keeps fun _ _ e => Heap.get?_push_of_some _ e) (N.grown fun _ _ e => Heap.get?_push_of_some _ e) (fun p hp => Nat.ne_of_lt (Heap.lt_size (N p hp).1)) trivial hg hos hj ?_
  · rw [List.mem_singleton.mp hb]
    show s.heap.objs.size < (s.heap.push _).objs.size
    rw [Heap.size_push]; exact Nat.lt_succ_self _
  · rintro i v ys rest oI oC mC C D s₁ hi ⟨t', rfl⟩ hk _ h1 h2 h3 h4 h5 h6 h7
    exact turn i t' ys rest _ oI oC mC C D s₁ hi hk h1 h2 h3 h4 h5 h6 h7

theorem blk1List {elt iter : Expr} {ifs : List Expr} {x : Str} {px : Pos} {scope : Scope} {cl : List (Str × Addr)} {pos : Pos} {its : Array Value} {m : Loc} {xv : Value} (s₀ : Shared) (hh : A.handled = none)
    (K : Addr → Nat → List Value → Led → Prop) (hr : LstB h₀ L m its (fun news => ∀ D, (∀ p ∈ news, p.1 < D) → K D 0 [] news) s₀ xv s) (hx : scope.names.lookup x = some .local) (hkind : scope.kind = .function)
    (hK : ∀ D i ys rest, K D i ys rest → ys.length ≤ sizeLine)
    (turn : ∀ i v ys rest ax I oI oC mC C D s₁, its[i]? = some v → K D i ys rest → SrcAt h₀ ax its rest → s₁.os = s₀.os → AllBare s₁.gens → NsObj oC mC → mC x = some v → Fr h₀ L s₁.heap m → News h₀ L s₁.heap ((I, oI) :: (D, lst ys) :: (C, oC) :: rest) → Apart I D C rest →
      wpAny (model prog w) A (testsOf ifs (compEnvC scope cl C env)) (fun ok s₃ =>
        if ok = true then wpAny (model prog w) A (eval elt (compEnvC scope cl C env)) (El h₀ L m I oI D C oC (SrcAt h₀ ax its) ys (K D (i + 1)) s₀) NR s₃ else Tu h₀ L m I oI D C oC (SrcAt h₀ ax its) ys (K D (i + 1)) s₀ s₃) NR s₁) :
    wpAny (model prog w) A (pyIter xv) (BlkAt prog w A h₀ L m env (.ListComp elt [⟨.Name x px, iter, ifs, 0⟩] scope pos) scope cl (fun D => K D its.size) s₀) NR s := by
  obtain ⟨ax, news, rfl, S, F, N, hg, hos, hj⟩ := hr
  have hl := S.list F.keep N
  have hlt : ax < s.heap.objs.size := by obtain ⟨_, e, _⟩ := hl; exact Heap.lt_size e
  refine wpAny_pyIter_list hl ?_
  have up : ∀ b o, s.heap.get? b = some o → (s.heap.push { cls := .type "list_iterator", data := .fields #[.ref ax, .int 0 0] }).get? b = some o := fun b o e => Heap.get?_push_of_some _ e
  refine blk1W (n := its.size) (S := SrcAt h₀ ax its) (m := m) s₀ (Walks.list hh s.heap.objs.size ax (Nat.ne_of_lt hlt) its) (fun i h st => by obtain ⟨o, e, _⟩ := st.1; exact ⟨o, e⟩) list_st (fun b hb => ?_) (Nat.ne_of_lt F.ns.lt) (next_is_new F) hx hkind K hK
    ⟨⟨_, Heap.get?_push_size _ rfl, rfl, rfl⟩, hl.push _⟩ (F.keeps up) (N.grown up) (fun p hp => Nat.ne_of_lt (Heap.lt_size (N p hp).1)) S hg hos hj ?_
  · show b < (s.heap.push _).objs.size
    rw [Heap.size_push]
    rcases List.mem_cons.mp hb with rfl | hb
    · exact Nat.lt_succ_self _
    · rw [List.mem_singleton.mp hb]; exact Nat.lt_succ_of_lt hlt
  · rintro i v ys rest oI oC mC C D s₁ _ hP hk hS h1 h2 h3 h4 h5 h6 h7
    exact turn i v ys rest ax _ oI oC mC C D s₁ hP hk hS h1 h2 h3 h4 h5 h6 h7
end comps
end Mine

namespace Mine
section comps
variable {prog : Program} {w : World} {A : Around} {s : Shared} {env cenv : Env} {h₀ : Heap} {L : Addr}

/-- behind the inner loop -/
def In2End (h₀ : Heap) (L : Addr) (m : Loc) (I : Addr) (oI : Obj) (D C : Addr) (S : Led → Prop) (K : List Value → Led → Prop) (s : Shared) (r : Result) (s₂ : Shared) : Prop :=
  match r with
  | .error _ => False
  | .ok _ => s₂.os = s.os ∧ AllBare s₂.gens ∧ ∃ ys rest oC mC, NsObj oC mC ∧ Fr h₀ L s₂.heap m ∧ News h₀ L s₂.heap ((I, oI) :: (D, lst ys) :: (C, oC) :: rest) ∧ Apart I D C rest ∧ S rest ∧ K ys rest

theorem blk2List {elt iter iter' target' : Expr} {x : Str} {px : Pos} {scope : Scope} {cl : List (Str × Addr)} {pos : Pos} {its : Array Value} {m : Loc} {xv : Value} (s₀ : Shared) (hh : A.handled = none)
    (K : Addr → Nat → List Value → Led → Prop) (hr : LstB h₀ L m its (fun news => ∀ D, (∀ p ∈ news, p.1 < D) → K D 0 [] news) s₀ xv s) (hx : scope.names.lookup x = some .local) (hkind : scope.kind = .function)
    (hs : ∀ C x, foldedSetIterable iter' (compEnvC scope cl C env) x = pure x)
    (turn : ∀ i v ys rest ax I oI oC mC C D s₁, its[i]? = some v → K D i ys rest → SrcAt h₀ ax its rest → s₁.os = s₀.os → AllBare s₁.gens → NsObj oC mC → mC x = some v → Fr h₀ L s₁.heap m → News h₀ L s₁.heap ((I, oI) :: (D, lst ys) :: (C, oC) :: rest) → Apart I D C rest →
      wpAny (model prog w) A (eval iter' (compEnvC scope cl C env)) (fun xv' s₃ => wpAny (model prog w) A (pyIter xv') (fun it' s₄ =>
        codeAny (model prog w) A (.compStart (.ListComp elt [⟨.Name x px, iter, [], 0⟩, ⟨target', iter', [], 0⟩] scope pos) 1 it' (.ref D) (compEnvC scope cl C env)) (In2End h₀ L m I oI D C (SrcAt h₀ ax its) (K D (i + 1)) s₀) s₄) NR s₃) NR s₁) :
    wpAny (model prog w) A (pyIter xv) (BlkAt prog w A h₀ L m env (.ListComp elt [⟨.Name x px, iter, [], 0⟩, ⟨target', iter', [], 0⟩] scope pos) scope cl (fun D => K D its.size) s₀) NR s := by
  obtain ⟨ax, news, rfl, S, F, N, hg, hos, hj⟩ := hr
  have hl := S.list F.keep N
  have hlt : ax < s.heap.objs.size := by obtain ⟨_, e, _⟩ := hl; exact Heap.lt_size e
  refine wpAny_pyIter_list hl ?_
  have up₀ : ∀ b o, s.heap.get? b = some o → (s.heap.push { cls := .type "list_iterator", data := .fields #[.ref ax, .int 0 0] }).get? b = some o := fun b o e => Heap.get?_push_of_some _ e
  have W := Walks.list (prog := prog) (w := w) hh s.heap.objs.size ax (Nat.ne_of_lt hlt) its
  have hst : (fun i (h : Heap) => h.IsListIter s.heap.objs.size ax i ∧ h.IsList ax its) 0 (s.heap.push { cls := .type "list_iterator", data := .fields #[.ref ax, .int 0 0] }) := ⟨⟨_, Heap.get?_push_size _ rfl, rfl, rfl⟩, hl.push _⟩
  refine ⟨news, F.keeps up₀, N.grown up₀, hg, hos, fun C D oC s₃ hnD hsD hDC hLD hoC F₃ N₃ hos₃ hg₃ up => ?_⟩
  have hst₃ := W.frame _ _ _ hst fun b _ o e => up b o e
  have hIlt : s.heap.objs.size < D := Nat.lt_of_lt_of_le (Nat.lt_succ_self _) (Nat.le_trans (by show _ ≤ (s.heap.push _).objs.size; rw [Heap.size_push]; exact Nat.le_refl _) hsD)
  generalize hI : s.heap.objs.size = I at *
  have hIL : L ≠ I := hI ▸ Nat.ne_of_lt F.ns.lt
  have hI₀ : h₀.get? I = none := hI ▸ next_is_new F
  have hID : D ≠ I := Nat.ne_of_gt hIlt
  have hIC : C ≠ I := Nat.ne_of_gt (Nat.lt_trans hIlt hDC)
  have off : ∀ p ∈ news, p.1 ≠ I := fun p hp => hI ▸ Nat.ne_of_lt (Heap.lt_size (N p hp).1)
  have loop : codeAny (model prog w) A (.compLoop (.ListComp elt [⟨.Name x px, iter, [], 0⟩, ⟨target', iter', [], 0⟩] scope pos) 0 (.ref I) (.ref D) (compEnvC scope cl C env)) (BlkEnd h₀ L m C D (fun D => K D its.size) s₀) s₃ := by
    refine inW (n := its.size) (cenv := compEnvC scope cl C env) (S := fun rest => ∃ oC r, rest = (C, oC) :: r ∧ SrcAt h₀ ax its r) (m := m) s₀ (fun It turn n h => in2 It (hs C) turn n h) W (fun i h st => by obtain ⟨o, e, _⟩ := st.1; exact ⟨o, e⟩)
      (fun i h h' o nw st e1 e2 k Nw ⟨oC, r, e, hS⟩ => list_st i h h' o r st e1 e2 k (fun p hp => Nw p (e ▸ List.mem_cons_of_mem _ hp)) hS)
      hIL hI₀ (fun _ _ => rfl) (fun i ys rest => ∃ oC mC r, rest = (C, oC) :: r ∧ NsObj oC mC ∧ (∀ p ∈ r, p.1 ≠ C) ∧ K D i ys r)
      hst₃ F₃ N₃ hID (fun p hp => ?_) ⟨oC, news, rfl, S⟩ hg₃ hos₃ ⟨oC, _, news, rfl, hoC, fun p hp e => ?_, hj D hnD⟩ ?_ ?_
    · rcases List.mem_cons.mp hp with rfl | hp
      · exact ⟨hIC, Nat.ne_of_gt hDC⟩
      · exact ⟨off p hp, Nat.ne_of_lt (hnD p hp)⟩
    · exact absurd (Nat.lt_trans (hnD p hp) hDC) (by rw [e]; exact Nat.lt_irrefl _)
    · rintro i v ys rest oI s₁ hi hP ⟨oC₁, mC, r, rfl, hoC₁, hrC, hk⟩ ⟨oC₂, r₂, e₂, hS₂⟩ h1 h2 F₁ N₁ off₁
      cases e₂
      have hap : Apart I D C r := ⟨⟨Ne.symm hID, Ne.symm hIC, Nat.ne_of_lt hDC⟩, fun p hp => ⟨(off₁ p (List.mem_cons_of_mem _ hp)).1, (off₁ p (List.mem_cons_of_mem _ hp)).2, hrC p hp⟩⟩
      refine assignC (pre := [(I, oI), (D, lst ys)]) hx hkind hoC₁ F₁ N₁ (fun p hp => ?_) hrC fun h' oC' hoC' F' N' => ?_
      · rcases List.mem_cons.mp hp with rfl | hp
        · exact Ne.symm hIC
        · rw [List.mem_singleton.mp hp]; exact Nat.ne_of_lt hDC
      refine wpAny_mono (turn i v ys r ax I oI oC' _ C D _ hP hk hS₂ h1 h2 hoC' (by simp) F' N' hap) (fun xv' s₄ h₄ => wpAny_mono h₄ (fun it' s₅ h₅ => codeAny_mono h₅ fun r' s₆ h₆ => ?_) fun _ _ e => e) fun _ _ e => e
      cases r' with
      | error _ => exact h₆
      | ok f =>
        obtain ⟨e1, e2, ys₂, rest₂, oC₂, mC₂, e0, e3, e4, ⟨e5, e5'⟩, e6, e7⟩ := h₆
        refine ⟨e1, e2, ys₂, (C, oC₂) :: rest₂, e3, e4, fun p hp => ?_, ⟨_, _, rfl, e6⟩, ⟨oC₂, _, rest₂, rfl, e0, fun p hp => (e5' p hp).2.2, e7⟩⟩
        rcases List.mem_cons.mp hp with rfl | hp
        · exact ⟨hIC, Nat.ne_of_gt hDC⟩
        · exact ⟨(e5' p hp).1, (e5' p hp).2.1⟩
    · rintro ys rest s₁ ⟨oC₁, mC, r, rfl, hoC₁, hrC, hk⟩ _ h1 h2 F₁ N₁ off₁
      exact ⟨h1, h2, ys, r, oC₁, mC, hoC₁, F₁, N₁, Nat.ne_of_lt hDC, fun p hp => ⟨off₁ p (List.mem_cons_of_mem _ hp), hrC p hp⟩, hk⟩
  exact codeAny_compStart_list loop (W.self 0 _ _ _ hst₃ loop)

/-- behind an element of the inner loop -/
def El2 (h₀ : Heap) (L : Addr) (m : Loc) (I' : Addr) (oI' : Obj) (I : Addr) (oI : Obj) (D C : Addr) (oC : Obj) (ys : List Value) (K : List Value → Led → Prop) (s : Shared) (y : Value) (s₂ : Shared) : Prop :=
  s₂.os = s.os ∧ AllBare s₂.gens ∧ ∃ rest, Fr h₀ L s₂.heap m ∧ News h₀ L s₂.heap ((I', oI') :: (D, lst ys) :: (C, oC) :: (I, oI) :: rest) ∧ Apart I D C rest ∧ (∀ p ∈ rest, p.1 ≠ I') ∧ K (ys ++ [y]) rest

theorem innW {elt iter' : Expr} {g0 : Comprehension} {x y : Str} {py : Pos} {scope : Scope} {cl : List (Str × Addr)} {pos : Pos} {I I' D C : Addr} {oI oC : Obj} {mC m : Loc} {ys : List Value} {rest : Led} {v : Value} {n : Nat} {P : Nat → Value → Prop} {St : Nat → Heap → Prop} {S : Led → Prop} (s₀ : Shared)
    (W : Walks prog w A I' [I'] [I'] n P St) (hIo : ∀ i h, St i h → ∃ o, h.get? I' = some o)
    (hIL : L ≠ I') (hI₀ : h₀.get? I' = none) (hy : scope.names.lookup y = some .local) (hxy : x ≠ y) (hkind : scope.kind = .function)
    (K : Nat → List Value → Led → Prop) (hK : ∀ i ys rest, K i ys rest → ys.length ≤ sizeLine)
    (hst : St 0 s.heap) (hg : AllBare s.gens) (hos : s.os = s₀.os) (hoC : NsObj oC mC) (hv : mC x = some v) (F : Fr h₀ L s.heap m) (N : News h₀ L s.heap ((I, oI) :: (D, lst ys) :: (C, oC) :: rest)) (ap : Apart I D C rest)
    (off : ∀ p ∈ (I, oI) :: (D, lst ys) :: (C, oC) :: rest, p.1 ≠ I') (hS : S rest) (hj : K 0 ys rest)
    (turn : ∀ j v' ys rest oI' oC mC s₁, j < n → P j v' → K j ys rest → S rest → s₁.os = s₀.os → AllBare s₁.gens → NsObj oC mC → mC x = some v → mC y = some v' → Fr h₀ L s₁.heap m → News h₀ L s₁.heap ((I', oI') :: (D, lst ys) :: (C, oC) :: (I, oI) :: rest) → Apart I D C rest → (∀ p ∈ rest, p.1 ≠ I') → I' ≠ D → I' ≠ C → I' ≠ I →
      wpAny (model prog w) A (eval elt (compEnvC scope cl C env)) (fun y' s₂ => El2 h₀ L m I' oI' I oI D C oC ys (fun ys' r => S r ∧ K (j + 1) ys' r) s₀ y' s₂) NR s₁) :
    codeAny (model prog w) A (.compStart (.ListComp elt [g0, ⟨.Name y py, iter', [], 0⟩] scope pos) 1 (.ref I') (.ref D) (compEnvC scope cl C env)) (In2End h₀ L m I oI D C S (K n) s₀) s := by
  obtain ⟨⟨hID, hIC, hDC⟩, hap⟩ := ap
  have oD : D ≠ I' := off (D, lst ys) (by simp)
  have oC' : C ≠ I' := off (C, oC) (by simp)
  have oI₁ : I ≠ I' := off (I, oI) (by simp)
  have loop : codeAny (model prog w) A (.compLoop (.ListComp elt [g0, ⟨.Name y py, iter', [], 0⟩] scope pos) 1 (.ref I') (.ref D) (compEnvC scope cl C env)) (In2End h₀ L m I oI D C S (K n) s₀) s := by
    refine leafW (n := n) (cenv := compEnvC scope cl C env) (S := fun _ => True) (m := m) (rest := (C, oC) :: (I, oI) :: rest) (ys := ys) s₀ (fun It turn n h => leaf2 It turn n h) W hIo
      (fun i h h' o nw st e1 e2 k Nw _ => W.frame i h h' st fun b hb o' e => by
        rw [List.mem_singleton.mp hb] at e ⊢
        rw [e1] at e; cases e; exact e2)
      (fun h => oD (List.mem_singleton.mp h)) hIL hI₀ (fun _ _ => rfl)
      (fun j ys rr => ∃ oC mC r, rr = (C, oC) :: (I, oI) :: r ∧ NsObj oC mC ∧ mC x = some v ∧ Apart I D C r ∧ (∀ p ∈ r, p.1 ≠ I') ∧ S r ∧ K j ys r) (fun i ys rest ⟨_, _, _, _, _, _, _, _, _, h⟩ => hK i ys _ h)
      hst F (fun p hp => ?_) oD (fun p hp => ?_) trivial hg hos ⟨oC, mC, rest, rfl, hoC, hv, ⟨⟨hID, hIC, hDC⟩, hap⟩, fun p hp => off p (by simp [hp]), hS, hj⟩ ?_ ?_
    · refine N p ?_
      simp only [List.mem_cons] at hp ⊢
      rcases hp with rfl | rfl | rfl | hp <;> simp [*]
    · simp only [List.mem_cons] at hp
      rcases hp with rfl | rfl | hp
      · exact ⟨oC', Ne.symm hDC⟩
      · exact ⟨oI₁, hID⟩
      · exact ⟨off p (by simp [hp]), (hap p hp).2.1⟩
    · rintro j v' ys rr oI' s₁ hj' hP ⟨oC₁, mC₁, r, rfl, hoC₁, hv₁, hapr, hrI, hS₁, hk⟩ _ h1 h2 F₁ N₁ off₁
      refine assignC (pre := [(I', oI'), (D, lst ys)]) hy hkind hoC₁ F₁ N₁ (fun p hp => ?_) (fun p hp => ?_) fun h' oC₂ hoC₂ F' N' => ?_
      · rcases List.mem_cons.mp hp with rfl | hp
        · exact Ne.symm oC'
        · rw [List.mem_singleton.mp hp]; exact hDC
      · rcases List.mem_cons.mp hp with rfl | hp
        · exact hIC
        · exact (hapr.2 p hp).2.2
      refine wpAny_tests_nil ?_
      simp only [if_true]
      refine wpAny_mono (turn j v' ys r oI' oC₂ _ _ hj' hP hk hS₁ h1 h2 hoC₂ (by simp [hxy, hv₁]) (by simp) F' N' hapr hrI (Ne.symm oD) (Ne.symm oC') (Ne.symm oI₁)) (fun y' s₅ h₅ => ?_) fun _ _ e => e
      obtain ⟨e1, e2, rest₂, e3, e4, e5, e6, e7, e8⟩ := h₅
      refine ⟨e1, e2, (C, oC₂) :: (I, oI) :: rest₂, e3, e4, fun p hp => ?_, trivial, ⟨oC₂, _, rest₂, rfl, hoC₂, by simp [hxy, hv₁], e5, e6, e7, e8⟩⟩
      simp only [List.mem_cons] at hp
      rcases hp with rfl | rfl | hp
      · exact ⟨oC', Ne.symm hDC⟩
      · exact ⟨oI₁, hID⟩
      · exact ⟨e6 p hp, (e5.2 p hp).2.1⟩
    · rintro ys rr s₁ ⟨oC₁, mC₁, r, rfl, hoC₁, hv₁, hapr, hrI, hS₁, hk⟩ _ h1 h2 F₁ N₁ off₁
      refine ⟨h1, h2, ys, r, oC₁, mC₁, hoC₁, F₁, fun p hp => N₁ p ?_, hapr, hS₁, hk⟩
      simp only [List.mem_cons] at hp ⊢
      rcases hp with rfl | rfl | rfl | hp <;> simp [*]
  exact compStart1 loop (W.self 0 _ _ _ hst loop)

theorem innRange {elt iter' : Expr} {g0 : Comprehension} {x y : Str} {py : Pos} {scope : Scope} {cl : List (Str × Addr)} {pos : Pos} {I D C r : Addr} {oI oC : Obj} {mC m : Loc} {ys : List Value} {rest : Led} {v : Value} {n : Nat} {a b : Int} {t t₁ t₂ : Tok} {S : Led → Prop} (s₀ : Shared) (hh : A.handled = none)
    (hr : IsRange s.heap r a b 1 t t₁ t₂) (hsm : Builtin.Range.small a b 1 = true) (hn : Builtin.Range.rangeSize a b 1 = ((n : Nat) : Int))
    (hy : scope.names.lookup y = some .local) (hxy : x ≠ y) (hkind : scope.kind = .function)
    (K : Nat → List Value → Led → Prop) (hK : ∀ i ys rest, K i ys rest → ys.length ≤ sizeLine)
    (hg : AllBare s.gens) (hos : s.os = s₀.os) (hoC : NsObj oC mC) (hv : mC x = some v) (F : Fr h₀ L s.heap m) (N : News h₀ L s.heap ((I, oI) :: (D, lst ys) :: (C, oC) :: rest)) (ap : Apart I D C rest) (hS : S rest) (hj : K 0 ys rest)
    (turn : ∀ j t ys rest I' oI' oC mC s₁, j < n → K j ys rest → S rest → s₁.os = s₀.os → AllBare s₁.gens → NsObj oC mC → mC x = some v → mC y = some (.int (a + (j : Int)) t) → Fr h₀ L s₁.heap m → News h₀ L s₁.heap ((I', oI') :: (D, lst ys) :: (C, oC) :: (I, oI) :: rest) → Apart I D C rest → (∀ p ∈ rest, p.1 ≠ I') → I' ≠ D → I' ≠ C → I' ≠ I →
      wpAny (model prog w) A (eval elt (compEnvC scope cl C env)) (fun y' s₂ => El2 h₀ L m I' oI' I oI D C oC ys (fun ys' r => S r ∧ K (j + 1) ys' r) s₀ y' s₂) NR s₁) :
    wpAny (model prog w) A (pyIter (.ref r)) (fun it' s₄ => codeAny (model prog w) A (.compStart (.ListComp elt [g0, ⟨.Name y py, iter', [], 0⟩] scope pos) 1 it' (.ref D) (compEnvC scope cl C env)) (In2End h₀ L m I oI D C S (K n) s₀) s₄) NR s := by
  refine wpAny_pyIter_range hr hsm ?_
  refine innW (n := n) (x := x) s₀ (range_walks hh a n) (fun i h st => ⟨_, st⟩) (Nat.ne_of_lt F.ns.lt) (next_is_new F) hy hxy hkind K hK
    (by show IsRangeIter _ _ _ _ _; rw [hn]; simpa using Heap.get?_push_size _ rfl) hg hos hoC hv (F.keeps fun _ _ e => Heap.get?_push_of_some _ e) (N.grown fun _ _ e => Heap.get?_push_of_some _ e) ap (fun p hp => Nat.ne_of_lt (Heap.lt_size (N p hp).1)) hS hj ?_
  rintro j v' ys rest oI' oC mC s₁ hj' ⟨t', rfl⟩ hk h1 h2 h3 h4 h5 h6 h7 h8 h9 h10 h11 h12 h13
  exact turn j t' ys rest _ oI' oC mC s₁ hj' hk h1 h2 h3 h4 h5 h6 h7 h8 h9 h10 h11 h12 h13

theorem innStr {elt iter' : Expr} {g0 : Comprehension} {x y : Str} {py : Pos} {scope : Scope} {cl : List (Str × Addr)} {pos : Pos} {I D C : Addr} {oI oC : Obj} {mC m : Loc} {ys : List Value} {rest : Led} {v : Value} {z : Str} {t : Tok} {S : Led → Prop} (s₀ : Shared) (hh : A.handled = none)
    (ha : z.cps.all (· < 128) = true)
    (hy : scope.names.lookup y = some .local) (hxy : x ≠ y) (hkind : scope.kind = .function)
    (K : Nat → List Value → Led → Prop) (hK : ∀ i ys rest, K i ys rest → ys.length ≤ sizeLine)
    (hg : AllBare s.gens) (hos : s.os = s₀.os) (hoC : NsObj oC mC) (hv : mC x = some v) (F : Fr h₀ L s.heap m) (N : News h₀ L s.heap ((I, oI) :: (D, lst ys) :: (C, oC) :: rest)) (ap : Apart I D C rest) (hS : S rest) (hj : K 0 ys rest)
    (turn : ∀ j c u ys rest I' oI' oC mC s₁, z.cps[j]? = some c → K j ys rest → S rest → s₁.os = s₀.os → AllBare s₁.gens → NsObj oC mC → mC x = some v → mC y = some (.str ⟨#[c]⟩ u) → Fr h₀ L s₁.heap m → News h₀ L s₁.heap ((I', oI') :: (D, lst ys) :: (C, oC) :: (I, oI) :: rest) → Apart I D C rest → (∀ p ∈ rest, p.1 ≠ I') → I' ≠ D → I' ≠ C → I' ≠ I →
      wpAny (model prog w) A (eval elt (compEnvC scope cl C env)) (fun y' s₂ => El2 h₀ L m I' oI' I oI D C oC ys (fun ys' r => S r ∧ K (j + 1) ys' r) s₀ y' s₂) NR s₁) :
    wpAny (model prog w) A (pyIter (.str z t)) (fun it' s₄ => codeAny (model prog w) A (.compStart (.ListComp elt [g0, ⟨.Name y py, iter', [], 0⟩] scope pos) 1 it' (.ref D) (compEnvC scope cl C env)) (In2End h₀ L m I oI D C S (K z.cps.size) s₀) s₄) NR s := by
  refine wpAny_pyIter_ascii ha ?_
  refine innW (n := z.cps.size) (x := x) s₀ (Walks.strAscii hh _ z t) (fun i h st => by obtain ⟨o, e, _⟩ := st; exact ⟨o, e⟩) (Nat.ne_of_lt F.ns.lt) (next_is_new F) hy hxy hkind K hK
    ⟨_, Heap.get?_push_size _ rfl, rfl, rfl⟩ hg hos hoC hv (F.keeps fun _ _ e => Heap.get?_push_of_some _ e) (N.grown fun _ _ e => Heap.get?_push_of_some _ e) ap (fun p hp => Nat.ne_of_lt (Heap.lt_size (N p hp).1)) hS hj ?_
  rintro j v' ys rest oI' oC mC s₁ hj' ⟨c, u, hc, rfl⟩ hk h1 h2 h3 h4 h5 h6 h7 h8 h9 h10 h11 h12 h13
  exact turn j c u ys rest _ oI' oC mC s₁ hc hk h1 h2 h3 h4 h5 h6 h7 h8 h9 h10 h11 h12 h13
end comps
end Mine

namespace Mine
section comps
variable {prog : Program} {w : World} {A : Around} {s : Shared} {env cenv : Env} {h₀ : Heap} {L : Addr}

abbrev cell0 : Obj := { cls := .type "cell", data := .cell none }

/-- a block's namespace with one cell of its own -/
theorem envCell {E : Value → Shared → Prop} {scope : Scope} {x : Str} {cl : List (Str × Addr)} {Q : Env → Shared → Prop}
    (hc : ∀ n, cellsFrom n scope.names cl = (x, n) :: cl) (hp : ∀ h, pushCells h scope.names = h.push cell0)
    (h : Q { scope, locals := s.heap.objs.size, globals := env.globals, cells := (x, s.heap.objs.size + 1) :: cl, qual := env.qual, func := none, code := env.code, frame := env.frame, builtins := env.builtins }
      { s with heap := (s.heap.push { cls := .type "dict", data := .dict #[] }).push cell0 }) :
    wpAny (model prog w) A (newFunctionEnv scope env.globals cl [] env.qual none .none (some env)) Q E s := by
  simp only [newFunctionEnv, Option.isSome_some, if_true]
  refine wpAny_bind (wpAny_alloc ?_)
  refine wpAny_bind (wpAny_layCells _ (fun name kind cells => by cases hkc : kind == NameKind.cell <;> simp) _ _ _ _ ?_)
  rw [hc, hp]
  rw [show ({ s with heap := s.heap.push { cls := .type "dict", data := .dict #[] } } : Shared).heap.objs.size = s.heap.objs.size + 1 from Heap.size_push ..]
  exact wpAny_bind (wpAny_pure (wpAny_pure h))

def BlkEndC (h₀ : Heap) (L : Addr) (m : Loc) (C D : Addr) (Fin : Addr → List Value → Led → Prop) (s : Shared) (r : Result) (s' : Shared) : Prop := BlkEnd h₀ L m C D Fin s r s'
/-- ahead of a block with one cell -/
def BlkAtC (prog : Program) (w : World) (A : Around) (h₀ : Heap) (L : Addr) (m : Loc) (env : Env) (e : Expr) (scope : Scope) (cl : List (Str × Addr)) (x : Str) (Fin : Addr → List Value → Led → Prop) (s : Shared) (it : Value) (s₂ : Shared) : Prop :=
  ∃ news, Fr h₀ L s₂.heap m ∧ News h₀ L s₂.heap news ∧ AllBare s₂.gens ∧ s₂.os = s.os ∧
    ∀ C D W oC s₃, (∀ p ∈ news, p.1 < D) → s₂.heap.objs.size ≤ D → D < C → C < W → L < D → NsObj oC (fun _ => none) → Fr h₀ L s₃.heap m → News h₀ L s₃.heap ((D, lst []) :: (C, oC) :: (W, cell0) :: news) → s₃.os = s.os → AllBare s₃.gens → (∀ b o, s₂.heap.get? b = some o → s₃.heap.get? b = some o) →
      codeAny (model prog w) A (.compStart e 0 it (.ref D) (compEnvC scope ((x, W) :: cl) C env)) (BlkEnd h₀ L m C D Fin s) s₃

theorem blk_newC {e : Expr} {scope : Scope} {cl : List (Str × Addr)} {x : Str} {m : Loc} {Fin : Addr → List Value → Led → Prop} {s₀ : Shared} {it : Value} {RR : Value → Addr → Result → Shared → Prop}
    (hc : ∀ n, cellsFrom n scope.names cl = (x, n) :: cl) (hp : ∀ h, pushCells h scope.names = h.push cell0)
    (hb : BlkAtC prog w A h₀ L m env e scope cl x Fin s₀ it s)
    (hR : ∀ C D r s', BlkEnd h₀ L m C D Fin s₀ r s' → RR (.ref D) C r s') :
    wpAny (model prog w) A (newList []) (fun acc s₃ => wpAny (model prog w) A (newFunctionEnv scope env.globals cl [] env.qual none .none (some env)) (fun cenv s₄ =>
      codeAny (model prog w) A (.compStart e 0 it acc { cenv with scope := relabel scope env }) (RR acc cenv.locals) s₄) NR s₃) NR s := by
  obtain ⟨news, F, N, hg, hos, h⟩ := hb
  refine wpAny_newObj_type (envCell hc hp ?_)
  dsimp only
  have fresh₀ : ∀ a, s.heap.objs.size ≤ a → h₀.get? a = none := fun a ha => by
    cases e : h₀.get? a with
    | none => rfl
    | some o' => exact absurd (Heap.lt_size (F.keep a o' e)) (Nat.not_lt.mpr ha)
  have hLlt : L < s.heap.objs.size := F.ns.lt
  generalize hH2 : s.heap.push { cls := .type "list", dict := none, data := .seq ([] : List Value).toArray } = H2
  have hC : H2.objs.size = s.heap.objs.size + 1 := by rw [← hH2, Heap.size_push]
  generalize hH3 : H2.push { cls := .type "dict", data := .dict #[] } = H3
  have hW : H3.objs.size = s.heap.objs.size + 2 := by rw [← hH3, Heap.size_push, hC]
  have hns : H2.objs.size + 1 = H3.objs.size := by rw [hW, hC]
  have k1 : ∀ b o, s.heap.get? b = some o → H2.get? b = some o := fun b o e => hH2 ▸ Heap.get?_push_of_some _ e
  have k2 : ∀ b o, H2.get? b = some o → H3.get? b = some o := fun b o e => hH3 ▸ Heap.get?_push_of_some _ e
  have k3 : ∀ b o, H3.get? b = some o → (H3.push cell0).get? b = some o := fun b o e => Heap.get?_push_of_some _ e
  have old : ∀ b o, s.heap.get? b = some o → (H3.push cell0).get? b = some o := fun b o e => k3 b o (k2 b o (k1 b o e))
  have gD : (H3.push cell0).get? s.heap.objs.size = some (lst []) := k3 _ _ (k2 _ _ (hH2 ▸ Heap.get?_push_size _ rfl))
  have gC : (H3.push cell0).get? H2.objs.size = some { cls := .type "dict", data := .dict #[] } := k3 _ _ (hH3 ▸ Heap.get?_push_size _ rfl)
  have gW : (H3.push cell0).get? H3.objs.size = some cell0 := Heap.get?_push_size _ rfl
  have X := h H2.objs.size s.heap.objs.size H3.objs.size { cls := .type "dict", data := .dict #[] } { s with heap := H3.push cell0 } (fun p hp => Heap.lt_size (N p hp).1) (Nat.le_refl _) (by rw [hC]; exact Nat.lt_succ_self _) (by rw [hC, hW]; exact Nat.lt_succ_self _) hLlt
    ⟨#[], 0, rfl, by intro e he; simp at he, fun name => by rfl⟩ (F.keeps old)
    (fun p hp => by
      simp only [List.mem_cons] at hp
      rcases hp with rfl | rfl | rfl | hp
      · exact ⟨gD, Nat.ne_of_gt hLlt, fresh₀ _ (Nat.le_refl _)⟩
      · exact ⟨gC, by rw [hC]; exact Nat.ne_of_gt (Nat.lt_succ_of_lt hLlt), fresh₀ _ (by rw [hC]; exact Nat.le_succ _)⟩
      · exact ⟨gW, by rw [hW]; exact Nat.ne_of_gt (Nat.lt_succ_of_lt (Nat.lt_succ_of_lt hLlt)), fresh₀ _ (by rw [hW]; omega)⟩
      · exact ⟨old _ _ (N p hp).1, (N p hp).2⟩) hos hg old
  rw [hns]
  exact codeAny_mono X fun r s' hr => hR _ _ r s' hr

theorem compAC {elt target iter : Expr} {ifs : List Expr} {gs : List Comprehension} {scope : Scope} {cl : List (Str × Addr)} {pos py spos : Pos} {y x : Str} {Q : Flow → Shared → Prop} {m : Loc} (Fin : Addr → List Value → Led → Prop)
    (hsw : swapsWith (.ListComp elt (⟨target, iter, ifs, 0⟩ :: gs) scope pos) (some (.Name y py)) spos.line env = pure true)
    (hclos : closureFor scope env = pure cl) (hc : ∀ n, cellsFrom n scope.names cl = (x, n) :: cl) (hpc : ∀ h, pushCells h scope.names = h.push cell0) (hkind : scope.kind = .function)
    (hnames : ∀ y ∈ scope.names, y.2 = .local → scope.names.lookup y.1 = some .local)
    (hy : env.kindOf y = some .local) (hp : (env.scope.kind == .class || (env.scope.kind == .module && env.locals != env.globals)) = false)
    (h : wpAny (model prog w) A (eval iter env) (fun xv s₁ => wpAny (model prog w) A (pyIter xv) (BlkAtC prog w A h₀ env.locals m env (.ListComp elt (⟨target, iter, ifs, 0⟩ :: gs) scope pos) scope cl x Fin s) NR s₁) NR s)
    (fin : ∀ ys rest D s', Fin D ys rest → Fr h₀ env.locals s'.heap (fun z => if z = y then some (.ref D) else m z) → News h₀ env.locals s'.heap ((D, lst ys) :: rest) → (∀ p ∈ rest, p.1 ≠ D) → AllBare s'.gens → s'.os = s.os → Q .next s')
    (hs : ∀ x, foldedSetIterable iter env x = pure x := by intro _; rfl) :
    wpAny (model prog w) A (exec (.Assign [.Name y py] (.ListComp elt (⟨target, iter, ifs, 0⟩ :: gs) scope pos) spos) env) Q NR s := by
  rw [exec_Assign_Name_used _ _ _ _ hsw]
  refine wpAny_bind (wpAny_standAt (wpAny_bind ?_))
  show wpAny _ A (do let _ ← comprehension (.ListComp elt (⟨target, iter, ifs, 0⟩ :: gs) scope pos) scope env _ (newList []) false (eval iter env) (some (assign (.Name y py) env))) _ _ s
  refine wpAny_bind (wpAny_mono (wpAny_comprehension_free (use := some (assign (.Name y py) env)) (Q := fun _ s' => Q .next s') rfl hs hclos hkind hnames
    (wpAny_mono h (fun xv s₁ h₁ => wpAny_mono h₁ (fun it s₂ h₂ => ?_) fun _ _ e => e) fun _ _ e => e)) (fun _ s' hq => wpAny_pure (wpAny_pure hq)) fun _ _ e => e)
  refine blk_newC hc hpc h₂ fun C D r s' hr => ?_
  cases r with
  | error e => exact hr.elim
  | ok f =>
    obtain ⟨hos, hg, ys, rest, oC, mC, hoC, F, N, hDC, off, hf⟩ := hr
    show wpAny _ A (assign (.Name y py) env (.ref D)) _ _ _
    refine assignL hy hp F N fun h₂ F₂ N₂ => ?_
    refine ⟨mC, hoC.ns (N₂ (C, oC) (List.mem_cons_of_mem _ List.mem_cons_self)).1, fun h' hs' => ?_⟩
    have X := blk_let F₂ N₂ hDC off hs'
    exact fin ys rest D _ hf X.1 X.2 (fun p hp => (off p hp).1) hg hos

/-- a cell is stored -/
theorem assignW {x : Str} {px : Pos} {v : Value} {v₀ : Option Value} {W : Addr} {oW : Obj} {m : Loc} {pre rest : Led} {Q : Unit → Shared → Prop} (hk : cenv.scope.kind = .function) (hx : cenv.kindOf x = some .cell) (hc : cenv.cells.lookup x = some W)
    (hd : oW.data = .cell v₀) (F : Fr h₀ L s.heap m) (N : News h₀ L s.heap (pre ++ (W, oW) :: rest)) (h1 : ∀ p ∈ pre, p.1 ≠ W) (h2 : ∀ p ∈ rest, p.1 ≠ W)
    (h : ∀ h' oW', oW'.data = .cell (some v) → Fr h₀ L h' m → News h₀ L h' (pre ++ (W, oW') :: rest) → Q () { s with heap := h' }) :
    wpAny (model prog w) A (assign (.Name x px) cenv v) Q NR s := by
  have hW := N (W, oW) (List.mem_append_right _ List.mem_cons_self)
  refine wpAny_assign_Name (wpAny_storeName_cell hk hx hc ⟨oW, hW.1, hd⟩ fun h' hv hs => ?_)
  obtain ⟨oW', ho', hd'⟩ := hv
  refine h h' oW' hd' (F.change hs hW.2.1 hW.2.2) fun p hp => ?_
  rcases List.mem_append.mp hp with hp | hp
  · have n := N p (List.mem_append_left _ hp)
    exact ⟨hs.extBut _ _ (h1 p hp) n.1, n.2⟩
  · rcases List.mem_cons.mp hp with rfl | hp
    · exact ⟨ho', hW.2⟩
    · have n := N p (List.mem_append_right _ (List.mem_cons_of_mem _ hp))
      exact ⟨hs.extBut _ _ (h2 p hp) n.1, n.2⟩

theorem blkCellList {elt iter : Expr} {ifs : List Expr} {x : Str} {px : Pos} {scope : Scope} {cl : List (Str × Addr)} {pos : Pos} {its : Array Value} {m : Loc} {xv : Value} (s₀ : Shared) (hh : A.handled = none)
    (K : Addr → Nat → List Value → Led → Prop) (hr : LstB h₀ L m its (fun news => ∀ D, (∀ p ∈ news, p.1 < D) → K D 0 [] news) s₀ xv s) (hkind : (relabel scope env).kind = .function) (hx : (relabel scope env).names.lookup x = some .cell)
    (hK : ∀ D i ys rest, K D i ys rest → ys.length ≤ sizeLine)
    (turn : ∀ i v ys rest ax I oI oC oW C D W s₁, its[i]? = some v → K D i ys rest → SrcAt h₀ ax its rest → s₁.os = s₀.os → AllBare s₁.gens → NsObj oC (fun _ => none) → oW.data = .cell (some v) → Fr h₀ L s₁.heap m → News h₀ L s₁.heap ((I, oI) :: (D, lst ys) :: (C, oC) :: (W, oW) :: rest) → Apart I D C rest → (W ≠ I ∧ W ≠ D ∧ W ≠ C ∧ ∀ p ∈ rest, p.1 ≠ W) →
      wpAny (model prog w) A (testsOf ifs (compEnvC scope ((x, W) :: cl) C env)) (fun ok s₃ =>
        if ok = true then wpAny (model prog w) A (eval elt (compEnvC scope ((x, W) :: cl) C env)) (El h₀ L m I oI D C oC (fun r => ∃ r', r = (W, oW) :: r' ∧ SrcAt h₀ ax its r') ys (fun ys r => ∃ r', r = (W, oW) :: r' ∧ (∀ p ∈ r', p.1 ≠ W) ∧ K D (i + 1) ys r') s₀) NR s₃
        else Tu h₀ L m I oI D C oC (fun r => ∃ r', r = (W, oW) :: r' ∧ SrcAt h₀ ax its r') ys (fun ys r => ∃ r', r = (W, oW) :: r' ∧ (∀ p ∈ r', p.1 ≠ W) ∧ K D (i + 1) ys r') s₀ s₃) NR s₁) :
    wpAny (model prog w) A (pyIter xv) (BlkAtC prog w A h₀ L m env (.ListComp elt [⟨.Name x px, iter, ifs, 0⟩] scope pos) scope cl x (fun D ys r => ∃ W oW r', r = (W, oW) :: r' ∧ K D its.size ys r') s₀) NR s := by
  obtain ⟨ax, news, rfl, S, F, N, hg, hos, hj⟩ := hr
  have hl := S.list F.keep N
  have hlt : ax < s.heap.objs.size := by obtain ⟨_, e, _⟩ := hl; exact Heap.lt_size e
  refine wpAny_pyIter_list hl ?_
  have up₀ : ∀ b o, s.heap.get? b = some o → (s.heap.push { cls := .type "list_iterator", data := .fields #[.ref ax, .int 0 0] }).get? b = some o := fun b o e => Heap.get?_push_of_some _ e
  have Wk := Walks.list (prog := prog) (w := w) hh s.heap.objs.size ax (Nat.ne_of_lt hlt) its
  have hst : (fun i (h : Heap) => h.IsListIter s.heap.objs.size ax i ∧ h.IsList ax its) 0 (s.heap.push { cls := .type "list_iterator", data := .fields #[.ref ax, .int 0 0] }) := ⟨⟨_, Heap.get?_push_size _ rfl, rfl, rfl⟩, hl.push _⟩
  refine ⟨news, F.keeps up₀, N.grown up₀, hg, hos, fun C D W oC s₃ hnD hsD hDC hCW hLD hoC F₃ N₃ hos₃ hg₃ up => ?_⟩
  have hst₃ := Wk.frame _ _ _ hst fun b _ o e => up b o e
  have hIlt : s.heap.objs.size < D := Nat.lt_of_lt_of_le (Nat.lt_succ_self _) (Nat.le_trans (by show _ ≤ (s.heap.push _).objs.size; rw [Heap.size_push]; exact Nat.le_refl _) hsD)
  generalize hI : s.heap.objs.size = I at *
  have hIL : L ≠ I := hI ▸ Nat.ne_of_lt F.ns.lt
  have hI₀ : h₀.get? I = none := hI ▸ next_is_new F
  have hID : D ≠ I := Nat.ne_of_gt hIlt
  have hIC : C ≠ I := Nat.ne_of_gt (Nat.lt_trans hIlt hDC)
  have hIW : W ≠ I := Nat.ne_of_gt (Nat.lt_trans (Nat.lt_trans hIlt hDC) hCW)
  have hDW : W ≠ D := Nat.ne_of_gt (Nat.lt_trans hDC hCW)
  have off : ∀ p ∈ news, p.1 ≠ I := fun p hp => hI ▸ Nat.ne_of_lt (Heap.lt_size (N p hp).1)
  have loop : codeAny (model prog w) A (.compLoop (.ListComp elt [⟨.Name x px, iter, ifs, 0⟩] scope pos) 0 (.ref I) (.ref D) (compEnvC scope ((x, W) :: cl) C env)) (BlkEnd h₀ L m C D (fun D ys r => ∃ W oW r', r = (W, oW) :: r' ∧ K D its.size ys r') s₀) s₃ := by
    refine leafW (n := its.size) (cenv := compEnvC scope ((x, W) :: cl) C env) (S := fun rest => ∃ oW r, rest = (C, oC) :: (W, oW) :: r ∧ SrcAt h₀ ax its r) (m := m) s₀ (fun It turn n h => leaf1 It turn n h) Wk (fun i h st => by obtain ⟨o, e, _⟩ := st.1; exact ⟨o, e⟩)
      (fun i h h' o nw st e1 e2 k Nw ⟨oW, r, e, hS⟩ => list_st i h h' o r st e1 e2 k (fun p hp => Nw p (e ▸ List.mem_cons_of_mem _ (List.mem_cons_of_mem _ hp))) hS)
      (fun h => ?_) hIL hI₀ (fun _ _ => rfl) (fun i ys rest => ∃ oW v₀ r, rest = (C, oC) :: (W, oW) :: r ∧ oW.data = .cell v₀ ∧ (∀ p ∈ r, p.1 ≠ C ∧ p.1 ≠ W) ∧ K D i ys r) (fun i ys rest ⟨_, _, _, _, _, _, h⟩ => hK D i ys _ h)
      hst₃ F₃ N₃ hID (fun p hp => ?_) ⟨_, news, rfl, S⟩ hg₃ hos₃ ⟨_, none, news, rfl, rfl, fun p hp => ?_, hj D hnD⟩ ?_ ?_
    · rcases List.mem_cons.mp h with h | h
      · exact hID h
      · exact absurd hlt (by rw [← List.mem_singleton.mp h]; exact Nat.not_lt.mpr (Nat.le_of_lt hIlt))
    · simp only [List.mem_cons] at hp
      rcases hp with rfl | rfl | hp
      · exact ⟨hIC, Nat.ne_of_gt hDC⟩
      · exact ⟨hIW, hDW⟩
      · exact ⟨off p hp, Nat.ne_of_lt (hnD p hp)⟩
    · exact ⟨Nat.ne_of_lt (Nat.lt_trans (hnD p hp) hDC), Nat.ne_of_lt (Nat.lt_trans (hnD p hp) (Nat.lt_trans hDC hCW))⟩
    · rintro i v ys rest oI s₁ hi hP ⟨oW₁, v₀, r, rfl, hd, hrC, hk⟩ ⟨oW₂, r₂, e₂, hS₂⟩ h1 h2 F₁ N₁ off₁
      cases e₂
      have hap : Apart I D C r := ⟨⟨Ne.symm hID, Ne.symm hIC, Nat.ne_of_lt hDC⟩, fun p hp => ⟨(off₁ p (by simp [hp])).1, (off₁ p (by simp [hp])).2, (hrC p hp).1⟩⟩
      refine assignW (pre := [(I, oI), (D, lst ys), (C, oC)]) (v₀ := v₀) (W := W) (cenv := compEnvC scope ((x, W) :: cl) C env) hkind hx (by show List.lookup x ((x, W) :: cl) = _; simp) hd F₁ N₁ (fun p hp => ?_) (fun p hp => (hrC p hp).2) fun h' oW' hd' F' N' => ?_
      · simp only [List.mem_cons, List.not_mem_nil, or_false] at hp
        rcases hp with rfl | rfl | rfl
        · exact Ne.symm hIW
        · exact Ne.symm hDW
        · exact Nat.ne_of_lt hCW
      refine wpAny_mono (turn i v ys r ax I oI oC oW' C D W _ hP hk hS₂ h1 h2 hoC hd' F' N' hap ⟨hIW, hDW, Nat.ne_of_gt hCW, fun p hp => (hrC p hp).2⟩) (fun ok s₄ h₄ => ?_) fun _ _ e => e
      have fin : ∀ ys' (s₅ : Shared) rest₂, Fr h₀ L s₅.heap m → News h₀ L s₅.heap ((I, oI) :: (D, lst ys) :: (C, oC) :: rest₂) → Apart I D C rest₂ → (∃ r', rest₂ = (W, oW') :: r' ∧ SrcAt h₀ ax its r') → (∃ r', rest₂ = (W, oW') :: r' ∧ (∀ p ∈ r', p.1 ≠ W) ∧ K D (i + 1) ys' r') →
          ∃ r', rest₂ = (W, oW') :: r' ∧ SrcAt h₀ ax its r' ∧ K D (i + 1) ys' r' ∧ ∀ p ∈ r', p.1 ≠ W := by
        rintro ys' s₅ rest₂ _ _ _ ⟨r', rfl, q1⟩ ⟨r'', e, q3, q2⟩
        cases e
        exact ⟨r', rfl, q1, q2, q3⟩
      cases ok with
      | true =>
        simp only [if_true] at h₄ ⊢
        refine wpAny_mono h₄ (fun y s₅ h₅ => ?_) fun _ _ e => e
        obtain ⟨e1, e2, rest₂, e3, e4, e5, e6, e7⟩ := h₅
        obtain ⟨r', rfl, q1, q2, q3⟩ := fin _ s₅ rest₂ e3 e4 e5 e6 e7
        refine ⟨e1, e2, (C, oC) :: (W, oW') :: r', e3, e4, fun p hp => ?_, ⟨_, _, rfl, q1⟩, ⟨oW', _, r', rfl, hd', fun p hp => ⟨(e5.2 p (List.mem_cons_of_mem _ hp)).2.2, ?_⟩, q2⟩⟩
        · rcases List.mem_cons.mp hp with rfl | hp
          · exact ⟨hIC, Nat.ne_of_gt hDC⟩
          · exact ⟨(e5.2 p hp).1, (e5.2 p hp).2.1⟩
        · exact q3 p hp
      | false =>
        simp only [Bool.false_eq_true, if_false] at h₄ ⊢
        obtain ⟨e1, e2, rest₂, e3, e4, e5, e6, e7⟩ := h₄
        obtain ⟨r', rfl, q1, q2, q3⟩ := fin _ s₄ rest₂ e3 e4 e5 e6 e7
        refine ⟨e1, e2, ys, (C, oC) :: (W, oW') :: r', e3, e4, fun p hp => ?_, ⟨_, _, rfl, q1⟩, ⟨oW', _, r', rfl, hd', fun p hp => ⟨(e5.2 p (List.mem_cons_of_mem _ hp)).2.2, ?_⟩, q2⟩⟩
        · rcases List.mem_cons.mp hp with rfl | hp
          · exact ⟨hIC, Nat.ne_of_gt hDC⟩
          · exact ⟨(e5.2 p hp).1, (e5.2 p hp).2.1⟩
        · exact q3 p hp
    · rintro ys rest s₁ ⟨oW₁, v₀, r, rfl, hd, hrC, hk⟩ _ h1 h2 F₁ N₁ off₁
      refine ⟨h1, h2, ys, (W, oW₁) :: r, oC, _, hoC, F₁, N₁, Nat.ne_of_lt hDC, fun p hp => ⟨off₁ p (List.mem_cons_of_mem _ hp), ?_⟩, ⟨W, oW₁, r, rfl, hk⟩⟩
      rcases List.mem_cons.mp hp with rfl | hp
      · exact Nat.ne_of_gt hCW
      · exact (hrC p hp).1
  exact codeAny_compStart_list loop (Wk.self 0 _ _ _ hst₃ loop)
end comps
end Mine

namespace Mine
/-- a stop for the walk -/
def Held (P : Prop) : Prop := P
theorem Held.mk {P : Prop} (h : Held P) : P := h
theorem Held.of {P : Prop} (h : P) : Held P := h

def Off (xs : List Str) (m b : Loc) : Prop := ∀ y, y ∉ xs → m y = b y
theorem Off.refl {xs : List Str} {m : Loc} : Off xs m m := fun _ _ => rfl
theorem Off.exp1 {a : Str} {m b : Loc} (h : Off [a] m b) : m = fun y => if y = a then m a else b y := by
  funext y
  by_cases h1 : y = a
  · simp [h1]
  · simp only [if_neg h1]; exact h y (by simp [h1])
theorem Off.exp2 {a a' : Str} {m b : Loc} (h : Off [a, a'] m b) : m = fun y => if y = a then m a else if y = a' then m a' else b y := by
  funext y
  by_cases h1 : y = a
  · simp [h1]
  · by_cases h2 : y = a'
    · rw [if_neg h1, if_pos h2, h2]
    · simp only [if_neg h1, if_neg h2]; exact h y (by simp [h1, h2])
theorem Off.exp3 {a a' a₂ : Str} {m b : Loc} (h : Off [a, a', a₂] m b) : m = fun y => if y = a then m a else if y = a' then m a' else if y = a₂ then m a₂ else b y := by
  funext y
  by_cases h1 : y = a
  · simp [h1]
  · by_cases h2 : y = a'
    · rw [if_neg h1, if_pos h2, h2]
    · by_cases h3 : y = a₂
      · rw [if_neg h1, if_neg h2, if_pos h3, h3]
      · simp only [if_neg h1, if_neg h2, if_neg h3]; exact h y (by simp [h1, h2, h3])
theorem Off.set {xs : List Str} {m b : Loc} {x : Str} {v : Option Value} (h : Off xs m b) (hx : x ∈ xs) : Off xs (fun y => if y = x then v else m y) b := fun y hy => by
  have : y ≠ x := fun e => hy (e ▸ hx)
  simp only [if_neg this]; exact h y hy
theorem Off.mono {xs ys : List Str} {m b : Loc} (h : Off xs m b) (hs : ∀ x ∈ xs, x ∈ ys) : Off ys m b := fun y hy => h y fun q => hy (hs y q)
theorem Off.trans {xs : List Str} {m b c : Loc} (h : Off xs m b) (h' : Off xs b c) : Off xs m c := fun y hy => (h y hy).trans (h' y hy)

theorem rsize (n : Nat) : Builtin.Range.rangeSize 0 (n : Int) 1 = ((n : Nat) : Int) := by
  rw [rangeSize_one]; split <;> omega
theorem rsmall (a b : Int) (ha : -1000000 ≤ a) (ha' : a ≤ 1000000) (hb : -1000000 ≤ b) (hb' : b ≤ 1000000) : Builtin.Range.small a b 1 = true := by
  have e : Builtin.Range.rangeSize a b 1 = if a < b then b - a else 0 := rangeSize_one a b
  unfold Builtin.Range.small Builtin.Range.rangeFitsLong
  rw [e]
  simp only [Bool.and_eq_true, decide_eq_true_eq, Bool.or_eq_true, beq_iff_eq]
  refine ⟨⟨⟨⟨?_, ?_⟩, ?_⟩, ?_⟩, Or.inr ?_⟩ <;> (try split) <;> (try simp only [decide_eq_true_eq, Bool.and_eq_true]) <;> omega
end Mine

namespace Mine
section
variable {prog : Program} {w : World} {A : Around} {s : Shared} {env : Env} {h₀ : Heap} {L : Addr}
theorem forRange0 {target iter : Expr} {body : List Stmt} {pos : Pos} {Q : Flow → Shared → Prop} {n : Nat}
    (J : Nat → Loc → Led → Prop) (hh : A.handled = none)
    (hiter : wpAny (model prog w) A (eval iter env) (RngAt h₀ L 0 n (J 0) s) NR s)
    (turn : ∀ i t m₁ news₁ I oI s₁, i < n → J i m₁ news₁ → s₁.os = s.os → AllBare s₁.gens → Fr h₀ L s₁.heap m₁ → News h₀ L s₁.heap ((I, oI) :: news₁) → (∀ p ∈ news₁, p.1 ≠ I) →
      wpAny (model prog w) A (assign target env (.int (i : Int) t)) (fun _ s₂ => wpAny (model prog w) A (execs body env) (BodyEnd h₀ L I oI (fun _ => True) (J (i + 1)) s Q) NR s₂) NR s₁)
    (done : ∀ m₁ news₁ s₁, J n m₁ news₁ → s₁.os = s.os → AllBare s₁.gens → Fr h₀ L s₁.heap m₁ → News h₀ L s₁.heap news₁ → Q .next s₁)
    (ht : ∀ it v, letOwnedTupleGo target it v = pure () := by intro _ _; rfl)
    (hs : ∀ x, foldedSetIterable iter env x = pure x := by intro _; rfl) :
    wpAny (model prog w) A (exec (.For target iter body [] pos) env) Q NR s :=
  forRange J hh hiter (fun i t m₁ news₁ I oI s₁ a b c d e f g => by rw [Int.zero_add]; exact turn i t m₁ news₁ I oI s₁ a b c d e f g) done ht hs
end

def IntList (news : Led) (a : Addr) (ns : List Int) : Prop := ∃ o vs n, (a, o) ∈ news ∧ o = W.listOf (List.toArray vs) n ∧ IntsAre vs ns

def prodAt (a b : List Int) (kinds : Int) (j : Nat) (f : List Int) (k : Nat) : List Int := f.set (j + k) (Int.fmod (f.getD (j + k) 0 + a.getD j 0 * b.getD k 0) kinds)
def prodRow (a b : List Int) (kinds : Int) (f : List Int) (j : Nat) (n : Nat) : List Int := (List.range n).foldl (prodAt a b kinds j) f
def prodTo (a b : List Int) (kinds : Int) (n : Nat) : List Int := (List.range n).foldl (fun f j => prodRow a b kinds f j b.length) (List.replicate (a.length + b.length - 1) 0)
def prodL (a b : List Int) (kinds : Int) : List Int := prodTo a b kinds a.length

theorem prodRow_zero (a b : List Int) (kinds : Int) (f : List Int) (j : Nat) : prodRow a b kinds f j 0 = f := rfl
theorem prodRow_succ (a b : List Int) (kinds : Int) (f : List Int) (j n : Nat) : prodRow a b kinds f j (n + 1) = prodAt a b kinds j (prodRow a b kinds f j n) n := by
  unfold prodRow; rw [List.range_succ, List.foldl_append]; rfl
theorem prodTo_zero (a b : List Int) (kinds : Int) : prodTo a b kinds 0 = List.replicate (a.length + b.length - 1) 0 := rfl
theorem prodTo_succ (a b : List Int) (kinds : Int) (n : Nat) : prodTo a b kinds (n + 1) = prodRow a b kinds (prodTo a b kinds n) n b.length := by
  unfold prodTo; rw [List.range_succ, List.foldl_append]; rfl
theorem prodRow_length (a b : List Int) (kinds : Int) (f : List Int) (j n : Nat) : (prodRow a b kinds f j n).length = f.length := by
  induction n with
  | zero => rfl
  | succ n ih => rw [prodRow_succ]; unfold prodAt; rw [List.length_set, ih]
theorem prodTo_length (a b : List Int) (kinds : Int) (n : Nat) : (prodTo a b kinds n).length = a.length + b.length - 1 := by
  induction n with
  | zero => rw [prodTo_zero, List.length_replicate]
  | succ n ih => rw [prodTo_succ, prodRow_length, ih]
/-- each item is one of 0 .. 2 -/
def Small (f : List Int) : Prop := ∀ q, 0 ≤ f.getD q 0 ∧ f.getD q 0 ≤ 2
theorem small_set {f : List Int} {j : Nat} {x : Int} (h : Small f) (h0 : 0 ≤ x) (h1 : x ≤ 2) : Small (f.set j x) := fun q => by
  have := h q
  simp only [List.getD_eq_getElem?_getD, List.getElem?_set] at this ⊢
  split
  · split
    · exact ⟨h0, h1⟩
    · simp
  · exact this
theorem small_rep (n : Nat) : Small (List.replicate n 0) := fun q => by
  simp only [List.getD_eq_getElem?_getD, List.getElem?_replicate]
  split <;> simp
theorem prodRow_small {a b : List Int} {kinds : Int} {f : List Int} {j n : Nat} (hk : kinds = 2 ∨ kinds = 3) (h : Small f) : Small (prodRow a b kinds f j n) := by
  induction n with
  | zero => exact h
  | succ n ih =>
    rw [prodRow_succ]
    have e : ∀ x : Int, 0 ≤ x.fmod kinds ∧ x.fmod kinds ≤ 2 := fun x => by
      rcases hk with rfl | rfl <;> (rw [Int.fmod_eq_emod_of_nonneg _ (by decide)]; omega)
    exact small_set ih (e _).1 (e _).2
theorem prodTo_small {a b : List Int} {kinds : Int} {n : Nat} (hk : kinds = 2 ∨ kinds = 3) : Small (prodTo a b kinds n) := by
  induction n with
  | zero => exact small_rep _
  | succ n ih => rw [prodTo_succ]; exact prodRow_small hk ih
theorem rep_flat (n : Nat) (x : Int) : (List.replicate n [x]).flatten = List.replicate n x := by
  induction n with
  | zero => rfl
  | succ n ih => rw [List.replicate_succ, List.flatten_cons, ih, List.replicate_succ]; rfl
section
variable {h₀ h : Heap} {L : Addr} {a b c : Addr × Obj} {l : Led}
theorem nDrop1 (N : News h₀ L h (a :: l)) : News h₀ L h l := fun p hp => N p (.tail _ hp)
theorem nDrop2 (N : News h₀ L h (a :: b :: l)) : News h₀ L h (a :: l) := fun p hp => by
  rcases List.mem_cons.mp hp with rfl | hp
  · exact N _ (.head _)
  · exact N p (.tail _ (.tail _ hp))
theorem nSwap (N : News h₀ L h (a :: b :: l)) : News h₀ L h (b :: a :: l) := fun p hp => by
  rcases List.mem_cons.mp hp with rfl | hp
  · exact N _ (.tail _ (.head _))
  · rcases List.mem_cons.mp hp with rfl | hp
    · exact N _ (.head _)
    · exact N p (.tail _ (.tail _ hp))
theorem nRot (N : News h₀ L h (a :: b :: c :: l)) : News h₀ L h (c :: a :: b :: l) := fun p hp => by
  rcases List.mem_cons.mp hp with rfl | hp
  · exact N _ (.tail _ (.tail _ (.head _)))
  · rcases List.mem_cons.mp hp with rfl | hp
    · exact N _ (.head _)
    · rcases List.mem_cons.mp hp with rfl | hp
      · exact N _ (.tail _ (.head _))
      · exact N p (.tail _ (.tail _ (.tail _ hp)))
end
theorem innConv {prog : Program} {w : World} {A : Around} {s s₀ : Shared} {h₀ : Heap} {L I D C : Addr} {m : Loc} {oI : Obj} {S : Led → Prop} {K K' : List Value → Led → Prop} {x : Value} {c : Value → Code}
    (h : wpAny (model prog w) A (pyIter x) (fun it' s₄ => codeAny (model prog w) A (c it') (In2End h₀ L m I oI D C S K s₀) s₄) NR s) (hk : ∀ ys r, K ys r → K' ys r) :
    wpAny (model prog w) A (pyIter x) (fun it' s₄ => codeAny (model prog w) A (c it') (In2End h₀ L m I oI D C S K' s₀) s₄) NR s :=
  wpAny_mono h (fun it' s₄ h₄ => codeAny_mono h₄ fun r s₅ h₅ => by
    cases r with
    | error _ => exact h₅
    | ok f =>
      obtain ⟨e1, e2, ys, rest, oC, mC, e3, e4, e5, e6, e7, e8⟩ := h₅
      exact ⟨e1, e2, ys, rest, oC, mC, e3, e4, e5, e6, e7, hk _ _ e8⟩) fun _ _ e => e
end Mine

namespace Mine
section
variable {prog : Program} {w : World} {A : Around} {E : Value → Shared → Prop} {s : Shared} {h₀ : Heap} {c P L : Addr} {ps : Array Value} {m mg mb : Str → Option Value} {p : Program} {loose : List Str} {mean : ExcName → Option Value} {news : Led}

theorem genL {env : Env} {elt iter : Expr} {x : Str} {px : Pos} {scope : Scope} {cl : List (Str × Addr)} {pos : Pos} {Q : Value → Shared → Prop} {its : Array Value} (F : Nat → Value → Prop)
    (T : Top p loose mean mg mb h₀) (C : CodeHd h₀ c P) (hge0 : env.globals = mainGlobals) (hcode : env.code = .ref c)
    (hh : A.handled = none) (hco : scope.isCoroutine = false) (hclos : closureFor scope env = pure cl) (hcell : ∀ y ∈ scope.names, y.2 ≠ .cell) (h0 : scope.names.lookup (".0" : Str) = some NameKind.local)
    (hx : scope.names.lookup x = some .local) (hkind : scope.kind = .function) (hroom : A.depth < recursionLimit)
    (hps : TriplesOk ps.toList) (hcd : codeAmong pos ps.toList = none ∨ ∃ c', codeAmong pos ps.toList = some (.ref c')) (hoff : ∀ q ∈ news, q.1 ≠ P)
    (hiter : wpAny (model prog w) A (eval iter env) (fun xv s₁ => ∃ ax, xv = .ref ax ∧ SrcAt h₀ ax its news ∧ Fr h₀ L s₁.heap m ∧ News h₀ L s₁.heap ((P, tabObj ps) :: news) ∧ AllBare s₁.gens ∧ s₁.os = s.os) E s)
    (helt : ∀ (C' : Addr) (code : Value) (A' : Around) i v (t : Shared) m₂, A'.handled = none → A'.depth ≤ A.depth + 1 → A'.units ≤ A.units + 8 → its[i]? = some v → Fr h₀ C' t.heap m₂ → m₂ x = some v →
      (∀ q ∈ news, t.heap.get? q.1 = some q.2) → wpAny (model prog w) A' (eval elt (genEnv scope cl C' code builtinsNs env)) (fun y s₃ => F i y ∧ Keeps t s₃) NR t)
    (hQ : ∀ K a s₅ ps', (ps' = ps ∨ (codeAmong pos ps.toList = none ∧ ∃ c' : Addr, ps' = ps ++ #[rawInt pos.line, rawInt pos.col, .ref c'])) → Fr h₀ L s₅.heap m → News h₀ L s₅.heap ((P, tabObj ps') :: news) → AllBare s₅.gens → s₅.os = s.os → L ≤ K → P ≤ K → (∀ q ∈ news, q.1 ≤ K) →
      Gen prog w A K a (passing (fun _ => true) its.size 0).length (fun j y => ∃ i, (passing (fun _ => true) its.size 0)[j]? = some i ∧ F i y) s₅ → Q (.ref a) s₅)
    (hs : ∀ x, genFold iter env x = pure x) :
    wpAny (model prog w) A (eval (.GeneratorExp elt [⟨.Name x px, iter, [], 0⟩] scope pos) env) Q E s := by
  refine wpAny_GeneratorExp_walksQD hh hco hclos hcell h0 hx hkind hroom (wpAny_mono hiter (fun xv s₁ h₁' => ?_) fun _ _ e => e) hs
  obtain ⟨ax, rfl, S, F₁, N₁, G₁, hos₁⟩ := h₁'
  have hl := S.list F₁.keep (nDrop1 N₁)
  have hlt : ax < s₁.heap.objs.size := by obtain ⟨_, e, _⟩ := hl; exact Heap.lt_size e
  refine wpAny_pyIter_list hl ?_
  have hP := N₁ (P, tabObj ps) (.head _)
  have hPlt : P < s₁.heap.objs.size := Heap.lt_size hP.1
  have hlim₁ : s₁.heap.NoLimit := T.nolimit.keeps F₁.keep
  have hcs : cStatics < s₁.heap.objs.size := let ⟨_, hn, _⟩ := hlim₁; hn.lt
  generalize hH : s₁.heap.push { cls := .type "list_iterator", data := .fields #[.ref ax, .int 0 0] } = H2
  have up : ∀ b o, s₁.heap.get? b = some o → H2.get? b = some o := fun b o e => hH ▸ Heap.get?_push_of_some _ e
  have hsz2 : H2.objs.size = s₁.heap.objs.size + 1 := by rw [← hH, Heap.size_push]
  have hcP : cStatics ≠ P := fun e => by
    obtain ⟨_, hns, _⟩ := hlim₁
    obtain ⟨o, es, ep, ho, hd, _⟩ := hns
    rw [e, hP.1] at ho; cases ho; cases hd
  have hlP : ax ≠ P := fun e => by
    obtain ⟨o, ho, hc, _⟩ := hl
    rw [e, hP.1] at ho; cases ho; exact absurd hc (by simp)
  have hgs := T.g.keeps F₁.keep
  obtain ⟨bm, ob, b1, b2, b3, b4, b5, b6⟩ := T.bmain
  have hgP : mainGlobals ≠ P := fun q => by
    obtain ⟨o, es, ep, e, hd, _⟩ := hgs
    rw [q, hP.1] at e; cases e; cases hd
  have hbP : bm ≠ P := fun q => by
    have e := F₁.keep _ _ b3
    rw [q, hP.1] at e; cases e; cases b4
  have fin : ∀ (ps' : Array Value) (c' : Value) (h₃ : Heap) (tk₃ : Tok), (ps' = ps ∨ (codeAmong pos ps.toList = none ∧ ∃ c' : Addr, ps' = ps ++ #[rawInt pos.line, rawInt pos.col, .ref c'])) → Heap.ExtBut P H2 h₃ → H2.objs.size ≤ h₃.objs.size → h₃.get? P = some (tabObj ps') →
      wpAny (model prog w) A (builtinsFor env.globals env.builtins) (fun bi s₄ =>
        ∃ I fp wr n₀ Pp St₀ pz F, (Value.ref s₁.heap.objs.size) = .ref I ∧ (∀ A' : Around, A'.handled = none → Walks prog w A' I fp wr n₀ Pp St₀) ∧ St₀ 0 s₄.heap ∧ (∀ b ∈ fp, b < s₄.heap.objs.size) ∧ s₄.heap.NoLimit ∧ cStatics ∉ wr ∧
          (∀ href : Heap, (∀ b o, s₄.heap.get? b = some o → href.get? b = some o) →
            QuietGenD prog w (genEnv scope cl s₄.heap.objs.size c' bi env) x [] elt (List.range s₄.heap.objs.size) wr Pp pz F href (A.depth + 1) (A.units + 8)) ∧
          (∀ a h₅ tk gs, gs.bare = true → s₄.heap.objs.size < a → h₅.objs.size = a + 1 → (∀ b o, s₄.heap.get? b = some o → h₅.get? b = some o) →
            WalksS prog w A.in4 a (a :: s₄.heap.objs.size :: List.range s₄.heap.objs.size) (s₄.heap.objs.size :: wr) (GenOnlyQ s₄.gens.size) (passing pz n₀ 0).length
              (fun j y => ∃ i, (passing pz n₀ 0)[j]? = some i ∧ F i y) (GenAt prog w A.in4 a s₄.gens.size s₄.heap.objs.size (List.range s₄.heap.objs.size) wr pz n₀ F) →
            GenAt prog w A.in4 a s₄.gens.size s₄.heap.objs.size (List.range s₄.heap.objs.size) wr pz n₀ F 0 { s₄ with gens := s₄.gens.push gs, toks := tk, heap := h₅ } →
            Q (.ref a) { s₄ with gens := s₄.gens.push gs, toks := tk, heap := h₅ })) E { s₁ with heap := h₃, toks := tk₃ } := by
    intro ps' c' h₃ tk₃ hps' hx₃ hsz hP₃
    have e3 : ∀ b o, b ≠ P → s₁.heap.get? b = some o → h₃.get? b = some o := fun b o hb e => hx₃ b o hb (up b o e)
    have k0 : ∀ b o, h₀.get? b = some o → h₃.get? b = some o := fun b o e => e3 b o (fun q => by rw [q, hP.2.2] at e; cases e) (F₁.keep b o e)
    have hLP : L ≠ P := hP.2.1.symm
    have hsz3 : s₁.heap.objs.size < h₃.objs.size := by rw [hsz2] at hsz; exact hsz
    have F₃ : Fr h₀ L h₃ m := ⟨(F₁.ns.keeps up).extBut hx₃ hLP, k0, F₁.above⟩
    have N₃ : News h₀ L h₃ ((P, tabObj ps') :: news) := fun q hq => by
      rcases List.mem_cons.mp hq with rfl | hq
      · exact ⟨hP₃, hP.2⟩
      · have n := N₁ q (.tail _ hq)
        exact ⟨e3 _ _ (hoff q hq) n.1, n.2⟩
    have hl₃ : h₃.NoLimit := T.nolimit.keeps k0
    rw [hge0]
    refine wpAny_builtinsFor (T.g.keeps k0) b1 b2 (k0 _ _ b3) b4 b5 b6 ?_
    refine ⟨s₁.heap.objs.size, [s₁.heap.objs.size, ax], [s₁.heap.objs.size], its.size, _, _, fun _ => true, F, rfl, (fun A' hA => Walks.list hA _ _ (Nat.ne_of_lt hlt) its), ⟨⟨_, hx₃ _ _ (Nat.ne_of_gt hPlt) (hH ▸ Heap.get?_push_size _ rfl), rfl, rfl⟩, ?_⟩, ?_, hl₃, ?_, fun href hhref => ?_, fun a h₅ tk gs hgb hag hsz₅ hk₅ W hat => ?_⟩
    · obtain ⟨o, ho, r⟩ := hl
      exact ⟨o, e3 _ _ hlP ho, r⟩
    · intro b hb
      show b < h₃.objs.size
      rcases List.mem_cons.mp hb with rfl | hb
      · exact hsz3
      · rcases List.mem_cons.mp hb with rfl | hb
        · exact Nat.lt_trans hlt hsz3
        · cases hb
    · intro hm
      rcases List.mem_cons.mp hm with e | hb
      · exact absurd (e ▸ hcs) (Nat.lt_irrefl _)
      · cases hb
    · have nw : ∀ b, b < s₁.heap.objs.size → b ∉ [s₁.heap.objs.size] := fun b hb hm => absurd hb (by rw [List.mem_singleton.mp hm]; exact Nat.lt_irrefl _)
      have kk : ∀ (t : Shared), (∀ b ∈ List.range h₃.objs.size, b ∉ [s₁.heap.objs.size] → ∀ o, href.get? b = some o → t.heap.get? b = some o) → ∀ b o, b < s₁.heap.objs.size → h₃.get? b = some o → t.heap.get? b = some o := fun t hkp b o hb e =>
        hkp b (List.mem_range.mpr (Heap.lt_size e)) (nw b hb) o (hhref b o e)
      refine ⟨fun A' E' i v t m₂ hA hD hU hPi hn hm hkp => wpAny_tests_nil ⟨rfl, ⟨_, _, rfl, fun _ _ e => e⟩⟩, fun A' E' i v t m₂ hA hD hU hPi _ hn hm hkp => ?_⟩
      refine wpAny_mono (helt h₃.objs.size c' A' i v t m₂ hA hD hU hPi ⟨hn, fun b o e => kk t hkp b o (Heap.lt_size (F₁.keep b o e)) (k0 b o e), ?_⟩ hm fun q hq => ?_) (fun _ _ h => h) fun _ _ e => e.elim
      · exact Nat.le_trans F₁.above (Nat.le_of_lt (Nat.lt_trans F₁.ns.lt hsz3))
      · have n := N₁ q (.tail _ hq)
        exact kk t hkp _ _ (Heap.lt_size n.1) (N₃ q (.tail _ hq)).1
    · refine hQ (s₁.heap.objs.size - 1) a _ ps' hps' (F₃.keeps hk₅) (N₃.grown hk₅) (G₁.push hgb) hos₁ (Nat.le_sub_one_of_lt F₁.ns.lt) (Nat.le_sub_one_of_lt hPlt) (fun q hq => Nat.le_sub_one_of_lt (Heap.lt_size (N₁ q (.tail _ hq)).1)) ⟨_, _, _, _, W, hat, (fun i s' st => st.1.typeIs), List.mem_cons_self, ?_, ?_⟩
      · intro b hb
        show b < h₅.objs.size
        rw [hsz₅]
        rcases List.mem_cons.mp hb with rfl | hb
        · exact Nat.lt_succ_self _
        · rcases List.mem_cons.mp hb with rfl | hb
          · exact Nat.lt_succ_of_lt hag
          · exact Nat.lt_succ_of_lt (Nat.lt_trans (List.mem_range.mp hb) hag)
      · intro b hb
        rcases List.mem_cons.mp hb with rfl | hb
        · exact Nat.lt_of_le_of_lt (Nat.sub_le _ _) hsz3
        · rw [List.mem_singleton.mp hb]; exact Nat.sub_one_lt (Nat.ne_of_gt (Nat.lt_of_le_of_lt (Nat.zero_le _) hPlt))
  refine ⟨hlim₁.keeps up, ?_⟩
  rcases hcd with hnf | ⟨c', hf⟩
  · refine wpAny_genexprCodeX hcode ((C.keeps fun b o e => up b o (F₁.keep b o e)).code (up _ _ hP.1) hps) ((C.keeps fun b o e => up b o (F₁.keep b o e)).tab (up _ _ hP.1)) hnf fun c' h₃ tk₃ hx₃ hge hlt₃ hcode₃ _ htab₃ _ => ?_
    exact fin _ _ h₃ tk₃ (.inr ⟨hnf, c', rfl⟩) hx₃ (Nat.le_trans hge (Nat.le_of_lt hlt₃)) htab₃.2
  · refine wpAny_genexprCode_hit hcode ((C.keeps fun b o e => up b o (F₁.keep b o e)).code (up _ _ hP.1) hps) hf ?_
    exact fin _ _ H2 s₁.toks (.inl rfl) (fun b o _ e => e) (Nat.le_refl _) (up _ _ hP.1)
end
end Mine

namespace Mine
def TabOk (ps : Array Value) : Prop := ps = #[] ∨ ∃ c' : Addr, ps = #[rawInt 11, rawInt 23, .ref c']
/-- each of tl lies above each of b -/
def Above (tl b : Led) : Prop := ∀ q ∈ tl, ∀ p ∈ b, p.1 < q.1
theorem Above.nil {b : Led} : Above [] b := fun _ h => nomatch h
theorem Above.cons {q : Addr × Obj} {tl b : Led} (h : ∀ p ∈ b, p.1 < q.1) (h' : Above tl b) : Above (q :: tl) b := fun x hx => by
  rcases List.mem_cons.mp hx with rfl | hx
  · exact h
  · exact h' x hx
theorem Above.mono {tl b b' : Led} (h : Above tl b) (hs : ∀ p ∈ b', p ∈ b) : Above tl b' := fun q hq p hp => h q hq p (hs p hp)
theorem Above.sub {tl tl' b : Led} (h : Above tl b) (hs : ∀ p ∈ tl', p ∈ tl) : Above tl' b := fun q hq p hp => h q (hs q hq) p hp
theorem Above.append {tl tl' b : Led} (h : Above tl b) (h' : Above tl' b) : Above (tl ++ tl') b := fun q hq => (List.mem_append.mp hq).elim (h q) (h' q)

def Spec (prog : Program) (w : World) (p : Program) (loose : List Str) (mean : ExcName → Option Value) (mg mb : Str → Option Value) (k : Nat) (f : Addr) (vs : List Value) (Pre : Led → Prop) (Post : Value → Led → Prop) : Prop :=
  ∀ (dp un : Nat) (gd : Option (List Code)) (cn : Str) (cs : Scope) (a : Addr) (ccd : Value) (cl : List (Str × Addr)) (outer : List Env) (A₀ : Around) (base h₀ : Heap) (L : Addr) (m : Loc) (news : Led) (ps : Array Value) (s : Shared) (Q : Value → Shared → Prop),
    Below A₀ base outer h₀ → Fr h₀ L s.heap m → (hd.heap_39 w.params).In h₀ → News h₀ L s.heap ((16, tabObj ps) :: news) → (∀ p ∈ news, p.1 ≠ 16) → Top p loose mean mg mb h₀ → CodeHd base 20 16 → cs.kind = .function → AllBare s.gens → TabOk ps → Pre news → dp + k ≤ 500 → un + 20 * k ≤ 5000 →
    (∀ r s' tl ps', s'.os = s.os → AllBare s'.gens → TabOk ps' → Fr h₀ L s'.heap m → News h₀ L s'.heap ((16, tabObj ps') :: (tl ++ news)) → Above tl ((16, tabObj ps') :: news) → Post r tl → Q r s') →
    wpAny (model prog w) (ktrTop dp un gd cn cs L a ccd cl outer) (call (.ref f) vs) Q NR s

/-- a value is a list of these ints -/
def RowAt (nw : Led) (v : Value) (r : List Int) : Prop := ∃ a vs n, v = .ref a ∧ (a, W.listOf (List.toArray vs) n) ∈ nw ∧ IntsAre vs r
inductive RowsAre (nw : Led) : List Value → List (List Int) → Prop
  | nil : RowsAre nw [] []
  | cons {v : Value} {r : List Int} {vs : List Value} {rs : List (List Int)} : RowAt nw v r → RowsAre nw vs rs → RowsAre nw (v :: vs) (r :: rs)
theorem RowAt.mono {nw nw' : Led} {v : Value} {r : List Int} (h : RowAt nw v r) (hs : ∀ p ∈ nw, p ∈ nw') : RowAt nw' v r := let ⟨a, vs, n, e, hm, hi⟩ := h; ⟨a, vs, n, e, hs _ hm, hi⟩
theorem RowsAre.mono {nw nw' : Led} {vs : List Value} {rs : List (List Int)} (h : RowsAre nw vs rs) (hs : ∀ p ∈ nw, p ∈ nw') : RowsAre nw' vs rs := by
  induction h with
  | nil => exact .nil
  | cons h1 _ ih => exact .cons (h1.mono hs) ih
theorem RowsAre.snoc {nw : Led} {v : Value} {r : List Int} : ∀ {vs : List Value} {rs : List (List Int)}, RowsAre nw vs rs → RowAt nw v r → RowsAre nw (vs ++ [v]) (rs ++ [r])
  | _, _, .nil, h => .cons h .nil
  | _, _, .cons h1 t, h => .cons h1 (RowsAre.snoc t h)
theorem RowsAre.length {nw : Led} {vs : List Value} {rs : List (List Int)} (h : RowsAre nw vs rs) : vs.length = rs.length := by
  induction h with
  | nil => rfl
  | cons _ _ ih => simp [ih]
theorem RowsAre.get {nw : Led} {v : Value} : ∀ {vs : List Value} {rs : List (List Int)} {i : Nat}, RowsAre nw vs rs → vs[i]? = some v → ∃ r, rs[i]? = some r ∧ RowAt nw v r
  | _, _, _, .nil, h => by simp at h
  | _, _, 0, .cons h1 _, h => by simp at h; subst h; exact ⟨_, rfl, h1⟩
  | _, _, i + 1, .cons _ t, h => by
    have := RowsAre.get (i := i) t (by simpa using h)
    simpa using this
def rowsOne (kinds : Nat) (row : List Int) : List (List Int) := (List.range kinds).map fun (r : Nat) => row ++ [(r : Int)]
def rowsStep (kinds : Nat) (rows : List (List Int)) : List (List Int) := rows.flatMap (rowsOne kinds)
def rowsTo (kinds n : Nat) : List (List Int) := (List.range n).foldl (fun rows _ => rowsStep kinds rows) [[]]
def monicL (kinds n : Nat) : List (List Int) := (rowsTo kinds n).map fun row => row ++ [1]
theorem rowsTo_zero (kinds : Nat) : rowsTo kinds 0 = [[]] := rfl
theorem rowsTo_succ (kinds n : Nat) : rowsTo kinds (n + 1) = rowsStep kinds (rowsTo kinds n) := by
  unfold rowsTo; rw [List.range_succ, List.foldl_append]; rfl
theorem rowsStep_length (kinds : Nat) (rows : List (List Int)) : (rowsStep kinds rows).length = kinds * rows.length := by
  unfold rowsStep
  induction rows with
  | nil => simp
  | cons r rs ih => rw [List.flatMap_cons, List.length_append, ih, List.length_cons, Nat.mul_succ]; unfold rowsOne; rw [List.length_map, List.length_range]; omega
theorem rowsStep_snoc (kinds : Nat) (rows : List (List Int)) (row : List Int) : rowsStep kinds (rows ++ [row]) = rowsStep kinds rows ++ rowsOne kinds row := by
  unfold rowsStep; rw [List.flatMap_append, List.flatMap_cons, List.flatMap_nil, List.append_nil]
theorem rowsTo_length (kinds n : Nat) : (rowsTo kinds n).length = kinds ^ n := by
  induction n with
  | zero => rfl
  | succ n ih => rw [rowsTo_succ, rowsStep_length, ih, Nat.pow_succ, Nat.mul_comm]
theorem rowsTo_le {kinds n : Nat} (hk : kinds ≤ 3) (hn : n ≤ 5) : (rowsTo kinds n).length ≤ 243 := by
  rw [rowsTo_length]
  exact Nat.le_trans (Nat.pow_le_pow_left hk n) (Nat.pow_le_pow_right (by decide) hn)
theorem take_snoc {α : Type} {l : List α} {i : Nat} {x : α} (h : l[i]? = some x) : l.take (i + 1) = l.take i ++ [x] := by
  rw [List.take_add_one, h]; rfl
theorem updTwice {x : Str} {u v : Option Value} {b : Loc} : (fun y => if y = x then v else if y = x then u else b y) = fun y => if y = x then v else b y := by
  funext y; split <;> rfl
def RowsB (b : Led) (D : Addr) (rs : List (List Int)) (ys : List Value) (rest : Led) : Prop := ∃ tl, rest = tl ++ b ∧ RowsAre tl ys rs ∧ Above tl b ∧ (∀ p ∈ b, p.1 < D) ∧ ∀ q ∈ tl, D < q.1
def RowsK (kinds : Nat) (b : Led) (rows : List (List Int)) (D : Addr) (q : Nat) : List Value → Led → Prop := RowsB b D (rowsStep kinds (rows.take q))
def RowsK2 (kinds : Nat) (b : Led) (rows : List (List Int)) (row : List Int) (D : Addr) (q j : Nat) : List Value → Led → Prop := RowsB b D (rowsStep kinds (rows.take q) ++ (rowsOne kinds row).take j)
theorem RowsB.len {b : Led} {D : Addr} {rs : List (List Int)} {ys : List Value} {rest : Led} (h : RowsB b D rs ys rest) : ys.length = rs.length := let ⟨_, _, h, _⟩ := h; h.length
theorem RowsB.start {b : Led} {D : Addr} (h : ∀ p ∈ b, p.1 < D) : RowsB b D [] [] b := ⟨[], rfl, .nil, Above.nil, h, fun _ h => nomatch h⟩
theorem RowsB.snoc {b : Led} {D T : Addr} {rs : List (List Int)} {ys vs : List Value} {rest : Led} {r : List Int} {n : Nat} (h : RowsB b D rs ys rest) (hi : IntsAre vs r) (hD : D < T) (hT : ∀ p ∈ rest, p.1 < T) :
    RowsB b D (rs ++ [r]) (ys ++ [.ref T]) ((T, W.listOf (List.toArray vs) n) :: rest) := by
  obtain ⟨tl, rfl, h1, h2, h3, h4⟩ := h
  refine ⟨(T, W.listOf (List.toArray vs) n) :: tl, rfl, (h1.mono fun p hp => .tail _ hp).snoc ⟨T, vs, n, rfl, .head _, hi⟩, Above.cons (fun p hp => hT p (List.mem_append_right _ hp)) h2, h3, fun q hq => ?_⟩
  rcases List.mem_cons.mp hq with rfl | hq
  · exact hD
  · exact h4 q hq
theorem rowsTo_mem_length {kinds n : Nat} {r : List Int} (h : r ∈ rowsTo kinds n) : r.length = n := by
  induction n generalizing r with
  | zero => rw [rowsTo_zero] at h; rw [List.mem_singleton.mp h]; rfl
  | succ n ih =>
    rw [rowsTo_succ] at h
    unfold rowsStep at h
    obtain ⟨r', h1, h2⟩ := List.mem_flatMap.mp h
    unfold rowsOne at h2
    obtain ⟨x, _, rfl⟩ := List.mem_map.mp h2
    rw [List.length_append, ih h1]; rfl
theorem rowsOne_get {kinds j : Nat} {row : List Int} (h : j < kinds) : (rowsOne kinds row)[j]? = some (row ++ [(j : Int)]) := by
  unfold rowsOne; simp [h]
theorem nSub {h₀ h : Heap} {L : Addr} {l l' : Led} (N : News h₀ L h l) (hs : ∀ p ∈ l', p ∈ l) : News h₀ L h l' := fun p hp => N p (hs p hp)
theorem srcCons {h₀ : Heap} {ax : Addr} {its : Array Value} {news : Led} (p : Addr × Obj) (h : SrcAt h₀ ax its news) : SrcAt h₀ ax its (p :: news) := by
  rcases h with h | ⟨o, hm, r⟩
  · exact .inl h
  · exact .inr ⟨o, .tail _ hm, r⟩
end Mine

namespace Mine
local macro_rules | `(tactic| k_mem) => `(tactic| assumption)
local macro_rules | `(tactic| walk_at "exec For Name Call cons nil") => `(tactic| refine Held.mk ?_)
local macro_rules | `(tactic| walk_at "LeaveK") => `(tactic| refine Held.mk ?_)
local macro_rules | `(tactic| walk_at "call type:tuple") => `(tactic| refine Held.mk ?_)
local macro_rules | `(tactic| ktn_open) => `(tactic| repeat' (first | (k_unfold; (try dsimp only)) | walk1 | (dsimp only; walk1)))
theorem product_spec {prog : Program} {w : World} {p : Program} {loose : List Str} {mean : ExcName → Option Value} {mg mb : Str → Option Value}
   (one two : Addr) (t : Tok) (kinds : Int) (ns₁ ns₂ : List Int) (hkd : kinds = 2 ∨ kinds = 3)
   (e : PySem.Challenge.rw_aw5004_01 = PySem.Challenge.rw_aw5004_01 ∧ hd.heap_39 = hd.heap_39) :
   Spec prog w p loose mean mg mb 3 39 [.ref one, .ref two, .int kinds t] (fun news => IntList news one ns₁ ∧ IntList news two ns₂ ∧ 1 ≤ ns₁.length ∧ 1 ≤ ns₂.length ∧ ns₁.length ≤ 64 ∧ ns₂.length ≤ 64 ∧ Small ns₁ ∧ Small ns₂)
     (fun r tl => ∃ q o us n, r = .ref q ∧ tl = [(q, o)] ∧ o = ({ cls := .type "tuple", data := .seq (List.toArray us) n } : Obj) ∧ IntsAre us (prodL ns₁ ns₂ kinds)) := by
  revert e; k_fill; intro _
  rintro dp un gd cn cs a ccd cl outer A₀ base h₀ L m news ps s Q B F X N h16 T CH hk hg htab ⟨⟨o1, vs1, n1, m1, rfl, i1⟩, ⟨o2, vs2, n2, m2, rfl, i2⟩, l1, l2, l3, l4, sm1, sm2⟩ hdp hun hret
  have s1 : vs1.toArray.size = ns₁.length := by rw [List.size_toArray]; exact i1.length
  have s2 : vs2.toArray.size = ns₂.length := by rw [List.size_toArray]; exact i2.length
  generalize hk1 : ns₁.length = k1 at *
  generalize hk2 : ns₂.length = k2 at *
  refine wpAny_call ?_
  k_dflt (refine' code_def B F X N T ?kA ?kF ?kH ?k6 ?k7 ?k8 ?k9 ?kB ?_ ?c2 ?c3 ?c4 ?c5; (case kA => exact rfl); (case kF => exact rfl); (case kH => exact hk); (case k6 => k_is); (case k7 => k_is); (case k8 => (simp only [recursionLimit]; omega)); (case k9 => exact BindsTo.of_eq rfl); (case c5 => decide); (case kB => exact locs rfl); (case c2 => exact rfl); (case c3 => exact rfl); (case c4 => exact rfl); k_whole)
  intro g L' h1 FG F1 N1 B1 X1 T1
  dsimp only
  refine wpAny_noRaise ?_
  k_fold
  ktn_open
  rename Fr _ _ _ _ => F1
  rename News _ _ _ _ => N1
  rename_i D' _ i1' _ _ _ _ _ lD h1
  have hz : ((k1 : Int) + (k2 : Int) - 1).toNat = k1 + k2 - 1 := by omega
  have e0 : (List.replicate ((k1 : Int) + (k2 : Int) - 1).toNat [(0 : Int)]).flatten = prodTo ns₁ ns₂ kinds 0 := by rw [rep_flat, hz, prodTo_zero, hk1, hk2]
  rw [e0] at i1'
  generalize hm0 : (fun y => if y = PySem.Str.ofString "found" then some (Value.ref D') else List.lookup y _) = m0 at F1
  refine Held.of ?_
  refine forRange0 (h₀ := g) (L := L') (n := k1) (fun i m₁ news₁ => ∃ us c, news₁ = (D', W.listOf (List.toArray us) c) :: (16, tabObj ps) :: news ∧ IntsAre us (prodTo ns₁ ns₂ kinds i) ∧ Off ["j", "k"] m₁ m0) rfl ?_ ?_ ?_
  · subst hm0
    ktn_open
    rename Fr _ _ _ _ => F2
    rename News _ _ _ _ => N2
    rename IsRange _ _ _ _ _ _ _ _ => R2
    exact ⟨_, _, _, _, _, _, _, rfl, R2, rsmall _ _ (by omega) (by omega) (by omega) (by omega), rsize _, F2, nDrop2 N2, hg, rfl, ⟨_, _, rfl, i1', Off.refl⟩⟩
  · rintro i t₁ m₁ news₁ I oI s₁ hi ⟨us, c, rfl, hus, hoff⟩ hos₁ hg₁ F2 N2 offI
    rw [hoff.exp2] at F2
    generalize m₁ "j" = uj at F2
    generalize m₁ "k" = uk at F2
    clear F1 N1
    subst hm0
    refine assignL rfl rfl F2 N2 fun h' F3 N3 => ?_
    clear F2 N2
    replace F3 : Fr g L' h' _ := F3
    replace N3 : News g L' h' _ := N3
    ktn_open
    refine Held.of ?_
    generalize hm0 : (fun y => if y = PySem.Str.ofString "found" then some (Value.ref D') else List.lookup y _) = m0 at *
    refine forRange0 (h₀ := g) (L := L') (n := k2) (fun k m₂ news₂ => ∃ us c, news₂ = (D', W.listOf (List.toArray us) c) :: (I, oI) :: (16, tabObj ps) :: news ∧ IntsAre us (prodRow ns₁ ns₂ kinds (prodTo ns₁ ns₂ kinds i) i k) ∧ Off ["k"] m₂ (fun y => if y = "j" then some (.int (i : Int) t₁) else m0 y)) rfl ?_ ?_ ?_
    · subst hm0
      ktn_open
      rename Fr _ _ _ _ => F4
      rename News _ _ _ _ => N4
      rename IsRange _ _ _ _ _ _ _ _ => R4
      refine ⟨_, _, _, _, _, _, _, rfl, R4, rsmall _ _ (by omega) (by omega) (by omega) (by omega), rsize _, F4, nSwap N4, hg₁, rfl, ⟨_, _, rfl, hus, fun y hy => ?_⟩⟩
      have h1 : y ≠ "k" := by simpa using hy
      by_cases h2 : y = "j"
      · subst h2; rfl
      · simp only [if_neg h2, if_neg h1]
    · rintro k t₂ m₂ news₂ I' oI' s₂ hk2' ⟨us₂, c₂, rfl, hus₂, hoff₂⟩ hos₂ hg₂ F4 N4 offI'
      rw [hoff₂.exp1] at F4
      generalize m₂ "k" = uk2 at F4
      subst hm0
      refine assignL rfl rfl F4 N4 fun h'' F5 N5 => ?_
      clear F4 N4 F3 N3
      replace F5 : Fr g L' h'' _ := F5
      replace N5 : News g L' h'' _ := N5
      have hfl : (prodRow ns₁ ns₂ kinds (prodTo ns₁ ns₂ kinds i) i k).length = k1 + k2 - 1 := by rw [prodRow_length, prodTo_length, hk1, hk2]
      have hfs : Small (prodRow ns₁ ns₂ kinds (prodTo ns₁ ns₂ kinds i) i k) := prodRow_small hkd (prodTo_small hkd)
      generalize hf : prodRow ns₁ ns₂ kinds (prodTo ns₁ ns₂ kinds i) i k = f at *
      have b1 := sm1 (i : Int).toNat
      have b2 := sm2 (k : Int).toNat
      have b3 := hfs ((i : Int) + (k : Int)).toNat
      have d1 : D' ≠ I' := offI' (D', _) (.head _)
      have d2 : I ≠ I' := offI' (I, _) (.tail _ (.head _))
      have d3 : (16 : Addr) ≠ I' := offI' (16, _) (.tail _ (.tail _ (.head _)))
      have d4 : D' ≠ I := offI (D', _) (.head _)
      have kpos : kinds ≠ 0 := by omega
      have q1 : vs1.toArray.size = k1 := s1
      ktn_open
      refine ksa_set F5 N5 (.tail d1.symm (.head (List.forall_mem_cons.mpr ⟨d4.symm, List.forall_mem_cons.mpr ⟨Nat.ne_of_lt lD.2.1, fun p hp => Nat.ne_of_lt (ktn_ltOf lD.2.2 p hp)⟩⟩))) hus₂ (by omega) (by omega) (by omega) ?_
      intro h6 F6 N6 hus₃ _ _
      have e1 : ((i : Int) + (k : Int)).toNat = i + k := by omega
      have e2 : (i : Int).toNat = i := by omega
      have e3 : (k : Int).toNat = k := by omega
      dsimp only
      refine wpAny_execs_nil ?_
      refine ⟨hos₂, hg₂, _, _, F6, N6, ?_, trivial, _, _, rfl, ?_, ?_⟩
      · intro p hp
        rcases List.mem_cons.mp hp with rfl | hp
        · exact d1
        · exact offI' p (.tail _ hp)
      · rw [prodRow_succ, hf]; unfold prodAt; rw [e1, e2, e3] at hus₃; exact hus₃
      · intro y hy
        have h1 : y ≠ "k" := by simpa using hy
        simp only [if_neg h1]
    · rintro m₂ news₂ s₂ ⟨us₂, c₂, rfl, hus₂, hoff₂⟩ hos₂ hg₂ F4 N4
      dsimp only
      refine wpAny_execs_nil ?_
      refine ⟨hos₂.trans hos₁, hg₂, _, _, F4, nSwap N4, ?_, trivial, _, _, rfl, ?_, ?_⟩
      · intro p hp
        rcases List.mem_cons.mp hp with rfl | hp
        · exact offI (D', W.listOf us.toArray c) (.head _)
        · exact offI p (.tail _ hp)
      · rw [prodTo_succ, hk2]; exact hus₂
      · intro y hy
        have h1 : y ≠ "j" := fun e => hy (by simp [e])
        have h2 : y ≠ "k" := fun e => hy (by simp [e])
        rw [hoff₂ y (by simp [h2])]
        simp only [if_neg h1]
  · rintro m₁ news₁ s₁ ⟨us, c, rfl, hus, hoff⟩ hos₁ hg₁ F2 N2
    rw [hoff.exp2] at F2
    generalize m₁ "j" = uj at F2
    generalize m₁ "k" = uk at F2
    subst hm0
    clear F1 N1
    have hsz : us.toArray.size = k1 + k2 - 1 := by rw [List.size_toArray, hus.length, prodTo_length, hk1, hk2]
    ktn_open
    rename Fr _ _ _ _ => F3
    rename News _ _ _ _ => N3
    refine Held.of ?_
    refine kde_tupleOf F3 N3 (News.isList N3 (.head _)) (by omega) rfl ?_
    intro D'' h4 F4 N4 l4'
    ktn_open
    refine Held.of ?_
    refine leaveK_ F4 N4 fun kF kN => ?_
    refine hret _ _ [(D'', { cls := .type "tuple", data := .seq us.toArray })] ps (hos₁) hg₁ htab kF ?_ ?_ ⟨_, _, _, _, rfl, rfl, rfl, by rw [prodL, hk1]; exact hus⟩
    · exact nSwap (nDrop2 kN)
    · exact Above.cons (fun p hp => l4' p (.tail _ hp)) Above.nil
end Mine

namespace Mine
local macro_rules | `(tactic| k_mem) => `(tactic| assumption)
local macro_rules | `(tactic| walk_at "exec For Name Call cons nil") => `(tactic| refine Held.mk ?_)
local macro_rules | `(tactic| walk_at "LeaveK") => `(tactic| refine Held.mk ?_)
local macro_rules | `(tactic| walk_at "call type:tuple") => `(tactic| refine Held.mk ?_)
local macro_rules | `(tactic| walk_at "exec Assign cons ListComp") => `(tactic| refine Held.mk ?_)
local macro_rules | `(tactic| walk_at "pyIter ref") => `(tactic| refine Held.mk ?_)
local macro_rules | `(tactic| walk_at "eval ListComp") => `(tactic| refine Held.mk ?_)
local macro_rules | `(tactic| ktn_open) => `(tactic| repeat' (first | (k_unfold; (try dsimp only)) | walk1 | (dsimp only; walk1)))
theorem monic_spec {prog : Program} {w : World} {p : Program} {loose : List Str} {mean : ExcName → Option Value} {mg mb : Str → Option Value}
   (kinds n : Nat) (t u : Tok) (hkd : kinds = 2 ∨ kinds = 3) (hn : n ≤ 5)
   (e : PySem.Challenge.rw_aw5004_01 = PySem.Challenge.rw_aw5004_01 ∧ hd.heap_39 = hd.heap_39) :
   Spec prog w p loose mean mg mb 3 32 [.int (kinds : Int) t, .int (n : Int) u] (fun _ => True)
     (fun r tl => ∃ D ys c, r = .ref D ∧ (D, W.listOf (List.toArray ys) c) ∈ tl ∧ RowsAre tl ys (monicL kinds n)) := by
  revert e; k_fill; intro _
  rintro dp un gd cn cs a ccd cl outer A₀ base h₀ L m news ps s Q B F X N h16 T CH hk hg htab _ hdp hun hret
  refine wpAny_call ?_
  k_dflt (refine' code_defC B F X N T ?kA ?kF ?kH ?k6 ?k7 ?k8 ?k9 ?kB ?kN ?_ ?c2 ?c3 ?c4; (case kA => exact rfl); (case kF => exact rfl); (case kH => exact hk); (case k6 => k_is); (case k7 => k_is); (case k8 => (simp only [recursionLimit]; omega)); (case k9 => exact BindsTo.of_eq rfl); (case kB => rfl); (case kN => decide); (case c2 => exact rfl); (case c3 => exact rfl); (case c4 => exact rfl); k_whole)
  intro g L' h1 tk cells FG F1 N1 hcells B1 X1 T1 hlt
  obtain ⟨oK, rfl, hoK⟩ := CellsAre.one (n := "kinds") (c := L' + 1) hcells
  replace hoK : oK.data = .cell (some (.int (kinds : Int) t)) := hoK
  replace F1 : Fr g L' h1 (fun y => if y = "degree" then some (.int (n : Int) u) else none) := F1
  generalize hm00 : (fun y : Str => if y = "degree" then some (Value.int (n : Int) u) else none) = m00 at F1
  replace N1 : News g L' h1 ((L' + 1, oK) :: (16, tabObj ps) :: news) := N1
  dsimp only
  refine wpAny_noRaise ?_
  k_fold
  subst hm00
  ktn_open
  rename Fr _ _ _ _ => F2
  rename News _ _ _ _ => N2
  rename_i l0 _ l0' l1 _ l1' h2
  generalize hm00 : (fun y : Str => if y = "degree" then some (Value.int (n : Int) u) else none) = m00 at *
  generalize hb0 : (L' + 1, oK) :: (16, tabObj ps) :: news = b0 at *
  refine Held.of ?_
  refine forRange0 (h₀ := g) (L := L') (n := n) (fun i m₁ news₁ => ∃ D ys c tl, news₁ = tl ++ b0 ∧ (D, W.listOf (List.toArray ys) c) ∈ tl ∧ RowsAre tl ys (rowsTo kinds i) ∧ Above tl b0 ∧ Off ["k"] m₁ (fun y => if y = "rows" then some (.ref D) else m00 y)) rfl ?_ ?_ ?_
  · subst hm00
    ktn_open
    rename Fr _ _ _ _ => F3
    rename News _ _ _ _ => N3
    rename IsRange _ _ _ _ _ _ _ _ => R3
    subst hb0
    refine ⟨_, _, _, _, _, _, _, rfl, R3, rsmall _ _ (by omega) (by omega) (by omega) (by omega), rsize _, F3, N3, hg, rfl, ⟨l1, [.ref l0], 0, [(l1, W.listOf [Value.ref l0].toArray 0), (l0, W.listOf ([] : List Value).toArray 0)], rfl, .head _, .cons ⟨l0, [], 0, rfl, .tail _ (.head _), .nil⟩ .nil, ?_, Off.refl⟩⟩
    exact Above.cons (fun p hp => ktn_ltOf (show AllLt l1 ((L' + 1, oK) :: (16, tabObj ps) :: news) from l1'.2) p hp) (Above.cons (fun p hp => ktn_ltOf (show AllLt l0 ((L' + 1, oK) :: (16, tabObj ps) :: news) from l0') p hp) Above.nil)
  · rintro i t₁ m₁ news₁ I oI s₁ hi ⟨D, ys, c, tl, rfl, hD, hys, htl, hoff⟩ hos₁ hg₁ F3 N3 offI
    rw [hoff.exp1] at F3
    generalize m₁ "k" = uk at F3
    clear F2 N2
    subst hm00
    refine assignL rfl rfl F3 N3 fun h' F4 N4 => ?_
    clear F3 N3
    replace F4 : Fr g L' h' _ := F4
    replace N4 : News g L' h' _ := N4
    rw [updTwice] at F4
    ktn_open
    refine Held.of ?_
    generalize hmm : (fun y : Str => if y = PySem.Str.ofString "k" then some (Value.int (i : Int) t₁) else _) = mm at F4
    have hlen : (rowsTo kinds i).length ≤ 243 := rowsTo_le (by omega) (by omega)
    have hsz : ys.toArray.size = (rowsTo kinds i).length := by rw [List.size_toArray]; exact hys.length
    refine compA (h₀ := g) (m := mm) (cl := [("kinds", L' + 1)]) (fun D' => RowsK kinds ((I, oI) :: (tl ++ b0)) (rowsTo kinds i) D' ys.toArray.size) rfl rfl (by decide) rfl (by decide) rfl rfl ?_ ?_
    · subst hmm
      ktn_open
      refine Held.of ?_
      generalize hmm : (fun y : Str => if y = PySem.Str.ofString "k" then some (Value.int (i : Int) t₁) else _) = mm at F4
      refine blk2List (h₀ := g) (L := L') (m := mm) (its := ys.toArray) _ rfl (RowsK kinds ((I, oI) :: (tl ++ b0)) (rowsTo kinds i)) ⟨D, (I, oI) :: (tl ++ b0), rfl, .inr ⟨_, .tail _ (List.mem_append_left _ hD), rfl, _, rfl⟩, F4, N4, hg₁, rfl, fun D' h => RowsB.start h⟩ rfl rfl (fun _ _ => rfl) ?_
      rintro q v ys' rest ax I₁ oI₁ oC mC C D' s₂ hv hK hS hos₂ hg₂ hoC hmC F5 N5 hap
      obtain ⟨row, hrow, ⟨a₁, vs₁, n₁, rfl, ha₁, hi₁⟩⟩ := hys.get (i := q) (v := v) (by simpa using hv)
      have hcell : (L' + 1, oK) ∈ rest := by
        obtain ⟨tl₂, rfl, _⟩ := hK
        exact List.mem_append_right _ (.tail _ (List.mem_append_right _ (hb0 ▸ .head _)))
      have hrowm : (a₁, W.listOf vs₁.toArray n₁) ∈ rest := by
        obtain ⟨tl₂, rfl, _⟩ := hK
        exact List.mem_append_right _ (.tail _ (List.mem_append_left _ ha₁))
      clear F4 N4
      ktn_open
      rename Fr _ _ _ _ => F6
      rename News _ _ _ _ => N6
      rename IsRange _ _ _ _ _ _ _ _ => R6
      refine Held.of ?_
      refine' innConv (K := RowsK2 kinds ((I, oI) :: (tl ++ b0)) (rowsTo kinds i) row D' q kinds) (innRange (x := "row") (m := mm) (n := kinds) (S := SrcAt g ax ys.toArray) (oC := oC) (mC := mC) (v := .ref a₁) _ ?h1 ?hR (rsmall _ _ (by omega) (by omega) (by omega) (by omega)) (rsize _) ?h2 ?h3 ?h4 (RowsK2 kinds ((I, oI) :: (tl ++ b0)) (rowsTo kinds i) row D' q) ?h5 ?hg ?h6 hoC hmC ?h7 ?h8 ?h9 ?h10 ?h11 ?h12) ?h13
      case h1 => exact rfl
      case hR => exact R6
      case hg => exact hg₂
      case h2 => exact rfl
      case h3 => decide
      case h4 => exact rfl
      case h7 => exact F6
      case h8 => exact N6
      case h9 => exact hap
      case h10 => exact hS
      case h6 => exact hos₂
      case h5 =>
        intro j ys₂ r₂ h
        have := RowsB.len h
        rw [List.length_append, rowsStep_length] at this
        have e1 : (List.take q (rowsTo kinds i)).length ≤ 243 := Nat.le_trans (by rw [List.length_take]; omega) hlen
        have e2 : (List.take j (rowsOne kinds row)).length ≤ 3 := by rw [List.length_take]; unfold rowsOne; rw [List.length_map, List.length_range]; omega
        have e3 : kinds * (List.take q (rowsTo kinds i)).length ≤ 3 * 243 := Nat.mul_le_mul (by omega) e1
        have e4 : 10000 ≤ sizeLine := by decide
        omega
      case h11 => show RowsB _ _ (_ ++ List.take 0 _) _ _; rw [List.take_zero, List.append_nil]; exact hK
      case h13 =>
        intro ys₂ r₂ h
        show RowsB _ _ _ _ _
        rw [take_snoc hrow, rowsStep_snoc]
        have e : List.take kinds (rowsOne kinds row) = rowsOne kinds row := List.take_of_length_le (by unfold rowsOne; rw [List.length_map, List.length_range]; omega)
        exact e ▸ h
      rintro j t₂ ys₂ rest₂ I₂ oI₂ oC₂ mC₂ s₃ hj hK₂ hS₂ hos₃ hg₃ hoC₂ hmC₂ hmC₂' F7 N7 hap₂ off₂ d1 d2 d3
      have hrow2 : (a₁, W.listOf vs₁.toArray n₁) ∈ rest₂ := by
        obtain ⟨tl₂, rfl, _⟩ := hK₂
        exact List.mem_append_right _ (.tail _ (List.mem_append_left _ ha₁))
      clear F6 N6 R6 hrowm hcell
      ktn_open
      rename Fr _ _ _ _ => F8
      rename News _ _ _ _ => N8
      rename_i l8
      refine kmk_add_ints F8 N8 (News.isList N8 (.tail _ (.tail _ (.tail _ (.tail _ (.tail _ hrow2)))))) (News.isList N8 (.head _)) hi₁ (.cons _ _ .nil) (fun T us h9 F9 N9 l9 hi9 => ?_) ?_
      · rw [Int.zero_add] at hi9
        refine ⟨hos₃, hg₃, (T, W.listOf us.toArray 0) :: rest₂, F9, nSub N9 ?_, ⟨hap₂.1, ?_⟩, ?_, ?_, ?_⟩
        · intro p hp
          simp only [List.mem_cons] at hp ⊢
          rcases hp with rfl | rfl | rfl | rfl | rfl | hp <;> simp [*]
        · intro p hp
          rcases List.mem_cons.mp hp with rfl | hp
          · exact ⟨Nat.ne_of_gt (l9 (I₁, oI₁) (by simp)), Nat.ne_of_gt (l9 (D', lst ys₂) (by simp)), Nat.ne_of_gt (l9 (C, oC₂) (by simp))⟩
          · exact hap₂.2 p hp
        · intro p hp
          rcases List.mem_cons.mp hp with rfl | hp
          · exact Nat.ne_of_gt (l9 (I₂, oI₂) (by simp))
          · exact off₂ p hp
        · exact srcCons _ hS₂
        · show RowsB _ _ _ _ _
          rw [take_snoc (rowsOne_get hj), ← List.append_assoc]
          exact RowsB.snoc hK₂ hi9 (l9 (D', lst ys₂) (by simp)) fun p hp => l9 p (by simp [hp])
      · have e1 : row.length = i := rowsTo_mem_length (List.mem_of_getElem? hrow)
        rw [e1]
        have e4 : 10000 ≤ sizeLine := by decide
        show i + 1 ≤ _
        omega
    · rintro ys' rest' D' s' ⟨tl', rfl, hrows, habv, hbD, hDt⟩ F' N' off' hg' hos'
      dsimp only
      refine wpAny_execs_nil ?_
      rw [List.take_of_length_le (by omega), ← rowsTo_succ] at hrows
      refine ⟨hos'.trans hos₁, hg', _, (D', lst ys') :: (tl' ++ b0), F', nSub N' ?_, ?_, trivial, D', ys', _, (D', lst ys') :: tl', rfl, .head _, hrows.mono fun p hp => .tail _ hp, ?_, ?_⟩
      · intro p hp
        simp only [List.mem_cons, List.mem_append] at hp ⊢
        rcases hp with rfl | rfl | hp | hp <;> simp [*]
      · intro p hp
        simp only [List.mem_cons, List.mem_append] at hp
        rcases hp with rfl | hp | hp
        · exact Nat.ne_of_gt (hbD (I, oI) (.head _))
        · exact Nat.ne_of_gt (habv p hp (I, oI) (.head _))
        · exact offI p (List.mem_append_right _ hp)
      · exact Above.cons (fun p hp => hbD p (.tail _ (List.mem_append_right _ hp))) (habv.mono fun p hp => .tail _ (List.mem_append_right _ hp))
      · subst hmm
        intro y hy
        have h1 : y ≠ "k" := by simpa using hy
        simp only [if_neg h1]
        by_cases h2 : y = "rows"
        · simp only [if_pos h2]
        · simp only [if_neg h2]
  · rintro m₁ news₁ s₁ ⟨D, ys, c, tl, rfl, hD, hys, htl, hoff⟩ hos₁ hg₁ F3 N3
    rw [hoff.exp1] at F3
    generalize m₁ "k" = uk at F3
    clear F2 N2
    subst hm00
    have hlen : (rowsTo kinds n).length ≤ 243 := rowsTo_le (by omega) (by omega)
    have hsz : ys.toArray.size = (rowsTo kinds n).length := by rw [List.size_toArray]; exact hys.length
    ktn_open
    refine Held.of ?_
    generalize hmm : (fun y : Str => if y = PySem.Str.ofString "k" then uk else _) = mm at F3
    generalize hrs : rowsTo kinds n = rs at *
    refine compE (h₀ := g) (L := L') (m := mm) (cl := []) (fun D' => RowsB (tl ++ b0) D' ((rs.map fun row => row ++ [1]).take ys.toArray.size)) rfl (by decide) rfl (by decide) ?_ ?_
    · subst hmm
      ktn_open
      refine Held.of ?_
      refine blk1List (h₀ := g) (L := L') (its := ys.toArray) _ rfl (fun D' i => RowsB (tl ++ b0) D' ((rs.map fun row => row ++ [1]).take i)) ⟨D, tl ++ b0, rfl, .inr ⟨_, List.mem_append_left _ hD, rfl, _, rfl⟩, F3, N3, hg₁, rfl, fun D' h => RowsB.start h⟩ rfl rfl ?_ ?_
      · intro D' j ys₂ r₂ h
        have := RowsB.len h
        rw [List.length_take, List.length_map] at this
        have e4 : 10000 ≤ sizeLine := by decide
        omega
      rintro q v ys' rest ax I₁ oI₁ oC mC C D' s₂ hv hK hS hos₂ hg₂ hoC hmC F5 N5 hap
      obtain ⟨row, hrow, ⟨a₁, vs₁, n₁, rfl, ha₁, hi₁⟩⟩ := hys.get (i := q) (v := v) (by simpa using hv)
      have hrowm : (a₁, W.listOf vs₁.toArray n₁) ∈ rest := by
        obtain ⟨tl₂, rfl, _⟩ := hK
        exact List.mem_append_right _ (List.mem_append_left _ ha₁)
      refine wpAny_tests_nil ?_
      simp only [if_true]
      clear F3 N3
      ktn_open
      rename Fr _ _ _ _ => F8
      rename News _ _ _ _ => N8
      refine kmk_add_ints F8 N8 (News.isList N8 (.tail _ (.tail _ (.tail _ (.tail _ hrowm))))) (News.isList N8 (.head _)) hi₁ (.cons _ _ .nil) (fun T us h9 F9 N9 l9 hi9 => ?_) ?_
      · refine ⟨hos₂, hg₂, (T, W.listOf us.toArray 0) :: rest, F9, nSub N9 ?_, ⟨hap.1, ?_⟩, ?_, ?_⟩
        · intro p hp
          simp only [List.mem_cons] at hp ⊢
          rcases hp with rfl | rfl | rfl | rfl | hp <;> simp [*]
        · intro p hp
          rcases List.mem_cons.mp hp with rfl | hp
          · exact ⟨Nat.ne_of_gt (l9 (I₁, oI₁) (by simp)), Nat.ne_of_gt (l9 (D', lst ys') (by simp)), Nat.ne_of_gt (l9 (C, oC) (by simp))⟩
          · exact hap.2 p hp
        · exact srcCons _ hS
        · show RowsB _ _ _ _ _
          have e : (rs.map fun row => row ++ [1])[q]? = some (row ++ [1]) := by rw [List.getElem?_map, hrow]; rfl
          rw [take_snoc e]
          exact RowsB.snoc hK hi9 (l9 (D', lst ys') (by simp)) fun p hp => l9 p (by simp [hp])
      · have e1 : row.length = n := rowsTo_mem_length (hrs ▸ List.mem_of_getElem? hrow)
        rw [e1]
        have e4 : 10000 ≤ sizeLine := by decide
        show n + 1 ≤ _
        omega
    · rintro ys' rest' D' s' ⟨tl', rfl, hrows, habv, hbD, hDt⟩ F' N' off' hg' hos'
      dsimp only
      rw [List.take_of_length_le (by rw [List.length_map]; omega), ← hrs] at hrows
      refine leaveK_ F' N' fun kF kN => ?_
      have hb : ∀ p ∈ (16, tabObj ps) :: news, p ∈ b0 := fun p hp => hb0 ▸ List.mem_cons_of_mem _ hp
      refine hret _ _ ((D', lst ys') :: tl') ps (hos'.trans hos₁) hg' htab kF (nSub kN ?_) ?_ ⟨D', ys', _, rfl, .head _, hrows.mono fun p hp => .tail _ hp⟩
      · intro p hp
        simp only [List.mem_cons, List.mem_append] at hp ⊢
        have := hb p
        simp only [List.mem_cons] at this
        rcases hp with rfl | (rfl | hp) | hp <;> simp [*]
      · exact Above.cons (fun p hp => hbD p (List.mem_append_right _ (hb p hp))) (habv.mono fun p hp => List.mem_append_right _ (hb p hp))
end Mine

namespace Mine
local macro_rules | `(tactic| k_mem) => `(tactic| assumption)
local macro_rules | `(tactic| walk_at "exec For Name Call cons nil") => `(tactic| refine Held.mk ?_)
local macro_rules | `(tactic| walk_at "LeaveK") => `(tactic| refine Held.mk ?_)
local macro_rules | `(tactic| walk_at "call builtin:sum") => `(tactic| refine Held.mk ?_)
local macro_rules | `(tactic| walk_at "eval GeneratorExp") => `(tactic| refine Held.mk ?_)
local macro_rules | `(tactic| ktn_open) => `(tactic| repeat' (first | (k_unfold; (try dsimp only)) | walk1 | (dsimp only; walk1)))
def mbStep (n : Int) (p : Int) (fs : List Int) : Option (List Int) :=
  if n.fmod p = 0 then if n.fmod (p ^ Int.toNat 2) = 0 then none else if (fs.map fun f => p.fmod f).sum = 0 then some (fs ++ [p]) else some fs else some fs
def mbTo (n : Int) : Nat → Option (List Int)
  | 0 => some []
  | i + 1 => (mbTo n i).bind (mbStep n (2 + (i : Int)))
def mu (n : Nat) : Int := if n < 2 then n else match mbTo n (n - 1) with
  | none => 0
  | some fs => (-1) ^ fs.length

theorem mbTo_none {n : Int} {i j : Nat} (h : mbTo n i = none) (hj : i ≤ j) : mbTo n j = none := by
  induction j with
  | zero => rw [show i = 0 by omega] at h; exact h
  | succ j ih =>
    by_cases e : i = j + 1
    · rw [← e]; exact h
    · show (mbTo n j).bind _ = none
      rw [ih (by omega)]; rfl
theorem mbTo_succ {n : Int} {i : Nat} {fs : List Int} (h : mbTo n i = some fs) : mbTo n (i + 1) = mbStep n (2 + (i : Int)) fs := by
  show (mbTo n i).bind _ = _
  rw [h]; rfl
theorem passing_all (n : Nat) : passing (fun _ => true) n 0 = List.range n := by
  unfold passing; rw [List.drop_zero]; simp

theorem moebius_spec {prog : Program} {w : World} {p : Program} {loose : List Str} {mean : ExcName → Option Value} {mg mb : Str → Option Value}
   (n : Nat) (t : Tok) (hn1 : 1 ≤ n) (hn : n ≤ 60)
   (e : PySem.Challenge.rw_aw5004_01 = PySem.Challenge.rw_aw5004_01 ∧ hd.heap_39 = hd.heap_39) :
   Spec prog w p loose mean mg mb 3 21 [.int (n : Int) t] (fun _ => True)
     (fun r _ => ∃ u, r = .int (mu n) u) := by
  revert e; k_fill; intro _
  rintro dp un gd cn cs a ccd cl outer A₀ base h₀ L m news ps s Q B F X N h16 T CH hk hg htab _ hdp hun hret
  refine wpAny_call ?_
  k_dflt (refine' code_defC B F X N T ?kA ?kF ?kH ?k6 ?k7 ?k8 ?k9 ?kB ?kN ?_ ?c2 ?c3 ?c4; (case kA => exact rfl); (case kF => exact rfl); (case kH => exact hk); (case k6 => k_is); (case k7 => k_is); (case k8 => (simp only [recursionLimit]; omega)); (case k9 => exact BindsTo.of_eq rfl); (case kB => rfl); (case kN => decide); (case c2 => exact rfl); (case c3 => exact rfl); (case c4 => exact rfl); k_whole)
  intro g L' h1 tk cells FG F1 N1 hcells B1 X1 T1 hlt
  have hlt' : ∀ a : Addr, (∃ q ∈ (16, tabObj ps) :: news, q.1 = a) → a < L' := fun a ⟨q, hq, e⟩ => e ▸ hlt q hq
  obtain ⟨oK, rfl, hoK⟩ := CellsAre.one (n := "p") (c := L' + 1) hcells
  replace hoK : oK.data = .cell none := hoK
  replace F1 : Fr g L' h1 (fun y => if y = "n" then some (.int (n : Int) t) else none) := F1
  replace N1 : News g L' h1 ((L' + 1, oK) :: (16, tabObj ps) :: news) := N1
  dsimp only
  refine wpAny_noRaise ?_
  k_fold
  have habs : (if (n : Int) < 0 then -(n : Int) else (n : Int)) = (n : Int) := by omega
  ktn_open
  · rename Fr _ _ _ _ => F2
    rename News _ _ _ _ => N2
    rename_i hlt2
    rw [habs] at hlt2
    refine Held.of ?_
    refine leaveK_ F2 N2 fun kF kN => ?_
    refine hret _ _ [] ps rfl hg htab kF (nDrop1 kN) Above.nil ⟨_, by rw [habs]; unfold mu; rw [if_pos (by omega)]⟩
  · rename Fr _ _ _ _ => F2
    rename News _ _ _ _ => N2
    rename_i hlt2 lF _ lF' _
    simp only [habs] at hlt2 F2
    generalize hm0 : (fun y : Str => if y = PySem.Str.ofString "factors" then some (Value.ref lF) else _) = m0 at F2
    refine Held.of ?_
    refine forRange (h₀ := g) (L := L') (a := 2) (n := n - 1) (fun i m₁ news₁ => ∃ fs us c oW vW ps', news₁ = (lF, W.listOf (List.toArray us) c) :: (L' + 1, oW) :: (16, tabObj ps') :: news ∧ IntsAre us fs ∧ mbTo n i = some fs ∧ TabOk ps' ∧ oW.data = .cell vW ∧ fs.length ≤ i ∧ (∀ f ∈ fs, 2 ≤ f) ∧ m₁ = m0) rfl ?_ ?_ ?_
    · subst hm0
      ktn_open
      rename Fr _ _ _ _ => F3
      rename News _ _ _ _ => N3
      rename IsRange _ _ _ _ _ _ _ _ => R3
      refine ⟨_, _, _, _, _, _, _, rfl, R3, rsmall _ _ (by omega) (by omega) (by omega) (by omega), ?_, F3, N3, hg, rfl, ⟨[], [], _, _, _, _, rfl, .nil, rfl, htab, hoK, Nat.le_refl _, fun _ h => (nomatch h), rfl⟩⟩
      rw [rangeSize_one]; split <;> omega
    · rintro i t₁ m₁ news₁ I oI s₁ hi ⟨fs, us, c, oW, vW, ps', rfl, hus, hfs, htab', hoW, hlen, hge2, rfl⟩ hos₁ hg₁ F3 N3 offI
      clear F2 N2
      subst hm0
      refine assignW (pre := [(I, oI), (lF, _)]) (W := L' + 1) (v₀ := vW) rfl rfl rfl hoW F3 N3 ?_ ?_ fun h' oW' hoW' F4 N4 => ?_
      · intro q hq
        simp only [List.mem_cons, List.not_mem_nil, or_false] at hq
        rcases hq with rfl | rfl
        · exact (offI (L' + 1, oW) (by simp)).symm
        · exact Nat.ne_of_gt lF'.1
      · intro q hq
        exact Nat.ne_of_lt (Nat.lt_succ_of_lt (hlt' q.1 (by
          rcases List.mem_cons.mp hq with rfl | hq
          · exact ⟨_, .head _, rfl⟩
          · exact ⟨q, .tail _ hq, rfl⟩)))
      clear F3 N3
      replace N4 : News g L' h' ((I, oI) :: (lF, W.listOf (List.toArray us) c) :: (L' + 1, oW') :: (16, tabObj ps') :: news) := N4
      have hip : (2 : Int) + (i : Int) ≠ 0 := by omega
      have hlo : (2 : Int) + (i : Int) ≤ 60 := by omega
      have hsuc := mbTo_succ hfs
      have hoffI : ∀ q ∈ (lF, W.listOf us.toArray c) :: (L' + 1, oW') :: (16, tabObj ps') :: news, q.1 ≠ I := fun q hq => by
        simp only [List.mem_cons] at hq
        rcases hq with rfl | rfl | rfl | hq
        · exact offI (lF, W.listOf us.toArray c) (by simp)
        · exact offI (L' + 1, oW) (by simp)
        · exact offI (16, tabObj ps') (by simp)
        · exact offI q (by simp [hq])
      generalize hpp : (2 : Int) + (i : Int) = pp at *
      have hip2 : pp ^ Int.toNat 2 ≠ 0 := by rw [show Int.toNat 2 = 2 from rfl, Int.pow_succ, Int.pow_succ, Int.pow_zero, Int.one_mul]; exact Int.mul_ne_zero hip hip
      generalize hm0 : (fun y : Str => if y = PySem.Str.ofString "factors" then some (Value.ref lF) else _) = m0 at *
      subst hm0
      ktn_open
      · rename_i hf0
        refine ⟨hos₁, hg₁, _, _, F4, N4, hoffI, trivial, fs, us, c, oW', _, ps', rfl, hus, ?_, htab', hoW', Nat.le_succ_of_le hlen, hge2, rfl⟩
        rw [hsuc]; unfold mbStep; rw [if_neg hf0]
      · rename_i hf0 _ hf1
        refine Held.of ?_
        have hps : TriplesOk ps'.toList := by
          rcases htab' with rfl | ⟨c', rfl⟩
          · trivial
          · exact trivial
        have hcd : codeAmong { line := 11, col := 23, endLine := 11, endCol := 47 } ps'.toList = none ∨ ∃ c', codeAmong { line := 11, col := 23, endLine := 11, endCol := 47 } ps'.toList = some (.ref c') := by
          rcases htab' with rfl | ⟨c', rfl⟩
          · exact .inl rfl
          · exact .inr ⟨c', rfl⟩
        generalize hmm : (fun y : Str => if y = PySem.Str.ofString "factors" then some (Value.ref lF) else _) = mm at F4
        refine genL (h₀ := g) (L := L') (c := 20) (P := 16) (m := mm) (cl := [("p", L' + 1)]) (news := (I, oI) :: (lF, W.listOf us.toArray c) :: (L' + 1, oW') :: news) (its := us.toArray) (fun i v => ∃ f t, fs[i]? = some f ∧ v = .int (pp.fmod f) t) T1 (CH.keeps B1.stays) rfl rfl rfl rfl rfl (by decide) rfl rfl rfl ?_ hps hcd ?_ ?_ ?_ ?_ ?_
        · simp only [depth_deeper, recursionLimit]
          show dp + 1 < 1000
          omega
        · intro q hq
          simp only [List.mem_cons] at hq
          rcases hq with rfl | rfl | rfl | hq
          · exact (offI (16, tabObj ps') (by simp)).symm
          · exact Nat.ne_of_gt lF'.2.1
          · exact Nat.ne_of_gt (Nat.lt_succ_of_lt (hlt' 16 ⟨_, .head _, rfl⟩))
          · exact h16 q hq
        · subst hmm
          walk1
          refine ⟨lF, rfl, .inr ⟨_, .tail _ (.head _), rfl, _, rfl⟩, F4, nSub N4 fun q hq => ?_, hg₁, rfl⟩
          simp only [List.mem_cons] at hq ⊢
          rcases hq with rfl | rfl | rfl | rfl | hq <;> simp [*]
        · intro C' code A' j v t' m₂ hA _ _ hv hFr hm hk'
          obtain ⟨f, tf, rfl, hf⟩ := IntsAre.at hus j v (by simpa using hv)
          have hf2 := hge2 f (List.mem_of_getElem? hf)
          refine wpAny_BinOp (ldFreeG (c := L' + 1) (v := .int pp t₁) rfl ⟨oW', hk' (L' + 1, oW') (by simp), hoW'⟩ (ldVarG hFr hm (mod_int' (by omega) ⟨⟨f, _, hf, rfl⟩, ⟨_, _, rfl, fun _ _ e => e⟩⟩)))
        · intro K a' s₅ ps'' hps'' F5 N5 g5 os5 hLK hPK hK G
          rw [passing_all] at G
          ktn_open
          refine Held.of ?_
          refine sum_rowsKA (h₀ := g) (L := L') F5 g5 G hLK (fun j => (fs.map fun f => pp.fmod f).getD j 0) ?_ fun s' t' F6 g6 os6 hk6 => ?_
          · rintro j v ⟨i', hi', f, tf, hf, rfl⟩
            have e1 : i' = j := by
              rw [List.getElem?_eq_some_iff] at hi'
              obtain ⟨_, e⟩ := hi'
              simpa using e.symm
            subst e1
            exact ⟨tf, by simp [List.getD_eq_getElem?_getD, hf]⟩
          have N6 : News g L' s'.heap ((16, tabObj ps'') :: (I, oI) :: (lF, W.listOf us.toArray c) :: (L' + 1, oW') :: news) := fun q hq => by
            refine ⟨hk6 _ _ ?_ (N5 q hq).1, (N5 q hq).2⟩
            rcases List.mem_cons.mp hq with rfl | hq
            · exact hPK
            · exact hK q hq
          have eS : preSum (fun j => (fs.map fun f => pp.fmod f).getD j 0) (List.range us.toArray.size).length = (fs.map fun f => pp.fmod f).sum := by
            rw [preSum_getD, List.length_range, List.size_toArray, hus.length, List.take_of_length_le (by simp)]
          rw [eS]
          have ht2 : TabOk ps'' := by
            rcases hps'' with rfl | ⟨hnn, c', rfl⟩
            · exact htab'
            · rcases htab' with rfl | ⟨c'', rfl⟩
              · exact .inr ⟨c', rfl⟩
              · cases hnn
          have N7 : News g L' s'.heap ((I, oI) :: (lF, W.listOf us.toArray c) :: (L' + 1, oW') :: (16, tabObj ps'') :: news) := nSub N6 fun q hq => by
            simp only [List.mem_cons] at hq ⊢
            rcases hq with rfl | rfl | rfl | rfl | hq <;> simp [*]
          clear N6 N5 F5 F4 N4
          subst hmm
          ktn_open
          · rename_i hf2
            refine ⟨os6.trans (os5.trans hos₁), g6, _, _, F6, N7, ?_, trivial, fs, us, c, oW', _, ps'', rfl, hus, ?_, ht2, hoW', Nat.le_succ_of_le hlen, hge2, rfl⟩
            · intro q hq
              simp only [List.mem_cons] at hq
              rcases hq with rfl | rfl | rfl | hq
              · exact hoffI (lF, W.listOf us.toArray c) (by simp)
              · exact hoffI (L' + 1, oW') (by simp)
              · exact hoffI (16, tabObj ps') (by simp)
              · exact hoffI q (by simp [hq])
            · rw [hsuc]; unfold mbStep; rw [if_pos hf0, if_neg hf1, if_neg hf2]
          · rename_i hf2
            refine append_K F6 N7 (.tail ?_ (.head ?_)) (fun h8 F8 N8 => ?_) ?_
            · exact (hoffI (lF, W.listOf us.toArray c) (by simp)).symm
            · intro q hq
              simp only [List.mem_cons] at hq
              rcases hq with rfl | rfl | hq
              · exact Nat.ne_of_lt lF'.1
              · exact Nat.ne_of_lt lF'.2.1
              · exact Nat.ne_of_lt (ktn_ltOf lF'.2.2 q hq)
            · ktn_open
              have e1 : us.toArray.push (.int pp t₁) = (us ++ [Value.int pp t₁]).toArray := by simp
              rw [e1] at N8
              refine ⟨os6.trans (os5.trans hos₁), g6, _, _, F8, N8, ?_, trivial, fs ++ [pp], us ++ [.int pp t₁], _, oW', _, ps'', rfl, IntsAre.append hus (.cons _ _ .nil), ?_, ht2, hoW', ?_, ?_, rfl⟩
              · intro q hq
                simp only [List.mem_cons] at hq
                rcases hq with rfl | rfl | rfl | hq
                · exact hoffI (lF, W.listOf us.toArray c) (by simp)
                · exact hoffI (L' + 1, oW') (by simp)
                · exact hoffI (16, tabObj ps') (by simp)
                · exact hoffI q (by simp [hq])
              · rw [hsuc]; unfold mbStep; rw [if_pos hf0, if_neg hf1, if_pos hf2]
              · rw [List.length_append]; exact Nat.succ_le_succ hlen
              · intro f hf
                rcases List.mem_append.mp hf with hf | hf
                · exact hge2 f hf
                · rw [List.mem_singleton.mp hf]; omega
            · have e2 : us.toArray.size = fs.length := by rw [List.size_toArray]; exact hus.length
              have e4 : 10000 ≤ sizeLine := by decide
              omega
        · intro _; rfl
      · rename_i hf0 _ hf1
        dsimp only [BodyEnd, qk]
        refine leaveK_ F4 N4 fun kF kN => ?_
        refine hret _ _ [] ps' hos₁ hg₁ htab' kF (nDrop1 (nDrop1 (nDrop1 kN))) Above.nil ?_
        have e1 : mbTo n (i + 1) = none := by rw [hsuc]; unfold mbStep; rw [if_pos hf0, if_pos hf1]
        unfold mu
        rw [if_neg (by omega), mbTo_none e1 (by omega)]
        exact ⟨_, rfl⟩
    · rintro m₁ news₁ s₁ ⟨fs, us, c, oW, vW, ps', rfl, hus, hfs, htab', hoW, hlen, hge2, rfl⟩ hos₁ hg₁ F3 N3
      clear F2 N2
      subst hm0
      have hsz : us.toArray.size = fs.length := by rw [List.size_toArray]; exact hus.length
      ktn_open
      refine Held.of ?_
      refine leaveK_ F3 N3 fun kF kN => ?_
      refine hret _ _ [] ps' hos₁ hg₁ htab' kF (nDrop1 (nDrop1 kN)) Above.nil ?_
      unfold mu
      rw [if_neg (by omega), hfs]
      exact ⟨_, rfl⟩
end Mine

namespace Mine
local macro_rules | `(tactic| k_mem) => `(tactic| assumption)
local macro_rules | `(tactic| walk_at "exec For Name Call cons nil") => `(tactic| refine Held.mk ?_)
local macro_rules | `(tactic| walk_at "LeaveK") => `(tactic| refine Held.mk ?_)
local macro_rules | `(tactic| walk_at "call builtin:sum") => `(tactic| refine Held.mk ?_)
local macro_rules | `(tactic| walk_at "eval ListComp") => `(tactic| refine Held.mk ?_)
local macro_rules | `(tactic| walk_at "pyIter ref") => `(tactic| refine Held.mk ?_)
local macro_rules | `(tactic| walk_at "call ref") => `(tactic| refine Held.mk ?_)
local macro_rules | `(tactic| ktn_open) => `(tactic| repeat' (first | (k_unfold; (try dsimp only)) | walk1 | (dsimp only; walk1)))
theorem mu_small {k : Nat} (h : k ≤ 60) : -1 ≤ mu k ∧ mu k ≤ 1 := by
  have : ∀ k : Fin 61, -1 ≤ mu k.val ∧ mu k.val ≤ 1 := by decide +kernel
  exact this ⟨k, by omega⟩
def sumAt (letters : Int) (len k : Nat) : Int := mu k * letters ^ (len / k)
def sumTo (letters : Int) (len : Nat) : Nat → List Int
  | 0 => []
  | i + 1 => if len % (i + 1) = 0 then sumTo letters len i ++ [sumAt letters len (i + 1)] else sumTo letters len i
def lawSum (letters : Int) (len : Nat) : Int := (sumTo letters len len).sum
theorem sumTo_len {letters : Int} {len i : Nat} : (sumTo letters len i).length ≤ i := by
  induction i with
  | zero => exact Nat.le_refl _
  | succ i ih =>
    unfold sumTo
    split
    · rw [List.length_append]; exact Nat.succ_le_succ ih
    · exact Nat.le_succ_of_le ih

theorem lawsum_spec {prog : Program} {w : World} {p : Program} {loose : List Str} {mean : ExcName → Option Value} {mg mb : Str → Option Value}
   (b : Int) (len : Nat) (t u : Tok) (hn1 : 1 ≤ len) (hn : len ≤ 60) (hb1 : -1000000 ≤ b) (hb2 : b ≤ 1000000)
   (e : PySem.Challenge.rw_aw5004_01 = PySem.Challenge.rw_aw5004_01 ∧ hd.heap_39 = hd.heap_39) :
   Spec prog w p loose mean mg mb 5 27 [.int b t, .int (len : Int) u] (fun _ => True)
     (fun r _ => ∃ u, r = .int (lawSum b len) u) := by
  revert e; k_fill; intro ee
  rintro dp un gd cn cs a ccd cl outer A₀ base h₀ L m news ps s Q B F X N h16 T CH hk hg htab _ hdp hun hret
  refine wpAny_call ?_
  k_dflt (refine' code_defC B F X N T ?kA ?kF ?kH ?k6 ?k7 ?k8 ?k9 ?kB ?kN ?_ ?c2 ?c3 ?c4; (case kA => exact rfl); (case kF => exact rfl); (case kH => exact hk); (case k6 => k_is); (case k7 => k_is); (case k8 => (simp only [recursionLimit]; omega)); (case k9 => exact BindsTo.of_eq rfl); (case kB => rfl); (case kN => decide); (case c2 => exact rfl); (case c3 => exact rfl); (case c4 => exact rfl); k_whole)
  intro g L' h1 tk cells FG F1 N1 hcells B1 X1 T1 hlt
  obtain ⟨oA, oB, rfl, hoA, hoB⟩ := CellsAre.two (n := "length") (n' := "letters") (c := L' + 2) (c' := L' + 1) hcells
  replace hoA : oA.data = .cell (some (.int (len : Int) u)) := hoA
  replace hoB : oB.data = .cell (some (.int b t)) := hoB
  replace F1 : Fr g L' h1 (fun _ => none) := F1
  replace N1 : News g L' h1 ((L' + 2, oA) :: (L' + 1, oB) :: (16, tabObj ps) :: news) := N1
  dsimp only
  refine wpAny_noRaise ?_
  k_fold
  ktn_open
  refine Held.of ?_
  generalize hm0 : (fun _ : Str => (none : Option Value)) = m0 at F1
  have hlenU : (len : Int) ≠ 0 := by omega
  refine compE (h₀ := g) (L := L') (m := m0) (cl := [("letters", L' + 1), ("length", L' + 2)]) (fun D ys rest => len ≤ len ∧ ∃ ps', rest = (L' + 2, oA) :: (L' + 1, oB) :: (16, tabObj ps') :: news ∧ TabOk ps' ∧ IntsAre ys (sumTo b len len)) rfl (by decide) rfl (by decide) ?_ ?_
  · subst hm0
    ktn_open
    rename Fr _ _ _ _ => F2
    rename News _ _ _ _ => N2
    rename IsRange _ _ _ _ _ _ _ _ => R2
    refine Held.of ?_
    refine blk1Range (h₀ := g) (L := L') (a := 1) (n := len) _ rfl (fun D i ys rest => i ≤ len ∧ ∃ ps', rest = (L' + 2, oA) :: (L' + 1, oB) :: (16, tabObj ps') :: news ∧ TabOk ps' ∧ IntsAre ys (sumTo b len i)) ⟨_, _, _, _, _, _, rfl, R2, rsmall _ _ (by omega) (by omega) (by omega) (by omega), ?_, F2, N2, hg, rfl, fun _ _ => ⟨Nat.zero_le _, ps, rfl, htab, .nil⟩⟩ rfl rfl ?_ ?_
    · rw [rangeSize_one]; split <;> omega
    · rintro D i ys rest ⟨h1, ps', _, _, h⟩
      have e1 := h.length
      have e2 := sumTo_len (letters := b) (len := len) (i := i)
      have e4 : 10000 ≤ sizeLine := by decide
      omega
    · rintro i t₁ ys rest I oI oC mC C D s₁ hi ⟨_, ps', rfl, htab', hys⟩ hos₁ hg₁ hoC hmC F3 N3 hap
      clear F2 N2 R2
      have hi1 : (1 : Int) + (i : Int) = ((i + 1 : Nat) : Int) := by omega
      rw [hi1] at hmC
      have hi2 : ((i + 1 : Nat) : Int) ≠ 0 := by omega
      have hi3 : ((i + 1 : Nat) : Int) ≤ 60 := by omega
      generalize hkk : i + 1 = k at *
      have hfm : (len : Int).fmod (k : Int) = ((len % k : Nat) : Int) := by rw [Int.fmod_eq_emod_of_nonneg _ (by omega)]; rfl
      refine wpAny_tests_one ?_
      ktn_open
      · rename_i hf0 hcE
        refine Held.of ?_
        have hms := mu_small (k := k) (by omega)
        refine moebius_spec (mb := mb) (mg := mg) (mean := mean) (loose := loose) (p := p) k t₁ (by omega) (by omega) ee (dp + 1) _ gd _ _ _ _ _ (envX cn cs L a ccd cl :: outer) (ktrTop dp un gd cn cs L a ccd cl outer) base g L' (fun _ => none) ((I, oI) :: (D, lst ys) :: (C, oC) :: (L' + 2, oA) :: (L' + 1, oB) :: news) ps' _ _ B1 F3 X1 (nSub N3 ?hsub) ?g16 T1 CH rfl hg₁ htab' trivial ?gdp ?gun ?_
        case hsub =>
          intro q hq
          simp only [List.mem_cons] at hq ⊢
          rcases hq with rfl | rfl | rfl | rfl | rfl | rfl | hq <;> simp [*]
        case g16 =>
          have q1 := hap.2 (16, tabObj ps') (by simp)
          have q2 : (16 : Nat) < L' := hlt (16, tabObj ps) (by simp)
          intro q hq
          simp only [List.mem_cons] at hq
          rcases hq with rfl | rfl | rfl | rfl | rfl | hq
          · exact q1.1.symm
          · exact q1.2.1.symm
          · exact q1.2.2.symm
          · exact Nat.ne_of_gt (Nat.lt_trans q2 (Nat.lt_succ_of_lt (Nat.lt_succ_self _)))
          · exact Nat.ne_of_gt (Nat.lt_succ_of_lt q2)
          · exact h16 q hq
        case gdp => omega
        case gun => show un + 3 + 20 * 3 ≤ 5000; omega
        rintro r s' tl ps'' hos' hg' htab'' F5 N5 habv ⟨u', rfl⟩
        replace F5 : Fr g L' s'.heap (fun _ => none) := F5
        have N6 : News g L' s'.heap ((I, oI) :: (D, lst ys) :: (C, oC) :: (L' + 2, oA) :: (L' + 1, oB) :: (16, tabObj ps'') :: news) := nSub N5 fun q hq => by
          simp only [List.mem_cons, List.mem_append] at hq ⊢
          rcases hq with rfl | rfl | rfl | rfl | rfl | rfl | hq <;> simp [*]
        have hfd : (len : Int).fdiv (k : Int) = ((len / k : Nat) : Int) := by rw [Int.fdiv_eq_ediv_of_nonneg _ (by omega)]; rfl
        have hfd1 : 0 ≤ (len : Int).fdiv (k : Int) := by rw [hfd]; exact Int.natCast_nonneg _
        have hfd2 : (len : Int).fdiv (k : Int) ≤ 1000000 := by rw [hfd]; have := Nat.div_le_self len k; omega
        have hbb : b.natAbs < 2 ^ 64 := by omega
        obtain ⟨hm1, hm2⟩ := hms
        clear N5 F3 N3
        ktn_open
        refine ⟨hos'.trans hos₁, hg', _, F5, N6, ⟨hap.1, fun q hq => ?_⟩, trivial, by omega, ps'', rfl, htab'', ?_⟩
        · simp only [List.mem_cons] at hq
          rcases hq with rfl | rfl | rfl | hq
          · exact hap.2 (L' + 2, oA) (by simp)
          · exact hap.2 (L' + 1, oB) (by simp)
          · exact hap.2 (16, tabObj ps') (by simp)
          · exact hap.2 q (by simp [hq])
        · rw [← hkk]; unfold sumTo
          rw [hkk, if_pos (by omega), hfd]
          exact IntsAre.append hys (.cons _ _ .nil)
      · rename_i hf0
        refine ⟨hos₁, hg₁, _, F3, N3, hap, trivial, by omega, ps', rfl, htab', ?_⟩
        rw [← hkk]; unfold sumTo
        rw [hkk, if_neg (by omega)]
        exact hys
  · rintro ys rest D s' ⟨_, ps', rfl, htab', hys⟩ F' N' off' hg' hos'
    dsimp only
    ktn_open
    refine Held.of ?_
    refine LSm.sum_ints F' N' rfl (News.isList N' (.head _)) hys fun h6 tk6 t6 F6 N6 => ?_
    ktn_open
    refine Held.of ?_
    refine leaveK_ F6 N6 fun kF kN => ?_
    refine hret _ _ [] ps' hos' hg' htab' kF (nDrop1 (nDrop1 (nDrop1 kN))) Above.nil ⟨_, rfl⟩
end Mine

namespace Mine
abbrev hashT (ks : List Int) : Int := reduceHash (Builtin.Tuple.tupleHashOf (ks.map hashInt))
theorem hashT_eq {prog : Program} {w : World} (ks : List Int) : tupleKeyHash (intKind prog w) ks = hashT ks := rfl

def simSearch (keys : Array (List Int)) (t : SetTable) (k : List Int) (h : Int) : Nat → Option SetTable.Probe → Option (Option Nat)
  | 0, _ => none
  | f + 1, stand =>
    match t.probe (fun i => ((keys[i]?).map hashT).getD 0) h (stand.getD (t.probeStart h)) with
    | some (.empty j none) => some (some j)
    | some (.candidate j i next) =>
      match keys[i]? with
      | some k' => if k' = k then some none else if t.slot j = .live i then simSearch keys t k h f (some next) else none
      | none => none
    | _ => none
def simTail (keys1 : Array (List Int)) (t1 : SetTable) : Option (Array (List Int) × SetTable) :=
  if t1.tooFull then
    if SetTable.sizeAbove (SetTable.grown keys1.size) > sizeLine then none else
    match t1.relaid (keys1.map hashT) (SetTable.grown keys1.size) with
    | none => none
    | some (t2, order) => if (order.filterMap (keys1[·]?)).size = keys1.size then some (order.filterMap (keys1[·]?), t2) else none
  else some (keys1, t1)
def simAdd (st : Array (List Int) × SetTable) (k : List Int) : Option (Array (List Int) × SetTable) :=
  if st.2.gaveWay = true ∨ st.2.fits st.1.size = false ∨ st.1.size ≥ 1000 then none else
  match simSearch st.1 st.2 k (hashT k) 60 none with
  | none => none
  | some none => some st
  | some (some j) =>
    if k ∈ st.1.toList ∨ (st.2.put j).1.fits (st.1.size + 1) = false ∨ (SetTable.insertAt st.1 (st.2.put j).2 k).size ≠ st.1.size + 1 then none else
    simTail (SetTable.insertAt st.1 (st.2.put j).2 k) (st.2.put j).1

def TupIn (news : Led) (k : List Int) (a : Addr) : Prop := ∃ us n, (a, ({ cls := .type "tuple", data := .seq (List.toArray us) n } : Obj)) ∈ news ∧ IntsAre us k
theorem itemsAre_ints {prog : Program} {w : World} {us : List Value} {k : List Int} (h : IntsAre us k) : ItemsAre (intKind prog w) k us := by
  induction h with
  | nil => exact .nil
  | cons n t _ ih => exact .cons (by simp [intKind, Value.isInt]) ih
abbrev fE (adr : List Int → Addr) (k : List Int) : Int × Value := (hashT k, .ref (adr k))
abbrev setObj (keys : Array (List Int)) (adr : List Int → Addr) (ep : Nat) (t : SetTable) : Obj := { cls := .type "set", dict := none, data := .set (keys.map (fE adr)) ep t }

section
variable {prog : Program} {w : World} {A : Around} {E : Value → Shared → Prop} {s : Shared} {h₀ : Heap} {L D : Addr} {m : Loc} {rest : Led}
theorem TupIn.key {news : Led} {k : List Int} {a : Addr} {h : Heap} (x : TupIn news k a) (N : News h₀ L h news) : IsTupleKey (intKind prog w) h k a :=
  let ⟨us, n, hm, hi⟩ := x
  ⟨_, _, n, (N _ hm).1, rfl, rfl, by simpa using itemsAre_ints hi⟩

theorem ofClass_int (n : Nat) {v : Value} {k : Int} (h : Value.isInt k v = true) : ofAClassStatement n v = pure false := by
  obtain ⟨t, rfl⟩ := Value.isInt_shape h
  cases n <;> rfl
theorem ofClass_tuple {k : List Int} {a : Addr} {Q : Bool → Shared → Prop} (hk : IsTupleKey (intKind prog w) s.heap k a) (h : Q false s) : wpAny (model prog w) A (ofAClassStatement 8 (.ref a)) Q E s := by
  have hT := hk.typeIs
  obtain ⟨o, items, n, ho, hc, hd, hi⟩ := hk
  unfold ofAClassStatement
  refine wpAny_bind (wpAny_typeOf hT ?_)
  dsimp only
  simp only [beq_self_eq_true, if_true]
  refine wpAny_bind (wpAny_pure ?_)
  simp only [Bool.not_true, Bool.false_eq_true, if_false]
  refine wpAny_bind (wpAny_seqItems ho hd ?_)
  dsimp only
  refine wpAny_bind ?_
  rw [← Array.forIn_toList]
  refine wpAny_forIn_list _ (fun rest r s' => r.1 = none ∧ s' = s ∧ ∃ ks, ItemsAre (intKind prog w) ks rest) _ ?_ ?_ _ _ ⟨rfl, rfl, _, hi⟩
  · rintro v rest r s' ⟨hr, rfl, ks, hks⟩
    cases hks with
    | cons h1 h2 =>
      rw [ofClass_int _ h1]
      refine wpAny_bind (wpAny_pure ?_)
      simp only [Bool.false_eq_true, if_false]
      exact wpAny_pure ⟨rfl, rfl, _, h2⟩
  · rintro ⟨r1, r2⟩ s' ⟨hr, rfl, _⟩
    simp only at hr
    subst hr
    exact wpAny_pure h
theorem hashByValue_int (n : Nat) {v : Value} {k : Int} (h : Value.isInt k v = true) : hashByValue n v = pure true := by
  obtain ⟨t, rfl⟩ := Value.isInt_shape h
  cases n <;> rfl
theorem hashByValue_tuple {k : List Int} {a : Addr} {Q : Bool → Shared → Prop} (hk : IsTupleKey (intKind prog w) s.heap k a) (h : Q true s) : wpAny (model prog w) A (hashByValue 8 (.ref a)) Q E s := by
  have hT := hk.typeIs
  obtain ⟨o, items, n, ho, hc, hd, hi⟩ := hk
  unfold hashByValue
  refine wpAny_bind (wpAny_specialOf hT F.slot_tuple_hash.lookup ?_)
  show wpAny _ _ (seqItems? (.ref a) >>= _) Q E s
  refine wpAny_bind (wpAny_seqItems ho hd ?_)
  refine wpAny_bind ?_
  show wpAny _ _ (forIn items _ _) _ _ s
  rw [← Array.forIn_toList]
  refine wpAny_forIn_list _ (fun rest r s' => r.1 = none ∧ s' = s ∧ ∃ ks, ItemsAre (intKind prog w) ks rest) _ ?_ ?_ _ _ ⟨rfl, rfl, _, hi⟩
  · rintro v rest r s' ⟨hr, rfl, ks, hks⟩
    cases hks with
    | cons h1 h2 =>
      rw [hashByValue_int _ h1]
      refine wpAny_bind (wpAny_pure ?_)
      simp only [Bool.not_true, Bool.false_eq_true, if_false]
      exact wpAny_pure ⟨rfl, rfl, _, h2⟩
  · rintro ⟨r1, r2⟩ s' ⟨hr, rfl, _⟩
    simp only at hr
    subst hr
    exact wpAny_pure h
theorem seen_false {k : List Int} {a : Addr} {Q : Bool → Shared → Prop} (hk : IsTupleKey (intKind prog w) s.heap k a) : ∀ (l : List Value), (∀ v ∈ l, ∃ b k', v = .ref b ∧ IsTupleKey (intKind prog w) s.heap k' b) → Q false s → wpAny (model prog w) A (searchCouldBeSeen (.ref a) l) Q E s := by
  intro l hl h
  unfold searchCouldBeSeen
  refine wpAny_bind ?_
  refine wpAny_forIn_list _ (fun rest r s' => r.1 = none ∧ s' = s ∧ ∀ v ∈ rest, ∃ b k', v = .ref b ∧ IsTupleKey (intKind prog w) s.heap k' b) _ ?_ ?_ _ _ ⟨rfl, rfl, hl⟩
  · rintro v rest r s' ⟨hr, rfl, hall⟩
    obtain ⟨b, k', rfl, hb⟩ := hall _ (.head _)
    have ht : ∀ v ∈ rest, ∃ b k', v = .ref b ∧ IsTupleKey (intKind prog w) s'.heap k' b := fun v hv => hall v (.tail _ hv)
    dsimp only
    split
    · exact wpAny_pure ⟨rfl, rfl, ht⟩
    · refine wpAny_bind (wpAny_eqIsQuiet_tuple hk ?_)
      simp only [Bool.not_true, Bool.false_eq_true, if_false]
      refine wpAny_bind (wpAny_eqIsQuiet_tuple hb ?_)
      simp only [Bool.not_true, Bool.false_eq_true, if_false]
      refine wpAny_bind (ofClass_tuple hk ?_)
      simp only [Bool.false_eq_true, if_false]
      refine wpAny_bind (ofClass_tuple hb ?_)
      simp only [Bool.false_eq_true, if_false]
      exact wpAny_pure ⟨rfl, rfl, ht⟩
  · rintro ⟨r1, r2⟩ s' ⟨hr, rfl, _⟩
    simp only at hr
    subst hr
    exact wpAny_pure h

theorem search_wp {keys : Array (List Int)} {adr : List Int → Addr} {ep : Nat} {t : SetTable} {k : List Int} {a : Addr} {Q : SetFound → Shared → Prop} (hu : A.units < cLine)
    (ho : s.heap.get? D = some (setObj keys adr ep t)) (hf : t.fits keys.size = true) (hgw : t.gaveWay = false) (hk : IsTupleKey (intKind prog w) s.heap k a) (hks : ∀ k' ∈ keys.toList, IsTupleKey (intKind prog w) s.heap k' (adr k')) :
    ∀ (f n : Nat) (st : Option SetTable.Probe) (r : Option Nat), f ≤ n → simSearch keys t k (hashT k) f st = some r → (match r with | none => Q (.there none) s | some j => Q (.free j false) s) →
      wpAny (model prog w) A (setSearchFrom D (.ref a) (hashT k) true n st) Q E s := by
  intro f
  induction f with
  | zero => intro n st r _ h; exact absurd h (by simp [simSearch])
  | succ f ih =>
    intro n st r hn hsim hQ
    obtain ⟨n, rfl⟩ : ∃ n', n = n' + 1 := ⟨n - 1, by omega⟩
    have hsz : (keys.map (fE adr)).size = keys.size := Array.size_map
    unfold setSearchFrom
    refine wpAny_bind (wpAny_setState_of ho rfl (by rw [hsz]; exact hf) ?_)
    dsimp only
    rw [hgw]
    simp only [Bool.false_eq_true, if_false]
    unfold simSearch at hsim
    have hfn : (fun i : Nat => (((keys.map (fE adr))[i]?).map (fun e : Int × Value => e.1)).getD 0) = fun i => ((keys[i]?).map hashT).getD 0 := by
      funext i
      rw [Array.getElem?_map]
      cases keys[i]? <;> rfl
    generalize hpr : t.probe (fun i => ((keys[i]?).map hashT).getD 0) (hashT k) (st.getD (t.probeStart (hashT k))) = met at hsim
    have e : ∀ g : Nat → Int, g = (fun i : Nat => (((keys.map (fE adr))[i]?).map (fun e : Int × Value => e.1)).getD 0) → t.probe g (hashT k) (st.getD (t.probeStart (hashT k))) = met := fun g hg => by rw [hg, hfn]; exact hpr
    rw [e]
    rotate_left 1
    · rfl
    match met, hsim with
    | some (.empty j none), hsim =>
      cases hsim
      dsimp only
      exact wpAny_pure hQ
    | some (.candidate j i next), hsim =>
      dsimp only at hsim ⊢
      cases hki : keys[i]? with
      | none => rw [hki] at hsim; exact absurd hsim (by simp)
      | some k' =>
        rw [hki] at hsim
        dsimp only at hsim
        have hmem : k' ∈ keys.toList := by
          rw [← Array.getElem?_toList] at hki
          exact List.mem_of_getElem? hki
        have hk' := hks k' hmem
        have hes : (keys.map (fE adr))[i]? = some (fE adr k') := by rw [Array.getElem?_map, hki]; rfl
        cases hled : t.led
        · simp only [Bool.not_false, if_true]
          refine wpAny_bind (seen_false hk _ ?_ ?_)
          · intro v hv
            simp only [List.mem_map, Array.toList_filter, List.mem_filter, Array.toList_map] at hv
            obtain ⟨e, ⟨⟨x, hx, rfl⟩, _⟩, rfl⟩ := hv
            exact ⟨adr x, x, rfl, hks x hx⟩
          simp only [Bool.false_eq_true, if_false]
          rw [hes]
          dsimp only
          refine wpAny_bind (wpAny_holding (wpAny_eqBool_tuple hu hk' hk ?_))
          refine wpAny_bind (wpAny_setState_of ho rfl (by rw [hsz]; exact hf) ?_)
          dsimp only
          by_cases hkk : k' = k
          · rw [if_pos hkk] at hsim
            cases hsim
            rw [decide_eq_true hkk]
            exact wpAny_pure hQ
          · rw [if_neg hkk] at hsim
            rw [decide_eq_false hkk]
            simp only [Bool.and_false, Bool.false_eq_true, if_false]
            by_cases hsl : t.slot j = .live i
            · rw [if_pos hsl] at hsim
              have hsm : t.sameMemory t.moves t.mask = some true := by simp [SetTable.sameMemory]
              rw [hsm]
              dsimp only
              simp only [if_true, hsl]
              rw [hes]
              dsimp only
              refine wpAny_bind (wpAny_isSame_ref_self (wpAny_bind (wpAny_pure ?_)))
              simp only [if_true]
              exact ih n (some next) r (by omega) hsim hQ
            · rw [if_neg hsl] at hsim; exact absurd hsim (by simp)
        · simp only [Bool.not_true, Bool.false_eq_true, if_false]
          rw [hes]
          dsimp only
          refine wpAny_bind (wpAny_holding (wpAny_eqBool_tuple hu hk' hk ?_))
          refine wpAny_bind (wpAny_setState_of ho rfl (by rw [hsz]; exact hf) ?_)
          dsimp only
          by_cases hkk : k' = k
          · rw [if_pos hkk] at hsim
            cases hsim
            rw [decide_eq_true hkk]
            exact wpAny_pure hQ
          · rw [if_neg hkk] at hsim
            rw [decide_eq_false hkk]
            simp only [Bool.and_false, Bool.false_eq_true, if_false]
            by_cases hsl : t.slot j = .live i
            · rw [if_pos hsl] at hsim
              have hsm : t.sameMemory t.moves t.mask = some true := by simp [SetTable.sameMemory]
              rw [hsm]
              dsimp only
              simp only [if_true, hsl]
              rw [hes]
              dsimp only
              refine wpAny_bind (wpAny_isSame_ref_self (wpAny_bind (wpAny_pure ?_)))
              simp only [if_true]
              exact ih n (some next) r (by omega) hsim hQ
            · rw [if_neg hsl] at hsim; exact absurd hsim (by simp)
    | none, hsim => cases hsim
    | some (.empty j (some d)), hsim => cases hsim

theorem map_upd {keys : Array (List Int)} {adr : List Int → Addr} {k : List Int} {a : Addr} (h : k ∉ keys.toList) : keys.map (fE fun x => if x = k then a else adr x) = keys.map (fE adr) := by
  apply Array.map_congr_left
  intro x hx
  have : x ≠ k := fun e => h (e ▸ by simpa using hx)
  simp [fE, this]
theorem map_insertAt {keys : Array (List Int)} {f : List Int → Int × Value} {p : Nat} {k : List Int} : (SetTable.insertAt keys p k).map f = SetTable.insertAt (keys.map f) p (f k) := by
  unfold SetTable.insertAt
  simp
theorem map_order {keys : Array (List Int)} {f : List Int → Int × Value} {order : Array Nat} : (order.filterMap (keys[·]?)).map f = order.filterMap ((keys.map f)[·]?) := by
  rw [Array.map_filterMap]
  congr 1
  funext i
  rw [Array.getElem?_map]

theorem store_get {h : Heap} {keys keys1 : Array (List Int)} {adr adr1 : List Int → Addr} {ep : Nat} {t t1 : SetTable} (ho : h.get? D = some (setObj keys adr ep t)) :
    (h.update D (Obj.putSet (keys1.map (fE adr1)) t1)).get? D = some (setObj keys1 adr1 (ep + 1) t1) := by
  have := Heap.get?_update_self (Obj.putSet (keys1.map (fE adr1)) t1) ho (by rfl)
  exact this

theorem setAddT {keys keys' : Array (List Int)} {adr : List Int → Addr} {ep : Nat} {t t' : SetTable} {k : List Int} {a : Addr} {Q : Value → Shared → Prop} (hu : A.units + 8 < cLine)
    (hsim : simAdd (keys, t) k = some (keys', t')) (F : Fr h₀ L s.heap m) (N : News h₀ L s.heap ((D, setObj keys adr ep t) :: rest)) (hoff : ∀ p ∈ rest, p.1 ≠ D)
    (hk : TupIn rest k a) (hks : ∀ k' ∈ keys.toList, TupIn rest k' (adr k'))
    (h : ∀ h' tk' adr' ep', Heap.SameBut D s.heap h' → Fr h₀ L h' m → News h₀ L h' ((D, setObj keys' adr' ep' t') :: rest) → (∀ k' ∈ keys'.toList, TupIn rest k' (adr' k')) → Q .none { s with heap := h', toks := tk' }) :
    wpAny (model prog w) A (call (.builtin "set.add") [.ref D, .ref a]) Q E s := by
  have hD := N _ (.head _)
  have hT : s.TypeIs (.ref D) "set" := ⟨_, hD.1, rfl⟩
  refine wpAny_call_entry PySem.F.slot_set_add hT PySem.F.entry_set_add ?_ (PySem.F.args_set_add_2 _ _)
  unfold Builtin.«set.add» Builtin.Frozenset.oneOther
  simp only [List.isEmpty_nil, bind_assoc]
  unfold Builtin.Frozenset.addrOf setAdd
  refine wpAny_bind (wpAny_pure ?_)
  try dsimp only
  refine wpAny_bind (wpAny_pure ?_)
  try dsimp only
  refine wpAny_bind ?_
  refine wpAny_holding ?_
  refine wpAny_bind (wpAny_pyHash_tuple (knd := intKind prog w) (ks := k) ?_ (hk.key (nDrop1 N)) ?_)
  · simp only [units_in1]; omega
  rw [hashT_eq]
  have hin1 : A.in1.units < cLine := by simp only [units_in1]; omega
  unfold setAddHashed setAddHashedIn
  unfold simAdd at hsim
  dsimp only at hsim
  split at hsim
  · cases hsim
  rename_i hcond
  obtain ⟨hgw, hf, hlt⟩ : t.gaveWay = false ∧ t.fits keys.size = true ∧ keys.size < 1000 := by
    refine ⟨?_, ?_, ?_⟩
    · cases e : t.gaveWay with
      | false => rfl
      | true => exact absurd (.inl e) hcond
    · cases e : t.fits keys.size with
      | true => rfl
      | false => exact absurd (.inr (.inl e)) hcond
    · exact Nat.lt_of_not_le fun e => hcond (.inr (.inr e))
  have hsz : (keys.map (fE adr)).size = keys.size := Array.size_map
  have hks' : ∀ k' ∈ keys.toList, IsTupleKey (intKind prog w) s.heap k' (adr k') := fun k' hk' => (hks k' hk').key (nDrop1 N)
  refine wpAny_holding (wpAny_bind (wpAny_setState_of hD.1 rfl (by rw [hsz]; exact hf) ?_))
  dsimp only
  have hbs : byScan (.ref a) (keys.map (fE adr)) = false := rfl
  rw [hbs]
  simp only [Bool.false_eq_true, if_false]
  refine wpAny_bind ?_
  unfold setSearch
  cases hr : simSearch keys t k (hashT k) 60 none with
  | none => rw [hr] at hsim; cases hsim
  | some r =>
    rw [hr] at hsim
    refine search_wp (s := { s with toks := s.toks + (k.length + 1) }) (keys := keys) (adr := adr) (ep := ep) (t := t) (k := k) hin1 hD.1 hf hgw (hk.key (nDrop1 N)) hks' 60 100000 none r (by omega) hr ?_
    cases r with
    | none =>
      cases hsim
      dsimp only
      refine wpAny_pure ?_
      show wpAny _ _ (ret Value.none) _ _ _
      exact wpAny_pure ⟨_, rfl, h s.heap _ adr ep (Heap.SameBut.refl D s.heap) F N hks⟩
    | some j =>
      dsimp only at hsim ⊢
      split at hsim
      · cases hsim
      rename_i hcond2
      generalize hput : t.put j = tp at hsim hcond2 ⊢
      obtain ⟨t1, p1⟩ := tp
      dsimp only at hsim hcond2 ⊢
      generalize hkeys1 : SetTable.insertAt keys p1 k = keys1 at hsim hcond2
      have hnk : k ∉ keys.toList := fun e => hcond2 (.inl e)
      have hf1 : t1.fits (keys.size + 1) = true := by
        cases e : t1.fits (keys.size + 1) with
        | true => rfl
        | false => exact absurd (.inr (.inl e)) hcond2
      have hsz1 : keys1.size = keys.size + 1 := by
        refine Classical.byContradiction fun e => hcond2 (.inr (.inr e))
      have hes1 : SetTable.insertAt (keys.map (fE adr)) p1 (hashT k, Value.ref a) = keys1.map (fE fun x => if x = k then a else adr x) := by
        rw [← hkeys1, map_insertAt, map_upd hnk]; simp [fE]
      refine wpAny_bind (wpAny_setState_of hD.1 rfl (by rw [hsz]; exact hf) ?_)
      dsimp only
      rw [hput]
      dsimp only
      have hst : wpAny (model prog w) A.in1 (do
            storeSet D (SetTable.insertAt (keys.map (fE adr)) p1 (hashT k, Value.ref a)) t1
            if (!false && t1.tooFull) = true then do
              setRelay D (SetTable.grown ((keys.map (fE adr)).size + 1))
              pure true
            else pure true) (fun _ s' => wpAny (model prog w) A.in1 (ret Value.none) (fun fin s' => ∃ v, fin = Fin.done (Flow.ret v) ∧ Q v s') E s') E { s with toks := s.toks + (k.length + 1) } := by
        have hsm1 : (keys1.map (fE fun x => if x = k then a else adr x)).size = keys1.size := Array.size_map
        have hks1 : ∀ k' ∈ keys1.toList, TupIn rest k' (if k' = k then a else adr k') := by
          intro k' hk'
          by_cases e : k' = k
          · rw [if_pos e, e]; exact hk
          · rw [if_neg e]
            refine hks k' ?_
            rw [← hkeys1] at hk'
            unfold SetTable.insertAt at hk'
            simp only [Array.toList_append, Array.toList_push, Array.toList_extract, List.mem_append, List.mem_singleton] at hk'
            rcases hk' with (hk' | hk') | hk'
            · exact List.mem_of_mem_drop (List.mem_of_mem_take hk')
            · exact absurd hk' e
            · exact List.mem_of_mem_drop (List.mem_of_mem_take hk')
        rw [hes1]
        have e4 : 10000 ≤ sizeLine := by decide
        refine wpAny_bind (wpAny_storeSet_of hD.1 rfl ?_ (by rw [hsm1]; omega))
        have g1 : (s.heap.update D (Obj.putSet (keys1.map (fE fun x => if x = k then a else adr x)) t1)).get? D = some (setObj keys1 (fun x => if x = k then a else adr x) (ep + 1) t1) := store_get hD.1
        have sb1 := Heap.SameBut.update s.heap D (Obj.putSet (keys1.map (fE fun x => if x = k then a else adr x)) t1)
        generalize s.heap.update D (Obj.putSet (keys1.map (fE fun x => if x = k then a else adr x)) t1) = H1 at g1 sb1 ⊢
        have F1 : Fr h₀ L H1 m := F.change sb1 hD.2.1 hD.2.2
        have N1 : ∀ H2 o2, Heap.SameBut D s.heap H2 → H2.get? D = some o2 → News h₀ L H2 ((D, o2) :: rest) := fun H2 o2 sb g q hq => by
          rcases List.mem_cons.mp hq with rfl | hq
          · exact ⟨g, hD.2⟩
          · have n := N q (.tail _ hq)
            exact ⟨sb.extBut _ _ (hoff q hq) n.1, n.2⟩
        unfold simTail at hsim
        simp only [Bool.not_false, Bool.true_and]
        rw [hsz]
        split
        · rename_i htf
          rw [if_pos htf] at hsim
          split at hsim
          · cases hsim
          rename_i hszl
          refine wpAny_bind ?_
          unfold setRelay
          refine wpAny_bind (wpAny_setState_of g1 rfl (by rw [hsm1, hsz1]; exact hf1) ?_)
          dsimp only
          rw [← hsz1]
          rw [if_neg hszl]
          have hmh : (keys1.map (fE fun x => if x = k then a else adr x)).map (·.1) = keys1.map hashT := by rw [Array.map_map]; rfl
          rw [hmh]
          generalize t1.relaid (keys1.map hashT) (SetTable.grown keys1.size) = rl at hsim ⊢
          match rl, hsim with
          | none, hsim => cases hsim
          | some (t2, order), hsim =>
            dsimp only at hsim
            split at hsim
            · rename_i hcs
              have hmo := map_order (keys := keys1) (f := fE fun x => if x = k then a else adr x) (order := order)
              have hsz2 : (order.filterMap ((keys1.map (fE fun x => if x = k then a else adr x))[·]?)).size = (keys1.map (fE fun x => if x = k then a else adr x)).size := by
                rw [← hmo, Array.size_map, Array.size_map]; exact hcs
              refine wpAny_bind ?_
              show wpAny _ _ (if ((order.filterMap ((keys1.map (fE fun x => if x = k then a else adr x))[·]?)).size != (keys1.map (fE fun x => if x = k then a else adr x)).size) = true then _ else _) _ _ _
              rw [hsz2, if_neg (by simp)]
              refine wpAny_pure ?_
              dsimp only
              rw [← hmo]
              cases hsim
              refine wpAny_storeSet_of g1 rfl ?_ (by rw [Array.size_map, hcs]; omega)
              refine wpAny_pure ?_
              refine wpAny_pure ⟨_, rfl, h _ _ _ (ep + 1 + 1) (sb1.trans (Heap.SameBut.update H1 D _)) (F1.change (Heap.SameBut.update H1 D _) hD.2.1 hD.2.2) (N1 _ _ (sb1.trans (Heap.SameBut.update H1 D _)) (store_get g1)) ?_⟩
              intro k' hk'
              refine hks1 k' ?_
              have : k' ∈ order.filterMap (keys1[·]?) := by simpa using hk'
              rw [Array.mem_filterMap] at this
              obtain ⟨i, _, hi⟩ := this
              rw [← Array.getElem?_toList] at hi
              exact List.mem_of_getElem? hi
            · cases hsim
        · rename_i htf
          rw [if_neg htf] at hsim
          cases hsim
          refine wpAny_pure ?_
          exact wpAny_pure ⟨_, rfl, h H1 _ _ _ sb1 F1 (N1 _ _ sb1 g1) hks1⟩
      split
      · refine wpAny_bind (hashByValue_tuple (hk.key (nDrop1 N)) ?_)
        simp only [if_true]
        exact hst
      · refine wpAny_bind (wpAny_pure ?_)
        simp only [if_true]
        exact hst
end
end Mine

namespace Mine
abbrev St := Option (Array (List Int) × SetTable)
def addL (kinds : Nat) (one : List Int) (twos : List (List Int)) (st : St) : St := twos.foldl (fun st two => st.bind fun s => simAdd s (prodL one two kinds)) st
def onesL (kinds : Nat) (ones twos : List (List Int)) (st : St) : St := ones.foldl (fun st one => addL kinds one twos st) st
def partsL (kinds degree n : Nat) (st : St) : St := (List.range n).foldl (fun st i => onesL kinds (monicL kinds (i + 1)) (monicL kinds (degree - (i + 1))) st) st
def st0 (led : Bool) : St := some (#[], .fresh 0 0 led)
def prodOk (kinds degree : Nat) (led : Bool) : Bool :=
  match partsL kinds degree (degree / 2) (st0 led) with
  | none => false
  | some s => s.2.fits s.1.size && decide (s.1.size < 1000) && decide (lawSum kinds degree = degree * ((kinds : Int) ^ degree - s.1.size))
theorem prodOk2n1f : prodOk 2 1 false = true := by decide +kernel
theorem prodOk2n1t : prodOk 2 1 true = true := by decide +kernel
theorem prodOk2n2f : prodOk 2 2 false = true := by decide +kernel
theorem prodOk2n2t : prodOk 2 2 true = true := by decide +kernel
theorem prodOk2n3f : prodOk 2 3 false = true := by decide +kernel
theorem prodOk2n3t : prodOk 2 3 true = true := by decide +kernel
theorem prodOk2n4f : prodOk 2 4 false = true := by decide +kernel
theorem prodOk2n4t : prodOk 2 4 true = true := by decide +kernel
theorem prodOk2n5f : prodOk 2 5 false = true := by decide +kernel
theorem prodOk2n5t : prodOk 2 5 true = true := by decide +kernel
theorem prodOk_all2 : ∀ d : Fin 5, ∀ led : Bool, prodOk 2 (d.val + 1) led = true
  | ⟨0, _⟩, false => prodOk2n1f
  | ⟨0, _⟩, true => prodOk2n1t
  | ⟨1, _⟩, false => prodOk2n2f
  | ⟨1, _⟩, true => prodOk2n2t
  | ⟨2, _⟩, false => prodOk2n3f
  | ⟨2, _⟩, true => prodOk2n3t
  | ⟨3, _⟩, false => prodOk2n4f
  | ⟨3, _⟩, true => prodOk2n4t
  | ⟨4, _⟩, false => prodOk2n5f
  | ⟨4, _⟩, true => prodOk2n5t
  | ⟨n + 5, h⟩, _ => absurd h (by omega)
theorem prodOk3n1f : prodOk 3 1 false = true := by decide +kernel
theorem prodOk3n1t : prodOk 3 1 true = true := by decide +kernel
theorem prodOk3n2f : prodOk 3 2 false = true := by decide +kernel
theorem prodOk3n2t : prodOk 3 2 true = true := by decide +kernel
theorem prodOk3n3f : prodOk 3 3 false = true := by decide +kernel
theorem prodOk3n3t : prodOk 3 3 true = true := by decide +kernel
theorem prodOk_all3 : ∀ d : Fin 3, ∀ led : Bool, prodOk 3 (d.val + 1) led = true
  | ⟨0, _⟩, false => prodOk3n1f
  | ⟨0, _⟩, true => prodOk3n1t
  | ⟨1, _⟩, false => prodOk3n2f
  | ⟨1, _⟩, true => prodOk3n2t
  | ⟨2, _⟩, false => prodOk3n3f
  | ⟨2, _⟩, true => prodOk3n3t
  | ⟨n + 3, h⟩, _ => absurd h (by omega)
end Mine

namespace Mine
def resOk (n : Nat) : Bool := (List.range n).all fun r => decide ((lawSum (r : Int) n) % (n : Int) = 0)
def resTo (a n : Nat) : Bool := (List.range n).all fun i => resOk (a + i + 1)
theorem resTo0 : resTo 0 20 = true := by decide +kernel
theorem resTo20 : resTo 20 12 = true := by decide +kernel
theorem resTo32 : resTo 32 10 = true := by decide +kernel
theorem resTo42 : resTo 42 6 = true := by decide +kernel
theorem resTo48 : resTo 48 6 = true := by decide +kernel
theorem resTo54 : resTo 54 6 = true := by decide +kernel
theorem resTo_get {a n i : Nat} (h : resTo a n = true) (hi : i < n) : resOk (a + i + 1) = true := List.all_eq_true.mp h i (List.mem_range.mpr hi)
theorem resOk_all (n : Fin 60) : resOk (n.val + 1) = true := by
  obtain ⟨n, hn⟩ := n
  show resOk (n + 1) = true
  by_cases h0 : 0 ≤ n ∧ n < 20
  · have := resTo_get (i := n - 0) resTo0 (by omega)
    rwa [show 0 + (n - 0) + 1 = n + 1 by omega] at this
  by_cases h20 : 20 ≤ n ∧ n < 32
  · have := resTo_get (i := n - 20) resTo20 (by omega)
    rwa [show 20 + (n - 20) + 1 = n + 1 by omega] at this
  by_cases h32 : 32 ≤ n ∧ n < 42
  · have := resTo_get (i := n - 32) resTo32 (by omega)
    rwa [show 32 + (n - 32) + 1 = n + 1 by omega] at this
  by_cases h42 : 42 ≤ n ∧ n < 48
  · have := resTo_get (i := n - 42) resTo42 (by omega)
    rwa [show 42 + (n - 42) + 1 = n + 1 by omega] at this
  by_cases h48 : 48 ≤ n ∧ n < 54
  · have := resTo_get (i := n - 48) resTo48 (by omega)
    rwa [show 48 + (n - 48) + 1 = n + 1 by omega] at this
  by_cases h54 : 54 ≤ n ∧ n < 60
  · have := resTo_get (i := n - 54) resTo54 (by omega)
    rwa [show 54 + (n - 54) + 1 = n + 1 by omega] at this
  omega
theorem sum_congr {n : Int} {x y : Int} (h : x % n = y % n) (len i : Nat) : (sumTo x len i).sum % n = (sumTo y len i).sum % n := by
  induction i with
  | zero => rfl
  | succ i ih =>
    unfold sumTo
    split
    · rw [List.sum_append, List.sum_append, List.sum_singleton, List.sum_singleton, Int.add_emod, ih]
      have e : sumAt x len (i + 1) % n = sumAt y len (i + 1) % n := by
        unfold sumAt
        have hp : ∀ k : Nat, x ^ k % n = y ^ k % n := fun k => by
          induction k with
          | zero => rw [Int.pow_zero, Int.pow_zero]
          | succ k ihk => rw [Int.pow_succ, Int.pow_succ, Int.mul_emod, ihk, h, ← Int.mul_emod]
        rw [Int.mul_emod, hp, ← Int.mul_emod]
      rw [e, ← Int.add_emod]
    · exact ih
theorem last_law {n : Nat} (h1 : 1 ≤ n) (h : n ≤ 60) (x : Int) : lawSum x n % (n : Int) = 0 := by
  have hr := resOk_all ⟨n - 1, by omega⟩
  rw [show (⟨n - 1, by omega⟩ : Fin 60).val + 1 = n by show n - 1 + 1 = n; omega] at hr
  have hp : (n : Int) ≠ 0 := by omega
  have h0 := Int.emod_nonneg x hp
  have h2 := Int.emod_lt_of_pos x (show (0 : Int) < n by omega)
  have hx : ((x % (n : Int)).toNat : Int) = x % (n : Int) := Int.toNat_of_nonneg h0
  have := List.all_eq_true.mp hr (x % (n : Int)).toNat (List.mem_range.mpr (by omega))
  rw [decide_eq_true_eq, hx] at this
  unfold lawSum at this ⊢
  rw [← sum_congr (x := x % (n : Int)) (y := x) (Int.emod_emod_of_dvd x (Int.dvd_refl _))]
  exact this
end Mine

namespace Mine
/-- what stood stands on, but for the tables that grew -/
theorem oldGhost {h₁ h' : Heap} {tabs : List (Addr × Addr)} (hT : TabsAt tabs h₁) (hk : ∀ b o, (ghostOf h₁ tabs).get? b = some o → h'.get? b = some o) (hgr : GrownAll tabs h') : OldK h₁ h' := by
  constructor
  all_goals intro b o e
  all_goals by_cases hb : b ∈ tabs.map (·.2)
  · obtain ⟨q, hq, rfl⟩ := List.mem_map.mp hb
    obtain ⟨ps, hP⟩ := hgr.get q hq
    have e2 := (hT q hq).2
    obtain rfl : o = tabObj #[] := Option.some.inj (e.symm.trans e2)
    exact .inr (.inl ⟨((hT q hq).1.tab e2).isCodeTable, rfl, #[], ps, rfl, by rw [Array.empty_append]; exact hP⟩)
  · exact .inl (hk b o (ghost_ne e hb))
  · obtain ⟨q, hq, rfl⟩ := List.mem_map.mp hb
    obtain ⟨ps, hP⟩ := hgr.get q hq
    exact ⟨_, hP⟩
  · exact ⟨o, hk b o (ghost_ne e hb)⟩
/-- a walk that answers True meets the law's claim, whatever generators it left -/
theorem kn_postG {M : Model} {A : Around} {cd : Code} {s s₁ : Shared} {cw : ClaimW} {cl : Str → Option Addr} {mean : ExcName → Option Value} {args : List WData} {tabs : List (Addr × Addr)} (hT : TabsAt tabs s₁.heap) (hr : ∀ a x, cw.raises a x = false) (hpost : cw.post args (.bool true) args = true)
    (h : codeAny M A cd (fun r s' => r = .ok (.ret (.bool true)) ∧ (∀ b o, (ghostOf s₁.heap tabs).get? b = some o → s'.heap.get? b = some o) ∧ GrownAll tabs s'.heap ∧ s'.os = s₁.os ∧ AllBare s'.gens) s) : codeAny M A cd (GoodWG cw cl mean args s₁) s :=
  codeAny_mono h fun r s' ⟨hr', hk, hgr, hos, hg⟩ => ⟨.inl ⟨_, .bool true, [], hr', hr _, .bool _, hpost, fun _ => ⟨.nil, fun _ h => nomatch h⟩⟩, oldGhost hT hk hgr, hos, hg⟩
end Mine

namespace Mine
local macro_rules | `(tactic| k_mem) => `(tactic| assumption)
local macro_rules | `(tactic| walk_at "exec For Name Call cons nil") => `(tactic| refine Held.mk ?_)
local macro_rules | `(tactic| walk_at "exec For Name Name cons nil") => `(tactic| refine Held.mk ?_)
local macro_rules | `(tactic| walk_at "exec Assign cons ListComp") => `(tactic| refine Held.mk ?_)
local macro_rules | `(tactic| walk_at "eval ListComp") => `(tactic| refine Held.mk ?_)
local macro_rules | `(tactic| walk_at "pyIter ref") => `(tactic| refine Held.mk ?_)
local macro_rules | `(tactic| walk_at "eval IfExp") => `(tactic| refine Held.mk ?_)
inductive StopE : Prop
  | mk : StopE
local macro_rules | `(tactic| walk_at "execs cons") => `(tactic| ((have hst := (by assumption : StopE)); refine Held.mk ?_))
local macro_rules | `(tactic| walk_at "call ref") => `(tactic| refine Held.mk ?_)
local macro_rules | `(tactic| walk_at "call builtin:set.add") => `(tactic| refine Held.mk ?_)
local macro_rules | `(tactic| ktn_open) => `(tactic| repeat' (first | (k_unfold; (try dsimp only)) | walk1 | (dsimp only; walk1)))
theorem frSee {g h : Heap} {L : Addr} {m : Loc} {x : Str} {v : Value} (F : Fr g L h m) (hx : m x = some v) : Fr g L h (fun y => if y = x then some v else m y) := by
  have : (fun y => if y = x then some v else m y) = m := by
    funext y; split
    · rename_i e; rw [e, hx]
    · rfl
  rw [this]; exact F
abbrev LawDef (d : DefRec) : Prop := (recsOf hd.view_39).find? (fun e => e.name == PySem.Str.ofString "law") = some d

theorem natMod (x k : Int) (hk : 0 < k) : ∃ n : Nat, 1 + x.fmod k = (n : Int) ∧ 1 ≤ n ∧ (n : Int) ≤ k := by
  rw [Int.fmod_eq_emod_of_nonneg _ (by omega)]
  have h1 := Int.emod_nonneg x (show k ≠ 0 by omega)
  have h2 := Int.emod_lt_of_pos x hk
  exact ⟨(1 + x % k).toNat, by omega, by omega, by omega⟩
theorem law1 {prog : Program} {w : World} {p : Program} {loose : List Str} {mean : ExcName → Option Value} {mg mb : Str → Option Value} {d : DefRec} (hd9 : LawDef d)
   (script fa : Addr) (cd : Value) (vs : List Value) (ns : List Int) (g : Heap) (L : Addr) (s : Shared) (oL oK oS : Obj) (qk : Flow → Shared → Prop)
   (T : Top p loose mean mg mb g) (X : (hd.heap_39 w.params).In g) (B : Below callerA g [] g) (F1 : Fr g L s.heap (fun _ => none)) (N1 : News g L s.heap ((L + 3, oL) :: (L + 2, oK) :: (L + 1, oS) :: (16, tabObj #[]) :: []))
   (l16 : (16 : Nat) < L) (hoL : oL.data = .cell none) (hoK : oK.data = .cell none) (hoS : oS.data = .cell (some (.ref script))) (hLs : g.IsList script vs.toArray) (hI : IntsAre vs ns) (hlen : ns.length ≤ 63) (hg : AllBare s.gens)
   (e : PySem.Challenge.rw_aw5004_01 = PySem.Challenge.rw_aw5004_01 ∧ hd.heap_39 = hd.heap_39)
   (next : ∀ (D : Addr) (ys : List Value) (ds : List Int) (c kn ln dg mo : Nat) (tk tl td tm : Tok) (s' : Shared) (m : Loc) (oL' oK' : Obj), ds.length = 5 → IntsAre ys ds → (kn = 2 ∧ ln ≤ 7 ∧ dg ≤ 5 ∧ mo = 8 ∨ kn = 3 ∧ ln ≤ 4 ∧ dg ≤ 3 ∧ mo = 6) → 1 ≤ ln → 1 ≤ dg →
     Fr g L s'.heap m → m (PySem.Str.ofString "draw") = some (.ref D) → m (PySem.Str.ofString "degree") = some (.int (dg : Int) td) → m (PySem.Str.ofString "most") = some (.int (mo : Int) tm) →
     News g L s'.heap ((D, W.listOf (List.toArray ys) c) :: (L + 3, oL') :: (L + 2, oK') :: (L + 1, oS) :: (16, tabObj #[]) :: []) → 16 ≠ D → oL'.data = .cell (some (.int (ln : Int) tl)) → oK'.data = .cell (some (.int (kn : Int) tk)) → AllBare s'.gens → s'.os = s.os →
     wpAny (model prog w) (callerA.deeper (envOfC d.name d.scope L fa cd)) (execs (d.body.drop 3) (envOfC d.name d.scope L fa cd)) qk NR s') :
   wpAny (model prog w) (callerA.deeper (envOfC d.name d.scope L fa cd)) (execs d.body (envOfC d.name d.scope L fa cd)) qk NR s := by
  cases hd9
  dsimp only
  revert e; k_fill; intro ee
  ktn_open
  refine Held.of ?_
  generalize hm0 : (fun _ : Str => (none : Option Value)) = m0 at F1
  have hvs : vs.length = ns.length := hI.length
  refine compA (h₀ := g) (m := m0) (cl := [("script", L + 1)]) (fun D ys rest => 5 ≤ 5 ∧ rest = (L + 3, oL) :: (L + 2, oK) :: (L + 1, oS) :: (16, tabObj #[]) :: [] ∧ ∃ ds, IntsAre ys ds ∧ ds.length = 5) rfl rfl (by decide) rfl (by decide) rfl rfl ?_ ?_
  · subst hm0
    ktn_open
    rename Fr _ _ _ _ => F2
    rename News _ _ _ _ => N2
    rename IsRange _ _ _ _ _ _ _ _ => R2
    refine Held.of ?_
    refine blk1Range (h₀ := g) (L := L) (a := 0) (n := 5) _ rfl (fun D i ys rest => i ≤ 5 ∧ rest = (L + 3, oL) :: (L + 2, oK) :: (L + 1, oS) :: (16, tabObj #[]) :: [] ∧ ∃ ds, IntsAre ys ds ∧ ds.length = i) ⟨_, _, _, _, _, _, rfl, R2, rsmall _ _ (by omega) (by omega) (by omega) (by omega), rsize 5, F2, N2, hg, rfl, fun _ _ => ⟨Nat.zero_le _, rfl, [], .nil, rfl⟩⟩ rfl rfl ?_ ?_
    · rintro D i ys rest ⟨h1, _, ds, h, h2⟩
      have e1 := h.length
      have e4 : 10000 ≤ sizeLine := by decide
      omega
    · rintro i t₁ ys rest I oI oC mC C D s₁ hi ⟨_, rfl, ds, hys, hdl⟩ hos₁ hg₁ hoC hmC F3 N3 hap
      clear F2 N2 R2
      rw [Int.zero_add] at hmC
      refine wpAny_tests_nil ?_
      simp only [if_true]
      ktn_open
      refine Held.of ?_
      refine wpAny_IfExp ?_
      ktn_open
      · exact ⟨hos₁, hg₁, _, F3, N3, hap, trivial, by omega, rfl, ds ++ [_], IntsAre.append hys (.cons _ _ .nil), by rw [List.length_append, hdl]; rfl⟩
      · exact ⟨hos₁, hg₁, _, F3, N3, hap, trivial, by omega, rfl, ds ++ [_], IntsAre.append hys (.cons _ _ .nil), by rw [List.length_append, hdl]; rfl⟩
  · rintro ys rest D s' ⟨_, rfl, ds, hds, hdl⟩ F' N' off hg' hos'
    dsimp only
    subst hm0
    replace N' : News g L s'.heap ((D, W.listOf (List.toArray ys) ys.length) :: (L + 3, oL) :: (L + 2, oK) :: (L + 1, oS) :: (16, tabObj #[]) :: []) := N'
    replace F' : Fr g L s'.heap (fun z => if z = PySem.Str.ofString "draw" then some (.ref D) else none) := F'
    have off1 : L + 3 ≠ D := off (L + 3, oL) (by simp)
    have off2 : L + 2 ≠ D := off (L + 2, oK) (by simp)
    have off3 : L + 1 ≠ D := off (L + 1, oS) (by simp)
    have off4 : (16 : Nat) ≠ D := off (16, tabObj #[]) (by simp)
    have hyl : ys.length = 5 := by rw [hds.length, hdl]
    clear F1 N1
    ktn_open
    rename_i tK hK1 oK1 F2 N2 hoK1 tR
    have eK : ∃ kn : Nat, (2 : Int) + (ds.getD (Int.toNat 0) 0).fmod 2 = (kn : Int) ∧ (kn = 2 ∨ kn = 3) := by
      rw [Int.fmod_eq_emod_of_nonneg _ (by decide)]
      exact ⟨(2 + (ds.getD (Int.toNat 0) 0) % 2).toNat, by omega, by omega⟩
    obtain ⟨kn, eK1, eK2⟩ := eK
    rw [eK1] at hoK1
    replace N2 : News g L hK1 ((D, W.listOf (List.toArray ys) ys.length) :: (L + 3, oL) :: (L + 2, oK1) :: (L + 1, oS) :: (16, tabObj #[]) :: []) := N2
    refine Held.of ?_
    refine wpAny_IfExp ?_
    ktn_open
    all_goals refine Held.of ?_
    all_goals refine wpAny_IfExp ?_
    all_goals ktn_open
    all_goals (first | (exfalso; omega) | skip)
    all_goals refine Held.of ?_
    all_goals refine wpAny_IfExp ?_
    all_goals (have hst := StopE.mk)
    all_goals ktn_open
    all_goals (first | (exfalso; omega) | skip)
    · rename Fr _ _ _ _ => F9
      rename News _ _ _ _ => N9
      rename_i hc3 _ _ _ _ _ oL9 hoL9 _ _ _
      obtain ⟨ln, el, el1, el2⟩ := natMod (ds.getD (Int.toNat 1) 0) 7 (by decide)
      obtain ⟨dg, ed, ed1, ed2⟩ := natMod (ds.getD (Int.toNat 2) 0) 5 (by decide)
      rw [el] at hoL9
      rw [ed] at F9
      exact next D ys ds _ kn ln dg 8 _ _ _ _ _ _ _ _ hdl hds (.inl ⟨by omega, by omega, by omega, rfl⟩) el1 ed1 F9 rfl rfl rfl (nSub N9 fun p hp => .tail _ hp) off4 hoL9 hoK1 hg' hos'
    · rename Fr _ _ _ _ => F9
      rename News _ _ _ _ => N9
      rename_i hc3 _ _ _ _ _ oL9 hoL9 _ _ _
      obtain ⟨ln, el, el1, el2⟩ := natMod (ds.getD (Int.toNat 1) 0) 4 (by decide)
      obtain ⟨dg, ed, ed1, ed2⟩ := natMod (ds.getD (Int.toNat 2) 0) 3 (by decide)
      rw [el] at hoL9
      rw [ed] at F9
      exact next D ys ds _ kn ln dg 6 _ _ _ _ _ _ _ _ hdl hds (.inr ⟨by omega, by omega, by omega, rfl⟩) el1 ed1 F9 rfl rfl rfl (nSub N9 fun p hp => .tail _ hp) off4 hoL9 hoK1 hg' hos'
end Mine

namespace Mine
local macro_rules | `(tactic| k_mem) => `(tactic| assumption)
local macro_rules | `(tactic| walk_at "exec For Name Call cons nil") => `(tactic| refine Held.mk ?_)
local macro_rules | `(tactic| walk_at "exec For Name Name cons nil") => `(tactic| refine Held.mk ?_)
local macro_rules | `(tactic| walk_at "exec Assign cons ListComp") => `(tactic| refine Held.mk ?_)
local macro_rules | `(tactic| walk_at "eval ListComp") => `(tactic| refine Held.mk ?_)
local macro_rules | `(tactic| walk_at "pyIter ref") => `(tactic| refine Held.mk ?_)
local macro_rules | `(tactic| walk_at "execs cons") => `(tactic| ((have hst := (by assumption : StopE)); refine Held.mk ?_))
local macro_rules | `(tactic| walk_at "call ref") => `(tactic| refine Held.mk ?_)
local macro_rules | `(tactic| walk_at "call builtin:set.add") => `(tactic| refine Held.mk ?_)
local macro_rules | `(tactic| ktn_open) => `(tactic| repeat' (first | (k_unfold; (try dsimp only)) | walk1 | (dsimp only; walk1)))
abbrev Base (D : Addr) (ys : List Value) (c : Nat) (L : Addr) (oL oK oS : Obj) (ps : Array Value) : Led := (D, W.listOf (List.toArray ys) c) :: (L + 3, oL) :: (L + 2, oK) :: (L + 1, oS) :: (16, tabObj ps) :: []
def letters (kn : Nat) : List Nat := [97, 98, 99].take kn
def wordsOne (kn : Nat) (z : Str) : List Str := (letters kn).map fun c => z ++ (⟨#[c]⟩ : Str)
def wordsStep (kn : Nat) (ws : List Str) : List Str := ws.flatMap (wordsOne kn)
def wordsTo (kn : Nat) : Nat → List Str
  | 0 => [PySem.Str.ofString ""]
  | i + 1 => wordsStep kn (wordsTo kn i)
theorem strsAppend : ∀ {vs ws : List Value} {as bs : List Str}, StrsAre vs as → StrsAre ws bs → StrsAre (vs ++ ws) (as ++ bs)
  | _, _, _, _, .nil, h => h
  | _, _, _, _, .cons y t r, h => .cons y t (strsAppend r h)
theorem wordsStep_snoc (kn : Nat) (ws : List Str) (z : Str) : wordsStep kn (ws ++ [z]) = wordsStep kn ws ++ wordsOne kn z := by
  unfold wordsStep; rw [List.flatMap_append, List.flatMap_cons, List.flatMap_nil, List.append_nil]
theorem wordsOne_get {kn j c : Nat} {z : Str} (h : (letters kn)[j]? = some c) : (wordsOne kn z)[j]? = some (z ++ (⟨#[c]⟩ : Str)) := by
  unfold wordsOne; rw [List.getElem?_map, h]; rfl
theorem wordsStep_length {kn : Nat} (hk : kn ≤ 3) (ws : List Str) : (wordsStep kn ws).length = kn * ws.length := by
  unfold wordsStep
  induction ws with
  | nil => rfl
  | cons r rs ih => rw [List.flatMap_cons, List.length_append, ih, List.length_cons, Nat.mul_succ]; unfold wordsOne letters; rw [List.length_map, List.length_take]; simp; omega
theorem wordsTo_length {kn : Nat} (hk : kn ≤ 3) (i : Nat) : (wordsTo kn i).length = kn ^ i := by
  induction i with
  | zero => rfl
  | succ i ih => show (wordsStep kn (wordsTo kn i)).length = _; rw [wordsStep_length hk, ih, Nat.pow_succ, Nat.mul_comm]
theorem wordsTo_le {kn ln i : Nat} (h : kn = 2 ∧ ln ≤ 7 ∨ kn = 3 ∧ ln ≤ 4) (hi : i ≤ ln) : (wordsTo kn i).length ≤ 128 := by
  rw [wordsTo_length (by omega)]
  rcases h with ⟨rfl, h⟩ | ⟨rfl, h⟩
  · exact Nat.le_trans (Nat.pow_le_pow_right (by decide) (show i ≤ 7 by omega)) (by decide)
  · exact Nat.le_trans (Nat.pow_le_pow_right (by decide) (show i ≤ 4 by omega)) (by decide)
theorem wordsTo_mem {kn i : Nat} {z : Str} (h : z ∈ wordsTo kn i) : z.length = i := by
  induction i generalizing z with
  | zero => rw [List.mem_singleton.mp h]; rfl
  | succ i ih =>
    obtain ⟨y, h1, h2⟩ := List.mem_flatMap.mp (show z ∈ (wordsTo kn i).flatMap (wordsOne kn) from h)
    obtain ⟨x, _, rfl⟩ := List.mem_map.mp h2
    have e := ih h1
    show (y.cps ++ #[x]).size = _
    rw [Array.size_append]
    show y.length + 1 = _
    rw [e]
def hit (z : Str) (i : Nat) : Bool := decide (¬ (z.cps.toList < (Txt.slice z (some (1 + (i : Int))) none ++ Txt.slice z none (some (1 + (i : Int)))).cps.toList))
def hitsL (z : Str) : Nat → List Int
  | 0 => []
  | i + 1 => if hit z i = true then hitsL z i ++ [1 + (i : Int)] else hitsL z i
theorem hitsL_len (z : Str) (i : Nat) : (hitsL z i).length ≤ i := by
  induction i with
  | zero => exact Nat.le_refl _
  | succ i ih =>
    unfold hitsL
    split
    · rw [List.length_append]; exact Nat.succ_le_succ ih
    · exact Nat.le_succ_of_le ih
def isFirst (ln : Nat) (z : Str) : Bool := decide ((hitsL z (ln - 1)).length = 0)
def firstL (kn ln q : Nat) : List Str := ((wordsTo kn ln).take q).filter (isFirst ln)
def KF (base : Led) (kn ln : Nat) (_ : Addr) (q : Nat) (ys' : List Value) (rest : Led) : Prop := q ≤ 128 ∧ rest = base ∧ StrsAre ys' (firstL kn ln q)
def wordsOk (kn ln : Nat) : Bool := decide (lawSum (kn : Int) ln = (ln : Int) * ((firstL kn ln (wordsTo kn ln).length).length : Nat))
theorem wordsOk2n1 : wordsOk 2 1 = true := by decide +kernel
theorem wordsOk2n2 : wordsOk 2 2 = true := by decide +kernel
theorem wordsOk2n3 : wordsOk 2 3 = true := by decide +kernel
theorem wordsOk2n4 : wordsOk 2 4 = true := by decide +kernel
theorem wordsOk2n5 : wordsOk 2 5 = true := by decide +kernel
theorem wordsOk2n6 : wordsOk 2 6 = true := by decide +kernel
theorem wordsOk2n7 : wordsOk 2 7 = true := by decide +kernel
theorem wordsOk3n1 : wordsOk 3 1 = true := by decide +kernel
theorem wordsOk3n2 : wordsOk 3 2 = true := by decide +kernel
theorem wordsOk3n3 : wordsOk 3 3 = true := by decide +kernel
theorem wordsOk3n4 : wordsOk 3 4 = true := by decide +kernel
theorem words_law {kn ln : Nat} (h : kn = 2 ∧ ln ≤ 7 ∨ kn = 3 ∧ ln ≤ 4) (h1 : 1 ≤ ln) : lawSum (kn : Int) ln = (ln : Int) * ((firstL kn ln (wordsTo kn ln).length).length : Nat) := by
  have ok : wordsOk kn ln = true := by
    rcases h with ⟨rfl, h⟩ | ⟨rfl, h⟩
    · match ln, h1, h with
      | 1, _, _ => exact wordsOk2n1
      | 2, _, _ => exact wordsOk2n2
      | 3, _, _ => exact wordsOk2n3
      | 4, _, _ => exact wordsOk2n4
      | 5, _, _ => exact wordsOk2n5
      | 6, _, _ => exact wordsOk2n6
      | 7, _, _ => exact wordsOk2n7
    · match ln, h1, h with
      | 1, _, _ => exact wordsOk3n1
      | 2, _, _ => exact wordsOk3n2
      | 3, _, _ => exact wordsOk3n3
      | 4, _, _ => exact wordsOk3n4
  exact of_decide_eq_true ok
theorem law2 {prog : Program} {w : World} {p : Program} {loose : List Str} {mean : ExcName → Option Value} {mg mb : Str → Option Value} {d : DefRec} (hd9 : LawDef d)
   (fa : Addr) (cd : Value) (g : Heap) (L : Addr) (s : Shared) (m : Loc) (oL oK oS : Obj) (qk : Flow → Shared → Prop) (D : Addr) (ys : List Value) (c kn ln : Nat) (tk tl : Tok)
   (T : Top p loose mean mg mb g) (X : (hd.heap_39 w.params).In g) (B : Below callerA g [] g) (CH : CodeHd g 20 16) (l16 : (16 : Nat) < L) (d16 : 16 ≠ D)
   (hkl : kn = 2 ∧ ln ≤ 7 ∨ kn = 3 ∧ ln ≤ 4) (hl1 : 1 ≤ ln) (F1 : Fr g L s.heap m) (N1 : News g L s.heap (Base D ys c L oL oK oS #[]))
   (hoL : oL.data = .cell (some (.int (ln : Int) tl))) (hoK : oK.data = .cell (some (.int (kn : Int) tk))) (hg : AllBare s.gens)
   (e : PySem.Challenge.rw_aw5004_01 = PySem.Challenge.rw_aw5004_01 ∧ hd.heap_39 = hd.heap_39)
   (next : ∀ (s' : Shared) (m' : Loc) (ps : Array Value), Fr g L s'.heap m' → Off [PySem.Str.ofString "first", PySem.Str.ofString "k", PySem.Str.ofString "words"] m' m → News g L s'.heap (Base D ys c L oL oK oS ps) → TabOk ps → AllBare s'.gens → s'.os = s.os →
     wpAny (model prog w) (callerA.deeper (envOfC d.name d.scope L fa cd)) (execs (d.body.drop 7) (envOfC d.name d.scope L fa cd)) qk NR s') :
   wpAny (model prog w) (callerA.deeper (envOfC d.name d.scope L fa cd)) (execs (d.body.drop 3) (envOfC d.name d.scope L fa cd)) qk NR s := by
  cases hd9
  dsimp only [List.drop] at next ⊢
  revert e; k_fill; intro ee
  ktn_open
  rename Fr _ _ _ _ => F2
  rename News _ _ _ _ => N2
  rename_i W0 _ lW0 _
  refine Held.of ?_
  refine forRange0 (h₀ := g) (L := L) (n := ln) (fun i m₁ news₁ => ∃ Wd zs c', news₁ = (Wd, W.listOf (List.toArray zs) c') :: Base D ys c L oL oK oS #[] ∧ StrsAre zs (wordsTo kn i) ∧ Off [PySem.Str.ofString "k"] m₁ (fun y => if y = PySem.Str.ofString "words" then some (.ref Wd) else m y)) rfl ?_ ?_ ?_
  · ktn_open
    rename Fr _ _ _ _ => F3
    rename News _ _ _ _ => N3
    rename IsRange _ _ _ _ _ _ _ _ => R3
    exact ⟨_, _, _, _, _, _, _, rfl, R3, rsmall _ _ (by omega) (by omega) (by omega) (by omega), rsize _, F3, N3, hg, rfl, ⟨W0, _, _, rfl, .cons _ _ .nil, Off.refl⟩⟩
  · rintro i t₁ m₁ news₁ I oI s₁ hi ⟨Wd, zs, c', rfl, hzs, hoff⟩ hos₁ hg₁ F3 N3 offI
    rw [hoff.exp1] at F3
    generalize m₁ (PySem.Str.ofString "k") = uk at F3
    clear F2 N2
    refine assignL rfl rfl F3 N3 fun h' F4 N4 => ?_
    clear F3 N3
    replace F4 : Fr g L h' _ := F4
    replace N4 : News g L h' _ := N4
    rw [updTwice] at F4
    ktn_open
    refine Held.of ?_
    generalize hmm : (fun y : Str => if y = PySem.Str.ofString "k" then some (Value.int (i : Int) t₁) else _) = mm at F4
    refine compA (h₀ := g) (m := mm) (cl := [("kinds", L + 2)]) (fun D' ys' rest => rest = (I, oI) :: (Wd, W.listOf (List.toArray zs) c') :: Base D ys c L oL oK oS #[] ∧ StrsAre ys' (wordsStep kn ((wordsTo kn i).take zs.toArray.size))) rfl rfl (by decide) rfl (by decide) rfl rfl ?_ ?_
    · subst hmm
      ktn_open
      refine Held.of ?_
      generalize hmm : (fun y : Str => if y = PySem.Str.ofString "k" then some (Value.int (i : Int) t₁) else _) = mm at F4
      refine blk2List (h₀ := g) (L := L) (m := mm) (its := zs.toArray) _ rfl (fun D' q ys' rest => rest = (I, oI) :: (Wd, W.listOf (List.toArray zs) c') :: Base D ys c L oL oK oS #[] ∧ StrsAre ys' (wordsStep kn ((wordsTo kn i).take q))) ⟨Wd, _, rfl, .inr ⟨_, .tail _ (.head _), rfl, _, rfl⟩, F4, N4, hg₁, rfl, fun D' h => ⟨rfl, .nil⟩⟩ rfl rfl (fun _ _ => rfl) ?_
      rintro q v ys' rest ax I₁ oI₁ oC mC C D' s₂ hv ⟨rfl, hys'⟩ hS hos₂ hg₂ hoC hmC F5 N5 hap
      clear F4 N4
      ktn_open
      rename_i h5 t5 k5 F6 N6
      obtain ⟨word, tw, rfl, hword⟩ := hzs.item q v (by simpa using hv)
      have hlen := wordsTo_le hkl (Nat.le_of_lt hi)
      have hsl : Txt.slice (PySem.Str.ofString "abc") none (some (kn : Int)) = ⟨(letters kn).toArray⟩ := by
        rcases hkl with ⟨rfl, _⟩ | ⟨rfl, _⟩ <;> decide +kernel
      rw [hsl]
      refine' innConv (K := fun ys' rest => rest = (I, oI) :: (Wd, W.listOf (List.toArray zs) c') :: Base D ys c L oL oK oS #[] ∧ StrsAre ys' (wordsStep kn ((wordsTo kn i).take q) ++ (wordsOne kn word).take (letters kn).toArray.size)) (innStr (z := ⟨(letters kn).toArray⟩) (x := "word") (m := mm) (S := SrcAt g ax zs.toArray) (oC := oC) (mC := mC) (v := .str word tw) _ ?h1 ?ha ?h2 ?h3 ?h4 (fun j ys' rest => rest = (I, oI) :: (Wd, W.listOf (List.toArray zs) c') :: Base D ys c L oL oK oS #[] ∧ StrsAre ys' (wordsStep kn ((wordsTo kn i).take q) ++ (wordsOne kn word).take j)) ?h5 ?hg ?h6 hoC hmC ?h7 ?h8 ?h9 ?h10 ?h11 ?h12) ?h13
      case h1 => exact rfl
      case ha => rcases hkl with ⟨rfl, _⟩ | ⟨rfl, _⟩ <;> decide +kernel
      case h2 => exact rfl
      case h3 => decide
      case h4 => exact rfl
      case h7 => exact F6
      case h8 => exact N6
      case h9 => exact hap
      case h10 => exact hS
      case h6 => exact hos₂
      case hg => exact hg₂
      case h5 =>
        rintro j ys₂ r₂ ⟨_, h⟩
        have := h.len_eq
        rw [List.length_append, wordsStep_length (by omega)] at this
        have e1 : (List.take q (wordsTo kn i)).length ≤ 128 := Nat.le_trans (by rw [List.length_take]; omega) hlen
        have e2 : (List.take j (wordsOne kn word)).length ≤ 3 := by rw [List.length_take]; unfold wordsOne letters; rw [List.length_map, List.length_take]; simp; omega
        have e3 : kn * (List.take q (wordsTo kn i)).length ≤ 3 * 128 := Nat.mul_le_mul (by omega) e1
        have e4 : 10000 ≤ sizeLine := by decide
        omega
      case h11 => exact ⟨rfl, by rw [List.take_zero, List.append_nil]; exact hys'⟩
      case h13 =>
        rintro ys₂ r₂ ⟨rfl, h⟩
        refine ⟨rfl, ?_⟩
        rw [take_snoc hword, wordsStep_snoc]
        have e : List.take (letters kn).toArray.size (wordsOne kn word) = wordsOne kn word := List.take_of_length_le (by unfold wordsOne; rw [List.length_map, List.size_toArray]; omega)
        exact e ▸ h
      rintro j cc u ys₂ rest₂ I₂ oI₂ oC₂ mC₂ s₃ hj ⟨rfl, hys₂⟩ hS₂ hos₃ hg₃ hoC₂ hmC₂ hmC₂' F7 N7 hap₂ off₂ d1 d2 d3
      clear F6 N6
      ktn_open
      have hwl : word.length = i := wordsTo_mem (List.mem_of_getElem? hword)
      refine SB.add (fun t7 k7 => ?_) ?_
      · refine ⟨hos₃, hg₃, _, F7, N7, hap₂, off₂, hS₂, rfl, ?_⟩
        · have hj' : (letters kn)[j]? = some cc := by simpa using hj
          rw [take_snoc (wordsOne_get hj'), ← List.append_assoc]
          exact strsAppend hys₂ (.cons _ _ .nil)
      · have e4 : 10000 ≤ sizeLine := by decide
        rw [hwl]
        show i + 1 ≤ _
        omega
    · rintro ys' rest' D' s' ⟨rfl, hys'⟩ F' N' off' hg' hos'
      dsimp only
      refine wpAny_execs_nil ?_
      rw [List.take_of_length_le (by rw [List.size_toArray, hzs.len_eq]; exact Nat.le_refl _)] at hys'
      refine ⟨hos'.trans hos₁, hg', _, (D', lst ys') :: Base D ys c L oL oK oS #[], F', nSub N' ?_, ?_, trivial, D', ys', _, rfl, hys', ?_⟩
      · intro p hp
        rcases List.mem_cons.mp hp with rfl | hp
        · exact .tail _ (.head _)
        · rcases List.mem_cons.mp hp with rfl | hp
          · exact .head _
          · exact .tail _ (.tail _ (.tail _ hp))
      · intro p hp
        rcases List.mem_cons.mp hp with rfl | hp
        · exact (off' (I, oI) (.head _)).symm
        · exact offI p (.tail _ hp)
      · subst hmm
        intro y hy
        have h1 : y ≠ PySem.Str.ofString "k" := by simpa using hy
        simp only [if_neg h1]
        by_cases h2 : y = PySem.Str.ofString "words"
        · simp only [if_pos h2]
        · simp only [if_neg h2]
  · rintro m₁ news₁ s₁ ⟨Wd, zs, c', rfl, hzs, hoff⟩ hos₁ hg₁ F3 N3
    rw [hoff.exp1] at F3
    generalize m₁ (PySem.Str.ofString "k") = uk at F3
    clear F2 N2
    ktn_open
    refine Held.of ?_
    generalize hmm : (fun y : Str => if y = PySem.Str.ofString "k" then uk else _) = mm at F3
    have hzl : zs.toArray.size = (wordsTo kn ln).length := by rw [List.size_toArray, hzs.len_eq]
    have hwle := wordsTo_le hkl (Nat.le_refl ln)
    refine compAC (h₀ := g) (m := mm) (x := "word") (cl := [("length", L + 3)]) (fun D' ys' r => ∃ Wc oW r', r = (Wc, oW) :: r' ∧ KF ((Wd, W.listOf (List.toArray zs) c') :: Base D ys c L oL oK oS #[]) kn ln D' zs.toArray.size ys' r') rfl rfl (fun _ => rfl) (fun _ => rfl) rfl (by decide) rfl rfl ?_ ?_
    · subst hmm
      ktn_open
      refine Held.of ?_
      generalize hmm : (fun y : Str => if y = PySem.Str.ofString "k" then uk else _) = mm at F3
      refine blkCellList (h₀ := g) (L := L) (m := mm) (its := zs.toArray) _ rfl (KF ((Wd, W.listOf (List.toArray zs) c') :: Base D ys c L oL oK oS #[]) kn ln) ⟨Wd, _, rfl, .inr ⟨_, .head _, rfl, _, rfl⟩, F3, N3, hg₁, rfl, fun D' h => ⟨Nat.zero_le _, rfl, .nil⟩⟩ ?hk ?hx ?hK ?_
      case hk => exact rfl
      case hx => exact rfl
      case hK =>
        rintro D' q ys₂ r₂ ⟨h1, _, h⟩
        have e1 := h.len_eq
        have e2 : (firstL kn ln q).length ≤ q := Nat.le_trans (List.length_filter_le _ _) (by rw [List.length_take]; omega)
        have e4 : 10000 ≤ sizeLine := by decide
        omega
      rintro q v ys' rest ax I₁ oI₁ oC oW C D' Wc s₂ hv ⟨hq, rfl, hys'⟩ hS hos₂ hg₂ hoC hoW F5 N5 hap hWc
      obtain ⟨word, tw, rfl, hword⟩ := hzs.item q v (by simpa using hv)
      clear F3 N3
      refine wpAny_tests_one ?_
      ktn_open
      refine Held.of ?_
      have hql : word.length = ln := wordsTo_mem (List.mem_of_getElem? hword)
      refine compE (h₀ := g) (L := L) (m := mm) (cl := [("word", Wc)]) (fun D2 ks r => ln - 1 ≤ ln - 1 ∧ r = (I₁, oI₁) :: (D', lst ys') :: (C, oC) :: (Wc, oW) :: (Wd, W.listOf (List.toArray zs) c') :: Base D ys c L oL oK oS #[] ∧ IntsAre ks (hitsL word (ln - 1))) rfl (by decide) rfl (by decide) ?_ ?_
      · ktn_open
        rename Fr _ _ _ _ => F6
        rename News _ _ _ _ => N6
        rename IsRange _ _ _ _ _ _ _ _ => R6
        refine Held.of ?_
        refine blk1Range (h₀ := g) (L := L) (a := 1) (n := ln - 1) _ rfl (fun D2 i ks r => i ≤ ln - 1 ∧ r = (I₁, oI₁) :: (D', lst ys') :: (C, oC) :: (Wc, oW) :: (Wd, W.listOf (List.toArray zs) c') :: Base D ys c L oL oK oS #[] ∧ IntsAre ks (hitsL word i)) ⟨_, _, _, _, _, _, rfl, R6, rsmall _ _ (by omega) (by omega) (by omega) (by omega), ?_, F6, N6, hg₂, rfl, fun _ _ => ⟨Nat.zero_le _, rfl, .nil⟩⟩ rfl rfl ?_ ?_
        · rw [rangeSize_one]; split <;> omega
        · rintro D2 i ks r ⟨h1, _, h⟩
          have e1 := h.length
          have e2 := hitsL_len word i
          have e4 : 10000 ≤ sizeLine := by decide
          omega
        · rintro i t₁ ks r I2 oI2 oC2 mC2 C2 D2 s₃ hi ⟨_, rfl, hks⟩ hos₃ hg₃ hoC2 hmC2 F7 N7 hap2
          clear F6 N6 R6
          refine wpAny_tests_one ?_
          ktn_open
          · rename Fr _ _ _ _ => F8
            rename News _ _ _ _ => N8
            rename_i hh
            refine ⟨hos₃, hg₃, _, F8, N8, hap2, trivial, by omega, rfl, ?_⟩
            unfold hitsL
            rw [if_neg (by unfold hit; simpa using hh)]
            exact hks
          · rename Fr _ _ _ _ => F8
            rename News _ _ _ _ => N8
            rename_i hh
            refine ⟨hos₃, hg₃, _, F8, N8, hap2, trivial, by omega, rfl, ?_⟩
            unfold hitsL
            rw [if_pos (by unfold hit; simpa using hh)]
            exact IntsAre.append hks (.cons _ _ .nil)
      · rintro ks r D2 s' ⟨_, rfl, hks⟩ F' N' off' hg' hos'
        have hkl2 : (lst ks).data = .seq ks.toArray ks.length := rfl
        clear F5 N5
        have hke : ks.toArray.isEmpty = isFirst ln word := by
          have e1 := hks.length
          have e2 : ks.toArray.isEmpty = decide (ks.length = 0) := by cases ks <;> simp
          rw [e2, e1]; rfl
        refine wpAny_truthy_list (News.isList N' (.head _)) (by have := hks.length; have := hitsL_len word (ln - 1); rw [List.size_toArray]; omega) ?_
        rw [hke]
        have hqw : q < (wordsTo kn ln).length := (List.getElem?_eq_some_iff.mp hword).1
        have hapW : ∀ p ∈ (Wc, oW) :: (Wd, W.listOf (List.toArray zs) c') :: Base D ys c L oL oK oS #[], p.1 ≠ I₁ ∧ p.1 ≠ D' ∧ p.1 ≠ C := fun p hp => by
          rcases List.mem_cons.mp hp with rfl | hp
          · exact ⟨hWc.1, hWc.2.1, hWc.2.2.1⟩
          · exact hap.2 p hp
        cases hfi : isFirst ln word with
        | true =>
          simp only [Bool.not_true, Bool.not_false, Bool.false_eq_true, if_true, if_false]
          ktn_open
          refine ⟨hos'.trans hos₂, hg', _, F', nDrop1 N', ⟨hap.1, hapW⟩, ⟨_, rfl, hS⟩, ⟨_, rfl, hWc.2.2.2, by omega, rfl, ?_⟩⟩
          unfold firstL
          rw [take_snoc hword, List.filter_append, List.filter_cons_of_pos hfi, List.filter_nil]
          exact strsAppend hys' (.cons _ _ .nil)
        | false =>
          simp only [Bool.not_true, Bool.not_false, Bool.false_eq_true, if_true, if_false]
          refine ⟨hos'.trans hos₂, hg', _, F', nDrop1 N', ⟨hap.1, hapW⟩, ⟨_, rfl, hS⟩, ⟨_, rfl, hWc.2.2.2, by omega, rfl, ?_⟩⟩
          unfold firstL
          rw [take_snoc hword, List.filter_append, List.filter_cons_of_neg (by rw [hfi]; decide), List.filter_nil, List.append_nil]
          exact hys'
    · rintro ys' rest D' s' ⟨Wc, oW, r', rfl, _, rfl, hys'⟩ F' N' off' hg' hos'
      dsimp only
      rw [hzl] at hys'
      subst hmm
      replace F' : Fr g L s'.heap _ := F'
      replace N' : News g L s'.heap ((D', W.listOf (List.toArray ys') ys'.length) :: (Wc, oW) :: (Wd, W.listOf (List.toArray zs) c') :: Base D ys c L oL oK oS #[]) := N'
      have hlaw := words_law hkl hl1
      have hysz : ys'.toArray.size = (firstL kn ln (wordsTo kn ln).length).length := by rw [List.size_toArray, hys'.len_eq]
      generalize hnf : (firstL kn ln (wordsTo kn ln).length).length = nf at *
      have hnf2 : nf ≤ 128 := by
        rw [← hnf]
        exact Nat.le_trans (List.length_filter_le _ _) (by rw [List.length_take]; omega)
      ktn_open
      refine Held.of ?_
      refine lawsum_spec (mb := mb) (mg := mg) (mean := mean) (loose := loose) (p := p) (kn : Int) ln _ _ (by omega) (by omega) (by omega) (by omega) ee _ _ _ _ _ _ _ _ [] callerA g g L _ ((D', W.listOf (List.toArray ys') ys'.length) :: (D, W.listOf (List.toArray ys) c) :: (L + 3, oL) :: (L + 2, oK) :: (L + 1, oS) :: []) #[] _ _ B F' X (nSub N' ?hsub) ?g16 T CH rfl hg' (.inl rfl) trivial ?gdp ?gun ?_
      case gdp => decide
      case gun => decide
      case hsub =>
        intro q hq
        simp only [List.mem_cons, List.not_mem_nil, or_false] at hq ⊢
        rcases hq with rfl | rfl | rfl | rfl | rfl | rfl <;> simp
      case g16 =>
        intro q hq
        simp only [List.mem_cons, List.not_mem_nil, or_false] at hq
        have q1 : (16 : Nat) ≠ D' := off' (16, tabObj #[]) (by simp)
        rcases hq with rfl | rfl | rfl | rfl | rfl
        · exact q1.symm
        · exact d16.symm
        · exact Nat.ne_of_gt (Nat.lt_of_lt_of_le l16 (Nat.le_add_right _ _))
        · exact Nat.ne_of_gt (Nat.lt_of_lt_of_le l16 (Nat.le_add_right _ _))
        · exact Nat.ne_of_gt (Nat.lt_of_lt_of_le l16 (Nat.le_add_right _ _))
      rintro r s₅ tl₅ ps₅ hos₅ hg₅ htab₅ F5 N5 habv ⟨u₅, rfl⟩
      have N6 : News g L s₅.heap ((D', W.listOf (List.toArray ys') ys'.length) :: Base D ys c L oL oK oS ps₅) := nSub N5 fun q hq => by
        simp only [List.mem_cons, List.mem_append, List.not_mem_nil, or_false] at hq ⊢
        rcases hq with rfl | rfl | rfl | rfl | rfl | rfl <;> simp
      clear N5 N' F3
      replace F5 : Fr g L s₅.heap _ := F5
      have hst := StopE.mk
      ktn_open
      · rename_i hne _
        exact absurd hlaw hne
      · refine Held.of ?_
        dsimp only
        refine next _ _ ps₅ F5 ?_ (nDrop1 N6) htab₅ hg₅ ?_
        · intro y hy
          have h1 : y ≠ PySem.Str.ofString "first" := fun e => hy (by simp [e])
          have h2 : y ≠ PySem.Str.ofString "k" := fun e => hy (by simp [e])
          have h3 : y ≠ PySem.Str.ofString "words" := fun e => hy (by simp [e])
          simp only [if_neg h1, if_neg h2, if_neg h3]
        · exact hos₅.trans (hos'.trans hos₁)
end Mine

namespace Mine
local macro_rules | `(tactic| k_mem) => `(tactic| assumption)
local macro_rules | `(tactic| walk_at "exec For Name Call cons nil") => `(tactic| refine Held.mk ?_)
local macro_rules | `(tactic| walk_at "exec For Name Name cons nil") => `(tactic| refine Held.mk ?_)
local macro_rules | `(tactic| walk_at "exec Assign cons ListComp") => `(tactic| refine Held.mk ?_)
local macro_rules | `(tactic| walk_at "eval ListComp") => `(tactic| refine Held.mk ?_)
local macro_rules | `(tactic| walk_at "pyIter ref") => `(tactic| refine Held.mk ?_)
local macro_rules | `(tactic| walk_at "execs cons") => `(tactic| ((have hst := (by assumption : StopE)); refine Held.mk ?_))
local macro_rules | `(tactic| walk_at "getMethod ref") => `(tactic| refine Held.mk ?_)
local macro_rules | `(tactic| walk_at "call builtin:len") => `(tactic| refine Held.mk ?_)
local macro_rules | `(tactic| walk_at "call ref") => `(tactic| refine Held.mk ?_)
local macro_rules | `(tactic| walk_at "call builtin:set.add") => `(tactic| refine Held.mk ?_)
local macro_rules | `(tactic| ktn_open) => `(tactic| repeat' (first | (k_unfold; (try dsimp only)) | walk1 | (dsimp only; walk1)))

abbrev B3 (D : Addr) (ys : List Value) (c : Nat) (L : Addr) (oL oK oS : Obj) : Led := (D, W.listOf (List.toArray ys) c) :: (L + 3, oL) :: (L + 2, oK) :: (L + 1, oS) :: []
def JJ (S : Addr) (b T : Led) (st : St) (nw : Led) : Prop := ∃ tl keys t adr ep ps, nw = (S, setObj keys adr ep t) :: (16, tabObj ps) :: (tl ++ b) ∧ st = some (keys, t) ∧ TabOk ps ∧ Above tl b ∧ (∀ q ∈ tl, q.1 ≠ S ∧ q.1 ≠ 16) ∧ ∀ k ∈ keys.toList, TupIn (tl ++ T) k (adr k)
theorem jjFold {S I : Addr} {oI : Obj} {b T tl rl : Led} {st : St} {nw : Led} (h : JJ S (rl ++ (I, oI) :: (tl ++ b)) (tl ++ T) st nw) (hA : Above rl ((I, oI) :: (tl ++ b))) (hrl : ∀ q ∈ rl, q.1 ≠ S ∧ q.1 ≠ 16) (htl : ∀ q ∈ tl, q.1 ≠ S ∧ q.1 ≠ 16) (hAb : Above tl b)
    (hoff : ∀ q ∈ tl ++ b, q.1 ≠ I) (hI : I ≠ S ∧ I ≠ 16) : ∃ nw', (∀ p ∈ (I, oI) :: nw', p ∈ nw) ∧ (∀ p ∈ nw', p.1 ≠ I) ∧ JJ S b T st nw' ∧ (∀ p ∈ tl ++ b, p ∈ nw') := by
  obtain ⟨tl3, keys, t, adr, ep, ps, rfl, hst, htab, habv, htl3, hks⟩ := h
  refine ⟨(S, setObj keys adr ep t) :: (16, tabObj ps) :: ((tl3 ++ rl ++ tl) ++ b), fun p hp => ?_, fun p hp => ?_, ⟨tl3 ++ rl ++ tl, keys, t, adr, ep, ps, rfl, hst, htab, ?_, ?_, ?_⟩, fun p hp => by simp only [List.mem_cons, List.mem_append] at hp ⊢; rcases hp with hp | hp <;> simp [hp]⟩
  · simp only [List.mem_cons, List.mem_append] at hp ⊢
    rcases hp with rfl | rfl | rfl | ((hp | hp) | hp) | hp <;> simp [*]
  · simp only [List.mem_cons, List.mem_append] at hp
    rcases hp with rfl | rfl | ((hp | hp) | hp) | hp
    · exact hI.1.symm
    · exact hI.2.symm
    · exact Nat.ne_of_gt (habv p hp (I, oI) (by simp))
    · exact Nat.ne_of_gt (hA p hp (I, oI) (by simp))
    · exact hoff p (by simp [hp])
    · exact hoff p (by simp [hp])
  · refine Above.append (Above.append (habv.mono fun p hp => by simp [hp]) (hA.mono fun p hp => by simp [hp])) hAb
  · intro q hq
    simp only [List.mem_append] at hq
    rcases hq with (hq | hq) | hq
    · exact htl3 q hq
    · exact hrl q hq
    · exact htl q hq
  · intro k hk
    obtain ⟨us, n, hm, hi⟩ := hks k hk
    refine ⟨us, n, ?_, hi⟩
    simp only [List.mem_append] at hm ⊢
    rcases hm with hm | hm | hm <;> simp [hm]
theorem srcMove {g : Heap} {ax S : Addr} {its : Array Value} {keys : Array (List Int)} {adr : List Int → Addr} {ep : Nat} {t : SetTable} {ps : Array Value} {R l : Led} (h : SrcAt g ax its ((S, setObj keys adr ep t) :: (16, tabObj ps) :: R)) (hs : ∀ p ∈ R, p ∈ l) : SrcAt g ax its l := by
  rcases h with h | ⟨o, hm, r⟩
  · exact .inl h
  · rcases List.mem_cons.mp hm with hm | hm
    · injection hm with _ ho
      subst ho
      exact absurd r.1 (by simp)
    · rcases List.mem_cons.mp hm with hm | hm
      · injection hm with _ ho
        subst ho
        exact absurd r.1 (by simp)
      · exact .inr ⟨o, hs _ hm, r⟩
theorem newsBut {g h h' : Heap} {L S : Addr} {l : Led} (N : News g L h l) (sb : Heap.SameBut S h h') (off : ∀ q ∈ l, q.1 ≠ S) : News g L h' l := fun q hq =>
  ⟨sb.extBut _ _ (off q hq) (N q hq).1, (N q hq).2⟩
section
variable {prog : Program} {w : World} {A : Around} {s : Shared} {env : Env} {h₀ : Heap} {L : Addr}
theorem forListE {target iter : Expr} {body : List Stmt} {pos : Pos} {Q : Flow → Shared → Prop}
    (J : Array Value → Nat → Loc → Led → Prop) (hh : A.handled = none)
    (hiter : wpAny (model prog w) A (eval iter env) (fun xv s₁ => ∃ its, LstAt h₀ L its (J its 0) s xv s₁) NR s)
    (turn : ∀ its i v m₁ news₁ ax I oI s₁, its[i]? = some v → J its i m₁ news₁ → SrcAt h₀ ax its news₁ → s₁.os = s.os → AllBare s₁.gens → Fr h₀ L s₁.heap m₁ → News h₀ L s₁.heap ((I, oI) :: news₁) → (∀ p ∈ news₁, p.1 ≠ I) →
      wpAny (model prog w) A (assign target env v) (fun _ s₂ => wpAny (model prog w) A (execs body env) (BodyEnd h₀ L I oI (SrcAt h₀ ax its) (J its (i + 1)) s Q) NR s₂) NR s₁)
    (done : ∀ its m₁ news₁ s₁, J its its.size m₁ news₁ → s₁.os = s.os → AllBare s₁.gens → Fr h₀ L s₁.heap m₁ → News h₀ L s₁.heap news₁ → Q .next s₁)
    (ht : ∀ it v, letOwnedTupleGo target it v = pure () := by intro _ _; rfl)
    (hs : ∀ x, foldedSetIterable iter env x = pure x := by intro _; rfl) :
    wpAny (model prog w) A (exec (.For target iter body [] pos) env) Q NR s := by
  refine wpAny_For (wpAny_mono hiter (fun xv s₁ h₁ => ?_) fun _ _ e => e) hs
  obtain ⟨its, ax, m, news, rfl, S, F, N, hg, hos, hj⟩ := h₁
  have hl := S.list F.keep N
  have hlt : ax < s₁.heap.objs.size := by obtain ⟨_, e, _⟩ := hl; exact Heap.lt_size e
  refine wpAny_pyIter_list hl ?_
  have up : ∀ b o, s₁.heap.get? b = some o → (s₁.heap.push { cls := .type "list_iterator", data := .fields #[.ref ax, .int 0 0] }).get? b = some o := fun b o e => Heap.get?_push_of_some _ e
  refine forW (n := its.size) (S := SrcAt h₀ ax its) (Q := Q) s (Walks.list hh s₁.heap.objs.size ax (Nat.ne_of_lt hlt) its) (fun i h st => by obtain ⟨o, e, _⟩ := st.1; exact ⟨o, e⟩) list_st (Nat.ne_of_lt F.ns.lt) (next_is_new F) ht (J its)
    ⟨⟨_, Heap.get?_push_size _ rfl, rfl, rfl⟩, hl.push _⟩ (F.keeps up) (N.grown up) (fun p hp => Nat.ne_of_lt (Heap.lt_size (N p hp).1)) S hg hos hj ?_ ?_ (fun f s' h => h)
  · rintro i v m₁ news₁ oI s₂ _ hP hj' hS h1 h2 h3 h4 h5
    exact turn its i v m₁ news₁ ax _ oI s₂ hP hj' hS h1 h2 h3 h4 h5
  · exact fun m₁ news₁ s₂ hj' _ h1 h2 h3 h4 => done its m₁ news₁ s₂ hj' h1 h2 h3 h4
end
theorem foldNone {α : Type} {f : St → α → St} (hf : ∀ a, f none a = none) : ∀ l : List α, l.foldl f none = none
  | [] => rfl
  | a :: l => by rw [List.foldl_cons, hf]; exact foldNone hf l
theorem foldTake {α : Type} {f : St → α → St} (hf : ∀ a, f none a = none) {l : List α} {st : St} (q : Nat) (h : l.foldl f st ≠ none) : (l.take q).foldl f st ≠ none := fun e => h (by
  rw [← List.take_append_drop q l, List.foldl_append, e]; exact foldNone hf _)
theorem addL_none (kn : Nat) (one : List Int) (twos : List (List Int)) : addL kn one twos none = none := foldNone (fun _ => rfl) _
theorem onesL_none (kn : Nat) (ones twos : List (List Int)) : onesL kn ones twos none = none := foldNone (f := fun (st : St) one => addL kn one twos st) (fun _ => addL_none _ _ _) _
theorem addL_snoc {kn j : Nat} {one two : List Int} {l : List (List Int)} {st : St} (h : l[j]? = some two) : addL kn one (l.take (j + 1)) st = (addL kn one (l.take j) st).bind fun s => simAdd s (prodL one two kn) := by
  unfold addL; rw [take_snoc h, List.foldl_append]; rfl
theorem onesL_snoc {kn q : Nat} {one : List Int} {ones twos : List (List Int)} {st : St} (h : ones[q]? = some one) : onesL kn (ones.take (q + 1)) twos st = addL kn one twos (onesL kn (ones.take q) twos st) := by
  unfold onesL; rw [take_snoc h, List.foldl_append]; rfl
theorem partsL_succ (kn dg i : Nat) (st : St) : partsL kn dg (i + 1) st = onesL kn (monicL kn (i + 1)) (monicL kn (dg - (i + 1))) (partsL kn dg i st) := by
  unfold partsL; rw [List.range_succ, List.foldl_append]; rfl
theorem simOk {kn dg i q j : Nat} {one : List Int} {st : St} (hfull : partsL kn dg (dg / 2) st ≠ none) (hi : i < dg / 2) (hone : (monicL kn (i + 1))[q]? = some one) :
    addL kn one ((monicL kn (dg - (i + 1))).take (j + 1)) (onesL kn ((monicL kn (i + 1)).take q) (monicL kn (dg - (i + 1))) (partsL kn dg i st)) ≠ none := by
  have h1 : partsL kn dg (i + 1) st ≠ none := by
    have := foldTake (f := fun (st : St) (i : Nat) => onesL kn (monicL kn (i + 1)) (monicL kn (dg - (i + 1))) st) (fun _ => onesL_none _ _ _) (l := List.range (dg / 2)) (i + 1) hfull
    rwa [show (List.range (dg / 2)).take (i + 1) = List.range (i + 1) by rw [List.take_range]; congr 1; omega] at this
  rw [partsL_succ] at h1
  have h2 : onesL kn ((monicL kn (i + 1)).take (q + 1)) (monicL kn (dg - (i + 1))) (partsL kn dg i st) ≠ none := foldTake (f := fun (st : St) one => addL kn one (monicL kn (dg - (i + 1))) st) (fun _ => addL_none _ _ _) (q + 1) h1
  rw [onesL_snoc hone] at h2
  exact foldTake (f := fun (st : St) two => st.bind fun s => simAdd s (prodL one two kn)) (fun _ => rfl) (j + 1) h2
theorem monicL_len {kn n : Nat} {r : List Int} (h : r ∈ monicL kn n) : r.length = n + 1 := by
  obtain ⟨x, hx, rfl⟩ := List.mem_map.mp h
  rw [List.length_append, rowsTo_mem_length hx]; rfl
theorem small_of {f : List Int} (h : ∀ x ∈ f, 0 ≤ x ∧ x ≤ 2) : Small f := fun q => by
  rw [List.getD_eq_getElem?_getD]
  cases e : f[q]? with
  | none => simp
  | some x => exact h x (List.mem_of_getElem? e)
theorem rowsTo_ent {kn n : Nat} (hk : kn ≤ 3) {r : List Int} (h : r ∈ rowsTo kn n) : ∀ x ∈ r, 0 ≤ x ∧ x ≤ 2 := by
  induction n generalizing r with
  | zero => rw [rowsTo_zero] at h; rw [List.mem_singleton.mp h]; exact fun x hx => nomatch hx
  | succ n ih =>
    rw [rowsTo_succ] at h
    obtain ⟨r', h1, h2⟩ := List.mem_flatMap.mp h
    obtain ⟨y, hy, rfl⟩ := List.mem_map.mp h2
    intro x hx
    rcases List.mem_append.mp hx with hx | hx
    · exact ih h1 x hx
    · rw [List.mem_singleton.mp hx]; have := List.mem_range.mp hy; omega
theorem monicL_small {kn n : Nat} (hk : kn ≤ 3) {r : List Int} (h : r ∈ monicL kn n) : Small r := by
  obtain ⟨y, hy, rfl⟩ := List.mem_map.mp h
  refine small_of fun x hx => ?_
  rcases List.mem_append.mp hx with hx | hx
  · exact rowsTo_ent hk hy x hx
  · rw [List.mem_singleton.mp hx]; decide
theorem prod_law {kn dg : Nat} {led : Bool} (h : kn = 2 ∧ dg ≤ 5 ∨ kn = 3 ∧ dg ≤ 3) (h1 : 1 ≤ dg) : ∃ keys t, partsL kn dg (dg / 2) (st0 led) = some (keys, t) ∧ t.fits keys.size = true ∧ keys.size < 1000 ∧ lawSum (kn : Int) dg = (dg : Int) * ((kn : Int) ^ dg - (keys.size : Nat)) := by
  have e : prodOk kn dg led = true := by
    rcases h with ⟨rfl, h⟩ | ⟨rfl, h⟩
    · have := prodOk_all2 ⟨dg - 1, by omega⟩ led
      rwa [show dg - 1 + 1 = dg by omega] at this
    · have := prodOk_all3 ⟨dg - 1, by omega⟩ led
      rwa [show dg - 1 + 1 = dg by omega] at this
  unfold prodOk at e
  split at e
  · cases e
  · rename_i s hs
    obtain ⟨keys, t⟩ := s
    simp only [Bool.and_eq_true, decide_eq_true_eq] at e
    exact ⟨keys, t, hs, e.1.1, e.1.2, e.2⟩
theorem law3 {prog : Program} {w : World} {p : Program} {loose : List Str} {mean : ExcName → Option Value} {mg mb : Str → Option Value} {d : DefRec} (hd9 : LawDef d)
   (fa : Addr) (cd : Value) (g : Heap) (L : Addr) (s : Shared) (m : Loc) (oL oK oS : Obj) (qk : Flow → Shared → Prop) (D : Addr) (ys : List Value) (c kn dg : Nat) (tk td : Tok) (ps : Array Value)
   (T : Top p loose mean mg mb g) (X : (hd.heap_39 w.params).In g) (B : Below callerA g [] g) (CH : CodeHd g 20 16) (l16 : (16 : Nat) < L) (d16 : 16 ≠ D)
   (hkd : kn = 2 ∧ dg ≤ 5 ∨ kn = 3 ∧ dg ≤ 3) (hd1 : 1 ≤ dg) (F1 : Fr g L s.heap m) (hmd : m (PySem.Str.ofString "degree") = some (.int (dg : Int) td)) (N1 : News g L s.heap (Base D ys c L oL oK oS ps)) (htab : TabOk ps)
   (hoK : oK.data = .cell (some (.int (kn : Int) tk))) (hg : AllBare s.gens)
   (e : PySem.Challenge.rw_aw5004_01 = PySem.Challenge.rw_aw5004_01 ∧ hd.heap_39 = hd.heap_39)
   (next : ∀ (s' : Shared) (m' : Loc) (ps : Array Value), Fr g L s'.heap m' → Off [PySem.Str.ofString "products", PySem.Str.ofString "part", PySem.Str.ofString "one", PySem.Str.ofString "two"] m' m → News g L s'.heap (Base D ys c L oL oK oS ps) → TabOk ps → AllBare s'.gens → s'.os = s.os →
     wpAny (model prog w) (callerA.deeper (envOfC d.name d.scope L fa cd)) (execs (d.body.drop 10) (envOfC d.name d.scope L fa cd)) qk NR s') :
   wpAny (model prog w) (callerA.deeper (envOfC d.name d.scope L fa cd)) (execs (d.body.drop 7) (envOfC d.name d.scope L fa cd)) qk NR s := by
  cases hd9
  dsimp only [List.drop] at next ⊢
  revert e; k_fill; intro ee
  replace F1 := frSee F1 hmd
  ktn_open
  rename Fr _ _ _ _ => F2
  rename News _ _ _ _ => N2
  rename_i S _ led _ _ lS2 _
  rw [show ({ cls := Value.type "set", dict := none, data := Data.set #[] 0 (.fresh 0 0 led) } : Obj) = setObj #[] (fun _ => 0) 0 (.fresh 0 0 led) by simp [setObj]] at N2
  refine Held.of ?_
  generalize hm0 : (fun y : Str => if y = PySem.Str.ofString "products" then some (Value.ref S) else _) = m0 at F2
  have hfd : (dg : Int).fdiv 2 = ((dg / 2 : Nat) : Int) := by rw [Int.fdiv_eq_ediv_of_nonneg _ (by omega)]; rfl
  obtain ⟨keysF, tF, hfull, hfits, hksz, hlaw⟩ := prod_law (led := led) hkd hd1
  have hS16 : (16 : Nat) < S := lS2.2.2.2.2
  refine forRange (h₀ := g) (L := L) (a := 1) (n := dg / 2) (fun i m₁ nw => JJ S (B3 D ys c L oL oK oS) [] (partsL kn dg i (st0 led)) nw ∧ Off [PySem.Str.ofString "part", PySem.Str.ofString "one", PySem.Str.ofString "two"] m₁ m0) rfl ?_ ?_ ?_
  · subst hm0
    ktn_open
    rename Fr _ _ _ _ => F3
    rename News _ _ _ _ => N3
    rename IsRange _ _ _ _ _ _ _ _ => R3
    refine ⟨_, _, _, _, _, _, _, rfl, R3, ?_, ?_, F3, nSub N3 (fun q hq => ?_), hg, rfl, ⟨[], #[], .fresh 0 0 led, fun _ => 0, 0, ps, rfl, rfl, htab, Above.nil, fun _ h => (nomatch h), fun _ h => (nomatch h)⟩, Off.refl⟩
    · rw [hfd]; exact rsmall _ _ (by omega) (by omega) (by omega) (by omega)
    · rw [hfd, rangeSize_one]; split <;> omega
    · simp only [List.nil_append, List.mem_cons, List.not_mem_nil, or_false] at hq ⊢
      rcases hq with rfl | rfl | rfl | rfl | rfl | rfl <;> simp
  · rintro i t₁ m₁ nw I oI s₁ hi ⟨⟨tl, keys, t, adr, ep, ps', rfl, hst, htab', habv, htl, hks⟩, hoff⟩ hos₁ hg₁ F3 N3 offI
    clear F2 N2
    rw [hoff.exp3] at F3
    generalize m₁ (PySem.Str.ofString "part") = up at F3
    generalize m₁ (PySem.Str.ofString "one") = uo at F3
    generalize m₁ (PySem.Str.ofString "two") = ut at F3
    have hKm : (L + 2, oK) ∈ tl ++ B3 D ys c L oL oK oS := List.mem_append_right _ (.tail _ (.tail _ (.head _)))
    have hb3 : ∀ q ∈ B3 D ys c L oL oK oS, q.1 ≠ S ∧ q.1 ≠ 16 := by
      intro q hq
      simp only [List.mem_cons, List.not_mem_nil, or_false] at hq
      rcases hq with rfl | rfl | rfl | rfl
      · exact ⟨Nat.ne_of_lt lS2.1, d16.symm⟩
      · exact ⟨Nat.ne_of_lt lS2.2.1, Nat.ne_of_gt (Nat.lt_of_lt_of_le l16 (Nat.le_add_right _ _))⟩
      · exact ⟨Nat.ne_of_lt lS2.2.2.1, Nat.ne_of_gt (Nat.lt_of_lt_of_le l16 (Nat.le_add_right _ _))⟩
      · exact ⟨Nat.ne_of_lt lS2.2.2.2.1, Nat.ne_of_gt (Nat.lt_of_lt_of_le l16 (Nat.le_add_right _ _))⟩
    have hRS : ∀ q ∈ tl ++ B3 D ys c L oL oK oS, q.1 ≠ S ∧ q.1 ≠ 16 := fun q hq => (List.mem_append.mp hq).elim (htl q) (hb3 q)
    have hRI : ∀ q ∈ tl ++ B3 D ys c L oL oK oS, q.1 ≠ I := fun q hq => offI q (.tail _ (.tail _ hq))
    generalize hbb : B3 D ys c L oL oK oS = b3 at *
    generalize hR : tl ++ b3 = R at *
    have h1i : (1 : Int) + (i : Int) = ((i + 1 : Nat) : Int) := by omega
    rw [h1i]
    refine assignL rfl rfl F3 N3 fun h' F4 N4 => ?_
    clear F3 N3
    replace F4 : Fr g L h' _ := F4
    replace N4 : News g L h' _ := N4
    rw [updTwice] at F4
    subst hm0
    ktn_open
    refine Held.of ?_
    generalize hm1 : (fun y : Str => if y = PySem.Str.ofString "part" then _ else _) = m1 at F4
    have hIS : I ≠ S ∧ I ≠ 16 := ⟨(offI (S, setObj keys adr ep t) (by simp)).symm, (offI (16, tabObj ps') (by simp)).symm⟩
    refine forListE (h₀ := g) (L := L) (fun its q m₂ nw => ∃ rl, RowsAre rl its.toList (monicL kn (i + 1)) ∧ Above rl ((I, oI) :: R) ∧ (∀ q ∈ rl, q.1 ≠ S ∧ q.1 ≠ 16) ∧
      JJ S (rl ++ (I, oI) :: R) (tl ++ []) (onesL kn ((monicL kn (i + 1)).take q) (monicL kn (dg - (i + 1))) (partsL kn dg i (st0 led))) nw ∧ Off [PySem.Str.ofString "one", PySem.Str.ofString "two"] m₂ m1) rfl ?_ ?_ ?_
    · subst hm1
      ktn_open
      refine Held.of ?_
      refine monic_spec (mb := mb) (mg := mg) (mean := mean) (loose := loose) (p := p) kn (i + 1) _ _ (by omega) (by omega) ee _ _ _ _ _ _ _ _ [] callerA g g L _ ((S, setObj keys adr ep t) :: (I, oI) :: R) ps' _ _ B F4 X (nSub N4 ?hsub) ?g16 T CH rfl hg₁ htab' trivial ?gdp ?gun ?_
      case gdp => decide
      case gun => decide
      case hsub =>
        intro q hq
        simp only [List.mem_cons] at hq ⊢
        rcases hq with rfl | rfl | rfl | hq <;> simp [*]
      case g16 =>
        intro q hq
        simp only [List.mem_cons] at hq
        rcases hq with rfl | rfl | hq
        · exact Nat.ne_of_gt hS16
        · exact hIS.2
        · exact (hRS q hq).2
      rintro r s₅ rl ps₅ hos₅ hg₅ htab₅ F5 N5 habv5 ⟨DM, ysM, cM, rfl, hDM, hrows⟩
      refine ⟨ysM.toArray, DM, _, (S, setObj keys adr ep t) :: (16, tabObj ps₅) :: ([] ++ (rl ++ (I, oI) :: R)), rfl, .inr ⟨W.listOf ysM.toArray cM, ?_, rfl, _, rfl⟩, F5, nSub N5 (fun q hq => ?_), hg₅, hos₅, rl, by simpa using hrows, habv5.mono (fun p hp => ?_), fun q hq => ?_, ⟨[], keys, t, adr, ep, ps₅, rfl, ?_, htab₅, Above.nil, fun _ h => (nomatch h), fun k hk => by simpa using hks k hk⟩, Off.refl⟩
      · simp [hDM]
      · simp only [List.nil_append, List.mem_cons, List.mem_append] at hq ⊢
        rcases hq with rfl | rfl | hq | rfl | hq <;> simp [*]
      · simp only [List.mem_cons] at hp ⊢
        rcases hp with rfl | hp <;> simp [*]
      · exact ⟨Nat.ne_of_gt (habv5 q hq (S, setObj keys adr ep t) (by simp)), Nat.ne_of_gt (habv5 q hq (16, tabObj ps₅) (by simp))⟩
      · rw [List.take_zero]; exact hst
    · rintro its q v m₂ nw ax I2 oI2 s₂ hv ⟨rl, hrows, hrlA, hrlS, ⟨tl2, keys2, t2, adr2, ep2, ps2, rfl, hst2, htab2, habv2, htl2, hks2⟩, hoff2⟩ hSrc hos₂ hg₂ F5 N5 offI2
      clear F4 N4
      obtain ⟨one, hone, ⟨a₁, vs₁, n₁, rfl, ha₁, hi₁⟩⟩ := hrows.get (i := q) (v := v) (by simpa using hv)
      rw [hoff2.exp2] at F5
      generalize m₂ (PySem.Str.ofString "one") = uo2 at F5
      generalize m₂ (PySem.Str.ofString "two") = ut2 at F5
      have hKm2 : (L + 2, oK) ∈ tl2 ++ (rl ++ (I, oI) :: R) := List.mem_append_right _ (List.mem_append_right _ (.tail _ hKm))
      have ha₁' : (a₁, W.listOf vs₁.toArray n₁) ∈ tl2 ++ (rl ++ (I, oI) :: R) := List.mem_append_right _ (List.mem_append_left _ ha₁)
      have hRS2 : ∀ q ∈ tl2 ++ (rl ++ (I, oI) :: R), q.1 ≠ S ∧ q.1 ≠ 16 := fun q hq => by
        simp only [List.mem_append, List.mem_cons] at hq
        rcases hq with hq | hq | rfl | hq
        · exact htl2 q hq
        · exact hrlS q hq
        · exact hIS
        · exact hRS q hq
      have hRI2 : ∀ q ∈ tl2 ++ (rl ++ (I, oI) :: R), q.1 ≠ I2 := fun q hq => offI2 q (.tail _ (.tail _ hq))
      have hIS2 : I2 ≠ S ∧ I2 ≠ 16 := ⟨(offI2 (S, setObj keys2 adr2 ep2 t2) (by simp)).symm, (offI2 (16, tabObj ps2) (by simp)).symm⟩
      generalize hbb2 : rl ++ (I, oI) :: R = b2 at *
      generalize hR2 : tl2 ++ b2 = R2 at *
      subst hm1
      refine assignL rfl rfl F5 N5 fun h' F6 N6 => ?_
      clear F5 N5
      replace F6 : Fr g L h' _ := F6
      replace N6 : News g L h' _ := N6
      rw [updTwice] at F6
      ktn_open
      refine Held.of ?_
      generalize hm2 : (fun y : Str => if y = PySem.Str.ofString "one" then _ else _) = m2 at F6
      refine forListE (h₀ := g) (L := L) (fun its j m₃ nw => ∃ rl3, RowsAre rl3 its.toList (monicL kn (dg - (i + 1))) ∧ Above rl3 ((I2, oI2) :: R2) ∧ (∀ q ∈ rl3, q.1 ≠ S ∧ q.1 ≠ 16) ∧
        JJ S (rl3 ++ (I2, oI2) :: R2) (tl2 ++ (tl ++ [])) (addL kn one ((monicL kn (dg - (i + 1))).take j) (onesL kn ((monicL kn (i + 1)).take q) (monicL kn (dg - (i + 1))) (partsL kn dg i (st0 led)))) nw ∧ Off [PySem.Str.ofString "two"] m₃ m2) rfl ?_ ?_ ?_
      · subst hm2
        ktn_open
        refine Held.of ?_
        have hsub : (dg : Int) - ((i + 1 : Nat) : Int) = ((dg - (i + 1) : Nat) : Int) := by omega
        rw [hsub]
        refine monic_spec (mb := mb) (mg := mg) (mean := mean) (loose := loose) (p := p) kn (dg - (i + 1)) _ _ (by omega) (by omega) ee _ _ _ _ _ _ _ _ [] callerA g g L _ ((S, setObj keys2 adr2 ep2 t2) :: (I2, oI2) :: R2) ps2 _ _ B F6 X (nSub N6 ?hsub) ?g16 T CH rfl hg₂ htab2 trivial ?gdp ?gun ?_
        case gdp => decide
        case gun => decide
        case hsub =>
          intro q hq
          simp only [List.mem_cons] at hq ⊢
          rcases hq with rfl | rfl | rfl | hq <;> simp [*]
        case g16 =>
          intro q hq
          simp only [List.mem_cons] at hq
          rcases hq with rfl | rfl | hq
          · exact Nat.ne_of_gt hS16
          · exact hIS2.2
          · exact (hRS2 q hq).2
        rintro r s₅ rl3 ps₅ hos₅ hg₅ htab₅ F7 N7 habv5 ⟨DM, ysM, cM, rfl, hDM, hrows3⟩
        refine ⟨ysM.toArray, DM, _, (S, setObj keys2 adr2 ep2 t2) :: (16, tabObj ps₅) :: ([] ++ (rl3 ++ (I2, oI2) :: R2)), rfl, .inr ⟨W.listOf ysM.toArray cM, ?_, rfl, _, rfl⟩, F7, nSub N7 (fun q hq => ?_), hg₅, hos₅, rl3, by simpa using hrows3, habv5.mono (fun p hp => ?_), fun q hq => ?_, ⟨[], keys2, t2, adr2, ep2, ps₅, rfl, ?_, htab₅, Above.nil, fun _ h => (nomatch h), fun k hk => hks2 k hk⟩, Off.refl⟩
        · simp [hDM]
        · simp only [List.nil_append, List.mem_cons, List.mem_append] at hq ⊢
          rcases hq with rfl | rfl | hq | rfl | hq <;> simp [*]
        · simp only [List.mem_cons] at hp ⊢
          rcases hp with rfl | hp <;> simp [*]
        · exact ⟨Nat.ne_of_gt (habv5 q hq (S, setObj keys2 adr2 ep2 t2) (by simp)), Nat.ne_of_gt (habv5 q hq (16, tabObj ps₅) (by simp))⟩
        · rw [List.take_zero]; exact hst2
      · rintro its3 j v3 m₃ nw3 ax3 I3 oI3 s₃ hv3 ⟨rl3, hrows3, hrl3A, hrl3S, ⟨tl3, keys3, t3, adr3, ep3, ps3, rfl, hst3, htab3, habv3, htl3, hks3⟩, hoff3⟩ hSrc3 hos₃ hg₃ F7 N7 offI3
        clear F6 N6
        obtain ⟨two, htwo, ⟨a₂, vs₂, n₂, rfl, ha₂, hi₂⟩⟩ := hrows3.get (i := j) (v := v3) (by simpa using hv3)
        rw [hoff3.exp1] at F7
        generalize m₃ (PySem.Str.ofString "two") = ut3 at F7
        have hKm3 : (L + 2, oK) ∈ tl3 ++ (rl3 ++ (I2, oI2) :: R2) := List.mem_append_right _ (List.mem_append_right _ (.tail _ hKm2))
        have ha₁3 : (a₁, W.listOf vs₁.toArray n₁) ∈ tl3 ++ (rl3 ++ (I2, oI2) :: R2) := List.mem_append_right _ (List.mem_append_right _ (.tail _ ha₁'))
        have ha₂3 : (a₂, W.listOf vs₂.toArray n₂) ∈ tl3 ++ (rl3 ++ (I2, oI2) :: R2) := List.mem_append_right _ (List.mem_append_left _ ha₂)
        have hRS3 : ∀ q ∈ tl3 ++ (rl3 ++ (I2, oI2) :: R2), q.1 ≠ S ∧ q.1 ≠ 16 := fun q hq => by
          simp only [List.mem_append, List.mem_cons] at hq
          rcases hq with hq | hq | rfl | hq
          · exact htl3 q hq
          · exact hrl3S q hq
          · exact hIS2
          · exact hRS2 q hq
        have hIS3 : I3 ≠ S ∧ I3 ≠ 16 := ⟨(offI3 (S, setObj keys3 adr3 ep3 t3) (by simp)).symm, (offI3 (16, tabObj ps3) (by simp)).symm⟩
        generalize hbb3 : rl3 ++ (I2, oI2) :: R2 = b3' at *
        generalize hR3 : tl3 ++ b3' = R3 at *
        subst hm2
        refine assignL rfl rfl F7 N7 fun h' F8 N8 => ?_
        clear F7 N7
        replace F8 : Fr g L h' _ := F8
        replace N8 : News g L h' _ := N8
        rw [updTwice] at F8
        ktn_open
        refine Held.of ?_
        have gS := N8 (S, setObj keys3 adr3 ep3 t3) (by simp)
        refine getMethod_builtin (T := "set") ⟨_, gS.1, rfl⟩ PySem.F.plainAttrs_set PySem.F.slot_set_add PySem.F.type_set_add (fun b eb => by cases eb; exact ⟨_, gS.1, rfl⟩) ?_
        ktn_open
        refine Held.of ?_
        have hl1 := monicL_len (List.mem_of_getElem? hone)
        have hl2 := monicL_len (List.mem_of_getElem? htwo)
        refine product_spec (mb := mb) (mg := mg) (mean := mean) (loose := loose) (p := p) a₁ a₂ _ (kn : Int) one two (by omega) ee _ _ _ _ _ _ _ _ [] callerA g g L _ ((S, setObj keys3 adr3 ep3 t3) :: (I3, oI3) :: R3) ps3 _ _ B F8 X (nSub N8 ?hsub) ?g16 T CH rfl hg₃ htab3 ⟨⟨_, vs₁, n₁, .tail _ (.tail _ ha₁3), rfl, hi₁⟩, ⟨_, vs₂, n₂, .tail _ (.tail _ ha₂3), rfl, hi₂⟩, by omega, by omega, by omega, by omega, monicL_small (by omega) (List.mem_of_getElem? hone), monicL_small (by omega) (List.mem_of_getElem? htwo)⟩ ?gdp ?gun ?_
        case gdp => decide
        case gun => decide
        case hsub =>
          intro q hq
          simp only [List.mem_cons] at hq ⊢
          rcases hq with rfl | rfl | rfl | hq <;> simp [*]
        case g16 =>
          intro q hq
          simp only [List.mem_cons] at hq
          rcases hq with rfl | rfl | hq
          · exact Nat.ne_of_gt hS16
          · exact hIS3.2
          · exact (hRS3 q hq).2
        rintro r s₅ tlp ps₅ hos₅ hg₅ htab₅ F9 N9 habv5 ⟨qa, qo, us, qn, rfl, rfl, rfl, hus⟩
        ktn_open
        refine Held.of ?_
        have hpx := habv5 (qa, _) (.head _)
        have hqa16 : (16 : Nat) < qa := hpx (16, tabObj ps₅) (.head _)
        have hqaS : S < qa := hpx (S, setObj keys3 adr3 ep3 t3) (by simp)
        have hqaI : I3 < qa := hpx (I3, oI3) (by simp)
        have hTR : ∀ p ∈ tl3 ++ (tl2 ++ (tl ++ [])), p ∈ R3 := by
          intro p hp
          rw [← hR3, ← hbb3, ← hR2, ← hbb2, ← hR]
          simp only [List.append_nil, List.mem_append, List.mem_cons] at hp ⊢
          rcases hp with h | h | h <;> simp [h]
        have hok := simOk (st := st0 led) (j := j) (by rw [hfull]; nofun) hi hone
        rw [addL_snoc htwo, hst3] at hok
        obtain ⟨st', hst'⟩ := Option.ne_none_iff_exists'.mp hok
        obtain ⟨keys4, t4⟩ := st'
        have hsnoc := addL_snoc (kn := kn) (one := one) (st := onesL kn ((monicL kn (i + 1)).take q) (monicL kn (dg - (i + 1))) (partsL kn dg i (st0 led))) htwo
        rw [hst3, hst'] at hsnoc
        refine setAddT (keys := keys3) (adr := adr3) (ep := ep3) (keys' := keys4) (t := t3) (t' := t4) (k := prodL one two kn) (rest := (qa, _) :: (tl3 ++ (tl2 ++ (tl ++ [])))) ?hu hst' F9 (nSub N9 ?hsub2) ?hoff4 ⟨us, qn, .head _, hus⟩ ?hks4 ?_
        case hu => (have hcl := cLine_is); (simp only [units_deeper, units_caller]); omega
        case hsub2 =>
          intro p hp
          simp only [List.mem_cons] at hp ⊢
          rcases hp with rfl | rfl | hp
          · simp
          · simp
          · have := hTR p hp
            simp [this]
        case hoff4 =>
          intro p hp
          rcases List.mem_cons.mp hp with rfl | hp
          · exact Nat.ne_of_gt hqaS
          · exact (hRS3 p (hTR p hp)).1
        case hks4 =>
          intro k' hk'
          obtain ⟨us', n', hm', hi'⟩ := hks3 k' hk'
          exact ⟨us', n', .tail _ hm', hi'⟩
        intro h10 tk10 adr10 ep10 sb10 F10 N10 hks10
        ktn_open
        have N11 : News g L h10 ((16, tabObj ps₅) :: (qa, { cls := .type "tuple", data := .seq (List.toArray us) qn }) :: (I3, oI3) :: R3) := newsBut (nSub N9 (fun p hp => by
          simp only [List.mem_cons] at hp ⊢
          rcases hp with rfl | rfl | rfl | hp <;> simp [*])) sb10 (fun p hp => by
            simp only [List.mem_cons] at hp
            rcases hp with rfl | rfl | rfl | hp
            · exact Nat.ne_of_lt hS16
            · exact Nat.ne_of_gt hqaS
            · exact hIS3.1
            · exact (hRS3 p hp).1)
        refine ⟨hos₅.trans hos₃, hg₅, _, (S, setObj keys4 adr10 ep10 t4) :: (16, tabObj ps₅) :: (((qa, { cls := .type "tuple", data := .seq (List.toArray us) qn }) :: tl3) ++ b3'), F10, ?_, ?_, srcMove hSrc3 ?_, rl3, hrows3, hrl3A, hrl3S, ⟨(qa, { cls := .type "tuple", data := .seq (List.toArray us) qn }) :: tl3, keys4, t4, adr10, ep10, ps₅, by rw [hbb3], hsnoc, htab₅, ?_, ?_, hks10⟩, ?_⟩
        · intro p hp
          rw [List.cons_append, hR3] at hp
          simp only [List.mem_cons] at hp
          rcases hp with rfl | rfl | rfl | rfl | hp
          · exact N11 _ (by simp)
          · exact N10 _ (.head _)
          · exact N11 _ (by simp)
          · exact N11 _ (by simp)
          · exact N11 p (by simp [hp])
        · intro p hp
          rw [List.cons_append, hR3] at hp
          simp only [List.mem_cons] at hp
          rcases hp with rfl | rfl | rfl | hp
          · exact hIS3.1.symm
          · exact hIS3.2.symm
          · exact Nat.ne_of_gt hqaI
          · exact offI3 p (.tail _ (.tail _ hp))
        · intro p hp
          rw [List.cons_append, hR3]
          simp [hp]
        · rw [hbb3]
          refine Above.cons (fun p hp => hpx p ?_) habv3
          have : p ∈ R3 := hR3 ▸ List.mem_append_right _ hp
          simp [this]
        · intro p hp
          rcases List.mem_cons.mp hp with rfl | hp
          · exact ⟨Nat.ne_of_gt hqaS, Nat.ne_of_gt hqa16⟩
          · exact htl3 p hp
        · intro y hy
          have h1 : y ≠ PySem.Str.ofString "two" := by simpa using hy
          simp only [if_neg h1]
      · rintro its3 m₃ nw3 s₃ ⟨rl3, hrows3, hrl3A, hrl3S, hJ, hoff3⟩ hos₃ hg₃ F7 N7
        clear F6 N6
        rw [← hR2] at hJ hrl3A hRI2
        obtain ⟨nw', h1, h2, h3, h4⟩ := jjFold hJ hrl3A hrl3S htl2 habv2 hRI2 hIS2
        have hsz : (monicL kn (dg - (i + 1))).take its3.size = monicL kn (dg - (i + 1)) := List.take_of_length_le (by rw [← hrows3.length]; simp)
        rw [hsz, ← onesL_snoc hone] at h3
        dsimp only
        refine wpAny_execs_nil ?_
        refine ⟨hos₃.trans hos₂, hg₃, _, nw', F7, nSub N7 h1, h2, srcMove hSrc (fun p hp => h4 p (by rw [hR2]; exact hp)), rl, hrows, hrlA, hrlS, by rw [hbb2]; exact h3, ?_⟩
        subst hm2
        intro y hy
        have e1 : y ≠ PySem.Str.ofString "one" := fun e => hy (by simp [e])
        have e2 : y ≠ PySem.Str.ofString "two" := fun e => hy (by simp [e])
        rw [hoff3 y (by simp [e2])]
        simp only [if_neg e1, if_neg e2]
    · rintro its m₂ nw2 s₂ ⟨rl, hrows, hrlA, hrlS, hJ, hoff2⟩ hos₂ hg₂ F5 N5
      clear F4 N4
      rw [← hR] at hJ hrlA hRI
      obtain ⟨nw', h1, h2, h3, h4⟩ := jjFold hJ hrlA hrlS htl habv hRI hIS
      have hsz : (monicL kn (i + 1)).take its.size = monicL kn (i + 1) := List.take_of_length_le (by rw [← hrows.length]; simp)
      rw [hsz, ← partsL_succ] at h3
      dsimp only
      refine wpAny_execs_nil ?_
      refine ⟨hos₂.trans hos₁, hg₂, _, nw', F5, nSub N5 h1, h2, trivial, h3, ?_⟩
      subst hm1
      intro y hy
      have e1 : y ≠ PySem.Str.ofString "one" := fun e => hy (by simp [e])
      have e2 : y ≠ PySem.Str.ofString "two" := fun e => hy (by simp [e])
      have e3 : y ≠ PySem.Str.ofString "part" := fun e => hy (by simp [e])
      rw [hoff2 y (by simp [e1, e2])]
      simp only [if_neg e1, if_neg e2, if_neg e3]
  · rintro m₁ nw s₁ ⟨⟨tl, keys, t, adr, ep, ps', rfl, hst, htab', habv, htl, hks⟩, hoff⟩ hos₁ hg₁ F3 N3
    clear F2 N2
    rw [hoff.exp3] at F3
    generalize m₁ (PySem.Str.ofString "part") = up at F3
    generalize m₁ (PySem.Str.ofString "one") = uo at F3
    generalize m₁ (PySem.Str.ofString "two") = ut at F3
    rw [hfull] at hst
    cases hst
    have N4 : News g L s₁.heap ((S, setObj keysF adr ep tF) :: Base D ys c L oL oK oS ps') := nSub N3 fun p hp => by
      simp only [List.mem_cons, List.mem_append, List.not_mem_nil, or_false] at hp ⊢
      rcases hp with rfl | rfl | rfl | rfl | rfl | rfl <;> simp
    clear N3
    subst hm0
    ktn_open
    refine Held.of ?_
    refine lawsum_spec (mb := mb) (mg := mg) (mean := mean) (loose := loose) (p := p) (kn : Int) dg _ _ (by omega) (by omega) (by omega) (by omega) ee _ _ _ _ _ _ _ _ [] callerA g g L _ ((S, setObj keysF adr ep tF) :: (D, W.listOf (List.toArray ys) c) :: (L + 3, oL) :: (L + 2, oK) :: (L + 1, oS) :: []) ps' _ _ B F3 X (nSub N4 ?hsub) ?g16 T CH rfl hg₁ htab' trivial ?gdp ?gun ?_
    case gdp => decide
    case gun => decide
    case hsub =>
      intro q hq
      simp only [List.mem_cons, List.not_mem_nil, or_false] at hq ⊢
      rcases hq with rfl | rfl | rfl | rfl | rfl | rfl <;> simp
    case g16 =>
      intro q hq
      simp only [List.mem_cons, List.not_mem_nil, or_false] at hq
      rcases hq with rfl | rfl | rfl | rfl | rfl
      · exact Nat.ne_of_gt hS16
      · exact d16.symm
      · exact Nat.ne_of_gt (Nat.lt_of_lt_of_le l16 (Nat.le_add_right _ _))
      · exact Nat.ne_of_gt (Nat.lt_of_lt_of_le l16 (Nat.le_add_right _ _))
      · exact Nat.ne_of_gt (Nat.lt_of_lt_of_le l16 (Nat.le_add_right _ _))
    rintro r s₅ tl₅ ps₅ hos₅ hg₅ htab₅ F5 N5 habv ⟨u₅, rfl⟩
    have N6 : News g L s₅.heap ((S, setObj keysF adr ep tF) :: Base D ys c L oL oK oS ps₅) := nSub N5 fun q hq => by
      simp only [List.mem_cons, List.mem_append, List.not_mem_nil, or_false] at hq ⊢
      rcases hq with rfl | rfl | rfl | rfl | rfl | rfl <;> simp
    clear N5 N4 F3
    replace F5 : Fr g L s₅.heap _ := F5
    have hst := StopE.mk
    ktn_open
    refine Held.of ?_
    have gS := N6 (S, setObj keysF adr ep tF) (.head _)
    have hmsz : (keysF.map (fE adr)).size = keysF.size := Array.size_map
    refine call_len_set gS.1 ⟨rfl, rfl, rfl⟩ rfl (by rw [hmsz]; exact hfits) (by rw [hmsz]; omega) ?_
    rw [hmsz]
    ktn_open
    · rename_i hne _
      exact absurd hlaw hne
    · refine Held.of ?_
      dsimp only
      refine next _ _ ps₅ F5 ?_ (nDrop1 N6) htab₅ hg₅ ?_
      · intro y hy
        have h1 : y ≠ PySem.Str.ofString "products" := fun e => hy (by simp [e])
        have h2 : y ≠ PySem.Str.ofString "part" := fun e => hy (by simp [e])
        have h3 : y ≠ PySem.Str.ofString "one" := fun e => hy (by simp [e])
        have h4 : y ≠ PySem.Str.ofString "two" := fun e => hy (by simp [e])
        simp only [if_neg h1, if_neg h2, if_neg h3, if_neg h4]
        split
        · rename_i e; rw [e, hmd]
        · rfl
      · exact hos₅.trans hos₁
end Mine

namespace Mine
local macro_rules | `(tactic| k_mem) => `(tactic| assumption)
local macro_rules | `(tactic| walk_at "exec For Name Call cons nil") => `(tactic| refine Held.mk ?_)
local macro_rules | `(tactic| walk_at "exec For Name Name cons nil") => `(tactic| refine Held.mk ?_)
local macro_rules | `(tactic| walk_at "exec Assign cons ListComp") => `(tactic| refine Held.mk ?_)
local macro_rules | `(tactic| walk_at "eval ListComp") => `(tactic| refine Held.mk ?_)
local macro_rules | `(tactic| walk_at "pyIter ref") => `(tactic| refine Held.mk ?_)
local macro_rules | `(tactic| walk_at "execs cons") => `(tactic| ((have hst := (by assumption : StopE)); refine Held.mk ?_))
local macro_rules | `(tactic| walk_at "call ref") => `(tactic| refine Held.mk ?_)
local macro_rules | `(tactic| walk_at "call builtin:set.add") => `(tactic| refine Held.mk ?_)
local macro_rules | `(tactic| ktn_open) => `(tactic| repeat' (first | (k_unfold; (try dsimp only)) | walk1 | (dsimp only; walk1)))
def totAt (size : Nat) (ws : List Int) (q : Nat) : List Int := ws.set (size + q) (ws.getD (size + q) 0 + ws.getD q 0)
def totTo (size : Nat) (ws : List Int) : Nat → List Int
  | 0 => ws
  | q + 1 => totAt size (totTo size ws q) q
def turnTo (size mo : Nat) (ws : List Int) : Nat → List Int
  | 0 => ws
  | r + 1 => totTo size (turnTo size mo ws r) (mo + 1 - size)
def turnsOf (kn size : Nat) : Nat := ((lawSum (kn : Int) size).fdiv (size : Int)).toNat
def waysTo (kn mo : Nat) : Nat → List Int
  | 0 => 1 :: List.replicate mo 0
  | i + 1 => turnTo (i + 1) mo (waysTo kn mo i) (turnsOf kn (i + 1))
theorem totTo_len (size : Nat) (ws : List Int) (q : Nat) : (totTo size ws q).length = ws.length := by
  induction q with
  | zero => rfl
  | succ q ih => show ((totTo size ws q).set _ _).length = _; rw [List.length_set, ih]
theorem turnTo_len (size mo : Nat) (ws : List Int) (r : Nat) : (turnTo size mo ws r).length = ws.length := by
  induction r with
  | zero => rfl
  | succ r ih => show (totTo size _ _).length = _; rw [totTo_len, ih]
theorem waysTo_len (kn mo i : Nat) : (waysTo kn mo i).length = mo + 1 := by
  induction i with
  | zero => show (1 :: List.replicate mo 0).length = _; simp
  | succ i ih => show (turnTo _ _ _ _).length = _; rw [turnTo_len, ih]
def powL (kn : Nat) (n : Nat) : List Int := (List.range n).map fun t => (kn : Int) ^ t
theorem ways_law {kn mo : Nat} (h : kn = 2 ∧ mo = 8 ∨ kn = 3 ∧ mo = 6) : waysTo kn mo mo = powL kn (mo + 1) := by
  rcases h with ⟨rfl, rfl⟩ | ⟨rfl, rfl⟩ <;> decide +kernel
theorem sum_law {kn mo s : Nat} (h : kn = 2 ∧ mo = 8 ∨ kn = 3 ∧ mo = 6) (h1 : s < mo) : 0 ≤ lawSum (kn : Int) (s + 1) ∧ lawSum (kn : Int) (s + 1) ≤ 10000 := by
  have a : ∀ s : Fin 8, 0 ≤ lawSum ((2 : Nat) : Int) (s.val + 1) ∧ lawSum ((2 : Nat) : Int) (s.val + 1) ≤ 10000 := by decide +kernel
  have b : ∀ s : Fin 6, 0 ≤ lawSum ((3 : Nat) : Int) (s.val + 1) ∧ lawSum ((3 : Nat) : Int) (s.val + 1) ≤ 10000 := by decide +kernel
  rcases h with ⟨rfl, rfl⟩ | ⟨rfl, rfl⟩
  · exact a ⟨s, h1⟩
  · exact b ⟨s, h1⟩
theorem law4 {prog : Program} {w : World} {p : Program} {loose : List Str} {mean : ExcName → Option Value} {mg mb : Str → Option Value} {d : DefRec} (hd9 : LawDef d)
   (fa : Addr) (cd : Value) (g : Heap) (L : Addr) (s : Shared) (m : Loc) (oL oK oS : Obj) (qk : Flow → Shared → Prop) (D : Addr) (ys : List Value) (c kn mo : Nat) (tk tm : Tok) (ps : Array Value)
   (T : Top p loose mean mg mb g) (X : (hd.heap_39 w.params).In g) (B : Below callerA g [] g) (CH : CodeHd g 20 16) (l16 : (16 : Nat) < L) (d16 : 16 ≠ D)
   (hkm : kn = 2 ∧ mo = 8 ∨ kn = 3 ∧ mo = 6) (F1 : Fr g L s.heap m) (hmm : m (PySem.Str.ofString "most") = some (.int (mo : Int) tm)) (N1 : News g L s.heap (Base D ys c L oL oK oS ps)) (htab : TabOk ps)
   (hoK : oK.data = .cell (some (.int (kn : Int) tk))) (hg : AllBare s.gens)
   (e : PySem.Challenge.rw_aw5004_01 = PySem.Challenge.rw_aw5004_01 ∧ hd.heap_39 = hd.heap_39)
   (next : ∀ (s' : Shared) (m' : Loc) (ps : Array Value), Fr g L s'.heap m' → Off [PySem.Str.ofString "ways", PySem.Str.ofString "size", PySem.Str.ofString "turn", PySem.Str.ofString "total"] m' m → News g L s'.heap (Base D ys c L oL oK oS ps) → TabOk ps → AllBare s'.gens → s'.os = s.os →
     wpAny (model prog w) (callerA.deeper (envOfC d.name d.scope L fa cd)) (execs (d.body.drop 13) (envOfC d.name d.scope L fa cd)) qk NR s') :
   wpAny (model prog w) (callerA.deeper (envOfC d.name d.scope L fa cd)) (execs (d.body.drop 10) (envOfC d.name d.scope L fa cd)) qk NR s := by
  cases hd9
  dsimp only [List.drop] at next ⊢
  revert e; k_fill; intro ee
  replace F1 := frSee F1 hmm
  ktn_open
  rename Fr _ _ _ _ => F2
  rename News _ _ _ _ => N2
  rename_i Wy wv _ hwv lW _
  have hWall : ∀ ps'', ∀ p ∈ Base D ys c L oL oK oS ps'', p.1 ≠ Wy := by
    intro ps'' q hq
    have h0 := lW.2.2.2
    simp only [List.mem_cons, List.not_mem_nil, or_false] at hq
    rcases hq with rfl | rfl | rfl | rfl | rfl
    · exact Nat.ne_of_lt h0.1
    · exact Nat.ne_of_lt h0.2.1
    · exact Nat.ne_of_lt h0.2.2.1
    · exact Nat.ne_of_lt h0.2.2.2.1
    · exact Nat.ne_of_lt h0.2.2.2.2
  have hb16 : ∀ q ∈ (D, W.listOf (List.toArray ys) c) :: (L + 3, oL) :: (L + 2, oK) :: (L + 1, oS) :: [], q.1 ≠ 16 := by
    intro q hq
    simp only [List.mem_cons, List.not_mem_nil, or_false] at hq
    rcases hq with rfl | rfl | rfl | rfl
    · exact d16.symm
    · exact Nat.ne_of_gt (Nat.lt_of_lt_of_le l16 (Nat.le_add_right _ _))
    · exact Nat.ne_of_gt (Nat.lt_of_lt_of_le l16 (Nat.le_add_right _ _))
    · exact Nat.ne_of_gt (Nat.lt_of_lt_of_le l16 (Nat.le_add_right _ _))
  have hW16 : Wy ≠ 16 := (hWall ps (16, tabObj ps) (by simp)).symm
  have hwv0 : IntsAre wv (waysTo kn mo 0) := by
    rw [rep_flat] at hwv
    exact hwv
  replace N2 : News g L _ ((Wy, W.listOf (List.toArray wv) 0) :: Base D ys c L oL oK oS ps) := nSub N2 (fun q hq => by
    rcases List.mem_cons.mp hq with rfl | hq
    · exact .head _
    · exact .tail _ (.tail _ (.tail _ (.tail _ hq))))
  refine Held.of ?_
  generalize hm0 : (fun y : Str => if y = PySem.Str.ofString "ways" then some (Value.ref Wy) else _) = m0 at F2
  refine forRange (h₀ := g) (L := L) (a := 1) (n := mo) (fun i m₁ nw => ∃ vs c' ps', nw = (Wy, W.listOf (List.toArray vs) c') :: Base D ys c L oL oK oS ps' ∧ TabOk ps' ∧ IntsAre vs (waysTo kn mo i) ∧ Off [PySem.Str.ofString "size", PySem.Str.ofString "turn", PySem.Str.ofString "total"] m₁ m0) rfl ?_ ?_ ?_
  · subst hm0
    ktn_open
    rename Fr _ _ _ _ => F3
    rename News _ _ _ _ => N3
    rename IsRange _ _ _ _ _ _ _ _ => R3
    refine ⟨_, _, _, _, _, _, _, rfl, R3, rsmall _ _ (by omega) (by omega) (by omega) (by omega), ?_, F3, N3, hg, rfl, ⟨wv, _, ps, rfl, htab, hwv0, Off.refl⟩⟩
    rw [rangeSize_one]; split <;> omega
  · rintro i t₁ m₁ nw I oI s₁ hi ⟨vs, c', ps', rfl, htab', hvs, hoff⟩ hos₁ hg₁ F3 N3 offI
    clear F2 N2
    rw [hoff.exp3] at F3
    generalize m₁ (PySem.Str.ofString "size") = up at F3
    generalize m₁ (PySem.Str.ofString "turn") = uo at F3
    generalize m₁ (PySem.Str.ofString "total") = ut at F3
    have h1i : (1 : Int) + (i : Int) = ((i + 1 : Nat) : Int) := by omega
    rw [h1i]
    refine assignL rfl rfl F3 N3 fun h' F4 N4 => ?_
    clear F3 N3
    replace F4 : Fr g L h' _ := F4
    replace N4 : News g L h' _ := N4
    rw [updTwice] at F4
    subst hm0
    ktn_open
    refine Held.of ?_
    generalize hm1 : (fun y : Str => if y = PySem.Str.ofString "size" then _ else _) = m1 at F4
    have hIW : Wy ≠ I := offI (Wy, W.listOf (List.toArray vs) c') (by simp)
    have hI16 : I ≠ 16 := (offI (16, tabObj ps') (by simp)).symm
    have hIall : ∀ ps'', ∀ p ∈ Base D ys c L oL oK oS ps'', p.1 ≠ I := by
      intro ps'' q hq
      simp only [List.mem_cons, List.not_mem_nil, or_false] at hq
      rcases hq with rfl | rfl | rfl | rfl | rfl
      · exact offI (D, W.listOf (List.toArray ys) c) (by simp)
      · exact offI (L + 3, oL) (by simp)
      · exact offI (L + 2, oK) (by simp)
      · exact offI (L + 1, oS) (by simp)
      · exact hI16.symm
    obtain ⟨hsl1, hsl2⟩ := sum_law hkm hi
    refine forRange0 (h₀ := g) (L := L) (n := turnsOf kn (i + 1)) (fun r m₂ nw => ∃ vs2 c2 ps2, nw = (Wy, W.listOf (List.toArray vs2) c2) :: (I, oI) :: Base D ys c L oL oK oS ps2 ∧ TabOk ps2 ∧ IntsAre vs2 (turnTo (i + 1) mo (waysTo kn mo i) r) ∧ Off [PySem.Str.ofString "turn", PySem.Str.ofString "total"] m₂ m1) rfl ?_ ?_ ?_
    · subst hm1
      ktn_open
      refine Held.of ?_
      refine lawsum_spec (mb := mb) (mg := mg) (mean := mean) (loose := loose) (p := p) (kn : Int) (i + 1) _ _ (by omega) (by omega) (by omega) (by omega) ee _ _ _ _ _ _ _ _ [] callerA g g L _ ((Wy, W.listOf (List.toArray vs) c') :: (I, oI) :: (D, W.listOf (List.toArray ys) c) :: (L + 3, oL) :: (L + 2, oK) :: (L + 1, oS) :: []) ps' _ _ B F4 X (nSub N4 ?hsub) ?g16 T CH rfl hg₁ htab' trivial ?gdp ?gun ?_
      case gdp => decide
      case gun => decide
      case hsub =>
        intro q hq
        simp only [List.mem_cons, List.not_mem_nil, or_false] at hq ⊢
        rcases hq with rfl | rfl | rfl | rfl | rfl | rfl | rfl <;> simp
      case g16 =>
        intro q hq
        rcases List.mem_cons.mp hq with rfl | hq
        · exact hW16
        · rcases List.mem_cons.mp hq with rfl | hq
          · exact hI16
          · exact hb16 q hq
      rintro r s₅ tl₅ ps₅ hos₅ hg₅ htab₅ F5 N5 habv ⟨u₅, rfl⟩
      have N6 : News g L s₅.heap ((Wy, W.listOf (List.toArray vs) c') :: (I, oI) :: Base D ys c L oL oK oS ps₅) := nSub N5 fun q hq => by
        simp only [List.mem_cons, List.mem_append, List.not_mem_nil, or_false] at hq ⊢
        rcases hq with rfl | rfl | rfl | rfl | rfl | rfl | rfl <;> simp
      clear N5 N4 F4
      have hip : ((i + 1 : Nat) : Int) ≠ 0 := by omega
      generalize hls : lawSum (kn : Int) (i + 1) = ls at *
      have hfd : ls.fdiv ((i + 1 : Nat) : Int) = ((turnsOf kn (i + 1) : Nat) : Int) := by
        unfold turnsOf
        rw [hls, Int.fdiv_eq_ediv_of_nonneg _ (by omega)]
        have := Int.ediv_nonneg hsl1 (show (0 : Int) ≤ ((i + 1 : Nat) : Int) by omega)
        omega
      have htl : turnsOf kn (i + 1) ≤ 10000 := by
        have h1 : ls.fdiv ((i + 1 : Nat) : Int) ≤ ls := by
          rw [Int.fdiv_eq_ediv_of_nonneg _ (by omega)]
          exact Int.ediv_le_self _ hsl1
        omega
      ktn_open
      rename Fr _ _ _ _ => F7
      rename News _ _ _ _ => N7
      rename IsRange _ _ _ _ _ _ _ _ => R7
      rw [hfd] at R7
      exact ⟨_, _, _, _, _, _, _, rfl, R7, rsmall _ _ (by omega) (by omega) (by omega) (by omega), rsize _, F7, N7, hg₅, hos₅, ⟨vs, c', ps₅, rfl, htab₅, hvs, Off.refl⟩⟩
    · rintro r t₂ m₂ nw2 I2 oI2 s₂ hr ⟨vs2, c2, ps2, rfl, htab2, hvs2, hoff2⟩ hos₂ hg₂ F5 N5 offI2
      clear F4 N4
      rw [hoff2.exp2] at F5
      generalize m₂ (PySem.Str.ofString "turn") = uo2 at F5
      generalize m₂ (PySem.Str.ofString "total") = ut2 at F5
      subst hm1
      refine assignL rfl rfl F5 N5 fun h' F6 N6 => ?_
      clear F5 N5
      replace F6 : Fr g L h' _ := F6
      replace N6 : News g L h' _ := N6
      rw [updTwice] at F6
      ktn_open
      refine Held.of ?_
      generalize hm2 : (fun y : Str => if y = PySem.Str.ofString "turn" then _ else _) = m2 at F6
      generalize hws2 : turnTo (i + 1) mo (waysTo kn mo i) r = ws2 at *
      have hws2l : ws2.length = mo + 1 := by rw [← hws2, turnTo_len, waysTo_len]
      have hI2W : Wy ≠ I2 := offI2 (Wy, W.listOf (List.toArray vs2) c2) (by simp)
      refine forRange (h₀ := g) (L := L) (a := ((i + 1 : Nat) : Int)) (n := mo + 1 - (i + 1)) (fun q m₃ nw => ∃ vs3 c3, nw = (Wy, W.listOf (List.toArray vs3) c3) :: (I2, oI2) :: (I, oI) :: Base D ys c L oL oK oS ps2 ∧ IntsAre vs3 (totTo (i + 1) ws2 q) ∧ Off [PySem.Str.ofString "total"] m₃ m2) rfl ?_ ?_ ?_
      · subst hm2
        ktn_open
        rename Fr _ _ _ _ => F7
        rename News _ _ _ _ => N7
        rename IsRange _ _ _ _ _ _ _ _ => R7
        refine ⟨_, _, _, _, _, _, (Wy, W.listOf (List.toArray vs2) c2) :: (I2, oI2) :: (I, oI) :: Base D ys c L oL oK oS ps2, rfl, R7, rsmall _ _ (by omega) (by omega) (by omega) (by omega), ?_, F7, nSub N7 (fun q hq => ?_), hg₂, rfl, ⟨vs2, c2, rfl, hvs2, Off.refl⟩⟩
        · rw [rangeSize_one]; split <;> omega
        · rcases List.mem_cons.mp hq with rfl | hq
          · exact .tail _ (.head _)
          · rcases List.mem_cons.mp hq with rfl | hq
            · exact .head _
            · exact .tail _ (.tail _ hq)
      · rintro q t₃ m₃ nw3 I3 oI3 s₃ hq ⟨vs3, c3, rfl, hvs3, hoff3⟩ hos₃ hg₃ F7 N7 offI3
        clear F6 N6
        rw [hoff3.exp1] at F7
        generalize m₃ (PySem.Str.ofString "total") = ut3 at F7
        subst hm2
        have htq : ((i + 1 : Nat) : Int) + (q : Int) = ((i + 1 + q : Nat) : Int) := by omega
        rw [htq]
        refine assignL rfl rfl F7 N7 fun h' F8 N8 => ?_
        clear F7 N7
        replace F8 : Fr g L h' _ := F8
        replace N8 : News g L h' _ := N8
        rw [updTwice] at F8
        have hfl : (totTo (i + 1) ws2 q).length = mo + 1 := by rw [totTo_len, hws2l]
        generalize hf : totTo (i + 1) ws2 q = f at *
        have hvl : vs3.length = mo + 1 := by rw [hvs3.length, hfl]
        have hvsz : vs3.toArray.size = mo + 1 := by rw [List.size_toArray, hvl]
        have d1 : Wy ≠ I3 := offI3 (Wy, W.listOf (List.toArray vs3) c3) (by simp)
        ktn_open
        refine ksa_set F8 N8 (.tail d1.symm (.head (fun p hp => ?_))) hvs3 (by omega) (by omega) (by omega) ?_
        · rcases List.mem_cons.mp hp with rfl | hp
          · exact hI2W.symm
          · rcases List.mem_cons.mp hp with rfl | hp
            · exact hIW.symm
            · exact hWall ps2 p hp
        intro h9 F9 N9 hvs9 _ _
        have e1 : (((i + 1 + q : Nat) : Int)).toNat = i + 1 + q := by omega
        have e2 : (((i + 1 + q : Nat) : Int) - ((i + 1 : Nat) : Int)).toNat = q := by omega
        rw [e1, e2] at hvs9
        ktn_open
        refine ⟨hos₃, hg₃, _, _, F9, N9, fun p hp => ?_, trivial, _, _, rfl, ?_, ?_⟩
        · rcases List.mem_cons.mp hp with rfl | hp
          · exact d1
          · exact offI3 p (.tail _ hp)
        · show IntsAre _ (totAt (i + 1) (totTo (i + 1) ws2 q) q)
          rw [hf]
          simp only [e1, e2]
          exact hvs9
        · intro y hy
          have h1 : y ≠ PySem.Str.ofString "total" := by simpa using hy
          simp only [if_neg h1]
      · rintro m₃ nw3 s₃ ⟨vs3, c3, rfl, hvs3, hoff3⟩ hos₃ hg₃ F7 N7
        clear F6 N6
        dsimp only
        refine wpAny_execs_nil ?_
        refine ⟨hos₃.trans hos₂, hg₃, _, (Wy, W.listOf (List.toArray vs3) c3) :: (I, oI) :: Base D ys c L oL oK oS ps2, F7, nSub N7 (fun p hp => ?_), fun p hp => ?_, trivial, vs3, c3, ps2, rfl, htab2, ?_, ?_⟩
        · rcases List.mem_cons.mp hp with rfl | hp
          · exact .tail _ (.head _)
          · rcases List.mem_cons.mp hp with rfl | hp
            · exact .head _
            · rcases List.mem_cons.mp hp with rfl | hp
              · exact .tail _ (.tail _ (.head _))
              · exact .tail _ (.tail _ (.tail _ hp))
        · rcases List.mem_cons.mp hp with rfl | hp
          · exact hI2W
          · exact offI2 p (.tail _ hp)
        · show IntsAre _ (totTo (i + 1) (turnTo (i + 1) mo (waysTo kn mo i) r) (mo + 1 - (i + 1)))
          rw [hws2]
          exact hvs3
        · subst hm2
          intro y hy
          have h1 : y ≠ PySem.Str.ofString "turn" := fun e => hy (by simp [e])
          have h2 : y ≠ PySem.Str.ofString "total" := fun e => hy (by simp [e])
          rw [hoff3 y (by simp [h2])]
          simp only [if_neg h1, if_neg h2]
    · rintro m₂ nw2 s₂ ⟨vs2, c2, ps2, rfl, htab2, hvs2, hoff2⟩ hos₂ hg₂ F5 N5
      clear F4 N4
      dsimp only
      refine wpAny_execs_nil ?_
      refine ⟨hos₂.trans hos₁, hg₂, _, (Wy, W.listOf (List.toArray vs2) c2) :: Base D ys c L oL oK oS ps2, F5, nSub N5 (fun p hp => ?_), fun p hp => ?_, trivial, vs2, c2, ps2, rfl, htab2, hvs2, ?_⟩
      · rcases List.mem_cons.mp hp with rfl | hp
        · exact .tail _ (.head _)
        · rcases List.mem_cons.mp hp with rfl | hp
          · exact .head _
          · exact .tail _ (.tail _ hp)
      · rcases List.mem_cons.mp hp with rfl | hp
        · exact hIW
        · exact hIall ps2 p hp
      · subst hm1
        intro y hy
        have h1 : y ≠ PySem.Str.ofString "turn" := fun e => hy (by simp [e])
        have h2 : y ≠ PySem.Str.ofString "total" := fun e => hy (by simp [e])
        have h3 : y ≠ PySem.Str.ofString "size" := fun e => hy (by simp [e])
        rw [hoff2 y (by simp [h1, h2])]
        simp only [if_neg h1, if_neg h2, if_neg h3]
  · rintro m₁ nw s₁ ⟨vs, c', ps', rfl, htab', hvs, hoff⟩ hos₁ hg₁ F3 N3
    clear F2 N2
    rw [hoff.exp3] at F3
    generalize m₁ (PySem.Str.ofString "size") = up at F3
    generalize m₁ (PySem.Str.ofString "turn") = uo at F3
    generalize m₁ (PySem.Str.ofString "total") = ut at F3
    rw [ways_law hkm] at hvs
    subst hm0
    ktn_open
    refine Held.of ?_
    have hNm : ∀ q ∈ Base D ys c L oL oK oS ps', q ∈ Base D ys c L oL oK oS ps' := fun _ h => h
    generalize hmF : (fun y : Str => if y = PySem.Str.ofString "size" then up else _) = mF at F3
    refine compE (h₀ := g) (L := L) (m := mF) (cl := [("kinds", L + 2)]) (fun D2 ks rest => mo + 1 ≤ mo + 1 ∧ rest = (Wy, W.listOf (List.toArray vs) c') :: Base D ys c L oL oK oS ps' ∧ IntsAre ks (powL kn (mo + 1))) rfl (by decide) rfl (by decide) ?_ ?_
    · subst hmF
      ktn_open
      rename Fr _ _ _ _ => F6
      rename News _ _ _ _ => N6
      rename IsRange _ _ _ _ _ _ _ _ => R6
      refine Held.of ?_
      generalize hmF : (fun y : Str => if y = PySem.Str.ofString "size" then up else _) = mF at F6
      have hr6 : ((mo : Int) + 1) = ((mo + 1 : Nat) : Int) := by omega
      rw [hr6] at R6
      refine blk1Range (h₀ := g) (L := L) (a := 0) (n := mo + 1) _ rfl (fun D2 i ks rest => i ≤ mo + 1 ∧ rest = (Wy, W.listOf (List.toArray vs) c') :: Base D ys c L oL oK oS ps' ∧ IntsAre ks (powL kn i)) ⟨_, _, _, _, _, _, rfl, R6, rsmall _ _ (by omega) (by omega) (by omega) (by omega), rsize _, F6, N6, hg₁, rfl, fun _ _ => ⟨Nat.zero_le _, rfl, .nil⟩⟩ rfl rfl ?_ ?_
      · rintro D2 i ks r ⟨h1, _, h⟩
        have e1 := h.length
        have e2 : (powL kn i).length = i := by unfold powL; simp
        have e4 : 10000 ≤ sizeLine := by decide
        omega
      · rintro i t₁ ks r I2 oI2 oC2 mC2 C2 D2 s₃ hi ⟨_, rfl, hks⟩ hos₃ hg₃ hoC2 hmC2 F7 N7 hap2
        clear F6 N6 R6
        rw [Int.zero_add] at hmC2
        refine wpAny_tests_nil ?_
        simp only [if_true]
        ktn_open
        refine ⟨hos₃, hg₃, _, F7, N7, hap2, trivial, by omega, rfl, ?_⟩
        have e1 : powL kn (i + 1) = powL kn i ++ [(kn : Int) ^ i] := by unfold powL; rw [List.range_succ, List.map_append]; rfl
        rw [e1]
        exact IntsAre.append hks (.cons _ _ .nil)
    · rintro ks r D2 s' ⟨_, rfl, hks⟩ F' N' off' hg' hos'
      replace N' : News g L s'.heap ((D2, W.listOf (List.toArray ks) ks.length) :: (Wy, W.listOf (List.toArray vs) c') :: Base D ys c L oL oK oS ps') := N'
      clear F3 N3
      have hkl : ks.length = mo + 1 := by rw [hks.length]; unfold powL; simp
      have hvl : vs.length = mo + 1 := by rw [hvs.length]; unfold powL; simp
      subst hmF
      have hst := StopE.mk
      ktn_open
      refine Held.of ?_
      dsimp only
      refine next _ _ ps' F' ?_ (nDrop1 (nDrop1 N')) htab' hg' (hos'.trans hos₁)
      intro y hy
      have h1 : y ≠ PySem.Str.ofString "ways" := fun e => hy (by simp [e])
      have h2 : y ≠ PySem.Str.ofString "size" := fun e => hy (by simp [e])
      have h3 : y ≠ PySem.Str.ofString "turn" := fun e => hy (by simp [e])
      have h4 : y ≠ PySem.Str.ofString "total" := fun e => hy (by simp [e])
      simp only [if_neg h1, if_neg h2, if_neg h3, if_neg h4]
      split
      · rename_i e; rw [e, hmm]
      · rfl
end Mine

namespace Mine
local macro_rules | `(tactic| k_mem) => `(tactic| assumption)
local macro_rules | `(tactic| walk_at "exec For Name Call cons nil") => `(tactic| refine Held.mk ?_)
local macro_rules | `(tactic| walk_at "exec For Name Name cons nil") => `(tactic| refine Held.mk ?_)
local macro_rules | `(tactic| walk_at "exec Assign cons ListComp") => `(tactic| refine Held.mk ?_)
local macro_rules | `(tactic| walk_at "eval ListComp") => `(tactic| refine Held.mk ?_)
local macro_rules | `(tactic| walk_at "pyIter ref") => `(tactic| refine Held.mk ?_)
local macro_rules | `(tactic| walk_at "execs cons") => `(tactic| ((have hst := (by assumption : StopE)); refine Held.mk ?_))
local macro_rules | `(tactic| walk_at "binaryOp Pow int int") => `(tactic| refine Held.mk ?_)
local macro_rules | `(tactic| walk_at "call ref") => `(tactic| refine Held.mk ?_)
local macro_rules | `(tactic| walk_at "call builtin:set.add") => `(tactic| refine Held.mk ?_)
local macro_rules | `(tactic| ktn_open) => `(tactic| repeat' (first | (k_unfold; (try dsimp only)) | walk1 | (dsimp only; walk1)))
theorem pow106 {prog : Program} {w : World} {A : Around} {E : Value → Shared → Prop} {s : Shared} {t u : Tok} {Q : Value → Shared → Prop} (h : ∀ P : Int, P = 1000000 → IntMulOk 2 P → Q (.int P s.toks) { s with toks := s.toks + 1 }) :
    wpAny (model prog w) A (binaryOp .Pow (.int 10 t) (.int 6 u)) Q E s :=
  pow_int_small (by decide) (by decide) (by decide) (h _ (by rfl) (IntMulOk.of_left (by decide)))
theorem fmodB (x k : Int) (hk : 0 < k) : 0 ≤ x.fmod k ∧ x.fmod k < k := by
  rw [Int.fmod_eq_emod_of_nonneg _ (by omega)]
  exact ⟨Int.emod_nonneg x (by omega), Int.emod_lt_of_pos x hk⟩
theorem law5 {prog : Program} {w : World} {p : Program} {loose : List Str} {mean : ExcName → Option Value} {mg mb : Str → Option Value} {d : DefRec} (hd9 : LawDef d)
   (fa : Addr) (cd : Value) (g : Heap) (L : Addr) (s : Shared) (m : Loc) (oL oK oS : Obj) (qk : Flow → Shared → Prop) (D : Addr) (ys : List Value) (ds : List Int) (c : Nat) (ps : Array Value)
   (T : Top p loose mean mg mb g) (X : (hd.heap_39 w.params).In g) (B : Below callerA g [] g) (CH : CodeHd g 20 16) (l16 : (16 : Nat) < L) (d16 : 16 ≠ D)
   (hds : IntsAre ys ds) (hdl : ds.length = 5) (F1 : Fr g L s.heap m) (hmd : m (PySem.Str.ofString "draw") = some (.ref D)) (N1 : News g L s.heap (Base D ys c L oL oK oS ps)) (htab : TabOk ps)
   (hg : AllBare s.gens)
   (e : PySem.Challenge.rw_aw5004_01 = PySem.Challenge.rw_aw5004_01 ∧ hd.heap_39 = hd.heap_39)
   (hq : ∀ (s' : Shared) (m' : Loc) (ps' : Array Value), Fr g L s'.heap m' → News g L s'.heap [(16, tabObj ps')] → AllBare s'.gens → s'.os = s.os → qk (.ret (.bool true)) s') :
   wpAny (model prog w) (callerA.deeper (envOfC d.name d.scope L fa cd)) (execs (d.body.drop 13) (envOfC d.name d.scope L fa cd)) qk NR s := by
  cases hd9
  dsimp only [List.drop]
  revert e; k_fill; intro ee
  replace F1 := frSee F1 hmd
  have hyl : ys.length = 5 := by rw [hds.length, hdl]
  ktn_open
  refine Held.of ?_
  refine pow106 fun P1 hP1 _ => ?_
  ktn_open
  refine Held.of ?_
  refine pow106 fun P2 hP2 hok2 => ?_
  have hne6 : 2 * P2 ≠ 0 := by omega
  ktn_open
  refine Held.of ?_
  refine pow106 fun P3 hP3 _ => ?_
  have hst := StopE.mk
  ktn_open
  rename Fr _ _ _ _ => F2
  rename News _ _ _ _ => N2
  obtain ⟨sz, es, es1, es2⟩ := natMod (ds.getD (Int.toNat 4) 0) 60 (by decide)
  clear hst
  rename_i hst
  clear hst
  rw [es] at F2
  have hfb := fmodB (ds.getD (Int.toNat 3) 0 + P1) (2 * P2) (by omega)
  generalize hfm : (ds.getD (Int.toNat 3) 0 + P1).fmod (2 * P2) = fm at *
  generalize hnum : fm - P3 = num at F2
  have hn1 : -1000000 ≤ num := by omega
  have hn2 : num ≤ 1000000 := by omega
  have N3 : News g L _ (Base D ys c L oL oK oS ps) := nDrop1 N2
  clear N2
  refine Held.of ?_
  ktn_open
  refine Held.of ?_
  refine lawsum_spec (mb := mb) (mg := mg) (mean := mean) (loose := loose) (p := p) num sz _ _ (by omega) (by omega) (by omega) (by omega) ee _ _ _ _ _ _ _ _ [] callerA g g L _ ((D, W.listOf (List.toArray ys) c) :: (L + 3, oL) :: (L + 2, oK) :: (L + 1, oS) :: []) ps _ _ B F2 X (nSub N3 ?hsub) ?g16 T CH rfl hg htab trivial ?gdp ?gun ?_
  case gdp => decide
  case gun => decide
  case hsub =>
    intro q hq
    simp only [List.mem_cons, List.not_mem_nil, or_false] at hq ⊢
    rcases hq with rfl | rfl | rfl | rfl | rfl <;> simp
  case g16 =>
    intro q hq
    simp only [List.mem_cons, List.not_mem_nil, or_false] at hq
    rcases hq with rfl | rfl | rfl | rfl
    · exact d16.symm
    · exact Nat.ne_of_gt (Nat.lt_of_lt_of_le l16 (Nat.le_add_right _ _))
    · exact Nat.ne_of_gt (Nat.lt_of_lt_of_le l16 (Nat.le_add_right _ _))
    · exact Nat.ne_of_gt (Nat.lt_of_lt_of_le l16 (Nat.le_add_right _ _))
  rintro r s₅ tl₅ ps₅ hos₅ hg₅ htab₅ F5 N5 habv ⟨u₅, rfl⟩
  have N6 : News g L s₅.heap [(16, tabObj ps₅)] := nSub N5 fun q hq => by
    rw [List.mem_singleton.mp hq]; exact .head _
  clear N5 N3 F2
  replace F5 : Fr g L s₅.heap _ := F5
  have hll := last_law es1 (by omega) num
  have hsz0 : (sz : Int) ≠ 0 := by omega
  have hll2 : (lawSum num sz).fmod (sz : Int) = 0 := by rw [Int.fmod_eq_emod_of_nonneg _ (by omega)]; exact hll
  generalize lawSum num sz = lv at *
  ktn_open
  rw [hll2]
  exact hq _ _ ps₅ F5 N6 hg₅ hos₅
end Mine

namespace Mine
local macro_rules | `(tactic| k_mem) => `(tactic| assumption)
local macro_rules | `(tactic| walk_at "exec For Name Call cons nil") => `(tactic| refine Held.mk ?_)
local macro_rules | `(tactic| walk_at "exec For Name Name cons nil") => `(tactic| refine Held.mk ?_)
local macro_rules | `(tactic| walk_at "exec Assign cons ListComp") => `(tactic| refine Held.mk ?_)
local macro_rules | `(tactic| walk_at "eval ListComp") => `(tactic| refine Held.mk ?_)
local macro_rules | `(tactic| walk_at "pyIter ref") => `(tactic| refine Held.mk ?_)
local macro_rules | `(tactic| walk_at "call ref") => `(tactic| refine Held.mk ?_)
local macro_rules | `(tactic| walk_at "call builtin:set.add") => `(tactic| refine Held.mk ?_)
local macro_rules | `(tactic| ktn_open) => `(tactic| repeat' (first | (k_unfold; (try dsimp only)) | walk1 | (dsimp only; walk1)))
theorem walk : PySem.Challenge.rw_aw5004_01.Holds := by
  refine hd ?_
  k_fill
  intro w s₀ s₁ mg mb G Y fa o pm cd doc dV kV ho hdd hcd hD hmg hg args vals as hpre hlay hrd hwl hlo
  have KX := kIn_of Y
  have X := (Ground.X G).1
  have V := (Ground.X G).2
  refine Ground.open G ?_
  intro T B D TE TW
  try (refine guard_noD D (by decide +kernel) ?_; clear D)
  have hT9 : TabsAt [(20, 16)] s₁.heap := List.forall_mem_cons.mpr ⟨tab_of (x := PySem.Str.ofString "moebius") (c := 20) (P := 16) T KX rfl (by kernel_rfl), fun _ h => nomatch h⟩
  clear hmg
  wrow_args hpre hlay hrd hwl hlo
  all_goals (first | refine callC_kw (enter_call ?_) | refine enter_call ?_)
  w_top on
  refine kn_postG hT9 (fun _ _ => rfl) ?_ ?_
  · wrow_post
  w_call any ho hdd hcd hD T F
  clear hdd
  rename_i ns hns _ _ _ _ _ _ script vs _ hL _ _ _ hI _ hlen63 _ h1 tk1 oL oK oS hoL hoK hoS N0 X0
  replace hoL : oL.data = .cell none := hoL
  replace hoK : oK.data = .cell none := hoK
  replace hoS : oS.data = .cell (some (.ref script)) := hoS
  clear X0
  have hlen : ns.length ≤ 63 := by omega
  have hLs : (ghostOf s₁.heap [(20, 16)]).IsList script vs.toArray := ghost_list hT9 hL
  have C' := (ghost_code hT9).1
  have X' := ghost_K hT9 KX (by kernel_rfl)
  have T' := ghost_top hT9 T
  have B' := ghost_below hT9
  have F1 := ghost_fr hT9 F
  have N1 := ghost_news hT9 F N0
  have l0 := ghost_lt hT9 F
  generalize hG : ghostOf s₁.heap [(20, 16)] = g at *
  replace N1 : News g s₁.heap.objs.size h1 ((s₁.heap.objs.size + 3, oL) :: (s₁.heap.objs.size + 2, oK) :: (s₁.heap.objs.size + 1, oS) :: (16, tabObj #[]) :: []) := N1
  replace F1 : Fr g s₁.heap.objs.size h1 (fun _ => none) := F1
  have l16 : (16 : Nat) < s₁.heap.objs.size := l0 (16, tabObj #[]) (by simp [tabNews])
  clear F N0 TE TW hD l0
  have hg2 : AllBare s₁.gens := AllBare.of_eq hg
  have ee : PySem.Challenge.rw_aw5004_01 = PySem.Challenge.rw_aw5004_01 ∧ hd.heap_39 = hd.heap_39 := ⟨rfl, rfl⟩
  refine wpAny_noRaise ?_
  refine law1 (d := _) rfl script fa _ vs ns g s₁.heap.objs.size _ oL oK oS _ T' X' B' F1 N1 l16 hoL hoK hoS hLs hI hlen hg2 ee ?_
  intro D ys ds c kn ln dg mo tk tl td tm s' m oL' oK' hdl hds hk hln hdg F2 hm1 hm2 hm3 N2 hD16 hoL' hoK' hg' hos'
  refine law2 (d := _) rfl fa _ g s₁.heap.objs.size s' m oL' oK' oS _ D ys c kn ln tk tl T' X' B' C' l16 hD16 (by omega) hln F2 N2 hoL' hoK' hg' ee ?_
  intro s2 m2 ps2 F3 off2 N3 tab3 g3 os3
  refine law3 (d := _) rfl fa _ g s₁.heap.objs.size s2 m2 oL' oK' oS _ D ys c kn dg tk td ps2 T' X' B' C' l16 hD16 (by omega) hdg F3 ((off2 _ (by decide)).trans hm2) N3 tab3 hoK' g3 ee ?_
  intro s3 m3 ps3 F4 off3 N4 tab4 g4 os4
  refine law4 (d := _) rfl fa _ g s₁.heap.objs.size s3 m3 oL' oK' oS _ D ys c kn mo tk tm ps3 T' X' B' C' l16 hD16 (by omega) F4 ((off3 _ (by decide)).trans ((off2 _ (by decide)).trans hm3)) N4 tab4 hoK' g4 ee ?_
  intro s4 m4 ps4 F5 off4 N5 tab5 g5 os5
  refine law5 (d := _) rfl fa _ g s₁.heap.objs.size s4 m4 oL' oK' oS _ D ys ds c ps4 T' X' B' C' l16 hD16 hds hdl F5 ((off4 _ (by decide)).trans ((off3 _ (by decide)).trans ((off2 _ (by decide)).trans hm1))) N5 tab5 g5 ee ?_
  intro s5 m5 ps5 F6 N6 g6 os6
  exact ⟨rfl, F6.keep, ⟨GrownAt.of N6 (.head _), trivial⟩, os6.trans (os5.trans (os4.trans (os3.trans hos'))), g6⟩
end Mine

theorem PySem.Challenge.cw_aw5004_01_holds : PySem.Challenge.rw_aw5004_01.Holds := by
  exact Mine.walk

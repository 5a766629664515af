import PyProof.Rows.All
import Wide.All
import OpenK.AllK
import Wide.FinOn
import Lean
import PySem.Challenge.RW_pg0268_01
set_option Elab.async false
set_option compiler.extract_closed false
set_option linter.unusedVariables false
local macro_rules | `(tactic| walk_at $s:str) => `(tactic| k_extra $s)

section
open PySem PySem.W PyProof.Rows
set_option Elab.async false
set_option maxRecDepth 100000
set_option maxHeartbeats 0
namespace Mine
theorem wl_HD_0 : True := by
  k_with_none
  exact True.intro
open_top hd for PySem.Challenge.rw_pg0268_01
end Mine
end

theorem Mine.quiet : True := by
  w_top off
  exact True.intro

section
open PySem PySem.W PyProof.Rows
set_option Elab.async false
set_option maxRecDepth 100000
namespace Mine
abbrev tupO (vs : List Value) : Obj := { cls := .type "tuple", data := .seq vs.toArray }
def gtF (a b : UInt64) : Bool := Float64.cmp a b == some Ordering.gt
def ltF (a b : UInt64) : Bool := Float64.cmp a b == some Ordering.lt
def max3F (a b c : UInt64) : UInt64 := if gtF b a then (if gtF c b then c else b) else (if gtF c a then c else a)
def min3F (a b c : UInt64) : UInt64 := if ltF b a then (if ltF c b then c else b) else (if ltF c a then c else a)
section
variable {prog : Program} {w : World} {A : Around} {E : Value → Shared → Prop} {s : Shared} {h₀ : Heap} {L : Addr} {m : Str → Option Value} {news : List (Addr × Obj)} {a b c : UInt64} {t u x : Tok} {Q : Value → Shared → Prop}

theorem floatAt {i : Nat} {v : Value} (h : (#[Value.float a t, Value.float b u, Value.float c x] : Array Value)[i]? = some v) : ∃ k, v = .float ([a, b, c].getD i 0) k := by
  match i, h with
  | 0, h => exact ⟨t, by simpa using h.symm⟩
  | 1, h => exact ⟨u, by simpa using h.symm⟩
  | 2, h => exact ⟨x, by simpa using h.symm⟩
  | n + 3, h => simp at h

theorem max3_float (hh : A.handled = none) (F : Fr h₀ L s.heap m) (N : News h₀ L s.heap news)
    (h : ∀ h' tk k, Fr h₀ L h' m → News h₀ L h' news → Q (.float (max3F a b c) k) { s with heap := h', toks := tk }) :
    wpAny (model prog w) A (call (.builtin "max") [.float a t, .float b u, .float c x]) Q E s := by
  have hT : (s.heap.push { cls := .type "tuple", data := .seq #[.float a t, .float b u, .float c x] }).IsTuple s.heap.objs.size #[.float a t, .float b u, .float c x] := ⟨_, Heap.get?_push_size _ rfl, rfl, 0, by simp⟩
  refine call_max_three (wpAny_pyIter_tuple hT ?_)
  have hsz : (s.heap.push { cls := .type "tuple", data := .seq #[.float a t, .float b u, .float c x] }).objs.size = s.heap.objs.size + 1 := Heap.size_push ..
  refine ⟨_, [_, s.heap.objs.size], [_], _, _, _, fun i j => gtF ([a, b, c].getD i 0) ([a, b, c].getD j 0), rfl, Walks.tuple (A := A.in1) hh _ s.heap.objs.size (by rw [hsz]; exact Nat.ne_of_lt (Nat.lt_succ_self _)) #[.float a t, .float b u, .float c x],
    ⟨⟨_, Heap.get?_push_size _ rfl, rfl, rfl⟩, hT.push _⟩, fun d hd => ?_, by simp, fun i j vi vj s Q E hi hj hq => ?_, fun v h' tk hP hk => ?_⟩
  · show d < ((s.heap.push _).push _).objs.size
    rw [Heap.size_push, hsz]
    rcases List.mem_cons.mp hd with rfl | hd
    · rw [hsz]; exact Nat.lt_succ_self _
    · rcases List.mem_cons.mp hd with rfl | hd
      · exact Nat.lt_succ_of_lt (Nat.lt_succ_self _)
      · cases hd
  · obtain ⟨k, rfl⟩ := floatAt hi
    obtain ⟨l, rfl⟩ := floatAt hj
    exact AutoFloatOps.gt_0 hq
  · have hold : ∀ d o, s.heap.get? d = some o → h'.get? d = some o := fun d o e => by
      refine hk d o (fun hm => ?_) (Heap.get?_push_of_some _ (Heap.get?_push_of_some _ e))
      rcases List.mem_cons.mp hm with e1 | hm
      · have := Heap.lt_size e; rw [e1, hsz] at this; exact Nat.lt_irrefl _ (Nat.lt_of_succ_lt this)
      · cases hm
    obtain ⟨k, rfl⟩ := floatAt hP
    have e : [a, b, c].getD (argBest (fun i j => gtF ([a, b, c].getD i 0) ([a, b, c].getD j 0)) 2) 0 = max3F a b c := by
      simp only [argBest, max3F]
      cases h1 : gtF b a <;> cases h2 : gtF c a <;> cases h3 : gtF c b <;> simp [h1, h2, h3]
    have hz : (#[Value.float a t, Value.float b u, Value.float c x] : Array Value).size - 1 = 2 := by simp
    rw [hz, e]
    exact h h' tk k (F.grownK hold) (N.grown hold)

theorem min3_float (hh : A.handled = none) (F : Fr h₀ L s.heap m) (N : News h₀ L s.heap news)
    (h : ∀ h' tk k, Fr h₀ L h' m → News h₀ L h' news → Q (.float (min3F a b c) k) { s with heap := h', toks := tk }) :
    wpAny (model prog w) A (call (.builtin "min") [.float a t, .float b u, .float c x]) Q E s := by
  have hT : (s.heap.push { cls := .type "tuple", data := .seq #[.float a t, .float b u, .float c x] }).IsTuple s.heap.objs.size #[.float a t, .float b u, .float c x] := ⟨_, Heap.get?_push_size _ rfl, rfl, 0, by simp⟩
  refine call_min_three (wpAny_pyIter_tuple hT ?_)
  have hsz : (s.heap.push { cls := .type "tuple", data := .seq #[.float a t, .float b u, .float c x] }).objs.size = s.heap.objs.size + 1 := Heap.size_push ..
  refine ⟨_, [_, s.heap.objs.size], [_], _, _, _, fun i j => ltF ([a, b, c].getD i 0) ([a, b, c].getD j 0), rfl, Walks.tuple (A := A.in1) hh _ s.heap.objs.size (by rw [hsz]; exact Nat.ne_of_lt (Nat.lt_succ_self _)) #[.float a t, .float b u, .float c x],
    ⟨⟨_, Heap.get?_push_size _ rfl, rfl, rfl⟩, hT.push _⟩, fun d hd => ?_, by simp, fun i j vi vj s Q E hi hj hq => ?_, fun v h' tk hP hk => ?_⟩
  · show d < ((s.heap.push _).push _).objs.size
    rw [Heap.size_push, hsz]
    rcases List.mem_cons.mp hd with rfl | hd
    · rw [hsz]; exact Nat.lt_succ_self _
    · rcases List.mem_cons.mp hd with rfl | hd
      · exact Nat.lt_succ_of_lt (Nat.lt_succ_self _)
      · cases hd
  · obtain ⟨k, rfl⟩ := floatAt hi
    obtain ⟨l, rfl⟩ := floatAt hj
    exact AutoFloatOps.lt_0 hq
  · have hold : ∀ d o, s.heap.get? d = some o → h'.get? d = some o := fun d o e => by
      refine hk d o (fun hm => ?_) (Heap.get?_push_of_some _ (Heap.get?_push_of_some _ e))
      rcases List.mem_cons.mp hm with e1 | hm
      · have := Heap.lt_size e; rw [e1, hsz] at this; exact Nat.lt_irrefl _ (Nat.lt_of_succ_lt this)
      · cases hm
    obtain ⟨k, rfl⟩ := floatAt hP
    have e : [a, b, c].getD (argBest (fun i j => ltF ([a, b, c].getD i 0) ([a, b, c].getD j 0)) 2) 0 = min3F a b c := by
      simp only [argBest, min3F]
      cases h1 : ltF b a <;> cases h2 : ltF c a <;> cases h3 : ltF c b <;> simp [h1, h2, h3]
    have hz : (#[Value.float a t, Value.float b u, Value.float c x] : Array Value).size - 1 = 2 := by simp
    rw [hz, e]
    exact h h' tk k (F.grownK hold) (N.grown hold)
end
end Mine
end

section
open PySem PySem.W PyProof.Rows
set_option Elab.async false
set_option maxRecDepth 100000
namespace Mine
theorem sub_c {α : Type} {a : α} {l k : List α} (h : a ∈ k) (t : ∀ x ∈ l, x ∈ k) : ∀ x ∈ a :: l, x ∈ k := List.forall_mem_cons.mpr ⟨h, t⟩
theorem sub_t {α : Type} {a : α} {l k : List α} (t : ∀ x ∈ l, x ∈ k) : ∀ x ∈ l, x ∈ a :: k := fun x h => List.mem_cons_of_mem _ (t x h)
theorem sub_r {α : Type} {l : List α} : ∀ x ∈ l, x ∈ l := fun _ h => h
section
variable {prog : Program} {w : World} {A : Around} {E : Value → Shared → Prop} {s : Shared} {env : Env} {h₀ : Heap} {Q : Flow → Shared → Prop}

def LoopK (prog : Program) (w : World) (A : Around) (env : Env) (target : PySem.Expr) (body : List Stmt) (Q : Flow → Shared → Prop) (E : Value → Shared → Prop) (it : Value) (s₂ : Shared) : Prop :=
  codeAny (model prog w) A (.forLoop target it body [] env) (fun r s' => match r with | .ok f => Q f s' | .error e => cameBackBy (model prog w) A env E e s') s₂

theorem For_K {target iter : PySem.Expr} {body : List Stmt} {pos : Pos}
    (h : wpAny (model prog w) A (eval iter env) (fun x s₁ => wpAny (model prog w) A (pyIter x) (fun it s₂ => LoopK prog w A env target body Q E it s₂) E s₁) E s)
    (hs : ∀ x, foldedSetIterable iter env x = pure x) :
    wpAny (model prog w) A (exec (.For target iter body [] pos) env) Q E s := wpAny_For h hs

/-- how a turn ends -/
def EndK (h₀ : Heap) (L : Addr) (J : (Str → Option Value) → List (Addr × Obj) → Prop) (it : Addr × Obj) (s₁ : Shared) (Q : Flow → Shared → Prop) (f : Flow) (s₂ : Shared) : Prop :=
  match f with
  | .ret v => Q (.ret v) s₂
  | .brk => Q .next s₂
  | _ => ∃ h' tk m' led nx, s₂ = { s₁ with heap := h', toks := tk } ∧ Fr h₀ L h' m' ∧ News h₀ L h' led ∧ it ∈ led ∧ (∀ p ∈ nx, p ∈ led) ∧ (∀ p ∈ nx, p.1 ≠ it.1) ∧ J m' nx
theorem EndK.next {L : Addr} {J : (Str → Option Value) → List (Addr × Obj) → Prop} {it : Addr × Obj} {s₁ : Shared} {h' : Heap} {tk : Nat} {m' : Str → Option Value} {led : List (Addr × Obj)} (nx : List (Addr × Obj))
    (F : Fr h₀ L h' m') (N : News h₀ L h' led) (hi : it ∈ led) (hs : ∀ p ∈ nx, p ∈ led) (hn : ∀ p ∈ nx, p.1 ≠ it.1) (hJ : J m' nx) : EndK h₀ L J it s₁ Q .next { s₁ with heap := h', toks := tk } :=
  ⟨h', tk, m', led, nx, rfl, F, N, hi, hs, hn, hJ⟩

theorem go_list {target : PySem.Expr} {it l : Addr} {i : Nat} {v : Value} {Q' : Unit → Shared → Prop} (hit : s.heap.IsListIter it l i) (h : Q' () s) : wpAny (model prog w) A (letOwnedTupleGo target (.ref it) v) Q' E s := by
  obtain ⟨o, ho, hc, hd⟩ := hit
  unfold letOwnedTupleGo
  split
  · cases v <;> first | exact wpAny_pure h | skip
    refine wpAny_bind (wpAny_load ho ?_)
    obtain ⟨c, d, dt, sl⟩ := o
    dsimp only at hc hd
    subst hc hd
    dsimp only
    rw [if_neg (by simp)]
    exact wpAny_pure h
  · cases v <;> first | exact wpAny_pure h | skip
    refine wpAny_bind (wpAny_load ho ?_)
    obtain ⟨c, d, dt, sl⟩ := o
    dsimp only at hc hd
    subst hc hd
    dsimp only
    rw [if_neg (by simp)]
    exact wpAny_pure h
  · exact wpAny_pure h

theorem iter_list_K {target : PySem.Expr} {body : List Stmt} {l : Addr} {vs : List Value} {n : Nat} {m : Str → Option Value} {news : List (Addr × Obj)}
    (hh : A.handled = none) (F : Fr h₀ env.locals s.heap m) (N : News h₀ env.locals s.heap news)
    (J : Nat → (Str → Option Value) → List (Addr × Obj) → Prop) (h0 : J 0 m news) (hl : ∀ i m' nx, J i m' nx → (l, listOf vs.toArray n) ∈ nx)
    (step : ∀ i v m₁ news₁ h tk it io, vs[i]? = some v → J i m₁ news₁ → (∀ p ∈ news₁, p.1 ≠ it) → Fr h₀ env.locals h m₁ → News h₀ env.locals h ((it, io) :: news₁) →
      wpAny (model prog w) A (assign target env v) (fun _ s₂ => wpAny (model prog w) A (execs body env) (EndK h₀ env.locals (J (i + 1)) (it, io) { s with heap := h, toks := tk } Q) E s₂) E { s with heap := h, toks := tk })
    (done : ∀ m' news' h tk, J vs.length m' news' → Fr h₀ env.locals h m' → News h₀ env.locals h news' → Q .next { s with heap := h, toks := tk })
    (hE : PassesOwn (model prog w) A env E) :
    wpAny (model prog w) A (pyIter (.ref l)) (fun it s₂ => LoopK prog w A env target body Q E it s₂) E s := by
  have hls : s.heap.IsList l vs.toArray := ⟨_, N.get (hl _ _ _ h0), rfl, n, rfl⟩
  refine wpAny_pyIter_list hls ?_
  have hsz : ∀ p ∈ news, p.1 ≠ s.heap.objs.size := fun p hp => Nat.ne_of_lt (Heap.lt_size (N p hp).1)
  have hit0 : (s.heap.push { cls := .type "list_iterator", data := .fields #[.ref l, .int 0 0] }).IsListIter s.heap.objs.size l 0 := ⟨_, Heap.get?_push_size _ rfl, rfl, rfl⟩
  have hLi : env.locals ≠ s.heap.objs.size := Nat.ne_of_lt F.ns.lt
  have hnone : h₀.get? s.heap.objs.size = none := next_is_new F
  generalize hI : s.heap.objs.size = I at hit0 hLi hnone hsz
  unfold LoopK
  refine codeAny_forLoop_any
    (fun k s' => ∃ h' tk m' nx i, s' = { s with heap := h', toks := tk } ∧ h'.IsListIter I l i ∧ Fr h₀ env.locals h' m' ∧ News h₀ env.locals h' nx ∧ (∀ p ∈ nx, p.1 ≠ I) ∧ J i m' nx ∧ i ≤ vs.length ∧ k = vs.length + 1 - i) ?_ (vs.length + 1)
    ⟨_, s.toks, m, news, 0, rfl, hit0, F.push _, fun p hp => ⟨Heap.get?_push_of_some _ (N p hp).1, (N p hp).2⟩, hsz, h0, Nat.zero_le _, rfl⟩
  rintro k s' ⟨h', tk, m', nx, i, rfl, hit', F', N', hnx, hJ, hi, rfl⟩
  have hl' : h'.IsList l vs.toArray := ⟨_, N'.get (hl _ _ _ hJ), rfl, n, rfl⟩
  have old : ∀ b o, h₀.get? b = some o → b ≠ I := fun b o e q => by rw [q, hnone] at e; cases e
  by_cases hlt : i < vs.length
  · refine wpAny_pyNext_list_item hit' hl' (x := vs[i]) (by simp [hlt]) fun h₁ hit₁ hs₁ => ?_
    have F₁ : Fr h₀ env.locals h₁ m' := ⟨F'.ns.at' fun o e => (hs₁.2 _ hLi).trans e, fun b o e => (hs₁.2 b (old b o e)).trans (F'.keep b o e), F'.above⟩
    have N₁ : News h₀ env.locals h₁ nx := fun p hp => ⟨(hs₁.2 _ (hnx p hp)).trans (N' p hp).1, (N' p hp).2⟩
    refine go_list hit₁ ?_
    obtain ⟨io, hio, hc, hd⟩ := id hit₁
    have N₂ : News h₀ env.locals h₁ ((I, io) :: nx) := fun p hp => by
      rcases List.mem_cons.mp hp with rfl | hp
      · exact ⟨hio, Ne.symm hLi, hnone⟩
      · exact N₁ p hp
    refine wpAny_passesOwn hE (wpAny_mono (step i vs[i] m' nx h₁ tk I io (by simp [hlt]) hJ hnx F₁ N₂) (fun _ s₂ h₂ => wpAny_passesOwn hE (wpAny_mono h₂ (fun f s₃ h₃ => ?_) fun _ _ e => e)) fun _ _ e => e)
    have fin : (∃ h' tk' m' led nx, s₃ = { ({ s with heap := h₁, toks := tk } : Shared) with heap := h', toks := tk' } ∧ Fr h₀ env.locals h' m' ∧ News h₀ env.locals h' led ∧ (I, io) ∈ led ∧ (∀ p ∈ nx, p ∈ led) ∧ (∀ p ∈ nx, p.1 ≠ I) ∧ J (i + 1) m' nx) →
        ∃ k', k' < vs.length + 1 - i ∧ ∃ h' tk m' nx i, s₃ = { s with heap := h', toks := tk } ∧ h'.IsListIter I l i ∧ Fr h₀ env.locals h' m' ∧ News h₀ env.locals h' nx ∧ (∀ p ∈ nx, p.1 ≠ I) ∧ J i m' nx ∧ i ≤ vs.length ∧ k' = vs.length + 1 - i := by
      rintro ⟨h₃', tk₃, m₂, led, nx₂, rfl, F₃, N₃, hin, hsub, hn₃, hJ₃⟩
      exact ⟨vs.length + 1 - (i + 1), by omega, h₃', tk₃, m₂, nx₂, i + 1, rfl, ⟨io, N₃.get hin, hc, hd⟩, F₃, fun p hp => N₃ p (hsub p hp), hn₃, hJ₃, hlt, rfl⟩
    cases f with
    | ret v => exact h₃
    | brk => exact h₃
    | next => exact fin h₃
    | cont => exact fin h₃
  · have hin : i = vs.length := by omega
    subst hin
    refine wpAny_pyNext_list_end hh hit' hl' (by simp) fun h₁ he₁ => wpAny_execs_nil ?_
    exact done m' nx h₁ tk hJ ⟨F'.ns.at' fun o e => he₁ _ o hLi e, fun b o e => he₁ b o (old b o e) (F'.keep b o e), F'.above⟩ (fun p hp => ⟨he₁ _ _ (hnx p hp) (N' p hp).1, (N' p hp).2⟩)

/-- how a turn over a dict's items ends -/
def EndI (h₀ : Heap) (L : Addr) (J : (Str → Option Value) → List (Addr × Obj) → Prop) (it : Addr) (own : List (Addr × Obj)) (s₁ : Shared) (f : Flow) (s₂ : Shared) : Prop :=
  f = .next ∧ ∃ h' tk m' led nx, s₂ = { s₁ with heap := h', toks := tk } ∧ Fr h₀ L h' m' ∧ News h₀ L h' led ∧ (∀ p ∈ own, p ∈ led) ∧ (∀ p ∈ nx, p ∈ led) ∧ (∀ p ∈ nx, p.1 ≠ it) ∧ J m' nx
theorem EndI.next {L : Addr} {J : (Str → Option Value) → List (Addr × Obj) → Prop} {it : Addr} {own : List (Addr × Obj)} {s₁ : Shared} {h' : Heap} {tk : Nat} {m' : Str → Option Value} {led : List (Addr × Obj)} (nx : List (Addr × Obj))
    (F : Fr h₀ L h' m') (N : News h₀ L h' led) (ho : ∀ p ∈ own, p ∈ led) (hs : ∀ p ∈ nx, p ∈ led) (hn : ∀ p ∈ nx, p.1 ≠ it) (hJ : J m' nx) : EndI h₀ L J it own s₁ .next { s₁ with heap := h', toks := tk } :=
  ⟨rfl, h', tk, m', led, nx, rfl, F, N, ho, hs, hn, hJ⟩

theorem iter_items_K {K : Type} [DecidableEq K] {knd : KeyKind prog w K} {xk xv : Str} {pk pv pt : Pos} {x1 : Nat} {body : List Stmt} {d vw : Addr} {kvs : List (K × Value)} {od : Obj} {m : Str → Option Value} {news : List (Addr × Obj)}
    (hh : A.handled = none) (hxk : env.kindOf xk = some .local) (hxv : env.kindOf xv = some .local)
    (hp : (env.scope.kind == .class || (env.scope.kind == .module && env.locals != env.globals)) = false)
    (F : Fr h₀ env.locals s.heap m) (N : News h₀ env.locals s.heap news)
    (hvw : ∃ ov, s.heap.get? vw = some ov ∧ ov.cls = .type "dict_items" ∧ ov.data = .fields #[.ref d]) (hd : (d, od) ∈ news) (hdo : od.IsDictOf knd kvs)
    (J : Nat → (Str → Option Value) → List (Addr × Obj) → Prop) (h0 : J 0 m news)
    (step : ∀ i k v key m₁ news₁ s₁ it own, kvs[i]? = some (k, v) → knd.is k key = true → J i m₁ news₁ → (∀ p ∈ news₁, p.1 ≠ it) → (∀ p ∈ own, p.1 = it ∨ p.1 = d) →
      Fr h₀ env.locals s₁.heap (fun y => if y = xv then some v else if y = xk then some key else m₁ y) → News h₀ env.locals s₁.heap (news₁ ++ own) →
      wpAny (model prog w) A (execs body env) (EndI h₀ env.locals (J (i + 1)) it own s₁) E s₁)
    (done : ∀ m' news' h tk, J kvs.length m' news' → Fr h₀ env.locals h m' → News h₀ env.locals h news' → Q .next { s with heap := h, toks := tk })
    (hE : PassesOwn (model prog w) A env E) :
    wpAny (model prog w) A (pyIter (.ref vw)) (fun it s₂ => LoopK prog w A env (.Tuple [.Name xk pk, .Name xv pv] x1 pt) body Q E it s₂) E s := by
  obtain ⟨ep, hat⟩ := (Heap.dictOf_iff.mpr ⟨_, N.get hd, hdo⟩ : s.heap.DictOf knd d kvs).dictAt
  refine wpAny_pyIter_items (knd := knd) (d := d) (kvs := kvs) (ep := ep) hvw hat ?_
  have hne : d ≠ s.heap.objs.size := Nat.ne_of_lt hat.lt_size
  unfold LoopK
  refine codeAny_forLoop_items_frU (knd := knd) (h₀ := h₀) (news := news) hh hxk hxv hp (Nat.ne_of_gt F.ns.lt) (N _ hd).2.1 hne (next_is_new F)
    (fun p hp hm => Nat.ne_of_lt (Heap.lt_size (N p hp).1) (List.mem_singleton.mp hm)) (Heap.get?_push_size _ rfl) (hat.push _) (F.push _) (fun p hp => ⟨Heap.get?_push_of_some _ (N p hp).1, (N p hp).2⟩)
    (fun i m' nx => J i m' nx) h0 ?_ ?_
  · intro i k v key m₁ news₁ s₁ own hx hkey hJ hoff hown hat₁ F₁ N₁
    have N₂ : News h₀ env.locals s₁.heap (news₁ ++ own) := fun p hp => N₁ p ((List.mem_append.mp hp).elim (fun h => List.mem_append.mpr (.inr h)) fun h => List.mem_append.mpr (.inl h))
    refine wpAny_passesOwn hE (wpAny_mono (step i k v key m₁ news₁ s₁ s.heap.objs.size own hx hkey hJ (fun p hp e => hoff p hp (by rw [e]; exact List.mem_singleton.mpr rfl))
      (fun p hp => by simpa using hown p hp) F₁ N₂) (fun f s₂ h₂ => ?_) fun _ _ e => e)
    obtain ⟨rfl, h', tk, m', led, nx, rfl, F', N', ho, hs, hn, hJ'⟩ := h₂
    exact ⟨rfl, h', tk, m', nx, rfl, F', fun p hp => (List.mem_append.mp hp).elim (fun h => N' p (ho p h)) fun h => N' p (hs p h), fun p hp hm => hn p hp (List.mem_singleton.mp hm), hJ'⟩
  · intro h' tk m' news' F' N' hoff hJ
    exact done m' news' h' tk hJ F' N'
end
end Mine
end

section
open PySem PySem.W PyProof.Rows
set_option Elab.async false
set_option maxRecDepth 100000
namespace Mine
/-! a dict of ints under texts -/
def putC (k : Str) (i : Int) (c : List (Str × Int)) : List (Str × Int) := if c.any (fun q => q.1 = k) then c.map (fun q => if q.1 = k then (q.1, i) else q) else c ++ [(k, i)]
def getC (c : List (Str × Int)) (k : Str) : Option Int := (c.find? fun q => q.1 = k).map (·.2)
inductive IV : List (Str × Value) → List (Str × Int) → Prop
  | nil : IV [] []
  | cons {kvs : List (Str × Value)} {c : List (Str × Int)} (k : Str) (i : Int) (t : Tok) : IV kvs c → IV ((k, .int i t) :: kvs) ((k, i) :: c)
theorem IV.length : ∀ {kvs : List (Str × Value)} {c : List (Str × Int)}, IV kvs c → kvs.length = c.length
  | _, _, .nil => rfl
  | _, _, .cons _ _ _ r => by rw [List.length_cons, List.length_cons, r.length]
theorem IV.flat : ∀ {kvs : List (Str × Value)} {c : List (Str × Int)}, IV kvs c → PyProof.V.FlatPairs PySem.PyData.str kvs (c.map fun q => (.str q.1, .int q.2))
  | _, _, .nil => .nil
  | _, _, .cons _ i t r => .cons (.int i t) r.flat
theorem IV.append : ∀ {kvs : List (Str × Value)} {c : List (Str × Int)} (k : Str) (i : Int) (t : Tok), IV kvs c → IV (kvs ++ [(k, .int i t)]) (c ++ [(k, i)])
  | _, _, k, i, t, .nil => .cons k i t .nil
  | _, _, k, i, t, .cons k' i' t' r => .cons k' i' t' (r.append k i t)
theorem IV.any : ∀ {kvs : List (Str × Value)} {c : List (Str × Int)} (k : Str), IV kvs c → (kvs.any fun q => q.1 = k) = c.any fun q => q.1 = k
  | _, _, _, .nil => rfl
  | _, _, k, .cons k' i' t' r => by rw [List.any_cons, List.any_cons, r.any k]
theorem IV.map : ∀ {kvs : List (Str × Value)} {c : List (Str × Int)} (k : Str) (i : Int) (t : Tok), IV kvs c → IV (kvs.map fun q => if q.1 = k then (q.1, .int i t) else q) (c.map fun q => if q.1 = k then (q.1, i) else q)
  | _, _, _, _, _, .nil => .nil
  | _, _, k, i, t, .cons k' i' t' r => by
    rw [List.map_cons, List.map_cons]
    dsimp only
    by_cases h : k' = k
    · rw [if_pos h, if_pos h]; exact .cons k' i t (r.map k i t)
    · rw [if_neg h, if_neg h]; exact .cons k' i' t' (r.map k i t)
theorem IV.stored {kvs : List (Str × Value)} {c : List (Str × Int)} (k : Str) (i : Int) (t : Tok) (r : IV kvs c) : IV (PySem.stored kvs k (.int i t)) (putC k i c) := by
  unfold PySem.stored putC
  rw [r.any k]
  split
  · exact r.map k i t
  · exact r.append k i t
theorem IV.value : ∀ {kvs : List (Str × Value)} {c : List (Str × Int)} (k : Str), IV kvs c → (valueAt kvs k = none ∧ getC c k = none) ∨ ∃ i t, valueAt kvs k = some (.int i t) ∧ getC c k = some i
  | _, _, _, .nil => .inl ⟨rfl, rfl⟩
  | _, _, k, .cons k' i' t' r => by
    unfold valueAt getC
    rw [List.find?_cons, List.find?_cons]
    dsimp only
    by_cases h : k' = k
    · rw [decide_eq_true h]; exact .inr ⟨i', t', rfl, rfl⟩
    · rw [decide_eq_false h]; exact r.value k
theorem IV.get : ∀ {kvs : List (Str × Value)} {c : List (Str × Int)} {i : Nat} {k : Str} {v : Value}, IV kvs c → kvs[i]? = some (k, v) → ∃ n t, v = .int n t ∧ c[i]? = some (k, n)
  | _, _, _, _, _, .nil, h => by simp at h
  | _, _, 0, _, _, .cons k' i' t' r, h => by
    simp only [List.getElem?_cons_zero, Option.some.injEq, Prod.mk.injEq] at h
    obtain ⟨rfl, rfl⟩ := h
    exact ⟨i', t', rfl, rfl⟩
  | _, _, i + 1, _, _, .cons k' i' t' r, h => r.get (i := i) (by simpa using h)
theorem putC_len (k : Str) (i : Int) (c : List (Str × Int)) : (putC k i c).length ≤ c.length + 1 := by
  unfold putC; split <;> simp

def DcIs (prog : Program) (w : World) (o : Obj) (c : List (Str × Int)) : Prop := ∃ kvs, o.IsDictOf (PySem.strKind prog w) kvs ∧ IV kvs c
section
variable {prog : Program} {w : World} {A : Around} {E : Value → Shared → Prop} {s : Shared} {h₀ : Heap} {L d : Addr} {m : Str → Option Value} {news : List (Addr × Obj)} {g : Obj → List (Addr × Obj)} {o : Obj} {c : List (Str × Int)} {k : Str} {t u : Tok} {i : Int}

theorem dc_nil (h : o.IsDictOf (PySem.strKind prog w) []) : DcIs prog w o [] := ⟨[], h, .nil⟩

theorem dc_in {Q : Value → Shared → Prop} (N : News h₀ L s.heap news) (hd : (d, o) ∈ news) (ho : DcIs prog w o c) (lo : (d == sysModules) = false)
    (h : Q (.bool (getC c k).isSome) { s with toks := s.toks + 1 }) : wpAny (model prog w) A (compareOp .In (.str k t) (.ref d)) Q E s := by
  obtain ⟨kvs, hi, hv⟩ := ho
  refine wpAny_in_of (knd := PySem.strKind prog w) (PySem.strKind_is prog w k t) lo (Heap.dictOf_iff.mpr ⟨_, N.get hd, hi⟩ : s.heap.DictOf (PySem.strKind prog w) d kvs).mapOf ?_
  rcases hv.value k with ⟨e1, e2⟩ | ⟨j, u, e1, e2⟩
  · rw [e1]; rw [e2] at h; exact h
  · rw [e1]; rw [e2] at h; exact h

theorem dc_get {Q : Value → Shared → Prop} (N : News h₀ L s.heap news) (hd : (d, o) ∈ news) (ho : DcIs prog w o c) (hg : getC c k = some i)
    (h : ∀ u, Q (.int i u) { s with toks := s.toks + 1 }) : wpAny (model prog w) A (getItem (.ref d) (.str k t)) Q E s := by
  obtain ⟨kvs, hi, hv⟩ := ho
  rcases hv.value k with ⟨e1, e2⟩ | ⟨j, u, e1, e2⟩
  · rw [hg] at e2; cases e2
  · rw [hg] at e2; cases e2
    exact wpAny_getItem_of (knd := PySem.strKind prog w) (PySem.strKind_is prog w k t) (Heap.dictOf_iff.mpr ⟨_, N.get hd, hi⟩ : s.heap.DictOf (PySem.strKind prog w) d kvs).mapOf e1 (h u)

theorem dc_sub {Q : Value → Shared → Prop} {value slice : PySem.Expr} (N : News h₀ L s.heap news) (hd : (d, o) ∈ news) (ho : DcIs prog w o c) (hg : getC c k = some i)
    (h : ∀ u, Q (.int i u) { s with toks := s.toks + 1 })
    (hs : subscripted slice false (.ref d) (.str k t) = operate [.ref d, .str k t] (getItem (.ref d) (.str k t))) : wpAny (model prog w) A (subscriptTail value slice (.ref d) (.str k t)) Q E s := by
  obtain ⟨kvs, hi, hv⟩ := id ho
  exact tail_any (Heap.dictOf_iff.mpr ⟨_, N.get hd, hi⟩ : s.heap.DictOf (PySem.strKind prog w) d kvs).typeIs slot_dict_getitem.lookup (dc_get N hd ho hg h) hs

theorem dc_got {Q : Value → Shared → Prop} (N : News h₀ L s.heap news) (hd : (d, o) ∈ news) (ho : DcIs prog w o c) (hg : (getC c k).isSome = true)
    (h : ∀ u, Q (.int ((getC c k).getD 0) u) { s with toks := s.toks + 1 }) : wpAny (model prog w) A (getItem (.ref d) (.str k t)) Q E s := by
  obtain ⟨i, hi⟩ := Option.isSome_iff_exists.mp hg
  rw [hi] at h
  exact dc_get N hd ho hi h

theorem dc_set {Q : Unit → Shared → Prop} (F : Fr h₀ L s.heap m) (N : News h₀ L s.heap news) (U : UpdF d o news g) (ho : DcIs prog w o c) (hz : c.length ≤ 1000)
    (h : ∀ h' o', Fr h₀ L h' m → News h₀ L h' (g o') → DcIs prog w o' (putC k i c) → Q () { s with heap := h', toks := s.toks + 1 }) : wpAny (model prog w) A (setItem (.ref d) (.str k t) (.int i u)) Q E s := by
  obtain ⟨kvs, hi, hv⟩ := ho
  refine setItem_K (knd := PySem.strKind prog w) PyProof.V.same_str (PySem.strKind_is prog w k t) (.int i u) F N U hi hv.flat (fun h' o' F' N' hd' _ => h h' o' F' N' ⟨_, hd', hv.stored k i u⟩) ?_
  rw [List.length_map, sizeLine_eq]; omega

theorem dc_method {pl : Sem Bool} {Q : Value × List Value → Shared → Prop} (N : News h₀ L s.heap news) (hd : (d, o) ∈ news) (ho : DcIs prog w o c)
    (h : Q (.builtin "dict.items", [.ref d]) s) : wpAny (model prog w) A (getMethod (.ref d) "items" pl) Q E s := by
  obtain ⟨kvs, hi, hv⟩ := ho
  have hx : s.heap.DictOf (PySem.strKind prog w) d kvs := Heap.dictOf_iff.mpr ⟨_, N.get hd, hi⟩
  exact getMethod_builtin hx.typeIs PySem.F.plainAttrs_dict PySem.F.slot_dict_items PySem.F.type_dict_items hx.mapOf.noDict h

theorem dc_items {Q : Value → Shared → Prop} (F : Fr h₀ L s.heap m) (N : News h₀ L s.heap news) (hd : (d, o) ∈ news) (ho : DcIs prog w o c) (lo : (d == sysModules) = false)
    (h : ∀ vw h' ov, (∃ ov, h'.get? vw = some ov ∧ ov.cls = .type "dict_items" ∧ ov.data = .fields #[.ref d]) → Fr h₀ L h' m → News h₀ L h' ((vw, ov) :: news) → (∀ p ∈ news, p.1 < vw) → Q (.ref vw) { s with heap := h' }) :
    wpAny (model prog w) A (call (.builtin "dict.items") [.ref d]) Q E s := by
  obtain ⟨kvs, hi, hv⟩ := ho
  exact call_items_tab (knd := PySem.strKind prog w) (enc := PySem.PyData.str) ⟨lo, kvs, Heap.dictOf_iff.mpr ⟨_, N.get hd, hi⟩, hv.flat⟩ F N fun h' ov hvw F' N' => h _ h' ov hvw F' N' fun p hp => Heap.lt_size (N p hp).1
end
end Mine
end

section
open PySem PySem.W PyProof.Rows
set_option Elab.async false
set_option maxRecDepth 100000
namespace Mine
def NsObj (o : Obj) (m : Str → Option Value) : Prop := ∃ es ep, o.data = .dict es ep ∧ StrKeys es ∧ ∀ name, nsFind es name = m name
theorem NsObj.ns {o : Obj} {m : Str → Option Value} {h : Heap} {a : Addr} (x : NsObj o m) (e : h.get? a = some o) : h.Ns a m := let ⟨es, ep, r⟩ := x; ⟨o, es, ep, e, r⟩
theorem nsObj_of {h : Heap} {a : Addr} {m : Str → Option Value} (x : h.Ns a m) : ∃ o, h.get? a = some o ∧ NsObj o m := let ⟨o, es, ep, e, r⟩ := x; ⟨o, e, es, ep, r⟩

/-- the ledger grows, the frame stays -/
def LedTo (h₀ : Heap) (L : Addr) (m : Str → Option Value) (led₀ led : List (Addr × Obj)) (s s' : Shared) : Prop :=
  ∃ h' tk, s' = { s with heap := h', toks := tk } ∧ Fr h₀ L h' m ∧ News h₀ L h' led ∧ ∀ q ∈ led₀, q ∈ led
def TestEnd (h₀ : Heap) (L : Addr) (m : Str → Option Value) (led₀ : List (Addr × Obj)) (b : Bool) (s : Shared) (ok : Bool) (s' : Shared) : Prop :=
  ok = b ∧ ∃ led, LedTo h₀ L m led₀ led s s'
def EltEnd (h₀ : Heap) (L : Addr) (m : Str → Option Value) (led₀ : List (Addr × Obj)) (Fl : Value → List (Addr × Obj) → Prop) (s : Shared) (y : Value) (s' : Shared) : Prop :=
  ∃ nw led, LedTo h₀ L m led₀ led s s' ∧ (∀ q ∈ nw, q ∈ led) ∧ (∀ q ∈ nw, ∀ r ∈ led₀, r.1 < q.1) ∧ Fl y nw
theorem TestEnd.intro {h₀ h' : Heap} {L : Addr} {m : Str → Option Value} {led₀ led : List (Addr × Obj)} {b ok : Bool} {s : Shared} {tk : Nat} (e : ok = b) (F : Fr h₀ L h' m) (N : News h₀ L h' led) (hs : ∀ q ∈ led₀, q ∈ led) :
    TestEnd h₀ L m led₀ b s ok { s with heap := h', toks := tk } := ⟨e, led, h', tk, rfl, F, N, hs⟩
theorem EltEnd.intro {h₀ h' : Heap} {L : Addr} {m : Str → Option Value} {led₀ led : List (Addr × Obj)} {Fl : Value → List (Addr × Obj) → Prop} {s : Shared} {tk : Nat} {y : Value} (nw : List (Addr × Obj)) (F : Fr h₀ L h' m) (N : News h₀ L h' led) (hs : ∀ q ∈ led₀, q ∈ led)
    (hn : ∀ q ∈ nw, q ∈ led) (hf : ∀ q ∈ nw, ∀ r ∈ led₀, r.1 < q.1) (e : Fl y nw) : EltEnd h₀ L m led₀ Fl s y { s with heap := h', toks := tk } := ⟨nw, led, ⟨h', tk, rfl, F, N, hs⟩, hn, hf, e⟩
theorem EltEnd.plain {h₀ h' : Heap} {L : Addr} {m : Str → Option Value} {led₀ led : List (Addr × Obj)} {Fl : Value → List (Addr × Obj) → Prop} {s : Shared} {tk : Nat} {y : Value} (F : Fr h₀ L h' m) (N : News h₀ L h' led) (hs : ∀ q ∈ led₀, q ∈ led)
    (e : Fl y []) : EltEnd h₀ L m led₀ Fl s y { s with heap := h', toks := tk } := ⟨[], led, ⟨h', tk, rfl, F, N, hs⟩, (fun _ h => nomatch h), (fun _ h => nomatch h), e⟩

section
variable {h₀ : Heap} {L : Addr}
/-- a store behind a comprehension: the block's frame goes -/
def StoreEnd (h₀ : Heap) (L : Addr) (C : Addr) (Q : Shared → Prop) (s : Shared) (s'' : Shared) : Prop :=
  ∃ h' tk m' co mC led, s'' = { s with heap := h', toks := tk } ∧ Fr h₀ L h' m' ∧ News h₀ L h' ((C, co) :: led) ∧ NsObj co mC ∧ C ≠ L ∧ h₀.get? C = none ∧ (∀ q ∈ led, q.1 ≠ C) ∧
    ∀ h₃, Fr h₀ L h₃ m' → News h₀ L h₃ led → Q { s with heap := h₃, toks := tk }
theorem StoreEnd.out {C : Addr} {Q : Shared → Prop} {s s'' : Shared} (x : StoreEnd h₀ L C Q s s'') : ∃ m, s''.heap.Ns C m ∧ ∀ h', Heap.SameBut C s''.heap h' → Q { s'' with heap := h' } := by
  obtain ⟨h', tk, m', co, mC, led, rfl, F, N, hn, hCL, hC0, hne, k⟩ := x
  refine ⟨mC, hn.ns (N.get (List.mem_cons_self ..)), fun h₃ hs₃ => ?_⟩
  replace hs₃ : Heap.SameBut C h' h₃ := hs₃
  refine k h₃ ⟨F.ns.sameBut hs₃ (Ne.symm hCL), fun b o e => hs₃.extBut b o (fun q => by rw [q, hC0] at e; cases e) (F.keep b o e), F.above⟩ fun q hq => ?_
  have z := N q (List.mem_cons_of_mem _ hq)
  exact ⟨hs₃.extBut _ _ (hne q hq) z.1, z.2⟩
theorem StoreEnd.intro {C : Addr} {Q : Shared → Prop} {s : Shared} {h' : Heap} {tk : Nat} {m' mC : Str → Option Value} {co : Obj} {led : List (Addr × Obj)} (F : Fr h₀ L h' m') (N : News h₀ L h' ((C, co) :: led)) (hn : NsObj co mC) (hCL : C ≠ L) (hC0 : h₀.get? C = none)
    (hne : ∀ q ∈ led, q.1 ≠ C) (k : ∀ h₃, Fr h₀ L h₃ m' → News h₀ L h₃ led → Q { s with heap := h₃, toks := tk }) : StoreEnd h₀ L C Q s { s with heap := h', toks := tk } := ⟨h', tk, m', co, mC, led, rfl, F, N, hn, hCL, hC0, hne, k⟩
end
end Mine
end

section
open PySem PySem.W PyProof.Rows
set_option Elab.async false
set_option maxRecDepth 100000
namespace Mine
namespace G
/-- how the turns of a comprehension come: any target -/
structure Turns (prog : Program) (w : World) (A : Around) (env : Env) (scope : Scope) (cl : List (Str × Addr)) (tg : PySem.Expr) (I : Addr) (fp wr : List Addr) (n : Nat) {α : Type} (P : Nat → α → Prop) (Bd : α → (Str → Option Value) → Prop) (St : Nat → Heap → Prop) : Prop where
  sub : ∀ b ∈ wr, b ∈ fp
  frame : ∀ i h h', St i h → (∀ b ∈ fp, ∀ o, h.get? b = some o → h'.get? b = some o) → St i h'
  turn : ∀ i C mC (s : Shared) (QN : Shared → Prop) (Q : Shared → Prop) (E : Value → Shared → Prop), i < n → St i s.heap → C ∉ fp → s.heap.Ns C mC →
    (∀ v h' tk mC', P i v → Bd v mC' → St (i + 1) h' → h'.Ns C mC' → (∀ b o, b ∉ wr → b ≠ C → s.heap.get? b = some o → h'.get? b = some o) → Q { s with heap := h', toks := tk }) →
    wpAny (model prog w) A (pyNext (.ref I)) (fun r s₁ => match r with
      | none => QN s₁
      | some v => wpAny (model prog w) A (letOwnedTupleGo tg (.ref I) v) (fun _ s₁' => wpAny (model prog w) A (assign tg (compEnvC scope cl C env) v) (fun _ s₂ => Q s₂) E s₁') E s₁) E s
  done : ∀ (s : Shared) (Q : Option Value → Shared → Prop) (E : Value → Shared → Prop), St n s.heap →
    (∀ h' tk, (∀ b o, b ∉ wr → s.heap.get? b = some o → h'.get? b = some o) → Q none { s with heap := h', toks := tk }) → wpAny (model prog w) A (pyNext (.ref I)) Q E s
  self : ∀ i (s : Shared) (Q : Value → Shared → Prop) (E : Value → Shared → Prop), St i s.heap → Q (.ref I) s → wpAny (model prog w) A (pyIter (.ref I)) Q E s
section
variable {prog : Program} {w : World} {A : Around}
theorem compLoop_gen {elt target iter : PySem.Expr} {ifs : List PySem.Expr} {scope : Scope} {pos : Pos} {it acc : Value} {env : Env} {R : Result → Shared → Prop} {s : Shared} (I : Nat → Shared → Prop)
    (turn : ∀ n s, I n s → wpAny (model prog w) A (pyNext it) (fun r s₁ => match r with
      | none => R (.ok .next) s₁
      | some v => wpAny (model prog w) A (letOwnedTupleGo target it v) (fun _ s₁' => wpAny (model prog w) A (assign target env v) (fun _ s₂ =>
          wpAny (model prog w) A (forIn ifs true fun c r => if r = true then do let ok ← isTrue c env (eval c env); pure (ForInStep.yield ok) else pure (ForInStep.yield r)) (fun ok s₃ =>
            if ok = true then wpAny (model prog w) A (eval elt env) (fun x s₄ =>
              wpAny (model prog w) A (call (.builtin "list.append") [acc, x]) (fun _ s₅ => ∃ m, m < n ∧ I m s₅) (notedBy (model prog w) A env fun e s' => R (.error e) s') s₄) (notedBy (model prog w) A env fun e s' => R (.error e) s') s₃
            else ∃ m, m < n ∧ I m s₃) (notedBy (model prog w) A env fun e s' => R (.error e) s') s₂) (notedBy (model prog w) A env fun e s' => R (.error e) s') s₁') (notedBy (model prog w) A env fun e s' => R (.error e) s') s₁) (notedBy (model prog w) A env fun e s' => R (.error e) s') s)
    (n : Nat) (h : I n s) : codeAny (model prog w) A (.compLoop (.ListComp elt [⟨target, iter, ifs, 0⟩] scope pos) 0 it acc env) R s := by
  refine codeAny_loop rfl I (fun n s hI => ?_) n h
  show wpAny _ A ((compTurn (.ListComp elt [⟨target, iter, ifs, 0⟩] scope pos) 0 it acc env).onRaise (fun x => do noteFrame x env; theTreesLotGoes x)) _ _ s
  refine wpAny_noted ?_
  rw [compTurn_list]
  refine wpAny_bind (wpAny_standAt (wpAny_bind (wpAny_mono (turn n s hI) (fun r s₁ h₁ => ?_) fun _ _ e => e)))
  cases r with
  | none => exact wpAny_pure h₁
  | some v =>
    refine wpAny_bind (wpAny_mono h₁ (fun _ s₁' h₁' => wpAny_bind (wpAny_mono h₁' (fun _ s₂ h₂ => wpAny_bind (wpAny_mono h₂ (fun ok s₃ h₃ => ?_) fun _ _ e => e)) fun _ _ e => e)) fun _ _ e => e)
    cases ok with
    | false => exact wpAny_pure ⟨rfl, h₃⟩
    | true => exact wpAny_bind (wpAny_bind (wpAny_mono h₃ (fun x s₄ h₄ => wpAny_bind (wpAny_mono h₄ (fun _ s₅ h₅ => wpAny_pure (wpAny_pure ⟨rfl, h₅⟩)) fun _ _ e => e)) fun _ _ e => e))
end
section
variable {prog : Program} {w : World} {A : Around} {E : Value → Shared → Prop} {env : Env} {h₀ : Heap} {L : Addr} {m : Str → Option Value}

theorem comp_loop {elt iter tg : PySem.Expr} {α : Type} {Bd : α → (Str → Option Value) → Prop} {ifs : List PySem.Expr} {scope : Scope} {cl : List (Str × Addr)} {pos : Pos} {s : Shared} {I D C : Addr} {fp wr : List Addr} {n : Nat} {P : Nat → α → Prop}
    {St : Nat → Heap → Prop} {news : List (Addr × Obj)} {mC : Str → Option Value} {R : Result → Shared → Prop} (W : Turns prog w A env scope cl tg I fp wr n P Bd St) (hsz : n ≤ sizeLine) (p : α → Bool) (Fl : α → Value → List (Addr × Obj) → Prop)
    (hkind : scope.kind = .function) (hst : St 0 s.heap) (hwrn : ∀ b ∈ wr, h₀.get? b = none) (hlive : ∀ b ∈ wr, ∀ i h, St i h → ∃ o, h.get? b = some o)
    (hLf : L ∉ fp) (hDf : D ∉ fp) (hCf : C ∉ fp) (hDC : D ≠ C) (hCL : C ≠ L) (hDL : D ≠ L) (hC0 : h₀.get? C = none) (hD0 : h₀.get? D = none)
    (F : Fr h₀ L s.heap m) (N : News h₀ L s.heap ((D, listOf #[] 0) :: news)) (hnw : ∀ q ∈ news, q.1 ∉ wr ∧ q.1 ≠ D ∧ q.1 ≠ C) (hnC : s.heap.Ns C mC)
    (tests : ∀ i v co m₂ tl s₃ E', i < n → P i v → NsObj co m₂ → Bd v m₂ → Fr h₀ L s₃.heap m → News h₀ L s₃.heap ((C, co) :: tl) → (∀ q ∈ news, q ∈ tl) →
      wpAny (model prog w) A (forIn ifs true fun c r => if r = true then do let ok ← isTrue c (compEnvC scope cl C env) (eval c (compEnvC scope cl C env)); pure (ForInStep.yield ok) else pure (ForInStep.yield r))
        (TestEnd h₀ L m ((C, co) :: tl) (p v) s₃) E' s₃)
    (elts : ∀ i v co m₂ tl s₃ E', i < n → P i v → p v = true → NsObj co m₂ → Bd v m₂ → Fr h₀ L s₃.heap m → News h₀ L s₃.heap ((C, co) :: tl) → (∀ q ∈ news, q ∈ tl) →
      wpAny (model prog w) A (eval elt (compEnvC scope cl C env)) (EltEnd h₀ L m ((C, co) :: tl) (Fl v) s₃) E' s₃)
    (hR : ∀ h' tk m' k ys (vs : List α) led, Fr h₀ L h' m → News h₀ L h' ((D, listOf (ys : List Value).toArray k) :: led) → (∀ q ∈ news, q ∈ led) → (∀ q ∈ led, q.1 ≠ C) → h'.Ns C m' → vs.length = n → (∀ j v, vs[j]? = some v → P j v) →
      Paired (fun v y => ∃ nw, (∀ q ∈ nw, q ∈ led) ∧ Fl v y nw) (vs.filter p) ys → R (.ok .next) { s with heap := h', toks := tk }) :
    codeAny (model prog w) A (.compLoop (.ListComp elt [⟨tg, iter, ifs, 0⟩] scope pos) 0 (.ref I) (.ref D) (compEnvC scope cl C env)) R s := by
  have hLw : L ∉ wr := fun h => hLf (W.sub _ h)
  have hDw : D ∉ wr := fun h => hDf (W.sub _ h)
  have hCw : C ∉ wr := fun h => hCf (W.sub _ h)
  have old : ∀ b o, h₀.get? b = some o → b ∉ wr := fun b o e hb => by rw [hwrn b hb] at e; cases e
  refine compLoop_gen
    (fun k s' => ∃ h' tk mC ys kk, ∃ vs : List α, ∃ led, s' = { s with heap := h', toks := tk } ∧ St vs.length h' ∧ h'.Ns C mC ∧ Fr h₀ L h' m ∧ News h₀ L h' ((D, listOf (ys : List Value).toArray kk) :: led) ∧ (∀ q ∈ news, q ∈ led) ∧
      (∀ q ∈ led, q.1 ∉ wr ∧ q.1 ≠ D ∧ q.1 ≠ C) ∧ (∀ j v, vs[j]? = some v → P j v) ∧ Paired (fun v y => ∃ nw, (∀ q ∈ nw, q ∈ led) ∧ Fl v y nw) (vs.filter p) ys ∧ vs.length ≤ n ∧ k = n + 1 - vs.length) ?_ (n + 1)
    ⟨s.heap, s.toks, mC, [], 0, [], news, rfl, hst, hnC, F, N, fun _ h => h, hnw, by simp, .nil, Nat.zero_le _, rfl⟩
  rintro k s' ⟨H, tk, mC', ys, kk, vs, led, rfl, hst', hn', F', N', hsub, hled, hP, hF, hi, rfl⟩
  by_cases hlt : vs.length < n
  · have hC0' : ∀ b o, h₀.get? b = some o → b ≠ C := fun b o e q => by rw [q, hC0] at e; cases e
    refine W.turn vs.length C mC' _ _ _ _ hlt hst' hCf hn' fun v h₂ tk₂ mC₂ hPv hBd hst₂ hn₂ hk₂ => ?_
    have F₂ : Fr h₀ L h₂ m := ⟨F'.ns.at' fun o e => hk₂ _ o hLw (Ne.symm hCL) e, fun b o e => hk₂ b o (old b o e) (hC0' b o e) (F'.keep b o e), F'.above⟩
    have N₂ : News h₀ L h₂ ((D, listOf ys.toArray kk) :: led) := fun q hq => by
      rcases List.mem_cons.mp hq with rfl | hq'
      · exact ⟨hk₂ _ _ hDw hDC (N' _ hq).1, (N' _ hq).2⟩
      · exact ⟨hk₂ _ _ (hled q hq').1 (hled q hq').2.2 (N' _ hq).1, (N' _ hq).2⟩
    obtain ⟨co, hco, hns⟩ := nsObj_of hn₂
    have Nown : News h₀ L h₂ (ownOf h₀ fp h₂) := news_ownOf hLf
    have hCown : (C, co) ∈ (C, co) :: ((D, listOf ys.toArray kk) :: (ownOf h₀ fp h₂ ++ led)) := List.mem_cons_self ..
    have N₃ : News h₀ L h₂ ((C, co) :: ((D, listOf ys.toArray kk) :: (ownOf h₀ fp h₂ ++ led))) := fun q hq => by
      rcases List.mem_cons.mp hq with rfl | hq
      · exact ⟨hco, hCL, hC0⟩
      · rcases List.mem_cons.mp hq with rfl | hq
        · exact N₂ _ (List.mem_cons_self ..)
        · rcases List.mem_append.mp hq with hq | hq
          · exact Nown q hq
          · exact N₂ q (List.mem_cons_of_mem _ hq)
    have hsub₃ : ∀ q ∈ news, q ∈ (D, listOf ys.toArray kk) :: (ownOf h₀ fp h₂ ++ led) := fun q hq => List.mem_cons_of_mem _ (List.mem_append.mpr (.inr (hsub q hq)))
    -- what an end of a walk within the turn keeps
    have stay : ∀ (h₄ : Heap) (led₄ : List (Addr × Obj)), Fr h₀ L h₄ m → News h₀ L h₄ led₄ → (∀ q ∈ (C, co) :: ((D, listOf ys.toArray kk) :: (ownOf h₀ fp h₂ ++ led)), q ∈ led₄) → St (vs.length + 1) h₄ := fun h₄ led₄ F₄ N₄ hk₄ => by
      refine W.frame _ _ _ hst₂ fun b hb o e => ?_
      cases hn : h₀.get? b with
      | some o₀ =>
        have : o₀ = o := by have := F₂.keep b o₀ hn; rw [e] at this; exact (Option.some.inj this).symm
        exact this ▸ F₄.keep b o₀ hn
      | none => exact (N₄ _ (hk₄ _ (List.mem_cons_of_mem _ (List.mem_cons_of_mem _ (List.mem_append.mpr (.inl (mem_ownOf hb hn e))))))).1
    have hP' : ∀ j u, (vs ++ [v])[j]? = some u → P j u := fun j u hj => by
      rcases Nat.lt_trichotomy j vs.length with h | h | h
      · exact hP j u (by rwa [List.getElem?_append_left h] at hj)
      · subst h; simp at hj; subst hj; exact hPv
      · have hnone : (vs ++ [v])[j]? = none := List.getElem?_eq_none (by rw [List.length_append, List.length_singleton]; omega)
        rw [hnone] at hj; cases hj
    refine wpAny_mono (tests vs.length v co _ _ _ _ hlt hPv hns hBd F₂ N₃ hsub₃) (fun ok s₃ h₃ => ?_) fun _ _ e => e
    obtain ⟨rfl, led₄, h₄, tk₄, rfl, F₄, N₄, hk₄⟩ := h₃
    have hCo₄ : h₄.get? C = some co := N₄.get (hk₄ _ (List.mem_cons_self ..))
    have hstay := stay h₄ led₄ F₄ N₄ hk₄
    have N₄' : News h₀ L h₄ ((D, listOf ys.toArray kk) :: led) := fun q hq => N₄ q (hk₄ q (by
      rcases List.mem_cons.mp hq with rfl | hq
      · exact List.mem_cons_of_mem _ (List.mem_cons_self ..)
      · exact List.mem_cons_of_mem _ (List.mem_cons_of_mem _ (List.mem_append.mpr (.inr hq)))))
    cases hpv : p v with
    | false =>
      simp only [Bool.false_eq_true, if_false]
      exact ⟨n + 1 - (vs.length + 1), by omega, h₄, tk₄, _, ys, kk, vs ++ [v], led, rfl, by simpa using hstay, hns.ns hCo₄, F₄, N₄', hsub, hled, hP', by rw [List.filter_append]; simpa [hpv] using hF,
        (by rw [List.length_append, List.length_singleton]; exact hlt), (by rw [List.length_append, List.length_singleton])⟩
    | true =>
      simp only [if_true]
      have N₅ : News h₀ L h₄ ((C, co) :: ((D, listOf ys.toArray kk) :: (ownOf h₀ fp h₂ ++ led))) := fun q hq => N₄ q (hk₄ q hq)
      refine wpAny_mono (elts vs.length v co _ _ _ _ hlt hPv hpv hns hBd F₄ N₅ hsub₃) (fun y s₅ h₅ => ?_) fun _ _ e => e
      obtain ⟨nw, led₆, ⟨h₆, tk₆, rfl, F₆, N₆, hk₆⟩, hnw₆, hnew, hFy⟩ := h₅
      have hstay₆ := stay h₆ led₆ F₆ N₆ hk₆
      have hlen : ys.length ≤ vs.length := by rw [← hF.length]; exact List.length_filter_le _ _
      have hD₆ : h₆.PlainList D ys.toArray := ⟨kk, N₆.get (hk₆ _ (List.mem_cons_of_mem _ (List.mem_cons_self ..)))⟩
      refine wpAny_list_append_plain (hsz := by rw [List.size_toArray]; omega) hD₆ fun h₇ hl₇ hs₇ => ?_
      replace hs₇ : Heap.SameBut D h₆ h₇ := hs₇
      obtain ⟨k₇, hk₇⟩ := hl₇
      have hD0' : ∀ b o, h₀.get? b = some o → b ≠ D := fun b o e q => by rw [q, hD0] at e; cases e
      have hCo₆ : h₆.get? C = some co := N₆.get (hk₆ _ (List.mem_cons_self ..))
      have hnwD : ∀ q ∈ nw, q.1 ∉ wr ∧ q.1 ≠ D ∧ q.1 ≠ C := fun q hq => by
        refine ⟨fun hb => ?_, fun e => ?_, fun e => ?_⟩
        · obtain ⟨ob, hob⟩ := hlive _ hb _ _ hst₂
          have := hnew q hq (q.1, ob) (List.mem_cons_of_mem _ (List.mem_cons_of_mem _ (List.mem_append.mpr (.inl (mem_ownOf (W.sub _ hb) (hwrn _ hb) hob)))))
          exact Nat.lt_irrefl _ this
        · have := hnew q hq _ (List.mem_cons_of_mem _ (List.mem_cons_self ..))
          exact Nat.ne_of_gt this e
        · have := hnew q hq _ (List.mem_cons_self ..)
          exact Nat.ne_of_gt this e
      refine ⟨n + 1 - (vs.length + 1), by omega, h₇, tk₆, _, ys ++ [y], k₇, vs ++ [v], nw ++ led, rfl, ?_, (hns.ns hCo₆).sameBut hs₇ (Ne.symm hDC), ⟨F₆.ns.sameBut hs₇ (Ne.symm hDL), fun b o e => hs₇.extBut b o (hD0' b o e) (F₆.keep b o e), F₆.above⟩, ?_,
        fun q hq => List.mem_append.mpr (.inr (hsub q hq)), fun q hq => (List.mem_append.mp hq).elim (hnwD q) (hled q), hP', ?_, (by rw [List.length_append, List.length_singleton]; exact hlt), (by rw [List.length_append, List.length_singleton])⟩
      · have := W.frame _ _ h₇ hstay₆ fun b hb o e => hs₇.extBut b o (fun q => hDf (q ▸ hb)) e
        simpa using this
      · intro q hq
        rcases List.mem_cons.mp hq with rfl | hq
        · refine ⟨?_, hDL, hD0⟩
          rw [hk₇]
          simp [PySem.W.listOf]
        · rcases List.mem_append.mp hq with hq | hq
          · have z := N₆ q (hnw₆ q hq)
            exact ⟨hs₇.extBut _ _ (hnwD q hq).2.1 z.1, z.2⟩
          · have z := N₆ q (hk₆ q (List.mem_cons_of_mem _ (List.mem_cons_of_mem _ (List.mem_append.mpr (.inr hq)))))
            exact ⟨hs₇.extBut _ _ (hled q hq).2.1 z.1, z.2⟩
      · rw [List.filter_append]
        have e1 : ([v].filter p) = [v] := by simp [hpv]
        rw [e1]
        refine Paired.snoc ?_ ⟨nw, fun q hq => List.mem_append.mpr (.inl hq), hFy⟩
        have mono : ∀ {l₁ l₂}, Paired (fun v y => ∃ nw, (∀ q ∈ nw, q ∈ led) ∧ Fl v y nw) l₁ l₂ → Paired (fun v y => ∃ nw', (∀ q ∈ nw', q ∈ nw ++ led) ∧ Fl v y nw') l₁ l₂ := by
          intro l₁ l₂ h
          induction h with
          | nil => exact .nil
          | cons a _ ih => obtain ⟨z, h1, h2⟩ := a; exact .cons ⟨z, fun q hq => List.mem_append.mpr (.inr (h1 q hq)), h2⟩ ih
        exact mono hF
  · have hin : vs.length = n := by omega
    refine W.done _ _ _ (hin ▸ hst') fun h₁ tk₁ hk₁ => ?_
    exact hR h₁ tk₁ mC' kk ys vs led ⟨F'.ns.at' fun o e => hk₁ _ o hLw e, fun b o e => hk₁ b o (old b o e) (F'.keep b o e), F'.above⟩
      (fun q hq => by
        rcases List.mem_cons.mp hq with rfl | hq'
        · exact ⟨hk₁ _ _ hDw (N' _ hq).1, (N' _ hq).2⟩
        · exact ⟨hk₁ _ _ (hled q hq').1 (N' _ hq).1, (N' _ hq).2⟩) hsub (fun q hq => (hled q hq).2.2) (hn'.at' fun o e => hk₁ _ o hCw e) hin hP hF

def Tests (prog : Program) (w : World) (A : Around) (env : Env) (h₀ : Heap) (L : Addr) (m : Str → Option Value) (scope : Scope) (cl : List (Str × Addr)) {α : Type} (Bd : α → (Str → Option Value) → Prop) (ifs : List PySem.Expr) (n : Nat) (P : Nat → α → Prop) (p : α → Bool) (news : List (Addr × Obj)) : Prop :=
  ∀ C i v co m₂ tl s₃ E', i < n → P i v → NsObj co m₂ → Bd v m₂ → Fr h₀ L s₃.heap m → News h₀ L s₃.heap ((C, co) :: tl) → (∀ q ∈ news, q ∈ tl) →
    wpAny (model prog w) A (forIn ifs true fun c r => if r = true then do let ok ← isTrue c (compEnvC scope cl C env) (eval c (compEnvC scope cl C env)); pure (ForInStep.yield ok) else pure (ForInStep.yield r))
      (TestEnd h₀ L m ((C, co) :: tl) (p v) s₃) E' s₃
def Elts (prog : Program) (w : World) (A : Around) (env : Env) (h₀ : Heap) (L : Addr) (m : Str → Option Value) (scope : Scope) (cl : List (Str × Addr)) {α : Type} (Bd : α → (Str → Option Value) → Prop) (elt : PySem.Expr) (n : Nat) (P : Nat → α → Prop) (p : α → Bool) (Fl : α → Value → List (Addr × Obj) → Prop) (news : List (Addr × Obj)) : Prop :=
  ∀ C i v co m₂ tl s₃ E', i < n → P i v → p v = true → NsObj co m₂ → Bd v m₂ → Fr h₀ L s₃.heap m → News h₀ L s₃.heap ((C, co) :: tl) → (∀ q ∈ news, q ∈ tl) →
    wpAny (model prog w) A (eval elt (compEnvC scope cl C env)) (EltEnd h₀ L m ((C, co) :: tl) (Fl v) s₃) E' s₃

theorem tests_nil {scope : Scope} {cl : List (Str × Addr)} {α : Type} {Bd : α → (Str → Option Value) → Prop} {n : Nat} {P : Nat → α → Prop} {news : List (Addr × Obj)} : Tests prog w A env h₀ L m scope cl Bd [] n P (fun _ => true) news :=
  fun _ _ _ _ _ _ s₃ _ _ _ _ _ F N _ => wpAny_pure ⟨rfl, _, s₃.heap, s₃.toks, rfl, F, N, fun _ h => h⟩
theorem tests_one {scope : Scope} {cl : List (Str × Addr)} {α : Type} {Bd : α → (Str → Option Value) → Prop} {c : PySem.Expr} {n : Nat} {P : Nat → α → Prop} {p : α → Bool} {news : List (Addr × Obj)}
    (h : ∀ C i v co m₂ tl s₃ E', i < n → P i v → NsObj co m₂ → Bd v m₂ → Fr h₀ L s₃.heap m → News h₀ L s₃.heap ((C, co) :: tl) → (∀ q ∈ news, q ∈ tl) →
      wpAny (model prog w) A (isTrue c (compEnvC scope cl C env) (eval c (compEnvC scope cl C env))) (TestEnd h₀ L m ((C, co) :: tl) (p v) s₃) E' s₃) :
    Tests prog w A env h₀ L m scope cl Bd [c] n P p news := fun C i v co m₂ tl s₃ E' hi hP hn hm F N hs => by
  show wpAny _ _ (forIn [c] true _) _ _ _
  rw [List.forIn_cons]
  refine wpAny_bind ?_
  rw [if_pos rfl]
  refine wpAny_bind (wpAny_mono (h C i v co m₂ tl s₃ E' hi hP hn hm F N hs) (fun ok s' q => wpAny_pure ?_) fun _ _ e => e)
  dsimp only
  rw [List.forIn_nil]
  exact wpAny_pure q

theorem comp_block {elt iter tg : PySem.Expr} {α : Type} {Bd : α → (Str → Option Value) → Prop} {ifs : List PySem.Expr} {scope : Scope} {cl : List (Str × Addr)} {pos : Pos} {s₂ : Shared} {I : Addr} {fp wr : List Addr} {n : Nat} {P : Nat → α → Prop}
    {St : Nat → Heap → Prop} {news : List (Addr × Obj)} {RR : Value → Addr → Result → Shared → Prop} (W : Turns prog w A env scope cl tg I fp wr n P Bd St) (hsz : n ≤ sizeLine) (p : α → Bool) (Fl : α → Value → List (Addr × Obj) → Prop)
    (hcell : ∀ y ∈ scope.names, y.2 ≠ .cell) (hkind : scope.kind = .function) (hst : St 0 s₂.heap) (hfp : ∀ b ∈ fp, b < s₂.heap.objs.size)
    (hwrn : ∀ b ∈ wr, h₀.get? b = none) (hlive : ∀ b ∈ wr, ∀ i h, St i h → ∃ o, h.get? b = some o) (hLf : L ∉ fp) (F : Fr h₀ L s₂.heap m) (N : News h₀ L s₂.heap news) (hnw : ∀ q ∈ news, q.1 ∉ wr)
    (tests : Tests prog w A env h₀ L m scope cl Bd ifs n P p news) (elts : Elts prog w A env h₀ L m scope cl Bd elt n P p Fl news)
    (hR : ∀ D C h' tk m' k ys (vs : List α) led, Fr h₀ L h' m → News h₀ L h' ((D, listOf (ys : List Value).toArray k) :: led) → (∀ q ∈ news, q ∈ led) → (∀ q ∈ led, q.1 ≠ C) → D ≠ C → C ≠ L → h₀.get? C = none → (∀ q ∈ news, q.1 < D) →
      h'.Ns C m' → vs.length = n → (∀ j v, vs[j]? = some v → P j v) →
      Paired (fun v y => ∃ nw, (∀ q ∈ nw, q ∈ led) ∧ Fl v y nw) (vs.filter p) ys → RR (.ref D) C (.ok .next) { s₂ with heap := h', toks := tk }) :
    wpAny (model prog w) A (newList []) (fun acc s₃ => wpAny (model prog w) A (newFunctionEnv scope env.globals cl [] env.qual none .none (some env)) (fun cenv s₄ =>
      codeAny (model prog w) A (.compStart (.ListComp elt [⟨tg, iter, ifs, 0⟩] scope pos) 0 (.ref I) acc { cenv with scope := relabel scope env }) (RR acc cenv.locals) s₄) E s₃) E s₂ := by
  refine wpAny_newObj_type (wpAny_newFunctionEnv hcell (by intro y hy; simp at hy) (fun h₁ hns₁ hsb₁ => ?_) hkind)
  dsimp only at hns₁ hsb₁ ⊢
  generalize hH2 : s₂.heap.push { cls := .type "list", dict := none, data := .seq ([] : List Value).toArray } = H2 at hns₁ hsb₁ ⊢
  have hC : H2.objs.size = s₂.heap.objs.size + 1 := by rw [← hH2, Heap.size_push]
  have hDC : s₂.heap.objs.size ≠ H2.objs.size := by rw [hC]; exact Nat.ne_of_lt (Nat.lt_succ_self _)
  have below : ∀ b, b < s₂.heap.objs.size → b ≠ H2.objs.size := fun b hb => by rw [hC]; exact Nat.ne_of_lt (Nat.lt_succ_of_lt hb)
  have hDf : s₂.heap.objs.size ∉ fp := fun hm => Nat.lt_irrefl _ (hfp _ hm)
  have hCf : H2.objs.size ∉ fp := fun hm => by have := hfp _ hm; rw [hC] at this; exact Nat.lt_irrefl _ (Nat.lt_of_succ_lt this)
  have old : ∀ b o, s₂.heap.get? b = some o → h₁.get? b = some o := fun b o e => hsb₁.extBut b o (below b (Heap.lt_size e)) (Heap.get?_push_of_some _ (hH2 ▸ Heap.get?_push_of_some _ e))
  have hst₁ : St 0 h₁ := W.frame _ _ _ hst fun b _ o e => old b o e
  have fresh : ∀ a, s₂.heap.objs.size ≤ a → s₂.heap.get? a = none := fun a ha => by
    cases e : s₂.heap.get? a with
    | none => rfl
    | some o' => exact absurd (Heap.lt_size e) (Nat.not_lt.mpr ha)
  have fresh0 : ∀ a, s₂.heap.objs.size ≤ a → h₀.get? a = none := fun a ha => by
    cases e : h₀.get? a with
    | none => rfl
    | some o' => have := fresh a ha; rw [F.keep a o' e] at this; cases this
  have hL : L < s₂.heap.objs.size := F.ns.lt
  have hCle : s₂.heap.objs.size ≤ H2.objs.size := by rw [hC]; exact Nat.le_succ _
  have hD₁ : h₁.get? s₂.heap.objs.size = some (listOf #[] 0) := hsb₁.extBut _ _ hDC (Heap.get?_push_of_some _ (hH2 ▸ Heap.get?_push_size _ rfl))
  have F₁ : Fr h₀ L h₁ m := ⟨F.ns.at' fun o e => old _ o e, fun b o e => old b o (F.keep b o e), F.above⟩
  have N₁ : News h₀ L h₁ ((s₂.heap.objs.size, listOf #[] 0) :: news) := fun q hq => by
    rcases List.mem_cons.mp hq with rfl | hq
    · exact ⟨hD₁, Nat.ne_of_gt hL, fresh0 _ (Nat.le_refl _)⟩
    · exact ⟨old _ _ (N q hq).1, (N q hq).2⟩
  have hlt : ∀ q ∈ news, q.1 < s₂.heap.objs.size := fun q hq => Heap.lt_size (N q hq).1
  have loop : ∀ s₃ : Shared, s₃ = { s₂ with heap := h₁, toks := s₂.toks + ([] : List (Str × Value)).length } →
      codeAny (model prog w) A (.compLoop (.ListComp elt [⟨tg, iter, ifs, 0⟩] scope pos) 0 (.ref I) (.ref s₂.heap.objs.size) (compEnvC scope cl H2.objs.size env))
        (RR (.ref s₂.heap.objs.size) H2.objs.size) s₃ := by
    rintro s₃ rfl
    refine comp_loop W hsz p Fl hkind hst₁ hwrn hlive hLf hDf hCf hDC (Nat.ne_of_gt (Nat.lt_of_lt_of_le hL hCle)) (Nat.ne_of_gt hL) (fresh0 _ hCle) (fresh0 _ (Nat.le_refl _)) F₁ N₁
      (fun q hq => ⟨hnw q hq, Nat.ne_of_lt (hlt q hq), below _ (hlt q hq)⟩) hns₁ (fun i v co m₂ tl s₃ E' => tests _ i v co m₂ tl s₃ E') (fun i v co m₂ tl s₃ E' => elts _ i v co m₂ tl s₃ E') fun h' tk m' k ys vs led F' N' hs hne hnC hlen hP hF => ?_
    exact hR _ _ h' tk m' k ys vs led F' N' hs hne hDC (Nat.ne_of_gt (Nat.lt_of_lt_of_le hL hCle)) (fresh0 _ hCle) hlt hnC hlen hP hF
  exact codeAny_compStart_list (loop _ rfl) (W.self 0 _ _ _ hst₁ (loop _ rfl))

/-- what stands behind the iterator of a comprehension -/
def CompK (prog : Program) (w : World) (A : Around) (env : Env) (elt iter tg : PySem.Expr) (ifs : List PySem.Expr) (scope : Scope) (cl : List (Str × Addr)) (pos : Pos) (RR : Value → Addr → Result → Shared → Prop) (E : Value → Shared → Prop) (it : Value) (s₂ : Shared) : Prop :=
  wpAny (model prog w) A (newList []) (fun acc s₃ => wpAny (model prog w) A (newFunctionEnv scope env.globals cl [] env.qual none .none (some env)) (fun cenv s₄ =>
    codeAny (model prog w) A (.compStart (.ListComp elt [⟨tg, iter, ifs, 0⟩] scope pos) 0 it acc { cenv with scope := relabel scope env }) (RR acc cenv.locals) s₄) E s₃) E s₂

theorem comp_expr {s : Shared} {elt iter tg : PySem.Expr} {ifs : List PySem.Expr} {scope : Scope} {cl : List (Str × Addr)} {pos : Pos} {Q : Value → Shared → Prop}
    (hclos : closureFor scope env = pure cl) (hkind : scope.kind = .function) (hnames : ∀ y ∈ scope.names, y.2 = .local → scope.names.lookup y.1 = some .local) (hs : ∀ x, foldedSetIterable iter env x = pure x)
    (h : wpAny (model prog w) A (eval iter env) (fun xv s₁ => wpAny (model prog w) A (pyIter xv) (fun it s₂ => CompK prog w A env elt iter tg ifs scope cl pos (fun acc C => compPost (model prog w) A E none Q acc C) E it s₂) E s₁) E s) :
    wpAny (model prog w) A (eval (.ListComp elt [⟨tg, iter, ifs, 0⟩] scope pos) env) Q E s := by
  rw [eval_ListComp]
  exact wpAny_comprehension_free (use := none) rfl hs hclos hkind hnames h

theorem comp_assign {s : Shared} {elt iter tg : PySem.Expr} {y : Str} {py : Pos} {ifs : List PySem.Expr} {scope : Scope} {cl : List (Str × Addr)} {pos spos : Pos} {Q : Flow → Shared → Prop}
    (hsw : swapsWith (.ListComp elt [⟨tg, iter, ifs, 0⟩] scope pos) (some (.Name y py)) spos.line env = pure true)
    (hclos : closureFor scope env = pure cl) (hkind : scope.kind = .function) (hnames : ∀ y ∈ scope.names, y.2 = .local → scope.names.lookup y.1 = some .local) (hs : ∀ x, foldedSetIterable iter env x = pure x)
    (h : wpAny (model prog w) A (eval iter env) (fun xv s₁ => wpAny (model prog w) A (pyIter xv) (fun it s₂ => CompK prog w A env elt iter tg ifs scope cl pos
      (fun acc C => compPost (model prog w) A E (some (assign (.Name y py) env)) (fun _ s' => Q .next s') acc C) E it s₂) E s₁) E s) :
    wpAny (model prog w) A (exec (.Assign [.Name y py] (.ListComp elt [⟨tg, iter, ifs, 0⟩] scope pos) spos) env) Q E s := by
  rw [exec_Assign_Name_used _ _ _ _ hsw]
  refine wpAny_bind (wpAny_standAt (wpAny_bind ?_))
  show wpAny _ A (do let _ ← comprehension (.ListComp elt [⟨tg, iter, ifs, 0⟩] scope pos) scope env _ (newList []) false (eval iter env) (some (assign (.Name y py) env))) _ _ s
  exact wpAny_bind (wpAny_mono (wpAny_comprehension_free (use := some (assign (.Name y py) env)) (Q := fun _ s' => Q .next s') rfl hs hclos hkind hnames h) (fun _ s' hq => wpAny_pure (wpAny_pure hq)) fun _ _ e => e)

theorem compK_expr {elt iter tg : PySem.Expr} {α : Type} {Bd : α → (Str → Option Value) → Prop} {ifs : List PySem.Expr} {scope : Scope} {cl : List (Str × Addr)} {pos : Pos} {s₂ : Shared} {I : Addr} {fp wr : List Addr} {n : Nat} {P : Nat → α → Prop}
    {St : Nat → Heap → Prop} {news : List (Addr × Obj)} {Q : Value → Shared → Prop} (W : Turns prog w A env scope cl tg I fp wr n P Bd St) (hsz : n ≤ sizeLine) (p : α → Bool) (Fl : α → Value → List (Addr × Obj) → Prop)
    (hcell : ∀ y ∈ scope.names, y.2 ≠ .cell) (hkind : scope.kind = .function) (hst : St 0 s₂.heap) (hfp : ∀ b ∈ fp, b < s₂.heap.objs.size)
    (hwrn : ∀ b ∈ wr, h₀.get? b = none) (hlive : ∀ b ∈ wr, ∀ i h, St i h → ∃ o, h.get? b = some o) (hLf : L ∉ fp) (F : Fr h₀ L s₂.heap m) (N : News h₀ L s₂.heap news) (hnw : ∀ q ∈ news, q.1 ∉ wr)
    (tests : Tests prog w A env h₀ L m scope cl Bd ifs n P p news) (elts : Elts prog w A env h₀ L m scope cl Bd elt n P p Fl news)
    (done : ∀ D h' tk k ys (vs : List α) led, Fr h₀ L h' m → News h₀ L h' ((D, listOf (ys : List Value).toArray k) :: led) → (∀ q ∈ news, q ∈ led) → (∀ q ∈ news, q.1 < D) → vs.length = n → (∀ j v, vs[j]? = some v → P j v) →
      Paired (fun v y => ∃ nw, (∀ q ∈ nw, q ∈ led) ∧ Fl v y nw) (vs.filter p) ys → Q (.ref D) { s₂ with heap := h', toks := tk }) :
    CompK prog w A env elt iter tg ifs scope cl pos (fun acc C => compPost (model prog w) A E none Q acc C) E (.ref I) s₂ := by
  refine comp_block (RR := fun acc C => compPost (model prog w) A E none Q acc C) W hsz p Fl hcell hkind hst hfp hwrn hlive hLf F N hnw tests elts fun D C h' tk m' k ys vs led F' N' hs hne hDC hCL hC0 hlt hnC hlen hP hF => ?_
  refine ⟨m', hnC, fun h₃ hs₃ => ?_⟩
  replace hs₃ : Heap.SameBut C h' h₃ := hs₃
  refine done D h₃ tk k ys vs led ⟨F'.ns.sameBut hs₃ (Ne.symm hCL), fun b o e => hs₃.extBut b o (fun q => by rw [q, hC0] at e; cases e) (F'.keep b o e), F'.above⟩ (fun q hq => ?_) hs hlt hlen hP hF
  have z := N' q hq
  refine ⟨hs₃.extBut _ _ ?_ z.1, z.2⟩
  rcases List.mem_cons.mp hq with rfl | hq
  · exact hDC
  · exact hne q hq

theorem compK_assign {elt iter tg : PySem.Expr} {α : Type} {Bd : α → (Str → Option Value) → Prop} {y : Str} {py : Pos} {ifs : List PySem.Expr} {scope : Scope} {cl : List (Str × Addr)} {pos : Pos} {s₂ : Shared} {I : Addr} {fp wr : List Addr} {n : Nat} {P : Nat → α → Prop}
    {St : Nat → Heap → Prop} {news : List (Addr × Obj)} {Q : Shared → Prop} (W : Turns prog w A env scope cl tg I fp wr n P Bd St) (hsz : n ≤ sizeLine) (p : α → Bool) (Fl : α → Value → List (Addr × Obj) → Prop)
    (hcell : ∀ y ∈ scope.names, y.2 ≠ .cell) (hkind : scope.kind = .function) (hst : St 0 s₂.heap) (hfp : ∀ b ∈ fp, b < s₂.heap.objs.size)
    (hwrn : ∀ b ∈ wr, h₀.get? b = none) (hlive : ∀ b ∈ wr, ∀ i h, St i h → ∃ o, h.get? b = some o) (hLf : L ∉ fp) (F : Fr h₀ L s₂.heap m) (N : News h₀ L s₂.heap news) (hnw : ∀ q ∈ news, q.1 ∉ wr)
    (tests : Tests prog w A env h₀ L m scope cl Bd ifs n P p news) (elts : Elts prog w A env h₀ L m scope cl Bd elt n P p Fl news)
    (store : ∀ D C co mC h' tk k ys (vs : List α) led, Fr h₀ L h' m → News h₀ L h' ((C, co) :: (D, listOf (ys : List Value).toArray k) :: led) → NsObj co mC → (∀ q ∈ news, q ∈ led) → (∀ q ∈ led, q.1 ≠ C) → D ≠ C → C ≠ L → h₀.get? C = none → (∀ q ∈ news, q.1 < D) → vs.length = n → (∀ j v, vs[j]? = some v → P j v) →
      Paired (fun v y => ∃ nw, (∀ q ∈ nw, q ∈ led) ∧ Fl v y nw) (vs.filter p) ys →
      wpAny (model prog w) A (assign (.Name y py) env (.ref D)) (fun _ s'' => StoreEnd h₀ L C Q { s₂ with heap := h', toks := tk } s'') E { s₂ with heap := h', toks := tk }) :
    CompK prog w A env elt iter tg ifs scope cl pos (fun acc C => compPost (model prog w) A E (some (assign (.Name y py) env)) (fun _ s' => Q s') acc C) E (.ref I) s₂ := by
  refine comp_block (RR := fun acc C => compPost (model prog w) A E (some (assign (.Name y py) env)) (fun _ s' => Q s') acc C) W hsz p Fl hcell hkind hst hfp hwrn hlive hLf F N hnw tests elts fun D C h' tk m' k ys vs led F' N' hs hne hDC hCL hC0 hlt hnC hlen hP hF => ?_
  obtain ⟨co, hco, hns⟩ := nsObj_of hnC
  show wpAny _ _ (assign (.Name y py) env (.ref D)) _ _ _
  refine wpAny_mono (store D C co m' h' tk k ys vs led F' (fun q hq => ?_) hns hs hne hDC hCL hC0 hlt hlen hP hF) (fun _ s'' q => q.out) fun _ _ e => e
  rcases List.mem_cons.mp hq with rfl | hq
  · exact ⟨hco, hCL, hC0⟩
  · exact N' q hq
end
end G
end Mine
end

section
open PySem PySem.W PyProof.Rows
set_option Elab.async false
set_option maxRecDepth 100000
namespace Mine
section
variable {prog : Program} {w : World} {A : Around} {E : Value → Shared → Prop} {env : Env} {h₀ : Heap} {L : Addr} {m : Str → Option Value}
theorem turns_name {scope : Scope} {cl : List (Str × Addr)} {x : Str} {px : Pos} {I : Addr} {fp wr : List Addr} {n : Nat} {P : Nat → Value → Prop} {St : Nat → Heap → Prop}
    (W : Walks prog w A I fp wr n P St) (hkind : scope.kind = .function) (hx : scope.names.lookup x = some .local) : G.Turns prog w A env scope cl (.Name x px) I fp wr n P (fun v m => m x = some v) St where
  sub := W.sub
  frame := W.frame
  turn := fun i C mC s QN Q E hi hst hCf hn hQ => W.item i s _ _ hi hst fun v h₁ tk₁ hP hst₁ hk₁ => by
    have hCw : C ∉ wr := fun h => hCf (W.sub _ h)
    have hn₁ : h₁.Ns C mC := hn.at' fun o e => hk₁ C o hCw e
    show wpAny _ A (letOwnedTupleGo (.Name x px) (.ref I) v) _ _ _
    rw [show letOwnedTupleGo (.Name x px) (.ref I) v = pure () from rfl]
    refine wpAny_pure (wpAny_assign_Name (wpAny_storeName_local (lookup_relabel_local hx) hn₁ (fun h₂ hn₂ hs₂ => ?_) (by simp [compEnvC, relabel, hkind])))
    replace hs₂ : Heap.SameBut C h₁ h₂ := hs₂
    exact hQ v h₂ (tk₁ + 1) _ hP (by simp) (W.frame _ _ _ hst₁ fun b hb o e => hs₂.extBut b o (fun q => hCf (q ▸ hb)) e) hn₂ fun b o hb hbC e => hs₂.extBut b o hbC (hk₁ b o hb e)
  done := W.done
  self := W.self
def Tests (prog : Program) (w : World) (A : Around) (env : Env) (h₀ : Heap) (L : Addr) (m : Str → Option Value) (scope : Scope) (cl : List (Str × Addr)) (x : Str) (ifs : List PySem.Expr) (n : Nat) (P : Nat → Value → Prop) (p : Value → Bool) (news : List (Addr × Obj)) : Prop :=
  ∀ C i v co m₂ tl s₃ E', i < n → P i v → NsObj co m₂ → m₂ x = some v → Fr h₀ L s₃.heap m → News h₀ L s₃.heap ((C, co) :: tl) → (∀ q ∈ news, q ∈ tl) →
    wpAny (model prog w) A (forIn ifs true fun c r => if r = true then do let ok ← isTrue c (compEnvC scope cl C env) (eval c (compEnvC scope cl C env)); pure (ForInStep.yield ok) else pure (ForInStep.yield r))
      (TestEnd h₀ L m ((C, co) :: tl) (p v) s₃) E' s₃
def Elts (prog : Program) (w : World) (A : Around) (env : Env) (h₀ : Heap) (L : Addr) (m : Str → Option Value) (scope : Scope) (cl : List (Str × Addr)) (x : Str) (elt : PySem.Expr) (n : Nat) (P : Nat → Value → Prop) (p : Value → Bool) (Fl : Value → Value → List (Addr × Obj) → Prop) (news : List (Addr × Obj)) : Prop :=
  ∀ C i v co m₂ tl s₃ E', i < n → P i v → p v = true → NsObj co m₂ → m₂ x = some v → Fr h₀ L s₃.heap m → News h₀ L s₃.heap ((C, co) :: tl) → (∀ q ∈ news, q ∈ tl) →
    wpAny (model prog w) A (eval elt (compEnvC scope cl C env)) (EltEnd h₀ L m ((C, co) :: tl) (Fl v) s₃) E' s₃

theorem tests_nil {scope : Scope} {cl : List (Str × Addr)} {x : Str} {n : Nat} {P : Nat → Value → Prop} {news : List (Addr × Obj)} : Tests prog w A env h₀ L m scope cl x [] n P (fun _ => true) news :=
  fun _ _ _ _ _ _ s₃ _ _ _ _ _ F N _ => wpAny_pure ⟨rfl, _, s₃.heap, s₃.toks, rfl, F, N, fun _ h => h⟩
theorem tests_one {scope : Scope} {cl : List (Str × Addr)} {x : Str} {c : PySem.Expr} {n : Nat} {P : Nat → Value → Prop} {p : Value → Bool} {news : List (Addr × Obj)}
    (h : ∀ C i v co m₂ tl s₃ E', i < n → P i v → NsObj co m₂ → m₂ x = some v → Fr h₀ L s₃.heap m → News h₀ L s₃.heap ((C, co) :: tl) → (∀ q ∈ news, q ∈ tl) →
      wpAny (model prog w) A (isTrue c (compEnvC scope cl C env) (eval c (compEnvC scope cl C env))) (TestEnd h₀ L m ((C, co) :: tl) (p v) s₃) E' s₃) :
    Tests prog w A env h₀ L m scope cl x [c] n P p news := G.tests_one (Bd := fun v m => m x = some v) h
/-- what stands behind the iterator of a comprehension -/
def CompK (prog : Program) (w : World) (A : Around) (env : Env) (elt iter : PySem.Expr) (x : Str) (px : Pos) (ifs : List PySem.Expr) (scope : Scope) (cl : List (Str × Addr)) (pos : Pos) (RR : Value → Addr → Result → Shared → Prop) (E : Value → Shared → Prop) (it : Value) (s₂ : Shared) : Prop :=
  wpAny (model prog w) A (newList []) (fun acc s₃ => wpAny (model prog w) A (newFunctionEnv scope env.globals cl [] env.qual none .none (some env)) (fun cenv s₄ =>
    codeAny (model prog w) A (.compStart (.ListComp elt [⟨.Name x px, iter, ifs, 0⟩] scope pos) 0 it acc { cenv with scope := relabel scope env }) (RR acc cenv.locals) s₄) E s₃) E s₂

theorem comp_expr {s : Shared} {elt iter : PySem.Expr} {x : Str} {px : Pos} {ifs : List PySem.Expr} {scope : Scope} {cl : List (Str × Addr)} {pos : Pos} {Q : Value → Shared → Prop}
    (hclos : closureFor scope env = pure cl) (hkind : scope.kind = .function) (hnames : ∀ y ∈ scope.names, y.2 = .local → scope.names.lookup y.1 = some .local) (hs : ∀ x, foldedSetIterable iter env x = pure x)
    (h : wpAny (model prog w) A (eval iter env) (fun xv s₁ => wpAny (model prog w) A (pyIter xv) (fun it s₂ => CompK prog w A env elt iter x px ifs scope cl pos (fun acc C => compPost (model prog w) A E none Q acc C) E it s₂) E s₁) E s) :
    wpAny (model prog w) A (eval (.ListComp elt [⟨.Name x px, iter, ifs, 0⟩] scope pos) env) Q E s := G.comp_expr hclos hkind hnames hs h
theorem comp_assign {s : Shared} {elt iter : PySem.Expr} {x y : Str} {px py : Pos} {ifs : List PySem.Expr} {scope : Scope} {cl : List (Str × Addr)} {pos spos : Pos} {Q : Flow → Shared → Prop}
    (hsw : swapsWith (.ListComp elt [⟨.Name x px, iter, ifs, 0⟩] scope pos) (some (.Name y py)) spos.line env = pure true)
    (hclos : closureFor scope env = pure cl) (hkind : scope.kind = .function) (hnames : ∀ y ∈ scope.names, y.2 = .local → scope.names.lookup y.1 = some .local) (hs : ∀ x, foldedSetIterable iter env x = pure x)
    (h : wpAny (model prog w) A (eval iter env) (fun xv s₁ => wpAny (model prog w) A (pyIter xv) (fun it s₂ => CompK prog w A env elt iter x px ifs scope cl pos
      (fun acc C => compPost (model prog w) A E (some (assign (.Name y py) env)) (fun _ s' => Q .next s') acc C) E it s₂) E s₁) E s) :
    wpAny (model prog w) A (exec (.Assign [.Name y py] (.ListComp elt [⟨.Name x px, iter, ifs, 0⟩] scope pos) spos) env) Q E s := G.comp_assign hsw hclos hkind hnames hs h
theorem compK_expr {elt iter : PySem.Expr} {x : Str} {px : Pos} {ifs : List PySem.Expr} {scope : Scope} {cl : List (Str × Addr)} {pos : Pos} {s₂ : Shared} {I : Addr} {fp wr : List Addr} {n : Nat} {P : Nat → Value → Prop}
    {St : Nat → Heap → Prop} {news : List (Addr × Obj)} {Q : Value → Shared → Prop} (W : Walks prog w A I fp wr n P St) (hsz : n ≤ sizeLine) (p : Value → Bool) (Fl : Value → Value → List (Addr × Obj) → Prop)
    (hcell : ∀ y ∈ scope.names, y.2 ≠ .cell) (hkind : scope.kind = .function) (hx : scope.names.lookup x = some .local) (hst : St 0 s₂.heap) (hfp : ∀ b ∈ fp, b < s₂.heap.objs.size)
    (hwrn : ∀ b ∈ wr, h₀.get? b = none) (hlive : ∀ b ∈ wr, ∀ i h, St i h → ∃ o, h.get? b = some o) (hLf : L ∉ fp) (F : Fr h₀ L s₂.heap m) (N : News h₀ L s₂.heap news) (hnw : ∀ q ∈ news, q.1 ∉ wr)
    (tests : Tests prog w A env h₀ L m scope cl x ifs n P p news) (elts : Elts prog w A env h₀ L m scope cl x elt n P p Fl news)
    (done : ∀ D h' tk k ys (vs : List Value) led, Fr h₀ L h' m → News h₀ L h' ((D, listOf (ys : List Value).toArray k) :: led) → (∀ q ∈ news, q ∈ led) → (∀ q ∈ news, q.1 < D) → vs.length = n → (∀ j v, vs[j]? = some v → P j v) →
      Paired (fun v y => ∃ nw, (∀ q ∈ nw, q ∈ led) ∧ Fl v y nw) (vs.filter p) ys → Q (.ref D) { s₂ with heap := h', toks := tk }) :
    CompK prog w A env elt iter x px ifs scope cl pos (fun acc C => compPost (model prog w) A E none Q acc C) E (.ref I) s₂ :=
  G.compK_expr (turns_name W hkind hx) hsz p Fl hcell hkind hst hfp hwrn hlive hLf F N hnw tests elts done
theorem compK_assign {elt iter : PySem.Expr} {x y : Str} {px py : Pos} {ifs : List PySem.Expr} {scope : Scope} {cl : List (Str × Addr)} {pos : Pos} {s₂ : Shared} {I : Addr} {fp wr : List Addr} {n : Nat} {P : Nat → Value → Prop}
    {St : Nat → Heap → Prop} {news : List (Addr × Obj)} {Q : Shared → Prop} (W : Walks prog w A I fp wr n P St) (hsz : n ≤ sizeLine) (p : Value → Bool) (Fl : Value → Value → List (Addr × Obj) → Prop)
    (hcell : ∀ y ∈ scope.names, y.2 ≠ .cell) (hkind : scope.kind = .function) (hx : scope.names.lookup x = some .local) (hst : St 0 s₂.heap) (hfp : ∀ b ∈ fp, b < s₂.heap.objs.size)
    (hwrn : ∀ b ∈ wr, h₀.get? b = none) (hlive : ∀ b ∈ wr, ∀ i h, St i h → ∃ o, h.get? b = some o) (hLf : L ∉ fp) (F : Fr h₀ L s₂.heap m) (N : News h₀ L s₂.heap news) (hnw : ∀ q ∈ news, q.1 ∉ wr)
    (tests : Tests prog w A env h₀ L m scope cl x ifs n P p news) (elts : Elts prog w A env h₀ L m scope cl x elt n P p Fl news)
    (store : ∀ D C co mC h' tk k ys (vs : List Value) led, Fr h₀ L h' m → News h₀ L h' ((C, co) :: (D, listOf (ys : List Value).toArray k) :: led) → NsObj co mC → (∀ q ∈ news, q ∈ led) → (∀ q ∈ led, q.1 ≠ C) → D ≠ C → C ≠ L → h₀.get? C = none → (∀ q ∈ news, q.1 < D) → vs.length = n → (∀ j v, vs[j]? = some v → P j v) →
      Paired (fun v y => ∃ nw, (∀ q ∈ nw, q ∈ led) ∧ Fl v y nw) (vs.filter p) ys →
      wpAny (model prog w) A (assign (.Name y py) env (.ref D)) (fun _ s'' => StoreEnd h₀ L C Q { s₂ with heap := h', toks := tk } s'') E { s₂ with heap := h', toks := tk }) :
    CompK prog w A env elt iter x px ifs scope cl pos (fun acc C => compPost (model prog w) A E (some (assign (.Name y py) env)) (fun _ s' => Q s') acc C) E (.ref I) s₂ :=
  G.compK_assign (turns_name W hkind hx) hsz p Fl hcell hkind hst hfp hwrn hlive hLf F N hnw tests elts store
end
end Mine
end

section
open PySem PySem.W PyProof.Rows
set_option Elab.async false
set_option maxRecDepth 100000
namespace Mine
/-- a source that is walked -/
def Src (prog : Program) (w : World) (A : Around) (h₀ : Heap) (L : Addr) (m : Str → Option Value) (news : List (Addr × Obj)) (xv : Value) (n : Nat) (P : Nat → Value → Prop) (s : Shared) : Prop :=
  ∀ (Q : Value → Shared → Prop) (E : Value → Shared → Prop), (∀ I fp wr St h₂, Walks prog w A I fp wr n P St → St 0 h₂ → (∀ b ∈ fp, b < h₂.objs.size) → (∀ b ∈ wr, h₀.get? b = none) → (∀ b ∈ wr, ∀ i h, St i h → ∃ o, h.get? b = some o) → L ∉ fp → Fr h₀ L h₂ m → News h₀ L h₂ news →
    (∀ q ∈ news, q.1 ∉ wr) → Q (.ref I) { s with heap := h₂ }) → wpAny (model prog w) A (pyIter xv) Q E s
section
variable {prog : Program} {w : World} {A : Around} {E : Value → Shared → Prop} {s : Shared} {env : Env} {h₀ : Heap} {L : Addr} {m : Str → Option Value} {news : List (Addr × Obj)}
theorem src_core {l : Addr} {o : Obj} {io : Obj} (F : Fr h₀ L s.heap m) (N : News h₀ L s.heap news) (hl : (l, o) ∈ news) (hf : io.isFreed = false) :
    l ≠ s.heap.objs.size ∧ (∀ b ∈ [s.heap.objs.size, l], b < (s.heap.push io).objs.size) ∧ (∀ b ∈ [s.heap.objs.size], h₀.get? b = none) ∧ L ∉ [s.heap.objs.size, l] ∧ Fr h₀ L (s.heap.push io) m ∧ News h₀ L (s.heap.push io) news ∧ (∀ q ∈ news, q.1 ∉ [s.heap.objs.size]) ∧ (s.heap.push io).get? s.heap.objs.size = some io := by
  have hlt : l < s.heap.objs.size := Heap.lt_size (N.get hl)
  refine ⟨Nat.ne_of_lt hlt, fun b hb => ?_, fun b hb => ?_, fun hm => ?_, F.push _, fun p hp => ⟨Heap.get?_push_of_some _ (N p hp).1, (N p hp).2⟩, fun q hq hm => ?_, Heap.get?_push_size _ hf⟩
  · rw [Heap.size_push]
    rcases List.mem_cons.mp hb with rfl | hb
    · exact Nat.lt_succ_self _
    · rw [List.mem_singleton.mp hb]; exact Nat.lt_succ_of_lt hlt
  · rw [List.mem_singleton.mp hb]; exact next_is_new F
  · rcases List.mem_cons.mp hm with e | hm
    · exact absurd F.ns.lt (e ▸ Nat.lt_irrefl _)
    · exact (N _ hl).2.1 (List.mem_singleton.mp hm).symm
  · exact Nat.ne_of_lt (Heap.lt_size (N q hq).1) (List.mem_singleton.mp hm)
theorem src_list {l : Addr} {vs : List Value} {k : Nat} (hh : A.handled = none) (F : Fr h₀ L s.heap m) (N : News h₀ L s.heap news) (hl : (l, listOf vs.toArray k) ∈ news) : Src prog w A h₀ L m news (.ref l) vs.length (fun i v => vs[i]? = some v) s := fun Q E h => by
  have hls : s.heap.IsList l vs.toArray := ⟨_, N.get hl, rfl, k, rfl⟩
  obtain ⟨a1, a2, a3, a4, a5, a6, a7, a8⟩ := src_core (io := { cls := .type "list_iterator", data := .fields #[.ref l, .int 0 0] }) F N hl rfl
  have W : Walks prog w A s.heap.objs.size [s.heap.objs.size, l] [s.heap.objs.size] vs.length (fun i v => vs[i]? = some v) (fun i h => h.IsListIter s.heap.objs.size l i ∧ h.IsList l vs.toArray) := by
    have := Walks.list (prog := prog) (w := w) hh s.heap.objs.size l a1 vs.toArray
    simpa using this
  refine wpAny_pyIter_list hls (h _ _ _ _ _ W ⟨⟨_, a8, rfl, rfl⟩, hls.at fun o e => Heap.get?_push_of_some _ e⟩ a2 a3 (fun b hb i h st => ?_) a4 a5 a6 a7)
  rw [List.mem_singleton.mp hb]
  obtain ⟨⟨o, e, _⟩, _⟩ := st
  exact ⟨o, e⟩
theorem src_tuple {l : Addr} {vs : List Value} (hh : A.handled = none) (F : Fr h₀ L s.heap m) (N : News h₀ L s.heap news) (hl : (l, tupO vs) ∈ news) : Src prog w A h₀ L m news (.ref l) vs.length (fun i v => vs[i]? = some v) s := fun Q E h => by
  have hls : s.heap.IsTuple l vs.toArray := ⟨_, N.get hl, rfl, 0, rfl⟩
  obtain ⟨a1, a2, a3, a4, a5, a6, a7, a8⟩ := src_core (io := { cls := .type "tuple_iterator", data := .fields #[.ref l, .int 0 0] }) F N hl rfl
  have W : Walks prog w A s.heap.objs.size [s.heap.objs.size, l] [s.heap.objs.size] vs.length (fun i v => vs[i]? = some v) (fun i h => h.IsTupleIter s.heap.objs.size l i ∧ h.IsTuple l vs.toArray) := by
    have := Walks.tuple (prog := prog) (w := w) hh s.heap.objs.size l a1 vs.toArray
    simpa using this
  refine wpAny_pyIter_tuple hls (h _ _ _ _ _ W ⟨⟨_, a8, rfl, rfl⟩, hls.at fun o e => Heap.get?_push_of_some _ e⟩ a2 a3 (fun b hb i h st => ?_) a4 a5 a6 a7)
  rw [List.mem_singleton.mp hb]
  obtain ⟨⟨o, e, _⟩, _⟩ := st
  exact ⟨o, e⟩
theorem src_keys {K : Type} [DecidableEq K] {knd : KeyKind prog w K} {d : Addr} {o : Obj} {kvs : List (K × Value)} (hh : A.handled = none) (F : Fr h₀ L s.heap m) (N : News h₀ L s.heap news) (hl : (d, o) ∈ news) (ho : o.IsDictOf knd kvs) (lo : (d == sysModules) = false) :
    Src prog w A h₀ L m news (.ref d) kvs.length (fun i v => ∃ k x, kvs[i]? = some (k, x) ∧ knd.is k v = true) s := fun Q E h => by
  obtain ⟨ep, hat⟩ := (Heap.dictOf_iff.mpr ⟨_, N.get hl, ho⟩ : s.heap.DictOf knd d kvs).dictAt
  obtain ⟨a1, a2, a3, a4, a5, a6, a7, a8⟩ := src_core (io := { cls := .type "dict_keyiterator", data := .fields #[.ref d, .int 0 0, .int kvs.length 0, .int ep 0] }) F N hl rfl
  refine wpAny_pyIter_dict lo hat (h _ _ _ _ _ (Walks.dictKeys hh s.heap.objs.size d a1 kvs ep) ⟨⟨_, a8, rfl, rfl⟩, hat.at' fun o e => Heap.get?_push_of_some _ e⟩ a2 a3 (fun b hb i h st => ?_) a4 a5 a6 a7)
  rw [List.mem_singleton.mp hb]
  obtain ⟨⟨o, e, _⟩, _⟩ := st
  exact ⟨o, e⟩
abbrev rangeO (n : Int) (t u v : Tok) : Obj := { cls := .type "range", data := .fields #[.int 0 t, .int n u, .int 1 v] }
theorem range_new {n : Int} {t : Tok} {Q : Value → Shared → Prop} (F : Fr h₀ L s.heap m) (N : News h₀ L s.heap news)
    (h : ∀ r t' u' h' tk, Fr h₀ L h' m → News h₀ L h' ((r, rangeO n t' t u') :: news) → (∀ p ∈ news, p.1 < r) → Q (.ref r) { s with heap := h', toks := tk }) : wpAny (model prog w) A (call (.type "range") [.int n t]) Q E s :=
  call_range_1 (h _ _ _ _ _ (F.push _) (News.push F N _) fun p hp => Heap.lt_size (N p hp).1)
theorem src_range {r : Addr} {n : Nat} {t u v : Tok} (hh : A.handled = none) (F : Fr h₀ L s.heap m) (N : News h₀ L s.heap news) (hl : (r, rangeO (n : Int) t u v) ∈ news) (hn : n ≤ 10000) : Src prog w A h₀ L m news (.ref r) n (fun i v => ∃ t, v = .int (i : Int) t) s := fun Q E h => by
  have hr : IsRange s.heap r 0 n 1 t u v := N.get hl
  have hz : Builtin.Range.rangeSize 0 n 1 = (n : Int) := by rw [rangeSize_one]; split <;> omega
  have W : Walks prog w A s.heap.objs.size [s.heap.objs.size] [s.heap.objs.size] n (fun i v => ∃ t, v = .int (i : Int) t) (fun i h => IsRangeIter h s.heap.objs.size (0 + (i : Nat) * 1) ((n : Int) - (i : Nat)) 1) := by
    have := Walks.range (prog := prog) (w := w) (A := A) hh s.heap.objs.size 0 1 n
    simpa using this
  obtain ⟨a1, a2, a3, a4, a5, a6, a7, a8⟩ := src_core (io := { cls := .type "range_iterator", data := .fields #[rawInt 0, rawInt (Builtin.Range.rangeSize 0 n 1), rawInt 1] }) F N hl rfl
  refine wpAny_pyIter_range hr (small_one (by decide) (by decide) (by omega) (by omega)) (h _ _ _ _ _ W ?_ (fun b hb => a2 b (List.mem_cons.mpr (.inl (List.mem_singleton.mp hb)))) a3 (fun b hb i h st => ?_) (fun hm => a4 (List.mem_cons.mpr (.inl (List.mem_singleton.mp hm)))) a5 a6 a7)
  · show IsRangeIter _ _ _ _ _
    rw [hz] at a8 ⊢
    simpa using a8
  · rw [List.mem_singleton.mp hb]
    exact ⟨_, st⟩
theorem len_K {l : Addr} {vs : List Value} {k : Nat} {Q : Value → Shared → Prop} (N : News h₀ L s.heap news) (hl : (l, listOf vs.toArray k) ∈ news) (hz : vs.length ≤ 10000) (h : ∀ u tk, Q (.int vs.length u) { s with toks := tk }) :
    wpAny (model prog w) A (call (.builtin "len") [.ref l]) Q E s :=
  PyProof.Rows.len_list (items := vs.toArray) ⟨_, N.get hl, rfl, k, rfl⟩ (by rw [List.size_toArray]; omega) (by rw [List.size_toArray]; exact h _ _)
theorem same_list {α : Type} {as bs : List α} (hl : as.length = bs.length) (h : ∀ (j : Nat) (v : α), as[j]? = some v → bs[j]? = some v) : as = bs := by
  apply List.ext_getElem? 
  intro i
  cases e : as[i]? with
  | some v => exact (h i v e).symm
  | none => rw [List.getElem?_eq_none_iff] at e; exact (List.getElem?_eq_none (by omega)).symm
theorem comp_src {elt iter : PySem.Expr} {x : Str} {px : Pos} {ifs : List PySem.Expr} {scope : Scope} {cl : List (Str × Addr)} {pos : Pos} {n : Nat} {P : Nat → Value → Prop} {xv : Value} {Q : Value → Shared → Prop} (S : Src prog w A h₀ L m news xv n P s) (p : Value → Bool) (Fl : Value → Value → List (Addr × Obj) → Prop)
    (tests : Tests prog w A env h₀ L m scope cl x ifs n P p news) (elts : Elts prog w A env h₀ L m scope cl x elt n P p Fl news)
    (done : ∀ D h' tk k ys (vs : List Value) led, Fr h₀ L h' m → News h₀ L h' ((D, listOf (ys : List Value).toArray k) :: led) → (∀ q ∈ news, q ∈ led) → (∀ q ∈ news, q.1 < D) → vs.length = n → (∀ j v, vs[j]? = some v → P j v) →
      Paired (fun v y => ∃ nw, (∀ q ∈ nw, q ∈ led) ∧ Fl v y nw) (vs.filter p) ys → Q (.ref D) { s with heap := h', toks := tk })
    (hsz : n ≤ 10000) (hcell : ∀ y ∈ scope.names, y.2 ≠ .cell) (hkind : scope.kind = .function) (hx : scope.names.lookup x = some .local) :
    wpAny (model prog w) A (pyIter xv) (fun it s₂ => CompK prog w A env elt iter x px ifs scope cl pos (fun acc C => compPost (model prog w) A E none Q acc C) E it s₂) E s :=
  S _ _ fun _ _ _ _ h₂ W hst hfp hwrn hlive hLf F N hnw => compK_expr W (by rw [sizeLine_eq]; omega) p Fl hcell hkind hx hst hfp hwrn hlive hLf F N hnw tests elts fun D h' tk k ys vs led F' N' hs hlt hlen hP hF => done D h' tk k ys vs led F' N' hs hlt hlen hP hF
theorem comp_srcA {elt iter : PySem.Expr} {x y : Str} {px py : Pos} {ifs : List PySem.Expr} {scope : Scope} {cl : List (Str × Addr)} {pos : Pos} {n : Nat} {P : Nat → Value → Prop} {xv : Value} {Q : Shared → Prop} (S : Src prog w A h₀ L m news xv n P s) (p : Value → Bool) (Fl : Value → Value → List (Addr × Obj) → Prop)
    (tests : Tests prog w A env h₀ L m scope cl x ifs n P p news) (elts : Elts prog w A env h₀ L m scope cl x elt n P p Fl news)
    (store : ∀ D C co mC h' tk k ys (vs : List Value) led, Fr h₀ L h' m → News h₀ L h' ((C, co) :: (D, listOf (ys : List Value).toArray k) :: led) → NsObj co mC → (∀ q ∈ news, q ∈ led) → (∀ q ∈ led, q.1 ≠ C) → D ≠ C → C ≠ L → h₀.get? C = none → (∀ q ∈ news, q.1 < D) → vs.length = n → (∀ j v, vs[j]? = some v → P j v) →
      Paired (fun v y => ∃ nw, (∀ q ∈ nw, q ∈ led) ∧ Fl v y nw) (vs.filter p) ys →
      wpAny (model prog w) A (assign (.Name y py) env (.ref D)) (fun _ s'' => StoreEnd h₀ L C Q { s with heap := h', toks := tk } s'') E { s with heap := h', toks := tk })
    (hsz : n ≤ 10000) (hcell : ∀ y ∈ scope.names, y.2 ≠ .cell) (hkind : scope.kind = .function) (hx : scope.names.lookup x = some .local) :
    wpAny (model prog w) A (pyIter xv) (fun it s₂ => CompK prog w A env elt iter x px ifs scope cl pos (fun acc C => compPost (model prog w) A E (some (assign (.Name y py) env)) (fun _ s' => Q s') acc C) E it s₂) E s :=
  S _ _ fun _ _ _ _ h₂ W hst hfp hwrn hlive hLf F N hnw => compK_assign W (by rw [sizeLine_eq]; omega) p Fl hcell hkind hx hst hfp hwrn hlive hLf F N hnw tests elts fun D C co mC h' tk k ys vs led F' N' hn hs hne hDC hCL hC0 hlt hlen hP hF => store D C co mC h' tk k ys vs led F' N' hn hs hne hDC hCL hC0 hlt hlen hP hF
end
end Mine
end

section
open PySem PySem.W PyProof.Rows
set_option Elab.async false
set_option maxRecDepth 100000
set_option maxHeartbeats 0
namespace Mine
theorem wl_C1_1 : True := by
  k_with_none
  k_with "call builtin:max" => (k_here; k_dflt (refine' max3_float ?wqhh ?wqF ?wqN ?_; (case wqhh => first | rfl | assumption); (case wqF => k_asm); (case wqN => k_asm)); intro h' tk' k' F' N'; (try k_sweep))
  k_with "call builtin:min" => (k_here; k_dflt (refine' min3_float ?wqhh ?wqF ?wqN ?_; (case wqhh => first | rfl | assumption); (case wqF => k_asm); (case wqN => k_asm)); intro h' tk' k' F' N'; (try k_sweep))
  k_with "newTuple" => (k_here; k_dflt (refine' kup_newTuple ?wqF ?wqN ?_ ?wqz; (case wqF => k_asm); (case wqN => k_asm); (case wqz => kmk_size)); intro D' h' F' N' l1; (try k_lt l1); (try k_sweep))
  exact True.intro

def eqF (a b : UInt64) : Bool := Float64.cmp a b == some Ordering.eq
def rgbS (r g b : UInt64) : UInt64 × UInt64 × UInt64 :=
  if eqF (min3F r g b) (max3F r g b) then (0, 0, max3F r g b) else
    let rg := Float64.sub (max3F r g b) (min3F r g b)
    let rc := Float64.div (Float64.sub (max3F r g b) r) rg
    let gc := Float64.div (Float64.sub (max3F r g b) g) rg
    let bc := Float64.div (Float64.sub (max3F r g b) b) rg
    let h := if eqF r (max3F r g b) then Float64.sub bc gc else if eqF g (max3F r g b) then Float64.sub (Float64.add 4611686018427387904 rc) bc else Float64.sub (Float64.add 4616189618054758400 gc) rc
    ((Float64.divmod (Float64.div h 4618441417868443648) 4607182418800017408).snd, Float64.div rg (max3F r g b), max3F r g b)
section
variable {r g b : UInt64}
theorem rgbS_0 (h : (Float64.cmp (min3F r g b) (max3F r g b) == some Ordering.eq) = true) : (0, 0, max3F r g b) = rgbS r g b := by
  unfold rgbS eqF; rw [if_pos h]
theorem rgbS_1 (h : (Float64.cmp (min3F r g b) (max3F r g b) == some Ordering.eq) = false) (h1 : (Float64.cmp r (max3F r g b) == some Ordering.eq) = true) :
    ((Float64.divmod (Float64.div (Float64.sub (Float64.div (Float64.sub (max3F r g b) b) (Float64.sub (max3F r g b) (min3F r g b))) (Float64.div (Float64.sub (max3F r g b) g) (Float64.sub (max3F r g b) (min3F r g b)))) 4618441417868443648) 4607182418800017408).snd,
      Float64.div (Float64.sub (max3F r g b) (min3F r g b)) (max3F r g b), max3F r g b) = rgbS r g b := by
  unfold rgbS eqF; rw [h]; dsimp only; rw [h1]; rfl
theorem rgbS_2 (h : (Float64.cmp (min3F r g b) (max3F r g b) == some Ordering.eq) = false) (h1 : (Float64.cmp r (max3F r g b) == some Ordering.eq) = false) (h2 : (Float64.cmp g (max3F r g b) == some Ordering.eq) = true) :
    ((Float64.divmod (Float64.div (Float64.sub (Float64.add 4611686018427387904 (Float64.div (Float64.sub (max3F r g b) r) (Float64.sub (max3F r g b) (min3F r g b)))) (Float64.div (Float64.sub (max3F r g b) b) (Float64.sub (max3F r g b) (min3F r g b)))) 4618441417868443648) 4607182418800017408).snd,
      Float64.div (Float64.sub (max3F r g b) (min3F r g b)) (max3F r g b), max3F r g b) = rgbS r g b := by
  unfold rgbS eqF; rw [h]; dsimp only; rw [h1, h2]; rfl
theorem rgbS_3 (h : (Float64.cmp (min3F r g b) (max3F r g b) == some Ordering.eq) = false) (h1 : (Float64.cmp r (max3F r g b) == some Ordering.eq) = false) (h2 : (Float64.cmp g (max3F r g b) == some Ordering.eq) = false) :
    ((Float64.divmod (Float64.div (Float64.sub (Float64.add 4616189618054758400 (Float64.div (Float64.sub (max3F r g b) g) (Float64.sub (max3F r g b) (min3F r g b)))) (Float64.div (Float64.sub (max3F r g b) r) (Float64.sub (max3F r g b) (min3F r g b)))) 4618441417868443648) 4607182418800017408).snd,
      Float64.div (Float64.sub (max3F r g b) (min3F r g b)) (max3F r g b), max3F r g b) = rgbS r g b := by
  unfold rgbS eqF; rw [h]; dsimp only; rw [h1, h2]; rfl
end
theorem wl_C1_2 : True := by
  k_with "execs cons" => (k_here; (with_reducible refine wpAny_execs_cons ?_); try dsimp only)
  k_with "execs nil" => (k_here; (with_reducible refine wpAny_execs_nil ?_); try dsimp only)
  exact True.intro
theorem t_rgb (w : World) {p : Program} {loose : List Str} {mean : ExcName → Option Value} {mg mb : Str → Option Value} {dp un : Nat} {gd : Option (List Code)} {cn : Str} {cs : Scope} {a : Addr} {ccd : Value} {cl : List (Str × Addr)} {outer : List Env} {A₀ : Around} {base h₀ : Heap} {L : Addr} {m : Str → Option Value} {news : List (Addr × Obj)} {s : Shared}
  {R : Result → Shared → Prop} {r g b : UInt64} {t1 t2 t3 : Tok}
  (X : (Mine.hd.heap_39 w.params).In h₀) (B : Below A₀ base outer h₀) (F : Fr h₀ L s.heap m) (N : News h₀ L s.heap news) (T : Top p loose mean mg mb h₀) (hk : cs.kind = .function) (hd : dp ≤ 640) (hu : un ≤ 200)
  (hz1 : Float64.isZero (max3F r g b) = false) (hz2 : eqF (min3F r g b) (max3F r g b) = false → Float64.isZero (Float64.sub (max3F r g b) (min3F r g b)) = false)
  (ret : ∀ D x y z u1 u2 u3 h' tk', u2 ≠ 0 → (x, y, z) = rgbS r g b → Fr h₀ L h' m → News h₀ L h' ((D, tupO [.float x u1, .float y u2, .float z u3]) :: news) → (∀ p ∈ news, p.1 < D) → R (.ok (.ret (.ref D))) {s with heap := h', toks := tk'}) :
  codeAny (model PySem.Challenge.rw_pg0268_01.row.prog w) (ktrTop dp un gd cn cs L a ccd cl outer) (.call (.ref 180) ⟨[.float r t1, .float g t2, .float b t3], []⟩) R s := by
  revert X; k_fill; intro X
  k_dflt ktr_enter
  k_steps
  all_goals first
    | exact ret _ _ _ _ _ _ _ _ _ (Nat.succ_ne_zero _) (rgbS_0 (by assumption)) (by assumption) (by assumption) (by assumption)
    | exact ret _ _ _ _ _ _ _ _ _ (Nat.succ_ne_zero _) (rgbS_1 (by assumption) (by assumption)) (by assumption) (by assumption) (by assumption)
    | exact ret _ _ _ _ _ _ _ _ _ (Nat.succ_ne_zero _) (rgbS_2 (by assumption) (by assumption) (by assumption)) (by assumption) (by assumption) (by assumption)
    | exact ret _ _ _ _ _ _ _ _ _ (Nat.succ_ne_zero _) (rgbS_3 (by assumption) (by assumption) (by assumption)) (by assumption) (by assumption) (by assumption)
    | exact absurd (hz1.symm.trans (by assumption)) Bool.false_ne_true
    | exact absurd ((hz2 (by assumption)).symm.trans (by assumption)) Bool.false_ne_true
end Mine
end

section
open PySem PySem.W PyProof.Rows
set_option Elab.async false
set_option maxRecDepth 100000
set_option maxHeartbeats 0
namespace Mine
theorem wl_C2_1 : True := by
  k_with_none
  k_with "newTuple" => (k_here; k_dflt (refine' kup_newTuple ?wqF ?wqN ?_ ?wqz; (case wqF => k_asm); (case wqN => k_asm); (case wqz => kmk_size)); intro D' h' F' N' l1; (try k_lt l1); (try k_sweep))
  exact True.intro
abbrev six (h : UInt64) : UInt64 := Float64.mul h 4618441417868443648
abbrev sixI (h : UInt64) : Int := Flt.toInt Float64.truncOf (Float64.mul h 4618441417868443648)
abbrev hsvP : UInt64 := Float64.mul 4607182418800017408 (Float64.sub 4607182418800017408 4607182418800017408)
abbrev hsvQ (h : UInt64) : UInt64 := Float64.mul 4607182418800017408 (Float64.sub 4607182418800017408 (Float64.mul 4607182418800017408 (Float64.sub (Float64.mul h 4618441417868443648) (Float64.ofInt (Flt.toInt Float64.truncOf (Float64.mul h 4618441417868443648))))))
abbrev hsvT (h : UInt64) : UInt64 := Float64.mul 4607182418800017408 (Float64.sub 4607182418800017408 (Float64.mul 4607182418800017408 (Float64.sub 4607182418800017408 (Float64.sub (Float64.mul h 4618441417868443648) (Float64.ofInt (Flt.toInt Float64.truncOf (Float64.mul h 4618441417868443648)))))))
def hsvS (h : UInt64) : UInt64 × UInt64 × UInt64 := if (sixI h).fmod 6 = 0 then (4607182418800017408, hsvT h, hsvP) else if (sixI h).fmod 6 = 2 then (hsvP, 4607182418800017408, hsvT h) else (hsvT h, hsvP, 4607182418800017408)
section
variable {h : UInt64} {x K : Int}
theorem hsvS_0 (e : (sixI h).fmod 6 = 0) : (4607182418800017408, hsvT h, hsvP) = hsvS h := by unfold hsvS; rw [if_pos e]
theorem hsvS_2 (e : (sixI h).fmod 6 = 2) : (hsvP, 4607182418800017408, hsvT h) = hsvS h := by unfold hsvS; rw [e]; rfl
theorem hsvS_4 (e : (sixI h).fmod 6 = 4) : (hsvT h, hsvP, 4607182418800017408) = hsvS h := by unfold hsvS; rw [e]; rfl
theorem hsv_no1 (k : x = 0 ∨ x = 2 ∨ x = 4) (e : x = 1) : False := by omega
theorem hsv_no3 (k : x = 0 ∨ x = 2 ∨ x = 4) (e : x = 3) : False := by omega
theorem hsv_no5 (k : x = 0 ∨ x = 2 ∨ x = 4) (e : x = 5) : False := by omega
theorem hsv_no (k : x = 0 ∨ x = 2 ∨ x = 4) (e : x ≠ 0) (e2 : x ≠ 2) (e4 : x ≠ 4) : False := by omega
theorem hsv_big {n : Nat} (k : n < 1000) (e : 2 ^ 1024 - 2 ^ 970 ≤ n) : False := absurd (Nat.lt_of_le_of_lt e k) (by decide +kernel)
theorem hsv_one (e : (Float64.cmp 4607182418800017408 0 == some Ordering.eq) = true) : False := absurd e (by decide +kernel)
end
theorem t_hsv (w : World) {p : Program} {loose : List Str} {mean : ExcName → Option Value} {mg mb : Str → Option Value} {dp un : Nat} {gd : Option (List Code)} {cn : Str} {cs : Scope} {a : Addr} {ccd : Value} {cl : List (Str × Addr)} {outer : List Env} {A₀ : Around} {base h₀ : Heap} {L : Addr} {m : Str → Option Value} {news : List (Addr × Obj)} {s : Shared}
  {R : Result → Shared → Prop} {h : UInt64} {t1 t2 t3 : Tok}
  (X : (Mine.hd.heap_39 w.params).In h₀) (B : Below A₀ base outer h₀) (F : Fr h₀ L s.heap m) (N : News h₀ L s.heap news) (T : Top p loose mean mg mb h₀) (hk : cs.kind = .function) (hd : dp ≤ 640) (hu : un ≤ 200)
  (hn : Float64.isNaN (six h) = false) (hi : Float64.isInf (six h) = false) (hb : (sixI h).natAbs < 1000) (hK : (sixI h).fmod 6 = 0 ∨ (sixI h).fmod 6 = 2 ∨ (sixI h).fmod 6 = 4)
  (ret : ∀ D x y z u1 u2 u3 h' tk', (x, y, z) = hsvS h → Fr h₀ L h' m → News h₀ L h' ((D, tupO [.float x u1, .float y u2, .float z u3]) :: news) → (∀ p ∈ news, p.1 < D) → R (.ok (.ret (.ref D))) {s with heap := h', toks := tk'}) :
  codeAny (model PySem.Challenge.rw_pg0268_01.row.prog w) (ktrTop dp un gd cn cs L a ccd cl outer) (.call (.ref 187) ⟨[.float h t1, .float 4607182418800017408 t2, .float 4607182418800017408 t3], []⟩) R s := by
  revert X; k_fill; intro X
  k_dflt ktr_enter
  k_steps
  all_goals first
    | exact ret _ _ _ _ _ _ _ _ _ (hsvS_0 (by assumption)) (by assumption) (by assumption) (by assumption)
    | exact ret _ _ _ _ _ _ _ _ _ (hsvS_2 (by assumption)) (by assumption) (by assumption) (by assumption)
    | exact ret _ _ _ _ _ _ _ _ _ (hsvS_4 (by assumption)) (by assumption) (by assumption) (by assumption)
    | exact absurd (hn.symm.trans (by assumption)) Bool.false_ne_true
    | exact absurd (hi.symm.trans (by assumption)) Bool.false_ne_true
    | exact (hsv_big hb (by assumption)).elim
    | exact (hsv_one (by assumption)).elim
    | exact (hsv_no1 hK (by assumption)).elim
    | exact (hsv_no3 hK (by assumption)).elim
    | exact (hsv_no5 hK (by assumption)).elim
    | exact (hsv_no hK (by assumption) (by assumption) (by assumption)).elim
end Mine
end

section
open PySem PySem.W PyProof.Rows
set_option Elab.async false
set_option maxRecDepth 100000
set_option maxHeartbeats 0
namespace Mine
theorem map_two (m : Str → Option Value) (xv xk : Str) : m = fun y => if y = xv then m xv else if y = xk then m xk else m y := by
  funext y
  by_cases h : y = xv
  · simp [h]
  · by_cases h2 : y = xk
    · rw [if_neg h, if_pos h2, h2]
    · rw [if_neg h, if_neg h2]
section
variable {prog : Program} {w : World} {A : Around} {E : Value → Shared → Prop} {s : Shared} {env : Env} {h₀ : Heap} {Q : Flow → Shared → Prop}
def AddEnd (prog : Program) (w : World) (h₀ : Heap) (L : Addr) (m : Str → Option Value) (dN : Addr) (tl : List (Addr × Obj)) (c : List (Str × Int)) (s₁ : Shared) (fl : Flow) (s₂ : Shared) : Prop :=
  fl = .next ∧ ∃ h' tk' o', s₂ = { s₁ with heap := h', toks := tk' } ∧ Fr h₀ L h' m ∧ News h₀ L h' ((dN, o') :: tl) ∧ DcIs prog w o' c
theorem AddEnd.intro {L : Addr} {m : Str → Option Value} {dN : Addr} {tl : List (Addr × Obj)} {c : List (Str × Int)} {s₁ : Shared} {h' : Heap} {tk' : Nat} {o' : Obj} (F : Fr h₀ L h' m) (N : News h₀ L h' ((dN, o') :: tl)) (d : DcIs prog w o' c) :
    AddEnd prog w h₀ L m dN tl c s₁ .next { s₁ with heap := h', toks := tk' } := ⟨rfl, h', tk', o', rfl, F, N, d⟩
theorem addc_loop {xk xv : Str} {pk pv pt : Pos} {x1 : Nat} {body : List Stmt} {d vw dN : Addr} {od oN ov : Obj} {c cN : List (Str × Int)} {m : Str → Option Value} {news : List (Addr × Obj)} (f : List (Str × Int) → Str × Int → List (Str × Int))
    (hh : A.handled = none) (hxk : env.kindOf xk = some .local) (hxv : env.kindOf xv = some .local)
    (hp : (env.scope.kind == .class || (env.scope.kind == .module && env.locals != env.globals)) = false)
    (F : Fr h₀ env.locals s.heap m) (N : News h₀ env.locals s.heap ((vw, ov) :: (dN, oN) :: news))
    (hvw : ∃ ov, s.heap.get? vw = some ov ∧ ov.cls = .type "dict_items" ∧ ov.data = .fields #[.ref d]) (hd : (d, od) ∈ news) (hdo : DcIs prog w od c) (hN : DcIs prog w oN cN)
    (hlt : ∀ p ∈ news, p.1 < dN) (hf : ∀ c q, (f c q).length ≤ c.length + 1)
    (step : ∀ k n tk tn oN₁ c₁ s₁ tl, (k, n) ∈ c → DcIs prog w oN₁ c₁ → c₁.length ≤ cN.length + c.length → (∀ p ∈ tl, p.1 ≠ dN) →
      Fr h₀ env.locals s₁.heap (fun y => if y = xv then some (.int n tn) else if y = xk then some (.str k tk) else m y) → News h₀ env.locals s₁.heap ((dN, oN₁) :: tl) →
      wpAny (model prog w) A (execs body env) (AddEnd prog w h₀ env.locals (fun y => if y = xv then some (.int n tn) else if y = xk then some (.str k tk) else m y) dN tl (f c₁ (k, n)) s₁) E s₁)
    (done : ∀ u v o' h tk, Fr h₀ env.locals h (fun y => if y = xv then u else if y = xk then v else m y) → News h₀ env.locals h ((dN, o') :: news) → DcIs prog w o' (c.foldl f cN) → Q .next { s with heap := h, toks := tk })
    (hE : PassesOwn (model prog w) A env E) :
    wpAny (model prog w) A (pyIter (.ref vw)) (fun it s₂ => LoopK prog w A env (.Tuple [.Name xk pk, .Name xv pv] x1 pt) body Q E it s₂) E s := by
  obtain ⟨kvs, hi, hv⟩ := id hdo
  have N0 : News h₀ env.locals s.heap ((dN, oN) :: news) := fun p hp => N p (List.mem_cons_of_mem _ hp)
  refine iter_items_K (knd := PySem.strKind prog w) (kvs := kvs) hh hxk hxv hp F N0 hvw (List.mem_cons_of_mem _ hd) hi
    (fun i m' nx => ∃ o', nx = (dN, o') :: news ∧ DcIs prog w o' ((c.take i).foldl f cN) ∧ ((c.take i).foldl f cN).length ≤ cN.length + i ∧ ∃ u v, m' = (fun y => if y = xv then u else if y = xk then v else m y)) ?_ ?_ ?_ hE
  · exact ⟨oN, rfl, hN, Nat.le_refl _, m xv, m xk, map_two m xv xk⟩
  · rintro i k v key m₁ news₁ s₁ it own hx hkey ⟨o', rfl, ho', hlen, u₀, v₀, rfl⟩ hit hown F₁ N₁
    obtain ⟨n, tn, rfl, hc⟩ := hv.get hx
    obtain ⟨tk, rfl⟩ := Value.isStrOf_shape hkey
    have hic : i < c.length := (List.getElem?_eq_some_iff.mp hc).1
    have htl : ∀ p ∈ news ++ own, p.1 ≠ dN := fun p hp => by
      rcases List.mem_append.mp hp with h | h
      · exact Nat.ne_of_lt (hlt p h)
      · rcases hown p h with e | e
        · rw [e]; exact fun q => hit _ (List.mem_cons_self ..) q.symm
        · rw [e]; exact Nat.ne_of_lt (hlt _ hd)
    have eF : (fun y => if y = xv then some (Value.int n tn) else if y = xk then some (Value.str k tk) else (fun y => if y = xv then u₀ else if y = xk then v₀ else m y) y) = fun y => if y = xv then some (Value.int n tn) else if y = xk then some (Value.str k tk) else m y := by
      funext y
      by_cases h : y = xv
      · simp [h]
      · by_cases h2 : y = xk <;> simp [h, h2]
    have F₁' := F₁
    rw [eF] at F₁'
    have hst : (c.take (i + 1)).foldl f cN = f ((c.take i).foldl f cN) (k, n) := by rw [List.take_add_one, hc]; simp
    refine wpAny_mono (step k n tk tn o' _ s₁ (news ++ own) (List.mem_of_getElem? hc) ho' (by omega) htl F₁' N₁) (fun fl s₂ h₂ => ?_) fun _ _ e => e
    obtain ⟨rfl, h', tk', o₂, rfl, F₂, N₂, ho₂⟩ := h₂
    refine EndI.next ((dN, o₂) :: news) F₂ N₂ (fun p hp => List.mem_cons_of_mem _ (List.mem_append.mpr (.inr hp))) (fun p hp => ?_) (fun p hp => ?_) ⟨o₂, rfl, by rw [hst]; exact ho₂, ?_, _, _, rfl⟩
    · rcases List.mem_cons.mp hp with rfl | hp
      · exact List.mem_cons_self ..
      · exact List.mem_cons_of_mem _ (List.mem_append.mpr (.inl hp))
    · rcases List.mem_cons.mp hp with rfl | hp
      · exact hit (dN, o') (List.mem_cons_self ..)
      · exact hit p (List.mem_cons_of_mem _ hp)
    · rw [hst]; have := hf ((c.take i).foldl f cN) (k, n); omega
  · rintro m' news' h tk ⟨o', rfl, ho', _, u₀, v₀, rfl⟩ F₁ N₁
    rw [hv.length, List.take_length] at ho'
    exact done u₀ v₀ o' h tk F₁ N₁ ho'
end
theorem wl_C3_1 : True := by
  k_with_none
  k_with "getMethod ref" => (k_here; (with_reducible show wpAny _ _ (getMethod (Value.ref _) (PySem.Str.ofString "items") _) _ _ _); k_dflt (refine' dc_method ?wqN ?wqd ?wqo ?_; (case wqN => k_asm); (case wqd => k_mem); (case wqo => assumption)))
  k_with "call builtin:dict.items" => (k_here; k_dflt (refine' dc_items ?wqF ?wqN ?wqd ?wqo ?wql ?_; (case wqF => k_asm); (case wqN => k_asm); (case wqd => k_mem); (case wqo => assumption); (case wql => assumption)); intro vw' h' ov' hvw' F' N' l1; (try k_lt l1); (try k_sweep))
  k_with "setItem ref str" => (k_here; k_dflt (refine' dc_set ?wqF ?wqN ?wqU ?wqo ?wqz ?_; (case wqF => k_asm); (case wqN => k_asm); (case wqU => k_updF); (case wqo => assumption); (case wqz => omega)); intro h' o' F' N' d'; (try dsimp only at N'); (try k_sweep))
  k_with "compareOp In str ref" => (k_here; k_dflt (refine' dc_in ?wqN ?wqd ?wqo ?wql ?_; (case wqN => k_asm); (case wqd => k_mem); (case wqo => assumption); (case wql => assumption)))
  k_with "getItem ref str" => (k_here; k_dflt (refine' dc_got ?wqN ?wqd ?wqo ?wql ?_; (case wqN => k_asm); (case wqd => k_mem); (case wqo => assumption); (case wql => assumption)); intro u')
  exact True.intro
local macro_rules | `(tactic| k_all) => `(tactic| assumption)
local macro_rules | `(tactic| k_mem) => `(tactic| assumption)

def putF (c : List (Str × Int)) (q : Str × Int) : List (Str × Int) := putC q.1 q.2 c
def addF (c : List (Str × Int)) (q : Str × Int) : List (Str × Int) := putC q.1 ((getC c q.1).getD 0 + q.2) c
def addC (c1 c2 : List (Str × Int)) : List (Str × Int) := c2.foldl addF (c1.foldl putF [])

theorem putF_len (c : List (Str × Int)) : ∀ c₀ : List (Str × Int), (c.foldl putF c₀).length ≤ c₀.length + c.length := by
  induction c with
  | nil => intro c₀; exact Nat.le_refl _
  | cons q r ih => intro c₀; rw [List.foldl_cons, List.length_cons]; have h1 := ih (putF c₀ q); have h2 : (putF c₀ q).length ≤ c₀.length + 1 := putC_len _ _ _; omega
theorem addF_new {c : List (Str × Int)} {k : Str} {n : Int} (h : (getC c k).isSome = false) : addF c (k, n) = putC k n c := by
  unfold addF
  cases e : getC c k with
  | none => simp
  | some i => rw [e] at h; cases h
theorem t_addc (w : World) {p : Program} {loose : List Str} {mean : ExcName → Option Value} {mg mb : Str → Option Value} {dp un : Nat} {gd : Option (List Code)} {cn : Str} {cs : Scope} {a : Addr} {ccd : Value} {cl : List (Str × Addr)} {outer : List Env} {A₀ : Around} {base h₀ : Heap} {L : Addr} {m : Str → Option Value} {news : List (Addr × Obj)} {s : Shared}
  {R : Result → Shared → Prop} {d1 d2 : Addr} {o1 o2 : Obj} {c1 c2 : List (Str × Int)}
  (X : (Mine.hd.heap_39 w.params).In h₀) (B : Below A₀ base outer h₀) (F : Fr h₀ L s.heap m) (N : News h₀ L s.heap news) (T : Top p loose mean mg mb h₀) (hk : cs.kind = .function) (hd : dp ≤ 640) (hu : un ≤ 200)
  (m1 : (d1, o1) ∈ news) (m2 : (d2, o2) ∈ news) (lo1 : (d1 == sysModules) = false) (lo2 : (d2 == sysModules) = false) (i1 : DcIs PySem.Challenge.rw_pg0268_01.row.prog w o1 c1) (i2 : DcIs PySem.Challenge.rw_pg0268_01.row.prog w o2 c2) (z1 : c1.length ≤ 100) (z2 : c2.length ≤ 100)
  (ret : ∀ d o h' tk', Fr h₀ L h' m → News h₀ L h' ((d, o) :: news) → (∀ p ∈ news, p.1 < d) → (d == sysModules) = false → DcIs PySem.Challenge.rw_pg0268_01.row.prog w o (addC c1 c2) → R (.ok (.ret (.ref d))) {s with heap := h', toks := tk'}) :
  codeAny (model PySem.Challenge.rw_pg0268_01.row.prog w) (ktrTop dp un gd cn cs L a ccd cl outer) (.call (.ref 229) ⟨[.ref d1, .ref d2], []⟩) R s := by
  revert X; k_fill; intro X
  k_dflt ktr_enter
  k_steps
  have hn0 := dc_nil (by assumption)
  refine For_K ?_ (by intro _; rfl)
  k_steps
  refine addc_loop putF rfl rfl rfl rfl (by k_asm) (by k_asm) (by assumption) m1 i1 hn0 (by assumption) (fun c q => putC_len _ _ _) ?_ ?_ (by passes_own)
  · intro k n tk tn oN₁ c₁ s₁ tl hmem ho hlen htl F₁ N₁
    have hz : c₁.length ≤ 1000 := Nat.le_trans hlen (by simp only [List.length_nil]; omega)
    k_steps
    exact AddEnd.intro (by k_asm) (by k_asm) (by assumption)
  · intro u v o' h tk F₁ N₁ ho
    dsimp only
    k_steps
    refine For_K ?_ (by intro _; rfl)
    k_steps
    refine addc_loop addF rfl rfl rfl rfl (by k_asm) (by k_asm) (by assumption) m2 i2 ho (by assumption) (fun c q => putC_len _ _ _) ?_ ?_ (by passes_own)
    · intro k n tk tn oN₁ c₁ s₁ tl hmem ho₁ hlen htl F₁ N₁
      have hz : c₁.length ≤ 1000 := Nat.le_trans hlen (by have := putF_len c1 []; simp only [List.length_nil] at this; omega)
      k_steps
      · refine AddEnd.intro (by k_asm) (by k_asm) ?_
        assumption
      · refine AddEnd.intro (by k_asm) (by k_asm) ?_
        rw [addF_new (by assumption)]
        assumption
    · intro u v o' h tk F₁ N₁ ho
      dsimp only
      k_steps
      exact ret _ _ _ _ (by k_asm) (by k_asm) (by assumption) (by assumption) ho
end Mine
end

section
open PySem PySem.W PyProof.Rows
set_option Elab.async false
set_option maxRecDepth 100000
set_option maxHeartbeats 0
namespace Mine
def Adds (prog : Program) (w : World) (v u : Value) (r : Tok → Value) : Prop :=
  ∀ (A : Around) (s : Shared) (Q : Value → Shared → Prop) (E : Value → Shared → Prop), A.handled = none → (∀ t tk, Q (r t) { s with toks := tk }) → wpAny (model prog w) A (binaryOp .Add v u) Q E s
theorem Adds.use {prog : Program} {w : World} {v u : Value} {r : Tok → Value} {A : Around} {s : Shared} {Q : Value → Shared → Prop} {E : Value → Shared → Prop} (h : Adds prog w v u r) (hh : A.handled = none) (hq : ∀ t tk, Q (r t) { s with toks := tk }) :
    wpAny (model prog w) A (binaryOp .Add v u) Q E s := h A s Q E hh hq
theorem wl_C4_1 : True := by
  k_with_none
  k_with "binaryOp Add" => (k_here; k_dflt (refine' Adds.use ?wqh ?wqhh ?_; (case wqh => assumption); (case wqhh => rfl)); intro t' tk')
  k_with "newTuple" => (k_here; k_dflt (refine' kup_newTuple ?wqF ?wqN ?_ ?wqz; (case wqF => k_asm); (case wqN => k_asm); (case wqz => kmk_size)); intro D' h' F' N' l1; (try k_lt l1); (try k_sweep))
  k_with "call ref" => (k_here; k_dflt (refine wpAny_call ?_; refine' t_addc _ ?wqX ?wqB ?wqF ?wqN ?wqT ?wqk ?wqd ?wqu ?wqm1 ?wqm2 ?wql1 ?wql2 ?wqi1 ?wqi2 ?wqz1 ?wqz2 ?_; (case wqX => k_asm); (case wqB => k_asm); (case wqF => k_asm); (case wqN => k_asm); (case wqT => k_asm); (case wqk => rfl); (case wqm1 => k_mem); (case wqm2 => k_mem); (case wql1 => assumption); (case wql2 => assumption); (case wqi1 => assumption); (case wqi2 => assumption); (case wqz1 => assumption); (case wqz2 => assumption); (case wqd => (dsimp only; omega)); (case wqu => (dsimp only; omega))); intro d' o' h' tk' F' N' l1 lo' dc'; (try k_lt l1); (try dsimp only); (try k_sweep))
  exact True.intro
local macro_rules | `(tactic| k_mem) => `(tactic| assumption)
theorem t_addf (w : World) {p : Program} {loose : List Str} {mean : ExcName → Option Value} {mg mb : Str → Option Value} {dp un : Nat} {gd : Option (List Code)} {cn : Str} {cs : Scope} {a : Addr} {ccd : Value} {cl : List (Str × Addr)} {outer : List Env} {A₀ : Around} {base h₀ : Heap} {L : Addr} {m : Str → Option Value} {news : List (Addr × Obj)} {s : Shared}
  {R : Result → Shared → Prop} {d1 d2 a1 a2 : Addr} {o1 o2 : Obj} {c1 c2 : List (Str × Int)} {u1 u2 u3 u4 v1 v2 v3 v4 : Value} {r1 r2 r3 r4 : Tok → Value}
  (X : (Mine.hd.heap_39 w.params).In h₀) (B : Below A₀ base outer h₀) (F : Fr h₀ L s.heap m) (N : News h₀ L s.heap news) (T : Top p loose mean mg mb h₀) (hk : cs.kind = .function) (hd : dp ≤ 639) (hu : un ≤ 190)
  (ma1 : (a1, tupO [u1, u2, u3, u4, .ref d1]) ∈ news) (ma2 : (a2, tupO [v1, v2, v3, v4, .ref d2]) ∈ news) (m1 : (d1, o1) ∈ news) (m2 : (d2, o2) ∈ news) (lo1 : (d1 == sysModules) = false) (lo2 : (d2 == sysModules) = false) (i1 : DcIs PySem.Challenge.rw_pg0268_01.row.prog w o1 c1) (i2 : DcIs PySem.Challenge.rw_pg0268_01.row.prog w o2 c2) (z1 : c1.length ≤ 100) (z2 : c2.length ≤ 100)
  (b1 : Adds PySem.Challenge.rw_pg0268_01.row.prog w v1 u1 r1) (b2 : Adds PySem.Challenge.rw_pg0268_01.row.prog w v2 u2 r2) (b3 : Adds PySem.Challenge.rw_pg0268_01.row.prog w v3 u3 r3) (b4 : Adds PySem.Challenge.rw_pg0268_01.row.prog w v4 u4 r4)
  (ret : ∀ D d o t1 t2 t3 t4 h' tk', Fr h₀ L h' m → News h₀ L h' ((D, tupO [r1 t1, r2 t2, r3 t3, r4 t4, .ref d]) :: (d, o) :: news) → (∀ p ∈ news, p.1 < d) → d < D → (d == sysModules) = false → DcIs PySem.Challenge.rw_pg0268_01.row.prog w o (addC c1 c2) → R (.ok (.ret (.ref D))) {s with heap := h', toks := tk'}) :
  codeAny (model PySem.Challenge.rw_pg0268_01.row.prog w) (ktrTop dp un gd cn cs L a ccd cl outer) (.call (.ref 222) ⟨[.ref a1, .ref a2], []⟩) R s := by
  revert X; k_fill; intro X
  k_dflt ktr_enter
  k_steps
  exact ret _ _ _ _ _ _ _ _ _ (by k_asm) (by k_asm) (by assumption) (And.left (b := AllLt _ news) (by assumption)) (by assumption) (by assumption)
end Mine
end

section
open PySem PySem.W PyProof.Rows
set_option Elab.async false
set_option maxRecDepth 100000
set_option maxHeartbeats 0
namespace Mine
abbrev Col := Fin 3
def pc (c j : Fin 3) : UInt64 := if c = j then 4607182418800017408 else 0
def addO (p : UInt64) : Option UInt64 → UInt64
  | none => Float64.add p (Float64.ofInt 0)
  | some x => Float64.add p x
def sv : Option UInt64 → Tok → Value
  | none, t => .int 0 t
  | some x, t => .float x t
def chan (j : Fin 3) (cs : List Col) : Option UInt64 := cs.foldl (fun S c => some (addO (pc c j) S)) none
theorem adds_sv {prog : Program} {w : World} (p : UInt64) (S : Option UInt64) (t u : Tok) : Adds prog w (.float p t) (sv S u) (fun k => .float (addO p S) k) := by
  intro A s Q E hh hq
  cases S with
  | none => exact AutoFloatOps.add_fi_1 (by decide +kernel) (hq _ _)
  | some x => exact AutoFloatOps.add_0 (hq _ _)
theorem adds_int {prog : Program} {w : World} (a b : Int) (t u : Tok) : Adds prog w (.int a t) (.int b u) (fun k => .int (a + b) k) := by
  intro A s Q E hh hq
  exact PyProof.Rows.add_int (hq _ _)
/-- the paints' tuples lie in the ledger -/
def PaintsIn (P : Col → Addr) (news : List (Addr × Obj)) : Prop := ∀ c : Col, ∃ t1 t2 t3, (P c, tupO [.float (pc c 0) t1, .float (pc c 1) t2, .float (pc c 2) t3]) ∈ news
theorem sub_cons {x : Addr × Obj} {a b : List (Addr × Obj)} (h : ∀ p ∈ a, p ∈ b) : ∀ p ∈ x :: a, p ∈ x :: b := fun p hp => by
  rcases List.mem_cons.mp hp with rfl | hp
  · exact List.mem_cons_self ..
  · exact List.mem_cons_of_mem _ (h p hp)
theorem allLt_all {d : Addr} : ∀ {l : List (Addr × Obj)}, AllLt d l → ∀ p ∈ l, p.1 < d
  | [], _ => fun _ h => nomatch h
  | q :: r, h => fun p hp => by
    rcases List.mem_cons.mp hp with rfl | hp
    · exact h.1
    · exact allLt_all h.2 p hp
section
variable {prog : Program} {w : World} {A : Around} {E : Value → Shared → Prop} {s : Shared} {env : Env} {h₀ : Heap} {Q : Flow → Shared → Prop}
def MixEnd (prog : Program) (w : World) (h₀ : Heap) (L : Addr) (it : Addr × Obj) (news : List (Addr × Obj)) (S1 S2 S3 : Option UInt64) (s₁ : Shared) (fl : Flow) (s₂ : Shared) : Prop :=
  fl = .next ∧ ∃ h' tk D d o k t1 t2 t3 t4, ∃ u : Str → Option Value, ∃ led, s₂ = { s₁ with heap := h', toks := tk } ∧ Fr h₀ L h' (fun y => if y = Str.ofString "total" then some (.ref D) else u y) ∧ News h₀ L h' led ∧ it ∈ led ∧
    (D, tupO [sv S1 t1, sv S2 t2, sv S3 t3, .int k t4, .ref d]) ∈ led ∧ (d, o) ∈ led ∧ (∀ p ∈ news, p ∈ led) ∧ D ≠ it.1 ∧ d ≠ it.1 ∧ (d == sysModules) = false ∧ DcIs prog w o []
theorem MixEnd.intro {L : Addr} {it : Addr × Obj} {news led : List (Addr × Obj)} {S1 S2 S3 : Option UInt64} {s₁ : Shared} {h' : Heap} {tk : Nat} {D d : Addr} {o : Obj} {k : Int} {t1 t2 t3 t4 : Tok} {u : Str → Option Value}
    (F : Fr h₀ L h' (fun y => if y = Str.ofString "total" then some (.ref D) else u y)) (N : News h₀ L h' led) (hi : it ∈ led) (hD : (D, tupO [sv S1 t1, sv S2 t2, sv S3 t3, .int k t4, .ref d]) ∈ led) (hd : (d, o) ∈ led)
    (hs : ∀ p ∈ news, p ∈ led) (h1 : D ≠ it.1) (h2 : d ≠ it.1) (lo : (d == sysModules) = false) (dc : DcIs prog w o []) : MixEnd prog w h₀ L it news S1 S2 S3 s₁ .next { s₁ with heap := h', toks := tk } :=
  ⟨rfl, h', tk, D, d, o, k, t1, t2, t3, t4, u, led, rfl, F, N, hi, hD, hd, hs, h1, h2, lo, dc⟩

theorem mix_loop {target : PySem.Expr} {body : List Stmt} {pl D₀ d₀ : Addr} {o₀ : Obj} {cols : List Col} {P : Col → Addr} {n : Nat} {t1 t2 t3 t4 : Tok} {u₀ : Str → Option Value} {news : List (Addr × Obj)}
    (hh : A.handled = none) (F : Fr h₀ env.locals s.heap (fun y => if y = Str.ofString "total" then some (.ref D₀) else u₀ y)) (N : News h₀ env.locals s.heap ((D₀, tupO [.int 0 t1, .int 0 t2, .int 0 t3, .int 0 t4, .ref d₀]) :: (d₀, o₀) :: news))
    (ml : (pl, listOf ((cols.map fun c => Value.ref (P c)).toArray) n) ∈ news) (lo : (d₀ == sysModules) = false) (dc : DcIs prog w o₀ [])
    (step : ∀ c D d o S1 S2 S3 k t1 t2 t3 t4 (u : Str → Option Value) h tk it io, Fr h₀ env.locals h (fun y => if y = Str.ofString "total" then some (.ref D) else u y) →
      News h₀ env.locals h ((it, io) :: (D, tupO [sv S1 t1, sv S2 t2, sv S3 t3, .int k t4, .ref d]) :: (d, o) :: news) → (d == sysModules) = false → DcIs prog w o [] →
      wpAny (model prog w) A (assign target env (.ref (P c))) (fun _ s₂ => wpAny (model prog w) A (execs body env)
        (MixEnd prog w h₀ env.locals (it, io) news (some (addO (pc c 0) S1)) (some (addO (pc c 1) S2)) (some (addO (pc c 2) S3)) { s with heap := h, toks := tk }) E s₂) E { s with heap := h, toks := tk })
    (done : ∀ D d o k t1 t2 t3 t4 (u : Str → Option Value) h tk, Fr h₀ env.locals h (fun y => if y = Str.ofString "total" then some (.ref D) else u y) →
      News h₀ env.locals h ((D, tupO [sv (chan 0 cols) t1, sv (chan 1 cols) t2, sv (chan 2 cols) t3, .int k t4, .ref d]) :: (d, o) :: news) → Q .next { s with heap := h, toks := tk })
    (hE : PassesOwn (model prog w) A env E) :
    wpAny (model prog w) A (pyIter (.ref pl)) (fun it s₂ => LoopK prog w A env target body Q E it s₂) E s := by
  refine iter_list_K (vs := cols.map fun c => Value.ref (P c)) (n := n) hh F N
    (fun i m' nx => ∃ D d o k t1 t2 t3 t4, ∃ u : Str → Option Value, nx = (D, tupO [sv (chan 0 (cols.take i)) t1, sv (chan 1 (cols.take i)) t2, sv (chan 2 (cols.take i)) t3, .int k t4, .ref d]) :: (d, o) :: news ∧ (d == sysModules) = false ∧ DcIs prog w o [] ∧ m' = (fun y => if y = Str.ofString "total" then some (.ref D) else u y))
    ⟨D₀, d₀, o₀, 0, t1, t2, t3, t4, u₀, rfl, lo, dc, rfl⟩ ?_ ?_ ?_ hE
  · rintro i m' nx ⟨D, d, o, k, t1, t2, t3, t4, u, rfl, _⟩
    exact List.mem_cons_of_mem _ (List.mem_cons_of_mem _ ml)
  · rintro i v m₁ news₁ h tk it io hv ⟨D, d, o, k, t1, t2, t3, t4, u, rfl, lo', dc', rfl⟩ hit F₁ N₁
    rw [List.getElem?_map] at hv
    cases hc : cols[i]? with
    | none => rw [hc] at hv; cases hv
    | some c =>
      rw [hc] at hv; cases hv
      have hst : ∀ j, chan j (cols.take (i + 1)) = some (addO (pc c j) (chan j (cols.take i))) := fun j => by unfold chan; rw [List.take_add_one, hc]; simp
      refine wpAny_mono (step c D d o _ _ _ k t1 t2 t3 t4 u h tk it io F₁ N₁ lo' dc') (fun _ s₂ h₂ => wpAny_mono h₂ (fun f s₃ h₃ => ?_) fun _ _ e => e) fun _ _ e => e
      obtain ⟨rfl, h', tk', D', d', o', k', u1, u2, u3, u4, u', led, rfl, F', N', a1, a2, a3, a4, a5, a6, a7, a8⟩ := h₃
      refine EndK.next ((D', tupO [sv (some (addO (pc c 0) (chan 0 (cols.take i)))) u1, sv (some (addO (pc c 1) (chan 1 (cols.take i)))) u2, sv (some (addO (pc c 2) (chan 2 (cols.take i)))) u3, .int k' u4, .ref d']) :: (d', o') :: news) F' N' a1 ?_ ?_ ⟨D', d', o', k', u1, u2, u3, u4, u', by rw [hst, hst, hst], a7, a8, rfl⟩
      · intro p hp
        rcases List.mem_cons.mp hp with rfl | hp
        · exact a2
        · rcases List.mem_cons.mp hp with rfl | hp
          · exact a3
          · exact a4 p hp
      · intro p hp
        rcases List.mem_cons.mp hp with rfl | hp
        · exact a5
        · rcases List.mem_cons.mp hp with rfl | hp
          · exact a6
          · exact hit p (List.mem_cons_of_mem _ (List.mem_cons_of_mem _ hp))
  · rintro m' nx h tk ⟨D, d, o, k, t1, t2, t3, t4, u, rfl, lo', dc', rfl⟩ F₁ N₁
    rw [List.length_map, List.take_length] at N₁
    exact done D d o k t1 t2 t3 t4 u h tk F₁ N₁
end
theorem wl_C5_1 : True := by
  k_with_none
  k_with "newTuple" => (k_here; k_dflt (refine' kup_newTuple ?wqF ?wqN ?_ ?wqz; (case wqF => k_asm); (case wqN => k_asm); (case wqz => kmk_size)); intro D' h' F' N' l1; (try k_lt l1); (try k_sweep))
  exact True.intro
local macro_rules | `(tactic| k_mem) => `(tactic| assumption)
theorem wl_C5_2 : True := by
  k_with "call ref" => (k_here; k_dflt (refine wpAny_call ?_; refine' t_addf _ ?wqX ?wqB ?wqF ?wqN ?wqT ?wqk ?wqd ?wqu ?wqma1 ?wqma2 ?wqm1 ?wqm2 ?wql1 ?wql2 ?wqi1 ?wqi2 ?wqz1 ?wqz2 ?wqb1 ?wqb2 ?wqb3 ?wqb4 ?_; (case wqX => k_asm); (case wqB => k_asm); (case wqF => k_asm); (case wqN => k_asm); (case wqT => k_asm); (case wqk => rfl); (case wqma1 => k_mem); (case wqma2 => k_mem); (case wqm1 => k_mem); (case wqm2 => k_mem); (case wql1 => assumption); (case wql2 => assumption); (case wqi1 => first | assumption | exact dc_nil (by assumption)); (case wqi2 => first | assumption | exact dc_nil (by assumption)); (case wqz1 => exact Nat.zero_le _); (case wqz2 => exact Nat.zero_le _); (case wqd => (dsimp only; omega)); (case wqu => (dsimp only; omega)); (case wqb1 => exact adds_sv _ _ _ _); (case wqb2 => exact adds_sv _ _ _ _); (case wqb3 => exact adds_sv _ _ _ _); (case wqb4 => exact adds_int _ _ _ _)); intro D' d' o' u1 u2 u3 u4 h' tk' F' N' l1 l2 lo' dc'; (try k_lt l1); (try k_lt2 l2); (try dsimp only); (try k_sweep))
  k_with "call ref" => (k_here; k_dflt (refine wpAny_call ?_; refine' t_rgb _ ?wqX ?wqB ?wqF ?wqN ?wqT ?wqk ?wqd ?wqu ?wqz1 ?wqz2 ?_; (case wqX => k_asm); (case wqB => k_asm); (case wqF => k_asm); (case wqN => k_asm); (case wqT => k_asm); (case wqk => rfl); (case wqd => (dsimp only; omega)); (case wqu => (dsimp only; omega)); (case wqz1 => assumption); (case wqz2 => assumption)); intro D' x' y' z' u1 u2 u3 h' tk' nz' e' F' N' l1; (try k_lt l1); (try dsimp only); (try k_sweep))
  exact True.intro
theorem t_mix (w : World) {p : Program} {loose : List Str} {mean : ExcName → Option Value} {mg mb : Str → Option Value} {dp un : Nat} {gd : Option (List Code)} {cn : Str} {cs : Scope} {a : Addr} {ccd : Value} {cl : List (Str × Addr)} {outer : List Env} {A₀ : Around} {base h₀ : Heap} {L : Addr} {m : Str → Option Value} {news : List (Addr × Obj)} {s : Shared}
  {R : Result → Shared → Prop} {pl : Addr} {n : Nat} {cols : List Col} {P : Col → Addr} {x y z : UInt64}
  (X : (Mine.hd.heap_39 w.params).In h₀) (B : Below A₀ base outer h₀) (F : Fr h₀ L s.heap m) (N : News h₀ L s.heap news) (T : Top p loose mean mg mb h₀) (hk : cs.kind = .function) (hd : dp ≤ 638) (hu : un ≤ 180)
  (ml : (pl, listOf ((cols.map fun c => Value.ref (P c)).toArray) n) ∈ news) (mp : PaintsIn P news)
  (hx : chan 0 cols = some x) (hy : chan 1 cols = some y) (hz : chan 2 cols = some z) (hz1 : Float64.isZero (max3F x y z) = false) (hz2 : eqF (min3F x y z) (max3F x y z) = false → Float64.isZero (Float64.sub (max3F x y z) (min3F x y z)) = false)
  (ret : ∀ D x' y' z' u1 u2 u3 h' tk', u2 ≠ 0 → (x', y', z') = rgbS x y z → Fr h₀ L h' m → News h₀ L h' ((D, tupO [.float x' u1, .float y' u2, .float z' u3]) :: news) → (∀ p ∈ news, p.1 < D) → R (.ok (.ret (.ref D))) {s with heap := h', toks := tk'}) :
  codeAny (model PySem.Challenge.rw_pg0268_01.row.prog w) (ktrTop dp un gd cn cs L a ccd cl outer) (.call (.ref 236) ⟨[.ref pl], []⟩) R s := by
  revert X; k_fill; intro X
  k_dflt ktr_enter
  k_steps
  refine For_K ?_ (by intro _; rfl)
  k_steps
  have hn0 := dc_nil (by assumption)
  refine mix_loop rfl (by k_asm) (by k_asm) ml (by assumption) hn0 ?_ ?_ (by passes_own)
  · intro c D d o S1 S2 S3 k t1 t2 t3 t4 u h tk it io F₁ N₁ lo dc
    obtain ⟨w1, w2, w3, hp⟩ := mp c
    k_steps
    exact MixEnd.intro (by k_asm) (by k_asm) (by k_mem) (by k_mem) (by k_mem) (fun p hp => by repeat (first | exact hp | apply List.mem_cons_of_mem)) (by k_ne) (by k_ne) (by assumption) (by assumption)
  · intro D d o k t1 t2 t3 t4 u h tk F₁ N₁
    rw [hx, hy, hz] at N₁
    dsimp only [sv] at N₁
    dsimp only
    k_steps
    have hall := allLt_all (And.right (And.right ‹D < _ ∧ d < _ ∧ AllLt _ news›))
    exact ret _ _ _ _ _ _ _ _ _ (by assumption) (by assumption) (by k_asm) (cb_drop (by k_asm) (sub_cons fun p h => by repeat (first | exact h | apply List.mem_cons_of_mem))) hall
end Mine
end

section
open PySem PySem.W PyProof.Rows
set_option Elab.async false
set_option maxRecDepth 100000
namespace Mine
def mixR (cols : List Col) : UInt64 := (chan 0 cols).getD 0
def mixG (cols : List Col) : UInt64 := (chan 1 cols).getD 0
def mixB (cols : List Col) : UInt64 := (chan 2 cols).getD 0
def mixv (cols : List Col) : UInt64 × UInt64 × UInt64 := rgbS (mixR cols) (mixG cols) (mixB cols)
def okMix (cols : List Col) : Bool := (chan 0 cols).isSome && (chan 1 cols).isSome && (chan 2 cols).isSome && !Float64.isZero (max3F (mixR cols) (mixG cols) (mixB cols)) && (eqF (min3F (mixR cols) (mixG cols) (mixB cols)) (max3F (mixR cols) (mixG cols) (mixB cols)) || !Float64.isZero (Float64.sub (max3F (mixR cols) (mixG cols) (mixB cols)) (min3F (mixR cols) (mixG cols) (mixB cols))))
/-- the third colour -/
def third (a b : Col) : Col := if a = 0 ∧ b = 1 ∨ a = 1 ∧ b = 0 then 2 else if a = 0 ∧ b = 2 ∨ a = 2 ∧ b = 0 then 1 else 0
def half (a b : Col) : UInt64 := Float64.add (mixv [a, b]).1 4602678819172646912
def okHsv (h : UInt64) : Bool := !Float64.isNaN (six h) && !Float64.isInf (six h) && decide ((sixI h).natAbs < 1000) && (decide ((sixI h).fmod 6 = 0) || decide ((sixI h).fmod 6 = 2) || decide ((sixI h).fmod 6 = 4))
def rnd (x : UInt64) : Int := Flt.toInt Float64.nearestOf x
def unit3 (c j : Col) : Int := if c = j then 1 else 0
theorem ok1 : ∀ a : Col, okMix [a] = true := by decide +kernel
theorem ok2 : ∀ a b : Col, a ≠ b → okMix [a, b] = true := by decide +kernel
theorem ok3 : ∀ a b c : Col, a ≠ b → b ≠ c → a ≠ c → okMix [a, b, c] = true := by decide +kernel
theorem okh : ∀ a b : Col, a ≠ b → okHsv (half a b) = true := by decide +kernel
theorem rnd3 : ∀ a b : Col, a ≠ b → (rnd (hsvS (half a b)).1, rnd (hsvS (half a b)).2.1, rnd (hsvS (half a b)).2.2) = (unit3 (third a b) 0, unit3 (third a b) 1, unit3 (third a b) 2) ∧ Float64.isFinite (hsvS (half a b)).1 = true ∧ Float64.isFinite (hsvS (half a b)).2.1 = true ∧ Float64.isFinite (hsvS (half a b)).2.2 = true := by decide +kernel
theorem grey2 : ∀ a b : Col, a ≠ b → (mixv [a, b]).2.1 = 4607182418800017408 := by decide +kernel
theorem grey3 : ∀ a b c : Col, a ≠ b → b ≠ c → a ≠ c → (mixv [a, b, c]).2.1 = 0 := by decide +kernel
def hue1 (c : Col) : UInt64 := (mixv [c]).1
def gap (a b : Col) : UInt64 := Float64.mul (Float64.sub (hue1 a) (hue1 b)) (Float64.ofInt 3)
theorem gap_fin : ∀ a b : Col, Float64.isFinite (gap a b) = true := by decide +kernel
/-- one step's count: 1 if the hue goes on by a third, 2 if it goes back by one -/
def turnC (a b : Col) : Int := (rnd (gap a b)).fmod 3
theorem turnC_is : ∀ a b : Col, turnC a b = (((a.val : Nat) : Int) - ((b.val : Nat) : Int)).fmod 3 := by decide +kernel
theorem turnC_eq : turnC = fun a b => (((a.val : Nat) : Int) - ((b.val : Nat) : Int)).fmod 3 := funext fun a => funext fun b => turnC_is a b
def prevI (n i : Nat) : Nat := if i = 0 then n - 1 else i - 1
def turnsL (cols : List Col) : List Int := (List.range cols.length).map fun i => turnC (cols.getD i 0) (cols.getD (prevI cols.length i) 0)
end Mine
end

section
open PySem PySem.W PyProof.Rows
set_option Elab.async false
set_option maxRecDepth 100000
set_option maxHeartbeats 0
namespace Mine
def nm (c : Col) : Str := if c = 0 then Str.ofString "red" else if c = 1 then Str.ofString "green" else Str.ofString "blue"
def PD (prog : Program) (w : World) (o : Obj) (P : Col → Addr) : Prop := o.IsDictOf (PySem.strKind prog w) [(Str.ofString "red", .ref (P 0)), (Str.ofString "green", .ref (P 1)), (Str.ofString "blue", .ref (P 2))]
theorem pd_value (P : Col → Addr) (c : Col) : valueAt [(Str.ofString "red", Value.ref (P 0)), (Str.ofString "green", .ref (P 1)), (Str.ofString "blue", .ref (P 2))] (nm c) = some (.ref (P c)) := by
  have h : ∀ c : Col, c = 0 ∨ c = 1 ∨ c = 2 := by decide
  have e1 : ∀ c : Col, decide (Str.ofString "red" = nm c) = decide (c = 0) := by decide +kernel
  have e2 : ∀ c : Col, decide (Str.ofString "green" = nm c) = decide (c = 1) := by decide +kernel
  have e3 : ∀ c : Col, decide (Str.ofString "blue" = nm c) = decide (c = 2) := by decide +kernel
  unfold valueAt
  simp only [List.find?_cons, e1, e2, e3]
  rcases h c with rfl | rfl | rfl <;> rfl
section
variable {prog : Program} {w : World} {A : Around} {E : Value → Shared → Prop} {s : Shared} {h₀ : Heap} {L d : Addr} {m : Str → Option Value} {news : List (Addr × Obj)} {o : Obj} {P : Col → Addr} {c : Col} {t : Tok}
theorem pd_sub {Q : Value → Shared → Prop} {value slice : PySem.Expr} (N : News h₀ L s.heap news) (hd : (d, o) ∈ news) (ho : PD prog w o P)
    (h : Q (.ref (P c)) { s with toks := s.toks + 1 })
    (hs : subscripted slice false (.ref d) (.str (nm c) t) = operate [.ref d, .str (nm c) t] (getItem (.ref d) (.str (nm c) t))) : wpAny (model prog w) A (subscriptTail value slice (.ref d) (.str (nm c) t)) Q E s := by
  have hx : s.heap.DictOf (PySem.strKind prog w) d _ := Heap.dictOf_iff.mpr ⟨_, N.get hd, ho⟩
  exact tail_any hx.typeIs slot_dict_getitem.lookup (wpAny_getItem_of (knd := PySem.strKind prog w) (PySem.strKind_is prog w (nm c) t) hx.mapOf (pd_value P c) h) hs
end
theorem okM {cols : List Col} (h : okMix cols = true) : chan 0 cols = some (mixR cols) ∧ chan 1 cols = some (mixG cols) ∧ chan 2 cols = some (mixB cols) ∧ Float64.isZero (max3F (mixR cols) (mixG cols) (mixB cols)) = false ∧
    (eqF (min3F (mixR cols) (mixG cols) (mixB cols)) (max3F (mixR cols) (mixG cols) (mixB cols)) = false → Float64.isZero (Float64.sub (max3F (mixR cols) (mixG cols) (mixB cols)) (min3F (mixR cols) (mixG cols) (mixB cols))) = false) := by
  unfold okMix at h
  simp only [Bool.and_eq_true, Bool.or_eq_true, Bool.not_eq_true'] at h
  obtain ⟨⟨⟨⟨h1, h2⟩, h3⟩, h4⟩, h5⟩ := h
  refine ⟨?_, ?_, ?_, h4, fun e => ?_⟩
  · unfold mixR; cases e : chan 0 cols with
    | none => rw [e] at h1; cases h1
    | some x => rfl
  · unfold mixG; cases e : chan 1 cols with
    | none => rw [e] at h2; cases h2
    | some x => rfl
  · unfold mixB; cases e : chan 2 cols with
    | none => rw [e] at h3; cases h3
    | some x => rfl
  · rcases h5 with h5 | h5
    · rw [e] at h5; cases h5
    · exact h5
theorem okH {h : UInt64} (e : okHsv h = true) : Float64.isNaN (six h) = false ∧ Float64.isInf (six h) = false ∧ (sixI h).natAbs < 1000 ∧ ((sixI h).fmod 6 = 0 ∨ (sixI h).fmod 6 = 2 ∨ (sixI h).fmod 6 = 4) := by
  unfold okHsv at e
  simp only [Bool.and_eq_true, Bool.or_eq_true, Bool.not_eq_true', decide_eq_true_eq] at e
  obtain ⟨⟨⟨h1, h2⟩, h3⟩, h4⟩ := e
  exact ⟨h1, h2, h3, by omega⟩
/-- what the mixture gives, by the colours alone -/
theorem t_mixcT (w : World) {p : Program} {loose : List Str} {mean : ExcName → Option Value} {mg mb : Str → Option Value} {dp un : Nat} {gd : Option (List Code)} {cn : Str} {cs : Scope} {a : Addr} {ccd : Value} {cl : List (Str × Addr)} {outer : List Env} {A₀ : Around} {base h₀ : Heap} {L : Addr} {m : Str → Option Value} {news : List (Addr × Obj)} {s : Shared}
  {R : Result → Shared → Prop} {pl : Addr} {n : Nat} (cols : List Col) (P : Col → Addr)
  (X : (Mine.hd.heap_39 w.params).In h₀) (B : Below A₀ base outer h₀) (F : Fr h₀ L s.heap m) (N : News h₀ L s.heap news) (T : Top p loose mean mg mb h₀) (hk : cs.kind = .function) (hd : dp ≤ 638) (hu : un ≤ 180)
  (ml : (pl, listOf ((cols.map fun c => Value.ref (P c)).toArray) n) ∈ news) (mp : PaintsIn P news) (ok : okMix cols = true)
  (ret : ∀ D u1 u2 u3 h' tk', u2 ≠ 0 → Fr h₀ L h' m → News h₀ L h' ((D, tupO [.float (mixv cols).1 u1, .float (mixv cols).2.1 u2, .float (mixv cols).2.2 u3]) :: news) → (∀ p ∈ news, p.1 < D) → R (.ok (.ret (.ref D))) {s with heap := h', toks := tk'}) :
  codeAny (model PySem.Challenge.rw_pg0268_01.row.prog w) (ktrTop dp un gd cn cs L a ccd cl outer) (.call (.ref 236) ⟨[.ref pl], []⟩) R s := by
  obtain ⟨h1, h2, h3, h4, h5⟩ := okM ok
  refine t_mix w X B F N T hk hd hu ml mp h1 h2 h3 h4 h5 fun D x y z u1 u2 u3 h' tk' nz e F' N' l1 => ?_
  have e1 : x = (mixv cols).1 := congrArg (·.1) e
  have e2 : y = (mixv cols).2.1 := congrArg (·.2.1) e
  have e3 : z = (mixv cols).2.2 := congrArg (·.2.2) e
  subst e1 e2 e3
  exact ret D u1 u2 u3 h' tk' nz F' N' l1
theorem t_mixc (w : World) {p : Program} {loose : List Str} {mean : ExcName → Option Value} {mg mb : Str → Option Value} {dp un : Nat} {gd : Option (List Code)} {cn : Str} {cs : Scope} {a : Addr} {ccd : Value} {cl : List (Str × Addr)} {outer : List Env} {A₀ : Around} {base h₀ : Heap} {L : Addr} {m : Str → Option Value} {news : List (Addr × Obj)} {s : Shared}
  {R : Result → Shared → Prop} {pl : Addr} {n : Nat} (cols : List Col) (P : Col → Addr)
  (X : (Mine.hd.heap_39 w.params).In h₀) (B : Below A₀ base outer h₀) (F : Fr h₀ L s.heap m) (N : News h₀ L s.heap news) (T : Top p loose mean mg mb h₀) (hk : cs.kind = .function) (hd : dp ≤ 638) (hu : un ≤ 180)
  (ml : (pl, listOf ((cols.map fun c => Value.ref (P c)).toArray) n) ∈ news) (mp : PaintsIn P news) (ok : okMix cols = true)
  (ret : ∀ D u1 u2 u3 h' tk', Fr h₀ L h' m → News h₀ L h' ((D, tupO [.float (mixv cols).1 u1, .float (mixv cols).2.1 u2, .float (mixv cols).2.2 u3]) :: news) → (∀ p ∈ news, p.1 < D) → R (.ok (.ret (.ref D))) {s with heap := h', toks := tk'}) :
  codeAny (model PySem.Challenge.rw_pg0268_01.row.prog w) (ktrTop dp un gd cn cs L a ccd cl outer) (.call (.ref 236) ⟨[.ref pl], []⟩) R s := by
  exact t_mixcT w cols P X B F N T hk hd hu ml mp ok fun D u1 u2 u3 h' tk' _ F' N' l1 => ret D u1 u2 u3 h' tk' F' N' l1
end Mine
end

section
open PySem PySem.W PyProof.Rows
set_option Elab.async false
set_option maxRecDepth 100000
namespace Mine
theorem not_inf_of_finite {x : UInt64} (h : Float64.isFinite x = true) : Float64.isInf x = false := by
  rcases PySem.Flt.three x with ⟨hd, _⟩ | ⟨_, hd, _⟩ | ⟨_, _, _, hd, _⟩
  · unfold Float64.isFinite at h; rw [hd] at h; cases h
  · unfold Float64.isFinite at h; rw [hd] at h; cases h
  · unfold Float64.isInf; rw [hd]
theorem cols3 (c : Col) : c = 0 ∨ c = 1 ∨ c = 2 := by
  have h : ∀ c : Col, c = 0 ∨ c = 1 ∨ c = 2 := by decide
  exact h c
section
variable {prog : Program} {w : World} {A : Around} {E : Value → Shared → Prop} {s : Shared} {h₀ : Heap} {L d l : Addr} {m : Str → Option Value} {news : List (Addr × Obj)} {c : Col} {t t1 t2 t3 : Tok} {x : UInt64} {k : Int} {n : Nat}
theorem round_is {Q : Value → Shared → Prop} (hA : A.handled = none) (hf : Float64.isFinite x = true) (hk : rnd x = k) (h : ∀ u, Q (.int k u) { s with toks := s.toks + 1 }) : wpAny (model prog w) A (call (.builtin "round") [.float x t]) Q E s := by
  refine PySem.Flt.call_round_float hA (fun e => ?_) (fun e => ?_) fun _ => ?_
  · rw [PySem.Flt.not_nan_of_finite hf] at e; cases e
  · rw [not_inf_of_finite hf] at e; cases e
  · rw [show PySem.Flt.toInt Float64.nearestOf x = k from hk]; exact h _
theorem unit_ints : IntsAre [Value.int (unit3 c 0) t1, .int (unit3 c 1) t2, .int (unit3 c 2) t3] [unit3 c 0, unit3 c 1, unit3 c 2] := .cons _ _ (.cons _ _ (.cons _ _ .nil))
theorem max_unit {Q : Value → Shared → Prop} (hh : A.handled = none) (F : Fr h₀ L s.heap m) (N : News h₀ L s.heap news) (hl : (l, listOf #[.int (unit3 c 0) t1, .int (unit3 c 1) t2, .int (unit3 c 2) t3] n) ∈ news)
    (h : ∀ h' (t : Tok) tk, Fr h₀ L h' m → News h₀ L h' news → Q (.int 1 t) { s with heap := h', toks := tk }) : wpAny (model prog w) A (call (.builtin "max") [.ref l]) Q E s := by
  refine max_list_N hh F N ⟨_, N.get hl, rfl, n, rfl⟩ (unit_ints (c := c) (t1 := t1) (t2 := t2) (t3 := t3)) (by simp) fun h' M t tk F' N' hM hA => ?_
  have e : M = 1 := by
    have h1 : ∀ j, unit3 c j = 0 ∨ unit3 c j = 1 := fun j => by unfold unit3; split <;> simp
    have h2 : (1 : Int) ∈ [unit3 c 0, unit3 c 1, unit3 c 2] := by rcases cols3 c with rfl | rfl | rfl <;> decide
    have h3 := hA 1 h2
    simp only [List.mem_cons, List.not_mem_nil, or_false] at hM
    rcases hM with rfl | rfl | rfl
    · have := h1 0; omega
    · have := h1 1; omega
    · have := h1 2; omega
  subst e
  exact h h' t tk F' N'
theorem index_unit {Q : Value → Shared → Prop} (N : News h₀ L s.heap news) (hl : (l, listOf #[.int (unit3 c 0) t1, .int (unit3 c 1) t2, .int (unit3 c 2) t3] n) ∈ news)
    (h : Q (.int (c.val : Nat) s.toks) { s with toks := s.toks + 1 }) : wpAny (model prog w) A (call (.builtin "list.index") [.ref l, .int 1 t]) Q E s := by
  have h2 : (1 : Int) ∈ [unit3 c 0, unit3 c 1, unit3 c 2] := by rcases cols3 c with rfl | rfl | rfl <;> decide
  refine index_list_ints ⟨_, N.get hl, rfl, n, rfl⟩ (unit_ints (c := c) (t1 := t1) (t2 := t2) (t3 := t3)) (by rcases cols3 c with rfl | rfl | rfl <;> decide +kernel) h2 ?_
  have e : [unit3 c 0, unit3 c 1, unit3 c 2].idxOf 1 = c.val := by rcases cols3 c with rfl | rfl | rfl <;> decide
  rw [e]; exact h
theorem item_names {Q : Value → Shared → Prop} {value slice : PySem.Expr} (N : News h₀ L s.heap news) (hl : (l, listOf #[.str (Str.ofString "red") t1, .str (Str.ofString "green") t2, .str (Str.ofString "blue") t3] n) ∈ news)
    (h : ∀ u, Q (.str (nm c) u) s) (hs : subscripted slice false (.ref l) (.int (c.val : Nat) t) = operate [.ref l, .int (c.val : Nat) t] (getItem (.ref l) (.int (c.val : Nat) t))):
    wpAny (model prog w) A (subscriptTail value slice (.ref l) (.int (c.val : Nat) t)) Q E s := by
  have hL : s.heap.IsList l #[.str (Str.ofString "red") t1, .str (Str.ofString "green") t2, .str (Str.ofString "blue") t3] := ⟨_, N.get hl, rfl, n, rfl⟩
  have hx : ∃ u, (#[Value.str (Str.ofString "red") t1, .str (Str.ofString "green") t2, .str (Str.ofString "blue") t3] : Array Value)[((c.val : Nat) : Int).toNat]? = some (.str (nm c) u) := by
    rcases cols3 c with rfl | rfl | rfl
    · exact ⟨t1, rfl⟩
    · exact ⟨t2, rfl⟩
    · exact ⟨t3, rfl⟩
  obtain ⟨u, hu⟩ := hx
  exact tail_any hL.typeIs slot_list_getitem.lookup (wpAny_getItem_list hL (by omega) (by have := c.isLt; omega) hu (h u)) hs
end
theorem rnd_1 {a b : Col} (h : a ≠ b) : rnd (hsvS (half a b)).1 = unit3 (third a b) 0 := congrArg (·.1) (rnd3 a b h).1
theorem rnd_2 {a b : Col} (h : a ≠ b) : rnd (hsvS (half a b)).2.1 = unit3 (third a b) 1 := congrArg (·.2.1) (rnd3 a b h).1
theorem rnd_3 {a b : Col} (h : a ≠ b) : rnd (hsvS (half a b)).2.2 = unit3 (third a b) 2 := congrArg (·.2.2) (rnd3 a b h).1
theorem t_hsvc (w : World) {p : Program} {loose : List Str} {mean : ExcName → Option Value} {mg mb : Str → Option Value} {dp un : Nat} {gd : Option (List Code)} {cn : Str} {cs : Scope} {a : Addr} {ccd : Value} {cl : List (Str × Addr)} {outer : List Env} {A₀ : Around} {base h₀ : Heap} {L : Addr} {m : Str → Option Value} {news : List (Addr × Obj)} {s : Shared}
  {R : Result → Shared → Prop} {t1 t2 t3 : Tok} (c1 c2 : Col)
  (X : (Mine.hd.heap_39 w.params).In h₀) (B : Below A₀ base outer h₀) (F : Fr h₀ L s.heap m) (N : News h₀ L s.heap news) (T : Top p loose mean mg mb h₀) (hk : cs.kind = .function) (hd : dp ≤ 640) (hu : un ≤ 200) (hne : c1 ≠ c2)
  (ret : ∀ D u1 u2 u3 h' tk', Fr h₀ L h' m → News h₀ L h' ((D, tupO [.float (hsvS (half c1 c2)).1 u1, .float (hsvS (half c1 c2)).2.1 u2, .float (hsvS (half c1 c2)).2.2 u3]) :: news) → (∀ p ∈ news, p.1 < D) → R (.ok (.ret (.ref D))) {s with heap := h', toks := tk'}) :
  codeAny (model PySem.Challenge.rw_pg0268_01.row.prog w) (ktrTop dp un gd cn cs L a ccd cl outer) (.call (.ref 187) ⟨[.float (Float64.add (mixv [c1, c2]).1 4602678819172646912) t1, .float 4607182418800017408 t2, .float 4607182418800017408 t3], []⟩) R s := by
  obtain ⟨h1, h2, h3, h4⟩ := okH (okh c1 c2 hne)
  refine t_hsv w X B F N T hk hd hu h1 h2 h3 h4 fun D x y z u1 u2 u3 h' tk' e F' N' l1 => ?_
  have e1 : x = (hsvS (half c1 c2)).1 := congrArg (·.1) e
  have e2 : y = (hsvS (half c1 c2)).2.1 := congrArg (·.2.1) e
  have e3 : z = (hsvS (half c1 c2)).2.2 := congrArg (·.2.2) e
  subst e1 e2 e3
  exact ret D u1 u2 u3 h' tk' F' N' l1
end Mine
end

section
open PySem PySem.W PyProof.Rows
set_option Elab.async false
set_option maxRecDepth 100000
set_option maxHeartbeats 0
namespace Mine
theorem PaintsIn.mono {P : Col → Addr} {news news' : List (Addr × Obj)} (h : PaintsIn P news) (hs : ∀ p ∈ news, p ∈ news') : PaintsIn P news' := fun c => let ⟨t1, t2, t3, hm⟩ := h c; ⟨t1, t2, t3, hs _ hm⟩
theorem wl_C7_1 : True := by
  k_with_none
  k_with "newTuple" => (k_here; k_dflt (refine' kup_newTuple ?wqF ?wqN ?_ ?wqz; (case wqF => k_asm); (case wqN => k_asm); (case wqz => kmk_size)); intro D' h' F' N' l1; (try k_lt l1); (try k_sweep))
  exact True.intro
local macro_rules | `(tactic| k_mem) => `(tactic| assumption)
theorem wl_C7_2 : True := by
  k_with "subscriptTail" => (k_here; (with_reducible show wpAny _ _ (subscriptTail _ _ (Value.ref _) (Value.str (nm _) _)) _ _ _); k_dflt (refine' pd_sub ?wqN ?wqd ?wqo ?_ ?wqhs; (case wqN => k_asm); (case wqd => k_mem); (case wqo => assumption); (case wqhs => rfl)))
  k_with "call ref" => (k_here; k_dflt (refine wpAny_call ?_; refine' t_mixc _ [_, _] _ ?wqX ?wqB ?wqF ?wqN ?wqT ?wqk ?wqd ?wqu ?wqml ?wqmp ?wqok ?_; (case wqX => k_asm); (case wqB => k_asm); (case wqF => k_asm); (case wqN => k_asm); (case wqT => k_asm); (case wqk => rfl); (case wqd => (dsimp only; omega)); (case wqu => (dsimp only; omega)); (case wqmp => exact PaintsIn.mono (by assumption) (fun p hp => by repeat (first | exact hp | apply List.mem_cons_of_mem))); (case wqml => k_mem); (case wqok => exact ok2 _ _ (by assumption))); intro D' u1 u2 u3 h' tk' F' N' l1; (try k_lt l1); (try dsimp only); (try k_sweep))
  k_with "call ref" => (k_here; k_dflt (refine wpAny_call ?_; refine' t_hsvc _ _ _ ?wqX ?wqB ?wqF ?wqN ?wqT ?wqk ?wqd ?wqu ?wqhn ?_; (case wqX => k_asm); (case wqB => k_asm); (case wqF => k_asm); (case wqN => k_asm); (case wqT => k_asm); (case wqk => rfl); (case wqd => (dsimp only; omega)); (case wqu => (dsimp only; omega)); (case wqhn => assumption)); intro D' u1 u2 u3 h' tk' F' N' l1; (try k_lt l1); (try dsimp only); (try k_sweep))
  k_with "call builtin:round" => (k_here; k_dflt (refine' round_is ?wqA ?wqf ?wqk ?_; (case wqA => rfl); (case wqk => first | exact rnd_1 (by assumption) | exact rnd_2 (by assumption) | exact rnd_3 (by assumption)); (case wqf => first | exact (rnd3 _ _ (by assumption)).2.1 | exact (rnd3 _ _ (by assumption)).2.2.1 | exact (rnd3 _ _ (by assumption)).2.2.2)); intro u')
  k_with "call builtin:max" => (k_here; k_dflt (refine' max_unit ?wqh ?wqF ?wqN ?wqm ?_; (case wqh => rfl); (case wqF => k_asm); (case wqN => k_asm); (case wqm => k_mem)); intro h' t' tk' F' N'; (try k_sweep))
  k_with "call builtin:list.index" => (k_here; k_dflt (refine' index_unit ?wqN ?wqm ?_; (case wqN => k_asm); (case wqm => k_mem)))
  k_with "subscriptTail" => (k_here; (with_reducible show wpAny _ _ (subscriptTail (Expr.List _ _) _ (Value.ref _) (Value.int _ _)) _ _ _); k_dflt (refine' item_names ?wqN ?wqd ?_ ?wqhs; (case wqN => k_asm); (case wqd => k_mem); (case wqhs => with_unfolding_all rfl)); intro u')
  exact True.intro
theorem t_across (w : World) {p : Program} {loose : List Str} {mean : ExcName → Option Value} {mg mb : Str → Option Value} {dp un : Nat} {gd : Option (List Code)} {cn : Str} {cs : Scope} {a : Addr} {ccd : Value} {cl : List (Str × Addr)} {outer : List Env} {A₀ : Around} {base h₀ : Heap} {L : Addr} {m : Str → Option Value} {news : List (Addr × Obj)} {s : Shared}
  {R : Result → Shared → Prop} {dP : Addr} {oP : Obj} {c1 c2 : Col} {P : Col → Addr} {t1 t2 : Tok}
  (X : (Mine.hd.heap_39 w.params).In h₀) (B : Below A₀ base outer h₀) (F : Fr h₀ L s.heap m) (N : News h₀ L s.heap news) (T : Top p loose mean mg mb h₀) (hk : cs.kind = .function) (hd : dp ≤ 637) (hu : un ≤ 170)
  (md : (dP, oP) ∈ news) (pd : PD PySem.Challenge.rw_pg0268_01.row.prog w oP P) (mp : PaintsIn P news) (hne : c1 ≠ c2)
  (ret : ∀ u h' tk', Fr h₀ L h' m → News h₀ L h' news → R (.ok (.ret (.str (nm (third c1 c2)) u))) {s with heap := h', toks := tk'}) :
  codeAny (model PySem.Challenge.rw_pg0268_01.row.prog w) (ktrTop dp un gd cn cs L a ccd cl outer) (.call (.ref 243) ⟨[.ref dP, .str (nm c1) t1, .str (nm c2) t2], []⟩) R s := by
  revert X; k_fill; intro X
  k_dflt ktr_enter
  k_steps
  exact ret _ _ _ (by k_asm) (cb_drop (by k_asm) (fun p h => by repeat (first | exact h | apply List.mem_cons_of_mem)))
end Mine
end

section
open PySem PySem.W PyProof.Rows
set_option Elab.async false
set_option maxRecDepth 100000
set_option maxHeartbeats 0
namespace Mine
/-- names of colours -/
inductive NamesAre : List Value → List Col → Prop
  | nil : NamesAre [] []
  | cons (c : Col) (t : Tok) {vs : List Value} {cs : List Col} : NamesAre vs cs → NamesAre (.str (nm c) t :: vs) (c :: cs)
theorem NamesAre.length : ∀ {vs : List Value} {cs : List Col}, NamesAre vs cs → vs.length = cs.length
  | _, _, .nil => rfl
  | _, _, .cons _ _ r => by rw [List.length_cons, List.length_cons, r.length]
theorem NamesAre.get : ∀ {vs : List Value} {cs : List Col} {i : Nat} {v : Value}, NamesAre vs cs → vs[i]? = some v → ∃ c t, v = .str (nm c) t ∧ cs[i]? = some c
  | _, _, _, _, .nil, h => by simp at h
  | _, _, 0, _, .cons c t r, h => by simp at h; exact ⟨c, t, h.symm, rfl⟩
  | _, _, i + 1, _, .cons c t r, h => r.get (i := i) (by simpa using h)
section
variable {prog : Program} {w : World} {M : Model} {A : Around} {E : Value → Shared → Prop} {s : Shared} {env : Env} {h₀ : Heap} {L C c : Addr} {m m₂ : Str → Option Value} {news : List (Addr × Obj)} {scope : Scope} {cl : List (Str × Addr)} {co oc : Obj} {x : Str} {pos : Pos} {v : Value} {Q : Value → Shared → Prop}
theorem block_local (N : News h₀ L s.heap news) (hm : (C, co) ∈ news) (hn : NsObj co m₂) (hv : m₂ x = some v) (h : Q v s)
    (hk : (compEnvC scope cl C env).scope.kind = .function) (hl : (compEnvC scope cl C env).kindOf x = some .local) (hd : (x == ("__debug__" : Str)) = false) :
    wpAny M A (eval (.Name x pos) (compEnvC scope cl C env)) Q E s := ldVarK (hn.ns (N.get hm)) hv h hk hl hd
theorem block_cell (N : News h₀ L s.heap news) (hc : cl.lookup x = some c) (hm : (c, oc) ∈ news) (ho : oc.data = .cell (some v)) (h : Q v s)
    (hk : (compEnvC scope cl C env).scope.kind = .function) (hl : (compEnvC scope cl C env).kindOf x = some .cell) (hd : (x == ("__debug__" : Str)) = false) :
    wpAny M A (eval (.Name x pos) (compEnvC scope cl C env)) Q E s := ldCellK hc ⟨oc, N.get hm, ho⟩ h hk hl hd
end
theorem wl_C8_1 : True := by
  k_with_none
  k_with "enter cells" => (
      refine' code_defC ?wqk1 ?wqk2 ?wqk3 ?wqk4 ?wqk5 ?wqkA ?wqkF ?wqkK ?wqk6 ?wqk7 ?wqk8 ?wqk9 ?wqkB ?wqkD ?_ ?wqc2 ?wqc3 ?wqc4; (case wqkA => exact rfl); (case wqkF => exact rfl); (case wqkK => assumption); (case wqk1 => k_asm); (case wqk2 => k_asm); (case wqk3 => k_asm); (case wqk4 => k_asm); (case wqk5 => k_asm); (case wqk6 => k_is); (case wqk7 => k_is); (case wqk8 => ktr_room)
      (case wqk9 => exact BindsTo.of_eq rfl); (case wqkB => exact rfl); (case wqkD => decide +kernel); (case wqc2 => exact rfl); (case wqc3 => exact rfl); (case wqc4 => exact rfl); intro gZ LZ hZ tkZ cellsZ FG' F' N' YZ B' X' T' lZ; k_cells YZ; (try simp only [List.cons_append, List.nil_append] at N'); (try dsimp only))
  exact True.intro
local macro_rules | `(tactic| k_mem) => `(tactic| assumption)
local macro_rules | `(tactic| k_all) => `(tactic| assumption)
theorem wl_C8_2 : True := by
  k_with "eval ListComp" => (k_here; k_dflt (refine' comp_expr ?wqhc ?wqhk ?wqhn ?wqhs ?_; (case wqhc => with_unfolding_all rfl); (case wqhk => rfl); (case wqhn => decide); (case wqhs => intro _; with_unfolding_all rfl)))
  k_with "eval Name" => (k_here; (with_reducible show wpAny _ _ (eval (Expr.Name _ _) (compEnvC _ _ _ _)) _ _ _); k_dflt (first
      | (refine' block_local ?wqN ?wqm ?wqn ?wqv ?_ ?wqk ?wql ?wqd; (case wqk => rfl); (case wql => rfl); (case wqd => decide); (case wqN => k_asm); (case wqm => k_mem); (case wqn => assumption); (case wqv => first | assumption | rfl))
      | (refine' block_cell ?wqN ?wqc ?wqm ?wqo ?_ ?wqk ?wql ?wqd; (case wqk => rfl); (case wql => rfl); (case wqd => decide); (case wqN => k_asm); (case wqc => rfl); (case wqm => k_mem); (case wqo => assumption))))
  k_with "subscriptTail" => (k_here; (with_reducible show wpAny _ _ (subscriptTail _ _ (Value.ref _) (Value.str (nm _) _)) _ _ _); k_dflt (refine' pd_sub ?wqN ?wqd ?wqo ?_ ?wqhs; (case wqN => k_asm); (case wqd => k_mem); (case wqo => assumption); (case wqhs => rfl)))
  k_with "call ref" => (k_here; k_dflt (refine wpAny_call ?_; refine' t_mixc _ [_] _ ?wqX ?wqB ?wqF ?wqN ?wqT ?wqk ?wqd ?wqu ?wqml ?wqmp ?wqok ?_; (case wqX => k_asm); (case wqB => k_asm); (case wqF => k_asm); (case wqN => k_asm); (case wqT => k_asm); (case wqk => rfl); (case wqd => (dsimp only; omega)); (case wqu => (dsimp only; omega)); (case wqmp => exact PaintsIn.mono (by assumption) (fun p hp => by repeat (first | exact hp | apply List.mem_cons_of_mem))); (case wqml => k_mem); (case wqok => exact ok1 _)); intro D' u1 u2 u3 h' tk' F' N' l1; (try k_lt l1); (try dsimp only); (try k_sweep))
  exact True.intro
theorem paired_get {α β : Type} {F : α → β → Prop} : ∀ {l₁ : List α} {l₂ : List β} {i : Nat} {a : α}, Paired F l₁ l₂ → l₁[i]? = some a → ∃ b, l₂[i]? = some b ∧ F a b
  | _, _, _, _, .nil, h => by simp at h
  | _, _, 0, _, .cons (b := b) f r, h => by simp at h; subst h; exact ⟨b, rfl, f⟩
  | _, _, i + 1, _, .cons f r, h => by
    obtain ⟨b, e, g⟩ := paired_get (i := i) r (by simpa using h)
    exact ⟨b, by simpa using e, g⟩
theorem nm_inj : ∀ a b : Col, nm a = nm b → a = b := by decide +kernel
theorem NamesAre.get' : ∀ {vs : List Value} {cs : List Col} {i : Nat} {c : Col}, NamesAre vs cs → cs[i]? = some c → ∃ t, vs[i]? = some (Value.str (nm c) t)
  | _, _, _, _, .nil, h => by simp at h
  | _, _, 0, _, .cons c t r, h => by simp at h; subst h; exact ⟨t, rfl⟩
  | _, _, i + 1, _, .cons c t r, h => by
    obtain ⟨u, e⟩ := r.get' (i := i) (by simpa using h)
    exact ⟨u, by simpa using e⟩
def HuesAre (ys : List Value) (cols : List Col) (f : Col → UInt64) : Prop := ys.length = cols.length ∧ ∀ (i : Nat) (c : Col), cols[i]? = some c → ∃ u, ys[i]? = some (Value.float (f c) u)
theorem hues_of {vs ys : List Value} {cols : List Col} {led : List (Addr × Obj)} {f : Col → UInt64} (hv : NamesAre vs cols) (h : Paired (fun v y => ∃ nw : List (Addr × Obj), (∀ q ∈ nw, q ∈ led) ∧ ∃ c t u, v = Value.str (nm c) t ∧ y = Value.float (f c) u) vs ys) : HuesAre ys cols f := by
  refine ⟨by rw [← h.length, hv.length], fun i c hc => ?_⟩
  obtain ⟨t, ht⟩ := hv.get' hc
  obtain ⟨y, hy, _, _, c', t', u, e1, e2⟩ := paired_get h ht
  injection e1 with e3 e4
  have := nm_inj _ _ e3
  subst this
  exact ⟨u, by rw [hy, e2]⟩
theorem HuesAre.get {ys : List Value} {cols : List Col} {f : Col → UInt64} (h : HuesAre ys cols f) {i : Nat} (hi : i < cols.length) : ∃ u, ys[i]? = some (Value.float (f (cols.getD i 0)) u) := by
  have : cols[i]? = some (cols.getD i 0) := by simp [List.getD_eq_getElem?_getD, hi]
  exact h.2 i _ this
section
variable {prog : Program} {w : World} {A : Around} {E : Value → Shared → Prop} {s : Shared} {h₀ : Heap} {L D : Addr} {m : Str → Option Value} {news : List (Addr × Obj)} {ys : List Value} {cols : List Col} {f : Col → UInt64} {i k : Nat} {t u : Tok} {x : UInt64} {Q : Value → Shared → Prop} {value slice : PySem.Expr}
theorem hue_at (N : News h₀ L s.heap news) (hl : (D, listOf ys.toArray k) ∈ news) (hy : HuesAre ys cols f) (hi : i < cols.length) (hz : cols.length ≤ 100) (h : ∀ u, Q (.float (f (cols.getD i 0)) u) s)
    (hs : subscripted slice false (.ref D) (.int (i : Nat) t) = operate [.ref D, .int (i : Nat) t] (getItem (.ref D) (.int (i : Nat) t))) : wpAny (model prog w) A (subscriptTail value slice (.ref D) (.int (i : Nat) t)) Q E s := by
  have hL : s.heap.IsList D ys.toArray := ⟨_, N.get hl, rfl, k, rfl⟩
  obtain ⟨u, hu⟩ := hy.get hi
  exact tail_any hL.typeIs slot_list_getitem.lookup (wpAny_getItem_list hL (by omega) (by omega) (by simpa using hu) (h u)) hs
theorem hue_prev (N : News h₀ L s.heap news) (hl : (D, listOf ys.toArray k) ∈ news) (hy : HuesAre ys cols f) (hi : i < cols.length) (hz : cols.length ≤ 100) (h : ∀ u, Q (.float (f (cols.getD (prevI cols.length i) 0)) u) s)
    (hs : subscripted slice false (.ref D) (.int ((i : Nat) - 1) t) = operate [.ref D, .int ((i : Nat) - 1) t] (getItem (.ref D) (.int ((i : Nat) - 1) t))) : wpAny (model prog w) A (subscriptTail value slice (.ref D) (.int ((i : Nat) - 1) t)) Q E s := by
  have hL : s.heap.IsList D ys.toArray := ⟨_, N.get hl, rfl, k, rfl⟩
  have hlen : ys.toArray.size = cols.length := by rw [List.size_toArray, hy.1]
  by_cases h0 : i = 0
  · subst h0
    obtain ⟨u, hu⟩ := hy.get (i := cols.length - 1) (by omega)
    have hq := h u
    simp only [prevI, if_true] at hq
    refine tail_any hL.typeIs slot_list_getitem.lookup (wpAny_getItem_list_neg hL (by omega) (by rw [hlen]; omega) (by omega) ?_ hq) hs
    rw [hlen]
    have e : (((0 : Nat) : Int) - 1 + (cols.length : Int)).toNat = cols.length - 1 := by omega
    rw [e]
    simpa using hu
  · obtain ⟨u, hu⟩ := hy.get (i := i - 1) (by omega)
    have hq := h u
    simp only [prevI, if_neg h0] at hq
    refine tail_any hL.typeIs slot_list_getitem.lookup (wpAny_getItem_list hL (by omega) (by omega) ?_ hq) hs
    have e : (((i : Nat) : Int) - 1).toNat = i - 1 := by omega
    rw [e]
    simpa using hu
theorem ints_get : ∀ {ns : List Int} {ys : List Value}, ys.length = ns.length → (∀ (i : Nat) (n : Int), ns[i]? = some n → ∃ t, ys[i]? = some (Value.int n t)) → IntsAre ys ns
  | [], [], _, _ => .nil
  | n :: ns, y :: ys, hl, h => by
    obtain ⟨t, e⟩ := h 0 n rfl
    simp at e
    subst e
    exact .cons n t (ints_get (by simpa using hl) fun i m hm => by simpa using h (i + 1) m (by simpa using hm))
theorem turns_ints {cols : List Col} {vs ys : List Value} {led : List (Addr × Obj)} (hlen : vs.length = cols.length) (hP : ∀ (j : Nat) (v : Value), vs[j]? = some v → ∃ t, v = Value.int (j : Int) t)
    (h : Paired (fun v y => ∃ nw : List (Addr × Obj), (∀ q ∈ nw, q ∈ led) ∧ ∃ (i : Nat) (t u : Tok), v = Value.int (i : Int) t ∧ y = Value.int (turnC (cols.getD i 0) (cols.getD (prevI cols.length i) 0)) u) vs ys) : IntsAre ys (turnsL cols) := by
  refine ints_get (by rw [← h.length, hlen]; simp [turnsL]) fun i n hn => ?_
  have hi : i < cols.length := by
    have := (List.getElem?_eq_some_iff.mp hn).1
    simpa [turnsL] using this
  have hv : ∃ v, vs[i]? = some v := ⟨vs[i], by simp [hlen, hi]⟩
  obtain ⟨v, hv⟩ := hv
  obtain ⟨t, rfl⟩ := hP i v hv
  obtain ⟨y, hy, _, _, i', t', u, e1, e2⟩ := paired_get h hv
  injection e1 with e3 e4
  have : i' = i := by omega
  subst this
  refine ⟨u, ?_⟩
  rw [hy, e2]
  have : n = turnC (cols.getD i' 0) (cols.getD (prevI cols.length i') 0) := by
    simp only [turnsL, List.getElem?_map, List.getElem?_range hi, Option.map_some, Option.some.injEq] at hn
    exact hn.symm
  rw [this]
theorem cnt_K {ns : List Int} {l : Addr} {vs : List Value} {z : Int} (N : News h₀ L s.heap news) (hl : (l, listOf vs.toArray k) ∈ news) (hi : IntsAre vs ns) (h : ∀ u tk, Q (.int (ns.count z : Nat) u) { s with toks := tk }) : wpAny (model prog w) A (call (.builtin "list.count") [.ref l, .int z t]) Q E s :=
  count_list_ints ⟨_, N.get hl, rfl, k, rfl⟩ hi (h _ _)
theorem mul_three (h : ∀ u tk, Q (.float (Float64.mul x (Float64.ofInt 3)) u) { s with toks := tk }) : wpAny (model prog w) A (binaryOp .Mult (.float x t) (.int 3 u)) Q E s := AutoFloatOps.mul_fi_1 (by decide +kernel) (h _ _)
end
theorem wl_C8_3 : True := by
  k_with "exec Assign cons ListComp" => (k_here; k_dflt (refine' comp_assign ?wqsw ?wqhc ?wqhk ?wqhn ?wqhs ?_; (case wqsw => with_unfolding_all rfl); (case wqhc => with_unfolding_all rfl); (case wqhk => rfl); (case wqhn => decide); (case wqhs => intro _; with_unfolding_all rfl)))
  k_with "call builtin:len" => (k_here; k_dflt (refine' len_K ?wqN ?wqm ?wqz ?_; (case wqN => k_asm); (case wqm => k_mem); (case wqz => first | assumption | omega)); intro u' tk')
  k_with "call type:range" => (k_here; k_dflt (refine' range_new ?wqF ?wqN ?_; (case wqF => k_asm); (case wqN => k_asm)); intro r' t' u' h' tk' F' N' l1; (try k_lt l1); (try k_sweep))
  k_with "subscriptTail" => (k_here; (with_reducible show wpAny _ _ (subscriptTail (Expr.Name (PySem.Str.ofString "hues") _) _ (Value.ref _) (Value.int (Nat.cast _) _)) _ _ _); k_dflt ((refine' hue_at ?wqN ?wqd ?wqo ?wqi ?wqz ?_ ?wqhs; (case wqN => k_asm); (case wqd => k_mem); (case wqo => assumption); (case wqi => assumption); (case wqz => assumption); (case wqhs => rfl))); intro u')
  k_with "subscriptTail" => (k_here; (with_reducible show wpAny _ _ (subscriptTail (Expr.Name (PySem.Str.ofString "hues") _) _ (Value.ref _) (Value.int (_ - 1) _)) _ _ _); k_dflt ((refine' hue_prev ?wqN ?wqd ?wqo ?wqi ?wqz ?_ ?wqhs; (case wqN => k_asm); (case wqd => k_mem); (case wqo => assumption); (case wqi => assumption); (case wqz => assumption); (case wqhs => rfl))); intro u')
  k_with "binaryOp Mult float int" => (k_here; k_dflt (refine' mul_three ?_); intro u' tk')
  k_with "call builtin:round" => (k_here; k_dflt (refine' round_is ?wqA ?wqf ?wqk ?_; (case wqA => rfl); (case wqf => exact gap_fin _ _); (case wqk => rfl)); intro u')
  k_with "call builtin:list.count" => (k_here; k_dflt (refine' cnt_K ?wqN ?wqm ?wqi ?_; (case wqN => k_asm); (case wqm => k_mem); (case wqi => assumption)); intro u' tk')
  exact True.intro
def stepsC (cols : List Col) : Int := ((turnsL cols).count 1 : Nat) - ((turnsL cols).count 2 : Nat)
theorem wl_C8_4 : True := by
  k_with "getMethod ref" => (k_here; (with_reducible show wpAny _ _ (getMethod (Value.ref _) (PySem.Str.ofString "count") _) _ _ _); k_dflt (refine' kf_method ?wqN ?wqm PySem.F.slot_list_count PySem.F.type_list_count ?_; (case wqN => k_asm); (case wqm => k_mem)))
  exact True.intro
theorem t_steps (w : World) {p : Program} {loose : List Str} {mean : ExcName → Option Value} {mg mb : Str → Option Value} {dp un : Nat} {gd : Option (List Code)} {cn : Str} {cs : Scope} {a : Addr} {ccd : Value} {cl : List (Str × Addr)} {outer : List Env} {A₀ : Around} {base h₀ : Heap} {L : Addr} {m : Str → Option Value} {news : List (Addr × Obj)} {s : Shared}
  {R : Result → Shared → Prop} {dP nl : Addr} {oP : Obj} {n : Nat} {vs : List Value} {cols : List Col} {P : Col → Addr}
  (X : (Mine.hd.heap_39 w.params).In h₀) (B : Below A₀ base outer h₀) (F : Fr h₀ L s.heap m) (N : News h₀ L s.heap news) (T : Top p loose mean mg mb h₀) (hk : cs.kind = .function) (hd : dp ≤ 637) (hu : un ≤ 170)
  (md : (dP, oP) ∈ news) (pd : PD PySem.Challenge.rw_pg0268_01.row.prog w oP P) (mp : PaintsIn P news) (mn : (nl, listOf vs.toArray n) ∈ news) (hv : NamesAre vs cols) (hz : cols.length ≤ 100)
  (ret : ∀ u h' tk', Fr h₀ L h' m → News h₀ L h' news → R (.ok (.ret (.int (stepsC cols) u))) {s with heap := h', toks := tk'}) :
  codeAny (model PySem.Challenge.rw_pg0268_01.row.prog w) (ktrTop dp un gd cn cs L a ccd cl outer) (.call (.ref 248) ⟨[.ref dP, .ref nl], []⟩) R s := by
  revert X; k_fill; intro X
  k_dflt walk_at "enter cells"
  k_steps
  refine comp_src (src_list rfl (by k_asm) (by k_asm) (List.mem_cons_of_mem _ (List.mem_cons_of_mem _ mn))) (fun _ => true) (fun v y _ => ∃ c t u, v = .str (nm c) t ∧ y = .float (hue1 c) u) tests_nil ?_ ?_ (by rw [hv.length]; omega) (by decide) rfl rfl
  · intro C i v co m₂ tl s₃ E' hi hP hp hn hm F₁ N₁ hs
    obtain ⟨c, t, rfl, hc⟩ := hv.get hP
    have h1 := hs _ (List.mem_cons_self ..)
    have h2 := hs _ (List.mem_cons_of_mem _ (List.mem_cons_self ..))
    have h3 := hs _ (List.mem_cons_of_mem _ (List.mem_cons_of_mem _ md))
    have mp' := PaintsIn.mono mp (fun q h => hs q (List.mem_cons_of_mem _ (List.mem_cons_of_mem _ h)))
    k_steps
    exact EltEnd.plain (by k_asm) (by k_asm) (fun q h => by repeat (first | exact h | apply List.mem_cons_of_mem)) ⟨c, t, _, rfl, rfl⟩
  · intro D h' tk k ys vs' led F₁ N₁ hs hlt hlen hP hF
    have hvs : vs' = vs := same_list hlen hP
    subst hvs
    rw [List.filter_eq_self.mpr (fun _ _ => rfl)] at hF
    have hys := hues_of hv hF
    have hyl : ys.length ≤ 10000 := by rw [hys.1]; omega
    clear hF
    have N₂ := cb_drop N₁ (sub_cons hs)
    clear N₁
    k_lt hlt
    have hne1 : ∀ p ∈ news, p.1 ≠ LZ + 1 := fun p hp => Nat.ne_of_lt (Nat.lt_succ_of_lt (lZ p hp))
    have hne2 : ∀ p ∈ news, p.1 ≠ LZ + 1 + 1 := fun p hp => Nat.ne_of_lt (Nat.lt_succ_of_lt (Nat.lt_succ_of_lt (lZ p hp)))
    dsimp only
    k_steps
    refine comp_srcA (src_range rfl (by k_asm) (by k_asm) (List.mem_cons_self ..) hyl) (fun _ => true) (fun v y _ => ∃ (i : Nat) (t u : Tok), v = Value.int (i : Int) t ∧ y = Value.int (turnC (cols.getD i 0) (cols.getD (prevI cols.length i) 0)) u) tests_nil ?_ ?_ hyl (by decide) rfl rfl
    · intro C i v co m₂ tl s₃ E' hi hP hp hn hm F₁ N₁ hs
      obtain ⟨t, rfl⟩ := hP
      rw [hys.1] at hi
      have h1 := hs _ (List.mem_cons_of_mem _ (List.mem_cons_self ..))
      have h2 := hs _ (List.mem_cons_of_mem _ (List.mem_cons_of_mem _ (List.mem_cons_self ..)))
      k_steps
      exact EltEnd.plain (by k_asm) (by k_asm) (fun q h => by repeat (first | exact h | apply List.mem_cons_of_mem)) ⟨i, t, _, rfl, rfl⟩
    · intro D2 C co mC h2 tk2 k2 ys2 vs2 led2 F₁ N₁ hn hs hne hDC hCL hC0 hlt hlen hP hF
      rw [List.filter_eq_self.mpr (fun _ _ => rfl)] at hF
      have hint := turns_ints (hlen.trans hys.1) hP hF
      clear hF
      k_steps
      refine StoreEnd.intro (by k_asm) (by k_asm) hn hCL hC0 (fun q hq => (List.mem_cons.mp hq).elim (fun e => e ▸ hDC) (hne q)) ?_
      intro h₃ F₃ N₃
      dsimp only
      k_steps
      exact ret _ _ _ (by k_asm) (cb_drop (by k_asm) (fun p h => List.mem_cons_of_mem _ (hs p (by repeat (first | exact h | apply List.mem_cons_of_mem)))))
end Mine
end

section
open PySem PySem.W PyProof.Rows
set_option Elab.async false
set_option maxRecDepth 100000
namespace Mine
open PySem.Builtin.Re
theorem re_attrs : PlainAttrs "re.Pattern" :=
  ⟨⟨"object.__getattribute__", by rw [typeLookup_type, builtinLookup_eq_fast]; kernel_rfl, by decide +kernel⟩, by rw [typeLookup_type, builtinLookup_eq_fast]; kernel_rfl⟩
theorem re_slot : Slot "re.Pattern" "search" "re.Pattern.search" :=
  .of (owner := "re.Pattern") (n := "search") (by rw [typeLookup_type, builtinLookup_eq_fast]; kernel_rfl) (by decide +kernel) (by decide +kernel) (by decide +kernel)
    (by first | exact .inl (by decide +kernel) | exact .inr (by decide +kernel)) (by rw [isSubtype_type]; kernel_rfl)
theorem re_type : typeOf (.builtin "re.Pattern.search") = pure (.type "method_descriptor") := by show builtinType _ = _; rw [builtinType_eq_fast]; kernel_rfl
theorem re_entry : entryFor table "re.Pattern.search" = some Builtin.«re.Pattern.search» := entryFor_of_tree (by kernel_rfl)
theorem re_args (a b : Value) : argsOk "re.Pattern.search" ⟨[a, b], []⟩ := by unfold argsOk; kernel_rfl
/-- the machine driven for some turns -/
def driveN : Nat → PySem.Sre.M → Option PySem.Sre.M
  | 0, _ => none
  | k + 1, m => if (m.runFor reTurnSteps).outcome.isSome then some (m.runFor reTurnSteps) else driveN k (m.runFor reTurnSteps)
def failed (m : PySem.Sre.M) : Bool := match m.outcome with
  | some .failed => true
  | _ => false
def noMatch (code text : Array Nat) : Bool := match driveN 60 (PySem.Sre.forSearch code text 0 0 text.size false) with
  | some m => failed m
  | none => false
section
variable {M : Model} {A : Around} {E : Value → Shared → Prop} {s : Shared}
theorem drive_to : ∀ (k T : Nat) (m m' : PySem.Sre.M) (Q : PySem.Sre.M → Shared → Prop), driveN k m = some m' → k ≤ T → Q m' s → wpAny M A (reDrive T m) Q E s
  | 0, _, _, _, _, h, _, _ => nomatch h
  | k + 1, 0, _, _, _, _, h, _ => absurd h (by omega)
  | k + 1, T + 1, m, m', Q, h, hT, hq => by
    unfold driveN at h
    show wpAny M A (if (m.runFor reTurnSteps).outcome.isSome then pure (m.runFor reTurnSteps) else do rule "sre.turn"; reDrive T (m.runFor reTurnSteps)) Q E s
    by_cases c : (m.runFor reTurnSteps).outcome.isSome = true
    · rw [if_pos c] at h ⊢
      cases h
      exact wpAny_pure hq
    · rw [if_neg c] at h ⊢
      exact wpAny_bind (wpAny_rule (drive_to k T _ m' Q h (by omega) hq))
theorem rules_pass {l : List Nat} {p : Nat → Bool} {f : Nat → String} {Q : PUnit → Shared → Prop} (h : Q ⟨⟩ s) : wpAny M A (forIn l PUnit.unit fun i _ => if p i = true then do rule (f i); pure (ForInStep.yield PUnit.unit) else pure (ForInStep.yield PUnit.unit)) Q E s := by
  induction l with
  | nil => rw [List.forIn_nil]; exact wpAny_pure h
  | cons i r ih =>
    rw [List.forIn_cons]
    refine wpAny_bind ?_
    split
    · exact wpAny_bind (wpAny_rule (wpAny_pure ih))
    · exact wpAny_pure ih
theorem run_fails {m m' : PySem.Sre.M} {k : Nat} {Q : Option PySem.Sre.M → Shared → Prop} (h : driveN k m = some m') (hk : k ≤ 60) (hf : failed m' = true) (hq : Q none s) : wpAny M A (reRunToEnd m) Q E s := by
  unfold reRunToEnd
  refine wpAny_bind (drive_to k _ m m' _ h (Nat.le_trans hk (by decide +kernel)) ?_)
  unfold failed at hf
  refine wpAny_bind (rules_pass ?_)
  split at hf
  · next h' => rw [h']; exact wpAny_pure hq
  · cases hf
theorem named_is (v : Value) : reNamed "re.Pattern.search" "search" ["string", "pos", "endpos"] 1 [v] [] = pure [some v, none, none] := by rfl
end
section
variable {prog : Program} {w : World} {A : Around} {E : Value → Shared → Prop} {s : Shared}
theorem target_is {p c : Addr} {po co : Obj} {x : Str} {t : Tok} {a0 a1 a2 a3 a4 : Value} {z : Tok} {items : Array Value} {kd : Nat} {Q : ReTarget → Shared → Prop}
    (hp : s.heap.get? p = some po) (pd : po.data = .fields #[a0, a1, a2, a3, a4, .ref c, .int 0 z]) (hc : s.heap.get? c = some co) (cd : co.data = .seq items kd)
    (h : Q { pattern := .ref p, string := .str x t, code := (items.map reRawOf).map (·.toNat), text := x.cps, kind := 0, groups := reRawNat a2, pos := min (0 : Int).toNat x.cps.size, lim := min ((2 : Int) ^ 63 - 1).toNat x.cps.size } s) :
    wpAny (model prog w) A (reTarget "re.Pattern.search" "search" ⟨[.ref p, .str x t], []⟩) Q E s := by
  unfold reTarget
  dsimp only
  rw [named_is]
  refine wpAny_bind (wpAny_pure ?_)
  dsimp only
  refine wpAny_bind (wpAny_pure ?_)
  refine wpAny_bind (wpAny_pure ?_)
  unfold fieldsOf
  dsimp only
  refine wpAny_bind (wpAny_bind (wpAny_load hp ?_))
  rw [pd]
  refine wpAny_pure ?_
  unfold reTextOf
  refine wpAny_bind (wpAny_bind (wpAny_pure (wpAny_pure ?_)))
  dsimp only
  have e1 : (reRawNat (#[a0, a1, a2, a3, a4, Value.ref c, Value.int 0 z].getD 6 Value.none) == 0 && (0 : Nat) == 1) = false := rfl
  have e2 : (reRawNat (#[a0, a1, a2, a3, a4, Value.ref c, Value.int 0 z].getD 6 Value.none) == 1 && (0 : Nat) == 0) = false := rfl
  rw [if_neg (by rw [e1]; decide), if_neg (by rw [e2]; decide)]
  refine wpAny_bind ?_
  unfold reNoCollectionInside
  rw [if_neg (by decide)]
  refine wpAny_pure ?_
  refine wpAny_bind ?_
  unfold reRawItems
  have e3 : #[a0, a1, a2, a3, a4, Value.ref c, Value.int 0 z].getD 5 Value.none = .ref c := rfl
  rw [e3]
  refine wpAny_bind ?_
  unfold seqItems?
  dsimp only
  refine wpAny_bind (wpAny_load hc ?_)
  rw [cd]
  exact wpAny_pure (wpAny_pure (wpAny_pure h))
theorem search_none {p c : Addr} {po co : Obj} {x : Str} {t : Tok} {a0 a1 a2 a3 a4 : Value} {z : Tok} {items : Array Value} {kd : Nat} {Q : Value → Shared → Prop} {code : Array Nat}
    (hp : s.heap.get? p = some po) (pc : po.cls = .type "re.Pattern") (pd : po.data = .fields #[a0, a1, a2, a3, a4, .ref c, .int 0 z]) (hc : s.heap.get? c = some co) (cd : co.data = .seq items kd)
    (hcode : (items.map reRawOf).map (·.toNat) = code) (hg : reRawNat a2 = 0) (hx : x.cps.size ≤ 100) (hm : noMatch code x.cps = true) (h : Q .none s) :
    wpAny (model prog w) A (call (.builtin "re.Pattern.search") [.ref p, .str x t]) Q E s := by
  refine wpAny_call_entry re_slot ⟨po, hp, pc⟩ re_entry ?_ (re_args _ _)
  unfold Builtin.«re.Pattern.search»
  refine wpAny_bind (target_is hp pd hc cd ?_)
  rw [hcode, hg]
  have e4 : min (0 : Int).toNat x.cps.size = 0 := by simp
  have e5 : min ((2 : Int) ^ 63 - 1).toNat x.cps.size = x.cps.size := by omega
  rw [e4, e5]
  unfold reAnswer
  unfold noMatch at hm
  dsimp only
  split at hm
  · next m hd => exact wpAny_bind (run_fails hd (by decide) hm (wpAny_pure ⟨_, rfl, h⟩))
  · cases hm
end
end Mine
end

section
open PySem PySem.W PyProof.Rows
set_option Elab.async false
set_option maxRecDepth 100000
set_option maxHeartbeats 0
namespace Mine
def codeN : Array Nat := #[14, 10, 4, 1, 1, 22, 0, 31, 16, 127, 0, 13, 7, 22, 0, 31, 16, 127, 0, 1]
def codeV : Array Nat := #[14, 14, 4, 1, 1, 9, 4294966783, 0, 0, 2147483648, 0, 0, 0, 0, 0, 13, 11, 9, 4294966783, 0, 0, 2147483648, 0, 0, 0, 0, 0, 1]
def okName (x : Str) : Bool := decide (x.cps.size ≤ 100) && noMatch codeN x.cps
def okVal (x : Str) : Bool := decide (x.cps.size ≤ 100) && noMatch codeV x.cps
theorem ok_nm : ∀ c : Col, okName (nm c) = true ∧ okVal (nm c) = true := by decide +kernel
section
variable {prog : Program} {w : World} {M : Model} {A : Around} {E : Value → Shared → Prop} {s : Shared} {h₀ : Heap} {L a c : Addr} {m : Str → Option Value} {K : Frag} {po co : Obj}
theorem pat_method {pl : Sem Bool} {Q : Value × List Value → Shared → Prop} (F : Fr h₀ L s.heap m) (X : K.In h₀) (ha : K.lookup a = some po) (hc : po.cls = .type "re.Pattern") (hd : po.dict = none)
    (h : Q (.builtin "re.Pattern.search", [.ref a]) s) : wpAny M A (getMethod (.ref a) "search" pl) Q E s :=
  getMethod_builtin ⟨po, F.keep _ _ (X _ _ ha), hc⟩ re_attrs re_slot re_type (fun b e => by cases e; exact ⟨po, F.keep _ _ (X _ _ ha), hd⟩) h
theorem pat_search {Q : Value → Shared → Prop} {x : Str} {t z : Tok} {a0 a1 a2 a3 a4 : Value} {items : Array Value} {kd : Nat} {code : Array Nat} (F : Fr h₀ L s.heap m) (X : K.In h₀) (ha : K.lookup a = some po) (hc : po.cls = .type "re.Pattern")
    (pd : po.data = .fields #[a0, a1, a2, a3, a4, .ref c, .int 0 z]) (hcc : K.lookup c = some co) (cd : co.data = .seq items kd)
    (hcode : (items.map PySem.Builtin.Re.reRawOf).map (·.toNat) = code) (hg : PySem.Builtin.Re.reRawNat a2 = 0) (ok : (decide (x.cps.size ≤ 100) && noMatch code x.cps) = true) (h : Q .none s) :
    wpAny (model prog w) A (call (.builtin "re.Pattern.search") [.ref a, .str x t]) Q E s := by
  rw [Bool.and_eq_true, decide_eq_true_eq] at ok
  exact search_none (F.keep _ _ (X _ _ ha)) hc pd (F.keep _ _ (X _ _ hcc)) cd hcode hg ok.1 ok.2 h
theorem pat_searchN {Q : Value → Shared → Prop} {x : Str} {t z : Tok} {a0 a1 a2 a3 a4 : Value} {items : Array Value} {kd : Nat} (ok : okName x = true) (F : Fr h₀ L s.heap m) (X : K.In h₀) (ha : K.lookup a = some po) (hc : po.cls = .type "re.Pattern")
    (pd : po.data = .fields #[a0, a1, a2, a3, a4, .ref c, .int 0 z]) (hcc : K.lookup c = some co) (cd : co.data = .seq items kd)
    (hcode : (items.map PySem.Builtin.Re.reRawOf).map (·.toNat) = codeN) (hg : PySem.Builtin.Re.reRawNat a2 = 0) (h : Q .none s) :
    wpAny (model prog w) A (call (.builtin "re.Pattern.search") [.ref a, .str x t]) Q E s := pat_search F X ha hc pd hcc cd hcode hg ok h
theorem pat_searchV {Q : Value → Shared → Prop} {x : Str} {t z : Tok} {a0 a1 a2 a3 a4 : Value} {items : Array Value} {kd : Nat} (ok : okVal x = true) (F : Fr h₀ L s.heap m) (X : K.In h₀) (ha : K.lookup a = some po) (hc : po.cls = .type "re.Pattern")
    (pd : po.data = .fields #[a0, a1, a2, a3, a4, .ref c, .int 0 z]) (hcc : K.lookup c = some co) (cd : co.data = .seq items kd)
    (hcode : (items.map PySem.Builtin.Re.reRawOf).map (·.toNat) = codeV) (hg : PySem.Builtin.Re.reRawNat a2 = 0) (h : Q .none s) :
    wpAny (model prog w) A (call (.builtin "re.Pattern.search") [.ref a, .str x t]) Q E s := pat_search F X ha hc pd hcc cd hcode hg ok h
end
local macro_rules | `(tactic| k_mem) => `(tactic| assumption)
theorem wl_C9_1 : True := by
  k_with_none
  k_with "getMethod ref" => (k_here; (with_reducible show wpAny _ _ (getMethod (Value.ref _) (PySem.Str.ofString "search") _) _ _ _); k_dflt (refine' pat_method ?wqF ?wqX ?wqa ?wqc ?wqd ?_; (case wqF => k_asm); (case wqX => k_asm); (case wqa => k_is); (case wqc => rfl); (case wqd => rfl)))
  k_with "call builtin:re.Pattern.search" => (k_here; k_dflt ((first | (refine' pat_searchN ?wqo ?wqF ?wqX ?wqa ?wqc ?wqd ?wqb ?wqe ?wqk ?wqg ?_; (case wqo => assumption)) | (refine' pat_searchV ?wqo ?wqF ?wqX ?wqa ?wqc ?wqd ?wqb ?wqe ?wqk ?wqg ?_; (case wqo => assumption))); (case wqF => k_asm); (case wqX => k_asm); (case wqa => k_is); (case wqc => rfl); (case wqd => rfl); (case wqb => k_is); (case wqe => rfl); (case wqk => decide +kernel); (case wqg => rfl)))
  exact True.intro
theorem t_conv_name (w : World) {p : Program} {loose : List Str} {mean : ExcName → Option Value} {mg mb : Str → Option Value} {dp un : Nat} {gd : Option (List Code)} {cn : Str} {cs : Scope} {a : Addr} {ccd : Value} {cl : List (Str × Addr)} {outer : List Env} {A₀ : Around} {base h₀ : Heap} {L : Addr} {m : Str → Option Value} {news : List (Addr × Obj)} {s : Shared}
  {R : Result → Shared → Prop} {x : Str} {t : Tok} {self : Value}
  (X : (Mine.hd.heap_39 w.params).In h₀) (B : Below A₀ base outer h₀) (F : Fr h₀ L s.heap m) (N : News h₀ L s.heap news) (T : Top p loose mean mg mb h₀) (hk : cs.kind = .function) (hd : dp ≤ 637) (hu : un ≤ 170)
  (ok : okName x = true)
  (ret : ∀ h' tk', Fr h₀ L h' m → News h₀ L h' news → R (.ok (.ret (.str x t))) {s with heap := h', toks := tk'}) :
  codeAny (model PySem.Challenge.rw_pg0268_01.row.prog w) (ktrTop dp un gd cn cs L a ccd cl outer) (.call (.ref 70) ⟨[self, .str x t], [("name", .bool true)]⟩) R s := by
  revert X; k_fill; intro X
  k_dflt ktr_enter
  k_steps
  exact ret _ _ (by k_asm) (cb_drop (by k_asm) (fun p h => by repeat (first | exact h | apply List.mem_cons_of_mem)))
theorem t_conv_val (w : World) {p : Program} {loose : List Str} {mean : ExcName → Option Value} {mg mb : Str → Option Value} {dp un : Nat} {gd : Option (List Code)} {cn : Str} {cs : Scope} {a : Addr} {ccd : Value} {cl : List (Str × Addr)} {outer : List Env} {A₀ : Around} {base h₀ : Heap} {L : Addr} {m : Str → Option Value} {news : List (Addr × Obj)} {s : Shared}
  {R : Result → Shared → Prop} {x : Str} {t : Tok} {self : Value}
  (X : (Mine.hd.heap_39 w.params).In h₀) (B : Below A₀ base outer h₀) (F : Fr h₀ L s.heap m) (N : News h₀ L s.heap news) (T : Top p loose mean mg mb h₀) (hk : cs.kind = .function) (hd : dp ≤ 637) (hu : un ≤ 170)
  (ok : okVal x = true)
  (ret : ∀ h' tk', Fr h₀ L h' m → News h₀ L h' news → R (.ok (.ret (.str x t))) {s with heap := h', toks := tk'}) :
  codeAny (model PySem.Challenge.rw_pg0268_01.row.prog w) (ktrTop dp un gd cn cs L a ccd cl outer) (.call (.ref 70) ⟨[self, .str x t], [("name", .bool false)]⟩) R s := by
  revert X; k_fill; intro X
  k_dflt ktr_enter
  k_steps
  exact ret _ _ (by k_asm) (cb_drop (by k_asm) (fun p h => by repeat (first | exact h | apply List.mem_cons_of_mem)))
end Mine
end

section
open PySem PySem.W PyProof.Rows
set_option Elab.async false
set_option maxRecDepth 100000
set_option maxHeartbeats 0
namespace Mine
/-- pairs of texts in the ledger -/
inductive PairsIn (news : List (Addr × Obj)) : List Value → List (Str × Str) → Prop
  | nil : PairsIn news [] []
  | cons (p : Addr) (x y : Str) (t u : Tok) {vs : List Value} {ps : List (Str × Str)} : (p, tupO [.str x t, .str y u]) ∈ news → PairsIn news vs ps → PairsIn news (.ref p :: vs) ((x, y) :: ps)
theorem PairsIn.length {news : List (Addr × Obj)} : ∀ {vs : List Value} {ps : List (Str × Str)}, PairsIn news vs ps → vs.length = ps.length
  | _, _, .nil => rfl
  | _, _, .cons _ _ _ _ _ _ r => by rw [List.length_cons, List.length_cons, r.length]
theorem PairsIn.get {news : List (Addr × Obj)} : ∀ {vs : List Value} {ps : List (Str × Str)} {i : Nat} {v : Value}, PairsIn news vs ps → vs[i]? = some v → ∃ p x y t u, v = .ref p ∧ (p, tupO [.str x t, .str y u]) ∈ news ∧ ps[i]? = some (x, y)
  | _, _, _, _, .nil, h => by simp at h
  | _, _, 0, _, .cons p x y t u m r, h => by simp at h; exact ⟨p, x, y, t, u, h.symm, m, rfl⟩
  | _, _, i + 1, _, .cons _ _ _ _ _ _ r, h => r.get (i := i) (by simpa using h)
theorem PairsIn.mono {news news' : List (Addr × Obj)} (hs : ∀ p ∈ news, p ∈ news') : ∀ {vs : List Value} {ps : List (Str × Str)}, PairsIn news vs ps → PairsIn news' vs ps
  | _, _, .nil => .nil
  | _, _, .cons p x y t u m r => .cons p x y t u (hs _ m) (r.mono hs)
section
variable {prog : Program} {w : World} {A : Around} {E : Value → Shared → Prop} {s : Shared} {env : Env} {h₀ : Heap} {Q : Flow → Shared → Prop}
def PairEnd (h₀ : Heap) (L : Addr) (it : Addr × Obj) (news : List (Addr × Obj)) (key : Str) (val : Value) (I' : Prop) (s₁ : Shared) (Q : Flow → Shared → Prop) (fl : Flow) (s₂ : Shared) : Prop :=
  match fl with
  | .ret v => Q (.ret v) s₂
  | .brk => False
  | _ => I' ∧ ∃ h' tk m' led, s₂ = { s₁ with heap := h', toks := tk } ∧ Fr h₀ L h' m' ∧ m' key = some val ∧ News h₀ L h' led ∧ it ∈ led ∧ (∀ p ∈ news, p ∈ led)
theorem PairEnd.next {L : Addr} {it : Addr × Obj} {news led : List (Addr × Obj)} {key : Str} {val : Value} {I' : Prop} {s₁ : Shared} {h' : Heap} {tk : Nat} {m' : Str → Option Value}
    (i : I') (F : Fr h₀ L h' m') (e : m' key = some val) (N : News h₀ L h' led) (hi : it ∈ led) (hs : ∀ p ∈ news, p ∈ led) : PairEnd h₀ L it news key val I' s₁ Q .next { s₁ with heap := h', toks := tk } :=
  ⟨i, h', tk, m', led, rfl, F, e, N, hi, hs⟩
theorem PairEnd.cont {L : Addr} {it : Addr × Obj} {news led : List (Addr × Obj)} {key : Str} {val : Value} {I' : Prop} {s₁ : Shared} {h' : Heap} {tk : Nat} {m' : Str → Option Value}
    (i : I') (F : Fr h₀ L h' m') (e : m' key = some val) (N : News h₀ L h' led) (hi : it ∈ led) (hs : ∀ p ∈ news, p ∈ led) : PairEnd h₀ L it news key val I' s₁ Q .cont { s₁ with heap := h', toks := tk } :=
  ⟨i, h', tk, m', led, rfl, F, e, N, hi, hs⟩
theorem PairEnd.ret {L : Addr} {it : Addr × Obj} {news : List (Addr × Obj)} {key : Str} {val v : Value} {I' : Prop} {s₁ s₂ : Shared} (h : Q (.ret v) s₂) : PairEnd h₀ L it news key val I' s₁ Q (.ret v) s₂ := h

theorem pairs_loop {target : PySem.Expr} {body : List Stmt} {hl : Addr} {vs : List Value} {ps : List (Str × Str)} {n : Nat} {m : Str → Option Value} {news : List (Addr × Obj)} {key : Str} {val : Value} (I : Nat → Prop)
    (hh : A.handled = none) (F : Fr h₀ env.locals s.heap m) (N : News h₀ env.locals s.heap news) (ml : (hl, listOf vs.toArray n) ∈ news) (hp : PairsIn news vs ps) (hm : m key = some val) (h0 : I 0)
    (step : ∀ i p x y t u (m₁ : Str → Option Value) h tk it io, ps[i]? = some (x, y) → I i → (p, tupO [.str x t, .str y u]) ∈ news → Fr h₀ env.locals h (fun z => if z = key then some val else m₁ z) → News h₀ env.locals h ((it, io) :: news) →
      wpAny (model prog w) A (assign target env (.ref p)) (fun _ s₂ => wpAny (model prog w) A (execs body env) (PairEnd h₀ env.locals (it, io) news key val (I (i + 1)) { s with heap := h, toks := tk } Q) E s₂) E { s with heap := h, toks := tk })
    (done : ∀ (m₁ : Str → Option Value) h tk, I ps.length → Fr h₀ env.locals h (fun z => if z = key then some val else m₁ z) → News h₀ env.locals h news → Q .next { s with heap := h, toks := tk })
    (hE : PassesOwn (model prog w) A env E) :
    wpAny (model prog w) A (pyIter (.ref hl)) (fun it s₂ => LoopK prog w A env target body Q E it s₂) E s := by
  have hfun : ∀ m' : Str → Option Value, m' key = some val → m' = fun z => if z = key then some val else m' z := fun m' e => by
    funext z
    by_cases hz : z = key
    · rw [if_pos hz, hz, e]
    · rw [if_neg hz]
  refine iter_list_K (vs := vs) (n := n) hh F N (fun i m' nx => nx = news ∧ m' key = some val ∧ I i) ⟨rfl, hm, h0⟩ ?_ ?_ ?_ hE
  · rintro i m' nx ⟨rfl, _⟩
    exact ml
  · rintro i v m₁ nx h tk it io hv ⟨rfl, e, hI⟩ hit F₁ N₁
    obtain ⟨p, x, y, t, u, rfl, hmem, hps⟩ := hp.get hv
    rw [hfun m₁ e] at F₁
    refine wpAny_mono (step i p x y t u m₁ h tk it io hps hI hmem F₁ N₁) (fun _ s₂ h₂ => wpAny_mono h₂ (fun f s₃ h₃ => ?_) fun _ _ e => e) fun _ _ e => e
    unfold PairEnd at h₃
    cases f with
    | ret v => exact h₃
    | brk => exact h₃.elim
    | next =>
      obtain ⟨hI', h', tk', m', led, rfl, F', e', N', a1, a2⟩ := h₃
      exact EndK.next (Q := Q) nx F' N' a1 a2 hit ⟨rfl, e', hI'⟩
    | cont =>
      obtain ⟨hI', h', tk', m', led, rfl, F', e', N', a1, a2⟩ := h₃
      exact EndK.next (Q := Q) nx F' N' a1 a2 hit ⟨rfl, e', hI'⟩
  · rintro m' nx h tk ⟨rfl, e, hI⟩ F₁ N₁
    rw [hp.length] at hI
    rw [hfun m' e] at F₁
    exact done m' h tk hI F₁ N₁
end
abbrev entO (hsh : Int) (kt : Tok) (hl : Addr) : List DictEntry := [⟨hsh, .str (Str.ofString "_headers") kt, .ref hl⟩]
theorem wl_C10_1 : True := by
  k_with_none
  k_with "enter dflt" => (refine' code_def ?wqk1 ?wqk2 ?wqk3 ?wqk4 ?wqk5 ?wqkA ?wqkF ?wqkK ?wqk6 ?wqk7 ?wqk8 ?wqk9 ?wqkB ?_ ?wqc2 ?wqc3 ?wqc4 ?wqc5; (case wqkA => exact rfl); (case wqkF => exact rfl); (case wqkK => assumption); (case wqk1 => k_asm); (case wqk2 => k_asm); (case wqk3 => k_asm); (case wqk4 => k_asm); (case wqk5 => k_asm); (case wqk6 => k_is); (case wqk7 => k_is); (case wqk8 => ktr_room); (case wqk9 => exact binds_K (by k_in) rfl (by k_is) rfl rfl rfl); (case wqc5 => decide); (case wqkB => exact locs rfl); (case wqc2 => exact rfl); (case wqc3 => exact rfl); (case wqc4 => exact rfl); k_whole; intro g' L' h' FG' F' N' B' X' T'; (try dsimp only); (try k_fold))
  exact True.intro
local macro_rules | `(tactic| k_mem) => `(tactic| assumption)
local macro_rules | `(tactic| k_all) => `(tactic| assumption)
theorem wl_C10_2 : True := by
  k_with "call ref" => (k_here; k_dflt (refine wpAny_call ?_; refine' t_conv_name _ ?wqX ?wqB ?wqF ?wqN ?wqT ?wqk ?wqd ?wqu ?wqok ?_; (case wqX => k_asm); (case wqB => k_asm); (case wqF => k_asm); (case wqN => k_asm); (case wqT => k_asm); (case wqk => rfl); (case wqd => (dsimp only; omega)); (case wqu => (dsimp only; omega)); (case wqok => assumption)); intro h' tk' F' N'; (try dsimp only); (try k_sweep))
  k_with "call ref" => (k_here; k_dflt (refine wpAny_call ?_; refine' t_conv_val _ ?wqX ?wqB ?wqF ?wqN ?wqT ?wqk ?wqd ?wqu ?wqok ?_; (case wqX => k_asm); (case wqB => k_asm); (case wqF => k_asm); (case wqN => k_asm); (case wqT => k_asm); (case wqk => rfl); (case wqd => (dsimp only; omega)); (case wqu => (dsimp only; omega)); (case wqok => assumption)); intro h' tk' F' N'; (try dsimp only); (try k_sweep))
  exact True.intro
theorem t_init (w : World) {p : Program} {loose : List Str} {mean : ExcName → Option Value} {mg mb : Str → Option Value} {dp un : Nat} {gd : Option (List Code)} {cn : Str} {cs : Scope} {a : Addr} {ccd : Value} {cl : List (Str × Addr)} {outer : List Env} {A₀ : Around} {base h₀ : Heap} {L : Addr} {m : Str → Option Value} {news : List (Addr × Obj)} {s : Shared}
  {R : Result → Shared → Prop} {tb td hl : Addr} {k : Nat} {vs : List Value} {ps : List (Str × Str)}
  (X : (Mine.hd.heap_39 w.params).In h₀) (B : Below A₀ base outer h₀) (F : Fr h₀ L s.heap m) (N : News h₀ L s.heap ((tb, instObj 169 td) :: (td, dictOf [] 0) :: news)) (T : Top p loose mean mg mb h₀) (hk : cs.kind = .function) (hd : dp ≤ 635) (hu : un ≤ 160)
  (l1 : ∀ p ∈ news, p.1 ≠ td) (l2 : @LT.lt Nat _ td tb) (m3 : (hl, listOf vs.toArray k) ∈ news) (hp : PairsIn news vs ps) (hn : ∀ q ∈ ps, okName q.1 = true ∧ okVal q.2 = true)
  (ret : ∀ hsh kt h' tk', Fr h₀ L h' m → News h₀ L h' ((tb, instObj 169 td) :: (td, dictOf (entO hsh kt hl) 1) :: news) → R (.ok (.ret .none)) {s with heap := h', toks := tk'}) :
  codeAny (model PySem.Challenge.rw_pg0268_01.row.prog w) (ktrTop dp un gd cn cs L a ccd cl outer) (.call (.ref 63) ⟨[.ref tb, .ref hl], []⟩) R s := by
  revert X; k_fill; intro X
  k_dflt walk_at "enter dflt"
  k_steps
  refine For_K ?_ (by intro _; rfl)
  k_steps
  refine pairs_loop (key := Str.ofString "self") (val := .ref tb) (fun _ => True) rfl (by k_asm) (by k_asm) (List.mem_cons_of_mem _ (List.mem_cons_of_mem _ m3)) (hp.mono fun p h => List.mem_cons_of_mem _ (List.mem_cons_of_mem _ h)) rfl trivial ?_ ?_ (by passes_own)
  · intro i p x y t u m₁ h tk it io hi _ hm F₁ N₁
    have ok1 := (hn _ (List.mem_of_getElem? hi)).1
    have ok2 := (hn _ (List.mem_of_getElem? hi)).2
    dsimp only at ok1 ok2
    have hm' := List.mem_cons_of_mem (it, io) hm
    k_steps
    exact PairEnd.next trivial (by k_asm) rfl (by k_asm) (List.mem_cons_self ..) (fun p h => by repeat (first | exact h | apply List.mem_cons_of_mem))
  · intro m₁ h tk _ F₁ N₁
    k_steps
    exact ret _ _ _ _ (by k_asm) (by k_asm)
end Mine
end

section
open PySem PySem.W PyProof.Rows
set_option Elab.async false
set_option maxRecDepth 100000
set_option maxHeartbeats 0
namespace Mine
def look (ps : List (Str × Str)) (y : Str) : Option Str := (ps.find? fun q => decide (PySem.Txt.lower q.1 = y)).map (·.2)
theorem wl_C11_1 : True := by
  k_with_none
  k_with "enter dflt" => (refine' code_def ?wqk1 ?wqk2 ?wqk3 ?wqk4 ?wqk5 ?wqkA ?wqkF ?wqkK ?wqk6 ?wqk7 ?wqk8 ?wqk9 ?wqkB ?_ ?wqc2 ?wqc3 ?wqc4 ?wqc5; (case wqkA => exact rfl); (case wqkF => exact rfl); (case wqkK => assumption); (case wqk1 => k_asm); (case wqk2 => k_asm); (case wqk3 => k_asm); (case wqk4 => k_asm); (case wqk5 => k_asm); (case wqk6 => k_is); (case wqk7 => k_is); (case wqk8 => ktr_room); (case wqk9 => exact binds_K (by k_in) rfl (by k_is) rfl rfl rfl); (case wqc5 => decide); (case wqkB => exact locs rfl); (case wqc2 => exact rfl); (case wqc3 => exact rfl); (case wqc4 => exact rfl); k_whole; intro g' L' h' FG' F' N' B' X' T'; (try dsimp only); (try k_fold))
  exact True.intro
local macro_rules | `(tactic| k_mem) => `(tactic| assumption)
local macro_rules | `(tactic| k_all) => `(tactic| assumption)
theorem wl_C11_2 : True := by
  k_with "call ref" => (k_here; k_dflt (refine wpAny_call ?_; refine' t_conv_name _ ?wqX ?wqB ?wqF ?wqN ?wqT ?wqk ?wqd ?wqu ?wqok ?_; (case wqX => k_asm); (case wqB => k_asm); (case wqF => k_asm); (case wqN => k_asm); (case wqT => k_asm); (case wqk => rfl); (case wqd => (dsimp only; omega)); (case wqu => (dsimp only; omega)); (case wqok => assumption)); intro h' tk' F' N'; (try dsimp only); (try k_sweep))
  exact True.intro
def NoneYet (ps : List (Str × Str)) (y : Str) (i : Nat) : Prop := ∀ j q, j < i → ps[j]? = some q → PySem.Txt.lower q.1 ≠ y
theorem NoneYet.zero {ps : List (Str × Str)} {y : Str} : NoneYet ps y 0 := fun _ _ h => absurd h (Nat.not_lt_zero _)
theorem NoneYet.succ {ps : List (Str × Str)} {y a b : Str} {i : Nat} (h : NoneYet ps y i) (e : ps[i]? = some (a, b)) (ne : PySem.Txt.lower a ≠ y) : NoneYet ps y (i + 1) := fun j q hj hq => by
  by_cases hji : j = i
  · subst hji; rw [e] at hq; cases hq; exact ne
  · exact h j q (by omega) hq
theorem look_at {ps : List (Str × Str)} {y a b v : Str} {i : Nat} (h : NoneYet ps y i) (e : ps[i]? = some (a, b)) (he : PySem.Txt.lower a = y) (hv : look ps y = some v) : b = v := by
  unfold look at hv
  rw [Option.map_eq_some_iff] at hv
  obtain ⟨q, hq, rfl⟩ := hv
  rw [List.find?_eq_some_iff_getElem] at hq
  obtain ⟨h1, j, hj, rfl, h2⟩ := hq
  rw [decide_eq_true_eq] at h1
  have hji : j = i := by
    rcases Nat.lt_trichotomy j i with hl | hl | hl
    · exact absurd h1 (h j _ hl (List.getElem?_eq_getElem hj))
    · exact hl
    · obtain ⟨hi, hi'⟩ := List.getElem?_eq_some_iff.mp e
      have := h2 i hl
      rw [hi'] at this
      simp [he] at this
  subst hji
  rw [List.getElem?_eq_getElem hj] at e
  rw [Option.some.inj e]
theorem look_none {ps : List (Str × Str)} {y v : Str} (h : NoneYet ps y ps.length) (hv : look ps y = some v) : False := by
  unfold look at hv
  rw [Option.map_eq_some_iff] at hv
  obtain ⟨q, hq, rfl⟩ := hv
  rw [List.find?_eq_some_iff_getElem] at hq
  obtain ⟨h1, j, hj, rfl, _⟩ := hq
  rw [decide_eq_true_eq] at h1
  exact h j _ hj (List.getElem?_eq_getElem hj) h1
theorem ne_of_beqf {a b : Str} (h : (a == b) = false) : a ≠ b := fun e => by rw [e] at h; simp at h
theorem t_get (w : World) {p : Program} {loose : List Str} {mean : ExcName → Option Value} {mg mb : Str → Option Value} {dp un : Nat} {gd : Option (List Code)} {cn : Str} {cs : Scope} {a : Addr} {ccd : Value} {cl : List (Str × Addr)} {outer : List Env} {A₀ : Around} {base h₀ : Heap} {L : Addr} {m : Str → Option Value} {news : List (Addr × Obj)} {s : Shared}
  {R : Result → Shared → Prop} {x y : Str} {t : Tok} {tb td hl : Addr} {hsh : Int} {kt : Tok} {n k : Nat} {vs : List Value} {ps : List (Str × Str)}
  (X : (Mine.hd.heap_39 w.params).In h₀) (B : Below A₀ base outer h₀) (F : Fr h₀ L s.heap m) (N : News h₀ L s.heap news) (T : Top p loose mean mg mb h₀) (hk : cs.kind = .function) (hd : dp ≤ 635) (hu : un ≤ 160)
  (m1 : (tb, instObj 169 td) ∈ news) (m2 : (td, dictOf (entO hsh kt hl) n) ∈ news) (m3 : (hl, listOf vs.toArray k) ∈ news) (hp : PairsIn news vs ps) (hz : ∀ q ∈ ps, q.1.length ≤ 100)
  (hx : x.length ≤ 100) (ok : okName (PySem.Txt.lower x) = true) (hy : look ps (PySem.Txt.lower x) = some y)
  (ret : ∀ u h' tk', Fr h₀ L h' m → News h₀ L h' news → R (.ok (.ret (.str y u))) {s with heap := h', toks := tk'}) :
  codeAny (model PySem.Challenge.rw_pg0268_01.row.prog w) (ktrTop dp un gd cn cs L a ccd cl outer) (.call (.ref 116) ⟨[.ref tb, .str x t], []⟩) R s := by
  revert X; k_fill; intro X
  k_dflt walk_at "enter dflt"
  k_steps
  refine For_K ?_ (by intro _; rfl)
  k_steps
  refine pairs_loop (key := Str.ofString "name") (NoneYet ps (PySem.Txt.lower x)) rfl (by k_asm) (by k_asm) m3 hp rfl NoneYet.zero ?_ ?_ (by passes_own)
  · intro i p a b t u m₁ h tk it io hi hI hm F₁ N₁
    have hz' := hz _ (List.mem_of_getElem? hi)
    dsimp only at hz'
    have hm' := List.mem_cons_of_mem (it, io) hm
    k_steps
    · dsimp only
      refine PairEnd.ret ?_
      dsimp only
      have e := look_at hI hi (by simpa using ‹(PySem.Txt.lower a == PySem.Txt.lower x) = true›) hy
      subst e
      k_steps
      exact ret _ _ _ (by k_asm) (cb_drop (by k_asm) (fun p h => by repeat (first | exact h | apply List.mem_cons_of_mem)))
    · refine PairEnd.next (hI.succ hi ?_) (by k_asm) rfl (by k_asm) (List.mem_cons_self ..) (fun p h => by repeat (first | exact h | apply List.mem_cons_of_mem))
      exact ne_of_beqf ‹(PySem.Txt.lower a == PySem.Txt.lower x) = false›
  · intro m₁ h tk hI F₁ N₁
    exact (look_none hI hy).elim
theorem wl_C11_3 : True := by
  k_with "call ref" => (k_here; k_dflt (refine wpAny_call ?_; refine' t_get _ ?wqX ?wqB ?wqF ?wqN ?wqT ?wqk ?wqd ?wqu ?wqm1 ?wqm2 ?wqm3 ?wqhp ?wqhz ?wqhx ?wqok ?wqhy ?_; (case wqX => k_asm); (case wqB => k_asm); (case wqF => k_asm); (case wqN => k_asm); (case wqT => k_asm); (case wqk => rfl); (case wqd => (dsimp only; omega)); (case wqu => (dsimp only; omega)); (case wqm1 => assumption); (case wqm2 => assumption); (case wqm3 => assumption); (case wqhp => assumption); (case wqhz => assumption); (case wqhx => assumption); (case wqok => assumption); (case wqhy => assumption)); intro u' h' tk' F' N'; (try dsimp only); (try k_sweep))
  exact True.intro
theorem t_getitem (w : World) {p : Program} {loose : List Str} {mean : ExcName → Option Value} {mg mb : Str → Option Value} {dp un : Nat} {gd : Option (List Code)} {cn : Str} {cs : Scope} {a : Addr} {ccd : Value} {cl : List (Str × Addr)} {outer : List Env} {A₀ : Around} {base h₀ : Heap} {L : Addr} {m : Str → Option Value} {news : List (Addr × Obj)} {s : Shared}
  {R : Result → Shared → Prop} {x y : Str} {t : Tok} {tb td hl : Addr} {hsh : Int} {kt : Tok} {n k : Nat} {vs : List Value} {ps : List (Str × Str)}
  (X : (Mine.hd.heap_39 w.params).In h₀) (B : Below A₀ base outer h₀) (F : Fr h₀ L s.heap m) (N : News h₀ L s.heap news) (T : Top p loose mean mg mb h₀) (hk : cs.kind = .function) (hd : dp ≤ 630) (hu : un ≤ 150)
  (m1 : (tb, instObj 169 td) ∈ news) (m2 : (td, dictOf (entO hsh kt hl) n) ∈ news) (m3 : (hl, listOf vs.toArray k) ∈ news) (hp : PairsIn news vs ps) (hz : ∀ q ∈ ps, q.1.length ≤ 100)
  (hx : x.length ≤ 100) (ok : okName (PySem.Txt.lower x) = true) (hy : look ps (PySem.Txt.lower x) = some y)
  (ret : ∀ u h' tk', Fr h₀ L h' m → News h₀ L h' news → R (.ok (.ret (.str y u))) {s with heap := h', toks := tk'}) :
  codeAny (model PySem.Challenge.rw_pg0268_01.row.prog w) (ktrTop dp un gd cn cs L a ccd cl outer) (.call (.ref 96) ⟨[.ref tb, .str x t], []⟩) R s := by
  revert X; k_fill; intro X
  k_dflt ktr_enter
  k_steps
  exact ret _ _ _ (by k_asm) (by k_asm)
end Mine
end

section
open PySem PySem.W PyProof.Rows
set_option Elab.async false
set_option maxRecDepth 100000
set_option maxHeartbeats 0
namespace Mine
def txtOf : Option Value → Str
  | some (.str a _) => a
  | _ => ""
def itsOf (o : Option Obj) : Array Value := match o with
  | some o => match o.data with
    | .seq its _ => its
    | _ => #[]
  | none => #[]
def pairAt (h : Heap) (v : Value) : Str × Str :=
  match v with
  | .ref p => (txtOf (itsOf (h.get? p))[0]?, txtOf (itsOf (h.get? p))[1]?)
  | _ => ("", "")
theorem pairAt_of {h : Heap} {p : Addr} {x y : Str} {t u : Tok} (e : h.get? p = some (tupO [.str x t, .str y u])) : pairAt h (.ref p) = (x, y) := by
  unfold pairAt
  simp only [e]
  rfl
theorem PairsIn.map {h₀ h : Heap} {L : Addr} {news : List (Addr × Obj)} (N : News h₀ L h news) : ∀ {vs : List Value} {ps : List (Str × Str)}, PairsIn news vs ps → vs.map (pairAt h) = ps
  | _, _, .nil => rfl
  | _, _, .cons p x y t u m r => by rw [List.map_cons, pairAt_of (N.get m), r.map N]
/-- texts -/
inductive StrsAre : List Value → List Str → Prop
  | nil : StrsAre [] []
  | cons (x : Str) (t : Tok) {vs : List Value} {xs : List Str} : StrsAre vs xs → StrsAre (.str x t :: vs) (x :: xs)
theorem StrsAre.length : ∀ {vs : List Value} {xs : List Str}, StrsAre vs xs → vs.length = xs.length
  | _, _, .nil => rfl
  | _, _, .cons _ _ r => by rw [List.length_cons, List.length_cons, r.length]
theorem strs_of {f : Value → Str} {led : List (Addr × Obj)} : ∀ {vs ys : List Value}, Paired (fun v y => ∃ nw : List (Addr × Obj), (∀ q ∈ nw, q ∈ led) ∧ ∃ u, y = Value.str (f v) u) vs ys → StrsAre ys (vs.map f)
  | _, _, .nil => .nil
  | _, _, .cons ⟨_, _, u, e⟩ r => by rw [e, List.map_cons]; exact .cons _ _ (strs_of r)
def hits (ps : List (Str × Str)) (y : Str) : List Str := (ps.filter fun q => decide (PySem.Txt.lower q.1 = y)).map (·.2)
theorem hits_of {h : Heap} {vs : List Value} {ps : List (Str × Str)} {y : Str} (e : vs.map (pairAt h) = ps) : (vs.filter fun v => decide (PySem.Txt.lower (pairAt h v).1 = y)).map (fun v => (pairAt h v).2) = hits ps y := by
  subst e
  unfold hits
  rw [List.filter_map, List.map_map]
  rfl
theorem wl_C12_1 : True := by
  k_with_none
  k_with "enter cells" => (
      refine' code_defC ?wqk1 ?wqk2 ?wqk3 ?wqk4 ?wqk5 ?wqkA ?wqkF ?wqkK ?wqk6 ?wqk7 ?wqk8 ?wqk9 ?wqkB ?wqkD ?_ ?wqc2 ?wqc3 ?wqc4; (case wqkA => exact rfl); (case wqkF => exact rfl); (case wqkK => assumption); (case wqk1 => k_asm); (case wqk2 => k_asm); (case wqk3 => k_asm); (case wqk4 => k_asm); (case wqk5 => k_asm); (case wqk6 => k_is); (case wqk7 => k_is); (case wqk8 => ktr_room)
      (case wqk9 => exact BindsTo.of_eq rfl); (case wqkB => exact rfl); (case wqkD => decide +kernel); (case wqc2 => exact rfl); (case wqc3 => exact rfl); (case wqc4 => exact rfl); intro gZ LZ hZ tkZ cellsZ FG' F' N' YZ B' X' T' lZ; k_cells YZ; (try simp only [List.cons_append, List.nil_append] at N'); (try dsimp only))
  exact True.intro
local macro_rules | `(tactic| k_mem) => `(tactic| assumption)
local macro_rules | `(tactic| k_all) => `(tactic| assumption)
theorem wl_C12_2 : True := by
  k_with "call ref" => (k_here; k_dflt (refine wpAny_call ?_; refine' t_conv_name _ ?wqX ?wqB ?wqF ?wqN ?wqT ?wqk ?wqd ?wqu ?wqok ?_; (case wqX => k_asm); (case wqB => k_asm); (case wqF => k_asm); (case wqN => k_asm); (case wqT => k_asm); (case wqk => rfl); (case wqd => (dsimp only; omega)); (case wqu => (dsimp only; omega)); (case wqok => assumption)); intro _ _ _ _; (try dsimp only); (try k_sweep))
  k_with "eval ListComp" => (k_here; k_dflt (refine' comp_expr ?wqhc ?wqhk ?wqhn ?wqhs ?_; (case wqhc => with_unfolding_all rfl); (case wqhk => rfl); (case wqhn => decide); (case wqhs => intro _; with_unfolding_all rfl)))
  k_with "eval Name" => (k_here; (with_reducible show wpAny _ _ (eval (Expr.Name _ _) (compEnvC _ _ _ _)) _ _ _); k_dflt (first
      | (refine' block_local ?wqN ?wqm ?wqn ?wqv ?_ ?wqk ?wql ?wqd; (case wqk => rfl); (case wql => rfl); (case wqd => decide); (case wqN => k_asm); (case wqm => k_mem); (case wqn => assumption); (case wqv => first | assumption | rfl))
      | (refine' block_cell ?wqN ?wqc ?wqm ?wqo ?_ ?wqk ?wql ?wqd; (case wqk => rfl); (case wql => rfl); (case wqd => decide); (case wqN => k_asm); (case wqc => rfl); (case wqm => k_mem); (case wqo => assumption))))
  exact True.intro
theorem t_get_all (w : World) {p : Program} {loose : List Str} {mean : ExcName → Option Value} {mg mb : Str → Option Value} {dp un : Nat} {gd : Option (List Code)} {cn : Str} {cs : Scope} {a : Addr} {ccd : Value} {cl : List (Str × Addr)} {outer : List Env} {A₀ : Around} {base h₀ : Heap} {L : Addr} {m : Str → Option Value} {news : List (Addr × Obj)} {s : Shared}
  {R : Result → Shared → Prop} {x : Str} {t : Tok} {tb td hl : Addr} {hsh : Int} {kt : Tok} {n k : Nat} {vs : List Value} {ps : List (Str × Str)}
  (X : (Mine.hd.heap_39 w.params).In h₀) (B : Below A₀ base outer h₀) (F : Fr h₀ L s.heap m) (N : News h₀ L s.heap news) (T : Top p loose mean mg mb h₀) (hk : cs.kind = .function) (hd : dp ≤ 630) (hu : un ≤ 150)
  (m1 : (tb, instObj 169 td) ∈ news) (m2 : (td, dictOf (entO hsh kt hl) n) ∈ news) (m3 : (hl, listOf vs.toArray k) ∈ news) (hp : PairsIn news vs ps) (hz : ∀ q ∈ ps, q.1.length ≤ 100) (hz2 : ps.length ≤ 1000)
  (hx : x.length ≤ 100) (ok : okName (PySem.Txt.lower x) = true)
  (ret : ∀ D ys k' h' tk', StrsAre ys (hits ps (PySem.Txt.lower x)) → Fr h₀ L h' m → News h₀ L h' ((D, listOf (ys : List Value).toArray k') :: news) → (∀ p ∈ news, p.1 < D) → R (.ok (.ret (.ref D))) {s with heap := h', toks := tk'}) :
  codeAny (model PySem.Challenge.rw_pg0268_01.row.prog w) (ktrTop dp un gd cn cs L a ccd cl outer) (.call (.ref 108) ⟨[.ref tb, .str x t], []⟩) R s := by
  revert X; k_fill; intro X
  k_dflt walk_at "enter cells"
  have lZ1 : ∀ p ∈ news, p.1 ≠ LZ + 1 := fun p h => Nat.ne_of_lt (Nat.lt_succ_of_lt (lZ p h))
  k_steps
  rename_i hH oH FH NH dH
  have eP := (hp.mono (fun q h => List.mem_cons_of_mem _ h)).map NH
  refine comp_src (src_list rfl (by k_asm) (by k_asm) (List.mem_cons_of_mem _ m3)) (fun v => decide (PySem.Txt.lower (pairAt hH v).1 = PySem.Txt.lower x)) (fun v y _ => ∃ u, y = .str (pairAt hH v).2 u) (tests_one ?_) ?_ ?_ (by rw [hp.length]; omega) (by decide) rfl rfl
  · intro C i v co m₂ tl s₃ E' hi hP hn hm F₁ N₁ hs
    obtain ⟨pa, x', y', t', u', rfl, hmem, hps⟩ := hp.get hP
    have hz' := hz _ (List.mem_of_getElem? hps)
    dsimp only at hz'
    have e1 := pairAt_of (NH.get (List.mem_cons_of_mem _ hmem))
    have h1 := List.mem_cons_of_mem (C, co) (hs _ (List.mem_cons_of_mem _ hmem))
    have h2 := List.mem_cons_of_mem (C, co) (hs _ (List.mem_cons_self ..))
    rw [e1]
    k_steps
    exact TestEnd.intro (Bool.beq_eq_decide_eq _ _) (by k_asm) (by k_asm) (fun _ h => h)
  · intro C i v co m₂ tl s₃ E' hi hP hp' hn hm F₁ N₁ hs
    obtain ⟨pa, x', y', t', u', rfl, hmem, hps⟩ := hp.get hP
    have e1 := pairAt_of (NH.get (List.mem_cons_of_mem _ hmem))
    have h1 := List.mem_cons_of_mem (C, co) (hs _ (List.mem_cons_of_mem _ hmem))
    have h2 := List.mem_cons_of_mem (C, co) (hs _ (List.mem_cons_self ..))
    k_steps
    exact EltEnd.plain (by k_asm) (by k_asm) (fun _ h => h) ⟨u', by rw [e1]⟩
  · intro D h' tk' k' ys vs' led F₁ N₁ hs hlt hlen hP hF
    have e2 : vs' = vs := same_list hlen hP
    subst e2
    have e3 := strs_of hF
    rw [hits_of eP] at e3
    k_steps
    exact ret _ _ _ _ _ e3 (by k_asm) (cb_drop (by k_asm) (sub_cons fun p h => hs _ (List.mem_cons_of_mem _ h))) (fun p h => hlt _ (List.mem_cons_of_mem _ h))
end Mine
end

section
open PySem PySem.W PyProof.Rows
set_option Elab.async false
set_option maxRecDepth 100000
namespace Mine
section
variable {prog : Program} {w : World} {A : Around} {E : Value → Shared → Prop} {s : Shared}
theorem mapSeq_listOf (f : Array Value → Array Value) (items : Array Value) (k : Nat) : ∃ k', Obj.mapSeq f (listOf items k) = listOf (f items) k' := ⟨_, rfl⟩
theorem set_all {l sl D : Addr} {items new : Array Value} {k kd : Nat} {Q : Unit → Shared → Prop} (hl : s.heap.get? l = some (listOf items k)) (hs : s.heap.IsSliceOf sl .none .none .none) (hD : s.heap.get? D = some (listOf new kd)) (hne : l ≠ D)
    (hz : items.size ≤ 10000) (hz2 : new.size ≤ 10000)
    (h : ∀ h' k', h'.get? l = some (listOf new k') → Heap.SameBut l s.heap h' → Q () { s with heap := h' }) : wpAny (model prog w) A (setItem (.ref l) (.ref sl) (.ref D)) Q E s := by
  obtain ⟨os, hos, hcs, hds⟩ := id hs
  have hTs : s.TypeIs (.ref sl) "slice" := ⟨os, hos, hcs⟩
  have hTl : s.TypeIs (.ref l) "list" := ⟨_, hl, rfl⟩
  have hTD : s.TypeIs (.ref D) "list" := ⟨_, hD, rfl⟩
  unfold setItem
  try with_reducible refine wpAny_holding ?_
  first | refine wpAny_bind (wpAny_pure ?_) | skip
  refine wpAny_bind (wpAny_sequenceKey hTl (by decide) ?_)
  refine wpAny_bind (wpAny_callSpecial?_slot (name := Str.ofString "__setitem__") hTl slot_list_setitem
    (wpAny_call_entry slot_list_setitem hTl entry_list_setitem ?_ (args_list_setitem _ _ _)))
  show wpAny _ _ (Builtin.List.listSubscript? (.ref sl) >>= _) _ _ s
  refine wpAny_bind ?_
  unfold Builtin.List.listSubscript?
  refine wpAny_bind (wpAny_specialOf hTs slice_no_index ?_)
  simp only [Option.isNone_none, if_true]
  refine wpAny_pure ?_
  show wpAny _ _ (typeOf (.ref sl) >>= _) _ _ s
  refine wpAny_bind (wpAny_typeOf hTs ?_)
  rw [if_neg (by decide)]
  rw [listSliceParts_eq]
  have hstep : ¬ ((rawPart none == rawInt 0) = true) := Bool.false_ne_true
  refine wpAny_bind (wpAny_bind (wpAny_field hos hds (x := .none) rfl (wpAny_bind (wpAny_listPart .none ?_))))
  rw [if_neg hstep]
  refine wpAny_bind (wpAny_field hos hds (x := .none) rfl (wpAny_bind (wpAny_listPart .none ?_)))
  refine wpAny_bind (wpAny_field hos hds (x := .none) rfl (wpAny_bind (wpAny_listPart .none (wpAny_pure ?_))))
  have hsame : Builtin.List.listSameRef (.ref l) (.ref D) = false := by
    show (l == D) = false
    simpa using hne
  rw [hsame]
  rw [if_neg Bool.false_ne_true]
  refine wpAny_bind ?_
  unfold Builtin.List.listAllItems
  refine wpAny_bind (wpAny_typeOf hTD ?_)
  rw [if_pos (by decide)]
  refine wpAny_bind (wpAny_seqItems hD rfl (wpAny_pure ?_))
  refine wpAny_bind (listItems_at hl rfl ?_)
  refine wpAny_bind (wpAny_of_eq (sliceIndices_raw none none none items.size (by simp)) ?_)
  have hb : sliceBounds none none none items.size = (0, (items.size : Int), 1) := rfl
  rw [hb]
  dsimp only
  rw [if_pos (by decide)]
  refine wpAny_bind (wpAny_rule ?_)
  have hlong : ¬ (Builtin.List.listTooLong (items.size + new.size) = true) := by
    unfold Builtin.List.listTooLong
    rw [sizeLine_eq]
    simp
    omega
  rw [if_neg hlong]
  have hf : items.extract 0 (0 : Int).toNat ++ new ++ items.extract (max (0 : Int) (items.size : Int)).toNat items.size = new := by
    have e1 : (max (0 : Int) (items.size : Int)).toNat = items.size := by omega
    rw [e1]
    simp
  refine wpAny_bind (listUpdate_at hl rfl ?_ (by rw [sizeLine_eq]; omega) (by rw [hf, sizeLine_eq]; omega))
  refine wpAny_bind (wpAny_letGo ?_)
  obtain ⟨k', hk'⟩ := mapSeq_listOf (fun xs => xs.extract 0 (0 : Int).toNat ++ new ++ xs.extract (max (0 : Int) (items.size : Int)).toNat xs.size) items k
  have hk2 := hk'.trans (congrArg (listOf · k') hf)
  refine wpAny_pure ⟨.none, rfl, wpAny_pure (h _ k' ?_ (Heap.SameBut.update ..))⟩
  exact (Heap.get?_update_self _ hl (by rw [hk2]; rfl)).trans (congrArg some hk2)
theorem set_all_K {h₀ : Heap} {L l D : Addr} {m : Str → Option Value} {news : List (Addr × Obj)} (rest : List (Addr × Obj)) {items new : Array Value} {k kd : Nat} {Q : Unit → Shared → Prop} (F : Fr h₀ L s.heap m) (N : News h₀ L s.heap news)
    (hl : (l, listOf items k) ∈ news) (hD : (D, listOf new kd) ∈ news) (hr : ∀ p ∈ rest, p ∈ news ∧ p.1 ≠ l) (hne : l ≠ D) (hz : items.size ≤ 10000) (hz2 : new.size ≤ 10000)
    (h : ∀ h' k', Fr h₀ L h' m → News h₀ L h' ((l, listOf new k') :: rest) → Q () { s with heap := h' }) :
    wpAny (model prog w) A (setItem (.ref l) (.ref s.heap.objs.size) (.ref D)) Q E { s with heap := s.heap.push { cls := .type "slice", data := .fields #[.none, .none, .none] } } := by
  refine set_all (s := { s with heap := s.heap.push { cls := .type "slice", data := .fields #[.none, .none, .none] } }) (Heap.get?_push_of_some _ (N.get hl)) (Heap.IsSliceOf.new ..) (Heap.get?_push_of_some _ (N.get hD)) hne hz hz2 fun h' k' hg hs => ?_
  refine h h' k' ((F.push _).change hs (N _ hl).2.1 (N _ hl).2.2) fun p hp => ?_
  rcases List.mem_cons.mp hp with rfl | hp
  · exact ⟨hg, (N _ hl).2⟩
  · obtain ⟨h1, h2⟩ := hr p hp
    exact ⟨hs.extBut _ _ h2 (Heap.get?_push_of_some _ (N _ h1).1), (N _ h1).2⟩
end
end Mine
end

section
open PySem PySem.W PyProof.Rows
set_option Elab.async false
set_option maxRecDepth 100000
set_option maxHeartbeats 0
namespace Mine
theorem wl_C13_1 : True := by
  k_with_none
  k_with "enter cells" => (
      refine' code_defC ?wqk1 ?wqk2 ?wqk3 ?wqk4 ?wqk5 ?wqkA ?wqkF ?wqkK ?wqk6 ?wqk7 ?wqk8 ?wqk9 ?wqkB ?wqkD ?_ ?wqc2 ?wqc3 ?wqc4; (case wqkA => exact rfl); (case wqkF => exact rfl); (case wqkK => assumption); (case wqk1 => k_asm); (case wqk2 => k_asm); (case wqk3 => k_asm); (case wqk4 => k_asm); (case wqk5 => k_asm); (case wqk6 => k_is); (case wqk7 => k_is); (case wqk8 => ktr_room)
      (case wqk9 => exact BindsTo.of_eq rfl); (case wqkB => exact rfl); (case wqkD => decide +kernel); (case wqc2 => exact rfl); (case wqc3 => exact rfl); (case wqc4 => exact rfl); intro gZ LZ hZ tkZ cellsZ FG' F' N' YZ B' X' T' lZ; k_cells YZ; (try simp only [List.cons_append, List.nil_append] at N'); (try dsimp only))
  exact True.intro
local macro_rules | `(tactic| k_mem) => `(tactic| assumption)
local macro_rules | `(tactic| k_all) => `(tactic| assumption)
theorem wl_C13_2 : True := by
  k_with "call ref" => (k_here; k_dflt (refine wpAny_call ?_; refine' t_conv_name _ ?wqX ?wqB ?wqF ?wqN ?wqT ?wqk ?wqd ?wqu ?wqok ?_; (case wqX => k_asm); (case wqB => k_asm); (case wqF => k_asm); (case wqN => k_asm); (case wqT => k_asm); (case wqk => rfl); (case wqd => (dsimp only; omega)); (case wqu => (dsimp only; omega)); (case wqok => assumption)); intro _ _ _ _; (try dsimp only); (try k_sweep))
  k_with "eval ListComp" => (k_here; k_dflt (refine' comp_expr ?wqhc ?wqhk ?wqhn ?wqhs ?_; (case wqhc => with_unfolding_all rfl); (case wqhk => rfl); (case wqhn => decide); (case wqhs => intro _; with_unfolding_all rfl)))
  k_with "eval Name" => (k_here; (with_reducible show wpAny _ _ (eval (Expr.Name _ _) (compEnvC _ _ _ _)) _ _ _); k_dflt (first
      | (refine' block_local ?wqN ?wqm ?wqn ?wqv ?_ ?wqk ?wql ?wqd; (case wqk => rfl); (case wql => rfl); (case wqd => decide); (case wqN => k_asm); (case wqm => k_mem); (case wqn => assumption); (case wqv => first | assumption | rfl))
      | (refine' block_cell ?wqN ?wqc ?wqm ?wqo ?_ ?wqk ?wql ?wqd; (case wqk => rfl); (case wql => rfl); (case wqd => decide); (case wqN => k_asm); (case wqc => rfl); (case wqm => k_mem); (case wqo => assumption))))
  exact True.intro
theorem same_of {led : List (Addr × Obj)} : ∀ {vs ys : List Value}, Paired (fun v y => ∃ nw : List (Addr × Obj), (∀ q ∈ nw, q ∈ led) ∧ y = v) vs ys → ys = vs
  | _, _, .nil => rfl
  | _, _, .cons ⟨_, _, e⟩ r => by rw [e, same_of r]
theorem stay_all {h : Heap} {vs : List Value} {ps : List (Str × Str)} {y : Str} (e : vs.map (pairAt h) = ps) (hno : ∀ q ∈ ps, PySem.Txt.lower q.1 ≠ y) : (vs.filter fun v => decide (PySem.Txt.lower (pairAt h v).1 ≠ y)) = vs := by
  subst e
  rw [List.filter_eq_self]
  intro v hv
  exact decide_eq_true (hno _ (List.mem_map_of_mem hv))
theorem t_delitem (w : World) {p : Program} {loose : List Str} {mean : ExcName → Option Value} {mg mb : Str → Option Value} {dp un : Nat} {gd : Option (List Code)} {cn : Str} {cs : Scope} {a : Addr} {ccd : Value} {cl : List (Str × Addr)} {outer : List Env} {A₀ : Around} {base h₀ : Heap} {L : Addr} {m : Str → Option Value} {news : List (Addr × Obj)} {s : Shared}
  {R : Result → Shared → Prop} {x : Str} {t : Tok} {tb td hl : Addr} {hsh : Int} {kt : Tok} {n k : Nat} {vs : List Value} {ps : List (Str × Str)}
  (X : (Mine.hd.heap_39 w.params).In h₀) (B : Below A₀ base outer h₀) (F : Fr h₀ L s.heap m) (N : News h₀ L s.heap ((hl, listOf vs.toArray k) :: news)) (T : Top p loose mean mg mb h₀) (hk : cs.kind = .function) (hd : dp ≤ 630) (hu : un ≤ 150)
  (m1 : (tb, instObj 169 td) ∈ news) (m2 : (td, dictOf (entO hsh kt hl) n) ∈ news) (l1 : ∀ p ∈ news, p.1 ≠ hl) (hp : PairsIn news vs ps) (hz : ∀ q ∈ ps, q.1.length ≤ 100) (hz2 : ps.length ≤ 1000)
  (hx : x.length ≤ 100) (ok : okName (PySem.Txt.lower x) = true) (hno : ∀ q ∈ ps, PySem.Txt.lower q.1 ≠ PySem.Txt.lower x)
  (ret : ∀ k' h' tk', Fr h₀ L h' m → News h₀ L h' ((hl, listOf vs.toArray k') :: news) → R (.ok (.ret .none)) {s with heap := h', toks := tk'}) :
  codeAny (model PySem.Challenge.rw_pg0268_01.row.prog w) (ktrTop dp un gd cn cs L a ccd cl outer) (.call (.ref 89) ⟨[.ref tb, .str x t], []⟩) R s := by
  revert X; k_fill; intro X
  k_dflt walk_at "enter cells"
  have lZ1 : ∀ p ∈ (hl, listOf vs.toArray k) :: news, p.1 ≠ LZ + 1 := fun p h => Nat.ne_of_lt (Nat.lt_succ_of_lt (lZ p h))
  have m1' := List.mem_cons_of_mem (hl, listOf vs.toArray k) m1
  have m2' := List.mem_cons_of_mem (hl, listOf vs.toArray k) m2
  k_steps
  rename_i hH oH FH NH dH
  have eP := (hp.mono (fun q h => List.mem_cons_of_mem _ (List.mem_cons_of_mem _ h))).map NH
  refine comp_src (src_list rfl (by k_asm) (by k_asm) (List.mem_cons_of_mem _ (List.mem_cons_self ..))) (fun v => decide (PySem.Txt.lower (pairAt hH v).1 ≠ PySem.Txt.lower x)) (fun v y _ => y = v) (tests_one ?_) ?_ ?_ (by rw [hp.length]; omega) (by decide) rfl rfl
  · intro C i v co m₂ tl s₃ E' hi hP hn hm F₁ N₁ hs
    obtain ⟨pa, x', y', t', u', rfl, hmem, hps⟩ := hp.get hP
    have hz' := hz _ (List.mem_of_getElem? hps)
    dsimp only at hz'
    have e1 := pairAt_of (NH.get (List.mem_cons_of_mem _ (List.mem_cons_of_mem _ hmem)))
    have h1 := List.mem_cons_of_mem (C, co) (hs _ (List.mem_cons_of_mem _ (List.mem_cons_of_mem _ hmem)))
    have h2 := List.mem_cons_of_mem (C, co) (hs _ (List.mem_cons_self ..))
    rw [e1]
    k_steps
    exact TestEnd.intro (by by_cases q : PySem.Txt.lower x' = PySem.Txt.lower x <;> simp [q, bne]) (by k_asm) (by k_asm) (fun _ h => h)
  · intro C i v co m₂ tl s₃ E' hi hP hp' hn hm F₁ N₁ hs
    k_steps
    exact EltEnd.plain (by k_asm) (by k_asm) (fun _ h => h) rfl
  · intro D h' tk' k' ys vs' led F₁ N₁ hs hlt hlen hP hF
    have e2 : vs' = vs := same_list hlen hP
    subst e2
    rw [stay_all eP hno] at hF
    have e3 := same_of hF
    subst e3
    have h1 := List.mem_cons_of_mem (D, listOf ys.toArray k') (hs _ (List.mem_cons_of_mem _ m1'))
    have h2 := List.mem_cons_of_mem (D, listOf ys.toArray k') (hs _ (List.mem_cons_of_mem _ m2'))
    have h3 := List.mem_cons_of_mem (D, listOf ys.toArray k') (hs _ (List.mem_cons_of_mem _ (List.mem_cons_self (a := (hl, listOf ys.toArray k)) (l := news))))
    k_steps
    refine set_all_K news F₁ N₁ h3 (List.mem_cons_self ..) (fun p h => ⟨List.mem_cons_of_mem _ (hs _ (List.mem_cons_of_mem _ (List.mem_cons_of_mem _ h))), l1 p h⟩) (Nat.ne_of_lt (hlt _ (List.mem_cons_of_mem _ (List.mem_cons_self ..)))) (by rw [List.size_toArray, hp.length]; omega) (by rw [List.size_toArray, hp.length]; omega) ?_
    intro h₃ k₃ F₃ N₃
    k_steps
    exact ret _ _ _ (by k_asm) (by k_asm)
section
variable {M : Model} {A : Around} {E : Value → Shared → Prop} {s : Shared} {K : Frag} {x C L f : Addr} {h₀ : Heap} {m : Str → Option Value} {ox : Obj} {od : Option Obj} {i : Value}
theorem del_inst {Q : Unit → Shared → Prop} (F : Fr h₀ L s.heap m) (X₀ : K.In h₀) (I : InstAt s.heap x ox C od) (hq : noSeq K C = true) (hs : findIn K (.ref C) "__delitem__" = some (some (.ref f))) (hf : isFn K (.ref f) = true)
    (h : wpAny M A (call (.ref f) [.ref x, i]) (fun _ s' => Q () s') E s) : wpAny M A (delItem (.ref x) i) Q E s := by
  have X := X₀.keeps F.keep
  unfold delItem sequenceKey
  refine wpAny_holding (wpAny_bind (wpAny_bind (I.type.here ?_)))
  refine wpAny_bind ((anyM_none X hq).here ?_)
  rw [if_pos (show (!false) = true from rfl)]
  exact wpAny_pure (wpAny_bind (special_fn X I hs (beq_iff_eq.mp hf) (wpAny_mono h (fun _ _ z => wpAny_pure z) fun _ _ z => z)))
end
theorem wl_C13_3 : True := by
  k_with "delItem ref str" => (k_here; k_dflt (refine' del_inst ?wqF ?wqX ?wqI ?wqhQ ?wqhS ?wqhF ?_; (case wqF => k_asm); (case wqX => k_asm); (case wqI => k_inst); (case wqhS => k_is); (case wqhF => k_is); (case wqhQ => k_is); k_whole))
  k_with "newTuple" => (k_here; k_dflt (refine' kup_newTuple ?wqF ?wqN ?_ ?wqz; (case wqF => k_asm); (case wqN => k_asm); (case wqz => kmk_size)); intro _ _ _ _ l1; (try k_lt l1); (try (revert l1; intro _)); (try k_sweep))
  k_with "call ref" => (k_here; k_dflt (refine wpAny_call ?_; refine' t_delitem _ ?wqX ?wqB ?wqF ?wqN ?wqT ?wqk ?wqd ?wqu ?wqm1 ?wqm2 ?wql1 ?wqhp ?wqhz ?wqhz2 ?wqhx ?wqok ?wqhno ?_; (case wqX => k_asm); (case wqB => k_asm); (case wqF => k_asm); (case wqN => k_asm); (case wqT => k_asm); (case wqk => rfl); (case wqd => (dsimp only; omega)); (case wqu => (dsimp only; omega)); (case wqm1 => assumption); (case wqm2 => assumption); (case wql1 => assumption); (case wqhp => assumption); (case wqhz => assumption); (case wqhz2 => assumption); (case wqhx => assumption); (case wqok => assumption); (case wqhno => assumption)); intro _ _ _ _ _; (try dsimp only); (try k_sweep))
  k_with "call ref" => (k_here; k_dflt (refine wpAny_call ?_; refine' t_conv_val _ ?wqX ?wqB ?wqF ?wqN ?wqT ?wqk ?wqd ?wqu ?wqok ?_; (case wqX => k_asm); (case wqB => k_asm); (case wqF => k_asm); (case wqN => k_asm); (case wqT => k_asm); (case wqk => rfl); (case wqd => (dsimp only; omega)); (case wqu => (dsimp only; omega)); (case wqok => assumption)); intro _ _ _ _; (try dsimp only); (try k_sweep))
  exact True.intro
theorem t_setitem (w : World) {p : Program} {loose : List Str} {mean : ExcName → Option Value} {mg mb : Str → Option Value} {dp un : Nat} {gd : Option (List Code)} {cn : Str} {cs : Scope} {a : Addr} {ccd : Value} {cl : List (Str × Addr)} {outer : List Env} {A₀ : Around} {base h₀ : Heap} {L : Addr} {m : Str → Option Value} {news : List (Addr × Obj)} {s : Shared}
  {R : Result → Shared → Prop} {x y : Str} {t ty : Tok} {tb td hl : Addr} {hsh : Int} {kt : Tok} {n k : Nat} {vs : List Value} {ps : List (Str × Str)}
  (X : (Mine.hd.heap_39 w.params).In h₀) (B : Below A₀ base outer h₀) (F : Fr h₀ L s.heap m) (N : News h₀ L s.heap ((hl, listOf vs.toArray k) :: news)) (T : Top p loose mean mg mb h₀) (hk : cs.kind = .function) (hd : dp ≤ 625) (hu : un ≤ 140)
  (m1 : (tb, instObj 169 td) ∈ news) (m2 : (td, dictOf (entO hsh kt hl) n) ∈ news) (l1 : ∀ p ∈ news, p.1 ≠ hl) (hp : PairsIn news vs ps) (hz : ∀ q ∈ ps, q.1.length ≤ 100) (hz2 : ps.length ≤ 1000)
  (hx : x.length ≤ 100) (ok : okName (PySem.Txt.lower x) = true) (ok1 : okName x = true) (ok2 : okVal y = true) (hno : ∀ q ∈ ps, PySem.Txt.lower q.1 ≠ PySem.Txt.lower x)
  (ret : ∀ P u1 u2 k' h' tk', Fr h₀ L h' m → News h₀ L h' ((hl, listOf (vs ++ [Value.ref P]).toArray k') :: (P, tupO [.str x u1, .str y u2]) :: news) → (∀ p ∈ news, p.1 < P) → R (.ok (.ret .none)) {s with heap := h', toks := tk'}) :
  codeAny (model PySem.Challenge.rw_pg0268_01.row.prog w) (ktrTop dp un gd cn cs L a ccd cl outer) (.call (.ref 84) ⟨[.ref tb, .str x t, .str y ty], []⟩) R s := by
  revert X; k_fill; intro X
  k_dflt ktr_enter
  k_steps
  rename_i tk0 kk hA tA hB tB hC tC DT hT FT NT lT
  have hne : DT ≠ hl := Nat.ne_of_gt lT.1
  refine append_K FT NT (Upd.tail hne (Upd.head l1)) ?_ (by rw [List.size_toArray, hp.length, sizeLine_eq]; omega)
  intro h₃ F₃ N₃
  k_steps
  have e : (vs ++ [Value.ref DT]).toArray = vs.toArray.push (Value.ref DT) := by simp
  refine ret DT t ty (kk + 1) _ _ (by k_asm) ?_ (allLt_all lT.2)
  rw [e]
  exact cb_drop (by k_asm) (fun p hp => by
    rcases List.mem_cons.mp hp with rfl | hp
    · exact List.mem_cons_of_mem _ (List.mem_cons_self ..)
    · rcases List.mem_cons.mp hp with rfl | hp
      · exact List.mem_cons_self ..
      · exact List.mem_cons_of_mem _ (List.mem_cons_of_mem _ hp))
end Mine
end

section
open PySem PySem.W PyProof.Rows
set_option Elab.async false
set_option maxRecDepth 100000
set_option maxHeartbeats 0
namespace Mine
theorem wl_C14_0 : True := by
  k_with_none
  exact True.intro
abbrev entJ (hsh : Int) (kt : Tok) (l : Addr) : List DictEntry := [⟨hsh, .str (Str.ofString "comp_select_list") kt, .ref l⟩]
def cmp2 (a b a' b' : Int) : Int := if a < a' then -1 else if a > a' then 1 else if b < b' then -1 else if b > b' then 1 else 0
theorem cmp2_lt {a b a' b' : Int} (h : a < a') : cmp2 a b a' b' = -1 := by simp [cmp2, h]
theorem cmp2_gt {a b a' b' : Int} (h : ¬ a < a') (h2 : a > a') : cmp2 a b a' b' = 1 := by simp [cmp2, h, h2]
theorem cmp2_lt2 {a b a' b' : Int} (e : a = a') (h : b < b') : cmp2 a b a' b' = -1 := by subst e; simp [cmp2, h]
theorem cmp2_gt2 {a b a' b' : Int} (e : a = a') (h : ¬ b < b') (h2 : b > b') : cmp2 a b a' b' = 1 := by subst e; simp [cmp2, h, h2]
theorem cmp2_eq {a b a' b' : Int} (e : a = a') (h : b = b') : cmp2 a b a' b' = 0 := by subst e h; simp [cmp2]
local macro_rules | `(tactic| k_mem) => `(tactic| assumption)
local macro_rules | `(tactic| k_all) => `(tactic| assumption)
theorem t_judge (w : World) {p : Program} {loose : List Str} {mean : ExcName → Option Value} {mg mb : Str → Option Value} {dp un : Nat} {gd : Option (List Code)} {cn : Str} {cs : Scope} {a : Addr} {ccd : Value} {cl : List (Str × Addr)} {outer : List Env} {A₀ : Around} {base h₀ : Heap} {L : Addr} {m : Str → Option Value} {news : List (Addr × Obj)} {s : Shared}
  {R : Result → Shared → Prop} {tb td hl : Addr}
  (X : (Mine.hd.heap_39 w.params).In h₀) (B : Below A₀ base outer h₀) (F : Fr h₀ L s.heap m) (N : News h₀ L s.heap ((tb, instObj 211 td) :: (td, dictOf [] 0) :: news)) (T : Top p loose mean mg mb h₀) (hk : cs.kind = .function) (hd : dp ≤ 635) (hu : un ≤ 160)
  (l1 : ∀ p ∈ news, p.1 ≠ td) (l2 : @LT.lt Nat _ td tb)
  (ret : ∀ hsh kt h' tk', Fr h₀ L h' m → News h₀ L h' ((tb, instObj 211 td) :: (td, dictOf (entJ hsh kt hl) 1) :: news) → R (.ok (.ret .none)) {s with heap := h', toks := tk'}) :
  codeAny (model PySem.Challenge.rw_pg0268_01.row.prog w) (ktrTop dp un gd cn cs L a ccd cl outer) (.call (.ref 201) ⟨[.ref tb, .ref hl], []⟩) R s := by
  revert X; k_fill; intro X
  k_dflt ktr_enter
  k_steps
  exact ret _ _ _ _ (by k_asm) (by k_asm)
theorem t_compare (w : World) {p : Program} {loose : List Str} {mean : ExcName → Option Value} {mg mb : Str → Option Value} {dp un : Nat} {gd : Option (List Code)} {cn : Str} {cs : Scope} {a : Addr} {ccd : Value} {cl : List (Str × Addr)} {outer : List Env} {A₀ : Around} {base h₀ : Heap} {L : Addr} {m : Str → Option Value} {news : List (Addr × Obj)} {s : Shared}
  {R : Result → Shared → Prop} {tb td hl p0 p1 lt rt : Addr} {hsh : Int} {kt : Tok} {n k : Nat} {a1 b1 a2 b2 : Int} {t1 t2 t3 t4 t5 t6 t7 t8 : Tok}
  (X : (Mine.hd.heap_39 w.params).In h₀) (B : Below A₀ base outer h₀) (F : Fr h₀ L s.heap m) (N : News h₀ L s.heap news) (T : Top p loose mean mg mb h₀) (hk : cs.kind = .function) (hd : dp ≤ 635) (hu : un ≤ 160)
  (m1 : (tb, instObj 211 td) ∈ news) (m2 : (td, dictOf (entJ hsh kt hl) n) ∈ news) (m3 : (hl, listOf [Value.ref p0, .ref p1].toArray k) ∈ news)
  (m4 : (p0, tupO [.int 0 t1, .int 1 t2]) ∈ news) (m5 : (p1, tupO [.int 1 t3, .int 1 t4]) ∈ news) (m6 : (lt, tupO [.int a1 t5, .int b1 t6]) ∈ news) (m7 : (rt, tupO [.int a2 t7, .int b2 t8]) ∈ news)
  (ret : ∀ u h' tk', Fr h₀ L h' m → News h₀ L h' news → R (.ok (.ret (.int (cmp2 a1 b1 a2 b2) u))) {s with heap := h', toks := tk'}) :
  codeAny (model PySem.Challenge.rw_pg0268_01.row.prog w) (ktrTop dp un gd cn cs L a ccd cl outer) (.call (.ref 208) ⟨[.ref tb, .ref lt, .ref rt], []⟩) R s := by
  revert X; k_fill; intro X
  k_dflt ktr_enter
  k_steps
  refine For_K ?_ (by intro _; rfl)
  k_steps
  have hfun : ∀ m' : Str → Option Value, m' (Str.ofString "left") = some (.ref lt) → m' (Str.ofString "right") = some (.ref rt) → m' = fun z => if z = Str.ofString "left" then some (.ref lt) else if z = Str.ofString "right" then some (.ref rt) else m' z := fun m' e1 e2 => by
    funext z
    by_cases hz : z = Str.ofString "left"
    · rw [if_pos hz, hz, e1]
    · rw [if_neg hz]
      by_cases hz : z = Str.ofString "right"
      · rw [if_pos hz, hz, e2]
      · rw [if_neg hz]
  refine iter_list_K (vs := [Value.ref p0, .ref p1]) (n := k) rfl (by k_asm) (by k_asm)
    (fun i m' nx => nx = news ∧ m' (Str.ofString "left") = some (.ref lt) ∧ m' (Str.ofString "right") = some (.ref rt) ∧ (1 ≤ i → a1 = a2) ∧ (2 ≤ i → b1 = b2)) ⟨rfl, rfl, rfl, (fun h => absurd h (by decide)), (fun h => absurd h (by decide))⟩ ?_ ?_ ?_ (by passes_own)
  · rintro i m' nx ⟨rfl, _⟩
    exact m3
  · rintro i v m₁ nx h tk it io hv ⟨rfl, e1, e2, hI1, hI2⟩ hit F₁ N₁
    rw [hfun m₁ e1 e2] at F₁
    have n4 := List.mem_cons_of_mem (it, io) m4
    have n5 := List.mem_cons_of_mem (it, io) m5
    have n6 := List.mem_cons_of_mem (it, io) m6
    have n7 := List.mem_cons_of_mem (it, io) m7
    match i, hv with
    | 0, hv =>
      simp only [List.getElem?_cons_zero, Option.some.injEq] at hv
      subst hv
      k_steps
      · dsimp only
        unfold EndK
        dsimp only
        rename_i h1
        have e := cmp2_lt (b := b1) (b' := b2) h1
        k_steps
        rw [← e]
        exact ret _ _ _ (by k_asm) (cb_drop (by k_asm) (fun p h => by repeat (first | exact h | apply List.mem_cons_of_mem)))
      · dsimp only
        unfold EndK
        dsimp only
        rename_i h1 h2
        have e := cmp2_gt (b := b1) (b' := b2) h1 h2
        k_steps
        rw [← e]
        exact ret _ _ _ (by k_asm) (cb_drop (by k_asm) (fun p h => by repeat (first | exact h | apply List.mem_cons_of_mem)))
      · rename_i h1 h2
        exact EndK.next nx (by k_asm) (by k_asm) (List.mem_cons_self ..) (fun p h => List.mem_cons_of_mem _ h) hit ⟨rfl, rfl, rfl, (fun _ => by omega), (fun h => absurd h (by decide))⟩
    | 1, hv =>
      simp only [List.getElem?_cons_zero, List.getElem?_cons_succ, Option.some.injEq] at hv
      subst hv
      k_steps
      · dsimp only
        unfold EndK
        dsimp only
        rename_i h1
        have e := cmp2_lt2 (hI1 (Nat.le_refl _)) h1
        k_steps
        rw [← e]
        exact ret _ _ _ (by k_asm) (cb_drop (by k_asm) (fun p h => by repeat (first | exact h | apply List.mem_cons_of_mem)))
      · dsimp only
        unfold EndK
        dsimp only
        rename_i h1 h2
        have e := cmp2_gt2 (hI1 (Nat.le_refl _)) h1 h2
        k_steps
        rw [← e]
        exact ret _ _ _ (by k_asm) (cb_drop (by k_asm) (fun p h => by repeat (first | exact h | apply List.mem_cons_of_mem)))
      · rename_i h1 h2
        exact EndK.next nx (by k_asm) (by k_asm) (List.mem_cons_self ..) (fun p h => List.mem_cons_of_mem _ h) hit ⟨rfl, rfl, rfl, (fun _ => hI1 (Nat.le_refl _)), (fun _ => by omega)⟩
    | i + 2, hv => simp at hv
  · rintro m' nx h tk ⟨rfl, e1, e2, hI1, hI2⟩ F₁ N₁
    rw [hfun m' e1 e2] at F₁
    k_steps
    have e := cmp2_eq (hI1 (Nat.le_succ 1)) (hI2 (Nat.le_refl 2))
    rw [← e]
    exact ret _ _ _ (by k_asm) (by k_asm)
end Mine
end

section
open PySem PySem.W PyProof.Rows
set_option Elab.async false
set_option maxRecDepth 100000
namespace Mine
section
variable {prog : Program} {w : World} {A : Around} {E : Value → Shared → Prop} {s : Shared} {env : Env} {h₀ : Heap} {L : Addr} {m : Str → Option Value} {news : List (Addr × Obj)}
theorem turns_pair {scope : Scope} {cl : List (Str × Addr)} {a b : Str} {pa pb tp : Pos} {kk : Nat} {I : Addr} {fp wr : List Addr} {n : Nat} {Pt : Nat → Array Value → Prop} {St : Nat → Heap → Prop} {Mid : Nat → Addr → Heap → Prop}
    (W : WalksU prog w A I fp wr n Pt St Mid) (two : ∀ i vals, Pt i vals → ∃ x y, vals = #[x, y]) (hh : A.handled = none) (hkind : scope.kind = .function) (ha : scope.names.lookup a = some .local) (hb : scope.names.lookup b = some .local) (hab : a ≠ b) :
    G.Turns prog w A env scope cl (.Tuple [.Name a pa, .Name b pb] kk tp) I fp wr n (fun i (q : Value × Value) => Pt i #[q.1, q.2]) (fun q m => m a = some q.1 ∧ m b = some q.2) St where
  sub := W.sub
  frame := W.frame
  turn := fun i C mC s QN Q E hi hst hCf hn hQ => by
    refine W.item i s _ _ hi hst fun T vals h' tk hP hT hm hk => ?_
    obtain ⟨x, y, rfl⟩ := two i vals hP
    have hCw : C ∉ wr := fun h => hCf (W.sub _ h)
    refine W.go _ _ _ i T _ _ _ hm fun h₁ hst₁ hk₁ => ?_
    have hT₁ : h₁.IsTuple T #[x, y] := hT.at fun o e => hk₁ T o (W.apart _ _ _ hm) e
    have hn₁ : h₁.Ns C mC := (hn.at' fun o e => hk C o hCw e).at' fun o e => hk₁ C o hCw e
    refine kcp_assign (env := compEnvC scope cl C env) hh hT₁ (lookup_relabel_local ha) (lookup_relabel_local hb) (by simp [compEnvC, relabel, hkind]) hn₁ fun h₂ tk₂ hn₂ hk₂ => ?_
    refine hQ (x, y) h₂ tk₂ _ hP ⟨?_, ?_⟩ (W.frame _ _ _ hst₁ fun c hc o e => hk₂ c o (fun (q : c = C) => hCf (q ▸ hc)) e) hn₂ fun c o hc hcC e => hk₂ c o hcC (hk₁ c o hc (hk c o hc e))
    · show (if a = b then some y else if a = a then some x else mC a) = some x
      rw [if_neg hab, if_pos rfl]
    · show (if b = b then some y else if b = a then some x else mC b) = some y
      rw [if_pos rfl]
  done := W.done
  self := W.self
theorem turns_map {scope : Scope} {cl : List (Str × Addr)} {tg : PySem.Expr} {I : Addr} {fp wr : List Addr} {n : Nat} {α : Type} {P P' : Nat → α → Prop} {Bd : α → (Str → Option Value) → Prop} {St : Nat → Heap → Prop}
    (W : G.Turns prog w A env scope cl tg I fp wr n P Bd St) (h : ∀ i q, P i q → i < n → P' i q) : G.Turns prog w A env scope cl tg I fp wr n P' Bd St where
  sub := W.sub
  frame := W.frame
  turn := fun i C mC s QN Q E hi hst hCf hn hQ => W.turn i C mC s QN Q E hi hst hCf hn fun v h' tk mC' hP => hQ v h' tk mC' (h i v hP hi)
  done := W.done
  self := W.self
/-- a source that is walked, any target -/
def SrcT (prog : Program) (w : World) (A : Around) (env : Env) (scope : Scope) (cl : List (Str × Addr)) (tg : PySem.Expr) (h₀ : Heap) (L : Addr) (m : Str → Option Value) (news : List (Addr × Obj)) (xv : Value) (n : Nat) {α : Type} (P : Nat → α → Prop) (Bd : α → (Str → Option Value) → Prop) (s : Shared) : Prop :=
  ∀ (Q : Value → Shared → Prop) (E : Value → Shared → Prop), (∀ I fp wr St h₂, G.Turns prog w A env scope cl tg I fp wr n P Bd St → St 0 h₂ → (∀ b ∈ fp, b < h₂.objs.size) → (∀ b ∈ wr, h₀.get? b = none) → (∀ b ∈ wr, ∀ i h, St i h → ∃ o, h.get? b = some o) → L ∉ fp → Fr h₀ L h₂ m → News h₀ L h₂ news →
    (∀ q ∈ news, q.1 ∉ wr) → Q (.ref I) { s with heap := h₂ }) → wpAny (model prog w) A (pyIter xv) Q E s
theorem comp_srcT {elt iter tg : PySem.Expr} {ifs : List PySem.Expr} {scope : Scope} {cl : List (Str × Addr)} {pos : Pos} {n : Nat} {α : Type} {P : Nat → α → Prop} {Bd : α → (Str → Option Value) → Prop} {xv : Value} {Q : Value → Shared → Prop} (S : SrcT prog w A env scope cl tg h₀ L m news xv n P Bd s) (p : α → Bool) (Fl : α → Value → List (Addr × Obj) → Prop)
    (tests : G.Tests prog w A env h₀ L m scope cl Bd ifs n P p news) (elts : G.Elts prog w A env h₀ L m scope cl Bd elt n P p Fl news)
    (done : ∀ D h' tk k ys (vs : List α) led, Fr h₀ L h' m → News h₀ L h' ((D, listOf (ys : List Value).toArray k) :: led) → (∀ q ∈ news, q ∈ led) → (∀ q ∈ news, q.1 < D) → vs.length = n → (∀ j v, vs[j]? = some v → P j v) →
      Paired (fun v y => ∃ nw, (∀ q ∈ nw, q ∈ led) ∧ Fl v y nw) (vs.filter p) ys → Q (.ref D) { s with heap := h', toks := tk })
    (hsz : n ≤ 10000) (hcell : ∀ y ∈ scope.names, y.2 ≠ .cell) (hkind : scope.kind = .function) :
    wpAny (model prog w) A (pyIter xv) (fun it s₂ => G.CompK prog w A env elt iter tg ifs scope cl pos (fun acc C => compPost (model prog w) A E none Q acc C) E it s₂) E s :=
  S _ _ fun _ _ _ _ h₂ W hst hfp hwrn hlive hLf F N hnw => G.compK_expr W (by rw [sizeLine_eq]; omega) p Fl hcell hkind hst hfp hwrn hlive hLf F N hnw tests elts fun D h' tk k ys vs led F' N' hs hlt hlen hP hF => done D h' tk k ys vs led F' N' hs hlt hlen hP hF
theorem comp_srcTA {elt iter tg : PySem.Expr} {y : Str} {py : Pos} {ifs : List PySem.Expr} {scope : Scope} {cl : List (Str × Addr)} {pos : Pos} {n : Nat} {α : Type} {P : Nat → α → Prop} {Bd : α → (Str → Option Value) → Prop} {xv : Value} {Q : Shared → Prop} (S : SrcT prog w A env scope cl tg h₀ L m news xv n P Bd s) (p : α → Bool) (Fl : α → Value → List (Addr × Obj) → Prop)
    (tests : G.Tests prog w A env h₀ L m scope cl Bd ifs n P p news) (elts : G.Elts prog w A env h₀ L m scope cl Bd elt n P p Fl news)
    (store : ∀ D C co mC h' tk k ys (vs : List α) led, Fr h₀ L h' m → News h₀ L h' ((C, co) :: (D, listOf (ys : List Value).toArray k) :: led) → NsObj co mC → (∀ q ∈ news, q ∈ led) → (∀ q ∈ led, q.1 ≠ C) → D ≠ C → C ≠ L → h₀.get? C = none → (∀ q ∈ news, q.1 < D) → vs.length = n → (∀ j v, vs[j]? = some v → P j v) →
      Paired (fun v y => ∃ nw, (∀ q ∈ nw, q ∈ led) ∧ Fl v y nw) (vs.filter p) ys →
      wpAny (model prog w) A (assign (.Name y py) env (.ref D)) (fun _ s'' => StoreEnd h₀ L C Q { s with heap := h', toks := tk } s'') E { s with heap := h', toks := tk })
    (hsz : n ≤ 10000) (hcell : ∀ y ∈ scope.names, y.2 ≠ .cell) (hkind : scope.kind = .function) :
    wpAny (model prog w) A (pyIter xv) (fun it s₂ => G.CompK prog w A env elt iter tg ifs scope cl pos (fun acc C => compPost (model prog w) A E (some (assign (.Name y py) env)) (fun _ s' => Q s') acc C) E it s₂) E s :=
  S _ _ fun _ _ _ _ h₂ W hst hfp hwrn hlive hLf F N hnw => G.compK_assign W (by rw [sizeLine_eq]; omega) p Fl hcell hkind hst hfp hwrn hlive hLf F N hnw tests elts fun D C co mC h' tk k ys vs led F' N' hn hs hne hDC hCL hC0 hlt hlen hP hF => store D C co mC h' tk k ys vs led F' N' hn hs hne hDC hCL hC0 hlt hlen hP hF
def adOf : Option Value → Addr
  | some (.ref p) => p
  | _ => 0
theorem src_pairs {scope : Scope} {cl : List (Str × Addr)} {a b : Str} {pa pb tp : Pos} {kk : Nat} {l : Addr} {vs : List Value} {k : Nat} (hh : A.handled = none) (F : Fr h₀ L s.heap m) (N : News h₀ L s.heap news) (hl : (l, listOf vs.toArray k) ∈ news)
    (hv : ∀ (i : Nat) (v : Value), vs[i]? = some v → ∃ p x y, v = .ref p ∧ (p, tupO [x, y]) ∈ news) (hkind : scope.kind = .function) (ha : scope.names.lookup a = some .local) (hb : scope.names.lookup b = some .local) (hab : a ≠ b) :
    SrcT prog w A env scope cl (.Tuple [.Name a pa, .Name b pb] kk tp) h₀ L m news (.ref l) vs.length (fun (i : Nat) (q : Value × Value) => ∃ p, vs[i]? = some (Value.ref p) ∧ (p, tupO [q.1, q.2]) ∈ news) (fun q m => m a = some q.1 ∧ m b = some q.2) s := fun Q E h => by
  have hls : s.heap.IsList l vs.toArray := ⟨_, N.get hl, rfl, k, rfl⟩
  obtain ⟨a1, a2, a3, a4, a5, a6, a7, a8⟩ := src_core (io := { cls := .type "list_iterator", data := .fields #[.ref l, .int 0 0] }) F N hl rfl
  have hT : ∀ j, j < vs.length → ∃ p x y, vs[j]? = some (.ref p) ∧ adOf vs[j]? = p ∧ (p, tupO [x, y]) ∈ news ∧ itsOf (s.heap.get? p) = #[x, y] := fun j hj => by
    obtain ⟨p, x, y, e, hm⟩ := hv j vs[j] (List.getElem?_eq_getElem hj)
    refine ⟨p, x, y, by rw [List.getElem?_eq_getElem hj, e], by rw [List.getElem?_eq_getElem hj, e]; rfl, hm, by rw [N.get hm]; rfl⟩
  have W := WalksU.listOfTuples (prog := prog) (w := w) hh s.heap.objs.size l a1 vs.toArray (fun j => adOf vs[j]?) (fun j => itsOf (s.heap.get? (adOf vs[j]?)))
    (fun j hj => by
      obtain ⟨p, x, y, e1, e2, _⟩ := hT j (by simpa using hj)
      simp only [List.getElem?_toArray, e1]
      rfl)
    (fun j hj => by
      obtain ⟨p, x, y, e1, e2, hm, _⟩ := hT j (by simpa using hj)
      rw [e2]
      exact Nat.ne_of_lt (Heap.lt_size (N.get hm)))
  rw [List.size_toArray] at W
  have two : ∀ (j : Nat) (vals : Array Value), vals = itsOf (s.heap.get? (adOf vs[j]?)) ∧ j < vs.length → ∃ x y, vals = #[x, y] := fun j vals ⟨e, hj⟩ => by
    obtain ⟨p, x, y, e1, e2, hm, e3⟩ := hT j hj
    exact ⟨x, y, by rw [e, e2, e3]⟩
  have W' := turns_map (turns_pair (env := env) (scope := scope) (cl := cl) (a := a) (b := b) (pa := pa) (pb := pb) (tp := tp) (kk := kk) (W.bound) (fun i vals h => two i vals ⟨h.2, h.1⟩) hh hkind ha hb hab) (P' := fun (i : Nat) (q : Value × Value) => ∃ p, vs[i]? = some (Value.ref p) ∧ (p, tupO [q.1, q.2]) ∈ news) (fun i q hP hi => by
    obtain ⟨p, x, y, e1, e2, hm, e3⟩ := hT i hi
    have e4 := hP.2
    try dsimp only at e4
    rw [e2, e3] at e4
    have e5 : [q.1, q.2] = [x, y] := congrArg Array.toList e4
    exact ⟨p, e1, by rw [e5]; exact hm⟩)
  refine wpAny_pyIter_list hls (h _ _ _ _ _ W' ⟨⟨_, a8, rfl, rfl⟩, hls.at fun o e => Heap.get?_push_of_some _ e, fun j hj => ?_⟩ (fun b hb => ?_) a3 (fun b hb i h st => ?_) (fun hm => ?_) a5 a6 a7)
  · obtain ⟨p, x, y, e1, e2, hm, e3⟩ := hT j (by simpa using hj)
    rw [e2, e3]
    exact ⟨_, Heap.get?_push_of_some _ (N.get hm), rfl, 0, rfl⟩
  · rcases List.mem_cons.mp hb with rfl | hb
    · exact a2 _ (List.mem_cons_self ..)
    · rcases List.mem_cons.mp hb with rfl | hb
      · exact a2 _ (List.mem_cons_of_mem _ (List.mem_cons_self ..))
      · obtain ⟨j, hj, rfl⟩ := List.mem_map.mp hb
        obtain ⟨p, x, y, e1, e2, hm, e3⟩ := hT j (List.mem_range.mp hj)
        rw [e2, Heap.size_push]
        exact Nat.lt_succ_of_lt (Heap.lt_size (N.get hm))
  · rw [List.mem_singleton.mp hb]
    obtain ⟨⟨o, e, _⟩, _⟩ := st
    exact ⟨o, e⟩
  · rcases List.mem_cons.mp hm with e | hm
    · exact a4 (List.mem_cons.mpr (.inl e))
    · rcases List.mem_cons.mp hm with e | hm
      · exact a4 (List.mem_cons.mpr (.inr (List.mem_singleton.mpr e)))
      · obtain ⟨j, hj, e⟩ := List.mem_map.mp hm
        obtain ⟨p, x, y, e1, e2, hm', e3⟩ := hT j (List.mem_range.mp hj)
        exact (N _ hm').2.1 (e2.symm.trans e)
end
end Mine
end

section
open PySem PySem.W PyProof.Rows
set_option Elab.async false
set_option maxRecDepth 100000
set_option maxHeartbeats 0
namespace Mine
local macro_rules | `(tactic| k_mem) => `(tactic| assumption)
local macro_rules | `(tactic| k_all) => `(tactic| assumption)
theorem wl_C15_1 : True := by
  k_with_none
  k_with "eval ListComp" => (k_here; k_dflt (refine' G.comp_expr ?wqhc ?wqhk ?wqhn ?wqhs ?_; (case wqhc => with_unfolding_all rfl); (case wqhk => rfl); (case wqhn => decide); (case wqhs => intro _; with_unfolding_all rfl)))
  k_with "eval Name" => (k_here; (with_reducible show wpAny _ _ (eval (Expr.Name _ _) (compEnvC _ _ _ _)) _ _ _); k_dflt (first
      | (refine' block_local ?wqN ?wqm ?wqn ?wqv ?_ ?wqk ?wql ?wqd; (case wqk => rfl); (case wql => rfl); (case wqd => decide); (case wqN => k_asm); (case wqm => k_mem); (case wqn => assumption); (case wqv => first | assumption | rfl))
      | (refine' block_cell ?wqN ?wqc ?wqm ?wqo ?_ ?wqk ?wql ?wqd; (case wqk => rfl); (case wql => rfl); (case wqd => decide); (case wqN => k_asm); (case wqc => rfl); (case wqm => k_mem); (case wqo => assumption))))
  exact True.intro
theorem strs_get : ∀ {vs : List Value} {xs : List Str}, vs.length = xs.length → (∀ (i : Nat) (x : Str), xs[i]? = some x → ∃ t, vs[i]? = some (Value.str x t)) → StrsAre vs xs
  | [], [], _, _ => .nil
  | v :: vs, x :: xs, hl, h => by
    obtain ⟨t, e⟩ := h 0 x rfl
    simp at e
    subst e
    exact .cons x t (strs_get (by simpa using hl) fun i y hy => by simpa using h (i + 1) y (by simpa using hy))
theorem PairsIn.get' {news : List (Addr × Obj)} : ∀ {vs : List Value} {ps : List (Str × Str)} {i : Nat} {q : Str × Str}, PairsIn news vs ps → ps[i]? = some q → ∃ p t u, vs[i]? = some (.ref p) ∧ (p, tupO [.str q.1 t, .str q.2 u]) ∈ news
  | _, _, _, _, .nil, h => by simp at h
  | _, _, 0, _, .cons p x y t u m r, h => by simp at h; subst h; exact ⟨p, t, u, rfl, m⟩
  | _, _, i + 1, _, .cons _ _ _ _ _ _ r, h => by
    obtain ⟨p, t, u, e, m⟩ := r.get' (i := i) (by simpa using h)
    exact ⟨p, t, u, by simpa using e, m⟩
theorem t_values (w : World) {p : Program} {loose : List Str} {mean : ExcName → Option Value} {mg mb : Str → Option Value} {dp un : Nat} {gd : Option (List Code)} {cn : Str} {cs : Scope} {a : Addr} {ccd : Value} {cl : List (Str × Addr)} {outer : List Env} {A₀ : Around} {base h₀ : Heap} {L : Addr} {m : Str → Option Value} {news : List (Addr × Obj)} {s : Shared}
  {R : Result → Shared → Prop} {tb td hl : Addr} {hsh : Int} {kt : Tok} {n k : Nat} {vs : List Value} {ps : List (Str × Str)}
  (X : (Mine.hd.heap_39 w.params).In h₀) (B : Below A₀ base outer h₀) (F : Fr h₀ L s.heap m) (N : News h₀ L s.heap news) (T : Top p loose mean mg mb h₀) (hk : cs.kind = .function) (hd : dp ≤ 630) (hu : un ≤ 150)
  (m1 : (tb, instObj 169 td) ∈ news) (m2 : (td, dictOf (entO hsh kt hl) n) ∈ news) (m3 : (hl, listOf vs.toArray k) ∈ news) (hp : PairsIn news vs ps) (hz : ps.length ≤ 1000)
  (ret : ∀ D ys k' h' tk', StrsAre ys (ps.map (·.2)) → Fr h₀ L h' m → News h₀ L h' ((D, listOf (ys : List Value).toArray k') :: news) → (∀ p ∈ news, p.1 < D) → R (.ok (.ret (.ref D))) {s with heap := h', toks := tk'}) :
  codeAny (model PySem.Challenge.rw_pg0268_01.row.prog w) (ktrTop dp un gd cn cs L a ccd cl outer) (.call (.ref 126) ⟨[.ref tb], []⟩) R s := by
  revert X; k_fill; intro X
  k_dflt ktr_enter
  k_steps
  refine comp_srcT (src_pairs rfl (by k_asm) (by k_asm) m3 (fun i v hv => ?_) ?k1 ?k2 ?k3 ?ne) (fun _ => true) (fun (q : Value × Value) y _ => y = q.2) ?_ ?_ ?_ (by rw [hp.length]; omega) ?cell ?k4
  case ne => decide
  case cell => decide
  case k1 => rfl
  case k2 => rfl
  case k3 => rfl
  case k4 => rfl
  · obtain ⟨pa, x', y', t', u', e, hmem, _⟩ := hp.get hv
    exact ⟨pa, _, _, e, hmem⟩
  · exact G.tests_nil
  · intro C i v co m₂ tl s₃ E' hi hP hp' hn hm F₁ N₁ hs
    obtain ⟨hm1, hm2⟩ := hm
    have hh := List.mem_cons_self (a := (C, co)) (l := tl)
    k_steps
    exact EltEnd.plain (by k_asm) (by k_asm) (fun _ h => h) rfl
  · intro D h' tk' k' ys vs' led F₁ N₁ hs hlt hlen hP hF
    have hfe : vs'.filter (fun _ => true) = vs' := List.filter_eq_self.mpr fun _ _ => rfl
    rw [hfe] at hF
    have hys : StrsAre ys (ps.map (·.2)) := by
      have hl2 : ys.length = ps.length := by rw [← hF.length, hlen, hp.length]
      refine strs_get (by simp [hl2]) fun i x hx => ?_
      rw [List.getElem?_map, Option.map_eq_some_iff] at hx
      obtain ⟨q, hq, rfl⟩ := hx
      obtain ⟨pa, t', u', e1, hm1⟩ := hp.get' hq
      have hi : i < ps.length := (List.getElem?_eq_some_iff.mp hq).1
      have hv' : ∃ v, vs'[i]? = some v := ⟨vs'[i]'(by rw [hlen, hp.length]; exact hi), List.getElem?_eq_getElem _⟩
      obtain ⟨v, hv⟩ := hv'
      obtain ⟨p2, e2, hm2⟩ := hP i v hv
      rw [e1] at e2
      injection e2 with e2
      injection e2 with e2
      subst e2
      have e3 := (N.get hm1).symm.trans (N.get hm2)
      obtain ⟨y, hy, _, _, rfl⟩ := paired_get hF hv
      have e4 := congrArg itsOf e3
      have e5 : [Value.str q.1 t', .str q.2 u'] = [v.1, v.2] := congrArg Array.toList e4
      injection e5 with _ e6
      injection e6 with e7 _
      exact ⟨u', by rw [hy, e7]⟩
    k_steps
    exact ret _ _ _ _ _ hys (by k_asm) (cb_drop (by k_asm) (sub_cons fun p h => hs _ h)) hlt
end Mine
end

section
open PySem PySem.W PyProof.Rows
set_option Elab.async false
set_option maxRecDepth 100000
namespace Mine
theorem fmod_two (x : Int) : x.fmod 2 = 0 ∨ x.fmod 2 = 1 := by
  rw [Int.fmod_eq_emod_of_nonneg _ (by decide)]
  omega
def upC (i : Nat) : Str := ⟨#[65 + i]⟩
def loC (i : Nat) : Str := ⟨#[97 + i]⟩
section
variable {prog : Program} {w : World} {A : Around} {E : Value → Shared → Prop} {s : Shared} {h₀ : Heap} {L l : Addr} {m : Str → Option Value} {news : List (Addr × Obj)} {k : Nat} {t u : Tok} {value slice : PySem.Expr} {Q : Value → Shared → Prop}
theorem pick_two {a b : Col} {o : Int} {t1 t2 : Tok} (N : News h₀ L s.heap news) (hl : (l, listOf #[.str (nm a) t1, .str (nm b) t2] k) ∈ news) (ho : o = 0 ∨ o = 1)
    (h : ∀ u, Q (.str (nm (if o = 0 then a else b)) u) s) (hs : subscripted slice false (.ref l) (.int o t) = operate [.ref l, .int o t] (getItem (.ref l) (.int o t))) :
    wpAny (model prog w) A (subscriptTail value slice (.ref l) (.int o t)) Q E s := by
  have hL : s.heap.IsList l #[.str (nm a) t1, .str (nm b) t2] := ⟨_, N.get hl, rfl, k, rfl⟩
  rcases ho with rfl | rfl
  · exact tail_any hL.typeIs slot_list_getitem.lookup (wpAny_getItem_list hL (by decide) (by decide) rfl (h t1)) hs
  · exact tail_any hL.typeIs slot_list_getitem.lookup (wpAny_getItem_list hL (by decide) (by decide) rfl (h t2)) hs
theorem letter_at {x : Str} {i c : Nat} (hi : i < 1000) (hx : x.length ≤ 1000) (hc : x.cps[i]? = some c) (h : ∀ u tk, Q (.str ⟨#[c]⟩ u) { s with toks := tk })
    (hs : subscripted slice false (.str x t) (.int (i : Nat) u) = operate [.int (i : Nat) u] (getItem (.str x t) (.int (i : Nat) u))) :
    wpAny (model prog w) A (subscriptTail value slice (.str x t) (.int (i : Nat) u)) Q E s := by
  have hlen : i < x.length := by
    have := (Array.getElem?_eq_some_iff.mp hc).1
    exact this
  refine tail_any (typeIs_str _ _ _) F.slot_str_getitem.lookup (PySem.P.getItem_str ?_ (c := c) ?_ (h _ _)) hs
  · rw [Bool.or_eq_false_iff, decide_eq_false_iff_not, decide_eq_false_iff_not]
    omega
  · have e : seqIndex? (i : Int) x.length = some i := by
      unfold seqIndex?
      have h1 : ¬ ((i : Int) < 0) := by omega
      have h2 : (i : Int) < (x.length : Int) := by omega
      simp [h1, h2]
    rw [e]
    exact hc
theorem up_at {i : Nat} (hi : i < 11) (h : ∀ u tk, Q (.str (upC i) u) { s with toks := tk })
    (hs : subscripted slice false (.str "ABCDEFGHIJK" t) (.int (i : Nat) u) = operate [.int (i : Nat) u] (getItem (.str "ABCDEFGHIJK" t) (.int (i : Nat) u))) :
    wpAny (model prog w) A (subscriptTail value slice (.str "ABCDEFGHIJK" t) (.int (i : Nat) u)) Q E s := by
  have e : ∀ i : Fin 11, ("ABCDEFGHIJK" : Str).cps[i.val]? = some (65 + i.val) := by decide +kernel
  exact letter_at (by omega) (by decide +kernel) (e ⟨i, hi⟩) h hs
theorem lo_at {i : Nat} (hi : i < 11) (h : ∀ u tk, Q (.str (loC i) u) { s with toks := tk })
    (hs : subscripted slice false (.str "abcdefghijk" t) (.int (i : Nat) u) = operate [.int (i : Nat) u] (getItem (.str "abcdefghijk" t) (.int (i : Nat) u))) :
    wpAny (model prog w) A (subscriptTail value slice (.str "abcdefghijk" t) (.int (i : Nat) u)) Q E s := by
  have e : ∀ i : Fin 11, ("abcdefghijk" : Str).cps[i.val]? = some (97 + i.val) := by decide +kernel
  exact letter_at (by omega) (by decide +kernel) (e ⟨i, hi⟩) h hs
theorem ints_at {vs : List Value} {ns : List Int} (N : News h₀ L s.heap news) (hl : (l, listOf vs.toArray k) ∈ news) (hv : IntsAre vs ns) {o : Int} {i : Nat} {n : Int} (ho : o = i) (hi : ns[i]? = some n) (hz : ns.length ≤ 10000)
    (h : ∀ u, Q (.int n u) s) (hs : subscripted slice false (.ref l) (.int o t) = operate [.ref l, .int o t] (getItem (.ref l) (.int o t))) :
    wpAny (model prog w) A (subscriptTail value slice (.ref l) (.int o t)) Q E s := by
  subst ho
  have hL : s.heap.IsList l vs.toArray := ⟨_, N.get hl, rfl, k, rfl⟩
  have hlt : i < ns.length := (List.getElem?_eq_some_iff.mp hi).1
  have hx : ∀ {vs : List Value} {ns : List Int} {i : Nat} {n : Int}, IntsAre vs ns → ns[i]? = some n → ∃ u, vs[i]? = some (Value.int n u) := by
    intro vs ns i n hv
    induction hv generalizing i with
    | nil => intro h; simp at h
    | cons m t r ih =>
      intro h
      cases i with
      | zero => simp at h; subst h; exact ⟨t, rfl⟩
      | succ i => simpa using ih (by simpa using h)
  obtain ⟨u, hu⟩ := hx hv hi
  exact tail_any hL.typeIs slot_list_getitem.lookup (wpAny_getItem_list hL (by omega) (by omega) (by simpa using hu) (h u)) hs
end
theorem low_up : ∀ i : Fin 11, PySem.Txt.lower (upC i.val) = loC i.val ∧ PySem.Txt.lower (loC i.val) = loC i.val := by decide +kernel
theorem ok_letters : ∀ i : Fin 11, okName (upC i.val) = true ∧ okName (loC i.val) = true ∧ okVal (upC i.val) = true ∧ (upC i.val).length = 1 ∧ (loC i.val).length = 1 := by decide +kernel
theorem lo_inj : ∀ i j : Fin 11, loC i.val = loC j.val → i = j := by decide +kernel
theorem low_nm : ∀ c : Col, PySem.Txt.lower (nm c) = nm c ∧ PySem.Txt.lower (PySem.Txt.upper (nm c)) = nm c := by decide +kernel
end Mine
end

section
set_option Elab.async false
namespace Mine
structure LS where
  plain : List Col
  rim : List Nat
  cuts : List (Nat × Nat × Nat)
def LS.one (st : LS) (k : Nat) : Nat := st.rim.getD k 0
def LS.other (st : LS) (k : Nat) : Nat := st.rim.getD ((k + 1) % st.rim.length) 0
def LS.col (st : LS) (i : Nat) : Col := st.plain.getD i 0
def LS.at (st : LS) (v : Int) : Nat := (v.fmod st.rim.length).toNat
def LS.step (st : LS) (v : Int) : LS :=
  let k := st.at v
  ⟨st.plain ++ [third (st.col (st.one k)) (st.col (st.other k))], st.rim.insertIdx (k + 1) st.plain.length, st.cuts ++ [(st.one k, st.plain.length, st.other k)]⟩
structure LS.Ok (st : LS) (n : Nat) : Prop where
  len : st.plain.length = n + 3
  rim : st.rim.length = n + 3
  cuts : st.cuts.length = n + 1
  low : ∀ k, k < n + 3 → st.one k < n + 3
  near : ∀ k, k < n + 3 → st.col (st.one k) ≠ st.col (st.other k)
  each : ∀ c ∈ st.cuts, c.1 < n + 3 ∧ c.2.1 < n + 3 ∧ c.2.2 < n + 3 ∧ st.col c.1 ≠ st.col c.2.1 ∧ st.col c.2.1 ≠ st.col c.2.2 ∧ st.col c.1 ≠ st.col c.2.2
theorem third_ne : ∀ a b : Col, a ≠ b → third a b ≠ a ∧ third a b ≠ b := by decide +kernel
section
variable {st : LS} {n : Nat} {v : Int}
theorem LS.Ok.at_lt (h : st.Ok n) : st.at v < n + 3 := by
  unfold LS.at
  rw [h.rim]
  have h1 := Int.fmod_nonneg_of_pos v (b := ((n + 3 : Nat) : Int)) (by omega)
  have h2 := Int.fmod_lt_of_pos v (b := ((n + 3 : Nat) : Int)) (by omega)
  omega
theorem LS.Ok.one_step (h : st.Ok n) {j : Nat} (hj : j < n + 4) : (st.step v).one j = if j < st.at v + 1 then st.one j else if j = st.at v + 1 then n + 3 else st.one (j - 1) := by
  have hk := h.at_lt (v := v)
  show (st.rim.insertIdx (st.at v + 1) st.plain.length).getD j 0 = _
  rw [List.getD_eq_getElem?_getD, List.getElem?_insertIdx, h.rim, h.len]
  by_cases c1 : j < st.at v + 1
  · rw [if_pos c1, if_pos c1]; simp [LS.one, List.getD_eq_getElem?_getD]
  · rw [if_neg c1, if_neg c1]
    by_cases c2 : j = st.at v + 1
    · rw [if_pos c2, if_pos c2, if_pos (by omega)]; rfl
    · rw [if_neg c2, if_neg c2]; simp [LS.one, List.getD_eq_getElem?_getD]
theorem LS.Ok.col_old (h : st.Ok n) {i : Nat} (hi : i < n + 3) : (st.step v).col i = st.col i := by
  show (st.plain ++ [_]).getD i 0 = st.plain.getD i 0
  simp [List.getD_eq_getElem?_getD, List.getElem?_append, h.len, hi]
theorem LS.Ok.col_new (h : st.Ok n) : (st.step v).col (n + 3) = third (st.col (st.one (st.at v))) (st.col (st.other (st.at v))) := by
  show (st.plain ++ [_]).getD (n + 3) 0 = _
  simp [List.getD_eq_getElem?_getD, List.getElem?_append, h.len]
theorem LS.Ok.other_is (h : st.Ok n) {k : Nat} : st.other k = st.one ((k + 1) % (n + 3)) := by unfold LS.other LS.one; rw [h.rim]
theorem LS.Ok.rim_step (h : st.Ok n) : (st.step v).rim.length = n + 4 := by
  show (st.rim.insertIdx _ _).length = _
  rw [List.length_insertIdx, h.rim, if_pos (by have := h.at_lt (v := v); omega)]
theorem LS.Ok.other_step (h : st.Ok n) {j : Nat} : (st.step v).other j = (st.step v).one ((j + 1) % (n + 4)) := by unfold LS.other LS.one; rw [h.rim_step]
theorem LS.Ok.low_other (h : st.Ok n) {k : Nat} : st.other k < n + 3 := by rw [h.other_is]; exact h.low _ (Nat.mod_lt _ (by omega))
theorem LS.Ok.step (h : st.Ok n) : (st.step v).Ok (n + 1) where
  len := by show (st.plain ++ [_]).length = _; simp [h.len]
  rim := h.rim_step
  cuts := by show (st.cuts ++ [_]).length = _; simp [h.cuts]
  low := fun k hk => by
    rw [h.one_step (by omega)]
    have hat := h.at_lt (v := v)
    split
    · have := h.low k (by omega); omega
    · split
      · omega
      · have := h.low (k - 1) (by omega); omega
  near := fun j hj => by
    have hat := h.at_lt (v := v)
    have hnear := h.near (st.at v) hat
    have ht := third_ne _ _ hnear
    rw [h.other_step]
    generalize hk : st.at v = k at hat hnear ht
    have o : ∀ i, i < n + 4 → (st.step v).one i = if i < k + 1 then st.one i else if i = k + 1 then n + 3 else st.one (i - 1) := fun i hi => by rw [h.one_step hi, hk]
    have cn : (st.step v).col (n + 3) = third (st.col (st.one k)) (st.col (st.other k)) := by rw [h.col_new, hk]
    rcases Nat.lt_trichotomy j k with c | c | c
    · rw [Nat.mod_eq_of_lt (by omega), o j (by omega), o (j + 1) (by omega), if_pos (by omega), if_pos (by omega), h.col_old (h.low _ (by omega)), h.col_old (h.low _ (by omega))]
      have := h.near j (by omega)
      rwa [h.other_is, Nat.mod_eq_of_lt (by omega)] at this
    · subst c
      rw [Nat.mod_eq_of_lt (by omega), o j (by omega), o (j + 1) (by omega), if_pos (by omega), if_neg (by omega), if_pos rfl, h.col_old (h.low _ (by omega)), cn]
      exact fun e => ht.1 e.symm
    · by_cases c2 : j = k + 1
      · subst c2
        rw [o (k + 1) (by omega), if_neg (by omega), if_pos rfl, cn]
        by_cases c3 : k + 2 < n + 4
        · rw [Nat.mod_eq_of_lt (by omega), o (k + 1 + 1) (by omega), if_neg (by omega), if_neg (by omega), h.col_old (h.low _ (by omega))]
          have e : st.other k = st.one (k + 1 + 1 - 1) := by rw [h.other_is, Nat.mod_eq_of_lt (by omega)]; rfl
          rw [← e]; exact ht.2
        · have e1 : (k + 1 + 1) % (n + 4) = 0 := by have : k + 1 + 1 = n + 4 := by omega
                                                    rw [this, Nat.mod_self]
          rw [e1, o 0 (by omega), if_pos (by omega), h.col_old (h.low _ (by omega))]
          have e : st.other k = st.one 0 := by rw [h.other_is]; have : k + 1 = n + 3 := by omega
                                               rw [this, Nat.mod_self]
          rw [← e]; exact ht.2
      · rw [o j (by omega), if_neg (by omega), if_neg c2, h.col_old (h.low _ (by omega))]
        have hn := h.near (j - 1) (by omega)
        rw [h.other_is] at hn
        by_cases c3 : j + 1 < n + 4
        · rw [Nat.mod_eq_of_lt (by omega), o (j + 1) (by omega), if_neg (by omega), if_neg (by omega), h.col_old (h.low _ (by omega))]
          rw [Nat.mod_eq_of_lt (by omega)] at hn
          have e : j - 1 + 1 = j + 1 - 1 := by omega
          rwa [e] at hn
        · have e1 : (j + 1) % (n + 4) = 0 := by have : j + 1 = n + 4 := by omega
                                                rw [this, Nat.mod_self]
          have e2 : (j - 1 + 1) % (n + 3) = 0 := by have : j - 1 + 1 = n + 3 := by omega
                                                    rw [this, Nat.mod_self]
          rw [e2] at hn
          rw [e1, o 0 (by omega), if_pos (by omega), h.col_old (h.low _ (by omega))]
          exact hn
  each := fun c hc => by
    have hat := h.at_lt (v := v)
    have hnear := h.near (st.at v) hat
    have ht := third_ne _ _ hnear
    rcases List.mem_append.mp hc with hc | hc
    · obtain ⟨h1, h2, h3, h4, h5, h6⟩ := h.each c hc
      rw [h.col_old h1, h.col_old h2, h.col_old h3]
      exact ⟨by omega, by omega, by omega, h4, h5, h6⟩
    · rw [List.mem_singleton] at hc
      subst hc
      have l1 := h.low _ hat
      have l2 := h.low_other (k := st.at v)
      dsimp only
      rw [h.len, h.col_old l1, h.col_old l2, h.col_new]
      exact ⟨by omega, by omega, by omega, fun e => ht.1 e.symm, ht.2, hnear⟩
end
end Mine
end

section
set_option Elab.async false
namespace Mine
def st0 (o : Int) : LS := ⟨[0, if o = 0 then 1 else 2, if o = 0 then 2 else 1], [0, 1, 2], [(0, 1, 2)]⟩
theorem st0_ok {o : Int} : (st0 o).Ok 0 := by
  by_cases h : o = 0
  · have e : st0 o = ⟨[0, 1, 2], [0, 1, 2], [(0, 1, 2)]⟩ := by unfold st0; rw [if_pos h, if_pos h]
    rw [e]
    exact ⟨rfl, rfl, rfl, by decide, by decide, by decide⟩
  · have e : st0 o = ⟨[0, 2, 1], [0, 1, 2], [(0, 1, 2)]⟩ := by unfold st0; rw [if_neg h, if_neg h]
    rw [e]
    exact ⟨rfl, rfl, rfl, by decide, by decide, by decide⟩
def sumR (f : Nat → Int) : Nat → Int
  | 0 => 0
  | n + 1 => sumR f n + f n
theorem sumR_ext {f g : Nat → Int} : ∀ {n : Nat}, (∀ j, j < n → f j = g j) → sumR f n = sumR g n
  | 0, _ => rfl
  | n + 1, h => by rw [sumR, sumR, sumR_ext fun j hj => h j (by omega), h n (by omega)]
theorem sumR_ins {f g : Nat → Int} {k : Nat} : ∀ {n : Nat}, k < n → (∀ j, j < k → g j = f j) → (∀ j, k + 1 < j → j < n + 1 → g j = f (j - 1)) → sumR g (n + 1) = sumR f n - f k + g k + g (k + 1)
  | 0, h, _, _ => absurd h (Nat.not_lt_zero _)
  | n + 1, h, h1, h2 => by
    by_cases c : k = n
    · subst c
      have e : sumR g k = sumR f k := sumR_ext h1
      rw [sumR, sumR, e, sumR]
      omega
    · have ih := sumR_ins (n := n) (f := f) (g := g) (by omega) h1 (fun j a b => h2 j a (by omega))
      rw [sumR, ih, sumR, h2 (n + 1) (by omega) (by omega)]
      have e : n + 1 - 1 = n := rfl
      rw [e]
      omega
def sg (t : Int) : Int := if t = 1 then 1 else if t = 2 then -1 else 0
/-- the edge from a to b -/
def ed (a b : Col) : Int := sg (turnC b a)
theorem ed_ins : ∀ a b : Col, a ≠ b → ed a (third a b) + ed (third a b) b = ed a b + (ed b a + ed a (third a b) + ed (third a b) b) := by
  unfold ed
  rw [turnC_eq]
  decide +kernel
def LS.turns (st : LS) : Int := sumR (fun k => ed (st.col (st.one k)) (st.col (st.other k))) st.rim.length
def cutT (st : LS) (c : Nat × Nat × Nat) : Int := ed (st.col c.2.2) (st.col c.1) + ed (st.col c.1) (st.col c.2.1) + ed (st.col c.2.1) (st.col c.2.2)
def LS.cutsT (st : LS) : Int := (st.cuts.map (cutT st)).sum
section
variable {st : LS} {n : Nat} {v : Int}
theorem LS.Ok.cutT_old (h : st.Ok n) {c : Nat × Nat × Nat} (hc : c ∈ st.cuts) : cutT (st.step v) c = cutT st c := by
  obtain ⟨h1, h2, h3, _⟩ := h.each c hc
  unfold cutT
  rw [h.col_old h1, h.col_old h2, h.col_old h3]
theorem LS.Ok.turns_step (h : st.Ok n) : (st.step v).turns = st.turns + cutT (st.step v) (st.one (st.at v), st.plain.length, st.other (st.at v)) := by
  have hat := h.at_lt (v := v)
  have hnear := h.near (st.at v) hat
  unfold LS.turns
  rw [h.rim_step, h.rim]
  have l1 := h.low _ hat
  have l2 := h.low_other (k := st.at v)
  generalize hk : st.at v = k at hat hnear l1 l2
  have o : ∀ i, i < n + 4 → (st.step v).one i = if i < k + 1 then st.one i else if i = k + 1 then n + 3 else st.one (i - 1) := fun i hi => by rw [h.one_step hi, hk]
  have cn : (st.step v).col (n + 3) = third (st.col (st.one k)) (st.col (st.other k)) := by rw [h.col_new, hk]
  have ok0 : (st.step v).one 0 = st.one 0 := by rw [o 0 (by omega), if_pos (by omega)]
  have f1 : ∀ j, j < k → ed ((st.step v).col ((st.step v).one j)) ((st.step v).col ((st.step v).other j)) = ed (st.col (st.one j)) (st.col (st.other j)) := fun j hj => by
    rw [h.other_step, Nat.mod_eq_of_lt (by omega), o j (by omega), o (j + 1) (by omega), if_pos (by omega), if_pos (by omega), h.col_old (h.low _ (by omega)), h.col_old (h.low _ (by omega)), h.other_is, Nat.mod_eq_of_lt (by omega)]
  have f2 : ∀ j, k + 1 < j → j < n + 3 + 1 → ed ((st.step v).col ((st.step v).one j)) ((st.step v).col ((st.step v).other j)) = ed (st.col (st.one (j - 1))) (st.col (st.other (j - 1))) := fun j hj hj2 => by
    rw [h.other_step, o j (by omega), if_neg (by omega), if_neg (by omega), h.col_old (h.low _ (by omega)), h.other_is]
    by_cases c3 : j + 1 < n + 4
    · rw [Nat.mod_eq_of_lt (by omega), o (j + 1) (by omega), if_neg (by omega), if_neg (by omega), h.col_old (h.low _ (by omega)), Nat.mod_eq_of_lt (by omega)]
      have e : j - 1 + 1 = j + 1 - 1 := by omega
      rw [e]
    · have e1 : (j + 1) % (n + 4) = 0 := by have : j + 1 = n + 4 := by omega
                                            rw [this, Nat.mod_self]
      have e2 : (j - 1 + 1) % (n + 3) = 0 := by have : j - 1 + 1 = n + 3 := by omega
                                                rw [this, Nat.mod_self]
      rw [e1, e2, ok0, h.col_old (h.low _ (by omega))]
  rw [sumR_ins hat f1 f2]
  have g1 : ed ((st.step v).col ((st.step v).one k)) ((st.step v).col ((st.step v).other k)) = ed (st.col (st.one k)) (third (st.col (st.one k)) (st.col (st.other k))) := by
    rw [h.other_step, Nat.mod_eq_of_lt (by omega), o k (by omega), o (k + 1) (by omega), if_pos (by omega), if_neg (by omega), if_pos rfl, h.col_old l1, cn]
  have g2 : ed ((st.step v).col ((st.step v).one (k + 1))) ((st.step v).col ((st.step v).other (k + 1))) = ed (third (st.col (st.one k)) (st.col (st.other k))) (st.col (st.other k)) := by
    rw [h.other_step, o (k + 1) (by omega), if_neg (by omega), if_pos rfl, cn]
    by_cases c3 : k + 2 < n + 4
    · rw [Nat.mod_eq_of_lt (by omega), o (k + 1 + 1) (by omega), if_neg (by omega), if_neg (by omega), h.col_old (h.low _ (by omega)), h.other_is, Nat.mod_eq_of_lt (by omega)]
      rfl
    · have e1 : (k + 1 + 1) % (n + 4) = 0 := by have : k + 1 + 1 = n + 4 := by omega
                                                rw [this, Nat.mod_self]
      have e2 : (k + 1) % (n + 3) = 0 := by have : k + 1 = n + 3 := by omega
                                            rw [this, Nat.mod_self]
      rw [e1, ok0, h.col_old (h.low _ (by omega)), h.other_is, e2]
  rw [g1, g2]
  unfold cutT
  dsimp only
  rw [h.len, h.col_old l1, h.col_old l2, cn]
  have := ed_ins _ _ hnear
  omega
theorem LS.Ok.cutsT_step (h : st.Ok n) : (st.step v).cutsT = st.cutsT + cutT (st.step v) (st.one (st.at v), st.plain.length, st.other (st.at v)) := by
  show ((st.cuts ++ [_]).map (cutT (st.step v))).sum = _
  rw [List.map_append, List.sum_append]
  have e : st.cuts.map (cutT (st.step v)) = st.cuts.map (cutT st) := List.map_congr_left fun c hc => h.cutT_old hc
  rw [e]
  simp [LS.cutsT]
end
def runL (o : Int) (items : List Int) : LS := items.foldl LS.step (st0 o)
theorem runL_snoc (o : Int) (items : List Int) (v : Int) : runL o (items ++ [v]) = (runL o items).step v := by unfold runL; rw [List.foldl_append]; rfl
theorem run_all (o : Int) (items : List Int) : (runL o items).Ok items.length ∧ (runL o items).turns = (runL o items).cutsT := by
  have h : ∀ r : List Int, (runL o r.reverse).Ok r.reverse.length ∧ (runL o r.reverse).turns = (runL o r.reverse).cutsT := by
    intro r
    induction r with
    | nil =>
      refine ⟨st0_ok, ?_⟩
      show (st0 o).turns = (st0 o).cutsT
      by_cases h : o = 0
      · have e : st0 o = ⟨[0, 1, 2], [0, 1, 2], [(0, 1, 2)]⟩ := by unfold st0; rw [if_pos h, if_pos h]
        rw [e]; decide +kernel
      · have e : st0 o = ⟨[0, 2, 1], [0, 1, 2], [(0, 1, 2)]⟩ := by unfold st0; rw [if_neg h, if_neg h]
        rw [e]; decide +kernel
    | cons v l ih =>
      rw [List.reverse_cons, runL_snoc, List.length_append]
      refine ⟨ih.1.step, ?_⟩
      rw [ih.1.turns_step, ih.1.cutsT_step, ih.2]
  simpa using h items.reverse
end Mine
end

section
set_option Elab.async false
namespace Mine
open PySem PySem.W PyProof.Rows
theorem getC_put (k : Str) (i : Int) : ∀ (c : List (Str × Int)) (x : Str), getC (putC k i c) x = if x = k then some i else getC c x := by
  have hmap : ∀ (c : List (Str × Int)) (x : Str), x ≠ k → getC (c.map fun q => if q.1 = k then (q.1, i) else q) x = getC c x := by
    intro c x hx
    induction c with
    | nil => rfl
    | cons q r ih =>
      unfold getC at ih ⊢
      rw [List.map_cons, List.find?_cons, List.find?_cons]
      by_cases hq : q.1 = k
      · rw [if_pos hq]
        dsimp only
        have h1 : decide (q.1 = x) = false := decide_eq_false (fun e => hx (e.symm.trans hq))
        rw [h1]
        exact ih
      · rw [if_neg hq]
        cases decide (q.1 = x)
        · exact ih
        · rfl
  have hhit : ∀ (c : List (Str × Int)), (c.any fun q => decide (q.1 = k)) = true → getC (c.map fun q => if q.1 = k then (q.1, i) else q) k = some i := by
    intro c
    induction c with
    | nil => intro h; simp at h
    | cons q r ih =>
      intro h
      unfold getC at ih ⊢
      rw [List.map_cons, List.find?_cons]
      by_cases hq : q.1 = k
      · rw [if_pos hq]
        dsimp only
        rw [decide_eq_true hq]
        rfl
      · rw [if_neg hq, decide_eq_false hq]
        rw [List.any_cons, decide_eq_false hq, Bool.false_or] at h
        exact ih h
  have happ : ∀ (c : List (Str × Int)) (x : Str), (c.any fun q => decide (q.1 = k)) = false → getC (c ++ [(k, i)]) x = if x = k then some i else getC c x := by
    intro c x h
    induction c with
    | nil =>
      unfold getC
      rw [List.nil_append, List.find?_cons]
      dsimp only
      by_cases hx : x = k
      · rw [if_pos hx, decide_eq_true hx.symm]; rfl
      · rw [if_neg hx, decide_eq_false (Ne.symm hx)]
    | cons q r ih =>
      rw [List.any_cons, Bool.or_eq_false_iff, decide_eq_false_iff_not] at h
      have ih := ih h.2
      unfold getC at ih ⊢
      rw [List.cons_append, List.find?_cons, List.find?_cons]
      by_cases hq : q.1 = x
      · rw [decide_eq_true hq, if_neg (fun e => h.1 (hq.trans e))]
      · rw [decide_eq_false hq]
        exact ih
  intro c x
  unfold putC
  by_cases h : (c.any fun q => decide (q.1 = k)) = true
  · rw [if_pos h]
    by_cases hx : x = k
    · rw [if_pos hx, hx]; exact hhit c h
    · rw [if_neg hx]; exact hmap c x hx
  · rw [if_neg h]
    exact happ c x (eq_false_of_ne_true h)
def valC (c : List (Str × Int)) (x : Str) : Int := (getC c x).getD 0
def KeysOnce (c : List (Str × Int)) : Prop := (c.map (·.1)).Nodup
theorem once_nil : KeysOnce [] := List.nodup_nil
theorem once_put {c : List (Str × Int)} (k : Str) (i : Int) (h : KeysOnce c) : KeysOnce (putC k i c) := by
  unfold KeysOnce putC at *
  by_cases e : (c.any fun q => decide (q.1 = k)) = true
  · rw [if_pos e, List.map_map]
    have : ((fun (q : Str × Int) => q.1) ∘ fun q => if q.1 = k then (q.1, i) else q) = fun q => q.1 := by
      funext q
      show (if q.1 = k then (q.1, i) else q).1 = q.1
      split <;> rfl
    rw [this]
    exact h
  · rw [if_neg e, List.map_append]
    rw [List.nodup_append]
    refine ⟨h, by simp, ?_⟩
    intro a ha b hb
    rw [List.map_cons, List.map_nil, List.mem_singleton] at hb
    rintro rfl
    rw [hb] at ha
    obtain ⟨q, hq, hqe⟩ := List.mem_map.mp ha
    exact e (List.any_eq_true.mpr ⟨q, hq, decide_eq_true hqe⟩)
theorem getC_none {c : List (Str × Int)} {x : Str} (h : x ∉ c.map (·.1)) : getC c x = none := by
  unfold getC
  rw [Option.map_eq_none_iff, List.find?_eq_none]
  intro q hq
  rw [decide_eq_true_eq]
  rintro rfl
  exact h (List.mem_map.mpr ⟨q, hq, rfl⟩)
theorem getC_copy : ∀ (c acc : List (Str × Int)) (x : Str), KeysOnce c → getC (c.foldl putF acc) x = if (getC c x).isSome then getC c x else getC acc x
  | [], acc, x, _ => rfl
  | (k, i) :: r, acc, x, h => by
    have h2 : k ∉ r.map (·.1) ∧ KeysOnce r := List.nodup_cons.mp h
    rw [List.foldl_cons, getC_copy r _ x h2.2]
    have e : getC ((k, i) :: r) x = if k = x then some i else getC r x := by
      unfold getC
      rw [List.find?_cons]
      by_cases hk : k = x
      · rw [if_pos hk, decide_eq_true (show ((k, i) : Str × Int).1 = x from hk)]; rfl
      · rw [if_neg hk, decide_eq_false (show ¬ ((k, i) : Str × Int).1 = x from hk)]
    unfold putF
    rw [getC_put, e]
    by_cases hk : k = x
    · subst hk
      rw [getC_none h2.1]
      simp
    · rw [if_neg hk, if_neg (Ne.symm hk)]
theorem once_copy : ∀ (c : List (Str × Int)) {acc : List (Str × Int)}, KeysOnce acc → KeysOnce (c.foldl putF acc)
  | [], _, h => h
  | q :: r, _, h => once_copy r (once_put _ _ h)
theorem once_add : ∀ (c : List (Str × Int)) {acc : List (Str × Int)}, KeysOnce acc → KeysOnce (c.foldl addF acc)
  | [], _, h => h
  | q :: r, _, h => once_add r (once_put _ _ h)
theorem once_addC (c1 c2 : List (Str × Int)) : KeysOnce (addC c1 c2) := once_add _ (once_copy _ once_nil)
theorem getC_copy0 {c : List (Str × Int)} (h : KeysOnce c) (x : Str) : getC (c.foldl putF []) x = getC c x := by
  rw [getC_copy c [] x h]
  cases e : getC c x with
  | none => rfl
  | some i => rfl
theorem getC_addF (c : List (Str × Int)) (q : Str × Int) (x : Str) : getC (addF c q) x = if x = q.1 then some (valC c x + q.2) else getC c x := by
  unfold addF
  rw [getC_put]
  by_cases h : x = q.1
  · subst h; rfl
  · rw [if_neg h, if_neg h]
theorem valC_addF (c : List (Str × Int)) (q : Str × Int) (x : Str) : valC (addF c q) x = valC c x + if x = q.1 then q.2 else 0 := by
  unfold valC
  rw [getC_addF]
  by_cases h : x = q.1
  · rw [if_pos h, if_pos h]; rfl
  · rw [if_neg h, if_neg h, Int.add_zero]
/-- what a cut adds to the corners' counts -/
def disp (q : Nat × Nat × Nat) : List (Str × Int) := [(upC q.1, 1), (upC q.2.1, 1), (upC q.2.2, 1)]
theorem upC_inj {i j : Nat} : upC i = upC j ↔ i = j := by
  constructor
  · intro h
    unfold upC at h
    simp at h
    exact h
  · rintro rfl; rfl
theorem disp_made {q : Nat × Nat × Nat} (h1 : q.1 ≠ q.2.1) (h2 : q.2.1 ≠ q.2.2) (h3 : q.1 ≠ q.2.2) : [(upC q.1, (1 : Int)), (upC q.2.1, 1), (upC q.2.2, 1)].foldl putF [] = disp q := by
  simp [disp, putF, putC, upC_inj, h1, h2, h3]
def tally (cuts : List (Nat × Nat × Nat)) : List (Str × Int) := cuts.foldl (fun c q => addC c (disp q)) []
theorem tally_snoc (cuts : List (Nat × Nat × Nat)) (q : Nat × Nat × Nat) : tally (cuts ++ [q]) = addC (tally cuts) (disp q) := by unfold tally; rw [List.foldl_append]; rfl
theorem tally_once (cuts : List (Nat × Nat × Nat)) : KeysOnce (tally cuts) := by
  have h : ∀ r : List (Nat × Nat × Nat), KeysOnce (tally r.reverse) := by
    intro r
    cases r with
    | nil => exact once_nil
    | cons q r => rw [List.reverse_cons, tally_snoc]; exact once_addC _ _
  simpa using h cuts.reverse
theorem len_addF (c2 : List (Str × Int)) : ∀ c : List (Str × Int), (c2.foldl addF c).length ≤ c.length + c2.length := by
  induction c2 with
  | nil => intro c; exact Nat.le_refl _
  | cons q r ih => intro c; rw [List.foldl_cons, List.length_cons]; have h1 := ih (addF c q); have h2 : (addF c q).length ≤ c.length + 1 := putC_len _ _ _; omega
theorem tally_len (cuts : List (Nat × Nat × Nat)) : (tally cuts).length ≤ 3 * cuts.length := by
  have h : ∀ r : List (Nat × Nat × Nat), (tally r.reverse).length ≤ 3 * r.reverse.length := by
    intro r
    induction r with
    | nil => exact Nat.le_refl _
    | cons q r ih =>
      rw [List.reverse_cons, tally_snoc, List.length_append]
      unfold addC
      have h1 := len_addF (disp q) ((tally r.reverse).foldl putF [])
      have h2 := putF_len (tally r.reverse) []
      simp only [disp, List.length_cons, List.length_nil] at h1 h2 ⊢
      omega
  simpa using h cuts.reverse
theorem val_tally_snoc (cuts : List (Nat × Nat × Nat)) (q : Nat × Nat × Nat) (i : Nat) : valC (tally (cuts ++ [q])) (upC i) = valC (tally cuts) (upC i) + (if i = q.1 then 1 else 0) + (if i = q.2.1 then 1 else 0) + (if i = q.2.2 then 1 else 0) := by
  rw [tally_snoc]
  unfold addC
  have e : valC ((tally cuts).foldl putF []) (upC i) = valC (tally cuts) (upC i) := by unfold valC; rw [getC_copy0 (tally_once cuts)]
  simp only [disp, List.foldl_cons, List.foldl_nil, valC_addF, e, upC_inj]
theorem some_tally (cuts : List (Nat × Nat × Nat)) (i : Nat) (h : ∃ q ∈ cuts, i = q.1 ∨ i = q.2.1 ∨ i = q.2.2) : (getC (tally cuts) (upC i)).isSome = true := by
  have main : ∀ r : List (Nat × Nat × Nat), (∃ q ∈ r, i = q.1 ∨ i = q.2.1 ∨ i = q.2.2) → (getC (tally r.reverse) (upC i)).isSome = true := by
    intro r
    induction r with
    | nil => rintro ⟨q, hq, _⟩; simp at hq
    | cons q r ih =>
      intro hex
      rw [List.reverse_cons, tally_snoc]
      unfold addC
      simp only [disp, List.foldl_cons, List.foldl_nil, getC_addF, upC_inj]
      by_cases c3 : i = q.2.2
      · rw [if_pos c3]; rfl
      rw [if_neg c3]
      by_cases c2 : i = q.2.1
      · rw [if_pos c2]; rfl
      rw [if_neg c2]
      by_cases c1 : i = q.1
      · rw [if_pos c1]; rfl
      rw [if_neg c1, getC_copy0 (tally_once _)]
      obtain ⟨q', hq', hor⟩ := hex
      rcases List.mem_cons.mp hq' with rfl | hq'
      · rcases hor with h | h | h
        · exact absurd h c1
        · exact absurd h c2
        · exact absurd h c3
      · exact ih ⟨q', hq', hor⟩
  have := main cuts.reverse (by obtain ⟨q, hq, hor⟩ := h; exact ⟨q, by simpa using hq, hor⟩)
  simpa using this
end Mine
end

section
set_option Elab.async false
namespace Mine
open PySem PySem.W PyProof.Rows
theorem sumR_add {f g : Nat → Int} : ∀ n, sumR (fun i => f i + g i) n = sumR f n + sumR g n
  | 0 => rfl
  | n + 1 => by rw [sumR, sumR, sumR, sumR_add n]; omega
theorem sumR_zero : ∀ n, sumR (fun _ => 0) n = 0
  | 0 => rfl
  | n + 1 => by rw [sumR, sumR_zero n]; rfl
theorem sumR_delta {a : Nat} {v : Int} : ∀ {n : Nat}, a < n → sumR (fun i => if i = a then v else 0) n = v
  | 0, h => absurd h (Nat.not_lt_zero _)
  | n + 1, h => by
    rw [sumR]
    by_cases c : a = n
    · subst c
      rw [if_pos rfl]
      have : sumR (fun i => if i = a then v else 0) a = sumR (fun _ => 0) a := sumR_ext fun j hj => if_neg (by omega)
      rw [this, sumR_zero]
      omega
    · rw [if_neg (by omega), sumR_delta (by omega)]
      omega
theorem sum_filter {p : Nat → Bool} {f : Nat → Int} : ∀ n, (((List.range n).filter p).map f).sum = sumR (fun i => if p i then f i else 0) n
  | 0 => rfl
  | n + 1 => by
    rw [List.range_succ, List.filter_append, List.map_append, List.sum_append, sum_filter n, sumR]
    cases h : p n
    · simp [List.filter_cons, h]
    · simp [List.filter_cons, h]
theorem len_filter {p : Nat → Bool} (n : Nat) : ((((List.range n).filter p).length : Nat) : Int) = sumR (fun i => if p i then 1 else 0) n := by
  rw [← sum_filter]
  have : ∀ l : List Nat, ((l.length : Nat) : Int) = (l.map fun _ => (1 : Int)).sum := by
    intro l
    induction l with
    | nil => rfl
    | cons a l ih => rw [List.length_cons, List.map_cons, List.sum_cons, ← ih]; omega
  exact this _
def LS.shown (st : LS) : List (Str × Str) := (List.range st.plain.length).map fun i => (nm (st.col i), upC i)
def LS.of (st : LS) (c : Col) : List Nat := (List.range st.plain.length).filter fun i => decide (st.col i = c)
def LS.cnt (st : LS) (c : Col) : Nat := (st.of c).length
theorem hits_shown (st : LS) (c : Col) : hits st.shown (nm c) = (st.of c).map upC := by
  unfold hits LS.shown LS.of
  rw [List.filter_map, List.map_map]
  have e : ((fun q : Str × Str => decide (PySem.Txt.lower q.1 = nm c)) ∘ fun i => (nm (st.col i), upC i)) = fun i => decide (st.col i = c) := by
    funext i
    show decide (PySem.Txt.lower (nm (st.col i)) = nm c) = _
    rw [(low_nm _).1]
    by_cases h : st.col i = c
    · rw [h]; simp
    · rw [decide_eq_false h, decide_eq_false fun e => h (nm_inj _ _ e)]
  rw [e]
  rfl
theorem one_each : ∀ a b d c : Col, a ≠ b → b ≠ d → a ≠ d → ((if a = c then (1 : Int) else 0) + (if b = c then 1 else 0) + if d = c then 1 else 0) = 1 := by decide +kernel
theorem sum_tally {col : Nat → Col} {N : Nat} (c : Col) (cuts : List (Nat × Nat × Nat)) (h : ∀ q ∈ cuts, q.1 < N ∧ q.2.1 < N ∧ q.2.2 < N ∧ col q.1 ≠ col q.2.1 ∧ col q.2.1 ≠ col q.2.2 ∧ col q.1 ≠ col q.2.2) :
    sumR (fun i => if decide (col i = c) then valC (tally cuts) (upC i) else 0) N = (cuts.length : Nat) := by
  have main : ∀ r : List (Nat × Nat × Nat), (∀ q ∈ r, q.1 < N ∧ q.2.1 < N ∧ q.2.2 < N ∧ col q.1 ≠ col q.2.1 ∧ col q.2.1 ≠ col q.2.2 ∧ col q.1 ≠ col q.2.2) →
      sumR (fun i => if decide (col i = c) then valC (tally r.reverse) (upC i) else 0) N = (r.length : Nat) := by
    intro r
    induction r with
    | nil =>
      intro _
      have : sumR (fun i => if decide (col i = c) then valC (tally ([] : List (Nat × Nat × Nat)).reverse) (upC i) else 0) N = sumR (fun _ => 0) N := sumR_ext fun j _ => by
        show (if decide (col j = c) then (0 : Int) else 0) = 0
        split <;> rfl
      rw [this, sumR_zero]
      rfl
    | cons q r ih =>
      intro hq
      obtain ⟨h1, h2, h3, n1, n2, n3⟩ := hq q (List.mem_cons_self ..)
      have ih := ih fun q' hq' => hq q' (List.mem_cons_of_mem _ hq')
      have e : sumR (fun i => if decide (col i = c) then valC (tally (q :: r).reverse) (upC i) else 0) N =
          sumR (fun i => (((if decide (col i = c) then valC (tally r.reverse) (upC i) else 0) + (if i = q.1 then (if col q.1 = c then (1 : Int) else 0) else 0)) + (if i = q.2.1 then (if col q.2.1 = c then (1 : Int) else 0) else 0)) + (if i = q.2.2 then (if col q.2.2 = c then (1 : Int) else 0) else 0)) N := by
        refine sumR_ext fun j _ => ?_
        rw [List.reverse_cons, val_tally_snoc]
        have aux : ∀ (a : Nat), (if j = a then (if col a = c then (1 : Int) else 0) else 0) = if col j = c then (if j = a then 1 else 0) else 0 := by
          intro a
          by_cases hj : j = a
          · subst hj; simp
          · simp [hj]
        rw [aux, aux, aux]
        by_cases hc : col j = c
        · simp [hc]
        · simp [hc]
      rw [e, sumR_add, sumR_add, sumR_add, ih, sumR_delta h1, sumR_delta h2, sumR_delta h3]
      have := one_each _ _ _ c n1 n2 n3
      rw [List.length_cons]
      omega
  have := main cuts.reverse (by simpa using h)
  simpa using this
section
variable {st : LS} {n : Nat}
theorem LS.Ok.sum_of (h : st.Ok n) (c : Col) : ((hits st.shown (nm c)).map (valC (tally st.cuts))).sum = ((st.cuts.length : Nat) : Int) := by
  rw [hits_shown, List.map_map]
  unfold LS.of
  rw [sum_filter, h.len]
  exact sum_tally c st.cuts h.each
theorem LS.cnt_is (st : LS) (c : Col) : ((st.cnt c : Nat) : Int) = sumR (fun i => if decide (st.col i = c) then 1 else 0) st.plain.length := len_filter _
theorem LS.cnt_sum (st : LS) : st.cnt 0 + st.cnt 1 + st.cnt 2 = st.plain.length := by
  have h := st.cnt_is
  have e : sumR (fun i => ((if decide (st.col i = 0) then (1 : Int) else 0) + (if decide (st.col i = 1) then 1 else 0)) + (if decide (st.col i = 2) then 1 else 0)) st.plain.length = sumR (fun _ => 1) st.plain.length := sumR_ext fun j _ => by
    have : ∀ a : Col, ((if decide (a = 0) then (1 : Int) else 0) + (if decide (a = 1) then 1 else 0)) + (if decide (a = 2) then 1 else 0) = 1 := by decide +kernel
    exact this _
  rw [sumR_add, sumR_add, ← h 0, ← h 1, ← h 2] at e
  have one : ∀ n : Nat, sumR (fun _ => 1) n = n := by
    intro n
    induction n with
    | zero => rfl
    | succ n ih => rw [sumR, ih]; omega
  rw [one] at e
  omega
/-- the colours as ints -/
def LS.nums (st : LS) : List Int := st.plain.map fun c => ((c.val : Nat) : Int)
theorem LS.count_num (st : LS) (c : Col) : st.nums.count ((c.val : Nat) : Int) = st.cnt c := by
  unfold LS.nums LS.cnt LS.of
  have e : st.plain = (List.range st.plain.length).map st.col := by
    apply List.ext_getElem
    · simp
    · intro i h1 h2
      simp [LS.col, List.getD_eq_getElem?_getD, h1]
  have e2 : st.plain.map (fun c => ((c.val : Nat) : Int)) = (List.range st.plain.length).map fun i => (((st.col i).val : Nat) : Int) := by
    conv => lhs; rw [e]
    rw [List.map_map]
    rfl
  rw [e2, List.count_eq_countP, List.countP_map, List.countP_eq_length_filter]
  congr 2
  funext i
  show ((((st.col i).val : Nat) : Int) == ((c.val : Nat) : Int)) = decide (st.col i = c)
  by_cases h : st.col i = c
  · rw [h]; simp
  · rw [decide_eq_false h]
    have : (st.col i).val ≠ c.val := fun e => h (Fin.ext e)
    simp only [beq_eq_false_iff_ne, ne_eq]
    omega
theorem sg_count : ∀ l : List Int, ((l.count 1 : Nat) : Int) - ((l.count 2 : Nat) : Int) = (l.map sg).sum
  | [] => rfl
  | x :: l => by
    rw [List.map_cons, List.sum_cons, ← sg_count l, List.count_cons, List.count_cons]
    unfold sg
    by_cases h1 : x = 1
    · subst h1; simp; omega
    · by_cases h2 : x = 2
      · subst h2; simp; omega
      · simp [h1, h2]
theorem sum_range (f : Nat → Int) : ∀ n, ((List.range n).map f).sum = sumR f n
  | 0 => rfl
  | n + 1 => by rw [List.range_succ, List.map_append, List.sum_append, sum_range f n, sumR]; simp
theorem sumR_turn {g : Nat → Int} : ∀ m, sumR (fun i => if i = 0 then g m else g (i - 1)) (m + 1) = sumR g (m + 1) := by
  intro m
  have e : ∀ k, sumR (fun i => if i = 0 then g m else g (i - 1)) (k + 1) = g m + sumR g k := by
    intro k
    induction k with
    | zero => rw [sumR, sumR]; simp [sumR]
    | succ k ih =>
      rw [sumR, ih, sumR, if_neg (by omega)]
      have : k + 1 - 1 = k := rfl
      rw [this]
      omega
  rw [e m, sumR]
  omega
theorem stepsC_rim (h : st.Ok n) : stepsC (st.rim.map st.col) = st.turns := by
  unfold stepsC
  rw [sg_count]
  unfold turnsL
  rw [List.map_map, sum_range, List.length_map]
  unfold LS.turns
  rw [h.rim]
  rw [← sumR_turn (g := fun k => ed (st.col (st.one k)) (st.col (st.other k))) (n + 2)]
  refine sumR_ext fun j hj => ?_
  have at' : ∀ i, i < n + 3 → (st.rim.map st.col).getD i 0 = st.col (st.one i) := fun i hi => by
    unfold LS.one
    simp [List.getD_eq_getElem?_getD, h.rim, hi]
  show sg (turnC ((st.rim.map st.col).getD j 0) ((st.rim.map st.col).getD (prevI (n + 3) j) 0)) = _
  unfold prevI
  by_cases c : j = 0
  · subst c
    rw [if_pos rfl, if_pos rfl, at' 0 (by omega), at' _ (by omega)]
    show _ = sg (turnC _ _)
    rw [h.other_is]
    have e : (n + 2 + 1) % (n + 3) = 0 := Nat.mod_self _
    rw [e]
    rfl
  · rw [if_neg c, if_neg c, at' j (by omega), at' _ (by omega)]
    show _ = sg (turnC _ _)
    rw [h.other_is, Nat.mod_eq_of_lt (by omega)]
    have e : j - 1 + 1 = j := by omega
    rw [e]
theorem steps3 : ∀ a b c : Col, stepsC [a, b, c] = ed c a + ed a b + ed b c := by
  unfold stepsC turnsL ed
  rw [turnC_eq]
  decide +kernel
def LS.colsOf (st : LS) (q : Nat × Nat × Nat) : List Col := [st.col q.1, st.col q.2.1, st.col q.2.2]
theorem cut_steps (q : Nat × Nat × Nat) : stepsC (st.colsOf q) = cutT st q := steps3 _ _ _
theorem LS.Ok.all_turns {o : Int} {items : List Int} (e : st = runL o items) : stepsC (st.rim.map st.col) = (st.cuts.map fun q => stepsC (st.colsOf q)).sum := by
  subst e
  rw [stepsC_rim (run_all o items).1, (run_all o items).2]
  unfold LS.cutsT
  congr 2
  funext q
  exact (cut_steps q).symm
end
def Covers (st : LS) : Prop := ∀ i, i < st.plain.length → ∃ q ∈ st.cuts, i = q.1 ∨ i = q.2.1 ∨ i = q.2.2
theorem covers_run (o : Int) (items : List Int) : Covers (runL o items) := by
  have h : ∀ r : List Int, Covers (runL o r.reverse) := by
    intro r
    induction r with
    | nil =>
      intro i hi
      have hi : i < 3 := hi
      exact ⟨(0, 1, 2), List.mem_singleton.mpr rfl, by dsimp only; omega⟩
    | cons v r ih =>
      rw [List.reverse_cons, runL_snoc]
      intro i hi
      have hlen : ((runL o r.reverse).step v).plain.length = (runL o r.reverse).plain.length + 1 := by
        show (_ ++ [_]).length = _
        simp
      rw [hlen] at hi
      by_cases c : i < (runL o r.reverse).plain.length
      · obtain ⟨q, hq, hor⟩ := ih i c
        exact ⟨q, List.mem_append.mpr (.inl hq), hor⟩
      · refine ⟨_, List.mem_append.mpr (.inr (List.mem_singleton.mpr rfl)), .inr (.inl ?_)⟩
        dsimp only
        omega
  simpa using h items.reverse
end Mine
end

section
open PySem PySem.W PyProof.Rows
set_option Elab.async false
set_option maxRecDepth 100000
set_option compiler.extract_closed false
namespace Mine
noncomputable def recOf {q : Program} {loose : List Str} {XP : (Str → Option Value) → Heap → Prop} {YP : World → Heap → Prop} {r : RowW} {d : DefRec} {kwd : List (Str × PySem.Expr)} {run : Value → List Value → Sem Value} {P : Prop} (_ : WalkO q loose XP YP r d kwd run → P) : DefRec := d
noncomputable def lawR : DefRec := recOf Mine.hd
noncomputable def lawE (L fa : Addr) (cd : Value) : Env := envOfC lawR.name lawR.scope L fa cd
noncomputable def off6 : List Stmt → List Stmt
  | _ :: _ :: _ :: _ :: _ :: _ :: r => r
  | _ => []
noncomputable def off1 : List Stmt → List Stmt
  | _ :: r => r
  | _ => []
noncomputable def at6 : List Stmt := off6 lawR.body
noncomputable def at7 : List Stmt := off1 at6
/-- cuts in the ledger -/
inductive CutsIn (news : List (Addr × Obj)) : List Value → List (Nat × Nat × Nat) → Prop
  | nil : CutsIn news [] []
  | cons (p : Addr) (q : Nat × Nat × Nat) (t u v : Tok) {vs : List Value} {qs : List (Nat × Nat × Nat)} : (p, tupO [.int (q.1 : Nat) t, .int (q.2.1 : Nat) u, .int (q.2.2 : Nat) v]) ∈ news → CutsIn news vs qs → CutsIn news (.ref p :: vs) (q :: qs)
theorem CutsIn.length {news : List (Addr × Obj)} : ∀ {vs : List Value} {qs : List (Nat × Nat × Nat)}, CutsIn news vs qs → vs.length = qs.length
  | _, _, .nil => rfl
  | _, _, .cons _ _ _ _ _ _ r => by rw [List.length_cons, List.length_cons, r.length]
theorem CutsIn.get {news : List (Addr × Obj)} : ∀ {vs : List Value} {qs : List (Nat × Nat × Nat)} {i : Nat} {v : Value}, CutsIn news vs qs → vs[i]? = some v → ∃ p q t u x, v = .ref p ∧ (p, tupO [.int ((q : Nat × Nat × Nat).1 : Nat) t, .int (q.2.1 : Nat) u, .int (q.2.2 : Nat) x]) ∈ news ∧ qs[i]? = some q
  | _, _, _, _, .nil, h => by simp at h
  | _, _, 0, _, .cons p q t u x m r, h => by simp at h; exact ⟨p, q, t, u, x, h.symm, m, rfl⟩
  | _, _, i + 1, _, .cons _ _ _ _ _ _ r, h => r.get (i := i) (by simpa using h)
theorem CutsIn.mono {news news' : List (Addr × Obj)} (hs : ∀ p ∈ news, p ∈ news') : ∀ {vs : List Value} {qs : List (Nat × Nat × Nat)}, CutsIn news vs qs → CutsIn news' vs qs
  | _, _, .nil => .nil
  | _, _, .cons p q t u v m r => .cons p q t u v (hs _ m) (r.mono hs)
theorem CutsIn.snoc {news : List (Addr × Obj)} {p : Addr} {q : Nat × Nat × Nat} {t u v : Tok} (hm : (p, tupO [.int (q.1 : Nat) t, .int (q.2.1 : Nat) u, .int (q.2.2 : Nat) v]) ∈ news) : ∀ {vs : List Value} {qs : List (Nat × Nat × Nat)}, CutsIn news vs qs → CutsIn news (vs ++ [.ref p]) (qs ++ [q])
  | _, _, .nil => .cons p q t u v hm .nil
  | _, _, .cons p' q' t' u' v' m r => .cons p' q' t' u' v' m (r.snoc hm)
theorem PairsIn.snoc {news : List (Addr × Obj)} {p : Addr} {x y : Str} {t u : Tok} (hm : (p, tupO [.str x t, .str y u]) ∈ news) : ∀ {vs : List Value} {ps : List (Str × Str)}, PairsIn news vs ps → PairsIn news (vs ++ [.ref p]) (ps ++ [(x, y)])
  | _, _, .nil => .cons p x y t u hm .nil
  | _, _, .cons p' x' y' t' u' m r => .cons p' x' y' t' u' m (r.snoc hm)
theorem ints_snoc {n : Int} {t : Tok} : ∀ {vs : List Value} {ns : List Int}, IntsAre vs ns → IntsAre (vs ++ [.int n t]) (ns ++ [n])
  | _, _, .nil => .cons _ _ .nil
  | _, _, .cons m u r => .cons m u (ints_snoc r)
theorem ints_ins {n : Int} {t : Tok} : ∀ {vs : List Value} {ns : List Int} (i : Nat), IntsAre vs ns → IntsAre (vs.insertIdx i (.int n t)) (ns.insertIdx i n)
  | _, _, 0, r => .cons n t r
  | _, _, i + 1, .nil => .nil
  | _, _, i + 1, .cons m u r => .cons m u (ints_ins i r)
/-- the table's rows: the corner's letter, its paint's name -/
noncomputable def LS.rows (st : LS) : List (Str × Str) := (List.range st.plain.length).map fun i => (upC i, nm (st.col i))
theorem rows_step {st : LS} {n : Nat} (h : st.Ok n) (v : Int) : (st.step v).rows = st.rows ++ [(upC (n + 3), nm ((st.step v).col (n + 3)))] := by
  unfold LS.rows
  have e : (st.step v).plain.length = st.plain.length + 1 := by
    show (_ ++ [_]).length = _
    simp
  rw [e, List.range_succ, List.map_append, h.len]
  congr 1
  refine List.map_congr_left fun i hi => ?_
  rw [h.col_old (List.mem_range.mp hi)]
theorem look_rows {st : LS} {i : Nat} (hi : i < st.plain.length) (hz : st.plain.length ≤ 11) : look st.rows (loC i) = some (nm (st.col i)) := by
  unfold look LS.rows
  rw [List.find?_map]
  have e : ((fun q : Str × Str => decide (PySem.Txt.lower q.1 = loC i)) ∘ fun i => (upC i, nm (st.col i))) = fun j => decide (PySem.Txt.lower (upC j) = loC i) := rfl
  rw [e]
  have hf : (List.range st.plain.length).find? (fun j => decide (PySem.Txt.lower (upC j) = loC i)) = some i := by
    rw [List.find?_eq_some_iff_getElem]
    refine ⟨?_, i, by simpa using hi, by simp, ?_⟩
    · rw [decide_eq_true_eq]
      exact (low_up ⟨i, by omega⟩).1
    · intro j hj
      simp only [List.getElem_range, Bool.not_eq_true', decide_eq_false_iff_not]
      rw [(low_up ⟨j, by omega⟩).1]
      intro e
      have := lo_inj ⟨j, by omega⟩ ⟨i, by omega⟩ e
      simp only [Fin.mk.injEq] at this
      omega
  rw [hf]
  rfl
theorem rows_off {st : LS} {i : Nat} (hi : st.plain.length ≤ i) (hz : i < 11) : ∀ q ∈ st.rows, PySem.Txt.lower q.1 ≠ PySem.Txt.lower (upC i) := by
  intro q hq e
  obtain ⟨j, hj, rfl⟩ := List.mem_map.mp hq
  have hj := List.mem_range.mp hj
  dsimp only at e
  rw [(low_up ⟨j, by omega⟩).1, (low_up ⟨i, hz⟩).1] at e
  have := lo_inj ⟨j, by omega⟩ ⟨i, hz⟩ e
  simp only [Fin.mk.injEq] at this
  omega
theorem rows_short {st : LS} : ∀ q ∈ st.rows, q.1.length ≤ 100 := by
  intro q hq
  obtain ⟨j, hj, rfl⟩ := List.mem_map.mp hq
  show (1 : Nat) ≤ 100
  decide
end Mine
end

section
open PySem PySem.W PyProof.Rows
set_option Elab.async false
set_option maxRecDepth 100000
set_option maxHeartbeats 800000
namespace Mine
def Here (P : Prop) : Prop := P
theorem here {P : Prop} (h : Here P) : P := h
def numR (st : LS) : List Int := st.rim.map fun i => ((i : Nat) : Int)
def MapL (m₁ : Str → Option Value) (cl rl tb sc : Addr) : Str → Option Value := fun y => if y = Str.ofString "cuts" then some (.ref cl) else if y = Str.ofString "rim" then some (.ref rl) else if y = Str.ofString "table" then some (.ref tb) else if y = Str.ofString "script" then some (.ref sc) else m₁ y
theorem mapL_self {g : Str → Option Value} {cl rl tb sc : Addr} (h1 : g (Str.ofString "cuts") = some (.ref cl)) (h2 : g (Str.ofString "rim") = some (.ref rl)) (h3 : g (Str.ofString "table") = some (.ref tb)) (h4 : g (Str.ofString "script") = some (.ref sc)) : g = MapL g cl rl tb sc := by
  funext y
  unfold MapL
  by_cases e1 : y = Str.ofString "cuts"
  · rw [if_pos e1, e1, h1]
  by_cases e2 : y = Str.ofString "rim"
  · rw [if_neg e1, if_pos e2, e2, h2]
  by_cases e3 : y = Str.ofString "table"
  · rw [if_neg e1, if_neg e2, if_pos e3, e3, h3]
  by_cases e4 : y = Str.ofString "script"
  · rw [if_neg e1, if_neg e2, if_neg e3, if_pos e4, e4, h4]
  rw [if_neg e1, if_neg e2, if_neg e3, if_neg e4]
/-- the state of the main loop -/
structure LoopS (st : LS) (tb sc hl pl rl cl : Addr) (base : List (Addr × Obj)) (m : Str → Option Value) (nx : List (Addr × Obj)) : Prop where
  out : ∃ hs pv rv cv k1 k2 k3 k4 rest m₁, nx = (hl, listOf (hs : List Value).toArray k1) :: (pl, listOf (pv : List Value).toArray k2) :: (rl, listOf (rv : List Value).toArray k3) :: (cl, listOf (cv : List Value).toArray k4) :: rest ∧
    m = MapL m₁ cl rl tb sc ∧ PairsIn rest hs st.rows ∧ IntsAre pv st.nums ∧ IntsAre rv (numR st) ∧ CutsIn rest cv st.cuts ∧ (∀ p ∈ base, p ∈ rest) ∧ (∀ p ∈ rest, p.1 ≠ hl) ∧ (∀ p ∈ rest, p.1 ≠ pl) ∧ (∀ p ∈ rest, p.1 ≠ rl) ∧ (∀ p ∈ rest, p.1 ≠ cl)
theorem LoopS.elim {st : LS} {tb sc hl pl rl cl it L : Addr} {base : List (Addr × Obj)} {m : Str → Option Value} {nx : List (Addr × Obj)} {h₀ h : Heap} {io : Obj} {C : Prop} (J : LoopS st tb sc hl pl rl cl base m nx) (hit : ∀ p ∈ nx, p.1 ≠ it) (F : Fr h₀ L h m) (N : News h₀ L h ((it, io) :: nx))
    (k : ∀ hs pv rv cv k1 k2 k3 k4 rest m₁, PairsIn rest hs st.rows → IntsAre pv st.nums → IntsAre rv (numR st) → CutsIn rest cv st.cuts → (∀ p ∈ base, p ∈ rest) → (∀ p ∈ rest, p.1 ≠ hl) → (∀ p ∈ rest, p.1 ≠ pl) → (∀ p ∈ rest, p.1 ≠ rl) → (∀ p ∈ rest, p.1 ≠ cl) →
      @Ne Nat hl it → @Ne Nat pl it → @Ne Nat rl it → @Ne Nat cl it → (∀ p ∈ rest, p.1 ≠ it) → Fr h₀ L h (MapL m₁ cl rl tb sc) → News h₀ L h ((it, io) :: (hl, listOf (hs : List Value).toArray k1) :: (pl, listOf (pv : List Value).toArray k2) :: (rl, listOf (rv : List Value).toArray k3) :: (cl, listOf (cv : List Value).toArray k4) :: rest) → C) : C := by
  obtain ⟨hs, pv, rv, cv, k1, k2, k3, k4, rest, m₁, rfl, rfl, r1, r2, r3, r4, r5, r6, r7, r8, r9⟩ := J
  obtain ⟨i1, hit⟩ := List.forall_mem_cons.mp hit
  obtain ⟨i2, hit⟩ := List.forall_mem_cons.mp hit
  obtain ⟨i3, hit⟩ := List.forall_mem_cons.mp hit
  obtain ⟨i4, hit⟩ := List.forall_mem_cons.mp hit
  exact k hs pv rv cv k1 k2 k3 k4 rest m₁ r1 r2 r3 r4 r5 r6 r7 r8 r9 i1 i2 i3 i4 hit F N
local macro_rules | `(tactic| k_mem) => `(tactic| first | assumption | exact List.Mem.head _ | (refine' List.Mem.tail _ ?_; k_mem))
local macro_rules | `(tactic| k_all) => `(tactic| first | assumption | exact List.forall_mem_nil _ | (refine' List.forall_mem_cons.mpr ⟨?a, ?b⟩; (case a => k_ne); (case b => k_all)))
theorem ins_at {α : Type} : ∀ (l : List α) (k : Nat) (y : α), k ≤ l.length → l.insertIdx k y = l.take k ++ y :: l.drop k
  | _, 0, _, _ => rfl
  | [], k + 1, _, h => absurd h (Nat.not_succ_le_zero _)
  | x :: l, k + 1, y, h => by
    rw [List.insertIdx_succ_cons, ins_at l k y (Nat.le_of_succ_le_succ h)]
    rfl
theorem ints_got : ∀ {vs : List Value} {ns : List Int} {i : Nat} {v : Value}, IntsAre vs ns → vs[i]? = some v → ∃ z t, v = .int z t ∧ ns[i]? = some z
  | _, _, _, _, .nil, h => by simp at h
  | _, _, 0, _, .cons n t _, h => by simp at h; exact ⟨n, t, h.symm, rfl⟩
  | _, _, i + 1, _, .cons _ _ r, h => ints_got (i := i) r (by simpa using h)
theorem ins_is {l : List Value} {k : Nat} {y : Value} (h : k ≤ l.length) : kl_ins l (k : Int) y = l.insertIdx k y := by
  unfold kl_ins
  have e : (if ((k : Nat) : Int) < 0 then (((k : Nat) : Int) + (l.length : Int)).toNat else min ((k : Nat) : Int).toNat l.length) = k := by
    rw [if_neg (by omega)]
    omega
  rw [e]
  exact (ins_at l k y h).symm
section
variable {prog : Program} {w : World} {A : Around} {E : Value → Shared → Prop} {s : Shared} {h₀ : Heap} {L l : Addr} {m : Str → Option Value} {news : List (Addr × Obj)} {k : Nat} {t u : Tok} {Q : Value → Shared → Prop}
theorem len_is {vs : List Value} {n : Nat} (N : News h₀ L s.heap news) (hl : (l, listOf vs.toArray k) ∈ news) (hz : vs.length = n) (hn : n ≤ 10000) (h : ∀ u tk, Q (.int (n : Nat) u) { s with toks := tk }) :
    wpAny (model prog w) A (call (.builtin "len") [.ref l]) Q E s := len_K N hl (by omega) fun u tk => by rw [hz]; exact h u tk
theorem nat_at {value slice : PySem.Expr} {vs : List Value} {ns : List Int} (N : News h₀ L s.heap news) (hl : (l, listOf vs.toArray k) ∈ news) (hv : IntsAre vs ns) {i : Nat} {n : Int} (hi : ns[i]? = some n) (hz : ns.length ≤ 10000)
    (h : ∀ u, Q (.int n u) s) (hs : subscripted slice false (.ref l) (.int (i : Nat) t) = operate [.ref l, .int (i : Nat) t] (getItem (.ref l) (.int (i : Nat) t))) :
    wpAny (model prog w) A (subscriptTail value slice (.ref l) (.int (i : Nat) t)) Q E s := ints_at N hl hv rfl hi hz h hs
theorem app_K {D : Addr} {vs : List Value} {n : Nat} {x : Value} {news' : List (Addr × Obj)} (F : Fr h₀ L s.heap m) (N : News h₀ L s.heap news) (U : Upd D (listOf vs.toArray n) (listOf (vs ++ [x]).toArray (n + 1)) news news')
    (h : ∀ h', Fr h₀ L h' m → News h₀ L h' news' → Q .none { s with heap := h' }) (hz : vs.length ≤ 1000) : wpAny (model prog w) A (call (.builtin "list.append") [.ref D, x]) Q E s := by
  have e : (vs ++ [x]).toArray = vs.toArray.push x := by simp
  rw [e] at U
  exact append_K (its := vs.toArray) (n := n) F N U h (by rw [List.size_toArray, sizeLine_eq]; omega)
theorem insert_K {D : Addr} {vs : List Value} {n j : Nat} {y : Value} {news' : List (Addr × Obj)} (F : Fr h₀ L s.heap m) (N : News h₀ L s.heap news) (U : Upd D (listOf vs.toArray n) (listOf (vs.insertIdx (j + 1) y).toArray (n + 1)) news news')
    (h : ∀ h', Fr h₀ L h' m → News h₀ L h' news' → Q .none { s with heap := h' }) (hj : j + 1 ≤ vs.length) (hz : vs.length ≤ 1000) : wpAny (model prog w) A (call (.builtin "list.insert") [.ref D, .int ((j : Nat) + 1) u, y]) Q E s :=
  kl_insert (its := vs.toArray) (l := vs.insertIdx (j + 1) y) F N (by
    have : (((j : Nat) : Int) + 1) < 1002 := by omega
    have h0 : (0 : Int) ≤ ((j : Nat) : Int) + 1 := by omega
    unfold Builtin.List.listFitsIndex
    simp
    omega) (ins_is (k := j + 1) hj) U (by rw [sizeLine_eq]; show vs.length ≤ _; omega) h
theorem list_ne_tup {h : Heap} {a b : Addr} {vs : Array Value} {k : Nat} {xs : List Value} (h1 : h.get? a = some (listOf vs k)) (h2 : h.get? b = some (tupO xs)) : a ≠ b := fun e => by
  subst e
  rw [h1] at h2
  have := congrArg (Option.map Obj.cls) h2
  simp [W.listOf, tupO] at this
theorem mod_is {a b c : Int} (e : a.fmod b = c) (hb : b ≠ 0) (h : ∀ u tk, Q (.int c u) { s with toks := tk }) : wpAny (model prog w) A (binaryOp .Mod (.int a t) (.int b u)) Q E s := mod_int' hb (by rw [e]; exact h _ _)
end
theorem third_num : ∀ a b : Col, a ≠ b → (-((a.val : Nat) : Int) - ((b.val : Nat) : Int)).fmod 3 = (((third a b).val : Nat) : Int) := by decide +kernel
def StartK (prog : Program) (w : World) (A : Around) (env : Env) (target : PySem.Expr) (body : List Stmt) (Q : Flow → Shared → Prop) (E : Value → Shared → Prop) (x : Value) (s₁ : Shared) : Prop := wpAny (model prog w) A (pyIter x) (fun it s₂ => LoopK prog w A env target body Q E it s₂) E s₁
theorem For_S {prog : Program} {w : World} {A : Around} {E : Value → Shared → Prop} {s : Shared} {env : Env} {Q : Flow → Shared → Prop} {target iter : PySem.Expr} {body : List Stmt} {pos : Pos} (h : wpAny (model prog w) A (eval iter env) (fun x s₁ => StartK prog w A env target body Q E x s₁) E s)
    (hs : ∀ x, foldedSetIterable iter env x = pure x) : wpAny (model prog w) A (exec (.For target iter body [] pos) env) Q E s := For_K h hs
theorem wl_LL_1 : True := by
  k_with_none
  k_with "exec For" => (k_here; refine For_S ?_ (by intro _; with_unfolding_all rfl))
  k_with "newTuple" => (k_here; k_dflt (refine' kup_newTuple ?wqF ?wqN ?_ ?wqz; (case wqF => k_asm); (case wqN => k_asm); (case wqz => kmk_size)); intro _ _ _ _ l1; (try k_lt l1); (try (revert l1; intro _)); (try k_sweep))
  k_with "call builtin:len" => (k_here; k_dflt (refine' len_is ?wqN ?wqm ?wqz ?wqn ?_; (case wqN => k_asm); (case wqm => k_mem); (case wqz => assumption); (case wqn => omega)); intro _ _)
  k_with "binaryOp Mod int int" => (k_here; k_dflt (refine' mod_is ?wqe ?wqz ?_; (case wqe => assumption); (case wqz => omega)); intro _ _)
  k_with "subscriptTail Name Name ref int" => (k_here; (with_reducible show wpAny _ _ (subscriptTail _ _ (Value.ref _) (Value.int (Nat.cast _) _)) _ _ _); k_dflt (refine' nat_at ?wqN ?wqd ?wqv ?wqi ?wqz ?_ ?wqhs; (case wqN => k_asm); (case wqd => k_mem); (case wqv => assumption); (case wqi => assumption); (case wqz => assumption); (case wqhs => rfl)); intro _)
  k_with "subscriptTail Name BinOp ref int" => (k_here; (with_reducible show wpAny _ _ (subscriptTail _ _ (Value.ref _) (Value.int (Nat.cast _) _)) _ _ _); k_dflt (refine' nat_at ?wqN ?wqd ?wqv ?wqi ?wqz ?_ ?wqhs; (case wqN => k_asm); (case wqd => k_mem); (case wqv => assumption); (case wqi => assumption); (case wqz => assumption); (case wqhs => rfl)); intro _)
  k_with "subscriptTail" => (k_here; (with_reducible show wpAny _ _ (subscriptTail (Expr.Constant _ _ _) _ (Value.str (PySem.Str.ofString "ABCDEFGHIJK") _) (Value.int (Nat.cast _) _)) _ _ _); k_dflt (refine' up_at ?wqi ?_ ?wqhs; (case wqi => assumption); (case wqhs => rfl)); intro _ _)
  k_with "subscriptTail" => (k_here; (with_reducible show wpAny _ _ (subscriptTail (Expr.Constant _ _ _) _ (Value.str (PySem.Str.ofString "abcdefghijk") _) (Value.int (Nat.cast _) _)) _ _ _); k_dflt (refine' lo_at ?wqi ?_ ?wqhs; (case wqi => assumption); (case wqhs => rfl)); intro _ _)
  k_with "call ref" => (k_here; k_dflt (refine wpAny_call ?_; refine' t_across _ ?wqX ?wqB ?wqF ?wqN ?wqT ?wqk ?wqd ?wqu ?wqmd ?wqpd ?wqmp ?wqne ?_; (case wqX => k_asm); (case wqB => k_asm); (case wqF => k_asm); (case wqN => k_asm); (case wqT => k_asm); (case wqk => rfl); (case wqd => exact Nat.le_of_ble_eq_true rfl); (case wqu => exact Nat.le_of_ble_eq_true rfl); (case wqmd => k_mem); (case wqpd => assumption); (case wqmp => exact PaintsIn.mono (by assumption) (fun p hp => by repeat (first | exact hp | apply List.mem_cons_of_mem))); (case wqne => assumption)); intro _ _ _ _ _; (try dsimp only); (try k_sweep))
  k_with "call ref" => (k_here; k_dflt (refine wpAny_call ?_; refine' t_getitem _ ?wqX ?wqB ?wqF ?wqN ?wqT ?wqk ?wqd ?wqu ?wqm1 ?wqm2 ?wqm3 ?wqhp ?wqhz ?wqhx ?wqok ?wqhy ?_; (case wqX => k_asm); (case wqB => k_asm); (case wqF => k_asm); (case wqN => k_asm); (case wqT => k_asm); (case wqk => rfl); (case wqd => exact Nat.le_of_ble_eq_true rfl); (case wqu => exact Nat.le_of_ble_eq_true rfl); (case wqm1 => k_mem); (case wqm2 => k_mem); (case wqm3 => k_mem); (case wqhp => (refine' PairsIn.mono ?wqzzs ?wqzzh; (case wqzzh => assumption); (case wqzzs => (intro p hp; repeat (first | exact hp | apply List.mem_cons_of_mem))))); (case wqhz => exact rows_short); (case wqhx => assumption); (case wqok => assumption); (case wqhy => assumption)); intro _ _ _ _ _; (try dsimp only); (try k_sweep))
  k_with "call builtin:list.append" => (k_here; k_dflt (refine' app_K ?wqF ?wqN ?wqU ?_ ?wqz; (case wqF => k_asm); (case wqN => k_asm); (case wqU => k_upd); (case wqz => omega)); intro _ _ _; (try k_sweep))
  k_with "call builtin:list.insert" => (k_here; k_dflt (refine' insert_K ?wqF ?wqN ?wqU ?_ ?wqj ?wqz; (case wqF => k_asm); (case wqN => k_asm); (case wqU => k_upd); (case wqj => omega); (case wqz => omega)); intro _ _ _; (try k_sweep))
  k_with "setItem ref" => (k_here; refine here ?_)
  exact True.intro
theorem map_ins {α β : Type} {f : α → β} : ∀ (l : List α) (k : Nat) (y : α), (l.insertIdx k y).map f = (l.map f).insertIdx k (f y)
  | _, 0, _ => rfl
  | [], k + 1, _ => rfl
  | x :: l, k + 1, y => by
    rw [List.insertIdx_succ_cons, List.map_cons, List.map_cons, List.insertIdx_succ_cons, map_ins l k y]
theorem nums_step {st : LS} {z : Int} {k : Nat} (hat : st.at z = k) : (st.step z).nums = st.nums ++ [(((third (st.col (st.one k)) (st.col (st.other k))).val : Nat) : Int)] := by
  subst hat
  show (st.plain ++ [_]).map _ = _
  rw [List.map_append]
  rfl
theorem rim_step' {st : LS} {z : Int} {k n : Nat} (hat : st.at z = k) (hl : st.plain.length = n) : numR (st.step z) = (numR st).insertIdx (k + 1) ((n : Nat) : Int) := by
  subst hat hl
  exact map_ins _ _ _
theorem cuts_step' {st : LS} {z : Int} {k n : Nat} (hat : st.at z = k) (hl : st.plain.length = n) : (st.step z).cuts = st.cuts ++ [(st.one k, n, st.other k)] := by
  subst hat hl
  rfl
theorem rows0 {o : Int} : (st0 o).rows = [(upC 0, nm 0), (upC 1, nm (if o = 0 then 1 else 2)), (upC 2, nm (if o = 0 then 2 else 1))] := rfl
theorem t_loop (w : World) {p : Program} {loose : List Str} {mean : ExcName → Option Value} {mg mb : Str → Option Value} {h₀ : Heap} {L fa : Addr} {cd : Value} {m : Str → Option Value} {s : Shared} {Q : Flow → Shared → Prop}
  {o : Int} {script : List Int} {sv : List Value} {sc dP tb td hl pl rl cl : Addr} {hsh : Int} {kt : Tok} {n : Nat} {oP o1 o2 : Obj} {P : Col → Addr} {base : List (Addr × Obj)}
  {hs pv rv cv : List Value} {k1 k2 k3 k4 : Nat}
  (X : (Mine.hd.heap_39 w.params).In h₀) (B : Below callerA h₀ [] h₀) (F : Fr h₀ L s.heap (MapL m cl rl tb sc)) (T : Top p loose mean mg mb h₀)
  (N : News h₀ L s.heap ((hl, listOf hs.toArray k1) :: (pl, listOf pv.toArray k2) :: (rl, listOf rv.toArray k3) :: (cl, listOf cv.toArray k4) :: base))
  (hp : PairsIn base hs (st0 o).rows) (hpv : IntsAre pv (st0 o).nums) (hrv : IntsAre rv (numR (st0 o))) (hcv : CutsIn base cv (st0 o).cuts)
  (hs1 : h₀.IsList sc sv.toArray) (hs2 : IntsAre sv script) (hs3 : script.length ≤ 63)
  (b1 : ∀ p ∈ base, p.1 ≠ hl) (b2 : ∀ p ∈ base, p.1 ≠ pl) (b3 : ∀ p ∈ base, p.1 ≠ rl) (b4 : ∀ p ∈ base, p.1 ≠ cl) (d1 : hl ≠ pl) (d2 : hl ≠ rl) (d3 : hl ≠ cl) (d4 : pl ≠ rl) (d5 : pl ≠ cl) (d6 : rl ≠ cl)
  (mt : (tb, instObj 169 td) ∈ base) (mtd : (td, dictOf (entO hsh kt hl) n) ∈ base) (md : (dP, oP) ∈ base) (pd : PD PySem.Challenge.rw_pg0268_01.row.prog w oP P) (mp : PaintsIn P base)
  (c1 : (L + 1, o1) ∈ base) (e1 : o1.data = .cell (some (.ref dP))) (c2 : (L + 2, o2) ∈ base) (e2 : o2.data = .cell (some (.ref pl)))
  (done : ∀ m' nx h tk, LoopS (runL o (script.take 5 ++ [0, 2, 3])) tb sc hl pl rl cl base m' nx → Fr h₀ L h m' → News h₀ L h nx → wpAny (model PySem.Challenge.rw_pg0268_01.row.prog w) (callerA.deeper (lawE L fa cd)) (execs at7 (lawE L fa cd)) Q (fun _ _ => False) { s with heap := h, toks := tk }) :
  wpAny (model PySem.Challenge.rw_pg0268_01.row.prog w) (callerA.deeper (lawE L fa cd)) (execs at6 (lawE L fa cd)) Q (fun _ _ => False) s := by
  revert X; k_fill; intro X
  unfold lawE at6 at7 lawR recOf at *
  dsimp only [off6, off1] at *
  unfold MapL at F
  k_steps
  rename_i D1 ws1 h1 i1 i2 i3 lD1 l2 h2 lD2 D3 ws3 h3 FL NL hI3 lD3
  unfold StartK
  refine iter_list_K (vs := ws3) (n := 0) (news := (hl, listOf hs.toArray k1) :: (pl, listOf pv.toArray k2) :: (rl, listOf rv.toArray k3) :: (cl, listOf cv.toArray k4) :: (D3, listOf ws3.toArray 0) :: base) rfl FL (cb_drop NL ?sub) (fun i m' nx => LoopS (runL o ((script.take 5 ++ [0, 2, 3]).take i)) tb sc hl pl rl cl ((D3, listOf ws3.toArray 0) :: base) m' nx) ?h0 ?hl ?step ?done (by passes_own)
  case sub => (repeat refine sub_c (by k_mem) ?_); (repeat first | exact sub_r | refine sub_t ?_)
  case h0 =>
    have ne : ∀ a : Addr, a < D3 → D3 ≠ a := fun a h => Ne.symm (Nat.ne_of_lt h)
    exact ⟨hs, pv, rv, cv, k1, k2, k3, k4, _, m, rfl, rfl, hp.mono fun p h => List.mem_cons_of_mem _ h, hpv, hrv, hcv.mono fun p h => List.mem_cons_of_mem _ h, fun p h => h,
      List.forall_mem_cons.mpr ⟨ne _ lD3.2.2.1, b1⟩, List.forall_mem_cons.mpr ⟨ne _ lD3.2.2.2.1, b2⟩, List.forall_mem_cons.mpr ⟨ne _ lD3.2.2.2.2.1, b3⟩, List.forall_mem_cons.mpr ⟨ne _ lD3.2.2.2.2.2.1, b4⟩⟩
  case hl =>
    rintro i m' nx ⟨hs', pv', rv', cv', a1, a2, a3, a4, rest, m₁, rfl, _, _, _, _, _, hb, _⟩
    have := hb _ (List.mem_cons_self ..)
    simp [this]
  case done =>
    intro m' nx h tk hJ F' N'
    have hlen : ws3.length = (script.take 5 ++ [0, 2, 3]).length := hI3.length
    rw [hlen, List.take_length] at hJ
    dsimp only
    obtain ⟨hs', pv', rv', cv', a1, a2, a3, a4, rest, m₁, r1, r2, r3, r4, r5, r6, hb, r⟩ := hJ
    exact done m' nx h tk ⟨hs', pv', rv', cv', a1, a2, a3, a4, rest, m₁, r1, r2, r3, r4, r5, r6, fun p hp => hb p (List.mem_cons_of_mem _ hp), r⟩ F' N'
  case step =>
    clear NL FL done
    intro i v m₁ nx h tk it io hv hJ hit F₁ N₁
    refine LoopS.elim hJ hit F₁ N₁ ?_
    clear hJ hit F₁ N₁ m₁ nx
    intro hs' pv' rv' cv' a1 a2 a3 a4 rest m₂ r3 r4 r5 r6 hb r7 r8 r9 r10 iHL' iPL' iRL' iCL' iR F₁ N₁
    have iHL : @Ne Nat it hl := Ne.symm iHL'
    have iPL : @Ne Nat it pl := Ne.symm iPL'
    have iRL : @Ne Nat it rl := Ne.symm iRL'
    have iCL : @Ne Nat it cl := Ne.symm iCL'
    clear iHL' iPL' iRL' iCL'
    have hlen : ws3.length = (script.take 5 ++ [0, 2, 3]).length := hI3.length
    have hi : i < ws3.length := (List.getElem?_eq_some_iff.mp hv).1
    obtain ⟨z, tz, rfl, hz⟩ : ∃ z tz, v = Value.int z tz ∧ (script.take 5 ++ [0, 2, 3])[i]? = some z := ints_got hI3 hv
    have est : runL o ((script.take 5 ++ [0, 2, 3]).take (i + 1)) = (runL o ((script.take 5 ++ [0, 2, 3]).take i)).step z := by
      rw [List.take_add_one, hz, ← runL_snoc]
      rfl
    have ok : (runL o ((script.take 5 ++ [0, 2, 3]).take i)).Ok i := by
      have := (run_all o ((script.take 5 ++ [0, 2, 3]).take i)).1
      rwa [List.length_take, Nat.min_eq_left (by omega)] at this
    have hi8 : i < 8 := by
      rw [hlen] at hi
      simp at hi
      omega
    rw [est]
    clear est hz hv hp hpv hrv hcv hI3 lD1 lD2 lD3
    generalize runL o ((script.take 5 ++ [0, 2, 3]).take i) = st at *
    have mt' := hb _ (List.mem_cons_of_mem _ mt)
    have mtd' := hb _ (List.mem_cons_of_mem _ mtd)
    have md' := hb _ (List.mem_cons_of_mem _ md)
    have mp' : PaintsIn P rest := mp.mono fun p h => hb _ (List.mem_cons_of_mem _ h)
    have c1' := hb _ (List.mem_cons_of_mem _ c1)
    have c2' := hb _ (List.mem_cons_of_mem _ c2)
    have lr : rv'.length = i + 3 := by rw [r5.length]; simp [numR, ok.rim]
    have lp : pv'.length = i + 3 := by rw [r4.length]; simp [LS.nums, ok.len]
    have lc : cv'.length = i + 1 := by rw [r6.length, ok.cuts]
    have hk : st.at z < i + 3 := ok.at_lt
    have hk0 : z.fmod ((i + 3 : Nat) : Int) = ((st.at z : Nat) : Int) := by
      unfold LS.at
      rw [ok.rim]
      exact (Int.toNat_of_nonneg (Int.fmod_nonneg_of_pos z (b := ((i + 3 : Nat) : Int)) (by omega))).symm
    generalize hat : st.at z = k at hk hk0
    have hk1 : (((k : Nat) : Int) + 1).fmod ((i + 3 : Nat) : Int) = (((k + 1) % (i + 3) : Nat) : Int) := by
      rw [Int.fmod_eq_emod_of_nonneg _ (by omega), Int.natCast_emod]
      rfl
    have hk2 : (k + 1) % (i + 3) < i + 3 := Nat.mod_lt _ (by omega)
    have g1 : (numR st)[k]? = some ((st.one k : Nat) : Int) := by
      unfold numR LS.one
      simp [List.getD_eq_getElem?_getD, ok.rim, hk]
    have g2 : (numR st)[(k + 1) % (i + 3)]? = some ((st.other k : Nat) : Int) := by
      unfold numR LS.other
      simp [List.getD_eq_getElem?_getD, ok.rim, hk2]
    have z1 : (numR st).length ≤ 10000 := by simp [numR, ok.rim]; omega
    have z2 : st.nums.length ≤ 10000 := by simp [LS.nums, ok.len]; omega
    have ha := ok.low k hk
    have ho := ok.low_other (k := k)
    have hne := ok.near k hk
    have nums_at : ∀ a, a < i + 3 → st.nums[a]? = some (((st.col a).val : Nat) : Int) := fun a h => by
      unfold LS.nums LS.col
      simp [List.getD_eq_getElem?_getD, ok.len, h]
    have nu1 := nums_at _ ha
    have nu2 := nums_at _ ho
    have m3 := third_num _ _ hne
    have la : st.one k < 11 := by omega
    have lo : st.other k < 11 := by omega
    have ln : i + 3 < 11 := by omega
    have lows := fun j (h : j < 11) => low_up ⟨j, h⟩
    have oks := fun j (h : j < 11) => ok_letters ⟨j, h⟩
    have xa : (loC (st.one k)).length ≤ 100 := (by decide : (1 : Nat) ≤ 100)
    have xo : (loC (st.other k)).length ≤ 100 := (by decide : (1 : Nat) ≤ 100)
    have ka : okName (PySem.Txt.lower (loC (st.one k))) = true := by
      have h1 := (lows _ la).2
      dsimp only at h1
      rw [h1]
      exact (oks _ la).2.1
    have ko : okName (PySem.Txt.lower (loC (st.other k))) = true := by
      have h1 := (lows _ lo).2
      dsimp only at h1
      rw [h1]
      exact (oks _ lo).2.1
    have hzz : st.plain.length ≤ 11 := by rw [ok.len]; omega
    have ya : look st.rows (PySem.Txt.lower (loC (st.one k))) = some (nm (st.col (st.one k))) := by
      have h1 := (lows _ la).2
      dsimp only at h1
      rw [h1]
      exact look_rows (by rw [ok.len]; exact ha) hzz
    have yo : look st.rows (PySem.Txt.lower (loC (st.other k))) = some (nm (st.col (st.other k))) := by
      have h1 := (lows _ lo).2
      dsimp only at h1
      rw [h1]
      exact look_rows (by rw [ok.len]; exact ho) hzz
    clear nums_at lows oks b1 b2 b3 b4
    unfold MapL at F₁
    have n1 : @Ne Nat hl pl := d1
    have n2 : @Ne Nat hl rl := d2
    have n3 : @Ne Nat hl cl := d3
    have n4 : @Ne Nat pl rl := d4
    have n5 : @Ne Nat pl cl := d5
    have n6 : @Ne Nat rl cl := d6
    k_steps
    unfold Here
    rename News _ _ _ _ => NN
    k_dflt (refine' ksp_setItem ?F ?X ?I ?hQ ?hS ?hF ?_; (case F => k_asm); (case X => k_asm); (case I => k_inst); (case hS => k_is); (case hF => k_is); (case hQ => k_is))
    k_dflt refine wpAny_call ?_
    refine t_setitem (hl := hl) (vs := hs') (k := a1) (ps := st.rows) (news := (it, io) :: (pl, listOf pv'.toArray a2) :: (rl, listOf rv'.toArray a3) :: (cl, listOf cv'.toArray a4) :: rest) _ (by k_asm) (by k_asm) (by k_asm) ?N (by k_asm) rfl (Nat.le_of_ble_eq_true rfl) (Nat.le_of_ble_eq_true rfl) (by k_mem) (by k_mem) (by k_all) ?hp rows_short ?hz ?hx ?ok ?ok1 ?ok2 ?hno ?_
    case N =>
      refine cb_drop NN ?_
      (repeat refine sub_c (by k_mem) ?_); (repeat first | exact sub_r | refine sub_t ?_)
    case hp => exact r3.mono fun p h => by repeat (first | exact h | apply List.mem_cons_of_mem)
    case hz => simp [LS.rows, ok.len]; omega
    case hx => exact (by decide : (1 : Nat) ≤ 100)
    case ok =>
      rw [(low_up ⟨i + 3, ln⟩).1]
      exact (ok_letters ⟨i + 3, ln⟩).2.1
    case ok1 => exact (ok_letters ⟨i + 3, ln⟩).1
    case ok2 => exact (ok_nm _).2
    case hno => exact rows_off (by rw [ok.len]; exact Nat.le_refl _) ln
    clear NN
    intro PP u1 u2 k' h5 tk5 F5 N5 l5
    have nP : @Ne Nat PP hl := Ne.symm (list_ne_tup (N5 _ (List.mem_cons_self ..)).1 (N5 _ (List.mem_cons_of_mem _ (List.mem_cons_self ..))).1)
    k_lt l5
    (try dsimp only)
    (try k_sweep)
    k_steps
    rename_i DD hD lDD hE tkE hF FF NN
    obtain ⟨tA, tB, tC, tD, tE, tF, tG, NN⟩ : ∃ tA tB tC tD tE tF tG, News h₀ L hF ((DD, tupO [.int ((st.one k : Nat) : Int) tA, .int ((i + 3 : Nat) : Int) tB, .int ((st.other k : Nat) : Int) tC]) :: (hl, W.listOf (hs' ++ [Value.ref PP]).toArray k') :: (PP, tupO [.str (upC (i + 3)) tD, .str (nm (third (st.col (st.one k)) (st.col (st.other k)))) tE]) :: (it, io) ::
      (pl, W.listOf (pv' ++ [Value.int (((third (st.col (st.one k)) (st.col (st.other k))).val : Nat) : Int) tF]).toArray (a2 + 1)) :: (rl, W.listOf (rv'.insertIdx (k + 1) (Value.int ((i + 3 : Nat) : Int) tG)).toArray (a3 + 1)) :: (cl, W.listOf (cv' ++ [Value.ref DD]).toArray (a4 + 1)) :: rest) := ⟨_, _, _, _, _, _, _, NN⟩
    have cols : (st.step z).col (i + 3) = third (st.col (st.one k)) (st.col (st.other k)) := by rw [ok.col_new, hat]
    have ltNe : ∀ {a b : Addr}, @LT.lt Nat _ a b → b ≠ a := fun h => Ne.symm (Nat.ne_of_lt h)
    have sub : ∀ p ∈ rest, p ∈ (DD, tupO [.int ((st.one k : Nat) : Int) tA, .int ((i + 3 : Nat) : Int) tB, .int ((st.other k : Nat) : Int) tC]) :: (PP, tupO [.str (upC (i + 3)) tD, .str (nm (third (st.col (st.one k)) (st.col (st.other k)))) tE]) :: rest := fun p h => List.mem_cons_of_mem _ (List.mem_cons_of_mem _ h)
    refine EndK.next _ FF NN ?hi ?hsub ?hn ⟨hs' ++ [Value.ref PP], pv' ++ [Value.int (((third (st.col (st.one k)) (st.col (st.other k))).val : Nat) : Int) tF], rv'.insertIdx (k + 1) (Value.int ((i + 3 : Nat) : Int) tG), cv' ++ [Value.ref DD], k', a2 + 1, a3 + 1, a4 + 1, (DD, tupO [.int ((st.one k : Nat) : Int) tA, .int ((i + 3 : Nat) : Int) tB, .int ((st.other k : Nat) : Int) tC]) :: (PP, tupO [.str (upC (i + 3)) tD, .str (nm (third (st.col (st.one k)) (st.col (st.other k)))) tE]) :: rest, _, rfl, mapL_self rfl rfl rfl rfl, ?p1, ?p2, ?p3, ?p4, fun p hp => sub p (hb p hp), ?q1, ?q2, ?q3, ?q4⟩
    case hi => simp
    case hsub => (repeat refine sub_c (by k_mem) ?_); (repeat first | exact sub_r | refine sub_t ?_)
    case hn =>
      refine List.forall_mem_cons.mpr ⟨Ne.symm iHL, List.forall_mem_cons.mpr ⟨Ne.symm iPL, List.forall_mem_cons.mpr ⟨Ne.symm iRL, List.forall_mem_cons.mpr ⟨Ne.symm iCL, List.forall_mem_cons.mpr ⟨ltNe lDD.2.2.1, List.forall_mem_cons.mpr ⟨ltNe l5.1, iR⟩⟩⟩⟩⟩⟩
    case p1 =>
      rw [rows_step ok z, cols]
      exact (r3.mono sub).snoc (List.mem_cons_of_mem _ (List.mem_cons_self ..))
    case p2 =>
      rw [nums_step hat]
      exact ints_snoc r4
    case p3 =>
      rw [rim_step' hat ok.len]
      exact ints_ins _ r5
    case p4 =>
      rw [cuts_step' hat ok.len]
      exact (r6.mono sub).snoc (q := (st.one k, i + 3, st.other k)) (List.mem_cons_self ..)
    case q1 => exact List.forall_mem_cons.mpr ⟨ltNe lDD.1, List.forall_mem_cons.mpr ⟨nP, r7⟩⟩
    case q2 => exact List.forall_mem_cons.mpr ⟨ltNe lDD.2.2.2.1, List.forall_mem_cons.mpr ⟨ltNe l5.2.1, r8⟩⟩
    case q3 => exact List.forall_mem_cons.mpr ⟨ltNe lDD.2.2.2.2.1, List.forall_mem_cons.mpr ⟨ltNe l5.2.2.1, r9⟩⟩
    case q4 => exact List.forall_mem_cons.mpr ⟨ltNe lDD.2.2.2.2.2.1, List.forall_mem_cons.mpr ⟨ltNe l5.2.2.2.1, r10⟩⟩
end Mine
end

section
open PySem PySem.W PyProof.Rows
set_option Elab.async false
set_option maxRecDepth 100000
set_option maxHeartbeats 400000
namespace Mine
noncomputable def at12 : List Stmt := off1 (off1 (off1 (off1 (off1 at7))))
theorem strs_names : ∀ {ys : List Value} {cols : List Col}, Mine.StrsAre ys (cols.map nm) → NamesAre ys cols
  | _, [], .nil => .nil
  | _, c :: cs, .cons _ t r => .cons c t (strs_names r)
theorem rows_names (st : LS) : st.rows.map (·.2) = st.plain.map nm := by
  unfold LS.rows
  rw [List.map_map]
  apply List.ext_getElem
  · simp
  · intro i h1 h2
    have hi : i < st.plain.length := by simpa using h1
    simp [LS.col, List.getD_eq_getElem?_getD, hi]
theorem names_of {led : List (Addr × Obj)} : ∀ {vs ys : List Value} {cols : List Col}, IntsAre vs (cols.map fun c => ((c.val : Nat) : Int)) → Paired (fun v y => ∃ nw : List (Addr × Obj), (∀ q ∈ nw, q ∈ led) ∧ ∃ (c : Col) (t u : Tok), v = Value.int ((c.val : Nat) : Int) t ∧ y = Value.str (nm c) u) vs ys → NamesAre ys cols
  | _, _, [], .nil, .nil => .nil
  | _, _, c :: cs, .cons _ t r, .cons ⟨_, _, c', t', u, e1, e2⟩ h => by
    injection e1 with e3 e4
    have e5 : ((c.val : Nat) : Int) = ((c'.val : Nat) : Int) := e3
    have : c = c' := Fin.ext (by omega)
    subst this
    rw [e2]
    exact .cons c u (names_of r h)
def offC (L : Addr) (led : List (Addr × Obj)) : List (Addr × Obj) := led.filter fun q => decide (@Ne Nat q.1 (L + 1) ∧ @Ne Nat q.1 (L + 1 + 1) ∧ @Ne Nat q.1 (L + 1 + 1 + 1) ∧ @Ne Nat q.1 (L + 1 + 1 + 1 + 1) ∧ @Ne Nat q.1 (L + 1 + 1 + 1 + 1 + 1))
theorem off_ne {L : Addr} {led : List (Addr × Obj)} {p : Addr × Obj} (h : p ∈ offC L led) : p.1 ≠ L + 1 ∧ p.1 ≠ L + 1 + 1 ∧ p.1 ≠ L + 1 + 1 + 1 ∧ p.1 ≠ L + 1 + 1 + 1 + 1 ∧ p.1 ≠ L + 1 + 1 + 1 + 1 + 1 := by
  have := (List.mem_filter.mp h).2
  rw [decide_eq_true_eq] at this
  exact this
theorem off_sub {L : Addr} {led : List (Addr × Obj)} {p : Addr × Obj} (h : p ∈ offC L led) : p ∈ led := (List.mem_filter.mp h).1
theorem off_mem {L : Addr} {led : List (Addr × Obj)} {p : Addr × Obj} (h : p ∈ led) (h1 : p.1 ≠ L + 1) (h2 : p.1 ≠ L + 1 + 1) (h3 : p.1 ≠ L + 1 + 1 + 1) (h4 : p.1 ≠ L + 1 + 1 + 1 + 1) (h5 : p.1 ≠ L + 1 + 1 + 1 + 1 + 1) : p ∈ offC L led :=
  List.mem_filter.mpr ⟨h, decide_eq_true ⟨h1, h2, h3, h4, h5⟩⟩
/-- the law's cells in the ledger -/
structure Cells (L : Addr) (led : List (Addr × Obj)) (o1 o2 o3 o4 o5 : Obj) (v1 v2 v3 v4 v5 : Option Value) : Prop where
  m1 : (L + 1, o1) ∈ led
  m2 : (L + 1 + 1, o2) ∈ led
  m3 : (L + 1 + 1 + 1, o3) ∈ led
  m4 : (L + 1 + 1 + 1 + 1, o4) ∈ led
  m5 : (L + 1 + 1 + 1 + 1 + 1, o5) ∈ led
  d1 : o1.data = .cell v1
  d2 : o2.data = .cell v2
  d3 : o3.data = .cell v3
  d4 : o4.data = .cell v4
  d5 : o5.data = .cell v5
theorem cell_ne {h₀ h : Heap} {L a c : Addr} {led : List (Addr × Obj)} {o oc : Obj} {v : Option Value} (N : News h₀ L h led) (ma : (a, o) ∈ led) (mc : (c, oc) ∈ led) (hc : oc.data = .cell v) (ho : ∀ v, o.data ≠ .cell v) : a ≠ c := fun e => by
  subst e
  have e := (N.get ma).symm.trans (N.get mc)
  cases e
  exact ho v hc
theorem Cells.off {h₀ h : Heap} {L a : Addr} {led : List (Addr × Obj)} {o o1 o2 o3 o4 o5 : Obj} {v1 v2 v3 v4 v5 : Option Value} (C : Cells L led o1 o2 o3 o4 o5 v1 v2 v3 v4 v5) (N : News h₀ L h led) (ho : ∀ v, o.data ≠ .cell v) (ma : (a, o) ∈ led) : (a, o) ∈ offC L led :=
  off_mem ma (cell_ne N ma C.m1 C.d1 ho) (cell_ne N ma C.m2 C.d2 ho) (cell_ne N ma C.m3 C.d3 ho) (cell_ne N ma C.m4 C.d4 ho) (cell_ne N ma C.m5 C.d5 ho)
theorem Cells.front {h₀ h : Heap} {L : Addr} {led : List (Addr × Obj)} {o1 o2 o3 o4 o5 : Obj} {v1 v2 v3 v4 v5 : Option Value} (C : Cells L led o1 o2 o3 o4 o5 v1 v2 v3 v4 v5) (N : News h₀ L h led) : News h₀ L h ((L + 1 + 1 + 1 + 1 + 1, o5) :: (L + 1 + 1 + 1 + 1, o4) :: (L + 1 + 1 + 1, o3) :: (L + 1 + 1, o2) :: (L + 1, o1) :: offC L led) := cb_drop N fun p hp => by
  simp only [List.mem_cons] at hp
  rcases hp with rfl | rfl | rfl | rfl | rfl | hp
  · exact C.m5
  · exact C.m4
  · exact C.m3
  · exact C.m2
  · exact C.m1
  · exact off_sub hp
theorem PairsIn.move {news news' : List (Addr × Obj)} (hs : ∀ a xs, (a, tupO xs) ∈ news → (a, tupO xs) ∈ news') : ∀ {vs : List Value} {ps : List (Str × Str)}, PairsIn news vs ps → PairsIn news' vs ps
  | _, _, .nil => .nil
  | _, _, .cons p x y t u m r => .cons p x y t u (hs _ _ m) (r.move hs)
theorem CutsIn.move {news news' : List (Addr × Obj)} (hs : ∀ a xs, (a, tupO xs) ∈ news → (a, tupO xs) ∈ news') : ∀ {vs : List Value} {qs : List (Nat × Nat × Nat)}, CutsIn news vs qs → CutsIn news' vs qs
  | _, _, .nil => .nil
  | _, _, .cons p q t u v m r => .cons p q t u v (hs _ _ m) (r.move hs)
theorem PaintsIn.move {P : Col → Addr} {news news' : List (Addr × Obj)} (h : PaintsIn P news) (hs : ∀ a xs, (a, tupO xs) ∈ news → (a, tupO xs) ∈ news') : PaintsIn P news' := fun c => let ⟨t1, t2, t3, hm⟩ := h c; ⟨t1, t2, t3, hs _ _ hm⟩
theorem tup_data {xs : List Value} : ∀ v, (tupO xs).data ≠ .cell v := fun _ h => nomatch h
section
variable {prog : Program} {w : World} {A : Around} {E : Value → Shared → Prop} {s : Shared} {h₀ : Heap} {L l : Addr} {m : Str → Option Value} {news : List (Addr × Obj)} {k : Nat} {t u : Tok} {Q : Value → Shared → Prop}
theorem ne_names {a b : Addr} {xs ys : List Value} {k1 k2 : Nat} {cols : List Col} (N : News h₀ L s.heap news) (ha : (a, listOf xs.toArray k1) ∈ news) (hb : (b, listOf ys.toArray k2) ∈ news) (hx : NamesAre xs cols) (hy : NamesAre ys cols) (hu : A.units < cLine)
    (h : Q (.bool false) s) : wpAny (model prog w) A (compareOp .NotEq (.ref a) (.ref b)) Q E s := by
  have hl : s.heap.IsList a xs.toArray := ⟨_, N.get ha, rfl, k1, rfl⟩
  have hl2 : s.heap.IsList b ys.toArray := ⟨_, N.get hb, rfl, k2, rfl⟩
  refine (SeqAt.RcNeAt.lists (e := fun _ => true) hl hl2 (by simp [hx.length, hy.length]) hu fun j h1 h2 => ?_) prog w E Q (by
    have e : (!(List.range xs.toArray.size).all fun _ => true) = false := by rw [Bool.not_eq_false', List.all_eq_true]; intro _ _; rfl
    rw [e]
    exact h)
  have h1' : j < xs.length := by simpa using h1
  have h2' : j < ys.length := by simpa using h2
  obtain ⟨c, t, e1, e2⟩ := hx.get (List.getElem?_eq_getElem h1')
  obtain ⟨c', t', e1', e2'⟩ := hy.get (List.getElem?_eq_getElem h2')
  rw [e2] at e2'
  cases e2'
  have q1 : xs.toArray[j] = .str (nm c) t := by simpa using e1
  have q2 : ys.toArray[j] = .str (nm c) t' := by simpa using e1'
  rw [q1, q2]
  have := SeqAt.EqAt.str_str (A := A.in1) (s := s) (nm c) t (nm c) t'
  simpa using this
end
theorem pairs_get {news : List (Addr × Obj)} : ∀ {vs : List Value} {ps : List (Str × Str)}, vs.length = ps.length → (∀ (i : Nat) (q : Str × Str), ps[i]? = some q → ∃ p t u, vs[i]? = some (.ref p) ∧ (p, tupO [.str q.1 t, .str q.2 u]) ∈ news) → PairsIn news vs ps
  | [], [], _, _ => .nil
  | v :: vs, (x, y) :: ps, hl, h => by
    obtain ⟨p, t, u, e, m⟩ := h 0 (x, y) rfl
    simp at e
    subst e
    exact .cons p x y t u m (pairs_get (by simpa using hl) fun i q hq => by simpa using h (i + 1) q (by simpa using hq))
theorem shown_of {st : LS} {led : List (Addr × Obj)} {vs ss : List Value} (hlen : vs.length = st.plain.length) (hP : ∀ (j : Nat) (v : Value), vs[j]? = some v → ∃ t, v = Value.int (j : Int) t)
    (h : Paired (fun v y => ∃ nw : List (Addr × Obj), (∀ q ∈ nw, q ∈ led) ∧ ∃ (i : Nat) (t : Tok) (p : Addr) (u1 u2 : Tok), v = Value.int (i : Int) t ∧ y = Value.ref p ∧ (p, tupO [.str (nm (st.col i)) u1, .str (upC i) u2]) ∈ nw) vs ss) : PairsIn led ss st.shown := by
  refine pairs_get (by rw [← h.length, hlen]; simp [LS.shown]) fun i q hq => ?_
  have hi : i < st.plain.length := by simpa [LS.shown] using (List.getElem?_eq_some_iff.mp hq).1
  have hv : vs[i]? = some (vs[i]'(by rw [hlen]; exact hi)) := List.getElem?_eq_getElem _
  obtain ⟨y, hy, nw, hsub, i', t, p, u1, u2, e1, e2, hm⟩ := paired_get h hv
  obtain ⟨t', e3⟩ := hP i _ hv
  rw [e1] at e3
  injection e3 with e4 _
  have : i' = i := by omega
  subst this
  have hq' : q = (nm (st.col i'), upC i') := by
    unfold LS.shown at hq
    rw [List.getElem?_map, List.getElem?_range hi] at hq
    simpa using hq.symm
  subst hq'
  exact ⟨p, u1, u2, by rw [hy, e2], hsub _ hm⟩
theorem shown_ok {st : LS} (h : st.plain.length ≤ 11) : ∀ q ∈ st.shown, okName q.1 = true ∧ okVal q.2 = true := by
  intro q hq
  obtain ⟨i, hi, rfl⟩ := List.mem_map.mp hq
  have hi := List.mem_range.mp hi
  exact ⟨(ok_nm _).1, (ok_letters ⟨i, by omega⟩).2.2.1⟩
section
variable {prog : Program} {w : World} {A : Around} {E : Value → Shared → Prop} {s : Shared} {h₀ : Heap} {L l : Addr} {m : Str → Option Value} {news : List (Addr × Obj)} {k : Nat} {t u : Tok} {Q : Value → Shared → Prop}
theorem name_at {value slice : PySem.Expr} {vs : List Value} {cols : List Col} {i : Nat} (N : News h₀ L s.heap news) (hl : (l, listOf vs.toArray k) ∈ news) (hv : NamesAre vs cols) (hi : i < cols.length) (hz : cols.length ≤ 10000)
    (h : ∀ u, Q (.str (nm (cols.getD i 0)) u) s) (hs : subscripted slice false (.ref l) (.int (i : Nat) t) = operate [.ref l, .int (i : Nat) t] (getItem (.ref l) (.int (i : Nat) t))) :
    wpAny (model prog w) A (subscriptTail value slice (.ref l) (.int (i : Nat) t)) Q E s := by
  have hL : s.heap.IsList l vs.toArray := ⟨_, N.get hl, rfl, k, rfl⟩
  have e : cols[i]? = some (cols.getD i 0) := by simp [List.getD_eq_getElem?_getD, hi]
  obtain ⟨u, hu⟩ := hv.get' e
  exact tail_any hL.typeIs slot_list_getitem.lookup (wpAny_getItem_list hL (by omega) (by omega) (by simpa using hu) (h u)) hs
end
local macro_rules | `(tactic| k_mem) => `(tactic| first | assumption | exact List.Mem.head _ | (refine' List.Mem.tail _ ?_; k_mem))
local macro_rules | `(tactic| k_all) => `(tactic| first | assumption | exact List.forall_mem_nil _ | (refine' List.forall_mem_cons.mpr ⟨?a, ?b⟩; (case a => k_ne); (case b => k_all)))
theorem wl_LM_1 : True := by
  k_with_none
  k_with "newTuple" => (k_here; k_dflt (refine' kup_newTuple ?wqF ?wqN ?_ ?wqz; (case wqF => k_asm); (case wqN => k_asm); (case wqz => kmk_size)); intro _ _ _ _ l1; (try k_lt l1); (try (revert l1; intro _)); (try k_sweep))
  k_with "call ref" => (k_here; k_dflt (refine wpAny_call ?_; refine' t_values _ ?wqX ?wqB ?wqF ?wqN ?wqT ?wqk ?wqd ?wqu ?wqm1 ?wqm2 ?wqm3 ?wqhp ?wqhz ?_; (case wqX => k_asm); (case wqB => k_asm); (case wqF => k_asm); (case wqN => k_asm); (case wqT => k_asm); (case wqk => rfl); (case wqd => exact Nat.le_of_ble_eq_true rfl); (case wqu => exact Nat.le_of_ble_eq_true rfl); (case wqm1 => k_mem); (case wqm2 => k_mem); (case wqm3 => k_mem); (case wqhp => (refine' PairsIn.mono ?wqzzs ?wqzzh; (case wqzzh => assumption); (case wqzzs => (intro p hp; repeat (first | exact hp | apply List.mem_cons_of_mem))))); (case wqhz => assumption)); intro _ _ _ _ _ _ _ _ l1; (try k_lt l1); (try dsimp only); (try (revert l1; intro _)); (try k_sweep))
  k_with "eval ListComp" => (k_here; k_dflt (refine' comp_expr ?wqhc ?wqhk ?wqhn ?wqhs ?_; (case wqhc => with_unfolding_all rfl); (case wqhk => rfl); (case wqhn => decide); (case wqhs => intro _; with_unfolding_all rfl)))
  k_with "eval Name" => (k_here; (with_reducible show wpAny _ _ (eval (Expr.Name _ _) (compEnvC _ _ _ _)) _ _ _); k_dflt (first
      | (refine' block_local ?wqN ?wqm ?wqn ?wqv ?_ ?wqk ?wql ?wqd; (case wqk => rfl); (case wql => rfl); (case wqd => decide); (case wqN => k_asm); (case wqm => k_mem); (case wqn => assumption); (case wqv => first | assumption | rfl))
      | (refine' block_cell ?wqN ?wqc ?wqm ?wqo ?_ ?wqk ?wql ?wqd; (case wqk => rfl); (case wql => rfl); (case wqd => decide); (case wqN => k_asm); (case wqc => rfl); (case wqm => k_mem); (case wqo => assumption))))
  k_with "subscriptTail" => (k_here; (with_reducible show wpAny _ _ (subscriptTail (Expr.List _ _) _ (Value.ref _) (Value.int _ _)) _ _ _); k_dflt (refine' item_names ?wqN ?wqd ?_ ?wqhs; (case wqN => k_asm); (case wqd => k_mem); (case wqhs => with_unfolding_all rfl)); intro _)
  k_with "compareOp NotEq ref ref" => (k_here; k_dflt (refine' ne_names ?wqN ?wqa ?wqb ?wqx ?wqy ?wqu ?_; (case wqN => k_asm); (case wqa => k_mem); (case wqb => k_mem); (case wqx => assumption); (case wqy => assumption); (case wqu => exact Nat.le_of_ble_eq_true rfl)))
  k_with "call builtin:len" => (k_here; k_dflt (refine' len_is ?wqN ?wqm ?wqz ?wqn ?_; (case wqN => k_asm); (case wqm => k_mem); (case wqz => assumption); (case wqn => omega)); intro _ _)
  k_with "call type:range" => (k_here; k_dflt (refine' range_new ?wqF ?wqN ?_; (case wqF => k_asm); (case wqN => k_asm)); intro _ _ _ _ _ _ _ l1; (try k_lt l1); (try (revert l1; intro _)); (try k_sweep))
  k_with "subscriptTail Name Name ref int" => (k_here; (with_reducible show wpAny _ _ (subscriptTail _ _ (Value.ref _) (Value.int (Nat.cast _) _)) _ _ _); k_dflt (refine' name_at ?wqN ?wqd ?wqv ?wqi ?wqz ?_ ?wqhs; (case wqN => k_asm); (case wqd => k_mem); (case wqv => assumption); (case wqi => assumption); (case wqz => assumption); (case wqhs => rfl)); intro _)
  k_with "subscriptTail" => (k_here; (with_reducible show wpAny _ _ (subscriptTail (Expr.Constant _ _ _) _ (Value.str (PySem.Str.ofString "ABCDEFGHIJK") _) (Value.int (Nat.cast _) _)) _ _ _); k_dflt (refine' up_at ?wqi ?_ ?wqhs; (case wqi => assumption); (case wqhs => rfl)); intro _ _)
  k_with "call ref" => (k_here; k_dflt (refine' call_cls ?wqk1 ?wqk2 ?wqk3 ?wqk4 ?wqk5 ?wqk6 ?_; (case wqk1 => k_asm); (case wqk2 => k_asm); (case wqk3 => k_asm); (case wqk4 => k_is); (case wqk5 => k_is); (case wqk6 => k_is); k_whole; intro sb sd hT FT NT lT1 lT2; refine' t_init _ ?wqzzX ?wqzzB ?wqzzF ?wqzzN ?wqzzT ?wqzzk ?wqzzd ?wqzzu ?wqzzq1 ?wqzzq2 ?wqzzm3 ?wqzzhp ?wqzzhn ?_; (case wqzzX => k_asm); (case wqzzB => k_asm); (case wqzzF => k_asm); (case wqzzN => k_asm); (case wqzzT => k_asm); (case wqzzk => rfl); (case wqzzd => exact Nat.le_of_ble_eq_true rfl); (case wqzzu => exact Nat.le_of_ble_eq_true rfl); (case wqzzq1 => exact fun p h => Nat.ne_of_lt (lT1 p h)); (case wqzzq2 => exact lT2); (case wqzzm3 => k_mem); (case wqzzhp => (refine' PairsIn.mono ?wqzzs ?wqzzh; (case wqzzh => assumption); (case wqzzs => (intro p hp; repeat (first | exact hp | apply List.mem_cons_of_mem))))); (case wqzzhn => assumption); clear FT NT; intro hshT ktT hT2 tkT FT NT; (try k_lt lT1); (try k_lt2 lT2); (dsimp only [InitBack])))
  exact True.intro
def MapC (m₁ : Str → Option Value) (cl rl : Addr) (tn : Int) (tt : Tok) : Str → Option Value := fun y => if y = Str.ofString "turned" then some (.int tn tt) else if y = Str.ofString "cuts" then some (.ref cl) else if y = Str.ofString "rim" then some (.ref rl) else m₁ y
theorem wl_LM_2 : True := by
  k_with "execs cons" => (k_here; (with_reducible show wpAny _ _ (execs (Stmt.For _ _ _ _ _ :: _) _) _ _ _); refine here ?_)
  exact True.intro
theorem t_mid (w : World) {p : Program} {loose : List Str} {mean : ExcName → Option Value} {mg mb : Str → Option Value} {h₀ : Heap} {L fa : Addr} {cd : Value} {m : Str → Option Value} {s : Shared} {Q : Flow → Shared → Prop}
  {o : Int} {items : List Int} {st : LS} {sc dP tb td hl pl rl cl : Addr} {hsh : Int} {kt : Tok} {n : Nat} {oP o1 o2 o3 o4 o5 : Obj} {v3 v4 v5 : Option Value} {P : Col → Addr} {news : List (Addr × Obj)}
  {hs pv rv cv : List Value} {k1 k2 k3 k4 : Nat}
  (X : (Mine.hd.heap_39 w.params).In h₀) (B : Below callerA h₀ [] h₀) (F : Fr h₀ L s.heap (MapL m cl rl tb sc)) (T : Top p loose mean mg mb h₀)
  (N : News h₀ L s.heap ((L + 1 + 1 + 1 + 1 + 1, o5) :: (L + 1 + 1 + 1 + 1, o4) :: (L + 1 + 1 + 1, o3) :: (L + 1 + 1, o2) :: (L + 1, o1) :: news))
  (e1 : o1.data = .cell (some (.ref dP))) (e2 : o2.data = .cell (some (.ref pl))) (e3 : o3.data = .cell v3) (e4 : o4.data = .cell v4) (e5 : o5.data = .cell v5)
  (a1 : ∀ p ∈ news, p.1 ≠ L + 1) (a2 : ∀ p ∈ news, p.1 ≠ L + 1 + 1) (a3 : ∀ p ∈ news, p.1 ≠ L + 1 + 1 + 1) (a4 : ∀ p ∈ news, p.1 ≠ L + 1 + 1 + 1 + 1) (a5 : ∀ p ∈ news, p.1 ≠ L + 1 + 1 + 1 + 1 + 1)
  (ok : st.Ok n) (hn : n ≤ 8)
  (mt : (tb, instObj 169 td) ∈ news) (mtd : (td, dictOf (entO hsh kt hl) 1) ∈ news) (mh : (hl, listOf hs.toArray k1) ∈ news) (mpl : (pl, listOf pv.toArray k2) ∈ news)
  (hp : PairsIn news hs st.rows) (hpv : IntsAre pv st.nums)
  (done : ∀ (Dn sb sd sl D0 d0 : Addr) (ys ss : List Value) (kn ks : Nat) (hsh' : Int) (kt' t1 t2 t3 t4 tt : Tok) (od o3 o4 o5 : Obj) (m' : Str → Option Value) (base3 : List (Addr × Obj)) (h : Heap) (tk : Nat), 1 ≤ tk →
    Fr h₀ L h (MapC m' cl rl 0 tt) → News h₀ L h ((L + 1 + 1 + 1 + 1 + 1, o5) :: base3) → (∀ p ∈ base3, p.1 ≠ L + 1 + 1 + 1 + 1 + 1) → (∀ p ∈ news, p ∈ base3) →
    o3.data = .cell (some (.ref Dn)) → o4.data = .cell (some (.ref sb)) → o5.data = .cell (some (.ref D0)) → (L + 1, o1) ∈ base3 → (L + 1 + 1, o2) ∈ base3 → (L + 1 + 1 + 1, o3) ∈ base3 → (L + 1 + 1 + 1 + 1, o4) ∈ base3 →
    (Dn, listOf ys.toArray kn) ∈ base3 → NamesAre ys st.plain → (sb, instObj 169 sd) ∈ base3 → (sd, dictOf (entO hsh' kt' sl) 1) ∈ base3 → (sl, listOf ss.toArray ks) ∈ base3 → PairsIn base3 ss st.shown →
    (D0, tupO [.int 0 t1, .int 0 t2, .int 0 t3, .int 0 t4, .ref d0]) ∈ base3 → (d0, od) ∈ base3 → DcIs PySem.Challenge.rw_pg0268_01.row.prog w od [] → (d0 == sysModules) = false →
    wpAny (model PySem.Challenge.rw_pg0268_01.row.prog w) (callerA.deeper (lawE L fa cd)) (execs at12 (lawE L fa cd)) Q (fun _ _ => False) { s with heap := h, toks := tk }) :
  wpAny (model PySem.Challenge.rw_pg0268_01.row.prog w) (callerA.deeper (lawE L fa cd)) (execs at7 (lawE L fa cd)) Q (fun _ _ => False) s := by
  revert X; k_fill; intro X
  unfold lawE at12 at7 at6 lawR recOf at *
  dsimp only [off6, off1] at *
  unfold MapL at F
  have hz : st.rows.length ≤ 1000 := by simp [LS.rows, ok.len]; omega
  k_steps
  rename_i Dn ys kn h1 tk1 hS lDn h2 o3' F2 N2 d3
  have hN1 : NamesAre ys st.plain := strs_names (rows_names st ▸ hS)
  have lp : pv.length = n + 3 := by rw [hpv.length]; simp [LS.nums, ok.len]
  refine comp_src (src_list rfl (by k_asm) (by k_asm) (by repeat (first | exact mpl | apply List.mem_cons_of_mem))) (fun _ => true) (fun v y _ => ∃ (c : Col) (t u : Tok), v = Value.int ((c.val : Nat) : Int) t ∧ y = Value.str (nm c) u) tests_nil ?_ ?_ (by omega) (by decide) rfl rfl
  · intro C i v co m₂ tl s₃ E' hi hP hp hn hm F₁ N₁ hs
    obtain ⟨z, t, rfl, hz2⟩ := ints_got hpv hP
    obtain ⟨c, rfl⟩ : ∃ c : Col, z = ((c.val : Nat) : Int) := by
      unfold LS.nums at hz2
      rw [List.getElem?_map, Option.map_eq_some_iff] at hz2
      obtain ⟨c, _, rfl⟩ := hz2
      exact ⟨c, rfl⟩
    k_steps
    exact EltEnd.plain (by k_asm) (by k_asm) (fun q h => by repeat (first | exact h | apply List.mem_cons_of_mem)) ⟨c, t, _, rfl, rfl⟩
  · intro D h' tk k zs vs' led F₁ N₁ hs hlt hlen hP hF
    have hvs : vs' = pv := same_list hlen hP
    subst hvs
    rw [List.filter_eq_self.mpr (fun _ _ => rfl)] at hF
    have hN2 : NamesAre zs st.plain := names_of hpv hF
    clear hF
    have N₂ := cb_drop N₁ (sub_cons hs)
    clear N₁ hs hlen
    k_lt hlt
    dsimp only
    k_steps
    have hpl : st.plain.length ≤ 10000 := by rw [ok.len]; omega
    have hpl2 : st.plain.length = n + 3 := ok.len
    refine comp_src (src_range rfl (by k_asm) (by k_asm) (List.mem_cons_self ..) (by omega)) (fun _ => true) (fun v y nw => ∃ (i : Nat) (t : Tok) (p : Addr) (u1 u2 : Tok), v = Value.int (i : Int) t ∧ y = Value.ref p ∧ (p, tupO [.str (nm (st.col i)) u1, .str (upC i) u2]) ∈ nw) tests_nil ?_ ?_ (by omega) (by decide) rfl rfl
    · intro C i v co m₂ tl s₃ E' hi hP hp hn hm F₁ N₁ hs
      obtain ⟨t, rfl⟩ := hP
      have hi1 : i < st.plain.length := by omega
      have hi2 : i < 11 := by omega
      have q1 := hs _ (List.mem_cons_of_mem _ (List.mem_cons_of_mem _ (List.mem_cons_self ..)))
      have q2 := hs _ (List.mem_cons_of_mem _ (List.mem_cons_of_mem _ (List.mem_cons_of_mem _ (List.mem_cons_of_mem _ (List.mem_cons_of_mem _ (List.mem_cons_self ..))))))
      k_steps
      rename_i u1 u2 tkv DT hT FT NT lT
      exact EltEnd.intro [(DT, tupO [.str (nm (st.plain.getD i 0)) u1, .str (upC i) u2])] FT NT (fun q h => List.mem_cons_of_mem _ h) (fun q h => by rw [List.mem_singleton.mp h]; exact List.mem_cons_self ..)
        (fun q h r hr => by rw [List.mem_singleton.mp h]; rcases List.mem_cons.mp hr with rfl | hr; exact lT.1; exact allLt_all lT.2 r hr) ⟨i, t, DT, u1, u2, rfl, rfl, List.mem_singleton.mpr rfl⟩
    · intro D3 h' tk k ss vs' led F₁ N₁ hs hlt hlen hP hF
      rw [List.filter_eq_self.mpr (fun _ _ => rfl)] at hF
      have hP3 : PairsIn led ss st.shown := shown_of (by rw [hlen]; exact ok.len.symm) hP hF
      have hok3 := shown_ok (st := st) (by rw [ok.len]; omega)
      clear hF hlen hP
      rename_i rr tr ur hrr tkrr Frr Nrr lrr
      have CC : Cells L led o1 o2 o3' o4 o5 (some (.ref dP)) (some (.ref pl)) (some (.ref Dn)) v4 v5 := ⟨hs _ (by k_mem), hs _ (by k_mem), hs _ (by k_mem), hs _ (by k_mem), hs _ (by k_mem), e1, e2, d3, e4, e5⟩
      have NL : News h₀ L h' led := cb_drop N₁ fun p h => List.mem_cons_of_mem _ h
      have N₂ := CC.front NL
      have N₃ : News h₀ L h' ((D3, W.listOf ss.toArray k) :: (L + 1 + 1 + 1 + 1 + 1, o5) :: (L + 1 + 1 + 1 + 1, o4) :: (L + 1 + 1 + 1, o3') :: (L + 1 + 1, o2) :: (L + 1, o1) :: offC L led) := fun p hp => by
        rcases List.mem_cons.mp hp with rfl | hp
        · exact N₁ _ (List.mem_cons_self ..)
        · exact N₂ p hp
      have sub2 : ∀ p ∈ news, p ∈ offC L led := fun p hp => off_mem (hs _ (by repeat (first | exact hp | apply List.mem_cons_of_mem))) (a1 p hp) (a2 p hp) (a3 p hp) (a4 p hp) (a5 p hp)
      have mDn : (Dn, W.listOf ys.toArray kn) ∈ offC L led := CC.off NL (fun _ h => nomatch h) (hs _ (by k_mem))
      have hP4 : PairsIn (offC L led) ss st.shown := hP3.move fun a xs h => CC.off NL tup_data h
      have b1 : ∀ p ∈ offC L led, p.1 ≠ L + 1 := fun p h => (off_ne h).1
      have b2 : ∀ p ∈ offC L led, p.1 ≠ L + 1 + 1 := fun p h => (off_ne h).2.1
      have b3 : ∀ p ∈ offC L led, p.1 ≠ L + 1 + 1 + 1 := fun p h => (off_ne h).2.2.1
      have b4 : ∀ p ∈ offC L led, p.1 ≠ L + 1 + 1 + 1 + 1 := fun p h => (off_ne h).2.2.2.1
      have b5 : ∀ p ∈ offC L led, p.1 ≠ L + 1 + 1 + 1 + 1 + 1 := fun p h => (off_ne h).2.2.2.2
      have lL : ∀ p ∈ (L + 1 + 1 + 1 + 1 + 1, o5) :: (L + 1 + 1 + 1 + 1, o4) :: (L + 1 + 1 + 1, o3') :: (L + 1 + 1, o2) :: (L + 1, o1) :: ([] : List (Addr × Obj)), p.1 < D3 := fun p hp => hlt p (by
        revert p
        (repeat refine sub_c (by k_mem) ?_)
        exact fun _ h => nomatch h)
      clear hlt Nrr Frr lrr N₁ N₂ NL CC hP3 a1 a2 a3 a4 a5
      generalize offC L led = news2 at *
      k_lt lL
      dsimp only
      k_steps
      unfold Here
      rename_i hx4 o4' d4 tkx d0 hx0 od lo0 hs0 fs0 hi0 fi0 ld0 D0 hxD lD0 hx5 o5' d5 hF FF NN
      obtain ⟨x1, x2, x3, x4, NN⟩ : ∃ x1 x2 x3 x4, News h₀ L hF ((D0, tupO [.int 0 x1, .int 0 x2, .int 0 x3, .int 0 x4, .ref d0]) :: (d0, od) :: (sb, instObj 169 sd) :: (sd, dictOf (entO hshT ktT D3) 1) :: (D3, W.listOf ss.toArray k) :: (L + 1 + 1 + 1 + 1 + 1, o5') :: (L + 1 + 1 + 1 + 1, o4') :: (L + 1 + 1 + 1, o3') :: (L + 1 + 1, o2) :: (L + 1, o1) :: news2) := ⟨_, _, _, _, NN⟩
      refine done Dn sb sd D3 D0 d0 ys ss kn k hshT ktT x1 x2 x3 x4 _ od o3' o4' o5' _ ((D0, tupO [.int 0 x1, .int 0 x2, .int 0 x3, .int 0 x4, .ref d0]) :: (d0, od) :: (sb, instObj 169 sd) :: (sd, dictOf (entO hshT ktT D3) 1) :: (D3, W.listOf ss.toArray k) :: (L + 1 + 1 + 1 + 1, o4') :: (L + 1 + 1 + 1, o3') :: (L + 1 + 1, o2) :: (L + 1, o1) :: news2) _ _ ?pos FF ?N ?ne ?sub d3 d4 d5 ?_ ?_ ?_ ?_ ?_ hN1 ?_ ?_ ?_ ?hP ?_ ?_ (dc_nil hs0) lo0
      case pos => exact Nat.le_add_left _ _
      case N =>
        refine cb_drop NN ?_
        (repeat refine sub_c (by k_mem) ?_); (repeat first | exact sub_r | refine sub_t ?_)
      case ne =>
        have ltNe : ∀ {a b : Addr}, @LT.lt Nat _ a b → b ≠ a := fun h => Ne.symm (Nat.ne_of_lt h)
        refine List.forall_mem_cons.mpr ⟨ltNe lD0.2.2.2.2.1, List.forall_mem_cons.mpr ⟨ltNe ld0.2.2.2.1, List.forall_mem_cons.mpr ⟨?_, List.forall_mem_cons.mpr ⟨ltNe lT1.2.1, List.forall_mem_cons.mpr ⟨ltNe lL.1, List.forall_mem_cons.mpr ⟨?_, List.forall_mem_cons.mpr ⟨?_, List.forall_mem_cons.mpr ⟨?_, List.forall_mem_cons.mpr ⟨?_, b5⟩⟩⟩⟩⟩⟩⟩⟩⟩
        · exact ltNe (Nat.lt_trans lT1.2.1 lT2)
        all_goals (dsimp only; exact Nat.ne_of_lt (by omega))
      case sub => exact fun p hp => by repeat (first | exact sub2 p hp | apply List.mem_cons_of_mem)
      case hP => exact hP4.mono fun p hp => by repeat (first | exact hp | apply List.mem_cons_of_mem)
      all_goals first | k_mem | (repeat (first | exact mDn | apply List.mem_cons_of_mem))
end Mine
end

section
open PySem PySem.W PyProof.Rows
set_option Elab.async false
set_option maxRecDepth 100000
set_option maxHeartbeats 400000
namespace Mine
def CornF (v : Value) (k : Str) : Prop := ∃ (i : Nat) (t : Tok), v = .int (i : Int) t ∧ k = upC i
def CornV (_ : Value) (y : Value) : Prop := ∃ u, y = .int 1 u
def keyOf : Value → Str
  | .int n _ => upC n.toNat
  | _ => ""
def cornL (l : List Value) : List (Str × Int) := l.foldl (fun c v => putC (keyOf v) 1 c) []
theorem stored_iv {l : List Value} {kvs : List (Str × Value)} (h : StoredAll CornF CornV l kvs) : IV kvs (cornL l) := by
  induction h with
  | nil => exact .nil
  | snoc _ hk hv ih =>
    obtain ⟨i, t, rfl, rfl⟩ := hk
    obtain ⟨u, rfl⟩ := hv
    unfold cornL
    rw [List.foldl_append]
    exact ih.stored _ 1 u
def CornKey (i : Nat) (s : Shared) (key : Value) (s' : Shared) : Prop := ∃ u tk, key = .str (upC i) u ∧ s' = { s with toks := tk }
def CornVal (s : Shared) (y : Value) (s' : Shared) : Prop := ∃ u tk, y = .int 1 u ∧ s' = { s with toks := tk }
theorem keeps_toks {s : Shared} {tk : Nat} : Keeps s { s with toks := tk } := ⟨s.heap, tk, rfl, fun _ _ e => e⟩
section
variable {prog : Program} {w : World} {A : Around} {E : Value → Shared → Prop} {s : Shared} {env : Env} {h₀ : Heap} {L : Addr} {m : Str → Option Value} {news : List (Addr × Obj)}
def CornS (prog : Program) (w : World) (A : Around) (E : Value → Shared → Prop) (env : Env) (scope : Scope) (cl : List (Str × Addr)) (x : Str) (kx vx : PySem.Expr) (Q : Value → Shared → Prop) (xv : Value) (s₁ : Shared) : Prop :=
  wpAny (model prog w) A (pyIter xv) (fun it s₂ => ∃ I fp wr n P St, it = .ref I ∧ Walks prog w A I fp wr n P St ∧ n ≤ sizeLine ∧ St 0 s₂.heap ∧ (∀ b ∈ fp, b < s₂.heap.objs.size) ∧
      QuietOnCD (PySem.strKind prog w) A env scope cl x [] kx vx wr P (fun _ => true) CornF CornV s₂ ∧
      (∀ D h' tk kvs (vs : List Value), s₂.heap.get? D = none → h'.DictOf (PySem.strKind prog w) D kvs → vs.length = n → (∀ j v, vs[j]? = some v → P j v) → StoredAll CornF CornV (vs.filter fun _ => true) kvs →
        (∀ b o, b ∉ wr → s₂.heap.get? b = some o → h'.get? b = some o) → Q (.ref D) { s₂ with heap := h', toks := tk })) E s₁
theorem corn_eval {kx vx iter : PySem.Expr} {x : Str} {px : Pos} {scope : Scope} {cl : List (Str × Addr)} {pos : Pos} {Q : Value → Shared → Prop}
    (hclos : closureFor scope env = pure cl) (hcell : ∀ y ∈ scope.names, y.2 ≠ .cell) (hkind : scope.kind = .function)
    (hnames : ∀ y ∈ scope.names, y.2 = .local → scope.names.lookup y.1 = some .local) (hx : scope.names.lookup x = some .local)
    (hs : ∀ x, foldedSetIterable iter env x = pure x)
    (h : wpAny (model prog w) A (eval iter env) (fun xv s₁ => CornS prog w A E env scope cl x kx vx Q xv s₁) E s) :
    wpAny (model prog w) A (eval (.DictComp kx vx [⟨.Name x px, iter, [], 0⟩] scope pos) env) Q E s :=
  wpAny_DictComp_free (PySem.strKind prog w) (fun _ => true) CornF CornV hclos hcell hkind hnames hx h hs
theorem corn_go {kx vx : PySem.Expr} {x : Str} {scope : Scope} {cl : List (Str × Addr)} {Q : Value → Shared → Prop} {cp : Addr} {q : Nat × Nat × Nat} {t1 t2 t3 : Tok}
    (hh : A.handled = none) (F : Fr h₀ L s.heap m) (N : News h₀ L s.heap news) (hl : (cp, tupO [.int (q.1 : Nat) t1, .int (q.2.1 : Nat) t2, .int (q.2.2 : Nat) t3]) ∈ news)
    (hd1 : q.1 ≠ q.2.1) (hd2 : q.2.1 ≠ q.2.2) (hd3 : q.1 ≠ q.2.2) (hsys : h₀.get? sysModules ≠ none)
    (hkey : ∀ C s₃ m₃ E' i t, (i = q.1 ∨ i = q.2.1 ∨ i = q.2.2) → s₃.heap.Ns C m₃ → m₃ x = some (.int ((i : Nat) : Int) t) → wpAny (model prog w) A (eval kx (compEnvC scope cl C env)) (CornKey i s₃) E' s₃)
    (hval : ∀ C s₃ m₃ E', s₃.heap.Ns C m₃ → wpAny (model prog w) A (eval vx (compEnvC scope cl C env)) (CornVal s₃) E' s₃)
    (done : ∀ D o h' tk, Fr h₀ L h' m → News h₀ L h' ((D, o) :: news) → DcIs prog w o (disp q) → (D == sysModules) = false → Q (.ref D) { s with heap := h', toks := tk }) :
    CornS prog w A E env scope cl x kx vx Q (.ref cp) s := by
  refine src_tuple hh F N hl _ _ fun I fp wr St h₂ W hst hfp hwrn hlive hLf F₂ N₂ hnw => ?_
  have hP : ∀ (i : Nat) (v : Value), [Value.int ((q.1 : Nat) : Int) t1, .int ((q.2.1 : Nat) : Int) t2, .int ((q.2.2 : Nat) : Int) t3][i]? = some v → ∃ (j : Nat) (t : Tok), v = .int (j : Int) t ∧ (j = q.1 ∨ j = q.2.1 ∨ j = q.2.2) := by
    intro i v h
    match i, h with
    | 0, h => simp at h; exact ⟨_, _, h.symm, .inl rfl⟩
    | 1, h => simp at h; exact ⟨_, _, h.symm, .inr (.inl rfl)⟩
    | 2, h => simp at h; exact ⟨_, _, h.symm, .inr (.inr rfl)⟩
    | i + 3, h => simp at h
  refine ⟨I, fp, wr, _, _, St, rfl, W, by rw [sizeLine_eq]; simp, hst, hfp, ⟨?_, ?_, ?_⟩, ?_⟩
  · intro C i v s₃ m₃ E' _ _ _ _
    exact wpAny_pure ⟨rfl, s₃.heap, s₃.toks, rfl, fun _ _ e => e⟩
  · intro C i v s₃ m₃ E' hv _ hn hm _
    obtain ⟨j, t, rfl, hj⟩ := hP i v hv
    refine wpAny_mono (hkey C s₃ m₃ E' j t hj hn hm) (fun key s₄ h₄ => ?_) fun _ _ e => e
    obtain ⟨u, tk, rfl, rfl⟩ := h₄
    exact ⟨⟨upC j, PySem.strKind_is prog w _ _, j, t, rfl, rfl⟩, keeps_toks⟩
  · intro C i v s₃ m₃ E' hv _ hn hm _
    refine wpAny_mono (hval C s₃ m₃ E' hn) (fun y s₄ h₄ => ?_) fun _ _ e => e
    obtain ⟨u, tk, rfl, rfl⟩ := h₄
    exact ⟨⟨u, rfl⟩, keeps_toks⟩
  · intro D h' tk kvs vs hD hdict hlen hvs hst' hk
    have hvs' : vs = [Value.int ((q.1 : Nat) : Int) t1, .int ((q.2.1 : Nat) : Int) t2, .int ((q.2.2 : Nat) : Int) t3] := same_list hlen hvs
    rw [List.filter_eq_self.mpr (fun _ _ => rfl), hvs'] at hst'
    have iv := stored_iv hst'
    have e : cornL [Value.int ((q.1 : Nat) : Int) t1, .int ((q.2.1 : Nat) : Int) t2, .int ((q.2.2 : Nat) : Int) t3] = disp q := disp_made hd1 hd2 hd3
    rw [e] at iv
    obtain ⟨o, ho, hdo⟩ := Heap.dictOf_iff.mp hdict
    have old : ∀ b x, h₀.get? b = some x → b ∉ wr := fun b x e hb => by rw [hwrn b hb] at e; cases e
    have hDn : h₀.get? D = none := by
      cases e : h₀.get? D with
      | none => rfl
      | some x =>
        dsimp only at hD
        rw [F₂.keep _ _ e] at hD
        cases hD
    have hDL : D ≠ L := fun e => by
      subst e
      obtain ⟨x, es, ep, e1, _⟩ := F₂.ns
      dsimp only at hD
      rw [e1] at hD
      cases hD
    refine done D o h' tk ⟨F₂.ns.at' fun x e => hk _ x (fun hm => hLf (W.sub _ hm)) e, fun b x e => hk b x (old b x e) (F₂.keep b x e), F₂.above⟩ (fun p hp => ?_) ⟨kvs, hdo, iv⟩ (beq_eq_false_iff_ne.mpr fun e => hsys (e ▸ hDn))
    rcases List.mem_cons.mp hp with rfl | hp
    · exact ⟨ho, hDL, hDn⟩
    · exact ⟨hk _ _ (hnw p hp) (N₂ p hp).1, (N₂ p hp).2⟩
end
end Mine
end

section
open PySem PySem.W PyProof.Rows
set_option Elab.async false
set_option maxRecDepth 100000
namespace Mine
section
variable {prog : Program} {w : World} {A : Around} {E : Value → Shared → Prop} {s : Shared} {h₀ : Heap} {L : Addr} {m : Str → Option Value} {news : List (Addr × Obj)}
/-- t[:2] of three items: the bounds -/
theorem first_two {sl : Addr} {u : Tok} {Q : Int × Int × Nat → Shared → Prop} (hs : s.heap.IsSliceOf sl .none (.int 2 u) .none) (h : Q ((0 : Int), 1, 2) s) :
    wpAny (model prog w) A (Builtin.Slice.sliceApplied (.ref sl) (pure ((3 : Nat) : Int))) Q E s := by
  obtain ⟨os, hos, _, hds⟩ := id hs
  unfold Builtin.Slice.sliceApplied Builtin.Slice.sliceFields
  refine wpAny_bind (wpAny_bind (wpAny_field hos hds (x := .none) rfl (wpAny_bind (wpAny_field hos hds (x := .int 2 u) rfl (wpAny_bind (wpAny_field hos hds (x := .none) rfl (wpAny_pure ?_)))))))
  refine wpAny_bind (slicePart_none ?_)
  show wpAny _ _ (if ((1 : Int) == 0) = true then _ else _) _ _ s
  rw [if_neg (by decide)]
  refine wpAny_bind (slicePart_none (wpAny_bind (slicePart_int (wpAny_bind (wpAny_pure ?_)))))
  exact wpAny_pure h
theorem getItem_two {t sl : Addr} {x y z : Value} {u : Tok} {Q : Value → Shared → Prop} (ht : IsTup s.heap t #[x, y, z]) (hs : s.heap.IsSliceOf sl .none (.int 2 u) .none)
    (h : Q (.ref s.heap.objs.size) { s with heap := s.heap.push { cls := .type "tuple", data := .seq #[x, y] } }) : wpAny (model prog w) A (getItem (.ref t) (.ref sl)) Q E s := by
  have hTs : s.TypeIs (.ref sl) "slice" := let ⟨os, hos, hcs, _⟩ := hs; ⟨os, hos, hcs⟩
  unfold getItem
  try with_reducible refine wpAny_holding ?_
  first | refine wpAny_bind (wpAny_pure ?_) | skip
  refine wpAny_bind (wpAny_sequenceKey ht.typeIs (by decide) ?_)
  refine wpAny_bind (wpAny_callSpecial?_slot (name := Str.ofString "__getitem__") ht.typeIs slot_tuple_getitem
    (wpAny_call_entry slot_tuple_getitem ht.typeIs entry_tuple_getitem ?_ (args_tuple_getitem _ _)))
  show wpAny _ _ (Builtin.Tuple.tupleItemsOf (.ref t) >>= _) _ _ s
  refine wpAny_bind (tupleItemsOf_ ht ?_)
  refine wpAny_bind (wpAny_typeOf hTs ?_)
  rw [if_pos (by decide)]
  refine wpAny_bind (first_two hs ?_)
  show wpAny _ _ (if ((0 : Int) == 0 && (1 : Int) == 1 && (2 : Nat) == 3) = true then _ else _) _ _ s
  rw [if_neg (by decide)]
  have e : ((List.range 2).filterMap fun (k : Nat) => (#[x, y, z] : Array Value)[((0 : Int) + (k : Int) * 1).toNat]?).toArray = #[x, y] := rfl
  rw [e]
  have hz : sizeOk (.seq #[x, y]) := Nat.le_of_ble_eq_true rfl
  first
    | exact wpAny_bind (m := Builtin.Tuple.tupleExact _) (wpAny_newObj_type (wpAny_pure ⟨_, rfl, wpAny_pure h⟩) hz)
    | exact wpAny_bind (m := Builtin.Tuple.tupleExact _) (wpAny_newObj_type (wpAny_bind (wpAny_pure (wpAny_pure ⟨_, rfl, wpAny_pure h⟩))) hz)
    | exact wpAny_bind (wpAny_bind (m := Builtin.Tuple.tupleExact _) (wpAny_newObj_type (wpAny_pure (wpAny_pure ⟨_, rfl, wpAny_pure h⟩)) hz))
    | exact wpAny_bind (wpAny_bind (m := Builtin.Tuple.tupleExact _) (wpAny_newObj_type (wpAny_pure ⟨_, rfl, wpAny_pure h⟩) hz))
theorem slice_two {value slice : PySem.Expr} {t : Addr} {x y z : Value} {u : Tok} {Q : Value → Shared → Prop}
    (F : Fr h₀ L s.heap m) (N : News h₀ L s.heap news) (ht : (t, tupO [x, y, z]) ∈ news)
    (h : ∀ D h', Fr h₀ L h' m → News h₀ L h' ((D, tupO [x, y]) :: news) → (∀ p ∈ news, p.1 < D) → Q (.ref D) { s with heap := h' })
    (hs : subscripted slice false (.ref t) (.ref s.heap.objs.size) = operate [.ref s.heap.objs.size, .ref t] (getItem (.ref t) (.ref s.heap.objs.size)))
    (hg : ∀ r, letTemporaryGo value (.ref t) r = pure ()) :
    wpAny (model prog w) A (subscriptTail value slice (.ref t) (.ref s.heap.objs.size)) Q E { s with heap := s.heap.push { cls := .type "slice", data := .fields #[.none, .int 2 u, .none] } } := by
  have ht' : IsTup (s.heap.push { cls := .type "slice", data := .fields #[.none, .int 2 u, .none] }) t #[x, y, z] := ⟨_, Heap.get?_push_of_some _ (N.get ht), rfl, 0, rfl⟩
  refine subscriptTail_ops (s := { s with heap := s.heap.push { cls := .type "slice", data := .fields #[.none, .int 2 u, .none] } }) ht'.typeIs slot_tuple_getitem.lookup
    (getItem_two ht' (Heap.IsSliceOf.new ..) ?_) hs hg
  have N1 := News.push (F.push { cls := .type "slice", data := .fields #[.none, .int 2 u, .none] }) (N.grown fun _ _ e => Heap.get?_push_of_some _ e) { cls := .type "tuple", data := .seq #[x, y] }
  rw [Heap.size_push] at N1
  show Q (.ref (s.heap.push _).objs.size) _
  rw [Heap.size_push]
  exact h _ _ ((F.push _).push _) N1 fun p hp => Nat.lt_succ_of_lt (Heap.lt_size (N p hp).1)
end
end Mine
end

section
open PySem PySem.W PyProof.Rows
set_option Elab.async false
set_option maxRecDepth 100000
set_option maxHeartbeats 400000
namespace Mine
theorem booked_of {K : Frag} {h : Heap} (X : K.In h) (hl : h.NoLimit) (e : nsIn K cStatics sharingNotToldKey = some none) : NoneBooked h := by
  obtain ⟨mc, ⟨o, es, ep, ho, hd, hk, hf⟩, _⟩ := hl
  refine ⟨mc, ⟨o, es, ep, ho, hd, hk, hf⟩, ?_⟩
  rw [← hf]
  unfold nsIn at e
  split at e
  · rename_i c d es' n sl hK
    have h2 := X _ _ hK
    rw [ho] at h2
    cases h2
    dsimp only at hd
    cases hd
    split at e
    · cases e
    · rename_i hn
      unfold nsFind findBy
      have e1 : es = es.toList.toArray := by simp
      rw [e1, List.find?_toArray, hn]
      rfl
  · cases e
theorem booked (w : World) {p : Program} {loose : List Str} {mean : ExcName → Option Value} {mg mb : Str → Option Value} {h₀ : Heap} (X : (Mine.hd.heap_39 w.params).In h₀) (T : Top p loose mean mg mb h₀) : NoneBooked h₀ := by
  exact booked_of X T.nolimit rfl
theorem NoneBooked.keeps {h h' : Heap} (x : NoneBooked h) (hk : ∀ b o, h.get? b = some o → h'.get? b = some o) : NoneBooked h' := let ⟨mc, a, b⟩ := x; ⟨mc, a.keeps hk, b⟩
end Mine
end

section
open PySem PySem.W PyProof.Rows
set_option Elab.async false
set_option maxRecDepth 100000
set_option maxHeartbeats 400000
namespace Mine
theorem same_floats {M : Model} {A : Around} {E : Value → Shared → Prop} {s : Shared} {y z : UInt64} {u v : Tok} {Q : Bool → Shared → Prop}
    (h1 : u ≠ 0) (h2 : v ≠ 0) (hb : NoneBooked s.heap) (hq : ∀ b, Q b s) : wpAny M A (isSame (.float y u) (.float z v)) Q E s := by
  have h0 : (u == 0 || v == 0) = false := by simp [h1, h2]
  show wpAny M A (isSame.created (y == z && !Float64.isNaN y) u v) Q E s
  unfold isSame.created
  refine wpAny_ite ?_
  split
  · rename_i h; rw [h0] at h; exact absurd h Bool.false_ne_true
  refine wpAny_ite ?_
  split
  · exact wpAny_pure (hq _)
  refine wpAny_ite ?_
  split
  · exact wpAny_pure (hq _)
  refine wpAny_bind (wpAny_sharingNotTold_none hb ?_)
  first | rw [if_neg Bool.false_ne_true] | simp only [Bool.false_eq_true, if_false]
  refine wpAny_bind (wpAny_sharingNotTold_none hb ?_)
  first | rw [if_neg Bool.false_ne_true] | simp only [Bool.false_eq_true, if_false]
  exact wpAny_bind (wpAny_rule (wpAny_bind (wpAny_askSetting (wpAny_pure (hq _)))))
theorem eqAt_float {A : Around} {s : Shared} {a : UInt64} {t u : Tok} (h1 : t ≠ 0) (h2 : u ≠ 0) (hb : NoneBooked s.heap) (h : (Float64.cmp a a == some Ordering.eq) = true) : SeqAt.EqAt A s (.float a t) (.float a u) true := fun prog w E Q hq => by
  unfold eqBool
  refine wpAny_holding ?_
  refine wpAny_ite_split (fun _ => wpAny_bind (wpAny_rule (wpAny_pure hq))) (fun _ => ?_)
  refine wpAny_bind (same_floats h1 h2 hb fun b => ?_)
  cases b
  · refine wpAny_bind (AutoFloatOps.eq_0 ?_)
    rw [h]
    exact wpAny_truthy_bool hq
  · exact wpAny_pure hq
section
variable {prog : Program} {w : World} {A : Around} {E : Value → Shared → Prop} {s : Shared} {h₀ : Heap} {L l : Addr} {m : Str → Option Value} {news : List (Addr × Obj)} {k : Nat} {t u : Tok} {Q : Value → Shared → Prop}
theorem ne_greys {a b : Addr} {k1 k2 : Nat} {u1 u2 u3 u4 : Tok} (F : Fr h₀ L s.heap m) (N : News h₀ L s.heap news) (ha : (a, listOf [Value.float 4607182418800017408 u1, .float 0 u2].toArray k1) ∈ news) (hb : (b, listOf #[Value.float 4607182418800017408 u3, .float 0 u4] k2) ∈ news) (hu : A.units < cLine)
    (hB : NoneBooked h₀) (z1 : u1 ≠ 0) (z2 : u2 ≠ 0) (z3 : u3 ≠ 0) (z4 : u4 ≠ 0) (h : Q (.bool false) s) : wpAny (model prog w) A (compareOp .NotEq (.ref a) (.ref b)) Q E s := by
  have hl : s.heap.IsList a #[Value.float 4607182418800017408 u1, .float 0 u2] := ⟨_, N.get ha, rfl, k1, rfl⟩
  have hl2 : s.heap.IsList b #[Value.float 4607182418800017408 u3, .float 0 u4] := ⟨_, N.get hb, rfl, k2, rfl⟩
  have hB' : NoneBooked s.heap := NoneBooked.keeps hB F.keep
  refine (SeqAt.RcNeAt.lists (e := fun _ => true) hl hl2 rfl hu fun j h1 h2 => ?_) prog w E Q h
  match j, h1, h2 with
  | 0, _, _ => exact eqAt_float z1 z3 hB' (by decide +kernel)
  | 1, _, _ => exact eqAt_float z2 z4 hB' (by decide +kernel)
  | j + 2, h1, _ => exact absurd h1 (by simp)
end
end Mine
end

section
open PySem PySem.W PyProof.Rows
set_option Elab.async false
set_option maxRecDepth 100000
set_option maxHeartbeats 400000
namespace Mine
noncomputable def at13 : List Stmt := off1 at12
section
variable {prog : Program} {w : World} {A : Around} {E : Value → Shared → Prop} {s : Shared} {env : Env} {h₀ : Heap} {Q : Flow → Shared → Prop}
/-- iter_list_K, with the tokens' lower bound -/
theorem iter_list_T {target : PySem.Expr} {body : List Stmt} {l : Addr} {vs : List Value} {n : Nat} {m : Str → Option Value} {news : List (Addr × Obj)}
    (hh : A.handled = none) (F : Fr h₀ env.locals s.heap m) (N : News h₀ env.locals s.heap news) (hpos : 1 ≤ s.toks)
    (J : Nat → (Str → Option Value) → List (Addr × Obj) → Prop) (h0 : J 0 m news) (hl : ∀ i m' nx, J i m' nx → (l, listOf vs.toArray n) ∈ nx)
    (step : ∀ i v m₁ news₁ h tk it io, vs[i]? = some v → J i m₁ news₁ → (∀ p ∈ news₁, p.1 ≠ it) → Fr h₀ env.locals h m₁ → News h₀ env.locals h ((it, io) :: news₁) → 1 ≤ tk →
      wpAny (model prog w) A (assign target env v) (fun _ s₂ => wpAny (model prog w) A (execs body env) (EndK h₀ env.locals (J (i + 1)) (it, io) { s with heap := h, toks := tk } Q) E s₂) E { s with heap := h, toks := tk })
    (done : ∀ m' news' h tk, J vs.length m' news' → Fr h₀ env.locals h m' → News h₀ env.locals h news' → 1 ≤ tk → Q .next { s with heap := h, toks := tk })
    (hE : PassesOwn (model prog w) A env E) :
    wpAny (model prog w) A (pyIter (.ref l)) (fun it s₂ => LoopK prog w A env target body Q E it s₂) E s := by
  have hls : s.heap.IsList l vs.toArray := ⟨_, N.get (hl _ _ _ h0), rfl, n, rfl⟩
  refine wpAny_pyIter_list hls ?_
  have hsz : ∀ p ∈ news, p.1 ≠ s.heap.objs.size := fun p hp => Nat.ne_of_lt (Heap.lt_size (N p hp).1)
  have hit0 : (s.heap.push { cls := .type "list_iterator", data := .fields #[.ref l, .int 0 0] }).IsListIter s.heap.objs.size l 0 := ⟨_, Heap.get?_push_size _ rfl, rfl, rfl⟩
  have hLi : env.locals ≠ s.heap.objs.size := Nat.ne_of_lt F.ns.lt
  have hnone : h₀.get? s.heap.objs.size = none := next_is_new F
  generalize hI : s.heap.objs.size = I at hit0 hLi hnone hsz
  unfold LoopK
  refine codeAny_forLoop_any
    (fun k s' => ∃ h' tk m' nx i, s' = { s with heap := h', toks := tk } ∧ h'.IsListIter I l i ∧ Fr h₀ env.locals h' m' ∧ News h₀ env.locals h' nx ∧ (∀ p ∈ nx, p.1 ≠ I) ∧ J i m' nx ∧ i ≤ vs.length ∧ k = vs.length + 1 - i ∧ 1 ≤ tk) ?_ (vs.length + 1)
    ⟨_, s.toks, m, news, 0, rfl, hit0, F.push _, fun p hp => ⟨Heap.get?_push_of_some _ (N p hp).1, (N p hp).2⟩, hsz, h0, Nat.zero_le _, rfl, hpos⟩
  rintro k s' ⟨h', tk, m', nx, i, rfl, hit', F', N', hnx, hJ, hi, rfl, htk⟩
  have hl' : h'.IsList l vs.toArray := ⟨_, N'.get (hl _ _ _ hJ), rfl, n, rfl⟩
  have old : ∀ b o, h₀.get? b = some o → b ≠ I := fun b o e q => by rw [q, hnone] at e; cases e
  by_cases hlt : i < vs.length
  · refine wpAny_pyNext_list_item hit' hl' (x := vs[i]) (by simp [hlt]) fun h₁ hit₁ hs₁ => ?_
    have F₁ : Fr h₀ env.locals h₁ m' := ⟨F'.ns.at' fun o e => (hs₁.2 _ hLi).trans e, fun b o e => (hs₁.2 b (old b o e)).trans (F'.keep b o e), F'.above⟩
    have N₁ : News h₀ env.locals h₁ nx := fun p hp => ⟨(hs₁.2 _ (hnx p hp)).trans (N' p hp).1, (N' p hp).2⟩
    refine go_list hit₁ ?_
    obtain ⟨io, hio, hc, hd⟩ := id hit₁
    have N₂ : News h₀ env.locals h₁ ((I, io) :: nx) := fun p hp => by
      rcases List.mem_cons.mp hp with rfl | hp
      · exact ⟨hio, Ne.symm hLi, hnone⟩
      · exact N₁ p hp
    refine wpAny_passesOwn hE (wpAny_mono (wpAny_toks_of (n := 1) htk (step i vs[i] m' nx h₁ tk I io (by simp [hlt]) hJ hnx F₁ N₂ htk)) (fun _ s₂ h₂ => wpAny_passesOwn hE (wpAny_mono (wpAny_toks_of h₂.1 h₂.2) (fun f s₃ h₃ => ?_) fun _ _ e => e.2)) fun _ _ e => e.2)
    have hpos₃ := h₃.1
    replace h₃ := h₃.2
    have fin : (∃ h' tk' m' led nx, s₃ = { ({ s with heap := h₁, toks := tk } : Shared) with heap := h', toks := tk' } ∧ Fr h₀ env.locals h' m' ∧ News h₀ env.locals h' led ∧ (I, io) ∈ led ∧ (∀ p ∈ nx, p ∈ led) ∧ (∀ p ∈ nx, p.1 ≠ I) ∧ J (i + 1) m' nx) →
        ∃ k', k' < vs.length + 1 - i ∧ ∃ h' tk m' nx i, s₃ = { s with heap := h', toks := tk } ∧ h'.IsListIter I l i ∧ Fr h₀ env.locals h' m' ∧ News h₀ env.locals h' nx ∧ (∀ p ∈ nx, p.1 ≠ I) ∧ J i m' nx ∧ i ≤ vs.length ∧ k' = vs.length + 1 - i ∧ 1 ≤ tk := by
      rintro ⟨h₃', tk₃, m₂, led, nx₂, rfl, F₃, N₃, hin, hsub, hn₃, hJ₃⟩
      exact ⟨vs.length + 1 - (i + 1), by omega, h₃', tk₃, m₂, nx₂, i + 1, rfl, ⟨io, N₃.get hin, hc, hd⟩, F₃, fun p hp => N₃ p (hsub p hp), hn₃, hJ₃, hlt, rfl, hpos₃⟩
    cases f with
    | ret v => exact h₃
    | brk => exact h₃
    | next => exact fin h₃
    | cont => exact fin h₃
  · have hin : i = vs.length := by omega
    subst hin
    refine wpAny_pyNext_list_end hh hit' hl' (by simp) fun h₁ he₁ => wpAny_execs_nil ?_
    exact done m' nx h₁ tk hJ ⟨F'.ns.at' fun o e => he₁ _ o hLi e, fun b o e => he₁ b o (old b o e) (F'.keep b o e), F'.above⟩ (fun p hp => ⟨he₁ _ _ (hnx p hp) (N' p hp).1, (N' p hp).2⟩) htk
end
local macro_rules | `(tactic| k_mem) => `(tactic| first | assumption | exact List.Mem.head _ | (refine' List.Mem.tail _ ?_; k_mem))
local macro_rules | `(tactic| k_all) => `(tactic| first | assumption | exact List.forall_mem_nil _ | (refine' List.forall_mem_cons.mpr ⟨?a, ?b⟩; (case a => k_ne); (case b => k_all)))
theorem wl_LD_1 : True := by
  k_with_none
  k_with "newTuple" => (k_here; k_dflt (refine' kup_newTuple ?wqzzF ?wqzzN ?_ ?wqzzz; (case wqzzF => k_asm); (case wqzzN => k_asm); (case wqzzz => kmk_size)); intro _ _ _ _ l1; (try k_lt l1); (try (revert l1; intro _)); (try k_sweep))
  k_with "eval ListComp" => (k_here; k_dflt (refine' comp_expr ?wqzzhc ?wqzzhk ?wqzzhn ?wqzzhs ?_; (case wqzzhc => with_unfolding_all rfl); (case wqzzhk => rfl); (case wqzzhn => decide); (case wqzzhs => intro _; with_unfolding_all rfl)))
  k_with "eval ListComp" => (k_here; k_dflt (refine' wpAny_with_toks (n := 1) ?wqzztk ?_; (case wqzztk => assumption); refine' comp_expr ?wqzzhc ?wqzzhk ?wqzzhn ?wqzzhs ?_; (case wqzzhc => with_unfolding_all rfl); (case wqzzhk => rfl); (case wqzzhn => decide); (case wqzzhs => intro _; with_unfolding_all rfl)))
  k_with "eval Name" => (k_here; (with_reducible show wpAny _ _ (eval (Expr.Name _ _) (compEnvC _ _ _ _)) _ _ _); k_dflt (first
      | (refine' block_local ?wqzzN ?wqzzm ?wqzzn ?wqzzv ?_ ?wqzzk ?wqzzl ?wqzzd; (case wqzzk => rfl); (case wqzzl => rfl); (case wqzzd => decide); (case wqzzN => k_asm); (case wqzzm => k_mem); (case wqzzn => assumption); (case wqzzv => first | assumption | rfl))
      | (refine' block_cell ?wqzzN ?wqzzc ?wqzzm ?wqzzo ?_ ?wqzzk ?wqzzl ?wqzzd; (case wqzzk => rfl); (case wqzzl => rfl); (case wqzzd => decide); (case wqzzN => k_asm); (case wqzzc => rfl); (case wqzzm => k_mem); (case wqzzo => assumption))))
  k_with "eval DictComp" => (k_here; k_dflt (refine' corn_eval ?wqzzhc ?wqzzhe ?wqzzhk ?wqzzhn ?wqzzhx ?wqzzhs ?_; (case wqzzhc => with_unfolding_all rfl); (case wqzzhe => decide); (case wqzzhk => rfl); (case wqzzhn => decide); (case wqzzhx => rfl); (case wqzzhs => intro _; with_unfolding_all rfl)))
  k_with "subscriptTail" => (k_here; (with_reducible show wpAny _ _ (subscriptTail _ _ (Value.ref _) (Value.str (nm _) _)) _ _ _); k_dflt (refine' pd_sub ?wqzzN ?wqzzd ?wqzzo ?_ ?wqzzhs; (case wqzzN => k_asm); (case wqzzd => k_mem); (case wqzzo => assumption); (case wqzzhs => rfl)))
  k_with "subscriptTail Name Name ref int" => (k_here; (with_reducible show wpAny _ _ (subscriptTail _ _ (Value.ref _) (Value.int (Nat.cast _) _)) _ _ _); k_dflt (refine' name_at ?wqzzN ?wqzzd ?wqzzv ?wqzzi ?wqzzz ?_ ?wqzzhs; (case wqzzN => k_asm); (case wqzzd => k_mem); (case wqzzv => assumption); (case wqzzi => assumption); (case wqzzz => assumption); (case wqzzhs => rfl)); intro _)
  k_with "subscriptTail Name Slice ref ref" => (k_here; (with_reducible show wpAny _ _ (subscriptTail _ (PySem.Expr.Slice _ _ none _) (Value.ref _) (Value.ref _)) _ _ _); k_dflt (refine' slice_two ?wqzzF ?wqzzN ?wqzzt ?_ ?wqzzs ?wqzzg; (case wqzzF => k_asm); (case wqzzN => k_asm); (case wqzzt => k_mem); (case wqzzs => with_unfolding_all rfl); (case wqzzg => kmk_pure)); intro _ _ _ _ l1; (try k_lt l1); (try (revert l1; intro _)); (try k_sweep))
  k_with "compareOp NotEq ref ref" => (k_here; k_dflt (refine' ne_greys ?wqzzF ?wqzzN ?wqzza ?wqzzb ?wqzzu ?wqzzhB ?wqzzz1 ?wqzzz2 ?wqzzz3 ?wqzzz4 ?_; (case wqzzF => k_asm); (case wqzzN => k_asm); (case wqzza => k_mem); (case wqzzb => k_mem); (case wqzzu => exact Nat.le_of_ble_eq_true rfl); (case wqzzhB => assumption); (case wqzzz1 => assumption); (case wqzzz2 => assumption); (case wqzzz3 => assumption); (case wqzzz4 => exact Nat.succ_ne_zero _)))
  k_with "exec For" => (k_here; refine For_S ?_ (by intro _; with_unfolding_all rfl))
  k_with "exec For Name Name cons nil" => (k_here; refine For_S ?_ (by intro _; with_unfolding_all rfl))
  k_with "call ref" => (k_here; k_dflt (refine wpAny_call ?_; refine' t_mixcT _ _ _ ?wqzzX ?wqzzB ?wqzzF ?wqzzN ?wqzzT ?wqzzk ?wqzzd ?wqzzu ?wqzzml ?wqzzmp ?wqzzok ?_; (case wqzzX => k_asm); (case wqzzB => k_asm); (case wqzzF => k_asm); (case wqzzN => k_asm); (case wqzzT => k_asm); (case wqzzk => rfl); (case wqzzd => exact Nat.le_of_ble_eq_true rfl); (case wqzzu => exact Nat.le_of_ble_eq_true rfl); (case wqzzml => k_mem); (case wqzzmp => exact PaintsIn.mono (by assumption) (fun p hp => by repeat (first | exact hp | apply List.mem_cons_of_mem))); (case wqzzok => assumption)); intro _ _ _ _ _ _ _ _ _ l1; (try k_lt l1); (try dsimp only); (try (revert l1; intro _)); (try k_sweep))
  exact True.intro
theorem refs_of {st : LS} {P : Col → Addr} {led : List (Addr × Obj)} : ∀ {js : List Nat} {vs ys : List Value}, IntsAre vs (js.map fun j => ((j : Nat) : Int)) → Paired (fun v y => ∃ nw : List (Addr × Obj), (∀ q ∈ nw, q ∈ led) ∧ ∃ (j : Nat) (t : Tok), v = Value.int ((j : Nat) : Int) t ∧ y = Value.ref (P (st.col j))) vs ys → ys = ((js.map st.col).map fun c => Value.ref (P c))
  | [], _, _, .nil, .nil => rfl
  | j :: js, _, _, .cons _ t r, .cons ⟨_, _, j', t', e1, e2⟩ h => by
    injection e1 with e3 e4
    have e5 : ((j : Nat) : Int) = ((j' : Nat) : Int) := e3
    have : j = j' := by omega
    subst this
    rw [e2, refs_of r h]
    rfl
theorem dc_nocell {prog : Program} {w : World} {o : Obj} {c : List (Str × Int)} {v : Option Value} (h : DcIs prog w o c) : o.data ≠ .cell v := fun e => by
  obtain ⟨kvs, ⟨es, ep, _, hd, _⟩, _⟩ := h
  rw [e] at hd
  cases hd
theorem wl_LD_2 : True := by
  k_with "eval Name" => (k_here; (with_reducible show wpAny _ _ (eval (Expr.Name _ _) (compEnvC _ _ _ _)) _ _ _); k_dflt (refine' ldVarK ?wqzzn ?wqzzv ?_ ?wqzzk ?wqzzl ?wqzzd; (case wqzzk => rfl); (case wqzzl => rfl); (case wqzzd => decide); (case wqzzn => assumption); (case wqzzv => assumption)))
  k_with "subscriptTail" => (k_here; (with_reducible show wpAny _ _ (subscriptTail (Expr.Constant _ _ _) _ (Value.str (PySem.Str.ofString "ABCDEFGHIJK") _) (Value.int (Nat.cast _) _)) _ _ _); k_dflt (refine' up_at ?wqzzi ?_ ?wqzzhs; (case wqzzi => assumption); (case wqzzhs => rfl)); intro _ _)
  k_with "call ref" => (k_here; k_dflt (refine wpAny_call ?_; refine' t_addf _ ?wqzzX ?wqzzB ?wqzzF ?wqzzN ?wqzzT ?wqzzk ?wqzzd ?wqzzu ?wqzzma1 ?wqzzma2 ?wqzzm1 ?wqzzm2 ?wqzzl1 ?wqzzl2 ?wqzzi1 ?wqzzi2 ?wqzzz1 ?wqzzz2 ?wqzzb1 ?wqzzb2 ?wqzzb3 ?wqzzb4 ?_; (case wqzzX => k_asm); (case wqzzB => k_asm); (case wqzzF => k_asm); (case wqzzN => k_asm); (case wqzzT => k_asm); (case wqzzk => rfl); (case wqzzma1 => k_mem); (case wqzzma2 => k_mem); (case wqzzm1 => k_mem); (case wqzzm2 => k_mem); (case wqzzl1 => assumption); (case wqzzl2 => assumption); (case wqzzi1 => assumption); (case wqzzi2 => assumption); (case wqzzz1 => assumption); (case wqzzz2 => assumption); (case wqzzd => exact Nat.le_of_ble_eq_true rfl); (case wqzzu => exact Nat.le_of_ble_eq_true rfl); (case wqzzb1 => exact adds_int _ _ _ _); (case wqzzb2 => exact adds_int _ _ _ _); (case wqzzb3 => exact adds_int _ _ _ _); (case wqzzb4 => exact adds_int _ _ _ _)); intro _ _ _ _ _ _ _ _ _ _ _ l1 l2 _ _; (try k_lt l1); (try k_lt2 l2); (try dsimp only); (try (revert l1; intro _)); (try (revert l2; intro _)); (try k_sweep))
  exact True.intro
theorem names_ix {st : LS} {led : List (Addr × Obj)} : ∀ {js : List Nat} {vs ys : List Value}, IntsAre vs (js.map fun j => ((j : Nat) : Int)) → Paired (fun v y => ∃ nw : List (Addr × Obj), (∀ q ∈ nw, q ∈ led) ∧ ∃ (j : Nat) (t u : Tok), v = Value.int ((j : Nat) : Int) t ∧ y = Value.str (nm (st.col j)) u) vs ys → NamesAre ys (js.map st.col)
  | [], _, _, .nil, .nil => .nil
  | j :: js, _, _, .cons _ t r, .cons ⟨_, _, j', t', u, e1, e2⟩ h => by
    injection e1 with e3 e4
    have e5 : ((j : Nat) : Int) = ((j' : Nat) : Int) := e3
    have : j = j' := by omega
    subst this
    rw [e2]
    exact .cons _ u (names_ix r h)
theorem mapC_self {g : Str → Option Value} {cl rl : Addr} {tn : Int} {tt : Tok} (h1 : g (Str.ofString "turned") = some (.int tn tt)) (h2 : g (Str.ofString "cuts") = some (.ref cl)) (h3 : g (Str.ofString "rim") = some (.ref rl)) : g = MapC g cl rl tn tt := by
  funext y
  unfold MapC
  by_cases e1 : y = Str.ofString "turned"
  · rw [if_pos e1, e1, h1]
  by_cases e2 : y = Str.ofString "cuts"
  · rw [if_neg e1, if_pos e2, e2, h2]
  by_cases e3 : y = Str.ofString "rim"
  · rw [if_neg e1, if_neg e2, if_pos e3, e3, h3]
  rw [if_neg e1, if_neg e2, if_neg e3]
theorem wl_LD_3 : True := by
  k_with "call ref" => (k_here; k_dflt (refine wpAny_call ?_; refine' t_steps _ ?wqzzX ?wqzzB ?wqzzF ?wqzzN ?wqzzT ?wqzzk ?wqzzd ?wqzzu ?wqzzmd ?wqzzpd ?wqzzmp ?wqzzmn ?wqzzhv ?wqzzhz ?_; (case wqzzX => k_asm); (case wqzzB => k_asm); (case wqzzF => k_asm); (case wqzzN => k_asm); (case wqzzT => k_asm); (case wqzzk => rfl); (case wqzzd => exact Nat.le_of_ble_eq_true rfl); (case wqzzu => exact Nat.le_of_ble_eq_true rfl); (case wqzzmd => k_mem); (case wqzzpd => assumption); (case wqzzmp => exact PaintsIn.mono (by assumption) (fun p hp => by repeat (first | exact hp | apply List.mem_cons_of_mem))); (case wqzzmn => k_mem); (case wqzzhv => assumption); (case wqzzhz => assumption)); intro _ _ _ _ _; (try dsimp only); (try k_sweep))
  exact True.intro
def pre (st : LS) (i : Nat) : Int := ((st.cuts.take i).map fun q => stepsC (st.colsOf q)).sum
theorem pre_succ {st : LS} {i : Nat} {q : Nat × Nat × Nat} (h : st.cuts[i]? = some q) : pre st (i + 1) = pre st i + stepsC (st.colsOf q) := by
  unfold pre
  rw [List.take_add_one, h, List.map_append, List.sum_append]
  simp
theorem tally_succ {cuts : List (Nat × Nat × Nat)} {i : Nat} {q : Nat × Nat × Nat} (h : cuts[i]? = some q) : tally (cuts.take (i + 1)) = addC (tally (cuts.take i)) (disp q) := by
  rw [List.take_add_one, h, ← tally_snoc]
  rfl
structure CutS (w : World) (L : Addr) (st : LS) (i : Nat) (cl rl : Addr) (base : List (Addr × Obj)) (m : Str → Option Value) (nx : List (Addr × Obj)) : Prop where
  out : ∃ (D0 d0 : Addr) (t1 t2 t3 t4 tt : Tok) (od o5 : Obj) (rest : List (Addr × Obj)) (m₁ : Str → Option Value), nx = (L + 1 + 1 + 1 + 1 + 1, o5) :: rest ∧ m = MapC m₁ cl rl (pre st i) tt ∧ (∀ p ∈ rest, p.1 ≠ L + 1 + 1 + 1 + 1 + 1) ∧ (∀ p ∈ base, p ∈ rest) ∧
    o5.data = .cell (some (.ref D0)) ∧ (D0, tupO [.int (i : Nat) t1, .int 0 t2, .int 0 t3, .int 0 t4, .ref d0]) ∈ rest ∧ (d0, od) ∈ rest ∧ DcIs PySem.Challenge.rw_pg0268_01.row.prog w od (tally (st.cuts.take i)) ∧ (d0 == sysModules) = false
theorem t_cuts (w : World) {p : Program} {loose : List Str} {mean : ExcName → Option Value} {mg mb : Str → Option Value} {h₀ : Heap} {L fa : Addr} {cd : Value} {m : Str → Option Value} {s : Shared} {Q : Flow → Shared → Prop}
  {st : LS} {dP rl cl Dn : Addr} {n : Nat} {oP o1 o3 : Obj} {P : Col → Addr} {base news : List (Addr × Obj)} {ys cv : List Value} {k3 k4 : Nat}
  (X : (Mine.hd.heap_39 w.params).In h₀) (B : Below callerA h₀ [] h₀) (T : Top p loose mean mg mb h₀) (hsys : h₀.get? sysModules ≠ none)
  (F : Fr h₀ L s.heap m) (N : News h₀ L s.heap news) (S : CutS w L st 0 cl rl base m news)
  (c1 : (L + 1, o1) ∈ base) (e1 : o1.data = .cell (some (.ref dP))) (c3 : (L + 1 + 1 + 1, o3) ∈ base) (e3 : o3.data = .cell (some (.ref Dn)))
  (ok : st.Ok n) (hn : n ≤ 8)
  (md : (dP, oP) ∈ base) (pd : PD PySem.Challenge.rw_pg0268_01.row.prog w oP P) (mp : PaintsIn P base)
  (mDn : (Dn, listOf ys.toArray k3) ∈ base) (hys : NamesAre ys st.plain) (mcl : (cl, listOf cv.toArray k4) ∈ base) (hcv : CutsIn base cv st.cuts)
  (hpos : 1 ≤ s.toks)
  (done : ∀ m' nx h tk, CutS w L st st.cuts.length cl rl base m' nx → Fr h₀ L h m' → News h₀ L h nx → 1 ≤ tk → wpAny (model PySem.Challenge.rw_pg0268_01.row.prog w) (callerA.deeper (lawE L fa cd)) (execs at13 (lawE L fa cd)) Q (fun _ _ => False) { s with heap := h, toks := tk }) :
  wpAny (model PySem.Challenge.rw_pg0268_01.row.prog w) (callerA.deeper (lawE L fa cd)) (execs at12 (lawE L fa cd)) Q (fun _ _ => False) s := by
  revert X; k_fill; intro X
  unfold lawE at13 at12 at7 at6 lawR recOf at *
  dsimp only [off6, off1] at *
  obtain ⟨D0, d0, t1, t2, t3, t4, tt, od, o5, rest, m₁, rfl, rfl, b5, hb, e5, mD0, md0, hdc, lo0⟩ := S.out
  have F0 := F
  unfold MapC at F
  k_steps
  unfold StartK
  clear F
  refine iter_list_T (vs := cv) (n := k4) rfl F0 (by k_asm) hpos (fun i m' nx => CutS w L st i cl rl base m' nx) S ?hl ?step ?done (by passes_own)
  case hl =>
    rintro i m' nx ⟨_, _, _, _, _, _, _, _, _, rest, _, rfl, _, _, hb, _⟩
    exact List.mem_cons_of_mem _ (hb _ mcl)
  case done =>
    intro m' nx h tk hJ F' N' htk
    rw [hcv.length] at hJ
    dsimp only
    exact done m' nx h tk hJ F' N' htk
  case step =>
    clear F0 N S done hdc mD0 md0 e5 hb b5 lo0
    rintro i v m₂ nx h tk it io hv ⟨D0, d0, t1, t2, t3, t4, tt, od, o5, rest, m₁, rfl, rfl, b5, hb, e5, mD0, md0, hdc, lo0⟩ hit F₁ N₁ htk
    obtain ⟨cp, q, ta, tb, tc, rfl, mcp, hq⟩ := hcv.get hv
    obtain ⟨q1, q2, q3, n1, n2, n3⟩ := ok.each q (List.mem_of_getElem? hq)
    unfold MapC at F₁
    have mcp' := hb _ mcp
    have hB := booked w (by assumption) T
    have mp' : PaintsIn P rest := mp.mono hb
    have c1' := hb _ c1
    have c3' := hb _ c3
    have md' := hb _ md
    have mDn' := hb _ mDn
    have hpl : st.plain.length ≤ 10000 := by rw [ok.len]; omega
    iterate 2 (first | walk1 | (dsimp only; walk1))
    (try dsimp only)
    have hp9 : 1 ≤ tk + 1 := Nat.le_add_left _ _
    generalize tk + 1 = tk9 at hp9 ⊢
    k_steps
    rename_i DS hS2 lDS lS hS3 FF NN lL
    have hcD : cp < DS := allLt_all lDS.2.2 _ mcp'
    have hDc : DS ≠ cp := Ne.symm (Nat.ne_of_lt hcD)
    refine comp_src (src_list (vs := [Value.ref DS, Value.ref cp]) rfl (by k_asm) (by k_asm) (List.mem_cons_self ..)) (fun _ => true) (fun v y _ => (v = .ref DS → ∃ u, u ≠ 0 ∧ y = .float 4607182418800017408 u) ∧ (v = .ref cp → ∃ u, u ≠ 0 ∧ y = .float 0 u)) tests_nil ?_ ?_ (Nat.le_of_ble_eq_true rfl) (by decide) rfl rfl
    · intro C i' v co m₂ tl s₃ E' hi hP hp hnC hm F₂ N₂ hs
      have inR : ∀ p ∈ rest, p ∈ tl := fun p h => hs p (List.mem_cons_of_mem _ (List.mem_cons_of_mem _ (List.mem_cons_of_mem _ (List.mem_cons_of_mem _ h))))
      have hpart : ∃ (js : List Nat) (pa : Addr) (tv : List Value), v = .ref pa ∧ (pa, tupO tv) ∈ tl ∧ IntsAre tv (js.map fun j => ((j : Nat) : Int)) ∧ (∀ j ∈ js, j < n + 3) ∧ okMix (js.map st.col) = true ∧
          (v = .ref DS → (mixv (js.map st.col)).2.1 = 4607182418800017408) ∧ (v = .ref cp → (mixv (js.map st.col)).2.1 = 0) ∧ js.length ≤ 3 := by
        match i', hP with
        | 0, hP =>
          simp at hP
          subst hP
          refine ⟨[q.1, q.2.1], DS, [_, _], rfl, hs _ (List.mem_cons_of_mem _ (List.mem_cons_self ..)), .cons _ _ (.cons _ _ .nil), ?_, ok2 _ _ n1, fun _ => grey2 _ _ n1, fun e => ?_, Nat.le_of_ble_eq_true rfl⟩
          · intro j hj
            simp only [List.mem_cons, List.not_mem_nil, or_false] at hj
            rcases hj with rfl | rfl
            · exact q1
            · exact q2
          · injection e with e
            exact absurd e hDc
        | 1, hP =>
          simp at hP
          subst hP
          refine ⟨[q.1, q.2.1, q.2.2], cp, [_, _, _], rfl, inR _ mcp', .cons _ _ (.cons _ _ (.cons _ _ .nil)), ?_, ok3 _ _ _ n1 n2 n3, fun e => ?_, fun _ => grey3 _ _ _ n1 n2 n3, Nat.le_of_ble_eq_true rfl⟩
          · intro j hj
            simp only [List.mem_cons, List.not_mem_nil, or_false] at hj
            rcases hj with rfl | rfl | rfl
            · exact q1
            · exact q2
            · exact q3
          · injection e with e
            exact absurd e.symm hDc
        | i' + 2, hP => simp at hP
      obtain ⟨js, pa, tv, rfl, hpa, hti, hjl, hok, hv1, hv2, hj3⟩ := hpart
      have c1' := inR _ c1'
      have c3' := inR _ c3'
      have md' := inR _ md'
      have mDn' := inR _ mDn'
      have mp' := mp'.mono inR
      clear hs hi hP hp inR NN FF hb lL lDS
      k_steps
      refine comp_src (src_tuple rfl (by k_asm) (by k_asm) (List.mem_cons_of_mem _ hpa)) (fun _ => true) (fun v y _ => ∃ (j : Nat) (t : Tok), v = Value.int ((j : Nat) : Int) t ∧ y = Value.ref (P (st.col j))) tests_nil ?_ ?_ (by rw [hti.length, List.length_map]; omega) (by decide) rfl rfl
      · intro C2 i2 v2 co2 m3 tl2 s4 E2 hi2 hP2 hp2 hn2 hm2 F3 N3 hs2
        obtain ⟨z, t, rfl, hz⟩ := ints_got hti hP2
        obtain ⟨j, hj, rfl⟩ : ∃ j, j ∈ js ∧ ((j : Nat) : Int) = z := by
          rw [List.getElem?_map, Option.map_eq_some_iff] at hz
          obtain ⟨j, hj, e⟩ := hz
          exact ⟨j, List.mem_of_getElem? hj, e⟩
        have hjn : j < st.plain.length := by rw [ok.len]; exact hjl j hj
        have c1' := hs2 _ (List.mem_cons_of_mem _ c1')
        have c3' := hs2 _ (List.mem_cons_of_mem _ c3')
        have md' := hs2 _ (List.mem_cons_of_mem _ md')
        have mDn' := hs2 _ (List.mem_cons_of_mem _ mDn')
        k_steps
        exact EltEnd.plain (by k_asm) (by k_asm) (fun q h => by repeat (first | exact h | apply List.mem_cons_of_mem)) ⟨j, t, rfl, rfl⟩
      · intro D2 h2 tk2 k2 ys2 vs2 led2 F3 N3 hs2 hlt2 hlen2 hP2 hF2
        have hvs2 : vs2 = tv := same_list hlen2 hP2
        subst hvs2
        rw [List.filter_eq_self.mpr (fun _ _ => rfl)] at hF2
        have hys2 := refs_of hti hF2
        subst hys2
        have mp2 := mp'.mono fun p h => hs2 p (List.mem_cons_of_mem _ h)
        clear mp' hF2 hP2 hlen2 hlt2
        (try dsimp only)
        k_steps
        rename_i DM u1 u2 u3 hM tkM nzM FM NM lM
        exact EltEnd.plain FM NM (fun q h => by
          repeat apply List.mem_cons_of_mem
          exact hs2 q h) ⟨fun e => ⟨u2, nzM, by rw [hv1 e]⟩, fun e => ⟨u2, nzM, by rw [hv2 e]⟩⟩
    · intro D2 h2 tk2 k2 ys2 vs2 led2 F₂ N₂ hs hlt hlen hP hF
      have hvs2 : vs2 = [Value.ref DS, Value.ref cp] := same_list hlen hP
      subst hvs2
      rw [List.filter_eq_self.mpr (fun _ _ => rfl)] at hF
      obtain ⟨u1, u2, z1, z2, rfl⟩ : ∃ u1 u2, u1 ≠ 0 ∧ u2 ≠ 0 ∧ ys2 = [Value.float 4607182418800017408 u1, .float 0 u2] := by
        cases hF with
        | cons h1 r =>
          cases r with
          | cons h2 r =>
            cases r
            obtain ⟨_, _, h1, _⟩ := h1
            obtain ⟨_, _, _, h2⟩ := h2
            obtain ⟨u1, z1, rfl⟩ := h1 rfl
            obtain ⟨u2, z2, rfl⟩ := h2 rfl
            exact ⟨u1, u2, z1, z2, rfl⟩
      have N₃ := cb_drop N₂ (sub_cons hs)
      have lD2 : @LT.lt Nat _ it D2 ∧ @LT.lt Nat _ (L + 1 + 1 + 1 + 1 + 1) D2 := ⟨hlt (it, io) (by k_mem), hlt (L + 1 + 1 + 1 + 1 + 1, o5) (by k_mem)⟩
      clear N₂ hs hF hlen hP hlt
      (try dsimp only)
      intro htk2
      have htk3 : tk2 ≠ 0 := Nat.pos_iff_ne_zero.mp htk2
      k_steps
      rename_i lF hF FF5 NN5 lF5
      have hd1 : q.1 ≠ q.2.1 := fun e => n1 (by rw [e])
      have hd2 : q.2.1 ≠ q.2.2 := fun e => n2 (by rw [e])
      have hd3 : q.1 ≠ q.2.2 := fun e => n3 (by rw [e])
      refine corn_go rfl (by k_asm) (by k_asm) (by k_mem) hd1 hd2 hd3 hsys ?key ?val ?_
      case key =>
        intro C s₃ m₃ E' j t hj hns hm
        have hj11 : j < 11 := by rcases hj with rfl | rfl | rfl <;> omega
        clear NN5 FF5
        k_steps
        exact ⟨_, _, rfl, rfl⟩
      case val =>
        intro C s₃ m₃ E' hns
        clear NN5 FF5
        k_steps
        exact ⟨_, _, rfl, rfl⟩
      intro D6 o6 h6 tk6 F6 N6 dc6 lo6
      have hD6 : @Ne Nat D6 (L + 1 + 1 + 1 + 1 + 1) := cell_ne N6 (List.mem_cons_self ..) (by k_mem) e5 (fun v e => dc_nocell dc6 e)
      clear NN5 FF5
      have hzt : (tally (st.cuts.take i)).length ≤ 100 := by
        have h1 := tally_len (st.cuts.take i)
        have h2 : (st.cuts.take i).length ≤ 9 := by rw [List.length_take, ok.cuts]; omega
        omega
      have hitL : @Ne Nat it (L + 1 + 1 + 1 + 1 + 1) := Ne.symm (hit _ (List.mem_cons_self ..))
      have hzd : (disp q).length ≤ 100 := Nat.le_of_ble_eq_true rfl
      (try dsimp only)
      k_steps
      rename_i DT d7 o7 w1 w2 w3 w4 h7 tk7 lo7 dc7 l7 l8 h8 o8 F8 N8 d8
      have hti : IntsAre [Value.int ((q.1 : Nat) : Int) ta, .int ((q.2.1 : Nat) : Int) tb, .int ((q.2.2 : Nat) : Int) tc] ([q.1, q.2.1, q.2.2].map fun j => ((j : Nat) : Int)) := .cons _ _ (.cons _ _ (.cons _ _ .nil))
      refine comp_src (src_tuple rfl (by k_asm) (by k_asm) (by k_mem)) (fun _ => true) (fun v y _ => ∃ (j : Nat) (t u : Tok), v = Value.int ((j : Nat) : Int) t ∧ y = Value.str (nm (st.col j)) u) tests_nil ?_ ?_ (Nat.le_of_ble_eq_true rfl) (by decide) rfl rfl
      · intro C2 i2 v2 co2 m3 tl2 s4 E2 hi2 hP2 hp2 hn2 hm2 F3 N3 hs2
        have inR : ∀ p ∈ rest, p ∈ tl2 := fun p h => hs2 p (by repeat (first | exact h | apply List.mem_cons_of_mem))
        obtain ⟨z, t, rfl, hz⟩ := ints_got hti hP2
        obtain ⟨j, hj, rfl⟩ : ∃ j, j ∈ [q.1, q.2.1, q.2.2] ∧ ((j : Nat) : Int) = z := by
          rw [List.getElem?_map, Option.map_eq_some_iff] at hz
          obtain ⟨j, hj, e⟩ := hz
          exact ⟨j, List.mem_of_getElem? hj, e⟩
        have hjn : j < st.plain.length := by
          rw [ok.len]
          simp only [List.mem_cons, List.not_mem_nil, or_false] at hj
          rcases hj with rfl | rfl | rfl
          · exact q1
          · exact q2
          · exact q3
        have c3' := inR _ c3'
        have mDn' := inR _ mDn'
        clear N8 F8 hs2 inR
        k_steps
        exact EltEnd.plain (by k_asm) (by k_asm) (fun q h => by repeat (first | exact h | apply List.mem_cons_of_mem)) ⟨j, t, _, rfl, rfl⟩
      · intro D9 h9 tk9' k9 zs vs9 led9 F9 N9 hs9 hlt9 hlen9 hP9 hF9
        have hvs9 := same_list hlen9 hP9
        subst hvs9
        rw [List.filter_eq_self.mpr (fun _ _ => rfl)] at hF9
        have hzs : NamesAre zs (st.colsOf q) := names_ix hti hF9
        have N10 : News h₀ L h9 ((D9, W.listOf zs.toArray k9) :: (DT, tupO [.int (1 + (i : Int)) w1, .int (0 + 0) w2, .int (0 + 0) w3, .int (0 + 0) w4, .ref d7]) :: (d7, o7) :: (it, io) :: (L + 1 + 1 + 1 + 1 + 1, o8) :: rest) := cb_drop N9 (sub_cons fun p hp => hs9 p (by
          revert p
          (repeat refine sub_c (by k_mem) ?_); (repeat first | exact sub_r | refine sub_t ?_)))
        have hz3 : (st.colsOf q).length ≤ 100 := Nat.le_of_ble_eq_true rfl
        clear N9 N8 F8 hs9 hF9 hP9 hlen9 hlt9
        (try dsimp only)
        k_steps
        rename_i hE FE NE
        have e0 : (1 : Int) + (i : Int) = ((i + 1 : Nat) : Int) := by omega
        rw [e0] at NE
        have ltNe : ∀ {a b : Addr}, @LT.lt Nat _ a b → b ≠ a := fun h => Ne.symm (Nat.ne_of_lt h)
        have hDT : (DT, tupO [.int ((i + 1 : Nat) : Int) w1, .int 0 w2, .int 0 w3, .int 0 w4, .ref d7]) ∈ (DT, tupO [.int ((i + 1 : Nat) : Int) w1, .int 0 w2, .int 0 w3, .int 0 w4, .ref d7]) :: (d7, o7) :: rest := List.mem_cons_self ..
        refine EndK.next ((L + 1 + 1 + 1 + 1 + 1, o8) :: (DT, tupO [.int ((i + 1 : Nat) : Int) w1, .int 0 w2, .int 0 w3, .int 0 w4, .ref d7]) :: (d7, o7) :: rest) FE NE ?hi ?hsub ?hn ⟨DT, d7, w1, w2, w3, w4, _, o7, o8, (DT, tupO [.int ((i + 1 : Nat) : Int) w1, .int 0 w2, .int 0 w3, .int 0 w4, .ref d7]) :: (d7, o7) :: rest, _, rfl, mapC_self (by rw [pre_succ hq]; rfl) rfl rfl, ?q1, fun p hp => List.mem_cons_of_mem _ (List.mem_cons_of_mem _ (hb p hp)), d8, hDT, List.mem_cons_of_mem _ (List.mem_cons_self ..), by rw [tally_succ hq]; exact dc7, lo7⟩
        case hi => simp
        case hsub => (repeat refine sub_c (by k_mem) ?_); (repeat first | exact sub_r | refine sub_t ?_)
        case hn =>
          exact List.forall_mem_cons.mpr ⟨hit (L + 1 + 1 + 1 + 1 + 1, o5) (List.mem_cons_self ..), List.forall_mem_cons.mpr ⟨ltNe (Nat.lt_trans l7.2.2.2.2.2.2.1 l8), List.forall_mem_cons.mpr ⟨ltNe l7.2.2.2.2.2.2.1, fun p hp => hit p (List.mem_cons_of_mem _ hp)⟩⟩⟩
        case q1 =>
          exact List.forall_mem_cons.mpr ⟨ltNe (Nat.lt_trans l7.2.2.2.2.2.2.2.1 l8), List.forall_mem_cons.mpr ⟨ltNe l7.2.2.2.2.2.2.2.1, b5⟩⟩
end Mine
end

section
open PySem PySem.W PyProof.Rows
set_option Elab.async false
set_option maxRecDepth 100000
set_option maxHeartbeats 400000
namespace Mine
theorem wp_never {α : Type} (M : Model) (Γ : Ctx) (t : Sem α) : ∀ (p : Pos) (s : Shared), ¬ Sem.wp M Γ t (fun _ _ _ => False) (fun _ _ _ => False) p s := by
  induction t with
  | pure a => intro p s h; exact h
  | raise e => intro p s h; exact h
  | unsupported _ => intro p s h; exact h
  | finish _ => intro p s h; exact h
  | rule _ k ih => intro p s h; exact ih () p s h
  | «at» p' k ih => intro p s h; exact ih () p' s h
  | load a _ k ih => intro p s h; obtain ⟨o, _, h⟩ := h; exact ih o p s h
  | update a _ f k ih => intro p s h; exact ih () p _ h.2
  | loadIfAlive a k ih => intro p s h; exact ih _ p s h
  | point _ k ih => intro p s h; exact ih () p s h
  | register _ _ => intro p s h; exact h
  | alloc o k ih => intro p s h; exact ih _ p _ h
  | fresh k ih => intro p s h; exact ih _ p _ h
  | ask k ih => intro p s h; exact ih _ p s h
  | choose src m k ih => intro p s h; exact ih _ p _ h.2
  | os q _ k ih => intro p s h; exact ih _ p _ h
  | call c hd _ _ k ih => intro p s h; obtain ⟨r, s', _, h⟩ := h; exact ih r p s' h
  | handled own k ih => intro p s h; exact ih _ p s h
  | genState g k ih => intro p s h; obtain ⟨st, _, h⟩ := h; exact ih _ p s h
  | newGen c k ih => intro p s h; exact ih _ p _ h
  | resume g r _ k ih => intro p s h; obtain ⟨res, s', _, h⟩ := h; exact ih res p s' h
  | yield _ _ _ _ => intro p s h; exact h
  | stack k ih => intro p s h; exact ih _ p s h
  | fork _ _ => intro p s h; exact h
  | thread k ih => intro p s h; exact ih _ p s h
  | await _ _ _ _ _ => intro p s h; exact h
section
variable {prog : Program} {w : World} {A : Around} {E : Value → Shared → Prop} {s : Shared} {K : Type} [DecidableEq K] {knd : KeyKind prog w K}
theorem nextOf_item {it : Addr} {Q : Value → Shared → Prop} (h : wpAny (model prog w) A (pyNext (.ref it)) (fun r s' => ∃ v, r = some v ∧ Q v s') (fun _ _ => False) s) :
    wpAny (model prog w) A (Builtin.SmallTypes.nextOf (.ref it)) Q E s := fun Γ p hΓ => by
  have h := h Γ p hΓ
  unfold pyNext at h
  unfold Builtin.SmallTypes.nextOf
  rw [Sem.wp_bind'] at h ⊢
  rw [Sem.wp_attempt] at h
  refine Sem.wp_mono _ _ _ (fun r p' s' hr => ?_) (fun e p' s' he => ?_) p s h
  · cases r with
    | none => exact hr.elim
    | some v =>
      obtain ⟨v', e, hq⟩ := hr
      cases e
      exact hq
  · exfalso
    replace he : Sem.wp (model prog w) Γ (isInstance e (.type "StopIteration") >>= fun b => if b = true then (pure none : Sem (Option Value)) else throw e) (fun r _ s'' => ∃ v, r = some v ∧ Q v s'') (fun _ _ _ => False) p' s' := he
    rw [Sem.wp_bind'] at he
    refine wp_never _ _ _ p' s' (Sem.wp_mono _ _ _ (fun b p'' s'' hb => ?_) (fun _ _ _ x => x) p' s' he)
    cases b with
    | true => obtain ⟨v, e, _⟩ := hb; cases e
    | false => exact hb
theorem nextOf_key_end {it d : Addr} {i ep : Nat} {kvs : List (K × Value)} {Q : Value → Shared → Prop} (hh : A.handled = none) (hit : s.heap.IsKeyIter it d i kvs.length ep) (hm : s.heap.DictAt knd d kvs ep) (hx : kvs[i]? = none)
    (hE : ∀ h' e, Heap.ExtBut it s.heap h' → (∃ o, h'.get? e = some o ∧ o.cls = .type "StopIteration") → E (.ref e) { s with heap := h' }) :
    wpAny (model prog w) A (Builtin.SmallTypes.nextOf (.ref it)) Q E s := by
  obtain ⟨o, ho, hc, hd⟩ := id hit
  obtain ⟨od, es, hod, hcd, hdd, hk, hp, hn⟩ := id hm
  have hown : Builtin.Dict_items.ownsTuple "dict_keyiterator" = false := by decide
  have hsz : es.size = kvs.length := by rw [← hp.length]; simp
  have hge : es.size ≤ i := by rw [hsz]; simpa using hx
  unfold Builtin.SmallTypes.nextOf
  refine wpAny_bind (wpAny_callSpecial?_slot (name := Str.ofString "__next__") hit.typeIs F.slot_dict_keyiterator_next
    (wpAny_call_entry F.slot_dict_keyiterator_next hit.typeIs F.entry_dict_keyiterator_next ?_ (F.args_dict_keyiterator_next_1 _)))
  refine wpAny_bind (wpAny_pure (wpAny_bind (wpAny_bind ?_)))
  first | refine wpAny_bind (wpAny_typeNameOfWhole_keyiter hit.typeIs (wpAny_pure ?_)) | refine wpAny_bind (wpAny_typeNameOf_keyiter hit.typeIs (wpAny_pure ?_))
  refine wpAny_bind (wpAny_fieldsOf ho hd ?_)
  simp only [hown, Bool.false_eq_true, if_false]
  show wpAny _ _ (if (Value.ref d == Value.none) = true then _ else _) _ _ s
  rw [if_neg (show ¬ ((Value.ref d == Value.none) = true) from Bool.false_ne_true)]
  refine wpAny_bind (wpAny_pure (wpAny_bind (wpAny_dictEntries hod hdd ?_)))
  rw [if_neg (by rw [hsz]; simp)]
  refine wpAny_bind (wpAny_pure (wpAny_bind (wpAny_dictEpoch hod hdd ?_)))
  rw [if_neg (by simp)]
  refine wpAny_pure ?_
  simp only [show ¬ ((i : Int) < 0) from by omega, if_false, Int.toNat_natCast, Array.getElem?_eq_none hge]
  refine wpAny_bind ?_
  first | refine wpAny_bind (wpAny_typeNameOfWhole_keyiter hit.typeIs (wpAny_pure ?_)) | refine wpAny_bind (wpAny_typeNameOf_keyiter hit.typeIs (wpAny_pure ?_))
  show wpAny _ _ (setField (.ref it) 0 .none >>= _) _ _ s
  refine wpAny_bind (wpAny_setField ho hd (by simp) ?_)
  show wpAny _ _ (newExc (.type "StopIteration") [] >>= _) _ _ _
  refine wpAny_bind ?_
  simp only [newExc, newTuple]
  refine wpAny_bind (wpAny_newObj_type ?_ (by size_fits))
  refine wpAny_bind (m := firstArgMember _ _) (wpAny_of_eq (a := Value.none) (by first | rfl | (simp only [firstArgMember]; rfl)) ?_)
  refine wpAny_newObj_type ?_ (by size_fits)
  simp only [raiseNew]
  refine wpAny_bind (wpAny_handled ?_)
  first | rw [show A.in1.handled = none from hh] | rw [hh]
  refine wpAny_bind (wpAny_pure (wpAny_throw ?_))
  exact hE _ _ (((Heap.SameBut.update ..).extBut.push _).push _) ⟨_, Heap.get?_push_size _ rfl, rfl⟩
theorem draws_keys (hh : A.handled = none) (it d : Addr) (hne : d ≠ it) (kvs : List (K × Value)) (ep : Nat) :
    Draws prog w A it [it, d] kvs.length (fun i v => ∃ k x, kvs[i]? = some (k, x) ∧ knd.is k v = true) (fun i h => h.IsKeyIter it d i kvs.length ep ∧ h.DictAt knd d kvs ep) where
  live := fun _ _ st => let ⟨o, ho, _⟩ := st.1; ⟨o, ho⟩
  frame := fun _ _ _ st hk => ⟨st.1.at fun o e => hk it (by simp) o e, st.2.at' fun o e => hk d (by simp) o e⟩
  item := fun i s Q E hi st hQ => by
    refine nextOf_item (wpAny_pyNext_dict_item st.1 st.2 (k := kvs[i].1) (v := kvs[i].2) (by simp [hi]) fun key h' hkey hit' hs' => ⟨key, rfl, ?_⟩)
    exact hQ key h' s.toks ⟨kvs[i].1, kvs[i].2, by simp [hi], hkey⟩ ⟨hit', st.2.extBut hs'.extBut hne⟩ hs'
  done := fun s Q E st hE => nextOf_key_end hh st.1 st.2 (by simp) hE
/-- the iterator of a dict, whatever its keys -/
theorem iter_dict_any {d : Addr} {o : Obj} {es : Array DictEntry} {ep : Nat} {Q : Value → Shared → Prop} (hd : (d == sysModules) = false) (ho : s.heap.get? d = some o) (hc : o.cls = .type "dict") (hdat : o.data = .dict es ep)
    (hQ : Q (.ref s.heap.objs.size) { s with heap := s.heap.push { cls := .type "dict_keyiterator", data := .fields #[.ref d, .int 0 0, .int es.size 0, .int ep 0] } }) :
    wpAny (model prog w) A (pyIter (.ref d)) Q E s := by
  have hT : s.TypeIs (.ref d) "dict" := ⟨o, ho, hc⟩
  refine wpAny_pyIter_slot hT F.slot_dict_iter (wpAny_call_entry F.slot_dict_iter hT F.entry_dict_iter ?_ (F.args_dict_iter_1 _))
  unfold Builtin.«dict.__iter__»
  refine wpAny_bind ?_
  unfold Builtin.Dict.dictSlotNone
  refine wpAny_bind (wpAny_notOrdered_dict hT ?_)
  show wpAny _ _ (pure (Value.ref d)) _ _ s
  refine wpAny_pure ?_
  show wpAny _ _ (Builtin.Dict.showsAll d >>= _) _ _ s
  unfold Builtin.Dict.showsAll
  rw [if_neg (by rw [hd]; exact Bool.false_ne_true)]
  refine wpAny_bind (wpAny_pure (wpAny_bind (wpAny_dictEntries ho hdat (wpAny_bind (wpAny_dictEpoch ho hdat ?_)))))
  refine wpAny_bind (wpAny_newObj_type (wpAny_pure ⟨_, rfl, "dict_keyiterator", _, ⟨_, Heap.get?_push_size _ rfl, rfl⟩, F.slot_dict_keyiterator_next.lookup, ?_⟩))
  simpa [rawInt] using hQ
end
theorem meets_enum_dict (d : Addr) (es : Array DictEntry) (ep : Nat) (o : Obj) (hd : (d == sysModules) = false) (hc : o.cls = .type "dict") (hdat : o.data = .dict es ep) :
    Meets (Builtin.«enumerate.__new__» ⟨[.type "enumerate", .ref d], []⟩) (fun _ R s => s.heap.get? d = some o ∧
      R (.ok (.ret (.ref (s.heap.push { cls := .type "dict_keyiterator", data := .fields #[.ref d, .int 0 0, .int es.size 0, .int ep 0] }).objs.size)))
        { s with heap := (s.heap.push { cls := .type "dict_keyiterator", data := .fields #[.ref d, .int 0 0, .int es.size 0, .int ep 0] }).push { cls := .type "enumerate", data := .fields #[.none, .bool false, .ref s.heap.objs.size, rawInt 0, .none, .none] } }) :=
  .of_wp fun prog w A R s h => by
    obtain ⟨hp, g, dr, tk, os⟩ := s
    obtain ⟨hl, h⟩ := h
    have hsub := sub_enumerate
    have ho : Heap.get? (Shared.heap ⟨hp, g, dr, tk, os⟩) d = some o := hl
    wp_walk using AutoSeq1.wpAny_loadPart' hl
    refine wpAny_stack_any fun st => wpAny_pure ?_
    split
    · rename_i c _ _ _ _ _
      cases (c == Value.type "enumerate")
      · wp_walk using AutoSeq1.wpAny_loadPart' hl, iter_dict_any hd ho hc hdat
        exact ⟨_, rfl, h⟩
      · wp_walk using AutoSeq1.wpAny_loadPart' hl, iter_dict_any hd ho hc hdat
        exact ⟨_, rfl, h⟩
    · wp_walk using AutoSeq1.wpAny_loadPart' hl, iter_dict_any hd ho hc hdat
      exact ⟨_, rfl, h⟩
def enumO (it : Addr) : Obj := { cls := .type "enumerate", dict := none, data := .fields #[.none, .bool false, .ref it, rawInt 0, .none, .none], slots := #[] }
def keyO (d : Addr) (n ep : Nat) : Obj := { cls := .type "dict_keyiterator", data := .fields #[.ref d, .int 0 0, .int n 0, .int ep 0] }
section
variable {prog : Program} {w : World} {A : Around} {E : Value → Shared → Prop} {s : Shared} {env : Env} {h₀ : Heap} {L : Addr} {m : Str → Option Value} {news : List (Addr × Obj)} {K : Type} [DecidableEq K] {knd : KeyKind prog w K}
theorem enum_new {d : Addr} {o : Obj} {kvs : List (K × Value)} {Q : Value → Shared → Prop} (Fx : Fr h₀ L s.heap m) (N : News h₀ L s.heap news) (hd : (d, o) ∈ news) (ho : o.IsDictOf knd kvs) (lo : (d == sysModules) = false)
    (h : ∀ e it ep h', Fr h₀ L h' m → News h₀ L h' ((e, enumO it) :: (it, keyO d kvs.length ep) :: news) → (∀ p ∈ news, p.1 < it) → @LT.lt Nat _ it e → h'.DictAt knd d kvs ep → Q (.ref e) { s with heap := h' }) :
    wpAny (model prog w) A (call (.type "enumerate") [.ref d]) Q E s := by
  obtain ⟨ep, hat⟩ := (Heap.dictOf_iff.mpr ⟨_, N.get hd, ho⟩ : s.heap.DictOf knd d kvs).dictAt
  obtain ⟨o', es, ho', hc, hdat, hk, hp, hn⟩ := id hat
  have hsz : es.size = kvs.length := by rw [← hp.length]; simp
  have hz : (s.heap.push (keyO d kvs.length ep)).objs.size = s.heap.objs.size + 1 := Heap.size_push ..
  refine callType_new F.called_enumerate (by decide) (F.typeCall_enumerate_1 _) (F.newCall_enumerate_1 _) (fun obj => F.args_object_init_2 obj _) F.entry_enumerate_new
    (meets_enum_dict d es ep o' lo hc.1 hdat) ⟨ho', ?_⟩
  show _ ∧ _
  rw [hsz]
  show Shared.TypeIs { s with heap := (s.heap.push (keyO d kvs.length ep)).push (enumO s.heap.objs.size) } (.ref (s.heap.push (keyO d kvs.length ep)).objs.size) "enumerate" ∧ Q (.ref (s.heap.push (keyO d kvs.length ep)).objs.size) { s with heap := (s.heap.push (keyO d kvs.length ep)).push (enumO s.heap.objs.size) }
  have N1 : News h₀ L (s.heap.push (keyO d kvs.length ep)) ((s.heap.objs.size, keyO d kvs.length ep) :: news) := News.push Fx N _
  have F1 : Fr h₀ L (s.heap.push (keyO d kvs.length ep)) m := Fx.push _
  refine ⟨⟨_, Heap.get?_push_size _ rfl, rfl⟩, h _ _ ep _ (F1.push _) (News.push F1 N1 _) (fun p hp => Heap.lt_size (N p hp).1) (by rw [hz]; exact Nat.lt_succ_self _) ((hat.push _).push _)⟩
theorem src_enum {scope : Scope} {cl : List (Str × Addr)} {a b : Str} {pa pb tp : Pos} {kk : Nat} {e it d : Addr} {o : Obj} {ep : Nat} {kvs : List (K × Value)} (hh : A.handled = none) (F : Fr h₀ L s.heap m)
    (N : News h₀ L s.heap ((e, enumO it) :: (it, keyO d kvs.length ep) :: news)) (hd : (d, o) ∈ news) (hl1 : ∀ p ∈ news, p.1 < it) (hl2 : @LT.lt Nat _ it e) (hat : s.heap.DictAt knd d kvs ep)
    (hkind : scope.kind = .function) (ha : scope.names.lookup a = some .local) (hb : scope.names.lookup b = some .local) (hab : a ≠ b) :
    SrcT prog w A env scope cl (.Tuple [.Name a pa, .Name b pb] kk tp) h₀ L m news (.ref e) kvs.length (fun (i : Nat) (q : Value × Value) => ∃ t k x, q.1 = .int (i : Int) t ∧ kvs[i]? = some (k, x) ∧ knd.is k q.2 = true) (fun q m => m a = some q.1 ∧ m b = some q.2) s := fun Q E h => by
  have hei : e ≠ it := Ne.symm (Nat.ne_of_lt hl2)
  have hdi : d ≠ it := Nat.ne_of_lt (hl1 _ hd)
  have hde : d ≠ e := Nat.ne_of_lt (Nat.lt_trans (hl1 _ hd) hl2)
  have he := N _ (List.mem_cons_self ..)
  have hi := N _ (List.mem_cons_of_mem _ (List.mem_cons_self ..))
  have hdn := N _ (List.mem_cons_of_mem _ (List.mem_cons_of_mem _ hd))
  have W := (WalksT.enumerateD (draws_keys (prog := prog) (w := w) (knd := knd) (A := A.in1) hh it d hdi kvs ep) e hei (by simp [hei, Ne.symm hde]) (by simp)).toU
  have two : ∀ (i : Nat) (vals : Array Value), (∃ t x, (∃ k v, kvs[i]? = some (k, v) ∧ knd.is k x = true) ∧ vals = #[Value.int (i : Int) t, x]) → ∃ x y, vals = #[x, y] := fun i vals ⟨t, x, _, e⟩ => ⟨_, _, e⟩
  have W' := turns_map (turns_pair (env := env) (scope := scope) (cl := cl) (a := a) (b := b) (pa := pa) (pb := pb) (tp := tp) (kk := kk) W two hh hkind ha hb hab) (P' := fun (i : Nat) (q : Value × Value) => ∃ t k x, q.1 = .int (i : Int) t ∧ kvs[i]? = some (k, x) ∧ knd.is k q.2 = true) (fun i q hP _ => by
    obtain ⟨t, x, ⟨k, v, h1, h2⟩, h3⟩ := hP
    have e5 : [q.1, q.2] = [Value.int (i : Int) t, x] := congrArg Array.toList h3
    injection e5 with e6 e7
    injection e7 with e8 _
    exact ⟨t, k, v, e6, h1, by rw [e8]; exact h2⟩)
  refine wpAny_pyIter_enum he.1 (h e _ [e, it] _ s.heap W' ⟨⟨_, he.1⟩, ⟨_, hi.1, rfl, rfl⟩, hat⟩ ?_ ?_ ?_ ?_ F (fun p hp => N p (List.mem_cons_of_mem _ (List.mem_cons_of_mem _ hp))) ?_)
  · intro c hc
    simp only [List.mem_cons, List.not_mem_nil, or_false] at hc
    rcases hc with rfl | rfl | rfl
    · exact Heap.lt_size he.1
    · exact Heap.lt_size hi.1
    · exact Heap.lt_size hdn.1
  · intro c hc
    simp only [List.mem_cons, List.not_mem_nil, or_false] at hc
    rcases hc with rfl | rfl
    · exact he.2.2
    · exact hi.2.2
  · intro c hc i h' st
    simp only [List.mem_cons, List.not_mem_nil, or_false] at hc
    rcases hc with rfl | rfl
    · obtain ⟨⟨old, x⟩, _⟩ := st; exact ⟨_, x⟩
    · obtain ⟨_, ⟨o, x, _⟩, _⟩ := st; exact ⟨_, x⟩
  · intro hc
    simp only [List.mem_cons, List.not_mem_nil, or_false] at hc
    rcases hc with hc | hc | hc
    · exact he.2.1 hc.symm
    · exact hi.2.1 hc.symm
    · exact hdn.2.1 hc.symm
  · intro q hq hc
    simp only [List.mem_cons, List.not_mem_nil, or_false] at hc
    rcases hc with hc | hc
    · exact absurd (hc ▸ Nat.lt_trans (hl1 q hq) hl2) (Nat.lt_irrefl _)
    · exact absurd (hc ▸ hl1 q hq) (Nat.lt_irrefl _)
end
end Mine
end

section
open PySem PySem.W PyProof.Rows
set_option Elab.async false
set_option maxRecDepth 100000
set_option maxHeartbeats 400000
namespace Mine
open AutoSeq1 (wpAny_loadPart')
theorem rich_lt {prog : Program} {w : World} {A : Around} {E : Value → Shared → Prop} {s : Shared} {a b : Int} {t u : Tok} {Q : Value → Shared → Prop} (h : Q (.bool (decide (a < b))) s) : wpAny (model prog w) A (richCompare .Lt (.int a t) (.int b u)) Q E s := lt_int h
theorem rich_eq {prog : Program} {w : World} {A : Around} {E : Value → Shared → Prop} {s : Shared} {a b : Int} {t u : Tok} {Q : Value → Shared → Prop} (h : Q (.bool (a == b)) s) : wpAny (model prog w) A (richCompare .Eq (.int a t) (.int b u)) Q E s := eq_int h
theorem eqInt_body {prog : Program} {w : World} {A : Around} {E : Value → Shared → Prop} {s : Shared} {a b : Int} {t u : Tok} {Q : Bool → Shared → Prop} (h : Q (a == b) s) :
    wpAny (model prog w) A (if (Value.int a t == Value.int b u) = true then (do rule "eq-bool.same-object"; pure true) else (do truthOfDropped (← richCompare .Eq (.int a t) (.int b u)))) Q E s := by
  refine wpAny_ite_split (fun hab => ?_) (fun _ => ?_)
  · have e := eq_of_beq hab
    injection e with e1 e2
    subst e1
    rw [beq_self_eq_true] at h
    exact wpAny_bind (wpAny_rule (wpAny_pure h))
  · exact wpAny_bind (rich_eq (wpAny_truthy_bool h))
theorem pair_lt_meets (l b : Addr) (a1 b1 a2 b2 : Int) (t1 u1 t2 u2 : Tok) :
    Meets (Builtin.«tuple.__lt__» ⟨[.ref l, .ref b], []⟩)
      (fun _ R s => s.heap.get? l = some (tupO [.int a1 t1, .int b1 u1]) ∧ s.heap.get? b = some (tupO [.int a2 t2, .int b2 u2]) ∧
        R (.ok (.ret (.bool (decide (a1 < a2 ∨ (a1 = a2 ∧ b1 < b2)))))) s) :=
  .of_wp fun prog w A R s h => by
    obtain ⟨hp, g, d, tk, os⟩ := s; obtain ⟨hl, hb, h⟩ := h
    have f2 := AutoSeq1.sub_tuple_tuple
    replace hl : hp.get? l = some { cls := .type "tuple", dict := none, data := .seq #[.int a1 t1, .int b1 u1] 0, slots := #[] } := hl
    replace hb : hp.get? b = some { cls := .type "tuple", dict := none, data := .seq #[.int a2 t2, .int b2 u2] 0, slots := #[] } := hb
    wp_walk using wpAny_loadPart' hl, wpAny_loadPart' hb
    refine eqInt_body ?_
    cases hab : (a1 == a2)
    · wp_walk using rich_lt
      refine ⟨_, rfl, ?_⟩
      have e : decide (a1 < a2 ∨ (a1 = a2 ∧ b1 < b2)) = decide (a1 < a2) := by
        have : a1 ≠ a2 := by simpa using hab
        simp [this]
      rw [e] at h
      exact h
    · have e1 : a1 = a2 := by simpa using hab
      wp_walk
      refine eqInt_body ?_
      cases hbb : (b1 == b2)
      · wp_walk using rich_lt
        refine ⟨_, rfl, ?_⟩
        have e : decide (a1 < a2 ∨ (a1 = a2 ∧ b1 < b2)) = decide (b1 < b2) := by simp [e1]
        rw [e] at h
        exact h
      · have e2 : b1 = b2 := by simpa using hbb
        wp_walk
        refine ⟨_, rfl, ?_⟩
        have e : decide (a1 < a2 ∨ (a1 = a2 ∧ b1 < b2)) = false := by simp [e1, e2]
        rw [e] at h
        exact h
section
variable {prog : Program} {w : World} {A : Around} {E : Value → Shared → Prop} {s : Shared}
theorem pair_lt {x y : Addr} {a1 b1 a2 b2 : Int} {t1 u1 t2 u2 : Tok} {Q : Value → Shared → Prop} (hx : s.heap.get? x = some (tupO [.int a1 t1, .int b1 u1])) (hy : s.heap.get? y = some (tupO [.int a2 t2, .int b2 u2])) (hu : A.units < cLine)
    (h : Q (.bool (decide (a1 < a2 ∨ (a1 = a2 ∧ b1 < b2)))) s) : wpAny (model prog w) A (richCompare .Lt (.ref x) (.ref y)) Q E s :=
  richCompare_meets_room (op := .Lt) ⟨_, hx, rfl⟩ ⟨_, hy, rfl⟩ F.slot_tuple_lt F.entry_tuple_lt (F.args_tuple_lt_2 _ _) (pair_lt_meets x y a1 b1 a2 b2 t1 u1 t2 u2)
    ⟨hx, hy, show Value.bool _ ≠ Value.notImplemented ∧ Q (.bool _) s from ⟨(fun x => nomatch x), h⟩⟩ hu
end
/-- a comparison that asks the heap -/
def CmpG (prog : Program) (w : World) (A : Around) (P : Nat → Value → Prop) (bt : Nat → Nat → Bool) (G : Heap → Prop) : Prop :=
  ∀ i j vi vj (s : Shared) (Q : Value → Shared → Prop) (E : Value → Shared → Prop), G s.heap → P i vi → P j vj → Q (.bool (bt i j)) s → wpAny (model prog w) A (richCompare .Lt vi vj) Q E s
section
variable {prog : Program} {w : World} {A : Around} {R : Result → Shared → Prop} {I : Addr} {fp wr : List Addr} {n : Nat} {P : Nat → Value → Prop} {St : Nat → Heap → Prop} {G : Heap → Prop}
theorem min_loopG (W : Walks prog w A.in1 I fp wr n P St) (bt : Nat → Nat → Bool) (hcmp : CmpG prog w A.in1 P bt G) (S : Addr) (hSf : S ∉ fp) (hG : ∀ h h', G h → (∀ b o, b ∉ wr → b ≠ S → h.get? b = some o → h'.get? b = some o) → G h') :
    ∀ (k j : Nat) (s : Shared) (vb : Value) (c : Nat), n - (j + 1) = k → j + 1 ≤ n → St (j + 1) s.heap → G s.heap → P (argBest bt j) vb →
    s.heap.get? S = some { cls := .type "list", dict := none, data := .seq #[vb, vb] c, slots := #[] } →
    (∀ v h' tk, P (argBest bt (n - 1)) v → (∀ b o, b ∉ wr → b ≠ S → s.heap.get? b = some o → h'.get? b = some o) → R (.ok (.ret v)) { s with heap := h', toks := tk }) →
    codeAny (model prog w) A (.builtin "min.loop" ⟨[.ref I, .none, .ref S], []⟩) R s := by
  have hSw : S ∉ wr := fun h => hSf (W.sub _ h)
  have hname : (toString "min" ++ toString ".loop" : String) = "min.loop" := by decide
  intro k
  induction k with
  | zero =>
    intro j s vb c hk hj hst hg hPb hS hR
    have hin : j + 1 = n := by omega
    refine codeAny_builtin F.entry_min_loop ?_
    rw [Around.under_plainId F.plain_min_loop _]
    show wpAny _ A.in1 (seqItems? (.ref S) >>= _) _ _ s
    refine wpAny_bind (wpAny_seqItems hS rfl ?_)
    show wpAny _ A.in1 (tryCatch (pyNext (.ref I)) _ >>= _) _ _ s
    refine wpAny_bind (wpAny_tryCatch (W.done s _ _ (hin ▸ hst) fun h' tk hk' => ?_))
    have hS' := hk' S _ hSw hS
    show wpAny _ A.in1 (updateSeq S (fun _ => #[]) >>= _) _ _ _
    refine wpAny_bind ?_
    refine wpAny_updateSeq hS' rfl (wpAny_bind (wpAny_letGo (wpAny_pure ?_)))
    refine hR vb _ tk (by rw [← hin]; exact hPb) fun b o hbw hbS e => (Heap.get?_update_other _ _ (Ne.symm hbS)).trans (hk' b o hbw e)
  | succ k ih =>
    intro j s vb c hk hj hst hg hPb hS hR
    have hlt : j + 1 < n := by omega
    refine codeAny_builtin F.entry_min_loop ?_
    rw [Around.under_plainId F.plain_min_loop _]
    show wpAny _ A.in1 (seqItems? (.ref S) >>= _) _ _ s
    refine wpAny_bind (wpAny_seqItems hS rfl ?_)
    show wpAny _ A.in1 (tryCatch (pyNext (.ref I)) _ >>= _) _ _ s
    refine wpAny_bind (wpAny_tryCatch (W.item (j + 1) s _ _ hlt hst fun v h' tk hP hst' hk' => ?_))
    have hS' := hk' S _ hSw hS
    have hg' : G h' := hG _ _ hg fun b o hbw _ e => hk' b o hbw e
    show wpAny _ A.in1 (tryCatch (holding [v, v] (richCompare .Lt v vb >>= _)) _ >>= _) _ _ _
    refine wpAny_bind (wpAny_tryCatch (wpAny_holding (wpAny_bind (hcmp (j + 1) (argBest bt j) v vb _ _ _ hg' hP hPb ?_))))
    refine wpAny_bind (wpAny_holding (wpAny_truthy_bool ?_))
    refine wpAny_bind (wpAny_letGo (wpAny_pure ?_))
    cases hb : bt (j + 1) (argBest bt j) with
    | true =>
      simp only [if_true]
      refine wpAny_bind ?_
      refine wpAny_updateSeq hS' rfl (wpAny_bind (wpAny_letGo ?_))
      rw [hname]
      refine wpAny_pure ⟨plainId_quiet F.plain_min_loop _, ih (j + 1) _ v _ (by omega) hlt (W.frame _ _ _ hst' fun b hbf o e => ?_) (hG _ _ hg' fun b o _ hbS e => (Heap.get?_update_other _ _ (Ne.symm hbS)).trans e) (by simp only [argBest, hb, if_true]; exact hP) (Heap.get?_update_self _ hS' rfl)
        fun v' h'' tk'' hP' hk'' => ?_⟩
      · exact (Heap.get?_update_other _ _ (fun h : S = b => hSf (by rw [h]; exact hbf))).trans e
      · exact hR v' h'' tk'' hP' fun b o hbw hbS e => hk'' b o hbw hbS ((Heap.get?_update_other _ _ (Ne.symm hbS)).trans (hk' b o hbw e))
    | false =>
      simp only [Bool.false_eq_true, if_false]
      refine wpAny_bind (wpAny_letGo ?_)
      rw [hname]
      refine wpAny_pure ⟨plainId_quiet F.plain_min_loop _, ih (j + 1) _ vb c (by omega) hlt hst' hg' (by simp only [argBest, hb, Bool.false_eq_true, if_false]; exact hPb) hS' fun v' h'' tk'' hP' hk'' => ?_⟩
      exact hR v' h'' tk'' hP' fun b o hbw hbS e => hk'' b o hbw hbS (hk' b o hbw e)
theorem min_firstG (W : Walks prog w A.in1 I fp wr n P St) (bt : Nat → Nat → Bool) (hcmp : CmpG prog w A.in1 P bt G) (S : Addr) (hSf : S ∉ fp) (hG : ∀ h h', G h → (∀ b o, b ∉ wr → b ≠ S → h.get? b = some o → h'.get? b = some o) → G h') (hn : 0 < n) {s : Shared} {c : Nat} (hst : St 0 s.heap) (hg : G s.heap)
    (hS : s.heap.get? S = some { cls := .type "list", dict := none, data := .seq #[] c, slots := #[] })
    (hR : ∀ v h' tk, P (argBest bt (n - 1)) v → (∀ b o, b ∉ wr → b ≠ S → s.heap.get? b = some o → h'.get? b = some o) → R (.ok (.ret v)) { s with heap := h', toks := tk }) :
    codeAny (model prog w) A (.builtin "min.loop" ⟨[.ref I, .none, .ref S], []⟩) R s := by
  have hSw : S ∉ wr := fun h => hSf (W.sub _ h)
  have hname : (toString "min" ++ toString ".loop" : String) = "min.loop" := by decide
  refine codeAny_builtin F.entry_min_loop ?_
  rw [Around.under_plainId F.plain_min_loop _]
  show wpAny _ A.in1 (seqItems? (.ref S) >>= _) _ _ s
  refine wpAny_bind (wpAny_seqItems hS rfl ?_)
  show wpAny _ A.in1 (tryCatch (pyNext (.ref I)) _ >>= _) _ _ s
  refine wpAny_bind (wpAny_tryCatch (W.item 0 s _ _ hn hst fun v h' tk hP hst' hk' => ?_))
  have hS' := hk' S _ hSw hS
  have hg' : G h' := hG _ _ hg fun b o hbw _ e => hk' b o hbw e
  show wpAny _ A.in1 (updateSeq S (fun _ => #[v, v]) >>= _) _ _ _
  refine wpAny_bind ?_
  refine wpAny_updateSeq hS' rfl ?_
  rw [hname]
  refine wpAny_pure ⟨plainId_quiet F.plain_min_loop _, min_loopG W bt hcmp S hSf hG _ 0 _ v _ rfl hn (W.frame _ _ _ hst' fun b hbf o e => ?_) (hG _ _ hg' fun b o _ hbS e => (Heap.get?_update_other _ _ (Ne.symm hbS)).trans e) hP (Heap.get?_update_self _ hS' rfl) fun v' h'' tk'' hP' hk'' => ?_⟩
  · exact (Heap.get?_update_other _ _ (fun h : S = b => hSf (by rw [h]; exact hbf))).trans e
  · exact hR v' h'' tk'' hP' fun b o hbw hbS e => hk'' b o hbw hbS ((Heap.get?_update_other _ _ (Ne.symm hbS)).trans (hk' b o hbw e))
end
section
variable {prog : Program} {w : World} {A : Around} {E : Value → Shared → Prop} {s : Shared}
theorem call_minG {x : Value} {Q : Value → Shared → Prop}
    (h : wpAny (model prog w) A.in1 (pyIter x) (fun it s₂ => ∃ I fp wr n P St bt G, it = .ref I ∧ Walks prog w A.in1 I fp wr n P St ∧ St 0 s₂.heap ∧ (∀ b ∈ fp, b < s₂.heap.objs.size) ∧ 0 < n ∧ CmpG prog w A.in1 P bt G ∧ G s₂.heap ∧
      (∀ h h', G h → (∀ b o, b ∉ wr → b ≠ s₂.heap.objs.size → h.get? b = some o → h'.get? b = some o) → G h') ∧
      ∀ v h' tk, P (argBest bt (n - 1)) v → (∀ b o, b ∉ wr → s₂.heap.get? b = some o → h'.get? b = some o) → Q v { s₂ with heap := h', toks := tk }) E s) :
    wpAny (model prog w) A (call (.builtin "min") [x]) Q E s := by
  have hname : (toString "min" ++ toString ".loop" : String) = "min.loop" := by decide
  refine call_function_tree F.kind_min F.plain_min F.entry_min (F.args_min1 _) ?_
  show wpAny _ A.in1 (Builtin.Builtins.bindParams "min" ["key", "default"] 0 ⟨[], []⟩ >>= _) _ _ s
  refine wpAny_bind (wpAny_of_eq (show Builtin.Builtins.bindParams "min" ["key", "default"] 0 ⟨[], []⟩ = pure [none, none] from rfl) ?_)
  refine wpAny_bind (wpAny_pure ?_)
  refine wpAny_bind (wpAny_mono h (fun it s₂ h₂ => ?_) fun _ _ e => e)
  obtain ⟨I, fp, wr, n, P, St, bt, G, rfl, W, hst, hfp, hn, hcmp, hg, hG, hQ⟩ := h₂
  refine wpAny_bind (wpAny_newObj_type ?_)
  have hSf : s₂.heap.objs.size ∉ fp := fun hm => Nat.lt_irrefl _ (hfp _ hm)
  rw [hname]
  refine wpAny_pure ⟨plainId_quiet F.plain_min_loop _, min_firstG W bt hcmp s₂.heap.objs.size hSf hG hn (W.frame _ _ _ hst fun b _ o e => Heap.get?_push_of_some _ e) (hG _ _ hg fun b o _ _ e => Heap.get?_push_of_some _ e) (Heap.get?_push_size _ rfl) fun v h' tk hP hk => ?_⟩
  exact hQ v h' tk hP fun b o hbw e => hk b o hbw (Nat.ne_of_lt (Heap.lt_size e)) (Heap.get?_push_of_some _ e)
end
end Mine
end

section
open PySem PySem.W PyProof.Rows
set_option Elab.async false
set_option maxRecDepth 100000
set_option maxHeartbeats 2000000
set_option compiler.extract_closed false
namespace Mine
theorem shown_short {st : LS} : ∀ q ∈ st.shown, q.1.length ≤ 100 := by
  intro q hq
  obtain ⟨j, hj, rfl⟩ := List.mem_map.mp hq
  have : ∀ c : Col, (nm c).length ≤ 100 := by decide +kernel
  exact this _
theorem t_hits (w : World) {p : Program} {loose : List Str} {mean : ExcName → Option Value} {mg mb : Str → Option Value} {dp un : Nat} {gd : Option (List Code)} {cn : Str} {cs : Scope} {a : Addr} {ccd : Value} {cl : List (Str × Addr)} {outer : List Env} {A₀ : Around} {base h₀ : Heap} {L : Addr} {m : Str → Option Value} {news : List (Addr × Obj)} {s : Shared}
  {R : Result → Shared → Prop} {x : Str} {t : Tok} {tb td hl : Addr} {hsh : Int} {kt : Tok} {n k : Nat} {vs : List Value} {st : LS} {c : Col}
  (X : (Mine.hd.heap_39 w.params).In h₀) (B : Below A₀ base outer h₀) (F : Fr h₀ L s.heap m) (N : News h₀ L s.heap news) (T : Top p loose mean mg mb h₀) (hk : cs.kind = .function) (hd : dp ≤ 630) (hu : un ≤ 150)
  (m1 : (tb, instObj 169 td) ∈ news) (m2 : (td, dictOf (entO hsh kt hl) n) ∈ news) (m3 : (hl, listOf vs.toArray k) ∈ news) (hp : PairsIn news vs st.shown) (hz : st.plain.length ≤ 11)
  (hx : x.length ≤ 100) (hxc : PySem.Txt.lower x = nm c)
  (ret : ∀ D ys k' h' tk', Mine.StrsAre ys ((st.of c).map upC) → ys.length = st.cnt c → Fr h₀ L h' m → News h₀ L h' ((D, listOf (ys : List Value).toArray k') :: news) → (∀ p ∈ news, p.1 < D) → R (.ok (.ret (.ref D))) {s with heap := h', toks := tk'}) :
  codeAny (model PySem.Challenge.rw_pg0268_01.row.prog w) (ktrTop dp un gd cn cs L a ccd cl outer) (.call (.ref 108) ⟨[.ref tb, .str x t], []⟩) R s :=
  t_get_all w X B F N T hk hd hu m1 m2 m3 hp shown_short (by simp [LS.shown]; omega) hx (by rw [hxc]; exact (ok_nm c).1) fun D ys k' h' tk' hS F' N' l1 => by
    rw [hxc, hits_shown] at hS
    exact ret D ys k' h' tk' hS (by rw [hS.length, List.length_map]; rfl) F' N' l1
theorem key_is {prog : Program} {w : World} {P : Col → Addr} {i : Nat} {k : Str} {x v : Value} (h : [(Str.ofString "red", Value.ref (P 0)), (Str.ofString "green", .ref (P 1)), (Str.ofString "blue", .ref (P 2))][i]? = some (k, x)) (hk : (PySem.strKind prog w).is k v = true) :
    ∃ (c : Col) (t : Tok), i = c.val ∧ v = .str (nm c) t := by
  have hv : ∃ t, v = .str k t := by
    have : Value.isStrOf k v = true := hk
    cases v <;> simp [Value.isStrOf] at this
    subst this
    exact ⟨_, rfl⟩
  obtain ⟨t, rfl⟩ := hv
  match i, h with
  | 0, h => simp at h; exact ⟨0, t, rfl, by rw [← h.1]; rfl⟩
  | 1, h => simp at h; exact ⟨1, t, rfl, by rw [← h.1]; rfl⟩
  | 2, h => simp at h; exact ⟨2, t, rfl, by rw [← h.1]; rfl⟩
  | i + 3, h => simp at h
theorem len3 {α : Type} {vs : List α} (h : vs.length = 3) : ∃ a b d, vs = [a, b, d] := by
  cases vs with
  | nil => exact absurd h (by simp)
  | cons a vs => cases vs with
    | nil => exact absurd h (by simp)
    | cons b vs => cases vs with
      | nil => exact absurd h (by simp)
      | cons d vs => cases vs with
        | nil => exact ⟨a, b, d, rfl⟩
        | cons e vs => exact absurd h (by simp)
theorem paired3 {α β : Type} {P : α → β → Prop} {a b d : α} {rs : List β} (h : Paired P [a, b, d] rs) : ∃ x y z, rs = [x, y, z] ∧ P a x ∧ P b y ∧ P d z := by
  cases h with
  | cons h0 h => cases h with
    | cons h1 h => cases h with
      | cons h2 h => cases h with
        | nil => exact ⟨_, _, _, rfl, h0, h1, h2⟩
theorem rows_of {st : LS} {led : List (Addr × Obj)} {vs : List (Value × Value)} {rs : List Value} (hlen : vs.length = 3) (hP : ∀ (j : Nat) (v : Value × Value), vs[j]? = some v → ∃ t, v.1 = Value.int (j : Int) t)
    (h : Paired (fun (q : Value × Value) y => ∃ nw : List (Addr × Obj), (∀ z ∈ nw, z ∈ led) ∧ ∃ (c : Col) (t : Tok) (p : Addr) (u1 u2 : Tok), q.1 = Value.int ((c.val : Nat) : Int) t ∧ y = Value.ref p ∧ (p, tupO [.int ((st.cnt c : Nat) : Int) u1, .int ((c.val : Nat) : Int) u2]) ∈ nw) vs rs) :
    ∃ R : Col → Addr, rs = [Value.ref (R 0), .ref (R 1), .ref (R 2)] ∧ ∀ c, ∃ u1 u2, (R c, tupO [.int ((st.cnt c : Nat) : Int) u1, .int ((c.val : Nat) : Int) u2]) ∈ led := by
  have one : ∀ (j : Col) (v : Value × Value) (c : Col) (t : Tok), vs[j.val]? = some v → v.1 = Value.int ((c.val : Nat) : Int) t → c = j := fun j v c t h1 h2 => by
    obtain ⟨t', h3⟩ := hP _ _ h1
    rw [h2] at h3
    injection h3 with h4 _
    exact Fin.ext (by omega)
  obtain ⟨a, b, d, rfl⟩ := len3 hlen
  obtain ⟨x0, x1, x2, rfl, h0, h1, h2⟩ := paired3 h
  obtain ⟨nw0, s0, c0, t0, p0, u0, w0, e0, y0, m0⟩ := h0
  obtain ⟨nw1, s1, c1, t1, p1, u1, w1, e1, y1, m1⟩ := h1
  obtain ⟨nw2, s2, c2, t2, p2, u2, w2, e2, y2, m2⟩ := h2
  · have q0 := one 0 a c0 t0 rfl e0
    have q1 := one 1 b c1 t1 rfl e1
    have q2 := one 2 d c2 t2 rfl e2
    subst q0 q1 q2 y0 y1 y2
    refine ⟨fun c => if c = 0 then p0 else if c = 1 then p1 else p2, rfl, fun c => ?_⟩
    rcases cols3 c with rfl | rfl | rfl
    · exact ⟨_, _, s0 _ m0⟩
    · exact ⟨_, _, s1 _ m1⟩
    · exact ⟨_, _, s2 _ m2⟩
/-- the best colour of the first i -/
def Best (st : LS) (b : Col) (i : Nat) : Prop := ∀ c : Col, c.val < i → st.cnt b < st.cnt c ∨ (st.cnt b = st.cnt c ∧ b.val ≤ c.val)
theorem best_new {st : LS} {b c : Col} (h : Best st b c.val) (hc : cmp2 ((st.cnt c : Nat) : Int) ((c.val : Nat) : Int) ((st.cnt b : Nat) : Int) ((b.val : Nat) : Int) < 0) : Best st c (c.val + 1) := by
  intro d hd
  unfold cmp2 at hc
  by_cases e : d.val = c.val
  · have : d = c := Fin.ext e
    subst this
    exact .inr ⟨rfl, Nat.le_refl _⟩
  · have h1 := h d (by omega)
    split at hc
    · omega
    · split at hc
      · omega
      · split at hc
        · omega
        · split at hc <;> omega
theorem best_old {st : LS} {b c : Col} (h : Best st b c.val) (hc : ¬ cmp2 ((st.cnt c : Nat) : Int) ((c.val : Nat) : Int) ((st.cnt b : Nat) : Int) ((b.val : Nat) : Int) < 0) : Best st b (c.val + 1) := by
  intro d hd
  unfold cmp2 at hc
  by_cases e : d.val = c.val
  · have : d = c := Fin.ext e
    subst this
    split at hc
    · omega
    · split at hc
      · omega
      · split at hc
        · omega
        · split at hc <;> omega
  · exact h d (by omega)
theorem up_short : ∀ c : Col, (PySem.Txt.upper (nm c)).length ≤ 100 ∧ (nm c).length ≤ 100 := by decide +kernel
local macro_rules | `(tactic| k_mem) => `(tactic| first | assumption | exact List.Mem.head _ | (refine' List.Mem.tail _ ?_; k_mem))
local macro_rules | `(tactic| k_all) => `(tactic| first | assumption | exact List.forall_mem_nil _ | (refine' List.forall_mem_cons.mpr ⟨?zza, ?zzb⟩; (case zza => k_ne); (case zzb => k_all)))
theorem wl_LE_1 : True := by
  k_with_none
  k_with "newTuple" => (k_here; k_dflt (refine' kup_newTuple ?wqzzF ?wqzzN ?_ ?wqzzz; (case wqzzF => k_asm); (case wqzzN => k_asm); (case wqzzz => kmk_size)); intro _ _ _ _ l1; (try k_lt l1); (try (revert l1; intro _)); (try k_sweep))
  k_with "eval ListComp" => (k_here; k_dflt (refine' comp_expr ?wqzzhc ?wqzzhk ?wqzzhn ?wqzzhs ?_; (case wqzzhc => with_unfolding_all rfl); (case wqzzhk => rfl); (case wqzzhn => decide); (case wqzzhs => intro _; with_unfolding_all rfl)))
  k_with "exec Assign cons ListComp" => (k_here; k_dflt (refine' G.comp_assign ?wqzzsw ?wqzzhc ?wqzzhk ?wqzzhn ?wqzzhs ?_; (case wqzzsw => with_unfolding_all rfl); (case wqzzhc => with_unfolding_all rfl); (case wqzzhk => rfl); (case wqzzhn => decide); (case wqzzhs => intro _; with_unfolding_all rfl)))
  k_with "eval Name" => (k_here; (with_reducible show wpAny _ _ (eval (Expr.Name _ _) (compEnvC _ _ _ _)) _ _ _); k_dflt (first
      | (refine' block_local ?wqzzN ?wqzzm ?wqzzn ?wqzzv ?_ ?wqzzk ?wqzzl ?wqzzd; (case wqzzk => rfl); (case wqzzl => rfl); (case wqzzd => decide); (case wqzzN => k_asm); (case wqzzm => k_mem); (case wqzzn => assumption); (case wqzzv => first | assumption | rfl))
      | (refine' block_cell ?wqzzN ?wqzzc ?wqzzm ?wqzzo ?_ ?wqzzk ?wqzzl ?wqzzd; (case wqzzk => rfl); (case wqzzl => rfl); (case wqzzd => decide); (case wqzzN => k_asm); (case wqzzc => rfl); (case wqzzm => k_mem); (case wqzzo => assumption))))
  k_with "call type:enumerate" => (k_here; k_dflt (refine' enum_new (knd := PySem.strKind _ _) ?wqzzF ?wqzzN ?wqzzd ?wqzzo ?wqzzl ?_; (case wqzzF => k_asm); (case wqzzN => k_asm); (case wqzzd => k_mem); (case wqzzo => assumption); (case wqzzl => assumption)); intro _ _ _ _ _ _ _ _ _; (try k_sweep))
  k_with "call ref" => (k_here; k_dflt (refine' call_cls ?wqzk1 ?wqzk2 ?wqzk3 ?wqzk4 ?wqzk5 ?wqzk6 ?_; (case wqzk1 => k_asm); (case wqzk2 => k_asm); (case wqzk3 => k_asm); (case wqzk4 => k_is); (case wqzk5 => k_is); (case wqzk6 => k_is); k_whole; intro _ _ _ FT NT lT1 lT2; refine' t_judge _ ?wqzzX ?wqzzB ?wqzzF ?wqzzN ?wqzzT ?wqzzk ?wqzzd ?wqzzu ?wqzzq1 ?wqzzq2 ?_; (case wqzzX => k_asm); (case wqzzB => k_asm); (case wqzzF => k_asm); (case wqzzN => k_asm); (case wqzzT => k_asm); (case wqzzk => rfl); (case wqzzd => exact Nat.le_of_ble_eq_true rfl); (case wqzzu => exact Nat.le_of_ble_eq_true rfl); (case wqzzq1 => exact fun p h => Nat.ne_of_lt (lT1 p h)); (case wqzzq2 => exact lT2); clear FT NT; intro _ _ _ _ _ _; (try k_lt lT1); (try k_lt2 lT2); (dsimp only [InitBack])); (try (revert lT1; intro _)); (try (revert lT2; intro _)))
  k_with "call ref" => (k_here; k_dflt (refine wpAny_call ?_; refine' t_hits _ ?wqzzX ?wqzzB ?wqzzF ?wqzzN ?wqzzT ?wqzzk ?wqzzd ?wqzzu ?wqzzm1 ?wqzzm2 ?wqzzm3 ?wqzzhp ?wqzzhz ?wqzzhx ?wqzzhc ?_; (case wqzzX => k_asm); (case wqzzB => k_asm); (case wqzzF => k_asm); (case wqzzN => k_asm); (case wqzzT => k_asm); (case wqzzk => rfl); (case wqzzd => exact Nat.le_of_ble_eq_true rfl); (case wqzzu => exact Nat.le_of_ble_eq_true rfl); (case wqzzm1 => k_mem); (case wqzzm2 => k_mem); (case wqzzm3 => k_mem); (case wqzzhp => (refine' PairsIn.mono ?wqzzs ?wqzzh; (case wqzzh => assumption); (case wqzzs => (intro p hp; repeat (first | exact hp | apply List.mem_cons_of_mem))))); (case wqzzhz => assumption); (case wqzzhx => assumption); (case wqzzhc => assumption)); intro _ _ _ _ _ _ _ _ _ l1; (try k_lt l1); (try dsimp only); (try (revert l1; intro _)); (try k_sweep))
  k_with "call builtin:len" => (k_here; k_dflt (refine' len_is ?wqzzN ?wqzzm ?wqzzz ?wqzzn ?_; (case wqzzN => k_asm); (case wqzzm => k_mem); (case wqzzz => assumption); (case wqzzn => first | assumption | omega)); intro _ _)
  exact True.intro
def MapE (m₁ : Str → Option Value) (lst jb rl cl : Addr) (tn : Int) (tt : Tok) : Str → Option Value := fun y => if y = Str.ofString "least" then some (.ref lst) else if y = Str.ofString "judge" then some (.ref jb) else if y = Str.ofString "turned" then some (.int tn tt) else if y = Str.ofString "cuts" then some (.ref cl) else if y = Str.ofString "rim" then some (.ref rl) else m₁ y
theorem mapE_self {g : Str → Option Value} {lst jb rl cl : Addr} {tn : Int} {tt : Tok} (h1 : g (Str.ofString "least") = some (.ref lst)) (h2 : g (Str.ofString "judge") = some (.ref jb)) (h3 : g (Str.ofString "turned") = some (.int tn tt)) (h4 : g (Str.ofString "cuts") = some (.ref cl)) (h5 : g (Str.ofString "rim") = some (.ref rl)) : g = MapE g lst jb rl cl tn tt := by
  funext y
  unfold MapE
  by_cases e1 : y = Str.ofString "least"
  · rw [if_pos e1, e1, h1]
  by_cases e2 : y = Str.ofString "judge"
  · rw [if_neg e1, if_pos e2, e2, h2]
  by_cases e3 : y = Str.ofString "turned"
  · rw [if_neg e1, if_neg e2, if_pos e3, e3, h3]
  by_cases e4 : y = Str.ofString "cuts"
  · rw [if_neg e1, if_neg e2, if_neg e3, if_pos e4, e4, h4]
  by_cases e5 : y = Str.ofString "rim"
  · rw [if_neg e1, if_neg e2, if_neg e3, if_neg e4, if_pos e5, e5, h5]
  rw [if_neg e1, if_neg e2, if_neg e3, if_neg e4, if_neg e5]
theorem wl_LE_2 : True := by
  k_with "exec For Name Name cons nil" => (k_here; refine For_S ?_ (by intro _; with_unfolding_all rfl))
  k_with "call ref" => (k_here; k_dflt (refine wpAny_call ?_; refine' t_compare _ ?wqzzX ?wqzzB ?wqzzF ?wqzzN ?wqzzT ?wqzzk ?wqzzd ?wqzzu ?wqzzm1 ?wqzzm2 ?wqzzm3 ?wqzzm4 ?wqzzm5 ?wqzzm6 ?wqzzm7 ?_; (case wqzzX => k_asm); (case wqzzB => k_asm); (case wqzzF => k_asm); (case wqzzN => k_asm); (case wqzzT => k_asm); (case wqzzk => rfl); (case wqzzd => exact Nat.le_of_ble_eq_true rfl); (case wqzzu => exact Nat.le_of_ble_eq_true rfl); (case wqzzm1 => k_mem); (case wqzzm2 => k_mem); (case wqzzm3 => k_mem); (case wqzzm4 => k_mem); (case wqzzm5 => k_mem); (case wqzzm6 => k_mem); (case wqzzm7 => k_mem)); intro _ _ _ _ _; (try dsimp only); (try k_sweep))
  exact True.intro
theorem strs_got : ∀ {vs : List Value} {xs : List Str} {i : Nat} {v : Value}, Mine.StrsAre vs xs → vs[i]? = some v → ∃ x t, v = .str x t ∧ xs[i]? = some x
  | _, _, _, _, .nil, h => by simp at h
  | _, _, 0, _, .cons x t _, h => by simp at h; exact ⟨x, t, h.symm, rfl⟩
  | _, _, i + 1, _, .cons _ _ r, h => strs_got (i := i) r (by simpa using h)
theorem vals_of {f : Str → Int} {led : List (Addr × Obj)} : ∀ {xs : List Str} {vs ys : List Value}, Mine.StrsAre vs xs → Paired (fun v y => ∃ nw : List (Addr × Obj), (∀ q ∈ nw, q ∈ led) ∧ ∃ (x : Str) (t u : Tok), v = Value.str x t ∧ y = Value.int (f x) u) vs ys → IntsAre ys (xs.map f)
  | [], _, _, .nil, .nil => .nil
  | x :: xs, _, _, .cons _ t r, .cons ⟨_, _, x', t', u, e1, e2⟩ h => by
    injection e1 with e3 _
    subst e3
    rw [e2]
    exact .cons _ u (vals_of r h)
theorem consts_of {z : Int} {led : List (Addr × Obj)} {vs ys : List Value} (hl : vs.length = 3) (h : Paired (fun _ y => ∃ nw : List (Addr × Obj), (∀ q ∈ nw, q ∈ led) ∧ ∃ u, y = Value.int z u) vs ys) : IntsAre ys [z, z, z] := by
  obtain ⟨a, b, d, rfl⟩ := len3 hl
  obtain ⟨x0, x1, x2, rfl, h0, h1, h2⟩ := paired3 h
  obtain ⟨_, _, u0, e0⟩ := h0
  obtain ⟨_, _, u1, e1⟩ := h1
  obtain ⟨_, _, u2, e2⟩ := h2
  · subst e0 e1 e2
    exact .cons _ _ (.cons _ _ (.cons _ _ .nil))
theorem mins_of {st : LS} {led : List (Addr × Obj)} {vs rs : List Value} (hlen : vs.length = 3) (hP : ∀ (j : Nat) (v : Value), vs[j]? = some v → ∃ t, v = Value.int (j : Int) t)
    (h : Paired (fun v y => ∃ nw : List (Addr × Obj), (∀ z ∈ nw, z ∈ led) ∧ ∃ (i : Nat) (t : Tok) (p : Addr) (u1 u2 : Tok), v = Value.int ((i : Nat) : Int) t ∧ y = Value.ref p ∧ (p, tupO [.int ((st.nums.count ((i : Nat) : Int) : Nat) : Int) u1, .int ((i : Nat) : Int) u2]) ∈ nw) vs rs) :
    ∃ R : Col → Addr, rs = [Value.ref (R 0), .ref (R 1), .ref (R 2)] ∧ ∀ c, ∃ u1 u2, (R c, tupO [.int ((st.cnt c : Nat) : Int) u1, .int ((c.val : Nat) : Int) u2]) ∈ led := by
  have one : ∀ (j : Nat) (v : Value) (i : Nat) (t : Tok), vs[j]? = some v → v = Value.int ((i : Nat) : Int) t → i = j := fun j v i t h1 h2 => by
    obtain ⟨t', h3⟩ := hP _ _ h1
    rw [h2] at h3
    injection h3 with h4 _
    omega
  obtain ⟨a, b, d, rfl⟩ := len3 hlen
  obtain ⟨x0, x1, x2, rfl, h0, h1, h2⟩ := paired3 h
  obtain ⟨nw0, s0, c0, t0, p0, u0, w0, e0, y0, m0⟩ := h0
  obtain ⟨nw1, s1, c1, t1, p1, u1, w1, e1, y1, m1⟩ := h1
  obtain ⟨nw2, s2, c2, t2, p2, u2, w2, e2, y2, m2⟩ := h2
  · have q0 := one 0 a c0 t0 rfl e0
    have q1 := one 1 b c1 t1 rfl e1
    have q2 := one 2 d c2 t2 rfl e2
    subst q0 q1 q2 y0 y1 y2
    refine ⟨fun c => if c = 0 then p0 else if c = 1 then p1 else p2, rfl, fun c => ?_⟩
    have hc := st.count_num c
    rcases cols3 c with rfl | rfl | rfl
    · rw [← hc]; exact ⟨_, _, s0 _ m0⟩
    · rw [← hc]; exact ⟨_, _, s1 _ m1⟩
    · rw [← hc]; exact ⟨_, _, s2 _ m2⟩
def upN (c : Col) : Str := if c = 0 then Str.ofString "RED" else if c = 1 then Str.ofString "GREEN" else Str.ofString "BLUE"
theorem upN_short : ∀ c : Col, (upN c).length ≤ 100 := by decide +kernel
theorem low_upN : ∀ c : Col, PySem.Txt.lower (upN c) = nm c := by decide +kernel
section
variable {prog : Program} {w : World} {A : Around} {E : Value → Shared → Prop} {s : Shared} {h₀ : Heap} {L l : Addr} {m : Str → Option Value} {news : List (Addr × Obj)} {k n : Nat} {t u t1 t2 t3 : Tok} {Q : Value → Shared → Prop} {c : Col}
theorem item_ups {value slice : PySem.Expr} (N : News h₀ L s.heap news) (hl : (l, listOf #[.str (Str.ofString "RED") t1, .str (Str.ofString "GREEN") t2, .str (Str.ofString "BLUE") t3] n) ∈ news)
    (h : ∀ u, Q (.str (upN c) u) s) (hs : subscripted slice false (.ref l) (.int (c.val : Nat) t) = operate [.ref l, .int (c.val : Nat) t] (getItem (.ref l) (.int (c.val : Nat) t))) :
    wpAny (model prog w) A (subscriptTail value slice (.ref l) (.int (c.val : Nat) t)) Q E s := by
  have hL : s.heap.IsList l #[.str (Str.ofString "RED") t1, .str (Str.ofString "GREEN") t2, .str (Str.ofString "BLUE") t3] := ⟨_, N.get hl, rfl, n, rfl⟩
  have hx : ∃ u, (#[Value.str (Str.ofString "RED") t1, .str (Str.ofString "GREEN") t2, .str (Str.ofString "BLUE") t3] : Array Value)[((c.val : Nat) : Int).toNat]? = some (.str (upN c) u) := by
    rcases cols3 c with rfl | rfl | rfl
    · exact ⟨t1, rfl⟩
    · exact ⟨t2, rfl⟩
    · exact ⟨t3, rfl⟩
  obtain ⟨u, hu⟩ := hx
  have hc3 := c.isLt
  exact tail_any hL.typeIs slot_list_getitem.lookup (wpAny_getItem_list hL (by omega) (by omega) hu (h u)) hs
theorem three_is {x : Nat} (hx : x ≤ 10000) (h : ∀ u tk, Q (.int (3 * ((x : Nat) : Int)) u) { s with toks := tk }) : wpAny (model prog w) A (binaryOp .Mult (.int 3 t) (.int (x : Nat) u)) Q E s :=
  PySem.P.mul_int (h _ _) (IntMulOk.of_left (by decide))
theorem ne_same {a b : Int} (e : a = b) (h : Q (.bool false) s) : wpAny (model prog w) A (compareOp .NotEq (.int a t) (.int b u)) Q E s := ne_int (by rw [e]; simpa using h)
theorem sum_is {vs : List Value} {ns : List Int} {z : Int} (F : Fr h₀ L s.heap m) (N : News h₀ L s.heap news) (hh : A.handled = none) (hl : (l, listOf vs.toArray k) ∈ news) (hi : IntsAre vs ns) (e : ns.sum = z)
    (h : ∀ h' tk t', Fr h₀ L h' m → News h₀ L h' news → Q (.int z t') { s with heap := h', toks := tk }) : wpAny (model prog w) A (call (.builtin "sum") [.ref l]) Q E s :=
  LSm.sum_ints F N hh ⟨_, N.get hl, rfl, k, rfl⟩ hi (by rw [e]; exact h)
end
def cI (i : Nat) : Col := if i = 0 then 0 else if i = 1 then 1 else 2
def btR (st : LS) (i j : Nat) : Bool := decide (((st.cnt (cI i) : Nat) : Int) < ((st.cnt (cI j) : Nat) : Int) ∨ (((st.cnt (cI i) : Nat) : Int) = ((st.cnt (cI j) : Nat) : Int) ∧ (((cI i).val : Nat) : Int) < (((cI j).val : Nat) : Int)))
theorem best_arg {st : LS} {b : Col} (hb : Best st b 3) : argBest (btR st) 2 = b.val := by
  have b0 := hb 0 (by decide)
  have b1 := hb 1 (by decide)
  have b2 := hb 2 (by decide)
  have e : argBest (btR st) 1 = if st.cnt 1 < st.cnt 0 then 1 else 0 := by
    show (if btR st 1 0 then 1 else 0) = _
    unfold btR cI
    simp
  show (if btR st 2 (argBest (btR st) 1) then 2 else argBest (btR st) 1) = b.val
  rw [e]
  rcases cols3 b with rfl | rfl | rfl
  · simp at b1 b2
    have e1 : (if st.cnt 1 < st.cnt 0 then 1 else 0 : Nat) = 0 := if_neg (by omega)
    have : btR st 2 0 = false := by unfold btR cI; simp; omega
    rw [e1, this]; rfl
  · simp at b0 b2
    have e1 : (if st.cnt 1 < st.cnt 0 then 1 else 0 : Nat) = 1 := if_pos (by omega)
    have : btR st 2 1 = false := by unfold btR cI; simp; omega
    rw [e1, this]; rfl
  · simp at b0 b1
    by_cases h : st.cnt 1 < st.cnt 0
    · have e1 : (if st.cnt 1 < st.cnt 0 then 1 else 0 : Nat) = 1 := if_pos h
      have : btR st 2 1 = true := by unfold btR cI; simp; omega
      rw [e1, this]; rfl
    · have e1 : (if st.cnt 1 < st.cnt 0 then 1 else 0 : Nat) = 0 := if_neg h
      have : btR st 2 0 = true := by unfold btR cI; simp; omega
      rw [e1, this]; rfl
section
variable {prog : Program} {w : World} {A : Around} {E : Value → Shared → Prop} {s : Shared} {h₀ : Heap} {L l : Addr} {m : Str → Option Value} {news : List (Addr × Obj)} {k n : Nat} {t u : Tok} {Q : Value → Shared → Prop} {st : LS} {b : Col}
theorem at_cI {S : Col → Addr} {i : Nat} {v : Value} (h : ([Value.ref (S 0), .ref (S 1), .ref (S 2)] : List Value).toArray[i]? = some v) : v = .ref (S (cI i)) := by
  match i, h with
  | 0, h => simp at h; exact h.symm
  | 1, h => simp at h; exact h.symm
  | 2, h => simp at h; exact h.symm
  | i + 3, h => simp at h
theorem min_rows {S : Col → Addr} (hh : A.handled = none) (Fx : Fr h₀ L s.heap m) (N : News h₀ L s.heap news) (hl : (l, W.listOf [Value.ref (S 0), .ref (S 1), .ref (S 2)].toArray k) ∈ news) (hS : ∀ c, ∃ u1 u2, (S c, tupO [.int ((st.cnt c : Nat) : Int) u1, .int ((c.val : Nat) : Int) u2]) ∈ news)
    (hb : Best st b 3) (hu : A.in1.units < cLine) (h : ∀ h' tk, Fr h₀ L h' m → News h₀ L h' news → Q (.ref (S b)) { s with heap := h', toks := tk }) : wpAny (model prog w) A (call (.builtin "min") [.ref l]) Q E s := by
  have hls : s.heap.IsList l [Value.ref (S 0), .ref (S 1), .ref (S 2)].toArray := ⟨_, N.get hl, rfl, k, rfl⟩
  have hlI : l ≠ s.heap.objs.size := Nat.ne_of_lt (Heap.lt_size (N.get hl))
  have hSz : ∀ c, S c < s.heap.objs.size := fun c => by obtain ⟨u1, u2, hm⟩ := hS c; exact Heap.lt_size (N.get hm)
  refine call_minG (wpAny_pyIter_list hls ⟨s.heap.objs.size, [s.heap.objs.size, l], [s.heap.objs.size], _, _, _, btR st, (fun h => ∀ c, ∃ u1 u2, h.get? (S c) = some (tupO [.int ((st.cnt c : Nat) : Int) u1, .int ((c.val : Nat) : Int) u2])), rfl, Walks.list (A := A.in1) hh s.heap.objs.size l hlI [Value.ref (S 0), .ref (S 1), .ref (S 2)].toArray, ⟨⟨_, Heap.get?_push_size _ rfl, rfl, rfl⟩, hls.push _⟩, ?_, (show 0 < 3 by decide), ?_, ?_, ?_, ?_⟩)
  · intro c hc
    show c < (s.heap.push _).objs.size
    rw [Heap.size_push]
    rcases List.mem_cons.mp hc with rfl | hc
    · exact Nat.lt_succ_self _
    · rw [List.mem_singleton.mp hc]
      exact Nat.lt_succ_of_lt (Heap.lt_size (N.get hl))
  · intro i j vi vj s' Q' E' hG hi hj hq
    rw [at_cI hi, at_cI hj]
    obtain ⟨u1, u2, h1⟩ := hG (cI i)
    obtain ⟨u3, u4, h2⟩ := hG (cI j)
    exact pair_lt h1 h2 hu hq
  · intro c
    obtain ⟨u1, u2, hm⟩ := hS c
    exact ⟨u1, u2, Heap.get?_push_of_some _ (N.get hm)⟩
  · intro h1 h2 hg hk c
    obtain ⟨u1, u2, hm⟩ := hg c
    refine ⟨u1, u2, hk _ _ (fun hc => Nat.ne_of_lt (hSz c) (List.mem_singleton.mp hc)) (Nat.ne_of_lt ?_) hm⟩
    show S c < (s.heap.push _).objs.size
    rw [Heap.size_push]
    exact Nat.lt_succ_of_lt (hSz c)
  · intro v h' tk hP hk
    have hv := at_cI hP
    have e : cI (argBest (btR st) 2) = b := by
      rw [best_arg hb]
      rcases cols3 b with rfl | rfl | rfl <;> rfl
    replace hv : v = .ref (S (cI (argBest (btR st) 2))) := hv
    rw [e] at hv
    subst hv
    have hIn : h₀.get? s.heap.objs.size = none := next_is_new Fx
    refine h h' tk ⟨(Fx.push _).ns.at' fun o e => hk _ o (fun hc => Nat.ne_of_lt Fx.ns.lt (List.mem_singleton.mp hc)) e, fun c o e => hk c o (fun hc => by rw [List.mem_singleton.mp hc, hIn] at e; cases e) ((Fx.push _).keep c o e), Fx.above⟩ fun p hp => ⟨hk _ _ (fun hc => Nat.ne_of_lt (Heap.lt_size (N p hp).1) (List.mem_singleton.mp hc)) (Heap.get?_push_of_some _ (N p hp).1), (N p hp).2⟩
theorem eq_rows {x y : Addr} {a c : Int} {t1 u1 t2 u2 : Tok} (N : News h₀ L s.heap news) (hx : (x, tupO [.int a t1, .int c u1]) ∈ news) (hy : (y, tupO [.int a t2, .int c u2]) ∈ news) (hu : A.units < cLine) (h : Q (.bool true) s) : wpAny (model prog w) A (compareOp .Eq (.ref x) (.ref y)) Q E s := by
  have hX : s.heap.IsTuple x #[.int a t1, .int c u1] := ⟨_, N.get hx, rfl, 0, rfl⟩
  have hY : s.heap.IsTuple y #[.int a t2, .int c u2] := ⟨_, N.get hy, rfl, 0, rfl⟩
  refine SeqAt.eq_tupleAt (e := fun _ => true) hX hY hu (fun j h1 h2 => ?_) h
  match j, h1, h2 with
  | 0, _, _ =>
    have := SeqAt.EqAt.int_int (A := A.in1) (s := s) a t1 a t2
    rwa [beq_self_eq_true] at this
  | 1, _, _ =>
    have := SeqAt.EqAt.int_int (A := A.in1) (s := s) c u1 c u2
    rwa [beq_self_eq_true] at this
  | j + 2, h1, _ => exact absurd h1 (by simp)
end
theorem wl_LE_3 : True := by
  k_with "call ref" => (k_here; k_dflt (refine wpAny_call ?_; refine' t_steps _ ?wqzzX ?wqzzB ?wqzzF ?wqzzN ?wqzzT ?wqzzk ?wqzzd ?wqzzu ?wqzzmd ?wqzzpd ?wqzzmp ?wqzzmn ?wqzzhv ?wqzzhz ?_; (case wqzzX => k_asm); (case wqzzB => k_asm); (case wqzzF => k_asm); (case wqzzN => k_asm); (case wqzzT => k_asm); (case wqzzk => rfl); (case wqzzd => exact Nat.le_of_ble_eq_true rfl); (case wqzzu => exact Nat.le_of_ble_eq_true rfl); (case wqzzmd => k_mem); (case wqzzpd => assumption); (case wqzzmp => exact PaintsIn.mono (by assumption) (fun p hp => by repeat (first | exact hp | apply List.mem_cons_of_mem))); (case wqzzmn => k_mem); (case wqzzhv => assumption); (case wqzzhz => assumption)); intro _ _ _ _ _; (try dsimp only); (try k_sweep))
  k_with "call type:range" => (k_here; k_dflt (refine' range_new ?wqzzF ?wqzzN ?_; (case wqzzF => k_asm); (case wqzzN => k_asm)); intro _ _ _ _ _ _ _ l1; (try k_lt l1); (try (revert l1; intro _)); (try k_sweep))
  k_with "subscriptTail Name Name ref int" => (k_here; (with_reducible show wpAny _ _ (subscriptTail _ _ (Value.ref _) (Value.int (Nat.cast _) _)) _ _ _); k_dflt (refine' name_at ?wqzzN ?wqzzd ?wqzzv ?wqzzi ?wqzzz ?_ ?wqzzhs; (case wqzzN => k_asm); (case wqzzd => k_mem); (case wqzzv => assumption); (case wqzzi => assumption); (case wqzzz => assumption); (case wqzzhs => rfl)); intro _)
  k_with "getMethod ref" => (k_here; (with_reducible show wpAny _ _ (getMethod (Value.ref _) (PySem.Str.ofString "count") _) _ _ _); k_dflt (refine' kf_method ?wqzzN ?wqzzm PySem.F.slot_list_count PySem.F.type_list_count ?_; (case wqzzN => k_asm); (case wqzzm => k_mem)))
  k_with "call builtin:list.count" => (k_here; k_dflt (refine' cnt_K ?wqzzN ?wqzzm ?wqzzi ?_; (case wqzzN => k_asm); (case wqzzm => k_mem); (case wqzzi => assumption)); intro _ _)
  k_with "call builtin:min" => (k_here; k_dflt (refine' min_rows ?wqzzh ?wqzzF ?wqzzN ?wqzzl ?wqzzS ?wqzzb ?wqzzu ?_; (case wqzzh => rfl); (case wqzzF => k_asm); (case wqzzN => k_asm); (case wqzzS => assumption); (case wqzzl => k_mem); (case wqzzb => assumption); (case wqzzu => exact Nat.le_of_ble_eq_true rfl)); intro _ _ _ _; (try k_sweep))
  k_with "compareOp Eq ref ref" => (k_here; k_dflt (refine' eq_rows ?wqzzN ?wqzzx ?wqzzy ?wqzzu ?_; (case wqzzN => k_asm); (case wqzzx => k_mem); (case wqzzy => k_mem); (case wqzzu => exact Nat.le_of_ble_eq_true rfl)))
  k_with "subscriptTail" => (k_here; (with_reducible show wpAny _ _ (subscriptTail (Expr.List _ _) _ (Value.ref _) (Value.int (Nat.cast _) _)) _ _ _); k_dflt (refine' item_ups ?wqzzN ?wqzzd ?_ ?wqzzhs; (case wqzzN => k_asm); (case wqzzd => k_mem); (case wqzzhs => with_unfolding_all rfl)); intro _)
  k_with "subscriptTail" => (k_here; (with_reducible show wpAny _ _ (subscriptTail _ _ (Value.ref _) (Value.str _ _)) _ _ _); k_dflt (refine' dc_sub ?wqzzN ?wqzzd ?wqzzo ?wqzzg ?_ ?wqzzhs; (case wqzzN => k_asm); (case wqzzd => k_mem); (case wqzzo => assumption); (case wqzzg => assumption); (case wqzzhs => rfl)); intro _)
  k_with "binaryOp Mult int int" => (k_here; k_dflt (refine' three_is ?wqzzx ?_; (case wqzzx => assumption)); intro _ _)
  k_with "compareOp NotEq int int" => (k_here; k_dflt (refine' ne_same ?wqzze ?_; (case wqzze => first | exact rfl | assumption | (symm; assumption))))
  k_with "call builtin:sum" => (k_here; k_dflt (refine' sum_is ?wqzzF ?wqzzN ?wqzzh ?wqzzl ?wqzzi ?wqzze ?_; (case wqzzF => k_asm); (case wqzzN => k_asm); (case wqzzh => rfl); (case wqzzl => k_mem); (case wqzzi => assumption); (case wqzze => assumption)); intro _ _ _ _ _; (try k_sweep))
  exact True.intro
theorem t_end (w : World) {p : Program} {loose : List Str} {mean : ExcName → Option Value} {mg mb : Str → Option Value} {h₀ : Heap} {L fa : Addr} {cd : Value} {m : Str → Option Value} {s : Shared} {Q : Flow → Shared → Prop}
  {o : Int} {items : List Int} {st : LS} {dP pl rl cl Dn sb sd sl D0 d0 : Addr} {n : Nat} {hsh : Int} {kt t1 t2 t3 t4 tt : Tok} {tn : Int} {oP o1 o2 o3 o4 o5 od : Obj} {P : Col → Addr} {news : List (Addr × Obj)} {ys pv rv cv ss : List Value} {k1 k2 k3 k4 k5 : Nat}
  (X : (Mine.hd.heap_39 w.params).In h₀) (B : Below callerA h₀ [] h₀) (T : Top p loose mean mg mb h₀)
  (F : Fr h₀ L s.heap (MapC m cl rl tn tt)) (N : News h₀ L s.heap news)
  (c1 : (L + 1, o1) ∈ news) (e1 : o1.data = .cell (some (.ref dP))) (c2 : (L + 1 + 1, o2) ∈ news) (e2 : o2.data = .cell (some (.ref pl))) (c3 : (L + 1 + 1 + 1, o3) ∈ news) (e3 : o3.data = .cell (some (.ref Dn)))
  (c4 : (L + 1 + 1 + 1 + 1, o4) ∈ news) (e4 : o4.data = .cell (some (.ref sb))) (c5 : (L + 1 + 1 + 1 + 1 + 1, o5) ∈ news) (e5 : o5.data = .cell (some (.ref D0)))
  (ok : st.Ok n) (hn : n ≤ 8) (hrun : st = runL o items)
  (md : (dP, oP) ∈ news) (pd : PD PySem.Challenge.rw_pg0268_01.row.prog w oP P) (mp : PaintsIn P news) (lodP : (dP == sysModules) = false)
  (mpl : (pl, listOf pv.toArray k1) ∈ news) (hpv : IntsAre pv st.nums) (mrl : (rl, listOf rv.toArray k2) ∈ news) (hrv : IntsAre rv (numR st)) (mcl : (cl, listOf cv.toArray k3) ∈ news) (hcl : cv.length = n + 1)
  (mDn : (Dn, listOf ys.toArray k4) ∈ news) (hys : NamesAre ys st.plain)
  (msb : (sb, instObj 169 sd) ∈ news) (msd : (sd, dictOf (entO hsh kt sl) 1) ∈ news) (msl : (sl, listOf ss.toArray k5) ∈ news) (hss : PairsIn news ss st.shown)
  (mD0 : (D0, tupO [.int (n + 1 : Nat) t1, .int 0 t2, .int 0 t3, .int 0 t4, .ref d0]) ∈ news) (md0 : (d0, od) ∈ news) (hdc : DcIs PySem.Challenge.rw_pg0268_01.row.prog w od (tally st.cuts)) (lo0 : (d0 == sysModules) = false)
  (htn : tn = stepsC (st.rim.map st.col))
  (ret : ∀ m' h tk, Fr h₀ L h m' → Q (.ret (.bool true)) { s with heap := h, toks := tk }) :
  wpAny (model PySem.Challenge.rw_pg0268_01.row.prog w) (callerA.deeper (lawE L fa cd)) (execs at13 (lawE L fa cd)) Q (fun _ _ => False) s := by
  revert X; k_fill; intro X
  unfold lawE at13 at12 at7 at6 lawR recOf at *
  dsimp only [off6, off1] at *
  unfold MapC at F
  have pdK := pd
  unfold PD at pdK
  k_steps
  rename_i p0 hh0 lp0 p1 hh1 lp1 jl hh2 ljl jb jd hT hshT ktT hT2 tkT lT1 lT2 hh3 eE itE epE hE FE NE lE1 lE2 atE
  have hzz : st.plain.length ≤ 11 := by rw [ok.len]; omega
  have hcnt : ∀ c, st.cnt c ≤ 10000 := fun c => by
    have h1 : st.cnt c ≤ st.plain.length := by
      unfold LS.cnt LS.of
      exact Nat.le_trans (List.length_filter_le _ _) (by simp)
    omega
  refine comp_srcTA (src_enum rfl FE NE (by repeat (first | exact md | apply List.mem_cons_of_mem)) lE1 lE2 atE ?k1 ?k2 ?k3 ?ne) (fun _ => true) (fun (q : Value × Value) y nw => ∃ (c : Col) (t : Tok) (p : Addr) (u1 u2 : Tok), q.1 = Value.int ((c.val : Nat) : Int) t ∧ y = Value.ref p ∧ (p, tupO [.int ((st.cnt c : Nat) : Int) u1, .int ((c.val : Nat) : Int) u2]) ∈ nw) G.tests_nil ?elts ?store (Nat.le_of_ble_eq_true rfl) ?cell ?k4
  case ne => decide
  case cell => decide
  case k1 => rfl
  case k2 => rfl
  case k3 => rfl
  case k4 => rfl
  case elts =>
    intro C i v co m₂ tl s₃ E' hi hP hp' hnC hm F₁ N₁ hs
    obtain ⟨tq, kq, xq, eq1, hkv, hkis⟩ := hP
    obtain ⟨c, tc, rfl, eq2⟩ := key_is hkv hkis
    obtain ⟨hm1, hm2⟩ := hm
    rw [eq1] at hm1
    rw [eq2] at hm2
    have inN : ∀ p ∈ news, p ∈ tl := fun p h => hs p (by repeat (first | exact h | apply List.mem_cons_of_mem))
    have c4' := inN _ c4
    have msb' := inN _ msb
    have msd' := inN _ msd
    have msl' := inN _ msl
    have hss' := hss.mono inN
    have x1 := (up_short c).1
    have x2 := (up_short c).2
    have x3 := (low_nm c).2
    have x4 := hcnt c
    clear hss hs inN NE FE
    k_steps
    rename_i aU DZ zs kZ hZ tkZ hSZ hLZ lZ uZ tkY DY hY FY NY lY
    exact EltEnd.intro [(DY, tupO [.int ((st.cnt c : Nat) : Int) uZ, .int ((c.val : Nat) : Int) tq])] FY NY (fun q h => List.mem_cons_of_mem _ (List.mem_cons_of_mem _ h)) (fun q h => by rw [List.mem_singleton.mp h]; exact List.mem_cons_self ..)
      (fun q h r hr => by rw [List.mem_singleton.mp h]; rcases List.mem_cons.mp hr with rfl | hr; exact lY.2.1; exact allLt_all lY.2.2 r hr) ⟨c, tq, DY, uZ, tq, eq1, rfl, List.mem_singleton.mpr rfl⟩
  case store =>
    intro DR CR coR mCR hR tkR kR rs vsR led FR NR hnR hsR hneR hDCR hCLR hC0R hltR hlenR hPR hFR
    rw [List.filter_eq_self.mpr (fun _ _ => rfl)] at hFR
    obtain ⟨R, rfl, hR3⟩ := rows_of hlenR (fun j v hv => (hPR j v hv).imp fun t h => by obtain ⟨_, _, h, _⟩ := h; exact h) hFR
    clear hFR hPR
    k_steps
    refine StoreEnd.intro (by k_asm) (by k_asm) hnR hCLR hC0R (fun q hq => (List.mem_cons.mp hq).elim (fun e => e ▸ hDCR) (hneR q)) ?_
    intro h₃ F₃ N₃
    dsimp only
    have inN : ∀ p ∈ news, p ∈ led := fun p h => hsR p (by repeat (first | exact h | apply List.mem_cons_of_mem))
    have mjb := hsR _ (List.mem_cons_self ..)
    have mjd := hsR _ (List.mem_cons_of_mem _ (List.mem_cons_self ..))
    have mjl := hsR _ (List.mem_cons_of_mem _ (List.mem_cons_of_mem _ (List.mem_cons_self ..)))
    have mp1 := hsR _ (List.mem_cons_of_mem _ (List.mem_cons_of_mem _ (List.mem_cons_of_mem _ (List.mem_cons_self ..))))
    have mp0 := hsR _ (List.mem_cons_of_mem _ (List.mem_cons_of_mem _ (List.mem_cons_of_mem _ (List.mem_cons_of_mem _ (List.mem_cons_self ..)))))
    replace c1 := inN _ c1
    replace c2 := inN _ c2
    replace c3 := inN _ c3
    replace c4 := inN _ c4
    replace c5 := inN _ c5
    replace md := inN _ md
    replace mp := mp.mono inN
    replace mpl := inN _ mpl
    replace mrl := inN _ mrl
    replace mcl := inN _ mcl
    replace mDn := inN _ mDn
    replace msb := inN _ msb
    replace msd := inN _ msd
    replace msl := inN _ msl
    replace hss := hss.mono inN
    replace mD0 := inN _ mD0
    replace md0 := inN _ md0
    clear hnR hsR hneR hltR inN lE1 lE2
    k_steps
    rename_i hL1 FL1 NL1
    unfold StartK
    have hlt3 : ∀ (i : Nat) (v : Value), [Value.ref (R 0), .ref (R 1), .ref (R 2)][i]? = some v → ∃ c : Col, c.val = i ∧ v = .ref (R c) := by
      intro i v h
      match i, h with
      | 0, h => simp at h; exact ⟨0, rfl, h.symm⟩
      | 1, h => simp at h; exact ⟨1, rfl, h.symm⟩
      | 2, h => simp at h; exact ⟨2, rfl, h.symm⟩
      | i + 3, h => simp at h
    refine iter_list_K (vs := [Value.ref (R 0), .ref (R 1), .ref (R 2)]) (n := kR) rfl FL1 NL1 (fun i m' nx => nx = (DR, W.listOf [Value.ref (R 0), .ref (R 1), .ref (R 2)].toArray kR) :: led ∧ ∃ b m₁, m' = MapE m₁ (R b) jb rl cl tn tt ∧ Best st b i) ⟨rfl, 0, _, mapE_self rfl rfl rfl rfl rfl, fun c h => absurd h (Nat.not_lt_zero _)⟩ ?hl ?step ?done (by passes_own)
    case hl =>
      rintro i m' nx ⟨rfl, _⟩
      exact List.mem_cons_self ..
    case step =>
      rintro i v m₁ nx h tk it io hv ⟨rfl, b, m₂, rfl, hbest⟩ hit F₁ N₁
      obtain ⟨c, rfl, rfl⟩ := hlt3 i v hv
      obtain ⟨ub1, ub2, hmb⟩ := hR3 b
      obtain ⟨uc1, uc2, hmc⟩ := hR3 c
      unfold MapE at F₁
      k_steps
      · rename_i hx1 tx ux hx2 tkx hc hF FF NN
        exact EndK.next _ FF NN (List.mem_cons_self ..) (fun p hp => List.mem_cons_of_mem _ hp) hit ⟨rfl, c, _, mapE_self rfl rfl rfl rfl rfl, best_new hbest hc⟩
      · rename_i hx1 tx ux hF tkx FF NN hc
        exact EndK.next _ FF NN (List.mem_cons_self ..) (fun p hp => List.mem_cons_of_mem _ hp) hit ⟨rfl, b, _, mapE_self rfl rfl rfl rfl rfl, best_old hbest hc⟩
    case done =>
      rintro m' nx h tk ⟨rfl, b, m₂, rfl, hbest⟩ F₁ N₁
      obtain ⟨ub1, ub2, hmb⟩ := hR3 b
      have x1 := upN_short b
      have x3 := low_upN b
      have hcc := hcnt b
      have lp : pv.length = n + 3 := by rw [hpv.length]; simp [LS.nums, ok.len]
      have hleast : 3 * st.cnt b ≤ n + 3 := by
        have h1 := st.cnt_sum
        have b0 := hbest 0 (Nat.le_of_ble_eq_true rfl)
        have b1 := hbest 1 (Nat.le_of_ble_eq_true rfl)
        have b2 := hbest 2 (Nat.le_of_ble_eq_true rfl)
        rw [ok.len] at h1
        omega
      have hnot : ¬ (3 * ((st.cnt b : Nat) : Int) > ((n + 3 : Nat) : Int)) := by omega
      unfold MapE at F₁
      dsimp only
      k_steps
      rename_i lU hU FU NU lU1 uU DG gs kG hG tkG hSG hLG lG hG2 FG NG uu1 tt1 uu2 tt2 uu3 tt3
      have hcov : Covers st := hrun ▸ covers_run o items
      have hsum : ∀ c, (((st.of c).map upC).map (valC (tally st.cuts))).sum = ((n + 1 : Nat) : Int) := fun c => by
        have := ok.sum_of c
        rw [hits_shown, ok.cuts] at this
        exact this
      have hget : ∀ (c : Col) (x : Str), x ∈ (st.of c).map upC → getC (tally st.cuts) x = some (valC (tally st.cuts) x) := fun c x hx => by
        obtain ⟨i, hi, rfl⟩ := List.mem_map.mp hx
        have hi := List.mem_range.mp (List.mem_filter.mp hi).1
        have h1 := some_tally st.cuts i (hcov i hi)
        unfold valC
        obtain ⟨z, hz⟩ := Option.isSome_iff_exists.mp h1
        rw [hz]
        rfl
      have hsb := hsum b
      refine comp_src (src_list rfl FG NG (List.mem_cons_self ..)) (fun _ => true) (fun v y _ => ∃ (x : Str) (t u : Tok), v = Value.str x t ∧ y = Value.int (valC (tally st.cuts) x) u) tests_nil ?_ ?_ (by rw [hLG]; exact hcc) (by decide) rfl rfl
      · intro C i v co m₂ tl s₃ E' hi hP hp hnC hm F₂ N₂ hs
        obtain ⟨x, t, rfl, hx⟩ := strs_got hSG hP
        have hg := hget b x (List.mem_of_getElem? hx)
        have inN : ∀ p ∈ led, p ∈ tl := fun p h => hs p (by repeat (first | exact h | apply List.mem_cons_of_mem))
        have c5' := inN _ c5
        have mD0' := inN _ mD0
        have md0' := inN _ md0
        clear hs inN
        k_steps
        exact EltEnd.plain (by k_asm) (by k_asm) (fun q h => by repeat (first | exact h | apply List.mem_cons_of_mem)) ⟨x, t, _, rfl, rfl⟩
      · intro D2 h2 tk2 k2 ys2 vs2 led2 F₂ N₂ hs hlt hlen hP hF
        have hvs2 := same_list hlen hP
        subst hvs2
        rw [List.filter_eq_self.mpr (fun _ _ => rfl)] at hF
        have hti := vals_of hSG hF
        have N₃ : News h₀ L h2 ((D2, W.listOf ys2.toArray k2) :: led) := cb_drop N₂ (sub_cons fun p hp => hs p (by repeat (first | exact hp | apply List.mem_cons_of_mem)))
        clear hF hP hlen hs hlt N₂ NG FG NU FU
        (try dsimp only)
        k_steps
        rename_i hB tkB tB FB NB tkB2
        refine comp_src (src_keys (knd := PySem.strKind _ _) rfl (by k_asm) (by k_asm) (List.mem_cons_of_mem _ md) pdK lodP) (fun _ => true) (fun v y _ => ∃ u, y = Value.int ((n + 1 : Nat) : Int) u) tests_nil ?_ ?_ (Nat.le_of_ble_eq_true rfl) (by decide) rfl rfl
        · intro C i v co m₂ tl s₃ E' hi hP hp hnC hm F₂ N₂ hs
          obtain ⟨kq, xq, hkv, hkis⟩ := hP
          obtain ⟨c, tc, rfl, rfl⟩ := key_is hkv hkis
          have inN : ∀ p ∈ led, p ∈ tl := fun p h => hs p (List.mem_cons_of_mem _ h)
          have c4' := inN _ c4
          have c5' := inN _ c5
          have msb' := inN _ msb
          have msd' := inN _ msd
          have msl' := inN _ msl
          have hss' := hss.mono inN
          have mD0' := inN _ mD0
          have md0' := inN _ md0
          have y1 := (up_short c).2
          have y2 := (low_nm c).1
          have hsc := hsum c
          clear hs inN hss FB NB
          k_steps
          rename_i DZ zs kZ hZ tkZ hSZ hLZ lZ FZ NZ
          refine comp_src (src_list rfl (by k_asm) (by k_asm) (List.mem_cons_self ..)) (fun _ => true) (fun v y _ => ∃ (x : Str) (t u : Tok), v = Value.str x t ∧ y = Value.int (valC (tally st.cuts) x) u) tests_nil ?_ ?_ (by rw [hLZ]; exact hcnt c) (by decide) rfl rfl
          · intro C2 i2 v2 co2 m3 tl2 s4 E2 hi2 hP2 hp2 hn2 hm2 F3 N3 hs2
            obtain ⟨x, t, rfl, hx⟩ := strs_got hSZ hP2
            have hg := hget c x (List.mem_of_getElem? hx)
            have c5' := hs2 _ (List.mem_cons_of_mem _ (List.mem_cons_of_mem _ c5'))
            have mD0' := hs2 _ (List.mem_cons_of_mem _ (List.mem_cons_of_mem _ mD0'))
            have md0' := hs2 _ (List.mem_cons_of_mem _ (List.mem_cons_of_mem _ md0'))
            clear hs2
            k_steps
            exact EltEnd.plain (by k_asm) (by k_asm) (fun q h => by repeat (first | exact h | apply List.mem_cons_of_mem)) ⟨x, t, _, rfl, rfl⟩
          · intro D3 h3 tk3 k3' ys3 vs3 led3 F3 N3 hs3 hlt3 hlen3 hP3 hF3
            have hvs3 := same_list hlen3 hP3
            subst hvs3
            rw [List.filter_eq_self.mpr (fun _ _ => rfl)] at hF3
            have hti3 := vals_of hSZ hF3
            have N4 : News h₀ L h3 ((D3, W.listOf ys3.toArray k3') :: (C, co) :: tl) := cb_drop N3 (sub_cons fun p hp => hs3 p (List.mem_cons_of_mem _ hp))
            clear hF3 hP3 hlen3 hs3 hlt3 N3 NZ FZ
            (try dsimp only)
            k_steps
            exact EltEnd.plain (by k_asm) (by k_asm) (fun q h => List.mem_cons_of_mem _ h) ⟨_, rfl⟩
        · intro D4 h4 tk4 k4' ys4 vs4 led4 F4 N4 hs4 hlt4 hlen4 hP4 hF4
          rw [List.filter_eq_self.mpr (fun _ _ => rfl)] at hF4
          have hti4 := consts_of hlen4 hF4
          have N5 : News h₀ L h4 ((D4, W.listOf ys4.toArray k4') :: led) := cb_drop N4 (sub_cons fun p hp => hs4 p (List.mem_cons_of_mem _ hp))
          clear hF4 hP4 hlen4 hs4 hlt4 N4 NB FB
          (try dsimp only)
          k_steps
          · have hjl : ∀ (j : Nat), j ∈ st.rim → j < n + 3 := fun j hj => by
              obtain ⟨i, hi, rfl⟩ := List.getElem_of_mem hj
              have h1 := ok.low i (by rw [← ok.rim]; exact hi)
              unfold LS.one at h1
              simpa [List.getD_eq_getElem?_getD, hi] using h1
            refine comp_src (src_list rfl (by k_asm) (by k_asm) (by repeat (first | exact mrl | apply List.mem_cons_of_mem))) (fun _ => true) (fun v y _ => ∃ (j : Nat) (t u : Tok), v = Value.int ((j : Nat) : Int) t ∧ y = Value.str (nm (st.col j)) u) tests_nil ?_ ?_ (by rw [hrv.length]; simp [numR, ok.rim]; omega) (by decide) rfl rfl
            · intro C i v co m₃ tl s₃ E' hi hP hp hnC hm F₂ N₂ hs
              obtain ⟨z, t, rfl, hz⟩ := ints_got hrv hP
              obtain ⟨j, hj, rfl⟩ : ∃ j, j ∈ st.rim ∧ ((j : Nat) : Int) = z := by
                unfold numR at hz
                rw [List.getElem?_map, Option.map_eq_some_iff] at hz
                obtain ⟨j, hj, e⟩ := hz
                exact ⟨j, List.mem_of_getElem? hj, e⟩
              have hjn : j < st.plain.length := by rw [ok.len]; exact hjl j hj
              have hpl : st.plain.length ≤ 10000 := by omega
              have inN : ∀ p ∈ led, p ∈ tl := fun p h => hs p (by repeat (first | exact h | apply List.mem_cons_of_mem))
              have c3' := inN _ c3
              have mDn' := inN _ mDn
              clear hs inN
              k_steps
              exact EltEnd.plain (by k_asm) (by k_asm) (fun q h => by repeat (first | exact h | apply List.mem_cons_of_mem)) ⟨j, t, _, rfl, rfl⟩
            · intro D6 h6 tk6 k6 ys6 vs6 led6 F6 N6 hs6 hlt6 hlen6 hP6 hF6
              have hvs6 := same_list hlen6 hP6
              subst hvs6
              rw [List.filter_eq_self.mpr (fun _ _ => rfl)] at hF6
              have hn6 : NamesAre ys6 (st.rim.map st.col) := names_ix hrv hF6
              have N7 : News h₀ L h6 ((D6, W.listOf ys6.toArray k6) :: led) := cb_drop N6 (sub_cons fun p hp => hs6 p (by repeat (first | exact hp | apply List.mem_cons_of_mem)))
              have hz6 : (st.rim.map st.col).length ≤ 100 := by simp [ok.rim]; omega
              clear hF6 hP6 hlen6 hs6 hlt6 N6
              (try dsimp only)
              k_steps
              rename_i uu4 hh4 tt4 rr tr ur hh5 tkr FR5 NR5 lR5
              refine comp_src (src_range (n := 3) rfl FR5 NR5 (List.mem_cons_self ..) (by decide)) (fun _ => true) (fun v y nw => ∃ (i : Nat) (t : Tok) (p : Addr) (u1 u2 : Tok), v = Value.int ((i : Nat) : Int) t ∧ y = Value.ref p ∧ (p, tupO [.int ((st.nums.count ((i : Nat) : Int) : Nat) : Int) u1, .int ((i : Nat) : Int) u2]) ∈ nw) tests_nil ?_ ?_ (by decide) (by decide) rfl rfl
              · intro C i v co m₃ tl s₃ E' hi hP hp hnC hm F₂ N₂ hs
                obtain ⟨t, rfl⟩ := hP
                have inN : ∀ p ∈ led, p ∈ tl := fun p h => hs p (by repeat (first | exact h | apply List.mem_cons_of_mem))
                have c2' := inN _ c2
                have mpl' := inN _ mpl
                clear hs inN
                k_steps
                rename_i uC tkC DY hY FY NY lY
                exact EltEnd.intro [(DY, tupO [.int ((st.nums.count ((i : Nat) : Int) : Nat) : Int) uC, .int ((i : Nat) : Int) t])] FY NY (fun q h => List.mem_cons_of_mem _ h) (fun q h => by rw [List.mem_singleton.mp h]; exact List.mem_cons_self ..)
                  (fun q h r hr => by rw [List.mem_singleton.mp h]; rcases List.mem_cons.mp hr with rfl | hr; exact lY.1; exact allLt_all lY.2 r hr) ⟨i, t, DY, uC, t, rfl, rfl, List.mem_singleton.mpr rfl⟩
              · intro D8 h8 tk8 k8 ys8 vs8 led8 F8 N8 hs8 hlt8 hlen8 hP8 hF8
                rw [List.filter_eq_self.mpr (fun _ _ => rfl)] at hF8
                obtain ⟨S, rfl, hS8⟩ := mins_of hlen8 hP8 hF8
                have mRb := hs8 _ (List.mem_cons_of_mem _ (List.mem_cons_of_mem _ hmb))
                obtain ⟨us1, us2, mSb⟩ := hS8 b
                have hS9 : ∀ c, ∃ u1 u2, (S c, tupO [.int ((st.cnt c : Nat) : Int) u1, .int ((c.val : Nat) : Int) u2]) ∈ (D8, W.listOf [Value.ref (S 0), .ref (S 1), .ref (S 2)].toArray k8) :: led8 := fun c => by
                  obtain ⟨u1, u2, hm⟩ := hS8 c
                  exact ⟨u1, u2, List.mem_cons_of_mem _ hm⟩
                clear hF8 hP8 hlen8 hlt8
                (try dsimp only)
                k_steps
                exact ret _ _ _ (by k_asm)
          · rename_i hne
            exact absurd rfl hne
end Mine
end

section
open PySem PySem.W PyProof.Rows
set_option Elab.async false
set_option maxRecDepth 100000
set_option maxHeartbeats 2000000
namespace Mine
theorem t_law (w : World) {p : Program} {loose : List Str} {mean : ExcName → Option Value} {mg mb : Str → Option Value} {h₀ : Heap} {L fa : Addr} {cd : Value} {m : Str → Option Value} {s : Shared} {Q : Flow → Shared → Prop}
  {o : Int} {script : List Int} {sv : List Value} {sc dP tb td hl pl rl cl : Addr} {hsh : Int} {kt : Tok} {oP o1 o2 o3 o4 o5 : Obj} {v3 v4 v5 : Option Value} {P : Col → Addr} {base : List (Addr × Obj)}
  {hs pv rv cv : List Value} {k1 k2 k3 k4 : Nat}
  (X : (Mine.hd.heap_39 w.params).In h₀) (B : Below callerA h₀ [] h₀) (F : Fr h₀ L s.heap (MapL m cl rl tb sc)) (T : Top p loose mean mg mb h₀) (hsys : h₀.get? sysModules ≠ none)
  (N : News h₀ L s.heap ((hl, listOf hs.toArray k1) :: (pl, listOf pv.toArray k2) :: (rl, listOf rv.toArray k3) :: (cl, listOf cv.toArray k4) :: base))
  (hp : PairsIn base hs (st0 o).rows) (hpv : IntsAre pv (st0 o).nums) (hrv : IntsAre rv (numR (st0 o))) (hcv : CutsIn base cv (st0 o).cuts)
  (hs1 : h₀.IsList sc sv.toArray) (hs2 : IntsAre sv script) (hs3 : script.length ≤ 63)
  (b1 : ∀ p ∈ base, p.1 ≠ hl) (b2 : ∀ p ∈ base, p.1 ≠ pl) (b3 : ∀ p ∈ base, p.1 ≠ rl) (b4 : ∀ p ∈ base, p.1 ≠ cl) (d1 : hl ≠ pl) (d2 : hl ≠ rl) (d3 : hl ≠ cl) (d4 : pl ≠ rl) (d5 : pl ≠ cl) (d6 : rl ≠ cl)
  (mt : (tb, instObj 169 td) ∈ base) (mtd : (td, dictOf (entO hsh kt hl) 1) ∈ base) (md : (dP, oP) ∈ base) (pd : PD PySem.Challenge.rw_pg0268_01.row.prog w oP P) (mp : PaintsIn P base) (lodP : (dP == sysModules) = false)
  (c1 : (L + 1, o1) ∈ base) (e1 : o1.data = .cell (some (.ref dP))) (c2 : (L + 1 + 1, o2) ∈ base) (e2 : o2.data = .cell (some (.ref pl))) (c3 : (L + 1 + 1 + 1, o3) ∈ base) (e3 : o3.data = .cell v3)
  (c4 : (L + 1 + 1 + 1 + 1, o4) ∈ base) (e4 : o4.data = .cell v4) (c5 : (L + 1 + 1 + 1 + 1 + 1, o5) ∈ base) (e5 : o5.data = .cell v5)
  (ret : ∀ m' h tk, Fr h₀ L h m' → Q (.ret (.bool true)) { s with heap := h, toks := tk }) :
  wpAny (model PySem.Challenge.rw_pg0268_01.row.prog w) (callerA.deeper (lawE L fa cd)) (execs at6 (lawE L fa cd)) Q (fun _ _ => False) s := by
  refine t_loop w X B F T N hp hpv hrv hcv hs1 hs2 hs3 b1 b2 b3 b4 d1 d2 d3 d4 d5 d6 mt mtd md pd mp c1 e1 c2 e2 fun m' nx h tk S F' N' => ?_
  obtain ⟨hs', pv', rv', cv', a1, a2, a3, a4, rest, m₁, rfl, rfl, r3, r4, r5, r6, hb, r7, r8, r9, r10⟩ := S.out
  have hlen : (script.take 5 ++ [0, 2, 3]).length ≤ 8 := by simp; omega
  have okr := run_all o (script.take 5 ++ [0, 2, 3])
  generalize hst : runL o (script.take 5 ++ [0, 2, 3]) = st at *
  generalize (script.take 5 ++ [0, 2, 3]).length = n at *
  have ok := okr.1
  have inN : ∀ p ∈ base, p ∈ (hl, W.listOf hs'.toArray a1) :: (pl, W.listOf pv'.toArray a2) :: (rl, W.listOf rv'.toArray a3) :: (cl, W.listOf cv'.toArray a4) :: rest := fun p h => List.mem_cons_of_mem _ (List.mem_cons_of_mem _ (List.mem_cons_of_mem _ (List.mem_cons_of_mem _ (hb p h))))
  have inR : ∀ p ∈ rest, p ∈ (hl, W.listOf hs'.toArray a1) :: (pl, W.listOf pv'.toArray a2) :: (rl, W.listOf rv'.toArray a3) :: (cl, W.listOf cv'.toArray a4) :: rest := fun p h => List.mem_cons_of_mem _ (List.mem_cons_of_mem _ (List.mem_cons_of_mem _ (List.mem_cons_of_mem _ h)))
  have mhl : (hl, W.listOf hs'.toArray a1) ∈ (hl, W.listOf hs'.toArray a1) :: (pl, W.listOf pv'.toArray a2) :: (rl, W.listOf rv'.toArray a3) :: (cl, W.listOf cv'.toArray a4) :: rest := by simp
  have mpl : (pl, W.listOf pv'.toArray a2) ∈ (hl, W.listOf hs'.toArray a1) :: (pl, W.listOf pv'.toArray a2) :: (rl, W.listOf rv'.toArray a3) :: (cl, W.listOf cv'.toArray a4) :: rest := by simp
  have mrl : (rl, W.listOf rv'.toArray a3) ∈ (hl, W.listOf hs'.toArray a1) :: (pl, W.listOf pv'.toArray a2) :: (rl, W.listOf rv'.toArray a3) :: (cl, W.listOf cv'.toArray a4) :: rest := by simp
  have mcl : (cl, W.listOf cv'.toArray a4) ∈ (hl, W.listOf hs'.toArray a1) :: (pl, W.listOf pv'.toArray a2) :: (rl, W.listOf rv'.toArray a3) :: (cl, W.listOf cv'.toArray a4) :: rest := by simp
  generalize (hl, W.listOf hs'.toArray a1) :: (pl, W.listOf pv'.toArray a2) :: (rl, W.listOf rv'.toArray a3) :: (cl, W.listOf cv'.toArray a4) :: rest = nx at *
  have C : Cells L nx o1 o2 o3 o4 o5 (some (.ref dP)) (some (.ref pl)) v3 v4 v5 := ⟨inN _ c1, inN _ c2, inN _ c3, inN _ c4, inN _ c5, e1, e2, e3, e4, e5⟩
  have offT : ∀ a xs, (a, tupO xs) ∈ nx → (a, tupO xs) ∈ offC L nx := fun a xs h => C.off N' tup_data h
  have offL : ∀ a (vs : List Value) k, (a, W.listOf vs.toArray k) ∈ nx → (a, W.listOf vs.toArray k) ∈ offC L nx := fun a vs k h => C.off N' (fun _ h => nomatch h) h
  have oPd : ∀ v, oP.data ≠ .cell v := fun v e => by
    obtain ⟨es, ep, _, hd, _⟩ := pd
    rw [e] at hd
    cases hd
  have mdO := C.off N' oPd (inN _ md)
  have mpO : PaintsIn P (offC L nx) := (mp.mono inN).move offT
  have hsO : PairsIn (offC L nx) hs' st.rows := (r3.mono inR).move offT
  have hcO : CutsIn (offC L nx) cv' st.cuts := (r6.mono inR).move offT
  refine t_mid (o := o) (items := []) (oP := oP) (P := P) (rv := rv') (cv := cv') (k3 := a3) (k4 := a4) w X B F' T (C.front N') e1 e2 e3 e4 e5 (fun p h => (off_ne h).1) (fun p h => (off_ne h).2.1) (fun p h => (off_ne h).2.2.1) (fun p h => (off_ne h).2.2.2.1) (fun p h => (off_ne h).2.2.2.2) ok hlen
    (C.off N' (fun _ h => nomatch h) (inN _ mt)) (C.off N' (fun _ h => nomatch h) (inN _ mtd)) (offL _ _ _ mhl) (offL _ _ _ mpl) hsO r4 ?_
  intro Dn sb sd sl D0 d0 ys ss kn ks hsh' kt' t1 t2 t3 t4 tt od o3' o4' o5' m2 base3 h2 tk2 hpos F2 N2 n5 hsub f3 f4 f5 g1 g2 g3 g4 mDn hys msb msd msl hss mD0 md0 hdc lo0
  have S0 : CutS w L st 0 cl rl base3 (MapC m2 cl rl 0 tt) ((L + 1 + 1 + 1 + 1 + 1, o5') :: base3) := ⟨D0, d0, t1, t2, t3, t4, tt, od, o5', base3, m2, rfl, rfl, n5, fun _ h => h, f5, mD0, md0, hdc, lo0⟩
  refine t_cuts w X B T hsys F2 N2 S0 g1 e1 g3 f3 ok hlen (hsub _ mdO) pd (mpO.mono hsub) mDn hys (hsub _ (offL _ _ _ mcl)) (hcO.mono hsub) hpos ?_
  intro m3 nx3 h3 tk3 S3 F3 N3 _
  obtain ⟨D1, d1', s1, s2, s3, s4, tt1, od1, o51, rest1, m4, rfl, rfl, q5, hb1, f51, mD1, md1, hdc1, lo1⟩ := S3.out
  have up : ∀ p ∈ base3, p ∈ (L + 1 + 1 + 1 + 1 + 1, o51) :: rest1 := fun p h => List.mem_cons_of_mem _ (hb1 p h)
  have hcutn : st.cuts.length = n + 1 := ok.cuts
  rw [List.take_length] at hdc1
  rw [hcutn] at mD1
  refine t_end w X B T F3 N3 (up _ g1) e1 (up _ g2) e2 (up _ g3) f3 (up _ g4) f4 (List.mem_cons_self ..) f51 ok hlen hst.symm (up _ (hsub _ mdO)) pd (mpO.mono fun p h => up p (hsub p h)) lodP (up _ (hsub _ (offL _ _ _ mpl))) r4 (up _ (hsub _ (offL _ _ _ mrl))) r5 (up _ (hsub _ (offL _ _ _ mcl))) (by rw [r6.length, hcutn]) (up _ mDn) hys
    (up _ msb) (up _ msd) (up _ msl) (hss.mono up) (List.mem_cons_of_mem _ mD1) (List.mem_cons_of_mem _ md1) hdc1 lo1 ?_ ret
  unfold pre
  rw [List.take_length]
  exact (LS.Ok.all_turns hst.symm).symm
end Mine
end

section
open PySem PySem.W PyProof.Rows
set_option Elab.async false
set_option maxRecDepth 100000
set_option maxHeartbeats 2000000
namespace Mine
local macro_rules | `(tactic| k_qdec) => `(tactic| decide +kernel)
theorem wl_LT_1 : True := by
  k_with_none
  k_with "newTuple" => (k_here; k_dflt (refine' kup_newTuple ?wqF ?wqN ?_ ?wqz; (case wqF => k_asm); (case wqN => k_asm); (case wqz => kmk_size)); intro _ _ _ _ l1; (try k_lt l1); (try (revert l1; intro _)); (try k_sweep))
  k_with "eval Dict" => (k_here; k_dflt (refine' kdn_str ?wqq ?wqF ?wqN ?wqb ?wqa ?wql ?wqe ?wqn ?_; (case wqq => rfl); (case wqF => k_asm); (case wqN => first | k_asm | exact News.nil); (case wqb => exact Top.nolimit (by k_asm)); (case wqa => rfl); (case wql => rfl); (case wqe => exact List.cons_ne_nil _ _); (case wqn => exact Nat.le_of_ble_eq_true rfl)); intro _ _ _ _ _ l1 _ _; (try k_lt l1); (try (revert l1; intro _)))
  k_with "subscriptTail" => (k_here; (with_reducible show wpAny _ _ (subscriptTail (Expr.List _ _) (Expr.Name (PySem.Str.ofString "odd") _) (Value.ref _) (Value.int _ _)) _ _ _); k_dflt (first
      | (refine' pick_two (a := 1) (b := 2) ?wqN ?wqd ?wqo ?_ ?wqhs; (case wqN => k_asm); (case wqd => k_mem); (case wqo => exact fmod_two _); (case wqhs => with_unfolding_all rfl); intro _)
      | (refine' pick_two (a := 2) (b := 1) ?wqN ?wqd ?wqo ?_ ?wqhs; (case wqN => k_asm); (case wqd => k_mem); (case wqo => exact fmod_two _); (case wqhs => with_unfolding_all rfl); intro _)))
  exact True.intro
theorem init_ok {c1 c2 : Col} : ∀ q ∈ [(("A" : Str), nm 0), (("B" : Str), nm c1), (("C" : Str), nm c2)], okName q.1 = true ∧ okVal q.2 = true := by
  have e : okName "A" = true ∧ okName "B" = true ∧ okName "C" = true := by decide +kernel
  intro q hq
  simp only [List.mem_cons, List.not_mem_nil, or_false] at hq
  rcases hq with rfl | rfl | rfl
  · exact ⟨e.1, (ok_nm _).2⟩
  · exact ⟨e.2.1, (ok_nm _).2⟩
  · exact ⟨e.2.2, (ok_nm _).2⟩
theorem wl_LT_2 : True := by
  k_with "call ref" => (k_here; k_dflt (refine' call_cls ?wqk1 ?wqk2 ?wqk3 ?wqk4 ?wqk5 ?wqk6 ?_; (case wqk1 => k_asm); (case wqk2 => k_asm); (case wqk3 => k_asm); (case wqk4 => k_is); (case wqk5 => k_is); (case wqk6 => k_is); k_whole; intro tb td hT FT NT lT1 lT2; refine' t_init _ ?wqzzX ?wqzzB ?wqzzF ?wqzzN ?wqzzT ?wqzzk ?wqzzd ?wqzzu ?wqzzq1 ?wqzzq2 ?wqzzm3 ?wqzzhp ?wqzzhn ?_; (case wqzzX => k_asm); (case wqzzB => k_asm); (case wqzzF => k_asm); (case wqzzN => k_asm); (case wqzzT => k_asm); (case wqzzk => rfl); (case wqzzd => exact Nat.le_of_ble_eq_true rfl); (case wqzzu => exact Nat.le_of_ble_eq_true rfl); (case wqzzq1 => exact fun p h => Nat.ne_of_lt (lT1 p h)); (case wqzzq2 => exact lT2); (case wqzzm3 => k_mem); (case wqzzhp => exact PairsIn.cons _ "A" (nm 0) _ _ (by k_mem) (PairsIn.cons _ "B" (nm (if (_ : Int) = 0 then 1 else 2)) _ _ (by k_mem) (PairsIn.cons _ "C" (nm (if (_ : Int) = 0 then 2 else 1)) _ _ (by k_mem) PairsIn.nil))); (case wqzzhn => exact init_ok); clear FT NT; intro hshT ktT hT2 tkT FT NT; (try k_lt lT1); (try k_lt2 lT2); (dsimp only [InitBack])))
  k_with "execs cons" => (k_here; (with_reducible show wpAny _ _ (execs (Stmt.For _ _ _ _ _ :: _) _) _ _ _); refine here ?_)
  exact True.intro
theorem resort {h₀ h : Heap} {L : Addr} {a b c d e f g : Addr × Obj} {r : List (Addr × Obj)} (N : News h₀ L h (a :: b :: c :: d :: e :: f :: g :: r)) : News h₀ L h (g :: d :: c :: a :: b :: e :: f :: r) := cb_drop N (by
  (repeat refine sub_c (by first | exact List.Mem.head _ | exact List.Mem.tail _ (by repeat first | exact List.Mem.head _ | apply List.Mem.tail)) ?_)
  (repeat first | exact sub_r | refine sub_t ?_))
theorem abc : upC 0 = Str.ofString "A" ∧ upC 1 = Str.ofString "B" ∧ upC 2 = Str.ofString "C" := by decide +kernel
theorem nums0 {o : Int} (h : o = 0 ∨ o = 1) : (st0 o).nums = [0, 1 + o, 2 - o] := by
  rcases h with rfl | rfl <;> rfl
theorem fr_mapL {h₀ h : Heap} {L cl rl tb sc : Addr} {g : Str → Option Value} (F : Fr h₀ L h g) (h1 : g "cuts" = some (.ref cl)) (h2 : g "rim" = some (.ref rl)) (h3 : g "table" = some (.ref tb)) (h4 : g (Str.ofString "script") = some (.ref sc)) : Fr h₀ L h (MapL g cl rl tb sc) := by
  rw [← mapL_self h1 h2 h3 h4]; exact F
theorem lo1 {x d : Addr} {o : Obj} {l : List (Addr × Obj)} (h : x < d) (r : ∀ p ∈ l, p.1 ≠ d) : ∀ p ∈ (x, o) :: l, p.1 ≠ d :=
  List.forall_mem_cons.mpr ⟨Nat.ne_of_lt h, r⟩
theorem hi1 {x d : Addr} {o : Obj} {l : List (Addr × Obj)} (h : d < x) (r : ∀ p ∈ l, p.1 ≠ d) : ∀ p ∈ (x, o) :: l, p.1 ≠ d :=
  List.forall_mem_cons.mpr ⟨(Nat.ne_of_lt h).symm, r⟩
theorem nil1 {d : Addr} : ∀ p ∈ ([] : List (Addr × Obj)), p.1 ≠ d := fun _ h => nomatch h
theorem paints0 {base : List (Addr × Obj)} {RA GA BA : Addr} {a1 a2 a3 b1 b2 b3 c1 c2 c3 : Tok}
  (h1 : (RA, tupO [.float 4607182418800017408 a1, .float 0 a2, .float 0 a3]) ∈ base)
  (h2 : (GA, tupO [.float 0 b1, .float 4607182418800017408 b2, .float 0 b3]) ∈ base)
  (h3 : (BA, tupO [.float 0 c1, .float 0 c2, .float 4607182418800017408 c3]) ∈ base) :
  PaintsIn (fun c => if c = 0 then RA else if c = 1 then GA else BA) base := fun c => by
  rcases cols3 c with rfl | rfl | rfl
  · exact ⟨_, _, _, h1⟩
  · exact ⟨_, _, _, h2⟩
  · exact ⟨_, _, _, h3⟩
theorem t_law2 (w : World) {p : Program} {loose : List Str} {mean : ExcName → Option Value} {mg mb : Str → Option Value} {h₀ : Heap} {L fa : Addr} {cd : Value} {m : Str → Option Value} {s : Shared} {Q : Flow → Shared → Prop}
  {script : List Int} {sv : List Value} {sc dP tb td hl pl rl cl : Addr} {hsh : Int} {kt : Tok} {oP o1 o2 o3 o4 o5 : Obj} {v3 v4 v5 : Option Value} {P : Col → Addr} {base : List (Addr × Obj)}
  {hs pv rv cv : List Value} {k1 k2 k3 k4 : Nat}
  (X : (Mine.hd.heap_39 w.params).In h₀) (B : Below callerA h₀ [] h₀) (F : Fr h₀ L s.heap (MapL m cl rl tb sc)) (T : Top p loose mean mg mb h₀) (hsys : h₀.get? sysModules ≠ none)
  (N : News h₀ L s.heap ((hl, listOf hs.toArray k1) :: (pl, listOf pv.toArray k2) :: (rl, listOf rv.toArray k3) :: (cl, listOf cv.toArray k4) :: base))
  (hs2 : IntsAre sv script) (hs1 : h₀.IsList sc sv.toArray)
  (hp : PairsIn base hs (st0 (script.sum.fmod 2)).rows) (hpv : IntsAre pv (st0 (script.sum.fmod 2)).nums) (hrv : IntsAre rv (numR (st0 (script.sum.fmod 2)))) (hcv : CutsIn base cv (st0 (script.sum.fmod 2)).cuts)
  (hs3 : script.length ≤ 63)
  (b1 : ∀ p ∈ base, p.1 ≠ hl) (b2 : ∀ p ∈ base, p.1 ≠ pl) (b3 : ∀ p ∈ base, p.1 ≠ rl) (b4 : ∀ p ∈ base, p.1 ≠ cl) (d1 : hl ≠ pl) (d2 : hl ≠ rl) (d3 : hl ≠ cl) (d4 : pl ≠ rl) (d5 : pl ≠ cl) (d6 : rl ≠ cl)
  (mt : (tb, instObj 169 td) ∈ base) (mtd : (td, dictOf (entO hsh kt hl) 1) ∈ base) (md : (dP, oP) ∈ base) (pd : PD PySem.Challenge.rw_pg0268_01.row.prog w oP P) (mp : PaintsIn P base) (lodP : (dP == sysModules) = false)
  (c1 : (L + 1, o1) ∈ base) (e1 : o1.data = .cell (some (.ref dP))) (c2 : (L + 1 + 1, o2) ∈ base) (e2 : o2.data = .cell (some (.ref pl))) (c3 : (L + 1 + 1 + 1, o3) ∈ base) (e3 : o3.data = .cell v3)
  (c4 : (L + 1 + 1 + 1 + 1, o4) ∈ base) (e4 : o4.data = .cell v4) (c5 : (L + 1 + 1 + 1 + 1 + 1, o5) ∈ base) (e5 : o5.data = .cell v5)
  (ret : ∀ m' h tk, Fr h₀ L h m' → Q (.ret (.bool true)) { s with heap := h, toks := tk }) :
  wpAny (model PySem.Challenge.rw_pg0268_01.row.prog w) (callerA.deeper (lawE L fa cd)) (execs at6 (lawE L fa cd)) Q (fun _ _ => False) s :=
  t_law w X B F T hsys N hp hpv hrv hcv hs1 hs2 hs3 b1 b2 b3 b4 d1 d2 d3 d4 d5 d6 mt mtd md pd mp lodP c1 e1 c2 e2 c3 e3 c4 e4 c5 e5 ret
theorem t_top : PySem.Challenge.rw_pg0268_01.Holds := by
  refine Mine.hd ?_
  k_go0
  (all_goals try k_fold)
  k_steps
  unfold Here
  refine wpAny_noRaise ?_
  rename_i scr hsS hlay0 hL1x hr1 hl2 w9 w8 sca svals w5 hLs ra w1 r0 hIs hrW hc1 hc2 K0 hD h1 tk1 cw4 cw3 cw2 cw1 cw0 le3 le2 le1 le0 ri X0 hA tkA tA hB tkB dP hC oPe lodP hdE lA RA hD1 lB GA hE1 lC BA hF1 lD hG1 oP hdP hH1 o1 e1 tkC TA hI1 lE ll5 hJ1 lF u1 TB hK1 lG ll4 hL1 lH u0 TC hM1 lI hlA hN1 lJ hO1 tkD plA hP1 lK hQ1 o2 e2 tkE rlA hR1 lL hS1 CUT hT1 lM clA hU1 lN hV1 FF NN
  rename Heap.IsList _ _ _ => hLs
  rename IntsAre _ _ => hIs
  rename Below _ _ _ _ => K0
  rename Top _ _ _ _ _ _ => TT
  rename Glob _ _ _ _ _ _ _ _ => GL
  rename Frag.In _ _ => XX
  have hsys : _root_.PySem.Heap.get? _ sysModules ≠ none := fun e => by
    obtain ⟨mm, ⟨o, es, ep, ho, _⟩, _⟩ := GL.seer.mods
    exact absurd (ho.symm.trans e) (by simp)
  have NN2 := resort NN
  have FF2 := fr_mapL FF rfl rfl rfl rfl
  refine t_law2 (o3 := ?zo3) (o4 := ?zo4) (o5 := ?zo5) (v3 := ?zv3) (v4 := ?zv4) (v5 := ?zv5) (kt := ?zkt) (hsh := ?zhsh) (td := ?ztd) (P := fun c => if c = 0 then RA else if c = 1 then GA else BA) _ XX K0 FF2 TT hsys NN2 hIs hLs ?hp ?hpv ?hrv ?hcv ?hs3 ?b1 ?b2 ?b3 ?b4 ?d1 ?d2 ?d3 ?d4 ?d5 ?d6 ?mt ?mtd ?md hdP ?mp lodP ?c1 e1 ?c2 e2 ?c3 ?e3 ?c4 ?e4 ?c5 ?e5 ?ret
  case hrv => exact .cons _ _ (.cons _ _ (.cons _ _ .nil))
  case hpv => rw [nums0 (fmod_two _)]; exact .cons _ _ (.cons _ _ (.cons _ _ .nil))
  case mt => k_mem
  case mtd => k_mem
  case md => k_mem
  case c1 => k_mem
  case c2 => k_mem
  case c3 => k_mem
  case c4 => k_mem
  case c5 => k_mem
  case e3 => assumption
  case e4 => assumption
  case e5 => assumption
  case b1 => exact (hi1 lM.2.2.2.2.1 (hi1 (Nat.lt_trans lT1.1 lT2) (hi1 lT1.1 (lo1 lJ.1 (lo1 lJ.2.1 (lo1 lJ.2.2.1 (lo1 lJ.2.2.2.1 (lo1 lJ.2.2.2.2.1 (lo1 lJ.2.2.2.2.2.1 (lo1 lJ.2.2.2.2.2.2.1 (lo1 lJ.2.2.2.2.2.2.2.1 (lo1 lJ.2.2.2.2.2.2.2.2.1 (lo1 lJ.2.2.2.2.2.2.2.2.2.1 (lo1 lJ.2.2.2.2.2.2.2.2.2.2.1 (lo1 lJ.2.2.2.2.2.2.2.2.2.2.2.1 (lo1 lJ.2.2.2.2.2.2.2.2.2.2.2.2.1 (lo1 lJ.2.2.2.2.2.2.2.2.2.2.2.2.2 nil1)))))))))))))))))
  case b2 => exact (hi1 lM.2.1 (lo1 lK.1 (lo1 lK.2.1 (lo1 lK.2.2.2.1 (lo1 lK.2.2.2.2.1 (lo1 lK.2.2.2.2.2.1 (lo1 lK.2.2.2.2.2.2.1 (lo1 lK.2.2.2.2.2.2.2.1 (lo1 lK.2.2.2.2.2.2.2.2.1 (lo1 lK.2.2.2.2.2.2.2.2.2.1 (lo1 lK.2.2.2.2.2.2.2.2.2.2.1 (lo1 lK.2.2.2.2.2.2.2.2.2.2.2.1 (lo1 lK.2.2.2.2.2.2.2.2.2.2.2.2.1 (lo1 lK.2.2.2.2.2.2.2.2.2.2.2.2.2.1 (lo1 lK.2.2.2.2.2.2.2.2.2.2.2.2.2.2.1 (lo1 lK.2.2.2.2.2.2.2.2.2.2.2.2.2.2.2.1 (lo1 lK.2.2.2.2.2.2.2.2.2.2.2.2.2.2.2.2 nil1)))))))))))))))))
  case b3 => exact (hi1 lM.1 (lo1 lL.2.1 (lo1 lL.2.2.1 (lo1 lL.2.2.2.2.1 (lo1 lL.2.2.2.2.2.1 (lo1 lL.2.2.2.2.2.2.1 (lo1 lL.2.2.2.2.2.2.2.1 (lo1 lL.2.2.2.2.2.2.2.2.1 (lo1 lL.2.2.2.2.2.2.2.2.2.1 (lo1 lL.2.2.2.2.2.2.2.2.2.2.1 (lo1 lL.2.2.2.2.2.2.2.2.2.2.2.1 (lo1 lL.2.2.2.2.2.2.2.2.2.2.2.2.1 (lo1 lL.2.2.2.2.2.2.2.2.2.2.2.2.2.1 (lo1 lL.2.2.2.2.2.2.2.2.2.2.2.2.2.2.1 (lo1 lL.2.2.2.2.2.2.2.2.2.2.2.2.2.2.2.1 (lo1 lL.2.2.2.2.2.2.2.2.2.2.2.2.2.2.2.2.1 (lo1 lL.2.2.2.2.2.2.2.2.2.2.2.2.2.2.2.2.2 nil1)))))))))))))))))
  case b4 => exact (lo1 lN.1 (lo1 lN.2.2.2.1 (lo1 lN.2.2.2.2.1 (lo1 lN.2.2.2.2.2.2.1 (lo1 lN.2.2.2.2.2.2.2.1 (lo1 lN.2.2.2.2.2.2.2.2.1 (lo1 lN.2.2.2.2.2.2.2.2.2.1 (lo1 lN.2.2.2.2.2.2.2.2.2.2.1 (lo1 lN.2.2.2.2.2.2.2.2.2.2.2.1 (lo1 lN.2.2.2.2.2.2.2.2.2.2.2.2.1 (lo1 lN.2.2.2.2.2.2.2.2.2.2.2.2.2.1 (lo1 lN.2.2.2.2.2.2.2.2.2.2.2.2.2.2.1 (lo1 lN.2.2.2.2.2.2.2.2.2.2.2.2.2.2.2.1 (lo1 lN.2.2.2.2.2.2.2.2.2.2.2.2.2.2.2.2.1 (lo1 lN.2.2.2.2.2.2.2.2.2.2.2.2.2.2.2.2.2.1 (lo1 lN.2.2.2.2.2.2.2.2.2.2.2.2.2.2.2.2.2.2.1 (lo1 lN.2.2.2.2.2.2.2.2.2.2.2.2.2.2.2.2.2.2.2 nil1)))))))))))))))))
  case d1 => exact Nat.ne_of_lt lK.2.2.1
  case d2 => exact Nat.ne_of_lt lL.2.2.2.1
  case d3 => exact Nat.ne_of_lt lN.2.2.2.2.2.1
  case d4 => exact Nat.ne_of_lt lL.1
  case d5 => exact Nat.ne_of_lt lN.2.2.1
  case d6 => exact Nat.ne_of_lt lN.2.1
  case hs3 => exact Int.ofNat_le.mp (Int.not_lt.mp hc1)
  case hcv => exact .cons CUT (0, 1, 2) _ _ _ (by k_mem) .nil
  case hp => rw [rows0, abc.1, abc.2.1, abc.2.2]; exact PairsIn.cons _ _ _ _ _ (by k_mem) (PairsIn.cons _ _ _ _ _ (by k_mem) (PairsIn.cons _ _ _ _ _ (by k_mem) PairsIn.nil))
  case mp => exact paints0 (by k_mem) (by k_mem) (by k_mem)
  case ret =>
    intro m' h tk F'
    show GoodW _ _ _ _ _ (.ok (.ret (.bool true))) _
    k_steps
end Mine
end

theorem PySem.Challenge.cw_pg0268_01_holds : PySem.Challenge.rw_pg0268_01.Holds := by
  exact Mine.t_top

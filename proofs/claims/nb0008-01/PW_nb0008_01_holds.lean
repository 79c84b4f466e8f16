import PyProof.Rows.All
import Wide.All
import OpenK.AllK
import Wide.FinOn
import PySem.Challenge.RW_nb0008_01
open PySem PySem.W PyProof.Rows
set_option Elab.async false
-- HD
section
open PySem PySem.W PyProof.Rows
namespace Mine
set_option maxRecDepth 100000 in
set_option maxHeartbeats 8000000 in
open_top hd for PySem.Challenge.rw_nb0008_01
end Mine
end
-- B0
section
open PySem PySem.W PyProof.Rows PySem.Calls PySem.Spec
set_option maxRecDepth 100000
namespace Mine
noncomputable abbrev PG : Program := PySem.Challenge.rw_nb0008_01.row.prog
/-- what the callee of any of the text's defs may lean on -/
structure Gd (w : World) (mean : ExcName → Option Value) (mg mb : Str → Option Value) (h : Heap) : Prop where
  T : Top Mine.hd.view_39 (looseW Mine.hd.view_39 []) mean mg mb h
  X : (Mine.hd.heap_39 w.params).In h
section
variable {w : World} {A : Around} {E : Value → Shared → Prop} {s : Shared} {mean : ExcName → Option Value} {mg mb : Str → Option Value} {Q : Value → Shared → Prop}
theorem Gd.keeps {h h' : Heap} (G : Gd w mean mg mb h) (k : ∀ b o, h.get? b = some o → h'.get? b = some o) : Gd w mean mg mb h' := ⟨G.T.keeps k, G.X.keeps k⟩
theorem call_pure {name qual : Str} {params : Arguments} {body : List Stmt} {scope : Scope} {dV kV doc pm cdv ct oc : Value} {an od : Option Addr} {osl : Array (Option Value)} {f : Addr} {pos : List Value} (binds : List (Str × Value))
    (G : Gd w mean mg mb s.heap) (hroom : A.depth < 900)
    (h : ∀ L h₁ tk, Fr s.heap L h₁ (fun y => binds.reverse.lookup y) → News s.heap L h₁ [] →
      wpAny (model PG w) (A.deeper (envOf qual scope L f cdv)) (execs body (envOf qual scope L f cdv)) (fun fl s' => Q (match fl with | .ret v => v | _ => .none) s') (fun _ _ => False) { s with heap := h₁, toks := tk })
    (ho : (Mine.hd.heap_39 w.params).lookup f = some ⟨oc, od, .func (fnOf name qual params body scope dV kV doc pm an cdv ct), osl⟩ := by k_is) (hcd : codeIn (Mine.hd.heap_39 w.params) cdv qual = true := by k_is)
    (hbind : BindsTo s (fnOf name qual params body scope dV kV doc pm an cdv ct) ⟨pos, []⟩ binds := by exact BindsTo.of_eq rfl) (hloc : ∀ y ∈ binds, scope.names.lookup y.1 = some .local := by exact locs rfl)
    (hcell : ∀ x ∈ scope.names, x.2 ≠ .cell := by decide) (hco : scope.isCoroutine = false := by exact rfl) (hgen : scope.isGenerator = false := by exact rfl) (hk : scope.kind = .function := by exact rfl) :
    wpAny (model PG w) A (call (.ref f) pos) Q E s := by
  refine wpAny_call ?_
  refine codeAny_call_def (fd := fnOf name qual params body scope dV kV doc pm an cdv ct) (body := body) (binds := binds) (by unfold recursionLimit; omega) (G.X _ _ ho) rfl G.T.nolimit (codeRec_of G.X hcd) rfl hbind hcell hloc (fun h₁ hns hk₁ => ?_) hco hgen hk
  exact wpAny_mono (h s.heap.objs.size h₁ _ ⟨hns, hk₁, Nat.le_refl _⟩ News.nil) (fun fl s' hl => hl) fun _ _ y => y.elim
/-- a contract: the heap only grows, the answer is as Res says -/
def Pure (w : World) (A : Around) (s : Shared) (f : Addr) (args : List Value) (Res : Value → Heap → Prop) : Prop :=
  ∀ (Q : Value → Shared → Prop) (E : Value → Shared → Prop), (∀ v h' tk', (∀ b o, s.heap.get? b = some o → h'.get? b = some o) → Res v h' → Q v { s with heap := h', toks := tk' }) → wpAny (model PG w) A (call (.ref f) args) Q E s
theorem Pure.use {f : Addr} {args : List Value} {Res : Value → Heap → Prop} {h₀ : Heap} {L : Addr} {m : Str → Option Value} {news : List (Addr × Obj)} (C : Pure w A s f args Res) (F : Fr h₀ L s.heap m) (N : News h₀ L s.heap news)
    (k : ∀ v h' tk', Fr h₀ L h' m → News h₀ L h' news → (∀ b o, s.heap.get? b = some o → h'.get? b = some o) → Res v h' → Q v { s with heap := h', toks := tk' }) : wpAny (model PG w) A (call (.ref f) args) Q E s :=
  C Q E fun v h' tk' hk hr => k v h' tk' (F.keeps hk) (N.grown hk) hk hr
end
/-- names of a frame -/
theorem exp1 {m : Str → Option Value} {x : Str} {v : Value} (h : m x = some v) : ∃ u : Str → Option Value, m = fun z => if z = x then some v else u z := by
  refine ⟨m, funext fun z => ?_⟩
  by_cases e : z = x
  · rw [if_pos e, e, h]
  · rw [if_neg e]
theorem exp2 {m : Str → Option Value} {x y : Str} {v u : Value} (h : m x = some v) (h' : m y = some u) : ∃ r : Str → Option Value, m = fun z => if z = x then some v else if z = y then some u else r z := by
  refine ⟨m, funext fun z => ?_⟩
  by_cases e : z = x
  · rw [if_pos e, e, h]
  · rw [if_neg e]
    by_cases e' : z = y
    · rw [if_pos e', e', h']
    · rw [if_neg e']
theorem exp3 {m : Str → Option Value} {x y z : Str} {v u t : Value} (h : m x = some v) (h' : m y = some u) (h'' : m z = some t) : ∃ r : Str → Option Value, m = fun a => if a = x then some v else if a = y then some u else if a = z then some t else r a := by
  refine ⟨m, funext fun a => ?_⟩
  by_cases e : a = x
  · rw [if_pos e, e, h]
  · rw [if_neg e]
    by_cases e' : a = y
    · rw [if_pos e', e', h']
    · rw [if_neg e']
      by_cases e'' : a = z
      · rw [if_pos e'', e'', h'']
      · rw [if_neg e'']
theorem lkI {m : Str → Option Value} {x : Str} {v a : Int} {t : Tok} (h : m x = some (.int v t)) (e : v = a) : ∃ t, m x = some (.int a t) := ⟨t, e ▸ h⟩
end Mine
end
-- B1
section
open PySem PySem.W PyProof.Rows PySem.Calls PySem.Spec
set_option maxRecDepth 100000
namespace Mine
theorem dummy (w : World) (h : Heap) : PySem.Challenge.rw_nb0008_01.wellSaid = true → (Mine.hd.heap_39 w.params).In h → True := by k_fill; intros; trivial
/-- a turn's end: on to the next, the ledger as it was -/
def TurnEnd (h₀ : Heap) (L : Addr) (J : (Str → Option Value) → Prop) (nw : List (Addr × Obj)) (s : Shared) (f : Flow) (s₂ : Shared) : Prop :=
  f = .next ∧ ∃ h' tk' m', s₂ = { s with heap := h', toks := tk' } ∧ Fr h₀ L h' m' ∧ News h₀ L h' nw ∧ J m'
theorem TurnEnd.intro {h₀ : Heap} {L : Addr} {J : (Str → Option Value) → Prop} {nw : List (Addr × Obj)} {s : Shared} {h' : Heap} {tk' : Nat} {m' : Str → Option Value} (F : Fr h₀ L h' m') (N : News h₀ L h' nw) (j : J m') :
    TurnEnd h₀ L J nw s .next { s with heap := h', toks := tk' } := ⟨rfl, h', tk', m', rfl, F, N, j⟩
theorem TurnEnd.intro' {h₀ : Heap} {L : Addr} {J : (Str → Option Value) → Prop} {nw nw' : List (Addr × Obj)} {s : Shared} {h' : Heap} {tk' : Nat} {m' : Str → Option Value} (F : Fr h₀ L h' m') (N : News h₀ L h' nw') (hs : ∀ p ∈ nw, p ∈ nw') (j : J m') :
    TurnEnd h₀ L J nw s .next { s with heap := h', toks := tk' } := ⟨rfl, h', tk', m', rfl, F, fun p hp => N p (hs p hp), j⟩
section
variable {w : World} {A : Around} {E : Value → Shared → Prop} {s : Shared} {env : Env} {h₀ : Heap} {x : Str} {body : List Stmt} {Q : Flow → Shared → Prop}
/-- a loop's head behind its iterable: my own word, so that the walk halts here -/
structure ForGo (w : World) (A : Around) (h₀ : Heap) (env : Env) (x : Str) (body : List Stmt) (Q : Flow → Shared → Prop) (E : Value → Shared → Prop) (xv : Value) (s₁ : Shared) : Prop where
  go : wpAny (model PG w) A (pyIter xv) (fun it s₂ => LoopAtV PG w A h₀ env x body Q E it s₂) E s₁
theorem forGo {m : Str → Option Value} {px pos : Pos} {iter : PySem.Expr} (F : Fr h₀ env.locals s.heap m) (hx : env.kindOf x = some .local)
    (hp : (env.scope.kind == .class || (env.scope.kind == .module && env.locals != env.globals)) = false)
    (h : wpAny (model PG w) A (eval iter env) (ForGo w A h₀ env x body Q E) E s)
    (hs : ∀ x, foldedSetIterable iter env x = pure x) (hE : PassesOwn (model PG w) A env E) :
    wpAny (model PG w) A (exec (.For (.Name x px) iter body [] pos) env) Q E s := For_invVF F hx hp (wpAny_mono h (fun _ _ g => g.go) fun _ _ e => e) hs hE
theorem loopAny {I : Addr} {fp wr : List Addr} {n : Nat} {P : Nat → Value → Prop} {St : Nat → Heap → Prop} {m₀ : Str → Option Value} {news : List (Addr × Obj)} (J : Nat → (Str → Option Value) → Prop)
    (W : Walks PG w A I fp wr n P St) (hLf : env.locals ∉ fp) (hwr : ∀ b ∈ wr, h₀.get? b = none) (hnw : ∀ p ∈ news, p.1 ∉ wr) (hst : St 0 s.heap) (F : Fr h₀ env.locals s.heap m₀) (N : News h₀ env.locals s.heap news) (hj : J 0 m₀)
    (turn : ∀ i v m₁ h tk nw, i < n → P i v → J i m₁ → (∀ p ∈ news, p ∈ nw) → Fr h₀ env.locals h (fun y => if y = x then some v else m₁ y) → News h₀ env.locals h nw →
      wpAny (model PG w) A (execs body env) (TurnEnd h₀ env.locals (J (i + 1)) nw s) E { s with heap := h, toks := tk })
    (done : ∀ m₁ h tk, J n m₁ → Fr h₀ env.locals h m₁ → News h₀ env.locals h news → Q .next { s with heap := h, toks := tk }) :
    LoopAtV PG w A h₀ env x body Q E (.ref I) s := by
  refine ⟨I, fp, wr, n, P, St, m₀, news, (fun i m nx => nx = news ∧ J i m), rfl, W, hLf, hwr, hnw, hst, F, N, ⟨rfl, hj⟩, ?_, ?_⟩
  · rintro i v m₁ news₁ s₁ own ⟨hh', tk', rfl⟩ hin hP ⟨rfl, hJ⟩ hoff hown _ _ _ F₁ N₁
    refine wpAny_mono (turn i v m₁ hh' tk' (own ++ news₁) hin hP hJ (fun p hp => List.mem_append.mpr (.inr hp)) F₁ N₁) (fun f s₂ p => ?_) fun _ _ e => e
    obtain ⟨rfl, h', tk, m', e, F', N', j⟩ := p
    exact .next ⟨rfl, h', tk, m', news₁, e, F', N', hoff, rfl, j⟩
  · rintro h' tk m' news' F' N' _ ⟨rfl, hJ⟩
    exact done m' h' tk hJ F' N'
theorem iterR {r : Addr} {a₀ b₀ : Int} {t₀ u₀ v₀ : Tok} {n : Nat} {m₀ : Str → Option Value} {news : List (Addr × Obj)} (J : Nat → (Str → Option Value) → Prop)
    (hh : A.handled = none) (hr : IsRange s.heap r a₀ b₀ 1 t₀ u₀ v₀) (hsmall : Builtin.Range.small a₀ b₀ 1 = true) (hn : Builtin.Range.rangeSize a₀ b₀ 1 = (n : Int)) (F : Fr h₀ env.locals s.heap m₀) (N : News h₀ env.locals s.heap news) (hj : J 0 m₀)
    (turn : ∀ (i : Nat) t m₁ h tk nw, i < n → J i m₁ → (∀ p ∈ news, p ∈ nw) → Fr h₀ env.locals h (fun y => if y = x then some (.int (a₀ + (i : Int)) t) else m₁ y) → News h₀ env.locals h nw →
      wpAny (model PG w) A (execs body env) (TurnEnd h₀ env.locals (J (i + 1)) nw s) E { s with heap := h, toks := tk })
    (done : ∀ m₁ h tk, J n m₁ → Fr h₀ env.locals h m₁ → News h₀ env.locals h news → Q .next { s with heap := h, toks := tk }) :
    ForGo w A h₀ env x body Q E (.ref r) s := by
  refine ⟨?_⟩
  refine wpAny_pyIter_range hr hsmall ?_
  have W : Walks PG w A s.heap.objs.size [s.heap.objs.size] [s.heap.objs.size] n (fun i v => i < n ∧ ∃ t, v = .int (a₀ + i * 1) t)
      (fun i h => IsRangeIter h s.heap.objs.size (a₀ + (i : Nat) * 1) ((n : Int) - (i : Nat)) 1) := (Walks.range hh _ a₀ 1 n).bound
  refine loopAny J W ?_ ?_ ?_ (by show IsRangeIter _ _ _ _ _; rw [hn]; simpa using Heap.get?_push_size _ rfl) (F.push _) (fun p hp => ⟨Heap.get?_push_of_some _ (N p hp).1, (N p hp).2⟩) hj ?_ ?_
  · intro hm
    exact absurd F.ns.lt ((List.mem_singleton.mp hm) ▸ Nat.lt_irrefl _)
  · intro b hb
    rw [List.mem_singleton.mp hb]
    exact next_is_new F
  · intro p hp hI
    exact absurd (Heap.lt_size (N p hp).1) ((List.mem_singleton.mp hI) ▸ Nat.lt_irrefl _)
  · rintro i v m₁ h tk nw hi ⟨_, t, rfl⟩ hJ hs F₁ N₁
    rw [Int.mul_one] at F₁
    exact turn i t m₁ h tk nw hi hJ hs F₁ N₁
  · exact done
/-- over a list that stands in the heap the loop begins with: the base's, or the ledger's -/
theorem iterL {l : Addr} {vs : List Value} {m₀ : Str → Option Value} {news : List (Addr × Obj)} (J : Nat → (Str → Option Value) → Prop)
    (hh : A.handled = none) (hl : LCg.SrcAt h₀ l vs.toArray news) (F : Fr h₀ env.locals s.heap m₀) (N : News h₀ env.locals s.heap news) (hj : J 0 m₀)
    (turn : ∀ (i : Nat) v m₁ h tk nw, vs[i]? = some v → J i m₁ → (∀ p ∈ news, p ∈ nw) → Fr h₀ env.locals h (fun y => if y = x then some v else m₁ y) → News h₀ env.locals h nw →
      wpAny (model PG w) A (execs body env) (TurnEnd h₀ env.locals (J (i + 1)) nw s) E { s with heap := h, toks := tk })
    (done : ∀ m₁ h tk, J vs.length m₁ → Fr h₀ env.locals h m₁ → News h₀ env.locals h news → Q .next { s with heap := h, toks := tk }) :
    ForGo w A h₀ env x body Q E (.ref l) s := by
  refine ⟨?_⟩
  have hls : s.heap.IsList l vs.toArray := hl.list F.keep N
  obtain ⟨ol, hol, _⟩ := id hls
  have hlt : l < s.heap.objs.size := Heap.lt_size hol
  have hne : l ≠ s.heap.objs.size := Nat.ne_of_lt hlt
  have hlL : l ≠ env.locals := by
    rcases hl with ⟨o, e, _⟩ | ⟨o, e, _⟩
    · exact Nat.ne_of_lt (Nat.lt_of_lt_of_le (Heap.lt_size e) F.above)
    · exact (N _ e).2.1
  refine wpAny_pyIter_list hls ?_
  have W := Walks.list (prog := PG) (w := w) hh s.heap.objs.size l hne vs.toArray
  rw [List.size_toArray] at W
  refine loopAny J W ?_ ?_ ?_ ⟨⟨_, Heap.get?_push_size _ rfl, rfl, rfl⟩, hls.at fun o e => Heap.get?_push_of_some _ e⟩ (F.push _) (fun p hp => ⟨Heap.get?_push_of_some _ (N p hp).1, (N p hp).2⟩) hj ?_ ?_
  · intro hm
    rcases List.mem_cons.mp hm with e | hm
    · exact absurd F.ns.lt (e ▸ Nat.lt_irrefl _)
    · exact hlL (List.mem_singleton.mp hm).symm
  · intro b hb
    rw [List.mem_singleton.mp hb]
    exact next_is_new F
  · intro p hp hI
    exact absurd (Heap.lt_size (N p hp).1) ((List.mem_singleton.mp hI) ▸ Nat.lt_irrefl _)
  · intro i v m₁ h tk nw hi hv hJ hs F₁ N₁
    exact turn i v m₁ h tk nw (by simpa using hv) hJ hs F₁ N₁
  · exact done
end
end Mine
end
-- B2
section
open PySem PySem.W PyProof.Rows PySem.Calls PySem.Spec
set_option maxRecDepth 100000
namespace Mine
/-- an element's end: the heap has grown alone -/
def Grown (s : Shared) (h : Heap) (R : Value → Prop) (y : Value) (s₂ : Shared) : Prop :=
  ∃ h' tk', s₂ = { s with heap := h', toks := tk' } ∧ (∀ b o, h.get? b = some o → h'.get? b = some o) ∧ R y
theorem Grown.same {s : Shared} {h : Heap} {R : Value → Prop} {y : Value} {tk : Nat} (r : R y) : Grown s h R y { s with heap := h, toks := tk } := ⟨h, tk, rfl, fun _ _ e => e, r⟩
theorem Grown.more {s : Shared} {h h' : Heap} {R : Value → Prop} {y : Value} {tk : Nat} (k : ∀ b o, h.get? b = some o → h'.get? b = some o) (r : R y) : Grown s h R y { s with heap := h', toks := tk } := ⟨h', tk, rfl, k, r⟩
section
variable {w : World} {A : Around} {E : Value → Shared → Prop} {s : Shared} {env : Env} {h₀ : Heap} {L : Addr} {m : Str → Option Value} {x : Str} {elt : PySem.Expr} {scope : Scope} {cl : List (Str × Addr)}
  {Fin : Shared → List Value → List (Addr × Obj) → Prop}
structure CompGo (w : World) (A : Around) (h₀ : Heap) (L : Addr) (m : Str → Option Value) (env : Env) (elt : PySem.Expr) (x : Str) (scope : Scope) (cl : List (Str × Addr)) (Fin : Shared → List Value → List (Addr × Obj) → Prop) (xv : Value) (s₁ : Shared) : Prop where
  go : LCg.CompSrc PG w A h₀ L m env elt x scope cl Fin xv s₁
theorem compE {iter : PySem.Expr} {px pos : Pos} {Q : Value → Shared → Prop} (F₀ : Fr h₀ L s.heap m)
    (hclos : closureFor scope env = pure cl) (hcell : ∀ y ∈ scope.names, y.2 ≠ .cell) (hkind : scope.kind = .function)
    (hnames : ∀ y ∈ scope.names, y.2 = .local → scope.names.lookup y.1 = some .local) (hx : scope.names.lookup x = some .local)
    (h : wpAny (model PG w) A (eval iter env) (CompGo w A h₀ L m env elt x scope cl (fun s₂ => LCg.FinE h₀ L m s₂ Q)) E s)
    (hs : ∀ x, foldedSetIterable iter env x = pure x) :
    wpAny (model PG w) A (eval (.ListComp elt [⟨.Name x px, iter, [], 0⟩] scope pos) env) Q E s :=
  LCg.ListComp_U F₀ hclos hcell hkind hnames hx (wpAny_mono h (fun _ _ g => g.go) fun _ _ e => e) hs
theorem compA {iter : PySem.Expr} {px py pos spos : Pos} {y : Str} {Q : Flow → Shared → Prop} (F₀ : Fr h₀ L s.heap m) (hLe : env.locals = L)
    (hsw : swapsWith (.ListComp elt [⟨.Name x px, iter, [], 0⟩] scope pos) (some (.Name y py)) spos.line env = pure true)
    (hclos : closureFor scope env = pure cl) (hcell : ∀ z ∈ scope.names, z.2 ≠ .cell) (hkind : scope.kind = .function)
    (hnames : ∀ z ∈ scope.names, z.2 = .local → scope.names.lookup z.1 = some .local) (hx : scope.names.lookup x = some .local)
    (hy : env.kindOf y = some .local) (hp : (env.scope.kind == .class || (env.scope.kind == .module && env.locals != env.globals)) = false)
    (h : wpAny (model PG w) A (eval iter env) (CompGo w A h₀ L m env elt x scope cl (fun s₂ => LCg.FinA h₀ L m s₂ y Q)) E s)
    (hs : ∀ x, foldedSetIterable iter env x = pure x) :
    wpAny (model PG w) A (exec (.Assign [.Name y py] (.ListComp elt [⟨.Name x px, iter, [], 0⟩] scope pos) spos) env) Q E s :=
  LCg.Assign_ListComp_U F₀ hLe hsw hclos hcell hkind hnames hx hy hp (wpAny_mono h (fun _ _ g => g.go) fun _ _ e => e) hs
theorem compRest {S : List (Addr × Obj) → Prop} {P : Nat → Value → Prop} {Fi : List Value → List (Addr × Obj) → Prop} {news : List (Addr × Obj)} {n : Nat} (R : Nat → Value → Prop)
    (hS : S news)
    (turn : ∀ (i : Nat) v I oI C oC D ys m₂ h tk (E' : Value → Shared → Prop), i < n → P i v → LCg.NsObj oC m₂ → m₂ x = some v → Fr h₀ L h m → News h₀ L h ((I, oI) :: (C, oC) :: (D, LCg.lst ys) :: news) →
      wpAny (model PG w) A (eval elt (compEnvC scope cl C env)) (Grown s h (R i)) E' { s with heap := h, toks := tk })
    (fin : ∀ ys : List Value, ys.length = n → (∀ i y, ys[i]? = some y → R i y) → Fi ys news) :
    LCg.CompRest PG w A h₀ L m env elt x scope cl s S P Fi n 0 [] news := by
  have key : ∀ (j i : Nat) (ys : List Value), i + j = n → ys.length = i → (∀ i y, ys[i]? = some y → R i y) → LCg.CompRest PG w A h₀ L m env elt x scope cl s S P Fi j i ys news := by
    intro j
    induction j with
    | zero =>
      intro i ys hi hl hy
      exact LCg.CompRest.zero (fin ys (by omega) hy)
    | succ j ih =>
      intro i ys hi hl hy
      refine LCg.CompRest.succ ?_
      intro v I oI C oC D m₂ h tk E' hv hC hx F N off ne
      refine wpAny_mono (turn i v I oI C oC D ys m₂ h tk E' (by omega) hv hC hx F N) (fun y s₂ hq => ?_) fun _ _ e => e
      obtain ⟨h', tk', e, hk, hr⟩ := hq
      refine ⟨h', tk', news, e, F.keeps hk, N.grown hk, off, hS, ?_⟩
      refine ih (i + 1) _ (by omega) (by simp [hl]) ?_
      intro k z hz
      rcases Nat.lt_trichotomy k ys.length with q | q | q
      · rw [List.getElem?_append_left q] at hz; exact hy k z hz
      · subst q; simp at hz; subst hz; rw [hl]; exact hr
      · rw [List.getElem?_eq_none (by simp; omega)] at hz; cases hz
  exact key n 0 [] (by omega) rfl (by simp)
theorem compR {r : Addr} {a b : Int} {t u v : Tok} {n : Nat} {news : List (Addr × Obj)} (R : Nat → Value → Prop)
    (hh : A.handled = none) (F : Fr h₀ L s.heap m) (N : News h₀ L s.heap news) (hr : IsRange s.heap r a b 1 t u v) (hsm : Builtin.Range.small a b 1 = true) (hn : Builtin.Range.rangeSize a b 1 = ((n : Nat) : Int)) (hsz : n ≤ sizeLine)
    (turn : ∀ (i : Nat) t I oI C oC D ys m₂ h tk (E' : Value → Shared → Prop), i < n → LCg.NsObj oC m₂ → m₂ x = some (.int (a + (i : Int)) t) → Fr h₀ L h m → News h₀ L h ((I, oI) :: (C, oC) :: (D, LCg.lst ys) :: news) →
      wpAny (model PG w) A (eval elt (compEnvC scope cl C env)) (Grown s h (R i)) E' { s with heap := h, toks := tk })
    (fin : ∀ g (ys : List Value), ys.length = n → (∀ i y, ys[i]? = some y → R i y) → Fin { s with heap := g } ys news) :
    CompGo w A h₀ L m env elt x scope cl Fin (.ref r) s := by
  refine ⟨LCg.CompSrc.range hh F N hr hsm hn hsz fun g => compRest (s := { s with heap := g }) R trivial ?_ (fin g)⟩
  rintro i v I oI C oC D ys m₂ h tk E' hi ⟨t, rfl⟩ hC hx F' N'
  exact turn i t I oI C oC D ys m₂ h tk E' hi hC hx F' N'
theorem compL {l : Addr} {vs : List Value} {news : List (Addr × Obj)} (R : Nat → Value → Prop)
    (hh : A.handled = none) (F : Fr h₀ L s.heap m) (N : News h₀ L s.heap news) (hl : LCg.SrcAt h₀ l vs.toArray news) (hsz : vs.length ≤ sizeLine)
    (turn : ∀ (i : Nat) v I oI C oC D ys m₂ h tk (E' : Value → Shared → Prop), vs[i]? = some v → LCg.NsObj oC m₂ → m₂ x = some v → Fr h₀ L h m → News h₀ L h ((I, oI) :: (C, oC) :: (D, LCg.lst ys) :: news) →
      wpAny (model PG w) A (eval elt (compEnvC scope cl C env)) (Grown s h (R i)) E' { s with heap := h, toks := tk })
    (fin : ∀ g (ys : List Value), ys.length = vs.length → (∀ i y, ys[i]? = some y → R i y) → Fin { s with heap := g } ys news) :
    CompGo w A h₀ L m env elt x scope cl Fin (.ref l) s := by
  refine ⟨.inl ⟨l, vs.toArray, news, rfl, hh, F, N, hl, by simpa using hsz, ?_⟩⟩
  rintro s₂ ⟨g, rfl⟩
  rw [List.size_toArray]
  refine compRest (s := { s with heap := g }) R hl ?_ (fin g)
  intro i v I oI C oC D ys m₂ h tk E' hi hv hC hx F' N'
  exact turn i v I oI C oC D ys m₂ h tk E' (by simpa using hv) hC hx F' N'
end
end Mine
end
-- B3
section
open PySem PySem.W PyProof.Rows PySem.Calls PySem.Spec
set_option maxRecDepth 100000
namespace Mine
theorem News.add {h₀ h h' : Heap} {L D : Addr} {o : Obj} {m : Str → Option Value} {news : List (Addr × Obj)} (F : Fr h₀ L h m) (N : News h₀ L h' news) (hD : h.get? D = none) (ho : h'.get? D = some o) : News h₀ L h' ((D, o) :: news) := by
  intro p hp
  rcases List.mem_cons.mp hp with rfl | hp
  · refine ⟨ho, ?_, ?_⟩
    · rintro rfl
      obtain ⟨oL, _, _, hL, _⟩ := F.ns
      rw [hD] at hL; cases hL
    · cases e : h₀.get? D with
      | none => rfl
      | some o' => have := F.keep _ _ e; rw [hD] at this; cases this
  · exact N p hp
/-- a turn that fills a list -/
def TurnEndL (h₀ : Heap) (L D : Addr) (J : (Str → Option Value) → List Value → Prop) (own : List (Addr × Obj)) (s : Shared) (f : Flow) (s₂ : Shared) : Prop :=
  f = .next ∧ ∃ h' tk' m' ys', s₂ = { s with heap := h', toks := tk' } ∧ Fr h₀ L h' m' ∧ News h₀ L h' ((D, LCg.lst ys') :: own) ∧ J m' ys'
theorem TurnEndL.intro {h₀ : Heap} {L D : Addr} {J : (Str → Option Value) → List Value → Prop} {own : List (Addr × Obj)} {s : Shared} {h' : Heap} {tk' : Nat} {m' : Str → Option Value} {ys' : List Value} (F : Fr h₀ L h' m') (N : News h₀ L h' ((D, LCg.lst ys') :: own)) (j : J m' ys') :
    TurnEndL h₀ L D J own s .next { s with heap := h', toks := tk' } := ⟨rfl, h', tk', m', ys', rfl, F, N, j⟩
section
variable {w : World} {A : Around} {E : Value → Shared → Prop} {s : Shared} {env : Env} {h₀ : Heap} {x : Str} {body : List Stmt} {Q : Flow → Shared → Prop}
theorem append_mine {D : Addr} {ys : List Value} {v : Value} {own : List (Addr × Obj)} {m : Str → Option Value} {L : Addr} {Q : Value → Shared → Prop} (F : Fr h₀ L s.heap m) (N : News h₀ L s.heap ((D, LCg.lst ys) :: own)) (hoff : ∀ p ∈ own, p.1 ≠ D) (hsz : ys.length ≤ sizeLine)
    (h : ∀ h', Fr h₀ L h' m → News h₀ L h' ((D, LCg.lst (ys ++ [v])) :: own) → Q .none { s with heap := h' }) : wpAny (model PG w) A (call (.builtin "list.append") [.ref D, v]) Q E s := by
  refine append_K (its := ys.toArray) (n := ys.length) F N (Upd.head hoff) (fun h' F' N' => h h' F' ?_) (by simpa using hsz)
  rw [← LCg.lst_snoc ys v]; exact N'
theorem iterRA {r D : Addr} {a₀ b₀ : Int} {t₀ u₀ v₀ : Tok} {n : Nat} {m₀ : Str → Option Value} {rest : List (Addr × Obj)} {ys₀ : List Value} (J : Nat → (Str → Option Value) → List Value → Prop)
    (hh : A.handled = none) (hr : IsRange s.heap r a₀ b₀ 1 t₀ u₀ v₀) (hsmall : Builtin.Range.small a₀ b₀ 1 = true) (hn : Builtin.Range.rangeSize a₀ b₀ 1 = (n : Int)) (F : Fr h₀ env.locals s.heap m₀) (N : News h₀ env.locals s.heap ((D, LCg.lst ys₀) :: rest)) (hoff : ∀ p ∈ rest, p.1 ≠ D) (hj : J 0 m₀ ys₀)
    (turn : ∀ (i : Nat) t m₁ ys h tk own, i < n → J i m₁ ys → (∀ p ∈ rest, p ∈ own) → (∀ p ∈ own, p.1 ≠ D) → Fr h₀ env.locals h (fun y => if y = x then some (.int (a₀ + (i : Int)) t) else m₁ y) → News h₀ env.locals h ((D, LCg.lst ys) :: own) →
      wpAny (model PG w) A (execs body env) (TurnEndL h₀ env.locals D (J (i + 1)) own s) E { s with heap := h, toks := tk })
    (done : ∀ m₁ ys h tk, J n m₁ ys → Fr h₀ env.locals h m₁ → News h₀ env.locals h ((D, LCg.lst ys) :: rest) → Q .next { s with heap := h, toks := tk }) :
    ForGo w A h₀ env x body Q E (.ref r) s := by
  refine ⟨?_⟩
  refine wpAny_pyIter_range hr hsmall ?_
  have W : Walks PG w A s.heap.objs.size [s.heap.objs.size] [s.heap.objs.size] n (fun i v => i < n ∧ ∃ t, v = .int (a₀ + i * 1) t)
      (fun i h => IsRangeIter h s.heap.objs.size (a₀ + (i : Nat) * 1) ((n : Int) - (i : Nat)) 1) := (Walks.range hh _ a₀ 1 n).bound
  have below : ∀ p ∈ (D, LCg.lst ys₀) :: rest, p.1 ≠ s.heap.objs.size := fun p hp => Nat.ne_of_lt (Heap.lt_size (N p hp).1)
  have hDI : D ≠ s.heap.objs.size := below _ (.head _)
  refine ⟨_, _, _, n, _, _, m₀, _, (fun i m nx => ∃ ys, nx = (D, LCg.lst ys) :: rest ∧ J i m ys), rfl, W, ?_, ?_, ?_, (by show IsRangeIter _ _ _ _ _; rw [hn]; simpa using Heap.get?_push_size _ rfl), (F.push _), (fun p hp => ⟨Heap.get?_push_of_some _ (N p hp).1, (N p hp).2⟩), ⟨ys₀, rfl, hj⟩, ?_, ?_⟩
  · intro hm
    exact absurd F.ns.lt ((List.mem_singleton.mp hm) ▸ Nat.lt_irrefl _)
  · intro b hb
    rw [List.mem_singleton.mp hb]
    exact next_is_new F
  · intro p hp hI
    exact below p hp (List.mem_singleton.mp hI)
  · rintro i v m₁ news₁ s₁ own ⟨hh', tk', rfl⟩ hin ⟨_, t, rfl⟩ ⟨ys, rfl, hJ⟩ hoff' hown _ _ _ F₁ N₁
    rw [Int.mul_one] at F₁
    refine wpAny_mono (turn i t m₁ ys hh' tk' (own ++ rest) hin hJ (fun p hp => List.mem_append.mpr (.inr hp)) ?_ F₁ ?_) (fun f s₂ p => ?_) fun _ _ e => e
    · intro p hp
      rcases List.mem_append.mp hp with hp | hp
      · rw [List.mem_singleton.mp (hown p hp)]; exact Ne.symm hDI
      · exact hoff p hp
    · intro p hp
      refine N₁ p ?_
      rcases List.mem_cons.mp hp with rfl | hp
      · exact List.mem_append.mpr (.inr (.head _))
      · rcases List.mem_append.mp hp with hp | hp
        · exact List.mem_append.mpr (.inl hp)
        · exact List.mem_append.mpr (.inr (.tail _ hp))
    · obtain ⟨rfl, h', tk, m', ys', e, F', N', j⟩ := p
      refine .next ⟨rfl, h', tk, m', (D, LCg.lst ys') :: rest, e, F', ?_, ?_, ys', rfl, j⟩
      · intro p hp
        refine N' p ?_
        rcases List.mem_append.mp hp with hp | hp
        · exact .tail _ (List.mem_append.mpr (.inl hp))
        · rcases List.mem_cons.mp hp with rfl | hp
          · exact .head _
          · exact .tail _ (List.mem_append.mpr (.inr hp))
      · intro p hp hI
        have hI := List.mem_singleton.mp hI
        rcases List.mem_cons.mp hp with rfl | hp
        · exact hDI hI
        · exact below p (.tail _ hp) hI
  · rintro h' tk m' news' F' N' _ ⟨ys, rfl, hJ⟩
    exact done m' ys h' tk hJ F' N'
end
end Mine
end
-- B4
section
open PySem PySem.W PyProof.Rows PySem.Calls PySem.Spec
set_option maxRecDepth 100000
namespace Mine
/-- a list comprehension of two clauses without tests -/
abbrev lc2 (elt : PySem.Expr) (x : Str) (px : Pos) (it1 : PySem.Expr) (y : Str) (py : Pos) (it2 : PySem.Expr) (scope : Scope) (pos : Pos) : PySem.Expr :=
  .ListComp elt [⟨.Name x px, it1, [], 0⟩, ⟨.Name y py, it2, [], 0⟩] scope pos
section
variable {elt : PySem.Expr} {x : Str} {px : Pos} {it1 : PySem.Expr} {y : Str} {py : Pos} {it2 : PySem.Expr} {scope : Scope} {pos : Pos}
theorem turn_in (it acc : Value) (env : Env) :
    compTurn (lc2 elt x px it1 y py it2 scope pos) 1 it acc env = (standAt it2.pos >>= fun _ => pyNext it >>= fun r => match r with
      | none => pure (.done .next)
      | some v => letOwnedTupleGo (.Name y py) it v >>= fun _ => assign (.Name y py) env v >>= fun _ =>
        (eval elt env >>= fun x => call (.builtin "list.append") [acc, x] >>= fun _ => pure ()) >>= fun _ =>
          again (.compLoop (lc2 elt x px it1 y py it2 scope pos) 1 it acc env)) := by rfl
theorem turn_out (it acc : Value) (env : Env) :
    compTurn (lc2 elt x px it1 y py it2 scope pos) 0 it acc env = (standAt it1.pos >>= fun _ => pyNext it >>= fun r => match r with
      | none => pure (.done .next)
      | some v => letOwnedTupleGo (.Name x px) it v >>= fun _ => assign (.Name x px) env v >>= fun _ =>
        eval it2 env >>= fun x2 => standAt it2.pos >>= fun _ => foldedSetIterable it2 env x2 >>= fun x3 => holding [x3] (pyIter x3) >>= fun i2 => runOwn (.compStart (lc2 elt x px it1 y py it2 scope pos) 1 i2 acc env) env >>= fun _ =>
          again (.compLoop (lc2 elt x px it1 y py it2 scope pos) 0 it acc env)) := by rfl
end
section
variable {w : World} {A : Around} {E : Value → Shared → Prop} {s : Shared} {env : Env} {h₀ : Heap} {L : Addr} {m : Str → Option Value}
  {elt : PySem.Expr} {x : Str} {px : Pos} {it1 : PySem.Expr} {y : Str} {py : Pos} {it2 : PySem.Expr} {scope : Scope} {pos : Pos} {cl : List (Str × Addr)} {R : Result → Shared → Prop}
theorem start_in {it acc : Value} {cenv : Env}
    (h0 : codeAny (model PG w) A (.compLoop (lc2 elt x px it1 y py it2 scope pos) 1 it acc cenv) R s)
    (h : wpAny (model PG w) A (pyIter it) (fun it' s' => codeAny (model PG w) A (.compLoop (lc2 elt x px it1 y py it2 scope pos) 1 it' acc cenv) R s')
      (notedBy (model PG w) A cenv fun x s' => R (.error x) s') s) :
    codeAny (model PG w) A (.compStart (lc2 elt x px it1 y py it2 scope pos) 1 it acc cenv) R s := by
  refine codeAny_of_tree ?_
  show wpAny _ _ ((compStart (lc2 elt x px it1 y py it2 scope pos) 1 it acc cenv).onRaise (fun x => do noteFrame x cenv; standAt theWindowsPlace)) _ _ s
  refine wpAny_notedAt ?_
  unfold compStart
  show wpAny _ _ (ask >>= _) _ _ s
  refine wpAny_bind (wpAny_askSetting (wpAny_ite ?_))
  split
  · first
      | exact wpAny_bind (wpAny_pure (wpAny_pure (And.intro rfl h0)))
      | exact wpAny_pure (And.intro rfl h0)
  · first
      | exact wpAny_bind (wpAny_rule (wpAny_bind (wpAny_standAt (wpAny_bind (wpAny_mono h (fun it' s' h' => wpAny_pure (And.intro rfl h')) fun _ _ x => x)))))
      | (refine wpAny_bind (wpAny_rule ?_); show wpAny _ _ (standAt it2.pos >>= _) _ _ s; exact wpAny_bind (wpAny_standAt (wpAny_bind (wpAny_mono h (fun it' s' h' => wpAny_pure (And.intro rfl h')) fun _ _ x => x))))
theorem snocR {R : Nat → Value → Prop} {ys : List Value} {v : Value} {i : Nat} (h : ∀ (j : Nat) (v : Value), ys[j]? = some v → R j v) (hl : ys.length = i) (hv : R i v) : ∀ (j : Nat) (u : Value), (ys ++ [v])[j]? = some u → R j u := by
  intro k z hz
  rcases Nat.lt_trichotomy k ys.length with q | q | q
  · rw [List.getElem?_append_left q] at hz; exact h k z hz
  · subst q; simp at hz; subst hz; rw [hl]; exact hv
  · rw [List.getElem?_eq_none (by simp; omega)] at hz; cases hz
theorem inner2 {I2 C D : Addr} {n : Nat} {P : Nat → Value → Prop} {St : Nat → Heap → Prop} {ys : List Value} (W : Walks PG w A I2 [I2] [I2] n P St) (Rj : Nat → Value → Prop)
    (hkind : scope.kind = .function) (hy : scope.names.lookup y = some .local) (hCD : C ≠ D) (hCI : C ≠ I2) (hDI : D ≠ I2)
    (hst : St 0 s.heap) (hD : s.heap.get? D = some (LCg.lst ys)) (hC : s.heap.Ns C m) (hlen : ys.length + n ≤ sizeLine)
    (helt : ∀ j v h tk m₂ (E' : Value → Shared → Prop), j < n → P j v → h.Ns C m₂ → m₂ y = some v → (∀ z, z ≠ y → m₂ z = m z) → (∀ b o, b ≠ C → b ≠ D → b ≠ I2 → s.heap.get? b = some o → h.get? b = some o) →
      wpAny (model PG w) A (eval elt (compEnvC scope cl C env)) (Grown s h (Rj j)) E' { s with heap := h, toks := tk })
    (done : ∀ h tk m' zs, h.Ns C m' → (∀ z, z ≠ y → m' z = m z) → zs.length = n → (∀ (j : Nat) (z : Value), zs[j]? = some z → Rj j z) → h.get? D = some (LCg.lst (ys ++ zs)) →
      (∀ b o, b ≠ C → b ≠ D → b ≠ I2 → s.heap.get? b = some o → h.get? b = some o) → R (.ok .next) { s with heap := h, toks := tk }) :
    codeAny (model PG w) A (.compLoop (lc2 elt x px it1 y py it2 scope pos) 1 (.ref I2) (.ref D) (compEnvC scope cl C env)) R s := by
  refine codeAny_loop rfl (fun k s' => ∃ h tk i zs m', s' = { s with heap := h, toks := tk } ∧ i ≤ n ∧ k = n + 1 - i ∧ zs.length = i ∧ St i h ∧ h.Ns C m' ∧ (∀ z, z ≠ y → m' z = m z) ∧ h.get? D = some (LCg.lst (ys ++ zs)) ∧
    (∀ (j : Nat) (z : Value), zs[j]? = some z → Rj j z) ∧ (∀ b o, b ≠ C → b ≠ D → b ≠ I2 → s.heap.get? b = some o → h.get? b = some o)) ?_ (n + 1)
    ⟨s.heap, s.toks, 0, [], m, rfl, Nat.zero_le _, rfl, rfl, hst, hC, fun _ _ => rfl, by simpa using hD, by simp, fun _ _ _ _ _ e => e⟩
  rintro k s' ⟨h, tk, i, zs, m', rfl, hi, rfl, hzl, hst', hC', hm', hD', hz', hk'⟩
  show wpAny _ _ ((compTurn (lc2 elt x px it1 y py it2 scope pos) 1 (.ref I2) (.ref D) (compEnvC scope cl C env)).onRaise (fun x => do noteFrame x (compEnvC scope cl C env); theTreesLotGoes x)) _ _ _
  refine wpAny_noted ?_
  rw [turn_in]
  refine wpAny_bind (wpAny_standAt (wpAny_bind ?_))
  by_cases hlt : i < n
  · refine W.item i _ _ _ hlt hst' fun v h₂ tk₂ hPv hst₂ hk₂ => ?_
    dsimp only
    have hk₂' : ∀ b o, b ≠ I2 → h.get? b = some o → h₂.get? b = some o := fun b o hb e => hk₂ b o (by simpa using hb) e
    refine wpAny_bind (wpAny_of_eq rfl ?_)
    refine wpAny_bind (wpAny_assign_Name (wpAny_storeName_local (lookup_relabel_local hy) (hC'.at' fun o e => hk₂' _ o hCI e) (fun h₃ hn₃ hs₃ => ?_) (by simp [compEnvC, relabel, hkind])))
    have hk₃ : ∀ b o, b ≠ C → h₂.get? b = some o → h₃.get? b = some o := fun b o hb e => hs₃.extBut b o hb e
    have hst₃ : St (i + 1) h₃ := W.frame _ _ _ hst₂ fun b hb o e => hk₃ b o (by rw [List.mem_singleton.mp hb]; exact Ne.symm hCI) e
    have hD₃ : h₃.get? D = some (LCg.lst (ys ++ zs)) := hk₃ D _ (Ne.symm hCD) (hk₂' D _ hDI hD')
    refine wpAny_bind (wpAny_bind (wpAny_mono (helt i v h₃ _ _ _ hlt hPv hn₃ (by simp) (fun z hz => by simp [hz, hm' z hz]) (fun b o h1 h2 h3 e => hk₃ b o h1 (hk₂' b o h3 (hk' b o h1 h2 h3 e)))) (fun u s₄ h₄ => ?_) fun _ _ e => e))
    obtain ⟨h₄, tk₄, rfl, hk₄, hr⟩ := h₄
    have hD₄ := hk₄ _ _ hD₃
    refine wpAny_bind (append_at (hsz := by rw [List.size_toArray, List.length_append, hzl]; omega) hD₄ fun h₅ hs₅ hD₅ => wpAny_pure (wpAny_pure ⟨rfl, n + 1 - (i + 1), by omega, h₅, tk₄, i + 1, zs ++ [u], (fun z => if z = y then some v else m' z), rfl, hlt, rfl, by simp [hzl], ?_, ?_, ?_, ?_, snocR hz' hzl hr, ?_⟩))
    · exact W.frame _ _ _ hst₃ fun b hb o e => hs₅.extBut b o (by rw [List.mem_singleton.mp hb]; exact Ne.symm hDI) (hk₄ b o e)
    · exact (hn₃.keeps hk₄).sameBut hs₅ hCD
    · intro z hz; simp [hz, hm' z hz]
    · rw [hD₅, LCg.lst_snoc, List.append_assoc]
    · intro b o h1 h2 h3 e
      exact hs₅.extBut b o h2 (hk₄ b o (hk₃ b o h1 (hk₂' b o h3 (hk' b o h1 h2 h3 e))))
  · obtain rfl : i = n := Nat.le_antisymm hi (Nat.not_lt.mp hlt)
    refine W.done _ _ _ hst' fun h₂ tk₂ hk₂ => wpAny_pure ?_
    have hk₂' : ∀ b o, b ≠ I2 → h.get? b = some o → h₂.get? b = some o := fun b o hb e => hk₂ b o (by simpa using hb) e
    exact done h₂ tk₂ m' zs (hC'.at' fun o e => hk₂' _ o hCI e) hm' hzl hz' (hk₂' _ _ hDI hD') fun b o h1 h2 h3 e => hk₂' b o h3 (hk' b o h1 h2 h3 e)
end
end Mine
end
-- B5
section
open PySem PySem.W PyProof.Rows PySem.Calls PySem.Spec
set_option maxRecDepth 100000
namespace Mine
section
variable {w : World} {A : Around} {E : Value → Shared → Prop} {s : Shared} {env : Env} {h₀ : Heap} {L : Addr} {m : Str → Option Value}
  {elt : PySem.Expr} {x : Str} {px : Pos} {it1 : PySem.Expr} {y : Str} {py : Pos} {it2 : PySem.Expr} {scope : Scope} {pos : Pos} {cl : List (Str × Addr)} {R : Result → Shared → Prop}
/-- what the second clause's iterable gives: range(8), new -/
def Gives8 (s : Shared) (h : Heap) (xv : Value) (s₂ : Shared) : Prop :=
  ∃ r h' tk' t u v, s₂ = { s with heap := h', toks := tk' } ∧ (∀ b o, h.get? b = some o → h'.get? b = some o) ∧ xv = .ref r ∧ IsRange h' r 0 8 1 t u v
theorem outer2 {I C D : Addr} {fp : List Addr} {n : Nat} {P : Nat → Value → Prop} {St : Nat → Heap → Prop} (W : Walks PG w A I fp [I] n P St) (Rij : Nat → Nat → Value → Prop) (hh : A.handled = none)
    (hkind : scope.kind = .function) (hx : scope.names.lookup x = some .local) (hy : scope.names.lookup y = some .local) (hxy : x ≠ y) (hCD : C ≠ D) (hCf : C ∉ fp) (hDf : D ∉ fp)
    (hst : St 0 s.heap) (hD : s.heap.get? D = some (LCg.lst [])) (hC : s.heap.Ns C m) (hlen : 8 * n ≤ sizeLine)
    (hs2 : ∀ x, foldedSetIterable it2 (compEnvC scope cl C env) x = pure x)
    (hit2 : ∀ h tk m₂ (E' : Value → Shared → Prop), h.Ns C m₂ → (∀ b o, b ≠ C → b ≠ D → b ≠ I → s.heap.get? b = some o → h.get? b = some o) →
      wpAny (model PG w) A (eval it2 (compEnvC scope cl C env)) (Gives8 s h) E' { s with heap := h, toks := tk })
    (helt : ∀ i j v t h tk m₂ (E' : Value → Shared → Prop), i < n → P i v → j < 8 → h.Ns C m₂ → m₂ x = some v → m₂ y = some (.int (j : Nat) t) → (∀ b o, b ≠ C → b ≠ D → b ≠ I → s.heap.get? b = some o → h.get? b = some o) →
      wpAny (model PG w) A (eval elt (compEnvC scope cl C env)) (Grown s h (Rij i j)) E' { s with heap := h, toks := tk })
    (done : ∀ h tk m' ys, h.Ns C m' → ys.length = 8 * n → (∀ i j z, j < 8 → ys[8 * i + j]? = some z → Rij i j z) → h.get? D = some (LCg.lst ys) →
      (∀ b o, b ≠ C → b ≠ D → b ≠ I → s.heap.get? b = some o → h.get? b = some o) → R (.ok .next) { s with heap := h, toks := tk }) :
    codeAny (model PG w) A (.compLoop (lc2 elt x px it1 y py it2 scope pos) 0 (.ref I) (.ref D) (compEnvC scope cl C env)) R s := by
  have hIf : I ∈ fp := W.sub I (List.mem_singleton.mpr rfl)
  have hCI : C ≠ I := fun e => hCf (e ▸ hIf)
  have hDI : D ≠ I := fun e => hDf (e ▸ hIf)
  refine codeAny_loop rfl (fun k s' => ∃ h tk i ys m', s' = { s with heap := h, toks := tk } ∧ i ≤ n ∧ k = n + 1 - i ∧ ys.length = 8 * i ∧ St i h ∧ h.Ns C m' ∧ h.get? D = some (LCg.lst ys) ∧
    (∀ i j z, j < 8 → ys[8 * i + j]? = some z → Rij i j z) ∧ (∀ b o, b ≠ C → b ≠ D → b ≠ I → s.heap.get? b = some o → h.get? b = some o)) ?_ (n + 1)
    ⟨s.heap, s.toks, 0, [], m, rfl, Nat.zero_le _, rfl, rfl, hst, hC, hD, by simp, fun _ _ _ _ _ e => e⟩
  rintro k s' ⟨h, tk, i, ys, m', rfl, hi, rfl, hyl, hst', hC', hD', hR', hk'⟩
  show wpAny _ _ ((compTurn (lc2 elt x px it1 y py it2 scope pos) 0 (.ref I) (.ref D) (compEnvC scope cl C env)).onRaise (fun x => do noteFrame x (compEnvC scope cl C env); theTreesLotGoes x)) _ _ _
  refine wpAny_noted ?_
  rw [turn_out]
  refine wpAny_bind (wpAny_standAt (wpAny_bind ?_))
  by_cases hlt : i < n
  · refine W.item i _ _ _ hlt hst' fun v h₂ tk₂ hPv hst₂ hk₂ => ?_
    dsimp only
    have hk₂' : ∀ b o, b ≠ I → h.get? b = some o → h₂.get? b = some o := fun b o hb e => hk₂ b o (by simpa using hb) e
    refine wpAny_bind (wpAny_of_eq rfl ?_)
    refine wpAny_bind (wpAny_assign_Name (wpAny_storeName_local (lookup_relabel_local hx) (hC'.at' fun o e => hk₂' _ o hCI e) (fun h₃ hn₃ hs₃ => ?_) (by simp [compEnvC, relabel, hkind])))
    have hk₃ : ∀ b o, b ≠ C → h₂.get? b = some o → h₃.get? b = some o := fun b o hb e => hs₃.extBut b o hb e
    have hst₃ : St (i + 1) h₃ := W.frame _ _ _ hst₂ fun b hb o e => hk₃ b o (fun q => hCf (q ▸ hb)) e
    have hD₃ : h₃.get? D = some (LCg.lst ys) := hk₃ D _ (Ne.symm hCD) (hk₂' D _ hDI hD')
    have kk₃ : ∀ b o, b ≠ C → b ≠ D → b ≠ I → s.heap.get? b = some o → h₃.get? b = some o := fun b o h1 h2 h3 e => hk₃ b o h1 (hk₂' b o h3 (hk' b o h1 h2 h3 e))
    refine wpAny_bind (wpAny_mono (hit2 h₃ _ _ _ hn₃ kk₃) (fun xv s₄ h₄ => ?_) fun _ _ e => e)
    obtain ⟨r, h₄, tk₄, t, u, v', rfl, hk₄, rfl, hr⟩ := h₄
    refine wpAny_bind (wpAny_standAt (wpAny_bind (wpAny_of_eq (hs2 _) (wpAny_bind (wpAny_holding (wpAny_pyIter_range hr (by decide) ?_))))))
    have hup : ∀ b o, h₄.get? b = some o → (h₄.push { cls := .type "range_iterator", data := .fields #[.int 0 0, .int 8 0, .int 1 0] }).get? b = some o := fun b o e => Heap.get?_push_of_some _ e
    refine wpAny_bind (wpAny_runOwn ?_)
    dsimp only
    have fresh : ∀ b o, h₄.get? b = some o → b ≠ h₄.objs.size := fun b o e => Nat.ne_of_lt (Heap.lt_size e)
    have hC₄ := hn₃.keeps hk₄
    obtain ⟨oC, _, _, heC, _⟩ := id hC₄
    have hDn : D ≠ h₄.objs.size := fresh D _ (hk₄ _ _ hD₃)
    have hCn : C ≠ h₄.objs.size := fresh C _ heC
    have W2 : Walks PG w A h₄.objs.size [h₄.objs.size] [h₄.objs.size] 8 (fun i v => ∃ t, v = .int (0 + (i : Int)) t) (fun i h => IsRangeIter h h₄.objs.size (0 + (i : Nat) * 1) ((8 : Nat) - (i : Nat)) 1) := LCg.range_walks hh 0 8
    have main : codeAny (model PG w) A (.compLoop (lc2 elt x px it1 y py it2 scope pos) 1 (.ref h₄.objs.size) (.ref D) (compEnvC scope cl C env))
        (fun r s' => match r with
          | .ok f => wpAny (model PG w) A (again (.compLoop (lc2 elt x px it1 y py it2 scope pos) 0 (.ref I) (.ref D) (compEnvC scope cl C env))) (fun fin s' => match fin with | .done f => R (.ok f) s' | .again c' => c' = (.compLoop (lc2 elt x px it1 y py it2 scope pos) 0 (.ref I) (.ref D) (compEnvC scope cl C env)) ∧ ∃ m, m < n + 1 - i ∧ ∃ h tk i ys m', s' = { s with heap := h, toks := tk } ∧ i ≤ n ∧ m = n + 1 - i ∧ ys.length = 8 * i ∧ St i h ∧ h.Ns C m' ∧ h.get? D = some (LCg.lst ys) ∧
    (∀ i j z, j < 8 → ys[8 * i + j]? = some z → Rij i j z) ∧ (∀ b o, b ≠ C → b ≠ D → b ≠ I → s.heap.get? b = some o → h.get? b = some o)) (notedBy (model PG w) A (compEnvC scope cl C env) fun e s' => R (.error e) s') s'
          | .error e => cameBackBy (model PG w) A (compEnvC scope cl C env) (notedBy (model PG w) A (compEnvC scope cl C env) fun e s' => R (.error e) s') e s')
        { s with heap := h₄.push { cls := .type "range_iterator", data := .fields #[.int 0 0, .int (Builtin.Range.rangeSize 0 8 1) 0, .int 1 0] }, toks := tk₄ } := by
      refine inner2 W2 (Rij i) hkind hy hCD hCn hDn ?_ (Heap.get?_push_of_some _ (hk₄ _ _ hD₃)) (hC₄.keeps fun b o e => Heap.get?_push_of_some _ e) (by rw [hyl]; omega) ?_ ?_
      · show IsRangeIter _ _ _ _ _
        exact Heap.get?_push_size _ rfl
      · rintro j v₁ h₅ tk₅ m₂ E' hj ⟨t₁, rfl⟩ hn₅ hmy hmz hk₅
        rw [Int.zero_add] at hmy
        refine helt i j v t₁ h₅ tk₅ m₂ E' hlt hPv hj hn₅ ((hmz x hxy).trans (by simp)) hmy fun b o h1 h2 h3 e => ?_
        have e4 := hk₄ b o (kk₃ b o h1 h2 h3 e)
        exact hk₅ b o h1 h2 (fresh b o e4) (Heap.get?_push_of_some _ e4)
      · intro h₅ tk₅ m₅ zs hn₅ hm₅ hzl hz hD₅ hk₅
        dsimp only
        refine wpAny_pure ⟨rfl, n + 1 - (i + 1), by omega, h₅, tk₅, i + 1, ys ++ zs, m₅, rfl, hlt, rfl, by simp [hyl, hzl]; omega, ?_, hn₅, hD₅, ?_, ?_⟩
        · refine W.frame _ _ _ hst₃ fun b hb o e => ?_
          have e4 := hk₄ b o e
          exact hk₅ b o (fun q => hCf (q ▸ hb)) (fun q => hDf (q ▸ hb)) (fresh b o e4) (Heap.get?_push_of_some _ e4)
        · intro i' j z hj hz'
          rcases Nat.lt_or_ge (8 * i' + j) ys.length with q | q
          · rw [List.getElem?_append_left q] at hz'; exact hR' i' j z hj hz'
          · rw [List.getElem?_append_right q] at hz'
            have hlt' : 8 * i' + j - ys.length < zs.length := by
              rcases Nat.lt_or_ge (8 * i' + j - ys.length) zs.length with a | a
              · exact a
              · rw [List.getElem?_eq_none a] at hz'; cases hz'
            have ei : i' = i := by omega
            subst ei
            have ej : 8 * i' + j - ys.length = j := by omega
            rw [ej] at hz'
            exact hz j z hz'
        · intro b o h1 h2 h3 e
          have e4 := hk₄ b o (kk₃ b o h1 h2 h3 e)
          exact hk₅ b o h1 h2 (fresh b o e4) (Heap.get?_push_of_some _ e4)
    exact start_in main (W2.self 0 _ _ _ (by show IsRangeIter _ _ _ _ _; exact Heap.get?_push_size _ rfl) main)
  · obtain rfl : i = n := Nat.le_antisymm hi (Nat.not_lt.mp hlt)
    refine W.done _ _ _ hst' fun h₂ tk₂ hk₂ => wpAny_pure ?_
    have hk₂' : ∀ b o, b ≠ I → h.get? b = some o → h₂.get? b = some o := fun b o hb e => hk₂ b o (by simpa using hb) e
    exact done h₂ tk₂ m' ys (hC'.at' fun o e => hk₂' _ o hCI e) hyl hR' (hk₂' _ _ hDI hD') fun b o h1 h2 h3 e => hk₂' b o h3 (hk' b o h1 h2 h3 e)
end
end Mine
end
-- B6
section
open PySem PySem.W PyProof.Rows PySem.Calls PySem.Spec
set_option maxRecDepth 100000
namespace Mine
section
variable {w : World} {A : Around} {E : Value → Shared → Prop} {s : Shared} {env : Env} {h₀ : Heap} {L : Addr} {m : Str → Option Value}
  {elt : PySem.Expr} {x : Str} {px : Pos} {it1 : PySem.Expr} {y : Str} {py : Pos} {it2 : PySem.Expr} {scope : Scope} {pos : Pos} {cl : List (Str × Addr)} {Q : Value → Shared → Prop}
structure Comp2Go (w : World) (A : Around) (h₀ : Heap) (L : Addr) (m : Str → Option Value) (env : Env) (elt : PySem.Expr) (x y : Str) (it2 : PySem.Expr) (scope : Scope) (cl : List (Str × Addr)) (Q : Value → Shared → Prop) (xv : Value) (s₁ : Shared) : Prop where
  go : ∃ (l : Addr) (vs : List Value) (Rij : Nat → Nat → Value → Prop), xv = .ref l ∧ A.handled = none ∧ Fr h₀ L s₁.heap m ∧ s₁.heap.IsList l vs.toArray ∧ 8 * vs.length ≤ sizeLine ∧
    (∀ C oC h tk m₂ (E' : Value → Shared → Prop), LCg.NsObj oC m₂ → Fr h₀ L h m → News h₀ L h [(C, oC)] → wpAny (model PG w) A (eval it2 (compEnvC scope cl C env)) (Gives8 s₁ h) E' { s₁ with heap := h, toks := tk }) ∧
    (∀ (i j : Nat) v t C oC h tk m₂ (E' : Value → Shared → Prop), vs[i]? = some v → j < 8 → LCg.NsObj oC m₂ → m₂ x = some v → m₂ y = some (.int (j : Nat) t) → Fr h₀ L h m → News h₀ L h [(C, oC)] →
      wpAny (model PG w) A (eval elt (compEnvC scope cl C env)) (Grown s₁ h (Rij i j)) E' { s₁ with heap := h, toks := tk }) ∧
    (∀ D h tk ys, (∀ b o, s₁.heap.get? b = some o → h.get? b = some o) → s₁.heap.get? D = none → h.get? D = some (LCg.lst ys) → ys.length = 8 * vs.length → (∀ i j z, j < 8 → ys[8 * i + j]? = some z → Rij i j z) → Q (.ref D) { s₁ with heap := h, toks := tk })
theorem comp2E (_F₀ : Fr h₀ L s.heap m) (hclos : closureFor scope env = pure cl) (hcell : ∀ y ∈ scope.names, y.2 ≠ .cell) (hkind : scope.kind = .function)
    (hnames : ∀ y ∈ scope.names, y.2 = .local → scope.names.lookup y.1 = some .local) (hx : scope.names.lookup x = some .local) (hy : scope.names.lookup y = some .local) (hxy : x ≠ y)
    (h : wpAny (model PG w) A (eval it1 env) (Comp2Go w A h₀ L m env elt x y it2 scope cl Q) E s)
    (hs1 : ∀ x, foldedSetIterable it1 env x = pure x) (hs2 : ∀ C x, foldedSetIterable it2 (compEnvC scope cl C env) x = pure x) :
    wpAny (model PG w) A (eval (lc2 elt x px it1 y py it2 scope pos) env) Q E s := by
  rw [eval_ListComp]
  refine wpAny_comprehension_free (use := none) rfl hs1 hclos hkind hnames (wpAny_mono h (fun xv s₁ h₁ => ?_) fun _ _ e => e)
  obtain ⟨l, vs, Rij, rfl, hh, F, hl, hsz, hit2, helt, fin⟩ := h₁.go
  have hlt : l < s₁.heap.objs.size := by obtain ⟨_, e, _⟩ := hl; exact Heap.lt_size e
  refine wpAny_pyIter_list hl ?_
  have up : ∀ b o, s₁.heap.get? b = some o → (s₁.heap.push { cls := .type "list_iterator", data := .fields #[.ref l, .int 0 0] }).get? b = some o := fun b o e => Heap.get?_push_of_some _ e
  have W := Walks.list (prog := PG) (w := w) hh s₁.heap.objs.size l (Nat.ne_of_lt hlt) vs.toArray
  rw [List.size_toArray] at W
  have hst : (s₁.heap.push { cls := .type "list_iterator", data := .fields #[.ref l, .int 0 0] }).IsListIter s₁.heap.objs.size l 0 ∧ (s₁.heap.push { cls := .type "list_iterator", data := .fields #[.ref l, .int 0 0] }).IsList l vs.toArray := ⟨⟨_, Heap.get?_push_size _ rfl, rfl, rfl⟩, hl.push _⟩
  generalize hH1 : s₁.heap.push { cls := .type "list_iterator", data := .fields #[.ref l, .int 0 0] } = H1 at up hst ⊢
  have hI1 : H1.objs.size = s₁.heap.objs.size + 1 := by rw [← hH1, Heap.size_push]
  refine wpAny_newObj_type (wpAny_newFunctionEnv hcell (by intro y hy; simp at hy) (fun h₁ hns₁ hsb₁ => ?_) hkind)
  dsimp only at hns₁ hsb₁ ⊢
  generalize hH2 : H1.push { cls := .type "list", dict := none, data := .seq ([] : List Value).toArray } = H2 at hns₁ hsb₁ ⊢
  have hC : H2.objs.size = H1.objs.size + 1 := by rw [← hH2, Heap.size_push]
  have hDC : H1.objs.size ≠ H2.objs.size := by rw [hC]; exact Nat.ne_of_lt (Nat.lt_succ_self _)
  have below : ∀ b, b < H1.objs.size → b ≠ H2.objs.size ∧ b ≠ H1.objs.size := fun b hb => ⟨by rw [hC]; exact Nat.ne_of_lt (Nat.lt_succ_of_lt hb), Nat.ne_of_lt hb⟩
  have below1 : ∀ b, b < s₁.heap.objs.size → b ≠ H2.objs.size ∧ b ≠ H1.objs.size ∧ b ≠ s₁.heap.objs.size := fun b hb =>
    ⟨(below b (by rw [hI1]; exact Nat.lt_succ_of_lt hb)).1, (below b (by rw [hI1]; exact Nat.lt_succ_of_lt hb)).2, Nat.ne_of_lt hb⟩
  have hfp : ∀ b ∈ [s₁.heap.objs.size, l], b < H1.objs.size := fun b hb => by
    rw [hI1]
    rcases List.mem_cons.mp hb with rfl | hb
    · exact Nat.lt_succ_self _
    · rw [List.mem_singleton.mp hb]; exact Nat.lt_succ_of_lt hlt
  have hDf : H1.objs.size ∉ [s₁.heap.objs.size, l] := fun hm => Nat.lt_irrefl _ (hfp _ hm)
  have hCf : H2.objs.size ∉ [s₁.heap.objs.size, l] := fun hm => by have := hfp _ hm; rw [hC] at this; exact Nat.lt_irrefl _ (Nat.lt_of_succ_lt this)
  have old : ∀ b o, H1.get? b = some o → h₁.get? b = some o := fun b o e => hsb₁.extBut b o (below b (Heap.lt_size e)).1 (Heap.get?_push_of_some _ (hH2 ▸ Heap.get?_push_of_some _ e))
  have hacc : h₁.get? H1.objs.size = some (LCg.lst []) := hsb₁.extBut _ _ hDC (Heap.get?_push_of_some _ (hH2 ▸ Heap.get?_push_size _ rfl))
  have hst₁ := W.frame 0 _ h₁ hst fun b _ o e => old b o e
  have fresh₁ : ∀ a, s₁.heap.objs.size ≤ a → s₁.heap.get? a = none := fun a ha => by
    cases e : s₁.heap.get? a with
    | none => rfl
    | some o' => exact absurd (Heap.lt_size e) (Nat.not_lt.mpr ha)
  have fresh₀ : ∀ a, s₁.heap.objs.size ≤ a → h₀.get? a = none := fun a ha => by
    cases e : h₀.get? a with
    | none => rfl
    | some o' => have := F.keep a o' e; rw [fresh₁ a ha] at this; cases this
  have hCge : s₁.heap.objs.size ≤ H2.objs.size := by rw [hC, hI1]; omega
  have hDge : s₁.heap.objs.size ≤ H1.objs.size := by rw [hI1]; omega
  have hCL : H2.objs.size ≠ L := Ne.symm (below1 L F.ns.lt).1
  have keepAll : ∀ h : Heap, (∀ b o, b ≠ H2.objs.size → b ≠ H1.objs.size → b ≠ s₁.heap.objs.size → h₁.get? b = some o → h.get? b = some o) → ∀ b o, s₁.heap.get? b = some o → h.get? b = some o := fun h hk b o e =>
    have q := below1 b (Heap.lt_size e)
    hk b o q.1 q.2.1 q.2.2 (old b o (up b o e))
  have news : ∀ (h : Heap) m₂, (∀ b o, s₁.heap.get? b = some o → h.get? b = some o) → h.Ns H2.objs.size m₂ → ∃ oC, LCg.NsObj oC m₂ ∧ Fr h₀ L h m ∧ News h₀ L h [(H2.objs.size, oC)] := fun h m₂ hk hn => by
    obtain ⟨oC, heC, hoC⟩ := LCg.ns_obj hn
    refine ⟨oC, hoC, F.keeps hk, fun p hp => ?_⟩
    rw [List.mem_singleton.mp hp]
    exact ⟨heC, hCL, fresh₀ _ hCge⟩
  have loop : ∀ s₃ : Shared, s₃ = { s₁ with heap := h₁, toks := s₁.toks + ([] : List (Str × Value)).length } →
      codeAny (model PG w) A (.compLoop (lc2 elt x px it1 y py it2 scope pos) 0 (.ref s₁.heap.objs.size) (.ref H1.objs.size) (compEnvC scope cl H2.objs.size env))
        (compPost (model PG w) A E none Q (.ref H1.objs.size) H2.objs.size) s₃ := by
    rintro s₃ rfl
    refine outer2 W Rij hh hkind hx hy hxy (Ne.symm hDC) hCf hDf hst₁ hacc hns₁ hsz (hs2 _) ?_ ?_ ?_
    · intro h tk m₂ E' hn hk
      obtain ⟨oC, a1, a2, a3⟩ := news h m₂ (keepAll h hk) hn
      exact hit2 _ oC h tk m₂ E' a1 a2 a3
    · intro i j v t h tk m₂ E' hi hv hj hn hmx hmy hk
      obtain ⟨oC, a1, a2, a3⟩ := news h m₂ (keepAll h hk) hn
      exact helt i j v t _ oC h tk m₂ E' (by simpa using hv) hj a1 hmx hmy a2 a3
    · intro h tk m' ys hn hyl hR hD hk
      refine ⟨m', hn, fun h'' hs'' => ?_⟩
      refine fin H1.objs.size h'' tk ys (fun b o e => hs''.extBut b o (below1 b (Heap.lt_size e)).1 (keepAll h hk b o e)) (fresh₁ _ hDge) (hs''.extBut _ _ hDC hD) hyl hR
  exact codeAny_compStart_list (loop _ rfl) (W.self 0 _ _ _ hst₁ (loop _ rfl))
end
end Mine
end
-- B7
section
open PySem PySem.W PyProof.Rows PySem.Calls PySem.Spec
set_option maxRecDepth 100000
namespace Mine
section
variable {w : World} {A : Around} {E : Value → Shared → Prop} {s : Shared} {mean : ExcName → Option Value} {mg mb : Str → Option Value} {Q : Value → Shared → Prop}
theorem call_pureC {name qual : Str} {params : Arguments} {body : List Stmt} {scope : Scope} {dV kV doc pm cdv ct oc : Value} {an od : Option Addr} {osl : Array (Option Value)} {f : Addr} {pos : List Value} (binds : List (Str × Value))
    (G : Gd w mean mg mb s.heap) (hroom : A.depth < 900)
    (h : ∀ L h₁ tk cells, Fr s.heap L h₁ (bindL (envOfC qual scope L f cdv).kindOf binds fun _ => none) → News s.heap L h₁ cells → CellsAre (bindC (envOfC qual scope L f cdv).kindOf binds fun _ => none) (cellsFrom (L + 1) scope.names []) cells →
      wpAny (model PG w) (A.deeper (envOfC qual scope L f cdv)) (execs body (envOfC qual scope L f cdv)) (fun fl s' => Q (match fl with | .ret v => v | _ => .none) s') (fun _ _ => False) { s with heap := h₁, toks := tk })
    (ho : (Mine.hd.heap_39 w.params).lookup f = some ⟨oc, od, .func (fnOf name qual params body scope dV kV doc pm an cdv ct), osl⟩ := by k_is) (hcd : codeIn (Mine.hd.heap_39 w.params) cdv qual = true := by k_is)
    (hbind : BindsTo s (fnOf name qual params body scope dV kV doc pm an cdv ct) ⟨pos, []⟩ binds := by exact BindsTo.of_eq rfl) (hkind : (binds.all fun y => scope.names.lookup y.1 == some .local || scope.names.lookup y.1 == some .cell) = true := by exact rfl)
    (hnd : ((cellsFrom 0 scope.names []).map (·.1)).Nodup := by decide) (hco : scope.isCoroutine = false := by exact rfl) (hgen : scope.isGenerator = false := by exact rfl) (hk : scope.kind = .function := by exact rfl) :
    wpAny (model PG w) A (call (.ref f) pos) Q E s := by
  refine wpAny_call ?_
  refine codeAny_call_function (by unfold recursionLimit; omega) (G.X _ _ ho) rfl hco hgen rfl (codeRec_of G.X hcd) (hbind _ _ _ _ ?_)
  refine wpAny_newFunctionEnv_cells hk (kindsX hkind _) fun env' he s' x => ?_
  subst he
  refine ⟨G.T.nolimit.keeps x.toInCall.keep, codeAny_func ?_⟩
  obtain ⟨h₁, tk, rfl, _⟩ := x.done
  have hk₁ := x.toInCall.keep
  obtain ⟨cells, NC, Y⟩ := Cl.news (h₀ := s.heap) (Nat.le_refl _) fun n c hm => ⟨x.cell n c (lookup_of_mem_nodup (cellsFrom_names scope.names 0 (s.heap.objs.size + 1) [] [] rfl ▸ hnd) hm), x.above n c hm⟩
  exact wpAny_mono (h s.heap.objs.size h₁ tk cells ⟨x.toInCall.ns, hk₁, Nat.le_refl _⟩ NC Y) (fun fl s' hl => hl) fun _ _ y => y.elim
end
/-- a turn that changes one object of the ledger -/
def TurnEndO (h₀ : Heap) (L D : Addr) (J : (Str → Option Value) → Obj → Prop) (own : List (Addr × Obj)) (s : Shared) (f : Flow) (s₂ : Shared) : Prop :=
  f = .next ∧ ∃ h' tk' m' o', s₂ = { s with heap := h', toks := tk' } ∧ Fr h₀ L h' m' ∧ News h₀ L h' ((D, o') :: own) ∧ J m' o'
theorem TurnEndO.intro {h₀ : Heap} {L D : Addr} {J : (Str → Option Value) → Obj → Prop} {own : List (Addr × Obj)} {s : Shared} {h' : Heap} {tk' : Nat} {m' : Str → Option Value} {o' : Obj} (F : Fr h₀ L h' m') (N : News h₀ L h' ((D, o') :: own)) (j : J m' o') :
    TurnEndO h₀ L D J own s .next { s with heap := h', toks := tk' } := ⟨rfl, h', tk', m', o', rfl, F, N, j⟩
section
variable {w : World} {A : Around} {E : Value → Shared → Prop} {s : Shared} {env : Env} {h₀ : Heap} {x : Str} {body : List Stmt} {Q : Flow → Shared → Prop}
theorem iterRO {r D : Addr} {a₀ b₀ : Int} {t₀ u₀ v₀ : Tok} {n : Nat} {m₀ : Str → Option Value} {rest : List (Addr × Obj)} {o₀ : Obj} (J : Nat → (Str → Option Value) → Obj → Prop)
    (hh : A.handled = none) (hr : IsRange s.heap r a₀ b₀ 1 t₀ u₀ v₀) (hsmall : Builtin.Range.small a₀ b₀ 1 = true) (hn : Builtin.Range.rangeSize a₀ b₀ 1 = (n : Int)) (F : Fr h₀ env.locals s.heap m₀) (N : News h₀ env.locals s.heap ((D, o₀) :: rest)) (hoff : ∀ p ∈ rest, p.1 ≠ D) (hj : J 0 m₀ o₀)
    (turn : ∀ (i : Nat) t m₁ o h tk own, i < n → J i m₁ o → (∀ p ∈ rest, p ∈ own) → (∀ p ∈ own, p.1 ≠ D) → Fr h₀ env.locals h (fun y => if y = x then some (.int (a₀ + (i : Int)) t) else m₁ y) → News h₀ env.locals h ((D, o) :: own) →
      wpAny (model PG w) A (execs body env) (TurnEndO h₀ env.locals D (J (i + 1)) own s) E { s with heap := h, toks := tk })
    (done : ∀ m₁ o h tk, J n m₁ o → Fr h₀ env.locals h m₁ → News h₀ env.locals h ((D, o) :: rest) → Q .next { s with heap := h, toks := tk }) :
    ForGo w A h₀ env x body Q E (.ref r) s := by
  refine ⟨?_⟩
  refine wpAny_pyIter_range hr hsmall ?_
  have W : Walks PG w A s.heap.objs.size [s.heap.objs.size] [s.heap.objs.size] n (fun i v => i < n ∧ ∃ t, v = .int (a₀ + i * 1) t)
      (fun i h => IsRangeIter h s.heap.objs.size (a₀ + (i : Nat) * 1) ((n : Int) - (i : Nat)) 1) := (Walks.range hh _ a₀ 1 n).bound
  have below : ∀ p ∈ (D, o₀) :: rest, p.1 ≠ s.heap.objs.size := fun p hp => Nat.ne_of_lt (Heap.lt_size (N p hp).1)
  have hDI : D ≠ s.heap.objs.size := below _ (.head _)
  refine ⟨_, _, _, n, _, _, m₀, _, (fun i m nx => ∃ o, nx = (D, o) :: rest ∧ J i m o), rfl, W, ?_, ?_, ?_, (by show IsRangeIter _ _ _ _ _; rw [hn]; simpa using Heap.get?_push_size _ rfl), (F.push _), (fun p hp => ⟨Heap.get?_push_of_some _ (N p hp).1, (N p hp).2⟩), ⟨o₀, rfl, hj⟩, ?_, ?_⟩
  · intro hm
    exact absurd F.ns.lt ((List.mem_singleton.mp hm) ▸ Nat.lt_irrefl _)
  · intro b hb
    rw [List.mem_singleton.mp hb]
    exact next_is_new F
  · intro p hp hI
    exact below p hp (List.mem_singleton.mp hI)
  · rintro i v m₁ news₁ s₁ own ⟨hh', tk', rfl⟩ hin ⟨_, t, rfl⟩ ⟨o, rfl, hJ⟩ hoff' hown _ _ _ F₁ N₁
    rw [Int.mul_one] at F₁
    refine wpAny_mono (turn i t m₁ o hh' tk' (own ++ rest) hin hJ (fun p hp => List.mem_append.mpr (.inr hp)) ?_ F₁ ?_) (fun f s₂ p => ?_) fun _ _ e => e
    · intro p hp
      rcases List.mem_append.mp hp with hp | hp
      · rw [List.mem_singleton.mp (hown p hp)]; exact Ne.symm hDI
      · exact hoff p hp
    · intro p hp
      refine N₁ p ?_
      rcases List.mem_cons.mp hp with rfl | hp
      · exact List.mem_append.mpr (.inr (.head _))
      · rcases List.mem_append.mp hp with hp | hp
        · exact List.mem_append.mpr (.inl hp)
        · exact List.mem_append.mpr (.inr (.tail _ hp))
    · obtain ⟨rfl, h', tk, m', o', e, F', N', j⟩ := p
      refine .next ⟨rfl, h', tk, m', (D, o') :: rest, e, F', ?_, ?_, o', rfl, j⟩
      · intro p hp
        refine N' p ?_
        rcases List.mem_append.mp hp with hp | hp
        · exact .tail _ (List.mem_append.mpr (.inl hp))
        · rcases List.mem_cons.mp hp with rfl | hp
          · exact .head _
          · exact .tail _ (List.mem_append.mpr (.inr hp))
      · intro p hp hI
        have hI := List.mem_singleton.mp hI
        rcases List.mem_cons.mp hp with rfl | hp
        · exact hDI hI
        · exact below p (.tail _ hp) hI
  · rintro h' tk m' news' F' N' _ ⟨o, rfl, hJ⟩
    exact done m' o h' tk hJ F' N'
end
section
variable {w : World} {A : Around} {E : Value → Shared → Prop} {s : Shared} {env : Env} {h₀ : Heap} {L : Addr} {m : Str → Option Value} {x : Str} {elt : PySem.Expr} {scope : Scope} {cl : List (Str × Addr)}
structure CompDGo (w : World) (A : Around) (h₀ : Heap) (L : Addr) (m : Str → Option Value) (env : Env) (elt : PySem.Expr) (x : Str) (scope : Scope) (cl : List (Str × Addr)) (Q : Value → Shared → Prop) (xv : Value) (s₁ : Shared) : Prop where
  go : ∃ (r : Addr) (a b c : Int) (t u v : Tok) (n : Nat) (news : List (Addr × Obj)) (R : Nat → Value → Prop), xv = .ref r ∧ A.handled = none ∧ Fr h₀ L s₁.heap m ∧ News h₀ L s₁.heap news ∧ IsRange s₁.heap r a b c t u v ∧ Builtin.Range.small a b c = true ∧ Builtin.Range.rangeSize a b c = (n : Int) ∧ n ≤ sizeLine ∧
    (∀ (i : Nat) t I oI C oC D ys m₂ h tk (E' : Value → Shared → Prop), i < n → LCg.NsObj oC m₂ → m₂ x = some (.int (a + (i : Int) * c) t) → Fr h₀ L h m → News h₀ L h ((I, oI) :: (C, oC) :: (D, LCg.lst ys) :: news) →
      wpAny (model PG w) A (eval elt (compEnvC scope cl C env)) (Grown s₁ h (R i)) E' { s₁ with heap := h, toks := tk }) ∧
    (∀ D h tk (ys : List Value), ys.length = n → (∀ i y, ys[i]? = some y → R i y) → Fr h₀ L h m → News h₀ L h ((D, LCg.lst ys) :: news) → Q (.ref D) { s₁ with heap := h, toks := tk })
theorem compD {iter : PySem.Expr} {px pos : Pos} {Q : Value → Shared → Prop} (F₀ : Fr h₀ L s.heap m)
    (hclos : closureFor scope env = pure cl) (hcell : ∀ y ∈ scope.names, y.2 ≠ .cell) (hkind : scope.kind = .function)
    (hnames : ∀ y ∈ scope.names, y.2 = .local → scope.names.lookup y.1 = some .local) (hx : scope.names.lookup x = some .local)
    (h : wpAny (model PG w) A (eval iter env) (CompDGo w A h₀ L m env elt x scope cl Q) E s)
    (hs : ∀ x, foldedSetIterable iter env x = pure x) :
    wpAny (model PG w) A (eval (.ListComp elt [⟨.Name x px, iter, [], 0⟩] scope pos) env) Q E s := by
  rw [eval_ListComp]
  refine wpAny_comprehension_free (use := none) rfl hs hclos hkind hnames (wpAny_mono h (fun xv s₁ h₁ => ?_) fun _ _ e => e)
  obtain ⟨r, a, b, c, t, u, v, n, news, R, rfl, hh, F, N, hr, hsm, hn, hsz, turn, fin⟩ := h₁.go
  refine wpAny_pyIter_range hr hsm ?_
  have W : Walks PG w A s₁.heap.objs.size [s₁.heap.objs.size] [s₁.heap.objs.size] n (fun i v => i < n ∧ ∃ t, v = .int (a + i * c) t)
      (fun i h => IsRangeIter h s₁.heap.objs.size (a + (i : Nat) * c) ((n : Int) - (i : Nat)) c) := (Walks.range hh _ a c n).bound
  refine LCg.block_U (S := fun _ => True) (Fin := LCg.FinE h₀ L m { s₁ with heap := s₁.heap.push { cls := .type "range_iterator", data := .fields #[.int a 0, .int (Builtin.Range.rangeSize a b c) 0, .int c 0] } } Q) W hsz (fun i h st => ⟨_, st⟩) (fun i h h' o nw st e e' _ _ _ => by
      have st' : h.get? s₁.heap.objs.size = some _ := st
      show h'.get? s₁.heap.objs.size = some _
      rw [e', ← e]; exact st') hcell hkind hx (by show IsRangeIter _ _ _ _ _; rw [hn]; simpa using Heap.get?_push_size _ rfl) (fun b hb => ?_)
      (F.keeps fun _ _ e => Heap.get?_push_of_some _ e) (News.grown N fun _ _ e => Heap.get?_push_of_some _ e) (Nat.ne_of_lt F.ns.lt) (next_is_new F) (fun p hp => Nat.ne_of_lt (Heap.lt_size (N p hp).1)) trivial ?_ ?_
  · rw [List.mem_singleton.mp hb]
    show s₁.heap.objs.size < (s₁.heap.push _).objs.size
    rw [Heap.size_push]; exact Nat.lt_succ_self _
  · refine compRest R trivial ?_ ?_
    · rintro i v I oI C oC D ys m₂ h tk E' hi ⟨_, t, rfl⟩ hC hx F' N'
      exact turn i t I oI C oC D ys m₂ h tk E' hi hC hx F' N'
    · intro ys hl hy D h tk F' N' _
      exact fin D h tk ys hl hy F' N'
  · intro D C h tk m' ys news' F' N' o1 hn hC₀ hD₀ hCL hDL hCD offC fin
    refine ⟨m', hn, fun h'' hs'' => fin D h'' tk (F'.change hs'' hCL hC₀) (fun p hp => ?_) o1⟩
    refine ⟨hs''.extBut _ _ ?_ (N' p hp).1, (N' p hp).2⟩
    rcases List.mem_cons.mp hp with rfl | hp
    · exact Ne.symm hCD
    · exact offC p hp
end
end Mine
end
-- B8
section
open PySem PySem.W PyProof.Rows PySem.Calls PySem.Spec
set_option maxRecDepth 100000
namespace Mine
theorem readsAll_bools {h : Heap} : ∀ (bs : List Bool), ReadsAll h (bs.map Value.bool) (bs.map PyData.bool) []
  | [] => .nil
  | b :: r => by
    have := ReadsAll.cons (Reads.bool (h := h) b) (readsAll_bools (h := h) r)
    simpa using this
theorem reads_bools {h : Heap} {a : Addr} {bs : List Bool} (hl : h.IsList a (bs.map Value.bool).toArray) : Reads h (.ref a) (.list (bs.map PyData.bool)) [a] := by
  obtain ⟨o, ho, hc, n, hd⟩ := hl
  exact Reads.list ho hc hd (by simpa using readsAll_bools bs)
theorem canLay_bools : ∀ bs : List Bool, PyData.canLayAll0 (bs.map PyData.bool) = true
  | [] => by simp [PyData.canLayAll0]
  | n :: r => by simp [PyData.canLayAll0, PyData.canLay0, canLay_bools r]
theorem depth_bools : ∀ bs : List Bool, PyData.depthAll (bs.map PyData.bool) ≤ 1
  | [] => by simp [PyData.depthAll]
  | n :: r => by
    have := depth_bools r
    simp only [List.map_cons, PyData.depthAll, PyData.depth]
    omega
theorem shaped_bools (bs : List Bool) : SeqAt.shaped (.list (bs.map PyData.bool)) = true := by
  have h1 := depth_bools bs
  have h2 : PyData.depth (.list (bs.map PyData.bool)) ≤ 64 := by simp only [PyData.depth]; omega
  unfold SeqAt.shaped
  rw [Bool.and_eq_true]
  exact ⟨by simp only [PyData.canLay0]; exact canLay_bools bs, decide_eq_true h2⟩
theorem eqvAll_bools : ∀ bs : List Bool, PyData.eqvAll (bs.map PyData.bool) (bs.map PyData.bool) = true
  | [] => by simp [PyData.eqvAll]
  | b :: r => by simp [PyData.eqvAll, PyData.eqv, eqvAll_bools r]
section
variable {w : World} {A : Around} {E : Value → Shared → Prop} {s : Shared} {Q : Value → Shared → Prop}
theorem ne_bools {a b : Addr} {bs : List Bool} (ha : s.heap.IsList a (bs.map Value.bool).toArray) (hb : s.heap.IsList b (bs.map Value.bool).toArray) (hu : A.units + 64 < cLine) (h : Q (.bool false) s) :
    wpAny (model PG w) A (compareOp .NotEq (.ref a) (.ref b)) Q E s :=
  ne_dataH (reads_bools ha) (reads_bools hb) (shaped_bools bs) (shaped_bools bs) hu (by simp only [PyData.eqv, eqvAll_bools]; exact h)
theorem in_trues {a : Addr} {n : Nat} (ha : s.heap.IsList a ((List.replicate n true).map Value.bool).toArray) (hu : A.units + 64 < cLine) (h : Q (.bool false) s) :
    wpAny (model PG w) A (compareOp .In (.bool false) (.ref a)) Q E s := by
  have hd := depth_bools (List.replicate n true)
  refine SeqAt.in_list_reads (reads_bools ha) (Reads.bool false) (canLay_bools _) rfl ?_ ?_
  · have := Nat.min_le_left (PyData.depthAll ((List.replicate n true).map PyData.bool)) (PyData.depth (.bool false))
    omega
  · have e : (((List.replicate n true).map PyData.bool).any fun y => PyData.eqv y (.bool false)) = false := by
      rw [List.any_eq_false]
      intro x hx
      obtain ⟨b, hb, rfl⟩ := List.mem_map.mp hx
      rw [(List.mem_replicate.mp hb).2]
      simp [PyData.eqv]
    rw [e]; exact h
theorem ne_same_ints {a b : Addr} {xs ys : List Value} {ns : List Int} (ha : s.heap.IsList a xs.toArray) (hb : s.heap.IsList b ys.toArray) (hi : IntsAre xs ns) (hj : IntsAre ys ns) (hu : A.units + 64 < cLine) (h : Q (.bool false) s) :
    wpAny (model PG w) A (compareOp .NotEq (.ref a) (.ref b)) Q E s :=
  ke_ne_ints ha hb hi hj hu (by simpa using h)
end
theorem bools_of {ys : List Value} {bs : List Bool} (hl : ys.length = bs.length) (h : ∀ (i : Nat) (y : Value), ys[i]? = some y → ∃ b, bs[i]? = some b ∧ y = .bool b) : ys = bs.map Value.bool := by
  refine List.ext_getElem? fun i => ?_
  rw [List.getElem?_map]
  rcases Nat.lt_or_ge i ys.length with q | q
  · obtain ⟨b, hb, e⟩ := h i ys[i] (by simp [q])
    rw [hb]; simp [q, e]
  · rw [List.getElem?_eq_none q, List.getElem?_eq_none (by omega)]; rfl
end Mine
end
-- F1
section
open PySem PySem.W PyProof.Rows PySem.Calls PySem.Spec
set_option maxRecDepth 100000
set_option maxHeartbeats 4000000
namespace Mine
def genBit (c : Int) : Int := if c % 2 = 1 then Builtin.bitXor (c / 2) 3988292384 else c / 2
def genN : Nat → Int → Int
  | 0, c => c
  | n + 1, c => genBit (genN n c)
/-- turned, as far as k bits -/
def turnN (number : Int) : Nat → Int
  | 0 => 0
  | k + 1 => 2 * turnN number k + (number / 2 ^ k) % 2
def restStep (rest bit : Int) : Int := if 2 * rest + bit ≥ 4294967296 then Builtin.bitXor (2 * rest + bit) 4374732215 else 2 * rest + bit
theorem shr_bit (c : Int) (i : Nat) (a : Int) : 2 * a + ((c.fdiv (2 ^ (0 + (i : Int)).toNat)).fmod 2) = 2 * a + (c / 2 ^ i) % 2 := by
  have e : (0 + (i : Int)).toNat = i := by omega
  have p : (0 : Int) ≤ 2 ^ i := Int.le_of_lt (kbt_pos i)
  rw [e, Int.fdiv_eq_ediv_of_nonneg _ p, Int.fmod_eq_emod_of_nonneg _ (by decide)]
local macro_rules | `(tactic| walk_at "exec For Name Name cons nil") => `(tactic| k_dflt (refine forGo (by assumption) (by rfl) (by rfl) ?_ (by intro _; rfl) (by intro _ _ h; exact h.elim)))
local macro_rules | `(tactic| walk_at "exec For Name Call cons nil") => `(tactic| k_dflt (refine forGo (by assumption) (by rfl) (by rfl) ?_ (by intro _; rfl) (by intro _ _ h; exact h.elim)))
section
variable {w : World} {A : Around} {E : Value → Shared → Prop} {s : Shared} {mean : ExcName → Option Value} {mg mb : Str → Option Value} {Q : Value → Shared → Prop}
theorem gen_crc_call {c : Int} {t : Tok} (G : Gd w mean mg mb s.heap) (hroom : A.depth < 900) (hh : A.handled = none) : Pure w A s 21 [.int c t] (fun v _ => ∃ t', v = .int (genN 8 c) t') := by
  intro Q E ret
  refine call_pure [(Str.ofString "crc", .int c t)] G hroom ?_
  intro L h₁ tk F N
  have T := G.T
  have KX := G.X
  k_steps
  refine iterR (n := 8) (fun i m => ∃ t, m (Str.ofString "crc") = some (.int (genN i c) t)) (by exact hh) (by assumption) (by decide) (by decide) (by assumption) (by assumption) ⟨t, rfl⟩ ?_ ?_
  · rintro i t m₁ h tk nw hi ⟨t', hm⟩ hs F N
    obtain ⟨u, rfl⟩ := exp1 hm
    k_steps
    · have hb := ‹Builtin.bitAnd (genN i c) 1 ≠ 0›
      rw [bitAnd_m1] at hb
      refine TurnEnd.intro (by assumption) (by assumption) (lkI rfl ?_)
      simp only [genN, genBit]
      rw [if_pos (by omega), Int.fdiv_eq_ediv_of_nonneg _ (by decide)]; rfl
    · have hb := ‹Builtin.bitAnd (genN i c) 1 = 0›
      rw [bitAnd_m1] at hb
      refine TurnEnd.intro (by assumption) (by assumption) (lkI rfl ?_)
      simp only [genN, genBit]
      rw [if_neg (by omega), Int.fdiv_eq_ediv_of_nonneg _ (by decide)]; rfl
  · rintro m₁ h tk ⟨t', hm⟩ F N
    obtain ⟨u, rfl⟩ := exp1 hm
    dsimp only
    k_steps
    exact ret _ _ _ F.keep ⟨_, rfl⟩
theorem turned_call {c : Int} {t : Tok} (G : Gd w mean mg mb s.heap) (hroom : A.depth < 900) (hh : A.handled = none) : Pure w A s 56 [.int c t] (fun v _ => ∃ t', v = .int (turnN c 32) t') := by
  intro Q E ret
  refine call_pure [(Str.ofString "number", .int c t)] G hroom ?_
  intro L h₁ tk F N
  have T := G.T
  have KX := G.X
  k_steps
  refine iterR (n := 32) (fun i m => m (Str.ofString "number") = some (.int c t) ∧ ∃ t, m (Str.ofString "turned") = some (.int (turnN c i) t)) (by exact hh) (by assumption) (by decide) (by decide) (by assumption) (by assumption) ⟨rfl, _, rfl⟩ ?_ ?_
  · rintro i t m₁ h tk nw hi ⟨hn, t', hm⟩ hs F N
    obtain ⟨u, rfl⟩ := exp2 hn hm
    k_steps
    refine TurnEnd.intro (by assumption) (by assumption) ⟨rfl, lkI rfl ?_⟩
    exact shr_bit c i (turnN c i)
  · rintro m₁ h tk ⟨hn, t', hm⟩ F N
    obtain ⟨u, rfl⟩ := exp2 hn hm
    dsimp only
    k_steps
    exact ret _ _ _ F.keep ⟨_, rfl⟩
theorem ctoi_int {c : Int} {t : Tok} (G : Gd w mean mg mb s.heap) (hroom : A.depth < 900) : Pure w A s 28 [.int c t] (fun v _ => ∃ t', v = .int c t') := by
  intro Q E ret
  refine call_pure [(Str.ofString "c", .int c t)] G hroom ?_
  intro L h₁ tk F N
  have T := G.T
  have KX := G.X
  k_steps
  exact ret _ _ _ F.keep ⟨_, rfl⟩
theorem ctoi_str {c : Nat} {t : Tok} (G : Gd w mean mg mb s.heap) (hroom : A.depth < 900) : Pure w A s 28 [.str ⟨#[c]⟩ t] (fun v _ => ∃ t', v = .int c t') := by
  intro Q E ret
  refine call_pure [(Str.ofString "c", .str ⟨#[c]⟩ t)] G hroom ?_
  intro L h₁ tk F N
  have T := G.T
  have KX := G.X
  k_steps
  exact ret _ _ _ F.keep ⟨_, rfl⟩
end
end Mine
end
-- F2
section
open PySem PySem.W PyProof.Rows PySem.Calls PySem.Spec
set_option maxRecDepth 100000
set_option maxHeartbeats 4000000
namespace Mine
/-- a thing: a number (false), or a sign (true), with its code -/
def ThIs (v : Value) (p : Bool × Int) : Prop := match p.1 with
  | true => ∃ t, v = .str ⟨#[p.2.toNat]⟩ t
  | false => ∃ t, v = .int p.2 t
theorem or128 {c : Int} (h0 : 0 ≤ c) (h1 : c < 128) : Builtin.bitOr c 128 = c + 128 := by
  rw [bitOr_and, bitAnd_comm, show (128 : Int) = 2 ^ 7 from rfl, bitAnd_comm, kbt_bit]
  have : c / 2 ^ 7 = 0 := by omega
  rw [this]; omega
theorem take_fold {α β : Type} {f : β → α → β} {a : β} {xs : List α} {i : Nat} {x : α} (h : xs[i]? = some x) : (xs.take (i + 1)).foldl f a = f ((xs.take i).foldl f a) x := by
  rw [List.take_add_one, h]; simp
def sumStep (crc code : Int) : Int := Builtin.bitXor (crc / 256) (genN 8 (Builtin.bitXor crc code % 256))
/-- the same, out of the walk's sight -/
structure Ints (vs : List Value) (ns : List Int) : Prop where
  are : IntsAre vs ns
theorem Ints.length {vs : List Value} {ns : List Int} (h : Ints vs ns) : vs.length = ns.length := h.are.length
theorem Ints.at {vs : List Value} {ns : List Int} (h : Ints vs ns) (i : Nat) (v : Value) (e : vs[i]? = some v) : ∃ k t, v = .int k t ∧ ns[i]? = some k := IntsAre.at h.are i v e
local macro_rules | `(tactic| walk_at "exec For Name Name cons nil") => `(tactic| k_dflt (refine forGo (by assumption) (by rfl) (by rfl) ?_ (by intro _; rfl) (by intro _ _ h; exact h.elim)))
local macro_rules | `(tactic| walk_at "exec For Name Call cons nil") => `(tactic| k_dflt (refine forGo (by assumption) (by rfl) (by rfl) ?_ (by intro _; rfl) (by intro _ _ h; exact h.elim)))
section
variable {w : World} {A : Around} {E : Value → Shared → Prop} {s : Shared} {mean : ExcName → Option Value} {mg mb : Str → Option Value} {Q : Value → Shared → Prop}
theorem ctoi_call {v : Value} {b : Bool} {c : Int} (G : Gd w mean mg mb s.heap) (hroom : A.depth < 900) (h0 : 0 ≤ c) (hv : ThIs v (b, c)) : Pure w A s 28 [v] (fun v _ => ∃ t', v = .int c t') := by
  cases b with
  | false => obtain ⟨t, rfl⟩ := hv; exact ctoi_int G hroom
  | true =>
    obtain ⟨t, rfl⟩ := hv
    have := ctoi_str (w := w) (A := A) (s := s) (c := c.toNat) (t := t) G hroom
    rwa [Int.toNat_of_nonneg h0] at this
theorem ismeta_call {v : Value} {b : Bool} {c : Int} (G : Gd w mean mg mb s.heap) (hroom : A.depth < 890) (h0 : 0 ≤ c) (hv : ThIs v (b, c)) : Pure w A s 35 [v] (fun v _ => v = .bool (decide (c > 127))) := by
  intro Q E ret
  refine call_pure [(Str.ofString "c", v)] G (by omega) ?_
  intro L h₁ tk F N
  have T := G.T
  have KX := G.X
  k_steps
  refine (ctoi_call (G.keeps (Fr.keep (by assumption))) (show _ + 1 < _ by omega) h0 hv).use (by assumption) (by assumption) ?_
  rintro _ h' tk' F' N' - ⟨t', rfl⟩
  k_steps
  exact ret _ _ _ F'.keep rfl
theorem alt_call {v : Value} {b : Bool} {c : Int} (G : Gd w mean mg mb s.heap) (hroom : A.depth < 890) (h0 : 0 ≤ c) (h1 : c < 128) (hv : ThIs v (b, c)) : Pure w A s 42 [v] (fun v _ => ThIs v (b, c + 128)) := by
  intro Q E ret
  refine call_pure [(Str.ofString "c", v)] G (by omega) ?_
  intro L h₁ tk F N
  have T := G.T
  have KX := G.X
  have hor : Builtin.bitOr c 128 = c + 128 := or128 h0 h1
  cases b with
  | false =>
    have hv' := hv
    obtain ⟨t, rfl⟩ := hv
    k_steps
    refine (ctoi_call (G.keeps (Fr.keep (by assumption))) (show _ + 1 < _ by omega) h0 hv').use (by assumption) (by assumption) ?_
    rintro _ h' tk' F' N' - ⟨t', rfl⟩
    k_steps
    exact ret _ _ _ F'.keep ⟨_, by rw [hor]⟩
  | true =>
    have hv' := hv
    obtain ⟨t, rfl⟩ := hv
    k_steps
    refine (ctoi_call (G.keeps (Fr.keep (by assumption))) (show _ + 1 < _ by omega) h0 hv').use (by assumption) (by assumption) ?_
    rintro _ h' tk' F' N' - ⟨t', rfl⟩
    k_steps
    exact ret _ _ _ F'.keep ⟨_, by rw [hor]⟩
theorem rest_call {l : Addr} {vs : List Value} {ns : List Int} (G : Gd w mean mg mb s.heap) (hroom : A.depth < 900) (hh : A.handled = none) (hl : s.heap.IsList l vs.toArray) (hi : Ints vs ns) : Pure w A s 49 [.ref l] (fun v _ => ∃ t', v = .int (ns.foldl restStep 0) t') := by
  intro Q E ret
  refine call_pure [(Str.ofString "bits", .ref l)] G (by omega) ?_
  intro L h₁ tk F N
  have T := G.T
  have KX := G.X
  k_steps
  refine iterL (fun i m => ∃ t, m (Str.ofString "rest") = some (.int ((ns.take i).foldl restStep 0) t)) (by exact hh) (.inl hl) (by assumption) (by assumption) ⟨_, rfl⟩ ?_ ?_
  · rintro i v m₁ h tk nw hv ⟨t', hm⟩ hs F N
    obtain ⟨u, rfl⟩ := exp1 hm
    obtain ⟨k, t, rfl, hk⟩ := Ints.at hi i v hv
    rw [take_fold hk]
    k_steps
    · have hb := ‹(_ : Int) ≤ _›
      refine TurnEnd.intro (by assumption) (by assumption) (lkI rfl ?_)
      exact (if_pos hb).symm
    · refine TurnEnd.intro (by assumption) (by assumption) (lkI rfl ?_)
      exact (if_neg (by omega)).symm
  · rintro m₁ h tk ⟨t', hm⟩ F N
    rw [hi.length, List.take_length] at hm
    obtain ⟨u, rfl⟩ := exp1 hm
    dsimp only
    k_steps
    exact ret _ _ _ F.keep ⟨_, rfl⟩
theorem sum_call {l : Addr} {vs : List Value} {ns : List Int} (G : Gd w mean mg mb s.heap) (hroom : A.depth < 890) (hh : A.handled = none) (hl : s.heap.IsList l vs.toArray) (hi : Ints vs ns) : Pure w A s 80 [.ref l] (fun v _ => ∃ t', v = .int (Builtin.bitXor (ns.foldl sumStep 4294967295) 4294967295) t') := by
  intro Q E ret
  refine call_pure [(Str.ofString "codes", .ref l)] G (by omega) ?_
  intro L h₁ tk F N
  have T := G.T
  have KX := G.X
  k_steps
  refine iterL (fun i m => ∃ t, m (Str.ofString "crc") = some (.int ((ns.take i).foldl sumStep 4294967295) t)) (by exact hh) (.inl hl) (by assumption) (by assumption) ⟨_, rfl⟩ ?_ ?_
  · rintro i v m₁ h tk nw hv ⟨t', hm⟩ hs F N
    obtain ⟨u, rfl⟩ := exp1 hm
    obtain ⟨k, t, rfl, hk⟩ := Ints.at hi i v hv
    rw [take_fold hk]
    k_steps
    refine (gen_crc_call (G.keeps (Fr.keep (by assumption))) (show _ + 1 < _ by omega) (by exact hh)).use (by assumption) (by assumption) ?_
    rintro _ h' tk' F' N' - ⟨t', rfl⟩
    k_steps
    refine TurnEnd.intro (by assumption) (by assumption) (lkI rfl ?_)
    unfold sumStep
    rw [bitAnd_m8, Int.fdiv_eq_ediv_of_nonneg _ (by decide)]; rfl
  · rintro m₁ h tk ⟨t', hm⟩ F N
    rw [hi.length, List.take_length] at hm
    obtain ⟨u, rfl⟩ := exp1 hm
    dsimp only
    k_steps
    exact ret _ _ _ F.keep ⟨_, rfl⟩
end
end Mine
end
-- F3
section
open PySem PySem.W PyProof.Rows PySem.Calls PySem.Spec
set_option maxRecDepth 100000
set_option maxHeartbeats 4000000
namespace Mine
/-- the values of a list of things -/
structure Ths (vs : List Value) (ps : List (Bool × Int)) : Prop where
  len : vs.length = ps.length
  at' : ∀ (i : Nat) (v : Value), vs[i]? = some v → ∃ p, ps[i]? = some p ∧ ThIs v p
theorem Ints.of {vs : List Value} {ns : List Int} (hl : vs.length = ns.length) (h : ∀ (i : Nat) (v : Value), vs[i]? = some v → ∃ k t, ns[i]? = some k ∧ v = .int k t) : Ints vs ns := by
  refine ⟨?_⟩
  induction vs generalizing ns with
  | nil => cases ns with
    | nil => exact .nil
    | cons => simp at hl
  | cons v vs ih => cases ns with
    | nil => simp at hl
    | cons n ns =>
      obtain ⟨k, t, e, rfl⟩ := h 0 v rfl
      simp at e; subst e
      exact .cons n t (ih (by simpa using hl) fun i v hv => h (i + 1) v (by simpa using hv))
local macro_rules | `(tactic| walk_at "eval ListComp") => `(tactic| k_dflt (refine compE (by assumption) (by with_unfolding_all rfl) (by decide) (by rfl) (by decide) (by rfl) ?_ (by intro _; rfl)))
section
variable {w : World} {A : Around} {E : Value → Shared → Prop} {s : Shared} {mean : ExcName → Option Value} {mg mb : Str → Option Value} {Q : Value → Shared → Prop}
theorem codes_call {l : Addr} {vs : List Value} {ps : List (Bool × Int)} (G : Gd w mean mg mb s.heap) (hroom : A.depth < 890) (hh : A.handled = none) (hl : s.heap.IsList l vs.toArray) (hi : Ths vs ps) (h0 : ∀ p ∈ ps, 0 ≤ p.2) (hsz : vs.length ≤ 100) :
    Pure w A s 68 [.ref l] (fun v h => ∃ D ys, v = .ref D ∧ h.get? D = some (LCg.lst ys) ∧ s.heap.get? D = none ∧ Ints ys (ps.map (·.2))) := by
  intro Q E ret
  refine call_pure [(Str.ofString "things", .ref l)] G (by omega) ?_
  intro L h₁ tk F N
  have T := G.T
  have KX := G.X
  k_steps
  refine compL (fun i y => ∃ p t, ps[i]? = some p ∧ y = .int p.2 t) (by exact hh) (by assumption) (by assumption) (.inl hl) (by rw [sizeLine_eq]; omega) ?_ ?_
  · intro i v I oI C oC D ys m₂ h tk E' hv hC hx F' N'
    obtain ⟨⟨b, c⟩, hp, ht⟩ := hi.at' i v hv
    have hc := h0 _ (List.mem_of_getElem? hp)
    cases b with
    | false =>
      obtain ⟨t, rfl⟩ := ht
      k_steps
      exact Grown.same ⟨_, _, hp, rfl⟩
    | true =>
      obtain ⟨t, rfl⟩ := ht
      k_steps
      exact Grown.same ⟨_, _, hp, by rw [Int.toNat_of_nonneg hc]⟩
  · intro g ys hlen hys D h tk F' N' _
    dsimp only
    refine ret _ _ _ F'.keep ⟨D, ys, rfl, (N' _ (.head _)).1, (N' _ (.head _)).2.2, Ints.of (by simp [hlen, hi.len]) ?_⟩
    intro i v hv
    obtain ⟨p, t, hp, rfl⟩ := hys i v hv
    exact ⟨p.2, t, by simp [hp], rfl⟩
end
end Mine
end
-- F4
section
open PySem PySem.W PyProof.Rows PySem.Calls PySem.Spec
set_option maxRecDepth 100000
set_option maxHeartbeats 4000000
namespace Mine
def numAt (ns : List Int) (k : Nat) : Int := if k + 2 < ns.length then 65 + (k : Int) + ns.getD (k + 2) 0 else 65 + (k : Int)
def thingAt (ns : List Int) (k : Nat) : Bool × Int := (if numAt ns k % 2 = 1 then false else true, numAt ns k / 2 % 128)
theorem ths_snoc {f : Nat → Bool × Int} {ys : List Value} {v : Value} {i : Nat} (h : ∀ (j : Nat) (v : Value), ys[j]? = some v → ThIs v (f j)) (hl : ys.length = i) (hv : ThIs v (f i)) : ∀ (j : Nat) (u : Value), (ys ++ [v])[j]? = some u → ThIs u (f j) := by
  intro k z hz
  rcases Nat.lt_trichotomy k ys.length with q | q | q
  · rw [List.getElem?_append_left q] at hz; exact h k z hz
  · subst q; simp at hz; subst hz; rw [hl]; exact hv
  · rw [List.getElem?_eq_none (by simp; omega)] at hz; cases hz
theorem th_int {ns : List Int} {i : Nat} {n : Int} {t : Tok} (hn : n = numAt ns i) (h : n.fmod 2 = 1) : ThIs (.int ((n.fdiv 2).fmod 128) t) (thingAt ns i) := by
  rw [Int.fmod_eq_emod_of_nonneg _ (by decide)] at h
  unfold ThIs thingAt
  rw [← hn, if_pos h]
  exact ⟨t, by rw [Int.fmod_eq_emod_of_nonneg _ (by decide), Int.fdiv_eq_ediv_of_nonneg _ (by decide)]⟩
theorem th_str {ns : List Int} {i : Nat} {n : Int} {t : Tok} (hn : n = numAt ns i) (h : n.fmod 2 ≠ 1) : ThIs (.str ⟨#[((n.fdiv 2).fmod 128).toNat]⟩ t) (thingAt ns i) := by
  rw [Int.fmod_eq_emod_of_nonneg _ (by decide)] at h
  unfold ThIs thingAt
  rw [← hn, if_neg h]
  exact ⟨t, by rw [Int.fmod_eq_emod_of_nonneg _ (by decide), Int.fdiv_eq_ediv_of_nonneg _ (by decide)]⟩
theorem num_in {ns : List Int} {i : Nat} (h : 0 + (i : Int) + 2 < (ns.length : Int)) : 65 + (0 + (i : Int)) + ns.getD (0 + (i : Int) + 2).toNat 0 = numAt ns i := by
  unfold numAt
  rw [if_pos (by omega), show (0 + (i : Int) + 2).toNat = i + 2 by omega]; omega
theorem num_out {ns : List Int} {i : Nat} (h : ¬ 0 + (i : Int) + 2 < (ns.length : Int)) : 65 + (0 + (i : Int)) = numAt ns i := by
  unfold numAt
  rw [if_neg (by omega)]; omega
local macro_rules | `(tactic| walk_at "call builtin:list.append") => `(tactic| (k_dflt (refine append_mine (by assumption) (by assumption) (by assumption) (by rw [sizeLine_eq]; omega) ?_); intro h' F' N'))
local macro_rules | `(tactic| walk_at "exec For Name Name cons nil") => `(tactic| k_dflt (refine forGo (by assumption) (by rfl) (by rfl) ?_ (by intro _; rfl) (by intro _ _ h; exact h.elim)))
local macro_rules | `(tactic| walk_at "exec For Name Call cons nil") => `(tactic| k_dflt (refine forGo (by assumption) (by rfl) (by rfl) ?_ (by intro _; rfl) (by intro _ _ h; exact h.elim)))
section
variable {w : World} {A : Around} {E : Value → Shared → Prop} {s : Shared} {mean : ExcName → Option Value} {mg mb : Str → Option Value} {Q : Value → Shared → Prop}
theorem things_call {l : Addr} {vs : List Value} {ns : List Int} (G : Gd w mean mg mb s.heap) (hroom : A.depth < 890) (hh : A.handled = none) (hl : s.heap.IsList l vs.toArray) (hi : Ints vs ns) (hsz : ns.length ≤ 63) :
    Pure w A s 63 [.ref l] (fun v h => ∃ D ys, v = .ref D ∧ h.get? D = some (LCg.lst ys) ∧ s.heap.get? D = none ∧ Ths ys ((List.range 36).map (thingAt ns))) := by
  intro Q E ret
  refine call_pure [(Str.ofString "script", .ref l)] G (by omega) ?_
  intro L h₁ tk F N
  have T := G.T
  have KX := G.X
  k_steps
  rename_i D _ _ _ _ _ _ _ _ _ _ _ _ _ _
  refine iterRA (n := 36) (ys₀ := []) (rest := []) (fun i m ys => m (Str.ofString "script") = some (.ref l) ∧ m (Str.ofString "things") = some (.ref D) ∧ ys.length = i ∧ ∀ (j : Nat) (v : Value), ys[j]? = some v → ThIs v (thingAt ns j)) (by exact hh) (by assumption) (by decide) (by decide) (by assumption) (by assumption) (by simp) ⟨rfl, rfl, rfl, by simp⟩ ?_ ?_
  · rintro i t m₁ ys h tk own hi' ⟨hms, hmt, hlen, hys⟩ hs hoff F N
    obtain ⟨u, rfl⟩ := exp2 hms hmt
    have hI := hi.are
    k_steps
    · exact TurnEndL.intro (by assumption) (by assumption) ⟨rfl, rfl, by simp [hlen], ths_snoc hys hlen (th_int (num_in (by assumption)) (by assumption))⟩
    · exact TurnEndL.intro (by assumption) (by assumption) ⟨rfl, rfl, by simp [hlen], ths_snoc hys hlen (th_str (num_in (by assumption)) (by assumption))⟩
    · exact TurnEndL.intro (by assumption) (by assumption) ⟨rfl, rfl, by simp [hlen], ths_snoc hys hlen (th_int (num_out (by assumption)) (by assumption))⟩
    · exact TurnEndL.intro (by assumption) (by assumption) ⟨rfl, rfl, by simp [hlen], ths_snoc hys hlen (th_str (num_out (by assumption)) (by assumption))⟩
  · rintro m₁ ys h tk ⟨hms, hmt, hlen, hys⟩ F N
    obtain ⟨u, rfl⟩ := exp2 hms hmt
    k_steps
    refine ret _ _ _ F.keep ⟨D, ys, rfl, (N _ (.head _)).1, (N _ (.head _)).2.2, by simp [hlen], ?_⟩
    intro i v hv
    have hi36 : i < 36 := by
      rcases Nat.lt_or_ge i ys.length with q | q
      · omega
      · rw [List.getElem?_eq_none q] at hv; cases hv
    exact ⟨thingAt ns i, by simp [hi36], hys i v hv⟩
end
end Mine
end
-- F5
section
open PySem PySem.W PyProof.Rows PySem.Calls PySem.Spec
set_option maxRecDepth 100000
set_option maxHeartbeats 1000000
namespace Mine
local macro_rules | `(tactic| walk_at "eval ListComp") => `(tactic| ((with_reducible show wpAny _ _ (eval (PySem.Expr.ListComp _ [_] _ _) _) _ _ _); k_dflt (refine compE (by assumption) (by with_unfolding_all rfl) (by decide) (by rfl) (by decide) (by rfl) ?_ (by intro _; rfl))))
local macro_rules | `(tactic| walk_at "eval ListComp") => `(tactic| ((with_reducible show wpAny _ _ (eval (PySem.Expr.ListComp _ [_, _] _ _) _) _ _ _); k_dflt (refine comp2E (by assumption) (by with_unfolding_all rfl) (by decide) (by rfl) (by decide) (by rfl) (by rfl) (by decide +kernel) ?_ (by intro _; rfl) (by intro _ _; rfl))))
theorem News.isL {h₀ h : Heap} {L a : Addr} {news : List (Addr × Obj)} {its : Array Value} {n : Nat} (N : News h₀ L h news) (hm : (a, W.listOf its n) ∈ news) : h.IsList a its := ⟨_, (N _ hm).1, rfl, _, rfl⟩
section
variable {w : World} {A : Around} {E : Value → Shared → Prop} {s : Shared} {mean : ExcName → Option Value} {mg mb : Str → Option Value} {Q : Value → Shared → Prop}
def bitsR (ns : List Int) : List Int := (List.range (8 * ns.length)).map fun k => (ns.getD (k / 8) 0 / 2 ^ (k % 8)) % 2
def plainBits (ns : List Int) : List Int := (List.take 32 (bitsR ns ++ (List.replicate 32 [0]).flatten)).map (fun k => 1 - k) ++ List.drop 32 (bitsR ns ++ (List.replicate 32 [0]).flatten)
def plainZ (ns : List Int) : Int := Builtin.bitXor (turnN ((plainBits ns).foldl restStep 0) 32) 4294967295
theorem ints_bits {ys : List Value} {ns : List Int} {n : Nat} (hn : ns.length = n) (hl : ys.length = 8 * n) (h : ∀ (i j : Nat) (z : Value), j < 8 → ys[8 * i + j]? = some z → ∃ c t, ns[i]? = some c ∧ z = .int ((c / 2 ^ j) % 2) t) : Ints ys (bitsR ns) := by
  subst hn
  refine Ints.of (by simp [bitsR, hl]) ?_
  intro k z hz
  have hk : k < 8 * ns.length := by
    rcases Nat.lt_or_ge k ys.length with q | q
    · omega
    · rw [List.getElem?_eq_none q] at hz; cases hz
  obtain ⟨c, t, hc, rfl⟩ := h (k / 8) (k % 8) z (by omega) (by rw [show 8 * (k / 8) + k % 8 = k by omega]; exact hz)
  refine ⟨_, t, ?_, rfl⟩
  simp [bitsR, hk, List.getD_eq_getElem?_getD, hc]
theorem bit_val (c : Int) (j : Nat) : (c.fdiv (2 ^ ((j : Nat) : Int).toNat)).fmod 2 = (c / 2 ^ j) % 2 := by
  have p : (0 : Int) ≤ 2 ^ j := Int.le_of_lt (kbt_pos j)
  rw [Int.toNat_natCast, Int.fdiv_eq_ediv_of_nonneg _ p, Int.fmod_eq_emod_of_nonneg _ (by decide)]
theorem plain_call {l : Addr} {vs : List Value} {ns : List Int} (G : Gd w mean mg mb s.heap) (hroom : A.depth < 890) (hh : A.handled = none) (hl : s.heap.IsList l vs.toArray) (hi : Ints vs ns) (hsz : ns.length = 36) :
    Pure w A s 73 [.ref l] (fun v _ => ∃ t, v = .int (plainZ ns) t) := by
  intro Q E ret
  refine call_pure [(Str.ofString "codes", .ref l)] G (by omega) ?_
  intro L h₁ tk F N
  have T := G.T
  have KX := G.X
  k_steps
  refine ⟨l, vs, fun i j z => ∃ c t, ns[i]? = some c ∧ z = .int ((c / 2 ^ j) % 2) t, rfl, hh, F, hl.at (F.keep l), ?_, ?_, ?_, ?_⟩
  · rw [hi.length, hsz, sizeLine_eq]; decide
  · intro C oC h tk m₂ E' hC F' N'
    k_steps
    exact ⟨_, _, _, _, _, _, rfl, by assumption, rfl, by assumption⟩
  · intro i j v t C oC h tk m₂ E' hv hj hC hmx hmy F' N'
    obtain ⟨k, t, rfl, hk⟩ := Ints.at hi i v hv
    k_steps
    exact Grown.same ⟨k, _, hk, by rw [bit_val]⟩
  · intro D h tk ys hk hD hDo hyl hR
    have F' := F.keeps hk
    have N' := News.add F (News.grown N hk) hD hDo
    have hI : IntsAre ys (bitsR ns) := (ints_bits (by rw [hsz]) (by rw [hyl, hi.length, hsz]) hR).are
    have hlb : (bitsR ns).length = 288 := by simp [bitsR, hsz]
    have hly : ys.length = 288 := by rw [hyl, hi.length, hsz]
    k_steps
    rename IntsAre _ (List.take 32 _) => hI2
    rename Fr _ _ _ _ => F2
    rename News _ _ _ _ => N2
    have hlen2 := hI2.length
    refine compL (fun i y => ∃ k t, (List.take 32 (bitsR ns ++ (List.replicate 32 [0]).flatten))[i]? = some k ∧ y = .int (1 - k) t) (by exact hh) F2 N2 (.inr ⟨_, by k_mem, rfl, _, rfl⟩) (by rw [hlen2, sizeLine_eq]; simp <;> omega) ?_ ?_
    · intro i v I oI C oC D ys m₂ h tk E' hv hC hx F' N'
      obtain ⟨k, t, rfl, hk⟩ := IntsAre.at hI2 i v hv
      k_steps
      exact Grown.same ⟨k, _, hk, rfl⟩
    · intro g ys2 hlen hys D2 h2 tk2 F' N' _
      have hI3 : IntsAre ys2 ((List.take 32 (bitsR ns ++ (List.replicate 32 [0]).flatten)).map fun k => 1 - k) := (Ints.of (by simp [hlen, hlen2]) (fun i v hv => by
        obtain ⟨k, t, hk, rfl⟩ := hys i v hv
        exact ⟨_, t, by simp only [List.getElem?_map, hk]; rfl, rfl⟩)).are
      have hly2 : ys2.length = 32 := by rw [hlen, hlen2]; simp <;> omega
      k_steps
      rename IntsAre _ (List.drop 32 _) => hI4
      have hlen4 := hI4.length
      rename Fr _ _ _ _ => F4
      rename News _ _ _ _ => N4
      refine kmk_add_ints F4 N4 (Mine.News.isL N4 (by k_mem)) (Mine.News.isL N4 (by k_mem)) hI3 hI4 ?_ (by rw [sizeLine_eq]; simp <;> omega)
      intro D5 us h5 F5 N5 _ hI5
      k_steps
      refine (rest_call (G.keeps (Fr.keep (by assumption))) (show _ + 1 < _ by omega) (by exact hh) (Mine.News.isL N5 (by k_mem)) ⟨hI5⟩).use (by assumption) (by assumption) ?_
      rintro _ h' tk' F' N' - ⟨t', rfl⟩
      k_steps
      refine (turned_call (G.keeps (Fr.keep (by assumption))) (show _ + 1 < _ by omega) (by exact hh)).use (by assumption) (by assumption) ?_
      rintro _ h' tk' F' N' - ⟨t', rfl⟩
      k_steps
      exact ret _ _ _ F'.keep ⟨_, rfl⟩
end
end Mine
end
-- F6
section
open PySem PySem.W PyProof.Rows PySem.Calls PySem.Spec
set_option maxRecDepth 100000
set_option maxHeartbeats 1000000
namespace Mine
def divStep (l : Int) : Int := if l % 2 = 1 then Builtin.bitXor l 4374732215 / 2 else l / 2
def divN (l : Int) : Nat → Int
  | 0 => l
  | n + 1 => divStep (divN l n)
def powStep (p : Int) : Int := if 4294967296 ≤ 2 * p then Builtin.bitXor (2 * p) 4374732215 else 2 * p
def powK (p : Int) : Nat → Int
  | 0 => p
  | n + 1 => powStep (powK p n)
def powN : Nat → Int
  | 0 => 1
  | n + 1 => powK (powN n) 2
def sqN (left : Int) : Nat → Int
  | 0 => 0
  | j + 1 => if (left / 2 ^ j) % 2 = 1 then Builtin.bitXor (sqN left j) (powN j) else sqN left j
def leftN (left : Int) : Nat → Int
  | 0 => left
  | k + 1 => sqN (leftN left k) 32
theorem div_odd {l : Int} (h : l.fmod 2 = 1) : (Builtin.bitXor l 4374732215).fdiv 2 = divStep l := by
  rw [Int.fmod_eq_emod_of_nonneg _ (by decide)] at h
  rw [divStep, if_pos h, Int.fdiv_eq_ediv_of_nonneg _ (by decide)]
theorem div_even {l : Int} (h : l.fmod 2 ≠ 1) : l.fdiv 2 = divStep l := by
  rw [Int.fmod_eq_emod_of_nonneg _ (by decide)] at h
  rw [divStep, if_neg h, Int.fdiv_eq_ediv_of_nonneg _ (by decide)]
theorem cellI {o : Obj} {v a : Int} {t : Tok} (h : o.data = .cell (some (.int v t))) (e : v = a) : ∃ t, o.data = .cell (some (.int a t)) := ⟨t, e ▸ h⟩
theorem shr_bit' (c : Int) (i : Nat) : (c.fdiv (2 ^ (0 + (i : Int)).toNat)).fmod 2 = (c / 2 ^ i) % 2 := by
  have e : (0 + (i : Int)).toNat = i := by omega
  have p : (0 : Int) ≤ 2 ^ i := Int.le_of_lt (kbt_pos i)
  rw [e, Int.fdiv_eq_ediv_of_nonneg _ p, Int.fmod_eq_emod_of_nonneg _ (by decide)]
theorem sq_odd {l : Int} {j : Nat} (h : (l.fdiv (2 ^ (0 + (j : Int)).toNat)).fmod 2 = 1) : Builtin.bitXor (sqN l j) (powN j) = sqN l (j + 1) := by
  rw [shr_bit'] at h
  rw [sqN, if_pos h]
theorem sq_even {l : Int} {j : Nat} (h : (l.fdiv (2 ^ (0 + (j : Int)).toNat)).fmod 2 ≠ 1) : sqN l j = sqN l (j + 1) := by
  rw [shr_bit'] at h
  rw [sqN, if_neg h]
theorem pows_snoc {ys : List Value} {v : Value} {i : Nat} (h : ∀ (j : Nat) (v : Value), ys[j]? = some v → ∃ t, v = .int (powN j) t) (hl : ys.length = i) (hv : ∃ t, v = .int (powN i) t) : ∀ (j : Nat) (u : Value), (ys ++ [v])[j]? = some u → ∃ t, u = .int (powN j) t := snocR (R := fun j v => ∃ t, v = .int (powN j) t) h hl hv
theorem shr_down (c : Int) (i : Nat) (hi : i < 32) : (c.fdiv (2 ^ (31 + (i : Int) * -1).toNat)).fmod 2 = (c / 2 ^ (31 - i)) % 2 := by
  have e : (31 + (i : Int) * -1).toNat = 31 - i := by omega
  have p : (0 : Int) ≤ 2 ^ (31 - i) := Int.le_of_lt (kbt_pos _)
  rw [e, Int.fdiv_eq_ediv_of_nonneg _ p, Int.fmod_eq_emod_of_nonneg _ (by decide)]
def choiceZ (change : Int) (behind : Nat) : List Int := (List.range 32).map fun i => (leftN (divN (turnN change 32) (32 + 8 * behind)) 29 / 2 ^ (31 - i)) % 2
local macro_rules | `(tactic| walk_at "exec For Name Call cons nil") => `(tactic| k_dflt (refine forGo (by assumption) (by rfl) (by rfl) ?_ (by intro _; rfl) (by intro _ _ h; exact h.elim)))
local macro_rules | `(tactic| walk_at "eval ListComp") => `(tactic| ((with_reducible show wpAny _ _ (eval (PySem.Expr.ListComp _ [_] _ _) _) _ _ _); k_dflt (refine compD (by assumption) (by with_unfolding_all rfl) (by decide) (by rfl) (by decide) (by rfl) ?_ (by intro _; rfl))))
local macro_rules | `(tactic| walk_at "call builtin:list.append") => `(tactic| (k_dflt (refine append_mine (by assumption) (by assumption) (by assumption) (by rw [sizeLine_eq]; omega) ?_); intro h' F' N'))
local macro_rules | `(tactic| walk_at "eval Name") => `(tactic| (k_dflt (refine nameX_C (by assumption) (by rfl) (by assumption) (by assumption) ?_)))
local macro_rules | `(tactic| walk_at "storeName") => `(tactic| (k_dflt (refine storeX_C (by assumption) (by assumption) (by rfl) (UpdF.head (by first | assumption | exact List.forall_mem_nil _)) (by assumption) ?_); intro h' o' F' N' hd'))
section
variable {w : World} {A : Around} {E : Value → Shared → Prop} {s : Shared} {mean : ExcName → Option Value} {mg mb : Str → Option Value} {Q : Value → Shared → Prop}
theorem choice_call {c : Int} {b : Nat} {t u : Tok} (G : Gd w mean mg mb s.heap) (hroom : A.depth < 890) (hh : A.handled = none) (hb : b < 5) :
    Pure w A s 85 [.int c t, .int (b : Int) u] (fun v h => ∃ D ys, v = .ref D ∧ h.get? D = some (LCg.lst ys) ∧ s.heap.get? D = none ∧ Ints ys (choiceZ c b)) := by
  intro Q E ret
  refine call_pureC [(Str.ofString "change", .int c t), (Str.ofString "behind", .int (b : Int) u)] G (by omega) ?_
  intro L h₁ tk cells F N Y
  have T := G.T
  have KX := G.X
  obtain ⟨o, rfl, ho⟩ := CellsAre.one Y
  k_steps
  refine (turned_call (G.keeps (Fr.keep (by assumption))) (show _ + 1 < _ by omega) (by exact hh)).use (by assumption) (by assumption) ?_
  rintro _ h' tk' F' N' - ⟨t', rfl⟩
  k_steps
  have hd1 := ‹Obj.data _ = Data.cell (some (Value.int (turnN c 32) t'))›
  rename IsRange _ _ _ _ _ _ _ _ => hr1
  rename Fr _ _ _ _ => F1
  rename News _ _ _ _ => N1
  have hsz : Builtin.Range.rangeSize 0 (32 + 8 * (b : Int)) 1 = ((32 + 8 * b : Nat) : Int) := by rw [rangeSize_nat]; omega
  refine iterRO (n := 32 + 8 * b) (rest := []) (fun i m o => ∃ t, o.data = .cell (some (.int (divN (turnN c 32) i) t))) (by exact hh) hr1 (small_one (by omega) (by omega) (by omega) (by omega)) hsz F1 N1 (List.forall_mem_nil _) ⟨t', hd1⟩ ?_ ?_
  · rintro i t m₁ o h tk own hi ⟨t1, hd2⟩ hs hoff F N
    k_steps
    · exact TurnEndO.intro (by assumption) (by assumption) (cellI (by assumption) (div_odd (by assumption)))
    · exact TurnEndO.intro (by assumption) (by assumption) (cellI (by assumption) (div_even (by assumption)))
  · rintro m₁ o h tk ⟨t1, hd2⟩ F N
    obtain ⟨left, hleft⟩ : ∃ left, left = divN (turnN c 32) (32 + 8 * b) := ⟨_, rfl⟩
    rw [← hleft] at hd2
    k_steps
    rename IsRange _ _ _ _ _ _ _ _ => hr2
    rename Fr _ _ _ _ => F2
    rename News _ _ _ _ => N2
    rename_i D _ _ _ hlt _ _ _ _ _ _ _ _ _ _
    have hDne : L + 1 ≠ D := Nat.ne_of_lt hlt
    refine iterRA (n := 32) (D := D) (ys₀ := []) (rest := [(L + 1, o)]) (fun i m ys => m (Str.ofString "squares") = some (.ref D) ∧ (∃ t, m (Str.ofString "power") = some (.int (powN i) t)) ∧ ys.length = i ∧ ∀ (j : Nat) (v : Value), ys[j]? = some v → ∃ t, v = .int (powN j) t) (by exact hh) hr2 (by decide) (by decide) F2 N2 (by intro p hp; rw [List.mem_singleton.mp hp]; exact hDne) ⟨rfl, ⟨_, rfl⟩, rfl, by simp⟩ ?_ ?_
    · rintro i t m₁ ys h tk own hi ⟨hms, ⟨tp, hmp⟩, hlen, hys⟩ hs hoff F N
      obtain ⟨u, rfl⟩ := exp2 hms hmp
      k_steps
      rename IsRange _ _ _ _ _ _ _ _ => hr3
      rename Fr _ _ _ _ => F3
      rename News _ _ _ _ => N3
      refine iterR (n := 2) (fun j m => m (Str.ofString "squares") = some (.ref D) ∧ ∃ t, m (Str.ofString "power") = some (.int (powK (powN i) j) t)) (by exact hh) hr3 (by decide) (by decide) F3 N3 ⟨rfl, ⟨_, rfl⟩⟩ ?_ ?_
      · rintro j t m₁ h tk nw hj ⟨hms, tp, hmp⟩ hs F N
        obtain ⟨u, rfl⟩ := exp2 hms hmp
        k_steps
        · exact TurnEnd.intro (by assumption) (by assumption) ⟨rfl, lkI rfl (if_pos (by assumption)).symm⟩
        · exact TurnEnd.intro (by assumption) (by assumption) ⟨rfl, lkI rfl (if_neg (by omega)).symm⟩
      · rintro m₁ h tk ⟨hms, tp, hmp⟩ F N
        obtain ⟨u, rfl⟩ := exp2 hms hmp
        k_steps
        exact TurnEndL.intro (by assumption) (by assumption) ⟨rfl, ⟨_, rfl⟩, by simp [hlen], pows_snoc hys hlen ⟨_, rfl⟩⟩
    · rintro m₁ ys h tk ⟨hms, ⟨tp, hmp⟩, hlen, hys⟩ F N
      obtain ⟨u, rfl⟩ := exp2 hms hmp
      k_steps
      rename IsRange _ _ _ _ _ _ _ _ => hr3
      rename Fr _ _ _ _ => F3
      rename News _ _ _ _ => N3
      have N3' : News s.heap L _ [(L + 1, o), (D, LCg.lst ys)] := fun p hp => N3 p (by rcases List.mem_cons.mp hp with rfl | hp; exact .tail _ (.head _); rw [List.mem_singleton.mp hp]; exact .head _)
      refine iterRO (n := 29) (D := L + 1) (rest := [(D, LCg.lst ys)]) (fun i m o => m (Str.ofString "squares") = some (.ref D) ∧ ∃ t, o.data = .cell (some (.int (leftN left i) t))) (by exact hh) hr3 (by decide) (by decide) F3 N3' (by intro p hp; rw [List.mem_singleton.mp hp]; exact Ne.symm hDne) ⟨rfl, ⟨_, hd2⟩⟩ ?_ ?_
      · rintro i t m₁ o h tk own hi ⟨hms, tl, hd3⟩ hs hoff F N
        obtain ⟨u, rfl⟩ := exp1 hms
        have hq : (D, LCg.lst ys) ∈ own := hs _ (.head _)
        k_steps
        rename IsRange _ _ _ _ _ _ _ _ => hr4
        rename Fr _ _ _ _ => F4
        rename News _ _ _ _ => N4
        refine iterR (n := 32) (fun j m => m (Str.ofString "squares") = some (.ref D) ∧ ∃ t, m (Str.ofString "square") = some (.int (sqN (leftN left i) j) t)) (by exact hh) hr4 (by decide) (by decide) F4 N4 ⟨rfl, ⟨_, rfl⟩⟩ ?_ ?_
        · rintro j t m₁ h tk nw hj ⟨hms, tp, hmp⟩ hs F N
          obtain ⟨u, rfl⟩ := exp2 hms hmp
          have hc : (L + 1, o) ∈ nw := hs _ (.head _)
          have hq' : (D, LCg.lst ys) ∈ nw := hs _ (.tail _ hq)
          obtain ⟨t3, hv3⟩ : ∃ t3, ys[j]? = some (.int (powN j) t3) := by
            have hlt : j < ys.length := by omega
            obtain ⟨t3, e⟩ := hys j ys[j] (by simp [hlt])
            exact ⟨t3, by simp [hlt, e]⟩
          k_steps
          · refine item_litK (Mine.News.isL (by assumption) hq') (by omega) (by omega) (by rw [show (0 + (j : Int)).toNat = j by omega]; exact hv3) ?_
            k_steps
            exact TurnEnd.intro (by assumption) (by assumption) ⟨rfl, lkI rfl (sq_odd (by assumption))⟩
          · exact TurnEnd.intro (by assumption) (by assumption) ⟨rfl, lkI rfl (sq_even (by assumption))⟩
        · rintro m₁ h tk ⟨hms, tp, hmp⟩ F N
          obtain ⟨u, rfl⟩ := exp2 hms hmp
          k_steps
          exact TurnEndO.intro (by assumption) (by assumption) ⟨rfl, ⟨_, by assumption⟩⟩
      · rintro m₁ o h tk ⟨hms, tl, hd3⟩ F N
        obtain ⟨u, rfl⟩ := exp1 hms
        k_steps
        rename IsRange _ _ _ _ _ _ _ _ => hr5
        rename Fr _ _ _ _ => F5
        rename News _ _ _ _ => N5
        refine ⟨⟨_, _, _, _, _, _, _, 32, _, fun i y => ∃ t, y = .int ((leftN left 29 / 2 ^ (31 - i)) % 2) t, rfl, hh, F5, N5, hr5, by decide, by decide, by rw [sizeLine_eq]; decide, ?_, ?_⟩⟩
        · intro i t I oI C oC D2 ys2 m₂ h tk E' hi hC hx F' N'
          k_steps
          exact Grown.same ⟨_, by rw [shr_down _ i hi]⟩
        · intro D2 h tk ys2 hl2 hy2 F' N'
          refine ret _ _ _ F'.keep ⟨D2, ys2, rfl, (N' _ (.head _)).1, (N' _ (.head _)).2.2, Ints.of (by simp [choiceZ, hl2]) ?_⟩
          intro i v hv
          have hi32 : i < 32 := by
            rcases Nat.lt_or_ge i ys2.length with q | q
            · omega
            · rw [List.getElem?_eq_none q] at hv; cases hv
          obtain ⟨t, rfl⟩ := hy2 i v hv
          exact ⟨_, t, by simp [choiceZ, hi32, hleft], rfl⟩
end
end Mine
end
-- F7
section
open PySem PySem.W PyProof.Rows PySem.Calls PySem.Spec
set_option maxRecDepth 100000
set_option maxHeartbeats 1000000
namespace Mine
def changeZ (ns : List Int) : Int := Builtin.bitXor (ns.getD 0 0 % 4294967296) 3988292384
def thsZ (ns : List Int) : List (Bool × Int) := (List.range 36).map (thingAt ns)
def codesZ (ns : List Int) : List Int := (thsZ ns).map (·.2)
def fullZ (c : Int) (b : Nat) : List Int := List.replicate (4 - b) 0 ++ choiceZ c b ++ List.replicate b 0
theorem cells3 {cm : Str → Option Value} {n n' n'' : Str} {c c' c'' : Addr} {cells : List (Addr × Obj)} (x : CellsAre cm [(n, c), (n', c'), (n'', c'')] cells) :
    ∃ o o' o'', cells = [(c, o), (c', o'), (c'', o'')] ∧ o.data = .cell (cm n) ∧ o'.data = .cell (cm n') ∧ o''.data = .cell (cm n'') := by
  cases x with | cons h r => obtain ⟨o', o'', rfl, h', h''⟩ := r.two; exact ⟨_, o', o'', rfl, h, h', h''⟩
theorem ne_fresh {h₀ h : Heap} {L a D : Addr} {o : Obj} {news : List (Addr × Obj)} (N : News h₀ L h news) (hm : (a, o) ∈ news) (hD : h.get? D = none) : @Ne Nat D a := by
  rintro rfl
  have := (N _ hm).1
  rw [hD] at this; cases this
theorem thsZ_nonneg (ns : List Int) : ∀ p ∈ thsZ ns, 0 ≤ p.2 := by
  intro p hp
  obtain ⟨k, _, rfl⟩ := List.mem_map.mp hp
  unfold thingAt
  exact Int.emod_nonneg _ (by decide)
def sentAt (ns : List Int) (c : Int) (b : Nat) (i : Nat) : Bool × Int := if (fullZ c b).getD i 0 = 1 then ((thingAt ns i).1, (thingAt ns i).2 + 128) else thingAt ns i
theorem thing_lo (ns : List Int) (i : Nat) : 0 ≤ (thingAt ns i).2 := Int.emod_nonneg _ (by decide)
theorem thing_hi (ns : List Int) (i : Nat) : (thingAt ns i).2 < 128 := Int.emod_lt_of_pos _ (by decide)
theorem full_len (c : Int) {b : Nat} (hb : b < 5) : (fullZ c b).length = 36 := by simp [fullZ, choiceZ]; omega
theorem Ths.item {ys : List Value} {f : Nat → Bool × Int} {n i : Nat} (h : Ths ys ((List.range n).map f)) (hi : i < n) : ∃ v, ys[(0 + (i : Int)).toNat]? = some v ∧ ThIs v (f i) := by
  have hl := h.len
  simp at hl
  have e : (0 + (i : Int)).toNat = i := by omega
  rw [e]
  refine ⟨ys[i]'(by omega), by simp [hl, hi], ?_⟩
  obtain ⟨p, hp, ht⟩ := h.at' i (ys[i]'(by omega)) (by simp [hl, hi])
  simp [hi] at hp
  rw [hp]; exact ht
theorem Ints.item {ys : List Value} {ns : List Int} {i : Nat} (h : Ints ys ns) (hi : i < ns.length) : ∃ t, ys[(0 + (i : Int)).toNat]? = some (.int (ns.getD i 0) t) := by
  have e : (0 + (i : Int)).toNat = i := by omega
  rw [e]
  have hl : i < ys.length := by rw [h.length]; exact hi
  obtain ⟨k, t, e1, e2⟩ := h.at i ys[i] (by simp [hl])
  refine ⟨t, ?_⟩
  rw [List.getElem?_eq_getElem hl, e1, List.getD_eq_getElem?_getD, e2]; rfl
theorem sent_kind (ns : List Int) (c : Int) (b i : Nat) : (sentAt ns c b i).1 = (thingAt ns i).1 := by
  unfold sentAt; split <;> rfl
theorem choice_bit (c : Int) (b i : Nat) : (choiceZ c b).getD i 0 = 0 ∨ (choiceZ c b).getD i 0 = 1 := by
  rw [List.getD_eq_getElem?_getD]
  cases e : (choiceZ c b)[i]? with
  | none => exact .inl rfl
  | some v =>
    have hm := List.mem_of_getElem? e
    obtain ⟨k, _, rfl⟩ := List.mem_map.mp hm
    exact Int.emod_two_eq _
theorem mem_bit {c : Int} {b : Nat} {v : Int} (h : v ∈ fullZ c b) : v = 0 ∨ v = 1 := by
  rcases List.mem_append.mp h with h | h
  · rcases List.mem_append.mp h with h | h
    · exact .inl (List.mem_replicate.mp h).2
    · obtain ⟨k, _, rfl⟩ := List.mem_map.mp h
      exact Int.emod_two_eq _
  · exact .inl (List.mem_replicate.mp h).2
theorem full_bit (c : Int) (b i : Nat) : (fullZ c b).getD i 0 = 0 ∨ (fullZ c b).getD i 0 = 1 := by
  rw [List.getD_eq_getElem?_getD]
  cases e : (fullZ c b)[i]? with
  | none => exact .inl rfl
  | some v => exact mem_bit (List.mem_of_getElem? e)
theorem sent_code (ns : List Int) (c : Int) (b i : Nat) : (sentAt ns c b i).2 = (thingAt ns i).2 + 128 * (fullZ c b).getD i 0 := by
  unfold sentAt
  rcases full_bit c b i with h | h <;> rw [h] <;> simp
theorem sent_lo (ns : List Int) (c : Int) (b i : Nat) : 0 ≤ (sentAt ns c b i).2 := by
  have := thing_lo ns i
  rw [sent_code]
  rcases full_bit c b i with h | h <;> rw [h] <;> omega
theorem sent_meta (ns : List Int) (c : Int) (b i : Nat) : decide ((sentAt ns c b i).2 > 127) = decide ((fullZ c b).getD i 0 = 1) := by
  have h1 := thing_lo ns i
  have h2 := thing_hi ns i
  rw [sent_code]
  rcases full_bit c b i with h | h <;> rw [h] <;> simp <;> omega
def kindsZ (ns : List Int) : List Bool := (List.range 36).map fun i => (thingAt ns i).1
def sentZ (ns : List Int) (c : Int) (b : Nat) : List Int := (List.range 36).map fun i => (sentAt ns c b i).2
def marksZ (c : Int) (b : Nat) : List Bool := (List.range 36).map fun i => decide ((fullZ c b).getD i 0 = 1)
theorem idx_lt {α : Type} {ys : List α} {i n : Nat} {v : α} (hl : ys.length = n) (h : ys[i]? = some v) : i < n := by
  rcases Nat.lt_or_ge i ys.length with q | q
  · omega
  · rw [List.getElem?_eq_none q] at h; cases h
theorem subN {h₀ h : Heap} {L : Addr} {nw l : List (Addr × Obj)} (N : News h₀ L h nw) (hs : ∀ p ∈ l, p ∈ nw) : News h₀ L h l := fun p hp => N p (hs p hp)
theorem nL {a b : Nat} (L : Nat) (h : a ≠ b) : @Ne Nat (L + a) (L + b) := by omega
theorem flat0 (n : Nat) : (List.replicate n [(0 : Int)]).flatten = List.replicate n 0 := by
  induction n with
  | zero => rfl
  | succ n ih => rw [List.replicate_succ, List.flatten_cons, ih, List.replicate_succ]; rfl
local macro_rules | `(tactic| walk_at "subscriptTail Name Name ref int") => `(tactic| (k_dflt (refine item_litK (Mine.News.isL (by assumption) (by k_mem)) (by omega) (by omega) (by assumption) ?_)))
local macro_rules | `(tactic| walk_at "exec Assign cons ListComp") => `(tactic| (k_dflt (refine compA (by assumption) (by rfl) (by with_unfolding_all rfl) (by with_unfolding_all rfl) (by decide) (by rfl) (by decide) (by rfl) (by rfl) (by rfl) ?_ (by intro _; rfl))))
local macro_rules | `(tactic| walk_at "eval ListComp") => `(tactic| ((with_reducible show wpAny _ _ (eval (PySem.Expr.ListComp _ [_] _ _) _) _ _ _); k_dflt (refine compE (by assumption) (by with_unfolding_all rfl) (by decide) (by rfl) (by decide) (by rfl) ?_ (by intro _; rfl))))
section
variable {w : World} {A : Around} {E : Value → Shared → Prop} {s : Shared} {mean : ExcName → Option Value} {mg mb : Str → Option Value} {Q : Value → Shared → Prop}
theorem law_call {l : Addr} {vs : List Value} {ns : List Int} {b : Nat} (G : Gd w mean mg mb s.heap) (hroom : A.depth < 880) (hu : A.units < 9000) (hh : A.handled = none) (hl : s.heap.IsList l vs.toArray) (hi : Ints vs ns) (hsz : ns.length ≤ 63) (hb : b < 5) (hb' : ns.getD 1 0 % 5 = (b : Int))
    (hmath : Builtin.bitXor ((((List.range 36).map (sentAt ns (changeZ ns) b)).map (·.2)).foldl sumStep 4294967295) 4294967295 = Builtin.bitXor (plainZ (((List.range 36).map (thingAt ns)).map (·.2))) (changeZ ns)) :
    Pure w A s 90 [.ref l] (fun v _ => v = .bool true) := by
  intro Q E ret
  refine call_pureC [(Str.ofString "script", .ref l)] G (by omega) ?_
  intro L h₁ tk cells F N Y
  have T := G.T
  have KX := G.X
  obtain ⟨o3, o2, o1, rfl, ho3, ho2, ho1⟩ := cells3 Y
  replace ho1 : o1.data = .cell none := ho1
  replace ho2 : o2.data = .cell none := ho2
  replace ho3 : o3.data = .cell none := ho3
  clear Y
  change News s.heap L h₁ [(L + 3, o3), (L + 2, o2), (L + 1, o1)] at N
  refine wpAny_execs_cons ?_
  refine wpAny_mono (Q := TurnEnd s.heap L (fun m => m (Str.ofString "script") = some (.ref l) ∧ ∃ t, m (Str.ofString "first") = some (.int (ns.getD 0 0) t)) [(L + 3, o3), (L + 2, o2), (L + 1, o1)] s) ?_ ?_ (fun _ _ e => e)
  · have hI := hi.are
    k_steps
    · exact TurnEnd.intro (by assumption) (by assumption) ⟨rfl, _, rfl⟩
    · have e : ns.length = 0 := by omega
      exact TurnEnd.intro (by assumption) (by assumption) ⟨rfl, lkI rfl (by rw [List.length_eq_zero_iff.mp e]; rfl)⟩
  rintro f s' ⟨rfl, h', tk', m', rfl, F', N', hms, t1, hm1⟩
  clear F N
  obtain ⟨u, rfl⟩ := exp2 hms hm1
  dsimp only
  refine wpAny_execs_cons ?_
  refine wpAny_mono (Q := TurnEnd s.heap L (fun m => m (Str.ofString "script") = some (.ref l) ∧ m (Str.ofString "first") = some (.int (ns.getD 0 0) t1) ∧ ∃ t, m (Str.ofString "second") = some (.int (ns.getD 1 0) t)) [(L + 3, o3), (L + 2, o2), (L + 1, o1)] s) ?_ ?_ (fun _ _ e => e)
  · have hI := hi.are
    k_steps
    · exact TurnEnd.intro (by assumption) (by assumption) ⟨rfl, rfl, _, rfl⟩
    · exact TurnEnd.intro (by assumption) (by assumption) ⟨rfl, rfl, lkI rfl (by rw [List.getD_eq_getElem?_getD, List.getElem?_eq_none (by omega)]; rfl)⟩
  rintro f s' ⟨rfl, h', tk', m', rfl, F, N, hms, hm1, t2, hm2⟩
  clear F' N'
  obtain ⟨u, rfl⟩ := exp3 hms hm1 hm2
  dsimp only
  refine wpAny_execs_cons ?_
  refine wpAny_mono (Q := TurnEnd s.heap L (fun m => m (Str.ofString "script") = some (.ref l) ∧ m (Str.ofString "second") = some (.int (ns.getD 1 0) t2) ∧ ∃ t, m (Str.ofString "change") = some (.int (changeZ ns) t)) [(L + 3, o3), (L + 2, o2), (L + 1, o1)] s) ?_ ?_ (fun _ _ e => e)
  · k_steps
    exact TurnEnd.intro (by assumption) (by assumption) ⟨rfl, rfl, lkI rfl (by rw [changeZ, Int.fmod_eq_emod_of_nonneg _ (by decide)])⟩
  rintro f s' ⟨rfl, h', tk', m', rfl, F', N', hms, hm1, t3, hm2⟩
  clear F N
  obtain ⟨u, rfl⟩ := exp3 hms hm1 hm2
  dsimp only
  refine wpAny_execs_cons ?_
  refine wpAny_mono (Q := TurnEnd s.heap L (fun m => m (Str.ofString "script") = some (.ref l) ∧ m (Str.ofString "change") = some (.int (changeZ ns) t3) ∧ ∃ t, m (Str.ofString "behind") = some (.int (b : Int) t)) [(L + 3, o3), (L + 2, o2), (L + 1, o1)] s) ?_ ?_ (fun _ _ e => e)
  · k_steps
    exact TurnEnd.intro (by assumption) (by assumption) ⟨rfl, rfl, lkI rfl (by rw [Int.fmod_eq_emod_of_nonneg _ (by decide), hb'])⟩
  rintro f s' ⟨rfl, h', tk', m', rfl, F, N, hms, hm1, t4, hm2⟩
  clear F' N'
  obtain ⟨u, rfl⟩ := exp3 hms hm1 hm2
  dsimp only
  k_steps
  refine (things_call (G.keeps (Fr.keep (by assumption))) (show _ + 1 < _ by omega) (by exact hh) (hl.at fun o e => Fr.keep (by assumption) l o e) hi hsz).use (by assumption) (by assumption) ?_
  rintro _ h1 tk1 F1 N1 - ⟨D1, ys1, rfl, hD1, hn1, hT1⟩
  have a1 := ne_fresh N (.head _) hn1
  have a2 := ne_fresh N (.tail _ (.head _)) hn1
  have a3 := ne_fresh N (.tail _ (.tail _ (.head _))) hn1
  replace N1 := Mine.News.add F N1 hn1 hD1
  k_steps
  have hly1 : ys1.length = 36 := by rw [hT1.len]; simp
  rename Fr _ _ _ _ => F2
  rename News _ _ _ _ => N2
  obtain ⟨o1', ho1', N2'⟩ : ∃ o1', o1'.data = Data.cell (some (Value.ref D1)) ∧ News s.heap L _ [(L + 3, o3), (L + 2, o2), (L + 1, o1'), (D1, LCg.lst ys1)] := ⟨_, by assumption, subN N2 (by kcf_all)⟩
  clear N2
  rename News _ _ _ _ => N2
  refine (codes_call (G.keeps F2.keep) (show _ + 1 < _ by omega) (by exact hh) (Mine.News.isL N2 (by k_mem)) hT1 (thsZ_nonneg ns) (by omega)).use F2 N2 ?_
  rintro _ h2 tk2 F3 N3 - ⟨D2, ys2, rfl, hD2, hn2, hI2⟩
  have a4 := ne_fresh N2 (.head _) hn2
  have a5 := ne_fresh N2 (.tail _ (.head _)) hn2
  have a6 := ne_fresh N2 (.tail _ (.tail _ (.head _))) hn2
  have a7 := ne_fresh N2 (.tail _ (.tail _ (.tail _ (.head _)))) hn2
  replace N3 := Mine.News.add F2 N3 hn2 hD2
  clear F2 N2
  -- the cell of codes
  have hoff2 : ∀ p ∈ [(L + 3, o3), (L + 1, o1'), (D1, LCg.lst ys1), (D2, LCg.lst ys2)], p.1 ≠ L + 2 := by
    intro p hp
    simp only [List.mem_cons, List.not_mem_nil, or_false] at hp
    rcases hp with rfl | rfl | rfl | rfl
    · exact nL L (by decide)
    · exact nL L (by decide)
    · exact a2
    · exact a5
  refine storeX_C F3 (subN N3 (l := (L + 2, o2) :: [(L + 3, o3), (L + 1, o1'), (D1, LCg.lst ys1), (D2, LCg.lst ys2)]) (by kcf_all)) (by rfl) (UpdF.head hoff2) ho2 ?_
  intro h' o2' F2 N2 ho2'
  clear F3 N3
  k_steps
  rename Fr _ _ _ _ => F4
  rename News _ _ _ _ => N4
  refine (choice_call (G.keeps F4.keep) (show _ + 1 < _ by omega) (by exact hh) hb).use F4 N4 ?_
  rintro _ h3 tk3 F5 N5 - ⟨D3, ys3, rfl, hD3, hn3, hI3⟩
  have c1 := ne_fresh N4 (a := L + 3) (by k_mem) hn3
  replace N5 := Mine.News.add F4 N5 hn3 hD3
  have hlc : (choiceZ (changeZ ns) b).length = 32 := by simp [choiceZ]
  have hI3' := hI3.are
  rename IntsAre (List.flatten (List.replicate _ _)) _ => hI0
  refine kmk_add_ints F5 N5 (Mine.News.isL N5 (by k_mem)) (Mine.News.isL N5 (by k_mem)) hI0 hI3' ?_ (by rw [sizeLine_eq, hlc]; simp <;> omega)
  intro D4 us4 h4 F6 N6 _ hI4
  k_steps
  rename Fr _ _ _ _ => F7
  rename News _ _ _ _ => N7
  rename IntsAre _ (_ ++ _ ++ _) => hI5
  rw [flat0, flat0, show (4 - (b : Int)).toNat = 4 - b by omega, Int.toNat_natCast] at hI5
  rename_i Dc wsc _ hltc
  have hoff3 : ∀ p ∈ [(L + 2, o2'), (L + 1, o1'), (D1, LCg.lst ys1), (D2, LCg.lst ys2), (Dc, W.listOf wsc.toArray 0)], p.1 ≠ L + 3 := by
    intro p hp
    simp only [List.mem_cons, List.not_mem_nil, or_false] at hp
    rcases hp with rfl | rfl | rfl | rfl | rfl
    · exact nL L (by decide)
    · exact nL L (by decide)
    · exact a1
    · exact a4
    · exact neN (by dsimp only; omega)
  refine storeX_C F7 (subN N7 (l := (L + 3, o3) :: [(L + 2, o2'), (L + 1, o1'), (D1, LCg.lst ys1), (D2, LCg.lst ys2), (Dc, W.listOf wsc.toArray 0)]) (by kcf_all)) (by rfl) (UpdF.head hoff3) ho3 ?_
  intro h' o3' F8 N8 ho3'
  (try clear F7); (try clear N7); (try clear F2); (try clear N2); (try clear F4); (try clear N4); (try clear F5); (try clear N5); (try clear F6); (try clear N6); (try clear hI0); (try clear hI3'); (try clear hI4); (try clear hoff2); (try clear hoff3); (try clear hltc)
  have hI5' : Ints wsc (fullZ (changeZ ns) b) := ⟨hI5⟩
  clear hI5
  have hlw : wsc.length = 36 := by rw [hI5'.length]; simp [fullZ, choiceZ]; omega
  k_steps
  rename IsRange _ _ _ _ _ _ _ _ => hr9
  rename Fr _ _ _ _ => F9
  rename News _ _ _ _ => N9
  refine compR (n := 36) (fun i y => ThIs y (sentAt ns (changeZ ns) b i)) (by exact hh) F9 N9 hr9 (by decide) (by decide) (by rw [sizeLine_eq]; decide) ?_ ?_
  · intro i t I oI C oC D ys m₂ h tk E' hi36 hC hx F' N'
    obtain ⟨v1, hv1, hth⟩ := Ths.item hT1 hi36
    obtain ⟨tw, hw1⟩ := Ints.item hI5' (i := i) (by rw [full_len _ hb]; exact hi36)
    k_steps
    · have hc1 := ‹(fullZ (changeZ ns) b).getD i 0 = 1›
      refine (alt_call (b := (thingAt ns i).1) (c := (thingAt ns i).2) (G.keeps F'.keep) (show _ + 1 < _ by omega) (thing_lo ns i) (thing_hi ns i) hth).use F' N' ?_
      rintro v h2 tk2 _ _ hk hr
      exact Grown.more hk (by rw [sentAt, if_pos hc1]; exact hr)
    · have hc1 := ‹(fullZ (changeZ ns) b).getD i 0 ≠ 1›
      exact Grown.same (by rw [sentAt, if_neg hc1]; exact hth)
  intro g sv hls hsv Ds h tk F' N' _
  clear F9 N9 hr9
  k_steps
  -- the kinds of the sent
  refine compL (fun i y => y = .bool (thingAt ns i).1) (by exact hh) F' N' (.inr ⟨_, by k_mem, rfl, _, rfl⟩) (by rw [hls, sizeLine_eq]; decide) ?_ ?_
  · intro i v I oI C oC D ys m₂ h tk E' hv hC hx F' N'
    have ht := hsv i v hv
    rw [← sent_kind ns (changeZ ns) b i]
    unfold ThIs at ht
    cases hk : (sentAt ns (changeZ ns) b i).1 with
    | false =>
      rw [hk] at ht
      obtain ⟨t, rfl⟩ := ht
      k_steps
      exact Grown.same rfl
    | true =>
      rw [hk] at ht
      obtain ⟨t, rfl⟩ := ht
      k_steps
      exact Grown.same rfl
  intro g2 kv hlk hkv Dk h tk F2 N2 _
  clear F' N'
  have ek : kv = (kindsZ ns).map Value.bool := bools_of (by simp [kindsZ, hlk, hls]) fun i y hy => ⟨_, by simp [kindsZ, idx_lt (hlk.trans hls) hy], hkv i y hy⟩
  k_steps
  refine compL (fun i y => y = .bool (thingAt ns i).1) (by exact hh) F2 N2 (.inr ⟨_, by k_mem, rfl, _, rfl⟩) (by rw [hly1, sizeLine_eq]; decide) ?_ ?_
  · intro i v I oI C oC D ys m₂ h tk E' hv hC hx F' N'
    obtain ⟨p, hp, ht⟩ := hT1.at' i v hv
    have hp' : p = thingAt ns i := by
      have := idx_lt hly1 hv
      simpa [this] using hp.symm
    subst hp'
    unfold ThIs at ht
    cases hk : (thingAt ns i).1 with
    | false =>
      rw [hk] at ht
      obtain ⟨t, rfl⟩ := ht
      k_steps
      exact Grown.same rfl
    | true =>
      rw [hk] at ht
      obtain ⟨t, rfl⟩ := ht
      k_steps
      exact Grown.same rfl
  intro g3 jv hlj hjv Dj h tk F3 N3 _
  clear F2 N2
  have ej : jv = (kindsZ ns).map Value.bool := bools_of (by simp [kindsZ, hlj, hly1]) fun i y hy => ⟨_, by simp [kindsZ, idx_lt (hlj.trans hly1) hy], hjv i y hy⟩
  subst ek
  subst ej
  k_steps
  rename Fr _ _ _ _ => F4
  rename News _ _ _ _ => N4
  replace N4 := subN N4 (l := [(L + 3, o3'), (L + 2, o2'), (L + 1, o1'), (D1, LCg.lst ys1), (D2, LCg.lst ys2), (Dc, W.listOf wsc.toArray 0), (Ds, LCg.lst sv)]) (by kcf_all)
  have hTs : Ths sv ((List.range 36).map (sentAt ns (changeZ ns) b)) := ⟨by simp [hls], fun i v hv => ⟨_, by simp [idx_lt hls hv], hsv i v hv⟩⟩
  have hTlo : ∀ p ∈ (List.range 36).map (sentAt ns (changeZ ns) b), 0 ≤ p.2 := by
    intro p hp
    obtain ⟨k, _, rfl⟩ := List.mem_map.mp hp
    exact sent_lo ns _ b k
  have hTe : ((List.range 36).map (sentAt ns (changeZ ns) b)).map (·.2) = sentZ ns (changeZ ns) b := by simp [sentZ]
  refine (codes_call (G.keeps F4.keep) (show _ + 1 < _ by omega) (by exact hh) (Mine.News.isL N4 (by k_mem)) hTs hTlo (by omega)).use F4 N4 ?_
  rintro _ h5 tk5 F5 N5 - ⟨D5, ys5, rfl, hD5, hn5, hI5⟩
  rw [hTe] at hI5
  replace N5 := Mine.News.add F4 N5 hn5 hD5
  have hly2 : ys2.length = 36 := by rw [hI2.length]; simp
  k_steps
  rename IsRange _ _ _ _ _ _ _ _ => hr6
  rename Fr _ _ _ _ => F6
  rename News _ _ _ _ => N6
  refine compR (n := 36) (fun i y => ∃ t, y = .int (sentAt ns (changeZ ns) b i).2 t) (by exact hh) F6 N6 hr6 (by decide) (by decide) (by rw [sizeLine_eq]; decide) ?_ ?_
  · intro i t I oI C oC D ys m₂ h tk E' hi36 hC hx F' N'
    obtain ⟨tc, hc1⟩ := Ints.item hI2 (i := i) (by simp; exact hi36)
    obtain ⟨tw, hw1⟩ := Ints.item hI5' (i := i) (by rw [full_len _ hb]; exact hi36)
    have ec : (((List.range 36).map (thingAt ns)).map (·.2)).getD i 0 = (thingAt ns i).2 := by simp [List.getD_eq_getElem?_getD, hi36]
    rw [ec] at hc1
    k_steps
    exact Grown.same ⟨_, by rw [sent_code]⟩
  intro g6 cv hlcv hcv Dv h tk F7 N7 _
  have hIv : Ints cv (sentZ ns (changeZ ns) b) := Ints.of (by simp [sentZ, hlcv]) fun i v hv => by
    obtain ⟨t, rfl⟩ := hcv i v hv
    exact ⟨_, t, by simp [sentZ, idx_lt hlcv hv], rfl⟩
  dsimp only
  refine ne_same_ints (ns := sentZ ns (changeZ ns) b) (Mine.News.isL N7 (.tail _ (.head _))) (Mine.News.isL N7 (.head _)) hI5.are hIv.are (show A.units + 3 + 64 < cLine by rw [cLine_is]; omega) ?_
  replace N7 := subN N7 (l := [(L + 3, o3'), (L + 2, o2'), (L + 1, o1'), (D1, LCg.lst ys1), (D2, LCg.lst ys2), (Dc, W.listOf wsc.toArray 0), (Ds, LCg.lst sv)]) (by kcf_all)
  (try clear F4); (try clear N4); (try clear F5); (try clear N5); (try clear F6); (try clear N6); (try clear hr6); (try clear hTe)
  k_steps
  rename Fr _ _ _ _ => F7
  rename News _ _ _ _ => N7
  refine compL (fun i y => y = .bool (decide ((fullZ (changeZ ns) b).getD i 0 = 1))) (by exact hh) F7 N7 (.inr ⟨_, by k_mem, rfl, _, rfl⟩) (by rw [hls, sizeLine_eq]; decide) ?_ ?_
  · intro i v I oI C oC D ys m₂ h tk E' hv hC hx F' N'
    have ht := hsv i v hv
    k_steps
    refine (ismeta_call (b := (sentAt ns (changeZ ns) b i).1) (c := (sentAt ns (changeZ ns) b i).2) (G.keeps F'.keep) (show _ + 1 < _ by omega) (sent_lo ns _ b i) ht).use F' N' ?_
    rintro _ h2 tk2 _ _ hk rfl
    exact Grown.more hk (by rw [sent_meta])
  intro g8 mv hlm hmv Dm h tk F8 N8 _
  clear F7 N7
  have em : mv = (marksZ (changeZ ns) b).map Value.bool := bools_of (by simp [marksZ, hlm, hls]) fun i y hy => ⟨_, by simp [marksZ, idx_lt (hlm.trans hls) hy], hmv i y hy⟩
  subst em
  k_steps
  have hlM : ((marksZ (changeZ ns) b).map Value.bool).length = 36 := by simp [marksZ]
  refine compL (fun i y => y = .bool true) (by exact hh) F8 N8 (.inr ⟨_, .head _, rfl, _, rfl⟩) (by rw [hlM, sizeLine_eq]; decide) ?_ ?_
  · intro i v I oI C oC D ys m₂ h tk E' hv hC hx F' N'
    obtain ⟨bb, rfl⟩ : ∃ bb, v = Value.bool bb := by
      rw [List.getElem?_map] at hv
      cases e : (marksZ (changeZ ns) b)[i]? with
      | none => rw [e] at hv; cases hv
      | some bb => rw [e] at hv; cases hv; exact ⟨bb, rfl⟩
    k_steps
    exact Grown.same rfl
  intro g9 tv hlt9 htv Dt h tk F9 N9 _
  clear F8 N8
  have et : tv = (List.replicate 36 true).map Value.bool := bools_of (by rw [hlt9, hlM]; rfl) fun i y hy => ⟨true, by rw [List.getElem?_replicate, if_pos (idx_lt (hlt9.trans hlM) hy)], htv i y hy⟩
  subst et
  dsimp only
  refine in_trues (n := 36) (Mine.News.isL N9 (.head _)) (show A.units + 3 + 64 < cLine by rw [cLine_is]; omega) ?_
  replace N9 := subN N9 (l := [(L + 3, o3'), (L + 2, o2'), (L + 1, o1'), (D1, LCg.lst ys1), (D2, LCg.lst ys2), (Dc, W.listOf wsc.toArray 0), (Ds, LCg.lst sv), (Dm, LCg.lst ((marksZ (changeZ ns) b).map Value.bool))]) (by kcf_all)
  k_steps
  rename Fr _ _ _ _ => F9
  rename News _ _ _ _ => N9
  refine compL (fun i y => y = .bool (decide ((fullZ (changeZ ns) b).getD i 0 = 1))) (by exact hh) F9 N9 (.inr ⟨_, by k_mem, rfl, _, rfl⟩) (by rw [hlw, sizeLine_eq]; decide) ?_ ?_
  · intro i v I oI C oC D ys m₂ h tk E' hv hC hx F' N'
    obtain ⟨k, t, rfl, hk⟩ := Ints.at hI5' i v hv
    have ek : (fullZ (changeZ ns) b).getD i 0 = k := by rw [List.getD_eq_getElem?_getD, hk]; rfl
    rw [ek]
    k_steps
    exact Grown.same rfl
  intro g10 bv hlb10 hbv Db h tk F10 N10 _
  clear F9 N9
  have ebv : bv = (marksZ (changeZ ns) b).map Value.bool := bools_of (by simp [marksZ, hlb10, hlw]) fun i y hy => ⟨_, by simp [marksZ, idx_lt (hlb10.trans hlw) hy], hbv i y hy⟩
  subst ebv
  dsimp only
  refine ne_bools (bs := marksZ (changeZ ns) b) (Mine.News.isL N10 (by k_mem)) (Mine.News.isL N10 (.head _)) (show A.units + 3 + 64 < cLine by rw [cLine_is]; omega) ?_
  replace N10 := subN N10 (l := [(L + 3, o3'), (L + 2, o2'), (L + 1, o1'), (D1, LCg.lst ys1), (D2, LCg.lst ys2), (Dc, W.listOf wsc.toArray 0), (Ds, LCg.lst sv)]) (by kcf_all)
  k_steps
  rename Fr _ _ _ _ => F4
  rename News _ _ _ _ => N4
  refine (codes_call (G.keeps F4.keep) (show _ + 1 < _ by omega) (by exact hh) (Mine.News.isL N4 (by k_mem)) hTs hTlo (by omega)).use F4 N4 ?_
  rintro _ h11 tk11 F11 N11 - ⟨D11, ys11, rfl, hD11, hn11, hI11⟩
  replace N11 := Mine.News.add F4 N11 hn11 hD11
  clear F4 N4
  k_steps
  rename Fr _ _ _ _ => F4
  rename News _ _ _ _ => N4
  refine (sum_call (G.keeps F4.keep) (show _ + 1 < _ by omega) (by exact hh) (Mine.News.isL N4 (by k_mem)) hI11).use F4 N4 ?_
  rintro _ h12 tk12 F12 N12 - ⟨t12, rfl⟩
  clear F4 N4
  k_steps
  rename Fr _ _ _ _ => F4
  rename News _ _ _ _ => N4
  refine (plain_call (G.keeps F4.keep) (show _ + 1 < _ by omega) (by exact hh) (Mine.News.isL N4 (by k_mem)) hI2 (by simp)).use F4 N4 ?_
  rintro _ h13 tk13 F13 N13 - ⟨t13, rfl⟩
  clear F4 N4
  k_steps
  rename Fr _ _ _ _ => F4
  refine ret _ _ _ F4.keep ?_
  exact congrArg Value.bool (decide_eq_true hmath)
end
end Mine
end
-- M1
section
open PySem PySem.W PyProof.Rows
namespace Mine
theorem xor_add_and (m : Nat) : ∀ n : Nat, (m ^^^ n) + 2 * (m &&& n) = m + n := by
  induction m using Nat.strongRecOn with
  | ind m ih =>
    intro n
    by_cases h0 : m = 0
    · subst h0; simp
    · have h := ih (m / 2) (by omega) (n / 2)
      have h1 : (m ^^^ n) / 2 = m / 2 ^^^ n / 2 := Nat.xor_div_two
      have h2 : (m &&& n) / 2 = m / 2 &&& n / 2 := Nat.and_div_two
      have h3 := @Nat.xor_mod_two_eq_one m n
      have h4 := @Nat.and_mod_two_eq_one m n
      rw [← h1, ← h2] at h
      omega
theorem xorZ (a b : Nat) : Builtin.bitXor (a : Int) (b : Int) = ((a ^^^ b : Nat) : Int) := by
  rw [bitXor_and, bitAnd_pp (by omega) (by omega), Int.toNat_natCast, Int.toNat_natCast]
  have := xor_add_and a b
  omega
/-- xor-linear -/
def Lin (f : Nat → Nat) : Prop := ∀ a b, f (a ^^^ b) = f a ^^^ f b
theorem Lin.zero {f : Nat → Nat} (h : Lin f) : f 0 = 0 := by
  have := h 0 0
  simpa using this
theorem Lin.comp {f g : Nat → Nat} (hf : Lin f) (hg : Lin g) : Lin (fun x => f (g x)) := fun a b => by
  show f (g (a ^^^ b)) = f (g a) ^^^ f (g b)
  rw [hg, hf]
theorem Lin.xor {f g : Nat → Nat} (hf : Lin f) (hg : Lin g) : Lin (fun x => f x ^^^ g x) := fun a b => by
  simp only [hf a b, hg a b]
  ac_rfl
theorem Lin.id : Lin (fun x => x) := fun _ _ => rfl
theorem basis {f g : Nat → Nat} (hf : Lin f) (hg : Lin g) : ∀ n, (∀ i, i < n → f (2 ^ i) = g (2 ^ i)) → ∀ x, x < 2 ^ n → f x = g x := by
  intro n
  induction n with
  | zero => intro _ x hx; have : x = 0 := by simpa using hx
            subst this; rw [hf.zero, hg.zero]
  | succ n ih =>
    intro h x hx
    have ih' := ih fun i hi => h i (by omega)
    by_cases hlt : x < 2 ^ n
    · exact ih' x hlt
    · have hy : x ^^^ 2 ^ n < 2 ^ n := by
        refine Nat.lt_pow_two_of_testBit _ fun i hi => ?_
        rw [Nat.testBit_xor]
        rcases Nat.lt_or_eq_of_le hi with q | q
        · rw [Nat.testBit_lt_two_pow (Nat.lt_of_lt_of_le hx (Nat.pow_le_pow_right (by decide) q)), Nat.testBit_two_pow]
          simp; omega
        · subst q
          rw [Nat.testBit_two_pow_self]
          have : Nat.testBit x n = true := by
            have hdiv : x / 2 ^ n = 1 := by
              rw [Nat.pow_succ] at hx
              apply Nat.div_eq_of_lt_le <;> omega
            rw [Nat.testBit_eq_decide_div_mod_eq, hdiv]; rfl
          rw [this]; rfl
      have e : x = (x ^^^ 2 ^ n) ^^^ 2 ^ n := by rw [Nat.xor_assoc, Nat.xor_self, Nat.xor_zero]
      rw [e, hf, hg, ih' _ hy, h n (by omega)]
theorem lin_iter {f : Nat → Nat} (hf : Lin f) : ∀ n, Lin (fun x => Nat.repeat f n x)
  | 0 => Lin.id
  | n + 1 => fun a b => by
    show f (Nat.repeat f n (a ^^^ b)) = f (Nat.repeat f n a) ^^^ f (Nat.repeat f n b)
    have := lin_iter hf n a b
    dsimp only at this
    rw [this, hf]
theorem lin_half : Lin (fun x => x / 2) := fun _ _ => Nat.xor_div_two
theorem lin_bit (k p : Nat) : Lin (fun x => if x.testBit k = true then p else 0) := fun a b => by
  simp only [Nat.testBit_xor]
  cases a.testBit k <;> cases b.testBit k <;> simp
theorem lin_double : Lin (fun x => 2 * x) := fun a b => by
  simp only [Nat.mul_comm 2]
  have : ∀ x : Nat, x * 2 = x <<< 1 := fun x => by rw [Nat.shiftLeft_eq]
  rw [this, this, this, Nat.shiftLeft_xor_distrib]
end Mine
end
-- M2
section
open PySem PySem.W PyProof.Rows
set_option maxRecDepth 10000
namespace Mine
def gB (c : Nat) : Nat := c / 2 ^^^ (if c.testBit 0 = true then 3988292384 else 0)
def mB (r : Nat) : Nat := 2 * r ^^^ (if r.testBit 31 = true then 4374732215 else 0)
def dB (l : Nat) : Nat := (l ^^^ (if l.testBit 0 = true then 4374732215 else 0)) / 2
def tK : Nat → Nat → Nat
  | 0, _ => 0
  | k + 1, n => 2 * tK k n ^^^ (if n.testBit k = true then 1 else 0)
/-- a linear map by its table -/
def sT : List Nat → Nat → Nat
  | [], _ => 0
  | p :: ps, x => (if x.testBit 0 = true then p else 0) ^^^ sT ps (x / 2)
theorem lin_gB : Lin gB := lin_half.xor (lin_bit 0 _)
theorem lin_mB : Lin mB := lin_double.xor (lin_bit 31 _)
theorem lin_dB : Lin dB := Lin.comp (f := fun x => x / 2) (g := fun l => l ^^^ (if l.testBit 0 = true then 4374732215 else 0)) lin_half (Lin.id.xor (lin_bit 0 _))
theorem lin_tK : ∀ k, Lin (tK k)
  | 0 => fun _ _ => by simp [tK]
  | k + 1 => (Lin.comp (f := fun x => 2 * x) lin_double (lin_tK k)).xor (lin_bit k 1)
theorem lin_sT : ∀ ps, Lin (sT ps)
  | [] => fun _ _ => by simp [sT]
  | p :: ps => (lin_bit 0 p).xor (Lin.comp (g := fun x => x / 2) (lin_sT ps) lin_half)
theorem sT_map {f : Nat → Nat} (hf : Lin f) : ∀ ps x, sT (ps.map f) x = f (sT ps x)
  | [], _ => hf.zero.symm
  | p :: ps, x => by
    show (if x.testBit 0 = true then f p else 0) ^^^ sT (ps.map f) (x / 2) = f ((if x.testBit 0 = true then p else 0) ^^^ sT ps (x / 2))
    rw [sT_map hf ps, hf]
    cases x.testBit 0
    · simp [hf.zero]
    · simp
theorem repeat_add (f : Nat → Nat) (m : Nat) : ∀ n x, Nat.repeat f (m + n) x = Nat.repeat f n (Nat.repeat f m x)
  | 0, _ => rfl
  | n + 1, x => congrArg f (repeat_add f m n x)
theorem repeat_comm (f : Nat → Nat) : ∀ n x, Nat.repeat f n (f x) = f (Nat.repeat f n x)
  | 0, _ => rfl
  | n + 1, x => congrArg f (repeat_comm f n x)
theorem twice {f : Nat → Nat} {k : Nat} {ps : List Nat} (h : ∀ x, Nat.repeat f k x = sT ps x) : ∀ x, Nat.repeat f (k + k) x = sT (ps.map (sT ps)) x := fun x => by
  rw [repeat_add, h, h, sT_map (lin_sT ps)]
/-- x ** (2 i) mod P, i < 32 -/
def pw : Nat → Nat
  | 0 => 1
  | k + 1 => mB (mB (pw k))
def pwT : List Nat := (List.range 32).map pw
def sq (x : Nat) : Nat := sT pwT x
theorem lin_sq : Lin sq := lin_sT _
def dbl (ps : List Nat) : List Nat := ps.map (sT ps)
theorem sq32_tab : dbl (dbl (dbl (dbl (dbl pwT)))) = (List.range 32).map (2 ^ ·) := by decide +kernel
theorem all_lt {n : Nat} {p : Nat → Prop} [DecidablePred p] (h : (List.range n).all (fun i => decide (p i)) = true) : ∀ i, i < n → p i := fun i hi => of_decide_eq_true (List.all_eq_true.mp h i (List.mem_range.mpr hi))
theorem sq32 {x : Nat} (hx : x < 2 ^ 32) : Nat.repeat sq 32 x = x := by
  have h1 : ∀ x, Nat.repeat sq 1 x = sT pwT x := fun _ => rfl
  have h32 := twice (twice (twice (twice (twice h1)))) x
  have e : ((((pwT.map (sT pwT)).map (sT (pwT.map (sT pwT)))).map (sT ((pwT.map (sT pwT)).map (sT (pwT.map (sT pwT)))))).map (sT (((pwT.map (sT pwT)).map (sT (pwT.map (sT pwT)))).map (sT ((pwT.map (sT pwT)).map (sT (pwT.map (sT pwT)))))))) = dbl (dbl (dbl (dbl pwT))) := rfl
  refine (show Nat.repeat sq 32 x = _ from h32).trans ?_
  show sT (dbl (dbl (dbl (dbl (dbl pwT))))) x = x
  rw [sq32_tab]
  exact basis (lin_sT _) Lin.id 32 (all_lt (by decide +kernel)) x hx
theorem tg {c : Nat} (hc : c < 2 ^ 32) : tK 32 (gB c) = mB (tK 32 c) :=
  basis (Lin.comp (lin_tK 32) lin_gB) (Lin.comp lin_mB (lin_tK 32)) 32 (all_lt (by decide +kernel)) c hc
theorem tt {c : Nat} (hc : c < 2 ^ 32) : tK 32 (tK 32 c) = c :=
  basis (Lin.comp (lin_tK 32) (lin_tK 32)) Lin.id 32 (all_lt (by decide +kernel)) c hc
theorem md {c : Nat} (hc : c < 2 ^ 32) : mB (dB c) = c :=
  basis (Lin.comp lin_mB lin_dB) Lin.id 32 (all_lt (by decide +kernel)) c hc
theorem sm {c : Nat} (hc : c < 2 ^ 32) : sq (mB c) = mB (mB (sq c)) :=
  basis (Lin.comp lin_sq lin_mB) (Lin.comp lin_mB (Lin.comp lin_mB lin_sq)) 32 (all_lt (by decide +kernel)) c hc
end Mine
end
-- M3
section
open PySem PySem.W PyProof.Rows
set_option maxRecDepth 10000
namespace Mine
theorem lin_shr (k : Nat) : Lin (fun x => x / 2 ^ k) := fun a b => by
  simp only [← Nat.shiftRight_eq_div_pow]
  exact Nat.shiftRight_xor_distrib
theorem bnd {f : Nat → Nat} (hf : Lin f) (h : ∀ i, i < 32 → f (2 ^ i) / 2 ^ 32 = 0) {x : Nat} (hx : x < 2 ^ 32) : f x < 2 ^ 32 := by
  have e := basis (Lin.comp (lin_shr 32) hf) (g := fun _ => 0) (fun _ _ => by simp) 32 h x hx
  have e' : f x / 2 ^ 32 = 0 := e
  have := Nat.div_add_mod (f x) (2 ^ 32)
  have := Nat.mod_lt (f x) (show 0 < 2 ^ 32 by decide)
  omega
theorem gB_lt {x : Nat} (hx : x < 2 ^ 32) : gB x < 2 ^ 32 := bnd lin_gB (all_lt (by decide +kernel)) hx
theorem mB_lt {x : Nat} (hx : x < 2 ^ 32) : mB x < 2 ^ 32 := bnd lin_mB (all_lt (by decide +kernel)) hx
theorem dB_lt {x : Nat} (hx : x < 2 ^ 32) : dB x < 2 ^ 32 := bnd lin_dB (all_lt (by decide +kernel)) hx
theorem tK_lt {x : Nat} (hx : x < 2 ^ 32) : tK 32 x < 2 ^ 32 := bnd (lin_tK 32) (all_lt (by decide +kernel)) hx
theorem sq_lt {x : Nat} (hx : x < 2 ^ 32) : sq x < 2 ^ 32 := bnd lin_sq (all_lt (by decide +kernel)) hx
theorem rep_lt {f : Nat → Nat} (hf : ∀ x, x < 2 ^ 32 → f x < 2 ^ 32) : ∀ n x, x < 2 ^ 32 → Nat.repeat f n x < 2 ^ 32
  | 0, _, h => h
  | n + 1, x, h => hf _ (rep_lt hf n x h)
theorem tb0 (n : Nat) : (n.testBit 0 = true) ↔ ((n : Int) % 2 = 1) := by
  rw [Nat.testBit_zero, decide_eq_true_iff]; omega
theorem castpow (k : Nat) : ((2 : Int) ^ k) = ((2 ^ k : Nat) : Int) := (kbt_cast k).symm
theorem tbk (n k : Nat) : (n.testBit k = true) ↔ (((n : Int) / 2 ^ k) % 2 = 1) := by
  rw [Nat.testBit_eq_decide_div_mod_eq, decide_eq_true_iff, castpow, ← Int.natCast_ediv]; omega
theorem bitv (n k : Nat) : ((n : Int) / 2 ^ k) % 2 = ((if n.testBit k = true then 1 else 0 : Nat) : Int) := by
  by_cases h : n.testBit k = true
  · rw [if_pos h]; exact (tbk n k).mp h
  · rw [if_neg h]
    have h2 := mt (tbk n k).mpr h
    have h3 := Int.emod_two_eq ((n : Int) / 2 ^ k)
    omega
theorem gen_cast (c : Nat) : genBit (c : Int) = ((gB c : Nat) : Int) := by
  unfold genBit gB
  by_cases h : c.testBit 0 = true
  · rw [if_pos ((tb0 c).mp h), if_pos h, ← xorZ]; rfl
  · rw [if_neg (mt (tb0 c).mpr h), if_neg h, Nat.xor_zero]; rfl
theorem genN_cast (c : Nat) : ∀ k, genN k (c : Int) = ((Nat.repeat gB k c : Nat) : Int)
  | 0 => rfl
  | k + 1 => by rw [genN, genN_cast c k, gen_cast]; rfl
theorem dbl_xor (t b : Nat) (hb : b < 2) : 2 * t ^^^ b = 2 * t + b := by
  have h := xor_add_and (2 * t) b
  have h2 : (2 * t) &&& b = 0 := by
    rcases (show b = 0 ∨ b = 1 by omega) with rfl | rfl
    · simp
    · rw [Nat.and_one_is_mod]; omega
  omega
theorem turn_cast (n : Nat) : ∀ k, turnN (n : Int) k = ((tK k n : Nat) : Int)
  | 0 => rfl
  | k + 1 => by
    rw [turnN, turn_cast n k, bitv, tK, dbl_xor _ _ (by split <;> decide)]
    omega
theorem tb31 {r : Nat} (hr : r < 2 ^ 32) : (r.testBit 31 = true) ↔ 2 ^ 31 ≤ r := by
  rw [Nat.testBit_eq_decide_div_mod_eq, decide_eq_true_iff]; omega
theorem rest_cast {r b : Nat} (hr : r < 2 ^ 32) (hb : b < 2) : restStep (r : Int) (b : Int) = ((mB r ^^^ b : Nat) : Int) := by
  have e : (2 * (r : Int) + (b : Int)) = ((2 * r ^^^ b : Nat) : Int) := by rw [dbl_xor r b hb]; omega
  unfold restStep mB
  rw [e]
  by_cases h : r.testBit 31 = true
  · have := (tb31 hr).mp h
    rw [if_pos (by rw [dbl_xor r b hb]; omega), if_pos h, show (4374732215 : Int) = ((4374732215 : Nat) : Int) from rfl, xorZ]
    congr 1
    ac_rfl
  · have := mt (tb31 hr).mpr h
    rw [if_neg (by rw [dbl_xor r b hb]; omega), if_neg h, Nat.xor_zero]
theorem div_cast (l : Nat) : divStep (l : Int) = ((dB l : Nat) : Int) := by
  unfold divStep dB
  by_cases h : l.testBit 0 = true
  · rw [if_pos ((tb0 l).mp h), if_pos h, show (4374732215 : Int) = ((4374732215 : Nat) : Int) from rfl, xorZ]; rfl
  · rw [if_neg (mt (tb0 l).mpr h), if_neg h, Nat.xor_zero]; rfl
theorem divN_cast (l : Nat) : ∀ k, divN (l : Int) k = ((Nat.repeat dB k l : Nat) : Int)
  | 0 => rfl
  | k + 1 => by rw [divN, divN_cast l k, div_cast]; rfl
theorem pow_cast {p : Nat} (hp : p < 2 ^ 32) : powStep (p : Int) = ((mB p : Nat) : Int) := by
  have := rest_cast hp (show 0 < 2 by decide)
  rw [Nat.xor_zero] at this
  rw [← this]
  unfold powStep restStep
  simp only [Int.natCast_zero, Int.add_zero, ge_iff_le]
theorem pw_lt : ∀ k, pw k < 2 ^ 32
  | 0 => by decide
  | k + 1 => mB_lt (mB_lt (pw_lt k))
theorem powN_cast : ∀ k, powN k = ((pw k : Nat) : Int)
  | 0 => rfl
  | k + 1 => by
    rw [powN, powN_cast k]
    show powStep (powStep ((pw k : Nat) : Int)) = _
    rw [pow_cast (pw_lt k), pow_cast (mB_lt (pw_lt k))]; rfl
def sK : Nat → Nat → Nat
  | 0, _ => 0
  | k + 1, l => sK k l ^^^ (if l.testBit k = true then pw k else 0)
theorem lin_sK : ∀ k, Lin (sK k)
  | 0 => fun _ _ => by simp [sK]
  | k + 1 => (lin_sK k).xor (lin_bit k (pw k))
theorem sK_sq {l : Nat} (hl : l < 2 ^ 32) : sK 32 l = sq l := basis (lin_sK 32) lin_sq 32 (all_lt (by decide +kernel)) l hl
theorem sqN_cast (l : Nat) : ∀ k, sqN (l : Int) k = ((sK k l : Nat) : Int)
  | 0 => rfl
  | k + 1 => by
    rw [sqN, sqN_cast l k, powN_cast, sK]
    by_cases h : l.testBit k = true
    · rw [if_pos ((tbk l k).mp h), if_pos h, xorZ]
    · rw [if_neg (mt (tbk l k).mpr h), if_neg h, Nat.xor_zero]
theorem leftN_cast {l : Nat} (hl : l < 2 ^ 32) : ∀ k, leftN (l : Int) k = ((Nat.repeat sq k l : Nat) : Int)
  | 0 => rfl
  | k + 1 => by
    rw [leftN, leftN_cast hl k, sqN_cast, sK_sq (rep_lt (fun x h => sq_lt h) k l hl)]; rfl
def qOf (c b : Nat) : Nat := Nat.repeat sq 29 (Nat.repeat dB (32 + 8 * b) (tK 32 c))
def qb : Nat → Nat → List Nat
  | 0, _ => []
  | k + 1, q => qb k (q / 2) ++ [q % 2]
theorem qb_len : ∀ k q, (qb k q).length = k
  | 0, _ => rfl
  | k + 1, q => by simp [qb, qb_len k]
theorem qb_range : ∀ k q, (List.range k).map (fun i => q / 2 ^ (k - 1 - i) % 2) = qb k q
  | 0, _ => rfl
  | k + 1, q => by
    rw [List.range_succ, List.map_append, qb, ← qb_range k (q / 2)]
    congr 1
    · refine List.map_congr_left fun i hi => ?_
      have hi := List.mem_range.mp hi
      rw [show k + 1 - 1 - i = (k - 1 - i) + 1 by omega, Nat.pow_succ, Nat.mul_comm, Nat.div_div_eq_div_mul]
    · simp
theorem qOf_lt {c : Nat} (hc : c < 2 ^ 32) (b : Nat) : qOf c b < 2 ^ 32 := rep_lt (fun x h => sq_lt h) _ _ (rep_lt (fun x h => dB_lt h) _ _ (tK_lt hc))
theorem choice_cast {c : Nat} (hc : c < 2 ^ 32) (b : Nat) : choiceZ (c : Int) b = (qb 32 (qOf c b)).map (fun (n : Nat) => (n : Int)) := by
  rw [← qb_range]
  unfold choiceZ
  rw [turn_cast, divN_cast, leftN_cast (rep_lt (fun x h => dB_lt h) _ _ (tK_lt hc)), List.map_map]
  refine List.map_congr_left fun i _ => ?_
  show _ = ((qOf c b / 2 ^ (32 - 1 - i) % 2 : Nat) : Int)
  rw [castpow]
  rfl
end Mine
end
-- M4
section
open PySem PySem.W PyProof.Rows
set_option maxRecDepth 10000
namespace Mine
def g8 (y : Nat) : Nat := Nat.repeat gB 8 y
def m8 (y : Nat) : Nat := Nat.repeat mB 8 y
theorem lin_g8 : Lin g8 := lin_iter lin_gB 8
theorem lin_m8 : Lin m8 := lin_iter lin_mB 8
theorem g8_lt {x : Nat} (h : x < 2 ^ 32) : g8 x < 2 ^ 32 := rep_lt (fun _ h => gB_lt h) 8 x h
theorem m8_lt {x : Nat} (h : x < 2 ^ 32) : m8 x < 2 ^ 32 := rep_lt (fun _ h => mB_lt h) 8 x h
theorem lin_mod (k : Nat) : Lin (fun x => x % 2 ^ k) := fun _ _ => Nat.xor_mod_two_pow
theorem g8_cut {y : Nat} (hy : y < 2 ^ 32) : g8 y = y / 2 ^ 8 ^^^ g8 (y % 2 ^ 8) :=
  basis lin_g8 ((lin_shr 8).xor (Lin.comp lin_g8 (lin_mod 8))) 32 (all_lt (by decide +kernel)) y hy
theorem xor_lt32 {a b : Nat} (ha : a < 2 ^ 32) (hb : b < 2 ^ 32) : a ^^^ b < 2 ^ 32 := Nat.xor_lt_two_pow ha hb
theorem sum_cast {c x : Nat} (hc : c < 2 ^ 32) (hx : x < 256) : sumStep (c : Int) (x : Int) = ((g8 (c ^^^ x) : Nat) : Int) := by
  unfold sumStep
  rw [xorZ]
  have e1 : (((c ^^^ x : Nat) : Int) % 256) = (((c ^^^ x) % 2 ^ 8 : Nat) : Int) := by omega
  have e2 : ((c : Int) / 256) = ((c / 2 ^ 8 : Nat) : Int) := by omega
  have e3 : (c ^^^ x) / 2 ^ 8 = c / 2 ^ 8 := by
    have := lin_shr 8 c x
    dsimp only at this
    rw [this, Nat.div_eq_of_lt (show x < 2 ^ 8 by omega), Nat.xor_zero]
  rw [e1, e2, genN_cast, xorZ, g8_cut (xor_lt32 hc (by omega)), e3]
  rfl
def raw (c : Nat) (xs : List Nat) : Nat := xs.foldl (fun c x => g8 (c ^^^ x)) c
theorem raw_cast : ∀ (xs : List Nat) (c : Nat), c < 2 ^ 32 → (∀ x ∈ xs, x < 256) → (xs.map (fun (n : Nat) => (n : Int))).foldl sumStep (c : Int) = ((raw c xs : Nat) : Int)
  | [], _, _, _ => rfl
  | x :: xs, c, hc, h => by
    rw [List.map_cons, List.foldl_cons, sum_cast hc (h x (.head _)), raw_cast xs _ (g8_lt (xor_lt32 hc (by have := h x (.head _); omega))) fun y hy => h y (.tail _ hy)]
    rfl
theorem raw_lt : ∀ (xs : List Nat) (c : Nat), c < 2 ^ 32 → (∀ x ∈ xs, x < 256) → raw c xs < 2 ^ 32
  | [], _, hc, _ => hc
  | x :: xs, c, hc, h => raw_lt xs _ (g8_lt (xor_lt32 hc (by have := h x (.head _); omega))) fun y hy => h y (.tail _ hy)
theorem raw_xor : ∀ (xs ys : List Nat) (c d : Nat), xs.length = ys.length → raw (c ^^^ d) (List.zipWith (· ^^^ ·) xs ys) = raw c xs ^^^ raw d ys
  | [], [], _, _, _ => rfl
  | x :: xs, y :: ys, c, d, h => by
    show raw (g8 ((c ^^^ d) ^^^ (x ^^^ y))) (List.zipWith (· ^^^ ·) xs ys) = raw (g8 (c ^^^ x)) xs ^^^ raw (g8 (d ^^^ y)) ys
    rw [← raw_xor xs ys _ _ (by simpa using h), ← lin_g8]
    congr 2
    ac_rfl
theorem tg8 {c : Nat} (hc : c < 2 ^ 32) : tK 32 (g8 c) = m8 (tK 32 c) := by
  have : ∀ n x, x < 2 ^ 32 → tK 32 (Nat.repeat gB n x) = Nat.repeat mB n (tK 32 x) := by
    intro n
    induction n with
    | zero => intro _ _; rfl
    | succ n ih =>
      intro x hx
      show tK 32 (gB (Nat.repeat gB n x)) = mB (Nat.repeat mB n (tK 32 x))
      rw [tg (rep_lt (fun _ h => gB_lt h) n x hx), ih x hx]
  exact this 8 c hc
/-- the turned register over the chosen bits -/
def tf (t : Nat) (fs : List Nat) : Nat := fs.foldl (fun t f => m8 t ^^^ (if f = 1 then 79764919 else 0)) t
theorem traw : ∀ (fs : List Nat) (c : Nat), c < 2 ^ 32 → (∀ f ∈ fs, f < 2) → tK 32 (raw c (fs.map (128 * ·))) = tf (tK 32 c) fs
  | [], _, _, _ => rfl
  | f :: fs, c, hc, h => by
    have hf := h f (.head _)
    have h128 : 128 * f < 2 ^ 32 := by omega
    show tK 32 (raw (g8 (c ^^^ 128 * f)) (fs.map (128 * ·))) = tf (m8 (tK 32 c) ^^^ (if f = 1 then 79764919 else 0)) fs
    rw [traw fs _ (g8_lt (xor_lt32 hc h128)) fun y hy => h y (.tail _ hy), tg8 (xor_lt32 hc h128), lin_tK, lin_m8]
    congr 2
    rcases (show f = 0 ∨ f = 1 by omega) with rfl | rfl
    · decide +kernel
    · decide +kernel
def horner (n : Nat) (fs : List Nat) : Nat := fs.foldl (fun n f => 2 * n + f) n
def s3 (x : Nat) : Nat := sq (sq (sq x))
theorem lin_s3 : Lin s3 := Lin.comp (f := sq) (g := fun x => sq (sq x)) lin_sq (Lin.comp lin_sq lin_sq)
theorem s3m {c : Nat} (hc : c < 2 ^ 32) : s3 (mB c) = m8 (s3 c) := by
  unfold s3
  have h1 := sq_lt hc
  have h2 := sq_lt h1
  rw [sm hc, sm (mB_lt h1), sm h1, sm (mB_lt (mB_lt (mB_lt h2))), sm (mB_lt (mB_lt h2)), sm (mB_lt h2), sm h2]
  rfl
def phi (n : Nat) : Nat := Nat.repeat mB 32 (s3 n)
theorem lin_phi : Lin phi := Lin.comp (f := fun x => Nat.repeat mB 32 x) (g := s3) (lin_iter lin_mB 32) lin_s3
theorem m8_rep (n x : Nat) : Nat.repeat mB n (m8 x) = m8 (Nat.repeat mB n x) := by
  show Nat.repeat mB n (Nat.repeat mB 8 x) = Nat.repeat mB 8 (Nat.repeat mB n x)
  rw [← repeat_add, ← repeat_add, Nat.add_comm]
theorem mB_small {n : Nat} (hn : n < 2 ^ 31) : mB n = 2 * n := by
  unfold mB
  rw [if_neg (by rw [tb31 (by omega)]; omega), Nat.xor_zero]
theorem phi_step {n f : Nat} (hn : n < 2 ^ 31) (hf : f < 2) : phi (2 * n + f) = m8 (phi n) ^^^ (if f = 1 then 79764919 else 0) := by
  rw [← dbl_xor n f hf, lin_phi, ← mB_small hn]
  congr 1
  · unfold phi
    rw [s3m (by omega), m8_rep]
  · rcases (show f = 0 ∨ f = 1 by omega) with rfl | rfl
    · decide +kernel
    · decide +kernel
theorem tf_phi : ∀ (fs : List Nat) (n k : Nat), n < 2 ^ k → k + fs.length ≤ 32 → (∀ f ∈ fs, f < 2) → tf (phi n) fs = phi (horner n fs)
  | [], _, _, _, _, _ => rfl
  | f :: fs, n, k, hn, hk, h => by
    have hf := h f (.head _)
    simp only [List.length_cons] at hk
    have hn' : n < 2 ^ 31 := Nat.lt_of_lt_of_le hn (Nat.pow_le_pow_right (by decide) (by omega))
    show tf (m8 (phi n) ^^^ (if f = 1 then 79764919 else 0)) fs = phi (horner (2 * n + f) fs)
    rw [← phi_step hn' hf]
    exact tf_phi fs (2 * n + f) (k + 1) (by rw [Nat.pow_succ]; omega) (by omega) fun y hy => h y (.tail _ hy)
theorem horner_qb : ∀ k q, q < 2 ^ k → horner 0 (qb k q) = q
  | 0, q, h => by
    have : q = 0 := by simpa using h
    subst this; rfl
  | k + 1, q, h => by
    unfold horner
    rw [qb, List.foldl_append]
    have := horner_qb k (q / 2) (by rw [Nat.pow_succ] at h; omega)
    unfold horner at this
    rw [this]
    show 2 * (q / 2) + q % 2 = q
    omega
theorem qb_bit : ∀ k q, ∀ f ∈ qb k q, f < 2
  | 0, _, f, h => by cases h
  | k + 1, q, f, h => by
    rcases List.mem_append.mp h with h | h
    · exact qb_bit k _ f h
    · rw [List.mem_singleton.mp h]; exact Nat.mod_lt _ (by decide)
theorem tf_zeros_lead (n : Nat) : tf 0 (List.replicate n 0) = 0 := by
  induction n with
  | zero => rfl
  | succ n ih =>
    rw [List.replicate_succ]
    show tf (m8 0 ^^^ 0) (List.replicate n 0) = 0
    rw [lin_m8.zero]; exact ih
theorem tf_zeros (n : Nat) : ∀ t, tf t (List.replicate n 0) = Nat.repeat m8 n t := by
  induction n with
  | zero => intro _; rfl
  | succ n ih =>
    intro t
    rw [List.replicate_succ]
    show tf (m8 t ^^^ 0) (List.replicate n 0) = m8 (Nat.repeat m8 n t)
    rw [Nat.xor_zero, ih, repeat_comm]
theorem m8_many (n : Nat) : ∀ x, Nat.repeat m8 n x = Nat.repeat mB (8 * n) x := by
  induction n with
  | zero => intro _; rfl
  | succ n ih =>
    intro x
    show m8 (Nat.repeat m8 n x) = _
    rw [ih, Nat.mul_succ, repeat_add]; rfl
theorem undo : ∀ n x, x < 2 ^ 32 → Nat.repeat mB n (Nat.repeat dB n x) = x
  | 0, _, _ => rfl
  | n + 1, x, hx => by
    show mB (Nat.repeat mB n (dB (Nat.repeat dB n x))) = x
    rw [← repeat_comm mB, md (rep_lt (fun _ h => dB_lt h) n x hx)]
    exact undo n x hx
def fullN (c b : Nat) : List Nat := List.replicate (4 - b) 0 ++ qb 32 (qOf c b) ++ List.replicate b 0
theorem fullN_bit (c b : Nat) : ∀ f ∈ fullN c b, f < 2 := by
  intro f h
  rcases List.mem_append.mp h with h | h
  · rcases List.mem_append.mp h with h | h
    · rw [(List.mem_replicate.mp h).2]; decide
    · exact qb_bit _ _ f h
  · rw [(List.mem_replicate.mp h).2]; decide
theorem partB {c : Nat} (hc : c < 2 ^ 32) (b : Nat) : raw 0 ((fullN c b).map (128 * ·)) = c := by
  have hlt : raw 0 ((fullN c b).map (128 * ·)) < 2 ^ 32 := raw_lt _ _ (by decide) (by
    intro x hx
    obtain ⟨f, hf, rfl⟩ := List.mem_map.mp hx
    have := fullN_bit c b f hf
    omega)
  have h1 : tK 32 (raw 0 ((fullN c b).map (128 * ·))) = tK 32 c := by
    rw [traw _ _ (by decide) (fullN_bit c b)]
    have e0 : tK 32 0 = 0 := (lin_tK 32).zero
    rw [e0]
    have split : ∀ t xs ys, tf t (xs ++ ys) = tf (tf t xs) ys := fun t xs ys => List.foldl_append
    unfold fullN
    rw [split, split, tf_zeros_lead]
    have e1 : tf 0 (qb 32 (qOf c b)) = phi (qOf c b) := by
      have := tf_phi (qb 32 (qOf c b)) 0 0 (by decide) (by rw [qb_len]; decide) (qb_bit _ _)
      rw [lin_phi.zero, horner_qb 32 _ (qOf_lt hc b)] at this
      exact this
    rw [e1, tf_zeros, m8_many]
    have hl : Nat.repeat dB (32 + 8 * b) (tK 32 c) < 2 ^ 32 := rep_lt (fun _ h => dB_lt h) _ _ (tK_lt hc)
    have e2 : s3 (qOf c b) = Nat.repeat dB (32 + 8 * b) (tK 32 c) := by
      show Nat.repeat sq 3 (Nat.repeat sq 29 _) = _
      rw [← repeat_add]
      exact sq32 hl
    unfold phi
    rw [e2, ← repeat_add]
    exact undo _ _ (tK_lt hc)
  rw [← tt hlt, h1, tt hc]
end Mine
end
-- M5
section
open PySem PySem.W PyProof.Rows
set_option maxRecDepth 10000
namespace Mine
def tstep (t b : Nat) : Nat := mB (t ^^^ b * 2 ^ 31)
def rstep (r b : Nat) : Nat := mB r ^^^ b
def cb (c : Nat) : List Nat := (List.range 8).map fun k => c / 2 ^ k % 2
def bitsN (codes : List Nat) : List Nat := codes.flatMap cb
theorem tstep_sup : ∀ (bs : List Nat) (t u : Nat), bs.foldl tstep (t ^^^ u) = bs.foldl tstep t ^^^ Nat.repeat mB bs.length u
  | [], _, _ => rfl
  | b :: bs, t, u => by
    have e : tstep (t ^^^ u) b = tstep t b ^^^ mB u := by
      unfold tstep
      rw [← lin_mB]
      congr 1
      ac_rfl
    rw [List.foldl_cons, List.foldl_cons, e, tstep_sup bs, List.length_cons, repeat_comm]
    rfl
theorem rstep_sup : ∀ (bs : List Nat) (t u : Nat), bs.foldl rstep (t ^^^ u) = bs.foldl rstep t ^^^ Nat.repeat mB bs.length u
  | [], _, _ => rfl
  | b :: bs, t, u => by
    have e : rstep (t ^^^ u) b = rstep t b ^^^ mB u := by
      unfold rstep
      rw [lin_mB]
      ac_rfl
    rw [List.foldl_cons, List.foldl_cons, e, rstep_sup bs, List.length_cons, repeat_comm]
    rfl
theorem code_tab : ∀ c, c < 256 → m8 (tK 32 c) = (cb c).foldl tstep 0 := all_lt (by decide +kernel)
theorem cb_len (c : Nat) : (cb c).length = 8 := by simp [cb]
theorem one_code {c x : Nat} (hc : c < 2 ^ 32) (hx : x < 256) : tK 32 (g8 (c ^^^ x)) = (cb x).foldl tstep (tK 32 c) := by
  rw [tg8 (xor_lt32 hc (by omega)), lin_tK, lin_m8, code_tab x hx]
  have := tstep_sup (cb x) 0 (tK 32 c)
  rw [Nat.zero_xor, cb_len] at this
  rw [this, Nat.xor_comm]
  rfl
theorem traw_bits : ∀ (xs : List Nat) (c : Nat), c < 2 ^ 32 → (∀ x ∈ xs, x < 256) → tK 32 (raw c xs) = (bitsN xs).foldl tstep (tK 32 c)
  | [], _, _, _ => rfl
  | x :: xs, c, hc, h => by
    have hx := h x (.head _)
    show tK 32 (raw (g8 (c ^^^ x)) xs) = (cb x ++ bitsN xs).foldl tstep (tK 32 c)
    rw [traw_bits xs _ (g8_lt (xor_lt32 hc (by omega))) fun y hy => h y (.tail _ hy), one_code hc hx, List.foldl_append]
def phi32 (r : Nat) : Nat := Nat.repeat mB 32 r
theorem lin_phi32 : Lin phi32 := lin_iter lin_mB 32
theorem sim : ∀ (bs : List Nat) (r : Nat), (∀ b ∈ bs, b < 2) → bs.foldl tstep (phi32 r) = phi32 (bs.foldl rstep r)
  | [], _, _ => rfl
  | b :: bs, r, h => by
    have hb := h b (.head _)
    have e : tstep (phi32 r) b = phi32 (rstep r b) := by
      unfold tstep rstep
      rw [lin_mB, lin_phi32]
      have e1 : mB (phi32 r) = phi32 (mB r) := (repeat_comm mB 32 r).symm
      have e2 : mB (b * 2 ^ 31) = phi32 b := by
        rcases (show b = 0 ∨ b = 1 by omega) with rfl | rfl
        · decide +kernel
        · decide +kernel
      rw [e1, e2]
    rw [List.foldl_cons, List.foldl_cons, e]
    exact sim bs _ fun y hy => h y (.tail _ hy)
theorem flip_sup : ∀ (bs : List Nat) (a c : Nat), (∀ b ∈ bs, b < 2) → (bs.map (1 - ·)).foldl rstep (a ^^^ c) = bs.foldl rstep a ^^^ (List.replicate bs.length 1).foldl rstep c
  | [], _, _, _ => rfl
  | b :: bs, a, c, h => by
    have hb := h b (.head _)
    have e : rstep (a ^^^ c) (1 - b) = rstep a b ^^^ rstep c 1 := by
      unfold rstep
      rw [lin_mB, show 1 - b = b ^^^ 1 by rcases (show b = 0 ∨ b = 1 by omega) with rfl | rfl <;> rfl]
      ac_rfl
    rw [List.map_cons, List.foldl_cons, List.foldl_cons, List.length_cons, List.replicate_succ, List.foldl_cons, e]
    exact flip_sup bs _ _ fun y hy => h y (.tail _ hy)
theorem zeros_rest : ∀ n r, (List.replicate n 0).foldl rstep r = Nat.repeat mB n r
  | 0, _ => rfl
  | n + 1, r => by
    rw [List.replicate_succ, List.foldl_cons]
    have e : rstep r 0 = mB r := Nat.xor_zero _
    rw [e, zeros_rest n, repeat_comm]; rfl
theorem partC {bs1 bs2 : List Nat} (hl : bs1.length = 32) (h1 : ∀ b ∈ bs1, b < 2) (h2 : ∀ b ∈ bs2, b < 2) :
    (bs1 ++ bs2).foldl tstep 4294967295 = (bs1.map (1 - ·) ++ bs2 ++ List.replicate 32 0).foldl rstep 0 := by
  have hF : phi32 (Nat.repeat dB 32 4294967295) = 4294967295 := undo 32 _ (by decide)
  have e1 : (bs1 ++ bs2).foldl tstep 4294967295 = phi32 ((bs1 ++ bs2).foldl rstep (Nat.repeat dB 32 4294967295)) := by
    rw [← sim _ _ (by intro b hb; rcases List.mem_append.mp hb with h | h; exact h1 b h; exact h2 b h), hF]
  rw [e1, List.foldl_append, List.foldl_append, zeros_rest, List.foldl_append]
  show Nat.repeat mB 32 _ = Nat.repeat mB 32 _
  congr 2
  have e2 := rstep_sup bs1 0 (Nat.repeat dB 32 4294967295)
  have e3 := flip_sup bs1 0 0 h1
  rw [Nat.zero_xor, hl] at e2
  rw [Nat.zero_xor, hl] at e3
  rw [e2, e3, show Nat.repeat mB 32 (Nat.repeat dB 32 4294967295) = 4294967295 from hF, show (List.replicate 32 1).foldl rstep 0 = 4294967295 by decide +kernel]
theorem rest_lt {r b : Nat} (hr : r < 2 ^ 32) (hb : b < 2) : rstep r b < 2 ^ 32 := xor_lt32 (mB_lt hr) (by omega)
theorem restL_cast : ∀ (bs : List Nat) (r : Nat), r < 2 ^ 32 → (∀ b ∈ bs, b < 2) → (bs.map (fun (n : Nat) => (n : Int))).foldl restStep (r : Int) = ((bs.foldl rstep r : Nat) : Int)
  | [], _, _, _ => rfl
  | b :: bs, r, hr, h => by
    have hb := h b (.head _)
    rw [List.map_cons, List.foldl_cons, rest_cast hr hb, List.foldl_cons]
    exact restL_cast bs _ (rest_lt hr hb) fun y hy => h y (.tail _ hy)
theorem bitsN_bit (xs : List Nat) : ∀ b ∈ bitsN xs, b < 2 := by
  intro b hb
  obtain ⟨c, _, hb⟩ := List.mem_flatMap.mp hb
  obtain ⟨k, _, rfl⟩ := List.mem_map.mp hb
  exact Nat.mod_lt _ (by decide)
theorem bitsN_len (xs : List Nat) : (bitsN xs).length = 8 * xs.length := by
  induction xs with
  | nil => rfl
  | cons x xs ih =>
    show (cb x ++ bitsN xs).length = _
    rw [List.length_append, cb_len, ih, List.length_cons]; omega
theorem bits_cast : ∀ xs : List Nat, bitsR (xs.map (fun (n : Nat) => (n : Int))) = (bitsN xs).map (fun (n : Nat) => (n : Int))
  | [] => rfl
  | x :: xs => by
    have ih := bits_cast xs
    unfold bitsR at ih ⊢
    rw [List.length_map] at ih ⊢
    rw [List.length_cons, show 8 * (xs.length + 1) = 8 + 8 * xs.length by omega, List.range_add, List.map_append]
    show _ = (cb x ++ bitsN xs).map _
    rw [List.map_append, ← ih]
    have e1 : (List.range 8).map (fun k => ((((x : Nat) : Int) :: xs.map (fun (n : Nat) => (n : Int))).getD (k / 8) 0 / 2 ^ (k % 8)) % 2) = (cb x).map (fun (n : Nat) => (n : Int)) := by
      unfold cb
      rw [List.map_map]
      refine List.map_congr_left fun k hk => ?_
      have hk := List.mem_range.mp hk
      rw [show k / 8 = 0 by omega, show k % 8 = k by omega]
      show ((x : Int) / 2 ^ k) % 2 = ((x / 2 ^ k % 2 : Nat) : Int)
      rw [castpow]; rfl
    have e2 : ((List.range (8 * xs.length)).map (8 + ·)).map (fun k => ((((x : Nat) : Int) :: xs.map (fun (n : Nat) => (n : Int))).getD (k / 8) 0 / 2 ^ (k % 8)) % 2) = (List.range (8 * xs.length)).map fun k => ((xs.map (fun (n : Nat) => (n : Int))).getD (k / 8) 0 / 2 ^ (k % 8)) % 2 := by
      rw [List.map_map]
      refine List.map_congr_left fun k _ => ?_
      show ((((x : Nat) : Int) :: xs.map (fun (n : Nat) => (n : Int))).getD ((8 + k) / 8) 0 / 2 ^ ((8 + k) % 8)) % 2 = _
      rw [show (8 + k) / 8 = k / 8 + 1 by omega, show (8 + k) % 8 = k % 8 by omega, List.getD_cons_succ]
    rw [← e2, ← e1]; rfl
theorem flat0' (n : Nat) : (List.replicate n [(0 : Int)]).flatten = (List.replicate n (0 : Nat)).map (fun (n : Nat) => (n : Int)) := by
  induction n with
  | zero => rfl
  | succ n ih => rw [List.replicate_succ, List.flatten_cons, ih, List.replicate_succ]; rfl
theorem plain_cast {xs : List Nat} (hl : 4 ≤ xs.length) (hx : ∀ x ∈ xs, x < 256) : plainZ (xs.map (fun (n : Nat) => (n : Int))) = ((raw 4294967295 xs ^^^ 4294967295 : Nat) : Int) := by
  have hlb := bitsN_len xs
  have h1 : ∀ b ∈ (bitsN xs).take 32, b < 2 := fun b hb => bitsN_bit xs b (List.mem_of_mem_take hb)
  have h2 : ∀ b ∈ (bitsN xs).drop 32, b < 2 := fun b hb => bitsN_bit xs b (List.mem_of_mem_drop hb)
  have eb : plainBits (xs.map (fun (n : Nat) => (n : Int))) = ((((bitsN xs).take 32).map (1 - ·)) ++ (bitsN xs).drop 32 ++ List.replicate 32 0).map (fun (n : Nat) => (n : Int)) := by
    unfold plainBits
    rw [bits_cast, flat0', ← List.map_append, ← List.map_take, ← List.map_drop, List.take_append_of_le_length (by omega), List.drop_append_of_le_length (by omega), List.map_append, List.map_append, List.map_append, List.append_assoc]
    congr 1
    rw [List.map_map, List.map_map]
    refine List.map_congr_left fun b hb => ?_
    have := h1 b hb
    show (1 - (b : Int)) = ((1 - b : Nat) : Int)
    omega
  have hraw : raw 4294967295 xs < 2 ^ 32 := raw_lt xs _ (by decide) hx
  have et : tK 32 (raw 4294967295 xs) = ((((bitsN xs).take 32).map (1 - ·)) ++ (bitsN xs).drop 32 ++ List.replicate 32 0).foldl rstep 0 := by
    rw [traw_bits xs _ (by decide) hx, show tK 32 4294967295 = 4294967295 by decide +kernel, ← partC (by rw [List.length_take]; omega) h1 h2, List.take_append_drop]
  unfold plainZ
  rw [eb]
  have := restL_cast ((((bitsN xs).take 32).map (1 - ·)) ++ (bitsN xs).drop 32 ++ List.replicate 32 0) 0 (by decide) (by
    intro b hb
    rcases List.mem_append.mp hb with hb | hb
    · rcases List.mem_append.mp hb with hb | hb
      · obtain ⟨c, _, rfl⟩ := List.mem_map.mp hb
        omega
      · exact h2 b hb
    · rw [(List.mem_replicate.mp hb).2]; decide)
  rw [show (0 : Int) = ((0 : Nat) : Int) from rfl, this, turn_cast, ← et, tt hraw]
  exact xorZ _ _
end Mine
end
-- M6
section
open PySem PySem.W PyProof.Rows
set_option maxRecDepth 10000
namespace Mine
theorem change_nat (ns : List Int) : ∃ c : Nat, c < 2 ^ 32 ∧ changeZ ns = (c : Int) := by
  obtain ⟨a, ha⟩ : ∃ a : Nat, ns.getD 0 0 % 4294967296 = (a : Int) := ⟨(ns.getD 0 0 % 4294967296).toNat, by omega⟩
  refine ⟨a ^^^ 3988292384, xor_lt32 (by omega) (by decide), ?_⟩
  unfold changeZ
  rw [ha]
  exact xorZ a 3988292384
def codesN (ns : List Int) : List Nat := (List.range 36).map fun i => (thingAt ns i).2.toNat
theorem codes_nat (ns : List Int) : ((List.range 36).map (thingAt ns)).map (·.2) = (codesN ns).map (fun (n : Nat) => (n : Int)) := by
  unfold codesN
  rw [List.map_map, List.map_map]
  refine List.map_congr_left fun i _ => ?_
  show (thingAt ns i).2 = (((thingAt ns i).2.toNat : Nat) : Int)
  rw [Int.toNat_of_nonneg (thing_lo ns i)]
theorem codesN_lt (ns : List Int) : ∀ x ∈ codesN ns, x < 128 := by
  intro x hx
  obtain ⟨i, _, rfl⟩ := List.mem_map.mp hx
  have := thing_lo ns i
  have := thing_hi ns i
  omega
theorem full_nat {c : Nat} (hc : c < 2 ^ 32) (b : Nat) : fullZ (c : Int) b = (fullN c b).map (fun (n : Nat) => (n : Int)) := by
  unfold fullZ fullN
  rw [choice_cast hc, List.map_append, List.map_append, List.map_replicate, List.map_replicate]
  rfl
theorem or_add : ∀ c, c < 128 → c ^^^ 128 = c + 128 := all_lt (by decide +kernel)
theorem sent_nat {c : Nat} (hc : c < 2 ^ 32) {b : Nat} (hb : b < 5) (ns : List Int) :
    ((List.range 36).map (sentAt ns (c : Int) b)).map (·.2) = (List.zipWith (· ^^^ ·) (codesN ns) ((fullN c b).map (128 * ·))).map (fun (n : Nat) => (n : Int)) := by
  have hfl : (fullN c b).length = 36 := by simp [fullN, qb_len]; omega
  refine List.ext_getElem? fun i => ?_
  rw [List.getElem?_map, List.getElem?_map, List.getElem?_map, List.getElem?_zipWith, List.getElem?_map]
  rcases Nat.lt_or_ge i 36 with hi | hi
  · have e1 : (codesN ns)[i]? = some (thingAt ns i).2.toNat := by simp [codesN, hi]
    have e2 : (fullN c b)[i]? = some ((fullN c b)[i]'(by omega)) := List.getElem?_eq_getElem (by omega)
    have e3 : (fullZ (c : Int) b).getD i 0 = (((fullN c b)[i]'(by omega) : Nat) : Int) := by
      rw [full_nat hc, List.getD_eq_getElem?_getD, List.getElem?_map, e2]; rfl
    have hf := fullN_bit c b ((fullN c b)[i]'(by omega)) (List.getElem_mem _)
    have h1 := thing_lo ns i
    have h2 := thing_hi ns i
    rw [e1, e2, List.getElem?_range hi]
    show some (sentAt ns (c : Int) b i).2 = some (((thingAt ns i).2.toNat ^^^ 128 * (fullN c b)[i]'(by omega) : Nat) : Int)
    rw [sent_code, e3]
    congr 1
    rcases (show (fullN c b)[i]'(by omega) = 0 ∨ (fullN c b)[i]'(by omega) = 1 by omega) with h | h
    · rw [h, Nat.mul_zero, Nat.xor_zero]; omega
    · rw [h, Nat.mul_one, or_add _ (by omega)]; omega
  · rw [List.getElem?_eq_none (by simpa using hi), List.getElem?_eq_none (by simpa [codesN] using hi)]
    rfl
theorem law_math (ns : List Int) {b : Nat} (hb : b < 5) :
    Builtin.bitXor ((((List.range 36).map (sentAt ns (changeZ ns) b)).map (·.2)).foldl sumStep 4294967295) 4294967295 = Builtin.bitXor (plainZ (((List.range 36).map (thingAt ns)).map (·.2))) (changeZ ns) := by
  obtain ⟨c, hc, e⟩ := change_nat ns
  have hcl : (codesN ns).length = 36 := by simp [codesN]
  have hfl : ((fullN c b).map (128 * ·)).length = 36 := by simp [fullN, qb_len]; omega
  have h256 : ∀ x ∈ codesN ns, x < 256 := fun x hx => by have := codesN_lt ns x hx; omega
  rw [e, sent_nat hc hb, codes_nat, plain_cast (by omega) h256]
  have hz : ∀ x ∈ List.zipWith (· ^^^ ·) (codesN ns) ((fullN c b).map (128 * ·)), x < 256 := by
    intro x hx
    obtain ⟨i, hi, rfl⟩ := List.mem_iff_getElem.mp hx
    rw [List.getElem_zipWith]
    have h1 := codesN_lt ns ((codesN ns)[i]'(by simp at hi; omega)) (List.getElem_mem _)
    have h2 : ((fullN c b).map (128 * ·))[i]'(by simp at hi; simp; omega) < 256 := by
      rw [List.getElem_map]
      have := fullN_bit c b ((fullN c b)[i]'(by simp at hi; omega)) (List.getElem_mem _)
      omega
    exact Nat.xor_lt_two_pow (n := 8) (by omega) h2
  rw [show (4294967295 : Int) = ((4294967295 : Nat) : Int) from rfl, raw_cast _ _ (by decide) hz, xorZ, xorZ]
  have := raw_xor (codesN ns) ((fullN c b).map (128 * ·)) 4294967295 0 (by rw [hcl, hfl])
  rw [Nat.xor_zero, partB hc b] at this
  rw [this]
  congr 1
  ac_rfl
end Mine
end
-- F8
section
open PySem PySem.W PyProof.Rows PySem.Calls PySem.Spec
set_option maxRecDepth 100000
set_option maxHeartbeats 4000000
theorem PySem.Challenge.cw_nb0008_01_holds : PySem.Challenge.rw_nb0008_01.Holds := by
  refine Mine.hd ?_
  k_fill
  intro w s₀ s₁ mg mb G Y fa o pm cd doc dV kV ho hd hcd hD hmg hg args vals as hpre hlay hrd hwl hlo
  have KX := kIn_of Y
  refine Ground.open G ?_
  intro T B D TE TW
  clear hd ho
  have hfa : mg (Str.ofString "law") = some (.ref 90) := mg_of KX T.g (by k_is)
  have hfa' : mg (Str.ofString "law") = some (.ref fa) := hmg
  obtain rfl : fa = 90 := by
    rw [hfa'] at hfa
    cases hfa; rfl
  clear hcd hD hmg hfa hfa'
  wrow_args hpre hlay hrd hwl hlo
  rename_i ns _ _ _ _ _ _ _ l vs _ hl _ _ _ hI _ hle _
  have hlen : ns.length ≤ 63 := by omega
  obtain ⟨b, hb, hb'⟩ : ∃ b : Nat, b < 5 ∧ ns.getD 1 0 % 5 = (b : Int) := ⟨(ns.getD 1 0 % 5).toNat, by omega, by omega⟩
  refine Mine.law_call ⟨T, KX⟩ (by decide) (by decide) rfl hl ⟨hI⟩ hlen hb hb' (Mine.law_math ns hb) _ _ ?_
  intro v h' tk' hk hv
  subst hv
  exact GoodW.toG ⟨.inl ⟨.bool true, .bool true, [], rfl, fun _ => rfl, .bool true, postW_of rfl (w_eq_bool (w_res rfl) w_lit) rfl, unshared_nil⟩, hk, rfl, hg⟩
end

import PyProof.Rows.All
import Wide.All
import OpenK.AllK
import Wide.FinOn
import Lean
import PySem.Challenge.RW_tv0004_01
open PySem PySem.W PySem.Spec PySem.Calls PyProof.Rows
set_option Elab.async false
set_option maxRecDepth 100000
set_option maxHeartbeats 8000000
namespace Mine

section
variable {prog : Program} {w : World} {A₀ A : Around} {s : Shared} {base h₀ : Heap} {outer : List Env} {L : Addr} {m : Str → Option Value} {env : Env} {K : Frag}
  {p : Program} {loose : List Str} {mean : ExcName → Option Value} {mg mb : Str → Option Value}
  {R : Result → Shared → Prop} {name qual : Str} {params : Arguments} {body : List Stmt} {scope : Scope} {dV kV doc pm cdv ct oc : Value} {an od : Option Addr} {osl : Array (Option Value)} {f : Addr} {args : Args} {binds : List (Str × Value)}
theorem enter_def (B : Below A₀ base outer h₀) (F : Fr h₀ L s.heap m) (X₀ : K.In h₀) (T : Top p loose mean mg mb h₀) (hA : A.frames = some (env :: outer)) (hf : env.frame = some L) (hke : env.scope.kind = .function)
    (ho : K.lookup f = some ⟨oc, od, .func (fnOf name qual params body scope dV kV doc pm an cdv ct), osl⟩) (hcd : codeIn K cdv qual = true) (hroom : A.depth < recursionLimit)
    (hbind : BindsTo s (fnOf name qual params body scope dV kV doc pm an cdv ct) args binds) (hloc : ∀ y ∈ binds, scope.names.lookup y.1 = some .local)
    (h : ∀ h₁, Fr s.heap s.heap.objs.size h₁ (fun y => binds.reverse.lookup y) → News s.heap s.heap.objs.size h₁ [] → Below A base (env :: outer) s.heap → K.In s.heap → Top p loose mean mg mb s.heap →
      wpAny (model prog w) (A.deeper (envOf qual scope s.heap.objs.size f cdv)) (execs body (envOf qual scope s.heap.objs.size f cdv))
        (fun fl s' => R (.ok (.ret (match fl with | .ret v => v | _ => .none))) s')
        (fun e s' => wpAny (model prog w) (A.deeper (envOf qual scope s.heap.objs.size f cdv)) (leaving (envOf qual scope s.heap.objs.size f cdv) e) (fun _ s'' => R (.error e) s'') (fun e' s'' => R (.error e') s'') s')
        { s with heap := h₁, toks := s.toks + binds.length })
    (hco : scope.isCoroutine = false) (hgen : scope.isGenerator = false) (hk : scope.kind = .function)
    (hcell : ∀ x ∈ scope.names, x.2 ≠ .cell) : codeAny (model prog w) A (.call (.ref f) args) R s := by
  refine codeAny_call_def (fd := fnOf name qual params body scope dV kV doc pm an cdv ct) (body := body) (binds := binds) hroom ((X₀.keeps F.keep) _ _ ho) rfl (T.nolimit.keeps F.keep) (codeRec_of (X₀.keeps F.keep) hcd) rfl hbind hcell hloc (fun h₁ hns hk₁ => ?_) hco hgen hk
  refine h h₁ ⟨hns, hk₁, Nat.le_refl _⟩ News.nil ?_ (X₀.keeps F.keep) (T.keeps F.keep)
  have B₁ := pushX B F hf hke
  exact ⟨hA, B₁.stays, B₁.frames⟩
theorem enter_cells (B : Below A₀ base outer h₀) (F : Fr h₀ L s.heap m) (X₀ : K.In h₀) (T : Top p loose mean mg mb h₀) (hA : A.frames = some (env :: outer)) (hf : env.frame = some L) (hke : env.scope.kind = .function)
    (ho : K.lookup f = some ⟨oc, od, .func (fnOf name qual params body scope dV kV doc pm an cdv ct), osl⟩) (hcd : codeIn K cdv qual = true) (hroom : A.depth < recursionLimit)
    (hbind : BindsTo s (fnOf name qual params body scope dV kV doc pm an cdv ct) args binds) (hkind : (binds.all fun y => scope.names.lookup y.1 == some .local || scope.names.lookup y.1 == some .cell) = true)
    (hnd : ((cellsFrom 0 scope.names []).map (·.1)).Nodup)
    (h : ∀ h₁ tk cells, Fr s.heap s.heap.objs.size h₁ (bindL (envOfC qual scope s.heap.objs.size f cdv).kindOf binds fun _ => none) → News s.heap s.heap.objs.size h₁ cells →
      CellsAre (bindC (envOfC qual scope s.heap.objs.size f cdv).kindOf binds fun _ => none) (cellsFrom (s.heap.objs.size + 1) scope.names []) cells → Below A base (env :: outer) s.heap → K.In s.heap → Top p loose mean mg mb s.heap →
      wpAny (model prog w) (A.deeper (envOfC qual scope s.heap.objs.size f cdv)) (execs body (envOfC qual scope s.heap.objs.size f cdv))
        (fun fl s' => R (.ok (.ret (match fl with | .ret v => v | _ => .none))) s')
        (fun e s' => wpAny (model prog w) (A.deeper (envOfC qual scope s.heap.objs.size f cdv)) (leaving (envOfC qual scope s.heap.objs.size f cdv) e) (fun _ s'' => R (.error e) s'') (fun e' s'' => R (.error e') s'') s')
        { s with heap := h₁, toks := tk })
    (hco : scope.isCoroutine = false) (hgen : scope.isGenerator = false) (hk : scope.kind = .function) : codeAny (model prog w) A (.call (.ref f) args) R s := by
  have B₁ := pushX B F hf hke
  refine codeAny_call_function hroom ((X₀.keeps F.keep) _ _ ho) rfl hco hgen rfl (codeRec_of (X₀.keeps F.keep) hcd) (hbind _ _ _ _ ?_)
  refine wpAny_newFunctionEnv_cells hk (kindsX hkind _) fun env' he s' x => ?_
  subst he
  refine ⟨(T.nolimit.keeps F.keep).keeps x.toInCall.keep, codeAny_func ?_⟩
  obtain ⟨h₁, tk, rfl, _⟩ := x.done
  obtain ⟨cells, NC, Y⟩ := Cl.news (h₀ := s.heap) (Nat.le_refl _) fun n c hm => ⟨x.cell n c (lookup_of_mem_nodup (cellsFrom_names scope.names 0 (s.heap.objs.size + 1) [] [] rfl ▸ hnd) hm), x.above n c hm⟩
  exact h h₁ tk cells ⟨x.toInCall.ns, x.toInCall.keep, Nat.le_refl _⟩ NC Y ⟨hA, B₁.stays, B₁.frames⟩ (X₀.keeps F.keep) (T.keeps F.keep)
end


abbrev Ext (h h' : Heap) : Prop := ∀ b o, h.get? b = some o → h'.get? b = some o
/-- a plain list of ints lies at a -/
def PL (h : Heap) (a : Addr) (ns : List Int) : Prop := ∃ us n, h.get? a = some (listOf us.toArray n) ∧ IntsAre us ns
theorem PL.ext {h h' : Heap} {a : Addr} {ns : List Int} (x : PL h a ns) (k : Ext h h') : PL h' a ns := let ⟨us, n, e, i⟩ := x; ⟨us, n, k _ _ e, i⟩
theorem PL.isList {h : Heap} {a : Addr} {ns : List Int} (x : PL h a ns) : ∃ us, h.IsList a us.toArray ∧ IntsAre us ns := let ⟨us, n, e, i⟩ := x; ⟨us, ⟨_, e, rfl, n, rfl⟩, i⟩

section
variable {h₀ h h' : Heap} {L r : Addr} {m : Str → Option Value} {news : List (Addr × Obj)} {o : Obj}
theorem frExt (F : Fr h₀ L h m) (k : Ext h h') : Fr h₀ L h' m := ⟨F.ns.keeps k, fun b o e => k b o (F.keep b o e), F.above⟩
theorem newsExt (N : News h₀ L h news) (k : Ext h h') : News h₀ L h' news := fun p hp => ⟨k _ _ (N p hp).1, (N p hp).2⟩
theorem newsAdd (F : Fr h₀ L h m) (N : News h₀ L h news) (k : Ext h h') (hr : h.get? r = none) (ho : h'.get? r = some o) : News h₀ L h' ((r, o) :: news) := by
  intro p hp
  rcases List.mem_cons.mp hp with rfl | hp
  · refine ⟨ho, fun e => ?_, ?_⟩
    · obtain ⟨oL, _, _, hL, _⟩ := F.ns
      rw [show r = L from e, hL] at hr; cases hr
    · cases q : h₀.get? r with
      | none => rfl
      | some o' => rw [F.keep _ _ q] at hr; cases hr
  · exact ⟨k _ _ (N p hp).1, (N p hp).2⟩
theorem newsNe (N : News h₀ L h news) (hr : h.get? r = none) : GnNe r news := gnNe_of fun p hp e => by rw [← e, (N p hp).1] at hr; cases hr
end

/-- what an iteration over xv needs: it hands the ints ns, one by one -/
def ItemAt (ns : List Int) (i : Nat) (v : Value) : Prop := ∃ a t, ns[i]? = some a ∧ v = .int a t
def SrcOk (prog : Program) (w : World) (A : Around) (s₁ : Shared) (xv : Value) (ns : List Int) (g : Addr → Prop) : Prop :=
  ∀ (Q : Value → Shared → Prop) (E : Value → Shared → Prop), (∀ I fp St h₂, Walks prog w A I fp [I] ns.length (ItemAt ns) St → St 0 h₂ → (∀ b ∈ fp, b < h₂.objs.size) → Ext s₁.heap h₂ → s₁.heap.get? I = none → (∀ b ∈ fp, b ≠ I → g b) → Q (.ref I) { s₁ with heap := h₂ }) →
    wpAny (model prog w) A (pyIter xv) Q E s₁

section
variable {prog : Program} {w : World} {A : Around}
theorem walks_mono {I : Addr} {fp wr : List Addr} {n : Nat} {P P' : Nat → Value → Prop} {St : Nat → Heap → Prop} (W : Walks prog w A I fp wr n P St) (hP : ∀ i v, i < n → P i v → P' i v) : Walks prog w A I fp wr n P' St where
  sub := W.sub
  frame := W.frame
  item := fun i s Q E hi st hQ => W.item i s Q E hi st fun v h' tk p => hQ v h' tk (hP i v hi p)
  done := W.done
  self := W.self
theorem get_size_none (h : Heap) : h.get? h.objs.size = none := by
  cases e : h.get? h.objs.size with
  | none => rfl
  | some o => exact absurd (Heap.lt_size e) (Nat.lt_irrefl _)
theorem srcOk_list {s : Shared} {l : Addr} {us : List Value} {ns : List Int} (hh : A.handled = none) (hl : s.heap.IsList l us.toArray) (hi : IntsAre us ns) : SrcOk prog w A s (.ref l) ns (· = l) := by
  intro Q E hQ
  obtain ⟨ol, hol, _⟩ := id hl
  have hne : l ≠ s.heap.objs.size := Nat.ne_of_lt (Heap.lt_size hol)
  refine wpAny_pyIter_list hl ?_
  have W := Walks.list (prog := prog) (w := w) hh s.heap.objs.size l hne us.toArray
  have hlen : us.toArray.size = ns.length := by simp [hi.length]
  rw [hlen] at W
  refine hQ _ _ _ _ (walks_mono W fun i v hlt p => ?_) ⟨⟨_, Heap.get?_push_size _ rfl, rfl, rfl⟩, hl.push _⟩ ?_ (fun b o e => Heap.get?_push_of_some _ e) (get_size_none _) ?_
  · obtain ⟨t, hx⟩ := hi.get i ns[i] (by simp [hlt])
    have : us[i]? = some v := by simpa using p
    rw [hx] at this
    exact ⟨ns[i], t, by simp [hlt], (Option.some.inj this).symm⟩
  · intro b hb
    rw [Heap.size_push]
    rcases List.mem_cons.mp hb with rfl | hb
    · exact Nat.lt_succ_self _
    · rw [List.mem_singleton.mp hb]; exact Nat.lt_succ_of_lt (Heap.lt_size hol)
  · intro b hb hn
    rcases List.mem_cons.mp hb with rfl | hb
    · exact absurd rfl hn
    · exact List.mem_singleton.mp hb
theorem srcOk_PL {s : Shared} {l : Addr} {ns : List Int} (hh : A.handled = none) (hl : PL s.heap l ns) : SrcOk prog w A s (.ref l) ns (· = l) :=
  let ⟨_, a, b⟩ := hl.isList; srcOk_list hh a b
theorem srcOk_range {s : Shared} {r : Addr} {a b : Int} {t u v : Tok} {n : Nat} (hh : A.handled = none) (hr : IsRange s.heap r a b 1 t u v) (hsmall : Builtin.Range.small a b 1 = true)
    (hn : Builtin.Range.rangeSize a b 1 = (n : Int)) : SrcOk prog w A s (.ref r) (rangeKs a n) (fun _ => False) := by
  intro Q E hQ
  refine wpAny_pyIter_range hr hsmall ?_
  have W := Walks.range (prog := prog) (w := w) hh s.heap.objs.size a 1 n
  rw [← rangeKs_length a n] at W
  refine hQ _ _ _ _ (walks_mono W fun i x hlt p => ?_) ?_ ?_ (fun b o e => Heap.get?_push_of_some _ e) (get_size_none _) ?_
  · obtain ⟨t, rfl⟩ := p
    rw [rangeKs_length] at hlt
    refine ⟨a + i * 1, t, ?_, rfl⟩
    simp [rangeKs, hlt]
  · show IsRangeIter _ _ _ _ _
    rw [hn, rangeKs_length]
    simpa using Heap.get?_push_size _ rfl
  · intro b hb
    rw [List.mem_singleton.mp hb, Heap.size_push]
    exact Nat.lt_succ_self _
  · intro b hb hn
    exact absurd (List.mem_singleton.mp hb) hn
end

def isInt (p : Int → Bool) : Value → Bool
  | .int a _ => p a
  | _ => false
def goesTo (f : Int → Int) (v y : Value) : Prop := ∃ a t t', v = .int a t ∧ y = .int (f a) t'
theorem ints_of_items : ∀ {ns : List Int} {vs : List Value}, vs.length = ns.length → (∀ j v, vs[j]? = some v → ItemAt ns j v) → IntsAre vs ns
  | [], [], _, _ => .nil
  | n :: ns, v :: vs, hl, h => by
    obtain ⟨a, t, e, rfl⟩ := h 0 v rfl
    cases e
    exact .cons _ _ (ints_of_items (Nat.succ.inj hl) fun j v e => h (j + 1) v e)
theorem ints_paired {p : Int → Bool} {f : Int → Int} : ∀ {vs : List Value} {ns : List Int} {ys : List Value}, IntsAre vs ns → Paired (goesTo f) (vs.filter (isInt p)) ys → IntsAre ys ((ns.filter p).map f)
  | _, _, ys, .nil, h => by cases h; exact .nil
  | _, _, ys, .cons (vs := vs) (ns := ns) n t r, h => by
    by_cases hp : p n = true
    · have e : (Value.int n t :: vs).filter (isInt p) = Value.int n t :: vs.filter (isInt p) := by simp [isInt, hp]
      rw [e] at h
      cases h with
      | cons hg hr =>
        obtain ⟨a, t1, t2, e1, rfl⟩ := hg
        cases e1
        rw [List.filter_cons_of_pos hp, List.map_cons]
        exact .cons _ _ (ints_paired r hr)
    · have e : (Value.int n t :: vs).filter (isInt p) = vs.filter (isInt p) := by simp [isInt, hp]
      rw [e] at h
      rw [List.filter_cons_of_neg hp]
      exact ints_paired r h

section
variable {prog : Program} {w : World} {A : Around} {E : Value → Shared → Prop} {env : Env}
abbrev testsOf (ifs : List Expr) (cenv : Env) : Sem Bool := forIn ifs true fun c r => if r = true then do let ok ← isTrue c cenv (eval c cenv); pure (ForInStep.yield ok) else pure (ForInStep.yield r)

theorem lc_quiet {elt : Expr} {x : Str} {ifs : List Expr} {scope : Scope} {cl : List (Str × Addr)} {s₁ s₂ : Shared} {I : Addr} {ns : List Int} (p : Int → Bool) (f : Int → Int) (k : Ext s₁.heap s₂.heap) (hI : s₁.heap.get? I = none)
    (tests : ∀ C s₃ m₃ a t E', a ∈ ns → s₃.heap.Ns C m₃ → m₃ x = some (.int a t) → Ext s₁.heap s₃.heap → s₃.gens = s₃.gens →
      wpAny (model prog w) A (testsOf ifs (compEnvC scope cl C env)) (fun ok s₄ => ok = p a ∧ Keeps s₃ s₄) E' s₃)
    (elts : ∀ C s₃ m₃ a t E', a ∈ ns → p a = true → s₃.heap.Ns C m₃ → m₃ x = some (.int a t) → Ext s₁.heap s₃.heap →
      wpAny (model prog w) A (eval elt (compEnvC scope cl C env)) (fun y s₄ => (∃ t', y = .int (f a) t') ∧ Keeps s₃ s₄) E' s₃) :
    QuietOnC prog w A env scope cl x ifs elt [I] (ItemAt ns) (isInt p) (goesTo f) s₂ where
  tests := fun C i v s₃ m₃ E' _ hP hn hm hk _ => by
    obtain ⟨a, t, ha, rfl⟩ := hP
    exact tests C s₃ m₃ a t E' (List.mem_of_getElem? ha) hn hm (fun b o e => hk b o (fun q => by rw [List.mem_singleton.mp q, hI] at e; cases e) (k b o e)) rfl
  elt := fun C i v s₃ m₃ E' _ hP hp hn hm hk _ => by
    obtain ⟨a, t, ha, rfl⟩ := hP
    refine wpAny_mono (elts C s₃ m₃ a t E' (List.mem_of_getElem? ha) hp hn hm fun b o e => hk b o (fun q => by rw [List.mem_singleton.mp q, hI] at e; cases e) (k b o e)) (fun y s₄ q => ?_) fun _ _ z => z
    obtain ⟨⟨t', rfl⟩, kk⟩ := q
    exact ⟨⟨a, t, t', rfl, rfl⟩, kk⟩

/-- a list comprehension of ints over ints, as an expression -/
theorem lc_eval {s : Shared} {elt iter : Expr} {x : Str} {px : Pos} {ifs : List Expr} {scope : Scope} {cl : List (Str × Addr)} {pos : Pos} {Q : Value → Shared → Prop} (p : Int → Bool) (f : Int → Int)
    (hclos : closureFor scope env = pure cl) (hcell : ∀ y ∈ scope.names, y.2 ≠ .cell) (hkind : scope.kind = .function)
    (hnames : ∀ y ∈ scope.names, y.2 = .local → scope.names.lookup y.1 = some .local) (hx : scope.names.lookup x = some .local)
    (h : wpAny (model prog w) A (eval iter env) (fun xv s₁ => ∃ ns g, SrcOk prog w A s₁ xv ns g ∧ ns.length ≤ sizeLine ∧
      (∀ C s₃ m₃ a t E', a ∈ ns → s₃.heap.Ns C m₃ → m₃ x = some (.int a t) → Ext s₁.heap s₃.heap → s₃.gens = s₃.gens →
        wpAny (model prog w) A (testsOf ifs (compEnvC scope cl C env)) (fun ok s₄ => ok = p a ∧ Keeps s₃ s₄) E' s₃) ∧
      (∀ C s₃ m₃ a t E', a ∈ ns → p a = true → s₃.heap.Ns C m₃ → m₃ x = some (.int a t) → Ext s₁.heap s₃.heap →
        wpAny (model prog w) A (eval elt (compEnvC scope cl C env)) (fun y s₄ => (∃ t', y = .int (f a) t') ∧ Keeps s₃ s₄) E' s₃) ∧
      (∀ D us n h' tk, Ext s₁.heap h' → s₁.heap.get? D = none → h'.get? D = some (listOf us.toArray n) → IntsAre us ((ns.filter p).map f) → Q (.ref D) { s₁ with heap := h', toks := tk })) E s)
    (hs : ∀ x, foldedSetIterable iter env x = pure x := by intro _; rfl) :
    wpAny (model prog w) A (eval (.ListComp elt [⟨.Name x px, iter, ifs, 0⟩] scope pos) env) Q E s := by
  refine wpAny_ListComp_free (isInt p) (goesTo f) hclos hcell hkind hnames hx (wpAny_mono h (fun xv s₁ h₁ => ?_) fun _ _ e => e) hs
  obtain ⟨ns, g, src, hsz, tests, elts, ret⟩ := h₁
  refine src _ _ fun I fp St h₂ W hst hfp k hI hfp2 => ⟨I, fp, [I], ns.length, ItemAt ns, St, rfl, W, hsz, hst, hfp, lc_quiet p f k hI tests elts, ?_⟩
  intro D h' tk ys vs hD hl hpl hlen hP hF hk
  obtain ⟨n, hpl⟩ := hpl
  have hD₁ : s₁.heap.get? D = none := by
    cases q : s₁.heap.get? D with
    | none => rfl
    | some o => have := k _ _ q; rw [hD] at this; cases this
  exact ret D ys.toList n h' tk (fun b o e => hk b o (fun q => by rw [List.mem_singleton.mp q, hI] at e; cases e) (k b o e)) hD₁ (by simpa using hpl) (ints_paired (ints_of_items hlen hP) hF)

/-- a list comprehension of ints over ints, stored under a local name on its line -/
theorem lc_assign {s : Shared} {elt iter : Expr} {x y : Str} {px py : Pos} {ifs : List Expr} {scope : Scope} {cl : List (Str × Addr)} {pos spos : Pos} {Q : Flow → Shared → Prop} (p : Int → Bool) (f : Int → Int)
    (hsw : swapsWith (.ListComp elt [⟨.Name x px, iter, ifs, 0⟩] scope pos) (some (.Name y py)) spos.line env = pure true)
    (hclos : closureFor scope env = pure cl) (hcell : ∀ y ∈ scope.names, y.2 ≠ .cell) (hkind : scope.kind = .function)
    (hnames : ∀ y ∈ scope.names, y.2 = .local → scope.names.lookup y.1 = some .local) (hx : scope.names.lookup x = some .local)
    (hy : env.kindOf y = some .local) (hp : (env.scope.kind == .class || (env.scope.kind == .module && env.locals != env.globals)) = false)
    (h : wpAny (model prog w) A (eval iter env) (fun xv s₁ => ∃ ns g h₀ m news, SrcOk prog w A s₁ xv ns g ∧ ns.length ≤ sizeLine ∧ Fr h₀ env.locals s₁.heap m ∧ News h₀ env.locals s₁.heap news ∧
      (∀ C s₃ m₃ a t E', a ∈ ns → s₃.heap.Ns C m₃ → m₃ x = some (.int a t) → Ext s₁.heap s₃.heap → s₃.gens = s₃.gens →
        wpAny (model prog w) A (testsOf ifs (compEnvC scope cl C env)) (fun ok s₄ => ok = p a ∧ Keeps s₃ s₄) E' s₃) ∧
      (∀ C s₃ m₃ a t E', a ∈ ns → p a = true → s₃.heap.Ns C m₃ → m₃ x = some (.int a t) → Ext s₁.heap s₃.heap →
        wpAny (model prog w) A (eval elt (compEnvC scope cl C env)) (fun y s₄ => (∃ t', y = .int (f a) t') ∧ Keeps s₃ s₄) E' s₃) ∧
      (∀ D us n h' tk, Fr h₀ env.locals h' (fun z => if z = y then some (.ref D) else m z) → News h₀ env.locals h' ((D, listOf us.toArray n) :: news) → GnNe D news → IntsAre us ((ns.filter p).map f) → Q .next { s₁ with heap := h', toks := tk })) E s)
    (hs : ∀ x, foldedSetIterable iter env x = pure x := by intro _; rfl) :
    wpAny (model prog w) A (exec (.Assign [.Name y py] (.ListComp elt [⟨.Name x px, iter, ifs, 0⟩] scope pos) spos) env) Q E s := by
  refine wpAny_Assign_ListComp_free (isInt p) (goesTo f) hsw hclos hcell hkind hnames hx hy hp (wpAny_mono h (fun xv s₁ h₁ => ?_) fun _ _ e => e) hs
  obtain ⟨ns, g, h₀, m, news, src, hsz, F, N, tests, elts, ret⟩ := h₁
  obtain ⟨oL, es, ep, hoL, hrest⟩ := F.ns
  refine src _ _ fun I fp St h₂ W hst hfp k hI hfp2 => ⟨I, fp, [I], ns.length, ItemAt ns, St, m, rfl, W, hsz, hst, hfp, ?_, F.ns.keeps k, lc_quiet p f k hI tests elts, ?_⟩
  · intro q
    rw [List.mem_singleton.mp q, hI] at hoL; cases hoL
  intro D h' tk ys vs hD hl hpl hlen hP hF hn hk
  obtain ⟨n, hpl⟩ := hpl
  have hD₁ : s₁.heap.get? D = none := by
    cases q : s₁.heap.get? D with
    | none => rfl
    | some o => have := k _ _ q; rw [hD] at this; cases this
  have k' : ∀ b o, b ≠ env.locals → s₁.heap.get? b = some o → h'.get? b = some o := fun b o hb e => hk b o hb (fun q => by rw [List.mem_singleton.mp q, hI] at e; cases e) (k b o e)
  refine ret D ys.toList n h' tk ⟨hn, fun b o e => k' b o (fun q => ?_) (F.keep b o e), F.above⟩ (fun q hq => ?_) (newsNe N hD₁) (ints_paired (ints_of_items hlen hP) hF)
  · have := Heap.lt_size e
    rw [q] at this
    exact absurd this (Nat.not_lt.mpr F.above)
  · rcases List.mem_cons.mp hq with rfl | hq
    · refine ⟨by simpa using hpl, fun e => ?_, ?_⟩
      · rw [show D = env.locals from e, hoL] at hD₁; cases hD₁
      · cases q : h₀.get? D with
        | none => rfl
        | some o' => rw [F.keep _ _ q] at hD₁; cases hD₁
    · exact ⟨k' _ _ (N q hq).2.1 (N q hq).1, (N q hq).2⟩
end

section
variable {prog : Program} {w : World} {A : Around} {R : Result → Shared → Prop} {s : Shared}
abbrev lc2 (elt t0 i0 t1 i1 : Expr) (scope : Scope) (pos : Pos) : Expr := .ListComp elt [⟨t0, i0, [], 0⟩, ⟨t1, i1, [], 0⟩] scope pos
theorem compTurn_in (elt t0 i0 t1 i1 : Expr) (scope : Scope) (pos : Pos) (it acc : Value) (env : Env) :
    compTurn (lc2 elt t0 i0 t1 i1 scope pos) 1 it acc env = (standAt i1.pos >>= fun _ => pyNext it >>= fun r => match r with
      | none => pure (.done .next)
      | some v => letOwnedTupleGo t1 it v >>= fun _ => assign t1 env v >>= fun _ =>
        (eval elt env >>= fun x => call (.builtin "list.append") [acc, x] >>= fun _ => pure ()) >>= fun _ =>
          again (.compLoop (lc2 elt t0 i0 t1 i1 scope pos) 1 it acc env)) := by rfl
theorem compTurn_out (elt t0 i0 t1 i1 : Expr) (scope : Scope) (pos : Pos) (it acc : Value) (env : Env) :
    compTurn (lc2 elt t0 i0 t1 i1 scope pos) 0 it acc env = (standAt i0.pos >>= fun _ => pyNext it >>= fun r => match r with
      | none => pure (.done .next)
      | some v => letOwnedTupleGo t0 it v >>= fun _ => assign t0 env v >>= fun _ =>
        (eval i1 env >>= fun x => standAt i1.pos >>= fun _ => foldedSetIterable i1 env x >>= fun x => holding [x] (pyIter x) >>= fun it' =>
          runOwn (.compStart (lc2 elt t0 i0 t1 i1 scope pos) 1 it' acc env) env >>= fun _ => again (.compLoop (lc2 elt t0 i0 t1 i1 scope pos) 0 it acc env))) := by rfl
theorem compStart_in {elt t0 i0 t1 i1 : Expr} {scope : Scope} {pos : Pos} {it acc : Value} {env : Env}
    (h0 : codeAny (model prog w) A (.compLoop (lc2 elt t0 i0 t1 i1 scope pos) 1 it acc env) R s)
    (h : wpAny (model prog w) A (pyIter it) (fun it' s' => codeAny (model prog w) A (.compLoop (lc2 elt t0 i0 t1 i1 scope pos) 1 it' acc env) R s')
      (notedBy (model prog w) A env fun x s' => R (.error x) s') s) :
    codeAny (model prog w) A (.compStart (lc2 elt t0 i0 t1 i1 scope pos) 1 it acc env) R s := by
  refine codeAny_of_tree ?_
  show wpAny _ _ ((compStart (lc2 elt t0 i0 t1 i1 scope pos) 1 it acc env).onRaise (fun x => do noteFrame x env; standAt theWindowsPlace)) _ _ s
  refine wpAny_notedAt ?_
  unfold compStart
  show wpAny _ _ (ask >>= _) _ _ s
  refine wpAny_bind (wpAny_askSetting (wpAny_ite ?_))
  split
  · first
      | exact wpAny_bind (wpAny_pure (wpAny_pure (And.intro rfl h0)))
      | exact wpAny_pure (And.intro rfl h0)
  · refine wpAny_bind (wpAny_rule ?_)
    show wpAny _ _ (standAt i1.pos >>= _) _ _ s
    exact wpAny_bind (wpAny_standAt (wpAny_bind (wpAny_mono h (fun it' s' h' => wpAny_pure (And.intro rfl h')) fun _ _ x => x)))

theorem lc2_inner {elt t0 i0 i1 : Expr} {x y : Str} {py : Pos} {scope : Scope} {pos : Pos} {I D C : Addr} {fp : List Addr} {ms : List Int} {St : Nat → Heap → Prop} {cenv : Env} {m : Str → Option Value} {a : Int} {ta : Tok}
    (W : Walks prog w A I fp [I] ms.length (ItemAt ms) St) (g : Int → Int)
    (hy : cenv.kindOf y = some .local) (hp : (cenv.scope.kind == .class || (cenv.scope.kind == .module && cenv.locals != cenv.globals)) = false) (hxy : x ≠ y) (hC : cenv.locals = C)
    (hDC : D ≠ C) (hDf : D ∉ fp) (hCf : C ∉ fp) {us₀ : List Value}
    (hst : St 0 s.heap) (hacc : s.heap.PlainList D us₀.toArray) (hn : s.heap.Ns C m) (hmx : m x = some (.int a ta))
    (helt : ∀ s₂ m₂ b t, b ∈ ms → s₂.heap.Ns C m₂ → m₂ x = some (.int a ta) → m₂ y = some (.int b t) → (∀ q o, q ≠ C → q ≠ I → q ≠ D → s.heap.get? q = some o → s₂.heap.get? q = some o) →
      wpAny (model prog w) A (eval elt cenv) (fun v s₃ => (∃ t', v = .int (g b) t') ∧ Keeps s₂ s₃) (notedBy (model prog w) A cenv fun e s' => R (.error e) s') s₂)
    (hR : ∀ h' tk m' (ws : List Value), h'.Ns C m' → h'.PlainList D (us₀ ++ ws).toArray → IntsAre ws (ms.map g) → (∀ q o, q ≠ C → q ≠ I → q ≠ D → s.heap.get? q = some o → h'.get? q = some o) → R (.ok .next) { s with heap := h', toks := tk })
    (hsz : us₀.length + ms.length ≤ sizeLine) :
    codeAny (model prog w) A (.compLoop (lc2 elt t0 i0 (.Name y py) i1 scope pos) 1 (.ref I) (.ref D) cenv) R s := by
  subst hC
  have hI : I ∈ fp := W.sub _ (.head _)
  have hDI : D ≠ I := fun e => hDf (e ▸ hI)
  have hCI : cenv.locals ≠ I := fun e => hCf (e ▸ hI)
  have ht : ∀ v, letOwnedTupleGo (.Name y py) (.ref I) v = pure () := by intro _; rfl
  refine codeAny_loop rfl
    (fun k s' => ∃ h' tk m' ws i, s' = { s with heap := h', toks := tk } ∧ St i h' ∧ h'.PlainList D (us₀ ++ ws).toArray ∧ h'.Ns cenv.locals m' ∧ m' x = some (.int a ta) ∧ IntsAre ws ((ms.take i).map g) ∧ i ≤ ms.length ∧ k = ms.length + 1 - i ∧
      (∀ q o, q ≠ cenv.locals → q ≠ I → q ≠ D → s.heap.get? q = some o → h'.get? q = some o)) (fun k s' hI => ?_) (ms.length + 1)
    ⟨s.heap, s.toks, m, [], 0, rfl, hst, by simpa using hacc, hn, hmx, .nil, Nat.zero_le _, rfl, fun _ _ _ _ _ e => e⟩
  obtain ⟨H, tk, m', ws, i, rfl, hst', hacc', hn', hx', hF, hi, rfl, hk⟩ := hI
  show wpAny _ _ ((compTurn (lc2 elt t0 i0 (.Name y py) i1 scope pos) 1 (.ref I) (.ref D) cenv).onRaise (fun x => do noteFrame x cenv; theTreesLotGoes x)) _ _ _
  refine wpAny_noted ?_
  rw [compTurn_in]
  refine wpAny_bind (wpAny_standAt (wpAny_bind ?_))
  by_cases hlt : i < ms.length
  · refine W.item i _ _ _ hlt hst' fun v h₁ tk₁ hPv hst₁ hk₁ => ?_
    obtain ⟨b, t, hb, rfl⟩ := hPv
    refine wpAny_bind (wpAny_of_eq (ht _) (wpAny_bind ?_))
    have kI : ∀ q o, q ≠ I → H.get? q = some o → h₁.get? q = some o := fun q o hq e => hk₁ q o (fun z => hq (List.mem_singleton.mp z)) e
    refine wpAny_assign_Name (wpAny_storeName_local hy (hn'.at' fun o e => kI _ o hCI e) (fun h₂ hn₂ hs₂ => ?_) hp)
    have up₂ : ∀ q o, q ≠ cenv.locals → q ≠ I → H.get? q = some o → h₂.get? q = some o := fun q o hC hq e => hs₂.extBut q o hC (kI q o hq e)
    have hst₂ : St (i + 1) h₂ := W.frame _ _ _ hst₁ fun q hq o e => hs₂.extBut q o (fun z => hCf (z ▸ hq)) e
    refine wpAny_bind (wpAny_bind (wpAny_mono (helt _ _ b t (List.mem_of_getElem? hb) hn₂ (by simp [hxy, hx']) (by simp) fun q o h1 h2 h3 e => up₂ q o h1 h2 (hk q o h1 h2 h3 e)) (fun v s₃ h₃ => ?_) fun _ _ z => z))
    obtain ⟨⟨t', rfl⟩, h₃', tk₃, rfl, hk₃⟩ := h₃
    have hlen : (us₀ ++ ws).toArray.size ≤ sizeLine := by
      have e1 := hF.length
      have e2 : ((ms.take i).map g).length ≤ ms.length := by rw [List.length_map, List.length_take]; omega
      simp only [List.size_toArray, List.length_append]; omega
    refine wpAny_bind (wpAny_list_append_plain (hsz := hlen) ((hacc'.at fun o e => hk₃ _ o (up₂ D o hDC hDI e))) fun h₅ hl₅ hs₅ => wpAny_pure (wpAny_pure ⟨rfl, ?_⟩))
    refine ⟨ms.length + 1 - (i + 1), by omega, h₅, _, _, ws ++ [.int (g b) t'], i + 1, rfl, ?_, ?_, (hn₂.keeps hk₃).sameBut hs₅ (Ne.symm hDC), by simp [hxy, hx'], ?_, hlt, rfl, fun q o h1 h2 h3 e => hs₅.extBut q o h3 (hk₃ q o (up₂ q o h1 h2 (hk q o h1 h2 h3 e)))⟩
    · exact W.frame _ _ _ hst₂ fun q hq o e => hs₅.extBut q o (fun z => hDf (z ▸ hq)) (hk₃ q o e)
    · simpa using hl₅
    · rw [List.take_add_one, hb, List.map_append]
      exact hF.append (.cons _ _ .nil)
  · have hin : i = ms.length := by omega
    subst hin
    refine W.done _ _ _ hst' fun h₁ tk₁ hk₁ => wpAny_pure ?_
    have kI : ∀ q o, q ≠ I → H.get? q = some o → h₁.get? q = some o := fun q o hq e => hk₁ q o (fun z => hq (List.mem_singleton.mp z)) e
    rw [List.take_length] at hF
    exact hR h₁ tk₁ m' ws (hn'.at' fun o e => kI _ o hCI e) (hacc'.at fun o e => kI _ o hDI e) hF fun q o h1 h2 h3 e => kI q o h2 (hk q o h1 h2 h3 e)

theorem flat_take {α β : Type} (f : α → List β) (l : List α) (i : Nat) (a : α) (h : l[i]? = some a) : (l.take (i + 1)).flatMap f = (l.take i).flatMap f ++ f a := by
  rw [List.take_add_one, h, List.flatMap_append]; simp
theorem flat_len {α : Type} (f : α → List Int) (k : Nat) : ∀ l : List α, (∀ a ∈ l, (f a).length = k) → (l.flatMap f).length = l.length * k
  | [], _ => by simp
  | a :: l, h => by
    rw [List.flatMap_cons, List.length_append, flat_len f k l (fun b hb => h b (.tail _ hb)), h a (.head _), List.length_cons, Nat.succ_mul]; omega

theorem lc2_outer {elt i0 i1 : Expr} {x y : Str} {px py : Pos} {scope : Scope} {pos : Pos} {I D C : Addr} {fp : List Addr} {ns ms : List Int} {St : Nat → Heap → Prop} {cenv : Env} {m : Str → Option Value}
    (W : Walks prog w A I fp [I] ns.length (ItemAt ns) St) (f : Int → Int → Int)
    (hx : cenv.kindOf x = some .local) (hy : cenv.kindOf y = some .local) (hp : (cenv.scope.kind == .class || (cenv.scope.kind == .module && cenv.locals != cenv.globals)) = false) (hxy : x ≠ y) (hC : cenv.locals = C)
    (hDC : D ≠ C) (hDf : D ∉ fp) (hCf : C ∉ fp)
    (hst : St 0 s.heap) (hacc : s.heap.PlainList D #[]) (hn : s.heap.Ns C m)
    (hsrc : ∀ s₂ m₂ a t, a ∈ ns → s₂.heap.Ns C m₂ → m₂ x = some (.int a t) → (∀ q o, q ≠ C → q ≠ I → q ≠ D → s.heap.get? q = some o → s₂.heap.get? q = some o) →
      wpAny (model prog w) A (eval i1 cenv) (fun xv s₃ => Keeps s₂ s₃ ∧ ∃ g, SrcOk prog w A s₃ xv ms g ∧ ∀ b, g b → b ≠ C ∧ b ≠ D) (fun _ _ => False) s₂)
    (helt : ∀ s₂ m₂ a b t t', a ∈ ns → b ∈ ms → s₂.heap.Ns C m₂ → m₂ x = some (.int a t) → m₂ y = some (.int b t') → (∀ q o, q ≠ C → q ≠ I → q ≠ D → s.heap.get? q = some o → s₂.heap.get? q = some o) →
      wpAny (model prog w) A (eval elt cenv) (fun v s₃ => (∃ t', v = .int (f a b) t') ∧ Keeps s₂ s₃) (fun _ _ => False) s₂)
    (hR : ∀ h' tk m' (ws : List Value), h'.Ns C m' → h'.PlainList D ws.toArray → IntsAre ws (ns.flatMap fun a => ms.map (f a)) → (∀ q o, q ≠ C → q ≠ I → q ≠ D → s.heap.get? q = some o → h'.get? q = some o) → R (.ok .next) { s with heap := h', toks := tk })
    (hs2 : ∀ v, foldedSetIterable i1 cenv v = pure v)
    (hsz : ns.length * ms.length ≤ sizeLine) :
    codeAny (model prog w) A (.compLoop (lc2 elt (.Name x px) i0 (.Name y py) i1 scope pos) 0 (.ref I) (.ref D) cenv) R s := by
  subst hC
  have hI : I ∈ fp := W.sub _ (.head _)
  have hDI : D ≠ I := fun e => hDf (e ▸ hI)
  have hCI : cenv.locals ≠ I := fun e => hCf (e ▸ hI)
  have ht : ∀ v, letOwnedTupleGo (.Name x px) (.ref I) v = pure () := by intro _; rfl
  refine codeAny_loop rfl
    (fun k s' => ∃ h' tk m' ws i, s' = { s with heap := h', toks := tk } ∧ St i h' ∧ h'.PlainList D (List.toArray ws) ∧ h'.Ns cenv.locals m' ∧ IntsAre ws ((ns.take i).flatMap fun a => ms.map (f a)) ∧ i ≤ ns.length ∧ k = ns.length + 1 - i ∧
      (∀ q o, q ≠ cenv.locals → q ≠ I → q ≠ D → s.heap.get? q = some o → h'.get? q = some o)) (fun k s' hI => ?_) (ns.length + 1)
    ⟨s.heap, s.toks, m, [], 0, rfl, hst, by simpa using hacc, hn, by simpa using IntsAre.nil, Nat.zero_le _, rfl, fun _ _ _ _ _ e => e⟩
  obtain ⟨H, tk, m', ws, i, rfl, hst', hacc', hn', hF, hi, rfl, hk⟩ := hI
  show wpAny _ _ ((compTurn (lc2 elt (.Name x px) i0 (.Name y py) i1 scope pos) 0 (.ref I) (.ref D) cenv).onRaise (fun x => do noteFrame x cenv; theTreesLotGoes x)) _ _ _
  refine wpAny_noted ?_
  rw [compTurn_out]
  refine wpAny_bind (wpAny_standAt (wpAny_bind ?_))
  by_cases hlt : i < ns.length
  · refine W.item i _ _ _ hlt hst' fun v h₁ tk₁ hPv hst₁ hk₁ => ?_
    obtain ⟨a, ta, ha, rfl⟩ := hPv
    have ham := List.mem_of_getElem? ha
    refine wpAny_bind (wpAny_of_eq (ht _) (wpAny_bind ?_))
    have kI : ∀ q o, q ≠ I → H.get? q = some o → h₁.get? q = some o := fun q o hq e => hk₁ q o (fun z => hq (List.mem_singleton.mp z)) e
    refine wpAny_assign_Name (wpAny_storeName_local hx (hn'.at' fun o e => kI _ o hCI e) (fun h₂ hn₂ hs₂ => ?_) hp)
    have up₂ : ∀ q o, q ≠ cenv.locals → q ≠ I → H.get? q = some o → h₂.get? q = some o := fun q o hC hq e => hs₂.extBut q o hC (kI q o hq e)
    have hst₂ : St (i + 1) h₂ := W.frame _ _ _ hst₁ fun q hq o e => hs₂.extBut q o (fun z => hCf (z ▸ hq)) e
    refine wpAny_noRaise (wpAny_bind (wpAny_mono (hsrc _ _ a ta ham hn₂ (by simp) fun q o h1 h2 h3 e => up₂ q o h1 h2 (hk q o h1 h2 h3 e)) (fun xv s₃ h₃ => ?_) fun _ _ z => z))
    obtain ⟨⟨h₃, tk₃, rfl, hk₃⟩, g, src, hg⟩ := h₃
    refine wpAny_bind (wpAny_standAt (wpAny_bind (wpAny_of_eq (hs2 xv) (wpAny_bind (wpAny_holding ?_)))))
    refine src _ _ fun I₂ fp₂ St₂ h₄ W₂ hst₄ hfp₄ k₄ hI₂ hg₄ => ?_
    have hD₃ : h₃.PlainList D ws.toArray := hacc'.at fun o e => hk₃ _ o (up₂ D o hDC hDI e)
    have hn₃ := hn₂.keeps hk₃
    have hDf₂ : D ∉ fp₂ := fun hm => by
      by_cases q : D = I₂
      · obtain ⟨_, e⟩ := hD₃
        rw [q] at e; rw [hI₂] at e; cases e
      · exact (hg _ (hg₄ D hm q)).2 rfl
    have hCf₂ : cenv.locals ∉ fp₂ := fun hm => by
      by_cases q : cenv.locals = I₂
      · obtain ⟨_, _, _, e, _⟩ := hn₃
        rw [q] at e; rw [hI₂] at e; cases e
      · exact (hg _ (hg₄ _ hm q)).1 rfl
    have up₄ : ∀ q o, q ≠ cenv.locals → q ≠ I → H.get? q = some o → h₄.get? q = some o := fun q o h1 h2 e => k₄ q o (hk₃ q o (up₂ q o h1 h2 e))
    have hst₄' : St (i + 1) h₄ := W.frame _ _ _ hst₂ fun q hq o e => k₄ q o (hk₃ q o e)
    have live : ∀ q o, h₃.get? q = some o → q ≠ I₂ := fun q o e z => by rw [z] at e; rw [hI₂] at e; cases e
    have hlen : ws.length + ms.length ≤ sizeLine := by
      have e1 := hF.length
      rw [flat_len (fun a => ms.map (f a)) ms.length _ (fun _ _ => List.length_map ..), List.length_take, Nat.min_eq_left hi] at e1
      have e2 : (i + 1) * ms.length ≤ ns.length * ms.length := Nat.mul_le_mul_right _ hlt
      rw [Nat.succ_mul] at e2
      omega
    have inner : ∀ s₅ : Shared, s₅ = { s with heap := h₄, toks := tk₃ } → codeAny (model prog w) A (.compLoop (lc2 elt (.Name x px) i0 (.Name y py) i1 scope pos) 1 (.ref I₂) (.ref D) cenv) (fun r s' => match r with
        | .ok fl => wpAny (model prog w) A (again (.compLoop (lc2 elt (.Name x px) i0 (.Name y py) i1 scope pos) 0 (.ref I) (.ref D) cenv)) (fun fin s' => match fin with
            | .done f => R (.ok f) s'
            | .again c' => c' = Code.compLoop (lc2 elt (.Name x px) i0 (.Name y py) i1 scope pos) 0 (.ref I) (.ref D) cenv ∧ ∃ m_1, m_1 < ns.length + 1 - i ∧ ∃ h' tk m' ws i, s' = { s with heap := h', toks := tk } ∧ St i h' ∧ h'.PlainList D (List.toArray ws) ∧ h'.Ns cenv.locals m' ∧ IntsAre ws ((ns.take i).flatMap fun a => ms.map (f a)) ∧ i ≤ ns.length ∧ m_1 = ns.length + 1 - i ∧
                (∀ q o, q ≠ cenv.locals → q ≠ I → q ≠ D → s.heap.get? q = some o → h'.get? q = some o)) (fun _ _ => False) s'
        | .error e => cameBackBy (model prog w) A cenv (fun _ _ => False) e s') s₅ := by
      rintro s₅ rfl
      refine lc2_inner (a := a) (ta := ta) W₂ (f a) hy hp hxy rfl hDC hDf₂ hCf₂ (us₀ := ws) hst₄ (hD₃.at fun o e => k₄ _ o e) (hn₃.keeps k₄) (by simp) ?_ ?_ hlen
      · intro s₆ m₆ b t hb hn₆ hmx hmy hk₆
        refine wpAny_noRaise (helt s₆ m₆ a b ta t ham hb hn₆ hmx hmy fun q o h1 h2 h3 e => ?_)
        have e3 := hk₃ q o (up₂ q o h1 h2 (hk q o h1 h2 h3 e))
        exact hk₆ q o h1 (live q o e3) h3 (k₄ q o e3)
      · intro h₇ tk₇ m₇ ws₇ hn₇ hpl₇ hI₇ hk₇
        refine wpAny_pure ⟨rfl, ns.length + 1 - (i + 1), by omega, h₇, tk₇, m₇, ws ++ ws₇, i + 1, rfl, ?_, hpl₇, hn₇, ?_, hlt, rfl, fun q o h1 h2 h3 e => ?_⟩
        · refine W.frame _ _ _ hst₂ fun q hq o e => ?_
          have e3 := hk₃ q o e
          exact hk₇ q o (fun z => hCf (z ▸ hq)) (live q o e3) (fun z => hDf (z ▸ hq)) (k₄ q o e3)
        · rw [flat_take _ _ _ _ ha]
          exact hF.append hI₇
        · have e3 := hk₃ q o (up₂ q o h1 h2 (hk q o h1 h2 h3 e))
          exact hk₇ q o h1 (live q o e3) h3 (k₄ q o e3)
    refine wpAny_bind (wpAny_runOwn ?_)
    exact compStart_in (inner _ rfl) (W₂.self 0 _ _ _ hst₄ (inner _ rfl))
  · have hin : i = ns.length := by omega
    subst hin
    refine W.done _ _ _ hst' fun h₁ tk₁ hk₁ => wpAny_pure ?_
    have kI : ∀ q o, q ≠ I → H.get? q = some o → h₁.get? q = some o := fun q o hq e => hk₁ q o (fun z => hq (List.mem_singleton.mp z)) e
    rw [List.take_length] at hF
    exact hR h₁ tk₁ m' ws (hn'.at' fun o e => kI _ o hCI e) (hacc'.at fun o e => kI _ o hDI e) hF fun q o h1 h2 h3 e => kI q o h2 (hk q o h1 h2 h3 e)
end
section
variable {prog : Program} {w : World} {A : Around} {E : Value → Shared → Prop} {env : Env}
theorem lc2_eval {s : Shared} {elt i0 i1 : Expr} {x y : Str} {px py : Pos} {scope : Scope} {cl : List (Str × Addr)} {pos : Pos} {Q : Value → Shared → Prop} (f : Int → Int → Int)
    (hclos : closureFor scope env = pure cl) (hcell : ∀ y ∈ scope.names, y.2 ≠ .cell) (hkind : scope.kind = .function)
    (hnames : ∀ y ∈ scope.names, y.2 = .local → scope.names.lookup y.1 = some .local) (hx : scope.names.lookup x = some .local) (hy : scope.names.lookup y = some .local) (hxy : x ≠ y)
    (h : wpAny (model prog w) A (eval i0 env) (fun xv s₁ => ∃ ns g ms, SrcOk prog w A s₁ xv ns g ∧ ns.length * ms.length ≤ sizeLine ∧
      (∀ C s₃ m₃ a t, a ∈ ns → s₃.heap.Ns C m₃ → m₃ x = some (.int a t) → Ext s₁.heap s₃.heap →
        wpAny (model prog w) A (eval i1 (compEnvC scope cl C env)) (fun xv s₄ => Keeps s₃ s₄ ∧ ∃ g, SrcOk prog w A s₄ xv ms g ∧ ∀ b, g b → (s₁.heap.get? b).isSome) (fun _ _ => False) s₃) ∧
      (∀ C s₃ m₃ a b t t', a ∈ ns → b ∈ ms → s₃.heap.Ns C m₃ → m₃ x = some (.int a t) → m₃ y = some (.int b t') → Ext s₁.heap s₃.heap →
        wpAny (model prog w) A (eval elt (compEnvC scope cl C env)) (fun v s₄ => (∃ t', v = .int (f a b) t') ∧ Keeps s₃ s₄) (fun _ _ => False) s₃) ∧
      (∀ D us n h' tk, Ext s₁.heap h' → s₁.heap.get? D = none → h'.get? D = some (listOf us.toArray n) → IntsAre us (ns.flatMap fun a => ms.map (f a)) → Q (.ref D) { s₁ with heap := h', toks := tk })) E s)
    (hs : ∀ x, foldedSetIterable i0 env x = pure x := by intro _; rfl)
    (hs2 : ∀ C v, foldedSetIterable i1 (compEnvC scope cl C env) v = pure v := by intro _ _; rfl) :
    wpAny (model prog w) A (eval (lc2 elt (.Name x px) i0 (.Name y py) i1 scope pos) env) Q E s := by
  rw [eval_ListComp]
  refine wpAny_comprehension_free (use := none) rfl hs hclos hkind hnames (wpAny_mono h (fun xv s₁ h₁ => ?_) fun _ _ e => e)
  obtain ⟨ns, g, ms, src, hsz, hsrc, helt, ret⟩ := h₁
  refine src _ _ fun I fp St h₂ W hst hfp k hI hg => ?_
  refine wpAny_newObj_type (wpAny_newFunctionEnv hcell (by intro y hy; simp at hy) (fun h₁ hns₁ hsb₁ => ?_) hkind)
  dsimp only at hns₁ hsb₁ ⊢
  generalize hH2 : h₂.push { cls := .type "list", dict := none, data := .seq ([] : List Value).toArray } = H2 at hns₁ hsb₁ ⊢
  have hC : H2.objs.size = h₂.objs.size + 1 := by rw [← hH2, Heap.size_push]
  have hDC : h₂.objs.size ≠ H2.objs.size := by rw [hC]; exact Nat.ne_of_lt (Nat.lt_succ_self _)
  have below : ∀ b, b < h₂.objs.size → b ≠ H2.objs.size ∧ b ≠ h₂.objs.size := fun b hb => ⟨by rw [hC]; exact Nat.ne_of_lt (Nat.lt_succ_of_lt hb), Nat.ne_of_lt hb⟩
  have hDf : h₂.objs.size ∉ fp := fun hm => Nat.lt_irrefl _ (hfp _ hm)
  have hCf : H2.objs.size ∉ fp := fun hm => by have := hfp _ hm; rw [hC] at this; exact Nat.lt_irrefl _ (Nat.lt_of_succ_lt this)
  have old : ∀ b o, h₂.get? b = some o → h₁.get? b = some o := fun b o e => hsb₁.extBut b o (below b (Heap.lt_size e)).1 (Heap.get?_push_of_some _ (hH2 ▸ Heap.get?_push_of_some _ e))
  have hacc : h₁.PlainList h₂.objs.size #[] := ⟨_, hsb₁.extBut _ _ hDC (Heap.get?_push_of_some _ (hH2 ▸ Heap.get?_push_size _ rfl))⟩
  have hst₁ : St 0 h₁ := W.frame _ _ _ hst fun b _ o e => old b o e
  have fresh : ∀ a, h₂.objs.size ≤ a → h₂.get? a = none := fun a ha => by
    cases e : h₂.get? a with
    | none => rfl
    | some o' => exact absurd (Heap.lt_size e) (Nat.not_lt.mpr ha)
  have fresh₁ : ∀ a, h₂.get? a = none → s₁.heap.get? a = none := fun a ha => by
    cases e : s₁.heap.get? a with
    | none => rfl
    | some o' => rw [k _ _ e] at ha; cases ha
  have hD₁ := fresh₁ _ (fresh _ (Nat.le_refl _))
  have hC₁ := fresh₁ H2.objs.size (fresh _ (by rw [hC]; exact Nat.le_succ _))
  have live : ∀ b o, s₁.heap.get? b = some o → b ≠ H2.objs.size ∧ b ≠ I ∧ b ≠ h₂.objs.size := fun b o e =>
    ⟨fun z => (by rw [z, hC₁] at e; cases e), fun z => (by rw [z, hI] at e; cases e), fun z => (by rw [z, hD₁] at e; cases e)⟩
  have loop : ∀ s₃ : Shared, s₃ = { s₁ with heap := h₁, toks := s₁.toks + ([] : List (Str × Value)).length } →
      codeAny (model prog w) A (.compLoop (lc2 elt (.Name x px) i0 (.Name y py) i1 scope pos) 0 (.ref I) (.ref h₂.objs.size) (compEnvC scope cl H2.objs.size env))
        (compPost (model prog w) A E none Q (.ref h₂.objs.size) H2.objs.size) s₃ := by
    rintro s₃ rfl
    refine lc2_outer (C := H2.objs.size) W f (lookup_relabel_local hx) (lookup_relabel_local hy) (by simp [compEnvC, relabel, hkind]) hxy rfl hDC hDf hCf hst₁ hacc hns₁ ?_ ?_ ?_ (hs2 _) hsz
    · intro s₂ m₂ a t ha hn hm hk
      refine wpAny_mono (hsrc _ s₂ m₂ a t ha hn hm fun b o e => hk b o (live b o e).1 (live b o e).2.1 (live b o e).2.2 (old b o (k b o e))) (fun xv s₄ q => ?_) fun _ _ z => z
      obtain ⟨kk, g', src', hg'⟩ := q
      refine ⟨kk, g', src', fun b hb => ?_⟩
      have := hg' b hb
      exact ⟨fun z => (by rw [z, hC₁] at this; cases this), fun z => (by rw [z, hD₁] at this; cases this)⟩
    · intro s₂ m₂ a b t t' ha hb hn hm hm' hk
      exact helt _ s₂ m₂ a b t t' ha hb hn hm hm' fun b o e => hk b o (live b o e).1 (live b o e).2.1 (live b o e).2.2 (old b o (k b o e))
    · intro h' tk m' ws hn hpl hI' hk
      refine ⟨m', hn, fun h'' hs'' => ?_⟩
      obtain ⟨n, e⟩ := hpl
      exact ret h₂.objs.size ws n h'' tk (fun b o e => hs''.extBut b o (live b o e).1 (hk b o (live b o e).1 (live b o e).2.1 (live b o e).2.2 (old b o (k b o e)))) hD₁ (hs''.extBut _ _ hDC e) hI'
  exact codeAny_compStart_list (loop _ rfl) (W.self 0 _ _ _ hst₁ (loop _ rfl))
end


/-- all of h lies in h', the objects of fs up to their slots -/
def Turned (fs : List Addr) (h h' : Heap) : Prop := ∀ b o, h.get? b = some o → (b ∉ fs → h'.get? b = some o) ∧ (b ∈ fs → ∃ sl, h'.get? b = some { o with slots := sl })
theorem turned_ext {fs : List Addr} {h h' : Heap} (k : Ext h h') : Turned fs h h' := fun b o e => ⟨fun _ => k b o e, fun _ => ⟨o.slots, k b o e⟩⟩
theorem Turned.then {fs : List Addr} {h h' h'' : Heap} (t : Turned fs h h') (k : Ext h' h'') : Turned fs h h'' := fun b o e =>
  ⟨fun hb => k _ _ ((t b o e).1 hb), fun hb => let ⟨sl, q⟩ := (t b o e).2 hb; ⟨sl, k _ _ q⟩⟩
theorem Turned.up {fs : List Addr} {h h' : Heap} (t : Turned fs h h') {b : Addr} {o : Obj} (e : h.get? b = some o) : ∃ sl, h'.get? b = some { o with slots := sl } := by
  by_cases q : b ∈ fs
  · exact (t b o e).2 q
  · exact ⟨o.slots, (t b o e).1 q⟩
theorem Turned.isList {fs : List Addr} {h h' : Heap} (t : Turned fs h h') {l : Addr} {us : Array Value} (x : h.IsList l us) : h'.IsList l us := by
  obtain ⟨o, ho, hc, n, hd⟩ := x
  obtain ⟨sl, e⟩ := t.up ho
  exact ⟨_, e, hc, n, hd⟩
theorem turn_isList {fs : List Addr} {g g' : Heap} (t : KtsTurn fs g g') {l : Addr} {us : Array Value} (x : g.IsList l us) : g'.IsList l us := by
  obtain ⟨o, ho, hc, n, hd⟩ := x
  obtain ⟨sl, e⟩ := t.up ho
  exact ⟨_, e, hc, n, hd⟩
theorem turned_of_turn {fs : List Addr} {g g' h : Heap} (t : KtsTurn fs g g') (k : Ext g' h) : Turned fs g h := fun b o e =>
  ⟨fun hb => k _ _ (t.other b o e hb), fun hb => let ⟨sl, q⟩ := t.frame b o e hb; ⟨sl, k _ _ q⟩⟩
/-- ints at l, the object's slots as they may be -/
def LI (h : Heap) (l : Addr) (ns : List Int) : Prop := ∃ us, h.IsList l us.toArray ∧ IntsAre us ns
theorem LI.ext {h h' : Heap} {l : Addr} {ns : List Int} (x : LI h l ns) (k : Ext h h') : LI h' l ns := let ⟨us, ⟨o, ho, r⟩, i⟩ := x; ⟨us, ⟨o, k _ _ ho, r⟩, i⟩
theorem PL.li {h : Heap} {l : Addr} {ns : List Int} (x : PL h l ns) : LI h l ns := x.isList
theorem LI.turn {fs : List Addr} {g g' : Heap} {l : Addr} {ns : List Int} (x : LI g l ns) (t : KtsTurn fs g g') : LI g' l ns := let ⟨us, a, i⟩ := x; ⟨us, turn_isList t a, i⟩
theorem LI.turned {fs : List Addr} {g g' : Heap} {l : Addr} {ns : List Int} (x : LI g l ns) (t : Turned fs g g') : LI g' l ns := let ⟨us, a, i⟩ := x; ⟨us, t.isList a, i⟩

section
variable {A₀ : Around} {base g h h' : Heap} {outer : List Env} {L : Addr} {m : Str → Option Value} {news : List (Addr × Obj)}
theorem turn_back (K : Below A₀ base outer g) (F : Fr g L h m) (N : News g L h news) (t : Turned (L :: outer.filterMap (·.frame)) h h') :
    ∃ g', KtsTurn (outer.filterMap (·.frame)) g g' ∧ Fr g' L h' m ∧ News g' L h' news ∧ Below A₀ base outer g' := by
  have hL := kts_self F
  obtain ⟨T, S⟩ := kts_turn_at (h := h') (fs := outer.filterMap (·.frame)) (g := g)
    (fun b hb => let ⟨_, o, ho, _⟩ := K.frames.mem hb; ⟨o, ho⟩)
    (fun b o e nm => (t b o (F.keep b o e)).1 fun hm => by
      rcases List.mem_cons.mp hm with z | z
      · rw [z, hL] at e; cases e
      · exact nm z)
    (fun b o e hm => (t b o (F.keep b o e)).2 (.tail _ hm))
  refine ⟨_, T, ⟨?_, S, by rw [T.size]; exact F.above⟩, fun p hp => ?_, ⟨K.stack, fun b o e => T.other b o (K.stays b o e) fun hm => (by rw [(K.frames.mem hm).1] at e; cases e), K.frames.of_keeps fun b o e _ => ?_⟩⟩
  · obtain ⟨oL, es, ep, ho, hd, hk, hf⟩ := F.ns
    obtain ⟨sl, e⟩ := t.up ho
    exact ⟨_, es, ep, e, hd, hk, hf⟩
  · refine ⟨(t _ _ (N p hp).1).1 fun hm => ?_, (N p hp).2.1, T.none_ _ (N p hp).2.2⟩
    rcases List.mem_cons.mp hm with z | z
    · exact (N p hp).2.1 z
    · obtain ⟨_, o, ho, _⟩ := K.frames.mem z
      rw [(N p hp).2.2] at ho; cases ho
  · obtain ⟨sl, hs⟩ := T.up e
    exact ⟨_, hs, rfl⟩
theorem turned_hide {fs : List Addr} (st : (hideAll h fs).StaysIn h') (up : h.UpToSlots h') (hfs : ∀ b ∈ fs, ∀ o, h.get? b = some o → ∀ vs, o.data ≠ .fields vs) : Turned fs h h' := fun b o e =>
  ⟨fun hb => st b o (hideAll_get _ e hb), fun hb => up b o e (hfs b hb o e)⟩
end

/-- an IndexError e, made between h and h', with the context c -/
structure Rz (h h' : Heap) (e : Addr) (c : Value) : Prop where
  keeps : Ext h h'
  new : h.get? e = none
  there : ∃ ob t, h'.get? e = some ob ∧ ob.cls = .type "IndexError" ∧ ob.data = .fields #[t, .none, c, .none, .bool false, .none]

theorem entry_unchain : entryFor table "proto.unchain" = some Builtin.«proto.unchain» := entryFor_of_tree (by kernel_rfl)

section
variable {prog : Program} {w : World} {A : Around} {E : Value → Shared → Prop} {s : Shared} {α : Type}
theorem raise_in {msg : String} {x : Addr} {ox : Obj} {vs : Array Value} {Q : α → Shared → Prop} (hh : A.handled = some (.ref x)) (hx : s.heap.get? x = some ox) (hd : ox.data = .fields vs) (h2 : vs[2]? = some .none)
    (h : ∀ h' tk e, Rz s.heap h' e (.ref x) → E (.ref e) { s with heap := h', toks := tk }) : wpAny (model prog w) A (raiseErrorWords "IndexError" msg : Sem α) Q E s := by
  unfold raiseErrorWords
  refine wpAny_bind (wpAny_mkText (wpAny_bind ?_))
  unfold newExc newTuple
  refine wpAny_bind (wpAny_newObj_type ?_)
  refine wpAny_bind (m := firstArgMember _ _) (wpAny_of_eq (a := Value.none) (by simp only [firstArgMember, plainExc_IndexError.first]; rfl) ?_)
  rw [plainExc_IndexError.own]
  refine wpAny_newObj_type ?_
  unfold raiseNew
  refine wpAny_bind (wpAny_handled ?_)
  rw [hh]
  dsimp only
  have hne : x ≠ (s.heap.push { cls := .type "tuple", dict := none, data := .seq [Value.str msg s.toks].toArray }).objs.size := Nat.ne_of_lt (by rw [Heap.size_push]; exact Nat.lt_succ_of_lt (Heap.lt_size hx))
  generalize hH : s.heap.push { cls := .type "tuple", dict := none, data := .seq [Value.str msg s.toks].toArray } = H at hne ⊢
  have kH : Ext s.heap H := fun b o e => hH ▸ Heap.get?_push_of_some _ e
  rw [if_pos (by simpa using hne)]
  refine wpAny_bind ?_
  have hx' : (H.push { cls := Value.type "IndexError", data := Data.fields (#[Value.ref s.heap.objs.size, Value.none, Value.none, Value.none, Value.bool false, Value.none] ++ #[]) }).get? x = some ox := Heap.get?_push_of_some _ (kH _ _ hx)
  refine wpAny_holding (wpAny_runValue (codeAny_builtin entry_unchain ?_))
  unfold Builtin.«proto.unchain»
  dsimp only
  refine wpAny_bind (wpAny_field hx' hd h2 ?_)
  rw [if_pos (by decide)]
  refine wpAny_bind (wpAny_pure ?_)
  refine wpAny_pure ?_
  show wpAny _ _ (updateField H.objs.size 2 (Value.ref x) >>= fun _ => throw (Value.ref H.objs.size)) _ _ _
  have he : (H.push { cls := Value.type "IndexError", data := Data.fields (#[Value.ref s.heap.objs.size, Value.none, Value.none, Value.none, Value.bool false, Value.none] ++ #[]) }).get? H.objs.size = some { cls := Value.type "IndexError", data := Data.fields (#[Value.ref s.heap.objs.size, Value.none, Value.none, Value.none, Value.bool false, Value.none] ++ #[]) } := Heap.get?_push_size _ rfl
  unfold updateField
  refine wpAny_bind (wpAny_bind (wpAny_load he ?_))
  dsimp only
  rw [if_pos (show (2 : Nat) < _ from by simp)]
  refine wpAny_update he (wpAny_throw (h _ _ _ ⟨fun b o e => ?_, ?_, ?_⟩))
  · have hb : H.objs.size ≠ b := by
      have := Heap.lt_size (kH _ _ e)
      intro z; rw [z] at this; exact Nat.lt_irrefl _ this
    rw [Heap.get?_update_other _ _ hb]
    exact Heap.get?_push_of_some _ (kH _ _ e)
  · cases q : s.heap.get? H.objs.size with
    | none => rfl
    | some o => exact absurd (Heap.lt_size (kH _ _ q)) (Nat.lt_irrefl _)
  · exact ⟨_, _, Heap.get?_update_self _ he rfl, rfl, rfl⟩

theorem getItem_out {l : Addr} {items : Array Value} {k : Int} {t : Tok} {Q : Value → Shared → Prop} (hA : A.handled = none) (hl : s.heap.IsList l items) (h0 : (items.size : Int) ≤ k) (hhi : k < 2 ^ 63)
    (hE : ∀ h' tk e, Rz s.heap h' e .none → E (.ref e) { s with heap := h', toks := tk }) : wpAny (model prog w) A (getItem (.ref l) (.int k t)) Q E s :=
  wpAny_getItem_list_out hA hl (.inr h0) (by omega) hhi fun h' tk e x => hE h' tk e ⟨x.keeps, x.new, x.there⟩
theorem getItem_out_in {l x : Addr} {ox : Obj} {vs : Array Value} {items : Array Value} {k : Int} {t : Tok} {Q : Value → Shared → Prop} (hA : A.handled = some (.ref x)) (hx : s.heap.get? x = some ox) (hd : ox.data = .fields vs) (h2 : vs[2]? = some .none)
    (hl : s.heap.IsList l items) (h0 : (items.size : Int) ≤ k) (hhi : k < 2 ^ 63)
    (hE : ∀ h' tk e, Rz s.heap h' e (.ref x) → E (.ref e) { s with heap := h', toks := tk }) : wpAny (model prog w) A (getItem (.ref l) (.int k t)) Q E s := by
  obtain ⟨o, ho, hc, ne, hd'⟩ := id hl
  have hlo : -(2 ^ 63) ≤ k := by omega
  unfold getItem
  try with_reducible refine wpAny_holding ?_
  first | refine wpAny_bind (wpAny_pure ?_) | skip
  refine wpAny_bind (wpAny_sequenceKey hl.typeIs (by decide) ?_)
  refine wpAny_bind (wpAny_callSpecial?_slot (name := Str.ofString "__getitem__") hl.typeIs slot_list_getitem
    (wpAny_call_entry slot_list_getitem hl.typeIs entry_list_getitem ?_ (args_list_getitem _ _)))
  show wpAny _ _ (Builtin.List.listSubscript? (.int k t) >>= _) _ _ s
  refine wpAny_bind (wpAny_listSubscript_int (fitsIndex_both hlo hhi) ?_)
  clear hlo hhi
  cases k with
  | negSucc j => exact absurd h0 (by have := Int.negSucc_lt_zero j; omega)
  | ofNat j =>
  have hj : items[j]? = none := Array.getElem?_eq_none (by have : (items.size : Int) ≤ (j : Int) := h0; omega)
  show wpAny _ _ ((seqItemAt l j >>= fun r => pure (r.map (j, ·))) >>= _) _ _ s
  refine wpAny_bind (wpAny_bind (wpAny_seqItemAt ho hd' (wpAny_pure ?_)))
  rw [hj]
  first
    | exact wpAny_bind (wpAny_rule (raise_in hA hx hd h2 hE))
    | exact wpAny_bind (wpAny_rule (wpAny_bind (raise_in hA hx hd h2 hE)))
    | exact wpAny_bind (wpAny_bind (wpAny_rule (raise_in hA hx hd h2 hE)))
    | exact wpAny_rule (raise_in hA hx hd h2 hE)
end

section
variable {M : Model} {A : Around} {E : Value → Shared → Prop} {s : Shared}
theorem note_first {base : Heap} {env : Env} {outer : List Env} {L e : Addr} {oe : Obj} {vs : Array Value} {a0 : Value} {Q : Unit → Shared → Prop}
    (hfr : A.frames = some (env :: outer)) (hl : s.heap.FunFrames base (env :: outer)) (hf : env.frame = some L)
    (he : s.heap.get? e = some oe) (hkb : base.StaysIn s.heap) (hen : base.get? e = none) (hd : oe.data = .fields vs) (h0 : vs[0]? = some a0) (h1 : vs[1]? = some .none)
    (h : ∀ h', Heap.NotedW base (env :: outer) e oe.cls a0 (rawInt L) s.heap h' → Q () { s with heap := h' }) : wpAny M A (noteFrame (.ref e) env) Q E s := by
  unfold noteFrame
  simp only [hf]
  refine wpAny_bind (wpAny_field he hd h1 ?_)
  rw [if_neg (by decide)]
  exact wpAny_entryW hfr hl hf he hkb hen hd (Array.getElem?_eq_some_iff.mp h1).1 h0 h
end

section
variable {prog : Program} {w : World} {A₀ : Around} {E : Value → Shared → Prop} {s' : Shared} {base g h : Heap} {outer : List Env} {L a e : Addr} {m : Str → Option Value} {name : Str} {scope : Scope} {cd c : Value}
  {b₀ : Stmt} {suite : List Stmt} {pos np : Pos} {rest : List ExceptHandler} {Q : Flow → Shared → Prop} {news : List (Addr × Obj)} {KF : Frag} {p : Program} {loose : List Str} {mean : ExcName → Option Value} {mg mb : Str → Option Value}
abbrev Handled (prog : Program) (w : World) (A : Around) (env : Env) (hs : List ExceptHandler) (Q : Flow → Shared → Prop) (E : Value → Shared → Prop) (e : Value) (s' : Shared) : Prop :=
  wpAny (model prog w) A (noteFrame e env) (fun _ s₂ => wpAny (model prog w) A (setFlight e none) (fun _ s₃ => wpAny (model prog w) A (handleBy e env hs) Q E s₃) E s₂) E s'
abbrev ixH (np : Pos) (b₀ : Stmt) (suite : List Stmt) (pos : Pos) : ExceptHandler := .ExceptHandler (some (.Name (Str.ofString "IndexError") np)) none (b₀ :: suite) pos

theorem caught_ix (K : Below A₀ base outer g) (F : Fr g L h m) (N : News g L h news) (XB : KF.In base) (TB : Top p loose mean mg mb base) (r : Rz h s'.heap e c)
    (ex : nsIn KF mainGlobals (Str.ofString "IndexError") = some none)
    (k : ∀ h' g', KtsTurn (outer.filterMap (·.frame)) g g' → Fr g' L h' m → News g' L h' news → Below A₀ base outer g' →
      wpAny (model prog w) ((A₀.deeper (envOf name scope L a cd)).mark (some (.ref e))) (execs (b₀ :: suite) (envOf name scope L a cd)) Q (fun _ _ => False) { s' with heap := h' })
    (hk : scope.kind = .function := by rfl) (hx : (envOf name scope L a cd).kindOf (Str.ofString "IndexError") = some .globalImplicit := by rfl) :
    Handled prog w (A₀.deeper (envOf name scope L a cd)) (envOf name scope L a cd) (ixH np b₀ suite pos :: rest) Q E (.ref e) s' := by
  have K' := K.push (name := name) (scope := scope) (a := a) (cd := cd) F hk
  have hin : ∀ env ∈ (envOf name scope L a cd :: outer), ∀ b, env.frame = some b → b ∈ (envOf name scope L a cd :: outer).filterMap (·.frame) := fun env he b hb => List.mem_filterMap.mpr ⟨env, he, hb⟩
  have hfs : ∀ b ∈ (envOf name scope L a cd :: outer).filterMap (·.frame), ∀ o, h.get? b = some o → ∀ vs, o.data ≠ .fields vs := fun b hb o ho => by
    obtain ⟨_, o', ho', hd⟩ := K'.frames.mem hb
    rw [ho] at ho'; cases ho'; exact hd
  obtain ⟨ob, t, he, hcls, hd⟩ := r.there
  have hB : (hideAll h ((envOf name scope L a cd :: outer).filterMap (·.frame))).StaysIn s'.heap := fun b o q => r.keeps b o (of_hideAll _ q)
  have hBe : (hideAll h ((envOf name scope L a cd :: outer).filterMap (·.frame))).get? e = none := by
    cases q : (hideAll h ((envOf name scope L a cd :: outer).filterMap (·.frame))).get? e with
    | none => rfl
    | some o => have := of_hideAll _ q; rw [r.new] at this; cases this
  have fr := (funFrames_hide K'.frames hin).of_keeps (h' := s'.heap) fun b o q _ => ⟨o, r.keeps b o q, rfl⟩
  have tb : ∀ h₂, (hideAll h ((envOf name scope L a cd :: outer).filterMap (·.frame))).StaysIn h₂ → s'.heap.UpToSlots h₂ → ∃ g', KtsTurn (outer.filterMap (·.frame)) g g' ∧ Fr g' L h₂ m ∧ News g' L h₂ news ∧ Below A₀ base outer g' := fun h₂ st up =>
    turn_back K F N (turned_hide st ((Heap.UpToSlots.of_keeps r.keeps).trans up) hfs)
  refine note_first (Around.frames_deeper K.stack) fr rfl he hB hBe hd (a0 := t) rfl rfl fun h₁ hn₁ => ?_
  obtain ⟨k1, k2, k3, k4⟩ := hn₁
  rw [hcls] at k3
  have held : Heap.HeldW (hideAll h ((envOf name scope L a cd :: outer).filterMap (·.frame))) (envOf name scope L a cd :: outer) e (.type "IndexError") t L h₁ := ⟨k1, hBe, k2, k3⟩
  refine wpAny_landsW held fun h₂ fl₂ up₂ => ?_
  have up₂' : s'.heap.UpToSlots h₂ := Heap.UpToSlots.trans k4 up₂
  obtain ⟨g₂, T₂, F₂, N₂, K₂⟩ := tb h₂ fl₂.1 up₂'
  obtain ⟨ob₂, hob₂, hc₂⟩ := fl₂.there
  refine wpAny_handleBy_builtin (X := "IndexError") (T := "IndexError") (b := true) PySem.F.isExc_IndexError PySem.F.notTuple_IndexError PySem.F.self_IndexError
    (name_B F₂ (XB.keeps K₂.stays) (topRead_of (TB.keeps K₂.stays)) ex PyProof.Rows.Boot.«IndexError» (by decide) ⟨rfl, ⟨ob₂, hob₂, hc₂⟩, ?_⟩ hk hx (by decide))
  refine lands_againW fl₂ fun h₃ fl₃ up₃ => ?_
  obtain ⟨g₃, T₃, F₃, N₃, K₃⟩ := tb h₃ fl₃.1 (up₂'.trans up₃)
  exact wpAny_noRaise (k h₃ g₃ T₃ F₃ N₃ K₃)


theorem frUpd {f : Obj → Obj} {T : Addr} (F : Fr g L h m) (hTL : T ≠ L) (hTg : g.get? T = none) : Fr g L (h.update T f) m := F.change (Heap.SameBut.update ..) hTL hTg
theorem newsUpd {f : Obj → Obj} {T : Addr} (N : News g L h news) (hT : ∀ p ∈ news, p.1 ≠ T) : News g L (h.update T f) news := fun p hp =>
  ⟨(Heap.get?_update_other _ _ (Ne.symm (hT p hp))).trans (N p hp).1, (N p hp).2⟩

theorem caught_held {oe oT : Obj} {vs ts : Array Value} {T : Addr} (F : Fr g L s'.heap m) (N : News g L s'.heap news) (X : KF.In g) (P : Top p loose mean mg mb g)
    (he : s'.heap.get? e = some oe) (hc : oe.cls = .type "IndexError") (hd : oe.data = .fields vs) (h1 : vs[1]? = some (.ref T)) (hT : s'.heap.get? T = some oT) (hdT : oT.data = .fields ts) (h3 : ts[3]? = some (rawInt L))
    (hTe : T ≠ e) (hTL : T ≠ L) (hTg : g.get? T = none) (hTn : ∀ p ∈ news, p.1 ≠ T) (ex : nsIn KF mainGlobals (Str.ofString "IndexError") = some none)
    (k : ∀ h', Fr g L h' m → News g L h' news → wpAny (model prog w) ((A₀.deeper (envOf name scope L a cd)).mark (some (.ref e))) (execs (b₀ :: suite) (envOf name scope L a cd)) Q (fun _ _ => False) { s' with heap := h' })
    (hk : scope.kind = .function := by rfl) (hx : (envOf name scope L a cd).kindOf (Str.ofString "IndexError") = some .globalImplicit := by rfl) :
    Handled prog w (A₀.deeper (envOf name scope L a cd)) (envOf name scope L a cd) (ixH np b₀ suite pos :: rest) Q E (.ref e) s' := by
  have hsz : 3 < ts.size := (Array.getElem?_eq_some_iff.mp h3).1
  refine wpAny_noteFrame_inFlight rfl he hd h1 hT hdT h3 (wpAny_setFlight_none he hd h1 hT hdT hsz ?_)
  have F₁ := frUpd (f := Obj.mapFields (·.setIfInBounds 3 .none)) F hTL hTg
  have N₁ := newsUpd (f := Obj.mapFields (·.setIfInBounds 3 .none)) N hTn
  have he₁ : (s'.heap.update T (Obj.mapFields (·.setIfInBounds 3 .none))).get? e = some oe := (Heap.get?_update_other _ _ hTe).trans he
  have hd₁ := Obj.data_mapFields hdT (·.setIfInBounds 3 Value.none)
  have hT₁ := Heap.get?_update_self (Obj.mapFields (·.setIfInBounds 3 .none)) hT (Obj.isFreed_of_fields hd₁)
  refine wpAny_handleBy_builtin (X := "IndexError") (T := "IndexError") (b := true) PySem.F.isExc_IndexError PySem.F.notTuple_IndexError PySem.F.self_IndexError
    (name_B F₁ X (topRead_of P) ex PyProof.Rows.Boot.«IndexError» (by decide) ⟨rfl, ⟨oe, he₁, hc⟩, ?_⟩ hk hx (by decide))
  rw [if_pos rfl]
  refine wpAny_setFlight_none he₁ hd h1 hT₁ hd₁ (by simpa using hsz) ?_
  exact wpAny_noRaise (k _ (frUpd F₁ hTL hTg) (newsUpd N₁ hTn))
end

section
variable {M : Model} {A : Around} {E : Value → Shared → Prop} {s : Shared}
/-- a fresh exception noted twice in its frame and landed: what lies then -/
theorem fin_first {base : Heap} {env : Env} {outer : List Env} {L e : Addr} {oe : Obj} {vs : Array Value} {Q : Unit → Shared → Prop}
    (hfr : A.frames = some (env :: outer)) (hl : s.heap.FunFrames base (env :: outer)) (hf : env.frame = some L)
    (he : s.heap.get? e = some oe) (hkb : base.StaysIn s.heap) (hen : base.get? e = none) (hd : oe.data = .fields vs) (h1 : vs[1]? = some .none)
    (k : ∀ h' T oe' oT ts, base.StaysIn h' → s.heap.UpToSlots h' → h'.get? e = some oe' → oe'.cls = oe.cls → oe'.data = .fields (vs.setIfInBounds 1 (.ref T)) → base.get? T = none → s.heap.get? T = none → T ≠ e → T ≠ L → h'.get? T = some oT → oT.data = .fields ts → ts[3]? = some .none → Q () { s with heap := h' }) :
    wpAny M A (noteFrame (.ref e) env) (fun _ s₁ => wpAny M A (noteFrame (.ref e) env) (fun _ s₂ => wpAny M A (setFlight (.ref e) none) Q E s₂) E s₁) E s := by
  have hsz := (Array.getElem?_eq_some_iff.mp h1).1
  obtain ⟨_, ⟨L', oL, hfL, hLn, hLs, hLd⟩, _⟩ := id hl
  obtain rfl : L = L' := Option.some.inj (hf.symm.trans hfL)
  obtain ⟨Q₁, hQ₁⟩ : ∃ Q₁, Q₁ = (fun (_ : Unit) s₁ => wpAny M A (noteFrame (.ref e) env) (fun _ s₂ => wpAny M A (setFlight (.ref e) none) Q E s₂) E s₁) := ⟨_, rfl⟩
  rw [← hQ₁]
  unfold noteFrame
  simp only [hf]
  refine wpAny_bind (wpAny_field he hd h1 ?_)
  rw [if_neg (by decide)]
  have hene : e ∉ (env :: outer).filterMap (·.frame) := fun hm => by
    obtain ⟨_, o, ho, hnf⟩ := hl.mem hm
    rw [he] at ho; injection ho with ho; subst ho; exact hnf vs hd
  refine wpAny_bind (wpAny_frameOf_fun hfr hl hf fun h₁ hs₁ => ?_)
  refine wpAny_bind (wpAny_entryPlaceOf fun pl hpl => ?_)
  unfold EntryCells.newEntry newFields
  refine wpAny_bind (wpAny_newObj_type ?_ (hpl.sizeOk5 _ _ _ _ _))
  generalize hTB : ({ cls := .type "traceback", dict := none, data := .fields ([Value.none, .ref L, .none, rawInt L, .none] ++ (if pl.isEmpty then List.replicate 6 Value.none else pl)).toArray } : Obj) = TB
  have hTBd : ∃ ts, TB.data = .fields ts ∧ ts[3]? = some (rawInt L) ∧ 3 < ts.size := by
    subst hTB
    exact ⟨_, rfl, by simp, by simp⟩
  obtain ⟨ts, hTd, h3, h3s⟩ := hTBd
  have hTfree : TB.isFreed = false := Obj.isFreed_of_fields hTd
  have he₁ : h₁.get? e = some oe := (hs₁.2.1 e hene).trans he
  have he₂ := Heap.get?_push_of_some (h := h₁) TB he₁
  refine wpAny_setField he₂ hd hsz ?_
  have hTe : h₁.objs.size ≠ e := Nat.ne_of_gt (Heap.lt_size he₁)
  have hd₃ := Obj.data_mapFields hd (·.setIfInBounds 1 (Value.ref h₁.objs.size))
  have he₃ := Heap.get?_update_self (Obj.mapFields (·.setIfInBounds 1 (Value.ref h₁.objs.size))) he₂ (Obj.isFreed_of_fields hd₃)
  have hT₃ := (Heap.get?_update_other (h₁.push TB) (Obj.mapFields (·.setIfInBounds 1 (Value.ref h₁.objs.size))) (Ne.symm hTe)).trans (Heap.get?_push_size h₁ hTfree)
  have kb₁ : base.StaysIn h₁ := fun b o hbo => (hs₁.2.1 b fun hm => by rw [(hl.mem hm).1] at hbo; cases hbo).trans (hkb b o hbo)
  have hbT : base.get? h₁.objs.size = none := kb₁.fresh
  have hLT : h₁.objs.size ≠ L := by
    obtain ⟨sl, q⟩ := hs₁.2.2 L oL hLs
    exact Nat.ne_of_gt (Heap.lt_size q)
  have hsT : s.heap.get? h₁.objs.size = none := by
    cases q : s.heap.get? h₁.objs.size with
    | none => rfl
    | some o => obtain ⟨sl, z⟩ := hs₁.2.2 _ _ q; exact absurd (Heap.lt_size z) (Nat.lt_irrefl _)
  have keep : ∀ b o, b ≠ e → h₁.get? b = some o → ((h₁.push TB).update e (Obj.mapFields (·.setIfInBounds 1 (Value.ref h₁.objs.size)))).get? b = some o :=
    fun b o hbe hb => by
      rw [Heap.get?_update_other _ _ (Ne.symm hbe)]
      exact Heap.get?_push_of_some _ hb
  have noRecord : ∀ b o, s.heap.get? b = some o → (∀ vs, o.data ≠ .fields vs) → b ≠ e := fun b o hb hnf q => by
    rw [q, he] at hb; injection hb with hb; subst hb; exact hnf vs hd
  generalize ((h₁.push TB).update e (Obj.mapFields (·.setIfInBounds 1 (Value.ref h₁.objs.size)))) = h₃ at he₃ hT₃ keep ⊢
  rw [hQ₁]
  refine wpAny_noteFrame_inFlight (tb := h₁.objs.size) hf he₃ hd₃ (by simp [hsz]) hT₃ hTd h3 (wpAny_setFlight_none (tb := h₁.objs.size) he₃ hd₃ (by simp [hsz]) hT₃ hTd h3s ?_)
  have hd₄ := Obj.data_mapFields hTd (·.setIfInBounds 3 Value.none)
  refine k _ h₁.objs.size _ _ _ (fun b o hbo => ?_) (fun b o hb hnf => ?_) ((Heap.get?_update_other _ _ hTe).trans he₃) (Obj.cls_mapFields ..) hd₃ hbT hsT hTe hLT (Heap.get?_update_self _ hT₃ (Obj.isFreed_of_fields hd₄)) hd₄ (by simp [h3s])
  · rw [Heap.get?_update_other _ _ (fun q : h₁.objs.size = b => by rw [← q, hbT] at hbo; cases hbo)]
    exact keep b o (fun q => by rw [q, hen] at hbo; cases hbo) (kb₁ b o hbo)
  · obtain ⟨sl, hs⟩ := hs₁.2.2 b o hb
    refine ⟨sl, ?_⟩
    rw [Heap.get?_update_other _ _ (fun q : h₁.objs.size = b => by rw [← q] at hs; exact absurd (Heap.lt_size hs) (Nat.lt_irrefl _))]
    exact keep b _ (noRecord b o hb hnf) hs
end

section
variable {prog : Program} {w : World} {A₀ : Around} {E : Value → Shared → Prop} {s' : Shared} {base g h : Heap} {outer : List Env} {L a e : Addr} {m : Str → Option Value} {name : Str} {scope : Scope} {cd c : Value}
  {final : List Stmt} {Q : Flow → Shared → Prop} {news : List (Addr × Obj)}
theorem fin_ix (K : Below A₀ base outer g) (F : Fr g L h m) (N : News g L h news) (r : Rz h s'.heap e c)
    (k : ∀ h' g' T oe oT ts t, KtsTurn (outer.filterMap (·.frame)) g g' → Fr g' L h' m → News g' L h' ((e, oe) :: (T, oT) :: news) → Below A₀ base outer g' → oe.cls = .type "IndexError" → oe.data = .fields #[t, .ref T, c, .none, .bool false, .none] →
      oT.data = .fields ts → ts[3]? = some .none → T ≠ e → (∀ p ∈ news, T ≠ p.1) →
      wpAny (model prog w) ((A₀.deeper (envOf name scope L a cd)).mark (some (.ref e))) (execs final (envOf name scope L a cd))
        (fun f s₂ => match f with | .next => wpAny (model prog w) (A₀.deeper (envOf name scope L a cd)) (passOn "try.finally" (.ref e) (envOf name scope L a cd)) Q E s₂ | f => wpAny (model prog w) (A₀.deeper (envOf name scope L a cd)) (setFlight (.ref e) none) (fun _ s₃ => Q f s₃) E s₂)
        (notedBy (model prog w) ((A₀.deeper (envOf name scope L a cd)).mark (some (.ref e))) (envOf name scope L a cd) (cameBackBy (model prog w) (A₀.deeper (envOf name scope L a cd)) (envOf name scope L a cd) E)) { s' with heap := h' })
    (hk : scope.kind = .function := by rfl) :
    wpAny (model prog w) (A₀.deeper (envOf name scope L a cd)) (noteFrame (.ref e) (envOf name scope L a cd))
      (fun _ s₂ => FinallyRaised prog w (A₀.deeper (envOf name scope L a cd)) E (envOf name scope L a cd) final Q (.ref e) s₂) (FinallyRaised prog w (A₀.deeper (envOf name scope L a cd)) E (envOf name scope L a cd) final Q) s' := by
  have K' := K.push (name := name) (scope := scope) (a := a) (cd := cd) F hk
  have hin : ∀ env ∈ (envOf name scope L a cd :: outer), ∀ b, env.frame = some b → b ∈ (envOf name scope L a cd :: outer).filterMap (·.frame) := fun env he b hb => List.mem_filterMap.mpr ⟨env, he, hb⟩
  have hfs : ∀ b ∈ (envOf name scope L a cd :: outer).filterMap (·.frame), ∀ o, h.get? b = some o → ∀ vs, o.data ≠ .fields vs := fun b hb o ho => by
    obtain ⟨_, o', ho', hd⟩ := K'.frames.mem hb
    rw [ho] at ho'; cases ho'; exact hd
  obtain ⟨ob, t, he, hcls, hd⟩ := r.there
  have hB : (hideAll h ((envOf name scope L a cd :: outer).filterMap (·.frame))).StaysIn s'.heap := fun b o q => r.keeps b o (of_hideAll _ q)
  have hBe : (hideAll h ((envOf name scope L a cd :: outer).filterMap (·.frame))).get? e = none := by
    cases q : (hideAll h ((envOf name scope L a cd :: outer).filterMap (·.frame))).get? e with
    | none => rfl
    | some o => have := of_hideAll _ q; rw [r.new] at this; cases this
  have fr := (funFrames_hide K'.frames hin).of_keeps (h' := s'.heap) fun b o q _ => ⟨o, r.keeps b o q, rfl⟩
  refine wpAny_mono (fin_first (E := fun _ _ => False) (Around.frames_deeper K.stack) fr rfl he hB hBe hd rfl fun h' T oe oT ts k1 k2 k3 k4 k5 k6 k7 k8 k9 k10 k11 k12 => ?_)
    (fun _ s₁ h₁ => ⟨ref_ne_byPass _, wpAny_mono h₁ (fun _ s₂ h₂ => wpAny_noRaise h₂) fun _ _ z => z.elim⟩) fun _ _ z => z.elim
  obtain ⟨g', T', F', N', K''⟩ := turn_back K F N (turned_hide k1 ((Heap.UpToSlots.of_keeps r.keeps).trans k2) hfs)
  have gT : g.get? T = none := by
    cases q : g.get? T with
    | none => rfl
    | some o => rw [r.keeps _ _ (F.keep _ _ q)] at k7; cases k7
  have ge : g.get? e = none := by
    cases q : g.get? e with
    | none => rfl
    | some o => have := F.keep _ _ q; rw [r.new] at this; cases this
  have eL : e ≠ L := fun z => by
    obtain ⟨oL, _, _, hL, _⟩ := F.ns
    have q := r.new
    rw [z, hL] at q; cases q
  refine k h' g' T oe oT ts t T' F' ?_ K'' (k4.trans hcls) (by rw [k5]; rfl) k11 k12 k8 ?_
  · intro p hp
    rcases List.mem_cons.mp hp with rfl | hp
    · exact ⟨k3, eL, T'.none_ _ ge⟩
    rcases List.mem_cons.mp hp with rfl | hp
    · exact ⟨k10, k9, T'.none_ _ gT⟩
    · exact N' p hp
  · intro p hp z
    rw [z, r.keeps _ _ (N p hp).1] at k7; cases k7

theorem setFlight_some {M : Model} {A : Around} {E : Value → Shared → Prop} {s : Shared} {e T L : Addr} {oe oT : Obj} {vs ts : Array Value} {Q : Unit → Shared → Prop} (he : s.heap.get? e = some oe) (hd : oe.data = .fields vs) (h1 : vs[1]? = some (.ref T))
    (hT : s.heap.get? T = some oT) (hdT : oT.data = .fields ts) (hsz : 3 < ts.size) (h : Q () { s with heap := s.heap.update T (Obj.mapFields (·.setIfInBounds 3 (rawInt L))) }) : wpAny M A (setFlight (.ref e) (some L)) Q E s := by
  unfold setFlight
  refine wpAny_bind (wpAny_field he hd h1 ?_)
  rw [if_pos (show (Value.ref T != Value.none) = true from by simp)]
  exact wpAny_setField hT hdT hsz h
theorem passOn_held {α : Type} {what : String} {M : Model} {A : Around} {s : Shared} {T : Addr} {oe oT : Obj} {vs ts : Array Value} {Q : α → Shared → Prop} (he : s.heap.get? e = some oe) (hd : oe.data = .fields vs) (h1 : vs[1]? = some (.ref T))
    (hT : s.heap.get? T = some oT) (hdT : oT.data = .fields ts) (hsz : 3 < ts.size) (h : E (.ref e) { s with heap := s.heap.update T (Obj.mapFields (·.setIfInBounds 3 (rawInt L))) }) : wpAny M A (passOn what (.ref e) (envOf name scope L a cd) : Sem α) Q E s := by
  unfold PySem.passOn
  refine wpAny_bind (wpAny_field he hd h1 ?_)
  rw [if_neg (by simp)]
  exact wpAny_bind (setFlight_some he hd h1 hT hdT hsz (wpAny_throw h))
end

theorem isList_base {h₀ h : Heap} {L l : Addr} {m : Str → Option Value} {us : Array Value} (F : Fr h₀ L h m) (x : h₀.IsList l us) : h.IsList l us := let ⟨o, ho, r⟩ := x; ⟨o, F.keep _ _ ho, r⟩
theorem drop_cons {α : Type} {l : List α} {k : Nat} {x : α} (h : l[k]? = some x) : l.drop k = x :: l.drop (k + 1) := by
  obtain ⟨hk, rfl⟩ := List.getElem?_eq_some_iff.mp h
  exact List.drop_eq_getElem_cons hk
section
variable {prog : Program} {w : World} {A : Around} {E : Value → Shared → Prop} {s : Shared} {env : Env} {g : Heap} {L a : Addr} {m : Str → Option Value} {name : Str} {scope : Scope} {cd c : Value} {news : List (Addr × Obj)}
/-- list[k], k in it -/
theorem sub_in {value slice : Expr} {l : Addr} {us : List Value} {k : Int} {u : Tok} {v : Value} {Q : Value → Shared → Prop}
    (hl : s.heap.IsList l us.toArray) (h0 : 0 ≤ k) (hhi : k < 2 ^ 63) (hx : us[k.toNat]? = some v) (h : Q v s)
    (hs : subscripted slice false (.ref l) (.int k u) = operate [.ref l, .int k u] (getItem (.ref l) (.int k u)) := by with_unfolding_all rfl) :
    wpAny (model prog w) A (subscriptTail value slice (.ref l) (.int k u)) Q E s :=
  tail_any hl.typeIs slot_list_getitem.lookup (wpAny_getItem_list hl h0 hhi (by simpa using hx) h) hs
/-- list[-1] -/
theorem sub_last {value e : Expr} {op : UnaryOp} {p : Pos} {l : Addr} {us : List Value} {u : Tok} {v : Value} {Q : Value → Shared → Prop}
    (hl : s.heap.IsList l us.toArray) (hx : us[us.length - 1]? = some v) (h : Q v s) :
    wpAny (model prog w) A (subscriptTail value (.UnaryOp op e p) (.ref l) (.int (-1) u)) Q E s :=
  tail_any hl.typeIs slot_list_getitem.lookup (wpAny_getItem_list_neg (k := -1) hl (by decide) (by
    have h1 : us.length - 1 < us.length := (List.getElem?_eq_some_iff.mp hx).1
    simp only [List.size_toArray]; omega) (by decide) (by
    have h1 : us.length - 1 < us.length := (List.getElem?_eq_some_iff.mp hx).1
    have : ((-1 : Int) + us.toArray.size).toNat = us.length - 1 := by simp only [List.size_toArray]; omega
    rw [this]; simpa using hx) h) (by with_unfolding_all rfl)
/-- list[k], as its getItem goes -/
theorem sub_get {value slice : Expr} {l : Addr} {us : List Value} {k : Int} {u : Tok} {Q : Value → Shared → Prop}
    (hl : s.heap.IsList l us.toArray) (h : wpAny (model prog w) A (getItem (.ref l) (.int k u)) Q E s)
    (hs : subscripted slice false (.ref l) (.int k u) = operate [.ref l, .int k u] (getItem (.ref l) (.int k u)) := by with_unfolding_all rfl) :
    wpAny (model prog w) A (subscriptTail value slice (.ref l) (.int k u)) Q E s :=
  tail_any hl.typeIs slot_list_getitem.lookup h hs

theorem inner_while {ln ix it : Str} {p1 p2 p3 p4 p5 p6 p7 p8 p9 : Pos} {kk : Nat} {l : Addr} {us : List Value} {xs : List Int} {e : Int} {te t : Tok} {k : Nat} {Q : Flow → Shared → Prop}
    (hkS : scope.kind = .function) (hln : (envOf name scope L a cd).kindOf ln = some .local) (hix : (envOf name scope L a cd).kindOf ix = some .local) (hit : (envOf name scope L a cd).kindOf it = some .local)
    (dln : (ln == ("__debug__" : Str)) = false) (dix : (ix == ("__debug__" : Str)) = false) (dit : (it == ("__debug__" : Str)) = false)
    (nl : ln ≠ ix) (nt : it ≠ ix)
    (F : Fr g L s.heap m) (N : News g L s.heap news) (hl : g.IsList l us.toArray) (hi : IntsAre us xs)
    (ml : m ln = some (.ref l)) (mx : m ix = some (.int k t)) (mt : m it = some (.int e te)) (hk : k ≤ xs.length) (hlen : xs.length < 2 ^ 62)
    (hget : ∀ (s' : Shared) (k : Int) t (Q : Value → Shared → Prop) (E' : Value → Shared → Prop), News g L s'.heap news → s'.heap.IsList l us.toArray → (us.toArray.size : Int) ≤ k → k < 2 ^ 63 →
      (∀ h' tk x, Rz s'.heap h' x c → E' (.ref x) { s' with heap := h', toks := tk }) → wpAny (model prog w) A (getItem (.ref l) (.int k t)) Q E' s')
    (norm : ∀ h' tk t' (k' : Nat) x0, xs.drop k' = (xs.drop k).dropWhile (· == e) → k ≤ k' → xs[k']? = some x0 → Fr g L h' (fun y => if y = ix then some (.int k' t') else m y) → News g L h' news → Q .next { s with heap := h', toks := tk })
    (exc : ∀ h' h'' tk t' x, (xs.drop k).dropWhile (· == e) = [] → Fr g L h' (fun y => if y = ix then some (.int xs.length t') else m y) → News g L h' news → Rz h' h'' x c → E (.ref x) { s with heap := h'', toks := tk })
    (hE : PassesOwn (model prog w) A (envOf name scope L a cd) E) :
    wpAny (model prog w) A (exec (.While (.Compare (.Subscript (.Name ln p1) (.Name ix p2) p3) [.Eq] [.Name it p4] p5) [.AugAssign (.Name ix p6) .Add (.Constant (.int 1) kk p7) p8] [] p9) (envOf name scope L a cd)) Q E s := by
  have hsz : us.length = xs.length := hi.length
  refine While_inv2 (fun n m₁ nx => nx = news ∧ ∃ (k' : Nat) (t' : Tok), m₁ = (fun y => if y = ix then some (.int k' t') else m y) ∧ k ≤ k' ∧ k' ≤ xs.length ∧ (xs.drop k').dropWhile (· == e) = (xs.drop k).dropWhile (· == e) ∧ n = xs.length - k') F N
    ⟨rfl, k, t, ?_, Nat.le_refl _, hk, rfl, rfl⟩ ?_ hE
  · funext y
    by_cases h : y = ix
    · rw [if_pos h, h]; exact mx
    · rw [if_neg h]
  rintro n m₁ nx h₁ tk₁ F₁ N₁ ⟨rfl, k', t', rfl, hkk, hk', hdw, rfl⟩
  have hL₁ := isList_base F₁ hl
  refine wpAny_isTrue_Compare1 (Subscript_ (ld F₁ ((if_neg nl).trans ml) (ld F₁ (if_pos rfl) ?_ hkS hix dix) hkS hln dln))
  by_cases hlt : k' < xs.length
  · have hx : xs[k']? = some xs[k'] := by simp [hlt]
    obtain ⟨t0, hu⟩ := hi.get k' xs[k'] hx
    refine sub_in hL₁ (by omega) (by omega) (by simpa using hu) (ld F₁ ((if_neg nt).trans mt) (eq_int (wpAny_truthy_bool ?_)) hkS hit dit)
    have hd := drop_cons hx
    by_cases he : xs[k'] = e
    · rw [if_pos (by simpa using he)]
      refine wpAny_execs_cons (wpAny_AugAssign_Name (ldn F₁ (if_pos rfl) (wpAny_Constant_int (iadd_int (storeX_L F₁ N₁ (fun h₂ F₂ N₂ => ?_) hkS hix))) hkS hix))
      refine wpAny_execs_nil ⟨h₂, _, _, nx, xs.length - (k' + 1), rfl, F₂, N₂, by omega, rfl, k' + 1, tk₁ + 1, ?_, by omega, hlt, ?_, rfl⟩
      · funext y
        by_cases h : y = ix
        · simp [h]
        · simp [h]
      · rw [← hdw, hd, List.dropWhile_cons_of_pos (by simpa using he)]
    · rw [if_neg (by simpa using he)]
      refine norm h₁ _ t' k' xs[k'] ?_ hkk hx F₁ N₁
      rw [← hdw, hd, List.dropWhile_cons_of_neg (by simpa using he)]
  · have hin : k' = xs.length := by omega
    subst hin
    refine sub_get hL₁ (hget _ _ _ _ _ N₁ hL₁ (by simp [hsz]) (by omega) fun h' tk x r => ?_)
    refine exc h₁ h' _ t' x ?_ F₁ N₁ r
    rw [← hdw, List.drop_length]; rfl
end

section
variable {prog : Program} {w : World} {A : Around} {E : Value → Shared → Prop} {s : Shared}
/-- a generator function's object woken: what it gives is bare -/
theorem next_gen {a : Addr} {g n : Nat} {gs : GenState} {P : Nat → Shared → Shared → Prop} {Y : Protocol} {Q : Option Value → Shared → Prop} (hh : A.handled = none)
    (hl : s.heap.NoLimit) (hroom : A.depth < recursionLimit) (hg : s.heap.IsGen a g) (hgs : s.gens[g]? = some gs)
    (hgo : gs.Goes (model prog w) A.in1 (fun n s₀ r s₁ => r = .ok (.ret .none) ∧ P n s₀ s₁) Y n (.send .none) (s.setGen g .running))
    (hY : ∀ v s₁ gs', gs'.bare = true → Y (n - 1) (s.setGen g .running) v s₁ (fun r' s'' => match n with
        | 0 => False
        | m + 1 => gs'.Goes (model prog w) A.in1 (fun n s₀ r s₁ => r = .ok (.ret .none) ∧ P n s₀ s₁) Y m r' s'') → Q (some v) (s₁.setGen g gs'))
    (hP : ∀ s₁, P n (s.setGen g .running) s₁ → ∀ h', (∀ b o, s₁.heap.get? b = some o → h'.get? b = some o) → Q none { s₁.setGen g .finished with heap := h' }) :
    wpAny (model prog w) A (pyNext (.ref a)) Q E s := by
  unfold pyNext
  refine wpAny_bind (wpAny_attempt (wpAny_callSpecial?_slot (name := Str.ofString "__next__") hg.typeIs slot_gen_next
    (wpAny_call_entry slot_gen_next hg.typeIs entry_gen_next ?_ (args_gen_next _))))
  show wpAny _ A.in1 (Builtin.Generator.genWake (.ref a) (.send .none)) _ _ s
  unfold Builtin.Generator.genWake
  refine wpAny_bind (wpAny_holding (wpAny_genNumber hg (wpAny_bind (wpAny_genState hgs ?_))))
  cases gs with
  | running => exact hgo.elim
  | finished => exact hgo.elim
  | _ =>
    refine wpAny_bind (wpAny_roomToWake hl hroom ?_)
    show wpAny _ A.in1 (.resume g (.send .none) [] _) _ _ s
    refine wpAny_resumeQ hgs hgo (fun x s₁ hx => ?_) (fun v s₁ gs' hb hv => wpAny_pure ⟨v, rfl, wpAny_pure (hY v s₁ gs' hb hv)⟩)
    obtain ⟨rfl, hp⟩ := hx
    show wpAny _ A.in1 (newExc (.type "StopIteration") [] >>= _) _ _ _
    refine wpAny_bind ?_
    simp only [newExc, newTuple]
    refine wpAny_bind (wpAny_newObj_type ?_ (by size_fits))
    refine wpAny_bind (m := firstArgMember _ _) (wpAny_of_eq (a := Value.none) (by first | rfl | (simp only [firstArgMember]; rfl)) ?_)
    refine wpAny_newObj_type ?_ (by size_fits)
    simp only [raiseNew]
    refine wpAny_bind (wpAny_bind (wpAny_handled ?_))
    first | rw [show A.in1.handled = none from hh] | rw [hh]
    refine wpAny_throw ?_
    refine wpAny_bind (wpAny_isInstance (T := "StopIteration") (b := true) ⟨_, Heap.get?_push_size _ rfl, rfl⟩ isSubtype_stop ?_)
    exact wpAny_pure (hP s₁ hp _ fun b o hb => Heap.get?_push_of_some _ (Heap.get?_push_of_some _ hb))
end

section
variable {prog : Program} {w : World} {A₀ A : Around} {s : Shared} {base h₀ : Heap} {outer : List Env} {L : Addr} {m : Str → Option Value} {env : Env} {K : Frag}
  {p : Program} {loose : List Str} {mean : ExcName → Option Value} {mg mb : Str → Option Value}
  {R : Result → Shared → Prop} {name qual : Str} {params : Arguments} {body : List Stmt} {scope : Scope} {dV kV doc pm cdv ct oc : Value} {an od : Option Addr} {osl : Array (Option Value)} {f : Addr} {args : Args} {binds : List (Str × Value)}
theorem enter_gen (F : Fr h₀ L s.heap m) (X₀ : K.In h₀) (T : Top p loose mean mg mb h₀)
    (ho : K.lookup f = some ⟨oc, od, .func (fnOf name qual params body scope dV kV doc pm an cdv ct), osl⟩) (hcd : codeIn K cdv qual = true) (hroom : A.depth < recursionLimit)
    (hbind : BindsTo s (fnOf name qual params body scope dV kV doc pm an cdv ct) args binds) (hloc : ∀ y ∈ binds, scope.names.lookup y.1 = some .local)
    (h : ∀ h₁ tk a, h₁.Ns s.heap.objs.size (fun y => binds.reverse.lookup y) → Ext s.heap h₁ → h₁.IsGen a s.gens.size → h₁.objs.size = a + 1 → s.heap.objs.size < a →
      R (.ok (.ret (.ref a))) { s with gens := s.gens.push (.fresh (.func body (envOf qual scope s.heap.objs.size f cdv))), toks := tk, heap := h₁ })
    (hco : scope.isCoroutine = false) (hgen : scope.isGenerator = true) (hk : scope.kind = .function)
    (hcell : ∀ x ∈ scope.names, x.2 ≠ .cell) : codeAny (model prog w) A (.call (.ref f) args) R s := by
  refine codeAny_call_generator (fd := fnOf name qual params body scope dV kV doc pm an cdv ct) (body := body) hroom ((X₀.keeps F.keep) _ _ ho) rfl hco hgen rfl (codeRec_of (X₀.keeps F.keep) hcd) (hbind _ _ _ _ ?_)
  refine wpAny_newFunctionEnv hcell hloc (fun h₁ hns hsb => ⟨(T.nolimit.keeps F.keep).fresh _ hsb, ?_⟩) hk
  have keep : Ext s.heap h₁ := fun b o e => hsb.extBut b o (Nat.ne_of_lt (Heap.lt_size e)) (Heap.get?_push_of_some _ e)
  have hsz : h₁.objs.size = s.heap.objs.size + 1 := by rw [hsb.1, Heap.size_push]
  refine h _ _ h₁.objs.size (hns.keeps fun b o e => Heap.get?_push_of_some _ e) (fun b o e => Heap.get?_push_of_some _ (keep b o e)) ⟨_, _, _, Heap.get?_push_size _ rfl, rfl, rfl, rfl⟩ (by rw [Heap.size_push]) (by omega)
end

section
variable {prog : Program} {w : World} {A : Around} {R : GenEnd} {Y : Protocol} {n : Nat} {s₀ : Shared} {c : Code} {fs : List Frame} {s : Shared} {env : Env}
  {K : Flow → Sem Fin} {H : Value → Sem Fin} {gd : Bool → Bool} {lv : List Value → List Value}

theorem seg_exec {st : Stmt} (h : wpAny (model prog w) (A.over c fs) (exec st env) (fun f s' => Seg (model prog w) A R Y n s₀ c (K f) fs s') (fun _ _ => False) s) :
    Seg (model prog w) A R Y n s₀ c ((exec st env).wrap K H gd lv) fs s := seg_wrap (wpAny_mono h (fun _ _ x => x) fun _ _ z => z.elim)

theorem seg_If {test : Expr} {body orelse : List Stmt} {pos : Pos}
    (h : wpAny (model prog w) (A.over c fs) (isTrue test env (eval test env)) (fun b s' => if b = true then Seg (model prog w) A R Y n s₀ c ((execs body env).wrap K H gd lv) fs s' else Seg (model prog w) A R Y n s₀ c ((execs orelse env).wrap K H gd lv) fs s') (fun _ _ => False) s) :
    Seg (model prog w) A R Y n s₀ c ((exec (.If test body orelse pos) env).wrap K H gd lv) fs s := by
  rw [arm_exec_If]
  refine seg_bind_wrap (wpAny_standAt (seg_bind_wrap (wpAny_mono h (fun b s' hb => ?_) fun _ _ z => z.elim)))
  cases b
  · simpa using hb
  · simpa using hb

theorem seg_forLoop {x : Str} {px : Pos} {it : Value} {body : List Stmt}
    (h : ∀ (H : Value → Sem Fin) gd lv, gd false = false → wpAny (model prog w) (A.over (.forLoop (.Name x px) it body [] env) fs) (pyNext it) (fun r s₁ => match r with
      | none => Seg (model prog w) A R Y n s₀ (.block [] env) ((model prog w).den (.block [] env)) fs s₁
      | some v => wpAny (model prog w) (A.over (.forLoop (.Name x px) it body [] env) fs) (storeName env x v) (fun _ s₂ => ∀ K : Flow → Sem Fin, (K .next = .pure (.again (.forLoop (.Name x px) it body [] env))) → (∀ v, K (.ret v) = .pure (.done (.ret v))) →
          Seg (model prog w) A R Y n s₀ (.forLoop (.Name x px) it body [] env) ((execs body env).wrap K H gd lv) fs s₂) (fun _ _ => False) s₁) (fun _ _ => False) s) :
    Seg (model prog w) A R Y n s₀ (.forLoop (.Name x px) it body [] env) ((model prog w).den (.forLoop (.Name x px) it body [] env)) fs s := by
  show Seg _ A _ _ _ s₀ _ ((forTurn (.Name x px) it body [] env).onRaise (fun x => do noteFrame x env; theTreesLotGoes x)) fs s
  unfold forTurn
  rw [Sem.onRaise_eq_wrap]
  refine seg_bind_wrap (wpAny_standAt ?_)
  refine seg_bind_wrap (wpAny_onRaise (wpAny_mono (h (fun e => ((do noteFrame e env; theTreesLotGoes e : Sem Unit).bind fun _ => .raise e)) id id rfl) (fun r s₁ h₁ => ?_) fun _ _ z => z.elim))
  cases r with
  | none => exact seg_again rfl h₁
  | some v =>
    refine seg_bind_wrap (wpAny_of_eq (rfl : letOwnedTupleGo (.Name x px) it v = pure ()) ?_)
    refine seg_bind_wrap (wpAny_assign_Name (wpAny_mono h₁ (fun _ s₂ h₂ => ?_) fun _ _ z => z.elim))
    rw [Sem.bind_eq_wrap', Sem.wrap_wrap]
    exact h₂ _ rfl (fun _ => rfl)

theorem seg_done {f : Flow} {k h g l c₁ p₁ kp} (hk : Seg (model prog w) A R Y n s₀ c₁ (k (.ok f)) fs s) : Seg (model prog w) A R Y n s₀ c (.pure (.done f)) (.ret k h g l c₁ p₁ kp :: fs) s := seg_leaf (.ok f) hk
theorem seg_fin {f : Flow} (h : R n s₀ (.ok f) s) : Seg (model prog w) A R Y n s₀ c (.pure (.done f)) [] s := seg_end (.ok f) h
theorem seg_block_nil {k h g l c₁ p₁ kp} (hk : Seg (model prog w) A R Y n s₀ c₁ (k (.ok .next)) fs s) : Seg (model prog w) A R Y n s₀ (.block [] env) ((model prog w).den (.block [] env)) (.ret k h g l c₁ p₁ kp :: fs) s := by
  first
    | exact seg_done hk
    | (show Seg _ A _ _ _ s₀ _ ((do return .done (← execs [] env) : Sem Fin).onRaise _) _ s; exact seg_done hk)
    | (show Seg _ A _ _ _ s₀ _ (.point _ _) _ s; refine seg_point ?_; exact seg_done hk)
theorem seg_For {x : Str} {px pos : Pos} {iter : Expr} {body : List Stmt}
    (h : wpAny (model prog w) (A.over c fs) (eval iter env) (fun x₁ s₁ => wpAny (model prog w) (A.over c fs) (pyIter x₁) (fun it s₂ => ∀ (k : Result → Sem Fin) g l p, g = gd false → (∀ f, k (.ok f) = K f) →
      Seg (model prog w) A R Y n s₀ (.forLoop (.Name x px) it body [] env) ((model prog w).den (.forLoop (.Name x px) it body [] env)) (.ret k none g l c p [] :: fs) s₂) (fun _ _ => False) s₁) (fun _ _ => False) s)
    (hs : ∀ x, foldedSetIterable iter env x = pure x := by intro _; rfl) :
    Seg (model prog w) A R Y n s₀ c ((exec (.For (.Name x px) iter body [] pos) env).wrap K H gd lv) fs s := by
  rw [exec_For]
  refine seg_bind_wrap (wpAny_standAt (seg_bind_wrap (wpAny_mono h (fun x₁ s₁ h₁ => seg_bind_wrap (wpAny_of_eq (hs x₁) (seg_bind_wrap (wpAny_standAt (seg_bind_wrap (wpAny_holding (wpAny_mono h₁ (fun it s₂ h₂ => ?_) fun _ _ z => z.elim))))))) fun _ _ z => z.elim)))
  refine seg_call fun p => ?_
  exact h₂ _ _ _ _ rfl (fun f => rfl)
end
theorem at_around {M : Model} {A : Around} {c : Code} {R : Result → Shared → Prop} {s : Shared} (h : ∀ A', A' = A → codeAny M A' c R s) : codeAny M A c R s := h A rfl

theorem ints_eqvAll (ns ms : List Int) : PyData.eqvAll (ns.map PyData.int) (ms.map PyData.int) = decide (ns = ms) := ked_eqvAll ns ms
theorem any_int (k : Int) : ∀ ns : List Int, ((ns.map PyData.int).any fun y => PyData.eqv y (.int k)) = decide (k ∈ ns)
  | [] => by simp
  | n :: r => by
    rw [List.map_cons, List.any_cons, any_int k r]
    by_cases h : n = k
    · by_cases h' : k ∈ r <;> simp [PyData.eqv, h, h']
    · have h2 : ¬ k = n := fun e => h e.symm
      by_cases h' : k ∈ r <;> simp [PyData.eqv, h, h2, h']
section
variable {prog : Program} {w : World} {A : Around} {E : Value → Shared → Prop} {s : Shared}
theorem LI.reads {h : Heap} {a : Addr} {ns : List Int} (x : LI h a ns) : Reads h (.ref a) (.list (ns.map .int)) [a] := let ⟨_, b, i⟩ := x; reads_newData b (ke_carried i)
theorem eq_LI {a b : Addr} {ns ms : List Int} {Q : Value → Shared → Prop} (ha : LI s.heap a ns) (hb : LI s.heap b ms) (hu : A.units + 64 < cLine) (h : Q (.bool (decide (ns = ms))) s) : wpAny (model prog w) A (compareOp .Eq (.ref a) (.ref b)) Q E s := by
  obtain ⟨us, x, i⟩ := ha; obtain ⟨vs, y, j⟩ := hb
  exact ke_eq_ints x y i j hu h
theorem ne_LI {a b : Addr} {ns ms : List Int} {Q : Value → Shared → Prop} (ha : LI s.heap a ns) (hb : LI s.heap b ms) (hu : A.units + 64 < cLine) (h : Q (.bool (!decide (ns = ms))) s) : wpAny (model prog w) A (compareOp .NotEq (.ref a) (.ref b)) Q E s := by
  obtain ⟨us, x, i⟩ := ha; obtain ⟨vs, y, j⟩ := hb
  exact ke_ne_ints x y i j hu h
theorem in_LI {a : Addr} {k : Int} {t : Tok} {ns : List Int} {Q : Value → Shared → Prop} (ha : LI s.heap a ns) (hu : A.units + 64 < cLine) (h : Q (.bool (decide (k ∈ ns))) s) : wpAny (model prog w) A (compareOp .In (.int k t) (.ref a)) Q E s := by
  refine SeqAt.in_list_reads ha.reads (Reads.int k t) (ke_canLayAll0 _) rfl ?_ (by rw [any_int]; exact h)
  have : min (PyData.depthAll (ns.map PyData.int)) (PyData.int k).depth ≤ 0 := Nat.le_trans (Nat.min_le_left _ _) (by rw [ke_depthAll]; exact Nat.le_refl _)
  omega
theorem notin_LI {a : Addr} {k : Int} {t : Tok} {ns : List Int} {Q : Value → Shared → Prop} (ha : LI s.heap a ns) (hu : A.units + 64 < cLine) (h : Q (.bool (!decide (k ∈ ns))) s) : wpAny (model prog w) A (compareOp .NotIn (.int k t) (.ref a)) Q E s := by
  refine SeqAt.notIn_list_reads ha.reads (Reads.int k t) (ke_canLayAll0 _) rfl ?_ (by rw [any_int]; exact h)
  have : min (PyData.depthAll (ns.map PyData.int)) (PyData.int k).depth ≤ 0 := Nat.le_trans (Nat.min_le_left _ _) (by rw [ke_depthAll]; exact Nat.le_refl _)
  omega
abbrev pairOf (a b : Addr) : Obj := { cls := .type "tuple", data := .seq [Value.ref a, .ref b].toArray }
theorem pair_reads {h : Heap} {r a b : Addr} {ns ms : List Int} {o : Obj} {n : Nat} (hr : h.get? r = some o) (hc : o.cls = .type "tuple") (hd : o.data = .seq [Value.ref a, .ref b].toArray n) (ha : LI h a ns) (hb : LI h b ms) :
    ∃ as, Reads h (.ref r) (.tuple [.list (ns.map .int), .list (ms.map .int)]) as := ⟨_, reads_tuple_at hr hc hd (.cons ha.reads (.cons hb.reads .nil))⟩
theorem pair_shaped (ns ms : List Int) : SeqAt.shaped (.tuple [.list (ns.map .int), .list (ms.map .int)]) = true := by
  simp [SeqAt.shaped, PyData.canLay0, PyData.canLayAll0, PyData.depth, PyData.depthAll, ke_canLayAll0, ke_depthAll]
theorem pair_eqv (ns ms ns' ms' : List Int) : PyData.eqv (.tuple [.list (ns.map .int), .list (ms.map .int)]) (.tuple [.list (ns'.map .int), .list (ms'.map .int)]) = decide ((ns, ms) = (ns', ms')) := by
  simp only [PyData.eqv, PyData.eqvAll, ked_eqvAll, Bool.and_true, Prod.mk.injEq]
  by_cases h : ns = ns' <;> by_cases h' : ms = ms' <;> simp [h, h']
theorem eq_pair {r r' a b a' b' : Addr} {o o' : Obj} {n n' : Nat} {ns ms ns' ms' : List Int} {Q : Value → Shared → Prop} (hr : s.heap.get? r = some o) (hc : o.cls = .type "tuple") (hd : o.data = .seq [Value.ref a, .ref b].toArray n)
    (hr' : s.heap.get? r' = some o') (hc' : o'.cls = .type "tuple") (hd' : o'.data = .seq [Value.ref a', .ref b'].toArray n') (ha : LI s.heap a ns) (hb : LI s.heap b ms) (ha' : LI s.heap a' ns') (hb' : LI s.heap b' ms')
    (hu : A.units + 64 < cLine) (h : Q (.bool (decide ((ns, ms) = (ns', ms')))) s) : wpAny (model prog w) A (compareOp .Eq (.ref r) (.ref r')) Q E s := by
  obtain ⟨_, x⟩ := pair_reads hr hc hd ha hb
  obtain ⟨_, y⟩ := pair_reads hr' hc' hd' ha' hb'
  exact eq_dataH x y (pair_shaped ..) (pair_shaped ..) hu (by rw [pair_eqv]; exact h)
theorem ne_pair {r r' a b a' b' : Addr} {o o' : Obj} {n n' : Nat} {ns ms ns' ms' : List Int} {Q : Value → Shared → Prop} (hr : s.heap.get? r = some o) (hc : o.cls = .type "tuple") (hd : o.data = .seq [Value.ref a, .ref b].toArray n)
    (hr' : s.heap.get? r' = some o') (hc' : o'.cls = .type "tuple") (hd' : o'.data = .seq [Value.ref a', .ref b'].toArray n') (ha : LI s.heap a ns) (hb : LI s.heap b ms) (ha' : LI s.heap a' ns') (hb' : LI s.heap b' ms')
    (hu : A.units + 64 < cLine) (h : Q (.bool (!decide ((ns, ms) = (ns', ms')))) s) : wpAny (model prog w) A (compareOp .NotEq (.ref r) (.ref r')) Q E s := by
  obtain ⟨_, x⟩ := pair_reads hr hc hd ha hb
  obtain ⟨_, y⟩ := pair_reads hr' hc' hd' ha' hb'
  exact ne_dataH x y (pair_shaped ..) (pair_shaped ..) hu (by rw [pair_eqv]; exact h)
theorem len_LI {a : Addr} {ns : List Int} {Q : Value → Shared → Prop} (ha : LI s.heap a ns) (hn : ns.length < 2 ^ 62) (h : Q (.int (ns.length : Int) (s.toks + 1)) { s with toks := s.toks + 1 + 1 }) : wpAny (model prog w) A (call (.builtin "len") [.ref a]) Q E s := by
  obtain ⟨us, x, i⟩ := ha
  exact len_ints_fit x i hn h
theorem srcOk_LI {l : Addr} {ns : List Int} (hh : A.handled = none) (hl : LI s.heap l ns) : SrcOk prog w A s (.ref l) ns (· = l) := let ⟨_, a, b⟩ := hl; srcOk_list hh a b
end
section
variable {M : Model} {A : Around} {E : Value → Shared → Prop} {s : Shared} {C c : Addr} {scope : Scope} {cl : List (Str × Addr)} {env : Env} {x : Str} {pos : Pos} {v : Value} {o : Obj} {m : Str → Option Value}
theorem tests0 {cenv : Env} {Q : Bool → Shared → Prop} (h : Q true s) : wpAny M A (testsOf [] cenv) Q E s := by
  unfold testsOf
  rw [List.forIn_nil]
  exact wpAny_pure h
theorem tests1 {c : Expr} {cenv : Env} {Q : Bool → Shared → Prop} (h : wpAny M A (isTrue c cenv (eval c cenv)) (fun ok s' => Q ok s') E s) : wpAny M A (testsOf [c] cenv) Q E s := by
  unfold testsOf
  rw [List.forIn_cons]
  refine wpAny_bind ?_
  rw [if_pos rfl]
  refine wpAny_bind (wpAny_mono h (fun ok s' h' => wpAny_pure ?_) fun _ _ z => z)
  dsimp only
  rw [List.forIn_nil]
  exact wpAny_pure h'
theorem cvL {Q : Value → Shared → Prop} (hn : s.heap.Ns C m) (hv : m x = some v) (h : Q v s)
    (hk : (compEnvC scope cl C env).scope.kind = .function := by rfl) (hx : (compEnvC scope cl C env).kindOf x = some .local := by rfl) (hb : (x == ("__debug__" : Str)) = false := by decide) :
    wpAny M A (eval (.Name x pos) (compEnvC scope cl C env)) Q E s := wpAny_Name (wpAny_loadName_local hk hx hn hv h) hb
theorem cvC {Q : Value → Shared → Prop} (hc : cl.lookup x = some c) (hm : s.heap.get? c = some o) (hd : o.data = .cell (some v)) (h : Q v s)
    (hk : (compEnvC scope cl C env).scope.kind = .function := by rfl) (hx : (compEnvC scope cl C env).kindOf x = some .cell := by rfl) (hb : (x == ("__debug__" : Str)) = false := by decide) :
    wpAny M A (eval (.Name x pos) (compEnvC scope cl C env)) Q E s := wpAny_Name (wpAny_loadName_cell hk hx hc ⟨o, hm, hd⟩ h) hb
theorem cvF {Q : Value → Shared → Prop} (hc : cl.lookup x = some c) (hm : s.heap.get? c = some o) (hd : o.data = .cell (some v)) (h : Q v s)
    (hk : (compEnvC scope cl C env).scope.kind = .function := by rfl) (hx : (compEnvC scope cl C env).kindOf x = some .free := by rfl) (hb : (x == ("__debug__" : Str)) = false := by decide) (hn : (x == ("__classdict__" : Str)) = false := by decide) :
    wpAny M A (eval (.Name x pos) (compEnvC scope cl C env)) Q E s := wpAny_Name (wpAny_loadName_free hk hx hc ⟨o, hm, hd⟩ h hn) hb
theorem keeps_self {tk : Nat} : Keeps s { s with toks := tk } := ⟨s.heap, tk, rfl, fun _ _ e => e⟩
end
theorem li_of {h : Heap} {a : Addr} {us : List Value} {n : Nat} {ns : List Int} (e : h.get? a = some (listOf us.toArray n)) (i : IntsAre us ns) : LI h a ns := ⟨us, ⟨_, e, rfl, n, rfl⟩, i⟩
theorem fmod_ne {a g : Int} (h : 0 < g) : (a.fmod g != 0) = decide (a % g ≠ 0) := by
  rw [Int.fmod_eq_emod_of_nonneg _ (Int.le_of_lt h)]
  by_cases q : a % g = 0 <;> simp [q]
theorem fmod_eq {a g : Int} (h : 0 < g) : (a.fmod g == 0) = decide (a % g = 0) := by
  rw [Int.fmod_eq_emod_of_nonneg _ (Int.le_of_lt h)]
  by_cases q : a % g = 0 <;> simp [q]
theorem fdiv_pos {a g : Int} (h : 0 < g) : a.fdiv g = a / g := Int.fdiv_eq_ediv_of_nonneg _ (Int.le_of_lt h)
section
variable {prog : Program} {w : World} {A : Around} {E : Value → Shared → Prop} {s : Shared}
theorem srcOk_rng0 {r : Addr} {b : Int} {t u v : Tok} (hh : A.handled = none) (hr : IsRange s.heap r 0 b 1 t u v) (h0 : 0 ≤ b) (h1 : b < 2 ^ 62) : SrcOk prog w A s (.ref r) (rangeKs 0 b.toNat) (fun _ => False) :=
  srcOk_range hh hr (small_one (by decide) (by decide) (by omega) h1) (by rw [rangeSize_one]; split <;> omega)
theorem list_rng {h₀ : Heap} {L : Addr} {m : Str → Option Value} {news : List (Addr × Obj)} {r : Addr} {a b : Int} {t u v : Tok} {Q : Value → Shared → Prop} (hh : A.handled = none) (F : Fr h₀ L s.heap m) (N : News h₀ L s.heap news) (hr : IsRange s.heap r a b 1 t u v)
    (h0 : 0 ≤ a) (h1 : a < 2 ^ 62) (h2 : 0 ≤ b) (h3 : b ≤ 1000000)
    (h : ∀ D us n h' tk, Fr h₀ L h' m → News h₀ L h' ((D, listOf (List.toArray us) n) :: news) → (∀ p ∈ news, p.1 < D) → IntsAre us (rangeKs a (b - a).toNat) → Q (.ref D) { s with heap := h', toks := tk }) :
    wpAny (model prog w) A (call (.type "list") [.ref r]) Q E s := by
  refine call_list_range hh hr (small_one (by omega) h1 (by omega) (by omega)) (n := (b - a).toNat) (by rw [rangeSize_one]; split <;> omega) (by omega) fun h' tk acc c hk hD hit => ?_
  have hlt : ∀ p ∈ news, p.1 < s.heap.objs.size := fun p hp => Heap.lt_size (N p hp).1
  have hfr : s.heap.get? s.heap.objs.size = none := get_size_none _
  refine h s.heap.objs.size acc.toList c h' tk (F.keeps hk) ?_ hlt ?_
  · refine newsAdd F N hk hfr ?_
    simpa using hD
  · obtain ⟨hsz, hit⟩ := hit
    refine ints_of_items ?_ fun j x hx => ?_
    · simpa [rangeKs_length] using hsz
    · have hx' : acc[j]? = some x := by simpa using hx
      obtain ⟨t', rfl⟩ := hit j x hx'
      have hj : j < (b - a).toNat := by
        have := (Array.getElem?_eq_some_iff.mp hx').1
        omega
      refine ⟨a + (j : Int) * 1, t', ?_, rfl⟩
      simp [rangeKs, hj]
end
theorem gnNe_at {d : Addr} (l : List (Addr × Obj)) (h : GnNe d l) (p : Addr × Obj) (hp : p ∈ l) : d ≠ p.1 := by
  induction l with
  | nil => cases hp
  | cons q r ih =>
    rcases List.mem_cons.mp hp with e | hp
    · intro z
      rw [e] at z
      exact h.1 z.symm
    · exact ih h.2 hp
section
variable {prog : Program} {w : World} {A : Around} {E : Value → Shared → Prop} {s : Shared} {h₀ : Heap} {C : Addr} {scope : Scope} {cl : List (Str × Addr)} {env : Env} {KF : Frag} {p : Program} {loose : List Str} {mean : ExcName → Option Value} {mg mb : Str → Option Value}
/-- a builtin type called with one value, in a comprehension -/
theorem type_comp {x : Str} {T' : String} {e1 : Expr} {rp pos : Pos} {Q : Value → Shared → Prop} (X : KF.In h₀) (T : Top p loose mean mg mb h₀) (k : Ext h₀ s.heap) (e : nsIn KF mainGlobals x = some none) (hv : bootBuiltins x = some (.type T'))
    (hn : x ≠ "__name__") (h : wpAny (model prog w) A (eval e1 (compEnvC scope cl C env)) (fun v s' => wpAny (model prog w) A (call (.type T') [v]) Q E s') E s)
    (hk : (compEnvC scope cl C env).scope.kind = .function := by rfl) (hx : (compEnvC scope cl C env).kindOf x = some .globalImplicit := by rfl) (hd : (x == ("__debug__" : Str)) = false := by decide)
    (hG : env.globals = mainGlobals := by rfl) (hB : env.builtins = builtinsNs := by rfl)
    (hse : backTo pos (starEach [e1] (compEnvC scope cl C env)) = [(false, eval e1 (compEnvC scope cl C env))] := by intros; rfl) :
    wpAny (model prog w) A (eval (.Call (.Name x rp) [e1] [] pos) (compEnvC scope cl C env)) Q E s := by
  have T := topRead_of T
  have g1 : s.heap.Ns (compEnvC scope cl C env).globals mg := by
    show s.heap.Ns env.globals mg
    rw [hG]; exact T.g.keeps k
  have g2 : s.heap.Ns (compEnvC scope cl C env).builtins mb := by
    show s.heap.Ns env.builtins mb
    rw [hB]; exact T.b.keeps k
  refine wpAny_Call_NameR (Calls.Name_function_global hk hx (Calls.loadGlobal_builtin g1 (mg_none_of X T.g e) g2 ((T.builtins x hn).trans hv) ?_) hd)
  rw [hse]
  exact PyProof.Rows.callWith_type rfl (Calls.evalArgs_plain (Calls.spliced_cons (wpAny_mono h (fun nv s₁ h₁ => Calls.spliced_nil h₁) fun _ _ e => e)))
theorem builtin_comp {x : Str} {T' : String} {e1 : Expr} {rp pos : Pos} {Q : Value → Shared → Prop} (X : KF.In h₀) (T : Top p loose mean mg mb h₀) (k : Ext h₀ s.heap) (e : nsIn KF mainGlobals x = some none) (hv : bootBuiltins x = some (.builtin T'))
    (hn : x ≠ "__name__") (h : wpAny (model prog w) A (eval e1 (compEnvC scope cl C env)) (fun v s' => wpAny (model prog w) A (call (.builtin T') [v]) Q E s') E s)
    (hk : (compEnvC scope cl C env).scope.kind = .function := by rfl) (hx : (compEnvC scope cl C env).kindOf x = some .globalImplicit := by rfl) (hd : (x == ("__debug__" : Str)) = false := by decide)
    (hG : env.globals = mainGlobals := by rfl) (hB : env.builtins = builtinsNs := by rfl)
    (hse : backTo pos (starEach [e1] (compEnvC scope cl C env)) = [(false, eval e1 (compEnvC scope cl C env))] := by intros; rfl) :
    wpAny (model prog w) A (eval (.Call (.Name x rp) [e1] [] pos) (compEnvC scope cl C env)) Q E s := by
  have T := topRead_of T
  have g1 : s.heap.Ns (compEnvC scope cl C env).globals mg := by
    show s.heap.Ns env.globals mg
    rw [hG]; exact T.g.keeps k
  have g2 : s.heap.Ns (compEnvC scope cl C env).builtins mb := by
    show s.heap.Ns env.builtins mb
    rw [hB]; exact T.b.keeps k
  refine wpAny_Call_NameR (Calls.Name_function_global hk hx (Calls.loadGlobal_builtin g1 (mg_none_of X T.g e) g2 ((T.builtins x hn).trans hv) ?_) hd)
  rw [hse]
  exact callWith_builtin rfl (Calls.evalArgs_plain (Calls.spliced_cons (wpAny_mono h (fun nv s₁ h₁ => Calls.spliced_nil h₁) fun _ _ e => e)))
end
theorem last_get {us : List Value} {ns : List Int} (h : IntsAre us ns) (hne : ns ≠ []) : ∃ t, us[us.length - 1]? = some (.int (ns.getLast?.getD 0) t) := by
  have hl := h.length
  have h0 : 0 < ns.length := List.length_pos_iff.mpr hne
  refine h.get (us.length - 1) _ ?_
  rw [hl, List.getLast?_eq_getElem?]
  have : ns.length - 1 < ns.length := by omega
  simp [this]
theorem turn_add {fs : List Addr} {g g' h h' : Heap} {L r : Addr} {m : Str → Option Value} {o : Obj} {nx : List (Addr × Obj)} (T : KtsTurn fs g g') (F : Fr g L h m) (e : h.get? r = none) (ho : h'.get? r = some o) (N : News g' L h' nx) : News g' L h' ((r, o) :: nx) := by
  intro p hp
  rcases List.mem_cons.mp hp with rfl | hp
  · refine ⟨ho, fun z => ?_, T.none_ _ ?_⟩
    · obtain ⟨_, _, _, q, _⟩ := F.ns
      have z' : r = L := z
      rw [z', q] at e; cases e
    · show g.get? r = none
      cases q : g.get? r with
      | none => rfl
      | some o => rw [F.keep _ _ q] at e; cases e
  · exact N p hp
section
variable {prog : Program} {w : World} {A : Around}
/-- a loop over a range, its frame's ground turning -/
theorem rng_loop {env : Env} {x : Str} {px : Pos} {body : List Stmt} {R : Result → Shared → Prop} {s : Shared} {I : Addr} {n₀ : Nat} {a₀ : Int} {g₀ : Heap} {m₀ : Str → Option Value} {nx₀ : List (Addr × Obj)} (hh : A.handled = none)
    (J : Nat → Int → Heap → (Str → Option Value) → List (Addr × Obj) → Prop) (F₀ : Fr g₀ env.locals s.heap m₀) (N₀ : News g₀ env.locals s.heap nx₀) (hI : IsRangeIter s.heap I a₀ n₀ 1) (hg : g₀.get? I = none) (hL : I ≠ env.locals) (hn : ∀ p ∈ nx₀, p.1 ≠ I) (h0 : J n₀ a₀ g₀ m₀ nx₀)
    (turn : ∀ n a g m nx h tk t oI, J (n + 1) a g m nx → Fr g env.locals h m → News g env.locals h ((I, oI) :: nx) → (∀ p ∈ nx, p.1 ≠ I) →
      wpAny (model prog w) A (assign (.Name x px) env (.int a t)) (fun _ s₂ => wpAny (model prog w) A (execs body env) (fun f s₃ => match f with
        | .next | .cont => ∃ g' m' nx' h' tk', s₃ = { s with heap := h', toks := tk' } ∧ Fr g' env.locals h' m' ∧ News g' env.locals h' ((I, oI) :: nx') ∧ (∀ p ∈ nx', p.1 ≠ I) ∧ J n (a + 1) g' m' nx'
        | .brk => R (.ok .next) s₃
        | .ret v => R (.ok (.ret v)) s₃) (notedBy (model prog w) A env fun e s' => R (.error e) s') s₂) (notedBy (model prog w) A env fun e s' => R (.error e) s') { s with heap := h, toks := tk })
    (done : ∀ a g m nx h tk, J 0 a g m nx → Fr g env.locals h m → News g env.locals h nx → R (.ok .next) { s with heap := h, toks := tk }) :
    codeAny (model prog w) A (.forLoop (.Name x px) (.ref I) body [] env) R s := by
  refine codeAny_forLoop (fun k s' => ∃ h tk a g m nx, s' = { s with heap := h, toks := tk } ∧ IsRangeIter h I a k 1 ∧ g.get? I = none ∧ (∀ p ∈ nx, p.1 ≠ I) ∧ Fr g env.locals h m ∧ News g env.locals h nx ∧ J k a g m nx) ?_ n₀ ⟨s.heap, s.toks, a₀, g₀, m₀, nx₀, rfl, hI, hg, hn, F₀, N₀, h0⟩
  rintro k s' ⟨h, tk, a, g, m, nx, rfl, it, hg, hn, F, N, hJ⟩
  cases k with
  | zero =>
    refine wpAny_pyNext_range_end hh it (by omega) fun h' hk => ?_
    have F' : Fr g env.locals h' m := ⟨F.ns.at' fun o e => hk _ o (Ne.symm hL) e, fun b o e => hk b o (fun z => by rw [z, hg] at e; cases e) (F.keep b o e), F.above⟩
    exact wpAny_execs_nil (done a g m nx h' _ hJ F' fun p hp => ⟨hk _ _ (hn p hp) (N p hp).1, (N p hp).2⟩)
  | succ k =>
    refine wpAny_pyNext_range_item it (by omega) fun h' it' hs => ?_
    have F' : Fr g env.locals h' m := F.change hs hL hg
    obtain ⟨oI, hoI, hoI'⟩ : ∃ oI, h'.get? I = some oI ∧ ∀ h'', h''.get? I = some oI → IsRangeIter h'' I (a + 1) k 1 := ⟨_, it', fun h'' e => by
      show h''.get? I = _
      rw [e]
      have : ((k + 1 : Nat) : Int) - 1 = (k : Int) := by omega
      rw [this]⟩
    have N' : News g env.locals h' ((I, oI) :: nx) := fun p hp => by
      rcases List.mem_cons.mp hp with rfl | hp
      · exact ⟨hoI, hL, hg⟩
      · exact ⟨(hs.2 _ (hn p hp)).trans (N p hp).1, (N p hp).2⟩
    refine wpAny_mono (turn k a g m nx h' _ _ oI hJ F' N' hn) (fun _ s₂ h₂ => wpAny_mono h₂ (fun f s₃ h₃ => ?_) fun _ _ z => z) fun _ _ z => z
    cases f with
    | next =>
      obtain ⟨g', m', nx', h'', tk', rfl, F'', N'', hn', hJ'⟩ := h₃
      exact ⟨k, Nat.lt_succ_self _, h'', tk', a + 1, g', m', nx', rfl, hoI' _ (N'' _ (.head _)).1, (N'' _ (.head _)).2.2, hn', F'', (fun p hp => N'' p (.tail _ hp)), hJ'⟩
    | cont =>
      obtain ⟨g', m', nx', h'', tk', rfl, F'', N'', hn', hJ'⟩ := h₃
      exact ⟨k, Nat.lt_succ_self _, h'', tk', a + 1, g', m', nx', rfl, hoI' _ (N'' _ (.head _)).1, (N'' _ (.head _)).2.2, hn', F'', (fun p hp => N'' p (.tail _ hp)), hJ'⟩
    | brk => exact h₃
    | ret v => exact h₃
end
theorem noCell {g h : Heap} {L b c : Addr} {nx : List (Addr × Obj)} {o q : Obj} {v : Option Value} {x : Array Value} {k : Nat} (N : News g L h nx) (hc : (c, o) ∈ nx) (hd : o.data = .cell v) (hp : (b, q) ∈ nx) (hq : q.data = .seq x k) : @Ne Nat b c := fun e => by
  have e' : b = c := e
  have h1 := (N _ hc).1
  have h2 := (N _ hp).1
  have h3 : h.get? c = some q := e' ▸ h2
  rw [show h.get? c = some o from h1] at h3
  cases h3
  rw [hd] at hq; cases hq
theorem isList_ext {h h' : Heap} {l : Addr} {us : Array Value} (x : h.IsList l us) (k : Ext h h') : h'.IsList l us := let ⟨o, ho, r⟩ := x; ⟨o, k _ _ ho, r⟩
theorem fmod_b (x : Int) {k : Int} (h : 0 < k) : 0 ≤ x.fmod k ∧ x.fmod k < k := ⟨Int.fmod_nonneg_of_pos _ h, Int.fmod_lt_of_pos _ h⟩
theorem sub_at {prog : Program} {w : World} {A : Around} {E : Value → Shared → Prop} {s : Shared} {h₀ : Heap} {L : Addr} {news : List (Addr × Obj)} {value slice : Expr} {l : Addr} {us : List Value} {n : Nat} {k : Int} {u : Tok} {v : Value} {Q : Value → Shared → Prop}
    (N : News h₀ L s.heap news) (hm : (l, listOf us.toArray n) ∈ news) (h0 : 0 ≤ k) (hhi : k < 2 ^ 63) (hx : us[k.toNat]? = some v) (h : Q v s)
    (hs : subscripted slice false (.ref l) (.int k u) = operate [.ref l, .int k u] (getItem (.ref l) (.int k u)) := by with_unfolding_all rfl) :
    wpAny (model prog w) A (subscriptTail value slice (.ref l) (.int k u)) Q E s := by
  have hl : s.heap.IsList l us.toArray := ⟨_, (N _ hm).1, rfl, _, rfl⟩
  exact tail_any hl.typeIs slot_list_getitem.lookup (wpAny_getItem_list hl h0 hhi (by simpa using hx) h) hs
section
variable {prog : Program} {w : World} {A : Around} {E : Value → Shared → Prop} {s : Shared}
theorem slice_to {value slice : Expr} {l : Addr} {us : List Value} {ns : List Int} {y : Int} {t : Tok} {Q : Value → Shared → Prop} (hl : s.heap.IsList l us.toArray) (hi : IntsAre us ns) (hy : 0 ≤ y) (hn : ns.length ≤ 1000000)
    (h : ∀ D ws h', Ext s.heap h' → h'.get? D = some (listOf (List.toArray ws) 0) → IntsAre ws (ns.take y.toNat) → Q (.ref D) { s with heap := h' })
    (hs : subscripted slice false (.ref l) (.ref s.heap.objs.size) = operate [.ref s.heap.objs.size, .ref l] (getItem (.ref l) (.ref s.heap.objs.size))) :
    wpAny (model prog w) A (subscriptTail value slice (.ref l) (.ref s.heap.objs.size)) Q E { s with heap := s.heap.push { cls := .type "slice", data := .fields #[.none, .int y t, .none] } } := by
  refine kba_turn (value' := Expr.Name (Str.ofString "_") ⟨0, 0, 0, 0⟩) (fun _ => rfl) ?_
  refine subscriptTail_ops (Heap.IsList.typeIs (s := { s with heap := s.heap.push { cls := .type "slice", data := .fields #[.none, .int y t, .none] } }) (hl.push _)) list_getitem_lookup
    (wpAny_getItem_list_slice (hl.push _) (Heap.IsSliceOf.new ..) IsPart.none (IsPart.int _ _) .none (by simp) ?_ (kmk_sz hi (by rw [sizeLine_eq]; omega))) hs (fun _ => rfl)
  refine h _ (slicePick us.toArray none (some y) none).toList _ (fun b o e => Heap.get?_push_of_some _ (Heap.get?_push_of_some _ e)) ?_ (kmk_upto hi hy)
  rw [Array.toArray_toList]
  exact Heap.get?_push_size _ rfl
theorem sum_ext {l : Addr} {ns : List Int} {Q : Value → Shared → Prop} (hh : A.handled = none) (hl : LI s.heap l ns) (h : ∀ h' tk t', Ext s.heap h' → Q (.int ns.sum t') { s with heap := h', toks := tk }) :
    wpAny (model prog w) A (call (.builtin "sum") [.ref l]) Q E s := by
  obtain ⟨us, hu, hi⟩ := hl
  obtain ⟨xs, hx⟩ := hi.allInts.items
  refine sum_intListG hh (hx ▸ hu) fun h' tk t' hk => ?_
  have e : preSum (numAt xs) xs.size = ns.sum := by
    have e1 : xs.toList.map (·.1) = ns := by
      rw [← nums_intItems, ← hx]
      exact hi.numsOf
    rw [preSum_eq, List.take_of_length_le (by simp), e1]
  rw [e]
  exact h h' tk t' hk
end
theorem newsAdd2 {h₀ h h' : Heap} {L r q : Addr} {m : Str → Option Value} {news : List (Addr × Obj)} {o o' : Obj} (F : Fr h₀ L h m) (N : News h₀ L h news) (k : Ext h h') (hr : h.get? r = none) (ho : h'.get? r = some o) (hq : h.get? q = none) (ho' : h'.get? q = some o') : News h₀ L h' ((r, o) :: (q, o') :: news) := by
  intro p hp
  rcases List.mem_cons.mp hp with rfl | hp
  · exact newsAdd F N k hr ho _ (.head _)
  · exact newsAdd F N k hq ho' p hp
theorem getD_get {l : List Int} {i : Nat} (h : i < l.length) : l[i]? = some (l.getD i 0) := by simp [h]
theorem pk {h₀ h : Heap} {L : Addr} {all rest : List (Addr × Obj)} {p : Addr × Obj} (N : News h₀ L h all) (hm : p ∈ all) (N' : News h₀ L h rest) : News h₀ L h (p :: rest) := by
  intro q hq
  rcases List.mem_cons.mp hq with rfl | hq
  · exact N _ hm
  · exact N' q hq
end Mine
namespace Mine
open_top hd for PySem.Challenge.rw_tv0004_01
local macro_rules | `(tactic| walk_at "eval Name") => `(tactic| (k_here; (with_reducible show wpAny _ _ (eval (Expr.Name _ _) (envOf _ _ _ _ _)) _ _ _); k_dflt (refine' ld ?k1 ?k2 ?_; (case k1 => k_asm); (case k2 => ((repeat (first | exact if_pos rfl | refine Eq.trans (if_neg (by decide)) ?_)); assumption)); k_whole)))
local macro_rules | `(tactic| walk_at "eval Name") => `(tactic| (k_here; (with_reducible show wpAny _ _ (eval (Expr.Name _ _) (envOfC _ _ _ _ _)) _ _ _); k_dflt (refine' nameX_L ?k1 ?k2 ?_ ?k3 ?k4; (case k3 => rfl); (case k4 => rfl); (case k1 => k_asm); (case k2 => ((repeat (first | exact if_pos rfl | refine Eq.trans (if_neg (by decide)) ?_)); assumption)); k_whole)))
local macro_rules | `(tactic| walk_at "loadName") => `(tactic| (k_here; (with_reducible show wpAny _ _ (loadName (envOf _ _ _ _ _) _) _ _ _); k_dflt (refine' ldn ?k1 ?k2 ?_; (case k1 => k_asm); (case k2 => ((repeat (first | exact if_pos rfl | refine Eq.trans (if_neg (by decide)) ?_)); assumption)); k_whole)))
local macro_rules | `(tactic| walk_at "call builtin:list.append") => `(tactic| (k_here; k_dflt (refine' append_K ?k1 ?k2 ?k3 ?_ ?z; (case k1 => k_asm); (case k2 => k_asm); (case k3 => k_upd); (case z => size_fits); k_whole); intro h' F' N'; (try k_sweep)))
local macro_rules | `(tactic| walk_at "call builtin:list.extend") => `(tactic| (k_here; k_dflt (first
  | (refine' extend_in (own := [_, _]) (rest := []) ?k1 ?k2 ?h1 ?h2 ?hb ?_ ?z; (case k1 => k_asm); (case k2 => k_asm); (case h1 => k_all); (case h2 => k_all); (case hb => exact (News.get (by k_asm) (by k_mem))); (case z => (rw [PySem.sizeLine_eq, List.size_toArray]; (rename IntsAre _ (List.drop _ _) => hI9); (have e9 := hI9.length); omega)); k_whole)
  | (refine' extend_in (own := [_, _]) (rest := [_]) ?k1 ?k2 ?h1 ?h2 ?hb ?_ ?z; (case k1 => k_asm); (case k2 => k_asm); (case h1 => k_all); (case h2 => k_all); (case hb => exact (News.get (by k_asm) (by k_mem))); (case z => (rw [PySem.sizeLine_eq, List.size_toArray]; (rename IntsAre _ (List.drop _ _) => hI9); (have e9 := hI9.length); omega)); k_whole)); intro h' n' F' N'; (try dsimp only [List.nil_append, List.cons_append] at N'); (try k_sweep)))
local macro_rules | `(tactic| walk_at "subscriptTail Name Slice ref ref") => `(tactic| (k_here; k_dflt (refine' kmk_slice_ints ?F ?N ?l ?p ?q ?i ?m ?c ?_ ?s ?t ?z; (case F => k_asm); (case N => k_asm); (case l => exact isList_base (by k_asm) (by k_asm)); (case p => kmk_part); (case q => kmk_part); (case i => k_asm); (case m => exact kmk_from (by assumption) (by omega)); (case c => exact List.length_drop ..); (case s => with_unfolding_all rfl); (case t => kmk_pure); (case z => exact kmk_sz (by assumption) (by rw [sizeLine_eq]; omega))); intro D' ws' h' F' N' l1 hI' hC' hL'; (try k_lt l1); (try k_sweep)))
local macro_rules | `(tactic| walk_at "subscriptTail Name Name ref int") => `(tactic| (k_here; k_dflt (refine' sub_in ?l ?a ?b ?c ?_ ?e; (case l => exact isList_base (by k_asm) (by k_asm)); (case a => omega); (case b => omega); (case c => assumption); (case e => with_unfolding_all rfl); k_whole)))
local macro_rules | `(tactic| walk_at "subscriptTail Name UnaryOp ref int") => `(tactic| (k_here; k_dflt (refine' sub_last ?l ?c ?_; (case l => exact News.isList (by k_asm) (by k_mem)); (case c => assumption); k_whole)))
local macro_rules | `(tactic| walk_at "subscriptTail Name Constant ref int") => `(tactic| (k_here; k_dflt (refine' sub_at ?N ?m ?a ?b ?e ?_; (case N => k_asm); (case m => k_mem); (case a => decide); (case b => decide); (case e => rfl); k_whole)))

def thr (k : Int) : List Int → List Int
  | [] => []
  | x :: xs => if x ≥ k then x :: x :: x :: thr k xs else x :: thr k xs

theorem thr_snoc (k x : Int) : ∀ xs : List Int, thr k (xs ++ [x]) = if x ≥ k then thr k xs ++ [x, x, x] else thr k xs ++ [x]
  | [] => by simp only [thr, List.nil_append]
  | y :: ys => by
    have ih := thr_snoc k x ys
    simp only [List.cons_append, thr, ih]
    split <;> split <;> simp
theorem thr_yes {k x : Int} {xs : List Int} (h : k ≤ x) : thr k (xs ++ [x]) = thr k xs ++ [x, x, x] := by rw [thr_snoc, if_pos h]
theorem thr_no {k x : Int} {xs : List Int} (h : ¬ k ≤ x) : thr k (xs ++ [x]) = thr k xs ++ [x] := by rw [thr_snoc, if_neg h]
theorem thr_w3 {k x : Int} {xs : List Int} (h : k ≤ x) : thr k xs ++ [x] ++ [x] ++ [x] = thr k (xs ++ [x]) := by rw [thr_yes h]; simp
theorem thrice_ok {w : World} {loose : List Str} {mean : ExcName → Option Value} {mg mb : Str → Option Value} {dp un : Nat} {gd : Option (List Code)} {cn : Str} {cs : Scope} {a : Addr} {ccd : Value} {cl : List (Str × Addr)} {outer : List Env} {A₀ : Around} {base h₀ : Heap} {L : Addr} {m : Str → Option Value} {s : Shared}
    {Q E : Value → Shared → Prop} (B : Below A₀ base outer h₀) (F : Fr h₀ L s.heap m) (X : (hd.heap_39 w.params).In h₀) (T : Top hd.view_39 loose mean mg mb h₀) (hk : cs.kind = .function)
    {la : Addr} {ns : List Int} (hl : LI s.heap la ns) (hlen : ns.length ≤ 1048576) {k : Int} {t : Tok}
    (hd' : dp + 1 < recursionLimit) (hu : un + 8 < cLine)
    (ret : ∀ r us n h' tk', Ext s.heap h' → s.heap.get? r = none → h'.get? r = some (listOf us.toArray n) → IntsAre us (thr k ns) → Q (.ref r) { s with heap := h', toks := tk' }) :
    wpAny (model Challenge.rw_tv0004_01.row.prog w) (ktrTop dp un gd cn cs L a ccd cl outer) (call (.ref 54) [.ref la, .int k t]) Q E s := by
  obtain ⟨vs, hl, hi⟩ := hl
  refine wpAny_call ?_
  k_dflt (refine' enter_def B F X T ?kA ?kF ?kK ?k6 ?k7 ?k8 ?k9 ?kB ?_ ?c2 ?c3 ?c4 ?c5; (case kA => exact rfl); (case kF => exact rfl); (case kK => exact hk); (case k6 => k_is); (case k7 => k_is); (case k8 => ktr_room); (case k9 => exact BindsTo.of_eq rfl); (case c5 => decide); (case kB => exact locs rfl); (case c2 => exact rfl); (case c3 => exact rfl); (case c4 => exact rfl); k_whole; intro h' F' N' B' X' T'; (try dsimp only); (try k_fold))
  clear B F X T
  repeat' (first | ((fail_if_success (with_reducible show wpAny _ _ (pyIter (Value.ref _)) _ _ _)); first | walk1 | (dsimp only; walk1)))
  k_state_given ["first"] (fun first pre row => row = thr first pre ∧ row.length ≤ 3 * pre.length) "row"
  k_with "state" => ((rename (_ = thr _ _) => e9); subst e9; refine ⟨?_, ?_⟩; (first | exact thr_w3 (by assumption) | exact (thr_no (by assumption)).symm | rfl); ((simp only [List.length_append, List.length_cons, List.length_nil] at *); omega))
  all_goals k_steps
  rename (_ = thr k ns) => hfin
  subst hfin
  rename Fr _ _ _ _ => F9
  rename News _ _ _ _ => N9
  exact ret _ _ _ _ _ F9.keep (N9 _ (.head _)).2.2 (N9 _ (.head _)).1 (by assumption)

def sldF : Nat → List Int → List Int → List Int × List Int
  | 0, xs, ys => (xs, ys)
  | _ + 1, [], ys => ([], ys)
  | _ + 1, x :: xs, [] => (x :: xs, [])
  | n + 1, e :: xs, a :: ys =>
    if e < a then ((e :: (sldF n (xs.dropWhile (· == e)) (a :: ys)).1), (sldF n (xs.dropWhile (· == e)) (a :: ys)).2)
    else if a < e then ((sldF n (e :: xs) (ys.dropWhile (· == a))).1, a :: (sldF n (e :: xs) (ys.dropWhile (· == a))).2)
    else sldF n (xs.dropWhile (· == e)) (ys.dropWhile (· == a))
def sld (xs ys : List Int) : List Int × List Int := sldF (xs.length + ys.length) xs ys


theorem sldF_left (ys : List Int) : ∀ n, sldF n [] ys = ([], ys)
  | 0 => rfl
  | _ + 1 => rfl
theorem sldF_right : ∀ (n : Nat) (xs : List Int), sldF n xs [] = (xs, [])
  | 0, _ => rfl
  | _ + 1, [] => rfl
  | _ + 1, _ :: _ => rfl
theorem st_lt {n : Nat} {e a : Int} {X Y : List Int} (h : e < a) : sldF (n + 1) (e :: X) (a :: Y) = (e :: (sldF n (X.dropWhile (· == e)) (a :: Y)).1, (sldF n (X.dropWhile (· == e)) (a :: Y)).2) := by simp only [sldF, if_pos h]
theorem st_gt {n : Nat} {e a : Int} {X Y : List Int} (h : a < e) : sldF (n + 1) (e :: X) (a :: Y) = ((sldF n (e :: X) (Y.dropWhile (· == a))).1, a :: (sldF n (e :: X) (Y.dropWhile (· == a))).2) := by simp only [sldF, if_neg (show ¬ e < a by omega), if_pos h]
theorem st_eq {n : Nat} {e a : Int} {X Y : List Int} (h : ¬ e < a) (h' : ¬ a < e) : sldF (n + 1) (e :: X) (a :: Y) = sldF n (X.dropWhile (· == e)) (Y.dropWhile (· == a)) := by simp only [sldF, if_neg h, if_neg h']
theorem snocI {us : List Value} {ns : List Int} (h : IntsAre us ns) (x : Int) (t : Tok) : IntsAre (us ++ [.int x t]) (ns ++ [x]) := h.append (.cons _ _ .nil)
/-- the names of sorted_list_difference's frame -/
structure SF (m : Str → Option Value) (xa ya ma ua : Addr) (i j : Nat) : Prop where
  ex : m (Str.ofString "expected") = some (.ref xa)
  ac : m (Str.ofString "actual") = some (.ref ya)
  mi : m (Str.ofString "missing") = some (.ref ma)
  un : m (Str.ofString "unexpected") = some (.ref ua)
  hi : ∃ t, m (Str.ofString "i") = some (.int i t)
  hj : ∃ t, m (Str.ofString "j") = some (.int j t)
theorem with_post {prog : Program} {w : World} {A : Around} {α : Type} {t : Sem α} {Q : α → Shared → Prop} {E : Value → Shared → Prop} {s : Shared} (P : (α → Shared → Prop) → Prop) (hP : P Q) (h : ∀ Q', P Q' → wpAny (model prog w) A t Q' E s) : wpAny (model prog w) A t Q E s := h _ hP
theorem try_abs {prog : Program} {w : World} {A : Around} {env : Env} {body orelse : List Stmt} {h₀ : ExceptHandler} {hs : List ExceptHandler} {pos : Pos} {Q : Flow → Shared → Prop} {E : Value → Shared → Prop} {s : Shared} (P : (Value → Shared → Prop) → Prop)
    (hP : P (fun e s₁ => Handled prog w A env (h₀ :: hs) Q E e s₁))
    (h : ∀ Eo, PassesOwn (model prog w) A env Eo → (∀ x, PassesOwnAt (model prog w) (A.mark (some x)) A env Eo) → (∀ x, PassesOwn (model prog w) (A.mark (some x)) env Eo) → P Eo →
      wpAny (model prog w) A (execs body env) (fun f s₁ => match f with | .next => wpAny (model prog w) A (execs orelse env) Q E s₁ | f => Q f s₁) Eo s) :
    wpAny (model prog w) A (exec (.Try body (h₀ :: hs) orelse [] pos) env) Q E s :=
  wpAny_Try_except (h _ PassesOwn.looking (fun _ => PassesOwnAt.looking) (fun _ => PassesOwnAt.lookingOf (SameStack.mark A _)) hP)
theorem with_exc {prog : Program} {w : World} {A : Around} {α : Type} {t : Sem α} {Q : α → Shared → Prop} {E : Value → Shared → Prop} {s : Shared} (P : (Value → Shared → Prop) → Prop) (hP : P E) (h : ∀ E', P E' → wpAny (model prog w) A t Q E' s) : wpAny (model prog w) A t Q E s := h _ hP
theorem sld_ok {w : World} {loose : List Str} {mean : ExcName → Option Value} {mg mb : Str → Option Value} {dp un : Nat} {gd : Option (List Code)} {cn : Str} {cs : Scope} {a : Addr} {ccd : Value} {cl : List (Str × Addr)} {outer : List Env} {A₀ : Around} {base h₀ : Heap} {L : Addr} {m : Str → Option Value} {s : Shared}
    {Q E : Value → Shared → Prop} (B : Below A₀ base outer h₀) (F : Fr h₀ L s.heap m) (XB : (hd.heap_39 w.params).In base) (TB : Top hd.view_39 loose mean mg mb base) (hk : cs.kind = .function)
    {xa ya : Addr} {xs ys : List Int} (hx : LI s.heap xa xs) (hy : LI s.heap ya ys) (lx : xs.length ≤ 1000000) (ly : ys.length ≤ 1000000)
    (hd' : dp + 1 < recursionLimit) (hu : un + 8 < cLine)
    (ret : ∀ r ma ua us vs n1 n2 h' tk', Turned (L :: outer.filterMap (·.frame)) s.heap h' → s.heap.get? r = none → s.heap.get? ma = none → s.heap.get? ua = none → r ≠ ma → r ≠ ua → ma ≠ ua →
      h'.get? r = some { cls := .type "tuple", data := .seq [Value.ref ma, .ref ua].toArray } → h'.get? ma = some (listOf us.toArray n1) → h'.get? ua = some (listOf vs.toArray n2) → IntsAre us (sld xs ys).1 → IntsAre vs (sld xs ys).2 →
      Q (.ref r) { s with heap := h', toks := tk' }) :
    wpAny (model Challenge.rw_tv0004_01.row.prog w) (ktrTop dp un gd cn cs L a ccd cl outer) (call (.ref 21) [.ref xa, .ref ya]) Q E s := by
  refine wpAny_call ?_
  have X := XB.keeps B.stays
  have T := TB.keeps B.stays
  k_dflt (refine' enter_def B F X T ?kA ?kF ?kK ?k6 ?k7 ?k8 ?k9 ?kB ?_ ?c2 ?c3 ?c4 ?c5; (case kA => exact rfl); (case kF => exact rfl); (case kK => exact hk); (case k6 => k_is); (case k7 => k_is); (case k8 => ktr_room); (case k9 => exact BindsTo.of_eq rfl); (case c5 => decide); (case kB => exact locs rfl); (case c2 => exact rfl); (case c3 => exact rfl); (case c4 => exact rfl); k_whole; intro h' F' N' B' X' T'; (try dsimp only); (try k_fold))
  clear B F X T
  repeat' ((fail_if_success (with_reducible show wpAny _ _ (exec (Stmt.While _ _ _ _) _) _ _ _)); first | walk1 | (dsimp only; walk1))
  rename_i h1 h2 ma h3 l1 h4 ua h5 l2 h6 F₀ N₀
  obtain ⟨m₀, F₁, sf₀⟩ : ∃ m₀, Fr s.heap s.heap.objs.size h6 m₀ ∧ SF m₀ xa ya ma ua 0 0 := ⟨_, F₀, ⟨rfl, rfl, rfl, rfl, ⟨_, rfl⟩, ⟨_, rfl⟩⟩⟩
  clear F₀
  have hne : ma ≠ ua := Nat.ne_of_lt l2
  have hma : s.heap.get? ma = none := (N₀ _ (.tail _ (.head _))).2.2
  have hua : s.heap.get? ua = none := (N₀ _ (.head _)).2.2
  refine with_post (fun Q' => ∀ g' h' tk m' us1 us2 n1 n2 i j, KtsTurn (L :: outer.filterMap (·.frame)) s.heap g' → Below (ktrTop dp un gd cn cs L a ccd cl outer) base (envX cn cs L a ccd cl :: outer) g' → Fr g' s.heap.objs.size h' m' → News g' s.heap.objs.size h' [(ua, listOf (List.toArray us2) n2), (ma, listOf (List.toArray us1) n1)] → SF m' xa ya ma ua i j →
    IntsAre us1 (sld xs ys).1 → IntsAre us2 (sld xs ys).2 → Q' .next { s with heap := h', toks := tk }) ?_ ?_
  · intro g' h' tk m' us1 us2 n1 n2 i j hT hB F N sf i1 i2
    obtain ⟨s1, s2, s3, s4, s5, s6⟩ := sf
    clear X' T'
    have X' := XB.keeps hB.stays
    have T' := TB.keeps hB.stays
    clear N₀ F₁ hx hy
    dsimp only
    k_steps
    rename_i D h7 F7 N7 l7
    have hD : s.heap.get? D = none := by
      cases q : s.heap.get? D with
      | none => rfl
      | some o => obtain ⟨sl, z⟩ := hT.up q; rw [(N7 _ (.head _)).2.2] at z; cases z
    exact ret D ma ua us1 us2 n1 n2 _ _ (turned_of_turn hT F7.keep) hD hma hua (Nat.ne_of_gt l7.2) (Nat.ne_of_gt l7.1) hne (N7 _ (.head _)).1 (N7 _ (.tail _ (.tail _ (.head _)))).1 (N7 _ (.tail _ (.head _))).1 i1 i2
  · intro Q' hQ'
    obtain ⟨xu, hxl, hxi⟩ := hx
    obtain ⟨yu, hyl, hyi⟩ := hy
    refine While_inv2 (fun n m nx => ∃ (i j : Nat) (us1 us2 : List Value) (n1 n2 : Nat) (mis unx : List Int), SF m xa ya ma ua i j ∧ nx = [(ua, listOf us2.toArray n2), (ma, listOf us1.toArray n1)] ∧ IntsAre us1 mis ∧ IntsAre us2 unx ∧
      i ≤ xs.length ∧ j ≤ ys.length ∧ (xs.length - i) + (ys.length - j) ≤ n ∧ mis.length ≤ i ∧ unx.length ≤ j ∧ (mis ++ (sldF n (xs.drop i) (ys.drop j)).1, unx ++ (sldF n (xs.drop i) (ys.drop j)).2) = sld xs ys) (n₀ := xs.length + ys.length) F₁ N₀
      ⟨0, 0, [], [], 0, 0, [], [], sf₀, rfl, .nil, .nil, Nat.zero_le _, Nat.zero_le _, Nat.le_refl _, Nat.le_refl _, Nat.le_refl _, rfl⟩ ?_ ?_
    rotate_left
    · passes_own
    rintro n m₁ nx h₁ tk₁ F₂ N₂ ⟨i, j, us1, us2, n1, n2, mis, unx, sf, rfl, i1, i2, hi, hj, hn, lm, lu, hs⟩
    clear F₁ N₀
    repeat' ((fail_if_success (with_reducible show wpAny _ _ (exec (Stmt.Try _ _ _ _ _) _) _ _ _)); first | walk1 | (dsimp only; walk1))
    refine try_abs (fun Eo =>
      (∀ g h h' tk m' us1 us2 n1 n2 mis unx (i j : Nat) x c, KtsTurn (L :: outer.filterMap (·.frame)) s.heap g → Below (ktrTop dp un gd cn cs L a ccd cl outer) base (envX cn cs L a ccd cl :: outer) g → Fr g s.heap.objs.size h m' →
        News g s.heap.objs.size h [(ua, listOf (List.toArray us2) n2), (ma, listOf (List.toArray us1) n1)] → SF m' xa ya ma ua i j → IntsAre us1 mis → IntsAre us2 unx → i ≤ xs.length → j ≤ ys.length → mis.length ≤ i → unx.length ≤ j →
        (mis ++ xs.drop i, unx ++ ys.drop j) = sld xs ys → Rz h h' x c → Eo (.ref x) { s with heap := h', toks := tk }) ∧
      (∀ g h tk m' us1 us2 n1 n2 mis unx (i j : Nat) x T ox oT vs ts, KtsTurn (L :: outer.filterMap (·.frame)) s.heap g → Below (ktrTop dp un gd cn cs L a ccd cl outer) base (envX cn cs L a ccd cl :: outer) g → Fr g s.heap.objs.size h m' →
        News g s.heap.objs.size h [(x, ox), (T, oT), (ua, listOf (List.toArray us2) n2), (ma, listOf (List.toArray us1) n1)] → SF m' xa ya ma ua i j → IntsAre us1 mis → IntsAre us2 unx → i ≤ xs.length → j ≤ ys.length → mis.length ≤ i → unx.length ≤ j →
        (mis ++ xs.drop i, unx ++ ys.drop j) = sld xs ys → ox.cls = .type "IndexError" → ox.data = .fields vs → vs[1]? = some (.ref T) → oT.data = .fields ts → ts[3]? = some (rawInt s.heap.objs.size) → T ≠ x → T ≠ ua → T ≠ ma → Eo (.ref x) { s with heap := h, toks := tk })) ⟨?_, ?_⟩ ?_
    · clear F₂ N₂ sf i1 i2 hi hj hn lm lu hs us1 us2 n1 n2 mis unx i j h₁ tk₁ m₁
      intro g h h' tk m' us1 us2 n1 n2 mis unx i j x c hT hB F N sf i1 i2 hi hj lm lu hs r
      refine caught_ix hB F N XB TB r (by k_is) ?_
      intro h₇ g₇ hT₇ F₇ N₇ B₇
      have hT₈ := hT.trans hT₇
      clear hT hB F N r hT₇ X' T' B'
      obtain ⟨s1, s2, s3, s4, ⟨ti, s5⟩, ⟨tj, s6⟩⟩ := id sf
      have X' := XB.keeps B₇.stays
      have T' := TB.keeps B₇.stays
      have hxl' := turn_isList hT₈ hxl
      have hyl' := turn_isList hT₈ hyl
      clear hxl hyl
      have z1 : us1.length ≤ 1000000 := by rw [i1.length]; omega
      have z2 : us2.length ≤ 1000000 := by rw [i2.length]; omega


      k_steps
      rename_i D1 w1 h8 j1 _ _ lt1 h9 c1 D2 w2 h10 j2 _ _ lt2 h11 c2 F9 N9
      refine hQ' g₇ _ _ m' _ _ _ _ i j hT₈ B₇ F9 (fun p hp => N9 p (.tail _ (.tail _ hp))) sf ?_ ?_
      · rw [← hs]; exact i1.append j1
      · rw [← hs]; exact i2.append j2
    · clear F₂ N₂ sf i1 i2 hi hj hn lm lu hs us1 us2 n1 n2 mis unx i j h₁ tk₁ m₁
      intro g h tk m' us1 us2 n1 n2 mis unx i j x T ox oT vs ts hT hB F N sf i1 i2 hi hj lm lu hs e1 e2 e3 e4 e5 e6 e7 e8
      have N' : News g s.heap.objs.size h [(ua, listOf us2.toArray n2), (ma, listOf us1.toArray n1)] := fun p hp => N p (.tail _ (.tail _ hp))
      refine caught_held F N' (XB.keeps hB.stays) (TB.keeps hB.stays) (N _ (.head _)).1 e1 e2 e3 (N _ (.tail _ (.head _))).1 e4 e5 e6 (N _ (.tail _ (.head _))).2.1 (N _ (.tail _ (.head _))).2.2 ?_ (by k_is) ?_
      · intro p hp
        rcases List.mem_cons.mp hp with rfl | hp
        · exact Ne.symm e7
        · rw [List.mem_singleton.mp hp]; exact Ne.symm e8
      intro h₇ F₇ N₇
      clear F N N' X' T' B'
      obtain ⟨s1, s2, s3, s4, ⟨ti, s5⟩, ⟨tj, s6⟩⟩ := id sf
      have X' := XB.keeps hB.stays
      have T' := TB.keeps hB.stays
      have hxl' := turn_isList hT hxl
      have hyl' := turn_isList hT hyl
      clear hxl hyl
      have z1 : us1.length ≤ 1000000 := by rw [i1.length]; omega
      have z2 : us2.length ≤ 1000000 := by rw [i2.length]; omega
      k_steps
      rename_i D1 w1 h8 j1 _ _ lt1 h9 c1 D2 w2 h10 j2 _ _ lt2 h11 c2 F9 N9
      refine hQ' g _ _ m' _ _ _ _ i j hT hB F9 (fun p hp => N9 p (.tail _ (.tail _ hp))) sf ?_ ?_
      · rw [← hs]; exact i1.append j1
      · rw [← hs]; exact i2.append j2
    · intro Eo hP1 hP2 hP3 ⟨hfresh, hheld⟩
      obtain ⟨s1, s2, s3, s4, ⟨ti, s5⟩, ⟨tj, s6⟩⟩ := id sf
      by_cases c1 : i < xs.length
      · by_cases c2 : j < ys.length
        · obtain ⟨t0, hxe⟩ := hxi.get i xs[i] (by simp [c1])
          obtain ⟨t1, hye⟩ := hyi.get j ys[j] (by simp [c2])
          have hxe' : xu[((i : Int)).toNat]? = some (.int xs[i] t0) := by simpa using hxe
          have hye' : yu[((j : Int)).toNat]? = some (.int ys[j] t1) := by simpa using hye
          have z1 : us1.length ≤ 1000000 := by rw [i1.length]; omega
          have z2 : us2.length ≤ 1000000 := by rw [i2.length]; omega
          repeat' ((fail_if_success (with_reducible show wpAny _ _ (exec (Stmt.While _ _ _ _) _) _ _ _)); (fail_if_success (with_reducible show wpAny _ _ (exec (Stmt.Try _ _ _ _ _) _) _ _ _)); first | walk1 | (dsimp only; walk1))
          · rename Fr _ _ _ _ => F8
            rename News _ _ _ _ => N8
            rename xs[i] < ys[j] => hlt
            simp only [List.push_toArray] at N8
            obtain ⟨n, rfl⟩ : ∃ k, n = k + 1 := ⟨n - 1, by omega⟩
            rw [drop_cons (l := xs) (k := i) (x := xs[i]) (by simp [c1]), drop_cons (l := ys) (k := j) (x := ys[j]) (by simp [c2]), st_lt hlt, ← drop_cons (l := ys) (k := j) (x := ys[j]) (by simp [c2])] at hs
            refine inner_while (c := .none) (k := i + 1) rfl rfl rfl rfl (by decide) (by decide) (by decide) (by decide) (by decide) F8 N8 hxl hxi s1 rfl rfl c1 (by omega) ?_ ?_ ?_ hP1
            · intro s' k t Q E' _ h1 h2 h3 h4
              exact getItem_out rfl h1 h2 h3 h4
            · intro h₇ tk₇ t₇ k' x0 hd hk7 hx0 F7 N7
              k_steps
              refine ⟨_, _, _, _, n, rfl, ‹Fr _ _ _ _›, ‹News _ _ _ _›, by omega, k', j, _, us2, _, n2, mis ++ [xs[i]], unx, ?_, rfl, snocI i1 _ _, i2, ?_, hj, ?_, ?_, ?_, ?_⟩
              · exact ⟨s1, s2, s3, s4, ⟨_, rfl⟩, ⟨_, s6⟩⟩
              · have : k' < xs.length := (List.getElem?_eq_some_iff.mp hx0).1
                omega
              · have : k' < xs.length := (List.getElem?_eq_some_iff.mp hx0).1
                omega
              · simp; omega
              · exact lu
              · rw [hd, ← hs]; simp
            · intro h₇ h₈ tk₇ t₇ x hd F7 N7 r
              refine hfresh s.heap h₇ h₈ _ _ _ us2 _ n2 (mis ++ [xs[i]]) unx xs.length j x .none KtsTurn.refl B' F7 N7 ?_ (snocI i1 _ _) i2 (Nat.le_refl _) hj ?_ ?_ ?_ r
              · exact ⟨s1, s2, s3, s4, ⟨_, rfl⟩, ⟨_, s6⟩⟩
              · simp; omega
              · omega
              · rw [hd, sldF_left] at hs
                rw [List.drop_length, ← hs]; simp
          · rename Fr _ _ _ _ => F8
            rename News _ _ _ _ => N8
            have hlt : ys[j] < xs[i] := by assumption
            simp only [List.push_toArray] at N8
            obtain ⟨n, rfl⟩ : ∃ k, n = k + 1 := ⟨n - 1, by omega⟩
            rw [drop_cons (l := xs) (k := i) (x := xs[i]) (by simp [c1]), drop_cons (l := ys) (k := j) (x := ys[j]) (by simp [c2]), st_gt hlt, ← drop_cons (l := xs) (k := i) (x := xs[i]) (by simp [c1])] at hs
            refine inner_while (c := .none) (k := j + 1) rfl rfl rfl rfl (by decide) (by decide) (by decide) (by decide) (by decide) F8 N8 hyl hyi s2 rfl rfl c2 (by omega) ?_ ?_ ?_ hP1
            · intro s' k t Q E' _ h1 h2 h3 h4
              exact getItem_out rfl h1 h2 h3 h4
            · intro h₇ tk₇ t₇ k' x0 hd hk7 hx0 F7 N7
              k_steps
              refine ⟨_, _, _, _, n, rfl, ‹Fr _ _ _ _›, ‹News _ _ _ _›, by omega, i, k', us1, _, n1, _, mis, unx ++ [ys[j]], ?_, rfl, i1, snocI i2 _ _, hi, ?_, ?_, ?_, ?_, ?_⟩
              · exact ⟨s1, s2, s3, s4, ⟨_, s5⟩, ⟨_, rfl⟩⟩
              · have : k' < ys.length := (List.getElem?_eq_some_iff.mp hx0).1
                omega
              · have : k' < ys.length := (List.getElem?_eq_some_iff.mp hx0).1
                omega
              · exact lm
              · simp; omega
              · rw [hd, ← hs]; simp
            · intro h₇ h₈ tk₇ t₇ x hd F7 N7 r
              refine hfresh s.heap h₇ h₈ _ _ us1 _ n1 _ mis (unx ++ [ys[j]]) i ys.length x .none KtsTurn.refl B' F7 N7 ?_ i1 (snocI i2 _ _) hi (Nat.le_refl _) ?_ ?_ ?_ r
              · exact ⟨s1, s2, s3, s4, ⟨_, s5⟩, ⟨_, rfl⟩⟩
              · exact lm
              · simp; omega
              · rw [hd, sldF_right] at hs
                rw [List.drop_length, ← hs]; simp
          · rename Fr _ _ _ _ => F8
            rename News _ _ _ _ => N8
            have hn1 : ¬ xs[i] < ys[j] := by assumption
            have hn2 : ¬ ys[j] < xs[i] := by assumption
            obtain ⟨n, rfl⟩ : ∃ k, n = k + 1 := ⟨n - 1, by omega⟩
            rw [drop_cons (l := xs) (k := i) (x := xs[i]) (by simp [c1]), drop_cons (l := ys) (k := j) (x := ys[j]) (by simp [c2]), st_eq hn1 hn2] at hs
            have e7 : ys[j] = xs[i] := by omega
            refine wpAny_Try_finally ?_
            refine wpAny_execs_cons ?_
            refine inner_while (c := .none) (k := i + 1) rfl rfl rfl rfl (by decide) (by decide) (by decide) (by decide) (by decide) F8 N8 hxl hxi s1 rfl rfl c1 (by omega) ?_ ?_ ?_ PassesOwn.looking
            · intro s' k t Q E' _ h1 h2 h3 h4
              exact getItem_out rfl h1 h2 h3 h4
            · intro h₇ tk₇ t₇ k' x0 hd hk7 hx0 F7 N7
              refine wpAny_execs_nil (wpAny_execs_nil (wpAny_passesOwn hP1 ?_))
              repeat' ((fail_if_success (with_reducible show wpAny _ _ (exec (Stmt.While _ _ _ _) _) _ _ _)); first | walk1 | (dsimp only; walk1))
              rename Fr _ _ _ _ => F9
              rename News _ _ _ _ => N9
              refine inner_while (c := .none) (k := j + 1) rfl rfl rfl rfl (by decide) (by decide) (by decide) (by decide) (by decide) F9 N9 hyl hyi s2 rfl rfl c2 (by omega) ?_ ?_ ?_ hP1
              · intro s' k t Q E' _ h1 h2 h3 h4
                exact getItem_out rfl h1 h2 h3 h4
              · intro h₁₀ tk₁₀ t₁₀ k'' x1 hd' hk8 hx1 F10 N10
                k_steps
                refine ⟨_, _, _, _, n, rfl, ‹Fr _ _ _ _›, ‹News _ _ _ _›, by omega, k', k'', us1, us2, n1, n2, mis, unx, ?_, rfl, i1, i2, ?_, ?_, ?_, ?_, ?_, ?_⟩
                · exact ⟨s1, s2, s3, s4, ⟨_, rfl⟩, ⟨_, rfl⟩⟩
                · have : k' < xs.length := (List.getElem?_eq_some_iff.mp hx0).1
                  omega
                · have : k'' < ys.length := (List.getElem?_eq_some_iff.mp hx1).1
                  omega
                · have : k' < xs.length := (List.getElem?_eq_some_iff.mp hx0).1
                  have : k'' < ys.length := (List.getElem?_eq_some_iff.mp hx1).1
                  omega
                · omega
                · omega
                · rw [hd, hd', ← hs]
              · intro h₁₀ h₁₁ tk₁₀ t₁₀ x hd' F10 N10 r
                refine hfresh s.heap h₁₀ h₁₁ _ _ us1 us2 n1 n2 mis unx k' ys.length x .none KtsTurn.refl B' F10 N10 ?_ i1 i2 ?_ (Nat.le_refl _) ?_ ?_ ?_ r
                · exact ⟨s1, s2, s3, s4, ⟨_, rfl⟩, ⟨_, rfl⟩⟩
                · have : k' < xs.length := (List.getElem?_eq_some_iff.mp hx0).1
                  omega
                · omega
                · omega
                · rw [hd', ← hd, sldF_right] at hs
                  rw [List.drop_length, ← hs]
            · intro h₇ h₈ tk₇ t₇ x hd F7 N7 r
              refine fin_ix B' F7 N7 r ?_
              intro h₉ g₉ T ox oT ts tt hT9 F9 N9 B9 ec ed eT e3 eTx eTn
              refine wpAny_passesOwnAt (hP2 _) ?_
              clear F7 N7 F8 N8
              have hyl9 := turn_isList hT9 hyl
              repeat' ((fail_if_success (with_reducible show wpAny _ _ (exec (Stmt.While _ _ _ _) _) _ _ _)); first | walk1 | (dsimp only; walk1))
              rename Fr _ _ _ _ => F10
              rename News _ _ _ _ => N10
              refine inner_while (c := .ref x) (k := j + 1) rfl rfl rfl rfl (by decide) (by decide) (by decide) (by decide) (by decide) F10 N10 hyl9 hyi s2 rfl rfl c2 (by omega) ?_ ?_ ?_ (hP3 _)
              · intro s' k t Q E' N' h1 h2 h3 h4
                exact getItem_out_in (ox := ox) rfl (N' _ (.head _)).1 ed rfl h1 h2 h3 h4
              · intro h₁₀ tk₁₀ t₁₀ k'' x1 hd' hk8 hx1 F10 N10
                refine wpAny_execs_nil ?_
                dsimp only
                refine passOn_held (N10 _ (.head _)).1 ed rfl (N10 _ (.tail _ (.head _))).1 eT (Array.getElem?_eq_some_iff.mp e3).1 ?_
                have hk'' : k'' < ys.length := (List.getElem?_eq_some_iff.mp hx1).1
                refine hheld g₉ _ _ _ us1 us2 n1 n2 mis unx xs.length k'' x T ox (Obj.mapFields (·.setIfInBounds 3 (rawInt s.heap.objs.size)) oT) _ _ hT9 B9 (frUpd F10 (N10 _ (.tail _ (.head _))).2.1 (N10 _ (.tail _ (.head _))).2.2) ?_ ?_ i1 i2 (Nat.le_refl _) (by omega) ?_ ?_ ?_ ec ed rfl (Obj.data_mapFields eT _) ?_ eTx ?_ ?_
                · intro p hp
                  rcases List.mem_cons.mp hp with rfl | hp
                  · exact newsUpd (news := [(x, ox)]) (fun p hp => N10 p (by rw [List.mem_singleton.mp hp]; exact .head _)) (fun p hp => by rw [List.mem_singleton.mp hp]; exact Ne.symm eTx) _ (.head _)
                  rcases List.mem_cons.mp hp with rfl | hp
                  · exact ⟨Heap.get?_update_self _ (N10 _ (.tail _ (.head _))).1 (Obj.isFreed_of_fields (Obj.data_mapFields eT _)), (N10 _ (.tail _ (.head _))).2⟩
                  · exact newsUpd (news := [(ua, listOf us2.toArray n2), (ma, listOf us1.toArray n1)]) (fun p hp => N10 p (.tail _ (.tail _ hp))) (fun p hp => Ne.symm (eTn p hp)) p hp
                · exact ⟨s1, s2, s3, s4, ⟨_, rfl⟩, ⟨_, rfl⟩⟩
                · omega
                · omega
                · rw [hd, ← hd', sldF_left] at hs
                  rw [List.drop_length, ← hs]
                · have := (Array.getElem?_eq_some_iff.mp e3).1
                  simp [this]
                · exact eTn _ (.head _)
                · exact eTn _ (.tail _ (.head _))
              · intro h₁₀ h₁₁ tk₁₀ t₁₀ x' hd' F10 N10 r
                refine hfresh g₉ h₁₀ h₁₁ _ _ us1 us2 n1 n2 mis unx xs.length ys.length x' (.ref x) hT9 B9 F10 (fun p hp => N10 p (.tail _ (.tail _ hp))) ?_ i1 i2 (Nat.le_refl _) (Nat.le_refl _) ?_ ?_ ?_ r
                · exact ⟨s1, s2, s3, s4, ⟨_, rfl⟩, ⟨_, rfl⟩⟩
                · omega
                · omega
                · rw [hd, hd', sldF_left] at hs
                  rw [List.drop_length, List.drop_length, ← hs]
        · obtain ⟨t0, hxe⟩ := hxi.get i xs[i] (by simp [c1])
          have hxe' : xu[((i : Int)).toNat]? = some (.int xs[i] t0) := by simpa using hxe
          repeat' ((fail_if_success (with_reducible show wpAny _ _ (subscriptTail _ _ (Value.ref ya) _) _ _ _)); first | walk1 | (dsimp only; walk1))
          rename Fr _ _ _ _ => F8
          rename News _ _ _ _ => N8
          have hL := isList_base F8 hyl
          refine sub_get hL (getItem_out rfl hL (by rw [List.size_toArray, hyi.length]; omega) (by omega) fun h' tk x r => ?_)
          refine hfresh s.heap _ h' tk _ us1 us2 n1 n2 mis unx i j x .none KtsTurn.refl B' F8 N8 ?_ i1 i2 hi hj lm lu ?_ r
          · exact ⟨s1, s2, s3, s4, ⟨_, s5⟩, ⟨_, s6⟩⟩
          · have : ys.drop j = [] := List.drop_eq_nil_of_le (by omega)
            rw [this, sldF_right] at hs
            rw [this]; exact hs
      · repeat' ((fail_if_success (with_reducible show wpAny _ _ (subscriptTail _ _ _ _) _ _ _)); first | walk1 | (dsimp only; walk1))
        have hL := isList_base F₂ hxl
        refine sub_get hL (getItem_out rfl hL (by rw [List.size_toArray, hxi.length]; omega) (by omega) fun h' tk x r => ?_)
        refine hfresh s.heap h₁ h' tk _ us1 us2 n1 n2 mis unx i j x .none KtsTurn.refl B' F₂ N₂ sf i1 i2 hi hj lm lu ?_ r
        have : xs.drop i = [] := List.drop_eq_nil_of_le (by omega)
        rw [this, sldF_left] at hs
        rw [this]; exact hs

/-- what _grouping_intervals yields, n at most -/
def giv : Nat → Option Int → List Int → List Int
  | 0, _, _ => []
  | _ + 1, _, [] => []
  | n + 1, last, x :: r => if x = 127 then [] else if x = 0 then (match last with | none => [] | some l => List.replicate (n + 1) l) else x :: giv n (some x) r

def olds (h₀ h : Heap) (C N0 : Addr) : List (Addr × Obj) := (List.range N0).filterMap fun b => if b = C then none else match h₀.get? b with | some _ => none | none => (h.get? b).map (b, ·)
theorem olds_news {h₀ h : Heap} {C N0 : Addr} : News h₀ C h (olds h₀ h C N0) := fun p hp => by
  obtain ⟨b, _, e⟩ := List.mem_filterMap.mp hp
  by_cases hb : b = C
  · simp [hb] at e
  · rw [if_neg hb] at e
    cases q : h₀.get? b with
    | some o => simp [q] at e
    | none =>
      simp only [q, Option.map_eq_some_iff] at e
      obtain ⟨o, ho, rfl⟩ := e
      exact ⟨ho, hb, q⟩
theorem olds_keep {h₀ h h' : Heap} {C N0 : Addr} {m m' : Str → Option Value} (F : Fr h₀ C h m) (F' : Fr h₀ C h' m') (N : News h₀ C h' (olds h₀ h C N0)) (b : Addr) (o : Obj) (hb : b < N0) (hC : b ≠ C) (e : h.get? b = some o) : h'.get? b = some o := by
  cases q : h₀.get? b with
  | some o' => rw [F.keep _ _ q] at e; cases e; exact F'.keep _ _ q
  | none => exact (N (b, o) (List.mem_filterMap.mpr ⟨b, List.mem_range.mpr hb, by rw [if_neg hC, q]; simp [e]⟩)).1
def GKeep (C N0 : Addr) (s₀ s : Shared) : Prop := ∃ h' tk, s = { s₀ with heap := h', toks := tk } ∧ ∀ b o, b < N0 → b ≠ C → s₀.heap.get? b = some o → h'.get? b = some o
def gY (h₀ : Heap) (C N0 : Addr) (ys : List Int) (k : Nat) : Protocol := fun m s₀ v s kap =>
  (∃ x t, v = .int x t ∧ ys[k - 1 - m]? = some x) ∧ GKeep C N0 s₀ s ∧ ∃ I oI oC, N0 ≤ I ∧ s.heap.get? C = some oC ∧ s.heap.get? I = some oI ∧ (m ≠ 0 → ∀ s'' : Shared, Ext h₀ s''.heap → s''.heap.get? C = some oC → s''.heap.get? I = some oI → kap (.send .none) s'')
def gP (C N0 : Addr) (ys : List Int) (k : Nat) (n : Nat) (s₀ s₁ : Shared) : Prop := ys.length = k - n ∧ GKeep C N0 s₀ s₁
abbrev gR (C N0 : Addr) (ys : List Int) (k : Nat) : GenEnd := fun n s₀ r s₁ => r = .ok (.ret .none) ∧ gP C N0 ys k n s₀ s₁

theorem seg_ind {M : Model} {A : Around} {R : GenEnd} {Y : Protocol} {c : Code} {t : Sem Fin} {fs : List Frame} (St : Nat → Nat → Shared → Shared → Prop)
    (turn : ∀ k n s₀ s, St k n s₀ s → (∀ k' n' s₀' s', k' < k → St k' n' s₀' s' → Seg M A R Y n' s₀' c t fs s') → Seg M A R Y n s₀ c t fs s) : ∀ k n s₀ s, St k n s₀ s → Seg M A R Y n s₀ c t fs s := by
  intro k
  induction k using Nat.strongRecOn with
  | ind k ih => exact fun n s₀ s h => turn k n s₀ s h fun k' n' s₀' s' hk h' => ih k' hk n' s₀' s' h'

theorem fr_at {h₀ h h'' : Heap} {C : Addr} {m : Str → Option Value} {oC : Obj} (F : Fr h₀ C h m) (hC : h.get? C = some oC) (h2 : h''.get? C = some oC) (e : Ext h₀ h'') : Fr h₀ C h'' m := ⟨F.ns.at' fun o q => by rw [hC] at q; cases q; exact h2, e, F.above⟩
def LastIs : Option Int → Value → Prop
  | none, v => v = .none
  | some l, v => ∃ t, v = .int l t
def gSt (h₀ : Heap) (C N0 I ra : Addr) (ns ys : List Int) (N : Nat) (k n : Nat) (s₀ s : Shared) : Prop :=
  ∃ h tk i m₁ m₂ last lv, s = { s₀ with heap := h, toks := tk } ∧ k = ns.length - i ∧ i ≤ ns.length ∧ Fr h₀ C s₀.heap m₁ ∧ Fr h₀ C h m₂ ∧ News h₀ C h (olds h₀ s₀.heap C N0) ∧ h.IsListIter I ra i ∧
    m₂ (Str.ofString "last_interval") = some lv ∧ LastIs last lv ∧ n ≤ N ∧ n ≠ 0 ∧ ys.drop (N - n) = giv n last (ns.drop i) ∧ N - n ≤ ys.length ∧ (last = none → i = 0)
def wSt (h₀ : Heap) (C N0 I : Addr) (oI : Obj) (l : Int) (ys : List Int) (N : Nat) (k n : Nat) (s₀ s : Shared) : Prop :=
  ∃ h tk m₁ m₂ t, s = { s₀ with heap := h, toks := tk } ∧ k = n ∧ Fr h₀ C s₀.heap m₁ ∧ Fr h₀ C h m₂ ∧ News h₀ C h ((I, oI) :: olds h₀ s₀.heap C N0) ∧
    m₂ (Str.ofString "last_interval") = some (.int l t) ∧ n ≤ N ∧ n ≠ 0 ∧ ys.drop (N - n) = List.replicate n l ∧ N - n ≤ ys.length
theorem nAdd {h₀ h : Heap} {C I : Addr} {oI : Obj} {N : List (Addr × Obj)} (hI : h.get? I = some oI) (hC : I ≠ C) (h0 : h₀.get? I = none) (n : News h₀ C h N) : News h₀ C h ((I, oI) :: N) := fun p hp => by
  rcases List.mem_cons.mp hp with rfl | hp
  · exact ⟨hI, hC, h0⟩
  · exact n p hp
theorem nTail {h₀ h : Heap} {C : Addr} {q : Addr × Obj} {N : List (Addr × Obj)} (n : News h₀ C h (q :: N)) : News h₀ C h N := fun p hp => n p (.tail _ hp)
theorem drop_head {ys r : List Int} {x : Int} {j : Nat} (h : ys.drop j = x :: r) : ys[j]? = some x ∧ ys.drop (j + 1) = r ∧ j + 1 ≤ ys.length := by
  have hj : j < ys.length := by
    rcases Nat.lt_or_ge j ys.length with q | q
    · exact q
    · rw [List.drop_eq_nil_of_le q] at h; cases h
  rw [List.drop_eq_getElem_cons hj] at h
  injection h with h1 h2
  exact ⟨by simp [hj, h1], h2, hj⟩
theorem drop_nil_len {ys : List Int} {j : Nat} (h : ys.drop j = []) (h' : j ≤ ys.length) : ys.length = j := by
  have := congrArg List.length h
  simp at this; omega

theorem grouping_ok {w : World} {loose : List Str} {mean : ExcName → Option Value} {mg mb : Str → Option Value} {A₁ : Around} {h₀ : Heap} {L : Addr} {m : Str → Option Value} {s : Shared}
    {Q E : Value → Shared → Prop} (F : Fr h₀ L s.heap m) (X : (hd.heap_39 w.params).In h₀) (T : Top hd.view_39 loose mean mg mb h₀)
    {ra : Addr} {vs : List Value} {ns : List Int} (hl : h₀.IsList ra vs.toArray) (hi : IntsAre vs ns) (hz : ns.head? ≠ some 0) (k : Nat) (hk : k ≠ 0)
    (hroom : A₁.depth < recursionLimit)
    (ret : ∀ h₁ tk ga C oC gs, Ext s.heap h₁ → h₁.IsGen ga s.gens.size → s.heap.get? ga = none → s.heap.get? C = none → h₁.get? C = some oC → C < h₁.objs.size → C ≠ ga → ga < h₁.objs.size → gs.bare = true →
      (∀ (A : Around) (s'' : Shared), A.handled = none → Ext h₀ s''.heap → s''.heap.get? C = some oC → (∃ o, s''.heap.get? ga = some o) → gs.Goes (model Challenge.rw_tv0004_01.row.prog w) A (gR C h₁.objs.size (giv k none ns) k) (gY h₀ C h₁.objs.size (giv k none ns) k) k (.send .none) s'') →
      Q (.ref ga) { s with gens := s.gens.push gs, heap := h₁, toks := tk }) :
    wpAny (model Challenge.rw_tv0004_01.row.prog w) A₁ (call (.ref 28) [.ref ra]) Q E s := by
  refine wpAny_call ?_
  k_dflt (refine' enter_gen F X T ?k6 ?k7 ?k8 ?k9 ?kB ?_ ?c2 ?c3 ?c4 ?c5; (case k6 => k_is); (case k7 => k_is); (case k8 => exact hroom); (case k9 => exact BindsTo.of_eq rfl); (case c5 => decide); (case kB => exact locs rfl); (case c2 => exact rfl); (case c3 => exact rfl); (case c4 => exact rfl); k_whole)
  intro h₁ tk ga hns hext hg hsz hlt
  obtain ⟨m₀, hm₀, hns⟩ : ∃ m₀ : Str → Option Value, m₀ (Str.ofString "grouping") = some (.ref ra) ∧ h₁.Ns s.heap.objs.size m₀ := ⟨_, rfl, hns⟩
  obtain ⟨oC, ps, es, hoC, hnsr⟩ := id hns
  have fresh : ∀ b, s.heap.objs.size ≤ b → s.heap.get? b = none := fun b hb => by
    cases q : s.heap.get? b with
    | none => rfl
    | some o => exact absurd (Heap.lt_size q) (Nat.not_lt.mpr hb)
  refine ret h₁ tk ga s.heap.objs.size oC _ hext hg (fresh _ (by omega)) (fresh _ (Nat.le_refl _)) hoC (hsz ▸ Nat.lt_succ_of_lt hlt) (Nat.ne_of_lt hlt) (hsz ▸ Nat.lt_succ_self _) rfl ?_
  intro A s₀ hA hE hC ⟨og, hgo⟩
  have hCl : h₀.objs.size ≤ s.heap.objs.size := Nat.le_of_lt (Nat.lt_of_le_of_lt F.above (Heap.lt_size F.ns.choose_spec.choose_spec.choose_spec.1))
  have hF₀ : Fr h₀ s.heap.objs.size s₀.heap m₀ := ⟨hns.at' fun o e => by rw [hoC] at e; cases e; exact hC, hE, hCl⟩
  have hCN : s.heap.objs.size < h₁.objs.size := by rw [hsz]; exact Nat.lt_succ_of_lt hlt
  generalize hys : giv k none ns = ys
  generalize s.heap.objs.size = C at *
  generalize h₁.objs.size = N0 at *
  refine ⟨rfl, seg_func ?_⟩
  have N₀ : News h₀ C s₀.heap (olds h₀ s₀.heap C N0) := olds_news
  clear F hns
  have hF₀ : ∃ mm, Fr h₀ C s₀.heap mm := ⟨_, hF₀⟩
  refine seg_execs_cons (seg_exec ?_)
  repeat' ((fail_if_success (with_reducible show Seg _ _ _ _ _ _ _ _ _ _)); first | walk1 | (dsimp only; walk1))
  rename Fr _ _ _ _ => F1
  rename News _ _ _ _ => N1
  dsimp only
  refine seg_execs_cons (seg_For ?_)
  repeat' ((fail_if_success (with_reducible show wpAny _ _ (pyIter _) _ _ _)); first | walk1 | (dsimp only; walk1))
  refine wpAny_pyIter_list (isList_base F1 hl) ?_
  intro kk g l p hgf hkk
  have hgf : g = false := hgf
  subst hgf
  have hk1 : kk (.ok .next) = .pure (.done (.ret .none)) := (hkk .next).trans rfl
  have hk2 : ∀ v, kk (.ok (.ret v)) = .pure (.done (.ret v)) := fun v => (hkk (.ret v)).trans rfl
  clear hkk
  dsimp only
  rename Heap => hX
  obtain ⟨mm, hF₀⟩ := hF₀
  have hIN : N0 ≤ hX.objs.size := hsz ▸ Heap.lt_size (olds_keep hF₀ F1 N1 ga og (hsz ▸ Nat.lt_succ_self _) (Nat.ne_of_gt hlt) hgo)
  refine seg_ind (gSt h₀ C N0 hX.objs.size ra ns ys k) ?_ ns.length k s₀ _ ⟨_, _, 0, _, _, none, _, rfl, rfl, Nat.zero_le _, hF₀, F1.keeps fun b o e => Heap.get?_push_of_some _ e, newsExt N1 fun b o e => Heap.get?_push_of_some _ e, ⟨_, Heap.get?_push_size _ rfl, rfl, rfl⟩, if_pos rfl, rfl, Nat.le_refl _, hk, ?_, ?_, fun _ => rfl⟩
  rotate_left
  · simpa using hys.symm
  · simp
  generalize hX.objs.size = I at *
  clear F1 N1 hF₀ hnsr hsz
  rintro k' n s₁ s ⟨h, tk, i, m₁, m₂, last, lv, rfl, rfl, hil, F₁, F₂, N₂, hit, hlv, hlast, hnk, hn0, hyd, hyl, hl0⟩ ih
  refine seg_forLoop fun H gdd lvv hgd => ?_
  have hIC : C ≠ I := Nat.ne_of_lt (Nat.lt_of_lt_of_le hCN hIN)
  have hrI : ra ≠ I := by
    obtain ⟨o, ho, _⟩ := hl
    exact Nat.ne_of_lt (Nat.lt_of_lt_of_le (Heap.lt_size ho) (Nat.le_trans hCl (Nat.le_trans (Nat.le_of_lt hCN) hIN)))
  have hIh : ∀ b o, h₀.get? b = some o → b ≠ I := fun b o e => Nat.ne_of_lt (Nat.lt_of_lt_of_le (Heap.lt_size e) (Nat.le_trans hCl (Nat.le_trans (Nat.le_of_lt hCN) hIN)))
  have hoI : ∀ hh, ∀ q ∈ olds h₀ hh C N0, q.1 ≠ I := fun hh q hq => by
    obtain ⟨b, hb, e⟩ := List.mem_filterMap.mp hq
    have hb' : b ≠ I := Nat.ne_of_lt (Nat.lt_of_lt_of_le (List.mem_range.mp hb) hIN)
    by_cases c : b = C
    · simp [c] at e
    · rw [if_neg c] at e
      cases q1 : h₀.get? b with
      | some o => simp [q1] at e
      | none =>
        simp only [q1, Option.map_eq_some_iff] at e
        obtain ⟨o, ho, rfl⟩ := e
        exact hb'
  have hkeep : ∀ (h' : Heap) m' hh, (∀ b o, b ∉ [I] → h.get? b = some o → h'.get? b = some o) → Fr h₀ C h m' → News h₀ C h (olds h₀ hh C N0) → Fr h₀ C h' m' ∧ News h₀ C h' (olds h₀ hh C N0) := fun h' m' hh kp F N =>
    ⟨⟨F.ns.at' fun o e => kp _ _ (by simpa using hIC) e, fun b o e => kp _ _ (by simpa using hIh b o e) (F.keep b o e), F.above⟩, fun q hq => ⟨kp _ _ (by simpa using hoI hh q hq) (N q hq).1, (N q hq).2⟩⟩
  have W : ∀ A' : Around, A'.handled = none → _ := fun A' hA' => Walks.list (prog := Challenge.rw_tv0004_01.row.prog) (w := w) (A := A') hA' I ra hrI vs.toArray
  by_cases hlti : i < ns.length
  · obtain ⟨t0, hx⟩ := hi.get i ns[i] (by simp [hlti])
    have hdn : ns.drop i = ns[i] :: ns.drop (i + 1) := List.drop_eq_getElem_cons hlti
    refine (W _ (by exact hA)).item i { s₁ with heap := h, toks := tk } _ _ (by simpa [hi.length] using hlti) ⟨hit, isList_base F₂ hl⟩ fun v h2 tk2 hv st2 kp2 => ?_
    have hv' : v = .int ns[i] t0 := by
      have hv : vs[i]? = some v := by simpa using hv
      rw [hx] at hv; cases hv; rfl
    subst hv'
    obtain ⟨F3, N3⟩ := hkeep h2 m₂ _ kp2 F₂ N₂
    clear F₂ N₂ hkeep
    obtain ⟨⟨oI, hI, hIr⟩, _⟩ := st2
    have hI0 : h₀.get? I = none := by
      cases q : h₀.get? I with
      | none => rfl
      | some o => exact absurd rfl (hIh I o q)
    replace N3 := nAdd hI (Ne.symm hIC) hI0 N3
    dsimp only
    refine storeX_L F3 N3 (fun h4 F4 N4 => ?_) rfl rfl
    intro K hK hKr
    refine seg_execs_cons (seg_If ?_)
    have F₁' : ∃ mm, Fr h₀ C s₁.heap mm := ⟨_, F₁⟩
    clear F₁
    repeat' ((fail_if_success (with_reducible show Seg _ _ _ _ _ _ _ _ _ _)); first | walk1 | (dsimp only; walk1))
    all_goals (rename News _ _ _ _ => N5)
    all_goals (rename Fr _ _ _ _ => F5)
    · have e127 : ns[i] = 127 := by assumption
      refine seg_execs_cons (seg_exec (wpAny_Return_none ?_))
      dsimp only
      rw [hKr]
      refine seg_done ?_
      rw [hk2]
      obtain ⟨mm1, F₁⟩ := F₁'
      refine seg_fin ⟨rfl, ?_, _, _, rfl, olds_keep F₁ F5 (nTail N5)⟩
      rw [hdn] at hyd
      obtain ⟨n', rfl⟩ : ∃ n', n = n' + 1 := ⟨n - 1, by omega⟩
      simp only [giv, if_pos e127] at hyd
      exact drop_nil_len hyd hyl
    · have e127 : ¬ ns[i] = 127 := by assumption
      refine seg_execs_nil ?_
      dsimp only
      refine seg_execs_cons (seg_If ?_)
      repeat' ((fail_if_success (with_reducible show Seg _ _ _ _ _ _ _ _ _ _)); first | walk1 | (dsimp only; walk1))
      all_goals (rename News _ _ _ _ => N6)
      all_goals (rename Fr _ _ _ _ => F6)
      · have e0 : ns[i] = 0 := by assumption
        refine seg_execs_cons (seg_If ?_)
        cases last with
        | none =>
          have := hl0 rfl
          subst this
          exact absurd (by rw [List.head?_eq_getElem?]; simp [hlti, e0]) hz
        | some lx =>
          obtain ⟨tl, rfl⟩ := hlast
          repeat' ((fail_if_success (with_reducible show Seg _ _ _ _ _ _ _ _ _ _)); first | walk1 | (dsimp only; walk1))
          refine seg_execs_nil ?_
          dsimp only
          rename News _ _ _ _ => N7
          rename Fr _ _ _ _ => F7
          have hl7 : (fun y => if y = Str.ofString "interval" then some (Value.int ns[i] t0) else m₂ y) (Str.ofString "last_interval") = some (.int lx tl) := (if_neg (by decide)).trans hlv
          generalize (fun y => if y = Str.ofString "interval" then some (Value.int ns[i] t0) else m₂ y) = m7 at F7 hl7
          have hrep : ys.drop (k - n) = List.replicate n lx := by
            rw [hyd, hdn]
            obtain ⟨n', rfl⟩ : ∃ n', n = n' + 1 := ⟨n - 1, by omega⟩
            simp only [giv, if_neg (show ¬ ns[i] = 127 by omega), if_pos e0]
          refine seg_execs_cons (seg_While fun pw => ?_)
          obtain ⟨mm1, F₁⟩ := F₁'
          refine seg_ind (wSt h₀ C N0 I oI lx ys k) ?_ n n s₁ _ ⟨_, _, _, _, _, rfl, rfl, F₁, F7, N7, hl7, hnk, hn0, hrep, hyl⟩
          clear F₁ F7 N7 hyd hyl
          rintro k'' n2 s₂ s ⟨h8, tk8, ma8, mb8, t8, rfl, rfl, F8a, F8, N8, hl8, hnk8, hn8, hrep8, hyl8⟩ ihw
          have F8a' : ∃ mm, Fr h₀ C s₂.heap mm := ⟨_, F8a⟩
          clear F8a
          refine seg_whileLoop ?_
          repeat' ((fail_if_success (with_reducible show Seg _ _ _ _ _ _ _ _ _ _)); first | walk1 | (dsimp only; walk1))
          obtain ⟨n', rfl⟩ : ∃ n', k'' = n' + 1 := ⟨k'' - 1, by omega⟩
          refine seg_execs_cons (seg_Expr_Yield rfl rfl (by simp [Frame.guarded, hgd]) ?_)
          repeat' ((fail_if_success (with_reducible show ∀ kap : Resume → Shared → Prop, _)); first | walk1 | (dsimp only; walk1))
          intro kap hkap
          rename News _ _ _ _ => N9
          rename Fr _ _ _ _ => F9
          obtain ⟨mm1, F8a⟩ := F8a'
          obtain ⟨oC9, _, _, hC9, _⟩ := id F9.ns
          obtain ⟨hy1, hy2, hy3⟩ := drop_head (r := List.replicate n' lx) hrep8
          refine ⟨⟨lx, _, rfl, ?_⟩, ⟨_, _, rfl, olds_keep F8a F9 (nTail N9)⟩, I, oI, oC9, hIN, hC9, ?_, fun hn' s'' e1 e2 e3 => hkap .none s'' ?_⟩
          · rw [← hy1]; congr 1; omega
          · exact (N9 _ (.head _)).1
          · dsimp only
            refine seg_execs_nil (seg_again rfl (ihw n' n' s'' s'' (Nat.lt_succ_self _) ⟨_, _, _, _, _, rfl, rfl, fr_at F9 hC9 e2 e1, fr_at F9 hC9 e2 e1, nAdd e3 (Ne.symm hIC) hI0 olds_news, hl8, by omega, hn', ?_, ?_⟩))
            · rw [← hy2]; congr 1; omega
            · omega
      · have e0 : ¬ ns[i] = 0 := by assumption
        refine seg_execs_nil ?_
        dsimp only
        obtain ⟨n', rfl⟩ : ∃ n', n = n' + 1 := ⟨n - 1, by omega⟩
        refine seg_execs_cons (seg_Expr_Yield rfl hgd rfl ?_)
        repeat' ((fail_if_success (with_reducible show ∀ kap : Resume → Shared → Prop, _)); first | walk1 | (dsimp only; walk1))
        intro kap hkap
        rename News _ _ _ _ => N7
        rename Fr _ _ _ _ => F7
        obtain ⟨mm1, F₁⟩ := F₁'
        obtain ⟨oC9, _, _, hC9, _⟩ := id F7.ns
        have hyd2 : ys.drop (k - (n' + 1)) = ns[i] :: giv n' (some ns[i]) (ns.drop (i + 1)) := by
          rw [hyd, hdn]
          simp only [giv, if_neg e127, if_neg e0]
        obtain ⟨hy1, hy2, hy3⟩ := drop_head hyd2
        refine ⟨⟨ns[i], _, rfl, ?_⟩, ⟨_, _, rfl, olds_keep F₁ F7 (nTail N7)⟩, I, oI, oC9, hIN, hC9, ?_, fun hn' s'' e1 e2 e3 => hkap .none s'' ?_⟩
        · rw [← hy1]; congr 1; omega
        · exact (N7 _ (.head _)).1
        · have F10 := fr_at F7 hC9 e2 e1
          have N10 : News h₀ C s''.heap ((I, oI) :: olds h₀ s''.heap C N0) := nAdd e3 (Ne.symm hIC) hI0 olds_news
          have F10' : ∃ mm, Fr h₀ C s''.heap mm := ⟨_, F10⟩
          clear F7 N7 F₁
          refine seg_execs_cons (seg_exec ?_)
          repeat' ((fail_if_success (with_reducible show Seg _ _ _ _ _ _ _ _ _ _)); first | walk1 | (dsimp only; walk1))
          refine seg_execs_nil ?_
          (try dsimp only)
          rw [hK]
          rename News _ _ _ _ => N11
          rename Fr _ _ _ _ => F11
          obtain ⟨mm2, F10⟩ := F10'
          refine seg_again rfl (ih (ns.length - (i + 1)) n' s'' _ (by omega) ⟨_, _, i + 1, _, _, some ns[i], _, rfl, rfl, hlti, F10, F11, nTail N11, ⟨oI, (N11 _ (.head _)).1, hIr⟩, if_pos rfl, ⟨_, rfl⟩, by omega, hn', ?_, ?_, fun z => nomatch z⟩)
          · rw [← hy2]; congr 1; omega
          · omega
  · obtain rfl : i = ns.length := by omega
    refine (W _ (by exact hA)).done { s₁ with heap := h, toks := tk } _ _ (by simpa [hi.length] using (⟨hit, isList_base F₂ hl⟩ : _ ∧ _)) fun h2 tk2 kp2 => ?_
    obtain ⟨F3, N3⟩ := hkeep h2 m₂ _ kp2 F₂ N₂
    dsimp only
    refine seg_block_nil ?_
    rw [hk1]
    refine seg_fin ⟨rfl, ?_, _, _, rfl, olds_keep F₁ F3 N3⟩
    obtain ⟨n', rfl⟩ : ∃ n', n = n' + 1 := ⟨n - 1, by omega⟩
    simp only [List.drop_length, giv] at hyd
    exact drop_nil_len hyd hyl
theorem next_gY {prog : Program} {w : World} {A : Around} {E : Value → Shared → Prop} {s : Shared} {a : Addr} {g n : Nat} {gs : GenState} {Q : Option Value → Shared → Prop} {h₀ : Heap} {C N0 : Addr} {ys : List Int} {k : Nat} (hh : A.handled = none)
    (hl : s.heap.NoLimit) (hroom : A.depth < recursionLimit) (hg : s.heap.IsGen a g) (hgs : s.gens[g]? = some gs)
    (hgo : ∀ s'' : Shared, s''.heap = s.heap → gs.Goes (model prog w) A.in1 (gR C N0 ys k) (gY h₀ C N0 ys k) n (.send .none) s'')
    (hY : ∀ x t h' tk' G gs' I oI oC, gs'.bare = true → G[g]? = some gs' → (AllBare s.gens → AllBare G) → ys[k - 1 - (n - 1)]? = some x → (∀ b o, b < N0 → b ≠ C → s.heap.get? b = some o → h'.get? b = some o) → N0 ≤ I → h'.get? C = some oC → h'.get? I = some oI →
      (∀ m, n = m + 1 → m ≠ 0 → ∀ s'' : Shared, Ext h₀ s''.heap → s''.heap.get? C = some oC → s''.heap.get? I = some oI → gs'.Goes (model prog w) A.in1 (gR C N0 ys k) (gY h₀ C N0 ys k) m (.send .none) s'') → Q (some (.int x t)) { s with heap := h', toks := tk', gens := G })
    (hP : ∀ h' tk' G, (AllBare s.gens → AllBare G) → ys.length = k - n → (∀ b o, b < N0 → b ≠ C → s.heap.get? b = some o → h'.get? b = some o) → Q none { s with heap := h', toks := tk', gens := G }) :
    wpAny (model prog w) A (pyNext (.ref a)) Q E s := by
  refine next_gen (P := gP C N0 ys k) hh hl hroom hg hgs (hgo _ rfl) ?_ ?_
  · rintro v s₁ gs' hb ⟨⟨x, t, rfl, hx⟩, ⟨h5, tk5, rfl, hk5⟩, I, oI, oC, hIN, hC5, hI5, hgo5⟩
    refine hY x t h5 tk5 _ gs' I oI oC hb (setGen_self (gs := .running) (setGen_self hgs)) (fun z => AllBare.moved z (GenOnlyQ.of ((GenOnly.setGen s g .running).trans (GenOnly.setGen _ g gs')) (setGen_self (gs := .running) (setGen_self hgs)) hb)) hx hk5 hIN hC5 hI5 ?_
    rintro m rfl hm s'' e1 e2 e3
    exact hgo5 hm s'' e1 e2 e3
  · rintro s₁ ⟨hlen, h5, tk5, rfl, hk5⟩ h' hk'
    exact hP h' tk5 _ (fun z => AllBare.moved z (GenOnlyQ.of ((GenOnly.setGen s g .running).trans (GenOnly.setGen _ g .finished)) (setGen_self (gs := .running) (setGen_self hgs)) rfl)) hlen (fun b o h1 h2 e => hk' b o (hk5 b o h1 h2 e))

def sums : Int → List Int → List Int
  | a, [] => [a]
  | a, x :: r => a :: sums (a + x) r
def marksF (ns : List Int) : List Int := sums 0 (giv 5 none ns)
theorem giv_len : ∀ (n : Nat) (l : Option Int) (ns : List Int), (giv n l ns).length ≤ n
  | 0, _, _ => Nat.le_refl _
  | _ + 1, _, [] => Nat.zero_le _
  | n + 1, l, x :: r => by
    simp only [giv]
    split
    · simp
    · split
      · cases l <;> simp
      · simp only [List.length_cons]; exact Nat.succ_le_succ (giv_len n _ r)
/-- the state of the loop over _grouping_intervals -/
def mSt (w : World) (A : Around) (h₀ : Heap) (s : Shared) (L ga ma C N0 : Addr) (ns : List Int) (n : Nat) (s' : Shared) : Prop :=
  ∃ h tk gens m us nn acc top og gs fp, s' = { s with heap := h, toks := tk, gens := gens } ∧ Fr h₀ L h m ∧ News h₀ L h ((ma, listOf (List.toArray us) nn) :: (ga, og) :: fp) ∧ m (Str.ofString "marks") = some (.ref ma) ∧ h.IsGen ga s.gens.size ∧
    gens[s.gens.size]? = some gs ∧ gs.bare = true ∧ (AllBare s.gens → AllBare gens) ∧ n ≤ 5 ∧ n ≠ 0 ∧ IntsAre us (acc ++ [top]) ∧ acc.length = 5 - n ∧ acc ++ sums top ((giv 5 none ns).drop (5 - n)) = marksF ns ∧
    (∀ (s'' : Shared), Ext h₀ s''.heap → (∀ p ∈ (ga, og) :: fp, s''.heap.get? p.1 = some p.2) → gs.Goes (model Challenge.rw_tv0004_01.row.prog w) A (gR C N0 (giv 5 none ns) 5) (gY h₀ C N0 (giv 5 none ns) 5) n (.send .none) s'')

theorem fresh_of {h₀ h : Heap} {L b : Addr} {m : Str → Option Value} (F : Fr h₀ L h m) (e : h.get? b = none) : b ≠ L ∧ h₀.get? b = none := by
  refine ⟨fun z => ?_, ?_⟩
  · obtain ⟨_, _, _, q, _⟩ := F.ns
    rw [z, q] at e; cases e
  · cases q : h₀.get? b with
    | none => rfl
    | some o => rw [F.keep _ _ q] at e; cases e

theorem marks_pack {h₀ hX : Heap} {L ma : Addr} {tt : Tok} {mX : Str → Option Value} (N : News h₀ L hX [(ma, listOf #[.int 0 tt] 0)]) (F : Fr h₀ L hX mX) (e : mX (Str.ofString "marks") = some (.ref ma)) :
    ∃ ma m₀ tt, News h₀ L hX [(ma, listOf #[.int 0 tt] 0)] ∧ m₀ (Str.ofString "marks") = some (.ref ma) ∧ Fr h₀ L hX m₀ := ⟨_, _, _, N, e, F⟩


theorem marks_ok {w : World} {loose : List Str} {mean : ExcName → Option Value} {mg mb : Str → Option Value} {dp un : Nat} {gd : Option (List Code)} {cn : Str} {cs : Scope} {a : Addr} {ccd : Value} {cl : List (Str × Addr)} {outer : List Env} {A₀ : Around} {base h₀ : Heap} {L : Addr} {m : Str → Option Value} {s : Shared}
    {Q E : Value → Shared → Prop} (B : Below A₀ base outer h₀) (F : Fr h₀ L s.heap m) (X : (hd.heap_39 w.params).In h₀) (T : Top hd.view_39 loose mean mg mb h₀) (hk : cs.kind = .function)
    {ra : Addr} {ns : List Int} (hl : LI s.heap ra ns) (hz : ns.head? ≠ some 0) (hd' : dp + 3 < recursionLimit) (hu : un + 8 < cLine)
    (ret : ∀ r us n h' tk' gens', Ext s.heap h' → s.heap.get? r = none → h'.get? r = some (listOf us.toArray n) → IntsAre us (marksF ns) → (AllBare s.gens → AllBare gens') → Q (.ref r) { s with heap := h', toks := tk', gens := gens' }) :
    wpAny (model Challenge.rw_tv0004_01.row.prog w) (ktrTop dp un gd cn cs L a ccd cl outer) (call (.ref 42) [.ref ra]) Q E s := by
  refine wpAny_call ?_
  k_dflt (refine' enter_def B F X T ?kA ?kF ?kK ?k6 ?k7 ?k8 ?k9 ?kB ?_ ?c2 ?c3 ?c4 ?c5; (case kA => exact rfl); (case kF => exact rfl); (case kK => exact hk); (case k6 => k_is); (case k7 => k_is); (case k8 => ktr_room); (case k9 => exact BindsTo.of_eq rfl); (case c5 => decide); (case kB => exact locs rfl); (case c2 => exact rfl); (case c3 => exact rfl); (case c4 => exact rfl); k_whole; intro h' F' N' B' X' T'; (try dsimp only); (try k_fold))
  clear B F X T
  repeat' ((fail_if_success (with_reducible show wpAny _ _ (exec (Stmt.For _ _ _ _ _) _) _ _ _)); first | walk1 | (dsimp only; walk1))
  refine wpAny_For ?_
  obtain ⟨rus, hrl, hri⟩ := hl
  repeat' ((fail_if_success (with_reducible show wpAny _ _ (call (Value.ref 28) _) _ _ _)); first | walk1 | (dsimp only; walk1))
  rename Fr _ _ _ _ => F1
  rename News _ _ _ _ => N1
  obtain ⟨ma, m₀, tt, N1, hm₀, F1⟩ := marks_pack N1 F1 (if_pos rfl)
  refine grouping_ok F1 X' T' hrl hri hz 5 (by decide) (by ktr_room) ?_
  intro h₁ tk ga C oC gs hext hg hga hCn hC hCN hne hgaN hbare hgo
  refine wpAny_pyIter_gen hg ?_
  have F2 : Fr s.heap s.heap.objs.size h₁ m₀ := F1.keeps hext
  obtain ⟨og, nm, qn, hog, hgr⟩ := id hg
  have hmaN : ma < h₁.objs.size := Heap.lt_size (hext _ _ (N1 _ (.head _)).1)
  have hLN : s.heap.objs.size < h₁.objs.size := let ⟨_, _, _, e, _⟩ := F2.ns; Heap.lt_size e
  have hmC : ma ≠ C := fun z => by
    have := (N1 _ (.head _)).1
    rw [z] at this; rw [this] at hCn; cases hCn
  have hgm : ga ≠ ma := fun z => by
    have := (N1 _ (.head _)).1
    rw [← z] at this; rw [this] at hga; cases hga
  have hLC : s.heap.objs.size ≠ C := Ne.symm (fresh_of F1 hCn).1
  have hs0 : ∀ b o, s.heap.get? b = some o → b < h₁.objs.size ∧ b ≠ C := fun b o e => ⟨Nat.lt_trans (Heap.lt_size e) hLN, fun z => by rw [z, (fresh_of F1 hCn).2] at e; cases e⟩
  have hgaL := fresh_of F1 hga
  refine at_around fun A' hA' => ?_
  refine codeAny_forLoop (fun n s' => mSt w A'.in1 s.heap s s.heap.objs.size ga ma C h₁.objs.size ns n s') ?_ 5 ⟨h₁, tk, _, m₀, [.int 0 tt], 0, [], 0, og, gs, [(C, oC)], rfl, F2, ?_, hm₀, hg, Array.getElem?_push_size .., hbare, fun z => z.push hbare, Nat.le_refl _, by decide, .cons _ _ .nil, rfl, rfl, ?_⟩
  rotate_left
  · exact nAdd (hext _ _ (N1 _ (.head _)).1) (N1 _ (.head _)).2.1 (N1 _ (.head _)).2.2 (nAdd hog hgaL.1 hgaL.2 (nAdd hC (fresh_of F1 hCn).1 (fresh_of F1 hCn).2 News.nil))
  · intro s'' hE hp
    exact hgo _ s'' (hA' ▸ rfl) hE (hp _ (.tail _ (.head _))) ⟨_, hp _ (.head _)⟩
  clear N1 F1 F2 hgo hext hog
  generalize h₁.objs.size = N0 at *
  subst hA'
  rintro n s' ⟨h, tk3, gens, m3, us, nn, acc, top, og3, gs3, fp, rfl, F3, N3, hma, hgG, hgs, hb, hball, hn5, hn0, hi, hacc, hsum, hgo⟩
  refine next_gY rfl (T'.nolimit.keeps F3.keep) (by ktr_room) hgG hgs (fun s'' e => hgo s'' (fun b o q => by rw [e]; exact F3.keep b o q) (fun p hp => by rw [e]; exact (N3 _ (.tail _ hp)).1)) ?_ ?_
  · intro x t h5 tk5 Gn gs' I oI oC5 hb' hgs' hball' hx hk5 hIN hC5 hI5 hgo5
    replace hball' := fun z => hball' (hball z)
    have hG3 : ∀ h' : Heap, h'.get? ga = some og3 → h'.IsGen ga s.gens.size := fun h' e => by
      obtain ⟨o, nm, qn, ho, r⟩ := hgG
      have := (N3 _ (.tail _ (.head _))).1
      rw [ho] at this; cases this
      exact ⟨og3, nm, qn, e, r⟩
    obtain ⟨n, rfl⟩ : ∃ k, n = k + 1 := ⟨n - 1, by omega⟩
    have hx' : (giv 5 none ns)[5 - (n + 1)]? = some x := by rw [← hx]; congr 1; omega
    have hdx := drop_cons hx'
    rw [hdx] at hsum
    simp only [sums] at hsum
    have F5 : Fr s.heap s.heap.objs.size h5 m3 := ⟨F3.ns.at' fun o e => hk5 _ _ hLN hLC e, fun b o e => hk5 _ _ (hs0 b o e).1 (hs0 b o e).2 (F3.keep b o e), F3.above⟩
    have N5 : News s.heap s.heap.objs.size h5 ((ma, listOf (List.toArray us) nn) :: (ga, og3) :: [(C, oC5), (I, oI)]) := by
      refine nAdd (hk5 _ _ hmaN hmC (N3 _ (.head _)).1) (N3 _ (.head _)).2.1 (N3 _ (.head _)).2.2 (nAdd (hk5 _ _ hgaN (Ne.symm hne) (N3 _ (.tail _ (.head _))).1) hgaL.1 hgaL.2 (nAdd hC5 (Ne.symm hLC) ?_ (nAdd hI5 (Nat.ne_of_gt (Nat.lt_of_lt_of_le hLN hIN)) ?_ News.nil)))
      · cases q : s.heap.get? C with
        | none => rfl
        | some o => exact absurd rfl (hs0 _ _ q).2
      · cases q : s.heap.get? I with
        | none => rfl
        | some o => exact absurd hIN (Nat.not_le.mpr (hs0 _ _ q).1)
    clear F3 N3 hball hgs hk5
    dsimp only
    refine wpAny_assign_Name (storeX_L F5 N5 (fun h6 F6 N6 => ?_) rfl rfl)
    clear F5 N5
    have husl : us.length = acc.length + 1 := by rw [hi.length]; simp
    obtain ⟨t9, hlast⟩ : ∃ t, us[us.length - 1]? = some (.int top t) := hi.get (us.length - 1) top (by rw [husl]; simp)
    have hus6 : us.length ≤ 5 := by omega
    have hU : ∀ p ∈ [(ga, og3), (C, oC5), (I, oI)], p.1 ≠ ma := fun p hp => by
      rcases List.mem_cons.mp hp with rfl | hp
      · exact hgm
      rcases List.mem_cons.mp hp with rfl | hp
      · exact Ne.symm hmC
      rcases List.mem_cons.mp hp with rfl | hp
      · exact Nat.ne_of_gt (Nat.lt_of_lt_of_le hmaN hIN)
      · exact nomatch hp
    repeat' ((fail_if_success (with_reducible show wpAny _ _ (call (Value.builtin _) _) _ _ _)); first | walk1 | (dsimp only; walk1))
    rename Fr _ _ _ _ => F7
    rename News _ _ _ _ => N7
    refine append_K F7 N7 (.head hU) (fun h8 F8 N8 => ?_) (by rw [sizeLine_eq, List.size_toArray]; omega)
    clear F7 N7
    simp only [List.push_toArray] at N8
    k_steps
    · have hn : n = 0 := by omega
      subst hn
      have : (giv 5 none ns).drop (5 - (0 + 1) + 1) = [] := List.drop_eq_nil_of_le (giv_len 5 none ns)
      rw [this] at hsum
      refine ret ma _ _ _ _ _ F8.keep (N8 _ (.head _)).2.2 (N8 _ (.head _)).1 ?_ hball'
      rw [← hsum]
      have := hi.append (IntsAre.cons (top + x) (tk5 + 1 + 1 + 1) .nil)
      simpa [sums] using this
    rotate_right
    · exact n
    · exact Nat.lt_succ_self _
    · refine ⟨h8, _, Gn, _, _, nn + 1, acc ++ [top], top + x, og3, gs', [(C, oC5), (I, oI)], rfl, F8, N8, (if_neg (by decide)).trans hma, hG3 _ (N8 _ (.tail _ (.head _))).1, hgs', hb', hball', by omega, by omega, hi.append (.cons _ _ .nil), by simp; omega, ?_, ?_⟩
      · rw [← hsum]
        have : 5 - (n + 1) + 1 = 5 - n := by omega
        rw [this]; simp
      · intro s'' e1 e2
        exact hgo5 n rfl (by omega) s'' e1 (e2 _ (.tail _ (.head _))) (e2 _ (.tail _ (.tail _ (.head _))))
  · intro h5 tk5 Gn hball' hlen hk5
    replace hball' := fun z => hball' (hball z)
    have F5 : Fr s.heap s.heap.objs.size h5 m3 := ⟨F3.ns.at' fun o e => hk5 _ _ hLN hLC e, fun b o e => hk5 _ _ (hs0 b o e).1 (hs0 b o e).2 (F3.keep b o e), F3.above⟩
    have N5 : News s.heap s.heap.objs.size h5 [(ma, listOf (List.toArray us) nn)] :=
      nAdd (hk5 _ _ hmaN hmC (N3 _ (.head _)).1) (N3 _ (.head _)).2.1 (N3 _ (.head _)).2.2 News.nil
    clear F3 N3 hball hgs hk5
    refine wpAny_execs_nil ?_
    dsimp only
    k_steps
    refine ret ma _ _ _ _ _ F5.keep (N5 _ (.head _)).2.2 (N5 _ (.head _)).1 ?_ hball'
    rw [← hsum, List.drop_eq_nil_of_le (by omega)]
    exact hi

theorem cells_pack {h₀ hX : Heap} {L ma : Addr} {t1 t2 t3 : Tok} {mX : Str → Option Value} (N : News h₀ L hX [(ma, listOf #[.int 1 t1, .int 5 t2, .int 0 t3] 0)]) (F : Fr h₀ L hX mX) (e : mX (Str.ofString "cells") = some (.ref ma)) :
    ∃ ma m₀ us₀ n₀, News h₀ L hX [(ma, listOf (List.toArray us₀) n₀)] ∧ m₀ (Str.ofString "cells") = some (.ref ma) ∧ IntsAre us₀ [1, 5, 0] ∧ Fr h₀ L hX m₀ := ⟨ma, _, [.int 1 t1, .int 5 t2, .int 0 t3], 0, N, e, .cons _ _ (.cons _ _ (.cons _ _ .nil)), F⟩
theorem cells_ok {w : World} {loose : List Str} {mean : ExcName → Option Value} {mg mb : Str → Option Value} {dp un : Nat} {gd : Option (List Code)} {cn : Str} {cs : Scope} {a : Addr} {ccd : Value} {cl : List (Str × Addr)} {outer : List Env} {A₀ : Around} {base h₀ : Heap} {L : Addr} {m : Str → Option Value} {s : Shared}
    {Q E : Value → Shared → Prop} (B : Below A₀ base outer h₀) (F : Fr h₀ L s.heap m) (X : (hd.heap_39 w.params).In h₀) (T : Top hd.view_39 loose mean mg mb h₀) (hk : cs.kind = .function)
    {la : Addr} {vs : List Value} {ns : List Int} (hl : s.heap.IsList la vs.toArray) (hi : IntsAre vs ns) (hlen : ns.length ≤ 1048576)
    (hd' : dp + 1 < recursionLimit) (hu : un + 8 < cLine)
    (ret : ∀ r us n h' tk' c0 c1 c2, Ext s.heap h' → s.heap.get? r = none → h'.get? r = some (listOf us.toArray n) → IntsAre us [c0, c1, c2] → Q (.ref r) { s with heap := h', toks := tk' }) :
    wpAny (model Challenge.rw_tv0004_01.row.prog w) (ktrTop dp un gd cn cs L a ccd cl outer) (call (.ref 35) [.ref la]) Q E s := by
  refine wpAny_call ?_
  k_dflt (refine' enter_def B F X T ?kA ?kF ?kK ?k6 ?k7 ?k8 ?k9 ?kB ?_ ?c2 ?c3 ?c4 ?c5; (case kA => exact rfl); (case kF => exact rfl); (case kK => exact hk); (case k6 => k_is); (case k7 => k_is); (case k8 => ktr_room); (case k9 => exact BindsTo.of_eq rfl); (case c5 => decide); (case kB => exact locs rfl); (case c2 => exact rfl); (case c3 => exact rfl); (case c4 => exact rfl); k_whole; intro h' F' N' B' X' T'; (try dsimp only); (try k_fold))
  clear B F X T
  repeat' ((fail_if_success (with_reducible show wpAny _ _ (exec (Stmt.For _ _ _ _ _) _) _ _ _)); first | walk1 | (dsimp only; walk1))
  refine wpAny_For ?_
  repeat' ((fail_if_success (with_reducible show wpAny _ _ (call (Value.type _) _) _ _ _)); first | walk1 | (dsimp only; walk1))
  rename Fr _ _ _ _ => F1
  rename News _ _ _ _ => N1
  rename Heap => hX
  obtain ⟨ma, m₀, us₀, n₀, N2, hm₀, hi₀, F2⟩ := cells_pack N1 F1 (if_pos rfl)
  clear N1 F1
  refine call_enumerate_list (isList_base F2 hl) fun h' hE hI hsz hk => ?_
  refine wpAny_pyIter_enum hE ?_
  have hll : la < s.heap.objs.size := let ⟨_, e, _⟩ := hl; Heap.lt_size e
  have hLX : s.heap.objs.size < hX.objs.size := F2.ns.lt
  have hmX : ma < hX.objs.size := Heap.lt_size (N2 _ (.head _)).1
  have hn1 : la ≠ hX.objs.size + 1 := Nat.ne_of_lt (Nat.lt_succ_of_lt (Nat.lt_trans hll hLX))
  have hn2 : la ≠ hX.objs.size := Nat.ne_of_lt (Nat.lt_trans hll hLX)
  have hmN : s.heap.get? ma = none := (N2 _ (.head _)).2.2
  refine at_around fun A' hA' => ?_
  have hh : A'.handled = none := by rw [hA']; rfl
  refine ktu_loop (h₀ := s.heap) (m := m₀) (news := [(ma, listOf us₀.toArray n₀)]) (KTurns.ofWalksU (WalksT.enumerate hh (hX.objs.size + 1) hX.objs.size la (Nat.succ_ne_self _) hn1 hn2 vs.toArray).toU) ?_ ?_ ?_ ?_ (F2.keeps hk) (N2.grown hk)
    (fun _ m' nw => ∃ us n cs', m' (Str.ofString "cells") = some (.ref ma) ∧ nw = [(ma, listOf (List.toArray us) n)] ∧ IntsAre us cs' ∧ cs'.length = 3) ⟨us₀, n₀, _, hm₀, rfl, hi₀, rfl⟩ ?_ ?_
  · show s.heap.objs.size ∉ _
    have q1 : s.heap.objs.size ≠ hX.objs.size := Nat.ne_of_lt hLX
    have q2 : s.heap.objs.size ≠ hX.objs.size + 1 := Nat.ne_of_lt (Nat.lt_succ_of_lt hLX)
    have q3 : s.heap.objs.size ≠ la := Nat.ne_of_gt hll
    simp only [List.mem_cons, List.not_mem_nil, or_false, not_or]; exact ⟨q2, q1, q3⟩
  · intro b hb
    have hb' : b = hX.objs.size + 1 ∨ b = hX.objs.size := by simpa using hb
    cases q : s.heap.get? b with
    | none => rfl
    | some o =>
      have h1 : b < hX.objs.size := Nat.lt_trans (Heap.lt_size q) hLX
      rcases hb' with rfl | rfl
      · exact absurd (Nat.lt_of_succ_lt h1) (Nat.lt_irrefl _)
      · exact absurd h1 (Nat.lt_irrefl _)
  · intro p hp
    rw [List.mem_singleton.mp hp]
    show ma ∉ _
    have q1 : ma ≠ hX.objs.size := Nat.ne_of_lt hmX
    have q2 : ma ≠ hX.objs.size + 1 := Nat.ne_of_lt (Nat.lt_succ_of_lt hmX)
    simp only [List.mem_cons, List.not_mem_nil, or_false, not_or]; exact ⟨q2, q1⟩
  · exact ⟨⟨_, hE⟩, hI, (isList_base (F2.keeps hk) hl)⟩
  · intro i v m₁ news₁ h₁ tk₁ own hlt hP ⟨us, n, cs', hm₁, hnw, hi₁, hl3⟩ hwr hown hown1 hown2 hst F3 N3
    subst hnw
    obtain ⟨T, vals, rfl, ⟨t, x, hx, rfl⟩, hT⟩ := hP
    subst hA'
    clear F2 N2
    obtain ⟨xi, xt, rfl⟩ : ∃ xi xt, x = .int xi xt := by
      have hx : vs[i]? = some x := by simpa using hx
      have hil : i < vs.length := (List.getElem?_eq_some_iff.mp hx).1
      obtain ⟨t', e⟩ := hi.get i (ns[i]'(by rw [← hi.length]; exact hil)) (by simp)
      rw [hx] at e
      exact ⟨_, _, Option.some.inj e⟩
    have hil : i < ns.length := by rw [← hi.length]; simpa using hlt
    have hU : ∀ p ∈ own, p.1 ≠ ma := fun p hp z => by
      rcases List.mem_cons.mp (z ▸ hown p hp) with q | q
      · rw [q] at hmX; exact absurd (Nat.lt_of_succ_lt hmX) (Nat.lt_irrefl _)
      rcases List.mem_cons.mp q with q | q
      · rw [q] at hmX; exact absurd hmX (Nat.lt_irrefl _)
      · rw [List.mem_singleton.mp q] at hmN
        obtain ⟨_, e, _⟩ := hl
        rw [hmN] at e; cases e
    replace N3 : News s.heap s.heap.objs.size h₁ ((ma, listOf us.toArray n) :: own) := fun p hp => N3 p (by
      rcases List.mem_cons.mp hp with rfl | hp
      · exact List.mem_append_right _ (.head _)
      · exact List.mem_append_left _ hp)
    repeat' ((fail_if_success (with_reducible show wpAny _ _ (getItem _ _) _ _ _)); first | walk1 | (dsimp only; walk1))
    have g0 : 0 ≤ (i : Int).fmod 3 := Int.fmod_nonneg_of_pos _ (by decide)
    have g1 : (i : Int).fmod 3 < 3 := Int.fmod_lt_of_pos _ (by decide)
    rename Fr _ _ _ _ => F4
    rename News _ _ _ _ => N4
    refine ksa_get N4 (by k_mem) hi₁ g0 (by rw [hl3]; exact g1) (Int.lt_trans g1 (by decide)) (fun tt => ?_)
    repeat' ((fail_if_success (with_reducible show wpAny _ _ (setItem _ _ _) _ _ _)); first | walk1 | (dsimp only; walk1))
    refine ksa_set (by k_asm) N4 (.head hU) hi₁ g0 (by rw [hl3]; exact g1) (Int.lt_trans g1 (by decide)) (fun h9 F9 N9 hi9 hl9 _ => ?_)
    clear F4 N4
    obtain ⟨us9, cs9, N9, hi9, hl9⟩ : ∃ us9 cs9, News s.heap s.heap.objs.size h9 ((ma, listOf (List.toArray us9) n) :: own) ∧ IntsAre us9 cs9 ∧ cs9.length = cs'.length := ⟨_, _, N9, hi9, hl9⟩
    k_steps
    refine ⟨rfl, h9, _, _, [(ma, listOf us9.toArray n)], rfl, F9, fun p hp => N9 p ?_, fun p hp => ?_, us9, n, cs9, ?_, rfl, hi9, hl9.trans hl3⟩
    · rcases List.mem_append.mp hp with hp | hp
      · exact .tail _ hp
      · rw [List.mem_singleton.mp hp]; exact .head _
    · rw [List.mem_singleton.mp hp]; exact hwr (ma, listOf us.toArray n) (.head _)
    · exact (if_neg (by decide)).trans ((if_neg (by decide)).trans hm₁)
  · intro h' tk m' news' F3 N3 hwr ⟨us, n, cs', hm', hnw, hi₁, hl3⟩
    subst hnw
    dsimp only
    subst hA'
    clear F2 N2
    k_steps
    obtain ⟨c0, c1, c2, rfl⟩ : ∃ c0 c1 c2, cs' = [c0, c1, c2] := by
      match cs', hl3 with
      | [c0, c1, c2], _ => exact ⟨_, _, _, rfl⟩
    exact ret ma us n _ _ c0 c1 c2 F3.keep hmN (N3 _ (.head _)).1 hi₁

/-! the program's functions in plain Lean, guarded: `none` or `false` where a walk would lack a fact -/
def runF : Nat → Int → List Int → Option Int
  | 0, _, _ => none
  | n + 1, r, ms => if r ∈ ms then runF n (r + 1) ms else some r
def chainF : Nat → Int → List Int → List Int → Option (Int × List Int)
  | 0, _, _, _ => none
  | n + 1, wide, places, marks =>
    if marks.length ≤ 1 then some (wide, places) else
    match marks[1]? with
    | none => none
    | some gap =>
      if ¬ (0 < gap ∧ gap ≤ 1000) then none else
      if marks.filter (fun x => decide (x % gap ≠ 0)) ≠ [] then some (0, []) else
      if ¬ (places.length ≤ 1000) then none else
      let places' := (rangeKs 0 gap.toNat).flatMap fun figure => places.map fun place => place + wide * figure
      let marks' := marks.map fun x => x / gap
      match runF 20 1 marks' with
      | none => none
      | some run =>
        let rest := (marks'.filter fun x => decide (x % run = 0)).map fun x => x / run
        if marks' ≠ rest.flatMap (fun mark => (rangeKs 0 run.toNat).map fun step => mark * run + step) then some (0, []) else
        chainF n (wide * gap * run) places' rest

/-- off the four cells behind g's end -/
def Off4 (g : Heap) (a : Addr) : Prop := @Ne Nat a (g.objs.size + 1) ∧ @Ne Nat a (g.objs.size + 1 + 1) ∧ @Ne Nat a (g.objs.size + 1 + 1 + 1) ∧ @Ne Nat a (g.objs.size + 1 + 1 + 1 + 1)
def chJ (g : Heap) (res : Int × List Int) (n : Nat) (m : Str → Option Value) (nx : List (Addr × Obj)) : Prop :=
  ∃ mr mr' omr pl us un o1 o2 o3 o4 wide places marks tw v3 v4, nx = [(mr', omr), (pl, listOf (List.toArray us) un), (g.objs.size + 1 + 1 + 1 + 1, o4), (g.objs.size + 1 + 1 + 1, o3), (g.objs.size + 1 + 1, o2), (g.objs.size + 1, o1)] ∧
    m (Str.ofString "marks") = some (.ref mr) ∧ o1.data = .cell (some (.int wide tw)) ∧ o2.data = .cell (some (.ref pl)) ∧ o3.data = .cell v3 ∧ o4.data = .cell v4 ∧ IntsAre us places ∧
    (∀ h', Ext g h' → h'.get? mr' = some omr → LI h' mr marks) ∧ chainF n wide places marks = some res ∧ Off4 g mr' ∧ Off4 g pl ∧ marks.length ≤ 1000
theorem off4_of {g h : Heap} {L D : Addr} {nx : List (Addr × Obj)} {o1 o2 o3 o4 : Obj} (N : News g L h nx) (hD : h.get? D = none) (m1 : (g.objs.size + 1, o1) ∈ nx) (m2 : (g.objs.size + 1 + 1, o2) ∈ nx) (m3 : (g.objs.size + 1 + 1 + 1, o3) ∈ nx) (m4 : (g.objs.size + 1 + 1 + 1 + 1, o4) ∈ nx) : Off4 g D := by
  have z : ∀ (a : Addr) (o : Obj), (a, o) ∈ nx → @Ne Nat D a := fun a o hm e => by
    have := (N _ hm).1
    have e' : D = a := e
    rw [← e', hD] at this; cases this
  exact ⟨z _ _ m1, z _ _ m2, z _ _ m3, z _ _ m4⟩
theorem off4_ne {g : Heap} {D : Addr} {nx : List (Addr × Obj)} {o1 o2 o3 o4 : Obj} (hD : GnNe D nx) (m1 : (g.objs.size + 1, o1) ∈ nx) (m2 : (g.objs.size + 1 + 1, o2) ∈ nx) (m3 : (g.objs.size + 1 + 1 + 1, o3) ∈ nx) (m4 : (g.objs.size + 1 + 1 + 1 + 1, o4) ∈ nx) : Off4 g D :=
  have z : ∀ (a : Addr) (o : Obj), (a, o) ∈ nx → @Ne Nat D a := fun a o hm e => gnNe_at _ hD _ hm e
  ⟨z _ _ m1, z _ _ m2, z _ _ m3, z _ _ m4⟩
theorem runF_le : ∀ (n : Nat) (r run : Int) (ms : List Int), runF n r ms = some run → r ≤ run ∧ run ≤ r + n
  | 0, _, _, _, h => nomatch h
  | n + 1, r, run, ms, h => by
    rw [runF] at h
    split at h
    · have := runF_le n (r + 1) run ms h
      omega
    · have := Option.some.inj h
      omega
theorem chain_pack {g h : Heap} {pl : Addr} {t1 t2 : Tok} {o1 o2 o3 o4 : Obj} {m : Str → Option Value} {v3 v4 : Option Value} {ra : Addr} {ns : List Int} {n : Nat} {res : Int × List Int} (N : News g g.objs.size h [(pl, listOf #[.int 0 t1] 0), (g.objs.size + 1 + 1 + 1 + 1, o4), (g.objs.size + 1 + 1 + 1, o3), (g.objs.size + 1 + 1, o2), (g.objs.size + 1, o1)])
    (F : Fr g g.objs.size h m) (e : m (Str.ofString "marks") = some (.ref ra)) (d1 : o1.data = .cell (some (.int 1 t2))) (d2 : o2.data = .cell (some (.ref pl))) (d3 : o3.data = .cell v3) (d4 : o4.data = .cell v4) (hp : Off4 g pl) (hl : LI g ra ns) (hn : ns.length ≤ 1000) (hc : chainF n 1 [0] ns = some res) :
    ∃ m' nx, Fr g g.objs.size h m' ∧ News g g.objs.size h nx ∧ chJ g res n m' nx :=
  ⟨m, _, F, fun p hp => by
    rcases List.mem_cons.mp hp with rfl | hp
    · exact N _ (.head _)
    · exact N _ hp, ra, pl, _, pl, [.int 0 t1], 0, o1, o2, o3, o4, 1, [0], ns, t2, v3, v4, rfl, e, d1, d2, d3, d4, .cons _ _ .nil, fun h' x _ => hl.ext x, hc, hp, hp, hn⟩
/-- the inner loop's state: run, in the fourth cell -/
def chR (g : Heap) (m0 : Str → Option Value) (D3 D2 : Addr) (u3 u2 og oq o1 : Obj) (ms : List Int) (run : Int) (n : Nat) (m : Str → Option Value) (nx : List (Addr × Obj)) : Prop :=
  m = m0 ∧ ∃ r tr o4, nx = [(D3, u3), (D2, u2), (g.objs.size + 1 + 1 + 1 + 1, o4), (g.objs.size + 1 + 1 + 1, og), (g.objs.size + 1 + 1, oq), (g.objs.size + 1, o1)] ∧ o4.data = .cell (some (.int r tr)) ∧ runF n r ms = some run
theorem chainF_end {n : Nat} {wide : Int} {places marks : List Int} {res : Int × List Int} (h : marks.length ≤ 1) (hc : chainF n wide places marks = some res) : res = (wide, places) := by
  cases n with
  | zero => cases hc
  | succ n => rw [chainF, if_pos h] at hc; exact (Option.some.inj hc).symm
theorem chainF_step {n : Nat} {wide : Int} {places marks : List Int} {res : Int × List Int} (h : ¬ marks.length ≤ 1) (hc : chainF n wide places marks = some res) :
    ∃ k gap, n = k + 1 ∧ marks[1]? = some gap ∧ 0 < gap ∧ gap ≤ 1000 ∧
      ((marks.filter (fun x => decide (x % gap ≠ 0)) ≠ [] ∧ res = (0, [])) ∨ (marks.filter (fun x => decide (x % gap ≠ 0)) = [] ∧ places.length ≤ 1000 ∧
        ∃ run, runF 20 1 (marks.map fun x => x / gap) = some run ∧
          (((marks.map fun x => x / gap) ≠ (((marks.map fun x => x / gap).filter fun x => decide (x % run = 0)).map fun x => x / run).flatMap (fun mark => (rangeKs 0 run.toNat).map fun step => mark * run + step) ∧ res = (0, [])) ∨
          ((marks.map fun x => x / gap) = (((marks.map fun x => x / gap).filter fun x => decide (x % run = 0)).map fun x => x / run).flatMap (fun mark => (rangeKs 0 run.toNat).map fun step => mark * run + step) ∧
            chainF k (wide * gap * run) ((rangeKs 0 gap.toNat).flatMap fun figure => places.map fun place => place + wide * figure) (((marks.map fun x => x / gap).filter fun x => decide (x % run = 0)).map fun x => x / run) = some res)))) := by
  cases n with
  | zero => cases hc
  | succ k =>
    rw [chainF, if_neg h] at hc
    cases hg : marks[1]? with
    | none => rw [hg] at hc; cases hc
    | some gap =>
      rw [hg] at hc
      dsimp only at hc
      refine ⟨k, gap, rfl, rfl, ?_⟩
      by_cases h1 : 0 < gap ∧ gap ≤ 1000
      · rw [if_neg (by simpa using h1)] at hc
        refine ⟨h1.1, h1.2, ?_⟩
        by_cases h2 : marks.filter (fun x => decide (x % gap ≠ 0)) = []
        · rw [if_neg (by simpa using h2)] at hc
          by_cases h3 : places.length ≤ 1000
          · rw [if_neg (by simpa using h3)] at hc
            refine .inr ⟨h2, h3, ?_⟩
            cases hr : runF 20 1 (marks.map fun x => x / gap) with
            | none => rw [hr] at hc; cases hc
            | some run =>
              rw [hr] at hc
              dsimp only at hc
              refine ⟨run, rfl, ?_⟩
              by_cases h4 : (marks.map fun x => x / gap) = (((marks.map fun x => x / gap).filter fun x => decide (x % run = 0)).map fun x => x / run).flatMap (fun mark => (rangeKs 0 run.toNat).map fun step => mark * run + step)
              · rw [if_neg (fun z => z h4)] at hc
                exact .inr ⟨h4, hc⟩
              · rw [if_pos h4] at hc
                exact .inl ⟨h4, (Option.some.inj hc).symm⟩
          · rw [if_pos h3] at hc; cases hc
        · rw [if_pos h2] at hc
          exact .inl ⟨h2, (Option.some.inj hc).symm⟩
      · rw [if_pos h1] at hc; cases hc
theorem chain_ok {w : World} {loose : List Str} {mean : ExcName → Option Value} {mg mb : Str → Option Value} {dp un : Nat} {gd : Option (List Code)} {cn : Str} {cs : Scope} {a : Addr} {ccd : Value} {cl : List (Str × Addr)} {outer : List Env} {A₀ : Around} {base h₀ : Heap} {L : Addr} {m : Str → Option Value} {s : Shared}
    {Q E : Value → Shared → Prop} (B : Below A₀ base outer h₀) (F : Fr h₀ L s.heap m) (X : (hd.heap_39 w.params).In h₀) (T : Top hd.view_39 loose mean mg mb h₀) (hk : cs.kind = .function)
    {ra : Addr} {ns : List Int} {n : Nat} {res : Int × List Int} (hl : LI s.heap ra ns) (hn : ns.length ≤ 1000) (hc : chainF n 1 [0] ns = some res) (hd' : dp + 1 < recursionLimit) (hu : un + 100 < cLine)
    (ret : ∀ r pa us nn t h' tk', Ext s.heap h' → s.heap.get? r = none → s.heap.get? pa = none → r ≠ pa → h'.get? r = some { cls := .type "tuple", data := .seq [Value.int res.1 t, .ref pa].toArray } → h'.get? pa = some (listOf us.toArray nn) → IntsAre us res.2 →
      Q (.ref r) { s with heap := h', toks := tk' }) :
    wpAny (model Challenge.rw_tv0004_01.row.prog w) (ktrTop dp un gd cn cs L a ccd cl outer) (call (.ref 47) [.ref ra]) Q E s := by
  refine wpAny_call ?_
  k_dflt (refine' enter_cells B F X T ?kA ?kF ?kK ?k6 ?k7 ?k8 ?k9 ?kB ?kD ?_ ?c2 ?c3 ?c4; (case kA => exact rfl); (case kF => exact rfl); (case kK => exact hk); (case k6 => k_is); (case k7 => k_is); (case k8 => ktr_room); (case k9 => exact BindsTo.of_eq rfl); (case kB => exact rfl); (case kD => decide +kernel); (case c2 => exact rfl); (case c3 => exact rfl); (case c4 => exact rfl); k_whole; intro h' tk' cells' F' N' Y' B' X' T'; k_cells Y'; (try simp only [List.cons_append, List.nil_append] at N'); (try dsimp only); (try k_fold))
  clear B F X T
  repeat' ((fail_if_success (with_reducible show wpAny _ _ (exec (Stmt.While _ _ _ _) _) _ _ _)); first | walk1 | (dsimp only; walk1))
  rename Fr _ _ _ _ => F1
  rename News _ _ _ _ => N1
  obtain ⟨m₁, nx, F2, N2, hJ⟩ := chain_pack N1 F1 rfl (by assumption) (by assumption) (by assumption) (by assumption) ⟨by k_ne, by k_ne, by k_ne, by k_ne⟩ hl hn hc
  clear F1 N1
  refine While_inv2 (chJ s.heap res) F2 N2 hJ ?_
  clear F2 N2 hJ hl hn hc
  rintro n m₁ nx h₁ tk₁ F1 N1 ⟨mr, mr', omr, pl, us, nn, o1, o2, o3, o4, wide, places, marks, tw, v3, v4, rfl, hmr, d1, d2, d3, d4, hi, hM, hc, ⟨q1, q2, q3, q4⟩, ⟨p1, p2, p3, p4⟩, hlen⟩
  repeat' ((fail_if_success (with_reducible show wpAny _ _ (call (Value.builtin _) _) _ _ _)); first | walk1 | (dsimp only; walk1))
  refine len_LI (hM _ F1.keep (N1 _ (.head _)).1) (by omega) ?_
  repeat' ((fail_if_success (with_reducible show wpAny _ _ (subscriptTail _ _ _ _) _ _ _)); first | walk1 | (dsimp only; walk1))
  · have hlt : 1 < (marks.length : Int) := by assumption
    obtain ⟨k, gap, rfl, hgap, g0, g1, hc⟩ := chainF_step (by omega) hc
    obtain ⟨mus, hml, hmi⟩ := hM _ F1.keep (N1 _ (.head _)).1
    obtain ⟨tg, hug⟩ := hmi.get 1 gap hgap
    refine sub_in hml (by decide) (by decide) hug ?_
    clear hml hmi hug
    repeat' ((fail_if_success (with_reducible show wpAny _ _ (eval (Expr.ListComp _ _ _ _) _) _ _ _)); first | walk1 | (dsimp only; walk1))
    rename Fr _ _ _ _ => F3
    rename News _ _ _ _ => N3
    rename Obj => og
    have dg : og.data = .cell (some (.int gap tg)) := by assumption
    refine lc_eval (fun x => decide (x % gap ≠ 0)) _root_.id (by with_unfolding_all rfl) (by decide) rfl (by decide) rfl ?_
    walk1
    refine ⟨marks, _, srcOk_LI rfl (hM _ F3.keep (N3 _ (.head _)).1), by rw [sizeLine_eq]; omega, ?_, ?_, ?_⟩
    · intro C s₃ m₃ a t E' ha hn hm hx hg
      refine tests1 ?_
      repeat' ((fail_if_success (with_reducible show wpAny _ _ (eval (Expr.Name _ _) _) _ _ _)); first | walk1 | (dsimp only; walk1))
      refine cvL hn hm (cvC rfl (hx _ _ (N3 _ (.tail _ (.tail _ (.tail _ (.head _))))).1) (by assumption) ?_)
      refine mod_int' (Int.ne_of_gt g0) ?_
      k_steps
      · exact fmod_ne g0
      · exact keeps_self
    · intro C s₃ m₃ a t E' ha hp hn hm hx
      exact cvL hn hm ⟨⟨t, rfl⟩, keeps_self⟩
    · intro D us' n h' tk hE hD hDo hI
      rw [List.map_id] at hI
      have F4 : Fr s.heap s.heap.objs.size h' m₁ := F3.keeps hE
      have N4 := newsAdd F3 N3 hE hD hDo
      clear F3 N3
      repeat' ((fail_if_success (with_reducible show wpAny _ _ (compareOp _ _ _) _ _ _)); first | walk1 | (dsimp only; walk1))
      rename News _ _ _ _ => N5
      refine ne_LI (li_of (N5 _ (.tail _ (.head _))).1 hI) (li_of (N5 _ (.head _)).1 .nil) (by units_room) ?_
      refine wpAny_truthy_bool ?_
      rcases hc with ⟨hne, rfl⟩ | ⟨heq, hpl, run, hrun, hc⟩
      · rw [if_pos (by rw [decide_eq_false hne]; rfl)]
        repeat' (first | walk1 | (dsimp only; walk1))
        rename Fr _ _ _ _ => F6
        rename News _ _ _ _ => N6
        exact ret _ _ [] 0 _ _ _ F6.keep (N6 _ (.head _)).2.2 (N6 _ (.tail _ (.head _))).2.2 (by k_ne) (N6 _ (.head _)).1 (N6 _ (.tail _ (.head _))).1 .nil
      · rw [if_neg (by rw [decide_eq_true heq]; decide)]
        replace N5 : News s.heap s.heap.objs.size _ [(mr', omr), (pl, listOf us.toArray nn), (s.heap.objs.size + 1 + 1 + 1 + 1, o4), (s.heap.objs.size + 1 + 1 + 1, og), (s.heap.objs.size + 1 + 1, o2), (s.heap.objs.size + 1, o1)] := fun p hp => N5 p (.tail _ (.tail _ hp))
        repeat' ((fail_if_success (with_reducible show wpAny _ _ (eval (Expr.ListComp _ _ _ _) _) _ _ _)); first | walk1 | (dsimp only; walk1))
        refine lc2_eval (fun figure place => place + wide * figure) (by with_unfolding_all rfl) (by decide) rfl (by decide) rfl rfl (by decide) ?_
        repeat' ((fail_if_success (with_reducible show wpAny _ _ (call (Value.type _) _) _ _ _)); first | walk1 | (dsimp only; walk1))
        rename Fr _ _ _ _ => F7
        rename News _ _ _ _ => N7
        refine range1_rows F7 N7 (fun h8 tk8 t₁ u₁ v₁ hr F8 N8 hx8 => ?_)
        clear F7 N7
        refine ⟨rangeKs 0 gap.toNat, _, places, srcOk_rng0 rfl hr (Int.le_of_lt g0) (by omega), by rw [rangeKs_length, sizeLine_eq]; exact Nat.le_trans (Nat.mul_le_mul (show gap.toNat ≤ 1000 by omega) hpl) (by decide), ?_, ?_, ?_⟩
        · intro C s₃ m₃ a t ha hn hm hx
          have c1 := (N8 (s.heap.objs.size + 1 + 1, o2) (by k_mem)).1
          refine cvC rfl (hx _ _ c1) d2 ⟨keeps_self, _, srcOk_LI rfl (li_of (hx _ _ (N8 (pl, listOf us.toArray nn) (by k_mem)).1) hi), fun b hb => ?_⟩
          rw [hb, (N8 (pl, listOf us.toArray nn) (by k_mem)).1]; rfl
        · intro C s₃ m₃ a b t t' ha hb hn hm hm' hx
          have c1 := (N8 (s.heap.objs.size + 1, o1) (by k_mem)).1
          have hab := mem_rangeKs ha
          repeat' ((fail_if_success (with_reducible show wpAny _ _ (eval (Expr.Name _ _) _) _ _ _)); first | walk1 | (dsimp only; walk1))
          refine cvL hn hm' ?_
          repeat' ((fail_if_success (with_reducible show wpAny _ _ (eval (Expr.Name _ _) _) _ _ _)); first | walk1 | (dsimp only; walk1))
          refine cvC rfl (hx _ _ c1) d1 (cvL hn hm ?_)
          refine mul_int (add_int ⟨⟨_, rfl⟩, ?_⟩)
          exact keeps_self
        · intro D2 us2 n2 h9 tk9 hE9 hD9 hDo9 hI9
          have F9 : Fr s.heap s.heap.objs.size h9 m₁ := F8.keeps hE9
          have N9 := newsAdd F8 N8 hE9 hD9 hDo9
          obtain ⟨r1, r2, r3, r4⟩ : Off4 s.heap D2 := off4_of (o1 := o1) (o2 := o2) (o3 := og) (o4 := o4) N8 hD9 (by k_mem) (by k_mem) (by k_mem) (by k_mem)
          clear F8 N8 hr hx8
          replace N9 : News s.heap s.heap.objs.size h9 [(mr', omr), (D2, listOf us2.toArray n2), (s.heap.objs.size + 1 + 1 + 1 + 1, o4), (s.heap.objs.size + 1 + 1 + 1, og), (s.heap.objs.size + 1 + 1, o2), (s.heap.objs.size + 1, o1)] := fun p hp => by
            rcases List.mem_cons.mp hp with rfl | hp
            · exact N9 _ (by k_mem)
            rcases List.mem_cons.mp hp with rfl | hp
            · exact N9 _ (.head _)
            · exact N9 _ (.tail _ (.tail _ (.tail _ hp)))
          dsimp only
          repeat' ((fail_if_success (with_reducible show wpAny _ _ (exec (Stmt.Assign _ (Expr.ListComp _ _ _ _) _) _) _ _ _)); first | walk1 | (dsimp only; walk1))
          rename Fr _ _ _ _ => F10
          rename News _ _ _ _ => N10
          rename Obj => oq
          have dq : oq.data = .cell (some (.ref D2)) := by assumption
          refine lc_assign (fun _ => true) (fun x => x / gap) (by with_unfolding_all rfl) (by with_unfolding_all rfl) (by decide) rfl (by decide) rfl rfl rfl ?_
          walk1
          refine ⟨marks, _, _, _, _, srcOk_LI rfl (hM _ F10.keep (N10 _ (.head _)).1), by rw [sizeLine_eq]; omega, F10, N10, ?_, ?_, ?_⟩
          · intro C s₃ m₃ a t E' ha hn hm hx hg
            exact tests0 ⟨rfl, keeps_self⟩
          · intro C s₃ m₃ a t E' ha hp hn hm hx
            have c1 := (N10 (s.heap.objs.size + 1 + 1 + 1, og) (by k_mem)).1
            repeat' ((fail_if_success (with_reducible show wpAny _ _ (eval (Expr.Name _ _) _) _ _ _)); first | walk1 | (dsimp only; walk1))
            refine cvL hn hm (cvC rfl (hx _ _ c1) dg ?_)
            refine floordiv_int (Int.ne_of_gt g0) ⟨⟨_, by rw [fdiv_pos g0]⟩, keeps_self⟩
          · intro D3 us3 n3 h11 tk11 F11 N11 hD11 hI11
            rw [List.filter_eq_self.mpr (fun _ _ => rfl)] at hI11
            clear F10 N10 hM hgap
            have F12 : Fr s.heap s.heap.objs.size h11 (fun z => if z = Str.ofString "marks" then some (.ref D3) else m₁ z) := F11
            obtain ⟨u1, u2, u3, u4⟩ : Off4 s.heap D3 := off4_ne hD11 (by k_mem) (by k_mem) (by k_mem) (by k_mem)
            have N12 : News s.heap s.heap.objs.size h11 [(D3, listOf us3.toArray n3), (D2, listOf us2.toArray n2), (s.heap.objs.size + 1 + 1 + 1 + 1, o4), (s.heap.objs.size + 1 + 1 + 1, og), (s.heap.objs.size + 1 + 1, oq), (s.heap.objs.size + 1, o1)] := fun p hp => by
              rcases List.mem_cons.mp hp with rfl | hp
              · exact N11 _ (.head _)
              · exact N11 _ (.tail _ (.tail _ hp))
            clear F11 N11 hD11 hmr
            have hmr : (fun z => if z = Str.ofString "marks" then some (Value.ref D3) else m₁ z) (Str.ofString "marks") = some (.ref D3) := if_pos rfl
            generalize (fun z => if z = Str.ofString "marks" then some (Value.ref D3) else m₁ z) = m₂ at F12 hmr
            dsimp only
            repeat' ((fail_if_success (with_reducible show wpAny _ _ (exec (Stmt.While _ _ _ _) _) _ _ _)); first | walk1 | (dsimp only; walk1))
            rename Fr _ _ _ _ => F13
            rename News _ _ _ _ => N13
            rename Obj => or
            refine While_inv2 (chR s.heap m₂ D3 D2 (listOf us3.toArray n3) (listOf us2.toArray n2) og oq o1 (marks.map fun x => x / gap) run) F13 N13 ⟨rfl, 1, _, or, rfl, by assumption, hrun⟩ ?_
            clear F13 N13
            rintro j m₃ nx h14 tk14 F14 N14 ⟨rfl, r, tr, o4', rfl, d4', hrr⟩
            repeat' ((fail_if_success (with_reducible show wpAny _ _ (compareOp _ _ _) _ _ _)); first | walk1 | (dsimp only; walk1))
            refine in_LI (li_of (N14 (D3, listOf us3.toArray n3) (.head _)).1 hI11) (by units_room) ?_
            refine wpAny_truthy_bool ?_
            obtain ⟨j, rfl⟩ : ∃ i, j = i + 1 := by
              cases j with
              | zero => cases hrr
              | succ i => exact ⟨i, rfl⟩
            rw [runF] at hrr
            by_cases hin : r ∈ marks.map fun x => x / gap
            · rw [if_pos hin] at hrr
              rw [if_pos (decide_eq_true hin)]
              repeat' ((fail_if_success (with_reducible show WhileStep2 _ _ _ _ _ _ _ _)); first | walk1 | (dsimp only; walk1))
              rename Fr _ _ _ _ => F15
              rename News _ _ _ _ => N15
              exact ⟨_, _, _, _, j, rfl, F15, N15, Nat.lt_succ_self _, rfl, r + 1, _, _, rfl, by assumption, hrr⟩
            · rw [if_neg hin] at hrr
              rw [if_neg (by simp [hin])]
              obtain rfl := Option.some.inj hrr
              have hr1 := runF_le _ _ _ _ hrun
              have hr0 : 0 < r := by omega
              have hr2 : r ≤ 21 := by omega
              clear hrr hin hrun
              have hml : (marks.map fun x => x / gap).length ≤ 1000 := by rw [List.length_map]; exact hlen
              generalize (marks.map fun x => x / gap) = ms at hI11 hc hml
              dsimp only
              repeat' ((fail_if_success (with_reducible show wpAny _ _ (exec (Stmt.Assign _ (Expr.ListComp _ _ _ _) _) _) _ _ _)); first | walk1 | (dsimp only; walk1))
              refine lc_assign (fun x => decide (x % r = 0)) (fun x => x / r) (by with_unfolding_all rfl) (by with_unfolding_all rfl) (by decide) rfl (by decide) rfl rfl rfl ?_
              walk1
              refine ⟨ms, _, _, _, _, srcOk_LI rfl (li_of (N14 (D3, listOf us3.toArray n3) (.head _)).1 hI11), by rw [sizeLine_eq]; omega, F14, N14, ?_, ?_, ?_⟩
              · intro C s₃ m₃ a t E' ha hn hm hx hg
                have c1 := (N14 (s.heap.objs.size + 1 + 1 + 1 + 1, o4') (by k_mem)).1
                refine tests1 ?_
                repeat' ((fail_if_success (with_reducible show wpAny _ _ (eval (Expr.Name _ _) _) _ _ _)); first | walk1 | (dsimp only; walk1))
                refine cvL hn hm (cvC rfl (hx _ _ c1) d4' ?_)
                refine mod_int' (Int.ne_of_gt hr0) ?_
                k_steps
                · exact fmod_eq hr0
                · exact keeps_self
              · intro C s₃ m₃ a t E' ha hp hn hm hx
                have c1 := (N14 (s.heap.objs.size + 1 + 1 + 1 + 1, o4') (by k_mem)).1
                repeat' ((fail_if_success (with_reducible show wpAny _ _ (eval (Expr.Name _ _) _) _ _ _)); first | walk1 | (dsimp only; walk1))
                refine cvL hn hm (cvC rfl (hx _ _ c1) d4' ?_)
                refine floordiv_int (Int.ne_of_gt hr0) ⟨⟨_, by rw [fdiv_pos hr0]⟩, keeps_self⟩
              · intro D5 us5 n5 h16 tk16 F16 N16 hD16 hI16
                have F17 : Fr s.heap s.heap.objs.size h16 (fun z => if z = Str.ofString "rest" then some (.ref D5) else m₃ z) := F16
                have off5 : Off4 s.heap D5 := off4_ne hD16 (by k_mem) (by k_mem) (by k_mem) (by k_mem)
                have N17 : News s.heap s.heap.objs.size h16 [(D5, listOf us5.toArray n5), (D3, listOf us3.toArray n3), (D2, listOf us2.toArray n2), (s.heap.objs.size + 1 + 1 + 1 + 1, o4'), (s.heap.objs.size + 1 + 1 + 1, og), (s.heap.objs.size + 1 + 1, oq), (s.heap.objs.size + 1, o1)] := N16
                clear F16 N16 hD16 F14 N14
                replace hmr : (fun z => if z = Str.ofString "rest" then some (Value.ref D5) else m₃ z) (Str.ofString "marks") = some (.ref D3) := (if_neg (by decide)).trans hmr
                have hrs : (fun z => if z = Str.ofString "rest" then some (Value.ref D5) else m₃ z) (Str.ofString "rest") = some (.ref D5) := if_pos rfl
                generalize (fun z => if z = Str.ofString "rest" then some (Value.ref D5) else m₃ z) = m₄ at F17 hmr hrs
                generalize hrest : ((ms.filter fun x => decide (x % r = 0)).map fun x => x / r) = rest at hI16 hc
                have hrl : rest.length ≤ 1000 := by rw [← hrest, List.length_map]; exact Nat.le_trans (List.length_filter_le ..) hml
                dsimp only
                repeat' ((fail_if_success (with_reducible show wpAny _ _ (eval (Expr.ListComp _ _ _ _) _) _ _ _)); first | walk1 | (dsimp only; walk1))
                rename Fr _ _ _ _ => F18
                rename News _ _ _ _ => N18
                refine lc2_eval (fun mark step => mark * r + step) (by with_unfolding_all rfl) (by decide) rfl (by decide) rfl rfl (by decide) ?_
                walk1
                refine ⟨rest, _, rangeKs 0 r.toNat, srcOk_LI rfl (li_of (N18 (D5, listOf us5.toArray n5) (.head _)).1 hI16), by rw [rangeKs_length, sizeLine_eq]; exact Nat.le_trans (Nat.mul_le_mul hrl (show r.toNat ≤ 1000 by omega)) (by decide), ?_, ?_, ?_⟩
                · intro C s₃ m₃ a t ha hn hm hx
                  have c1 := (N18 (s.heap.objs.size + 1 + 1 + 1 + 1, o4') (by k_mem)).1
                  refine type_comp X' T' (fun b o e => hx b o (F18.keep b o e)) (by k_is) PyProof.Rows.boot_range (by decide) (cvC rfl (hx _ _ c1) d4' ?_)
                  refine call_range_1 ⟨⟨_, _, rfl, fun b o e => Heap.get?_push_of_some _ e⟩, _, srcOk_rng0 rfl (IsRange.new ..) (Int.le_of_lt hr0) (by omega), fun b hb => hb.elim⟩
                · intro C s₃ m₃ a b t t' ha hb hn hm hm' hx
                  have c1 := (N18 (s.heap.objs.size + 1 + 1 + 1 + 1, o4') (by k_mem)).1
                  repeat' ((fail_if_success (with_reducible show wpAny _ _ (eval (Expr.Name _ _) _) _ _ _)); first | walk1 | (dsimp only; walk1))
                  refine cvL hn hm (cvC rfl (hx _ _ c1) d4' ?_)
                  refine mul_int (cvL hn hm' ?_)
                  refine add_int ⟨⟨_, rfl⟩, ?_⟩
                  exact keeps_self
                · intro D6 us6 n6 h19 tk19 hE19 hD19 hDo19 hI19
                  have F20 : Fr s.heap s.heap.objs.size h19 m₄ := F18.keeps hE19
                  have N20 := newsAdd F18 N18 hE19 hD19 hDo19
                  clear F18 N18
                  refine ne_LI (li_of (N20 (D3, listOf us3.toArray n3) (by k_mem)).1 hI11) (li_of hDo19 hI19) (by units_room) ?_
                  refine wpAny_truthy_bool ?_
                  rcases hc with ⟨hne, rfl⟩ | ⟨heq2, hc⟩
                  · rw [if_pos (by rw [decide_eq_false hne]; rfl)]
                    repeat' (first | walk1 | (dsimp only; walk1))
                    rename Fr _ _ _ _ => F21
                    rename News _ _ _ _ => N21
                    exact ret _ _ [] 0 _ _ _ F21.keep (N21 _ (.head _)).2.2 (N21 _ (.tail _ (.head _))).2.2 (by k_ne) (N21 _ (.head _)).1 (N21 _ (.tail _ (.head _))).1 .nil
                  · rw [if_neg (by rw [decide_eq_true heq2]; decide)]
                    replace N20 : News s.heap s.heap.objs.size _ [(D5, listOf us5.toArray n5), (D2, listOf us2.toArray n2), (s.heap.objs.size + 1 + 1 + 1 + 1, o4'), (s.heap.objs.size + 1 + 1 + 1, og), (s.heap.objs.size + 1 + 1, oq), (s.heap.objs.size + 1, o1)] := fun p hp => by
                      rcases List.mem_cons.mp hp with rfl | hp
                      · exact N20 _ (by k_mem)
                      · exact N20 _ (.tail _ (.tail _ (.tail _ hp)))
                    obtain ⟨v1, v2, v3, v4⟩ := off5
                    repeat' ((fail_if_success (with_reducible show WhileStep2 _ _ _ _ _ _ _ _)); first | walk1 | (dsimp only; walk1))
                    rename Fr _ _ _ _ => F21
                    rename News _ _ _ _ => N21
                    exact ⟨_, _, _, _, k, rfl, F21, N21, Nat.lt_succ_self _, D5, D5, _, D2, us2, n2, _, oq, og, o4', wide * gap * r, _, rest, _, _, _, rfl, if_pos rfl, by assumption, dq, dg, d4', hI9, fun h' x e => li_of e hI16, hc, ⟨v1, v2, v3, v4⟩, ⟨r1, r2, r3, r4⟩, hrl⟩
  · have hle : ¬ 1 < (marks.length : Int) := by assumption
    rename Fr _ _ _ _ => F3
    rename News _ _ _ _ => N3
    obtain rfl := chainF_end (by omega) hc
    exact ret _ pl us nn tw _ _ F3.keep (N3 _ (.head _)).2.2 (N3 _ (.tail _ (.tail _ (.head _)))).2.2 (by k_ne) (N3 _ (.head _)).1 (N3 _ (.tail _ (.tail _ (.head _)))).1 hi

def insF (x : Int) : List Int → List Int
  | [] => [x]
  | y :: r => if x ≤ y then x :: y :: r else y :: insF x r
def srtF : List Int → List Int
  | [] => []
  | x :: r => insF x (srtF r)
def lastI (l : List Int) : Int := l.getLast?.getD 0
def fillsL (tile : List Int) : List Int → List Int → List Int → Bool
  | [], free, laid => decide (free.length ≤ 1000) && decide (laid.length ≤ 1000) && decide (sld free laid = ([], laid)) && decide (sld laid free = (laid, []))
  | p :: ps, free, _ =>
    let laid := thr 0 (tile.map fun mark => p + mark)
    let told := sld free laid
    let later := srtF (ps.flatMap fun place => tile.map fun mark => place + mark)
    decide (free.length ≤ 1000) && decide ((ps.flatMap fun place => tile.map fun mark => place + mark).length < 64) && decide (told = (thr (lastI laid) later, [])) && fillsL tile ps told.1 laid
def fillsF (tile places : List Int) (wide : Int) : Bool :=
  decide (tile ≠ []) && decide (tile.length ≤ 9) && decide (places.length ≤ 6) && decide (0 ≤ wide) && decide (wide ≤ 1000) && fillsL tile places (thr 0 (rangeKs 0 wide.toNat)) []
def roomF (free once : List Int) : Bool :=
  decide (free ≠ []) && decide (sld free (thr 0 once) = (free.filter (fun x => decide (x ∉ once)), thr (lastI free) (once.filter fun x => decide (x ∉ free))))
def sticksL (limit : Int) (marks : List Int) : Nat → List Int → Bool
  | 0, _ => false
  | n + 1, free =>
    match free with
    | [] => false
    | f :: _ =>
      let once := marks.map fun mark => f + mark
      let told := sld free (thr 0 once)
      decide (free.length ≤ 1000) && decide (0 ≤ lastI once) && decide (lastI once ≤ 100000) && match told.2 with
      | t :: _ => roomF free once && roomF (free.filter fun x => decide (x < t)) once
      | [] => decide (told.1 ≠ rangeKs (lastI once + 1) (limit - (lastI once + 1)).toNat) && sticksL limit marks n told.1
def sticksF (marks : List Int) : Bool :=
  decide (marks ≠ []) && decide (marks.length ≤ 9) && decide (0 ≤ lastI marks) && decide (lastI marks ≤ 1000) && sticksL (2 * lastI marks + 2) marks (2 * lastI marks + 2).toNat (rangeKs 0 (2 * lastI marks + 2).toNat)

theorem roomF_of {free once : List Int} (h : roomF free once = true) : free ≠ [] ∧ sld free (thr 0 once) = (free.filter (fun x => decide (x ∉ once)), thr (lastI free) (once.filter fun x => decide (x ∉ free))) := by
  simpa [roomF] using h
theorem thr_len (k : Int) : ∀ ns : List Int, (thr k ns).length ≤ 3 * ns.length
  | [] => Nat.le_refl _
  | n :: r => by
    have := thr_len k r
    simp only [thr]
    split <;> simp only [List.length_cons] <;> omega
theorem cells2_pack {g h : Heap} {o1 o2 : Obj} {m : Str → Option Value} {v1 v2 : Option Value} (N : News g g.objs.size h [(g.objs.size + 1 + 1, o2), (g.objs.size + 1, o1)]) (F : Fr g g.objs.size h m)
    (d1 : o1.data = .cell v1) (d2 : o2.data = .cell v2) : ∃ m' o1 o2, Fr g g.objs.size h m' ∧ News g g.objs.size h [(g.objs.size + 1 + 1, o2), (g.objs.size + 1, o1)] ∧ o1.data = .cell v1 ∧ o2.data = .cell v2 := ⟨_, _, _, F, N, d1, d2⟩
theorem cells2_packM {g h : Heap} {o1 o2 : Obj} {m : Str → Option Value} {v1 v2 : Option Value} {x : Str} {v : Value} (N : News g g.objs.size h [(g.objs.size + 1 + 1, o2), (g.objs.size + 1, o1)]) (F : Fr g g.objs.size h m)
    (d1 : o1.data = .cell v1) (d2 : o2.data = .cell v2) (e : m x = some v) : ∃ m' o1 o2, Fr g g.objs.size h m' ∧ News g g.objs.size h [(g.objs.size + 1 + 1, o2), (g.objs.size + 1, o1)] ∧ o1.data = .cell v1 ∧ o2.data = .cell v2 ∧ m' x = some v := ⟨_, _, _, F, N, d1, d2, e⟩
theorem room_ok {w : World} {loose : List Str} {mean : ExcName → Option Value} {mg mb : Str → Option Value} {dp un : Nat} {gd : Option (List Code)} {cn : Str} {cs : Scope} {a : Addr} {ccd : Value} {cl : List (Str × Addr)} {outer : List Env} {A₀ : Around} {base h₀ : Heap} {L : Addr} {m : Str → Option Value} {s : Shared}
    {Q E : Value → Shared → Prop} (B : Below A₀ base outer h₀) (F : Fr h₀ L s.heap m) (XB : (hd.heap_39 w.params).In base) (TB : Top hd.view_39 loose mean mg mb base) (hk : cs.kind = .function)
    {fa oa : Addr} {free once : List Int} (hf : LI s.heap fa free) (ho : LI s.heap oa once) (lf : free.length ≤ 100000) (lo : once.length ≤ 100000) (hr : roomF free once = true) (hd' : dp + 2 < recursionLimit) (hu : un + 100 < cLine)
    (ret : ∀ h' tk', Turned (L :: outer.filterMap (·.frame)) s.heap h' → Q (.bool true) { s with heap := h', toks := tk' }) :
    wpAny (model Challenge.rw_tv0004_01.row.prog w) (ktrTop dp un gd cn cs L a ccd cl outer) (call (.ref 64) [.ref fa, .ref oa]) Q E s := by
  have X := XB.keeps B.stays
  have T := TB.keeps B.stays
  refine wpAny_call ?_
  k_dflt (refine' enter_cells B F X T ?kA ?kF ?kK ?k6 ?k7 ?k8 ?k9 ?kB ?kD ?_ ?c2 ?c3 ?c4; (case kA => exact rfl); (case kF => exact rfl); (case kK => exact hk); (case k6 => k_is); (case k7 => k_is); (case k8 => ktr_room); (case k9 => exact BindsTo.of_eq rfl); (case kB => exact rfl); (case kD => decide +kernel); (case c2 => exact rfl); (case c3 => exact rfl); (case c4 => exact rfl); k_whole; intro h' tk' cells' F' N' Y' B' X' T'; k_cells Y'; (try simp only [List.cons_append, List.nil_append] at N'); (try dsimp only); (try k_fold))
  clear B F X T
  obtain ⟨hne, hsld⟩ := roomF_of hr
  rename Fr _ _ _ _ => F0
  rename News _ _ _ _ => N0
  obtain ⟨m₀, o1, o2, F1, N1, d1, d2⟩ := cells2_pack (v1 := some (.ref fa)) (v2 := some (.ref oa)) N0 F0 (by assumption) (by assumption)
  clear F0 N0
  repeat' ((fail_if_success (with_reducible show wpAny _ _ (exec (Stmt.Assign _ (Expr.ListComp _ _ _ _) _) _) _ _ _)); first | walk1 | (dsimp only; walk1))
  refine lc_assign (fun x => decide (x ∉ once)) _root_.id (by with_unfolding_all rfl) (by with_unfolding_all rfl) (by decide) rfl (by decide) rfl rfl rfl ?_
  walk1
  refine ⟨free, _, _, _, _, srcOk_LI rfl (hf.ext F1.keep), by rw [sizeLine_eq]; omega, F1, N1, ?_, ?_, ?_⟩
  · intro C s₃ m₃ a t E' ha hn hm hx hg
    refine tests1 ?_
    repeat' ((fail_if_success (with_reducible show wpAny _ _ (eval (Expr.Name _ _) _) _ _ _)); first | walk1 | (dsimp only; walk1))
    refine cvL hn hm (cvC rfl (hx _ _ (N1 (s.heap.objs.size + 1 + 1, o2) (by k_mem)).1) d2 ?_)
    refine notin_LI (ho.ext fun b o e => hx b o (F1.keep b o e)) (by units_room) (wpAny_truthy_bool ⟨?_, keeps_self⟩)
    simp
  · intro C s₃ m₃ a t E' ha hp hn hm hx
    exact cvL hn hm ⟨⟨t, rfl⟩, keeps_self⟩
  intro D us n h2 tk2 F2 N2 hD2 hI2
  rw [List.map_id] at hI2
  have F3 : Fr s.heap s.heap.objs.size h2 (fun z => if z = Str.ofString "missing" then some (.ref D) else m₀ z) := F2
  have N3 : News s.heap s.heap.objs.size h2 [(D, listOf us.toArray n), (s.heap.objs.size + 1 + 1, o2), (s.heap.objs.size + 1, o1)] := N2
  clear F2 N2 F1 N1
  have hms : (fun z => if z = Str.ofString "missing" then some (Value.ref D) else m₀ z) (Str.ofString "missing") = some (.ref D) := if_pos rfl
  generalize (fun z => if z = Str.ofString "missing" then some (Value.ref D) else m₀ z) = m₁ at F3 hms
  dsimp only
  repeat' ((fail_if_success (with_reducible show wpAny _ _ (eval (Expr.ListComp _ _ _ _) _) _ _ _)); first | walk1 | (dsimp only; walk1))
  refine lc_eval (fun x => decide (x ∉ free)) _root_.id (by with_unfolding_all rfl) (by decide) rfl (by decide) rfl ?_
  walk1
  refine ⟨once, _, srcOk_LI rfl (ho.ext F3.keep), by rw [sizeLine_eq]; omega, ?_, ?_, ?_⟩
  · intro C s₃ m₃ a t E' ha hn hm hx hg
    refine tests1 ?_
    repeat' ((fail_if_success (with_reducible show wpAny _ _ (eval (Expr.Name _ _) _) _ _ _)); first | walk1 | (dsimp only; walk1))
    refine cvL hn hm (cvC rfl (hx _ _ (N3 (s.heap.objs.size + 1, o1) (by k_mem)).1) d1 ?_)
    refine notin_LI (hf.ext fun b o e => hx b o (F3.keep b o e)) (by units_room) (wpAny_truthy_bool ⟨?_, keeps_self⟩)
    simp
  · intro C s₃ m₃ a t E' ha hp hn hm hx
    exact cvL hn hm ⟨⟨t, rfl⟩, keeps_self⟩
  intro D2 us2 n2 h4 tk4 hE4 hD4 hDo4 hI4
  rw [List.map_id] at hI4
  have F5 := F3.keeps hE4
  have N5 := newsAdd F3 N3 hE4 hD4 hDo4
  clear F3 N3
  repeat' ((fail_if_success (with_reducible show wpAny _ _ (subscriptTail _ _ _ _) _ _ _)); first | walk1 | (dsimp only; walk1))
  obtain ⟨fus, hfl, hfi⟩ := id hf
  obtain ⟨tl, hlast⟩ : ∃ t, fus[fus.length - 1]? = some (.int (lastI free) t) := last_get hfi hne
  refine sub_last (isList_base F5 hfl) hlast ?_
  repeat' ((fail_if_success (with_reducible show wpAny _ _ (call (Value.ref _) _) _ _ _)); first | walk1 | (dsimp only; walk1))
  refine thrice_ok B' F5 X' T' rfl (li_of (N5 _ (.head _)).1 hI4) (Nat.le_trans (List.length_filter_le ..) (by omega)) (by omega) (by dsimp only [ktrTop]; omega) ?_
  intro r6 us6 n6 h6 tk6 hE6 hr6 hro6 hI6
  have F7 := F5.keeps hE6
  have N7 := newsAdd F5 N5 hE6 hr6 hro6
  clear F5 N5
  repeat' ((fail_if_success (with_reducible show wpAny _ _ (call (Value.ref _) _) _ _ _)); first | walk1 | (dsimp only; walk1))
  rename Fr _ _ _ _ => F8
  rename News _ _ _ _ => N8
  refine thrice_ok B' F8 X' T' rfl (ho.ext F8.keep) (by omega) (by omega) (by dsimp only [ktrTop]; omega) ?_
  intro r9 us9 n9 h9 tk9 hE9 hr9 hro9 hI9
  have F10 := F8.keeps hE9
  have N10 := newsAdd F8 N8 hE9 hr9 hro9
  clear F8 N8
  repeat' ((fail_if_success (with_reducible show wpAny _ _ (call (Value.ref _) _) _ _ _)); first | walk1 | (dsimp only; walk1))
  refine sld_ok B' F10 XB TB rfl (hf.ext F10.keep) (li_of (N10 _ (.head _)).1 hI9) (by omega) (Nat.le_trans (thr_len 0 once) (by omega)) (by omega) (by dsimp only [ktrTop]; omega) ?_
  intro r11 ma ua us11 vs11 k1 k2 h11 tk11 hT11 e1 e2 e3 e4 e5 e6 g1 g2 g3 i1 i2
  obtain ⟨g', T11, F12, N12, B12⟩ := turn_back B' F10 N10 hT11
  replace N12 := turn_add T11 F10 e1 g1 (turn_add T11 F10 e2 g2 (turn_add T11 F10 e3 g3 N12))
  have hE12 := F12.keep
  clear F10 N10
  repeat' ((fail_if_success (with_reducible show wpAny _ _ (compareOp _ _ _) _ _ _)); first | walk1 | (dsimp only; walk1))
  rename Fr _ _ _ _ => F13
  rename News _ _ _ _ => N13
  refine eq_pair (N13 (r11, pairOf ma ua) (by k_mem)).1 rfl rfl (N13 _ (.head _)).1 rfl rfl (li_of (N13 (ma, listOf us11.toArray k1) (by k_mem)).1 i1) (li_of (N13 (ua, listOf vs11.toArray k2) (by k_mem)).1 i2) (li_of (N13 (D, listOf us.toArray n) (by k_mem)).1 hI2) (li_of (N13 (r6, listOf us6.toArray n6) (by k_mem)).1 hI6) (by units_room) ?_
  rw [hsld, decide_eq_true rfl]
  exact ret _ _ (turned_of_turn T11 F13.keep)

theorem sticksF_of {marks : List Int} (h : sticksF marks = true) : marks ≠ [] ∧ marks.length ≤ 9 ∧ 0 ≤ lastI marks ∧ lastI marks ≤ 1000 ∧ sticksL (2 * lastI marks + 2) marks (2 * lastI marks + 2).toNat (rangeKs 0 (2 * lastI marks + 2).toNat) = true := by
  simp only [sticksF, Bool.and_eq_true, decide_eq_true_eq] at h
  obtain ⟨⟨⟨⟨a, b⟩, c⟩, d⟩, e⟩ := h
  exact ⟨a, b, c, d, e⟩
theorem sticksL_of {lim : Int} {marks : List Int} {n : Nat} {free : List Int} (h : sticksL lim marks (n + 1) free = true) : ∃ f fs, free = f :: fs ∧ free.length ≤ 1000 ∧ 0 ≤ lastI (marks.map fun mark => f + mark) ∧ lastI (marks.map fun mark => f + mark) ≤ 100000 ∧
    ((∃ t ts, (sld free (thr 0 (marks.map fun mark => f + mark))).2 = t :: ts ∧ roomF free (marks.map fun mark => f + mark) = true ∧ roomF (free.filter fun x => decide (x < t)) (marks.map fun mark => f + mark) = true) ∨
    ((sld free (thr 0 (marks.map fun mark => f + mark))).2 = [] ∧ (sld free (thr 0 (marks.map fun mark => f + mark))).1 ≠ rangeKs (lastI (marks.map fun mark => f + mark) + 1) (lim - (lastI (marks.map fun mark => f + mark) + 1)).toNat ∧ sticksL lim marks n (sld free (thr 0 (marks.map fun mark => f + mark))).1 = true)) := by
  cases free with
  | nil => simp [sticksL] at h
  | cons f fs =>
    simp only [sticksL, Bool.and_eq_true, decide_eq_true_eq] at h
    obtain ⟨⟨⟨a, b⟩, c⟩, d⟩ := h
    refine ⟨f, fs, rfl, a, b, c, ?_⟩
    cases q : (sld (f :: fs) (thr 0 (marks.map fun mark => f + mark))).2 with
    | nil =>
      rw [q] at d
      simp only [Bool.and_eq_true, decide_eq_true_eq] at d
      exact .inr ⟨rfl, d.1, d.2⟩
    | cons t ts =>
      rw [q] at d
      simp only [Bool.and_eq_true] at d
      exact .inl ⟨t, ts, rfl, d.1, d.2⟩
def stJ (A₁ : Around) (base : Heap) (outer₁ : List Env) (g₀ : Heap) (ma : Addr) (lim : Int) (marks : List Int) (n : Nat) (_ : Int) (g : Heap) (m : Str → Option Value) (nx : List (Addr × Obj)) : Prop :=
  ∃ fl fus fn free o1 o2 v2 tl, nx = [(fl, listOf (List.toArray fus) fn), (g₀.objs.size + 1 + 1, o2), (g₀.objs.size + 1, o1)] ∧ Below A₁ base outer₁ g ∧ KtsTurn (outer₁.filterMap (·.frame)) g₀ g ∧ m (Str.ofString "marks") = some (.ref ma) ∧ m (Str.ofString "limit") = some (.int lim tl) ∧
    o1.data = .cell (some (.ref fl)) ∧ o2.data = .cell v2 ∧ IntsAre fus free ∧ sticksL lim marks n free = true ∧ @Ne Nat fl (g₀.objs.size + 1) ∧ @Ne Nat fl (g₀.objs.size + 1 + 1)
theorem sticks_ok {w : World} {loose : List Str} {mean : ExcName → Option Value} {mg mb : Str → Option Value} {dp un : Nat} {gd : Option (List Code)} {cn : Str} {cs : Scope} {a : Addr} {ccd : Value} {cl : List (Str × Addr)} {outer : List Env} {A₀ : Around} {base h₀ : Heap} {L : Addr} {m : Str → Option Value} {s : Shared}
    {Q E : Value → Shared → Prop} (B : Below A₀ base outer h₀) (F : Fr h₀ L s.heap m) (XB : (hd.heap_39 w.params).In base) (TB : Top hd.view_39 loose mean mg mb base) (hk : cs.kind = .function)
    {ma : Addr} {marks : List Int} (hm : LI s.heap ma marks) (hs : sticksF marks = true) (hd' : dp + 3 < recursionLimit) (hu : un + 200 < cLine)
    (ret : ∀ h' tk', Turned (L :: outer.filterMap (·.frame)) s.heap h' → Q (.bool true) { s with heap := h', toks := tk' }) :
    wpAny (model Challenge.rw_tv0004_01.row.prog w) (ktrTop dp un gd cn cs L a ccd cl outer) (call (.ref 69) [.ref ma]) Q E s := by
  have X := XB.keeps B.stays
  have T := TB.keeps B.stays
  refine wpAny_call ?_
  k_dflt (refine' enter_cells B F X T ?kA ?kF ?kK ?k6 ?k7 ?k8 ?k9 ?kB ?kD ?_ ?c2 ?c3 ?c4; (case kA => exact rfl); (case kF => exact rfl); (case kK => exact hk); (case k6 => k_is); (case k7 => k_is); (case k8 => ktr_room); (case k9 => exact BindsTo.of_eq rfl); (case kB => exact rfl); (case kD => decide +kernel); (case c2 => exact rfl); (case c3 => exact rfl); (case c4 => exact rfl); k_whole; intro h' tk' cells' F' N' Y' B' X' T'; k_cells Y'; (try simp only [List.cons_append, List.nil_append] at N'); (try dsimp only); (try k_fold))
  clear B F X T
  obtain ⟨hne, hl9, hx0, hx1, hL⟩ := sticksF_of hs
  rename Fr _ _ _ _ => F0
  rename News _ _ _ _ => N0
  obtain ⟨m₀, o1, o2, F1, N1, d1, d2, hmm⟩ := cells2_packM (v1 := none) (v2 := none) N0 F0 (by assumption) (by assumption) (x := Str.ofString "marks") (v := .ref ma) rfl
  clear F0 N0
  obtain ⟨mus, hml, hmi⟩ := id hm
  obtain ⟨tl, hlast⟩ : ∃ t, mus[mus.length - 1]? = some (.int (lastI marks) t) := last_get hmi hne
  repeat' ((fail_if_success (with_reducible show wpAny _ _ (subscriptTail _ _ _ _) _ _ _)); first | walk1 | (dsimp only; walk1))
  refine sub_last (isList_base F1 hml) hlast ?_
  repeat' ((fail_if_success (with_reducible show wpAny _ _ (call (Value.type _) _) _ _ _)); first | walk1 | (dsimp only; walk1))
  rename Fr _ _ _ _ => F2
  rename News _ _ _ _ => N2
  rename Heap => hX
  obtain ⟨m₁, tl', F3, hmm1, hlim⟩ : ∃ m₁ tl', Fr s.heap s.heap.objs.size hX m₁ ∧ m₁ (Str.ofString "marks") = some (.ref ma) ∧ m₁ (Str.ofString "limit") = some (.int (2 * lastI marks + 2) tl') := ⟨_, _, F2, (if_neg (by decide)).trans hmm, if_pos rfl⟩
  clear F2
  generalize hlm : 2 * lastI marks + 2 = lim at *
  refine range1_rows F3 N2 (fun h3 tk3 t₁ u₁ v₁ hr F4 N4 hx4 => ?_)
  clear F3 N2
  repeat' ((fail_if_success (with_reducible show wpAny _ _ (call (Value.type _) _) _ _ _)); first | walk1 | (dsimp only; walk1))
  refine list_rng rfl F4 N4 hr (by decide) (by decide) (by omega) (by omega) (fun fl fus fn h5 tk5 F5 N5 l5 hI5 => ?_)
  clear F4 N4 hr hx4
  k_lt l5
  rw [show lim - 0 = lim by omega] at hI5
  repeat' ((fail_if_success (with_reducible show wpAny _ _ (exec (Stmt.For _ _ _ _ _) _) _ _ _)); first | walk1 | (dsimp only; walk1))
  refine wpAny_For ?_
  repeat' ((fail_if_success (with_reducible show wpAny _ _ (call (Value.type _) _) _ _ _)); first | walk1 | (dsimp only; walk1))
  rename Fr _ _ _ _ => F6
  rename News _ _ _ _ => N6
  rename Obj => of
  refine range1_rows F6 N6 (fun h7 tk7 t₁ u₁ v₁ hr F7 N7 hx7 => ?_)
  clear F6 N6
  refine wpAny_pyIter_range hr (small_one (by decide) (by decide) (by omega) (by omega)) ?_
  have hLI : s.heap.objs.size < h7.objs.size := F7.ns.lt
  refine rng_loop (n₀ := lim.toNat) (a₀ := 0) (g₀ := s.heap) (m₀ := m₁) rfl (stJ (ktrTop dp un gd cn cs L a ccd cl outer) base (envX cn cs L a ccd cl :: outer) s.heap ma lim marks) (F7.keeps fun b o e => Heap.get?_push_of_some _ e) (newsExt N7 fun b o e => Heap.get?_push_of_some _ e) ?_ ?_ (Nat.ne_of_gt hLI) (fun p hp => Nat.ne_of_lt (Heap.lt_size (N7 p hp).1))
    ⟨fl, fus, fn, _, of, o2, _, tl', rfl, B', KtsTurn.refl, hmm1, hlim, by assumption, d2, hI5, hL, by k_ne, by k_ne⟩ ?_ ?_
  · rw [rangeSize_one] 
    have : (if (0 : Int) < lim then lim - 0 else 0) = (lim.toNat : Int) := by split <;> omega
    rw [this]
    exact Heap.get?_push_size _ rfl
  · cases q : s.heap.get? h7.objs.size with
    | none => rfl
    | some o => exact absurd (Nat.lt_trans (Heap.lt_size q) hLI) (Nat.lt_irrefl _)
  · clear F7 N7 hr hx7 hLI hI5 hL d1 d2 hmm hmm1 hlim
    rintro n ai g m2 nx h tk t oI ⟨fl, fus, fn, free, o1, o2, v2, tl, rfl, Bg, Tg, hmm, hlim, d1, d2, hfi, hst, q1, q2⟩ F1 N1 hnI
    change Fr g s.heap.objs.size h m2 at F1
    change News g s.heap.objs.size h ((h7.objs.size, oI) :: [(fl, listOf fus.toArray fn), (s.heap.objs.size + 1 + 1, o2), (s.heap.objs.size + 1, o1)]) at N1
    have i1 : @Ne Nat h7.objs.size (s.heap.objs.size + 1) := fun e => hnI (s.heap.objs.size + 1, o1) (by k_mem) e.symm
    have i2 : @Ne Nat h7.objs.size (s.heap.objs.size + 1 + 1) := fun e => hnI (s.heap.objs.size + 1 + 1, o2) (by k_mem) e.symm
    clear hnI
    generalize h7.objs.size = I at *
    obtain ⟨f, fs, rfl, hfl, hl0, hl1, hcase⟩ := sticksL_of hst
    have X1 := XB.keeps Bg.stays
    have T1 := TB.keeps Bg.stays
    clear X' T' B'
    repeat' ((fail_if_success (with_reducible show wpAny _ _ (exec (Stmt.Assign _ (Expr.ListComp _ _ _ _) _) _) _ _ _)); first | walk1 | (dsimp only; walk1))
    rename Fr _ _ _ _ => F2
    rename News _ _ _ _ => N2
    refine lc_assign (fun _ => true) (fun x => f + x) (by with_unfolding_all rfl) (by with_unfolding_all rfl) (by decide) rfl (by decide) rfl rfl rfl ?_
    walk1
    refine ⟨marks, _, _, _, _, srcOk_LI rfl ((hm.turn Tg).ext F2.keep), by rw [sizeLine_eq]; omega, F2, N2, ?_, ?_, ?_⟩
    · intro C s₃ m₃ a t E' ha hn hm hx hg
      exact tests0 ⟨rfl, keeps_self⟩
    · intro C s₃ m₃ a t E' ha hp hn hm hx
      have c1 := (N2 (s.heap.objs.size + 1, o1) (by k_mem)).1
      have c2 := hx _ _ (N2 (fl, listOf fus.toArray fn) (by k_mem)).1
      obtain ⟨t0, hf0⟩ := hfi.get 0 f rfl
      repeat' ((fail_if_success (with_reducible show wpAny _ _ (eval (Expr.Name _ _) _) _ _ _)); first | walk1 | (dsimp only; walk1))
      refine cvC rfl (hx _ _ c1) d1 ?_
      repeat' ((fail_if_success (with_reducible show wpAny _ _ (subscriptTail _ _ _ _) _ _ _)); first | walk1 | (dsimp only; walk1))
      refine sub_in (us := fus) ⟨_, c2, rfl, _, rfl⟩ (by decide) (by decide) hf0 (cvL hn hm ?_)
      refine add_int ⟨⟨_, rfl⟩, keeps_self⟩
    intro oa ous on h3 tk3 F3 N3 hD3 hI3
    rw [List.filter_eq_self.mpr (fun _ _ => rfl)] at hI3
    obtain ⟨m3, F4, hoc, hmm4, hlim4⟩ : ∃ m3, Fr g s.heap.objs.size h3 m3 ∧ m3 (Str.ofString "once") = some (.ref oa) ∧ m3 (Str.ofString "marks") = some (.ref ma) ∧ m3 (Str.ofString "limit") = some (.int lim tl) := ⟨_, F3, if_pos rfl, (if_neg (by decide)).trans ((if_neg (by decide)).trans hmm), (if_neg (by decide)).trans ((if_neg (by decide)).trans hlim)⟩
    have N4 : News g s.heap.objs.size h3 [(oa, listOf ous.toArray on), (I, oI), (fl, listOf fus.toArray fn), (s.heap.objs.size + 1 + 1, o2), (s.heap.objs.size + 1, o1)] := N3
    clear F2 N2 F3 N3 hD3
    generalize honce : (marks.map fun mark => f + mark) = once at *
    have hol : once.length ≤ 9 := by rw [← honce, List.length_map]; exact hl9
    dsimp only
    repeat' ((fail_if_success (with_reducible show wpAny _ _ (call (Value.ref _) _) _ _ _)); first | walk1 | (dsimp only; walk1))
    refine thrice_ok Bg F4 X1 T1 rfl (li_of (N4 _ (.head _)).1 hI3) (by omega) (by dsimp only [ktrTop]; omega) (by dsimp only [ktrTop]; omega) ?_
    intro r9 us9 n9 h9 tk9 hE9 hr9 hro9 hI9
    have F10 := F4.keeps hE9
    have N10 := newsAdd F4 N4 hE9 hr9 hro9
    clear F4 N4
    repeat' ((fail_if_success (with_reducible show wpAny _ _ (call (Value.ref _) _) _ _ _)); first | walk1 | (dsimp only; walk1))
    refine sld_ok Bg F10 XB TB rfl (li_of (N10 (fl, listOf fus.toArray fn) (by k_mem)).1 hfi) (li_of (N10 _ (.head _)).1 hI9) (by omega) (Nat.le_trans (thr_len 0 once) (by omega)) (by dsimp only [ktrTop]; omega) (by dsimp only [ktrTop]; omega) ?_
    intro r11 mA uA us11 vs11 k1 k2 h11 tk11 hT11 e1 e2 e3 e4 e5 e6 g1 g2 g3 j1 j2
    obtain ⟨g', T11, F12, N12, B12⟩ := turn_back Bg F10 N10 hT11
    replace N12 := turn_add T11 F10 e1 g1 (turn_add T11 F10 e2 g2 (turn_add T11 F10 e3 g3 fun p hp => N12 p (.tail _ hp)))
    have Tg' := Tg.trans T11
    have hmI : mA ≠ I := fun e => by
      have := (N10 (I, oI) (by k_mem)).1
      rw [e] at e2
      rw [e2] at this; cases this
    clear F10 N10 Tg Bg X1 T1
    have X1 := XB.keeps B12.stays
    have T1 := TB.keeps B12.stays
    have w1 := noCell N12 (c := s.heap.objs.size + 1) (o := o1) (by k_mem) d1 (b := r11) (by k_mem) rfl
    have w2 := noCell N12 (c := s.heap.objs.size + 1 + 1) (o := o2) (by k_mem) d2 (b := r11) (by k_mem) rfl
    have w3 := noCell N12 (c := s.heap.objs.size + 1) (o := o1) (by k_mem) d1 (b := mA) (by k_mem) rfl
    have w4 := noCell N12 (c := s.heap.objs.size + 1 + 1) (o := o2) (by k_mem) d2 (b := mA) (by k_mem) rfl
    have w5 := noCell N12 (c := s.heap.objs.size + 1) (o := o1) (by k_mem) d1 (b := uA) (by k_mem) rfl
    have w6 := noCell N12 (c := s.heap.objs.size + 1 + 1) (o := o2) (by k_mem) d2 (b := uA) (by k_mem) rfl
    have w7 := noCell N12 (c := s.heap.objs.size + 1) (o := o1) (by k_mem) d1 (b := oa) (by k_mem) rfl
    have w8 := noCell N12 (c := s.heap.objs.size + 1 + 1) (o := o2) (by k_mem) d2 (b := oa) (by k_mem) rfl
    repeat' ((fail_if_success (with_reducible show wpAny _ _ (subscriptTail _ _ _ _) _ _ _)); first | walk1 | (dsimp only; walk1))
    repeat' ((fail_if_success (with_reducible show wpAny _ _ (compareOp _ _ _) _ _ _)); first | walk1 | (dsimp only; walk1))
    rename Fr _ _ _ _ => F14
    rename News _ _ _ _ => N14
    rename Obj => ot
    have dt : ot.data = .cell (some (.ref r11)) := by assumption
    refine ne_LI (li_of (N14 (uA, listOf vs11.toArray k2) (by k_mem)).1 j2) (li_of (us := []) (N14 _ (.head _)).1 .nil) (by units_room) ?_
    refine wpAny_truthy_bool ?_
    rcases hcase with ⟨t1, ts, hts, hr1, hr2⟩ | ⟨hts, hne2, hnext⟩
    · rw [if_pos (by rw [hts]; rfl)]
      rw [hts] at j2
      obtain ⟨tt, ht1⟩ := j2.get 0 t1 rfl
      replace N14 : News g' s.heap.objs.size _ [(r11, pairOf mA uA), (uA, listOf vs11.toArray k2), (oa, listOf ous.toArray on), (fl, listOf fus.toArray fn), (s.heap.objs.size + 1 + 1, ot), (s.heap.objs.size + 1, o1)] := pk N14 (by k_mem) (pk N14 (by k_mem) (pk N14 (by k_mem) (pk N14 (by k_mem) (pk N14 (by k_mem) (pk N14 (by k_mem) News.nil)))))
      repeat' ((fail_if_success (with_reducible show wpAny _ _ (exec (Stmt.Assign _ (Expr.ListComp _ _ _ _) _) _) _ _ _)); first | walk1 | (dsimp only; walk1))
      refine lc_assign (fun x => decide (x < t1)) _root_.id (by with_unfolding_all rfl) (by with_unfolding_all rfl) (by decide) rfl (by decide) rfl rfl rfl ?_
      walk1
      refine ⟨f :: fs, _, _, _, _, srcOk_LI rfl (li_of (N14 (fl, listOf fus.toArray fn) (by k_mem)).1 hfi), by rw [sizeLine_eq]; omega, F14, N14, ?_, ?_, ?_⟩
      · intro C s₃ m₃ a t E' ha hn hm hx hg
        have c1 := hx _ _ (N14 (s.heap.objs.size + 1 + 1, ot) (by k_mem)).1
        have c2 := hx _ _ (N14 (r11, pairOf mA uA) (by k_mem)).1
        have c3 := hx _ _ (N14 (uA, listOf vs11.toArray k2) (by k_mem)).1
        refine tests1 ?_
        repeat' ((fail_if_success (with_reducible show wpAny _ _ (eval (Expr.Name _ _) _) _ _ _)); first | walk1 | (dsimp only; walk1))
        refine cvL hn hm ?_
        repeat' ((fail_if_success (with_reducible show wpAny _ _ (eval (Expr.Name _ _) _) _ _ _)); first | walk1 | (dsimp only; walk1))
        refine cvC rfl c1 dt ?_
        repeat' ((fail_if_success (with_reducible show wpAny _ _ (subscriptTail _ _ _ _) _ _ _)); first | walk1 | (dsimp only; walk1))
        refine item_tuple (items := #[.ref mA, .ref uA]) (j := 1) ⟨_, c2, rfl, _, rfl⟩ (by decide) (by decide) rfl rfl ?_
        repeat' ((fail_if_success (with_reducible show wpAny _ _ (subscriptTail _ _ _ _) _ _ _)); first | walk1 | (dsimp only; walk1))
        refine sub_in (us := vs11) ⟨_, c3, rfl, _, rfl⟩ (by decide) (by decide) ht1 ?_
        exact lt_int (wpAny_truthy_bool ⟨rfl, keeps_self⟩)
      · intro C s₃ m₃ a t E' ha hp hn hm hx
        exact cvL hn hm ⟨⟨t, rfl⟩, keeps_self⟩
      intro sa sus sn h15 tk15 F15 N15 hD15 hI15
      rw [List.map_id] at hI15
      obtain ⟨m5, F16, hoc5, hsc5⟩ : ∃ m5, Fr g' s.heap.objs.size h15 m5 ∧ m5 (Str.ofString "once") = some (.ref oa) ∧ m5 (Str.ofString "short") = some (.ref sa) := ⟨_, F15, (if_neg (by decide)).trans hoc, if_pos rfl⟩
      have N16 : News g' s.heap.objs.size h15 [(sa, listOf sus.toArray sn), (r11, pairOf mA uA), (uA, listOf vs11.toArray k2), (oa, listOf ous.toArray on), (fl, listOf fus.toArray fn), (s.heap.objs.size + 1 + 1, ot), (s.heap.objs.size + 1, o1)] := N15
      clear F15 N15 hD15 F14 N14
      dsimp only
      repeat' ((fail_if_success (with_reducible show wpAny _ _ (call (Value.ref _) _) _ _ _)); first | walk1 | (dsimp only; walk1))
      refine room_ok B12 F16 XB TB rfl (li_of (N16 (fl, listOf fus.toArray fn) (by k_mem)).1 hfi) (li_of (N16 (oa, listOf ous.toArray on) (by k_mem)).1 hI3) (by omega) (by omega) hr1 (by dsimp only [ktrTop]; omega) (by dsimp only [ktrTop]; omega) ?_
      intro h17 tk17 hT17
      obtain ⟨g2, T17, F17, N17, B17⟩ := turn_back B12 F16 N16 hT17
      clear F16 N16 X1 T1
      have X1 := XB.keeps B17.stays
      have T1 := TB.keeps B17.stays
      repeat' ((fail_if_success (with_reducible show wpAny _ _ (call (Value.ref _) _) _ _ _)); first | walk1 | (dsimp only; walk1))
      refine room_ok B17 F17 XB TB rfl (li_of (N17 (sa, listOf sus.toArray sn) (by k_mem)).1 hI15) (li_of (N17 (oa, listOf ous.toArray on) (by k_mem)).1 hI3) (Nat.le_trans (List.length_filter_le ..) (by omega)) (by omega) hr2 (by dsimp only [ktrTop]; omega) (by dsimp only [ktrTop]; omega) ?_
      intro h18 tk18 hT18
      obtain ⟨g3, T18, F18, N18, B18⟩ := turn_back B17 F17 N17 hT18
      exact ret _ _ (turned_of_turn ((Tg'.trans T17).trans T18) F18.keep)
    · rw [if_neg (by rw [hts]; decide)]
      replace N14 : News g' s.heap.objs.size _ [(r11, pairOf mA uA), (mA, listOf us11.toArray k1), (oa, listOf ous.toArray on), (I, oI), (s.heap.objs.size + 1 + 1, ot), (s.heap.objs.size + 1, o1)] := pk N14 (by k_mem) (pk N14 (by k_mem) (pk N14 (by k_mem) (pk N14 (by k_mem) (pk N14 (by k_mem) (pk N14 (by k_mem) News.nil)))))
      obtain ⟨tl9, hlast9⟩ : ∃ t, ous[ous.length - 1]? = some (.int (lastI once) t) := last_get hI3 (by rw [← honce]; simpa using hne)
      repeat' ((fail_if_success (with_reducible show wpAny _ _ (subscriptTail _ (Expr.UnaryOp _ _ _) _ _) _ _ _)); first | walk1 | (dsimp only; walk1))
      rename Fr _ _ _ _ => F15
      rename News _ _ _ _ => N15
      rename Obj => oz
      refine sub_last (us := ous) ⟨_, (N15 (oa, listOf ous.toArray on) (by k_mem)).1, rfl, _, rfl⟩ hlast9 ?_
      repeat' ((fail_if_success (with_reducible show wpAny _ _ (call (Value.type _) _) _ _ _)); first | walk1 | (dsimp only; walk1))
      refine range2_rows F15 N15 (fun h16 tk16 t₁ u₁ v₁ hr F16 N16 hx16 => ?_)
      clear F15 N15
      repeat' ((fail_if_success (with_reducible show wpAny _ _ (call (Value.type _) _) _ _ _)); first | walk1 | (dsimp only; walk1))
      refine list_rng rfl F16 N16 hr (by omega) (by omega) (by omega) (by omega) (fun ql qus qn h17 tk17 F17 N17 l17 hI17 => ?_)
      clear F16 N16 hr hx16 l17
      repeat' ((fail_if_success (with_reducible show wpAny _ _ (compareOp _ _ _) _ _ _)); first | walk1 | (dsimp only; walk1))
      refine eq_LI (li_of (N17 (mA, listOf us11.toArray k1) (by k_mem)).1 j1) (li_of (N17 _ (.head _)).1 hI17) (by units_room) ?_
      refine wpAny_truthy_bool ?_
      rw [if_neg (by rw [decide_eq_false hne2]; decide)]
      have dz : oz.data = .cell (some (.ref mA)) := by assumption
      repeat' ((fail_if_success (with_reducible show ∃ _, _)); first | walk1 | (dsimp only; walk1))
      refine ⟨g', m3, [(mA, listOf us11.toArray k1), (s.heap.objs.size + 1 + 1, ot), (s.heap.objs.size + 1, oz)], h17, _, rfl, F17, pk N17 (by k_mem) (pk N17 (by k_mem) (pk N17 (by k_mem) (pk N17 (by k_mem) News.nil))), fun p hp => ?_, mA, us11, k1, _, oz, ot, _, tl, rfl, B12, Tg', hmm4, hlim4, dz, dt, j1, hnext, w3, w4⟩
      simp only [List.mem_cons, List.not_mem_nil, or_false] at hp
      rcases hp with h | h | h
      · rw [h]; exact hmI
      · rw [h]; exact fun e => i2 e.symm
      · rw [h]; exact fun e => i1 e.symm
  · rintro ai g m2 nx h tk ⟨fl, fus, fn, free, o1, o2, v2, tl, rfl, Bg, Tg, hmm, hlim, d1, d2, hfi, hst, q1, q2⟩ F1 N1
    cases hst

theorem insF_perm (x : Int) : ∀ l : List Int, (insF x l).Perm (x :: l)
  | [] => List.Perm.refl _
  | y :: r => by
    simp only [insF]
    split
    · exact List.Perm.refl _
    · exact ((insF_perm x r).cons y).trans (List.Perm.swap x y r)
theorem srtF_perm : ∀ l : List Int, (srtF l).Perm l
  | [] => List.Perm.refl _
  | x :: r => (insF_perm x _).trans ((srtF_perm r).cons x)
theorem insF_rises (x : Int) : ∀ l : List Int, l.Pairwise (· ≤ ·) → (insF x l).Pairwise (· ≤ ·)
  | [], _ => List.pairwise_singleton ..
  | y :: r, h => by
    simp only [insF]
    have h' := List.pairwise_cons.mp h
    split
    · rename_i hxy
      exact List.pairwise_cons.mpr ⟨fun z hz => by
        rcases List.mem_cons.mp hz with rfl | hz
        · exact hxy
        · exact Int.le_trans hxy (h'.1 z hz), h⟩
    · rename_i hxy
      refine List.pairwise_cons.mpr ⟨fun z hz => ?_, insF_rises x r h'.2⟩
      rcases List.mem_cons.mp ((insF_perm x r).mem_iff.mp hz) with rfl | hz
      · omega
      · exact h'.1 z hz
theorem srtF_rises : ∀ l : List Int, (srtF l).Pairwise (· ≤ ·)
  | [] => .nil
  | x :: r => insF_rises x _ (srtF_rises r)
theorem srtF_eq {l l' : List Int} (p : l'.Perm l) (o : l'.Pairwise (· ≤ ·)) : l' = srtF l := List.Perm.eq_of_pairwise (fun _ _ _ _ a b => Int.le_antisymm a b) o (srtF_rises l) (p.trans (srtF_perm l).symm)
theorem fillsF_of {tile places : List Int} {wide : Int} (h : fillsF tile places wide = true) : tile ≠ [] ∧ tile.length ≤ 9 ∧ places.length ≤ 6 ∧ 0 ≤ wide ∧ wide ≤ 1000 ∧ fillsL tile places (thr 0 (rangeKs 0 wide.toNat)) [] = true := by
  simp only [fillsF, Bool.and_eq_true, decide_eq_true_eq] at h
  obtain ⟨⟨⟨⟨⟨a, b⟩, c⟩, d⟩, e⟩, f⟩ := h
  exact ⟨a, b, c, d, e, f⟩
theorem fillsL_nil {tile free laid : List Int} (h : fillsL tile [] free laid = true) : free.length ≤ 1000 ∧ laid.length ≤ 1000 ∧ sld free laid = ([], laid) ∧ sld laid free = (laid, []) := by
  simp only [fillsL, Bool.and_eq_true, decide_eq_true_eq] at h
  obtain ⟨⟨⟨a, b⟩, c⟩, d⟩ := h
  exact ⟨a, b, c, d⟩
theorem fillsL_cons {tile ps free laid₀ : List Int} {p : Int} (h : fillsL tile (p :: ps) free laid₀ = true) : free.length ≤ 1000 ∧ (ps.flatMap fun place => tile.map fun mark => place + mark).length < 64 ∧
    sld free (thr 0 (tile.map fun mark => p + mark)) = (thr (lastI (thr 0 (tile.map fun mark => p + mark))) (srtF (ps.flatMap fun place => tile.map fun mark => place + mark)), []) ∧ fillsL tile ps (sld free (thr 0 (tile.map fun mark => p + mark))).1 (thr 0 (tile.map fun mark => p + mark)) = true := by
  simp only [fillsL, Bool.and_eq_true, decide_eq_true_eq] at h
  obtain ⟨⟨⟨a, b⟩, c⟩, d⟩ := h
  exact ⟨a, b, c, d⟩
theorem thr_ne {k : Int} {ns : List Int} (h : ns ≠ []) : thr k ns ≠ [] := by
  cases ns with
  | nil => exact absurd rfl h
  | cons n r =>
    simp only [thr]
    split <;> simp
def flJ (A₁ : Around) (base : Heap) (outer₁ : List Env) (g₀ : Heap) (ta pa : Addr) (tile places : List Int) (n : Nat) (a : Int) (g : Heap) (m : Str → Option Value) (nx : List (Addr × Obj)) : Prop :=
  ∃ fl fus fn free ll lus ln laid o1 o2 o3 v3, nx = [(ll, listOf (List.toArray lus) ln), (fl, listOf (List.toArray fus) fn), (g₀.objs.size + 1 + 1 + 1, o3), (g₀.objs.size + 1 + 1, o2), (g₀.objs.size + 1, o1)] ∧ Below A₁ base outer₁ g ∧ KtsTurn (outer₁.filterMap (·.frame)) g₀ g ∧
    m (Str.ofString "free") = some (.ref fl) ∧ m (Str.ofString "laid") = some (.ref ll) ∧ o1.data = .cell (some (.ref ta)) ∧ o2.data = .cell (some (.ref pa)) ∧ o3.data = .cell v3 ∧ IntsAre fus free ∧ IntsAre lus laid ∧ 0 ≤ a ∧ a + n = places.length ∧
    fillsL tile (places.drop a.toNat) free laid = true ∧ @Ne Nat fl (g₀.objs.size + 1 + 1 + 1) ∧ @Ne Nat ll (g₀.objs.size + 1 + 1 + 1)
theorem cells3_pack {g h : Heap} {o1 o2 o3 : Obj} {m : Str → Option Value} {v1 v2 v3 : Option Value} {x : Str} {v : Value} (N : News g g.objs.size h [(g.objs.size + 1 + 1 + 1, o3), (g.objs.size + 1 + 1, o2), (g.objs.size + 1, o1)]) (F : Fr g g.objs.size h m)
    (d1 : o1.data = .cell v1) (d2 : o2.data = .cell v2) (d3 : o3.data = .cell v3) (e : m x = some v) : ∃ m' o1 o2 o3, Fr g g.objs.size h m' ∧ News g g.objs.size h [(g.objs.size + 1 + 1 + 1, o3), (g.objs.size + 1 + 1, o2), (g.objs.size + 1, o1)] ∧ o1.data = .cell v1 ∧ o2.data = .cell v2 ∧ o3.data = .cell v3 ∧ m' x = some v := ⟨_, _, _, _, F, N, d1, d2, d3, e⟩
theorem fills_ok {w : World} {loose : List Str} {mean : ExcName → Option Value} {mg mb : Str → Option Value} {dp un : Nat} {gd : Option (List Code)} {cn : Str} {cs : Scope} {a : Addr} {ccd : Value} {cl : List (Str × Addr)} {outer : List Env} {A₀ : Around} {base h₀ : Heap} {L : Addr} {m : Str → Option Value} {s : Shared}
    {Q E : Value → Shared → Prop} (B : Below A₀ base outer h₀) (F : Fr h₀ L s.heap m) (XB : (hd.heap_39 w.params).In base) (TB : Top hd.view_39 loose mean mg mb base) (hk : cs.kind = .function)
    {ta pa : Addr} {tile places : List Int} {wide : Int} {tw : Tok} (ht : LI s.heap ta tile) (hp : LI s.heap pa places) (hs : fillsF tile places wide = true) (hd' : dp + 3 < recursionLimit) (hu : un + 200 < cLine)
    (ret : ∀ h' tk', Turned (L :: outer.filterMap (·.frame)) s.heap h' → Q (.bool true) { s with heap := h', toks := tk' }) :
    wpAny (model Challenge.rw_tv0004_01.row.prog w) (ktrTop dp un gd cn cs L a ccd cl outer) (call (.ref 59) [.ref ta, .ref pa, .int wide tw]) Q E s := by
  have X := XB.keeps B.stays
  have T := TB.keeps B.stays
  refine wpAny_call ?_
  k_dflt (refine' enter_cells B F X T ?kA ?kF ?kK ?k6 ?k7 ?k8 ?k9 ?kB ?kD ?_ ?c2 ?c3 ?c4; (case kA => exact rfl); (case kF => exact rfl); (case kK => exact hk); (case k6 => k_is); (case k7 => k_is); (case k8 => ktr_room); (case k9 => exact BindsTo.of_eq rfl); (case kB => exact rfl); (case kD => decide +kernel); (case c2 => exact rfl); (case c3 => exact rfl); (case c4 => exact rfl); k_whole; intro h' tk' cells' F' N' Y' B' X' T'; k_cells Y'; (try simp only [List.cons_append, List.nil_append] at N'); (try dsimp only); (try k_fold))
  clear B F X T
  obtain ⟨hne, hl9, hp6, hw0, hw1, hL⟩ := fillsF_of hs
  rename Fr _ _ _ _ => F0
  rename News _ _ _ _ => N0
  obtain ⟨m₀, o1, o2, o3, F1, N1, d1, d2, d3, hmw⟩ := cells3_pack (v1 := some (.ref ta)) (v2 := some (.ref pa)) (v3 := none) N0 F0 (by assumption) (by assumption) (by assumption) (x := Str.ofString "wide") (v := .int wide tw) rfl
  clear F0 N0
  repeat' ((fail_if_success (with_reducible show wpAny _ _ (call (Value.type _) _) _ _ _)); first | walk1 | (dsimp only; walk1))
  refine range1_rows F1 N1 (fun h3 tk3 t₁ u₁ v₁ hr F4 N4 hx4 => ?_)
  clear F1 N1
  repeat' ((fail_if_success (with_reducible show wpAny _ _ (call (Value.type _) _) _ _ _)); first | walk1 | (dsimp only; walk1))
  refine list_rng rfl F4 N4 hr (by decide) (by decide) hw0 (by omega) (fun rl rus rn h5 tk5 F5 N5 l5 hI5 => ?_)
  clear F4 N4 hr hx4
  k_lt l5
  rw [show wide - 0 = wide by omega] at hI5
  repeat' ((fail_if_success (with_reducible show wpAny _ _ (call (Value.ref _) _) _ _ _)); first | walk1 | (dsimp only; walk1))
  refine thrice_ok B' F5 X' T' rfl (li_of (N5 _ (.head _)).1 hI5) (by rw [rangeKs_length]; omega) (by dsimp only [ktrTop]; omega) (by dsimp only [ktrTop]; omega) ?_
  intro fl fus fn h6 tk6 hE6 hr6 hro6 hI6
  have F7 := F5.keeps hE6
  have N7 : News s.heap s.heap.objs.size h6 ((fl, listOf fus.toArray fn) :: [(s.heap.objs.size + 1 + 1 + 1, o3), (s.heap.objs.size + 1 + 1, o2), (s.heap.objs.size + 1, o1)]) := newsAdd F5 (fun p hp => N5 p (.tail _ hp)) hE6 hr6 hro6
  clear F5 N5
  have y1 := noCell N7 (c := s.heap.objs.size + 1 + 1 + 1) (o := o3) (by k_mem) d3 (b := fl) (by k_mem) rfl
  repeat' ((fail_if_success (with_reducible show wpAny _ _ (exec (Stmt.For _ _ _ _ _) _) _ _ _)); first | walk1 | (dsimp only; walk1))
  refine wpAny_For ?_
  rename Fr _ _ _ _ => F8
  rename News _ _ _ _ => N8
  rename Addr => ll
  rename Heap => hX
  obtain ⟨m1, F9, hmf, hml⟩ : ∃ m1, Fr s.heap s.heap.objs.size hX m1 ∧ m1 (Str.ofString "free") = some (.ref fl) ∧ m1 (Str.ofString "laid") = some (.ref ll) := ⟨_, F8, (if_neg (by decide)).trans (if_pos rfl), if_pos rfl⟩
  have y2 := noCell N8 (c := s.heap.objs.size + 1 + 1 + 1) (o := o3) (by k_mem) d3 (b := ll) (by k_mem) rfl
  clear F8
  repeat' ((fail_if_success (with_reducible show wpAny _ _ (call (Value.builtin _) _) _ _ _)); first | walk1 | (dsimp only; walk1))
  refine len_LI (hp.ext F9.keep) (by omega) ?_
  repeat' ((fail_if_success (with_reducible show wpAny _ _ (call (Value.type _) _) _ _ _)); first | walk1 | (dsimp only; walk1))
  refine range1_rows F9 N8 (fun h7 tk7 t₁ u₁ v₁ hr F7 N7 hx7 => ?_)
  clear F9 N8
  refine wpAny_pyIter_range hr (small_one (by decide) (by decide) (by omega) (by omega)) ?_
  have hLI : s.heap.objs.size < h7.objs.size := F7.ns.lt
  refine rng_loop (n₀ := places.length) (a₀ := 0) (g₀ := s.heap) (m₀ := m1) rfl (flJ (ktrTop dp un gd cn cs L a ccd cl outer) base (envX cn cs L a ccd cl :: outer) s.heap ta pa tile places) (F7.keeps fun b o e => Heap.get?_push_of_some _ e) (newsExt N7 fun b o e => Heap.get?_push_of_some _ e) ?_ ?_ (Nat.ne_of_gt hLI) (fun p hp => Nat.ne_of_lt (Heap.lt_size (N7 p hp).1))
    ⟨fl, fus, fn, _, ll, [], 0, [], o1, o2, o3, _, rfl, B', KtsTurn.refl, hmf, hml, d1, d2, d3, hI6, .nil, Int.le_refl _, by omega, hL, y1, y2⟩ ?_ ?_
  · rw [rangeSize_one]
    have : (if (0 : Int) < (places.length : Int) then (places.length : Int) - 0 else 0) = (places.length : Int) := by split <;> omega
    rw [this]
    exact Heap.get?_push_size _ rfl
  · cases q : s.heap.get? h7.objs.size with
    | none => rfl
    | some o => exact absurd (Nat.lt_trans (Heap.lt_size q) hLI) (Nat.lt_irrefl _)
  · clear F7 N7 hr hx7 hLI hI6 hL d1 d2 d3 hmf hml hmw hE6 hr6 hro6 y1 y2
    rintro n ai g m2 nx h tk t oI ⟨fl, fus, fn, free, ll, lus, ln, laid₀, o1, o2, o3, v3, rfl, Bg, Tg, hmf, hml, d1, d2, d3, hfi, hli, ha0, han, hfl, q1, q2⟩ F1 N1 hnI
    change Fr g s.heap.objs.size h m2 at F1
    change News g s.heap.objs.size h ((h7.objs.size, oI) :: [(ll, listOf lus.toArray ln), (fl, listOf fus.toArray fn), (s.heap.objs.size + 1 + 1 + 1, o3), (s.heap.objs.size + 1 + 1, o2), (s.heap.objs.size + 1, o1)]) at N1
    have i1 : @Ne Nat h7.objs.size (s.heap.objs.size + 1) := fun e => hnI (s.heap.objs.size + 1, o1) (by k_mem) e.symm
    have i2 : @Ne Nat h7.objs.size (s.heap.objs.size + 1 + 1) := fun e => hnI (s.heap.objs.size + 1 + 1, o2) (by k_mem) e.symm
    have i3 : @Ne Nat h7.objs.size (s.heap.objs.size + 1 + 1 + 1) := fun e => hnI (s.heap.objs.size + 1 + 1 + 1, o3) (by k_mem) e.symm
    have i4 : ll ≠ h7.objs.size := hnI (ll, listOf lus.toArray ln) (by k_mem)
    clear hnI
    generalize h7.objs.size = I at *
    have hlt : ai.toNat < places.length := by omega
    have hdp : places.drop ai.toNat = places[ai.toNat] :: places.drop (ai.toNat + 1) := List.drop_eq_getElem_cons hlt
    have hpi : places[ai.toNat]? = some places[ai.toNat] := by simp [hlt]
    generalize places[ai.toNat] = p at hdp hpi
    rw [hdp] at hfl
    obtain ⟨hl0, hl64, hsl, hnext⟩ := fillsL_cons hfl
    have X1 := XB.keeps Bg.stays
    have T1 := TB.keeps Bg.stays
    clear X' T' B'
    repeat' ((fail_if_success (with_reducible show wpAny _ _ (eval (Expr.ListComp _ _ _ _) _) _ _ _)); first | walk1 | (dsimp only; walk1))
    rename Fr _ _ _ _ => F2
    rename News _ _ _ _ => N2
    rename Obj => o3'
    have d3' : o3'.data = .cell (some (.int ai t)) := by assumption
    obtain ⟨pus, hpl, hpi2⟩ := id (hp.turn Tg)
    refine lc_eval (fun _ => true) (fun x => p + x) (by with_unfolding_all rfl) (by decide) rfl (by decide) rfl ?_
    walk1
    refine ⟨tile, _, srcOk_LI rfl ((ht.turn Tg).ext F2.keep), by rw [sizeLine_eq]; omega, ?_, ?_, ?_⟩
    · intro C s₃ m₃ a t E' ha hn hm hx hg
      exact tests0 ⟨rfl, keeps_self⟩
    · intro C s₃ m₃ a t E' ha hp hn hm hx
      have c1 := hx _ _ (N2 (s.heap.objs.size + 1 + 1, o2) (by k_mem)).1
      have c2 := hx _ _ (N2 (s.heap.objs.size + 1 + 1 + 1, o3') (by k_mem)).1
      obtain ⟨t0, hf0⟩ := hpi2.get ai.toNat p hpi
      repeat' ((fail_if_success (with_reducible show wpAny _ _ (eval (Expr.Name _ _) _) _ _ _)); first | walk1 | (dsimp only; walk1))
      refine cvC rfl c1 d2 (cvC rfl c2 d3' ?_)
      refine sub_in (us := pus) (isList_ext hpl fun b o e => hx b o (F2.keep b o e)) ha0 (by omega) hf0 (cvL hn hm ?_)
      refine add_int ⟨⟨_, rfl⟩, keeps_self⟩
    intro D us n4 h4 tk4 hE4 hD4 hDo4 hI4
    rw [List.filter_eq_self.mpr (fun _ _ => rfl)] at hI4
    have F5 := F2.keeps hE4
    have N5 := newsAdd F2 N2 hE4 hD4 hDo4
    clear F2 N2
    generalize htm : (tile.map fun mark => p + mark) = tm at *
    have htl : tm.length ≤ 9 := by rw [← htm, List.length_map]; exact hl9
    have htn : tm ≠ [] := by rw [← htm]; simpa using hne
    repeat' ((fail_if_success (with_reducible show wpAny _ _ (call (Value.ref _) _) _ _ _)); first | walk1 | (dsimp only; walk1))
    refine thrice_ok Bg F5 X1 T1 rfl (li_of (N5 _ (.head _)).1 hI4) (by omega) (by dsimp only [ktrTop]; omega) (by dsimp only [ktrTop]; omega) ?_
    intro la lus' ln' h6 tk6 hE6 hr6 hro6 hI6
    have F7 := F5.keeps hE6
    have N7 : News g s.heap.objs.size h6 [(la, listOf lus'.toArray ln'), (I, oI), (fl, listOf fus.toArray fn), (s.heap.objs.size + 1 + 1 + 1, o3'), (s.heap.objs.size + 1 + 1, o2), (s.heap.objs.size + 1, o1)] := pk (newsAdd F5 N5 hE6 hr6 hro6) (by k_mem) (pk (newsAdd F5 N5 hE6 hr6 hro6) (by k_mem) (pk (newsAdd F5 N5 hE6 hr6 hro6) (by k_mem) (pk (newsAdd F5 N5 hE6 hr6 hro6) (by k_mem) (pk (newsAdd F5 N5 hE6 hr6 hro6) (by k_mem) (pk (newsAdd F5 N5 hE6 hr6 hro6) (by k_mem) News.nil)))))
    have laI : la ≠ I := fun e => by
      have := (N5 (I, oI) (by k_mem)).1
      rw [e] at hr6
      rw [hr6] at this; cases this
    clear F5 N5
    have hlal := thr_len 0 tm
    have hlan := thr_ne (k := 0) htn
    generalize hlaid : thr 0 tm = laid at *
    repeat' ((fail_if_success (with_reducible show wpAny _ _ (eval (Expr.ListComp _ _ _ _) _) _ _ _)); first | walk1 | (dsimp only; walk1))
    rename Fr _ _ _ _ => F8
    rename News _ _ _ _ => N8
    rename Heap => hY
    obtain ⟨m3, F9, hmf3, hml3⟩ : ∃ m3, Fr g s.heap.objs.size hY m3 ∧ m3 (Str.ofString "free") = some (.ref fl) ∧ m3 (Str.ofString "laid") = some (.ref la) := ⟨_, F8, (if_neg (by decide)).trans hmf, if_pos rfl⟩
    clear F8
    refine lc2_eval (fun place mark => place + mark) (by with_unfolding_all rfl) (by decide) rfl (by decide) rfl rfl (by decide) ?_
    repeat' ((fail_if_success (with_reducible show wpAny _ _ (subscriptTail _ (Expr.Slice _ _ _ _) _ _) _ _ _)); first | walk1 | (dsimp only; walk1))
    refine kmk_slice_ints F9 N8 (isList_base F9 hpl) (IsPart.int _ _) IsPart.none hpi2 (kmk_from hpi2 (by omega)) (List.length_drop ..) (fun D5 ws5 h9 F10 N10 l5 hi5 _ _ => ?_) (by with_unfolding_all rfl) (by kmk_pure) (kmk_sz hpi2 (by rw [sizeLine_eq]; omega))
    clear F9 N8
    rw [show (ai + 1).toNat = ai.toNat + 1 by omega] at hi5
    have hpd : (places.drop (ai.toNat + 1)).length ≤ 6 := by rw [List.length_drop]; omega
    generalize hps : places.drop (ai.toNat + 1) = ps at *
    refine ⟨ps, _, tile, srcOk_LI rfl (li_of (N10 _ (.head _)).1 hi5), by rw [sizeLine_eq]; exact Nat.le_trans (Nat.mul_le_mul hpd hl9) (by decide), ?_, ?_, ?_⟩
    · intro C s₃ m₃ a t ha hn hm hx
      have c1 := hx _ _ (N10 (s.heap.objs.size + 1, o1) (by k_mem)).1
      obtain ⟨tus, htl', hti⟩ := id (ht.turn Tg)
      refine cvC rfl c1 d1 ⟨keeps_self, _, srcOk_list rfl (isList_ext (isList_base F10 htl') hx) hti, fun b hb => ?_⟩
      obtain ⟨ob, hob, _⟩ := isList_base F10 htl'
      rw [hb]
      exact Option.isSome_iff_exists.mpr ⟨ob, hob⟩
    · intro C s₃ m₃ a b t t' ha hb hn hm hm' hx
      repeat' ((fail_if_success (with_reducible show wpAny _ _ (eval (Expr.Name _ _) _) _ _ _)); first | walk1 | (dsimp only; walk1))
      exact cvL hn hm (cvL hn hm' (add_int ⟨⟨_, rfl⟩, keeps_self⟩))
    intro D6 us6 n6 h11 tk11 hE11 hD11 hDo11 hI11
    have F12 := F10.keeps hE11
    have N12 := newsAdd F10 N10 hE11 hD11 hDo11
    clear F10 N10 l5
    repeat' ((fail_if_success (with_reducible show wpAny _ _ (call (Value.builtin _) _) _ _ _)); first | walk1 | (dsimp only; walk1))
    refine kso_sorted F12 N12 ⟨_, (N12 _ (.head _)).1, rfl, _, rfl⟩ hI11 hl64 (fun D7 us7 srt n7 h13 F13 N13 l13 hI13 _ hpm hpw _ => ?_)
    obtain rfl := srtF_eq hpm hpw
    replace N13 : News g s.heap.objs.size h13 [(D7, listOf us7.toArray n7), (la, listOf lus'.toArray ln'), (I, oI), (fl, listOf fus.toArray fn), (s.heap.objs.size + 1 + 1 + 1, o3'), (s.heap.objs.size + 1 + 1, o2), (s.heap.objs.size + 1, o1)] := pk N13 (by k_mem) (pk N13 (by k_mem) (pk N13 (by k_mem) (pk N13 (by k_mem) (pk N13 (by k_mem) (pk N13 (by k_mem) (pk N13 (by k_mem) News.nil))))))
    clear F12 N12 l13 hpm hpw
    have hsl7 : (srtF (ps.flatMap fun place => tile.map fun mark => place + mark)).length < 64 := by rw [(srtF_perm _).length_eq]; exact hl64
    generalize hlater : srtF (ps.flatMap fun place => tile.map fun mark => place + mark) = later at *
    repeat' ((fail_if_success (with_reducible show wpAny _ _ (call (Value.ref _) _) _ _ _)); first | walk1 | (dsimp only; walk1))
    rename Fr _ _ _ _ => F14
    rename News _ _ _ _ => N14
    rename Heap => hZ
    obtain ⟨m5, F15, hmf5, hml5, hmt5⟩ : ∃ m5, Fr g s.heap.objs.size hZ m5 ∧ m5 (Str.ofString "free") = some (.ref fl) ∧ m5 (Str.ofString "laid") = some (.ref la) ∧ m5 (Str.ofString "later") = some (.ref D7) := ⟨_, F14, (if_neg (by decide)).trans hmf3, (if_neg (by decide)).trans hml3, if_pos rfl⟩
    clear F14
    refine sld_ok Bg F15 XB TB rfl (li_of (N14 (fl, listOf fus.toArray fn) (by k_mem)).1 hfi) (li_of (N14 (la, listOf lus'.toArray ln') (by k_mem)).1 hI6) (by omega) (by omega) (by dsimp only [ktrTop]; omega) (by dsimp only [ktrTop]; omega) ?_
    intro r16 mA uA us16 vs16 k1 k2 h16 tk16 hT16 e1 e2 e3 e4 e5 e6 g1 g2 g3 j1 j2
    obtain ⟨g', T16, F17, N17, B17⟩ := turn_back Bg F15 N14 hT16
    replace N17 := turn_add T16 F15 e1 g1 (turn_add T16 F15 e2 g2 (turn_add T16 F15 e3 g3 N17))
    have hmI : mA ≠ I := fun e => by
      have := (N14 (I, oI) (by k_mem)).1
      rw [e] at e2
      rw [e2] at this; cases this
    have Tg' := Tg.trans T16
    clear F15 N14 X1 T1
    have X1 := XB.keeps B17.stays
    have T1 := TB.keeps B17.stays
    rw [hsl] at j1 j2 hnext
    obtain ⟨tl9, hlast9⟩ : ∃ t, lus'[lus'.length - 1]? = some (.int (lastI laid) t) := last_get hI6 hlan
    repeat' ((fail_if_success (with_reducible show wpAny _ _ (subscriptTail _ (Expr.UnaryOp _ _ _) _ _) _ _ _)); first | walk1 | (dsimp only; walk1))
    rename Fr _ _ _ _ => F18
    rename News _ _ _ _ => N18
    refine sub_last (us := lus') ⟨_, (N18 (la, listOf lus'.toArray ln') (by k_mem)).1, rfl, _, rfl⟩ hlast9 ?_
    repeat' ((fail_if_success (with_reducible show wpAny _ _ (call (Value.ref _) _) _ _ _)); first | walk1 | (dsimp only; walk1))
    refine thrice_ok B17 F18 X1 T1 rfl (li_of (N18 (D7, listOf us7.toArray n7) (by k_mem)).1 hI13) (by omega) (by dsimp only [ktrTop]; omega) (by dsimp only [ktrTop]; omega) ?_
    intro r19 us19 n19 h19 tk19 hE19 hr19 hro19 hI19
    have F20 := F18.keeps hE19
    have N20 := newsAdd F18 N18 hE19 hr19 hro19
    clear F18 N18
    repeat' ((fail_if_success (with_reducible show wpAny _ _ (compareOp _ _ _) _ _ _)); first | walk1 | (dsimp only; walk1))
    rename Fr _ _ _ _ => F21
    rename News _ _ _ _ => N21
    refine ne_pair (N21 (r16, pairOf mA uA) (by k_mem)).1 rfl rfl (N21 _ (.head _)).1 rfl rfl (li_of (N21 (mA, listOf us16.toArray k1) (by k_mem)).1 j1) (li_of (N21 (uA, listOf vs16.toArray k2) (by k_mem)).1 j2) (li_of (N21 (r19, listOf us19.toArray n19) (by k_mem)).1 hI19) (li_of (us := []) (N21 _ (.tail _ (.head _))).1 .nil) (by units_room) ?_
    refine wpAny_truthy_bool ?_
    rw [if_neg (by rw [decide_eq_true rfl]; decide)]
    have z1 := noCell N21 (c := s.heap.objs.size + 1 + 1 + 1) (o := o3') (by k_mem) d3' (b := mA) (by k_mem) rfl
    have z2 := noCell N21 (c := s.heap.objs.size + 1 + 1 + 1) (o := o3') (by k_mem) d3' (b := la) (by k_mem) rfl
    repeat' ((fail_if_success (with_reducible show ∃ _, _)); first | walk1 | (dsimp only; walk1))
    rename Fr _ _ _ _ => F22
    rename News _ _ _ _ => N22
    refine ⟨g', _, [(la, listOf lus'.toArray ln'), (mA, listOf us16.toArray k1), (s.heap.objs.size + 1 + 1 + 1, o3'), (s.heap.objs.size + 1 + 1, o2), (s.heap.objs.size + 1, o1)], _, _, rfl, F22, pk N22 (by k_mem) (pk N22 (by k_mem) (pk N22 (by k_mem) (pk N22 (by k_mem) (pk N22 (by k_mem) (pk N22 (by k_mem) News.nil))))), fun p hp => ?_, mA, us16, k1, _, la, lus', ln', laid, o1, o2, o3', _, rfl, B17, Tg', if_pos rfl, (if_neg (by decide)).trans ((if_neg (by decide)).trans hml5), d1, d2, d3', j1, hI6, by omega, by omega, ?_, z1, z2⟩
    · simp only [List.mem_cons, List.not_mem_nil, or_false] at hp
      rcases hp with h | h | h | h | h
      · rw [h]; exact laI
      · rw [h]; exact hmI
      · rw [h]; exact fun e => i3 e.symm
      · rw [h]; exact fun e => i2 e.symm
      · rw [h]; exact fun e => i1 e.symm
    · rw [show (ai + 1).toNat = ai.toNat + 1 by omega, hps]
      exact hnext
  · rintro ai g m2 nx h tk ⟨fl, fus, fn, free, ll, lus, ln, laid, o1, o2, o3, v3, rfl, Bg, Tg, hmf, hml, d1, d2, d3, hfi, hli, ha0, han, hfl, q1, q2⟩ F1 N1
    change Fr g s.heap.objs.size h m2 at F1
    change News g s.heap.objs.size h _ at N1
    rw [show ai.toNat = places.length by omega, List.drop_length] at hfl
    obtain ⟨hl0, hl1, hs1, hs2⟩ := fillsL_nil hfl
    have X1 := XB.keeps Bg.stays
    have T1 := TB.keeps Bg.stays
    clear X' T' B'
    dsimp only
    repeat' ((fail_if_success (with_reducible show wpAny _ _ (call (Value.ref _) _) _ _ _)); first | walk1 | (dsimp only; walk1))
    refine sld_ok Bg F1 XB TB rfl (li_of (N1 (fl, listOf fus.toArray fn) (by k_mem)).1 hfi) (li_of (N1 (ll, listOf lus.toArray ln) (by k_mem)).1 hli) (by omega) (by omega) (by dsimp only [ktrTop]; omega) (by dsimp only [ktrTop]; omega) ?_
    intro r11 mA uA us11 vs11 k1 k2 h11 tk11 hT11 e1 e2 e3 e4 e5 e6 g1 g2 g3 j1 j2
    obtain ⟨g', T11, F12, N12, B12⟩ := turn_back Bg F1 N1 hT11
    replace N12 := turn_add T11 F1 e1 g1 (turn_add T11 F1 e2 g2 (turn_add T11 F1 e3 g3 N12))
    clear F1 N1 X1 T1
    have X1 := XB.keeps B12.stays
    have T1 := TB.keeps B12.stays
    repeat' ((fail_if_success (with_reducible show wpAny _ _ (compareOp _ _ _) _ _ _)); first | walk1 | (dsimp only; walk1))
    rename Fr _ _ _ _ => F13
    rename News _ _ _ _ => N13
    refine eq_pair (N13 (r11, pairOf mA uA) (by k_mem)).1 rfl rfl (N13 _ (.head _)).1 rfl rfl (li_of (N13 (mA, listOf us11.toArray k1) (by k_mem)).1 j1) (li_of (N13 (uA, listOf vs11.toArray k2) (by k_mem)).1 j2) (li_of (us := []) (N13 _ (.tail _ (.head _))).1 .nil) (li_of (N13 (ll, listOf lus.toArray ln) (by k_mem)).1 hli) (by units_room) ?_
    rw [hs1, decide_eq_true rfl]
    repeat' ((fail_if_success (with_reducible show wpAny _ _ (call (Value.ref _) _) _ _ _)); first | walk1 | (dsimp only; walk1))
    refine sld_ok B12 F13 XB TB rfl (li_of (N13 (ll, listOf lus.toArray ln) (by k_mem)).1 hli) (li_of (N13 (fl, listOf fus.toArray fn) (by k_mem)).1 hfi) (by omega) (by omega) (by dsimp only [ktrTop]; omega) (by dsimp only [ktrTop]; omega) ?_
    intro r14 mB uB us14 vs14 k3 k4 h14 tk14 hT14 e1' e2' e3' e4' e5' e6' g1' g2' g3' j1' j2'
    obtain ⟨g3, T14, F15, N15, B15⟩ := turn_back B12 F13 N13 hT14
    replace N15 : News g3 s.heap.objs.size h14 [(r14, pairOf mB uB), (mB, listOf us14.toArray k3), (uB, listOf vs14.toArray k4), (ll, listOf lus.toArray ln), (fl, listOf fus.toArray fn)] := turn_add T14 F13 e1' g1' (turn_add T14 F13 e2' g2' (turn_add T14 F13 e3' g3' (pk N15 (by k_mem) (pk N15 (by k_mem) News.nil))))
    clear F13 N13 X1 T1
    repeat' ((fail_if_success (with_reducible show wpAny _ _ (compareOp _ _ _) _ _ _)); first | walk1 | (dsimp only; walk1))
    rename Fr _ _ _ _ => F16
    rename News _ _ _ _ => N16
    refine eq_pair (N16 (r14, pairOf mB uB) (by k_mem)).1 rfl rfl (N16 _ (.head _)).1 rfl rfl (li_of (N16 (mB, listOf us14.toArray k3) (by k_mem)).1 j1') (li_of (N16 (uB, listOf vs14.toArray k4) (by k_mem)).1 j2') (li_of (N16 (ll, listOf lus.toArray ln) (by k_mem)).1 hli) (li_of (us := []) (N16 _ (.tail _ (.head _))).1 .nil) (by units_room) ?_
    rw [hs2, decide_eq_true rfl]
    exact ret _ _ (turned_of_turn ((Tg.trans T11).trans T14) F16.keep)

/-- the row, by near, far, third, kind -/
def rowF (near far third : Int) : Nat → List Int
  | 0 => [near, far, near, 127, 3]
  | 1 => [near, near, far, near, near]
  | 2 => [near, far, near, far, near]
  | 3 => [near, far, 0, 5]
  | 4 => [near, 0, far, 127]
  | _ => [near, far, third]
def sizesF (near far third : Int) : Nat → List Int
  | 0 => [near, far, near]
  | 1 => [near, near, far, near, near]
  | 2 => [near, far, near, far, near]
  | 3 => [near, far, far, far, far]
  | 4 => [near, near, near, near, near]
  | _ => [near, far, third]
def lawF (row sizes : List Int) : Bool :=
  let marks := marksF row
  decide (marks = (rangeKs 0 (sizes.length + 1)).map fun count => (sizes.take count.toNat).sum) &&
  decide (marksF ([126, 128] ++ row) = ([0, 126] ++ marks.map fun mark => 254 + mark).take 6) &&
  (match chainF 5 1 [0] marks with
  | none => false
  | some (_, []) => sticksF marks
  | some (wide, places) =>
    decide (places.length ≤ 6) &&
    decide (((rangeKs 0 (places.length - 1)).map fun turn => places.getD (turn + 1).toNat 0 - places.getD turn.toNat 0).head? ≠ some 0) &&
    decide (marksF (((rangeKs 0 (places.length - 1)).map fun turn => places.getD (turn + 1).toNat 0 - places.getD turn.toNat 0) ++ [127, 4]) = places) &&
    fillsF marks places wide && fillsF places marks wide)

def allK (kind : Nat) (near : Int) : Bool := (rangeKs 1 9).all fun far => (rangeKs 1 (if kind = 5 then 4 else 1)).all fun third => lawF (rowF near far third kind) (sizesF near far third kind)
theorem fact_0_1 : allK 0 1 = true := by decide +kernel
theorem fact_0_2 : allK 0 2 = true := by decide +kernel
theorem fact_0_3 : allK 0 3 = true := by decide +kernel
theorem fact_1_1 : allK 1 1 = true := by decide +kernel
theorem fact_1_2 : allK 1 2 = true := by decide +kernel
theorem fact_1_3 : allK 1 3 = true := by decide +kernel
theorem fact_2_1 : allK 2 1 = true := by decide +kernel
theorem fact_2_2 : allK 2 2 = true := by decide +kernel
theorem fact_2_3 : allK 2 3 = true := by decide +kernel
theorem fact_3_1 : allK 3 1 = true := by decide +kernel
theorem fact_3_2 : allK 3 2 = true := by decide +kernel
theorem fact_3_3 : allK 3 3 = true := by decide +kernel
theorem fact_4_1 : allK 4 1 = true := by decide +kernel
theorem fact_4_2 : allK 4 2 = true := by decide +kernel
theorem fact_4_3 : allK 4 3 = true := by decide +kernel
theorem fact_5_1 : allK 5 1 = true := by decide +kernel
theorem fact_5_2 : allK 5 2 = true := by decide +kernel
theorem fact_5_3 : allK 5 3 = true := by decide +kernel

theorem rows_pack {g h : Heap} {L D l l1 l2 l3 l4 l5 l6 l7 c1 c2 c3 : Addr} {X X4 o1 o2 o3 : Obj} {m : Str → Option Value} {n f th : Int} {t1 t2 : Tok} {w1 w2 w3 w5 w6 w7 : List Value}
    (N : News g L h [(D, listOf #[.ref l7, .ref l6, .ref l5, .ref l3, .ref l2, .ref l1] 0), (l, X), (l1, listOf w1.toArray 0), (l2, listOf w2.toArray 0), (l3, listOf w3.toArray 0), (l4, X4), (l5, listOf w5.toArray 0), (l6, listOf w6.toArray 0), (l7, listOf w7.toArray 0), (c3, o3), (c2, o2), (c1, o1)])
    (F : Fr g L h m) (e : m (Str.ofString "rows") = some (.ref D)) (en : m (Str.ofString "near") = some (.int n t1)) (ef : m (Str.ofString "far") = some (.int f t2))
    (i7 : IntsAre w7 (rowF n f th 0)) (i6 : IntsAre w6 (rowF n f th 1)) (i5 : IntsAre w5 (rowF n f th 2)) (i3 : IntsAre w3 (rowF n f th 3)) (i2 : IntsAre w2 (rowF n f th 4)) (i1 : IntsAre w1 (rowF n f th 5)) :
    ∃ m' R a0 a1 a2 a3 a4 a5 w0 w1 w2 w3 w4 w5, Fr g L h m' ∧ News g L h [(R, listOf #[.ref a0, .ref a1, .ref a2, .ref a3, .ref a4, .ref a5] 0), (a0, listOf (List.toArray w0) 0), (a1, listOf (List.toArray w1) 0), (a2, listOf (List.toArray w2) 0), (a3, listOf (List.toArray w3) 0), (a4, listOf (List.toArray w4) 0), (a5, listOf (List.toArray w5) 0), (c3, o3), (c2, o2), (c1, o1)] ∧
      m' (Str.ofString "rows") = some (.ref R) ∧ m' (Str.ofString "near") = some (.int n t1) ∧ m' (Str.ofString "far") = some (.int f t2) ∧ IntsAre w0 (rowF n f th 0) ∧ IntsAre w1 (rowF n f th 1) ∧ IntsAre w2 (rowF n f th 2) ∧ IntsAre w3 (rowF n f th 3) ∧ IntsAre w4 (rowF n f th 4) ∧ IntsAre w5 (rowF n f th 5) :=
  ⟨m, D, l7, l6, l5, l3, l2, l1, w7, w6, w5, w3, w2, w1, F, pk N (by k_mem) (pk N (by k_mem) (pk N (by k_mem) (pk N (by k_mem) (pk N (by k_mem) (pk N (by k_mem) (pk N (by k_mem) (pk N (by k_mem) (pk N (by k_mem) (pk N (by k_mem) News.nil))))))))), e, en, ef, i7, i6, i5, i3, i2, i1⟩
theorem row_head (n f th : Int) : ∀ k : Nat, (rowF n f th k).head? = some n
  | 0 => rfl
  | 1 => rfl
  | 2 => rfl
  | 3 => rfl
  | 4 => rfl
  | _ + 5 => rfl
theorem row_len (n f th : Int) : ∀ k : Nat, (rowF n f th k).length ≤ 5
  | 0 => Nat.le_refl _
  | 1 => Nat.le_refl _
  | 2 => Nat.le_refl _
  | 3 => by show 4 ≤ 5; decide
  | 4 => by show 4 ≤ 5; decide
  | _ + 5 => by show 3 ≤ 5; decide
theorem sizes_len (n f th : Int) : ∀ k : Nat, (sizesF n f th k).length ≤ 5
  | 0 => by show 3 ≤ 5; decide
  | 1 => Nat.le_refl _
  | 2 => Nat.le_refl _
  | 3 => Nat.le_refl _
  | 4 => Nat.le_refl _
  | _ + 5 => by show 3 ≤ 5; decide
theorem pick_pack {g h : Heap} {L R Z S0 a0 a1 a2 a3 a4 a5 b3 b4 l c1 c2 c3 : Addr} {X o1 o2 o3 : Obj} {w0 w1 w2 w3 w4 w5 v3 v4 ws0 : List Value} {n f th : Int} {k : Nat} (hk : k < 6)
    (N : News g L h [(Z, listOf #[.ref S0, .ref a1, .ref a2, .ref b3, .ref b4, .ref a5] 0), (b4, listOf v4.toArray 0), (l, X), (b3, listOf v3.toArray 0), (S0, listOf ws0.toArray 0), (R, listOf #[.ref a0, .ref a1, .ref a2, .ref a3, .ref a4, .ref a5] 0), (a0, listOf w0.toArray 0), (a1, listOf w1.toArray 0), (a2, listOf w2.toArray 0), (a3, listOf w3.toArray 0), (a4, listOf w4.toArray 0), (a5, listOf w5.toArray 0), (c3, o3), (c2, o2), (c1, o1)])
    (i0 : IntsAre w0 (rowF n f th 0)) (i1 : IntsAre w1 (rowF n f th 1)) (i2 : IntsAre w2 (rowF n f th 2)) (i3 : IntsAre w3 (rowF n f th 3)) (i4 : IntsAre w4 (rowF n f th 4)) (i5 : IntsAre w5 (rowF n f th 5))
    (j0 : IntsAre ws0 (sizesF n f th 0)) (j3 : IntsAre v3 (sizesF n f th 3)) (j4 : IntsAre v4 (sizesF n f th 4)) (dZ : o2.data = .cell (some (.ref Z))) :
    ∃ Z S0 b3 b4 ra wr sa wz, o2.data = .cell (some (.ref Z)) ∧ News g L h [(R, listOf #[.ref a0, .ref a1, .ref a2, .ref a3, .ref a4, .ref a5] 0), (Z, listOf #[.ref S0, .ref a1, .ref a2, .ref b3, .ref b4, .ref a5] 0), (ra, listOf (List.toArray wr) 0), (sa, listOf (List.toArray wz) 0), (c3, o3), (c2, o2), (c1, o1)] ∧
      [.ref a0, .ref a1, .ref a2, .ref a3, .ref a4, .ref a5][k]? = some (Value.ref ra) ∧ IntsAre wr (rowF n f th k) ∧ [.ref S0, .ref a1, .ref a2, .ref b3, .ref b4, .ref a5][k]? = some (Value.ref sa) ∧ IntsAre wz (sizesF n f th k) := by
  have sub : ∀ ra wr sa wz, (ra, listOf (List.toArray wr) 0) ∈ [(Z, listOf #[.ref S0, .ref a1, .ref a2, .ref b3, .ref b4, .ref a5] 0), (b4, listOf v4.toArray 0), (l, X), (b3, listOf v3.toArray 0), (S0, listOf ws0.toArray 0), (R, listOf #[.ref a0, .ref a1, .ref a2, .ref a3, .ref a4, .ref a5] 0), (a0, listOf w0.toArray 0), (a1, listOf w1.toArray 0), (a2, listOf w2.toArray 0), (a3, listOf w3.toArray 0), (a4, listOf w4.toArray 0), (a5, listOf w5.toArray 0), (c3, o3), (c2, o2), (c1, o1)] → (sa, listOf (List.toArray wz) 0) ∈ [(Z, listOf #[.ref S0, .ref a1, .ref a2, .ref b3, .ref b4, .ref a5] 0), (b4, listOf v4.toArray 0), (l, X), (b3, listOf v3.toArray 0), (S0, listOf ws0.toArray 0), (R, listOf #[.ref a0, .ref a1, .ref a2, .ref a3, .ref a4, .ref a5] 0), (a0, listOf w0.toArray 0), (a1, listOf w1.toArray 0), (a2, listOf w2.toArray 0), (a3, listOf w3.toArray 0), (a4, listOf w4.toArray 0), (a5, listOf w5.toArray 0), (c3, o3), (c2, o2), (c1, o1)] → News g L h [(R, listOf #[.ref a0, .ref a1, .ref a2, .ref a3, .ref a4, .ref a5] 0), (Z, listOf #[.ref S0, .ref a1, .ref a2, .ref b3, .ref b4, .ref a5] 0), (ra, listOf (List.toArray wr) 0), (sa, listOf (List.toArray wz) 0), (c3, o3), (c2, o2), (c1, o1)] := fun ra wr sa wz m1 m2 p hp => N p (by
    simp only [List.mem_cons, List.not_mem_nil, or_false] at hp
    rcases hp with h | h | h | h | h | h | h
    · rw [h]; k_mem
    · rw [h]; k_mem
    · rw [h]; exact m1
    · rw [h]; exact m2
    · rw [h]; k_mem
    · rw [h]; k_mem
    · rw [h]; k_mem)
  match k, hk with
  | 0, _ => exact ⟨Z, S0, b3, b4, a0, w0, S0, ws0, dZ, sub _ _ _ _ (by k_mem) (by k_mem), rfl, i0, rfl, j0⟩
  | 1, _ => exact ⟨Z, S0, b3, b4, a1, w1, a1, w1, dZ, sub _ _ _ _ (by k_mem) (by k_mem), rfl, i1, rfl, i1⟩
  | 2, _ => exact ⟨Z, S0, b3, b4, a2, w2, a2, w2, dZ, sub _ _ _ _ (by k_mem) (by k_mem), rfl, i2, rfl, i2⟩
  | 3, _ => exact ⟨Z, S0, b3, b4, a3, w3, b3, v3, dZ, sub _ _ _ _ (by k_mem) (by k_mem), rfl, i3, rfl, j3⟩
  | 4, _ => exact ⟨Z, S0, b3, b4, a4, w4, b4, v4, dZ, sub _ _ _ _ (by k_mem) (by k_mem), rfl, i4, rfl, j4⟩
  | 5, _ => exact ⟨Z, S0, b3, b4, a5, w5, a5, w5, dZ, sub _ _ _ _ (by k_mem) (by k_mem), rfl, i5, rfl, i5⟩
theorem lawF_of {row sizes : List Int} (h : lawF row sizes = true) : marksF row = ((rangeKs 0 (sizes.length + 1)).map fun count => (sizes.take count.toNat).sum) ∧ marksF ([126, 128] ++ row) = ([0, 126] ++ (marksF row).map fun mark => 254 + mark).take 6 ∧
    ∃ wide places, chainF 5 1 [0] (marksF row) = some (wide, places) ∧ ((places = [] ∧ sticksF (marksF row) = true) ∨ (places ≠ [] ∧ places.length ≤ 6 ∧ ((rangeKs 0 (places.length - 1)).map fun turn => places.getD (turn + 1).toNat 0 - places.getD turn.toNat 0).head? ≠ some 0 ∧
      marksF (((rangeKs 0 (places.length - 1)).map fun turn => places.getD (turn + 1).toNat 0 - places.getD turn.toNat 0) ++ [127, 4]) = places ∧ fillsF (marksF row) places wide = true ∧ fillsF places (marksF row) wide = true)) := by
  unfold lawF at h
  simp only [Bool.and_eq_true, decide_eq_true_eq] at h
  obtain ⟨⟨h1, h2⟩, h3⟩ := h
  refine ⟨h1, h2, ?_⟩
  cases hc : chainF 5 1 [0] (marksF row) with
  | none => rw [hc] at h3; cases h3
  | some wp =>
    obtain ⟨wide, places⟩ := wp
    rw [hc] at h3
    refine ⟨wide, places, rfl, ?_⟩
    cases places with
    | nil => exact .inl ⟨rfl, h3⟩
    | cons p ps =>
      simp only [Bool.and_eq_true, decide_eq_true_eq] at h3
      obtain ⟨⟨⟨⟨a, b⟩, c⟩, d⟩, e⟩ := h3
      exact .inr ⟨by simp, a, b, c, d, e⟩
theorem marks_len (row : List Int) : (marksF row).length ≤ 6 := by
  have key : ∀ (l : List Int) (a : Int), (sums a l).length = l.length + 1 := by
    intro l
    induction l with
    | nil => intro a; rfl
    | cons x r ih => intro a; simp only [sums, List.length_cons, ih]
  unfold marksF
  rw [key]
  have := giv_len 5 none row
  omega
theorem law_fact {nr fr th : Int} {k : Nat} (bn : 0 ≤ nr ∧ nr < 3) (bf : 0 ≤ fr ∧ fr < 9) (bt : 0 ≤ th ∧ th < 4) (hk : k < 6) : lawF (rowF (1 + nr) (1 + fr) (1 + th) k) (sizesF (1 + nr) (1 + fr) (1 + th) k) = true := by
  have key : ∀ {n : Int}, allK k n = true → lawF (rowF n (1 + fr) (1 + th) k) (sizesF n (1 + fr) (1 + th) k) = true := by
    intro n h
    unfold allK at h
    have h1 := List.all_eq_true.mp h (1 + fr) (List.mem_map.mpr ⟨fr.toNat, List.mem_range.mpr (by omega), by omega⟩)
    by_cases h5 : k = 5
    · subst h5
      exact List.all_eq_true.mp h1 (1 + th) (List.mem_map.mpr ⟨th.toNat, List.mem_range.mpr (by rw [if_pos rfl]; omega), by omega⟩)
    · rw [if_neg h5] at h1
      have h2 := List.all_eq_true.mp h1 1 (List.mem_map.mpr ⟨0, List.mem_range.mpr (by omega), rfl⟩)
      match k, hk, h5 with
      | 0, _, _ => exact h2
      | 1, _, _ => exact h2
      | 2, _, _ => exact h2
      | 3, _, _ => exact h2
      | 4, _, _ => exact h2
      | 5, _, h => exact absurd rfl h
  have hn : nr = 0 ∨ nr = 1 ∨ nr = 2 := by omega
  rcases hn with rfl | rfl | rfl
  · exact key (by match k, hk with | 0, _ => exact fact_0_1 | 1, _ => exact fact_1_1 | 2, _ => exact fact_2_1 | 3, _ => exact fact_3_1 | 4, _ => exact fact_4_1 | 5, _ => exact fact_5_1)
  · exact key (by match k, hk with | 0, _ => exact fact_0_2 | 1, _ => exact fact_1_2 | 2, _ => exact fact_2_2 | 3, _ => exact fact_3_2 | 4, _ => exact fact_4_2 | 5, _ => exact fact_5_2)
  · exact key (by match k, hk with | 0, _ => exact fact_0_3 | 1, _ => exact fact_1_3 | 2, _ => exact fact_2_3 | 3, _ => exact fact_3_3 | 4, _ => exact fact_4_3 | 5, _ => exact fact_5_3)
theorem law_ok : PySem.Challenge.rw_tv0004_01.Holds := hd (by
  k_fill
  intro w s₀ s₁ mg mb G Y fa o pm cd doc dV kV ho hdd hcd hD hmg hg args vals as hpre hlay hrd hwl hlo
  have KX := kIn_of Y
  have X := (Ground.X G).1
  have V := (Ground.X G).2
  refine Ground.open G ?_
  intro T B D TE TW
  obtain ⟨_, _, M⟩ := bmod_of_top T
  have TA := at_of_top T
  clear hmg
  wrow_args hpre hlay hrd hwl hlo
  refine enter_call ?_
  w_top on
  have K0 := below_caller (Top.heap T)
  w_call any ho hdd hcd hD T F
  clear hdd TA
  k_drop
  rename Below _ _ _ _ => K0
  rename World => ww
  rename Shared => s₁
  rename Frag.In _ _ => KX
  rename Top _ _ _ _ _ _ => T
  rename Fr _ _ _ _ => F0
  rename News _ _ _ _ => N0
  rename IntsAre _ _ => hI
  rename Heap.IsList _ _ _ => hL
  obtain ⟨m₀, o1, o2, o3, F1, N1, d1, d2, d3, hms⟩ := cells3_pack (v1 := none) (v2 := none) (v3 := none) N0 F0 (by assumption) (by assumption) (by assumption) (x := Str.ofString "script") rfl
  clear F0 N0
  repeat' ((fail_if_success (with_reducible show wpAny _ _ (call (Value.ref _) _) _ _ _)); first | walk1 | (dsimp only; walk1))
  have hlen : _ := IntsAre.length hI
  refine cells_ok K0 F1 KX T rfl (isList_base F1 hL) hI (by omega) (by decide) (by decide) ?_
  intro r us n h2 tk2 c0 c1 c2 hE2 hr2 hro2 hi2
  have F2 := F1.keeps hE2
  have N2 := newsAdd F1 N1 hE2 hr2 hro2
  clear F1 N1
  repeat' ((fail_if_success (with_reducible show wpAny _ _ (eval (Expr.List _ _) _) _ _ _)); first | walk1 | (dsimp only; walk1))
  rename Fr _ _ _ _ => F3
  rename News _ _ _ _ => N3
  rename Obj => ok
  rename Heap => hX
  obtain ⟨m₁, nr, fr, th, kd, t1, t2, t3, t4, F4, en, ef, et, dk, bn, bf, bt, bk⟩ : ∃ (m₁ : Str → Option Value) (nr fr th kd : Int) (t1 t2 t3 t4 : Tok), Fr s₁.heap s₁.heap.objs.size hX m₁ ∧ m₁ (Str.ofString "near") = some (.int (1 + nr) t1) ∧ m₁ (Str.ofString "far") = some (.int (1 + fr) t2) ∧ m₁ (Str.ofString "third") = some (.int (1 + th) t3) ∧ ok.data = .cell (some (.int kd t4)) ∧ (0 ≤ nr ∧ nr < 3) ∧ (0 ≤ fr ∧ fr < 9) ∧ (0 ≤ th ∧ th < 4) ∧ (0 ≤ kd ∧ kd < 6) :=
    ⟨_, _, _, _, _, _, _, _, _, F3, (if_neg (by decide)).trans ((if_neg (by decide)).trans (if_pos rfl)), (if_neg (by decide)).trans (if_pos rfl), if_pos rfl, by assumption, fmod_b _ (by decide), fmod_b _ (by decide), fmod_b _ (by decide), fmod_b _ (by decide)⟩
  replace N3 : News s₁.heap s₁.heap.objs.size hX [(s₁.heap.objs.size + 1 + 1 + 1, o3), (s₁.heap.objs.size + 1 + 1, o2), (s₁.heap.objs.size + 1, ok)] := fun p hp => N3 p (.tail _ hp)
  clear F3
  repeat' ((fail_if_success (with_reducible show wpAny _ _ (binaryOp _ _ _) _ _ _)); first | walk1 | (dsimp only; walk1))
  repeat' ((fail_if_success (with_reducible show wpAny _ _ (eval (Expr.List _ _) _) _ _ _)); first | walk1 | (dsimp only; walk1))
  rename Fr _ _ _ _ => F5
  rename News _ _ _ _ => N5
  rename Heap => hY
  obtain ⟨m₂, R, a0, a1, a2, a3, a4, a5, w0, w1, w2, w3, w4, w5, F6, N6, er, en6, ef6, z0, z1, z2, z3, z4, z5⟩ := rows_pack N5 F5 (if_pos rfl) ((if_neg (by decide)).trans ((if_neg (by decide)).trans en)) ((if_neg (by decide)).trans ((if_neg (by decide)).trans ef))
    (i7 := .cons _ _ (.cons _ _ (.cons _ _ (.cons _ _ (.cons _ _ .nil))))) (i6 := .cons _ _ (.cons _ _ (.cons _ _ (.cons _ _ (.cons _ _ .nil))))) (i5 := .cons _ _ (.cons _ _ (.cons _ _ (.cons _ _ (.cons _ _ .nil))))) (i3 := .cons _ _ (.cons _ _ (.cons _ _ (.cons _ _ .nil)))) (i2 := .cons _ _ (.cons _ _ (.cons _ _ (.cons _ _ .nil)))) (i1 := .cons _ _ (.cons _ _ (.cons _ _ .nil))) (n := 1 + nr) (f := 1 + fr) (th := 1 + th)
  clear F5 N5 en ef et
  repeat' ((fail_if_success (with_reducible show wpAny _ _ (subscriptTail _ (Expr.Slice _ _ _ _) _ _) _ _ _)); first | walk1 | (dsimp only; walk1))
  have f0 := noCell N6 (c := s₁.heap.objs.size + 1 + 1) (o := o2) (by k_mem) d2 (b := R) (by k_mem) rfl
  have f1 := noCell N6 (c := s₁.heap.objs.size + 1 + 1) (o := o2) (by k_mem) d2 (b := a0) (by k_mem) rfl
  have f2 := noCell N6 (c := s₁.heap.objs.size + 1 + 1) (o := o2) (by k_mem) d2 (b := a1) (by k_mem) rfl
  have f3 := noCell N6 (c := s₁.heap.objs.size + 1 + 1) (o := o2) (by k_mem) d2 (b := a2) (by k_mem) rfl
  have f4 := noCell N6 (c := s₁.heap.objs.size + 1 + 1) (o := o2) (by k_mem) d2 (b := a3) (by k_mem) rfl
  have f5 := noCell N6 (c := s₁.heap.objs.size + 1 + 1) (o := o2) (by k_mem) d2 (b := a4) (by k_mem) rfl
  have f6 := noCell N6 (c := s₁.heap.objs.size + 1 + 1) (o := o2) (by k_mem) d2 (b := a5) (by k_mem) rfl
  refine kba_turn (value' := Expr.Name (Str.ofString "_") ⟨0, 0, 0, 0⟩) (fun _ => rfl) ?_
  refine kmk_slice_ints F6 N6 ⟨_, (N6 (a0, listOf w0.toArray 0) (by k_mem)).1, rfl, _, rfl⟩ IsPart.none (IsPart.int _ _) z0 (kmk_upto z0 (by decide)) rfl (fun S0 ws0 h7 F7 N7 l7 hi7 _ _ => ?_) (by with_unfolding_all rfl) (by kmk_pure) (kmk_sz z0 (by rw [sizeLine_eq]; show (5 : Nat) ≤ _; decide))
  clear F6 N6
  k_lt l7
  repeat' ((fail_if_success (with_reducible show wpAny _ _ (subscriptTail _ (Expr.Name _ _) _ _) _ _ _)); first | walk1 | (dsimp only; walk1))
  rename Fr _ _ _ _ => F8
  rename News _ _ _ _ => N8
  rename Obj => oz
  obtain ⟨k, hk6, rfl⟩ : ∃ k : Nat, k < 6 ∧ kd = (k : Int) := ⟨kd.toNat, by omega, by omega⟩
  obtain ⟨Z, S0, b3, b4, ra, wr, sa, wz, dz, N9, hra, hri, hsa, hsi⟩ := pick_pack (n := 1 + nr) (f := 1 + fr) (th := 1 + th) hk6 N8 z0 z1 z2 z3 z4 z5 hi7 (.cons _ _ (.cons _ _ (.cons _ _ (.cons _ _ (.cons _ _ .nil))))) (.cons _ _ (.cons _ _ (.cons _ _ (.cons _ _ (.cons _ _ .nil))))) (by assumption)
  clear N8 z0 z1 z2 z3 z4 z5 hi7 f0 f1 f2 f3 f4 f5 f6
  refine sub_at (us := [.ref a0, .ref a1, .ref a2, .ref a3, .ref a4, .ref a5]) N9 (.head _) (by omega) (by omega) (by simpa using hra) ?_
  repeat' ((fail_if_success (with_reducible show wpAny _ _ (call (Value.ref _) _) _ _ _)); first | walk1 | (dsimp only; walk1))
  refine marks_ok K0 F8 KX T rfl (li_of (N9 (ra, listOf wr.toArray 0) (by k_mem)).1 hri) (by rw [row_head]; intro e; have := Option.some.inj e; omega) (by decide) (by decide) ?_
  intro rm um nm h10 tk10 G10 hE10 hr10 hro10 hi10 hG10
  have F11 := F8.keeps hE10
  have N11 := newsAdd F8 N9 hE10 hr10 hro10
  clear F8 N9
  have hfact := law_fact (nr := nr) (fr := fr) (th := th) (k := k) bn bf bt hk6
  have hrl := row_len (1 + nr) (1 + fr) (1 + th) k
  have hsl := sizes_len (1 + nr) (1 + fr) (1 + th) k
  have hrh := row_head (1 + nr) (1 + fr) (1 + th) k
  generalize rowF (1 + nr) (1 + fr) (1 + th) k = row at *
  generalize sizesF (1 + nr) (1 + fr) (1 + th) k = sizes at *
  obtain ⟨hm1, hm2, wide, places, hch, hrest⟩ := lawF_of hfact
  have hml : (marksF row).length ≤ 6 := marks_len row
  generalize hmk : marksF row = marks at *
  repeat' ((fail_if_success (with_reducible show wpAny _ _ (eval (Expr.ListComp _ _ _ _) _) _ _ _)); first | walk1 | (dsimp only; walk1))
  refine lc_eval (fun _ => true) (fun count => (sizes.take count.toNat).sum) (by with_unfolding_all rfl) (by decide) rfl (by decide) rfl ?_
  repeat' ((fail_if_success (with_reducible show wpAny _ _ (subscriptTail _ (Expr.Name _ _) _ _) _ _ _)); first | walk1 | (dsimp only; walk1))
  rename Fr _ _ _ _ => F12
  rename News _ _ _ _ => N12
  rename Heap => hZ
  obtain ⟨m5, F13, hrm, her⟩ : ∃ m5, Fr s₁.heap s₁.heap.objs.size hZ m5 ∧ m5 (Str.ofString "marks") = some (.ref rm) ∧ m5 (Str.ofString "rows") = some (.ref R) := ⟨_, F12, if_pos rfl, (if_neg (by decide)).trans er⟩
  clear F12 er
  refine sub_at (us := [.ref S0, .ref a1, .ref a2, .ref b3, .ref b4, .ref a5]) N12 (by k_mem) (by omega) (by omega) (by simpa using hsa) ?_
  repeat' ((fail_if_success (with_reducible show wpAny _ _ (call (Value.builtin _) _) _ _ _)); first | walk1 | (dsimp only; walk1))
  refine len_LI (li_of (N12 (sa, listOf wz.toArray 0) (by k_mem)).1 hsi) (by omega) ?_
  repeat' ((fail_if_success (with_reducible show wpAny _ _ (call (Value.type _) _) _ _ _)); first | walk1 | (dsimp only; walk1))
  refine range1_rows F13 N12 (fun h14 tk14 u1 u2 u3 hr F14 N14 hx14 => ?_)
  clear F13 N12
  refine ⟨rangeKs 0 ((sizes.length : Int) + 1).toNat, _, srcOk_rng0 rfl hr (by omega) (by omega), by rw [rangeKs_length, sizeLine_eq]; omega, ?_, ?_, ?_⟩
  · intro C s₃ m₃ a t E' ha hn hm hx hg
    exact tests0 ⟨rfl, keeps_self⟩
  · intro C s₃ m₃ a t E' ha hp hn hm hx
    have hab := mem_rangeKs ha
    refine builtin_comp KX T (fun b o e => hx b o (F14.keep b o e)) (by k_is) PyProof.Rows.Boot.«sum» (by decide) ?_
    repeat' ((fail_if_success (with_reducible show wpAny _ _ (eval (Expr.Name _ _) _) _ _ _)); first | walk1 | (dsimp only; walk1))
    refine cvC rfl (hx _ _ (N14 (s₁.heap.objs.size + 1 + 1, oz) (by k_mem)).1) dz ?_
    repeat' ((fail_if_success (with_reducible show wpAny _ _ (eval (Expr.Name _ _) _) _ _ _)); first | walk1 | (dsimp only; walk1))
    refine cvC rfl (hx _ _ (N14 (s₁.heap.objs.size + 1, ok) (by k_mem)).1) dk ?_
    refine sub_in (us := [.ref S0, .ref a1, .ref a2, .ref b3, .ref b4, .ref a5]) ⟨_, hx _ _ (N14 (Z, listOf #[.ref S0, .ref a1, .ref a2, .ref b3, .ref b4, .ref a5] 0) (by k_mem)).1, rfl, _, rfl⟩ (by omega) (by omega) (by simpa using hsa) ?_
    repeat' ((fail_if_success (with_reducible show wpAny _ _ (eval (Expr.Name _ _) _) _ _ _)); first | walk1 | (dsimp only; walk1))
    refine cvL hn hm ?_
    repeat' ((fail_if_success (with_reducible show wpAny _ _ (subscriptTail _ (Expr.Slice _ _ _ _) _ _) _ _ _)); first | walk1 | (dsimp only; walk1))
    refine slice_to (us := wz) ⟨_, hx _ _ (N14 (sa, listOf wz.toArray 0) (by k_mem)).1, rfl, _, rfl⟩ hsi (by omega) (by omega) (fun D ws h' hE hD hI => ?_) (by with_unfolding_all rfl)
    refine sum_ext rfl (li_of hD hI) (fun h'' tk'' t'' hE' => ⟨⟨_, rfl⟩, ⟨_, _, rfl, fun b o e => hE' _ _ (hE _ _ e)⟩⟩)
  intro D us n h15 tk15 hE15 hD15 hDo15 hI15
  rw [List.filter_eq_self.mpr (fun _ _ => rfl), show ((sizes.length : Int) + 1).toNat = sizes.length + 1 by omega] at hI15
  have F16 := F14.keeps hE15
  have N16 : News s₁.heap s₁.heap.objs.size h15 [(rm, listOf um.toArray nm), (R, listOf #[.ref a0, .ref a1, .ref a2, .ref a3, .ref a4, .ref a5] 0), (ra, listOf wr.toArray 0), (s₁.heap.objs.size + 1 + 1 + 1, o3), (s₁.heap.objs.size + 1 + 1, oz), (s₁.heap.objs.size + 1, ok)] := pk (newsExt N14 hE15) (by k_mem) (pk (newsExt N14 hE15) (by k_mem) (pk (newsExt N14 hE15) (by k_mem) (pk (newsExt N14 hE15) (by k_mem) (pk (newsExt N14 hE15) (by k_mem) (pk (newsExt N14 hE15) (by k_mem) News.nil)))))
  clear F14 N14 hr hx14
  refine ne_LI (li_of (N16 _ (.head _)).1 hi10) (li_of hDo15 hI15) (by units_room) ?_
  refine wpAny_truthy_bool ?_
  rw [if_neg (by rw [decide_eq_true hm1]; decide)]
  clear hE15 hD15 hDo15 hI15 dz hsi hsa
  repeat' ((fail_if_success (with_reducible show wpAny _ _ (subscriptTail _ (Expr.Name _ _) _ _) _ _ _)); first | walk1 | (dsimp only; walk1))
  rename Fr _ _ _ _ => F17
  rename News _ _ _ _ => N17
  refine sub_at (us := [.ref a0, .ref a1, .ref a2, .ref a3, .ref a4, .ref a5]) N17 (by k_mem) (by omega) (by omega) (by simpa using hra) ?_
  repeat' ((fail_if_success (with_reducible show wpAny _ _ (binaryOp _ _ _) _ _ _)); first | walk1 | (dsimp only; walk1))
  refine kmk_add_ints (vs := [.int 126 _, .int 128 _]) F17 N17 ⟨_, (N17 _ (.head _)).1, rfl, _, rfl⟩ ⟨_, (N17 (ra, listOf wr.toArray 0) (by k_mem)).1, rfl, _, rfl⟩ (.cons _ _ (.cons _ _ .nil)) hri (fun D2 us2 h18 F18 N18 l18 hI18 => ?_) (by rw [sizeLine_eq]; simp only [List.length_cons, List.length_nil]; omega)
  clear F17 N17
  repeat' ((fail_if_success (with_reducible show wpAny _ _ (call (Value.ref _) _) _ _ _)); first | walk1 | (dsimp only; walk1))
  refine marks_ok K0 F18 KX T rfl (li_of (N18 _ (.head _)).1 hI18) (by simp) (by decide) (by decide) ?_
  intro rq uq nq h20 tk20 G20 hE20 hr20 hro20 hi20 hG20
  have F21 := F18.keeps hE20
  have N21 := newsAdd F18 N18 hE20 hr20 hro20
  replace N21 : News s₁.heap s₁.heap.objs.size h20 [(rq, listOf uq.toArray nq), (rm, listOf um.toArray nm), (s₁.heap.objs.size + 1 + 1 + 1, o3), (s₁.heap.objs.size + 1 + 1, oz), (s₁.heap.objs.size + 1, ok)] := pk N21 (by k_mem) (pk N21 (by k_mem) (pk N21 (by k_mem) (pk N21 (by k_mem) (pk N21 (by k_mem) News.nil))))
  clear F18 N18 l18 hri hra
  repeat' ((fail_if_success (with_reducible show wpAny _ _ (eval (Expr.ListComp _ _ _ _) _) _ _ _)); first | walk1 | (dsimp only; walk1))
  rename News _ _ _ _ => N22
  refine lc_eval (fun _ => true) (fun mark => 254 + mark) (by with_unfolding_all rfl) (by decide) rfl (by decide) rfl ?_
  walk1
  refine ⟨marks, _, srcOk_LI rfl (li_of (N22 (rm, listOf um.toArray nm) (by k_mem)).1 hi10), by rw [sizeLine_eq]; omega, ?_, ?_, ?_⟩
  · intro C s₃ m₃ a t E' ha hn hm hx hg
    exact tests0 ⟨rfl, keeps_self⟩
  · intro C s₃ m₃ a t E' ha hp hn hm hx
    repeat' ((fail_if_success (with_reducible show wpAny _ _ (eval (Expr.Name _ _) _) _ _ _)); first | walk1 | (dsimp only; walk1))
    exact cvL hn hm (add_int ⟨⟨_, rfl⟩, keeps_self⟩)
  intro D3 us3 n3 h23 tk23 hE23 hD23 hDo23 hI23
  rw [List.filter_eq_self.mpr (fun _ _ => rfl)] at hI23
  rename Fr _ _ _ _ => F22
  have F24 := F22.keeps hE23
  have N24 := newsAdd F22 N22 hE23 hD23 hDo23
  clear F22 N22
  repeat' ((fail_if_success (with_reducible show wpAny _ _ (binaryOp _ _ _) _ _ _)); first | walk1 | (dsimp only; walk1))
  refine kmk_add_ints (vs := [.int 0 _, .int 126 _]) F24 N24 ⟨_, (N24 _ (.tail _ (.head _))).1, rfl, _, rfl⟩ ⟨_, (N24 _ (.head _)).1, rfl, _, rfl⟩ (.cons _ _ (.cons _ _ .nil)) hI23 (fun D4 us4 h25 F25 N25 l25 hI25 => ?_) (by rw [sizeLine_eq, List.length_map]; simp only [List.length_cons, List.length_nil]; omega)
  clear F24 N24
  repeat' ((fail_if_success (with_reducible show wpAny _ _ (subscriptTail _ (Expr.Slice _ _ _ _) _ _) _ _ _)); first | walk1 | (dsimp only; walk1))
  refine kba_turn (value' := Expr.Name (Str.ofString "_") ⟨0, 0, 0, 0⟩) (fun _ => rfl) ?_
  refine kmk_slice_ints F25 N25 ⟨_, (N25 _ (.head _)).1, rfl, _, rfl⟩ IsPart.none (IsPart.int _ _) hI25 (kmk_upto hI25 (by decide)) rfl (fun D5 us5 h26 F26 N26 l26 hI26 _ _ => ?_) (by with_unfolding_all rfl) (by kmk_pure) (kmk_sz hI25 (by rw [sizeLine_eq, List.length_append, List.length_map]; simp only [List.length_cons, List.length_nil]; omega))
  replace hI26 : IntsAre us5 (([0, 126] ++ marks.map fun mark => 254 + mark).take 6) := hI26
  clear F25 l25 hI25
  repeat' ((fail_if_success (with_reducible show wpAny _ _ (compareOp _ _ _) _ _ _)); first | walk1 | (dsimp only; walk1))
  refine ne_LI (li_of (N26 (rq, listOf uq.toArray nq) (by k_mem)).1 hi20) (li_of (N26 _ (.head _)).1 hI26) (by units_room) ?_
  refine wpAny_truthy_bool ?_
  rw [if_neg (by rw [decide_eq_true hm2]; decide)]
  replace N26 : News s₁.heap s₁.heap.objs.size h26 [(rm, listOf um.toArray nm), (s₁.heap.objs.size + 1 + 1 + 1, o3), (s₁.heap.objs.size + 1 + 1, oz), (s₁.heap.objs.size + 1, ok)] := pk N26 (by k_mem) (pk N26 (by k_mem) (pk N26 (by k_mem) (pk N26 (by k_mem) News.nil)))
  clear N25 l26 hI26 hi20
  repeat' ((fail_if_success (with_reducible show wpAny _ _ (call (Value.ref _) _) _ _ _)); first | walk1 | (dsimp only; walk1))
  refine chain_ok K0 F26 KX T rfl (li_of (N26 _ (.head _)).1 hi10) (by omega) hch (by decide) (by decide) ?_
  intro rc pa up np tc h27 tk27 hE27 hr27 hp27 hne27 hro27 hpo27 hIp
  have F28 := F26.keeps hE27
  have N28 := newsAdd2 F26 N26 hE27 hr27 hro27 hp27 hpo27
  clear F26 N26
  have x1 := noCell N28 (c := s₁.heap.objs.size + 1 + 1 + 1) (o := o3) (by k_mem) d3 (b := rc) (by k_mem) rfl
  have x2 := noCell N28 (c := s₁.heap.objs.size + 1 + 1 + 1) (o := o3) (by k_mem) d3 (b := pa) (by k_mem) rfl
  have x3 := noCell N28 (c := s₁.heap.objs.size + 1 + 1 + 1) (o := o3) (by k_mem) d3 (b := rm) (by k_mem) rfl
  repeat' ((fail_if_success (with_reducible show wpAny _ _ (compareOp _ _ _) _ _ _)); first | walk1 | (dsimp only; walk1))
  rename Fr _ _ _ _ => F29
  rename News _ _ _ _ => N29
  rename Obj => op
  have dp : op.data = .cell (some (.ref pa)) := by assumption
  have hIp : IntsAre up places := hIp
  refine eq_LI (li_of (N29 (pa, listOf up.toArray np) (by k_mem)).1 hIp) (li_of (us := []) (N29 _ (.head _)).1 .nil) (by units_room) ?_
  refine wpAny_truthy_bool ?_
  rcases hrest with ⟨rfl, hst⟩ | ⟨hpne, hp6, hgh, hgm, hfl1, hfl2⟩
  · rw [if_pos (decide_eq_true rfl)]
    repeat' ((fail_if_success (with_reducible show wpAny _ _ (call (Value.ref _) _) _ _ _)); first | walk1 | (dsimp only; walk1))
    refine sticks_ok K0 F29 KX T rfl (li_of (N29 (rm, listOf um.toArray nm) (by k_mem)).1 hi10) hst (by decide) (by decide) ?_
    intro h30 tk30 hT30
    obtain ⟨g2, T30, F30, N30, B30⟩ := turn_back K0 F29 N29 hT30
    refine ⟨.inl ⟨_, .bool true, [], rfl, fun cls => rfl, .bool true, ?_, fun _ => ⟨.nil, fun a ha => nomatch ha⟩⟩, .of_keep fun b o e => F30.keep b o (T30.other b o e (fun z => nomatch z)), rfl, hG20 (hG10 (.of_eq hg))⟩
    exact postW_of (X := true) rfl (by with_unfolding_all rfl) rfl
  · rw [if_neg (by rw [decide_eq_false hpne]; decide)]
    have hpos : 0 < places.length := List.length_pos_iff.mpr hpne
    replace N29 : News s₁.heap s₁.heap.objs.size _ [(pa, listOf up.toArray np), (rm, listOf um.toArray nm), (s₁.heap.objs.size + 1 + 1 + 1, op), (s₁.heap.objs.size + 1 + 1, oz), (s₁.heap.objs.size + 1, ok)] := pk N29 (by k_mem) (pk N29 (by k_mem) (pk N29 (by k_mem) (pk N29 (by k_mem) (pk N29 (by k_mem) News.nil))))
    rename Heap => hW
    obtain ⟨m7, F30, hw7, hrm7⟩ : ∃ m7, Fr s₁.heap s₁.heap.objs.size hW m7 ∧ m7 (Str.ofString "wide") = some (.int wide tc) ∧ m7 (Str.ofString "marks") = some (.ref rm) := ⟨_, F29, if_pos rfl, (if_neg (by decide)).trans hrm⟩
    clear F29
    repeat' ((fail_if_success (with_reducible show wpAny _ _ (exec (Stmt.Assign _ (Expr.ListComp _ _ _ _) _) _) _ _ _)); first | walk1 | (dsimp only; walk1))
    refine lc_assign (fun _ => true) (fun turn => places.getD (turn + 1).toNat 0 - places.getD turn.toNat 0) (by with_unfolding_all rfl) (by with_unfolding_all rfl) (by decide) rfl (by decide) rfl rfl rfl ?_
    repeat' ((fail_if_success (with_reducible show wpAny _ _ (call (Value.builtin _) _) _ _ _)); first | walk1 | (dsimp only; walk1))
    refine len_LI (li_of (N29 (pa, listOf up.toArray np) (by k_mem)).1 hIp) (by omega) ?_
    repeat' ((fail_if_success (with_reducible show wpAny _ _ (call (Value.type _) _) _ _ _)); first | walk1 | (dsimp only; walk1))
    refine range1_rows F30 N29 (fun h31 tk31 u1 u2 u3 hr F31 N31 hx31 => ?_)
    clear F30 N29
    refine ⟨rangeKs 0 ((places.length : Int) - 1).toNat, _, _, _, _, srcOk_rng0 rfl hr (by omega) (by omega), by rw [rangeKs_length, sizeLine_eq]; omega, F31, N31, ?_, ?_, ?_⟩
    · intro C s₃ m₃ a t E' ha hn hm hx hg
      exact tests0 ⟨rfl, keeps_self⟩
    · intro C s₃ m₃ a t E' ha hp hn hm hx
      have hab := mem_rangeKs ha
      have c1 := hx _ _ (N31 (s₁.heap.objs.size + 1 + 1 + 1, op) (by k_mem)).1
      have c2 := hx _ _ (N31 (pa, listOf up.toArray np) (by k_mem)).1
      obtain ⟨ta, hta⟩ := hIp.get (a + 1).toNat _ (getD_get (by omega))
      obtain ⟨tb, htb⟩ := hIp.get a.toNat _ (getD_get (by omega))
      repeat' ((fail_if_success (with_reducible show wpAny _ _ (eval (Expr.Name _ _) _) _ _ _)); first | walk1 | (dsimp only; walk1))
      refine cvC rfl c1 dp ?_
      repeat' ((fail_if_success (with_reducible show wpAny _ _ (eval (Expr.Name _ _) _) _ _ _)); first | walk1 | (dsimp only; walk1))
      refine cvL hn hm ?_
      repeat' ((fail_if_success (with_reducible show wpAny _ _ (subscriptTail _ _ _ _) _ _ _)); first | walk1 | (dsimp only; walk1))
      refine sub_in (us := up) ⟨_, c2, rfl, _, rfl⟩ (by omega) (by omega) hta ?_
      repeat' ((fail_if_success (with_reducible show wpAny _ _ (eval (Expr.Name _ _) _) _ _ _)); first | walk1 | (dsimp only; walk1))
      refine cvC rfl c1 dp (cvL hn hm ?_)
      refine sub_in (us := up) ⟨_, c2, rfl, _, rfl⟩ (by omega) (by omega) htb ?_
      refine sub_int ⟨⟨_, rfl⟩, keeps_self⟩
    intro ga gus gn h32 tk32 F32 N32 hD32 hI32
    rw [List.filter_eq_self.mpr (fun _ _ => rfl), show ((places.length : Int) - 1).toNat = places.length - 1 by omega] at hI32
    obtain ⟨m8, F33, hw8, hrm8, hga8⟩ : ∃ m8, Fr s₁.heap s₁.heap.objs.size h32 m8 ∧ m8 (Str.ofString "wide") = some (.int wide tc) ∧ m8 (Str.ofString "marks") = some (.ref rm) ∧ m8 (Str.ofString "gaps") = some (.ref ga) := ⟨_, F32, (if_neg (by decide)).trans hw7, (if_neg (by decide)).trans hrm7, if_pos rfl⟩
    have N33 : News s₁.heap s₁.heap.objs.size h32 [(ga, listOf gus.toArray gn), (pa, listOf up.toArray np), (rm, listOf um.toArray nm), (s₁.heap.objs.size + 1 + 1 + 1, op), (s₁.heap.objs.size + 1 + 1, oz), (s₁.heap.objs.size + 1, ok)] := N32
    clear F32 N32 hD32 F31 N31 hr hx31
    have hgl : (((rangeKs 0 (places.length - 1)).map fun turn => places.getD (turn + 1).toNat 0 - places.getD turn.toNat 0)).length ≤ 6 := by rw [List.length_map, rangeKs_length]; omega
    generalize ((rangeKs 0 (places.length - 1)).map fun turn => places.getD (turn + 1).toNat 0 - places.getD turn.toNat 0) = gaps at *
    dsimp only
    repeat' ((fail_if_success (with_reducible show wpAny _ _ (binaryOp _ _ _) _ _ _)); first | walk1 | (dsimp only; walk1))
    rename Fr _ _ _ _ => F34
    rename News _ _ _ _ => N34
    refine kmk_add_ints (ws := [.int 127 _, .int 4 _]) F34 N34 ⟨_, (N34 (ga, listOf gus.toArray gn) (by k_mem)).1, rfl, _, rfl⟩ ⟨_, (N34 _ (.head _)).1, rfl, _, rfl⟩ hI32 (.cons _ _ (.cons _ _ .nil)) (fun D5 us5 h35 F35 N35 l35 hI35 => ?_) (by rw [sizeLine_eq]; simp only [List.length_cons, List.length_nil]; omega)
    clear F34 N34 l35
    repeat' ((fail_if_success (with_reducible show wpAny _ _ (call (Value.ref _) _) _ _ _)); first | walk1 | (dsimp only; walk1))
    refine marks_ok K0 F35 KX T rfl (li_of (N35 _ (.head _)).1 hI35) (by cases gaps with | nil => simp | cons x r => simpa using hgh) (by decide) (by decide) ?_
    intro rx ux nx h36 tk36 G36 hE36 hr36 hro36 hi36 hG36
    have F37 := F35.keeps hE36
    have N37 := newsAdd F35 N35 hE36 hr36 hro36
    clear F35 N35
    repeat' ((fail_if_success (with_reducible show wpAny _ _ (compareOp _ _ _) _ _ _)); first | walk1 | (dsimp only; walk1))
    refine ne_LI (li_of (N37 _ (.head _)).1 hi36) (li_of (N37 (pa, listOf up.toArray np) (by k_mem)).1 hIp) (by units_room) ?_
    refine wpAny_truthy_bool ?_
    rw [if_neg (by rw [decide_eq_true hgm]; decide)]
    replace N37 : News s₁.heap s₁.heap.objs.size _ [(pa, listOf up.toArray np), (rm, listOf um.toArray nm), (s₁.heap.objs.size + 1 + 1 + 1, op), (s₁.heap.objs.size + 1 + 1, oz), (s₁.heap.objs.size + 1, ok)] := pk N37 (by k_mem) (pk N37 (by k_mem) (pk N37 (by k_mem) (pk N37 (by k_mem) (pk N37 (by k_mem) News.nil))))
    repeat' ((fail_if_success (with_reducible show wpAny _ _ (call (Value.ref _) _) _ _ _)); first | walk1 | (dsimp only; walk1))
    refine fills_ok K0 F37 KX T rfl (li_of (N37 (rm, listOf um.toArray nm) (by k_mem)).1 hi10) (li_of (N37 (pa, listOf up.toArray np) (by k_mem)).1 hIp) hfl1 (by decide) (by decide) ?_
    intro h38 tk38 hT38
    obtain ⟨g2, T38, F38, N38, B38⟩ := turn_back K0 F37 N37 hT38
    have X38 := KX.keeps B38.stays
    have T38' := T.keeps B38.stays
    clear F37 N37
    repeat' ((fail_if_success (with_reducible show wpAny _ _ (call (Value.ref _) _) _ _ _)); first | walk1 | (dsimp only; walk1))
    refine fills_ok B38 F38 KX T rfl (li_of (N38 (pa, listOf up.toArray np) (by k_mem)).1 hIp) (li_of (N38 (rm, listOf um.toArray nm) (by k_mem)).1 hi10) hfl2 (by decide) (by decide) ?_
    intro h39 tk39 hT39
    obtain ⟨g3, T39, F39, N39, B39⟩ := turn_back B38 F38 N38 hT39
    refine ⟨.inl ⟨_, .bool true, [], rfl, fun cls => rfl, .bool true, ?_, fun _ => ⟨.nil, fun a ha => nomatch ha⟩⟩, .of_keep fun b o e => F39.keep b o ((T38.trans T39).other b o e (fun z => nomatch z)), rfl, hG36 (hG20 (hG10 (.of_eq hg)))⟩
    exact postW_of (X := true) rfl (by with_unfolding_all rfl) rfl)

end Mine
theorem PySem.Challenge.cw_tv0004_01_holds : PySem.Challenge.rw_tv0004_01.Holds := by
  exact Mine.law_ok


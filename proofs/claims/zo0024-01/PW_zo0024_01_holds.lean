import PyProof.Rows.All
import Wide.All
import OpenK.AllK
import Wide.FinOn
import PySem.Challenge.RW_zo0024_01
set_option Elab.async false
section
open PySem PySem.W PyProof.Rows PySem.Calls PySem.Spec
set_option Elab.async false
set_option maxRecDepth 100000
set_option maxHeartbeats 8000000
namespace Mine

/-- the world as a called def meets it: the frames below, the written part, the top's facts, all at the heap of the call -/
structure At (p : Program) (loose : List PySem.Str) (mean : ExcName → Option Value) (mg mb : PySem.Str → Option Value) (K : Frag) (A : Around) (base : Heap) (env : Env) (outer : List Env) (h : Heap) : Prop where
  below : Below A base (env :: outer) h
  frag : K.In h
  top : Top p loose mean mg mb h

theorem At.of {p : Program} {loose : List PySem.Str} {mean : ExcName → Option Value} {mg mb : PySem.Str → Option Value} {K : Frag} {A A₀ : Around} {base h₀ h : Heap} {env : Env} {outer : List Env} {L : Addr} {m : PySem.Str → Option Value}
    (B : Below A₀ base outer h₀) (F : Fr h₀ L h m) (X : K.In h₀) (T : Top p loose mean mg mb h₀) (hA : A.frames = some (env :: outer)) (hf : env.frame = some L) (hk : env.scope.kind = .function) : At p loose mean mg mb K A base env outer h :=
  have P := pushX B F hf hk
  ⟨⟨hA, P.stays, P.frames⟩, X.keeps F.keep, T.keeps F.keep⟩

theorem At.keeps {p : Program} {loose : List PySem.Str} {mean : ExcName → Option Value} {mg mb : PySem.Str → Option Value} {K : Frag} {A : Around} {base h h' : Heap} {env : Env} {outer : List Env}
    (X : At p loose mean mg mb K A base env outer h) (k : ∀ b o, h.get? b = some o → h'.get? b = some o) : At p loose mean mg mb K A base env outer h' :=
  ⟨⟨X.below.stack, fun b o e => k _ _ (X.below.stays b o e), X.below.frames.of_keeps fun b o e _ => ⟨o, k b o e, rfl⟩⟩, X.frag.keeps k, X.top.keeps k⟩

theorem call_S {prog : Program} {w : World} {A : Around} {s : Shared} {base : Heap} {outer : List Env} {env : Env} {K : Frag} {p : Program} {loose : List PySem.Str} {mean : ExcName → Option Value} {mg mb : PySem.Str → Option Value}
    {Q : Value → Shared → Prop} {E : Value → Shared → Prop} {name qual : PySem.Str} {params : Arguments} {body : List Stmt} {scope : Scope} {dV kV doc pm cdv ct oc : Value} {an od : Option Addr} {osl : Array (Option Value)} {f : Addr} {args : List Value} {kw : List (PySem.Str × Value)} {binds : List (PySem.Str × Value)}
    (W : At p loose mean mg mb K A base env outer s.heap)
    (ho : K.lookup f = some ⟨oc, od, .func (fnOf name qual params body scope dV kV doc pm an cdv ct), osl⟩) (hcd : codeIn K cdv qual = true) (hroom : A.depth < recursionLimit)
    (hbind : BindsTo s (fnOf name qual params body scope dV kV doc pm an cdv ct) ⟨args, kw⟩ binds) (hloc : ∀ y ∈ binds, scope.names.lookup y.1 = some .local)
    (h : ∀ L' h₁, Fr s.heap L' h₁ (fun y => binds.reverse.lookup y) → Below A base (env :: outer) s.heap → K.In s.heap → Top p loose mean mg mb s.heap → (∀ b o, s.heap.get? b = some o → b < L') →
      wpAny (model prog w) (A.deeper (envOf qual scope L' f cdv)) (execs body (envOf qual scope L' f cdv))
        (fun fl s' => Q (match fl with | .ret v => v | _ => .none) s') (fun _ _ => False)
        { s with heap := h₁, toks := s.toks + binds.length })
    (hco : scope.isCoroutine = false) (hgen : scope.isGenerator = false) (hk : scope.kind = .function)
    (hcell : ∀ x ∈ scope.names, x.2 ≠ .cell) : wpAny (model prog w) A (call (.ref f) args kw) Q E s := by
  refine wpAny_call ?_
  refine codeAny_call_def (fd := fnOf name qual params body scope dV kV doc pm an cdv ct) (body := body) (binds := binds) hroom (W.frag _ _ ho) rfl W.top.nolimit (codeRec_of W.frag hcd) rfl hbind hcell hloc (fun h₁ hns hk₁ => ?_) hco hgen hk
  exact wpAny_mono (h s.heap.objs.size h₁ ⟨hns, hk₁, Nat.le_refl _⟩ W.below W.frag W.top (fun b o e => Heap.lt_size e)) (fun fl s' x => x) fun _ _ x => x.elim

section
variable {prog : Program} {w : World} {A : Around} {E : Value → Shared → Prop} {s : Shared} {h₀ : Heap} {L : Addr} {m : PySem.Str → Option Value}
theorem retI {s : Shared} {Q : Value → Shared → Prop} {x y : Int} {t : Tok} {h' : Heap} {tk' : Nat} (hret : ∀ (t : Tok) (h' : Heap) (tk' : Nat), (∀ b o, s.heap.get? b = some o → h'.get? b = some o) → Q (.int x t) { s with heap := h', toks := tk' })
    (e : y = x) (k : ∀ b o, s.heap.get? b = some o → h'.get? b = some o) : Q (.int y t) { s with heap := h', toks := tk' } := by
  subst e
  exact hret _ _ _ k
theorem retB {s : Shared} {Q : Value → Shared → Prop} {x y : Array UInt8} {t : Tok} {h' : Heap} {tk' : Nat} (hret : ∀ (t : Tok) (h' : Heap) (tk' : Nat), (∀ b o, s.heap.get? b = some o → h'.get? b = some o) → Q (.bytes x t) { s with heap := h', toks := tk' })
    (e : y = x) (k : ∀ b o, s.heap.get? b = some o → h'.get? b = some o) : Q (.bytes y t) { s with heap := h', toks := tk' } := by
  subst e
  exact hret _ _ _ k
theorem retS {s : Shared} {Q : Value → Shared → Prop} {x y : PySem.Str} {t : Tok} {h' : Heap} {tk' : Nat} (hret : ∀ (t : Tok) (h' : Heap) (tk' : Nat), (∀ b o, s.heap.get? b = some o → h'.get? b = some o) → Q (.str x t) { s with heap := h', toks := tk' })
    (e : y = x) (k : ∀ b o, s.heap.get? b = some o → h'.get? b = some o) : Q (.str y t) { s with heap := h', toks := tk' } := by
  subst e
  exact hret _ _ _ k
theorem item_mid {value slice : Expr} {l : Addr} {vs : List Value} {t : Int} {u : Tok} {Q : Value → Shared → Prop} (F : Fr h₀ L s.heap m) (hl : h₀.IsList l vs.toArray)
    (h0 : 0 ≤ t / 2) (hk : t / 2 < (vs.length : Int)) (hb : vs.length ≤ 64) (h : ∀ v, Int.fdiv t 2 = t / 2 → vs[(Int.fdiv t 2).toNat]? = some v → Q v s)
    (hs : subscripted slice false (.ref l) (.int (Int.fdiv t 2) u) = operate [.ref l, .int (Int.fdiv t 2) u] (getItem (.ref l) (.int (Int.fdiv t 2) u)) := by with_unfolding_all rfl) (hg : ∀ r, letTemporaryGo value (.ref l) r = pure () := by intro _; with_unfolding_all rfl) :
    wpAny (model prog w) A (subscriptTail value slice (.ref l) (.int (Int.fdiv t 2) u)) Q E s := by
  have e : Int.fdiv t 2 = t / 2 := Int.fdiv_eq_ediv_of_nonneg t (by decide)
  have hi : (Int.fdiv t 2).toNat < vs.length := by rw [e]; omega
  exact item_listL (Fr.lst F hl) (by rw [e]; exact h0) (by rw [e]; omega) (List.getElem?_eq_getElem hi) (h _ e (List.getElem?_eq_getElem hi)) hs hg
end

theorem news1 {h₀ h : Heap} {L l : Addr} {o : Obj} (hl : h.get? l = some o) (hL : l ≠ L) (h0 : h₀.get? l = none) : News h₀ L h [(l, o)] := fun q hq => by
  rw [List.mem_singleton.mp hq]; exact ⟨hl, hL, h0⟩

/-- a def that changes one list of the caller's ledger -/
theorem call_M {prog : Program} {w : World} {A A₀ : Around} {s : Shared} {base h₀ : Heap} {outer : List Env} {env : Env} {K : Frag} {p : Program} {loose : List PySem.Str} {mean : ExcName → Option Value} {mg mb : PySem.Str → Option Value} {L l : Addr} {m : PySem.Str → Option Value} {o : Obj}
    {Q : Value → Shared → Prop} {E : Value → Shared → Prop} {name qual : PySem.Str} {params : Arguments} {body : List Stmt} {scope : Scope} {dV kV doc pm cdv ct oc : Value} {an od : Option Addr} {osl : Array (Option Value)} {f : Addr} {args : List Value} {kw : List (PySem.Str × Value)} {binds : List (PySem.Str × Value)}
    (B : Below A₀ base outer h₀) (F : Fr h₀ L s.heap m) (X₀ : K.In h₀) (T : Top p loose mean mg mb h₀) (N : News h₀ L s.heap [(l, o)]) (hA : A.frames = some (env :: outer)) (hf : env.frame = some L) (hke : env.scope.kind = .function)
    (ho : K.lookup f = some ⟨oc, od, .func (fnOf name qual params body scope dV kV doc pm an cdv ct), osl⟩) (hcd : codeIn K cdv qual = true) (hroom : A.depth < recursionLimit)
    (hbind : BindsTo s (fnOf name qual params body scope dV kV doc pm an cdv ct) ⟨args, kw⟩ binds) (hloc : ∀ y ∈ binds, scope.names.lookup y.1 = some .local)
    (h : ∀ g L' h₁, (∀ b ob, s.heap.get? b = some ob → b ≠ l → g.get? b = some ob) → Fr g L' h₁ (fun y => binds.reverse.lookup y) → News g L' h₁ [(l, o)] → Below A base (env :: outer) g → K.In g → Top p loose mean mg mb g →
      wpAny (model prog w) (A.deeper (envOf qual scope L' f cdv)) (execs body (envOf qual scope L' f cdv))
        (fun fl s' => Q (match fl with | .ret v => v | _ => .none) s') (fun _ _ => False)
        { s with heap := h₁, toks := s.toks + binds.length })
    (hco : scope.isCoroutine = false) (hgen : scope.isGenerator = false) (hk : scope.kind = .function)
    (hcell : ∀ x ∈ scope.names, x.2 ≠ .cell) : wpAny (model prog w) A (call (.ref f) args kw) Q E s := by
  obtain ⟨FG, BG, st, _⟩ := groundX (R := fun _ _ => True) B F N hA hf hke
  have X := X₀.keeps F.keep
  refine wpAny_call ?_
  refine codeAny_call_def (fd := fnOf name qual params body scope dV kV doc pm an cdv ct) (body := body) (binds := binds) hroom (X _ _ ho) rfl (T.nolimit.keeps F.keep) (codeRec_of X hcd) rfl hbind hcell hloc (fun h₁ hns hk₁ => ?_) hco hgen hk
  have hl : s.heap.get? l = some o := (N _ (.head _)).1
  refine wpAny_mono (h (hideAll s.heap [l]) s.heap.objs.size h₁ (fun b ob e hb => hideAll_get _ e (by simpa using hb)) ⟨hns, fun b o e => hk₁ b o (of_hideAll _ e), Nat.le_of_eq (hideAll_size _ _)⟩
    (news1 (hk₁ _ _ hl) (Nat.ne_of_lt (Heap.lt_size hl)) (hideAll_none _ (.head _))) BG (X₀.keeps st) (T.keeps st)) (fun fl s' x => x) fun _ _ x => x.elim

theorem newsAfter {h₀ h h' : Heap} {L : Addr} {news : List (Addr × Obj)} (N : News h₀ L h news) (k : ∀ b o, h.get? b = some o → h'.get? b = some o) : News h₀ L h' news := fun q hq => ⟨k _ _ (N q hq).1, (N q hq).2⟩
theorem ins_at {vs : List Value} {r : Nat} {x : Value} (hr : r ≤ vs.length) : kl_ins vs (r : Int) x = vs.take r ++ x :: vs.drop r := by
  unfold kl_ins
  rw [if_neg (by omega)]
  have e : min ((r : Int).toNat) vs.length = r := by omega
  rw [e]

section
variable {prog : Program} {w : World} {A : Around} {E : Value → Shared → Prop} {s : Shared} {a b : Int} {t u : Tok}
theorem lt_yes {Q : Value → Shared → Prop} (e : a < b) (h : Q (.bool true) s) : wpAny (model prog w) A (compareOp .Lt (.int a t) (.int b u)) Q E s :=
  PyProof.Rows.lt_int (by rw [decide_eq_true e]; exact h)
theorem lt_no {Q : Value → Shared → Prop} (e : ¬ a < b) (h : Q (.bool false) s) : wpAny (model prog w) A (compareOp .Lt (.int a t) (.int b u)) Q E s :=
  PyProof.Rows.lt_int (by rw [decide_eq_false e]; exact h)
end

/-- holds a turn's end so that the walk stops there -/
def Hold (P : Prop) : Prop := P
theorem Hold.mk {P : Prop} (h : P) : Hold P := h
section
variable {prog : Program} {w : World} {A : Around} {E : Value → Shared → Prop} {Q : Flow → Shared → Prop} {s : Shared} {env : Env} {h₀ : Heap} {L : Addr}
theorem my_while {σ : Type} {test : Expr} {body : List Stmt} {pos : Pos} {m₀ : PySem.Str → Option Value} (Led : σ → List (Addr × Obj)) (ps : σ → List (PySem.Str × Value)) (Facts : σ → Prop) (stored : List PySem.Str) (P : σ → Prop) (μ : σ → Nat) (c₀ : σ)
    (F : Fr h₀ L s.heap m₀) (N : News h₀ L s.heap (Led c₀)) (hf : Facts c₀) (hk : ∀ p ∈ ps c₀, m₀ p.1 = some p.2) (hp : P c₀)
    (turn : ∀ (c : σ) (u : PySem.Str → Option Value) h tk, Facts c → P c → Fr h₀ L h (kstB (fun z => if stored.contains z then u z else m₀ z) (ps c)) → News h₀ L h (Led c) →
      wpAny (model prog w) A (isTrue test env (eval test env)) (fun b s₂ =>
        if b = true then wpAny (model prog w) A (execs body env) (fun f s₃ => Hold (KswPost h₀ L s Led ps Facts stored m₀ P μ Q c f s₃)) E s₂ else Q .next s₂) E { s with heap := h, toks := tk })
    (hE : PassesOwn (model prog w) A env E := by passes_own) :
    wpAny (model prog w) A (exec (.While test body [] pos) env) Q E s :=
  ksw_while Led ps Facts stored P μ c₀ F N hf hk hp turn hE
end
end Mine
end
section
open PySem PySem.W PyProof.Rows PySem.Calls PySem.Spec PyProof.V
set_option Elab.async false
set_option maxRecDepth 100000
set_option maxHeartbeats 8000000
namespace Mine
def ForTo (h₀ : Heap) (L : Addr) (x : PySem.Str) {σ : Type} (Led : σ → List (Addr × Obj)) (ps : σ → List (PySem.Str × Value)) (stored : List PySem.Str) (m₀ : PySem.Str → Option Value) (P : σ → Prop) (I : Addr) (oI : Obj) (s₁ s₂ : Shared) : Prop :=
  ∃ (c : σ) (h' : Heap) (tk : Nat) (m' : PySem.Str → Option Value) (news' : List (Addr × Obj)), s₂ = { s₁ with heap := h', toks := tk } ∧ Fr h₀ L h' m' ∧ News h₀ L h' news' ∧ (I, oI) ∈ news' ∧ (∀ p ∈ Led c, p ∈ news') ∧ (∀ p ∈ Led c, p.1 ≠ I) ∧
    (∀ p ∈ ps c, m' p.1 = some p.2) ∧ (∀ z, z ≠ x → (∀ p ∈ ps c, z ≠ p.1) → stored.contains z = false → m' z = m₀ z) ∧ P c
def ForEnd (h₀ : Heap) (L : Addr) (x : PySem.Str) {σ : Type} (Led : σ → List (Addr × Obj)) (ps : σ → List (PySem.Str × Value)) (stored : List PySem.Str) (m₀ : PySem.Str → Option Value) (P : σ → Prop) (I : Addr) (oI : Obj) (s₁ : Shared) (Q : Flow → Shared → Prop) (f : Flow) (s₂ : Shared) : Prop :=
  match f with
  | .ret v => Q (.ret v) s₂
  | .brk => Q .next s₂
  | _ => ForTo h₀ L x Led ps stored m₀ P I oI s₁ s₂
theorem forTo {h₀ : Heap} {L : Addr} {x : PySem.Str} {σ : Type} {Led : σ → List (Addr × Obj)} {ps : σ → List (PySem.Str × Value)} {stored : List PySem.Str} {m₀ : PySem.Str → Option Value} {P : σ → Prop} {I : Addr} {oI : Obj} {s₁ : Shared}
    (c : σ) {h' : Heap} {tk : Nat} {m' : PySem.Str → Option Value} {news' : List (Addr × Obj)} (F : Fr h₀ L h' m') (N : News h₀ L h' news') (h1 : (I, oI) ∈ news') (h2 : ∀ p ∈ Led c, p ∈ news') (h3 : ∀ p ∈ Led c, p.1 ≠ I)
    (h4 : ∀ p ∈ ps c, m' p.1 = some p.2) (h5 : ∀ z, z ≠ x → (∀ p ∈ ps c, z ≠ p.1) → stored.contains z = false → m' z = m₀ z) (h6 : P c) : ForTo h₀ L x Led ps stored m₀ P I oI s₁ { s₁ with heap := h', toks := tk } :=
  ⟨c, h', tk, m', news', rfl, F, N, h1, h2, h3, h4, h5, h6⟩

theorem apartCls {h₀ h : Heap} {L : Addr} {news : List (Addr × Obj)} {I : Addr} {oI : Obj} (N : News h₀ L h news) (hI : (I, oI) ∈ news) {p : Addr × Obj} (hp : p ∈ news) (hc : p.2.cls ≠ oI.cls) : p.1 ≠ I := fun e => by
  have a1 := (N _ hp).1
  have a2 := (N _ hI).1
  rw [e, a2] at a1
  exact hc (congrArg Obj.cls (Option.some.inj a1)).symm
section
variable {prog : Program} {w : World} {A : Around} {E : Value → Shared → Prop} {s : Shared} {env : Env} {h₀ : Heap} {x : PySem.Str} {body : List Stmt} {Q : Flow → Shared → Prop}

/-- a loop over what an iterator gives, with a state of its own -/
theorem my_walks {σ : Type} {n : Nat} {Pv : Nat → Value → Prop} {St : Nat → Heap → Prop} {fp : List Addr} {cI : Value} {m₀ : PySem.Str → Option Value} (Led : σ → List (Addr × Obj)) (ps : σ → List (PySem.Str × Value)) (stored : List PySem.Str) (P : Nat → σ → Prop) (c₀ : σ)
    (I : Addr) (W : Walks prog w A I fp [I] n Pv St) (hI : I ∈ fp) (hLf : env.locals ∉ fp) (hnew : h₀.get? I = none)
    (hcls : ∀ i h, St i h → ∃ o, h.get? I = some o ∧ o.cls = cI)
    (hst : St 0 s.heap) (F : Fr h₀ env.locals s.heap m₀) (N : News h₀ env.locals s.heap (Led c₀)) (hne : ∀ p ∈ Led c₀, p.1 ≠ I) (hk : ∀ p ∈ ps c₀, m₀ p.1 = some p.2) (hp : P 0 c₀)
    (hfp : ∀ b, b ∈ fp → b ≠ I → h₀.get? b = none → ∃ o, ∀ c, (b, o) ∈ Led c)
    (turn : ∀ (c : σ) i v (u : PySem.Str → Option Value) h tk oI, i < n → Pv i v → oI.cls = cI → (∀ p ∈ Led c, p.1 ≠ I) → P i c →
      Fr h₀ env.locals h (fun y => if y = x then some v else kstB (fun z => if stored.contains z then u z else m₀ z) (ps c) y) → News h₀ env.locals h ((I, oI) :: Led c) →
      wpAny (model prog w) A (execs body env) (fun f s₃ => Hold (ForEnd h₀ env.locals x Led ps stored m₀ (P (i + 1)) I oI { s with heap := h, toks := tk } Q f s₃)) E { s with heap := h, toks := tk })
    (done : ∀ (c : σ) (u : PySem.Str → Option Value) h tk, P n c → Fr h₀ env.locals h (fun y => if y = x then u y else kstB (fun z => if stored.contains z then u z else m₀ z) (ps c) y) → News h₀ env.locals h (Led c) → Q .next { s with heap := h, toks := tk }) :
    LoopAtV prog w A h₀ env x body Q E (.ref I) s := by
  let J : Nat → (PySem.Str → Option Value) → List (Addr × Obj) → Prop := fun i m nx => ∃ c : σ, nx = Led c ∧ (∀ p ∈ nx, p.1 ≠ I) ∧ (∀ p ∈ ps c, m p.1 = some p.2) ∧ (∀ z, z ≠ x → (∀ p ∈ ps c, z ≠ p.1) → stored.contains z = false → m z = m₀ z) ∧ P i c
  refine ⟨I, fp, [I], n, Pv, St, m₀, Led c₀, J, rfl, W, hLf, (fun b hb => by rw [List.mem_singleton.mp hb]; exact hnew), (fun p hp hb => hne p hp (List.mem_singleton.mp hb)), hst, F, N, ⟨c₀, rfl, hne, hk, fun _ _ _ _ => rfl, hp⟩, ?_, ?_⟩
  · rintro i v m₁ _ s₁ own ⟨hh', tk', rfl⟩ hin hP ⟨c, rfl, hoff, h1, h2, hp'⟩ _ hown hget hall hst' F₁ N₁
    obtain ⟨oI, hoI, hcI⟩ := hcls _ _ hst'
    have hmem := hall I hI hnew oI hoI
    have N₂ : News h₀ env.locals hh' ((I, oI) :: Led c) := fun p hp => by
      rcases List.mem_cons.mp hp with rfl | hp
      · exact N₁ _ (List.mem_append_left _ hmem)
      · exact N₁ _ (List.mem_append_right _ hp)
    refine wpAny_mono (turn c i v m₁ hh' tk' oI hin hP hcI hoff hp' (kst_fr h1 h2 F₁) N₂) (fun f s₂ p => ?_) fun _ _ e => e
    have fin : ForTo h₀ env.locals x Led ps stored m₀ (P (i + 1)) I oI { s with heap := hh', toks := tk' } s₂ → LoopStepU h₀ env.locals [I] own (J (i + 1)) { s with heap := hh', toks := tk' } .next s₂ := by
      rintro ⟨c', h', tk, m', news', e, F', N', g1, g2, g3, g4, g5, g6⟩
      have far : ∀ p ∈ Led c', p.1 ≠ I := g3
      refine ⟨rfl, h', tk, m', Led c', e, F', fun p hp => ?_, fun p hp hb => far p hp (List.mem_singleton.mp hb), c', rfl, far, g4, g5, g6⟩
      rcases List.mem_append.mp hp with hp | hp
      · by_cases q : p.1 = I
        · have a1 : hh'.get? p.1 = some p.2 := hget p hp
          rw [q, hoI] at a1
          have : p = (I, oI) := Prod.ext q (Option.some.inj a1).symm
          rw [this]; exact N' _ g1
        · have a0 := N₁ p (List.mem_append_left _ hp)
          obtain ⟨o, ho⟩ := hfp p.1 (hown p hp) q a0.2.2
          have a2 := (N₁ _ (List.mem_append_right _ (ho c))).1
          have a1 := a0.1
          rw [a2] at a1
          have : p = (p.1, o) := Prod.ext rfl (Option.some.inj a1).symm
          rw [this]
          exact N' _ (g2 _ (ho c'))
      · exact N' p (g2 p hp)
    cases f with
    | ret v => exact p
    | brk => exact p
    | next => exact fin p
    | cont => exact fin p
  · rintro h' tk m' _ F' N' _ ⟨c, rfl, _, h1, h2, hp'⟩
    exact done c m' h' tk hp' (kst_frOut h1 h2 F') N'

/-- over a list of the ledger that stays as it is -/
theorem my_forL {σ : Type} {l : Addr} {vs : List Value} {nn : Nat} {m₀ : PySem.Str → Option Value} (Led : σ → List (Addr × Obj)) (ps : σ → List (PySem.Str × Value)) (stored : List PySem.Str) (P : Nat → σ → Prop) (c₀ : σ)
    (hh : A.handled = none) (hl : ∀ c, (l, listOf vs.toArray nn) ∈ Led c) (F : Fr h₀ env.locals s.heap m₀) (N : News h₀ env.locals s.heap (Led c₀)) (hk : ∀ p ∈ ps c₀, m₀ p.1 = some p.2) (hp : P 0 c₀)
    (turn : ∀ (c : σ) i v (u : PySem.Str → Option Value) h tk I oI, vs[i]? = some v → oI.cls = .type "list_iterator" → (∀ p ∈ Led c, p.1 ≠ I) → P i c →
      Fr h₀ env.locals h (fun y => if y = x then some v else kstB (fun z => if stored.contains z then u z else m₀ z) (ps c) y) → News h₀ env.locals h ((I, oI) :: Led c) →
      wpAny (model prog w) A (execs body env) (fun f s₃ => Hold (ForEnd h₀ env.locals x Led ps stored m₀ (P (i + 1)) I oI { s with heap := h, toks := tk } Q f s₃)) E { s with heap := h, toks := tk })
    (done : ∀ (c : σ) (u : PySem.Str → Option Value) h tk, P vs.length c → Fr h₀ env.locals h (fun y => if y = x then u y else kstB (fun z => if stored.contains z then u z else m₀ z) (ps c) y) → News h₀ env.locals h (Led c) → Q .next { s with heap := h, toks := tk }) :
    wpAny (model prog w) A (pyIter (.ref l)) (fun it s₂ => LoopAtV prog w A h₀ env x body Q E it s₂) E s := by
  have hol : s.heap.get? l = some (listOf vs.toArray nn) := (N _ (hl c₀)).1
  have hls : s.heap.IsList l vs.toArray := ⟨_, hol, rfl, nn, rfl⟩
  have hne : l ≠ s.heap.objs.size := Nat.ne_of_lt (Heap.lt_size hol)
  refine wpAny_pyIter_list hls ?_
  have W := Walks.list (prog := prog) (w := w) hh s.heap.objs.size l hne vs.toArray
  rw [List.size_toArray] at W
  refine my_walks (s := { s with heap := _ }) (cI := .type "list_iterator") Led ps stored P c₀ s.heap.objs.size W (.head _) ?_ (next_is_new F) (fun i h st => ?_) ⟨⟨_, Heap.get?_push_size _ rfl, rfl, rfl⟩, hls.at fun o e => Heap.get?_push_of_some _ e⟩ (F.push _)
    (fun p hp => ⟨Heap.get?_push_of_some _ (N p hp).1, (N p hp).2⟩) (fun p hp => Nat.ne_of_lt (Heap.lt_size (N p hp).1)) hk hp (fun b hb hI _ => ?_) (fun c i v u h tk oI hi hv hc hf hP F' N' => turn c i v u h tk _ oI (by simpa using hv) hc hf hP F' N') (fun c u h tk hP F' N' => done c u h tk hP F' N')
  · intro hm
    rcases List.mem_cons.mp hm with e | hm
    · exact absurd F.ns.lt (e ▸ Nat.lt_irrefl _)
    · exact (N _ (hl c₀)).2.1 ((List.mem_singleton.mp hm).symm)
  · obtain ⟨o, ho, hc, _⟩ := st.1
    exact ⟨o, ho, hc⟩
  · rcases List.mem_cons.mp hb with e | hb
    · exact absurd e hI
    · rw [List.mem_singleton.mp hb]; exact ⟨_, hl⟩

theorem my_forR {σ : Type} {r : Addr} {a₀ b₀ d₀ : Int} {t₀ u₀ v₀ : Tok} {n : Nat} {m₀ : PySem.Str → Option Value} (Led : σ → List (Addr × Obj)) (ps : σ → List (PySem.Str × Value)) (stored : List PySem.Str) (P : Nat → σ → Prop) (c₀ : σ)
    (hh : A.handled = none) (hr : IsRange s.heap r a₀ b₀ d₀ t₀ u₀ v₀) (hsmall : Builtin.Range.small a₀ b₀ d₀ = true) (hn : Builtin.Range.rangeSize a₀ b₀ d₀ = (n : Int)) (F : Fr h₀ env.locals s.heap m₀) (N : News h₀ env.locals s.heap (Led c₀)) (hk : ∀ p ∈ ps c₀, m₀ p.1 = some p.2) (hp : P 0 c₀)
    (turn : ∀ (c : σ) (i : Nat) t (u : PySem.Str → Option Value) h tk I oI, i < n → oI.cls = .type "range_iterator" → (∀ p ∈ Led c, p.1 ≠ I) → P i c →
      Fr h₀ env.locals h (fun y => if y = x then some (.int (a₀ + i * d₀) t) else kstB (fun z => if stored.contains z then u z else m₀ z) (ps c) y) → News h₀ env.locals h ((I, oI) :: Led c) →
      wpAny (model prog w) A (execs body env) (fun f s₃ => Hold (ForEnd h₀ env.locals x Led ps stored m₀ (P (i + 1)) I oI { s with heap := h, toks := tk } Q f s₃)) E { s with heap := h, toks := tk })
    (done : ∀ (c : σ) (u : PySem.Str → Option Value) h tk, P n c → Fr h₀ env.locals h (fun y => if y = x then u y else kstB (fun z => if stored.contains z then u z else m₀ z) (ps c) y) → News h₀ env.locals h (Led c) → Q .next { s with heap := h, toks := tk }) :
    wpAny (model prog w) A (pyIter (.ref r)) (fun it s₂ => LoopAtV prog w A h₀ env x body Q E it s₂) E s := by
  refine wpAny_pyIter_range hr hsmall ?_
  have W := Walks.range (prog := prog) (w := w) hh s.heap.objs.size a₀ d₀ n
  refine my_walks (s := { s with heap := _ }) (cI := .type "range_iterator") Led ps stored P c₀ s.heap.objs.size W (.head _) ?_ (next_is_new F) (fun i h st => ⟨_, st, rfl⟩) (by show IsRangeIter _ _ _ _ _; rw [hn]; simpa using Heap.get?_push_size _ rfl) (F.push _)
    (fun p hp => ⟨Heap.get?_push_of_some _ (N p hp).1, (N p hp).2⟩) (fun p hp => Nat.ne_of_lt (Heap.lt_size (N p hp).1)) hk hp (fun b hb hI _ => absurd (List.mem_singleton.mp hb) hI) (fun c i v u h tk oI hi hv hc hf hP F' N' => ?_) (fun c u h tk hP F' N' => done c u h tk hP F' N')
  · intro hm
    exact absurd F.ns.lt ((List.mem_singleton.mp hm) ▸ Nat.lt_irrefl _)
  · obtain ⟨t, rfl⟩ := hv
    exact turn c i t u h tk _ oI hi hc hf hP F' N'

theorem my_For {px pos : Pos} {iter : Expr} (h₀ : Heap) (hx : env.kindOf x = some .local)
    (hp : (env.scope.kind == .class || (env.scope.kind == .module && env.locals != env.globals)) = false)
    (h : wpAny (model prog w) A (eval iter env) (fun xv s₁ => Hold (wpAny (model prog w) A (pyIter xv) (fun it s₂ => LoopAtV prog w A h₀ env x body Q E it s₂) E s₁)) E s)
    (hs : ∀ x, foldedSetIterable iter env x = pure x := by intro _; rfl)
    (hE : PassesOwn (model prog w) A env E := by passes_own) :
    wpAny (model prog w) A (exec (.For (.Name x px) iter body [] pos) env) Q E s := For_invV h₀ hx hp h hs hE
end
end Mine
end
section
open PySem PySem.W PyProof.Rows PySem.Calls PySem.Spec
set_option Elab.async false
set_option maxRecDepth 100000
set_option maxHeartbeats 8000000
set_option linter.unusedVariables false
namespace Mine
/-! a comprehension of two clauses: [y for x in xs for y in x] -/
section
variable {prog : Program} {w : World} {A : Around} {E : Value → Shared → Prop} {R : Result → Shared → Prop} {s : Shared}
abbrev flatE (elt t1 it1 t2 it2 : Expr) (scope : Scope) (pos : Pos) : Expr := .ListComp elt [⟨t1, it1, [], 0⟩, ⟨t2, it2, [], 0⟩] scope pos
theorem turn2_0 (elt t1 it1 t2 it2 : Expr) (scope : Scope) (pos : Pos) (it acc : Value) (env : Env) :
    compTurn (flatE elt t1 it1 t2 it2 scope pos) 0 it acc env = (standAt it1.pos >>= fun _ => pyNext it >>= fun r => match r with
      | none => pure (.done .next)
      | some v => letOwnedTupleGo t1 it v >>= fun _ => assign t1 env v >>= fun _ =>
        eval it2 env >>= fun x => standAt it2.pos >>= fun _ => foldedSetIterable it2 env x >>= fun x => holding [x] (pyIter x) >>= fun j =>
          runOwn (.compStart (flatE elt t1 it1 t2 it2 scope pos) 1 j acc env) env >>= fun _ =>
          again (.compLoop (flatE elt t1 it1 t2 it2 scope pos) 0 it acc env)) := by rfl
theorem turn2_1 (elt t1 it1 t2 it2 : Expr) (scope : Scope) (pos : Pos) (it acc : Value) (env : Env) :
    compTurn (flatE elt t1 it1 t2 it2 scope pos) 1 it acc env = (standAt it2.pos >>= fun _ => pyNext it >>= fun r => match r with
      | none => pure (.done .next)
      | some v => letOwnedTupleGo t2 it v >>= fun _ => assign t2 env v >>= fun _ =>
        (eval elt env >>= fun x => call (.builtin "list.append") [acc, x] >>= fun _ => pure ()) >>= fun _ =>
          again (.compLoop (flatE elt t1 it1 t2 it2 scope pos) 1 it acc env)) := by rfl
theorem start2_1 {elt t1 it1 t2 it2 : Expr} {scope : Scope} {pos : Pos} {it acc : Value} {env : Env}
    (h0 : codeAny (model prog w) A (.compLoop (flatE elt t1 it1 t2 it2 scope pos) 1 it acc env) R s)
    (h : wpAny (model prog w) A (pyIter it) (fun it' s' => codeAny (model prog w) A (.compLoop (flatE elt t1 it1 t2 it2 scope pos) 1 it' acc env) R s')
      (notedBy (model prog w) A env fun x s' => R (.error x) s') s) :
    codeAny (model prog w) A (.compStart (flatE elt t1 it1 t2 it2 scope pos) 1 it acc env) R s := by
  refine codeAny_of_tree ?_
  show wpAny _ _ ((compStart (flatE elt t1 it1 t2 it2 scope pos) 1 it acc env).onRaise (fun x => do noteFrame x env; standAt theWindowsPlace)) _ _ s
  refine wpAny_notedAt ?_
  unfold compStart
  show wpAny _ _ (ask >>= _) _ _ s
  refine wpAny_bind (wpAny_askSetting (wpAny_ite ?_))
  split
  · first
      | exact wpAny_bind (wpAny_pure (wpAny_pure (And.intro rfl h0)))
      | exact wpAny_pure (And.intro rfl h0)
  · first
      | exact wpAny_bind (wpAny_rule (wpAny_bind (wpAny_standAt (wpAny_bind (wpAny_mono h (fun it' s' h' => wpAny_pure (And.intro rfl h')) fun _ _ x => x)))))
      | (refine wpAny_bind (wpAny_rule ?_); show wpAny _ _ (standAt it2.pos >>= _) _ _ s; exact wpAny_bind (wpAny_standAt (wpAny_bind (wpAny_mono h (fun it' s' h' => wpAny_pure (And.intro rfl h')) fun _ _ x => x))))
theorem loop2_1 {elt t1 it1 t2 it2 : Expr} {scope : Scope} {pos : Pos} {it acc : Value} {env : Env} (I : Nat → Shared → Prop)
    (turn : ∀ n s, I n s → wpAny (model prog w) A (pyNext it) (fun r s₁ => match r with
      | none => R (.ok .next) s₁
      | some v => wpAny (model prog w) A (assign t2 env v) (fun _ s₂ => wpAny (model prog w) A (eval elt env) (fun x s₃ =>
          wpAny (model prog w) A (call (.builtin "list.append") [acc, x]) (fun _ s₄ => ∃ m, m < n ∧ I m s₄) (notedBy (model prog w) A env fun e s' => R (.error e) s') s₃)
          (notedBy (model prog w) A env fun e s' => R (.error e) s') s₂) (notedBy (model prog w) A env fun e s' => R (.error e) s') s₁) (notedBy (model prog w) A env fun e s' => R (.error e) s') s)
    (n : Nat) (h : I n s) (ht : ∀ v, letOwnedTupleGo t2 it v = pure () := by intro _; rfl) :
    codeAny (model prog w) A (.compLoop (flatE elt t1 it1 t2 it2 scope pos) 1 it acc env) R s := by
  refine codeAny_loop rfl I (fun n s hI => ?_) n h
  show wpAny _ _ ((compTurn (flatE elt t1 it1 t2 it2 scope pos) 1 it acc env).onRaise (fun x => do noteFrame x env; theTreesLotGoes x)) _ _ s
  refine wpAny_noted ?_
  rw [turn2_1]
  refine wpAny_bind (wpAny_standAt (wpAny_bind (wpAny_mono (turn n s hI) (fun r s₁ h₁ => ?_) fun _ _ h' => h')))
  cases r with
  | none => exact wpAny_pure h₁
  | some v =>
    refine wpAny_bind (wpAny_of_eq (ht v) ?_)
    refine wpAny_bind (wpAny_mono h₁ (fun _ s₂ h₂ => wpAny_bind (wpAny_bind (wpAny_mono h₂ (fun x s₃ h₃ => ?_) fun _ _ h' => h'))) fun _ _ h' => h')
    exact wpAny_bind (wpAny_mono h₃ (fun _ s₄ h₄ => wpAny_pure (wpAny_pure ⟨rfl, h₄⟩)) fun _ _ h' => h')
theorem loop2_0 {elt t1 it1 t2 it2 : Expr} {scope : Scope} {pos : Pos} {it acc : Value} {env : Env} (I : Nat → Shared → Prop)
    (turn : ∀ n s, I n s → wpAny (model prog w) A (pyNext it) (fun r s₁ => match r with
      | none => R (.ok .next) s₁
      | some v => wpAny (model prog w) A (assign t1 env v) (fun _ s₂ => wpAny (model prog w) A (eval it2 env) (fun x s₃ =>
          wpAny (model prog w) A (pyIter x) (fun j s₄ => codeAny (model prog w) A (.compStart (flatE elt t1 it1 t2 it2 scope pos) 1 j acc env) (fun r s₅ => match r with
            | .ok _ => ∃ m, m < n ∧ I m s₅
            | .error _ => False) s₄) (notedBy (model prog w) A env fun e s' => R (.error e) s') s₃)
          (notedBy (model prog w) A env fun e s' => R (.error e) s') s₂) (notedBy (model prog w) A env fun e s' => R (.error e) s') s₁) (notedBy (model prog w) A env fun e s' => R (.error e) s') s)
    (n : Nat) (h : I n s) (ht : ∀ v, letOwnedTupleGo t1 it v = pure () := by intro _; rfl) (hf : ∀ x, foldedSetIterable it2 env x = pure x := by intro _; rfl) :
    codeAny (model prog w) A (.compLoop (flatE elt t1 it1 t2 it2 scope pos) 0 it acc env) R s := by
  refine codeAny_loop rfl I (fun n s hI => ?_) n h
  show wpAny _ A ((compTurn (flatE elt t1 it1 t2 it2 scope pos) 0 it acc env).onRaise (fun x => do noteFrame x env; theTreesLotGoes x)) _ _ s
  refine wpAny_noted ?_
  rw [turn2_0]
  refine wpAny_bind (wpAny_standAt (wpAny_bind (wpAny_mono (turn n s hI) (fun r s₁ h₁ => ?_) fun _ _ h' => h')))
  cases r with
  | none => exact wpAny_pure h₁
  | some v =>
    refine wpAny_bind (wpAny_of_eq (ht v) ?_)
    refine wpAny_bind (wpAny_mono h₁ (fun _ s₂ h₂ => wpAny_bind (wpAny_mono h₂ (fun x s₃ h₃ => ?_) fun _ _ h' => h')) fun _ _ h' => h')
    refine wpAny_bind (wpAny_standAt (wpAny_bind (wpAny_of_eq (hf x) (wpAny_bind (wpAny_holding (wpAny_mono h₃ (fun j s₄ h₄ => ?_) fun _ _ h' => h'))))))
    refine wpAny_bind (wpAny_runOwn ?_)
    rw [Around.mark_none]
    refine codeAny_mono h₄ fun r s₅ h₅ => ?_
    cases r with
    | ok f => exact wpAny_pure ⟨rfl, h₅⟩
    | error e => exact h₅.elim
abbrev lstO (ys : List Value) : Obj := { cls := .type "list", data := .seq ys.toArray ys.length }
theorem lstO_snoc (ys : List Value) (y : Value) : ({ cls := .type "list", data := .seq (ys.toArray.push y) (ys.length + 1) } : Obj) = lstO (ys ++ [y]) := by
  show ({ cls := .type "list", data := .seq (ys.toArray.push y) (ys.length + 1) } : Obj) = { cls := .type "list", data := .seq (ys ++ [y]).toArray (ys ++ [y]).length }
  rw [List.length_append, List.length_singleton, List.push_toArray]
/-- the inner walk: every item of one list -/
theorem flat_inner {x y : PySem.Str} {p1 p2 p3 p4 : Pos} {it1 : Expr} {scope : Scope} {pos : Pos} {cenv : Env} {s₁ : Shared} {I ax D J bx : Addr} {i : Nat} {items : List Value} {pre : List Value} {m₀ : PySem.Str → Option Value} {R : Result → Shared → Prop}
    (hh : A.handled = none) (hk : cenv.scope.kind = .function) (hy : cenv.kindOf y = some .local) (hyd : (y == ("__debug__" : PySem.Str)) = false)
    (dJD : J ≠ D) (dJC : J ≠ cenv.locals) (dJI : J ≠ I) (dDC : D ≠ cenv.locals) (dDI : D ≠ I) (dIC : I ≠ cenv.locals)
    (hold : ∀ b o, s₁.heap.get? b = some o → b ≠ J ∧ b ≠ D ∧ b ≠ cenv.locals)
    (hsz : (pre ++ items).length ≤ sizeLine) {h : Heap} {tk : Nat}
    (hb : s₁.heap.IsList bx items.toArray) (hJ : h.IsListIter J bx 0) (hI : h.IsListIter I ax i) (hD : h.get? D = some (lstO pre)) (hC : h.Ns cenv.locals m₀) (keep : ∀ b o, s₁.heap.get? b = some o → h.get? b = some o)
    (hR : ∀ h' tk' m', h'.IsListIter I ax i → h'.get? D = some (lstO (pre ++ items)) → h'.Ns cenv.locals m' → (∀ b o, s₁.heap.get? b = some o → h'.get? b = some o) → R (.ok .next) { s₁ with heap := h', toks := tk' }) :
    codeAny (model prog w) A (.compLoop (flatE (.Name y p1) (.Name x p2) it1 (.Name y p3) (.Name x p4) scope pos) 1 (.ref J) (.ref D) cenv) R { s₁ with heap := h, toks := tk } := by
  refine loop2_1 (fun n s' => ∃ h' tk' j m', s' = { s₁ with heap := h', toks := tk' } ∧ j ≤ items.length ∧ n = items.length + 1 - j ∧ h'.IsListIter J bx j ∧ h'.IsListIter I ax i ∧ h'.get? D = some (lstO (pre ++ items.take j)) ∧ h'.Ns cenv.locals m' ∧ ∀ b o, s₁.heap.get? b = some o → h'.get? b = some o) ?_
    (items.length + 1) ⟨h, tk, 0, m₀, rfl, Nat.zero_le _, rfl, hJ, hI, by simpa using hD, hC, keep⟩
  rintro n s' ⟨h', tk', j, m', rfl, hj, rfl, hJ', hI', hD', hC', keep'⟩
  have hb' : h'.IsList bx items.toArray := hb.at fun o e => keep' _ o e
  obtain ⟨ob, hob, _⟩ := id hb
  have hbJ : bx ≠ J := (hold bx ob hob).1
  by_cases hlt : j < items.length
  · refine wpAny_pyNext_list_item hJ' hb' (x := items[j]) (by simp [hlt]) fun h2 hJ2 hs2 => ?_
    refine wpAny_assign_Name (wpAny_storeName_local hy (hC'.at' fun o e => hs2.extBut _ o (Ne.symm dJC) e) (fun h3 hC3 hs3 => ?_) (by simp [hk]))
    refine wpAny_Name (wpAny_loadName_local hk hy hC3 (v := items[j]) (by simp) ?_) hyd
    have hD3 : h3.get? D = some (lstO (pre ++ items.take j)) := hs3.extBut _ _ dDC (hs2.extBut _ _ (Ne.symm dJD) hD')
    refine append_at (hsz := ?hz) hD3 fun h4 hs4 hD4 => ?_
    case hz =>
      rw [List.size_toArray]
      refine Nat.le_trans ?_ hsz
      rw [List.length_append, List.length_append, List.length_take]; omega
    · refine ⟨items.length + 1 - (j + 1), by omega, h4, _, j + 1, _, rfl, hlt, rfl, (hJ2.extBut hs3.extBut dJC).extBut hs4.extBut dJD, ((hI'.extBut hs2.extBut (Ne.symm dJI)).extBut hs3.extBut dIC).extBut hs4.extBut (Ne.symm dDI), ?_, hC3.at' fun o e => hs4.extBut _ o (Ne.symm dDC) e, fun b o e => ?_⟩
      · rw [hD4, lstO_snoc, List.append_assoc]
        have : items.take (j + 1) = items.take j ++ [items[j]] := List.take_succ_eq_append_getElem hlt
        rw [this]
      · obtain ⟨k1, k2, k3⟩ := hold b o e
        exact hs4.extBut b o k2 (hs3.extBut b o k3 (hs2.extBut b o k1 (keep' b o e)))
  · obtain rfl : j = items.length := by omega
    refine wpAny_pyNext_list_end hh hJ' hb' (by simp) fun h2 he2 => ?_
    refine hR h2 tk' m' (hI'.extBut he2 (Ne.symm dJI)) ?_ (hC'.at' fun o e => he2 _ o (Ne.symm dJC) e) fun b o e => he2 b o (hold b o e).1 (keep' b o e)
    rw [List.take_length] at hD'
    exact he2 _ _ (Ne.symm dJD) hD'
theorem flat_outer {x y : PySem.Str} {p1 p2 p3 p4 : Pos} {it1 : Expr} {scope : Scope} {pos : Pos} {cenv : Env} {s₁ : Shared} {I ax D : Addr} {ls : List (Addr × List Value)} {m₀ : PySem.Str → Option Value} {R : Result → Shared → Prop}
    (hh : A.handled = none) (hk : cenv.scope.kind = .function) (hx : cenv.kindOf x = some .local) (hxd : (x == ("__debug__" : PySem.Str)) = false) (hy : cenv.kindOf y = some .local) (hyd : (y == ("__debug__" : PySem.Str)) = false)
    (dDC : D ≠ cenv.locals) (dDI : D ≠ I) (dIC : I ≠ cenv.locals)
    (hold : ∀ b o, s₁.heap.get? b = some o → b ≠ I ∧ b ≠ D ∧ b ≠ cenv.locals)
    (hsz : (ls.flatMap (·.2)).length ≤ sizeLine) {h : Heap} {tk : Nat}
    (hax : s₁.heap.IsList ax (ls.map fun p => Value.ref p.1).toArray) (hls : ∀ p ∈ ls, s₁.heap.IsList p.1 p.2.toArray)
    (hI : h.IsListIter I ax 0) (hD : h.get? D = some (lstO [])) (hC : h.Ns cenv.locals m₀) (keep : ∀ b o, s₁.heap.get? b = some o → h.get? b = some o)
    (hR : ∀ h' tk' m', h'.get? D = some (lstO (ls.flatMap (·.2))) → h'.Ns cenv.locals m' → (∀ b o, s₁.heap.get? b = some o → h'.get? b = some o) → R (.ok .next) { s₁ with heap := h', toks := tk' }) :
    codeAny (model prog w) A (.compLoop (flatE (.Name y p1) (.Name x p2) it1 (.Name y p3) (.Name x p4) scope pos) 0 (.ref I) (.ref D) cenv) R { s₁ with heap := h, toks := tk } := by
  refine loop2_0 (fun n s' => ∃ h' tk' i m', s' = { s₁ with heap := h', toks := tk' } ∧ i ≤ ls.length ∧ n = ls.length + 1 - i ∧ h'.IsListIter I ax i ∧ h'.get? D = some (lstO ((ls.take i).flatMap (·.2))) ∧ h'.Ns cenv.locals m' ∧ ∀ b o, s₁.heap.get? b = some o → h'.get? b = some o) ?_
    (ls.length + 1) ⟨h, tk, 0, m₀, rfl, Nat.zero_le _, rfl, hI, by simpa using hD, hC, keep⟩
  rintro n s' ⟨h', tk', i, m', rfl, hi, rfl, hI', hD', hC', keep'⟩
  have ha' : h'.IsList ax (ls.map fun p => Value.ref p.1).toArray := hax.at fun o e => keep' _ o e
  obtain ⟨oa, hoa, _⟩ := id hax
  by_cases hlt : i < ls.length
  · refine wpAny_pyNext_list_item hI' ha' (x := .ref ls[i].1) (by simp [hlt]) fun h2 hI2 hs2 => ?_
    refine wpAny_assign_Name (wpAny_storeName_local hx (hC'.at' fun o e => hs2.extBut _ o (Ne.symm dIC) e) (fun h3 hC3 hs3 => ?_) (by simp [hk]))
    refine wpAny_Name (wpAny_loadName_local hk hx hC3 (v := .ref ls[i].1) (by simp) ?_) hxd
    have keep3 : ∀ b o, s₁.heap.get? b = some o → h3.get? b = some o := fun b o e => by
      obtain ⟨k1, k2, k3⟩ := hold b o e
      exact hs3.extBut b o k3 (hs2.extBut b o k1 (keep' b o e))
    have hb := hls ls[i] (List.getElem_mem hlt)
    have hb3 : h3.IsList ls[i].1 ls[i].2.toArray := hb.at fun o e => keep3 _ o e
    have hD3 : h3.get? D = some (lstO ((ls.take i).flatMap (·.2))) := hs3.extBut _ _ dDC (hs2.extBut _ _ dDI hD')
    have hI3 : h3.IsListIter I ax (i + 1) := hI2.extBut hs3.extBut dIC
    refine wpAny_pyIter_list hb3 ?_
    have up : ∀ b o, h3.get? b = some o → (h3.push { cls := .type "list_iterator", data := .fields #[.ref ls[i].1, .int 0 0] }).get? b = some o := fun b o e => Heap.get?_push_of_some _ e
    have lt : ∀ b o, h3.get? b = some o → h3.objs.size ≠ b := fun b o e => Ne.symm (Nat.ne_of_lt (Heap.lt_size e))
    obtain ⟨oI, hoI, _⟩ := id hI3
    have htk : ls.take (i + 1) = ls.take i ++ [ls[i]] := List.take_succ_eq_append_getElem hlt
    have inner : codeAny (model prog w) A (.compLoop (flatE (.Name y p1) (.Name x p2) it1 (.Name y p3) (.Name x p4) scope pos) 1 (.ref h3.objs.size) (.ref D) cenv)
        (fun r s₅ => match r with
          | .ok _ => ∃ m, m < ls.length + 1 - i ∧ ∃ h' tk' i m', s₅ = { s₁ with heap := h', toks := tk' } ∧ i ≤ ls.length ∧ m = ls.length + 1 - i ∧ h'.IsListIter I ax i ∧ h'.get? D = some (lstO ((ls.take i).flatMap (·.2))) ∧ h'.Ns cenv.locals m' ∧ ∀ b o, s₁.heap.get? b = some o → h'.get? b = some o
          | .error _ => False) { s₁ with heap := h3.push { cls := .type "list_iterator", data := .fields #[.ref ls[i].1, .int 0 0] }, toks := tk' + 1 } := by
      refine flat_inner (s₁ := s₁) (bx := ls[i].1) (items := ls[i].2) (i := i + 1) (ax := ax) (I := I) (pre := (ls.take i).flatMap (·.2)) hh hk hy hyd (lt _ _ hD3) (Ne.symm (Nat.ne_of_lt hC3.lt)) (lt _ _ hoI) dDC dDI dIC (fun b o e => ⟨Ne.symm (lt b o (keep3 b o e)), (hold b o e).2.1, (hold b o e).2.2⟩) ?_ hb ⟨_, Heap.get?_push_size _ rfl, rfl, rfl⟩ (hI3.at fun o e => up _ o e) (up _ _ hD3) (hC3.at' fun o e => up _ o e) (fun b o e => up b o (keep3 b o e)) ?_
      · refine Nat.le_trans ?_ hsz
        have e : ls.flatMap (·.2) = (ls.take i).flatMap (·.2) ++ (ls[i].2 ++ (ls.drop (i + 1)).flatMap (·.2)) := by
          conv => lhs; rw [← List.take_append_drop i ls, List.drop_eq_getElem_cons hlt, List.flatMap_append, List.flatMap_cons]
        rw [e]
        simp only [List.length_append]
        omega
      · intro h5 tk5 m5 hI5 hD5 hC5 keep5
        refine ⟨ls.length + 1 - (i + 1), by omega, h5, tk5, i + 1, m5, rfl, hlt, rfl, hI5, ?_, hC5, keep5⟩
        rw [hD5, htk, List.flatMap_append]
        simp
    exact start2_1 inner (wpAny_pyIter_listiter ⟨_, Heap.get?_push_size _ rfl, rfl, rfl⟩ inner)
  · obtain rfl : i = ls.length := by omega
    refine wpAny_pyNext_list_end hh hI' ha' (by simp) fun h2 he2 => ?_
    refine hR h2 tk' m' ?_ (hC'.at' fun o e => he2 _ o (Ne.symm dIC) e) fun b o e => he2 b o (hold b o e).1 (keep' b o e)
    rw [List.take_length] at hD'
    exact he2 _ _ dDI hD'
/-- [y for x in xs for y in x] -/
theorem flat_comp {x y : PySem.Str} {p1 p2 p3 p4 : Pos} {iter : Expr} {scope : Scope} {pos : Pos} {env : Env} {cl : List (PySem.Str × Addr)} {Q : Value → Shared → Prop}
    (hclos : closureFor scope env = pure cl) (hcell : ∀ z ∈ scope.names, z.2 ≠ .cell) (hkind : scope.kind = .function)
    (hnames : ∀ z ∈ scope.names, z.2 = .local → scope.names.lookup z.1 = some .local) (hx : scope.names.lookup x = some .local) (hy : scope.names.lookup y = some .local)
    (hxd : (x == ("__debug__" : PySem.Str)) = false) (hyd : (y == ("__debug__" : PySem.Str)) = false)
    (h : wpAny (model prog w) A (eval iter env) (fun xv s₁ => Hold (∃ ax, ∃ ls : List (Addr × List Value), xv = .ref ax ∧ A.handled = none ∧ s₁.heap.IsList ax (ls.map fun p => Value.ref p.1).toArray ∧ (∀ p ∈ ls, s₁.heap.IsList p.1 p.2.toArray) ∧ (ls.flatMap (·.2)).length ≤ sizeLine ∧
      ∀ D h' tk, (∀ b o, s₁.heap.get? b = some o → h'.get? b = some o) → s₁.heap.get? D = none → h'.get? D = some (lstO (ls.flatMap (·.2))) → Q (.ref D) { s₁ with heap := h', toks := tk })) E s)
    (hs : ∀ x, foldedSetIterable iter env x = pure x := by intro _; rfl) :
    wpAny (model prog w) A (eval (flatE (.Name y p1) (.Name x p2) iter (.Name y p3) (.Name x p4) scope pos) env) Q E s := by
  rw [eval_ListComp]
  refine wpAny_comprehension_free (use := none) rfl hs hclos hkind hnames (wpAny_mono h (fun xv s₁ h₁ => ?_) fun _ _ e => e)
  obtain ⟨ax, ls, rfl, hh, hax, hls, hsz, hQ⟩ := h₁
  refine wpAny_pyIter_list hax ?_
  refine wpAny_newObj_type (wpAny_newFunctionEnv hcell (by intro y hy; simp at hy) (fun h₁ hns₁ hsb₁ => ?_) hkind)
  dsimp only at hns₁ hsb₁ ⊢
  generalize hH1 : s₁.heap.push { cls := .type "list_iterator", data := .fields #[.ref ax, .int 0 0] } = H1 at hns₁ hsb₁ ⊢
  generalize hH2 : H1.push { cls := .type "list", dict := none, data := .seq ([] : List Value).toArray } = H2 at hns₁ hsb₁ ⊢
  have hD : H1.objs.size = s₁.heap.objs.size + 1 := by rw [← hH1, Heap.size_push]
  have hC : H2.objs.size = s₁.heap.objs.size + 2 := by rw [← hH2, Heap.size_push, hD]
  have dIC : s₁.heap.objs.size ≠ H2.objs.size := by rw [hC]; exact Nat.ne_of_lt (Nat.lt_add_of_pos_right (by decide))
  have dID : s₁.heap.objs.size ≠ H1.objs.size := by rw [hD]; exact Nat.ne_of_lt (Nat.lt_succ_self _)
  have dDC : H1.objs.size ≠ H2.objs.size := by rw [hC, hD]; exact Nat.ne_of_lt (Nat.lt_succ_self _)
  have up1 : ∀ b o, s₁.heap.get? b = some o → H1.get? b = some o := fun b o e => hH1 ▸ Heap.get?_push_of_some _ e
  have up2 : ∀ b o, H1.get? b = some o → H2.get? b = some o := fun b o e => hH2 ▸ Heap.get?_push_of_some _ e
  have up3 : ∀ b o, H2.get? b = some o → h₁.get? b = some o := fun b o e => hsb₁.extBut b o (Nat.ne_of_lt (Heap.lt_size e)) (Heap.get?_push_of_some _ e)
  have hold : ∀ b o, s₁.heap.get? b = some o → b ≠ s₁.heap.objs.size ∧ b ≠ H1.objs.size ∧ b ≠ H2.objs.size := fun b o e => by
    have hb := Heap.lt_size e
    refine ⟨Nat.ne_of_lt hb, ?_, ?_⟩
    · rw [hD]; exact Nat.ne_of_lt (Nat.lt_succ_of_lt hb)
    · rw [hC]; exact Nat.ne_of_lt (Nat.lt_add_right 2 hb)
  have hI1 : H1.IsListIter s₁.heap.objs.size ax 0 := ⟨_, hH1 ▸ Heap.get?_push_size _ rfl, rfl, rfl⟩
  have hI : h₁.IsListIter s₁.heap.objs.size ax 0 := hI1.at fun o e => up3 _ o (up2 _ o e)
  have hD1 : h₁.get? H1.objs.size = some (lstO []) := up3 _ _ (hH2 ▸ Heap.get?_push_size _ rfl)
  have fresh : s₁.heap.get? H1.objs.size = none := by
    cases e : s₁.heap.get? H1.objs.size with
    | none => rfl
    | some o => exact absurd rfl (hold _ o e).2.1
  have loop : codeAny (model prog w) A (.compLoop (flatE (.Name y p1) (.Name x p2) iter (.Name y p3) (.Name x p4) scope pos) 0 (.ref s₁.heap.objs.size) (.ref H1.objs.size) (compEnvC scope cl H2.objs.size env))
      (compPost (model prog w) A E none Q (.ref H1.objs.size) H2.objs.size) { s₁ with heap := h₁, toks := s₁.toks + ([] : List (PySem.Str × Value)).length } := by
    refine flat_outer (s₁ := s₁) (ls := ls) (ax := ax) (cenv := compEnvC scope cl H2.objs.size env) hh hkind (lookup_relabel_local hx) hxd (lookup_relabel_local hy) hyd dDC (Ne.symm dID) dIC hold hsz hax hls hI hD1 hns₁ (fun b o e => up3 b o (up2 b o (up1 b o e))) ?_
    intro h' tk' m' hD' hC' keep'
    refine ⟨m', hC', fun h'' hs'' => hQ _ _ _ (fun b o e => hs''.extBut b o (hold b o e).2.2 (keep' b o e)) fresh (hs''.extBut _ _ dDC hD')⟩
  exact codeAny_compStart_list loop (wpAny_pyIter_listiter hI loop)
end
end Mine
end
section
open PySem PySem.W PyProof.Rows PySem.Calls PySem.Spec
set_option Elab.async false
set_option maxRecDepth 100000
set_option maxHeartbeats 8000000
set_option linter.unusedVariables false
namespace Mine
/-! a comprehension of one clause, whatever its target: the elements only make new objects -/
abbrev Grow (h h' : Heap) : Prop := ∀ b o, h.get? b = some o → h'.get? b = some o
def testsOf (ifs : List Expr) (env : Env) : Sem Bool := forIn ifs true fun c r => if r = true then do let ok ← isTrue c env (eval c env); pure (ForInStep.yield ok) else pure (ForInStep.yield r)
section
variable {prog : Program} {w : World} {A : Around} {E : Value → Shared → Prop} {R : Result → Shared → Prop} {s : Shared}
theorem loopG {elt target iter : Expr} {ifs : List Expr} {scope : Scope} {pos : Pos} {it acc : Value} {env : Env} (I : Nat → Shared → Prop)
    (turn : ∀ n s, I n s → wpAny (model prog w) A (pyNext it) (fun r s₁ => match r with
      | none => R (.ok .next) s₁
      | some v => wpAny (model prog w) A (letOwnedTupleGo target it v) (fun _ s₀ => wpAny (model prog w) A (assign target env v) (fun _ s₂ =>
          wpAny (model prog w) A (testsOf ifs env) (fun ok s₃ => if ok = true then wpAny (model prog w) A (eval elt env) (fun x s₄ =>
            wpAny (model prog w) A (call (.builtin "list.append") [acc, x]) (fun _ s₅ => ∃ m, m < n ∧ I m s₅) (fun _ _ => False) s₄) (fun _ _ => False) s₃
            else ∃ m, m < n ∧ I m s₃) (fun _ _ => False) s₂)
          (fun _ _ => False) s₀) (fun _ _ => False) s₁) (fun _ _ => False) s)
    (n : Nat) (h : I n s) : codeAny (model prog w) A (.compLoop (.ListComp elt [⟨target, iter, ifs, 0⟩] scope pos) 0 it acc env) R s := by
  refine codeAny_loop rfl I (fun n s hI => ?_) n h
  show wpAny _ A ((compTurn (.ListComp elt [⟨target, iter, ifs, 0⟩] scope pos) 0 it acc env).onRaise (fun x => do noteFrame x env; theTreesLotGoes x)) _ _ s
  refine wpAny_noted ?_
  rw [compTurn_list]
  refine wpAny_bind (wpAny_standAt (wpAny_bind (wpAny_mono (turn n s hI) (fun r s₁ h₁ => ?_) fun _ _ h' => h'.elim)))
  cases r with
  | none => exact wpAny_pure h₁
  | some v =>
    refine wpAny_bind (wpAny_mono h₁ (fun _ s₀ h₀' => ?_) fun _ _ h' => h'.elim)
    refine wpAny_bind (wpAny_mono h₀' (fun _ s₂ h₂ => ?_) fun _ _ h' => h'.elim)
    refine wpAny_bind (wpAny_mono h₂ (fun okb s₃ h₃ => ?_) fun _ _ h' => h'.elim)
    cases okb with
    | false => exact wpAny_pure ⟨rfl, h₃⟩
    | true => exact wpAny_bind (wpAny_bind (wpAny_mono h₃ (fun x s₄ h₄ => wpAny_bind (wpAny_mono h₄ (fun _ s₅ h₅ => wpAny_pure (wpAny_pure ⟨rfl, h₅⟩)) fun _ _ h' => h'.elim)) fun _ _ h' => h'.elim))
theorem env_cells {scope : Scope} {globals : Addr} {cl : List (PySem.Str × Addr)} {qual : PySem.Str} {env : Env} {Q : Env → Shared → Prop}
    (h : Q (newEnv scope s.heap.objs.size globals (cellsFrom (s.heap.objs.size + 1) scope.names cl) qual none .none (some env) builtinsNs) { s with heap := pushCells (s.heap.push { cls := .type "dict", data := .dict #[] }) scope.names }) :
    wpAny (model prog w) A (newFunctionEnv scope globals cl [] qual none .none (some env)) Q E s := by
  simp only [newFunctionEnv, Option.isSome_some, if_true]
  refine wpAny_bind (wpAny_alloc ?_)
  refine wpAny_bind (wpAny_layCells _ (fun name kind cells => by cases hkc : kind == NameKind.cell <;> simp [hkc]) _ _ _ _ ?_)
  rw [show ({ s with heap := s.heap.push { cls := .type "dict", data := .dict #[] } } : Shared).heap.objs.size = s.heap.objs.size + 1 from Heap.size_push ..]
  refine wpAny_bind (wpAny_pure ?_)
  exact wpAny_pure h
end
theorem cellsFrom_acc : ∀ (names : List (PySem.Str × NameKind)) (n : Nat) (acc : List (PySem.Str × Addr)), cellsFrom n names acc = cellsFrom n names [] ++ acc
  | [], n, acc => rfl
  | (name, kind) :: r, n, acc => by
    unfold cellsFrom
    split
    · rw [cellsFrom_acc r (n + 1) ((name, n) :: acc), cellsFrom_acc r (n + 1) [(name, n)], List.append_assoc]; rfl
    · exact cellsFrom_acc r n acc
/-- a cell at c -/
def CellAt (h : Heap) (c : Addr) : Prop := ∃ o v, h.get? c = some o ∧ o.data = .cell v
def KcTo (h₀ : Heap) (L : Addr) (m : PySem.Str → Option Value) (s₂ : Shared) (base int : List (Addr × Obj)) (J : List (Addr × Obj) → Prop) (s₄ : Shared) : Prop :=
  ∃ h' tk' news' all, s₄ = { s₂ with heap := h', toks := tk' } ∧ Fr h₀ L h' m ∧ News h₀ L h' all ∧ (∀ p ∈ int, p ∈ all) ∧ (∀ p ∈ base, p ∈ news') ∧ (∀ p ∈ news', p ∈ all ∧ ∀ q ∈ int, p.1 ≠ q.1) ∧ J news'
theorem kcTo {h₀ : Heap} {L : Addr} {m : PySem.Str → Option Value} {s₂ : Shared} {base int : List (Addr × Obj)} {J : List (Addr × Obj) → Prop} {h' : Heap} {tk' : Nat} {all : List (Addr × Obj)} (F : Fr h₀ L h' m) (N : News h₀ L h' all) (news' : List (Addr × Obj)) (h1 : ∀ p ∈ int, p ∈ all) (h2 : ∀ p ∈ base, p ∈ news')
    (h3 : ∀ p ∈ news', p ∈ all) (h4 : ∀ p ∈ news', ∀ q ∈ int, p.1 ≠ q.1) (hJ : J news') : KcTo h₀ L m s₂ base int J { s₂ with heap := h', toks := tk' } := ⟨h', tk', news', all, rfl, F, N, h1, h2, fun p hp => ⟨h3 p hp, h4 p hp⟩, hJ⟩
abbrev ownC (scope : Scope) (C : Addr) : List Addr := (cellsFrom (C + 1) scope.names []).map (·.2)
abbrev kEnv (scope : Scope) (cl : List (PySem.Str × Addr)) (C : Addr) (env : Env) : Env := compEnvC scope (cellsFrom (C + 1) scope.names cl) C env
section
variable {prog : Program} {w : World} {A : Around} {E : Value → Shared → Prop} {s : Shared}
def KcAsg (prog : Program) (w : World) (A : Around) (h₀ : Heap) (L : Addr) (target : Expr) (scope : Scope) (cl : List (PySem.Str × Addr)) (env : Env) (s₂ : Shared) (base : List (Addr × Obj)) (P : Nat → Value → Prop) (After : Value → Addr → Heap → Prop) : Prop :=
  ∀ (v : Value) (i : Nat) (C : Addr) (h : Heap) (tk : Nat) (m : PySem.Str → Option Value) (Q : Unit → Shared → Prop), P i v → h.Ns C m → (∀ c ∈ ownC scope C, CellAt h c ∧ c ≠ C) → News h₀ L h base →
    (∀ h' tk' m', (∀ b o, b ≠ C → b ∉ ownC scope C → h.get? b = some o → h'.get? b = some o) → h'.Ns C m' → (∀ c ∈ ownC scope C, CellAt h' c) → After v C h' → Q () { s₂ with heap := h', toks := tk' }) →
    wpAny (model prog w) A (assign target (kEnv scope cl C env) v) Q (fun _ _ => False) { s₂ with heap := h, toks := tk }
def KcTurn (prog : Program) (w : World) (A : Around) (h₀ : Heap) (L : Addr) (mf : PySem.Str → Option Value) (elt : Expr) (ifs : List Expr) (scope : Scope) (cl : List (PySem.Str × Addr)) (env : Env) (s₂ : Shared) (base : List (Addr × Obj)) (n : Nat) (P : Nat → Value → Prop) (After : Value → Addr → Heap → Prop) (Inv : Nat → List Value → List (Addr × Obj) → Prop) : Prop :=
  ∀ (i : Nat) (v : Value) (ys : List Value) (news own : List (Addr × Obj)) (I C D : Addr) (oI oC : Obj) (h : Heap) (tk : Nat), i < n → P i v → Inv i ys news → (∀ p ∈ base, p ∈ news) → After v C h → own.map (·.1) = ownC scope C → Fr h₀ L h mf →
    News h₀ L h (((I, oI) :: (C, oC) :: (D, lstO ys) :: own) ++ news) → (∀ p ∈ news, ∀ q ∈ (I, oI) :: (C, oC) :: (D, lstO ys) :: own, p.1 ≠ q.1) →
    wpAny (model prog w) A (testsOf ifs (kEnv scope cl C env)) (fun ok s₃ => if ok = true then
      wpAny (model prog w) A (eval elt (kEnv scope cl C env)) (fun y s₄ => Hold (KcTo h₀ L mf s₂ base ((I, oI) :: (C, oC) :: (D, lstO ys) :: own) (Inv (i + 1) (ys ++ [y])) s₄)) (fun _ _ => False) s₃
      else Hold (KcTo h₀ L mf s₂ base ((I, oI) :: (C, oC) :: (D, lstO ys) :: own) (Inv (i + 1) ys) s₃)) (fun _ _ => False) { s₂ with heap := h, toks := tk }
theorem own_objs {h : Heap} : ∀ {cs : List Addr}, (∀ c ∈ cs, CellAt h c) → ∃ own : List (Addr × Obj), own.map (·.1) = cs ∧ ∀ p ∈ own, h.get? p.1 = some p.2 ∧ ∃ v, p.2.data = .cell v
  | [], _ => ⟨[], rfl, fun p hp => nomatch hp⟩
  | c :: cs, hx => by
    obtain ⟨own, e, hl⟩ := own_objs (cs := cs) fun c' hc' => hx c' (.tail _ hc')
    obtain ⟨o, v, ho, hd⟩ := hx c (.head _)
    refine ⟨(c, o) :: own, by rw [List.map_cons, e], fun p hp => ?_⟩
    rcases List.mem_cons.mp hp with rfl | hp
    · exact ⟨ho, v, hd⟩
    · exact hl p hp
theorem kc_block {elt target iter : Expr} {ifs : List Expr} {scope : Scope} {cl : List (PySem.Str × Addr)} {pos : Pos} {env : Env} {s₂ : Shared} {I : Addr} {fp : List Addr} {n : Nat} {P : Nat → Value → Prop} {St : Nat → Heap → Prop} {h₀ : Heap} {L : Addr} {mf : PySem.Str → Option Value} {base : List (Addr × Obj)}
    {Inv : Nat → List Value → List (Addr × Obj) → Prop} {After : Value → Addr → Heap → Prop} {RR : Value → Addr → Result → Shared → Prop}
    (W : Walks prog w A I fp [I] n P St) (hsz : n ≤ sizeLine) (hIo : ∀ i h, St i h → ∃ o, h.get? I = some o) (hst : St 0 s₂.heap) (hfp : ∀ b ∈ fp, b < s₂.heap.objs.size)
    (hSt : ∀ i h h' o, St i h → h.get? I = some o → h'.get? I = some o → Grow h₀ h' → News h₀ L h' base → St i h')
    (F : Fr h₀ L s₂.heap mf) (N : News h₀ L s₂.heap base) (hIL : L ≠ I) (hI₀ : h₀.get? I = none) (off : ∀ p ∈ base, p.1 ≠ I) (hkind : scope.kind = .function) (hI0 : Inv 0 [] base)
    (lgo : ∀ (v : Value) (i : Nat) (h : Heap) (tk : Nat) (Q : Unit → Shared → Prop), P i v → St (i + 1) h → Q () { s₂ with heap := h, toks := tk } → wpAny (model prog w) A (letOwnedTupleGo target (.ref I) v) Q (fun _ _ => False) { s₂ with heap := h, toks := tk })
    (asg : KcAsg prog w A h₀ L target scope cl env s₂ base P After)
    (turn : KcTurn prog w A h₀ L mf elt ifs scope cl env s₂ base n P After Inv)
    (fin : ∀ D C h tk m ys news, Inv n ys news → (∀ p ∈ base, p ∈ news) → Fr h₀ L h mf → News h₀ L h ((D, lstO ys) :: news) → (∀ p ∈ news, p.1 ≠ D ∧ p.1 ≠ C) → h.Ns C m → C ≠ D → C ≠ L → h₀.get? C = none → RR (.ref D) C (.ok .next) { s₂ with heap := h, toks := tk }) :
    wpAny (model prog w) A (newList []) (fun acc s₃ => wpAny (model prog w) A (newFunctionEnv scope env.globals cl [] env.qual none .none (some env)) (fun cenv s₄ =>
      codeAny (model prog w) A (.compStart (.ListComp elt [⟨target, iter, ifs, 0⟩] scope pos) 0 (.ref I) acc { cenv with scope := relabel scope env }) (RR acc cenv.locals) s₄) E s₃) E s₂ := by
  refine wpAny_newObj_type (env_cells ?_)
  dsimp only
  generalize hH2 : s₂.heap.push { cls := .type "list", dict := none, data := .seq ([] : List Value).toArray } = H2
  have hC : H2.objs.size = s₂.heap.objs.size + 1 := by rw [← hH2, Heap.size_push]
  generalize hH3 : H2.push { cls := .type "dict", data := .dict #[] } = H3
  have hS3 : H3.objs.size = s₂.heap.objs.size + 2 := by rw [← hH3, Heap.size_push, hC]
  have hok := cellsFrom_ok scope.names H3 (s₂.heap.objs.size + 2) [] ⟨fun _ _ hm => (nomatch hm), List.Pairwise.nil⟩ (Nat.le_of_eq hS3.symm)
  have hS3' : H3.objs.size = H2.objs.size + 1 := by rw [hS3, hC]
  rw [hS3'] at hok
  have hoc : ∀ c ∈ ownC scope H2.objs.size, (pushCells H3 scope.names).IsCell c none ∧ s₂.heap.objs.size + 2 ≤ c := fun c hc => by
    obtain ⟨q, hq, rfl⟩ := List.mem_map.mp hc
    exact hok.empty q.1 q.2 hq
  have up2 : ∀ b o, s₂.heap.get? b = some o → H2.get? b = some o := fun b o e => hH2 ▸ Heap.get?_push_of_some _ e
  have up3 : ∀ b o, H2.get? b = some o → H3.get? b = some o := fun b o e => hH3 ▸ Heap.get?_push_of_some _ e
  have up4 : ∀ b o, H3.get? b = some o → (pushCells H3 scope.names).get? b = some o := fun b o e => pushCells_keeps _ _ b o e
  have old : Grow s₂.heap (pushCells H3 scope.names) := fun b o e => up4 b o (up3 b o (up2 b o e))
  have hIf : I ∈ fp := W.sub I (List.mem_singleton.mpr rfl)
  have hIlt := hfp I hIf
  have small : ∀ b, b < s₂.heap.objs.size → b ≠ s₂.heap.objs.size ∧ b ≠ H2.objs.size ∧ b ∉ ownC scope H2.objs.size := fun b hb => by
    refine ⟨Nat.ne_of_lt hb, ?_, fun hm => ?_⟩
    · rw [hC]; exact Nat.ne_of_lt (Nat.lt_succ_of_lt hb)
    · have := (hoc b hm).2; omega
  have hDC : s₂.heap.objs.size ≠ H2.objs.size := by rw [hC]; exact Nat.ne_of_lt (Nat.lt_succ_self _)
  have hDo : s₂.heap.objs.size ∉ ownC scope H2.objs.size := fun hm => by have := (hoc _ hm).2; omega
  have hCo : H2.objs.size ∉ ownC scope H2.objs.size := fun hm => by have := (hoc _ hm).2; rw [hC] at this; omega
  have hDI : I ≠ s₂.heap.objs.size := (small I hIlt).1
  have hCI : I ≠ H2.objs.size := (small I hIlt).2.1
  have hoI : I ∉ ownC scope H2.objs.size := (small I hIlt).2.2
  have fresh : ∀ a, s₂.heap.objs.size ≤ a → h₀.get? a = none := fun a ha => by
    cases e : h₀.get? a with
    | none => rfl
    | some o' => exact absurd (Heap.lt_size (F.keep a o' e)) (Nat.not_lt.mpr ha)
  have hD₀ : h₀.get? s₂.heap.objs.size = none := fresh _ (Nat.le_refl _)
  have hC₀ : h₀.get? H2.objs.size = none := fresh _ (by rw [hC]; exact Nat.le_succ _)
  have ho₀ : ∀ c ∈ ownC scope H2.objs.size, h₀.get? c = none := fun c hc => fresh _ (by have := (hoc c hc).2; omega)
  have hLlt : L < s₂.heap.objs.size := F.ns.lt
  have hDL : s₂.heap.objs.size ≠ L := Ne.symm (small L hLlt).1
  have hCL : H2.objs.size ≠ L := Ne.symm (small L hLlt).2.1
  have hoL : L ∉ ownC scope H2.objs.size := (small L hLlt).2.2
  have hD0 : (pushCells H3 scope.names).get? s₂.heap.objs.size = some (lstO []) := up4 _ _ (up3 _ _ (hH2 ▸ Heap.get?_push_size _ rfl))
  have hC0 : (pushCells H3 scope.names).Ns H2.objs.size (fun _ => none) := (hH3 ▸ (Heap.Ns.new H2 (.type "dict")) : H3.Ns H2.objs.size (fun _ => none)).keeps fun b o e => up4 b o e
  have hne : ∀ c ∈ ownC scope H2.objs.size, c ≠ H2.objs.size := fun c hc q => hCo (q ▸ hc)
  have hb0 : ∀ p ∈ base, p.1 ≠ I ∧ p.1 ≠ s₂.heap.objs.size ∧ p.1 ≠ H2.objs.size ∧ p.1 ∉ ownC scope H2.objs.size := fun p hp => ⟨off p hp, small p.1 (Heap.lt_size (N p hp).1)⟩
  have base₀ : ∀ b o, h₀.get? b = some o → b ≠ I ∧ b ≠ s₂.heap.objs.size ∧ b ≠ H2.objs.size ∧ b ∉ ownC scope H2.objs.size := fun b o e =>
    ⟨(fun q => by rw [q, hI₀] at e; cases e), (fun q => by rw [q, hD₀] at e; cases e), (fun q => by rw [q, hC₀] at e; cases e), (fun q => by rw [ho₀ b q] at e; cases e)⟩
  have loop : ∀ s₃ : Shared, s₃ = { s₂ with heap := pushCells H3 scope.names } →
      codeAny (model prog w) A (.compLoop (.ListComp elt [⟨target, iter, ifs, 0⟩] scope pos) 0 (.ref I) (.ref s₂.heap.objs.size) (kEnv scope cl H2.objs.size env)) (RR (.ref s₂.heap.objs.size) H2.objs.size) s₃ := by
    rintro s₃ rfl
    refine loopG
      (fun k s' => ∃ h' tk i ys m' news, s' = { s₂ with heap := h', toks := tk } ∧ i ≤ n ∧ k = n + 1 - i ∧ ys.length ≤ i ∧ St i h' ∧ h'.Ns H2.objs.size m' ∧ (∀ c ∈ ownC scope H2.objs.size, CellAt h' c) ∧ Fr h₀ L h' mf ∧ News h₀ L h' ((s₂.heap.objs.size, lstO ys) :: news) ∧
        (∀ p ∈ news, p.1 ≠ I ∧ p.1 ≠ s₂.heap.objs.size ∧ p.1 ≠ H2.objs.size ∧ p.1 ∉ ownC scope H2.objs.size) ∧ (∀ p ∈ base, p ∈ news) ∧ Inv i ys news) ?_ (n + 1)
      ⟨_, s₂.toks, 0, [], _, base, rfl, Nat.zero_le _, rfl, Nat.le_refl _, W.frame _ _ _ hst fun b _ o e => old b o e, hC0, fun c hc => by obtain ⟨o, e, d⟩ := (hoc c hc).1; exact ⟨o, _, e, d⟩, F.keeps old, fun p hp => by
        rcases List.mem_cons.mp hp with rfl | hp
        · exact ⟨hD0, hDL, hD₀⟩
        · exact ⟨old _ _ (N p hp).1, (N p hp).2⟩, hb0, fun p hp => hp, hI0⟩
    rintro k s' ⟨h', tk, i, ys, m', news, rfl, hi, rfl, hyl, hst', hn', hc', F', N', off', hbs, hInv⟩
    by_cases hlt : i < n
    · refine W.item i _ _ _ hlt hst' fun v h₂ tk₂ hPv hst₂ hk₂ => ?_
      have keep₂ : ∀ b o, b ≠ I → h'.get? b = some o → h₂.get? b = some o := fun b o hb e => hk₂ b o (by simpa using hb) e
      refine lgo v i h₂ tk₂ _ hPv hst₂ ?_
      refine asg v i H2.objs.size h₂ tk₂ m' _ hPv (hn'.at' fun o e => keep₂ _ o (Ne.symm hCI) e) (fun c hc => ⟨by obtain ⟨o, x, e, d⟩ := hc' c hc; exact ⟨o, x, keep₂ c o (fun q => hoI (q ▸ hc)) e, d⟩, hne c hc⟩)
        (fun p hp => ⟨keep₂ _ _ (hb0 p hp).1 (N' p (.tail _ (hbs p hp))).1, (N' p (.tail _ (hbs p hp))).2⟩) ?_
      intro h₃ tk₃ m₃ hk₃ hn₃ hc₃ haf
      have keep₃ : ∀ b o, b ≠ I → b ≠ H2.objs.size → b ∉ ownC scope H2.objs.size → h'.get? b = some o → h₃.get? b = some o := fun b o h1 h2 h3 e => hk₃ b o h2 h3 (keep₂ b o h1 e)
      have F₃ : Fr h₀ L h₃ mf := ⟨F'.ns.at' fun o e => keep₃ L o hIL (Ne.symm hCL) hoL e, fun b o e => keep₃ b o (base₀ b o e).1 (base₀ b o e).2.2.1 (base₀ b o e).2.2.2 (F'.keep b o e), F'.above⟩
      have hst₃ : St (i + 1) h₃ := W.frame _ _ _ hst₂ fun b hb o e => hk₃ b o (small b (hfp b hb)).2.1 (small b (hfp b hb)).2.2 e
      obtain ⟨oI, hoI₃⟩ := hIo _ _ hst₃
      obtain ⟨oC, esC, epC, hoC₃, hrC⟩ := id hn₃
      obtain ⟨own, hown, hownl⟩ := own_objs hc₃
      have hownc : ∀ q ∈ own, q.1 ∈ ownC scope H2.objs.size := fun q hq => hown ▸ List.mem_map.mpr ⟨q, hq, rfl⟩
      have N₃ : News h₀ L h₃ (((I, oI) :: (H2.objs.size, oC) :: (s₂.heap.objs.size, lstO ys) :: own) ++ news) := fun p hp => by
        rcases List.mem_append.mp hp with hp | hp
        · rcases List.mem_cons.mp hp with rfl | hp
          · exact ⟨hoI₃, Ne.symm hIL, hI₀⟩
          rcases List.mem_cons.mp hp with rfl | hp
          · exact ⟨hoC₃, hCL, hC₀⟩
          rcases List.mem_cons.mp hp with rfl | hp
          · exact ⟨keep₃ _ _ (Ne.symm hDI) hDC hDo (N' _ (.head _)).1, hDL, hD₀⟩
          · exact ⟨(hownl p hp).1, fun q => hoL (by rw [← q]; exact hownc p hp), ho₀ _ (hownc p hp)⟩
        · have o := off' p hp
          exact ⟨keep₃ _ _ o.1 o.2.2.1 o.2.2.2 (N' p (.tail _ hp)).1, (N' p (.tail _ hp)).2⟩
      have off₃ : ∀ p ∈ news, ∀ q ∈ (I, oI) :: (H2.objs.size, oC) :: (s₂.heap.objs.size, lstO ys) :: own, p.1 ≠ q.1 := fun p hp q hq => by
        have o := off' p hp
        rcases List.mem_cons.mp hq with rfl | hq
        · exact o.1
        rcases List.mem_cons.mp hq with rfl | hq
        · exact o.2.2.1
        rcases List.mem_cons.mp hq with rfl | hq
        · exact o.2.1
        · exact fun e => o.2.2.2 (e ▸ hownc q hq)
      have back : ∀ {news' : List (Addr × Obj)}, (∀ p ∈ news', ∀ q ∈ (I, oI) :: (H2.objs.size, oC) :: (s₂.heap.objs.size, lstO ys) :: own, p.1 ≠ q.1) → ∀ p ∈ news', p.1 ≠ I ∧ p.1 ≠ s₂.heap.objs.size ∧ p.1 ≠ H2.objs.size ∧ p.1 ∉ ownC scope H2.objs.size := fun hx p hp => by
        refine ⟨hx p hp _ (.head _), hx p hp _ (.tail _ (.tail _ (.head _))), hx p hp _ (.tail _ (.head _)), fun q => ?_⟩
        rw [← hown] at q
        obtain ⟨r, hr, e⟩ := List.mem_map.mp q
        exact hx p hp r (.tail _ (.tail _ (.tail _ hr))) e.symm
      have after : ∀ {h₄ : Heap} {all : List (Addr × Obj)}, Fr h₀ L h₄ mf → News h₀ L h₄ all → (∀ p ∈ (I, oI) :: (H2.objs.size, oC) :: (s₂.heap.objs.size, lstO ys) :: own, p ∈ all) → News h₀ L h₄ base →
          St (i + 1) h₄ ∧ h₄.Ns H2.objs.size m₃ ∧ (∀ c ∈ ownC scope H2.objs.size, CellAt h₄ c) := fun F4 N4 hall hb4 => by
        refine ⟨hSt _ _ _ _ hst₃ hoI₃ (N4 _ (hall _ (.head _))).1 F4.keep hb4, ⟨oC, esC, epC, (N4 _ (hall _ (.tail _ (.head _)))).1, hrC⟩, fun c hc => ?_⟩
        rw [← hown] at hc
        obtain ⟨q, hq, rfl⟩ := List.mem_map.mp hc
        obtain ⟨x, hx⟩ := (hownl q hq).2
        exact ⟨q.2, x, (N4 _ (hall q (.tail _ (.tail _ (.tail _ hq))))).1, hx⟩
      refine wpAny_mono (turn i v ys news own I H2.objs.size s₂.heap.objs.size oI oC h₃ tk₃ hlt hPv hInv hbs haf hown F₃ N₃ off₃) (fun okb s₃ h3 => ?_) fun _ _ e => e
      cases okb with
      | false =>
        rw [if_neg (by decide)] at h3 ⊢
        obtain ⟨h₄, tk₄, news', all, rfl, F4, N4, hall, hb4, hn4, hI4⟩ := h3
        obtain ⟨a1, a2, a3⟩ := after F4 N4 hall (fun p hp => N4 p (hn4 p (hb4 p hp)).1)
        exact ⟨n + 1 - (i + 1), by omega, h₄, tk₄, i + 1, ys, m₃, news', rfl, hlt, rfl, Nat.le_succ_of_le hyl, a1, a2, a3, F4, fun p hp => by
          rcases List.mem_cons.mp hp with rfl | hp
          · exact N4 _ (hall _ (.tail _ (.tail _ (.head _))))
          · exact N4 p (hn4 p hp).1, back (fun p hp => (hn4 p hp).2), hb4, hI4⟩
      | true =>
        rw [if_pos rfl] at h3 ⊢
        refine wpAny_mono h3 (fun y s₄ h4 => ?_) fun _ _ e => e
        obtain ⟨h₄, tk₄, news', all, rfl, F4, N4, hall, hb4, hn4, hI4⟩ := h4
        obtain ⟨a1, a2, a3⟩ := after F4 N4 hall (fun p hp => N4 p (hn4 p (hb4 p hp)).1)
        have off4 := back (fun p hp => (hn4 p hp).2)
        refine append_at (hsz := by show ys.toArray.size ≤ sizeLine; rw [List.size_toArray]; exact Nat.le_trans hyl (Nat.le_trans hi hsz)) (N4 _ (hall _ (.tail _ (.tail _ (.head _))))).1 fun h₅ hs₅ hD₅ => ?_
        exact ⟨n + 1 - (i + 1), by omega, h₅, tk₄, i + 1, ys ++ [y], m₃, news', rfl, hlt, rfl, by rw [List.length_append, List.length_singleton]; exact Nat.succ_le_succ hyl, W.frame _ _ _ a1 fun b hb o e => hs₅.extBut b o (small b (hfp b hb)).1 e,
          a2.at' fun o e => hs₅.extBut _ o (Ne.symm hDC) e, fun c hc => by obtain ⟨o, x, e, d⟩ := a3 c hc; exact ⟨o, x, hs₅.extBut _ _ (fun q => hDo (q ▸ hc)) e, d⟩, F4.change hs₅ hDL hD₀, fun p hp => by
            rcases List.mem_cons.mp hp with rfl | hp
            · exact ⟨hD₅.trans (congrArg some (lstO_snoc ys y)), hDL, hD₀⟩
            · exact ⟨hs₅.extBut _ _ (off4 p hp).2.1 (N4 p (hn4 p hp).1).1, (N4 p (hn4 p hp).1).2⟩, off4, hb4, hI4⟩
    · obtain rfl : i = n := Nat.le_antisymm hi (Nat.not_lt.mp hlt)
      refine W.done _ _ _ hst' fun h₂ tk₂ hk₂ => ?_
      have keep₂ : ∀ b o, b ≠ I → h'.get? b = some o → h₂.get? b = some o := fun b o hb e => hk₂ b o (by simpa using hb) e
      exact fin _ _ h₂ tk₂ m' ys news hInv hbs ⟨F'.ns.at' fun o e => keep₂ L o hIL e, fun b o e => keep₂ b o (base₀ b o e).1 (F'.keep b o e), F'.above⟩ (fun p hp => by
        rcases List.mem_cons.mp hp with rfl | hp
        · exact ⟨keep₂ _ _ (Ne.symm hDI) (N' _ (.head _)).1, (N' _ (.head _)).2⟩
        · exact ⟨keep₂ _ _ (off' p hp).1 (N' p (.tail _ hp)).1, (N' p (.tail _ hp)).2⟩) (fun p hp => ⟨(off' p hp).2.1, (off' p hp).2.2.1⟩) (hn'.at' fun o e => keep₂ _ o (Ne.symm hCI) e) (Ne.symm hDC) hCL hC₀
  exact codeAny_compStart_list (loop _ rfl) (W.self 0 _ _ _ (W.frame _ _ _ hst fun b _ o e => old b o e) (loop _ rfl))
/-- over a list -/
theorem kc_list {elt target iter : Expr} {ifs : List Expr} {scope : Scope} {cl : List (PySem.Str × Addr)} {pos : Pos} {env : Env} {Q : Value → Shared → Prop} {h₀ : Heap} {L : Addr} {mf : PySem.Str → Option Value}
    (hclos : closureFor scope env = pure cl) (hkind : scope.kind = .function) (hnames : ∀ z ∈ scope.names, z.2 = .local → scope.names.lookup z.1 = some .local)
    (h : wpAny (model prog w) A (eval iter env) (fun xv s₁ => Hold (∃ ax, ∃ items : List Value, ∃ base : List (Addr × Obj), xv = .ref ax ∧ A.handled = none ∧ Fr h₀ L s₁.heap mf ∧ News h₀ L s₁.heap base ∧ LCg.SrcAt h₀ ax items.toArray base ∧ items.length ≤ sizeLine ∧
      ∃ (Inv : Nat → List Value → List (Addr × Obj) → Prop) (After : Value → Addr → Heap → Prop), Inv 0 [] base ∧
        (∀ (v : Value) (i j : Nat) (I : Addr) (h : Heap) (tk : Nat) (Q : Unit → Shared → Prop), items[i]? = some v → h.IsListIter I ax j → Q () { s₁ with heap := h, toks := tk } → wpAny (model prog w) A (letOwnedTupleGo target (.ref I) v) Q (fun _ _ => False) { s₁ with heap := h, toks := tk }) ∧
        KcAsg prog w A h₀ L target scope cl env s₁ base (fun i v => items[i]? = some v) After ∧ KcTurn prog w A h₀ L mf elt ifs scope cl env s₁ base items.length (fun i v => items[i]? = some v) After Inv ∧
        ∀ D h' tk ys news, Inv items.length ys news → (∀ p ∈ base, p ∈ news) → Fr h₀ L h' mf → News h₀ L h' ((D, lstO ys) :: news) → (∀ p ∈ news, p.1 ≠ D) → Q (.ref D) { s₁ with heap := h', toks := tk })) E s)
    (hs : ∀ x, foldedSetIterable iter env x = pure x := by intro _; rfl) :
    wpAny (model prog w) A (eval (.ListComp elt [⟨target, iter, ifs, 0⟩] scope pos) env) Q E s := by
  rw [eval_ListComp]
  refine wpAny_comprehension_free (use := none) rfl hs hclos hkind hnames (wpAny_mono h (fun xv s₁ h₁ => ?_) fun _ _ e => e)
  obtain ⟨ax, items, base, rfl, hh, F, N, S, hsz, Inv, After, hI0, lgo, asg, turn, fin⟩ := h₁
  have hax := S.list F.keep N
  obtain ⟨oa, hoa, _⟩ := id hax
  have hlt : ax < s₁.heap.objs.size := Heap.lt_size hoa
  refine wpAny_pyIter_list hax ?_
  have up : Grow s₁.heap (s₁.heap.push { cls := .type "list_iterator", data := .fields #[.ref ax, .int 0 0] }) := fun b o e => Heap.get?_push_of_some _ e
  have W := Walks.list (prog := prog) (w := w) hh s₁.heap.objs.size ax (Nat.ne_of_lt hlt) items.toArray
  rw [List.size_toArray] at W
  refine kc_block (s₂ := { s₁ with heap := _ }) (base := base) (Inv := Inv) (After := After) W hsz (fun i h st => by obtain ⟨o, e, _⟩ := st.1; exact ⟨o, e⟩) ⟨⟨_, Heap.get?_push_size _ rfl, rfl, rfl⟩, hax.push _⟩ (fun b hb => ?_) (fun i h h' o st e e' k N' => LCg.list_st i h h' o base st e e' k N' S)
    (F.keeps up) (N.grown up) (Nat.ne_of_lt F.ns.lt) (next_is_new F) (fun p hp => Nat.ne_of_lt (Heap.lt_size (N p hp).1)) hkind hI0
    (fun v i h tk Q' hv st hq => lgo v i (i + 1) _ h tk Q' (by simpa using hv) st.1 hq) (fun v i C h tk m Q' hv => asg v i C h tk m Q' (by simpa using hv)) (fun i v ys news own I C D oI oC h tk hi hv => turn i v ys news own I C D oI oC h tk hi (by simpa using hv)) ?_
  · show b < (s₁.heap.push _).objs.size
    rw [Heap.size_push]
    rcases List.mem_cons.mp hb with rfl | hb
    · exact Nat.lt_succ_self _
    · rw [List.mem_singleton.mp hb]; exact Nat.lt_succ_of_lt hlt
  · intro D C h tk m ys news hinv hbs F' N' hoff hn hCD hCL hC₀
    refine ⟨m, hn, fun h'' hs'' => fin D h'' tk ys news hinv hbs (F'.change hs'' hCL hC₀) (fun p hp => ⟨hs''.extBut _ _ ?_ (N' p hp).1, (N' p hp).2⟩) fun p hp => (hoff p hp).1⟩
    rcases List.mem_cons.mp hp with rfl | hp
    · exact Ne.symm hCD
    · exact (hoff p hp).2
/-- over a range by ones -/
theorem kc_range {elt target iter : Expr} {ifs : List Expr} {scope : Scope} {cl : List (PySem.Str × Addr)} {pos : Pos} {env : Env} {Q : Value → Shared → Prop} {h₀ : Heap} {L : Addr} {mf : PySem.Str → Option Value}
    (hclos : closureFor scope env = pure cl) (hkind : scope.kind = .function) (hnames : ∀ z ∈ scope.names, z.2 = .local → scope.names.lookup z.1 = some .local)
    (h : wpAny (model prog w) A (eval iter env) (fun xv s₁ => Hold (∃ (r : Addr) (n : Nat) (t u v : Tok) (base : List (Addr × Obj)), xv = .ref r ∧ A.handled = none ∧ Fr h₀ L s₁.heap mf ∧ News h₀ L s₁.heap base ∧ IsRange s₁.heap r 0 n 1 t u v ∧ Builtin.Range.small 0 n 1 = true ∧ Builtin.Range.rangeSize 0 n 1 = (n : Int) ∧ n ≤ sizeLine ∧
      ∃ (Inv : Nat → List Value → List (Addr × Obj) → Prop) (After : Value → Addr → Heap → Prop), Inv 0 [] base ∧ (∀ it v, letOwnedTupleGo target it v = pure ()) ∧
        KcAsg prog w A h₀ L target scope cl env s₁ base (fun i v => ∃ t, v = .int ((i : Nat) : Int) t) After ∧ KcTurn prog w A h₀ L mf elt ifs scope cl env s₁ base n (fun i v => ∃ t, v = .int ((i : Nat) : Int) t) After Inv ∧
        ∀ D h' tk ys news, Inv n ys news → (∀ p ∈ base, p ∈ news) → Fr h₀ L h' mf → News h₀ L h' ((D, lstO ys) :: news) → (∀ p ∈ news, p.1 ≠ D) → Q (.ref D) { s₁ with heap := h', toks := tk })) E s)
    (hs : ∀ x, foldedSetIterable iter env x = pure x := by intro _; rfl) :
    wpAny (model prog w) A (eval (.ListComp elt [⟨target, iter, ifs, 0⟩] scope pos) env) Q E s := by
  rw [eval_ListComp]
  refine wpAny_comprehension_free (use := none) rfl hs hclos hkind hnames (wpAny_mono h (fun xv s₁ h₁ => ?_) fun _ _ e => e)
  obtain ⟨r, n, t, u, v, base, rfl, hh, F, N, hr, hsm, hn, hsz, Inv, After, hI0, lgo, asg, turn, fin⟩ := h₁
  refine wpAny_pyIter_range hr hsm ?_
  have W := LCg.range_walks (prog := prog) (w := w) (I := s₁.heap.objs.size) hh 0 n
  have up : ∀ o : Obj, Grow s₁.heap (s₁.heap.push o) := fun o b o' e => Heap.get?_push_of_some _ e
  refine kc_block (s₂ := { s₁ with heap := _ }) (base := base) (Inv := Inv) (After := After) W hsz (fun i h st => ⟨_, st⟩) (by show IsRangeIter _ _ _ _ _; rw [hn]; simpa using Heap.get?_push_size _ rfl) (fun b hb => ?_) (fun i h h' o st e e' k N' => LCg.range_st (h₀ := h₀) (L := L) i h h' o base st e e' k N' trivial)
    (F.keeps (up _)) (N.grown (up _)) (Nat.ne_of_lt F.ns.lt) (next_is_new F) (fun p hp => Nat.ne_of_lt (Heap.lt_size (N p hp).1)) hkind hI0
    (fun v i h tk Q' hv st hq => wpAny_of_eq (lgo _ v) hq) (fun v i C h tk m Q' hv => asg v i C h tk m Q' (by obtain ⟨t, rfl⟩ := hv; exact ⟨t, by rw [Int.zero_add]⟩)) (fun i v ys news own I C D oI oC h tk hi hv => turn i v ys news own I C D oI oC h tk hi (by obtain ⟨t, rfl⟩ := hv; exact ⟨t, by rw [Int.zero_add]⟩)) ?_
  · rw [List.mem_singleton.mp hb]
    show _ < (s₁.heap.push _).objs.size
    rw [Heap.size_push]; exact Nat.lt_succ_self _
  · intro D C h tk m ys news hinv hbs F' N' hoff hn hCD hCL hC₀
    refine ⟨m, hn, fun h'' hs'' => fin D h'' tk ys news hinv hbs (F'.change hs'' hCL hC₀) (fun p hp => ⟨hs''.extBut _ _ ?_ (N' p hp).1, (N' p hp).2⟩) fun p hp => (hoff p hp).1⟩
    rcases List.mem_cons.mp hp with rfl | hp
    · exact Ne.symm hCD
    · exact (hoff p hp).2
/-- the target is a name of the comprehension's own -/
theorem asg_name {x : PySem.Str} {px : Pos} {scope : Scope} {cl : List (PySem.Str × Addr)} {env : Env} {h₀ : Heap} {L : Addr} {s₂ : Shared} {base : List (Addr × Obj)} {P : Nat → Value → Prop} (hkind : scope.kind = .function) (hx : scope.names.lookup x = some .local) :
    KcAsg prog w A h₀ L (.Name x px) scope cl env s₂ base P (fun v C h => ∃ m, h.Ns C m ∧ m x = some v) := by
  intro v i C h tk m Q hP hn hc N k
  refine wpAny_assign_Name (wpAny_storeName_local (lookup_relabel_local hx) hn (fun h' hn' hs' => ?_) (by simp [compEnvC, relabel, hkind]))
  exact k h' _ _ (fun b o hb _ e => hs'.extBut b o hb e) hn' (fun c hc' => by obtain ⟨⟨o, x, e, d⟩, hne⟩ := hc c hc'; exact ⟨o, x, hs'.extBut c o hne e, d⟩) ⟨_, hn', by simp⟩
/-- the target is a cell -/
theorem asg_cell {x : PySem.Str} {px : Pos} {scope : Scope} {cl : List (PySem.Str × Addr)} {env : Env} {h₀ : Heap} {L : Addr} {s₂ : Shared} {base : List (Addr × Obj)} {P : Nat → Value → Prop} (hkind : scope.kind = .function) (hx : (relabel scope env).names.lookup x = some .cell)
    (ho : ∀ C, ownC scope C = [C + 1]) (hl : ∀ C, (cellsFrom (C + 1) scope.names cl).lookup x = some (C + 1)) :
    KcAsg prog w A h₀ L (.Name x px) scope cl env s₂ base P (fun v C h => ∃ o, h.get? (C + 1) = some o ∧ o.data = .cell (some v)) := by
  intro v i C h tk m Q hP hn hc N k
  rw [ho C] at hc k
  obtain ⟨⟨o, v₀, e, d⟩, hne⟩ := hc (C + 1) (.head _)
  refine wpAny_assign_Name (wpAny_storeName_cell hkind hx (hl C) ⟨o, e, d⟩ fun h' hv hs => ?_)
  obtain ⟨o', e', d'⟩ := hv
  refine k h' _ m (fun b o hb hb2 e => hs.extBut b o (by simpa using hb2) e) (hn.at' fun o e => hs.extBut C o (Ne.symm hne) e) (fun c hc' => ?_) ⟨o', e', d'⟩
  rw [List.mem_singleton.mp hc']
  exact ⟨o', _, e', d'⟩
/-- the target is a pair of names of the comprehension's own -/
theorem asg_pair {a b : PySem.Str} {pa pb tp : Pos} {kk : Nat} {scope : Scope} {cl : List (PySem.Str × Addr)} {env : Env} {h₀ : Heap} {L : Addr} {s₂ : Shared} {base : List (Addr × Obj)} {P : Nat → Value → Prop} (hh : A.handled = none) (hkind : scope.kind = .function) (ha : scope.names.lookup a = some .local) (hb : scope.names.lookup b = some .local) (hab : ¬ a = b)
    (hP : ∀ i v, P i v → ∃ (t : Addr) (x y : Value) (n : Nat), v = .ref t ∧ (t, ({ cls := .type "tuple", data := .seq #[x, y] n } : Obj)) ∈ base) :
    KcAsg prog w A h₀ L (.Tuple [.Name a pa, .Name b pb] kk tp) scope cl env s₂ base P (fun v C h => ∃ (t : Addr) (x y : Value) (n : Nat) (m : PySem.Str → Option Value), v = .ref t ∧ (t, ({ cls := .type "tuple", data := .seq #[x, y] n } : Obj)) ∈ base ∧ h.Ns C m ∧ m a = some x ∧ m b = some y) := by
  intro v i C h tk m Q hPv hn hc N k
  obtain ⟨t, x, y, n, rfl, hm⟩ := hP i v hPv
  refine kcp_assign (env := kEnv scope cl C env) hh ⟨_, (N _ hm).1, rfl, n, rfl⟩ (lookup_relabel_local ha) (lookup_relabel_local hb) (by simp [compEnvC, relabel, hkind]) hn fun h' tk' hn' hs' => ?_
  exact k h' tk' _ (fun b o hb _ e => hs' b o hb e) hn' (fun c hc' => by obtain ⟨⟨o, x, e, d⟩, hne⟩ := hc c hc'; exact ⟨o, x, hs' c o hne e, d⟩) ⟨t, x, y, n, _, rfl, hm, hn', by simp [hab], by simp⟩
end
end Mine
end
section
open PySem PySem.W PyProof.Rows PySem.Calls PySem.Spec
open Sem (wp)
set_option Elab.async false
set_option maxRecDepth 100000
set_option maxHeartbeats 8000000
namespace Mine

/-- a code that may hold a byte buffer while it runs -/
def dirty : Code → Bool
  | .builtin id _ => Builtin.Bytes.decodersThatHold.contains id
  | _ => false
def CleanL (l : List (Code × Pos)) : Prop := ∀ x ∈ l, dirty x.1 = false

def wpC {α : Type} (M : Model) (A : Around) (t : Sem α) (Q : α → Shared → Prop) (E : Value → Shared → Prop) (s : Shared) : Prop :=
  ∀ Γ p, Γ.In A → CleanL ((Γ.code, p) :: Γ.below) → wp M Γ t (fun a _ s' => Q a s') (fun e _ s' => E e s') p s
def codeC (M : Model) (A : Around) (c : Code) (R : Result → Shared → Prop) (s : Shared) : Prop :=
  ∀ Γ p, Γ.code = c → Γ.Below A → CleanL Γ.below → wpCode M Γ R p s

theorem clean_pos {c : Code} {p p' : Pos} {l : List (Code × Pos)} (h : CleanL ((c, p) :: l)) : CleanL ((c, p') :: l) := fun x hx => by
  cases hx with
  | head => exact h (c, p) (.head _)
  | tail _ hx => exact h x (.tail _ hx)
theorem clean_cons {c : Code} {p : Pos} {l : List (Code × Pos)} (hc : dirty c = false) (h : CleanL l) : CleanL ((c, p) :: l) := fun x hx => by
  cases hx with
  | head => exact hc
  | tail _ hx => exact h x hx

section
variable {α β : Type} {M : Model} {A : Around} {E : Value → Shared → Prop} {s : Shared}
theorem wpC_of_any {t : Sem α} {Q : α → Shared → Prop} (h : wpAny M A t Q E s) : wpC M A t Q E s := fun Γ p hΓ _ => h Γ p hΓ
theorem codeC_of_any {c : Code} {R : Result → Shared → Prop} (h : codeAny M A c R s) : codeC M A c R s := fun Γ p hc hΓ _ => h Γ p hc hΓ
theorem wpC_pure {a : α} {Q : α → Shared → Prop} (h : Q a s) : wpC M A (pure a) Q E s := fun _ _ _ _ => h
theorem wpC_mono {t : Sem α} {Q Q' : α → Shared → Prop} {E' : Value → Shared → Prop} (h : wpC M A t Q E s)
    (hQ : ∀ a s, Q a s → Q' a s) (hE : ∀ e s, E e s → E' e s) : wpC M A t Q' E' s :=
  fun Γ p hΓ hc => Sem.wp_mono M Γ t (fun a _ s => hQ a s) (fun e _ s => hE e s) p s (h Γ p hΓ hc)
theorem codeC_mono {c : Code} {R R' : Result → Shared → Prop} (h : codeC M A c R s) (hR : ∀ r s, R r s → R' r s) : codeC M A c R' s :=
  fun Γ p hc hΓ hl => wpCode_mono hR (h Γ p hc hΓ hl)
theorem wpC_bindA {m : Sem α} {f : α → Sem β} {Q : β → Shared → Prop} (h : wpAny M A m (fun a s' => wpC M A (f a) Q E s') E s) : wpC M A (m >>= f) Q E s := fun Γ p hΓ hc => by
  rw [Sem.wp_bind']
  exact Sem.wp_mono M Γ m (fun a p' s' h' => h' Γ p' hΓ (clean_pos hc)) (fun _ _ _ h' => h') p s (h Γ p hΓ)
theorem wpC_bind {m : Sem α} {f : α → Sem β} {Q : β → Shared → Prop} (h : wpC M A m (fun a s' => wpC M A (f a) Q E s') E s) : wpC M A (m >>= f) Q E s := fun Γ p hΓ hc => by
  rw [Sem.wp_bind']
  exact Sem.wp_mono M Γ m (fun a p' s' h' => h' Γ p' hΓ (clean_pos hc)) (fun _ _ _ h' => h') p s (h Γ p hΓ hc)
theorem wpC_holding {vs : List Value} {m : Sem α} {Q : α → Shared → Prop} (h : wpC M A m Q E s) : wpC M A (holding vs m) Q E s :=
  fun Γ p hΓ hc => by rw [Sem.wp_holding]; exact h Γ p hΓ hc
theorem wpC_onRaise {m : Sem α} {k : Value → Sem Unit} {Q : α → Shared → Prop}
    (h : wpC M A m Q (fun e s' => wpAny M A (k e) (fun _ s'' => E e s'') E s') s) : wpC M A (m.onRaise k) Q E s := fun Γ p hΓ hc => by
  rw [Sem.wp_onRaise]
  exact Sem.wp_mono M Γ m (fun _ _ _ h' => h') (fun e p' s' h' => h' Γ p' hΓ) p s (h Γ p hΓ hc)
theorem wpC_runValue {c : Code} {Q : Value → Shared → Prop}
    (hc : codeC M A c (fun r s' => match r with | .ok (.ret v) => Q v s' | .ok _ => False | .error e => E e s') s) :
    wpC M A (runValue c) Q E s := fun Γ p hΓ hl => by rw [Sem.wp_runValue]; exact hc _ p rfl (hΓ.enter c none p (by intro x; cases x)) hl
theorem wpC_call {f : Value} {pos : List Value} {kw : List (PySem.Str × Value)} {Q : Value → Shared → Prop}
    (hc : codeC M A (.call f ⟨pos, kw⟩) (fun r s' => match r with | .ok (.ret v) => Q v s' | .ok _ => False | .error e => E e s') s) :
    wpC M A (call f pos kw) Q E s := wpC_runValue hc
theorem codeC_of_tree {c : Code} {R : Result → Shared → Prop}
    (h : wpC M (A.under c) (M.den c) (fun fin s' => match fin with | .done f => R (.ok f) s' | .again c' => c'.quiet = true ∧ codeC M A c' R s')
      (fun e s' => R (.error e) s') s) (hd : dirty c = false := by rfl) : codeC M A c R s := fun Γ p hc hΓ hl => by
  rw [wpCode_iff_wp, hc]
  refine Sem.wp_mono M Γ _ (fun fin p' s' h' => ?_) (fun _ _ _ h' => h') p s (h Γ p (hc ▸ hΓ.in) (clean_cons (hc ▸ hd) hl))
  cases fin with
  | done f => exact h'
  | again c' => exact ⟨h'.1, h'.2 (Γ.goto c') p' rfl (hΓ.goto c') hl⟩
theorem wpC_units_le {t : Sem α} {Q : α → Shared → Prop} {u : Nat} (h : wpC M A t Q E s) (hu : u ≤ A.units) : wpC M { A with units := u } t Q E s :=
  fun Γ p hΓ => h Γ p (hΓ.units_le hu)

theorem wpC_execs_cons {st rest} {env : Env} {Q : Flow → Shared → Prop}
    (h : wpC M A (exec st env) (fun f s' => match f with | .next => wpC M A (execs rest env) Q E s' | f => Q f s') E s) :
    wpC M A (execs (st :: rest) env) Q E s := fun Γ p hΓ hc => by
  rw [execs_cons, Sem.wp_bind']
  refine Sem.wp_mono M Γ _ (fun f p' s' h' => ?_) (fun _ _ _ h' => h') _ _ (h Γ p hΓ hc)
  cases f <;> first | exact h' Γ p' hΓ (clean_pos hc) | exact h'
theorem wp_execs_append {Γ : PySem.Ctx} {env : Env} {Q : Flow → Pos → Shared → Prop} {E : Value → Pos → Shared → Prop} {rest : List Stmt} : ∀ (pre : List Stmt) (p : Pos) (s : Shared),
    wp M Γ (execs pre env) (fun f p' s' => match f with | .next => wp M Γ (execs rest env) Q E p' s' | f => Q f p' s') E p s → wp M Γ (execs (pre ++ rest) env) Q E p s
  | [], p, s, h => h
  | st :: pre, p, s, h => by
    rw [List.cons_append, execs_cons, Sem.wp_bind']
    rw [execs_cons, Sem.wp_bind'] at h
    refine Sem.wp_mono M Γ _ (fun f p' s' h' => ?_) (fun _ _ _ h' => h') _ _ h
    cases f <;> first | exact wp_execs_append pre p' s' h' | exact h'
theorem wpC_execs_pre {env : Env} {Q : Flow → Shared → Prop} {rest : List Stmt} (pre : List Stmt)
    (h : wpAny M A (execs pre env) (fun f s' => match f with | .next => wpC M A (execs rest env) Q E s' | f => Q f s') E s) : wpC M A (execs (pre ++ rest) env) Q E s := fun Γ p hΓ hc => by
  refine wp_execs_append pre p s ?_
  refine Sem.wp_mono M Γ _ (fun f p' s' h' => ?_) (fun _ _ _ h' => h') _ _ (h Γ p hΓ)
  cases f <;> first | exact h' Γ p' hΓ (clean_pos hc) | exact h'
theorem wpAny_execs_pre {env : Env} {Q : Flow → Shared → Prop} {rest : List Stmt} (pre : List Stmt)
    (h : wpAny M A (execs pre env) (fun f s' => match f with | .next => wpAny M A (execs rest env) Q E s' | f => Q f s') E s) : wpAny M A (execs (pre ++ rest) env) Q E s := fun Γ p hΓ => by
  refine wp_execs_append pre p s ?_
  refine Sem.wp_mono M Γ _ (fun f p' s' h' => ?_) (fun _ _ _ h' => h') _ _ (h Γ p hΓ)
  cases f <;> first | exact h' Γ p' hΓ | exact h'
theorem wpC_Assign_Name {x pos' value pos} {env : Env} {Q : Flow → Shared → Prop}
    (h : wpC M A (eval value env) (fun v s₁ => wpAny M A (storeName env x v) (fun _ => Q .next) E s₁) E s)
    (hs : swapsWith value (some (.Name x pos')) pos.line env = pure false := by rfl) :
    wpC M A (exec (.Assign [.Name x pos'] value pos) env) Q E s := fun Γ p hΓ hc => by
  simp only [exec_Assign_Name env x pos' value pos hs, Sem.wp_bind', Sem.wp_cmd_standAt, Sem.wp_bindName, Sem.wp_pure']
  exact Sem.wp_mono M Γ _ (fun v _ s₁ h₁ => h₁ Γ _ hΓ) (fun _ _ _ h' => h') _ _ (h Γ _ hΓ (clean_pos hc))
theorem wpC_exported {self : Value} {Q : Bool → Shared → Prop} (hg : A.guards = some []) (h : Q false s) : wpC M A (Builtin.Bytes.exported self) Q E s := fun Γ p hΓ hc => by
  have e : ∀ f : Code × Pos → Bool, (∀ c p, c.isGuard = false → dirty c = false → f (c, p) = false) → ((Γ.code, p) :: Γ.below).any f = false := fun f hf => by
    have hgs : guardsOf ((Γ.code, p) :: Γ.below) = [] := by rw [guardsOf_cons]; exact hΓ.2.2.2.1 _ hg
    rw [List.any_eq_false]
    rintro ⟨c, q⟩ hx
    have hig : c.isGuard = false := by
      cases hi : c.isGuard with
      | false => rfl
      | true =>
        have : c ∈ guardsOf ((Γ.code, p) :: Γ.below) := by
          unfold guardsOf
          exact List.mem_filter.mpr ⟨List.mem_map.mpr ⟨_, hx, rfl⟩, hi⟩
        rw [hgs] at this; cases this
    rw [hf c q hig (hc _ hx)]; decide
  show Q (((Γ.code, p) :: Γ.below).any _) s
  rw [e]
  · exact h
  · intro c q h1 h2
    split <;> first
      | rfl
      | (rename_i heq; obtain ⟨heq, -⟩ := Prod.mk.inj heq; subst heq; exfalso; revert h1; simp [Code.isGuard, guardIds]; done)
      | (rename_i heq; obtain ⟨heq, -⟩ := Prod.mk.inj heq; subst heq; have h3 : Builtin.Bytes.decodersThatHold.contains _ = false := h2; rw [h3]; simp)
end
end Mine
end
section
open PySem PySem.W PyProof.Rows PySem.Calls PySem.Spec
open Sem (wp)
set_option Elab.async false
set_option maxRecDepth 100000
set_option maxHeartbeats 8000000
namespace Mine
def cleanB (st : List (Code × Pos)) : Bool := st.all fun x => !dirty x.1
theorem cleanB_iff {st : List (Code × Pos)} (h : cleanB st = true) : CleanL st := fun x hx => by
  have := List.all_eq_true.mp h x hx
  simpa using this
def treeP (name : PySem.Str) (vs : List Value) : Sem PySem.Fin := do
  match ← nsGet mainNs name with
  | some f => do ret (← call f vs)
  | none => unsupported "claim.caller:no-such-global"
def treeA (name : PySem.Str) (vs : List Value) : Sem PySem.Fin := stack >>= fun st => if cleanB st = true then treeP name vs else ret (.bool true)
def runA (f : Value) (vs : List Value) : Sem Value := stack >>= fun st => if cleanB st = true then call f vs else pure (.bool true)

theorem wp_runA {M : Model} {A : Around} {f : Value} {vs : List Value} {Q : Value → Shared → Prop} {E : Value → Shared → Prop} {s : Shared} (h : wpC M A (call f vs) Q E s) (ht : Q (.bool true) s) : wpAny M A (runA f vs) Q E s := fun Γ p hΓ => by
  unfold runA
  rw [Sem.wp_bind']
  show wp M Γ (if cleanB ((Γ.code, p) :: Γ.below) = true then call f vs else pure (.bool true)) _ _ p s
  cases hc : cleanB ((Γ.code, p) :: Γ.below) with
  | true => exact h Γ p hΓ (cleanB_iff hc)
  | false => exact ht
theorem wp_treeA {M : Model} {A : Around} {name : PySem.Str} {f : Value} {vs : List Value} {mg : PySem.Str → Option Value} {Q : PySem.Fin → Shared → Prop} {E : Value → Shared → Prop} {s : Shared} (hg : s.heap.Ns mainGlobals mg) (hf : mg name = some f)
    (h : wpAny M A (runA f vs) (fun v s' => Q (.done (.ret v)) s') E s) : wpAny M A (treeA name vs) Q E s := fun Γ p hΓ => by
  have h1 := h Γ p hΓ
  unfold runA at h1
  unfold treeA
  rw [Sem.wp_bind'] at h1 ⊢
  change wp M Γ (if cleanB ((Γ.code, p) :: Γ.below) = true then call f vs else pure (.bool true)) _ _ p s at h1
  show wp M Γ (if cleanB ((Γ.code, p) :: Γ.below) = true then treeP name vs else ret (.bool true)) _ _ p s
  cases hc : cleanB ((Γ.code, p) :: Γ.below) with
  | false => rw [hc] at h1; exact h1
  | true =>
    rw [hc] at h1
    rw [if_pos rfl] at h1 ⊢
    unfold treeP
    rw [Sem.wp_bind']
    show wp M Γ (nsGet mainGlobals name) _ _ p s
    rw [Sem.wp_nsGet M Γ _ p s hg, hf]
    show wp M Γ (call f vs >>= fun v => ret v) _ _ p s
    rw [Sem.wp_bind']
    exact h1

abbrev stubOf (tree : List Value → Sem PySem.Fin) (vs : List Value) : Thread := ⟨tree vs, .builtin "claim.caller" {}, default, []⟩
theorem asked_step {p : Program} {w : World} {s : Shared} {name : PySem.Str} {vs : List Value} (hz : s.asleep) : sstep (denote table) p w (.single s (stubOf (treeA name) vs)) = .go (.single s (stubOf (treeP name) vs)) := by
  have e : step (denote table) p w s (stubOf (treeA name) vs) = .go s (stubOf (treeP name) vs) := by
    obtain ⟨heap, gens, drawn, toks, os⟩ := s
    show Step.go _ _ = _
    rfl
  rcases sstep_single (denote table) p w s (stubOf (treeA name) vs) (by rfl) hz with h | h
  · rw [h, e]; rfl
  · rw [e] at h; cases h
theorem callFrom_of_asked {c : ClaimW} {name : PySem.Str} {w : World} {free : Addr → Prop} {gens : Prop} {kept : Heap → Prop} {s : Shared} (hz : s.asleep) (h : c.CallFrom (stubOf (treeA name)) w free gens kept s) : c.CallFrom (callStub name) w free gens kept s := by
  intro args hp hl ord ho
  obtain ⟨vs, s₁, hlaid, n, o, s', hr, rest⟩ := h args hp hl ord ho
  have hz1 : s₁.asleep := Shared.asleep_of_life (layAllW_rest _ _ _ hlaid).2.2.2 hz
  refine ⟨vs, s₁, hlaid, ?_⟩
  cases n with
  | zero => cases hr
  | succ n =>
    refine ⟨n, o, s', ?_, rest⟩
    have e := asked_step (p := c.prog) (w := w) (name := name) (vs := vs) hz1
    simp only [schedN, e] at hr
    exact hr
theorem open_of_asked {c : ClaimW} {name : PySem.Str} {defs keeps : List PySem.Str} {wr : Bool} (h : c.HoldsOpenBy (stubOf (treeA name)) defs keeps wr) : c.HoldsOpenBy (callStub name) defs keeps wr := by
  obtain ⟨h1, h2, h3⟩ := h
  refine ⟨h1, h2, fun w => ⟨(h3 w).1, fun s hs => ?_⟩⟩
  obtain ⟨s₀, hf, hg, s₁, T, k1, k2, k3, k4⟩ := (h3 w).2 s hs
  refine ⟨s₀, hf, hg, s₁, T, k1, k2, k3, callFrom_of_asked ?_ k4⟩
  have A : AfterImport (opening c.prog) w s := hs
  have z : s₀.asleep := Shared.asleep_of_life (fence_lifeW hf) A.life
  exact Shared.asleep_of_life T.2.1 z

theorem good_true {l : OpenLaw} {cl : PySem.Str → Option Addr} {mean : ExcName → Option Value} {args : List WData} {s : Shared} (hg : s.gens = #[]) : GoodWG l.row.toRowW.claim cl mean args s (.ok (.ret (.bool true))) s := by
  refine GoodW.toG ⟨.inl ⟨.bool true, .bool true, [], rfl, fun _ => rfl, ?_, ?_, fun _ => ⟨List.nodup_nil, fun a ha => nomatch ha⟩⟩, fun _ _ e => e, rfl, hg⟩
  · exact ReadsW.bool true
  · show (WShape.has [] (.bool true) .bool && WTm.holds [] (.eq .res (.lit (.bool true))) { args := args, res := some (.bool true), after := args }) = true
    simp [WShape.has, WShape.arms, WTm.holds, WTm.value, PySem.W.same]

abbrev WalkC (q : Program) (loose : List PySem.Str) (XP : (PySem.Str → Option Value) → Heap → Prop) (YP : World → Heap → Prop) (r : RowW) (d : DefRec) (kwd : List (PySem.Str × Expr)) : Prop :=
  ∀ (w : World) (s₀ s₁ : Shared) (mg mb : PySem.Str → Option Value), Ground q loose r.records XP w s₀ mg mb s₁.heap → YP w s₁.heap → ∀ (a : Addr) (o : Obj) (pm cd doc dV kV : Value), s₁.heap.get? a = some o →
    o.data = .func { docDef d.name d.params d.body d.scope pm cd doc with defaults := dV, kwdefaults := kV } → s₁.heap.CodeRec cd d.name → Dflts mg s₁.heap d.params kwd dV kV → mg d.name = some (.ref a) → s₁.gens = #[] →
    ∀ (args : List WData) (vals : List Value) (as : List Addr), r.claim.pre args = true → WData.layableAll args = true → ReadsAllW r.records (classAt s₀.heap) s₁.heap vals args as → WellAll w.params s₁.heap vals args → (∀ a ∈ as, (a == sysModules) = false) →
      wpC (model r.prog w) callerA (PySem.call (.ref a) vals) (fun v s' => GoodWG r.claim (classAt s₀.heap) (ExcName.means s₀.heap) args s₁ (.ok (.ret v)) s')
        (fun e s' => GoodWG r.claim (classAt s₀.heap) (ExcName.means s₀.heap) args s₁ (.error e) s') s₁
end Mine

namespace Mine.Head
open Mine
theorem PySem.W.holds_open {l : OpenLaw} {q : Program} {loose : List PySem.Str} {Xt : Shared → Bool} {XP : (PySem.Str → Option Value) → Heap → Prop} {α : Type} {Yf : Shared → α} {Ya : World → α} {YP : World → Heap → Prop} {d : DefRec} {kwd : List (PySem.Str × Expr)} {N : Nat}
    (left : LeftO l.row.prog q loose Xt Yf Ya N) (hY : ∀ w s, Yf s = Ya w → YP w s.heap) (hYk : ∀ w h h', YP w h → (∀ b o, h.get? b = some o → h'.get? b = some o) → YP w h')
    (hX : ∀ s, Xt s = true → XP (s.heap.nsMap mainGlobals) s.heap) (hXk : ∀ mg h h', XP mg h → (∀ b o, h.get? b = some o → h'.get? b = some o) → XP mg h')
    (hdef : defOf q l.row.name = some (d, kwd)) (hp : l.row.prog.theDef l.row.name = some (d.params, d.body, d.scope)) (hk : kwWritten? d.params.kwonlyargs d.params.kw_defaults = some kwd) (hRf : ∀ s, Xt s = true → RecFacts l.row.records s.heap) (hwr : (!l.row.writes || l.row.records.isEmpty) = true)
    (k1 : l.row.wellSaid = true) (ok : (chainsOk q && opensWell l.row.prog && (frees l.row.toRowW && l.row.within.isEmpty)) = true) (hb : l.row.prog.bare) (hw : l.row.toRowW.promised)
    (call : WalkC q loose XP YP l.row.toRowW d kwd) : l.row.Holds := by
  refine ⟨k1, hw, open_of_asked (open_anyG (r := l.row.toRowW) (run := runA) (tree := treeA l.row.name) left hY hYk hX hXk hRf hwr ok hb hw
    (fun vs w s mg f Q E hg hf h => wp_treeA hg hf h)
    (fun w s hg G n hn => ?_) fun w s₀ s₁ mg mb G Y args vs as hpre hlay L low => ?_)⟩
  · obtain rfl : n = l.row.name := by split at hn <;> simp_all
    exact pinned_of_view hg G hdef hp hk
  · obtain ⟨a, o, pm, cd, doc, dV, kV, h1, h2, h3, h4, h5⟩ := G.fn hdef
    exact ⟨.ref a, h1, wp_runA (call w s₀ s₁ mg mb G Y a o pm cd doc dV kV h2 h3 h4 h5 (defOf_name hdef ▸ h1) L.gens args vs as hpre hlay L.reads L.well (L.low low)) (good_true L.gens)⟩
end Mine.Head
end
section
open PySem PySem.W PyProof.Rows
set_option Elab.async false
set_option maxRecDepth 100000
set_option maxHeartbeats 8000000
namespace Mine.Head
open_top hc for PySem.Challenge.rw_zo0024_01
end Mine.Head
end
section
open PySem PySem.W PyProof.Rows PySem.Calls PySem.Spec
set_option Elab.async false
set_option maxRecDepth 100000
set_option maxHeartbeats 8000000
set_option linter.unusedVariables false
namespace Mine
theorem fillH_ (w : World) (h : Heap) : (Head.hc.heap_39 w.params).In h → PySem.Challenge.rw_zo0024_01.row.prog = PySem.Challenge.rw_zo0024_01.row.prog := by k_fill; intro _; w_top off; rfl
abbrev PrgH : Program := PySem.Challenge.rw_zo0024_01.row.prog
def sh (x y : Int) : Int := if x.fmod 3 = y.fmod 3 then (if x.fmod 9 = y.fmod 9 then (if x.fmod 27 = y.fmod 27 then 4 else 3) else 2) else 1
def ShInv (x y c : Int) : Prop := 1 ≤ c ∧ c ≤ 4 ∧ ∀ j : Nat, 1 ≤ j → (j : Int) < c → x.fmod (3 ^ j) = y.fmod (3 ^ j)
theorem pow3_ne (n : Nat) : (3 : Int) ^ n ≠ 0 := Int.pow_ne_zero (by decide)
theorem sh_start (x y : Int) : ShInv x y 1 := ⟨by omega, by omega, fun j h1 h2 => by omega⟩
theorem sh_turn {x y c : Int} (h : ShInv x y c) (h4 : c < 4) (he : x.fmod (3 ^ c.toNat) = y.fmod (3 ^ c.toNat)) : ShInv x y (c + 1) := by
  obtain ⟨h1, h2, h3⟩ := h
  refine ⟨by omega, by omega, fun j a b => ?_⟩
  by_cases q : (j : Int) < c
  · exact h3 j a q
  · have : j = c.toNat := by omega
    rw [this]; exact he
theorem sh_end {x y c : Int} (h : ShInv x y c) (hn : c < 4 → ¬ x.fmod (3 ^ c.toNat) = y.fmod (3 ^ c.toNat)) : c = sh x y := by
  obtain ⟨h1, h2, h3⟩ := h
  unfold sh
  have k1 := h3 1 (by omega)
  have k2 := h3 2 (by omega)
  have k3 := h3 3 (by omega)
  have c4 : c = 1 ∨ c = 2 ∨ c = 3 ∨ c = 4 := by omega
  rcases c4 with rfl | rfl | rfl | rfl
  · have := hn (by omega)
    rw [if_neg (by simpa using this)]
  · have := hn (by omega)
    rw [if_pos (by simpa using k1 (by omega)), if_neg (by simpa using this)]
  · have := hn (by omega)
    rw [if_pos (by simpa using k1 (by omega)), if_pos (by simpa using k2 (by omega)), if_neg (by simpa using this)]
  · rw [if_pos (by simpa using k1 (by omega)), if_pos (by simpa using k2 (by omega)), if_pos (by simpa using k3 (by omega))]
local macro_rules | `(tactic| walk_at "binaryOp Mod int int") => `(tactic| (refine mod_int' (pow3_ne _) ?_))
theorem lawShared {w : World} {p : Program} {loose : List PySem.Str} {mean : ExcName → Option Value} {mg mb : PySem.Str → Option Value} {dp un : Nat} {gd : Option (List Code)} {base : Heap} {env : Env} {outer : List Env} {s : Shared} {Q E : Value → Shared → Prop}
  {x y : Int} {t u : Tok}
  (W : At p loose mean mg mb (Head.hc.heap_39 w.params) { handled := none, depth := dp, frames := some (env :: outer), guards := gd, units := un } base env outer s.heap)
  (hd1 : dp + 3 < recursionLimit) (hu : un + 24 < cLine)
  (hret : ∀ (t : Tok) (h' : Heap) (tk' : Nat), (∀ b o, s.heap.get? b = some o → h'.get? b = some o) → Q (.int (sh x y) t) { s with heap := h', toks := tk' }) :
  wpAny (model PrgH w) { handled := none, depth := dp, frames := some (env :: outer), guards := gd, units := un } (call (.ref 114) [.int x t, .int y u]) Q E s := by
  k_dflt (refine' Mine.call_S ?W ?k6 ?k7 ?k8 ?k9 ?kB ?_ ?c2 ?c3 ?c4 ?c5; (case W => assumption); (case k6 => k_is); (case k7 => k_is); (case k8 => ktr_room); (case k9 => exact BindsTo.of_eq rfl); (case c5 => decide); (case kB => exact locs rfl); (case c2 => exact rfl); (case c3 => exact rfl); (case c4 => exact rfl))
  intro L' h' F' B' X' T' hb'
  have N' : News s.heap L' h' [] := News.nil
  (try dsimp only)
  clear W
  iterate 5 (first | (k_unfold; (try dsimp only)) | walk1 | (dsimp only; walk1))
  rename_i F9 N9
  refine' my_while (σ := Int × Tok) (fun _ => []) (fun c => [(PySem.Str.ofString "count", .int c.1 c.2)]) (fun _ => True) [] (fun c => ShInv x y c.1) (fun c => (4 - c.1).toNat) (1, ?tk) F9 N9 trivial ?hk (sh_start x y) ?turn
  case hk => exact List.forall_mem_cons.mpr ⟨by rfl, List.forall_mem_nil _⟩
  intro c u h5 tk5 _ I5 F5 N5
  obtain ⟨c5, t5⟩ := c
  dsimp only at I5 F5 N5 ⊢
  have hb5 := I5.1
  have hb6 := I5.2.1
  (try k_fold)
  k_steps
  · rename_i hc he h7 F7 N7
    show KswEnd _ _ _ _ _ _ _ _ _ _ _ _
    refine' ksw_end (c5 + 1, ?tk2) F7 N7 (fun p hp => nomatch hp) trivial ?hk ?hr (sh_turn I5 hc he) ?hm
    case hk => exact List.forall_mem_cons.mpr ⟨by rfl, List.forall_mem_nil _⟩
    case hr =>
      intro z h2 _
      simp only [List.forall_mem_cons, List.not_mem_nil, false_implies, implies_true, and_true, ne_eq] at h2
      simp [kstB, h2]
    case hm => dsimp only; omega
  · rename_i hn
    show Q (.int c5 t5) _
    exact retI hret (sh_end I5 (fun _ => hn)) (Fr.keep F5)
  · rename_i hn
    show Q (.int c5 t5) _
    exact retI hret (sh_end I5 (fun h => absurd h hn)) (Fr.keep F5)
end Mine
end
section
open PySem PySem.W PyProof.Rows PySem.Calls PySem.Spec
open Sem (wp)
set_option Elab.async false
set_option maxRecDepth 100000
set_option maxHeartbeats 8000000
namespace Mine
namespace BA
theorem mro : mroOf (.type "bytearray") = pure [.type "bytearray", .type "object"] := by rw [mroOf_type]; kernel_rfl
theorem lookup_new : typeLookup (.type "bytearray") "__new__" = pure (some (.builtin "bytearray.__new__")) := by rw [typeLookup_type, builtinLookup_eq_fast]; kernel_rfl
theorem slot_init : Slot "bytearray" "__init__" "bytearray.__init__" :=
  .of (owner := "bytearray") (n := "__init__") (by rw [typeLookup_type, builtinLookup_eq_fast]; kernel_rfl) (by decide +kernel) (by decide +kernel) (by decide +kernel)
    (by first | exact .inl (by decide +kernel) | exact .inr (by decide +kernel)) (by rw [isSubtype_type]; kernel_rfl)
theorem called : TypeCalled "bytearray" "bytearray.__new__" "bytearray.__init__" :=
  ⟨by decide +kernel, by decide +kernel, ⟨_, _, mro⟩, madeBy_type mro lookup_new (by decide +kernel), by decide +kernel, by rw [isSubtype_type]; kernel_rfl, slot_init⟩
theorem typeCall (a : Value) : checkTypeCall "bytearray" ⟨[a], []⟩ = pure () := by kernel_rfl
theorem newCall (a : Value) : checkBuiltinCall "bytearray.__new__" ⟨[.type "bytearray", a], []⟩ = pure () := by kernel_rfl
theorem entry_new : entryFor table "bytearray.__new__" = some Builtin.«list.__new__» := entryFor_alias (id' := "list.__new__") (by kernel_rfl) (by first | rfl | decide +kernel | (unfold String.splitOn; simp +decide [String.splitOnAux])) (by decide +kernel) (by kernel_rfl)
theorem entry_init : entryFor table "bytearray.__init__" = some Builtin.«bytearray.__init__» := by first | exact entryFor_of_fast (by kernel_rfl) | exact entryFor_of_tree (by kernel_rfl)
theorem plain_new : plainId "bytearray.__new__" = true := by decide +kernel
theorem plain_init : plainId "bytearray.__init__" = true := by decide +kernel
theorem owner_new : ("bytearray.__new__".splitOn ".__new__").headD "" = "bytearray" := by simp +decide [String.splitOn, String.splitOnAux]
theorem sub_self : isSubtype (.type "bytearray") (.type "bytearray") = pure true := by rw [isSubtype_type]; kernel_rfl
theorem bind1 (v : Value) : Builtin.Bytes.bindOptional "bytearray.__init__" "bytearray" ["source", "encoding", "errors"] [v] [] = pure [some v, none, none] := by kernel_rfl
theorem lookup_rel : typeLookup (.type "bytearray") "__release_buffer__" = pure (some (.builtin "bytearray.__release_buffer__")) := by rw [typeLookup_type, builtinLookup_eq_fast]; kernel_rfl
theorem args_init (a b : Value) : argsOk "bytearray.__init__" ⟨[a, b], []⟩ := by unfold argsOk; kernel_rfl
end BA
section
variable {prog : Program} {w : World} {A : Around} {E : Value → Shared → Prop} {s : Shared}
abbrev baObj (b : Array UInt8) : Obj := { cls := .type "bytearray", data := .bytearray b }

theorem code_ba_new (a : Value) {Q₁ : Value → Shared → Prop}
    (h : Q₁ (.ref s.heap.objs.size) { s with heap := s.heap.push (baObj #[]) }) :
    codeAny (model prog w) A (.call (.builtin "bytearray.__new__") ⟨[.type "bytearray", a], []⟩) (wants Q₁ E) s := by
  refine codeAny_of_tree ?_
  show wpAny _ A.in1 (do checkBuiltinCall "bytearray.__new__" ⟨[.type "bytearray", a], []⟩; again (.builtin "bytearray.__new__" ⟨[.type "bytearray", a], []⟩)) _ _ s
  refine wpAny_bind (wpAny_of_eq (BA.newCall a) (wpAny_pure ⟨plainId_quiet BA.plain_new _, codeAny_builtin_stack BA.entry_new rfl fun p st => ?_⟩))
  rw [Around.under_plainId BA.plain_new _]
  have hsub := BA.sub_self
  have hown := BA.owner_new
  obtain ⟨hp, g, d, tk, os⟩ := s
  simp only [hown]
  wp_walk
  exact h
end
end Mine
end
section
open PySem PySem.W PyProof.Rows PySem.Calls PySem.Spec
open Sem (wp)
set_option Elab.async false
set_option maxRecDepth 100000
set_option maxHeartbeats 8000000
namespace Mine
section
variable {prog : Program} {w : World} {A : Around} {E : Value → Shared → Prop} {s : Shared}

theorem ba_write {a : Addr} {o : Array UInt8} {f : Array UInt8 → Array UInt8} {Q : Unit → Shared → Prop} (ho : s.heap.get? a = some (baObj o)) (hz : (f o).size ≤ 64)
    (h : ∀ h', h'.get? a = some (baObj (f o)) → (∀ b, b ≠ a → h'.get? b = s.heap.get? b) → Q () { s with heap := h' }) : wpAny (model prog w) A (Builtin.Bytes.write (.ref a) f) Q E s := by
  show wpAny _ _ (updateBytearray a f) _ _ _
  unfold updateBytearray
  refine wpAny_bind (wpAny_load ho ?_)
  show wpAny _ _ (update a (Obj.mapBytearray f) >>= fun _ => lookBehind a) _ _ _
  refine wpAny_bind (wpAny_update ho ?_)
  have h2 : (s.heap.update a (Obj.mapBytearray f)).get? a = some (baObj (f o)) := Heap.get?_update_self (Obj.mapBytearray f) ho rfl
  refine wpAny_lookBehind h2 ?_ (h _ h2 fun b hb => Heap.get?_update_other _ _ (Ne.symm hb))
  show (if (f o).size > sizeLine then some "bytearray:memory" else none) = none
  rw [if_neg]
  rw [sizeLine_eq]; omega

theorem ba_own {a : Addr} {o : Array UInt8} {Q : Bool → Shared → Prop} (ho : s.heap.get? a = some (baObj o)) (h : Q false s) : wpAny (model prog w) A (Builtin.Bytes.ownRelease (.ref a)) Q E s := by
  have hT : s.TypeIs (.ref a) "bytearray" := ⟨_, ho, rfl⟩
  unfold Builtin.Bytes.ownRelease Builtin.Bytes.slotIsOwn
  refine wpAny_bind (wpAny_bind (wpAny_specialOf hT BA.lookup_rel ?_))
  dsimp only
  have key : ∀ x : String, x = "bytearray" → wpAny (model prog w) A (isInstance (.ref a) (.type x)) (fun b s' => wpAny (model prog w) A (pure (!b)) Q E s') E s := fun x hx => by
    rw [hx]; exact wpAny_isInstance hT BA.sub_self (wpAny_pure h)
  split
  · rename_i hx
    exact absurd hx (by decide +kernel)
  · exact key _ (by decide +kernel)

theorem ba_init {a : Addr} {t : Tok} {X : PySem.Fin → Shared → Prop} {E : Value → Shared → Prop} (hg : A.guards = some []) (ho : s.heap.get? a = some (baObj #[]))
    (h : ∀ h', h'.get? a = some (baObj (Array.replicate 20 0)) → (∀ b, b ≠ a → h'.get? b = s.heap.get? b) → X (.done (.ret .none)) { s with heap := h' }) :
    wpC (model prog w) A (Builtin.«bytearray.__init__» ⟨[.ref a, .int 20 t], []⟩) X E s := by
  unfold Builtin.«bytearray.__init__»
  refine wpC_bindA (ba_own ho ?_)
  show wpC _ _ (Builtin.Bytes.bindOptional "bytearray.__init__" "bytearray" ["source", "encoding", "errors"] [.int 20 t] [] >>= _) _ _ _
  rw [BA.bind1]
  refine wpC_bindA (wpAny_pure ?_)
  refine wpC_bindA (wpAny_pure ?_)
  refine wpC_bindA (wpAny_pure ?_)
  refine wpC_bind ?_
  show wpC _ _ (Builtin.Bytes.exported (.ref a) >>= _) _ _ _
  refine wpC_bind (wpC_exported hg ?_)
  show wpC _ _ (Builtin.Bytes.exportsOf (.ref a) >>= _) _ _ _
  unfold Builtin.Bytes.exportsOf
  refine wpC_bindA (wpAny_bind (wpAny_load ho ?_))
  refine wpAny_pure ?_
  refine wpC_pure ?_
  refine wpC_of_any ?_
  show wpAny _ _ (if false = true then _ else _) _ _ _
  rw [if_neg Bool.false_ne_true]
  refine wpAny_bind (ba_write ho (by decide) fun h₁ e1 k1 => ?_)
  dsimp only
  refine wpAny_bind (wpAny_of_eq (a := none) rfl ?_)
  show wpAny _ _ (if false = true then _ else _) _ _ _
  rw [if_neg Bool.false_ne_true]
  refine wpAny_bind (wpAny_pure ?_)
  refine wpAny_bind (wpAny_specialOf (T := "int") (typeIs_int _ _ _) F.slot_int_index.lookup ?_)
  show wpAny _ _ (if true = true then _ else _) _ _ _
  rw [if_pos rfl]
  refine wpAny_bind (wpAny_attempt (wpAny_of_eq (rfl : asIndex (.int 20 t) = pure 20) ?_))
  dsimp only
  rw [if_neg (by decide), if_neg (by decide), if_neg (by decide), if_neg (by decide)]
  refine wpAny_bind (wpAny_rule ?_)
  rw [if_pos (by decide)]
  refine wpAny_bind (ba_write e1 (by simp) fun h₂ e2 k2 => ?_)
  exact wpAny_pure (h h₂ e2 fun b hb => (k2 b hb).trans (k1 b hb))

theorem codeC_builtin {id : String} {args : Args} {b : Builtin} {R : Result → Shared → Prop} (hb : entryFor table id = some b)
    (h : wpC (model prog w) (A.under (.builtin id args)) (b args)
      (fun fin s' => match fin with | .done f => R (.ok f) s' | .again c' => c'.quiet = true ∧ codeC (model prog w) A c' R s') (fun e s' => R (.error e) s') s)
    (hd : Builtin.Bytes.decodersThatHold.contains id = false := by decide +kernel) :
    codeC (model prog w) A (.builtin id args) R s := by
  refine codeC_of_tree ?_ hd
  show wpC _ _ (match entryFor table id with | some b => b args | none => unsupported ((withoutEnding? id "#data").getD id)) _ _ s
  rw [hb]; exact h

theorem ba_call {n : Int} {t : Tok} {Q : Value → Shared → Prop} (hn20 : n = 20) (hg : A.guards = some [])
    (h : ∀ h', h'.get? s.heap.objs.size = some (baObj (Array.replicate 20 0)) → (∀ b o, s.heap.get? b = some o → h'.get? b = some o) → Q (.ref s.heap.objs.size) { s with heap := h' }) :
    wpC (model prog w) A (call (.type "bytearray") [.int n t]) Q E s := by
  subst hn20
  obtain ⟨c, tl, hmro⟩ := BA.called.mro
  refine wpC_call (codeC_of_tree ?_)
  show wpC _ _ (callAny (.type "bytearray") _) _ _ _
  refine wpC_pure ⟨Code.quiet_builtin _ (by decide +kernel), codeC_builtin F.entry_type_call ?_⟩
  rw [Around.under_plain (weight_type_call_type "bytearray" _ _) (units_type_call_type "bytearray" _ _)]
  unfold Builtin.«type.__call__»
  dsimp only
  rw [if_neg (by decide)]
  rw [if_neg (by have := BA.called.canCreate; exact fun h => Bool.false_ne_true (this.symm.trans h))]
  refine wpC_bindA (wpAny_of_eq (BA.typeCall _) ?_)
  rw [hmro]
  refine wpC_bindA (wpAny_pure ?_)
  rw [if_neg (by exact Bool.false_ne_true)]
  rw [BA.called.made]
  refine wpC_bindA (wpAny_pure ?_)
  dsimp only
  refine wpC_bindA (wpAny_pure ?_)
  refine wpC_bindA (wpAny_holding (wpAny_call (codeAny_mono (code_ba_new (E := E) _ (Q₁ := fun v s' => v = .ref s.heap.objs.size ∧ s' = { s with heap := s.heap.push (baObj #[]) }) ⟨rfl, rfl⟩) ?_)))
  rintro (e | fl) s' hr
  · exact hr
  cases fl with
  | ret v =>
    obtain ⟨rfl, rfl⟩ := hr
    dsimp only
    have hn : (s.heap.push (baObj #[])).get? s.heap.objs.size = some (baObj #[]) := Heap.get?_push_size _ rfl
    have hT : Shared.TypeIs { s with heap := s.heap.push (baObj #[]) } (.ref s.heap.objs.size) "bytearray" := ⟨_, hn, rfl⟩
    refine wpC_bindA (wpAny_isInstance hT BA.sub_self ?_)
    rw [if_neg (by decide)]
    refine wpC_bind (wpC_holding ?_)
    unfold callSpecial?
    refine wpC_bindA (wpAny_specialOf hT BA.slot_init.lookup ?_)
    refine wpC_holding ?_
    rw [BA.slot_init.bind]
    refine wpC_bindA (wpAny_pure ?_)
    refine wpC_bind (wpC_call (codeC_of_tree ?_))
    show wpC _ _ (do checkBuiltinCall "bytearray.__init__" ⟨[.ref s.heap.objs.size, .int 20 t], []⟩; again (.builtin "bytearray.__init__" ⟨[.ref s.heap.objs.size, .int 20 t], []⟩)) _ _ _
    refine wpC_bindA (BA.slot_init.check _ _ _ _ _ _ _ _ hT ?_ ?_)
    · exact BA.args_init _ _
    refine wpC_pure ⟨plainId_quiet BA.plain_init _, codeC_builtin BA.entry_init ?_⟩
    refine ba_init (by rw [Around.under_plainId BA.plain_init _]; exact hg) hn fun h' e k => ?_
    refine wpC_pure ?_
    refine wpC_pure ?_
    exact h h' e fun b o hb => (k b (Nat.ne_of_lt (Heap.lt_size hb))).trans (Heap.get?_push_of_some _ hb)
  | _ => exact hr.elim
end
end Mine
end
section
open PySem PySem.W PyProof.Rows PySem.Calls PySem.Spec
open Sem (wp)
set_option Elab.async false
set_option maxRecDepth 100000
set_option maxHeartbeats 8000000
namespace Mine
section
variable {prog : Program} {w : World} {A : Around} {E : Value → Shared → Prop} {s : Shared} {R : Result → Shared → Prop}
theorem codeC_func {body env}
    (h : wpC (model prog w) (A.deeper env) (execs body env) (fun f s' => R (.ok (.ret (match f with | .ret v => v | _ => .none))) s')
      (fun e s' => wpAny (model prog w) (A.deeper env) (leaving env e) (fun _ s'' => R (.error e) s'') (fun e' s'' => R (.error e') s'') s') s) :
    codeC (model prog w) A (.func body env) R s := by
  refine codeC_of_tree ?_
  show wpC _ (A.deeper env) (do point; match ← (execs body env).onRaise (leaving env) with | .ret v => ret v | _ => ret .none) _ _ s
  refine wpC_bindA (wpAny_point (wpC_bind (wpC_onRaise (wpC_mono h (fun f s' h' => ?_) fun _ _ h' => h'))))
  cases f <;> exact wpC_pure h'
theorem codeC_call_function {a : Addr} {args : Args} {o : Obj} {fd : FuncData} {body : List Stmt} (hroom : A.depth < recursionLimit)
    (ho : s.heap.get? a = some o)
    (hd' : o.data = .func fd) (hco : fd.scope.isCoroutine = false) (hgen : fd.scope.isGenerator = false) (hbody : fd.body = .stmts body) (hcd : s.heap.CodeRec fd.code fd.qualname)
    (h : wpAny (model prog w) A.in1 (bindArgs fd args) (fun binds s₁ =>
      wpAny (model prog w) A.in1 (newFunctionEnv fd.scope fd.globals fd.closure binds (fd.qualname ++ ".<locals>.") (some a) fd.code none fd.builtins)
        (fun env s₂ => s₂.heap.NoLimit ∧ codeC (model prog w) A (.func body env) R s₂) (fun e s' => R (.error e) s') s₁) (fun e s' => R (.error e) s') s) :
    codeC (model prog w) A (.call (.ref a) args) R s := by
  refine codeC_of_tree ?_
  show wpC _ A.in1 (callAny (.ref a) args) _ _ s
  simp only [callAny]
  refine wpC_bindA (wpAny_load ho ?_)
  obtain ⟨c, oc, vs, tq, hc, hoc, hdc, hq⟩ := hcd
  simp only [hd', callFunction, hco, hgen, hbody, hc]
  rw [hc] at h
  refine wpC_bindA (m := field (.ref c) 1) (wpAny_field hoc hdc hq (wpC_bindA (wpAny_pure ?_)))
  exact wpC_bindA (wpAny_mono h (fun binds s₁ h₁ => wpC_bindA (wpAny_mono h₁ (fun env s₂ h₂ => wpC_bindA (wpAny_enterFrame h₂.1 hroom
    (wpC_pure (And.intro rfl h₂.2)))) fun _ _ h' => h')) fun _ _ h' => h')
theorem codeC_call_def {a : Addr} {o : Obj} {fd : FuncData} {body : List Stmt} {args : Args} {binds : List (PySem.Str × Value)}
    (hroom : A.depth < recursionLimit) (ho : s.heap.get? a = some o) (hdata : o.data = .func fd) (hlim : s.heap.NoLimit) (hcd : s.heap.CodeRec fd.code fd.qualname)
    (hbody : fd.body = .stmts body) (hbind : BindsTo s fd args binds)
    (hcell : ∀ x ∈ fd.scope.names, x.2 ≠ .cell) (hloc : ∀ x ∈ binds, fd.scope.names.lookup x.1 = some .local)
    (h : ∀ h₀, h₀.Ns s.heap.objs.size (fun x => binds.reverse.lookup x) → (∀ b o, s.heap.get? b = some o → h₀.get? b = some o) →
      wpC (model prog w) (A.deeper (callEnv fd s.heap.objs.size a)) (execs body (callEnv fd s.heap.objs.size a)) (fun f s' => R (.ok (.ret (match f with | .ret v => v | _ => .none))) s')
        (fun e s' => wpAny (model prog w) (A.deeper (callEnv fd s.heap.objs.size a)) (leaving (callEnv fd s.heap.objs.size a) e) (fun _ s'' => R (.error e) s'') (fun e' s'' => R (.error e') s'') s')
        { s with heap := h₀, toks := s.toks + binds.length })
    (hco : fd.scope.isCoroutine = false) (hgen : fd.scope.isGenerator = false) (hk : fd.scope.kind = .function) :
    codeC (model prog w) A (.call (.ref a) args) R s := by
  refine codeC_call_function hroom ho hdata hco hgen hbody hcd (hbind _ _ _ _ ?_)
  refine wpAny_newFunctionEnv hcell hloc (fun h₀ hns₀ hsb₀ => ⟨hlim.fresh _ hsb₀, codeC_func (h h₀ hns₀ fun b o e => ?_)⟩) hk
  exact hsb₀.extBut b o (Nat.ne_of_lt (Heap.lt_size e)) (Heap.get?_push_of_some _ e)

theorem call_C {base : Heap} {outer : List Env} {env : Env} {K : Frag} {p : Program} {loose : List PySem.Str} {mean : ExcName → Option Value} {mg mb : PySem.Str → Option Value}
    {Q : Value → Shared → Prop} {E : Value → Shared → Prop} {name qual : PySem.Str} {params : Arguments} {body : List Stmt} {scope : Scope} {dV kV doc pm cdv ct oc : Value} {an od : Option Addr} {osl : Array (Option Value)} {f : Addr} {args : List Value} {kw : List (PySem.Str × Value)} {binds : List (PySem.Str × Value)}
    (W : At p loose mean mg mb K A base env outer s.heap)
    (ho : K.lookup f = some ⟨oc, od, .func (fnOf name qual params body scope dV kV doc pm an cdv ct), osl⟩) (hcd : codeIn K cdv qual = true) (hroom : A.depth < recursionLimit)
    (hbind : BindsTo s (fnOf name qual params body scope dV kV doc pm an cdv ct) ⟨args, kw⟩ binds) (hloc : ∀ y ∈ binds, scope.names.lookup y.1 = some .local)
    (h : ∀ L' h₁, Fr s.heap L' h₁ (fun y => binds.reverse.lookup y) → Below A base (env :: outer) s.heap → K.In s.heap → Top p loose mean mg mb s.heap → (∀ b o, s.heap.get? b = some o → b < L') →
      wpC (model prog w) (A.deeper (envOf qual scope L' f cdv)) (execs body (envOf qual scope L' f cdv))
        (fun fl s' => Q (match fl with | .ret v => v | _ => .none) s') (fun _ _ => False)
        { s with heap := h₁, toks := s.toks + binds.length })
    (hco : scope.isCoroutine = false) (hgen : scope.isGenerator = false) (hk : scope.kind = .function)
    (hcell : ∀ x ∈ scope.names, x.2 ≠ .cell) : wpC (model prog w) A (call (.ref f) args kw) Q E s := by
  refine wpC_call ?_
  refine codeC_call_def (fd := fnOf name qual params body scope dV kV doc pm an cdv ct) (body := body) (binds := binds) hroom (W.frag _ _ ho) rfl W.top.nolimit (codeRec_of W.frag hcd) rfl hbind hcell hloc (fun h₁ hns hk₁ => ?_) hco hgen hk
  exact wpC_mono (h s.heap.objs.size h₁ ⟨hns, hk₁, Nat.le_refl _⟩ W.below W.frag W.top (fun b o e => Heap.lt_size e)) (fun fl s' x => x) fun _ _ x => x.elim

theorem wpC_Call_Name {env : Env} {x : PySem.Str} {p pos : Pos} {args : List Expr} {trees : List (Bool × Sem Value)} {Q : Value → Shared → Prop} {M : Model} (ht : backTo pos (starEach args env) = trees)
    (h : wpAny M A (eval (.Name x p) env) (fun f s₁ => wpC M A (callWith pos f [] trees []) Q E s₁) E s) :
    wpC M A (eval (.Call (.Name x p) args [] pos) env) Q E s := by
  subst ht
  exact wpC_bindA h
theorem wpC_callWith_type {M : Model} {pos : Pos} {T : String} {first : List Value} {args : List (Bool × Sem Value)} {Q : Value → Shared → Prop}
    (hplain : args.any (·.1) = false)
    (h : wpAny M A (evalArgs (.type T) true args []) (fun a s₁ => wpC M A (call (.type T) (first ++ a.pos) a.kw) Q E s₁) E s) :
    wpC M A (callWith pos (.type T) first args []) Q E s := by
  unfold callWith
  refine wpC_bindA (wpAny_holding (wpAny_mono h (fun a s₁ h₁ => wpC_bindA (wpAny_standAt ?_)) fun _ _ x => x))
  simp only [hplain, List.any_nil, Bool.or_false]
  refine wpC_bindA (wpAny_pure ?_)
  exact wpC_bind (wpC_mono h₁ (fun r s₂ hr => wpC_of_any (wpAny_bind (wpAny_holding (wpAny_point (wpAny_pure hr))))) fun _ _ x => x)
theorem wpC_callWith_fn {M : Model} {pos : Pos} {a : Addr} {first : List Value} {args : List (Bool × Sem Value)} {Q : Value → Shared → Prop}
    (hplain : args.any (·.1) = false)
    (h : wpAny M A (evalArgs (.ref a) true args []) (fun x s₁ => (∃ o fd, s₁.heap.get? a = some o ∧ o.data = .func fd) ∧ wpC M A (call (.ref a) (first ++ x.pos) x.kw) Q E s₁) E s) :
    wpC M A (callWith pos (.ref a) first args []) Q E s := by
  unfold callWith
  refine wpC_bindA (wpAny_holding (wpAny_mono h (fun x s₁ h₁ => wpC_bindA (wpAny_standAt ?_)) fun _ _ x => x))
  simp only [hplain, List.any_nil, Bool.or_false]
  refine wpC_bindA (m := keeperOf (.ref a)) ?_
  unfold keeperOf
  obtain ⟨⟨o, fd, h2, h3⟩, h₁⟩ := h₁
  refine wpAny_bind (wpAny_load h2 ?_)
  rw [h3]
  refine wpAny_pure ?_
  have tail : ∀ {t : Sem Value}, wpC M A t Q E s₁ → wpC M A (t >>= fun r => holding [r] point >>= fun _ => pure r) Q E s₁ :=
    fun ht => wpC_bind (wpC_mono ht (fun r s₂ hr => wpC_of_any (wpAny_bind (wpAny_holding (wpAny_point (wpAny_pure hr))))) fun _ _ x => x)
  dsimp only
  split <;> first
    | exact tail h₁
    | exact tail (by unfold callMarked; exact fun Γ p hΓ hc => by rw [Sem.wp_keep]; exact h₁ Γ p hΓ hc)
theorem wpC_callWith_type1 {M : Model} {pos : Pos} {T : String} {t : Sem Value} {Q : Value → Shared → Prop} (h : wpAny M A t (fun v s₁ => wpC M A (call (.type T) [v]) Q E s₁) E s) : wpC M A (callWith pos (.type T) [] [(false, t)] []) Q E s :=
  wpC_callWith_type rfl (Calls.evalArgs_plain (Calls.spliced_cons (wpAny_mono h (fun _ _ h₁ => Calls.spliced_nil h₁) fun _ _ e => e)))
theorem wpC_callWith_fn2 {M : Model} {pos : Pos} {a : Addr} {t u : Sem Value} {Q : Value → Shared → Prop}
    (h : wpAny M A t (fun v s₁ => wpAny M A u (fun v2 s₂ => Hold ((∃ o fd, s₂.heap.get? a = some o ∧ o.data = .func fd) ∧ wpC M A (call (.ref a) [v, v2]) Q E s₂)) E s₁) E s) : wpC M A (callWith pos (.ref a) [] [(false, t), (false, u)] []) Q E s :=
  wpC_callWith_fn rfl (Calls.evalArgs_plain (Calls.spliced_cons (wpAny_mono h (fun _ _ h₁ => Calls.spliced_cons (wpAny_mono h₁ (fun _ _ h₂ => Calls.spliced_nil h₂) fun _ _ e => e)) fun _ _ e => e)))
theorem wpC_Call_Name1 {M : Model} {env : Env} {x : PySem.Str} {p pos : Pos} {e : Expr} {Q : Value → Shared → Prop}
    (h : wpAny M A (eval (.Name x p) env) (fun f s₁ => wpC M A (callWith pos f [] [(false, eval e env)] []) Q E s₁) E s)
    (hs : starEach [e] env = [(false, eval e env)] := by rfl) :
    wpC M A (eval (.Call (.Name x p) [e] [] pos) env) Q E s := wpC_Call_Name (by rw [hs]; rfl) h
theorem wpC_Call_Name2 {M : Model} {env : Env} {x : PySem.Str} {p pos : Pos} {e₁ e₂ : Expr} {Q : Value → Shared → Prop}
    (h : wpAny M A (eval (.Name x p) env) (fun f s₁ => wpC M A (callWith pos f [] [(false, eval e₁ env), (false, eval e₂ env)] []) Q E s₁) E s)
    (hs : starEach [e₁, e₂] env = [(false, eval e₁ env), (false, eval e₂ env)] := by rfl) :
    wpC M A (eval (.Call (.Name x p) [e₁, e₂] [] pos) env) Q E s := wpC_Call_Name (by rw [hs]; rfl) h
theorem newBa {s : Shared} {h₀ h' : Heap} {L : Addr} {m : PySem.Str → Option Value} {o : Obj} (F : Fr h₀ L s.heap m) (hb : ∀ b o, h₀.get? b = some o → b < L) (e : h'.get? s.heap.objs.size = some o) : News h₀ L h' [(s.heap.objs.size, o)] := by
  obtain ⟨oL, es, ep, hL, _⟩ := F.ns
  have h1 := Heap.lt_size hL
  refine news1 e (Nat.ne_of_gt h1) ?_
  cases q : h₀.get? s.heap.objs.size with
  | none => rfl
  | some o => exact absurd (Nat.lt_trans h1 (hb _ _ q)) (Nat.lt_irrefl _)
end
end Mine
end
section
open PySem PySem.W PyProof.Rows PySem.Calls PySem.Spec
set_option Elab.async false
set_option maxRecDepth 100000
set_option maxHeartbeats 8000000
namespace Mine
theorem call_T {prog : Program} {w : World} {A : Around} {s : Shared} {base : Heap} {outer : List Env} {K : Frag} {p : Program} {loose : List PySem.Str} {mean : ExcName → Option Value} {mg mb : PySem.Str → Option Value}
    {Q : Value → Shared → Prop} {E : Value → Shared → Prop} {name qual : PySem.Str} {params : Arguments} {body : List Stmt} {scope : Scope} {dV kV doc pm cdv ct oc : Value} {an od : Option Addr} {osl : Array (Option Value)} {f : Addr} {args : List Value} {kw : List (PySem.Str × Value)} {binds : List (PySem.Str × Value)}
    (B : Below A base outer s.heap) (X : K.In s.heap) (T : Top p loose mean mg mb s.heap)
    (ho : K.lookup f = some ⟨oc, od, .func (fnOf name qual params body scope dV kV doc pm an cdv ct), osl⟩) (hcd : codeIn K cdv qual = true) (hroom : A.depth < recursionLimit)
    (hbind : BindsTo s (fnOf name qual params body scope dV kV doc pm an cdv ct) ⟨args, kw⟩ binds) (hkind : (binds.all fun y => scope.names.lookup y.1 == some .local || scope.names.lookup y.1 == some .cell) = true)
    (hnd : ((cellsFrom 0 scope.names []).map (·.1)).Nodup)
    (h : ∀ L' h₁ tk cells, Fr s.heap L' h₁ (bindL (envOfC qual scope L' f cdv).kindOf binds fun _ => none) → News s.heap L' h₁ cells →
      CellsAre (bindC (envOfC qual scope L' f cdv).kindOf binds fun _ => none) (cellsFrom (L' + 1) scope.names []) cells → Below A base outer s.heap → K.In s.heap → Top p loose mean mg mb s.heap → (∀ b o, s.heap.get? b = some o → b < L') →
      wpC (model prog w) (A.deeper (envOfC qual scope L' f cdv)) (execs body (envOfC qual scope L' f cdv))
        (fun fl s' => Q (match fl with | .ret v => v | _ => .none) s') (fun _ _ => False) { s with heap := h₁, toks := tk })
    (hco : scope.isCoroutine = false) (hgen : scope.isGenerator = false) (hk : scope.kind = .function) : wpC (model prog w) A (call (.ref f) args kw) Q E s := by
  refine wpC_call (codeC_call_function hroom (X _ _ ho) rfl hco hgen rfl (codeRec_of X hcd) (hbind _ _ _ _ ?_))
  refine wpAny_newFunctionEnv_cells hk (kindsX hkind _) fun env' he s' x => ?_
  subst he
  refine ⟨T.nolimit.keeps x.toInCall.keep, codeC_func ?_⟩
  obtain ⟨h₁, tk, rfl, _⟩ := x.done
  obtain ⟨cells, NC, Y⟩ := Cl.news (h₀ := s.heap) (Nat.le_refl _) fun n c hm => ⟨x.cell n c (lookup_of_mem_nodup (cellsFrom_names scope.names 0 (s.heap.objs.size + 1) [] [] rfl ▸ hnd) hm), x.above n c hm⟩
  exact wpC_mono (h s.heap.objs.size h₁ tk cells ⟨x.toInCall.ns, x.toInCall.keep, Nat.le_refl _⟩ NC Y B X T (fun b o e => Heap.lt_size e)) (fun fl s' y => y) fun _ _ y => y.elim
end Mine
end
section
open PySem PySem.W PyProof.Rows PySem.Calls PySem.Spec
set_option Elab.async false
set_option maxRecDepth 100000
set_option maxHeartbeats 8000000
namespace Mine
section
open PyProof.Rows.LCg
variable {prog : Program} {w : World} {A : Around} {E : Value → Shared → Prop} {s : Shared} {h₀ : Heap} {L : Addr} {m : PySem.Str → Option Value} {env : Env}
def CompTo (h₀ : Heap) (L : Addr) (m : PySem.Str → Option Value) (s₁ : Shared) (led : List (Addr × Obj)) (R : Value → Prop) (y : Value) (s₂ : Shared) : Prop :=
  ∃ h' tk' led', s₂ = { s₁ with heap := h', toks := tk' } ∧ Fr h₀ L h' m ∧ News h₀ L h' led' ∧ (∀ p ∈ led, p ∈ led') ∧ R y
theorem compTo {s₁ : Shared} {led led' : List (Addr × Obj)} {R : Value → Prop} {y : Value} {h' : Heap} {tk : Nat} (F : Fr h₀ L h' m) (N : News h₀ L h' led') (hs : ∀ p ∈ led, p ∈ led') (hr : R y) :
    CompTo h₀ L m s₁ led R y { s₁ with heap := h', toks := tk } := ⟨h', tk, led', rfl, F, N, hs, hr⟩

theorem compBy {elt : Expr} {x : PySem.Str} {scope : Scope} {cl : List (PySem.Str × Addr)} {S : List (Addr × Obj) → Prop} {P : Nat → Value → Prop} {Fin : List Value → List (Addr × Obj) → Prop} {n : Nat} {news : List (Addr × Obj)}
    (Inv : Nat → List Value → Prop) (hS : S news)
    (turn : ∀ i ys v I oI C oC D m₂ h tk (E' : Value → Shared → Prop), i < n → P i v → Inv i ys → NsObj oC m₂ → m₂ x = some v → Fr h₀ L h m → News h₀ L h ((I, oI) :: (C, oC) :: (D, lst ys) :: news) → Off3 I C D news → ((@Ne Nat I C) ∧ (@Ne Nat I D) ∧ (@Ne Nat C D)) →
      wpAny (model prog w) A (eval elt (compEnvC scope cl C env)) (fun y s₂ => Hold (CompTo h₀ L m { s with heap := h, toks := tk } ((I, oI) :: (C, oC) :: (D, lst ys) :: news) (fun y => Inv (i + 1) (ys ++ [y])) y s₂)) E' { s with heap := h, toks := tk })
    (done : ∀ ys, Inv n ys → Fin ys news) : ∀ k i ys, i + k = n → Inv i ys → CompRest prog w A h₀ L m env elt x scope cl s S P Fin k i ys news
  | 0, i, ys, e, hi => CompRest.zero (done ys (by have : i = n := by omega
                                                  exact this ▸ hi))
  | k + 1, i, ys, e, hi => CompRest.succ fun v I oI C oC D m₂ h tk E' hP hC hx F N off ne => by
      refine wpAny_mono (turn i ys v I oI C oC D m₂ h tk E' (by omega) hP hi hC hx F N off ne) (fun y s₂ h₂ => ?_) fun _ _ e => e
      obtain ⟨h', tk', led', rfl, F', N', sub, hy⟩ := h₂
      exact CompEnd.intro F' N' news sub off hS (compBy Inv hS turn done k (i + 1) (ys ++ [y]) (by omega) hy)

/-- a comprehension over a list of the ledger, kept under a name -/
theorem my_AssignComp {elt iter : Expr} {x y : PySem.Str} {px py : Pos} {scope : Scope} {cl : List (PySem.Str × Addr)} {pos spos : Pos} {Q : Flow → Shared → Prop} (F₀ : Fr h₀ L s.heap m) (hLe : env.locals = L)
    (hsw : swapsWith (.ListComp elt [⟨.Name x px, iter, [], 0⟩] scope pos) (some (.Name y py)) spos.line env = pure true)
    (hclos : closureFor scope env = pure cl) (hcell : ∀ z ∈ scope.names, z.2 ≠ .cell) (hkind : scope.kind = .function)
    (hnames : ∀ z ∈ scope.names, z.2 = .local → scope.names.lookup z.1 = some .local) (hx : scope.names.lookup x = some .local)
    (hy : env.kindOf y = some .local) (hp : (env.scope.kind == .class || (env.scope.kind == .module && env.locals != env.globals)) = false)
    (h : wpAny (model prog w) A (eval iter env) (fun xv s₁ => Hold (CompSrc prog w A h₀ L m env elt x scope cl (fun s₂ => FinA h₀ L m s₂ y Q) xv s₁)) E s)
    (hs : ∀ x, foldedSetIterable iter env x = pure x := by intro _; rfl) :
    wpAny (model prog w) A (exec (.Assign [.Name y py] (.ListComp elt [⟨.Name x px, iter, [], 0⟩] scope pos) spos) env) Q E s :=
  Assign_ListComp_U F₀ hLe hsw hclos hcell hkind hnames hx hy hp h hs
theorem my_Comp {elt iter : Expr} {x : PySem.Str} {px : Pos} {scope : Scope} {cl : List (PySem.Str × Addr)} {pos : Pos} {Q : Value → Shared → Prop} (F₀ : Fr h₀ L s.heap m)
    (hclos : closureFor scope env = pure cl) (hcell : ∀ z ∈ scope.names, z.2 ≠ .cell) (hkind : scope.kind = .function)
    (hnames : ∀ z ∈ scope.names, z.2 = .local → scope.names.lookup z.1 = some .local) (hx : scope.names.lookup x = some .local)
    (h : wpAny (model prog w) A (eval iter env) (fun xv s₁ => Hold (CompSrc prog w A h₀ L m env elt x scope cl (fun s₂ => FinE h₀ L m s₂ Q) xv s₁)) E s)
    (hs : ∀ x, foldedSetIterable iter env x = pure x := by intro _; rfl) :
    wpAny (model prog w) A (eval (.ListComp elt [⟨.Name x px, iter, [], 0⟩] scope pos) env) Q E s :=
  ListComp_U F₀ hclos hcell hkind hnames hx h hs
end
end Mine
end
section
open PySem PySem.W PyProof.Rows PySem.Calls PySem.Spec
set_option Elab.async false
set_option maxRecDepth 100000
set_option maxHeartbeats 8000000
set_option linter.unusedVariables false
namespace Mine
theorem fill_ (w : World) (h : Heap) : (Head.hc.heap_39 w.params).In h → PySem.Challenge.rw_zo0024_01.row.prog = PySem.Challenge.rw_zo0024_01.row.prog := by k_fill; intro _; w_top off; rfl
abbrev Prg : Program := PySem.Challenge.rw_zo0024_01.row.prog
abbrev CmpIs (w : World) (op : CmpOp) (a b : Value) (r : Bool) : Prop := ∀ (A : Around) (Q E : Value → Shared → Prop) (s : Shared), A.units < cLine → Q (.bool r) s → wpAny (model Prg w) A (compareOp op a b) Q E s

local macro_rules | `(tactic| walk_at "call builtin:len") => `(tactic| (refine len_list (Fr.lst (by assumption) (by assumption)) (by simp only [List.size_toArray]; omega) ?_))
local macro_rules | `(tactic| walk_at "subscriptTail") => `(tactic| ((with_reducible show wpAny _ _ (subscriptTail _ _ (Value.ref _) (Value.int (Int.fdiv _ 2) _)) _ _ _); (refine Mine.item_mid (by assumption) (by assumption) (by omega) (by omega) (by assumption) ?_); intro v9 hq9 hv9))
local macro_rules | `(tactic| walk_at "compareOp Lt") => `(tactic| ((rename (∀ i v, _ → CmpIs _ _ _ _ _) => hc9); (refine hc9 _ _ (by assumption) _ _ _ _ (by ktr_units) ?_)))
theorem bisL {w : World} {p : Program} {loose : List PySem.Str} {mean : ExcName → Option Value} {mg mb : PySem.Str → Option Value} {dp un : Nat} {gd : Option (List Code)} {base : Heap} {env : Env} {outer : List Env} {s : Shared} {Q E : Value → Shared → Prop}
  {l : Addr} {vs : List Value} {x : Value} {r : Nat}
  (W : At p loose mean mg mb (Head.hc.heap_39 w.params) { handled := none, depth := dp, frames := some (env :: outer), guards := gd, units := un } base env outer s.heap)
  (hd1 : dp + 3 < recursionLimit) (hu : un + 24 < cLine)
  (hL : s.heap.IsList l vs.toArray) (hlen : vs.length ≤ 64) (hr : r ≤ vs.length) (hc : ∀ i v, vs[i]? = some v → CmpIs w .Lt v x (decide (i < r)))
  (hret : ∀ (t : Tok) (h' : Heap) (tk' : Nat), (∀ b o, s.heap.get? b = some o → h'.get? b = some o) → Q (.int r t) { s with heap := h', toks := tk' }) :
  wpAny (model Prg w) { handled := none, depth := dp, frames := some (env :: outer), guards := gd, units := un } (call (.ref 86) [.ref l, x]) Q E s := by
  k_dflt (refine' Mine.call_S ?W ?k6 ?k7 ?k8 ?k9 ?kB ?_ ?c2 ?c3 ?c4 ?c5; (case W => assumption); (case k6 => k_is); (case k7 => k_is); (case k8 => ktr_room); (case k9 => (refine' kp_binds ?kx ?ke; (case kx => exact W.frag); (case ke => exact fun _ => rfl))); (case c5 => decide); (case kB => exact locs rfl); (case c2 => exact rfl); (case c3 => exact rfl); (case c4 => exact rfl))
  intro L' h' F' B' X' T' hb'
  have N' : News s.heap L' h' [] := News.nil
  (try dsimp only)
  clear W
  (k_with "exec While Compare cons nil" => k_while (fun _ lo hi => 0 ≤ lo ∧ lo ≤ (r : Int) ∧ (r : Int) ≤ hi ∧ hi ≤ (vs.length : Int)) (fun _ lo hi => (hi - lo).toNat) "lo" "hi")
  k_steps
  show Q (.int _ _) _
  exact Mine.retI hret (by omega) (Fr.keep (by assumption))
theorem bisR {w : World} {p : Program} {loose : List PySem.Str} {mean : ExcName → Option Value} {mg mb : PySem.Str → Option Value} {dp un : Nat} {gd : Option (List Code)} {base : Heap} {env : Env} {outer : List Env} {s : Shared} {Q E : Value → Shared → Prop}
  {l : Addr} {vs : List Value} {x : Value} {r : Nat}
  (W : At p loose mean mg mb (Head.hc.heap_39 w.params) { handled := none, depth := dp, frames := some (env :: outer), guards := gd, units := un } base env outer s.heap)
  (hd1 : dp + 3 < recursionLimit) (hu : un + 24 < cLine)
  (hL : s.heap.IsList l vs.toArray) (hlen : vs.length ≤ 64) (hr : r ≤ vs.length) (hc : ∀ i v, vs[i]? = some v → CmpIs w .Lt x v (decide (r ≤ i)))
  (hret : ∀ (t : Tok) (h' : Heap) (tk' : Nat), (∀ b o, s.heap.get? b = some o → h'.get? b = some o) → Q (.int r t) { s with heap := h', toks := tk' }) :
  wpAny (model Prg w) { handled := none, depth := dp, frames := some (env :: outer), guards := gd, units := un } (call (.ref 68) [.ref l, x]) Q E s := by
  k_dflt (refine' Mine.call_S ?W ?k6 ?k7 ?k8 ?k9 ?kB ?_ ?c2 ?c3 ?c4 ?c5; (case W => assumption); (case k6 => k_is); (case k7 => k_is); (case k8 => ktr_room); (case k9 => (refine' kp_binds ?kx ?ke; (case kx => exact W.frag); (case ke => exact fun _ => rfl))); (case c5 => decide); (case kB => exact locs rfl); (case c2 => exact rfl); (case c3 => exact rfl); (case c4 => exact rfl))
  intro L' h' F' B' X' T' hb'
  have N' : News s.heap L' h' [] := News.nil
  (try dsimp only)
  clear W
  (k_with "exec While Compare cons nil" => k_while (fun _ lo hi => 0 ≤ lo ∧ lo ≤ (r : Int) ∧ (r : Int) ≤ hi ∧ hi ≤ (vs.length : Int)) (fun _ lo hi => (hi - lo).toNat) "lo" "hi")
  k_steps
  show Q (.int _ _) _
  exact Mine.retI hret (by omega) (Fr.keep (by assumption))
theorem bisL4 {w : World} {p : Program} {loose : List PySem.Str} {mean : ExcName → Option Value} {mg mb : PySem.Str → Option Value} {dp un : Nat} {gd : Option (List Code)} {base : Heap} {env : Env} {outer : List Env} {s : Shared} {Q E : Value → Shared → Prop}
  {l : Addr} {vs : List Value} {x : Value} {r : Nat} {t0 : Tok}
  (W : At p loose mean mg mb (Head.hc.heap_39 w.params) { handled := none, depth := dp, frames := some (env :: outer), guards := gd, units := un } base env outer s.heap)
  (hd1 : dp + 3 < recursionLimit) (hu : un + 24 < cLine)
  (hL : s.heap.IsList l vs.toArray) (hlen : vs.length ≤ 64) (hr : r ≤ vs.length) (hc : ∀ i v, vs[i]? = some v → CmpIs w .Lt v x (decide (i < r)))
  (hret : ∀ (t : Tok) (h' : Heap) (tk' : Nat), (∀ b o, s.heap.get? b = some o → h'.get? b = some o) → Q (.int r t) { s with heap := h', toks := tk' }) :
  wpAny (model Prg w) { handled := none, depth := dp, frames := some (env :: outer), guards := gd, units := un } (call (.ref 86) [.ref l, x, .int 0 t0, .none]) Q E s := by
  k_dflt (refine' Mine.call_S ?W ?k6 ?k7 ?k8 ?k9 ?kB ?_ ?c2 ?c3 ?c4 ?c5; (case W => assumption); (case k6 => k_is); (case k7 => k_is); (case k8 => ktr_room); (case k9 => (refine' kp_binds ?kx ?ke; (case kx => exact W.frag); (case ke => exact fun _ => rfl))); (case c5 => decide); (case kB => exact locs rfl); (case c2 => exact rfl); (case c3 => exact rfl); (case c4 => exact rfl))
  intro L' h' F' B' X' T' hb'
  have N' : News s.heap L' h' [] := News.nil
  (try dsimp only)
  clear W
  (k_with "exec While Compare cons nil" => k_while (fun _ lo hi => 0 ≤ lo ∧ lo ≤ (r : Int) ∧ (r : Int) ≤ hi ∧ hi ≤ (vs.length : Int)) (fun _ lo hi => (hi - lo).toNat) "lo" "hi")
  k_steps
  show Q (.int _ _) _
  exact Mine.retI hret (by omega) (Fr.keep (by assumption))
theorem bisR4 {w : World} {p : Program} {loose : List PySem.Str} {mean : ExcName → Option Value} {mg mb : PySem.Str → Option Value} {dp un : Nat} {gd : Option (List Code)} {base : Heap} {env : Env} {outer : List Env} {s : Shared} {Q E : Value → Shared → Prop}
  {l : Addr} {vs : List Value} {x : Value} {r : Nat} {t0 : Tok}
  (W : At p loose mean mg mb (Head.hc.heap_39 w.params) { handled := none, depth := dp, frames := some (env :: outer), guards := gd, units := un } base env outer s.heap)
  (hd1 : dp + 3 < recursionLimit) (hu : un + 24 < cLine)
  (hL : s.heap.IsList l vs.toArray) (hlen : vs.length ≤ 64) (hr : r ≤ vs.length) (hc : ∀ i v, vs[i]? = some v → CmpIs w .Lt x v (decide (r ≤ i)))
  (hret : ∀ (t : Tok) (h' : Heap) (tk' : Nat), (∀ b o, s.heap.get? b = some o → h'.get? b = some o) → Q (.int r t) { s with heap := h', toks := tk' }) :
  wpAny (model Prg w) { handled := none, depth := dp, frames := some (env :: outer), guards := gd, units := un } (call (.ref 68) [.ref l, x, .int 0 t0, .none]) Q E s := by
  k_dflt (refine' Mine.call_S ?W ?k6 ?k7 ?k8 ?k9 ?kB ?_ ?c2 ?c3 ?c4 ?c5; (case W => assumption); (case k6 => k_is); (case k7 => k_is); (case k8 => ktr_room); (case k9 => (refine' kp_binds ?kx ?ke; (case kx => exact W.frag); (case ke => exact fun _ => rfl))); (case c5 => decide); (case kB => exact locs rfl); (case c2 => exact rfl); (case c3 => exact rfl); (case c4 => exact rfl))
  intro L' h' F' B' X' T' hb'
  have N' : News s.heap L' h' [] := News.nil
  (try dsimp only)
  clear W
  (k_with "exec While Compare cons nil" => k_while (fun _ lo hi => 0 ≤ lo ∧ lo ≤ (r : Int) ∧ (r : Int) ≤ hi ∧ hi ≤ (vs.length : Int)) (fun _ lo hi => (hi - lo).toNat) "lo" "hi")
  k_steps
  show Q (.int _ _) _
  exact Mine.retI hret (by omega) (Fr.keep (by assumption))

theorem fits_small {k : Int} (h0 : 0 ≤ k) (h1 : k ≤ 64) : Builtin.List.listFitsIndex k = true := by
  unfold Builtin.List.listFitsIndex
  simp
  omega
end Mine
end
section
open PySem PySem.W PyProof.Rows PySem.Calls PySem.Spec
set_option Elab.async false
set_option maxRecDepth 100000
set_option maxHeartbeats 8000000
set_option linter.unusedVariables false
namespace Mine
theorem fillC_ (w : World) (h : Heap) : (Head.hc.heap_39 w.params).In h → PySem.Challenge.rw_zo0024_01.row.prog = PySem.Challenge.rw_zo0024_01.row.prog := by k_fill; intro _; w_top off; rfl

local macro_rules | `(tactic| walk_at "call ref") => `(tactic| ((with_reducible show wpAny _ _ (call (Value.ref 86) [_, _, _, _]) _ _ _); (rename (∀ i v, _ → CmpIs _ _ _ _ _) => hc9); k_dflt (refine' Mine.bisL4 ?W ?d ?u ?L ?len ?r hc9 ?_; (case W => exact At.of (by assumption) (by assumption) (by assumption) (by assumption) rfl rfl rfl); (case d => ktr_room); (case u => ktr_units); (case L => exact News.isList (by assumption) (by exact List.Mem.head _)); (case len => omega); (case r => assumption)); intro t9 h9 tk9 k9; (rename Fr _ _ _ _ => F9); (rename News _ _ _ _ => N9); (replace F9 := Fr.after F9 k9); (replace N9 := newsAfter N9 k9); clear k9))
local macro_rules | `(tactic| walk_at "call builtin:list.insert") => `(tactic| (k_dflt (refine' kl_insert ?F ?N ?f rfl ?U ?z ?_; (case F => assumption); (case N => assumption); (case U => exact Upd.head (fun _ h => nomatch h)); (case f => exact fits_small (by omega) (by omega)); (case z => (rw [sizeLine_eq]; simp; omega)); (intro h9 F9 N9))))
theorem insL {w : World} {p : Program} {loose : List PySem.Str} {mean : ExcName → Option Value} {mg mb : PySem.Str → Option Value} {dp un : Nat} {gd : Option (List Code)} {A₀ : Around} {base h₀ : Heap} {env : Env} {outer : List Env} {s : Shared} {Q E : Value → Shared → Prop} {L : Addr} {m : PySem.Str → Option Value}
  {l : Addr} {vs : List Value} {n : Nat} {x : Value} {r : Nat}
  (B : Below A₀ base outer h₀) (F : Fr h₀ L s.heap m) (X : (Head.hc.heap_39 w.params).In h₀) (T : Top p loose mean mg mb h₀) (N : News h₀ L s.heap [(l, listOf vs.toArray n)]) (hf : env.frame = some L) (hke : env.scope.kind = .function)
  (hd1 : dp + 5 < recursionLimit) (hu : un + 40 < cLine)
  (hlen : vs.length ≤ 60) (hr : r ≤ vs.length) (hc : ∀ i v, vs[i]? = some v → CmpIs w .Lt v x (decide (i < r)))
  (hret : ∀ (h' : Heap) (tk' : Nat), (∀ b o, s.heap.get? b = some o → b ≠ l → h'.get? b = some o) → h'.get? l = some (listOf (vs.take r ++ x :: vs.drop r).toArray (n + 1)) → Q .none { s with heap := h', toks := tk' }) :
  wpAny (model Prg w) { handled := none, depth := dp, frames := some (env :: outer), guards := gd, units := un } (call (.ref 77) [.ref l, x]) Q E s := by
  k_dflt (refine' Mine.call_M B F X T N rfl hf hke ?k6 ?k7 ?k8 ?k9 ?kB ?_ ?c2 ?c3 ?c4 ?c5; (case k6 => k_is); (case k7 => k_is); (case k8 => ktr_room); (case k9 => (refine' kp_binds ?kx ?ke; (case kx => exact X.keeps F.keep); (case ke => exact fun _ => rfl))); (case c5 => decide); (case kB => exact locs rfl); (case c2 => exact rfl); (case c3 => exact rfl); (case c4 => exact rfl))
  intro g L' h' hg F' N' B' X' T'
  (try dsimp only)
  clear B F X T N
  k_steps
  show Q .none _
  rename_i N9
  refine hret _ _ (fun b o e hb => Fr.keep (by assumption) _ _ (hg b o e hb)) ?_
  rw [← ins_at hr]
  exact (N9 _ (.head _)).1
local macro_rules | `(tactic| walk_at "call ref") => `(tactic| ((with_reducible show wpAny _ _ (call (Value.ref 68) [_, _, _, _]) _ _ _); (rename (∀ i v, _ → CmpIs _ _ _ _ _) => hc9); k_dflt (refine' Mine.bisR4 ?W ?d ?u ?L ?len ?r hc9 ?_; (case W => exact At.of (by assumption) (by assumption) (by assumption) (by assumption) rfl rfl rfl); (case d => ktr_room); (case u => ktr_units); (case L => exact News.isList (by assumption) (by exact List.Mem.head _)); (case len => omega); (case r => assumption)); intro t9 h9 tk9 k9; (rename Fr _ _ _ _ => F9); (rename News _ _ _ _ => N9); (replace F9 := Fr.after F9 k9); (replace N9 := newsAfter N9 k9); clear k9))
theorem insR {w : World} {p : Program} {loose : List PySem.Str} {mean : ExcName → Option Value} {mg mb : PySem.Str → Option Value} {dp un : Nat} {gd : Option (List Code)} {A₀ : Around} {base h₀ : Heap} {env : Env} {outer : List Env} {s : Shared} {Q E : Value → Shared → Prop} {L : Addr} {m : PySem.Str → Option Value}
  {l : Addr} {vs : List Value} {n : Nat} {x : Value} {r : Nat}
  (B : Below A₀ base outer h₀) (F : Fr h₀ L s.heap m) (X : (Head.hc.heap_39 w.params).In h₀) (T : Top p loose mean mg mb h₀) (N : News h₀ L s.heap [(l, listOf vs.toArray n)]) (hf : env.frame = some L) (hke : env.scope.kind = .function)
  (hd1 : dp + 5 < recursionLimit) (hu : un + 40 < cLine)
  (hlen : vs.length ≤ 60) (hr : r ≤ vs.length) (hc : ∀ i v, vs[i]? = some v → CmpIs w .Lt x v (decide (r ≤ i)))
  (hret : ∀ (h' : Heap) (tk' : Nat), (∀ b o, s.heap.get? b = some o → b ≠ l → h'.get? b = some o) → h'.get? l = some (listOf (vs.take r ++ x :: vs.drop r).toArray (n + 1)) → Q .none { s with heap := h', toks := tk' }) :
  wpAny (model Prg w) { handled := none, depth := dp, frames := some (env :: outer), guards := gd, units := un } (call (.ref 59) [.ref l, x]) Q E s := by
  k_dflt (refine' Mine.call_M B F X T N rfl hf hke ?k6 ?k7 ?k8 ?k9 ?kB ?_ ?c2 ?c3 ?c4 ?c5; (case k6 => k_is); (case k7 => k_is); (case k8 => ktr_room); (case k9 => (refine' kp_binds ?kx ?ke; (case kx => exact X.keeps F.keep); (case ke => exact fun _ => rfl))); (case c5 => decide); (case kB => exact locs rfl); (case c2 => exact rfl); (case c3 => exact rfl); (case c4 => exact rfl))
  intro g L' h' hg F' N' B' X' T'
  (try dsimp only)
  clear B F X T N
  k_steps
  show Q .none _
  rename_i N9
  refine hret _ _ (fun b o e hb => Fr.keep (by assumption) _ _ (hg b o e hb)) ?_
  rw [← ins_at hr]
  exact (N9 _ (.head _)).1
end Mine
end
section
open PySem PySem.W PyProof.Rows PySem.Calls PySem.Spec
set_option Elab.async false
set_option maxRecDepth 100000
set_option maxHeartbeats 8000000
set_option linter.unusedVariables false
namespace Mine
theorem fillI_ (w : World) (h : Heap) : (Head.hc.heap_39 w.params).In h → PySem.Challenge.rw_zo0024_01.row.prog = PySem.Challenge.rw_zo0024_01.row.prog := by k_fill; intro _; w_top off; rfl
abbrev PrgI : Program := PySem.Challenge.rw_zo0024_01.row.prog
def apL : List UInt8 := [65, 66, 67, 68, 69, 70, 71, 72, 73, 74, 75, 76, 77, 78, 79, 80]
def goAP (n : Nat) (v : List UInt8) : List UInt8 := if h : n = 0 then v else goAP (n / 16) (apL.getD (n % 16) 0 :: v)
termination_by n
decreasing_by omega

def APInv (z : Int) (num : Int) (val : Array UInt8) : Prop := 0 ≤ num ∧ num ≤ 65535 ∧ (val.size : Int) + num ≤ 65535 ∧ goAP num.toNat val.toList = goAP z.natAbs []
theorem ap_start {z : Int} (hz : z.natAbs ≤ 65535) : APInv z (if z < 0 then -z else z) #[] := by
  have e : (if z < 0 then -z else z) = (z.natAbs : Int) := by split <;> omega
  rw [e]
  exact ⟨by omega, by omega, by simp; omega, rfl⟩
theorem ap_pick : ∀ k : Fin 16, KBy.picked [65, 66, 67, 68, 69, 70, 71, 72, 73, 74, 75, 76, 77, 78, 79, 80].toArray (some (k.val : Int)) (some ((k.val : Int) + 1)) = #[apL.getD k.val 0] := by decide +kernel
theorem ap_turn {z num : Int} {val : Array UInt8} (h : APInv z num val) (hn : num ≠ 0) :
    APInv z (Int.fdiv num 16) (KBy.picked [65, 66, 67, 68, 69, 70, 71, 72, 73, 74, 75, 76, 77, 78, 79, 80].toArray (some (Int.fmod num 16)) (some (Int.fmod num 16 + 1)) ++ val) := by
  obtain ⟨h1, h2, h3, h4⟩ := h
  obtain ⟨n, rfl⟩ : ∃ n : Nat, num = n := ⟨num.toNat, by omega⟩
  have hm : Int.fmod (n : Int) 16 = ((n % 16 : Nat) : Int) := by rw [Int.fmod_eq_emod_of_nonneg _ (by decide)]; omega
  have hd : Int.fdiv (n : Int) 16 = ((n / 16 : Nat) : Int) := by rw [Int.fdiv_eq_ediv_of_nonneg _ (by decide)]; omega
  have hp := ap_pick ⟨n % 16, Nat.mod_lt _ (by decide)⟩
  simp only at hp
  rw [hm, hd, hp]
  refine ⟨by omega, by omega, ?_, ?_⟩
  · rw [Array.size_append]
    simp only [List.size_toArray, List.length_cons, List.length_nil]
    omega
  · rw [← h4, Int.toNat_natCast, Int.toNat_natCast]
    conv => rhs; rw [goAP]
    rw [dif_neg (by omega)]
    simp
theorem ap_size {z num : Int} {val : Array UInt8} {lo hi : Option Int} (h : APInv z num val) :
    (KBy.picked [65, 66, 67, 68, 69, 70, 71, 72, 73, 74, 75, 76, 77, 78, 79, 80].toArray lo hi).size + val.size ≤ 16777216 := by
  have h1 := KBc.size_picked_le [65, 66, 67, 68, 69, 70, 71, 72, 73, 74, 75, 76, 77, 78, 79, 80].toArray lo hi
  have h2 : ([65, 66, 67, 68, 69, 70, 71, 72, 73, 74, 75, 76, 77, 78, 79, 80].toArray : Array UInt8).size = 16 := rfl
  obtain ⟨h3, _, h4, _⟩ := h
  omega
theorem ap_less {z num : Int} {val : Array UInt8} (h : APInv z num val) (hn : num ≠ 0) : (Int.fdiv num 16).toNat < num.toNat := by
  obtain ⟨h1, _⟩ := h
  rw [Int.fdiv_eq_ediv_of_nonneg _ (by decide)]
  omega
theorem ap_end {z num : Int} {val : Array UInt8} (h : APInv z num val) (hn : num = 0) : val = (goAP z.natAbs []).toArray := by
  subst hn
  have h4 := h.2.2.2
  rw [Int.toNat_zero, goAP, dif_pos rfl] at h4
  rw [← h4]

local macro_rules | `(tactic| walk_at "exec While Name cons nil") => `(tactic| k_extra "exec While Name cons nil")
local macro_rules | `(tactic| walk_at "binaryOp Add bytes bytes") => `(tactic| ((refine PySem.W.KBy.add_bytes (ap_size (by assumption)) ?_); intro t9 k9))
local macro_rules | `(tactic| walk_at "subscriptTail") => `(tactic| ((with_reducible show wpAny _ _ (subscriptTail _ _ (Value.bytes _ _) (Value.ref _)) _ _ _); (rename Fr _ _ _ _ => F9); (rename News _ _ _ _ => N9); (refine KBc.slice_K (s := ⟨_, _, _, _, _⟩) F9 N9 rfl (by constructor) (by constructor) (by rw [KBw.ints_length]; decide) ?_); intro h9 t9 k9 F9' N9' _; clear F9 N9))
theorem int2ap {w : World} {p : Program} {loose : List PySem.Str} {mean : ExcName → Option Value} {mg mb : PySem.Str → Option Value} {dp un : Nat} {gd : Option (List Code)} {base : Heap} {env : Env} {outer : List Env} {s : Shared} {Q E : Value → Shared → Prop}
  {z : Int} {t : Tok}
  (W : At p loose mean mg mb (Head.hc.heap_39 w.params) { handled := none, depth := dp, frames := some (env :: outer), guards := gd, units := un } base env outer s.heap)
  (hd1 : dp + 3 < recursionLimit) (hu : un + 24 < cLine) (hz : z.natAbs ≤ 65535)
  (hret : ∀ (t : Tok) (h' : Heap) (tk' : Nat), (∀ b o, s.heap.get? b = some o → h'.get? b = some o) → Q (.bytes (goAP z.natAbs []).toArray t) { s with heap := h', toks := tk' }) :
  wpAny (model PrgI w) { handled := none, depth := dp, frames := some (env :: outer), guards := gd, units := un } (call (.ref 93) [.int z t]) Q E s := by
  k_dflt (refine' Mine.call_S ?W ?k6 ?k7 ?k8 ?k9 ?kB ?_ ?c2 ?c3 ?c4 ?c5; (case W => assumption); (case k6 => k_is); (case k7 => k_is); (case k8 => ktr_room); (case k9 => exact BindsTo.of_eq rfl); (case c5 => decide); (case kB => exact locs rfl); (case c2 => exact rfl); (case c3 => exact rfl); (case c4 => exact rfl))
  intro L' h' F' B' X' T' hb'
  have N' : News s.heap L' h' [] := News.nil
  (try dsimp only)
  clear W
  (k_with "exec While Name cons nil" => k_while (fun _ num val => APInv z num val) (fun _ num val => num.toNat) "num" "val")
  (k_with "state" => first | exact ap_start hz | exact ap_turn (by assumption) (by simpa using (by assumption)))
  (k_with "measure" => exact ap_less (by assumption) (by simpa using (by assumption)))
  k_steps
  show Q (.bytes _ _) _
  exact retB hret (ap_end (by assumption) (by assumption)) (Fr.keep (by assumption))
end Mine
end
section
open PySem PySem.W PyProof.Rows PySem.Calls PySem.Spec
set_option Elab.async false
set_option maxRecDepth 100000
set_option maxHeartbeats 8000000
namespace Mine
namespace BA
theorem slot_set : Slot "bytearray" "__setitem__" "bytearray.__setitem__" :=
  .of (owner := "bytearray") (n := "__setitem__") (by rw [typeLookup_type, builtinLookup_eq_fast]; kernel_rfl) (by decide +kernel) (by decide +kernel) (by decide +kernel)
    (by first | exact .inl (by decide +kernel) | exact .inr (by decide +kernel)) (by rw [isSubtype_type]; kernel_rfl)
theorem entry_set : entryFor table "bytearray.__setitem__" = some Builtin.«bytearray.__setitem__» := by first | exact entryFor_of_fast (by kernel_rfl) | exact entryFor_of_tree (by kernel_rfl)
theorem args_set (a b c : Value) : argsOk "bytearray.__setitem__" ⟨[a, b, c], []⟩ := by unfold argsOk; kernel_rfl
theorem look_buffer : typeLookup (.type "bytearray") "__buffer__" = pure (some (.builtin "bytearray.__buffer__")) := by rw [typeLookup_type, builtinLookup_eq_fast]; kernel_rfl
theorem look_bytes : typeLookup (.type "bytearray") "__bytes__" = pure none := by rw [typeLookup_type, builtinLookup_eq_fast]; kernel_rfl
theorem look_index : typeLookup (.type "bytearray") "__index__" = pure none := by rw [typeLookup_type, builtinLookup_eq_fast]; kernel_rfl
end BA
section
variable {prog : Program} {w : World} {A : Around} {E : Value → Shared → Prop} {s : Shared}
theorem ba_setItem {a : Addr} {o : Array UInt8} {k v : Int} {t u : Tok} {Q : Unit → Shared → Prop} (ho : s.heap.get? a = some (baObj o)) (hz : o.size ≤ 64) (h0 : 0 ≤ k) (h1 : k < (o.size : Int)) (hv0 : 0 ≤ v) (hv : v < 256)
    (hQ : ∀ h', h'.get? a = some (baObj (o.setIfInBounds k.toNat v.toNat.toUInt8)) → (∀ b, b ≠ a → h'.get? b = s.heap.get? b) → Q () { s with heap := h' }) : wpAny (model prog w) A (setItem (.ref a) (.int k t) (.int v u)) Q E s := by
  have hT : s.TypeIs (.ref a) "bytearray" := ⟨_, ho, rfl⟩
  unfold setItem
  refine wpAny_holding ?_
  refine wpAny_bind (wpAny_sequenceKey hT (by decide) ?_)
  refine wpAny_bind (wpAny_callSpecial?_slot (name := PySem.Str.ofString "__setitem__") hT BA.slot_set
    (wpAny_call_entry BA.slot_set hT BA.entry_set ?_ (BA.args_set _ _ _)))
  show wpAny _ _ (Builtin.Bytes.subscript? (.int k t) >>= _) _ _ s
  unfold Builtin.Bytes.subscript?
  refine wpAny_bind (wpAny_bind (wpAny_specialOf (T := "int") (typeIs_int _ _ _) F.slot_int_index.lookup ?_))
  rw [if_neg (by decide)]
  refine wpAny_bind (wpAny_of_eq (rfl : asIndex (.int k t) = pure k) ?_)
  rw [if_neg (by simp only [Builtin.Bytes.fitsIndex]; simp; omega)]
  refine wpAny_pure ?_
  refine wpAny_bind ?_
  unfold Builtin.Bytes.byteValue
  refine wpAny_bind (wpAny_of_eq (rfl : asIndex (.int v u) = pure v) ?_)
  rw [if_neg (by simp; omega)]
  refine wpAny_pure ?_
  refine wpAny_bind ?_
  unfold Builtin.Bytes.payload Builtin.Bytes.payload?
  refine wpAny_bind (wpAny_bind (wpAny_load ho ?_))
  refine wpAny_pure (wpAny_pure ?_)
  have e : seqIndex? k o.size = some k.toNat := by
    have hn : ¬ k < 0 := by omega
    simp [seqIndex?, hn, h0, h1]
  rw [e]
  refine wpAny_bind (ba_write ho (by simpa using hz) fun h' e1 k1 => ?_)
  exact wpAny_pure ⟨_, rfl, wpAny_pure (hQ h' e1 k1)⟩
theorem ba_ownBuffer {a : Addr} {o : Array UInt8} {Q : Bool → Shared → Prop} (ho : s.heap.get? a = some (baObj o)) (h : Q true s) : wpAny (model prog w) A (Builtin.Bytes.slotIsOwn (.ref a) "__buffer__") Q E s := by
  have hT : s.TypeIs (.ref a) "bytearray" := ⟨_, ho, rfl⟩
  unfold Builtin.Bytes.slotIsOwn
  refine wpAny_bind (wpAny_specialOf hT BA.look_buffer ?_)
  dsimp only
  have key : ∀ x : String, x = "bytearray" → wpAny (model prog w) A (isInstance (.ref a) (.type x)) Q E s := fun x hx => by
    rw [hx]; exact wpAny_isInstance hT BA.sub_self h
  split
  · rename_i hx
    exact absurd hx (by decide +kernel)
  · exact key _ (by decide +kernel)
theorem ba_buffer {a : Addr} {o : Array UInt8} {id : String} {full : Bool} {Q : Option (Array UInt8) → Shared → Prop} (ho : s.heap.get? a = some (baObj o)) (h : Q (some o) s) : wpAny (model prog w) A (Builtin.Bytes.buffer? id (.ref a) full) Q E s := by
  have hT : s.TypeIs (.ref a) "bytearray" := ⟨_, ho, rfl⟩
  unfold Builtin.Bytes.buffer?
  refine wpAny_bind (wpAny_specialOf hT BA.look_buffer ?_)
  refine wpAny_bind (ba_ownBuffer ho ?_)
  rw [if_neg (by decide)]
  refine wpAny_bind (wpAny_specialOf hT BA.look_buffer ?_)
  dsimp only
  refine wpAny_bind (ba_own ho ?_)
  rw [if_neg (by decide)]
  refine wpAny_bind ?_
  unfold Builtin.Bytes.payload Builtin.Bytes.payload?
  refine wpAny_bind (wpAny_bind (wpAny_load ho ?_))
  exact wpAny_pure (wpAny_pure (wpAny_pure h))

theorem ba_bytesNew {a : Addr} {o : Array UInt8} {Q : Value → Shared → Prop} (ho : s.heap.get? a = some (baObj o)) (hz : o.size ≤ 64)
    (hQ : ∀ t k, Q (.bytes o t) { s with toks := k }) :
    codeAny (model prog w) A (.call (.builtin "bytes.__new__") ⟨[.type "bytes", .ref a], []⟩) (wants Q E) s := by
  refine codeAny_of_tree ?_
  show wpAny _ A.in1 (do checkBuiltinCall "bytes.__new__" ⟨[.type "bytes", .ref a], []⟩; again (.builtin "bytes.__new__" ⟨[.type "bytes", .ref a], []⟩)) _ _ s
  refine wpAny_bind (wpAny_of_eq (F.bm_newCall _) (wpAny_pure ⟨plainId_quiet F.bm_plain _, codeAny_builtin F.bm_entry ?_⟩))
  rw [Around.under_plainId F.bm_plain _]
  have hT : s.TypeIs (.ref a) "bytearray" := ⟨_, ho, rfl⟩
  unfold Builtin.«bytes.__new__»
  refine wpAny_bind (wpAny_of_eq (a := true) rfl ?_)
  refine bm_if_false rfl ?_
  refine wpAny_bind (wpAny_of_eq F.bm_sub ?_)
  refine bm_if_false rfl ?_
  refine wpAny_bind (wpAny_of_eq (F.bm_bind _) ?_)
  refine wpAny_bind (wpAny_of_eq (a := ()) rfl ?_)
  refine wpAny_bind (wpAny_of_eq (a := ()) rfl ?_)
  refine bm_if_false rfl ?_
  refine wpAny_bind (wpAny_specialOf hT BA.look_bytes ?_)
  refine wpAny_bind (wpAny_bind ?_)
  show wpAny _ _ (load a >>= _) _ _ _
  refine wpAny_bind (wpAny_load ho ?_)
  refine wpAny_pure (wpAny_pure ?_)
  refine bm_if_false rfl ?_
  refine wpAny_bind (wpAny_specialOf hT BA.look_index ?_)
  refine bm_if_true rfl ?_
  first
    | show wpAny _ _ (Builtin.Bytes.buffer? "bytes.__new__" (.ref a) true >>= _) _ _ _
    | (refine wpAny_bind ?_; show wpAny _ _ (Builtin.Bytes.buffer? "bytes.__new__" (.ref a) true >>= _) _ _ _)
  refine wpAny_bind (ba_buffer ho ?_)
  dsimp only
  refine wpAny_bind (wpAny_rule ?_)
  refine wpAny_bind (wpAny_mkBytes ?_ (by rw [sizeLine_eq]; omega))
  show wpAny _ _ (if (Value.type "bytes" == Value.type "bytes") = true then _ else _) _ _ _
  refine bm_if_true (by decide) ?_
  first
    | exact wpAny_pure (hQ _ _)
    | exact wpAny_bind (wpAny_pure (wpAny_pure (hQ _ _)))
theorem ba_bytes {a : Addr} {o : Array UInt8} {Q : Value → Shared → Prop} (ho : s.heap.get? a = some (baObj o)) (hz : o.size ≤ 64)
    (hQ : ∀ t k, Q (.bytes o t) { s with toks := k }) : wpAny (model prog w) A (call (.type "bytes") [.ref a]) Q E s := by
  refine callType_codes (Q₁ := fun obj s₁ => s₁.TypeIs obj "bytes" ∧ Q obj s₁) F.bm_called (F.bm_typeCall _) F.entry_object_init
    (ba_bytesNew ho hz fun t k => ⟨PySem.W.typeIs_bytes _ _ _, hQ t k⟩) fun obj s₁ h₁ => ?_
  exact ⟨h₁.1, F.args_object_init_2 obj _, object_init_meets F.bm_called.init.lookup F.bm_called.made (by decide) prog w A.in1 _ s₁ ⟨h₁.1, rfl, h₁.2⟩⟩
theorem by_item {value slice : Expr} {x : Array UInt8} {i : Int} {t ui : Tok} {Q : Value → Shared → Prop} (hz : x.size ≤ 64) (h0 : 0 ≤ i) (h1 : i < (x.size : Int))
    (h : ∀ t' k, Q (.int ((x.getD i.toNat 0).toNat : Int) t') { s with toks := k })
    (hs : subscripted slice false (.bytes x t) (.int i ui) = operate [.bytes x t, .int i ui] (getItem (.bytes x t) (.int i ui)) := by with_unfolding_all rfl)
    (ht : ∀ r, letTemporaryGo value (.bytes x t) r = pure () := by intro _; with_unfolding_all rfl) : wpAny (model prog w) A (subscriptTail value slice (.bytes x t) (.int i ui)) Q E s := by
  have e : x.toList.toArray = x := Array.toArray_toList
  have g : wpAny (model prog w) A (getItem (.bytes x.toList.toArray t) (.int i ui)) Q E s := by
    refine getItem_bytes (l := x.toList) (by simp; omega) h0 (by simpa using h1) ?_
    have e2 : x.toList.getD i.toNat 0 = x.getD i.toNat 0 := by simp [List.getD_eq_getElem?_getD, Array.getD_eq_getD_getElem?]
    rw [e2]
    exact h _ _
  rw [e] at g
  exact tail_of_ItemOn ⟨"bytes", _, FB.slot_bytes_getitem.lookup, typeIs_bytes _ _ _, g⟩ hs ht
/-- one object of the ledger changed, the others stay -/
theorem Fr.put {h₀ h h' : Heap} {L b : Addr} {m : PySem.Str → Option Value} (F : Fr h₀ L h m) (hL : b ≠ L) (h0 : h₀.get? b = none) (k : ∀ c, c ≠ b → h'.get? c = h.get? c) : Fr h₀ L h' m :=
  ⟨F.ns.at' fun o e => (k L (Ne.symm hL)).trans e, fun c o e => (k c (fun q => by rw [q, h0] at e; cases e)).trans (F.keep c o e), F.above⟩
end
end Mine
end
section
open PySem PySem.W PyProof.Rows PySem.Calls PySem.Spec
set_option Elab.async false
set_option maxRecDepth 100000
set_option maxHeartbeats 8000000
set_option linter.unusedVariables false
namespace Mine
theorem fillN_ (w : World) (h : Heap) : (Head.hc.heap_39 w.params).In h → PySem.Challenge.rw_zo0024_01.row.prog = PySem.Challenge.rw_zo0024_01.row.prog := by k_fill; intro _; w_top off; rfl
def Sw (x c : Array UInt8) (k : Nat) : Prop := c.size = 20 ∧ ∀ m, m < 20 → c.getD m 0 = if m / 4 < k / 4 ∨ (m / 4 = k / 4 ∧ 3 - m % 4 < k % 4) then x.getD (4 * (m / 4) + 3 - m % 4) 0 else 0
theorem sw_zero (x : Array UInt8) : Sw x (Array.replicate 20 0) 0 := by
  refine ⟨by simp, fun m hm => ?_⟩
  rw [if_neg (by omega)]
  simp [Array.getD]
theorem sw_step {x c : Array UInt8} {i j : Nat} (h : Sw x c (4 * i + j)) (hi : i < 5) (hj : j < 4) : Sw x (c.setIfInBounds (4 * i + 3 - j) (x.getD (4 * i + j) 0)) (4 * i + (j + 1)) := by
  obtain ⟨h1, h2⟩ := h
  refine ⟨by simpa using h1, fun m hm => ?_⟩
  by_cases e : m = 4 * i + 3 - j
  · subst e
    rw [if_pos (by omega)]
    have e2 : 4 * ((4 * i + 3 - j) / 4) + 3 - (4 * i + 3 - j) % 4 = 4 * i + j := by omega
    rw [e2]
    rw [Array.getD_eq_getD_getElem?, Array.getElem?_setIfInBounds]
    have hb : 4 * i + 3 - j < c.size := by omega
    simp [hb]
  · have h3 := h2 m hm
    rw [Array.getD_eq_getD_getElem?, Array.getElem?_setIfInBounds, if_neg (fun q => e q.symm), ← Array.getD_eq_getD_getElem?, h3]
    by_cases c1 : m / 4 < (4 * i + j) / 4 ∨ (m / 4 = (4 * i + j) / 4 ∧ 3 - m % 4 < (4 * i + j) % 4)
    · rw [if_pos c1, if_pos (by omega)]
    · rw [if_neg c1, if_neg (by omega)]
def swp (x : Array UInt8) : Array UInt8 := Array.ofFn (n := 20) fun m => x.getD (4 * (m.val / 4) + 3 - m.val % 4) 0
theorem sw_end {x c : Array UInt8} (h : Sw x c 20) : c = swp x := by
  obtain ⟨h1, h2⟩ := h
  refine Array.ext (by simp [swp, h1]) fun m m1 m2 => ?_
  have h3 := h2 m (by omega)
  rw [if_pos (by omega)] at h3
  rw [Array.getD_eq_getD_getElem?, Array.getElem?_eq_getElem m1] at h3
  simpa [swp] using h3
abbrev PrgN : Program := PySem.Challenge.rw_zo0024_01.row.prog
local macro_rules | `(tactic| walk_at "subscriptTail") => `(tactic| ((with_reducible show wpAny _ _ (subscriptTail _ _ (Value.bytes _ _) (Value.int _ _)) _ _ _); (refine by_item (by omega) (by omega) (by omega) ?_); intro t9 k9))
theorem byteswap {w : World} {p : Program} {loose : List PySem.Str} {mean : ExcName → Option Value} {mg mb : PySem.Str → Option Value} {dp un : Nat} {base : Heap} {env : Env} {outer : List Env} {s : Shared} {Q E : Value → Shared → Prop}
  {x : Array UInt8} {t u : Tok}
  (W : At p loose mean mg mb (Head.hc.heap_39 w.params) { handled := none, depth := dp, frames := some (env :: outer), guards := some [], units := un } base env outer s.heap)
  (hd1 : dp + 3 < recursionLimit) (hu : un + 24 < cLine) (hx : x.size = 20)
  (hret : ∀ (t : Tok) (h' : Heap) (tk' : Nat), (∀ b o, s.heap.get? b = some o → h'.get? b = some o) → Q (.bytes (swp x) t) { s with heap := h', toks := tk' }) :
  wpC (model PrgN w) { handled := none, depth := dp, frames := some (env :: outer), guards := some [], units := un } (call (.ref 100) [.bytes x t, .int 4 u]) Q E s := by
  k_dflt (refine' Mine.call_C (binds := [(PySem.Str.ofString "data", .bytes x t), (PySem.Str.ofString "width", .int 4 u)]) ?W ?k6 ?k7 ?k8 ?k9 ?kB ?_ ?c2 ?c3 ?c4 ?c5; (case W => assumption); (case k6 => k_is); (case k7 => k_is); (case k8 => ktr_room); (case k9 => exact BindsTo.of_eq rfl); (case c5 => decide); (case kB => exact locs rfl); (case c2 => exact rfl); (case c3 => exact rfl); (case c4 => exact rfl))
  intro L' h' F' B' X' T' hb'
  have N' : News s.heap L' h' [] := News.nil
  (try dsimp only)
  clear W
  refine wpC_execs_cons (wpC_Assign_Name (wpC_Call_Name1 ?_))
  walk1
  refine wpC_callWith_type1 ?_
  k_steps
  rename Fr _ _ _ _ => F9
  refine ba_call (by rw [hx]; rfl) rfl (fun h6 e6 k6 => ?_)
  have N6 := newBa F9 hb' e6
  have F6 := Fr.after F9 k6
  clear F9 N'
  dsimp only at F6 N6 e6 k6 ⊢
  generalize h'.objs.size = b at *
  k_steps
  refine wpC_of_any (wpAny_execs_cons (my_For s.heap rfl rfl ?_))
  k_steps
  rename IsRange _ _ _ _ _ _ _ _ => R9
  rename News _ _ _ _ => N9
  rename Fr _ _ _ _ => F9
  rw [hx] at R9
  refine my_forR (σ := Array UInt8) (n := 5) (fun c => [(b, baObj c)]) (fun _ => []) [PySem.Str.ofString "j"] (fun i c => Sw x c (4 * i)) (Array.replicate 20 0) rfl R9 (by decide) (by decide) F9 N9 (List.forall_mem_nil _) (sw_zero x) ?turn ?done
  case turn =>
    clear R9 F9 N9
    intro c i ti ui hi tki I oI hin hoI hfI hP Fi Ni
    dsimp only [kstB] at Fi Ni ⊢
    replace Fi : Fr s.heap L' hi _ := Fi
    replace Ni : News s.heap L' hi _ := Ni
    refine wpAny_execs_cons (my_For s.heap rfl rfl ?_)
    k_steps
    rename IsRange _ _ _ _ _ _ _ _ => R8
    rename News _ _ _ _ => N8
    rename Fr _ _ _ _ => F8
    refine my_forR (σ := Array UInt8) (n := 4) (fun c => [(I, oI), (b, baObj c)]) (fun _ => []) [] (fun j c => Sw x c (4 * i + j)) c rfl R8 (by decide) (by decide) F8 N8 (List.forall_mem_nil _) hP ?turn2 ?done2
    case turn2 =>
      clear R8 F8 N8
      intro d j tj uj hj tkj I2 oI2 hjn hoJ hfJ hPj Fj Nj
      dsimp only [kstB] at Fj Nj ⊢
      replace Fj : Fr s.heap L' hj _ := Fj
      replace Nj : News s.heap L' hj _ := Nj
      k_steps
      have sz := hPj.1
      have nb := Nj (b, baObj d) (by simp)
      have ix : (0 + (i : Int) * 4 + 4 - 1 - (0 + (j : Int) * 1)).toNat = 4 * i + 3 - j := by omega
      have iy : (0 + (i : Int) * 4 + (0 + (j : Int) * 1)).toNat = 4 * i + j := by omega
      refine ba_setItem nb.1 (by omega) (by omega) (by omega) (by omega) (by have := UInt8.toNat_lt (x.getD (0 + (i : Int) * 4 + (0 + (j : Int) * 1)).toNat 0); omega) (fun h9 e9 k9 => ?_)
      rw [ix, Int.toNat_natCast, iy] at e9
      have e8 : ∀ q : UInt8, q.toNat.toUInt8 = q := fun q => by simp
      rw [e8] at e9
      have F9 := Fr.put Fj nb.2.1 nb.2.2 k9
      have nI := Nj (I, oI) (by simp)
      have nI2 := Nj (I2, oI2) (by simp)
      have d1 : I ≠ b := fun q => hfI (b, baObj c) (.head _) q.symm
      have d2 : I2 ≠ b := fun q => hfJ (b, baObj d) (by simp) q.symm
      have N9 : News s.heap L' h9 [(I2, oI2), (I, oI), (b, baObj (d.setIfInBounds (4 * i + 3 - j) (x.getD (4 * i + j) 0)))] := by
        refine List.forall_mem_cons.mpr ⟨⟨(k9 _ d2).trans nI2.1, nI2.2⟩, List.forall_mem_cons.mpr ⟨⟨(k9 _ d1).trans nI.1, nI.2⟩, List.forall_mem_cons.mpr ⟨⟨e9, nb.2⟩, List.forall_mem_nil _⟩⟩⟩
      clear Fj Nj
      refine wpAny_execs_nil ?_
      show ForTo _ _ _ _ _ _ _ _ _ _ _ _
      refine forTo (d.setIfInBounds (4 * i + 3 - j) (x.getD (4 * i + j) 0)) F9 N9 (by simp) (by simp) ?_ (List.forall_mem_nil _) ?_ (sw_step hPj hin hjn)
      · exact List.forall_mem_cons.mpr ⟨hfJ _ (.head _), List.forall_mem_cons.mpr ⟨Ne.symm d2, List.forall_mem_nil _⟩⟩
      · intro z h1 _ _; simp [h1]
    case done2 =>
      clear R8 F8 N8
      intro d uj hj tkj hPj Fj Nj
      dsimp only [kstB] at Fj Nj ⊢
      replace Fj : Fr s.heap L' hj _ := Fj
      replace Nj : News s.heap L' hj _ := Nj
      k_steps
      show ForTo _ _ _ _ _ _ _ _ _ _ _ _
      refine forTo d Fj Nj (by simp) (by simp) ?_ (List.forall_mem_nil _) ?_ hPj
      · exact List.forall_mem_cons.mpr ⟨hfI (b, baObj c) (.head _), List.forall_mem_nil _⟩
      · intro z h1 _ h3
        have h4 : z ≠ PySem.Str.ofString "j" := by simpa using h3
        simp [h1, h4]
  case done =>
    clear R9 F9 N9
    intro d uj hj tkj hPj Fj Nj
    dsimp only [kstB] at Fj Nj ⊢
    replace Fj : Fr s.heap L' hj _ := Fj
    replace Nj : News s.heap L' hj _ := Nj
    k_steps
    refine ba_bytes (Nj (b, baObj d) (by simp)).1 (by have := hPj.1; omega) (fun t9 k9 => ?_)
    rw [sw_end hPj]
    exact hret _ _ _ (Fr.keep Fj)
end Mine
end
section
open PySem PySem.W PyProof.Rows PySem.Calls PySem.Spec
set_option Elab.async false
set_option maxRecDepth 100000
set_option maxHeartbeats 8000000
set_option linter.unusedVariables false
namespace Mine
theorem fillW_ (w : World) (h : Heap) : (Head.hc.heap_39 w.params).In h → PySem.Challenge.rw_zo0024_01.row.prog = PySem.Challenge.rw_zo0024_01.row.prog := by k_fill; intro _; w_top off; rfl
abbrev PrgW : Program := PySem.Challenge.rw_zo0024_01.row.prog
def lawDefOf : Stmt → List Stmt × Scope
  | .FunctionDef _ _ b _ _ _ sc _ _ _ => (b, sc)
  | _ => ([], default)
def lastOf : List Stmt → List Stmt × Scope
  | [] => ([], default)
  | [s] => lawDefOf s
  | _ :: s :: r => lastOf (s :: r)
def lawDef : List Stmt × Scope := lastOf PySem.Challenge.pw_zo0024_01.main.body
abbrev lawEnv (L : Addr) : Env := envOfC (PySem.Str.ofString "law") lawDef.2 L 124 (.ref 123)

theorem pick5 {t1 t2 t3 t4 t5 : Tok} (k : Nat) (hk : k ≤ 5) : IntsAre (slicePick [.int 86 t1, .int 122 t2, .int 83 t3, .int 9 t4, .int 95 t5].toArray (some (k : Int)) none none).toList ([86, 122, 83, 9, 95].drop ((k : Int)).toNat) := by
  have : k = 0 ∨ k = 1 ∨ k = 2 ∨ k = 3 ∨ k = 4 ∨ k = 5 := by omega
  rcases this with rfl | rfl | rfl | rfl | rfl | rfl
  · rw [kmk_pick_nat (lo := some ((0 : Nat) : Int)) (hi := none) _ (a := 0) (b := 5) (by show sliceBounds _ none none 5 = _; decide)]
    exact (show IntsAre [.int 86 t1, .int 122 t2, .int 83 t3, .int 9 t4, .int 95 t5] [86, 122, 83, 9, 95] from (.cons 86 t1 (.cons 122 t2 (.cons 83 t3 (.cons 9 t4 (.cons 95 t5 .nil))))))
  · rw [kmk_pick_nat (lo := some ((1 : Nat) : Int)) (hi := none) _ (a := 1) (b := 5) (by show sliceBounds _ none none 5 = _; decide)]
    exact (show IntsAre [.int 122 t2, .int 83 t3, .int 9 t4, .int 95 t5] [122, 83, 9, 95] from (.cons 122 t2 (.cons 83 t3 (.cons 9 t4 (.cons 95 t5 .nil)))))
  · rw [kmk_pick_nat (lo := some ((2 : Nat) : Int)) (hi := none) _ (a := 2) (b := 5) (by show sliceBounds _ none none 5 = _; decide)]
    exact (show IntsAre [.int 83 t3, .int 9 t4, .int 95 t5] [83, 9, 95] from (.cons 83 t3 (.cons 9 t4 (.cons 95 t5 .nil))))
  · rw [kmk_pick_nat (lo := some ((3 : Nat) : Int)) (hi := none) _ (a := 3) (b := 5) (by show sliceBounds _ none none 5 = _; decide)]
    exact (show IntsAre [.int 9 t4, .int 95 t5] [9, 95] from (.cons 9 t4 (.cons 95 t5 .nil)))
  · rw [kmk_pick_nat (lo := some ((4 : Nat) : Int)) (hi := none) _ (a := 4) (b := 5) (by show sliceBounds _ none none 5 = _; decide)]
    exact (show IntsAre [.int 95 t5] [95] from (.cons 95 t5 .nil))
  · rw [kmk_pick_nat (lo := some ((5 : Nat) : Int)) (hi := none) _ (a := 5) (b := 5) (by show sliceBounds _ none none 5 = _; decide)]
    exact (show IntsAre [] [] from .nil)
local macro_rules | `(tactic| walk_at "subscriptTail Name Slice ref ref") => `(tactic| (k_here; k_dflt (refine' kmk_slice_ints ?F ?N ?l ?p ?q ?i ?m ?c ?_ ?s ?t ?z; (case F => k_asm); (case N => k_asm); (case l => kmk_list); (case p => kmk_part); (case q => kmk_part); (case i => l_ints); (case m => first | exact pick5 _ (by rw [List.length_take]; omega) | kmk_nums); (case c => first | exact List.length_take .. | exact List.length_drop ..); (case s => with_unfolding_all rfl); (case t => kmk_pure); (case z => kmk_size)); intro D9 ws9 h9 F9 N9 l9 hI9 hC9 hL9; (try k_lt l9); (try k_sweep)))
theorem kstB_same {m : PySem.Str → Option Value} {ps : List (PySem.Str × Value)} (h : ∀ p ∈ ps, m p.1 = some p.2) : kstB m ps = m := by
  funext z
  exact kstB_eq h fun _ => rfl
theorem Fr.named {h₀ h : Heap} {L : Addr} {m : PySem.Str → Option Value} (F : Fr h₀ L h m) (ps : List (PySem.Str × Value)) (hp : ∀ p ∈ ps, m p.1 = some p.2) : Fr h₀ L h (kstB m ps) := by
  rw [kstB_same hp]; exact F
def numbersOf (ns : List Int) : List Int := ns.take 5 ++ [86, 122, 83, 9, 95].drop (ns.take 5).length
theorem numbers_length (ns : List Int) : (numbersOf ns).length = 5 := by
  simp [numbersOf]; omega
theorem segA {w : World} {p : Program} {loose : List PySem.Str} {mean : ExcName → Option Value} {mg mb : PySem.Str → Option Value} {s : Shared} {Q : Flow → Shared → Prop} {E : Value → Shared → Prop} {h₀ : Heap} {L : Addr} {m : PySem.Str → Option Value}
  {a : Addr} {vs : List Value} {ns : List Int} {o1 o2 : Obj} (B : Below callerA h₀ [] h₀) (X : (Head.hc.heap_39 w.params).In h₀) (T : Top p loose mean mg mb h₀)
  (hl : h₀.IsList a vs.toArray) (hi : IntsAre vs ns) (hz : ns.length ≤ 63) (F : Fr h₀ L s.heap (kstB m [(PySem.Str.ofString "script", .ref a)])) (N : News h₀ L s.heap [(L + 1 + 1, o1), (L + 1, o2)])
  (hcont : ∀ h' tk' m' aT aW vT vW, Fr h₀ L h' (kstB m' [(PySem.Str.ofString "tails", .ref aT), (PySem.Str.ofString "worth", .ref aW)]) → News h₀ L h' [(aT, W.listOf vT.toArray vT.length), (aW, W.listOf vW.toArray vW.length), (L + 1 + 1, o1), (L + 1, o2)] →
    IntsAre vT ((numbersOf ns).map fun n => n.fmod 27) → IntsAre vW ((numbersOf ns).map fun n => (n.fdiv 27).fmod 7) → Q .next { s with heap := h', toks := tk' }) :
  wpAny (model PrgW w) (callerA.deeper (lawEnv L)) (execs (lawDef.1.take 3) (lawEnv L)) Q E s := by
  dsimp only [lawEnv, lawDef, lastOf, lawDefOf, PySem.Challenge.pw_zo0024_01]
  simp only [List.take_succ_cons, List.take_zero]
  k_steps
  rename Fr _ _ _ _ => F9
  rename News _ _ _ _ => N9
  rename IntsAre _ _ => I9
  revert I9
  rename IntsAre _ _ => I8
  intro I9
  refine' hcont _ _ _ ?aT ?aW _ _ (Fr.named F9 [(PySem.Str.ofString "tails", .ref ?aT), (PySem.Str.ofString "worth", .ref ?aW)] ?h1) ?h2 I8 I9
  case h1 => exact List.forall_mem_cons.mpr ⟨by rfl, List.forall_mem_cons.mpr ⟨by rfl, List.forall_mem_nil _⟩⟩
  case h2 =>
    intro p hp
    refine N9 p ?_
    rcases List.mem_cons.mp hp with rfl | hp
    · exact .tail _ (.head _)
    rcases List.mem_cons.mp hp with rfl | hp
    · exact .head _
    exact .tail _ (.tail _ (.tail _ (.tail _ (.tail _ (.tail _ (.tail _ hp))))))
end Mine
end
section
open PySem PySem.W PyProof.Rows PySem.Calls PySem.Spec
set_option Elab.async false
set_option maxRecDepth 100000
set_option maxHeartbeats 8000000
set_option linter.unusedVariables false
namespace Mine
theorem fillX_ (w : World) (h : Heap) : (Head.hc.heap_39 w.params).In h → PySem.Challenge.rw_zo0024_01.row.prog = PySem.Challenge.rw_zo0024_01.row.prog := by k_fill; intro _; w_top off; rfl
inductive BysAre : List Value → List (Array UInt8) → Prop
  | nil : BysAre [] []
  | cons (n : Array UInt8) (t : Tok) {vs ns} : BysAre vs ns → BysAre (.bytes n t :: vs) (n :: ns)
theorem BysAre.snoc {vs : List Value} {ns : List (Array UInt8)} (h : BysAre vs ns) (n : Array UInt8) (t : Tok) : BysAre (vs ++ [.bytes n t]) (ns ++ [n]) := by
  induction h with
  | nil => exact .cons n t .nil
  | cons a b _ ih => exact .cons a b ih
def apArg (x : Int) : Int := -4096 - 7 * (x.fmod 3 + 16 * (x.fdiv 3).fmod 3 + 256 * x.fdiv 9)
def wordOf (x : Int) : Array UInt8 := (goAP (apArg x).natAbs []).toArray
theorem ap_bound {x : Int} (h0 : 0 ≤ x) (h1 : x < 27) : (apArg x).natAbs ≤ 65535 := by
  have : x.toNat < 27 := by omega
  obtain ⟨n, rfl⟩ : ∃ n : Nat, x = n := ⟨x.toNat, by omega⟩
  have hn : n < 27 := by omega
  have key : ∀ k : Fin 27, (apArg (k.val : Int)).natAbs ≤ 65535 := by decide +kernel
  exact key ⟨n, hn⟩
local macro_rules | `(tactic| walk_at "call ref") => `(tactic| ((with_reducible show wpAny _ _ (call (Value.ref 93) [_]) _ _ _); k_dflt (refine' Mine.int2ap ?W ?d ?u ?z ?_; (case W => exact At.of (by assumption) (by assumption) (by assumption) (by assumption) rfl rfl rfl); (case d => ktr_room); (case u => ktr_units); (case z => exact ap_bound (by assumption) (by assumption))); intro t9 h9 tk9 k9; (rename Fr _ _ _ _ => F9); (rename News _ _ _ _ => N9); (replace F9 := Fr.after F9 k9); (replace N9 := newsAfter N9 k9); clear k9))
set_option pp.deepTerms.threshold 8
theorem segB {w : World} {p : Program} {loose : List PySem.Str} {mean : ExcName → Option Value} {mg mb : PySem.Str → Option Value} {s : Shared} {Q : Flow → Shared → Prop} {E : Value → Shared → Prop} {h₀ : Heap} {L : Addr} {m : PySem.Str → Option Value}
  {aT aW : Addr} {vT vW : List Value} {ts : List Int} {o1 o2 : Obj} (B : Below callerA h₀ [] h₀) (X : (Head.hc.heap_39 w.params).In h₀) (T : Top p loose mean mg mb h₀)
  (hT : IntsAre vT ts) (hts : ∀ x ∈ ts, 0 ≤ x ∧ x < 27) (h5 : ts.length = 5) (F : Fr h₀ L s.heap (kstB m [(PySem.Str.ofString "tails", .ref aT), (PySem.Str.ofString "worth", .ref aW)]))
  (N : News h₀ L s.heap [(aT, W.listOf vT.toArray vT.length), (aW, W.listOf vW.toArray vW.length), (L + 1 + 1, o1), (L + 1, o2)])
  (hcont : ∀ h' tk' m' aP vP, Fr h₀ L h' (kstB m' [(PySem.Str.ofString "tails", .ref aT), (PySem.Str.ofString "worth", .ref aW), (PySem.Str.ofString "words", .ref aP)]) →
    News h₀ L h' [(aP, W.listOf vP.toArray vP.length), (aT, W.listOf vT.toArray vT.length), (aW, W.listOf vW.toArray vW.length), (L + 1 + 1, o1), (L + 1, o2)] →
    BysAre vP (ts.map wordOf) → Q .next { s with heap := h', toks := tk' }) :
  wpAny (model PrgW w) (callerA.deeper (lawEnv L)) (execs ((lawDef.1.drop 3).take 1) (lawEnv L)) Q E s := by
  dsimp only [lawEnv, lawDef, lastOf, lawDefOf, PySem.Challenge.pw_zo0024_01]
  simp only [List.take_succ_cons, List.take_zero, List.drop_succ_cons, List.drop_zero]
  have hTl := hT.length
  refine wpAny_execs_cons ?_
  refine my_AssignComp F rfl (by rfl) (by rfl) (by decide) rfl (by decide) rfl rfl rfl ?_
  k_steps
  refine LCg.CompSrc.ledger (its := vT.toArray) rfl F N (.head _) (by rw [sizeLine_eq, List.size_toArray]; omega) (fun g => ?_)
  refine compBy (n := vT.toArray.size) (fun i ys => BysAre ys ((ts.take i).map wordOf)) (.inr ⟨_, .head _, rfl, _, rfl⟩) ?turn ?done vT.toArray.size 0 [] (Nat.zero_add _) .nil
  case turn =>
    intro i ys v I oI C oC D m₂ h tk E' hi hv hy hC hx F1 N1 off ne
    have hi' : i < ts.length := by rw [← hTl]; simpa using hi
    obtain ⟨t, e⟩ := hT.get i (ts[i]) (by simp)
    have e2 : v = .int (ts[i]) t := by
      have : vT[i]? = some v := by simpa using hv
      rw [e] at this; exact (Option.some.inj this).symm
    have b := hts _ (List.getElem_mem hi')
    have hs : (ts.take (i + 1)).map wordOf = (ts.take i).map wordOf ++ [wordOf ts[i]] := by
      rw [List.take_succ_eq_append_getElem hi', List.map_append]; rfl
    rw [hs]
    generalize ts[i] = x at *
    subst e2
    obtain ⟨b0, b1⟩ := b
    clear F N hv e
    k_steps
    rename Fr _ _ _ _ => F9
    rename News _ _ _ _ => N9
    exact compTo F9 N9 (fun p hp => hp) (hy.snoc _ _)
  case done =>
    intro ys hy D h' tk' F9 N9 _
    have hs : ts.take vT.toArray.size = ts := by rw [List.size_toArray, hTl, List.take_length]
    rw [hs] at hy
    show wpAny _ _ (execs [] _) _ _ _
    refine wpAny_execs_nil ?_
    refine hcont _ _ _ D ys (Fr.named F9 [(PySem.Str.ofString "tails", .ref aT), (PySem.Str.ofString "worth", .ref aW), (PySem.Str.ofString "words", .ref D)] ?_) N9 hy
    exact List.forall_mem_cons.mpr ⟨by rfl, List.forall_mem_cons.mpr ⟨by rfl, List.forall_mem_cons.mpr ⟨by rfl, List.forall_mem_nil _⟩⟩⟩
end Mine
end
section
open PySem PySem.W PyProof.Rows PySem.Calls PySem.Spec
set_option Elab.async false
set_option maxRecDepth 100000
set_option maxHeartbeats 8000000
namespace Mine
theorem slot_re_search : Slot "re.Pattern" "search" "re.Pattern.search" :=
  .of (owner := "re.Pattern") (n := "search") (by rw [typeLookup_type, builtinLookup_eq_fast]; kernel_rfl) (by decide +kernel) (by decide +kernel) (by decide +kernel)
    (by first | exact .inl (by decide +kernel) | exact .inr (by decide +kernel)) (by rw [isSubtype_type]; kernel_rfl)
theorem type_re_search : typeOf (.builtin "re.Pattern.search") = pure (.type "method_descriptor") := by show builtinType _ = _; rw [builtinType_eq_fast]; kernel_rfl
theorem entry_re_search : entryFor table "re.Pattern.search" = some Builtin.«re.Pattern.search» := entryFor_of_tree (by kernel_rfl)
theorem plainAttrs_re : PlainAttrs "re.Pattern" :=
  ⟨⟨"object.__getattribute__", by rw [typeLookup_type, builtinLookup_eq_fast]; kernel_rfl, by decide +kernel⟩, by rw [typeLookup_type, builtinLookup_eq_fast]; kernel_rfl⟩
theorem owner_re : Manifest.owners.lookup (String.ofList ['n', 'r', 'e', 't', 't', 'a', 'P', '.', 'e', 'r'].reverse) = some Manifest.sig_re_Pattern := by kernel_rfl
theorem args_re_search (a b : Value) : argsOk "re.Pattern.search" ⟨[a, b], []⟩ := by
  unfold argsOk; rw [signature?_of (id := "re.Pattern.search") (n := ['h', 'c', 'r', 'a', 'e', 's']) (o := ['n', 'r', 'e', 't', 't', 'a', 'P', '.', 'e', 'r']) (by kernel_rfl) owner_re]; kernel_rfl
def rePat : Obj := { cls := .type "re.Pattern", data := .fields #[.str (Str.ofString "\\.\\d+$") 285, .int 256 312, .int 0 0, .none, .none, .ref 35, .int 0 0] }
def reCode : Obj := { cls := .type "tuple", data := .seq #[.int 14 0, .int 8 0, .int 1 0, .int 2 0, .int 4294967295 0, .int 1 0, .int 1 0, .int 46 0, .int 0 0, .int 16 0, .int 46 0, .int 24 0, .int 9 0, .int 1 0, .int 4294967295 0, .int 13 0, .int 4 0, .int 8 0, .int 0 0, .int 0 0, .int 1 0, .int 6 0, .int 5 0, .int 1 0] }
abbrev reK : Frag := [(36, rePat), (35, reCode)]
def finIs : Fin → Bool
  | .done (.ret .none) => true
  | _ => false

def SearchNone (x : PySem.Str) : Prop := ∀ (S : Setting) (t : Tok), peek reK S (Builtin.«re.Pattern.search» ⟨[.ref 36, .str x t], []⟩) = some (.done (.ret .none))
theorem meets_re {x : PySem.Str} {t : Tok} (hs : SearchNone x) : Meets (Builtin.«re.Pattern.search» ⟨[.ref 36, .str x t], []⟩) (fun _ R s => reK.In s.heap ∧ R (.ok (.ret .none)) s) :=
  .of_wp fun prog w A R s h => (Looks.of_peek (M := model prog w) h.1 (hs _ t)).here ⟨_, rfl, h.2⟩
theorem reK_in {K : Frag} {h : Heap} (X : K.In h) (h1 : K.lookup 36 = some rePat) (h2 : K.lookup 35 = some reCode) : reK.In h := by
  intro a o e
  simp only [reK, List.lookup] at e
  split at e
  · rename_i q
    cases e
    have : a = 36 := by simpa using q
    subst this
    exact X _ _ h1
  · split at e
    · rename_i q
      cases e
      have : a = 35 := by simpa using q
      subst this
      exact X _ _ h2
    · cases e
section
variable {prog : Program} {w : World} {A : Around} {E : Value → Shared → Prop} {s : Shared} {x y : PySem.Str} {t u : Tok}
theorem call_re {Q : Value → Shared → Prop} (hin : reK.In s.heap) (hs : SearchNone x) (h : Q .none s) : wpAny (model prog w) A (call (.builtin "re.Pattern.search") [.ref 36, .str x t]) Q E s :=
  call_meets slot_re_search ⟨rePat, hin 36 rePat rfl, rfl⟩ entry_re_search (args_re_search _ _) (meets_re hs) ⟨hin, h⟩
theorem meth_re {pl : Sem Bool} {Q : Value × List Value → Shared → Prop} (hin : reK.In s.heap) (h : Q (.builtin "re.Pattern.search", [.ref 36]) s) : wpAny (model prog w) A (getMethod (.ref 36) "search" pl) Q E s :=
  getMethod_builtin ⟨rePat, hin 36 rePat rfl, rfl⟩ plainAttrs_re slot_re_search type_re_search (fun a e => by cases e; exact ⟨rePat, hin 36 rePat rfl, rfl⟩) h
theorem eq_no {Q : Value → Shared → Prop} (e : (x == y) = false) (h : Q (.bool false) s) : wpAny (model prog w) A (compareOp .Eq (.str x t) (.str y u)) Q E s := PyProof.Rows.eq_str (by rw [e]; exact h)
theorem eq_yes {Q : Value → Shared → Prop} (e : (x == y) = true) (h : Q (.bool true) s) : wpAny (model prog w) A (compareOp .Eq (.str x t) (.str y u)) Q E s := PyProof.Rows.eq_str (by rw [e]; exact h)
end
structure HDN (x : PySem.Str) : Prop where
  none : SearchNone x
  pos : 1 ≤ x.length
  len : x.length ≤ 64
  ne : (x == PySem.Str.ofString "") = false
  first : (Txt.item x 0 == PySem.Str.ofString ".") = false
  last : (Txt.item x (-1) == PySem.Str.ofString ".") = false
section
variable {prog : Program} {w : World} {A : Around} {E : Value → Shared → Prop} {s : Shared} {a b : Int} {t u : Tok}
theorem ge_yes {Q : Value → Shared → Prop} (e : b ≤ a) (h : Q (.bool true) s) : wpAny (model prog w) A (compareOp .GtE (.int a t) (.int b u)) Q E s :=
  PyProof.Rows.ge_int (by rw [decide_eq_true e]; exact h)
theorem ge_no {Q : Value → Shared → Prop} (e : ¬ b ≤ a) (h : Q (.bool false) s) : wpAny (model prog w) A (compareOp .GtE (.int a t) (.int b u)) Q E s :=
  PyProof.Rows.ge_int (by rw [decide_eq_false e]; exact h)
end
structure Up (x b : PySem.Str) : Prop where
  hdn : HDN x
  dot : 0 ≤ Txt.find x (PySem.Str.ofString ".")
  cut : Txt.slice x (some (Txt.find x (PySem.Str.ofString ".") + 1)) none = b
  len : b.length ≤ 64
  go : 0 ≤ Txt.find b (PySem.Str.ofString ".") ∨ (¬ 0 ≤ Txt.find b (PySem.Str.ofString ".") ∧ (b == PySem.Str.ofString "local") = true)
  ne : ((PySem.Str.ofString "." ++ b) != x) = true
  back : Txt.slice (PySem.Str.ofString "." ++ b) (some 1) none = b
inductive Ladder : PySem.Str → List PySem.Str → Prop
  | top {x : PySem.Str} : x.length ≤ 64 → ¬ 0 ≤ Txt.find x (PySem.Str.ofString ".") → Ladder x []
  | up {x b : PySem.Str} {bs : List PySem.Str} : Up x b → Ladder b bs → Ladder x (b :: bs)
theorem Ladder.len {x : PySem.Str} {bs : List PySem.Str} (h : Ladder x bs) : x.length ≤ 64 := by
  cases h with
  | top h _ => exact h
  | up h _ => exact h.hdn.len
def nxt (x : PySem.Str) : List PySem.Str → PySem.Str
  | [] => x
  | b :: _ => PySem.Str.ofString "." ++ b
def dots (bs : List PySem.Str) : List PySem.Str := bs.map (PySem.Str.ofString "." ++ ·)
def LadInv (target : List PySem.Str) (x r : PySem.Str) (got : List PySem.Str) : Prop := ∃ bs, Ladder x bs ∧ r = nxt x bs ∧ got ++ dots bs = target ∧ target.length ≤ 4
theorem lad_start {x : PySem.Str} {bs : List PySem.Str} (h : Ladder x bs) (hl : bs.length ≤ 4) : LadInv (dots bs) x (nxt x bs) [] := ⟨bs, h, rfl, rfl, by simpa [dots] using hl⟩
theorem lad_step {target : List PySem.Str} {x r : PySem.Str} {got : List PySem.Str} (h : LadInv target x r got) (hne : (r != x) = true) :
    r.length ≤ 65 ∧ ∃ bs, Ladder (Txt.slice r (some 1) none) bs ∧ LadInv target (Txt.slice r (some 1) none) (nxt (Txt.slice r (some 1) none) bs) (got ++ [r]) := by
  obtain ⟨bs, hL, rfl, e, hl⟩ := h
  cases hL with
  | top _ _ => simp [nxt] at hne
  | up hU hL' =>
    rename_i b bs
    have hb : nxt x (b :: bs) = PySem.Str.ofString "." ++ b := rfl
    rw [hb, hU.back]
    refine ⟨?_, bs, hL', bs, hL', rfl, ?_, hl⟩
    · have h1 := hU.len
      rw [Str.length_append]
      have h2 : (PySem.Str.ofString ".").length = 1 := by decide
      omega
    · rw [← e]; simp [dots]
theorem lad_rlen {target : List PySem.Str} {x r : PySem.Str} {got : List PySem.Str} (h : LadInv target x r got) : r.length ≤ 65 := by
  obtain ⟨bs, hL, rfl, e, hl⟩ := h
  cases hL with
  | top h _ => exact Nat.le_succ_of_le h
  | up hU hL' =>
    rename_i b bs
    have hb : nxt x (b :: bs) = PySem.Str.ofString "." ++ b := rfl
    rw [hb, Str.length_append]
    have h1 := hU.len
    have h2 : (PySem.Str.ofString ".").length = 1 := by decide
    omega
theorem lad_few {target : List PySem.Str} {x r : PySem.Str} {got : List PySem.Str} (h : LadInv target x r got) : got.length ≤ 4 := by
  obtain ⟨bs, _, _, e, hl⟩ := h
  have : (got ++ dots bs).length ≤ 4 := by rw [e]; exact hl
  rw [List.length_append] at this
  omega
theorem lad_end {target : List PySem.Str} {x r : PySem.Str} {got : List PySem.Str} (h : LadInv target x r got) (hn : ¬ (r != x) = true) : got = target := by
  obtain ⟨bs, hL, rfl, e, hl⟩ := h
  cases hL with
  | top _ _ => rw [← e]; simp [dots]
  | up hU hL' => exact absurd hU.ne hn
end Mine
end
section
open PySem PySem.W PyProof.Rows PySem.Calls PySem.Spec
set_option Elab.async false
set_option maxRecDepth 100000
set_option maxHeartbeats 8000000
set_option linter.unusedVariables false
namespace Mine
theorem fillF_ (w : World) (h : Heap) : (Head.hc.heap_39 w.params).In h → PySem.Challenge.rw_zo0024_01.row.prog = PySem.Challenge.rw_zo0024_01.row.prog := by k_fill; intro _; w_top off; rfl
abbrev PrgF : Program := PySem.Challenge.rw_zo0024_01.row.prog

local macro_rules | `(tactic| walk_at "getMethod ref") => `(tactic| ((with_reducible show wpAny _ _ (getMethod (Value.ref 36) _ _) _ _ _); (rename Fr _ _ _ _ => F9); (rename Frag.In _ _ => X9); (refine meth_re (reK_in (Frag.In.keeps X9 (Fr.keep F9)) (by k_is) (by k_is)) ?_)))
local macro_rules | `(tactic| walk_at "call builtin:re.Pattern.search") => `(tactic| ((rename Fr _ _ _ _ => F9); (rename Frag.In _ _ => X9); (refine call_re (reK_in (Frag.In.keeps X9 (Fr.keep F9)) (by k_is) (by k_is)) (by assumption) ?_)))
local macro_rules | `(tactic| walk_at "compareOp Eq str str") => `(tactic| (first | refine eq_no (by assumption) ?_ | refine eq_yes (by assumption) ?_))
local macro_rules | `(tactic| walk_at "subscriptTail") => `(tactic| ((with_reducible show wpAny _ _ (subscriptTail _ _ (Value.str _ _) (Value.int _ _)) _ _ _); (refine item_str (by decide) (by omega) (by omega) ?_); intro _))
theorem isHdn {w : World} {p : Program} {loose : List PySem.Str} {mean : ExcName → Option Value} {mg mb : PySem.Str → Option Value} {dp un : Nat} {gd : Option (List Code)} {base : Heap} {env : Env} {outer : List Env} {s : Shared} {Q E : Value → Shared → Prop}
  {x : PySem.Str} {t : Tok}
  (W : At p loose mean mg mb (Head.hc.heap_39 w.params) { handled := none, depth := dp, frames := some (env :: outer), guards := gd, units := un } base env outer s.heap)
  (hd1 : dp + 3 < recursionLimit) (hu : un + 24 < cLine) (H : HDN x)
  (hret : ∀ (h' : Heap) (tk' : Nat), (∀ b o, s.heap.get? b = some o → h'.get? b = some o) → Q (.bool true) { s with heap := h', toks := tk' }) :
  wpAny (model PrgF w) { handled := none, depth := dp, frames := some (env :: outer), guards := gd, units := un } (call (.ref 43) [.str x t]) Q E s := by
  k_dflt (refine' Mine.call_S ?W ?k6 ?k7 ?k8 ?k9 ?kB ?_ ?c2 ?c3 ?c4 ?c5; (case W => assumption); (case k6 => k_is); (case k7 => k_is); (case k8 => ktr_room); (case k9 => exact BindsTo.of_eq rfl); (case c5 => decide); (case kB => exact locs rfl); (case c2 => exact rfl); (case c3 => exact rfl); (case c4 => exact rfl))
  intro L' h' F' B' X' T' hb'
  have N' : News s.heap L' h' [] := News.nil
  (try dsimp only)
  clear W
  obtain ⟨hn1, hn2, hn3, hn4, hn5, hn6⟩ := H
  k_steps
  show Q (.bool true) _
  exact hret _ _ (Fr.keep (by assumption))
local macro_rules | `(tactic| walk_at "compareOp GtE int int") => `(tactic| (first | refine ge_yes (by assumption) ?_ | refine ge_no (by assumption) ?_))
local macro_rules | `(tactic| walk_at "call ref") => `(tactic| ((with_reducible show wpAny _ _ (call (Value.ref 43) [_]) _ _ _); k_dflt (refine' Mine.isHdn ?W ?d ?u ?H ?_; (case W => exact At.of (by assumption) (by assumption) (by assumption) (by assumption) rfl rfl rfl); (case d => ktr_room); (case u => ktr_units); (case H => assumption)); intro h9 tk9 k9; (rename Fr _ _ _ _ => F9); (rename News _ _ _ _ => N9); (replace F9 := Fr.after F9 k9); (replace N9 := newsAfter N9 k9); clear k9))
theorem reachUp {w : World} {p : Program} {loose : List PySem.Str} {mean : ExcName → Option Value} {mg mb : PySem.Str → Option Value} {dp un : Nat} {gd : Option (List Code)} {base : Heap} {env : Env} {outer : List Env} {s : Shared} {Q E : Value → Shared → Prop}
  {x b : PySem.Str} {t : Tok}
  (W : At p loose mean mg mb (Head.hc.heap_39 w.params) { handled := none, depth := dp, frames := some (env :: outer), guards := gd, units := un } base env outer s.heap)
  (hd1 : dp + 6 < recursionLimit) (hu : un + 48 < cLine) (H : Up x b)
  (hret : ∀ (t : Tok) (h' : Heap) (tk' : Nat), (∀ b o, s.heap.get? b = some o → h'.get? b = some o) → Q (.str (PySem.Str.ofString "." ++ b) t) { s with heap := h', toks := tk' }) :
  wpAny (model PrgF w) { handled := none, depth := dp, frames := some (env :: outer), guards := gd, units := un } (call (.ref 50) [.str x t]) Q E s := by
  k_dflt (refine' Mine.call_S ?W ?k6 ?k7 ?k8 ?k9 ?kB ?_ ?c2 ?c3 ?c4 ?c5; (case W => assumption); (case k6 => k_is); (case k7 => k_is); (case k8 => ktr_room); (case k9 => exact BindsTo.of_eq rfl); (case c5 => decide); (case kB => exact locs rfl); (case c2 => exact rfl); (case c3 => exact rfl); (case c4 => exact rfl))
  intro L' h' F' B' X' T' hb'
  have N' : News s.heap L' h' [] := News.nil
  (try dsimp only)
  clear W
  obtain ⟨hH, hdot, hcut, hlen, hgo, _, _⟩ := H
  subst hcut
  have hxl := hH.len
  rcases hgo with hgo | ⟨hgo, hloc⟩
  · k_steps
    show Q (.str _ _) _
    exact hret _ _ _ (Fr.keep (by assumption))
  · k_steps
    show Q (.str _ _) _
    exact hret _ _ _ (Fr.keep (by assumption))
theorem reachTop {w : World} {p : Program} {loose : List PySem.Str} {mean : ExcName → Option Value} {mg mb : PySem.Str → Option Value} {dp un : Nat} {gd : Option (List Code)} {base : Heap} {env : Env} {outer : List Env} {s : Shared} {Q E : Value → Shared → Prop}
  {x : PySem.Str} {t : Tok}
  (W : At p loose mean mg mb (Head.hc.heap_39 w.params) { handled := none, depth := dp, frames := some (env :: outer), guards := gd, units := un } base env outer s.heap)
  (hd1 : dp + 6 < recursionLimit) (hu : un + 48 < cLine) (hxl : x.length ≤ 64) (H : ¬ 0 ≤ Txt.find x (PySem.Str.ofString "."))
  (hret : ∀ (t : Tok) (h' : Heap) (tk' : Nat), (∀ b o, s.heap.get? b = some o → h'.get? b = some o) → Q (.str x t) { s with heap := h', toks := tk' }) :
  wpAny (model PrgF w) { handled := none, depth := dp, frames := some (env :: outer), guards := gd, units := un } (call (.ref 50) [.str x t]) Q E s := by
  k_dflt (refine' Mine.call_S ?W ?k6 ?k7 ?k8 ?k9 ?kB ?_ ?c2 ?c3 ?c4 ?c5; (case W => assumption); (case k6 => k_is); (case k7 => k_is); (case k8 => ktr_room); (case k9 => exact BindsTo.of_eq rfl); (case c5 => decide); (case kB => exact locs rfl); (case c2 => exact rfl); (case c3 => exact rfl); (case c4 => exact rfl))
  intro L' h' F' B' X' T' hb'
  have N' : News s.heap L' h' [] := News.nil
  (try dsimp only)
  clear W
  k_steps
  show Q (.str _ _) _
  exact hret _ _ _ (Fr.keep (by assumption))
theorem reachL {w : World} {p : Program} {loose : List PySem.Str} {mean : ExcName → Option Value} {mg mb : PySem.Str → Option Value} {dp un : Nat} {gd : Option (List Code)} {base : Heap} {env : Env} {outer : List Env} {s : Shared} {Q E : Value → Shared → Prop}
  {x : PySem.Str} {t : Tok}
  (W : At p loose mean mg mb (Head.hc.heap_39 w.params) { handled := none, depth := dp, frames := some (env :: outer), guards := gd, units := un } base env outer s.heap)
  (hd1 : dp + 6 < recursionLimit) (hu : un + 48 < cLine) {bs : List PySem.Str} (H : Ladder x bs)
  (hret : ∀ (t : Tok) (h' : Heap) (tk' : Nat), (∀ b o, s.heap.get? b = some o → h'.get? b = some o) → Q (.str (nxt x bs) t) { s with heap := h', toks := tk' }) :
  wpAny (model PrgF w) { handled := none, depth := dp, frames := some (env :: outer), guards := gd, units := un } (call (.ref 50) [.str x t]) Q E s := by
  cases H with
  | top h1 h2 => exact reachTop W hd1 hu h1 h2 hret
  | up h1 h2 => exact reachUp W hd1 hu h1 hret
end Mine
end
section
open PySem PySem.W PyProof.Rows PySem.Calls PySem.Spec
set_option Elab.async false
set_option maxRecDepth 100000
set_option maxHeartbeats 8000000
set_option linter.unusedVariables false
namespace Mine
theorem fillG_ (w : World) (h : Heap) : (Head.hc.heap_39 w.params).In h → PySem.Challenge.rw_zo0024_01.row.prog = PySem.Challenge.rw_zo0024_01.row.prog := by k_fill; intro _; w_top off; rfl
local macro_rules | `(tactic| walk_at "call ref") => `(tactic| ((with_reducible show wpAny _ _ (call (Value.ref 50) [_]) _ _ _); (first | (rename LadInv _ _ _ _ => I9; (obtain ⟨hr9, bs9, hL9, hI9⟩ := lad_step I9 (by assumption)); clear I9) | skip); k_dflt (refine' Mine.reachL ?W ?d ?u ?H ?_; (case W => exact At.of (by assumption) (by assumption) (by assumption) (by assumption) rfl rfl rfl); (case d => ktr_room); (case u => ktr_units); (case H => assumption)); intro t9 h9 tk9 k9; (rename Fr _ _ _ _ => F9); (rename News _ _ _ _ => N9); (replace F9 := Fr.after F9 k9); (replace N9 := newsAfter N9 k9); clear k9))
local macro_rules | `(tactic| walk_at "call builtin:len") => `(tactic| ((rename News _ _ _ _ => N9); (refine len_list (News.isList N9 (by exact List.Mem.head _)) (by simp only [List.size_toArray]; omega) ?_)))
local macro_rules | `(tactic| walk_at "compareOp Lt int int") => `(tactic| (refine lt_yes (by simp only [List.size_toArray]; omega) ?_))
theorem lawLadder {w : World} {p : Program} {loose : List PySem.Str} {mean : ExcName → Option Value} {mg mb : PySem.Str → Option Value} {dp un : Nat} {gd : Option (List Code)} {base : Heap} {env : Env} {outer : List Env} {s : Shared} {Q E : Value → Shared → Prop}
  {x : PySem.Str} {t : Tok} {bs : List PySem.Str}
  (W : At p loose mean mg mb (Head.hc.heap_39 w.params) { handled := none, depth := dp, frames := some (env :: outer), guards := gd, units := un } base env outer s.heap)
  (hd1 : dp + 9 < recursionLimit) (hu : un + 72 < cLine) (H : Ladder x bs) (hl : bs.length ≤ 4)
  (hret : ∀ (D : Addr) (vs : List Value) (n : Nat) (h' : Heap) (tk' : Nat), (∀ b o, s.heap.get? b = some o → h'.get? b = some o) → s.heap.get? D = none → h'.get? D = some (listOf vs.toArray n) → StrsAre vs (dots bs) → Q (.ref D) { s with heap := h', toks := tk' }) :
  wpAny (model PrgF w) { handled := none, depth := dp, frames := some (env :: outer), guards := gd, units := un } (call (.ref 107) [.str x t]) Q E s := by
  k_dflt (refine' Mine.call_S ?W ?k6 ?k7 ?k8 ?k9 ?kB ?_ ?c2 ?c3 ?c4 ?c5; (case W => assumption); (case k6 => k_is); (case k7 => k_is); (case k8 => ktr_room); (case k9 => exact BindsTo.of_eq rfl); (case c5 => decide); (case kB => exact locs rfl); (case c2 => exact rfl); (case c3 => exact rfl); (case c4 => exact rfl))
  intro L' h' F' B' X' T' hb'
  have N' : News s.heap L' h' [] := News.nil
  (try dsimp only)
  clear W
  iterate 20 (first | (k_unfold; (try dsimp only)) | walk1 | (dsimp only; walk1))
  rename_i D9 _ _ _ _ t9 _ _ _ F9 N9
  refine my_while (σ := PySem.Str × Tok × PySem.Str × Tok × List Value × List PySem.Str × Nat) (fun c => [(D9, listOf c.2.2.2.2.1.toArray c.2.2.2.2.2.2)]) (fun c => [(PySem.Str.ofString "host", .str c.1 c.2.1), (PySem.Str.ofString "rung", .str c.2.2.1 c.2.2.2.1)]) (fun c => StrsAre c.2.2.2.2.1 c.2.2.2.2.2.1) [] (fun c => LadInv (dots bs) c.1 c.2.2.1 c.2.2.2.2.2.1) (fun c => 5 - c.2.2.2.2.2.1.length) (x, t, nxt x bs, t9, [], [], 0) F9 N9 StrsAre.nil ?_ (lad_start H hl) ?_
  · exact List.forall_mem_cons.mpr ⟨by rfl, List.forall_mem_cons.mpr ⟨by rfl, List.forall_mem_nil _⟩⟩
  intro c u h5 tk5 hS I5 F5 N5
  obtain ⟨x5, t5, r5, u5, vs5, ys5, n5⟩ := c
  dsimp only at hS I5 F5 N5 ⊢
  have hfew : vs5.length ≤ 4 := by rw [StrsAre.length hS]; exact lad_few I5
  have hrl : r5.length ≤ 65 := lad_rlen I5
  (try k_fold)
  k_steps
  · rename_i tB _ _ _ _ bs9 _ hI9 tC _ _ _ F9 N9
    have hl9 : (ys5 ++ [r5]).length ≤ 4 := lad_few hI9
    show KswEnd _ _ _ _ _ _ _ _ _ _ _ _
    refine ksw_end (Txt.slice r5 (some 1) none, tB, nxt (Txt.slice r5 (some 1) none) bs9, tC, vs5 ++ [.str r5 u5], ys5 ++ [r5], n5 + 1) F9 N9 ?_ (StrsAre.append' hS (.cons _ _ .nil)) ?_ ?_ hI9 ?_
    · intro p hp; rw [List.mem_singleton.mp hp, ← List.push_toArray]; exact .head _
    · exact List.forall_mem_cons.mpr ⟨by rfl, List.forall_mem_cons.mpr ⟨by rfl, List.forall_mem_nil _⟩⟩
    · intro z h2 _
      simp only [List.forall_mem_cons, List.not_mem_nil, false_implies, implies_true, and_true, ne_eq] at h2
      simp [kstB, h2]
    · rw [List.length_append] at hl9 ⊢
      simp only [List.length_cons, List.length_nil] at hl9 ⊢
      omega
  · show Q (.ref D9) _
    rename_i hq
    refine hret D9 vs5 n5 _ _ (Fr.keep F5) (N5 _ (.head _)).2.2 (N5 _ (.head _)).1 ?_
    rw [← lad_end I5 (by rw [hq]; exact Bool.false_ne_true)]
    exact hS
end Mine
end
section
open PySem PySem.W PyProof.Rows PySem.Calls PySem.Spec
set_option Elab.async false
set_option maxRecDepth 100000
set_option maxHeartbeats 8000000
namespace Mine
section
open PyProof.Rows.LCg
variable {prog : Program} {w : World} {A : Around} {E : Value → Shared → Prop} {s : Shared} {h₀ : Heap} {L : Addr} {m : PySem.Str → Option Value} {env : Env}
def BytesSrc (prog : Program) (w : World) (A : Around) (h₀ : Heap) (L : Addr) (m : PySem.Str → Option Value) (env : Env) (elt : Expr) (x : PySem.Str) (scope : Scope) (cl : List (PySem.Str × Addr)) (Q : Value → Shared → Prop) (xv : Value) (s₁ : Shared) : Prop :=
  ∃ b t news, xv = .bytes b t ∧ A.handled = none ∧ Fr h₀ L s₁.heap m ∧ News h₀ L s₁.heap news ∧ b.size ≤ sizeLine ∧
    ∀ g, CompRest prog w A h₀ L m env elt x scope cl { s₁ with heap := g } (fun _ => True) (fun i v => ∃ c u, b[i]? = some c ∧ v = .int (c.toNat : Int) u) (FinE h₀ L m { s₁ with heap := g } Q) b.size 0 [] news
theorem my_CompBytes {elt iter : Expr} {x : PySem.Str} {px : Pos} {scope : Scope} {cl : List (PySem.Str × Addr)} {pos : Pos} {Q : Value → Shared → Prop} (_F : Fr h₀ L s.heap m)
    (hclos : closureFor scope env = pure cl) (hcell : ∀ z ∈ scope.names, z.2 ≠ .cell) (hkind : scope.kind = .function)
    (hnames : ∀ z ∈ scope.names, z.2 = .local → scope.names.lookup z.1 = some .local) (hx : scope.names.lookup x = some .local)
    (h : wpAny (model prog w) A (eval iter env) (fun xv s₁ => Hold (BytesSrc prog w A h₀ L m env elt x scope cl Q xv s₁)) E s)
    (hs : ∀ x, foldedSetIterable iter env x = pure x := by intro _; rfl) :
    wpAny (model prog w) A (eval (.ListComp elt [⟨.Name x px, iter, [], 0⟩] scope pos) env) Q E s := by
  rw [eval_ListComp]
  refine wpAny_comprehension_free (use := none) rfl hs hclos hkind hnames (wpAny_mono h (fun xv s₁ h₁ => ?_) fun _ _ e => e)
  obtain ⟨b, t, news, rfl, hh, F, N, hsz, R⟩ := h₁
  refine KBw.pyIter_bytes ?_
  refine block_U (KBw.walks hh s₁.heap.objs.size b t) hsz (fun i h st => by obtain ⟨o, e, _⟩ := st; exact ⟨o, e⟩) (fun i h h' o nw st e e' k N' _ => by obtain ⟨o', q, r⟩ := st; rw [e] at q; cases q; exact ⟨o, e', r⟩) hcell hkind hx ⟨_, Heap.get?_push_size _ rfl, rfl, rfl⟩ (fun b hb => ?_)
    (F.keeps fun _ _ e => Heap.get?_push_of_some _ e) (N.grown fun _ _ e => Heap.get?_push_of_some _ e) (Nat.ne_of_lt F.ns.lt) (next_is_new F) (fun p hp => Nat.ne_of_lt (Heap.lt_size (N p hp).1)) trivial (R _) ?_
  · rw [List.mem_singleton.mp hb]
    show s₁.heap.objs.size < (s₁.heap.push _).objs.size
    rw [Heap.size_push]; exact Nat.lt_succ_self _
  · intro D C h tk m' ys news' F' N' o1 hn hC₀ hD₀ hCL hDL hCD offC fin
    refine ⟨m', hn, fun h'' hs'' => fin D h'' tk (F'.change hs'' hCL hC₀) (fun p hp => ?_) o1⟩
    refine ⟨hs''.extBut _ _ ?_ (N' p hp).1, (N' p hp).2⟩
    rcases List.mem_cons.mp hp with rfl | hp
    · exact Ne.symm hCD
    · exact offC p hp
end
end Mine
end
section
open PySem PySem.W PyProof.Rows PySem.Calls PySem.Spec
set_option Elab.async false
set_option maxRecDepth 100000
set_option maxHeartbeats 8000000
set_option linter.unusedVariables false
namespace Mine
namespace BY
theorem slot_join : Slot "bytes" "join" "bytes.join" :=
  .of (owner := "bytes") (n := "join") (by rw [typeLookup_type, builtinLookup_eq_fast]; kernel_rfl) (by decide +kernel) (by decide +kernel) (by decide +kernel)
    (by first | exact .inl (by decide +kernel) | exact .inr (by decide +kernel)) (by rw [isSubtype_type]; kernel_rfl)
theorem entry_join : entryFor table "bytes.join" = some Builtin.«bytes.join» := by first | exact entryFor_of_fast (by kernel_rfl) | exact entryFor_of_tree (by kernel_rfl)
theorem args_join (a b : Value) : argsOk "bytes.join" ⟨[a, b], []⟩ := by unfold argsOk; kernel_rfl
theorem type_join : typeOf (.builtin "bytes.join") = pure (.type "method_descriptor") := by kernel_rfl
theorem take_eq {id : String} {b : Array UInt8} {t : Tok} : Builtin.Bytes.takeBufferQuiet? id (.bytes b t) 0 = pure (some (b, none)) := by
  unfold Builtin.Bytes.takeBufferQuiet? Builtin.Bytes.takeBuffer?
  rw [KBy.special_eq KBy.look_buffer, KBy.own_buffer]
  have e : Builtin.Bytes.buffer? id (.bytes b t) (0 == Builtin.Bytes.fullReadOnly) = pure (some b) := KBy.buffer_eq
  rw [e]
  rfl
end BY
section
variable {prog : Program} {w : World} {A : Around} {E : Value → Shared → Prop} {s : Shared}
theorem BysAre.get {vs : List Value} {ns : List (Array UInt8)} (h : BysAre vs ns) : ∀ {i : Nat}, i < ns.length → ∃ t, vs[i]? = some (.bytes (ns.getD i #[]) t) := by
  induction h with
  | nil => intro i hi; exact absurd hi (Nat.not_lt_zero _)
  | cons n t _ ih =>
    intro i hi
    cases i with
    | zero => exact ⟨t, rfl⟩
    | succ i => exact ih (by simpa using hi)
theorem BysAre.length {vs : List Value} {ns : List (Array UInt8)} (h : BysAre vs ns) : vs.length = ns.length := by
  induction h with
  | nil => rfl
  | cons _ _ _ ih => simp [ih]
theorem join_letGo : ∀ {l : List (Value × Option Value)} {keep : List Value} {Q : Unit → Shared → Prop}, (∀ p ∈ l, p.2 = none) → Q () s → wpAny (model prog w) A (Builtin.Bytes.joinLetGo l keep) Q E s
  | [], _, _, _, h => wpAny_pure h
  | (x, wv) :: r, keep, Q, hn, h => by
    obtain rfl : wv = none := hn _ (.head _)
    unfold Builtin.Bytes.joinLetGo
    exact wpAny_bind (wpAny_letGo (join_letGo (fun p hp => hn p (.tail _ hp)) h))
theorem five {α : Type} : ∀ {l : List α}, l.length = 5 → ∃ a b c d e, l = [a, b, c, d, e]
  | [a, b, c, d, e], _ => ⟨a, b, c, d, e, rfl⟩
theorem by_join {l : Addr} {vs : List Value} {bs : List (Array UInt8)} {n : Nat} {t : Tok} {Q : Value → Shared → Prop} (hl : s.heap.get? l = some (W.listOf vs.toArray n)) (h : BysAre vs bs) (h2 : bs.length = 5)
    (hz : (Builtin.Bytes.joined #[] bs).size ≤ 64) (hy : bs.foldl (· + ·.size) 0 ≤ 64)
    (hQ : ∀ t' k, Q (.bytes (Builtin.Bytes.joined #[] bs) t') { s with toks := k }) : wpAny (model prog w) A (call (.builtin "bytes.join") [.bytes #[] t, .ref l]) Q E s := by
  have hlen := h.length
  have m : Meets (Builtin.«bytes.join» ⟨[.bytes #[] t, .ref l], []⟩) (fun _ R s => s.heap.get? l = some (W.listOf vs.toArray n) ∧ ∀ t' k, R (.ok (.ret (.bytes (Builtin.Bytes.joined #[] bs) t'))) { s with toks := k }) := by
    refine .of_wp fun prog w A R s hS => ?_
    obtain ⟨hl, h'⟩ := hS
    unfold Builtin.«bytes.join» Builtin.Bytes.joinM
    refine wpAny_bind (wpAny_of_eq (a := (.bytes #[] t, .ref l)) rfl ?_)
    dsimp only
    rw [if_pos (by decide)]
    have hT : s.TypeIs (.ref l) "list" := ⟨_, hl, rfl⟩
    unfold Builtin.Bytes.joinItems
    refine wpAny_bind (wpAny_bind (wpAny_typeOf hT ?_))
    rw [if_pos (by decide)]
    refine wpAny_pure ?_
    refine wpAny_bind (wpAny_seqItems hl rfl ?_)
    dsimp only
    rw [if_pos (by decide)]
    obtain ⟨v0, v1, v2, v3, v4, rfl⟩ := five (hlen.trans h2)
    show wpAny _ _ (forIn [:([v0, v1, v2, v3, v4] : List Value).toArray.size] _ _ >>= _) _ _ _
    rw [KPc.range_list]
    have hsz : ([v0, v1, v2, v3, v4] : List Value).toArray.size = 5 := rfl
    rw [hsz]
    refine wpAny_bind (wpAny_mono (wpAny_forIn_list _ (fun rest st s' => s' = s ∧ ∃ i, i ≤ 5 ∧ rest = List.range' i (5 - i) ∧ st.1 = (bs.take i).toArray ∧ (∀ p ∈ st.2, p.2 = none ∧ p.1.onHeap = false)) (fun st s' => s' = s ∧ st.1 = bs.toArray ∧ ∀ p ∈ st.2, p.2 = none) ?turn ?fin _ _ ⟨rfl, 0, by omega, rfl, by simp, fun p hp => nomatch hp⟩) ?post fun _ _ e => e)
    case fin =>
      rintro st s' ⟨rfl, i, hi, hr, h1, h3⟩
      have : i = 5 := by
        have := congrArg List.length hr
        simp at this; omega
      subst this
      refine ⟨rfl, by rw [h1, ← h2, List.take_length], fun p hp => (h3 p hp).1⟩
    case turn =>
      rintro x rest ⟨pa, tk⟩ s' ⟨rfl, i, hi, hr, h1, h3⟩
      have hi5 : i < 5 := by
        have := congrArg List.length hr
        simp at this; omega
      have e5 : 5 - i = (5 - (i + 1)) + 1 := by omega
      rw [e5, List.range'_succ] at hr
      obtain ⟨rfl, rfl⟩ := List.cons.inj hr
      dsimp only at h1 h3 ⊢
      obtain ⟨t1, hx⟩ := h.get (i := x) (by omega)
      refine wpAny_bind (wpAny_seqItems hl rfl ?_)
      dsimp only
      have hany : (tk.any fun p => p.1.onHeap) = false := by
        rw [List.any_eq_false]
        intro p hp; rw [(h3 p hp).2]; decide
      rw [hany, if_neg (by decide)]
      have hg : ([v0, v1, v2, v3, v4] : List Value).toArray.getD x .none = .bytes (bs.getD x #[]) t1 := by
        rw [Array.getD_eq_getD_getElem?]; rw [List.getElem?_toArray, hx]; rfl
      rw [hg, BY.take_eq]
      refine wpAny_bind (wpAny_holding (wpAny_pure ?_))
      dsimp only
      refine wpAny_bind (wpAny_seqItems hl rfl ?_)
      dsimp only
      rw [hsz, if_neg (by decide)]
      refine wpAny_pure ⟨rfl, x + 1, by omega, rfl, ?_, fun p hp => ?_⟩
      · rw [h1]
        rw [List.take_add_one]
        have : bs[x]? = some (bs.getD x #[]) := by
          rw [List.getD_eq_getElem?_getD, List.getElem?_eq_getElem (by omega)]; rfl
        rw [this]; simp
      · rcases List.mem_append.mp hp with hp | hp
        · exact h3 p hp
        · rw [List.mem_singleton.mp hp]; exact ⟨rfl, rfl⟩
    case post =>
      rintro ⟨pa, tk⟩ s' ⟨rfl, h1, h3⟩
      dsimp only at h1 h3 ⊢
      subst h1
      refine wpAny_bind (wpAny_pure ?_)
      have ef : Array.foldl (fun x1 x2 => x1 + x2.size) ((#[] : Array UInt8).size * (bs.toArray.size - 1)) bs.toArray = bs.foldl (· + ·.size) 0 := by
        rw [List.foldl_toArray]; simp
      have et : Builtin.Bytes.tooLong (bs.foldl (· + ·.size) 0) = false := KBy.tooLong_not (by omega)
      dsimp only
      rw [ef, et, if_neg (by decide)]
      refine wpAny_bind ?_
      show wpAny _ _ (mkBytes (Builtin.Bytes.joined #[] bs)) _ _ _
      refine wpAny_mkBytes ?_ (by rw [sizeLine_eq]; omega)
      refine wpAny_bind (wpAny_holding (wpAny_point ?_))
      refine wpAny_bind (join_letGo h3 ?_)
      exact wpAny_pure ⟨_, rfl, h' _ _⟩
  exact call_meets BY.slot_join (typeIs_bytes _ _ _) BY.entry_join (BY.args_join _ _) m ⟨hl, hQ⟩
end
end Mine
end
section
open PySem PySem.W PyProof.Rows PySem.Calls PySem.Spec PySem.SeqAt
set_option Elab.async false
set_option maxRecDepth 100000
set_option maxHeartbeats 8000000
set_option linter.unusedVariables false
namespace Mine
/-! bytes compared and sorted -/
abbrev bnat (b : Array UInt8) : List Nat := b.toList.map (·.toNat)
theorem order_lt : ∀ a b : List UInt8, (Builtin.Bytes.order a b == .lt) = decide (a.map (·.toNat) < b.map (·.toNat))
  | [], [] => by simp [Builtin.Bytes.order]
  | [], _ :: _ => by simp [Builtin.Bytes.order]
  | _ :: _, [] => by simp [Builtin.Bytes.order]
  | x :: a, y :: b => by
    simp only [Builtin.Bytes.order, List.map_cons]
    by_cases h1 : x < y
    · have h3 : x.toNat < y.toNat := UInt8.lt_iff_toNat_lt.mp h1
      rw [if_pos h1]
      have : x.toNat :: a.map (·.toNat) < y.toNat :: b.map (·.toNat) := List.cons_lt_cons_iff.mpr (.inl h3)
      simp [this]
    · by_cases h2 : x > y
      · have h3 : y.toNat < x.toNat := UInt8.lt_iff_toNat_lt.mp h2
        rw [if_neg h1, if_pos h2]
        have : ¬ x.toNat :: a.map (·.toNat) < y.toNat :: b.map (·.toNat) := fun q => by
          rcases List.cons_lt_cons_iff.mp q with q | ⟨q, _⟩ <;> omega
        simp [this]
      · have e : x = y := UInt8.le_antisymm (UInt8.not_lt.mp h2) (UInt8.not_lt.mp h1)
        rw [if_neg h1, if_neg h2, order_lt a b, e]
        have : (y.toNat :: a.map (·.toNat) < y.toNat :: b.map (·.toNat)) ↔ (a.map (·.toNat) < b.map (·.toNat)) := by
          rw [List.cons_lt_cons_iff]; simp
        simp only [this]
namespace BY
theorem slot_lt : Slot "bytes" (cmpInfo .Lt).2.1 "bytes.__lt__" :=
  .of (owner := "bytes") (n := "__lt__") (by rw [typeLookup_type, builtinLookup_eq_fast]; kernel_rfl) (by decide +kernel) (by decide +kernel) (by decide +kernel)
    (by first | exact .inl (by decide +kernel) | exact .inr (by decide +kernel)) (by rw [isSubtype_type]; kernel_rfl)
theorem entry_lt : entryFor table "bytes.__lt__" = some Builtin.«bytes.__lt__» := by first | exact entryFor_of_fast (by kernel_rfl) | exact entryFor_of_tree (by kernel_rfl)
theorem args_lt (a b : Value) : argsOk "bytes.__lt__" ⟨[a, b], []⟩ := by unfold argsOk; kernel_rfl
theorem gives_lt (b c : Array UInt8) (t u : Tok) : Gives (Builtin.«bytes.__lt__» ⟨[.bytes b t, .bytes c u], []⟩) (.val (.bool (decide (bnat b < bnat c)))) := by
  refine .of_wp fun M A E s Q hq => ?_
  show wpAny M A (isInstance (.bytes c u) (.type "bytes") >>= fun r => _) _ E s
  refine wpAny_bind (wpAny_isInstance (PySem.W.typeIs_bytes s c u) PySem.F.sub_bytes_bytes ?_)
  exact wpAny_pure ⟨_, rfl, by rw [← order_lt] at hq; exact hq⟩
end BY
section
variable {prog : Program} {w : World} {A : Around} {E : Value → Shared → Prop} {s : Shared} {b c : Array UInt8} {t u : Tok}
theorem lt_bytes {Q : Value → Shared → Prop} (h : Q (.bool (decide (bnat b < bnat c))) s) : wpAny (model prog w) A (compareOp .Lt (.bytes b t) (.bytes c u)) Q E s :=
  compareOp_gives (op := .Lt) (PySem.W.typeIs_bytes s b t) (PySem.W.typeIs_bytes s c u) BY.slot_lt BY.entry_lt (BY.args_lt _ _) (BY.gives_lt b c t u) (fun e => nomatch e) h
theorem eqAt_bytes : EqAt A s (.bytes b t) (.bytes c u) (decide (b.toList = c.toList)) := fun _ _ _ _ h => PySem.W.eqBool_bytes h
theorem oneLt_bytes {Q : Bool → Shared → Prop} (h : Q (decide (bnat b < bnat c)) s) : wpAny (model prog w) A (oneLt' true (.bytes b t) (.bytes c u)) Q E s := by
  rw [oneLt'_eq]
  simp only [if_true]
  refine wpAny_bind (wpAny_cRoomFor_byValue rfl ?_)
  refine wpAny_bind (wpAny_callSpecialIfBound?_slot (PySem.W.typeIs_bytes s b t) BY.slot_lt (call_gives BY.slot_lt (PySem.W.typeIs_bytes s b t) BY.entry_lt (BY.args_lt _ _) (BY.gives_lt b c t u) ?_))
  exact wpAny_truthy_bool h
end
@[reducible] def bKind : KeyKind where
  α := List Nat
  blt a b := decide (a < b)
  irrefl := strKind.irrefl
  trans := strKind.trans
  negTrans := strKind.negTrans
  total := strKind.total
  keyOf v := match v with | .bytes x _ => some (bnat x) | _ => none
  dflt := []
theorem bKind_oneLt : bKind.OneLt := by
  intro prog w A E s x y a b Q ha hb h
  cases x <;> simp only [bKind, reduceCtorEq, Option.some.injEq] at ha
  cases y <;> simp only [bKind, reduceCtorEq, Option.some.injEq] at hb
  cases ha; cases hb
  exact oneLt_bytes h
def bytesOf : Value → Array UInt8
  | .bytes x _ => x
  | _ => #[]
theorem BysAre.all : ∀ {vs : List Value} {ss : List (Array UInt8)}, BysAre vs ss → ∀ v, v ∈ vs → ∃ x t, v = .bytes x t
  | _, _, .nil, v, hv => by simp at hv
  | _, _, .cons x t h, v, hv => by
    rcases List.mem_cons.mp hv with rfl | hv
    · exact ⟨x, t, rfl⟩
    · exact h.all v hv
theorem BysAre.strs : ∀ {vs : List Value} {ss : List (Array UInt8)}, BysAre vs ss → vs.map bytesOf = ss
  | _, _, .nil => rfl
  | _, _, .cons x t h => by rw [List.map_cons, h.strs]; rfl
theorem bysAre_map : ∀ (vs : List Value), (∀ v, v ∈ vs → ∃ x t, v = .bytes x t) → BysAre vs (vs.map bytesOf)
  | [], _ => .nil
  | v :: vs, h => by
    obtain ⟨x, t, rfl⟩ := h v (List.mem_cons_self ..)
    exact .cons x t (bysAre_map vs fun u hu => h u (List.mem_cons_of_mem _ hu))
theorem BysAre.keysOf {vs : List Value} {ss : List (Array UInt8)} (hS : BysAre vs ss) : KeysOf bKind (pairsOf vs) := by
  intro p hp
  rw [pairsOf_toList] at hp
  obtain ⟨x, t, e⟩ := hS.all _ (mem_zip_self hp).2
  exact ⟨bnat x, by rw [e]⟩
theorem KK_by {xs : Array Keyed} {i : Nat} (hi : i < xs.size) {x : Array UInt8} {t : Tok} {q : Value} (hx : xs[i] = (.bytes x t, q)) : KK bKind xs i = bnat x := by
  unfold KK; rw [getElem?_pos xs i hi, hx]; rfl
theorem first_by (x : Array UInt8) (t : Tok) : firstOfTuple' (.bytes x t) = pure none := rfl
theorem mapM_first_bys : ∀ {vs : List Value} {ss : List (Array UInt8)}, BysAre vs ss → vs.mapM firstOfTuple' = pure (vs.map fun _ => none)
  | _, _, .nil => by simp
  | _, _, .cons x t h => by rw [List.mapM_cons, first_by, mapM_first_bys h]; simp
theorem mapM_typeOf_bys : ∀ {vs : List Value} {ss : List (Array UInt8)}, BysAre vs ss → vs.mapM typeOf = pure (vs.map fun _ => Value.type "bytes")
  | _, _, .nil => by simp
  | _, _, .cons x t h => by
    rw [List.mapM_cons, mapM_typeOf_bys h]
    show (pure (Value.type "bytes") >>= fun b => pure _ >>= fun bs => pure (b :: bs)) = _
    simp
theorem keyKind_bys {v₁ v₂ : Value} {vs : List Value} {ss : List (Array UInt8)} (hS : BysAre (v₁ :: v₂ :: vs) ss) : keyKind' (v₁ :: v₂ :: vs).toArray = pure oneType' := by
  rw [keyKind'_eq, List.mapM_toArray, mapM_first_bys hS]
  simp only [map_pure, pure_bind]
  rw [if_neg (by simp), if_neg (by simp)]
  rw [oneTypeOnly'_eq, List.mapM_toArray, mapM_typeOf_bys hS]
  simp only [map_pure, pure_bind]
  have hall : ((List.map (fun _ => Value.type "bytes") (v₁ :: v₂ :: vs)).toArray.all fun x => x == Value.type "bytes") = true := by
    simp only [List.all_toArray, List.all_map, List.all_eq_true]
    intro _ _
    rfl
  have h0 : (List.map (fun _ => Value.type "bytes") (v₁ :: v₂ :: vs)).toArray[0]? = some (Value.type "bytes") := by simp
  rw [h0]
  simp only [hall, if_true, pure_bind, Option.isSome_some]
theorem sorted_out_by {vs : List Value} {ss : List (Array UInt8)} (hS : BysAre vs ss) {xs : Array Keyed} (hp : xs.Perm (pairsOf vs)) (hs : SortedToK bKind xs (pairsOf vs).size) :
    ∃ ss', BysAre (xs.map (·.2)).toList ss' ∧ ss'.Perm ss ∧ ss'.Pairwise (fun a b => ¬ bnat b < bnat a) := by
  have hl : xs.toList.Perm (vs.zip vs) := by rw [← pairsOf_toList]; exact Array.perm_iff_toList_perm.mp hp
  have hmem : ∀ p, p ∈ xs.toList → p.1 = p.2 ∧ p.1 ∈ vs := fun p hp' => mem_zip_self (hl.mem_iff.mp hp')
  refine ⟨xs.toList.map (fun p => bytesOf p.1), ?_, ?_, ?_⟩
  · have e : (xs.map (·.2)).toList = xs.toList.map (·.1) := by
      rw [Array.toList_map]; exact List.map_congr_left fun p hp' => (hmem p hp').1.symm
    rw [e]
    have h1 := bysAre_map (xs.toList.map (·.1)) (by
      intro v hv
      obtain ⟨p, hp', rfl⟩ := List.mem_map.mp hv
      exact hS.all _ (hmem p hp').2)
    rwa [List.map_map] at h1
  · have h1 := hl.map (fun p => bytesOf p.1)
    have e2 : (vs.zip vs).map (fun p => bytesOf p.1) = ss := by
      have : (vs.zip vs).map (fun p => bytesOf p.1) = ((vs.zip vs).map Prod.fst).map bytesOf := by rw [List.map_map]; rfl
      rw [this, List.map_fst_zip (Nat.le_refl _), hS.strs]
    rwa [e2] at h1
  · rw [List.pairwise_iff_getElem]
    intro i j hi hj hij
    have hi' : i < xs.size := by simpa using hi
    have hj' : j < xs.size := by simpa using hj
    have h1 := hs i j (Nat.le_of_lt hij) (by rw [← hp.size_eq]; exact hj')
    obtain ⟨x, t, ex⟩ := hS.all _ (hmem xs[i] (by simp)).2
    obtain ⟨y, u, ey⟩ := hS.all _ (hmem xs[j] (by simp)).2
    rw [KK_by hi' (x := x) (t := t) (q := xs[i].2) (Prod.ext ex rfl), KK_by hj' (x := y) (t := u) (q := xs[j].2) (Prod.ext ey rfl)] at h1
    change decide (bnat y < bnat x) = false at h1
    simp only [List.getElem_map, Array.getElem_toList]
    rw [show bytesOf xs[i].1 = x by rw [ex]; rfl, show bytesOf xs[j].1 = y by rw [ey]; rfl]
    exact of_decide_eq_false h1
theorem sortedS_pairwise : ∀ (p : Str) (l : List Str), risingS p l = true → (p :: l).Pairwise (fun a b => ¬ b.cps.toList < a.cps.toList)
  | p, [], _ => by simp
  | p, x :: r, h => by
    have h' : (!ltCps x.cps.toList p.cps.toList && risingS x r) = true := h
    rw [Bool.and_eq_true] at h'
    obtain ⟨h1, h2⟩ := h'
    rw [ltCps_eq] at h1
    have h1' : ¬ x.cps.toList < p.cps.toList := by simpa using h1
    have ih := sortedS_pairwise x r h2
    refine List.pairwise_cons.mpr ⟨fun b hb => ?_, ih⟩
    rcases List.mem_cons.mp hb with rfl | hb
    · exact h1'
    · have h3 := List.rel_of_pairwise_cons ih hb
      intro q
      rcases strKind.negTrans _ x.cps.toList _ (decide_eq_true q) with q | q
      · exact h3 (of_decide_eq_true q)
      · exact h1' (of_decide_eq_true q)
theorem sortedS_pw : ∀ (l : List Str), sortedS l = true → l.Pairwise (fun a b => ¬ b.cps.toList < a.cps.toList)
  | [], _ => .nil
  | x :: r, h => sortedS_pairwise x r h
section
variable {prog : Program} {w : World} {A : Around} {E : Value → Shared → Prop} {s : Shared}
theorem sorted_N_by {h₀ : Heap} {L : Addr} {m : Str → Option Value} {news : List (Addr × Obj)} {l : Addr} {vs : List Value} {ss : List (Array UInt8)} {Q : Value → Shared → Prop}
    (F : Fr h₀ L s.heap m) (N : News h₀ L s.heap news) (hl : s.heap.IsList l vs.toArray) (hS : BysAre vs ss) (h64 : vs.length < 64)
    (h : ∀ (h' : Heap) (vs' : List Value) (ss' : List (Array UInt8)) (e : Nat), Fr h₀ L h' m → News h₀ L h' ((s.heap.objs.size + 1, seqObj "list" vs'.toArray e) :: news) →
      BysAre vs' ss' → ss'.Perm ss → ss'.Pairwise (fun a b => ¬ bnat b < bnat a) → Q (.ref (s.heap.objs.size + 1)) { s with heap := h' }) :
    wpAny (model prog w) A (call (.builtin "sorted") [.ref l]) Q E s := by
  refine sortedK bKind_oneLt hl hS.keysOf (fun v₁ v₂ rest e => keyKind_bys (by rw [← e]; exact hS)) h64 fun st' hp hs => ?_
  obtain ⟨ss', a1, a2, a3⟩ := sorted_out_by hS hp hs
  obtain ⟨e, he⟩ := sortedAll_at s.heap vs ((arrOf st').map (·.2))
  exact h _ ((arrOf st').map (·.2)).toList ss' e (F.kept fun _ _ => sortedAll_old) (N.kept_cons F (fun _ _ => sortedAll_old) (Nat.le_succ _) he) a1 a2 a3
/-- two lists whose items are alike -/
theorem ne_alike {l b : Addr} {vs ws : List Value} {Q : Value → Shared → Prop} (hl : s.heap.IsList l vs.toArray) (hb : s.heap.IsList b ws.toArray) (hu : A.units < cLine) (hlen : vs.length = ws.length)
    (he : ∀ (j : Nat) (v x : Value), vs[j]? = some v → ws[j]? = some x → EqAt A.in1 s v x true) (h : Q (.bool false) s) : wpAny (model prog w) A (compareOp .NotEq (.ref l) (.ref b)) Q E s := by
  have R := RcNeAt.lists (A := A) (e := fun _ => true) hl hb (by simpa using hlen) hu (fun j h1 h2 => he j _ _ (by simp) (by simp))
  refine R prog w E Q ?_
  have : (List.range vs.toArray.size).all (fun _ => true) = true := by simp
  rw [this]; exact h
theorem ne_strs {l b : Addr} {vs ws : List Value} {ss : List PySem.Str} {Q : Value → Shared → Prop} (hl : s.heap.IsList l vs.toArray) (hb : s.heap.IsList b ws.toArray) (hu : A.units < cLine)
    (h1 : StrsAre vs ss) (h2 : StrsAre ws ss) (h : Q (.bool false) s) : wpAny (model prog w) A (compareOp .NotEq (.ref l) (.ref b)) Q E s := by
  refine ne_alike hl hb hu ((StrsAre.length h1).trans (StrsAre.length h2).symm) (fun j v x hv hx => ?_) h
  have key : ∀ {vs ws : List Value} {ss : List PySem.Str}, StrsAre vs ss → StrsAre ws ss → ∀ (j : Nat) (v x : Value), vs[j]? = some v → ws[j]? = some x → ∃ y t u, v = .str y t ∧ x = .str y u := by
    intro vs ws ss a
    induction a generalizing ws with
    | nil => intro _ j v x e; simp at e
    | cons y t _ ih =>
      intro b
      cases b with
      | cons _ u b =>
        intro j v x e f
        cases j with
        | zero => exact ⟨y, t, u, (Option.some.inj e).symm, (Option.some.inj f).symm⟩
        | succ j => exact ih b j v x e f
  obtain ⟨y, t, u, rfl, rfl⟩ := key h1 h2 j v x hv hx
  have := EqAt.str_str (A := A.in1) (s := s) y t y u
  rwa [beq_self_eq_true] at this
theorem ne_bys {l b : Addr} {vs ws : List Value} {ss : List (Array UInt8)} {Q : Value → Shared → Prop} (hl : s.heap.IsList l vs.toArray) (hb : s.heap.IsList b ws.toArray) (hu : A.units < cLine)
    (h1 : BysAre vs ss) (h2 : BysAre ws ss) (h : Q (.bool false) s) : wpAny (model prog w) A (compareOp .NotEq (.ref l) (.ref b)) Q E s := by
  refine ne_alike hl hb hu ((BysAre.length h1).trans (BysAre.length h2).symm) (fun j v x hv hx => ?_) h
  have key : ∀ {vs ws : List Value} {ss : List (Array UInt8)}, BysAre vs ss → BysAre ws ss → ∀ (j : Nat) (v x : Value), vs[j]? = some v → ws[j]? = some x → ∃ y t u, v = .bytes y t ∧ x = .bytes y u := by
    intro vs ws ss a
    induction a generalizing ws with
    | nil => intro _ j v x e; simp at e
    | cons y t _ ih =>
      intro b
      cases b with
      | cons _ u b =>
        intro j v x e f
        cases j with
        | zero => exact ⟨y, t, u, (Option.some.inj e).symm, (Option.some.inj f).symm⟩
        | succ j => exact ih b j v x e f
  obtain ⟨y, t, u, rfl, rfl⟩ := key h1 h2 j v x hv hx
  have := eqAt_bytes (A := A.in1) (s := s) (b := y) (c := y) (t := t) (u := u)
  rwa [decide_eq_true rfl] at this
end
end Mine
end
section
open PySem PySem.W PyProof.Rows PySem.Calls PySem.Spec
set_option Elab.async false
set_option maxRecDepth 100000
set_option maxHeartbeats 8000000
set_option linter.unusedVariables false
namespace Mine
theorem fillNA_ (w : World) (h : Heap) : (Head.hc.heap_39 w.params).In h → PySem.Challenge.rw_zo0024_01.row.prog = PySem.Challenge.rw_zo0024_01.row.prog := by k_fill; intro _; w_top off; rfl
def headOf (x : Array UInt8) (k : Int) : Array UInt8 := KBy.picked x (some (4 * k)) (some (4 * k + 4))
local macro_rules | `(tactic| walk_at "subscriptTail") => `(tactic| ((with_reducible show wpAny _ _ (subscriptTail _ _ (Value.bytes _ _) (Value.ref _)) _ _ _); (rename Fr _ _ _ _ => F9); (rename News _ _ _ _ => N9); (refine KBc.slice_K (s := ⟨_, _, _, _, _⟩) F9 N9 rfl (by constructor) (by constructor) (by rw [KBw.ints_length]; omega) ?_); intro h9 t9 k9 F9' N9' _; clear F9 N9))
set_option pp.deepTerms.threshold 8
theorem segH {w : World} {p : Program} {loose : List PySem.Str} {mean : ExcName → Option Value} {mg mb : PySem.Str → Option Value} {s : Shared} {Q : Flow → Shared → Prop} {E : Value → Shared → Prop} {h₀ : Heap} {L : Addr} {m : PySem.Str → Option Value}
  {aT aW aP : Addr} {vT vW vP : List Value} {x : Array UInt8} {t0 : Tok} {o1 o2 : Obj} (B : Below callerA h₀ [] h₀) (X : (Head.hc.heap_39 w.params).In h₀) (T : Top p loose mean mg mb h₀)
  (hx : x.size = 20) (hd2 : o2.data = .cell (some (.bytes x t0))) (F : Fr h₀ L s.heap (kstB m [(PySem.Str.ofString "tails", .ref aT), (PySem.Str.ofString "worth", .ref aW), (PySem.Str.ofString "words", .ref aP)]))
  (N : News h₀ L s.heap [(aP, W.listOf vP.toArray vP.length), (aT, W.listOf vT.toArray vT.length), (aW, W.listOf vW.toArray vW.length), (L + 1 + 1, o1), (L + 1, o2)])
  (hcont : ∀ h' tk' m' aH vH, Fr h₀ L h' (kstB m' [(PySem.Str.ofString "tails", .ref aT), (PySem.Str.ofString "worth", .ref aW), (PySem.Str.ofString "words", .ref aP), (PySem.Str.ofString "heads", .ref aH)]) →
    News h₀ L h' [(aH, W.listOf vH.toArray vH.length), (aP, W.listOf vP.toArray vP.length), (aT, W.listOf vT.toArray vT.length), (aW, W.listOf vW.toArray vW.length), (L + 1 + 1, o1), (L + 1, o2)] →
    BysAre vH ((List.range 5).map fun (k : Nat) => headOf x (k : Int)) → Q .next { s with heap := h', toks := tk' }) :
  wpAny (model PrgW w) (callerA.deeper (lawEnv L)) (execs ((lawDef.1.drop 5).take 1) (lawEnv L)) Q E s := by
  dsimp only [lawEnv, lawDef, lastOf, lawDefOf, PySem.Challenge.pw_zo0024_01]
  simp only [List.take_succ_cons, List.take_zero, List.drop_succ_cons, List.drop_zero]
  refine wpAny_execs_cons ?_
  refine my_AssignComp F rfl (by rfl) (by rfl) (by decide) rfl (by decide) rfl rfl rfl ?_
  k_steps
  rename IsRange _ _ _ _ _ _ _ _ => R9
  rename News _ _ _ _ => N9
  rename Fr _ _ _ _ => F9
  refine LCg.CompSrc.range (n := 5) rfl F9 N9 R9 (by decide) (by decide) (by rw [sizeLine_eq]; omega) (fun g => ?_)
  refine compBy (n := 5) (fun i ys => BysAre ys ((List.range i).map fun (k : Nat) => headOf x (k : Int))) trivial ?turn ?done 5 0 [] (Nat.zero_add _) .nil
  case turn =>
    intro i ys v I oI C oC D m₂ h tk E' hi hv hy hC hx2 F1 N1 off ne
    obtain ⟨t, rfl⟩ := hv
    clear F9 N9 R9
    have e0 : (0 : Int) + (i : Int) = i := by omega
    rw [e0] at hx2
    have hs : (List.range (i + 1)).map (fun (k : Nat) => headOf x (k : Int)) = (List.range i).map (fun (k : Nat) => headOf x (k : Int)) ++ [headOf x i] := by rw [List.range_succ, List.map_append]; rfl
    rw [hs]
    k_steps
    rename Fr _ _ _ _ => F9
    rename News _ _ _ _ => N9
    exact compTo F9 N9 (fun p hp => hp) (hy.snoc _ _)
  case done =>
    intro ys hy D h' tk' F9 N9 _
    show wpAny _ _ (execs [] _) _ _ _
    refine wpAny_execs_nil ?_
    refine hcont _ _ _ D ys (Fr.named F9 [(PySem.Str.ofString "tails", .ref aT), (PySem.Str.ofString "worth", .ref aW), (PySem.Str.ofString "words", .ref aP), (PySem.Str.ofString "heads", .ref D)] ?_) N9 hy
    exact List.forall_mem_cons.mpr ⟨by rfl, List.forall_mem_cons.mpr ⟨by rfl, List.forall_mem_cons.mpr ⟨by rfl, List.forall_mem_cons.mpr ⟨by rfl, List.forall_mem_nil _⟩⟩⟩⟩
end Mine
end
section
open PySem PySem.W PyProof.Rows PySem.Calls PySem.Spec
set_option Elab.async false
set_option maxRecDepth 100000
set_option maxHeartbeats 8000000
set_option linter.unusedVariables false
namespace Mine
def sfx : Nat → Nat → Nat → Nat → PySem.Str
  | 0, _, _, _ => ⟨#[108, 111, 99, 97, 108]⟩
  | 1, _, _, c => ⟨#[c, 46, 108, 111, 99, 97, 108]⟩
  | 2, _, b, c => ⟨#[b, 46, c, 46, 108, 111, 99, 97, 108]⟩
  | 3, a, b, c => ⟨#[a, 46, b, 46, c, 46, 108, 111, 99, 97, 108]⟩
  | _, a, b, c => ⟨#[66, 46, a, 46, b, 46, c, 46, 108, 111, 99, 97, 108]⟩
inductive Let : Nat → Prop
  | a : Let 65
  | h : Let 72
  | o : Let 79
theorem sn1 {c : Nat} (hc : Let c) : SearchNone (sfx 1 0 0 c) := by
  cases hc <;> exact fun S t => by kernel_rfl
theorem sn2 {b c : Nat} (hb : Let b) (hc : Let c) : SearchNone (sfx 2 0 b c) := by
  cases hb <;> cases hc <;> exact fun S t => by kernel_rfl
theorem sn3 {a b c : Nat} (ha : Let a) (hb : Let b) (hc : Let c) : SearchNone (sfx 3 a b c) := by
  cases ha <;> cases hb <;> cases hc <;> exact fun S t => by kernel_rfl
theorem sn4 {a b c : Nat} (ha : Let a) (hb : Let b) (hc : Let c) : SearchNone (sfx 4 a b c) := by
  cases ha <;> cases hb <;> cases hc <;> exact fun S t => by kernel_rfl
theorem up1 {c : Nat} (hc : Let c) : Up (sfx 1 0 0 c) (sfx 0 0 0 0) := by
  have h := sn1 hc
  cases hc <;> exact ⟨⟨h, by decide, by decide, by decide +kernel, by decide +kernel, by decide +kernel⟩, by decide +kernel, by decide +kernel, by decide, by decide +kernel, by decide +kernel, by decide +kernel⟩
theorem up2 {b c : Nat} (hb : Let b) (hc : Let c) : Up (sfx 2 0 b c) (sfx 1 0 0 c) := by
  have h := sn2 hb hc
  cases hb <;> cases hc <;> exact ⟨⟨h, by decide, by decide, by decide +kernel, by decide +kernel, by decide +kernel⟩, by decide +kernel, by decide +kernel, by decide, by decide +kernel, by decide +kernel, by decide +kernel⟩
theorem up3 {a b c : Nat} (ha : Let a) (hb : Let b) (hc : Let c) : Up (sfx 3 a b c) (sfx 2 0 b c) := by
  have h := sn3 ha hb hc
  cases ha <;> cases hb <;> cases hc <;> exact ⟨⟨h, by decide, by decide, by decide +kernel, by decide +kernel, by decide +kernel⟩, by decide +kernel, by decide +kernel, by decide, by decide +kernel, by decide +kernel, by decide +kernel⟩
theorem up4 {a b c : Nat} (ha : Let a) (hb : Let b) (hc : Let c) : Up (sfx 4 a b c) (sfx 3 a b c) := by
  have h := sn4 ha hb hc
  cases ha <;> cases hb <;> cases hc <;> exact ⟨⟨h, by decide, by decide, by decide +kernel, by decide +kernel, by decide +kernel⟩, by decide +kernel, by decide +kernel, by decide, by decide +kernel, by decide +kernel, by decide +kernel⟩
theorem ladder4 {a b c : Nat} (ha : Let a) (hb : Let b) (hc : Let c) : Ladder (sfx 4 a b c) [sfx 3 a b c, sfx 2 0 b c, sfx 1 0 0 c, sfx 0 0 0 0] :=
  .up (up4 ha hb hc) (.up (up3 ha hb hc) (.up (up2 hb hc) (.up (up1 hc) (.top (by decide) (by decide +kernel)))))
end Mine
end
section
/-! the plain law: whoever always takes the best next one has the best so many -/
namespace Mine
section greedy
variable (w : Nat → Int) (s : Nat → Nat → Int)
def cost (C : List Nat) (x : Nat) : Int := (C.map (s x)).sum
def FV : List Nat → List Nat → Int
  | _, [] => 0
  | V, a :: r => w a - cost s V a + FV (a :: V) r
def GreedyFrom (U : List Nat) : List Nat → List Nat → Prop
  | _, [] => True
  | C, c :: cs => c ∈ U ∧ c ∉ C ∧ (∀ k ∈ U, k ∉ C → w k - cost s C k ≤ w c - cost s C c) ∧ GreedyFrom U (c :: C) cs
theorem cost_cons (C : List Nat) (a x : Nat) : cost s (a :: C) x = s x a + cost s C x := by simp [cost]
theorem sum_perm {l₁ l₂ : List Int} (h : l₁.Perm l₂) : l₁.sum = l₂.sum := by
  induction h with
  | nil => rfl
  | cons a _ ih => simp [ih]
  | swap a b l => simp; omega
  | trans _ _ h1 h2 => exact h1.trans h2
theorem cost_perm {C D : List Nat} (h : C.Perm D) (x : Nat) : cost s C x = cost s D x := sum_perm (h.map _)
theorem FV_ctx : ∀ (A V W : List Nat), (∀ x ∈ A, cost s V x = cost s W x) → FV w s V A = FV w s W A
  | [], _, _, _ => rfl
  | a :: r, V, W, h => by
    simp only [FV]
    rw [h a (.head _), FV_ctx r (a :: V) (a :: W) fun x hx => by rw [cost_cons, cost_cons, h x (.tail _ hx)]]
theorem FV_perm (hs : ∀ a b, s a b = s b a) {A B : List Nat} (h : A.Perm B) : ∀ V, FV w s V A = FV w s V B := by
  induction h with
  | nil => intro V; rfl
  | cons a _ ih => intro V; simp only [FV, ih]
  | swap a b l =>
    intro V
    simp only [FV, cost_cons]
    rw [hs a b, FV_ctx w s l (a :: b :: V) (b :: a :: V) fun x _ => by simp only [cost_cons]; omega]
    omega
  | trans _ _ h1 h2 => intro V; exact (h1 V).trans (h2 V)
theorem exists_best (f : Nat → Int) : ∀ {A : List Nat}, A ≠ [] → ∃ v ∈ A, ∀ x ∈ A, f x ≤ f v
  | [], h => absurd rfl h
  | [a], _ => ⟨a, .head _, fun x hx => by rw [List.mem_singleton.mp hx]; exact Int.le_refl _⟩
  | a :: b :: r, _ => by
    obtain ⟨v, hv, hb⟩ := exists_best f (A := b :: r) (by simp)
    by_cases q : f v ≤ f a
    · exact ⟨a, .head _, fun x hx => by
        rcases List.mem_cons.mp hx with rfl | hx
        · exact Int.le_refl _
        · exact Int.le_trans (hb x hx) q⟩
    · exact ⟨v, .tail _ hv, fun x hx => by
        rcases List.mem_cons.mp hx with rfl | hx
        · omega
        · exact hb x hx⟩
theorem greedy_best {U : List Nat} (hs : ∀ a b, s a b = s b a) (hu : ∀ a b c, min (s a c) (s c b) ≤ s a b) : ∀ (cs C V A : List Nat), GreedyFrom w s U C cs → A.Nodup → (∀ x ∈ A, x ∈ U) → (∀ x ∈ A, x ∉ C) →
    A.length = cs.length → (∀ x ∈ A, cost s C x ≤ cost s V x) → FV w s V A ≤ FV w s C cs
  | [], C, V, A, _, _, _, _, hl, _ => by
    have : A = [] := List.length_eq_zero_iff.mp hl
    subst this; exact Int.le_refl _
  | c :: cs, C, V, A, hg, hn, hU, hC, hl, hle => by
    obtain ⟨g1, g2, g3, g4⟩ := hg
    have hne : A ≠ [] := by intro e; subst e; simp at hl
    have pick : ∃ v ∈ A, (∀ x ∈ A, s c x ≤ s c v ∨ c = v) ∧ (c ∈ A → v = c) := by
      by_cases q : c ∈ A
      · exact ⟨c, q, fun x _ => .inr rfl, fun _ => rfl⟩
      · obtain ⟨v, hv, hb⟩ := exists_best (s c) hne
        exact ⟨v, hv, fun x hx => .inl (hb x hx), fun h => absurd h q⟩
    obtain ⟨v, hv, hb, hvc⟩ := pick
    have hp := List.perm_cons_erase hv
    rw [FV_perm w s hs hp V]
    have hn' : (v :: A.erase v).Nodup := hp.nodup_iff.mp hn
    have hmem : ∀ x ∈ A.erase v, x ∈ A ∧ x ≠ v := fun x hx => ⟨List.mem_of_mem_erase hx, fun e => (List.nodup_cons.mp hn').1 (e ▸ hx)⟩
    have ih := greedy_best hs hu cs (c :: C) (v :: V) (A.erase v) g4 (List.nodup_cons.mp hn').2 (fun x hx => hU x (hmem x hx).1)
      (fun x hx hm => by
        rcases List.mem_cons.mp hm with rfl | hm
        · exact (hmem x hx).2 (hvc (hmem x hx).1).symm
        · exact hC x (hmem x hx).1 hm)
      (by have := hp.length_eq; simp at this hl; omega)
      (fun x hx => by
        rw [cost_cons, cost_cons]
        have h1 := hle x (hmem x hx).1
        rcases hb x (hmem x hx).1 with h2 | rfl
        · have h3 := hu x v c
          have h4 := hs x c
          have : s x c ≤ s x v := by omega
          omega
        · omega)
    have h1 := g3 v (hU v hv) (hC v hv)
    have h2 := hle v hv
    simp only [FV]
    omega
theorem FV_snoc : ∀ (l V : List Nat) (k : Nat), FV w s V (l ++ [k]) = FV w s V l + (w k - cost s (l.reverse ++ V) k)
  | [], V, k => by simp [FV]
  | a :: l, V, k => by
    simp only [List.cons_append, FV]
    rw [FV_snoc l (a :: V) k, List.reverse_cons, List.append_assoc]
    simp only [List.cons_append, List.nil_append]
    omega
theorem FV_push (l : List Nat) (k : Nat) : FV w s [] (l ++ [k]) = FV w s [] l + (w k - cost s l k) := by
  rw [FV_snoc, List.append_nil, cost_perm s (List.reverse_perm l)]
theorem greedy_snoc {U : List Nat} : ∀ (cs C : List Nat) (k : Nat), GreedyFrom w s U C cs → k ∈ U → k ∉ cs → k ∉ C → (∀ j ∈ U, j ∉ cs → j ∉ C → w j - cost s (cs.reverse ++ C) j ≤ w k - cost s (cs.reverse ++ C) k) → GreedyFrom w s U C (cs ++ [k])
  | [], C, k, _, h1, _, h3, h4 => ⟨h1, h3, fun j hj hn => by simpa using h4 j hj (by simp) hn, trivial⟩
  | c :: cs, C, k, hg, h1, h2, h3, h4 => by
    obtain ⟨g1, g2, g3, g4⟩ := hg
    refine ⟨g1, g2, g3, greedy_snoc cs (c :: C) k g4 h1 (fun h => h2 (.tail _ h)) (fun h => ?_) fun j hj hn hn2 => ?_⟩
    · rcases List.mem_cons.mp h with rfl | h
      · exact h2 (.head _)
      · exact h3 h
    · have h5 := h4 j hj (fun h => by
        rcases List.mem_cons.mp h with rfl | h
        · exact hn2 (.head _)
        · exact hn h) (fun h => hn2 (.tail _ h))
      simpa using h5
theorem greedy_push {U cs : List Nat} {k : Nat} (hg : GreedyFrom w s U [] cs) (h1 : k ∈ U) (h2 : k ∉ cs) (h4 : ∀ j ∈ U, j ∉ cs → w j - cost s cs j ≤ w k - cost s cs k) : GreedyFrom w s U [] (cs ++ [k]) :=
  greedy_snoc w s cs [] k hg h1 h2 (by simp) fun j hj hn _ => by
    rw [List.append_nil, cost_perm s (List.reverse_perm cs), cost_perm s (List.reverse_perm cs)]; exact h4 j hj hn
theorem greedy_take {U : List Nat} : ∀ (cs C : List Nat) (n : Nat), GreedyFrom w s U C cs → GreedyFrom w s U C (cs.take n)
  | [], C, n, _ => by simp [GreedyFrom]
  | c :: cs, C, 0, _ => trivial
  | c :: cs, C, n + 1, hg => ⟨hg.1, hg.2.1, hg.2.2.1, greedy_take cs (c :: C) n hg.2.2.2⟩
theorem greedy_mem {U : List Nat} : ∀ (cs C : List Nat), GreedyFrom w s U C cs → ∀ x ∈ cs, x ∈ U ∧ x ∉ C
  | c :: cs, C, hg, x, hx => by
    rcases List.mem_cons.mp hx with rfl | hx
    · exact ⟨hg.1, hg.2.1⟩
    · have := greedy_mem cs (c :: C) hg.2.2.2 x hx
      exact ⟨this.1, fun h => this.2 (.tail _ h)⟩
theorem greedy_nodup {U : List Nat} : ∀ (cs C : List Nat), GreedyFrom w s U C cs → cs.Nodup
  | [], _, _ => List.nodup_nil
  | c :: cs, C, hg => List.nodup_cons.mpr ⟨fun h => (greedy_mem w s cs (c :: C) hg.2.2.2 c h).2 (.head _), greedy_nodup cs (c :: C) hg.2.2.2⟩
/-- the choices as the program builds them -/
def choice : Nat → List (List Nat × Int)
  | 0 => [([], 0)]
  | k + 1 => choice k ++ (choice k).map fun p => (p.1 ++ [k], p.2 + w k - (p.1.map (s k)).sum)
theorem choice_val : ∀ (n : Nat), ∀ p ∈ choice w s n, p.2 = FV w s [] p.1 ∧ p.1.Nodup ∧ ∀ x ∈ p.1, x < n
  | 0, p, hp => by
    simp only [choice, List.mem_singleton] at hp
    subst hp
    exact ⟨rfl, List.nodup_nil, fun x hx => nomatch hx⟩
  | n + 1, p, hp => by
    simp only [choice, List.mem_append, List.mem_map] at hp
    rcases hp with hp | ⟨q, hq, rfl⟩
    · obtain ⟨h1, h2, h3⟩ := choice_val n p hp
      exact ⟨h1, h2, fun x hx => Nat.lt_succ_of_lt (h3 x hx)⟩
    · obtain ⟨h1, h2, h3⟩ := choice_val n q hq
      refine ⟨?_, ?_, fun x hx => ?_⟩
      · show q.2 + w n - (q.1.map (s n)).sum = FV w s [] (q.1 ++ [n])
        rw [FV_push, h1]; unfold cost; omega
      · show (q.1 ++ [n]).Nodup
        refine List.nodup_append.mpr ⟨h2, by simp, fun a ha b hb => ?_⟩
        rw [List.mem_singleton.mp hb]
        exact Nat.ne_of_lt (h3 a ha)
      · rcases List.mem_append.mp hx with hx | hx
        · exact Nat.lt_succ_of_lt (h3 x hx)
        · rw [List.mem_singleton.mp hx]; exact Nat.lt_succ_self _
theorem choice_has (p : Nat → Bool) : ∀ n : Nat, ∃ v, ((List.range n).filter p, v) ∈ choice w s n
  | 0 => ⟨0, by simp [choice]⟩
  | n + 1 => by
    obtain ⟨v, hv⟩ := choice_has p n
    rw [List.range_succ, List.filter_append]
    cases h : p n with
    | false =>
      have e : List.filter p [n] = [] := by simp [h]
      rw [e, List.append_nil]
      exact ⟨v, by simp only [choice, List.mem_append]; exact .inl hv⟩
    | true =>
      have e : List.filter p [n] = [n] := by simp [h]
      rw [e]
      exact ⟨_, by simp only [choice, List.mem_append, List.mem_map]; exact .inr ⟨_, hv, rfl⟩⟩
def IsMax (l : List Int) (m : Int) : Prop := m ∈ l ∧ ∀ x ∈ l, x ≤ m
theorem IsMax.unique {l : List Int} {a b : Int} (ha : IsMax l a) (hb : IsMax l b) : a = b := Int.le_antisymm (hb.2 a ha.1) (ha.2 b hb.1)
/-- the plain law -/
theorem greedy_is_most (hs : ∀ a b, s a b = s b a) (hu : ∀ a b c, min (s a c) (s c b) ≤ s a b) {n : Nat} {cs : List Nat} (hg : GreedyFrom w s (List.range n) [] cs) {c : Nat} (hc : c ≤ cs.length) :
    IsMax (((choice w s n).filter fun p => p.1.length == c).map (·.2)) (FV w s [] (cs.take c)) := by
  have hlen : (cs.take c).length = c := by rw [List.length_take]; omega
  have hnd : (cs.take c).Nodup := greedy_nodup w s _ [] (greedy_take w s cs [] c hg)
  refine ⟨?_, fun x hx => ?_⟩
  · obtain ⟨v, hv⟩ := choice_has w s (fun x => decide (x ∈ cs.take c)) n
    have hperm : ((List.range n).filter fun x => decide (x ∈ cs.take c)).Perm (cs.take c) := by
      refine (List.perm_ext_iff_of_nodup (List.nodup_range.filter _) hnd).mpr fun x => ?_
      simp only [List.mem_filter, decide_eq_true_eq]
      refine ⟨fun h => h.2, fun h => ⟨?_, h⟩⟩
      exact (greedy_mem w s _ [] (greedy_take w s cs [] c hg) x h).1
    have h1 := (choice_val w s n _ hv).1
    have h2 := FV_perm w s hs hperm []
    refine List.mem_map.mpr ⟨_, List.mem_filter.mpr ⟨hv, ?_⟩, ?_⟩
    · simp only [beq_iff_eq]; rw [hperm.length_eq, hlen]
    · show v = _
      rw [← h2]; exact h1
  · obtain ⟨p, hp, rfl⟩ := List.mem_map.mp hx
    obtain ⟨hp, hq⟩ := List.mem_filter.mp hp
    obtain ⟨h1, h2, h3⟩ := choice_val w s n p hp
    have hq' : p.1.length = c := by simpa using hq
    show p.2 ≤ _
    rw [h1]
    exact greedy_best w s hs hu (cs.take c) [] [] p.1 (greedy_take w s cs [] c hg) h2 (fun x hx => List.mem_range.mpr (h3 x hx)) (fun x _ => by simp) (by rw [hlen, hq']) (fun x _ => Int.le_refl _)
end greedy
end Mine
end
section
open PySem PySem.W PyProof.Rows PySem.Calls PySem.Spec
set_option Elab.async false
set_option maxRecDepth 100000
set_option maxHeartbeats 8000000
set_option linter.unusedVariables false
namespace Mine
theorem fillY_ (w : World) (h : Heap) : (Head.hc.heap_39 w.params).In h → PySem.Challenge.rw_zo0024_01.row.prog = PySem.Challenge.rw_zo0024_01.row.prog := by k_fill; intro _; w_top off; rfl
local macro_rules | `(tactic| walk_at "getMethod bytes") => `(tactic| (refine getMethod_builtin (typeIs_bytes _ _ _) FB.plainAttrs_bytes BY.slot_join BY.type_join (fun _ e => nomatch e) ?_))
local macro_rules | `(tactic| walk_at "call builtin:bytes.join") => `(tactic| ((rename News _ _ _ _ => N9); (refine by_join (N9 _ (.head _)).1 (by assumption) (by assumption) (by omega) (by omega) ?_); intro t9 k9))
set_option pp.deepTerms.threshold 8
theorem segL {w : World} {p : Program} {loose : List PySem.Str} {mean : ExcName → Option Value} {mg mb : PySem.Str → Option Value} {s : Shared} {Q : Flow → Shared → Prop} {E : Value → Shared → Prop} {h₀ : Heap} {L : Addr} {m : PySem.Str → Option Value}
  {aT aW aP : Addr} {vT vW vP : List Value} {bs : List (Array UInt8)} {o1 o2 : Obj} (B : Below callerA h₀ [] h₀) (X : (Head.hc.heap_39 w.params).In h₀) (T : Top p loose mean mg mb h₀)
  (hP : BysAre vP bs) (h5 : bs.length = 5) (h20 : (Builtin.Bytes.joined #[] bs).size = 20) (hy : bs.foldl (· + ·.size) 0 = 20) (hd2 : o2.data = .cell none) (F : Fr h₀ L s.heap (kstB m [(PySem.Str.ofString "tails", .ref aT), (PySem.Str.ofString "worth", .ref aW), (PySem.Str.ofString "words", .ref aP)]))
  (N : News h₀ L s.heap [(aP, W.listOf vP.toArray vP.length), (aT, W.listOf vT.toArray vT.length), (aW, W.listOf vW.toArray vW.length), (L + 1 + 1, o1), (L + 1, o2)])
  (hcont : ∀ h' tk' m' o2' t', Fr h₀ L h' (kstB m' [(PySem.Str.ofString "tails", .ref aT), (PySem.Str.ofString "worth", .ref aW), (PySem.Str.ofString "words", .ref aP)]) →
    News h₀ L h' [(aP, W.listOf vP.toArray vP.length), (aT, W.listOf vT.toArray vT.length), (aW, W.listOf vW.toArray vW.length), (L + 1 + 1, o1), (L + 1, o2')] →
    o2'.data = .cell (some (.bytes (swp (Builtin.Bytes.joined #[] bs)) t')) → Q .next { s with heap := h', toks := tk' }) :
  wpC (model PrgW w) (callerA.deeper (lawEnv L)) (execs ((lawDef.1.drop 4).take 1) (lawEnv L)) Q E s := by
  dsimp only [lawEnv, lawDef, lastOf, lawDefOf, PySem.Challenge.pw_zo0024_01]
  simp only [List.take_succ_cons, List.take_zero, List.drop_succ_cons, List.drop_zero]
  refine wpC_execs_cons (wpC_Assign_Name (wpC_Call_Name2 ?_))
  walk1
  refine wpC_callWith_fn2 ?_
  k_steps
  refine ⟨⟨_, _, (X.keeps F.keep) _ _ (by k_is), rfl⟩, ?_⟩
  k_dflt (refine' Mine.byteswap ?W ?d ?u ?z ?_; (case W => exact At.of (by assumption) (by assumption) (by assumption) (by assumption) rfl rfl rfl); (case d => ktr_room); (case u => ktr_units); (case z => assumption))
  intro t9 h9 k9 kk9
  replace F := Fr.after F kk9
  rename News _ _ _ _ => N
  replace N := newsAfter N kk9
  have n2 := N (L + 1, o2) (by simp)
  have dl : ∀ {b : Addr} {xs : Array Value} {k : Nat}, h9.get? b = some (W.listOf xs k) → b ≠ L + 1 := fun {b xs k} e q => by
    rw [q, n2.1] at e
    have := congrArg Obj.data (Option.some.inj e)
    rw [hd2] at this; cases this
  refine wpAny_storeName_cell rfl rfl (by rfl) ⟨o2, n2.1, hd2⟩ fun h' hv hs => ?_
  obtain ⟨o2', e2', d2'⟩ := hv
  refine wpC_of_any ?_
  show wpAny _ _ (execs [] _) _ _ _
  refine wpAny_execs_nil ?_
  refine hcont _ _ _ o2' _ (Fr.put F n2.2.1 n2.2.2 (fun c hc => hs.2 c hc)) ?_ d2'
  have nP := N _ (List.Mem.head _)
  have nT := N _ (List.Mem.tail _ (List.Mem.head _))
  have nW := N _ (List.Mem.tail _ (List.Mem.tail _ (List.Mem.head _)))
  have n1 := N _ (List.Mem.tail _ (List.Mem.tail _ (List.Mem.tail _ (List.Mem.head _))))
  refine List.forall_mem_cons.mpr ⟨⟨(hs.2 _ (dl nP.1)).trans nP.1, nP.2⟩, List.forall_mem_cons.mpr ⟨⟨(hs.2 _ (dl nT.1)).trans nT.1, nT.2⟩, List.forall_mem_cons.mpr ⟨⟨(hs.2 _ (dl nW.1)).trans nW.1, nW.2⟩, List.forall_mem_cons.mpr ⟨⟨(hs.2 _ (Nat.succ_ne_self _)).trans n1.1, n1.2⟩, List.forall_mem_cons.mpr ⟨⟨e2', n2.2⟩, List.forall_mem_nil _⟩⟩⟩⟩⟩
end Mine
end
local macro_rules | `(tactic| k_steps) => `(tactic| repeat' (first | (k_unfold; (try dsimp only)) | walk1 | (dsimp only; walk1) | (leave1; walk_say "STEP leave1"; (try dsimp only)) | fail "no step"))
section
open PySem PySem.W PyProof.Rows PySem.Calls PySem.Spec
set_option Elab.async false
set_option maxRecDepth 100000
set_option maxHeartbeats 8000000
set_option linter.unusedVariables false
namespace Mine
theorem fillNC_ (w : World) (h : Heap) : (Head.hc.heap_39 w.params).In h → PySem.Challenge.rw_zo0024_01.row.prog = PySem.Challenge.rw_zo0024_01.row.prog := by k_fill; intro _; w_top off; rfl
local macro_rules | `(tactic| walk_at "eval ListComp") => `(tactic| ((rename Fr _ _ _ _ => F9); k_dflt (refine my_CompBytes F9 (by rfl) (by decide) rfl (by decide) rfl ?_)))
theorem StrsAre.snoc {vs : List Value} {ns : List PySem.Str} (h : StrsAre vs ns) (n : PySem.Str) (t : Tok) : StrsAre (vs ++ [.str n t]) (ns ++ [n]) := by
  induction h with
  | nil => exact .cons n t .nil
  | cons a b _ ih => exact .cons a b ih
local macro_rules | `(tactic| walk_at "call builtin:chr") => `(tactic| (refine chr_of_range (by omega) (by omega) ?_))
theorem host_size (a b c d : Nat) : (⟨#[a, 46, b, 46, c, 46, d]⟩ : PySem.Str).length + (PySem.Str.ofString ".local").length ≤ sizeLine := by
  have h6 : (PySem.Str.ofString ".local").length = 6 := by decide
  have h7 : (⟨#[a, 46, b, 46, c, 46, d]⟩ : PySem.Str).length = 7 := rfl
  rw [h6, h7, sizeLine_eq]
  omega
theorem ones_sum (l : List UInt8) : ((l.map fun c => (⟨#[c.toNat]⟩ : PySem.Str)).map (·.length)).sum = l.length := by
  induction l with
  | nil => rfl
  | cons c l ih => show (1 + ((l.map fun c => (⟨#[c.toNat]⟩ : PySem.Str)).map (·.length)).sum) = _; rw [ih, List.length_cons]; omega
local macro_rules | `(tactic| walk_at "call builtin:str.join") => `(tactic| ((rename News _ _ _ _ => N9); (rename StrsAre _ _ => S9); k_dflt (refine join_listW (News.isList N9 (.head _)) (by exact S9) (by decide) (by assumption) ?_); intro t9 k9))
set_option pp.deepTerms.threshold 8
theorem hsum_of {wd : Array UInt8} (hw : wd.size = 4) : ((wd.toList.map fun c => (⟨#[c.toNat]⟩ : PySem.Str)).map (·.length)).sum + (wd.toList.map fun c => (⟨#[c.toNat]⟩ : PySem.Str)).length ≤ 1048576 := by
  rw [ones_sum, List.length_map, Array.length_toList, hw]; decide
theorem four_of {wd : Array UInt8} (hw : wd.size = 4) : ∃ c0 c1 c2 c3, wd = #[c0, c1, c2, c3] := by
  obtain ⟨l⟩ := wd
  match l, hw with
  | [c0, c1, c2, c3], _ => exact ⟨c0, c1, c2, c3, rfl⟩
theorem join_of {wd : Array UInt8} {c0 c1 c2 c3 : UInt8} (hwd : wd = #[c0, c1, c2, c3]) : Txt.join (PySem.Str.ofString ".") (wd.toList.map fun c => (⟨#[c.toNat]⟩ : PySem.Str)) = ⟨#[c0.toNat, 46, c1.toNat, 46, c2.toNat, 46, c3.toNat]⟩ := by
  rw [hwd]
  rfl
def hostOf (wd : Array UInt8) : PySem.Str := Txt.join (PySem.Str.ofString ".") (wd.toList.map fun c => (⟨#[c.toNat]⟩ : PySem.Str)) ++ PySem.Str.ofString ".local"
/-- one turn of the ladders' loop: the host's name -/
theorem segHost {w : World} {p : Program} {loose : List PySem.Str} {mean : ExcName → Option Value} {mg mb : PySem.Str → Option Value} {s : Shared} {Q : Flow → Shared → Prop} {E : Value → Shared → Prop} {h₀ : Heap} {L : Addr} {m : PySem.Str → Option Value} {led : List (Addr × Obj)}
  {aL : Addr} {oL : Obj} {wd : Array UInt8} {t0 : Tok} (B : Below callerA h₀ [] h₀) (X : (Head.hc.heap_39 w.params).In h₀) (T : Top p loose mean mg mb h₀)
  (hw : wd.size = 4) (F : Fr h₀ L s.heap (kstB m [(PySem.Str.ofString "word", .bytes wd t0), (PySem.Str.ofString "ladders", .ref aL)]))
  (N : News h₀ L s.heap ((aL, oL) :: led))
  (hcont : ∀ h' tk' m' t', (∀ z, z ≠ PySem.Str.ofString "host" → m' z = kstB m [(PySem.Str.ofString "word", .bytes wd t0), (PySem.Str.ofString "ladders", .ref aL)] z) → Fr h₀ L h' (kstB m' [(PySem.Str.ofString "word", .bytes wd t0), (PySem.Str.ofString "ladders", .ref aL), (PySem.Str.ofString "host", .str (hostOf wd) t')]) →
    News h₀ L h' ((aL, oL) :: led) → Q .next { s with heap := h', toks := tk' })
  (body : List Stmt) (hbody : (match lawDef.1.drop 7 with | .For _ _ b _ _ :: _ => b | _ => []) = body) :
  wpAny (model PrgW w) (callerA.deeper (lawEnv L)) (execs (body.take 1) (lawEnv L)) Q E s := by
  subst hbody
  replace hcont := Hold.mk hcont
  dsimp only [lawEnv, lawDef, lastOf, lawDefOf, PySem.Challenge.pw_zo0024_01]
  simp only [List.take_succ_cons, List.take_zero, List.drop_succ_cons, List.drop_zero]
  k_steps
  rename Fr _ _ _ _ => F
  refine ⟨wd, t0, _, rfl, rfl, F, N, by rw [sizeLine_eq]; omega, fun g => ?_⟩
  refine compBy (n := wd.size) (fun i ys => StrsAre ys ((wd.toList.take i).map fun c => (⟨#[c.toNat]⟩ : PySem.Str))) trivial ?turn ?done wd.size 0 [] (Nat.zero_add _) .nil
  case turn =>
    intro i ys v I oI C oC D m₂ h tk E' hi hv hy hC hx2 F1 N1 off ne
    obtain ⟨c, u, hc, rfl⟩ := hv
    have hc8 : c.toNat < 256 := c.toNat_lt
    have hs : (wd.toList.take (i + 1)).map (fun c => (⟨#[c.toNat]⟩ : PySem.Str)) = (wd.toList.take i).map (fun c => (⟨#[c.toNat]⟩ : PySem.Str)) ++ [⟨#[c.toNat]⟩] := by
      rw [List.take_add_one, Array.getElem?_toList, hc]; simp
    rw [hs]
    clear F N
    k_steps
    rename Fr _ _ _ _ => F9
    rename News _ _ _ _ => N9
    refine compTo F9 N9 (fun p hp => hp) ?_
    exact StrsAre.snoc hy _ _
  case done =>
    intro ys hy D h' tk' F9 N9 o9
    rw [List.take_of_length_le (by simp)] at hy
    clear F N
    have hsum := hsum_of hw
    obtain ⟨c0, c1, c2, c3, hwd⟩ := four_of hw
    have hj := join_of hwd
    k_steps
    rw [hj]
    refine PyProof.Rows.add_str (fun t9 k9 => ?_) (host_size _ _ _ _)
    k_steps
    have hh : hostOf wd = (⟨#[c0.toNat, 46, c1.toNat, 46, c2.toNat, 46, c3.toNat]⟩ : PySem.Str) ++ PySem.Str.ofString ".local" := by unfold hostOf; rw [hj]
    rename Fr _ _ _ _ => F8
    rename News _ _ _ _ => N8
    unfold Hold at hcont
    rw [hh] at hcont
    exact hcont _ _ _ _ (fun z hz => if_neg hz) (Fr.named F8 [(PySem.Str.ofString "word", .bytes wd t0), (PySem.Str.ofString "ladders", .ref aL), (PySem.Str.ofString "host", .str ((⟨#[c0.toNat, 46, c1.toNat, 46, c2.toNat, 46, c3.toNat]⟩ : PySem.Str) ++ PySem.Str.ofString ".local") _)] (List.forall_mem_cons.mpr ⟨by rfl, List.forall_mem_cons.mpr ⟨by rfl, List.forall_mem_cons.mpr ⟨by rfl, List.forall_mem_nil _⟩⟩⟩)) (fun p hp => N8 p (.tail _ hp))
end Mine
end
section
open PySem PySem.W PyProof.Rows PySem.Calls PySem.Spec
set_option Elab.async false
set_option maxRecDepth 100000
set_option maxHeartbeats 8000000
set_option linter.unusedVariables false
namespace Mine
/-! plain facts about words, heads and rungs -/
def goF : Nat → Nat → List UInt8 → List UInt8
  | 0, _, v => v
  | f + 1, n, v => if n = 0 then v else goF f (n / 16) (apL.getD (n % 16) 0 :: v)
theorem goAP_fuel : ∀ (f n : Nat) (v : List UInt8), n < 16 ^ f → goAP n v = goF f n v
  | 0, n, v, h => by
    have : n = 0 := by simpa using h
    subst this; rw [goAP, dif_pos rfl]; rfl
  | f + 1, n, v, h => by
    rw [goAP]
    by_cases q : n = 0
    · rw [dif_pos q]; simp [goF, q]
    · rw [dif_neg q]
      have h2 : n / 16 < 16 ^ f := by
        rw [Nat.div_lt_iff_lt_mul (by decide)]; rw [Nat.pow_succ] at h; exact h
      rw [goAP_fuel f _ _ h2]; simp [goF, q]
def let8 (d : Nat) : UInt8 := if d = 0 then 65 else if d = 1 then 72 else 79
theorem let_of (d : Nat) : Let (let8 d).toNat := by
  unfold let8
  split
  · exact .a
  split
  · exact .h
  · exact .o
def d0 (x : Nat) : Nat := x % 3
def d1 (x : Nat) : Nat := x / 3 % 3
def d2 (x : Nat) : Nat := x / 9
theorem of27 {x : Int} (h0 : 0 ≤ x) (h1 : x < 27) : ∃ k : Fin 27, x = (k.val : Int) := ⟨⟨x.toNat, by omega⟩, by simp; omega⟩
theorem word_fin : ∀ k : Fin 27, (goF 4 (apArg (k.val : Int)).natAbs []).toArray = #[66, let8 (d2 k.val), let8 (d1 k.val), let8 (d0 k.val)] := by decide +kernel
theorem word_eq {x : Nat} (h : x < 27) : wordOf (x : Int) = #[66, let8 (d2 x), let8 (d1 x), let8 (d0 x)] := by
  unfold wordOf
  rw [goAP_fuel 4 _ _ (by have := ap_bound (x := (x : Int)) (by omega) (by omega); omega)]
  exact word_fin ⟨x, h⟩
theorem host_eq {x : Nat} (h : x < 27) : hostOf (wordOf (x : Int)) = sfx 4 (let8 (d2 x)).toNat (let8 (d1 x)).toNat (let8 (d0 x)).toNat := by
  rw [word_eq h]; rfl
abbrev rungs4 (x : Nat) : List PySem.Str := [sfx 3 (let8 (d2 x)).toNat (let8 (d1 x)).toNat (let8 (d0 x)).toNat, sfx 2 0 (let8 (d1 x)).toNat (let8 (d0 x)).toNat, sfx 1 0 0 (let8 (d0 x)).toNat, sfx 0 0 0 0]
theorem host_ladder {x : Nat} (h : x < 27) : Ladder (hostOf (wordOf (x : Int))) (rungs4 x) := by
  rw [host_eq h]; exact ladder4 (let_of _) (let_of _) (let_of _)
theorem word_size {x : Nat} (h : x < 27) : (wordOf (x : Int)).size = 4 := by rw [word_eq h]; rfl
/-- the host's ends -/
theorem host_ends {a b c : Nat} (ha : Let a) (hb : Let b) (hc : Let c) : dots [sfx 3 a b c, sfx 2 0 b c, sfx 1 0 0 c, sfx 0 0 0 0] =
    [Txt.slice (sfx 4 a b c) (some 1) none, Txt.slice (sfx 4 a b c) (some 3) none, Txt.slice (sfx 4 a b c) (some 5) none, Txt.slice (sfx 4 a b c) (some 7) none] := by
  cases ha <;> cases hb <;> cases hc <;> decide +kernel
/-! heads -/
def headS (k : Nat) : Array UInt8 := #[let8 (k / 9), let8 (k / 3 % 3), let8 (k % 3), 66]
def hk (x : Nat) : Nat := 9 * d0 x + 3 * d1 x + d2 x
theorem hk_lt {x : Nat} (h : x < 27) : hk x < 27 := by unfold hk d0 d1 d2; omega
theorem head_fin : ∀ k : Fin 27, headS (hk k.val) = #[let8 (d0 k.val), let8 (d1 k.val), let8 (d2 k.val), 66] := by decide +kernel
theorem head_of {x : Nat} (h : x < 27) : headS (hk x) = #[let8 (d0 x), let8 (d1 x), let8 (d2 x), 66] := head_fin ⟨x, h⟩
theorem heads_raw (a0 b0 c0 a1 b1 c1 a2 b2 c2 a3 b3 c3 a4 b4 c4 : UInt8) :
    (List.range 5).map (fun (k : Nat) => headOf (swp (Builtin.Bytes.joined #[] [#[66, a0, b0, c0], #[66, a1, b1, c1], #[66, a2, b2, c2], #[66, a3, b3, c3], #[66, a4, b4, c4]])) (k : Int)) =
      [#[c0, b0, a0, 66], #[c1, b1, a1, 66], #[c2, b2, a2, 66], #[c3, b3, a3, 66], #[c4, b4, a4, 66]] := by kernel_rfl
theorem five_nat {ts : List Int} (h5 : ts.length = 5) (hts : ∀ x ∈ ts, 0 ≤ x ∧ x < 27) : ∃ x0 x1 x2 x3 x4 : Nat, ts = [(x0 : Int), (x1 : Int), (x2 : Int), (x3 : Int), (x4 : Int)] ∧ x0 < 27 ∧ x1 < 27 ∧ x2 < 27 ∧ x3 < 27 ∧ x4 < 27 := by
  obtain ⟨a, b, c, d, e, rfl⟩ := five h5
  have ha := hts a (by simp); have hb := hts b (by simp); have hc := hts c (by simp); have hd := hts d (by simp); have he := hts e (by simp)
  refine ⟨a.toNat, b.toNat, c.toNat, d.toNat, e.toNat, ?_, by omega, by omega, by omega, by omega, by omega⟩
  rw [Int.toNat_of_nonneg ha.1, Int.toNat_of_nonneg hb.1, Int.toNat_of_nonneg hc.1, Int.toNat_of_nonneg hd.1, Int.toNat_of_nonneg he.1]
theorem heads_eq {ts : List Int} (h5 : ts.length = 5) (hts : ∀ x ∈ ts, 0 ≤ x ∧ x < 27) :
    (List.range 5).map (fun (k : Nat) => headOf (swp (Builtin.Bytes.joined #[] (ts.map wordOf))) (k : Int)) = ts.map fun x => headS (hk x.toNat) := by
  obtain ⟨x0, x1, x2, x3, x4, rfl, g0, g1, g2, g3, g4⟩ := five_nat h5 hts
  simp only [List.map_cons, List.map_nil]
  rw [word_eq g0, word_eq g1, word_eq g2, word_eq g3, word_eq g4]
  simp only [Int.toNat_natCast]
  rw [head_of g0, head_of g1, head_of g2, head_of g3, head_of g4]
  exact heads_raw ..
theorem joined_raw (a0 b0 c0 a1 b1 c1 a2 b2 c2 a3 b3 c3 a4 b4 c4 : UInt8) :
    Builtin.Bytes.joined #[] [#[66, a0, b0, c0], #[66, a1, b1, c1], #[66, a2, b2, c2], #[66, a3, b3, c3], #[66, a4, b4, c4]] =
      #[66, a0, b0, c0, 66, a1, b1, c1, 66, a2, b2, c2, 66, a3, b3, c3, 66, a4, b4, c4] := by kernel_rfl
theorem joined_size {ts : List Int} (h5 : ts.length = 5) (hts : ∀ x ∈ ts, 0 ≤ x ∧ x < 27) : (Builtin.Bytes.joined #[] (ts.map wordOf)).size = 20 := by
  obtain ⟨x0, x1, x2, x3, x4, rfl, g0, g1, g2, g3, g4⟩ := five_nat h5 hts
  simp only [List.map_cons, List.map_nil]
  rw [word_eq g0, word_eq g1, word_eq g2, word_eq g3, word_eq g4, joined_raw]
  rfl
theorem words_size {ts : List Int} (h5 : ts.length = 5) (hts : ∀ x ∈ ts, 0 ≤ x ∧ x < 27) : (ts.map wordOf).foldl (· + ·.size) 0 = 20 := by
  obtain ⟨x0, x1, x2, x3, x4, rfl, g0, g1, g2, g3, g4⟩ := five_nat h5 hts
  simp only [List.map_cons, List.map_nil]
  rw [word_eq g0, word_eq g1, word_eq g2, word_eq g3, word_eq g4]
  rfl
/-! the heads' order -/
def lo1 (n k : Nat) : Nat := k / 3 ^ (3 - n) * 3 ^ (3 - n)
def hi1 (n k : Nat) : Nat := lo1 n k + 3 ^ (3 - n)
def pre (n k : Nat) : Array UInt8 := (headS k).extract 0 n
theorem cmp_head : ∀ a b : Fin 27, decide (bnat (headS a.val) < bnat (headS b.val)) = decide (a.val < b.val) := by decide +kernel
theorem cmp_lo : ∀ (n : Fin 3) (a b : Fin 27), decide (bnat (headS a.val) < bnat (pre (n.val + 1) b.val)) = decide (a.val < lo1 (n.val + 1) b.val) := by decide +kernel
theorem cmp_hi : ∀ (n : Fin 3) (a b : Fin 27), decide (bnat (headS a.val) < bnat (pre (n.val + 1) b.val ++ #[81])) = decide (a.val < hi1 (n.val + 1) b.val) := by decide +kernel
def near (n k j : Nat) : Nat := if lo1 n k ≤ j ∧ j < hi1 n k then 1 else 0
theorem near_sum : ∀ a b : Fin 27, ((1 + near 1 (hk a.val) (hk b.val) + near 2 (hk a.val) (hk b.val) + near 3 (hk a.val) (hk b.val) : Nat) : Int) = sh (a.val : Int) (b.val : Int) := by decide +kernel
/-! the rungs' order -/
def gS (k : Nat) : PySem.Str := PySem.Str.ofString "." ++
  (if k / 64 = 3 then sfx 0 0 0 0 else if k / 16 % 4 = 3 then sfx 1 0 0 (let8 (k / 64)).toNat else if k / 4 % 4 = 3 then sfx 2 0 (let8 (k / 64)).toNat (let8 (k / 16 % 4)).toNat
    else sfx 3 (let8 (k / 64)).toNat (let8 (k / 16 % 4)).toNat (let8 (k / 4 % 4)).toNat)
def gkeys (x : Nat) : List Nat := [64 * d2 x + 16 * d1 x + 4 * d0 x + 3, 64 * d1 x + 16 * d0 x + 12, 64 * d0 x + 48, 192]
theorem gkeys_fin : ∀ k : Fin 27, dots (rungs4 k.val) = (gkeys k.val).map gS := by decide +kernel
def allG : List Nat := (List.range 27).flatMap gkeys
theorem cmp_rung : ∀ a : Fin 27, ∀ b : Fin 27, ∀ p ∈ gkeys a.val, ∀ q ∈ gkeys b.val, decide ((gS p).cps.toList < (gS q).cps.toList) = decide (p < q) := by decide +kernel
theorem rung_sum : ∀ a b : Fin 27, (((gkeys a.val).map fun p => (gkeys b.val).count p).sum : Int) = sh (a.val : Int) (b.val : Int) := by decide +kernel
theorem sh_symm (a b : Int) : sh a b = sh b a := by
  unfold sh
  by_cases h1 : a.fmod 3 = b.fmod 3
  · by_cases h2 : a.fmod 9 = b.fmod 9
    · by_cases h3 : a.fmod 27 = b.fmod 27
      · simp [h1, h2, h3]
      · simp [h1, h2, h3, Ne.symm h3]
    · simp [h1, h2, Ne.symm h2]
  · simp [h1, Ne.symm h1]
theorem sh_ultra (a b c : Int) : min (sh a c) (sh c b) ≤ sh a b := by
  unfold sh
  by_cases h1 : a.fmod 3 = c.fmod 3 <;> by_cases h2 : a.fmod 9 = c.fmod 9 <;> by_cases h3 : a.fmod 27 = c.fmod 27 <;>
  by_cases g1 : c.fmod 3 = b.fmod 3 <;> by_cases g2 : c.fmod 9 = b.fmod 9 <;> by_cases g3 : c.fmod 27 = b.fmod 27 <;> simp only [h1, h2, h3, g1, g2, g3, if_true, if_false] <;> (try split) <;> (try split) <;> (try split) <;> (first | decide | (exfalso; omega) | omega)
end Mine
end
section
open PySem PySem.W PyProof.Rows PySem.Calls PySem.Spec
set_option Elab.async false
set_option maxRecDepth 100000
set_option maxHeartbeats 8000000
set_option linter.unusedVariables false
namespace Mine
theorem fillND_ (w : World) (h : Heap) : (Head.hc.heap_39 w.params).In h → PySem.Challenge.rw_zo0024_01.row.prog = PySem.Challenge.rw_zo0024_01.row.prog := by k_fill; intro _; w_top off; rfl
def Ends (host : PySem.Str) (bs : List PySem.Str) : Prop := dots bs = [Txt.slice host (some 1) none, Txt.slice host (some 3) none, Txt.slice host (some 5) none, Txt.slice host (some 7) none]
theorem hends_of {host : PySem.Str} {bs : List PySem.Str} (h : Ends host bs) : dots bs = [Txt.slice host (some 1) none, Txt.slice host (some 3) none, Txt.slice host (some 5) none, Txt.slice host (some 7) none] := h
theorem dropSwap {h₀ h : Heap} {L : Addr} {x a b : Addr × Obj} {led : List (Addr × Obj)} (N : News h₀ L h (x :: a :: b :: led)) : News h₀ L h (b :: a :: led) := fun p hp => by
  rcases List.mem_cons.mp hp with rfl | hp
  · exact N _ (.tail _ (.tail _ (.head _)))
  rcases List.mem_cons.mp hp with rfl | hp
  · exact N _ (.tail _ (.head _))
  · exact N _ (.tail _ (.tail _ (.tail _ hp)))
theorem ne9_of {aL D : Addr} {o : Obj} {led : List (Addr × Obj)} (h : ∀ p ∈ (aL, o) :: led, p.1 ≠ D) : aL ≠ D := h (aL, o) (.head _)
theorem newsD {h₀ h h' : Heap} {L D : Addr} {m : PySem.Str → Option Value} {news : List (Addr × Obj)} {xs : Array Value} {n : Nat} (F : Fr h₀ L h m) (N : News h₀ L h news) (k : ∀ b o, h.get? b = some o → h'.get? b = some o)
    (hn : h.get? D = none) (ho : h'.get? D = some (listOf xs n)) : News h₀ L h' ((D, listOf xs n) :: news) ∧ ∀ p ∈ news, p.1 ≠ D := by
  refine ⟨News.more (Fr.after F k) (newsAfter N k) ho (fun es n e => nomatch e) ?_, fun p hp e => ?_⟩
  · cases e : h₀.get? D with
    | none => rfl
    | some o => rw [F.keep _ _ e] at hn; cases hn
  · have := (N p hp).1
    rw [e, hn] at this; cases this
local macro_rules | `(tactic| walk_at "call ref") => `(tactic| ((with_reducible show wpAny _ _ (call (Value.ref 107) [_]) _ _ _); k_dflt (refine' Mine.lawLadder ?W ?d ?u ?H ?l ?_; (case W => exact At.of (by assumption) (by assumption) (by assumption) (by assumption) rfl rfl rfl); (case d => ktr_room); (case u => ktr_units); (case H => assumption); (case l => assumption)); intro D9 vs9 n9 h9 tk9 k9 new9 at9 hS9; (rename Fr _ _ _ _ => F9); (rename News _ _ _ _ => N9); (obtain ⟨N9', ne9⟩ := newsD F9 N9 k9 new9 at9); (replace F9 := Fr.after F9 k9); clear k9 N9))
local macro_rules | `(tactic| walk_at "call builtin:list.append") => `(tactic| ((with_reducible show wpAny _ _ (call (Value.builtin _) [Value.ref _, _]) _ _ _); (rename Fr _ _ _ _ => F9); (rename News _ _ _ _ => N9); k_dflt (refine' append_K F9 N9 ?k3 ?_ ?z; (case k3 => exact Upd.tail (Ne.symm (ne9_of (by assumption))) (Upd.head (by assumption))); (case z => (rw [sizeLine_eq, List.size_toArray]; omega))); intro h9 F9' N9'; clear F9 N9))
local macro_rules | `(tactic| walk_at "subscriptTail") => `(tactic| ((with_reducible show wpAny _ _ (subscriptTail _ _ (Value.ref _) (Value.int _ _)) _ _ _); (rename News _ _ _ _ => N9); (refine item_last (News.isList N9 (.tail _ (.head _))) ?_)))
local macro_rules | `(tactic| walk_at "compareOp NotEq ref ref") => `(tactic| ((rename News _ _ _ _ => N9); (rename StrsAre _ _ => S9); k_dflt (refine ne_strs (News.isList N9 (.tail _ (.head _))) (News.isList N9 (.head _)) (by ktr_units) S9 (by (rw [hends_of (by assumption)]); exact .cons _ _ (.cons _ _ (.cons _ _ (.cons _ _ .nil)))) ?_)))
set_option pp.deepTerms.threshold 8
/-- one turn of the ladders' loop, behind the host's name -/
theorem segTurn2 {w : World} {p : Program} {loose : List PySem.Str} {mean : ExcName → Option Value} {mg mb : PySem.Str → Option Value} {s : Shared} {Q : Flow → Shared → Prop} {E : Value → Shared → Prop} {h₀ : Heap} {L : Addr} {m : PySem.Str → Option Value} {led : List (Addr × Obj)}
  {aL : Addr} {lv : List Value} {nn : Nat} {host : PySem.Str} {bs : List PySem.Str} {t0 : Tok} (B : Below callerA h₀ [] h₀) (X : (Head.hc.heap_39 w.params).In h₀) (T : Top p loose mean mg mb h₀)
  (hH : Ladder host bs) (hends : Ends host bs)
  (hbl : bs.length ≤ 4) (hlv : lv.length ≤ 60) (hoff : ∀ p ∈ led, p.1 ≠ aL)
  (F : Fr h₀ L s.heap (kstB m [(PySem.Str.ofString "host", .str host t0), (PySem.Str.ofString "ladders", .ref aL)]))
  (N : News h₀ L s.heap ((aL, listOf lv.toArray nn) :: led))
  (hcont : ∀ h' tk' D vs k n', Fr h₀ L h' (kstB m [(PySem.Str.ofString "host", .str host t0), (PySem.Str.ofString "ladders", .ref aL)]) →
    News h₀ L h' ((aL, listOf (lv ++ [Value.ref D]).toArray n') :: (D, listOf vs.toArray k) :: led) → StrsAre vs (dots bs) → D ≠ aL → (∀ p ∈ led, p.1 ≠ D) → Q .next { s with heap := h', toks := tk' })
  (body : List Stmt) (hbody : (match lawDef.1.drop 7 with | .For _ _ b _ _ :: _ => b | _ => []) = body) :
  wpAny (model PrgW w) (callerA.deeper (lawEnv L)) (execs (body.drop 1) (lawEnv L)) Q E s := by
  subst hbody
  have hxl := hH.len
  replace hcont := Hold.mk hcont
  dsimp only [lawEnv, lawDef, lastOf, lawDefOf, PySem.Challenge.pw_zo0024_01]
  simp only [List.take_succ_cons, List.take_zero, List.drop_succ_cons, List.drop_zero]
  k_steps
  (rename Fr _ _ _ _ => F9)
  (rename News _ _ _ _ => N9)
  (rename StrsAre _ _ => S9)
  (rename (∀ p ∈ (aL, _) :: led, _) => ne9)
  unfold Hold at hcont
  exact hcont _ _ _ _ _ _ F9 (dropSwap N9) S9 (Ne.symm (ne9_of ne9)) (fun p hp => ne9 p (.tail _ hp))
end Mine
end
section
open PySem PySem.W PyProof.Rows PySem.Calls PySem.Spec
set_option Elab.async false
set_option maxRecDepth 100000
set_option maxHeartbeats 8000000
set_option linter.unusedVariables false
namespace Mine
theorem fillNE_ (w : World) (h : Heap) : (Head.hc.heap_39 w.params).In h → PySem.Challenge.rw_zo0024_01.row.prog = PySem.Challenge.rw_zo0024_01.row.prog := by k_fill; intro _; w_top off; rfl
theorem my_ForF {prog : Program} {w : World} {A : Around} {E : Value → Shared → Prop} {s : Shared} {env : Env} {h₀ : Heap} {x : PySem.Str} {body : List Stmt} {Q : Flow → Shared → Prop} {px pos : Pos} {iter : Expr} {L9 : Addr} {m9 : PySem.Str → Option Value} {g9 : Heap} (_F : Fr h₀ L9 g9 m9) (hx : env.kindOf x = some .local)
    (hp : (env.scope.kind == .class || (env.scope.kind == .module && env.locals != env.globals)) = false)
    (h : wpAny (model prog w) A (eval iter env) (fun xv s₁ => Hold (wpAny (model prog w) A (pyIter xv) (fun it s₂ => LoopAtV prog w A h₀ env x body Q E it s₂) E s₁)) E s)
    (hs : ∀ x, foldedSetIterable iter env x = pure x := by intro _; rfl)
    (hE : PassesOwn (model prog w) A env E := by passes_own) :
    wpAny (model prog w) A (exec (.For (.Name x px) iter body [] pos) env) Q E s := For_invV h₀ hx hp h hs hE
local macro_rules | `(tactic| walk_at "exec For Name Name cons nil") => `(tactic| ((rename Fr _ _ _ _ => F9); k_dflt (refine my_ForF F9 rfl rfl ?_)))
abbrev Lad := Addr × List Value × Nat
abbrev ladObj (d : Lad) : Addr × Obj := (d.1, listOf d.2.1.toArray d.2.2)
abbrev ladRef (d : Lad) : Value := .ref d.1
inductive LadsAre : List Lad → List Nat → Prop
  | nil : LadsAre [] []
  | snoc {l : List Lad} {xs : List Nat} {d : Lad} {x : Nat} : LadsAre l xs → StrsAre d.2.1 (dots (rungs4 x)) → LadsAre (l ++ [d]) (xs ++ [x])
theorem LadsAre.length {l : List Lad} {xs : List Nat} (h : LadsAre l xs) : l.length = xs.length := by
  induction h with
  | nil => rfl
  | snoc _ _ ih => simp [ih]
theorem LadsAre.get {l : List Lad} {xs : List Nat} (h : LadsAre l xs) : ∀ (i : Nat) (x : Nat), xs[i]? = some x → ∃ d, l[i]? = some d ∧ StrsAre d.2.1 (dots (rungs4 x)) := by
  induction h with
  | nil => intro i x e; simp at e
  | snoc h0 h1 ih =>
    rename_i l xs d y
    intro i x e
    have hl := h0.length
    by_cases q : i < xs.length
    · rw [List.getElem?_append_left q] at e
      obtain ⟨d', e', h'⟩ := ih i x e
      exact ⟨d', by rw [List.getElem?_append_left (by omega)]; exact e', h'⟩
    · have : i = xs.length := by
        have := (List.getElem?_eq_some_iff.mp e).1
        simp at this; omega
      subst this
      rw [List.getElem?_append_right (Nat.le_refl _)] at e
      simp at e
      subst e
      exact ⟨d, by rw [List.getElem?_append_right (by omega)]; simp [hl], h1⟩
theorem swap_mem {a b : Addr × Obj} {l : List (Addr × Obj)} {p : Addr × Obj} (h : p ∈ a :: b :: l) : p ∈ b :: a :: l := by
  rcases List.mem_cons.mp h with rfl | h
  · exact .tail _ (.head _)
  rcases List.mem_cons.mp h with rfl | h
  · exact .head _
  · exact .tail _ (.tail _ h)
def ladBody : List Stmt := match lawDef.1.drop 7 with | .For _ _ b _ _ :: _ => b | _ => []
set_option pp.deepTerms.threshold 8
theorem segLad {w : World} {p : Program} {loose : List PySem.Str} {mean : ExcName → Option Value} {mg mb : PySem.Str → Option Value} {s : Shared} {Q : Flow → Shared → Prop} {h₀ : Heap} {L : Addr} {m : PySem.Str → Option Value}
  {aT aW aP aH : Addr} {vT vW vP vH : List Value} {xs : List Nat} {o1 o2 : Obj} (B : Below callerA h₀ [] h₀) (X : (Head.hc.heap_39 w.params).In h₀) (T : Top p loose mean mg mb h₀)
  (hP : BysAre vP (xs.map fun (x : Nat) => wordOf (x : Int))) (h5 : xs.length = 5) (hx : ∀ x ∈ xs, x < 27) (F : Fr h₀ L s.heap (kstB m [(PySem.Str.ofString "tails", .ref aT), (PySem.Str.ofString "worth", .ref aW), (PySem.Str.ofString "words", .ref aP), (PySem.Str.ofString "heads", .ref aH)]))
  (N : News h₀ L s.heap [(aH, W.listOf vH.toArray vH.length), (aP, W.listOf vP.toArray vP.length), (aT, W.listOf vT.toArray vT.length), (aW, W.listOf vW.toArray vW.length), (L + 1 + 1, o1), (L + 1, o2)])
  (hcont : ∀ h' tk' m' aL lads nn, Fr h₀ L h' (kstB m' [(PySem.Str.ofString "tails", .ref aT), (PySem.Str.ofString "worth", .ref aW), (PySem.Str.ofString "heads", .ref aH), (PySem.Str.ofString "ladders", .ref aL)]) →
    News h₀ L h' ((aL, listOf (lads.map ladRef).toArray nn) :: (lads.map ladObj ++ [(aH, W.listOf vH.toArray vH.length), (aP, W.listOf vP.toArray vP.length), (aT, W.listOf vT.toArray vT.length), (aW, W.listOf vW.toArray vW.length), (L + 1 + 1, o1), (L + 1, o2)])) →
    LadsAre lads xs → Q .next { s with heap := h', toks := tk' }) :
  wpAny (model PrgW w) (callerA.deeper (lawEnv L)) (execs ((lawDef.1.drop 6).take 2) (lawEnv L)) Q (fun _ _ => False) s := by
  replace hcont := Hold.mk hcont
  dsimp only [lawEnv, lawDef, lastOf, lawDefOf, PySem.Challenge.pw_zo0024_01]
  simp only [List.take_succ_cons, List.take_zero, List.drop_succ_cons, List.drop_zero]
  have hvl : vP.length = 5 := by rw [hP.length, List.length_map, h5]
  refine wpAny_execs_cons ?_
  k_steps
  (rename Fr _ _ _ _ => F9)
  (rename News _ _ _ _ => N9)
  (rename (_ ∧ _) => l9)
  rename_i aL g8 g9
  have hoff : ∀ p ∈ [(aH, W.listOf vH.toArray vH.length), (aP, W.listOf vP.toArray vP.length), (aT, W.listOf vT.toArray vT.length), (aW, W.listOf vW.toArray vW.length), (L + 1 + 1, o1), (L + 1, o2)], p.1 ≠ aL := by
    repeat' (first | exact List.forall_mem_nil _ | refine List.forall_mem_cons.mpr ⟨by (refine Nat.ne_of_lt ?_; (try dsimp only); first | exact l9.1 | exact l9.2.1 | exact l9.2.2.1 | exact l9.2.2.2.1 | exact l9.2.2.2.2.1 | exact l9.2.2.2.2.2), ?_⟩)
  clear l9
  refine my_forL (σ := List Lad × Nat) (l := aP) (vs := vP) (nn := vP.length) (fun c => (aL, listOf (c.1.map ladRef).toArray c.2) :: (c.1.map ladObj ++ [(aH, W.listOf vH.toArray vH.length), (aP, W.listOf vP.toArray vP.length), (aT, W.listOf vT.toArray vT.length), (aW, W.listOf vW.toArray vW.length), (L + 1 + 1, o1), (L + 1, o2)]))
    (fun c => [(PySem.Str.ofString "ladders", .ref aL)]) [PySem.Str.ofString "host"] (fun i c => LadsAre c.1 (xs.take i) ∧ ∀ d ∈ c.1, d.1 ≠ aL) ([], 0) rfl ?mem F9 N9 ?hk ?hp ?turn ?done
  case mem =>
    intro c
    exact .tail _ (List.mem_append_right _ (.tail _ (.head _)))
  case hk => exact List.forall_mem_cons.mpr ⟨by rfl, List.forall_mem_nil _⟩
  case hp => exact ⟨.nil, fun d hd => nomatch hd⟩
  case turn =>
    intro c i v u hh tk I oI hv hoI hfI hP9 Fi Ni
    clear F9 N9
    obtain ⟨hLA, hne⟩ := hP9
    have hi : i < 5 := by
      have := (List.getElem?_eq_some_iff.mp hv).1; omega
    have hxi : i < xs.length := by omega
    obtain ⟨t, et⟩ := hP.get (i := i) (by simpa using hxi)
    rw [hv] at et
    have ew : (List.map (fun (x : Nat) => wordOf (x : Int)) xs).getD i #[] = wordOf (xs[i] : Int) := by simp [List.getD_eq_getElem?_getD, List.getElem?_eq_getElem hxi]
    rw [ew] at et
    obtain rfl := Option.some.inj et
    have hx27 := hx _ (List.getElem_mem hxi)
    have htake : xs.take (i + 1) = xs.take i ++ [xs[i]] := List.take_succ_eq_append_getElem hxi
    rw [htake]
    generalize xs[i] = x at *
    clear et ew hv
    have ec : c.1.length ≤ 4 := by rw [hLA.length, List.length_take]; omega
    refine (wpAny_execs_pre (ladBody.take 1) (rest := ladBody.drop 1) ?_ : wpAny _ _ (execs (ladBody.take 1 ++ ladBody.drop 1) (lawEnv L)) _ _ _)
    have hoff2 : ∀ p ∈ (I, oI) :: (c.1.map ladObj ++ [(aH, W.listOf vH.toArray vH.length), (aP, W.listOf vP.toArray vP.length), (aT, W.listOf vT.toArray vT.length), (aW, W.listOf vW.toArray vW.length), (L + 1 + 1, o1), (L + 1, o2)]), p.1 ≠ aL := by
      intro p hp
      rcases List.mem_cons.mp hp with rfl | hp
      · exact Ne.symm (hfI _ (.head _))
      rcases List.mem_append.mp hp with hp | hp
      · obtain ⟨d, hd, rfl⟩ := List.mem_map.mp hp
        exact hne d hd
      · exact hoff p hp
    refine segHost (aL := aL) (m := _) B X T (word_size hx27) (Fr.named Fi [(PySem.Str.ofString "word", .bytes (wordOf (x : Int)) t), (PySem.Str.ofString "ladders", .ref aL)] (List.forall_mem_cons.mpr ⟨by rfl, List.forall_mem_cons.mpr ⟨by rfl, List.forall_mem_nil _⟩⟩)) (fun p hp => Ni p (swap_mem hp)) ?_ ladBody rfl
    intro h2 tk2 m2 t2 hm2 F2 N2
    dsimp only
    clear Fi Ni
    refine segTurn2 (aL := aL) (m := kstB m2 _) B X T (host_ladder hx27) (by rw [host_eq hx27]; exact host_ends (let_of _) (let_of _) (let_of _)) (by simp) (by simpa using (by omega : c.1.length ≤ 60)) hoff2
      (Fr.named F2 [(PySem.Str.ofString "host", _), (PySem.Str.ofString "ladders", .ref aL)] (List.forall_mem_cons.mpr ⟨by rfl, List.forall_mem_cons.mpr ⟨by rfl, List.forall_mem_nil _⟩⟩)) N2 ?_ ladBody rfl
    intro h3 tk3 D vs k n' F3 N3 hS3 hD hDo
    clear F2 N2
    show Hold (ForTo _ _ _ _ _ _ _ _ _ _ _ _)
    refine forTo (c.1 ++ [(D, vs, k)], n') F3 N3 ?m1 ?m2 ?m3 ?m4 ?m5 ⟨hLA.snoc hS3, ?m6⟩
    case m1 => exact .tail _ (.tail _ (.head _))
    case m2 =>
      intro p hp
      rcases List.mem_cons.mp hp with rfl | hp
      · have e : List.map ladRef (c.1 ++ [(D, vs, k)]) = List.map ladRef c.1 ++ [Value.ref D] := by simp
        rw [e]; exact .head _
      refine .tail _ ?_
      rcases List.mem_append.mp hp with hp | hp
      · rw [List.map_append] at hp
        rcases List.mem_append.mp hp with hp | hp
        · exact .tail _ (.tail _ (List.mem_append_left _ hp))
        · rw [List.mem_singleton.mp hp]; exact .head _
      · exact .tail _ (.tail _ (List.mem_append_right _ hp))
    case m3 =>
      intro p hp
      rcases List.mem_cons.mp hp with rfl | hp
      · show aL ≠ I
        exact hfI (aL, _) (.head _)
      rcases List.mem_append.mp hp with hp | hp
      · rw [List.map_append] at hp
        rcases List.mem_append.mp hp with hp | hp
        · exact hfI _ (.tail _ (List.mem_append_left _ hp))
        · rw [List.mem_singleton.mp hp]; exact Ne.symm (hDo _ (.head _))
      · exact hfI _ (.tail _ (List.mem_append_right _ hp))
    case m4 => exact List.forall_mem_cons.mpr ⟨by rfl, List.forall_mem_nil _⟩
    case m5 =>
      intro z h1 h2 h3
      have h2' : z ≠ PySem.Str.ofString "ladders" := h2 _ (.head _)
      have h3' : z ≠ PySem.Str.ofString "host" := by simpa using h3
      simp [kstB, h1, h2', h3', hm2 z h3']
    case m6 =>
      intro d hd
      rcases List.mem_append.mp hd with hd | hd
      · exact hne d hd
      · rw [List.mem_singleton.mp hd]; exact hD
  case done =>
    intro c u hh tk hP9 Fi Ni
    clear F9 N9
    obtain ⟨hLA, hne⟩ := hP9
    rw [List.take_of_length_le (by omega)] at hLA
    dsimp only
    refine wpAny_execs_nil ?_
    unfold Hold at hcont
    exact hcont _ _ _ aL c.1 c.2 (Fr.named Fi [(PySem.Str.ofString "tails", .ref aT), (PySem.Str.ofString "worth", .ref aW), (PySem.Str.ofString "heads", .ref aH), (PySem.Str.ofString "ladders", .ref aL)] (List.forall_mem_cons.mpr ⟨by rfl, List.forall_mem_cons.mpr ⟨by rfl, List.forall_mem_cons.mpr ⟨by rfl, List.forall_mem_cons.mpr ⟨by rfl, List.forall_mem_nil _⟩⟩⟩⟩)) Ni hLA
end Mine
end
section
open PySem PySem.W PyProof.Rows PySem.Calls PySem.Spec
set_option Elab.async false
set_option maxRecDepth 100000
set_option maxHeartbeats 8000000
set_option linter.unusedVariables false
namespace Mine
theorem fillNF_ (w : World) (h : Heap) : (Head.hc.heap_39 w.params).In h → PySem.Challenge.rw_zo0024_01.row.prog = PySem.Challenge.rw_zo0024_01.row.prog := by k_fill; intro _; w_top off; rfl
def cnt (R : List Nat) (c : Nat) : Nat := R.countP fun k => decide (k < c)
theorem cnt_le (R : List Nat) (c : Nat) : cnt R c ≤ R.length := List.countP_le_length
theorem cnt_zero {R : List Nat} {c : Nat} (h : ∀ k ∈ R, ¬ k < c) : cnt R c = 0 := List.countP_eq_zero.mpr fun k hk => by simpa using h k hk
theorem cnt_iff : ∀ {R : List Nat} {c : Nat}, R.Pairwise (· ≤ ·) → ∀ {i k : Nat}, R[i]? = some k → (k < c ↔ i < cnt R c)
  | [], c, _, i, k, e => by simp at e
  | a :: r, c, hs, i, k, e => by
    obtain ⟨h1, h2⟩ := List.pairwise_cons.mp hs
    by_cases q : a < c
    · have ec : cnt (a :: r) c = cnt r c + 1 := by simp [cnt, q]
      rw [ec]
      cases i with
      | zero => simp at e; subst e; exact ⟨fun _ => Nat.succ_pos _, fun _ => q⟩
      | succ i =>
        have := cnt_iff (c := c) h2 (i := i) (k := k) (by simpa using e)
        omega
    · have ec : cnt (a :: r) c = 0 := cnt_zero fun x hx => by
        rcases List.mem_cons.mp hx with rfl | hx
        · exact q
        · have := h1 x hx; omega
      rw [ec]
      have hm : k ∈ a :: r := List.mem_of_getElem? e
      rcases List.mem_cons.mp hm with rfl | hm
      · omega
      · have := h1 k hm; omega
theorem BysAre.item {vs : List Value} {ns : List (Array UInt8)} (h : BysAre vs ns) {i : Nat} {v : Value} (e : vs[i]? = some v) : ∃ x t, ns[i]? = some x ∧ v = .bytes x t := by
  have hi : i < ns.length := by rw [← h.length]; exact (List.getElem?_eq_some_iff.mp e).1
  obtain ⟨t, e2⟩ := h.get hi
  rw [e] at e2
  refine ⟨_, t, ?_, Option.some.inj e2⟩
  rw [List.getD_eq_getElem?_getD, List.getElem?_eq_getElem hi]; rfl
/-- the row, its keys in order -/
structure RowIs (rv : List Value) (R : List Nat) : Prop where
  are : BysAre rv (R.map headS)
  sorted : R.Pairwise (· ≤ ·)
  small : ∀ k ∈ R, k < 27
theorem RowIs.len {rv : List Value} {R : List Nat} (h : RowIs rv R) : rv.length = R.length := by rw [h.are.length, List.length_map]
theorem RowIs.item {rv : List Value} {R : List Nat} (h : RowIs rv R) {i : Nat} {v : Value} (e : rv[i]? = some v) : ∃ k t, R[i]? = some k ∧ k < 27 ∧ v = .bytes (headS k) t := by
  obtain ⟨x, t, e2, rfl⟩ := h.are.item e
  rw [List.getElem?_map] at e2
  obtain ⟨k, e3, rfl⟩ := Option.map_eq_some_iff.mp e2
  exact ⟨k, t, e3, h.small k (List.mem_of_getElem? e3), rfl⟩
def Below27 (p : Array UInt8) (c : Nat) : Prop := ∀ k < 27, decide (bnat (headS k) < bnat p) = decide (k < c)
theorem row_cmp {w : World} {rv : List Value} {R : List Nat} (h : RowIs rv R) {p : Array UInt8} {c : Nat} {t : Tok} (hp : Below27 p c) : ∀ i v, rv[i]? = some v → CmpIs w .Lt v (.bytes p t) (decide (i < cnt R c)) := fun i v e A Q E s _ hQ => by
  obtain ⟨k, t', e2, hk, rfl⟩ := h.item e
  refine lt_bytes ?_
  rw [hp k hk]
  have : decide (k < c) = decide (i < cnt R c) := decide_eq_decide.mpr (cnt_iff h.sorted e2)
  rw [this]; exact hQ
theorem picked_pre : ∀ (n : Fin 3) (k : Fin 27), KBy.picked (headS k.val) none (some (1 + (n.val : Int) * 1)) = pre (n.val + 1) k.val := by decide +kernel
theorem b27_lo {n k : Nat} (hn : n < 3) (hk : k < 27) : Below27 (KBy.picked (headS k) none (some (1 + (n : Int) * 1))) (lo1 (n + 1) k) := fun j hj => by
  rw [picked_pre ⟨n, hn⟩ ⟨k, hk⟩]; exact cmp_lo ⟨n, hn⟩ ⟨j, hj⟩ ⟨k, hk⟩
theorem b27_hi {n k : Nat} (hn : n < 3) (hk : k < 27) : Below27 (KBy.picked (headS k) none (some (1 + (n : Int) * 1)) ++ #[81]) (hi1 (n + 1) k) := fun j hj => by
  rw [picked_pre ⟨n, hn⟩ ⟨k, hk⟩]; exact cmp_hi ⟨n, hn⟩ ⟨j, hj⟩ ⟨k, hk⟩
theorem picked_small {k : Nat} {lo hi : Option Int} : (KBy.picked (headS k) lo hi).size ≤ 4 := KBc.size_picked_le (headS k) lo hi
def stepOf (R : List Nat) (key n : Nat) : Int := (cnt R (hi1 (n + 1) key) : Int) - (cnt R (lo1 (n + 1) key) : Int)
def priceTo (R : List Nat) (key : Nat) : Nat → Int
  | 0 => R.length
  | n + 1 => priceTo R key n + stepOf R key n
def whileBody : List Stmt := match lawDef.1.drop 12 with | .While _ b _ _ :: _ => b | _ => []
def pickBody : List Stmt := match whileBody.drop 2 with | .For _ _ b _ _ :: _ => b | _ => []
set_option pp.deepTerms.threshold 8
theorem item_at {prog : Program} {w : World} {A : Around} {E : Value → Shared → Prop} {s : Shared} {value slice : Expr} {l : Addr} {vs : List Value} {k : Int} {u : Tok} {v : Value} {Q : Value → Shared → Prop}
    (hl : s.heap.IsList l vs.toArray) (h0 : 0 ≤ k) (hhi : k < 64) (hx : vs[k.toNat]? = some v) (h : Q v s)
    (hs : subscripted slice false (.ref l) (.int k u) = operate [.ref l, .int k u] (getItem (.ref l) (.int k u)) := by with_unfolding_all rfl) (hg : ∀ r, letTemporaryGo value (.ref l) r = pure () := by intro _; with_unfolding_all rfl) :
    wpAny (model prog w) A (subscriptTail value slice (.ref l) (.int k u)) Q E s := item_listL hl h0 (by omega) hx h hs hg
local macro_rules | `(tactic| walk_at "exec For Name Call cons nil") => `(tactic| ((rename Fr _ _ _ _ => F9); k_dflt (refine my_ForF F9 rfl rfl ?_)))
local macro_rules | `(tactic| walk_at "call builtin:len") => `(tactic| ((rename News _ _ _ _ => N9); (rename RowIs _ _ => hR9); (refine len_list (News.isList N9 (by assumption)) (by (have := RowIs.len hR9); simp only [List.size_toArray]; omega) ?_)))
local macro_rules | `(tactic| walk_at "subscriptTail") => `(tactic| ((with_reducible show wpAny _ _ (subscriptTail _ _ (Value.ref _) (Value.int _ _)) _ _ _); (rename News _ _ _ _ => N9); (refine item_at (News.isList N9 (by first | assumption | exact .tail _ (by assumption))) (by assumption) (by omega) (by assumption) ?_)))
local macro_rules | `(tactic| walk_at "subscriptTail") => `(tactic| ((with_reducible show wpAny _ _ (subscriptTail _ _ (Value.bytes _ _) (Value.ref _)) _ _ _); (rename Fr _ _ _ _ => F9); (rename News _ _ _ _ => N9); (refine KBc.slice_K (s := ⟨_, _, _, _, _⟩) F9 N9 rfl (by constructor) (by constructor) (by rw [KBw.ints_length]; exact (by decide : 4 ≤ 16777216)) ?_); intro h9 t9 k9 F9' N9' _; clear F9 N9))
local macro_rules | `(tactic| walk_at "binaryOp Add bytes bytes") => `(tactic| ((refine PySem.W.KBy.add_bytes (by (have := @picked_small); exact Nat.le_trans (Nat.add_le_add_right picked_small _) (by decide)) ?_); intro t9 k9))
local macro_rules | `(tactic| walk_at "call ref") => `(tactic| ((with_reducible show wpAny _ _ (call (Value.ref 86) [_, _]) _ _ _); (rename RowIs _ _ => hR9); k_dflt (refine' Mine.bisL ?W ?d ?u ?L ?len ?r (row_cmp hR9 (by first | exact b27_hi (by assumption) (by assumption) | exact b27_lo (by assumption) (by assumption))) ?_; (case W => exact At.of (by assumption) (by assumption) (by assumption) (by assumption) rfl rfl rfl); (case d => ktr_room); (case u => ktr_units); (case L => exact News.isList (by assumption) (by first | assumption | exact .tail _ (by assumption))); (case len => (rw [RowIs.len hR9]; omega)); (case r => (rw [RowIs.len hR9]; exact cnt_le _ _))); intro t9 h9 tk9 k9; (rename Fr _ _ _ _ => F9); (rename News _ _ _ _ => N9); (replace F9 := Fr.after F9 k9); (replace N9 := newsAfter N9 k9); clear k9))
/-- the price of one head -/
theorem segPrice {w : World} {p : Program} {loose : List PySem.Str} {mean : ExcName → Option Value} {mg mb : PySem.Str → Option Value} {s : Shared} {Q : Flow → Shared → Prop} {h₀ : Heap} {L : Addr} {m : PySem.Str → Option Value} {led : List (Addr × Obj)}
  {aR aH : Addr} {rv vH : List Value} {nr nH : Nat} {R : List Nat} {k : Int} {key : Nat} {tk0 th : Tok} (B : Below callerA h₀ [] h₀) (X : (Head.hc.heap_39 w.params).In h₀) (T : Top p loose mean mg mb h₀)
  (hR : RowIs rv R) (hRl : R.length ≤ 5) (hk0 : 0 ≤ k) (hk5 : k < 5) (hkey : key < 27) (hH : vH[k.toNat]? = some (.bytes (headS key) th))
  (hmR : (aR, listOf rv.toArray nr) ∈ led) (hmH : (aH, listOf vH.toArray nH) ∈ led)
  (F : Fr h₀ L s.heap (kstB m [(PySem.Str.ofString "row", .ref aR), (PySem.Str.ofString "heads", .ref aH), (PySem.Str.ofString "k", .int k tk0)]))
  (N : News h₀ L s.heap led)
  (hcont : ∀ h' tk' m' t', (∀ z, z ≠ PySem.Str.ofString "price" → z ≠ PySem.Str.ofString "size" → m' z = kstB m [(PySem.Str.ofString "row", .ref aR), (PySem.Str.ofString "heads", .ref aH), (PySem.Str.ofString "k", .int k tk0)] z) →
    Fr h₀ L h' (kstB m' [(PySem.Str.ofString "price", .int (priceTo R key 3) t')]) → News h₀ L h' led → Q .next { s with heap := h', toks := tk' }) :
  wpAny (model PrgW w) (callerA.deeper (lawEnv L)) (execs (pickBody.take 2) (lawEnv L)) Q (fun _ _ => False) s := by
  replace hcont := Hold.mk hcont
  dsimp only [pickBody, whileBody, lawEnv, lawDef, lastOf, lawDefOf, PySem.Challenge.pw_zo0024_01]
  simp only [List.take_succ_cons, List.take_zero, List.drop_succ_cons, List.drop_zero]
  k_steps
  rename IsRange _ _ _ _ _ _ _ _ => R9
  rename News _ _ _ _ => N9
  rename Fr _ _ _ _ => F9

  refine my_forR (σ := Int × Tok) (n := 3) (fun c => led) (fun c => [(PySem.Str.ofString "price", .int c.1 c.2)]) [] (fun i c => c.1 = priceTo R key i) (_, _) rfl R9 (by decide) (by decide) F9 N9 (List.forall_mem_cons.mpr ⟨by rfl, List.forall_mem_nil _⟩) ?start ?turn ?done
  case start => (rename RowIs _ _ => hR); show ((rv.toArray.size : Nat) : Int) = (R.length : Int); rw [List.size_toArray, hR.len]
  case turn =>
    clear R9 F9 N9
    intro c i ti ui hi tki I oI hin hoI hfI hP Fi Ni
    dsimp only [kstB] at Fi Ni ⊢
    replace Fi : Fr h₀ L hi _ := Fi
    replace Ni : News h₀ L hi _ := Ni
    k_steps
    rename Fr _ _ _ _ => F8
    rename News _ _ _ _ => N8
    show ForTo _ _ _ _ _ _ _ _ _ _ _ _
    refine forTo (_, _) F8 N8 (.head _) (fun p hp => .tail _ hp) hfI (List.forall_mem_cons.mpr ⟨by rfl, List.forall_mem_nil _⟩) ?_ ?_
    · intro z h1 h2 _
      have h2' : z ≠ PySem.Str.ofString "price" := h2 _ (.head _)
      simp [h1, h2']
    · show _ = priceTo R key i + stepOf R key i
      rw [← hP]; rfl
  case done =>
    clear R9 F9 N9
    intro c ui hi tki hP Fi Ni
    dsimp only
    refine wpAny_execs_nil ?_
    unfold Hold at hcont
    rw [← hP] at hcont
    refine hcont _ _ _ _ ?_ (Fr.named Fi [(PySem.Str.ofString "price", .int c.1 c.2)] (List.forall_mem_cons.mpr ⟨by rfl, List.forall_mem_nil _⟩)) Ni
    intro z h1 h2
    simp [kstB, h1, h2]
end Mine
end
section
open PySem PySem.W PyProof.Rows PySem.Calls PySem.Spec
set_option Elab.async false
set_option maxRecDepth 100000
set_option maxHeartbeats 8000000
set_option linter.unusedVariables false
namespace Mine
theorem fillNG_ (w : World) (h : Heap) : (Head.hc.heap_39 w.params).In h → PySem.Challenge.rw_zo0024_01.row.prog = PySem.Challenge.rw_zo0024_01.row.prog := by k_fill; intro _; w_top off; rfl
abbrev natInts (l : List Nat) : List Int := l.map fun (n : Nat) => (n : Int)
def valOf (R ks : List Nat) (ws : List Int) (n : Nat) : Int := ws.getD n 0 - priceTo R (ks.getD n 0) 3
/-- the best one so far -/
def BestTo (R ks : List Nat) (ws : List Int) (seen : List Nat) (best gain : Int) : Prop :=
  (seen = [] ∧ best < 0) ∨ ∃ b ∈ seen, best = (b : Int) ∧ gain = valOf R ks ws b ∧ ∀ k ∈ seen, valOf R ks ws k ≤ valOf R ks ws b
theorem best_take {R ks : List Nat} {ws : List Int} {seen : List Nat} {best gain : Int} {n : Nat} (h : BestTo R ks ws seen best gain) (hg : best < 0 ∨ valOf R ks ws n > gain) : BestTo R ks ws (seen ++ [n]) n (valOf R ks ws n) := by
  refine .inr ⟨n, by simp, rfl, rfl, fun k hk => ?_⟩
  rcases List.mem_append.mp hk with hk | hk
  · rcases h with ⟨rfl, _⟩ | ⟨b, hb, e1, e2, e3⟩
    · simp at hk
    · have := e3 k hk
      omega
  · rw [List.mem_singleton.mp hk]; exact Int.le_refl _
theorem best_keep {R ks : List Nat} {ws : List Int} {seen : List Nat} {best gain : Int} {n : Nat} (h : BestTo R ks ws seen best gain) (h1 : ¬ best < 0) (h2 : ¬ valOf R ks ws n > gain) : BestTo R ks ws (seen ++ [n]) best gain := by
  rcases h with ⟨_, hb⟩ | ⟨b, hb, e1, e2, e3⟩
  · exact absurd hb h1
  · refine .inr ⟨b, by simp [hb], e1, e2, fun k hk => ?_⟩
    rcases List.mem_append.mp hk with hk | hk
    · exact e3 k hk
    · rw [List.mem_singleton.mp hk]; omega
theorem IntsAre.item {vs : List Value} {ns : List Int} (h : IntsAre vs ns) {i : Nat} {v : Value} (e : vs[i]? = some v) : ∃ x t, ns[i]? = some x ∧ v = .int x t := by
  have hi : i < ns.length := by rw [← h.length]; exact (List.getElem?_eq_some_iff.mp e).1
  obtain ⟨t, e2⟩ := h.get i ns[i] (List.getElem?_eq_getElem hi)
  rw [e] at e2
  exact ⟨_, t, List.getElem?_eq_getElem hi, Option.some.inj e2⟩
theorem Fr.namedE {h₀ h : Heap} {L : Addr} {m : PySem.Str → Option Value} (F : Fr h₀ L h m) (ps : List (PySem.Str × Value)) (hp : ∀ p ∈ ps, m p.1 = some p.2) : Fr h₀ L h (kstB m ps) ∧ kstB m ps = m := ⟨Fr.named F ps hp, kstB_same hp⟩
local macro_rules | `(tactic| walk_at "exec For Name Name cons nil") => `(tactic| ((rename Fr _ _ _ _ => F9); k_dflt (refine my_ForF F9 rfl rfl ?_)))
local macro_rules | `(tactic| walk_at "subscriptTail") => `(tactic| ((with_reducible show wpAny _ _ (subscriptTail _ _ (Value.ref _) (Value.int _ _)) _ _ _); (rename News _ _ _ _ => N9); (refine item_at (News.isList N9 (by first | assumption | exact .tail _ (by assumption))) (by assumption) (by omega) (by assumption) ?_)))
set_option pp.deepTerms.threshold 8
theorem segBest {w : World} {p : Program} {loose : List PySem.Str} {mean : ExcName → Option Value} {mg mb : PySem.Str → Option Value} {s : Shared} {Q : Flow → Shared → Prop} {E : Value → Shared → Prop} {h₀ : Heap} {L : Addr} {m : PySem.Str → Option Value} {led : List (Addr × Obj)}
  {aW : Addr} {vW : List Value} {nW : Nat} {n b0 g0 pr wn : Int} {t0 t1 t2 t3 tw : Tok} (B : Below callerA h₀ [] h₀) (X : (Head.hc.heap_39 w.params).In h₀) (T : Top p loose mean mg mb h₀)
  (hn0 : 0 ≤ n) (hn5 : n < 5) (hWn : vW[n.toNat]? = some (.int wn tw)) (hmW : (aW, listOf vW.toArray nW) ∈ led)
  (F : Fr h₀ L s.heap (kstB m [(PySem.Str.ofString "price", .int pr t0), (PySem.Str.ofString "worth", .ref aW), (PySem.Str.ofString "k", .int n t1), (PySem.Str.ofString "best", .int b0 t2), (PySem.Str.ofString "gain", .int g0 t3)]))
  (N : News h₀ L s.heap led)
  (hcont1 : (b0 < 0 ∨ wn - pr > g0) → ∀ h' tk' m' t4 t5, (∀ z, z ≠ PySem.Str.ofString "best" → z ≠ PySem.Str.ofString "gain" → m' z = kstB m [(PySem.Str.ofString "price", .int pr t0), (PySem.Str.ofString "worth", .ref aW), (PySem.Str.ofString "k", .int n t1), (PySem.Str.ofString "best", .int b0 t2), (PySem.Str.ofString "gain", .int g0 t3)] z) →
    Fr h₀ L h' (kstB m' [(PySem.Str.ofString "best", .int n t4), (PySem.Str.ofString "gain", .int (wn - pr) t5)]) → News h₀ L h' led → Q .next { s with heap := h', toks := tk' })
  (hcont2 : ¬ b0 < 0 → ¬ wn - pr > g0 → ∀ h' tk', Fr h₀ L h' (kstB m [(PySem.Str.ofString "price", .int pr t0), (PySem.Str.ofString "worth", .ref aW), (PySem.Str.ofString "k", .int n t1), (PySem.Str.ofString "best", .int b0 t2), (PySem.Str.ofString "gain", .int g0 t3)]) → News h₀ L h' led → Q .next { s with heap := h', toks := tk' }) :
  wpAny (model PrgW w) (callerA.deeper (lawEnv L)) (execs (pickBody.drop 2) (lawEnv L)) Q E s := by
  replace hcont1 := Hold.mk hcont1
  replace hcont2 := Hold.mk hcont2
  dsimp only [pickBody, whileBody, lawEnv, lawDef, lastOf, lawDefOf, PySem.Challenge.pw_zo0024_01]
  simp only [List.take_succ_cons, List.take_zero, List.drop_succ_cons, List.drop_zero]
  have go : Hold (∀ (h' : Heap) (tk' : Nat) (t5 : Tok), (b0 < 0 ∨ wn - pr > g0) → Fr h₀ L h' (fun y => if y = PySem.Str.ofString "gain" then some (Value.int (wn - pr) t5) else if y = PySem.Str.ofString "best" then some (Value.int n t1) else kstB m [(PySem.Str.ofString "price", .int pr t0), (PySem.Str.ofString "worth", .ref aW), (PySem.Str.ofString "k", .int n t1), (PySem.Str.ofString "best", .int b0 t2), (PySem.Str.ofString "gain", .int g0 t3)] y) → News h₀ L h' led → Q .next { s with heap := h', toks := tk' }) := by
    intro h' tk' t5 hc F' N'
    refine hcont1 hc _ _ _ _ _ ?_ (Fr.named F' [(PySem.Str.ofString "best", .int n t1), (PySem.Str.ofString "gain", .int (wn - pr) t5)] (List.forall_mem_cons.mpr ⟨by rfl, List.forall_mem_cons.mpr ⟨by rfl, List.forall_mem_nil _⟩⟩)) N'
    intro z h1 h2
    simp [h1, h2]
  k_steps
  · unfold Hold at go; exact go _ _ _ (.inl (by assumption)) (by assumption) (by assumption)
  · unfold Hold at go; exact go _ _ _ (.inr (by assumption)) (by assumption) (by assumption)
  · unfold Hold at hcont2; exact hcont2 (by assumption) (by assumption) _ _ (by assumption) (by assumption)
/-- the best of those that are left -/
theorem segPick {w : World} {p : Program} {loose : List PySem.Str} {mean : ExcName → Option Value} {mg mb : PySem.Str → Option Value} {s : Shared} {Q : Flow → Shared → Prop} {h₀ : Heap} {L : Addr} {m : PySem.Str → Option Value} {led : List (Addr × Obj)}
  {aR aH aW aL : Addr} {rv vH vW lv : List Value} {nr nH nW nl : Nat} {R ks ls : List Nat} {ws : List Int} (B : Below callerA h₀ [] h₀) (X : (Head.hc.heap_39 w.params).In h₀) (T : Top p loose mean mg mb h₀)
  (hR : RowIs rv R) (hRl : R.length ≤ 5) (hks : ∀ k ∈ ks, k < 27) (hk5 : ks.length = 5) (hH : BysAre vH (ks.map headS)) (hW : IntsAre vW ws) (hw5 : ws.length = 5) (hL : IntsAre lv (natInts ls)) (hl5 : ∀ n ∈ ls, n < 5) (hne : ls ≠ [])
  (hmR : (aR, listOf rv.toArray nr) ∈ led) (hmH : (aH, listOf vH.toArray nH) ∈ led) (hmW : (aW, listOf vW.toArray nW) ∈ led) (hmL : (aL, listOf lv.toArray nl) ∈ led)
  (F : Fr h₀ L s.heap (kstB m [(PySem.Str.ofString "row", .ref aR), (PySem.Str.ofString "heads", .ref aH), (PySem.Str.ofString "worth", .ref aW), (PySem.Str.ofString "left", .ref aL)]))
  (N : News h₀ L s.heap led)
  (hcont : ∀ h' tk' m' b t1 t2, b ∈ ls → (∀ k ∈ ls, valOf R ks ws k ≤ valOf R ks ws b) → (∀ z, z ≠ PySem.Str.ofString "price" → z ≠ PySem.Str.ofString "size" → z ≠ PySem.Str.ofString "best" → z ≠ PySem.Str.ofString "gain" → z ≠ PySem.Str.ofString "k" → m' z = kstB m [(PySem.Str.ofString "row", .ref aR), (PySem.Str.ofString "heads", .ref aH), (PySem.Str.ofString "worth", .ref aW), (PySem.Str.ofString "left", .ref aL)] z) →
    Fr h₀ L h' (kstB m' [(PySem.Str.ofString "best", .int (b : Nat) t1), (PySem.Str.ofString "gain", .int (valOf R ks ws b) t2)]) → News h₀ L h' led → Q .next { s with heap := h', toks := tk' }) :
  wpAny (model PrgW w) (callerA.deeper (lawEnv L)) (execs (whileBody.take 3) (lawEnv L)) Q (fun _ _ => False) s := by
  replace hcont := Hold.mk hcont
  dsimp only [whileBody, lawEnv, lawDef, lastOf, lawDefOf, PySem.Challenge.pw_zo0024_01]
  simp only [List.take_succ_cons, List.take_zero, List.drop_succ_cons, List.drop_zero]
  k_steps
  rename News _ _ _ _ => N9
  rename Fr _ _ _ _ => F9
  refine my_forL (σ := Int × Tok × Int × Tok) (l := aL) (vs := lv) (nn := nl) (fun c => led) (fun c => [(PySem.Str.ofString "best", .int c.1 c.2.1), (PySem.Str.ofString "gain", .int c.2.2.1 c.2.2.2)]) [PySem.Str.ofString "price", PySem.Str.ofString "size"]
    (fun i c => BestTo R ks ws (ls.take i) c.1 c.2.2.1) (_, _, _, _) rfl (fun _ => hmL) F9 N9 (List.forall_mem_cons.mpr ⟨by rfl, List.forall_mem_cons.mpr ⟨by rfl, List.forall_mem_nil _⟩⟩) ?start ?turn ?done
  case start => exact .inl ⟨rfl, (by decide : (-1 : Int) < 0)⟩
  case turn =>
    clear F9 N9
    intro c i v ui hi tki I oI hv hoI hfI hP Fi Ni
    obtain ⟨x, t, hx, rfl⟩ := IntsAre.item hL hv
    rw [List.getElem?_map] at hx
    obtain ⟨n, hn, rfl⟩ := Option.map_eq_some_iff.mp hx
    have hn5 := hl5 n (List.mem_of_getElem? hn)
    have hkn : ks[n]? = some (ks.getD n 0) := by rw [List.getD_eq_getElem?_getD, List.getElem?_eq_getElem (by omega)]; rfl
    have hwn : ws[n]? = some (ws.getD n 0) := by rw [List.getD_eq_getElem?_getD, List.getElem?_eq_getElem (by omega)]; rfl
    have hk27 := hks _ (List.mem_of_getElem? hkn)
    obtain ⟨th, hHn⟩ := hH.get (i := n) (by simp; omega)
    have eH : (ks.map headS).getD n #[] = headS (ks.getD n 0) := by rw [List.getD_eq_getElem?_getD, List.getElem?_map, hkn]; rfl
    rw [eH] at hHn
    obtain ⟨tw, hWn⟩ := hW.get n _ hwn
    have htake : ls.take (i + 1) = ls.take i ++ [n] := by rw [List.take_add_one, hn]; rfl
    rw [htake]
    refine (wpAny_execs_pre (pickBody.take 2) (rest := pickBody.drop 2) ?_ : wpAny _ _ (execs (pickBody.take 2 ++ pickBody.drop 2) (lawEnv L)) _ _ _)
    obtain ⟨Fi2, s2⟩ := Fr.namedE Fi [(PySem.Str.ofString "row", .ref aR), (PySem.Str.ofString "heads", .ref aH), (PySem.Str.ofString "k", .int (n : Int) t)] (List.forall_mem_cons.mpr ⟨by rfl, List.forall_mem_cons.mpr ⟨by rfl, List.forall_mem_cons.mpr ⟨by rfl, List.forall_mem_nil _⟩⟩⟩)
    refine segPrice (k := (n : Int)) (key := ks.getD n 0) B X T hR hRl (by omega) (by omega) hk27 (by simpa using hHn) (.tail _ hmR) (.tail _ hmH) Fi2 Ni ?_
    intro h2 tk2 m2 t2 hm2 F2 N2
    clear Fi Fi2 Ni hv hx eH hkn hwn
    have w1 : m2 (PySem.Str.ofString "worth") = some (.ref aW) := (hm2 _ (by decide +kernel) (by decide +kernel)).trans (by rfl)
    have w2 : m2 (PySem.Str.ofString "k") = some (.int (n : Int) t) := (hm2 _ (by decide +kernel) (by decide +kernel)).trans (by rfl)
    have w3 : m2 (PySem.Str.ofString "best") = some (.int c.1 c.2.1) := (hm2 _ (by decide +kernel) (by decide +kernel)).trans (by rfl)
    have w4 : m2 (PySem.Str.ofString "gain") = some (.int c.2.2.1 c.2.2.2) := (hm2 _ (by decide +kernel) (by decide +kernel)).trans (by rfl)
    obtain ⟨F3, s3⟩ := Fr.namedE F2 [(PySem.Str.ofString "price", .int (priceTo R (ks.getD n 0) 3) t2), (PySem.Str.ofString "worth", .ref aW), (PySem.Str.ofString "k", .int (n : Int) t), (PySem.Str.ofString "best", .int c.1 c.2.1), (PySem.Str.ofString "gain", .int c.2.2.1 c.2.2.2)]
      (List.forall_mem_cons.mpr ⟨by rfl, List.forall_mem_cons.mpr ⟨w1, List.forall_mem_cons.mpr ⟨w2, List.forall_mem_cons.mpr ⟨w3, List.forall_mem_cons.mpr ⟨w4, List.forall_mem_nil _⟩⟩⟩⟩⟩)
    dsimp only
    refine segBest (aW := aW) (n := (n : Int)) B X T (by omega) (by omega) (by simpa using hWn) (.tail _ hmW) F3 N2 ?_ ?_
    · intro hc h' tk' m' t4 t5 hm' F4 N4
      show Hold (ForTo _ _ _ _ _ _ _ _ _ _ _ _)
      refine forTo ((n : Int), t4, ws.getD n 0 - priceTo R (ks.getD n 0) 3, t5) F4 N4 (.head _) (fun p hp => .tail _ hp) hfI (List.forall_mem_cons.mpr ⟨by rfl, List.forall_mem_cons.mpr ⟨by rfl, List.forall_mem_nil _⟩⟩) ?_ (best_take hP hc)
      intro z h1 h2 h3
      have g1 : z ≠ PySem.Str.ofString "best" := h2 _ (.head _)
      have g2 : z ≠ PySem.Str.ofString "gain" := h2 _ (.tail _ (.head _))
      have g3 : z ≠ PySem.Str.ofString "price" ∧ z ≠ PySem.Str.ofString "size" := by simpa using h3
      have g4 := hm' z g1 g2
      have g5 := hm2 z g3.1 g3.2
      rw [s3] at g4
      rw [s2] at g5
      refine Eq.trans (b := m' z) (by simp only [kstB, g1, g2, if_false]) ?_
      rw [g4]
      simp only [kstB, g3.1, if_false]
      rw [g5]
      simp [kstB, h1, g1, g2, g3.1, g3.2]
    · intro hc1 hc2 h' tk' F4 N4
      show Hold (ForTo _ _ _ _ _ _ _ _ _ _ _ _)
      refine forTo c F4 N4 (.head _) (fun p hp => .tail _ hp) hfI (List.forall_mem_cons.mpr ⟨by rfl, List.forall_mem_cons.mpr ⟨by rfl, List.forall_mem_nil _⟩⟩) ?_ (best_keep hP hc1 hc2)
      intro z h1 h2 h3
      have g1 : z ≠ PySem.Str.ofString "best" := h2 _ (.head _)
      have g2 : z ≠ PySem.Str.ofString "gain" := h2 _ (.tail _ (.head _))
      have g3 : z ≠ PySem.Str.ofString "price" ∧ z ≠ PySem.Str.ofString "size" := by simpa using h3
      have g5 := hm2 z g3.1 g3.2
      rw [s2] at g5
      rw [s3]
      simp only [kstB, g3.1, if_false]
      rw [g5]
      simp [kstB, h1, g1, g2, g3.1, g3.2]
  case done =>
    clear F9 N9
    intro c ui hi tki hP Fi Ni
    dsimp only
    refine wpAny_execs_nil ?_
    have hll : lv.length = ls.length := by rw [hL.length, List.length_map]
    rw [hll, List.take_length] at hP
    unfold Hold at hcont
    rcases hP with ⟨e, _⟩ | ⟨b, hb, e1, e2, e3⟩
    · exact absurd e hne
    · obtain ⟨c1, c2, c3, c4⟩ := c
      dsimp only at e1 e2 Fi
      subst e1 e2
      refine hcont _ _ _ b _ _ hb e3 ?_ (Fr.named Fi [(PySem.Str.ofString "best", _), (PySem.Str.ofString "gain", _)] (List.forall_mem_cons.mpr ⟨by rfl, List.forall_mem_cons.mpr ⟨by rfl, List.forall_mem_nil _⟩⟩)) Ni
      intro z h1 h2 h3 h4 h5
      simp [kstB, h1, h2, h3, h4, h5]
end Mine
end
section
open PySem PySem.W PyProof.Rows PySem.Calls PySem.Spec
set_option Elab.async false
set_option maxRecDepth 100000
set_option maxHeartbeats 8000000
set_option linter.unusedVariables false
namespace Mine
theorem fillNH_ (w : World) (h : Heap) : (Head.hc.heap_39 w.params).In h → PySem.Challenge.rw_zo0024_01.row.prog = PySem.Challenge.rw_zo0024_01.row.prog := by k_fill; intro _; w_top off; rfl
/-- the rungs, their keys in order -/
structure RungsIs (gv : List Value) (G : List Nat) : Prop where
  are : StrsAre gv (G.map gS)
  sorted : G.Pairwise (· ≤ ·)
  small : ∀ k ∈ G, ∃ x < 27, k ∈ gkeys x
theorem StrsAre.item {vs : List Value} {ns : List PySem.Str} (h : StrsAre vs ns) {i : Nat} {v : Value} (e : vs[i]? = some v) : ∃ x t, ns[i]? = some x ∧ v = .str x t := by
  have hi : i < ns.length := by rw [← StrsAre.length h]; exact (List.getElem?_eq_some_iff.mp e).1
  obtain ⟨t, e2⟩ := h.get i ns[i] (List.getElem?_eq_getElem hi)
  rw [e] at e2
  exact ⟨_, t, List.getElem?_eq_getElem hi, Option.some.inj e2⟩
theorem RungsIs.len {rv : List Value} {R : List Nat} (h : RungsIs rv R) : rv.length = R.length := by rw [StrsAre.length h.are, List.length_map]
theorem RungsIs.item {rv : List Value} {R : List Nat} (h : RungsIs rv R) {i : Nat} {v : Value} (e : rv[i]? = some v) : ∃ k t, R[i]? = some k ∧ (∃ x < 27, k ∈ gkeys x) ∧ v = .str (gS k) t := by
  obtain ⟨x, t, e2, rfl⟩ := StrsAre.item h.are e
  rw [List.getElem?_map] at e2
  obtain ⟨k, e3, rfl⟩ := Option.map_eq_some_iff.mp e2
  exact ⟨k, t, e3, h.small k (List.mem_of_getElem? e3), rfl⟩
theorem rung_lt {p q : Nat} (hp : ∃ x < 27, p ∈ gkeys x) (hq : ∃ x < 27, q ∈ gkeys x) : decide ((gS p).cps.toList < (gS q).cps.toList) = decide (p < q) := by
  obtain ⟨x, hx, hp⟩ := hp
  obtain ⟨y, hy, hq⟩ := hq
  exact cmp_rung ⟨x, hx⟩ ⟨y, hy⟩ p hp q hq
theorem rungs_cmpL {w : World} {gv : List Value} {G : List Nat} (h : RungsIs gv G) {q : Nat} {t : Tok} (hq : ∃ x < 27, q ∈ gkeys x) : ∀ i v, gv[i]? = some v → CmpIs w .Lt v (.str (gS q) t) (decide (i < cnt G q)) := fun i v e A Q E s _ hQ => by
  obtain ⟨k, t', e2, hk, rfl⟩ := h.item e
  refine P.lt_str ?_
  rw [rung_lt hk hq]
  have : decide (k < q) = decide (i < cnt G q) := decide_eq_decide.mpr (cnt_iff h.sorted e2)
  rw [this]; exact hQ
theorem rungs_cmpR {w : World} {gv : List Value} {G : List Nat} (h : RungsIs gv G) {q : Nat} {t : Tok} (hq : ∃ x < 27, q ∈ gkeys x) : ∀ i v, gv[i]? = some v → CmpIs w .Lt (.str (gS q) t) v (decide (cnt G (q + 1) ≤ i)) := fun i v e A Q E s _ hQ => by
  obtain ⟨k, t', e2, hk, rfl⟩ := h.item e
  refine P.lt_str ?_
  rw [rung_lt hq hk]
  have : decide (q < k) = decide (cnt G (q + 1) ≤ i) := decide_eq_decide.mpr (by have := cnt_iff (c := q + 1) h.sorted e2; omega)
  rw [this]; exact hQ
def tally (G : List Nat) (p : Nat) : Int := (cnt G (p + 1) : Int) - (cnt G p : Int)
theorem ne_no {prog : Program} {w : World} {A : Around} {E : Value → Shared → Prop} {s : Shared} {a b : Int} {t u : Tok} {Q : Value → Shared → Prop} (e : a = b) (h : Q (.bool false) s) : wpAny (model prog w) A (compareOp .NotEq (.int a t) (.int b u)) Q E s := by
  subst e
  exact PyProof.Rows.ne_int (by simpa using h)
theorem IntsAre.snoc {vs : List Value} {ns : List Int} (h : IntsAre vs ns) (n : Int) (t : Tok) : IntsAre (vs ++ [.int n t]) (ns ++ [n]) := by
  induction h with
  | nil => exact .cons n t .nil
  | cons a b _ ih => exact .cons a b ih
local macro_rules | `(tactic| walk_at "eval ListComp") => `(tactic| ((rename Fr _ _ _ _ => F9); k_dflt (refine my_Comp F9 (by rfl) (by decide) rfl (by decide) rfl ?_)))
local macro_rules | `(tactic| walk_at "subscriptTail") => `(tactic| ((with_reducible show wpAny _ _ (subscriptTail _ _ (Value.ref _) (Value.int _ _)) _ _ _); (rename News _ _ _ _ => N9); (refine item_at (News.isList N9 (by first | assumption | exact .tail _ (by assumption))) (by assumption) (by omega) (by assumption) ?_)))
local macro_rules | `(tactic| walk_at "call ref") => `(tactic| ((with_reducible show wpAny _ _ (call (Value.ref 86) [_, _]) _ _ _); (rename RungsIs _ _ => hR9); k_dflt (refine' Mine.bisL ?W ?d ?u ?L ?len ?r (rungs_cmpL hR9 (by assumption)) ?_; (case W => exact At.of (by assumption) (by assumption) (by assumption) (by assumption) rfl rfl rfl); (case d => ktr_room); (case u => ktr_units); (case L => exact News.isList (by assumption) (by first | assumption | exact .tail _ (.tail _ (.tail _ (by assumption))))); (case len => (rw [RungsIs.len hR9]; omega)); (case r => (rw [RungsIs.len hR9]; exact cnt_le _ _))); intro t9 h9 tk9 k9; (rename Fr _ _ _ _ => F9); (rename News _ _ _ _ => N9); (replace F9 := Fr.after F9 k9); (replace N9 := newsAfter N9 k9); clear k9))
local macro_rules | `(tactic| walk_at "call ref") => `(tactic| ((with_reducible show wpAny _ _ (call (Value.ref 68) [_, _]) _ _ _); (rename RungsIs _ _ => hR9); k_dflt (refine' Mine.bisR ?W ?d ?u ?L ?len ?r (rungs_cmpR hR9 (by assumption)) ?_; (case W => exact At.of (by assumption) (by assumption) (by assumption) (by assumption) rfl rfl rfl); (case d => ktr_room); (case u => ktr_units); (case L => exact News.isList (by assumption) (by first | assumption | exact .tail _ (.tail _ (.tail _ (by assumption))))); (case len => (rw [RungsIs.len hR9]; omega)); (case r => (rw [RungsIs.len hR9]; exact cnt_le _ _))); intro t9 h9 tk9 k9; (rename Fr _ _ _ _ => F9); (rename News _ _ _ _ => N9); (replace F9 := Fr.after F9 k9); (replace N9 := newsAfter N9 k9); clear k9))
local macro_rules | `(tactic| walk_at "eval Name") => `(tactic| ((with_reducible show wpAny _ _ (eval (Expr.Name (PySem.Str.ofString "rungs") _) (compEnvC _ _ _ _)) _ _ _); (rename News _ _ _ _ => N9); k_dflt (refine kcf_cell N9 (by rfl) (.tail _ (.tail _ (.tail _ (by assumption)))) (by assumption) ?_)))
set_option pp.deepTerms.threshold 8
theorem segCheck {w : World} {p : Program} {loose : List PySem.Str} {mean : ExcName → Option Value} {mg mb : PySem.Str → Option Value} {s : Shared} {Q : Flow → Shared → Prop} {h₀ : Heap} {L : Addr} {m : PySem.Str → Option Value} {led : List (Addr × Obj)}
  {aG aW aLd aD : Addr} {gv vW vL dv : List Value} {ng nW nL nd : Nat} {G : List Nat} {x : Nat} {b g wn : Int} {t0 t1 tw : Tok} {oc : Obj} (B : Below callerA h₀ [] h₀) (X : (Head.hc.heap_39 w.params).In h₀) (T : Top p loose mean mg mb h₀)
  (hG : RungsIs gv G) (hGl : G.length ≤ 20) (hx : x < 27) (hb0 : 0 ≤ b) (hb5 : b < 5) (hWn : vW[b.toNat]? = some (.int wn tw)) (hLn : vL[b.toNat]? = some (.ref aD)) (hS : StrsAre dv (dots (rungs4 x)))
  (hmG : (aG, listOf gv.toArray ng) ∈ led) (hmW : (aW, listOf vW.toArray nW) ∈ led) (hmL : (aLd, listOf vL.toArray nL) ∈ led) (hmD : (aD, listOf dv.toArray nd) ∈ led) (hmC : (L + 1 + 1, oc) ∈ led) (hoc : oc.data = .cell (some (.ref aG)))
  (heq : wn - g = ((gkeys x).map (tally G)).sum)
  (F : Fr h₀ L s.heap (kstB m [(PySem.Str.ofString "worth", .ref aW), (PySem.Str.ofString "ladders", .ref aLd), (PySem.Str.ofString "best", .int b t0), (PySem.Str.ofString "gain", .int g t1)]))
  (N : News h₀ L s.heap led)
  (hcont : ∀ h' tk', Fr h₀ L h' (kstB m [(PySem.Str.ofString "worth", .ref aW), (PySem.Str.ofString "ladders", .ref aLd), (PySem.Str.ofString "best", .int b t0), (PySem.Str.ofString "gain", .int g t1)]) → News h₀ L h' led → Q .next { s with heap := h', toks := tk' }) :
  wpAny (model PrgW w) (callerA.deeper (lawEnv L)) (execs ((whileBody.drop 3).take 1) (lawEnv L)) Q (fun _ _ => False) s := by
  replace hcont := Hold.mk hcont
  dsimp only [whileBody, lawEnv, lawDef, lastOf, lawDefOf, PySem.Challenge.pw_zo0024_01]
  simp only [List.take_succ_cons, List.take_zero, List.drop_succ_cons, List.drop_zero]
  have hSG : StrsAre dv ((gkeys x).map gS) := by rw [← gkeys_fin ⟨x, hx⟩]; exact hS
  have hlen : dv.length = 4 := by rw [StrsAre.length hSG]; rfl
  k_steps
  rename Fr _ _ _ _ => F9
  rename News _ _ _ _ => N9
  refine LCg.CompSrc.ledger (its := dv.toArray) rfl F9 N9 hmD (by rw [sizeLine_eq, List.size_toArray]; omega) (fun g9 => ?_)
  refine compBy (n := dv.toArray.size) (fun i ys => IntsAre ys (((gkeys x).take i).map (tally G))) (.inr ⟨_, hmD, rfl, _, rfl⟩) ?turn ?done dv.toArray.size 0 [] (Nat.zero_add _) .nil
  case turn =>
    intro i ys v I oI C oC D m₂ h tk E' hi hv hy hC hx2 F1 N1 off ne
    have hv' : dv[i]? = some v := by simpa using hv
    obtain ⟨str, t, e2, rfl⟩ := StrsAre.item hSG hv'
    rw [List.getElem?_map] at e2
    obtain ⟨q, e3, rfl⟩ := Option.map_eq_some_iff.mp e2
    have hq : ∃ x < 27, q ∈ gkeys x := ⟨x, hx, List.mem_of_getElem? e3⟩
    have hs : ((gkeys x).take (i + 1)).map (tally G) = ((gkeys x).take i).map (tally G) ++ [tally G q] := by
      rw [List.take_add_one, e3]; simp
    rw [hs]
    clear F9 N9 hv hv' e2 e3 hs
    k_steps
    rename Fr _ _ _ _ => F9
    rename News _ _ _ _ => N9
    exact compTo F9 N9 (fun p hp => hp) (IntsAre.snoc hy _ _)
  case done =>
    intro ys hy D h' tk' F8 N8 _
    clear F9 N9
    rw [List.take_of_length_le (by rw [List.size_toArray, hlen]; exact Nat.le_refl 4)] at hy
    k_steps
    all_goals first
      | exact absurd heq (by assumption)
      | (rename Fr _ _ _ _ => F7; rename News _ _ _ _ => N7; unfold Hold at hcont; exact hcont _ _ F7 (fun p hp => N7 p (.tail _ hp)))
end Mine
end
section
open PySem PySem.W PyProof.Rows PySem.Calls PySem.Spec
set_option Elab.async false
set_option maxRecDepth 100000
set_option maxHeartbeats 8000000
set_option linter.unusedVariables false
namespace Mine
theorem fillNI_ (w : World) (h : Heap) : (Head.hc.heap_39 w.params).In h → PySem.Challenge.rw_zo0024_01.row.prog = PySem.Challenge.rw_zo0024_01.row.prog := by k_fill; intro _; w_top off; rfl
def insAt (R : List Nat) (c key : Nat) : List Nat := R.take (cnt R c) ++ key :: R.drop (cnt R c)
theorem insAt_perm (R : List Nat) (c key : Nat) : (insAt R c key).Perm (key :: R) := by
  unfold insAt
  exact (List.perm_middle).trans (by rw [List.take_append_drop])
theorem insAt_length (R : List Nat) (c key : Nat) : (insAt R c key).length = R.length + 1 := by rw [(insAt_perm R c key).length_eq, List.length_cons]
theorem insAt_sorted {R : List Nat} {c key : Nat} (hs : R.Pairwise (· ≤ ·)) (hc : c = key ∨ c = key + 1) : (insAt R c key).Pairwise (· ≤ ·) := by
  have hlo : ∀ k ∈ R.take (cnt R c), k < c := fun k hk => by
    obtain ⟨i, hi⟩ := List.getElem?_of_mem hk
    have h1 : i < cnt R c := by
      have := (List.getElem?_eq_some_iff.mp hi).1
      rw [List.length_take] at this; omega
    rw [List.getElem?_take, if_pos h1] at hi
    exact (cnt_iff hs hi).mpr h1
  have hhi : ∀ k ∈ R.drop (cnt R c), ¬ k < c := fun k hk q => by
    obtain ⟨i, hi⟩ := List.getElem?_of_mem hk
    rw [List.getElem?_drop] at hi
    have := (cnt_iff hs hi).mp q
    omega
  unfold insAt
  have hsp := hs
  rw [← List.take_append_drop (cnt R c) R] at hsp
  obtain ⟨p1, p2, p3⟩ := List.pairwise_append.mp hsp
  refine List.pairwise_append.mpr ⟨p1, List.pairwise_cons.mpr ⟨fun k hk => by have := hhi k hk; omega, p2⟩, fun a ha b hb => ?_⟩
  rcases List.mem_cons.mp hb with rfl | hb
  · have := hlo a ha; omega
  · exact p3 a ha b hb
theorem BysAre.append {vs ws : List Value} {ns ms : List (Array UInt8)} (h : BysAre vs ns) (g : BysAre ws ms) : BysAre (vs ++ ws) (ns ++ ms) := by
  induction h with
  | nil => exact g
  | cons a b _ ih => exact .cons a b ih
theorem BysAre.take {vs : List Value} {ns : List (Array UInt8)} (h : BysAre vs ns) : ∀ r : Nat, BysAre (vs.take r) (ns.take r) := by
  induction h with
  | nil => intro r; simp; exact .nil
  | cons a b _ ih =>
    intro r
    cases r with
    | zero => exact .nil
    | succ r => exact .cons a b (ih r)
theorem BysAre.drop {vs : List Value} {ns : List (Array UInt8)} (h : BysAre vs ns) : ∀ r : Nat, BysAre (vs.drop r) (ns.drop r) := by
  induction h with
  | nil => intro r; simp; exact .nil
  | cons a b h0 ih =>
    intro r
    cases r with
    | zero => exact .cons a b h0
    | succ r => exact ih r
theorem row_ins {rv : List Value} {R : List Nat} (h : RowIs rv R) {key c : Nat} {t : Tok} (hc : c = key ∨ c = key + 1) (hk : key < 27) : RowIs (rv.take (cnt R c) ++ .bytes (headS key) t :: rv.drop (cnt R c)) (insAt R c key) := by
  refine ⟨?_, insAt_sorted h.sorted hc, fun k hk' => ?_⟩
  · unfold insAt
    rw [List.map_append, List.map_cons, List.map_take, List.map_drop]
    exact (h.are.take _).append (.cons _ t (h.are.drop _))
  · rcases List.mem_cons.mp ((insAt_perm R c key).mem_iff.mp hk') with rfl | h'
    · exact hk
    · exact h.small k h'
theorem rungs_ins {gv : List Value} {G : List Nat} (h : RungsIs gv G) {key c : Nat} {t : Tok} (hc : c = key ∨ c = key + 1) (hk : ∃ x < 27, key ∈ gkeys x) : RungsIs (gv.take (cnt G c) ++ .str (gS key) t :: gv.drop (cnt G c)) (insAt G c key) := by
  refine ⟨?_, insAt_sorted h.sorted hc, fun k hk' => ?_⟩
  · unfold insAt
    rw [List.map_append, List.map_cons, List.map_take, List.map_drop]
    exact StrsAre.append' (StrsAre.take' h.are _) (.cons _ t (StrsAre.drop' h.are _))
  · rcases List.mem_cons.mp ((insAt_perm G c key).mem_iff.mp hk') with rfl | h'
    · exact hk
    · exact h.small k h'
theorem row_cmpR {w : World} {rv : List Value} {R : List Nat} (h : RowIs rv R) {key : Nat} {t : Tok} (hk : key < 27) : ∀ i v, rv[i]? = some v → CmpIs w .Lt (.bytes (headS key) t) v (decide (cnt R (key + 1) ≤ i)) := fun i v e A Q E s _ hQ => by
  obtain ⟨k, t', e2, hk', rfl⟩ := h.item e
  refine lt_bytes ?_
  rw [cmp_head ⟨key, hk⟩ ⟨k, hk'⟩]
  have : decide (key < k) = decide (cnt R (key + 1) ≤ i) := decide_eq_decide.mpr (by have := cnt_iff (c := key + 1) h.sorted e2; omega)
  rw [this]; exact hQ
theorem Fr.putK {h₀ h h' : Heap} {L b : Addr} {m : PySem.Str → Option Value} (F : Fr h₀ L h m) (hL : b ≠ L) (h0 : h₀.get? b = none) (k : ∀ c o, h.get? c = some o → c ≠ b → h'.get? c = some o) : Fr h₀ L h' m := by
  obtain ⟨oL, a1, a2, hL', a3⟩ := F.ns
  exact ⟨⟨oL, a1, a2, k _ _ hL' (Ne.symm hL), a3⟩, fun c o e => k c o (F.keep c o e) (fun q => by rw [q, h0] at e; cases e), F.above⟩
theorem newsPut {h₀ h h' : Heap} {L b : Addr} {o o' : Obj} {rest : List (Addr × Obj)} (N : News h₀ L h ((b, o) :: rest)) (hoff : ∀ p ∈ rest, p.1 ≠ b) (k : ∀ c o, h.get? c = some o → c ≠ b → h'.get? c = some o) (ho : h'.get? b = some o') : News h₀ L h' ((b, o') :: rest) := fun p hp => by
  rcases List.mem_cons.mp hp with rfl | hp
  · exact ⟨ho, (N (b, o) (.head _)).2⟩
  · exact ⟨k _ _ (N p (.tail _ hp)).1 (hoff p hp), (N p (.tail _ hp)).2⟩
theorem news_one {h₀ h : Heap} {L : Addr} {x : Addr × Obj} {rest : List (Addr × Obj)} (N : News h₀ L h (x :: rest)) : News h₀ L h [x] := fun p hp => N p (by rw [List.mem_singleton.mp hp]; exact .head _)
local macro_rules | `(tactic| walk_at "subscriptTail") => `(tactic| ((with_reducible show wpAny _ _ (subscriptTail _ _ (Value.ref _) (Value.int _ _)) _ _ _); (rename News _ _ _ _ => N9); (refine item_at (News.isList N9 (by exact .tail _ (by assumption))) (by assumption) (by omega) (by assumption) ?_)))
theorem name_cell {M : Model} {A : Around} {E : Value → Shared → Prop} {s : Shared} {h₀ : Heap} {L c : Addr} {o : Obj} {news : List (Addr × Obj)} {env : Env} {y : PySem.Str} {pos : Pos} {v : Value} {Q : Value → Shared → Prop} (N : News h₀ L s.heap news) (hc : env.cells.lookup y = some c) (hm : (c, o) ∈ news) (hd : o.data = .cell (some v)) (h : Q v s)
    (hk : env.scope.kind = .function := by rfl) (hx : env.kindOf y = some .cell := by rfl) (hb : (y == ("__debug__" : PySem.Str)) = false := by decide) : wpAny M A (eval (.Name y pos) env) Q E s :=
  wpAny_Name (wpAny_loadName_cell hk hx hc ⟨o, N.get hm, hd⟩ h) hb
local macro_rules | `(tactic| walk_at "call ref") => `(tactic| ((with_reducible show wpAny _ _ (call (Value.ref 59) [_, _]) _ _ _); (rename RowIs _ _ => hR9); (rename Fr _ _ _ _ => F9); (rename News _ _ _ _ => N9); (rename Below _ _ _ _ => B9); (rename Frag.In _ _ => X9); (rename Top _ _ _ _ _ _ => T9); k_dflt (refine' Mine.insR B9 F9 X9 T9 (news_one N9) ?hf ?hke ?d ?u ?len ?r (row_cmpR hR9 (by assumption)) ?_; (case hf => rfl); (case hke => rfl); (case d => ktr_room); (case u => ktr_units); (case len => (rw [RowIs.len hR9]; omega)); (case r => (rw [RowIs.len hR9]; exact cnt_le _ _))); intro h9 tk9 k9 at9; k_dflt (have F9' := Fr.putK F9 (N9 _ (.head _)).2.1 (N9 _ (.head _)).2.2 k9); k_dflt (have N9' := newsPut N9 (by assumption) k9 at9); clear k9 at9 F9 N9))
set_option pp.deepTerms.threshold 8
theorem segInsR {w : World} {p : Program} {loose : List PySem.Str} {mean : ExcName → Option Value} {mg mb : PySem.Str → Option Value} {s : Shared} {Q : Flow → Shared → Prop} {E : Value → Shared → Prop} {h₀ : Heap} {L : Addr} {m : PySem.Str → Option Value} {led : List (Addr × Obj)}
  {aR aH : Addr} {rv vH : List Value} {nr nH : Nat} {R : List Nat} {b : Int} {key : Nat} {t0 th : Tok} (B : Below callerA h₀ [] h₀) (X : (Head.hc.heap_39 w.params).In h₀) (T : Top p loose mean mg mb h₀)
  (hR : RowIs rv R) (hRl : R.length ≤ 5) (hb0 : 0 ≤ b) (hb5 : b < 5) (hkey : key < 27) (hH : vH[b.toNat]? = some (.bytes (headS key) th)) (hmH : (aH, listOf vH.toArray nH) ∈ led) (hoff : ∀ p ∈ led, p.1 ≠ aR)
  (F : Fr h₀ L s.heap (kstB m [(PySem.Str.ofString "row", .ref aR), (PySem.Str.ofString "heads", .ref aH), (PySem.Str.ofString "best", .int b t0)]))
  (N : News h₀ L s.heap ((aR, listOf rv.toArray nr) :: led))
  (hcont : ∀ h' tk' rv', RowIs rv' (insAt R (key + 1) key) → Fr h₀ L h' (kstB m [(PySem.Str.ofString "row", .ref aR), (PySem.Str.ofString "heads", .ref aH), (PySem.Str.ofString "best", .int b t0)]) → News h₀ L h' ((aR, listOf rv'.toArray (nr + 1)) :: led) → Q .next { s with heap := h', toks := tk' }) :
  wpAny (model PrgW w) (callerA.deeper (lawEnv L)) (execs ((whileBody.drop 4).take 1) (lawEnv L)) Q E s := by
  replace hcont := Hold.mk hcont
  dsimp only [whileBody, lawEnv, lawDef, lastOf, lawDefOf, PySem.Challenge.pw_zo0024_01]
  simp only [List.take_succ_cons, List.take_zero, List.drop_succ_cons, List.drop_zero]
  k_steps
  rename Fr _ _ _ _ => F9
  rename News _ _ _ _ => N9
  unfold Hold at hcont
  exact hcont _ _ _ (row_ins (t := th) (by assumption) (.inr rfl) hkey) F9 N9
local macro_rules | `(tactic| walk_at "exec For Name Subscript cons nil") => `(tactic| ((rename Fr _ _ _ _ => F9); k_dflt (refine my_ForF F9 rfl rfl ?_)))
local macro_rules | `(tactic| walk_at "call ref") => `(tactic| ((with_reducible show wpAny _ _ (call (Value.ref 77) [_, _]) _ _ _); (rename RungsIs _ _ => hR9); (rename Fr _ _ _ _ => F9); (rename News _ _ _ _ => N9); (rename Below _ _ _ _ => B9); (rename Frag.In _ _ => X9); (rename Top _ _ _ _ _ _ => T9); k_dflt (refine' Mine.insL B9 F9 X9 T9 (news_one N9) ?hf ?hke ?d ?u ?len ?r (rungs_cmpL hR9 (by assumption)) ?_; (case hf => rfl); (case hke => rfl); (case d => ktr_room); (case u => ktr_units); (case len => (rw [RungsIs.len hR9]; omega)); (case r => (rw [RungsIs.len hR9]; exact cnt_le _ _))); intro h9 tk9 k9 at9; k_dflt (have F9' := Fr.putK F9 (N9 _ (.head _)).2.1 (N9 _ (.head _)).2.2 k9); k_dflt (have N9' := newsPut N9 (by assumption) k9 at9); clear k9 at9 F9 N9))
local macro_rules | `(tactic| walk_at "eval Name") => `(tactic| ((with_reducible show wpAny _ _ (eval (Expr.Name (PySem.Str.ofString "rungs") _) _) _ _ _); (rename News _ _ _ _ => N9); k_dflt (refine name_cell N9 (by rfl) (by assumption) (by assumption) ?_)))
theorem segInsL {w : World} {p : Program} {loose : List PySem.Str} {mean : ExcName → Option Value} {mg mb : PySem.Str → Option Value} {s : Shared} {Q : Flow → Shared → Prop} {h₀ : Heap} {L : Addr} {m : PySem.Str → Option Value} {led : List (Addr × Obj)}
  {aG aLd aD : Addr} {gv vL dv : List Value} {ng nL nd : Nat} {G : List Nat} {x : Nat} {b : Int} {t0 : Tok} {oc : Obj} (B : Below callerA h₀ [] h₀) (X : (Head.hc.heap_39 w.params).In h₀) (T : Top p loose mean mg mb h₀)
  (hG : RungsIs gv G) (hGl : G.length ≤ 20) (hx : x < 27) (hb0 : 0 ≤ b) (hb5 : b < 5) (hLn : vL[b.toNat]? = some (.ref aD)) (hS : StrsAre dv (dots (rungs4 x)))
  (hmL : (aLd, listOf vL.toArray nL) ∈ led) (hmD : (aD, listOf dv.toArray nd) ∈ led) (hmC : (L + 1 + 1, oc) ∈ led) (hoc : oc.data = .cell (some (.ref aG))) (hoff : ∀ p ∈ led, p.1 ≠ aG)
  (F : Fr h₀ L s.heap (kstB m [(PySem.Str.ofString "ladders", .ref aLd), (PySem.Str.ofString "best", .int b t0)]))
  (N : News h₀ L s.heap ((aG, listOf gv.toArray ng) :: led))
  (hcont : ∀ h' tk' gv' G' n' m', RungsIs gv' G' → G'.Perm (gkeys x ++ G) → (∀ z, z ≠ PySem.Str.ofString "rung" → m' z = kstB m [(PySem.Str.ofString "ladders", .ref aLd), (PySem.Str.ofString "best", .int b t0)] z) → Fr h₀ L h' m' → News h₀ L h' ((aG, listOf gv'.toArray n') :: led) → Q .next { s with heap := h', toks := tk' }) :
  wpAny (model PrgW w) (callerA.deeper (lawEnv L)) (execs ((whileBody.drop 5).take 1) (lawEnv L)) Q (fun _ _ => False) s := by
  replace hcont := Hold.mk hcont
  dsimp only [whileBody, lawEnv, lawDef, lastOf, lawDefOf, PySem.Challenge.pw_zo0024_01]
  simp only [List.take_succ_cons, List.take_zero, List.drop_succ_cons, List.drop_zero]
  have hSG : StrsAre dv ((gkeys x).map gS) := by rw [← gkeys_fin ⟨x, hx⟩]; exact hS
  have hlen : dv.length = 4 := by rw [StrsAre.length hSG]; rfl
  k_steps
  rename Fr _ _ _ _ => F9
  rename News _ _ _ _ => N9
  refine my_forL (σ := List Value × Nat × List Nat) (l := aD) (vs := dv) (nn := nd) (fun c => (aG, listOf c.1.toArray c.2.1) :: led) (fun c => []) []
    (fun i c => RungsIs c.1 c.2.2 ∧ c.2.2.Perm (((gkeys x).take i) ++ G)) (_, _, G) rfl (fun _ => .tail _ hmD) F9 N9 (List.forall_mem_nil _) ⟨hG, List.Perm.refl _⟩ ?turn ?done
  case turn =>
    clear F9 N9
    intro c i v ui hi tki I oI hv hoI hfI hP Fi Ni
    obtain ⟨hGi, hperm⟩ := hP
    obtain ⟨gvi, ngi, Gi⟩ := c
    dsimp only at hGi hperm Fi Ni hfI ⊢
    obtain ⟨str, t, e2, rfl⟩ := Mine.StrsAre.item hSG hv
    rw [List.getElem?_map] at e2
    obtain ⟨q, e3, rfl⟩ := Option.map_eq_some_iff.mp e2
    have hq : ∃ x < 27, q ∈ gkeys x := ⟨x, hx, List.mem_of_getElem? e3⟩
    have hs : (gkeys x).take (i + 1) = (gkeys x).take i ++ [q] := by
      rw [List.take_add_one, e3]; simp
    have hperm2 : (insAt Gi q q).Perm ((gkeys x).take (i + 1) ++ G) := by
      rw [hs]
      refine (insAt_perm Gi q q).trans ?_
      refine (List.Perm.cons q hperm).trans ?_
      rw [List.append_assoc]
      exact List.perm_middle.symm
    have hGl2 : Gi.length ≤ 24 := by
      have h1 := hperm.length_eq
      rw [List.length_append, List.length_take] at h1
      have h2 : (gkeys x).length = 4 := rfl
      omega
    have hoffI : ∀ p ∈ (I, oI) :: led, p.1 ≠ aG := by
      intro p hp
      rcases List.mem_cons.mp hp with rfl | hp
      · exact Ne.symm (hfI (aG, _) (.head _))
      · exact hoff p hp
    have Ni2 : News h₀ L hi ((aG, listOf gvi.toArray ngi) :: (I, oI) :: led) := fun p hp => Ni p (swap_mem hp)
    have hmC2 : (L + 1 + 1, oc) ∈ (aG, listOf gvi.toArray ngi) :: (I, oI) :: led := .tail _ (.tail _ hmC)
    clear Ni hoff hperm hs hv hmD hGl hG hS hSG
    k_steps
    rename Fr _ _ _ _ => F8
    rename News _ _ _ _ => N8
    show ForTo _ _ _ _ _ _ _ _ _ _ _ _
    refine forTo (_, ngi + 1, insAt Gi q q) F8 N8 (.tail _ (.head _)) ?m2 ?m3 (List.forall_mem_nil _) ?m5 ⟨rungs_ins (t := t) (by assumption) (.inl rfl) hq, hperm2⟩
    case m2 =>
      intro p hp
      rcases List.mem_cons.mp hp with rfl | hp
      · exact .head _
      · exact .tail _ (.tail _ hp)
    case m3 =>
      intro p hp
      rcases List.mem_cons.mp hp with rfl | hp
      · show aG ≠ I
        exact hfI (aG, _) (.head _)
      · exact hfI p (.tail _ hp)
    case m5 =>
      intro z h1 _ _
      simp [kstB, h1]
  case done =>
    clear F9 N9
    intro c ui hi tki hP Fi Ni
    dsimp only
    refine wpAny_execs_nil ?_
    obtain ⟨hGi, hperm⟩ := hP
    rw [hlen] at hperm
    unfold Hold at hcont
    refine hcont _ _ _ _ _ _ hGi hperm ?_ Fi Ni
    intro z hz
    simp [kstB, hz]
theorem left_remove : ∀ {lv : List Value} {ls : List Nat} {b : Nat}, IntsAre lv (natInts ls) → b ∈ ls → ∃ j q, kf_ints lv = true ∧ kf_at (b : Int) lv = some j ∧ ki_delL lv j = some q ∧ IntsAre q (natInts (ls.erase b))
  | _, [], b, _, hb => nomatch hb
  | _, a :: ls, b, h, hb => by
    obtain ⟨t, lv, rfl, h2⟩ := IntsAre.cons_inv (n := (a : Int)) (ns := natInts ls) h
    by_cases q : a = b
    · subst q
      refine ⟨0, lv, ?_, ?_, rfl, by rw [List.erase_cons_head]; exact h2⟩
      · show kf_ints lv = true
        have key : ∀ {lv : List Value} {ns : List Int}, IntsAre lv ns → kf_ints lv = true := by
          intro lv ns h
          induction h with
          | nil => rfl
          | cons _ _ _ ih => exact ih
        exact key h2
      · unfold kf_at
        have : isInt (a : Int) (Value.int (a : Int) t) = true := by simp [isInt]
        rw [this]; rfl
    · have hb' : b ∈ ls := by
        rcases List.mem_cons.mp hb with rfl | hb
        · exact absurd rfl q
        · exact hb
      obtain ⟨j, r, e0, e1, e2, e3⟩ := left_remove h2 hb'
      refine ⟨j + 1, .int a t :: r, e0, ?_, ?_, ?_⟩
      · unfold kf_at
        have : isInt (b : Int) (Value.int (a : Int) t) = false := by simp [isInt]; omega
        rw [this, e1]; rfl
      · unfold ki_delL; rw [e2]
      · rw [List.erase_cons_tail (by simpa using q)]
        exact .cons _ t e3
local macro_rules | `(tactic| walk_at "getMethod ref") => `(tactic| ((with_reducible show wpAny _ _ (getMethod (Value.ref _) (PySem.Str.ofString "remove") _) _ _ _); (rename News _ _ _ _ => N9); k_dflt (refine kf_method N9 (.head _) PySem.F.slot_list_remove PySem.F.type_list_remove ?_)))
local macro_rules | `(tactic| walk_at "getMethod ref") => `(tactic| ((with_reducible show wpAny _ _ (getMethod (Value.ref _) (PySem.Str.ofString "append") _) _ _ _); (rename News _ _ _ _ => N9); k_dflt (refine kf_method N9 (.head _) PySem.F.slot_list_append PySem.F.type_list_append ?_)))
local macro_rules | `(tactic| walk_at "call builtin:list.remove") => `(tactic| ((rename Fr _ _ _ _ => F9); (rename News _ _ _ _ => N9); k_dflt (refine kf_remove F9 N9 (by assumption) (by assumption) (by assumption) (Upd.head (by assumption)) (by rw [sizeLine_eq]; simp; omega) ?_); intro h9 F9' N9'; clear F9 N9))
theorem segRemove {w : World} {p : Program} {loose : List PySem.Str} {mean : ExcName → Option Value} {mg mb : PySem.Str → Option Value} {s : Shared} {Q : Flow → Shared → Prop} {E : Value → Shared → Prop} {h₀ : Heap} {L : Addr} {m : PySem.Str → Option Value} {led : List (Addr × Obj)}
  {aF : Addr} {lv : List Value} {nf : Nat} {ls : List Nat} {b : Nat} {t0 : Tok} (B : Below callerA h₀ [] h₀) (X : (Head.hc.heap_39 w.params).In h₀) (T : Top p loose mean mg mb h₀)
  (hL : IntsAre lv (natInts ls)) (hb : b ∈ ls) (hl5 : ls.length ≤ 5) (hoff : ∀ p ∈ led, p.1 ≠ aF)
  (F : Fr h₀ L s.heap (kstB m [(PySem.Str.ofString "left", .ref aF), (PySem.Str.ofString "best", .int (b : Int) t0)]))
  (N : News h₀ L s.heap ((aF, listOf lv.toArray nf) :: led))
  (hcont : ∀ h' tk' lv' n', IntsAre lv' (natInts (ls.erase b)) → Fr h₀ L h' (kstB m [(PySem.Str.ofString "left", .ref aF), (PySem.Str.ofString "best", .int (b : Int) t0)]) → News h₀ L h' ((aF, listOf lv'.toArray n') :: led) → Q .next { s with heap := h', toks := tk' }) :
  wpAny (model PrgW w) (callerA.deeper (lawEnv L)) (execs ((whileBody.drop 6).take 1) (lawEnv L)) Q E s := by
  replace hcont := Hold.mk hcont
  dsimp only [whileBody, lawEnv, lawDef, lastOf, lawDefOf, PySem.Challenge.pw_zo0024_01]
  simp only [List.take_succ_cons, List.take_zero, List.drop_succ_cons, List.drop_zero]
  obtain ⟨j, q, e0, e1, e2, e3⟩ := left_remove hL hb
  have hll : lv.length ≤ 5 := by rw [hL.length, List.length_map]; exact hl5
  k_steps
  rename Fr _ _ _ _ => F9
  rename News _ _ _ _ => N9
  unfold Hold at hcont
  exact hcont _ _ _ _ e3 F9 N9
local macro_rules | `(tactic| walk_at "call builtin:list.append") => `(tactic| ((with_reducible show wpAny _ _ (call (Value.builtin _) [Value.ref _, _]) _ _ _); (rename Fr _ _ _ _ => F9); (rename News _ _ _ _ => N9); k_dflt (refine' append_K F9 N9 ?k3 ?_ ?z; (case k3 => exact Upd.head (by assumption)); (case z => (rw [sizeLine_eq, List.size_toArray]; simp; omega))); intro h9 F9' N9'; clear F9 N9))
local macro_rules | `(tactic| walk_at "subscriptTail") => `(tactic| ((with_reducible show wpAny _ _ (subscriptTail _ _ (Value.ref _) (Value.int _ _)) _ _ _); (rename News _ _ _ _ => N9); (refine item_last (News.isList N9 (.head _)) ?_)))
theorem segTot {w : World} {p : Program} {loose : List PySem.Str} {mean : ExcName → Option Value} {mg mb : PySem.Str → Option Value} {s : Shared} {Q : Flow → Shared → Prop} {E : Value → Shared → Prop} {h₀ : Heap} {L : Addr} {m : PySem.Str → Option Value} {led : List (Addr × Obj)}
  {aS : Addr} {tv : List Value} {ns : Nat} {a g : Int} {t0 t1 : Tok} (B : Below callerA h₀ [] h₀) (X : (Head.hc.heap_39 w.params).In h₀) (T : Top p loose mean mg mb h₀)
  (htl : tv.length ≤ 6) (hoff : ∀ p ∈ led, p.1 ≠ aS)
  (F : Fr h₀ L s.heap (kstB m [(PySem.Str.ofString "totals", .ref aS), (PySem.Str.ofString "gain", .int g t0)]))
  (N : News h₀ L s.heap ((aS, listOf (tv ++ [Value.int a t1]).toArray ns) :: led))
  (hcont : ∀ h' tk' t2 n', Fr h₀ L h' (kstB m [(PySem.Str.ofString "totals", .ref aS), (PySem.Str.ofString "gain", .int g t0)]) → News h₀ L h' ((aS, listOf (tv ++ [Value.int a t1] ++ [Value.int (a + g) t2]).toArray n') :: led) → Q .next { s with heap := h', toks := tk' }) :
  wpAny (model PrgW w) (callerA.deeper (lawEnv L)) (execs (whileBody.drop 7) (lawEnv L)) Q E s := by
  replace hcont := Hold.mk hcont
  dsimp only [whileBody, lawEnv, lawDef, lastOf, lawDefOf, PySem.Challenge.pw_zo0024_01]
  simp only [List.take_succ_cons, List.take_zero, List.drop_succ_cons, List.drop_zero]
  k_steps
  rename Fr _ _ _ _ => F9
  rename News _ _ _ _ => N9
  rw [List.push_toArray] at N9
  unfold Hold at hcont
  exact hcont _ _ _ _ F9 N9
end Mine
end
section
open PySem PySem.W PyProof.Rows PySem.Calls PySem.Spec
set_option Elab.async false
set_option maxRecDepth 100000
set_option maxHeartbeats 8000000
set_option linter.unusedVariables false
namespace Mine
/-! plain: prices and tallies are what the picked ones share -/
def wOf (ws : List Int) (j : Nat) : Int := ws.getD j 0
def sOf (xs : List Nat) (i j : Nat) : Int := sh ((xs.getD i 0 : Nat) : Int) ((xs.getD j 0 : Nat) : Int)
theorem cnt_cons (k c : Nat) (R : List Nat) : cnt (k :: R) c = cnt R c + if k < c then 1 else 0 := by
  unfold cnt
  rw [List.countP_cons]
  by_cases h : k < c <;> simp [h]
theorem cnt_perm {R S : List Nat} (h : R.Perm S) (c : Nat) : cnt R c = cnt S c := h.countP_eq _
theorem step_cons (k key n : Nat) (R : List Nat) : stepOf (k :: R) key n = stepOf R key n + (near (n + 1) key k : Int) := by
  unfold stepOf near
  rw [cnt_cons, cnt_cons]
  have h : lo1 (n + 1) key ≤ hi1 (n + 1) key := Nat.le_add_right _ _
  by_cases h1 : k < hi1 (n + 1) key <;> by_cases h2 : k < lo1 (n + 1) key
  · rw [if_pos h1, if_pos h2, if_neg (by omega)]; omega
  · rw [if_pos h1, if_neg h2, if_pos (by omega)]; omega
  · omega
  · rw [if_neg h1, if_neg h2, if_neg (by omega)]; omega
theorem price_cons (k key : Nat) (R : List Nat) : priceTo (k :: R) key 3 = priceTo R key 3 + ((1 + near 1 key k + near 2 key k + near 3 key k : Nat) : Int) := by
  simp only [priceTo, step_cons, List.length_cons, Nat.reduceAdd, Nat.zero_add]
  omega
theorem price_nil (key : Nat) : priceTo [] key 3 = 0 := by simp [priceTo, stepOf, cnt]
theorem price_perm {R S : List Nat} (h : R.Perm S) (key : Nat) : priceTo R key 3 = priceTo S key 3 := by
  simp only [priceTo, stepOf, cnt_perm h, h.length_eq]
theorem price_eq {xs : List Nat} {n : Nat} (hn : xs.getD n 0 < 27) : ∀ {ps R : List Nat}, (∀ j ∈ ps, xs.getD j 0 < 27) → R.Perm (ps.map fun j => hk (xs.getD j 0)) → priceTo R (hk (xs.getD n 0)) 3 = cost (sOf xs) ps n := by
  intro ps R hp h
  rw [price_perm h]
  clear h
  induction ps with
  | nil => rw [List.map_nil, price_nil]; simp [cost]
  | cons a ps ih =>
    rw [List.map_cons, price_cons, ih (fun j hj => hp j (.tail _ hj)), cost_cons]
    have := near_sum ⟨xs.getD n 0, hn⟩ ⟨xs.getD a 0, hp a (.head _)⟩
    simp only at this
    rw [this]
    unfold sOf
    omega
theorem tally_count (G : List Nat) (p : Nat) : tally G p = (G.count p : Int) := by
  unfold tally
  have h : cnt G (p + 1) = cnt G p + G.count p := by
    induction G with
    | nil => simp [cnt]
    | cons a G ih =>
      rw [cnt_cons, cnt_cons, ih, List.count_cons]
      by_cases h1 : a < p
      · rw [if_pos (by omega), if_pos h1, if_neg (by simp; omega)]; omega
      · by_cases h2 : a = p
        · subst h2; rw [if_pos (by omega), if_neg (by omega), if_pos (by simp)]; omega
        · rw [if_neg (by omega), if_neg h1, if_neg (by simpa using h2)]; omega
  rw [h]; omega
theorem sum_add {α : Type} (f g : α → Int) : ∀ l : List α, (l.map fun x => f x + g x).sum = (l.map f).sum + (l.map g).sum
  | [] => by simp
  | a :: l => by simp [sum_add f g l]; omega
theorem sum_cast {α : Type} (f : α → Nat) : ∀ l : List α, (l.map fun p => ((f p : Nat) : Int)).sum = (((l.map f).sum : Nat) : Int)
  | [] => by simp
  | a :: l => by simp [sum_cast f l]
theorem tally_sum {xs : List Nat} {n : Nat} (hn : xs.getD n 0 < 27) : ∀ {ps : List Nat}, (∀ j ∈ ps, xs.getD j 0 < 27) → ((gkeys (xs.getD n 0)).map fun p => (((ps.flatMap fun j => gkeys (xs.getD j 0)).count p : Nat) : Int)).sum = cost (sOf xs) ps n
  | [], _ => by simp [cost, gkeys]
  | a :: ps, hp => by
    have ih := tally_sum hn (ps := ps) fun j hj => hp j (.tail _ hj)
    have e : ∀ p : Nat, ((((a :: ps).flatMap fun j => gkeys (xs.getD j 0)).count p : Nat) : Int) = (((gkeys (xs.getD a 0)).count p : Nat) : Int) + (((ps.flatMap fun j => gkeys (xs.getD j 0)).count p : Nat) : Int) := fun p => by
      rw [List.flatMap_cons, List.count_append]; omega
    simp only [e]
    rw [sum_add, ih, cost_cons]
    have h2 := rung_sum ⟨xs.getD n 0, hn⟩ ⟨xs.getD a 0, hp a (.head _)⟩
    simp only at h2
    have e3 : ((gkeys (xs.getD n 0)).map fun p => (((gkeys (xs.getD a 0)).count p : Nat) : Int)).sum = sOf xs n a := by
      unfold sOf
      rw [← h2]
      exact sum_cast _ _
    rw [e3]
theorem tally_eq {xs : List Nat} {n : Nat} {ps G : List Nat} (hn : xs.getD n 0 < 27) (hp : ∀ j ∈ ps, xs.getD j 0 < 27) (h : G.Perm (ps.flatMap fun j => gkeys (xs.getD j 0))) : ((gkeys (xs.getD n 0)).map (tally G)).sum = cost (sOf xs) ps n := by
  rw [← tally_sum hn hp]
  congr 1
  refine List.map_congr_left fun p _ => ?_
  rw [tally_count, h.count_eq]
/-- what holds between the picks -/
structure WInv (xs : List Nat) (ws : List Int) (R G ls ps : List Nat) (tot : List Int) : Prop where
  row : R.Perm (ps.map fun j => hk (xs.getD j 0))
  rungs : G.Perm (ps.flatMap fun j => gkeys (xs.getD j 0))
  left : (ls ++ ps).Perm (List.range 5)
  greedy : GreedyFrom (wOf ws) (sOf xs) (List.range 5) [] ps
  totals : tot = (List.range (ps.length + 1)).map fun i => FV (wOf ws) (sOf xs) [] (ps.take i)
theorem winv_start (xs : List Nat) (ws : List Int) : WInv xs ws [] [] [0, 1, 2, 3, 4] [] [0] :=
  ⟨.refl _, .refl _, by simp [List.range, List.range.loop], trivial, by simp [FV]⟩
theorem winv_len {xs : List Nat} {ws : List Int} {R G ls ps : List Nat} {tot : List Int} (h : WInv xs ws R G ls ps tot) : ls.length + ps.length = 5 := by
  have := h.left.length_eq
  simpa using this
theorem flat_len (f : Nat → List Nat) (c : Nat) (hf : ∀ j, (f j).length = c) : ∀ ps : List Nat, (ps.flatMap f).length = c * ps.length
  | [] => by simp
  | a :: ps => by rw [List.flatMap_cons, List.length_append, hf, flat_len f c hf ps, List.length_cons, Nat.mul_add]; omega
theorem winv_rowlen {xs : List Nat} {ws : List Int} {R G ls ps : List Nat} {tot : List Int} (h : WInv xs ws R G ls ps tot) : R.length = ps.length := by
  have := h.row.length_eq
  simpa using this
theorem winv_runglen {xs : List Nat} {ws : List Int} {R G ls ps : List Nat} {tot : List Int} (h : WInv xs ws R G ls ps tot) : G.length = 4 * ps.length := by
  rw [h.rungs.length_eq, flat_len _ 4 fun j => rfl]
theorem winv_mem {xs : List Nat} {ws : List Int} {R G ls ps : List Nat} {tot : List Int} (h : WInv xs ws R G ls ps tot) {b : Nat} (hb : b ∈ ls) : b < 5 :=
  List.mem_range.mp (h.left.mem_iff.mp (List.mem_append_left _ hb))
theorem winv_pmem {xs : List Nat} {ws : List Int} {R G ls ps : List Nat} {tot : List Int} (h : WInv xs ws R G ls ps tot) {b : Nat} (hb : b ∈ ps) : b < 5 :=
  List.mem_range.mp (h.left.mem_iff.mp (List.mem_append_right _ hb))
theorem getD_lt {xs : List Nat} (hx : ∀ x ∈ xs, x < 27) (n : Nat) : xs.getD n 0 < 27 := by
  rw [List.getD_eq_getElem?_getD]
  cases e : xs[n]? with
  | none => decide
  | some x => exact hx x (List.mem_of_getElem? e)
theorem winv_val {xs : List Nat} {ws : List Int} {R G ls ps : List Nat} {tot : List Int} (h : WInv xs ws R G ls ps tot) (hx : ∀ x ∈ xs, x < 27) (h5 : xs.length = 5) {n : Nat} (hn : n < 5) :
    valOf R (xs.map hk) ws n = wOf ws n - cost (sOf xs) ps n := by
  unfold valOf wOf
  have e : (xs.map hk).getD n 0 = hk (xs.getD n 0) := by
    rw [List.getD_eq_getElem?_getD, List.getD_eq_getElem?_getD, List.getElem?_map, List.getElem?_eq_getElem (by omega)]; rfl
  rw [e, price_eq (getD_lt hx n) (fun j _ => getD_lt hx j) h.row]
theorem winv_step {xs : List Nat} {ws : List Int} {R R' G G' ls ps : List Nat} {tot0 : List Int} {a : Int} {b : Nat} (h : WInv xs ws R G ls ps (tot0 ++ [a])) (hx : ∀ x ∈ xs, x < 27) (h5 : xs.length = 5) (hb : b ∈ ls)
    (hbest : ∀ k ∈ ls, valOf R (xs.map hk) ws k ≤ valOf R (xs.map hk) ws b) (hR : R'.Perm (hk (xs.getD b 0) :: R)) (hG : G'.Perm (gkeys (xs.getD b 0) ++ G)) :
    WInv xs ws R' G' (ls.erase b) (ps ++ [b]) (tot0 ++ [a] ++ [a + valOf R (xs.map hk) ws b]) := by
  have hb5 := winv_mem h hb
  have hnd : (ls ++ ps).Nodup := h.left.nodup_iff.mpr List.nodup_range
  have hdis : ∀ x ∈ ls, x ∉ ps := fun x h1 h2 => (List.nodup_append.mp hnd).2.2 x h1 x h2 rfl
  refine ⟨?_, ?_, ?_, ?_, ?_⟩
  · rw [List.map_append]
    exact hR.trans ((List.Perm.cons _ h.row).trans (by simpa using (List.perm_append_comm (l₁ := [hk (xs.getD b 0)]) (l₂ := ps.map fun j => hk (xs.getD j 0)))))
  · rw [List.flatMap_append]
    refine hG.trans ((List.Perm.append_left _ h.rungs).trans ?_)
    simpa using (List.perm_append_comm (l₁ := gkeys (xs.getD b 0)) (l₂ := ps.flatMap fun j => gkeys (xs.getD j 0)))
  · refine List.Perm.trans ?_ h.left
    have p1 : (ls.erase b ++ (ps ++ [b])).Perm (b :: (ls.erase b ++ ps)) := by
      rw [← List.append_assoc]
      exact List.perm_append_comm (l₂ := [b])
    exact p1.trans (List.Perm.append_right ps (List.perm_cons_erase hb).symm)
  · refine greedy_push _ _ h.greedy (List.mem_range.mpr hb5) (hdis b hb) fun j hj hn => ?_
    have hjl : j ∈ ls := by
      rcases List.mem_append.mp (h.left.mem_iff.mpr hj) with q | q
      · exact q
      · exact absurd q hn
    have := hbest j hjl
    rw [winv_val h hx h5 (List.mem_range.mp hj), winv_val h hx h5 hb5] at this
    exact this
  · have ht := h.totals
    rw [List.range_succ, List.map_append] at ht
    have hl : tot0 ++ [a] = ((List.range ps.length).map fun i => FV (wOf ws) (sOf xs) [] (ps.take i)) ++ [FV (wOf ws) (sOf xs) [] (ps.take ps.length)] := ht
    have e2 : a = FV (wOf ws) (sOf xs) [] ps := by
      have := congrArg List.getLast? hl
      rw [List.getLast?_concat, List.getLast?_concat, List.take_length] at this
      exact Option.some.inj this
    rw [List.length_append, List.length_singleton, List.range_succ, List.map_append]
    have e3 : ((List.range (ps.length + 1)).map fun i => FV (wOf ws) (sOf xs) [] ((ps ++ [b]).take i)) = tot0 ++ [a] := by
      rw [h.totals]
      refine List.map_congr_left fun i hi => ?_
      have := List.mem_range.mp hi
      rw [List.take_append_of_le_length (by omega)]
    rw [e3]
    congr 1
    show [a + _] = [FV _ _ [] ((ps ++ [b]).take (ps.length + 1))]
    have e4 : (ps ++ [b]).take (ps.length + 1) = ps ++ [b] := List.take_of_length_le (by simp)
    rw [e4, FV_push, ← e2, winv_val h hx h5 hb5]
/-- the check: worth less gain is what the rungs tell -/
theorem winv_check {xs : List Nat} {ws : List Int} {R G ls ps : List Nat} {tot : List Int} (h : WInv xs ws R G ls ps tot) (hx : ∀ x ∈ xs, x < 27) (h5 : xs.length = 5) {b : Nat} (hb : b ∈ ls) :
    ws.getD b 0 - valOf R (xs.map hk) ws b = ((gkeys (xs.getD b 0)).map (tally G)).sum := by
  rw [winv_val h hx h5 (winv_mem h hb), tally_eq (getD_lt hx b) (fun j _ => getD_lt hx j) h.rungs]
  unfold wOf
  omega
theorem winv_end {xs : List Nat} {ws : List Int} {R G ps : List Nat} {tot : List Int} (h : WInv xs ws R G [] ps tot) : ps.Perm (List.range 5) := h.left
end Mine
end
section
open PySem PySem.W PyProof.Rows PySem.Calls PySem.Spec
set_option Elab.async false
set_option maxRecDepth 100000
set_option maxHeartbeats 8000000
set_option linter.unusedVariables false
namespace Mine
theorem fillNJ_ (w : World) (h : Heap) : (Head.hc.heap_39 w.params).In h → PySem.Challenge.rw_zo0024_01.row.prog = PySem.Challenge.rw_zo0024_01.row.prog := by k_fill; intro _; w_top off; rfl
section
variable {M : Model} {A : Around} {E : Value → Shared → Prop} {s : Shared} {env : Env} {Q : Flow → Shared → Prop}
theorem next1 (l : List Stmt) (n : Nat) : l.drop n = (l.drop n).take 1 ++ l.drop (n + 1) := by
  have h := List.take_append_drop 1 (l.drop n)
  rw [List.drop_drop] at h
  exact h.symm
theorem split1 {l : List Stmt} (n : Nat) (h : wpAny M A (execs ((l.drop n).take 1) env) (fun f s' => match f with | .next => wpAny M A (execs (l.drop (n + 1)) env) Q E s' | f => Q f s') E s) : wpAny M A (execs (l.drop n) env) Q E s := by
  rw [next1 l n]
  exact wpAny_execs_pre _ h
theorem splitN {l : List Stmt} (n : Nat) (h : wpAny M A (execs (l.take n) env) (fun f s' => match f with | .next => wpAny M A (execs (l.drop n) env) Q E s' | f => Q f s') E s) : wpAny M A (execs l env) Q E s := by
  have e : l = l.take n ++ l.drop n := (List.take_append_drop n l).symm
  rw [e]
  exact wpAny_execs_pre _ h
end
structure WS where
  rv : List Value
  nr : Nat
  R : List Nat
  gv : List Value
  ng : Nat
  G : List Nat
  lv : List Value
  nf : Nat
  ls : List Nat
  tv : List Value
  nt : Nat
  tot : List Int
  ps : List Nat
structure WS.Facts (c : WS) : Prop where
  row : RowIs c.rv c.R
  rungs : RungsIs c.gv c.G
  left : IntsAre c.lv (natInts c.ls)
  tots : IntsAre c.tv c.tot
abbrev WS.led (c : WS) (aR aG aF aS : Addr) (led : List (Addr × Obj)) : List (Addr × Obj) := (aR, listOf c.rv.toArray c.nr) :: (aG, listOf c.gv.toArray c.ng) :: (aF, listOf c.lv.toArray c.nf) :: (aS, listOf c.tv.toArray c.nt) :: led
structure Apart4 (aR aG aF aS : Addr) (led : List (Addr × Obj)) : Prop where
  rg : aR ≠ aG
  rf : aR ≠ aF
  rs : aR ≠ aS
  gf : aG ≠ aF
  gs : aG ≠ aS
  fs : aF ≠ aS
  offR : ∀ p ∈ led, p.1 ≠ aR
  offG : ∀ p ∈ led, p.1 ≠ aG
  offF : ∀ p ∈ led, p.1 ≠ aF
  offS : ∀ p ∈ led, p.1 ≠ aS
theorem tot_last {tv : List Value} {tot : List Int} (h : IntsAre tv tot) (hne : tot ≠ []) : ∃ tv0 tot0 a t, tv = tv0 ++ [Value.int a t] ∧ tot = tot0 ++ [a] ∧ IntsAre tv0 tot0 := by
  induction h with
  | nil => exact absurd rfl hne
  | cons n t h0 ih =>
    rename_i vs ns
    cases h0 with
    | nil => exact ⟨[], [], n, t, rfl, rfl, .nil⟩
    | cons n2 t2 h1 =>
      obtain ⟨tv0, tot0, a, t', e1, e2, e3⟩ := ih (by simp)
      exact ⟨.int n t :: tv0, n :: tot0, a, t', by rw [e1]; rfl, by rw [e2]; rfl, .cons n t e3⟩
theorem rot3_mem {x y z : Addr × Obj} {l : List (Addr × Obj)} {p : Addr × Obj} (h : p ∈ z :: x :: y :: l) : p ∈ x :: y :: z :: l := by
  rcases List.mem_cons.mp h with rfl | h
  · exact .tail _ (.tail _ (.head _))
  rcases List.mem_cons.mp h with rfl | h
  · exact .head _
  rcases List.mem_cons.mp h with rfl | h
  · exact .tail _ (.head _)
  · exact .tail _ (.tail _ (.tail _ h))
theorem rot4_mem {x y z u : Addr × Obj} {l : List (Addr × Obj)} {p : Addr × Obj} (h : p ∈ u :: x :: y :: z :: l) : p ∈ x :: y :: z :: u :: l := by
  rcases List.mem_cons.mp h with rfl | h
  · exact .tail _ (.tail _ (.tail _ (.head _)))
  rcases List.mem_cons.mp h with rfl | h
  · exact .head _
  rcases List.mem_cons.mp h with rfl | h
  · exact .tail _ (.head _)
  rcases List.mem_cons.mp h with rfl | h
  · exact .tail _ (.tail _ (.head _))
  · exact .tail _ (.tail _ (.tail _ (.tail _ h)))
set_option pp.deepTerms.threshold 8
theorem segWhile {w : World} {p : Program} {loose : List PySem.Str} {mean : ExcName → Option Value} {mg mb : PySem.Str → Option Value} {s : Shared} {Q : Flow → Shared → Prop} {h₀ : Heap} {L : Addr} {m : PySem.Str → Option Value} {led : List (Addr × Obj)}
  {aR aG aF aS aH aW aLd aT : Addr} {vH vW : List Value} {nH nW nL : Nat} {lads : List Lad} {xs : List Nat} {ws : List Int} {oc : Obj} (B : Below callerA h₀ [] h₀) (X : (Head.hc.heap_39 w.params).In h₀) (T : Top p loose mean mg mb h₀)
  (h5 : xs.length = 5) (hx : ∀ x ∈ xs, x < 27) (hH : BysAre vH ((xs.map hk).map headS)) (hW : IntsAre vW ws) (hw5 : ws.length = 5) (hLA : LadsAre lads xs)
  (hmH : (aH, listOf vH.toArray nH) ∈ led) (hmW : (aW, listOf vW.toArray nW) ∈ led) (hmL : (aLd, listOf (lads.map ladRef).toArray nL) ∈ led) (hmD : ∀ d ∈ lads, ladObj d ∈ led) (hmC : (L + 1 + 1, oc) ∈ led) (hoc : oc.data = .cell (some (.ref aG)))
  (Z : Apart4 aR aG aF aS led) (c₀ : WS) (hf : c₀.Facts) (hi : WInv xs ws c₀.R c₀.G c₀.ls c₀.ps c₀.tot)
  (F : Fr h₀ L s.heap (kstB m [(PySem.Str.ofString "row", .ref aR), (PySem.Str.ofString "heads", .ref aH), (PySem.Str.ofString "worth", .ref aW), (PySem.Str.ofString "left", .ref aF), (PySem.Str.ofString "ladders", .ref aLd), (PySem.Str.ofString "totals", .ref aS), (PySem.Str.ofString "tails", .ref aT)]))
  (N : News h₀ L s.heap (c₀.led aR aG aF aS led))
  (hcont : ∀ h' tk' m' c, WS.Facts c → WInv xs ws c.R c.G [] c.ps c.tot → Fr h₀ L h' (kstB m' [(PySem.Str.ofString "row", .ref aR), (PySem.Str.ofString "heads", .ref aH), (PySem.Str.ofString "worth", .ref aW), (PySem.Str.ofString "ladders", .ref aLd), (PySem.Str.ofString "totals", .ref aS), (PySem.Str.ofString "tails", .ref aT)]) →
    News h₀ L h' (c.led aR aG aF aS led) → Q .next { s with heap := h', toks := tk' }) :
  wpAny (model PrgW w) (callerA.deeper (lawEnv L)) (execs ((lawDef.1.drop 12).take 1) (lawEnv L)) Q (fun _ _ => False) s := by
  replace hcont := Hold.mk hcont
  dsimp only [lawEnv, lawDef, lastOf, lawDefOf, PySem.Challenge.pw_zo0024_01]
  simp only [List.take_succ_cons, List.take_zero, List.drop_succ_cons, List.drop_zero]
  refine wpAny_execs_cons ?_
  refine my_while (σ := WS) (fun c => c.led aR aG aF aS led) (fun _ => []) WS.Facts [PySem.Str.ofString "best", PySem.Str.ofString "gain", PySem.Str.ofString "k", PySem.Str.ofString "price", PySem.Str.ofString "size", PySem.Str.ofString "rung"]
    (fun c => WInv xs ws c.R c.G c.ls c.ps c.tot) (fun c => c.ls.length) c₀ F N hf (List.forall_mem_nil _) hi ?_
  intro c u hh tk hF hI Fi Ni
  clear F N hf hi
  k_steps
  have hll : c.lv.length = c.ls.length := by rw [hF.left.length, List.length_map]
  have hwl := winv_len hI
  refine wpAny_truthy_list (News.isList Ni (.tail _ (.tail _ (.head _)))) (by rw [List.size_toArray]; omega) ?_
  obtain ⟨rv, nr, R, gv, ng, G, lv, nf, ls, tv, nt, tot, ps⟩ := c
  dsimp only at hll hwl hI Ni ⊢
  obtain ⟨fR, fG, fL, fT⟩ := hF
  dsimp only at fR fG fL fT
  cases hls : ls with
  | nil =>
    subst hls
    have hlv : lv = [] := List.length_eq_zero_iff.mp (by simpa using hll)
    subst hlv
    have e : (!(([] : List Value).toArray).isEmpty) = false := rfl
    rw [e, if_neg (by decide)]
    (try dsimp only)
    refine wpAny_execs_nil ?_
    unfold Hold at hcont
    exact hcont _ _ _ ⟨rv, nr, R, gv, ng, G, [], nf, [], tv, nt, tot, ps⟩ ⟨fR, fG, fL, fT⟩ hI (Fr.named Fi _ (List.forall_mem_cons.mpr ⟨by rfl, List.forall_mem_cons.mpr ⟨by rfl, List.forall_mem_cons.mpr ⟨by rfl, List.forall_mem_cons.mpr ⟨by rfl, List.forall_mem_cons.mpr ⟨by rfl, List.forall_mem_cons.mpr ⟨by rfl, List.forall_mem_nil _⟩⟩⟩⟩⟩⟩)) Ni
  | cons k0 ls0 =>
    have hne : ls ≠ [] := by rw [hls]; simp
    have hlv : lv ≠ [] := by intro q; subst q; rw [hls] at hll; simp at hll
    have e : (!(lv.toArray).isEmpty) = true := by
      cases lv with
      | nil => exact absurd rfl hlv
      | cons a r => rfl
    rw [e, if_pos rfl]
    have hRl : R.length ≤ 5 := by rw [winv_rowlen hI]; omega
    have hGl : G.length ≤ 20 := by rw [winv_runglen hI]; omega
    have hmems : ∀ n ∈ ls, n < 5 := fun n hn => winv_mem hI hn
    refine (splitN (l := whileBody) 3 ?_ : wpAny _ _ (execs whileBody (lawEnv L)) _ _ _)
    obtain ⟨F1, s1⟩ := Fr.namedE Fi [(PySem.Str.ofString "row", .ref aR), (PySem.Str.ofString "heads", .ref aH), (PySem.Str.ofString "worth", .ref aW), (PySem.Str.ofString "left", .ref aF)] (List.forall_mem_cons.mpr ⟨by rfl, List.forall_mem_cons.mpr ⟨by rfl, List.forall_mem_cons.mpr ⟨by rfl, List.forall_mem_cons.mpr ⟨by rfl, List.forall_mem_nil _⟩⟩⟩⟩)
    have hq : ∀ {q : Addr × Obj}, q ∈ led → q ∈ (aR, listOf rv.toArray nr) :: (aG, listOf gv.toArray ng) :: (aF, listOf lv.toArray nf) :: (aS, listOf tv.toArray nt) :: led := fun h => .tail _ (.tail _ (.tail _ (.tail _ h)))
    refine segPick (aR := aR) (aH := aH) (aW := aW) (aL := aF) (ks := xs.map hk) (ws := ws) (ls := ls) B X T fR hRl (fun k hk' => by obtain ⟨x, hx', rfl⟩ := List.mem_map.mp hk'; exact hk_lt (hx x hx')) (by rw [List.length_map]; exact h5) hH hW hw5 fL hmems hne (.head _) (hq hmH) (hq hmW) (.tail _ (.tail _ (.head _))) F1 Ni ?_
    intro h1 tk1 m1 b t1 t2 hb hbest hm1 F2 N2
    rw [s1] at hm1
    clear F1 Fi Ni s1
    have q1 : kstB m1 [(PySem.Str.ofString "best", Value.int (b : Int) t1), (PySem.Str.ofString "gain", Value.int (valOf R (xs.map hk) ws b) t2)] (PySem.Str.ofString "worth") = some (.ref aW) := (hm1 _ (by decide +kernel) (by decide +kernel) (by decide +kernel) (by decide +kernel) (by decide +kernel)).trans (by rfl)
    have q2 : kstB m1 [(PySem.Str.ofString "best", Value.int (b : Int) t1), (PySem.Str.ofString "gain", Value.int (valOf R (xs.map hk) ws b) t2)] (PySem.Str.ofString "ladders") = some (.ref aLd) := (hm1 _ (by decide +kernel) (by decide +kernel) (by decide +kernel) (by decide +kernel) (by decide +kernel)).trans (by rfl)
    have q3 : kstB m1 [(PySem.Str.ofString "best", Value.int (b : Int) t1), (PySem.Str.ofString "gain", Value.int (valOf R (xs.map hk) ws b) t2)] (PySem.Str.ofString "row") = some (.ref aR) := (hm1 _ (by decide +kernel) (by decide +kernel) (by decide +kernel) (by decide +kernel) (by decide +kernel)).trans (by rfl)
    have q4 : kstB m1 [(PySem.Str.ofString "best", Value.int (b : Int) t1), (PySem.Str.ofString "gain", Value.int (valOf R (xs.map hk) ws b) t2)] (PySem.Str.ofString "heads") = some (.ref aH) := (hm1 _ (by decide +kernel) (by decide +kernel) (by decide +kernel) (by decide +kernel) (by decide +kernel)).trans (by rfl)
    have q5 : kstB m1 [(PySem.Str.ofString "best", Value.int (b : Int) t1), (PySem.Str.ofString "gain", Value.int (valOf R (xs.map hk) ws b) t2)] (PySem.Str.ofString "left") = some (.ref aF) := (hm1 _ (by decide +kernel) (by decide +kernel) (by decide +kernel) (by decide +kernel) (by decide +kernel)).trans (by rfl)
    have q6 : kstB m1 [(PySem.Str.ofString "best", Value.int (b : Int) t1), (PySem.Str.ofString "gain", Value.int (valOf R (xs.map hk) ws b) t2)] (PySem.Str.ofString "totals") = some (.ref aS) := (hm1 _ (by decide +kernel) (by decide +kernel) (by decide +kernel) (by decide +kernel) (by decide +kernel)).trans (by rfl)
    have q7 : kstB m1 [(PySem.Str.ofString "best", Value.int (b : Int) t1), (PySem.Str.ofString "gain", Value.int (valOf R (xs.map hk) ws b) t2)] (PySem.Str.ofString "best") = some (.int (b : Int) t1) := by rfl
    have q8 : kstB m1 [(PySem.Str.ofString "best", Value.int (b : Int) t1), (PySem.Str.ofString "gain", Value.int (valOf R (xs.map hk) ws b) t2)] (PySem.Str.ofString "gain") = some (.int (valOf R (xs.map hk) ws b) t2) := by rfl
    have q9 : ∀ z, [PySem.Str.ofString "best", PySem.Str.ofString "gain", PySem.Str.ofString "k", PySem.Str.ofString "price", PySem.Str.ofString "size", PySem.Str.ofString "rung"].contains z = false →
        kstB m1 [(PySem.Str.ofString "best", Value.int (b : Int) t1), (PySem.Str.ofString "gain", Value.int (valOf R (xs.map hk) ws b) t2)] z = kstB m [(PySem.Str.ofString "row", .ref aR), (PySem.Str.ofString "heads", .ref aH), (PySem.Str.ofString "worth", .ref aW), (PySem.Str.ofString "left", .ref aF), (PySem.Str.ofString "ladders", .ref aLd), (PySem.Str.ofString "totals", .ref aS), (PySem.Str.ofString "tails", .ref aT)] z := fun z hz => by
      have g : z ≠ PySem.Str.ofString "best" ∧ z ≠ PySem.Str.ofString "gain" ∧ z ≠ PySem.Str.ofString "k" ∧ z ≠ PySem.Str.ofString "price" ∧ z ≠ PySem.Str.ofString "size" ∧ z ≠ PySem.Str.ofString "rung" := by simpa using hz
      obtain ⟨g1, g2, g3, g4, g5, g6⟩ := g
      refine Eq.trans (b := m1 z) (by simp only [kstB, g1, g2, if_false]) ?_
      rw [hm1 z g4 g5 g1 g2 g3]
      simp only [kstB, hz]
      rfl
    generalize kstB m1 [(PySem.Str.ofString "best", Value.int (b : Int) t1), (PySem.Str.ofString "gain", Value.int (valOf R (xs.map hk) ws b) t2)] = M at F2 q1 q2 q3 q4 q5 q6 q7 q8 q9
    clear hm1
    have hb5 : b < 5 := hmems b hb
    have hxb : xs[b]? = some (xs.getD b 0) := by rw [List.getD_eq_getElem?_getD, List.getElem?_eq_getElem (by omega)]; rfl
    have hwb : ws[b]? = some (ws.getD b 0) := by rw [List.getD_eq_getElem?_getD, List.getElem?_eq_getElem (by omega)]; rfl
    obtain ⟨d, hd, hSd⟩ := hLA.get b _ hxb
    obtain ⟨tw, hWb⟩ := hW.get b _ hwb
    obtain ⟨th, hHb⟩ := hH.get (i := b) (by simp; omega)
    have eH : ((xs.map hk).map headS).getD b #[] = headS (hk (xs.getD b 0)) := by rw [List.getD_eq_getElem?_getD, List.getElem?_map, List.getElem?_map, hxb]; rfl
    rw [eH] at hHb
    have hdm : d ∈ lads := List.mem_of_getElem? hd
    have hLd : (lads.map ladRef)[((b : Nat) : Int).toNat]? = some (Value.ref d.1) := by rw [Int.toNat_natCast, List.getElem?_map, hd]; rfl
    have hx27 := getD_lt hx b
    refine split1 (l := whileBody) 3 ?_
    obtain ⟨F3, s3⟩ := Fr.namedE F2 [(PySem.Str.ofString "worth", .ref aW), (PySem.Str.ofString "ladders", .ref aLd), (PySem.Str.ofString "best", .int (b : Int) t1), (PySem.Str.ofString "gain", .int (valOf R (xs.map hk) ws b) t2)] (List.forall_mem_cons.mpr ⟨q1, List.forall_mem_cons.mpr ⟨q2, List.forall_mem_cons.mpr ⟨q7, List.forall_mem_cons.mpr ⟨q8, List.forall_mem_nil _⟩⟩⟩⟩)
    clear F2
    refine segCheck (aG := aG) (aW := aW) (aLd := aLd) (aD := d.1) (x := xs.getD b 0) B X T fG hGl hx27 (by omega) (by omega) (by simpa using hWb) hLd hSd (.tail _ (.head _)) (hq hmW) (hq hmL) (hq (hmD d hdm)) (hq hmC) hoc (by exact winv_check hI hx h5 hb) F3 N2 ?_
    intro h3 tk3 F4 N4
    rw [s3] at F4
    clear F3 N2 s3
    (try dsimp only)
    refine split1 (l := whileBody) 4 ?_
    obtain ⟨F5, s5⟩ := Fr.namedE F4 [(PySem.Str.ofString "row", .ref aR), (PySem.Str.ofString "heads", .ref aH), (PySem.Str.ofString "best", .int (b : Int) t1)] (List.forall_mem_cons.mpr ⟨q3, List.forall_mem_cons.mpr ⟨q4, List.forall_mem_cons.mpr ⟨q7, List.forall_mem_nil _⟩⟩⟩)
    clear F4
    refine segInsR (aR := aR) (aH := aH) (key := hk (xs.getD b 0)) B X T fR hRl (by omega) (by omega) (hk_lt hx27) (by simpa using hHb) (.tail _ (.tail _ (.tail _ hmH))) ?_ F5 N4 ?_
    · refine List.forall_mem_cons.mpr ⟨Ne.symm Z.rg, List.forall_mem_cons.mpr ⟨Ne.symm Z.rf, List.forall_mem_cons.mpr ⟨Ne.symm Z.rs, Z.offR⟩⟩⟩
    intro h5' tk5 rv' fR' F6 N6
    rw [s5] at F6
    clear F5 N4 s5
    (try dsimp only)
    refine split1 (l := whileBody) 5 ?_
    obtain ⟨F7, s7⟩ := Fr.namedE F6 [(PySem.Str.ofString "ladders", .ref aLd), (PySem.Str.ofString "best", .int (b : Int) t1)] (List.forall_mem_cons.mpr ⟨q2, List.forall_mem_cons.mpr ⟨q7, List.forall_mem_nil _⟩⟩)
    clear F6
    refine segInsL (aG := aG) (aLd := aLd) (aD := d.1) (x := xs.getD b 0) (led := (aR, listOf rv'.toArray (nr + 1)) :: (aF, listOf lv.toArray nf) :: (aS, listOf tv.toArray nt) :: led) B X T fG hGl hx27 (by omega) (by omega) hLd hSd (.tail _ (.tail _ (.tail _ hmL))) (.tail _ (.tail _ (.tail _ (hmD d hdm)))) (.tail _ (.tail _ (.tail _ hmC))) hoc ?_ F7 (fun q hq' => N6 q (swap_mem hq')) ?_
    · refine List.forall_mem_cons.mpr ⟨Z.rg, List.forall_mem_cons.mpr ⟨Ne.symm Z.gf, List.forall_mem_cons.mpr ⟨Ne.symm Z.gs, Z.offG⟩⟩⟩
    intro h7 tk7 gv' G' ng' m7 fG' hG' hm7 F8 N8
    rw [s7] at hm7
    clear F7 N6 s7
    (try dsimp only)
    refine split1 (l := whileBody) 6 ?_
    have p5 : m7 (PySem.Str.ofString "left") = some (.ref aF) := (hm7 _ (by decide +kernel)).trans q5
    have p7 : m7 (PySem.Str.ofString "best") = some (.int (b : Int) t1) := (hm7 _ (by decide +kernel)).trans q7
    have p6 : m7 (PySem.Str.ofString "totals") = some (.ref aS) := (hm7 _ (by decide +kernel)).trans q6
    have p8 : m7 (PySem.Str.ofString "gain") = some (.int (valOf R (xs.map hk) ws b) t2) := (hm7 _ (by decide +kernel)).trans q8
    obtain ⟨F9, s9⟩ := Fr.namedE F8 [(PySem.Str.ofString "left", .ref aF), (PySem.Str.ofString "best", .int (b : Int) t1)] (List.forall_mem_cons.mpr ⟨p5, List.forall_mem_cons.mpr ⟨p7, List.forall_mem_nil _⟩⟩)
    clear F8
    refine segRemove (aF := aF) (led := (aG, listOf gv'.toArray ng') :: (aR, listOf rv'.toArray (nr + 1)) :: (aS, listOf tv.toArray nt) :: led) B X T fL hb (by omega) ?_ F9 (fun q hq' => N8 q (rot3_mem hq')) ?_
    · refine List.forall_mem_cons.mpr ⟨Z.gf, List.forall_mem_cons.mpr ⟨Z.rf, List.forall_mem_cons.mpr ⟨Ne.symm Z.fs, Z.offF⟩⟩⟩
    intro h9 tk9 lv' nf' fL' F10 N10
    rw [s9] at F10
    clear F9 N8 s9
    (try dsimp only)
    obtain ⟨tv0, tot0, a, ta, e1, e2, fT0⟩ := tot_last fT (by rw [hI.totals, List.range_succ]; simp)
    subst e1 e2
    have htl : tv0.length ≤ 6 := by
      have := hI.totals
      have h := congrArg List.length this
      rw [List.length_append, List.length_map, List.length_range, ← fT0.length] at h
      simp at h; omega
    obtain ⟨F11, s11⟩ := Fr.namedE F10 [(PySem.Str.ofString "totals", .ref aS), (PySem.Str.ofString "gain", .int (valOf R (xs.map hk) ws b) t2)] (List.forall_mem_cons.mpr ⟨p6, List.forall_mem_cons.mpr ⟨p8, List.forall_mem_nil _⟩⟩)
    clear F10
    refine segTot (aS := aS) (led := (aF, listOf lv'.toArray nf') :: (aG, listOf gv'.toArray ng') :: (aR, listOf rv'.toArray (nr + 1)) :: led) B X T htl ?_ F11 (fun q hq' => N10 q (rot4_mem hq')) ?_
    · refine List.forall_mem_cons.mpr ⟨Z.fs, List.forall_mem_cons.mpr ⟨Z.gs, List.forall_mem_cons.mpr ⟨Z.rs, Z.offS⟩⟩⟩
    intro h11 tk11 t11 nt' F12 N12
    rw [s11] at F12
    clear F11 N10 s11
    show Hold (KswEnd _ _ _ _ _ _ _ _ _ _ _ _)
    refine ksw_end ⟨rv', nr + 1, insAt R (hk (xs.getD b 0) + 1) (hk (xs.getD b 0)), gv', ng', G', lv', nf', ls.erase b, tv0 ++ [Value.int a ta] ++ [Value.int (a + valOf R (xs.map hk) ws b) t11], nt', tot0 ++ [a] ++ [a + valOf R (xs.map hk) ws b], ps ++ [b]⟩ F12 N12 ?led ⟨fR', fG', fL', ?tots⟩ (List.forall_mem_nil _) ?hr (winv_step hI hx h5 hb hbest (insAt_perm _ _ _) hG') ?hm
    case led =>
      intro q hq'
      rcases List.mem_cons.mp hq' with rfl | hq'
      · exact .tail _ (.tail _ (.tail _ (.head _)))
      rcases List.mem_cons.mp hq' with rfl | hq'
      · exact .tail _ (.tail _ (.head _))
      rcases List.mem_cons.mp hq' with rfl | hq'
      · exact .tail _ (.head _)
      rcases List.mem_cons.mp hq' with rfl | hq'
      · exact .head _
      · exact .tail _ (.tail _ (.tail _ (.tail _ hq')))
    case tots => exact IntsAre.snoc fT _ _
    case hr =>
      intro z _ hz
      have g : z ≠ PySem.Str.ofString "rung" := by
        intro e; subst e; simp at hz
      exact (hm7 z g).trans (q9 z hz)
    case hm =>
      show (ls.erase b).length < _
      rw [List.length_erase_of_mem hb, ← hls]
      have : ls.length ≠ 0 := fun e => hne (List.length_eq_zero_iff.mp e)
      show ls.length - 1 < ls.length
      omega
end Mine
end
section
open PySem PySem.W PyProof.Rows PySem.Calls PySem.Spec
set_option Elab.async false
set_option maxRecDepth 100000
set_option maxHeartbeats 8000000
set_option linter.unusedVariables false
namespace Mine
theorem fillNL_ (w : World) (h : Heap) : (Head.hc.heap_39 w.params).In h → PySem.Challenge.rw_zo0024_01.row.prog = PySem.Challenge.rw_zo0024_01.row.prog := by k_fill; intro _; w_top off; rfl
theorem allLt_mem {d : Addr} : ∀ {l : List (Addr × Obj)}, AllLt d l → ∀ p ∈ l, p.1 < d
  | [], _, _, hp => nomatch hp
  | _ :: _, h, p, hp => by
    rcases List.mem_cons.mp hp with rfl | hp
    · exact h.1
    · exact allLt_mem h.2 p hp
theorem rev4 {h₀ h : Heap} {L : Addr} {a b c d : Addr × Obj} {rest : List (Addr × Obj)} (N : News h₀ L h (d :: c :: b :: a :: rest)) : News h₀ L h (a :: b :: c :: d :: rest) := fun p hp => by
  rcases List.mem_cons.mp hp with rfl | hp
  · exact N _ (.tail _ (.tail _ (.tail _ (.head _))))
  rcases List.mem_cons.mp hp with rfl | hp
  · exact N _ (.tail _ (.tail _ (.head _)))
  rcases List.mem_cons.mp hp with rfl | hp
  · exact N _ (.tail _ (.head _))
  rcases List.mem_cons.mp hp with rfl | hp
  · exact N _ (.head _)
  · exact N p (.tail _ (.tail _ (.tail _ (.tail _ hp))))
set_option pp.deepTerms.threshold 8
theorem segInit {w : World} {p : Program} {loose : List PySem.Str} {mean : ExcName → Option Value} {mg mb : PySem.Str → Option Value} {s : Shared} {Q : Flow → Shared → Prop} {E : Value → Shared → Prop} {h₀ : Heap} {L : Addr} {m : PySem.Str → Option Value} {led : List (Addr × Obj)}
  {aT aW aH aLd : Addr} {o1 : Obj} (B : Below callerA h₀ [] h₀) (X : (Head.hc.heap_39 w.params).In h₀) (T : Top p loose mean mg mb h₀)
  (hd1 : o1.data = .cell none) (hoff : ∀ p ∈ led, p.1 ≠ L + 1 + 1)
  (F : Fr h₀ L s.heap (kstB m [(PySem.Str.ofString "tails", .ref aT), (PySem.Str.ofString "worth", .ref aW), (PySem.Str.ofString "heads", .ref aH), (PySem.Str.ofString "ladders", .ref aLd)]))
  (N : News h₀ L s.heap ((L + 1 + 1, o1) :: led))
  (hcont : ∀ h' tk' m' aR aG aF aS oc t0 t1 t2 t3 t4 t5, Fr h₀ L h' (kstB m' [(PySem.Str.ofString "row", .ref aR), (PySem.Str.ofString "heads", .ref aH), (PySem.Str.ofString "worth", .ref aW), (PySem.Str.ofString "left", .ref aF), (PySem.Str.ofString "ladders", .ref aLd), (PySem.Str.ofString "totals", .ref aS), (PySem.Str.ofString "tails", .ref aT)]) →
    News h₀ L h' ((aR, listOf #[] 0) :: (aG, listOf #[] 0) :: (aF, listOf #[.int 0 t0, .int 1 t1, .int 2 t2, .int 3 t3, .int 4 t4] 0) :: (aS, listOf #[.int 0 t5] 0) :: (L + 1 + 1, oc) :: led) →
    oc.data = .cell (some (.ref aG)) → Apart4 aR aG aF aS ((L + 1 + 1, oc) :: led) → Q .next { s with heap := h', toks := tk' }) :
  wpAny (model PrgW w) (callerA.deeper (lawEnv L)) (execs ((lawDef.1.drop 8).take 4) (lawEnv L)) Q E s := by
  replace hcont := Hold.mk hcont
  dsimp only [lawEnv, lawDef, lastOf, lawDefOf, PySem.Challenge.pw_zo0024_01]
  simp only [List.take_succ_cons, List.take_zero, List.drop_succ_cons, List.drop_zero]
  k_steps
  rename Fr _ _ _ _ => F9
  rename News _ _ _ _ => N9
  rename_i aR g1 l1 g2 aG g3 l2
  have n1 := N9 (L + 1 + 1, o1) (.tail _ (.tail _ (.head _)))
  refine wpAny_storeName_cell rfl rfl (by rfl) ⟨o1, n1.1, hd1⟩ fun h' hv hs => ?_
  obtain ⟨oc, eoc, doc⟩ := hv
  have F8 := Fr.put F9 n1.2.1 n1.2.2 (fun c hc => hs.2 c hc)
  have N8 : News h₀ L h' ((aG, listOf #[] 0) :: (aR, listOf #[] 0) :: (L + 1 + 1, oc) :: led) := by
    intro p hp
    rcases List.mem_cons.mp hp with rfl | hp
    · have z := N9 _ (.head _)
      exact ⟨(hs.2 _ (Ne.symm (Nat.ne_of_lt l2.2.1))).trans z.1, z.2⟩
    rcases List.mem_cons.mp hp with rfl | hp
    · have z := N9 _ (.tail _ (.head _))
      exact ⟨(hs.2 _ (Ne.symm (Nat.ne_of_lt l1.1))).trans z.1, z.2⟩
    rcases List.mem_cons.mp hp with rfl | hp
    · exact ⟨eoc, n1.2⟩
    · have z := N9 p (.tail _ (.tail _ (.tail _ hp)))
      exact ⟨(hs.2 _ (hoff p hp)).trans z.1, z.2⟩
  have aR1 := allLt_mem l1.2
  have aG1 := allLt_mem l2.2.2
  have l3 := l1.1
  have l4 := l2.1
  have l5 := l2.2.1
  clear F9 N9 n1 hs eoc l1 l2
  (try dsimp only)
  k_steps
  rename Fr _ _ _ _ => F9
  rename News _ _ _ _ => N9
  rename_i aF g4 l6 g5 tkA aS g6 l7 g7
  unfold Hold at hcont
  refine hcont _ _ _ aR aG aF aS oc _ _ _ _ _ _ (Fr.named F9 _ (List.forall_mem_cons.mpr ⟨by rfl, List.forall_mem_cons.mpr ⟨by rfl, List.forall_mem_cons.mpr ⟨by rfl, List.forall_mem_cons.mpr ⟨by rfl, List.forall_mem_cons.mpr ⟨by rfl, List.forall_mem_cons.mpr ⟨by rfl, List.forall_mem_cons.mpr ⟨by rfl, List.forall_mem_nil _⟩⟩⟩⟩⟩⟩⟩)) (rev4 N9) doc ?_
  · have aF1 := allLt_mem l6.2.2.2
    have aS1 := allLt_mem l7.2.2.2.2
    exact ⟨Nat.ne_of_lt l4, Nat.ne_of_lt l6.2.1, Nat.ne_of_lt l7.2.2.1, Nat.ne_of_lt l6.1, Nat.ne_of_lt l7.2.1, Nat.ne_of_lt l7.1,
      List.forall_mem_cons.mpr ⟨Nat.ne_of_lt l3, fun p hp => Nat.ne_of_lt (aR1 p hp)⟩, List.forall_mem_cons.mpr ⟨Nat.ne_of_lt l5, fun p hp => Nat.ne_of_lt (aG1 p hp)⟩,
      List.forall_mem_cons.mpr ⟨Nat.ne_of_lt l6.2.2.1, fun p hp => Nat.ne_of_lt (aF1 p hp)⟩, List.forall_mem_cons.mpr ⟨Nat.ne_of_lt l7.2.2.2.1, fun p hp => Nat.ne_of_lt (aS1 p hp)⟩⟩
end Mine
end
section
open PySem PySem.W PyProof.Rows PySem.Calls PySem.Spec
set_option Elab.async false
set_option maxRecDepth 100000
set_option maxHeartbeats 8000000
set_option linter.unusedVariables false
namespace Mine
theorem fillOA_ (w : World) (h : Heap) : (Head.hc.heap_39 w.params).In h → PySem.Challenge.rw_zo0024_01.row.prog = PySem.Challenge.rw_zo0024_01.row.prog := by k_fill; intro _; w_top off; rfl
theorem lt_cases (a b : List Nat) (h1 : ¬ a < b) (h2 : ¬ b < a) : a = b := List.le_antisymm (List.not_lt.mp h2) (List.not_lt.mp h1)
theorem bnat_inj {a b : Array UInt8} (h : bnat a = bnat b) : a = b := by
  have key : ∀ {l m : List UInt8}, l.map (·.toNat) = m.map (·.toNat) → l = m := by
    intro l
    induction l with
    | nil => intro m h; cases m with
      | nil => rfl
      | cons _ _ => simp at h
    | cons x l ih => intro m h; cases m with
      | nil => simp at h
      | cons y m =>
        simp only [List.map_cons, List.cons.injEq] at h
        rw [ih h.2, UInt8.toNat_inj.mp h.1]
  exact Array.toList_inj.mp (key h)
def SameBy (R : List Nat) (hs : List (Array UInt8)) : Prop := ∀ ss : List (Array UInt8), ss.Perm hs → ss.Pairwise (fun a b => ¬ bnat b < bnat a) → ss = R.map headS
theorem sameBy {R : List Nat} {hs : List (Array UInt8)} (hsort : R.Pairwise (· ≤ ·)) (h27 : ∀ k ∈ R, k < 27) (hp : (R.map headS).Perm hs) : SameBy R hs := fun ss h1 h2 => by
  refine List.Perm.eq_of_pairwise (le := fun a b => ¬ bnat b < bnat a) (fun a b _ _ g1 g2 => bnat_inj (lt_cases _ _ g2 g1)) h2 ?_ (h1.trans hp.symm)
  rw [List.pairwise_map]
  refine hsort.imp_of_mem fun {a b} ha hb hab => ?_
  have := cmp_head ⟨b, h27 b hb⟩ ⟨a, h27 a ha⟩
  have h3 : decide (b < a) = false := decide_eq_false (by omega)
  exact of_decide_eq_false (this.trans h3)
def SameStr (G : List Nat) (hs : List PySem.Str) : Prop := ∀ ss : List PySem.Str, ss.Perm hs → sortedS ss = true → ss = G.map gS
theorem str_inj {a b : PySem.Str} (h : a.cps.toList = b.cps.toList) : a = b := by
  cases a; cases b
  simp only [PySem.Str.mk.injEq]
  exact Array.toList_inj.mp h
theorem sameStr {G : List Nat} {hs : List PySem.Str} (hsort : G.Pairwise (· ≤ ·)) (hsm : ∀ k ∈ G, ∃ x < 27, k ∈ gkeys x) (hp : (G.map gS).Perm hs) : SameStr G hs := fun ss h1 h2 => by
  refine List.Perm.eq_of_pairwise (le := fun a b => ¬ b.cps.toList < a.cps.toList) (fun a b _ _ g1 g2 => str_inj (lt_cases _ _ g2 g1)) (sortedS_pw ss h2) ?_ (h1.trans hp.symm)
  rw [List.pairwise_map]
  refine hsort.imp_of_mem fun {a b} ha hb hab => ?_
  have := rung_lt (hsm b hb) (hsm a ha)
  have h3 : decide (b < a) = false := decide_eq_false (by omega)
  exact of_decide_eq_false (this.trans h3)
theorem range_map {α : Type} {xs : List Nat} (h5 : xs.length = 5) (f : Nat → α) : (List.range 5).map (fun j => f (xs.getD j 0)) = xs.map f := by
  obtain ⟨a, b, c, d, e, rfl⟩ := five h5
  rfl
theorem range_flat {xs : List Nat} (h5 : xs.length = 5) (f : Nat → List Nat) : (List.range 5).flatMap (fun j => f (xs.getD j 0)) = xs.flatMap f := by
  obtain ⟨a, b, c, d, e, rfl⟩ := five h5
  rfl
theorem end_row {xs : List Nat} {ws : List Int} {R G ps : List Nat} {tot : List Int} (h : WInv xs ws R G [] ps tot) (h5 : xs.length = 5) : (R.map headS).Perm ((xs.map hk).map headS) := by
  refine List.Perm.map _ ?_
  have h1 := h.row
  have h2 := (winv_end h).map fun j => hk (xs.getD j 0)
  rw [range_map h5 hk] at h2
  exact h1.trans h2
theorem end_rungs {xs : List Nat} {ws : List Int} {R G ps : List Nat} {tot : List Int} (h : WInv xs ws R G [] ps tot) (h5 : xs.length = 5) : (G.map gS).Perm ((xs.flatMap gkeys).map gS) := by
  refine List.Perm.map _ ?_
  have h1 := h.rungs
  have h2 := (winv_end h).flatMap_right fun j => gkeys (xs.getD j 0)
  rw [range_flat h5 gkeys] at h2
  exact h1.trans h2
theorem lads_flat {lads : List Lad} {xs : List Nat} (h : LadsAre lads xs) (hx : ∀ x ∈ xs, x < 27) : StrsAre ((lads.map fun d => (d.1, d.2.1)).flatMap (·.2)) ((xs.flatMap gkeys).map gS) := by
  induction h with
  | nil => exact .nil
  | snoc h0 h1 ih =>
    rename_i l xs d x
    rw [List.map_append, List.flatMap_append, List.flatMap_append, List.map_append]
    refine StrsAre.append' (ih fun y hy => hx y (List.mem_append_left _ hy)) ?_
    have hx27 : x < 27 := hx x (by simp)
    simp only [List.map_cons, List.map_nil, List.flatMap_cons, List.flatMap_nil, List.append_nil]
    rw [← gkeys_fin ⟨x, hx27⟩]
    exact h1
theorem flat4 (xs : List Nat) : (xs.flatMap gkeys).length = 4 * xs.length := flat_len gkeys 4 (fun j => rfl) xs
end Mine
end
section
open PySem PySem.W PyProof.Rows PySem.Calls PySem.Spec
set_option Elab.async false
set_option maxRecDepth 100000
set_option maxHeartbeats 8000000
set_option linter.unusedVariables false
namespace Mine
theorem fillOD_ (w : World) (h : Heap) : (Head.hc.heap_39 w.params).In h → PySem.Challenge.rw_zo0024_01.row.prog = PySem.Challenge.rw_zo0024_01.row.prog := by k_fill; intro _; w_top off; rfl
theorem call_TA {prog : Program} {w : World} {A A₀ : Around} {s : Shared} {base : Heap} {outer : List Env} {env : Env} {K : Frag} {p : Program} {loose : List PySem.Str} {mean : ExcName → Option Value} {mg mb : PySem.Str → Option Value}
    {Q : Value → Shared → Prop} {E : Value → Shared → Prop} {name qual : PySem.Str} {params : Arguments} {body : List Stmt} {scope : Scope} {dV kV doc pm cdv ct oc : Value} {an od : Option Addr} {osl : Array (Option Value)} {f : Addr} {args : List Value} {kw : List (PySem.Str × Value)} {binds : List (PySem.Str × Value)}
    (W : At p loose mean mg mb K A base env outer s.heap)
    (ho : K.lookup f = some ⟨oc, od, .func (fnOf name qual params body scope dV kV doc pm an cdv ct), osl⟩) (hcd : codeIn K cdv qual = true) (hroom : A.depth < recursionLimit)
    (hbind : BindsTo s (fnOf name qual params body scope dV kV doc pm an cdv ct) ⟨args, kw⟩ binds) (hkind : (binds.all fun y => scope.names.lookup y.1 == some .local || scope.names.lookup y.1 == some .cell) = true)
    (hnd : ((cellsFrom 0 scope.names []).map (·.1)).Nodup)
    (h : ∀ L' h₁ tk cells, Fr s.heap L' h₁ (bindL (envOfC qual scope L' f cdv).kindOf binds fun _ => none) → News s.heap L' h₁ cells →
      CellsAre (bindC (envOfC qual scope L' f cdv).kindOf binds fun _ => none) (cellsFrom (L' + 1) scope.names []) cells → Below A base (env :: outer) s.heap → K.In s.heap → Top p loose mean mg mb s.heap → (∀ b o, s.heap.get? b = some o → b < L') →
      wpAny (model prog w) (A.deeper (envOfC qual scope L' f cdv)) (execs body (envOfC qual scope L' f cdv))
        (fun fl s' => Q (match fl with | .ret v => v | _ => .none) s') (fun _ _ => False) { s with heap := h₁, toks := tk })
    (hco : scope.isCoroutine = false) (hgen : scope.isGenerator = false) (hk : scope.kind = .function) : wpAny (model prog w) A (call (.ref f) args kw) Q E s := by
  refine wpAny_call ?_
  refine codeAny_call_function hroom (W.frag _ _ ho) rfl hco hgen rfl (codeRec_of W.frag hcd) (hbind _ _ _ _ ?_)
  refine wpAny_newFunctionEnv_cells hk (kindsX hkind _) fun env' he s' x => ?_
  subst he
  refine ⟨W.top.nolimit.keeps x.toInCall.keep, ?_⟩
  obtain ⟨h₁, tk, rfl, _⟩ := x.done
  obtain ⟨cells, NC, Y⟩ := Cl.news (h₀ := s.heap) (Nat.le_refl _) fun n c hm => ⟨x.cell n c (lookup_of_mem_nodup (cellsFrom_names scope.names 0 (s.heap.objs.size + 1) [] [] rfl ▸ hnd) hm), x.above n c hm⟩
  exact codeAny_func (wpAny_mono (h s.heap.objs.size h₁ tk cells ⟨x.toInCall.ns, x.toInCall.keep, Nat.le_refl _⟩ NC Y W.below W.frag W.top (fun b o e => Heap.lt_size e)) (fun fl s' y => y) fun _ _ y => y.elim)
def preLast : List Stmt → List Stmt × Scope
  | [] => ([], default)
  | [_] => ([], default)
  | [s, _] => lawDefOf s
  | _ :: s :: t :: r => preLast (s :: t :: r)
def mostDef : List Stmt × Scope := preLast PySem.Challenge.pw_zo0024_01.main.body
abbrev mostEnv (L : Addr) : Env := envOfC (PySem.Str.ofString "_law_most") mostDef.2 L 119 (.ref 118)
end Mine
end
section
open PySem PySem.W PyProof.Rows PySem.Calls PySem.Spec
set_option Elab.async false
set_option maxRecDepth 100000
set_option maxHeartbeats 8000000
set_option linter.unusedVariables false
namespace Mine
theorem fillOE_ (w : World) (h : Heap) : (Head.hc.heap_39 w.params).In h → PySem.Challenge.rw_zo0024_01.row.prog = PySem.Challenge.rw_zo0024_01.row.prog := by k_fill; intro _; w_top off; rfl
inductive RowsAre (xs : List Nat) : List Lad → List Nat → Prop
  | nil : RowsAre xs [] []
  | snoc {l : List Lad} {zs : List Nat} {d : Lad} {x : Nat} : RowsAre xs l zs → IntsAre d.2.1 (xs.map fun (y : Nat) => sh (x : Int) (y : Int)) → RowsAre xs (l ++ [d]) (zs ++ [x])
theorem RowsAre.length {xs : List Nat} {l : List Lad} {zs : List Nat} (h : RowsAre xs l zs) : l.length = zs.length := by
  induction h with
  | nil => rfl
  | snoc _ _ ih => simp [ih]
theorem RowsAre.get {xs : List Nat} {l : List Lad} {zs : List Nat} (h : RowsAre xs l zs) : ∀ (i : Nat) (x : Nat), zs[i]? = some x → ∃ d, l[i]? = some d ∧ IntsAre d.2.1 (xs.map fun (y : Nat) => sh (x : Int) (y : Int)) := by
  induction h with
  | nil => intro i x e; simp at e
  | snoc h0 h1 ih =>
    rename_i l xs d y
    intro i x e
    have hl := h0.length
    by_cases q : i < xs.length
    · rw [List.getElem?_append_left q] at e
      obtain ⟨d', e', h'⟩ := ih i x e
      exact ⟨d', by rw [List.getElem?_append_left (by omega)]; exact e', h'⟩
    · have : i = xs.length := by
        have := (List.getElem?_eq_some_iff.mp e).1
        simp at this; omega
      subst this
      rw [List.getElem?_append_right (Nat.le_refl _)] at e
      simp at e
      subst e
      exact ⟨d, by rw [List.getElem?_append_right (by omega)]; simp [hl], h1⟩
theorem nsObj_of {h : Heap} {C : Addr} {oC : Obj} {m : PySem.Str → Option Value} (hn : h.Ns C m) (ho : h.get? C = some oC) : LCg.NsObj oC m := by
  obtain ⟨o, es, ep, e, r⟩ := hn
  rw [ho] at e; cases e
  exact ⟨es, ep, r⟩
theorem map_one {l : List (Addr × Obj)} {c : Addr} (e : l.map (·.1) = [c]) : ∃ o, l = [(c, o)] := by
  cases l with
  | nil => cases e
  | cons p r =>
    obtain ⟨e1, e2⟩ := List.cons.inj e
    cases r with
    | nil => exact ⟨p.2, by rw [← e1]⟩
    | cons q r => cases e2
theorem own_one {scope : Scope} {C : Addr} {own : List (Addr × Obj)} (e : own.map (·.1) = ownC scope C) (ho : ownC scope C = [C + 1]) : ∃ o, own = [(C + 1, o)] := map_one (e.trans ho)
theorem own_nil {scope : Scope} {C : Addr} {own : List (Addr × Obj)} (e : own.map (·.1) = ownC scope C) (ho : ownC scope C = []) : own = [] := List.map_eq_nil_iff.mp (e.trans ho)
local macro_rules | `(tactic| walk_at "call ref") => `(tactic| ((with_reducible show wpAny _ _ (call (Value.ref 114) [_, _]) _ _ _); k_dflt (refine' Mine.lawShared ?W ?d ?u ?_; (case W => exact At.of (by assumption) (by assumption) (by assumption) (by assumption) rfl rfl rfl); (case d => ktr_room); (case u => ktr_units)); intro t9 h9 tk9 k9; (rename Fr _ _ _ _ => F9); (rename News _ _ _ _ => N9); (replace F9 := Fr.after F9 k9); (replace N9 := newsAfter N9 k9); clear k9))
set_option pp.deepTerms.threshold 8
theorem mostS0 {w : World} {p : Program} {loose : List PySem.Str} {mean : ExcName → Option Value} {mg mb : PySem.Str → Option Value} {dp un : Nat} {gd : Option (List Code)} {A₀ : Around} {base : Heap} {env : Env} {outer : List Env} {s : Shared} {Q : Flow → Shared → Prop} {h₀ : Heap} {L : Addr} {m : PySem.Str → Option Value}
  {aT : Addr} {vT : List Value} {xs : List Nat} {o1 o2 o3 o4 o5 : Obj} {v3 : Option Value} (B : Below A₀ base (env :: outer) h₀) (X : (Head.hc.heap_39 w.params).In h₀) (T : Top p loose mean mg mb h₀) (hd1 : dp + 9 < recursionLimit) (hu : un + 72 < cLine)
  (hl : h₀.IsList aT vT.toArray) (hi : IntsAre vT (natInts xs)) (h5 : xs.length = 5) (hd : o1.data = .cell (some (.ref aT))) (hd3 : o3.data = .cell v3)
  (F : Fr h₀ L s.heap m) (N : News h₀ L s.heap [(L + 1, o1), (L + 1 + 1, o2), (L + 1 + 1 + 1, o3), (L + 1 + 1 + 1 + 1, o4), (L + 1 + 1 + 1 + 1 + 1, o5)])
  (hcont : ∀ h' tk' o3' aSh rows, Fr h₀ L h' m → News h₀ L h' ([(L + 1, o1), (L + 1 + 1, o2), (L + 1 + 1 + 1, o3'), (L + 1 + 1 + 1 + 1, o4), (L + 1 + 1 + 1 + 1 + 1, o5)] ++ (aSh, lstO (rows.map ladRef)) :: rows.map ladObj) → o3'.data = .cell (some (.ref aSh)) → RowsAre xs rows xs → Q .next { s with heap := h', toks := tk' }) :
  wpAny (model PrgW w) (({ handled := none, depth := dp, frames := some (env :: outer), guards := gd, units := un } : Around).deeper (mostEnv L)) (execs (mostDef.1.take 1) (mostEnv L)) Q (fun _ _ => False) s := by
  replace hcont := Hold.mk hcont
  have hvl : vT.length = 5 := by rw [hi.length, List.length_map, h5]
  dsimp only [mostEnv, mostDef, preLast, lawDefOf, PySem.Challenge.pw_zo0024_01]
  simp only [List.take_succ_cons, List.take_zero, List.drop_succ_cons, List.drop_zero]
  refine wpAny_execs_cons (wpAny_Assign_Name ?_)
  refine kc_list (h₀ := h₀) (L := L) (mf := m) (by rfl) rfl (by decide) ?_
  refine name_cell N (by rfl) (.head _) hd ?_
  refine ⟨aT, vT, _, rfl, rfl, F, N, .inl hl, by rw [sizeLine_eq]; omega, (fun i ys news => ∃ rows : List Lad, ys = rows.map ladRef ∧ (∀ d ∈ rows, ladObj d ∈ news) ∧ RowsAre xs rows (xs.take i)), _, ⟨[], rfl, fun d hd => (nomatch hd), .nil⟩, ?lgo, asg_cell rfl (by rfl) (fun C => by rfl) (fun C => by rfl), ?turn, ?fin⟩
  case lgo => intro v i j I h tk Q' _ _ hq; exact wpAny_of_eq rfl hq
  case turn =>
    intro i v ys news own I C D oI oC h tk hin hv hinv hbs haf hown F1 N1 hoff
    obtain ⟨rows, rfl, hrows, hRA⟩ := hinv
    obtain ⟨ox, hox, hxd⟩ := haf
    obtain ⟨ox', rfl⟩ := own_one hown rfl
    have : ox' = ox := by
      have := (N1 (C + 1, ox') (by simp)).1
      rw [hox] at this; exact (Option.some.inj this).symm
    subst this
    have hxi : i < xs.length := by omega
    obtain ⟨xv, xt, hxe, rfl⟩ := Mine.IntsAre.item hi hv
    rw [List.getElem?_map] at hxe
    obtain ⟨x, hxx, rfl⟩ := Option.map_eq_some_iff.mp hxe
    have htake : xs.take (i + 1) = xs.take i ++ [x] := by rw [List.take_add_one, hxx]; rfl
    refine wpAny_tests_nil ?_
    rw [if_pos rfl]
    refine kc_list (h₀ := h₀) (L := L) (mf := m) (by rfl) rfl (by decide) ?_
    refine name_cell N1 (by rfl) (List.mem_append_right _ (hbs _ (.head _))) hd ?_
    refine ⟨aT, vT, _, rfl, rfl, F1, N1, .inl hl, by rw [sizeLine_eq]; omega, (fun j zs news2 => IntsAre zs ((xs.take j).map fun (y : Nat) => sh (x : Int) (y : Int))), _, .nil, ?lgo2, asg_name rfl (by rfl), ?turn2, ?fin2⟩
    case lgo2 => intro v i j I h tk Q' _ _ hq; exact wpAny_of_eq rfl hq
    case turn2 =>
      intro j v2 zs news2 own2 I2 C2 D2 oI2 oC2 h2 tk2 hjn hv2 hinv2 hbs2 haf2 hown2 F2 N2 hoff2
      obtain ⟨m₂, hn2, hm2⟩ := haf2
      obtain rfl := own_nil hown2 rfl
      have hC2 := nsObj_of hn2 (N2 (C2, oC2) (by simp)).1
      have hxj : j < xs.length := by omega
      obtain ⟨yv, yt, hye, rfl⟩ := Mine.IntsAre.item hi hv2
      rw [List.getElem?_map] at hye
      obtain ⟨y, hyy, rfl⟩ := Option.map_eq_some_iff.mp hye
      have htake2 : (xs.take (j + 1)).map (fun (y : Nat) => sh (x : Int) (y : Int)) = (xs.take j).map (fun (y : Nat) => sh (x : Int) (y : Int)) ++ [sh (x : Int) (y : Int)] := by rw [List.take_add_one, hyy]; simp
      have N3 : News h₀ L h2 ((C2, oC2) :: (C + 1, ox') :: (([(I2, oI2), (C2, oC2), (D2, lstO zs)] : List (Addr × Obj)) ++ news2)) := by
        intro p hp
        rcases List.mem_cons.mp hp with rfl | hp
        · exact N2 _ (by simp)
        rcases List.mem_cons.mp hp with rfl | hp
        · exact N2 _ (List.mem_append_right _ (hbs2 _ (by simp)))
        · exact N2 p hp
      have hj2 : Hold (IntsAre zs ((xs.take j).map fun (y : Nat) => sh (x : Int) (y : Int))) := Hold.mk hinv2
      clear F1 N1 N2 hinv2 hv2 hv hi hl F N hye hyy hxe hxx hn2 hox
      refine wpAny_tests_nil ?_
      rw [if_pos rfl]
      k_steps
      rename Fr _ _ _ _ => F9
      rename News _ _ _ _ => N9
      unfold Hold at hj2
      refine kcTo F9 N9 news2 (fun p hp => .tail _ (.tail _ (List.mem_append_left _ hp))) hbs2 (fun p hp => .tail _ (.tail _ (List.mem_append_right _ hp))) hoff2 ?_
      rw [htake2]
      exact IntsAre.snoc hj2 _ _
    case fin2 =>
      intro D2 h' tk' zs news2 hinv2 hbs2 F2 N2 hoff2
      rw [hvl, List.take_of_length_le (by omega)] at hinv2
      refine kcTo F2 N2 ((D2, lstO zs) :: news) (fun p hp => .tail _ (hbs2 p (List.mem_append_left _ hp))) (fun p hp => .tail _ (hbs p hp)) (fun p hp => ?_) (fun p hp q hq => ?_) ?_
      · rcases List.mem_cons.mp hp with rfl | hp
        · exact .head _
        · exact .tail _ (hbs2 p (List.mem_append_right _ hp))
      · rcases List.mem_cons.mp hp with rfl | hp
        · exact Ne.symm (hoff2 q (hbs2 q (List.mem_append_left _ hq)))
        · exact hoff p hp q hq
      · refine ⟨rows ++ [(D2, zs, zs.length)], by simp, fun d hd => ?_, ?_⟩
        · rcases List.mem_append.mp hd with hd | hd
          · exact .tail _ (hrows d hd)
          · rw [List.mem_singleton.mp hd]; exact .head _
        · rw [htake]; exact hRA.snoc hinv2
  case fin =>
    intro D h' tk' ys news hinv hbs F1 N1 hoff
    obtain ⟨rows, rfl, hrows, hRA⟩ := hinv
    rw [List.take_of_length_le (by omega)] at hRA
    have n3 := N1 (L + 1 + 1 + 1, o3) (.tail _ (hbs _ (by simp)))
    refine wpAny_storeName_cell rfl rfl (by rfl) ⟨o3, n3.1, hd3⟩ fun h'' hv hs => ?_
    obtain ⟨o3', e3', d3'⟩ := hv
    refine wpAny_execs_nil ?_
    unfold Hold at hcont
    have nb : ∀ p : Addr × Obj, p ∈ (D, lstO (rows.map ladRef)) :: news → p.1 ≠ L + 1 + 1 + 1 → h''.get? p.1 = some p.2 ∧ p.1 ≠ L ∧ h₀.get? p.1 = none := fun p hp hne => ⟨(hs.2 _ hne).trans (N1 p hp).1, (N1 p hp).2⟩
    have nl : ∀ (p : Addr) (ys : List Value) (k : Nat), (p, ({ cls := .type "list", data := .seq ys.toArray k } : Obj)) ∈ (D, lstO (rows.map ladRef)) :: news → p ≠ L + 1 + 1 + 1 := fun p ys k hp e => by
      have h1 := (N1 _ hp).1
      have h2 := n3.1
      simp only [e] at h1
      rw [h2] at h1
      have h3 := congrArg Obj.data (Option.some.inj h1)
      rw [hd3] at h3
      cases h3
    refine hcont h'' _ o3' D rows (Fr.put F1 n3.2.1 n3.2.2 (fun c hc => hs.2 c hc)) ?_ d3' hRA
    intro p hp
    rcases List.mem_append.mp hp with hp | hp
    · simp only [List.mem_cons, List.not_mem_nil, or_false] at hp
      rcases hp with rfl | rfl | rfl | rfl | rfl
      · exact nb _ (.tail _ (hbs _ (by simp))) (by (refine neN ?_; (try dsimp only); omega))
      · exact nb _ (.tail _ (hbs _ (by simp))) (by (refine neN ?_; (try dsimp only); omega))
      · exact ⟨e3', n3.2⟩
      · exact nb _ (.tail _ (hbs _ (by simp))) (by (refine neN ?_; (try dsimp only); omega))
      · exact nb _ (.tail _ (hbs _ (by simp))) (by (refine neN ?_; (try dsimp only); omega))
    · rcases List.mem_cons.mp hp with rfl | hp
      · exact nb _ (.head _) (nl _ _ _ (.head _))
      · obtain ⟨d, hd, rfl⟩ := List.mem_map.mp hp
        exact nb _ (.tail _ (hrows d hd)) (nl _ _ _ (.tail _ (hrows d hd)))
end Mine
end
section
open PySem PySem.W PyProof.Rows PySem.Calls PySem.Spec
set_option Elab.async false
set_option maxRecDepth 100000
set_option maxHeartbeats 8000000
set_option linter.unusedVariables false
namespace Mine
section
variable {prog : Program} {w : World} {A : Around} {E : Value → Shared → Prop} {s : Shared}
/-- a loop over a range whose name is a cell -/
theorem for_range {x : PySem.Str} {px pos : Pos} {iter : Expr} {body : List Stmt} {env : Env} {Q : Flow → Shared → Prop} {h₀ : Heap} {L : Addr} {mf : PySem.Str → Option Value}
    (h : wpAny (model prog w) A (eval iter env) (fun xv s₁ => Hold (∃ (r : Addr) (n : Nat) (t u v : Tok) (base : List (Addr × Obj)), xv = .ref r ∧ A.handled = none ∧ Fr h₀ L s₁.heap mf ∧ News h₀ L s₁.heap base ∧ IsRange s₁.heap r 0 n 1 t u v ∧ Builtin.Range.small 0 n 1 = true ∧ Builtin.Range.rangeSize 0 n 1 = (n : Int) ∧
      ∃ (Inv : Nat → List (Addr × Obj) → Prop), Inv 0 base ∧
        (∀ (i : Nat) (t : Tok) (news : List (Addr × Obj)) (I : Addr) (oI : Obj) (h : Heap) (tk : Nat), i < n → Inv i news → Fr h₀ L h mf → News h₀ L h ((I, oI) :: news) → (∀ p ∈ news, p.1 ≠ I) → oI.cls = .type "range_iterator" →
          wpAny (model prog w) A (storeName env x (.int ((i : Nat) : Int) t)) (fun _ s₂ => wpAny (model prog w) A (execs body env) (fun f s₃ => Hold (f = .next ∧ ∃ h' tk' news', s₃ = { s₁ with heap := h', toks := tk' } ∧ Fr h₀ L h' mf ∧ News h₀ L h' ((I, oI) :: news') ∧ (∀ p ∈ news', p.1 ≠ I) ∧ Inv (i + 1) news')) (fun _ _ => False) s₂) (fun _ _ => False) { s₁ with heap := h, toks := tk }) ∧
        ∀ h' tk' news, Inv n news → Fr h₀ L h' mf → News h₀ L h' news → Q .next { s₁ with heap := h', toks := tk' })) E s)
    (hs : ∀ x, foldedSetIterable iter env x = pure x := by intro _; rfl) :
    wpAny (model prog w) A (exec (.For (.Name x px) iter body [] pos) env) Q E s := by
  refine wpAny_For (wpAny_mono h (fun xv s₁ h₁ => ?_) fun _ _ e => e) hs
  obtain ⟨r, n, t, u, v, base, rfl, hh, F, N, hr, hsm, hn, Inv, hI0, turn, fin⟩ := h₁
  refine wpAny_pyIter_range hr hsm ?_
  have W := LCg.range_walks (prog := prog) (w := w) (I := s₁.heap.objs.size) hh 0 n
  have up : ∀ o : Obj, Grow s₁.heap (s₁.heap.push o) := fun o b o' e => Heap.get?_push_of_some _ e
  have hIL : L ≠ s₁.heap.objs.size := Nat.ne_of_lt F.ns.lt
  have hI₀ := next_is_new F
  refine codeAny_forLoop (fun k s' => ∃ h' tk i news, s' = { s₁ with heap := h', toks := tk } ∧ i ≤ n ∧ k = n + 1 - i ∧ IsRangeIter h' s₁.heap.objs.size (0 + ((i : Nat) : Int) * 1) ((n : Int) - ((i : Nat) : Int)) 1 ∧ Fr h₀ L h' mf ∧ News h₀ L h' news ∧ (∀ p ∈ news, p.1 ≠ s₁.heap.objs.size) ∧ Inv i news) ?_ (n + 1)
    ⟨_, s₁.toks, 0, base, rfl, Nat.zero_le _, rfl, by show IsRangeIter _ _ _ _ _; rw [hn]; simpa using Heap.get?_push_size _ rfl, F.keeps (up _), N.grown (up _), fun p hp => Nat.ne_of_lt (Heap.lt_size (N p hp).1), hI0⟩
  rintro k s' ⟨h', tk, i, news, rfl, hi, rfl, hst', F', N', off', hInv⟩
  by_cases hlt : i < n
  · refine W.item i _ _ _ hlt hst' fun v h₂ tk₂ hPv hst₂ hk₂ => ?_
    obtain ⟨tv, rfl⟩ := hPv
    rw [Int.zero_add]
    refine wpAny_assign_Name ?_
    have N₂ : News h₀ L h₂ ((s₁.heap.objs.size, _) :: news) := fun p hp => by
      rcases List.mem_cons.mp hp with rfl | hp
      · exact ⟨hst₂, Ne.symm hIL, hI₀⟩
      · exact LCg.news_but N' hk₂ off' p hp
    refine wpAny_mono (turn i tv news s₁.heap.objs.size _ h₂ tk₂ hlt hInv (LCg.fr_but F' hk₂ hIL hI₀) N₂ off' rfl) (fun _ s₂ h2 => ?_) fun _ _ e => e.elim
    refine wpAny_mono h2 (fun f s₃ h3 => ?_) fun _ _ e => e.elim
    obtain ⟨rfl, h₄, tk₄, news', rfl, F₄, N₄, off₄, hI₄⟩ := h3
    exact ⟨n + 1 - (i + 1), by omega, h₄, tk₄, i + 1, news', rfl, hlt, rfl, (N₄ _ (.head _)).1, F₄, fun p hp => N₄ p (.tail _ hp), off₄, hI₄⟩
  · obtain rfl : i = n := Nat.le_antisymm hi (Nat.not_lt.mp hlt)
    refine W.done _ _ _ hst' fun h₂ tk₂ hk₂ => ?_
    refine wpAny_execs_nil ?_
    exact fin h₂ tk₂ news hInv (LCg.fr_but F' hk₂ hIL hI₀) (LCg.news_but N' hk₂ off')
end
/-- one choice as it lies: its pair, its list -/
structure Ch where
  t : Addr
  l : Addr
  vs : List Value
  kn : Nat
  val : Int
  tok : Tok
  tn : Nat
abbrev Ch.ref (c : Ch) : Value := .ref c.t
abbrev Ch.tup (c : Ch) : Addr × Obj := (c.t, ({ cls := .type "tuple", data := .seq #[.ref c.l, .int c.val c.tok] c.tn } : Obj))
abbrev Ch.lst (c : Ch) : Addr × Obj := (c.l, listOf c.vs.toArray c.kn)
inductive ChsAre : List Ch → List (List Nat × Int) → Prop
  | nil : ChsAre [] []
  | snoc {l : List Ch} {qs : List (List Nat × Int)} {c : Ch} {q : List Nat × Int} : ChsAre l qs → IntsAre c.vs (natInts q.1) → c.val = q.2 → ChsAre (l ++ [c]) (qs ++ [q])
theorem ChsAre.length {l : List Ch} {qs : List (List Nat × Int)} (h : ChsAre l qs) : l.length = qs.length := by
  induction h with
  | nil => rfl
  | snoc _ _ _ ih => simp [ih]
theorem ChsAre.get {l : List Ch} {qs : List (List Nat × Int)} (h : ChsAre l qs) : ∀ (i : Nat) (c : Ch), l[i]? = some c → ∃ q, qs[i]? = some q ∧ IntsAre c.vs (natInts q.1) ∧ c.val = q.2 := by
  induction h with
  | nil => intro i x e; simp at e
  | snoc h0 h1 h2 ih =>
    rename_i l qs d q
    intro i x e
    have hl := h0.length
    by_cases k : i < l.length
    · rw [List.getElem?_append_left k] at e
      obtain ⟨q', e', h'⟩ := ih i x e
      exact ⟨q', by rw [List.getElem?_append_left (by omega)]; exact e', h'⟩
    · have : i = l.length := by
        have := (List.getElem?_eq_some_iff.mp e).1
        simp at this; omega
      subst this
      rw [List.getElem?_append_right (Nat.le_refl _)] at e
      simp at e
      subst e
      exact ⟨q, by rw [List.getElem?_append_right (by omega)]; simp [hl], h1, h2⟩
theorem ChsAre.append {l r : List Ch} {qs rs : List (List Nat × Int)} (h : ChsAre l qs) (g : ChsAre r rs) : ChsAre (l ++ r) (qs ++ rs) := by
  induction g with
  | nil => simpa using h
  | snoc g0 g1 g2 ih => rw [← List.append_assoc, ← List.append_assoc]; exact .snoc ih g1 g2
end Mine
end
section
open PySem PySem.W PyProof.Rows PySem.Calls PySem.Spec
set_option Elab.async false
set_option maxRecDepth 100000
set_option maxHeartbeats 8000000
set_option linter.unusedVariables false
namespace Mine
theorem fillOG_ (w : World) (h : Heap) : (Head.hc.heap_39 w.params).In h → PySem.Challenge.rw_zo0024_01.row.prog = PySem.Challenge.rw_zo0024_01.row.prog := by k_fill; intro _; w_top off; rfl
def mostBody : List Stmt := match mostDef.1.drop 2 with | .For _ _ b _ _ :: _ => b | _ => []
def compOf : List Stmt → Expr
  | .Assign _ (.BinOp _ _ r _) _ :: _ => r
  | _ => default
def eltOf : Expr → Expr
  | .ListComp e _ _ _ => e
  | e => e
def scopeOf : Expr → Scope
  | .ListComp _ _ s _ => s
  | _ => default
local macro_rules | `(tactic| walk_at "eval Name") => `(tactic| ((with_reducible show wpAny _ _ (eval (Expr.Name _ _) (compEnvC _ _ _ _)) _ _ _); (rename News _ _ _ _ => N9); k_dflt (refine kcf_cell N9 (by rfl) (by k_mem) (by assumption) ?_)))
local macro_rules | `(tactic| walk_at "subscriptTail") => `(tactic| ((with_reducible show wpAny _ _ (subscriptTail _ _ (Value.ref _) (Value.int _ _)) _ _ _); (rename Fr _ _ _ _ => F9); (refine item_at (Fr.lst F9 (by assumption)) (by omega) (by omega) (by assumption) ?_)))
local macro_rules | `(tactic| walk_at "subscriptTail") => `(tactic| ((with_reducible show wpAny _ _ (subscriptTail _ _ (Value.ref _) (Value.int _ _)) _ _ _); (rename News _ _ _ _ => N9); k_dflt (refine item_at (News.isList N9 (by first | k_mem | (repeat (first | assumption | refine List.Mem.tail _ ?_)))) (by omega) (by omega) (by assumption) ?_)))
local macro_rules | `(tactic| walk_at "eval ListComp") => `(tactic| ((rename Fr _ _ _ _ => F9); k_dflt (refine my_Comp F9 (by rfl) (by decide) rfl (by decide) rfl ?_)))
set_option pp.deepTerms.threshold 8
/-- one new choice -/
theorem mostElt {w : World} {p : Program} {loose : List PySem.Str} {mean : ExcName → Option Value} {mg mb : PySem.Str → Option Value} {dp un : Nat} {gd : Option (List Code)} {A₀ : Around} {base : Heap} {env : Env} {outer : List Env} {s : Shared} {Q : Value → Shared → Prop} {h₀ : Heap} {L C : Addr} {m m₂ : PySem.Str → Option Value}
  {aW aSh : Addr} {vW : List Value} {xs : List Nat} {ws : List Int} {rows : List Lad} {o2 o3 o5 oC : Obj} {all : List (Addr × Obj)} {i : Nat} {tk0 : Tok} {c : Ch} {q : List Nat × Int} (B : Below A₀ base (env :: outer) h₀) (X : (Head.hc.heap_39 w.params).In h₀) (T : Top p loose mean mg mb h₀) (hd1 : dp + 9 < recursionLimit) (hu : un + 72 < cLine)
  (hW : h₀.IsList aW vW.toArray) (hWi : IntsAre vW ws) (hw5 : ws.length = 5) (h5 : xs.length = 5) (hi5 : i < 5) (hRA : RowsAre xs rows xs) (hq : ∀ j ∈ q.1, j < 5) (hql : q.1.length ≤ 5) (hc1 : IntsAre c.vs (natInts q.1)) (hc2 : c.val = q.2)
  (hd2 : o2.data = .cell (some (.ref aW))) (hd3 : o3.data = .cell (some (.ref aSh))) (hd5 : o5.data = .cell (some (.int (i : Int) tk0)))
  (hC : LCg.NsObj oC m₂) (hm1 : m₂ (PySem.Str.ofString "kept") = some (.ref c.l)) (hm2 : m₂ (PySem.Str.ofString "value") = some (.int c.val c.tok))
  (F : Fr h₀ L s.heap m) (N : News h₀ L s.heap ((C, oC) :: (L + 1 + 1, o2) :: (L + 1 + 1 + 1, o3) :: (L + 1 + 1 + 1 + 1 + 1, o5) :: c.lst :: (aSh, lstO (rows.map ladRef)) :: all)) (hrows : ∀ d ∈ rows, ladObj d ∈ all)
  (hcont : ∀ h' tk' (c' : Ch) all', Fr h₀ L h' m → News h₀ L h' (c'.tup :: c'.lst :: all') → (∀ p ∈ (C, oC) :: (L + 1 + 1, o2) :: (L + 1 + 1 + 1, o3) :: (L + 1 + 1 + 1 + 1 + 1, o5) :: c.lst :: (aSh, lstO (rows.map ladRef)) :: all, p ∈ all' ∧ p.1 ≠ c'.t ∧ p.1 ≠ c'.l) → c'.t ≠ c'.l →
    IntsAre c'.vs (natInts (q.1 ++ [i])) → c'.val = q.2 + wOf ws i - (q.1.map (sOf xs i)).sum → Q c'.ref { s with heap := h', toks := tk' }) :
  wpAny (model PrgW w) (({ handled := none, depth := dp, frames := some (env :: outer), guards := gd, units := un } : Around).deeper (mostEnv L))
    (eval (eltOf (compOf mostBody)) (compEnvC (scopeOf (compOf mostBody)) [(PySem.Str.ofString "worth", L + 1 + 1), (PySem.Str.ofString "shared", L + 1 + 1 + 1), (PySem.Str.ofString "k", L + 1 + 1 + 1 + 1 + 1)] C (mostEnv L))) Q (fun _ _ => False) s := by
  replace hcont := Hold.mk hcont
  dsimp only [eltOf, compOf, scopeOf, mostBody, mostEnv, mostDef, preLast, lawDefOf, PySem.Challenge.pw_zo0024_01]
  simp only [List.take_succ_cons, List.take_zero, List.drop_succ_cons, List.drop_zero]
  have hwi : vW.length = 5 := by rw [hWi.length]; exact hw5
  have hwe : ws[i]? = some (wOf ws i) := by unfold wOf; rw [List.getD_eq_getElem?_getD, List.getElem?_eq_getElem (by omega)]; rfl
  obtain ⟨tw, hWe⟩ := hWi.get i _ hwe
  have hWe' : vW[((i : Nat) : Int).toNat]? = some (.int (wOf ws i) tw) := by simpa using hWe
  have hxi : i < xs.length := by omega
  have hxe : xs[i]? = some (xs.getD i 0) := by rw [List.getD_eq_getElem?_getD, List.getElem?_eq_getElem hxi]; rfl
  obtain ⟨d, hde, hdi⟩ := hRA.get i _ hxe
  have hdr : (rows.map ladRef)[((i : Nat) : Int).toNat]? = some (Value.ref d.1) := by rw [Int.toNat_natCast, List.getElem?_map, hde]; rfl
  have hdm : ladObj d ∈ all := hrows d (List.mem_of_getElem? hde)
  have hvl : c.vs.length = q.1.length := by rw [hc1.length, List.length_map]
  k_steps
  rename Fr _ _ _ _ => F9
  rename News _ _ _ _ => N9
  refine LCg.CompSrc.ledger (its := c.vs.toArray) rfl F9 N9 (by k_mem) (by rw [sizeLine_eq, List.size_toArray]; omega) (fun g9 => ?_)
  refine compBy (n := c.vs.toArray.size) (fun j ys => IntsAre ys ((q.1.take j).map (sOf xs i))) (.inr ⟨_, by k_mem, rfl, _, rfl⟩) ?turn ?done c.vs.toArray.size 0 [] (Nat.zero_add _) .nil
  case turn =>
    intro j ys v I oI C2 oC2 D m3 h tk E' hj hv hy hC2 hx2 F1 N1 off ne
    have hv' : c.vs[j]? = some v := by simpa using hv
    obtain ⟨z, t, e2, rfl⟩ := Mine.IntsAre.item hc1 hv'
    rw [List.getElem?_map] at e2
    obtain ⟨n, e3, rfl⟩ := Option.map_eq_some_iff.mp e2
    have hn5 := hq n (List.mem_of_getElem? e3)
    have hxn : xs[n]? = some (xs.getD n 0) := by rw [List.getD_eq_getElem?_getD, List.getElem?_eq_getElem (by omega)]; rfl
    have hsn : (xs.map fun (y : Nat) => sh ((xs.getD i 0 : Nat) : Int) (y : Int))[n]? = some (sOf xs i n) := by rw [List.getElem?_map, hxn]; rfl
    obtain ⟨tn, hdn⟩ := hdi.get n _ hsn
    have hdn' : d.2.1[((n : Nat) : Int).toNat]? = some (.int (sOf xs i n) tn) := by simpa using hdn
    have hs : (q.1.take (j + 1)).map (sOf xs i) = (q.1.take j).map (sOf xs i) ++ [sOf xs i n] := by
      rw [List.take_add_one, e3]; simp
    rw [hs]
    have hj2 : Hold (IntsAre ys ((q.1.take j).map (sOf xs i))) := Hold.mk hy
    clear F9 N9 hv hv' e2 e3 hs hy hc1 hWi hWe hWe' hdi hdn hxn hsn
    k_steps
    rename Fr _ _ _ _ => F9
    rename News _ _ _ _ => N9
    unfold Hold at hj2
    exact compTo F9 N9 (fun p hp => hp) (IntsAre.snoc hj2 _ _)
  case done =>
    intro ys hy D h' tk' F8 N8 o8
    rw [List.take_of_length_le (by rw [List.size_toArray]; omega)] at hy
    clear F9 N9
    k_steps
    rename Fr _ _ _ _ => F7
    rename News _ _ _ _ => N7
    rename IntsAre _ (natInts q.1 ++ [_]) => hI7
    unfold Hold at hcont
    rename_i lk g1 lt1 aN vN g2 lt2 tq g3 tkq tq2 aT' g4 lt3
    refine hcont _ _ ⟨aT', aN, vN, 0, c.val + wOf ws i - (q.1.map (sOf xs i)).sum, tkq, 0⟩ ((C, oC) :: (L + 1 + 1, o2) :: (L + 1 + 1 + 1, o3) :: (L + 1 + 1 + 1 + 1 + 1, o5) :: c.lst :: (aSh, lstO (rows.map ladRef)) :: all) F7 (fun p hp => ?_) (fun p hp => ⟨hp, ?_, ?_⟩) ?_ ?_ ?_
    · rcases List.mem_cons.mp hp with rfl | hp
      · exact N7 _ (.head _)
      rcases List.mem_cons.mp hp with rfl | hp
      · exact N7 _ (.tail _ (.tail _ (.head _)))
      · exact N7 p (.tail _ (.tail _ (.tail _ (.tail _ hp))))
    · exact Nat.ne_of_lt (allLt_mem (l := (C, oC) :: (L + 1 + 1, o2) :: (L + 1 + 1 + 1, o3) :: (L + 1 + 1 + 1 + 1 + 1, o5) :: c.lst :: (aSh, lstO (rows.map ladRef)) :: all) lt3.2.2.2 p hp)
    · exact Nat.ne_of_lt (allLt_mem (l := (C, oC) :: (L + 1 + 1, o2) :: (L + 1 + 1 + 1, o3) :: (L + 1 + 1 + 1 + 1 + 1, o5) :: c.lst :: (aSh, lstO (rows.map ladRef)) :: all) lt2.2 p hp)
    · exact Ne.symm (Nat.ne_of_lt lt3.2.1)
    · have e : natInts (q.1 ++ [i]) = natInts q.1 ++ [(i : Int)] := by simp [natInts]
      rw [e]; exact hI7
    · show c.val + wOf ws i - (q.1.map (sOf xs i)).sum = _
      rw [hc2]
end Mine
end
section
open PySem PySem.W PyProof.Rows PySem.Calls PySem.Spec
set_option Elab.async false
set_option maxRecDepth 100000
set_option maxHeartbeats 8000000
set_option linter.unusedVariables false
namespace Mine
theorem fillOH_ (w : World) (h : Heap) : (Head.hc.heap_39 w.params).In h → PySem.Challenge.rw_zo0024_01.row.prog = PySem.Challenge.rw_zo0024_01.row.prog := by k_fill; intro _; w_top off; rfl
def extQ (ws : List Int) (xs : List Nat) (i : Nat) (q : List Nat × Int) : List Nat × Int := (q.1 ++ [i], q.2 + wOf ws i - (q.1.map (sOf xs i)).sum)
theorem choice_succ (ws : List Int) (xs : List Nat) (i : Nat) : choice (wOf ws) (sOf xs) (i + 1) = choice (wOf ws) (sOf xs) i ++ (choice (wOf ws) (sOf xs) i).map (extQ ws xs i) := rfl
theorem choice_len (w : Nat → Int) (s : Nat → Nat → Int) : ∀ n, ∀ p ∈ choice w s n, p.1.length ≤ n
  | 0, p, hp => by
    simp only [choice, List.mem_singleton] at hp
    subst hp; exact Nat.le_refl _
  | n + 1, p, hp => by
    simp only [choice, List.mem_append, List.mem_map] at hp
    rcases hp with hp | ⟨q, hq, rfl⟩
    · exact Nat.le_succ_of_le (choice_len w s n p hp)
    · have := choice_len w s n q hq
      simp; exact this
abbrev cells5 (L : Addr) (o1 o2 o3 o4 o5 : Obj) : List (Addr × Obj) := [(L + 1, o1), (L + 1 + 1, o2), (L + 1 + 1 + 1, o3), (L + 1 + 1 + 1 + 1, o4), (L + 1 + 1 + 1 + 1 + 1, o5)]
theorem cell_apart {h₀ h : Heap} {L c : Addr} {oc : Obj} {v : Option Value} {all : List (Addr × Obj)} (N : News h₀ L h all) (hc : h.get? c = some oc) (hd : oc.data = .cell v) {p : Addr × Obj} (hp : p ∈ all) {xs : Array Value} {k : Nat} (hpd : p.2.data = .seq xs k) : p.1 ≠ c := fun e => by
  have h1 := (N p hp).1
  rw [e, hc] at h1
  have := Option.some.inj h1
  rw [this, hpd] at hd
  cases hd
set_option pp.deepTerms.threshold 8
/-- one turn of the choices' loop -/
theorem mostTurn {w : World} {p : Program} {loose : List PySem.Str} {mean : ExcName → Option Value} {mg mb : PySem.Str → Option Value} {dp un : Nat} {gd : Option (List Code)} {A₀ : Around} {base : Heap} {env : Env} {outer : List Env} {s : Shared} {Q : Flow → Shared → Prop} {h₀ : Heap} {L : Addr} {m : PySem.Str → Option Value}
  {aW aSh aC : Addr} {vW : List Value} {nC : Nat} {xs : List Nat} {ws : List Int} {rows : List Lad} {chs : List Ch} {o1 o2 o3 o4 o5 : Obj} {v4 : Option Value} {all : List (Addr × Obj)} {i : Nat} {tk0 : Tok} (B : Below A₀ base (env :: outer) h₀) (X : (Head.hc.heap_39 w.params).In h₀) (T : Top p loose mean mg mb h₀) (hd1 : dp + 9 < recursionLimit) (hu : un + 72 < cLine)
  (hW : h₀.IsList aW vW.toArray) (hWi : IntsAre vW ws) (hw5 : ws.length = 5) (h5 : xs.length = 5) (hi5 : i < 5) (hRA : RowsAre xs rows xs)
  (hd2 : o2.data = .cell (some (.ref aW))) (hd3 : o3.data = .cell (some (.ref aSh))) (hd4 : o4.data = .cell (some (.ref aC))) (hd5 : o5.data = .cell (some (.int (i : Int) tk0)))
  (hmSh : (aSh, lstO (rows.map ladRef)) ∈ all) (hrows : ∀ d ∈ rows, ladObj d ∈ all) (hmC : (aC, listOf (chs.map Ch.ref).toArray nC) ∈ all) (hchs : ∀ c ∈ chs, c.tup ∈ all ∧ c.lst ∈ all) (hCA : ChsAre chs (choice (wOf ws) (sOf xs) i)) (hcl : chs.length ≤ 64)
  (hoff4 : ∀ p ∈ all, p.1 ≠ L + 1 + 1 + 1 + 1)
  (F : Fr h₀ L s.heap m) (N : News h₀ L s.heap (cells5 L o1 o2 o3 o4 o5 ++ all))
  (hcont : ∀ h' tk' o4' aC' nC' chs' new, Fr h₀ L h' m → News h₀ L h' (cells5 L o1 o2 o3 o4' o5 ++ (new ++ all)) → o4'.data = .cell (some (.ref aC')) → (∀ p ∈ new, ∀ q ∈ cells5 L o1 o2 o3 o4 o5 ++ all, p.1 ≠ q.1) →
    (aC', listOf (chs'.map Ch.ref).toArray nC') ∈ new → (∀ c ∈ chs', c.tup ∈ new ++ all ∧ c.lst ∈ new ++ all) → ChsAre chs' (choice (wOf ws) (sOf xs) (i + 1)) → Q .next { s with heap := h', toks := tk' }) :
  wpAny (model PrgW w) (({ handled := none, depth := dp, frames := some (env :: outer), guards := gd, units := un } : Around).deeper (mostEnv L)) (execs mostBody (mostEnv L)) Q (fun _ _ => False) s := by
  have hql : (choice (wOf ws) (sOf xs) i).length ≤ 64 := by rw [← hCA.length]; exact hcl
  have hcv := choice_val (wOf ws) (sOf xs) i
  dsimp only [mostBody, mostEnv, mostDef, preLast, lawDefOf, PySem.Challenge.pw_zo0024_01]
  simp only [List.take_succ_cons, List.take_zero, List.drop_succ_cons, List.drop_zero]
  refine wpAny_execs_cons (wpAny_Assign_Name (wpAny_BinOp ?_))
  refine name_cell N (by rfl) (by simp) hd4 ?_
  refine kc_list (h₀ := h₀) (L := L) (mf := m) (by rfl) rfl (by decide) ?_
  refine name_cell N (by rfl) (by simp) hd4 ?_
  have hit : ∀ (j : Nat) (v : Value), (chs.map Ch.ref)[j]? = some v → ∃ c, chs[j]? = some c ∧ v = c.ref := fun j v hv => by
    rw [List.getElem?_map] at hv
    obtain ⟨c, e, rfl⟩ := Option.map_eq_some_iff.mp hv
    exact ⟨c, e, rfl⟩
  refine ⟨aC, chs.map Ch.ref, _, rfl, rfl, F, N, .inr ⟨_, List.mem_append_right _ hmC, rfl, _, rfl⟩, by rw [sizeLine_eq, List.length_map]; omega,
    (fun j ys news => ∃ cs : List Ch, ys = cs.map Ch.ref ∧ (∀ c ∈ cs, c.tup ∈ news ∧ c.lst ∈ news) ∧ ChsAre cs (((choice (wOf ws) (sOf xs) i).take j).map (extQ ws xs i)) ∧ (∀ c ∈ cs, ∀ q ∈ cells5 L o1 o2 o3 o4 o5 ++ all, c.t ≠ q.1 ∧ c.l ≠ q.1)), _,
    ⟨[], rfl, fun c hc => (nomatch hc), .nil, fun c hc => (nomatch hc)⟩, ?lgo,
    asg_pair rfl rfl (by rfl) (by rfl) (by decide) (fun j v hv => by obtain ⟨c, hc, rfl⟩ := hit j v hv; exact ⟨_, _, _, _, rfl, List.mem_append_right _ (hchs c (List.mem_of_getElem? hc)).1⟩), ?turn, ?fin⟩
  case lgo =>
    intro v j k I h tk Q' hv hI hq
    obtain ⟨c, hc, rfl⟩ := hit j v hv
    exact wpAny_letOwnedTupleGo_listiter hI hq
  case turn =>
    intro j v ys news own I C D oI oC h tk hjn hv hinv hbs haf hown F1 N1 hoff
    obtain ⟨cs, rfl, hcs, hCs, hnw⟩ := hinv
    obtain ⟨t, x, y, nt, m₂, rfl, hmt, hn, hx, hy⟩ := haf
    obtain rfl := own_nil hown rfl
    obtain ⟨c, hc, hvc⟩ := hit j _ hv
    obtain rfl : t = c.t := by injection hvc
    have hcm := List.mem_of_getElem? hc
    obtain ⟨rfl, rfl⟩ : x = .ref c.l ∧ y = .int c.val c.tok := by
      have g1 := (N1 _ (List.mem_append_right _ (hbs _ hmt))).1
      have g2 := (N1 c.tup (List.mem_append_right _ (hbs _ (List.mem_append_right _ (hchs c hcm).1)))).1
      rw [g1] at g2
      injection g2 with g2
      injection g2 with _ _ g2 _
      injection g2 with g2 _
      simp at g2
      exact g2
    obtain ⟨q, hqe, hq1, hq2⟩ := hCA.get j c hc
    have hqv := hcv q (List.mem_of_getElem? hqe)
    have hC := nsObj_of hn (N1 (C, oC) (by simp)).1
    have hq5 : ∀ z ∈ q.1, z < 5 := fun z hz => Nat.lt_trans (hqv.2.2 z hz) hi5
    have hq5l : q.1.length ≤ 5 := by
      have := choice_len (wOf ws) (sOf xs) i q (List.mem_of_getElem? hqe)
      omega
    have htk : ((choice (wOf ws) (sOf xs) i).take (j + 1)).map (extQ ws xs i) = ((choice (wOf ws) (sOf xs) i).take j).map (extQ ws xs i) ++ [extQ ws xs i q] := by rw [List.take_add_one, hqe]; simp
    refine wpAny_tests_nil ?_
    rw [if_pos rfl]
    have inall : ∀ p ∈ cells5 L o1 o2 o3 o4 o5 ++ all, p ∈ ((I, oI) :: (C, oC) :: (D, lstO (cs.map Ch.ref)) :: []) ++ news := fun p hp => List.mem_append_right _ (hbs p hp)
    refine mostElt (all := ((I, oI) :: (C, oC) :: (D, lstO (cs.map Ch.ref)) :: []) ++ news) (c := c) (q := q) (rows := rows) B X T hd1 hu hW hWi hw5 h5 hi5 hRA hq5 hq5l hq1 hq2 hd2 hd3 hd5 hC hx hy F1 (fun p hp => ?_) (fun d hd => inall _ (List.mem_append_right _ (hrows d hd))) ?_
    · rcases List.mem_cons.mp hp with rfl | hp
      · exact N1 _ (by simp)
      rcases List.mem_cons.mp hp with rfl | hp
      · exact N1 _ (inall _ (by simp))
      rcases List.mem_cons.mp hp with rfl | hp
      · exact N1 _ (inall _ (by simp))
      rcases List.mem_cons.mp hp with rfl | hp
      · exact N1 _ (inall _ (by simp))
      rcases List.mem_cons.mp hp with rfl | hp
      · exact N1 _ (inall _ (List.mem_append_right _ (hchs c hcm).2))
      rcases List.mem_cons.mp hp with rfl | hp
      · exact N1 _ (inall _ (List.mem_append_right _ hmSh))
      · exact N1 p hp
    · intro h' tk' c' all' F2 N2 hin hne hv1 hv2
      have big : ∀ p ∈ ((I, oI) :: (C, oC) :: (D, lstO (cs.map Ch.ref)) :: []) ++ news, p ∈ all' ∧ p.1 ≠ c'.t ∧ p.1 ≠ c'.l := fun p hp => hin p (.tail _ (.tail _ (.tail _ (.tail _ (.tail _ (.tail _ hp))))))
      refine kcTo F2 N2 (c'.tup :: c'.lst :: news) (fun p hp => .tail _ (.tail _ (big p (List.mem_append_left _ hp)).1)) (fun p hp => .tail _ (.tail _ (hbs p hp))) (fun p hp => ?_) (fun p hp r hr => ?_) ?_
      · rcases List.mem_cons.mp hp with rfl | hp
        · exact .head _
        rcases List.mem_cons.mp hp with rfl | hp
        · exact .tail _ (.head _)
        · exact .tail _ (.tail _ (big p (List.mem_append_right _ hp)).1)
      · rcases List.mem_cons.mp hp with rfl | hp
        · exact Ne.symm (big r (List.mem_append_left _ hr)).2.1
        rcases List.mem_cons.mp hp with rfl | hp
        · exact Ne.symm (big r (List.mem_append_left _ hr)).2.2
        · exact hoff p hp r hr
      · refine ⟨cs ++ [c'], by simp, fun d hd => ?_, ?_, fun p hp => ?_⟩
        · rcases List.mem_append.mp hd with hd | hd
          · exact ⟨.tail _ (.tail _ (hcs d hd).1), .tail _ (.tail _ (hcs d hd).2)⟩
          · rw [List.mem_singleton.mp hd]; exact ⟨.head _, .tail _ (.head _)⟩
        · rw [htk]; exact hCs.snoc hv1 hv2
        · rcases List.mem_append.mp hp with hp | hp
          · exact hnw p hp
          · rw [List.mem_singleton.mp hp]
            exact fun r hr => ⟨Ne.symm (big r (List.mem_append_right _ (hbs r hr))).2.1, Ne.symm (big r (List.mem_append_right _ (hbs r hr))).2.2⟩
  case fin =>
    intro D h' tk' ys news hinv hbs F1 N1 hoff
    obtain ⟨cs, rfl, hcs, hCs, hnw⟩ := hinv
    rw [List.take_of_length_le (by rw [List.length_map, hCA.length]; exact Nat.le_refl _)] at hCs
    have hcsl : cs.length ≤ 64 := by rw [hCs.length, List.length_map]; exact hql
    refine add_lists F1 N1 (News.isList N1 (.tail _ (hbs _ (List.mem_append_right _ hmC)))) (News.isList N1 (.head _)) (fun h2 F2 N2 => ?_) (by rw [sizeLine_eq, List.length_map, List.length_map]; omega)
    have hfresh : ∀ p ∈ cells5 L o1 o2 o3 o4 o5 ++ all, h'.objs.size ≠ p.1 := fun p hp => Ne.symm (Nat.ne_of_lt (Heap.lt_size (N1 p (.tail _ (hbs p hp))).1))
    have n4 := N2 (L + 1 + 1 + 1 + 1, o4) (.tail _ (.tail _ (hbs _ (by simp))))
    refine wpAny_storeName_cell rfl rfl (by rfl) ⟨o4, n4.1, hd4⟩ fun h3 hv hs => ?_
    obtain ⟨o4', e4', d4'⟩ := hv
    refine wpAny_execs_nil ?_
    have nb : ∀ p : Addr × Obj, p ∈ (h'.objs.size, ({ cls := .type "list", data := .seq (chs.map Ch.ref ++ cs.map Ch.ref).toArray } : Obj)) :: (D, lstO (cs.map Ch.ref)) :: news → p.1 ≠ L + 1 + 1 + 1 + 1 → h3.get? p.1 = some p.2 ∧ p.1 ≠ L ∧ h₀.get? p.1 = none := fun p hp hne => ⟨(hs.2 _ hne).trans (N2 p hp).1, (N2 p hp).2⟩
    have bb : ∀ p ∈ cells5 L o1 o2 o3 o4 o5 ++ all, p ∈ (h'.objs.size, ({ cls := .type "list", data := .seq (chs.map Ch.ref ++ cs.map Ch.ref).toArray } : Obj)) :: (D, lstO (cs.map Ch.ref)) :: news := fun p hp => .tail _ (.tail _ (hbs p hp))
    have hL4 : (L + 1 + 1 + 1 + 1, o4) ∈ cells5 L o1 o2 o3 o4 o5 ++ all := by simp
    have newoff : ∀ p ∈ (h'.objs.size, listOf (chs.map Ch.ref ++ cs.map Ch.ref).toArray 0) :: cs.flatMap (fun c => [c.tup, c.lst]), ∀ q ∈ cells5 L o1 o2 o3 o4 o5 ++ all, p.1 ≠ q.1 := fun p hp q hq => by
      rcases List.mem_cons.mp hp with rfl | hp
      · exact hfresh q hq
      · obtain ⟨c, hc, hp⟩ := List.mem_flatMap.mp hp
        rcases List.mem_cons.mp hp with rfl | hp
        · exact (hnw c hc q hq).1
        · rw [List.mem_singleton.mp hp]; exact (hnw c hc q hq).2
    have newin : ∀ p ∈ (h'.objs.size, listOf (chs.map Ch.ref ++ cs.map Ch.ref).toArray 0) :: cs.flatMap (fun c => [c.tup, c.lst]), p ∈ (h'.objs.size, ({ cls := .type "list", data := .seq (chs.map Ch.ref ++ cs.map Ch.ref).toArray } : Obj)) :: (D, lstO (cs.map Ch.ref)) :: news := fun p hp => by
      rcases List.mem_cons.mp hp with rfl | hp
      · exact .head _
      · obtain ⟨c, hc, hp⟩ := List.mem_flatMap.mp hp
        rcases List.mem_cons.mp hp with rfl | hp
        · exact .tail _ (.tail _ (hcs c hc).1)
        · rw [List.mem_singleton.mp hp]; exact .tail _ (.tail _ (hcs c hc).2)
    refine hcont h3 _ o4' h'.objs.size 0 (chs ++ cs) ((h'.objs.size, listOf (chs.map Ch.ref ++ cs.map Ch.ref).toArray 0) :: cs.flatMap (fun c => [c.tup, c.lst])) (Fr.put F2 n4.2.1 n4.2.2 (fun c hc => hs.2 c hc)) ?_ d4' newoff ?_ ?_ ?_
    · intro p hp
      rcases List.mem_append.mp hp with hp | hp
      · simp only [List.mem_cons, List.not_mem_nil, or_false] at hp
        rcases hp with rfl | rfl | rfl | rfl | rfl
        · exact nb _ (bb _ (by simp)) (by (refine neN ?_; (try dsimp only); omega))
        · exact nb _ (bb _ (by simp)) (by (refine neN ?_; (try dsimp only); omega))
        · exact nb _ (bb _ (by simp)) (by (refine neN ?_; (try dsimp only); omega))
        · exact ⟨e4', n4.2⟩
        · exact nb _ (bb _ (by simp)) (by (refine neN ?_; (try dsimp only); omega))
      rcases List.mem_append.mp hp with hp | hp
      · exact nb p (newin p hp) (newoff p hp _ hL4)
      · exact nb p (bb p (List.mem_append_right _ hp)) (hoff4 p hp)
    · rw [List.map_append]; exact .head _
    · intro c hc
      rcases List.mem_append.mp hc with hc | hc
      · exact ⟨List.mem_append_right _ (hchs c hc).1, List.mem_append_right _ (hchs c hc).2⟩
      · exact ⟨List.mem_append_left _ (.tail _ (List.mem_flatMap.mpr ⟨c, hc, .head _⟩)), List.mem_append_left _ (.tail _ (List.mem_flatMap.mpr ⟨c, hc, .tail _ (.head _)⟩))⟩
    · rw [choice_succ]; exact hCA.append hCs
end Mine
end
section
open PySem PySem.W PyProof.Rows PySem.Calls PySem.Spec
set_option Elab.async false
set_option maxRecDepth 100000
set_option maxHeartbeats 8000000
set_option linter.unusedVariables false
namespace Mine
theorem fillOI_ (w : World) (h : Heap) : (Head.hc.heap_39 w.params).In h → PySem.Challenge.rw_zo0024_01.row.prog = PySem.Challenge.rw_zo0024_01.row.prog := by k_fill; intro _; w_top off; rfl
theorem choice_count (w : Nat → Int) (s : Nat → Nat → Int) : ∀ n, (choice w s n).length = 2 ^ n
  | 0 => rfl
  | n + 1 => by
    show (choice w s n ++ (choice w s n).map _).length = _
    rw [List.length_append, List.length_map, choice_count w s n, Nat.pow_succ]
    omega
theorem choice_small (w : Nat → Int) (s : Nat → Nat → Int) {n : Nat} (h : n < 5) : (choice w s n).length ≤ 64 := by
  rw [choice_count]
  exact Nat.le_trans (Nat.pow_le_pow_right (by decide) (Nat.le_of_lt h)) (by decide)
/-- the loop's state -/
def LpInv (L : Addr) (aSh : Addr) (rows : List Lad) (xs : List Nat) (ws : List Int) (o1 o2 o3 : Obj) (i : Nat) (news : List (Addr × Obj)) : Prop :=
  ∃ (o4 o5 : Obj) (v5 : Option Value) (aC : Addr) (nC : Nat) (chs : List Ch) (rest : List (Addr × Obj)), news = cells5 L o1 o2 o3 o4 o5 ++ rest ∧ o4.data = .cell (some (.ref aC)) ∧ o5.data = .cell v5 ∧ (aSh, lstO (rows.map ladRef)) ∈ rest ∧ (∀ d ∈ rows, ladObj d ∈ rest) ∧
    (aC, listOf (chs.map Ch.ref).toArray nC) ∈ rest ∧ (∀ c ∈ chs, c.tup ∈ rest ∧ c.lst ∈ rest) ∧ ChsAre chs (choice (wOf ws) (sOf xs) i) ∧ (∀ p ∈ rest, p.1 ≠ L + 1 + 1 + 1 + 1 ∧ p.1 ≠ L + 1 + 1 + 1 + 1 + 1)
theorem cellsPut4 {h₀ h h' : Heap} {L : Addr} {o1 o2 o3 o4 o4' o5 : Obj} {rest : List (Addr × Obj)} (N : News h₀ L h (cells5 L o1 o2 o3 o4 o5 ++ rest)) (e : h'.get? (L + 1 + 1 + 1 + 1) = some o4') (hs : Heap.SameBut (L + 1 + 1 + 1 + 1) h h') (hoff : ∀ p ∈ rest, p.1 ≠ L + 1 + 1 + 1 + 1) : News h₀ L h' (cells5 L o1 o2 o3 o4' o5 ++ rest) := by
  have nb : ∀ p ∈ cells5 L o1 o2 o3 o4 o5 ++ rest, p.1 ≠ L + 1 + 1 + 1 + 1 → h'.get? p.1 = some p.2 ∧ p.1 ≠ L ∧ h₀.get? p.1 = none := fun p hp hne => ⟨(hs.2 _ hne).trans (N p hp).1, (N p hp).2⟩
  have n4 := N (L + 1 + 1 + 1 + 1, o4) (by simp)
  intro p hp
  rcases List.mem_append.mp hp with hp | hp
  · simp only [List.mem_cons, List.not_mem_nil, or_false] at hp
    rcases hp with rfl | rfl | rfl | rfl | rfl
    · exact nb _ (by simp) (by (refine neN ?_; (try dsimp only); omega))
    · exact nb _ (by simp) (by (refine neN ?_; (try dsimp only); omega))
    · exact nb _ (by simp) (by (refine neN ?_; (try dsimp only); omega))
    · exact ⟨e, n4.2⟩
    · exact nb _ (by simp) (by (refine neN ?_; (try dsimp only); omega))
  · exact nb p (List.mem_append_right _ hp) (hoff p hp)
theorem cellsPut5 {h₀ h h' : Heap} {L : Addr} {o1 o2 o3 o4 o5 o5' : Obj} {rest : List (Addr × Obj)} (N : News h₀ L h (cells5 L o1 o2 o3 o4 o5 ++ rest)) (e : h'.get? (L + 1 + 1 + 1 + 1 + 1) = some o5') (hs : Heap.SameBut (L + 1 + 1 + 1 + 1 + 1) h h') (hoff : ∀ p ∈ rest, p.1 ≠ L + 1 + 1 + 1 + 1 + 1) : News h₀ L h' (cells5 L o1 o2 o3 o4 o5' ++ rest) := by
  have nb : ∀ p ∈ cells5 L o1 o2 o3 o4 o5 ++ rest, p.1 ≠ L + 1 + 1 + 1 + 1 + 1 → h'.get? p.1 = some p.2 ∧ p.1 ≠ L ∧ h₀.get? p.1 = none := fun p hp hne => ⟨(hs.2 _ hne).trans (N p hp).1, (N p hp).2⟩
  have n5 := N (L + 1 + 1 + 1 + 1 + 1, o5) (by simp)
  intro p hp
  rcases List.mem_append.mp hp with hp | hp
  · simp only [List.mem_cons, List.not_mem_nil, or_false] at hp
    rcases hp with rfl | rfl | rfl | rfl | rfl
    · exact nb _ (by simp) (by (refine neN ?_; (try dsimp only); omega))
    · exact nb _ (by simp) (by (refine neN ?_; (try dsimp only); omega))
    · exact nb _ (by simp) (by (refine neN ?_; (try dsimp only); omega))
    · exact nb _ (by simp) (by (refine neN ?_; (try dsimp only); omega))
    · exact ⟨e, n5.2⟩
  · exact nb p (List.mem_append_right _ hp) (hoff p hp)
set_option pp.deepTerms.threshold 8
theorem mostLoop {w : World} {p : Program} {loose : List PySem.Str} {mean : ExcName → Option Value} {mg mb : PySem.Str → Option Value} {dp un : Nat} {gd : Option (List Code)} {A₀ : Around} {base : Heap} {env : Env} {outer : List Env} {s : Shared} {Q : Flow → Shared → Prop} {h₀ : Heap} {L : Addr} {m : PySem.Str → Option Value}
  {aW aSh : Addr} {vW : List Value} {xs : List Nat} {ws : List Int} {rows : List Lad} {o1 o2 o3 o4 o5 : Obj} {v4 v5 : Option Value} {led : List (Addr × Obj)} (B : Below A₀ base (env :: outer) h₀) (X : (Head.hc.heap_39 w.params).In h₀) (T : Top p loose mean mg mb h₀) (hd1 : dp + 9 < recursionLimit) (hu : un + 72 < cLine)
  (hW : h₀.IsList aW vW.toArray) (hWi : IntsAre vW ws) (hw5 : ws.length = 5) (h5 : xs.length = 5) (hRA : RowsAre xs rows xs)
  (hd2 : o2.data = .cell (some (.ref aW))) (hd3 : o3.data = .cell (some (.ref aSh))) (hd4 : o4.data = .cell v4) (hd5 : o5.data = .cell v5)
  (hmSh : (aSh, lstO (rows.map ladRef)) ∈ led) (hrows : ∀ d ∈ rows, ladObj d ∈ led) (hoff : ∀ p ∈ led, p.1 ≠ L + 1 + 1 + 1 + 1 ∧ p.1 ≠ L + 1 + 1 + 1 + 1 + 1)
  (F : Fr h₀ L s.heap m) (N : News h₀ L s.heap (cells5 L o1 o2 o3 o4 o5 ++ led))
  (hcont : ∀ h' tk' o4' o5' aC nC chs rest, Fr h₀ L h' m → News h₀ L h' (cells5 L o1 o2 o3 o4' o5' ++ rest) → o4'.data = .cell (some (.ref aC)) → (aC, listOf (chs.map Ch.ref).toArray nC) ∈ rest → (∀ c ∈ chs, c.tup ∈ rest ∧ c.lst ∈ rest) → ChsAre chs (choice (wOf ws) (sOf xs) 5) → Q .next { s with heap := h', toks := tk' }) :
  wpAny (model PrgW w) (({ handled := none, depth := dp, frames := some (env :: outer), guards := gd, units := un } : Around).deeper (mostEnv L)) (execs ((mostDef.1.drop 1).take 2) (mostEnv L)) Q (fun _ _ => False) s := by
  replace hcont := Hold.mk hcont
  dsimp only [mostEnv, mostDef, preLast, lawDefOf, PySem.Challenge.pw_zo0024_01]
  simp only [List.take_succ_cons, List.take_zero, List.drop_succ_cons, List.drop_zero]
  k_steps
  rename_i lE hE lE1 D hD lD1 l hL F1 N1 l1
  have n4 := N1 (L + 1 + 1 + 1 + 1, o4) (by simp)
  refine wpAny_storeName_cell rfl rfl (by rfl) ⟨o4, n4.1, hd4⟩ fun h3 hv hs => ?_
  obtain ⟨o4', e4', d4'⟩ := hv
  have hc4 : ∀ p ∈ (l, listOf #[Value.ref D] 0) :: (D, ({ cls := .type "tuple", data := .seq #[Value.ref lE, .int 0 s.toks] 0 } : Obj)) :: (lE, listOf #[] 0) :: led, p.1 ≠ L + 1 + 1 + 1 + 1 ∧ p.1 ≠ L + 1 + 1 + 1 + 1 + 1 := fun p hp => by
    have b4 : L + 1 + 1 + 1 + 1 < lE := lE1 (L + 1 + 1 + 1 + 1, o4) (by simp)
    have b5 : L + 1 + 1 + 1 + 1 + 1 < lE := lE1 (L + 1 + 1 + 1 + 1 + 1, o5) (by simp)
    have d1 : lE < D := lD1.1
    have d2 : lE < l := l1.2.1
    rcases List.mem_cons.mp hp with rfl | hp
    · exact ⟨Nat.ne_of_gt (Nat.lt_trans b4 d2), Nat.ne_of_gt (Nat.lt_trans b5 d2)⟩
    rcases List.mem_cons.mp hp with rfl | hp
    · exact ⟨Nat.ne_of_gt (Nat.lt_trans b4 d1), Nat.ne_of_gt (Nat.lt_trans b5 d1)⟩
    rcases List.mem_cons.mp hp with rfl | hp
    · exact ⟨Nat.ne_of_gt b4, Nat.ne_of_gt b5⟩
    · exact hoff p hp
  have N2 : News h₀ L hL (cells5 L o1 o2 o3 o4 o5 ++ ((l, listOf #[Value.ref D] 0) :: (D, ({ cls := .type "tuple", data := .seq #[Value.ref lE, .int 0 s.toks] 0 } : Obj)) :: (lE, listOf #[] 0) :: led)) := fun p hp => by
    rcases List.mem_append.mp hp with hp | hp
    · exact N1 p (.tail _ (.tail _ (.tail _ (List.mem_append_left _ hp))))
    rcases List.mem_cons.mp hp with rfl | hp
    · exact N1 _ (.head _)
    rcases List.mem_cons.mp hp with rfl | hp
    · exact N1 _ (.tail _ (.head _))
    rcases List.mem_cons.mp hp with rfl | hp
    · exact N1 _ (.tail _ (.tail _ (.head _)))
    · exact N1 p (.tail _ (.tail _ (.tail _ (List.mem_append_right _ hp))))
  have N3 := cellsPut4 N2 e4' hs fun p hp => (hc4 p hp).1
  have F3 : Fr h₀ L h3 m := Fr.put F1 n4.2.1 n4.2.2 (fun c hc => hs.2 c hc)
  have hI0 : LpInv L aSh rows xs ws o1 o2 o3 0 (cells5 L o1 o2 o3 o4' o5 ++ ((l, listOf #[Value.ref D] 0) :: (D, ({ cls := .type "tuple", data := .seq #[Value.ref lE, .int 0 s.toks] 0 } : Obj)) :: (lE, listOf #[] 0) :: led)) :=
    ⟨o4', o5, v5, l, 0, [⟨D, lE, [], 0, 0, s.toks, 0⟩], _, rfl, d4', hd5, .tail _ (.tail _ (.tail _ hmSh)), fun d hd => .tail _ (.tail _ (.tail _ (hrows d hd))), .head _, fun c hc => by rw [List.mem_singleton.mp hc]; exact ⟨.tail _ (.head _), .tail _ (.tail _ (.head _))⟩, ChsAre.snoc .nil .nil rfl, hc4⟩
  clear N1 N2 F1 n4 hs e4' lE1 lD1 l1 hc4
  refine wpAny_execs_cons (for_range (h₀ := h₀) (L := L) (mf := m) ?_)
  replace hI0 := Hold.mk hI0
  k_steps
  rename_i h4 tk4 t4 u4 v4' hr4 F4 N4 k4
  unfold Hold at hI0 hcont
  refine Hold.mk ⟨_, 5, t4, u4, v4', _, rfl, rfl, F4, N4, hr4, by rfl, by rfl, LpInv L aSh rows xs ws o1 o2 o3, hI0, ?turn, ?fin⟩
  case turn =>
    rintro i t news I oI h tk hi5 ⟨p4, p5, w5, aC, nC, chs, rest, rfl, e4, e5, mSh, mrows, mC, mchs, hCA, hof⟩ F5 N5 hofI hcls
    have n5 := N5 (L + 1 + 1 + 1 + 1 + 1, p5) (by simp)
    have hI4 : I ≠ L + 1 + 1 + 1 + 1 := Ne.symm (hofI (L + 1 + 1 + 1 + 1, p4) (by simp))
    have hI5 : I ≠ L + 1 + 1 + 1 + 1 + 1 := Ne.symm (hofI (L + 1 + 1 + 1 + 1 + 1, p5) (by simp))
    refine wpAny_storeName_cell rfl rfl (by rfl) ⟨p5, n5.1, e5⟩ fun h6 hv hs => ?_
    obtain ⟨p5', e5', d5'⟩ := hv
    have N5' : News h₀ L h (cells5 L o1 o2 o3 p4 p5 ++ ((I, oI) :: rest)) := fun p hp => by
      rcases List.mem_append.mp hp with hp | hp
      · exact N5 p (.tail _ (List.mem_append_left _ hp))
      rcases List.mem_cons.mp hp with rfl | hp
      · exact N5 _ (.head _)
      · exact N5 p (.tail _ (List.mem_append_right _ hp))
    have N6 := cellsPut5 N5' e5' hs fun p hp => by
      rcases List.mem_cons.mp hp with rfl | hp
      · exact hI5
      · exact (hof p hp).2
    have F6 : Fr h₀ L h6 m := Fr.put F5 n5.2.1 n5.2.2 (fun c hc => hs.2 c hc)
    refine mostTurn (v4 := none) (all := (I, oI) :: rest) (rows := rows) (chs := chs) (aC := aC) (aSh := aSh) B X T hd1 hu hW hWi hw5 h5 hi5 hRA hd2 hd3 e4 d5' (.tail _ mSh) (fun d hd => .tail _ (mrows d hd)) (.tail _ mC) (fun c hc => ⟨.tail _ (mchs c hc).1, .tail _ (mchs c hc).2⟩) hCA (by rw [hCA.length]; exact choice_small _ _ hi5) (fun p hp => ?_) F6 N6 ?_
    · rcases List.mem_cons.mp hp with rfl | hp
      · exact hI4
      · exact (hof p hp).1
    · intro h7 tk7 p4' aC' nC' chs' new F7 N7 d4 hnew mC' mchs' hCA'
      refine Hold.mk ⟨rfl, h7, tk7, cells5 L o1 o2 o3 p4' p5' ++ (new ++ rest), rfl, F7, ?_, ?_, p4', p5', _, aC', nC', chs', new ++ rest, rfl, d4, d5', List.mem_append_right _ mSh, fun d hd => List.mem_append_right _ (mrows d hd), List.mem_append_left _ mC', ?_, hCA', ?_⟩
      · intro p hp
        rcases List.mem_cons.mp hp with rfl | hp
        · exact N7 _ (by simp)
        rcases List.mem_append.mp hp with hp | hp
        · exact N7 p (List.mem_append_left _ hp)
        rcases List.mem_append.mp hp with hp | hp
        · exact N7 p (List.mem_append_right _ (List.mem_append_left _ hp))
        · exact N7 p (List.mem_append_right _ (List.mem_append_right _ (.tail _ hp)))
      · intro p hp
        rcases List.mem_append.mp hp with hp | hp
        · simp only [List.mem_cons, List.not_mem_nil, or_false] at hp
          rcases hp with rfl | rfl | rfl | rfl | rfl
          · exact hofI (L + 1, o1) (by simp)
          · exact hofI (L + 1 + 1, o2) (by simp)
          · exact hofI (L + 1 + 1 + 1, o3) (by simp)
          · exact Ne.symm hI4
          · exact Ne.symm hI5
        rcases List.mem_append.mp hp with hp | hp
        · exact hnew p hp (I, oI) (by simp)
        · exact hofI p (List.mem_append_right _ hp)
      · intro c hc
        have big : ∀ {x : Addr × Obj}, x.2.cls ≠ oI.cls → x ∈ new ++ (I, oI) :: rest → x ∈ new ++ rest := fun {x} hne hx => by
          rcases List.mem_append.mp hx with hx | hx
          · exact List.mem_append_left _ hx
          rcases List.mem_cons.mp hx with rfl | hx
          · exact absurd rfl hne
          · exact List.mem_append_right _ hx
        rw [hcls] at big
        exact ⟨big (fun e => by injection e with e; exact absurd e (by decide)) (mchs' c hc).1, big (fun e => by injection e with e; exact absurd e (by decide)) (mchs' c hc).2⟩
      · intro p hp
        rcases List.mem_append.mp hp with hp | hp
        · exact ⟨hnew p hp (L + 1 + 1 + 1 + 1, p4) (by simp), hnew p hp (L + 1 + 1 + 1 + 1 + 1, p5') (by simp)⟩
        · exact hof p hp
  case fin =>
    rintro h' tk' news ⟨p4, p5, w5, aC, nC, chs, rest, rfl, e4, e5, mSh, mrows, mC, mchs, hCA, hof⟩ F5 N5
    refine wpAny_execs_nil ?_
    exact hcont h' tk' p4 p5 aC nC chs rest F5 N5 e4 mC mchs hCA
end Mine
end
section
open PySem PySem.W PyProof.Rows PySem.Calls PySem.Spec
set_option Elab.async false
set_option maxRecDepth 100000
set_option maxHeartbeats 8000000
set_option linter.unusedVariables false
namespace Mine
theorem fillOJ_ (w : World) (h : Heap) : (Head.hc.heap_39 w.params).In h → PySem.Challenge.rw_zo0024_01.row.prog = PySem.Challenge.rw_zo0024_01.row.prog := by k_fill; intro _; w_top off; rfl
local macro_rules | `(tactic| walk_at "eval Name") => `(tactic| ((with_reducible show wpAny _ _ (eval (Expr.Name _ _) (compEnvC _ _ _ _)) _ _ _); (rename News _ _ _ _ => N9); k_dflt (refine kcf_cell N9 (by rfl) (by k_mem) (by assumption) ?_)))
local macro_rules | `(tactic| walk_at "call builtin:len") => `(tactic| ((rename News _ _ _ _ => N9); (refine len_list (News.isList N9 (by exact List.Mem.tail _ (.tail _ (.head _)))) (by simp only [List.size_toArray]; omega) ?_)))
abbrev ofSize (l : List (List Nat × Int)) (c : Nat) : List Int := (l.filter fun p => p.1.length == c).map (·.2)
theorem ofSize_snoc (l : List (List Nat × Int)) (q : List Nat × Int) (c : Nat) : ofSize (l ++ [q]) c = if q.1.length = c then ofSize l c ++ [q.2] else ofSize l c := by
  unfold ofSize
  by_cases h : q.1.length = c
  · rw [if_pos h, List.filter_append]; simp [h]
  · rw [if_neg h, List.filter_append]; simp [h]
theorem ofSize_pos (w : Nat → Int) (s : Nat → Nat → Int) {n c : Nat} (h : c ≤ n) : 0 < (ofSize (choice w s n) c).length := by
  obtain ⟨v, hv⟩ := choice_has w s (fun x => decide (x < c)) n
  have hl : ((List.range n).filter fun x => decide (x < c)).length = c := by
    clear hv v
    induction n generalizing c with
    | zero => simp; omega
    | succ n ih =>
      rw [List.range_succ, List.filter_append, List.length_append]
      by_cases hc : c ≤ n
      · rw [ih hc]; simp; omega
      · obtain rfl : c = n + 1 := by omega
        have e : (List.range n).filter (fun x => decide (x < n + 1)) = List.range n := List.filter_eq_self.mpr fun x hx => by simp; have := List.mem_range.mp hx; omega
        rw [e]; simp
  have hm : v ∈ ofSize (choice w s n) c := List.mem_map.mpr ⟨_, List.mem_filter.mpr ⟨hv, by simp [hl]⟩, rfl⟩
  exact List.length_pos_of_mem hm
set_option pp.deepTerms.threshold 8
theorem mostRet {w : World} {p : Program} {loose : List PySem.Str} {mean : ExcName → Option Value} {mg mb : PySem.Str → Option Value} {dp un : Nat} {gd : Option (List Code)} {A₀ : Around} {base : Heap} {env : Env} {outer : List Env} {s : Shared} {Q : Flow → Shared → Prop} {h₀ : Heap} {L : Addr} {m : PySem.Str → Option Value}
  {aC : Addr} {nC : Nat} {xs : List Nat} {ws : List Int} {chs : List Ch} {o1 o2 o3 o4 o5 : Obj} {led : List (Addr × Obj)} (B : Below A₀ base (env :: outer) h₀) (X : (Head.hc.heap_39 w.params).In h₀) (T : Top p loose mean mg mb h₀) (hd1 : dp + 9 < recursionLimit) (hu : un + 72 < cLine)
  (hd4 : o4.data = .cell (some (.ref aC))) (hmC : (aC, listOf (chs.map Ch.ref).toArray nC) ∈ led) (hchs : ∀ c ∈ chs, c.tup ∈ led ∧ c.lst ∈ led) (hCA : ChsAre chs (choice (wOf ws) (sOf xs) 5))
  (F : Fr h₀ L s.heap m) (N : News h₀ L s.heap (cells5 L o1 o2 o3 o4 o5 ++ led))
  (hcont : ∀ h' tk' D ys ms all, Fr h₀ L h' m → News h₀ L h' ((D, lstO ys) :: all) → IntsAre ys ms → ms.length = 6 → (∀ c M, ms[c]? = some M → IsMax (ofSize (choice (wOf ws) (sOf xs) 5) c) M) → Q (.ret (.ref D)) { s with heap := h', toks := tk' }) :
  wpAny (model PrgW w) (({ handled := none, depth := dp, frames := some (env :: outer), guards := gd, units := un } : Around).deeper (mostEnv L)) (execs (mostDef.1.drop 3) (mostEnv L)) Q (fun _ _ => False) s := by
  have hcl : chs.length = 32 := by rw [hCA.length, choice_count]
  have hcv := choice_val (wOf ws) (sOf xs) 5
  replace hcont := Hold.mk hcont
  dsimp only [mostEnv, mostDef, preLast, lawDefOf, PySem.Challenge.pw_zo0024_01]
  simp only [List.take_succ_cons, List.take_zero, List.drop_succ_cons, List.drop_zero]
  refine wpAny_execs_cons (wpAny_Return_some ?_)
  refine kc_range (h₀ := h₀) (L := L) (mf := m) (by rfl) rfl (by decide) ?_
  k_steps
  rename_i h4 tk4 t4 u4 v4' hr4 F4 N4 k4
  refine Hold.mk ⟨_, 6, t4, u4, v4', _, rfl, rfl, F4, N4, hr4, by rfl, by rfl, by rw [sizeLine_eq]; omega, (fun j ys news => ∃ ms : List Int, IntsAre ys ms ∧ ms.length = j ∧ ∀ c M, ms[c]? = some M → IsMax (ofSize (choice (wOf ws) (sOf xs) 5) c) M), _, ⟨[], .nil, rfl, fun c M e => by simp at e⟩, fun _ _ => rfl, asg_cell rfl (by rfl) (fun C => by rfl) (fun C => by rfl), ?turn, ?fin⟩
  case fin =>
    intro D h' tk' ys news hinv hbs F1 N1 hoff
    obtain ⟨ms, hms, hml, hmx⟩ := hinv
    unfold Hold at hcont
    exact hcont _ _ D ys ms news F1 N1 hms hml hmx
  case turn =>
    intro j v ys news own I C D oI oC h tk hjn hv hinv hbs haf hown F1 N1 hoff
    obtain ⟨ms, hms, hml, hmx⟩ := hinv
    obtain ⟨ox, hox, hxd⟩ := haf
    obtain ⟨ox', rfl⟩ := own_one hown rfl
    have : ox' = ox := by
      have := (N1 (C + 1, ox') (by simp)).1
      rw [hox] at this; exact (Option.some.inj this).symm
    subst this
    obtain ⟨tj, rfl⟩ := hv
    refine wpAny_tests_nil ?_
    rw [if_pos rfl]
    have hN0 : News h₀ L h ((C, oC) :: (C + 1, ox') :: (([(I, oI), (D, lstO ys)] : List (Addr × Obj)) ++ news)) := by
      intro p hp
      rcases List.mem_cons.mp hp with rfl | hp
      · exact N1 _ (by simp)
      rcases List.mem_cons.mp hp with rfl | hp
      · exact N1 _ (by simp)
      rcases List.mem_append.mp hp with hp | hp
      · rcases List.mem_cons.mp hp with rfl | hp
        · exact N1 _ (by simp)
        · rw [List.mem_singleton.mp hp]; exact N1 _ (by simp)
      · exact N1 p (List.mem_append_right _ hp)
    clear N1 N4 F4 k4 hr4
    replace hcont := True.intro
    iterate 14 (first | (with_reducible show wpAny _ _ (eval (Expr.ListComp _ _ _ _) _) _ _ _) | walk1)
    refine kc_list (h₀ := h₀) (L := L) (mf := m) (by rfl) rfl (by decide) ?_
    refine kcf_cell hN0 (by rfl) (List.Mem.tail _ (.tail _ (List.mem_append_right _ (hbs _ (List.mem_append_left _ (.tail _ (.tail _ (.tail _ (.head _)))))))))  hd4 ?_
    have hit : ∀ (j : Nat) (v : Value), (chs.map Ch.ref)[j]? = some v → ∃ c, chs[j]? = some c ∧ v = c.ref := fun j v hv => by
      rw [List.getElem?_map] at hv
      obtain ⟨c, e, rfl⟩ := Option.map_eq_some_iff.mp hv
      exact ⟨c, e, rfl⟩
    have hup : ∀ p ∈ led, p ∈ (C, oC) :: (C + 1, ox') :: (([(I, oI), (D, lstO ys)] : List (Addr × Obj)) ++ news) := fun p hp => .tail _ (.tail _ (List.mem_append_right _ (hbs _ (List.mem_append_right _ hp))))
    refine ⟨aC, chs.map Ch.ref, _, rfl, rfl, F1, hN0, .inr ⟨_, hup _ hmC, rfl, _, rfl⟩, by rw [sizeLine_eq, List.length_map]; omega,
      (fun i zs news2 => IntsAre zs (ofSize ((choice (wOf ws) (sOf xs) 5).take i) j)), _, .nil, ?lgo,
      asg_pair rfl rfl (by rfl) (by rfl) (by decide) (fun i v hv => by obtain ⟨c, hc, rfl⟩ := hit i v hv; exact ⟨_, _, _, _, rfl, hup _ (hchs c (List.mem_of_getElem? hc)).1⟩), ?turn2, ?fin2⟩
    case lgo =>
      intro v i k I h tk Q' hv hI hq
      obtain ⟨c, hc, rfl⟩ := hit i v hv
      exact wpAny_letOwnedTupleGo_listiter hI hq
    case turn2 =>
      intro i v zs news2 own2 I2 C2 D2 oI2 oC2 h2 tk2 hin2 hv2 hinv2 hbs2 haf2 hown2 F2 N2 hoff2
      obtain ⟨t, x, y, nt, m₂, rfl, hmt, hn, hx, hy⟩ := haf2
      obtain rfl := own_nil hown2 rfl
      obtain ⟨c, hc, hvc⟩ := hit i _ hv2
      obtain rfl : t = c.t := by injection hvc
      have hcm := List.mem_of_getElem? hc
      obtain ⟨rfl, rfl⟩ : x = .ref c.l ∧ y = .int c.val c.tok := by
        have g1 := (N2 _ (List.mem_append_right _ (hbs2 _ hmt))).1
        have g2 := (N2 c.tup (List.mem_append_right _ (hbs2 _ (hup _ (hchs c hcm).1)))).1
        rw [g1] at g2
        injection g2 with g2
        injection g2 with _ _ g2 _
        injection g2 with g2 _
        simp at g2
        exact g2
      obtain ⟨q, hqe, hq1, hq2⟩ := hCA.get i c hc
      have hC2 := nsObj_of hn (N2 (C2, oC2) (by simp)).1
      have hq5l : c.vs.length ≤ 5 := by
        have := choice_len (wOf ws) (sOf xs) 5 q (List.mem_of_getElem? hqe)
        rw [hq1.length, List.length_map]
        omega
      have hql : c.vs.length = q.1.length := by rw [hq1.length, List.length_map]
      have htk : ofSize ((choice (wOf ws) (sOf xs) 5).take (i + 1)) j = if q.1.length = j then ofSize ((choice (wOf ws) (sOf xs) 5).take i) j ++ [q.2] else ofSize ((choice (wOf ws) (sOf xs) 5).take i) j := by rw [List.take_add_one, hqe]; exact ofSize_snoc _ _ _
      have N3 : News h₀ L h2 ((C2, oC2) :: (C + 1, ox') :: c.lst :: (([(I2, oI2), (C2, oC2), (D2, lstO zs)] : List (Addr × Obj)) ++ news2)) := by
        intro p hp
        rcases List.mem_cons.mp hp with rfl | hp
        · exact N2 _ (by simp)
        rcases List.mem_cons.mp hp with rfl | hp
        · exact N2 _ (List.mem_append_right _ (hbs2 _ (by simp)))
        rcases List.mem_cons.mp hp with rfl | hp
        · exact N2 _ (List.mem_append_right _ (hbs2 _ (hup _ (hchs c hcm).2)))
        · exact N2 p hp
      have hj2 : Hold (IntsAre zs (ofSize ((choice (wOf ws) (sOf xs) 5).take i) j)) := Hold.mk hinv2
      refine wpAny_tests_one ?_
      clear F1 N2 hinv2 hv2 hN0 hn hox hit hcv hmx hms hbs hoff hup hc hqe hq1 hchs hCA hmC
      k_steps
      · rename News _ _ _ _ => N9
        rename ((_ : Int) = _) => he
        have he' : q.1.length = j := by rw [← hql]; exact Int.ofNat.inj he
        unfold Hold at hj2
        refine kcTo (by assumption) N9 news2 (fun p hp => .tail _ (.tail _ (.tail _ (List.mem_append_left _ hp)))) hbs2 (fun p hp => .tail _ (.tail _ (.tail _ (List.mem_append_right _ hp)))) hoff2 ?_
        rw [htk, if_pos he', ← hq2]
        exact IntsAre.snoc hj2 _ _
      · rename News _ _ _ _ => N9
        rename ((_ : Int) ≠ _) => he
        have he' : ¬ q.1.length = j := fun e => he (by rw [← hql] at e; exact congrArg Int.ofNat e)
        unfold Hold at hj2
        refine kcTo (by assumption) N9 news2 (fun p hp => .tail _ (.tail _ (.tail _ (List.mem_append_left _ hp)))) hbs2 (fun p hp => .tail _ (.tail _ (.tail _ (List.mem_append_right _ hp)))) hoff2 ?_
        rw [htk, if_neg he']
        exact hj2
    case fin2 =>
      intro D2 h2 tk2 zs news2 hinv2 hbs2 F2 N2 hoff2
      rw [List.take_of_length_le (by rw [List.length_map, hCA.length]; exact Nat.le_refl _)] at hinv2
      clear hit F1 hup
      iterate 6 (first | (with_reducible show wpAny _ _ (call _ _) _ _ _) | walk1)
      refine max_list_N rfl F2 N2 (News.isList N2 (.head _)) hinv2 (ofSize_pos _ _ (Nat.lt_succ_iff.mp hjn)) fun h5 M tM tk5 F5 N5 hM hle => ?_
      have inn : ∀ p ∈ (C, oC) :: (C + 1, ox') :: (([(I, oI), (D, lstO ys)] : List (Addr × Obj)) ++ news), p ∈ (D2, lstO zs) :: news2 := fun p hp => .tail _ (hbs2 p hp)
      refine kcTo F5 N5 news (fun p hp => ?_) hbs (fun p hp => inn p (.tail _ (.tail _ (List.mem_append_right _ hp)))) hoff ⟨ms ++ [M], IntsAre.snoc hms _ _, by simp [hml], fun c M' e => ?_⟩
      · simp only [List.mem_cons, List.not_mem_nil, or_false] at hp
        rcases hp with rfl | rfl | rfl | rfl
        · exact inn _ (by simp)
        · exact inn _ (by simp)
        · exact inn _ (by simp)
        · exact inn _ (by simp)
      · by_cases hc : c < ms.length
        · rw [List.getElem?_append_left hc] at e; exact hmx c M' e
        · have hlt := (List.getElem?_eq_some_iff.mp e).1
          rw [List.length_append] at hlt
          simp at hlt
          have hcj : c = j := by omega
          subst hcj
          rw [List.getElem?_append_right (by omega), hml, Nat.sub_self] at e
          obtain rfl : M = M' := by simpa using e
          exact ⟨hM, hle⟩
end Mine
end
section
open PySem PySem.W PyProof.Rows PySem.Calls PySem.Spec
set_option Elab.async false
set_option maxRecDepth 100000
set_option maxHeartbeats 8000000
set_option linter.unusedVariables false
namespace Mine
theorem fillOK_ (w : World) (h : Heap) : (Head.hc.heap_39 w.params).In h → PySem.Challenge.rw_zo0024_01.row.prog = PySem.Challenge.rw_zo0024_01.row.prog := by k_fill; intro _; w_top off; rfl
theorem cells_five {cm : PySem.Str → Option Value} {n1 n2 n3 n4 n5 : PySem.Str} {c1 c2 c3 c4 c5 : Addr} {cells : List (Addr × Obj)} (x : CellsAre cm [(n1, c1), (n2, c2), (n3, c3), (n4, c4), (n5, c5)] cells) : ∃ o1 o2 o3 o4 o5, cells = [(c1, o1), (c2, o2), (c3, o3), (c4, o4), (c5, o5)] ∧ o1.data = .cell (cm n1) ∧ o2.data = .cell (cm n2) ∧ o3.data = .cell (cm n3) ∧ o4.data = .cell (cm n4) ∧ o5.data = .cell (cm n5) := by
  cases x with
  | cons h r =>
    cases r with
    | cons h2 r =>
      cases r with
      | cons h3 r =>
        cases r with
        | cons h4 r =>
          cases r with
          | cons h5 r =>
            cases r
            exact ⟨_, _, _, _, _, rfl, h, h2, h3, h4, h5⟩
set_option pp.deepTerms.threshold 8
theorem lawMost {w : World} {p : Program} {loose : List PySem.Str} {mean : ExcName → Option Value} {mg mb : PySem.Str → Option Value} {dp un : Nat} {gd : Option (List Code)} {base : Heap} {env : Env} {outer : List Env} {s : Shared} {Q E : Value → Shared → Prop}
  {aT aW : Addr} {vT vW : List Value} {xs : List Nat} {ws : List Int}
  (W : At p loose mean mg mb (Head.hc.heap_39 w.params) { handled := none, depth := dp, frames := some (env :: outer), guards := gd, units := un } base env outer s.heap)
  (hd1 : dp + 9 < recursionLimit) (hu : un + 72 < cLine)
  (hl : s.heap.IsList aT vT.toArray) (hi : IntsAre vT (natInts xs)) (h5 : xs.length = 5) (hW : s.heap.IsList aW vW.toArray) (hWi : IntsAre vW ws) (hw5 : ws.length = 5)
  (hret : ∀ h' tk' D ys ms, (∀ b o, s.heap.get? b = some o → h'.get? b = some o) → h'.IsList D ys.toArray → IntsAre ys ms → ms.length = 6 → (∀ c M, ms[c]? = some M → IsMax (ofSize (choice (wOf ws) (sOf xs) 5) c) M) → Q (.ref D) { s with heap := h', toks := tk' }) :
  wpAny (model PrgW w) { handled := none, depth := dp, frames := some (env :: outer), guards := gd, units := un } (call (.ref 119) [.ref aT, .ref aW]) Q E s := by
  k_dflt (refine' Mine.call_TA (A₀ := callerA) (binds := [(PySem.Str.ofString "tails", .ref aT), (PySem.Str.ofString "worth", .ref aW)]) ?W ?k6 ?k7 ?k8 ?k9 ?kB ?nd ?_ ?c3 ?c4 ?c5; (case W => assumption); (case k6 => k_is); (case k7 => k_is); (case k8 => ktr_room); (case k9 => exact BindsTo.of_eq rfl); (case kB => rfl); (case nd => decide +kernel); (case c3 => exact rfl); (case c4 => exact rfl); (case c5 => exact rfl))
  intro L h₁ tk cells F N C B X T hb
  obtain ⟨a5, a4, a3, a2, a1, rfl, d5, d4, d3, d2, d1⟩ := cells_five C
  replace d1 : a1.data = .cell (some (.ref aT)) := d1
  replace d2 : a2.data = .cell (some (.ref aW)) := d2
  have N1 : News s.heap L h₁ [(L + 1, a1), (L + 1 + 1, a2), (L + 1 + 1 + 1, a3), (L + 1 + 1 + 1 + 1, a4), (L + 1 + 1 + 1 + 1 + 1, a5)] := fun p hp => N p (by
    simp only [List.mem_cons, List.not_mem_nil, or_false] at hp ⊢
    rcases hp with rfl | rfl | rfl | rfl | rfl <;> simp)
  clear N C W
  refine splitN (l := mostDef.1) 1 ?_
  refine mostS0 (L := L) (aT := aT) (vT := vT) B X T hd1 hu hl hi h5 d1 d3 F N1 ?_
  intro h2 tk2 o3' aSh rows F2 N2 d3' hRA
  refine splitN (l := mostDef.1.drop 1) 2 ?_
  refine mostLoop (L := L) (aW := aW) (aSh := aSh) (vW := vW) (led := (aSh, lstO (rows.map ladRef)) :: rows.map ladObj) B X T hd1 hu hW hWi hw5 h5 hRA d2 d3' d4 d5 (.head _) (fun d hd => .tail _ (List.mem_map_of_mem hd)) ?_ F2 N2 ?_
  · intro p hp
    have e : ∃ xs k, p.2.data = .seq xs k := by
      rcases List.mem_cons.mp hp with rfl | hp
      · exact ⟨_, _, rfl⟩
      · obtain ⟨d, hd, rfl⟩ := List.mem_map.mp hp
        exact ⟨_, _, rfl⟩
    obtain ⟨vs, k, e⟩ := e
    exact ⟨cell_apart N2 (N2 (L + 1 + 1 + 1 + 1, a4) (by simp)).1 d4 (List.mem_append_right _ hp) e, cell_apart N2 (N2 (L + 1 + 1 + 1 + 1 + 1, a5) (by simp)).1 d5 (List.mem_append_right _ hp) e⟩
  intro h3 tk3 o4' o5' aC nC chs rest F3 N3 d4' mC mchs hCA
  (try dsimp only)
  have e : (mostDef.1.drop 1).drop 2 = mostDef.1.drop 3 := by rw [List.drop_drop]
  rw [e]
  refine mostRet (L := L) (aC := aC) (nC := nC) (chs := chs) B X T hd1 hu d4' mC mchs hCA F3 N3 ?_
  intro h4 tk4 D ys ms all F4 N4 hms hm6 hmx
  exact hret h4 tk4 D ys ms F4.keep (News.isList N4 (.head _)) hms hm6 hmx
end Mine
end
section
open PySem PySem.W PyProof.Rows PySem.Calls PySem.Spec
set_option Elab.async false
set_option maxRecDepth 100000
set_option maxHeartbeats 8000000
set_option linter.unusedVariables false
namespace Mine
theorem fillOL_ (w : World) (h : Heap) : (Head.hc.heap_39 w.params).In h → PySem.Challenge.rw_zo0024_01.row.prog = PySem.Challenge.rw_zo0024_01.row.prog := by k_fill; intro _; w_top off; rfl
section
variable {prog : Program} {w : World} {A : Around} {E : Value → Shared → Prop} {s : Shared}
theorem eq_ints {l b : Addr} {vs ws : List Value} {ns : List Int} {Q : Value → Shared → Prop} (hl : s.heap.IsList l vs.toArray) (hb : s.heap.IsList b ws.toArray) (hu : A.units < cLine)
    (h1 : IntsAre vs ns) (h2 : IntsAre ws ns) (h : Q (.bool true) s) : wpAny (model prog w) A (compareOp .Eq (.ref l) (.ref b)) Q E s := by
  have hall : (List.range vs.toArray.size).all (fun _ => true) = true := by simp
  refine PySem.SeqAt.eq_listAt hl hb (by simp [h1.length, h2.length]) hu (e := fun _ => true) (fun j h3 h4 => ?_) (by rw [hall]; exact h)
  have hj : j < ns.length := by rw [← h1.length]; simpa using h3
  obtain ⟨t, e1⟩ := h1.get j _ (List.getElem?_eq_getElem hj)
  obtain ⟨u, e2⟩ := h2.get j _ (List.getElem?_eq_getElem hj)
  have f1 : vs.toArray[j] = .int ns[j] t := by
    have : vs[j]? = some vs[j] := List.getElem?_eq_getElem (by simpa using h3)
    rw [this] at e1; simpa using Option.some.inj e1
  have f2 : ws.toArray[j] = .int ns[j] u := by
    have : ws[j]? = some ws[j] := List.getElem?_eq_getElem (by simpa using h4)
    rw [this] at e2; simpa using Option.some.inj e2
  rw [f1, f2]
  have := PySem.SeqAt.EqAt.int_int (A := A.in1) (s := s) ns[j] t ns[j] u
  rwa [beq_self_eq_true] at this
end
set_option pp.deepTerms.threshold 8
theorem segRet {w : World} {p : Program} {loose : List PySem.Str} {mean : ExcName → Option Value} {mg mb : PySem.Str → Option Value} {s : Shared} {Q : Flow → Shared → Prop} {E : Value → Shared → Prop} {h₀ : Heap} {L : Addr} {m : PySem.Str → Option Value} {led : List (Addr × Obj)}
  {aS aT aW : Addr} {tv vT vW : List Value} {nt nT nW : Nat} {tot : List Int} {xs : List Nat} {ws : List Int} (B : Below callerA h₀ [] h₀) (X : (Head.hc.heap_39 w.params).In h₀) (T : Top p loose mean mg mb h₀)
  (ht : IntsAre tv tot) (ht6 : tot.length = 6) (hi : IntsAre vT (natInts xs)) (h5 : xs.length = 5) (hWi : IntsAre vW ws) (hw5 : ws.length = 5)
  (hmS : (aS, listOf tv.toArray nt) ∈ led) (hmT : (aT, listOf vT.toArray nT) ∈ led) (hmW : (aW, listOf vW.toArray nW) ∈ led)
  (hsame : ∀ ms : List Int, ms.length = 6 → (∀ c M, ms[c]? = some M → IsMax (ofSize (choice (wOf ws) (sOf xs) 5) c) M) → ms = tot)
  (F : Fr h₀ L s.heap (kstB m [(PySem.Str.ofString "totals", .ref aS), (PySem.Str.ofString "tails", .ref aT), (PySem.Str.ofString "worth", .ref aW)]))
  (N : News h₀ L s.heap led)
  (hcont : ∀ h' tk', (∀ b o, h₀.get? b = some o → h'.get? b = some o) → Q (.ret (.bool true)) { s with heap := h', toks := tk' }) :
  wpAny (model PrgW w) (callerA.deeper (lawEnv L)) (execs (lawDef.1.drop 14) (lawEnv L)) Q E s := by
  replace hcont := Hold.mk hcont
  replace hsame := Hold.mk hsame
  dsimp only [lawEnv, lawDef, lastOf, lawDefOf, PySem.Challenge.pw_zo0024_01]
  simp only [List.take_succ_cons, List.take_zero, List.drop_succ_cons, List.drop_zero]
  iterate 12 (first | (with_reducible show wpAny _ _ (call (Value.ref 119) _) _ _ _) | (k_unfold; (try dsimp only)) | walk1 | (dsimp only; walk1) | (leave1; walk_say "STEP leave1"; (try dsimp only)))
  refine ⟨Frag.In.keeps X F.keep, ?_⟩
  refine' Mine.lawMost ?W ?d ?u (News.isList N hmT) hi h5 (News.isList N hmW) hWi hw5 ?_
  case W => exact At.of (by assumption) (by assumption) (by assumption) (by assumption) rfl rfl rfl
  case d => ktr_room
  case u => ktr_units
  intro h9 tk9 D9 ys9 ms9 k9 l9 i9 e9 x9
  unfold Hold at hsame
  obtain rfl := hsame ms9 e9 x9
  have F9 := Fr.after F k9
  have N9 := newsAfter N k9
  clear k9 F N x9 hsame
  (try dsimp only)
  refine eq_ints (News.isList N9 hmS) l9 (by ktr_units) ht i9 ?_
  unfold Hold at hcont
  exact hcont _ _ F9.keep
end Mine
end
section
open PySem PySem.W PyProof.Rows PySem.Calls PySem.Spec
set_option Elab.async false
set_option maxRecDepth 100000
set_option maxHeartbeats 8000000
set_option linter.unusedVariables false
namespace Mine
theorem fillOB_ (w : World) (h : Heap) : (Head.hc.heap_39 w.params).In h → PySem.Challenge.rw_zo0024_01.row.prog = PySem.Challenge.rw_zo0024_01.row.prog := by k_fill; intro _; w_top off; rfl
section
variable {prog : Program} {w : World} {A : Around} {E : Value → Shared → Prop} {s : Shared} {h₀ : Heap} {L : Addr} {m : PySem.Str → Option Value} {news : List (Addr × Obj)} {l b : Addr} {vs rv : List Value}
theorem sorted_same {hs : List (Array UInt8)} {R : List Nat} {nH : Nat} {Q : Value → Shared → Prop} (F : Fr h₀ L s.heap m) (N : News h₀ L s.heap news) (hm : (l, listOf vs.toArray nH) ∈ news) (hS : BysAre vs hs) (hsm : SameBy R hs) (h64 : vs.length < 64)
    (h : ∀ D h' vs' e, Fr h₀ L h' m → News h₀ L h' ((D, listOf vs'.toArray e) :: news) → BysAre vs' (R.map headS) → Q (.ref D) { s with heap := h' }) : wpAny (model prog w) A (call (.builtin "sorted") [.ref l]) Q E s :=
  sorted_N_by F N (News.isList N hm) hS h64 fun h' vs' ss' e F' N' hB hp hs' => h _ _ _ _ F' N' (by rw [← hsm ss' hp hs']; exact hB)
theorem sorted_sameS {hs : List PySem.Str} {G : List Nat} {nH : Nat} {Q : Value → Shared → Prop} (F : Fr h₀ L s.heap m) (N : News h₀ L s.heap news) (hm : (l, listOf vs.toArray nH) ∈ news) (hS : StrsAre vs hs) (hsm : SameStr G hs) (h64 : vs.length < 64)
    (h : ∀ D h' vs' e, Fr h₀ L h' m → News h₀ L h' ((D, listOf vs'.toArray e) :: news) → StrsAre vs' (G.map gS) → Q (.ref D) { s with heap := h' }) : wpAny (model prog w) A (call (.builtin "sorted") [.ref l]) Q E s :=
  sorted_N_str F N (News.isList N hm) hS h64 fun h' vs' ss' e F' N' hB hp hs' => h _ _ _ _ F' N' (by rw [← hsm ss' hp hs']; exact hB)
end
local macro_rules | `(tactic| walk_at "call builtin:sorted") => `(tactic| ((rename Fr _ _ _ _ => F9); (rename News _ _ _ _ => N9); k_dflt (refine sorted_same F9 N9 (by assumption) (by assumption) (by assumption) (by assumption) ?_); intro D9 h9 v9 e9 F9' N9' B9; clear F9 N9))
local macro_rules | `(tactic| walk_at "call builtin:sorted") => `(tactic| ((rename Fr _ _ _ _ => F9); (rename News _ _ _ _ => N9); k_dflt (refine sorted_sameS F9 N9 (.head _) (by assumption) (by assumption) (by assumption) ?_); intro D9 h9 v9 e9 F9' N9' B9; clear F9 N9))
local macro_rules | `(tactic| walk_at "compareOp NotEq ref ref") => `(tactic| ((rename News _ _ _ _ => N9); (rename BysAre _ _ => S9); k_dflt (refine ne_bys (News.isList N9 (.tail _ (by assumption))) (News.isList N9 (.head _)) (by ktr_units) (by assumption) S9 ?_)))
local macro_rules | `(tactic| walk_at "compareOp NotEq ref ref") => `(tactic| ((rename News _ _ _ _ => N9); (rename StrsAre _ _ => S9); k_dflt (refine ne_strs (News.isList N9 (.tail _ (.tail _ (.tail _ (by assumption))))) (News.isList N9 (.head _)) (by ktr_units) (by assumption) S9 ?_)))
local macro_rules | `(tactic| walk_at "eval Name") => `(tactic| ((with_reducible show wpAny _ _ (eval (Expr.Name (PySem.Str.ofString "rungs") _) _) _ _ _); (rename News _ _ _ _ => N9); k_dflt (refine name_cell N9 (by rfl) (by first | assumption | exact .tail _ (by assumption)) (by assumption) ?_)))
local macro_rules | `(tactic| walk_at "eval ListComp") => `(tactic| (k_dflt (refine flat_comp (by rfl) (by decide) rfl (by decide) rfl rfl (by decide +kernel) (by decide +kernel) ?_)))
set_option pp.deepTerms.threshold 8
theorem segEnd {w : World} {p : Program} {loose : List PySem.Str} {mean : ExcName → Option Value} {mg mb : PySem.Str → Option Value} {s : Shared} {Q : Flow → Shared → Prop} {E : Value → Shared → Prop} {h₀ : Heap} {L : Addr} {m : PySem.Str → Option Value} {led : List (Addr × Obj)}
  {aR aG aH aLd : Addr} {rv gv vH : List Value} {nr ng nH nL : Nat} {R G : List Nat} {lads : List Lad} {hs : List (Array UInt8)} {gs : List PySem.Str} {oc : Obj} (B : Below callerA h₀ [] h₀) (X : (Head.hc.heap_39 w.params).In h₀) (T : Top p loose mean mg mb h₀)
  (hR : BysAre rv (R.map headS)) (hG : StrsAre gv (G.map gS)) (hH : BysAre vH hs) (hHl : vH.length < 64) (hfl : StrsAre ((lads.map fun d => (d.1, d.2.1)).flatMap (·.2)) gs) (hfz : ((lads.map fun d => (d.1, d.2.1)).flatMap (·.2)).length < 64)
  (sR : SameBy R hs) (sG : SameStr G gs)
  (hmR : (aR, listOf rv.toArray nr) ∈ led) (hmG : (aG, listOf gv.toArray ng) ∈ led) (hmH : (aH, listOf vH.toArray nH) ∈ led) (hmL : (aLd, listOf (lads.map ladRef).toArray nL) ∈ led) (hmD : ∀ d ∈ lads, ladObj d ∈ led) (hmC : (L + 1 + 1, oc) ∈ led) (hoc : oc.data = .cell (some (.ref aG)))
  (F : Fr h₀ L s.heap (kstB m [(PySem.Str.ofString "row", .ref aR), (PySem.Str.ofString "heads", .ref aH), (PySem.Str.ofString "ladders", .ref aLd)]))
  (N : News h₀ L s.heap led)
  (hcont : ∀ h' tk', Fr h₀ L h' (kstB m [(PySem.Str.ofString "row", .ref aR), (PySem.Str.ofString "heads", .ref aH), (PySem.Str.ofString "ladders", .ref aLd)]) → News h₀ L h' led → Q .next { s with heap := h', toks := tk' }) :
  wpAny (model PrgW w) (callerA.deeper (lawEnv L)) (execs ((lawDef.1.drop 13).take 1) (lawEnv L)) Q E s := by
  replace hcont := Hold.mk hcont
  dsimp only [lawEnv, lawDef, lastOf, lawDefOf, PySem.Challenge.pw_zo0024_01]
  simp only [List.take_succ_cons, List.take_zero, List.drop_succ_cons, List.drop_zero]
  k_steps
  rename Fr _ _ _ _ => F1
  rename News _ _ _ _ => N1
  refine ⟨aLd, lads.map fun d => (d.1, d.2.1), rfl, rfl, ?i1, ?i2, ?i3, ?i4⟩
  case i1 =>
    have := News.isList N1 (.tail _ hmL)
    have e : (lads.map fun d => (d.1, d.2.1)).map (fun p => Value.ref p.1) = lads.map ladRef := by rw [List.map_map]; rfl
    rw [e]; exact this
  case i2 =>
    intro p hp
    obtain ⟨d, hd, rfl⟩ := List.mem_map.mp hp
    exact News.isList N1 (.tail _ (hmD d hd))
  case i3 => rw [sizeLine_eq]; omega
  case i4 =>
    intro D h' tk' k9 n9 at9
    have N2 := (newsD F1 N1 k9 n9 at9).1
    have F2 := Fr.after F1 k9
    clear F1 N1 k9 n9 at9
    k_steps
    rename Fr _ _ _ _ => F3
    rename News _ _ _ _ => N3
    unfold Hold at hcont
    exact hcont _ _ F3 (fun p hp => N3 p (.tail _ (.tail _ (.tail _ hp))))
end Mine
end
section
open PySem PySem.W PyProof.Rows PySem.Calls PySem.Spec
set_option Elab.async false
set_option maxRecDepth 100000
set_option maxHeartbeats 8000000
set_option linter.unusedVariables false
namespace Mine
theorem tot_same {xs : List Nat} {ws : List Int} {R G ps : List Nat} {tot : List Int} (h : WInv xs ws R G [] ps tot) (ms : List Int) (h6 : ms.length = 6) (hmx : ∀ c M, ms[c]? = some M → IsMax (ofSize (choice (wOf ws) (sOf xs) 5) c) M) : ms = tot := by
  have hl := winv_len h
  have hp : ps.length = 5 := by simpa using hl
  have ht : tot.length = 6 := by rw [h.totals, List.length_map, List.length_range, hp]
  refine List.ext_getElem (by rw [h6, ht]) fun i h1 h2 => ?_
  have a := hmx i ms[i] (List.getElem?_eq_getElem h1)
  have b := greedy_is_most (wOf ws) (sOf xs) (fun a b => sh_symm _ _) (fun a b c => sh_ultra _ _ _) h.greedy (c := i) (by omega)
  have e : tot[i] = FV (wOf ws) (sOf xs) [] (ps.take i) := by
    have : tot[i]? = some (FV (wOf ws) (sOf xs) [] (ps.take i)) := by
      rw [h.totals, List.getElem?_map, List.getElem?_range (by omega)]; rfl
    rw [List.getElem?_eq_getElem h2] at this
    exact Option.some.inj this
  rw [e]
  exact a.unique b
theorem as_nat : ∀ {ts : List Int}, (∀ x ∈ ts, 0 ≤ x ∧ x < 27) → ts = natInts (ts.map Int.toNat) ∧ ∀ x ∈ ts.map Int.toNat, x < 27
  | [], _ => ⟨rfl, fun x hx => nomatch hx⟩
  | t :: ts, h => by
    obtain ⟨h1, h2⟩ := as_nat (ts := ts) fun x hx => h x (.tail _ hx)
    have ht := h t (.head _)
    refine ⟨?_, fun x hx => ?_⟩
    · have e : natInts ((t :: ts).map Int.toNat) = ((t.toNat : Nat) : Int) :: natInts (ts.map Int.toNat) := rfl
      rw [e, ← h1, Int.toNat_of_nonneg ht.1]
    · rcases List.mem_cons.mp hx with rfl | hx
      · omega
      · exact h2 x hx
section
variable {M : Model} {A : Around} {E : Value → Shared → Prop} {s : Shared}
theorem wpC_execs_preC {env : Env} {Q : Flow → Shared → Prop} {rest : List Stmt} (pre : List Stmt)
    (h : wpC M A (execs pre env) (fun f s' => match f with | .next => wpAny M A (execs rest env) Q E s' | f => Q f s') E s) : wpC M A (execs (pre ++ rest) env) Q E s := fun Γ p hΓ hc => by
  refine wp_execs_append pre p s ?_
  refine Sem.wp_mono M Γ _ (fun f p' s' h' => ?_) (fun _ _ _ h' => h') _ _ (h Γ p hΓ hc)
  cases f <;> first | exact h' Γ p' hΓ | exact h'
theorem nextK (l : List Stmt) (n k : Nat) : l.drop n = (l.drop n).take k ++ l.drop (n + k) := by
  rw [← List.drop_drop]; exact (List.take_append_drop k _).symm
theorem splitA {env : Env} {Q : Flow → Shared → Prop} {l : List Stmt} (n k : Nat) (h : wpAny M A (execs ((l.drop n).take k) env) (fun f s' => match f with | .next => wpAny M A (execs (l.drop (n + k)) env) Q E s' | f => Q f s') E s) : wpAny M A (execs (l.drop n) env) Q E s := by
  rw [nextK l n k]; exact wpAny_execs_pre _ h
theorem splitB {env : Env} {Q : Flow → Shared → Prop} {l : List Stmt} (n k : Nat) (h : wpAny M A (execs ((l.drop n).take k) env) (fun f s' => match f with | .next => wpC M A (execs (l.drop (n + k)) env) Q E s' | f => Q f s') E s) : wpC M A (execs (l.drop n) env) Q E s := by
  rw [nextK l n k]; exact wpC_execs_pre _ h
theorem splitC {env : Env} {Q : Flow → Shared → Prop} {l : List Stmt} (n k : Nat) (h : wpC M A (execs ((l.drop n).take k) env) (fun f s' => match f with | .next => wpAny M A (execs (l.drop (n + k)) env) Q E s' | f => Q f s') E s) : wpC M A (execs (l.drop n) env) Q E s := by
  rw [nextK l n k]; exact wpC_execs_preC _ h
end
theorem fillOM_ (w : World) (h : Heap) : (Head.hc.heap_39 w.params).In h → PySem.Challenge.rw_zo0024_01.row.prog = PySem.Challenge.rw_zo0024_01.row.prog := by k_fill; intro _; w_top off; rfl
set_option pp.deepTerms.threshold 8
theorem lawWalk {w : World} {p : Program} {loose : List PySem.Str} {mean : ExcName → Option Value} {mg mb : PySem.Str → Option Value} {s : Shared} {Q E : Value → Shared → Prop} {a : Addr} {vs : List Value} {ns : List Int}
  (B : Below callerA s.heap [] s.heap) (X : (Head.hc.heap_39 w.params).In s.heap) (T : Top p loose mean mg mb s.heap) (hl : s.heap.IsList a vs.toArray) (hi : IntsAre vs ns) (hz : ns.length ≤ 63)
  (hq : ∀ h' tk', (∀ b o, s.heap.get? b = some o → h'.get? b = some o) → Q (.bool true) { s with heap := h', toks := tk' }) : wpC (model PrgW w) callerA (call (.ref 124) [.ref a]) Q E s := by
  k_dflt (refine' Mine.call_T (binds := [(PySem.Str.ofString "script", .ref a)]) B X T ?k6 ?k7 ?k8 ?k9 ?kB ?nd ?_ ?c3 ?c4 ?c5; (case k6 => k_is); (case k7 => k_is); (case k8 => ktr_room); (case k9 => exact BindsTo.of_eq rfl); (case kB => rfl); (case nd => decide +kernel); (case c3 => exact rfl); (case c4 => exact rfl); (case c5 => exact rfl))
  intro L h₁ tk cells F N C B X T hb
  obtain ⟨o1, o2, rfl, d1, d2⟩ := CellsAre.two C
  replace d1 : o1.data = .cell none := d1
  replace d2 : o2.data = .cell none := d2
  have F0 := Fr.named F [(PySem.Str.ofString "script", .ref a)] (List.forall_mem_cons.mpr ⟨by rfl, List.forall_mem_nil _⟩)
  clear C F
  generalize hts0 : (numbersOf ns).map (fun n => n.fmod 27) = ts
  generalize hws0 : (numbersOf ns).map (fun n => (n.fdiv 27).fmod 7) = ws
  have hts : ∀ x ∈ ts, 0 ≤ x ∧ x < 27 := fun x hx => by
    rw [← hts0] at hx
    obtain ⟨n, _, rfl⟩ := List.mem_map.mp hx
    exact ⟨Int.fmod_nonneg_of_pos n (by decide), Int.fmod_lt_of_pos n (by decide)⟩
  have hts5 : ts.length = 5 := by rw [← hts0, List.length_map]; exact numbers_length ns
  have hws5 : ws.length = 5 := by rw [← hws0, List.length_map]; exact numbers_length ns
  obtain ⟨hxs, hx27⟩ := as_nat hts
  generalize hxe : ts.map Int.toNat = xs at hxs hx27
  have hx5 : xs.length = 5 := by rw [← hxe, List.length_map]; exact hts5
  have hwd : ts.map wordOf = xs.map fun (x : Nat) => wordOf (x : Int) := by rw [hxs]; exact List.map_map
  have hhd : (List.range 5).map (fun (k : Nat) => headOf (swp (Builtin.Bytes.joined #[] (ts.map wordOf))) (k : Int)) = (xs.map hk).map headS := by
    rw [heads_eq hts5 hts, ← hxe, List.map_map, List.map_map]; rfl
  show wpC _ _ (execs (lawDef.1.drop 0) (lawEnv L)) _ _ _
  refine splitB 0 3 ?_
  refine segA (L := L) (a := a) B X T hl hi hz F0 N ?_
  intro h1 tk1 m1 aT aW vT vW F1 N1 hT hW
  rw [hts0] at hT
  rw [hws0] at hW
  clear F0 N
  refine splitB 3 1 ?_
  refine segB (L := L) (aT := aT) (aW := aW) B X T hT hts hts5 F1 N1 ?_
  intro h2 tk2 m2 aP vP F2 N2 hP
  clear F1 N1
  refine splitC 4 1 ?_
  refine segL (L := L) (aT := aT) (aW := aW) (aP := aP) B X T hP (by rw [List.length_map]; exact hts5) (joined_size hts5 hts) (words_size hts5 hts) d2 F2 N2 ?_
  intro h3 tk3 m3 o2' t3 F3 N3 d2'
  clear F2 N2
  refine splitA 5 1 ?_
  refine segH (L := L) (aT := aT) (aW := aW) (aP := aP) B X T (by simp [swp]) d2' F3 N3 ?_
  intro h4 tk4 m4 aH vH F4 N4 hH
  rw [hhd] at hH
  rw [hwd] at hP
  clear F3 N3
  refine splitA 6 2 ?_
  refine segLad (L := L) (aT := aT) (aW := aW) (aP := aP) (aH := aH) (xs := xs) B X T hP hx5 hx27 F4 N4 ?_
  intro h5 tk5 m5 aLd lads nL F5 N5 hLA
  clear F4 N4
  have n1 := N5 (L + 1 + 1, o1) (by simp)
  have N5' : News s.heap L h5 ((L + 1 + 1, o1) :: (aLd, listOf (lads.map ladRef).toArray nL) :: (lads.map ladObj ++ [(aH, W.listOf vH.toArray vH.length), (aP, W.listOf vP.toArray vP.length), (aT, W.listOf vT.toArray vT.length), (aW, W.listOf vW.toArray vW.length), (L + 1, o2')])) := fun q hq => by
    rcases List.mem_cons.mp hq with rfl | hq
    · exact n1
    rcases List.mem_cons.mp hq with rfl | hq
    · exact N5 _ (.head _)
    refine N5 q (.tail _ ?_)
    rcases List.mem_append.mp hq with hq | hq
    · exact List.mem_append_left _ hq
    · refine List.mem_append_right _ ?_
      simp only [List.mem_cons, List.not_mem_nil, or_false] at hq ⊢
      rcases hq with h | h | h | h | h <;> simp [h]
  refine splitA 8 4 ?_
  refine segInit (L := L) (aT := aT) (aW := aW) (aH := aH) (aLd := aLd) B X T d1 (fun q hq => ?_) F5 N5' ?_
  · have hc : ∀ {q : Addr × Obj} {zs : Array Value} {k : Nat}, q ∈ (L + 1 + 1, o1) :: (aLd, listOf (lads.map ladRef).toArray nL) :: (lads.map ladObj ++ [(aH, W.listOf vH.toArray vH.length), (aP, W.listOf vP.toArray vP.length), (aT, W.listOf vT.toArray vT.length), (aW, W.listOf vW.toArray vW.length), (L + 1, o2')]) → q.2.data = .seq zs k → q.1 ≠ L + 1 + 1 := fun hq e => cell_apart N5' n1.1 d1 hq e
    have hq' := List.Mem.tail (L + 1 + 1, o1) hq
    rcases List.mem_cons.mp hq with rfl | hq
    · exact hc hq' rfl
    rcases List.mem_append.mp hq with hq | hq
    · obtain ⟨d, hd, rfl⟩ := List.mem_map.mp hq
      exact hc hq' rfl
    · simp only [List.mem_cons, List.not_mem_nil, or_false] at hq
      rcases hq with rfl | rfl | rfl | rfl | rfl
      · exact hc hq' rfl
      · exact hc hq' rfl
      · exact hc hq' rfl
      · exact hc hq' rfl
      · exact Nat.ne_of_lt (Nat.lt_succ_self _)
  intro h6 tk6 m6 aR aG aF aS oc t0 t1 t2 t3 t4 t5 F6 N6 hoc Z
  clear F5 N5 N5' n1
  have up : ∀ q ∈ (aLd, listOf (lads.map ladRef).toArray nL) :: (lads.map ladObj ++ [(aH, W.listOf vH.toArray vH.length), (aP, W.listOf vP.toArray vP.length), (aT, W.listOf vT.toArray vT.length), (aW, W.listOf vW.toArray vW.length), (L + 1, o2')]), q ∈ (L + 1 + 1, oc) :: (aLd, listOf (lads.map ladRef).toArray nL) :: (lads.map ladObj ++ [(aH, W.listOf vH.toArray vH.length), (aP, W.listOf vP.toArray vP.length), (aT, W.listOf vT.toArray vT.length), (aW, W.listOf vW.toArray vW.length), (L + 1, o2')]) := fun q hq => .tail _ hq
  have mL := up (aLd, listOf (lads.map ladRef).toArray nL) (.head _)
  have mH := up (aH, W.listOf vH.toArray vH.length) (.tail _ (List.mem_append_right _ (.head _)))
  have mT := up (aT, W.listOf vT.toArray vT.length) (.tail _ (List.mem_append_right _ (.tail _ (.tail _ (.head _)))))
  have mW := up (aW, W.listOf vW.toArray vW.length) (.tail _ (List.mem_append_right _ (.tail _ (.tail _ (.tail _ (.head _))))))
  have mD : ∀ d ∈ lads, ladObj d ∈ (L + 1 + 1, oc) :: (aLd, listOf (lads.map ladRef).toArray nL) :: (lads.map ladObj ++ [(aH, W.listOf vH.toArray vH.length), (aP, W.listOf vP.toArray vP.length), (aT, W.listOf vT.toArray vT.length), (aW, W.listOf vW.toArray vW.length), (L + 1, o2')]) := fun d hd => up _ (.tail _ (List.mem_append_left _ (List.mem_map_of_mem hd)))
  have mC : (L + 1 + 1, oc) ∈ (L + 1 + 1, oc) :: (aLd, listOf (lads.map ladRef).toArray nL) :: (lads.map ladObj ++ [(aH, W.listOf vH.toArray vH.length), (aP, W.listOf vP.toArray vP.length), (aT, W.listOf vT.toArray vT.length), (aW, W.listOf vW.toArray vW.length), (L + 1, o2')]) := .head _
  refine splitA 12 1 ?_
  refine segWhile (L := L) (aR := aR) (aG := aG) (aF := aF) (aS := aS) (aH := aH) (aW := aW) (aLd := aLd) (aT := aT) (xs := xs) (ws := ws) (lads := lads) B X T hx5 hx27 hH hW hws5 hLA mH mW mL mD mC hoc Z
    ⟨[], 0, [], [], 0, [], [.int 0 t0, .int 1 t1, .int 2 t2, .int 3 t3, .int 4 t4], 0, [0, 1, 2, 3, 4], [.int 0 t5], 0, [0], []⟩
    ⟨⟨.nil, .nil, fun k hk => nomatch hk⟩, ⟨.nil, .nil, fun k hk => nomatch hk⟩, .cons 0 t0 (.cons 1 t1 (.cons 2 t2 (.cons 3 t3 (.cons 4 t4 .nil)))), .cons 0 t5 .nil⟩ (winv_start xs ws) F6 N6 ?_
  intro h7 tk7 m7 c hf hI F7 N7
  clear F6 N6
  refine splitA 13 1 ?_
  obtain ⟨F8, s8⟩ := Fr.namedE F7 [(PySem.Str.ofString "row", .ref aR), (PySem.Str.ofString "heads", .ref aH), (PySem.Str.ofString "ladders", .ref aLd)] (List.forall_mem_cons.mpr ⟨by rfl, List.forall_mem_cons.mpr ⟨by rfl, List.forall_mem_cons.mpr ⟨by rfl, List.forall_mem_nil _⟩⟩⟩)
  have q4 : ∀ {q : Addr × Obj}, q ∈ (L + 1 + 1, oc) :: (aLd, listOf (lads.map ladRef).toArray nL) :: (lads.map ladObj ++ [(aH, W.listOf vH.toArray vH.length), (aP, W.listOf vP.toArray vP.length), (aT, W.listOf vT.toArray vT.length), (aW, W.listOf vW.toArray vW.length), (L + 1, o2')]) → q ∈ c.led aR aG aF aS ((L + 1 + 1, oc) :: (aLd, listOf (lads.map ladRef).toArray nL) :: (lads.map ladObj ++ [(aH, W.listOf vH.toArray vH.length), (aP, W.listOf vP.toArray vP.length), (aT, W.listOf vT.toArray vT.length), (aW, W.listOf vW.toArray vW.length), (L + 1, o2')])) := fun h => .tail _ (.tail _ (.tail _ (.tail _ h)))
  have hfl := lads_flat hLA hx27
  refine segEnd (L := L) (aR := aR) (aG := aG) (aH := aH) (aLd := aLd) (lads := lads) (hs := (xs.map hk).map headS) (gs := (xs.flatMap gkeys).map gS) B X T hf.row.are hf.rungs.are hH (by rw [hH.length, List.length_map, List.length_map, hx5]; decide) hfl (by rw [StrsAre.length hfl, List.length_map, flat4, hx5]; decide)
    (sameBy hf.row.sorted hf.row.small (end_row hI hx5)) (sameStr hf.rungs.sorted hf.rungs.small (end_rungs hI hx5)) (.head _) (.tail _ (.head _)) (q4 mH) (q4 mL) (fun d hd => q4 (mD d hd)) (q4 mC) hoc F8 N7 ?_
  intro h8 tk8 F9 N8
  rw [s8] at F9
  clear F7 F8 N7 s8
  obtain ⟨F10, s10⟩ := Fr.namedE F9 [(PySem.Str.ofString "totals", .ref aS), (PySem.Str.ofString "tails", .ref aT), (PySem.Str.ofString "worth", .ref aW)] (List.forall_mem_cons.mpr ⟨by rfl, List.forall_mem_cons.mpr ⟨by rfl, List.forall_mem_cons.mpr ⟨by rfl, List.forall_mem_nil _⟩⟩⟩)
  have hps : c.ps.length = 5 := by simpa using winv_len hI
  refine segRet (L := L) (aS := aS) (aT := aT) (aW := aW) (xs := xs) (ws := ws) B X T hf.tots (by rw [hI.totals, List.length_map, List.length_range, hps]) (by rw [← hxs]; exact hT) hx5 hW hws5 (.tail _ (.tail _ (.tail _ (.head _)))) (q4 mT) (q4 mW) (tot_same hI) F10 N8 ?_
  intro h9 tk9 k9
  exact hq h9 tk9 k9
end Mine
end
section
open PySem PySem.W PyProof.Rows PySem.Calls PySem.Spec
set_option Elab.async false
set_option maxRecDepth 100000
set_option maxHeartbeats 8000000
set_option linter.unusedVariables false
namespace Mine
set_option pp.deepTerms.threshold 6
theorem good_grown {l : OpenLaw} {cl : PySem.Str → Option Addr} {mean : ExcName → Option Value} {args : List WData} {s : Shared} {h' : Heap} {tk' : Nat} (hg : s.gens = #[]) (hk : ∀ b o, s.heap.get? b = some o → h'.get? b = some o) : GoodWG l.row.toRowW.claim cl mean args s (.ok (.ret (.bool true))) { s with heap := h', toks := tk' } := by
  refine GoodW.toG ⟨.inl ⟨.bool true, .bool true, [], rfl, fun _ => rfl, ?_, ?_, fun _ => ⟨List.nodup_nil, fun a ha => nomatch ha⟩⟩, hk, rfl, hg⟩
  · exact ReadsW.bool true
  · show (WShape.has [] (.bool true) .bool && WTm.holds [] (.eq .res (.lit (.bool true))) { args := args, res := some (.bool true), after := args }) = true
    simp [WShape.has, WShape.arms, WTm.holds, WTm.value, PySem.W.same]
theorem fillON_ (w : World) (h : Heap) : (Head.hc.heap_39 w.params).In h → PySem.Challenge.rw_zo0024_01.row.prog = PySem.Challenge.rw_zo0024_01.row.prog := by k_fill; intro _; w_top off; rfl
theorem final : PySem.Challenge.rw_zo0024_01.Holds := by
  refine Head.hc ?_
  intro w s₀ s₁ mg mb G Y fa o pm cd doc dV kV ho hd hcd hD hmg hg args vals as hpre hlay hrd hwl hlo
  have KX := kIn_of Y
  refine Ground.open G ?_
  intro T _ _ _ _
  clear G Y hcd hD ho hd
  x_fa T KX hmg
  wrow_args hpre hlay hrd hwl hlo
  all_goals (
    rename IntsAre _ _ => hi9
    rename Heap.IsList _ _ _ => hl9
    refine lawWalk (below_caller s₁.heap) KX T hl9 hi9 (by omega) ?_
    intro h9 tk9 k9
    exact good_grown hg k9)
end Mine
end
theorem PySem.Challenge.cw_zo0024_01_holds : PySem.Challenge.rw_zo0024_01.Holds := by
  exact Mine.final

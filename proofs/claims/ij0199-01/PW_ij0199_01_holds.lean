import PyProof.Rows.All
import Wide.All
import OpenK.AllK
import Wide.FinOn
import PySem.Challenge.RW_ij0199_01
set_option Elab.async false
namespace Mine
section
open PySem PySem.W PyProof.Rows
set_option maxRecDepth 100000
set_option maxHeartbeats 8000000
open_top hd for PySem.Challenge.rw_ij0199_01
end
section
local macro_rules | `(tactic| k_room) => `(tactic| ktr_room)
local macro_rules | `(tactic| ke_room) => `(tactic| ktr_units)
local macro_rules | `(tactic| k_units) => `(tactic| ktr_units)
local macro_rules | `(tactic| units_room) => `(tactic| ktr_units)
section
open PySem PySem.W PyProof.Rows PySem.Calls
set_option maxRecDepth 100000
set_option maxHeartbeats 8000000

def Gives (w : World) (loose : List Str) (mean : ExcName → Option Value) (mg mb : Str → Option Value) (d u : Nat) (f : Addr) (vs : List Value) (R : Tok → Value) : Prop :=
  ∀ (dp un : Nat) (gd : Option (List Code)) (cn : Str) (cs : Scope) (a : Addr) (ccd : Value) (cl : List (Str × Addr)) (outer : List Env) (A₀ : Around) (base h₀ : Heap) (L : Addr) (m : Str → Option Value) (news : List (Addr × Obj)) (s : Shared) (Q E : Value → Shared → Prop),
    Below A₀ base outer h₀ → Fr h₀ L s.heap m → (hd.heap_39 w.params).In h₀ → News h₀ L s.heap news → Top hd.view_39 loose mean mg mb h₀ → cs.kind = .function → dp + d < recursionLimit → un + u < cLine →
    (∀ t h' tk', Fr h₀ L h' m → News h₀ L h' news → Q (R t) { s with heap := h', toks := tk' }) →
    wpAny (model PySem.Challenge.rw_ij0199_01.row.prog w) (ktrTop dp un gd cn cs L a ccd cl outer) (call (.ref f) vs) Q E s

def Back (h₀ : Heap) (L : Addr) (news : List (Addr × Obj)) (R : Result → Shared → Prop) (r : Result) (s' : Shared) : Prop := News h₀ L s'.heap news → R r s'

section
variable {prog : Program} {w : World} {A A₀ : Around} {s : Shared} {K : Frag} {L : Addr} {h₀ base : Heap} {m mg mb : Str → Option Value} {news : List (Addr × Obj)} {p : Program} {loose : List Str} {mean : ExcName → Option Value}

theorem code_frozen {env : Env} {outer : List Env} {R : Result → Shared → Prop} {name qual : Str} {params : Arguments} {body : List Stmt} {scope : Scope} {dV kV doc pm cdv ct oc : Value} {an od : Option Addr} {osl : Array (Option Value)} {f : Addr} {args : Args} {binds : List (Str × Value)}
    (B : Below A₀ base outer h₀) (F : Fr h₀ L s.heap m) (X₀ : K.In h₀) (N : News h₀ L s.heap news) (T : Top p loose mean mg mb h₀) (hA : A.frames = some (env :: outer)) (hf : env.frame = some L) (hke : env.scope.kind = .function)
    (ho : K.lookup f = some ⟨oc, od, .func (fnOf name qual params body scope dV kV doc pm an cdv ct), osl⟩) (hcd : codeIn K cdv qual = true) (hroom : A.depth < recursionLimit)
    (hbind : BindsTo s (fnOf name qual params body scope dV kV doc pm an cdv ct) args binds) (hloc : ∀ y ∈ binds, scope.names.lookup y.1 = some .local)
    (h : ∀ g L' h₁, Fr h₀ L g m → Fr g L' h₁ (fun y => binds.reverse.lookup y) → News g L' h₁ [] → Below A base (env :: outer) g → K.In g → Top p loose mean mg mb g →
      wpAny (model prog w) (A.deeper (envOf qual scope L' f cdv)) (execs body (envOf qual scope L' f cdv))
        (fun fl s' => LeaveK h₀ L m g (Back h₀ L news R) (match fl with | .ret v => v | _ => .none) s')
        (fun e s' => wpAny (model prog w) (A.deeper (envOf qual scope L' f cdv)) (leaving (envOf qual scope L' f cdv) e) (fun _ s'' => R (.error e) s'') (fun e' s'' => R (.error e') s'') s')
        { s with heap := h₁, toks := s.toks + binds.length })
    (hco : scope.isCoroutine = false) (hgen : scope.isGenerator = false) (hk : scope.kind = .function)
    (hcell : ∀ x ∈ scope.names, x.2 ≠ .cell) : codeAny (model prog w) A (.call (.ref f) args) R s := by
  obtain ⟨FG, BG, st, lv⟩ := groundX (R := Back h₀ L news R) B F (News.nil (h₀ := h₀) (h := s.heap) (L := L)) hA hf hke
  refine codeAny_call_def (fd := fnOf name qual params body scope dV kV doc pm an cdv ct) (body := body) (binds := binds) hroom ((X₀.keeps F.keep) _ _ ho) rfl (T.nolimit.keeps F.keep) (codeRec_of (X₀.keeps F.keep) hcd) rfl hbind hcell hloc (fun h₁ hns hk₁ => ?_) hco hgen hk
  refine wpAny_mono (h _ s.heap.objs.size h₁ FG ⟨hns, fun b o e => hk₁ b o e, Nat.le_refl _⟩ News.nil BG (X₀.keeps st) (T.keeps st)) (fun fl s' hl => ?_) fun _ _ y => y
  refine lv _ _ hl ?_
  obtain ⟨L', m', news', F', N', k⟩ := hl
  exact fun p hp => ⟨F'.keep _ _ (N p hp).1, (N p hp).2⟩
end
end
section
open PySem PySem.W PyProof.Rows PySem.Calls PyProof.V PySem.Spec
set_option maxRecDepth 100000
set_option maxHeartbeats 8000000
section
variable {prog : Program} {w : World} {A : Around} {E : Value → Shared → Prop} {s : Shared} {env : Env} {h₀ : Heap} {target : Expr} {body orelse : List Stmt} {Q : Flow → Shared → Prop}

theorem loop_else {R : Result → Shared → Prop} {I : Addr} {fp wr : List Addr} {n : Nat} {P Md : Nat → Value → Heap → Prop} {St : Nat → Heap → Prop} {m : Str → Option Value} {news : List (Addr × Obj)} (W : KTurns prog w A target I fp wr n P Md St)
    (hLf : env.locals ∉ fp) (hwr : ∀ b ∈ wr, h₀.get? b = none) (hnf : ∀ p ∈ news, p.1 ∉ fp) (hst : St 0 s.heap) (F : Fr h₀ env.locals s.heap m) (N : News h₀ env.locals s.heap news)
    (J : Nat → (Str → Option Value) → List (Addr × Obj) → Prop) (h0 : J 0 m news)
    (step : ∀ i v m₁ news₁ h₁ tk₁ own, i < n → P i v h₁ → J i m₁ news₁ → news₁.map (·.1) = news.map (·.1) → OwnOff own (news.map (·.1)) → (∀ b ∈ fp, h₀.get? b = none → ∀ o, h₁.get? b = some o → (b, o) ∈ own) →
      Fr h₀ env.locals h₁ m₁ → News h₀ env.locals h₁ (news₁ ++ own) →
      wpAny (model prog w) A (assign target env v) (fun _ s₂ => wpAny (model prog w) A (execs body env)
        (InvPostN h₀ env.locals (J (i + 1)) own (news.map (·.1)) { s with heap := h₁, toks := tk₁ } (fun f s' => R (.ok f) s')) (notedBy (model prog w) A env fun e s' => R (.error e) s') s₂) (notedBy (model prog w) A env fun e s' => R (.error e) s') { s with heap := h₁, toks := tk₁ })
    (hR : ∀ h' tk m' news', Fr h₀ env.locals h' m' → News h₀ env.locals h' news' → news'.map (·.1) = news.map (·.1) → J n m' news' → wpAny (model prog w) A (execs orelse env) (fun f s' => R (.ok f) s') (notedBy (model prog w) A env fun e s' => R (.error e) s') { s with heap := h', toks := tk }) :
    codeAny (model prog w) A (.forLoop target (.ref I) body orelse env) R s := by
  have hLw : env.locals ∉ wr := fun h => hLf (W.sub _ h)
  have old : ∀ b o, h₀.get? b = some o → b ∉ wr := fun b o e hb => by rw [hwr b hb] at e; cases e
  have nm : ∀ {news' : List (Addr × Obj)}, news'.map (·.1) = news.map (·.1) → ∀ p ∈ news', p.1 ∉ fp := fun {news'} hm p hp hf => by
    have h1 : p.1 ∈ news'.map (·.1) := List.mem_map.mpr ⟨p, hp, rfl⟩
    rw [hm] at h1
    obtain ⟨q, hq, e⟩ := List.mem_map.mp h1
    exact hnf q hq (by rw [e]; exact hf)
  refine codeAny_forLoop_any
    (fun k s' => ∃ h' tk m' news' i, s' = { s with heap := h', toks := tk } ∧ St i h' ∧ Fr h₀ env.locals h' m' ∧ News h₀ env.locals h' news' ∧ news'.map (·.1) = news.map (·.1) ∧ J i m' news' ∧ i ≤ n ∧ k = n + 1 - i) ?_ (n + 1)
    ⟨s.heap, s.toks, m, news, 0, rfl, hst, F, N, rfl, h0, Nat.zero_le _, rfl⟩
  rintro k s' ⟨h', tk, m', news', i, rfl, hst', F', N', hnw', hJ, hi, rfl⟩
  have next : ∀ h₁ : Heap, (∀ b o, b ∉ wr → h'.get? b = some o → h₁.get? b = some o) → Fr h₀ env.locals h₁ m' ∧ News h₀ env.locals h₁ news' := fun h₁ hk₁ =>
    ⟨⟨F'.ns.at' fun o e => hk₁ _ o hLw e, fun b o e => hk₁ b o (old b o e) (F'.keep b o e), F'.above⟩, fun p hp => ⟨hk₁ _ _ (fun h => nm hnw' p hp (W.sub _ h)) (N' p hp).1, (N' p hp).2⟩⟩
  by_cases hlt : i < n
  · refine W.item i _ _ _ hlt hst' fun v h₁ tk₁ hMd hk₁ => ?_
    refine W.go i v _ _ _ hMd fun h₂ hP hst₂ hk₂ => ?_
    obtain ⟨F₂, N₂⟩ := next h₂ fun b o hb x => hk₂ b o hb (hk₁ b o hb x)
    have Nown : News h₀ env.locals h₂ (PyProof.Rows.ownOf h₀ fp h₂) := news_ownOf hLf
    have off : OwnOff (PyProof.Rows.ownOf h₀ fp h₂) (news.map (·.1)) := fun p hp b hb e => by
      obtain ⟨q, hq, rfl⟩ := List.mem_map.mp hb
      exact hnf q hq (e ▸ ownOf_sub p hp)
    have stay : ∀ {s₃ : Shared}, InvEndN h₀ env.locals (J (i + 1)) (PyProof.Rows.ownOf h₀ fp h₂) (news.map (·.1)) { s with heap := h₂, toks := tk₁ } s₃ → ∃ k', k' < n + 1 - i ∧ ∃ h' tk m' news' i', s₃ = { s with heap := h', toks := tk } ∧ St i' h' ∧ Fr h₀ env.locals h' m' ∧ News h₀ env.locals h' news' ∧ news'.map (·.1) = news.map (·.1) ∧ J i' m' news' ∧ i' ≤ n ∧ k' = n + 1 - i' := by
      rintro s₃ ⟨h₃', tk₃, m₂, news₂, nx, rfl, F₃, N₃, hnx, hown, hadr, hJ₃⟩
      refine ⟨n + 1 - (i + 1), by omega, h₃', tk₃, m₂, nx, i + 1, rfl, ?_, F₃, fun p hp => N₃ p (hnx p hp), hadr, hJ₃, hlt, rfl⟩
      refine W.frame _ _ _ hst₂ fun b hb o e => ?_
      cases hn : h₀.get? b with
      | some o₀ =>
        have : o₀ = o := by have q := F₂.keep b o₀ hn; rw [e] at q; exact (Option.some.inj q).symm
        exact this ▸ F₃.keep b o₀ hn
      | none => exact (N₃ _ (hown _ (mem_ownOf hb hn e))).1
    refine wpAny_mono (step i v m' news' h₂ tk₁ (PyProof.Rows.ownOf h₀ fp h₂) hlt hP hJ hnw' off (fun b hb hn o e => mem_ownOf hb hn e) F₂ (fun p hp => (List.mem_append.mp hp).elim (N₂ p) (Nown p))) (fun _ s₂ h₂' => wpAny_mono h₂' (fun f s₃ h₃ => ?_) fun _ _ e => e) fun _ _ e => e
    cases f with
    | ret v => exact h₃
    | brk => exact h₃
    | cont => exact stay h₃
    | next => exact stay h₃
  · have hin : i = n := by omega
    subst hin
    refine W.done _ _ _ hst' fun h₁ tk₁ hk₁ => ?_
    obtain ⟨F₁, N₁⟩ := next h₁ hk₁
    exact hR h₁ tk₁ m' news' F₁ N₁ hnw' hJ

/-- a for over a tuple that stands; what is named J holds between the turns -/
def TupFor (prog : Program) (w : World) (A : Around) (h₀ : Heap) (env : Env) (target : Expr) (body orelse : List Stmt) (Q : Flow → Shared → Prop) (E : Value → Shared → Prop) (xv : Value) (s₁ : Shared) : Prop :=
  ∃ (ax : Addr) (lo : Obj) (vs : List Value) (n : Nat) (m : Str → Option Value) (news : List (Addr × Obj)) (J : Nat → (Str → Option Value) → List (Addr × Obj) → Prop),
    xv = .ref ax ∧ lo.cls = .type "tuple" ∧ lo.data = .seq vs.toArray n ∧ s₁.heap.get? ax = some lo ∧ ax ≠ env.locals ∧ (∀ p ∈ news, p.1 ≠ ax) ∧ Fr h₀ env.locals s₁.heap m ∧ News h₀ env.locals s₁.heap news ∧ J 0 m news ∧
    (∀ i v m₁ news₁ h₁ tk₁ own, vs[i]? = some v → J i m₁ news₁ → news₁.map (·.1) = news.map (·.1) → OwnOff own (news.map (·.1)) → Fr h₀ env.locals h₁ m₁ → News h₀ env.locals h₁ (news₁ ++ own) →
      wpAny (model prog w) A (assign target env v) (fun _ s₂ => wpAny (model prog w) A (execs body env)
        (InvPostN h₀ env.locals (J (i + 1)) own (news.map (·.1)) { s₁ with heap := h₁, toks := tk₁ } Q) E s₂) E { s₁ with heap := h₁, toks := tk₁ }) ∧
    ∀ h' tk m' news', Fr h₀ env.locals h' m' → News h₀ env.locals h' news' → J vs.length m' news' → wpAny (model prog w) A (execs orelse env) Q E { s₁ with heap := h', toks := tk }

theorem For_tup {iter : Expr} {pos : Pos} {m : Str → Option Value} (hh : A.handled = none) (_F : Fr h₀ env.locals s.heap m)
    (h : wpAny (model prog w) A (eval iter env) (fun xv s₁ => TupFor prog w A h₀ env target body orelse Q E xv s₁) E s)
    (hs : ∀ x, foldedSetIterable iter env x = pure x := by intro _; rfl)
    (hE : PassesOwn (model prog w) A env E := by passes_own) :
    wpAny (model prog w) A (exec (.For target iter body orelse pos) env) Q E s := by
  refine wpAny_For (wpAny_mono h (fun xv s₁ h₁ => ?_) fun _ _ e => e) hs
  obtain ⟨ax, lo, vs, n, m, news, J, rfl, hc, hd, hax, haxL, hsep, F, N, h0, turn, done⟩ := h₁
  have hl : s₁.heap.IsTuple ax vs.toArray := ⟨lo, hax, hc, n, hd⟩
  have hlt : ax < s₁.heap.objs.size := Heap.lt_size hax
  have hne : ax ≠ s₁.heap.objs.size := Nat.ne_of_lt hlt
  refine wpAny_pyIter_tuple hl ?_
  have W := KTurns.ofWalks (target := target) (Walks.tuple (prog := prog) (w := w) hh s₁.heap.objs.size ax hne vs.toArray) fun i v s Q E st q => letGo_tupleiter st.1 q
  refine loop_else (R := fun r s' => match r with | .ok f => Q f s' | .error e => cameBackBy (model prog w) A env E e s') W ?_ ?_ ?_ ?_ (F.push _) (fun p hp => ⟨Heap.get?_push_of_some _ (N p hp).1, (N p hp).2⟩) J h0 ?_ ?_
  · intro hI
    rcases List.mem_cons.mp hI with e | hI
    · exact absurd F.ns.lt (e ▸ Nat.lt_irrefl _)
    · exact haxL (List.mem_singleton.mp hI).symm
  · intro b hb
    have hb' : b = s₁.heap.objs.size := by simpa using hb
    rw [hb']
    exact next_is_new F
  · intro p hp hI
    rcases List.mem_cons.mp hI with e | hI
    · exact absurd (Heap.lt_size (N p hp).1) (e ▸ Nat.lt_irrefl _)
    · exact hsep p hp (List.mem_singleton.mp hI)
  · exact ⟨⟨_, Heap.get?_push_size _ rfl, rfl, rfl⟩, hl.at fun o e => Heap.get?_push_of_some _ e⟩
  · intro i v m₁ news₁ h₁ tk₁ own hin hP hJ hadr hoff _ F₁ N₁
    have hv : vs[i]? = some v := by
      have hp' : vs.toArray[i]? = some v := hP
      simpa using hp'
    exact wpAny_mono (turn i v m₁ news₁ h₁ tk₁ own hv hJ hadr hoff F₁ N₁) (fun _ _ x => wpAny_passesOwn hE x) hE
  · intro h' tk m' news' F' N' _ hJ
    have hJ' : J vs.length m' news' := by simpa using hJ
    exact wpAny_passesOwn hE (done h' tk m' news' F' N' hJ')

/-- a for over a range object -/
def RangeFor (prog : Program) (w : World) (A : Around) (h₀ : Heap) (env : Env) (target : Expr) (body orelse : List Stmt) (Q : Flow → Shared → Prop) (E : Value → Shared → Prop) (xv : Value) (s₁ : Shared) : Prop :=
  ∃ (r : Addr) (a b c : Int) (t u v : Tok) (n : Nat) (m : Str → Option Value) (news : List (Addr × Obj)) (J : Nat → (Str → Option Value) → List (Addr × Obj) → Prop),
    xv = .ref r ∧ IsRange s₁.heap r a b c t u v ∧ Builtin.Range.small a b c = true ∧ Builtin.Range.rangeSize a b c = (n : Int) ∧ Fr h₀ env.locals s₁.heap m ∧ News h₀ env.locals s₁.heap news ∧ J 0 m news ∧
    (∀ i tk' m₁ news₁ h₁ tk₁ own, i < n → J i m₁ news₁ → news₁.map (·.1) = news.map (·.1) → OwnOff own (news.map (·.1)) → Fr h₀ env.locals h₁ m₁ → News h₀ env.locals h₁ (news₁ ++ own) →
      wpAny (model prog w) A (assign target env (.int (a + i * c) tk')) (fun _ s₂ => wpAny (model prog w) A (execs body env)
        (InvPostN h₀ env.locals (J (i + 1)) own (news.map (·.1)) { s₁ with heap := h₁, toks := tk₁ } Q) E s₂) E { s₁ with heap := h₁, toks := tk₁ }) ∧
    ∀ h' tk m' news', Fr h₀ env.locals h' m' → News h₀ env.locals h' news' → J n m' news' → wpAny (model prog w) A (execs orelse env) Q E { s₁ with heap := h', toks := tk }

theorem For_rng {iter : Expr} {pos px : Pos} {x : Str} {m : Str → Option Value} (hh : A.handled = none) (_F : Fr h₀ env.locals s.heap m)
    (h : wpAny (model prog w) A (eval iter env) (fun xv s₁ => RangeFor prog w A h₀ env (.Name x px) body orelse Q E xv s₁) E s)
    (hs : ∀ x, foldedSetIterable iter env x = pure x := by intro _; rfl)
    (hE : PassesOwn (model prog w) A env E := by passes_own) :
    wpAny (model prog w) A (exec (.For (.Name x px) iter body orelse pos) env) Q E s := by
  refine wpAny_For (wpAny_mono h (fun xv s₁ h₁ => ?_) fun _ _ e => e) hs
  obtain ⟨r, a, b, c, t, u, v, n, m, news, J, rfl, hr, hsm, hn, F, N, h0, turn, done⟩ := h₁
  refine wpAny_pyIter_range hr hsm ?_
  have W := KTurns.ofWalks (target := .Name x px) ((Walks.range (prog := prog) (w := w) hh s₁.heap.objs.size a c n).bound) fun i v s Q E st q => wpAny_pure q
  refine loop_else (R := fun r s' => match r with | .ok f => Q f s' | .error e => cameBackBy (model prog w) A env E e s') W ?_ ?_ ?_ (by show IsRangeIter _ _ _ _ _; rw [hn]; simpa using Heap.get?_push_size _ rfl) (F.push _) (fun p hp => ⟨Heap.get?_push_of_some _ (N p hp).1, (N p hp).2⟩) J h0 ?_ ?_
  · intro hI
    exact absurd F.ns.lt ((List.mem_singleton.mp hI) ▸ Nat.lt_irrefl _)
  · intro b hb
    rw [List.mem_singleton.mp hb]
    exact next_is_new F
  · intro p hp hI
    exact absurd (Heap.lt_size (N p hp).1) ((List.mem_singleton.mp hI) ▸ Nat.lt_irrefl _)
  · rintro i v m₁ news₁ h₁ tk₁ own hin ⟨_, t', rfl⟩ hJ hadr hoff _ F₁ N₁
    exact wpAny_mono (turn i t' m₁ news₁ h₁ tk₁ own hin hJ hadr hoff F₁ N₁) (fun _ _ x => wpAny_passesOwn hE x) hE
  · intro h' tk m' news' F' N' _ hJ
    exact wpAny_passesOwn hE (done h' tk m' news' F' N' hJ)
end
end
section
open PySem PySem.W PyProof.Rows PySem.Calls PyProof.V PySem.Spec
open PySem.AutoSeq1 (wpAny_loadPart')
set_option maxRecDepth 100000
set_option maxHeartbeats 8000000
section
variable {prog : Program} {w : World} {A : Around} {E : Value → Shared → Prop} {s : Shared}
theorem nextOf_tuple_item {it l : Addr} {i : Nat} {items} {x : Value} {Q : Value → Shared → Prop} (hit : s.heap.IsTupleIter it l i)
    (hl : s.heap.IsTuple l items) (hx : items[i]? = some x)
    (hQ : ∀ h', h'.IsTupleIter it l (i + 1) → Heap.SameBut it s.heap h' → Q x { s with heap := h' }) :
    wpAny (model prog w) A (Builtin.SmallTypes.nextOf (.ref it)) Q E s := by
  obtain ⟨o, ho, hc, hd⟩ := id hit
  obtain ⟨ol, hol, _, nl, hdl⟩ := hl
  unfold Builtin.SmallTypes.nextOf
  refine wpAny_bind (wpAny_callSpecial?_slot (name := Str.ofString "__next__") hit.typeIs F.slot_tuple_iterator_next
    (wpAny_call_entry F.slot_tuple_iterator_next hit.typeIs F.entry_tuple_iterator_next ?_ (F.args_tuple_iterator_next_1 _)))
  show wpAny _ _ (field (.ref it) 0 >>= _) _ _ s
  refine wpAny_bind (wpAny_field ho hd (x := .ref l) rfl ?_)
  show wpAny _ _ (if (Value.ref l == Value.none) = true then _ else _) _ _ s
  rw [if_neg (show ¬ ((Value.ref l == Value.none) = true) from Bool.false_ne_true)]
  show wpAny _ _ (field (.ref it) 1 >>= _) _ _ s
  refine wpAny_bind (wpAny_field ho hd (x := .int i 0) rfl ?_)
  show wpAny _ _ (seqItems? (.ref l) >>= _) _ _ s
  refine wpAny_bind (wpAny_seqItems hol hdl ?_)
  simp only [Int.toNat_natCast, hx]
  refine wpAny_bind (wpAny_setField ho hd (by simp) (wpAny_pure ⟨x, rfl, wpAny_pure (hQ _ ?_ (Heap.SameBut.update ..))⟩))
  exact ⟨_, Heap.get?_update_self _ ho (Obj.isFreed_of_fields (Obj.data_mapFields hd _)), (Obj.cls_mapFields ..).trans hc, by
    rw [Obj.data_mapFields hd]; simp [rawInt]⟩
theorem nextOf_tuple_end {it l : Addr} {i : Nat} {items} {Q : Value → Shared → Prop} (hh : A.handled = none)
    (hit : s.heap.IsTupleIter it l i) (hl : s.heap.IsTuple l items) (hx : items[i]? = none)
    (hE : ∀ h' e, Heap.ExtBut it s.heap h' → (∃ o, h'.get? e = some o ∧ o.cls = .type "StopIteration") → E (.ref e) { s with heap := h' }) :
    wpAny (model prog w) A (Builtin.SmallTypes.nextOf (.ref it)) Q E s := by
  obtain ⟨o, ho, hc, hd⟩ := id hit
  obtain ⟨ol, hol, _, nl, hdl⟩ := hl
  unfold Builtin.SmallTypes.nextOf
  refine wpAny_bind (wpAny_callSpecial?_slot (name := Str.ofString "__next__") hit.typeIs F.slot_tuple_iterator_next
    (wpAny_call_entry F.slot_tuple_iterator_next hit.typeIs F.entry_tuple_iterator_next ?_ (F.args_tuple_iterator_next_1 _)))
  show wpAny _ _ (field (.ref it) 0 >>= _) _ _ s
  refine wpAny_bind (wpAny_field ho hd (x := .ref l) rfl ?_)
  show wpAny _ _ (if (Value.ref l == Value.none) = true then _ else _) _ _ s
  rw [if_neg (show ¬ ((Value.ref l == Value.none) = true) from Bool.false_ne_true)]
  show wpAny _ _ (field (.ref it) 1 >>= _) _ _ s
  refine wpAny_bind (wpAny_field ho hd (x := .int i 0) rfl ?_)
  show wpAny _ _ (seqItems? (.ref l) >>= _) _ _ s
  refine wpAny_bind (wpAny_seqItems hol hdl ?_)
  simp only [Int.toNat_natCast, hx]
  refine wpAny_bind (wpAny_rule (wpAny_bind (wpAny_setField ho hd (by simp) ?_)))
  show wpAny _ _ (newExc (.type "StopIteration") [] >>= _) _ _ _
  refine wpAny_bind ?_
  simp only [newExc, newTuple]
  refine wpAny_bind (wpAny_newObj_type ?_ (by size_fits))
  refine wpAny_bind (m := firstArgMember _ _) (wpAny_of_eq (a := Value.none) (by first | rfl | (simp only [firstArgMember]; rfl)) ?_)
  refine wpAny_newObj_type ?_ (by size_fits)
  simp only [raiseNew]
  refine wpAny_bind (wpAny_handled ?_)
  first | rw [show A.in1.handled = none from hh] | rw [hh]
  refine wpAny_bind (wpAny_pure (wpAny_throw ?_))
  exact hE _ _ (((Heap.SameBut.update ..).extBut.push _).push _) ⟨_, Heap.get?_push_size _ rfl, rfl⟩
end
theorem draws_tuple {prog : Program} {w : World} {A : Around} (hh : A.handled = none) (it l : Addr) (hne : l ≠ it) (items : Array Value) :
    Draws prog w A it [it, l] items.size (fun i v => items[i]? = some v) (fun i h => h.IsTupleIter it l i ∧ h.IsTuple l items) where
  live := fun _ _ st => let ⟨o, ho, _⟩ := st.1; ⟨o, ho⟩
  frame := fun _ _ _ st hk => ⟨st.1.at fun o e => hk it (by simp) o e, st.2.at fun o e => hk l (by simp) o e⟩
  item := fun i s Q E hi st hQ => by
    refine nextOf_tuple_item st.1 st.2 (x := items[i]) (by simp [hi]) fun h' hit' hs' => ?_
    exact hQ _ h' s.toks (by simp [hi]) ⟨hit', st.2.extBut hs'.extBut hne⟩ hs'
  done := fun s Q E st hE => nextOf_tuple_end hh st.1 st.2 (by simp) hE

theorem meets_enumerate_newT (l : Addr) (items : Array Value) (n : Nat) (dct : Option Addr) (sl : Array (Option Value)) :
    Meets (Builtin.«enumerate.__new__» ⟨[.type "enumerate", .ref l], []⟩) (fun _ R s => s.heap.get? l = some { cls := .type "tuple", dict := dct, data := .seq items n, slots := sl } ∧
      R (.ok (.ret (.ref (s.heap.push { cls := .type "tuple_iterator", data := .fields #[.ref l, .int 0 0] }).objs.size)))
        { s with heap := (s.heap.push { cls := .type "tuple_iterator", data := .fields #[.ref l, .int 0 0] }).push { cls := .type "enumerate", data := .fields #[.none, .bool false, .ref s.heap.objs.size, rawInt 0, .none, .none] } }) :=
  .of_wp fun prog w A R s h => by
    obtain ⟨hp, g, d, tk, os⟩ := s; obtain ⟨hl, h⟩ := h
    have hsub := sub_enumerate
    have hL : Heap.IsTuple (Shared.heap ⟨hp, g, d, tk, os⟩) l items := ⟨_, hl, rfl, n, rfl⟩
    wp_walk using wpAny_loadPart' hl
    refine wpAny_stack_any fun st => wpAny_pure ?_
    split
    · rename_i c _ _ _ _ _
      cases (c == Value.type "enumerate")
      · wp_walk using wpAny_loadPart' hl, wpAny_pyIter_tuple hL
        exact ⟨_, rfl, h⟩
      · wp_walk using wpAny_loadPart' hl, wpAny_pyIter_tuple hL
        exact ⟨_, rfl, h⟩
    · wp_walk using wpAny_loadPart' hl, wpAny_pyIter_tuple hL
      exact ⟨_, rfl, h⟩
section
variable {prog : Program} {w : World} {A : Around} {E : Value → Shared → Prop} {s : Shared}
theorem call_enumerate_tuple {l : Addr} {items : Array Value} {Q : Value → Shared → Prop} (hL : s.heap.IsTuple l items)
    (h : ∀ h', IsEnum h' (s.heap.objs.size + 1) s.heap.objs.size 0 .none → h'.IsTupleIter s.heap.objs.size l 0 → h'.objs.size = s.heap.objs.size + 2 →
      (∀ b o, s.heap.get? b = some o → h'.get? b = some o) → Q (.ref (s.heap.objs.size + 1)) { s with heap := h' }) :
    wpAny (model prog w) A (call (.type "enumerate") [.ref l]) Q E s := by
  obtain ⟨⟨c, dct, dt, sl⟩, hl, hc, n, hd⟩ := hL
  replace hc : c = .type "tuple" := hc
  replace hd : dt = .seq items n := hd
  subst hc hd
  refine callType_new F.called_enumerate (by decide) (F.typeCall_enumerate_1 _) (F.newCall_enumerate_1 _) (fun obj => F.args_object_init_2 obj _) F.entry_enumerate_new
    (meets_enumerate_newT l items n dct sl) ⟨hl, ?_⟩
  have hz : (s.heap.push { cls := .type "tuple_iterator", data := .fields #[.ref l, .int 0 0] }).objs.size = s.heap.objs.size + 1 := Heap.size_push ..
  show _ ∧ _
  rw [hz]
  have he : IsEnum ((s.heap.push { cls := .type "tuple_iterator", data := .fields #[.ref l, .int 0 0] }).push
      { cls := .type "enumerate", data := .fields #[.none, .bool false, .ref s.heap.objs.size, rawInt 0, .none, .none] }) (s.heap.objs.size + 1) s.heap.objs.size 0 .none := by
    have := Heap.get?_push_size (s.heap.push { cls := .type "tuple_iterator", data := .fields #[.ref l, .int 0 0] })
      (o := { cls := .type "enumerate", data := .fields #[.none, .bool false, .ref s.heap.objs.size, rawInt 0, .none, .none] }) rfl
    rw [hz] at this; exact this
  refine ⟨⟨_, he, rfl⟩, h _ he ⟨_, Heap.get?_push_of_some _ (Heap.get?_push_size _ rfl), rfl, rfl⟩ (by rw [Heap.size_push, hz]) fun b o x => Heap.get?_push_of_some _ (Heap.get?_push_of_some _ x)⟩
end

section
variable {prog : Program} {w : World} {A : Around} {E : Value → Shared → Prop} {s : Shared} {env : Env} {h₀ : Heap} {target : Expr} {body orelse : List Stmt} {Q : Flow → Shared → Prop}
def LoopElse (prog : Program) (w : World) (A : Around) (h₀ : Heap) (env : Env) (target : Expr) (body orelse : List Stmt) (Q : Flow → Shared → Prop) (E : Value → Shared → Prop) (it : Value) (s : Shared) : Prop :=
  ∃ (I : Addr) (fp wr : List Addr) (n : Nat) (P Md : Nat → Value → Heap → Prop) (St : Nat → Heap → Prop) (m : Str → Option Value) (news : List (Addr × Obj)) (J : Nat → (Str → Option Value) → List (Addr × Obj) → Prop),
    it = .ref I ∧ KTurns prog w A target I fp wr n P Md St ∧ env.locals ∉ fp ∧ (∀ b ∈ wr, h₀.get? b = none) ∧ (∀ p ∈ news, p.1 ∉ fp) ∧ St 0 s.heap ∧ Fr h₀ env.locals s.heap m ∧ News h₀ env.locals s.heap news ∧ J 0 m news ∧
    (∀ i v m₁ news₁ h₁ tk₁ own, i < n → P i v h₁ → J i m₁ news₁ → news₁.map (·.1) = news.map (·.1) → OwnOff own (news.map (·.1)) → (∀ b ∈ fp, h₀.get? b = none → ∀ o, h₁.get? b = some o → (b, o) ∈ own) →
      Fr h₀ env.locals h₁ m₁ → News h₀ env.locals h₁ (news₁ ++ own) →
      wpAny (model prog w) A (assign target env v) (fun _ s₂ => wpAny (model prog w) A (execs body env)
        (InvPostN h₀ env.locals (J (i + 1)) own (news.map (·.1)) { s with heap := h₁, toks := tk₁ } Q) E s₂) E { s with heap := h₁, toks := tk₁ }) ∧
    ∀ h' tk m' news', Fr h₀ env.locals h' m' → News h₀ env.locals h' news' → news'.map (·.1) = news.map (·.1) → J n m' news' → wpAny (model prog w) A (execs orelse env) Q E { s with heap := h', toks := tk }

theorem For_else {iter : Expr} {pos : Pos} {m : Str → Option Value} (_F : Fr h₀ env.locals s.heap m)
    (h : wpAny (model prog w) A (eval iter env) (fun xv s₁ => wpAny (model prog w) A (pyIter xv) (fun it s₂ => LoopElse prog w A h₀ env target body orelse Q E it s₂) E s₁) E s)
    (hs : ∀ x, foldedSetIterable iter env x = pure x := by intro _; rfl)
    (hE : PassesOwn (model prog w) A env E := by passes_own) :
    wpAny (model prog w) A (exec (.For target iter body orelse pos) env) Q E s := by
  refine wpAny_For (wpAny_mono h (fun xv s₁ h₁ => wpAny_mono h₁ (fun it s₂ h₂ => ?_) fun _ _ e => e) fun _ _ e => e) hs
  obtain ⟨I, fp, wr, n, P, Md, St, m, news, J, rfl, W, a, b, c, d, F, N, h0, turn, done⟩ := h₂
  refine loop_else (R := fun r s' => match r with | .ok f => Q f s' | .error e => cameBackBy (model prog w) A env E e s') W a b c d F N J h0 ?_ ?_
  · intro i v m₁ news₁ h₁ tk₁ own q1 q2 q3 q4 q5 q6 q7 q8
    exact wpAny_mono (turn i v m₁ news₁ h₁ tk₁ own q1 q2 q3 q4 q5 q6 q7 q8) (fun _ _ x => wpAny_passesOwn hE x) hE
  · intro h' tk m' news' q1 q2 q3 q4
    exact wpAny_passesOwn hE (done h' tk m' news' q1 q2 q3 q4)

/-- enumerate of a tuple of the ground -/
theorem enum_ground {elts : List Expr} {k : Nat} {pos : Pos} {ax : Addr} {lo : Obj} {vs : List Value} {n : Nat} {m₀ : Str → Option Value} {news : List (Addr × Obj)} (J : Nat → (Str → Option Value) → List (Addr × Obj) → Prop)
    (hh : A.handled = none) (F : Fr h₀ env.locals s.heap m₀) (N : News h₀ env.locals s.heap news) (hg : h₀.get? ax = some lo) (hc : lo.cls = .type "tuple") (hd : lo.data = .seq vs.toArray n) (h0 : J 0 m₀ news)
    (turn : ∀ i x T t m₁ news₁ h₁ tk₁ own, vs[i]? = some x → J i m₁ news₁ → news₁.map (·.1) = news.map (·.1) → OwnOff own (news.map (·.1)) → h₁.IsTuple T #[.int (i : Int) t, x] → Fr h₀ env.locals h₁ m₁ → News h₀ env.locals h₁ (news₁ ++ own) →
      wpAny (model prog w) A (assign (.Tuple elts k pos) env (.ref T)) (fun _ s₂ => wpAny (model prog w) A (execs body env)
        (InvPostN h₀ env.locals (J (i + 1)) own (news.map (·.1)) { s with heap := h₁, toks := tk₁ } Q) E s₂) E { s with heap := h₁, toks := tk₁ })
    (done : ∀ h' tk m' news', Fr h₀ env.locals h' m' → News h₀ env.locals h' news' → J vs.length m' news' → wpAny (model prog w) A (execs orelse env) Q E { s with heap := h', toks := tk }) :
    wpAny (model prog w) A (call (.type "enumerate") [.ref ax]) (fun xv s₁ => wpAny (model prog w) A (pyIter xv) (fun it s₂ => LoopElse prog w A h₀ env (.Tuple elts k pos) body orelse Q E it s₂) E s₁) E s := by
  have hax : s.heap.get? ax = some lo := F.keep _ _ hg
  have hl : s.heap.IsTuple ax vs.toArray := ⟨lo, hax, hc, n, hd⟩
  have hlt : ax < s.heap.objs.size := Heap.lt_size hax
  have hLs : env.locals < s.heap.objs.size := F.ns.lt
  have hLa : env.locals ≠ ax := fun e => absurd (Heap.lt_size hg) (Nat.not_lt.mpr (e ▸ F.above))
  refine call_enumerate_tuple hl fun h' hE hI hsz hk => ?_
  refine wpAny_pyIter_enum hE ?_
  refine ⟨s.heap.objs.size + 1, _, _, vs.length, _, _, _, m₀, news, J, rfl, (KTurns.ofWalksU (WalksT.enumerateD (draws_tuple (prog := prog) (w := w) (A := A.in1) hh s.heap.objs.size ax (Nat.ne_of_lt hlt) vs.toArray) (s.heap.objs.size + 1) (Nat.succ_ne_self _) ?_ (by simp)).toU), ?_, ?_, ?_, ?_, F.keeps hk, N.grown hk, h0, ?_, ?_⟩
  · intro hm
    have hb' : s.heap.objs.size + 1 = s.heap.objs.size ∨ s.heap.objs.size + 1 = ax := by simpa using hm
    rcases hb' with e | e
    · exact Nat.succ_ne_self _ e
    · exact ktu_ne 1 hlt e.symm
  · intro hI'
    have hb' : env.locals = s.heap.objs.size + 1 ∨ env.locals = s.heap.objs.size ∨ env.locals = ax := by simpa using hI'
    rcases hb' with e | e | e
    · exact ktu_ne 1 hLs e
    · exact Nat.ne_of_lt hLs e
    · exact hLa e
  · intro b hb
    have hb' : b = s.heap.objs.size + 1 ∨ b = s.heap.objs.size := by simpa using hb
    rcases hb' with rfl | rfl
    · exact ktu_new F (Nat.le_add_right _ _)
    · exact ktu_new F (Nat.le_refl _)
  · intro p hp hI'
    have hb' : p.1 = s.heap.objs.size + 1 ∨ p.1 = s.heap.objs.size ∨ p.1 = ax := by simpa using hI'
    have hlp := Heap.lt_size (N p hp).1
    rcases hb' with e | e | e
    · exact ktu_ne 1 hlp e
    · exact Nat.ne_of_lt hlp e
    · have := (N p hp).2.2; rw [e, hg] at this; cases this
  · exact ⟨⟨_, hE⟩, hI, hl.at fun o e => hk ax o e⟩
  · rintro i v m₁ news₁ h₁ tk₁ own hin ⟨T, vals, rfl, ⟨t, x, hx, rfl⟩, hT⟩ hJ hadr hoff _ F₁ N₁
    exact turn i x T t m₁ news₁ h₁ tk₁ own (by simpa using hx) hJ hadr hoff hT F₁ N₁
  · intro h' tk m' news' F' N' _ hJ
    exact done h' tk m' news' F' N' hJ
end
end
section
open PySem PySem.W PyProof.Rows PySem.Calls PyProof.V PySem.Spec
set_option maxRecDepth 100000
set_option maxHeartbeats 8000000
def rowsOf : Nat → List (Int × Str)
  | 0 => [(40960, Str.ofString "l"), (49152, Str.ofString "s"), (32768, Str.ofString "-"), (24576, Str.ofString "b"), (16384, Str.ofString "d"), (8192, Str.ofString "c"), (4096, Str.ofString "p")]
  | 1 => [(256, Str.ofString "r")]
  | 2 => [(128, Str.ofString "w")]
  | 3 => [(2112, Str.ofString "s"), (2048, Str.ofString "S"), (64, Str.ofString "x")]
  | 4 => [(32, Str.ofString "r")]
  | 5 => [(16, Str.ofString "w")]
  | 6 => [(1032, Str.ofString "s"), (1024, Str.ofString "S"), (8, Str.ofString "x")]
  | 7 => [(4, Str.ofString "r")]
  | 8 => [(2, Str.ofString "w")]
  | 9 => [(513, Str.ofString "t"), (512, Str.ofString "T"), (1, Str.ofString "x")]
  | _ => []
def hit (mode : Int) (i : Nat) (b : Int) : Bool := if i = 0 then Builtin.bitAnd mode 61440 == b else Builtin.bitAnd mode b == b
def fmc (mode : Int) (i : Nat) : Str := match (rowsOf i).find? (fun p => hit mode i p.1) with
  | some p => p.2
  | none => if i = 0 then Str.ofString "?" else Str.ofString "-"
def fmS (mode : Int) (i : Nat) : List Str := (List.range i).map (fmc mode)
def tabs : List Value := [Value.ref 152, Value.ref 154, Value.ref 156, Value.ref 160, Value.ref 162, Value.ref 164, Value.ref 168, Value.ref 170, Value.ref 172, Value.ref 176]
abbrev tupO (vs : List Value) : Obj := { cls := .type "tuple", data := .seq vs.toArray }
theorem tabs_spec (P : Params) : ∀ (i : Nat) (x : Value), tabs[i]? = some x → ∃ (ax : Addr) (its : List Value), x = .ref ax ∧ (hd.heap_39 P).lookup ax = some (tupO its) ∧ its.length = (rowsOf i).length ∧
    ∀ (j : Nat) (v : Value), its[j]? = some v → ∃ (a : Addr) (b : Int) (tb : Tok) (c : Str) (tc : Tok), v = .ref a ∧ (hd.heap_39 P).lookup a = some (tupO [.int b tb, .str c tc]) ∧ (rowsOf i)[j]? = some (b, c) := by
  intro i x h
  match i, h with
  | 0, h =>
    cases h
    refine ⟨152, ([Value.ref 145, Value.ref 146, Value.ref 147, Value.ref 148, Value.ref 149, Value.ref 150, Value.ref 151] : List Value), rfl, rfl, rfl, fun j v hj => ?_⟩
    match j, hj with
    | 0, hj => cases hj; exact ⟨145, 40960, 411, Str.ofString "l", 488, rfl, rfl, rfl⟩
    | 1, hj => cases hj; exact ⟨146, 49152, 413, Str.ofString "s", 489, rfl, rfl, rfl⟩
    | 2, hj => cases hj; exact ⟨147, 32768, 407, Str.ofString "-", 490, rfl, rfl, rfl⟩
    | 3, hj => cases hj; exact ⟨148, 24576, 405, Str.ofString "b", 491, rfl, rfl, rfl⟩
    | 4, hj => cases hj; exact ⟨149, 16384, 401, Str.ofString "d", 492, rfl, rfl, rfl⟩
    | 5, hj => cases hj; exact ⟨150, 8192, 403, Str.ofString "c", 493, rfl, rfl, rfl⟩
    | 6, hj => cases hj; exact ⟨151, 4096, 409, Str.ofString "p", 494, rfl, rfl, rfl⟩
    | n + 7, hj => simp at hj
  | 1, h =>
    cases h
    refine ⟨154, ([Value.ref 153] : List Value), rfl, rfl, rfl, fun j v hj => ?_⟩
    match j, hj with
    | 0, hj => cases hj; exact ⟨153, 256, 470, Str.ofString "r", 495, rfl, rfl, rfl⟩
    | n + 1, hj => simp at hj
  | 2, h =>
    cases h
    refine ⟨156, ([Value.ref 155] : List Value), rfl, rfl, rfl, fun j v hj => ?_⟩
    match j, hj with
    | 0, hj => cases hj; exact ⟨155, 128, 472, Str.ofString "w", 496, rfl, rfl, rfl⟩
    | n + 1, hj => simp at hj
  | 3, h =>
    cases h
    refine ⟨160, ([Value.ref 157, Value.ref 158, Value.ref 159] : List Value), rfl, rfl, rfl, fun j v hj => ?_⟩
    match j, hj with
    | 0, hj => cases hj; exact ⟨157, 2112, 497, Str.ofString "s", 498, rfl, rfl, rfl⟩
    | 1, hj => cases hj; exact ⟨158, 2048, 464, Str.ofString "S", 499, rfl, rfl, rfl⟩
    | 2, hj => cases hj; exact ⟨159, 64, 474, Str.ofString "x", 500, rfl, rfl, rfl⟩
    | n + 3, hj => simp at hj
  | 4, h =>
    cases h
    refine ⟨162, ([Value.ref 161] : List Value), rfl, rfl, rfl, fun j v hj => ?_⟩
    match j, hj with
    | 0, hj => cases hj; exact ⟨161, 32, 476, Str.ofString "r", 501, rfl, rfl, rfl⟩
    | n + 1, hj => simp at hj
  | 5, h =>
    cases h
    refine ⟨164, ([Value.ref 163] : List Value), rfl, rfl, rfl, fun j v hj => ?_⟩
    match j, hj with
    | 0, hj => cases hj; exact ⟨163, 16, 478, Str.ofString "w", 502, rfl, rfl, rfl⟩
    | n + 1, hj => simp at hj
  | 6, h =>
    cases h
    refine ⟨168, ([Value.ref 165, Value.ref 166, Value.ref 167] : List Value), rfl, rfl, rfl, fun j v hj => ?_⟩
    match j, hj with
    | 0, hj => cases hj; exact ⟨165, 1032, 503, Str.ofString "s", 504, rfl, rfl, rfl⟩
    | 1, hj => cases hj; exact ⟨166, 1024, 466, Str.ofString "S", 505, rfl, rfl, rfl⟩
    | 2, hj => cases hj; exact ⟨167, 8, 480, Str.ofString "x", 506, rfl, rfl, rfl⟩
    | n + 3, hj => simp at hj
  | 7, h =>
    cases h
    refine ⟨170, ([Value.ref 169] : List Value), rfl, rfl, rfl, fun j v hj => ?_⟩
    match j, hj with
    | 0, hj => cases hj; exact ⟨169, 4, 482, Str.ofString "r", 507, rfl, rfl, rfl⟩
    | n + 1, hj => simp at hj
  | 8, h =>
    cases h
    refine ⟨172, ([Value.ref 171] : List Value), rfl, rfl, rfl, fun j v hj => ?_⟩
    match j, hj with
    | 0, hj => cases hj; exact ⟨171, 2, 484, Str.ofString "w", 508, rfl, rfl, rfl⟩
    | n + 1, hj => simp at hj
  | 9, h =>
    cases h
    refine ⟨176, ([Value.ref 173, Value.ref 174, Value.ref 175] : List Value), rfl, rfl, rfl, fun j v hj => ?_⟩
    match j, hj with
    | 0, hj => cases hj; exact ⟨173, 513, 509, Str.ofString "t", 510, rfl, rfl, rfl⟩
    | 1, hj => cases hj; exact ⟨174, 512, 468, Str.ofString "T", 511, rfl, rfl, rfl⟩
    | 2, hj => cases hj; exact ⟨175, 1, 486, Str.ofString "x", 512, rfl, rfl, rfl⟩
    | n + 3, hj => simp at hj
  | n + 10, h => simp [tabs] at h

theorem fr_known {h₀ h : Heap} {L : Addr} {m : Str → Option Value} (ps : List (Str × Value)) (F : Fr h₀ L h m) (hk : ∀ p ∈ ps, m p.1 = some p.2) : Fr h₀ L h (kstB m ps) := by
  have e : kstB m ps = m := funext fun z => kstB_eq hk fun _ => rfl
  rw [e]; exact F
theorem fmS_succ (mode : Int) (i : Nat) : fmS mode (i + 1) = fmS mode i ++ [fmc mode i] := by
  simp [fmS, List.range_succ]
theorem fmc_hit {mode : Int} {i j : Nat} {b : Int} {c : Str} (hr : (rowsOf i)[j]? = some (b, c)) (hn : ∀ p ∈ (rowsOf i).take j, hit mode i p.1 = false) (hh : hit mode i b = true) : fmc mode i = c := by
  have hs : rowsOf i = (rowsOf i).take j ++ (b, c) :: (rowsOf i).drop (j + 1) := by
    have hlt : j < (rowsOf i).length := by
      rcases Nat.lt_or_ge j (rowsOf i).length with h | h
      · exact h
      · rw [List.getElem?_eq_none h] at hr; cases hr
    have h1 := List.take_append_drop j (rowsOf i)
    rw [List.drop_eq_getElem_cons hlt] at h1
    rw [List.getElem?_eq_getElem hlt] at hr
    rw [Option.some.inj hr] at h1
    exact h1.symm
  have hf : (rowsOf i).find? (fun p => hit mode i p.1) = some (b, c) := by
    rw [hs, List.find?_append]
    have : ((rowsOf i).take j).find? (fun p => hit mode i p.1) = none := by
      rw [List.find?_eq_none]; intro p hp; rw [hn p hp]; decide
    rw [this]; simp [hh]
  unfold fmc; rw [hf]
theorem fmc_none {mode : Int} {i : Nat} (hn : ∀ p ∈ rowsOf i, hit mode i p.1 = false) : fmc mode i = if i = 0 then Str.ofString "?" else Str.ofString "-" := by
  have hf : (rowsOf i).find? (fun p => hit mode i p.1) = none := by
    rw [List.find?_eq_none]; intro p hp; rw [hn p hp]; decide
  unfold fmc; rw [hf]
theorem take_step {i j : Nat} {mode b : Int} {c : Str} (hr : (rowsOf i)[j]? = some (b, c)) (hn : ∀ p ∈ (rowsOf i).take j, hit mode i p.1 = false) (hh : hit mode i b = false) : ∀ p ∈ (rowsOf i).take (j + 1), hit mode i p.1 = false := by
  intro p hp
  rw [List.take_add_one, hr] at hp
  rcases List.mem_append.mp hp with h | h
  · exact hn p h
  · simp at h; rw [h]; exact hh
theorem hit_zero {mode b : Int} {i : Nat} (h : (i : Int) = 0) : hit mode i b = (Builtin.bitAnd mode 61440 == b) := by
  have : i = 0 := by omega
  simp [hit, this]
theorem hit_pos {mode b : Int} {i : Nat} (h : (i : Int) ≠ 0) : hit mode i b = (Builtin.bitAnd mode b == b) := by
  have : i ≠ 0 := by omega
  simp [hit, this]
end
section
open PySem PySem.W PyProof.Rows PySem.Calls PyProof.V PySem.Spec
set_option maxRecDepth 100000
set_option maxHeartbeats 8000000


section
variable {prog : Program} {w : World} {A : Around} {E : Value → Shared → Prop} {s : Shared} {env : Env} {h₀ : Heap} {target : Expr} {body orelse : List Stmt} {Q : Flow → Shared → Prop} {K : Frag}
theorem tupFor_ground {ax : Addr} {vs : List Value} {m : Str → Option Value} {news : List (Addr × Obj)} (J : Nat → (Str → Option Value) → List (Addr × Obj) → Prop)
    (X : K.In h₀) (hk : K.lookup ax = some (tupO vs)) (F : Fr h₀ env.locals s.heap m) (N : News h₀ env.locals s.heap news) (h0 : J 0 m news)
    (turn : ∀ i v m₁ news₁ h₁ tk₁ own, vs[i]? = some v → J i m₁ news₁ → news₁.map (·.1) = news.map (·.1) → OwnOff own (news.map (·.1)) → Fr h₀ env.locals h₁ m₁ → News h₀ env.locals h₁ (news₁ ++ own) →
      wpAny (model prog w) A (assign target env v) (fun _ s₂ => wpAny (model prog w) A (execs body env)
        (InvPostN h₀ env.locals (J (i + 1)) own (news.map (·.1)) { s with heap := h₁, toks := tk₁ } Q) E s₂) E { s with heap := h₁, toks := tk₁ })
    (done : ∀ h' tk m' news', Fr h₀ env.locals h' m' → News h₀ env.locals h' news' → J vs.length m' news' → wpAny (model prog w) A (execs orelse env) Q E { s with heap := h', toks := tk }) :
    TupFor prog w A h₀ env target body orelse Q E (.ref ax) s := by
  have hg := X _ _ hk
  refine ⟨ax, tupO vs, vs, 0, m, news, J, rfl, rfl, rfl, F.keep _ _ hg, ?_, ?_, F, N, h0, turn, done⟩
  · intro e
    exact absurd (Heap.lt_size hg) (Nat.not_lt.mpr (e ▸ F.above))
  · intro p hp e
    have := (N p hp).2.2
    rw [e, hg] at this; cases this
end
theorem rowsOf_one : ∀ i, i < 10 → ∀ p ∈ rowsOf i, p.2.length = 1 := by decide
theorem fmc_len {mode : Int} {i : Nat} (hi : i < 10) : (fmc mode i).length = 1 := by
  unfold fmc
  split
  · rename_i p hp
    exact rowsOf_one i hi p (List.mem_of_find?_eq_some hp)
  · split <;> rfl
theorem fmS_ok (mode : Int) : ((fmS mode 10).map (·.length)).sum + (fmS mode 10).length * 64 ≤ 16777216 := by
  have h : ∀ i, i < 10 → (fmc mode i).length = 1 := fun i hi => fmc_len hi
  simp [fmS, List.range_succ, h]
section
variable {w : World} {mg mb : Str → Option Value} {loose : List Str} {mean : ExcName → Option Value}

theorem filemode_gives (mode : Int) (tkm : Tok) : Gives w loose mean mg mb 8 200 184 [.int mode tkm] (fun t => .str (Txt.join (Str.ofString "") (fmS mode 10)) t) := by
  w_top off
  unfold Gives
  k_fill
  intro dp un gd cn cs a ccd cl outer A₀ base h₀ L m news s Q E B F X N T hk hd hu hret
  refine wpAny_call ?_
  (k_dflt (refine' code_frozen ?k1 ?k2 ?k3 ?k4 ?k5 ?kA ?kF ?kK ?k6 ?k7 ?k8 ?k9 ?kB ?_ ?c2 ?c3 ?c4 ?c5; (case kA => exact rfl); (case kF => exact rfl); (case kK => assumption); (case k1 => k_asm); (case k2 => k_asm); (case k3 => k_asm); (case k4 => k_asm); (case k5 => k_asm); (case k6 => k_is); (case k7 => k_is); (case k8 => ktr_room); (case k9 => first | exact BindsTo.of_eq rfl | exact binds_K (by k_in) rfl (by k_is) rfl rfl rfl); (case c5 => decide); (case kB => exact locs rfl); (case c2 => exact rfl); (case c3 => exact rfl); (case c4 => exact rfl); k_whole; intro g' L' h' FG' F' N' B' X' T'; (try dsimp only); (try k_lift B'); (try k_fold)))
  replace F' := fr_known [(Str.ofString "mode", Value.int mode tkm)] F' (by intro p hp; rw [List.mem_singleton.mp hp]; rfl)
  dsimp only [kstB] at F'
  repeat' ((first | ((with_reducible show wpAny _ _ (call (Value.builtin _) [Value.str _ _, Value.ref _]) _ _ _); k_dflt (refine join_listC (by exact News.isList (by k_asm) (.head _)) (by assumption) (by decide) (by assumption) ?_); (try intro _ _)) | ((with_reducible show wpAny _ _ (call (Value.builtin _) [Value.ref _, _]) _ _ _); k_dflt (refine append_K (by k_asm) (by k_asm) (by (refine Upd.head (by exact OwnOff.ne (by assumption) (.head _)))) ?_ (by assumption); k_whole); intro h' F' N'; (try k_sweep)) | ((with_reducible show wpAny _ _ (exec (Stmt.For (Expr.Tuple _ _ _) (Expr.Name _ _) (_ :: _) (_ :: _) _) _) _ _ _); (rename Fr _ _ _ _ => lF'); (with_unfolding_all refine For_tup (by rfl) lF' ?_; k_whole)) | ((with_reducible show wpAny _ _ (exec (Stmt.For (Expr.Tuple _ _ _) (Expr.Call _ _ _ _) (_ :: _) [] _) _) _ _ _); (rename Fr _ _ _ _ => lF'); (with_unfolding_all refine For_else lF' ?_; k_whole)) | (k_unfold; (try dsimp only)) | walk1 | (dsimp only; walk1) | (leave1; try dsimp only)))
  rename Fr _ _ _ _ => F1
  rename News _ _ _ _ => N1
  refine enum_ground (lo := tupO tabs) (vs := tabs) (fun i m₁ n₁ => ∃ pl arr cnt, m₁ (Str.ofString "perm") = some (.ref pl) ∧ m₁ (Str.ofString "mode") = some (.int mode tkm) ∧ n₁ = [(pl, listOf arr cnt)] ∧ StrsAre arr.toList (fmS mode i)) rfl F1 N1 (X' 177 _ rfl) rfl rfl ⟨_, #[], 0, (by rw [if_pos rfl]), (by rw [if_neg (by decide)]; rfl), rfl, StrsAre.nil⟩ ?turn ?done
  case turn =>
    intro i x T t m₁ n₁ h₁ tk₁ own hx hJ hadr hoff hT F₁ N₁
    obtain ⟨pl, arr, cnt, hp, hm, rfl, hs⟩ := hJ
    obtain ⟨ax, its, rfl, hax, hlen, hrow⟩ := tabs_spec w.params i x hx
    simp only [List.map_cons, List.map_nil, List.cons.injEq, and_true] at hadr
    subst hadr
    simp only [List.map_cons, List.map_nil] at hoff
    replace F₁ := fr_known [(Str.ofString "perm", .ref pl), (Str.ofString "mode", .int mode tkm)] F₁ (by simp [hp, hm])
    dsimp only [kstB] at F₁
    simp only [List.cons_append, List.nil_append] at N₁
    have hi10 : i < 10 := by
      rcases Nat.lt_or_ge i 10 with h | h
      · exact h
      · rw [List.getElem?_eq_none (by simpa [tabs] using h)] at hx; cases hx
    have hsz : arr.size ≤ sizeLine := by
      have := hs.len_eq
      rw [sizeLine_eq]; simp [fmS] at this; omega
    have hT' : IsTup h₁ T #[.int (i : Int) t, .ref ax] := hT
    clear F1 N1 hp hm hT
    repeat' ((fail_if_success (with_reducible show InvEndN _ _ _ _ _ _ _)); (fail_if_success (with_reducible show Mine.TupFor _ _ _ _ _ _ _ _ _ _ _ _)); (first | ((with_reducible show wpAny _ _ (call (Value.builtin _) [Value.str _ _, Value.ref _]) _ _ _); k_dflt (refine join_listC (by exact News.isList (by k_asm) (.head _)) (by assumption) (by decide) (by assumption) ?_); (try intro _ _)) | ((with_reducible show wpAny _ _ (call (Value.builtin _) [Value.ref _, _]) _ _ _); k_dflt (refine append_K (by k_asm) (by k_asm) (by (refine Upd.head (by exact OwnOff.ne (by assumption) (.head _)))) ?_ (by assumption); k_whole); intro h' F' N'; (try k_sweep)) | ((with_reducible show wpAny _ _ (exec (Stmt.For (Expr.Tuple _ _ _) (Expr.Name _ _) (_ :: _) (_ :: _) _) _) _ _ _); (rename Fr _ _ _ _ => lF'); (with_unfolding_all refine For_tup (by rfl) lF' ?_; k_whole)) | ((with_reducible show wpAny _ _ (exec (Stmt.For (Expr.Tuple _ _ _) (Expr.Call _ _ _ _) (_ :: _) [] _) _) _ _ _); (rename Fr _ _ _ _ => lF'); (with_unfolding_all refine For_else lF' ?_; k_whole)) | (k_unfold; (try dsimp only)) | walk1 | (dsimp only; walk1) | (leave1; try dsimp only)))
    rename Fr _ _ _ _ => F3
    rename News _ _ _ _ => N3
    refine tupFor_ground (fun j m₂ n₂ => (∀ p ∈ (rowsOf i).take j, hit mode i p.1 = false) ∧ m₂ (Str.ofString "perm") = some (.ref pl) ∧ m₂ (Str.ofString "mode") = some (.int mode tkm) ∧ m₂ (Str.ofString "index") = some (.int (i : Int) t) ∧ n₂ = (pl, listOf arr cnt) :: own) X' hax F3 N3 ⟨by simp, (by rw [if_neg (by decide), if_neg (by decide), if_pos rfl]), (by rw [if_neg (by decide), if_neg (by decide), if_neg (by decide), if_pos rfl]), (by rw [if_neg (by decide), if_pos rfl]), rfl⟩ ?t2 ?d2
    case t2 =>
      intro j v m₂ n₂ h₂ tk₂ own₂ hv hJ2 hadr2 hoff2 F₂ N₂
      obtain ⟨hno, hp2, hm2, hi2, rfl⟩ := hJ2
      obtain ⟨a, b, tb, c, tc, rfl, hak, hrw⟩ := hrow j v hv
      have hT2 : IsTup h₂ a #[.int b tb, .str c tc] := ⟨_, F₂.keep _ _ (X' _ _ hak), rfl, _, rfl⟩
      replace F₂ := fr_known [(Str.ofString "perm", .ref pl), (Str.ofString "mode", .int mode tkm), (Str.ofString "index", .int (i : Int) t)] F₂ (by simp [hp2, hm2, hi2])
      dsimp only [kstB] at F₂
      simp only [List.cons_append] at N₂
      simp only [List.map_cons] at hoff2
      have hoff3 : OwnOff (own ++ own₂) [pl] := by
        intro p hp q hq
        rw [List.mem_singleton.mp hq]
        rcases List.mem_append.mp hp with h | h
        · exact hoff p h pl (.head _)
        · exact hoff2 p h pl (.head _)
      have hin1 : ∀ p ∈ own, p ∈ own ++ own₂ := fun p hp => List.mem_append_left _ hp
      have hin2 : ∀ p ∈ own₂, p ∈ own ++ own₂ := fun p hp => List.mem_append_right _ hp
      generalize own ++ own₂ = own3 at N₂ hoff3 hin1 hin2
      clear F3 N3 hp2 hm2 hi2 hT'
      try k_fold
      repeat' ((fail_if_success (with_reducible show InvEndN _ _ _ _ _ _ _)); (fail_if_success (with_reducible show Mine.TupFor _ _ _ _ _ _ _ _ _ _ _ _)); (first | ((with_reducible show wpAny _ _ (call (Value.builtin _) [Value.str _ _, Value.ref _]) _ _ _); k_dflt (refine join_listC (by exact News.isList (by k_asm) (.head _)) (by assumption) (by decide) (by assumption) ?_); (try intro _ _)) | ((with_reducible show wpAny _ _ (call (Value.builtin _) [Value.ref _, _]) _ _ _); k_dflt (refine append_K (by k_asm) (by k_asm) (by (refine Upd.head (by exact OwnOff.ne (by assumption) (.head _)))) ?_ (by assumption); k_whole); intro h' F' N'; (try k_sweep)) | ((with_reducible show wpAny _ _ (exec (Stmt.For (Expr.Tuple _ _ _) (Expr.Name _ _) (_ :: _) (_ :: _) _) _) _ _ _); (rename Fr _ _ _ _ => lF'); (with_unfolding_all refine For_tup (by rfl) lF' ?_; k_whole)) | ((with_reducible show wpAny _ _ (exec (Stmt.For (Expr.Tuple _ _ _) (Expr.Call _ _ _ _) (_ :: _) [] _) _) _ _ _); (rename Fr _ _ _ _ => lF'); (with_unfolding_all refine For_else lF' ?_; k_whole)) | (k_unfold; (try dsimp only)) | walk1 | (dsimp only; walk1) | (leave1; try dsimp only)))
      all_goals first
        | (rename Fr _ _ _ _ => Fz; rename News _ _ _ _ => Nz; refine InvEndN.intro (nx := [(pl, listOf (arr.push (.str _ _)) (cnt + 1))]) Fz Nz ⟨pl, _, _, ?h1, ?h2, rfl, ?h3⟩ (by simp only [List.map_cons, List.map_nil]) (by intro p hp; rw [List.mem_singleton.mp hp]; exact List.Mem.head _) (fun p hp => List.Mem.tail _ (hin1 p hp)); (case h1 => ((try dsimp only); (repeat' (first | rw [if_pos rfl] | rw [if_neg (by decide)])))); (case h2 => ((try dsimp only); (repeat' (first | rw [if_pos rfl] | rw [if_neg (by decide)])))); (case h3 => (rw [fmS_succ, fmc_hit hrw hno (by rw [hit_zero (by assumption)]; exact beq_iff_eq.mpr (by assumption)), Array.toList_push]; exact StrsAre.append' hs (.cons _ _ .nil))))
        | (rename Fr _ _ _ _ => Fz; rename News _ _ _ _ => Nz; refine InvEndN.intro (nx := [(pl, listOf (arr.push (.str _ _)) (cnt + 1))]) Fz Nz ⟨pl, _, _, ?h1, ?h2, rfl, ?h3⟩ (by simp only [List.map_cons, List.map_nil]) (by intro p hp; rw [List.mem_singleton.mp hp]; exact List.Mem.head _) (fun p hp => List.Mem.tail _ (hin1 p hp)); (case h1 => ((try dsimp only); (repeat' (first | rw [if_pos rfl] | rw [if_neg (by decide)])))); (case h2 => ((try dsimp only); (repeat' (first | rw [if_pos rfl] | rw [if_neg (by decide)])))); (case h3 => (rw [fmS_succ, fmc_hit hrw hno (by rw [hit_pos (by assumption)]; exact beq_iff_eq.mpr (by assumption)), Array.toList_push]; exact StrsAre.append' hs (.cons _ _ .nil))))
        | (rename Fr _ _ _ _ => Fz; rename News _ _ _ _ => Nz; refine InvEndN.intro (nx := (pl, listOf arr cnt) :: own) Fz Nz ⟨take_step hrw hno ?h0, ?h1, ?h2, ?h3, rfl⟩ rfl (by intro p hp; rcases List.mem_cons.mp hp with h | h; (rw [h]; exact List.Mem.head _); (exact List.Mem.tail _ (hin1 p h))) (fun p hp => List.Mem.tail _ (hin2 p hp)); (case h0 => (rw [hit_zero (by assumption)]; exact beq_eq_false_iff_ne.mpr (by assumption))); (case h1 => ((try dsimp only); (repeat' (first | rw [if_pos rfl] | rw [if_neg (by decide)])))); (case h2 => ((try dsimp only); (repeat' (first | rw [if_pos rfl] | rw [if_neg (by decide)])))); (case h3 => ((try dsimp only); (repeat' (first | rw [if_pos rfl] | rw [if_neg (by decide)])))))
        | (rename Fr _ _ _ _ => Fz; rename News _ _ _ _ => Nz; refine InvEndN.intro (nx := (pl, listOf arr cnt) :: own) Fz Nz ⟨take_step hrw hno ?h0, ?h1, ?h2, ?h3, rfl⟩ rfl (by intro p hp; rcases List.mem_cons.mp hp with h | h; (rw [h]; exact List.Mem.head _); (exact List.Mem.tail _ (hin1 p h))) (fun p hp => List.Mem.tail _ (hin2 p hp)); (case h0 => (rw [hit_pos (by assumption)]; exact beq_eq_false_iff_ne.mpr (by assumption))); (case h1 => ((try dsimp only); (repeat' (first | rw [if_pos rfl] | rw [if_neg (by decide)])))); (case h2 => ((try dsimp only); (repeat' (first | rw [if_pos rfl] | rw [if_neg (by decide)])))); (case h3 => ((try dsimp only); (repeat' (first | rw [if_pos rfl] | rw [if_neg (by decide)])))))
    case d2 =>
      intro h₂ tk₂ m₂ n₂ F₂ N₂ hJ2
      obtain ⟨hno, hp2, hm2, hi2, rfl⟩ := hJ2
      rw [hlen, List.take_length] at hno
      replace F₂ := fr_known [(Str.ofString "perm", .ref pl), (Str.ofString "mode", .int mode tkm), (Str.ofString "index", .int (i : Int) t)] F₂ (by simp [hp2, hm2, hi2])
      dsimp only [kstB] at F₂
      clear F3 N3 hp2 hm2 hi2 hT'
      try k_fold
      repeat' ((fail_if_success (with_reducible show InvEndN _ _ _ _ _ _ _)); (fail_if_success (with_reducible show Mine.TupFor _ _ _ _ _ _ _ _ _ _ _ _)); (first | ((with_reducible show wpAny _ _ (call (Value.builtin _) [Value.str _ _, Value.ref _]) _ _ _); k_dflt (refine join_listC (by exact News.isList (by k_asm) (.head _)) (by assumption) (by decide) (by assumption) ?_); (try intro _ _)) | ((with_reducible show wpAny _ _ (call (Value.builtin _) [Value.ref _, _]) _ _ _); k_dflt (refine append_K (by k_asm) (by k_asm) (by (refine Upd.head (by exact OwnOff.ne (by assumption) (.head _)))) ?_ (by assumption); k_whole); intro h' F' N'; (try k_sweep)) | ((with_reducible show wpAny _ _ (exec (Stmt.For (Expr.Tuple _ _ _) (Expr.Name _ _) (_ :: _) (_ :: _) _) _) _ _ _); (rename Fr _ _ _ _ => lF'); (with_unfolding_all refine For_tup (by rfl) lF' ?_; k_whole)) | ((with_reducible show wpAny _ _ (exec (Stmt.For (Expr.Tuple _ _ _) (Expr.Call _ _ _ _) (_ :: _) [] _) _) _ _ _); (rename Fr _ _ _ _ => lF'); (with_unfolding_all refine For_else lF' ?_; k_whole)) | (k_unfold; (try dsimp only)) | walk1 | (dsimp only; walk1) | (leave1; try dsimp only)))
      all_goals first
        | (rename Fr _ _ _ _ => Fz; rename News _ _ _ _ => Nz; refine InvEndN.intro (nx := [(pl, listOf (arr.push (.str _ _)) (cnt + 1))]) Fz Nz ⟨pl, _, _, ?h1, ?h2, rfl, ?h3⟩ (by simp only [List.map_cons, List.map_nil]) (by intro p hp; rw [List.mem_singleton.mp hp]; exact List.Mem.head _) (fun p hp => List.Mem.tail _ (hp)); (case h1 => ((try dsimp only); (repeat' (first | rw [if_pos rfl] | rw [if_neg (by decide)])))); (case h2 => ((try dsimp only); (repeat' (first | rw [if_pos rfl] | rw [if_neg (by decide)])))); (case h3 => (rw [fmS_succ, fmc_none hno, if_pos (by omega), Array.toList_push]; exact StrsAre.append' hs (.cons _ _ .nil))))
        | (rename Fr _ _ _ _ => Fz; rename News _ _ _ _ => Nz; refine InvEndN.intro (nx := [(pl, listOf (arr.push (.str _ _)) (cnt + 1))]) Fz Nz ⟨pl, _, _, ?h1, ?h2, rfl, ?h3⟩ (by simp only [List.map_cons, List.map_nil]) (by intro p hp; rw [List.mem_singleton.mp hp]; exact List.Mem.head _) (fun p hp => List.Mem.tail _ (hp)); (case h1 => ((try dsimp only); (repeat' (first | rw [if_pos rfl] | rw [if_neg (by decide)])))); (case h2 => ((try dsimp only); (repeat' (first | rw [if_pos rfl] | rw [if_neg (by decide)])))); (case h3 => (rw [fmS_succ, fmc_none hno, if_neg (by omega), Array.toList_push]; exact StrsAre.append' hs (.cons _ _ .nil))))
  case done =>
    intro h₂ tk₂ m₂ n₂ F₂ N₂ hJ
    obtain ⟨pl, arr, cnt, hp, hm, rfl, hs⟩ := hJ
    have hok : ((fmS mode 10).map (·.length)).sum + (fmS mode 10).length * 64 ≤ 16777216 := fmS_ok mode
    replace F₂ := fr_known [(Str.ofString "perm", .ref pl), (Str.ofString "mode", .int mode tkm)] F₂ (by simp [hp, hm])
    dsimp only [kstB] at F₂
    clear F1 N1 hp hm
    try k_fold
    repeat' ((fail_if_success (with_reducible show Back _ _ _ _ _ _)); (first | ((with_reducible show wpAny _ _ (call (Value.builtin _) [Value.str _ _, Value.ref _]) _ _ _); k_dflt (refine join_listC (by exact News.isList (by k_asm) (.head _)) (by assumption) (by decide) (by assumption) ?_); (try intro _ _)) | ((with_reducible show wpAny _ _ (call (Value.builtin _) [Value.ref _, _]) _ _ _); k_dflt (refine append_K (by k_asm) (by k_asm) (by (refine Upd.head (by exact OwnOff.ne (by assumption) (.head _)))) ?_ (by assumption); k_whole); intro h' F' N'; (try k_sweep)) | ((with_reducible show wpAny _ _ (exec (Stmt.For (Expr.Tuple _ _ _) (Expr.Name _ _) (_ :: _) (_ :: _) _) _) _ _ _); (rename Fr _ _ _ _ => lF'); (with_unfolding_all refine For_tup (by rfl) lF' ?_; k_whole)) | ((with_reducible show wpAny _ _ (exec (Stmt.For (Expr.Tuple _ _ _) (Expr.Call _ _ _ _) (_ :: _) [] _) _) _ _ _); (rename Fr _ _ _ _ => lF'); (with_unfolding_all refine For_else lF' ?_; k_whole)) | (k_unfold; (try dsimp only)) | walk1 | (dsimp only; walk1) | (leave1; try dsimp only)))
    all_goals (intro hN0; exact hret _ _ _ (by assumption) hN0)
end
end
section
open PySem PySem.W PyProof.Rows PySem.Calls PyProof.V PySem.Spec
set_option maxRecDepth 100000
set_option maxHeartbeats 8000000

def qrows : List (Int × Str) := [(4096, Str.ofString "p"), (8192, Str.ofString "c"), (16384, Str.ofString "d"), (24576, Str.ofString "b"), (32768, Str.ofString "-"), (40960, Str.ofString "l"), (49152, Str.ofString "s")]
def qaddr : List Addr := [130, 109, 102, 116, 123, 137, 144]
def kds (mode : Int) (j : Nat) : List Str := ((qrows.take j).filter (fun p => Builtin.bitAnd mode 61440 == p.1)).map (·.2)
def kindT (mode : Int) : Str := if (kds mode 7).isEmpty = true then Str.ofString "?" else Txt.join (Str.ofString "") (kds mode 7)
theorem kds_yes {mode c : Int} {sg : Str} {j : Nat} (h : qrows[j]? = some (c, sg)) (hx : Builtin.bitAnd mode 61440 = c) : kds mode (j + 1) = kds mode j ++ [sg] := by
  unfold kds; rw [List.take_add_one, h]; simp [hx]
theorem kds_no {mode c : Int} {sg : Str} {j : Nat} (h : qrows[j]? = some (c, sg)) (hx : Builtin.bitAnd mode 61440 ≠ c) : kds mode (j + 1) = kds mode j := by
  unfold kds; rw [List.take_add_one, h]; simp [hx]
theorem kds_sub (mode : Int) (j : Nat) : ∀ y ∈ kds mode j, y ∈ qrows.map (·.2) := by
  intro y hy
  unfold kds at hy
  obtain ⟨p, hp, rfl⟩ := List.mem_map.mp hy
  exact List.mem_map.mpr ⟨p, List.mem_of_mem_take (List.mem_filter.mp hp).1, rfl⟩
theorem kds_len (mode : Int) (j : Nat) : (kds mode j).length ≤ 7 := by
  unfold kds
  rw [List.length_map]
  exact Nat.le_trans (List.length_filter_le _ _) (Nat.le_trans (List.length_take_le' _ _) (by decide))
theorem qs_ok : ∀ y ∈ qrows.map (·.2), PyData.strOk y = true ∧ y.length = 1 := by decide +kernel
theorem sum_le_of {f : Str → Nat} : ∀ {l : List Str}, (∀ y ∈ l, f y = 1) → (l.map f).sum = l.length
  | [], _ => rfl
  | a :: r, h => by rw [List.map_cons, List.sum_cons, h a (.head _), sum_le_of (l := r) fun y hy => h y (.tail _ hy), List.length_cons]; omega
theorem kds_ok (mode : Int) : ((kds mode 7).map (·.length)).sum + (kds mode 7).length * 64 ≤ 16777216 := by
  rw [sum_le_of fun y hy => (qs_ok y (kds_sub mode 7 y hy)).2]
  have := kds_len mode 7
  omega
theorem kind_start {h₀ h : Heap} {L D d1 d2 d3 d4 d5 d6 d7 kl : Addr} {t1 t2 t3 t4 t5 t6 t7 : Tok} {n : Nat}
    (N : News h₀ L h [(D, tupO [.ref d1, .ref d2, .ref d3, .ref d4, .ref d5, .ref d6, .ref d7]), (d7, tupO [.ref 144, .str (Str.ofString "s") t7]), (d6, tupO [.ref 137, .str (Str.ofString "l") t6]), (d5, tupO [.ref 123, .str (Str.ofString "-") t5]), (d4, tupO [.ref 116, .str (Str.ofString "b") t4]), (d3, tupO [.ref 102, .str (Str.ofString "d") t3]), (d2, tupO [.ref 109, .str (Str.ofString "c") t2]), (d1, tupO [.ref 130, .str (Str.ofString "p") t1]), (kl, listOf #[] n)]) :
    ∃ (its : List Value) (rest : List (Addr × Obj)), h.get? D = some (tupO its) ∧ D ≠ L ∧ News h₀ L h ((kl, listOf #[] n) :: rest) ∧ (∀ p ∈ (kl, listOf #[] n) :: rest, p.1 ≠ D) ∧ (∀ p ∈ rest, p.1 ≠ kl) ∧ its.length = 7 ∧
      ∀ (j : Nat) (v : Value), its[j]? = some v → ∃ (a f : Addr) (c : Int) (sg : Str) (tq : Tok), v = .ref a ∧ (a, tupO [.ref f, .str sg tq]) ∈ rest ∧ qaddr[j]? = some f ∧ qrows[j]? = some (c, sg) := by
  have nd : ∀ {a b : Addr} {o o' : Obj}, h.get? a = some o → h.get? b = some o' → o ≠ o' → a ≠ b := fun h1 h2 hne e => hne (by rw [e] at h1; exact Option.some.inj (h1.symm.trans h2))
  have g := fun p hp => (N p hp).1
  have hD := N (D, tupO [.ref d1, .ref d2, .ref d3, .ref d4, .ref d5, .ref d6, .ref d7]) (by simp)
  have hk := N (kl, listOf #[] n) (by simp)
  refine ⟨[.ref d1, .ref d2, .ref d3, .ref d4, .ref d5, .ref d6, .ref d7], [(d7, tupO [.ref 144, .str (Str.ofString "s") t7]), (d6, tupO [.ref 137, .str (Str.ofString "l") t6]), (d5, tupO [.ref 123, .str (Str.ofString "-") t5]), (d4, tupO [.ref 116, .str (Str.ofString "b") t4]), (d3, tupO [.ref 102, .str (Str.ofString "d") t3]), (d2, tupO [.ref 109, .str (Str.ofString "c") t2]), (d1, tupO [.ref 130, .str (Str.ofString "p") t1])], hD.1, hD.2.1, ?_, ?_, ?_, rfl, ?_⟩
  · intro p hp
    rcases List.mem_cons.mp hp with h | h
    · rw [h]; exact hk
    · exact N p (List.mem_cons_of_mem _ (by rw [List.mem_cons, List.mem_cons, List.mem_cons, List.mem_cons, List.mem_cons, List.mem_cons, List.mem_cons, List.mem_singleton]; simp only [List.mem_cons, List.not_mem_nil, or_false] at h; rcases h with h | h | h | h | h | h | h <;> simp [h]))
  · intro p hp
    refine nd (N p ?_).1 hD.1 ?_
    · rcases List.mem_cons.mp hp with h | h
      · rw [h]; simp
      · simp only [List.mem_cons, List.not_mem_nil, or_false] at h; rcases h with h | h | h | h | h | h | h <;> simp [h]
    · rcases List.mem_cons.mp hp with h | h
      · rw [h]; intro e; injection e with e1; injection e1 with e2; exact absurd e2 (by decide)
      · simp only [List.mem_cons, List.not_mem_nil, or_false] at h; rcases h with h | h | h | h | h | h | h <;> (rw [h]; intro e; injection e with _ _ e3 _; injection e3 with e4 _; injection e4 with e5; injection e5 with _ e6; injection e6 with e7 _; cases e7)
  · intro p hp
    refine nd (N p ?_).1 hk.1 ?_
    · simp only [List.mem_cons, List.not_mem_nil, or_false] at hp; rcases hp with h | h | h | h | h | h | h <;> simp [h]
    · simp only [List.mem_cons, List.not_mem_nil, or_false] at hp; rcases hp with h | h | h | h | h | h | h <;> (rw [h]; intro e; injection e with e1; injection e1 with e2; exact absurd e2 (by decide))
  · intro j v hj
    match j, hj with
    | 0, hj => cases hj; exact ⟨d1, 130, 4096, Str.ofString "p", t1, rfl, by simp, rfl, rfl⟩
    | 1, hj => cases hj; exact ⟨d2, 109, 8192, Str.ofString "c", t2, rfl, by simp, rfl, rfl⟩
    | 2, hj => cases hj; exact ⟨d3, 102, 16384, Str.ofString "d", t3, rfl, by simp, rfl, rfl⟩
    | 3, hj => cases hj; exact ⟨d4, 116, 24576, Str.ofString "b", t4, rfl, by simp, rfl, rfl⟩
    | 4, hj => cases hj; exact ⟨d5, 123, 32768, Str.ofString "-", t5, rfl, by simp, rfl, rfl⟩
    | 5, hj => cases hj; exact ⟨d6, 137, 40960, Str.ofString "l", t6, rfl, by simp, rfl, rfl⟩
    | 6, hj => cases hj; exact ⟨d7, 144, 49152, Str.ofString "s", t7, rfl, by simp, rfl, rfl⟩
    | n + 7, hj => simp at hj
section
variable {prog : Program} {w : World} {A : Around} {E : Value → Shared → Prop} {s : Shared} {Q : Value → Shared → Prop} {a b : Addr} {n n' : Nat}
theorem strs_all {ys : List Str} (hok : ∀ y ∈ ys, PyData.strOk y = true) : PyData.canLayAll0 (ys.map PyData.str) = true ∧ PyData.depthAll (ys.map PyData.str) = 0 := by
  induction ys with
  | nil => exact ⟨by simp [PyData.canLayAll0], by simp [PyData.depthAll]⟩
  | cons y r ih =>
    obtain ⟨i1, i2⟩ := ih fun z hz => hok z (.tail _ hz)
    exact ⟨by simp [PyData.canLayAll0, PyData.canLay0, hok y (.head _), i1], by simp [PyData.depthAll, PyData.depth, i2]⟩
theorem strs_reads {h : Heap} : ∀ {vs : List Value} {ys : List Str}, StrsAre vs ys → ReadsAll h vs (ys.map PyData.str) []
  | _, _, .nil => ReadsAll.nil
  | _, _, .cons y t r => ReadsAll.cons (Reads.str _ _) (strs_reads r)
theorem eq_strs_nil {arr : Array Value} {ys : List Str} (ha : s.heap.get? a = some (listOf arr n)) (hi : StrsAre arr.toList ys) (hb : s.heap.get? b = some (listOf #[] n')) (hok : ∀ y ∈ ys, PyData.strOk y = true) (hu : A.units + 64 < cLine) (h : Q (.bool ys.isEmpty) s) :
    wpAny (model prog w) A (compareOp .Eq (.ref a) (.ref b)) Q E s := by
  refine eq_dataH (reads_list_at ha rfl rfl (strs_reads hi)) (reads_list_at hb rfl rfl ReadsAll.nil) ?_ (by decide) hu ?_
  · obtain ⟨i1, i2⟩ := strs_all hok
    simp [SeqAt.shaped, PyData.canLay0, PyData.depth, i1, i2]
  · cases ys with
    | nil => exact h
    | cons y r => exact h
end
section
variable {w : World} {mg mb : Str → Option Value} {loose : List Str} {mean : ExcName → Option Value}

theorem kind_gives (mode : Int) (tkm : Tok) : Gives w loose mean mg mb 8 200 247 [.int mode tkm] (fun t => .str (kindT mode) t) := by
  w_top off
  unfold Gives
  k_fill
  intro dp un gd cn cs a ccd cl outer A₀ base h₀ L m news s Q E B F X N T hk hd hu hret
  refine wpAny_call ?_
  (k_dflt (refine' code_frozen ?k1 ?k2 ?k3 ?k4 ?k5 ?kA ?kF ?kK ?k6 ?k7 ?k8 ?k9 ?kB ?_ ?c2 ?c3 ?c4 ?c5; (case kA => exact rfl); (case kF => exact rfl); (case kK => assumption); (case k1 => k_asm); (case k2 => k_asm); (case k3 => k_asm); (case k4 => k_asm); (case k5 => k_asm); (case k6 => k_is); (case k7 => k_is); (case k8 => ktr_room); (case k9 => first | exact BindsTo.of_eq rfl | exact binds_K (by k_in) rfl (by k_is) rfl rfl rfl); (case c5 => decide); (case kB => exact locs rfl); (case c2 => exact rfl); (case c3 => exact rfl); (case c4 => exact rfl); k_whole; intro g' L' h' FG' F' N' B' X' T'; (try dsimp only); (try k_lift B'); (try k_fold)))
  have hret' : ∀ (x : Str) t h' tk', x = kindT mode → Fr h₀ L h' m → News h₀ L h' news → Q (.str x t) { s with heap := h', toks := tk' } := by
    intro x t h' tk' e F N
    subst e
    exact hret t h' tk' F N
  replace F' := fr_known [(Str.ofString "mode", Value.int mode tkm)] F' (by intro p hp; rw [List.mem_singleton.mp hp]; rfl)
  dsimp only [kstB] at F'
  repeat' ((fail_if_success (with_reducible show Mine.TupFor _ _ _ _ _ _ _ _ _ _ _ _)); (first | ((with_reducible show wpAny _ _ (call (Value.builtin _) [Value.str _ _, Value.ref _]) _ _ _); k_dflt (refine join_listC (by first | exact News.isList (by k_asm) (.tail _ (.head _)) | exact News.isList (by k_asm) (.head _)) (by assumption) (by decide) (by assumption) ?_); (try intro _ _)) | ((with_reducible show wpAny _ _ (compareOp CmpOp.Eq (Value.ref _) (Value.ref _)) _ _ _); k_dflt (refine eq_strs_nil (by exact News.get (by k_asm) (.tail _ (.head _))) (by assumption) (by exact News.get (by k_asm) (.head _)) (by assumption) (by ktr_units) ?_)) | ((with_reducible show wpAny _ _ (call (Value.builtin _) [Value.ref _, _]) _ _ _); k_dflt (refine append_K (by k_asm) (by k_asm) (by (refine Upd.head (by exact OwnOff.ne (by assumption) (.head _)))) ?_ (by assumption); k_whole); intro h' F' N'; (try k_sweep)) | ((with_reducible show wpAny _ _ (exec (Stmt.For (Expr.Tuple _ _ _) (Expr.Call _ _ _ _) (_ :: _) [] _) _) _ _ _); (rename Fr _ _ _ _ => lF'); (with_unfolding_all refine For_tup (by rfl) lF' ?_; k_whole)) | (k_unfold; (try dsimp only)) | walk1 | (dsimp only; walk1) | (leave1; try dsimp only)))
  rename Fr _ _ _ _ => F1
  rename News _ _ _ _ => N1
  obtain ⟨its, rest, hD, hDL, N2, hsep, hkl, hlen, hrow⟩ := kind_start N1
  refine ⟨_, tupO its, its, 0, _, _, (fun j m₁ n₁ => ∃ kl arr cnt, m₁ (Str.ofString "kinds") = some (.ref kl) ∧ m₁ (Str.ofString "mode") = some (.int mode tkm) ∧ n₁ = (kl, listOf arr cnt) :: rest ∧ StrsAre arr.toList (kds mode j)), rfl, rfl, rfl, hD, hDL, hsep, F1, N2, ⟨_, #[], 0, (by ((try dsimp only); (repeat' (first | rw [if_pos rfl] | rw [if_neg (by decide)])))), (by ((try dsimp only); (repeat' (first | rw [if_pos rfl] | rw [if_neg (by decide)])))), rfl, StrsAre.nil⟩, ?turn, ?done⟩
  case turn =>
    intro i v m₁ n₁ h₁ tk₁ own hv hJ hadr hoff F₁ N₁
    obtain ⟨kl, arr, cnt, hp, hm, rfl, hs⟩ := hJ
    obtain ⟨a, f, c, sg, tq, rfl, ha, hf, hq⟩ := hrow i v hv
    simp only [List.map_cons, List.cons.injEq, and_true] at hadr
    subst hadr
    have hsz : arr.size ≤ sizeLine := by
      have h1 := hs.len_eq
      have h2 := kds_len mode i
      rw [sizeLine_eq]; simp at h1; omega
    replace F₁ := fr_known [(Str.ofString "kinds", .ref kl), (Str.ofString "mode", .int mode tkm)] F₁ (by simp [hp, hm])
    dsimp only [kstB] at F₁
    simp only [List.cons_append] at N₁
    have hoff3 : OwnOff (rest ++ own) [kl] := by
      intro p hp q hq
      rw [List.mem_singleton.mp hq]
      rcases List.mem_append.mp hp with h | h
      · exact hkl p h
      · exact hoff p h kl (.head _)
    have hT' : IsTup h₁ a #[.ref f, .str sg tq] := ⟨_, (N₁ _ (.tail _ (List.mem_append_left _ ha))).1, rfl, _, rfl⟩
    have hin1 : ∀ p ∈ rest, p ∈ rest ++ own := fun p hp => List.mem_append_left _ hp
    have hin2 : ∀ p ∈ own, p ∈ rest ++ own := fun p hp => List.mem_append_right _ hp
    generalize rest ++ own = own3 at N₁ hoff3 hin1 hin2
    clear F1 N1 N2 hD hDL hsep hp hm
    have hi7 : i < 7 := by
      rcases Nat.lt_or_ge i 7 with h | h
      · exact h
      · rw [List.getElem?_eq_none (by rw [hlen]; exact h)] at hv; cases hv
    clear hv
    try k_fold
    match i, hi7, hf, hq, hs with
    | 0, _, hf, hq, hs =>
      cases hf
      cases hq
      repeat' ((fail_if_success (with_reducible show InvEndN _ _ _ _ _ _ _)); (first | ((with_reducible show wpAny _ _ (call (Value.builtin _) [Value.str _ _, Value.ref _]) _ _ _); k_dflt (refine join_listC (by first | exact News.isList (by k_asm) (.tail _ (.head _)) | exact News.isList (by k_asm) (.head _)) (by assumption) (by decide) (by assumption) ?_); (try intro _ _)) | ((with_reducible show wpAny _ _ (compareOp CmpOp.Eq (Value.ref _) (Value.ref _)) _ _ _); k_dflt (refine eq_strs_nil (by exact News.get (by k_asm) (.tail _ (.head _))) (by assumption) (by exact News.get (by k_asm) (.head _)) (by assumption) (by ktr_units) ?_)) | ((with_reducible show wpAny _ _ (call (Value.builtin _) [Value.ref _, _]) _ _ _); k_dflt (refine append_K (by k_asm) (by k_asm) (by (refine Upd.head (by exact OwnOff.ne (by assumption) (.head _)))) ?_ (by assumption); k_whole); intro h' F' N'; (try k_sweep)) | ((with_reducible show wpAny _ _ (exec (Stmt.For (Expr.Tuple _ _ _) (Expr.Call _ _ _ _) (_ :: _) [] _) _) _ _ _); (rename Fr _ _ _ _ => lF'); (with_unfolding_all refine For_tup (by rfl) lF' ?_; k_whole)) | (k_unfold; (try dsimp only)) | walk1 | (dsimp only; walk1) | (leave1; try dsimp only)))
      all_goals first
        | (rename Fr _ _ _ _ => Fz; rename News _ _ _ _ => Nz; refine InvEndN.intro (nx := (kl, listOf (arr.push (.str _ _)) (cnt + 1)) :: rest) Fz Nz ⟨kl, _, _, ?h1, ?h2, rfl, ?h3⟩ (by simp only [List.map_cons]) (by intro p hp; rcases List.mem_cons.mp hp with h | h; (rw [h]; exact List.Mem.head _); (exact List.Mem.tail _ (hin1 p h))) (fun p hp => List.Mem.tail _ (hin2 p hp)); (case h1 => ((try dsimp only); (repeat' (first | rw [if_pos rfl] | rw [if_neg (by decide)])))); (case h2 => ((try dsimp only); (repeat' (first | rw [if_pos rfl] | rw [if_neg (by decide)])))); (case h3 => (rw [kds_yes (by rfl) (by assumption), Array.toList_push]; exact StrsAre.append' hs (.cons _ _ .nil))))
        | (rename Fr _ _ _ _ => Fz; rename News _ _ _ _ => Nz; refine InvEndN.intro (nx := (kl, listOf arr cnt) :: rest) Fz Nz ⟨kl, _, _, ?h1, ?h2, rfl, ?h3⟩ (by simp only [List.map_cons]) (by intro p hp; rcases List.mem_cons.mp hp with h | h; (rw [h]; exact List.Mem.head _); (exact List.Mem.tail _ (hin1 p h))) (fun p hp => List.Mem.tail _ (hin2 p hp)); (case h1 => ((try dsimp only); (repeat' (first | rw [if_pos rfl] | rw [if_neg (by decide)])))); (case h2 => ((try dsimp only); (repeat' (first | rw [if_pos rfl] | rw [if_neg (by decide)])))); (case h3 => (rw [kds_no (by rfl) (by assumption)]; exact hs)))
    | 1, _, hf, hq, hs =>
      cases hf
      cases hq
      repeat' ((fail_if_success (with_reducible show InvEndN _ _ _ _ _ _ _)); (first | ((with_reducible show wpAny _ _ (call (Value.builtin _) [Value.str _ _, Value.ref _]) _ _ _); k_dflt (refine join_listC (by first | exact News.isList (by k_asm) (.tail _ (.head _)) | exact News.isList (by k_asm) (.head _)) (by assumption) (by decide) (by assumption) ?_); (try intro _ _)) | ((with_reducible show wpAny _ _ (compareOp CmpOp.Eq (Value.ref _) (Value.ref _)) _ _ _); k_dflt (refine eq_strs_nil (by exact News.get (by k_asm) (.tail _ (.head _))) (by assumption) (by exact News.get (by k_asm) (.head _)) (by assumption) (by ktr_units) ?_)) | ((with_reducible show wpAny _ _ (call (Value.builtin _) [Value.ref _, _]) _ _ _); k_dflt (refine append_K (by k_asm) (by k_asm) (by (refine Upd.head (by exact OwnOff.ne (by assumption) (.head _)))) ?_ (by assumption); k_whole); intro h' F' N'; (try k_sweep)) | ((with_reducible show wpAny _ _ (exec (Stmt.For (Expr.Tuple _ _ _) (Expr.Call _ _ _ _) (_ :: _) [] _) _) _ _ _); (rename Fr _ _ _ _ => lF'); (with_unfolding_all refine For_tup (by rfl) lF' ?_; k_whole)) | (k_unfold; (try dsimp only)) | walk1 | (dsimp only; walk1) | (leave1; try dsimp only)))
      all_goals first
        | (rename Fr _ _ _ _ => Fz; rename News _ _ _ _ => Nz; refine InvEndN.intro (nx := (kl, listOf (arr.push (.str _ _)) (cnt + 1)) :: rest) Fz Nz ⟨kl, _, _, ?h1, ?h2, rfl, ?h3⟩ (by simp only [List.map_cons]) (by intro p hp; rcases List.mem_cons.mp hp with h | h; (rw [h]; exact List.Mem.head _); (exact List.Mem.tail _ (hin1 p h))) (fun p hp => List.Mem.tail _ (hin2 p hp)); (case h1 => ((try dsimp only); (repeat' (first | rw [if_pos rfl] | rw [if_neg (by decide)])))); (case h2 => ((try dsimp only); (repeat' (first | rw [if_pos rfl] | rw [if_neg (by decide)])))); (case h3 => (rw [kds_yes (by rfl) (by assumption), Array.toList_push]; exact StrsAre.append' hs (.cons _ _ .nil))))
        | (rename Fr _ _ _ _ => Fz; rename News _ _ _ _ => Nz; refine InvEndN.intro (nx := (kl, listOf arr cnt) :: rest) Fz Nz ⟨kl, _, _, ?h1, ?h2, rfl, ?h3⟩ (by simp only [List.map_cons]) (by intro p hp; rcases List.mem_cons.mp hp with h | h; (rw [h]; exact List.Mem.head _); (exact List.Mem.tail _ (hin1 p h))) (fun p hp => List.Mem.tail _ (hin2 p hp)); (case h1 => ((try dsimp only); (repeat' (first | rw [if_pos rfl] | rw [if_neg (by decide)])))); (case h2 => ((try dsimp only); (repeat' (first | rw [if_pos rfl] | rw [if_neg (by decide)])))); (case h3 => (rw [kds_no (by rfl) (by assumption)]; exact hs)))
    | 2, _, hf, hq, hs =>
      cases hf
      cases hq
      repeat' ((fail_if_success (with_reducible show InvEndN _ _ _ _ _ _ _)); (first | ((with_reducible show wpAny _ _ (call (Value.builtin _) [Value.str _ _, Value.ref _]) _ _ _); k_dflt (refine join_listC (by first | exact News.isList (by k_asm) (.tail _ (.head _)) | exact News.isList (by k_asm) (.head _)) (by assumption) (by decide) (by assumption) ?_); (try intro _ _)) | ((with_reducible show wpAny _ _ (compareOp CmpOp.Eq (Value.ref _) (Value.ref _)) _ _ _); k_dflt (refine eq_strs_nil (by exact News.get (by k_asm) (.tail _ (.head _))) (by assumption) (by exact News.get (by k_asm) (.head _)) (by assumption) (by ktr_units) ?_)) | ((with_reducible show wpAny _ _ (call (Value.builtin _) [Value.ref _, _]) _ _ _); k_dflt (refine append_K (by k_asm) (by k_asm) (by (refine Upd.head (by exact OwnOff.ne (by assumption) (.head _)))) ?_ (by assumption); k_whole); intro h' F' N'; (try k_sweep)) | ((with_reducible show wpAny _ _ (exec (Stmt.For (Expr.Tuple _ _ _) (Expr.Call _ _ _ _) (_ :: _) [] _) _) _ _ _); (rename Fr _ _ _ _ => lF'); (with_unfolding_all refine For_tup (by rfl) lF' ?_; k_whole)) | (k_unfold; (try dsimp only)) | walk1 | (dsimp only; walk1) | (leave1; try dsimp only)))
      all_goals first
        | (rename Fr _ _ _ _ => Fz; rename News _ _ _ _ => Nz; refine InvEndN.intro (nx := (kl, listOf (arr.push (.str _ _)) (cnt + 1)) :: rest) Fz Nz ⟨kl, _, _, ?h1, ?h2, rfl, ?h3⟩ (by simp only [List.map_cons]) (by intro p hp; rcases List.mem_cons.mp hp with h | h; (rw [h]; exact List.Mem.head _); (exact List.Mem.tail _ (hin1 p h))) (fun p hp => List.Mem.tail _ (hin2 p hp)); (case h1 => ((try dsimp only); (repeat' (first | rw [if_pos rfl] | rw [if_neg (by decide)])))); (case h2 => ((try dsimp only); (repeat' (first | rw [if_pos rfl] | rw [if_neg (by decide)])))); (case h3 => (rw [kds_yes (by rfl) (by assumption), Array.toList_push]; exact StrsAre.append' hs (.cons _ _ .nil))))
        | (rename Fr _ _ _ _ => Fz; rename News _ _ _ _ => Nz; refine InvEndN.intro (nx := (kl, listOf arr cnt) :: rest) Fz Nz ⟨kl, _, _, ?h1, ?h2, rfl, ?h3⟩ (by simp only [List.map_cons]) (by intro p hp; rcases List.mem_cons.mp hp with h | h; (rw [h]; exact List.Mem.head _); (exact List.Mem.tail _ (hin1 p h))) (fun p hp => List.Mem.tail _ (hin2 p hp)); (case h1 => ((try dsimp only); (repeat' (first | rw [if_pos rfl] | rw [if_neg (by decide)])))); (case h2 => ((try dsimp only); (repeat' (first | rw [if_pos rfl] | rw [if_neg (by decide)])))); (case h3 => (rw [kds_no (by rfl) (by assumption)]; exact hs)))
    | 3, _, hf, hq, hs =>
      cases hf
      cases hq
      repeat' ((fail_if_success (with_reducible show InvEndN _ _ _ _ _ _ _)); (first | ((with_reducible show wpAny _ _ (call (Value.builtin _) [Value.str _ _, Value.ref _]) _ _ _); k_dflt (refine join_listC (by first | exact News.isList (by k_asm) (.tail _ (.head _)) | exact News.isList (by k_asm) (.head _)) (by assumption) (by decide) (by assumption) ?_); (try intro _ _)) | ((with_reducible show wpAny _ _ (compareOp CmpOp.Eq (Value.ref _) (Value.ref _)) _ _ _); k_dflt (refine eq_strs_nil (by exact News.get (by k_asm) (.tail _ (.head _))) (by assumption) (by exact News.get (by k_asm) (.head _)) (by assumption) (by ktr_units) ?_)) | ((with_reducible show wpAny _ _ (call (Value.builtin _) [Value.ref _, _]) _ _ _); k_dflt (refine append_K (by k_asm) (by k_asm) (by (refine Upd.head (by exact OwnOff.ne (by assumption) (.head _)))) ?_ (by assumption); k_whole); intro h' F' N'; (try k_sweep)) | ((with_reducible show wpAny _ _ (exec (Stmt.For (Expr.Tuple _ _ _) (Expr.Call _ _ _ _) (_ :: _) [] _) _) _ _ _); (rename Fr _ _ _ _ => lF'); (with_unfolding_all refine For_tup (by rfl) lF' ?_; k_whole)) | (k_unfold; (try dsimp only)) | walk1 | (dsimp only; walk1) | (leave1; try dsimp only)))
      all_goals first
        | (rename Fr _ _ _ _ => Fz; rename News _ _ _ _ => Nz; refine InvEndN.intro (nx := (kl, listOf (arr.push (.str _ _)) (cnt + 1)) :: rest) Fz Nz ⟨kl, _, _, ?h1, ?h2, rfl, ?h3⟩ (by simp only [List.map_cons]) (by intro p hp; rcases List.mem_cons.mp hp with h | h; (rw [h]; exact List.Mem.head _); (exact List.Mem.tail _ (hin1 p h))) (fun p hp => List.Mem.tail _ (hin2 p hp)); (case h1 => ((try dsimp only); (repeat' (first | rw [if_pos rfl] | rw [if_neg (by decide)])))); (case h2 => ((try dsimp only); (repeat' (first | rw [if_pos rfl] | rw [if_neg (by decide)])))); (case h3 => (rw [kds_yes (by rfl) (by assumption), Array.toList_push]; exact StrsAre.append' hs (.cons _ _ .nil))))
        | (rename Fr _ _ _ _ => Fz; rename News _ _ _ _ => Nz; refine InvEndN.intro (nx := (kl, listOf arr cnt) :: rest) Fz Nz ⟨kl, _, _, ?h1, ?h2, rfl, ?h3⟩ (by simp only [List.map_cons]) (by intro p hp; rcases List.mem_cons.mp hp with h | h; (rw [h]; exact List.Mem.head _); (exact List.Mem.tail _ (hin1 p h))) (fun p hp => List.Mem.tail _ (hin2 p hp)); (case h1 => ((try dsimp only); (repeat' (first | rw [if_pos rfl] | rw [if_neg (by decide)])))); (case h2 => ((try dsimp only); (repeat' (first | rw [if_pos rfl] | rw [if_neg (by decide)])))); (case h3 => (rw [kds_no (by rfl) (by assumption)]; exact hs)))
    | 4, _, hf, hq, hs =>
      cases hf
      cases hq
      repeat' ((fail_if_success (with_reducible show InvEndN _ _ _ _ _ _ _)); (first | ((with_reducible show wpAny _ _ (call (Value.builtin _) [Value.str _ _, Value.ref _]) _ _ _); k_dflt (refine join_listC (by first | exact News.isList (by k_asm) (.tail _ (.head _)) | exact News.isList (by k_asm) (.head _)) (by assumption) (by decide) (by assumption) ?_); (try intro _ _)) | ((with_reducible show wpAny _ _ (compareOp CmpOp.Eq (Value.ref _) (Value.ref _)) _ _ _); k_dflt (refine eq_strs_nil (by exact News.get (by k_asm) (.tail _ (.head _))) (by assumption) (by exact News.get (by k_asm) (.head _)) (by assumption) (by ktr_units) ?_)) | ((with_reducible show wpAny _ _ (call (Value.builtin _) [Value.ref _, _]) _ _ _); k_dflt (refine append_K (by k_asm) (by k_asm) (by (refine Upd.head (by exact OwnOff.ne (by assumption) (.head _)))) ?_ (by assumption); k_whole); intro h' F' N'; (try k_sweep)) | ((with_reducible show wpAny _ _ (exec (Stmt.For (Expr.Tuple _ _ _) (Expr.Call _ _ _ _) (_ :: _) [] _) _) _ _ _); (rename Fr _ _ _ _ => lF'); (with_unfolding_all refine For_tup (by rfl) lF' ?_; k_whole)) | (k_unfold; (try dsimp only)) | walk1 | (dsimp only; walk1) | (leave1; try dsimp only)))
      all_goals first
        | (rename Fr _ _ _ _ => Fz; rename News _ _ _ _ => Nz; refine InvEndN.intro (nx := (kl, listOf (arr.push (.str _ _)) (cnt + 1)) :: rest) Fz Nz ⟨kl, _, _, ?h1, ?h2, rfl, ?h3⟩ (by simp only [List.map_cons]) (by intro p hp; rcases List.mem_cons.mp hp with h | h; (rw [h]; exact List.Mem.head _); (exact List.Mem.tail _ (hin1 p h))) (fun p hp => List.Mem.tail _ (hin2 p hp)); (case h1 => ((try dsimp only); (repeat' (first | rw [if_pos rfl] | rw [if_neg (by decide)])))); (case h2 => ((try dsimp only); (repeat' (first | rw [if_pos rfl] | rw [if_neg (by decide)])))); (case h3 => (rw [kds_yes (by rfl) (by assumption), Array.toList_push]; exact StrsAre.append' hs (.cons _ _ .nil))))
        | (rename Fr _ _ _ _ => Fz; rename News _ _ _ _ => Nz; refine InvEndN.intro (nx := (kl, listOf arr cnt) :: rest) Fz Nz ⟨kl, _, _, ?h1, ?h2, rfl, ?h3⟩ (by simp only [List.map_cons]) (by intro p hp; rcases List.mem_cons.mp hp with h | h; (rw [h]; exact List.Mem.head _); (exact List.Mem.tail _ (hin1 p h))) (fun p hp => List.Mem.tail _ (hin2 p hp)); (case h1 => ((try dsimp only); (repeat' (first | rw [if_pos rfl] | rw [if_neg (by decide)])))); (case h2 => ((try dsimp only); (repeat' (first | rw [if_pos rfl] | rw [if_neg (by decide)])))); (case h3 => (rw [kds_no (by rfl) (by assumption)]; exact hs)))
    | 5, _, hf, hq, hs =>
      cases hf
      cases hq
      repeat' ((fail_if_success (with_reducible show InvEndN _ _ _ _ _ _ _)); (first | ((with_reducible show wpAny _ _ (call (Value.builtin _) [Value.str _ _, Value.ref _]) _ _ _); k_dflt (refine join_listC (by first | exact News.isList (by k_asm) (.tail _ (.head _)) | exact News.isList (by k_asm) (.head _)) (by assumption) (by decide) (by assumption) ?_); (try intro _ _)) | ((with_reducible show wpAny _ _ (compareOp CmpOp.Eq (Value.ref _) (Value.ref _)) _ _ _); k_dflt (refine eq_strs_nil (by exact News.get (by k_asm) (.tail _ (.head _))) (by assumption) (by exact News.get (by k_asm) (.head _)) (by assumption) (by ktr_units) ?_)) | ((with_reducible show wpAny _ _ (call (Value.builtin _) [Value.ref _, _]) _ _ _); k_dflt (refine append_K (by k_asm) (by k_asm) (by (refine Upd.head (by exact OwnOff.ne (by assumption) (.head _)))) ?_ (by assumption); k_whole); intro h' F' N'; (try k_sweep)) | ((with_reducible show wpAny _ _ (exec (Stmt.For (Expr.Tuple _ _ _) (Expr.Call _ _ _ _) (_ :: _) [] _) _) _ _ _); (rename Fr _ _ _ _ => lF'); (with_unfolding_all refine For_tup (by rfl) lF' ?_; k_whole)) | (k_unfold; (try dsimp only)) | walk1 | (dsimp only; walk1) | (leave1; try dsimp only)))
      all_goals first
        | (rename Fr _ _ _ _ => Fz; rename News _ _ _ _ => Nz; refine InvEndN.intro (nx := (kl, listOf (arr.push (.str _ _)) (cnt + 1)) :: rest) Fz Nz ⟨kl, _, _, ?h1, ?h2, rfl, ?h3⟩ (by simp only [List.map_cons]) (by intro p hp; rcases List.mem_cons.mp hp with h | h; (rw [h]; exact List.Mem.head _); (exact List.Mem.tail _ (hin1 p h))) (fun p hp => List.Mem.tail _ (hin2 p hp)); (case h1 => ((try dsimp only); (repeat' (first | rw [if_pos rfl] | rw [if_neg (by decide)])))); (case h2 => ((try dsimp only); (repeat' (first | rw [if_pos rfl] | rw [if_neg (by decide)])))); (case h3 => (rw [kds_yes (by rfl) (by assumption), Array.toList_push]; exact StrsAre.append' hs (.cons _ _ .nil))))
        | (rename Fr _ _ _ _ => Fz; rename News _ _ _ _ => Nz; refine InvEndN.intro (nx := (kl, listOf arr cnt) :: rest) Fz Nz ⟨kl, _, _, ?h1, ?h2, rfl, ?h3⟩ (by simp only [List.map_cons]) (by intro p hp; rcases List.mem_cons.mp hp with h | h; (rw [h]; exact List.Mem.head _); (exact List.Mem.tail _ (hin1 p h))) (fun p hp => List.Mem.tail _ (hin2 p hp)); (case h1 => ((try dsimp only); (repeat' (first | rw [if_pos rfl] | rw [if_neg (by decide)])))); (case h2 => ((try dsimp only); (repeat' (first | rw [if_pos rfl] | rw [if_neg (by decide)])))); (case h3 => (rw [kds_no (by rfl) (by assumption)]; exact hs)))
    | 6, _, hf, hq, hs =>
      cases hf
      cases hq
      repeat' ((fail_if_success (with_reducible show InvEndN _ _ _ _ _ _ _)); (first | ((with_reducible show wpAny _ _ (call (Value.builtin _) [Value.str _ _, Value.ref _]) _ _ _); k_dflt (refine join_listC (by first | exact News.isList (by k_asm) (.tail _ (.head _)) | exact News.isList (by k_asm) (.head _)) (by assumption) (by decide) (by assumption) ?_); (try intro _ _)) | ((with_reducible show wpAny _ _ (compareOp CmpOp.Eq (Value.ref _) (Value.ref _)) _ _ _); k_dflt (refine eq_strs_nil (by exact News.get (by k_asm) (.tail _ (.head _))) (by assumption) (by exact News.get (by k_asm) (.head _)) (by assumption) (by ktr_units) ?_)) | ((with_reducible show wpAny _ _ (call (Value.builtin _) [Value.ref _, _]) _ _ _); k_dflt (refine append_K (by k_asm) (by k_asm) (by (refine Upd.head (by exact OwnOff.ne (by assumption) (.head _)))) ?_ (by assumption); k_whole); intro h' F' N'; (try k_sweep)) | ((with_reducible show wpAny _ _ (exec (Stmt.For (Expr.Tuple _ _ _) (Expr.Call _ _ _ _) (_ :: _) [] _) _) _ _ _); (rename Fr _ _ _ _ => lF'); (with_unfolding_all refine For_tup (by rfl) lF' ?_; k_whole)) | (k_unfold; (try dsimp only)) | walk1 | (dsimp only; walk1) | (leave1; try dsimp only)))
      all_goals first
        | (rename Fr _ _ _ _ => Fz; rename News _ _ _ _ => Nz; refine InvEndN.intro (nx := (kl, listOf (arr.push (.str _ _)) (cnt + 1)) :: rest) Fz Nz ⟨kl, _, _, ?h1, ?h2, rfl, ?h3⟩ (by simp only [List.map_cons]) (by intro p hp; rcases List.mem_cons.mp hp with h | h; (rw [h]; exact List.Mem.head _); (exact List.Mem.tail _ (hin1 p h))) (fun p hp => List.Mem.tail _ (hin2 p hp)); (case h1 => ((try dsimp only); (repeat' (first | rw [if_pos rfl] | rw [if_neg (by decide)])))); (case h2 => ((try dsimp only); (repeat' (first | rw [if_pos rfl] | rw [if_neg (by decide)])))); (case h3 => (rw [kds_yes (by rfl) (by assumption), Array.toList_push]; exact StrsAre.append' hs (.cons _ _ .nil))))
        | (rename Fr _ _ _ _ => Fz; rename News _ _ _ _ => Nz; refine InvEndN.intro (nx := (kl, listOf arr cnt) :: rest) Fz Nz ⟨kl, _, _, ?h1, ?h2, rfl, ?h3⟩ (by simp only [List.map_cons]) (by intro p hp; rcases List.mem_cons.mp hp with h | h; (rw [h]; exact List.Mem.head _); (exact List.Mem.tail _ (hin1 p h))) (fun p hp => List.Mem.tail _ (hin2 p hp)); (case h1 => ((try dsimp only); (repeat' (first | rw [if_pos rfl] | rw [if_neg (by decide)])))); (case h2 => ((try dsimp only); (repeat' (first | rw [if_pos rfl] | rw [if_neg (by decide)])))); (case h3 => (rw [kds_no (by rfl) (by assumption)]; exact hs)))
    | n + 7, h, _, _, _ => exact absurd h (by omega)
  case done =>
    intro h₂ tk₂ m₂ n₂ F₂ N₂ hJ
    obtain ⟨kl, arr, cnt, hp, hm, rfl, hs⟩ := hJ
    rw [hlen] at hs
    have hok := kds_ok mode
    have hsk : ∀ y ∈ kds mode 7, PyData.strOk y = true := fun y hy => (qs_ok y (kds_sub mode 7 y hy)).1
    replace F₂ := fr_known [(Str.ofString "kinds", .ref kl), (Str.ofString "mode", .int mode tkm)] F₂ (by simp [hp, hm])
    dsimp only [kstB] at F₂
    clear F1 N1 N2 hD hDL hsep hp hm
    try k_fold
    repeat' ((fail_if_success (with_reducible show Back _ _ _ _ _ _)); (first | ((with_reducible show wpAny _ _ (call (Value.builtin _) [Value.str _ _, Value.ref _]) _ _ _); k_dflt (refine join_listC (by first | exact News.isList (by k_asm) (.tail _ (.head _)) | exact News.isList (by k_asm) (.head _)) (by assumption) (by decide) (by assumption) ?_); (try intro _ _)) | ((with_reducible show wpAny _ _ (compareOp CmpOp.Eq (Value.ref _) (Value.ref _)) _ _ _); k_dflt (refine eq_strs_nil (by exact News.get (by k_asm) (.tail _ (.head _))) (by assumption) (by exact News.get (by k_asm) (.head _)) (by assumption) (by ktr_units) ?_)) | ((with_reducible show wpAny _ _ (call (Value.builtin _) [Value.ref _, _]) _ _ _); k_dflt (refine append_K (by k_asm) (by k_asm) (by (refine Upd.head (by exact OwnOff.ne (by assumption) (.head _)))) ?_ (by assumption); k_whole); intro h' F' N'; (try k_sweep)) | ((with_reducible show wpAny _ _ (exec (Stmt.For (Expr.Tuple _ _ _) (Expr.Call _ _ _ _) (_ :: _) [] _) _) _ _ _); (rename Fr _ _ _ _ => lF'); (with_unfolding_all refine For_tup (by rfl) lF' ?_; k_whole)) | (k_unfold; (try dsimp only)) | walk1 | (dsimp only; walk1) | (leave1; try dsimp only)))
    all_goals first
      | (intro hN0; refine hret' _ _ _ _ ?_ (by assumption) hN0; (unfold kindT; rw [show (kds mode 7).isEmpty = true by assumption]; rfl))
      | (intro hN0; refine hret' _ _ _ _ ?_ (by assumption) hN0; (unfold kindT; rw [show (kds mode 7).isEmpty = false by assumption]; rfl))
end
end
section
open PySem PySem.W PyProof.Rows PySem.Calls PyProof.V PySem.Spec
set_option maxRecDepth 100000
set_option maxHeartbeats 8000000
theorem seq_list_iadd : seqSlot? (.type "list") (dunderI "add") = pure (some (.builtin "list.__iadd__")) := PyProof.Rows.seqSlot_of PySem.F.slot_list_iadd.lookup (by decide +kernel)
theorem noFill_list_iadd : fillsInplaceSlot (.type "list") "add" (Operator.Add == .Add) = pure false := by
  unfold fillsInplaceSlot
  show (typeLookup (.type "list") (dunderI "add") >>= fun fi => pure (fi.isSome && !isSeqSlot fi)) = pure false
  rw [PySem.F.slot_list_iadd.lookup]
  rw [pure_bind]
  have h : isSeqSlot (some (Value.builtin "list.__iadd__")) = true := by decide +kernel
  rw [h]; rfl
theorem noFill_list_add : fillsNumberSlot (.type "list") "add" = pure false :=
  PyProof.Rows.fillsNumberSlot_seq (r := none) PySem.F.slot_list_add.lookup (by decide +kernel) (by rw [typeLookup_type, builtinLookup_eq_fast]; kernel_rfl) rfl
section
variable {prog : Program} {w : World} {A : Around} {E : Value → Shared → Prop} {s : Shared} {h₀ : Heap} {L : Addr} {m : Str → Option Value} {news news' : List (Addr × Obj)} {D b : Addr} {its its2 : Array Value} {n n2 : Nat}
theorem iadd_list {Q : Value → Shared → Prop} (F : Fr h₀ L s.heap m) (N : News h₀ L s.heap news) (hb : (b, listOf its2 n2) ∈ news) (hne : its2.size ≠ 0)
    (U : Upd D (listOf its n) (listOf (its ++ its2) (n + 1)) news news') (hsz : its.size + its2.size ≤ sizeLine)
    (h : ∀ h', Fr h₀ L h' m → News h₀ L h' news' → Q (.ref D) { s with heap := h' }) : wpAny (model prog w) A (inplaceOp .Add (.ref D) (.ref b)) Q E s := by
  obtain ⟨pre, post, rfl, rfl, a, c⟩ := U.split
  have z := N (D, listOf its n) (List.mem_append.mpr (.inr (.head _)))
  have hD : s.TypeIs (.ref D) "list" := ⟨_, z.1, rfl⟩
  have hB : s.TypeIs (.ref b) "list" := ⟨_, (N _ hb).1, rfl⟩
  unfold inplaceOp
  refine wpAny_holding ?_
  refine wpAny_bind (wpAny_typeOf hD (wpAny_bind (wpAny_of_eq noFill_list_iadd ?_)))
  show wpAny _ A (if false = true then _ else _) Q E s
  rw [if_neg Bool.false_ne_true]
  refine wpAny_bind (PyProof.Rows.binaryOp1_none (nm := "add") hD hB noFill_list_add ?_)
  refine wpAny_bind (wpAny_of_eq seq_list_iadd ?_)
  refine wpAny_bind (wpAny_rule ?_)
  refine call_meets PySem.F.slot_list_iadd hD PySem.F.entry_list_iadd (PySem.F.args_list_iadd_2 _ _) (PySem.AutoSeq1.list___iadd___list_list_0 D its n b its2 n2 (PyProof.Rows.extend_door hsz) (Nat.le_trans (Nat.le_add_right _ _) hsz) (Nat.le_trans hsz (Nat.le_add_right _ _))) ⟨z.1, (N _ hb).1, h _ (F.change (Heap.SameBut.update ..) z.2.1 z.2.2) (kl_turn _ N a c rfl ?_)⟩
  simp
  exact fun e => hne (by simp [e])
end

def valA (mode v : Int) : Int := Builtin.bitAnd (Builtin.bitXor mode (v * 65)) 4095 * 4096 + Builtin.bitAnd (Builtin.bitXor mode ((v + 1) * 65)) 4095
def oct3 (x : Int) : List Int := [x.fdiv 65536, (x.fdiv 256).fmod 256, x.fmod 256]
def octs (mode : Int) (i : Nat) : List Int := (List.range i).flatMap fun (k : Nat) => oct3 (valA mode (0 + (k : Int) * 2))
theorem octs_succ (mode : Int) (i : Nat) : octs mode (i + 1) = octs mode i ++ oct3 (valA mode (0 + (i : Int) * 2)) := by
  simp [octs, List.range_succ]
theorem octs_len (mode : Int) : ∀ i, (octs mode i).length = 3 * i
  | 0 => rfl
  | i + 1 => by rw [octs_succ, List.length_append, octs_len mode i]; simp [oct3]; omega
theorem valA_range (mode v : Int) : 0 ≤ valA mode v ∧ valA mode v < 16777216 := by
  have h1 := bitAnd_range (Builtin.bitXor mode (v * 65)) (y := 4095) (by decide)
  have h2 := bitAnd_range (Builtin.bitXor mode ((v + 1) * 65)) (y := 4095) (by decide)
  unfold valA
  omega
theorem oct3_in {x : Int} (h0 : 0 ≤ x) (h1 : x < 16777216) : ∀ n ∈ oct3 x, 0 ≤ n ∧ n < 256 := by
  intro n hn
  have e1 : x.fdiv 65536 = x / 65536 := Int.fdiv_eq_ediv_of_nonneg _ (by decide)
  have e2 : x.fdiv 256 = x / 256 := Int.fdiv_eq_ediv_of_nonneg _ (by decide)
  have e3 : x.fmod 256 = x % 256 := Int.fmod_eq_emod_of_nonneg _ (by decide)
  have e4 : (x.fdiv 256).fmod 256 = (x / 256) % 256 := by rw [Int.fmod_eq_emod_of_nonneg _ (by decide), e2]
  simp only [oct3, e1, e3, e4, List.mem_cons, List.not_mem_nil, or_false] at hn
  rcases hn with rfl | rfl | rfl <;> omega
theorem octs_in (mode : Int) (i : Nat) : KBa.In (octs mode i) := by
  intro n hn
  obtain ⟨k, _, hk⟩ := List.mem_flatMap.mp hn
  exact oct3_in (valA_range _ _).1 (valA_range _ _).2 n hk
section
variable {w : World} {mg mb : Str → Option Value} {loose : List Str} {mean : ExcName → Option Value}

theorem octets_gives (mode : Int) (tkm : Tok) : Gives w loose mean mg mb 8 200 205 [.int mode tkm] (fun t => .bytes (byteArr (octs mode 32)) t) := by
  w_top off
  unfold Gives
  k_fill
  intro dp un gd cn cs a ccd cl outer A₀ base h₀ L m news s Q E B F X N T hk hd hu hret
  refine wpAny_call ?_
  (k_dflt (refine' code_frozen ?k1 ?k2 ?k3 ?k4 ?k5 ?kA ?kF ?kK ?k6 ?k7 ?k8 ?k9 ?kB ?_ ?c2 ?c3 ?c4 ?c5; (case kA => exact rfl); (case kF => exact rfl); (case kK => assumption); (case k1 => k_asm); (case k2 => k_asm); (case k3 => k_asm); (case k4 => k_asm); (case k5 => k_asm); (case k6 => k_is); (case k7 => k_is); (case k8 => ktr_room); (case k9 => first | exact BindsTo.of_eq rfl | exact binds_K (by k_in) rfl (by k_is) rfl rfl rfl); (case c5 => decide); (case kB => exact locs rfl); (case c2 => exact rfl); (case c3 => exact rfl); (case c4 => exact rfl); k_whole; intro g' L' h' FG' F' N' B' X' T'; (try dsimp only); (try k_lift B'); (try k_fold)))
  replace F' := fr_known [(Str.ofString "mode", Value.int mode tkm)] F' (by intro p hp; rw [List.mem_singleton.mp hp]; rfl)
  dsimp only [kstB] at F'
  repeat' ((fail_if_success (with_reducible show Mine.RangeFor _ _ _ _ _ _ _ _ _ _ _ _)); (first | ((with_reducible show wpAny _ _ (call (Value.type "bytes") _) _ _ _); k_dflt (refine KBa.make_K (by k_asm) (by k_asm) (by rfl) (by exact News.isList (by k_asm) (.head _)) (by assumption) (by exact octs_in _ _) (by (rw [octs_len]; decide)) ?_); intro _ _ _ F' N' _) | ((with_reducible show wpAny _ _ (inplaceOp Operator.Add (Value.ref _) _) _ _ _); k_dflt (refine iadd_list (by k_asm) (by k_asm) (by exact .head _) (by exact (show (3 : Nat) ≠ 0 by decide)) (by (refine Upd.tail (by k_ne) (Upd.head (by exact OwnOff.ne (by assumption) (.head _))))) (by ((show _ + 3 ≤ _); omega)) ?_); intro h' F' N'; (try k_sweep)) | ((with_reducible show wpAny _ _ (exec (Stmt.For (Expr.Name _ _) (Expr.Call _ _ _ _) (_ :: _) [] _) _) _ _ _); (rename Fr _ _ _ _ => lF'); (with_unfolding_all refine For_rng (by rfl) lF' ?_; k_whole)) | (k_unfold; (try dsimp only)) | walk1 | (dsimp only; walk1) | (leave1; try dsimp only)))
  rename Fr _ _ _ _ => F1
  rename News _ _ _ _ => N1
  rename IsRange _ _ _ _ _ _ _ _ => R1
  refine ⟨_, 0, 64, 2, _, _, _, 32, _, _, (fun j m₁ n₁ => ∃ kl arr cnt, m₁ (Str.ofString "octets") = some (.ref kl) ∧ m₁ (Str.ofString "mode") = some (.int mode tkm) ∧ n₁ = [(kl, listOf arr cnt)] ∧ IntsAre arr.toList (octs mode j)), rfl, R1, (by decide), (by decide), F1, N1, ⟨_, #[], 0, (by ((try dsimp only); (repeat' (first | rw [if_pos rfl] | rw [if_neg (by decide)])))), (by ((try dsimp only); (repeat' (first | rw [if_pos rfl] | rw [if_neg (by decide)])))), rfl, IntsAre.nil⟩, ?turn, ?done⟩
  case turn =>
    intro i tv m₁ n₁ h₁ tk₁ own hi hJ hadr hoff F₁ N₁
    obtain ⟨kl, arr, cnt, hp, hm, rfl, hs⟩ := hJ
    simp only [List.map_cons, List.map_nil, List.cons.injEq, and_true] at hadr
    simp only [List.map_cons, List.map_nil] at hoff
    rw [← hadr] at hoff
    have hsz : arr.size + 3 ≤ sizeLine := by
      have h1 := hs.length
      rw [octs_len] at h1
      rw [sizeLine_eq]; simp at h1; omega
    replace F₁ := fr_known [(Str.ofString "octets", .ref kl), (Str.ofString "mode", .int mode tkm)] F₁ (by simp [hp, hm])
    dsimp only [kstB] at F₁
    simp only [List.cons_append, List.nil_append] at N₁
    clear F1 N1 R1 hp hm
    try k_fold
    repeat' ((fail_if_success (with_reducible show InvEndN _ _ _ _ _ _ _)); (first | ((with_reducible show wpAny _ _ (call (Value.type "bytes") _) _ _ _); k_dflt (refine KBa.make_K (by k_asm) (by k_asm) (by rfl) (by exact News.isList (by k_asm) (.head _)) (by assumption) (by exact octs_in _ _) (by (rw [octs_len]; decide)) ?_); intro _ _ _ F' N' _) | ((with_reducible show wpAny _ _ (inplaceOp Operator.Add (Value.ref _) _) _ _ _); k_dflt (refine iadd_list (by k_asm) (by k_asm) (by exact .head _) (by exact (show (3 : Nat) ≠ 0 by decide)) (by (refine Upd.tail (by k_ne) (Upd.head (by exact OwnOff.ne (by assumption) (.head _))))) (by ((show _ + 3 ≤ _); omega)) ?_); intro h' F' N'; (try k_sweep)) | ((with_reducible show wpAny _ _ (exec (Stmt.For (Expr.Name _ _) (Expr.Call _ _ _ _) (_ :: _) [] _) _) _ _ _); (rename Fr _ _ _ _ => lF'); (with_unfolding_all refine For_rng (by rfl) lF' ?_; k_whole)) | (k_unfold; (try dsimp only)) | walk1 | (dsimp only; walk1) | (leave1; try dsimp only)))
    all_goals first
      | (rename Fr _ _ _ _ => Fz; rename News _ _ _ _ => Nz; refine InvEndN.intro (nx := [(kl, listOf (arr ++ #[_, _, _]) (cnt + 1))]) Fz Nz ⟨kl, _, _, ?h1, ?h2, rfl, ?h3⟩ (by simp only [List.map_cons, List.map_nil]; rw [hadr]) (by intro p hp; rw [List.mem_singleton.mp hp]; exact List.Mem.tail _ (List.Mem.head _)) (fun p hp => List.Mem.tail _ (List.Mem.tail _ hp)); (case h1 => ((try dsimp only); (repeat' (first | rw [if_pos rfl] | rw [if_neg (by decide)])))); (case h2 => ((try dsimp only); (repeat' (first | rw [if_pos rfl] | rw [if_neg (by decide)])))); (case h3 => (rw [octs_succ, Array.toList_append]; exact hs.append (.cons _ _ (.cons _ _ (.cons _ _ .nil))))))
  case done =>
    intro h₂ tk₂ m₂ n₂ F₂ N₂ hJ
    obtain ⟨kl, arr, cnt, hp, hm, rfl, hs⟩ := hJ
    replace F₂ := fr_known [(Str.ofString "octets", .ref kl), (Str.ofString "mode", .int mode tkm)] F₂ (by simp [hp, hm])
    dsimp only [kstB] at F₂
    clear F1 N1 R1 hp hm
    try k_fold
    repeat' ((fail_if_success (with_reducible show Back _ _ _ _ _ _)); (first | ((with_reducible show wpAny _ _ (call (Value.type "bytes") _) _ _ _); k_dflt (refine KBa.make_K (by k_asm) (by k_asm) (by rfl) (by exact News.isList (by k_asm) (.head _)) (by assumption) (by exact octs_in _ _) (by (rw [octs_len]; decide)) ?_); intro _ _ _ F' N' _) | ((with_reducible show wpAny _ _ (inplaceOp Operator.Add (Value.ref _) _) _ _ _); k_dflt (refine iadd_list (by k_asm) (by k_asm) (by exact .head _) (by exact (show (3 : Nat) ≠ 0 by decide)) (by (refine Upd.tail (by k_ne) (Upd.head (by exact OwnOff.ne (by assumption) (.head _))))) (by ((show _ + 3 ≤ _); omega)) ?_); intro h' F' N'; (try k_sweep)) | ((with_reducible show wpAny _ _ (exec (Stmt.For (Expr.Name _ _) (Expr.Call _ _ _ _) (_ :: _) [] _) _) _ _ _); (rename Fr _ _ _ _ => lF'); (with_unfolding_all refine For_rng (by rfl) lF' ?_; k_whole)) | (k_unfold; (try dsimp only)) | walk1 | (dsimp only; walk1) | (leave1; try dsimp only)))
    all_goals (intro hN0; exact hret _ _ _ (by assumption) hN0)
end
end
section
open PySem PySem.W PyProof.Rows PySem.Calls PySem.Builtin
set_option maxRecDepth 100000
set_option maxHeartbeats 1000000
set_option linter.unusedSimpArgs false
theorem narrow2 (id : String) (self : Value) (a b : Nat) (ha : a < 128) (hb : b < 128) : _codecs.encodeNarrow id _codecs.asciiCodec none self ⟨#[a, b]⟩ = pure #[a.toUInt8, b.toUInt8] := by
  have h1 : decide (128 ≤ a) = false := decide_eq_false (by omega)
  have h2 : decide (128 ≤ b) = false := decide_eq_false (by omega)
  have hf : Array.findIdx?.loop (fun x => decide (128 ≤ x)) #[a, b] 0 = none := by
    unfold Array.findIdx?.loop; simp [h1]
    unfold Array.findIdx?.loop; simp [h2]
    unfold Array.findIdx?.loop; simp
  have hz : ¬ sizeLine < 2 := by rw [sizeLine_eq]; decide
  unfold _codecs.encodeNarrow
  simp [_codecs.asciiCodec, Str.length, Std.Legacy.Range.forIn_eq_forIn_range', h1, h2, List.range', Array.findIdx?, List.findIdx?, pure_bind, hf, ha, hb, hz]
theorem encodeRoad_ascii (id : String) (self : Value) (x : Str) (errors : Option Str) : _codecs.encodeRoad id self x (Str.ofString "ascii") errors = (do mkBytes (← _codecs.encodeNarrow id _codecs.asciiCodec errors self x)) := by
  first | rfl | (unfold _codecs.encodeRoad; rfl) | kernel_rfl
theorem encode_tree2 (x : Str) (t u : Tok) : «str.encode» ⟨[.str x t, .str (Str.ofString "ascii") u], []⟩ = (do ret (← _codecs.encodeRoad "str.encode" (.str x t) x (Str.ofString "ascii") none)) := by
  first | rfl | kernel_rfl
section
variable {prog : Program} {w : World} {A : Around} {E : Value → Shared → Prop} {s : Shared} {Q : Value → Shared → Prop}
theorem meets_encode2 {a b : Nat} {t u : Tok} (ha : a < 128) (hb : b < 128) : Meets («str.encode» ⟨[.str ⟨#[a, b]⟩ t, .str (Str.ofString "ascii") u], []⟩) (fun _ R s => ∀ t' k, R (.ok (.ret (.bytes #[a.toUInt8, b.toUInt8] t'))) { s with toks := k }) := by
  refine .of_wp fun prog w A R s h => ?_
  rw [encode_tree2, encodeRoad_ascii, narrow2 _ _ a b ha hb]
  simp only [pure_bind]
  refine wpAny_bind (wpAny_mkBytes ?_ (show 2 ≤ sizeLine by decide))
  exact wpAny_pure ⟨_, rfl, h _ _⟩
theorem encode2 {a b : Nat} {t u : Tok} (ha : a < 128) (hb : b < 128) (h : ∀ t' k, Q (.bytes #[a.toUInt8, b.toUInt8] t') { s with toks := k }) :
    wpAny (model prog w) A (call (.builtin "str.encode") [.str ⟨#[a, b]⟩ t, .str (Str.ofString "ascii") u]) Q E s :=
  call_meets PySem.F.slot_str_encode (typeIs_str _ _ _) PySem.F.entry_str_encode (PySem.F.args_str_encode_2 _ _) (meets_encode2 ha hb) h
end
theorem forIn_steps {β : Type} (f : Nat → β → Sem (ForInStep β)) (g : Nat → β) : ∀ k i, (∀ j, i ≤ j → j < i + k → f j (g j) = pure (.yield (g (j + 1)))) → forIn (List.range' i k) (g i) f = pure (g (i + k))
  | 0, i, _ => by simp [List.range']
  | k + 1, i, h => by
    rw [List.range'_succ, List.forIn_cons, h i (Nat.le_refl _) (by omega), pure_bind]
    show forIn (List.range' (i + 1) k) (g (i + 1)) f = _
    rw [forIn_steps f g k (i + 1) fun j h1 h2 => h j (by omega) (by omega)]
    rw [show i + 1 + k = i + (k + 1) by omega]
theorem run_ascii (id : String) (b : Array UInt8) (hb : ∀ c ∈ b, c.toNat < 128) (hs : b.size ≤ sizeLine) : _codecs.runDecoder id _codecs.asciiDecoder none true b 0 [] = pure (b.map (·.toNat), b.size) := by
  have hsz : ([:b.size] : Std.Legacy.Range).size = b.size := by simp [Std.Legacy.Range.size]
  unfold _codecs.runDecoder
  dsimp only
  simp only [Std.Legacy.Range.forIn_eq_forIn_range', hsz]
  have key := fun f h => forIn_steps (β := Nat × Array Nat × _codecs.Faults) f (fun j => (j, (b.extract 0 j).map (·.toNat), { held := [] })) b.size 0 h
  have h0 : (b.extract 0 0).map (·.toNat) = #[] := by simp
  simp only [h0] at key
  rw [key]
  · simp
  · intro j _ hj
    have hj' : j < b.size := by omega
    have hc : (b.getD j 0).toNat < 128 := by
      rw [Array.getD_eq_getD_getElem?, Array.getElem?_eq_getElem hj']
      exact hb _ (Array.getElem_mem hj')
    have e : (b.extract 0 j).size = j := by simp; omega
    rw [if_neg (by rw [Array.size_map, e]; omega), if_neg (by omega)]
    have hfd : _codecs.asciiDecoder.find true b j = .text [(b.getD j 0).toNat] (j + 1) := by
      unfold _codecs.asciiDecoder
      dsimp only
      rw [if_pos hc]
      rfl
    rw [hfd]
    dsimp only
    have e2 : (b.extract 0 (j + 1)).map (·.toNat) = (b.extract 0 j).map (·.toNat) ++ [(b.getD j 0).toNat].toArray := by
      apply Array.toList_inj.mp
      simp only [Array.toList_map, Array.toList_extract, Array.toList_append, List.extract_eq_take_drop, List.drop_zero, Nat.sub_zero]
      rw [List.take_add_one, List.map_append]
      congr 1
      rw [Array.getD_eq_getD_getElem?, Array.getElem?_eq_getElem hj']
      simp [hj']
    rw [e2]
end
section
open PySem PySem.W PyProof.Rows PySem.Calls PySem.Builtin
set_option maxRecDepth 100000
set_option maxHeartbeats 1000000
set_option linter.unusedSimpArgs false
theorem road_ascii {id : String} {b : Array UInt8} : _codecs.decodeRoad id b (PySem.Str.ofString "ascii") none [] = (_codecs.runDecoder id _codecs.asciiDecoder none true b 0 [] >>= fun r => mkStr ⟨r.1⟩) := by kernel_rfl
theorem meets_textA {b : Array UInt8} {t t1 t2 : Tok} {d : PySem.Str} (hb : ∀ c ∈ b, c.toNat < 128) (hs : b.size ≤ sizeLine) :
    Meets («_codecs.decode.text» ⟨[.bytes b t, .str (PySem.Str.ofString "ascii") t1, .none, .str d t2], []⟩) (fun _ R s => R (.ok (.ret (.str ⟨b.map (·.toNat)⟩ s.toks))) { s with toks := s.toks + 1 }) := by
  refine .of_wp fun prog w A R s h => ?_
  show wpAny _ _ (Bytes.bytesLike _ (.bytes b t) >>= fun r => _) _ _ s
  refine wpAny_bind (wpAny_of_eq KBd.like_eq ?_)
  refine wpAny_bind (wpAny_of_eq KBd.held_eq ?_)
  show wpAny _ _ (_codecs.decodeRoad _ b (PySem.Str.ofString "ascii") none [] >>= fun v => _) _ _ s
  rw [road_ascii, run_ascii _ b hb hs]
  refine wpAny_bind (wpAny_bind (wpAny_pure ?_))
  exact wpAny_mkStr (wpAny_pure ⟨_, rfl, h⟩) (by show (b.map (·.toNat)).size ≤ sizeLine; rw [Array.size_map]; exact hs)
theorem decode_entry {c : UInt8} {cs : List UInt8} {t u : Tok} : «bytes.decode» ⟨[.bytes (c :: cs).toArray t, .str (PySem.Str.ofString "ascii") u], []⟩ = (mkStr (PySem.Str.ofString "utf-8") >>= fun _ => mkStr (PySem.Str.ofString "ascii") >>= fun e => mkStr (PySem.Str.ofString "bytes.decode") >>= fun d =>
    call (.builtin "_codecs.decode.text") [.bytes (c :: cs).toArray t, e, .none, d] >>= fun v => ret v) := by kernel_rfl
theorem meets_decodeA {c : UInt8} {cs : List UInt8} {t u : Tok} (hb : ∀ x ∈ (c :: cs).toArray, x.toNat < 128) (hs : (c :: cs).toArray.size ≤ sizeLine) :
    Meets («bytes.decode» ⟨[.bytes (c :: cs).toArray t, .str (PySem.Str.ofString "ascii") u], []⟩) (fun _ R s => ∀ t' k, R (.ok (.ret (.str ⟨(c :: cs).toArray.map (·.toNat)⟩ t'))) { s with toks := k }) := by
  refine .of_wp fun prog w A R s h => ?_
  rw [decode_entry]
  refine wpAny_bind (wpAny_mkStr ?_ (by decide))
  refine wpAny_bind (wpAny_mkStr ?_ (by decide))
  refine wpAny_bind (wpAny_mkStr ?_ (by decide))
  exact wpAny_bind (call_function_meets KBd.kind_text KBd.plain_text KBd.entry_text (KBd.args_text _ _ _ _) (meets_textA hb hs) (wpAny_pure ⟨_, rfl, h _ _⟩))
def trTbl (x y : UInt8) : Array UInt8 := (((Array.range 256).map (·.toUInt8)).setIfInBounds 43 x).setIfInBounds 47 y
def trB (x y : UInt8) (b : Array UInt8) : Array UInt8 := b.map fun c => (trTbl x y).getD c.toNat c
theorem trTbl_size (x y : UInt8) : (trTbl x y).size = 256 := by simp [trTbl]
theorem maketrans_entry {x y : UInt8} {t u : Tok} : «bytes.maketrans» ⟨[.bytes #[43, 47] t, .bytes #[x, y] u], []⟩ = (mkBytes (trTbl x y) >>= fun v => ret v) := by kernel_rfl
theorem meets_maketrans {x y : UInt8} {t u : Tok} : Meets («bytes.maketrans» ⟨[.bytes #[43, 47] t, .bytes #[x, y] u], []⟩) (fun _ R s => ∀ t' k, R (.ok (.ret (.bytes (trTbl x y) t'))) { s with toks := k }) := by
  refine .of_wp fun prog w A R s h => ?_
  rw [maketrans_entry]
  exact wpAny_bind (wpAny_mkBytes (wpAny_pure ⟨_, rfl, h _ _⟩) (by rw [trTbl_size]; decide))
theorem slot_translate : Slot "bytes" "translate" "bytes.translate" :=
  .of (owner := "bytes") (n := "translate") (by rw [typeLookup_type, builtinLookup_eq_fast]; kernel_rfl) (by decide +kernel) (by decide +kernel) (by decide +kernel)
    (by first | exact .inl (by decide +kernel) | exact .inr (by decide +kernel)) (by rw [isSubtype_type]; kernel_rfl)
theorem type_translate : typeOf (.builtin "bytes.translate") = pure (.type "method_descriptor") := by show builtinType _ = _; rw [builtinType_eq_fast]; kernel_rfl
theorem entry_translate : entryFor table "bytes.translate" = some Builtin.«bytes.translate» := entryFor_of_tree (by kernel_rfl)
theorem args_translate (a b : Value) : argsOk "bytes.translate" ⟨[a, b], []⟩ := by unfold argsOk; kernel_rfl
theorem entry_maketrans : entryFor table "bytes.maketrans" = some Builtin.«bytes.maketrans» := entryFor_of_tree (by kernel_rfl)
theorem plain_maketrans : plainId "bytes.maketrans" = true := by decide +kernel
theorem check_maketrans (a b : Value) : checkBuiltinCall "bytes.maketrans" ⟨[a, b], []⟩ = pure () := by kernel_rfl
theorem args_decode2 {a b : Value} : argsOk "bytes.decode" ⟨[a, b], []⟩ := by unfold argsOk; kernel_rfl
theorem translate_entry {b tb : Array UInt8} {t u : Tok} (h : tb.size = 256) : «bytes.translate» ⟨[.bytes b t, .bytes tb u], []⟩ = (let out := (b.filter (!(#[] : Array UInt8).contains ·)).map fun c => tb.getD c.toNat c
    if out == b then (do rule "bytes.translate.unchanged"; ret (← Bytes.Kind.same .bytes (.bytes b t))) else (do ret (← Bytes.Kind.new .bytes out))) := by
  show (Bytes.bytesLike _ (.bytes tb u) >>= fun t => _) = _
  rw [KBd.like_eq]
  simp only [pure_bind, h, bne_self_eq_false, Bool.false_eq_true, if_false]
  rfl
section
variable {prog : Program} {w : World} {A : Around} {E : Value → Shared → Prop} {s : Shared} {Q : Value → Shared → Prop}
theorem meets_translate {b tb : Array UInt8} {t u : Tok} (h256 : tb.size = 256) : Meets («bytes.translate» ⟨[.bytes b t, .bytes tb u], []⟩) (fun _ R s => b.size ≤ sizeLine ∧ ∀ t' k, R (.ok (.ret (.bytes (b.map fun c => tb.getD c.toNat c) t'))) { s with toks := k }) := by
  refine .of_wp fun prog w A R s hS => ?_
  obtain ⟨hsz, h⟩ := hS
  rw [translate_entry h256]
  have hf : b.filter (!(#[] : Array UInt8).contains ·) = b := by simp
  dsimp only
  rw [hf]
  generalize hout : b.map (fun c => tb.getD c.toNat c) = out at h
  have ho : out.size ≤ sizeLine := by rw [← hout, Array.size_map]; exact hsz
  cases he : out == b with
  | true =>
    have e : out = b := beq_iff_eq.mp he
    rw [if_pos rfl]
    refine wpAny_bind (wpAny_rule ?_)
    show wpAny _ _ (pure (Value.bytes b t) >>= fun v => ret v) _ _ s
    refine wpAny_bind (wpAny_pure (wpAny_pure ⟨_, rfl, ?_⟩))
    rw [← e]
    exact h t s.toks
  | false =>
    rw [if_neg (by decide)]
    show wpAny _ _ (mkBytes out >>= fun v => ret v) _ _ s
    exact wpAny_bind (wpAny_mkBytes (wpAny_pure ⟨_, rfl, h _ _⟩) ho)
theorem translate_K {b tb : Array UInt8} {t u : Tok} (h256 : tb.size = 256) (hsz : b.size ≤ 16777216) (h : ∀ t' k, Q (.bytes (b.map fun c => tb.getD c.toNat c) t') { s with toks := k }) :
    wpAny (model prog w) A (call (.builtin "bytes.translate") [.bytes b t, .bytes tb u]) Q E s :=
  call_meets slot_translate (PySem.W.typeIs_bytes _ _ _) entry_translate (args_translate _ _) (meets_translate h256) ⟨by rw [sizeLine_eq]; exact hsz, h⟩
theorem maketrans_K {x y : UInt8} {t u : Tok} (h : ∀ t' k, Q (.bytes (trTbl x y) t') { s with toks := k }) :
    wpAny (model prog w) A (call (.builtin "bytes.maketrans") [.bytes #[43, 47] t, .bytes #[x, y] u]) Q E s :=
  wpAny_call (codeAny_call_builtin plain_maketrans entry_maketrans (by rw [check_maketrans]; exact wpAny_pure (meets_maketrans prog w A (wants Q E) s h)))
theorem decodeA_K {b : Array UInt8} {t u : Tok} (h1 : b.size ≠ 0) (hb : ∀ x ∈ b, x.toNat < 128) (hs : b.size ≤ 16777216) (h : ∀ t' k, Q (.str ⟨b.map (·.toNat)⟩ t') { s with toks := k }) :
    wpAny (model prog w) A (call (.builtin "bytes.decode") [.bytes b t, .str (Str.ofString "ascii") u]) Q E s := by
  obtain ⟨l⟩ := b
  cases l with
  | nil => exact absurd rfl h1
  | cons c cs => exact call_meets FB.slot_bytes_decode (PySem.W.typeIs_bytes _ _ _) FB.entry_bytes_decode args_decode2 (meets_decodeA hb (by rw [sizeLine_eq]; exact hs)) h
theorem getm_translate {b : Array UInt8} {t : Tok} {pl : Sem Bool} {Q : Value × List Value → Shared → Prop} {M : Model} (h : Q (.builtin "bytes.translate", [.bytes b t]) s) : wpAny M A (getMethod (.bytes b t) "translate" pl) Q E s := by
  with_reducible exact KBd.method_of (.bytes b t) (PySem.W.typeIs_bytes _ _ _) slot_translate type_translate KBd.noRef h
end
end
section
open PySem PySem.W PyProof.Rows PySem.Calls PyProof.V PySem.Spec
set_option maxRecDepth 100000
set_option maxHeartbeats 8000000
section
variable {prog : Program} {w : World} {A : Around} {E : Value → Shared → Prop} {s : Shared} {env : Env} {h₀ : Heap} {target : Expr} {body orelse : List Stmt} {Q : Flow → Shared → Prop}
/-- a for over bytes -/
def BytesFor (prog : Program) (w : World) (A : Around) (h₀ : Heap) (env : Env) (target : Expr) (body orelse : List Stmt) (Q : Flow → Shared → Prop) (E : Value → Shared → Prop) (xv : Value) (s₁ : Shared) : Prop :=
  ∃ (b : Array UInt8) (tb : Tok) (m : Str → Option Value) (news : List (Addr × Obj)) (J : Nat → (Str → Option Value) → List (Addr × Obj) → Prop),
    xv = .bytes b tb ∧ Fr h₀ env.locals s₁.heap m ∧ News h₀ env.locals s₁.heap news ∧ J 0 m news ∧
    (∀ i c tk' m₁ news₁ h₁ tk₁ own, b[i]? = some c → J i m₁ news₁ → news₁.map (·.1) = news.map (·.1) → OwnOff own (news.map (·.1)) → Fr h₀ env.locals h₁ m₁ → News h₀ env.locals h₁ (news₁ ++ own) →
      wpAny (model prog w) A (assign target env (.int (c.toNat : Int) tk')) (fun _ s₂ => wpAny (model prog w) A (execs body env)
        (InvPostN h₀ env.locals (J (i + 1)) own (news.map (·.1)) { s₁ with heap := h₁, toks := tk₁ } Q) E s₂) E { s₁ with heap := h₁, toks := tk₁ }) ∧
    ∀ h' tk m' news', Fr h₀ env.locals h' m' → News h₀ env.locals h' news' → J b.size m' news' → wpAny (model prog w) A (execs orelse env) Q E { s₁ with heap := h', toks := tk }

theorem For_bytes {iter : Expr} {pos px : Pos} {x : Str} {m : Str → Option Value} (hh : A.handled = none) (_F : Fr h₀ env.locals s.heap m)
    (h : wpAny (model prog w) A (eval iter env) (fun xv s₁ => BytesFor prog w A h₀ env (.Name x px) body orelse Q E xv s₁) E s)
    (hs : ∀ x, foldedSetIterable iter env x = pure x := by intro _; rfl)
    (hE : PassesOwn (model prog w) A env E := by passes_own) :
    wpAny (model prog w) A (exec (.For (.Name x px) iter body orelse pos) env) Q E s := by
  refine wpAny_For (wpAny_mono h (fun xv s₁ h₁ => ?_) fun _ _ e => e) hs
  obtain ⟨b, tb, m, news, J, rfl, F, N, h0, turn, done⟩ := h₁
  refine KBw.pyIter_bytes ?_
  have W := KTurns.ofWalks (target := .Name x px) (KBw.walks (prog := prog) (w := w) hh s₁.heap.objs.size b tb) fun i v s Q E st q => wpAny_pure q
  refine loop_else (R := fun r s' => match r with | .ok f => Q f s' | .error e => cameBackBy (model prog w) A env E e s') W ?_ ?_ ?_ ⟨_, Heap.get?_push_size _ rfl, rfl, rfl⟩ (F.push _) (fun p hp => ⟨Heap.get?_push_of_some _ (N p hp).1, (N p hp).2⟩) J h0 ?_ ?_
  · intro hI
    exact absurd F.ns.lt ((List.mem_singleton.mp hI) ▸ Nat.lt_irrefl _)
  · intro b hb
    rw [List.mem_singleton.mp hb]
    exact next_is_new F
  · intro p hp hI
    exact absurd (Heap.lt_size (N p hp).1) ((List.mem_singleton.mp hI) ▸ Nat.lt_irrefl _)
  · rintro i v m₁ news₁ h₁ tk₁ own hin ⟨c, t', hc, rfl⟩ hJ hadr hoff _ F₁ N₁
    exact wpAny_mono (turn i c t' m₁ news₁ h₁ tk₁ own hc hJ hadr hoff F₁ N₁) (fun _ _ x => wpAny_passesOwn hE x) hE
  · intro h' tk m' news' F' N' _ hJ
    exact wpAny_passesOwn hE (done h' tk m' news' F' N' hJ)
end
end
section
open PySem PySem.W PyProof.Rows PySem.Calls PyProof.V PySem.Spec
set_option maxRecDepth 100000
set_option maxHeartbeats 400000
theorem meta_bytes : typeOf (.type "bytes") = pure (.type "type") := by first | rfl | kernel_rfl
theorem stub_bytes : Manifest.isStub "bytes" = false := by decide +kernel
theorem find_maketrans : findCls ([] : Frag) (.type "bytes") (.type "type") (Str.ofString "maketrans") = some (.val (.builtin "bytes.maketrans")) := by kernel_rfl
theorem handed_mt : handedIn (.builtin "bytes.maketrans") = true := by decide +kernel
theorem emptyIn (h : Heap) : Frag.In [] h := fun _ _ e => nomatch e
theorem hg0 : findIn ([] : Frag) (.type "type") "__getattribute__" = some (some (.builtin "type.__getattribute__")) := type_tga
theorem opq0 : opaqueClassAbove (.type "bytes") = pure none := by unfold opaqueClassAbove; dsimp only; rw [stub_bytes]; rfl
theorem sub0 : subIn ([] : Frag) (.type "type") (.type "type") = some true := by rfl
section
variable {prog : Program} {w : World} {A : Around} {E : Value → Shared → Prop} {s : Shared}
theorem hook0 {M : Model} {h : Heap} : Looks M h (hookBefore (.type "type")) none := by
  unfold hookBefore
  rw [if_neg (by decide +kernel)]
  exact .now
theorem run_val {Q : Value → Shared → Prop} {v : Value} (hh : handedIn v = true) (h : Q v { s with toks := s.toks + 1 }) :
    wpAny (model prog w) A.in1 (CFound.val v).run (fun fin s' => match fin with | .done (.ret v) => wpAny (model prog w) A (handedOut v) Q E s' | _ => False) (fun _ _ => False) { s with toks := s.toks + 1 } :=
  wpAny_pure (by show wpAny _ _ (handedOut v) _ _ _; rw [handedOut_of hh]; exact wpAny_pure h)
theorem get_mt {Q : Value → Shared → Prop} {e : Bool} (h : Q (.builtin "bytes.maketrans") { s with toks := s.toks + 1 }) :
    wpAny (model prog w) A (getAttr (.type "bytes") (Str.ofString "maketrans") e) Q E s :=
  cls_open (K := []) (c := .type "bytes") (mc := .type "type") (hook := none) (r := .val (.builtin "bytes.maketrans")) (emptyIn s.heap) (Looks.of_pure opq0) (Looks.of_pure meta_bytes) hg0 hook0 sub0 find_maketrans (run_val handed_mt h)
theorem getm_maketrans {pl : Sem Bool} {Q : Value × List Value → Shared → Prop} (h : Q (.builtin "bytes.maketrans", []) { s with toks := s.toks + 1 }) :
    wpAny (model prog w) A (getMethod (.type "bytes") (Str.ofString "maketrans") pl) Q E s := by
  have X := emptyIn s.heap
  have L0 : Looks (model prog w) s.heap (typeOf (.type "bytes")) (.type "type") := Looks.of_pure meta_bytes
  unfold getMethod specialOf
  refine wpAny_bind (wpAny_bind (L0.here ((looks_findIn X hg0).here ?_)))
  dsimp only
  rw [if_pos canon_tga]
  exact wpAny_bind (wpAny_mono (Q := fun v => Q (v, [])) (E := E) (get_mt h) (fun _ _ z => wpAny_pure z) fun _ _ z => z)
end
end
section
open PySem PySem.W PyProof.Rows PySem.Calls PyProof.V PySem.Spec
set_option maxRecDepth 100000
set_option maxHeartbeats 8000000

def pv (d : List Int) (i k : Nat) : Int := if k ≤ i then d.getD (i - k) 0 else 0
def lbN (i : Nat) : Int := if i % 3 = 0 then 0 else if i % 3 = 1 then 2 else 4
def lcN (d : List Int) (i : Nat) : Int := pv d i 2 * 256 + pv d i 1
def b64c : List Int := [65, 66, 67, 68, 69, 70, 71, 72, 73, 74, 75, 76, 77, 78, 79, 80, 81, 82, 83, 84, 85, 86, 87, 88, 89, 90, 97, 98, 99, 100, 101, 102, 103, 104, 105, 106, 107, 108, 109, 110, 111, 112, 113, 114, 115, 116, 117, 118, 119, 120, 121, 122, 48, 49, 50, 51, 52, 53, 54, 55, 56, 57, 43, 47]
def bsg (k : Int) : Int := b64c.getD k.toNat 0
def sx (d : List Int) (i : Nat) : List Int :=
  if i % 3 = 0 then [bsg (d.getD i 0 / 4)]
  else if i % 3 = 1 then [bsg (pv d i 1 % 4 * 16 + d.getD i 0 / 16)]
  else [bsg (pv d i 1 % 16 * 4 + d.getD i 0 / 64), bsg (d.getD i 0 % 64)]
def b64o (d : List Int) : Nat → List Int
  | 0 => []
  | i + 1 => b64o d i ++ sx d i
theorem pv_range (b : Array UInt8) (i k : Nat) : 0 ≤ pv (KBw.bInts b) i k ∧ pv (KBw.bInts b) i k < 256 := by
  unfold pv
  split
  · rw [List.getD_eq_getElem?_getD]
    cases h : (KBw.bInts b)[i - k]? with
    | none => exact ⟨by decide, by decide⟩
    | some v => exact KBw.ints_in (List.mem_of_getElem? h)
  · exact ⟨by decide, by decide⟩
theorem bsg_in (k : Int) : 0 ≤ bsg k ∧ bsg k < 128 := by
  have h : ∀ v ∈ b64c, 0 ≤ v ∧ v < 128 := by decide
  unfold bsg
  rw [List.getD_eq_getElem?_getD]
  cases e : b64c[k.toNat]? with
  | none => exact ⟨by decide, by decide⟩
  | some v => exact h v (List.mem_of_getElem? e)
theorem b64o_lt (d : List Int) : ∀ i, ∀ n ∈ b64o d i, 0 ≤ n ∧ n < 128
  | 0 => by simp [b64o]
  | i + 1 => by
    intro n hn
    rcases List.mem_append.mp hn with h | h
    · exact b64o_lt d i n h
    · unfold sx at h
      split at h
      · rw [List.mem_singleton.mp h]; exact bsg_in _
      · split at h
        · rw [List.mem_singleton.mp h]; exact bsg_in _
        · rcases List.mem_cons.mp h with h | h
          · rw [h]; exact bsg_in _
          · rw [List.mem_singleton.mp h]; exact bsg_in _
theorem b64o_in (d : List Int) (i : Nat) : KBa.In (b64o d i) := fun n hn => ⟨(b64o_lt d i n hn).1, by have := (b64o_lt d i n hn).2; omega⟩
theorem b64o_pos (d : List Int) : ∀ {i}, 0 < i → 0 < (b64o d i).length
  | i + 1, _ => by
    have : 0 < (sx d i).length := by
      unfold sx
      split
      · simp
      · split <;> simp
    simp only [b64o, List.length_append]; omega
theorem byteArr_size (l : List Int) : (byteArr l).size = l.length := by simp [byteArr]
def wrB (b : Array UInt8) (x y : UInt8) : Array UInt8 := (byteArr (b64o (KBw.bInts b) b.size)).map fun c => (trTbl x y).getD c.toNat c
theorem u8_lt {p : Nat} (h : p < 128) : p.toUInt8.toNat < 128 := by
  rw [show p.toUInt8 = UInt8.ofNat p from rfl, UInt8.toNat_ofNat']; omega
theorem tr_small (x y : UInt8) (hx : x.toNat < 128) (hy : y.toNat < 128) (k : Nat) (hk : k < 128) (c : UInt8) (hc : c.toNat < 128) : ((trTbl x y).getD k c).toNat < 128 := by
  unfold trTbl
  rw [Array.getD_eq_getD_getElem?, Array.getElem?_setIfInBounds, Array.getElem?_setIfInBounds]
  split
  · split <;> simp [hx, hy, hc]
  · split
    · split <;> simp [hx, hy, hc]
    · cases e : ((Array.range 256).map (·.toUInt8))[k]? with
      | none => exact hc
      | some v =>
        rw [Array.getElem?_map] at e
        cases e2 : (Array.range 256)[k]? with
        | none => rw [e2] at e; cases e
        | some j =>
          rw [e2] at e
          have hv : j.toUInt8 = v := Option.some.inj e
          have hj : j = k := by
            have := Array.getElem?_range (n := 256) (i := k)
            rw [e2] at this
            split at this <;> simp_all
          subst hj
          rw [← hv]
          exact u8_lt hk
theorem byteArr_lt (l : List Int) (h : ∀ n ∈ l, 0 ≤ n ∧ n < 128) : ∀ c ∈ byteArr l, c.toNat < 128 := by
  intro c hc
  have hc' : c ∈ l.map fun n => n.toNat.toUInt8 := by simpa [byteArr] using hc
  obtain ⟨n, hn, rfl⟩ := List.mem_map.mp hc'
  exact u8_lt (by have := h n hn; omega)
theorem wrB_ascii (b : Array UInt8) (x y : UInt8) (hx : x.toNat < 128) (hy : y.toNat < 128) : ∀ c ∈ wrB b x y, c.toNat < 128 := by
  intro c hc
  unfold wrB at hc
  obtain ⟨v, hv, rfl⟩ := Array.mem_map.mp hc
  have hv' := byteArr_lt _ (b64o_lt _ _) v hv
  exact tr_small x y hx hy _ hv' v hv'
theorem len_two {prog : Program} {w : World} {A : Around} {E : Value → Shared → Prop} {s : Shared} {x y : UInt8} {t : Tok} {Q : Value → Shared → Prop} (h : Q (.int 2 (s.toks + 1)) { s with toks := s.toks + 1 + 1 }) : wpAny (model prog w) A (call (.builtin "len") [.bytes #[x, y] t]) Q E s :=
  KBw.len_K (ks := [(x.toNat : Int), (y.toNat : Int)]) rfl (by show (2 : Nat) ≤ _; decide) h
theorem bitOr_nat (n m : Nat) : Builtin.bitOr (n : Int) (m : Int) = ((n ||| m : Nat) : Int) := by
  have h1 : ¬ (0 : Int) ≤ Builtin.bitNot (n : Int) := by unfold Builtin.bitNot; omega
  have h2 : ¬ (0 : Int) ≤ Builtin.bitNot (m : Int) := by unfold Builtin.bitNot; omega
  have e : ∀ x : Int, Builtin.bitNot (Builtin.bitNot x) = x := fun x => by unfold Builtin.bitNot; omega
  unfold Builtin.bitOr Builtin.bitAnd
  simp only [decide_eq_false h1, decide_eq_false h2, e, Int.toNat_natCast]
theorem lc_next {lc c : Int} (h0 : 0 ≤ lc) (hc0 : 0 ≤ c) (hc : c < 256) : Builtin.bitAnd (Builtin.bitOr (lc * 2 ^ Int.toNat 8) c) 65535 = (lc * 256 + c) % 65536 := by
  rw [bitAnd_m16]
  congr 1
  obtain ⟨n, rfl⟩ := Int.eq_ofNat_of_zero_le h0
  obtain ⟨m, rfl⟩ := Int.eq_ofNat_of_zero_le hc0
  have e : (n : Int) * (2 : Int) ^ Int.toNat 8 = ((n <<< 8 : Nat) : Int) := by rw [Nat.shiftLeft_eq]; simp
  rw [e, bitOr_nat, ← Nat.shiftLeft_add_eq_or_of_lt (by omega), Nat.shiftLeft_eq]
  simp
theorem idx_at {x k : Int} (n : Nat) (h : 0 ≤ x) (e : (2 : Int) ^ n = k) (hk : 0 ≤ k) : Builtin.bitAnd (x.fdiv (2 ^ n)) 63 = x / k % 64 := by
  rw [bitAnd_m6, e, Int.fdiv_eq_ediv_of_nonneg _ hk]
theorem pv_succ1 (d : List Int) (i : Nat) : pv d (i + 1) 1 = d.getD i 0 := by simp [pv]
theorem pv_succ2 (d : List Int) (i : Nat) : pv d (i + 1) 2 = pv d i 1 := by
  unfold pv
  by_cases h : 1 ≤ i
  · rw [if_pos (by omega), if_pos h, show i + 1 - 2 = i - 1 by omega]
  · rw [if_neg (by omega), if_neg h]
theorem lcN_succ (d : List Int) (i : Nat) : lcN d (i + 1) = pv d i 1 * 256 + d.getD i 0 := by
  unfold lcN; rw [pv_succ1, pv_succ2]
theorem b64_lit : KBw.bInts #[65, 66, 67, 68, 69, 70, 71, 72, 73, 74, 75, 76, 77, 78, 79, 80, 81, 82, 83, 84, 85, 86, 87, 88, 89, 90, 97, 98, 99, 100, 101, 102, 103, 104, 105, 106, 107, 108, 109, 110, 111, 112, 113, 114, 115, 116, 117, 118, 119, 120, 121, 122, 48, 49, 50, 51, 52, 53, 54, 55, 56, 57, 43, 47] = b64c := by decide +kernel
theorem sx_len (d : List Int) (i : Nat) : (sx d i).length ≤ 2 := by
  unfold sx; split
  · simp
  · split <;> simp
theorem b64o_len (d : List Int) : ∀ i, (b64o d i).length ≤ 2 * i
  | 0 => by simp [b64o]
  | i + 1 => by
    have h1 := b64o_len d i
    have h2 := sx_len d i
    simp only [b64o, List.length_append]; omega

theorem getm_encode {x : Str} {t : Tok} {pl : Sem Bool} {Q : Value × List Value → Shared → Prop} {M : Model} {A : Around} {E : Value → Shared → Prop} {s : Shared} (h : Q (.builtin "str.encode", [.str x t]) s) : wpAny M A (getMethod (.str x t) "encode" pl) Q E s :=
  getMethod_builtin (typeIs_str _ _ _) PySem.F.plainAttrs_str PySem.F.slot_str_encode PySem.F.type_str_encode (fun a e => nomatch e) h
section
variable {w : World} {mg mb : Str → Option Value} {loose : List Str} {mean : ExcName → Option Value}

theorem written_gives (b : Array UInt8) (p q : Nat) (tb tp : Tok) (hp : p < 128) (hq : q < 128) (h3 : b.size % 3 = 0) (hb0 : b.size ≠ 0) (hbz : b.size ≤ 3000) : Gives w loose mean mg mb 8 200 212 [.bytes b tb, .str ⟨#[p, q]⟩ tp] (fun t => .str ⟨(wrB b p.toUInt8 q.toUInt8).map (·.toNat)⟩ t) := by
  w_top off
  unfold Gives
  k_fill
  intro dp un gd cn cs a ccd cl outer A₀ base h₀ L m news s Q E B F X N T hk hd hu hret
  refine wpAny_call ?_
  (k_dflt (refine' code_frozen ?k1 ?k2 ?k3 ?k4 ?k5 ?kA ?kF ?kK ?k6 ?k7 ?k8 ?k9 ?kB ?_ ?c2 ?c3 ?c4 ?c5; (case kA => exact rfl); (case kF => exact rfl); (case kK => assumption); (case k1 => k_asm); (case k2 => k_asm); (case k3 => k_asm); (case k4 => k_asm); (case k5 => k_asm); (case k6 => k_is); (case k7 => k_is); (case k8 => ktr_room); (case k9 => first | exact BindsTo.of_eq rfl | exact binds_K (by k_in) rfl (by k_is) rfl rfl rfl); (case c5 => decide); (case kB => exact locs rfl); (case c2 => exact rfl); (case c3 => exact rfl); (case c4 => exact rfl); k_whole; intro g' L' h' FG' F' N' B' X' T'; (try dsimp only); (try k_lift B'); (try k_fold)))
  repeat' ((fail_if_success (with_reducible show Mine.BytesFor _ _ _ _ _ _ _ _ _ _ _ _)); (fail_if_success (with_reducible show InvEndN _ _ _ _ _ _ _)); (first | ((with_reducible show wpAny _ _ (call (Value.builtin "str.encode") _) _ _ _); k_dflt (refine encode2 (by assumption) (by assumption) ?_); intro _ _) | ((with_reducible show wpAny _ _ (call (Value.builtin "bytes.decode") _) _ _ _); k_dflt (refine decodeA_K (by assumption) (by assumption) (by assumption) ?_); intro _ _) | ((with_reducible show wpAny _ _ (call (Value.builtin "bytes.translate") _) _ _ _); k_dflt (refine translate_K (trTbl_size _ _) (by assumption) ?_); intro _ _) | ((with_reducible show wpAny _ _ (call (Value.builtin "len") _) _ _ _); k_dflt (refine len_two ?_)) | ((with_reducible show wpAny _ _ (call (Value.type "bytes") _) _ _ _); k_dflt (refine KBa.make_K (by k_asm) (by k_asm) (by rfl) (by exact News.isList (by k_asm) (.head _)) (by assumption) (by assumption) (by omega) ?_); intro _ _ _ F' N' _) | ((with_reducible show wpAny _ _ (exec (Stmt.For (Expr.Name _ _) (Expr.Name _ _) (_ :: _) [] _) _) _ _ _); (rename Fr _ _ _ _ => lF'); (with_unfolding_all refine For_bytes (by rfl) lF' ?_; k_whole)) | ((with_reducible show wpAny _ _ (getMethod (Value.type "bytes") (Str.ofString "maketrans") _) _ _ _); (with_reducible refine getm_maketrans ?_)) | ((with_reducible show wpAny _ _ (call (Value.builtin "bytes.maketrans") _) _ _ _); (refine maketrans_K ?_); intro _ _) | ((with_reducible show wpAny _ _ (getMethod (Value.bytes _ _) (Str.ofString "translate") _) _ _ _); (with_reducible refine getm_translate ?_)) | ((with_reducible show wpAny _ _ (getMethod (Value.str _ _) (Str.ofString "encode") _) _ _ _); (with_reducible refine getm_encode ?_)) | ((with_reducible show wpAny _ _ (call (Value.type "type") [Value.bytes _ _]) _ _ _); refine call_type_of (Tx := "bytes") (PySem.W.typeIs_bytes _ _ _) (by decide +kernel) ?_) | ((with_reducible show wpAny _ _ (call (Value.builtin _) [Value.ref _, _]) _ _ _); k_dflt (refine append_K (by k_asm) (by k_asm) (by (refine Upd.head (by exact OwnOff.ne (by assumption) (.head _)))) ?_ (by ((try rw [Array.size_push]); omega)); k_whole); intro h' F' N'; (try k_sweep)) | ((with_reducible show wpAny _ _ (subscriptTail _ _ (Value.bytes _ _) (Value.int _ _)) _ _ _); k_dflt (refine KBw.item_K (ks := b64c) (by exact b64_lit) (by decide) (by exact (bitAnd_range _ (by decide)).1) (by exact Int.lt_of_le_of_lt (bitAnd_range _ (by decide)).2 (by decide)) ?_); intro _ _ _ _) | (k_unfold; (try dsimp only)) | walk1 | (dsimp only; walk1) | (leave1; try dsimp only)))
  rename Fr _ _ _ _ => F1
  rename News _ _ _ _ => N1
  refine ⟨b, _, _, _, (fun i m₁ n₁ => ∃ ol arr cnt t1 t2, m₁ (Str.ofString "out") = some (.ref ol) ∧ m₁ (Str.ofString "leftbits") = some (.int (lbN i) t1) ∧ m₁ (Str.ofString "leftchar") = some (.int (lcN (KBw.bInts b) i) t2) ∧ m₁ (Str.ofString "newline") = some (.bool false) ∧ n₁ = [(ol, listOf arr cnt)] ∧ IntsAre arr.toList (b64o (KBw.bInts b) i)), rfl, F1, N1, ⟨_, #[], 0, _, _, (by ((try dsimp only); (repeat' (first | rw [if_pos rfl] | rw [if_neg (by decide)])))), (by ((try dsimp only); (repeat' (first | rw [if_pos rfl] | rw [if_neg (by decide)]))); exact rfl), (by ((try dsimp only); (repeat' (first | rw [if_pos rfl] | rw [if_neg (by decide)]))); exact rfl), (by ((try dsimp only); (repeat' (first | rw [if_pos rfl] | rw [if_neg (by decide)])))), rfl, IntsAre.nil⟩, ?turn, ?done⟩
  case turn =>
    intro i c tv m₁ n₁ h₁ tk₁ own hc hJ hadr hoff F₁ N₁
    obtain ⟨ol, arr, cnt, t1, t2, hm1, hm2, hm3, hm4, rfl, hs⟩ := hJ
    simp only [List.map_cons, List.map_nil, List.cons.injEq, and_true] at hadr
    simp only [List.map_cons, List.map_nil] at hoff
    rw [← hadr] at hoff
    have hci : (KBw.bInts b).getD i 0 = (c.toNat : Int) := by
      rw [List.getD_eq_getElem?_getD, KBw.ints_get hc]; rfl
    have hcb : (0 : Int) ≤ (c.toNat : Int) ∧ (c.toNat : Int) < 256 := ⟨by omega, by have := c.toNat_lt; omega⟩
    have hp1 := pv_range b i 1
    have hp2 := pv_range b i 2
    have hlc : 0 ≤ lcN (KBw.bInts b) i ∧ lcN (KBw.bInts b) i < 65536 := by unfold lcN; omega
    have hsz : arr.size + 2 ≤ sizeLine := by
      have h1 := hs.length
      have h2 := b64o_len (KBw.bInts b) i
      have h3 : i < b.size := by
        rcases Nat.lt_or_ge i b.size with h | h
        · exact h
        · rw [Array.getElem?_eq_none h] at hc; cases hc
      rw [sizeLine_eq]; simp at h1; omega
    have hsucc : b64o (KBw.bInts b) (i + 1) = b64o (KBw.bInts b) i ++ sx (KBw.bInts b) i := rfl
    replace F₁ := fr_known [(Str.ofString "out", .ref ol), (Str.ofString "leftbits", .int (lbN i) t1), (Str.ofString "leftchar", .int (lcN (KBw.bInts b) i) t2), (Str.ofString "newline", .bool false)] F₁ (by simp [hm1, hm2, hm3, hm4])
    dsimp only [kstB] at F₁
    simp only [List.cons_append, List.nil_append] at N₁
    clear F1 N1 hm1 hm2 hm3 hm4
    generalize hlce : lcN (KBw.bInts b) i = lc at F₁ hlc
    have h012 : i % 3 = 0 ∨ i % 3 = 1 ∨ i % 3 = 2 := by omega
    have hlcx : Builtin.bitAnd (Builtin.bitOr (lc * (2 : Int) ^ Int.toNat 8) (c.toNat : Int)) 65535 = pv (KBw.bInts b) i 1 * 256 + (c.toNat : Int) := by
      rw [lc_next hlc.1 hcb.1 hcb.2]
      unfold lcN at hlce
      omega
    rcases h012 with h012 | h012 | h012
    · rw [show lbN i = 0 by simp [lbN, h012]] at F₁
      have hln : lbN (i + 1) = 2 := by simp [lbN]; omega
      have hi0 := idx_at (x := pv (KBw.bInts b) i 1 * 256 + (c.toNat : Int)) (k := 4) (0 + 8 - 6 : Int).toNat (by omega) (by decide) (by decide)
      have hsx : sx (KBw.bInts b) i = [b64c.getD (Builtin.bitAnd ((Builtin.bitAnd (Builtin.bitOr (lc * (2 : Int) ^ Int.toNat 8) (c.toNat : Int)) 65535).fdiv ((2 : Int) ^ (0 + 8 - 6 : Int).toNat)) 63).toNat 0] := by
        rw [hlcx, hi0]
        simp only [sx, h012, if_true, hci, bsg]
        rw [show (pv (KBw.bInts b) i 1 * 256 + (c.toNat : Int)) / 4 % 64 = (c.toNat : Int) / 4 by omega]
      try k_fold
      repeat' ((fail_if_success (with_reducible show InvEndN _ _ _ _ _ _ _)); (first | ((with_reducible show wpAny _ _ (call (Value.builtin "str.encode") _) _ _ _); k_dflt (refine encode2 (by assumption) (by assumption) ?_); intro _ _) | ((with_reducible show wpAny _ _ (call (Value.builtin "bytes.decode") _) _ _ _); k_dflt (refine decodeA_K (by assumption) (by assumption) (by assumption) ?_); intro _ _) | ((with_reducible show wpAny _ _ (call (Value.builtin "bytes.translate") _) _ _ _); k_dflt (refine translate_K (trTbl_size _ _) (by assumption) ?_); intro _ _) | ((with_reducible show wpAny _ _ (call (Value.builtin "len") _) _ _ _); k_dflt (refine len_two ?_)) | ((with_reducible show wpAny _ _ (call (Value.type "bytes") _) _ _ _); k_dflt (refine KBa.make_K (by k_asm) (by k_asm) (by rfl) (by exact News.isList (by k_asm) (.head _)) (by assumption) (by assumption) (by omega) ?_); intro _ _ _ F' N' _) | ((with_reducible show wpAny _ _ (exec (Stmt.For (Expr.Name _ _) (Expr.Name _ _) (_ :: _) [] _) _) _ _ _); (rename Fr _ _ _ _ => lF'); (with_unfolding_all refine For_bytes (by rfl) lF' ?_; k_whole)) | ((with_reducible show wpAny _ _ (getMethod (Value.type "bytes") (Str.ofString "maketrans") _) _ _ _); (with_reducible refine getm_maketrans ?_)) | ((with_reducible show wpAny _ _ (call (Value.builtin "bytes.maketrans") _) _ _ _); (refine maketrans_K ?_); intro _ _) | ((with_reducible show wpAny _ _ (getMethod (Value.bytes _ _) (Str.ofString "translate") _) _ _ _); (with_reducible refine getm_translate ?_)) | ((with_reducible show wpAny _ _ (getMethod (Value.str _ _) (Str.ofString "encode") _) _ _ _); (with_reducible refine getm_encode ?_)) | ((with_reducible show wpAny _ _ (call (Value.type "type") [Value.bytes _ _]) _ _ _); refine call_type_of (Tx := "bytes") (PySem.W.typeIs_bytes _ _ _) (by decide +kernel) ?_) | ((with_reducible show wpAny _ _ (call (Value.builtin _) [Value.ref _, _]) _ _ _); k_dflt (refine append_K (by k_asm) (by k_asm) (by (refine Upd.head (by exact OwnOff.ne (by assumption) (.head _)))) ?_ (by ((try rw [Array.size_push]); omega)); k_whole); intro h' F' N'; (try k_sweep)) | ((with_reducible show wpAny _ _ (subscriptTail _ _ (Value.bytes _ _) (Value.int _ _)) _ _ _); k_dflt (refine KBw.item_K (ks := b64c) (by exact b64_lit) (by decide) (by exact (bitAnd_range _ (by decide)).1) (by exact Int.lt_of_le_of_lt (bitAnd_range _ (by decide)).2 (by decide)) ?_); intro _ _ _ _) | (k_unfold; (try dsimp only)) | walk1 | (dsimp only; walk1) | (leave1; try dsimp only)))
      rename Fr _ _ _ _ => Fz
      rename News _ _ _ _ => Nz
      refine InvEndN.intro (nx := [(ol, listOf ((arr).push (.int _ _)) (cnt + 1))]) Fz Nz ⟨ol, _, _, ?tA0, ?tB0, ?h10, ?h20, ?h30, ?h40, rfl, ?h50⟩ (by simp only [List.map_cons, List.map_nil]; rw [hadr]) (by intro p hp; rw [List.mem_singleton.mp hp]; exact List.Mem.head _) (fun p hp => List.Mem.tail _ hp)
      case h10 => ((try dsimp only); (repeat' (first | rw [if_pos rfl] | rw [if_neg (by decide)])))
      case h20 => ((try dsimp only); (repeat' (first | rw [if_pos rfl] | rw [if_neg (by decide)]))); rw [hln]; exact rfl
      case h30 => ((try dsimp only); (repeat' (first | rw [if_pos rfl] | rw [if_neg (by decide)]))); rw [lcN_succ, hci, ← hlcx]
      case h40 => ((try dsimp only); (repeat' (first | rw [if_pos rfl] | rw [if_neg (by decide)])))
      case h50 => rw [hsucc, hsx, Array.toList_push]; exact hs.append (.cons _ _ .nil)
    · rw [show lbN i = 2 by simp [lbN, h012]] at F₁
      have hln : lbN (i + 1) = 4 := by simp [lbN]; omega
      have hi0 := idx_at (x := pv (KBw.bInts b) i 1 * 256 + (c.toNat : Int)) (k := 16) (2 + 8 - 6 : Int).toNat (by omega) (by decide) (by decide)
      have hsx : sx (KBw.bInts b) i = [b64c.getD (Builtin.bitAnd ((Builtin.bitAnd (Builtin.bitOr (lc * (2 : Int) ^ Int.toNat 8) (c.toNat : Int)) 65535).fdiv ((2 : Int) ^ (2 + 8 - 6 : Int).toNat)) 63).toNat 0] := by
        rw [hlcx, hi0]
        simp only [sx, h012, if_true, hci, bsg]
        rw [show (pv (KBw.bInts b) i 1 * 256 + (c.toNat : Int)) / 16 % 64 = pv (KBw.bInts b) i 1 % 4 * 16 + (c.toNat : Int) / 16 by omega]
        rfl
      try k_fold
      repeat' ((fail_if_success (with_reducible show InvEndN _ _ _ _ _ _ _)); (first | ((with_reducible show wpAny _ _ (call (Value.builtin "str.encode") _) _ _ _); k_dflt (refine encode2 (by assumption) (by assumption) ?_); intro _ _) | ((with_reducible show wpAny _ _ (call (Value.builtin "bytes.decode") _) _ _ _); k_dflt (refine decodeA_K (by assumption) (by assumption) (by assumption) ?_); intro _ _) | ((with_reducible show wpAny _ _ (call (Value.builtin "bytes.translate") _) _ _ _); k_dflt (refine translate_K (trTbl_size _ _) (by assumption) ?_); intro _ _) | ((with_reducible show wpAny _ _ (call (Value.builtin "len") _) _ _ _); k_dflt (refine len_two ?_)) | ((with_reducible show wpAny _ _ (call (Value.type "bytes") _) _ _ _); k_dflt (refine KBa.make_K (by k_asm) (by k_asm) (by rfl) (by exact News.isList (by k_asm) (.head _)) (by assumption) (by assumption) (by omega) ?_); intro _ _ _ F' N' _) | ((with_reducible show wpAny _ _ (exec (Stmt.For (Expr.Name _ _) (Expr.Name _ _) (_ :: _) [] _) _) _ _ _); (rename Fr _ _ _ _ => lF'); (with_unfolding_all refine For_bytes (by rfl) lF' ?_; k_whole)) | ((with_reducible show wpAny _ _ (getMethod (Value.type "bytes") (Str.ofString "maketrans") _) _ _ _); (with_reducible refine getm_maketrans ?_)) | ((with_reducible show wpAny _ _ (call (Value.builtin "bytes.maketrans") _) _ _ _); (refine maketrans_K ?_); intro _ _) | ((with_reducible show wpAny _ _ (getMethod (Value.bytes _ _) (Str.ofString "translate") _) _ _ _); (with_reducible refine getm_translate ?_)) | ((with_reducible show wpAny _ _ (getMethod (Value.str _ _) (Str.ofString "encode") _) _ _ _); (with_reducible refine getm_encode ?_)) | ((with_reducible show wpAny _ _ (call (Value.type "type") [Value.bytes _ _]) _ _ _); refine call_type_of (Tx := "bytes") (PySem.W.typeIs_bytes _ _ _) (by decide +kernel) ?_) | ((with_reducible show wpAny _ _ (call (Value.builtin _) [Value.ref _, _]) _ _ _); k_dflt (refine append_K (by k_asm) (by k_asm) (by (refine Upd.head (by exact OwnOff.ne (by assumption) (.head _)))) ?_ (by ((try rw [Array.size_push]); omega)); k_whole); intro h' F' N'; (try k_sweep)) | ((with_reducible show wpAny _ _ (subscriptTail _ _ (Value.bytes _ _) (Value.int _ _)) _ _ _); k_dflt (refine KBw.item_K (ks := b64c) (by exact b64_lit) (by decide) (by exact (bitAnd_range _ (by decide)).1) (by exact Int.lt_of_le_of_lt (bitAnd_range _ (by decide)).2 (by decide)) ?_); intro _ _ _ _) | (k_unfold; (try dsimp only)) | walk1 | (dsimp only; walk1) | (leave1; try dsimp only)))
      rename Fr _ _ _ _ => Fz
      rename News _ _ _ _ => Nz
      refine InvEndN.intro (nx := [(ol, listOf ((arr).push (.int _ _)) (cnt + 1))]) Fz Nz ⟨ol, _, _, ?tA1, ?tB1, ?h11, ?h21, ?h31, ?h41, rfl, ?h51⟩ (by simp only [List.map_cons, List.map_nil]; rw [hadr]) (by intro p hp; rw [List.mem_singleton.mp hp]; exact List.Mem.head _) (fun p hp => List.Mem.tail _ hp)
      case h11 => ((try dsimp only); (repeat' (first | rw [if_pos rfl] | rw [if_neg (by decide)])))
      case h21 => ((try dsimp only); (repeat' (first | rw [if_pos rfl] | rw [if_neg (by decide)]))); rw [hln]; exact rfl
      case h31 => ((try dsimp only); (repeat' (first | rw [if_pos rfl] | rw [if_neg (by decide)]))); rw [lcN_succ, hci, ← hlcx]
      case h41 => ((try dsimp only); (repeat' (first | rw [if_pos rfl] | rw [if_neg (by decide)])))
      case h51 => rw [hsucc, hsx, Array.toList_push]; exact hs.append (.cons _ _ .nil)
    · rw [show lbN i = 4 by simp [lbN, h012]] at F₁
      have hln : lbN (i + 1) = 0 := by simp [lbN]; omega
      have hi0 := idx_at (x := pv (KBw.bInts b) i 1 * 256 + (c.toNat : Int)) (k := 64) (4 + 8 - 6 : Int).toNat (by omega) (by decide) (by decide)
      have hi1 := idx_at (x := pv (KBw.bInts b) i 1 * 256 + (c.toNat : Int)) (k := 1) (4 + 8 - 6 - 6 : Int).toNat (by omega) (by decide) (by decide)
      have hsx : sx (KBw.bInts b) i = [b64c.getD (Builtin.bitAnd ((Builtin.bitAnd (Builtin.bitOr (lc * (2 : Int) ^ Int.toNat 8) (c.toNat : Int)) 65535).fdiv ((2 : Int) ^ (4 + 8 - 6 : Int).toNat)) 63).toNat 0, b64c.getD (Builtin.bitAnd ((Builtin.bitAnd (Builtin.bitOr (lc * (2 : Int) ^ Int.toNat 8) (c.toNat : Int)) 65535).fdiv ((2 : Int) ^ (4 + 8 - 6 - 6 : Int).toNat)) 63).toNat 0] := by
        rw [hlcx, hi0, hi1]
        simp only [sx, h012, if_true, hci, bsg]
        rw [show (pv (KBw.bInts b) i 1 * 256 + (c.toNat : Int)) / 64 % 64 = pv (KBw.bInts b) i 1 % 16 * 4 + (c.toNat : Int) / 64 by omega, show (pv (KBw.bInts b) i 1 * 256 + (c.toNat : Int)) / 1 % 64 = (c.toNat : Int) % 64 by omega]
        rfl
      try k_fold
      repeat' ((fail_if_success (with_reducible show InvEndN _ _ _ _ _ _ _)); (first | ((with_reducible show wpAny _ _ (call (Value.builtin "str.encode") _) _ _ _); k_dflt (refine encode2 (by assumption) (by assumption) ?_); intro _ _) | ((with_reducible show wpAny _ _ (call (Value.builtin "bytes.decode") _) _ _ _); k_dflt (refine decodeA_K (by assumption) (by assumption) (by assumption) ?_); intro _ _) | ((with_reducible show wpAny _ _ (call (Value.builtin "bytes.translate") _) _ _ _); k_dflt (refine translate_K (trTbl_size _ _) (by assumption) ?_); intro _ _) | ((with_reducible show wpAny _ _ (call (Value.builtin "len") _) _ _ _); k_dflt (refine len_two ?_)) | ((with_reducible show wpAny _ _ (call (Value.type "bytes") _) _ _ _); k_dflt (refine KBa.make_K (by k_asm) (by k_asm) (by rfl) (by exact News.isList (by k_asm) (.head _)) (by assumption) (by assumption) (by omega) ?_); intro _ _ _ F' N' _) | ((with_reducible show wpAny _ _ (exec (Stmt.For (Expr.Name _ _) (Expr.Name _ _) (_ :: _) [] _) _) _ _ _); (rename Fr _ _ _ _ => lF'); (with_unfolding_all refine For_bytes (by rfl) lF' ?_; k_whole)) | ((with_reducible show wpAny _ _ (getMethod (Value.type "bytes") (Str.ofString "maketrans") _) _ _ _); (with_reducible refine getm_maketrans ?_)) | ((with_reducible show wpAny _ _ (call (Value.builtin "bytes.maketrans") _) _ _ _); (refine maketrans_K ?_); intro _ _) | ((with_reducible show wpAny _ _ (getMethod (Value.bytes _ _) (Str.ofString "translate") _) _ _ _); (with_reducible refine getm_translate ?_)) | ((with_reducible show wpAny _ _ (getMethod (Value.str _ _) (Str.ofString "encode") _) _ _ _); (with_reducible refine getm_encode ?_)) | ((with_reducible show wpAny _ _ (call (Value.type "type") [Value.bytes _ _]) _ _ _); refine call_type_of (Tx := "bytes") (PySem.W.typeIs_bytes _ _ _) (by decide +kernel) ?_) | ((with_reducible show wpAny _ _ (call (Value.builtin _) [Value.ref _, _]) _ _ _); k_dflt (refine append_K (by k_asm) (by k_asm) (by (refine Upd.head (by exact OwnOff.ne (by assumption) (.head _)))) ?_ (by ((try rw [Array.size_push]); omega)); k_whole); intro h' F' N'; (try k_sweep)) | ((with_reducible show wpAny _ _ (subscriptTail _ _ (Value.bytes _ _) (Value.int _ _)) _ _ _); k_dflt (refine KBw.item_K (ks := b64c) (by exact b64_lit) (by decide) (by exact (bitAnd_range _ (by decide)).1) (by exact Int.lt_of_le_of_lt (bitAnd_range _ (by decide)).2 (by decide)) ?_); intro _ _ _ _) | (k_unfold; (try dsimp only)) | walk1 | (dsimp only; walk1) | (leave1; try dsimp only)))
      rename Fr _ _ _ _ => Fz
      rename News _ _ _ _ => Nz
      refine InvEndN.intro (nx := [(ol, listOf (((arr).push (.int _ _)).push (.int _ _)) (cnt + 1 + 1))]) Fz Nz ⟨ol, _, _, ?tA2, ?tB2, ?h12, ?h22, ?h32, ?h42, rfl, ?h52⟩ (by simp only [List.map_cons, List.map_nil]; rw [hadr]) (by intro p hp; rw [List.mem_singleton.mp hp]; exact List.Mem.head _) (fun p hp => List.Mem.tail _ hp)
      case h12 => ((try dsimp only); (repeat' (first | rw [if_pos rfl] | rw [if_neg (by decide)])))
      case h22 => ((try dsimp only); (repeat' (first | rw [if_pos rfl] | rw [if_neg (by decide)]))); rw [hln]; exact rfl
      case h32 => ((try dsimp only); (repeat' (first | rw [if_pos rfl] | rw [if_neg (by decide)]))); rw [lcN_succ, hci, ← hlcx]
      case h42 => ((try dsimp only); (repeat' (first | rw [if_pos rfl] | rw [if_neg (by decide)])))
      case h52 => rw [hsucc, hsx, Array.toList_push, Array.toList_push]; rw [List.append_assoc]; exact hs.append (.cons _ _ (.cons _ _ .nil))
  case done =>
    intro h₂ tk₂ m₂ n₂ F₂ N₂ hJ
    obtain ⟨ol, arr, cnt, t1, t2, hm1, hm2, hm3, hm4, rfl, hs⟩ := hJ
    rw [show lbN b.size = 0 by simp [lbN, h3]] at hm2
    have hlen := b64o_len (KBw.bInts b) b.size
    have hin := b64o_in (KBw.bInts b) b.size
    have hsz : (byteArr (b64o (KBw.bInts b) b.size)).size ≤ 16777216 := by rw [byteArr_size]; omega
    have hne : (wrB b p.toUInt8 q.toUInt8).size ≠ 0 := by
      unfold wrB; rw [Array.size_map, byteArr_size]
      have := b64o_pos (KBw.bInts b) (i := b.size) (by omega)
      omega
    have hwz : (wrB b p.toUInt8 q.toUInt8).size ≤ 16777216 := by unfold wrB; rw [Array.size_map]; exact hsz
    have hasc := wrB_ascii b p.toUInt8 q.toUInt8 (u8_lt hp) (u8_lt hq)
    replace F₂ := fr_known [(Str.ofString "out", .ref ol), (Str.ofString "leftbits", .int 0 t1), (Str.ofString "leftchar", .int (lcN (KBw.bInts b) b.size) t2), (Str.ofString "newline", .bool false)] F₂ (by simp [hm1, hm2, hm3, hm4])
    dsimp only [kstB] at F₂
    clear F1 N1 hm1 hm2 hm3 hm4
    try k_fold
    repeat' ((fail_if_success (with_reducible show Back _ _ _ _ _ _)); (first | ((with_reducible show wpAny _ _ (call (Value.builtin "str.encode") _) _ _ _); k_dflt (refine encode2 (by assumption) (by assumption) ?_); intro _ _) | ((with_reducible show wpAny _ _ (call (Value.builtin "bytes.decode") _) _ _ _); k_dflt (refine decodeA_K (by assumption) (by assumption) (by assumption) ?_); intro _ _) | ((with_reducible show wpAny _ _ (call (Value.builtin "bytes.translate") _) _ _ _); k_dflt (refine translate_K (trTbl_size _ _) (by assumption) ?_); intro _ _) | ((with_reducible show wpAny _ _ (call (Value.builtin "len") _) _ _ _); k_dflt (refine len_two ?_)) | ((with_reducible show wpAny _ _ (call (Value.type "bytes") _) _ _ _); k_dflt (refine KBa.make_K (by k_asm) (by k_asm) (by rfl) (by exact News.isList (by k_asm) (.head _)) (by assumption) (by assumption) (by omega) ?_); intro _ _ _ F' N' _) | ((with_reducible show wpAny _ _ (exec (Stmt.For (Expr.Name _ _) (Expr.Name _ _) (_ :: _) [] _) _) _ _ _); (rename Fr _ _ _ _ => lF'); (with_unfolding_all refine For_bytes (by rfl) lF' ?_; k_whole)) | ((with_reducible show wpAny _ _ (getMethod (Value.type "bytes") (Str.ofString "maketrans") _) _ _ _); (with_reducible refine getm_maketrans ?_)) | ((with_reducible show wpAny _ _ (call (Value.builtin "bytes.maketrans") _) _ _ _); (refine maketrans_K ?_); intro _ _) | ((with_reducible show wpAny _ _ (getMethod (Value.bytes _ _) (Str.ofString "translate") _) _ _ _); (with_reducible refine getm_translate ?_)) | ((with_reducible show wpAny _ _ (getMethod (Value.str _ _) (Str.ofString "encode") _) _ _ _); (with_reducible refine getm_encode ?_)) | ((with_reducible show wpAny _ _ (call (Value.type "type") [Value.bytes _ _]) _ _ _); refine call_type_of (Tx := "bytes") (PySem.W.typeIs_bytes _ _ _) (by decide +kernel) ?_) | ((with_reducible show wpAny _ _ (call (Value.builtin _) [Value.ref _, _]) _ _ _); k_dflt (refine append_K (by k_asm) (by k_asm) (by (refine Upd.head (by exact OwnOff.ne (by assumption) (.head _)))) ?_ (by ((try rw [Array.size_push]); omega)); k_whole); intro h' F' N'; (try k_sweep)) | ((with_reducible show wpAny _ _ (subscriptTail _ _ (Value.bytes _ _) (Value.int _ _)) _ _ _); k_dflt (refine KBw.item_K (ks := b64c) (by exact b64_lit) (by decide) (by exact (bitAnd_range _ (by decide)).1) (by exact Int.lt_of_le_of_lt (bitAnd_range _ (by decide)).2 (by decide)) ?_); intro _ _ _ _) | (k_unfold; (try dsimp only)) | walk1 | (dsimp only; walk1) | (leave1; try dsimp only)))
    all_goals (intro hN0; exact hret _ _ _ (by assumption) hN0)
end
end
section
open PySem PySem.W PyProof.Rows PySem.Calls PySem.Builtin PySem.Builtin.Re
set_option maxRecDepth 100000
set_option maxHeartbeats 2000000
set_option linter.unusedSimpArgs false
def rcode : List Nat := [14, 17, 4, 1, 1, 21, 9, 0, 604043296, 1, 0, 0, 0, 0, 0, 8, 4, 0, 13, 14, 21, 9, 0, 604043296, 1, 0, 0, 0, 0, 0, 8, 4, 0, 1]
def rcA : Array Nat := rcode.toArray
def codeO : Obj := { cls := .type "tuple", data := .seq (rcode.map fun (n : Nat) => Value.int (n : Int) 0).toArray }
def patO : Obj := { cls := .type "re.Pattern", data := .fields #[.str (Str.ofString "[^\\w@%+=:,./-]") 292, .int 256 329, .int 0 0, .none, .none, .ref 42, .int 0 0] }
def bndO : Obj := { cls := .type "builtin_function_or_method", data := .fields #[.builtin "re.Pattern.search", .ref 43] }
theorem look42 (P : Params) : (hd.heap_39 P).lookup 42 = some codeO := by rfl
theorem look43 (P : Params) : (hd.heap_39 P).lookup 43 = some patO := by rfl
theorem look44 (P : Params) : (hd.heap_39 P).lookup 44 = some bndO := by rfl
/-- a sign that stands in a shell as it is -/
def safeC (c : Nat) : Bool := Sre.isWord c || c == 37 || c == 43 || c == 44 || c == 45 || c == 46 || c == 47 || c == 58 || c == 61 || c == 64
theorem in_neg (c f i : Nat) (yes : Bool) (seen : Sre.Seen) (h : rcA.getD i 0 = 21) : Sre.inSet rcA c (f + 1) i yes seen = Sre.inSet rcA c f (i + 1) (!yes) (seen.add 21) := by
  rw [Sre.inSet]
  simp only [Nat.add_zero, h]
  rfl
theorem in_fail (c f i : Nat) (yes : Bool) (seen : Sre.Seen) (h : rcA.getD i 0 = 0) : Sre.inSet rcA c (f + 1) i yes seen = .ok (!yes, seen.add 0) := by
  rw [Sre.inSet]
  simp only [Nat.add_zero, h]
  rfl
theorem in_cat (c f i : Nat) (yes : Bool) (seen : Sre.Seen) (h : rcA.getD i 0 = 8) (h1 : rcA.getD (i + 1) 0 = 4) : ∃ sn sm, Sre.inSet rcA c (f + 1) i yes seen = if Sre.isWord c = true then .ok (yes, sn) else Sre.inSet rcA c f (i + 2) yes sm := by
  refine ⟨((seen.add 8).add (55 + 4)), ((seen.add 8).add (55 + 4)), ?_⟩
  rw [Sre.inSet]
  simp only [Nat.add_zero, h, h1]
  show (do if ← Sre.category 4 c then pure (yes, _) else Sre.inSet rcA c f (i + 2) yes _) = _
  have hc : Sre.category 4 c = .ok (Sre.isWord c) := by
    unfold Sre.category
    simp [Except.map]
  rw [hc]
  cases Sre.isWord c <;> rfl
theorem in_set (c f i : Nat) (yes : Bool) (seen : Sre.Seen) (h : rcA.getD i 0 = 9) : Sre.inSet rcA c (f + 1) i yes seen = if (decide (c < 256) && (rcA.getD (i + (1 + c / 32)) 0).testBit (c % 32)) = true then .ok (yes, seen.add 9) else Sre.inSet rcA c f (i + 9) yes (seen.add 9) := by
  rw [Sre.inSet]
  simp only [Nat.add_zero, h]
  rfl
theorem safe_dec : ∀ c, c < 128 → ∀ i, (i = 6 ∨ i = 21) → ((decide (c < 256) && (rcA.getD (i + (1 + c / 32)) 0).testBit (c % 32)) || Sre.isWord c) = safeC c := by
  intro c hc i hi
  rcases hi with rfl | rfl
  · revert c; decide +kernel
  · revert c; decide +kernel
theorem inSet_at (c : Nat) (hc : c < 128) (seen : Sre.Seen) (i : Nat) (hi : i = 5 ∨ i = 20) : ∃ seen', Sre.inSet rcA c rcA.size i true seen = .ok (!safeC c, seen') := by
  have h0 : rcA.getD i 0 = 21 := by rcases hi with rfl | rfl <;> decide
  have h1 : rcA.getD (i + 1) 0 = 9 := by rcases hi with rfl | rfl <;> decide
  have h2 : rcA.getD (i + 1 + 9) 0 = 8 := by rcases hi with rfl | rfl <;> decide
  have h3 : rcA.getD (i + 1 + 9 + 1) 0 = 4 := by rcases hi with rfl | rfl <;> decide
  have h4 : rcA.getD (i + 1 + 9 + 2) 0 = 0 := by rcases hi with rfl | rfl <;> decide
  have hs := safe_dec c hc (i + 1) (by omega)
  rw [show rcA.size = 30 + 1 + 1 + 1 + 1 from rfl, in_neg c _ i true seen h0, in_set c _ (i + 1) _ _ h1]
  obtain ⟨sn, sm, e⟩ := in_cat c 31 (i + 1 + 9) (!true) ((seen.add 21).add 9) h2 h3
  split
  · rename_i hh
    rw [hh, Bool.true_or] at hs
    exact ⟨_, by rw [← hs]; try rfl⟩
  · rename_i hh
    rw [Bool.eq_false_iff.mpr hh, Bool.false_or] at hs
    rw [show (30 + 1 + 1 : Nat) = 31 + 1 from rfl, e]
    split
    · rename_i hw
      rw [hw] at hs
      exact ⟨_, by rw [← hs]; try rfl⟩
    · rename_i hw
      rw [Bool.eq_false_iff.mpr hw] at hs
      rw [show (31 : Nat) = 30 + 1 from rfl, in_fail c _ _ _ _ h4]
      exact ⟨_, by rw [← hs]; try rfl⟩

theorem adm_none (m : Sre.M) (hc : m.code = rcA) (hall : ∀ k, k < m.lim → m.text.getD k 0 < 128 ∧ safeC (m.text.getD k 0) = true) : ∀ fuel s seen, ∃ seen', Sre.M.admitted m fuel s seen = .ok (none, seen')
  | 0, _, seen => ⟨seen, rfl⟩
  | f + 1, s, seen => by
    rw [Sre.M.admitted]
    by_cases h : s ≥ m.lim
    · rw [if_pos h]; exact ⟨_, rfl⟩
    · rw [if_neg h, hc]
      obtain ⟨h1, h2⟩ := hall s (by omega)
      obtain ⟨sn, e⟩ := inSet_at _ h1 seen 5 (.inl rfl)
      rw [e, h2]
      exact adm_none m hc hall f (s + 1) sn
theorem adm_some (m : Sre.M) (hc : m.code = rcA) (hall : ∀ k, k < m.lim → m.text.getD k 0 < 128) : ∀ fuel s seen, m.lim < fuel + s → (∃ k, s ≤ k ∧ k < m.lim ∧ safeC (m.text.getD k 0) = false) →
    ∃ j seen', Sre.M.admitted m fuel s seen = .ok (some j, seen') ∧ j < m.lim ∧ safeC (m.text.getD j 0) = false
  | 0, s, seen, hf, ⟨k, h1, h2, _⟩ => by omega
  | f + 1, s, seen, hf, ⟨k, h1, h2, h3⟩ => by
    rw [Sre.M.admitted, if_neg (by omega), hc]
    obtain ⟨sn, e⟩ := inSet_at _ (hall s (by omega)) seen 5 (.inl rfl)
    rw [e]
    cases hs : safeC (m.text.getD s 0) with
    | false => exact ⟨s, sn, rfl, by omega, hs⟩
    | true =>
      have hne : s ≠ k := fun q => by rw [q, h3] at hs; cases hs
      exact adm_some m hc hall f (s + 1) sn (by omega) ⟨k, by omega, h2, h3⟩
theorem hasSet (m : Sre.M) (hc : m.code = rcA) : m.hasFirstSet = true := by
  unfold Sre.M.hasFirstSet; rw [hc]; decide
def M0 (t : Array Nat) : Sre.M := { code := rcA, text := t, lim := t.size, start := 0, lastStart := t.size, pc := 18, pos := 0, handed := 0, marks := #[], mustAdvance := false, seen := ({} : Sre.Seen).add 14 }
theorem forSearch_eq (t : Array Nat) (h : 1 ≤ t.size) : Sre.forSearch rcA t 0 0 t.size false = (M0 t).attemptFrom 0 true := by
  show (if (decide (0 > t.size) || decide (t.size - 0 < 1)) = true then _ else _) = _
  rw [if_neg (by rw [Bool.or_eq_true, decide_eq_true_eq, decide_eq_true_eq]; omega)]
  rfl
theorem run_none (t : Array Nat) (h : 1 ≤ t.size) (hall : ∀ k, k < t.size → t.getD k 0 < 128 ∧ safeC (t.getD k 0) = true) : ((Sre.forSearch rcA t 0 0 t.size false).runFor 4).outcome = some .failed := by
  rw [forSearch_eq t h]
  unfold Sre.M.attemptFrom
  rw [hasSet _ rfl]
  obtain ⟨sn, e⟩ := adm_none (M0 t) rfl hall (t.size + 1 - 0) 0 (M0 t).seen
  rw [if_neg (by decide)]
  show (Sre.M.runFor 4 (match Sre.M.admitted (M0 t) (t.size + 1 - 0) 0 (M0 t).seen with | .ok (some s, seen) => _ | .ok (none, seen) => _ | .error why => _)).outcome = _
  rw [e]
  rfl
theorem run_some (t : Array Nat) (h : 1 ≤ t.size) (hall : ∀ k, k < t.size → t.getD k 0 < 128) (hex : ∃ k, k < t.size ∧ safeC (t.getD k 0) = false) : ((Sre.forSearch rcA t 0 0 t.size false).runFor 4).outcome = some .matched := by
  rw [forSearch_eq t h]
  unfold Sre.M.attemptFrom
  rw [hasSet _ rfl]
  obtain ⟨k, hk1, hk2⟩ := hex
  obtain ⟨j, sn, e, hj, hs⟩ := adm_some (M0 t) rfl hall (t.size + 1 - 0) 0 (M0 t).seen (by show t.size < t.size + 1 - 0 + 0; omega) ⟨k, Nat.zero_le _, hk1, hk2⟩
  rw [if_neg (by decide)]
  show (Sre.M.runFor 4 (match Sre.M.admitted (M0 t) (t.size + 1 - 0) 0 (M0 t).seen with | .ok (some s, seen) => _ | .ok (none, seen) => _ | .error why => _)).outcome = _
  rw [e]
  dsimp only
  have hj' : j < t.size := hj
  have hs' : safeC (t.getD j 0) = false := hs
  have at0 : ∀ sn : Sre.Seen, Sre.M.attemptAt { M0 t with seen := sn } j true = { M0 t with start := j, pos := j, pc := 18, outermost := true, handed := j, frames := [{ wait := .nextStart, pc := 18, pos := j, outermost := true }], weight := 1, seen := sn } := by
    intro sn
    unfold Sre.M.attemptAt Sre.M.attempt
    show (if ((0 : Nat) + 1 + 0 > 16777216) then _ else _) = _
    rw [if_neg (by decide)]
    rfl
  have st1 : ∀ sn : Sre.Seen, ∃ sn', Sre.M.step { M0 t with start := j, pos := j, pc := 18, outermost := true, handed := j, frames := [{ wait := .nextStart, pc := 18, pos := j, outermost := true }], weight := 1, seen := sn } = { M0 t with start := j, pos := j + 1, pc := 33, outermost := true, handed := j, frames := [{ wait := .nextStart, pc := 18, pos := j, outermost := true }], weight := 1, seen := sn' } := by
    intro sn
    obtain ⟨sn', e'⟩ := inSet_at (t.getD j 0) (hall j hj') (sn.add 13) 20 (.inr rfl)
    rw [hs'] at e'
    refine ⟨sn', ?_⟩
    unfold Sre.M.step
    show (if ((none : Option Sre.Outcome).isSome = true) then _ else _) = _
    rw [if_neg (by decide)]
    show (if 18 < rcA.size then _ else _) = _
    rw [if_pos (by decide)]
    unfold Sre.M.exec
    show (if j ≥ t.size then _ else match Sre.accepts rcA 18 (t.getD j 0) (sn.add 13) with | .error why => _ | .ok (false, seen) => _ | .ok (true, seen) => _) = _
    rw [if_neg (by omega)]
    have ha : Sre.accepts rcA 18 (t.getD j 0) (sn.add 13) = Sre.inSet rcA (t.getD j 0) rcA.size 20 true (sn.add 13) := rfl
    rw [ha, e']
    rfl
  obtain ⟨sn1, e1⟩ := st1 sn
  have go : ∀ m : Sre.M, m.outcome = none → ∀ n, Sre.M.runFor (n + 1) m = Sre.M.runFor n m.step := by
    intro m hm n
    rw [Sre.M.runFor, if_neg (by rw [hm]; decide)]
  refine (congrArg (fun m => (Sre.M.runFor 4 m).outcome) (at0 sn)).trans ?_
  show (Sre.M.runFor 4 _).outcome = _
  rw [go _ rfl, e1, go _ rfl]
  have e2 : Sre.M.step { M0 t with start := j, pos := j + 1, pc := 33, outermost := true, handed := j, frames := [{ wait := .nextStart, pc := 18, pos := j, outermost := true }], weight := 1, seen := sn1 } = { M0 t with start := j, pos := j + 1, pc := 33, outermost := true, handed := j + 1, frames := [{ wait := .nextStart, pc := 18, pos := j, outermost := true }], weight := 1, seen := sn1.add 1, answer := some true } := rfl
  rw [e2]
  rfl
end
section
open PySem PySem.W PyProof.Rows PySem.Calls PySem.Builtin PySem.Builtin.Re
set_option maxRecDepth 100000
set_option maxHeartbeats 2000000
section
variable {prog : Program} {w : World} {M : Model} {A : Around} {E : Value → Shared → Prop} {s : Shared} {h₀ : Heap} {L : Addr} {m : PySem.Str → Option Value} {news : List (Addr × Obj)}
theorem entry_se : entryFor table "re.Pattern.search" = some Builtin.«re.Pattern.search» := entryFor_of_tree (by kernel_rfl)
theorem quiet_se {as : Args} : (Code.builtin "re.Pattern.search" as).quiet = true := Code.quiet_builtin _ (by decide +kernel)
def Stands44 (h : Heap) : Prop := h.get? 44 = some bndO ∧ h.get? 43 = some patO ∧ h.get? 42 = some codeO
theorem at44 {h : Heap} {P : Params} (F : Fr h₀ L h m) (X₀ : (hd.heap_39 P).In h₀) : Stands44 h :=
  have X := X₀.keeps F.keep
  ⟨X _ _ (look44 P), X _ _ (look43 P), X _ _ (look42 P)⟩

theorem callWith_44 {pos : Pos} {first : List Value} {args : List (Bool × Sem Value)} {Q : Value → Shared → Prop} (hplain : args.any (·.1) = false)
    (h : wpAny M A (evalArgs (.ref 44) true args []) (fun x s₁ => Stands44 s₁.heap ∧ wpAny M A (call (.ref 44) (first ++ x.pos) x.kw) Q E s₁) E s) : wpAny M A (callWith pos (.ref 44) first args []) Q E s := by
  unfold callWith
  refine wpAny_bind (wpAny_holding (wpAny_mono h (fun x s₁ h₁ => wpAny_bind (wpAny_standAt ?_)) fun _ _ x => x))
  obtain ⟨ho, hcall⟩ := h₁
  simp only [hplain, List.any_nil, Bool.or_false]
  refine wpAny_bind (m := keeperOf (.ref 44)) ?_
  unfold keeperOf
  refine wpAny_bind (wpAny_load ho.1 ?_)
  simp only [bndO, show (Value.type "builtin_function_or_method" != Value.type "method") = true by decide, show (Value.type "builtin_function_or_method" == Value.type "builtin_function_or_method" || Value.type "builtin_function_or_method" == Value.type "method-wrapper") = true by decide, if_true]
  refine wpAny_pure ?_
  exact wpAny_bind (wpAny_mono hcall (fun r s₂ hr => wpAny_bind (wpAny_holding (wpAny_point (wpAny_pure hr)))) fun _ _ x => x)
theorem callWith_44b {pos : Pos} {first : List Value} {env : Env} {e : Expr} {rest : List Expr} {Q : Value → Shared → Prop}
    (h : wpAny M A (spliced (backTo pos (starEach (e :: rest) env))) (fun vs s₁ => Stands44 s₁.heap ∧ wpAny M A (call (.ref 44) (first ++ vs)) Q E s₁) E s)
    (he : starEach (e :: rest) env = (false, eval e env) :: starEach rest env := by rfl) (hplain : (backTo pos (starEach rest env)).any (·.1) = false := by rfl) :
    wpAny M A (callWith pos (.ref 44) first (backTo pos (starEach (e :: rest) env)) []) Q E s := by
  rw [he] at h ⊢
  refine callWith_44 (by show (false || (backTo pos (starEach rest env)).any (·.1)) = false; rw [hplain]; rfl) ?_
  exact evalArgs_plain h
def sgS : Manifest.Signature := { machinery := .keywords, full := "Pattern.search", short := "search", receiver := .self, params := [{ name := "string", kind := .posOrKw, required := true }, { name := "pos", kind := .posOrKw, required := false }, { name := "endpos", kind := .posOrKw, required := false }] }
theorem sig_se : Manifest.signature? "re.Pattern.search" = some sgS := by kernel_rfl
theorem kind_se : builtinKind "re.Pattern.search" = some .method := by kernel_rfl
theorem vara_se : Manifest.varargsMethods.contains "re.Pattern.search" = false := by decide +kernel
theorem sub_mod : isSubtype (.type "re.Pattern") (.type "module") = pure false := by rw [isSubtype_type]; kernel_rfl
theorem sub_typ : isSubtype (.type "re.Pattern") (.type "type") = pure false := by rw [isSubtype_type]; kernel_rfl
theorem chk_se {x : PySem.Str} {t : Tok} : Bind.checkArgs "re.Pattern.search" { sgS with full := s!"{Bind.lastOf "re.Pattern"}.{Bind.lastOf "re.Pattern.search"}" } ⟨[.ref 43, .str x t], []⟩ = pure () := by
  unfold Bind.checkArgs; kernel_rfl
theorem wp_check {x : PySem.Str} {t : Tok} {Q : Unit → Shared → Prop} (ho : Stands44 s.heap) (h : Q () s) : wpAny M A (checkBoundCall "re.Pattern.search" ⟨[.ref 43, .str x t], []⟩) Q E s := by
  have hT : s.TypeIs (.ref 43) "re.Pattern" := ⟨patO, ho.2.1, rfl⟩
  unfold checkBoundCall
  rw [sig_se, kind_se, vara_se]
  dsimp only
  refine KFB.if_not (by decide) ?_
  refine wpAny_bind (wpAny_isInstance hT sub_mod ?_)
  refine KFB.if_not (by decide) ?_
  simp only [isType]
  refine wpAny_bind (wpAny_bind ?_)
  unfold loadHead
  refine wpAny_loadPart ho.2.1 (wpAny_pure ?_)
  refine KFB.if_not (by rfl) ?_
  refine wpAny_bind (wpAny_typeOf hT ?_)
  refine wpAny_of_eq (a := ()) chk_se ?_
  exact h
theorem call_of44 {x : PySem.Str} {t : Tok} {R : Value → Shared → Prop} (ho : Stands44 s.heap)
    (h : ∀ {P : Fin → Shared → Prop} {E' : Value → Shared → Prop} {A' : Around}, (∀ v s', R v s' → P (.done (.ret v)) s') → wpAny (model prog w) A' (Builtin.«re.Pattern.search» ⟨[.ref 43, .str x t], []⟩) P E' s) :
    wpAny (model prog w) A (call (.ref 44) [.str x t]) R E s := by
  refine wpAny_call (codeAny_of_tree ?_)
  show wpAny _ A.in1 (callAny (.ref 44) ⟨[.str x t], []⟩) _ _ s
  simp only [callAny]
  refine wpAny_bind (wpAny_load ho.1 ?_)
  simp only [bndO, show (Value.type "builtin_function_or_method" == Value.type "method" || Value.type "builtin_function_or_method" == Value.type "builtin_function_or_method" || Value.type "builtin_function_or_method" == Value.type "method-wrapper") = true by decide, if_true]
  refine KFB.if_so (by decide) ?_
  refine wpAny_bind (wp_check ho ?_)
  refine wpAny_bind (wpAny_pure (wpAny_pure ?_))
  exact ⟨quiet_se, codeAny_builtin entry_se (h fun v s' hv => hv)⟩

theorem drive {m : Sre.M} {o : Sre.Outcome} {Q : Sre.M → Shared → Prop} (ho : (m.runFor 4).outcome = some o) (h : Q (m.runFor 4) s) : wpAny M A (reDrive (2 ^ 64) m) Q E s := by
  obtain ⟨n, hn⟩ : ∃ n, 2 ^ 64 = n + 1 := ⟨2 ^ 64 - 1, by decide⟩
  rw [hn]
  unfold reDrive
  show wpAny _ _ (if (m.runFor 4).outcome.isSome = true then pure (m.runFor 4) else _) _ _ _
  rw [if_pos (by rw [ho]; rfl)]
  exact wpAny_pure h
theorem toEnd {m : Sre.M} {o : Sre.Outcome} {Q : Option Sre.M → Shared → Prop} (ho : (m.runFor 4).outcome = some o)
    (h1 : o = .matched → ∀ m', Q (some m') s) (h2 : o = .failed → Q none s) (h3 : o = .matched ∨ o = .failed) : wpAny M A (reRunToEnd m) Q E s := by
  unfold reRunToEnd
  refine wpAny_bind (drive ho ?_)
  refine wpAny_bind (wpAny_forIn_list _ (fun _ _ s' => s' = s) _ ?_ ?_ _ _ rfl)
  · intro x rest b s' hs
    subst hs
    split
    · exact wpAny_bind (wpAny_rule (wpAny_pure rfl))
    · exact wpAny_pure rfl
  · intro b s' hs
    subst hs
    rw [ho]
    rcases h3 with rfl | rfl
    · exact wpAny_pure (h1 rfl _)
    · exact wpAny_pure (h2 rfl)
theorem code_eq : (((rcode.map fun (n : Nat) => Value.int (n : Int) 0).toArray).map reRawOf).map (·.toNat) = rcA := by
  rw [List.map_toArray, List.map_toArray]
  rfl
theorem target {x : PySem.Str} {t : Tok} {Q : ReTarget → Shared → Prop} (ho : Stands44 s.heap) (hsz : x.cps.size < 2 ^ 63)
    (h : Q { pattern := .ref 43, string := .str x t, code := rcA, text := x.cps, kind := 0, groups := 0, pos := 0, lim := x.cps.size } s) :
    wpAny M A (reTarget "re.Pattern.search" "search" ⟨[.ref 43, .str x t], []⟩) Q E s := by
  unfold reTarget
  refine wpAny_bind (wpAny_of_eq (a := [some (.str x t), none, none]) (by kernel_rfl) ?_)
  dsimp only
  refine wpAny_bind (wpAny_of_eq (a := (0 : Int)) rfl ?_)
  refine wpAny_bind (wpAny_of_eq (a := ((2 ^ 63 - 1) : Int)) rfl ?_)
  unfold fieldsOf
  refine wpAny_bind (wpAny_bind (wpAny_load ho.2.1 (wpAny_pure ?_)))
  refine wpAny_bind (wpAny_of_eq (a := (x.cps, 0)) rfl ?_)
  refine KFB.if_not (by rfl) ?_
  refine KFB.if_not (by rfl) ?_
  refine wpAny_bind (wpAny_of_eq (a := ()) rfl ?_)
  show wpAny _ _ (reRawItems (.ref 42) >>= _) _ _ _
  unfold reRawItems seqItems?
  refine wpAny_bind (wpAny_bind (wpAny_bind (wpAny_load ho.2.2 (wpAny_pure (wpAny_pure ?_)))))
  refine wpAny_pure ?_
  have e1 : min (0 : Int).toNat x.cps.size = 0 := by simp
  have e2 : min ((2 ^ 63 - 1 : Int)).toNat x.cps.size = x.cps.size := by
    have : ((2 ^ 63 - 1 : Int)).toNat = 2 ^ 63 - 1 := by decide
    rw [this]; omega
  show Q { pattern := .ref 43, string := .str x t, code := (((rcode.map fun (n : Nat) => Value.int (n : Int) 0).toArray).map reRawOf).map (·.toNat), text := x.cps, kind := 0, groups := 0, pos := min (0 : Int).toNat x.cps.size, lim := min ((2 ^ 63 - 1 : Int)).toNat x.cps.size } s
  rw [e1, e2, code_eq]
  exact h
theorem find_none {x : PySem.Str} {t : Tok} {Q : Value → Shared → Prop} (ho : Stands44 s.heap) (hs1 : 1 ≤ x.cps.size) (hs2 : x.cps.size < 2 ^ 63) (hall : ∀ k, k < x.cps.size → x.cps.getD k 0 < 128 ∧ safeC (x.cps.getD k 0) = true)
    (h : Q .none s) : wpAny (model prog w) A (call (.ref 44) [.str x t]) Q E s := by
  refine call_of44 ho fun {P E' A'} k => ?_
  unfold Builtin.«re.Pattern.search» reAnswer
  refine wpAny_bind (target ho hs2 ?_)
  refine wpAny_bind (toEnd (run_none x.cps hs1 hall) (fun e => nomatch e) (fun _ => ?_) (.inr rfl))
  exact wpAny_pure (k _ _ h)
theorem find_some {x : PySem.Str} {t : Tok} {Q : Value → Shared → Prop} (F : Fr h₀ L s.heap m) (N : News h₀ L s.heap news) (ho : Stands44 s.heap) (hs1 : 1 ≤ x.cps.size) (hs2 : x.cps.size < 2 ^ 63) (hall : ∀ k, k < x.cps.size → x.cps.getD k 0 < 128) (hex : ∃ k, k < x.cps.size ∧ safeC (x.cps.getD k 0) = false)
    (h : ∀ a h' nx, Fr h₀ L h' m → News h₀ L h' (nx ++ news) → Q (.ref a) { s with heap := h' }) : wpAny (model prog w) A (call (.ref 44) [.str x t]) Q E s := by
  refine call_of44 ho fun {P E' A'} k => ?_
  unfold Builtin.«re.Pattern.search» reAnswer
  refine wpAny_bind (target ho hs2 ?_)
  refine wpAny_bind (toEnd (run_some x.cps hs1 hall hex) (fun _ m' => ?_) (fun e => nomatch e) (.inl rfl))
  show wpAny _ _ (reNewMatch _ _ 0 _ _ m' >>= fun v => ret v) _ _ _
  unfold reNewMatch
  refine wpAny_bind ?_
  refine KFB.if_not (by rfl) ?_
  refine wpAny_bind (wpAny_newTuple ?_ (by rw [show List.range 0 = [] from rfl]; simp [sizeLine]))
  unfold newFields
  refine wpAny_newObj_type (wpAny_pure (k _ _ ?_)) (by show _ ≤ _; simp; decide)
  exact h _ _ [_, _] ((F.push _).push _) (News.push (F.push _) (News.push F N _) _)
end
end
section
open PySem PySem.W PyProof.Rows PySem.Calls PyProof.V PySem.Spec
set_option maxRecDepth 100000
set_option maxHeartbeats 8000000
section
variable {w : World} {mg mb : Str → Option Value} {loose : List Str} {mean : ExcName → Option Value}

theorem quote_bare (x : Str) (tx : Tok) (h1 : 1 ≤ x.cps.size) (h2 : x.cps.size < 2 ^ 63) (h3 : ∀ k, k < x.cps.size → x.cps.getD k 0 < 128 ∧ safeC (x.cps.getD k 0) = true) (h5 : x.length ≤ 1048576) : Gives w loose mean mg mb 8 200 51 [.str x tx] (fun t => .str x t) := by
  w_top off
  unfold Gives
  k_fill
  intro dp un gd cn cs a ccd cl outer A₀ base h₀ L m news s Q E B F X N T hk hd hu hret
  refine wpAny_call ?_
  (k_dflt (refine' code_frozen ?k1 ?k2 ?k3 ?k4 ?k5 ?kA ?kF ?kK ?k6 ?k7 ?k8 ?k9 ?kB ?_ ?c2 ?c3 ?c4 ?c5; (case kA => exact rfl); (case kF => exact rfl); (case kK => assumption); (case k1 => k_asm); (case k2 => k_asm); (case k3 => k_asm); (case k4 => k_asm); (case k5 => k_asm); (case k6 => k_is); (case k7 => k_is); (case k8 => ktr_room); (case k9 => first | exact BindsTo.of_eq rfl | exact binds_K (by k_in) rfl (by k_is) rfl rfl rfl); (case c5 => decide); (case kB => exact locs rfl); (case c2 => exact rfl); (case c3 => exact rfl); (case c4 => exact rfl); k_whole; intro g' L' h' FG' F' N' B' X' T'; (try dsimp only); (try k_lift B'); (try k_fold)))
  replace F' := fr_known [(Str.ofString "s", Value.str x tx)] F' (by intro p hp; rw [List.mem_singleton.mp hp]; rfl)
  dsimp only [kstB] at F'
  have hp1 : 1 ≤ x.length := h1
  have hq1 : (Str.ofString "'").length = 1 := by decide
  repeat' ((fail_if_success (with_reducible show Back _ _ _ _ _ _)); (first | ((with_reducible show wpAny _ _ (call (Value.ref 44) [Value.str _ _]) _ _ _); k_dflt (first | (refine find_none (at44 (by k_asm) (by k_asm)) (by assumption) (by assumption) (by assumption) ?_) | (refine find_some (by k_asm) (by k_asm) (at44 (by k_asm) (by k_asm)) (by assumption) (by assumption) (by assumption) (by assumption) ?_; k_whole; intro a' h' nx' F' N'))) | ((with_reducible show wpAny _ _ (binaryOp Operator.Add (Value.str _ _) (Value.str _ _)) _ _ _); k_dflt (refine add_str ?_ (by ((try simp only [Str.length_append]); rw [sizeLine_eq]; omega))); intro _ _) | ((with_reducible show Stands44 _ ∧ _); k_dflt (refine ⟨at44 (by k_asm) (by k_asm), ?_⟩); (try dsimp only [List.nil_append, List.cons_append])) | ((with_reducible show wpAny _ _ (callWith _ (Value.ref 44) _ (backTo _ (starEach (_ :: _) _)) []) _ _ _); k_dflt (refine callWith_44b ?_; k_whole)) | ((with_reducible show wpAny _ _ (PySem.truthy (Value.str _ _)) _ _ _); k_dflt (refine KXt.truthy_pos (by assumption) (by assumption) (by decide) ?_); intro _) | (k_unfold; (try dsimp only)) | walk1 | (dsimp only; walk1) | (leave1; try dsimp only)))
  all_goals (intro hN0; exact hret _ _ _ (by assumption) hN0)

theorem quote_dirty (x : Str) (tx : Tok) (h1 : 1 ≤ x.cps.size) (h2 : x.cps.size < 2 ^ 63) (h3 : ∀ k, k < x.cps.size → x.cps.getD k 0 < 128) (h4 : ∃ k, k < x.cps.size ∧ safeC (x.cps.getD k 0) = false) (h5 : x.length ≤ 1048576) (h6 : (Txt.replace x (Str.ofString "'") (Str.ofString "'\"'\"'")).length ≤ 1048576) : Gives w loose mean mg mb 8 200 51 [.str x tx] (fun t => .str (Str.ofString "'" ++ Txt.replace x (Str.ofString "'") (Str.ofString "'\"'\"'") ++ Str.ofString "'") t) := by
  w_top off
  unfold Gives
  k_fill
  intro dp un gd cn cs a ccd cl outer A₀ base h₀ L m news s Q E B F X N T hk hd hu hret
  refine wpAny_call ?_
  (k_dflt (refine' code_frozen ?k1 ?k2 ?k3 ?k4 ?k5 ?kA ?kF ?kK ?k6 ?k7 ?k8 ?k9 ?kB ?_ ?c2 ?c3 ?c4 ?c5; (case kA => exact rfl); (case kF => exact rfl); (case kK => assumption); (case k1 => k_asm); (case k2 => k_asm); (case k3 => k_asm); (case k4 => k_asm); (case k5 => k_asm); (case k6 => k_is); (case k7 => k_is); (case k8 => ktr_room); (case k9 => first | exact BindsTo.of_eq rfl | exact binds_K (by k_in) rfl (by k_is) rfl rfl rfl); (case c5 => decide); (case kB => exact locs rfl); (case c2 => exact rfl); (case c3 => exact rfl); (case c4 => exact rfl); k_whole; intro g' L' h' FG' F' N' B' X' T'; (try dsimp only); (try k_lift B'); (try k_fold)))
  replace F' := fr_known [(Str.ofString "s", Value.str x tx)] F' (by intro p hp; rw [List.mem_singleton.mp hp]; rfl)
  dsimp only [kstB] at F'
  have hp1 : 1 ≤ x.length := h1
  have hq1 : (Str.ofString "'").length = 1 := by decide
  repeat' ((fail_if_success (with_reducible show Back _ _ _ _ _ _)); (first | ((with_reducible show wpAny _ _ (call (Value.ref 44) [Value.str _ _]) _ _ _); k_dflt (first | (refine find_none (at44 (by k_asm) (by k_asm)) (by assumption) (by assumption) (by assumption) ?_) | (refine find_some (by k_asm) (by k_asm) (at44 (by k_asm) (by k_asm)) (by assumption) (by assumption) (by assumption) (by assumption) ?_; k_whole; intro a' h' nx' F' N'))) | ((with_reducible show wpAny _ _ (binaryOp Operator.Add (Value.str _ _) (Value.str _ _)) _ _ _); k_dflt (refine add_str ?_ (by ((try simp only [Str.length_append]); rw [sizeLine_eq]; omega))); intro _ _) | ((with_reducible show Stands44 _ ∧ _); k_dflt (refine ⟨at44 (by k_asm) (by k_asm), ?_⟩); (try dsimp only [List.nil_append, List.cons_append])) | ((with_reducible show wpAny _ _ (callWith _ (Value.ref 44) _ (backTo _ (starEach (_ :: _) _)) []) _ _ _); k_dflt (refine callWith_44b ?_; k_whole)) | ((with_reducible show wpAny _ _ (PySem.truthy (Value.str _ _)) _ _ _); k_dflt (refine KXt.truthy_pos (by assumption) (by assumption) (by decide) ?_); intro _) | (k_unfold; (try dsimp only)) | walk1 | (dsimp only; walk1) | (leave1; try dsimp only)))
  all_goals (intro hN0; exact hret _ _ _ (by assumption) hN0)
end
end
section
open PySem PySem.W PyProof.Rows PySem.Calls PyProof.V PySem.Spec
set_option maxRecDepth 100000
set_option maxHeartbeats 8000000

section
variable {w : World} {loose : List Str} {mean : ExcName → Option Value} {mg mb : Str → Option Value} {d u : Nat} {f : Addr} {vs : List Value} {R : Tok → Value}
theorem gives_use {dp un : Nat} {gd : Option (List Code)} {cn : Str} {cs : Scope} {a : Addr} {ccd : Value} {cl : List (Str × Addr)} {outer : List Env} {A₀ : Around} {base h₀ : Heap} {L : Addr} {m : Str → Option Value} {news : List (Addr × Obj)} {s : Shared} {Q E : Value → Shared → Prop}
    (G : Gives w loose mean mg mb d u f vs R) (B : Below A₀ base outer h₀) (F : Fr h₀ L s.heap m) (X : (hd.heap_39 w.params).In h₀) (N : News h₀ L s.heap news) (T : Top hd.view_39 loose mean mg mb h₀) (hk : cs.kind = .function) (hd : dp + d < recursionLimit) (hu : un + u < cLine)
    (ret : ∀ t h' tk', Fr h₀ L h' m → News h₀ L h' news → Q (R t) { s with heap := h', toks := tk' }) :
    wpAny (model PySem.Challenge.rw_ij0199_01.row.prog w) (ktrTop dp un gd cn cs L a ccd cl outer) (call (.ref f) vs) Q E s := G _ _ _ _ _ _ _ _ _ _ _ _ _ _ _ _ _ _ B F X N T hk hd hu ret
end
def qI : Str := Str.ofString "'"
def qL : Str := Str.ofString "'\"'\"'"
def toldT (x : Str) : Str := Str.ofString "'" ++ Txt.replace x (Str.ofString "'") (Str.ofString "'\"'\"'") ++ Str.ofString "'"
open PySem.Builtin PySem.Builtin.Str in
section
variable {prog : Program} {w : World} {A : Around} {E : Value → Shared → Prop} {s : Shared} {value slice : Expr} {x y a b c : Str} {t u : Tok} {h₀ : Heap} {L : Addr} {m : Str → Option Value} {news : List (Addr × Obj)} {Q : Value → Shared → Prop}
theorem sl_ns {j : Int} {uj : Tok} (hF : Fr h₀ L s.heap m) (hN : News h₀ L s.heap news) (e : Txt.slice x none (some j) = y) (hsz : x.length ≤ 1048576)
    (hs : subscripted slice false (.str x t) (.ref s.heap.objs.size) = operate [.ref s.heap.objs.size, .str x t] (getItem (.str x t) (.ref s.heap.objs.size)))
    (ht : ∀ r, letTemporaryGo value (.str x t) r = pure ()) (h : ∀ h' t' k, Fr h₀ L h' m → News h₀ L h' news → Q (.str y t') { s with heap := h', toks := k }) :
    wpAny (model prog w) A (subscriptTail value slice (.str x t) (.ref s.heap.objs.size)) Q E { s with heap := s.heap.push { cls := .type "slice", data := .fields #[.none, .int j uj, .none] } } :=
  slice_strN_ns hF hN (fun h' t' k F N => by rw [e]; exact h h' t' k F N) hs ht (by rw [sizeLine_eq]; omega)
theorem sl_sn {i : Int} {ui : Tok} (hF : Fr h₀ L s.heap m) (hN : News h₀ L s.heap news) (e : Txt.slice x (some i) none = y) (hsz : x.length ≤ 1048576)
    (hs : subscripted slice false (.str x t) (.ref s.heap.objs.size) = operate [.ref s.heap.objs.size, .str x t] (getItem (.str x t) (.ref s.heap.objs.size)))
    (ht : ∀ r, letTemporaryGo value (.str x t) r = pure ()) (h : ∀ h' t' k, Fr h₀ L h' m → News h₀ L h' news → Q (.str y t') { s with heap := h', toks := k }) :
    wpAny (model prog w) A (subscriptTail value slice (.str x t) (.ref s.heap.objs.size)) Q E { s with heap := s.heap.push { cls := .type "slice", data := .fields #[.int i ui, .none, .none] } } :=
  slice_strN_sn hF hN (fun h' t' k F N => by rw [e]; exact h h' t' k F N) hs ht (by rw [sizeLine_eq]; omega)
theorem sl_ss {i j : Int} {ui uj : Tok} (hF : Fr h₀ L s.heap m) (hN : News h₀ L s.heap news) (hsz : x.length ≤ 1048576)
    (hs : subscripted slice false (.str x t) (.ref s.heap.objs.size) = operate [.ref s.heap.objs.size, .str x t] (getItem (.str x t) (.ref s.heap.objs.size)))
    (ht : ∀ r, letTemporaryGo value (.str x t) r = pure ()) (h : ∀ h' t' k, Fr h₀ L h' m → News h₀ L h' news → Q (.str (Txt.slice x (some i) (some j)) t') { s with heap := h', toks := k }) :
    wpAny (model prog w) A (subscriptTail value slice (.str x t) (.ref s.heap.objs.size)) Q E { s with heap := s.heap.push { cls := .type "slice", data := .fields #[.int i ui, .int j uj, .none] } } :=
  slice_strN_ss hF hN (fun h' t' k F N => h h' t' k F N) hs ht (by rw [sizeLine_eq]; omega)
theorem split3 (hF : Fr h₀ L s.heap m) (hN : News h₀ L s.heap news) (hy : (y.length == 0) = false) (e : Txt.split x y = [a, b, c]) (hsz : x.length ≤ 1048576)
    (h : ∀ D t1 t2 t3 h' k, Fr h₀ L h' m → News h₀ L h' ((D, listOf #[.str a t1, .str b t2, .str c t3] 0) :: news) → (∀ p ∈ news, p.1 < D) → Q (.ref D) { s with heap := h', toks := k }) :
    wpAny (model prog w) A (call (.builtin "str.split") [.str x t, .str y u]) Q E s := by
  refine KSpl.split1 hF hN hy (fun D l h' k hl _ F N hlt => ?_) (by rw [sizeLine_eq]; omega)
  rw [e] at hl
  obtain ⟨t1, l1, rfl, e1⟩ := KSpl.cons_of hl
  obtain ⟨t2, l2, rfl, e2⟩ := KSpl.cons_of e1
  obtain ⟨t3, l3, rfl, e3⟩ := KSpl.cons_of e2
  have e4 := KSpl.nil_of e3
  subst e4
  exact h D t1 t2 t3 h' k F N hlt
theorem join3 {D : Addr} {t1 t2 t3 : Tok} {n : Nat} (hN : News h₀ L s.heap ((D, listOf #[.str a t1, .str b t2, .str c t3] n) :: news)) (e : Txt.join x [a, b, c] = y) (hx : x.length ≤ 4) (ha : a.length ≤ 1000) (hb : b.length ≤ 1000) (hc : c.length ≤ 1000)
    (h : ∀ t' k, Q (.str y t') { s with toks := k }) : wpAny (model prog w) A (call (.builtin "str.join") [.str x t, .ref D]) Q E s :=
  join_listC (hN.isList (.head _)) (.cons _ _ (.cons _ _ (.cons _ _ .nil))) (by omega) (by simp only [List.map_cons, List.map_nil, List.sum_cons, List.sum_nil, List.length_cons, List.length_nil]; omega) (fun t' k => by rw [e]; exact h t' k)
theorem bne_no (x : Str) : ¬ (x != x) = true := by rw [bne_self_eq_false]; decide
theorem ite_diff {x : Str} {p q : Prop} {d : Decidable ((x != x) = true)} (hq : q) : @ite Prop ((x != x) = true) d p q := by rw [if_neg (bne_no x)]; exact hq
theorem ite_neg' {α : Prop} {p q : Prop} {d : Decidable α} (h : ¬ α) (hq : q) : @ite Prop α d p q := by rw [if_neg h]; exact hq
end
structure DirtyT (x : Str) : Prop where
  h1 : 1 ≤ x.cps.size
  h3 : ∀ k, k < x.cps.size → x.cps.getD k 0 < 128
  h4 : ∃ k, k < x.cps.size ∧ safeC (x.cps.getD k 0) = false
  h5 : x.length ≤ 1048576
  h6 : (Txt.replace x (Str.ofString "'") (Str.ofString "'\"'\"'")).length ≤ 1048576
theorem quote_dirtyP {w : World} {mg mb : Str → Option Value} {loose : List Str} {mean : ExcName → Option Value} (x : Str) (tx : Tok) (h : DirtyT x) : Gives w loose mean mg mb 8 200 51 [.str x tx] (fun t => .str (toldT x) t) :=
  quote_dirty x tx h.h1 (by have := h.h5; show x.length < _; omega) h.h3 h.h4 h.h5 h.h6
structure PairT (bare text safe a b c : Str) (p q : Int) : Prop where
  dt : DirtyT text
  s1 : Txt.slice (toldT text) none (some 1) = Str.ofString "'"
  s2 : Txt.slice (toldT text) (some (-1)) none = Str.ofString "'"
  s3 : Txt.split (Txt.slice (toldT text) (some 1) (some (-1))) (Str.ofString "'\"'\"'") = [a, b, c]
  c1 : (Builtin.Str.occurrences (a ++ b ++ c) (Str.ofString "'") 0 (a ++ b ++ c).length 1).isEmpty = true
  j1 : Txt.join safe [a, b, c] = bare
  tl : (toldT text).length ≤ 1048576
  ls : safe.length ≤ 4
  la : a.length ≤ 1000
  lb : b.length ≤ 1000
  lc : c.length ≤ 1000
  one : (a.length : Int).fmod 2 = 0 → p = (a.length : Int).fdiv 2 ∧ q = ((a.length : Int) + 1 + (b.length : Int)).fdiv 2
  two : (a.length : Int).fmod 2 ≠ 0 → q = (a.length : Int).fdiv 2 ∧ p = ((a.length : Int) + 1 + (b.length : Int)).fdiv 2
  par : (a.length : Int).fmod 2 ≠ ((a.length : Int) + 1 + (b.length : Int)).fmod 2
def PairG (w : World) (loose : List Str) (mean : ExcName → Option Value) (mg mb : Str → Option Value) (d u : Nat) (f : Addr) (vs : List Value) (p q : Int) : Prop :=
  ∀ (dp un : Nat) (gd : Option (List Code)) (cn : Str) (cs : Scope) (a : Addr) (ccd : Value) (cl : List (Str × Addr)) (outer : List Env) (A₀ : Around) (base h₀ : Heap) (L : Addr) (m : Str → Option Value) (news : List (Addr × Obj)) (s : Shared) (Q E : Value → Shared → Prop),
    Below A₀ base outer h₀ → Fr h₀ L s.heap m → (hd.heap_39 w.params).In h₀ → News h₀ L s.heap news → Top hd.view_39 loose mean mg mb h₀ → cs.kind = .function → dp + d < recursionLimit → un + u < cLine →
    (∀ D t1 t2 n h' tk', Fr h₀ L h' m → News h₀ L h' ((D, listOf #[.int p t1, .int q t2] n) :: news) → Q (.ref D) { s with heap := h', toks := tk' }) →
    wpAny (model PySem.Challenge.rw_ij0199_01.row.prog w) (ktrTop dp un gd cn cs L a ccd cl outer) (call (.ref f) vs) Q E s
section
variable {w : World} {mg mb : Str → Option Value} {loose : List Str} {mean : ExcName → Option Value}

theorem pair_gives (bare text safe a_s b c : Str) (tb tt ts : Tok) (p q : Int) (P : PairT bare text safe a_s b c p q) : PairG w loose mean mg mb 20 400 226 [.str bare tb, .str text tt, .str safe ts] p q := by
  w_top off
  unfold PairG
  k_fill
  intro dp un gd cn cs a ccd cl outer A₀ base h₀ L m news s Q E B F X N T hk hd hu hret
  refine wpAny_call ?_
  (k_dflt (refine' code_frozen ?k1 ?k2 ?k3 ?k4 ?k5 ?kA ?kF ?kK ?k6 ?k7 ?k8 ?k9 ?kB ?_ ?c2 ?c3 ?c4 ?c5; (case kA => exact rfl); (case kF => exact rfl); (case kK => assumption); (case k1 => k_asm); (case k2 => k_asm); (case k3 => k_asm); (case k4 => k_asm); (case k5 => k_asm); (case k6 => k_is); (case k7 => k_is); (case k8 => ktr_room); (case k9 => first | exact BindsTo.of_eq rfl | exact binds_K (by k_in) rfl (by k_is) rfl rfl rfl); (case c5 => decide); (case kB => exact locs rfl); (case c2 => exact rfl); (case c3 => exact rfl); (case c4 => exact rfl); k_whole; intro g' L' h' FG' F' N' B' X' T'; (try dsimp only); (try k_lift B'); (try k_fold)))
  replace F' := fr_known [(Str.ofString "bare", Value.str bare tb), (Str.ofString "text", Value.str text tt), (Str.ofString "safe", Value.str safe ts)] F' (by intro p hp; simp only [List.mem_cons, List.not_mem_nil, or_false] at hp; rcases hp with rfl | rfl | rfl <;> rfl)
  have c1n : ¬ (Builtin.Str.occurrences (a_s ++ b ++ c) (Str.ofString "'") 0 (a_s ++ b ++ c).length 1).isEmpty = false := by rw [P.c1]; decide
  have hend : ∀ (x y : Int) (D : Addr) (t1 t2 : Tok) (n : Nat) (h' : Heap) (tk' : Nat) (rest : List (Addr × Obj)), x = p → y = q → News h₀ L h' ((D, listOf #[.int x t1, .int y t2] n) :: rest) → Fr h₀ L h' m → News h₀ L h' news → Q (.ref D) { s with heap := h', toks := tk' } := by
    intro x y D t1 t2 n h' tk' rest e1 e2 N1 F1 N2
    subst e1 e2
    refine hret D t1 t2 n h' tk' F1 fun p hp => ?_
    rcases List.mem_cons.mp hp with h | h
    · rw [h]; exact N1 _ (.head _)
    · exact N2 p h
  have la := P.la
  have lb := P.lb
  have lc := P.lc
  dsimp only [kstB] at F'
  repeat' ((fail_if_success (with_reducible show Back _ _ _ _ _ _)); (first | ((with_reducible show wpAny _ _ (call (Value.ref 51) [Value.str _ _]) _ _ _); k_dflt (refine gives_use (quote_dirtyP _ _ (by exact PairT.dt (by assumption))) (by assumption) (by k_asm) (by assumption) (by k_asm) (by k_asm) (by rfl) (by ktr_room) (by ktr_units) ?_; k_whole); intro t' h' tk' F' N'; (try dsimp only)) | ((with_reducible show wpAny _ _ (binaryOp Operator.Add (Value.str _ _) (Value.str _ _)) _ _ _); k_dflt (refine add_str ?_ (by ((try simp only [Str.length_append]); rw [sizeLine_eq]; omega))); intro _ _) | ((with_reducible show wpAny _ _ (call (Value.builtin "str.split") [Value.str _ _, Value.str _ _]) _ _ _); k_dflt (refine split3 (by k_asm) (by k_asm) (by decide) (by exact PairT.s3 (by assumption)) (by exact Nat.le_trans (Txt.slice_le _ _ _) (PairT.tl (by assumption))) ?_; k_whole); intro D' t1' t2' t3' h' k' F' N' l1; (try k_lt l1)) | ((with_reducible show wpAny _ _ (subscriptTail _ (Expr.Slice (some _) (some _) none _) _ _) _ _ _); k_dflt (refine sl_ss (s := ⟨_, _, _, _, _⟩) (by k_asm) (by k_asm) (by exact PairT.tl (by assumption)) (by with_unfolding_all rfl) (by (intro _; with_unfolding_all rfl)) ?_; k_whole); intro h' t' k' F' N') | ((with_reducible show wpAny _ _ (subscriptTail _ (Expr.Slice (some _) none none _) _ _) _ _ _); k_dflt (refine sl_sn (s := ⟨_, _, _, _, _⟩) (by k_asm) (by k_asm) (by exact PairT.s2 (by assumption)) (by exact PairT.tl (by assumption)) (by with_unfolding_all rfl) (by (intro _; with_unfolding_all rfl)) ?_; k_whole); intro h' t' k' F' N') | ((with_reducible show wpAny _ _ (subscriptTail _ (Expr.Slice none (some _) none _) _ _) _ _ _); k_dflt (refine sl_ns (s := ⟨_, _, _, _, _⟩) (by k_asm) (by k_asm) (by exact PairT.s1 (by assumption)) (by exact PairT.tl (by assumption)) (by with_unfolding_all rfl) (by (intro _; with_unfolding_all rfl)) ?_; k_whole); intro h' t' k' F' N') | (with_reducible refine ite_diff ?_) | ((with_reducible show wpAny _ _ (call (Value.builtin _) [Value.str _ _, Value.ref _]) _ _ _); k_dflt (refine join3 (by k_asm) (by exact PairT.j1 (by assumption)) (by exact PairT.ls (by assumption)) (by assumption) (by assumption) (by assumption) ?_; k_whole); intro t' k') | (k_unfold; (try dsimp only)) | walk1 | (dsimp only; walk1) | (leave1; try dsimp only)))
  all_goals intro hN0
  all_goals first
    | (exfalso; exact P.par (by assumption))
    | (exfalso; exact c1n (by assumption))
    | exact hend _ _ _ _ _ _ _ _ _ (P.one (by assumption)).1.symm (P.one (by assumption)).2.symm (by assumption) (by assumption) hN0
    | exact hend _ _ _ _ _ _ _ _ _ (P.two (by assumption)).2.symm (P.two (by assumption)).1.symm (by assumption) (by assumption) hN0
end
end
section
open PySem PySem.W PyProof.Rows PySem.Calls PyProof.V PySem.Spec
set_option maxRecDepth 100000
set_option maxHeartbeats 8000000

def threeT (r a : Int) (la : Str) : Str := Txt.item (Str.ofString "-r") (r.fdiv 4) ++ Txt.item (Str.ofString "-w") ((r.fdiv 2).fmod 2) ++ Txt.item la (a * 2 + r.fmod 2)

section
variable {w : World} {mg mb : Str → Option Value} {loose : List Str} {mean : ExcName → Option Value}

theorem three_gives (r a' : Int) (sg la : Str) (tr ta ts : Tok) (h0 : 0 ≤ r) (h1 : r < 8) (h2 : 0 ≤ a') (h3 : a' < 2) (h4 : (sg = Str.ofString "s" ∧ la = Str.ofString "-xSs") ∨ (sg = Str.ofString "t" ∧ la = Str.ofString "-xTt")) : Gives w loose mean mg mb 8 200 233 [.int r tr, .int a' ta, .str sg ts] (fun t => .str (threeT r a' la) t) := by
  w_top off
  unfold Gives
  k_fill
  intro dp un gd cn cs a ccd cl outer A₀ base h₀ L m news s Q E B F X N T hk hd hu hret
  refine wpAny_call ?_
  (k_dflt (refine' code_frozen ?k1 ?k2 ?k3 ?k4 ?k5 ?kA ?kF ?kK ?k6 ?k7 ?k8 ?k9 ?kB ?_ ?c2 ?c3 ?c4 ?c5; (case kA => exact rfl); (case kF => exact rfl); (case kK => assumption); (case k1 => k_asm); (case k2 => k_asm); (case k3 => k_asm); (case k4 => k_asm); (case k5 => k_asm); (case k6 => k_is); (case k7 => k_is); (case k8 => ktr_room); (case k9 => first | exact BindsTo.of_eq rfl | exact binds_K (by k_in) rfl (by k_is) rfl rfl rfl); (case c5 => decide); (case kB => exact locs rfl); (case c2 => exact rfl); (case c3 => exact rfl); (case c4 => exact rfl); k_whole; intro g' L' h' FG' F' N' B' X' T'; (try dsimp only); (try k_lift B'); (try k_fold)))
  replace F' := fr_known [(Str.ofString "rights", Value.int r tr), (Str.ofString "above", Value.int a' ta), (Str.ofString "sign", Value.str sg ts)] F' (by intro p hp; simp only [List.mem_cons, List.not_mem_nil, or_false] at hp; rcases hp with rfl | rfl | rfl <;> rfl)
  dsimp only [kstB] at F'
  rcases h4 with ⟨rfl, rfl⟩ | ⟨rfl, rfl⟩
  all_goals (repeat' ((fail_if_success (with_reducible show Back _ _ _ _ _ _)); (first | (k_unfold; (try dsimp only)) | walk1 | (dsimp only; walk1) | (leave1; try dsimp only))))
  all_goals (intro hN0; exact hret _ _ _ (by assumption) hN0)
end
end
section
open PySem PySem.W PyProof.Rows PySem.Calls PyProof.V PySem.Spec
set_option maxRecDepth 100000
set_option maxHeartbeats 8000000

def wrT (mode : Int) (p q : Nat) : Str := ⟨(wrB (byteArr (octs mode 32)) p.toUInt8 q.toUInt8).map (·.toNat)⟩
theorem cat_pq (p q : Nat) : (⟨#[p]⟩ : Str) ++ ⟨#[q]⟩ = ⟨#[p, q]⟩ := rfl
theorem cat_pa (p : Nat) : (⟨#[p]⟩ : Str) ++ Str.ofString "'" = ⟨#[p, 39]⟩ := by rw [show Str.ofString "'" = ⟨#[39]⟩ by decide]; rfl
theorem cat_ap (q : Nat) : Str.ofString "'" ++ (⟨#[q]⟩ : Str) = ⟨#[39, q]⟩ := by rw [show Str.ofString "'" = ⟨#[39]⟩ by decide]; rfl
theorem octB_size (mode : Int) : (byteArr (octs mode 32)).size = 96 := by rw [byteArr_size, octs_len]
structure NineT (mode : Int) (p q : Nat) (p1 q1 : Int) : Prop where
  hp : p < 128
  hq : q < 128
  len : (wrT mode p q).length = 128
  safe : ∀ k, k < (wrT mode p q).cps.size → (wrT mode p q).cps.getD k 0 < 128 ∧ safeC ((wrT mode p q).cps.getD k 0) = true
  P1 : ∃ a b c, PairT (wrT mode p q) (wrT mode p 39) ⟨#[q]⟩ a b c p1 q1
  P2 : ∃ a b c, PairT (wrT mode p q) (wrT mode 39 q) ⟨#[p]⟩ a b c (Builtin.bitXor (63 - p1) 62) (Builtin.bitXor (63 - q1) 62)
  r1 : 0 ≤ p1 ∧ p1 ≤ 63
  r2 : 0 ≤ q1 ∧ q1 ≤ 63
def nineT (p1 q1 : Int) : Str := threeT ((63 - p1).fmod 8) ((63 - p1).fdiv 32) (Str.ofString "-xSs") ++ (threeT ((63 - q1).fdiv 8) (((63 - p1).fdiv 16).fmod 2) (Str.ofString "-xSs")) ++ threeT ((63 - q1).fmod 8) (((63 - p1).fdiv 8).fmod 2) (Str.ofString "-xTt")
section
variable {w : World} {loose : List Str} {mean : ExcName → Option Value} {mg mb : Str → Option Value} {d u : Nat} {f : Addr} {vs : List Value}
theorem written_at {mode : Int} {p q : Nat} {x : Str} {tb tp : Tok} (e : x = ⟨#[p, q]⟩) (hp : p < 128) (hq : q < 128) : Gives w loose mean mg mb 8 200 212 [.bytes (byteArr (octs mode 32)) tb, .str x tp] (fun t => .str (wrT mode p q) t) := by
  subst e
  exact written_gives _ p q tb tp hp hq (by rw [octB_size]) (by rw [octB_size]; decide) (by rw [octB_size]; decide)
theorem pair_use {dp un : Nat} {gd : Option (List Code)} {cn : Str} {cs : Scope} {a : Addr} {ccd : Value} {cl : List (Str × Addr)} {outer : List Env} {A₀ : Around} {base h₀ : Heap} {L : Addr} {m : Str → Option Value} {news : List (Addr × Obj)} {s : Shared} {Q E : Value → Shared → Prop} {p q : Int}
    (G : PairG w loose mean mg mb d u f vs p q) (B : Below A₀ base outer h₀) (F : Fr h₀ L s.heap m) (X : (hd.heap_39 w.params).In h₀) (N : News h₀ L s.heap news) (T : Top hd.view_39 loose mean mg mb h₀) (hk : cs.kind = .function) (hd : dp + d < recursionLimit) (hu : un + u < cLine)
    (ret : ∀ D t1 t2 n h' tk', Fr h₀ L h' m → News h₀ L h' ((D, listOf #[.int p t1, .int q t2] n) :: news) → Q (.ref D) { s with heap := h', toks := tk' }) :
    wpAny (model PySem.Challenge.rw_ij0199_01.row.prog w) (ktrTop dp un gd cn cs L a ccd cl outer) (call (.ref f) vs) Q E s := G _ _ _ _ _ _ _ _ _ _ _ _ _ _ _ _ _ _ B F X N T hk hd hu ret
end

theorem item_len (x : Str) (i : Int) : (Txt.item x i).length = 1 := rfl
theorem threeT_len (r a : Int) (la : Str) : (threeT r a la).length = 3 := rfl
section
variable {w : World} {mg mb : Str → Option Value} {loose : List Str} {mean : ExcName → Option Value}

theorem nine_gives (mode : Int) (p q : Nat) (p1 q1 : Int) (tm tp tq : Tok) (P : NineT mode p q p1 q1) : Gives w loose mean mg mb 40 800 240 [.int mode tm, .str ⟨#[p]⟩ tp, .str ⟨#[q]⟩ tq] (fun t => .str (nineT p1 q1) t) := by
  w_top off
  unfold Gives
  k_fill
  intro dp un gd cn cs a ccd cl outer A₀ base h₀ L m news s Q E B F X N T hk hd hu hret
  refine wpAny_call ?_
  (k_dflt (refine' code_frozen ?k1 ?k2 ?k3 ?k4 ?k5 ?kA ?kF ?kK ?k6 ?k7 ?k8 ?k9 ?kB ?_ ?c2 ?c3 ?c4 ?c5; (case kA => exact rfl); (case kF => exact rfl); (case kK => assumption); (case k1 => k_asm); (case k2 => k_asm); (case k3 => k_asm); (case k4 => k_asm); (case k5 => k_asm); (case k6 => k_is); (case k7 => k_is); (case k8 => ktr_room); (case k9 => first | exact BindsTo.of_eq rfl | exact binds_K (by k_in) rfl (by k_is) rfl rfl rfl); (case c5 => decide); (case kB => exact locs rfl); (case c2 => exact rfl); (case c3 => exact rfl); (case c4 => exact rfl); k_whole; intro g' L' h' FG' F' N' B' X' T'; (try dsimp only); (try k_lift B'); (try k_fold)))
  replace F' := fr_known [(Str.ofString "mode", Value.int mode tm), (Str.ofString "first", Value.str ⟨#[p]⟩ tp), (Str.ofString "second", Value.str ⟨#[q]⟩ tq)] F' (by intro p hp; simp only [List.mem_cons, List.not_mem_nil, or_false] at hp; rcases hp with rfl | rfl | rfl <;> rfl)
  dsimp only [kstB] at F'
  obtain ⟨hp, hq, hlen, hsafe, ⟨a1, b1, c1, P1⟩, ⟨a2, b2, c2, P2⟩, ⟨hr1, hr2⟩, ⟨hr3, hr4⟩⟩ := P
  have hz1 : 1 ≤ (wrT mode p q).cps.size := by show 1 ≤ (wrT mode p q).length; omega
  have hz2 : (wrT mode p q).cps.size < 2 ^ 63 := by show (wrT mode p q).length < 2 ^ 63; omega
  have hz3 : (wrT mode p q).length ≤ 1048576 := by omega
  repeat' ((fail_if_success (with_reducible show Back _ _ _ _ _ _)); (first | ((with_reducible show wpAny _ _ (binaryOp Operator.Add (Value.str _ _) (Value.str _ _)) _ _ _); k_dflt (refine add_str ?_ (by ((try simp only [Str.length_append, threeT_len]); rw [sizeLine_eq]; first | decide | exact (show 1 + 1 ≤ 16777216 by decide) | omega))); intro _ _) | ((with_reducible show ite (((Str.length _ : Nat) : Int) ≠ _) _ _); k_dflt (refine ite_neg' (by omega) ?_)) | (with_reducible refine ite_diff ?_) | ((with_reducible show wpAny _ _ (call (Value.ref 226) [Value.str _ _, Value.str _ _, Value.str _ _]) _ _ _); k_dflt (refine pair_use (pair_gives _ _ _ _ _ _ _ _ _ _ _ (by with_reducible assumption)) (by assumption) (by k_asm) (by assumption) (by k_asm) (by k_asm) (by rfl) (by ktr_room) (by ktr_units) ?_; k_whole); intro D' t1' t2' n' h' tk' F' N'; (try dsimp only)) | ((with_reducible show wpAny _ _ (call (Value.ref 233) [Value.int _ _, Value.int _ _, Value.str (Str.ofString "t") _]) _ _ _); k_dflt (refine gives_use (three_gives _ _ _ (Str.ofString "-xTt") _ _ _ (by ((try simp only [Int.toNat_zero, Int.toNat_one, List.getD_cons_zero, List.getD_cons_succ]); (try simp only [Int.fmod_eq_emod_of_nonneg _ (show (0 : Int) ≤ 8 by decide), Int.fmod_eq_emod_of_nonneg _ (show (0 : Int) ≤ 2 by decide), Int.fdiv_eq_ediv_of_nonneg _ (show (0 : Int) ≤ 8 by decide), Int.fdiv_eq_ediv_of_nonneg _ (show (0 : Int) ≤ 16 by decide), Int.fdiv_eq_ediv_of_nonneg _ (show (0 : Int) ≤ 32 by decide)]); omega)) (by ((try simp only [Int.toNat_zero, Int.toNat_one, List.getD_cons_zero, List.getD_cons_succ]); (try simp only [Int.fmod_eq_emod_of_nonneg _ (show (0 : Int) ≤ 8 by decide), Int.fmod_eq_emod_of_nonneg _ (show (0 : Int) ≤ 2 by decide), Int.fdiv_eq_ediv_of_nonneg _ (show (0 : Int) ≤ 8 by decide), Int.fdiv_eq_ediv_of_nonneg _ (show (0 : Int) ≤ 16 by decide), Int.fdiv_eq_ediv_of_nonneg _ (show (0 : Int) ≤ 32 by decide)]); omega)) (by ((try simp only [Int.toNat_zero, Int.toNat_one, List.getD_cons_zero, List.getD_cons_succ]); (try simp only [Int.fmod_eq_emod_of_nonneg _ (show (0 : Int) ≤ 8 by decide), Int.fmod_eq_emod_of_nonneg _ (show (0 : Int) ≤ 2 by decide), Int.fdiv_eq_ediv_of_nonneg _ (show (0 : Int) ≤ 8 by decide), Int.fdiv_eq_ediv_of_nonneg _ (show (0 : Int) ≤ 16 by decide), Int.fdiv_eq_ediv_of_nonneg _ (show (0 : Int) ≤ 32 by decide)]); omega)) (by ((try simp only [Int.toNat_zero, Int.toNat_one, List.getD_cons_zero, List.getD_cons_succ]); (try simp only [Int.fmod_eq_emod_of_nonneg _ (show (0 : Int) ≤ 8 by decide), Int.fmod_eq_emod_of_nonneg _ (show (0 : Int) ≤ 2 by decide), Int.fdiv_eq_ediv_of_nonneg _ (show (0 : Int) ≤ 8 by decide), Int.fdiv_eq_ediv_of_nonneg _ (show (0 : Int) ≤ 16 by decide), Int.fdiv_eq_ediv_of_nonneg _ (show (0 : Int) ≤ 32 by decide)]); omega)) (.inr ⟨rfl, rfl⟩)) (by assumption) (by k_asm) (by assumption) (by k_asm) (by k_asm) (by rfl) (by ktr_room) (by ktr_units) ?_; k_whole); intro t' h' tk' F' N'; (try dsimp only)) | ((with_reducible show wpAny _ _ (call (Value.ref 233) [Value.int _ _, Value.int _ _, Value.str (Str.ofString "s") _]) _ _ _); k_dflt (refine gives_use (three_gives _ _ _ (Str.ofString "-xSs") _ _ _ (by ((try simp only [Int.toNat_zero, Int.toNat_one, List.getD_cons_zero, List.getD_cons_succ]); (try simp only [Int.fmod_eq_emod_of_nonneg _ (show (0 : Int) ≤ 8 by decide), Int.fmod_eq_emod_of_nonneg _ (show (0 : Int) ≤ 2 by decide), Int.fdiv_eq_ediv_of_nonneg _ (show (0 : Int) ≤ 8 by decide), Int.fdiv_eq_ediv_of_nonneg _ (show (0 : Int) ≤ 16 by decide), Int.fdiv_eq_ediv_of_nonneg _ (show (0 : Int) ≤ 32 by decide)]); omega)) (by ((try simp only [Int.toNat_zero, Int.toNat_one, List.getD_cons_zero, List.getD_cons_succ]); (try simp only [Int.fmod_eq_emod_of_nonneg _ (show (0 : Int) ≤ 8 by decide), Int.fmod_eq_emod_of_nonneg _ (show (0 : Int) ≤ 2 by decide), Int.fdiv_eq_ediv_of_nonneg _ (show (0 : Int) ≤ 8 by decide), Int.fdiv_eq_ediv_of_nonneg _ (show (0 : Int) ≤ 16 by decide), Int.fdiv_eq_ediv_of_nonneg _ (show (0 : Int) ≤ 32 by decide)]); omega)) (by ((try simp only [Int.toNat_zero, Int.toNat_one, List.getD_cons_zero, List.getD_cons_succ]); (try simp only [Int.fmod_eq_emod_of_nonneg _ (show (0 : Int) ≤ 8 by decide), Int.fmod_eq_emod_of_nonneg _ (show (0 : Int) ≤ 2 by decide), Int.fdiv_eq_ediv_of_nonneg _ (show (0 : Int) ≤ 8 by decide), Int.fdiv_eq_ediv_of_nonneg _ (show (0 : Int) ≤ 16 by decide), Int.fdiv_eq_ediv_of_nonneg _ (show (0 : Int) ≤ 32 by decide)]); omega)) (by ((try simp only [Int.toNat_zero, Int.toNat_one, List.getD_cons_zero, List.getD_cons_succ]); (try simp only [Int.fmod_eq_emod_of_nonneg _ (show (0 : Int) ≤ 8 by decide), Int.fmod_eq_emod_of_nonneg _ (show (0 : Int) ≤ 2 by decide), Int.fdiv_eq_ediv_of_nonneg _ (show (0 : Int) ≤ 8 by decide), Int.fdiv_eq_ediv_of_nonneg _ (show (0 : Int) ≤ 16 by decide), Int.fdiv_eq_ediv_of_nonneg _ (show (0 : Int) ≤ 32 by decide)]); omega)) (.inl ⟨rfl, rfl⟩)) (by assumption) (by k_asm) (by assumption) (by k_asm) (by k_asm) (by rfl) (by ktr_room) (by ktr_units) ?_; k_whole); intro t' h' tk' F' N'; (try dsimp only)) | ((with_reducible show wpAny _ _ (call (Value.ref 212) [Value.bytes _ _, Value.str _ _]) _ _ _); k_dflt (refine gives_use (written_at (by with_reducible (first | exact cat_pa _ | exact cat_ap _ | exact cat_pq _ _)) (by first | assumption | decide) (by first | assumption | decide)) (by assumption) (by k_asm) (by assumption) (by k_asm) (by k_asm) (by rfl) (by ktr_room) (by ktr_units) ?_; k_whole); intro t' h' tk' F' N'; (try dsimp only)) | ((with_reducible show wpAny _ _ (call (Value.ref 51) [Value.str _ _]) _ _ _); k_dflt (refine gives_use (quote_bare _ _ (by assumption) (by assumption) (by assumption) (by assumption)) (by assumption) (by k_asm) (by assumption) (by k_asm) (by k_asm) (by rfl) (by ktr_room) (by ktr_units) ?_; k_whole); intro t' h' tk' F' N'; (try dsimp only)) | ((with_reducible show wpAny _ _ (call (Value.ref 205) [Value.int _ _]) _ _ _); k_dflt (refine gives_use (octets_gives _ _) (by assumption) (by k_asm) (by assumption) (by k_asm) (by k_asm) (by rfl) (by ktr_room) (by ktr_units) ?_; k_whole); intro t' h' tk' F' N'; (try dsimp only)) | (k_unfold; (try dsimp only)) | walk1 | (dsimp only; walk1) | (leave1; try dsimp only)))
  all_goals intro hN0
  all_goals first
    | (exfalso; omega)
    | (exfalso; (rename ¬ _ = _ => hne); exact hne rfl)
    | exact hret _ _ _ (by assumption) hN0
end
end
section
open PySem PySem.W PyProof.Rows PySem.Calls PyProof.V PySem.Spec
set_option maxRecDepth 100000
set_option maxHeartbeats 8000000

def joinedI (mode : Int) : Int := Builtin.bitAnd mode 61440 + Builtin.bitAnd mode 4095
structure RightT (mode : Int) (p q : Nat) (p1 q1 : Int) : Prop where
  N : NineT mode p q p1 q1
  j : joinedI mode = mode.fmod 65536
  f1 : Txt.join (Str.ofString "") (fmS mode 10) = kindT mode ++ nineT p1 q1
  f2 : Txt.join (Str.ofString "") (fmS (joinedI mode) 10) = kindT (joinedI mode) ++ nineT p1 q1
  l1 : (kindT mode).length ≤ 1000
  l2 : (kindT (joinedI mode)).length ≤ 1000
section
variable {w : World} {loose : List Str} {mean : ExcName → Option Value} {mg mb : Str → Option Value}
theorem filemode_at {mode : Int} {y : Str} {tm : Tok} (e : Txt.join (Str.ofString "") (fmS mode 10) = y) : Gives w loose mean mg mb 8 200 184 [.int mode tm] (fun t => .str y t) := by
  subst e
  exact filemode_gives mode tm
end
theorem ite_same {x : Str} {p q : Prop} {d : Decidable ((x == x) = true)} (hq : p) : @ite Prop ((x == x) = true) d p q := by rw [if_pos (beq_self_eq_true x)]; exact hq
section
variable {w : World} {mg mb : Str → Option Value} {loose : List Str} {mean : ExcName → Option Value}

theorem right_gives (mode : Int) (p q : Nat) (p1 q1 : Int) (tm tp tq : Tok) (P : RightT mode p q p1 q1) : Gives w loose mean mg mb 60 1600 254 [.int mode tm, .str ⟨#[p]⟩ tp, .str ⟨#[q]⟩ tq] (fun _ => .bool true) := by
  w_top off
  unfold Gives
  k_fill
  intro dp un gd cn cs a ccd cl outer A₀ base h₀ L m news s Q E B F X N T hk hd hu hret
  refine wpAny_call ?_
  (k_dflt (refine' code_frozen ?k1 ?k2 ?k3 ?k4 ?k5 ?kA ?kF ?kK ?k6 ?k7 ?k8 ?k9 ?kB ?_ ?c2 ?c3 ?c4 ?c5; (case kA => exact rfl); (case kF => exact rfl); (case kK => assumption); (case k1 => k_asm); (case k2 => k_asm); (case k3 => k_asm); (case k4 => k_asm); (case k5 => k_asm); (case k6 => k_is); (case k7 => k_is); (case k8 => ktr_room); (case k9 => first | exact BindsTo.of_eq rfl | exact binds_K (by k_in) rfl (by k_is) rfl rfl rfl); (case c5 => decide); (case kB => exact locs rfl); (case c2 => exact rfl); (case c3 => exact rfl); (case c4 => exact rfl); k_whole; intro g' L' h' FG' F' N' B' X' T'; (try dsimp only); (try k_lift B'); (try k_fold)))
  replace F' := fr_known [(Str.ofString "mode", Value.int mode tm), (Str.ofString "first", Value.str ⟨#[p]⟩ tp), (Str.ofString "second", Value.str ⟨#[q]⟩ tq)] F' (by intro p hp; simp only [List.mem_cons, List.not_mem_nil, or_false] at hp; rcases hp with rfl | rfl | rfl <;> rfl)
  dsimp only [kstB] at F'
  obtain ⟨hN, hj, hf1, hf2, hl1, hl2⟩ := P
  have h9 : (nineT p1 q1).length = 9 := rfl
  unfold joinedI at hj hf2 hl2
  repeat' ((fail_if_success (with_reducible show Back _ _ _ _ _ _)); (first | ((with_reducible show wpAny _ _ (binaryOp Operator.Add (Value.str _ _) (Value.str _ _)) _ _ _); k_dflt (refine add_str ?_ (by ((try simp only [Str.length_append]); rw [sizeLine_eq]; omega))); intro _ _) | (with_reducible refine ite_same ?_) | ((with_reducible show wpAny _ _ (call (Value.ref 247) [Value.int _ _]) _ _ _); k_dflt (refine gives_use (kind_gives _ _) (by assumption) (by k_asm) (by assumption) (by k_asm) (by k_asm) (by rfl) (by ktr_room) (by ktr_units) ?_; k_whole); intro t' h' tk' F' N'; (try dsimp only)) | ((with_reducible show wpAny _ _ (call (Value.ref 184) [Value.int _ _]) _ _ _); k_dflt (refine gives_use (filemode_at (by assumption)) (by assumption) (by k_asm) (by assumption) (by k_asm) (by k_asm) (by rfl) (by ktr_room) (by ktr_units) ?_; k_whole); intro t' h' tk' F' N'; (try dsimp only)) | ((with_reducible show wpAny _ _ (call (Value.ref 240) [Value.int _ _, Value.str _ _, Value.str _ _]) _ _ _); k_dflt (refine gives_use (nine_gives _ _ _ _ _ _ _ _ (by assumption)) (by assumption) (by k_asm) (by assumption) (by k_asm) (by k_asm) (by rfl) (by ktr_room) (by ktr_units) ?_; k_whole); intro t' h' tk' F' N'; (try dsimp only)) | (k_unfold; (try dsimp only)) | walk1 | (dsimp only; walk1) | (leave1; try dsimp only)))
  all_goals intro hN0
  all_goals first
    | (exfalso; omega)
    | (rw [beq_self_eq_true]; exact hret 0 _ _ (by assumption) hN0)
    | exact hret 0 _ _ (by assumption) hN0
end
end
section
open PySem PySem.W PyProof.Rows PySem.Calls PyProof.V PySem.Spec
set_option maxRecDepth 100000
set_option maxHeartbeats 8000000
section
variable {prog : Program} {w : World} {A : Around} {E : Value → Shared → Prop} {s : Shared} {env : Env} {h₀ : Heap} {target : Expr} {body orelse : List Stmt} {Q : Flow → Shared → Prop}

/-- a for over a list that stands; what is named J holds between the turns -/
def ListFor (prog : Program) (w : World) (A : Around) (h₀ : Heap) (env : Env) (target : Expr) (body orelse : List Stmt) (Q : Flow → Shared → Prop) (E : Value → Shared → Prop) (xv : Value) (s₁ : Shared) : Prop :=
  ∃ (ax : Addr) (vs : List Value) (m : Str → Option Value) (news : List (Addr × Obj)) (J : Nat → (Str → Option Value) → List (Addr × Obj) → Prop),
    xv = .ref ax ∧ s₁.heap.IsList ax vs.toArray ∧ ax ≠ env.locals ∧ (∀ p ∈ news, p.1 ≠ ax) ∧ Fr h₀ env.locals s₁.heap m ∧ News h₀ env.locals s₁.heap news ∧ J 0 m news ∧
    (∀ i v m₁ news₁ h₁ tk₁ own, vs[i]? = some v → J i m₁ news₁ → news₁.map (·.1) = news.map (·.1) → OwnOff own (news.map (·.1)) → Fr h₀ env.locals h₁ m₁ → News h₀ env.locals h₁ (news₁ ++ own) →
      wpAny (model prog w) A (assign target env v) (fun _ s₂ => wpAny (model prog w) A (execs body env)
        (InvPostN h₀ env.locals (J (i + 1)) own (news.map (·.1)) { s₁ with heap := h₁, toks := tk₁ } Q) E s₂) E { s₁ with heap := h₁, toks := tk₁ }) ∧
    ∀ h' tk m' news', Fr h₀ env.locals h' m' → News h₀ env.locals h' news' → J vs.length m' news' → wpAny (model prog w) A (execs orelse env) Q E { s₁ with heap := h', toks := tk }

theorem For_lst {iter : Expr} {pos : Pos} {m : Str → Option Value} (hh : A.handled = none) (_F : Fr h₀ env.locals s.heap m)
    (h : wpAny (model prog w) A (eval iter env) (fun xv s₁ => ListFor prog w A h₀ env target body orelse Q E xv s₁) E s)
    (hs : ∀ x, foldedSetIterable iter env x = pure x := by intro _; rfl)
    (hE : PassesOwn (model prog w) A env E := by passes_own) :
    wpAny (model prog w) A (exec (.For target iter body orelse pos) env) Q E s := by
  refine wpAny_For (wpAny_mono h (fun xv s₁ h₁ => ?_) fun _ _ e => e) hs
  obtain ⟨ax, vs, m, news, J, rfl, hl, haxL, hsep, F, N, h0, turn, done⟩ := h₁
  obtain ⟨lo, hax, _⟩ := id hl
  have hlt : ax < s₁.heap.objs.size := Heap.lt_size hax
  have hne : ax ≠ s₁.heap.objs.size := Nat.ne_of_lt hlt
  refine wpAny_pyIter_list hl ?_
  have W := KTurns.ofWalks (target := target) (Walks.list (prog := prog) (w := w) hh s₁.heap.objs.size ax hne vs.toArray) fun i v s Q E st q => letGo_listiter st.1 q
  refine loop_else (R := fun r s' => match r with | .ok f => Q f s' | .error e => cameBackBy (model prog w) A env E e s') W ?_ ?_ ?_ ?_ (F.push _) (fun p hp => ⟨Heap.get?_push_of_some _ (N p hp).1, (N p hp).2⟩) J h0 ?_ ?_
  · intro hI
    rcases List.mem_cons.mp hI with e | hI
    · exact absurd F.ns.lt (e ▸ Nat.lt_irrefl _)
    · exact haxL (List.mem_singleton.mp hI).symm
  · intro b hb
    have hb' : b = s₁.heap.objs.size := by simpa using hb
    rw [hb']
    exact next_is_new F
  · intro p hp hI
    rcases List.mem_cons.mp hI with e | hI
    · exact absurd (Heap.lt_size (N p hp).1) (e ▸ Nat.lt_irrefl _)
    · exact hsep p hp (List.mem_singleton.mp hI)
  · exact ⟨⟨_, Heap.get?_push_size _ rfl, rfl, rfl⟩, hl.push _⟩
  · intro i v m₁ news₁ h₁ tk₁ own hin hP hJ hadr hoff _ F₁ N₁
    have hv : vs[i]? = some v := by
      have hp' : vs.toArray[i]? = some v := hP
      simpa using hp'
    exact wpAny_mono (turn i v m₁ news₁ h₁ tk₁ own hv hJ hadr hoff F₁ N₁) (fun _ _ x => wpAny_passesOwn hE x) hE
  · intro h' tk m' news' F' N' _ hJ
    have hJ' : J vs.length m' news' := by simpa using hJ
    exact wpAny_passesOwn hE (done h' tk m' news' F' N' hJ')

end
end
section
open PySem PySem.W PyProof.Rows PySem.Calls PyProof.V PySem.Spec
set_option maxRecDepth 100000
set_option maxHeartbeats 1000000
def upI (mode : Int) : Int := (mode / 64) % 64
def loI (mode : Int) : Int := mode % 64
theorem bA_nat (n k : Nat) : Builtin.bitAnd (n : Int) (k : Int) = ((n &&& k : Nat) : Int) := by
  unfold Builtin.bitAnd
  simp
theorem and_pow (n i : Nat) : n &&& 2 ^ i = n / 2 ^ i % 2 * 2 ^ i := by
  apply Nat.eq_of_testBit_eq
  intro j
  rw [Nat.testBit_and, Nat.testBit_two_pow]
  by_cases hj : i = j
  · subst hj
    rw [decide_eq_true rfl, Bool.and_true, Nat.testBit_eq_decide_div_mod_eq]
    have h := Nat.mod_two_eq_zero_or_one (n / 2 ^ i)
    rcases h with h | h
    · rw [h, Nat.zero_mul]; simp
    · rw [h, Nat.one_mul, Nat.testBit_two_pow_self]; simp
  · rw [decide_eq_false hj, Bool.and_false]
    have h := Nat.mod_two_eq_zero_or_one (n / 2 ^ i)
    rcases h with h | h
    · rw [h, Nat.zero_mul]; simp
    · rw [h, Nat.one_mul, Nat.testBit_two_pow, decide_eq_false hj]
theorem bA_pow (n i : Nat) : Builtin.bitAnd (n : Int) ((2 ^ i : Nat) : Int) = ((n / 2 ^ i % 2 * 2 ^ i : Nat) : Int) := by
  rw [bA_nat, and_pow]
theorem bA_two (n i j : Nat) : Builtin.bitAnd (n : Int) ((2 ^ i ||| 2 ^ j : Nat) : Int) = (((n / 2 ^ i % 2 * 2 ^ i) ||| (n / 2 ^ j % 2 * 2 ^ j) : Nat) : Int) := by
  rw [bA_nat, Nat.and_or_distrib_left, and_pow, and_pow]
theorem bA_kind (n : Nat) : Builtin.bitAnd (n : Int) 61440 = ((n / 4096 % 16 * 4096 : Nat) : Int) := by
  have e : (61440 : Int) = (((2 ^ 12 ||| 2 ^ 13) ||| (2 ^ 14 ||| 2 ^ 15) : Nat) : Int) := by decide
  rw [e, bA_nat, Nat.and_or_distrib_left, Nat.and_or_distrib_left, Nat.and_or_distrib_left]
  simp only [and_pow]
  have e12 : n / 2 ^ 12 = n / 4096 := rfl
  have e13 : n / 2 ^ 13 = n / 4096 / 2 := by rw [Nat.div_div_eq_div_mul]
  have e14 : n / 2 ^ 14 = n / 4096 / 4 := by rw [Nat.div_div_eq_div_mul]
  have e15 : n / 2 ^ 15 = n / 4096 / 8 := by rw [Nat.div_div_eq_div_mul]
  rw [e12, e13, e14, e15]
  generalize n / 4096 = k
  have hk : k % 16 = k % 2 + 2 * (k / 2 % 2) + 4 * (k / 4 % 2) + 8 * (k / 8 % 2) := by omega
  rw [hk]
  have a0 := Nat.mod_two_eq_zero_or_one k
  have a1 := Nat.mod_two_eq_zero_or_one (k / 2)
  have a2 := Nat.mod_two_eq_zero_or_one (k / 4)
  have a3 := Nat.mod_two_eq_zero_or_one (k / 8)
  rcases a0 with a0 | a0 <;> rcases a1 with a1 | a1 <;> rcases a2 with a2 | a2 <;> rcases a3 with a3 | a3 <;> rw [a0, a1, a2, a3] <;> decide
theorem bA_low (n : Nat) : Builtin.bitAnd (n : Int) 4095 = ((n % 4096 : Nat) : Int) := by
  rw [show (4095 : Int) = ((2 ^ 12 - 1 : Nat) : Int) by decide, bA_nat, Nat.and_two_pow_sub_one_eq_mod]
theorem joined_eq (n : Nat) : joinedI (n : Int) = ((n % 65536 : Nat) : Int) := by
  unfold joinedI
  rw [bA_kind, bA_low]
  omega

def kdsX (x : Int) : List Str := (qrows.filter (fun p => x == p.1)).map (·.2)
def kindX (x : Int) : Str := if (kdsX x).isEmpty = true then Str.ofString "?" else Txt.join (Str.ofString "") (kdsX x)
def kind0 (x : Int) : Str := match (rowsOf 0).find? (fun p => x == p.1) with | some p => p.2 | none => Str.ofString "?"
theorem kindX_eq (mode : Int) : kindT mode = kindX (Builtin.bitAnd mode 61440) := rfl
theorem kind0_eq (mode : Int) : fmc mode 0 = kind0 (Builtin.bitAnd mode 61440) := by
  unfold fmc kind0 hit
  simp only [if_true]
  all_goals rfl
theorem kinds_same : ∀ k, k < 16 → kind0 ((k * 4096 : Nat) : Int) = kindX ((k * 4096 : Nat) : Int) ∧ (kindX ((k * 4096 : Nat) : Int)).length = 1 := by decide +kernel
theorem kind_same (n : Nat) : fmc (n : Int) 0 = kindT (n : Int) ∧ (kindT (n : Int)).length = 1 := by
  rw [kind0_eq, kindX_eq, bA_kind]
  exact kinds_same _ (Nat.mod_lt _ (by decide))
/-- what a bit, or a bit and the bit above, write -/
theorem fmc_one {n i k : Nat} {c : Str} (hi : i ≠ 0) (hr : rowsOf i = [(((2 ^ k : Nat) : Int), c)]) : fmc (n : Int) i = if n / 2 ^ k % 2 = 1 then c else Str.ofString "-" := by
  unfold fmc hit
  rw [hr]
  simp only [if_neg hi, List.find?_cons, List.find?_nil, bA_pow]
  have h := Nat.mod_two_eq_zero_or_one (n / 2 ^ k)
  have hp : (2 : Nat) ^ k ≠ 0 := Nat.pos_iff_ne_zero.mp (Nat.two_pow_pos k)
  rcases h with h | h
  · rw [h, if_neg (by decide)]
    rw [show (((0 * 2 ^ k : Nat) : Int) == ((2 ^ k : Nat) : Int)) = false by rw [beq_eq_false_iff_ne]; intro e; rw [Nat.zero_mul] at e; exact hp (by exact_mod_cast e.symm)]
  · rw [h, if_pos rfl, Nat.one_mul, beq_self_eq_true]
end
section
open PySem PySem.W PyProof.Rows PySem.Calls PyProof.V PySem.Spec
set_option maxRecDepth 100000
set_option maxHeartbeats 1000000
theorem pickG {x1 x2 x3 y1 y2 y3 : Int} {c1 c2 c3 : Str} {mode : Int} {i : Nat} (hi : i ≠ 0) (hr : rowsOf i = [(y1, c1), (y2, c2), (y3, c3)]) (e1 : Builtin.bitAnd mode y1 = x1) (e2 : Builtin.bitAnd mode y2 = x2) (e3 : Builtin.bitAnd mode y3 = x3) :
    fmc mode i = if (x1 == y1) = true then c1 else if (x2 == y2) = true then c2 else if (x3 == y3) = true then c3 else Str.ofString "-" := by
  subst e1 e2 e3
  unfold fmc hit
  rw [hr]
  simp only [if_neg hi, List.find?_cons, List.find?_nil]
  cases h1 : (Builtin.bitAnd mode y1 == y1) with
  | true => simp
  | false =>
    cases h2 : (Builtin.bitAnd mode y2 == y2) with
    | true => simp
    | false => cases h3 : (Builtin.bitAnd mode y3 == y3) <;> simp
theorem fmc_3 (n : Nat) : fmc (n : Int) 3 = Txt.item (Str.ofString "-xSs") (((n / 2048 % 2 : Nat) : Int) * 2 + ((n / 64 % 2 : Nat) : Int)) := by
  rw [pickG (i := 3) (by decide) rfl (bA_two n 6 11) (bA_pow n 11) (bA_pow n 6)]
  rw [show n / 2 ^ 6 = n / 64 from rfl, show n / 2 ^ 11 = n / 2048 from rfl]
  have h := Nat.mod_two_eq_zero_or_one (n / 64)
  have h' := Nat.mod_two_eq_zero_or_one (n / 2048)
  rcases h with h | h <;> rcases h' with h' | h' <;> rw [h, h'] <;> decide +kernel
theorem fmc_6 (n : Nat) : fmc (n : Int) 6 = Txt.item (Str.ofString "-xSs") (((n / 1024 % 2 : Nat) : Int) * 2 + ((n / 8 % 2 : Nat) : Int)) := by
  rw [pickG (i := 6) (by decide) rfl (bA_two n 3 10) (bA_pow n 10) (bA_pow n 3)]
  rw [show n / 2 ^ 3 = n / 8 from rfl, show n / 2 ^ 10 = n / 1024 from rfl]
  have h := Nat.mod_two_eq_zero_or_one (n / 8)
  have h' := Nat.mod_two_eq_zero_or_one (n / 1024)
  rcases h with h | h <;> rcases h' with h' | h' <;> rw [h, h'] <;> decide +kernel
theorem fmc_9 (n : Nat) : fmc (n : Int) 9 = Txt.item (Str.ofString "-xTt") (((n / 512 % 2 : Nat) : Int) * 2 + ((n / 1 % 2 : Nat) : Int)) := by
  rw [pickG (i := 9) (by decide) rfl (bA_two n 0 9) (bA_pow n 9) (bA_pow n 0)]
  rw [show n / 2 ^ 0 = n / 1 from rfl, show n / 2 ^ 9 = n / 512 from rfl]
  have h := Nat.mod_two_eq_zero_or_one (n / 1)
  have h' := Nat.mod_two_eq_zero_or_one (n / 512)
  rcases h with h | h <;> rcases h' with h' | h' <;> rw [h, h'] <;> decide +kernel
theorem fmc_1 (n : Nat) : fmc (n : Int) 1 = Txt.item (Str.ofString "-r") ((n / 256 % 2 : Nat) : Int) := by
  rw [fmc_one (k := 8) (c := Str.ofString "r") (by decide) rfl]
  rw [show n / 2 ^ 8 = n / 256 from rfl]
  have h := Nat.mod_two_eq_zero_or_one (n / 256)
  rcases h with h | h <;> rw [h] <;> decide +kernel
theorem fmc_2 (n : Nat) : fmc (n : Int) 2 = Txt.item (Str.ofString "-w") ((n / 128 % 2 : Nat) : Int) := by
  rw [fmc_one (k := 7) (c := Str.ofString "w") (by decide) rfl]
  rw [show n / 2 ^ 7 = n / 128 from rfl]
  have h := Nat.mod_two_eq_zero_or_one (n / 128)
  rcases h with h | h <;> rw [h] <;> decide +kernel
theorem fmc_4 (n : Nat) : fmc (n : Int) 4 = Txt.item (Str.ofString "-r") ((n / 32 % 2 : Nat) : Int) := by
  rw [fmc_one (k := 5) (c := Str.ofString "r") (by decide) rfl]
  rw [show n / 2 ^ 5 = n / 32 from rfl]
  have h := Nat.mod_two_eq_zero_or_one (n / 32)
  rcases h with h | h <;> rw [h] <;> decide +kernel
theorem fmc_5 (n : Nat) : fmc (n : Int) 5 = Txt.item (Str.ofString "-w") ((n / 16 % 2 : Nat) : Int) := by
  rw [fmc_one (k := 4) (c := Str.ofString "w") (by decide) rfl]
  rw [show n / 2 ^ 4 = n / 16 from rfl]
  have h := Nat.mod_two_eq_zero_or_one (n / 16)
  rcases h with h | h <;> rw [h] <;> decide +kernel
theorem fmc_7 (n : Nat) : fmc (n : Int) 7 = Txt.item (Str.ofString "-r") ((n / 4 % 2 : Nat) : Int) := by
  rw [fmc_one (k := 2) (c := Str.ofString "r") (by decide) rfl]
  rw [show n / 2 ^ 2 = n / 4 from rfl]
  have h := Nat.mod_two_eq_zero_or_one (n / 4)
  rcases h with h | h <;> rw [h] <;> decide +kernel
theorem fmc_8 (n : Nat) : fmc (n : Int) 8 = Txt.item (Str.ofString "-w") ((n / 2 % 2 : Nat) : Int) := by
  rw [fmc_one (k := 1) (c := Str.ofString "w") (by decide) rfl]
  rw [show n / 2 ^ 1 = n / 2 from rfl]
  have h := Nat.mod_two_eq_zero_or_one (n / 2)
  rcases h with h | h <;> rw [h] <;> decide +kernel

theorem join_ten (a0 a1 a2 a3 a4 a5 a6 a7 a8 a9 : Str) : Txt.join (Str.ofString "") [a0, a1, a2, a3, a4, a5, a6, a7, a8, a9] = a0 ++ ((a1 ++ a2 ++ a3) ++ (a4 ++ a5 ++ a6) ++ (a7 ++ a8 ++ a9)) := by
  have e : (Str.ofString "").cps = #[] := by decide
  show (⟨_⟩ : Str) = ⟨a0.cps ++ (((a1.cps ++ a2.cps) ++ a3.cps) ++ ((a4.cps ++ a5.cps) ++ a6.cps) ++ ((a7.cps ++ a8.cps) ++ a9.cps))⟩
  simp only [List.drop_succ_cons, List.drop_zero, List.foldl_cons, List.foldl_nil, List.headD_cons, e, Array.append_empty, Array.append_assoc]
theorem three_at (r a x y z : Int) (la : Str) (h1 : r.fdiv 4 = x) (h2 : (r.fdiv 2).fmod 2 = y) (h3 : a * 2 + r.fmod 2 = z) : threeT r a la = Txt.item (Str.ofString "-r") x ++ Txt.item (Str.ofString "-w") y ++ Txt.item la z := by
  subst h1 h2 h3; rfl
theorem fm_law (n : Nat) : Txt.join (Str.ofString "") (fmS (n : Int) 10) = kindT (n : Int) ++ nineT (63 - upI (n : Int)) (63 - loI (n : Int)) := by
  have hu : 63 - (63 - upI (n : Int)) = upI (n : Int) := by omega
  have hl : 63 - (63 - loI (n : Int)) = loI (n : Int) := by omega
  rw [show fmS (n : Int) 10 = [fmc (n : Int) 0, fmc (n : Int) 1, fmc (n : Int) 2, fmc (n : Int) 3, fmc (n : Int) 4, fmc (n : Int) 5, fmc (n : Int) 6, fmc (n : Int) 7, fmc (n : Int) 8, fmc (n : Int) 9] from rfl, join_ten, (kind_same n).1]
  unfold nineT
  rw [hu, hl]
  have F : ∀ (x : Int) {k : Int}, 0 ≤ k → x.fmod k = x % k := fun x _ h => Int.fmod_eq_emod_of_nonneg _ h
  have D : ∀ (x : Int) {k : Int}, 0 ≤ k → x.fdiv k = x / k := fun x _ h => Int.fdiv_eq_ediv_of_nonneg _ h
  rw [three_at ((upI (n : Int)).fmod 8) ((upI (n : Int)).fdiv 32) (x := ((n / 256 % 2 : Nat) : Int)) (y := ((n / 128 % 2 : Nat) : Int)) (z := ((n / 2048 % 2 : Nat) : Int) * 2 + ((n / 64 % 2 : Nat) : Int)) (la := Str.ofString "-xSs") ?ga1 ?ga2 ?ga3,
    three_at ((loI (n : Int)).fdiv 8) (((upI (n : Int)).fdiv 16).fmod 2) (x := ((n / 32 % 2 : Nat) : Int)) (y := ((n / 16 % 2 : Nat) : Int)) (z := ((n / 1024 % 2 : Nat) : Int) * 2 + ((n / 8 % 2 : Nat) : Int)) (la := Str.ofString "-xSs") ?gb1 ?gb2 ?gb3,
    three_at ((loI (n : Int)).fmod 8) (((upI (n : Int)).fdiv 8).fmod 2) (x := ((n / 4 % 2 : Nat) : Int)) (y := ((n / 2 % 2 : Nat) : Int)) (z := ((n / 512 % 2 : Nat) : Int) * 2 + ((n / 1 % 2 : Nat) : Int)) (la := Str.ofString "-xTt") ?gc1 ?gc2 ?gc3]
  · rw [fmc_1, fmc_2, fmc_3, fmc_4, fmc_5, fmc_6, fmc_7, fmc_8, fmc_9]
  all_goals ((try unfold upI); (try unfold loI); simp only [F _ (show (0 : Int) ≤ 8 by decide), F _ (show (0 : Int) ≤ 2 by decide), D _ (show (0 : Int) ≤ 4 by decide), D _ (show (0 : Int) ≤ 2 by decide), D _ (show (0 : Int) ≤ 8 by decide), D _ (show (0 : Int) ≤ 16 by decide), D _ (show (0 : Int) ≤ 32 by decide)]; omega)
end
section
open PySem PySem.W PyProof.Rows PySem.Calls PyProof.V PySem.Spec
set_option maxRecDepth 100000
set_option maxHeartbeats 1000000
theorem and_add_xor : ∀ (k a b : Nat), a < 2 ^ k → b < 2 ^ k → (a ^^^ b) + 2 * (a &&& b) = a + b
  | 0, a, b, ha, hb => by
    have e1 : a = 0 := by omega
    have e2 : b = 0 := by omega
    subst e1 e2; rfl
  | k + 1, a, b, ha, hb => by
    have ih := and_add_xor k (a / 2) (b / 2) (by rw [Nat.pow_succ] at ha; omega) (by rw [Nat.pow_succ] at hb; omega)
    have x1 : (a ^^^ b) / 2 = a / 2 ^^^ b / 2 := Nat.xor_div_two
    have x2 : (a ^^^ b) % 2 = (a % 2) ^^^ (b % 2) := by have := @Nat.xor_mod_two_pow a b 1; simpa using this
    have y1 : (a &&& b) / 2 = a / 2 &&& b / 2 := Nat.and_div_two
    have y2 : (a &&& b) % 2 = (a % 2) &&& (b % 2) := by have := @Nat.and_mod_two_pow a b 1; simpa using this
    rw [← x1, ← y1] at ih
    generalize a ^^^ b = x at *
    generalize a &&& b = y at *
    rcases Nat.mod_two_eq_zero_or_one a with ea | ea <;> rcases Nat.mod_two_eq_zero_or_one b with eb | eb <;> rw [ea, eb] at x2 y2
    · have z1 : x % 2 = 0 := x2
      have z2 : y % 2 = 0 := y2
      omega
    · have z1 : x % 2 = 1 := x2
      have z2 : y % 2 = 0 := y2
      omega
    · have z1 : x % 2 = 1 := x2
      have z2 : y % 2 = 0 := y2
      omega
    · have z1 : x % 2 = 0 := x2
      have z2 : y % 2 = 1 := y2
      omega
theorem bX_nat (n k : Nat) : Builtin.bitXor (n : Int) (k : Int) = ((n ^^^ k : Nat) : Int) := by
  rw [bitXor_and, bA_nat]
  have h := and_add_xor (n + k) n k (Nat.lt_of_le_of_lt (Nat.le_add_right n k) (Nat.lt_two_pow_self)) (Nat.lt_of_le_of_lt (Nat.le_add_left k n) (Nat.lt_two_pow_self))
  omega
def Un (n : Nat) : Nat := n / 64 % 64
def Ln (n : Nat) : Nat := n % 64
theorem xor_lt64 {a b : Nat} (ha : a < 64) (hb : b < 64) : a ^^^ b < 64 := Nat.xor_lt_two_pow (n := 6) ha hb
theorem xor_parts {a b c d : Nat} (hb : b < 64) (hd : d < 64) : (a * 64 + b) ^^^ (c * 64 + d) = (a ^^^ c) * 64 + (b ^^^ d) := by
  have h1 : ((a * 64 + b) ^^^ (c * 64 + d)) / 2 ^ 6 = (a * 64 + b) / 2 ^ 6 ^^^ (c * 64 + d) / 2 ^ 6 := Nat.xor_div_two_pow
  have h2 : ((a * 64 + b) ^^^ (c * 64 + d)) % 2 ^ 6 = (a * 64 + b) % 2 ^ 6 ^^^ (c * 64 + d) % 2 ^ 6 := Nat.xor_mod_two_pow
  have e1 : (a * 64 + b) / 2 ^ 6 = a := by omega
  have e2 : (c * 64 + d) / 2 ^ 6 = c := by omega
  have e3 : (a * 64 + b) % 2 ^ 6 = b := by omega
  have e4 : (c * 64 + d) % 2 ^ 6 = d := by omega
  rw [e1, e2] at h1
  rw [e3, e4] at h2
  omega
theorem imode (n v : Nat) (hv : v < 64) : Builtin.bitAnd (Builtin.bitXor (n : Int) ((v : Int) * 65)) 4095 = (((Un n ^^^ v) * 64 + (Ln n ^^^ v) : Nat) : Int) := by
  rw [show ((v : Int) * 65) = ((v * 64 + v : Nat) : Int) by omega, bX_nat, bA_low]
  have h : (n ^^^ (v * 64 + v)) % 2 ^ 12 = n % 2 ^ 12 ^^^ (v * 64 + v) % 2 ^ 12 := Nat.xor_mod_two_pow
  have e1 : n % 2 ^ 12 = Un n * 64 + Ln n := by unfold Un Ln; omega
  have e2 : (v * 64 + v) % 2 ^ 12 = v * 64 + v := by omega
  rw [e1, e2, xor_parts (by unfold Ln; omega) hv] at h
  rw [show n ^^^ (v * 64 + v) = n ^^^ (v * 64 + v) from rfl]
  exact_mod_cast h
/-- the sextet of place j -/
def sex (n j : Nat) : Nat := if j % 2 = 0 then Un n ^^^ (j / 2) else Ln n ^^^ (j / 2)
theorem sex_lt (n j : Nat) (h : j < 128) : sex n j < 64 := by
  unfold sex
  split
  · exact xor_lt64 (by unfold Un; omega) (by omega)
  · exact xor_lt64 (by unfold Ln; omega) (by omega)
theorem valA_sex (n k : Nat) (hk : k < 32) : valA (n : Int) (0 + (k : Int) * 2) = ((((sex n (4 * k) * 64 + sex n (4 * k + 1)) * 64 + sex n (4 * k + 2)) * 64 + sex n (4 * k + 3) : Nat) : Int) := by
  unfold valA
  rw [show (0 + (k : Int) * 2) = ((2 * k : Nat) : Int) by omega, imode n (2 * k) (by omega), show (((2 * k : Nat) : Int) + 1) = ((2 * k + 1 : Nat) : Int) by omega, imode n (2 * k + 1) (by omega)]
  have s0 : sex n (4 * k) = Un n ^^^ (2 * k) := by unfold sex; rw [if_pos (by omega), show 4 * k / 2 = 2 * k by omega]
  have s1 : sex n (4 * k + 1) = Ln n ^^^ (2 * k) := by unfold sex; rw [if_neg (by omega), show (4 * k + 1) / 2 = 2 * k by omega]
  have s2 : sex n (4 * k + 2) = Un n ^^^ (2 * k + 1) := by unfold sex; rw [if_pos (by omega), show (4 * k + 2) / 2 = 2 * k + 1 by omega]
  have s3 : sex n (4 * k + 3) = Ln n ^^^ (2 * k + 1) := by unfold sex; rw [if_neg (by omega), show (4 * k + 3) / 2 = 2 * k + 1 by omega]
  rw [s0, s1, s2, s3]
  omega
theorem flat3 {α : Type} (f : Nat → α) : ∀ n, (List.range n).flatMap (fun k => [f (3 * k), f (3 * k + 1), f (3 * k + 2)]) = (List.range (3 * n)).map f
  | 0 => rfl
  | n + 1 => by
    rw [List.range_succ, List.flatMap_append, flat3 f n, show 3 * (n + 1) = 3 * n + 1 + 1 + 1 by omega, List.range_succ, List.range_succ, List.range_succ]
    simp
/-- the octet of place j -/
def oc (n j : Nat) : Int := if j % 3 = 0 then (valA (n : Int) (0 + ((j / 3 : Nat) : Int) * 2)).fdiv 65536 else if j % 3 = 1 then ((valA (n : Int) (0 + ((j / 3 : Nat) : Int) * 2)).fdiv 256).fmod 256 else (valA (n : Int) (0 + ((j / 3 : Nat) : Int) * 2)).fmod 256
theorem octs_map (n i : Nat) : octs (n : Int) i = (List.range (3 * i)).map (oc n) := by
  rw [← flat3]
  unfold octs
  congr 1
  funext k
  unfold oct3 oc
  rw [if_pos (show 3 * k % 3 = 0 by omega), if_neg (show ¬ (3 * k + 1) % 3 = 0 by omega), if_pos (show (3 * k + 1) % 3 = 1 by omega), if_neg (show ¬ (3 * k + 2) % 3 = 0 by omega), if_neg (show ¬ (3 * k + 2) % 3 = 1 by omega),
    show 3 * k / 3 = k by omega, show (3 * k + 1) / 3 = k by omega, show (3 * k + 2) / 3 = k by omega]
theorem octs_at (n j : Nat) (h : j < 96) : (octs (n : Int) 32).getD j 0 = oc n j := by
  rw [octs_map, List.getD_eq_getElem?_getD, List.getElem?_map, List.getElem?_range (by omega)]
  rfl
theorem block (n k : Nat) (hk : k < 32) : b64o (octs (n : Int) 32) (3 * (k + 1)) = b64o (octs (n : Int) 32) (3 * k) ++ [bsg (sex n (4 * k) : Nat), bsg (sex n (4 * k + 1) : Nat), bsg (sex n (4 * k + 2) : Nat), bsg (sex n (4 * k + 3) : Nat)] := by
  have hv := valA_sex n k hk
  have a0 := sex_lt n (4 * k) (by omega)
  have a1 := sex_lt n (4 * k + 1) (by omega)
  have a2 := sex_lt n (4 * k + 2) (by omega)
  have a3 := sex_lt n (4 * k + 3) (by omega)
  have o0 : (octs (n : Int) 32).getD (3 * k) 0 = (((((sex n (4 * k) * 64 + sex n (4 * k + 1)) * 64 + sex n (4 * k + 2)) * 64 + sex n (4 * k + 3)) / 65536 : Nat) : Int) := by
    rw [octs_at n _ (by omega)]
    unfold oc
    rw [if_pos (show 3 * k % 3 = 0 by omega), show 3 * k / 3 = k by omega, hv, Int.fdiv_eq_ediv_of_nonneg _ (by decide)]
    omega
  have o1 : (octs (n : Int) 32).getD (3 * k + 1) 0 = (((((sex n (4 * k) * 64 + sex n (4 * k + 1)) * 64 + sex n (4 * k + 2)) * 64 + sex n (4 * k + 3)) / 256 % 256 : Nat) : Int) := by
    rw [octs_at n _ (by omega)]
    unfold oc
    rw [if_neg (show ¬ (3 * k + 1) % 3 = 0 by omega), if_pos (show (3 * k + 1) % 3 = 1 by omega), show (3 * k + 1) / 3 = k by omega, hv, Int.fdiv_eq_ediv_of_nonneg _ (by decide), Int.fmod_eq_emod_of_nonneg _ (by decide)]
    omega
  have o2 : (octs (n : Int) 32).getD (3 * k + 2) 0 = (((((sex n (4 * k) * 64 + sex n (4 * k + 1)) * 64 + sex n (4 * k + 2)) * 64 + sex n (4 * k + 3)) % 256 : Nat) : Int) := by
    rw [octs_at n _ (by omega)]
    unfold oc
    rw [if_neg (show ¬ (3 * k + 2) % 3 = 0 by omega), if_neg (show ¬ (3 * k + 2) % 3 = 1 by omega), show (3 * k + 2) / 3 = k by omega, hv, Int.fmod_eq_emod_of_nonneg _ (by decide)]
    omega
  have p1 : pv (octs (n : Int) 32) (3 * k + 1) 1 = (octs (n : Int) 32).getD (3 * k) 0 := by unfold pv; rw [if_pos (by omega)]; rfl
  have p2 : pv (octs (n : Int) 32) (3 * k + 2) 1 = (octs (n : Int) 32).getD (3 * k + 1) 0 := by unfold pv; rw [if_pos (by omega)]; rfl
  rw [show 3 * (k + 1) = 3 * k + 1 + 1 + 1 by omega]
  simp only [b64o]
  have x0 : sx (octs (n : Int) 32) (3 * k) = [bsg (sex n (4 * k) : Nat)] := by
    unfold sx
    rw [if_pos (by omega), o0]
    congr 2
    omega
  have x1 : sx (octs (n : Int) 32) (3 * k + 1) = [bsg (sex n (4 * k + 1) : Nat)] := by
    unfold sx
    rw [if_neg (by omega), if_pos (by omega), p1, o0, o1]
    congr 2
    omega
  have x2 : sx (octs (n : Int) 32) (3 * k + 1 + 1) = [bsg (sex n (4 * k + 2) : Nat), bsg (sex n (4 * k + 3) : Nat)] := by
    unfold sx
    rw [if_neg (by omega), if_neg (by omega), show 3 * k + 1 + 1 = 3 * k + 2 from rfl, p2, o1, o2]
    congr 2
    · omega
    · congr 2; omega
  rw [x0, x1, x2]
  simp
theorem b64_all (n : Nat) : ∀ k, k ≤ 32 → b64o (octs (n : Int) 32) (3 * k) = (List.range (4 * k)).map fun j => bsg (sex n j : Nat)
  | 0, _ => rfl
  | k + 1, h => by
    rw [block n k (by omega), b64_all n k (by omega), show 4 * (k + 1) = 4 * k + 1 + 1 + 1 + 1 by omega, List.range_succ, List.range_succ, List.range_succ, List.range_succ]
    simp
end
section
open PySem PySem.W PyProof.Rows PySem.Calls PyProof.V PySem.Spec PySem.Builtin PySem.Builtin.Str PySem.StrLaws
set_option maxRecDepth 100000
set_option maxHeartbeats 1000000
def joinL (ys : List Nat) : List (List Nat) → List Nat
  | [] => []
  | [p] => p
  | p :: q :: r => p ++ (ys ++ joinL ys (q :: r))
theorem at_head {x y : Str} {k n : Nat} {tl : List Nat} (hy : y.cps.toList = 39 :: tl) (h : At x y n k) : x.cps.toList[k]? = some 39 := by
  have h2 := h.2
  rw [subAt_eq, beq_iff_eq, hy] at h2
  have h3 : (x.cps.toList.drop k)[0]? = some 39 := by
    have e : ((x.cps.toList.drop k).take y.length)[0]? = some 39 := by rw [h2]; rfl
    rw [List.getElem?_take] at e
    split at e
    · exact e
    · cases e
  rw [List.getElem?_drop] at h3
  simpa using h3
theorem drop_at {l p r : List Nat} {a k : Nat} (h : l.drop a = p ++ r) (h1 : a ≤ k) (h2 : k < a + p.length) : l[k]? = p[k - a]? := by
  have e : l[k]? = (l.drop a)[k - a]? := by rw [List.getElem?_drop]; congr 1; omega
  rw [e, h, List.getElem?_append_left (by omega)]
theorem not_at {x y : Str} {tl p r : List Nat} {a k n : Nat} (hy : y.cps.toList = 39 :: tl) (hp : 39 ∉ p) (h : x.cps.toList.drop a = p ++ r) (h1 : a ≤ k) (h2 : k < a + p.length) : ¬ At x y n k := by
  intro hA
  have e := at_head hy hA
  rw [drop_at h h1 h2] at e
  exact hp (List.mem_of_getElem? e)
theorem at_sep {x y : Str} {p r : List Nat} {a : Nat} (hy1 : 1 ≤ y.length) (h : x.cps.toList.drop a = p ++ (y.cps.toList ++ r)) : At x y x.length (a + p.length) := by
  have hl : x.cps.toList.length = x.length := by simp [Str.length]
  have hly : y.cps.toList.length = y.length := by simp [Str.length]
  have hd : x.cps.toList.drop (a + p.length) = y.cps.toList ++ r := by
    rw [← List.drop_drop, h, List.drop_left]
  refine ⟨?_, ?_⟩
  · have e1 := congrArg List.length h
    rw [List.length_drop, List.length_append, List.length_append, hl, hly] at e1
    omega
  · rw [subAt_eq, hd, beq_iff_eq, ← hly, List.take_left]
theorem str_of {s : Str} {l : List Nat} (h : s.cps.toList = l) : s = ⟨l.toArray⟩ := by
  subst h; rfl
theorem pos_of {y : Str} {tl : List Nat} (hy : y.cps.toList = 39 :: tl) : 1 ≤ y.length := by
  have : y.cps.toList.length = y.length := by simp [Str.length]
  rw [← this, hy]; simp
theorem chain_parts {x y : Str} {tl : List Nat} (hy : y.cps.toList = 39 :: tl) : ∀ (ps : List (List Nat)) (a : Nat) (cuts : List Nat) (f : Nat), ps ≠ [] → (∀ p ∈ ps, 39 ∉ p) → x.cps.toList.drop a = joinL y.cps.toList ps →
    ChainG x y x.length a cuts f → (∀ k, f ≤ k → ¬ At x y x.length k) → partsFrom x y.length a cuts = ps.map fun p => ⟨p.toArray⟩
  | [], _, _, _, h, _, _, _, _ => absurd rfl h
  | [p], a, [], f, _, hp, hd, hc, hn => by
    have hl : x.cps.toList.length = x.length := by simp [Str.length]
    have hd' : x.cps.toList.drop a = p := hd
    show [strSub x a x.length] = [(⟨p.toArray⟩ : Str)]
    have e : (strSub x a x.length).cps.toList = p := by
      rw [strSub_toList, hd', List.take_of_length_le]
      rw [← hd', List.length_drop, hl]; omega
    rw [str_of e]
  | [p], a, c :: r, f, _, hp, hd, hc, hn => by
    have hl : x.cps.toList.length = x.length := by simp [Str.length]
    have hd' : x.cps.toList.drop a = p ++ [] := by rw [List.append_nil]; exact hd
    exfalso
    have hA := hc.2.1
    have hy1 : 1 ≤ y.length := by
      have : y.cps.toList.length = y.length := by simp [Str.length]
      rw [← this, hy]; simp
    refine not_at hy (hp p (.head _)) hd' hc.1 ?_ hA
    have e1 := congrArg List.length hd'
    rw [List.length_drop, List.append_nil, hl] at e1
    have := hA.1
    omega
  | p :: q :: r, a, [], f, _, hp, hd, hc, hn => by
    exfalso
    have hd' : x.cps.toList.drop a = p ++ (y.cps.toList ++ joinL y.cps.toList (q :: r)) := hd
    have e : f = a := hc
    exact hn _ (by omega) (at_sep (pos_of hy) hd')
  | p :: q :: r, a, c :: cs, f, _, hp, hd, hc, hn => by
    have hd' : x.cps.toList.drop a = p ++ (y.cps.toList ++ joinL y.cps.toList (q :: r)) := hd
    have hly : y.cps.toList.length = y.length := by simp [Str.length]
    obtain ⟨h1, h2, h3, h4⟩ := hc
    have hce : c = a + p.length := by
      rcases Nat.lt_trichotomy c (a + p.length) with h | h | h
      · exact absurd h2 (not_at hy (hp p (.head _)) hd' h1 h)
      · exact h
      · exact absurd (at_sep (pos_of hy) hd') (h3 _ (by omega) h)
    subst hce
    show strSub x a (a + p.length) :: partsFrom x y.length (a + p.length + y.length) cs = ⟨p.toArray⟩ :: (q :: r).map fun p => ⟨p.toArray⟩
    have e : (strSub x a (a + p.length)).cps.toList = p := by
      rw [strSub_toList, hd', show a + p.length - a = p.length by omega, List.take_left]
    have e2 : strSub x a (a + p.length) = ⟨p.toArray⟩ := str_of e
    rw [e2, chain_parts hy (q :: r) (a + p.length + y.length) cs f (by simp) (fun z hz => hp z (.tail _ hz)) ?_ h4 hn]
    rw [← List.drop_drop, ← List.drop_drop, hd', List.drop_left, ← hly, List.drop_left]
theorem kind_one {y : Str} (h : y.cps.all (· < 256) = true) (x : Str) : ¬ PySem.Builtin.Str.strKind x < PySem.Builtin.Str.strKind y := by
  have e : PySem.Builtin.Str.strKind y = 1 := by unfold PySem.Builtin.Str.strKind; rw [if_pos h]
  rw [e]
  unfold PySem.Builtin.Str.strKind
  split
  · decide
  · split <;> decide
theorem split_known {x y : Str} {tl : List Nat} (hy : y.cps.toList = 39 :: tl) (h256 : y.cps.all (· < 256) = true) {p q : List Nat} {r : List (List Nat)} (hp : ∀ z ∈ p :: q :: r, 39 ∉ z) (hx : x.cps.toList = joinL y.cps.toList (p :: q :: r)) :
    Txt.split x y = (p :: q :: r).map fun p => ⟨p.toArray⟩ := by
  have hy1 : 1 ≤ y.length := by
    have : y.cps.toList.length = y.length := by simp [Str.length]
    rw [← this, hy]; simp
  obtain ⟨f, hG, hn⟩ := occ_tight x y hy1
  have hd : x.cps.toList.drop 0 = joinL y.cps.toList (p :: q :: r) := by rw [List.drop_zero]; exact hx
  have hA : At x y x.length (0 + p.length) := at_sep hy1 (r := joinL y.cps.toList (q :: r)) hd
  unfold Txt.split
  have c1 : (decide (x.length < y.length) || decide (PySem.Builtin.Str.strKind x < PySem.Builtin.Str.strKind y)) = false := by
    rw [decide_eq_false (kind_one h256 x), decide_eq_false (by have := hA.1; omega)]; rfl
  rw [if_neg (by rw [c1]; decide)]
  have c2 : (occurrences x y 0 x.length (x.length + 1)).isEmpty = false := by
    cases ho : occurrences x y 0 x.length (x.length + 1) with
    | nil =>
      rw [ho] at hG
      have e : f = 0 := hG
      exact absurd hA (hn _ (by omega))
    | cons _ _ => rfl
  rw [if_neg (by rw [c2]; decide), partsBetween_eq]
  exact chain_parts hy _ 0 _ f (by simp) hp hd hG hn
end
section
open PySem PySem.W PyProof.Rows PySem.Calls PyProof.V PySem.Spec PySem.Builtin PySem.StrLaws
set_option maxRecDepth 100000
set_option maxHeartbeats 1000000
def q5 : List Nat := [39, 34, 39, 34, 39]
theorem qI_eq : Str.ofString "'" = ⟨#[39]⟩ := by decide
theorem qL_eq : Str.ofString "'\"'\"'" = ⟨#[39, 34, 39, 34, 39]⟩ := by decide
theorem len_list (x : Str) : x.cps.toList.length = x.length := by simp [Str.length]
section
variable {text : Str} {A B C : List Nat}
def midL (A B C : List Nat) : List Nat := A ++ (q5 ++ (B ++ (q5 ++ C)))
theorem rep_list (ht : text.cps.toList = A ++ 39 :: (B ++ 39 :: C)) (hA : 39 ∉ A) (hB : 39 ∉ B) (hC : 39 ∉ C) : (Txt.replace text (Str.ofString "'") (Str.ofString "'\"'\"'")).cps.toList = midL A B C := by
  rw [qI_eq, qL_eq, replace_one, split_known (x := text) (y := ⟨#[39]⟩) (tl := []) rfl (by decide +kernel) (p := A) (q := B) (r := [C]) (by
    intro z hz
    simp only [List.mem_cons, List.not_mem_nil, or_false] at hz
    rcases hz with rfl | rfl | rfl <;> assumption) (by rw [ht]; rfl)]
  simp only [List.map_cons, List.map_nil, Str.join, Str.cps_append, Array.toList_append]
  simp [midL, q5]
theorem told_list (ht : text.cps.toList = A ++ 39 :: (B ++ 39 :: C)) (hA : 39 ∉ A) (hB : 39 ∉ B) (hC : 39 ∉ C) : (toldT text).cps.toList = 39 :: (midL A B C ++ [39]) := by
  unfold toldT
  rw [Str.cps_append, Str.cps_append, Array.toList_append, Array.toList_append, rep_list ht hA hB hC, qI_eq]
  simp
end
theorem idx_neg {n : Nat} (h : 1 ≤ n) : Str.strSliceIndices (some (-1)) none 1 n = Str.strSliceIndices (some ((n : Int) - 1)) none 1 n := by
  have h1 : (-1 : Int) < 0 := by decide
  have h2 : ¬ ((n : Int) - 1 < 0) := by omega
  have h3 : (1 : Int) > 0 := by decide
  simp only [Str.strSliceIndices, h1, h2, h3, if_true, if_false]
  rw [show (-1 : Int) + n = (n : Int) - 1 by omega]
theorem idx_neg2 {n : Nat} (h : 1 ≤ n) : Str.strSliceIndices (some 1) (some (-1)) 1 n = Str.strSliceIndices (some 1) (some ((n : Int) - 1)) 1 n := by
  have h1 : (-1 : Int) < 0 := by decide
  have h2 : ¬ ((n : Int) - 1 < 0) := by omega
  have h3 : (1 : Int) > 0 := by decide
  simp only [Str.strSliceIndices, h1, h2, h3, if_true, if_false]
  rw [show (-1 : Int) + n = (n : Int) - 1 by omega]
theorem slice_first {x : Str} {c : Nat} {r : List Nat} (h : x.cps.toList = c :: r) : Txt.slice x none (some 1) = ⟨#[c]⟩ := by
  have hl : 1 ≤ x.length := by rw [← len_list, h]; simp
  have e := beq_iff_eq.mp (slice_closes_toL (x := x) (j := 1) (by decide) (by omega))
  rw [e, h]
  rfl
theorem slice_last {x : Str} {c : Nat} {r : List Nat} (h : x.cps.toList = r ++ [c]) : Txt.slice x (some (-1)) none = ⟨#[c]⟩ := by
  have hl : x.length = r.length + 1 := by rw [← len_list, h]; simp
  have e0 : Txt.slice x (some (-1)) none = Txt.slice x (some ((x.length : Int) - 1)) none := by
    unfold Txt.slice
    rw [idx_neg (by omega)]
  rw [e0, slice_from_eq (b := (x.length : Int)) (by omega) (by omega) rfl, h]
  rw [show ((x.length : Int) - 1).toNat = r.length by omega, List.drop_left, show ((x.length : Int) - ((x.length : Int) - 1)).toNat = 1 by omega]
  rfl
theorem slice_mid {x : Str} {c d : Nat} {r : List Nat} (h : x.cps.toList = c :: (r ++ [d])) : (Txt.slice x (some 1) (some (-1))).cps.toList = r := by
  have hl : x.length = r.length + 2 := by rw [← len_list, h]; simp
  have e0 : Txt.slice x (some 1) (some (-1)) = Txt.slice x (some 1) (some ((x.length : Int) - 1)) := by
    unfold Txt.slice
    rw [idx_neg2 (by omega)]
  have e := beq_iff_eq.mp (slice_closesL (x := x) (i := 1) (j := (x.length : Int) - 1) (by decide) (by omega) (by omega))
  rw [e0, e, h]
  show ((c :: (r ++ [d])).drop (1 : Int).toNat).take ((x.length : Int) - 1 - 1).toNat = r
  rw [show ((x.length : Int) - 1 - 1).toNat = r.length by omega]
  show (r ++ [d]).take r.length = r
  rw [List.take_left]
theorem pair_of {bare text : Str} {A B C : List Nat} {c : Nat} {p q : Int} (hb : bare.cps.toList = A ++ c :: (B ++ c :: C)) (ht : text.cps.toList = A ++ 39 :: (B ++ 39 :: C))
    (hA : ∀ z ∈ A, z ≠ 39 ∧ z < 128) (hB : ∀ z ∈ B, z ≠ 39 ∧ z < 128) (hC : ∀ z ∈ C, z ≠ 39 ∧ z < 128) (hl : A.length + B.length + C.length ≤ 200)
    (one : A.length % 2 = 0 → p = ((A.length / 2 : Nat) : Int) ∧ q = (((A.length + 1 + B.length) / 2 : Nat) : Int))
    (two : A.length % 2 ≠ 0 → q = ((A.length / 2 : Nat) : Int) ∧ p = (((A.length + 1 + B.length) / 2 : Nat) : Int))
    (par : A.length % 2 ≠ (A.length + 1 + B.length) % 2) : PairT bare text ⟨#[c]⟩ ⟨A.toArray⟩ ⟨B.toArray⟩ ⟨C.toArray⟩ p q := by
  have nA : 39 ∉ A := fun h => (hA 39 h).1 rfl
  have nB : 39 ∉ B := fun h => (hB 39 h).1 rfl
  have nC : 39 ∉ C := fun h => (hC 39 h).1 rfl
  have hR := rep_list ht nA nB nC
  have hT := told_list ht nA nB nC
  have lm : (midL A B C).length = A.length + B.length + C.length + 10 := by simp [midL, q5]; omega
  have lt : text.length = A.length + B.length + C.length + 2 := by rw [← len_list, ht]; simp; omega
  have lR : (Txt.replace text (Str.ofString "'") (Str.ofString "'\"'\"'")).length ≤ 1048576 := by rw [← len_list, hR, lm]; omega
  have lT : (toldT text).length ≤ 1048576 := by rw [← len_list, hT]; simp; omega
  have lA : (⟨A.toArray⟩ : Str).length = A.length := by simp [Str.length]
  have lB : (⟨B.toArray⟩ : Str).length = B.length := by simp [Str.length]
  have lC : (⟨C.toArray⟩ : Str).length = C.length := by simp [Str.length]
  have gt : ∀ k, k < text.cps.size → text.cps.getD k 0 ∈ text.cps.toList := by
    intro k hk
    rw [Array.getD_eq_getD_getElem?, Array.getElem?_eq_getElem hk]
    exact Array.mem_toList_iff.mpr (Array.getElem_mem hk)
  have hall : ∀ z ∈ text.cps.toList, z < 128 := by
    intro z hz
    rw [ht] at hz
    simp only [List.mem_append, List.mem_cons] at hz
    rcases hz with h | h | h | h | h
    · exact (hA z h).2
    · omega
    · exact (hB z h).2
    · omega
    · exact (hC z h).2
  have fm : ∀ k : Nat, (k : Int).fmod 2 = ((k % 2 : Nat) : Int) := fun k => by rw [Int.fmod_eq_emod_of_nonneg _ (by decide)]; omega
  have fd : ∀ k : Nat, (k : Int).fdiv 2 = ((k / 2 : Nat) : Int) := fun k => by rw [Int.fdiv_eq_ediv_of_nonneg _ (by decide)]; omega
  have ce : ((A.length : Int) + 1 + (B.length : Int)) = ((A.length + 1 + B.length : Nat) : Int) := by omega
  have hocc : (Str.occurrences ((⟨A.toArray⟩ : Str) ++ ⟨B.toArray⟩ ++ ⟨C.toArray⟩) (Str.ofString "'") 0 ((⟨A.toArray⟩ : Str) ++ ⟨B.toArray⟩ ++ ⟨C.toArray⟩).length 1).isEmpty = true := by
    rw [qI_eq]
    cases ho : (Str.occurrences ((⟨A.toArray⟩ : Str) ++ ⟨B.toArray⟩ ++ ⟨C.toArray⟩) ⟨#[39]⟩ 0 ((⟨A.toArray⟩ : Str) ++ ⟨B.toArray⟩ ++ ⟨C.toArray⟩).length 1).isEmpty with
    | true => rfl
    | false =>
      exfalso
      obtain ⟨i, hi⟩ := (found_iff _ ⟨#[39]⟩).mp (by rw [ho]; rfl)
      have hm := List.mem_of_getElem? ((subAt_one _ 39 i).mp hi)
      rw [Str.cps_append, Str.cps_append, Array.toList_append, Array.toList_append] at hm
      rcases List.mem_append.mp hm with h | h
      · rcases List.mem_append.mp h with h | h
        · exact nA h
        · exact nB h
      · exact nC h
  exact {
    dt := {
      h1 := by show 1 ≤ text.length; omega
      h3 := fun k hk => hall _ (gt k hk)
      h4 := ⟨A.length, by show A.length < text.length; omega, by
        have e : text.cps.toList[A.length]? = some 39 := by rw [ht, List.getElem?_append_right (Nat.le_refl _)]; simp
        rw [Array.getElem?_toList] at e
        rw [Array.getD_eq_getD_getElem?, e]
        decide⟩
      h5 := by omega
      h6 := lR }
    s1 := by rw [qI_eq]; exact slice_first hT
    s2 := by rw [qI_eq]; exact slice_last (r := 39 :: midL A B C) (by rw [hT]; rfl)
    s3 := by
      have hm := slice_mid hT
      rw [split_known (x := Txt.slice (toldT text) (some 1) (some (-1))) (y := Str.ofString "'\"'\"'") (tl := [34, 39, 34, 39]) (by decide) (by decide +kernel) (p := A) (q := B) (r := [C]) (by
        intro z hz
        simp only [List.mem_cons, List.not_mem_nil, or_false] at hz
        rcases hz with rfl | rfl | rfl <;> assumption) (by rw [hm, qL_eq]; rfl)]
      rfl
    c1 := hocc
    j1 := by
      show Str.glued ⟨#[c]⟩ _ = bare
      rw [glued_eq_join, str_of hb]
      apply str_of
      simp only [Str.join, Str.cps_append, Array.toList_append]
      simp
    tl := lT
    ls := by show (1 : Nat) ≤ 4; decide
    la := by omega
    lb := by omega
    lc := by omega
    one := by rw [lA, lB, ce, fm, fd, fd]; intro h; exact one (by omega)
    two := by rw [lA, lB, ce, fm, fd, fd]; intro h; exact two (by omega)
    par := by rw [lA, lB, ce, fm, fm]; omega }
end
section
open PySem PySem.W PyProof.Rows PySem.Calls PyProof.V PySem.Spec
set_option maxRecDepth 100000
set_option maxHeartbeats 1000000
def sgN (i : Int) : Nat := (Txt.charAt (Str.ofString "_@%+:,./-") i).getD 0
/-- the sign of a sextet -/
def sgn (p q s : Nat) : Nat := if s = 62 then p else if s = 63 then q else (bsg (s : Int)).toNat
theorem tr_at (x y : UInt8) (v : Nat) (hv : v < 256) (c : UInt8) : (trTbl x y).getD v c = if v = 47 then y else if v = 43 then x else v.toUInt8 := by
  unfold trTbl
  rw [Array.getD_eq_getD_getElem?, Array.getElem?_setIfInBounds, Array.getElem?_setIfInBounds]
  by_cases h1 : 47 = v
  · subst h1
    simp
  · rw [if_neg h1, if_neg (show ¬ v = 47 from fun e => h1 e.symm)]
    by_cases h2 : 43 = v
    · subst h2
      simp
    · rw [if_neg h2, if_neg (show ¬ v = 43 from fun e => h2 e.symm), Array.getElem?_map, Array.getElem?_range, if_pos hv]
      rfl
theorem u8_back {v : Nat} (h : v < 256) : v.toUInt8.toNat = v := by
  rw [show v.toUInt8 = UInt8.ofNat v from rfl, UInt8.toNat_ofNat']; omega
theorem bsg_facts : ∀ s : Nat, s < 62 → (bsg (s : Int)).toNat < 128 ∧ (bsg (s : Int)).toNat ≠ 43 ∧ (bsg (s : Int)).toNat ≠ 47 ∧ (bsg (s : Int)).toNat ≠ 39 ∧ safeC (bsg (s : Int)).toNat = true := by decide +kernel
theorem tr_sgn (p q s : Nat) (hp : p < 128) (hq : q < 128) (hs : s < 64) : ((trTbl p.toUInt8 q.toUInt8).getD ((bsg (s : Int)).toNat.toUInt8).toNat ((bsg (s : Int)).toNat.toUInt8)).toNat = sgn p q s := by
  by_cases h : s < 62
  · obtain ⟨h1, h2, h3, _, _⟩ := bsg_facts s h
    rw [u8_back (by omega), tr_at _ _ _ (by omega), if_neg h3, if_neg h2, u8_back (by omega)]
    unfold sgn
    rw [if_neg (by omega), if_neg (by omega)]
  · by_cases h' : s = 62
    · subst h'
      rw [show (bsg ((62 : Nat) : Int)).toNat = 43 by decide, u8_back (by decide), tr_at _ _ _ (by decide), if_neg (by decide), if_pos rfl, u8_back (by omega)]
      rfl
    · have e : s = 63 := by omega
      subst e
      rw [show (bsg ((63 : Nat) : Int)).toNat = 47 by decide, u8_back (by decide), tr_at _ _ _ (by decide), if_pos rfl, u8_back (by omega)]
      rfl
theorem wr_list (n p q : Nat) (hp : p < 128) (hq : q < 128) : (wrT (n : Int) p q).cps.toList = (List.range 128).map fun j => sgn p q (sex n j) := by
  have hs : (byteArr (octs (n : Int) 32)).size = 3 * 32 := by rw [byteArr_size, octs_len]
  have hb : (byteArr (b64o (KBw.bInts (byteArr (octs (n : Int) 32))) (byteArr (octs (n : Int) 32)).size)).toList = (List.range 128).map fun j => (bsg (sex n j : Nat)).toNat.toUInt8 := by
    rw [hs, KBa.ints_make (octs_in _ _), b64_all n 32 (by omega)]
    unfold byteArr
    rw [List.map_map]
    rfl
  unfold wrT wrB
  rw [Array.toList_map, Array.toList_map, hb, List.map_map, List.map_map]
  apply List.map_congr_left
  intro j hj
  exact tr_sgn p q (sex n j) hp hq (sex_lt n j (List.mem_range.mp hj))
theorem xor_solve {a b c : Nat} : a ^^^ b = c ↔ b = a ^^^ c := by
  constructor
  · intro h; rw [← h, ← Nat.xor_assoc, Nat.xor_self, Nat.zero_xor]
  · intro h; rw [h, ← Nat.xor_assoc, Nat.xor_self, Nat.zero_xor]
theorem sex_pos (n T j : Nat) : sex n j = T ↔ j = 2 * (Un n ^^^ T) ∨ j = 2 * (Ln n ^^^ T) + 1 := by
  unfold sex
  split
  · rw [xor_solve]; omega
  · rw [xor_solve]; omega
theorem cut2 {α : Type} (f : Nat → α) (P R N : Nat) (h1 : P < R) (h2 : R < N) : (List.range N).map f = (List.range P).map f ++ f P :: ((List.range (R - P - 1)).map (fun i => f (P + 1 + i)) ++ f R :: (List.range (N - R - 1)).map (fun i => f (R + 1 + i))) := by
  apply List.ext_getElem
  · simp; omega
  · intro i hi1 hi2
    simp only [List.getElem_map, List.getElem_range]
    have hN : i < N := by simpa using hi1
    by_cases c1 : i < P
    · rw [List.getElem_append_left (by simpa using c1)]; simp
    · rw [List.getElem_append_right (by simpa using Nat.le_of_not_lt c1)]
      simp only [List.length_map, List.length_range]
      by_cases c2 : i = P
      · subst c2; simp
      · rw [List.getElem_cons, dif_neg (by omega)]
        by_cases c3 : i < R
        · rw [List.getElem_append_left (by simp; omega)]
          simp only [List.getElem_map, List.getElem_range]
          congr 1; omega
        · rw [List.getElem_append_right (by simp; omega)]
          simp only [List.length_map, List.length_range]
          by_cases c4 : i = R
          · subst c4
            rw [List.getElem_cons, dif_pos (by omega)]
          · rw [List.getElem_cons, dif_neg (by omega)]
            simp only [List.getElem_map, List.getElem_range]
            congr 1; omega
theorem pair_cut {n T : Nat} {bare text : Str} {F G : Nat → Nat} {c : Nat} {p q : Int} (hb : bare.cps.toList = (List.range 128).map fun j => F (sex n j)) (ht : text.cps.toList = (List.range 128).map fun j => G (sex n j)) (hc : F T = c) (hg : G T = 39)
    (hF : ∀ s, s < 64 → s ≠ T → G s = F s ∧ F s ≠ 39 ∧ F s < 128) (P R : Nat) (h1 : P < R) (h2 : R < 128) (hP : sex n P = T) (hR : sex n R = T) (hno : ∀ j, j < 128 → j ≠ P → j ≠ R → sex n j ≠ T)
    (one : P % 2 = 0 → p = ((P / 2 : Nat) : Int) ∧ q = ((R / 2 : Nat) : Int)) (two : P % 2 ≠ 0 → q = ((P / 2 : Nat) : Int) ∧ p = ((R / 2 : Nat) : Int)) (par : P % 2 ≠ R % 2) :
    ∃ a b c', PairT bare text ⟨#[c]⟩ a b c' p q := by
  have gF : ∀ j, j < 128 → j ≠ P → j ≠ R → G (sex n j) = F (sex n j) ∧ F (sex n j) ≠ 39 ∧ F (sex n j) < 128 := fun j hj a b => hF _ (sex_lt n j hj) (hno j hj a b)
  rw [cut2 (fun j => F (sex n j)) P R 128 h1 h2, hP, hR, hc] at hb
  rw [cut2 (fun j => G (sex n j)) P R 128 h1 h2, hP, hR, hg] at ht
  have e1 : (List.range P).map (fun j => G (sex n j)) = (List.range P).map (fun j => F (sex n j)) := by
    apply List.map_congr_left; intro j hj
    have := List.mem_range.mp hj
    exact (gF j (by omega) (by omega) (by omega)).1
  have e2 : (List.range (R - P - 1)).map (fun i => G (sex n (P + 1 + i))) = (List.range (R - P - 1)).map (fun i => F (sex n (P + 1 + i))) := by
    apply List.map_congr_left; intro j hj
    have := List.mem_range.mp hj
    exact (gF _ (by omega) (by omega) (by omega)).1
  have e3 : (List.range (128 - R - 1)).map (fun i => G (sex n (R + 1 + i))) = (List.range (128 - R - 1)).map (fun i => F (sex n (R + 1 + i))) := by
    apply List.map_congr_left; intro j hj
    have := List.mem_range.mp hj
    exact (gF _ (by omega) (by omega) (by omega)).1
  rw [e1, e2, e3] at ht
  have l1 : ((List.range P).map (fun j => F (sex n j))).length = P := by simp
  have l2 : ((List.range (R - P - 1)).map (fun i => F (sex n (P + 1 + i)))).length = R - P - 1 := by simp
  have l3 : ((List.range (128 - R - 1)).map (fun i => F (sex n (R + 1 + i)))).length = 128 - R - 1 := by simp
  refine ⟨_, _, _, pair_of hb ht ?_ ?_ ?_ ?_ ?_ ?_ ?_⟩
  · intro z hz
    obtain ⟨j, hj, rfl⟩ := List.mem_map.mp hz
    have := List.mem_range.mp hj
    exact (gF j (by omega) (by omega) (by omega)).2
  · intro z hz
    obtain ⟨j, hj, rfl⟩ := List.mem_map.mp hz
    have := List.mem_range.mp hj
    exact (gF _ (by omega) (by omega) (by omega)).2
  · intro z hz
    obtain ⟨j, hj, rfl⟩ := List.mem_map.mp hz
    have := List.mem_range.mp hj
    exact (gF _ (by omega) (by omega) (by omega)).2
  · rw [l1, l2, l3]; omega
  · rw [l1, l2, show P + 1 + (R - P - 1) = R by omega]; exact one
  · rw [l1, l2, show P + 1 + (R - P - 1) = R by omega]; exact two
  · rw [l1, l2, show P + 1 + (R - P - 1) = R by omega]; exact par
theorem pair_at {n T : Nat} {bare text : Str} {F G : Nat → Nat} {c : Nat} (hT : T < 64) (hb : bare.cps.toList = (List.range 128).map fun j => F (sex n j)) (ht : text.cps.toList = (List.range 128).map fun j => G (sex n j)) (hc : F T = c) (hg : G T = 39)
    (hF : ∀ s, s < 64 → s ≠ T → G s = F s ∧ F s ≠ 39 ∧ F s < 128) : ∃ a b c', PairT bare text ⟨#[c]⟩ a b c' ((Un n ^^^ T : Nat) : Int) ((Ln n ^^^ T : Nat) : Int) := by
  have u1 : Un n ^^^ T < 64 := xor_lt64 (by unfold Un; omega) hT
  have u2 : Ln n ^^^ T < 64 := xor_lt64 (by unfold Ln; omega) hT
  have hno : ∀ j, j ≠ 2 * (Un n ^^^ T) → j ≠ 2 * (Ln n ^^^ T) + 1 → sex n j ≠ T := fun j a b e => by
    rcases (sex_pos n T j).mp e with h | h
    · exact a h
    · exact b h
  rcases Nat.lt_or_ge (2 * (Un n ^^^ T)) (2 * (Ln n ^^^ T) + 1) with h | h
  · exact pair_cut hb ht hc hg hF (2 * (Un n ^^^ T)) (2 * (Ln n ^^^ T) + 1) h (by omega) ((sex_pos n T _).mpr (.inl rfl)) ((sex_pos n T _).mpr (.inr rfl)) (fun j _ a b => hno j a b)
      (fun _ => ⟨by omega, by omega⟩) (fun h => by omega) (by omega)
  · exact pair_cut hb ht hc hg hF (2 * (Ln n ^^^ T) + 1) (2 * (Un n ^^^ T)) (by omega) (by omega) ((sex_pos n T _).mpr (.inr rfl)) ((sex_pos n T _).mpr (.inl rfl)) (fun j _ a b => hno j b a)
      (fun h => by omega) (fun _ => ⟨by omega, by omega⟩) (by omega)
theorem neg63 : ∀ u : Nat, u < 64 → u ^^^ 63 = 63 - u := by decide +kernel
theorem sgN_facts : ∀ k : Nat, k < 9 → sgN (k : Int) < 128 ∧ safeC (sgN (k : Int)) = true ∧ sgN (k : Int) ≠ 39 := by decide +kernel
theorem upI_nat (n : Nat) : upI (n : Int) = (Un n : Int) := by unfold upI Un; omega
theorem loI_nat (n : Nat) : loI (n : Int) = (Ln n : Int) := by unfold loI Ln; omega
theorem nine_law (n p q : Nat) (hp : p < 128 ∧ safeC p = true ∧ p ≠ 39) (hq : q < 128 ∧ safeC q = true ∧ q ≠ 39) : NineT (n : Int) p q (63 - upI (n : Int)) (63 - loI (n : Int)) := by
  have u1 : Un n < 64 := by unfold Un; omega
  have u2 : Ln n < 64 := by unfold Ln; omega
  have hb := wr_list n p q hp.1 hq.1
  have hlen : (wrT (n : Int) p q).length = 128 := by rw [← len_list, hb]; simp
  have sfact : ∀ s, s < 64 → sgn p q s < 128 ∧ safeC (sgn p q s) = true ∧ sgn p q s ≠ 39 := by
    intro s hs
    unfold sgn
    split
    · exact hp
    · split
      · exact hq
      · obtain ⟨h1, _, _, h4, h5⟩ := bsg_facts s (by omega)
        exact ⟨h1, h5, h4⟩
  have e1 : 63 - upI (n : Int) = ((Un n ^^^ 63 : Nat) : Int) := by rw [upI_nat, neg63 _ u1]; omega
  have e2 : 63 - loI (n : Int) = ((Ln n ^^^ 63 : Nat) : Int) := by rw [loI_nat, neg63 _ u2]; omega
  exact {
    hp := hp.1
    hq := hq.1
    len := hlen
    safe := by
      intro k hk
      have hm : (wrT (n : Int) p q).cps.getD k 0 ∈ (wrT (n : Int) p q).cps.toList := by
        rw [Array.getD_eq_getD_getElem?, Array.getElem?_eq_getElem hk]
        exact Array.mem_toList_iff.mpr (Array.getElem_mem hk)
      rw [hb] at hm
      obtain ⟨j, hj, e⟩ := List.mem_map.mp hm
      have h := sfact (sex n j) (sex_lt n j (List.mem_range.mp hj))
      rw [e] at h
      exact ⟨h.1, h.2.1⟩
    P1 := by
      rw [e1, e2]
      refine pair_at (T := 63) (by decide) hb (wr_list n p 39 hp.1 (by decide)) rfl rfl ?_
      intro s hs hne
      have h := sfact s hs
      refine ⟨?_, h.2.2, h.1⟩
      unfold sgn
      rw [if_neg hne, if_neg hne]
    P2 := by
      rw [show (63 - (63 - upI (n : Int))) = (Un n : Int) by rw [upI_nat]; omega, show (63 - (63 - loI (n : Int))) = (Ln n : Int) by rw [loI_nat]; omega,
        show (62 : Int) = ((62 : Nat) : Int) from rfl, bX_nat, bX_nat]
      refine pair_at (T := 62) (by decide) hb (wr_list n 39 q (by decide) hq.1) rfl rfl ?_
      intro s hs hne
      have h := sfact s hs
      refine ⟨?_, h.2.2, h.1⟩
      unfold sgn
      rw [if_neg hne, if_neg hne]
    r1 := by rw [upI_nat]; omega
    r2 := by rw [loI_nat]; omega }
theorem right_all (mode i j : Int) (h0 : 0 ≤ mode) (_h1 : mode < 1048576) (hi : 0 ≤ i ∧ i < 9) (hj : 0 ≤ j ∧ j < 9) (_hij : i ≠ j) : RightT mode (sgN i) (sgN j) (63 - upI mode) (63 - loI mode) := by
  obtain ⟨n, rfl⟩ := Int.eq_ofNat_of_zero_le h0
  obtain ⟨a, rfl⟩ := Int.eq_ofNat_of_zero_le hi.1
  obtain ⟨b, rfl⟩ := Int.eq_ofNat_of_zero_le hj.1
  have eu : upI ((n % 65536 : Nat) : Int) = upI (n : Int) := by unfold upI; omega
  have el : loI ((n % 65536 : Nat) : Int) = loI (n : Int) := by unfold loI; omega
  exact {
    N := nine_law n _ _ (sgN_facts a (by omega)) (sgN_facts b (by omega))
    j := by rw [joined_eq, Int.fmod_eq_emod_of_nonneg _ (by decide)]; omega
    f1 := fm_law n
    f2 := by rw [joined_eq, fm_law, eu, el]
    l1 := by rw [(kind_same n).2]; decide
    l2 := by rw [joined_eq, (kind_same _).2]; decide }
end
end
section
open PySem PySem.W PyProof.Rows PySem.Calls PyProof.V PySem.Spec
set_option maxRecDepth 100000
set_option maxHeartbeats 8000000

theorem ints_get {vs : List Value} {ns : List Int} (h : IntsAre vs ns) : ∀ {i : Nat} {v : Value}, vs[i]? = some v → ∃ n t, v = .int n t ∧ n ∈ ns := by
  induction h with
  | nil => intro i v h; cases i <;> cases h
  | cons a t r ih =>
    intro i v h
    cases i with
    | zero => cases h; exact ⟨_, _, rfl, .head _⟩
    | succ i =>
      obtain ⟨n, t, e, hm⟩ := ih h
      exact ⟨n, t, e, .tail _ hm⟩
abbrev sigS : Str := Str.ofString "_@%+:,./-"
theorem modes_range {xs : List Int} {y : Int} (h : y ∈ List.map (fun k' => if 1 < Int.fmod k' 4 ∧ 1 < Int.fmod (Int.fdiv k' 4) 4 then ((((k'.fdiv 16).fmod (2 ^ Int.toNat 20)).fdiv 64 * 64 + 60 + k'.fmod 4).fdiv 4096 * 4096 +
              (60 + (k'.fdiv 4).fmod 4) * 64 +
            (((k'.fdiv 16).fmod (2 ^ Int.toNat 20)).fdiv 64 * 64 + 60 + k'.fmod 4).fmod 64) else if 1 < Int.fmod k' 4 ∧ ¬1 < Int.fmod (Int.fdiv k' 4) 4 then (((k'.fdiv 16).fmod (2 ^ Int.toNat 20)).fdiv 64 * 64 + 60 + k'.fmod 4) else if 1 < Int.fmod (Int.fdiv k' 4) 4 then ((k'.fdiv 16).fmod (2 ^ Int.toNat 20)).fdiv 4096 * 4096 + (60 + (k'.fdiv 4).fmod 4) * 64 +
                ((k'.fdiv 16).fmod (2 ^ Int.toNat 20)).fmod 64 else (k'.fdiv 16).fmod (2 ^ Int.toNat 20)) xs) : 0 ≤ y ∧ y < 1048576 := by
  obtain ⟨k, _, rfl⟩ := List.mem_map.mp h
  have e : ((2 : Int) ^ Int.toNat 20) = 1048576 := by decide
  simp only [e, Int.fmod_eq_emod_of_nonneg _ (show (0 : Int) ≤ 4 by decide), Int.fmod_eq_emod_of_nonneg _ (show (0 : Int) ≤ 64 by decide), Int.fmod_eq_emod_of_nonneg _ (show (0 : Int) ≤ 1048576 by decide), Int.fdiv_eq_ediv_of_nonneg _ (show (0 : Int) ≤ 4 by decide), Int.fdiv_eq_ediv_of_nonneg _ (show (0 : Int) ≤ 16 by decide), Int.fdiv_eq_ediv_of_nonneg _ (show (0 : Int) ≤ 64 by decide), Int.fdiv_eq_ediv_of_nonneg _ (show (0 : Int) ≤ 4096 by decide)]
  split
  · omega
  · split
    · omega
    · split <;> omega
theorem idx_facts (x : Int) : (0 ≤ x.fmod 9 ∧ x.fmod 9 < 9) ∧ (0 ≤ (x.fmod 9 + 1 + (x.fdiv 9).fmod 8).fmod 9 ∧ (x.fmod 9 + 1 + (x.fdiv 9).fmod 8).fmod 9 < 9) ∧ x.fmod 9 ≠ (x.fmod 9 + 1 + (x.fdiv 9).fmod 8).fmod 9 := by
  simp only [Int.fmod_eq_emod_of_nonneg _ (show (0 : Int) ≤ 9 by decide), Int.fmod_eq_emod_of_nonneg _ (show (0 : Int) ≤ 8 by decide), Int.fdiv_eq_ediv_of_nonneg _ (show (0 : Int) ≤ 9 by decide)]
  omega

theorem fin : PySem.Challenge.rw_ij0199_01.Holds := by
  w_top off
  refine hd ?_
  k_go0
  all_goals try k_fold
  repeat' ((fail_if_success (with_reducible show Mine.ListFor _ _ _ _ _ _ _ _ _ _ _ _)); (fail_if_success (with_reducible show InvEndN _ _ _ _ _ _ _)); (first | ((with_reducible show wpAny _ _ (exec (Stmt.For (Expr.Name _ _) (Expr.Name _ _) (_ :: _) [] _) _) _ _ _); (rename Fr _ _ _ _ => lF'); (with_unfolding_all refine For_lst (by rfl) lF' ?_; k_whole)) | ((with_reducible show wpAny _ _ (call (Value.ref 254) [Value.int _ _, Value.str _ _, Value.str _ _]) _ _ _); k_dflt (refine gives_use (right_gives _ _ _ _ _ _ _ _ (by assumption)) (by assumption) (by k_asm) (by assumption) (by k_asm) (by k_asm) (by rfl) (by first | decide | ktr_room) (by first | decide | ktr_units) ?_; k_whole); intro t' h' tk' F' N'; (try dsimp only)) | (k_unfold; (try dsimp only)) | (k_end; wrow_close) | walk1 | (dsimp only; walk1) | (leave1; walk_say "STEP leave1"; try dsimp only)))
  rename Fr _ _ _ _ => F1
  rename News _ _ _ _ => N1
  rename IntsAre _ (List.map _ _) => I1
  rename List Int => script
  obtain ⟨hx1, hx2, hx3⟩ := idx_facts script.sum
  refine ⟨_, _, _, [], (fun j m₁ n₁ => ∃ t1 t2, m₁ (Str.ofString "first") = some (.str (Txt.item sigS (script.sum.fmod 9)) t1) ∧ m₁ (Str.ofString "second") = some (.str (Txt.item sigS ((script.sum.fmod 9 + 1 + (script.sum.fdiv 9).fmod 8).fmod 9)) t2) ∧ n₁ = []), rfl, (by exact News.isList N1 (.head _)), (by exact (N1 _ (.head _)).2.1), (by intro p hp; cases hp), F1, News.nil, ⟨_, _, (by first | rfl | with_unfolding_all rfl), (by first | rfl | with_unfolding_all rfl), rfl⟩, ?turn, ?done⟩
  case turn =>
    intro i v m₁ n₁ h₁ tk₁ own hv hJ hadr hoff F₁ N₁
    obtain ⟨t1, t2, hm1, hm2, rfl⟩ := hJ
    obtain ⟨md, tm, rfl, hmem⟩ := ints_get I1 hv
    obtain ⟨hr0, hr1⟩ := modes_range hmem
    have hR := right_all md _ _ hr0 hr1 hx1 hx2 hx3
    clear hmem hv F1 N1
    replace F₁ := fr_known [(Str.ofString "first", .str (Txt.item sigS (script.sum.fmod 9)) t1), (Str.ofString "second", .str (Txt.item sigS ((script.sum.fmod 9 + 1 + (script.sum.fdiv 9).fmod 8).fmod 9)) t2)] F₁ (by simp [hm1, hm2])
    dsimp only [kstB] at F₁
    simp only [List.nil_append] at N₁
    try k_fold
    repeat' ((fail_if_success (with_reducible show InvEndN _ _ _ _ _ _ _)); (first | ((with_reducible show wpAny _ _ (exec (Stmt.For (Expr.Name _ _) (Expr.Name _ _) (_ :: _) [] _) _) _ _ _); (rename Fr _ _ _ _ => lF'); (with_unfolding_all refine For_lst (by rfl) lF' ?_; k_whole)) | ((with_reducible show wpAny _ _ (call (Value.ref 254) [Value.int _ _, Value.str _ _, Value.str _ _]) _ _ _); k_dflt (refine gives_use (right_gives _ _ _ _ _ _ _ _ (by assumption)) (by assumption) (by k_asm) (by assumption) (by k_asm) (by k_asm) (by rfl) (by first | decide | ktr_room) (by first | decide | ktr_units) ?_; k_whole); intro t' h' tk' F' N'; (try dsimp only)) | (k_unfold; (try dsimp only)) | (k_end; wrow_close) | walk1 | (dsimp only; walk1) | (leave1; walk_say "STEP leave1"; try dsimp only)))
    rename Fr _ _ _ _ => Fz
    rename News _ _ _ _ => Nz
    refine InvEndN.intro (nx := []) Fz Nz ⟨t1, t2, ?h1, ?h2, rfl⟩ rfl (fun p hp => nomatch hp) (fun p hp => hp)
    case h1 => ((try dsimp only); (repeat' (first | rw [if_pos rfl] | rw [if_neg (by decide)])))
    case h2 => ((try dsimp only); (repeat' (first | rw [if_pos rfl] | rw [if_neg (by decide)])))
  case done =>
    intro h₂ tk₂ m₂ n₂ F₂ N₂ hJ
    clear F1 N1
    try k_fold
    repeat' ((fail_if_success (with_reducible show PySem.W.GoodW _ _ _ _ _ _ _)); (first | ((with_reducible show wpAny _ _ (exec (Stmt.For (Expr.Name _ _) (Expr.Name _ _) (_ :: _) [] _) _) _ _ _); (rename Fr _ _ _ _ => lF'); (with_unfolding_all refine For_lst (by rfl) lF' ?_; k_whole)) | ((with_reducible show wpAny _ _ (call (Value.ref 254) [Value.int _ _, Value.str _ _, Value.str _ _]) _ _ _); k_dflt (refine gives_use (right_gives _ _ _ _ _ _ _ _ (by assumption)) (by assumption) (by k_asm) (by assumption) (by k_asm) (by k_asm) (by rfl) (by first | decide | ktr_room) (by first | decide | ktr_units) ?_; k_whole); intro t' h' tk' F' N'; (try dsimp only)) | (k_unfold; (try dsimp only)) | (k_end; wrow_close) | walk1 | (dsimp only; walk1) | (leave1; walk_say "STEP leave1"; try dsimp only)))
    refine goodW_bool (by assumption) (by assumption) (raisesW_false ?_) ?_
    · exact fun ct h => nomatch (show ct ∈ ([] : List _) from h)
    · refine postW_of (by wrow_shape) (by wtm_val) ?_
      first | rfl | exact beq_self_eq_true _ | exact same_self _
end
end Mine
set_option maxRecDepth 100000 in
set_option maxHeartbeats 8000000 in
theorem PySem.Challenge.cw_ij0199_01_holds : PySem.Challenge.rw_ij0199_01.Holds := by
  exact Mine.fin

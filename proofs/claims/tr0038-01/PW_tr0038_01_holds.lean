import PyProof.Rows.All
import Wide.All
import OpenK.AllK
import Wide.FinOn
import PySem.Challenge.RW_tr0038_01
open PySem PySem.W PySem.Calls PySem.Spec PyProof.Rows
set_option Elab.async false
set_option maxRecDepth 100000

section
namespace Mine
set_option maxHeartbeats 8000000 in
set_option synthInstance.maxSize 1 in
open_top hd for PySem.Challenge.rw_tr0038_01

/-- what a call of the def at f, of depth dep, is asked: Rel of the heap and the arguments; Out of what is made and what comes back; whatever stood stands -/
def Tell (w : World) (mean : ExcName → Option Value) (mg mb : Str → Option Value) (f : Addr) (dep : Nat) (Rel : Heap → List Value → Prop) (Out : List (Addr × Obj) → Value → Prop) : Prop :=
  ∀ (dp un : Nat) (gd : Option (List Code)) (cn : Str) (cs : Scope) (a : Addr) (ccd : Value) (cl : List (Str × Addr)) (outer : List Env) (A₀ : Around) (base h₀ : Heap) (L : Addr) (m : Str → Option Value) (hp : Heap) (gs : Array GenState) (dr : Drawn) (tk : Nat) (os : OsState) (vs : List Value)
    (Q E : Value → Shared → Prop),
    Below A₀ base outer h₀ → Fr h₀ L hp m → (hd.heap_39 w.params).In h₀ → Top hd.view_39 (looseW hd.view_39 [Str.ofString "COMPILER_FLAG_NAMES"]) mean mg mb h₀ → cs.kind = .function → Rel hp vs → dp + dep < recursionLimit → un + 8 * dep + 1000 < cLine →
    (∀ r tl h' tk', (∀ b o, hp.get? b = some o → h'.get? b = some o) → (∀ p ∈ tl, h'.get? p.1 = some p.2 ∧ hp.get? p.1 = none) → Out tl r → Q r ⟨h', gs, dr, tk', os⟩) →
    wpAny (model PySem.Challenge.rw_tr0038_01.row.prog w) (ktrTop dp un gd cn cs L a ccd cl outer) (call (.ref f) vs) Q E ⟨hp, gs, dr, tk, os⟩

section
variable {w : World} {mean : ExcName → Option Value} {mg mb : Str → Option Value} {f : Addr} {dep : Nat} {Rel : Heap → List Value → Prop} {Out : List (Addr × Obj) → Value → Prop}
theorem news_more {h₀ h h' : Heap} {L : Addr} {m : Str → Option Value} {news tl : List (Addr × Obj)} (F : Fr h₀ L h m) (N : News h₀ L h news) (k : ∀ b o, h.get? b = some o → h'.get? b = some o) (ht : ∀ p ∈ tl, h'.get? p.1 = some p.2 ∧ h.get? p.1 = none) :
    News h₀ L h' (tl ++ news) := fun p hp => by
  rcases List.mem_append.mp hp with hp | hp
  · refine ⟨(ht p hp).1, fun e => ?_, ?_⟩
    · obtain ⟨oL, _, _, hL, _⟩ := F.ns
      have := (ht p hp).2; rw [e, hL] at this; cases this
    · cases q : h₀.get? p.1 with
      | none => rfl
      | some o => have := (ht p hp).2; rw [F.keep _ _ q] at this; cases this
  · exact ⟨k _ _ (N p hp).1, (N p hp).2⟩
/-- apart from an address -/
def Apart (d : Addr) : List (Addr × Obj) → Prop
  | [] => True
  | p :: r => p.1 ≠ d ∧ Apart d r
theorem apart_of {h h' : Heap} {d : Addr} {o : Obj} (hd : h.get? d = none) : ∀ {l : List (Addr × Obj)}, (∀ p ∈ l, h.get? p.1 = some p.2) → Apart d l
  | [], _ => trivial
  | p :: _, H => ⟨(fun e => by have := H p (.head _); rw [e, hd] at this; cases this), apart_of (h' := h') (o := o) hd fun q hq => H q (.tail _ hq)⟩
theorem news_apart {h₀ h h' : Heap} {L : Addr} {news tl : List (Addr × Obj)} (N : News h₀ L h news) (ht : ∀ p ∈ tl, h'.get? p.1 = some p.2 ∧ h.get? p.1 = none) : ∀ p ∈ tl, Apart p.1 news :=
  fun p hp => apart_of (h' := h') (o := p.2) (ht p hp).2 fun q hq => (N q hq).1
theorem tell_use {dp un : Nat} {gd : Option (List Code)} {cn : Str} {cs : Scope} {a : Addr} {ccd : Value} {cl : List (Str × Addr)} {outer : List Env} {A₀ : Around} {base h₀ : Heap} {L : Addr} {m : Str → Option Value} {news : List (Addr × Obj)} {hp : Heap} {gs : Array GenState} {dr : Drawn} {tk : Nat} {os : OsState} {vs : List Value}
    {Q E : Value → Shared → Prop} (C : Tell w mean mg mb f dep Rel Out) (B : Below A₀ base outer h₀) (F : Fr h₀ L hp m) (X : (hd.heap_39 w.params).In h₀) (N : News h₀ L hp news) (T : Top hd.view_39 (looseW hd.view_39 [Str.ofString "COMPILER_FLAG_NAMES"]) mean mg mb h₀) (hk : cs.kind = .function)
    (R : Rel hp vs) (hd : dp + dep < recursionLimit) (hu : un + 8 * dep + 1000 < cLine)
    (ret : ∀ r tl h' tk', Out tl r → Fr h₀ L h' m → News h₀ L h' (tl ++ news) → (∀ p ∈ tl, Apart p.1 news) → Q r ⟨h', gs, dr, tk', os⟩) :
    wpAny (model PySem.Challenge.rw_tr0038_01.row.prog w) (ktrTop dp un gd cn cs L a ccd cl outer) (call (.ref f) vs) Q E ⟨hp, gs, dr, tk, os⟩ :=
  C _ _ _ _ _ _ _ _ _ _ _ _ _ _ _ _ _ _ _ _ _ _ B F X T hk R hd hu fun r tl h' tk' k ht ho => ret r tl h' tk' ho (F.grownK k) (news_more F N k ht) (news_apart N ht)

variable {dp un : Nat} {gd : Option (List Code)} {cn : Str} {cs : Scope} {a : Addr} {ccd : Value} {cl : List (Str × Addr)} {outer : List Env} {A₀ : Around} {base h₀ : Heap} {L : Addr} {m : Str → Option Value} {hp : Heap} {gs : Array GenState} {dr : Drawn} {tk : Nat} {os : OsState} {vs : List Value} {prog : Program}
    {Q E : Value → Shared → Prop} {K : Frag} {p : Program} {loose : List Str} {name qual : Str} {params : Arguments} {body : List Stmt} {scope : Scope} {dV kV doc pm cdv ct oc : Value} {an od : Option Addr} {osl : Array (Option Value)} {binds : List (Str × Value)}
theorem tell_in (B : Below A₀ base outer h₀) (F : Fr h₀ L hp m) (X₀ : K.In h₀) (T : Top p loose mean mg mb h₀) (hkc : cs.kind = .function)
    (ho : K.lookup f = some ⟨oc, od, .func (fnOf name qual params body scope dV kV doc pm an cdv ct), osl⟩) (hcd : codeIn K cdv qual = true) (hroom : dp < recursionLimit)
    (hbind : BindsTo ⟨hp, gs, dr, tk, os⟩ (fnOf name qual params body scope dV kV doc pm an cdv ct) ⟨vs, []⟩ binds) (hloc : ∀ y ∈ binds, scope.names.lookup y.1 = some .local)
    (h : ∀ L' h₁ tk', Fr hp L' h₁ (fun y => binds.reverse.lookup y) → News hp L' h₁ [] → Below (ktrTop dp un gd cn cs L a ccd cl outer) base (envX cn cs L a ccd cl :: outer) hp → K.In hp → Top p loose mean mg mb hp →
      wpAny (model prog w) ((ktrTop dp un gd cn cs L a ccd cl outer).deeper (envOf qual scope L' f cdv)) (execs body (envOf qual scope L' f cdv))
        (fun fl s' => Q (match fl with | .ret v => v | _ => .none) s')
        (fun e s' => wpAny (model prog w) ((ktrTop dp un gd cn cs L a ccd cl outer).deeper (envOf qual scope L' f cdv)) (leaving (envOf qual scope L' f cdv) e) (fun _ s'' => E e s'') (fun e' s'' => E e' s'') s')
        ⟨h₁, gs, dr, tk', os⟩)
    (hcell : ∀ x ∈ scope.names, x.2 ≠ .cell) (hco : scope.isCoroutine = false) (hgen : scope.isGenerator = false) (hk : scope.kind = .function) :
    wpAny (model prog w) (ktrTop dp un gd cn cs L a ccd cl outer) (call (.ref f) vs) Q E ⟨hp, gs, dr, tk, os⟩ := by
  refine wpAny_call (codeAny_call_def (fd := fnOf name qual params body scope dV kV doc pm an cdv ct) (body := body) (binds := binds) hroom ((X₀.keeps F.keep) _ _ ho) rfl (T.nolimit.keeps F.keep) (codeRec_of (X₀.keeps F.keep) hcd) rfl hbind hcell hloc (fun h₁ hns hk₁ => ?_) hco hgen hk)
  exact h hp.objs.size h₁ _ ⟨hns, hk₁, Nat.le_refl _⟩ News.nil ⟨rfl, (pushX (env := envX cn cs L a ccd cl) B F rfl hkc).stays, (pushX (env := envX cn cs L a ccd cl) B F rfl hkc).frames⟩ (X₀.keeps F.keep) (T.keeps F.keep)
theorem tell_inC (B : Below A₀ base outer h₀) (F : Fr h₀ L hp m) (X₀ : K.In h₀) (T : Top p loose mean mg mb h₀) (hkc : cs.kind = .function)
    (ho : K.lookup f = some ⟨oc, od, .func (fnOf name qual params body scope dV kV doc pm an cdv ct), osl⟩) (hcd : codeIn K cdv qual = true) (hroom : dp < recursionLimit)
    (hbind : BindsTo ⟨hp, gs, dr, tk, os⟩ (fnOf name qual params body scope dV kV doc pm an cdv ct) ⟨vs, []⟩ binds) (hkind : (binds.all fun y => scope.names.lookup y.1 == some .local || scope.names.lookup y.1 == some .cell) = true)
    (hnd : ((cellsFrom 0 scope.names []).map (·.1)).Nodup)
    (h : ∀ L' h₁ tk' cells, Fr hp L' h₁ (bindL (envOfC qual scope L' f cdv).kindOf binds fun _ => none) → News hp L' h₁ cells →
      CellsAre (bindC (envOfC qual scope L' f cdv).kindOf binds fun _ => none) (cellsFrom (L' + 1) scope.names []) cells → Below (ktrTop dp un gd cn cs L a ccd cl outer) base (envX cn cs L a ccd cl :: outer) hp → K.In hp → Top p loose mean mg mb hp →
      wpAny (model prog w) ((ktrTop dp un gd cn cs L a ccd cl outer).deeper (envOfC qual scope L' f cdv)) (execs body (envOfC qual scope L' f cdv))
        (fun fl s' => Q (match fl with | .ret v => v | _ => .none) s')
        (fun e s' => wpAny (model prog w) ((ktrTop dp un gd cn cs L a ccd cl outer).deeper (envOfC qual scope L' f cdv)) (leaving (envOfC qual scope L' f cdv) e) (fun _ s'' => E e s'') (fun e' s'' => E e' s'') s')
        ⟨h₁, gs, dr, tk', os⟩)
    (hco : scope.isCoroutine = false) (hgen : scope.isGenerator = false) (hk : scope.kind = .function) :
    wpAny (model prog w) (ktrTop dp un gd cn cs L a ccd cl outer) (call (.ref f) vs) Q E ⟨hp, gs, dr, tk, os⟩ := by
  refine wpAny_call (codeAny_call_function hroom ((X₀.keeps F.keep) _ _ ho) rfl hco hgen rfl (codeRec_of (X₀.keeps F.keep) hcd) (hbind _ _ _ _ ?_))
  refine wpAny_newFunctionEnv_cells hk (kindsX hkind _) fun env' he s' x => ?_
  subst he
  refine ⟨((T.nolimit.keeps F.keep)).keeps x.toInCall.keep, codeAny_func ?_⟩
  obtain ⟨h₁, tk', rfl, _⟩ := x.done
  have hk₁ := x.toInCall.keep
  obtain ⟨cells, NC, Y⟩ := Cl.news (h₀ := hp) (Nat.le_refl _) fun n c hm => ⟨x.cell n c (lookup_of_mem_nodup (cellsFrom_names scope.names 0 (hp.objs.size + 1) [] [] rfl ▸ hnd) hm), x.above n c hm⟩
  exact h hp.objs.size h₁ tk' cells ⟨x.toInCall.ns, hk₁, Nat.le_refl _⟩ (fun p hp' => NC p hp') Y ⟨rfl, (pushX (env := envX cn cs L a ccd cl) B F rfl hkc).stays, (pushX (env := envX cn cs L a ccd cl) B F rfl hkc).frames⟩ (X₀.keeps F.keep) (T.keeps F.keep)
end
/-- what is made at a call's end -/
theorem made_of {hp h' : Heap} {L : Addr} {tl news : List (Addr × Obj)} (N : News hp L h' news) (hs : ∀ p ∈ tl, p ∈ news) : ∀ p ∈ tl, h'.get? p.1 = some p.2 ∧ hp.get? p.1 = none := fun p q => ⟨(N p (hs p q)).1, (N p (hs p q)).2.2⟩
theorem made_nil {hp h' : Heap} : ∀ p ∈ ([] : List (Addr × Obj)), h'.get? p.1 = some p.2 ∧ hp.get? p.1 = none := fun _ h => nomatch h
abbrev tupOf (vs : List Value) : Obj := { cls := .type "tuple", data := .seq vs.toArray }
end Mine
end

section
theorem Mine.fresh_T_loop : True := by
  w_top off
  trivial
namespace Mine
section
variable {prog : Program} {w : World} {A : Around} {env : Env} {h₀ : Heap} {target iter : Expr} {body orelse : List Stmt} {Q : Flow → Shared → Prop} {E : Value → Shared → Prop} {s : Shared}
/-- a loop's turns, any target, any flow, an else: what is walked, an invariant over the frame's map and the ledger, whose addresses stay -/
def GoAt (prog : Program) (w : World) (A : Around) (h₀ : Heap) (env : Env) (target : Expr) (body orelse : List Stmt) (Q : Flow → Shared → Prop) (E : Value → Shared → Prop) (it : Value) (s : Shared) : Prop :=
  ∃ (I : Addr) (fp wr : List Addr) (n : Nat) (P : Nat → Value → Prop) (St : Nat → Heap → Prop) (m : Str → Option Value) (news : List (Addr × Obj)) (J : Nat → (Str → Option Value) → List (Addr × Obj) → Prop),
    it = .ref I ∧ Walks prog w A I fp wr n P St ∧ env.locals ∉ fp ∧ (∀ b ∈ wr, h₀.get? b = none) ∧ (∀ p ∈ news, p.1 ∉ wr) ∧ (∀ q ∈ news, q.1 ∈ fp → ∀ i m₁ nx, J i m₁ nx → q ∈ nx) ∧ St 0 s.heap ∧ Fr h₀ env.locals s.heap m ∧ News h₀ env.locals s.heap news ∧ J 0 m news ∧
    (∀ i v m₁ nx h tk own, i < n → P i v → nx.map (·.1) = news.map (·.1) → OwnOff own (news.map (·.1)) → J i m₁ nx → Fr h₀ env.locals h m₁ → News h₀ env.locals h (nx ++ own) →
      wpAny (model prog w) A (assign target env v) (fun _ s₂ => wpAny (model prog w) A (execs body env) (InvPostN h₀ env.locals (J (i + 1)) own (news.map (·.1)) { s with heap := h, toks := tk } Q) E s₂) E { s with heap := h, toks := tk }) ∧
    (∀ m₁ nx h tk, J n m₁ nx → nx.map (·.1) = news.map (·.1) → Fr h₀ env.locals h m₁ → News h₀ env.locals h nx → wpAny (model prog w) A (execs orelse env) Q E { s with heap := h, toks := tk })
theorem For_go {pos : Pos} {m₀ : Str → Option Value} (_F : Fr h₀ env.locals s.heap m₀)
    (h : wpAny (model prog w) A (eval iter env) (fun xv s₁ => wpAny (model prog w) A (pyIter xv) (fun it s₂ => GoAt prog w A h₀ env target body orelse Q E it s₂) E s₁) E s)
    (ht : ∀ it v, letOwnedTupleGo target it v = pure ()) (hs : ∀ x, foldedSetIterable iter env x = pure x) (hE : PassesOwn (model prog w) A env E) :
    wpAny (model prog w) A (exec (.For target iter body orelse pos) env) Q E s := by
  refine wpAny_For (wpAny_mono h (fun xv s₁ h₁ => wpAny_mono h₁ (fun it s h₂ => ?_) fun _ _ e => e) fun _ _ e => e) hs
  obtain ⟨I, fp, wr, n, P, St, m, news, J, rfl, W, hLf, hwr, hnw, hfp, hst, F, N, h0, step, done⟩ := h₂
  have hLw : env.locals ∉ wr := fun h => hLf (W.sub _ h)
  have old : ∀ b o, h₀.get? b = some o → b ∉ wr := fun b o e hb => by rw [hwr b hb] at e; cases e
  refine codeAny_forLoop
    (fun k s' => ∃ h' tk m' nx i, s' = { s with heap := h', toks := tk } ∧ St i h' ∧ Fr h₀ env.locals h' m' ∧ News h₀ env.locals h' nx ∧ nx.map (·.1) = news.map (·.1) ∧ J i m' nx ∧ i ≤ n ∧ k = n + 1 - i) ?_ (n + 1)
    ⟨s.heap, s.toks, m, news, 0, rfl, hst, F, N, rfl, h0, Nat.zero_le _, rfl⟩ (ht _)
  rintro k s' ⟨h', tk, m', nx, i, rfl, hst', F', N', hadr, hJ, hi, rfl⟩
  have off : ∀ p ∈ nx, p.1 ∉ wr := fun p hp => by
    obtain ⟨q, hq, e⟩ := List.mem_map.mp (hadr ▸ List.mem_map_of_mem hp : p.1 ∈ news.map (·.1))
    exact e ▸ hnw q hq
  have next : ∀ h₁ : Heap, (∀ b o, b ∉ wr → h'.get? b = some o → h₁.get? b = some o) → Fr h₀ env.locals h₁ m' ∧ News h₀ env.locals h₁ nx := fun h₁ hk₁ =>
    ⟨⟨F'.ns.at' fun o e => hk₁ _ o hLw e, fun b o e => hk₁ b o (old b o e) (F'.keep b o e), F'.above⟩, fun p hp => ⟨hk₁ _ _ (off p hp) (N' p hp).1, (N' p hp).2⟩⟩
  by_cases hlt : i < n
  · refine W.item i _ _ _ hlt hst' fun v h₁ tk₁ hP hst₁ hk₁ => ?_
    obtain ⟨F₁, N₁⟩ := next h₁ hk₁
    have Nown : News h₀ env.locals h₁ (ownOf h₀ fp h₁) := news_ownOf hLf
    let own := (ownOf h₀ fp h₁).filter fun p => !(news.map (·.1)).contains p.1
    have hsep : OwnOff own (news.map (·.1)) := fun p hp b hb e => by
      have h1 := (List.mem_filter.mp hp).2
      rw [Bool.not_eq_true', ← Bool.not_eq_true, List.contains_iff_mem, e] at h1
      exact h1 hb
    have N₂ : News h₀ env.locals h₁ (nx ++ own) := fun p hp => (List.mem_append.mp hp).elim (N₁ p) fun h => Nown p (List.mem_filter.mp h).1
    refine wpAny_mono (wpAny_passesOwn hE (step i v m' nx h₁ tk₁ own hlt hP hadr hsep hJ F₁ N₂)) (fun _ s₂ h₂ => wpAny_passesOwn hE (wpAny_mono h₂ (fun f s₃ h₃ => ?_) fun _ _ e => e)) fun _ _ e => e
    have fin : InvEndN h₀ env.locals (J (i + 1)) own (news.map (·.1)) { s with heap := h₁, toks := tk₁ } s₃ → ∃ k', k' < n + 1 - i ∧ ∃ h' tk m' nx i, s₃ = { s with heap := h', toks := tk } ∧ St i h' ∧ Fr h₀ env.locals h' m' ∧ News h₀ env.locals h' nx ∧ nx.map (·.1) = news.map (·.1) ∧ J i m' nx ∧ i ≤ n ∧ k' = n + 1 - i := by
      rintro ⟨h₃', tk₃, m₂, news₂, nx₂, rfl, F₃, N₃, hn₃, ho₃, ha₃, hJ₃⟩
      refine ⟨n + 1 - (i + 1), by omega, h₃', tk₃, m₂, nx₂, i + 1, rfl, W.frame _ _ _ hst₁ fun b hb o e => ?_, F₃, fun p hp => N₃ p (hn₃ p hp), ha₃, hJ₃, hlt, rfl⟩
      cases hn : h₀.get? b with
      | some o₀ =>
        have : o₀ = o := by have := F₁.keep b o₀ hn; rw [e] at this; exact (Option.some.inj this).symm
        exact this ▸ F₃.keep b o₀ hn
      | none =>
        by_cases hbn : b ∈ news.map (·.1)
        · obtain ⟨q, hq, rfl⟩ := List.mem_map.mp hbn
          have h1 := hfp q hq hb i m' nx hJ
          have h2 := hfp q hq hb (i + 1) m₂ nx₂ hJ₃
          have h3 := (N₁ q h1).1
          rw [e] at h3
          rw [Option.some.inj h3]
          exact (N₃ q (hn₃ q h2)).1
        · exact (N₃ _ (ho₃ _ (List.mem_filter.mpr ⟨mem_ownOf hb hn e, by rw [Bool.not_eq_true', ← Bool.not_eq_true, List.contains_iff_mem]; exact hbn⟩))).1
    cases f with
    | ret v => exact h₃
    | brk => exact h₃
    | cont => exact fin h₃
    | next => exact fin h₃
  · have hin : i = n := by omega
    subst hin
    refine W.done _ _ _ hst' fun h₁ tk₁ hk₁ => ?_
    obtain ⟨F₁, N₁⟩ := next h₁ hk₁
    exact wpAny_passesOwn hE (wpAny_mono (done m' nx h₁ tk₁ hJ hadr F₁ N₁) (fun _ _ x => x) fun _ _ x => x)

/-- over a range -/
theorem go_range {r : Addr} {a₀ b₀ : Int} {t₀ u₀ v₀ : Tok} {n : Nat} {m : Str → Option Value} {news : List (Addr × Obj)} (J : Nat → (Str → Option Value) → List (Addr × Obj) → Prop)
    (hh : A.handled = none) (hr : IsRange s.heap r a₀ b₀ 1 t₀ u₀ v₀) (hsmall : Builtin.Range.small a₀ b₀ 1 = true) (hn : Builtin.Range.rangeSize a₀ b₀ 1 = (n : Int)) (F : Fr h₀ env.locals s.heap m) (N : News h₀ env.locals s.heap news) (hj : J 0 m news)
    (turn : ∀ i k t m₁ nx h tk own, i < n → k = a₀ + (i : Int) → nx.map (·.1) = news.map (·.1) → OwnOff own (news.map (·.1)) → J i m₁ nx → Fr h₀ env.locals h m₁ → News h₀ env.locals h (nx ++ own) →
      wpAny (model prog w) A (assign target env (.int k t)) (fun _ s₂ => wpAny (model prog w) A (execs body env) (InvPostN h₀ env.locals (J (i + 1)) own (news.map (·.1)) { s with heap := h, toks := tk } Q) E s₂) E { s with heap := h, toks := tk })
    (done : ∀ m₁ nx h tk, J n m₁ nx → nx.map (·.1) = news.map (·.1) → Fr h₀ env.locals h m₁ → News h₀ env.locals h nx → wpAny (model prog w) A (execs orelse env) Q E { s with heap := h, toks := tk }) :
    wpAny (model prog w) A (pyIter (.ref r)) (fun it s₂ => GoAt prog w A h₀ env target body orelse Q E it s₂) E s := by
  refine wpAny_pyIter_range hr hsmall ?_
  have W : Walks prog w A s.heap.objs.size [s.heap.objs.size] [s.heap.objs.size] n (fun i v => ∃ t, v = .int (a₀ + i * 1) t)
      (fun i h => IsRangeIter h s.heap.objs.size (a₀ + (i : Nat) * 1) ((n : Int) - (i : Nat)) 1) := Walks.range hh _ a₀ 1 n
  refine ⟨_, _, _, n, _, _, m, news, J, rfl, W, fun hm => ?_, fun b hb => ?_, fun p hp hI => ?_, fun q hq hI => ?_, ?_, F.push _, fun p hp => ⟨Heap.get?_push_of_some _ (N p hp).1, (N p hp).2⟩, hj, ?_, done⟩
  · exact absurd F.ns.lt ((List.mem_singleton.mp hm) ▸ Nat.lt_irrefl _)
  · rw [List.mem_singleton.mp hb]
    exact next_is_new F
  · exact absurd (Heap.lt_size (N p hp).1) ((List.mem_singleton.mp hI) ▸ Nat.lt_irrefl _)
  · exact absurd (Heap.lt_size (N q hq).1) ((List.mem_singleton.mp hI) ▸ Nat.lt_irrefl _)
  · show IsRangeIter _ _ _ _ _
    rw [hn]; simpa using Heap.get?_push_size _ rfl
  · rintro i v m₁ nx h tk own hi ⟨t, rfl⟩ ha ho hJ F₁ N₁
    exact turn i _ t m₁ nx h tk own hi (by omega) ha ho hJ F₁ N₁

/-- over a list that the call has made -/
theorem go_list {l : Addr} {vs : List Value} {nn : Nat} {m : Str → Option Value} {news : List (Addr × Obj)} (J : Nat → (Str → Option Value) → List (Addr × Obj) → Prop)
    (hh : A.handled = none) (hl : (l, listOf vs.toArray nn) ∈ news) (hJl : ∀ i m₁ nx, J i m₁ nx → (l, listOf vs.toArray nn) ∈ nx) (hnd : ∀ q ∈ news, q.1 = l → q = (l, listOf vs.toArray nn)) (F : Fr h₀ env.locals s.heap m) (N : News h₀ env.locals s.heap news) (hj : J 0 m news)
    (turn : ∀ i v m₁ nx h tk own, vs[i]? = some v → nx.map (·.1) = news.map (·.1) → OwnOff own (news.map (·.1)) → J i m₁ nx → Fr h₀ env.locals h m₁ → News h₀ env.locals h (nx ++ own) →
      wpAny (model prog w) A (assign target env v) (fun _ s₂ => wpAny (model prog w) A (execs body env) (InvPostN h₀ env.locals (J (i + 1)) own (news.map (·.1)) { s with heap := h, toks := tk } Q) E s₂) E { s with heap := h, toks := tk })
    (done : ∀ m₁ nx h tk, J vs.length m₁ nx → nx.map (·.1) = news.map (·.1) → Fr h₀ env.locals h m₁ → News h₀ env.locals h nx → wpAny (model prog w) A (execs orelse env) Q E { s with heap := h, toks := tk }) :
    wpAny (model prog w) A (pyIter (.ref l)) (fun it s₂ => GoAt prog w A h₀ env target body orelse Q E it s₂) E s := by
  have hls : s.heap.IsList l vs.toArray := ⟨_, (N _ hl).1, rfl, nn, rfl⟩
  have hlt : l < s.heap.objs.size := Heap.lt_size (N _ hl).1
  refine wpAny_pyIter_list hls ?_
  have W := Walks.list (prog := prog) (w := w) (A := A) hh s.heap.objs.size l (Nat.ne_of_lt hlt) vs.toArray
  have hsz : vs.toArray.size = vs.length := List.size_toArray ..
  rw [hsz] at W
  refine ⟨_, _, _, vs.length, _, _, m, news, J, rfl, W, fun hm => ?_, fun b hb => ?_, fun p hp hI => ?_, fun q hq hI i m₁ nx hJ => ?_, ⟨⟨_, Heap.get?_push_size _ rfl, rfl, rfl⟩, hls.at fun o e => Heap.get?_push_of_some _ e⟩, F.push _, fun p hp => ⟨Heap.get?_push_of_some _ (N p hp).1, (N p hp).2⟩, hj, ?_, done⟩
  · rcases List.mem_cons.mp hm with e | hm
    · exact absurd F.ns.lt (e ▸ Nat.lt_irrefl _)
    · exact (N _ hl).2.1 (List.mem_singleton.mp hm).symm
  · rw [List.mem_singleton.mp hb]
    exact next_is_new F
  · exact absurd (Heap.lt_size (N p hp).1) ((List.mem_singleton.mp hI) ▸ Nat.lt_irrefl _)
  · rcases List.mem_cons.mp hI with e | hI
    · exact absurd (Heap.lt_size (N q hq).1) (e ▸ Nat.lt_irrefl _)
    · rw [hnd q hq (List.mem_singleton.mp hI)]
      exact hJl i m₁ nx hJ
  · rintro i v m₁ nx h tk own hi hv ha ho hJ F₁ N₁
    exact turn i v m₁ nx h tk own (by simpa using hv) ha ho hJ F₁ N₁

theorem go_range2 {a b : Int} {t u : Tok} {m : Str → Option Value} {news : List (Addr × Obj)} (J : (Str → Option Value) → Nat → (Str → Option Value) → List (Addr × Obj) → Prop)
    (hh : A.handled = none) (F : Fr h₀ env.locals s.heap m) (N : News h₀ env.locals s.heap news) (ha : -1000 ≤ a) (ha' : a ≤ 1000) (hb : -1000 ≤ b) (hb' : b ≤ 1000) (hj : J m 0 m news)
    (turn : ∀ i k t m₁ nx h tk own, i < (b - a).toNat → k = a + (i : Int) → nx.map (·.1) = news.map (·.1) → OwnOff own (news.map (·.1)) → J m i m₁ nx → Fr h₀ env.locals h m₁ → News h₀ env.locals h (nx ++ own) →
      wpAny (model prog w) A (assign target env (.int k t)) (fun _ s₂ => wpAny (model prog w) A (execs body env) (InvPostN h₀ env.locals (J m (i + 1)) own (news.map (·.1)) { s with heap := h, toks := tk } Q) E s₂) E { s with heap := h, toks := tk })
    (done : ∀ m₁ nx h tk, J m (b - a).toNat m₁ nx → nx.map (·.1) = news.map (·.1) → Fr h₀ env.locals h m₁ → News h₀ env.locals h nx → wpAny (model prog w) A (execs orelse env) Q E { s with heap := h, toks := tk }) :
    wpAny (model prog w) A (call (.type "range") [.int a t, .int b u]) (fun xv s₁ => wpAny (model prog w) A (pyIter xv) (fun it s₂ => GoAt prog w A h₀ env target body orelse Q E it s₂) E s₁) E s := by
  refine call_range_2 (go_range (J m) hh (Heap.get?_push_size _ rfl) (small_one (by omega) (by omega) (by omega) (by omega)) (rangeSize_nat a b) (F.push _) (fun p hp => ⟨Heap.get?_push_of_some _ (N p hp).1, (N p hp).2⟩) hj ?_ ?_)
  · intro i k t m₁ nx h tk own hi hk ha ho hJ F₁ N₁
    exact turn i k t m₁ nx h tk own hi hk ha ho hJ F₁ N₁
  · intro m₁ nx h tk hJ ha F₁ N₁
    exact done m₁ nx h tk hJ ha F₁ N₁
theorem go_range1 {b : Int} {u : Tok} {m : Str → Option Value} {news : List (Addr × Obj)} (J : (Str → Option Value) → Nat → (Str → Option Value) → List (Addr × Obj) → Prop)
    (hh : A.handled = none) (F : Fr h₀ env.locals s.heap m) (N : News h₀ env.locals s.heap news) (hb : -1000 ≤ b) (hb' : b ≤ 1000) (hj : J m 0 m news)
    (turn : ∀ i k t m₁ nx h tk own, i < b.toNat → k = (i : Int) → nx.map (·.1) = news.map (·.1) → OwnOff own (news.map (·.1)) → J m i m₁ nx → Fr h₀ env.locals h m₁ → News h₀ env.locals h (nx ++ own) →
      wpAny (model prog w) A (assign target env (.int k t)) (fun _ s₂ => wpAny (model prog w) A (execs body env) (InvPostN h₀ env.locals (J m (i + 1)) own (news.map (·.1)) { s with heap := h, toks := tk } Q) E s₂) E { s with heap := h, toks := tk })
    (done : ∀ m₁ nx h tk, J m b.toNat m₁ nx → nx.map (·.1) = news.map (·.1) → Fr h₀ env.locals h m₁ → News h₀ env.locals h nx → wpAny (model prog w) A (execs orelse env) Q E { s with heap := h, toks := tk }) :
    wpAny (model prog w) A (call (.type "range") [.int b u]) (fun xv s₁ => wpAny (model prog w) A (pyIter xv) (fun it s₂ => GoAt prog w A h₀ env target body orelse Q E it s₂) E s₁) E s := by
  refine call_range_1 (go_range (J m) hh (Heap.get?_push_size _ rfl) (small_one (by omega) (by omega) (by omega) (by omega)) (rangeSize_nat 0 b) (F.push _) (fun p hp => ⟨Heap.get?_push_of_some _ (N p hp).1, (N p hp).2⟩) hj ?_ ?_)
  · intro i k t m₁ nx h tk own hi hk ha ho hJ F₁ N₁
    exact turn i k t m₁ nx h tk own (by simpa using hi) (by omega) ha ho hJ F₁ N₁
  · intro m₁ nx h tk hJ ha F₁ N₁
    exact done m₁ nx h tk (by simpa using hJ) ha F₁ N₁
end
end Mine
end

section
theorem Mine.fresh_T_stop : True := by
  w_top off
  trivial
namespace Mine
/-- where the walk stops for a line of its own -/
def StopK (_n : Nat) (P : Prop) : Prop := P
theorem at_stopK (n : Nat) {P : Prop} (h : StopK n P) : P := h
theorem look_no {α : Type} {a b : Str} {x r v : α} (h : decide (a = b) = false) (k : r = v) : (if a = b then x else r) = v := by
  rw [if_neg (of_decide_eq_false h)]
  exact k
/-- a mark: the walk stops -/
def StopHere : Prop := True
def StopHere2 : Prop := 0 = 0
end Mine
end

section
theorem Mine.fresh_T_holds : True := by
  w_top off
  trivial
namespace Mine
inductive HoldRel (taps size : Int) (bits : List Int) : Heap → List Value → Prop where
  | mk {b : Heap} {l : Addr} {us : List Value} {t1 t2 : Tok} : b.IsList l us.toArray → IntsAre us bits → bits.length ≤ 7 → 0 ≤ taps → taps < 256 → 0 ≤ size → size ≤ 7 → HoldRel taps size bits b [.int taps t1, .int size t2, .ref l]
/-- the sum under the taps is odd -/
def oddAt (taps size : Int) (bits : List Int) (n : Int) : Bool :=
  decide (((rangeKs 0 (size + 1 - 0).toNat).foldl (fun l k => if Builtin.bitAnd (taps.fdiv (2 ^ k.toNat)) 1 = 1 then l ++ [bits.getD (n - k).toNat 0] else l) []).sum.fmod 2 = 1)
def holdsF (taps size : Int) (bits : List Int) : Bool := (List.range ((bits.length : Int) - size).toNat).all fun i => !oddAt taps size bits (size + (i : Int))
theorem holds_no {taps size : Int} {bits : List Int} {i : Nat} (hi : i < ((bits.length : Int) - size).toNat) (h : oddAt taps size bits (size + (i : Int)) = true) : holdsF taps size bits = false := by
  cases hh : holdsF taps size bits with
  | false => rfl
  | true =>
    have := List.all_eq_true.mp hh i (List.mem_range.mpr hi)
    rw [h] at this; cases this
theorem holds_yes {taps size : Int} {bits : List Int} (h : ∀ i, i < ((bits.length : Int) - size).toNat → oddAt taps size bits (size + (i : Int)) = false) : holdsF taps size bits = true :=
  List.all_eq_true.mpr fun i hi => by rw [h i (List.mem_range.mp hi)]; rfl
def HoldOut (taps size : Int) (bits : List Int) (tl : List (Addr × Obj)) (r : Value) : Prop := tl = [] ∧ r = .bool (holdsF taps size bits)
def GMark (_ : List Int → Int → List Int) : Prop := True
abbrev gOf {G : List Int → Int → List Int} (_ : GMark G) : List Int → Int → List Int := G
local macro_rules | `(tactic| walk_at "CompSrcT") => `(tactic| (k_here; refine at_stopK 1 ?_))
local macro_rules | `(tactic| walk_at "CompEnd") => `(tactic| (k_here; refine at_stopK 2 ?_))
local macro_rules | `(tactic| walk_at "KPfGrows") => `(tactic| (k_here; refine at_stopK 3 ?_))
set_option maxHeartbeats 8000000 in
theorem hold_told (w : World) (mean : ExcName → Option Value) (mg mb : Str → Option Value) (taps size : Int) (bits : List Int) : Tell w mean mg mb 128 4 (HoldRel taps size bits) (HoldOut taps size bits) := by
  unfold Tell
  k_fill
  intro dp un gd cn cs a ccd cl outer A₀ base h₀ L m hp gs dr tk os vs Q E B F X T hk hR hd hu hret
  cases hR with
  | mk hl hi hn h0 h1 h2 h3 =>
  k_dflt (refine' tell_inC ?k1 ?k2 ?k3 ?k5 ?kK ?k6 ?k7 ?k8 ?k9 ?kB ?kD ?_ ?c2 ?c3 ?c4; (case k1 => k_asm); (case k2 => k_asm); (case k3 => k_asm); (case k5 => k_asm); (case kK => assumption); (case k6 => k_is); (case k7 => k_is); (case k8 => omega); (case k9 => exact BindsTo.of_eq rfl); (case kB => exact rfl); (case kD => decide +kernel); (case c2 => exact rfl); (case c3 => exact rfl); (case c4 => exact rfl); k_whole; clear B F X T hk; intro L' h' tk' cells' F' N' Y' B' X' T'; k_cells Y'; (try simp only [List.cons_append, List.nil_append] at N'); (try dsimp only); (try k_fold))
  rename_i t1 t2 o1 o2 o3 d1 d2 d3
  replace d1 : o1.data = .cell none := d1
  replace d2 : o2.data = .cell (some (.ref _)) := d2
  replace d3 : o3.data = .cell (some (.int taps t1)) := d3
  walk1
  k_dflt (refine' For_go F' ?_ (fun _ _ => rfl) (fun _ => rfl) ?_)
  case _ =>
    iterate 14 walk1
    refine go_range2 (fun m₀ i m₁ nx => m₁ = m₀ ∧ (∃ o v, o.data = .cell v ∧ nx = [(L' + 1 + 1 + 1, o), (L' + 1 + 1, o2), (L' + 1, o3)]) ∧ ∀ j, j < i → oddAt taps size bits (size + (j : Int)) = false) rfl F' N' (by omega) (by omega) (by omega) (by omega) ⟨rfl, ⟨_, _, d1, rfl⟩, fun _ h => absurd h (Nat.not_lt_zero _)⟩ ?_ ?_
    · rintro i k t m₁ nx h tk own hi hk ha ho ⟨rfl, ⟨o, v, hov, rfl⟩, hJ⟩ F₁ N₁
      subst hk
      simp only [List.cons_append, List.nil_append] at N₁
      clear F' N'
      (try dsimp only)
      (try k_fold)
      have hG : GMark (fun l k9 => if Builtin.bitAnd (taps.fdiv (2 ^ k9.toNat)) 1 = 1 then l ++ [bits.getD (size + (i : Int) - k9).toNat 0] else l) := trivial
      repeat' (first | ((with_reducible show StopK 1 _); unfold StopK; first | ((rename GMark _ => hG'); k_dflt (refine LCt.CompSrcT.range (by rfl) (by k_asm) (by k_asm) (by assumption) (small_one (by omega) (by omega) (by omega) (by omega)) (rangeSize_nat _ _) (by rw [PySem.sizeLine_eq]; omega) ?_; intro g'; (refine' kci_range (gOf hG') (fun k' t' I' oI' C' oC' D' m' ys' l' h' tk' E' hlo' hhi' hI' hC' hx' F' N' off' ne' => ?_) ?_ ?_); (all_goals (try clear ne')); (all_goals (try ((show KPfMark → _); intro hMark'))); kcf_last))) | ((with_reducible show StopK 2 _); unfold StopK; first | (k_dflt (first | exact LCg.CompEnd.intro (by k_asm) (by k_asm) _ (fun p hp => hp) (by first | (with_unfolding_all assumption) | (simp only [LCg.Off3, and_true]; assumption)) trivial (kci_el (if_pos (by assumption)) rfl rfl) | exact LCg.CompEnd.intro (by k_asm) (by k_asm) _ (fun p hp => hp) (by first | (with_unfolding_all assumption) | (simp only [LCg.Off3, and_true]; assumption)) trivial (kci_no (if_neg (by assumption)) rfl)))) | ((with_reducible show StopK 3 _); unfold StopK; first | (intro l k; dsimp only [gOf]; split <;> simp)) | (k_unfold; (try dsimp only)) | (k_end; wrow_close) | ((with_reducible show wpAny _ _ (execs _ _) _ _ _); (try dsimp only); (try k_fold); walk1) | walk1 | (dsimp only; walk1) | (leave1; walk_say "STEP leave1"; try dsimp only))
      · (rename Fr hp _ _ _ => kF)
        (rename _ = (1 : Int) => hq)
        exact hret _ [] _ _ kF.keep made_nil ⟨rfl, congrArg Value.bool (holds_no hi (decide_eq_true hq)).symm⟩
      · (rename Fr hp _ _ _ => kF)
        (rename News hp _ _ _ => kN)
        (rename _ ≠ (1 : Int) => hq)
        (rename (_ = Data.cell (some (Value.int _ _))) => hd9)
        refine InvEndN.intro kF kN ⟨rfl, ⟨_, _, hd9, rfl⟩, fun j hj => ?_⟩ rfl (by with_unfolding_all k_allIn) (by intro p hp; k_ownIn)
        rcases Nat.lt_succ_iff_lt_or_eq.mp hj with hj | rfl
        · exact hJ j hj
        · exact decide_eq_false hq
    · rintro m₁ nx h tk ⟨rfl, ⟨o, v, hov, rfl⟩, hJ⟩ ha F₁ N₁
      clear F' N'
      repeat' (first | ((with_reducible show StopK 1 _); unfold StopK; first | ((rename GMark _ => hG'); k_dflt (refine LCt.CompSrcT.range (by rfl) (by k_asm) (by k_asm) (by assumption) (small_one (by omega) (by omega) (by omega) (by omega)) (rangeSize_nat _ _) (by rw [PySem.sizeLine_eq]; omega) ?_; intro g'; (refine' kci_range (gOf hG') (fun k' t' I' oI' C' oC' D' m' ys' l' h' tk' E' hlo' hhi' hI' hC' hx' F' N' off' ne' => ?_) ?_ ?_); (all_goals (try clear ne')); (all_goals (try ((show KPfMark → _); intro hMark'))); kcf_last))) | ((with_reducible show StopK 2 _); unfold StopK; first | (k_dflt (first | exact LCg.CompEnd.intro (by k_asm) (by k_asm) _ (fun p hp => hp) (by first | (with_unfolding_all assumption) | (simp only [LCg.Off3, and_true]; assumption)) trivial (kci_el (if_pos (by assumption)) rfl rfl) | exact LCg.CompEnd.intro (by k_asm) (by k_asm) _ (fun p hp => hp) (by first | (with_unfolding_all assumption) | (simp only [LCg.Off3, and_true]; assumption)) trivial (kci_no (if_neg (by assumption)) rfl)))) | ((with_reducible show StopK 3 _); unfold StopK; first | (intro l k; dsimp only [gOf]; split <;> simp)) | (k_unfold; (try dsimp only)) | (k_end; wrow_close) | ((with_reducible show wpAny _ _ (execs _ _) _ _ _); (try dsimp only); (try k_fold); walk1) | walk1 | (dsimp only; walk1) | (leave1; walk_say "STEP leave1"; try dsimp only))
      (rename Fr hp _ _ _ => kF)
      exact hret _ [] _ _ kF.keep made_nil ⟨rfl, congrArg Value.bool (holds_yes hJ).symm⟩
  case _ => walk1
end Mine
end

section
theorem Mine.fresh_T_short : True := by
  w_top off
  trivial
namespace Mine
inductive ShortRel (bits : List Int) : Heap → List Value → Prop where
  | mk {b : Heap} {l : Addr} {us : List Value} : b.IsList l us.toArray → IntsAre us bits → bits.length ≤ 7 → ShortRel bits b [.ref l]
/-- the taps that fit, of a size -/
def fitsOf (bits : List Int) : Nat → List Int
  | 0 => if (bits.any fun x => x == 1) = true then [] else [1]
  | k + 1 => (rangeKs 0 (2 ^ (k + 1))).foldl (fun l c => if holdsF (2 * c + 1) ((k + 1 : Nat) : Int) bits = true then l ++ [2 * c + 1] else l) []
def shortGo (bits : List Int) : Nat → Nat → Nat
  | 0, k => k
  | n + 1, k => if fitsOf bits k = [] then shortGo bits n (k + 1) else k
def ShCut (bits : List Int) (hp : Heap) (gs : Array GenState) (dr : Drawn) (os : OsState) (L' : Addr) (o2 : Obj) (m : Str → Option Value) (f : Flow) (s' : Shared) : Prop :=
  f = .next ∧ ∃ D us c o h tk t, s' = ⟨h, gs, dr, tk, os⟩ ∧ Fr hp L' h (fun y => if y = Str.ofString "fits" then some (.ref D) else m y) ∧ News hp L' h [(D, listOf (List.toArray us) c), (L' + 1 + 1, o), (L' + 1, o2)] ∧ o.data = .cell (some (.int 0 t)) ∧ IntsAre us (fitsOf bits 0) ∧ LCg.Off1 D [(L' + 1 + 1, o), (L' + 1, o2)]
/-- the least size and what fits there -/
def ShortOut (bits : List Int) (tl : List (Addr × Obj)) (r : Value) : Prop := ∃ T D us c t, tl = [(T, tupOf [.int ((shortGo bits bits.length 0 : Nat) : Int) t, .ref D]), (D, listOf (List.toArray us) c)] ∧ r = .ref T ∧ IntsAre us (fitsOf bits (shortGo bits bits.length 0))
theorem pow_ok {k : Nat} (h : k + 1 ≤ 7) : (2 : Int) ^ ((k : Int) + 1).toNat ≤ 128 ∧ 0 < (2 : Int) ^ ((k : Int) + 1).toNat := by
  have e : ((k : Int) + 1).toNat = k + 1 := by omega
  rw [e]
  have : k = 0 ∨ k = 1 ∨ k = 2 ∨ k = 3 ∨ k = 4 ∨ k = 5 ∨ k = 6 := by omega
  rcases this with rfl | rfl | rfl | rfl | rfl | rfl | rfl <;> decide
theorem pow_nat (k : Nat) : ((2 : Int) ^ ((k : Int) + 1).toNat - 0).toNat = 2 ^ (k + 1) := by
  have e : ((k : Int) + 1).toNat = k + 1 := by omega
  rw [e, Int.sub_zero, show (2 : Int) ^ (k + 1) = ((2 ^ (k + 1) : Nat) : Int) by rw [Int.natCast_pow]; rfl, Int.toNat_natCast]
theorem fold_pick (p : Int → Bool) (g : Int → Int) : ∀ (ks l : List Int), ks.foldl (fun l c => if p c = true then l ++ [g c] else l) l = l ++ (ks.filter p).map g
  | [], l => by simp
  | c :: r, l => by
    rw [List.foldl_cons, fold_pick p g r]
    cases h : p c <;> simp [h]
theorem holds_full (taps : Int) (bits : List Int) : holdsF taps (bits.length : Nat) bits = true := by
  unfold holdsF
  rw [show ((bits.length : Int) - (bits.length : Nat)).toNat = 0 by omega]
  rfl
theorem fits_full (bits : List Int) : fitsOf bits bits.length ≠ [] := by
  cases h : bits.length with
  | zero =>
    rw [List.length_eq_zero_iff.mp h]
    decide
  | succ n =>
    show (rangeKs 0 (2 ^ (n + 1))).foldl (fun l c => if holdsF (2 * c + 1) ((n + 1 : Nat) : Int) bits = true then l ++ [2 * c + 1] else l) [] ≠ []
    rw [fold_pick (fun c => holdsF (2 * c + 1) ((n + 1 : Nat) : Int) bits) fun c => 2 * c + 1, ← h]
    intro e
    have hm : (0 : Int) ∈ (rangeKs 0 (2 ^ bits.length)).filter fun c => holdsF (2 * c + 1) (bits.length : Nat) bits := by
      refine List.mem_filter.mpr ⟨?_, holds_full _ _⟩
      have hp : 0 < 2 ^ bits.length := Nat.pow_pos (by decide)
      exact List.mem_iff_getElem?.mpr ⟨0, by simp [rangeKs, hp]⟩
    rw [List.nil_append, List.map_eq_nil_iff] at e
    rw [e] at hm
    cases hm
def PowMark (bits : List Int) (k : Nat) : Prop := decide (fitsOf bits k = []) = true → k < bits.length ∧ (2 : Int) ^ ((k : Int) + 1).toNat ≤ 128 ∧ 0 < (2 : Int) ^ ((k : Int) + 1).toNat
theorem powMark {bits : List Int} {k : Nat} (h : k ≤ bits.length) (hn : bits.length ≤ 7) : PowMark bits k := fun e => by
  have hk : k < bits.length := Nat.lt_of_le_of_ne h fun q => fits_full bits (q ▸ of_decide_eq_true e)
  exact ⟨hk, pow_ok (by omega)⟩
def ShJ (bits : List Int) (L' : Addr) (o2 : Obj) (n : Nat) (m : Str → Option Value) (nx : List (Addr × Obj)) : Prop :=
  ∃ D us c o t k, nx = [(D, listOf (List.toArray us) c), (L' + 1 + 1, o), (L' + 1, o2)] ∧ o.data = .cell (some (.int ((k : Nat) : Int) t)) ∧ IntsAre us (fitsOf bits k) ∧ LCg.Off1 D [(L' + 1 + 1, o), (L' + 1, o2)] ∧ n = bits.length - k ∧ k ≤ bits.length ∧ shortGo bits n k = shortGo bits bits.length 0 ∧ ∃ m₀ : Str → Option Value, m = fun y => if y = Str.ofString "fits" then some (.ref D) else m₀ y
theorem sh_next {bits : List Int} {hp h' : Heap} {L' D D1 l : Addr} {o o2 ol oD1 : Obj} {m : Str → Option Value} {ys : List Value} {k n : Nat} {t : Tok}
    (kN : News hp L' h' [(D, LCg.lst ys), (l, ol), (D1, oD1), (L' + 1 + 1, o), (L' + 1, o2)]) (hd : o.data = .cell (some (.int ((k : Int) + 1) t))) (kI : IntsAre ys (fitsOf bits (k + 1)))
    (ho : (@Ne Nat l D) ∧ (@Ne Nat D1 D) ∧ (@Ne Nat (L' + 1 + 1) D) ∧ (@Ne Nat (L' + 1) D)) (hf : decide (fitsOf bits k = []) = true) (hkl : k < bits.length) (hn : n = bits.length - k) (hg : shortGo bits n k = shortGo bits bits.length 0) :
    ∃ nx n', News hp L' h' nx ∧ n' < n ∧ ShJ bits L' o2 n' (fun z => if z = Str.ofString "fits" then some (.ref D) else (fun y => if y = Str.ofString "fits" then some (.ref D1) else m y) z) nx := by
  refine ⟨[(D, LCg.lst ys), (L' + 1 + 1, o), (L' + 1, o2)], bits.length - (k + 1), fun p hp => kN p ?_, by omega, D, ys, _, o, t, k + 1, rfl, hd, kI, ⟨ho.2.2.1, ho.2.2.2, trivial⟩, rfl, hkl, ?_, _, rfl⟩
  · rcases List.mem_cons.mp hp with rfl | hp
    · exact .head _
    · exact .tail _ (.tail _ (.tail _ hp))
  · rw [← hg, hn, show bits.length - k = (bits.length - (k + 1)) + 1 by omega]
    show _ = if fitsOf bits k = [] then _ else _
    rw [if_pos (of_decide_eq_true hf)]
theorem pick13 {α : Type} {a b c d e : α} : ∀ p ∈ [a, c], p ∈ [a, b, c, d, e] := fun p hp => by
  rcases List.mem_cons.mp hp with rfl | hp
  · exact .head _
  · rw [List.mem_singleton.mp hp]; exact .tail _ (.tail _ (.head _))
theorem cut_at {prog : Program} {w : World} {A : Around} {E : Value → Shared → Prop} {s : Shared} {t : Sem Flow} {Q : Flow → Shared → Prop} {h₀ : Heap} {L : Addr} {h : Heap} {m : Str → Option Value} (_F : Fr h₀ L h m) (P : (Str → Option Value) → Flow → Shared → Prop)
    (h1 : wpAny (model prog w) A t (P m) E s) (h2 : ∀ f s', P m f s' → Q f s') : wpAny (model prog w) A t Q E s := wpAny_mono h1 h2 fun _ _ e => e
local macro_rules | `(tactic| walk_at "CompSrcT") => `(tactic| (k_here; refine at_stopK 1 ?_))
local macro_rules | `(tactic| walk_at "CompEnd") => `(tactic| (k_here; refine at_stopK 2 ?_))
local macro_rules | `(tactic| walk_at "KPfGrows") => `(tactic| (k_here; refine at_stopK 3 ?_))
local macro_rules | `(tactic| walk_at "exec Assign cons ListComp") => `(tactic| (k_here; refine at_stopK 4 ?_))
local macro_rules | `(tactic| walk_at "call ref") => `(tactic| (k_here; refine at_stopK 5 ?_))
local macro_rules | `(tactic| units_room) => `(tactic| ktr_units)
set_option maxHeartbeats 8000000 in
theorem short_told (w : World) (mean : ExcName → Option Value) (mg mb : Str → Option Value) (bits : List Int) : Tell w mean mg mb 133 6 (ShortRel bits) (ShortOut bits) := by
  unfold Tell
  k_fill
  intro dp un gd cn cs a ccd cl outer A₀ base h₀ L m hp gs dr tk os vs Q E B F X T hk hR hd hu hret
  cases hR with
  | mk hl hi hn =>
  k_dflt (refine' tell_inC ?k1 ?k2 ?k3 ?k5 ?kK ?k6 ?k7 ?k8 ?k9 ?kB ?kD ?_ ?c2 ?c3 ?c4; (case k1 => k_asm); (case k2 => k_asm); (case k3 => k_asm); (case k5 => k_asm); (case kK => assumption); (case k6 => k_is); (case k7 => k_is); (case k8 => omega); (case k9 => exact BindsTo.of_eq rfl); (case kB => exact rfl); (case kD => decide +kernel); (case c2 => exact rfl); (case c3 => exact rfl); (case c4 => exact rfl); k_whole; clear B F X T hk; intro L' h' tk' cells' F' N' Y' B' X' T'; k_cells Y'; (try simp only [List.cons_append, List.nil_append] at N'); (try dsimp only); (try k_fold))
  rename_i o1 o2 d1 d2
  replace d1 : o1.data = .cell none := d1
  replace d2 : o2.data = .cell (some (.ref _)) := d2
  iterate 5 walk1
  (rename Fr hp _ _ _ => F9)
  k_dflt (refine cut_at F9 (ShCut bits hp gs dr os L' o2) ?_ ?_)
  · repeat' (first | ((with_reducible show StopK 1 _); unfold StopK; first | ((rename GMark _ => hG'); (rename PowMark _ _ => hP'); (have hQ' := hP' (by assumption)); (have hQ1 := hQ'.1); (have hQ2 := hQ'.2.1); (have hQ3 := hQ'.2.2); clear hQ'; k_dflt (refine LCt.CompSrcT.range (by rfl) (by k_asm) (by k_asm) (by assumption) (small_one (by omega) (by omega) (by omega) (by omega)) (rangeSize_nat _ _) (by rw [PySem.sizeLine_eq]; omega) ?_; intro g'; (refine' kci_range (gOf hG') (fun k' t' I' oI' C' oC' D' m' ys' l' h' tk' E' hlo' hhi' hI' hC' hx' F' N' off' ne' => ?_) ?_ ?_); (all_goals (try clear ne')); (all_goals (try ((show KPfMark → _); intro hMark'))); kcf_last))) | ((with_reducible show StopK 2 _); unfold StopK; first | (k_dflt (first | exact LCg.CompEnd.intro (by k_asm) (by k_asm) _ (fun p hp => hp) (by first | (with_unfolding_all assumption) | (simp only [LCg.Off3, and_true]; assumption)) trivial (kci_el (if_pos (by assumption)) rfl rfl) | exact LCg.CompEnd.intro (by k_asm) (by k_asm) _ (fun p hp => hp) (by first | (with_unfolding_all assumption) | (simp only [LCg.Off3, and_true]; assumption)) trivial (kci_no (if_neg (by rw [show holdsF _ _ _ = false from by assumption]; decide)) rfl)))) | ((with_reducible show StopK 3 _); unfold StopK; first | (intro l k; dsimp only [gOf]; split <;> simp)) | ((with_reducible show StopK 4 _); unfold StopK; first | (k_dflt (refine LCt.Assign_ListComp_T (F₀ := by k_asm) (by rfl) (by with_unfolding_all rfl) (by with_unfolding_all rfl) (by decide) (by rfl) (by decide) (by rfl) (by rfl) (by rfl) ?_))) | ((with_reducible show StopK 5 _); unfold StopK; first | ( k_here; k_dflt (refine' tell_use (hold_told _ _ _ _ _ _ _) ?k1 ?k2 ?k3 ?k4 ?k5 ?kK (HoldRel.mk ?r1 ?r2 ?r3 ?r4 ?r5 ?r6 ?r7) ?kd ?ku ?_; (case k1 => k_asm); (case k2 => k_asm); (case k3 => k_asm); (case k4 => k_asm); (case k5 => k_asm); (case kK => first | exact rfl | assumption); (case r1 => is_list); (case r2 => assumption); (case r3 => assumption); (case r4 => omega); (case r5 => omega); (case r6 => omega); (case r7 => omega); (case kd => ktr_room); (case ku => ktr_units)); intro r' tl' h' tk' hO' F' N' a'; (have e1 := hO'.1); (have e2 := hO'.2); clear hO'; subst e1; subst e2; clear a'; (try simp only [List.nil_append] at N'); (try dsimp only))) | (k_unfold; (try dsimp only)) | (k_end; wrow_close) | ((with_reducible show wpAny _ _ (execs _ _) _ _ _); (try dsimp only); (try k_fold); walk1) | walk1 | (dsimp only; walk1) | (leave1; walk_say "STEP leave1"; try dsimp only))
    all_goals
      (rename (_ = Data.cell (some (Value.int _ _))) => hd9)
      (rename Fr hp _ _ _ => kF)
      (rename News hp _ _ _ => kN)
      (rename (bits.any _ = _) => ha)
    · exact ⟨rfl, _, [], _, _, _, _, _, rfl, kF, kN, hd9, by rw [fitsOf, if_pos ha]; exact .nil, by simp only [LCg.Off1, and_true]; omega⟩
    · exact ⟨rfl, _, [_], _, _, _, _, _, rfl, kF, kN, hd9, by rw [fitsOf, if_neg (by rw [ha]; decide)]; exact .cons _ _ .nil, by simp only [LCg.Off1, and_true]; omega⟩
  · rintro f s' ⟨rfl, D, us, c, o, h, tk, t, rfl, F1, N1, e1, i1, l1⟩
    (try dsimp only)
    walk1
    k_dflt (refine While_inv2 (ShJ bits L' o2) F1 N1 ⟨D, us, c, o, t, 0, rfl, e1, i1, l1, rfl, Nat.zero_le _, rfl, _, rfl⟩ ?_ ?_)
    · clear F1 N1 e1 i1 l1 F9
      rintro n m₁ nx h₁ tk₁ F₁ N₁ ⟨D₁, us₁, c₁, oz, tz, k, rfl, e₁, i₁, l₁, hn₁, hk₁, hg₁, m₂, rfl⟩
      have hP : PowMark bits k := powMark hk₁ hn
      simp only [LCg.Off1, and_true] at l₁
      have hG : GMark (fun l k9 => if holdsF (2 * k9 + 1) ((k : Int) + 1) bits = true then l ++ [2 * k9 + 1] else l) := trivial
      (try dsimp only)
      (try k_fold)
      repeat' (first | ((with_reducible show StopK 1 _); unfold StopK; first | ((rename GMark _ => hG'); (rename PowMark _ _ => hP'); (have hQ' := hP' (by assumption)); (have hQ1 := hQ'.1); (have hQ2 := hQ'.2.1); (have hQ3 := hQ'.2.2); clear hQ'; k_dflt (refine LCt.CompSrcT.range (by rfl) (by k_asm) (by k_asm) (by assumption) (small_one (by omega) (by omega) (by omega) (by omega)) (rangeSize_nat _ _) (by rw [PySem.sizeLine_eq]; omega) ?_; intro g'; (refine' kci_range (gOf hG') (fun k' t' I' oI' C' oC' D' m' ys' l' h' tk' E' hlo' hhi' hI' hC' hx' F' N' off' ne' => ?_) ?_ ?_); (all_goals (try clear ne')); (all_goals (try ((show KPfMark → _); intro hMark'))); kcf_last))) | ((with_reducible show StopK 2 _); unfold StopK; first | (k_dflt (first | exact LCg.CompEnd.intro (by k_asm) (by k_asm) _ (fun p hp => hp) (by first | (with_unfolding_all assumption) | (simp only [LCg.Off3, and_true]; assumption)) trivial (kci_el (if_pos (by assumption)) rfl rfl) | exact LCg.CompEnd.intro (by k_asm) (by k_asm) _ (fun p hp => hp) (by first | (with_unfolding_all assumption) | (simp only [LCg.Off3, and_true]; assumption)) trivial (kci_no (if_neg (by rw [show holdsF _ _ _ = false from by assumption]; decide)) rfl)))) | ((with_reducible show StopK 3 _); unfold StopK; first | (intro l k; dsimp only [gOf]; split <;> simp)) | ((with_reducible show StopK 4 _); unfold StopK; first | (k_dflt (refine LCt.Assign_ListComp_T (F₀ := by k_asm) (by rfl) (by with_unfolding_all rfl) (by with_unfolding_all rfl) (by decide) (by rfl) (by decide) (by rfl) (by rfl) (by rfl) ?_))) | ((with_reducible show StopK 5 _); unfold StopK; first | ( k_here; k_dflt (refine' tell_use (hold_told _ _ _ _ _ _ _) ?k1 ?k2 ?k3 ?k4 ?k5 ?kK (HoldRel.mk ?r1 ?r2 ?r3 ?r4 ?r5 ?r6 ?r7) ?kd ?ku ?_; (case k1 => k_asm); (case k2 => k_asm); (case k3 => k_asm); (case k4 => k_asm); (case k5 => k_asm); (case kK => first | exact rfl | assumption); (case r1 => is_list); (case r2 => assumption); (case r3 => assumption); (case r4 => omega); (case r5 => omega); (case r6 => omega); (case r7 => omega); (case kd => ktr_room); (case ku => ktr_units)); intro r' tl' h' tk' hO' F' N' a'; (have e1 := hO'.1); (have e2 := hO'.2); clear hO'; subst e1; subst e2; clear a'; (try simp only [List.nil_append] at N'); (try dsimp only))) | (k_unfold; (try dsimp only)) | (k_end; wrow_close) | ((with_reducible show wpAny _ _ (execs _ _) _ _ _); (try dsimp only); (try k_fold); walk1) | walk1 | (dsimp only; walk1) | (leave1; walk_say "STEP leave1"; try dsimp only))
      · (rename Fr hp _ _ _ => kF)
        (rename News hp _ _ _ => kN)
        (rename IntsAre _ (List.foldl _ _ _) => kI)
        (rename (_ = Data.cell (some (Value.int ((k : Int) + 1) _))) => hd9)
        (rename decide _ = true => hf)
        (rename PowMark _ _ => hP9)
        have hkl : k < bits.length := (hP9 hf).1
        rw [pow_nat] at kI
        obtain ⟨nx, n', N9, hl9, J9⟩ := sh_next kN hd9 kI (by assumption) hf hkl hn₁ hg₁
        exact ⟨_, _, _, nx, n', rfl, kF, N9, hl9, J9⟩
      · (rename Fr hp _ _ _ => kF)
        (rename News hp _ _ _ => kN)
        (rename decide _ = false => hf)
        have hs : shortGo bits bits.length 0 = k := by
          rw [← hg₁]
          cases n with
          | zero => rfl
          | succ n => exact if_neg (of_decide_eq_false hf)
        subst hs
        exact hret _ [_, _] _ _ kF.keep (made_of kN pick13) ⟨_, _, us₁, _, tz, rfl, rfl, i₁⟩
    · walk1
end Mine
end

section
theorem Mine.fresh_T_flags : True := by
  w_top off
  trivial
local macro_rules | `(tactic| walk_at "none") => `(tactic| fail)
namespace Mine
def nameAt : Nat → Str
  | 0 => Str.ofString "OPTIMIZED"
  | 1 => Str.ofString "NEWLOCALS"
  | 2 => Str.ofString "VARARGS"
  | 3 => Str.ofString "VARKEYWORDS"
  | 4 => Str.ofString "NESTED"
  | 5 => Str.ofString "GENERATOR"
  | 6 => Str.ofString "NOFREE"
  | _ => Str.ofString "COROUTINE"
/-- the places of the taps below i -/
def placesOf (f i : Nat) : List Nat := (List.range i).filter fun j => f.testBit j
def namesOf (f i : Nat) : List Str := (placesOf f i).map nameAt
/-- the taps from i on -/
def restOf (f i : Nat) : Int := ((f / 2 ^ i * 2 ^ i : Nat) : Int)
def flagText (f : Nat) : Str := Txt.join (Str.ofString ", ") (namesOf f 8)
inductive FlagRel (f : Nat) : Heap → List Value → Prop where
  | mk {b : Heap} {t1 : Tok} : 0 < f → f < 256 → FlagRel f b [.int ((f : Nat) : Int) t1]
def FlagOut (f : Nat) (tl : List (Addr × Obj)) (r : Value) : Prop := ∃ t, tl = [] ∧ r = .str (flagText f) t
def mset (m₀ : Str → Option Value) (a b c : Option Value) : Str → Option Value := fun y => if y = Str.ofString "i" then a else if y = Str.ofString "flag" then b else if y = Str.ofString "flags" then c else m₀ y
theorem mset_self (m₀ : Str → Option Value) : m₀ = mset m₀ (m₀ (Str.ofString "i")) (m₀ (Str.ofString "flag")) (m₀ (Str.ofString "flags")) := by
  funext y
  unfold mset
  by_cases h1 : y = Str.ofString "i"
  · rw [if_pos h1, h1]
  · rw [if_neg h1]
    by_cases h2 : y = Str.ofString "flag"
    · rw [if_pos h2, h2]
    · rw [if_neg h2]
      by_cases h3 : y = Str.ofString "flags"
      · rw [if_pos h3, h3]
      · rw [if_neg h3]
def FlJ (f : Nat) (D : Addr) (m₀ : Str → Option Value) (i : Nat) (m : Str → Option Value) (nx : List (Addr × Obj)) : Prop :=
  ∃ us c t a b, nx = [(D, listOf (List.toArray us) c)] ∧ StrsAre us (namesOf f i) ∧ 0 < restOf f i ∧ m = mset m₀ a b (some (.int (restOf f i) t))
theorem fl_start {f : Nat} {D : Addr} {m : Str → Option Value} {t : Tok} (h : m (Str.ofString "flags") = some (.int ((f : Nat) : Int) t)) (h0 : 0 < f) : FlJ f D m 0 m [(D, listOf #[] 0)] := by
  have e : restOf f 0 = (f : Int) := by unfold restOf; simp
  refine ⟨[], 0, t, m (Str.ofString "i"), m (Str.ofString "flag"), rfl, .nil, by rw [e]; omega, ?_⟩
  rw [e, ← h]
  exact mset_self m
theorem below8 : ∀ i : Nat, i < 8 → ∀ k : Int, k = (i : Int) → (i = 0 ∧ k = 0) ∨ (i = 1 ∧ k = 1) ∨ (i = 2 ∧ k = 2) ∨ (i = 3 ∧ k = 3) ∨ (i = 4 ∧ k = 4) ∨ (i = 5 ∧ k = 5) ∨ (i = 6 ∧ k = 6) ∨ (i = 7 ∧ k = 7)
  | 0, _, _, h => .inl ⟨rfl, h⟩
  | 1, _, _, h => .inr (.inl ⟨rfl, h⟩)
  | 2, _, _, h => .inr (.inr (.inl ⟨rfl, h⟩))
  | 3, _, _, h => .inr (.inr (.inr (.inl ⟨rfl, h⟩)))
  | 4, _, _, h => .inr (.inr (.inr (.inr (.inl ⟨rfl, h⟩))))
  | 5, _, _, h => .inr (.inr (.inr (.inr (.inr (.inl ⟨rfl, h⟩)))))
  | 6, _, _, h => .inr (.inr (.inr (.inr (.inr (.inr (.inl ⟨rfl, h⟩))))))
  | 7, _, _, h => .inr (.inr (.inr (.inr (.inr (.inr (.inr ⟨rfl, h⟩))))))
  | n + 8, hn, _, _ => absurd hn (Nat.not_lt.mpr (Nat.le_add_left 8 n))
theorem rest_lt {f i : Nat} (h1 : f < 256) (h : 0 < restOf f i) : i < 8 := by
  refine Nat.lt_of_not_le fun h8 => ?_
  have hp : 256 ≤ 2 ^ i := Nat.le_trans (by decide : 256 ≤ 2 ^ 8) (Nat.pow_le_pow_right (by decide) h8)
  have : f / 2 ^ i = 0 := Nat.div_eq_of_lt (by omega)
  unfold restOf at h
  rw [this] at h
  simp at h
theorem names_len (f i : Nat) : (namesOf f i).length ≤ i := by
  unfold namesOf placesOf
  rw [List.length_map]
  exact Nat.le_trans (List.length_filter_le _ _) (Nat.le_of_eq (List.length_range))
theorem bits_all : ∀ i, i < 8 → ∀ f, f < 256 → (Builtin.bitAnd (restOf f i) (1 * 2 ^ i) = 0 → f.testBit i = false ∧ restOf f (i + 1) = restOf f i) ∧ (Builtin.bitAnd (restOf f i) (1 * 2 ^ i) ≠ 0 → f.testBit i = true ∧ Builtin.bitXor (restOf f i) (1 * 2 ^ i) = restOf f (i + 1)) := by decide +kernel
theorem places_all : ∀ i, i < 8 → ∀ f, f < 256 → restOf f (i + 1) = 0 → placesOf f 8 = placesOf f (i + 1) := by decide +kernel
theorem names_yes {f i : Nat} (h : f.testBit i = true) : namesOf f (i + 1) = namesOf f i ++ [nameAt i] := by
  unfold namesOf placesOf
  rw [List.range_succ, List.filter_append, List.map_append]
  simp [h]
theorem names_no {f i : Nat} (h : f.testBit i = false) : namesOf f (i + 1) = namesOf f i := by
  unfold namesOf placesOf
  rw [List.range_succ, List.filter_append, List.map_append]
  simp [h]
theorem rest_nonneg (f i : Nat) : 0 ≤ restOf f i := by unfold restOf; omega
section
variable {f : Nat} {D : Addr} {m₀ : Str → Option Value} {us : List Value} {c' : Nat} {x : Str} {t t' t3 : Tok} {a b c2 A B : Option Value}
theorem strs_push (hs : StrsAre us (namesOf f i)) (h : f.testBit i = true) (e : x = nameAt i) : StrsAre (us ++ [.str x t']) (namesOf f (i + 1)) := by
  rw [names_yes h, ← e]
  exact KStt.strs_snoc hs
theorem mset_yes {F : Option Value} : (fun y => if y = Str.ofString "flags" then F else if y = Str.ofString "flag" then B else if y = Str.ofString "i" then A else mset m₀ a b c2 y) = mset m₀ A B F := by
  have e1 : Str.ofString "i" ≠ Str.ofString "flags" := by decide
  have e2 : Str.ofString "i" ≠ Str.ofString "flag" := by decide
  have e3 : Str.ofString "flag" ≠ Str.ofString "flags" := by decide
  funext y
  unfold mset
  by_cases h1 : y = Str.ofString "i"
  · rw [h1, if_neg e1, if_neg e2, if_pos rfl, if_pos rfl]
  · rw [if_neg h1, if_neg h1, if_neg h1]
    by_cases h2 : y = Str.ofString "flag"
    · rw [h2, if_neg e3, if_pos rfl, if_pos rfl]
    · rw [if_neg h2, if_neg h2, if_neg h2]
      by_cases h3 : y = Str.ofString "flags"
      · rw [if_pos h3, if_pos h3]
      · rw [if_neg h3, if_neg h3, if_neg h3]
theorem mset_no : (fun y => if y = Str.ofString "flag" then B else if y = Str.ofString "i" then A else mset m₀ a b c2 y) = mset m₀ A B c2 := by
  have e2 : Str.ofString "i" ≠ Str.ofString "flag" := by decide
  funext y
  unfold mset
  by_cases h1 : y = Str.ofString "i"
  · rw [h1, if_neg e2, if_pos rfl, if_pos rfl]
  · rw [if_neg h1, if_neg h1, if_neg h1]
    by_cases h2 : y = Str.ofString "flag"
    · rw [if_pos h2, if_pos h2]
    · rw [if_neg h2, if_neg h2, if_neg h2]
theorem fl_yes (i : Nat) (hi : i < 8) (hf : f < 256) (hs : StrsAre us (namesOf f i)) (hb : Builtin.bitAnd (restOf f i) (1 * 2 ^ i) ≠ 0) (hx : Builtin.bitXor (restOf f i) (1 * 2 ^ i) ≠ 0) (e : x = nameAt i) :
    FlJ f D m₀ (i + 1) (fun y => if y = Str.ofString "flags" then some (.int (Builtin.bitXor (restOf f i) (1 * 2 ^ i)) t3) else if y = Str.ofString "flag" then B else if y = Str.ofString "i" then A else mset m₀ a b c2 y) [(D, listOf (us.toArray.push (.str x t')) c')] := by
  obtain ⟨h1, h2⟩ := (bits_all i hi f hf).2 hb
  rw [h2] at hx ⊢
  refine ⟨us ++ [.str x t'], c', t3, A, B, by rw [List.push_toArray], strs_push hs h1 e, by have := rest_nonneg f (i + 1); omega, ?_⟩
  exact mset_yes
theorem fl_no (i : Nat) (hi : i < 8) (hf : f < 256) (hs : StrsAre us (namesOf f i)) (hb : Builtin.bitAnd (restOf f i) (1 * 2 ^ i) = 0) (hp : 0 < restOf f i) :
    FlJ f D m₀ (i + 1) (fun y => if y = Str.ofString "flag" then B else if y = Str.ofString "i" then A else mset m₀ a b (some (.int (restOf f i) t)) y) [(D, listOf us.toArray c')] := by
  obtain ⟨h1, h2⟩ := (bits_all i hi f hf).1 hb
  refine ⟨us, c', t, A, B, rfl, by rw [names_no h1]; exact hs, by rw [h2]; exact hp, ?_⟩
  rw [h2]
  exact mset_no
theorem fl_brk (i : Nat) (hi : i < 8) (hf : f < 256) (hs : StrsAre us (namesOf f i)) (hb : Builtin.bitAnd (restOf f i) (1 * 2 ^ i) ≠ 0) (hx : Builtin.bitXor (restOf f i) (1 * 2 ^ i) = 0) (e : x = nameAt i) :
    StrsAre (us ++ [.str x t']) (namesOf f 8) := by
  obtain ⟨h1, h2⟩ := (bits_all i hi f hf).2 hb
  rw [h2] at hx
  have := strs_push (t' := t') hs h1 e
  unfold namesOf at this ⊢
  rw [places_all i hi f hf hx]
  exact this
end
theorem at_self {m : Str → Option Value} {x : Str} {v : Option Value} (h : m x = v) : m = fun y => if y = x then v else m y := by
  funext y
  by_cases hy : y = x
  · rw [if_pos hy, hy, h]
  · rw [if_neg hy]
def FlCut (f : Nat) (hp : Heap) (gs : Array GenState) (dr : Drawn) (os : OsState) (L' D : Addr) (fl : Flow) (s' : Shared) : Prop :=
  fl = .next ∧ ∃ us c h tk, ∃ m : Str → Option Value, s' = ⟨h, gs, dr, tk, os⟩ ∧ Fr hp L' h (fun y => if y = Str.ofString "names" then some (.ref D) else m y) ∧ News hp L' h [(D, listOf (List.toArray us) c)] ∧ StrsAre us (namesOf f 8)
theorem fl_cut {f : Nat} {hp : Heap} {gs : Array GenState} {dr : Drawn} {os : OsState} {L' D : Addr} {us : List Value} {v : Value} {c : Nat} {h : Heap} {tk : Nat} {m : Str → Option Value} {own : List (Addr × Obj)}
    (F : Fr hp L' h m) (N : News hp L' h ((D, listOf (us.toArray.push v) c) :: own)) (hm : m (Str.ofString "names") = some (.ref D)) (hs : StrsAre (us ++ [v]) (namesOf f 8)) : FlCut f hp gs dr os L' D .next ⟨h, gs, dr, tk, os⟩ :=
  ⟨rfl, us ++ [v], c, h, tk, m, rfl, at_self hm ▸ F, fun p hp => by rw [List.mem_singleton.mp hp, ← List.push_toArray]; exact N _ (.head _), hs⟩
theorem fl_end {f : Nat} {hp : Heap} {gs : Array GenState} {dr : Drawn} {os : OsState} {L' D : Addr} {us : List Value} {x : Str} {t' : Tok} {c : Nat} {h : Heap} {tk : Nat} {m : Str → Option Value} {own : List (Addr × Obj)} (i : Nat)
    (F : Fr hp L' h m) (N : News hp L' h ((D, listOf (us.toArray.push (.str x t')) c) :: own)) (hm : m (Str.ofString "names") = some (.ref D)) (hi : i < 8) (hf : f < 256) (hs : StrsAre us (namesOf f i)) (hb : Builtin.bitAnd (restOf f i) (1 * 2 ^ i) ≠ 0) (hx : Builtin.bitXor (restOf f i) (1 * 2 ^ i) = 0) (e : x = nameAt i) : FlCut f hp gs dr os L' D .next ⟨h, gs, dr, tk, os⟩ :=
  fl_cut F N hm (fl_brk i hi hf hs hb hx e)
theorem fl_yesE {f : Nat} {hp h' : Heap} {L' D : Addr} {m₀ : Str → Option Value} {us : List Value} {c' : Nat} {x : Str} {t' t3 : Tok} {a b c2 A B : Option Value} {own : List (Addr × Obj)} {s₁ : Shared} {tk : Nat} (i : Nat)
    (F : Fr hp L' h' (fun y => if y = Str.ofString "flags" then some (.int (Builtin.bitXor (restOf f i) (1 * 2 ^ i)) t3) else if y = Str.ofString "flag" then B else if y = Str.ofString "i" then A else mset m₀ a b c2 y))
    (N : News hp L' h' ((D, listOf (us.toArray.push (.str x t')) c') :: own)) (hi : i < 8) (hf : f < 256) (hs : StrsAre us (namesOf f i)) (hb : Builtin.bitAnd (restOf f i) (1 * 2 ^ i) ≠ 0) (hx : Builtin.bitXor (restOf f i) (1 * 2 ^ i) ≠ 0) (e : x = nameAt i) :
    InvEndN hp L' (FlJ f D m₀ (i + 1)) own [D] s₁ { s₁ with heap := h', toks := tk } :=
  InvEndN.intro F N (fl_yes i hi hf hs hb hx e) rfl (fun p hp => by rw [List.mem_singleton.mp hp]; exact .head _) fun p hp => .tail _ hp
theorem cut_led {prog : Program} {w : World} {A : Around} {E : Value → Shared → Prop} {s : Shared} {t : Sem Flow} {Q : Flow → Shared → Prop} {h₀ : Heap} {L D : Addr} {h : Heap} {o : Obj} {r : List (Addr × Obj)} (_N : News h₀ L h ((D, o) :: r)) (P : Addr → Flow → Shared → Prop)
    (h1 : wpAny (model prog w) A t (P D) E s) (h2 : ∀ f s', P D f s' → Q f s') : wpAny (model prog w) A t Q E s := wpAny_mono h1 h2 fun _ _ e => e
theorem len_text : ∀ f, f < 256 → ((namesOf f 8).map (·.length)).sum + (namesOf f 8).length ≤ 1048576 := by decide +kernel
theorem get_cut {M : Model} {A : Around} {t : Sem Value} {E : Value → Shared → Prop} {s : Shared} {Q : Value → Shared → Prop} (i : Nat) (h : wpAny M A t (fun v s' => ∃ u tk, v = .str (nameAt i) u ∧ s' = { s with toks := tk }) E s) (k : ∀ u tk, Q (.str (nameAt i) u) { s with toks := tk }) : wpAny M A t Q E s :=
  wpAny_mono h (fun v s' q => by
    obtain ⟨u, tk, e1, e2⟩ := q
    subst e1
    subst e2
    exact k u tk) fun _ _ e => e
theorem shl_one {prog : Program} {w : World} {A : Around} {E : Value → Shared → Prop} {s : Shared} {Q : Value → Shared → Prop} {t u : Tok} {i : Nat} (hi : i < 8) (h : Q (.int (1 * 2 ^ i) s.toks) { s with toks := s.toks + 1 }) : wpAny (model prog w) A (binaryOp .LShift (.int 1 t) (.int ((i : Nat) : Int) u)) Q E s :=
  lshift_int_small (by omega) (by omega) (by decide) (by rw [Int.toNat_natCast]; exact h)
theorem hex_short : ∀ i, i < 8 → (baseText "0x" 16 (1 * 2 ^ i)).length ≤ 100 := by decide +kernel
theorem hex_fits {i : Nat} (hi : i < 8) : (baseText "0x" 16 (1 * 2 ^ i)).length ≤ sizeLine := Nat.le_trans (hex_short i hi) (by rw [PySem.sizeLine_eq]; decide)
local macro_rules | `(tactic| walk_at "binaryOp LShift int int") => `(tactic| (k_here; refine at_stopK 1 ?_))
local macro_rules | `(tactic| walk_at "call builtin:hex") => `(tactic| (k_here; refine at_stopK 2 ?_))
local macro_rules | `(tactic| walk_at "call builtin:dict.get") => `(tactic| (k_here; (rename StopHere => hsm'); refine at_stopK 3 ?_))
local macro_rules | `(tactic| walk_at "call builtin:str.join") => `(tactic| (k_here; refine at_stopK 4 ?_))
local macro_rules | `(tactic| walk_at "call builtin:list.append") => `(tactic| (k_here; refine at_stopK 5 ?_))
set_option maxHeartbeats 8000000 in
theorem flag_told (w : World) (mean : ExcName → Option Value) (mg mb : Str → Option Value) (f : Nat) : Tell w mean mg mb 36 4 (FlagRel f) (FlagOut f) := by
  unfold Tell
  k_fill
  intro dp un gd cn cs a ccd cl outer A₀ base h₀ L m hp gs dr tk os vs Q E B F X T hk hR hd hu hret
  cases hR with
  | mk h0 h1 =>
  k_dflt (refine' tell_in ?k1 ?k2 ?k3 ?k5 ?kK ?k6 ?k7 ?k8 ?k9 ?kB ?_ ?c5 ?c2 ?c3 ?c4; (case k1 => k_asm); (case k2 => k_asm); (case k3 => k_asm); (case k5 => k_asm); (case kK => assumption); (case k6 => k_is); (case k7 => k_is); (case k8 => omega); (case k9 => exact BindsTo.of_eq rfl); (case kB => exact locs rfl); (case c5 => decide); (case c2 => exact rfl); (case c3 => exact rfl); (case c4 => exact rfl); k_whole; clear B F X T hk; intro L' h' tk' F' N' B' X' T'; (try dsimp only); (try k_fold))
  iterate 8 walk1
  (rename Fr hp _ _ _ => F9)
  (rename News hp _ _ _ => N9)
  k_dflt (refine cut_led N9 (FlCut f hp gs dr os L') ?_ ?_)
  k_dflt (refine' For_go F9 ?_ (fun _ _ => rfl) (fun _ => rfl) ?_)
  · iterate 6 walk1
    refine go_range1 (FlJ f _) rfl F9 N9 (by omega) (by omega) (fl_start (by rfl) h0) ?_ ?_
    · rintro i k t m₁ nx h tk own hi hk ha ho ⟨us, c, t2, a, b, rfl, hs, hpos, rfl⟩ F₁ N₁
      have hi8 : i < 8 := rest_lt h1 hpos
      simp only [List.cons_append, List.nil_append] at N₁
      clear F9 N9
      simp only [List.map_cons, List.map_nil] at ho
      have hlen : us.length ≤ 8 := by have := names_len f i; rw [hs.length]; omega
      subst hk
      have hgm : StopHere := trivial
      (try dsimp only)
      (try k_fold)
      repeat' (first | ((with_reducible show StopK 1 _); unfold StopK; first | (refine shl_one hi8 ?_)) | ((with_reducible show StopK 2 _); unfold StopK; first | (k_dflt (refine PySem.P.hex_of_int ?_ (hex_fits hi8)))) | ((with_reducible show StopK 3 _); unfold StopK; first | (refine get_cut i ?_ ?_; (focus (rcases below8 i hi8 _ rfl with ⟨rfl, _⟩ | ⟨rfl, _⟩ | ⟨rfl, _⟩ | ⟨rfl, _⟩ | ⟨rfl, _⟩ | ⟨rfl, _⟩ | ⟨rfl, _⟩ | ⟨rfl, _⟩ <;> ((rename StopHere => hgm); clear hgm; k_steps; all_goals (refine ⟨_, _, congrArg (Value.str · _) ?_, rfl⟩; decide +kernel)))); intro u9 tk9)) | ((with_reducible show StopK 4 _); unfold StopK; first | ((rename StrsAre _ (namesOf _ 8) => hS'); (rename _ < 256 => hL'); k_dflt (refine join_listW (by is_list) hS' (by decide +kernel) (len_text _ hL') ?_); intro _ _)) | ((with_reducible show StopK 5 _); unfold StopK; first | ((with_reducible show wpAny _ _ (call (Value.builtin _) [Value.ref _, _]) _ _ _); k_dflt (refine' append_K ?k1 ?k2 ?k3 ?_ ?z; (case k1 => k_asm); (case k2 => k_asm); (case k3 => k_upd); (case z => (simp only [List.size_toArray, PySem.sizeLine_eq]; omega)); k_whole); intro h' F' N'; (try k_sweep))) | (k_unfold; (try dsimp only)) | (k_end; wrow_close) | ((with_reducible show wpAny _ _ (execs _ _) _ _ _); (try dsimp only); (try k_fold); walk1) | walk1 | (dsimp only; walk1) | (leave1; walk_say "STEP leave1"; try dsimp only))
      all_goals
        (rename Fr hp _ _ _ => kF)
        (rename News hp _ _ _ => kN)
      · (rename Builtin.bitXor _ _ ≠ _ => hx)
        (rename Builtin.bitAnd _ _ ≠ _ => hb)
        exact fl_yesE i kF kN hi8 h1 hs hb hx rfl
      · (rename Builtin.bitXor _ _ = _ => hx)
        (rename Builtin.bitAnd _ _ ≠ _ => hb)
        exact fl_end i kF kN rfl hi8 h1 hs hb hx rfl
      · (rename Builtin.bitAnd _ _ = _ => hb)
        exact InvEndN.intro kF kN (fl_no i hi8 h1 hs hb hpos) rfl (by with_unfolding_all k_allIn) (by intro p hp; k_ownIn)
    · rintro m₁ nx h tk ⟨us, c, t2, a, b, rfl, hs, hpos, rfl⟩ ha F₁ N₁
      exact absurd (rest_lt h1 hpos) (by decide)
  · walk1
  · rintro fl s' ⟨rfl, us, c, h, tk, m, rfl, F1, N1, hs⟩
    clear F9 N9
    (try dsimp only)
    repeat' (first | ((with_reducible show StopK 1 _); unfold StopK; first | (refine shl_one hi8 ?_)) | ((with_reducible show StopK 2 _); unfold StopK; first | (k_dflt (refine PySem.P.hex_of_int ?_ (hex_fits hi8)))) | ((with_reducible show StopK 3 _); unfold StopK; first | (refine get_cut i ?_ ?_; (focus (rcases below8 i hi8 _ rfl with ⟨rfl, _⟩ | ⟨rfl, _⟩ | ⟨rfl, _⟩ | ⟨rfl, _⟩ | ⟨rfl, _⟩ | ⟨rfl, _⟩ | ⟨rfl, _⟩ | ⟨rfl, _⟩ <;> ((rename StopHere => hgm); clear hgm; k_steps; all_goals (refine ⟨_, _, congrArg (Value.str · _) ?_, rfl⟩; decide +kernel)))); intro u9 tk9)) | ((with_reducible show StopK 4 _); unfold StopK; first | ((rename StrsAre _ (namesOf _ 8) => hS'); (rename _ < 256 => hL'); k_dflt (refine join_listW (by is_list) hS' (by decide +kernel) (len_text _ hL') ?_); intro _ _)) | ((with_reducible show StopK 5 _); unfold StopK; first | ((with_reducible show wpAny _ _ (call (Value.builtin _) [Value.ref _, _]) _ _ _); k_dflt (refine' append_K ?k1 ?k2 ?k3 ?_ ?z; (case k1 => k_asm); (case k2 => k_asm); (case k3 => k_upd); (case z => (simp only [List.size_toArray, PySem.sizeLine_eq]; omega)); k_whole); intro h' F' N'; (try k_sweep))) | (k_unfold; (try dsimp only)) | (k_end; wrow_close) | ((with_reducible show wpAny _ _ (execs _ _) _ _ _); (try dsimp only); (try k_fold); walk1) | walk1 | (dsimp only; walk1) | (leave1; walk_say "STEP leave1"; try dsimp only))
    (rename Fr hp _ _ _ => kF)
    exact hret _ [] _ _ kF.keep made_nil ⟨_, rfl, rfl⟩
end Mine
end

section
theorem Mine.fresh_T_bm : True := by
  w_top off
  trivial
namespace Mine
/-- all rows of n bits -/
def rowsOf : Nat → List (List Bool)
  | 0 => [[]]
  | n + 1 => (rowsOf n).flatMap fun r => [false :: r, true :: r]
theorem rows_mem : ∀ bits : List Bool, bits ∈ rowsOf bits.length
  | [] => .head _
  | b :: r => by
    refine List.mem_flatMap.mpr ⟨r, rows_mem r, ?_⟩
    cases b
    · exact .head _
    · exact .tail _ (.head _)
/-- taps, kept, size, gap -/
structure Bm where
  taps : Nat
  kept : Nat
  size : Nat
  gap : Nat
def litAt (bits : List Bool) (n j : Nat) : Bool := bits.getD (n - j) false
def oddCount (bits : List Bool) (n taps : Nat) : Nat := ((placesOf taps 8).filter (litAt bits n)).length
/-- exclusive or -/
def xorN (a b : Nat) : Nat := (a ||| b) - (a &&& b)
def bmStep (bits : List Bool) (n : Nat) (s : Bm) : Bm :=
  if oddCount bits n s.taps % 2 = 0 then ⟨s.taps, s.kept, s.size, s.gap + 1⟩
  else if 2 * s.size ≤ n then ⟨xorN s.taps (s.kept <<< s.gap), s.taps, n + 1 - s.size, 1⟩
  else ⟨xorN s.taps (s.kept <<< s.gap), s.kept, s.size, s.gap + 1⟩
def bmAt (bits : List Bool) : Nat → Bm
  | 0 => ⟨1, 1, 0, 1⟩
  | n + 1 => bmStep bits n (bmAt bits n)
def bmFine (bits : List Bool) (n : Nat) : Bool := (bmAt bits n).taps.blt 256 && Nat.blt 0 (bmAt bits n).taps && (bmAt bits n).taps.blt (2 ^ (n + 1)) && (bmAt bits n).kept.blt 256 && (bmAt bits n).size.ble n && (bmAt bits n).gap.ble 8
theorem bm_all : ∀ bits ∈ rowsOf 7, ∀ n, n < 8 → bmFine bits n = true := by decide +kernel
theorem bm_fine {bits : List Bool} (h : bits.length = 7) {n : Nat} (hn : n < 8) : (bmAt bits n).taps < 256 ∧ 0 < (bmAt bits n).taps ∧ (bmAt bits n).taps < 2 ^ (n + 1) ∧ (bmAt bits n).kept < 256 ∧ (bmAt bits n).size ≤ n ∧ (bmAt bits n).gap ≤ 8 := by
  have h1 := bm_all bits (h ▸ rows_mem bits) n hn
  simp only [bmFine, Bool.and_eq_true, Nat.blt_eq, Nat.ble_eq] at h1
  omega
/-- the law's numbers of the steps -/
def bitInts (bits : List Bool) : List Int := bits.map fun b => if b = true then 1 else 0
def bmGood (bits : List Bool) (n : Nat) : Bool :=
  let s := bmAt bits n
  let pre := bitInts (bits.take n)
  let k := shortGo pre pre.length 0
  (s.size == k) && ((fitsOf pre k).length == 2 ^ (2 * k - n)) && (fitsOf pre k).contains (s.taps : Int)
theorem bm_few : ∀ n, n < 7 → ∀ pre ∈ rowsOf n, (n == 0 || bmGood pre n) = true := by decide +kernel
theorem bm_row0 : ∀ r ∈ rowsOf 5, bmGood (false :: false :: r) 7 = true := by decide +kernel
theorem bm_row1 : ∀ r ∈ rowsOf 5, bmGood (false :: true :: r) 7 = true := by decide +kernel
theorem bm_row2 : ∀ r ∈ rowsOf 5, bmGood (true :: false :: r) 7 = true := by decide +kernel
theorem bm_row3 : ∀ r ∈ rowsOf 5, bmGood (true :: true :: r) 7 = true := by decide +kernel
theorem bm_seven : ∀ pre ∈ rowsOf 7, bmGood pre 7 = true := by
  intro pre hp
  obtain ⟨r1, h1, h2⟩ := List.mem_flatMap.mp hp
  obtain ⟨r, h3, h4⟩ := List.mem_flatMap.mp h1
  simp only [List.mem_cons, List.not_mem_nil, or_false] at h2 h4
  rcases h2 with rfl | rfl <;> rcases h4 with rfl | rfl
  · exact bm_row0 r h3
  · exact bm_row1 r h3
  · exact bm_row2 r h3
  · exact bm_row3 r h3
theorem bm_all2 : ∀ n, n < 8 → ∀ pre ∈ rowsOf n, (n == 0 || bmGood pre n) = true := by
  intro n hn pre hp
  rcases Nat.lt_or_ge n 7 with h | h
  · exact bm_few n h pre hp
  · have e : n = 7 := by omega
    subst e
    exact bm_seven pre hp
theorem lit_take {bits : List Bool} {N n j : Nat} (h : n < N) : litAt (bits.take N) n j = litAt bits n j := by
  unfold litAt
  rw [List.getD_eq_getElem?_getD, List.getD_eq_getElem?_getD, List.getElem?_take_of_lt (by omega)]
theorem bm_take {bits : List Bool} {N : Nat} : ∀ n, n ≤ N → bmAt (bits.take N) n = bmAt bits n
  | 0, _ => rfl
  | n + 1, h => by
    show bmStep (bits.take N) n (bmAt (bits.take N) n) = bmStep bits n (bmAt bits n)
    rw [bm_take n (by omega)]
    have e : ∀ t, oddCount (bits.take N) n t = oddCount bits n t := fun t => by
      unfold oddCount
      rw [show litAt (bits.take N) n = litAt bits n from funext fun j => lit_take (by omega)]
    unfold bmStep
    rw [e]
theorem bm_law {bits : List Bool} (h : bits.length = 7) {n : Nat} (h1 : 1 ≤ n) (h2 : n ≤ 7) :
    (bmAt bits n).size = shortGo (bitInts (bits.take n)) n 0 ∧ (fitsOf (bitInts (bits.take n)) (shortGo (bitInts (bits.take n)) n 0)).length = 2 ^ (2 * (bmAt bits n).size - n) ∧ (((bmAt bits n).taps : Nat) : Int) ∈ fitsOf (bitInts (bits.take n)) (shortGo (bitInts (bits.take n)) n 0) := by
  have hl : (bits.take n).length = n := by rw [List.length_take]; omega
  have hm : bits.take n ∈ rowsOf n := by
    have h3 := rows_mem (bits.take n)
    rwa [hl] at h3
  have h0 := bm_all2 n (by omega) _ hm
  rw [Bool.or_eq_true] at h0
  rcases h0 with h0 | h0
  · rw [beq_iff_eq] at h0; omega
  · unfold bmGood at h0
    simp only [List.take_take, Nat.min_self, bm_take n (Nat.le_refl n), Bool.and_eq_true, beq_iff_eq] at h0
    have hb : (bitInts (bits.take n)).length = n := by unfold bitInts; rw [List.length_map, hl]
    rw [hb] at h0
    obtain ⟨⟨e1, e2⟩, e3⟩ := h0
    refine ⟨e1, by rw [e2, e1], List.contains_iff_mem.mp e3⟩
/-- the lit taps among the first k -/
def litCount (bits : List Bool) (n taps k : Nat) : Nat := (((placesOf taps 8).take k).filter (litAt bits n)).length
theorem lit_next {bits : List Bool} {n taps k j : Nat} (h : (placesOf taps 8)[k]? = some j) : litCount bits n taps (k + 1) = litCount bits n taps k + if litAt bits n j = true then 1 else 0 := by
  unfold litCount
  rw [List.take_add_one, h, List.filter_append, List.length_append]
  congr 1
  show ([j].filter (litAt bits n)).length = _
  cases hb : litAt bits n j <;> simp [hb]
theorem lit_all {bits : List Bool} {n taps : Nat} : litCount bits n taps (placesOf taps 8).length = oddCount bits n taps := by
  unfold litCount oddCount
  rw [List.take_length]
theorem lit_le {bits : List Bool} {n taps k : Nat} : litCount bits n taps k ≤ 8 := by
  unfold litCount
  refine Nat.le_trans (List.length_filter_le _ _) ?_
  rw [List.length_take]
  have : (placesOf taps 8).length ≤ 8 := by
    unfold placesOf
    exact Nat.le_trans (List.length_filter_le _ _) (Nat.le_of_eq (List.length_range))
  omega
end Mine
end

section
theorem Mine.fresh_T_gostr : True := by
  w_top off
  trivial
namespace Mine
section
variable {prog : Program} {w : World} {A : Around} {env : Env} {h₀ : Heap} {target : Expr} {body orelse : List Stmt} {Q : Flow → Shared → Prop} {E : Value → Shared → Prop} {s : Shared}
/-- over a text's signs -/
theorem go_str {x : Str} {tx : Tok} {m : Str → Option Value} {news : List (Addr × Obj)} (J : Nat → (Str → Option Value) → List (Addr × Obj) → Prop)
    (hh : A.handled = none) (F : Fr h₀ env.locals s.heap m) (N : News h₀ env.locals s.heap news) (hj : J 0 m news)
    (turn : ∀ i c t m₁ nx h tk own, x.cps.toList[i]? = some c → nx.map (·.1) = news.map (·.1) → OwnOff own (news.map (·.1)) → J i m₁ nx → Fr h₀ env.locals h m₁ → News h₀ env.locals h (nx ++ own) →
      wpAny (model prog w) A (assign target env (.str ⟨#[c]⟩ t)) (fun _ s₂ => wpAny (model prog w) A (execs body env) (InvPostN h₀ env.locals (J (i + 1)) own (news.map (·.1)) { s with heap := h, toks := tk } Q) E s₂) E { s with heap := h, toks := tk })
    (done : ∀ m₁ nx h tk, J x.cps.size m₁ nx → nx.map (·.1) = news.map (·.1) → Fr h₀ env.locals h m₁ → News h₀ env.locals h nx → wpAny (model prog w) A (execs orelse env) Q E { s with heap := h, toks := tk }) :
    wpAny (model prog w) A (pyIter (.str x tx)) (fun it s₂ => GoAt prog w A h₀ env target body orelse Q E it s₂) E s := by
  refine wpAny_pyIter_str fun o St hW hst => ?_
  refine ⟨_, _, _, x.cps.size, _, _, m, news, J, rfl, hW A hh, fun hm => ?_, fun b hb => ?_, fun p hp hI => ?_, fun q hq hI => ?_, hst, F.push _, fun p hp => ⟨Heap.get?_push_of_some _ (N p hp).1, (N p hp).2⟩, hj, ?_, done⟩
  · exact absurd F.ns.lt ((List.mem_singleton.mp hm) ▸ Nat.lt_irrefl _)
  · rw [List.mem_singleton.mp hb]
    exact next_is_new F
  · exact absurd (Heap.lt_size (N p hp).1) ((List.mem_singleton.mp hI) ▸ Nat.lt_irrefl _)
  · exact absurd (Heap.lt_size (N q hq).1) ((List.mem_singleton.mp hI) ▸ Nat.lt_irrefl _)
  · rintro i v m₁ nx h tk own hi ⟨c, t, hc, rfl⟩ ha ho hJ F₁ N₁
    exact turn i c t m₁ nx h tk own (by simpa using hc) ha ho hJ F₁ N₁
theorem go_str2 {x : Str} {tx : Tok} {m : Str → Option Value} {news : List (Addr × Obj)} (J : (Str → Option Value) → Nat → (Str → Option Value) → List (Addr × Obj) → Prop)
    (hh : A.handled = none) (F : Fr h₀ env.locals s.heap m) (N : News h₀ env.locals s.heap news) (hj : J m 0 m news)
    (turn : ∀ i c t m₁ nx h tk own, x.cps.toList[i]? = some c → nx.map (·.1) = news.map (·.1) → OwnOff own (news.map (·.1)) → J m i m₁ nx → Fr h₀ env.locals h m₁ → News h₀ env.locals h (nx ++ own) →
      wpAny (model prog w) A (assign target env (.str ⟨#[c]⟩ t)) (fun _ s₂ => wpAny (model prog w) A (execs body env) (InvPostN h₀ env.locals (J m (i + 1)) own (news.map (·.1)) { s with heap := h, toks := tk } Q) E s₂) E { s with heap := h, toks := tk })
    (done : ∀ m₁ nx h tk, J m x.cps.size m₁ nx → nx.map (·.1) = news.map (·.1) → Fr h₀ env.locals h m₁ → News h₀ env.locals h nx → wpAny (model prog w) A (execs orelse env) Q E { s with heap := h, toks := tk }) :
    wpAny (model prog w) A (pyIter (.str x tx)) (fun it s₂ => GoAt prog w A h₀ env target body orelse Q E it s₂) E s := go_str (J m) hh F N hj turn done
end
/-- where a walk is to stop -/
def Stop2 (P : Prop) : Prop := P
theorem at_stop2 {P : Prop} (h : Stop2 P) : P := h
def StopMark : Prop := True
end Mine
end

section
theorem Mine.fresh_T_pair : True := by
  w_top off
  trivial
namespace Mine
section
variable {prog : Program} {w : World} {A : Around} {env : Env} {h₀ : Heap} {body : List Stmt} {Q : Flow → Shared → Prop} {E : Value → Shared → Prop} {s : Shared} {xi xc : Str}
/-- a loop's turns over pairs: an invariant over the frame's map and the ledger, whose addresses stay -/
def PairN (prog : Program) (w : World) (A : Around) (h₀ : Heap) (env : Env) (xi xc : Str) (body : List Stmt) (Q : Flow → Shared → Prop) (E : Value → Shared → Prop) (it : Value) (s : Shared) : Prop :=
  ∃ (I : Addr) (fp wr : List Addr) (n : Nat) (Pt : Nat → Array Value → Prop) (St : Nat → Heap → Prop) (Mid : Nat → Addr → Heap → Prop) (P2 : Nat → Value → Value → Prop) (m : Str → Option Value) (news : List (Addr × Obj))
    (J : Nat → (Str → Option Value) → List (Addr × Obj) → Prop),
    it = .ref I ∧ WalksT prog w A I fp wr n Pt St Mid ∧ (∀ i vals, Pt i vals → ∃ v0 v1, vals = #[v0, v1] ∧ P2 i v0 v1) ∧ env.locals ∉ fp ∧ (∀ b ∈ wr, h₀.get? b = none) ∧ (∀ p ∈ news, p.1 ∉ wr) ∧ (∀ q ∈ news, q.1 ∈ fp → ∀ i m₁ nx, J i m₁ nx → q ∈ nx) ∧ St 0 s.heap ∧
    Fr h₀ env.locals s.heap m ∧ News h₀ env.locals s.heap news ∧ J 0 m news ∧
    (∀ i v0 v1 m₁ nx h tk own, i < n → P2 i v0 v1 → nx.map (·.1) = news.map (·.1) → OwnOff own (news.map (·.1)) → J i m₁ nx →
      Fr h₀ env.locals h (fun y => if y = xc then some v1 else if y = xi then some v0 else m₁ y) → News h₀ env.locals h (nx ++ own) →
      wpAny (model prog w) A (execs body env) (InvPostN h₀ env.locals (J (i + 1)) own (news.map (·.1)) { s with heap := h, toks := tk } Q) E { s with heap := h, toks := tk }) ∧
    (∀ m₁ nx h tk, J n m₁ nx → nx.map (·.1) = news.map (·.1) → Fr h₀ env.locals h m₁ → News h₀ env.locals h nx → Q .next { s with heap := h, toks := tk })
theorem For_pairN {pk pv pt pos : Pos} {x1 : Nat} {iter : Expr} {m₀ : Str → Option Value} (_F : Fr h₀ env.locals s.heap m₀) (hh : A.handled = none)
    (hxi : env.kindOf xi = some .local) (hxc : env.kindOf xc = some .local)
    (hp : (env.scope.kind == .class || (env.scope.kind == .module && env.locals != env.globals)) = false)
    (h : wpAny (model prog w) A (eval iter env) (fun xv s₁ => wpAny (model prog w) A (pyIter xv) (fun it s₂ => PairN prog w A h₀ env xi xc body Q E it s₂) E s₁) E s)
    (hs : ∀ x, foldedSetIterable iter env x = pure x) (hE : PassesOwn (model prog w) A env E) :
    wpAny (model prog w) A (exec (.For (.Tuple [.Name xi pk, .Name xc pv] x1 pt) iter body [] pos) env) Q E s := by
  refine For_pair3 h₀ hh hxi hxc hp (wpAny_mono h (fun xv s₁ h₁ => wpAny_mono h₁ (fun it s₂ h₂ => ?_) fun _ _ e => e) fun _ _ e => e) hs hE
  obtain ⟨I, fp, wr, n, Pt, St, Mid, P2, m, news, J, e0, W, h2, hLf, hwr, hnw, hfp, hst, F, N, h0, turn, done⟩ := h₂
  refine ⟨I, fp, wr, n, Pt, St, Mid, P2, m, news, J, e0, W, h2, hLf, hwr, hnw, hst, F, N, h0, ?_, fun h' tk m' news' F' N' ha hJ => done m' news' h' tk hJ ha F' N'⟩
  rintro i v0 v1 m₁ nx s₁ own ⟨h, tk, rfl⟩ hi hP hJ ha hsub F₁ N₁
  let own' := own.filter fun p => !(news.map (·.1)).contains p.1
  have hsep : OwnOff own' (news.map (·.1)) := fun p hp b hb e => by
    have h1 := (List.mem_filter.mp hp).2
    rw [Bool.not_eq_true', ← Bool.not_eq_true, List.contains_iff_mem, e] at h1
    exact h1 hb
  have N₂ : News h₀ env.locals h (nx ++ own') := fun p hp => (List.mem_append.mp hp).elim (fun q => N₁ p (List.mem_append_right _ q)) fun q => N₁ p (List.mem_append_left _ (List.mem_filter.mp q).1)
  refine wpAny_mono (turn i v0 v1 m₁ nx h tk own' hi hP ha hsep hJ F₁ N₂) (fun f s₃ h₃ => ?_) fun _ _ e => e
  have fin : InvEndN h₀ env.locals (J (i + 1)) own' (news.map (·.1)) { s₂ with heap := h, toks := tk } s₃ → ∃ h' tk' m₂ news₂, s₃ = { s₂ with heap := h', toks := tk' } ∧ Fr h₀ env.locals h' m₂ ∧ News h₀ env.locals h' (own ++ news₂) ∧ news₂.map (·.1) = nx.map (·.1) ∧ J (i + 1) m₂ news₂ := by
    rintro ⟨h₃', tk₃, m₂, news₂, nx₂, rfl, F₃, N₃, hn₃, ho₃, ha₃, hJ₃⟩
    refine ⟨h₃', tk₃, m₂, nx₂, rfl, F₃, fun p hp => ?_, ha₃.trans ha.symm, hJ₃⟩
    rcases List.mem_append.mp hp with hp | hp
    · by_cases hbn : p.1 ∈ news.map (·.1)
      · obtain ⟨q, hq, e⟩ := List.mem_map.mp hbn
        have hqf : q.1 ∈ fp := by rw [e]; exact hsub p hp
        have h1 := hfp q hq hqf i m₁ nx hJ
        have h2 := hfp q hq hqf (i + 1) m₂ nx₂ hJ₃
        have h3 := (N₁ q (List.mem_append_right _ h1)).1
        have h4 := (N₁ p (List.mem_append_left _ hp)).1
        rw [e] at h3
        have h5 : q.2 = p.2 := Option.some.inj (h3.symm.trans h4)
        have h6 : q = p := Prod.ext e h5
        rw [← h6]
        exact N₃ q (hn₃ q h2)
      · exact N₃ p (ho₃ p (List.mem_filter.mpr ⟨hp, by rw [Bool.not_eq_true', ← Bool.not_eq_true, List.contains_iff_mem]; exact hbn⟩))
    · exact N₃ p (hn₃ p hp)
  cases f with
  | ret v => exact h₃
  | brk => exact h₃
  | cont => obtain ⟨h', tk', m₂, news₂, e, r⟩ := fin h₃; exact ⟨rfl, h', tk', m₂, news₂, e, r⟩
  | next => obtain ⟨h', tk', m₂, news₂, e, r⟩ := fin h₃; exact ⟨rfl, h', tk', m₂, news₂, e, r⟩
/-- over an enumerate of a list -/
theorem go_enum {l : Addr} {items : Array Value} {c : Nat} {m : Str → Option Value} {news : List (Addr × Obj)} (J : (Str → Option Value) → Nat → (Str → Option Value) → List (Addr × Obj) → Prop)
    (hh : A.handled = none) (hl : (l, listOf items c) ∈ news) (hJl : ∀ i m₁ nx, J m i m₁ nx → (l, listOf items c) ∈ nx) (hnd : ∀ q ∈ news, q.1 = l → q = (l, listOf items c)) (F : Fr h₀ env.locals s.heap m) (N : News h₀ env.locals s.heap news) (hj : J m 0 m news)
    (turn : ∀ i t x m₁ nx h tk own, items[i]? = some x → nx.map (·.1) = news.map (·.1) → OwnOff own (news.map (·.1)) → J m i m₁ nx →
      Fr h₀ env.locals h (fun y => if y = xc then some x else if y = xi then some (.int ((i : Nat) : Int) t) else m₁ y) → News h₀ env.locals h (nx ++ own) →
      wpAny (model prog w) A (execs body env) (InvPostN h₀ env.locals (J m (i + 1)) own (news.map (·.1)) { s with heap := h, toks := tk } Q) E { s with heap := h, toks := tk })
    (done : ∀ m₁ nx h tk, J m items.size m₁ nx → nx.map (·.1) = news.map (·.1) → Fr h₀ env.locals h m₁ → News h₀ env.locals h nx → Q .next { s with heap := h, toks := tk }) :
    wpAny (model prog w) A (call (.type "enumerate") [.ref l]) (fun xv s₁ => wpAny (model prog w) A (pyIter xv) (fun it s₂ => PairN prog w A h₀ env xi xc body Q E it s₂) E s₁) E s := by
  have hls : s.heap.IsList l items := ⟨_, (N _ hl).1, rfl, c, rfl⟩
  have hlt : l < s.heap.objs.size := Heap.lt_size (N _ hl).1
  refine call_enumerate_list hls fun h' he hit hsz hk => ?_
  refine wpAny_pyIter_enum he ?_
  have fr : ∀ b, s.heap.objs.size ≤ b → h₀.get? b = none := fun b hb => by
    cases e : h₀.get? b with
    | none => rfl
    | some o => exact absurd (Heap.lt_size (F.keep b o e)) (Nat.not_lt.mpr hb)
  have W := WalksT.enumerate (prog := prog) (w := w) (A := A) hh (s.heap.objs.size + 1) s.heap.objs.size l (Nat.succ_ne_self _) (Nat.ne_of_lt (Nat.lt_succ_of_lt hlt)) (Nat.ne_of_lt hlt) items
  refine ⟨_, _, _, items.size, _, _, _, fun i v0 v1 => ∃ t, v0 = .int i t ∧ items[i]? = some v1, m, news, J m, rfl, W, ?_, fun hm => ?_, fun b hb => ?_, fun p hp hI => ?_, fun q hq hI i m₁ nx hJ => ?_, ⟨⟨_, he⟩, hit, hls.at fun o e => hk _ _ e⟩, F.keeps hk, fun p hp => ⟨hk _ _ (N p hp).1, (N p hp).2⟩, hj, ?_, done⟩
  · rintro i vals ⟨t, x, hx, rfl⟩
    exact ⟨_, _, rfl, t, rfl, hx⟩
  · have hL := F.ns.lt
    rcases List.mem_cons.mp hm with e | hm
    · exact absurd hL (by rw [e]; exact Nat.not_lt.mpr (Nat.le_succ _))
    · rcases List.mem_cons.mp hm with e | hm
      · exact absurd hL (e ▸ Nat.lt_irrefl _)
      · exact (N _ hl).2.1 (List.mem_singleton.mp hm).symm
  · rcases List.mem_cons.mp hb with e | hb
    · exact fr b (by rw [e]; exact Nat.le_succ _)
    · rw [List.mem_singleton.mp hb]; exact fr _ (Nat.le_refl _)
  · have hp' := Heap.lt_size (N p hp).1
    rcases List.mem_cons.mp hI with e | hI
    · exact absurd hp' (by rw [e]; exact Nat.not_lt.mpr (Nat.le_succ _))
    · exact absurd hp' ((List.mem_singleton.mp hI) ▸ Nat.lt_irrefl _)
  · have hq' := Heap.lt_size (N q hq).1
    rcases List.mem_cons.mp hI with e | hI
    · exact absurd hq' (by rw [e]; exact Nat.not_lt.mpr (Nat.le_succ _))
    · rcases List.mem_cons.mp hI with e | hI
      · exact absurd hq' (e ▸ Nat.lt_irrefl _)
      · rw [hnd q hq (List.mem_singleton.mp hI)]
        exact hJl i m₁ nx hJ
  · rintro i v0 v1 m₁ nx h tk own hi ⟨t, rfl, hx⟩ ha ho hJ F₁ N₁
    exact turn i t v1 m₁ nx h tk own hx ha ho hJ F₁ N₁
end
end Mine
end

section
theorem Mine.fresh_T_cells : True := by
  w_top off
  trivial
namespace Mine
inductive CellRel (ns : List Int) : Heap → List Value → Prop where
  | mk {b : Heap} {l : Addr} {us : List Value} : b.IsList l us.toArray → IntsAre us ns → ns.length ≤ 63 → CellRel ns b [.ref l]
def CellOk (ks : List Int) : Prop := ks.length = 8 ∧ ∀ k ∈ ks, 0 ≤ k ∧ k ≤ 5 + 1000000 * 40
def CellOut (tl : List (Addr × Obj)) (r : Value) : Prop := ∃ D us c ks, tl = [(D, listOf (List.toArray us) c)] ∧ r = .ref D ∧ IntsAre us ks ∧ CellOk ks
def ceSet (m₀ : Str → Option Value) (a b : Option Value) : Str → Option Value := fun y => if y = Str.ofString "x" then a else if y = Str.ofString "k" then b else m₀ y
theorem ce_self (m : Str → Option Value) : m = ceSet m (m (Str.ofString "x")) (m (Str.ofString "k")) := by
  funext y
  unfold ceSet
  by_cases h1 : y = Str.ofString "x"
  · rw [if_pos h1, h1]
  · rw [if_neg h1]
    by_cases h2 : y = Str.ofString "k"
    · rw [if_pos h2, h2]
    · rw [if_neg h2]
theorem ce_over {m₀ : Str → Option Value} {a b A B : Option Value} : (fun y => if y = Str.ofString "x" then A else if y = Str.ofString "k" then B else ceSet m₀ a b y) = ceSet m₀ A B := by
  funext y
  unfold ceSet
  by_cases h1 : y = Str.ofString "x"
  · rw [if_pos h1, if_pos h1]
  · rw [if_neg h1, if_neg h1, if_neg h1]
    by_cases h2 : y = Str.ofString "k"
    · rw [if_pos h2, if_pos h2]
    · rw [if_neg h2, if_neg h2, if_neg h2]
def CeOk (i : Nat) (k : Int) : Prop := 0 ≤ k ∧ k ≤ 5 + 1000000 * i
def CeJ (D' l' : Addr) (ws : List Value) (m₀ : Str → Option Value) (i : Nat) (m : Str → Option Value) (nx : List (Addr × Obj)) : Prop :=
  ∃ us ks c A B, nx = [(D', listOf ws.toArray 0), (l', listOf (List.toArray us) c)] ∧ IntsAre us ks ∧ ks.length = 8 ∧ (∀ a ∈ ks, CeOk i a) ∧ m = ceSet m₀ A B
theorem ce_mem {D' l' : Addr} {ws : List Value} {m₀ : Str → Option Value} {i : Nat} {m : Str → Option Value} {nx : List (Addr × Obj)} (h : CeJ D' l' ws m₀ i m nx) : (D', listOf ws.toArray 0) ∈ nx := by
  obtain ⟨_, _, _, _, _, rfl, _⟩ := h
  exact .head _
theorem ce_one {D' l' : Addr} {o1 o2 : Obj} {q : Addr × Obj} (hq : q ∈ [(D', o1), (l', o2)]) (e : q.1 = D') (hl : l' < D') : q = (D', o1) := by
  rcases List.mem_cons.mp hq with rfl | hq
  · rfl
  · rw [List.mem_singleton.mp hq] at e
    exact absurd (e : l' = D') (Nat.ne_of_lt hl)
theorem ce_start {D' l' : Addr} {ws : List Value} {m : Str → Option Value} {t0 t1 t2 t3 t4 t5 t6 t7 : Tok} (c : Nat) : CeJ D' l' ws m 0 m [(D', listOf ws.toArray 0), (l', listOf #[.int 4 t0, .int 0 t1, .int 5 t2, .int 1 t3, .int 3 t4, .int 5 t5, .int 2 t6, .int 2 t7] c)] :=
  ⟨[.int 4 t0, .int 0 t1, .int 5 t2, .int 1 t3, .int 3 t4, .int 5 t5, .int 2 t6, .int 2 t7], [4, 0, 5, 1, 3, 5, 2, 2], c, _, _, rfl, .cons _ _ (.cons _ _ (.cons _ _ (.cons _ _ (.cons _ _ (.cons _ _ (.cons _ _ (.cons _ _ .nil))))))), rfl, by unfold CeOk; decide, ce_self m⟩
theorem ce_int {ws : List Value} {ns : List Int} {i : Nat} {x : Value} (h : IntsAre ws ns) (hx : ws.toArray[i]? = some x) : ∃ n t, x = .int n t := by
  obtain ⟨n, t, e, _⟩ := IntsAre.at h i x (by simpa using hx)
  exact ⟨n, t, e⟩
local macro_rules | `(tactic| walk_at "exec For") => `(tactic| (k_here; k_dflt (refine at_stop2 ?_)))
local macro_rules | `(tactic| walk_at "exec For Tuple Call") => `(tactic| (k_here; k_dflt (refine at_stop2 ?_)))
local macro_rules | `(tactic| walk_at "InvEndN") => `(tactic| (k_dflt (refine at_stop2 ?_)))
theorem ce_keep {i : Nat} {a : Int} (h : CeOk i a) : CeOk (i + 1) a := ⟨h.1, by have := h.2; omega⟩
theorem ce_add {i : Nat} {a : Int} (h : CeOk i a) (x : Int) : CeOk (i + 1) (a + x.fmod (10 ^ Int.toNat 6)) := by
  have e : (10 : Int) ^ Int.toNat 6 = 1000000 := by decide
  have h1 := h.1
  have h2 := h.2
  rw [e, fmod_eq _ (by decide)]
  exact ⟨by omega, by omega⟩
theorem set_ok {i j : Nat} {ks : List Int} (h : ∀ a ∈ ks, CeOk i a) (hj : j < ks.length) (x : Int) : ∀ a ∈ ks.set j (ks.getD j 0 + x.fmod (10 ^ Int.toNat 6)), CeOk (i + 1) a := fun a ha => by
  rcases List.mem_or_eq_of_mem_set ha with h1 | h1
  · exact ce_keep (h a h1)
  · rw [h1]
    exact ce_add (h _ (kso_getD hj)) x
theorem ce_next {hp h' : Heap} {L' D' l' : Addr} {ws us : List Value} {ks : List Int} {m₀ : Str → Option Value} {i c tk : Nat} {a b A B : Option Value} {own : List (Addr × Obj)} {s₁ : Shared}
    (F : Fr hp L' h' (fun y => if y = Str.ofString "x" then A else if y = Str.ofString "k" then B else ceSet m₀ a b y)) (N : News hp L' h' ((D', listOf ws.toArray 0) :: (l', listOf us.toArray c) :: own)) (hI : IntsAre us ks) (hl : ks.length = 8) (hk : ∀ a ∈ ks, CeOk (i + 1) a) :
    InvEndN hp L' (CeJ D' l' ws m₀ (i + 1)) own [D', l'] s₁ { s₁ with heap := h', toks := tk } :=
  InvEndN.intro F N ⟨us, ks, c, A, B, rfl, hI, hl, hk, ce_over⟩ rfl (fun p hp => by
    rcases List.mem_cons.mp hp with rfl | hp
    · exact .head _
    · rw [List.mem_singleton.mp hp]
      exact .tail _ (.head _)) fun p hp => .tail _ (.tail _ hp)
theorem ce_end {i : Nat} {k : Int} (h : CeOk i k) (hi : i ≤ 40) : 0 ≤ k ∧ k ≤ 5 + 1000000 * 40 := ⟨h.1, by have := h.2; omega⟩
theorem take_len {ns : List Int} {ws : List Value} (h : IntsAre ws (ns.take 40)) : ws.toArray.size ≤ 40 := by
  rw [List.size_toArray, h.length, List.length_take]
  omega
set_option maxHeartbeats 8000000 in
theorem cell_told (w : World) (mean : ExcName → Option Value) (mg mb : Str → Option Value) (ns : List Int) : Tell w mean mg mb 92 2 (CellRel ns) CellOut := by
  unfold Tell
  k_fill
  intro dp un gd cn cs a ccd cl outer A₀ base h₀ L m hp gs dr tk os vs Q E B F X T hk hR hd hu hret
  cases hR with
  | mk hl hi hn =>
  k_dflt (refine' tell_in ?k1 ?k2 ?k3 ?k5 ?kK ?k6 ?k7 ?k8 ?k9 ?kB ?_ ?c5 ?c2 ?c3 ?c4; (case k1 => k_asm); (case k2 => k_asm); (case k3 => k_asm); (case k5 => k_asm); (case kK => assumption); (case k6 => k_is); (case k7 => k_is); (case k8 => omega); (case k9 => exact BindsTo.of_eq rfl); (case kB => exact locs rfl); (case c5 => decide); (case c2 => exact rfl); (case c3 => exact rfl); (case c4 => exact rfl); k_whole; clear B F X T hk; intro L' h' tk' F' N' B' X' T'; (try dsimp only); (try k_fold))
  k_steps
  unfold Stop2
  (rename Fr hp _ _ _ => F9)
  (rename News hp _ _ _ => N9)
  k_dflt (refine' For_pairN F9 rfl (by rfl) (by rfl) (by rfl) ?_ (fun _ => rfl) ?_)
  · k_steps
    (rename Fr hp _ _ _ => F8)
    (rename News hp _ _ _ => N8)
    (rename IntsAre _ (List.take _ _) => hI)
    (rename _ < _ => l1)
    refine go_enum (CeJ _ _ _) rfl (.head _) (fun i m₁ nx hJ => ce_mem hJ) (fun q hq e => ce_one hq e l1) F8 N8 (ce_start _) ?_ ?_
    · rintro i t x m₁ nx h tk own hx hadr ho ⟨us, ks, c, A, B, rfl, hu, hl8, hok, rfl⟩ F₁ N₁
      simp only [List.cons_append, List.nil_append] at N₁
      clear F8 N8
      simp only [List.map_cons, List.map_nil] at ho
      obtain ⟨xi, xt, rfl⟩ := ce_int hI hx
      have hr0 : 0 ≤ Int.fmod ((i : Nat) : Int) 8 := Int.fmod_nonneg_of_pos _ (by decide)
      have hr1 : Int.fmod ((i : Nat) : Int) 8 < 8 := Int.fmod_lt_of_pos _ (by decide)
      (try dsimp only)
      (try k_fold)
      k_steps
      unfold Stop2
      (rename Fr hp _ _ _ => kF)
      (rename News hp _ _ _ => kN)
      (rename IntsAre _ (List.set _ _ _) => kI)
      exact ce_next kF kN kI (by rw [List.length_set, hl8]) (set_ok hok (by rw [hl8]; omega) xi)
    · rintro m₁ nx h tk ⟨us, ks, c, A, B, rfl, hu, hl8, hok, rfl⟩ hadr F₁ N₁
      clear F8 N8
      (try dsimp only)
      (try k_fold)
      k_steps
      have h40 := take_len hI
      exact hret _ [(_, _)] _ _ F₁.keep (made_of N₁ fun p q => by rw [List.mem_singleton.mp q]; exact .tail _ (.head _)) ⟨_, us, c, ks, rfl, rfl, hu, hl8, fun k hk => ce_end (hok k hk) h40⟩
  · walk1
end Mine
end

section
theorem Mine.fresh_T_esc : True := by
  w_top off
  trivial
namespace Mine
/-- each c in the list becomes z -/
def sub (c : Nat) (z : List Nat) : List Nat → List Nat
  | [] => []
  | k :: r => (if k = c then z else [k]) ++ sub c z r
theorem sub_append (c : Nat) (z : List Nat) : ∀ a b : List Nat, sub c z (a ++ b) = sub c z a ++ sub c z b
  | [], _ => rfl
  | k :: r, b => by
    show (if k = c then z else [k]) ++ sub c z (r ++ b) = ((if k = c then z else [k]) ++ sub c z r) ++ sub c z b
    rw [sub_append c z r b, List.append_assoc]
theorem sub_free (c : Nat) (z : List Nat) : ∀ l : List Nat, c ∉ l → sub c z l = l
  | [], _ => rfl
  | k :: r, h => by
    have h1 : ¬ k = c := fun e => h (e ▸ List.mem_cons_self ..)
    have h2 : c ∉ r := fun m => h (List.mem_cons_of_mem _ m)
    unfold sub
    rw [if_neg h1, sub_free c z r h2]; rfl
theorem sub_one (c : Nat) (z : List Nat) : sub c z [c] = z := by simp [sub]
theorem sub_join (c : Nat) (z : Str) : ∀ parts : List Str, (∀ p ∈ parts, c ∉ p.cps.toList) → sub c z.cps.toList (Str.join ⟨#[c]⟩ parts).cps.toList = (Str.join z parts).cps.toList
  | [], _ => rfl
  | [p], h => sub_free c _ _ (h p (List.mem_singleton.mpr rfl))
  | p :: q :: r, h => by
    have ih := sub_join c z (q :: r) fun a ha => h a (List.mem_cons_of_mem _ ha)
    show sub c z.cps.toList (p ++ ⟨#[c]⟩ ++ Str.join ⟨#[c]⟩ (q :: r)).cps.toList = (p ++ z ++ Str.join z (q :: r)).cps.toList
    simp only [Str.cps_append, Array.toList_append]
    rw [sub_append, sub_append, ih, sub_free c _ _ (h p (List.mem_cons_self ..)), sub_one]
theorem replace_sub (x z : Str) (c : Nat) : (Txt.replace x ⟨#[c]⟩ z).cps.toList = sub c z.cps.toList x.cps.toList := by
  rw [StrLaws.replace_one, ← sub_join c z _ (StrLaws.split_free x c), StrLaws.join_split]
theorem sub_flat (c : Nat) (z : List Nat) (g : Nat → List Nat) : ∀ l : List Nat, sub c z (l.flatMap g) = l.flatMap fun k => sub c z (g k)
  | [] => rfl
  | k :: r => by rw [List.flatMap_cons, List.flatMap_cons, sub_append, sub_flat c z g r]
/-- the signs -/
abbrev alph : List Nat := [38, 60, 62, 34, 48, 49]
structure Wr (l : List Nat) (g : Nat → List Nat) (x : Str) : Prop where
  is : x.cps.toList = l.flatMap g
theorem flat_len (g : Nat → List Nat) (n : Nat) : ∀ l : List Nat, (∀ k ∈ l, (g k).length ≤ n) → (l.flatMap g).length ≤ n * l.length
  | [], _ => Nat.zero_le _
  | k :: r, h => by
    have h1 := h k (.head _)
    have h2 := flat_len g n r fun q hq => h q (.tail _ hq)
    rw [List.flatMap_cons, List.length_append, List.length_cons, Nat.mul_succ]; omega
theorem Wr.len {l : List Nat} {g : Nat → List Nat} {x : Str} (W : Wr l g x) (hl : l.length ≤ 7) (ha : ∀ k ∈ l, k ∈ alph) (hg : ∀ k ∈ alph, (g k).length ≤ 6) : x.length ≤ 42 := by
  have h := flat_len g 6 l fun k hk => hg k (ha k hk)
  have e : x.length = x.cps.toList.length := by rw [Array.length_toList]; rfl
  rw [e, W.is]; omega
theorem flat_congr {f g : Nat → List Nat} : ∀ l : List Nat, (∀ k ∈ l, f k = g k) → l.flatMap f = l.flatMap g
  | [], _ => rfl
  | k :: r, h => by rw [List.flatMap_cons, List.flatMap_cons, h k (.head _), flat_congr r fun q hq => h q (.tail _ hq)]
theorem Wr.congr {l : List Nat} {g f : Nat → List Nat} {x : Str} (W : Wr l g x) (ha : ∀ k ∈ l, k ∈ alph) (hg : ∀ k ∈ alph, g k = f k) : Wr l f x :=
  ⟨W.is.trans (flat_congr l fun k hk => hg k (ha k hk))⟩

theorem esc_if {prog : Program} {w : World} {A : Around} {E : Value → Shared → Prop} {s : Shared} {cn : Str} {cs : Scope} {L a : Addr} {ccd : Value} {h₀ : Heap} {m : Str → Option Value} {news : List (Addr × Obj)} {Q : Flow → Shared → Prop}
    {c z x : Str} {t : Tok} {p1 p2 p3 p4 p5 p6 p7 p8 p9 p10 p11 : Pos} {pl : Sem Bool} {l : List Nat} {g : Nat → List Nat}
    (he : eval (.Call (.Attribute (.Name (Str.ofString "text") p5) (Str.ofString "replace") p6) [.Constant (.str c) 0 p7, .Constant (.str z) 0 p8] [] p9) (envOf cn cs L a ccd) = (do
      let ov ← eval (.Name (Str.ofString "text") p5) (envOf cn cs L a ccd)
      standAt p6.atName
      let (f, first) ← holding [ov] (getMethod ov (Str.ofString "replace") pl)
      callWith p9 f first (backTo p9 (starEach [.Constant (.str c) 0 p7, .Constant (.str z) 0 p8] (envOf cn cs L a ccd))) []))
    (F : Fr h₀ L s.heap m) (N : News h₀ L s.heap news) (W : Wr l g x) (hll : l.length ≤ 7) (ha : ∀ k ∈ l, k ∈ alph) (hm : m (Str.ofString "text") = some (.str x t)) (hg : ∀ k ∈ alph, (g k).length ≤ 6) (hz : z.length ≤ 14) (hyz : (c == z) = false) (hc : c = ⟨#[c.cps.getD 0 0]⟩)
    (hk : cs.kind = .function) (hl : (envOf cn cs L a ccd).kindOf (Str.ofString "text") = some .local)
    (h : ∀ h' x' t' tk', Wr l (fun k => sub (c.cps.getD 0 0) z.cps.toList (g k)) x' → Fr h₀ L h' (fun y => if y = Str.ofString "text" then some (.str x' t') else m y) → News h₀ L h' news → Q .next { s with heap := h', toks := tk' }) :
    wpAny (model prog w) A (exec (.If (.Compare (.Constant (.str c) 0 p1) [.In] [.Name (Str.ofString "text") p2] p3) [.Assign [.Name (Str.ofString "text") p4] (.Call (.Attribute (.Name (Str.ofString "text") p5) (Str.ofString "replace") p6) [.Constant (.str c) 0 p7, .Constant (.str z) 0 p8] [] p9) p10] [] p11) (envOf cn cs L a ccd)) Q E s := by
  have hx : x.length ≤ 1048576 := Nat.le_trans (W.len hll ha hg) (by decide)
  have W' : ∀ x', x'.cps.toList = sub (c.cps.getD 0 0) z.cps.toList x.cps.toList → Wr l (fun k => sub (c.cps.getD 0 0) z.cps.toList (g k)) x' := fun x' e => ⟨by rw [e, W.is, sub_flat]⟩
  refine wpAny_If (wpAny_isTrue_Compare1 (wpAny_Constant_str (ld F hm ?_ hk hl (by decide))))
  refine in_str ?_
  refine wpAny_truthy_bool ?_
  cases hb : (Builtin.Str.occurrences x c 0 x.length 1).isEmpty
  · simp only [Bool.not_false, if_true]
    refine wpAny_execs_cons (wpAny_Assign_Name ?_ (by with_unfolding_all rfl))
    refine MethodCall_ (ld F hm ?_ hk hl (by decide)) he
    refine GM.replace ?_
    refine callWith_method1 ?_
    refine args_cons (wpAny_Constant_str ?_)
    refine args_cons (wpAny_Constant_str ?_)
    refine args_nil ?_
    refine SC.replaceW ?_ ?_ ?_ hyz hx hz fun t' k => ?_
    · simp
    · simp
    · simp
    refine stN F N (fun h' F' N' => ?_) hk hl
    refine wpAny_execs_nil (h h' _ t' _ (W' _ ?_) F' N')
    have := replace_sub x z (c.cps.getD 0 0)
    rwa [← hc] at this
  · simp only [Bool.not_true, Bool.false_eq_true, if_false]
    refine wpAny_execs_nil ?_
    have e : m = fun y => if y = Str.ofString "text" then some (.str x t) else m y := by
      funext y
      by_cases hy : y = Str.ofString "text"
      · rw [if_pos hy, hy]; exact hm
      · rw [if_neg hy]
    refine h s.heap x t _ (W' x ?_) (e ▸ F) N
    have hf := StrLaws.found_one x (c.cps.getD 0 0)
    rw [← hc, hb] at hf
    exact (sub_free _ _ _ (of_decide_eq_false hf.symm)).symm
/-- what each sign becomes -/
def spell (hand k : Nat) : List Nat :=
  if k = 38 then [38, 97, 109, 112, 59]
  else if k = 60 ∧ hand ≠ 2 then [38, 108, 116, 59]
  else if k = 62 ∧ hand ≠ 4 then [38, 103, 116, 59]
  else if k = 34 ∧ (hand = 1 ∨ hand = 2 ∨ hand = 4) then [38, 113, 117, 111, 116, 59]
  else [k]
inductive EscRel (l : List Nat) : Heap → List Value → Prop where
  | mk {b : Heap} {x : Str} {t1 : Tok} : Wr l (fun k => [k]) x → l.length ≤ 7 → (∀ k ∈ l, k ∈ alph) → EscRel l b [.str x t1]
def EscOut (l : List Nat) (hand : Nat) (tl : List (Addr × Obj)) (r : Value) : Prop := ∃ x t, tl = [] ∧ r = .str x t ∧ Wr l (spell hand) x
local macro_rules | `(tactic| walk_at "exec If") => `(tactic| (k_here; refine at_stopK 1 ?_))
set_option maxHeartbeats 8000000 in
theorem esc0_told (w : World) (mean : ExcName → Option Value) (mg mb : Str → Option Value) (l : List Nat) : Tell w mean mg mb 57 2 (EscRel l) (EscOut l 0) := by
  unfold Tell
  k_fill
  intro dp un gd cn cs a ccd cl outer A₀ base h₀ L m hp gs dr tk os vs Q E B F X T hk hR hd hu hret
  cases hR with
  | mk H hll ha =>
  k_dflt (refine' tell_in ?k1 ?k2 ?k3 ?k5 ?kK ?k6 ?k7 ?k8 ?k9 ?kB ?_ ?c5 ?c2 ?c3 ?c4; (case k1 => k_asm); (case k2 => k_asm); (case k3 => k_asm); (case k5 => k_asm); (case kK => assumption); (case k6 => k_is); (case k7 => k_is); (case k8 => omega); (case k9 => exact BindsTo.of_eq rfl); (case kB => exact locs rfl); (case c5 => decide); (case c2 => exact rfl); (case c3 => exact rfl); (case c4 => exact rfl); k_whole; clear B F X T hk; intro L' h' tk' F' N' B' X' T'; (try dsimp only); (try k_fold))
  repeat' (first | ((with_reducible show StopK 1 _); unfold StopK; first | ((rename Wr _ _ _ => W'); k_dflt (refine' esc_if ?he ?F ?N W' ?hll ?ha ?hm ?hg ?hz ?hyz ?hc ?hk ?hl ?_; (case he => exact rfl); (case F => k_asm); (case N => k_asm); (case hll => assumption); (case ha => assumption); (case hm => exact rfl); (case hg => decide +kernel); (case hz => decide +kernel); (case hyz => decide +kernel); (case hc => decide +kernel); (case hk => exact rfl); (case hl => exact rfl); k_whole); clear W'; intro h' x' t' tk' W' F' N'; (try k_sweep))) | (k_unfold; (try dsimp only)) | (k_end; wrow_close) | ((with_reducible show wpAny _ _ (execs _ _) _ _ _); (try dsimp only); (try k_fold); walk1) | walk1 | (dsimp only; walk1) | (leave1; walk_say "STEP leave1"; try dsimp only))
  (rename Wr _ _ _ => W')
  (rename Fr _ _ _ _ => kF)
  exact hret _ [] _ _ kF.keep made_nil ⟨_, _, rfl, rfl, W'.congr ha (by decide +kernel)⟩
set_option maxHeartbeats 8000000 in
theorem esc1_told (w : World) (mean : ExcName → Option Value) (mg mb : Str → Option Value) (l : List Nat) : Tell w mean mg mb 64 2 (EscRel l) (EscOut l 1) := by
  unfold Tell
  k_fill
  intro dp un gd cn cs a ccd cl outer A₀ base h₀ L m hp gs dr tk os vs Q E B F X T hk hR hd hu hret
  cases hR with
  | mk H hll ha =>
  k_dflt (refine' tell_in ?k1 ?k2 ?k3 ?k5 ?kK ?k6 ?k7 ?k8 ?k9 ?kB ?_ ?c5 ?c2 ?c3 ?c4; (case k1 => k_asm); (case k2 => k_asm); (case k3 => k_asm); (case k5 => k_asm); (case kK => assumption); (case k6 => k_is); (case k7 => k_is); (case k8 => omega); (case k9 => exact BindsTo.of_eq rfl); (case kB => exact locs rfl); (case c5 => decide); (case c2 => exact rfl); (case c3 => exact rfl); (case c4 => exact rfl); k_whole; clear B F X T hk; intro L' h' tk' F' N' B' X' T'; (try dsimp only); (try k_fold))
  repeat' (first | ((with_reducible show StopK 1 _); unfold StopK; first | ((rename Wr _ _ _ => W'); k_dflt (refine' esc_if ?he ?F ?N W' ?hll ?ha ?hm ?hg ?hz ?hyz ?hc ?hk ?hl ?_; (case he => exact rfl); (case F => k_asm); (case N => k_asm); (case hll => assumption); (case ha => assumption); (case hm => exact rfl); (case hg => decide +kernel); (case hz => decide +kernel); (case hyz => decide +kernel); (case hc => decide +kernel); (case hk => exact rfl); (case hl => exact rfl); k_whole); clear W'; intro h' x' t' tk' W' F' N'; (try k_sweep))) | (k_unfold; (try dsimp only)) | (k_end; wrow_close) | ((with_reducible show wpAny _ _ (execs _ _) _ _ _); (try dsimp only); (try k_fold); walk1) | walk1 | (dsimp only; walk1) | (leave1; walk_say "STEP leave1"; try dsimp only))
  (rename Wr _ _ _ => W')
  (rename Fr _ _ _ _ => kF)
  exact hret _ [] _ _ kF.keep made_nil ⟨_, _, rfl, rfl, W'.congr ha (by decide +kernel)⟩
set_option maxHeartbeats 8000000 in
theorem esc2_told (w : World) (mean : ExcName → Option Value) (mg mb : Str → Option Value) (l : List Nat) : Tell w mean mg mb 71 2 (EscRel l) (EscOut l 2) := by
  unfold Tell
  k_fill
  intro dp un gd cn cs a ccd cl outer A₀ base h₀ L m hp gs dr tk os vs Q E B F X T hk hR hd hu hret
  cases hR with
  | mk H hll ha =>
  k_dflt (refine' tell_in ?k1 ?k2 ?k3 ?k5 ?kK ?k6 ?k7 ?k8 ?k9 ?kB ?_ ?c5 ?c2 ?c3 ?c4; (case k1 => k_asm); (case k2 => k_asm); (case k3 => k_asm); (case k5 => k_asm); (case kK => assumption); (case k6 => k_is); (case k7 => k_is); (case k8 => omega); (case k9 => exact BindsTo.of_eq rfl); (case kB => exact locs rfl); (case c5 => decide); (case c2 => exact rfl); (case c3 => exact rfl); (case c4 => exact rfl); k_whole; clear B F X T hk; intro L' h' tk' F' N' B' X' T'; (try dsimp only); (try k_fold))
  repeat' (first | ((with_reducible show StopK 1 _); unfold StopK; first | ((rename Wr _ _ _ => W'); k_dflt (refine' esc_if ?he ?F ?N W' ?hll ?ha ?hm ?hg ?hz ?hyz ?hc ?hk ?hl ?_; (case he => exact rfl); (case F => k_asm); (case N => k_asm); (case hll => assumption); (case ha => assumption); (case hm => exact rfl); (case hg => decide +kernel); (case hz => decide +kernel); (case hyz => decide +kernel); (case hc => decide +kernel); (case hk => exact rfl); (case hl => exact rfl); k_whole); clear W'; intro h' x' t' tk' W' F' N'; (try k_sweep))) | (k_unfold; (try dsimp only)) | (k_end; wrow_close) | ((with_reducible show wpAny _ _ (execs _ _) _ _ _); (try dsimp only); (try k_fold); walk1) | walk1 | (dsimp only; walk1) | (leave1; walk_say "STEP leave1"; try dsimp only))
  (rename Wr _ _ _ => W')
  (rename Fr _ _ _ _ => kF)
  exact hret _ [] _ _ kF.keep made_nil ⟨_, _, rfl, rfl, W'.congr ha (by decide +kernel)⟩
set_option maxHeartbeats 8000000 in
theorem esc3_told (w : World) (mean : ExcName → Option Value) (mg mb : Str → Option Value) (l : List Nat) : Tell w mean mg mb 78 2 (EscRel l) (EscOut l 3) := by
  unfold Tell
  k_fill
  intro dp un gd cn cs a ccd cl outer A₀ base h₀ L m hp gs dr tk os vs Q E B F X T hk hR hd hu hret
  cases hR with
  | mk H hll ha =>
  k_dflt (refine' tell_in ?k1 ?k2 ?k3 ?k5 ?kK ?k6 ?k7 ?k8 ?k9 ?kB ?_ ?c5 ?c2 ?c3 ?c4; (case k1 => k_asm); (case k2 => k_asm); (case k3 => k_asm); (case k5 => k_asm); (case kK => assumption); (case k6 => k_is); (case k7 => k_is); (case k8 => omega); (case k9 => exact BindsTo.of_eq rfl); (case kB => exact locs rfl); (case c5 => decide); (case c2 => exact rfl); (case c3 => exact rfl); (case c4 => exact rfl); k_whole; clear B F X T hk; intro L' h' tk' F' N' B' X' T'; (try dsimp only); (try k_fold))
  repeat' (first | ((with_reducible show StopK 1 _); unfold StopK; first | ((rename Wr _ _ _ => W'); k_dflt (refine' esc_if ?he ?F ?N W' ?hll ?ha ?hm ?hg ?hz ?hyz ?hc ?hk ?hl ?_; (case he => exact rfl); (case F => k_asm); (case N => k_asm); (case hll => assumption); (case ha => assumption); (case hm => exact rfl); (case hg => decide +kernel); (case hz => decide +kernel); (case hyz => decide +kernel); (case hc => decide +kernel); (case hk => exact rfl); (case hl => exact rfl); k_whole); clear W'; intro h' x' t' tk' W' F' N'; (try k_sweep))) | (k_unfold; (try dsimp only)) | (k_end; wrow_close) | ((with_reducible show wpAny _ _ (execs _ _) _ _ _); (try dsimp only); (try k_fold); walk1) | walk1 | (dsimp only; walk1) | (leave1; walk_say "STEP leave1"; try dsimp only))
  (rename Wr _ _ _ => W')
  (rename Fr _ _ _ _ => kF)
  exact hret _ [] _ _ kF.keep made_nil ⟨_, _, rfl, rfl, W'.congr ha (by decide +kernel)⟩
set_option maxHeartbeats 8000000 in
theorem esc4_told (w : World) (mean : ExcName → Option Value) (mg mb : Str → Option Value) (l : List Nat) : Tell w mean mg mb 85 2 (EscRel l) (EscOut l 4) := by
  unfold Tell
  k_fill
  intro dp un gd cn cs a ccd cl outer A₀ base h₀ L m hp gs dr tk os vs Q E B F X T hk hR hd hu hret
  cases hR with
  | mk H hll ha =>
  k_dflt (refine' tell_in ?k1 ?k2 ?k3 ?k5 ?kK ?k6 ?k7 ?k8 ?k9 ?kB ?_ ?c5 ?c2 ?c3 ?c4; (case k1 => k_asm); (case k2 => k_asm); (case k3 => k_asm); (case k5 => k_asm); (case kK => assumption); (case k6 => k_is); (case k7 => k_is); (case k8 => omega); (case k9 => exact BindsTo.of_eq rfl); (case kB => exact locs rfl); (case c5 => decide); (case c2 => exact rfl); (case c3 => exact rfl); (case c4 => exact rfl); k_whole; clear B F X T hk; intro L' h' tk' F' N' B' X' T'; (try dsimp only); (try k_fold))
  repeat' (first | ((with_reducible show StopK 1 _); unfold StopK; first | ((rename Wr _ _ _ => W'); k_dflt (refine' esc_if ?he ?F ?N W' ?hll ?ha ?hm ?hg ?hz ?hyz ?hc ?hk ?hl ?_; (case he => exact rfl); (case F => k_asm); (case N => k_asm); (case hll => assumption); (case ha => assumption); (case hm => exact rfl); (case hg => decide +kernel); (case hz => decide +kernel); (case hyz => decide +kernel); (case hc => decide +kernel); (case hk => exact rfl); (case hl => exact rfl); k_whole); clear W'; intro h' x' t' tk' W' F' N'; (try k_sweep))) | (k_unfold; (try dsimp only)) | (k_end; wrow_close) | ((with_reducible show wpAny _ _ (execs _ _) _ _ _); (try dsimp only); (try k_fold); walk1) | walk1 | (dsimp only; walk1) | (leave1; walk_say "STEP leave1"; try dsimp only))
  (rename Wr _ _ _ => W')
  (rename Fr _ _ _ _ => kF)
  exact hret _ [] _ _ kF.keep made_nil ⟨_, _, rfl, rfl, W'.congr ha (by decide +kernel)⟩
end Mine
end

section
theorem Mine.fresh_T_due : True := by
  w_top off
  trivial
namespace Mine
def hits (hand k : Nat) : Bool := k == 38 || (k == 60 && hand != 2) || (k == 62 && hand != 4) || (k == 34 && (hand == 1 || hand == 2 || hand == 4))
def wordNum (k : Nat) : Int := if k = 38 then 8838203 else if k = 60 then 183611 else if k = 62 then 163131 else 836173115
/-- the numbers of a sign -/
def numsOf (hand k : Nat) : List Int := if hits hand k = true then [38, wordNum k] else [(k : Int)]
inductive DueRel (l : List Nat) (hand : Nat) : Heap → List Value → Prop where
  | mk {b : Heap} {x : Str} {t1 t2 : Tok} : Wr l (fun k => [k]) x → l.length ≤ 7 → (∀ k ∈ l, k ∈ alph) → hand < 5 → DueRel l hand b [.str x t1, .int ((hand : Nat) : Int) t2]
def DueOut (l : List Nat) (hand : Nat) (tl : List (Addr × Obj)) (r : Value) : Prop := ∃ D us c, tl = [(D, listOf (List.toArray us) c)] ∧ r = .ref D ∧ IntsAre us (l.flatMap (numsOf hand))
def hitB (sp : Str) (c : Nat) : Bool := !(Builtin.Str.occurrences sp ⟨#[c]⟩ 0 sp.length 1).isEmpty
def HitOf (hand : Nat) (sp : Str) : Prop := ∀ c ∈ alph, hitB sp c = hits hand c
def DuCut (hand : Nat) (hp : Heap) (gs : Array GenState) (dr : Drawn) (os : OsState) (L' : Addr) (o' : Obj) (m : Str → Option Value) (f : Flow) (s' : Shared) : Prop :=
  f = .next ∧ ∃ sp t h tk, s' = ⟨h, gs, dr, tk, os⟩ ∧ Fr hp L' h (fun y => if y = Str.ofString "spelled" then some (.str sp t) else m y) ∧ News hp L' h [(L' + 1, o')] ∧ HitOf hand sp
theorem Wr.list {l : List Nat} {x : Str} (W : Wr l (fun k => [k]) x) : x.cps.toList = l := by
  rw [W.is]
  clear W
  induction l with
  | nil => rfl
  | cons k r ih => rw [List.flatMap_cons, ih]; rfl
theorem nums_len (hand k : Nat) : (numsOf hand k).length ≤ 2 := by
  unfold numsOf
  split <;> simp
theorem du_len {us : List Value} {l : List Nat} {i hand : Nat} (h : IntsAre us ((l.take i).flatMap (numsOf hand))) (hl : l.length ≤ 7) : us.length ≤ 14 := by
  rw [h.length]
  have h1 : ∀ r : List Nat, (r.flatMap (numsOf hand)).length ≤ 2 * r.length := fun r => by
    induction r with
    | nil => exact Nat.le_refl _
    | cons k r ih =>
      rw [List.flatMap_cons, List.length_append, List.length_cons]
      have := nums_len hand k
      omega
  have h2 := h1 (l.take i)
  rw [List.length_take] at h2
  omega
theorem ints_app : ∀ {vs ws : List Value} {ys zs : List Int}, IntsAre vs ys → IntsAre ws zs → IntsAre (vs ++ ws) (ys ++ zs)
  | _, _, _, _, .nil, h => h
  | _, _, _, _, .cons z u r, h => .cons z u (ints_app r h)
def signSet (m₀ : Str → Option Value) (a : Option Value) : Str → Option Value := fun y => if y = Str.ofString "sign" then a else m₀ y
def DuJ (l : List Nat) (hand : Nat) (D Nd C : Addr) (od : Obj) (m₀ : Str → Option Value) (i : Nat) (m : Str → Option Value) (nx : List (Addr × Obj)) : Prop :=
  ∃ us c o a v, nx = [(D, listOf (List.toArray us) c), (Nd, od), (C, o)] ∧ o.data = .cell v ∧ IntsAre us ((l.take i).flatMap (numsOf hand)) ∧ m = signSet m₀ a
theorem du_start {l : List Nat} {hand : Nat} {D Nd C : Addr} {od o : Obj} {m : Str → Option Value} {v : Option Value} (h : o.data = .cell v) : DuJ l hand D Nd C od m 0 m [(D, listOf #[] 0), (Nd, od), (C, o)] :=
  ⟨[], 0, o, m (Str.ofString "sign"), v, rfl, h, .nil, at_self rfl⟩
theorem in_hit {prog : Program} {w : World} {A : Around} {E : Value → Shared → Prop} {s : Shared} {Q : Value → Shared → Prop} {sp : Str} {c : Nat} {b : Bool} {t u : Tok} (e : hitB sp c = b) (h : Q (.bool b) s) :
    wpAny (model prog w) A (compareOp .In (.str ⟨#[c]⟩ u) (.str sp t)) Q E s := in_str (by unfold hitB at e; rw [e]; exact h)
theorem rev_amp (u : Tok) : Txt.sliceBy (Str.ofString "amp;") none none (-1, u) = Str.ofString ";pma" := by rfl
theorem rev_lt (u : Tok) : Txt.sliceBy (Str.ofString "lt;") none none (-1, u) = Str.ofString ";tl" := by rfl
theorem rev_gt (u : Tok) : Txt.sliceBy (Str.ofString "gt;") none none (-1, u) = Str.ofString ";tg" := by rfl
theorem rev_quot (u : Tok) : Txt.sliceBy (Str.ofString "quot;") none none (-1, u) = Str.ofString ";touq" := by rfl
theorem in_hitS {prog : Program} {w : World} {A : Around} {E : Value → Shared → Prop} {s : Shared} {Q : Value → Shared → Prop} {sp y : Str} {c : Nat} {b : Bool} {t u : Tok} (e : hitB sp c = b) (hy : y = ⟨#[c]⟩) (h : Q (.bool b) s) :
    wpAny (model prog w) A (compareOp .In (.str y u) (.str sp t)) Q E s := by
  subst hy
  exact in_hit e h
/-- the sign's word, turned -/
def revW (c : Nat) : Str := if c = 38 then Str.ofString ";pma" else if c = 60 then Str.ofString ";tl" else if c = 62 then Str.ofString ";tg" else Str.ofString ";touq"
theorem rev_len (c : Nat) : (revW c).length ≤ 5 := by
  unfold revW
  split
  · decide
  split
  · decide
  split <;> decide
def TuCut (c : Nat) (hp : Heap) (gs : Array GenState) (dr : Drawn) (os : OsState) (L' C : Addr) (m : Str → Option Value) (p q : Addr × Obj) (post : List (Addr × Obj)) (f : Flow) (s' : Shared) : Prop :=
  f = .next ∧ ∃ t h tk o, s' = ⟨h, gs, dr, tk, os⟩ ∧ Fr hp L' h m ∧ News hp L' h (p :: q :: (C, o) :: post) ∧ o.data = .cell (some (.str (revW c) t))
theorem turn_cut {M : Model} {A : Around} {t : Sem Flow} {Q : Flow → Shared → Prop} {E : Value → Shared → Prop} (c : Nat) {hp h : Heap} {gs : Array GenState} {dr : Drawn} {tk : Nat} {os : OsState} {L' C : Addr} {m : Str → Option Value} {p q : Addr × Obj} {o : Obj} {post : List (Addr × Obj)} (_F : Fr hp L' h m) (_N : News hp L' h (p :: q :: (C, o) :: post))
    (h1 : wpAny M A t (TuCut c hp gs dr os L' C m p q post) E ⟨h, gs, dr, tk, os⟩) (h2 : ∀ u h' tk' o', Fr hp L' h' m → News hp L' h' (p :: q :: (C, o') :: post) → o'.data = .cell (some (.str (revW c) u)) → Q .next ⟨h', gs, dr, tk', os⟩) : wpAny M A t Q E ⟨h, gs, dr, tk, os⟩ :=
  wpAny_mono h1 (fun f s' z => by
    obtain ⟨rfl, u, h', tk', o', rfl, F', N', d'⟩ := z
    exact h2 u h' tk' o' F' N' d') fun _ _ e => e
local macro_rules | `(tactic| walk_at "exec Assign") => `(tactic| (k_here; (rename StopHere => hsm'); refine at_stopK 1 ?_))
local macro_rules | `(tactic| walk_at "compareOp In str str") => `(tactic| (k_here; refine at_stopK 2 ?_))
local macro_rules | `(tactic| walk_at "storeName") => `(tactic| (k_here; k_dflt (simp only [rev_amp, rev_lt, rev_gt, rev_quot])))
local macro_rules | `(tactic| walk_at "exec For") => `(tactic| (k_here; k_dflt (refine at_stop2 ?_)))
local macro_rules | `(tactic| walk_at "exec Assign") => `(tactic| (k_here; (rename StopMark => hsm'); clear hsm'; k_dflt (refine at_stop2 ?_)))
theorem rev_pow {k : Int} {n : Nat} (h : k < 0 + ((((n : Nat) : Int) - 0).toNat : Int)) (hn : n ≤ 5) : k ≤ 1000000 := by omega
theorem rev_lo {k : Int} {n : Nat} (h : 0 ≤ k) : -((n : Nat) : Int) ≤ k := by omega
theorem rev_hi {k : Int} {n : Nat} (h : k < 0 + ((((n : Nat) : Int) - 0).toNat : Int)) : k < ((n : Nat) : Int) := by omega
local macro_rules | `(tactic| walk_at "binaryOp Pow int int") => `(tactic| (k_here; refine at_stopK 3 ?_))
local macro_rules | `(tactic| walk_at "subscriptTail Name Name str int") => `(tactic| (k_here; refine at_stopK 4 ?_))
local macro_rules | `(tactic| walk_at "call builtin:list.append") => `(tactic| (k_here; refine at_stopK 5 ?_))
local macro_rules | `(tactic| walk_at "InvEndN") => `(tactic| (k_dflt (refine at_stop2 ?_)))
theorem nums_hit {hand c : Nat} {W : Int} (hq : hits hand c = true) (hw : W = wordNum c) : numsOf hand c = [38, W] := by
  unfold numsOf
  rw [if_pos hq, hw]
theorem nums_miss {hand c : Nat} (hq : hits hand c = false) : numsOf hand c = [(c : Int)] := by
  unfold numsOf
  rw [hq]
  rfl
theorem du_ints {l : List Nat} {hand i c : Nat} {us : List Value} {ns : List Int} {vs : List Value} (hus : IntsAre us ((l.take i).flatMap (numsOf hand))) (hc : l[i]? = some c) (hn : numsOf hand c = ns) (hv : IntsAre vs ns) :
    IntsAre (us ++ vs) ((l.take (i + 1)).flatMap (numsOf hand)) := by
  rw [List.take_add_one, hc, List.flatMap_append]
  show IntsAre _ (_ ++ [c].flatMap (numsOf hand))
  rw [List.flatMap_singleton, hn]
  exact ints_app hus hv
theorem du_all {l : List Nat} {hand : Nat} {us : List Value} {x : Str} (W : Wr l (fun k => [k]) x) (h : IntsAre us ((l.take x.cps.size).flatMap (numsOf hand))) : IntsAre us (l.flatMap (numsOf hand)) := by
  have e : l.take x.cps.size = l := by rw [← W.list, Array.size_eq_length_toList, List.take_length]
  rwa [e] at h
theorem du_hit {l : List Nat} {hand i c k : Nat} {us : List Value} {W : Int} {t1 t2 : Tok} {D Nd C : Addr} {od o : Obj} {m₀ : Str → Option Value} {v a A : Option Value} (hus : IntsAre us ((l.take i).flatMap (numsOf hand))) (hc : l[i]? = some c) (hq : hits hand c = true) (hw : W = wordNum c) (hv : o.data = .cell v) :
    DuJ l hand D Nd C od m₀ (i + 1) (fun y => if y = Str.ofString "sign" then A else signSet m₀ a y) [(D, listOf ((us.toArray.push (.int 38 t1)).push (.int W t2)) k), (Nd, od), (C, o)] := by
  refine ⟨us ++ [.int 38 t1, .int W t2], k, o, A, v, by simp, hv, du_ints hus hc (nums_hit hq hw) (.cons _ _ (.cons _ _ .nil)), ?_⟩
  funext y
  unfold signSet
  by_cases h : y = Str.ofString "sign"
  · rw [if_pos h, if_pos h]
  · rw [if_neg h, if_neg h, if_neg h]
theorem du_miss {l : List Nat} {hand i c k : Nat} {us : List Value} {W : Int} {t1 : Tok} {D Nd C : Addr} {od o : Obj} {m₀ : Str → Option Value} {v a A : Option Value} (hus : IntsAre us ((l.take i).flatMap (numsOf hand))) (hc : l[i]? = some c) (hq : hits hand c = false) (hw : W = (c : Int)) (hv : o.data = .cell v) :
    DuJ l hand D Nd C od m₀ (i + 1) (fun y => if y = Str.ofString "sign" then A else signSet m₀ a y) [(D, listOf (us.toArray.push (.int W t1)) k), (Nd, od), (C, o)] := by
  refine ⟨us ++ [.int W t1], k, o, A, v, by simp, hv, du_ints hus hc (hw ▸ nums_miss hq) (.cons _ _ .nil), ?_⟩
  funext y
  unfold signSet
  by_cases h : y = Str.ofString "sign"
  · rw [if_pos h, if_pos h]
  · rw [if_neg h, if_neg h, if_neg h]
theorem du_hitE {l : List Nat} {hand i c k : Nat} {us : List Value} {W : Int} {t1 t2 : Tok} {D Nd C : Addr} {od o : Obj} {m₀ : Str → Option Value} {v a A : Option Value} {hp h' : Heap} {L' : Addr} {own : List (Addr × Obj)} {s₁ : Shared} {tk : Nat} {d : Addr × Obj}
    (F : Fr hp L' h' (fun y => if y = Str.ofString "sign" then A else signSet m₀ a y)) (N : News hp L' h' (d :: (D, listOf ((us.toArray.push (.int 38 t1)).push (.int W t2)) k) :: (Nd, od) :: (C, o) :: own))
    (hus : IntsAre us ((l.take i).flatMap (numsOf hand))) (hc : l[i]? = some c) (hq : hits hand c = true) (hv : o.data = .cell v) (hw : W = wordNum c) :
    InvEndN hp L' (DuJ l hand D Nd C od m₀ (i + 1)) own [D, Nd, C] s₁ { s₁ with heap := h', toks := tk } :=
  InvEndN.intro F N (du_hit hus hc hq hw hv) rfl (fun p hp => by
    rcases List.mem_cons.mp hp with rfl | hp
    · exact .tail _ (.head _)
    · rcases List.mem_cons.mp hp with rfl | hp
      · exact .tail _ (.tail _ (.head _))
      · rw [List.mem_singleton.mp hp]
        exact .tail _ (.tail _ (.tail _ (.head _)))) fun p hp => .tail _ (.tail _ (.tail _ (.tail _ hp)))
theorem du_missE {l : List Nat} {hand i c k : Nat} {us : List Value} {W : Int} {t1 : Tok} {D Nd C : Addr} {od o : Obj} {m₀ : Str → Option Value} {v a A : Option Value} {hp h' : Heap} {L' : Addr} {own : List (Addr × Obj)} {s₁ : Shared} {tk : Nat}
    (F : Fr hp L' h' (fun y => if y = Str.ofString "sign" then A else signSet m₀ a y)) (N : News hp L' h' ((D, listOf (us.toArray.push (.int W t1)) k) :: (Nd, od) :: (C, o) :: own))
    (hus : IntsAre us ((l.take i).flatMap (numsOf hand))) (hc : l[i]? = some c) (hq : hits hand c = false) (hv : o.data = .cell v) (hw : W = (c : Int)) :
    InvEndN hp L' (DuJ l hand D Nd C od m₀ (i + 1)) own [D, Nd, C] s₁ { s₁ with heap := h', toks := tk } :=
  InvEndN.intro F N (du_miss hus hc hq hw hv) rfl (fun p hp => by
    rcases List.mem_cons.mp hp with rfl | hp
    · exact .head _
    · rcases List.mem_cons.mp hp with rfl | hp
      · exact .tail _ (.head _)
      · rw [List.mem_singleton.mp hp]
        exact .tail _ (.tail _ (.head _))) fun p hp => .tail _ (.tail _ (.tail _ hp))
set_option maxHeartbeats 8000000 in
theorem due_told (w : World) (mean : ExcName → Option Value) (mg mb : Str → Option Value) (l : List Nat) (hand : Nat) : Tell w mean mg mb 109 4 (DueRel l hand) (DueOut l hand) := by
  unfold Tell
  k_fill
  intro dp un gd cn cs a ccd cl outer A₀ base h₀ L m hp gs dr tk os vs Q E B F X T hk hR hd hu hret
  cases hR with
  | mk W hll ha h5 =>
  k_dflt (refine' tell_inC ?k1 ?k2 ?k3 ?k5 ?kK ?k6 ?k7 ?k8 ?k9 ?kB ?kD ?_ ?c2 ?c3 ?c4; (case k1 => k_asm); (case k2 => k_asm); (case k3 => k_asm); (case k5 => k_asm); (case kK => assumption); (case k6 => k_is); (case k7 => k_is); (case k8 => omega); (case k9 => exact BindsTo.of_eq rfl); (case kB => exact rfl); (case kD => decide +kernel); (case c2 => exact rfl); (case c3 => exact rfl); (case c4 => exact rfl); k_whole; clear B F X T hk; intro L' h' tk' cells' F' N' Y' B' X' T'; k_cells Y'; (try simp only [List.cons_append, List.nil_append] at N'); (try dsimp only); (try k_fold))
  rename_i o1 d1
  replace d1 : o1.data = .cell none := d1
  have hsm : StopMark := trivial
  repeat' (first | ((with_reducible show StopK 1 _); unfold StopK; first | ((rename StopHere => hgm); clear hgm; (rename Fr hp _ _ _ => F8); (rename News hp _ _ _ => N8); (try simp only [List.push_toArray] at N8); refine turn_cut c F8 N8 ?_ ?_; (focus (rcases hca with rfl | rfl | rfl | rfl | rfl | rfl <;> first | (exfalso; cases hq; done) | (k_steps; all_goals ((rename Fr hp _ _ _ => F7); (rename News hp _ _ _ => N7); (rename (_ = Data.cell (some (Value.str _ _))) => d7); exact ⟨rfl, _, _, _, _, rfl, F7, N7, d7⟩)))); intro u' h' tk' o' F' N' hd'; clear F8 N8)) | ((with_reducible show StopK 2 _); unfold StopK; first | ((rename hitB _ _ = _ => hb9); k_dflt (refine in_hitS hb9 (by with_unfolding_all rfl) ?_))) | ((with_reducible show StopK 3 _); unfold StopK; first | ((rename (0 ≤ _) => hl9); (rename (_ < 0 + _) => hh9); k_dflt (refine pow_int_small hl9 (rev_pow hh9 hrl) (by decide) ?_))) | ((with_reducible show StopK 4 _); unfold StopK; first | ((rename (0 ≤ _) => hl9); (rename (_ < 0 + _) => hh9); k_dflt (refine KXi.item (n := (revW c).length) rfl (rev_lo hl9) (rev_hi hh9) (Nat.le_trans hrl (by decide)) ?_); intro kxiE)) | ((with_reducible show StopK 5 _); unfold StopK; first | ((with_reducible show wpAny _ _ (call (Value.builtin _) [Value.ref _, _]) _ _ _); k_dflt (refine' append_K ?k1 ?k2 ?k3 ?_ ?z; (case k1 => k_asm); (case k2 => k_asm); (case k3 => k_upd); (case z => (simp only [Array.size_push, List.size_toArray, List.length_append, List.length_cons, List.length_nil, PySem.sizeLine_eq]; omega)); k_whole); intro h' F' N'; (try k_sweep))) | (k_unfold; (try dsimp only)) | (k_end; wrow_close) | ((with_reducible show wpAny _ _ (execs _ _) _ _ _); (try dsimp only); (try k_fold); walk1) | ((with_reducible show wpAny _ _ (eval (Expr.Call _ _ _ _) _) _ _ _); (try k_fold); walk1) | walk1 | (dsimp only; walk1) | (leave1; walk_say "STEP leave1"; try dsimp only))
  unfold Stop2
  (rename Fr hp _ _ _ => F9)
  k_dflt (refine cut_at F9 (DuCut hand hp gs dr os L' o1) ?_ ?_)
  · have h5' : hand = 0 ∨ hand = 1 ∨ hand = 2 ∨ hand = 3 ∨ hand = 4 := by omega
    rcases h5' with rfl | rfl | rfl | rfl | rfl
    all_goals
      repeat' (first | ((with_reducible show StopK 1 _); unfold StopK; first | ((rename StopHere => hgm); clear hgm; (rename Fr hp _ _ _ => F8); (rename News hp _ _ _ => N8); (try simp only [List.push_toArray] at N8); refine turn_cut c F8 N8 ?_ ?_; (focus (rcases hca with rfl | rfl | rfl | rfl | rfl | rfl <;> first | (exfalso; cases hq; done) | (k_steps; all_goals ((rename Fr hp _ _ _ => F7); (rename News hp _ _ _ => N7); (rename (_ = Data.cell (some (Value.str _ _))) => d7); exact ⟨rfl, _, _, _, _, rfl, F7, N7, d7⟩)))); intro u' h' tk' o' F' N' hd'; clear F8 N8)) | ((with_reducible show StopK 2 _); unfold StopK; first | ((rename hitB _ _ = _ => hb9); k_dflt (refine in_hitS hb9 (by with_unfolding_all rfl) ?_))) | ((with_reducible show StopK 3 _); unfold StopK; first | ((rename (0 ≤ _) => hl9); (rename (_ < 0 + _) => hh9); k_dflt (refine pow_int_small hl9 (rev_pow hh9 hrl) (by decide) ?_))) | ((with_reducible show StopK 4 _); unfold StopK; first | ((rename (0 ≤ _) => hl9); (rename (_ < 0 + _) => hh9); k_dflt (refine KXi.item (n := (revW c).length) rfl (rev_lo hl9) (rev_hi hh9) (Nat.le_trans hrl (by decide)) ?_); intro kxiE)) | ((with_reducible show StopK 5 _); unfold StopK; first | ((with_reducible show wpAny _ _ (call (Value.builtin _) [Value.ref _, _]) _ _ _); k_dflt (refine' append_K ?k1 ?k2 ?k3 ?_ ?z; (case k1 => k_asm); (case k2 => k_asm); (case k3 => k_upd); (case z => (simp only [Array.size_push, List.size_toArray, List.length_append, List.length_cons, List.length_nil, PySem.sizeLine_eq]; omega)); k_whole); intro h' F' N'; (try k_sweep))) | (k_unfold; (try dsimp only)) | (k_end; wrow_close) | ((with_reducible show wpAny _ _ (execs _ _) _ _ _); (try dsimp only); (try k_fold); walk1) | ((with_reducible show wpAny _ _ (eval (Expr.Call _ _ _ _) _) _ _ _); (try k_fold); walk1) | walk1 | (dsimp only; walk1) | (leave1; walk_say "STEP leave1"; try dsimp only))
      (rename Fr hp _ _ _ => kF)
      (rename News hp _ _ _ => kN)
      exact ⟨rfl, _, _, _, _, rfl, kF, fun p hp => kN p (by k_ownIn), show ∀ c ∈ alph, hitB _ c = hits _ c from by decide +kernel⟩
  · rintro f s' ⟨rfl, sp, t, h, tk, rfl, F1, N1, hh⟩
    clear F9
    (try dsimp only)
    repeat' (first | ((with_reducible show StopK 1 _); unfold StopK; first | ((rename StopHere => hgm); clear hgm; (rename Fr hp _ _ _ => F8); (rename News hp _ _ _ => N8); (try simp only [List.push_toArray] at N8); refine turn_cut c F8 N8 ?_ ?_; (focus (rcases hca with rfl | rfl | rfl | rfl | rfl | rfl <;> first | (exfalso; cases hq; done) | (k_steps; all_goals ((rename Fr hp _ _ _ => F7); (rename News hp _ _ _ => N7); (rename (_ = Data.cell (some (Value.str _ _))) => d7); exact ⟨rfl, _, _, _, _, rfl, F7, N7, d7⟩)))); intro u' h' tk' o' F' N' hd'; clear F8 N8)) | ((with_reducible show StopK 2 _); unfold StopK; first | ((rename hitB _ _ = _ => hb9); k_dflt (refine in_hitS hb9 (by with_unfolding_all rfl) ?_))) | ((with_reducible show StopK 3 _); unfold StopK; first | ((rename (0 ≤ _) => hl9); (rename (_ < 0 + _) => hh9); k_dflt (refine pow_int_small hl9 (rev_pow hh9 hrl) (by decide) ?_))) | ((with_reducible show StopK 4 _); unfold StopK; first | ((rename (0 ≤ _) => hl9); (rename (_ < 0 + _) => hh9); k_dflt (refine KXi.item (n := (revW c).length) rfl (rev_lo hl9) (rev_hi hh9) (Nat.le_trans hrl (by decide)) ?_); intro kxiE)) | ((with_reducible show StopK 5 _); unfold StopK; first | ((with_reducible show wpAny _ _ (call (Value.builtin _) [Value.ref _, _]) _ _ _); k_dflt (refine' append_K ?k1 ?k2 ?k3 ?_ ?z; (case k1 => k_asm); (case k2 => k_asm); (case k3 => k_upd); (case z => (simp only [Array.size_push, List.size_toArray, List.length_append, List.length_cons, List.length_nil, PySem.sizeLine_eq]; omega)); k_whole); intro h' F' N'; (try k_sweep))) | (k_unfold; (try dsimp only)) | (k_end; wrow_close) | ((with_reducible show wpAny _ _ (execs _ _) _ _ _); (try dsimp only); (try k_fold); walk1) | ((with_reducible show wpAny _ _ (eval (Expr.Call _ _ _ _) _) _ _ _); (try k_fold); walk1) | walk1 | (dsimp only; walk1) | (leave1; walk_say "STEP leave1"; try dsimp only))
    unfold Stop2
    (rename Fr hp _ _ _ => F9)
    (rename News hp _ _ _ => N9)
    k_dflt (refine' For_go F9 ?_ (fun _ _ => rfl) (fun _ => rfl) ?_)
    · walk1
      refine go_str2 (DuJ l hand _ _ _ _) rfl F9 N9 (du_start d1) ?_ ?_
      · rintro i c t m₁ nx h tk own hc hadr ho ⟨us, cc, o, a, v, rfl, hv, hus, rfl⟩ F₁ N₁
        simp only [List.cons_append, List.nil_append] at N₁
        clear F9 N9
        simp only [List.map_cons, List.map_nil] at ho
        have hcl : l[i]? = some c := by rw [W.list] at hc; exact hc
        have hca : c ∈ alph := ha _ (List.mem_of_getElem? hcl)
        have hil : i < l.length := (List.getElem?_eq_some_iff.mp hcl).1
        have hulen : us.length ≤ 14 := du_len hus hll
        have hb := hh c hca
        cases hq : hits hand c
        · rw [hq] at hb
          (try dsimp only)
          (try k_fold)
          repeat' (first | ((with_reducible show StopK 1 _); unfold StopK; first | ((rename StopHere => hgm); clear hgm; (rename Fr hp _ _ _ => F8); (rename News hp _ _ _ => N8); (try simp only [List.push_toArray] at N8); refine turn_cut c F8 N8 ?_ ?_; (focus (rcases hca with rfl | rfl | rfl | rfl | rfl | rfl <;> first | (exfalso; cases hq; done) | (k_steps; all_goals ((rename Fr hp _ _ _ => F7); (rename News hp _ _ _ => N7); (rename (_ = Data.cell (some (Value.str _ _))) => d7); exact ⟨rfl, _, _, _, _, rfl, F7, N7, d7⟩)))); intro u' h' tk' o' F' N' hd'; clear F8 N8)) | ((with_reducible show StopK 2 _); unfold StopK; first | ((rename hitB _ _ = _ => hb9); k_dflt (refine in_hitS hb9 (by with_unfolding_all rfl) ?_))) | ((with_reducible show StopK 3 _); unfold StopK; first | ((rename (0 ≤ _) => hl9); (rename (_ < 0 + _) => hh9); k_dflt (refine pow_int_small hl9 (rev_pow hh9 hrl) (by decide) ?_))) | ((with_reducible show StopK 4 _); unfold StopK; first | ((rename (0 ≤ _) => hl9); (rename (_ < 0 + _) => hh9); k_dflt (refine KXi.item (n := (revW c).length) rfl (rev_lo hl9) (rev_hi hh9) (Nat.le_trans hrl (by decide)) ?_); intro kxiE)) | ((with_reducible show StopK 5 _); unfold StopK; first | ((with_reducible show wpAny _ _ (call (Value.builtin _) [Value.ref _, _]) _ _ _); k_dflt (refine' append_K ?k1 ?k2 ?k3 ?_ ?z; (case k1 => k_asm); (case k2 => k_asm); (case k3 => k_upd); (case z => (simp only [Array.size_push, List.size_toArray, List.length_append, List.length_cons, List.length_nil, PySem.sizeLine_eq]; omega)); k_whole); intro h' F' N'; (try k_sweep))) | (k_unfold; (try dsimp only)) | (k_end; wrow_close) | ((with_reducible show wpAny _ _ (execs _ _) _ _ _); (try dsimp only); (try k_fold); walk1) | ((with_reducible show wpAny _ _ (eval (Expr.Call _ _ _ _) _) _ _ _); (try k_fold); walk1) | walk1 | (dsimp only; walk1) | (leave1; walk_say "STEP leave1"; try dsimp only))
          unfold Stop2
          (rename Fr hp _ _ _ => kF)
          (rename News hp _ _ _ => kN)
          exact du_missE kF kN hus hcl hq hv (by rfl)
        · rw [hq] at hb
          simp only [alph, List.mem_cons, List.not_mem_nil, or_false] at hca
          have hrl := rev_len c
          have hgm : StopHere := trivial
          (try dsimp only)
          (try k_fold)
          repeat' (first | ((with_reducible show StopK 1 _); unfold StopK; first | ((rename StopHere => hgm); clear hgm; (rename Fr hp _ _ _ => F8); (rename News hp _ _ _ => N8); (try simp only [List.push_toArray] at N8); refine turn_cut c F8 N8 ?_ ?_; (focus (rcases hca with rfl | rfl | rfl | rfl | rfl | rfl <;> first | (exfalso; cases hq; done) | (k_steps; all_goals ((rename Fr hp _ _ _ => F7); (rename News hp _ _ _ => N7); (rename (_ = Data.cell (some (Value.str _ _))) => d7); exact ⟨rfl, _, _, _, _, rfl, F7, N7, d7⟩)))); intro u' h' tk' o' F' N' hd'; clear F8 N8)) | ((with_reducible show StopK 2 _); unfold StopK; first | ((rename hitB _ _ = _ => hb9); k_dflt (refine in_hitS hb9 (by with_unfolding_all rfl) ?_))) | ((with_reducible show StopK 3 _); unfold StopK; first | ((rename (0 ≤ _) => hl9); (rename (_ < 0 + _) => hh9); k_dflt (refine pow_int_small hl9 (rev_pow hh9 hrl) (by decide) ?_))) | ((with_reducible show StopK 4 _); unfold StopK; first | ((rename (0 ≤ _) => hl9); (rename (_ < 0 + _) => hh9); k_dflt (refine KXi.item (n := (revW c).length) rfl (rev_lo hl9) (rev_hi hh9) (Nat.le_trans hrl (by decide)) ?_); intro kxiE)) | ((with_reducible show StopK 5 _); unfold StopK; first | ((with_reducible show wpAny _ _ (call (Value.builtin _) [Value.ref _, _]) _ _ _); k_dflt (refine' append_K ?k1 ?k2 ?k3 ?_ ?z; (case k1 => k_asm); (case k2 => k_asm); (case k3 => k_upd); (case z => (simp only [Array.size_push, List.size_toArray, List.length_append, List.length_cons, List.length_nil, PySem.sizeLine_eq]; omega)); k_whole); intro h' F' N'; (try k_sweep))) | (k_unfold; (try dsimp only)) | (k_end; wrow_close) | ((with_reducible show wpAny _ _ (execs _ _) _ _ _); (try dsimp only); (try k_fold); walk1) | ((with_reducible show wpAny _ _ (eval (Expr.Call _ _ _ _) _) _ _ _); (try k_fold); walk1) | walk1 | (dsimp only; walk1) | (leave1; walk_say "STEP leave1"; try dsimp only))
          unfold Stop2
          (rename Fr hp _ _ _ => kF)
          (rename News hp _ _ _ => kN)
          (rename (_ = Data.cell (some (Value.str _ _))) => hd9)
          rw [← List.push_toArray] at kN
          exact du_hitE kF kN hus hcl hq hd9 (by rcases hca with rfl | rfl | rfl | rfl | rfl | rfl <;> first | decide +kernel | cases hq)
      · rintro m₁ nx h tk ⟨us, cc, o, a, v, rfl, hv, hus, rfl⟩ hadr F₁ N₁
        clear F9 N9
        (try dsimp only)
        (try k_fold)
        repeat' (first | ((with_reducible show StopK 1 _); unfold StopK; first | ((rename StopHere => hgm); clear hgm; (rename Fr hp _ _ _ => F8); (rename News hp _ _ _ => N8); (try simp only [List.push_toArray] at N8); refine turn_cut c F8 N8 ?_ ?_; (focus (rcases hca with rfl | rfl | rfl | rfl | rfl | rfl <;> first | (exfalso; cases hq; done) | (k_steps; all_goals ((rename Fr hp _ _ _ => F7); (rename News hp _ _ _ => N7); (rename (_ = Data.cell (some (Value.str _ _))) => d7); exact ⟨rfl, _, _, _, _, rfl, F7, N7, d7⟩)))); intro u' h' tk' o' F' N' hd'; clear F8 N8)) | ((with_reducible show StopK 2 _); unfold StopK; first | ((rename hitB _ _ = _ => hb9); k_dflt (refine in_hitS hb9 (by with_unfolding_all rfl) ?_))) | ((with_reducible show StopK 3 _); unfold StopK; first | ((rename (0 ≤ _) => hl9); (rename (_ < 0 + _) => hh9); k_dflt (refine pow_int_small hl9 (rev_pow hh9 hrl) (by decide) ?_))) | ((with_reducible show StopK 4 _); unfold StopK; first | ((rename (0 ≤ _) => hl9); (rename (_ < 0 + _) => hh9); k_dflt (refine KXi.item (n := (revW c).length) rfl (rev_lo hl9) (rev_hi hh9) (Nat.le_trans hrl (by decide)) ?_); intro kxiE)) | ((with_reducible show StopK 5 _); unfold StopK; first | ((with_reducible show wpAny _ _ (call (Value.builtin _) [Value.ref _, _]) _ _ _); k_dflt (refine' append_K ?k1 ?k2 ?k3 ?_ ?z; (case k1 => k_asm); (case k2 => k_asm); (case k3 => k_upd); (case z => (simp only [Array.size_push, List.size_toArray, List.length_append, List.length_cons, List.length_nil, PySem.sizeLine_eq]; omega)); k_whole); intro h' F' N'; (try k_sweep))) | (k_unfold; (try dsimp only)) | (k_end; wrow_close) | ((with_reducible show wpAny _ _ (execs _ _) _ _ _); (try dsimp only); (try k_fold); walk1) | ((with_reducible show wpAny _ _ (eval (Expr.Call _ _ _ _) _) _ _ _); (try k_fold); walk1) | walk1 | (dsimp only; walk1) | (leave1; walk_say "STEP leave1"; try dsimp only))
        (rename Fr hp _ _ _ => kF)
        (rename News hp _ _ _ => kN)
        exact hret _ [(_, _)] _ _ kF.keep (made_of kN fun p q => by rw [List.mem_singleton.mp q]; exact .head _) ⟨_, us, cc, rfl, rfl, du_all W hus⟩
    · walk1
end Mine
end

section
theorem Mine.fresh_T_tok : True := by
  w_top off
  trivial
namespace Mine
theorem runs_toks {M : Model} {Γ : PySem.Ctx} {p : Pos} {t : Sem Fin} {fs : List Frame} {s s' : Shared} {e : End} (h : Runs M Γ p t fs s e s') : s.toks ≤ s'.toks := by
  induction h with
  | done | raise | yield => exact Nat.le_refl _
  | fresh _ ih => exact Nat.le_of_succ_le ih
  | again _ _ ih | load _ _ ih | update _ _ ih | choose _ _ ih | genState _ _ ih | resumeThrowFresh _ _ ih | resumeRunning _ _ ih | resumeFinished _ _ ih | segSuspOut _ _ ih => exact ih
  | resumeJustStarted _ _ _ ih => exact ih
  | rule _ ih | «at» _ ih | loadIfAlive _ ih | point _ ih | alloc _ ih | ask _ ih | os _ ih | handled _ ih | stack _ ih | thread _ ih | newGen _ ih | callSusp _ ih => exact ih
  | call _ _ ih1 ih2 | segRet _ _ ih1 ih2 | segGen _ _ ih1 ih2 => exact Nat.le_trans ih1 ih2
  | resumeFresh _ _ _ _ ih1 ih2 | resumeSuspended _ _ _ _ ih1 ih2 | segSuspGen _ _ _ _ ih1 ih2 => exact Nat.le_trans ih1 ih2
theorem wakes_toks {M : Model} {Γ : PySem.Ctx} {p : Pos} {g : Nat} {r : Resume} {s s' : Shared} {res : GenResult} (h : Wakes M Γ p g r s res s') : s.toks ≤ s'.toks := by
  unfold Wakes at h
  split at h
  · exact h.elim
  · split at h
    · obtain ⟨e₁, s₁, hr, _, _, rfl⟩ := h
      have h1 := runs_toks hr
      exact h1
    · rw [h.2]
      exact Nat.le_refl _
    · rw [h.2]
      exact Nat.le_refl _
  · obtain ⟨e₁, s₁, hr, _, _, rfl⟩ := h
    have h1 := runs_toks hr
    exact h1
  all_goals (rw [h.2]; exact Nat.le_refl _)
theorem wp_toks {X : Type} (M : Model) (Γ : PySem.Ctx) (tree : Sem X) {Q : X → Pos → Shared → Prop} {E : Value → Pos → Shared → Prop} (n : Nat) :
    ∀ (p : Pos) (s : Shared), n ≤ s.toks → Sem.wp M Γ tree Q E p s → Sem.wp M Γ tree (fun a p' s' => n ≤ s'.toks ∧ Q a p' s') (fun e p' s' => n ≤ s'.toks ∧ E e p' s') p s := by
  induction tree with
  | pure x => exact fun _ _ hn h => ⟨hn, h⟩
  | raise v => exact fun _ _ hn h => ⟨hn, h⟩
  | unsupported | finish | yield | fork | await | register => exact fun _ _ _ h => h
  | rule _ k ih | «at» _ k ih | alloc _ k ih | loadIfAlive _ k ih | point _ k ih | ask k ih | os _ _ k ih | handled _ k ih | newGen _ k ih | stack k ih | thread k ih => exact fun _ _ hn h => ih _ _ _ hn h
  | fresh k ih => exact fun _ _ hn h => ih _ _ _ (Nat.le_succ_of_le hn) h
  | load a _ k ih | genState a k ih => exact fun _ _ hn ⟨o, ho, h⟩ => ⟨o, ho, ih _ _ _ hn h⟩
  | update a _ f k ih | choose _ _ k ih => exact fun _ _ hn ⟨ha, h⟩ => ⟨ha, ih _ _ _ hn h⟩
  | call c h g l k ih => exact fun _ _ hn ⟨r, s', hr, h⟩ => ⟨r, s', hr, ih _ _ _ (Nat.le_trans hn (runs_toks hr)) h⟩
  | resume g r l k ih => exact fun _ _ hn ⟨res, s', hw, h⟩ => ⟨res, s', hw, ih _ _ _ (Nat.le_trans hn (wakes_toks hw)) h⟩
section
variable {X : Type} {M : Model} {A : Around} {t : Sem X} {Q : X → Shared → Prop} {E : Value → Shared → Prop} {s : Shared}
/-- tokens only grow -/
theorem wpAny_up (h : wpAny M A t (fun a s' => s.toks ≤ s'.toks → Q a s') E s) : wpAny M A t Q E s := fun Γ p hΓ =>
  Sem.wp_mono M Γ t (fun _ _ _ x => x.2 x.1) (fun _ _ _ x => x.2) p s (wp_toks M Γ t s.toks p s (Nat.le_refl _) (h Γ p hΓ))
theorem gen_le {hp : Heap} {gs : Array GenState} {dr : Drawn} {tk : Nat} {os : OsState} (h : ∀ tk', tk ≤ tk' → wpAny M A t Q E ⟨hp, gs, dr, tk', os⟩) : wpAny M A t Q E ⟨hp, gs, dr, tk, os⟩ := h tk (Nat.le_refl _)
theorem has_le {hp : Heap} {gs : Array GenState} {dr : Drawn} {n tk : Nat} {os : OsState} (_h0 : n ≤ tk) (h : wpAny M A t Q E ⟨hp, gs, dr, tk, os⟩) : wpAny M A t Q E ⟨hp, gs, dr, tk, os⟩ := h
end
/-- like Tell, of tokens above nought: Rel sees the token at the call, Out the one at the end -/
def TellP (w : World) (mean : ExcName → Option Value) (mg mb : Str → Option Value) (f : Addr) (dep : Nat) (Rel : Heap → List Value → Nat → Prop) (Out : List (Addr × Obj) → Value → Nat → Prop) : Prop :=
  ∀ (dp un : Nat) (gd : Option (List Code)) (cn : Str) (cs : Scope) (a : Addr) (ccd : Value) (cl : List (Str × Addr)) (outer : List Env) (A₀ : Around) (base h₀ : Heap) (L : Addr) (m : Str → Option Value) (hp : Heap) (gs : Array GenState) (dr : Drawn) (tk : Nat) (os : OsState) (vs : List Value)
    (Q E : Value → Shared → Prop),
    Below A₀ base outer h₀ → Fr h₀ L hp m → (hd.heap_39 w.params).In h₀ → Top hd.view_39 (looseW hd.view_39 [Str.ofString "COMPILER_FLAG_NAMES"]) mean mg mb h₀ → cs.kind = .function → Rel hp vs tk → dp + dep < recursionLimit → un + 8 * dep + 1000 < cLine → 0 < tk →
    (∀ r tl h' tk', (∀ b o, hp.get? b = some o → h'.get? b = some o) → (∀ p ∈ tl, h'.get? p.1 = some p.2 ∧ hp.get? p.1 = none) → 0 < tk' → Out tl r tk' → Q r ⟨h', gs, dr, tk', os⟩) →
    wpAny (model PySem.Challenge.rw_tr0038_01.row.prog w) (ktrTop dp un gd cn cs L a ccd cl outer) (call (.ref f) vs) Q E ⟨hp, gs, dr, tk, os⟩
section
variable {w : World} {mean : ExcName → Option Value} {mg mb : Str → Option Value} {f : Addr} {dep : Nat}
theorem tellP_use {Rel : Heap → List Value → Nat → Prop} {Out : List (Addr × Obj) → Value → Nat → Prop} {dp un : Nat} {gd : Option (List Code)} {cn : Str} {cs : Scope} {a : Addr} {ccd : Value} {cl : List (Str × Addr)} {outer : List Env} {A₀ : Around} {base h₀ : Heap} {L : Addr} {m : Str → Option Value} {news : List (Addr × Obj)} {hp : Heap} {gs : Array GenState} {dr : Drawn} {tk : Nat} {os : OsState} {vs : List Value}
    {Q E : Value → Shared → Prop} (C : TellP w mean mg mb f dep Rel Out) (B : Below A₀ base outer h₀) (F : Fr h₀ L hp m) (X : (hd.heap_39 w.params).In h₀) (N : News h₀ L hp news) (T : Top hd.view_39 (looseW hd.view_39 [Str.ofString "COMPILER_FLAG_NAMES"]) mean mg mb h₀) (hk : cs.kind = .function)
    (R : Rel hp vs tk) (hd : dp + dep < recursionLimit) (hu : un + 8 * dep + 1000 < cLine) (h0 : 0 < tk)
    (ret : ∀ r tl h' tk', 0 < tk' → Out tl r tk' → Fr h₀ L h' m → News h₀ L h' (tl ++ news) → (∀ p ∈ tl, Apart p.1 news) → Q r ⟨h', gs, dr, tk', os⟩) :
    wpAny (model PySem.Challenge.rw_tr0038_01.row.prog w) (ktrTop dp un gd cn cs L a ccd cl outer) (call (.ref f) vs) Q E ⟨hp, gs, dr, tk, os⟩ :=
  C _ _ _ _ _ _ _ _ _ _ _ _ _ _ _ _ _ _ _ _ _ _ B F X T hk R hd hu h0 fun r tl h' tk' k ht h0' ho => ret r tl h' tk' h0' ho (F.grownK k) (news_more F N k ht) (news_apart N ht)
/-- a contract's use where tokens are above nought -/
theorem tell_useP {Rel : Heap → List Value → Prop} {Out : List (Addr × Obj) → Value → Prop} {dp un : Nat} {gd : Option (List Code)} {cn : Str} {cs : Scope} {a : Addr} {ccd : Value} {cl : List (Str × Addr)} {outer : List Env} {A₀ : Around} {base h₀ : Heap} {L : Addr} {m : Str → Option Value} {news : List (Addr × Obj)} {hp : Heap} {gs : Array GenState} {dr : Drawn} {tk : Nat} {os : OsState} {vs : List Value}
    {Q E : Value → Shared → Prop} (C : Tell w mean mg mb f dep Rel Out) (B : Below A₀ base outer h₀) (F : Fr h₀ L hp m) (X : (hd.heap_39 w.params).In h₀) (N : News h₀ L hp news) (T : Top hd.view_39 (looseW hd.view_39 [Str.ofString "COMPILER_FLAG_NAMES"]) mean mg mb h₀) (hk : cs.kind = .function)
    (R : Rel hp vs) (hd : dp + dep < recursionLimit) (hu : un + 8 * dep + 1000 < cLine) (h0 : 0 < tk)
    (ret : ∀ r tl h' tk', 0 < tk' → Out tl r → Fr h₀ L h' m → News h₀ L h' (tl ++ news) → (∀ p ∈ tl, Apart p.1 news) → Q r ⟨h', gs, dr, tk', os⟩) :
    wpAny (model PySem.Challenge.rw_tr0038_01.row.prog w) (ktrTop dp un gd cn cs L a ccd cl outer) (call (.ref f) vs) Q E ⟨hp, gs, dr, tk, os⟩ :=
  wpAny_up (tell_use C B F X N T hk R hd hu fun r tl h' tk' ho F' N' a' hle => ret r tl h' tk' (Nat.lt_of_lt_of_le h0 hle) ho F' N' a')
end
section
variable {w : World} {mean : ExcName → Option Value} {mg mb : Str → Option Value} {f : Addr}
variable {dp un : Nat} {gd : Option (List Code)} {cn : Str} {cs : Scope} {a : Addr} {ccd : Value} {cl : List (Str × Addr)} {outer : List Env} {A₀ : Around} {base h₀ : Heap} {L : Addr} {m : Str → Option Value} {hp : Heap} {gs : Array GenState} {dr : Drawn} {tk : Nat} {os : OsState} {vs : List Value} {prog : Program}
    {Q E : Value → Shared → Prop} {K : Frag} {p : Program} {loose : List Str} {name qual : Str} {params : Arguments} {body : List Stmt} {scope : Scope} {dV kV doc pm cdv ct oc : Value} {an od : Option Addr} {osl : Array (Option Value)} {binds : List (Str × Value)}
theorem tell_inP (B : Below A₀ base outer h₀) (F : Fr h₀ L hp m) (X₀ : K.In h₀) (T : Top p loose mean mg mb h₀) (hkc : cs.kind = .function)
    (ho : K.lookup f = some ⟨oc, od, .func (fnOf name qual params body scope dV kV doc pm an cdv ct), osl⟩) (hcd : codeIn K cdv qual = true) (hroom : dp < recursionLimit)
    (hbind : BindsTo ⟨hp, gs, dr, tk, os⟩ (fnOf name qual params body scope dV kV doc pm an cdv ct) ⟨vs, []⟩ binds) (hloc : ∀ y ∈ binds, scope.names.lookup y.1 = some .local)
    (h : ∀ L' h₁ tk', tk ≤ tk' → Fr hp L' h₁ (fun y => binds.reverse.lookup y) → News hp L' h₁ [] → Below (ktrTop dp un gd cn cs L a ccd cl outer) base (envX cn cs L a ccd cl :: outer) hp → K.In hp → Top p loose mean mg mb hp →
      wpAny (model prog w) ((ktrTop dp un gd cn cs L a ccd cl outer).deeper (envOf qual scope L' f cdv)) (execs body (envOf qual scope L' f cdv))
        (fun fl s' => Q (match fl with | .ret v => v | _ => .none) s')
        (fun e s' => wpAny (model prog w) ((ktrTop dp un gd cn cs L a ccd cl outer).deeper (envOf qual scope L' f cdv)) (leaving (envOf qual scope L' f cdv) e) (fun _ s'' => E e s'') (fun e' s'' => E e' s'') s')
        ⟨h₁, gs, dr, tk', os⟩)
    (hcell : ∀ x ∈ scope.names, x.2 ≠ .cell) (hco : scope.isCoroutine = false) (hgen : scope.isGenerator = false) (hk : scope.kind = .function) :
    wpAny (model prog w) (ktrTop dp un gd cn cs L a ccd cl outer) (call (.ref f) vs) Q E ⟨hp, gs, dr, tk, os⟩ := by
  refine wpAny_call (codeAny_call_def (fd := fnOf name qual params body scope dV kV doc pm an cdv ct) (body := body) (binds := binds) hroom ((X₀.keeps F.keep) _ _ ho) rfl (T.nolimit.keeps F.keep) (codeRec_of (X₀.keeps F.keep) hcd) rfl hbind hcell hloc (fun h₁ hns hk₁ => ?_) hco hgen hk)
  exact h hp.objs.size h₁ _ (by first | exact Nat.le_refl _ | exact Nat.le_succ _ | exact Nat.le_add_right _ _) ⟨hns, hk₁, Nat.le_refl _⟩ News.nil ⟨rfl, (pushX (env := envX cn cs L a ccd cl) B F rfl hkc).stays, (pushX (env := envX cn cs L a ccd cl) B F rfl hkc).frames⟩ (X₀.keeps F.keep) (T.keeps F.keep)
end
section
variable {w : World}
theorem none_booked {h₀ h : Heap} {L : Addr} {m : Str → Option Value} (X : (hd.heap_39 w.params).In h₀) (F : Fr h₀ L h m) : NoneBooked h := by
  have e := F.keep _ _ (X 2 { cls := .none, data := .dict #[] } (by kernel_rfl))
  exact ⟨fun _ => none, ⟨_, _, _, e, rfl, (fun _ h => by simp at h), fun _ => rfl⟩, rfl⟩
end
end Mine
end

section
theorem Mine.fresh_T_grow : True := by
  w_top off
  trivial
namespace Mine
/-- the end of a turn whose ledger may grow -/
def GrowEnd (h₀ : Heap) (L : Addr) (J : (Str → Option Value) → List (Addr × Obj) → Prop) (own : List (Addr × Obj)) (s₁ s₂ : Shared) : Prop :=
  ∃ h' tk m' news' nx, s₂ = { s₁ with heap := h', toks := tk } ∧ Fr h₀ L h' m' ∧ News h₀ L h' news' ∧ (∀ p ∈ nx, p ∈ news') ∧ (∀ p ∈ own, p ∈ news') ∧ OwnOff own (nx.map (·.1)) ∧ J m' nx
def GrowPost (h₀ : Heap) (L : Addr) (J : (Str → Option Value) → List (Addr × Obj) → Prop) (own : List (Addr × Obj)) (s₁ : Shared) (Q : Flow → Shared → Prop) (f : Flow) (s₂ : Shared) : Prop :=
  match f with
  | .ret v => Q (.ret v) s₂
  | .brk => Q .next s₂
  | _ => GrowEnd h₀ L J own s₁ s₂
section
variable {prog : Program} {w : World} {A : Around} {env : Env} {h₀ : Heap} {target iter : Expr} {body : List Stmt} {Q : Flow → Shared → Prop} {E : Value → Shared → Prop} {s : Shared}
/-- over a range, a ledger that may grow -/
def GrowAt (prog : Program) (w : World) (A : Around) (h₀ : Heap) (env : Env) (target : Expr) (body : List Stmt) (Q : Flow → Shared → Prop) (E : Value → Shared → Prop) (it : Value) (s : Shared) : Prop :=
  ∃ (I : Addr) (n : Nat) (P : Nat → Value → Prop) (St : Nat → Heap → Prop) (m : Str → Option Value) (news : List (Addr × Obj)) (J : Nat → (Str → Option Value) → List (Addr × Obj) → Prop),
    it = .ref I ∧ Walks prog w A I [I] [I] n P St ∧ (∀ i h, St i h → ∃ o, h.get? I = some o) ∧ env.locals ≠ I ∧ h₀.get? I = none ∧ (∀ p ∈ news, p.1 ≠ I) ∧ 0 < s.toks ∧ St 0 s.heap ∧ Fr h₀ env.locals s.heap m ∧ News h₀ env.locals s.heap news ∧ J 0 m news ∧
    (∀ i v m₁ nx h tk own, 0 < tk → i < n → P i v → OwnOff own (nx.map (·.1)) → J i m₁ nx → Fr h₀ env.locals h m₁ → News h₀ env.locals h (nx ++ own) →
      wpAny (model prog w) A (assign target env v) (fun _ s₂ => wpAny (model prog w) A (execs body env) (GrowPost h₀ env.locals (J (i + 1)) own { s with heap := h, toks := tk } Q) E s₂) E { s with heap := h, toks := tk }) ∧
    (∀ m₁ nx h tk, 0 < tk → J n m₁ nx → Fr h₀ env.locals h m₁ → News h₀ env.locals h nx → Q .next { s with heap := h, toks := tk })
theorem For_grow {pos : Pos} {m₀ : Str → Option Value} (_F : Fr h₀ env.locals s.heap m₀)
    (h : wpAny (model prog w) A (eval iter env) (fun xv s₁ => wpAny (model prog w) A (pyIter xv) (fun it s₂ => GrowAt prog w A h₀ env target body Q E it s₂) E s₁) E s)
    (ht : ∀ it v, letOwnedTupleGo target it v = pure ()) (hs : ∀ x, foldedSetIterable iter env x = pure x) (hE : PassesOwn (model prog w) A env E) :
    wpAny (model prog w) A (exec (.For target iter body [] pos) env) Q E s := by
  refine wpAny_For (wpAny_mono h (fun xv s₁ h₁ => wpAny_mono h₁ (fun it s h₂ => ?_) fun _ _ e => e) fun _ _ e => e) hs
  obtain ⟨I, n, P, St, m, news, J, rfl, W, hIo, hLI, hI₀, hnw, htk, hst, F, N, h0, step, done⟩ := h₂
  refine codeAny_forLoop
    (fun k s' => ∃ h' tk m' nx i, s' = { s with heap := h', toks := tk } ∧ 0 < tk ∧ St i h' ∧ Fr h₀ env.locals h' m' ∧ News h₀ env.locals h' nx ∧ (∀ p ∈ nx, p.1 ≠ I) ∧ J i m' nx ∧ i ≤ n ∧ k = n + 1 - i) ?_ (n + 1)
    ⟨s.heap, s.toks, m, news, 0, rfl, htk, hst, F, N, hnw, h0, Nat.zero_le _, rfl⟩ (ht _)
  rintro k s' ⟨h', tk, m', nx, i, rfl, htk', hst', F', N', hoff, hJ, hi, rfl⟩
  have next : ∀ h₁ : Heap, (∀ b o, b ∉ [I] → h'.get? b = some o → h₁.get? b = some o) → Fr h₀ env.locals h₁ m' ∧ News h₀ env.locals h₁ nx := fun h₁ hk₁ =>
    ⟨⟨F'.ns.at' fun o e => hk₁ _ o (by simpa using hLI) e, fun b o e => hk₁ b o (fun hm => by rw [List.mem_singleton.mp hm, hI₀] at e; cases e) (F'.keep b o e), F'.above⟩, fun p hp => ⟨hk₁ _ _ (by simpa using hoff p hp) (N' p hp).1, (N' p hp).2⟩⟩
  by_cases hlt : i < n
  · refine wpAny_up (W.item i _ _ _ hlt hst' fun v h₁ tk₁ hP hst₁ hk₁ hle₁ => ?_)
    have hp₁ : 0 < tk₁ := Nat.lt_of_lt_of_le htk' hle₁
    obtain ⟨F₁, N₁⟩ := next h₁ hk₁
    obtain ⟨oI, heI⟩ := hIo _ _ hst₁
    have N₂ : News h₀ env.locals h₁ (nx ++ [(I, oI)]) := fun p hp => (List.mem_append.mp hp).elim (N₁ p) fun q => by rw [List.mem_singleton.mp q]; exact ⟨heI, Ne.symm hLI, hI₀⟩
    have hsep : OwnOff [(I, oI)] (nx.map (·.1)) := fun p hp b hb e => by
      obtain ⟨q, hq, rfl⟩ := List.mem_map.mp hb
      rw [List.mem_singleton.mp hp] at e
      exact hoff q hq e.symm
    refine wpAny_up (wpAny_mono (wpAny_passesOwn hE (step i v m' nx h₁ tk₁ [(I, oI)] hp₁ hlt hP hsep hJ F₁ N₂)) (fun _ s₂ h₂ hle₂ => wpAny_up (wpAny_passesOwn hE (wpAny_mono h₂ (fun f s₃ h₃ hle₃ => ?_) fun _ _ e => e))) fun _ _ e => e)
    have hp₃ : 0 < s₃.toks := Nat.lt_of_lt_of_le hp₁ (Nat.le_trans hle₂ hle₃)
    have fin : GrowEnd h₀ env.locals (J (i + 1)) [(I, oI)] { s with heap := h₁, toks := tk₁ } s₃ → ∃ k', k' < n + 1 - i ∧ ∃ h' tk m' nx i, s₃ = { s with heap := h', toks := tk } ∧ 0 < tk ∧ St i h' ∧ Fr h₀ env.locals h' m' ∧ News h₀ env.locals h' nx ∧ (∀ p ∈ nx, p.1 ≠ I) ∧ J i m' nx ∧ i ≤ n ∧ k' = n + 1 - i := by
      rintro ⟨h₃', tk₃, m₂, news₂, nx₂, rfl, F₃, N₃, hn₃, ho₃, hoff₃, hJ₃⟩
      refine ⟨n + 1 - (i + 1), by omega, h₃', tk₃, m₂, nx₂, i + 1, rfl, hp₃, W.frame _ _ _ hst₁ fun b hb o e => ?_, F₃, fun p hp => N₃ p (hn₃ p hp), fun p hp e => hoff₃ (I, oI) (.head _) p.1 (List.mem_map_of_mem hp) e.symm, hJ₃, hlt, rfl⟩
      rw [List.mem_singleton.mp hb] at e ⊢
      rw [heI] at e
      rw [← Option.some.inj e]
      exact (N₃ _ (ho₃ _ (.head _))).1
    cases f with
    | ret v => exact h₃
    | brk => exact h₃
    | cont => exact fin h₃
    | next => exact fin h₃
  · have hin : i = n := by omega
    subst hin
    refine wpAny_up (W.done _ _ _ hst' fun h₁ tk₁ hk₁ hle₁ => ?_)
    obtain ⟨F₁, N₁⟩ := next h₁ hk₁
    exact wpAny_passesOwn hE (wpAny_execs_nil (done m' nx h₁ tk₁ (Nat.lt_of_lt_of_le htk' hle₁) hJ F₁ N₁))
theorem grow_range1 {b : Int} {u : Tok} {m : Str → Option Value} {news : List (Addr × Obj)} (J : (Str → Option Value) → Nat → (Str → Option Value) → List (Addr × Obj) → Prop)
    (hh : A.handled = none) (F : Fr h₀ env.locals s.heap m) (N : News h₀ env.locals s.heap news) (hb : 0 ≤ b) (hb' : b ≤ 1000) (hj : J m 0 m news)
    (turn : ∀ (i : Nat) t m₁ nx h tk own, 0 < tk → ((i : Nat) : Int) < b → OwnOff own (nx.map (·.1)) → J m i m₁ nx → Fr h₀ env.locals h m₁ → News h₀ env.locals h (nx ++ own) →
      wpAny (model prog w) A (assign target env (.int ((i : Nat) : Int) t)) (fun _ s₂ => wpAny (model prog w) A (execs body env) (GrowPost h₀ env.locals (J m (i + 1)) own { s with heap := h, toks := tk } Q) E s₂) E { s with heap := h, toks := tk })
    (done : ∀ m₁ nx h tk, 0 < tk → J m b.toNat m₁ nx → Fr h₀ env.locals h m₁ → News h₀ env.locals h nx → Q .next { s with heap := h, toks := tk }) :
    wpAny (model prog w) A (call (.type "range") [.int b u]) (fun xv s₁ => wpAny (model prog w) A (pyIter xv) (fun it s₂ => GrowAt prog w A h₀ env target body Q E it s₂) E s₁) E s := by
  refine call_range_1 ?_
  have N' : ∀ o, News h₀ env.locals (s.heap.push o) news := fun o p hp => ⟨Heap.get?_push_of_some _ (N p hp).1, (N p hp).2⟩
  refine wpAny_pyIter_range (Heap.get?_push_size _ rfl) (small_one (by omega) (by omega) (by omega) (by omega)) ?_
  have hn := rangeSize_nat 0 b
  refine ⟨_, (b - 0).toNat, _, _, m, news, J m, rfl, LCg.range_walks hh 0 _, fun i h st => ⟨_, st⟩, Nat.ne_of_lt (F.push _).ns.lt, next_is_new (F.push _), fun p hp => Nat.ne_of_lt (Heap.lt_size (N' _ p hp).1), ?_, ?_, (F.push _).push _, fun p hp => ⟨Heap.get?_push_of_some _ (N' _ p hp).1, (N p hp).2⟩, hj, ?_, ?_⟩
  · first | exact h0 | exact Nat.lt_succ_of_lt h0 | exact Nat.succ_pos _ | (simp only []; omega)
  · show IsRangeIter _ _ (0 + ((0 : Nat) : Int) * 1) (((b - 0).toNat : Int) - ((0 : Nat) : Int)) 1
    rw [show (0 : Int) + ((0 : Nat) : Int) * 1 = 0 by omega, show ((b - 0).toNat : Int) - ((0 : Nat) : Int) = ((b - 0).toNat : Int) by omega, ← hn]
    exact Heap.get?_push_size _ rfl
  · rintro i v m₁ nx h tk own hp hi ⟨t, rfl⟩ ho hJ F₁ N₁
    have e : (0 : Int) + (i : Int) = i := by omega
    rw [e]
    exact turn i t m₁ nx h tk own hp (by omega) ho hJ F₁ N₁
  · intro m₁ nx h tk hp hJ F₁ N₁
    rw [Int.sub_zero] at hJ
    exact done m₁ nx h tk hp hJ F₁ N₁
end
end Mine
end

section
theorem Mine.fresh_T_names : True := by
  w_top off
  trivial
namespace Mine
inductive NamRel : Heap → List Value → Prop where
  | mk {b : Heap} : NamRel b []
abbrev nameVals (t1 t2 t3 t4 t5 t6 t7 t8 : Tok) : List Value := [.str (Str.ofString "OPTIMIZED") t1, .str (Str.ofString "NEWLOCALS") t2, .str (Str.ofString "VARARGS") t3, .str (Str.ofString "VARKEYWORDS") t4, .str (Str.ofString "NESTED") t5, .str (Str.ofString "GENERATOR") t6, .str (Str.ofString "NOFREE") t7, .str (Str.ofString "COROUTINE") t8]
def NamOut (tl : List (Addr × Obj)) (r : Value) : Prop := ∃ l t1 t2 t3 t4 t5 t6 t7 t8, tl = [(l, listOf (nameVals t1 t2 t3 t4 t5 t6 t7 t8).toArray 0)] ∧ r = .ref l
set_option maxHeartbeats 8000000 in
theorem nam_told (w : World) (mean : ExcName → Option Value) (mg mb : Str → Option Value) : Tell w mean mg mb 116 2 NamRel NamOut := by
  unfold Tell
  k_fill
  intro dp un gd cn cs a ccd cl outer A₀ base h₀ L m hp gs dr tk os vs Q E B F X T hk hR hd hu hret
  cases hR with
  | mk =>
  k_dflt (refine' tell_in ?k1 ?k2 ?k3 ?k5 ?kK ?k6 ?k7 ?k8 ?k9 ?kB ?_ ?c5 ?c2 ?c3 ?c4; (case k1 => k_asm); (case k2 => k_asm); (case k3 => k_asm); (case k5 => k_asm); (case kK => assumption); (case k6 => k_is); (case k7 => k_is); (case k8 => omega); (case k9 => exact BindsTo.of_eq rfl); (case kB => exact locs rfl); (case c5 => decide); (case c2 => exact rfl); (case c3 => exact rfl); (case c4 => exact rfl); k_whole; clear B F X T hk; intro L' h' tk' F' N' B' X' T'; (try dsimp only); (try k_fold))
  k_steps
  (rename News _ _ _ _ => kN)
  (rename Fr _ _ _ _ => kF)
  exact hret _ [_] _ _ kF.keep (made_of kN fun _ h => h) ⟨_, _, _, _, _, _, _, _, _, rfl, rfl⟩
end Mine
end

section
theorem Mine.fresh_T_hsv : True := by
  w_top off
  trivial
namespace Mine
abbrev one : UInt64 := 4607182418800017408
abbrev six : UInt64 := 4618441417868443648
/-- what hsv_to_rgb asks of a hue: twelve half turns of six give the red light or its opposite -/
structure Hue (h : UInt64) (k : Bool) : Prop where
  nan : Float64.isNaN (Float64.mul h six) = false
  inf : Float64.isInf (Float64.mul h six) = false
  small : (Flt.toInt Float64.truncOf (Float64.mul h six)).natAbs < 2 ^ 1024 - 2 ^ 970
  rest : (Flt.toInt Float64.truncOf (Float64.mul h six)).fmod 6 = if k then 3 else 0
  q : Float64.mul one (Float64.sub one (Float64.mul one (Float64.sub (Float64.mul h six) (Float64.ofInt (Flt.toInt Float64.truncOf (Float64.mul h six)))))) = one
  t : Float64.mul one (Float64.sub one (Float64.mul one (Float64.sub one (Float64.sub (Float64.mul h six) (Float64.ofInt (Flt.toInt Float64.truncOf (Float64.mul h six))))))) = 0
theorem one_not : (Float64.cmp one 0 == some Ordering.eq) = false := by decide +kernel
theorem p_is : Float64.mul one (Float64.sub one one) = 0 := by decide +kernel
/-- a token made before -/
def TokIn (t tk : Nat) : Prop := 0 < t ∧ t < tk
inductive HsvRel : List Value → Bool → Nat → Prop where
  | mk {h : UInt64} {t1 t2 t3 : Tok} {k : Bool} {tk : Nat} : Hue h k → TokIn t2 tk → TokIn t3 tk → HsvRel [.float h t1, .float one t2, .float one t3] k tk
/-- the light -/
def lightOf (k : Bool) (t1 t2 t3 : Tok) : Obj := if k then tupOf [.float 0 t1, .float one t2, .float one t3] else tupOf [.float one t1, .float 0 t2, .float 0 t3]
def LightOut (k : Bool) (tl : List (Addr × Obj)) (r : Value) (tk : Nat) : Prop := ∃ D t1 t2 t3, tl = [(D, lightOf k t1 t2 t3)] ∧ r = .ref D ∧ TokIn t1 tk ∧ TokIn t2 tk ∧ TokIn t3 tk
local macro_rules | `(tactic| walk_at "execs cons") => `(tactic| (k_here; refine at_stopK 1 ?_))
local macro_rules | `(tactic| walk_at "execs nil") => `(tactic| (k_here; refine at_stopK 2 ?_))
set_option maxHeartbeats 8000000 in
theorem hsv_pos (w : World) (mean : ExcName → Option Value) (mg mb : Str → Option Value) (k : Bool) : TellP w mean mg mb 28 2 (fun _ vs tk => HsvRel vs k tk) (LightOut k) := by
  unfold TellP
  k_fill
  intro dp un gd cn cs a ccd cl outer A₀ base h₀ L m hp gs dr tk os vs Q E B F X T hk hR hd hu h0 hret
  cases hR with
  | mk H q1 q2 =>
  obtain ⟨q1, q3⟩ := q1
  obtain ⟨q2, q4⟩ := q2
  k_dflt (refine' tell_inP ?k1 ?k2 ?k3 ?k5 ?kK ?k6 ?k7 ?k8 ?k9 ?kB ?_ ?c5 ?c2 ?c3 ?c4; (case k1 => k_asm); (case k2 => k_asm); (case k3 => k_asm); (case k5 => k_asm); (case kK => assumption); (case k6 => k_is); (case k7 => k_is); (case k8 => omega); (case k9 => exact BindsTo.of_eq rfl); (case kB => exact locs rfl); (case c5 => decide); (case c2 => exact rfl); (case c3 => exact rfl); (case c4 => exact rfl); k_whole; clear B F X T hk; intro L' h' tk' hle' F' N' B' X' T'; (try dsimp only); (try k_fold))
  repeat' (first | ((with_reducible show StopK 1 _); unfold StopK; first | ((first | (with_reducible refine has_le (by assumption) ?_) | (k_dflt (refine gen_le ?_); intro tk9 hle9; (try dsimp only at hle9))); (with_reducible refine wpAny_execs_cons ?_); (try dsimp only))) | ((with_reducible show StopK 2 _); unfold StopK; first | ((first | (with_reducible refine has_le (by assumption) ?_) | (k_dflt (refine gen_le ?_); intro tk9 hle9; (try dsimp only at hle9))); (with_reducible refine wpAny_execs_nil ?_); (try dsimp only))) | (k_unfold; (try dsimp only)) | (k_end; wrow_close) | ((with_reducible show wpAny _ _ (execs _ _) _ _ _); (try dsimp only); (try k_fold); walk1) | walk1 | (dsimp only; walk1) | (leave1; walk_say "STEP leave1"; try dsimp only))
  all_goals first
    | (exfalso; exact absurd ((by assumption : (Float64.cmp one 0 == some Ordering.eq) = true).symm.trans one_not) (by decide))
    | (exfalso; exact absurd ((by assumption : Float64.isNaN (Float64.mul _ six) = true).symm.trans H.nan) (by decide))
    | (exfalso; exact absurd ((by assumption : Float64.isInf (Float64.mul _ six) = true).symm.trans H.inf) (by decide))
    | (exfalso; exact absurd (by assumption) (Nat.not_le.mpr H.small))
    | ((rename News _ _ _ _ => kN); (rename Fr _ _ _ _ => kF); (rename _ = (_ : Int) => hi); (have hr := H.rest.symm.trans hi); cases k <;> first | (exfalso; exact absurd hr (by decide)) | (simp only [H.q, H.t, p_is] at kN; refine hret _ [_] _ _ kF.keep (made_of kN fun _ h => h) ?_ ⟨_, _, _, _, rfl, rfl, ?_, ?_, ?_⟩ <;> ((try unfold TokIn); (try dsimp only); omega)))
    | (exfalso; (have hr := H.rest); cases k <;> first | exact absurd hr (by assumption))
end Mine
end

section
theorem Mine.fresh_T_rgb : True := by
  w_top off
  trivial
open PySem PySem.W PySem.Calls PySem.Spec PyProof.Rows PySem.Flt
namespace Mine
section
variable {prog : Program} {w : World} {A : Around} {E : Value → Shared → Prop} {s : Shared} {Q : Value → Shared → Prop} {a b c : Value}
theorem max3_num (hh : A.handled = none) (ha : NumV a) (hb : NumV b) (hc : NumV c)
    (h : ∀ h' tk, (∀ c o, s.heap.get? c = some o → h'.get? c = some o) → Q (if ltV a b then (if ltV b c then c else b) else (if ltV a c then c else a)) { s with heap := h', toks := tk }) :
    wpAny (model prog w) A (call (.builtin "max") [a, b, c]) Q E s := by
  have hT : (s.heap.push { cls := .type "tuple", data := .seq #[a, b, c] }).IsTuple s.heap.objs.size #[a, b, c] := ⟨_, Heap.get?_push_size _ rfl, rfl, 0, rfl⟩
  refine call_max_three (wpAny_pyIter_tuple hT ?_)
  have hsz : (s.heap.push { cls := .type "tuple", data := .seq #[a, b, c] }).objs.size = s.heap.objs.size + 1 := Heap.size_push ..
  refine ⟨_, [_, s.heap.objs.size], [_], _, _, _, _, rfl, Walks.tuple (A := A.in1) hh _ s.heap.objs.size (by rw [hsz]; exact Nat.ne_of_lt (Nat.lt_succ_self _)) #[a, b, c],
    ⟨⟨_, Heap.get?_push_size _ rfl, rfl, rfl⟩, hT.push _⟩, fun c hc => ?_, by simp, cmpOf_gt #[a, b, c] (by simp [ha, hb, hc]), fun v h' tk hP hk => ?_⟩
  · show c < ((s.heap.push _).push _).objs.size
    rw [Heap.size_push, hsz]
    rcases List.mem_cons.mp hc with rfl | hc
    · rw [hsz]; exact Nat.lt_succ_self _
    · rcases List.mem_cons.mp hc with rfl | hc
      · exact Nat.lt_succ_of_lt (Nat.lt_succ_self _)
      · cases hc
  · have hold : ∀ c o, s.heap.get? c = some o → h'.get? c = some o := fun c o e => by
      refine hk c o (fun hm => ?_) (Heap.get?_push_of_some _ (Heap.get?_push_of_some _ e))
      rcases List.mem_cons.mp hm with e1 | hm
      · have := Heap.lt_size e; rw [e1, hsz] at this; exact Nat.lt_irrefl _ (Nat.lt_of_succ_lt this)
      · cases hm
    have := h h' tk hold
    have hv : v = if ltV a b then (if ltV b c then c else b) else (if ltV a c then c else a) := by
      cases h1 : ltV a b <;> cases h2 : ltV b c <;> cases h3 : ltV a c <;> simp [argBest, h1, h2, h3] at hP <;> simp [hP]
    rw [hv]; exact this
theorem min3_num (hh : A.handled = none) (ha : NumV a) (hb : NumV b) (hc : NumV c)
    (h : ∀ h' tk, (∀ c o, s.heap.get? c = some o → h'.get? c = some o) → Q (if ltV b a then (if ltV c b then c else b) else (if ltV c a then c else a)) { s with heap := h', toks := tk }) :
    wpAny (model prog w) A (call (.builtin "min") [a, b, c]) Q E s := by
  have hT : (s.heap.push { cls := .type "tuple", data := .seq #[a, b, c] }).IsTuple s.heap.objs.size #[a, b, c] := ⟨_, Heap.get?_push_size _ rfl, rfl, 0, rfl⟩
  refine call_min_three (wpAny_pyIter_tuple hT ?_)
  have hsz : (s.heap.push { cls := .type "tuple", data := .seq #[a, b, c] }).objs.size = s.heap.objs.size + 1 := Heap.size_push ..
  refine ⟨_, [_, s.heap.objs.size], [_], _, _, _, _, rfl, Walks.tuple (A := A.in1) hh _ s.heap.objs.size (by rw [hsz]; exact Nat.ne_of_lt (Nat.lt_succ_self _)) #[a, b, c],
    ⟨⟨_, Heap.get?_push_size _ rfl, rfl, rfl⟩, hT.push _⟩, fun c hc => ?_, by simp, cmpOf_lt #[a, b, c] (by simp [ha, hb, hc]), fun v h' tk hP hk => ?_⟩
  · show c < ((s.heap.push _).push _).objs.size
    rw [Heap.size_push, hsz]
    rcases List.mem_cons.mp hc with rfl | hc
    · rw [hsz]; exact Nat.lt_succ_self _
    · rcases List.mem_cons.mp hc with rfl | hc
      · exact Nat.lt_succ_of_lt (Nat.lt_succ_self _)
      · cases hc
  · have hold : ∀ c o, s.heap.get? c = some o → h'.get? c = some o := fun c o e => by
      refine hk c o (fun hm => ?_) (Heap.get?_push_of_some _ (Heap.get?_push_of_some _ e))
      rcases List.mem_cons.mp hm with e1 | hm
      · have := Heap.lt_size e; rw [e1, hsz] at this; exact Nat.lt_irrefl _ (Nat.lt_of_succ_lt this)
      · cases hm
    have := h h' tk hold
    have hv : v = if ltV b a then (if ltV c b then c else b) else (if ltV c a then c else a) := by
      cases h1 : ltV b a <;> cases h2 : ltV c b <;> cases h3 : ltV c a <;> simp [argBest, h1, h2, h3] at hP <;> simp [hP]
    rw [hv]; exact this
end
theorem c01 : (Float64.cmp 0 one == some Ordering.lt) = true := by decide +kernel
theorem c10 : (Float64.cmp one 0 == some Ordering.lt) = false := by decide +kernel
theorem c00 : (Float64.cmp 0 0 == some Ordering.lt) = false := by decide +kernel
theorem c11 : (Float64.cmp one one == some Ordering.lt) = false := by decide +kernel
section
variable {prog : Program} {w : World} {A : Around} {E : Value → Shared → Prop} {s : Shared} {Q : Value → Shared → Prop} {h₀ : Heap} {L : Addr} {m : Str → Option Value} {news : List (Addr × Obj)} {t1 t2 t3 : Tok}
theorem max_even (hh : A.handled = none) (F : Fr h₀ L s.heap m) (N : News h₀ L s.heap news) (h : ∀ h' tk, Fr h₀ L h' m → News h₀ L h' news → Q (.float one t1) { s with heap := h', toks := tk }) :
    wpAny (model prog w) A (call (.builtin "max") [.float one t1, .float 0 t2, .float 0 t3]) Q E s :=
  max3_num hh (.float _ _) (.float _ _) (.float _ _) fun h' tk kp => by
    simp only [ltV, c10, Bool.false_eq_true, if_false]; exact h h' tk (F.grownK kp) (N.grown kp)
theorem max_odd (hh : A.handled = none) (F : Fr h₀ L s.heap m) (N : News h₀ L s.heap news) (h : ∀ h' tk, Fr h₀ L h' m → News h₀ L h' news → Q (.float one t2) { s with heap := h', toks := tk }) :
    wpAny (model prog w) A (call (.builtin "max") [.float 0 t1, .float one t2, .float one t3]) Q E s :=
  max3_num hh (.float _ _) (.float _ _) (.float _ _) fun h' tk kp => by
    simp only [ltV, c01, c11, Bool.false_eq_true, if_false, if_true]; exact h h' tk (F.grownK kp) (N.grown kp)
theorem min_even (hh : A.handled = none) (F : Fr h₀ L s.heap m) (N : News h₀ L s.heap news) (h : ∀ h' tk, Fr h₀ L h' m → News h₀ L h' news → Q (.float 0 t2) { s with heap := h', toks := tk }) :
    wpAny (model prog w) A (call (.builtin "min") [.float one t1, .float 0 t2, .float 0 t3]) Q E s :=
  min3_num hh (.float _ _) (.float _ _) (.float _ _) fun h' tk kp => by
    simp only [ltV, c01, c00, Bool.false_eq_true, if_false, if_true]; exact h h' tk (F.grownK kp) (N.grown kp)
theorem min_odd (hh : A.handled = none) (F : Fr h₀ L s.heap m) (N : News h₀ L s.heap news) (h : ∀ h' tk, Fr h₀ L h' m → News h₀ L h' news → Q (.float 0 t1) { s with heap := h', toks := tk }) :
    wpAny (model prog w) A (call (.builtin "min") [.float 0 t1, .float one t2, .float one t3]) Q E s :=
  min3_num hh (.float _ _) (.float _ _) (.float _ _) fun h' tk kp => by
    simp only [ltV, c10, Bool.false_eq_true, if_false]; exact h h' tk (F.grownK kp) (N.grown kp)
end
local macro_rules | `(tactic| walk_at "call builtin:max") => `(tactic| (k_here; refine at_stopK 1 ?_))
local macro_rules | `(tactic| walk_at "call builtin:min") => `(tactic| (k_here; refine at_stopK 2 ?_))
theorem eq_known {prog : Program} {w : World} {A : Around} {E : Value → Shared → Prop} {s : Shared} {Q : Value → Shared → Prop} {x y : UInt64} {t u : Tok} (k : Bool) (hk : (Float64.cmp x y == some Ordering.eq) = k) (h : Q (.bool k) s) :
    wpAny (model prog w) A (compareOp .Eq (.float x t) (.float y u)) Q E s := AutoFloatOps.eq_0 (by rw [hk]; exact h)
local macro_rules | `(tactic| walk_at "compareOp Eq float float") => `(tactic| (k_here; refine at_stopK 3 ?_))
theorem hue_even : (Float64.divmod (Float64.div (Float64.sub (Float64.div (Float64.sub one 0) (Float64.sub one 0)) (Float64.div (Float64.sub one 0) (Float64.sub one 0))) 4618441417868443648) 4607182418800017408).snd = 0 := by decide +kernel
theorem hue_odd : (Float64.divmod (Float64.div (Float64.sub (Float64.add 4611686018427387904 (Float64.div (Float64.sub one 0) (Float64.sub one 0))) (Float64.div (Float64.sub one one) (Float64.sub one 0))) 4618441417868443648) 4607182418800017408).snd = 0x3fe0000000000000 := by decide +kernel
inductive RgbRel : List Value → Bool → Prop where
  | even {t1 t2 t3 : Tok} : RgbRel [.float one t1, .float 0 t2, .float 0 t3] false
  | odd {t1 t2 t3 : Tok} : RgbRel [.float 0 t1, .float one t2, .float one t3] true
/-- half a turn -/
abbrev half : UInt64 := 0x3fe0000000000000
def HueOut (k : Bool) (tl : List (Addr × Obj)) (r : Value) : Prop := ∃ D t1 v2 v3, tl = [(D, tupOf [.float (if k then half else 0) t1, v2, v3])] ∧ r = .ref D

set_option maxHeartbeats 8000000 in
theorem rgb_told (w : World) (mean : ExcName → Option Value) (mg mb : Str → Option Value) (k : Bool) : Tell w mean mg mb 21 2 (fun _ vs => RgbRel vs k) (HueOut k) := by
  unfold Tell
  k_fill
  intro dp un gd cn cs a ccd cl outer A₀ base h₀ L m hp gs dr tk os vs Q E B F X T hk hR hd hu hret
  cases hR
  all_goals
    k_dflt (refine' tell_in ?k1 ?k2 ?k3 ?k5 ?kK ?k6 ?k7 ?k8 ?k9 ?kB ?_ ?c5 ?c2 ?c3 ?c4; (case k1 => k_asm); (case k2 => k_asm); (case k3 => k_asm); (case k5 => k_asm); (case kK => assumption); (case k6 => k_is); (case k7 => k_is); (case k8 => omega); (case k9 => exact BindsTo.of_eq rfl); (case kB => exact locs rfl); (case c5 => decide); (case c2 => exact rfl); (case c3 => exact rfl); (case c4 => exact rfl); k_whole; clear B F X T hk; intro L' h' tk' F' N' B' X' T'; (try dsimp only); (try k_fold))
    repeat' (first | ((with_reducible show StopK 1 _); unfold StopK; first | (first | (refine' max_even ?k0 ?k1 ?k2 ?_; (case k0 => exact rfl); (case k1 => k_asm); (case k2 => k_asm); k_whole; intro h' tk' F' N'; (try k_sweep)) | (refine' max_odd ?k0 ?k1 ?k2 ?_; (case k0 => exact rfl); (case k1 => k_asm); (case k2 => k_asm); k_whole; intro h' tk' F' N'; (try k_sweep)))) | ((with_reducible show StopK 2 _); unfold StopK; first | (first | (refine' min_even ?k0 ?k1 ?k2 ?_; (case k0 => exact rfl); (case k1 => k_asm); (case k2 => k_asm); k_whole; intro h' tk' F' N'; (try k_sweep)) | (refine' min_odd ?k0 ?k1 ?k2 ?_; (case k0 => exact rfl); (case k1 => k_asm); (case k2 => k_asm); k_whole; intro h' tk' F' N'; (try k_sweep)))) | ((with_reducible show StopK 3 _); unfold StopK; first | (first | refine eq_known true (by decide +kernel) ?_ | refine eq_known false (by decide +kernel) ?_)) | (k_unfold; (try dsimp only)) | (k_end; wrow_close) | ((with_reducible show wpAny _ _ (execs _ _) _ _ _); (try dsimp only); (try k_fold); walk1) | walk1 | (dsimp only; walk1) | (leave1; walk_say "STEP leave1"; try dsimp only))
  all_goals ((rename News _ _ _ _ => kN); (rename Fr _ _ _ _ => kF); simp only [hue_even, hue_odd] at kN; exact hret _ [_] _ _ kF.keep (made_of kN fun _ h => h) ⟨_, _, _, _, rfl, rfl⟩)
end Mine
end

section
theorem Mine.fresh_T_index : True := by
  w_top off
  trivial
namespace Mine
section
variable {prog : Program} {w : World} {A : Around} {E : Value → Shared → Prop} {s : Shared} {Q : Value → Shared → Prop}
def strIs (a : Str) : Value → Bool
  | .str x _ => x == a
  | _ => false
theorem name_eq : ∀ j, j < 8 → ∀ i, i < 8 → (nameAt i == nameAt j) = decide (i = j) := by decide +kernel
theorem index_name {l : Addr} {n : Nat} {u1 u2 u3 u4 u5 u6 u7 u8 t : Tok} (j : Nat) (hj : j < 8) (hl : s.heap.get? l = some { cls := .type "list", data := .seq (nameVals u1 u2 u3 u4 u5 u6 u7 u8).toArray n })
    (h : Q (.int ((j : Nat) : Int) s.toks) { s with toks := s.toks + 1 }) : wpAny (model prog w) A (call (.builtin "list.index") [.ref l, .str (nameAt j) t]) Q E s := by
  have key : ∀ i (hi : i < (nameVals u1 u2 u3 u4 u5 u6 u7 u8).length), ∃ u, (nameVals u1 u2 u3 u4 u5 u6 u7 u8)[i] = .str (nameAt i) u := by
    intro i hi
    have : i < 8 := hi
    have hc : i = 0 ∨ i = 1 ∨ i = 2 ∨ i = 3 ∨ i = 4 ∨ i = 5 ∨ i = 6 ∨ i = 7 := by omega
    rcases hc with rfl | rfl | rfl | rfl | rfl | rfl | rfl | rfl <;> exact ⟨_, rfl⟩
  have hs : (nameVals u1 u2 u3 u4 u5 u6 u7 u8).toArray.size = 8 := rfl
  refine call_meets PySem.F.slot_list_index ⟨_, hl, rfl⟩ PySem.F.entry_list_index (PySem.F.args_list_index_2 _ _)
    (MeetsSeq.list_index l (nameVals u1 u2 u3 u4 u5 u6 u7 u8).toArray n (.str (nameAt j) t) (strIs (nameAt j)) (fun y hy => ?_) j (by omega) (by omega) ?_ (fun i hi hlt => ?_)) ⟨hl, h⟩
  · obtain ⟨i, hi, rfl⟩ := List.getElem_of_mem (by simpa using hy : y ∈ nameVals u1 u2 u3 u4 u5 u6 u7 u8)
    obtain ⟨u, e⟩ := key i hi
    rw [e]
    exact eqGives_str _ _ _ _
  · obtain ⟨u, e⟩ := key j hj
    show strIs _ (nameVals u1 u2 u3 u4 u5 u6 u7 u8)[j] = true
    rw [e]
    show (nameAt j == nameAt j) = true
    rw [name_eq j hj j hj]
    simp
  · have hi8 : i < 8 := by omega
    obtain ⟨u, e⟩ := key i hi8
    show strIs _ (nameVals u1 u2 u3 u4 u5 u6 u7 u8)[i] = false
    rw [e]
    show (nameAt i == nameAt j) = false
    rw [name_eq j hj i hi8]
    simpa using Nat.ne_of_lt hlt
end
end Mine
end

section
theorem Mine.fresh_T_split : True := by
  w_top off
  trivial
namespace Mine
abbrev comma : Str := Str.ofString ", "
/-- where a comma and a blank stand -/
def occF : Nat → List Nat → List Nat
  | _, [] => []
  | _, [_] => []
  | i, c :: d :: t => (if c = 44 ∧ d = 32 then [i] else []) ++ occF (i + 1) (d :: t)
theorem occ_scan (x : Str) : ∀ (r : List Nat) (i : Nat) (st : Array Nat × Nat), x.cps.toList.drop i = r → i + r.length = x.length → (st.2 ≤ i ∨ (st.2 = i + 1 ∧ r.head? = some 32)) → st.1.size ≤ i →
    (forIn (List.range' i (r.length + 1)) st (StrLaws.occBody x comma x.length (x.length + 1))).run.fst.toList = st.fst.toList ++ occF i r
  | [], i, st, hr, hl, hf, hs => by
    have h2 : comma.length = 2 := by decide
    rw [List.length_nil, List.range'_succ, List.range'_zero, List.forIn_cons]
    unfold StrLaws.occBody
    rw [if_neg (fun h => by have := h.1.2; rw [h2] at this; simp at hl; omega)]
    simp [occF]
  | c :: t, i, st, hr, hl, hf, hs => by
    have h2 : comma.length = 2 := by decide
    have ht : x.cps.toList.drop (i + 1) = t := by rw [← List.tail_drop, hr]; rfl
    have hlt : (i + 1) + t.length = x.length := by rw [List.length_cons] at hl; omega
    rw [List.length_cons, List.range'_succ, List.forIn_cons]
    unfold StrLaws.occBody
    have hsub : Builtin.Str.subAt x comma i = decide (c = 44 ∧ t.head? = some 32) := by
      rw [StrLaws.subAt_eq, hr, h2]
      cases t with
      | nil =>
        show ([c] == [44, 32]) = _
        simp
      | cons d t =>
        show ([c, d] == [44, 32]) = _
        simp only [List.head?_cons, Option.some.injEq]
        by_cases h1 : c = 44 <;> by_cases h3 : d = 32 <;> simp [h1, h3]
    by_cases hc : c = 44 ∧ t.head? = some 32
    · have hff : st.2 ≤ i := by
        rcases hf with h | ⟨_, h⟩
        · exact h
        · rw [List.head?_cons, Option.some.injEq] at h; omega
      obtain ⟨h44, h32⟩ := hc
      cases t with
      | nil => cases h32
      | cons d t =>
        rw [List.head?_cons, Option.some.injEq] at h32
        rw [if_pos ⟨⟨⟨by omega, hff⟩, by rw [h2]; simp only [List.length_cons] at hlt; omega⟩, by rw [hsub]; simp [h44, h32]⟩]
        have ih := occ_scan x (d :: t) (i + 1) (st.fst.push i, i + comma.length) ht hlt (.inr ⟨by rw [h2], by simp [h32]⟩) (by simp; omega)
        refine ih.trans ?_
        rw [occF, if_pos ⟨h44, h32⟩]
        simp
    · rw [if_neg (fun h => hc (of_decide_eq_true (hsub ▸ h.2)))]
      have ih := occ_scan x t (i + 1) (st.fst, st.snd) ht hlt (.inl (by rcases hf with h | ⟨h, _⟩ <;> simp only <;> omega)) (by simp only; omega)
      refine ih.trans ?_
      cases t with
      | nil => rfl
      | cons d t =>
        rw [List.head?_cons, Option.some.injEq] at hc
        rw [occF, if_neg hc]
        rfl
theorem occ_free : ∀ (w rest : List Nat) (i : Nat), 44 ∉ w → occF i (w ++ rest) = occF (i + w.length) rest
  | [], _, _, _ => rfl
  | c :: w, rest, i, h => by
    have hc : ¬ c = 44 := fun e => h (e ▸ .head _)
    have ih := occ_free w rest (i + 1) fun q => h (.tail _ q)
    rw [List.length_cons, show i + (w.length + 1) = i + 1 + w.length by omega, ← ih]
    show occF i (c :: (w ++ rest)) = _
    cases hr : w ++ rest with
    | nil => rfl
    | cons d t => rw [occF, if_neg (fun q => hc q.1)]; rfl
theorem occ_sep (i : Nat) (rest : List Nat) : occF i (44 :: 32 :: rest) = i :: occF (i + 2) rest := by
  rw [occF, if_pos ⟨rfl, rfl⟩]
  cases rest with
  | nil => rfl
  | cons d t =>
    rw [occF, if_neg (fun q => by cases q.1)]
    rfl
theorem join_codes (w : Str) (v : Str) (r : List Str) : (Str.join comma (w :: v :: r)).cps.toList = w.cps.toList ++ 44 :: 32 :: (Str.join comma (v :: r)).cps.toList := by
  show (w ++ comma ++ Str.join comma (v :: r)).cps.toList = _
  rw [Str.cps_append, Str.cps_append, Array.toList_append, Array.toList_append, List.append_assoc]
  rfl
theorem parts_of (x : Str) : ∀ (ws : List Str) (a : Nat), ws ≠ [] → (∀ w ∈ ws, 44 ∉ w.cps.toList) → x.cps.toList.drop a = (Str.join comma ws).cps.toList → a ≤ x.length → StrLaws.partsFrom x 2 a (occF a (Str.join comma ws).cps.toList) = ws
  | [], _, h, _, _, _ => absurd rfl h
  | [w], a, _, hw, hd, ha => by
    have e : (Str.join comma [w]).cps.toList = w.cps.toList := rfl
    rw [e] at hd ⊢
    have h1 := occ_free w.cps.toList [] a (hw w (.head _))
    rw [List.append_nil] at h1
    rw [h1]
    show [Builtin.Str.strSub x a x.length] = [w]
    congr 1
    apply Str.ext'
    apply Array.toList_inj.mp
    rw [StrLaws.strSub_toList, hd]
    have hn : x.cps.toList.length = x.length := by simp [Str.length]
    have : w.cps.toList.length = x.length - a := by rw [← hd, List.length_drop, hn]
    rw [← this, List.take_length]
  | w :: v :: r, a, _, hw, hd, ha => by
    rw [join_codes] at hd ⊢
    rw [occ_free _ _ _ (hw w (.head _)), occ_sep]
    have hn : x.cps.toList.length = x.length := by simp [Str.length]
    have hlen : w.cps.toList.length + 2 ≤ x.length - a := by
      have := congrArg List.length hd
      rw [List.length_drop, hn, List.length_append, List.length_cons, List.length_cons] at this
      omega
    show Builtin.Str.strSub x a (a + w.cps.toList.length) :: StrLaws.partsFrom x 2 (a + w.cps.toList.length + 2) (occF (a + w.cps.toList.length + 2) _) = _
    congr 1
    · apply Str.ext'
      apply Array.toList_inj.mp
      rw [StrLaws.strSub_toList, hd, Nat.add_sub_cancel_left, List.take_left]
    · refine parts_of x (v :: r) (a + w.cps.toList.length + 2) (by simp) (fun q hq => hw q (.tail _ hq)) ?_ (by omega)
      rw [Nat.add_assoc, ← List.drop_drop, hd, ← List.drop_drop, List.drop_left]
      rfl
theorem split_join (ws : List Str) (h : ws ≠ []) (hw : ∀ w ∈ ws, 44 ∉ w.cps.toList) (h2 : 2 ≤ (Txt.join comma ws).length) : Txt.split (Txt.join comma ws) comma = ws := by
  have e : Txt.join comma ws = Str.join comma ws := StrLaws.glued_eq_join comma ws
  rw [e] at h2 ⊢
  have hp := parts_of (Str.join comma ws) ws 0 h hw rfl (Nat.zero_le _)
  have ho : Builtin.Str.occurrences (Str.join comma ws) comma 0 (Str.join comma ws).length ((Str.join comma ws).length + 1) = occF 0 (Str.join comma ws).cps.toList := by
    have hn : (Str.join comma ws).cps.toList.length = (Str.join comma ws).length := by simp [Str.length]
    have h3 := occ_scan (Str.join comma ws) (Str.join comma ws).cps.toList 0 (#[], 0) rfl (by rw [hn, Nat.zero_add]) (.inl (Nat.le_refl _)) (Nat.le_refl _)
    rw [StrLaws.occ_eq, Nat.sub_zero, ← hn]
    rw [← hn] at h3
    exact h3
  unfold Txt.split
  rw [if_neg (fun q => ?_)]
  · rw [ho]
    split
    · rename_i hE
      rw [List.isEmpty_iff] at hE
      rw [hE] at hp
      refine Eq.trans ?_ hp
      show [_] = [Builtin.Str.strSub _ 0 _]
      rw [StrLaws.sub_whole]
    · rw [StrLaws.partsBetween_eq]
      exact hp
  · rw [Bool.or_eq_true, decide_eq_true_eq, decide_eq_true_eq] at q
    have hc : comma.length = 2 := by decide
    have hk : Builtin.Str.strKind comma = 1 := by decide +kernel
    have h1 : 1 ≤ Builtin.Str.strKind (Str.join comma ws) := by unfold Builtin.Str.strKind; split <;> (try split) <;> omega
    omega
theorem name_free : ∀ j, j < 8 → 44 ∉ (nameAt j).cps.toList ∧ 2 ≤ (nameAt j).length := by decide +kernel
theorem name_len : ∀ j, j < 8 → (nameAt j).length ≤ 15 := by decide +kernel
theorem flag_len {f : Nat} : (flagText f).length + 2 ≤ sizeLine := by
  have h1 := StrLaws.join_length_le comma (namesOf f 8)
  rw [← show Txt.join comma (namesOf f 8) = Str.join comma (namesOf f 8) from StrLaws.glued_eq_join comma _] at h1
  have hn := names_len f 8
  have hlt : ∀ w ∈ namesOf f 8, w.length ≤ 15 := fun w hw => by
    obtain ⟨j, hj, rfl⟩ := List.mem_map.mp hw
    exact name_len j (List.mem_range.mp (List.mem_filter.mp hj).1)
  have hs : ∀ ws : List Str, (∀ w ∈ ws, w.length ≤ 15) → (ws.map (·.length)).sum ≤ 15 * ws.length := fun ws => by
    induction ws with
    | nil => intro _; exact Nat.le_refl _
    | cons w r ih =>
      intro h
      have h2 := ih fun q hq => h q (.tail _ hq)
      have h3 := h w (.head _)
      rw [List.map_cons, List.sum_cons, List.length_cons]
      omega
  have h2 := hs _ hlt
  have hc : comma.length = 2 := by decide
  rw [hc] at h1
  have e : (Txt.join comma (namesOf f 8)).length = (flagText f).length := rfl
  rw [PySem.sizeLine_eq]
  omega
theorem split_flags {f : Nat} (h0 : 0 < f) (h1 : f < 256) : Txt.split (flagText f) comma = namesOf f 8 := by
  have hne : ∀ f, f < 256 → 0 < f → namesOf f 8 ≠ [] := by decide +kernel
  have hlt : ∀ w ∈ namesOf f 8, ∃ j, j < 8 ∧ w = nameAt j := fun w hw => by
    obtain ⟨j, hj, rfl⟩ := List.mem_map.mp hw
    exact ⟨j, List.mem_range.mp (List.mem_filter.mp hj).1, rfl⟩
  refine split_join _ (hne f h1 h0) (fun w hw => ?_) ?_
  · obtain ⟨j, hj, rfl⟩ := hlt w hw
    exact (name_free j hj).1
  · have hl : ∀ ws : List Str, ws ≠ [] → (∀ w ∈ ws, 2 ≤ w.length) → 2 ≤ (Txt.join comma ws).length := by
      intro ws h hw
      rw [show Txt.join comma ws = Str.join comma ws from StrLaws.glued_eq_join comma ws]
      match ws, h with
      | [w], _ => exact hw w (.head _)
      | w :: v :: r, _ =>
        have e := congrArg List.length (join_codes w v r)
        have hn : (Str.join comma (w :: v :: r)).cps.toList.length = (Str.join comma (w :: v :: r)).length := by simp [Str.length]
        rw [hn, List.length_append, List.length_cons, List.length_cons] at e
        omega
    refine hl _ (hne f h1 h0) fun w hw => ?_
    obtain ⟨j, hj, rfl⟩ := hlt w hw
    exact (name_free j hj).2
end Mine
end

section
theorem Mine.fresh_T_turn : True := by
  w_top off
  trivial
namespace Mine
/-- t half turns -/
def turnF : Nat → UInt64
  | 0 => 0
  | 1 => 0x3fe0000000000000
  | 2 => 0x3ff0000000000000
  | 3 => 0x3ff8000000000000
  | 4 => 0x4000000000000000
  | 5 => 0x4004000000000000
  | 6 => 0x4008000000000000
  | 7 => 0x400c000000000000
  | _ => 0x4010000000000000
theorem turn_half : ∀ t, t < 8 → Float64.add (turnF t) half = turnF (t + 1) := by decide +kernel
theorem turn_zero : ∀ t, t < 9 → Float64.add (turnF t) 0 = turnF t := by decide +kernel
theorem turn_hue : ∀ t, t < 9 → Hue (turnF t) (t % 2 == 1) := by
  intro t ht
  have hc : t = 0 ∨ t = 1 ∨ t = 2 ∨ t = 3 ∨ t = 4 ∨ t = 5 ∨ t = 6 ∨ t = 7 ∨ t = 8 := by omega
  rcases hc with rfl | rfl | rfl | rfl | rfl | rfl | rfl | rfl | rfl <;> exact ⟨by decide +kernel, by decide +kernel, by decide +kernel, by decide +kernel, by decide +kernel, by decide +kernel⟩
end Mine
end

section
theorem Mine.fresh_T_lit : True := by
  w_top off
  trivial
open PySem PySem.W PySem.Calls PySem.Spec PyProof.Rows PySem.SeqAt
namespace Mine
section
variable {A : Around} {s : Shared}
theorem same_float {M : Model} {E : Value → Shared → Prop} {x y : UInt64} {t u : Tok} {Q : Bool → Shared → Prop} (h0 : t ≠ 0) (h1 : u ≠ 0) (hb : NoneBooked s.heap) (hd : x ≠ y → t ≠ u) (hq : ∀ b, (b = true → x = y) → Q b s) : wpAny M A (isSame (.float x t) (.float y u)) Q E s := by
  show wpAny M A (isSame.created (x == y && !Float64.isNaN x) t u) Q E s
  unfold isSame.created
  refine wpAny_ite ?_
  rw [if_neg (by simp only [Bool.or_eq_true, beq_iff_eq]; exact fun e => e.elim h0 h1)]
  refine wpAny_ite ?_
  split
  · rename_i h
    refine wpAny_pure (hq _ fun _ => ?_)
    by_cases hxy : x = y
    · exact hxy
    · exact absurd (eq_of_beq h) (hd hxy)
  refine wpAny_ite ?_
  split
  · exact wpAny_pure (hq _ fun e => nomatch e)
  rename_i hc
  have hxy : x = y := by
    cases he : (x == y)
    · rw [he] at hc; exact absurd rfl hc
    · exact eq_of_beq he
  refine wpAny_bind (wpAny_sharingNotTold_none hb ?_)
  first | rw [if_neg Bool.false_ne_true] | simp only [Bool.false_eq_true, if_false]
  refine wpAny_bind (wpAny_sharingNotTold_none hb ?_)
  first | rw [if_neg Bool.false_ne_true] | simp only [Bool.false_eq_true, if_false]
  exact wpAny_bind (wpAny_rule (wpAny_bind (wpAny_askSetting (wpAny_pure (hq _ fun _ => hxy)))))
theorem eqAt_float {x y : UInt64} {t u : Tok} {k : Bool} (hk : (Float64.cmp x y == some Ordering.eq) = k) (hs : x = y → k = true) (h0 : 0 < t) (h1 : 0 < u) (hb : NoneBooked s.heap) (hd : x ≠ y → t ≠ u) : EqAt A s (.float x t) (.float y u) k := fun prog w E Q h => by
  have r : RcAt A s (.float x t) (.float y u) k := fun prog w E Q h => AutoFloatOps.eq_0 (by rw [hk]; exact h)
  unfold eqBool
  refine wpAny_holding ?_
  refine wpAny_ite_split (fun hab => ?_) (fun _ => ?_)
  · have h1 := eq_of_beq hab
    injection h1 with h1 _
    rw [hs h1] at h
    exact wpAny_bind (wpAny_rule (wpAny_pure h))
  · refine wpAny_bind (same_float (Nat.pos_iff_ne_zero.mp h0) (Nat.pos_iff_ne_zero.mp h1) hb hd fun b hbt => ?_)
    cases b
    · first | rw [if_neg Bool.false_ne_true] | simp only [Bool.false_eq_true, if_false]
      exact wpAny_bind (r prog w E _ (wpAny_truthy_bool h))
    · rw [hs (hbt rfl)] at h
      exact wpAny_pure h
theorem e00 : (Float64.cmp 0 0 == some Ordering.eq) = true := by decide +kernel
theorem e11 : (Float64.cmp one one == some Ordering.eq) = true := by decide +kernel
theorem e01 : (Float64.cmp 0 one == some Ordering.eq) = false := by decide +kernel
theorem e10 : (Float64.cmp one 0 == some Ordering.eq) = false := by decide +kernel
theorem n01 : (0 : UInt64) ≠ one := by decide
/-- a light's numbers -/
def litVals (k : Bool) (t1 t2 t3 : Tok) : Array Value := if k then #[.float 0 t1, .float one t2, .float one t3] else #[.float one t1, .float 0 t2, .float 0 t3]
theorem light_vals {h : Heap} {p : Addr} {k : Bool} {t1 t2 t3 : Tok} (e : h.get? p = some (lightOf k t1 t2 t3)) : h.IsTuple p (litVals k t1 t2 t3) := by
  cases k <;> exact ⟨_, e, rfl, 0, rfl⟩
theorem lit_size (k : Bool) (t1 t2 t3 : Tok) : (litVals k t1 t2 t3).size = 3 := by cases k <;> rfl
/-- tokens of a light that stand apart from another's -/
def Toks3 (t1 t2 t3 : Nat) : Prop := 0 < t1 ∧ 0 < t2 ∧ 0 < t3
theorem light_items {k : Bool} {t1 t2 t3 u1 u2 u3 : Tok} (ht : Toks3 t1 t2 t3) (hu : Toks3 u1 u2 u3) (hb : NoneBooked s.heap) : ∀ j (h1 : j < (litVals k t1 t2 t3).size) (h2 : j < (litVals k u1 u2 u3).size), EqAt A s (litVals k t1 t2 t3)[j] (litVals k u1 u2 u3)[j] true := by
  intro j h1 h2
  have h3 : j < 3 := by rw [lit_size] at h1; exact h1
  have hc : j = 0 ∨ j = 1 ∨ j = 2 := by omega
  obtain ⟨a1, a2, a3⟩ := ht
  obtain ⟨b1, b2, b3⟩ := hu
  cases k <;> rcases hc with rfl | rfl | rfl
  · exact eqAt_float e11 (fun _ => rfl) a1 b1 hb fun e => absurd rfl e
  · exact eqAt_float e00 (fun _ => rfl) a2 b2 hb fun e => absurd rfl e
  · exact eqAt_float e00 (fun _ => rfl) a3 b3 hb fun e => absurd rfl e
  · exact eqAt_float e00 (fun _ => rfl) a1 b1 hb fun e => absurd rfl e
  · exact eqAt_float e11 (fun _ => rfl) a2 b2 hb fun e => absurd rfl e
  · exact eqAt_float e11 (fun _ => rfl) a3 b3 hb fun e => absurd rfl e
theorem light_items2 {t1 t2 t3 u1 u2 u3 : Tok} (ht : Toks3 t1 t2 t3) (hu : Toks3 u1 u2 u3) (hb : NoneBooked s.heap) (d1 : t1 ≠ u1) (d2 : t2 ≠ u2) (d3 : t3 ≠ u3) : ∀ j (h1 : j < (litVals true t1 t2 t3).size) (h2 : j < (litVals false u1 u2 u3).size), EqAt A s (litVals true t1 t2 t3)[j] (litVals false u1 u2 u3)[j] false := by
  intro j h1 h2
  have h3 : j < 3 := by rw [lit_size] at h1; exact h1
  have hc : j = 0 ∨ j = 1 ∨ j = 2 := by omega
  obtain ⟨a1, a2, a3⟩ := ht
  obtain ⟨b1, b2, b3⟩ := hu
  rcases hc with rfl | rfl | rfl
  · exact eqAt_float e01 (fun e => absurd e n01) a1 b1 hb fun _ => d1
  · exact eqAt_float e10 (fun e => absurd e.symm n01) a2 b2 hb fun _ => d2
  · exact eqAt_float e10 (fun e => absurd e.symm n01) a3 b3 hb fun _ => d3
theorem light_rc {a b : Addr} {k : Bool} {t1 t2 t3 u1 u2 u3 : Tok} (ha : s.heap.get? a = some (lightOf k t1 t2 t3)) (hb : s.heap.get? b = some (lightOf k u1 u2 u3)) (ht : Toks3 t1 t2 t3) (hu' : Toks3 u1 u2 u3) (hn : NoneBooked s.heap) (hu : A.units < cLine) : RcAt A s (.ref a) (.ref b) true := by
  have h := RcAt.tuples (e := fun _ => true) (light_vals ha) (light_vals hb) hu (light_items ht hu' hn)
  rw [lit_size, lit_size] at h
  exact h
theorem light_rc2 {a b : Addr} {t1 t2 t3 u1 u2 u3 : Tok} (ha : s.heap.get? a = some (lightOf true t1 t2 t3)) (hb : s.heap.get? b = some (lightOf false u1 u2 u3)) (ht : Toks3 t1 t2 t3) (hu' : Toks3 u1 u2 u3) (hn : NoneBooked s.heap) (d1 : t1 ≠ u1) (d2 : t2 ≠ u2) (d3 : t3 ≠ u3) (hu : A.units < cLine) : RcAt A s (.ref a) (.ref b) false := by
  have h := RcAt.tuples (e := fun _ => false) (light_vals ha) (light_vals hb) hu (light_items2 ht hu' hn d1 d2 d3)
  rw [lit_size, lit_size] at h
  exact h
end
section
variable {prog : Program} {w : World} {A : Around} {E : Value → Shared → Prop} {s : Shared} {Q : Value → Shared → Prop} {h₀ : Heap} {L : Addr} {m : Str → Option Value} {news : List (Addr × Obj)}
theorem red_even {a b : Addr} {x : UInt64} {t1 t2 t3 u1 u2 u3 : Tok} (_H : Hue x false) (X : (hd.heap_39 w.params).In h₀) (F : Fr h₀ L s.heap m) (N : News h₀ L s.heap news) (ha : (a, tupOf [.float one t1, .float 0 t2, .float 0 t3]) ∈ news) (hb : (b, tupOf [.float one u1, .float 0 u2, .float 0 u3]) ∈ news) (hu : A.units + 64 < cLine)
    (ht : Toks3 t1 t2 t3) (hu' : Toks3 u1 u2 u3) (h : Q (.bool true) s) : wpAny (model prog w) A (compareOp .Eq (.ref a) (.ref b)) Q E s :=
  light_rc (k := false) (N _ ha).1 (N _ hb).1 ht hu' (none_booked X F) (by omega) prog w E Q h
theorem red_odd {a b : Addr} {x : UInt64} {t1 t2 t3 u1 u2 u3 : Tok} (_H : Hue x true) (X : (hd.heap_39 w.params).In h₀) (F : Fr h₀ L s.heap m) (N : News h₀ L s.heap news) (ha : (a, tupOf [.float 0 t1, .float one t2, .float one t3]) ∈ news) (hb : (b, tupOf [.float one u1, .float 0 u2, .float 0 u3]) ∈ news) (hu : A.units + 64 < cLine)
    (ht : Toks3 t1 t2 t3) (hu' : Toks3 u1 u2 u3) (d : @Ne Nat t1 u1 ∧ @Ne Nat t2 u2 ∧ @Ne Nat t3 u3) (h : Q (.bool false) s) : wpAny (model prog w) A (compareOp .Eq (.ref a) (.ref b)) Q E s :=
  light_rc2 (N _ ha).1 (N _ hb).1 ht hu' (none_booked X F) d.1 d.2.1 d.2.2 (by omega) prog w E Q h
/-- two lists of lights -/
theorem lights_ne {a b : Addr} {vs ws : List Value} {bits : List Bool} (ha : s.heap.IsList a vs.toArray) (hb : s.heap.IsList b ws.toArray) (h1 : vs.length = bits.length) (h2 : ws.length = bits.length)
    (hv : ∀ (i : Nat) (k : Bool), bits[i]? = some k → ∃ (p q : Addr) (t1 t2 t3 u1 u2 u3 : Tok), vs[i]? = some (Value.ref p) ∧ ws[i]? = some (Value.ref q) ∧ s.heap.get? p = some (lightOf k t1 t2 t3) ∧ s.heap.get? q = some (lightOf k u1 u2 u3) ∧ Toks3 t1 t2 t3 ∧ Toks3 u1 u2 u3) (hn : NoneBooked s.heap) (hu : A.units + 64 < cLine)
    (h : Q (.bool false) s) : wpAny (model prog w) A (compareOp .NotEq (.ref a) (.ref b)) Q E s := by
  refine RcNeAt.lists (e := fun _ => true) ha hb (by simp [h1, h2]) (by omega) (fun j q1 q2 => ?_) prog w E Q ?_
  · have hj : j < bits.length := by simpa [h1] using q1
    obtain ⟨p, q, t1, t2, t3, u1, u2, u3, ep, eq, hp, hq, ht, hu'⟩ := hv j bits[j] (List.getElem?_eq_getElem hj)
    have e1 : vs.toArray[j] = .ref p := by
      have := List.getElem?_eq_some_iff.mp ep
      obtain ⟨_, this⟩ := this
      simpa using this
    have e2 : ws.toArray[j] = .ref q := by
      have := List.getElem?_eq_some_iff.mp eq
      obtain ⟨_, this⟩ := this
      simpa using this
    rw [e1, e2]
    by_cases hne : p = q
    · rw [hne]
      exact EqAt.same _
    · exact EqAt.of_refs hne (light_rc hp hq ht hu' hn (by show A.units + 1 < cLine; omega))
  · have e : (!(List.range vs.toArray.size).all (fun _ => true)) = false := by simp
    rw [e]
    exact h
end
end Mine
end

section
theorem Mine.fresh_T_grown : True := by
  w_top off
  trivial
namespace Mine
def LightsAre (b : Heap) (ps : List Addr) (bits : List Bool) : Prop := ps.length = bits.length ∧ ∀ i p, ps[i]? = some p → ∃ t1 t2 t3, b.get? p = some (lightOf (bits.getD i false) t1 t2 t3)
inductive GrownRel (bits : List Bool) : Heap → List Value → Prop where
  | mk {b : Heap} {l : Addr} {ps : List Addr} : b.IsList l (List.toArray (ps.map Value.ref)) → LightsAre b ps bits → bits.length = 7 → GrownRel bits b [.ref l]
def GrownOut (bits : List Bool) (tl : List (Addr × Obj)) (r : Value) : Prop := ∃ S us c objs, tl = (S, listOf (List.toArray us) c) :: objs ∧ r = .ref S ∧ us.length = 7 ∧
  ∀ n, n < 7 → ∃ T t1 t2, us[n]? = some (.ref T) ∧ (T, tupOf [.int (((bmAt bits (n + 1)).size : Nat) : Int) t1, .str (flagText (bmAt bits (n + 1)).taps) t2]) ∈ objs
/-- the frame's map where the law's eight names are known -/
def grSet (a b c d e f g k : Value) (m : Str → Option Value) : Str → Option Value := fun y => if y = Str.ofString "taps" then some a else if y = Str.ofString "kept" then some b else if y = Str.ofString "size" then some c else if y = Str.ofString "gap" then some d else if y = Str.ofString "words" then some e else if y = Str.ofString "steps" then some f else if y = Str.ofString "names" then some g else if y = Str.ofString "lights" then some k else m y
theorem gr_map {m : Str → Option Value} {a b c d e f g k : Value} (h0 : m (Str.ofString "taps") = some a) (h1 : m (Str.ofString "kept") = some b) (h2 : m (Str.ofString "size") = some c) (h3 : m (Str.ofString "gap") = some d) (h4 : m (Str.ofString "words") = some e) (h5 : m (Str.ofString "steps") = some f) (h6 : m (Str.ofString "names") = some g) (h7 : m (Str.ofString "lights") = some k) : m = grSet a b c d e f g k m := by
  funext y
  unfold grSet
  by_cases q0 : y = Str.ofString "taps"
  · rw [if_pos q0, q0, h0]
  rw [if_neg q0]
  by_cases q1 : y = Str.ofString "kept"
  · rw [if_pos q1, q1, h1]
  rw [if_neg q1]
  by_cases q2 : y = Str.ofString "size"
  · rw [if_pos q2, q2, h2]
  rw [if_neg q2]
  by_cases q3 : y = Str.ofString "gap"
  · rw [if_pos q3, q3, h3]
  rw [if_neg q3]
  by_cases q4 : y = Str.ofString "words"
  · rw [if_pos q4, q4, h4]
  rw [if_neg q4]
  by_cases q5 : y = Str.ofString "steps"
  · rw [if_pos q5, q5, h5]
  rw [if_neg q5]
  by_cases q6 : y = Str.ofString "names"
  · rw [if_pos q6, q6, h6]
  rw [if_neg q6]
  by_cases q7 : y = Str.ofString "lights"
  · rw [if_pos q7, q7, h7]
  rw [if_neg q7]
/-- what a step keeps: the register's state in the map, the names' list, the steps told so far -/
def GrMap (bits : List Bool) (l S Nm : Addr) (n : Nat) (m : Str → Option Value) : Prop :=
  ∃ t1 t2 t3 t4 t5, m (Str.ofString "taps") = some (.int (((bmAt bits n).taps : Nat) : Int) t1) ∧ m (Str.ofString "kept") = some (.int (((bmAt bits n).kept : Nat) : Int) t2) ∧ m (Str.ofString "size") = some (.int (((bmAt bits n).size : Nat) : Int) t3) ∧
    m (Str.ofString "gap") = some (.int (((bmAt bits n).gap : Nat) : Int) t4) ∧ m (Str.ofString "words") = some (.str (flagText (bmAt bits n).taps) t5) ∧ m (Str.ofString "steps") = some (.ref S) ∧ m (Str.ofString "names") = some (.ref Nm) ∧ m (Str.ofString "lights") = some (.ref l)
def StepsAre (bits : List Bool) (us : List Value) (objs : List (Addr × Obj)) (n : Nat) : Prop := us.length = n ∧
  ∀ i, i < n → ∃ T t1 t2, us[i]? = some (.ref T) ∧ (T, tupOf [.int (((bmAt bits (i + 1)).size : Nat) : Int) t1, .str (flagText (bmAt bits (i + 1)).taps) t2]) ∈ objs
def GrJ (bits : List Bool) (l S Nm : Addr) (no : Obj) (_m₀ : Str → Option Value) (n : Nat) (m : Str → Option Value) (nx : List (Addr × Obj)) : Prop :=
  GrMap bits l S Nm n m ∧ ∃ us c objs, nx = (S, listOf (List.toArray us) c) :: (Nm, no) :: objs ∧ StepsAre bits us objs n ∧ (∀ p ∈ objs, p.1 ≠ S ∧ p.1 ≠ Nm)
/-- the frame's map in the inner loop -/
def inSet (a b c d e : Option Value) (m : Str → Option Value) : Str → Option Value := fun y => if y = Str.ofString "turn" then a else if y = Str.ofString "word" then b else if y = Str.ofString "r" then c else if y = Str.ofString "g" then d else if y = Str.ofString "b" then e else m y
theorem in_self (m : Str → Option Value) : m = inSet (m (Str.ofString "turn")) (m (Str.ofString "word")) (m (Str.ofString "r")) (m (Str.ofString "g")) (m (Str.ofString "b")) m := by
  funext y
  unfold inSet
  by_cases q0 : y = Str.ofString "turn"
  · rw [if_pos q0, q0]
  rw [if_neg q0]
  by_cases q1 : y = Str.ofString "word"
  · rw [if_pos q1, q1]
  rw [if_neg q1]
  by_cases q2 : y = Str.ofString "r"
  · rw [if_pos q2, q2]
  rw [if_neg q2]
  by_cases q3 : y = Str.ofString "g"
  · rw [if_pos q3, q3]
  rw [if_neg q3]
  by_cases q4 : y = Str.ofString "b"
  · rw [if_pos q4, q4]
  rw [if_neg q4]
def InJ (bits : List Bool) (n taps : Nat) (news₀ : List (Addr × Obj)) (m₀ : Str → Option Value) (k : Nat) (m : Str → Option Value) (nx : List (Addr × Obj)) : Prop :=
  nx = news₀ ∧ ∃ b c d e t, m = inSet (some (.float (turnF (litCount bits n taps k)) t)) b c d e m₀
theorem place_le {f n j : Nat} (h : j ∈ placesOf f 8) (hf : f < 2 ^ (n + 1)) : j ≤ n ∧ j < 8 := by
  have h1 := List.mem_filter.mp h
  refine ⟨Nat.le_of_not_lt fun q => ?_, List.mem_range.mp h1.1⟩
  have h2 : f.testBit j = false := Nat.testBit_lt_two_pow (Nat.lt_of_lt_of_le hf (Nat.pow_le_pow_right (by decide) q))
  rw [h2] at h1
  cases h1.2
theorem word_at {vs : List Value} {f k : Nat} {v : Value} (h : StrsAre vs (namesOf f 8)) (hv : vs[k]? = some v) : ∃ j u, (placesOf f 8)[k]? = some j ∧ v = .str (nameAt j) u := by
  have hk : k < vs.length := (List.getElem?_eq_some_iff.mp hv).1
  have hl : k < (placesOf f 8).length := by rw [h.length] at hk; unfold namesOf at hk; rwa [List.length_map] at hk
  have hj : (placesOf f 8)[k]? = some (placesOf f 8)[k] := List.getElem?_eq_getElem hl
  have hn : (namesOf f 8)[k]? = some (nameAt (placesOf f 8)[k]) := by unfold namesOf; rw [List.getElem?_map, hj]; rfl
  obtain ⟨u, hu⟩ := StrsAre.get h k _ hn
  rw [hv] at hu
  exact ⟨_, u, hj, Option.some.inj hu⟩
theorem light_at {hp : Heap} {ps : List Addr} {bits : List Bool} {i j : Nat} (hL : LightsAre hp ps bits) (h7 : bits.length = 7) (hi : i < 7) (hj : j ≤ i) :
    ∃ p, (List.toArray (ps.map Value.ref))[(((i : Nat) : Int) - ((j : Nat) : Int)).toNat]? = some (.ref p) ∧ ∃ t1 t2 t3, hp.get? p = some (lightOf (litAt bits i j) t1 t2 t3) := by
  have hlt : i - j < ps.length := by rw [hL.1]; omega
  have hp : ps[i - j]? = some ps[i - j] := List.getElem?_eq_getElem hlt
  refine ⟨ps[i - j], ?_, hL.2 _ _ hp⟩
  rw [show (((i : Nat) : Int) - ((j : Nat) : Int)).toNat = i - j by omega, List.getElem?_toArray, List.getElem?_map, hp]
  rfl
theorem light_tup {hp : Heap} {p : Addr} {k : Bool} {t1 t2 t3 : Tok} (h : hp.get? p = some (lightOf k t1 t2 t3)) : hp.IsTuple p #[.float (if k then 0 else one) t1, .float (if k then one else 0) t2, .float (if k then one else 0) t3] := by
  cases k <;> exact ⟨_, h, rfl, 0, rfl⟩
theorem rgb_any {k : Bool} {t1 t2 t3 : Tok} : RgbRel [.float (if k then 0 else one) t1, .float (if k then one else 0) t2, .float (if k then one else 0) t3] k := by
  cases k
  · exact .even
  · exact .odd
theorem turn_next {bits : List Bool} {n taps k j : Nat} (hj : (placesOf taps 8)[k]? = some j) : Float64.add (turnF (litCount bits n taps k)) (if litAt bits n j then half else 0) = turnF (litCount bits n taps (k + 1)) := by
  have h := lit_next (bits := bits) (n := n) hj
  have h2 := lit_le (bits := bits) (n := n) (taps := taps) (k := k + 1)
  cases hb : litAt bits n j
  · rw [hb, if_neg (by decide)] at h
    rw [h, Nat.add_zero]
    exact turn_zero _ (by omega)
  · rw [hb, if_pos rfl] at h
    rw [h]
    exact turn_half _ (by omega)
theorem in_end {m m₀ : Str → Option Value} {v : Option Value} (ht : m (Str.ofString "turn") = v) (hm : ∀ y, y ≠ Str.ofString "turn" → y ≠ Str.ofString "word" → y ≠ Str.ofString "r" → y ≠ Str.ofString "g" → y ≠ Str.ofString "b" → m y = m₀ y) :
    m = inSet v (m (Str.ofString "word")) (m (Str.ofString "r")) (m (Str.ofString "g")) (m (Str.ofString "b")) m₀ := by
  funext y
  unfold inSet
  by_cases q0 : y = Str.ofString "turn"
  · rw [if_pos q0, q0, ht]
  rw [if_neg q0]
  by_cases q1 : y = Str.ofString "word"
  · rw [if_pos q1, q1]
  rw [if_neg q1]
  by_cases q2 : y = Str.ofString "r"
  · rw [if_pos q2, q2]
  rw [if_neg q2]
  by_cases q3 : y = Str.ofString "g"
  · rw [if_pos q3, q3]
  rw [if_neg q3]
  by_cases q4 : y = Str.ofString "b"
  · rw [if_pos q4, q4]
  rw [if_neg q4]
  exact hm y q0 q1 q2 q3 q4
theorem in_endE {bits : List Bool} {n taps k : Nat} {m m₀ : Str → Option Value} {hp h' : Heap} {L' : Addr} {news own : List (Addr × Obj)} {d : Addr × Obj} {s₁ : Shared} {tk : Nat} {x : UInt64} {t : Tok}
    (F : Fr hp L' h' m) (N : News hp L' h' (d :: (news ++ own))) (ht : m (Str.ofString "turn") = some (.float x t)) (hx : x = turnF (litCount bits n taps (k + 1)))
    (hm : ∀ y, y ≠ Str.ofString "turn" → y ≠ Str.ofString "word" → y ≠ Str.ofString "r" → y ≠ Str.ofString "g" → y ≠ Str.ofString "b" → m y = m₀ y) :
    InvEndN hp L' (InJ bits n taps news m₀ (k + 1)) own (news.map (·.1)) s₁ { s₁ with heap := h', toks := tk } :=
  InvEndN.intro F N ⟨rfl, _, _, _, _, t, in_end (hx ▸ ht) hm⟩ rfl (fun _ hp => .tail _ (List.mem_append_left _ hp)) (fun _ hp => .tail _ (List.mem_append_right _ hp))
theorem ltOf {d : Addr} {l : List (Addr × Obj)} : AllLt d l → ∀ p ∈ l, p.1 < d := by
  induction l with
  | nil => exact fun _ _ hp => nomatch hp
  | cons q l ih =>
    intro h p hp
    rcases List.mem_cons.mp hp with e | hp
    · rw [e]
      exact h.1
    · exact ih h.2 p hp
theorem one_there {D : Addr} {o : Obj} {l : List (Addr × Obj)} (h : AllLt D l) : ∀ q ∈ (D, o) :: l, q.1 = D → q = (D, o) := fun q hq e => by
  rcases List.mem_cons.mp hq with rfl | hq
  · rfl
  · exact absurd e (Nat.ne_of_lt (ltOf h q hq))
theorem gr_sub {a b : Addr × Obj} {objs : List (Addr × Obj)} : ∀ p ∈ a :: objs, p ∈ a :: b :: objs := fun p hp => by
  rcases List.mem_cons.mp hp with rfl | hp
  · exact .head _
  · exact .tail _ (.tail _ hp)
theorem upd_pre {S : Addr} {o o' : Obj} {post : List (Addr × Obj)} (hp : ∀ p ∈ post, p.1 ≠ S) : ∀ {pre : List (Addr × Obj)}, (∀ p ∈ pre, p.1 ≠ S) → Upd S o o' (pre ++ (S, o) :: post) (pre ++ (S, o') :: post)
  | [], _ => .head hp
  | q :: _, h => .tail (h q (.head _)) (upd_pre hp fun p hp' => h p (.tail _ hp'))
theorem steps_next {bits : List Bool} {us : List Value} {objs : List (Addr × Obj)} {n : Nat} {T : Addr} {t1 t2 : Tok} (h : StepsAre bits us objs n) : StepsAre bits (us ++ [Value.ref T]) ((T, tupOf [.int (((bmAt bits (n + 1)).size : Nat) : Int) t1, .str (flagText (bmAt bits (n + 1)).taps) t2]) :: objs) (n + 1) := by
  refine ⟨by rw [List.length_append, h.1]; rfl, fun j hj => ?_⟩
  by_cases hjn : j < n
  · obtain ⟨T', a, b, e1, e2⟩ := h.2 j hjn
    exact ⟨T', a, b, by rw [List.getElem?_append_left (by rw [h.1]; exact hjn)]; exact e1, .tail _ e2⟩
  · have e : j = n := by omega
    subst e
    refine ⟨T, t1, t2, ?_, .head _⟩
    rw [List.getElem?_append_right (by rw [h.1]; exact Nat.le_refl _), h.1, Nat.sub_self]
    rfl
theorem gr_done {prog : Program} {w : World} {A : Around} {env : Env} {E : Value → Shared → Prop} {Q : Flow → Shared → Prop} {s₁ : Shared} {L' : Addr} {h : Heap} {gs : Array GenState} {dr : Drawn} {tk : Nat} {os : OsState} {bits : List Bool} {l S Nm T : Addr} {no tup : Obj} {us : List Value} {c i : Nat} {objs own : List (Addr × Obj)} {hp : Heap} {m m₀ : Str → Option Value} {t1 t2 : Tok}
    (pre : List (Addr × Obj)) (hL : env.locals = L') (F : Fr hp L' h m) (N : News hp L' h ((T, tup) :: pre ++ (S, listOf us.toArray c) :: (Nm, no) :: (objs ++ own)))
    (htup : tup = tupOf [.int (((bmAt bits (i + 1)).size : Nat) : Int) t1, .str (flagText (bmAt bits (i + 1)).taps) t2]) (hlt : AllLt T (pre ++ (S, listOf us.toArray c) :: (Nm, no) :: (objs ++ own)))
    (hS : ∀ p ∈ pre, p.1 ≠ S) (hNm : Nm ≠ S) (hoff : ∀ p ∈ objs, p.1 ≠ S ∧ p.1 ≠ Nm) (ho : OwnOff own (S :: Nm :: objs.map fun x => x.1)) (hSt : StepsAre bits us objs i) (hm : GrMap bits l S Nm (i + 1) m) (hi : i < 7) (hs : (⟨h, gs, dr, tk, os⟩ : Shared) = { s₁ with heap := h, toks := tk }) :
    wpAny (model prog w) A (call (.builtin "list.append") [.ref S, .ref T]) (fun _ s' => wpAny (model prog w) A (execs [] env) (GrowPost hp env.locals (GrJ bits l S Nm no m₀ (i + 1)) own s₁ Q) E s') E ⟨h, gs, dr, tk, os⟩ := by
  subst hL
  have hall := ltOf hlt
  have hTS : S < T := hall (S, _) (List.mem_append_right _ (.head _))
  have hTN : Nm < T := hall (Nm, no) (List.mem_append_right _ (.tail _ (.head _)))
  refine append_K F N (upd_pre (pre := (T, tup) :: pre) (fun p hp => ?_) fun p hp => ?_) (fun h' F' N' => wpAny_execs_nil ?_) (by simp only [List.size_toArray, PySem.sizeLine_eq, hSt.1]; omega)
  · rcases List.mem_cons.mp hp with rfl | hp
    · exact hNm
    · exact (List.mem_append.mp hp).elim (fun q => (hoff p q).1) fun q => ho p q _ (.head _)
  · rcases List.mem_cons.mp hp with rfl | hp
    · exact Nat.ne_of_gt hTS
    · exact hS p hp
  · show GrowEnd _ _ _ _ _ _
    rw [List.push_toArray] at N'
    refine ⟨h', tk, m, _, (S, listOf (us ++ [Value.ref T]).toArray (c + 1)) :: (Nm, no) :: (T, tup) :: objs, ?_, F', N', fun p hp => ?_, fun p hp => ?_, ?_, hm, us ++ [Value.ref T], c + 1, (T, tup) :: objs, rfl, htup ▸ steps_next hSt, fun p hp => ?_⟩
    · injection hs with _ e1 e2 _ e4
      rw [e1, e2, e4]
    · rcases List.mem_cons.mp hp with rfl | hp
      · exact List.mem_append_right _ (.head _)
      · rcases List.mem_cons.mp hp with rfl | hp
        · exact List.mem_append_right _ (.tail _ (.head _))
        · rcases List.mem_cons.mp hp with rfl | hp
          · exact .head _
          · exact List.mem_append_right _ (.tail _ (.tail _ (List.mem_append_left _ hp)))
    · exact List.mem_append_right _ (.tail _ (.tail _ (List.mem_append_right _ hp)))
    · intro p hp b hb
      rw [List.map_cons, List.map_cons, List.map_cons] at hb
      rcases List.mem_cons.mp hb with rfl | hb
      · exact ho p hp _ (.head _)
      · rcases List.mem_cons.mp hb with rfl | hb
        · exact ho p hp _ (.tail _ (.head _))
        · rcases List.mem_cons.mp hb with rfl | hb
          · exact Nat.ne_of_lt (hall p (List.mem_append_right _ (.tail _ (.tail _ (List.mem_append_right _ hp)))))
          · exact ho p hp _ (.tail _ (.tail _ hb))
    · rcases List.mem_cons.mp hp with rfl | hp
      · exact ⟨Nat.ne_of_gt hTS, Nat.ne_of_gt hTN⟩
      · exact hoff p hp
theorem gr_mk {bits : List Bool} {l S Nm : Addr} {n a b c d : Nat} {m : Str → Option Value} {t1 t2 t3 t4 t5 : Tok} (hst : bmAt bits (n + 1) = ⟨a, b, c, d⟩) (h1 : m (Str.ofString "taps") = some (.int ((a : Nat) : Int) t1)) (h2 : m (Str.ofString "kept") = some (.int ((b : Nat) : Int) t2)) (h3 : m (Str.ofString "size") = some (.int ((c : Nat) : Int) t3))
    (h4 : m (Str.ofString "gap") = some (.int ((d : Nat) : Int) t4)) (h5 : m (Str.ofString "words") = some (.str (flagText a) t5)) (h6 : m (Str.ofString "steps") = some (.ref S)) (h7 : m (Str.ofString "names") = some (.ref Nm)) (h8 : m (Str.ofString "lights") = some (.ref l)) : GrMap bits l S Nm (n + 1) m := by
  unfold GrMap
  rw [hst]
  exact ⟨t1, t2, t3, t4, t5, h1, h2, h3, h4, h5, h6, h7, h8⟩
/-- the register after the light, in the map -/
def BmMap (bits : List Bool) (l S Nm : Addr) (n : Nat) (m : Str → Option Value) : Prop := ∃ t1 t2 t3 t4, m (Str.ofString "taps") = some (.int (((bmAt bits n).taps : Nat) : Int) t1) ∧ m (Str.ofString "kept") = some (.int (((bmAt bits n).kept : Nat) : Int) t2) ∧ m (Str.ofString "size") = some (.int (((bmAt bits n).size : Nat) : Int) t3) ∧ m (Str.ofString "gap") = some (.int (((bmAt bits n).gap : Nat) : Int) t4) ∧ m (Str.ofString "steps") = some (.ref S) ∧ m (Str.ofString "names") = some (.ref Nm) ∧ m (Str.ofString "lights") = some (.ref l)
theorem bm_mk {bits : List Bool} {l S Nm : Addr} {n a b c d : Nat} {m : Str → Option Value} {t1 t2 t3 t4 : Tok} (hst : bmAt bits n = ⟨a, b, c, d⟩) (h1 : m (Str.ofString "taps") = some (.int ((a : Nat) : Int) t1)) (h2 : m (Str.ofString "kept") = some (.int ((b : Nat) : Int) t2)) (h3 : m (Str.ofString "size") = some (.int ((c : Nat) : Int) t3)) (h4 : m (Str.ofString "gap") = some (.int ((d : Nat) : Int) t4)) (h6 : m (Str.ofString "steps") = some (.ref S)) (h7 : m (Str.ofString "names") = some (.ref Nm)) (h8 : m (Str.ofString "lights") = some (.ref l)) : BmMap bits l S Nm n m := by
  unfold BmMap
  rw [hst]
  exact ⟨t1, t2, t3, t4, h1, h2, h3, h4, h6, h7, h8⟩
def GrCut (bits : List Bool) (l S Nm : Addr) (n : Nat) (hp : Heap) (L' : Addr) (gs : Array GenState) (dr : Drawn) (os : OsState) (news : List (Addr × Obj)) (f : Flow) (s' : Shared) : Prop :=
  f = .next ∧ ∃ h tk m, s' = ⟨h, gs, dr, tk, os⟩ ∧ Fr hp L' h m ∧ News hp L' h news ∧ 0 < tk ∧ BmMap bits l S Nm n m
theorem gr_if {M : Model} {A : Around} {t : Sem Flow} {Q : Flow → Shared → Prop} {E : Value → Shared → Prop} (bits : List Bool) (n : Nat) {l S Nm : Addr} {hp h : Heap} {L' : Addr} {gs : Array GenState} {dr : Drawn} {tk : Nat} {os : OsState} {m : Str → Option Value} {news : List (Addr × Obj)} (_F : Fr hp L' h m) (_N : News hp L' h news) (_h1 : m (Str.ofString "steps") = some (.ref S)) (_h2 : m (Str.ofString "names") = some (.ref Nm)) (_h3 : m (Str.ofString "lights") = some (.ref l))
    (h1 : wpAny M A t (GrCut bits l S Nm n hp L' gs dr os news) E ⟨h, gs, dr, tk, os⟩) (h2 : ∀ h' tk' m', Fr hp L' h' m' → News hp L' h' news → 0 < tk' → BmMap bits l S Nm n m' → Q .next ⟨h', gs, dr, tk', os⟩) : wpAny M A t Q E ⟨h, gs, dr, tk, os⟩ :=
  wpAny_mono h1 (fun f s' z => by
    obtain ⟨rfl, h', tk', m', rfl, F', N', p', b'⟩ := z
    exact h2 h' tk' m' F' N' p' b') fun _ _ e => e
theorem bm_map {m : Str → Option Value} {a b c d f g k : Value} (h0 : m (Str.ofString "taps") = some a) (h1 : m (Str.ofString "kept") = some b) (h2 : m (Str.ofString "size") = some c) (h3 : m (Str.ofString "gap") = some d) (h5 : m (Str.ofString "steps") = some f) (h6 : m (Str.ofString "names") = some g) (h7 : m (Str.ofString "lights") = some k) : m = fun y => if y = Str.ofString "taps" then some a else if y = Str.ofString "kept" then some b else if y = Str.ofString "size" then some c else if y = Str.ofString "gap" then some d else if y = Str.ofString "steps" then some f else if y = Str.ofString "names" then some g else if y = Str.ofString "lights" then some k else m y := by
  funext y
  by_cases q0 : y = Str.ofString "taps"
  · rw [if_pos q0, q0, h0]
  rw [if_neg q0]
  by_cases q1 : y = Str.ofString "kept"
  · rw [if_pos q1, q1, h1]
  rw [if_neg q1]
  by_cases q2 : y = Str.ofString "size"
  · rw [if_pos q2, q2, h2]
  rw [if_neg q2]
  by_cases q3 : y = Str.ofString "gap"
  · rw [if_pos q3, q3, h3]
  rw [if_neg q3]
  by_cases q5 : y = Str.ofString "steps"
  · rw [if_pos q5, q5, h5]
  rw [if_neg q5]
  by_cases q6 : y = Str.ofString "names"
  · rw [if_pos q6, q6, h6]
  rw [if_neg q6]
  by_cases q7 : y = Str.ofString "lights"
  · rw [if_pos q7, q7, h7]
  rw [if_neg q7]
theorem odd_lt {bits : List Bool} {n taps : Nat} : oddCount bits n taps < 9 := by
  rw [← lit_all]
  exact Nat.lt_succ_of_le lit_le
theorem xor_int {a b : Nat} : Builtin.bitXor (a : Int) (b : Int) = ((xorN a b : Nat) : Int) := by
  have h1 : Builtin.bitAnd (a : Int) (b : Int) = ((a &&& b : Nat) : Int) := by
    unfold Builtin.bitAnd
    rw [decide_eq_true (Int.natCast_nonneg a), decide_eq_true (Int.natCast_nonneg b)]
    rfl
  have h2 : Builtin.bitOr (a : Int) (b : Int) = ((a ||| b : Nat) : Int) := by
    unfold Builtin.bitOr
    have ha : Builtin.bitNot (a : Int) < 0 := by unfold Builtin.bitNot; omega
    have hb : Builtin.bitNot (b : Int) < 0 := by unfold Builtin.bitNot; omega
    unfold Builtin.bitAnd
    rw [decide_eq_false (Int.not_le.mpr ha), decide_eq_false (Int.not_le.mpr hb)]
    have e : ∀ x : Int, Builtin.bitNot (Builtin.bitNot x) = x := fun x => by unfold Builtin.bitNot; omega
    show Builtin.bitNot (Builtin.bitNot (((Builtin.bitNot (Builtin.bitNot (a : Int))).toNat ||| (Builtin.bitNot (Builtin.bitNot (b : Int))).toNat : Nat) : Int)) = _
    rw [e, e, e, Int.toNat_natCast, Int.toNat_natCast]
  unfold Builtin.bitXor xorN
  rw [h1, h2, Int.ofNat_sub (Nat.le_trans Nat.and_le_left Nat.left_le_or)]
section
variable {prog : Program} {w : World} {A : Around} {E : Value → Shared → Prop} {s : Shared} {Q : Value → Shared → Prop} {t u : Tok}
theorem shl_nat {k g : Nat} (hk : k < 256) (hg : g ≤ 8) (h : Q (.int ((k <<< g : Nat) : Int) s.toks) { s with toks := s.toks + 1 }) : wpAny (model prog w) A (binaryOp .LShift (.int ((k : Nat) : Int) t) (.int ((g : Nat) : Int) u)) Q E s := by
  refine lshift_int_small (by omega) (by omega) (by omega) ?_
  have e : ((k : Nat) : Int) * 2 ^ ((g : Nat) : Int).toNat = ((k <<< g : Nat) : Int) := by
    rw [Int.toNat_natCast, Nat.shiftLeft_eq, Int.natCast_mul, Int.natCast_pow]
    rfl
  rw [e]
  exact h
theorem xor_nat {a b : Nat} (h : Q (.int ((xorN a b : Nat) : Int) s.toks) { s with toks := s.toks + 1 }) : wpAny (model prog w) A (binaryOp .BitXor (.int ((a : Nat) : Int) t) (.int ((b : Nat) : Int) u)) Q E s :=
  PyProof.Rows.xor_int (by rw [xor_int]; exact h)
end
theorem bm_even {bits : List Bool} {n : Nat} (h : (oddCount bits n (bmAt bits n).taps % 2 == 1) = false) : bmAt bits (n + 1) = ⟨(bmAt bits n).taps, (bmAt bits n).kept, (bmAt bits n).size, (bmAt bits n).gap + 1⟩ := by
  have h1 : oddCount bits n (bmAt bits n).taps % 2 = 0 := by
    have h2 : ¬ oddCount bits n (bmAt bits n).taps % 2 = 1 := fun e => by rw [e] at h; cases h
    omega
  show bmStep bits n (bmAt bits n) = _
  unfold bmStep
  rw [if_pos h1]
theorem bm_grow {bits : List Bool} {n : Nat} (h : (oddCount bits n (bmAt bits n).taps % 2 == 1) = true) (hs : 2 * (bmAt bits n).size ≤ n) : bmAt bits (n + 1) = ⟨xorN (bmAt bits n).taps ((bmAt bits n).kept <<< (bmAt bits n).gap), (bmAt bits n).taps, n + 1 - (bmAt bits n).size, 1⟩ := by
  have h1 : ¬ oddCount bits n (bmAt bits n).taps % 2 = 0 := by have := eq_of_beq h; omega
  show bmStep bits n (bmAt bits n) = _
  unfold bmStep
  rw [if_neg h1, if_pos hs]
theorem bm_odd {bits : List Bool} {n : Nat} (h : (oddCount bits n (bmAt bits n).taps % 2 == 1) = true) (hs : ¬ 2 * (bmAt bits n).size ≤ n) : bmAt bits (n + 1) = ⟨xorN (bmAt bits n).taps ((bmAt bits n).kept <<< (bmAt bits n).gap), (bmAt bits n).kept, (bmAt bits n).size, (bmAt bits n).gap + 1⟩ := by
  have h1 : ¬ oddCount bits n (bmAt bits n).taps % 2 = 0 := by have := eq_of_beq h; omega
  show bmStep bits n (bmAt bits n) = _
  unfold bmStep
  rw [if_neg h1, if_neg hs]
theorem bm_xor {bits : List Bool} {n : Nat} (h7 : bits.length = 7) (hn : n < 7) (h : (oddCount bits n (bmAt bits n).taps % 2 == 1) = true) : 0 < xorN (bmAt bits n).taps ((bmAt bits n).kept <<< (bmAt bits n).gap) ∧ xorN (bmAt bits n).taps ((bmAt bits n).kept <<< (bmAt bits n).gap) < 256 := by
  have hf := bm_fine h7 (show n + 1 < 8 by omega)
  by_cases hs : 2 * (bmAt bits n).size ≤ n
  · rw [bm_grow h hs] at hf
    exact ⟨hf.2.1, hf.1⟩
  · rw [bm_odd h hs] at hf
    exact ⟨hf.2.1, hf.1⟩
local macro_rules | `(tactic| walk_at "call ref") => `(tactic| (k_here; refine at_stopK 1 ?_))
local macro_rules | `(tactic| walk_at "exec For Name Call cons nil") => `(tactic| (k_here; k_dflt (refine at_stop2 ?_)))
theorem len_seven {prog : Program} {w : World} {A : Around} {E : Value → Shared → Prop} {s : Shared} {Q : Value → Shared → Prop} {l : Addr} {ps : List Addr} (hl : s.heap.IsList l (List.toArray (ps.map Value.ref))) (h7 : ps.length = 7)
    (h : Q (.int 7 (s.toks + 1)) { s with toks := s.toks + 1 + 1 }) : wpAny (model prog w) A (call (.builtin "len") [.ref l]) Q E s := by
  have e : (List.toArray (ps.map Value.ref)).size = 7 := by simp [h7]
  refine len_list hl (by rw [e]; decide) ?_
  rw [e]
  exact h
theorem gr_start {bits : List Bool} {l S Nm : Addr} {no : Obj} {m : Str → Option Value} (h : GrMap bits l S Nm 0 m) : GrJ bits l S Nm no m 0 m [(S, listOf #[] 0), (Nm, no)] :=
  ⟨h, [], 0, [], rfl, ⟨rfl, fun _ h => nomatch h⟩, fun _ h => nomatch h⟩
local macro_rules | `(tactic| walk_at "call builtin:len") => `(tactic| (k_here; refine at_stopK 2 ?_))
local macro_rules | `(tactic| walk_at "call type:range") => `(tactic| (k_here; k_dflt (refine at_stop2 ?_)))
local macro_rules | `(tactic| walk_at "call builtin:str.split") => `(tactic| (k_here; refine at_stopK 3 ?_))
local macro_rules | `(tactic| walk_at "call builtin:list.index") => `(tactic| (k_here; refine at_stopK 4 ?_))
local macro_rules | `(tactic| walk_at "subscriptTail Name BinOp ref int") => `(tactic| (k_here; refine at_stopK 5 ?_))
local macro_rules | `(tactic| walk_at "InvEndN") => `(tactic| (k_here; k_dflt (refine at_stop2 ?_)))
local macro_rules | `(tactic| walk_at "binaryOp LShift int int") => `(tactic| (k_here; refine at_stopK 6 ?_))
local macro_rules | `(tactic| walk_at "binaryOp BitXor int int") => `(tactic| (k_here; refine at_stopK 7 ?_))
local macro_rules | `(tactic| walk_at "compareOp Eq ref ref") => `(tactic| (k_here; refine at_stopK 8 ?_))
local macro_rules | `(tactic| units_room) => `(tactic| ktr_units)
local macro_rules | `(tactic| walk_at "call builtin:list.append") => `(tactic| (k_here; k_dflt (refine at_stop2 ?_)))
local macro_rules | `(tactic| walk_at "execs cons") => `(tactic| (k_here; refine at_stopK 9 ?_))
local macro_rules | `(tactic| walk_at "execs nil") => `(tactic| (k_here; refine at_stopK 10 ?_))
set_option maxHeartbeats 8000000 in
theorem grown_pos (w : World) (mean : ExcName → Option Value) (mg mb : Str → Option Value) (bits : List Bool) : TellP w mean mg mb 123 8 (fun hp vs _ => GrownRel bits hp vs) (fun tl r _ => GrownOut bits tl r) := by
  unfold TellP
  k_fill
  intro dp un gd cn cs a ccd cl outer A₀ base h₀ L m hp gs dr tk os vs Q E B F X T hk hR hd hu h0 hret
  cases hR with
  | mk hl hL h7 =>
  k_dflt (refine' tell_inP ?k1 ?k2 ?k3 ?k5 ?kK ?k6 ?k7 ?k8 ?k9 ?kB ?_ ?c5 ?c2 ?c3 ?c4; (case k1 => k_asm); (case k2 => k_asm); (case k3 => k_asm); (case k5 => k_asm); (case kK => assumption); (case k6 => k_is); (case k7 => k_is); (case k8 => omega); (case k9 => exact BindsTo.of_eq rfl); (case kB => exact locs rfl); (case c5 => decide); (case c2 => exact rfl); (case c3 => exact rfl); (case c4 => exact rfl); k_whole; clear B F X T hk; intro L' h' tk' hle' F' N' B' X' T'; (try dsimp only); (try k_fold))
  repeat' (first | ((with_reducible show StopK 1 _); unfold StopK; first | ((with_reducible show wpAny _ _ (call (Value.ref 28) _) _ _ _); (rename Hue _ _ => hH9); k_dflt (refine' tellP_use (hsv_pos _ _ _ _ _) ?k1 ?k2 ?k3 ?k4 ?k5 ?kK (HsvRel.mk hH9 ?r1 ?r2) ?kd ?ku ?kp ?_; (case k1 => k_asm); (case k2 => k_asm); (case k3 => k_asm); (case k4 => k_asm); (case k5 => k_asm); (case kK => first | exact rfl | assumption); (case r1 => (unfold TokIn; (try dsimp only); omega)); (case r2 => (unfold TokIn; (try dsimp only); omega)); (case kd => ktr_room); (case ku => ktr_units); (case kp => ((try dsimp only); omega))); intro r' tl' h' tk' h0' hO' F' N' a'; obtain ⟨D9, t1, t2, t3, e1, e2, ⟨q1, q4⟩, ⟨q2, q5⟩, ⟨q3, q6⟩⟩ := hO'; subst e1; subst e2; (have a9 := a' _ (.head _)); (simp only [Apart] at a9); (simp only [lightOf, Bool.false_eq_true, if_false, if_true, List.cons_append, List.nil_append] at N'); (try dsimp only)) | ((with_reducible show wpAny _ _ (call (Value.ref 21) _) _ _ _); k_dflt (refine' tell_use (rgb_told _ _ _ _ _) ?k1 ?k2 ?k3 ?k4 ?k5 ?kK (rgb_any) ?kd ?ku ?_; (case k1 => k_asm); (case k2 => k_asm); (case k3 => k_asm); (case k4 => k_asm); (case k5 => k_asm); (case kK => first | exact rfl | assumption); skip; (case kd => ktr_room); (case ku => ktr_units)); intro r' tl' h' tk' hO' F' N' a'; obtain ⟨D9, t9, v9, w9, e1, e2⟩ := hO'; subst e1; subst e2; (simp only [List.cons_append, List.nil_append] at N'); (try dsimp only)) | ((with_reducible show wpAny _ _ (call (Value.ref 36) _) _ _ _); k_dflt (refine' tell_useP (flag_told _ _ _ _ _) ?k1 ?k2 ?k3 ?k4 ?k5 ?kK (FlagRel.mk ?r1 ?r2) ?kd ?ku ?kp ?_; (case k1 => k_asm); (case k2 => k_asm); (case k3 => k_asm); (case k4 => k_asm); (case k5 => k_asm); (case kK => first | exact rfl | assumption); (case r1 => first | decide | omega); (case r2 => first | decide | omega); (case kd => ktr_room); (case ku => ktr_units); (case kp => ((try dsimp only); omega))); intro r' tl' h' tk' h0' hO' F' N' a'; obtain ⟨t', e1, e2⟩ := hO'; subst e1; subst e2; (simp only [List.cons_append, List.nil_append] at N'); (try dsimp only)) | ((with_reducible show wpAny _ _ (call (Value.ref 116) _) _ _ _); k_dflt (refine' tell_useP (nam_told _ _ _ _) ?k1 ?k2 ?k3 ?k4 ?k5 ?kK (NamRel.mk) ?kd ?ku ?kp ?_; (case k1 => k_asm); (case k2 => k_asm); (case k3 => k_asm); (case k4 => k_asm); (case k5 => k_asm); (case kK => first | exact rfl | assumption); skip; (case kd => ktr_room); (case ku => ktr_units); (case kp => ((try dsimp only); omega))); intro r' tl' h' tk' h0' hO' F' N' a'; obtain ⟨l', u1, u2, u3, u4, u5, u6, u7, u8, e1, e2⟩ := hO'; subst e1; subst e2; (simp only [List.cons_append, List.nil_append] at N'); (try dsimp only))) | ((with_reducible show StopK 2 _); unfold StopK; first | ((with_reducible show wpAny _ _ (call (Value.builtin "len") [Value.ref _]) _ _ _); (rename LightsAre _ _ _ => hL9); k_dflt (refine' len_seven ?k1 ?k2 ?_; (case k1 => is_list); (case k2 => (rw [hL9.1]; assumption))))) | ((with_reducible show StopK 3 _); unfold StopK; first | ((with_reducible show wpAny _ _ (call (Value.builtin "str.split") [Value.str (flagText _) _, _]) _ _ _); k_dflt (refine' KSpl.split1 ?F ?N ?y ?_ flag_len; (case F => k_asm); (case N => k_asm); (case y => (first | rfl | decide))); intro D' l' h' k' e' S' F' N' l1; (try k_lt l1))) | ((with_reducible show StopK 4 _); unfold StopK; first | ((with_reducible show wpAny _ _ (call (Value.builtin _) [Value.ref _, Value.str (nameAt _) _]) _ _ _); (rename News _ _ _ _ => kN9); (rename _ < 8 => hj9); k_dflt (refine index_name _ hj9 (kN9 (_, W.listOf (nameVals _ _ _ _ _ _ _ _).toArray 0) (by k_mem)).1 ?_))) | ((with_reducible show StopK 5 _); unfold StopK; first | ((with_reducible show wpAny _ _ (subscriptTail _ (Expr.BinOp ..) (Value.ref _) (Value.int _ _)) _ _ _); (rename (_ = some (Value.ref _)) => hx9); k_dflt (refine' item_list (by is_list) ?k0 ?k1 hx9 ?_; (case k0 => omega); (case k1 => omega)))) | ((with_reducible show StopK 6 _); unfold StopK; first | (k_dflt (refine shl_nat (by assumption) (by assumption) ?_))) | ((with_reducible show StopK 7 _); unfold StopK; first | (k_dflt (refine xor_nat ?_))) | ((with_reducible show StopK 8 _); unfold StopK; first | ((rename Hue _ _ => hH9); k_dflt (first | (refine red_even hH9 (by assumption) (by k_asm) (by k_asm) (by k_mem) (by k_mem) (by ktr_units) ⟨by omega, by omega, by omega⟩ ⟨by omega, by omega, by omega⟩ ?_) | (refine red_odd hH9 (by assumption) (by k_asm) (by k_asm) (by k_mem) (by k_mem) (by ktr_units) ⟨by omega, by omega, by omega⟩ ⟨by omega, by omega, by omega⟩ ⟨by omega, by omega, by omega⟩ ?_)))) | ((with_reducible show StopK 9 _); unfold StopK; first | ((first | (with_reducible refine has_le (by assumption) ?_) | (k_dflt (refine gen_le ?_); intro tk9 hle9; (try dsimp only at hle9))); (with_reducible refine wpAny_execs_cons ?_); (try dsimp only))) | ((with_reducible show StopK 10 _); unfold StopK; first | ((first | (with_reducible refine has_le (by assumption) ?_) | (k_dflt (refine gen_le ?_); intro tk9 hle9; (try dsimp only at hle9))); (with_reducible refine wpAny_execs_nil ?_); (try dsimp only))) | (k_unfold; (try dsimp only)) | (k_end; wrow_close) | ((with_reducible show wpAny _ _ (execs _ _) _ _ _); (try dsimp only); (try k_fold); walk1) | ((with_reducible show wpAny _ _ (eval (Expr.Call _ _ _ _) _) _ _ _); (try k_fold); walk1) | walk1 | (dsimp only; walk1) | (leave1; walk_say "STEP leave1"; try dsimp only))
  unfold Stop2
  (rename Fr hp _ _ _ => F9)
  k_dflt (refine' For_grow F9 ?_ (fun _ _ => rfl) (fun _ => rfl) ?_)
  · repeat' (first | ((with_reducible show StopK 1 _); unfold StopK; first | ((with_reducible show wpAny _ _ (call (Value.ref 28) _) _ _ _); (rename Hue _ _ => hH9); k_dflt (refine' tellP_use (hsv_pos _ _ _ _ _) ?k1 ?k2 ?k3 ?k4 ?k5 ?kK (HsvRel.mk hH9 ?r1 ?r2) ?kd ?ku ?kp ?_; (case k1 => k_asm); (case k2 => k_asm); (case k3 => k_asm); (case k4 => k_asm); (case k5 => k_asm); (case kK => first | exact rfl | assumption); (case r1 => (unfold TokIn; (try dsimp only); omega)); (case r2 => (unfold TokIn; (try dsimp only); omega)); (case kd => ktr_room); (case ku => ktr_units); (case kp => ((try dsimp only); omega))); intro r' tl' h' tk' h0' hO' F' N' a'; obtain ⟨D9, t1, t2, t3, e1, e2, ⟨q1, q4⟩, ⟨q2, q5⟩, ⟨q3, q6⟩⟩ := hO'; subst e1; subst e2; (have a9 := a' _ (.head _)); (simp only [Apart] at a9); (simp only [lightOf, Bool.false_eq_true, if_false, if_true, List.cons_append, List.nil_append] at N'); (try dsimp only)) | ((with_reducible show wpAny _ _ (call (Value.ref 21) _) _ _ _); k_dflt (refine' tell_use (rgb_told _ _ _ _ _) ?k1 ?k2 ?k3 ?k4 ?k5 ?kK (rgb_any) ?kd ?ku ?_; (case k1 => k_asm); (case k2 => k_asm); (case k3 => k_asm); (case k4 => k_asm); (case k5 => k_asm); (case kK => first | exact rfl | assumption); skip; (case kd => ktr_room); (case ku => ktr_units)); intro r' tl' h' tk' hO' F' N' a'; obtain ⟨D9, t9, v9, w9, e1, e2⟩ := hO'; subst e1; subst e2; (simp only [List.cons_append, List.nil_append] at N'); (try dsimp only)) | ((with_reducible show wpAny _ _ (call (Value.ref 36) _) _ _ _); k_dflt (refine' tell_useP (flag_told _ _ _ _ _) ?k1 ?k2 ?k3 ?k4 ?k5 ?kK (FlagRel.mk ?r1 ?r2) ?kd ?ku ?kp ?_; (case k1 => k_asm); (case k2 => k_asm); (case k3 => k_asm); (case k4 => k_asm); (case k5 => k_asm); (case kK => first | exact rfl | assumption); (case r1 => first | decide | omega); (case r2 => first | decide | omega); (case kd => ktr_room); (case ku => ktr_units); (case kp => ((try dsimp only); omega))); intro r' tl' h' tk' h0' hO' F' N' a'; obtain ⟨t', e1, e2⟩ := hO'; subst e1; subst e2; (simp only [List.cons_append, List.nil_append] at N'); (try dsimp only)) | ((with_reducible show wpAny _ _ (call (Value.ref 116) _) _ _ _); k_dflt (refine' tell_useP (nam_told _ _ _ _) ?k1 ?k2 ?k3 ?k4 ?k5 ?kK (NamRel.mk) ?kd ?ku ?kp ?_; (case k1 => k_asm); (case k2 => k_asm); (case k3 => k_asm); (case k4 => k_asm); (case k5 => k_asm); (case kK => first | exact rfl | assumption); skip; (case kd => ktr_room); (case ku => ktr_units); (case kp => ((try dsimp only); omega))); intro r' tl' h' tk' h0' hO' F' N' a'; obtain ⟨l', u1, u2, u3, u4, u5, u6, u7, u8, e1, e2⟩ := hO'; subst e1; subst e2; (simp only [List.cons_append, List.nil_append] at N'); (try dsimp only))) | ((with_reducible show StopK 2 _); unfold StopK; first | ((with_reducible show wpAny _ _ (call (Value.builtin "len") [Value.ref _]) _ _ _); (rename LightsAre _ _ _ => hL9); k_dflt (refine' len_seven ?k1 ?k2 ?_; (case k1 => is_list); (case k2 => (rw [hL9.1]; assumption))))) | ((with_reducible show StopK 3 _); unfold StopK; first | ((with_reducible show wpAny _ _ (call (Value.builtin "str.split") [Value.str (flagText _) _, _]) _ _ _); k_dflt (refine' KSpl.split1 ?F ?N ?y ?_ flag_len; (case F => k_asm); (case N => k_asm); (case y => (first | rfl | decide))); intro D' l' h' k' e' S' F' N' l1; (try k_lt l1))) | ((with_reducible show StopK 4 _); unfold StopK; first | ((with_reducible show wpAny _ _ (call (Value.builtin _) [Value.ref _, Value.str (nameAt _) _]) _ _ _); (rename News _ _ _ _ => kN9); (rename _ < 8 => hj9); k_dflt (refine index_name _ hj9 (kN9 (_, W.listOf (nameVals _ _ _ _ _ _ _ _).toArray 0) (by k_mem)).1 ?_))) | ((with_reducible show StopK 5 _); unfold StopK; first | ((with_reducible show wpAny _ _ (subscriptTail _ (Expr.BinOp ..) (Value.ref _) (Value.int _ _)) _ _ _); (rename (_ = some (Value.ref _)) => hx9); k_dflt (refine' item_list (by is_list) ?k0 ?k1 hx9 ?_; (case k0 => omega); (case k1 => omega)))) | ((with_reducible show StopK 6 _); unfold StopK; first | (k_dflt (refine shl_nat (by assumption) (by assumption) ?_))) | ((with_reducible show StopK 7 _); unfold StopK; first | (k_dflt (refine xor_nat ?_))) | ((with_reducible show StopK 8 _); unfold StopK; first | ((rename Hue _ _ => hH9); k_dflt (first | (refine red_even hH9 (by assumption) (by k_asm) (by k_asm) (by k_mem) (by k_mem) (by ktr_units) ⟨by omega, by omega, by omega⟩ ⟨by omega, by omega, by omega⟩ ?_) | (refine red_odd hH9 (by assumption) (by k_asm) (by k_asm) (by k_mem) (by k_mem) (by ktr_units) ⟨by omega, by omega, by omega⟩ ⟨by omega, by omega, by omega⟩ ⟨by omega, by omega, by omega⟩ ?_)))) | ((with_reducible show StopK 9 _); unfold StopK; first | ((first | (with_reducible refine has_le (by assumption) ?_) | (k_dflt (refine gen_le ?_); intro tk9 hle9; (try dsimp only at hle9))); (with_reducible refine wpAny_execs_cons ?_); (try dsimp only))) | ((with_reducible show StopK 10 _); unfold StopK; first | ((first | (with_reducible refine has_le (by assumption) ?_) | (k_dflt (refine gen_le ?_); intro tk9 hle9; (try dsimp only at hle9))); (with_reducible refine wpAny_execs_nil ?_); (try dsimp only))) | (k_unfold; (try dsimp only)) | (k_end; wrow_close) | ((with_reducible show wpAny _ _ (execs _ _) _ _ _); (try dsimp only); (try k_fold); walk1) | ((with_reducible show wpAny _ _ (eval (Expr.Call _ _ _ _) _) _ _ _); (try k_fold); walk1) | walk1 | (dsimp only; walk1) | (leave1; walk_say "STEP leave1"; try dsimp only))
    unfold Stop2
    (rename Fr hp _ _ _ => F8)
    (rename News hp _ _ _ => N8)
    refine grow_range1 (GrJ bits _ _ _ _) rfl F8 (fun p q => N8 p (.tail _ q)) (by omega) (by omega) (gr_start ⟨_, _, _, _, _, rfl, rfl, rfl, rfl, rfl, rfl, rfl, rfl⟩) ?_ ?_
    · rintro i t m₁ nx h tk own hpos hi ho ⟨⟨t1, t2, t3, t4, t5, e1, e2, e3, e4, e5, e6, e7, e8⟩, us, c, objs, rfl, hS, hoff⟩ F₁ N₁
      rw [gr_map e1 e2 e3 e4 e5 e6 e7 e8] at F₁
      clear F8 N8
      simp only [List.cons_append] at N₁
      simp only [List.map_cons] at ho
      (try dsimp only)
      (try k_fold)
      repeat' (first | ((with_reducible show StopK 1 _); unfold StopK; first | ((with_reducible show wpAny _ _ (call (Value.ref 28) _) _ _ _); (rename Hue _ _ => hH9); k_dflt (refine' tellP_use (hsv_pos _ _ _ _ _) ?k1 ?k2 ?k3 ?k4 ?k5 ?kK (HsvRel.mk hH9 ?r1 ?r2) ?kd ?ku ?kp ?_; (case k1 => k_asm); (case k2 => k_asm); (case k3 => k_asm); (case k4 => k_asm); (case k5 => k_asm); (case kK => first | exact rfl | assumption); (case r1 => (unfold TokIn; (try dsimp only); omega)); (case r2 => (unfold TokIn; (try dsimp only); omega)); (case kd => ktr_room); (case ku => ktr_units); (case kp => ((try dsimp only); omega))); intro r' tl' h' tk' h0' hO' F' N' a'; obtain ⟨D9, t1, t2, t3, e1, e2, ⟨q1, q4⟩, ⟨q2, q5⟩, ⟨q3, q6⟩⟩ := hO'; subst e1; subst e2; (have a9 := a' _ (.head _)); (simp only [Apart] at a9); (simp only [lightOf, Bool.false_eq_true, if_false, if_true, List.cons_append, List.nil_append] at N'); (try dsimp only)) | ((with_reducible show wpAny _ _ (call (Value.ref 21) _) _ _ _); k_dflt (refine' tell_use (rgb_told _ _ _ _ _) ?k1 ?k2 ?k3 ?k4 ?k5 ?kK (rgb_any) ?kd ?ku ?_; (case k1 => k_asm); (case k2 => k_asm); (case k3 => k_asm); (case k4 => k_asm); (case k5 => k_asm); (case kK => first | exact rfl | assumption); skip; (case kd => ktr_room); (case ku => ktr_units)); intro r' tl' h' tk' hO' F' N' a'; obtain ⟨D9, t9, v9, w9, e1, e2⟩ := hO'; subst e1; subst e2; (simp only [List.cons_append, List.nil_append] at N'); (try dsimp only)) | ((with_reducible show wpAny _ _ (call (Value.ref 36) _) _ _ _); k_dflt (refine' tell_useP (flag_told _ _ _ _ _) ?k1 ?k2 ?k3 ?k4 ?k5 ?kK (FlagRel.mk ?r1 ?r2) ?kd ?ku ?kp ?_; (case k1 => k_asm); (case k2 => k_asm); (case k3 => k_asm); (case k4 => k_asm); (case k5 => k_asm); (case kK => first | exact rfl | assumption); (case r1 => first | decide | omega); (case r2 => first | decide | omega); (case kd => ktr_room); (case ku => ktr_units); (case kp => ((try dsimp only); omega))); intro r' tl' h' tk' h0' hO' F' N' a'; obtain ⟨t', e1, e2⟩ := hO'; subst e1; subst e2; (simp only [List.cons_append, List.nil_append] at N'); (try dsimp only)) | ((with_reducible show wpAny _ _ (call (Value.ref 116) _) _ _ _); k_dflt (refine' tell_useP (nam_told _ _ _ _) ?k1 ?k2 ?k3 ?k4 ?k5 ?kK (NamRel.mk) ?kd ?ku ?kp ?_; (case k1 => k_asm); (case k2 => k_asm); (case k3 => k_asm); (case k4 => k_asm); (case k5 => k_asm); (case kK => first | exact rfl | assumption); skip; (case kd => ktr_room); (case ku => ktr_units); (case kp => ((try dsimp only); omega))); intro r' tl' h' tk' h0' hO' F' N' a'; obtain ⟨l', u1, u2, u3, u4, u5, u6, u7, u8, e1, e2⟩ := hO'; subst e1; subst e2; (simp only [List.cons_append, List.nil_append] at N'); (try dsimp only))) | ((with_reducible show StopK 2 _); unfold StopK; first | ((with_reducible show wpAny _ _ (call (Value.builtin "len") [Value.ref _]) _ _ _); (rename LightsAre _ _ _ => hL9); k_dflt (refine' len_seven ?k1 ?k2 ?_; (case k1 => is_list); (case k2 => (rw [hL9.1]; assumption))))) | ((with_reducible show StopK 3 _); unfold StopK; first | ((with_reducible show wpAny _ _ (call (Value.builtin "str.split") [Value.str (flagText _) _, _]) _ _ _); k_dflt (refine' KSpl.split1 ?F ?N ?y ?_ flag_len; (case F => k_asm); (case N => k_asm); (case y => (first | rfl | decide))); intro D' l' h' k' e' S' F' N' l1; (try k_lt l1))) | ((with_reducible show StopK 4 _); unfold StopK; first | ((with_reducible show wpAny _ _ (call (Value.builtin _) [Value.ref _, Value.str (nameAt _) _]) _ _ _); (rename News _ _ _ _ => kN9); (rename _ < 8 => hj9); k_dflt (refine index_name _ hj9 (kN9 (_, W.listOf (nameVals _ _ _ _ _ _ _ _).toArray 0) (by k_mem)).1 ?_))) | ((with_reducible show StopK 5 _); unfold StopK; first | ((with_reducible show wpAny _ _ (subscriptTail _ (Expr.BinOp ..) (Value.ref _) (Value.int _ _)) _ _ _); (rename (_ = some (Value.ref _)) => hx9); k_dflt (refine' item_list (by is_list) ?k0 ?k1 hx9 ?_; (case k0 => omega); (case k1 => omega)))) | ((with_reducible show StopK 6 _); unfold StopK; first | (k_dflt (refine shl_nat (by assumption) (by assumption) ?_))) | ((with_reducible show StopK 7 _); unfold StopK; first | (k_dflt (refine xor_nat ?_))) | ((with_reducible show StopK 8 _); unfold StopK; first | ((rename Hue _ _ => hH9); k_dflt (first | (refine red_even hH9 (by assumption) (by k_asm) (by k_asm) (by k_mem) (by k_mem) (by ktr_units) ⟨by omega, by omega, by omega⟩ ⟨by omega, by omega, by omega⟩ ?_) | (refine red_odd hH9 (by assumption) (by k_asm) (by k_asm) (by k_mem) (by k_mem) (by ktr_units) ⟨by omega, by omega, by omega⟩ ⟨by omega, by omega, by omega⟩ ⟨by omega, by omega, by omega⟩ ?_)))) | ((with_reducible show StopK 9 _); unfold StopK; first | ((first | (with_reducible refine has_le (by assumption) ?_) | (k_dflt (refine gen_le ?_); intro tk9 hle9; (try dsimp only at hle9))); (with_reducible refine wpAny_execs_cons ?_); (try dsimp only))) | ((with_reducible show StopK 10 _); unfold StopK; first | ((first | (with_reducible refine has_le (by assumption) ?_) | (k_dflt (refine gen_le ?_); intro tk9 hle9; (try dsimp only at hle9))); (with_reducible refine wpAny_execs_nil ?_); (try dsimp only))) | (k_unfold; (try dsimp only)) | (k_end; wrow_close) | ((with_reducible show wpAny _ _ (execs _ _) _ _ _); (try dsimp only); (try k_fold); walk1) | ((with_reducible show wpAny _ _ (eval (Expr.Call _ _ _ _) _) _ _ _); (try k_fold); walk1) | walk1 | (dsimp only; walk1) | (leave1; walk_say "STEP leave1"; try dsimp only))
      unfold Stop2
      (rename Fr hp _ _ _ => F7)
      refine wpAny_up ?_
      k_dflt (refine' For_go F7 ?_ (fun _ _ => rfl) (fun _ => rfl) ?_)
      · repeat' (first | ((with_reducible show StopK 1 _); unfold StopK; first | ((with_reducible show wpAny _ _ (call (Value.ref 28) _) _ _ _); (rename Hue _ _ => hH9); k_dflt (refine' tellP_use (hsv_pos _ _ _ _ _) ?k1 ?k2 ?k3 ?k4 ?k5 ?kK (HsvRel.mk hH9 ?r1 ?r2) ?kd ?ku ?kp ?_; (case k1 => k_asm); (case k2 => k_asm); (case k3 => k_asm); (case k4 => k_asm); (case k5 => k_asm); (case kK => first | exact rfl | assumption); (case r1 => (unfold TokIn; (try dsimp only); omega)); (case r2 => (unfold TokIn; (try dsimp only); omega)); (case kd => ktr_room); (case ku => ktr_units); (case kp => ((try dsimp only); omega))); intro r' tl' h' tk' h0' hO' F' N' a'; obtain ⟨D9, t1, t2, t3, e1, e2, ⟨q1, q4⟩, ⟨q2, q5⟩, ⟨q3, q6⟩⟩ := hO'; subst e1; subst e2; (have a9 := a' _ (.head _)); (simp only [Apart] at a9); (simp only [lightOf, Bool.false_eq_true, if_false, if_true, List.cons_append, List.nil_append] at N'); (try dsimp only)) | ((with_reducible show wpAny _ _ (call (Value.ref 21) _) _ _ _); k_dflt (refine' tell_use (rgb_told _ _ _ _ _) ?k1 ?k2 ?k3 ?k4 ?k5 ?kK (rgb_any) ?kd ?ku ?_; (case k1 => k_asm); (case k2 => k_asm); (case k3 => k_asm); (case k4 => k_asm); (case k5 => k_asm); (case kK => first | exact rfl | assumption); skip; (case kd => ktr_room); (case ku => ktr_units)); intro r' tl' h' tk' hO' F' N' a'; obtain ⟨D9, t9, v9, w9, e1, e2⟩ := hO'; subst e1; subst e2; (simp only [List.cons_append, List.nil_append] at N'); (try dsimp only)) | ((with_reducible show wpAny _ _ (call (Value.ref 36) _) _ _ _); k_dflt (refine' tell_useP (flag_told _ _ _ _ _) ?k1 ?k2 ?k3 ?k4 ?k5 ?kK (FlagRel.mk ?r1 ?r2) ?kd ?ku ?kp ?_; (case k1 => k_asm); (case k2 => k_asm); (case k3 => k_asm); (case k4 => k_asm); (case k5 => k_asm); (case kK => first | exact rfl | assumption); (case r1 => first | decide | omega); (case r2 => first | decide | omega); (case kd => ktr_room); (case ku => ktr_units); (case kp => ((try dsimp only); omega))); intro r' tl' h' tk' h0' hO' F' N' a'; obtain ⟨t', e1, e2⟩ := hO'; subst e1; subst e2; (simp only [List.cons_append, List.nil_append] at N'); (try dsimp only)) | ((with_reducible show wpAny _ _ (call (Value.ref 116) _) _ _ _); k_dflt (refine' tell_useP (nam_told _ _ _ _) ?k1 ?k2 ?k3 ?k4 ?k5 ?kK (NamRel.mk) ?kd ?ku ?kp ?_; (case k1 => k_asm); (case k2 => k_asm); (case k3 => k_asm); (case k4 => k_asm); (case k5 => k_asm); (case kK => first | exact rfl | assumption); skip; (case kd => ktr_room); (case ku => ktr_units); (case kp => ((try dsimp only); omega))); intro r' tl' h' tk' h0' hO' F' N' a'; obtain ⟨l', u1, u2, u3, u4, u5, u6, u7, u8, e1, e2⟩ := hO'; subst e1; subst e2; (simp only [List.cons_append, List.nil_append] at N'); (try dsimp only))) | ((with_reducible show StopK 2 _); unfold StopK; first | ((with_reducible show wpAny _ _ (call (Value.builtin "len") [Value.ref _]) _ _ _); (rename LightsAre _ _ _ => hL9); k_dflt (refine' len_seven ?k1 ?k2 ?_; (case k1 => is_list); (case k2 => (rw [hL9.1]; assumption))))) | ((with_reducible show StopK 3 _); unfold StopK; first | ((with_reducible show wpAny _ _ (call (Value.builtin "str.split") [Value.str (flagText _) _, _]) _ _ _); k_dflt (refine' KSpl.split1 ?F ?N ?y ?_ flag_len; (case F => k_asm); (case N => k_asm); (case y => (first | rfl | decide))); intro D' l' h' k' e' S' F' N' l1; (try k_lt l1))) | ((with_reducible show StopK 4 _); unfold StopK; first | ((with_reducible show wpAny _ _ (call (Value.builtin _) [Value.ref _, Value.str (nameAt _) _]) _ _ _); (rename News _ _ _ _ => kN9); (rename _ < 8 => hj9); k_dflt (refine index_name _ hj9 (kN9 (_, W.listOf (nameVals _ _ _ _ _ _ _ _).toArray 0) (by k_mem)).1 ?_))) | ((with_reducible show StopK 5 _); unfold StopK; first | ((with_reducible show wpAny _ _ (subscriptTail _ (Expr.BinOp ..) (Value.ref _) (Value.int _ _)) _ _ _); (rename (_ = some (Value.ref _)) => hx9); k_dflt (refine' item_list (by is_list) ?k0 ?k1 hx9 ?_; (case k0 => omega); (case k1 => omega)))) | ((with_reducible show StopK 6 _); unfold StopK; first | (k_dflt (refine shl_nat (by assumption) (by assumption) ?_))) | ((with_reducible show StopK 7 _); unfold StopK; first | (k_dflt (refine xor_nat ?_))) | ((with_reducible show StopK 8 _); unfold StopK; first | ((rename Hue _ _ => hH9); k_dflt (first | (refine red_even hH9 (by assumption) (by k_asm) (by k_asm) (by k_mem) (by k_mem) (by ktr_units) ⟨by omega, by omega, by omega⟩ ⟨by omega, by omega, by omega⟩ ?_) | (refine red_odd hH9 (by assumption) (by k_asm) (by k_asm) (by k_mem) (by k_mem) (by ktr_units) ⟨by omega, by omega, by omega⟩ ⟨by omega, by omega, by omega⟩ ⟨by omega, by omega, by omega⟩ ?_)))) | ((with_reducible show StopK 9 _); unfold StopK; first | ((first | (with_reducible refine has_le (by assumption) ?_) | (k_dflt (refine gen_le ?_); intro tk9 hle9; (try dsimp only at hle9))); (with_reducible refine wpAny_execs_cons ?_); (try dsimp only))) | ((with_reducible show StopK 10 _); unfold StopK; first | ((first | (with_reducible refine has_le (by assumption) ?_) | (k_dflt (refine gen_le ?_); intro tk9 hle9; (try dsimp only at hle9))); (with_reducible refine wpAny_execs_nil ?_); (try dsimp only))) | (k_unfold; (try dsimp only)) | (k_end; wrow_close) | ((with_reducible show wpAny _ _ (execs _ _) _ _ _); (try dsimp only); (try k_fold); walk1) | ((with_reducible show wpAny _ _ (eval (Expr.Call _ _ _ _) _) _ _ _); (try k_fold); walk1) | walk1 | (dsimp only; walk1) | (leave1; walk_say "STEP leave1"; try dsimp only))
        (rename Fr hp _ _ _ => F6)
        (rename News hp _ _ _ => N6)
        (rename StrsAre _ _ => hW)
        (rename (List.map _ _ = Txt.split _ _) => eW)
        have hw := hW
        rw [eW, split_flags (bm_fine h7 (by omega)).2.1 (bm_fine h7 (by omega)).1] at hw
        refine go_list (InJ bits i (bmAt bits i).taps _ _) rfl (.head _) (fun i m₁ nx hJ => hJ.1 ▸ .head _) ?_ F6 N6 ⟨rfl, _, _, _, _, _, in_self _⟩ ?_ ?_
        · exact one_there (by assumption)
        · rintro k v m₂ nx h tk own₂ hv hadr ho₂ ⟨rfl, b, c, d, e, tt, rfl⟩ F₂ N₂
          clear F6 N6 F7 F₁ N₁
          obtain ⟨j, u, hj, rfl⟩ := word_at hw hv
          have hjm := place_le (List.mem_of_getElem? hj) (bm_fine h7 (show i < 8 by omega)).2.2.1
          obtain ⟨hji, hj8⟩ := hjm
          have hi7 : i < 7 := by omega
          (rename LightsAre _ _ _ => hL)
          obtain ⟨p, hx9, v1, v2, v3, hp9⟩ := light_at hL h7 hi7 hji
          have hT9 := light_tup hp9
          simp only [List.cons_append] at N₂
          simp only [List.map_cons] at ho₂
          (try dsimp only)
          (try k_fold)
          repeat' (first | ((with_reducible show StopK 1 _); unfold StopK; first | ((with_reducible show wpAny _ _ (call (Value.ref 28) _) _ _ _); (rename Hue _ _ => hH9); k_dflt (refine' tellP_use (hsv_pos _ _ _ _ _) ?k1 ?k2 ?k3 ?k4 ?k5 ?kK (HsvRel.mk hH9 ?r1 ?r2) ?kd ?ku ?kp ?_; (case k1 => k_asm); (case k2 => k_asm); (case k3 => k_asm); (case k4 => k_asm); (case k5 => k_asm); (case kK => first | exact rfl | assumption); (case r1 => (unfold TokIn; (try dsimp only); omega)); (case r2 => (unfold TokIn; (try dsimp only); omega)); (case kd => ktr_room); (case ku => ktr_units); (case kp => ((try dsimp only); omega))); intro r' tl' h' tk' h0' hO' F' N' a'; obtain ⟨D9, t1, t2, t3, e1, e2, ⟨q1, q4⟩, ⟨q2, q5⟩, ⟨q3, q6⟩⟩ := hO'; subst e1; subst e2; (have a9 := a' _ (.head _)); (simp only [Apart] at a9); (simp only [lightOf, Bool.false_eq_true, if_false, if_true, List.cons_append, List.nil_append] at N'); (try dsimp only)) | ((with_reducible show wpAny _ _ (call (Value.ref 21) _) _ _ _); k_dflt (refine' tell_use (rgb_told _ _ _ _ _) ?k1 ?k2 ?k3 ?k4 ?k5 ?kK (rgb_any) ?kd ?ku ?_; (case k1 => k_asm); (case k2 => k_asm); (case k3 => k_asm); (case k4 => k_asm); (case k5 => k_asm); (case kK => first | exact rfl | assumption); skip; (case kd => ktr_room); (case ku => ktr_units)); intro r' tl' h' tk' hO' F' N' a'; obtain ⟨D9, t9, v9, w9, e1, e2⟩ := hO'; subst e1; subst e2; (simp only [List.cons_append, List.nil_append] at N'); (try dsimp only)) | ((with_reducible show wpAny _ _ (call (Value.ref 36) _) _ _ _); k_dflt (refine' tell_useP (flag_told _ _ _ _ _) ?k1 ?k2 ?k3 ?k4 ?k5 ?kK (FlagRel.mk ?r1 ?r2) ?kd ?ku ?kp ?_; (case k1 => k_asm); (case k2 => k_asm); (case k3 => k_asm); (case k4 => k_asm); (case k5 => k_asm); (case kK => first | exact rfl | assumption); (case r1 => first | decide | omega); (case r2 => first | decide | omega); (case kd => ktr_room); (case ku => ktr_units); (case kp => ((try dsimp only); omega))); intro r' tl' h' tk' h0' hO' F' N' a'; obtain ⟨t', e1, e2⟩ := hO'; subst e1; subst e2; (simp only [List.cons_append, List.nil_append] at N'); (try dsimp only)) | ((with_reducible show wpAny _ _ (call (Value.ref 116) _) _ _ _); k_dflt (refine' tell_useP (nam_told _ _ _ _) ?k1 ?k2 ?k3 ?k4 ?k5 ?kK (NamRel.mk) ?kd ?ku ?kp ?_; (case k1 => k_asm); (case k2 => k_asm); (case k3 => k_asm); (case k4 => k_asm); (case k5 => k_asm); (case kK => first | exact rfl | assumption); skip; (case kd => ktr_room); (case ku => ktr_units); (case kp => ((try dsimp only); omega))); intro r' tl' h' tk' h0' hO' F' N' a'; obtain ⟨l', u1, u2, u3, u4, u5, u6, u7, u8, e1, e2⟩ := hO'; subst e1; subst e2; (simp only [List.cons_append, List.nil_append] at N'); (try dsimp only))) | ((with_reducible show StopK 2 _); unfold StopK; first | ((with_reducible show wpAny _ _ (call (Value.builtin "len") [Value.ref _]) _ _ _); (rename LightsAre _ _ _ => hL9); k_dflt (refine' len_seven ?k1 ?k2 ?_; (case k1 => is_list); (case k2 => (rw [hL9.1]; assumption))))) | ((with_reducible show StopK 3 _); unfold StopK; first | ((with_reducible show wpAny _ _ (call (Value.builtin "str.split") [Value.str (flagText _) _, _]) _ _ _); k_dflt (refine' KSpl.split1 ?F ?N ?y ?_ flag_len; (case F => k_asm); (case N => k_asm); (case y => (first | rfl | decide))); intro D' l' h' k' e' S' F' N' l1; (try k_lt l1))) | ((with_reducible show StopK 4 _); unfold StopK; first | ((with_reducible show wpAny _ _ (call (Value.builtin _) [Value.ref _, Value.str (nameAt _) _]) _ _ _); (rename News _ _ _ _ => kN9); (rename _ < 8 => hj9); k_dflt (refine index_name _ hj9 (kN9 (_, W.listOf (nameVals _ _ _ _ _ _ _ _).toArray 0) (by k_mem)).1 ?_))) | ((with_reducible show StopK 5 _); unfold StopK; first | ((with_reducible show wpAny _ _ (subscriptTail _ (Expr.BinOp ..) (Value.ref _) (Value.int _ _)) _ _ _); (rename (_ = some (Value.ref _)) => hx9); k_dflt (refine' item_list (by is_list) ?k0 ?k1 hx9 ?_; (case k0 => omega); (case k1 => omega)))) | ((with_reducible show StopK 6 _); unfold StopK; first | (k_dflt (refine shl_nat (by assumption) (by assumption) ?_))) | ((with_reducible show StopK 7 _); unfold StopK; first | (k_dflt (refine xor_nat ?_))) | ((with_reducible show StopK 8 _); unfold StopK; first | ((rename Hue _ _ => hH9); k_dflt (first | (refine red_even hH9 (by assumption) (by k_asm) (by k_asm) (by k_mem) (by k_mem) (by ktr_units) ⟨by omega, by omega, by omega⟩ ⟨by omega, by omega, by omega⟩ ?_) | (refine red_odd hH9 (by assumption) (by k_asm) (by k_asm) (by k_mem) (by k_mem) (by ktr_units) ⟨by omega, by omega, by omega⟩ ⟨by omega, by omega, by omega⟩ ⟨by omega, by omega, by omega⟩ ?_)))) | ((with_reducible show StopK 9 _); unfold StopK; first | ((first | (with_reducible refine has_le (by assumption) ?_) | (k_dflt (refine gen_le ?_); intro tk9 hle9; (try dsimp only at hle9))); (with_reducible refine wpAny_execs_cons ?_); (try dsimp only))) | ((with_reducible show StopK 10 _); unfold StopK; first | ((first | (with_reducible refine has_le (by assumption) ?_) | (k_dflt (refine gen_le ?_); intro tk9 hle9; (try dsimp only at hle9))); (with_reducible refine wpAny_execs_nil ?_); (try dsimp only))) | (k_unfold; (try dsimp only)) | (k_end; wrow_close) | ((with_reducible show wpAny _ _ (execs _ _) _ _ _); (try dsimp only); (try k_fold); walk1) | ((with_reducible show wpAny _ _ (eval (Expr.Call _ _ _ _) _) _ _ _); (try k_fold); walk1) | walk1 | (dsimp only; walk1) | (leave1; walk_say "STEP leave1"; try dsimp only))
          unfold Stop2
          (rename Fr hp _ _ _ => kF)
          (rename News hp _ _ _ => kN)
          refine in_endE kF kN rfl (turn_next hj) ?_
          intro y h1 h2 h3 h4 h5
          simp only [inSet, if_neg h1, if_neg h2, if_neg h3, if_neg h4, if_neg h5]
        · rintro m₂ nx h tk ⟨rfl, b, c, d, e, tt, rfl⟩ hadr F₂ N₂
          clear F6 N6 F7 F₁ N₁
          have hlen := hw.length
          unfold namesOf at hlen
          rw [List.length_map] at hlen
          rw [hlen, lit_all] at F₂
          (try simp only [List.cons_append] at N₂)
          have hi7 : i < 7 := by omega
          have hf := bm_fine h7 (show i < 8 by omega)
          have hk9 := hf.2.2.2.1
          have hg9 := hf.2.2.2.2.2
          have hf0 := hf.1
          have hf1 := hf.2.1
          have hlu := hS.1
          have hoS : ∀ p ∈ objs ++ own, p.1 ≠ _ := fun p hp => (List.mem_append.mp hp).elim (fun q => (hoff p q).1) fun q => ho p q _ (.head _)
          have hH := turn_hue (oddCount bits i (bmAt bits i).taps) odd_lt
          refine wpAny_execs_nil ?_
          intro hle
          have hpos2 : 0 < tk := by
            (try dsimp only at hle)
            omega
          refine wpAny_execs_cons ?_
          refine gr_if bits (i + 1) F₂ N₂ (by (repeat (first | with_reducible exact if_pos rfl | (refine (if_pos (by with_reducible rfl)).trans ?_; exact rfl) | refine look_no (by decide +kernel) ?_ | unfold inSet | unfold grSet))) (by (repeat (first | with_reducible exact if_pos rfl | (refine (if_pos (by with_reducible rfl)).trans ?_; exact rfl) | refine look_no (by decide +kernel) ?_ | unfold inSet | unfold grSet))) (by (repeat (first | with_reducible exact if_pos rfl | (refine (if_pos (by with_reducible rfl)).trans ?_; exact rfl) | refine look_no (by decide +kernel) ?_ | unfold inSet | unfold grSet))) ?_ ?_
          · cases hb : (oddCount bits i (bmAt bits i).taps % 2 == 1)
            · rw [hb] at hH
              have hst := bm_even hb
              (try dsimp only)
              (try k_fold)
              repeat' (first | ((with_reducible show StopK 1 _); unfold StopK; first | ((with_reducible show wpAny _ _ (call (Value.ref 28) _) _ _ _); (rename Hue _ _ => hH9); k_dflt (refine' tellP_use (hsv_pos _ _ _ _ _) ?k1 ?k2 ?k3 ?k4 ?k5 ?kK (HsvRel.mk hH9 ?r1 ?r2) ?kd ?ku ?kp ?_; (case k1 => k_asm); (case k2 => k_asm); (case k3 => k_asm); (case k4 => k_asm); (case k5 => k_asm); (case kK => first | exact rfl | assumption); (case r1 => (unfold TokIn; (try dsimp only); omega)); (case r2 => (unfold TokIn; (try dsimp only); omega)); (case kd => ktr_room); (case ku => ktr_units); (case kp => ((try dsimp only); omega))); intro r' tl' h' tk' h0' hO' F' N' a'; obtain ⟨D9, t1, t2, t3, e1, e2, ⟨q1, q4⟩, ⟨q2, q5⟩, ⟨q3, q6⟩⟩ := hO'; subst e1; subst e2; (have a9 := a' _ (.head _)); (simp only [Apart] at a9); (simp only [lightOf, Bool.false_eq_true, if_false, if_true, List.cons_append, List.nil_append] at N'); (try dsimp only)) | ((with_reducible show wpAny _ _ (call (Value.ref 21) _) _ _ _); k_dflt (refine' tell_use (rgb_told _ _ _ _ _) ?k1 ?k2 ?k3 ?k4 ?k5 ?kK (rgb_any) ?kd ?ku ?_; (case k1 => k_asm); (case k2 => k_asm); (case k3 => k_asm); (case k4 => k_asm); (case k5 => k_asm); (case kK => first | exact rfl | assumption); skip; (case kd => ktr_room); (case ku => ktr_units)); intro r' tl' h' tk' hO' F' N' a'; obtain ⟨D9, t9, v9, w9, e1, e2⟩ := hO'; subst e1; subst e2; (simp only [List.cons_append, List.nil_append] at N'); (try dsimp only)) | ((with_reducible show wpAny _ _ (call (Value.ref 36) _) _ _ _); k_dflt (refine' tell_useP (flag_told _ _ _ _ _) ?k1 ?k2 ?k3 ?k4 ?k5 ?kK (FlagRel.mk ?r1 ?r2) ?kd ?ku ?kp ?_; (case k1 => k_asm); (case k2 => k_asm); (case k3 => k_asm); (case k4 => k_asm); (case k5 => k_asm); (case kK => first | exact rfl | assumption); (case r1 => first | decide | omega); (case r2 => first | decide | omega); (case kd => ktr_room); (case ku => ktr_units); (case kp => ((try dsimp only); omega))); intro r' tl' h' tk' h0' hO' F' N' a'; obtain ⟨t', e1, e2⟩ := hO'; subst e1; subst e2; (simp only [List.cons_append, List.nil_append] at N'); (try dsimp only)) | ((with_reducible show wpAny _ _ (call (Value.ref 116) _) _ _ _); k_dflt (refine' tell_useP (nam_told _ _ _ _) ?k1 ?k2 ?k3 ?k4 ?k5 ?kK (NamRel.mk) ?kd ?ku ?kp ?_; (case k1 => k_asm); (case k2 => k_asm); (case k3 => k_asm); (case k4 => k_asm); (case k5 => k_asm); (case kK => first | exact rfl | assumption); skip; (case kd => ktr_room); (case ku => ktr_units); (case kp => ((try dsimp only); omega))); intro r' tl' h' tk' h0' hO' F' N' a'; obtain ⟨l', u1, u2, u3, u4, u5, u6, u7, u8, e1, e2⟩ := hO'; subst e1; subst e2; (simp only [List.cons_append, List.nil_append] at N'); (try dsimp only))) | ((with_reducible show StopK 2 _); unfold StopK; first | ((with_reducible show wpAny _ _ (call (Value.builtin "len") [Value.ref _]) _ _ _); (rename LightsAre _ _ _ => hL9); k_dflt (refine' len_seven ?k1 ?k2 ?_; (case k1 => is_list); (case k2 => (rw [hL9.1]; assumption))))) | ((with_reducible show StopK 3 _); unfold StopK; first | ((with_reducible show wpAny _ _ (call (Value.builtin "str.split") [Value.str (flagText _) _, _]) _ _ _); k_dflt (refine' KSpl.split1 ?F ?N ?y ?_ flag_len; (case F => k_asm); (case N => k_asm); (case y => (first | rfl | decide))); intro D' l' h' k' e' S' F' N' l1; (try k_lt l1))) | ((with_reducible show StopK 4 _); unfold StopK; first | ((with_reducible show wpAny _ _ (call (Value.builtin _) [Value.ref _, Value.str (nameAt _) _]) _ _ _); (rename News _ _ _ _ => kN9); (rename _ < 8 => hj9); k_dflt (refine index_name _ hj9 (kN9 (_, W.listOf (nameVals _ _ _ _ _ _ _ _).toArray 0) (by k_mem)).1 ?_))) | ((with_reducible show StopK 5 _); unfold StopK; first | ((with_reducible show wpAny _ _ (subscriptTail _ (Expr.BinOp ..) (Value.ref _) (Value.int _ _)) _ _ _); (rename (_ = some (Value.ref _)) => hx9); k_dflt (refine' item_list (by is_list) ?k0 ?k1 hx9 ?_; (case k0 => omega); (case k1 => omega)))) | ((with_reducible show StopK 6 _); unfold StopK; first | (k_dflt (refine shl_nat (by assumption) (by assumption) ?_))) | ((with_reducible show StopK 7 _); unfold StopK; first | (k_dflt (refine xor_nat ?_))) | ((with_reducible show StopK 8 _); unfold StopK; first | ((rename Hue _ _ => hH9); k_dflt (first | (refine red_even hH9 (by assumption) (by k_asm) (by k_asm) (by k_mem) (by k_mem) (by ktr_units) ⟨by omega, by omega, by omega⟩ ⟨by omega, by omega, by omega⟩ ?_) | (refine red_odd hH9 (by assumption) (by k_asm) (by k_asm) (by k_mem) (by k_mem) (by ktr_units) ⟨by omega, by omega, by omega⟩ ⟨by omega, by omega, by omega⟩ ⟨by omega, by omega, by omega⟩ ?_)))) | ((with_reducible show StopK 9 _); unfold StopK; first | ((first | (with_reducible refine has_le (by assumption) ?_) | (k_dflt (refine gen_le ?_); intro tk9 hle9; (try dsimp only at hle9))); (with_reducible refine wpAny_execs_cons ?_); (try dsimp only))) | ((with_reducible show StopK 10 _); unfold StopK; first | ((first | (with_reducible refine has_le (by assumption) ?_) | (k_dflt (refine gen_le ?_); intro tk9 hle9; (try dsimp only at hle9))); (with_reducible refine wpAny_execs_nil ?_); (try dsimp only))) | (k_unfold; (try dsimp only)) | (k_end; wrow_close) | ((with_reducible show wpAny _ _ (execs _ _) _ _ _); (try dsimp only); (try k_fold); walk1) | ((with_reducible show wpAny _ _ (eval (Expr.Call _ _ _ _) _) _ _ _); (try k_fold); walk1) | walk1 | (dsimp only; walk1) | (leave1; walk_say "STEP leave1"; try dsimp only))
              (rename Fr hp _ _ _ => kF)
              (rename News hp _ _ _ => kN)
              exact ⟨rfl, _, _, _, rfl, kF, fun p hp => kN p (by repeat (first | exact hp | refine List.mem_cons_of_mem _ ?_)), by (try dsimp only); omega, bm_mk hst (by (repeat (first | with_reducible exact if_pos rfl | (refine (if_pos (by with_reducible rfl)).trans ?_; exact rfl) | refine look_no (by decide +kernel) ?_ | unfold inSet | unfold grSet))) (by (repeat (first | with_reducible exact if_pos rfl | (refine (if_pos (by with_reducible rfl)).trans ?_; exact rfl) | refine look_no (by decide +kernel) ?_ | unfold inSet | unfold grSet))) (by (repeat (first | with_reducible exact if_pos rfl | (refine (if_pos (by with_reducible rfl)).trans ?_; exact rfl) | refine look_no (by decide +kernel) ?_ | unfold inSet | unfold grSet))) (by (repeat (first | with_reducible exact if_pos rfl | (refine (if_pos (by with_reducible rfl)).trans ?_; exact rfl) | refine look_no (by decide +kernel) ?_ | unfold inSet | unfold grSet))) (by (repeat (first | with_reducible exact if_pos rfl | (refine (if_pos (by with_reducible rfl)).trans ?_; exact rfl) | refine look_no (by decide +kernel) ?_ | unfold inSet | unfold grSet))) (by (repeat (first | with_reducible exact if_pos rfl | (refine (if_pos (by with_reducible rfl)).trans ?_; exact rfl) | refine look_no (by decide +kernel) ?_ | unfold inSet | unfold grSet))) (by (repeat (first | with_reducible exact if_pos rfl | (refine (if_pos (by with_reducible rfl)).trans ?_; exact rfl) | refine look_no (by decide +kernel) ?_ | unfold inSet | unfold grSet)))⟩
            · rw [hb] at hH
              have hx := bm_xor h7 hi7 hb
              obtain ⟨hx1, hx2⟩ := hx
              have hsz := hf.2.2.2.2.1
              have hcast : (((i : Nat) : Int) + 1 - (((bmAt bits i).size : Nat) : Int)) = (((i + 1 - (bmAt bits i).size : Nat)) : Int) := by omega
              (try dsimp only)
              (try k_fold)
              repeat' (first | ((with_reducible show StopK 1 _); unfold StopK; first | ((with_reducible show wpAny _ _ (call (Value.ref 28) _) _ _ _); (rename Hue _ _ => hH9); k_dflt (refine' tellP_use (hsv_pos _ _ _ _ _) ?k1 ?k2 ?k3 ?k4 ?k5 ?kK (HsvRel.mk hH9 ?r1 ?r2) ?kd ?ku ?kp ?_; (case k1 => k_asm); (case k2 => k_asm); (case k3 => k_asm); (case k4 => k_asm); (case k5 => k_asm); (case kK => first | exact rfl | assumption); (case r1 => (unfold TokIn; (try dsimp only); omega)); (case r2 => (unfold TokIn; (try dsimp only); omega)); (case kd => ktr_room); (case ku => ktr_units); (case kp => ((try dsimp only); omega))); intro r' tl' h' tk' h0' hO' F' N' a'; obtain ⟨D9, t1, t2, t3, e1, e2, ⟨q1, q4⟩, ⟨q2, q5⟩, ⟨q3, q6⟩⟩ := hO'; subst e1; subst e2; (have a9 := a' _ (.head _)); (simp only [Apart] at a9); (simp only [lightOf, Bool.false_eq_true, if_false, if_true, List.cons_append, List.nil_append] at N'); (try dsimp only)) | ((with_reducible show wpAny _ _ (call (Value.ref 21) _) _ _ _); k_dflt (refine' tell_use (rgb_told _ _ _ _ _) ?k1 ?k2 ?k3 ?k4 ?k5 ?kK (rgb_any) ?kd ?ku ?_; (case k1 => k_asm); (case k2 => k_asm); (case k3 => k_asm); (case k4 => k_asm); (case k5 => k_asm); (case kK => first | exact rfl | assumption); skip; (case kd => ktr_room); (case ku => ktr_units)); intro r' tl' h' tk' hO' F' N' a'; obtain ⟨D9, t9, v9, w9, e1, e2⟩ := hO'; subst e1; subst e2; (simp only [List.cons_append, List.nil_append] at N'); (try dsimp only)) | ((with_reducible show wpAny _ _ (call (Value.ref 36) _) _ _ _); k_dflt (refine' tell_useP (flag_told _ _ _ _ _) ?k1 ?k2 ?k3 ?k4 ?k5 ?kK (FlagRel.mk ?r1 ?r2) ?kd ?ku ?kp ?_; (case k1 => k_asm); (case k2 => k_asm); (case k3 => k_asm); (case k4 => k_asm); (case k5 => k_asm); (case kK => first | exact rfl | assumption); (case r1 => first | decide | omega); (case r2 => first | decide | omega); (case kd => ktr_room); (case ku => ktr_units); (case kp => ((try dsimp only); omega))); intro r' tl' h' tk' h0' hO' F' N' a'; obtain ⟨t', e1, e2⟩ := hO'; subst e1; subst e2; (simp only [List.cons_append, List.nil_append] at N'); (try dsimp only)) | ((with_reducible show wpAny _ _ (call (Value.ref 116) _) _ _ _); k_dflt (refine' tell_useP (nam_told _ _ _ _) ?k1 ?k2 ?k3 ?k4 ?k5 ?kK (NamRel.mk) ?kd ?ku ?kp ?_; (case k1 => k_asm); (case k2 => k_asm); (case k3 => k_asm); (case k4 => k_asm); (case k5 => k_asm); (case kK => first | exact rfl | assumption); skip; (case kd => ktr_room); (case ku => ktr_units); (case kp => ((try dsimp only); omega))); intro r' tl' h' tk' h0' hO' F' N' a'; obtain ⟨l', u1, u2, u3, u4, u5, u6, u7, u8, e1, e2⟩ := hO'; subst e1; subst e2; (simp only [List.cons_append, List.nil_append] at N'); (try dsimp only))) | ((with_reducible show StopK 2 _); unfold StopK; first | ((with_reducible show wpAny _ _ (call (Value.builtin "len") [Value.ref _]) _ _ _); (rename LightsAre _ _ _ => hL9); k_dflt (refine' len_seven ?k1 ?k2 ?_; (case k1 => is_list); (case k2 => (rw [hL9.1]; assumption))))) | ((with_reducible show StopK 3 _); unfold StopK; first | ((with_reducible show wpAny _ _ (call (Value.builtin "str.split") [Value.str (flagText _) _, _]) _ _ _); k_dflt (refine' KSpl.split1 ?F ?N ?y ?_ flag_len; (case F => k_asm); (case N => k_asm); (case y => (first | rfl | decide))); intro D' l' h' k' e' S' F' N' l1; (try k_lt l1))) | ((with_reducible show StopK 4 _); unfold StopK; first | ((with_reducible show wpAny _ _ (call (Value.builtin _) [Value.ref _, Value.str (nameAt _) _]) _ _ _); (rename News _ _ _ _ => kN9); (rename _ < 8 => hj9); k_dflt (refine index_name _ hj9 (kN9 (_, W.listOf (nameVals _ _ _ _ _ _ _ _).toArray 0) (by k_mem)).1 ?_))) | ((with_reducible show StopK 5 _); unfold StopK; first | ((with_reducible show wpAny _ _ (subscriptTail _ (Expr.BinOp ..) (Value.ref _) (Value.int _ _)) _ _ _); (rename (_ = some (Value.ref _)) => hx9); k_dflt (refine' item_list (by is_list) ?k0 ?k1 hx9 ?_; (case k0 => omega); (case k1 => omega)))) | ((with_reducible show StopK 6 _); unfold StopK; first | (k_dflt (refine shl_nat (by assumption) (by assumption) ?_))) | ((with_reducible show StopK 7 _); unfold StopK; first | (k_dflt (refine xor_nat ?_))) | ((with_reducible show StopK 8 _); unfold StopK; first | ((rename Hue _ _ => hH9); k_dflt (first | (refine red_even hH9 (by assumption) (by k_asm) (by k_asm) (by k_mem) (by k_mem) (by ktr_units) ⟨by omega, by omega, by omega⟩ ⟨by omega, by omega, by omega⟩ ?_) | (refine red_odd hH9 (by assumption) (by k_asm) (by k_asm) (by k_mem) (by k_mem) (by ktr_units) ⟨by omega, by omega, by omega⟩ ⟨by omega, by omega, by omega⟩ ⟨by omega, by omega, by omega⟩ ?_)))) | ((with_reducible show StopK 9 _); unfold StopK; first | ((first | (with_reducible refine has_le (by assumption) ?_) | (k_dflt (refine gen_le ?_); intro tk9 hle9; (try dsimp only at hle9))); (with_reducible refine wpAny_execs_cons ?_); (try dsimp only))) | ((with_reducible show StopK 10 _); unfold StopK; first | ((first | (with_reducible refine has_le (by assumption) ?_) | (k_dflt (refine gen_le ?_); intro tk9 hle9; (try dsimp only at hle9))); (with_reducible refine wpAny_execs_nil ?_); (try dsimp only))) | (k_unfold; (try dsimp only)) | (k_end; wrow_close) | ((with_reducible show wpAny _ _ (execs _ _) _ _ _); (try dsimp only); (try k_fold); walk1) | ((with_reducible show wpAny _ _ (eval (Expr.Call _ _ _ _) _) _ _ _); (try k_fold); walk1) | walk1 | (dsimp only; walk1) | (leave1; walk_say "STEP leave1"; try dsimp only))
              · have hst := bm_grow hb (by omega)
                simp only [hcast] at *
                (rename Fr hp _ _ _ => kF)
                (rename News hp _ _ _ => kN)
                exact ⟨rfl, _, _, _, rfl, kF, fun p hp => kN p (by repeat (first | exact hp | refine List.mem_cons_of_mem _ ?_)), by (try dsimp only); omega, bm_mk hst (by (repeat (first | with_reducible exact if_pos rfl | (refine (if_pos (by with_reducible rfl)).trans ?_; exact rfl) | refine look_no (by decide +kernel) ?_ | unfold inSet | unfold grSet))) (by (repeat (first | with_reducible exact if_pos rfl | (refine (if_pos (by with_reducible rfl)).trans ?_; exact rfl) | refine look_no (by decide +kernel) ?_ | unfold inSet | unfold grSet))) (by (repeat (first | with_reducible exact if_pos rfl | (refine (if_pos (by with_reducible rfl)).trans ?_; exact rfl) | refine look_no (by decide +kernel) ?_ | unfold inSet | unfold grSet))) (by (repeat (first | with_reducible exact if_pos rfl | (refine (if_pos (by with_reducible rfl)).trans ?_; exact rfl) | refine look_no (by decide +kernel) ?_ | unfold inSet | unfold grSet))) (by (repeat (first | with_reducible exact if_pos rfl | (refine (if_pos (by with_reducible rfl)).trans ?_; exact rfl) | refine look_no (by decide +kernel) ?_ | unfold inSet | unfold grSet))) (by (repeat (first | with_reducible exact if_pos rfl | (refine (if_pos (by with_reducible rfl)).trans ?_; exact rfl) | refine look_no (by decide +kernel) ?_ | unfold inSet | unfold grSet))) (by (repeat (first | with_reducible exact if_pos rfl | (refine (if_pos (by with_reducible rfl)).trans ?_; exact rfl) | refine look_no (by decide +kernel) ?_ | unfold inSet | unfold grSet)))⟩
              · have hst := bm_odd hb (by omega)
                (rename Fr hp _ _ _ => kF)
                (rename News hp _ _ _ => kN)
                exact ⟨rfl, _, _, _, rfl, kF, fun p hp => kN p (by repeat (first | exact hp | refine List.mem_cons_of_mem _ ?_)), by (try dsimp only); omega, bm_mk hst (by (repeat (first | with_reducible exact if_pos rfl | (refine (if_pos (by with_reducible rfl)).trans ?_; exact rfl) | refine look_no (by decide +kernel) ?_ | unfold inSet | unfold grSet))) (by (repeat (first | with_reducible exact if_pos rfl | (refine (if_pos (by with_reducible rfl)).trans ?_; exact rfl) | refine look_no (by decide +kernel) ?_ | unfold inSet | unfold grSet))) (by (repeat (first | with_reducible exact if_pos rfl | (refine (if_pos (by with_reducible rfl)).trans ?_; exact rfl) | refine look_no (by decide +kernel) ?_ | unfold inSet | unfold grSet))) (by (repeat (first | with_reducible exact if_pos rfl | (refine (if_pos (by with_reducible rfl)).trans ?_; exact rfl) | refine look_no (by decide +kernel) ?_ | unfold inSet | unfold grSet))) (by (repeat (first | with_reducible exact if_pos rfl | (refine (if_pos (by with_reducible rfl)).trans ?_; exact rfl) | refine look_no (by decide +kernel) ?_ | unfold inSet | unfold grSet))) (by (repeat (first | with_reducible exact if_pos rfl | (refine (if_pos (by with_reducible rfl)).trans ?_; exact rfl) | refine look_no (by decide +kernel) ?_ | unfold inSet | unfold grSet))) (by (repeat (first | with_reducible exact if_pos rfl | (refine (if_pos (by with_reducible rfl)).trans ?_; exact rfl) | refine look_no (by decide +kernel) ?_ | unfold inSet | unfold grSet)))⟩
          · clear F₂ N₂
            rintro h' tk' m' F₃ N₃ hpos3 ⟨v1, v2, v3, v4, g1, g2, g3, g4, g5, g6, g7⟩
            rw [bm_map g1 g2 g3 g4 g5 g6 g7] at F₃
            have hf2 := bm_fine h7 (show i + 1 < 8 by omega)
            have hf3 := hf2.1
            have hf4 := hf2.2.1
            clear hf2
            (try dsimp only)
            (try k_fold)
            repeat' (first | ((with_reducible show StopK 1 _); unfold StopK; first | ((with_reducible show wpAny _ _ (call (Value.ref 28) _) _ _ _); (rename Hue _ _ => hH9); k_dflt (refine' tellP_use (hsv_pos _ _ _ _ _) ?k1 ?k2 ?k3 ?k4 ?k5 ?kK (HsvRel.mk hH9 ?r1 ?r2) ?kd ?ku ?kp ?_; (case k1 => k_asm); (case k2 => k_asm); (case k3 => k_asm); (case k4 => k_asm); (case k5 => k_asm); (case kK => first | exact rfl | assumption); (case r1 => (unfold TokIn; (try dsimp only); omega)); (case r2 => (unfold TokIn; (try dsimp only); omega)); (case kd => ktr_room); (case ku => ktr_units); (case kp => ((try dsimp only); omega))); intro r' tl' h' tk' h0' hO' F' N' a'; obtain ⟨D9, t1, t2, t3, e1, e2, ⟨q1, q4⟩, ⟨q2, q5⟩, ⟨q3, q6⟩⟩ := hO'; subst e1; subst e2; (have a9 := a' _ (.head _)); (simp only [Apart] at a9); (simp only [lightOf, Bool.false_eq_true, if_false, if_true, List.cons_append, List.nil_append] at N'); (try dsimp only)) | ((with_reducible show wpAny _ _ (call (Value.ref 21) _) _ _ _); k_dflt (refine' tell_use (rgb_told _ _ _ _ _) ?k1 ?k2 ?k3 ?k4 ?k5 ?kK (rgb_any) ?kd ?ku ?_; (case k1 => k_asm); (case k2 => k_asm); (case k3 => k_asm); (case k4 => k_asm); (case k5 => k_asm); (case kK => first | exact rfl | assumption); skip; (case kd => ktr_room); (case ku => ktr_units)); intro r' tl' h' tk' hO' F' N' a'; obtain ⟨D9, t9, v9, w9, e1, e2⟩ := hO'; subst e1; subst e2; (simp only [List.cons_append, List.nil_append] at N'); (try dsimp only)) | ((with_reducible show wpAny _ _ (call (Value.ref 36) _) _ _ _); k_dflt (refine' tell_useP (flag_told _ _ _ _ _) ?k1 ?k2 ?k3 ?k4 ?k5 ?kK (FlagRel.mk ?r1 ?r2) ?kd ?ku ?kp ?_; (case k1 => k_asm); (case k2 => k_asm); (case k3 => k_asm); (case k4 => k_asm); (case k5 => k_asm); (case kK => first | exact rfl | assumption); (case r1 => first | decide | omega); (case r2 => first | decide | omega); (case kd => ktr_room); (case ku => ktr_units); (case kp => ((try dsimp only); omega))); intro r' tl' h' tk' h0' hO' F' N' a'; obtain ⟨t', e1, e2⟩ := hO'; subst e1; subst e2; (simp only [List.cons_append, List.nil_append] at N'); (try dsimp only)) | ((with_reducible show wpAny _ _ (call (Value.ref 116) _) _ _ _); k_dflt (refine' tell_useP (nam_told _ _ _ _) ?k1 ?k2 ?k3 ?k4 ?k5 ?kK (NamRel.mk) ?kd ?ku ?kp ?_; (case k1 => k_asm); (case k2 => k_asm); (case k3 => k_asm); (case k4 => k_asm); (case k5 => k_asm); (case kK => first | exact rfl | assumption); skip; (case kd => ktr_room); (case ku => ktr_units); (case kp => ((try dsimp only); omega))); intro r' tl' h' tk' h0' hO' F' N' a'; obtain ⟨l', u1, u2, u3, u4, u5, u6, u7, u8, e1, e2⟩ := hO'; subst e1; subst e2; (simp only [List.cons_append, List.nil_append] at N'); (try dsimp only))) | ((with_reducible show StopK 2 _); unfold StopK; first | ((with_reducible show wpAny _ _ (call (Value.builtin "len") [Value.ref _]) _ _ _); (rename LightsAre _ _ _ => hL9); k_dflt (refine' len_seven ?k1 ?k2 ?_; (case k1 => is_list); (case k2 => (rw [hL9.1]; assumption))))) | ((with_reducible show StopK 3 _); unfold StopK; first | ((with_reducible show wpAny _ _ (call (Value.builtin "str.split") [Value.str (flagText _) _, _]) _ _ _); k_dflt (refine' KSpl.split1 ?F ?N ?y ?_ flag_len; (case F => k_asm); (case N => k_asm); (case y => (first | rfl | decide))); intro D' l' h' k' e' S' F' N' l1; (try k_lt l1))) | ((with_reducible show StopK 4 _); unfold StopK; first | ((with_reducible show wpAny _ _ (call (Value.builtin _) [Value.ref _, Value.str (nameAt _) _]) _ _ _); (rename News _ _ _ _ => kN9); (rename _ < 8 => hj9); k_dflt (refine index_name _ hj9 (kN9 (_, W.listOf (nameVals _ _ _ _ _ _ _ _).toArray 0) (by k_mem)).1 ?_))) | ((with_reducible show StopK 5 _); unfold StopK; first | ((with_reducible show wpAny _ _ (subscriptTail _ (Expr.BinOp ..) (Value.ref _) (Value.int _ _)) _ _ _); (rename (_ = some (Value.ref _)) => hx9); k_dflt (refine' item_list (by is_list) ?k0 ?k1 hx9 ?_; (case k0 => omega); (case k1 => omega)))) | ((with_reducible show StopK 6 _); unfold StopK; first | (k_dflt (refine shl_nat (by assumption) (by assumption) ?_))) | ((with_reducible show StopK 7 _); unfold StopK; first | (k_dflt (refine xor_nat ?_))) | ((with_reducible show StopK 8 _); unfold StopK; first | ((rename Hue _ _ => hH9); k_dflt (first | (refine red_even hH9 (by assumption) (by k_asm) (by k_asm) (by k_mem) (by k_mem) (by ktr_units) ⟨by omega, by omega, by omega⟩ ⟨by omega, by omega, by omega⟩ ?_) | (refine red_odd hH9 (by assumption) (by k_asm) (by k_asm) (by k_mem) (by k_mem) (by ktr_units) ⟨by omega, by omega, by omega⟩ ⟨by omega, by omega, by omega⟩ ⟨by omega, by omega, by omega⟩ ?_)))) | ((with_reducible show StopK 9 _); unfold StopK; first | ((first | (with_reducible refine has_le (by assumption) ?_) | (k_dflt (refine gen_le ?_); intro tk9 hle9; (try dsimp only at hle9))); (with_reducible refine wpAny_execs_cons ?_); (try dsimp only))) | ((with_reducible show StopK 10 _); unfold StopK; first | ((first | (with_reducible refine has_le (by assumption) ?_) | (k_dflt (refine gen_le ?_); intro tk9 hle9; (try dsimp only at hle9))); (with_reducible refine wpAny_execs_nil ?_); (try dsimp only))) | (k_unfold; (try dsimp only)) | (k_end; wrow_close) | ((with_reducible show wpAny _ _ (execs _ _) _ _ _); (try dsimp only); (try k_fold); walk1) | ((with_reducible show wpAny _ _ (eval (Expr.Call _ _ _ _) _) _ _ _); (try k_fold); walk1) | walk1 | (dsimp only; walk1) | (leave1; walk_say "STEP leave1"; try dsimp only))
            unfold Stop2
            (rename Fr hp _ _ _ => kF)
            (rename News hp _ _ _ => kN)
            (rename _ ∧ _ ∧ _ ∧ AllLt _ _ => kl)
            refine' gr_done [_] rfl ?kF ?kN ?kt ?kl ?kS (Nat.ne_of_lt ?kn) hoff ho hS ?km hi7 rfl
            case kF => exact kF
            case kN => exact kN
            case kt => rfl
            case kl => exact kl
            case kn => assumption
            case kS => exact List.forall_mem_cons.mpr ⟨neN (by (try dsimp only); omega), List.forall_mem_nil _⟩
            case km => exact ⟨_, _, _, _, _, by (repeat (first | with_reducible exact if_pos rfl | (refine (if_pos (by with_reducible rfl)).trans ?_; exact rfl) | refine look_no (by decide +kernel) ?_ | unfold inSet | unfold grSet)), by (repeat (first | with_reducible exact if_pos rfl | (refine (if_pos (by with_reducible rfl)).trans ?_; exact rfl) | refine look_no (by decide +kernel) ?_ | unfold inSet | unfold grSet)), by (repeat (first | with_reducible exact if_pos rfl | (refine (if_pos (by with_reducible rfl)).trans ?_; exact rfl) | refine look_no (by decide +kernel) ?_ | unfold inSet | unfold grSet)), by (repeat (first | with_reducible exact if_pos rfl | (refine (if_pos (by with_reducible rfl)).trans ?_; exact rfl) | refine look_no (by decide +kernel) ?_ | unfold inSet | unfold grSet)), by (repeat (first | with_reducible exact if_pos rfl | (refine (if_pos (by with_reducible rfl)).trans ?_; exact rfl) | refine look_no (by decide +kernel) ?_ | unfold inSet | unfold grSet)), by (repeat (first | with_reducible exact if_pos rfl | (refine (if_pos (by with_reducible rfl)).trans ?_; exact rfl) | refine look_no (by decide +kernel) ?_ | unfold inSet | unfold grSet)), by (repeat (first | with_reducible exact if_pos rfl | (refine (if_pos (by with_reducible rfl)).trans ?_; exact rfl) | refine look_no (by decide +kernel) ?_ | unfold inSet | unfold grSet)), by (repeat (first | with_reducible exact if_pos rfl | (refine (if_pos (by with_reducible rfl)).trans ?_; exact rfl) | refine look_no (by decide +kernel) ?_ | unfold inSet | unfold grSet))⟩
      · walk1
    · rintro m₁ nx h tk hpos ⟨⟨t1, t2, t3, t4, t5, e1, e2, e3, e4, e5, e6, e7, e8⟩, us, c, objs, rfl, hS, hoff⟩ F₁ N₁
      rw [gr_map e1 e2 e3 e4 e5 e6 e7 e8] at F₁
      clear F8 N8
      (try dsimp only)
      (try k_fold)
      repeat' (first | ((with_reducible show StopK 1 _); unfold StopK; first | ((with_reducible show wpAny _ _ (call (Value.ref 28) _) _ _ _); (rename Hue _ _ => hH9); k_dflt (refine' tellP_use (hsv_pos _ _ _ _ _) ?k1 ?k2 ?k3 ?k4 ?k5 ?kK (HsvRel.mk hH9 ?r1 ?r2) ?kd ?ku ?kp ?_; (case k1 => k_asm); (case k2 => k_asm); (case k3 => k_asm); (case k4 => k_asm); (case k5 => k_asm); (case kK => first | exact rfl | assumption); (case r1 => (unfold TokIn; (try dsimp only); omega)); (case r2 => (unfold TokIn; (try dsimp only); omega)); (case kd => ktr_room); (case ku => ktr_units); (case kp => ((try dsimp only); omega))); intro r' tl' h' tk' h0' hO' F' N' a'; obtain ⟨D9, t1, t2, t3, e1, e2, ⟨q1, q4⟩, ⟨q2, q5⟩, ⟨q3, q6⟩⟩ := hO'; subst e1; subst e2; (have a9 := a' _ (.head _)); (simp only [Apart] at a9); (simp only [lightOf, Bool.false_eq_true, if_false, if_true, List.cons_append, List.nil_append] at N'); (try dsimp only)) | ((with_reducible show wpAny _ _ (call (Value.ref 21) _) _ _ _); k_dflt (refine' tell_use (rgb_told _ _ _ _ _) ?k1 ?k2 ?k3 ?k4 ?k5 ?kK (rgb_any) ?kd ?ku ?_; (case k1 => k_asm); (case k2 => k_asm); (case k3 => k_asm); (case k4 => k_asm); (case k5 => k_asm); (case kK => first | exact rfl | assumption); skip; (case kd => ktr_room); (case ku => ktr_units)); intro r' tl' h' tk' hO' F' N' a'; obtain ⟨D9, t9, v9, w9, e1, e2⟩ := hO'; subst e1; subst e2; (simp only [List.cons_append, List.nil_append] at N'); (try dsimp only)) | ((with_reducible show wpAny _ _ (call (Value.ref 36) _) _ _ _); k_dflt (refine' tell_useP (flag_told _ _ _ _ _) ?k1 ?k2 ?k3 ?k4 ?k5 ?kK (FlagRel.mk ?r1 ?r2) ?kd ?ku ?kp ?_; (case k1 => k_asm); (case k2 => k_asm); (case k3 => k_asm); (case k4 => k_asm); (case k5 => k_asm); (case kK => first | exact rfl | assumption); (case r1 => first | decide | omega); (case r2 => first | decide | omega); (case kd => ktr_room); (case ku => ktr_units); (case kp => ((try dsimp only); omega))); intro r' tl' h' tk' h0' hO' F' N' a'; obtain ⟨t', e1, e2⟩ := hO'; subst e1; subst e2; (simp only [List.cons_append, List.nil_append] at N'); (try dsimp only)) | ((with_reducible show wpAny _ _ (call (Value.ref 116) _) _ _ _); k_dflt (refine' tell_useP (nam_told _ _ _ _) ?k1 ?k2 ?k3 ?k4 ?k5 ?kK (NamRel.mk) ?kd ?ku ?kp ?_; (case k1 => k_asm); (case k2 => k_asm); (case k3 => k_asm); (case k4 => k_asm); (case k5 => k_asm); (case kK => first | exact rfl | assumption); skip; (case kd => ktr_room); (case ku => ktr_units); (case kp => ((try dsimp only); omega))); intro r' tl' h' tk' h0' hO' F' N' a'; obtain ⟨l', u1, u2, u3, u4, u5, u6, u7, u8, e1, e2⟩ := hO'; subst e1; subst e2; (simp only [List.cons_append, List.nil_append] at N'); (try dsimp only))) | ((with_reducible show StopK 2 _); unfold StopK; first | ((with_reducible show wpAny _ _ (call (Value.builtin "len") [Value.ref _]) _ _ _); (rename LightsAre _ _ _ => hL9); k_dflt (refine' len_seven ?k1 ?k2 ?_; (case k1 => is_list); (case k2 => (rw [hL9.1]; assumption))))) | ((with_reducible show StopK 3 _); unfold StopK; first | ((with_reducible show wpAny _ _ (call (Value.builtin "str.split") [Value.str (flagText _) _, _]) _ _ _); k_dflt (refine' KSpl.split1 ?F ?N ?y ?_ flag_len; (case F => k_asm); (case N => k_asm); (case y => (first | rfl | decide))); intro D' l' h' k' e' S' F' N' l1; (try k_lt l1))) | ((with_reducible show StopK 4 _); unfold StopK; first | ((with_reducible show wpAny _ _ (call (Value.builtin _) [Value.ref _, Value.str (nameAt _) _]) _ _ _); (rename News _ _ _ _ => kN9); (rename _ < 8 => hj9); k_dflt (refine index_name _ hj9 (kN9 (_, W.listOf (nameVals _ _ _ _ _ _ _ _).toArray 0) (by k_mem)).1 ?_))) | ((with_reducible show StopK 5 _); unfold StopK; first | ((with_reducible show wpAny _ _ (subscriptTail _ (Expr.BinOp ..) (Value.ref _) (Value.int _ _)) _ _ _); (rename (_ = some (Value.ref _)) => hx9); k_dflt (refine' item_list (by is_list) ?k0 ?k1 hx9 ?_; (case k0 => omega); (case k1 => omega)))) | ((with_reducible show StopK 6 _); unfold StopK; first | (k_dflt (refine shl_nat (by assumption) (by assumption) ?_))) | ((with_reducible show StopK 7 _); unfold StopK; first | (k_dflt (refine xor_nat ?_))) | ((with_reducible show StopK 8 _); unfold StopK; first | ((rename Hue _ _ => hH9); k_dflt (first | (refine red_even hH9 (by assumption) (by k_asm) (by k_asm) (by k_mem) (by k_mem) (by ktr_units) ⟨by omega, by omega, by omega⟩ ⟨by omega, by omega, by omega⟩ ?_) | (refine red_odd hH9 (by assumption) (by k_asm) (by k_asm) (by k_mem) (by k_mem) (by ktr_units) ⟨by omega, by omega, by omega⟩ ⟨by omega, by omega, by omega⟩ ⟨by omega, by omega, by omega⟩ ?_)))) | ((with_reducible show StopK 9 _); unfold StopK; first | ((first | (with_reducible refine has_le (by assumption) ?_) | (k_dflt (refine gen_le ?_); intro tk9 hle9; (try dsimp only at hle9))); (with_reducible refine wpAny_execs_cons ?_); (try dsimp only))) | ((with_reducible show StopK 10 _); unfold StopK; first | ((first | (with_reducible refine has_le (by assumption) ?_) | (k_dflt (refine gen_le ?_); intro tk9 hle9; (try dsimp only at hle9))); (with_reducible refine wpAny_execs_nil ?_); (try dsimp only))) | (k_unfold; (try dsimp only)) | (k_end; wrow_close) | ((with_reducible show wpAny _ _ (execs _ _) _ _ _); (try dsimp only); (try k_fold); walk1) | ((with_reducible show wpAny _ _ (eval (Expr.Call _ _ _ _) _) _ _ _); (try k_fold); walk1) | walk1 | (dsimp only; walk1) | (leave1; walk_say "STEP leave1"; try dsimp only))
      (rename Fr hp _ _ _ => kF)
      (rename News hp _ _ _ => kN)
      exact hret _ ((_, _) :: objs) _ _ kF.keep (made_of kN gr_sub) (by (try dsimp only); omega) ⟨_, us, c, objs, rfl, rfl, hS.1, hS.2⟩
  · walk1
end Mine
end

section
theorem Mine.fresh_T_written : True := by
  w_top off
  trivial
namespace Mine
inductive WriRel (l : List Nat) (hand : Int) : Heap → List Value → Prop where
  | mk {b : Heap} {x : Str} {t1 t2 : Tok} : Wr l (fun k => [k]) x → l.length ≤ 7 → (∀ k ∈ l, k ∈ alph) → WriRel l hand b [.str x t1, .int hand t2]
local macro_rules | `(tactic| walk_at "call ref") => `(tactic| (k_here; refine at_stopK 1 ?_))
set_option maxHeartbeats 8000000 in
theorem wri0_told (w : World) (mean : ExcName → Option Value) (mg mb : Str → Option Value) (l : List Nat) : Tell w mean mg mb 99 4 (WriRel l 0) (EscOut l 0) := by
  unfold Tell
  k_fill
  intro dp un gd cn cs a ccd cl outer A₀ base h₀ L m hp gs dr tk os vs Q E B F X T hk hR hd hu hret
  cases hR with
  | mk H hll ha =>
  k_dflt (refine' tell_in ?k1 ?k2 ?k3 ?k5 ?kK ?k6 ?k7 ?k8 ?k9 ?kB ?_ ?c5 ?c2 ?c3 ?c4; (case k1 => k_asm); (case k2 => k_asm); (case k3 => k_asm); (case k5 => k_asm); (case kK => assumption); (case k6 => k_is); (case k7 => k_is); (case k8 => omega); (case k9 => exact BindsTo.of_eq rfl); (case kB => exact locs rfl); (case c5 => decide); (case c2 => exact rfl); (case c3 => exact rfl); (case c4 => exact rfl); k_whole; clear B F X T hk; intro L' h' tk' F' N' B' X' T'; (try dsimp only); (try k_fold))
  repeat' (first | ((with_reducible show StopK 1 _); unfold StopK; first | (k_dflt (first | (refine' tell_use (esc0_told _ _ _ _ _) ?k1 ?k2 ?k3 ?k4 ?k5 ?kK ?kR ?kd ?ku ?_; (case k1 => k_asm); (case k2 => k_asm); (case k3 => k_asm); (case k4 => k_asm); (case k5 => k_asm); (case kK => first | exact rfl | assumption); (case kR => exact EscRel.mk (by assumption) (by assumption) (by assumption)); (case kd => ktr_room); (case ku => ktr_units)) | (refine' tell_use (esc1_told _ _ _ _ _) ?k1 ?k2 ?k3 ?k4 ?k5 ?kK ?kR ?kd ?ku ?_; (case k1 => k_asm); (case k2 => k_asm); (case k3 => k_asm); (case k4 => k_asm); (case k5 => k_asm); (case kK => first | exact rfl | assumption); (case kR => exact EscRel.mk (by assumption) (by assumption) (by assumption)); (case kd => ktr_room); (case ku => ktr_units)) | (refine' tell_use (esc2_told _ _ _ _ _) ?k1 ?k2 ?k3 ?k4 ?k5 ?kK ?kR ?kd ?ku ?_; (case k1 => k_asm); (case k2 => k_asm); (case k3 => k_asm); (case k4 => k_asm); (case k5 => k_asm); (case kK => first | exact rfl | assumption); (case kR => exact EscRel.mk (by assumption) (by assumption) (by assumption)); (case kd => ktr_room); (case ku => ktr_units)) | (refine' tell_use (esc3_told _ _ _ _ _) ?k1 ?k2 ?k3 ?k4 ?k5 ?kK ?kR ?kd ?ku ?_; (case k1 => k_asm); (case k2 => k_asm); (case k3 => k_asm); (case k4 => k_asm); (case k5 => k_asm); (case kK => first | exact rfl | assumption); (case kR => exact EscRel.mk (by assumption) (by assumption) (by assumption)); (case kd => ktr_room); (case ku => ktr_units)) | (refine' tell_use (esc4_told _ _ _ _ _) ?k1 ?k2 ?k3 ?k4 ?k5 ?kK ?kR ?kd ?ku ?_; (case k1 => k_asm); (case k2 => k_asm); (case k3 => k_asm); (case k4 => k_asm); (case k5 => k_asm); (case kK => first | exact rfl | assumption); (case kR => exact EscRel.mk (by assumption) (by assumption) (by assumption)); (case kd => ktr_room); (case ku => ktr_units))); intro r' tl' h' tk' hO' F' N' a'; obtain ⟨x', t', e1, e2, W'⟩ := hO'; subst e1; subst e2; clear a'; (try simp only [List.nil_append] at N'); (try dsimp only))) | (k_unfold; (try dsimp only)) | (k_end; wrow_close) | ((with_reducible show wpAny _ _ (execs _ _) _ _ _); (try dsimp only); (try k_fold); walk1) | walk1 | (dsimp only; walk1) | (leave1; walk_say "STEP leave1"; try dsimp only))
  (rename Wr _ (spell _) _ => W')
  (rename Fr _ _ _ _ => kF)
  exact hret _ [] _ _ kF.keep made_nil ⟨_, _, rfl, rfl, W'⟩
set_option maxHeartbeats 8000000 in
theorem wri1_told (w : World) (mean : ExcName → Option Value) (mg mb : Str → Option Value) (l : List Nat) : Tell w mean mg mb 99 4 (WriRel l 1) (EscOut l 1) := by
  unfold Tell
  k_fill
  intro dp un gd cn cs a ccd cl outer A₀ base h₀ L m hp gs dr tk os vs Q E B F X T hk hR hd hu hret
  cases hR with
  | mk H hll ha =>
  k_dflt (refine' tell_in ?k1 ?k2 ?k3 ?k5 ?kK ?k6 ?k7 ?k8 ?k9 ?kB ?_ ?c5 ?c2 ?c3 ?c4; (case k1 => k_asm); (case k2 => k_asm); (case k3 => k_asm); (case k5 => k_asm); (case kK => assumption); (case k6 => k_is); (case k7 => k_is); (case k8 => omega); (case k9 => exact BindsTo.of_eq rfl); (case kB => exact locs rfl); (case c5 => decide); (case c2 => exact rfl); (case c3 => exact rfl); (case c4 => exact rfl); k_whole; clear B F X T hk; intro L' h' tk' F' N' B' X' T'; (try dsimp only); (try k_fold))
  repeat' (first | ((with_reducible show StopK 1 _); unfold StopK; first | (k_dflt (first | (refine' tell_use (esc0_told _ _ _ _ _) ?k1 ?k2 ?k3 ?k4 ?k5 ?kK ?kR ?kd ?ku ?_; (case k1 => k_asm); (case k2 => k_asm); (case k3 => k_asm); (case k4 => k_asm); (case k5 => k_asm); (case kK => first | exact rfl | assumption); (case kR => exact EscRel.mk (by assumption) (by assumption) (by assumption)); (case kd => ktr_room); (case ku => ktr_units)) | (refine' tell_use (esc1_told _ _ _ _ _) ?k1 ?k2 ?k3 ?k4 ?k5 ?kK ?kR ?kd ?ku ?_; (case k1 => k_asm); (case k2 => k_asm); (case k3 => k_asm); (case k4 => k_asm); (case k5 => k_asm); (case kK => first | exact rfl | assumption); (case kR => exact EscRel.mk (by assumption) (by assumption) (by assumption)); (case kd => ktr_room); (case ku => ktr_units)) | (refine' tell_use (esc2_told _ _ _ _ _) ?k1 ?k2 ?k3 ?k4 ?k5 ?kK ?kR ?kd ?ku ?_; (case k1 => k_asm); (case k2 => k_asm); (case k3 => k_asm); (case k4 => k_asm); (case k5 => k_asm); (case kK => first | exact rfl | assumption); (case kR => exact EscRel.mk (by assumption) (by assumption) (by assumption)); (case kd => ktr_room); (case ku => ktr_units)) | (refine' tell_use (esc3_told _ _ _ _ _) ?k1 ?k2 ?k3 ?k4 ?k5 ?kK ?kR ?kd ?ku ?_; (case k1 => k_asm); (case k2 => k_asm); (case k3 => k_asm); (case k4 => k_asm); (case k5 => k_asm); (case kK => first | exact rfl | assumption); (case kR => exact EscRel.mk (by assumption) (by assumption) (by assumption)); (case kd => ktr_room); (case ku => ktr_units)) | (refine' tell_use (esc4_told _ _ _ _ _) ?k1 ?k2 ?k3 ?k4 ?k5 ?kK ?kR ?kd ?ku ?_; (case k1 => k_asm); (case k2 => k_asm); (case k3 => k_asm); (case k4 => k_asm); (case k5 => k_asm); (case kK => first | exact rfl | assumption); (case kR => exact EscRel.mk (by assumption) (by assumption) (by assumption)); (case kd => ktr_room); (case ku => ktr_units))); intro r' tl' h' tk' hO' F' N' a'; obtain ⟨x', t', e1, e2, W'⟩ := hO'; subst e1; subst e2; clear a'; (try simp only [List.nil_append] at N'); (try dsimp only))) | (k_unfold; (try dsimp only)) | (k_end; wrow_close) | ((with_reducible show wpAny _ _ (execs _ _) _ _ _); (try dsimp only); (try k_fold); walk1) | walk1 | (dsimp only; walk1) | (leave1; walk_say "STEP leave1"; try dsimp only))
  (rename Wr _ (spell _) _ => W')
  (rename Fr _ _ _ _ => kF)
  exact hret _ [] _ _ kF.keep made_nil ⟨_, _, rfl, rfl, W'⟩
set_option maxHeartbeats 8000000 in
theorem wri2_told (w : World) (mean : ExcName → Option Value) (mg mb : Str → Option Value) (l : List Nat) : Tell w mean mg mb 99 4 (WriRel l 2) (EscOut l 2) := by
  unfold Tell
  k_fill
  intro dp un gd cn cs a ccd cl outer A₀ base h₀ L m hp gs dr tk os vs Q E B F X T hk hR hd hu hret
  cases hR with
  | mk H hll ha =>
  k_dflt (refine' tell_in ?k1 ?k2 ?k3 ?k5 ?kK ?k6 ?k7 ?k8 ?k9 ?kB ?_ ?c5 ?c2 ?c3 ?c4; (case k1 => k_asm); (case k2 => k_asm); (case k3 => k_asm); (case k5 => k_asm); (case kK => assumption); (case k6 => k_is); (case k7 => k_is); (case k8 => omega); (case k9 => exact BindsTo.of_eq rfl); (case kB => exact locs rfl); (case c5 => decide); (case c2 => exact rfl); (case c3 => exact rfl); (case c4 => exact rfl); k_whole; clear B F X T hk; intro L' h' tk' F' N' B' X' T'; (try dsimp only); (try k_fold))
  repeat' (first | ((with_reducible show StopK 1 _); unfold StopK; first | (k_dflt (first | (refine' tell_use (esc0_told _ _ _ _ _) ?k1 ?k2 ?k3 ?k4 ?k5 ?kK ?kR ?kd ?ku ?_; (case k1 => k_asm); (case k2 => k_asm); (case k3 => k_asm); (case k4 => k_asm); (case k5 => k_asm); (case kK => first | exact rfl | assumption); (case kR => exact EscRel.mk (by assumption) (by assumption) (by assumption)); (case kd => ktr_room); (case ku => ktr_units)) | (refine' tell_use (esc1_told _ _ _ _ _) ?k1 ?k2 ?k3 ?k4 ?k5 ?kK ?kR ?kd ?ku ?_; (case k1 => k_asm); (case k2 => k_asm); (case k3 => k_asm); (case k4 => k_asm); (case k5 => k_asm); (case kK => first | exact rfl | assumption); (case kR => exact EscRel.mk (by assumption) (by assumption) (by assumption)); (case kd => ktr_room); (case ku => ktr_units)) | (refine' tell_use (esc2_told _ _ _ _ _) ?k1 ?k2 ?k3 ?k4 ?k5 ?kK ?kR ?kd ?ku ?_; (case k1 => k_asm); (case k2 => k_asm); (case k3 => k_asm); (case k4 => k_asm); (case k5 => k_asm); (case kK => first | exact rfl | assumption); (case kR => exact EscRel.mk (by assumption) (by assumption) (by assumption)); (case kd => ktr_room); (case ku => ktr_units)) | (refine' tell_use (esc3_told _ _ _ _ _) ?k1 ?k2 ?k3 ?k4 ?k5 ?kK ?kR ?kd ?ku ?_; (case k1 => k_asm); (case k2 => k_asm); (case k3 => k_asm); (case k4 => k_asm); (case k5 => k_asm); (case kK => first | exact rfl | assumption); (case kR => exact EscRel.mk (by assumption) (by assumption) (by assumption)); (case kd => ktr_room); (case ku => ktr_units)) | (refine' tell_use (esc4_told _ _ _ _ _) ?k1 ?k2 ?k3 ?k4 ?k5 ?kK ?kR ?kd ?ku ?_; (case k1 => k_asm); (case k2 => k_asm); (case k3 => k_asm); (case k4 => k_asm); (case k5 => k_asm); (case kK => first | exact rfl | assumption); (case kR => exact EscRel.mk (by assumption) (by assumption) (by assumption)); (case kd => ktr_room); (case ku => ktr_units))); intro r' tl' h' tk' hO' F' N' a'; obtain ⟨x', t', e1, e2, W'⟩ := hO'; subst e1; subst e2; clear a'; (try simp only [List.nil_append] at N'); (try dsimp only))) | (k_unfold; (try dsimp only)) | (k_end; wrow_close) | ((with_reducible show wpAny _ _ (execs _ _) _ _ _); (try dsimp only); (try k_fold); walk1) | walk1 | (dsimp only; walk1) | (leave1; walk_say "STEP leave1"; try dsimp only))
  (rename Wr _ (spell _) _ => W')
  (rename Fr _ _ _ _ => kF)
  exact hret _ [] _ _ kF.keep made_nil ⟨_, _, rfl, rfl, W'⟩
set_option maxHeartbeats 8000000 in
theorem wri3_told (w : World) (mean : ExcName → Option Value) (mg mb : Str → Option Value) (l : List Nat) : Tell w mean mg mb 99 4 (WriRel l 3) (EscOut l 3) := by
  unfold Tell
  k_fill
  intro dp un gd cn cs a ccd cl outer A₀ base h₀ L m hp gs dr tk os vs Q E B F X T hk hR hd hu hret
  cases hR with
  | mk H hll ha =>
  k_dflt (refine' tell_in ?k1 ?k2 ?k3 ?k5 ?kK ?k6 ?k7 ?k8 ?k9 ?kB ?_ ?c5 ?c2 ?c3 ?c4; (case k1 => k_asm); (case k2 => k_asm); (case k3 => k_asm); (case k5 => k_asm); (case kK => assumption); (case k6 => k_is); (case k7 => k_is); (case k8 => omega); (case k9 => exact BindsTo.of_eq rfl); (case kB => exact locs rfl); (case c5 => decide); (case c2 => exact rfl); (case c3 => exact rfl); (case c4 => exact rfl); k_whole; clear B F X T hk; intro L' h' tk' F' N' B' X' T'; (try dsimp only); (try k_fold))
  repeat' (first | ((with_reducible show StopK 1 _); unfold StopK; first | (k_dflt (first | (refine' tell_use (esc0_told _ _ _ _ _) ?k1 ?k2 ?k3 ?k4 ?k5 ?kK ?kR ?kd ?ku ?_; (case k1 => k_asm); (case k2 => k_asm); (case k3 => k_asm); (case k4 => k_asm); (case k5 => k_asm); (case kK => first | exact rfl | assumption); (case kR => exact EscRel.mk (by assumption) (by assumption) (by assumption)); (case kd => ktr_room); (case ku => ktr_units)) | (refine' tell_use (esc1_told _ _ _ _ _) ?k1 ?k2 ?k3 ?k4 ?k5 ?kK ?kR ?kd ?ku ?_; (case k1 => k_asm); (case k2 => k_asm); (case k3 => k_asm); (case k4 => k_asm); (case k5 => k_asm); (case kK => first | exact rfl | assumption); (case kR => exact EscRel.mk (by assumption) (by assumption) (by assumption)); (case kd => ktr_room); (case ku => ktr_units)) | (refine' tell_use (esc2_told _ _ _ _ _) ?k1 ?k2 ?k3 ?k4 ?k5 ?kK ?kR ?kd ?ku ?_; (case k1 => k_asm); (case k2 => k_asm); (case k3 => k_asm); (case k4 => k_asm); (case k5 => k_asm); (case kK => first | exact rfl | assumption); (case kR => exact EscRel.mk (by assumption) (by assumption) (by assumption)); (case kd => ktr_room); (case ku => ktr_units)) | (refine' tell_use (esc3_told _ _ _ _ _) ?k1 ?k2 ?k3 ?k4 ?k5 ?kK ?kR ?kd ?ku ?_; (case k1 => k_asm); (case k2 => k_asm); (case k3 => k_asm); (case k4 => k_asm); (case k5 => k_asm); (case kK => first | exact rfl | assumption); (case kR => exact EscRel.mk (by assumption) (by assumption) (by assumption)); (case kd => ktr_room); (case ku => ktr_units)) | (refine' tell_use (esc4_told _ _ _ _ _) ?k1 ?k2 ?k3 ?k4 ?k5 ?kK ?kR ?kd ?ku ?_; (case k1 => k_asm); (case k2 => k_asm); (case k3 => k_asm); (case k4 => k_asm); (case k5 => k_asm); (case kK => first | exact rfl | assumption); (case kR => exact EscRel.mk (by assumption) (by assumption) (by assumption)); (case kd => ktr_room); (case ku => ktr_units))); intro r' tl' h' tk' hO' F' N' a'; obtain ⟨x', t', e1, e2, W'⟩ := hO'; subst e1; subst e2; clear a'; (try simp only [List.nil_append] at N'); (try dsimp only))) | (k_unfold; (try dsimp only)) | (k_end; wrow_close) | ((with_reducible show wpAny _ _ (execs _ _) _ _ _); (try dsimp only); (try k_fold); walk1) | walk1 | (dsimp only; walk1) | (leave1; walk_say "STEP leave1"; try dsimp only))
  (rename Wr _ (spell _) _ => W')
  (rename Fr _ _ _ _ => kF)
  exact hret _ [] _ _ kF.keep made_nil ⟨_, _, rfl, rfl, W'⟩
set_option maxHeartbeats 8000000 in
theorem wri4_told (w : World) (mean : ExcName → Option Value) (mg mb : Str → Option Value) (l : List Nat) : Tell w mean mg mb 99 4 (WriRel l 4) (EscOut l 4) := by
  unfold Tell
  k_fill
  intro dp un gd cn cs a ccd cl outer A₀ base h₀ L m hp gs dr tk os vs Q E B F X T hk hR hd hu hret
  cases hR with
  | mk H hll ha =>
  k_dflt (refine' tell_in ?k1 ?k2 ?k3 ?k5 ?kK ?k6 ?k7 ?k8 ?k9 ?kB ?_ ?c5 ?c2 ?c3 ?c4; (case k1 => k_asm); (case k2 => k_asm); (case k3 => k_asm); (case k5 => k_asm); (case kK => assumption); (case k6 => k_is); (case k7 => k_is); (case k8 => omega); (case k9 => exact BindsTo.of_eq rfl); (case kB => exact locs rfl); (case c5 => decide); (case c2 => exact rfl); (case c3 => exact rfl); (case c4 => exact rfl); k_whole; clear B F X T hk; intro L' h' tk' F' N' B' X' T'; (try dsimp only); (try k_fold))
  repeat' (first | ((with_reducible show StopK 1 _); unfold StopK; first | (k_dflt (first | (refine' tell_use (esc0_told _ _ _ _ _) ?k1 ?k2 ?k3 ?k4 ?k5 ?kK ?kR ?kd ?ku ?_; (case k1 => k_asm); (case k2 => k_asm); (case k3 => k_asm); (case k4 => k_asm); (case k5 => k_asm); (case kK => first | exact rfl | assumption); (case kR => exact EscRel.mk (by assumption) (by assumption) (by assumption)); (case kd => ktr_room); (case ku => ktr_units)) | (refine' tell_use (esc1_told _ _ _ _ _) ?k1 ?k2 ?k3 ?k4 ?k5 ?kK ?kR ?kd ?ku ?_; (case k1 => k_asm); (case k2 => k_asm); (case k3 => k_asm); (case k4 => k_asm); (case k5 => k_asm); (case kK => first | exact rfl | assumption); (case kR => exact EscRel.mk (by assumption) (by assumption) (by assumption)); (case kd => ktr_room); (case ku => ktr_units)) | (refine' tell_use (esc2_told _ _ _ _ _) ?k1 ?k2 ?k3 ?k4 ?k5 ?kK ?kR ?kd ?ku ?_; (case k1 => k_asm); (case k2 => k_asm); (case k3 => k_asm); (case k4 => k_asm); (case k5 => k_asm); (case kK => first | exact rfl | assumption); (case kR => exact EscRel.mk (by assumption) (by assumption) (by assumption)); (case kd => ktr_room); (case ku => ktr_units)) | (refine' tell_use (esc3_told _ _ _ _ _) ?k1 ?k2 ?k3 ?k4 ?k5 ?kK ?kR ?kd ?ku ?_; (case k1 => k_asm); (case k2 => k_asm); (case k3 => k_asm); (case k4 => k_asm); (case k5 => k_asm); (case kK => first | exact rfl | assumption); (case kR => exact EscRel.mk (by assumption) (by assumption) (by assumption)); (case kd => ktr_room); (case ku => ktr_units)) | (refine' tell_use (esc4_told _ _ _ _ _) ?k1 ?k2 ?k3 ?k4 ?k5 ?kK ?kR ?kd ?ku ?_; (case k1 => k_asm); (case k2 => k_asm); (case k3 => k_asm); (case k4 => k_asm); (case k5 => k_asm); (case kK => first | exact rfl | assumption); (case kR => exact EscRel.mk (by assumption) (by assumption) (by assumption)); (case kd => ktr_room); (case ku => ktr_units))); intro r' tl' h' tk' hO' F' N' a'; obtain ⟨x', t', e1, e2, W'⟩ := hO'; subst e1; subst e2; clear a'; (try simp only [List.nil_append] at N'); (try dsimp only))) | (k_unfold; (try dsimp only)) | (k_end; wrow_close) | ((with_reducible show wpAny _ _ (execs _ _) _ _ _); (try dsimp only); (try k_fold); walk1) | walk1 | (dsimp only; walk1) | (leave1; walk_say "STEP leave1"; try dsimp only))
  (rename Wr _ (spell _) _ => W')
  (rename Fr _ _ _ _ => kF)
  exact hret _ [] _ _ kF.keep made_nil ⟨_, _, rfl, rfl, W'⟩
end Mine
end

section
theorem Mine.fresh_T_tape : True := by
  w_top off
  trivial
namespace Mine
/-- a list's iterator, at a place -/
def LiIter (o : Obj) (l : Addr) (i : Nat) : Prop := o.cls = .type "list_iterator" ∧ o.data = .fields #[.ref l, .int i 0]
section
variable {prog : Program} {w : World} {A : Around} {E : Value → Shared → Prop} {s : Shared} {h₀ : Heap} {L l it : Addr} {m : Str → Option Value} {news : List (Addr × Obj)} {g : Obj → List (Addr × Obj)} {io : Obj} {items : Array Value} {i n : Nat} {x : Value} {Q : Value → Shared → Prop}
theorem li_iter (F : Fr h₀ L s.heap m) (N : News h₀ L s.heap news) (hl : s.heap.IsList l items)
    (h : ∀ (I : Addr) h' oI, Fr h₀ L h' m → News h₀ L h' ((I, oI) :: news) → (∀ p ∈ news, p.1 < I) → LiIter oI l 0 → Q (.ref I) { s with heap := h' }) :
    wpAny (model prog w) A (call (.builtin "iter") [.ref l]) Q E s := by
  refine call_function_entry (by decide +kernel) (by decide +kernel) kdk_entry_iter (kdk_args_iter _) ?_
  unfold Builtin.«iter»
  refine wpAny_bind (m := someArgs "iter" 1 2 _) (wpAny_of_eq (a := [Value.ref l]) (by first | rfl | kernel_rfl!) ?_)
  show wpAny _ _ (pyIter (.ref l) >>= _) _ _ _
  refine wpAny_bind (wpAny_pyIter_list hl ?_)
  exact wpAny_pure ⟨_, rfl, h _ _ _ (F.push _) (News.push F N _ rfl) (fun q hq => Heap.lt_size (N q hq).1) ⟨rfl, rfl⟩⟩
theorem li_next (F : Fr h₀ L s.heap m) (N : News h₀ L s.heap news) (U : UpdF it io news g) (hi : LiIter io l i) (hl : s.heap.IsList l items) (hx : items[i]? = some x)
    (h : ∀ h' o', Fr h₀ L h' m → News h₀ L h' (g o') → LiIter o' l (i + 1) → Q x { s with heap := h' }) :
    wpAny (model prog w) A (call (.builtin "next") [.ref it]) Q E s := by
  obtain ⟨pre, post, hl', hg, a, b⟩ := U.split
  have hmem : (it, io) ∈ news := by rw [hl']; exact List.mem_append_right _ (.head _)
  have hm := N (it, io) hmem
  have hit : s.heap.IsListIter it l i := ⟨io, hm.1, hi.1, hi.2⟩
  obtain ⟨o, ho, hc, hd⟩ := id hit
  obtain ⟨ol, hol, _, nl, hdl⟩ := hl
  refine call_function_entry (by decide +kernel) (by decide +kernel) kdk_entry_next (kdk_args_next _) ?_
  unfold Builtin.«next»
  refine wpAny_bind (m := someArgs "next" 1 2 _) (wpAny_of_eq (a := [Value.ref it]) (by first | rfl | kernel_rfl!) ?_)
  dsimp only
  refine wpAny_bind (wpAny_specialOf (name := Str.ofString "__next__") hit.typeIs slot_listiter_next.lookup ?_)
  refine wpAny_ite_split (fun hab => absurd hab (by decide)) (fun _ => ?_)
  refine wpAny_bind (wpAny_callSpecial?_slot (name := Str.ofString "__next__") hit.typeIs slot_listiter_next
    (wpAny_call_entry slot_listiter_next hit.typeIs entry_listiter_next ?_ (args_listiter_next _)))
  show wpAny _ _ (field (.ref it) 0 >>= _) _ _ s
  refine wpAny_bind (wpAny_field ho hd (x := .ref l) rfl ?_)
  show wpAny _ _ (if (Value.ref l == Value.none) = true then _ else _) _ _ s
  rw [if_neg (show ¬ ((Value.ref l == Value.none) = true) from Bool.false_ne_true)]
  show wpAny _ _ (field (.ref it) 1 >>= _) _ _ s
  refine wpAny_bind (wpAny_field ho hd (x := .int i 0) rfl ?_)
  show wpAny _ _ (seqItems? (.ref l) >>= _) _ _ s
  refine wpAny_bind (wpAny_seqItems hol hdl ?_)
  simp only [Int.toNat_natCast, hx]
  refine wpAny_bind (wpAny_setField ho hd (by simp) (wpAny_pure ⟨x, rfl, wpAny_pure ⟨_, rfl, ?_⟩⟩))
  refine h _ _ (F.change (Heap.SameBut.update ..) hm.2.1 hm.2.2) (hg _ ▸ (show News h₀ L s.heap (pre ++ (it, io) :: post) from hl' ▸ N).setIn a b (Heap.SameBut.update ..) (Heap.get?_update_self _ ho (Obj.isFreed_of_fields (Obj.data_mapFields hd _)))) ⟨(Obj.cls_mapFields ..).trans hc, by rw [Obj.data_mapFields hd]; simp [rawInt]⟩
theorem li_end (hh : A.handled = none) (F : Fr h₀ L s.heap m) (N : News h₀ L s.heap news) (U : UpdF it io news g) (hi : LiIter io l i) (hl : s.heap.IsList l items) (hx : items[i]? = none)
    (h : ∀ h₁ o' h' e, Fr h₀ L h₁ m → News h₀ L h₁ (g o') → Heap.NewExc h₁ h' e "StopIteration" → E (.ref e) { s with heap := h' }) :
    wpAny (model prog w) A (call (.builtin "next") [.ref it]) Q E s := by
  obtain ⟨pre, post, hl', hg, a, b⟩ := U.split
  have hmem : (it, io) ∈ news := by rw [hl']; exact List.mem_append_right _ (.head _)
  have hm := N (it, io) hmem
  have hit : s.heap.IsListIter it l i := ⟨io, hm.1, hi.1, hi.2⟩
  obtain ⟨o, ho, hc, hd⟩ := id hit
  obtain ⟨ol, hol, _, nl, hdl⟩ := hl
  refine call_function_entry (by decide +kernel) (by decide +kernel) kdk_entry_next (kdk_args_next _) ?_
  unfold Builtin.«next»
  refine wpAny_bind (m := someArgs "next" 1 2 _) (wpAny_of_eq (a := [Value.ref it]) (by first | rfl | kernel_rfl!) ?_)
  dsimp only
  refine wpAny_bind (wpAny_specialOf (name := Str.ofString "__next__") hit.typeIs slot_listiter_next.lookup ?_)
  refine wpAny_ite_split (fun hab => absurd hab (by decide)) (fun _ => ?_)
  refine wpAny_bind (wpAny_callSpecial?_slot (name := Str.ofString "__next__") hit.typeIs slot_listiter_next
    (wpAny_call_entry slot_listiter_next hit.typeIs entry_listiter_next ?_ (args_listiter_next _)))
  show wpAny _ _ (field (.ref it) 0 >>= _) _ _ s
  refine wpAny_bind (wpAny_field ho hd (x := .ref l) rfl ?_)
  show wpAny _ _ (if (Value.ref l == Value.none) = true then _ else _) _ _ s
  rw [if_neg (show ¬ ((Value.ref l == Value.none) = true) from Bool.false_ne_true)]
  show wpAny _ _ (field (.ref it) 1 >>= _) _ _ s
  refine wpAny_bind (wpAny_field ho hd (x := .int i 0) rfl ?_)
  show wpAny _ _ (seqItems? (.ref l) >>= _) _ _ s
  refine wpAny_bind (wpAny_seqItems hol hdl ?_)
  simp only [Int.toNat_natCast, hx]
  refine wpAny_bind (wpAny_rule (wpAny_bind (wpAny_setField ho hd (by simp) ?_)))
  show wpAny _ _ (newExc (.type "StopIteration") [] >>= _) _ _ _
  refine wpAny_bind ?_
  simp only [newExc, newTuple]
  refine wpAny_bind (wpAny_newObj_type ?_ (by size_fits))
  refine wpAny_bind (m := firstArgMember _ _) (wpAny_of_eq (a := Value.none) (by first | rfl | (simp only [firstArgMember]; rfl)) ?_)
  refine wpAny_newObj_type ?_ (by size_fits)
  simp only [raiseNew]
  refine wpAny_bind (wpAny_handled ?_)
  first | rw [show A.in1.handled = none from hh] | rw [show A.in1.in1.handled = none from hh] | rw [hh]
  refine wpAny_bind (wpAny_pure (wpAny_throw ?_))
  refine h _ _ _ _ (F.change (Heap.SameBut.update ..) hm.2.1 hm.2.2) (hg _ ▸ (show News h₀ L s.heap (pre ++ (it, io) :: post) from hl' ▸ N).setIn a b (Heap.SameBut.update ..) (Heap.get?_update_self _ ho (Obj.isFreed_of_fields (Obj.data_mapFields hd _)))) ⟨fun b o hb => Heap.get?_push_of_some _ (Heap.get?_push_of_some _ hb), Heap.get?_none_of_le (by simp), _, _, Heap.get?_push_size _ rfl, rfl, rfl⟩
end
end Mine
end

section
theorem Mine.fresh_T_sign : True := by
  w_top off
  trivial
namespace Mine
section
variable {prog : Program} {w : World} {A : Around} {E : Value → Shared → Prop} {s : Shared} {h₀ : Heap} {L : Addr} {m : Str → Option Value} {env : Env}
/-- a comprehension's source that is a text -/
def SignSrc (prog : Program) (w : World) (A : Around) (h₀ : Heap) (L : Addr) (m : Str → Option Value) (env : Env) (elt : Expr) (x : Str) (scope : Scope) (cl : List (Str × Addr)) (Fin : Shared → List Value → List (Addr × Obj) → Prop) (xv : Value) (s₁ : Shared) : Prop :=
  ∃ tx t news, xv = .str tx t ∧ A.handled = none ∧ Fr h₀ L s₁.heap m ∧ News h₀ L s₁.heap news ∧ tx.cps.size ≤ sizeLine ∧
    ∀ s₂ : Shared, (∃ h, s₂ = { s₁ with heap := h }) → LCg.CompRest prog w A h₀ L m env elt x scope cl s₂ (fun _ => True) (SignAt tx) (Fin s₂) tx.cps.size 0 [] news
theorem SignSrc.intro {elt : Expr} {x : Str} {scope : Scope} {cl : List (Str × Addr)} {Fin : Shared → List Value → List (Addr × Obj) → Prop} {tx : Str} {t : Tok} {news : List (Addr × Obj)} {s₁ : Shared}
    (hh : A.handled = none) (F : Fr h₀ L s₁.heap m) (N : News h₀ L s₁.heap news) (hsz : tx.cps.size ≤ sizeLine)
    (h : ∀ g, LCg.CompRest prog w A h₀ L m env elt x scope cl { s₁ with heap := g } (fun _ => True) (SignAt tx) (Fin { s₁ with heap := g }) tx.cps.size 0 [] news) :
    SignSrc prog w A h₀ L m env elt x scope cl Fin (.str tx t) s₁ := ⟨tx, t, news, rfl, hh, F, N, hsz, fun _ ⟨g, e⟩ => e ▸ h g⟩
theorem sign_st {I : Addr} {ty : String} {x : Str} {t : Tok} : ∀ i (h h' : Heap) (o : Obj) (nw : List (Addr × Obj)), h.IsStrIter I ty x t i → h.get? I = some o → h'.get? I = some o → (∀ b o, h₀.get? b = some o → h'.get? b = some o) → News h₀ L h' nw → True → h'.IsStrIter I ty x t i :=
  fun i h h' o nw st e e' _ _ _ => by obtain ⟨o', q, r⟩ := st; rw [e] at q; cases q; exact ⟨o, e', r⟩
theorem ListComp_S {elt iter : Expr} {x : Str} {px : Pos} {scope : Scope} {cl : List (Str × Addr)} {pos : Pos} {Q : Value → Shared → Prop} (_F₀ : Fr h₀ L s.heap m)
    (hclos : closureFor scope env = pure cl) (hcell : ∀ y ∈ scope.names, y.2 ≠ .cell) (hkind : scope.kind = .function)
    (hnames : ∀ y ∈ scope.names, y.2 = .local → scope.names.lookup y.1 = some .local) (hx : scope.names.lookup x = some .local)
    (h : wpAny (model prog w) A (eval iter env) (SignSrc prog w A h₀ L m env elt x scope cl (fun s₂ => LCg.FinE h₀ L m s₂ Q)) E s)
    (hs : ∀ x, foldedSetIterable iter env x = pure x := by intro _; rfl) :
    wpAny (model prog w) A (eval (.ListComp elt [⟨.Name x px, iter, [], 0⟩] scope pos) env) Q E s := by
  rw [eval_ListComp]
  refine wpAny_comprehension_free (use := none) rfl hs hclos hkind hnames (wpAny_mono h (fun xv s₁ h₁ => ?_) fun _ _ e => e)
  obtain ⟨tx, t, news, rfl, hh, F, N, hsz, R⟩ := h₁
  cases ha : tx.cps.all (· < 128)
  · refine wpAny_pyIter_wide ha ?_
    refine LCg.block_U (Walks.strWide hh s₁.heap.objs.size tx t) hsz (fun i h st => by obtain ⟨o, e, _⟩ := st; exact ⟨o, e⟩) sign_st hcell hkind hx ⟨_, Heap.get?_push_size _ rfl, rfl, rfl⟩ (fun b hb => ?_)
      (F.keeps fun _ _ e => Heap.get?_push_of_some _ e) (N.grown fun _ _ e => Heap.get?_push_of_some _ e) (Nat.ne_of_lt F.ns.lt) (next_is_new F) (fun p hp => Nat.ne_of_lt (Heap.lt_size (N p hp).1)) trivial (R _ ⟨_, rfl⟩) ?_
    · rw [List.mem_singleton.mp hb]
      show s₁.heap.objs.size < (s₁.heap.push _).objs.size
      rw [Heap.size_push]; exact Nat.lt_succ_self _
    · intro D C h tk m' ys news' F' N' o1 hn hC₀ hD₀ hCL hDL hCD offC fin
      refine ⟨m', hn, fun h'' hs'' => fin D h'' tk (F'.change hs'' hCL hC₀) (fun p hp => ?_) o1⟩
      refine ⟨hs''.extBut _ _ ?_ (N' p hp).1, (N' p hp).2⟩
      rcases List.mem_cons.mp hp with rfl | hp
      · exact Ne.symm hCD
      · exact offC p hp
  · refine wpAny_pyIter_ascii ha ?_
    refine LCg.block_U (Walks.strAscii hh s₁.heap.objs.size tx t) hsz (fun i h st => by obtain ⟨o, e, _⟩ := st; exact ⟨o, e⟩) sign_st hcell hkind hx ⟨_, Heap.get?_push_size _ rfl, rfl, rfl⟩ (fun b hb => ?_)
      (F.keeps fun _ _ e => Heap.get?_push_of_some _ e) (N.grown fun _ _ e => Heap.get?_push_of_some _ e) (Nat.ne_of_lt F.ns.lt) (next_is_new F) (fun p hp => Nat.ne_of_lt (Heap.lt_size (N p hp).1)) trivial (R _ ⟨_, rfl⟩) ?_
    · rw [List.mem_singleton.mp hb]
      show s₁.heap.objs.size < (s₁.heap.push _).objs.size
      rw [Heap.size_push]; exact Nat.lt_succ_self _
    · intro D C h tk m' ys news' F' N' o1 hn hC₀ hD₀ hCL hDL hCD offC fin
      refine ⟨m', hn, fun h'' hs'' => fin D h'' tk (F'.change hs'' hCL hC₀) (fun p hp => ?_) o1⟩
      refine ⟨hs''.extBut _ _ ?_ (N' p hp).1, (N' p hp).2⟩
      rcases List.mem_cons.mp hp with rfl | hp
      · exact Ne.symm hCD
      · exact offC p hp
theorem snoc_ints {y : Int} {t : Tok} : ∀ {vs : List Value} {ys : List Int}, IntsAre vs ys → IntsAre (vs ++ [.int y t]) (ys ++ [y])
  | _, _, .nil => .cons y t .nil
  | _, _, .cons z u r => .cons z u (snoc_ints r)
/-- one int a sign -/
theorem sign_rest {elt : Expr} {x : Str} {scope : Scope} {cl : List (Str × Addr)} {Fin : List Value → List (Addr × Obj) → Prop} {tx : Str} {news : List (Addr × Obj)} (g : Nat → Int)
    (turn : ∀ c t I oI C oC D m₂ ys h tk (E' : Value → Shared → Prop), c ∈ tx.cps.toList → LCg.NsObj oC m₂ → m₂ x = some (.str ⟨#[c]⟩ t) → Fr h₀ L h m → News h₀ L h ((I, oI) :: (C, oC) :: (D, LCg.lst ys) :: news) → LCg.Off3 I C D news → ((@Ne Nat I C) ∧ (@Ne Nat I D) ∧ (@Ne Nat C D)) →
      wpAny (model prog w) A (eval elt (compEnvC scope cl C env)) (LCg.CompEnd h₀ L m { s with heap := h, toks := tk } I oI C oC D (LCg.lst ys) (fun _ => True) (fun y news' => news' = news ∧ ∃ t, y = .int (g c) t)) E' { s with heap := h, toks := tk })
    (fin : ∀ ys, IntsAre ys (tx.cps.toList.map g) → Fin ys news) : LCg.CompRest prog w A h₀ L m env elt x scope cl s (fun _ => True) (SignAt tx) Fin tx.cps.size 0 [] news := by
  have key : ∀ (j i : Nat) (ys : List Value), i + j = tx.cps.size → IntsAre ys ((tx.cps.toList.take i).map g) → LCg.CompRest prog w A h₀ L m env elt x scope cl s (fun _ => True) (SignAt tx) Fin j i ys news := by
    intro j
    induction j with
    | zero =>
      intro i ys hi hy
      have e : i = tx.cps.toList.length := by simpa using hi
      subst e
      rw [List.take_length] at hy
      exact LCg.CompRest.zero (fin ys hy)
    | succ j ih =>
      intro i ys hi hy
      refine LCg.CompRest.succ ?_
      intro v I oI C oC D m₂ h tk E' hv hC hx F N off ne
      obtain ⟨c, t, hc, rfl⟩ := hv
      have hc' : tx.cps.toList[i]? = some c := by simpa using hc
      refine wpAny_mono (turn c t I oI C oC D m₂ ys h tk E' (List.mem_of_getElem? hc') hC hx F N off ne) (fun y s₂ hq => ?_) fun _ _ e => e
      obtain ⟨h', tk', nw, e, F', N', off', hS, hn, t', hy'⟩ := hq
      rw [hn] at N' off'
      refine ⟨h', tk', news, e, F', N', off', hS, ?_⟩
      rw [hy']
      refine ih (i + 1) _ (by omega) ?_
      rw [List.take_add_one, hc']
      simpa using snoc_ints hy
  exact key tx.cps.size 0 [] (by omega) (by simp only [List.take_zero, List.map_nil]; exact .nil)
end
end Mine
end

section
theorem Mine.fresh_T_read : True := by
  w_top off
  trivial
namespace Mine
theorem stop_exc : isSubtype (.type "StopIteration") (.type "BaseException") = pure true := owsi_raise.isExc
theorem stop_nt : isSubtype (.type ((Manifest.find? "StopIteration").elim "type" fun x => x.metatype)) (.type "tuple") = pure false := by
  rw [show ((Manifest.find? "StopIteration").elim "type" fun x => x.metatype) = "type" from by kernel_rfl, isSubtype_type]; kernel_rfl
/-- what is spelled, and the number that it tells -/
def tokTab : List (List Nat × Int) := [([38], 38), ([97, 109, 112, 59], 8838203), ([108, 116, 59], 183611), ([103, 116, 59], 163131), ([113, 117, 111, 116, 59], 836173115), ([60], 60), ([62], 62), ([34], 34), ([48], 48), ([49], 49)]
inductive ReadRel (ts : List (List Nat × Int)) : List Value → Prop where
  | mk {x : Str} {t1 : Tok} : x.cps.toList = ts.flatMap (·.1) → (∀ t ∈ ts, t ∈ tokTab) → ts.length ≤ 14 → ReadRel ts [.str x t1]
def ReadOut (ts : List (List Nat × Int)) (tl : List (Addr × Obj)) (r : Value) : Prop := ∃ D us c, tl = [(D, listOf (List.toArray us) c)] ∧ r = .ref D ∧ IntsAre us (ts.map (·.2))
/-- an end of a call that may have caught: the frames below may have new slots -/
def SEnd (hp : Heap) (fs : List Addr) (P : List (Addr × Obj) → Value → Prop) (v : Value) (s' : Shared) : Prop :=
  ∃ g' L' m' news' tl, KtsTurn fs hp g' ∧ Fr g' L' s'.heap m' ∧ News g' L' s'.heap news' ∧ (∀ p ∈ tl, p ∈ news') ∧ P tl v
section
variable {w : World} {mean : ExcName → Option Value} {mg mb : Str → Option Value} {f : Addr}
variable {dp un : Nat} {gd : Option (List Code)} {cn : Str} {cs : Scope} {a : Addr} {ccd : Value} {A₀ : Around} {base h₀ : Heap} {L : Addr} {m : Str → Option Value} {news : List (Addr × Obj)} {hp : Heap} {gs : Array GenState} {dr : Drawn} {tk : Nat} {os : OsState} {vs : List Value} {prog : Program}
    {Q E : Value → Shared → Prop} {K : Frag} {p : Program} {loose : List Str} {name qual : Str} {params : Arguments} {body : List Stmt} {scope : Scope} {dV kV doc pm cdv ct oc : Value} {an od : Option Addr} {osl : Array (Option Value)} {binds : List (Str × Value)} {P : List (Addr × Obj) → Value → Prop}
theorem tell_inS (B : Below A₀ base [] h₀) (F : Fr h₀ L hp m) (X₀ : K.In h₀) (N : News h₀ L hp news) (T : Top p loose mean mg mb h₀) (hkc : cs.kind = .function)
    (ho : K.lookup f = some ⟨oc, od, .func (fnOf name qual params body scope dV kV doc pm an cdv ct), osl⟩) (hcd : codeIn K cdv qual = true) (hroom : dp < recursionLimit)
    (hbind : BindsTo ⟨hp, gs, dr, tk, os⟩ (fnOf name qual params body scope dV kV doc pm an cdv ct) ⟨vs, []⟩ binds) (hloc : ∀ y ∈ binds, scope.names.lookup y.1 = some .local)
    (h : ∀ L' h₁ tk', Fr hp L' h₁ (fun y => binds.reverse.lookup y) → News hp L' h₁ [] → Below (ktrTop dp un gd cn cs L a ccd [] []) base [envX cn cs L a ccd []] hp → K.In hp → Top p loose mean mg mb hp → KtsDicts ([envX cn cs L a ccd []].filterMap (·.frame)) hp →
      wpAny (model prog w) ((ktrTop dp un gd cn cs L a ccd [] []).deeper (envOf qual scope L' f cdv)) (execs body (envOf qual scope L' f cdv))
        (fun fl s' => s'.gens = gs ∧ s'.drawn = dr ∧ s'.os = os ∧ SEnd hp ([envX cn cs L a ccd []].filterMap (·.frame)) P (match fl with | .ret v => v | _ => .none) s')
        (fun e s' => wpAny (model prog w) ((ktrTop dp un gd cn cs L a ccd [] []).deeper (envOf qual scope L' f cdv)) (leaving (envOf qual scope L' f cdv) e) (fun _ s'' => E e s'') (fun e' s'' => E e' s'') s')
        ⟨h₁, gs, dr, tk', os⟩)
    (ret : ∀ r tl h' tk', P tl r → Fr h₀ L h' m → News h₀ L h' (tl ++ news) → (∀ p ∈ tl, Apart p.1 news) → Q r ⟨h', gs, dr, tk', os⟩)
    (hcell : ∀ x ∈ scope.names, x.2 ≠ .cell) (hco : scope.isCoroutine = false) (hgen : scope.isGenerator = false) (hk : scope.kind = .function) :
    wpAny (model prog w) (ktrTop dp un gd cn cs L a ccd [] []) (call (.ref f) vs) Q E ⟨hp, gs, dr, tk, os⟩ := by
  refine wpAny_call (codeAny_call_def (fd := fnOf name qual params body scope dV kV doc pm an cdv ct) (body := body) (binds := binds) hroom ((X₀.keeps F.keep) _ _ ho) rfl (T.nolimit.keeps F.keep) (codeRec_of (X₀.keeps F.keep) hcd) rfl hbind hcell hloc (fun h₁ hns hk₁ => ?_) hco hgen hk)
  obtain ⟨oL, es, ep, hLg, hLd, hLk, hLf⟩ := id F.ns
  refine wpAny_mono (h hp.objs.size h₁ _ ⟨hns, hk₁, Nat.le_refl _⟩ News.nil ⟨rfl, (pushX (env := envX cn cs L a ccd []) B F rfl hkc).stays, (pushX (env := envX cn cs L a ccd []) B F rfl hkc).frames⟩ (X₀.keeps F.keep) (T.keeps F.keep) (fun b hb => by
      have : b = L := by simpa [envX] using hb
      subst this
      exact ⟨oL, es, ep, hLg, hLd⟩)) (fun fl s' hl => ?_) fun _ _ y => y
  obtain ⟨e1, e2, e3, g', L', m', news', tl, T', F', N', hs, hP⟩ := hl
  obtain ⟨h', gs', dr', tk', os'⟩ := s'
  cases e1; cases e2; cases e3
  have nL₀ : h₀.get? L = none := kts_self F
  obtain ⟨sl, hsl⟩ := T'.up hLg
  have old : ∀ b o, b ≠ L → hp.get? b = some o → h'.get? b = some o := fun b o hb e => F'.keep b o (T'.other b o e fun q => hb (by simpa [envX] using q))
  have F₁ : Fr h₀ L h' m := ⟨⟨_, es, ep, F'.keep _ _ hsl, hLd, hLk, hLf⟩, fun b o e => old b o (fun q => by rw [q, nL₀] at e; cases e) (F.keep b o e), F.above⟩
  have nw : ∀ p ∈ tl, h'.get? p.1 = some p.2 ∧ hp.get? p.1 = none := fun p q => ⟨(N' p (hs p q)).1, by
    cases z : hp.get? p.1 with
    | none => rfl
    | some o =>
      obtain ⟨sl', hs'⟩ := T'.up z
      have := (N' p (hs p q)).2.2
      rw [hs'] at this
      cases this⟩
  refine ret _ tl h' _ hP F₁ (fun p q => ?_) (news_apart N nw)
  rcases List.mem_append.mp q with q | q
  · refine ⟨(nw p q).1, fun e => ?_, ?_⟩
    · have := (nw p q).2
      rw [e, hLg] at this
      cases this
    · cases z : h₀.get? p.1 with
      | none => rfl
      | some o =>
        have := (nw p q).2
        rw [F.keep _ _ z] at this
        cases this
  · exact ⟨old _ _ (N p q).2.1 (N p q).1, (N p q).2⟩
end
def ReadTell (w : World) (mean : ExcName → Option Value) (mg mb : Str → Option Value) (ts : List (List Nat × Int)) : Prop :=
  ∀ (dp un : Nat) (gd : Option (List Code)) (cn : Str) (cs : Scope) (a : Addr) (ccd : Value) (A₀ : Around) (base h₀ : Heap) (L : Addr) (m : Str → Option Value) (news : List (Addr × Obj)) (hp : Heap) (gs : Array GenState) (dr : Drawn) (tk : Nat) (os : OsState) (vs : List Value) (Q E : Value → Shared → Prop),
    Below A₀ base [] h₀ → Fr h₀ L hp m → (hd.heap_39 w.params).In h₀ → News h₀ L hp news → Top hd.view_39 (looseW hd.view_39 [Str.ofString "COMPILER_FLAG_NAMES"]) mean mg mb h₀ →
    (hd.heap_39 w.params).In base → Top hd.view_39 (looseW hd.view_39 [Str.ofString "COMPILER_FLAG_NAMES"]) mean mg mb base → cs.kind = .function → ReadRel ts vs → dp + 4 < recursionLimit → un + 8 * 4 + 1000 < cLine →
    (∀ r tl h' tk', ReadOut ts tl r → Fr h₀ L h' m → News h₀ L h' (tl ++ news) → (∀ p ∈ tl, Apart p.1 news) → Q r ⟨h', gs, dr, tk', os⟩) →
    wpAny (model PySem.Challenge.rw_tr0038_01.row.prog w) (ktrTop dp un gd cn cs L a ccd [] []) (call (.ref 104) vs) Q E ⟨hp, gs, dr, tk, os⟩
local macro_rules | `(tactic| walk_at "eval ListComp") => `(tactic| (k_here; refine at_stopK 1 ?_))
local macro_rules | `(tactic| walk_at "SignSrc") => `(tactic| (k_here; refine at_stopK 2 ?_))
local macro_rules | `(tactic| walk_at "CompEnd") => `(tactic| (k_here; refine at_stopK 3 ?_))
local macro_rules | `(tactic| walk_at "call builtin:iter") => `(tactic| (k_here; refine at_stopK 4 ?_))
def Stop (P : Prop) : Prop := P
theorem at_stop {P : Prop} (h : Stop P) : P := h
local macro_rules | `(tactic| walk_at "exec While") => `(tactic| (k_here; k_dflt (refine at_stop ?_)))
local macro_rules | `(tactic| k_room) => `(tactic| ktr_room)
local macro_rules | `(tactic| kts_caughtN) => `(tactic| (k_dflt (refine' caught_SN0 (T' := "StopIteration") (by assumption) (by assumption) (by assumption) (by assumption) (by assumption) (by assumption) (by assumption) (by first | assumption | exact KtsTurn.refl) (by k_is) PyProof.Rows.Boot.«StopIteration» (by decide) stop_exc stop_nt (by kts_sub) ?_; k_whole); intro h' g' T' F' N' K' X' P' D'; (try k_lift K'); (try k_sweep)))
local macro_rules | `(tactic| walk_at "inplaceOp LShift int int") => `(tactic| (k_here; refine at_stopK 5 ?_))
local macro_rules | `(tactic| walk_at "call builtin:next") => `(tactic| (k_here; refine at_stopK 6 ?_))
theorem tok_len : ∀ t ∈ tokTab, t.1.length ≤ 5 := by decide
theorem toks_len : ∀ ts : List (List Nat × Int), (∀ t ∈ ts, t ∈ tokTab) → (ts.flatMap (·.1)).length ≤ 5 * ts.length
  | [], _ => Nat.le_refl _
  | t :: r, h => by
    rw [List.flatMap_cons, List.length_append, List.length_cons]
    have h1 := tok_len t (h t (.head _))
    have h2 := toks_len r fun y hy => h y (.tail _ hy)
    omega
theorem text_small {ts : List (List Nat × Int)} {y : Str} (h : y.cps.toList = ts.flatMap (·.1)) (ha : ∀ t ∈ ts, t ∈ tokTab) (hl : ts.length ≤ 14) : y.cps.size ≤ sizeLine := by
  have h1 := toks_len ts ha
  rw [← h, Array.length_toList] at h1
  rw [PySem.sizeLine_eq]
  omega
/-- how many signs are read -/
def posAt (ts : List (List Nat × Int)) (i : Nat) : Nat := ((ts.take i).flatMap (·.1)).length
theorem pos_next {ts : List (List Nat × Int)} {i : Nat} {t : List Nat × Int} (h : ts[i]? = some t) : posAt ts (i + 1) = posAt ts i + t.1.length := by
  unfold posAt
  rw [List.take_add_one, h, List.flatMap_append, List.length_append]
  simp
theorem code_at {ts : List (List Nat × Int)} {i j : Nat} {t : List Nat × Int} (h : ts[i]? = some t) (hj : j < t.1.length) : (ts.flatMap (·.1))[posAt ts i + j]? = t.1[j]? := by
  have e : ts = ts.take i ++ t :: ts.drop (i + 1) := by
    obtain ⟨hi, e⟩ := List.getElem?_eq_some_iff.mp h
    rw [← e, List.getElem_cons_drop, List.take_append_drop]
  unfold posAt
  conv => lhs; rw [e]
  rw [List.flatMap_append, List.flatMap_cons]
  have e2 : ((ts.take i ++ t :: ts.drop (i + 1)).take i) = ts.take i := by rw [← e]
  rw [e2, List.getElem?_append_right (Nat.le_add_right _ _), Nat.add_sub_cancel_left, List.getElem?_append_left hj]
theorem val_at {ts : List (List Nat × Int)} {ys : List Value} {i j k : Nat} {c : Nat} {t : List Nat × Int} {x : Str} (hy : IntsAre ys (x.cps.toList.map fun c : Nat => (c : Int))) (hx : x.cps.toList = ts.flatMap (·.1)) (h : ts[i]? = some t) (hj : t.1[j]? = some c) (hk : k = posAt ts i + j) :
    ∃ u, ys.toArray[k]? = some (.int ((c : Nat) : Int) u) := by
  have hj' : j < t.1.length := (List.getElem?_eq_some_iff.mp hj).1
  have h1 := code_at h hj'
  rw [hj, ← hx, ← hk] at h1
  have h2 : (x.cps.toList.map fun c : Nat => (c : Int))[k]? = some ((c : Nat) : Int) := by rw [List.getElem?_map, h1]; rfl
  obtain ⟨u, h3⟩ := IntsAre.get hy _ _ h2
  exact ⟨u, by simpa using h3⟩
theorem val_end {ts : List (List Nat × Int)} {ys : List Value} {x : Str} (hy : IntsAre ys (x.cps.toList.map fun c : Nat => (c : Int))) (hx : x.cps.toList = ts.flatMap (·.1)) : ys.toArray[posAt ts ts.length]? = none := by
  have h1 : posAt ts ts.length = ys.length := by
    unfold posAt
    rw [hy.length, List.length_map, hx, List.take_length]
  rw [h1]
  simp
def RdJ (ts : List (List Nat × Int)) (M : Str → Option Value) (l' D' D0 : Addr) (ys : List Value) (n : Nat) (m₁ : Str → Option Value) (nx : List (Addr × Obj)) : Prop :=
  m₁ = M ∧ ∃ us c oI i, nx = [(l', listOf (List.toArray us) c), (D', oI), (D0, LCg.lst ys)] ∧ IntsAre us ((ts.take i).map (·.2)) ∧ LiIter oI D0 (posAt ts i) ∧ n = ts.length - i ∧ i ≤ ts.length
theorem rd_next {ts : List (List Nat × Int)} {M : Str → Option Value} {l' D' D0 : Addr} {ys us : List Value} {i n c k : Nat} {o : Obj} {v V : Int} {u : Tok} {hp h : Heap} {L' : Addr} {tok : List Nat} {own : List (Addr × Obj)}
    (N : News hp L' h ((l', listOf (us.toArray.push (.int V u)) c) :: (D', o) :: (D0, LCg.lst ys) :: own)) (hu : IntsAre us ((ts.take i).map (·.2))) (ht : ts[i]? = some (tok, v)) (hV : V = v) (hi : LiIter o D0 k) (hk : k = posAt ts i + tok.length) (hn : n = ts.length - i) :
    ∃ nx n', News hp L' h nx ∧ n' < n ∧ RdJ ts M l' D' D0 ys n' M nx := by
  have hlt : i < ts.length := (List.getElem?_eq_some_iff.mp ht).1
  refine ⟨[(l', listOf (List.toArray (us ++ [Value.int V u])) c), (D', o), (D0, LCg.lst ys)], ts.length - (i + 1), fun p hp => ?_, by omega, rfl, us ++ [Value.int V u], c, o, i + 1, rfl, ?_, ?_, rfl, hlt⟩
  · rw [← List.push_toArray] at hp
    rcases List.mem_cons.mp hp with rfl | hp
    · exact N _ (.head _)
    · rcases List.mem_cons.mp hp with rfl | hp
      · exact N _ (.tail _ (.head _))
      · rw [List.mem_singleton.mp hp]
        exact N _ (.tail _ (.tail _ (.head _)))
  · rw [List.take_add_one, ht]
    subst hV
    simpa using snoc_ints (t := u) hu
  · rw [pos_next ht, ← hk]
    exact hi
def valAt (bs : List Nat) : Nat → Int
  | 0 => Builtin.bitAnd ((bs.getD 0 0 : Nat) : Int) 63
  | j + 1 => Builtin.bitOr (valAt bs j * 2 ^ Int.toNat 6) (Builtin.bitAnd ((bs.getD (j + 1) 0 : Nat) : Int) 63)
def byteOk (bs : List Nat) (j : Nat) : Bool := (Builtin.bitAnd ((bs.getD j 0 : Nat) : Int) 64 != 0) == Nat.blt (j + 1) bs.length && decide ((valAt bs j).natAbs < 2 ^ 60)
def tokOk (t : List Nat × Int) : Bool := t.1 != [] && t.1.length.ble 5 && (List.range t.1.length).all (byteOk t.1) && (valAt t.1 (t.1.length - 1) == t.2)
theorem tab_ok : ∀ t ∈ tokTab, tokOk t = true := by decide +kernel
theorem tok_facts {t : List Nat × Int} (h : t ∈ tokTab) : 0 < t.1.length ∧ t.1.length ≤ 5 ∧ (∀ j, j < t.1.length → ((Builtin.bitAnd ((t.1.getD j 0 : Nat) : Int) 64 ≠ 0 ↔ j + 1 < t.1.length) ∧ (valAt t.1 j).natAbs < 2 ^ 60)) ∧ valAt t.1 (t.1.length - 1) = t.2 := by
  have h1 := tab_ok t h
  unfold tokOk at h1
  simp only [Bool.and_eq_true, List.all_eq_true, List.mem_range, bne_iff_ne, ne_eq, beq_iff_eq, Nat.ble_eq] at h1
  obtain ⟨⟨⟨h2, h3⟩, h4⟩, h5⟩ := h1
  refine ⟨List.length_pos_iff.mpr h2, h3, fun j hj => ?_, h5⟩
  have h6 := h4 j hj
  unfold byteOk at h6
  simp only [Bool.and_eq_true, beq_iff_eq, decide_eq_true_eq] at h6
  refine ⟨?_, h6.2⟩
  have h7 := h6.1
  constructor
  · intro q
    have e : (Builtin.bitAnd ((t.1.getD j 0 : Nat) : Int) 64 != 0) = true := bne_iff_ne.mpr q
    rw [e] at h7
    exact Nat.blt_eq.mp h7.symm
  · intro q e
    have e2 : (Builtin.bitAnd ((t.1.getD j 0 : Nat) : Int) 64 != 0) = false := by rw [e]; rfl
    rw [e2, Nat.blt_eq.mpr q] at h7
    cases h7
theorem get_D {bs : List Nat} {j : Nat} (h : j < bs.length) : bs[j]? = some (bs.getD j 0) := by
  rw [List.getD_eq_getElem?_getD, List.getElem?_eq_getElem h]
  rfl
/-- the inner loop: one more octet of the number -/
def PvJ (ts : List (List Nat × Int)) (i : Nat) (bs : List Nat) (l' D' D0 : Addr) (ol : Obj) (ys : List Value) (n : Nat) (m : Str → Option Value) (nx : List (Addr × Obj)) : Prop :=
  ∃ j oI u v, nx = [(l', ol), (D', oI), (D0, LCg.lst ys)] ∧ LiIter oI D0 (posAt ts i + j + 1) ∧ n = bs.length - (j + 1) ∧ j < bs.length ∧ m (Str.ofString "val") = some (.int (valAt bs j) u) ∧ m (Str.ofString "b") = some (.int ((bs.getD j 0 : Nat) : Int) v) ∧ m (Str.ofString "iterator") = some (.ref D')
theorem pv_map {m : Str → Option Value} {a b c : Value} (h0 : m (Str.ofString "val") = some a) (h1 : m (Str.ofString "b") = some b) (h2 : m (Str.ofString "iterator") = some c) : m = fun y => if y = Str.ofString "val" then some a else if y = Str.ofString "b" then some b else if y = Str.ofString "iterator" then some c else m y := by
  funext y
  by_cases q0 : y = Str.ofString "val"
  · rw [if_pos q0, q0, h0]
  rw [if_neg q0]
  by_cases q1 : y = Str.ofString "b"
  · rw [if_pos q1, q1, h1]
  rw [if_neg q1]
  by_cases q2 : y = Str.ofString "iterator"
  · rw [if_pos q2, q2, h2]
  rw [if_neg q2]
set_option maxHeartbeats 8000000 in
theorem read_told (w : World) (mean : ExcName → Option Value) (mg mb : Str → Option Value) (ts : List (List Nat × Int)) : ReadTell w mean mg mb ts := by
  unfold ReadTell
  k_fill
  intro dp un gd cn cs a ccd A₀ base h₀ L m news hp gs dr tk os vs Q E B F X N T XB TB hk hR hd hu hret
  cases hR with
  | mk hx ha hl =>
  k_dflt (refine' tell_inS (P := ReadOut ts) ?k1 ?k2 ?k3 ?kN ?k5 ?kK ?k6 ?k7 ?k8 ?k9 ?kB ?_ ?kR ?c5 ?c2 ?c3 ?c4; (case k1 => assumption); (case k2 => assumption); (case k3 => assumption); (case kN => assumption); (case k5 => assumption); (case kK => assumption); (case k6 => k_is); (case k7 => k_is); (case k8 => omega); (case kR => exact hret); (case k9 => exact BindsTo.of_eq rfl); (case kB => exact locs rfl); (case c5 => decide); (case c2 => exact rfl); (case c3 => exact rfl); (case c4 => exact rfl); k_whole; clear B F X T N hk hret; intro L' h' tk' F' N' B' X' T' D'; (try dsimp only); (try k_fold))
  have hsz := text_small hx ha hl
  repeat' (first | ((with_reducible show StopK 1 _); unfold StopK; first | (k_dflt (refine ListComp_S (by k_asm) (by with_unfolding_all rfl) (by decide) (by rfl) (by decide) (by rfl) ?_))) | ((with_reducible show StopK 2 _); unfold StopK; first | (k_dflt (refine SignSrc.intro (by rfl) (by k_asm) (by k_asm) (by with_unfolding_all assumption) ?_; intro g'; refine sign_rest (fun c => (c : Int)) ?_ ?_))) | ((with_reducible show StopK 3 _); unfold StopK; first | (k_dflt (exact LCg.CompEnd.intro (by k_asm) (by k_asm) _ (fun p hp => hp) (by with_unfolding_all assumption) trivial ⟨rfl, _, rfl⟩))) | ((with_reducible show StopK 4 _); unfold StopK; first | ((with_reducible show wpAny _ _ (call (Value.builtin "iter") [Value.ref _]) _ _ _); k_dflt (refine' li_iter ?F ?N ?l ?_; (case F => k_asm); (case N => k_asm); (case l => is_list)); intro D' h' o' F' N' l1 hi'; (try k_lt l1))) | ((with_reducible show StopK 5 _); unfold StopK; first | (refine ilshift_int_small (by decide) (by decide) (Nat.lt_trans hbj.2 (by decide)) ?_)) | ((with_reducible show StopK 6 _); unfold StopK; first | ((with_reducible show wpAny _ _ (call (Value.builtin "next") [Value.ref _]) _ _ _); (rename LiIter _ _ _ => hi9); k_dflt (first | (refine' li_next ?F ?N ?U hi9 ?l ?x ?_; (case F => k_asm); (case N => k_asm); (case U => k_updF); (case l => is_list); (case x => assumption); clear hi9; intro h' o' F' N' hi'; (try dsimp only at N'); (try k_sweep)) | (refine' li_end rfl ?F ?N ?U hi9 ?l ?x ?_; (case F => k_asm); (case N => k_asm); (case U => k_updF); (case l => is_list); (case x => assumption); clear hi9; intro h1' o' h' e' F' N' x'; (try dsimp only at N'); (try k_sweep))))) | (k_unfold; (try dsimp only)) | (k_end; wrow_close) | ((with_reducible show wpAny _ _ (execs _ _) _ _ _); (try dsimp only); (try k_fold); walk1) | walk1 | (dsimp only; walk1) | (leave1; walk_say "STEP leave1"; try dsimp only))
  (rename IntsAre _ _ => hy)
  (rename Fr hp _ _ _ => F9)
  (rename News hp _ _ _ => N9)
  (rename LiIter _ _ _ => hi9)
  unfold Stop
  k_dflt (refine While_inv2 (RdJ ts _ _ _ _ _) F9 N9 ⟨rfl, [], 0, _, 0, rfl, .nil, hi9, rfl, Nat.zero_le _⟩ ?_ ?_)
  · clear F9 N9 hi9
    rintro n m₁ nx h tk F₁ N₁ ⟨rfl, us, c, oI, i, rfl, hu, hi, hn, hil⟩
    rcases Nat.lt_or_ge i ts.length with hlt | hge
    · have hit : ts[i]? = some ts[i] := List.getElem?_eq_getElem hlt
      have hmem := ha _ (List.getElem_mem hlt)
      have hulen : us.length ≤ 14 := by rw [hu.length, List.length_map, List.length_take]; omega
      generalize ts[i] = tv at hit hmem
      obtain ⟨bs, v⟩ := tv
      obtain ⟨hb0, hb5, hbf, hbv⟩ := tok_facts hmem
      clear hmem
      (try dsimp only at hb0 hb5 hbf hbv)
      obtain ⟨u0, q0⟩ := val_at (j := 0) (k := posAt ts i) hy hx hit (get_D hb0) rfl
      (try dsimp only)
      (try k_fold)
      repeat' (first | ((with_reducible show StopK 1 _); unfold StopK; first | (k_dflt (refine ListComp_S (by k_asm) (by with_unfolding_all rfl) (by decide) (by rfl) (by decide) (by rfl) ?_))) | ((with_reducible show StopK 2 _); unfold StopK; first | (k_dflt (refine SignSrc.intro (by rfl) (by k_asm) (by k_asm) (by with_unfolding_all assumption) ?_; intro g'; refine sign_rest (fun c => (c : Int)) ?_ ?_))) | ((with_reducible show StopK 3 _); unfold StopK; first | (k_dflt (exact LCg.CompEnd.intro (by k_asm) (by k_asm) _ (fun p hp => hp) (by with_unfolding_all assumption) trivial ⟨rfl, _, rfl⟩))) | ((with_reducible show StopK 4 _); unfold StopK; first | ((with_reducible show wpAny _ _ (call (Value.builtin "iter") [Value.ref _]) _ _ _); k_dflt (refine' li_iter ?F ?N ?l ?_; (case F => k_asm); (case N => k_asm); (case l => is_list)); intro D' h' o' F' N' l1 hi'; (try k_lt l1))) | ((with_reducible show StopK 5 _); unfold StopK; first | (refine ilshift_int_small (by decide) (by decide) (Nat.lt_trans hbj.2 (by decide)) ?_)) | ((with_reducible show StopK 6 _); unfold StopK; first | ((with_reducible show wpAny _ _ (call (Value.builtin "next") [Value.ref _]) _ _ _); (rename LiIter _ _ _ => hi9); k_dflt (first | (refine' li_next ?F ?N ?U hi9 ?l ?x ?_; (case F => k_asm); (case N => k_asm); (case U => k_updF); (case l => is_list); (case x => assumption); clear hi9; intro h' o' F' N' hi'; (try dsimp only at N'); (try k_sweep)) | (refine' li_end rfl ?F ?N ?U hi9 ?l ?x ?_; (case F => k_asm); (case N => k_asm); (case U => k_updF); (case l => is_list); (case x => assumption); clear hi9; intro h1' o' h' e' F' N' x'; (try dsimp only at N'); (try k_sweep))))) | (k_unfold; (try dsimp only)) | (k_end; wrow_close) | ((with_reducible show wpAny _ _ (execs _ _) _ _ _); (try dsimp only); (try k_fold); walk1) | walk1 | (dsimp only; walk1) | (leave1; walk_say "STEP leave1"; try dsimp only))
      (rename Fr _ _ _ _ => F7)
      (rename News _ _ _ _ => N7)
      (rename LiIter _ _ _ => hi7)
      unfold Stop
      k_dflt (refine While_inv2 (PvJ ts i bs _ _ _ _ _) F7 N7 ⟨0, _, _, _, rfl, hi7, rfl, hb0, rfl, rfl, rfl⟩ ?_ ?_)
      · clear F7 N7 hi7
        rintro n2 m2 nx2 h2 tk2 F₂ N₂ ⟨j, oI2, u, v2, rfl, hi2, hn2, hj, e1, e2, e3⟩
        rw [pv_map e1 e2 e3] at F₂
        have hbj := hbf j hj
        rcases Nat.lt_or_ge (j + 1) bs.length with hlt2 | hge2
        · obtain ⟨u1, q1⟩ := val_at (j := j + 1) (k := posAt ts i + j + 1) hy hx hit (get_D hlt2) rfl
          have hne := hbj.1.mpr hlt2
          (try dsimp only)
          (try k_fold)
          repeat' (first | ((with_reducible show StopK 1 _); unfold StopK; first | (k_dflt (refine ListComp_S (by k_asm) (by with_unfolding_all rfl) (by decide) (by rfl) (by decide) (by rfl) ?_))) | ((with_reducible show StopK 2 _); unfold StopK; first | (k_dflt (refine SignSrc.intro (by rfl) (by k_asm) (by k_asm) (by with_unfolding_all assumption) ?_; intro g'; refine sign_rest (fun c => (c : Int)) ?_ ?_))) | ((with_reducible show StopK 3 _); unfold StopK; first | (k_dflt (exact LCg.CompEnd.intro (by k_asm) (by k_asm) _ (fun p hp => hp) (by with_unfolding_all assumption) trivial ⟨rfl, _, rfl⟩))) | ((with_reducible show StopK 4 _); unfold StopK; first | ((with_reducible show wpAny _ _ (call (Value.builtin "iter") [Value.ref _]) _ _ _); k_dflt (refine' li_iter ?F ?N ?l ?_; (case F => k_asm); (case N => k_asm); (case l => is_list)); intro D' h' o' F' N' l1 hi'; (try k_lt l1))) | ((with_reducible show StopK 5 _); unfold StopK; first | (refine ilshift_int_small (by decide) (by decide) (Nat.lt_trans hbj.2 (by decide)) ?_)) | ((with_reducible show StopK 6 _); unfold StopK; first | ((with_reducible show wpAny _ _ (call (Value.builtin "next") [Value.ref _]) _ _ _); (rename LiIter _ _ _ => hi9); k_dflt (first | (refine' li_next ?F ?N ?U hi9 ?l ?x ?_; (case F => k_asm); (case N => k_asm); (case U => k_updF); (case l => is_list); (case x => assumption); clear hi9; intro h' o' F' N' hi'; (try dsimp only at N'); (try k_sweep)) | (refine' li_end rfl ?F ?N ?U hi9 ?l ?x ?_; (case F => k_asm); (case N => k_asm); (case U => k_updF); (case l => is_list); (case x => assumption); clear hi9; intro h1' o' h' e' F' N' x'; (try dsimp only at N'); (try k_sweep))))) | (k_unfold; (try dsimp only)) | (k_end; wrow_close) | ((with_reducible show wpAny _ _ (execs _ _) _ _ _); (try dsimp only); (try k_fold); walk1) | walk1 | (dsimp only; walk1) | (leave1; walk_say "STEP leave1"; try dsimp only))
          · (rename Fr _ _ _ _ => kF)
            (rename News _ _ _ _ => kN)
            (rename LiIter _ _ _ => kL)
            exact ⟨_, _, _, _, bs.length - (j + 1 + 1), rfl, kF, kN, by omega, j + 1, _, _, _, rfl, kL, rfl, hlt2, by (repeat (first | with_reducible exact if_pos rfl | (refine (if_pos (by with_reducible rfl)).trans ?_; exact rfl) | refine look_no (by decide +kernel) ?_)), by (repeat (first | with_reducible exact if_pos rfl | (refine (if_pos (by with_reducible rfl)).trans ?_; exact rfl) | refine look_no (by decide +kernel) ?_)), by (repeat (first | with_reducible exact if_pos rfl | (refine (if_pos (by with_reducible rfl)).trans ?_; exact rfl) | refine look_no (by decide +kernel) ?_))⟩
          · (rename Builtin.bitAnd _ 64 = 0 => z9)
            exact absurd z9 hne
        · have heq : Builtin.bitAnd ((bs.getD j 0 : Nat) : Int) 64 = 0 := Classical.byContradiction fun q => absurd (hbj.1.mp q) (Nat.not_lt.mpr hge2)
          (try dsimp only)
          (try k_fold)
          repeat' (first | ((with_reducible show StopK 1 _); unfold StopK; first | (k_dflt (refine ListComp_S (by k_asm) (by with_unfolding_all rfl) (by decide) (by rfl) (by decide) (by rfl) ?_))) | ((with_reducible show StopK 2 _); unfold StopK; first | (k_dflt (refine SignSrc.intro (by rfl) (by k_asm) (by k_asm) (by with_unfolding_all assumption) ?_; intro g'; refine sign_rest (fun c => (c : Int)) ?_ ?_))) | ((with_reducible show StopK 3 _); unfold StopK; first | (k_dflt (exact LCg.CompEnd.intro (by k_asm) (by k_asm) _ (fun p hp => hp) (by with_unfolding_all assumption) trivial ⟨rfl, _, rfl⟩))) | ((with_reducible show StopK 4 _); unfold StopK; first | ((with_reducible show wpAny _ _ (call (Value.builtin "iter") [Value.ref _]) _ _ _); k_dflt (refine' li_iter ?F ?N ?l ?_; (case F => k_asm); (case N => k_asm); (case l => is_list)); intro D' h' o' F' N' l1 hi'; (try k_lt l1))) | ((with_reducible show StopK 5 _); unfold StopK; first | (refine ilshift_int_small (by decide) (by decide) (Nat.lt_trans hbj.2 (by decide)) ?_)) | ((with_reducible show StopK 6 _); unfold StopK; first | ((with_reducible show wpAny _ _ (call (Value.builtin "next") [Value.ref _]) _ _ _); (rename LiIter _ _ _ => hi9); k_dflt (first | (refine' li_next ?F ?N ?U hi9 ?l ?x ?_; (case F => k_asm); (case N => k_asm); (case U => k_updF); (case l => is_list); (case x => assumption); clear hi9; intro h' o' F' N' hi'; (try dsimp only at N'); (try k_sweep)) | (refine' li_end rfl ?F ?N ?U hi9 ?l ?x ?_; (case F => k_asm); (case N => k_asm); (case U => k_updF); (case l => is_list); (case x => assumption); clear hi9; intro h1' o' h' e' F' N' x'; (try dsimp only at N'); (try k_sweep))))) | (k_unfold; (try dsimp only)) | (k_end; wrow_close) | ((with_reducible show wpAny _ _ (execs _ _) _ _ _); (try dsimp only); (try k_fold); walk1) | walk1 | (dsimp only; walk1) | (leave1; walk_say "STEP leave1"; try dsimp only))
          · (rename Builtin.bitAnd _ 64 ≠ 0 => z9)
            exact absurd heq z9
          · (rename Fr hp _ _ _ => kF)
            (rename News hp _ _ _ => kN)
            (rename LiIter _ _ _ => kL)
            have hjl : bs.length = j + 1 := by omega
            obtain ⟨nx, n', N9, hl9, J9⟩ := rd_next kN hu hit (by rw [← hbv, hjl]; rfl) kL (by rw [hjl]; rfl) hn
            exact ⟨_, _, _, nx, n', rfl, kF, N9, hl9, J9⟩
      · walk1
    · have hie : i = ts.length := Nat.le_antisymm hil hge
      subst hie
      have q0 := val_end hy hx
      (try dsimp only)
      (try k_fold)
      repeat' (first | ((with_reducible show StopK 1 _); unfold StopK; first | (k_dflt (refine ListComp_S (by k_asm) (by with_unfolding_all rfl) (by decide) (by rfl) (by decide) (by rfl) ?_))) | ((with_reducible show StopK 2 _); unfold StopK; first | (k_dflt (refine SignSrc.intro (by rfl) (by k_asm) (by k_asm) (by with_unfolding_all assumption) ?_; intro g'; refine sign_rest (fun c => (c : Int)) ?_ ?_))) | ((with_reducible show StopK 3 _); unfold StopK; first | (k_dflt (exact LCg.CompEnd.intro (by k_asm) (by k_asm) _ (fun p hp => hp) (by with_unfolding_all assumption) trivial ⟨rfl, _, rfl⟩))) | ((with_reducible show StopK 4 _); unfold StopK; first | ((with_reducible show wpAny _ _ (call (Value.builtin "iter") [Value.ref _]) _ _ _); k_dflt (refine' li_iter ?F ?N ?l ?_; (case F => k_asm); (case N => k_asm); (case l => is_list)); intro D' h' o' F' N' l1 hi'; (try k_lt l1))) | ((with_reducible show StopK 5 _); unfold StopK; first | (refine ilshift_int_small (by decide) (by decide) (Nat.lt_trans hbj.2 (by decide)) ?_)) | ((with_reducible show StopK 6 _); unfold StopK; first | ((with_reducible show wpAny _ _ (call (Value.builtin "next") [Value.ref _]) _ _ _); (rename LiIter _ _ _ => hi9); k_dflt (first | (refine' li_next ?F ?N ?U hi9 ?l ?x ?_; (case F => k_asm); (case N => k_asm); (case U => k_updF); (case l => is_list); (case x => assumption); clear hi9; intro h' o' F' N' hi'; (try dsimp only at N'); (try k_sweep)) | (refine' li_end rfl ?F ?N ?U hi9 ?l ?x ?_; (case F => k_asm); (case N => k_asm); (case U => k_updF); (case l => is_list); (case x => assumption); clear hi9; intro h1' o' h' e' F' N' x'; (try dsimp only at N'); (try k_sweep))))) | (k_unfold; (try dsimp only)) | (k_end; wrow_close) | ((with_reducible show wpAny _ _ (execs _ _) _ _ _); (try dsimp only); (try k_fold); walk1) | walk1 | (dsimp only; walk1) | (leave1; walk_say "STEP leave1"; try dsimp only))
      (rename KtsTurn _ _ _ => kT)
      (rename Fr _ L' _ _ => kF)
      (rename News _ L' _ _ => kN)
      rw [List.take_length] at hu
      exact ⟨_, _, _, _, [_], kT, kF, kN, (fun p hp => by rw [List.mem_singleton.mp hp]; exact .head _), _, us, c, rfl, rfl, hu⟩
  · walk1
end Mine
end

section
theorem Mine.fresh_T_plain : True := by
  w_top off
  trivial
namespace Mine
theorem ints_cons {us : List Value} {k : Int} {ks : List Int} (h : IntsAre us (k :: ks)) : ∃ t vs, us = .int k t :: vs ∧ IntsAre vs ks := by
  cases h with
  | cons _ t r => exact ⟨t, _, rfl, r⟩
theorem ints_nil {us : List Value} (h : IntsAre us []) : us = [] := by
  cases h
  rfl
abbrev abc : Str := Str.ofString "&<>\"01"
theorem sign_all : ∀ j, j < 6 → ∃ c, c ∈ alph ∧ Txt.item abc ((j : Nat) : Int) = ⟨#[c]⟩ := by
  intro j hj
  have hc : j = 0 ∨ j = 1 ∨ j = 2 ∨ j = 3 ∨ j = 4 ∨ j = 5 := by omega
  rcases hc with rfl | rfl | rfl | rfl | rfl | rfl
  · exact ⟨38, by decide, by decide +kernel⟩
  · exact ⟨60, by decide, by decide +kernel⟩
  · exact ⟨62, by decide, by decide +kernel⟩
  · exact ⟨34, by decide, by decide +kernel⟩
  · exact ⟨48, by decide, by decide +kernel⟩
  · exact ⟨49, by decide, by decide +kernel⟩
theorem sign_code {k : Int} : ∃ c, c ∈ alph ∧ Txt.item abc (k.fmod 6) = ⟨#[c]⟩ := by
  have h1 : 0 ≤ k.fmod 6 ∧ k.fmod 6 < 6 := ⟨Int.fmod_nonneg_of_pos _ (by decide), Int.fmod_lt_of_pos _ (by decide)⟩
  obtain ⟨c, hc, e⟩ := sign_all (k.fmod 6).toNat (by omega)
  rw [Int.toNat_of_nonneg h1.1] at e
  exact ⟨c, hc, e⟩
/-- the sign of a cell -/
def signOf (k : Int) : Str := Txt.item (Str.ofString "&<>\"01") (Int.fmod k 6)
theorem join_plain : ∀ ws : List Str, (Str.join (Str.ofString "") ws).cps.toList = ws.flatMap fun w => w.cps.toList
  | [] => rfl
  | [w] => (List.append_nil _).symm
  | w :: v :: r => by
    show (w ++ Str.ofString "" ++ Str.join (Str.ofString "") (v :: r)).cps.toList = _
    rw [Str.cps_append, Str.cps_append, Array.toList_append, Array.toList_append, join_plain (v :: r)]
    show (w.cps.toList ++ []) ++ _ = _
    rw [List.append_nil]
    rfl
theorem sign_list : ∀ r : List Int, ∃ l : List Nat, ((r.map signOf).flatMap fun w => w.cps.toList) = l.flatMap (fun k => [k]) ∧ l.length = r.length ∧ ∀ k ∈ l, k ∈ alph
  | [] => ⟨[], rfl, rfl, fun _ h => nomatch h⟩
  | k :: r => by
    obtain ⟨l, e, hl, ha⟩ := sign_list r
    obtain ⟨c, hc, ec⟩ := sign_code (k := k)
    refine ⟨c :: l, ?_, by rw [List.length_cons, List.length_cons, hl], fun x hx => ?_⟩
    · rw [List.map_cons, List.flatMap_cons, List.flatMap_cons, e]
      have e2 : (signOf k).cps.toList = [c] := congrArg (fun z : Str => z.cps.toList) ec
      rw [e2]
    · rcases List.mem_cons.mp hx with rfl | hx
      · exact hc
      · exact ha x hx
theorem law_open (r : List Int) : ∃ l : List Nat, Wr l (fun k => [k]) (Txt.join (Str.ofString "") (r.map signOf)) ∧ l.length = r.length ∧ ∀ k ∈ l, k ∈ alph := by
  obtain ⟨l, e, hl, ha⟩ := sign_list r
  refine ⟨l, ⟨?_⟩, hl, ha⟩
  rw [show Txt.join (Str.ofString "") (r.map signOf) = Str.join (Str.ofString "") (r.map signOf) from StrLaws.glued_eq_join _ _, join_plain, e]
theorem wri_told (w : World) (mean : ExcName → Option Value) (mg mb : Str → Option Value) (l : List Nat) (hand : Nat) (h : hand < 5) : Tell w mean mg mb 99 4 (WriRel l ((hand : Nat) : Int)) (EscOut l hand) := by
  have hc : hand = 0 ∨ hand = 1 ∨ hand = 2 ∨ hand = 3 ∨ hand = 4 := by omega
  rcases hc with rfl | rfl | rfl | rfl | rfl
  · exact wri0_told w mean mg mb l
  · exact wri1_told w mean mg mb l
  · exact wri2_told w mean mg mb l
  · exact wri3_told w mean mg mb l
  · exact wri4_told w mean mg mb l
/-- the tokens of a sign -/
def toksOf (hand k : Nat) : List (List Nat × Int) := if hits hand k = true then [([38], 38), ((spell hand k).tail, wordNum k)] else [([k], (k : Int))]
def tokFine (hand k : Nat) : Bool := (spell hand k == (toksOf hand k).flatMap (·.1)) && ((toksOf hand k).all fun t => tokTab.contains t) && ((toksOf hand k).map (·.2) == numsOf hand k) && (toksOf hand k).length.ble 2
theorem tok_all : ∀ hand, hand < 5 → ∀ k ∈ alph, tokFine hand k = true := by decide +kernel
theorem tok_spell {hand k : Nat} (h : hand < 5) (hk : k ∈ alph) : spell hand k = (toksOf hand k).flatMap (·.1) ∧ (∀ t ∈ toksOf hand k, t ∈ tokTab) ∧ (toksOf hand k).map (·.2) = numsOf hand k ∧ (toksOf hand k).length ≤ 2 := by
  have h1 := tok_all hand h k hk
  simp only [tokFine, Bool.and_eq_true, beq_iff_eq, Nat.ble_eq] at h1
  obtain ⟨⟨⟨e1, e2⟩, e3⟩, e4⟩ := h1
  exact ⟨e1, fun t ht => List.contains_iff_mem.mp (List.all_eq_true.mp e2 t ht), e3, e4⟩
theorem toks_flat {l : List Nat} {hand : Nat} (h : hand < 5) (ha : ∀ k ∈ l, k ∈ alph) : l.flatMap (spell hand) = (l.flatMap (toksOf hand)).flatMap (·.1) ∧ (∀ t ∈ l.flatMap (toksOf hand), t ∈ tokTab) ∧ (l.flatMap (toksOf hand)).map (·.2) = l.flatMap (numsOf hand) ∧ (l.flatMap (toksOf hand)).length ≤ 2 * l.length := by
  induction l with
  | nil => exact ⟨rfl, (fun _ h => nomatch h), rfl, Nat.le_refl _⟩
  | cons k r ih =>
    obtain ⟨i1, i2, i3, i4⟩ := ih fun q hq => ha q (.tail _ hq)
    obtain ⟨s1, s2, s3, s4⟩ := tok_spell h (ha k (.head _))
    refine ⟨?_, ?_, ?_, ?_⟩
    · rw [List.flatMap_cons, List.flatMap_cons, List.flatMap_append, i1, s1]
    · intro t ht
      rw [List.flatMap_cons] at ht
      exact (List.mem_append.mp ht).elim (s2 t) (i2 t)
    · rw [List.flatMap_cons, List.flatMap_cons, List.map_append, i3, s3]
    · rw [List.flatMap_cons, List.length_append, List.length_cons]
      omega
theorem read_rel {l : List Nat} {hand : Nat} {x : Str} {t : Tok} (W : Wr l (spell hand) x) (h7 : l.length = 7) (ha : ∀ k ∈ l, k ∈ alph) (h : hand < 5) : ReadRel (l.flatMap (toksOf hand)) [.str x t] := by
  obtain ⟨i1, i2, _, i4⟩ := toks_flat h ha
  exact .mk (W.is.trans i1) i2 (by omega)
/-- the ten numbers -/
def IsNum (x : Int) : Prop := x = 38 ∨ x = 8838203 ∨ x = 183611 ∨ x = 163131 ∨ x = 836173115 ∨ x = 60 ∨ x = 62 ∨ x = 34 ∨ x = 48 ∨ x = 49
theorem tab_num : ∀ t ∈ tokTab, IsNum t.2 := by
  intro t ht
  simp only [tokTab, List.mem_cons, List.not_mem_nil, or_false] at ht
  rcases ht with rfl | rfl | rfl | rfl | rfl | rfl | rfl | rfl | rfl | rfl <;> simp [IsNum]
theorem nums_ge {l : List Nat} {hand : Nat} : l.length ≤ (l.flatMap (numsOf hand)).length := by
  induction l with
  | nil => exact Nat.le_refl _
  | cons k r ih =>
    rw [List.flatMap_cons, List.length_append, List.length_cons]
    have : 1 ≤ (numsOf hand k).length := by unfold numsOf; split <;> simp
    omega
def SevenN (x0 x1 x2 x3 x4 x5 x6 : Int) : Prop := IsNum x0 ∧ IsNum x1 ∧ IsNum x2 ∧ IsNum x3 ∧ IsNum x4 ∧ IsNum x5 ∧ IsNum x6
theorem seven_nums {l : List Nat} {hand : Nat} {us : List Value} (h : IntsAre us ((l.flatMap (toksOf hand)).map (·.2))) (h7 : l.length = 7) (ha : ∀ k ∈ l, k ∈ alph) (h5 : hand < 5) : ∃ x0 x1 x2 x3 x4 x5 x6 t0 t1 t2 t3 t4 t5 t6 vs, us = Value.int x0 t0 :: Value.int x1 t1 :: Value.int x2 t2 :: Value.int x3 t3 :: Value.int x4 t4 :: Value.int x5 t5 :: Value.int x6 t6 :: vs ∧
    SevenN x0 x1 x2 x3 x4 x5 x6 ∧ vs.length ≤ 7 ∧ IntsAre (Value.int x0 t0 :: Value.int x1 t1 :: Value.int x2 t2 :: Value.int x3 t3 :: Value.int x4 t4 :: Value.int x5 t5 :: Value.int x6 t6 :: vs) (l.flatMap (numsOf hand)) := by
  obtain ⟨_, i2, i3, i4⟩ := toks_flat h5 ha
  have hn := nums_ge (l := l) (hand := hand)
  have hq : ∀ x ∈ l.flatMap (numsOf hand), IsNum x := fun x hx => by
    rw [← i3] at hx
    obtain ⟨t, ht, rfl⟩ := List.mem_map.mp hx
    exact tab_num t (i2 t ht)
  have hlen : (l.flatMap (numsOf hand)).length ≤ 14 := by rw [← i3, List.length_map]; omega
  rw [i3] at h
  revert h hn hq hlen
  generalize l.flatMap (numsOf hand) = ns
  intro h hn hq hlen
  match ns, hn with
  | x0 :: x1 :: x2 :: x3 :: x4 :: x5 :: x6 :: r, _ =>
    obtain ⟨t0, v0, e0, h0⟩ := ints_cons h
    obtain ⟨t1, v1, e1, h1⟩ := ints_cons h0
    obtain ⟨t2, v2, e2, h2⟩ := ints_cons h1
    obtain ⟨t3, v3, e3, h3⟩ := ints_cons h2
    obtain ⟨t4, v4, e4, h4⟩ := ints_cons h3
    obtain ⟨t5, v5, e5, h5⟩ := ints_cons h4
    obtain ⟨t6, v6, e6, h6⟩ := ints_cons h5
    have hl6 := h6.length
    subst e6 e5 e4 e3 e2 e1 e0
    refine ⟨x0, x1, x2, x3, x4, x5, x6, t0, t1, t2, t3, t4, t5, t6, v6, rfl, ⟨hq _ (by simp), hq _ (by simp), hq _ (by simp), hq _ (by simp), hq _ (by simp), hq _ (by simp), hq _ (by simp)⟩, ?_, h⟩
    simp only [List.length_cons] at hlen
    omega
  | [], hn => simp [h7] at hn
  | [_], hn => simp [h7] at hn
  | [_, _], hn => simp [h7] at hn
  | [_, _, _], hn => simp [h7] at hn
  | [_, _, _, _], hn => simp [h7] at hn
  | [_, _, _, _, _], hn => simp [h7] at hn
  | [_, _, _, _, _, _], hn => simp [h7] at hn
end Mine
end

section
theorem Mine.fresh_T_lbase : True := by
  w_top off
  trivial
namespace Mine
/-- the law's body and names, out of the written part -/
noncomputable def lawFn (P : Params) : List Stmt × Scope := match (hd.heap_39 P).lookup 138 with
  | some ⟨_, _, .func fd, _⟩ => (match fd.body with | .stmts b => b | _ => [], fd.scope)
  | _ => ([], default)
theorem law_cut {P : Params} {name qual : Str} {params : Arguments} {body : List Stmt} {scope : Scope} {oc dV kV doc pm cdv ct : Value} {an od : Option Addr} {osl : Array (Option Value)}
    (ho : (hd.heap_39 P).lookup 138 = some ⟨oc, od, .func (fnOf name qual params body scope dV kV doc pm an cdv ct), osl⟩) : lawFn P = (body, scope) := by
  unfold lawFn
  rw [ho]
theorem seen {m : Str → Option Value} {a : Str} {v : Value} (h : m a = some v) : m = fun y => if y = a then some v else m y := by
  funext y
  by_cases q : y = a
  · rw [if_pos q, q, h]
  · rw [if_neg q]
theorem news_some {h₀ h : Heap} {L : Addr} {news sub : List (Addr × Obj)} (N : News h₀ L h news) (s : ∀ p ∈ sub, p ∈ news) : News h₀ L h sub := fun p hp => N p (s p hp)
theorem execs_pos {M : Model} {A : Around} {env : Env} {st : Stmt} {rest : List Stmt} {Q : Flow → Shared → Prop} {E : Value → Shared → Prop} {s : Shared} (h0 : 0 < s.toks) (h : wpAny M A (exec st env) (fun f s' => 0 < s'.toks → (match f with | .next => wpAny M A (execs rest env) Q E s' | f => Q f s')) E s) : wpAny M A (execs (st :: rest) env) Q E s :=
  wpAny_execs_cons (wpAny_up (wpAny_mono h (fun _ _ h' hle => h' (Nat.lt_of_lt_of_le h0 hle)) fun _ _ e => e))
/-- apart, as numbers -/
def ApartN (d : Addr) : List (Addr × Obj) → Prop
  | [] => True
  | p :: r => @Ne Nat p.1 d ∧ ApartN d r
theorem apartN {d : Addr} : ∀ {l : List (Addr × Obj)}, Apart d l → ApartN d l
  | [], _ => trivial
  | _ :: _, h => ⟨h.1, apartN h.2⟩
/-- the law from its k-th statement on ends, and says True -/
def LawAt (w : World) (mean : ExcName → Option Value) (mg mb : Str → Option Value) (k : Nat) (P : Heap → Addr → Heap → (Str → Option Value) → Nat → Prop) : Prop :=
  ∀ (dp un : Nat) (gd : Option (List Code)) (a : Addr) (ccd : Value) (A₀ : Around) (h₀ : Heap) (L : Addr) (m : Str → Option Value) (hp : Heap) (gs : Array GenState) (dr : Drawn) (tk : Nat) (os : OsState) (Q : Flow → Shared → Prop) (E : Value → Shared → Prop),
    Below A₀ h₀ [] h₀ → Fr h₀ L hp m → (hd.heap_39 w.params).In h₀ → Top hd.view_39 (looseW hd.view_39 [Str.ofString "COMPILER_FLAG_NAMES"]) mean mg mb h₀ → dp + 20 < recursionLimit → un + 2000 < cLine → P h₀ L hp m tk →
    PassesOwn (model PySem.Challenge.rw_tr0038_01.row.prog w) (ktrTop dp un gd (Str.ofString "law") (lawFn w.params).2 L a ccd [] []) (envOf (Str.ofString "law") (lawFn w.params).2 L a ccd) E →
    (∀ h' tk' m', Fr h₀ L h' m' → Q (.ret (.bool true)) ⟨h', gs, dr, tk', os⟩) →
    wpAny (model PySem.Challenge.rw_tr0038_01.row.prog w) (ktrTop dp un gd (Str.ofString "law") (lawFn w.params).2 L a ccd [] []) (execs ((lawFn w.params).1.drop k) (envOf (Str.ofString "law") (lawFn w.params).2 L a ccd)) Q E ⟨hp, gs, dr, tk, os⟩
def P3 (h₀ : Heap) (L : Addr) (hp : Heap) (m : Str → Option Value) (tk : Nat) : Prop :=
  ∃ l x t hand u, m (Str.ofString "signs") = some (.str x t) ∧ m (Str.ofString "hand") = some (.int ((hand : Nat) : Int) u) ∧ Wr l (fun k => [k]) x ∧ l.length = 7 ∧ (∀ k ∈ l, k ∈ alph) ∧ hand < 5 ∧ 0 < tk ∧ News h₀ L hp []
def P5 (h₀ : Heap) (L : Addr) (hp : Heap) (m : Str → Option Value) (tk : Nat) : Prop :=
  ∃ D x0 x1 x2 x3 x4 x5 x6 t0 t1 t2 t3 t4 t5 t6 vs c, m (Str.ofString "numbers") = some (.ref D) ∧ SevenN x0 x1 x2 x3 x4 x5 x6 ∧ 0 < tk ∧ vs.length ≤ 7 ∧
    News h₀ L hp [(D, listOf (List.toArray (Value.int x0 t0 :: Value.int x1 t1 :: Value.int x2 t2 :: Value.int x3 t3 :: Value.int x4 t4 :: Value.int x5 t5 :: Value.int x6 t6 :: vs)) c)]
/-- what stands where the lights are held against the bits -/
inductive P7 (h₀ : Heap) (L : Addr) (hp : Heap) (m : Str → Option Value) (tk : Nat) : Prop where
  | mk {Db Dl p0 p1 p2 p3 p4 p5 p6 : Addr} {x0 x1 x2 x3 x4 x5 x6 : Int} {u0 u1 u2 u3 u4 u5 u6 : Tok} {a0 b0 c0 a1 b1 c1 a2 b2 c2 a3 b3 c3 a4 b4 c4 a5 b5 c5 a6 b6 c6 : Tok} {news : List (Addr × Obj)} : m (Str.ofString "bits") = some (.ref Db) → m (Str.ofString "lights") = some (.ref Dl) → SevenN x0 x1 x2 x3 x4 x5 x6 → 0 < tk → News h₀ L hp news →
      (∀ p ∈ [(Dl, LCg.lst [Value.ref p0, Value.ref p1, Value.ref p2, Value.ref p3, Value.ref p4, Value.ref p5, Value.ref p6]), (Db, LCg.lst [Value.int (Int.fmod x0 2) u0, Value.int (Int.fmod x1 2) u1, Value.int (Int.fmod x2 2) u2, Value.int (Int.fmod x3 2) u3, Value.int (Int.fmod x4 2) u4, Value.int (Int.fmod x5 2) u5, Value.int (Int.fmod x6 2) u6]), (p0, lightOf (Int.fmod x0 2 == 1) a0 b0 c0), (p1, lightOf (Int.fmod x1 2 == 1) a1 b1 c1), (p2, lightOf (Int.fmod x2 2 == 1) a2 b2 c2), (p3, lightOf (Int.fmod x3 2 == 1) a3 b3 c3), (p4, lightOf (Int.fmod x4 2 == 1) a4 b4 c4), (p5, lightOf (Int.fmod x5 2 == 1) a5 b5 c5), (p6, lightOf (Int.fmod x6 2 == 1) a6 b6 c6)], p ∈ news) → Toks3 a0 b0 c0 → Toks3 a1 b1 c1 → Toks3 a2 b2 c2 → Toks3 a3 b3 c3 → Toks3 a4 b4 c4 → Toks3 a5 b5 c5 → Toks3 a6 b6 c6 → P7 h₀ L hp m tk
theorem toks_of {a b c k : Nat} (h1 : TokIn a k) (h2 : TokIn b k) (h3 : TokIn c k) : Toks3 a b c := ⟨h1.1, h2.1, h3.1⟩
theorem P5_intro {h₀ hp : Heap} {L : Addr} {m : Str → Option Value} {tk : Nat} {D : Addr} {x0 x1 x2 x3 x4 x5 x6 : Int} {t0 t1 t2 t3 t4 t5 t6 : Tok} {vs : List Value} {c : Nat} {news : List (Addr × Obj)} (h : m (Str.ofString "numbers") = some (.ref D)) (hS : SevenN x0 x1 x2 x3 x4 x5 x6) (hp0 : 0 < tk) (hv : vs.length ≤ 7) (N : News h₀ L hp news)
    (hm : (D, listOf (List.toArray (Value.int x0 t0 :: Value.int x1 t1 :: Value.int x2 t2 :: Value.int x3 t3 :: Value.int x4 t4 :: Value.int x5 t5 :: Value.int x6 t6 :: vs)) c) ∈ news) : P5 h₀ L hp m tk :=
  ⟨D, x0, x1, x2, x3, x4, x5, x6, t0, t1, t2, t3, t4, t5, t6, vs, c, h, hS, hp0, hv, news_some N fun p hp => by
    rw [List.mem_singleton.mp hp]
    exact hm⟩
/-- the light of a bit, made -/
def IfOut (h₀ : Heap) (L : Addr) (m : Str → Option Value) (news : List (Addr × Obj)) (x : Int) (s : Shared) (v : Value) (s' : Shared) : Prop :=
  ∃ D9 h' t1 t2 t3 tk', s' = { s with heap := h', toks := tk' } ∧ v = .ref D9 ∧ Fr h₀ L h' m ∧ News h₀ L h' ((D9, lightOf (Int.fmod x 2 == 1) t1 t2 t3) :: news) ∧ Toks3 t1 t2 t3 ∧ AllLt D9 news
theorem if_cut {M : Model} {A : Around} {t : Sem Value} {Q : Value → Shared → Prop} {E : Value → Shared → Prop} {s : Shared} {h₀ : Heap} {L : Addr} {m : Str → Option Value} {news : List (Addr × Obj)} (_F : Fr h₀ L s.heap m) (_N : News h₀ L s.heap news) {mm : Str → Option Value} {ab : Str} {x : Int} {ub : Tok} (_hx : mm ab = some (Value.int (Int.fmod x 2) ub))
    (h : wpAny M A t (IfOut h₀ L m news x s) E s) (k : ∀ D9 h' t1 t2 t3 tk', Fr h₀ L h' m → News h₀ L h' ((D9, lightOf (Int.fmod x 2 == 1) t1 t2 t3) :: news) → Toks3 t1 t2 t3 → AllLt D9 news → Q (.ref D9) { s with heap := h', toks := tk' }) : wpAny M A t Q E s :=
  wpAny_mono h (fun v s' q => by
    obtain ⟨D9, h', t1, t2, t3, tk', rfl, rfl, F', N', q', a'⟩ := q
    exact k D9 h' t1 t2 t3 tk' F' N' q' a') fun _ _ e => e
theorem if_yes {h₀ : Heap} {L : Addr} {m : Str → Option Value} {news : List (Addr × Obj)} {x : Int} {s : Shared} {D9 : Addr} {h' : Heap} {tk : Nat} {t1 t2 t3 : Nat} (hz : Int.fmod x 2 = 1) (F : Fr h₀ L h' m) (N : News h₀ L h' ((D9, tupOf [.float 0 t1, .float one t2, .float one t3]) :: news)) (q : Toks3 t1 t2 t3) (a : AllLt D9 news) :
    IfOut h₀ L m news x s (.ref D9) { s with heap := h', toks := tk } := ⟨D9, h', t1, t2, t3, tk, rfl, rfl, F, by rw [hz]; exact N, q, a⟩
theorem if_no {h₀ : Heap} {L : Addr} {m : Str → Option Value} {news : List (Addr × Obj)} {x : Int} {s : Shared} {D9 : Addr} {h' : Heap} {tk : Nat} {t1 t2 t3 : Nat} (hz : Int.fmod x 2 ≠ 1) (F : Fr h₀ L h' m) (N : News h₀ L h' ((D9, tupOf [.float one t1, .float 0 t2, .float 0 t3]) :: news)) (q : Toks3 t1 t2 t3) (a : AllLt D9 news) :
    IfOut h₀ L m news x s (.ref D9) { s with heap := h', toks := tk } := ⟨D9, h', t1, t2, t3, tk, rfl, rfl, F, by rw [show (Int.fmod x 2 == 1) = false from beq_eq_false_iff_ne.mpr hz]; exact N, q, a⟩
theorem apartN_lt {d : Addr} : ∀ {l : List (Addr × Obj)}, AllLt d l → ApartN d l
  | [], _ => trivial
  | _ :: _, h => ⟨Nat.ne_of_lt h.1, apartN_lt h.2⟩
theorem lights7_ne {prog : Program} {w : World} {A : Around} {E : Value → Shared → Prop} {s : Shared} {Q : Value → Shared → Prop} {h₀ : Heap} {L : Addr} {m : Str → Option Value} {news : List (Addr × Obj)} {Dl De p0 p1 p2 p3 p4 p5 p6 q0 q1 q2 q3 q4 q5 q6 : Addr} {x0 x1 x2 x3 x4 x5 x6 : Int} {a0 b0 c0 a1 b1 c1 a2 b2 c2 a3 b3 c3 a4 b4 c4 a5 b5 c5 a6 b6 c6 d0 e0 f0 d1 e1 f1 d2 e2 f2 d3 e3 f3 d4 e4 f4 d5 e5 f5 d6 e6 f6 : Tok} (X : (hd.heap_39 w.params).In h₀) (F : Fr h₀ L s.heap m) (N : News h₀ L s.heap news)
    (hsub : ∀ p ∈ [(Dl, LCg.lst [Value.ref p0, Value.ref p1, Value.ref p2, Value.ref p3, Value.ref p4, Value.ref p5, Value.ref p6]), (De, LCg.lst [Value.ref q0, Value.ref q1, Value.ref q2, Value.ref q3, Value.ref q4, Value.ref q5, Value.ref q6]), (p0, lightOf (Int.fmod x0 2 == 1) a0 b0 c0), (p1, lightOf (Int.fmod x1 2 == 1) a1 b1 c1), (p2, lightOf (Int.fmod x2 2 == 1) a2 b2 c2), (p3, lightOf (Int.fmod x3 2 == 1) a3 b3 c3), (p4, lightOf (Int.fmod x4 2 == 1) a4 b4 c4), (p5, lightOf (Int.fmod x5 2 == 1) a5 b5 c5), (p6, lightOf (Int.fmod x6 2 == 1) a6 b6 c6), (q0, lightOf (Int.fmod x0 2 == 1) d0 e0 f0), (q1, lightOf (Int.fmod x1 2 == 1) d1 e1 f1), (q2, lightOf (Int.fmod x2 2 == 1) d2 e2 f2), (q3, lightOf (Int.fmod x3 2 == 1) d3 e3 f3), (q4, lightOf (Int.fmod x4 2 == 1) d4 e4 f4), (q5, lightOf (Int.fmod x5 2 == 1) d5 e5 f5), (q6, lightOf (Int.fmod x6 2 == 1) d6 e6 f6)], p ∈ news)
    (k0 : Toks3 a0 b0 c0) (k1 : Toks3 a1 b1 c1) (k2 : Toks3 a2 b2 c2) (k3 : Toks3 a3 b3 c3) (k4 : Toks3 a4 b4 c4) (k5 : Toks3 a5 b5 c5) (k6 : Toks3 a6 b6 c6) (n0 : Toks3 d0 e0 f0) (n1 : Toks3 d1 e1 f1) (n2 : Toks3 d2 e2 f2) (n3 : Toks3 d3 e3 f3) (n4 : Toks3 d4 e4 f4) (n5 : Toks3 d5 e5 f5) (n6 : Toks3 d6 e6 f6) (hu : A.units + 64 < cLine) (h : Q (.bool false) s) : wpAny (model prog w) A (compareOp .NotEq (.ref Dl) (.ref De)) Q E s := by
  have hl := N _ (hsub _ (by k_mem : (Dl, LCg.lst [Value.ref p0, Value.ref p1, Value.ref p2, Value.ref p3, Value.ref p4, Value.ref p5, Value.ref p6]) ∈ _))
  have he := N _ (hsub _ (by k_mem : (De, LCg.lst [Value.ref q0, Value.ref q1, Value.ref q2, Value.ref q3, Value.ref q4, Value.ref q5, Value.ref q6]) ∈ _))
  refine lights_ne (bits := [Int.fmod x0 2 == 1, Int.fmod x1 2 == 1, Int.fmod x2 2 == 1, Int.fmod x3 2 == 1, Int.fmod x4 2 == 1, Int.fmod x5 2 == 1, Int.fmod x6 2 == 1]) (vs := [Value.ref p0, Value.ref p1, Value.ref p2, Value.ref p3, Value.ref p4, Value.ref p5, Value.ref p6]) (ws := [Value.ref q0, Value.ref q1, Value.ref q2, Value.ref q3, Value.ref q4, Value.ref q5, Value.ref q6]) ⟨_, hl.1, rfl, _, rfl⟩ ⟨_, he.1, rfl, _, rfl⟩ rfl rfl (fun i k hk => ?_) (none_booked X F) hu h
  have hi : i < 7 := (List.getElem?_eq_some_iff.mp hk).1
  have hc : i = 0 ∨ i = 1 ∨ i = 2 ∨ i = 3 ∨ i = 4 ∨ i = 5 ∨ i = 6 := by omega
  rcases hc with rfl | rfl | rfl | rfl | rfl | rfl | rfl <;> cases hk
  · exact ⟨p0, q0, a0, b0, c0, d0, e0, f0, rfl, rfl, (N (p0, lightOf (Int.fmod x0 2 == 1) a0 b0 c0) (hsub _ (by k_mem))).1, (N (q0, lightOf (Int.fmod x0 2 == 1) d0 e0 f0) (hsub _ (by k_mem))).1, k0, n0⟩
  · exact ⟨p1, q1, a1, b1, c1, d1, e1, f1, rfl, rfl, (N (p1, lightOf (Int.fmod x1 2 == 1) a1 b1 c1) (hsub _ (by k_mem))).1, (N (q1, lightOf (Int.fmod x1 2 == 1) d1 e1 f1) (hsub _ (by k_mem))).1, k1, n1⟩
  · exact ⟨p2, q2, a2, b2, c2, d2, e2, f2, rfl, rfl, (N (p2, lightOf (Int.fmod x2 2 == 1) a2 b2 c2) (hsub _ (by k_mem))).1, (N (q2, lightOf (Int.fmod x2 2 == 1) d2 e2 f2) (hsub _ (by k_mem))).1, k2, n2⟩
  · exact ⟨p3, q3, a3, b3, c3, d3, e3, f3, rfl, rfl, (N (p3, lightOf (Int.fmod x3 2 == 1) a3 b3 c3) (hsub _ (by k_mem))).1, (N (q3, lightOf (Int.fmod x3 2 == 1) d3 e3 f3) (hsub _ (by k_mem))).1, k3, n3⟩
  · exact ⟨p4, q4, a4, b4, c4, d4, e4, f4, rfl, rfl, (N (p4, lightOf (Int.fmod x4 2 == 1) a4 b4 c4) (hsub _ (by k_mem))).1, (N (q4, lightOf (Int.fmod x4 2 == 1) d4 e4 f4) (hsub _ (by k_mem))).1, k4, n4⟩
  · exact ⟨p5, q5, a5, b5, c5, d5, e5, f5, rfl, rfl, (N (p5, lightOf (Int.fmod x5 2 == 1) a5 b5 c5) (hsub _ (by k_mem))).1, (N (q5, lightOf (Int.fmod x5 2 == 1) d5 e5 f5) (hsub _ (by k_mem))).1, k5, n5⟩
  · exact ⟨p6, q6, a6, b6, c6, d6, e6, f6, rfl, rfl, (N (p6, lightOf (Int.fmod x6 2 == 1) a6 b6 c6) (hsub _ (by k_mem))).1, (N (q6, lightOf (Int.fmod x6 2 == 1) d6 e6 f6) (hsub _ (by k_mem))).1, k6, n6⟩
theorem lit_end {h₀ : Heap} {L I C D : Addr} {m : Str → Option Value} {s₁ : Shared} {oI oC oD : Obj} {S : List (Addr × Obj) → Prop} {rest : Value → List (Addr × Obj) → Prop} {y : Value} {h' : Heap} {tk : Nat} {D9 : Addr} {lo : Obj} {old : List (Addr × Obj)}
    (F : Fr h₀ L h' m) (N : News h₀ L h' ((D9, lo) :: (I, oI) :: (C, oC) :: (D, oD) :: old)) (a : ApartN D9 ((I, oI) :: (C, oC) :: (D, oD) :: old)) (off : LCg.Off3 I C D old) (hS : S ((D9, lo) :: old)) (r : rest y ((D9, lo) :: old)) :
    LCg.CompEnd h₀ L m s₁ I oI C oC D oD S rest y { s₁ with heap := h', toks := tk } :=
  LCg.CompEnd.intro F N ((D9, lo) :: old) (fun p hp => by
    rcases List.mem_cons.mp hp with rfl | hp
    · exact .tail _ (.head _)
    · rcases List.mem_cons.mp hp with rfl | hp
      · exact .tail _ (.tail _ (.head _))
      · rcases List.mem_cons.mp hp with rfl | hp
        · exact .tail _ (.tail _ (.tail _ (.head _)))
        · rcases List.mem_cons.mp hp with rfl | hp
          · exact .head _
          · exact .tail _ (.tail _ (.tail _ (.tail _ hp)))) ⟨⟨fun e => a.1 e.symm, fun e => a.2.1 e.symm, fun e => a.2.2.1 e.symm⟩, off⟩ hS r
theorem grown_rel {h₀ hp : Heap} {L : Addr} {news : List (Addr × Obj)} {Dl p0 p1 p2 p3 p4 p5 p6 : Addr} {x0 x1 x2 x3 x4 x5 x6 : Int} {a0 b0 c0 a1 b1 c1 a2 b2 c2 a3 b3 c3 a4 b4 c4 a5 b5 c5 a6 b6 c6 : Tok} (N : News h₀ L hp news) (hsub : ∀ p ∈ [(Dl, LCg.lst [Value.ref p0, Value.ref p1, Value.ref p2, Value.ref p3, Value.ref p4, Value.ref p5, Value.ref p6]), (p0, lightOf (Int.fmod x0 2 == 1) a0 b0 c0), (p1, lightOf (Int.fmod x1 2 == 1) a1 b1 c1), (p2, lightOf (Int.fmod x2 2 == 1) a2 b2 c2), (p3, lightOf (Int.fmod x3 2 == 1) a3 b3 c3), (p4, lightOf (Int.fmod x4 2 == 1) a4 b4 c4), (p5, lightOf (Int.fmod x5 2 == 1) a5 b5 c5), (p6, lightOf (Int.fmod x6 2 == 1) a6 b6 c6)], p ∈ news) : GrownRel [Int.fmod x0 2 == 1, Int.fmod x1 2 == 1, Int.fmod x2 2 == 1, Int.fmod x3 2 == 1, Int.fmod x4 2 == 1, Int.fmod x5 2 == 1, Int.fmod x6 2 == 1] hp [.ref Dl] := by
  have hl := N (Dl, LCg.lst [Value.ref p0, Value.ref p1, Value.ref p2, Value.ref p3, Value.ref p4, Value.ref p5, Value.ref p6]) (hsub _ (by k_mem))
  refine .mk (ps := [p0, p1, p2, p3, p4, p5, p6]) ⟨_, hl.1, rfl, _, rfl⟩ ⟨rfl, fun i p hi => ?_⟩ rfl
  have h7 : i < 7 := (List.getElem?_eq_some_iff.mp hi).1
  have hc : i = 0 ∨ i = 1 ∨ i = 2 ∨ i = 3 ∨ i = 4 ∨ i = 5 ∨ i = 6 := by omega
  rcases hc with rfl | rfl | rfl | rfl | rfl | rfl | rfl <;> cases hi
  · exact ⟨a0, b0, c0, (N (p0, lightOf (Int.fmod x0 2 == 1) a0 b0 c0) (hsub _ (by k_mem))).1⟩
  · exact ⟨a1, b1, c1, (N (p1, lightOf (Int.fmod x1 2 == 1) a1 b1 c1) (hsub _ (by k_mem))).1⟩
  · exact ⟨a2, b2, c2, (N (p2, lightOf (Int.fmod x2 2 == 1) a2 b2 c2) (hsub _ (by k_mem))).1⟩
  · exact ⟨a3, b3, c3, (N (p3, lightOf (Int.fmod x3 2 == 1) a3 b3 c3) (hsub _ (by k_mem))).1⟩
  · exact ⟨a4, b4, c4, (N (p4, lightOf (Int.fmod x4 2 == 1) a4 b4 c4) (hsub _ (by k_mem))).1⟩
  · exact ⟨a5, b5, c5, (N (p5, lightOf (Int.fmod x5 2 == 1) a5 b5 c5) (hsub _ (by k_mem))).1⟩
  · exact ⟨a6, b6, c6, (N (p6, lightOf (Int.fmod x6 2 == 1) a6 b6 c6) (hsub _ (by k_mem))).1⟩
/-- what stands ahead of the last loop -/
inductive P9 (h₀ : Heap) (L : Addr) (hp : Heap) (m : Str → Option Value) (tk : Nat) : Prop where
  | mk {Db S : Addr} {x0 x1 x2 x3 x4 x5 x6 : Int} {u0 u1 u2 u3 u4 u5 u6 : Tok} {us : List Value} {c : Nat} {objs news : List (Addr × Obj)} : m (Str.ofString "bits") = some (.ref Db) → m (Str.ofString "steps") = some (.ref S) → SevenN x0 x1 x2 x3 x4 x5 x6 → us.length = 7 →
      (∀ n, n < 7 → ∃ T t1 t2, us[n]? = some (.ref T) ∧ (T, tupOf [.int (((bmAt [Int.fmod x0 2 == 1, Int.fmod x1 2 == 1, Int.fmod x2 2 == 1, Int.fmod x3 2 == 1, Int.fmod x4 2 == 1, Int.fmod x5 2 == 1, Int.fmod x6 2 == 1] (n + 1)).size : Nat) : Int) t1, .str (flagText (bmAt [Int.fmod x0 2 == 1, Int.fmod x1 2 == 1, Int.fmod x2 2 == 1, Int.fmod x3 2 == 1, Int.fmod x4 2 == 1, Int.fmod x5 2 == 1, Int.fmod x6 2 == 1] (n + 1)).taps) t2]) ∈ objs) → News h₀ L hp news →
      (∀ p ∈ (Db, LCg.lst [Value.int (Int.fmod x0 2) u0, Value.int (Int.fmod x1 2) u1, Value.int (Int.fmod x2 2) u2, Value.int (Int.fmod x3 2) u3, Value.int (Int.fmod x4 2) u4, Value.int (Int.fmod x5 2) u5, Value.int (Int.fmod x6 2) u6]) :: (S, listOf (List.toArray us) c) :: objs, p ∈ news) → P9 h₀ L hp m tk
theorem room_in {a b d n : Nat} (h : a + d < n) (hb : b ≤ d) : a + b < n := Nat.lt_of_le_of_lt (Nat.add_le_add_left hb a) h
theorem P9_intro {h₀ hp : Heap} {L : Addr} {m : Str → Option Value} {tk : Nat} {Db S : Addr} {x0 x1 x2 x3 x4 x5 x6 : Int} {u0 u1 u2 u3 u4 u5 u6 : Tok} {us : List Value} {c : Nat} {objs tail : List (Addr × Obj)} (m1 : m (Str.ofString "bits") = some (.ref Db)) (m2 : m (Str.ofString "steps") = some (.ref S)) (hS : SevenN x0 x1 x2 x3 x4 x5 x6) (g1 : us.length = 7)
    (g2 : ∀ n, n < 7 → ∃ T t1 t2, us[n]? = some (.ref T) ∧ (T, tupOf [.int (((bmAt [Int.fmod x0 2 == 1, Int.fmod x1 2 == 1, Int.fmod x2 2 == 1, Int.fmod x3 2 == 1, Int.fmod x4 2 == 1, Int.fmod x5 2 == 1, Int.fmod x6 2 == 1] (n + 1)).size : Nat) : Int) t1, .str (flagText (bmAt [Int.fmod x0 2 == 1, Int.fmod x1 2 == 1, Int.fmod x2 2 == 1, Int.fmod x3 2 == 1, Int.fmod x4 2 == 1, Int.fmod x5 2 == 1, Int.fmod x6 2 == 1] (n + 1)).taps) t2]) ∈ objs) (N : News h₀ L hp ((S, listOf (List.toArray us) c) :: (objs ++ tail))) (hb : (Db, LCg.lst [Value.int (Int.fmod x0 2) u0, Value.int (Int.fmod x1 2) u1, Value.int (Int.fmod x2 2) u2, Value.int (Int.fmod x3 2) u3, Value.int (Int.fmod x4 2) u4, Value.int (Int.fmod x5 2) u5, Value.int (Int.fmod x6 2) u6]) ∈ tail) : P9 h₀ L hp m tk :=
  .mk m1 m2 hS g1 g2 N fun p hp => by
    rcases List.mem_cons.mp hp with e | hp
    · rw [e]
      exact .tail _ (List.mem_append_right _ hb)
    · rcases List.mem_cons.mp hp with e | hp
      · rw [e]
        exact .head _
      · exact .tail _ (List.mem_append_left _ hp)
theorem P3_intro {h₀ hp : Heap} {L : Addr} {m : Str → Option Value} {tk : Nat} {ks : List Int} {t u : Tok} (hl : ks.length = 8) (m1 : m (Str.ofString "signs") = some (.str (Txt.join (Str.ofString "") ((ks.take 7).map signOf)) t)) (m2 : m (Str.ofString "hand") = some (.int (Int.fmod (ks.getD 7 0) 5) u)) (h0 : 0 < tk) : P3 h₀ L hp m tk := by
  obtain ⟨l, W, h7, ha⟩ := law_open (ks.take 7)
  have h1 : 0 ≤ Int.fmod (ks.getD 7 0) 5 ∧ Int.fmod (ks.getD 7 0) 5 < 5 := ⟨Int.fmod_nonneg_of_pos _ (by decide), Int.fmod_lt_of_pos _ (by decide)⟩
  have h7' : l.length = 7 := by rw [h7, List.length_take, hl]; rfl
  exact ⟨l, _, t, (Int.fmod (ks.getD 7 0) 5).toNat, u, m1, m2.trans (by rw [Int.toNat_of_nonneg h1.1]), W, h7', ha, by omega, h0, fun _ h => nomatch h⟩
theorem sign_sum (r : List Int) : ((r.map signOf).map (·.length)).sum = r.length := by
  induction r with
  | nil => rfl
  | cons a r ih =>
    rw [List.map_cons, List.map_cons, List.sum_cons, ih, List.length_cons, Nat.add_comm]
    rfl
theorem sign_room (ks : List Int) : (((ks.take 7).map signOf).map (·.length)).sum + ((ks.take 7).map signOf).length ≤ 1048576 := by
  rw [sign_sum, List.length_map, List.length_take]
  omega
theorem take_size {ws : List Value} {ks : List Int} (h : IntsAre ws (ks.take 7)) : ws.toArray.size ≤ sizeLine := by
  rw [List.size_toArray, h.length, List.length_take, PySem.sizeLine_eq]
  omega
end Mine
end

section
theorem Mine.fresh_T_lawA : True := by
  w_top off
  trivial
local macro_rules | `(tactic| walk_at "none") => `(tactic| fail)
namespace Mine
theorem at_w {w : World} {h₀ : Heap} (_X : (hd.heap_39 w.params).In h₀) {P : World → Prop} (h : ∀ w, P w) : P w := h w
theorem law_cutX {w : World} {h₀ : Heap} (_X : (hd.heap_39 w.params).In h₀) {name qual : Str} {params : Arguments} {body : List Stmt} {scope : Scope} {oc dV kV doc pm cdv ct : Value} {an od : Option Addr} {osl : Array (Option Value)}
    (ho : (hd.heap_39 w.params).lookup 138 = some ⟨oc, od, .func (fnOf name qual params body scope dV kV doc pm an cdv ct), osl⟩) : lawFn w.params = (body, scope) := law_cut ho
theorem law_below {h h' : Heap} {L : Addr} {m : Str → Option Value} (_F : Fr h L h' m) : Below callerA h [] h := below_caller h
section
variable {prog : Program} {w : World} {A : Around} {h₀ : Heap} {L : Addr} {m : Str → Option Value} {env : Env} {elt : Expr} {x : Str} {scope : Scope} {cl : List (Str × Addr)} {s : Shared} {S : List (Addr × Obj) → Prop} {Fin : List Value → List (Addr × Obj) → Prop} {news : List (Addr × Obj)}
/-- the turns over ints, each a text -/
theorem texts_rest {vs : List Value} {ns : List Int} (g : Int → Str) (hI : IntsAre vs ns)
    (turn : ∀ k t I oI C oC D m₂ ys h tk (E' : Value → Shared → Prop), k ∈ ns → LCg.NsObj oC m₂ → m₂ x = some (.int k t) → Fr h₀ L h m → News h₀ L h ((I, oI) :: (C, oC) :: (D, LCg.lst ys) :: news) → LCg.Off3 I C D news → ((@Ne Nat I C) ∧ (@Ne Nat I D) ∧ (@Ne Nat C D)) →
      wpAny (model prog w) A (eval elt (compEnvC scope cl C env)) (LCg.CompEnd h₀ L m { s with heap := h, toks := tk } I oI C oC D (LCg.lst ys) S (fun y news' => KCtEl news (g k) y news')) E' { s with heap := h, toks := tk })
    (fin : ∀ ys, StrsAre ys (ns.map g) → Fin ys news) : LCg.CompRest prog w A h₀ L m env elt x scope cl s S (fun i v => vs.toArray[i]? = some v) Fin vs.toArray.size 0 [] news := by
  have hln : vs.length = ns.length := hI.length
  rw [List.size_toArray]
  have key : ∀ (j i : Nat) (ys : List Value), i + j = vs.length → StrsAre ys ((ns.take i).map g) → LCg.CompRest prog w A h₀ L m env elt x scope cl s S (fun i v => vs.toArray[i]? = some v) Fin j i ys news := by
    intro j
    induction j with
    | zero =>
      intro i ys hi hy
      have e : i = ns.length := by omega
      subst e
      rw [List.take_length] at hy
      exact LCg.CompRest.zero (fin ys hy)
    | succ j ih =>
      intro i ys hi hy
      refine LCg.CompRest.succ ?_
      intro v I oI C oC D m₂ h tk E' hv hC hx F N off ne
      obtain ⟨k, t, e, hk⟩ := IntsAre.at hI i v (by simpa using hv)
      rw [e] at hx
      refine wpAny_mono (turn k t I oI C oC D m₂ ys h tk E' (List.mem_of_getElem? hk) hC hx F N off ne) (fun y s₂ hq => ?_) fun _ _ e => e
      obtain ⟨h', tk', nw, e, F', N', off', hS, hn, t', hy'⟩ := hq
      rw [hn] at N' off' hS
      refine ⟨h', tk', news, e, F', N', off', hS, ?_⟩
      rw [hy']
      refine ih (i + 1) _ (by omega) ?_
      rw [List.take_add_one, hk]
      simpa using kct_snoc hy
  exact key vs.length 0 [] (by omega) (by simp only [List.take_zero, List.map_nil]; exact .nil)
end
local macro_rules | `(tactic| walk_at "CompSrc") => `(tactic| (k_here; refine at_stopK 1 ?_))
local macro_rules | `(tactic| walk_at "CompEnd") => `(tactic| (k_here; refine at_stopK 2 ?_))
local macro_rules | `(tactic| walk_at "call builtin:str.join") => `(tactic| (k_here; refine at_stopK 3 ?_))
local macro_rules | `(tactic| walk_at "call ref") => `(tactic| (k_here; refine at_stopK 4 ?_))
local macro_rules | `(tactic| walk_at "execs cons") => `(tactic| (k_here; refine at_stopK 5 ?_))
local macro_rules | `(tactic| walk_at "execs nil") => `(tactic| (k_here; refine at_stopK 6 ?_))
local macro_rules | `(tactic| walk_at "execs cons") => `(tactic| (k_here; (with_reducible show wpAny _ _ (execs (Stmt.Assign [Expr.Name (Str.ofString "numbers") _] _ _ :: _) _) _ _ _); k_dflt (refine at_stop2 ?_)))
set_option maxHeartbeats 8000000 in
theorem lawA (next : ∀ (w : World) (mean : ExcName → Option Value) (mg mb : Str → Option Value), LawAt w mean mg mb 3 P3) : PySem.Challenge.rw_tr0038_01.Holds := hd (by
  k_go0
  (rename Fr _ _ _ _ => kF0)
  (rename Below _ _ _ _ => kB0)
  have kB := law_below kF0
  clear kB0
  (try ((rename Heap.CodeRec _ _ _ => z9); clear z9))
  (try ((rename Dflts _ _ _ => z9); clear z9))
  (try ((rename BMod _ _ _ _ _ => z9); clear z9))
  (try ((rename TopW _ _ _ => z9); clear z9))
  (try ((rename TopE _ _ _ _ => z9); clear z9))
  (try ((rename Tables _ _ _ _ => z9); clear z9))
  (try ((rename Glob _ _ _ _ _ _ _ _ => z9); clear z9))
  (try ((rename LooseAre _ _ _ => z9); clear z9))
  (try ((rename Flt.MathXP _ _ _ => z9); clear z9))
  (try ((rename Ground _ _ _ _ _ _ _ _ _ => z9); clear z9))
  (try ((rename KHook.says _ _ _ => z9); clear z9))
  (try dsimp only)
  (try k_fold)
  repeat' (first | ((with_reducible show StopK 1 _); unfold StopK; first | ((rename IntsAre _ (List.take _ _) => hW9); k_dflt (refine LCg.CompSrc.ledger (by rfl) (by k_asm) (by k_asm) (by k_mem) (take_size hW9) ?_; intro g'; (refine' texts_rest signOf hW9 (fun k' t' I' oI' C' oC' D' m' ys' h' tk' E' hk' hC' hx' F' N' off' ne' => ?_) ?_); kcf_last))) | ((with_reducible show StopK 2 _); unfold StopK; first | (refine LCg.CompEnd.intro (by k_asm) (by k_asm) _ (fun p hp => hp) (by first | (with_unfolding_all assumption) | (simp only [LCg.Off3, and_true]; assumption)) (by lcg_src) ?_; exact ⟨rfl, _, rfl⟩)) | ((with_reducible show StopK 3 _); unfold StopK; first | ((rename StrsAre _ (List.map _ _) => hS'); k_dflt (refine join_listW (by is_list) hS' (by decide +kernel) (sign_room _) ?_); intro _ _)) | ((with_reducible show StopK 4 _); unfold StopK; first | ((with_reducible show wpAny _ _ (call (Value.ref 92) _) _ _ _); k_dflt (((rename Below _ _ _ _ => zK); (rename Fr _ _ _ _ => zF); (rename News _ _ _ _ => zN); (rename Frag.In _ _ => zX); (rename Top _ _ _ _ _ _ => zT); k_dflt (refine' tell_use (cell_told _ _ _ _ _) zK zF zX zN zT rfl (CellRel.mk ?r1 ?r2 ?r3) ?kd ?ku ?_; (case r2 => assumption); (case r1 => is_list); (case r3 => omega); (case kd => first | omega | ktr_room); (case ku => first | omega | ktr_units))); intro r' tl' h' tk' hO' F' N' a'; obtain ⟨D9, us9, c9, ks9, e1, e2, hi9, hk9⟩ := hO'; subst e1; subst e2; (have hl9 := hk9.1); (simp only [List.cons_append, List.nil_append] at N'); (try dsimp only)))) | ((with_reducible show StopK 5 _); unfold StopK; first | ((first | (with_reducible refine has_le (by assumption) ?_) | (k_dflt (refine gen_le ?_); intro tk9 hle9; (try dsimp only at hle9))); (with_reducible refine wpAny_execs_cons ?_); (try dsimp only))) | ((with_reducible show StopK 6 _); unfold StopK; first | ((first | (with_reducible refine has_le (by assumption) ?_) | (k_dflt (refine gen_le ?_); intro tk9 hle9; (try dsimp only at hle9))); (with_reducible refine wpAny_execs_nil ?_); (try dsimp only))) | (k_unfold; (try dsimp only)) | (k_end; wrow_close) | ((with_reducible show wpAny _ _ _ _ _ _); (try dsimp only); walk1) | walk1 | (dsimp only; walk1) | (leave1; walk_say "STEP leave1"; try dsimp only))
  unfold Stop2
  (rename Fr _ _ _ _ => kF)
  (rename Frag.In _ _ => kX)
  (rename Top _ _ _ _ _ _ => kT)
  (rename Below _ _ _ _ => kB)
  have nx := at_w kX next
  have hc := law_cutX kX (by k_is)
  unfold LawAt at nx
  simp only [hc, List.drop_succ_cons, List.drop_zero] at nx
  refine nx _ _ _ _ _ _ _ _ callerA _ _ _ _ _ _ _ _ _ _ kB kF kX kT ?lawD ?lawU (P3_intro hl9 rfl rfl (by omega)) ?lawO ?lawR
  case lawD => ktr_room
  case lawU => ktr_units
  case lawO => walk1
  case lawR =>
    clear nx next
    intro h' tk' m' F'
    (try dsimp only)
    (try k_fold)
    first | (repeat' (first | ((with_reducible show StopK 1 _); unfold StopK; first | ((rename IntsAre _ (List.take _ _) => hW9); k_dflt (refine LCg.CompSrc.ledger (by rfl) (by k_asm) (by k_asm) (by k_mem) (take_size hW9) ?_; intro g'; (refine' texts_rest signOf hW9 (fun k' t' I' oI' C' oC' D' m' ys' h' tk' E' hk' hC' hx' F' N' off' ne' => ?_) ?_); kcf_last))) | ((with_reducible show StopK 2 _); unfold StopK; first | (refine LCg.CompEnd.intro (by k_asm) (by k_asm) _ (fun p hp => hp) (by first | (with_unfolding_all assumption) | (simp only [LCg.Off3, and_true]; assumption)) (by lcg_src) ?_; exact ⟨rfl, _, rfl⟩)) | ((with_reducible show StopK 3 _); unfold StopK; first | ((rename StrsAre _ (List.map _ _) => hS'); k_dflt (refine join_listW (by is_list) hS' (by decide +kernel) (sign_room _) ?_); intro _ _)) | ((with_reducible show StopK 4 _); unfold StopK; first | ((with_reducible show wpAny _ _ (call (Value.ref 92) _) _ _ _); k_dflt (((rename Below _ _ _ _ => zK); (rename Fr _ _ _ _ => zF); (rename News _ _ _ _ => zN); (rename Frag.In _ _ => zX); (rename Top _ _ _ _ _ _ => zT); k_dflt (refine' tell_use (cell_told _ _ _ _ _) zK zF zX zN zT rfl (CellRel.mk ?r1 ?r2 ?r3) ?kd ?ku ?_; (case r2 => assumption); (case r1 => is_list); (case r3 => omega); (case kd => first | omega | ktr_room); (case ku => first | omega | ktr_units))); intro r' tl' h' tk' hO' F' N' a'; obtain ⟨D9, us9, c9, ks9, e1, e2, hi9, hk9⟩ := hO'; subst e1; subst e2; (have hl9 := hk9.1); (simp only [List.cons_append, List.nil_append] at N'); (try dsimp only)))) | ((with_reducible show StopK 5 _); unfold StopK; first | ((first | (with_reducible refine has_le (by assumption) ?_) | (k_dflt (refine gen_le ?_); intro tk9 hle9; (try dsimp only at hle9))); (with_reducible refine wpAny_execs_cons ?_); (try dsimp only))) | ((with_reducible show StopK 6 _); unfold StopK; first | ((first | (with_reducible refine has_le (by assumption) ?_) | (k_dflt (refine gen_le ?_); intro tk9 hle9; (try dsimp only at hle9))); (with_reducible refine wpAny_execs_nil ?_); (try dsimp only))) | (k_unfold; (try dsimp only)) | (k_end; wrow_close) | ((with_reducible show wpAny _ _ _ _ _ _); (try dsimp only); walk1) | walk1 | (dsimp only; walk1) | (leave1; walk_say "STEP leave1"; try dsimp only)); done) | wrow_close)
end Mine
end

section
theorem Mine.fresh_T_lawB : True := by
  w_top off
  trivial
namespace Mine
section
variable {w : World} {mean : ExcName → Option Value} {mg mb : Str → Option Value}
theorem read_use {ts : List (List Nat × Int)} {dp un : Nat} {gd : Option (List Code)} {cn : Str} {cs : Scope} {a : Addr} {ccd : Value} {A₀ : Around} {h₀ : Heap} {L : Addr} {m : Str → Option Value} {news : List (Addr × Obj)} {hp : Heap} {gs : Array GenState} {dr : Drawn} {tk : Nat} {os : OsState} {vs : List Value} {Q E : Value → Shared → Prop}
    (C : ReadTell w mean mg mb ts) (B : Below A₀ h₀ [] h₀) (F : Fr h₀ L hp m) (X : (hd.heap_39 w.params).In h₀) (N : News h₀ L hp news) (T : Top hd.view_39 (looseW hd.view_39 [Str.ofString "COMPILER_FLAG_NAMES"]) mean mg mb h₀)
    (hk : cs.kind = .function) (R : ReadRel ts vs) (hd : dp + 4 < recursionLimit) (hu : un + 8 * 4 + 1000 < cLine) (h0 : 0 < tk)
    (ret : ∀ r tl h' tk', 0 < tk' → ReadOut ts tl r → Fr h₀ L h' m → News h₀ L h' (tl ++ news) → (∀ p ∈ tl, Apart p.1 news) → Q r ⟨h', gs, dr, tk', os⟩) :
    wpAny (model PySem.Challenge.rw_tr0038_01.row.prog w) (ktrTop dp un gd cn cs L a ccd [] []) (call (.ref 104) vs) Q E ⟨hp, gs, dr, tk, os⟩ :=
  wpAny_up (C _ _ _ _ _ _ _ _ _ _ _ _ _ _ _ _ _ _ _ _ _ B F X N T X T hk R hd hu fun r tl h' tk' ho F' N' a' hle => ret r tl h' tk' (Nat.lt_of_lt_of_le h0 hle) ho F' N' a')
theorem ne_same {prog : Program} {A : Around} {E : Value → Shared → Prop} {s : Shared} {a b : Addr} {xs ys : List Value} {ns : List Int} {Q : Value → Shared → Prop} (ha : s.heap.IsList a xs.toArray) (hb : s.heap.IsList b ys.toArray) (hi : IntsAre xs ns) (hj : IntsAre ys ns) (hu : A.units + 64 < cLine) (h : Q (.bool false) s) :
    wpAny (model prog w) A (compareOp .NotEq (.ref a) (.ref b)) Q E s := ke_ne_ints ha hb hi hj hu (by simpa using h)
end
local macro_rules | `(tactic| walk_at "call ref") => `(tactic| (k_here; refine at_stopK 1 ?_))
local macro_rules | `(tactic| walk_at "compareOp NotEq ref ref") => `(tactic| (k_here; refine at_stopK 2 ?_))
local macro_rules | `(tactic| walk_at "execs cons") => `(tactic| (k_here; refine at_stopK 3 ?_))
local macro_rules | `(tactic| walk_at "execs nil") => `(tactic| (k_here; refine at_stopK 4 ?_))
local macro_rules | `(tactic| walk_at "execs cons") => `(tactic| (k_here; (with_reducible show wpAny _ _ (execs (Stmt.Assign [Expr.Name (Str.ofString "bits") _] _ _ :: _) _) _ _ _); k_dflt (refine at_stop2 ?_)))
set_option maxHeartbeats 8000000 in
theorem lawB (w : World) (mean : ExcName → Option Value) (mg mb : Str → Option Value) (next : LawAt w mean mg mb 5 P5) : LawAt w mean mg mb 3 P3 := by
  unfold LawAt
  k_fill
  intro dp un gd a ccd A₀ h₀ L m hp gs dr tk os Q E B F X T hdp hun hP hE hret
  obtain ⟨l, x, t, hand, u, m1, m2, W, h7, ha, h5, hpos, N⟩ := hP
  rw [seen m1, seen m2] at F
  have hc := law_cut (P := w.params) (by k_is)
  unfold LawAt at next
  simp only [hc, List.drop_succ_cons, List.drop_zero] at next
  rw [hc] at hE ⊢
  (try simp only [List.drop_succ_cons, List.drop_zero])
  (try dsimp only)
  repeat' (first | ((with_reducible show StopK 1 _); unfold StopK; first | ((with_reducible show wpAny _ _ (call (Value.ref 109) _) _ _ _); (rename Wr _ (fun k => [k]) _ => W9c); (rename _ < 5 => h59c); k_dflt (((rename Below _ _ _ _ => zK); (rename Fr _ _ _ _ => zF); (rename News _ _ _ _ => zN); (rename Frag.In _ _ => zX); (rename Top _ _ _ _ _ _ => zT); k_dflt (refine' tell_useP (due_told _ _ _ _ _ _) zK zF zX zN zT rfl (DueRel.mk W9c ?r2 ?r3 h59c) ?kd ?ku ?kp ?_; (case r2 => omega); (case r3 => assumption); (case kd => first | omega | ktr_room); (case ku => first | omega | ktr_units); (case kp => ((try dsimp only); omega)))); intro r' tl' h' tk' h0' hO' F' N' a'; obtain ⟨D9, us9, c9, e1, e2, hi9⟩ := hO'; subst e1; subst e2; (simp only [List.cons_append, List.nil_append] at N'); (try dsimp only))) | ((with_reducible show wpAny _ _ (call (Value.ref 104) _) _ _ _); (rename Wr _ (spell _) _ => W9b); (rename _ < 5 => h59b); (rename List.length _ = 7 => h79b); (rename (∀ k ∈ _, k ∈ alph) => ha9b); (rename Below _ _ _ _ => K9); (rename Fr _ _ _ _ => F9); (rename News _ _ _ _ => N9); (rename Frag.In _ _ => X9); (rename Top _ _ _ _ _ _ => T9); k_dflt ((refine' read_use (read_told _ _ _ _ _) K9 F9 X9 N9 T9 rfl (read_rel W9b h79b ha9b h59b) ?kd ?ku ?kp ?_; (case kd => ktr_room); (case ku => ktr_units); (case kp => ((try dsimp only); omega))); intro r' tl' h' tk' h0' hO' F' N' a'; obtain ⟨D9, us9, c9, e1, e2, hi9⟩ := hO'; subst e1; subst e2; obtain ⟨x0, x1, x2, x3, x4, x5, x6, t0, t1, t2, t3, t4, t5, t6, vs9, e3, hS9, hv9, hI9⟩ := seven_nums hi9 h79b ha9b h59b; clear hi9; subst e3; (simp only [List.cons_append, List.nil_append] at N'); (try dsimp only))) | ((with_reducible show wpAny _ _ (call (Value.ref 99) _) _ _ _); (rename Wr _ _ _ => W9a); (rename _ < 5 => h59a); k_dflt (((rename Below _ _ _ _ => zK); (rename Fr _ _ _ _ => zF); (rename News _ _ _ _ => zN); (rename Frag.In _ _ => zX); (rename Top _ _ _ _ _ _ => zT); k_dflt (refine' tell_useP (wri_told _ _ _ _ _ _ h59a) zK zF zX zN zT rfl (WriRel.mk W9a ?r2 ?r3) ?kd ?ku ?kp ?_; (case r2 => omega); (case r3 => assumption); (case kd => first | omega | ktr_room); (case ku => first | omega | ktr_units); (case kp => ((try dsimp only); omega)))); intro r' tl' h' tk' h0' hO' F' N' a'; obtain ⟨x9, t9, e1, e2, W8⟩ := hO'; subst e1; subst e2; (simp only [List.cons_append, List.nil_append] at N'); (try dsimp only)))) | ((with_reducible show StopK 2 _); unfold StopK; first | (k_dflt (refine ne_same (by is_list) (by is_list) (by assumption) (by assumption) (by ktr_units) ?_))) | ((with_reducible show StopK 3 _); unfold StopK; first | ((first | (with_reducible refine has_le (by assumption) ?_) | (k_dflt (refine gen_le ?_); intro tk9 hle9; (try dsimp only at hle9))); (with_reducible refine wpAny_execs_cons ?_); (try dsimp only))) | ((with_reducible show StopK 4 _); unfold StopK; first | ((first | (with_reducible refine has_le (by assumption) ?_) | (k_dflt (refine gen_le ?_); intro tk9 hle9; (try dsimp only at hle9))); (with_reducible refine wpAny_execs_nil ?_); (try dsimp only))) | (k_unfold; (try dsimp only)) | (k_end; wrow_close) | ((with_reducible show wpAny _ _ (execs _ _) _ _ _); (try dsimp only); (try k_fold); walk1) | walk1 | (dsimp only; walk1) | (leave1; walk_say "STEP leave1"; try dsimp only))
  · unfold Stop2
    (rename Fr _ _ _ _ => kF)
    (rename News _ _ _ _ => kN)
    (rename SevenN _ _ _ _ _ _ _ => kS)
    (rename List.length _ ≤ 7 => kv)
    (rename Below _ _ _ _ => kB)
    (rename Frag.In _ _ => kX)
    (rename Top _ _ _ _ _ _ => kT)
    refine next dp un gd a ccd A₀ h₀ L _ _ gs dr _ os Q E kB kF kX kT hdp hun (P5_intro rfl kS (by omega) kv kN (by k_mem)) hE hret
end Mine
end

section
theorem Mine.fresh_T_lits : True := by
  w_top off
  trivial
namespace Mine
/-- a light made: where, and its tokens -/
structure LitP where
  a : Addr
  t1 : Tok
  t2 : Tok
  t3 : Tok
def litObjs (f : Int → Bool) : List Int → List LitP → List (Addr × Obj) → List (Addr × Obj)
  | k :: ks, p :: ps, acc => litObjs f ks ps ((p.a, lightOf (f k) p.t1 p.t2 p.t3) :: acc)
  | _, _, acc => acc
theorem litObjs_snoc {f : Int → Bool} {k : Int} {p : LitP} : ∀ (ks : List Int) (ps : List LitP) (acc : List (Addr × Obj)), ks.length = ps.length → litObjs f (ks ++ [k]) (ps ++ [p]) acc = (p.a, lightOf (f k) p.t1 p.t2 p.t3) :: litObjs f ks ps acc
  | [], [], _, _ => rfl
  | _ :: ks, _ :: ps, _, h => litObjs_snoc ks ps _ (Nat.succ.inj h)
  | [], _ :: _, _, h => nomatch h
  | _ :: _, [], _, h => nomatch h
def LitEl (f : Int → Bool) (nw : List (Addr × Obj)) (k : Int) (y : Value) (nw' : List (Addr × Obj)) : Prop := ∃ p : LitP, y = .ref p.a ∧ nw' = (p.a, lightOf (f k) p.t1 p.t2 p.t3) :: nw ∧ Toks3 p.t1 p.t2 p.t3
theorem src_more {h₀ : Heap} {ax : Addr} {its : Array Value} {d : Addr × Obj} {nw : List (Addr × Obj)} (h : LCg.SrcAt h₀ ax its nw) : LCg.SrcAt h₀ ax its (d :: nw) := by
  rcases h with h | ⟨o, hm, r⟩
  · exact .inl h
  · exact .inr ⟨o, .tail _ hm, r⟩
theorem seven_lits {ps : List LitP} (h : ps.length = 7) : ∃ p0 p1 p2 p3 p4 p5 p6, ps = [p0, p1, p2, p3, p4, p5, p6] := by
  match ps, h with
  | [p0, p1, p2, p3, p4, p5, p6], _ => exact ⟨p0, p1, p2, p3, p4, p5, p6, rfl⟩
theorem seven_vals {ys : List Value} {a0 a1 a2 a3 a4 a5 a6 : Int} (h : IntsAre ys [a0, a1, a2, a3, a4, a5, a6]) : ∃ t0 t1 t2 t3 t4 t5 t6, ys = [Value.int a0 t0, Value.int a1 t1, Value.int a2 t2, Value.int a3 t3, Value.int a4 t4, Value.int a5 t5, Value.int a6 t6] := by
  cases h with | cons _ t0 h => cases h with | cons _ t1 h => cases h with | cons _ t2 h => cases h with | cons _ t3 h => cases h with | cons _ t4 h => cases h with | cons _ t5 h => cases h with | cons _ t6 h => cases h with | nil => exact ⟨t0, t1, t2, t3, t4, t5, t6, rfl⟩
section
variable {prog : Program} {w : World} {A : Around} {h₀ : Heap} {L : Addr} {m : Str → Option Value} {env : Env} {elt : Expr} {x : Str} {scope : Scope} {cl : List (Str × Addr)} {s : Shared} {Fin : List Value → List (Addr × Obj) → Prop} {news : List (Addr × Obj)}
/-- the turns over ints, each a light -/
theorem lits_rest {ax : Addr} {its : Array Value} {vs : List Value} {ns : List Int} (f : Int → Bool) (hI : IntsAre vs ns) (hS0 : LCg.SrcAt h₀ ax its news)
    (turn : ∀ k t I oI C oC D m₂ ys nw h tk (E' : Value → Shared → Prop), k ∈ ns → LCg.NsObj oC m₂ → m₂ x = some (.int k t) → Fr h₀ L h m → News h₀ L h ((I, oI) :: (C, oC) :: (D, LCg.lst ys) :: nw) → LCg.Off3 I C D nw → ((@Ne Nat I C) ∧ (@Ne Nat I D) ∧ (@Ne Nat C D)) → LCg.SrcAt h₀ ax its nw →
      wpAny (model prog w) A (eval elt (compEnvC scope cl C env)) (LCg.CompEnd h₀ L m { s with heap := h, toks := tk } I oI C oC D (LCg.lst ys) (LCg.SrcAt h₀ ax its) (fun y nw' => LitEl f nw k y nw')) E' { s with heap := h, toks := tk })
    (fin : ∀ ps : List LitP, ps.length = ns.length → (∀ p ∈ ps, Toks3 p.t1 p.t2 p.t3) → Fin (ps.map fun p => Value.ref p.a) (litObjs f ns ps news)) : LCg.CompRest prog w A h₀ L m env elt x scope cl s (LCg.SrcAt h₀ ax its) (fun i v => vs.toArray[i]? = some v) Fin vs.toArray.size 0 [] news := by
  have hln : vs.length = ns.length := hI.length
  rw [List.size_toArray]
  have key : ∀ (j i : Nat) (ps : List LitP), i + j = vs.length → ps.length = i → (∀ p ∈ ps, Toks3 p.t1 p.t2 p.t3) → LCg.SrcAt h₀ ax its (litObjs f (ns.take i) ps news) →
      LCg.CompRest prog w A h₀ L m env elt x scope cl s (LCg.SrcAt h₀ ax its) (fun i v => vs.toArray[i]? = some v) Fin j i (ps.map fun p => Value.ref p.a) (litObjs f (ns.take i) ps news) := by
    intro j
    induction j with
    | zero =>
      intro i ps hi hp ht _
      have e : i = ns.length := by omega
      subst e
      rw [List.take_length]
      exact LCg.CompRest.zero (fin ps hp ht)
    | succ j ih =>
      intro i ps hi hp ht hS
      refine LCg.CompRest.succ ?_
      intro v I oI C oC D m₂ h tk E' hv hC hx F N off ne
      obtain ⟨k, t, e, hk⟩ := IntsAre.at hI i v (by simpa using hv)
      rw [e] at hx
      refine wpAny_mono (turn k t I oI C oC D m₂ _ _ h tk E' (List.mem_of_getElem? hk) hC hx F N off ne hS) (fun y s₂ hq => ?_) fun _ _ e => e
      obtain ⟨h', tk', nw, e, F', N', off', hS', p, hy, hn, hT⟩ := hq
      have hl : (ns.take i).length = ps.length := by rw [List.length_take, hp]; omega
      have e2 : litObjs f (ns.take (i + 1)) (ps ++ [p]) news = nw := by
        rw [List.take_add_one, hk, hn]
        exact litObjs_snoc _ _ _ hl
      refine ⟨h', tk', nw, e, F', N', off', hS', ?_⟩
      have r := ih (i + 1) (ps ++ [p]) (by omega) (by rw [List.length_append, hp]; rfl) (fun q hq => by
        rcases List.mem_append.mp hq with hq | hq
        · exact ht q hq
        · rw [List.mem_singleton.mp hq]
          exact hT) (by rw [e2]; exact hS')
      rw [e2, List.map_append] at r
      rw [hy]
      exact r
  have r := key vs.length 0 [] (by omega) rfl (fun _ h => nomatch h) (by rw [List.take_zero]; exact hS0)
  rw [List.take_zero] at r
  exact r
end
end Mine
end

section
theorem Mine.fresh_T_lawC : True := by
  w_top off
  trivial
namespace Mine
/-- half of a number -/
def halfF (x : Int) : UInt64 := Float64.ofFrac (decide (x < 0) != decide ((2 : Int) < 0)) x.natAbs (Int.natAbs 2)
theorem half_hue {x : Int} (h : IsNum x) : Hue (halfF x) (x.fmod 2 == 1) := by
  unfold IsNum at h
  rcases h with rfl | rfl | rfl | rfl | rfl | rfl | rfl | rfl | rfl | rfl <;> exact ⟨by decide +kernel, by decide +kernel, by decide +kernel, by decide +kernel, by decide +kernel, by decide +kernel⟩
theorem half_inf {x : Int} (h : IsNum x) : Float64.isInf (halfF x) = false := by
  unfold IsNum at h
  rcases h with rfl | rfl | rfl | rfl | rfl | rfl | rfl | rfl | rfl | rfl <;> decide +kernel
theorem div_num {prog : Program} {w : World} {A : Around} {E : Value → Shared → Prop} {s : Shared} {Q : Value → Shared → Prop} {x : Int} {t u : Tok} (hA : A.handled = none) (hx : IsNum x) (h : Q (.float (halfF x) s.toks) { s with toks := s.toks + 1 }) : wpAny (model prog w) A (binaryOp .Div (.int x t) (.int 2 u)) Q E s := by
  refine Flt.div_ii hA (fun e => absurd e (by decide)) (fun _ e => ?_) (fun _ _ => h)
  exact absurd (e.symm.trans (half_inf hx)) (by decide)
theorem seven_get {x0 x1 x2 x3 x4 x5 x6 x : Int} (h : SevenN x0 x1 x2 x3 x4 x5 x6) (hx : x = x0 ∨ x = x1 ∨ x = x2 ∨ x = x3 ∨ x = x4 ∨ x = x5 ∨ x = x6) : IsNum x := by
  obtain ⟨h0, h1, h2, h3, h4, h5, h6⟩ := h
  rcases hx with rfl | rfl | rfl | rfl | rfl | rfl | rfl <;> assumption
local macro_rules | `(tactic| walk_at "binaryOp Div int int") => `(tactic| (k_here; refine at_stopK 1 ?_))
local macro_rules | `(tactic| walk_at "CompSrc") => `(tactic| (k_here; refine at_stopK 2 ?_))
local macro_rules | `(tactic| walk_at "CompEnd") => `(tactic| (k_here; refine at_stopK 3 ?_))
local macro_rules | `(tactic| walk_at "call ref") => `(tactic| (k_here; refine at_stopK 4 ?_))
local macro_rules | `(tactic| walk_at "execs cons") => `(tactic| (k_here; refine at_stopK 5 ?_))
local macro_rules | `(tactic| walk_at "execs nil") => `(tactic| (k_here; refine at_stopK 6 ?_))
local macro_rules | `(tactic| walk_at "execs cons") => `(tactic| (k_here; (with_reducible show wpAny _ _ (execs (Stmt.If _ _ _ _ :: _) _) _ _ _); k_dflt (refine at_stop2 ?_)))
local macro_rules | `(tactic| walk_at "execs cons") => `(tactic| (k_here; (with_reducible show wpAny _ _ (execs (Stmt.Assign [Expr.Name (Str.ofString "lights") _] _ _ :: _) _) _ _ _); k_dflt (refine at_stop2 ?_)))
set_option maxHeartbeats 8000000 in
theorem lawC (w : World) (mean : ExcName → Option Value) (mg mb : Str → Option Value) (next : LawAt w mean mg mb 7 P7) : LawAt w mean mg mb 5 P5 := by
  unfold LawAt
  k_fill
  intro dp un gd a ccd A₀ h₀ L m hp gs dr tk os Q E B F X T hdp hun hP hE hret
  obtain ⟨D, x0, x1, x2, x3, x4, x5, x6, t0, t1, t2, t3, t4, t5, t6, vs, c, m1, hS, hpos, hv, N⟩ := hP
  rw [seen m1] at F
  have hc := law_cut (P := w.params) (by k_is)
  unfold LawAt at next
  simp only [hc, List.drop_succ_cons, List.drop_zero] at next
  rw [hc] at hE ⊢
  (try simp only [List.drop_succ_cons, List.drop_zero])
  (try dsimp only)
  refine execs_pos hpos ?_
  repeat' (first | ((with_reducible show StopK 1 _); unfold StopK; first | ((rename SevenN _ _ _ _ _ _ _ => hSd9); k_dflt (refine div_num rfl (seven_get hSd9 (by simpa using hk')) ?_))) | ((with_reducible show StopK 2 _); unfold StopK; first | ((with_reducible show LCg.CompSrc _ _ _ _ _ _ _ (Expr.Call _ _ _ _) _ _ _ _ _ _); k_dflt (refine LCg.CompSrc.ledger (by rfl) (by k_asm) (by k_asm) (by k_mem) (Nat.le_of_ble_eq_true rfl) ?_; intro g'; (refine' lits_rest (fun k => Int.fmod k 2 == 1) (.cons _ _ (.cons _ _ (.cons _ _ (.cons _ _ (.cons _ _ (.cons _ _ (.cons _ _ .nil))))))) (by lcg_src) (fun k' t' I' oI' C' oC' D' m' ys' nw' h' tk' E' hk' hC' hx' F' N' off' ne' hS' => ?_) (fun ps hps hpt => ?_))); rotate_left; obtain ⟨p0, p1, p2, p3, p4, p5, p6, e8⟩ := seven_lits hps; subst e8; (have z0 := hpt p0 (by simp)); (have z1 := hpt p1 (by simp)); (have z2 := hpt p2 (by simp)); (have z3 := hpt p3 (by simp)); (have z4 := hpt p4 (by simp)); (have z5 := hpt p5 (by simp)); (have z6 := hpt p6 (by simp)); clear hpt hps; (simp only [litObjs, List.map_cons, List.map_nil]); rotate_right) | ((with_reducible show LCg.CompSrc _ _ _ _ _ _ _ (Expr.BinOp _ _ _ _) _ _ _ _ _ _); k_dflt (refine LCg.CompSrc.ledger (by rfl) (by k_asm) (by k_asm) (by k_mem) (Nat.le_of_ble_eq_true rfl) ?_; intro g'; (refine' kcf_list (fun k => Int.fmod k 2) (.cons _ _ (.cons _ _ (.cons _ _ (.cons _ _ (.cons _ _ (.cons _ _ (.cons _ _ .nil))))))) (fun k' t' I' oI' C' oC' D' m' ys' h' tk' E' hk' hC' hx' F' N' off' ne' mk' => ?_) ?_)); rotate_left; unfold KPfDone; intro ys8 hI8; (simp only [List.map_cons, List.map_nil] at hI8); obtain ⟨u0, u1, u2, u3, u4, u5, u6, e8⟩ := seven_vals hI8; subst e8; clear hI8; rotate_right)) | ((with_reducible show StopK 3 _); unfold StopK; first | ((rename ApartN _ _ => a9c); (rename Fr _ _ _ _ => F9c); (rename News _ _ _ _ => N9c); k_dflt (refine lit_end F9c N9c a9c (by with_unfolding_all assumption) (src_more (by assumption)) ?_); clear a9c; exact ⟨⟨_, _, _, _⟩, rfl, rfl, toks_of q1 q2 q3⟩) | ((refine LCg.CompEnd.intro (by k_asm) (by k_asm) _ (fun p hp => hp) (by first | (with_unfolding_all assumption) | (simp only [LCg.Off3, and_true]; assumption)) (by lcg_src) ?_; exact ⟨rfl, _, rfl⟩))) | ((with_reducible show StopK 4 _); unfold StopK; first | ((with_reducible show wpAny _ _ (call (Value.ref 28) _) _ _ _); (rename SevenN _ _ _ _ _ _ _ => hSh9); (rename Below _ _ _ _ => K9h); (rename Fr _ _ _ _ => F9h); (rename News _ _ _ _ => N9h); (rename Frag.In _ _ => X9h); (rename Top _ _ _ _ _ _ => T9h); (rename _ + 20 < recursionLimit => d9h); (rename _ + 2000 < cLine => u9h); k_dflt ((refine' tellP_use (hsv_pos _ _ _ _ _) K9h F9h X9h N9h T9h rfl (HsvRel.mk (half_hue (seven_get hSh9 ?r0)) ⟨Nat.succ_pos _, Nat.lt_succ_of_lt (Nat.lt_succ_self _)⟩ ⟨Nat.succ_pos _, Nat.lt_succ_self _⟩) (room_in d9h (by decide)) (room_in (d := 2000) (b := 8 * 2 + 1000) u9h (by decide)) (Nat.succ_pos _) ?_; (case r0 => simpa using hk')); intro r' tl' h' tk' h0' hO' F' N' a'; obtain ⟨D9, t1, t2, t3, e1, e2, q1, q2, q3⟩ := hO'; subst e1; subst e2; (have a9 := apartN (a' _ (.head _))); clear a'; (simp only [List.cons_append, List.nil_append] at N'); clear F9h N9h; (try dsimp only)))) | ((with_reducible show StopK 5 _); unfold StopK; first | ((first | (with_reducible refine has_le (by assumption) ?_) | (k_dflt (refine gen_le ?_); intro tk9 hle9; (try dsimp only at hle9))); (with_reducible refine wpAny_execs_cons ?_); (try dsimp only))) | ((with_reducible show StopK 6 _); unfold StopK; first | ((first | (with_reducible refine has_le (by assumption) ?_) | (k_dflt (refine gen_le ?_); intro tk9 hle9; (try dsimp only at hle9))); (with_reducible refine wpAny_execs_nil ?_); (try dsimp only))) | (k_unfold; (try dsimp only)) | (k_end; wrow_close) | ((with_reducible show wpAny _ _ _ _ _ _); (try dsimp only); walk1) | walk1 | (dsimp only; walk1) | (leave1; walk_say "STEP leave1"; try dsimp only))
  unfold Stop2
  refine execs_pos (by (try dsimp only); assumption) ?_
  repeat' (first | ((with_reducible show StopK 1 _); unfold StopK; first | ((rename SevenN _ _ _ _ _ _ _ => hSd9); k_dflt (refine div_num rfl (seven_get hSd9 (by simpa using hk')) ?_))) | ((with_reducible show StopK 2 _); unfold StopK; first | ((with_reducible show LCg.CompSrc _ _ _ _ _ _ _ (Expr.Call _ _ _ _) _ _ _ _ _ _); k_dflt (refine LCg.CompSrc.ledger (by rfl) (by k_asm) (by k_asm) (by k_mem) (Nat.le_of_ble_eq_true rfl) ?_; intro g'; (refine' lits_rest (fun k => Int.fmod k 2 == 1) (.cons _ _ (.cons _ _ (.cons _ _ (.cons _ _ (.cons _ _ (.cons _ _ (.cons _ _ .nil))))))) (by lcg_src) (fun k' t' I' oI' C' oC' D' m' ys' nw' h' tk' E' hk' hC' hx' F' N' off' ne' hS' => ?_) (fun ps hps hpt => ?_))); rotate_left; obtain ⟨p0, p1, p2, p3, p4, p5, p6, e8⟩ := seven_lits hps; subst e8; (have z0 := hpt p0 (by simp)); (have z1 := hpt p1 (by simp)); (have z2 := hpt p2 (by simp)); (have z3 := hpt p3 (by simp)); (have z4 := hpt p4 (by simp)); (have z5 := hpt p5 (by simp)); (have z6 := hpt p6 (by simp)); clear hpt hps; (simp only [litObjs, List.map_cons, List.map_nil]); rotate_right) | ((with_reducible show LCg.CompSrc _ _ _ _ _ _ _ (Expr.BinOp _ _ _ _) _ _ _ _ _ _); k_dflt (refine LCg.CompSrc.ledger (by rfl) (by k_asm) (by k_asm) (by k_mem) (Nat.le_of_ble_eq_true rfl) ?_; intro g'; (refine' kcf_list (fun k => Int.fmod k 2) (.cons _ _ (.cons _ _ (.cons _ _ (.cons _ _ (.cons _ _ (.cons _ _ (.cons _ _ .nil))))))) (fun k' t' I' oI' C' oC' D' m' ys' h' tk' E' hk' hC' hx' F' N' off' ne' mk' => ?_) ?_)); rotate_left; unfold KPfDone; intro ys8 hI8; (simp only [List.map_cons, List.map_nil] at hI8); obtain ⟨u0, u1, u2, u3, u4, u5, u6, e8⟩ := seven_vals hI8; subst e8; clear hI8; rotate_right)) | ((with_reducible show StopK 3 _); unfold StopK; first | ((rename ApartN _ _ => a9c); (rename Fr _ _ _ _ => F9c); (rename News _ _ _ _ => N9c); k_dflt (refine lit_end F9c N9c a9c (by with_unfolding_all assumption) (src_more (by assumption)) ?_); clear a9c; exact ⟨⟨_, _, _, _⟩, rfl, rfl, toks_of q1 q2 q3⟩) | ((refine LCg.CompEnd.intro (by k_asm) (by k_asm) _ (fun p hp => hp) (by first | (with_unfolding_all assumption) | (simp only [LCg.Off3, and_true]; assumption)) (by lcg_src) ?_; exact ⟨rfl, _, rfl⟩))) | ((with_reducible show StopK 4 _); unfold StopK; first | ((with_reducible show wpAny _ _ (call (Value.ref 28) _) _ _ _); (rename SevenN _ _ _ _ _ _ _ => hSh9); (rename Below _ _ _ _ => K9h); (rename Fr _ _ _ _ => F9h); (rename News _ _ _ _ => N9h); (rename Frag.In _ _ => X9h); (rename Top _ _ _ _ _ _ => T9h); (rename _ + 20 < recursionLimit => d9h); (rename _ + 2000 < cLine => u9h); k_dflt ((refine' tellP_use (hsv_pos _ _ _ _ _) K9h F9h X9h N9h T9h rfl (HsvRel.mk (half_hue (seven_get hSh9 ?r0)) ⟨Nat.succ_pos _, Nat.lt_succ_of_lt (Nat.lt_succ_self _)⟩ ⟨Nat.succ_pos _, Nat.lt_succ_self _⟩) (room_in d9h (by decide)) (room_in (d := 2000) (b := 8 * 2 + 1000) u9h (by decide)) (Nat.succ_pos _) ?_; (case r0 => simpa using hk')); intro r' tl' h' tk' h0' hO' F' N' a'; obtain ⟨D9, t1, t2, t3, e1, e2, q1, q2, q3⟩ := hO'; subst e1; subst e2; (have a9 := apartN (a' _ (.head _))); clear a'; (simp only [List.cons_append, List.nil_append] at N'); clear F9h N9h; (try dsimp only)))) | ((with_reducible show StopK 5 _); unfold StopK; first | ((first | (with_reducible refine has_le (by assumption) ?_) | (k_dflt (refine gen_le ?_); intro tk9 hle9; (try dsimp only at hle9))); (with_reducible refine wpAny_execs_cons ?_); (try dsimp only))) | ((with_reducible show StopK 6 _); unfold StopK; first | ((first | (with_reducible refine has_le (by assumption) ?_) | (k_dflt (refine gen_le ?_); intro tk9 hle9; (try dsimp only at hle9))); (with_reducible refine wpAny_execs_nil ?_); (try dsimp only))) | (k_unfold; (try dsimp only)) | (k_end; wrow_close) | ((with_reducible show wpAny _ _ _ _ _ _); (try dsimp only); walk1) | walk1 | (dsimp only; walk1) | (leave1; walk_say "STEP leave1"; try dsimp only))
  unfold Stop2
  (rename 0 < _ => hp2)
  (rename Below _ _ _ _ => kB)
  (rename Frag.In _ _ => kX)
  (rename Top _ _ _ _ _ _ => kT)
  (rename Fr _ _ _ _ => kF)
  (rename News _ _ _ _ => kN)
  (rename _ + 20 < recursionLimit => kd)
  (rename _ + 2000 < cLine => ku)
  (rename SevenN _ _ _ _ _ _ _ => kS)
  refine next dp un gd a ccd A₀ h₀ L _ _ gs dr _ os Q E kB kF kX kT kd ku (P7.mk rfl rfl kS hp2 kN (by lcg_sub) z0 z1 z2 z3 z4 z5 z6) hE hret
end Mine
end

section
theorem Mine.fresh_T_lawD : True := by
  w_top off
  trivial
namespace Mine
local macro_rules | `(tactic| walk_at "CompSrc") => `(tactic| (k_here; refine at_stopK 1 ?_))
local macro_rules | `(tactic| walk_at "CompEnd") => `(tactic| (k_here; refine at_stopK 2 ?_))
local macro_rules | `(tactic| walk_at "eval IfExp") => `(tactic| (k_here; refine at_stopK 3 ?_))
local macro_rules | `(tactic| walk_at "compareOp NotEq ref ref") => `(tactic| (k_here; refine at_stopK 4 ?_))
local macro_rules | `(tactic| walk_at "call ref") => `(tactic| (k_here; refine at_stopK 5 ?_))
local macro_rules | `(tactic| walk_at "execs cons") => `(tactic| (k_here; (with_reducible show wpAny _ _ (execs (Stmt.For _ _ _ _ _ :: _) _) _ _ _); k_dflt (refine at_stop2 ?_)))
set_option maxHeartbeats 2000000 in
theorem lawD (w : World) (mean : ExcName → Option Value) (mg mb : Str → Option Value) (next : LawAt w mean mg mb 9 P9) : LawAt w mean mg mb 7 P7 := by
  unfold LawAt
  k_fill
  intro dp un gd a ccd A₀ h₀ L m hp gs dr tk os Q E B F X T hdp hun hP hE hret
  cases hP with
  | mk m1 m2 hS hpos N0 hsub k0 k1 k2 k3 k4 k5 k6 =>
  have N := news_some N0 hsub
  clear hsub N0
  rw [seen m1, seen m2] at F
  have hc := law_cut (P := w.params) (by k_is)
  unfold LawAt at next
  simp only [hc, List.drop_succ_cons, List.drop_zero] at next
  rw [hc] at hE ⊢
  (try simp only [List.drop_succ_cons, List.drop_zero])
  (try dsimp only)
  have hmk : StopMark := trivial
  refine execs_pos hpos ?_
  repeat' (first | ((with_reducible show StopK 1 _); unfold StopK; first | (k_dflt (refine LCg.CompSrc.ledger (by rfl) (by k_asm) (by k_asm) (by k_mem) (Nat.le_of_ble_eq_true rfl) ?_; intro g'; (refine' lits_rest (fun k => k == 1) (.cons _ _ (.cons _ _ (.cons _ _ (.cons _ _ (.cons _ _ (.cons _ _ (.cons _ _ .nil))))))) (by lcg_src) (fun k' t' I' oI' C' oC' D' m' ys' nw' h' tk' E' hk' hC' hx' F' N' off' ne' hS' => ?_) (fun ps hps hpt => ?_))); (obtain ⟨xx, ex⟩ : ∃ xx, k' = Int.fmod xx 2 := by (simp only [List.mem_cons, List.not_mem_nil, or_false] at hk'; rcases hk' with e | e | e | e | e | e | e <;> exact ⟨_, e⟩)); subst ex; clear hk'; rotate_left; obtain ⟨p0, p1, p2, p3, p4, p5, p6, e8⟩ := seven_lits hps; subst e8; (have z0 := hpt p0 (by simp)); (have z1 := hpt p1 (by simp)); (have z2 := hpt p2 (by simp)); (have z3 := hpt p3 (by simp)); (have z4 := hpt p4 (by simp)); (have z5 := hpt p5 (by simp)); (have z6 := hpt p6 (by simp)); clear hpt hps; (simp only [litObjs, List.map_cons, List.map_nil]); rotate_right)) | ((with_reducible show StopK 2 _); unfold StopK; first | ((rename ApartN _ _ => a9e); (rename Fr _ _ _ _ => F9e); (rename News _ _ _ _ => N9e); (rename Toks3 _ _ _ => q9e); k_dflt (refine lit_end F9e N9e a9e (by with_unfolding_all assumption) (src_more (by assumption)) ?_); clear a9e; exact ⟨⟨_, _, _, _⟩, rfl, rfl, q9e⟩)) | ((with_reducible show StopK 3 _); unfold StopK; first | ((rename Fr _ _ _ _ => F9i); (rename News _ _ _ _ => N9i); (rename _ = some (Value.int (Int.fmod _ 2) _) => hx8); k_dflt (refine' if_cut F9i N9i hx8 ?h ?_; (case h => ((with_reducible refine IfExp_ ?_); k_steps; all_goals ((rename Fr _ _ _ _ => F8i); (rename News _ _ _ _ => N8i); first | ((rename Int.fmod _ 2 = 1 => hz8); exact if_yes hz8 F8i N8i ⟨Nat.succ_pos _, Nat.succ_pos _, Nat.succ_pos _⟩ (by simp only [AllLt, and_true]; assumption)) | ((rename Int.fmod _ 2 ≠ 1 => hz8); exact if_no hz8 F8i N8i ⟨Nat.succ_pos _, Nat.succ_pos _, Nat.succ_pos _⟩ (by simp only [AllLt, and_true]; assumption))))); intro D9 h' t1 t2 t3 tk' F' N' q9 a9; (have a7 := apartN_lt a9); clear a9 F9i N9i))) | ((with_reducible show StopK 4 _); unfold StopK; first | (k_dflt (refine lights7_ne (by assumption) (by k_asm) (by k_asm) (by lcg_sub) (by assumption) (by assumption) (by assumption) (by assumption) (by assumption) (by assumption) (by assumption) (by assumption) (by assumption) (by assumption) (by assumption) (by assumption) (by assumption) (by assumption) (by ktr_units) ?_))) | ((with_reducible show StopK 5 _); unfold StopK; first | ((with_reducible show wpAny _ _ (call (Value.ref 123) _) _ _ _); (rename Below _ _ _ _ => K9g); (rename Fr _ _ _ _ => F9g); (rename News _ _ _ _ => N9g); (rename Frag.In _ _ => X9g); (rename Top _ _ _ _ _ _ => T9g); (rename _ + 20 < recursionLimit => d9g); (rename _ + 2000 < cLine => u9g); k_dflt ((refine' tellP_use (grown_pos _ _ _ _ _) K9g F9g X9g N9g T9g rfl (grown_rel N9g ?r0) (room_in d9g (by decide)) (room_in (d := 2000) (b := 8 * 8 + 1000) u9g (by decide)) ?r1 ?_; (case r0 => lcg_sub); (case r1 => ((try dsimp only); assumption))); intro r' tl' h' tk' h0' hO' F' N' a'; obtain ⟨S9, us9, c9, objs9, e1, e2, g1, g2⟩ := hO'; subst e1; subst e2; clear a'; (simp only [List.cons_append, List.nil_append] at N'); clear F9g N9g; (try dsimp only)))) | (k_unfold; (try dsimp only)) | (k_end; wrow_close) | ((with_reducible show wpAny _ _ _ _ _ _); (try dsimp only); walk1) | walk1 | (dsimp only; walk1) | (leave1; walk_say "STEP leave1"; try dsimp only))
  unfold Stop2
  (rename Below _ _ _ _ => kB)
  (rename Frag.In _ _ => kX)
  (rename Top _ _ _ _ _ _ => kT)
  (rename Fr _ _ _ _ => kF)
  (rename News _ _ _ _ => kN)
  (rename _ + 20 < recursionLimit => kd)
  (rename _ + 2000 < cLine => ku)
  (rename SevenN _ _ _ _ _ _ _ => kS)
  (rename List.length _ = 7 => g1)
  (rename (∀ n, n < 7 → _) => g2)
  refine next dp un gd a ccd A₀ h₀ L _ _ gs dr _ os Q E kB kF kX kT kd ku (P9_intro rfl rfl kS g1 g2 kN (by k_mem)) hE hret
end Mine
end

section
theorem Mine.fresh_T_plainF : True := by
  w_top off
  trivial
namespace Mine
theorem tell_weak {w : World} {mean : ExcName → Option Value} {mg mb : Str → Option Value} {f : Addr} {dep : Nat} {Rel Rel' : Heap → List Value → Prop} {Out Out' : List (Addr × Obj) → Value → Prop} (T : Tell w mean mg mb f dep Rel Out)
    (hr : ∀ h vs, Rel' h vs → Rel h vs) (ho : ∀ tl r, Out tl r → Out' tl r) : Tell w mean mg mb f dep Rel' Out' :=
  fun dp un gd cn cs a ccd cl outer A₀ base h₀ L m hp gs dr tk os vs Q E B F X Tp hk hR hd hu hret => T dp un gd cn cs a ccd cl outer A₀ base h₀ L m hp gs dr tk os vs Q E B F X Tp hk (hr _ _ hR) hd hu fun r tl h' tk' k n o => hret r tl h' tk' k n (ho _ _ o)
def FitsAt (bits : List Bool) (n : Nat) (us : List Value) (fs : List Int) : Prop := IntsAre us fs ∧ us.length = 2 ^ (2 * (bmAt bits n).size - n) ∧ (((bmAt bits n).taps : Nat) : Int) ∈ fs
inductive AtRel (bits : List Bool) (n : Nat) : Heap → List Value → Prop where
  | mk {b : Heap} {l : Addr} {us : List Value} : b.IsList l us.toArray → IntsAre us ((bitInts bits).take n) → AtRel bits n b [.ref l]
def AtOut (bits : List Bool) (n : Nat) (tl : List (Addr × Obj)) (r : Value) : Prop := ∃ T D us c t fs, tl = [(T, tupOf [.int (((bmAt bits n).size : Nat) : Int) t, .ref D]), (D, listOf (List.toArray us) c)] ∧ r = .ref T ∧ FitsAt bits n us fs
theorem bit_take (bits : List Bool) (n : Nat) : (bitInts bits).take n = bitInts (bits.take n) := by
  unfold bitInts
  rw [List.map_take]
theorem short_at (w : World) (mean : ExcName → Option Value) (mg mb : Str → Option Value) {bits : List Bool} {n : Nat} (h7 : bits.length = 7) (h1 : 1 ≤ n) (h2 : n ≤ 7) : Tell w mean mg mb 133 6 (AtRel bits n) (AtOut bits n) := by
  have hl : (bitInts (bits.take n)).length = n := by
    unfold bitInts
    rw [List.length_map, List.length_take]
    omega
  refine tell_weak (short_told w mean mg mb (bitInts (bits.take n))) (fun h vs hR => ?_) fun tl r hO => ?_
  · cases hR with
    | mk a b => exact .mk a (bit_take bits n ▸ b) (by omega)
  · obtain ⟨T, D, us, c, t, e1, e2, hi⟩ := hO
    rw [hl] at e1 hi
    obtain ⟨g1, g2, g3⟩ := bm_law h7 h1 h2
    rw [← g1] at e1
    exact ⟨T, D, us, c, t, _, e1, e2, hi, by rw [hi.length, g2], g3⟩
/-- the places, as ints -/
def placeInts (f : Nat) : List Int := (placesOf f 8).map fun j => ((j : Nat) : Int)
theorem place_bnd {f : Nat} {k : Int} (h : k ∈ placeInts f) : 0 ≤ k ∧ k < 8 := by
  obtain ⟨j, hj, rfl⟩ := List.mem_map.mp h
  have := List.mem_range.mp (List.mem_filter.mp hj).1
  omega
def okPlace (f : Nat) : Bool := decide ((placeInts f).Pairwise (· ≤ ·)) && decide (((placeInts f).map fun k => (2 : Int) ^ k.toNat).foldl (fun a b => a + b) 0 = (f : Int)) && decide (((placeInts f).map fun k => (2 : Int) ^ k.toNat).sum = (f : Int))
theorem place_all : ∀ f, f < 256 → okPlace f = true := by decide +kernel
theorem place_sort {f : Nat} (h : f < 256) : (placeInts f).Pairwise (· ≤ ·) := by
  have h1 := place_all f h
  simp only [okPlace, Bool.and_eq_true, decide_eq_true_eq] at h1
  exact h1.1.1
theorem place_sum {f : Nat} (h : f < 256) : ((placeInts f).map fun k => (2 : Int) ^ k.toNat).sum = (f : Int) := by
  have h1 := place_all f h
  simp only [okPlace, Bool.and_eq_true, decide_eq_true_eq] at h1
  exact h1.2
theorem place_len (f : Nat) : (placeInts f).length ≤ 8 := by
  unfold placeInts
  rw [List.length_map]
  have := names_len f 8
  unfold namesOf at this
  rwa [List.length_map] at this
theorem perm_sorted {a b : List Int} (p : a.Perm b) (ha : a.Pairwise (· ≤ ·)) (hb : b.Pairwise (· ≤ ·)) : a = b := p.eq_of_pairwise (fun _ _ _ _ h1 h2 => Int.le_antisymm h1 h2) ha hb
section
variable {prog : Program} {w : World} {A : Around} {h₀ : Heap} {L : Addr} {m : Str → Option Value} {env : Env} {elt : Expr} {x : Str} {scope : Scope} {cl : List (Str × Addr)} {s : Shared} {S : List (Addr × Obj) → Prop} {Fin : List Value → List (Addr × Obj) → Prop} {news : List (Addr × Obj)}
/-- the turns over the words of the flags -/
theorem words_rest {vs : List Value} {f : Nat} (hW : StrsAre vs (namesOf f 8))
    (turn : ∀ (j : Nat) t I oI C oC D m₂ ys h tk (E' : Value → Shared → Prop), j < 8 → LCg.NsObj oC m₂ → m₂ x = some (.str (nameAt j) t) → Fr h₀ L h m → News h₀ L h ((I, oI) :: (C, oC) :: (D, LCg.lst ys) :: news) → LCg.Off3 I C D news → ((@Ne Nat I C) ∧ (@Ne Nat I D) ∧ (@Ne Nat C D)) →
      wpAny (model prog w) A (eval elt (compEnvC scope cl C env)) (LCg.CompEnd h₀ L m { s with heap := h, toks := tk } I oI C oC D (LCg.lst ys) S (fun y news' => KCfEl news ((j : Nat) : Int) y news')) E' { s with heap := h, toks := tk })
    (fin : ∀ ys, IntsAre ys (placeInts f) → Fin ys news) : LCg.CompRest prog w A h₀ L m env elt x scope cl s S (fun i v => vs.toArray[i]? = some v) Fin vs.toArray.size 0 [] news := by
  have hln : vs.length = (placesOf f 8).length := by
    rw [hW.length]
    unfold namesOf
    rw [List.length_map]
  rw [List.size_toArray]
  have key : ∀ (j i : Nat) (ys : List Value), i + j = vs.length → IntsAre ys (((placesOf f 8).take i).map fun j => ((j : Nat) : Int)) → LCg.CompRest prog w A h₀ L m env elt x scope cl s S (fun i v => vs.toArray[i]? = some v) Fin j i ys news := by
    intro j
    induction j with
    | zero =>
      intro i ys hi hy
      have e : i = (placesOf f 8).length := by omega
      subst e
      rw [List.take_length] at hy
      exact LCg.CompRest.zero (fin ys hy)
    | succ j ih =>
      intro i ys hi hy
      refine LCg.CompRest.succ ?_
      intro v I oI C oC D m₂ h tk E' hv hC hx F N off ne
      obtain ⟨p, t, hp, hv'⟩ := word_at hW (by simpa using hv)
      rw [hv'] at hx
      have hp8 : p < 8 := List.mem_range.mp (List.mem_filter.mp (List.mem_of_getElem? hp)).1
      refine wpAny_mono (turn p t I oI C oC D m₂ ys h tk E' hp8 hC hx F N off ne) (fun y s₂ hq => ?_) fun _ _ e => e
      obtain ⟨h', tk', nw, e, F', N', off', hS, hn, t', hy'⟩ := hq
      rw [hn] at N' off' hS
      refine ⟨h', tk', news, e, F', N', off', hS, ?_⟩
      rw [hy']
      refine ih (i + 1) _ (by omega) ?_
      rw [List.take_add_one, hp]
      simpa using IntsAre.append hy (.cons ((p : Nat) : Int) t' .nil)
  exact key vs.length 0 [] (by omega) (by simp only [List.take_zero, List.map_nil]; exact .nil)
theorem sorted_same {vs : List Value} {ns : List Int} {l : Addr} {E : Value → Shared → Prop} {Q : Value → Shared → Prop} (F : Fr h₀ L s.heap m) (N : News h₀ L s.heap news) (hl : s.heap.IsList l vs.toArray) (hi : IntsAre vs ns) (h64 : ns.length < 64) (hs : ns.Pairwise (· ≤ ·))
    (h : ∀ D vs' c h', Fr h₀ L h' m → News h₀ L h' ((D, PySem.W.listOf vs'.toArray c) :: news) → (∀ q ∈ news, q.1 < D) → IntsAre vs' ns → Q (.ref D) { s with heap := h' }) :
    wpAny (model prog w) A (call (.builtin "sorted") [.ref l]) Q E s :=
  kso_sorted F N hl hi h64 fun D vs' ns' c h' F' N' lt hi' _ p o _ => h D vs' c h' F' N' lt (perm_sorted p o hs ▸ hi')
end
/-- the bits told as ints -/
theorem bit_ints {x0 x1 x2 x3 x4 x5 x6 : Int} {u0 u1 u2 u3 u4 u5 u6 : Tok} : IntsAre [Value.int (Int.fmod x0 2) u0, Value.int (Int.fmod x1 2) u1, Value.int (Int.fmod x2 2) u2, Value.int (Int.fmod x3 2) u3, Value.int (Int.fmod x4 2) u4, Value.int (Int.fmod x5 2) u5, Value.int (Int.fmod x6 2) u6]
    (bitInts [Int.fmod x0 2 == 1, Int.fmod x1 2 == 1, Int.fmod x2 2 == 1, Int.fmod x3 2 == 1, Int.fmod x4 2 == 1, Int.fmod x5 2 == 1, Int.fmod x6 2 == 1]) := by
  have key : ∀ x : Int, (if (Int.fmod x 2 == 1) = true then (1 : Int) else 0) = Int.fmod x 2 := fun x => by
    have h1 := Int.fmod_nonneg_of_pos x (by decide : (0 : Int) < 2)
    have h2 := Int.fmod_lt_of_pos x (by decide : (0 : Int) < 2)
    by_cases h : Int.fmod x 2 = 1
    · rw [if_pos (beq_iff_eq.mpr h), h]
    · rw [if_neg (fun q => h (beq_iff_eq.mp q))]
      omega
  unfold bitInts
  simp only [List.map_cons, List.map_nil, key]
  exact .cons _ _ (.cons _ _ (.cons _ _ (.cons _ _ (.cons _ _ (.cons _ _ (.cons _ _ .nil))))))
/-- what stands ahead of the last loop, in few words -/
theorem P9_open {h₀ hp : Heap} {L : Addr} {m : Str → Option Value} {tk : Nat} (h : P9 h₀ L hp m tk) : ∃ Db S vs us c c2 bits objs, m (Str.ofString "bits") = some (.ref Db) ∧ m (Str.ofString "steps") = some (.ref S) ∧ bits.length = 7 ∧ IntsAre vs (bitInts bits) ∧ StepsAre bits us objs 7 ∧
    News h₀ L hp ((Db, listOf (List.toArray vs) c2) :: (S, listOf (List.toArray us) c) :: objs) := by
  cases h with
  | @mk Db S x0 x1 x2 x3 x4 x5 x6 u0 u1 u2 u3 u4 u5 u6 us c objs news m1 m2 hS g1 g2 N hb =>
    exact ⟨Db, S, _, us, c, _, _, objs, m1, m2, rfl, bit_ints, ⟨g1, g2⟩, news_some N hb⟩
theorem words_size {vs : List Value} {f : Nat} (hW : StrsAre vs (namesOf f 8)) : vs.toArray.size ≤ sizeLine := by
  rw [List.size_toArray, hW.length, PySem.sizeLine_eq]
  have := names_len f 8
  omega
theorem place_size {vs : List Value} {f : Nat} (hI : IntsAre vs (placeInts f)) : vs.toArray.size ≤ sizeLine := by
  rw [List.size_toArray, hI.length, PySem.sizeLine_eq]
  have := place_len f
  omega
section
variable {prog : Program} {w : World} {A : Around} {E : Value → Shared → Prop} {s : Shared} {h₀ : Heap} {L : Addr} {m : Str → Option Value} {news : List (Addr × Obj)} {Q : Value → Shared → Prop}
theorem max_zero {b : Int} {e : Nat} {t u : Tok} (hh : A.handled = none) (F : Fr h₀ L s.heap m) (N : News h₀ L s.heap news) (he : (b > 0 → b = (e : Int)) ∧ (¬ b > 0 → e = 0))
    (h : ∀ h' tk t', Fr h₀ L h' m → News h₀ L h' news → Q (.int ((e : Nat) : Int) t') { s with heap := h', toks := tk }) : wpAny (model prog w) A (call (.builtin "max") [.int 0 t, .int b u]) Q E s :=
  max_two_N hh F N fun h' tk F' N' => by
    by_cases c : b > 0
    · rw [if_pos c, if_pos c, he.1 c]
      exact h h' tk u F' N'
    · rw [if_neg c, if_neg c]
      have h1 := h h' tk t F' N'
      rw [he.2 c] at h1
      exact h1
theorem max_size {z n : Nat} {t u : Tok} (hh : A.handled = none) (F : Fr h₀ L s.heap m) (N : News h₀ L s.heap news)
    (h : ∀ h' tk t', Fr h₀ L h' m → News h₀ L h' news → Q (.int ((2 * z - n : Nat) : Int) t') { s with heap := h', toks := tk }) : wpAny (model prog w) A (call (.builtin "max") [.int 0 t, .int (2 * ((z : Nat) : Int) - ((n : Nat) : Int)) u]) Q E s :=
  max_zero hh F N ⟨fun c => by omega, fun c => by omega⟩ h
theorem ne_selfI {a : Int} {t u : Tok} (h : Q (.bool false) s) : wpAny (model prog w) A (compareOp .NotEq (.int a t) (.int a u)) Q E s := PyProof.Rows.ne_int (by rw [bne_self_eq_false]; exact h)
theorem pow_two {e : Nat} {t u : Tok} (he : e ≤ 20) (h : Q (.int ((2 ^ e : Nat) : Int) s.toks) { s with toks := s.toks + 1 }) : wpAny (model prog w) A (binaryOp .Pow (.int 2 t) (.int ((e : Nat) : Int) u)) Q E s := by
  refine pow_int_small (by omega) (by omega) (by decide) ?_
  have e1 : (2 : Int) ^ ((e : Nat) : Int).toNat = ((2 ^ e : Nat) : Int) := by
    rw [Int.toNat_natCast, Int.natCast_pow]
    rfl
  rw [e1]
  exact h
theorem len_fits {l : Addr} {us : List Value} {e : Nat} (hl : s.heap.IsList l us.toArray) (hu : us.length = 2 ^ e) (he : e ≤ 20)
    (h : Q (.int ((2 ^ e : Nat) : Int) (s.toks + 1)) { s with toks := s.toks + 1 + 1 }) : wpAny (model prog w) A (call (.builtin "len") [.ref l]) Q E s := by
  have e0 : us.toArray.size = 2 ^ e := by rw [List.size_toArray, hu]
  have e1 : 2 ^ e ≤ 2 ^ 20 := Nat.pow_le_pow_right (by decide) he
  refine len_list hl (by rw [e0]; omega) ?_
  rw [e0]
  exact h
end
theorem notin_fits {prog : Program} {w : World} {A : Around} {E : Value → Shared → Prop} {s : Shared} {Q : Value → Shared → Prop} {l : Addr} {us : List Value} {bits : List Bool} {n : Nat} {fs : List Int} {t : Tok} (hl : s.heap.IsList l us.toArray) (hf : FitsAt bits n us fs) (hb : (bmAt bits n).taps < 256) (h : Q (.bool false) s) :
    wpAny (model prog w) A (compareOp .NotIn (.int (((placeInts (bmAt bits n).taps).map fun k => (2 : Int) ^ k.toNat).sum) t) (.ref l)) Q E s := by
  rw [place_sum hb]
  refine notin_list_ints hl hf.1 ?_
  have e : (fs.any fun x => x == (((bmAt bits n).taps : Nat) : Int)) = true := List.any_eq_true.mpr ⟨_, hf.2.2, beq_self_eq_true _⟩
  rw [e]
  exact h
def LfJ (Db S : Addr) (base : List (Addr × Obj)) (_m₀ : Str → Option Value) (_i : Nat) (m : Str → Option Value) (nx : List (Addr × Obj)) : Prop :=
  nx = base ∧ m (Str.ofString "bits") = some (.ref Db) ∧ m (Str.ofString "steps") = some (.ref S)
end Mine
end

section
theorem Mine.fresh_T_lawF : True := by
  w_top off
  trivial
namespace Mine
theorem lf_map {m : Str → Option Value} {a b : Value} (h0 : m (Str.ofString "bits") = some a) (h1 : m (Str.ofString "steps") = some b) : m = fun y => if y = Str.ofString "bits" then some a else if y = Str.ofString "steps" then some b else m y := by
  funext y
  by_cases q0 : y = Str.ofString "bits"
  · rw [if_pos q0, q0, h0]
  rw [if_neg q0]
  by_cases q1 : y = Str.ofString "steps"
  · rw [if_pos q1, q1, h1]
  rw [if_neg q1]
theorem lf_news {h₀ h : Heap} {L : Addr} {a b c : Addr × Obj} {objs own : List (Addr × Obj)} (N : News h₀ L h (a :: b :: objs ++ own)) (hc : c ∈ objs) : News h₀ L h (c :: a :: b :: (objs ++ own)) := fun p hp => by
  rcases List.mem_cons.mp hp with rfl | hp
  · exact N _ (List.mem_append_left _ (.tail _ (.tail _ hc)))
  · exact N p hp
local macro_rules | `(tactic| walk_at "call ref") => `(tactic| (k_here; refine at_stopK 1 ?_))
local macro_rules | `(tactic| walk_at "exec For Name Call cons nil") => `(tactic| (k_here; refine at_stop2 ?_))
local macro_rules | `(tactic| walk_at "InvEndN") => `(tactic| (k_here; refine at_stop2 ?_))
local macro_rules | `(tactic| walk_at "call type:range") => `(tactic| (k_here; refine at_stop2 ?_))
local macro_rules | `(tactic| walk_at "subscriptTail Name BinOp ref int") => `(tactic| (k_here; refine at_stopK 2 ?_))
local macro_rules | `(tactic| walk_at "call builtin:len") => `(tactic| (k_here; refine at_stopK 3 ?_))
local macro_rules | `(tactic| walk_at "call builtin:max") => `(tactic| (k_here; refine at_stopK 4 ?_))
local macro_rules | `(tactic| walk_at "compareOp NotEq int int") => `(tactic| (k_here; refine at_stopK 5 ?_))
local macro_rules | `(tactic| walk_at "binaryOp Pow int int") => `(tactic| (k_here; refine at_stopK 6 ?_))
local macro_rules | `(tactic| walk_at "call builtin:str.split") => `(tactic| (k_here; refine at_stopK 7 ?_))
local macro_rules | `(tactic| walk_at "call builtin:list.index") => `(tactic| (k_here; refine at_stopK 8 ?_))
local macro_rules | `(tactic| walk_at "CompSrc") => `(tactic| (k_here; refine at_stopK 9 ?_))
local macro_rules | `(tactic| walk_at "exec Assign cons ListComp") => `(tactic| (k_here; refine at_stopK 10 ?_))
local macro_rules | `(tactic| walk_at "eval ListComp") => `(tactic| (k_here; refine at_stopK 11 ?_))
local macro_rules | `(tactic| walk_at "FinA") => `(tactic| (k_here; refine at_stopK 12 ?_))
local macro_rules | `(tactic| walk_at "call builtin:sorted") => `(tactic| (k_here; refine at_stopK 13 ?_))
local macro_rules | `(tactic| walk_at "compareOp NotIn int ref") => `(tactic| (k_here; refine at_stopK 14 ?_))
local macro_rules | `(tactic| units_room) => `(tactic| ktr_units)
set_option maxHeartbeats 1500000 in
theorem lawF (w : World) (mean : ExcName → Option Value) (mg mb : Str → Option Value) : LawAt w mean mg mb 9 P9 := by
  unfold LawAt
  k_fill
  intro dp un gd a ccd A₀ h₀ L m hp gs dr tk os Q E B F X T hdp hun hP hE hret
  obtain ⟨Db, S, vs, us, c, c2, bits, objs, m1, m2, h7, hI, hS, N⟩ := P9_open hP
  clear hP
  rw [lf_map m1 m2] at F
  have hc := law_cut (P := w.params) (by k_is)
  rw [hc] at hE ⊢
  clear hc
  (try dsimp only at hE)
  (try simp only [List.drop_succ_cons, List.drop_zero])
  (try dsimp only)
  k_steps
  unfold Stop2
  (rename Fr h₀ _ _ _ => F9)
  k_dflt (refine' For_go F9 ?_ (fun _ _ => rfl) (fun _ => rfl) ?_)
  · k_steps
    unfold Stop2
    (rename Fr h₀ _ _ _ => F8)
    (rename News h₀ _ _ _ => N8)
    refine go_range2 (LfJ Db S _) rfl F8 N8 (by omega) (by omega) (by omega) (by omega) ⟨rfl, rfl, rfl⟩ ?_ ?_
    · rintro i k t m₁ nx h tk own hi hk hadr ho ⟨rfl, e1, e2⟩ F₁ N₁
      rw [lf_map e1 e2] at F₁
      clear F8 N8
      obtain ⟨T9, t1, t2, hx, hT⟩ := hS.2 i (by omega)
      have N₂ := lf_news N₁ hT
      clear N₁
      obtain ⟨n, hn⟩ : ∃ n, n = i + 1 := ⟨_, rfl⟩
      have hn1 : 1 ≤ n := by omega
      have hn7 : n ≤ 7 := by omega
      have hkn : k = ((n : Nat) : Int) := by omega
      subst hkn
      have hadr2 : ∀ p ∈ (Db, listOf (List.toArray vs) c2) :: (S, listOf (List.toArray us) c) :: objs, p ∈ (Db, listOf (List.toArray vs) c2) :: (S, listOf (List.toArray us) c) :: (objs ++ own) := fun p hp => List.mem_append_left own hp
      have hown : ∀ p ∈ own, p ∈ (Db, listOf (List.toArray vs) c2) :: (S, listOf (List.toArray us) c) :: (objs ++ own) := fun p hp => List.mem_append_right ((Db, listOf (List.toArray vs) c2) :: (S, listOf (List.toArray us) c) :: objs) hp
      have hx9 : us.toArray[(((n : Nat) : Int) - 1).toNat]? = some (Value.ref T9) := by
        rw [show (((n : Nat) : Int) - 1).toNat = i by omega, List.getElem?_toArray, hx]
      rw [← hn] at N₂
      have hSh := short_at w mean mg mb h7 hn1 hn7
      have hfine := bm_fine h7 (show n < 8 by omega)
      have hbl : (bitInts bits).length = 7 := by unfold bitInts; rw [List.length_map, h7]
      have hsz : (bmAt bits n).size ≤ n := hfine.2.2.2.2.1
      have htp : (bmAt bits n).taps < 256 := hfine.1
      have htp0 : 0 < (bmAt bits n).taps := hfine.2.1
      have hps := place_sort htp
      have hpl := place_len (bmAt bits n).taps
      clear hfine hT hx hadr ho hS e1 e2 hE hret h7
      change Fr h₀ L _ _ at F₁
      change News h₀ L _ _ at N₂
      (try dsimp only)
      (try k_fold)
      repeat' (first | ((with_reducible show StopK 1 _); unfold StopK; first | ((with_reducible show wpAny _ _ (call (Value.ref 116) _) _ _ _); k_dflt (((rename Below _ _ _ _ => zK); (rename Fr _ _ _ _ => zF); (rename News _ _ _ _ => zN); (rename Frag.In _ _ => zX); (rename Top _ _ _ _ _ _ => zT); k_dflt (refine' tell_use (nam_told _ _ _ _) zK zF zX zN zT rfl (NamRel.mk) ?kd ?ku ?_; skip; (case kd => first | omega | ktr_room); (case ku => first | omega | ktr_units))); intro r' tl' h' tk' hO' F' N' a'; obtain ⟨l', u1, u2, u3, u4, u5, u6, u7, u8, e1, e2⟩ := hO'; subst e1; subst e2; (simp only [List.cons_append, List.nil_append] at N'); (try dsimp only))) | ((with_reducible show wpAny _ _ (call (Value.ref 133) _) _ _ _); (rename Tell _ _ _ _ 133 _ _ _ => tS9); k_dflt (((rename Below _ _ _ _ => zK); (rename Fr _ _ _ _ => zF); (rename News _ _ _ _ => zN); (rename Frag.In _ _ => zX); (rename Top _ _ _ _ _ _ => zT); k_dflt (refine' tell_use (tS9) zK zF zX zN zT rfl (AtRel.mk ?r1 ?r2) ?kd ?ku ?_; (case r1 => is_list); (case r2 => assumption); (case kd => first | omega | ktr_room); (case ku => first | omega | ktr_units))); intro r' tl' h' tk' hO' F' N' a'; obtain ⟨Tz9, Dz9, us9, c9, t9, fs9, e1, e2, hF9⟩ := hO'; subst e1; subst e2; (simp only [List.cons_append, List.nil_append] at N'); (try dsimp only)))) | ((with_reducible show StopK 2 _); unfold StopK; first | ((with_reducible show wpAny _ _ (subscriptTail _ (Expr.BinOp ..) (Value.ref _) (Value.int _ _)) _ _ _); (rename (_ = some (Value.ref _)) => hx9); k_dflt (refine' item_list (by is_list) ?k0 ?k1 hx9 ?_; (case k0 => omega); (case k1 => omega)))) | ((with_reducible show StopK 3 _); unfold StopK; first | ((with_reducible show wpAny _ _ (call (Value.builtin "len") [Value.ref _]) _ _ _); (rename FitsAt _ _ _ _ => hF9l); k_dflt (refine' len_fits ?k1 hF9l.2.1 ?k2 ?_; (case k1 => is_list); (case k2 => omega)))) | ((with_reducible show StopK 4 _); unfold StopK; first | ((with_reducible show wpAny _ _ (call (Value.builtin _) [Value.int _ _, Value.int _ _]) _ _ _); k_dflt (refine' max_size rfl ?k1 ?k2 ?_; (case k1 => k_asm); (case k2 => k_asm)); intro h' tk' t' F' N'; (try k_sweep))) | ((with_reducible show StopK 5 _); unfold StopK; first | (refine ne_selfI ?_)) | ((with_reducible show StopK 6 _); unfold StopK; first | ((rename _ ∈ placeInts _ => hk9p); k_dflt (refine pow_int_small (place_bnd hk9p).1 (Int.le_trans (Int.le_of_lt (place_bnd hk9p).2) (by decide)) (by decide) ?_)) | (k_dflt (refine pow_two (by omega) ?_))) | ((with_reducible show StopK 7 _); unfold StopK; first | ((with_reducible show wpAny _ _ (call (Value.builtin "str.split") [Value.str (flagText _) _, _]) _ _ _); k_dflt (refine' KSpl.split1 ?F ?N ?y ?_ flag_len; (case F => k_asm); (case N => k_asm); (case y => (first | rfl | decide))); intro D' l' h' k' e' S' F' N' l1; (try k_lt l1); rw [e', split_flags htp0 htp] at S')) | ((with_reducible show StopK 8 _); unfold StopK; first | ((with_reducible show wpAny _ _ (call (Value.builtin _) [Value.ref _, Value.str (nameAt _) _]) _ _ _); (rename News _ _ _ _ => kN9); (rename _ < 8 => hj9); k_dflt (refine index_name _ hj9 (kN9 (_, W.listOf (nameVals _ _ _ _ _ _ _ _).toArray 0) (by k_mem)).1 ?_))) | ((with_reducible show StopK 9 _); unfold StopK; first | ((rename IntsAre _ (placeInts _) => hW9x); clear hW9x; (rename IntsAre _ (placeInts _) => hW9); k_dflt (refine LCg.CompSrc.ledger (by rfl) (by k_asm) (by k_asm) (by k_mem) (place_size hW9) ?_; intro g'; (refine' kcf_list (fun k => (2 : Int) ^ k.toNat) hW9 (fun k' t' I' oI' C' oC' D' m' ys' h' tk' E' hk' hC' hx' F' N' off' ne' hMark' => ?_) ?_); (all_goals (try (simp only [LCg.Off3, and_true] at off'))); kcf_last)) | ((rename StrsAre _ (namesOf _ 8) => hW9); k_dflt (refine LCg.CompSrc.ledger (by rfl) (by k_asm) (by k_asm) (by k_mem) (words_size hW9) ?_; intro g'; (refine' words_rest hW9 (fun j' t' I' oI' C' oC' D' m' ys' h' tk' E' hj' hC' hx' F' N' off' ne' => ?_) ?_); (all_goals (try (simp only [LCg.Off3, and_true] at off'))); kcf_last))) | ((with_reducible show StopK 10 _); unfold StopK; first | (k_dflt (refine LCg.Assign_ListComp_U (F₀ := by k_asm) (by rfl) (by with_unfolding_all rfl) (by with_unfolding_all rfl) (by decide) (by rfl) (by decide) (by rfl) (by rfl) (by rfl) ?_))) | ((with_reducible show StopK 11 _); unfold StopK; first | (k_dflt (refine LCg.ListComp_U (F₀ := by k_asm) (by with_unfolding_all rfl) (by decide) (by rfl) (by decide) (by rfl) ?_))) | ((with_reducible show StopK 12 _); unfold StopK; first | ((unfold LCg.FinA); intro D' h' tk' F' N' o1'; (try simp only [LCg.Off1, and_true] at o1'); (try simp only [List.nil_append, List.cons_append] at N'); (try dsimp only))) | ((with_reducible show StopK 13 _); unfold StopK; first | ((with_reducible show wpAny _ _ (call (Value.builtin _) [Value.ref _]) _ _ _); (rename IntsAre _ (placeInts _) => hW9s); (rename List.Pairwise _ _ => hP9s); (rename _ ≤ 8 => hL9s); (with_unfolding_all refine' sorted_same ?k1 ?k2 ?k3 hW9s ?k5 hP9s ?_; (case k1 => k_asm); (case k2 => k_asm); (case k3 => kso_list); (case k5 => omega); k_whole); intro D' v' c' h' F' N' l1 i'; (try k_lt l1); (try k_sweep))) | ((with_reducible show StopK 14 _); unfold StopK; first | ((rename FitsAt _ _ _ _ => hF9n); (rename _ < 256 => hB9n); k_dflt (refine notin_fits (by is_list) hF9n hB9n ?_))) | (k_unfold; (try dsimp only)) | (k_end; wrow_close) | ((with_reducible show wpAny _ _ (execs _ _) _ _ _); (try dsimp only); (try k_fold); walk1) | ((with_reducible show wpAny _ _ (eval (Expr.Call _ _ _ _) _) _ _ _); (try k_fold); walk1) | walk1 | (dsimp only; walk1) | (leave1; walk_say "STEP leave1"; try dsimp only))
      · exact ⟨rfl, _, rfl⟩
      ·
        unfold Stop2
        (rename Fr h₀ _ _ _ => kF)
        (rename News h₀ _ _ _ => kN)
        refine InvEndN.intro kF kN ⟨rfl, ?_, ?_⟩ rfl (fun p hp => ?_) (fun p hp => ?_)
        · (repeat (first | with_reducible exact if_pos rfl | (refine (if_pos (by with_reducible rfl)).trans ?_; exact rfl) | refine look_no (by decide +kernel) ?_))
        · (repeat (first | with_reducible exact if_pos rfl | (refine (if_pos (by with_reducible rfl)).trans ?_; exact rfl) | refine look_no (by decide +kernel) ?_))
        · have hp2 := hadr2 p hp
          iterate 8 refine List.mem_cons_of_mem _ ?_
          exact hp2
        · have hp2 := hown p hp
          iterate 8 refine List.mem_cons_of_mem _ ?_
          exact hp2
    · rintro m₁ nx h tk ⟨rfl, e1, e2⟩ hadr F₁ N₁
      rw [lf_map e1 e2] at F₁
      clear F8 N8
      change Fr h₀ L _ _ at F₁
      (try dsimp only)
      (try k_fold)
      k_steps
      (rename Fr h₀ _ _ _ => kF)
      exact hret _ _ _ kF
  · exact hE
end Mine
end

theorem PySem.Challenge.cw_tr0038_01_holds : PySem.Challenge.rw_tr0038_01.Holds := by
  exact Mine.lawA fun w mean mg mb => Mine.lawB w mean mg mb (Mine.lawC w mean mg mb (Mine.lawD w mean mg mb (Mine.lawF w mean mg mb)))

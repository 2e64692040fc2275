import PyProof.Rows.All
import Wide.All
import OpenK.AllK
import Wide.FinOn
import PySem.Challenge.RW_op0082_01
set_option Elab.async false
section B1
open PySem PySem.W PyProof.Rows PySem.Calls PySem.Spec
set_option Elab.async false
set_option maxRecDepth 100000
namespace Mine
noncomputable abbrev No : Value → Shared → Prop := fun _ _ => False
noncomputable def stay {α : Type} (t : Sem α) : Sem α := t
theorem stay_out {α : Type} {M : Model} {A : Around} {t : Sem α} {Q : α → Shared → Prop} {E : Value → Shared → Prop} {s : Shared} (h : wpAny M A (stay t) Q E s) : wpAny M A t Q E s := h

/-- everything that stood stands -/
noncomputable def Kp (h h' : Heap) : Prop := ∀ b o, h.get? b = some o → h'.get? b = some o
theorem Kp.rfl {h : Heap} : Kp h h := fun _ _ e => e
theorem Kp.trans {a b c : Heap} (x : Kp a b) (y : Kp b c) : Kp a c := fun _ _ e => y _ _ (x _ _ e)

section
variable {prog : Program} {w : World} {A : Around} {s : Shared} {h₀ : Heap}

theorem enterF {E : Value → Shared → Prop} {Q : Value → Shared → Prop} {f : Addr} {fo : Obj} {name qual : Str} {params : Arguments} {body : List Stmt} {scope : Scope} {cl : List (Str × Addr)} {dV kV doc pm cdv ct : Value} {an : Option Addr} {pos : List Value} {kw : List (Str × Value)} {binds : List (Str × Value)}
    (hlim : s.heap.NoLimit) (ho : s.heap.get? f = some fo) (hd : fo.data = .func (fnX name qual params body scope cl dV kV doc pm an cdv ct)) (hcd : s.heap.CodeRec cdv qual) (hroom : A.depth < recursionLimit)
    (hbind : BindsTo s (fnX name qual params body scope cl dV kV doc pm an cdv ct) ⟨pos, kw⟩ binds) (hloc : ∀ y ∈ binds, scope.names.lookup y.1 = some .local)
    (h : ∀ L' h₁ m tk₁, L' = s.heap.objs.size → (∀ y, m y = binds.reverse.lookup y) → Fr s.heap L' h₁ m → News s.heap L' h₁ [] →
      wpAny (model prog w) (A.deeper (envX qual scope L' f cdv cl)) (execs body (envX qual scope L' f cdv cl))
        (fun fl s' => Q (match fl with | .ret v => v | _ => .none) s') No { s with heap := h₁, toks := tk₁ })
    (hcell : ∀ x ∈ scope.names, x.2 ≠ .cell) (hco : scope.isCoroutine = false := by rfl) (hgen : scope.isGenerator = false := by rfl) (hk : scope.kind = .function := by rfl) :
    wpAny (model prog w) A (call (.ref f) pos kw) Q E s := by
  refine wpAny_call (codeAny_call_def (fd := fnX name qual params body scope cl dV kV doc pm an cdv ct) (body := body) (binds := binds) hroom ho hd hlim hcd rfl hbind hcell hloc (fun h₁ hns hk₁ => ?_) hco hgen hk)
  refine wpAny_mono (h _ h₁ _ _ rfl (fun _ => rfl) ⟨hns, hk₁, Nat.le_refl _⟩ News.nil) (fun fl s' q => q) fun _ _ x => x.elim

theorem for_call {M : Model} {A : Around} {env : Env} {target f : Expr} {as : List Expr} {ks : List Keyword} {pc pos : Pos} {body orelse : List Stmt} {E : Value → Shared → Prop} {s : Shared} {Q : Flow → Shared → Prop}
    (h : wpAny M A (eval (.Call f as ks pc) env) (fun x s₁ => wpAny M A (pyIter x) (fun it s₂ =>
      codeAny M A (.forLoop target it body orelse env) (fun r s' => match r with | .ok f => Q f s' | .error e => cameBackBy M A env E e s') s₂) E s₁) E s) : wpAny M A (exec (.For target (.Call f as ks pc) body orelse pos) env) Q E s := wpAny_For h fun _ => rfl
theorem for_name {M : Model} {A : Around} {env : Env} {target : Expr} {x : Str} {pc pos : Pos} {body orelse : List Stmt} {E : Value → Shared → Prop} {s : Shared} {Q : Flow → Shared → Prop}
    (h : wpAny M A (eval (.Name x pc) env) (fun x s₁ => wpAny M A (pyIter x) (fun it s₂ =>
      codeAny M A (.forLoop target it body orelse env) (fun r s' => match r with | .ok f => Q f s' | .error e => cameBackBy M A env E e s') s₂) E s₁) E s) : wpAny M A (exec (.For target (.Name x pc) body orelse pos) env) Q E s := wpAny_For h fun _ => rfl
/-- the end of a turn -/
noncomputable def LE (h₀ : Heap) (L : Addr) (s : Shared) (ws : List Addr) (its : List (Addr × Obj)) (J : (Str → Option Value) → List (Addr × Obj) → Prop) (s₃ : Shared) : Prop :=
  ∃ h' tk m' news', s₃ = { s with heap := h', toks := tk } ∧ Fr h₀ L h' m' ∧ News h₀ L h' (its ++ news') ∧ (∀ p ∈ news', p.1 ∉ ws) ∧ J m' news'
noncomputable def TurnPost (h₀ : Heap) (L : Addr) (s : Shared) (ws : List Addr) (its : List (Addr × Obj)) (J : (Str → Option Value) → List (Addr × Obj) → Prop) (Q : Flow → Shared → Prop) (f : Flow) (s₃ : Shared) : Prop :=
  match f with
  | .ret v => Q (.ret v) s₃
  | .brk => Q .next s₃
  | .next => LE h₀ L s ws its J s₃
  | .cont => LE h₀ L s ws its J s₃

theorem for_core {env : Env} {target : Expr} {body orelse : List Stmt} {Q : Flow → Shared → Prop} {E : Value → Shared → Prop} {I : Addr} {fp wr : List Addr} {n : Nat} {P Md : Nat → Value → Heap → Prop} {St : Nat → Heap → Prop} {m : Str → Option Value} {news : List (Addr × Obj)} {ws : List Addr}
    (W : KTurns prog w A target I fp wr n P Md St)
    (hfp : ∀ b ∈ fp, b ∈ ws ∨ ∃ o, h₀.get? b = some o) (hws : ∀ b ∈ ws, b ∈ fp ∧ h₀.get? b = none) (hwr : ∀ b ∈ wr, b ∈ ws)
    (hlive : ∀ i h, St i h → ∀ b ∈ ws, ∃ o, h.get? b = some o) (hL : env.locals ∉ ws) (hnw : ∀ p ∈ news, p.1 ∉ ws)
    (hst : St 0 s.heap) (F : Fr h₀ env.locals s.heap m) (N : News h₀ env.locals s.heap news)
    (J : Nat → (Str → Option Value) → List (Addr × Obj) → Prop) (h0 : J 0 m news)
    (step : ∀ i v m₁ news₁ h₁ tk₁ its, i < n → P i v h₁ → J i m₁ news₁ → (∀ p ∈ news₁, p.1 ∉ ws) → its.map (·.1) = ws → Fr h₀ env.locals h₁ m₁ → News h₀ env.locals h₁ (its ++ news₁) →
      wpAny (model prog w) A (assign target env v) (fun _ s₂ => wpAny (model prog w) A (execs body env) (TurnPost h₀ env.locals s ws its (J (i + 1)) Q) No s₂) No { s with heap := h₁, toks := tk₁ })
    (hR : ∀ h' tk m' news', Fr h₀ env.locals h' m' → News h₀ env.locals h' news' → J n m' news' → wpAny (model prog w) A (execs orelse env) Q No { s with heap := h', toks := tk }) :
    codeAny (model prog w) A (.forLoop target (.ref I) body orelse env) (fun r s' => match r with | .ok f => Q f s' | .error e => cameBackBy (model prog w) A env E e s') s := by
  have hLf : env.locals ∉ fp := fun h => by
    rcases hfp _ h with h | ⟨o, h⟩
    · exact hL h
    · exact absurd (Heap.lt_size h) (Nat.not_lt.mpr F.above)
  have hLw : env.locals ∉ wr := fun h => hL (hwr _ h)
  have old : ∀ b o, h₀.get? b = some o → b ∉ wr := fun b o e hb => by rw [(hws b (hwr b hb)).2] at e; cases e
  have none : ∀ {β : Type} {t : Sem β} {q : β → Shared → Prop} {e : Value → Shared → Prop} {z : Shared}, wpAny (model prog w) A t q No z → wpAny (model prog w) A t q e z := fun h => wpAny_mono h (fun _ _ x => x) fun _ _ x => x.elim
  refine codeAny_forLoop_any
    (fun k s' => ∃ h' tk m' news' i, s' = { s with heap := h', toks := tk } ∧ St i h' ∧ Fr h₀ env.locals h' m' ∧ News h₀ env.locals h' news' ∧ (∀ p ∈ news', p.1 ∉ ws) ∧ J i m' news' ∧ i ≤ n ∧ k = n + 1 - i) ?_ (n + 1)
    ⟨s.heap, s.toks, m, news, 0, rfl, hst, F, N, hnw, h0, Nat.zero_le _, rfl⟩
  rintro k s' ⟨h', tk, m', news', i, rfl, hst', F', N', hnw', hJ, hi, rfl⟩
  have next : ∀ h₁ : Heap, (∀ b o, b ∉ wr → h'.get? b = some o → h₁.get? b = some o) → Fr h₀ env.locals h₁ m' ∧ News h₀ env.locals h₁ news' := fun h₁ hk₁ =>
    ⟨⟨F'.ns.at' fun o e => hk₁ _ o hLw e, fun b o e => hk₁ b o (old b o e) (F'.keep b o e), F'.above⟩, fun p hp => ⟨hk₁ _ _ (fun q => hnw' p hp (hwr _ q)) (N' p hp).1, (N' p hp).2⟩⟩
  by_cases hlt : i < n
  · refine W.item i _ _ _ hlt hst' fun v h₁ tk₁ hMd hk₁ => ?_
    refine W.go i v _ _ _ hMd fun h₂ hP hst₂ hk₂ => ?_
    obtain ⟨F₂, N₂⟩ := next h₂ fun b o hb x => hk₂ b o hb (hk₁ b o hb x)
    -- the iterator's objects
    obtain ⟨its, hits, hget⟩ : ∃ its : List (Addr × Obj), its.map (·.1) = ws ∧ ∀ p ∈ its, h₂.get? p.1 = some p.2 := by
      have : ∀ l : List Addr, (∀ b ∈ l, ∃ o, h₂.get? b = some o) → ∃ its : List (Addr × Obj), its.map (·.1) = l ∧ ∀ p ∈ its, h₂.get? p.1 = some p.2 := by
        intro l
        induction l with
        | nil => intro _; exact ⟨[], rfl, fun _ hp => nomatch hp⟩
        | cons b l ih =>
          intro hb
          obtain ⟨o, ho⟩ := hb b (.head _)
          obtain ⟨its, e, hg⟩ := ih fun c hc => hb c (.tail _ hc)
          refine ⟨(b, o) :: its, by rw [List.map_cons, e], fun p hp => ?_⟩
          rcases List.mem_cons.mp hp with rfl | hp
          · exact ho
          · exact hg p hp
      exact this ws fun b hb => hlive _ _ hst₂ b hb
    have Nits : News h₀ env.locals h₂ its := fun p hp => by
      have hp1 : p.1 ∈ ws := by rw [← hits]; exact List.mem_map.mpr ⟨p, hp, rfl⟩
      exact ⟨hget p hp, fun q => hL (q ▸ hp1), (hws _ hp1).2⟩
    refine none (wpAny_mono (step i v m' news' h₂ tk₁ its hlt hP hJ hnw' hits F₂ (Nits.append N₂)) (fun _ s₂ h₂' => none (wpAny_mono h₂' (fun f s₃ h₃ => ?_) fun _ _ e => e)) fun _ _ e => e)
    have fin : LE h₀ env.locals s ws its (J (i + 1)) s₃ → ∃ k, k < n + 1 - i ∧ ∃ h' tk m' news' i, s₃ = { s with heap := h', toks := tk } ∧ St i h' ∧ Fr h₀ env.locals h' m' ∧ News h₀ env.locals h' news' ∧ (∀ p ∈ news', p.1 ∉ ws) ∧ J i m' news' ∧ i ≤ n ∧ k = n + 1 - i := by
      rintro ⟨h₃', tk₃, m₂, news₂, rfl, F₃, N₃, ha₃, hJ₃⟩
      refine ⟨n + 1 - (i + 1), by omega, h₃', tk₃, m₂, news₂, i + 1, rfl, ?_, F₃, N₃.right, ha₃, hJ₃, hlt, rfl⟩
      refine W.frame _ _ _ hst₂ fun b hb o e => ?_
      rcases hfp b hb with hb' | ⟨o', ho'⟩
      · rw [← hits] at hb'
        obtain ⟨p, hp, rfl⟩ := List.mem_map.mp hb'
        have e1 := hget p hp
        rw [e] at e1
        cases e1
        exact (N₃ p (List.mem_append_left _ hp)).1
      · have q := F₂.keep b o' ho'
        rw [e] at q
        cases q
        exact F₃.keep b o ho'
    cases f with
    | ret v => exact h₃
    | brk => exact h₃
    | cont => exact fin h₃
    | next => exact fin h₃
  · have hin : i = n := by omega
    subst hin
    refine W.done _ _ _ hst' fun h₁ tk₁ hk₁ => ?_
    obtain ⟨F₁, N₁⟩ := next h₁ hk₁
    exact none (hR h₁ tk₁ m' news' F₁ N₁ hJ)
end
end Mine
end B1
section B2
open PySem PySem.W PyProof.Rows PySem.Calls PySem.Spec
set_option Elab.async false
set_option maxRecDepth 100000
namespace Mine
section
variable {prog : Program} {w : World} {A : Around} {s : Shared} {h₀ : Heap} {env : Env} {target : Expr} {body orelse : List Stmt} {Q : Flow → Shared → Prop} {E : Value → Shared → Prop} {m : Str → Option Value} {news : List (Addr × Obj)}

noncomputable abbrev LoopR (prog : Program) (w : World) (A : Around) (env : Env) (Q : Flow → Shared → Prop) (E : Value → Shared → Prop) : Result → Shared → Prop :=
  fun r s' => match r with | .ok f => Q f s' | .error e => cameBackBy (model prog w) A env E e s'

theorem for_one {fp : List Addr} {n : Nat} {P Md : Nat → Value → Heap → Prop} {St : Nat → Heap → Prop} {o₀ : Obj}
    (W : KTurns prog w A target s.heap.objs.size fp [s.heap.objs.size] n P Md St)
    (hfp : ∀ b ∈ fp, b = s.heap.objs.size ∨ ∃ o, h₀.get? b = some o)
    (hlive : ∀ i h, St i h → ∃ o, h.get? s.heap.objs.size = some o)
    (hst : St 0 (s.heap.push o₀)) (F : Fr h₀ env.locals s.heap m) (N : News h₀ env.locals s.heap news)
    (J : Nat → (Str → Option Value) → List (Addr × Obj) → Prop) (h0 : J 0 m news)
    (step : ∀ i v m₁ news₁ h₁ tk₁ I io, i < n → P i v h₁ → J i m₁ news₁ → (∀ p ∈ news₁, p.1 ≠ I) → (∀ p ∈ news, p.1 < I) → Fr h₀ env.locals h₁ m₁ → News h₀ env.locals h₁ ((I, io) :: news₁) →
      wpAny (model prog w) A (assign target env v) (fun _ s₂ => wpAny (model prog w) A (execs body env) (TurnPost h₀ env.locals s [I] [(I, io)] (J (i + 1)) Q) No s₂) No { s with heap := h₁, toks := tk₁ })
    (hR : ∀ h' tk m' news', Fr h₀ env.locals h' m' → News h₀ env.locals h' news' → J n m' news' → wpAny (model prog w) A (execs orelse env) Q No { s with heap := h', toks := tk }) :
    codeAny (model prog w) A (.forLoop target (.ref s.heap.objs.size) body orelse env) (LoopR prog w A env Q E) { s with heap := s.heap.push o₀ } := by
  have hLs : env.locals < s.heap.objs.size := F.ns.lt
  refine for_core (s := { s with heap := s.heap.push o₀ }) (ws := [s.heap.objs.size]) W (fun b hb => (hfp b hb).imp (fun e => by rw [e]; exact .head _) id) (fun b hb => ?_) (fun b hb => hb) (fun i h st b hb => by rw [List.mem_singleton.mp hb]; exact hlive i h st)
    (fun q => absurd hLs (by rw [List.mem_singleton.mp q]; exact Nat.lt_irrefl _)) (fun p hp q => absurd (Heap.lt_size (N p hp).1) (by rw [List.mem_singleton.mp q]; exact Nat.lt_irrefl _)) hst (F.push _) (fun p hp => ⟨Heap.get?_push_of_some _ (N p hp).1, (N p hp).2⟩) J h0 ?_ hR
  · rw [List.mem_singleton.mp hb]
    refine ⟨W.sub _ (.head _), ?_⟩
    exact Heap.get?_none_of_le (Nat.le_trans F.above (Nat.le_of_lt hLs))
  · intro i v m₁ news₁ h₁ tk₁ its hi hP hJ hnw hits F₁ N₁
    obtain ⟨io, rfl⟩ : ∃ io, its = [(s.heap.objs.size, io)] := by
      cases its with
      | nil => cases hits
      | cons p its =>
        cases its with
        | nil => obtain ⟨a, o⟩ := p; have e : a = s.heap.objs.size := List.head_eq_of_cons_eq hits; exact ⟨o, by rw [e]⟩
        | cons q its => exact absurd (congrArg List.length hits) (by simp)
    exact step i v m₁ news₁ h₁ tk₁ _ io hi hP hJ (fun p hp e => hnw p hp (by rw [e]; exact .head _)) (fun p hp => Heap.lt_size (N p hp).1) F₁ N₁

theorem for_tuple {ax : Addr} {vs : List Value} (hh : A.handled = none) (hl : h₀.IsTuple ax vs.toArray) (F : Fr h₀ env.locals s.heap m) (N : News h₀ env.locals s.heap news)
    (J : Nat → (Str → Option Value) → List (Addr × Obj) → Prop) (h0 : J 0 m news)
    (step : ∀ i v m₁ news₁ h₁ tk₁ I io, vs[i]? = some v → J i m₁ news₁ → (∀ p ∈ news₁, p.1 ≠ I) → (∀ p ∈ news, p.1 < I) → Fr h₀ env.locals h₁ m₁ → News h₀ env.locals h₁ ((I, io) :: news₁) →
      wpAny (model prog w) A (assign target env v) (fun _ s₂ => wpAny (model prog w) A (execs body env) (TurnPost h₀ env.locals s [I] [(I, io)] (J (i + 1)) Q) No s₂) No { s with heap := h₁, toks := tk₁ })
    (hR : ∀ h' tk m' news', Fr h₀ env.locals h' m' → News h₀ env.locals h' news' → J vs.length m' news' → wpAny (model prog w) A (execs orelse env) Q No { s with heap := h', toks := tk }) :
    wpAny (model prog w) A (pyIter (.ref ax)) (fun it s₂ => codeAny (model prog w) A (.forLoop target it body orelse env) (LoopR prog w A env Q E) s₂) E s := by
  obtain ⟨lo, hg, hc, n, hd⟩ := id hl
  have hls : s.heap.IsTuple ax vs.toArray := ⟨lo, F.keep _ _ hg, hc, n, hd⟩
  have hlt : ax < s.heap.objs.size := Heap.lt_size (F.keep _ _ hg)
  refine wpAny_pyIter_tuple hls ?_
  refine for_one (KTurns.ofWalks (Walks.tuple hh s.heap.objs.size ax (Nat.ne_of_lt hlt) vs.toArray) fun i v s Q E st q => letGo_tupleiter st.1 q) (fun b hb => ?_) (fun i h st => let ⟨o, ho, _⟩ := st.1; ⟨o, ho⟩)
    ⟨⟨_, Heap.get?_push_size _ rfl, rfl, rfl⟩, hls.push _⟩ F N J h0 (fun i v m₁ news₁ h₁ tk₁ I io hi hP => step i v m₁ news₁ h₁ tk₁ I io (by simpa using hP)) (by simpa using hR)
  rcases List.mem_cons.mp hb with e | hb
  · exact .inl e
  · rw [List.mem_singleton.mp hb]; exact .inr ⟨lo, hg⟩

theorem for_list {ax : Addr} {vs : List Value} (hh : A.handled = none) (hl : h₀.IsList ax vs.toArray) (F : Fr h₀ env.locals s.heap m) (N : News h₀ env.locals s.heap news)
    (J : Nat → (Str → Option Value) → List (Addr × Obj) → Prop) (h0 : J 0 m news)
    (step : ∀ i v m₁ news₁ h₁ tk₁ I io, vs[i]? = some v → J i m₁ news₁ → (∀ p ∈ news₁, p.1 ≠ I) → (∀ p ∈ news, p.1 < I) → Fr h₀ env.locals h₁ m₁ → News h₀ env.locals h₁ ((I, io) :: news₁) →
      wpAny (model prog w) A (assign target env v) (fun _ s₂ => wpAny (model prog w) A (execs body env) (TurnPost h₀ env.locals s [I] [(I, io)] (J (i + 1)) Q) No s₂) No { s with heap := h₁, toks := tk₁ })
    (hR : ∀ h' tk m' news', Fr h₀ env.locals h' m' → News h₀ env.locals h' news' → J vs.length m' news' → wpAny (model prog w) A (execs orelse env) Q No { s with heap := h', toks := tk }) :
    wpAny (model prog w) A (pyIter (.ref ax)) (fun it s₂ => codeAny (model prog w) A (.forLoop target it body orelse env) (LoopR prog w A env Q E) s₂) E s := by
  obtain ⟨lo, hg, hc, n, hd⟩ := id hl
  have hls : s.heap.IsList ax vs.toArray := ⟨lo, F.keep _ _ hg, hc, n, hd⟩
  have hlt : ax < s.heap.objs.size := Heap.lt_size (F.keep _ _ hg)
  refine wpAny_pyIter_list hls ?_
  refine for_one (KTurns.ofWalks (Walks.list hh s.heap.objs.size ax (Nat.ne_of_lt hlt) vs.toArray) fun i v s Q E st q => letGo_listiter st.1 q) (fun b hb => ?_) (fun i h st => let ⟨o, ho, _⟩ := st.1; ⟨o, ho⟩)
    ⟨⟨_, Heap.get?_push_size _ rfl, rfl, rfl⟩, hls.push _⟩ F N J h0 (fun i v m₁ news₁ h₁ tk₁ I io hi hP => step i v m₁ news₁ h₁ tk₁ I io (by simpa using hP)) (by simpa using hR)
  rcases List.mem_cons.mp hb with e | hb
  · exact .inl e
  · rw [List.mem_singleton.mp hb]; exact .inr ⟨lo, hg⟩

theorem for_str {x : Str} {t : Tok} {y : Str} {py : Pos} (hh : A.handled = none) (ha : x.cps.all (· < 128) = true) (F : Fr h₀ env.locals s.heap m) (N : News h₀ env.locals s.heap news)
    (J : Nat → (Str → Option Value) → List (Addr × Obj) → Prop) (h0 : J 0 m news)
    (step : ∀ i c u m₁ news₁ h₁ tk₁ I io, x.cps[i]? = some c → J i m₁ news₁ → (∀ p ∈ news₁, p.1 ≠ I) → (∀ p ∈ news, p.1 < I) → Fr h₀ env.locals h₁ m₁ → News h₀ env.locals h₁ ((I, io) :: news₁) →
      wpAny (model prog w) A (assign (.Name y py) env (.str ⟨#[c]⟩ u)) (fun _ s₂ => wpAny (model prog w) A (execs body env) (TurnPost h₀ env.locals s [I] [(I, io)] (J (i + 1)) Q) No s₂) No { s with heap := h₁, toks := tk₁ })
    (hR : ∀ h' tk m' news', Fr h₀ env.locals h' m' → News h₀ env.locals h' news' → J x.cps.size m' news' → wpAny (model prog w) A (execs orelse env) Q No { s with heap := h', toks := tk }) :
    wpAny (model prog w) A (pyIter (.str x t)) (fun it s₂ => codeAny (model prog w) A (.forLoop (.Name y py) it body orelse env) (LoopR prog w A env Q E) s₂) E s := by
  refine wpAny_pyIter_ascii ha ?_
  refine for_one (KTurns.ofWalks (Walks.strAscii hh s.heap.objs.size x t) fun i v s Q E st q => wpAny_pure q) (fun b hb => .inl (List.mem_singleton.mp hb)) (fun i h st => let ⟨o, ho, _⟩ := st; ⟨o, ho⟩)
    ⟨_, Heap.get?_push_size _ rfl, rfl, rfl⟩ F N J h0 (fun i v m₁ news₁ h₁ tk₁ I io hi hP => ?_) hR
  obtain ⟨c, u, hc, rfl⟩ := hP
  exact step i c u m₁ news₁ h₁ tk₁ I io hc

/-- a range that the ledger or the base bears: its turns -/
theorem for_range {r : Addr} {a b c : Int} {n : Nat} {t u v : Tok} {y : Str} {py : Pos} (hh : A.handled = none) (hr : IsRange s.heap r a b c t u v) (hsm : Builtin.Range.small a b c = true) (hn : Builtin.Range.rangeSize a b c = (n : Int)) (F : Fr h₀ env.locals s.heap m) (N : News h₀ env.locals s.heap news)
    (J : Nat → (Str → Option Value) → List (Addr × Obj) → Prop) (h0 : J 0 m news)
    (step : ∀ (i : Nat) q m₁ news₁ h₁ tk₁ I io, i < n → J i m₁ news₁ → (∀ p ∈ news₁, p.1 ≠ I) → (∀ p ∈ news, p.1 < I) → Fr h₀ env.locals h₁ m₁ → News h₀ env.locals h₁ ((I, io) :: news₁) →
      wpAny (model prog w) A (assign (.Name y py) env (.int (a + i * c) q)) (fun _ s₂ => wpAny (model prog w) A (execs body env) (TurnPost h₀ env.locals s [I] [(I, io)] (J (i + 1)) Q) No s₂) No { s with heap := h₁, toks := tk₁ })
    (hR : ∀ h' tk m' news', Fr h₀ env.locals h' m' → News h₀ env.locals h' news' → J n m' news' → wpAny (model prog w) A (execs orelse env) Q No { s with heap := h', toks := tk }) :
    wpAny (model prog w) A (pyIter (.ref r)) (fun it s₂ => codeAny (model prog w) A (.forLoop (.Name y py) it body orelse env) (LoopR prog w A env Q E) s₂) E s := by
  refine wpAny_pyIter_range hr hsm ?_
  rw [hn]
  refine for_one (KTurns.ofWalks (Walks.range hh s.heap.objs.size a c n) fun i v s Q E st q => wpAny_pure q) (fun b hb => .inl (List.mem_singleton.mp hb)) (fun i h st => ⟨_, st⟩)
    ?_ F N J h0 (fun i v m₁ news₁ h₁ tk₁ I io hi hP => ?_) hR
  · have := Heap.get?_push_size s.heap (o := { cls := .type "range_iterator", data := .fields #[rawInt a, rawInt (n : Int), rawInt c] }) rfl
    simpa [IsRangeIter] using this
  · obtain ⟨t, rfl⟩ := hP
    exact step i t m₁ news₁ h₁ tk₁ I io hi
end
end Mine
end B2
section B3
open PySem PySem.W PyProof.Rows PySem.Calls PySem.Spec
open AutoSeq1 (wpAny_loadPart')
set_option Elab.async false
set_option maxRecDepth 100000
namespace Mine
theorem resetB3 : True := by
  w_top off
  trivial
section
variable {prog : Program} {w : World} {A : Around} {E : Value → Shared → Prop} {s : Shared}
theorem nextOf_tuple_item {it t : Addr} {i : Nat} {items} {x : Value} {Q : Value → Shared → Prop} (hit : s.heap.IsTupleIter it t i)
    (ht : s.heap.IsTuple t items) (hx : items[i]? = some x)
    (hQ : ∀ h', h'.IsTupleIter it t (i + 1) → Heap.SameBut it s.heap h' → Q x { s with heap := h' }) :
    wpAny (model prog w) A (Builtin.SmallTypes.nextOf (.ref it)) Q E s := by
  obtain ⟨o, ho, hc, hd⟩ := id hit
  obtain ⟨ol, hol, _, nl, hdl⟩ := ht
  unfold Builtin.SmallTypes.nextOf
  refine wpAny_bind (wpAny_callSpecial?_slot (name := Str.ofString "__next__") hit.typeIs F.slot_tuple_iterator_next
    (wpAny_call_entry F.slot_tuple_iterator_next hit.typeIs F.entry_tuple_iterator_next ?_ (F.args_tuple_iterator_next_1 _)))
  show wpAny _ _ (field (.ref it) 0 >>= _) _ _ s
  refine wpAny_bind (wpAny_field ho hd (x := .ref t) rfl ?_)
  show wpAny _ _ (if (Value.ref t == Value.none) = true then _ else _) _ _ s
  rw [if_neg (show ¬ ((Value.ref t == Value.none) = true) from Bool.false_ne_true)]
  show wpAny _ _ (field (.ref it) 1 >>= _) _ _ s
  refine wpAny_bind (wpAny_field ho hd (x := .int i 0) rfl ?_)
  show wpAny _ _ (seqItems? (.ref t) >>= _) _ _ s
  refine wpAny_bind (wpAny_seqItems hol hdl ?_)
  simp only [Int.toNat_natCast, hx]
  refine wpAny_bind (wpAny_setField ho hd (by simp) (wpAny_pure ⟨x, rfl, wpAny_pure (hQ _ ?_ (Heap.SameBut.update ..))⟩))
  exact ⟨_, Heap.get?_update_self _ ho (Obj.isFreed_of_fields (Obj.data_mapFields hd _)), (Obj.cls_mapFields ..).trans hc, by
    rw [Obj.data_mapFields hd]; simp [rawInt]⟩

theorem nextOf_tuple_end {it t : Addr} {i : Nat} {items} {Q : Value → Shared → Prop} (hh : A.handled = none)
    (hit : s.heap.IsTupleIter it t i) (ht : s.heap.IsTuple t items) (hx : items[i]? = none)
    (hE : ∀ h' e, Heap.ExtBut it s.heap h' → (∃ o, h'.get? e = some o ∧ o.cls = .type "StopIteration") → E (.ref e) { s with heap := h' }) :
    wpAny (model prog w) A (Builtin.SmallTypes.nextOf (.ref it)) Q E s := by
  obtain ⟨o, ho, hc, hd⟩ := id hit
  obtain ⟨ol, hol, _, nl, hdl⟩ := ht
  unfold Builtin.SmallTypes.nextOf
  refine wpAny_bind (wpAny_callSpecial?_slot (name := Str.ofString "__next__") hit.typeIs F.slot_tuple_iterator_next
    (wpAny_call_entry F.slot_tuple_iterator_next hit.typeIs F.entry_tuple_iterator_next ?_ (F.args_tuple_iterator_next_1 _)))
  show wpAny _ _ (field (.ref it) 0 >>= _) _ _ s
  refine wpAny_bind (wpAny_field ho hd (x := .ref t) rfl ?_)
  show wpAny _ _ (if (Value.ref t == Value.none) = true then _ else _) _ _ s
  rw [if_neg (show ¬ ((Value.ref t == Value.none) = true) from Bool.false_ne_true)]
  show wpAny _ _ (field (.ref it) 1 >>= _) _ _ s
  refine wpAny_bind (wpAny_field ho hd (x := .int i 0) rfl ?_)
  show wpAny _ _ (seqItems? (.ref t) >>= _) _ _ s
  refine wpAny_bind (wpAny_seqItems hol hdl ?_)
  simp only [Int.toNat_natCast, hx]
  refine wpAny_bind (wpAny_rule (wpAny_bind (wpAny_setField ho hd (by simp) ?_)))
  show wpAny _ _ (newExc (.type "StopIteration") [] >>= _) _ _ _
  refine wpAny_bind ?_
  simp only [newExc, newTuple]
  refine wpAny_bind (wpAny_newObj_type ?_ (by size_fits))
  refine wpAny_bind (m := firstArgMember _ _) (wpAny_of_eq (a := Value.none) (by first | rfl | (simp only [firstArgMember]; rfl)) ?_)
  refine wpAny_newObj_type ?_ (by size_fits)
  simp only [raiseNew]
  refine wpAny_bind (wpAny_handled ?_)
  first | rw [show A.in1.handled = none from hh] | rw [hh]
  refine wpAny_bind (wpAny_pure (wpAny_throw ?_))
  exact hE _ _ (((Heap.SameBut.update ..).extBut.push _).push _) ⟨_, Heap.get?_push_size _ rfl, rfl⟩

theorem drawsTuple (hh : A.handled = none) (it l : Addr) (hne : l ≠ it) (items : Array Value) :
    Draws prog w A it [it, l] items.size (fun i v => items[i]? = some v) (fun i h => h.IsTupleIter it l i ∧ h.IsTuple l items) where
  live := fun _ _ st => let ⟨o, ho, _⟩ := st.1; ⟨o, ho⟩
  frame := fun _ _ _ st hk => ⟨st.1.at fun o e => hk it (by simp) o e, st.2.at fun o e => hk l (by simp) o e⟩
  item := fun i s Q E hi st hQ => by
    refine nextOf_tuple_item st.1 st.2 (x := items[i]) (by simp [hi]) fun h' hit' hs' => ?_
    exact hQ _ h' s.toks (by simp [hi]) ⟨hit', st.2.extBut hs'.extBut hne⟩ hs'
  done := fun s Q E st hE => nextOf_tuple_end hh st.1 st.2 (by simp) hE

theorem meets_enum_tuple (l : Addr) (items : Array Value) (n : Nat) (dct : Option Addr) (sl : Array (Option Value)) :
    Meets (Builtin.«enumerate.__new__» ⟨[.type "enumerate", .ref l], []⟩) (fun _ R s => s.heap.get? l = some { cls := .type "tuple", dict := dct, data := .seq items n, slots := sl } ∧
      R (.ok (.ret (.ref (s.heap.push { cls := .type "tuple_iterator", data := .fields #[.ref l, .int 0 0] }).objs.size)))
        { s with heap := (s.heap.push { cls := .type "tuple_iterator", data := .fields #[.ref l, .int 0 0] }).push { cls := .type "enumerate", data := .fields #[.none, .bool false, .ref s.heap.objs.size, rawInt 0, .none, .none] } }) :=
  .of_wp fun prog w A R s h => by
    obtain ⟨hp, g, d, tk, os⟩ := s; obtain ⟨hl, h⟩ := h
    have hsub := sub_enumerate
    have hL : Heap.IsTuple (Shared.heap ⟨hp, g, d, tk, os⟩) l items := ⟨_, hl, rfl, n, rfl⟩
    wp_walk using wpAny_loadPart' hl
    refine wpAny_stack_any fun st => wpAny_pure ?_
    split
    · rename_i c _ _ _ _ _
      cases (c == Value.type "enumerate")
      · wp_walk using wpAny_loadPart' hl, wpAny_pyIter_tuple hL
        exact ⟨_, rfl, h⟩
      · wp_walk using wpAny_loadPart' hl, wpAny_pyIter_tuple hL
        exact ⟨_, rfl, h⟩
    · wp_walk using wpAny_loadPart' hl, wpAny_pyIter_tuple hL
      exact ⟨_, rfl, h⟩

theorem call_enum_tuple {l : Addr} {items : Array Value} {Q : Value → Shared → Prop} (hL : s.heap.IsTuple l items)
    (h : ∀ h', IsEnum h' (s.heap.objs.size + 1) s.heap.objs.size 0 .none → h'.IsTupleIter s.heap.objs.size l 0 → h'.objs.size = s.heap.objs.size + 2 →
      (∀ b o, s.heap.get? b = some o → h'.get? b = some o) → Q (.ref (s.heap.objs.size + 1)) { s with heap := h' }) :
    wpAny (model prog w) A (call (.type "enumerate") [.ref l]) Q E s := by
  obtain ⟨⟨c, dct, dt, sl⟩, hl, hc, n, hd⟩ := hL
  replace hc : c = .type "tuple" := hc
  replace hd : dt = .seq items n := hd
  subst hc hd
  refine callType_new F.called_enumerate (by decide) (F.typeCall_enumerate_1 _) (F.newCall_enumerate_1 _) (fun obj => F.args_object_init_2 obj _) F.entry_enumerate_new
    (meets_enum_tuple l items n dct sl) ⟨hl, ?_⟩
  have hz : (s.heap.push { cls := .type "tuple_iterator", data := .fields #[.ref l, .int 0 0] }).objs.size = s.heap.objs.size + 1 := Heap.size_push ..
  show _ ∧ _
  rw [hz]
  have he : IsEnum ((s.heap.push { cls := .type "tuple_iterator", data := .fields #[.ref l, .int 0 0] }).push
      { cls := .type "enumerate", data := .fields #[.none, .bool false, .ref s.heap.objs.size, rawInt 0, .none, .none] }) (s.heap.objs.size + 1) s.heap.objs.size 0 .none := by
    have := Heap.get?_push_size (s.heap.push { cls := .type "tuple_iterator", data := .fields #[.ref l, .int 0 0] })
      (o := { cls := .type "enumerate", data := .fields #[.none, .bool false, .ref s.heap.objs.size, rawInt 0, .none, .none] }) rfl
    rw [hz] at this; exact this
  refine ⟨⟨_, he, rfl⟩, h _ he ⟨_, Heap.get?_push_of_some _ (Heap.get?_push_size _ rfl), rfl, rfl⟩ (by rw [Heap.size_push, hz]) fun b o x => Heap.get?_push_of_some _ (Heap.get?_push_of_some _ x)⟩
end
section
variable {prog : Program} {w : World} {A : Around} {s : Shared} {h₀ : Heap} {env : Env} {body orelse : List Stmt} {Q : Flow → Shared → Prop} {E : Value → Shared → Prop} {m : Str → Option Value} {news : List (Addr × Obj)}

theorem for_enum {ax : Addr} {vs : List Value} {elts : List Expr} {k : Nat} {pos : Pos} (hh : A.handled = none) (hl : h₀.IsTuple ax vs.toArray) (F : Fr h₀ env.locals s.heap m) (N : News h₀ env.locals s.heap news)
    (J : Nat → (Str → Option Value) → List (Addr × Obj) → Prop) (h0 : J 0 m news)
    (step : ∀ (i : Nat) T v t m₁ news₁ h₁ tk₁ I2 o2 I1 o1, vs[i]? = some v → h₁.IsTuple T #[.int (i : Int) t, v] → J i m₁ news₁ → (∀ p ∈ news₁, p.1 ≠ I2 ∧ p.1 ≠ I1) → I1 < I2 → (∀ p ∈ news, p.1 < I1) → Fr h₀ env.locals h₁ m₁ → News h₀ env.locals h₁ ((I2, o2) :: (I1, o1) :: news₁) →
      wpAny (model prog w) A (assign (.Tuple elts k pos) env (.ref T)) (fun _ s₂ => wpAny (model prog w) A (execs body env) (TurnPost h₀ env.locals s [I2, I1] [(I2, o2), (I1, o1)] (J (i + 1)) Q) No s₂) No { s with heap := h₁, toks := tk₁ })
    (hR : ∀ h' tk m' news', Fr h₀ env.locals h' m' → News h₀ env.locals h' news' → J vs.length m' news' → wpAny (model prog w) A (execs orelse env) Q No { s with heap := h', toks := tk }) :
    wpAny (model prog w) A (call (.type "enumerate") [.ref ax]) (fun xv s₁ => wpAny (model prog w) A (pyIter xv) (fun it s₂ => codeAny (model prog w) A (.forLoop (.Tuple elts k pos) it body orelse env) (LoopR prog w A env Q E) s₂) E s₁) E s := by
  obtain ⟨lo, hg, hc, n, hd⟩ := id hl
  have hls : s.heap.IsTuple ax vs.toArray := ⟨lo, F.keep _ _ hg, hc, n, hd⟩
  have hlt : ax < s.heap.objs.size := Heap.lt_size (F.keep _ _ hg)
  have hLs : env.locals < s.heap.objs.size := F.ns.lt
  refine call_enum_tuple hls fun h' he hit hsz hk => ?_
  refine wpAny_pyIter_enum he ?_
  have F' : Fr h₀ env.locals h' m := ⟨F.ns.keeps hk, fun b o e => hk b o (F.keep b o e), F.above⟩
  have N' : News h₀ env.locals h' news := fun p hp => ⟨hk _ _ (N p hp).1, (N p hp).2⟩
  have hef : s.heap.objs.size + 1 ∉ [s.heap.objs.size, ax] := by
    intro q
    rcases List.mem_cons.mp q with q | q
    · exact Nat.succ_ne_self _ q
    · exact Nat.ne_of_gt (Nat.lt_succ_of_lt hlt) (List.mem_singleton.mp q)
  refine for_core (s := { s with heap := h' }) (ws := [s.heap.objs.size + 1, s.heap.objs.size]) (KTurns.ofWalksU (WalksT.enumerateD (drawsTuple (A := A.in1) hh s.heap.objs.size ax (Nat.ne_of_lt hlt) vs.toArray) (s.heap.objs.size + 1) (Nat.succ_ne_self _) hef (by simp)).toU)
    (fun b hb => ?_) (fun b hb => ?_) (fun b hb => hb) (fun i h st b hb => ?_) (fun q => ?_) (fun p hp q => ?_) ⟨⟨_, he⟩, hit, hls.at fun o e => hk _ o e⟩ F' N' J h0 ?_ (by simpa using hR)
  · have hb' : b = s.heap.objs.size + 1 ∨ b = s.heap.objs.size ∨ b = ax := by simpa using hb
    rcases hb' with rfl | rfl | rfl
    · exact .inl (by simp)
    · exact .inl (by simp)
    · exact .inr ⟨lo, hg⟩
  · have hb' : b = s.heap.objs.size + 1 ∨ b = s.heap.objs.size := by simpa using hb
    rcases hb' with rfl | rfl
    · exact ⟨by simp, Heap.get?_none_of_le (Nat.le_trans F.above (Nat.le_of_lt (Nat.lt_succ_of_lt hLs)))⟩
    · exact ⟨by simp, Heap.get?_none_of_le (Nat.le_trans F.above (Nat.le_of_lt hLs))⟩
  · have hb' : b = s.heap.objs.size + 1 ∨ b = s.heap.objs.size := by simpa using hb
    obtain ⟨⟨old, ho⟩, ⟨o, ho', _⟩, _⟩ := st
    rcases hb' with rfl | rfl
    · exact ⟨_, ho⟩
    · exact ⟨_, ho'⟩
  · have hb' : env.locals = s.heap.objs.size + 1 ∨ env.locals = s.heap.objs.size := by simpa using q
    rcases hb' with e | e
    · exact Nat.ne_of_lt (Nat.lt_succ_of_lt hLs) e
    · exact Nat.ne_of_lt hLs e
  · have hb' : p.1 = s.heap.objs.size + 1 ∨ p.1 = s.heap.objs.size := by simpa using q
    have hlp := Heap.lt_size (N p hp).1
    rcases hb' with e | e
    · exact Nat.ne_of_lt (Nat.lt_succ_of_lt hlp) e
    · exact Nat.ne_of_lt hlp e
  · intro i v m₁ news₁ h₁ tk₁ its hi hP hJ hnw hits F₁ N₁
    obtain ⟨o2, o1, rfl⟩ : ∃ o2 o1, its = [(s.heap.objs.size + 1, o2), (s.heap.objs.size, o1)] := by
      cases its with
      | nil => cases hits
      | cons p its =>
        cases its with
        | nil => exact absurd (congrArg List.length hits) (by simp)
        | cons q its =>
          cases its with
          | nil =>
            obtain ⟨a, o⟩ := p
            obtain ⟨b, o'⟩ := q
            have e : a = s.heap.objs.size + 1 := List.head_eq_of_cons_eq hits
            have e' : b = s.heap.objs.size := List.head_eq_of_cons_eq (List.tail_eq_of_cons_eq hits)
            exact ⟨o, o', by rw [e, e']⟩
          | cons r its => exact absurd (congrArg List.length hits) (by simp)
    obtain ⟨T, vals, rfl, ⟨t, x, hx, rfl⟩, hT⟩ := hP
    exact step i T x t m₁ news₁ h₁ tk₁ _ o2 _ o1 (by simpa using hx) hT hJ (fun p hp => ⟨fun e => hnw p hp (by rw [e]; simp), fun e => hnw p hp (by rw [e]; simp)⟩) (Nat.lt_succ_self _) (fun p hp => Heap.lt_size (N p hp).1) F₁ N₁
end
end Mine
end B3
section B4
open PySem PySem.W PyProof.Rows PySem.Calls PySem.Spec
set_option Elab.async false
set_option maxRecDepth 100000
namespace Mine
theorem map1 {m : Str → Option Value} {x1 : Str} {a : Option Value} (h1 : m x1 = a) : m = fun y => if y = x1 then a else m y := by
  funext y; by_cases e1 : y = x1
  · subst e1; simp [h1]
  · simp [e1]
theorem map2 {m : Str → Option Value} {x1 x2 : Str} {a b : Option Value} (h1 : m x1 = a) (h2 : m x2 = b) : m = fun y => if y = x1 then a else if y = x2 then b else m y := by
  funext y; by_cases e1 : y = x1
  · subst e1; simp [h1]
  · simp only [if_neg e1]; exact congrFun (map1 h2) y
theorem map3 {m : Str → Option Value} {x1 x2 x3 : Str} {a b c : Option Value} (h1 : m x1 = a) (h2 : m x2 = b) (h3 : m x3 = c) : m = fun y => if y = x1 then a else if y = x2 then b else if y = x3 then c else m y := by
  funext y; by_cases e1 : y = x1
  · subst e1; simp [h1]
  · simp only [if_neg e1]; exact congrFun (map2 h2 h3) y
theorem map4 {m : Str → Option Value} {x1 x2 x3 x4 : Str} {a b c d : Option Value} (h1 : m x1 = a) (h2 : m x2 = b) (h3 : m x3 = c) (h4 : m x4 = d) : m = fun y => if y = x1 then a else if y = x2 then b else if y = x3 then c else if y = x4 then d else m y := by
  funext y; by_cases e1 : y = x1
  · subst e1; simp [h1]
  · simp only [if_neg e1]; exact congrFun (map3 h2 h3 h4) y
theorem map5 {m : Str → Option Value} {x1 x2 x3 x4 x5 : Str} {a b c d e : Option Value} (h1 : m x1 = a) (h2 : m x2 = b) (h3 : m x3 = c) (h4 : m x4 = d) (h5 : m x5 = e) : m = fun y => if y = x1 then a else if y = x2 then b else if y = x3 then c else if y = x4 then d else if y = x5 then e else m y := by
  funext y; by_cases e1 : y = x1
  · subst e1; simp [h1]
  · simp only [if_neg e1]; exact congrFun (map4 h2 h3 h4 h5) y

section
variable {prog : Program} {w : World} {A : Around} {s : Shared} {h₀ : Heap} {env : Env} {E : Value → Shared → Prop} {m : Str → Option Value} {news : List (Addr × Obj)}
theorem assign_pair {xi xc : Str} {pk pv pt : Pos} {x1 : Nat} {T : Addr} {v0 v1 : Value} {Q : Unit → Shared → Prop} (hh : A.handled = none) (hxi : env.kindOf xi = some .local) (hxc : env.kindOf xc = some .local)
    (hp : (env.scope.kind == .class || (env.scope.kind == .module && env.locals != env.globals)) = false) (ht : s.heap.IsTuple T #[v0, v1]) (F : Fr h₀ env.locals s.heap m) (N : News h₀ env.locals s.heap news)
    (h : ∀ h' tk, Fr h₀ env.locals h' (fun y => if y = xc then some v1 else if y = xi then some v0 else m y) → News h₀ env.locals h' news → Q () { s with heap := h', toks := tk }) :
    wpAny (model prog w) A (assign (.Tuple [.Name xi pk, .Name xc pv] x1 pt) env (.ref T)) Q E s := by
  refine wpAny_assign_Tuple hh ht rfl rfl fun h₃ hx₃ => ?_
  have up₃ : ∀ b o, s.heap.get? b = some o → h₃.get? b = some o := fun b o x => hx₃ b o (Nat.ne_of_lt (Heap.lt_size x)) x
  have F₃ : Fr h₀ env.locals h₃ m := ⟨F.ns.keeps up₃, fun b o e => up₃ b o (F.keep b o e), F.above⟩
  have N₃ : News h₀ env.locals h₃ news := fun p hp => ⟨up₃ _ _ (N p hp).1, (N p hp).2⟩
  show wpAny _ A (do holding [v1] (assign (.Name xi pk) env v0); do holding [] (assign (.Name xc pv) env v1); pure ()) _ _ _
  refine wpAny_bind (wpAny_holding (wpAny_assign_Name (wpAny_storeName_local hxi F₃.ns (fun h₄ hn₄ hs₄ => ?_) hp)))
  replace hs₄ : Heap.SameBut env.locals h₃ h₄ := hs₄
  have F₄ := F₃.set hn₄ hs₄
  refine wpAny_bind (wpAny_holding (wpAny_assign_Name (wpAny_storeName_local hxc F₄.ns (fun h₅ hn₅ hs₅ => wpAny_pure ?_) hp)))
  replace hs₅ : Heap.SameBut env.locals h₄ h₅ := hs₅
  exact h h₅ _ (F₄.set hn₅ hs₅) ((N₃.set hs₄).set hs₅)

theorem assign_name {x : Str} {pk : Pos} {v : Value} {Q : Unit → Shared → Prop} (hx : env.kindOf x = some .local)
    (hp : (env.scope.kind == .class || (env.scope.kind == .module && env.locals != env.globals)) = false) (F : Fr h₀ env.locals s.heap m) (N : News h₀ env.locals s.heap news)
    (h : ∀ h' tk, Fr h₀ env.locals h' (fun y => if y = x then some v else m y) → News h₀ env.locals h' news → Q () { s with heap := h', toks := tk }) :
    wpAny (model prog w) A (assign (.Name x pk) env v) Q E s := by
  refine wpAny_assign_Name (wpAny_storeName_local hx F.ns (fun h₄ hn₄ hs₄ => ?_) hp)
  replace hs₄ : Heap.SameBut env.locals s.heap h₄ := hs₄
  exact h h₄ _ (F.set hn₄ hs₄) (N.set hs₄)

/-- a turn's end: the frame, the ledger that stands, what it must bear -/
theorem LE.intro {L : Addr} {ws : List Addr} {its news' all : List (Addr × Obj)} {J : (Str → Option Value) → List (Addr × Obj) → Prop} {h' : Heap} {tk : Nat} {m' : Str → Option Value} (F : Fr h₀ L h' m') (N : News h₀ L h' all) (hs : ∀ p ∈ its ++ news', p ∈ all) (hn : ∀ p ∈ news', p.1 ∉ ws) (hJ : J m' news') :
    LE h₀ L s ws its J { s with heap := h', toks := tk } := ⟨h', tk, m', news', rfl, F, fun p hp => N p (hs p hp), hn, hJ⟩
end
end Mine
end B4
section Top82
open PySem PySem.W PyProof.Rows
set_option Elab.async false
set_option maxRecDepth 100000
set_option maxHeartbeats 8000000
namespace Mine
open_top hd82 for PySem.Challenge.rw_op0082_01
end Mine
end Top82
section Fm3
open PySem PySem.W PyProof.Rows PySem.Calls PySem.Spec Mine
set_option Elab.async false
set_option pp.deepTerms false
set_option pp.maxSteps 1500
set_option maxRecDepth 100000
set_option maxHeartbeats 8000000
namespace Mine
theorem resetFm3 : True := by
  w_top off
  trivial
theorem frKp {h₀ h h' : Heap} {L : Addr} {m : Str → Option Value} (F : Fr h₀ L h m) (k : Kp h h') : Fr h₀ L h' m := ⟨F.ns.keeps k, fun b o e => k b o (F.keep b o e), F.above⟩
theorem newsKp {h₀ h h' : Heap} {L : Addr} {news : List (Addr × Obj)} (N : News h₀ L h news) (k : Kp h h') : News h₀ L h' news := fun p hp => ⟨k _ _ (N p hp).1, (N p hp).2⟩
section
variable {w : World} {p : Program} {loose : List Str} {mean : ExcName → Option Value} {mg mb : Str → Option Value} {dp un : Nat} {fr : Option (List Env)} {gd : Option (List Code)} {s : Shared} {E Q : Value → Shared → Prop}
theorem ifmt_spec {n : Int} {t : Tok}
    (X : (hd82.heap_39 w.params).In s.heap) (T : Top p loose mean mg mb s.heap) (hd : dp + 2 < recursionLimit)
    (hret : ∀ h' tk u, Kp s.heap h' → Q (.int (Builtin.bitAnd n 61440) u) { s with heap := h', toks := tk }) :
    wpAny (model PySem.Challenge.rw_op0082_01.row.prog w) ⟨none, dp, fr, gd, un⟩ (call (.ref 37) [.int n t]) Q E s := by
  revert X; k_fill; intro X
  refine enterF T.nolimit (X 37 _ (by k_is)) (by exact rfl) (codeRec_of X (by k_is)) (by show dp < _; omega) (BindsTo.of_eq rfl) (locs rfl) ?_ (by decide)
  intro L' h₁ m tk₀ _ hm F' N'
  rw [map1 (hm (Str.ofString "mode"))] at F'
  clear hm
  k_steps
  exact hret _ _ _ F'.keep
theorem ifmt_fr {h₀ : Heap} {L : Addr} {m : Str → Option Value} {news : List (Addr × Obj)} {n : Int} {t : Tok} (F : Fr h₀ L s.heap m) (N : News h₀ L s.heap news)
    (X : (hd82.heap_39 w.params).In h₀) (T : Top p loose mean mg mb h₀) (hd : dp + 2 < recursionLimit)
    (hret : ∀ h' tk u, Fr h₀ L h' m → News h₀ L h' news → Q (.int (Builtin.bitAnd n 61440) u) { s with heap := h', toks := tk }) :
    wpAny (model PySem.Challenge.rw_op0082_01.row.prog w) ⟨none, dp, fr, gd, un⟩ (call (.ref 37) [.int n t]) Q E s :=
  ifmt_spec (X.keeps F.keep) (T.keeps F.keep) hd fun h' tk u k => hret h' tk u (frKp F k) (newsKp N k)

noncomputable def fmTab : List (Addr × List (Addr × Int × Tok × Str × Tok)) :=
  [(45, [(38, 40960, 230, ⟨#[108]⟩, 258), (39, 49152, 232, ⟨#[115]⟩, 259), (40, 32768, 226, ⟨#[45]⟩, 260), (41, 24576, 224, ⟨#[98]⟩, 261), (42, 16384, 220, ⟨#[100]⟩, 262), (43, 8192, 222, ⟨#[99]⟩, 263), (44, 4096, 228, ⟨#[112]⟩, 264)]),
   (47, [(46, 256, 240, ⟨#[114]⟩, 265)]),
   (49, [(48, 128, 242, ⟨#[119]⟩, 266)]),
   (53, [(50, 2112, 267, ⟨#[115]⟩, 268), (51, 2048, 234, ⟨#[83]⟩, 269), (52, 64, 244, ⟨#[120]⟩, 270)]),
   (55, [(54, 32, 246, ⟨#[114]⟩, 271)]),
   (57, [(56, 16, 248, ⟨#[119]⟩, 272)]),
   (61, [(58, 1032, 273, ⟨#[115]⟩, 274), (59, 1024, 236, ⟨#[83]⟩, 275), (60, 8, 250, ⟨#[120]⟩, 276)]),
   (63, [(62, 4, 252, ⟨#[114]⟩, 277)]),
   (65, [(64, 2, 254, ⟨#[119]⟩, 278)]),
   (69, [(66, 513, 279, ⟨#[116]⟩, 280), (67, 512, 238, ⟨#[84]⟩, 281), (68, 1, 256, ⟨#[120]⟩, 282)])]

noncomputable def fmCond (i : Nat) (n b : Int) : Bool := if i = 0 then decide (Builtin.bitAnd n 61440 = b) else decide (Builtin.bitAnd n b = b)
noncomputable def fmPick (i : Nat) (n : Int) (l : List (Addr × Int × Tok × Str × Tok)) : Str := match l.find? fun q => fmCond i n q.2.1 with
  | some q => q.2.2.2.1
  | none => if i = 0 then ⟨#[63]⟩ else ⟨#[45]⟩
noncomputable def fmRow (n : Int) : List Str := (List.range 10).map fun i => fmPick i n (fmTab.getD i default).2

noncomputable def fmVals : List Value := fmTab.map fun e => .ref e.1
noncomputable def pairObj (q : Addr × Int × Tok × Str × Tok) : Obj := { cls := .type "tuple", data := .seq #[.int q.2.1 q.2.2.1, .str q.2.2.2.1 q.2.2.2.2] }
theorem fmTab_in {h : Heap} (X : (hd82.heap_39 w.params).In h) : h.IsTuple 70 fmVals.toArray ∧ ∀ e ∈ fmTab, h.IsTuple e.1 (e.2.map fun q => Value.ref q.1).toArray ∧ ∀ q ∈ e.2, h.get? q.1 = some (pairObj q) := by
  revert X; k_fill; intro X
  refine ⟨⟨_, X 70 _ (by k_is), rfl, 0, rfl⟩, ?_⟩
  intro e he
  simp only [fmTab, List.mem_cons, List.not_mem_nil, or_false] at he
  rcases he with rfl | rfl | rfl | rfl | rfl | rfl | rfl | rfl | rfl | rfl
  all_goals refine ⟨⟨_, X _ _ rfl, rfl, 0, rfl⟩, ?_⟩
  all_goals (intro q hq; simp only [List.mem_cons, List.not_mem_nil, or_false] at hq)
  · rcases hq with rfl | rfl | rfl | rfl | rfl | rfl | rfl <;> exact X _ _ rfl
  · subst hq; exact X _ _ rfl
  · subst hq; exact X _ _ rfl
  · rcases hq with rfl | rfl | rfl <;> exact X _ _ rfl
  · subst hq; exact X _ _ rfl
  · subst hq; exact X _ _ rfl
  · rcases hq with rfl | rfl | rfl <;> exact X _ _ rfl
  · subst hq; exact X _ _ rfl
  · subst hq; exact X _ _ rfl
  · rcases hq with rfl | rfl | rfl <;> exact X _ _ rfl
end
end Mine
end Fm3
section Fm4
open PySem PySem.W PyProof.Rows PySem.Calls PySem.Spec Mine
set_option Elab.async false
set_option pp.deepTerms false
set_option pp.maxSteps 1500
set_option maxRecDepth 100000
set_option maxHeartbeats 8000000
namespace Mine
theorem resetFm4 : True := by
  w_top off
  trivial
section
variable {w : World} {p : Program} {loose : List Str} {mean : ExcName → Option Value} {mg mb : Str → Option Value} {dp un : Nat} {fr : Option (List Env)} {gd : Option (List Code)} {s : Shared} {E Q : Value → Shared → Prop}
theorem find_first {α : Type} {P : α → Bool} : ∀ {l : List α} {j : Nat} {q : α}, l[j]? = some q → (l.take j).find? P = none → P q = true → l.find? P = some q
  | [], _, _, h, _, _ => by simp at h
  | x :: l, 0, q, h, _, hp => by
    have e : x = q := by simpa using h
    subst e
    simp [hp]
  | x :: l, j + 1, q, h, hn, hp => by
    rw [List.take_succ_cons, List.find?_cons] at hn
    rw [List.find?_cons]
    cases hx : P x with
    | true => rw [hx] at hn; cases hn
    | false => rw [hx] at hn; exact find_first (by simpa using h) hn hp
theorem find_none_succ {α : Type} {P : α → Bool} {l : List α} {j : Nat} {q : α} (h : l[j]? = some q) (hn : (l.take j).find? P = none) (hp : P q = false) : (l.take (j + 1)).find? P = none := by
  rw [List.take_add_one, h, List.find?_append, hn]
  simp [hp]
theorem fmRow_get {n : Int} {i : Nat} {e : Addr × List (Addr × Int × Tok × Str × Tok)} (he : fmTab[i]? = some e) : (fmRow n)[i]? = some (fmPick i n e.2) := by
  have hi : i < 10 := (List.getElem?_eq_some_iff.mp he).1
  simp only [fmRow, List.getElem?_map, List.getElem?_range hi, Option.map_some, Option.some.injEq]
  rw [List.getD_eq_getElem?_getD, he]
  rfl
theorem fm_snoc {n : Int} {i : Nat} {e : Addr × List (Addr × Int × Tok × Str × Tok)} {cs : List Value} {x : Str} {u : Tok} (he : fmTab[i]? = some e) (h : StrsAre cs ((fmRow n).take i)) (hx : fmPick i n e.2 = x) : StrsAre (cs ++ [.str x u]) ((fmRow n).take (i + 1)) := by
  rw [List.take_add_one, fmRow_get he, ← hx]
  exact h.append' (.cons _ _ .nil)
theorem fmPick_len (i : Nat) (hi : i < 10) (n : Int) : (fmPick i n (fmTab.getD i default).2).length = 1 := by
  have key : ∀ e ∈ fmTab, ∀ q ∈ e.2, q.2.2.2.1.length = 1 := by decide
  unfold fmPick
  split
  · rename_i q hq
    have hm := List.mem_of_find?_eq_some hq
    have he : fmTab.getD i default ∈ fmTab := by
      rw [List.getD_eq_getElem?_getD, List.getElem?_eq_getElem (show i < fmTab.length from hi)]
      exact List.getElem_mem _
    exact key _ he _ hm
  · split <;> rfl
theorem fmRow_weight (n : Int) : ((fmRow n).map (·.length)).sum + (fmRow n).length ≤ 1048576 := by
  have e : (fmRow n).map (·.length) = (List.range 10).map fun _ => 1 := by
    unfold fmRow
    rw [List.map_map]
    refine List.map_congr_left fun i hi => ?_
    exact fmPick_len i (List.mem_range.mp hi) n
  rw [e]
  have l : (fmRow n).length = 10 := by simp [fmRow]
  rw [l]
  decide
local macro_rules | `(tactic| walk_at "exec For Tuple Call") => `(tactic| refine for_call ?_)
local macro_rules | `(tactic| walk_at "exec For Tuple Name") => `(tactic| refine for_name ?_)
local macro_rules | `(tactic| walk_at "call ref") => `(tactic| refine stay_out ?_)
theorem fm_spec {n : Int} {t : Tok}
    (X : (hd82.heap_39 w.params).In s.heap) (T : Top p loose mean mg mb s.heap) (hd : dp + 4 < recursionLimit) (hu : un + 8 < cLine)
    (hret : ∀ h' tk u, Kp s.heap h' → Q (.str (Txt.join (Str.ofString "") (fmRow n)) u) { s with heap := h', toks := tk }) :
    wpAny (model PySem.Challenge.rw_op0082_01.row.prog w) ⟨none, dp, fr, gd, un⟩ (call (.ref 77) [.int n t]) Q E s := by
  obtain ⟨htab, hrows⟩ := fmTab_in X
  revert X; k_fill; intro X
  refine enterF T.nolimit (X 77 _ (by k_is)) (by exact rfl) (codeRec_of X (by k_is)) (by show dp < _; omega) (BindsTo.of_eq rfl) (locs rfl) ?_ (by decide)
  intro L' h₁ m tk₀ _ hm F' N'
  have hm' : m (Str.ofString "mode") = some (.int n t) := hm _
  rw [map1 hm'] at F'
  clear hm hm'
  k_steps
  rename Fr _ _ _ _ => F2
  rename News _ _ _ _ => N2
  rename_i pl _ _ _
  refine for_enum rfl htab F2 N2 (fun i m news => m (Str.ofString "perm") = some (.ref pl) ∧ m (Str.ofString "mode") = some (.int n t) ∧ ∃ cs c, StrsAre cs ((fmRow n).take i) ∧ news = [(pl, W.listOf (List.toArray cs) c)]) ?_ ?_ ?_
  · exact ⟨rfl, rfl, [], 0, .nil, rfl⟩
  · rintro i Tp v tt m₁ news₁ h₂ tk₁ I2 o2 I1 o1 hv hT ⟨hm1, hm2, cs, c, hcs, rfl⟩ hoff hI hlt F3 N3
    replace F3 : Fr s.heap L' h₂ m₁ := F3
    replace N3 : News s.heap L' h₂ [(I2, o2), (I1, o1), (pl, W.listOf cs.toArray c)] := N3
    rw [map2 hm1 hm2] at F3
    obtain ⟨e, he, rfl⟩ : ∃ e, fmTab[i]? = some e ∧ v = .ref e.1 := by
      simp only [fmVals, List.getElem?_map, Option.map_eq_some_iff] at hv
      obtain ⟨e, he, rfl⟩ := hv
      exact ⟨e, he, rfl⟩
    have hrow := hrows e (List.mem_of_getElem? he)
    refine assign_pair rfl rfl rfl rfl hT F3 N3 ?_
    clear F3 N3 hm1 hm2 hT
    intro h₃ tk₃ F4 N4
    k_steps
    have g1 := ltN (hlt _ (.head _))
    have g2 := ltN hI
    have hsz : (List.toArray cs).size ≤ sizeLine := by
      rw [List.size_toArray, hcs.length, List.length_take, sizeLine_eq]
      exact Nat.le_trans (Nat.min_le_right _ _) (by simp [fmRow])
    refine for_tuple rfl hrow.1 F4 N4 (fun j m news => m (Str.ofString "index") = some (.int (i : Int) tt) ∧ m (Str.ofString "perm") = some (.ref pl) ∧ m (Str.ofString "mode") = some (.int n t) ∧ news = [(I2, o2), (I1, o1), (pl, W.listOf cs.toArray c)] ∧ (e.2.take j).find? (fun q => fmCond i n q.2.1) = none) ?_ ?_ ?_
    · exact ⟨rfl, rfl, rfl, rfl, rfl⟩
    · rintro j v m₂ news₂ h₄ tk₄ I io hv2 ⟨hi1, hi2, hi3, rfl, hno⟩ hoff2 hlt2 F5 N5
      obtain ⟨q, hq, rfl⟩ : ∃ q, e.2[j]? = some q ∧ v = .ref q.1 := by
        simp only [List.getElem?_map, Option.map_eq_some_iff] at hv2
        obtain ⟨q, hq, rfl⟩ := hv2
        exact ⟨q, hq, rfl⟩
      have g3 := ltN (hlt2 (I2, o2) (.head _))
      have hT2 : h₄.IsTuple q.1 #[.int q.2.1 q.2.2.1, .str q.2.2.2.1 q.2.2.2.2] := ⟨_, F5.keep _ _ (hrow.2 q (List.mem_of_getElem? hq)), rfl, 0, rfl⟩
      replace F5 : Fr s.heap L' h₄ m₂ := F5
      replace N5 : News s.heap L' h₄ [(I, io), (I2, o2), (I1, o1), (pl, W.listOf cs.toArray c)] := N5
      rw [map3 hi1 hi2 hi3] at F5
      refine assign_pair rfl rfl rfl rfl hT2 F5 N5 ?_
      clear F5 N5 hi1 hi2 hi3 hT2 F4 N4 F2 N2 hv hv2
      intro h₅ tk₅ F6 N6
      replace F6 := F6
      k_steps
      · unfold stay
        refine ifmt_fr F6 N6 X T (by first | omega | (dsimp only; omega)) ?_
        clear F6 N6
        intro h' tk' u' F6 N6
        k_steps
        · dsimp only [TurnPost]
          refine wpAny_execs_nil ?_
          dsimp only [TurnPost]
          rename Fr _ _ _ _ => F9
          rename News _ _ _ _ => N9
          have a0 : i = 0 := Int.ofNat_eq_zero.mp (by assumption)
          rename (Builtin.bitAnd n 61440 = _) => a1
          have hc : fmCond i n q.2.1 = true := by simp [fmCond, a0, a1]
          rw [List.push_toArray] at N9
          refine LE.intro (news' := [(pl, W.listOf (List.toArray (cs ++ [Value.str q.2.2.2.1 q.2.2.2.2])) (c + 1))]) F9 N9 (fun p hp => .tail _ hp) (fun p hp => ?_) ⟨rfl, rfl, _, _, fm_snoc he hcs (by simp only [fmPick, find_first hq hno hc]), rfl⟩
          rw [List.mem_singleton.mp hp]
          intro hx
          rcases List.mem_cons.mp hx with e | hx
          · exact Nat.ne_of_lt (Nat.lt_trans g1 g2) e
          · exact Nat.ne_of_lt g1 (List.mem_singleton.mp hx)
        · dsimp only [TurnPost]
          rename Fr _ _ _ _ => F9
          rename News _ _ _ _ => N9
          have a0 : i = 0 := Int.ofNat_eq_zero.mp (by assumption)
          rename (Builtin.bitAnd n 61440 ≠ _) => a1
          have hc : fmCond i n q.2.1 = false := by simp [fmCond, a0, a1]
          exact LE.intro F9 N9 (fun p hp => hp) (fun p hp hx => hoff2 p hp (List.mem_singleton.mp hx)) ⟨rfl, rfl, rfl, rfl, find_none_succ hq hno hc⟩
      · dsimp only [TurnPost]
        refine wpAny_execs_nil ?_
        dsimp only [TurnPost]
        rename Fr _ _ _ _ => F9
        rename News _ _ _ _ => N9
        have a0 : i ≠ 0 := fun e => by subst e; contradiction
        rename (Builtin.bitAnd n q.2.1 = _) => a1
        have hc : fmCond i n q.2.1 = true := by simp [fmCond, a0, a1]
        rw [List.push_toArray] at N9
        refine LE.intro (news' := [(pl, W.listOf (List.toArray (cs ++ [Value.str q.2.2.2.1 q.2.2.2.2])) (c + 1))]) F9 N9 (fun p hp => .tail _ hp) (fun p hp => ?_) ⟨rfl, rfl, _, _, fm_snoc he hcs (by simp only [fmPick, find_first hq hno hc]), rfl⟩
        rw [List.mem_singleton.mp hp]
        intro hx
        rcases List.mem_cons.mp hx with e | hx
        · exact Nat.ne_of_lt (Nat.lt_trans g1 g2) e
        · exact Nat.ne_of_lt g1 (List.mem_singleton.mp hx)
      · dsimp only [TurnPost]
        rename Fr _ _ _ _ => F9
        rename News _ _ _ _ => N9
        have a0 : i ≠ 0 := fun e => by subst e; contradiction
        rename (Builtin.bitAnd n q.2.1 ≠ _) => a1
        have hc : fmCond i n q.2.1 = false := by simp [fmCond, a0, a1]
        exact LE.intro F9 N9 (fun p hp => hp) (fun p hp hx => hoff2 p hp (List.mem_singleton.mp hx)) ⟨rfl, rfl, rfl, rfl, find_none_succ hq hno hc⟩
    · rintro h₄ tk₄ m₂ news₂ F5 N5 ⟨hi1, hi2, hi3, rfl, hno⟩
      replace F5 : Fr s.heap L' h₄ m₂ := F5
      replace N5 : News s.heap L' h₄ [(I2, o2), (I1, o1), (pl, W.listOf cs.toArray c)] := N5
      rw [map3 hi1 hi2 hi3] at F5
      rw [List.length_map, List.take_length] at hno
      clear hi1 hi2 hi3 F4 N4 F2 N2 hv
      k_steps
      · dsimp only [TurnPost]
        rename Fr _ _ _ _ => F9
        rename News _ _ _ _ => N9
        have a0 : i = 0 := Int.ofNat_eq_zero.mp (by assumption)
        rw [List.push_toArray] at N9
        refine LE.intro F9 N9 (fun p hp => hp) (fun p hp => ?_) ⟨rfl, rfl, _, _, fm_snoc he hcs (by simp only [fmPick, hno]; simp [a0]; rfl), rfl⟩
        rw [List.mem_singleton.mp hp]
        intro hx
        rcases List.mem_cons.mp hx with e | hx
        · exact Nat.ne_of_lt (Nat.lt_trans g1 g2) e
        · exact Nat.ne_of_lt g1 (List.mem_singleton.mp hx)
      · dsimp only [TurnPost]
        rename Fr _ _ _ _ => F9
        rename News _ _ _ _ => N9
        have a0 : i ≠ 0 := fun e => by subst e; contradiction
        rw [List.push_toArray] at N9
        refine LE.intro F9 N9 (fun p hp => hp) (fun p hp => ?_) ⟨rfl, rfl, _, _, fm_snoc he hcs (by simp only [fmPick, hno]; simp [a0]; rfl), rfl⟩
        rw [List.mem_singleton.mp hp]
        intro hx
        rcases List.mem_cons.mp hx with e | hx
        · exact Nat.ne_of_lt (Nat.lt_trans g1 g2) e
        · exact Nat.ne_of_lt g1 (List.mem_singleton.mp hx)
  · rintro h₂ tk₂ m₂ news₂ F5 N5 ⟨hm1, hm2, cs, c, hcs, rfl⟩
    replace F5 : Fr s.heap L' h₂ m₂ := F5
    replace N5 : News s.heap L' h₂ [(pl, W.listOf cs.toArray c)] := N5
    rw [map2 hm1 hm2] at F5
    clear hm1 hm2 F2 N2
    k_steps
    rw [show fmVals.length = 10 from rfl, List.take_of_length_le (by simp [fmRow])] at hcs
    refine join_listW (News.isList N5 (.head _)) hcs (by decide) (fmRow_weight n) ?_
    intro t' k'
    exact hret _ _ _ F5.keep
end
end Mine
end Fm4
section Pl1
open PySem PySem.W PyProof.Rows PySem.Calls PySem.Spec Mine
set_option Elab.async false
set_option pp.deepTerms false
set_option pp.maxSteps 1500
set_option maxRecDepth 100000
set_option maxHeartbeats 8000000
namespace Mine
theorem resetPl1 : True := by
  w_top off
  trivial
noncomputable def placesGo : Nat → List Int → Int → List Int
  | 0, _, _ => []
  | f + 1, P, T => P.getD (T.fmod P.length).toNat 0 :: placesGo f (P.eraseIdx (T.fmod P.length).toNat) (T.fdiv 9)
noncomputable def placesOf (T : Int) : List Int := placesGo 5 [1, 2, 3, 4, 5, 6, 7, 8, 9] T
theorem kl_cut_mk : ∀ (p q : List Value) (y : Value), kl_cut (p ++ y :: q) p.length = some (p, y, q)
  | [], _, _ => rfl
  | x :: p, q, y => by
    show (match kl_cut (p ++ y :: q) p.length with | some (p, y, q) => some (x :: p, y, q) | none => none) = _
    rw [kl_cut_mk p q y]
theorem ints_split : ∀ {vs : List Value} {P : List Int} (j : Nat), IntsAre vs P → j < P.length → ∃ a t b, vs = a ++ .int (P.getD j 0) t :: b ∧ a.length = j ∧ IntsAre (a ++ b) (P.eraseIdx j)
  | _, _, 0, .cons n t h, _ => ⟨[], t, _, rfl, rfl, h⟩
  | _, _, j + 1, .cons n t h, hj => by
    obtain ⟨a, u, b, e, hl, hi⟩ := ints_split j h (by simpa using hj)
    refine ⟨.int n t :: a, u, b, ?_, by rw [List.length_cons, hl], .cons n t hi⟩
    rw [e]
    rfl
  | _, _, 0, .nil, h => by cases h
  | _, _, _ + 1, .nil, h => by cases h
theorem ints_snoc {n : Int} {t : Tok} : ∀ {vs : List Value} {ns : List Int}, IntsAre vs ns → IntsAre (vs ++ [.int n t]) (ns ++ [n])
  | _, _, .nil => .cons n t .nil
  | _, _, .cons a u h => .cons a u (ints_snoc h)
theorem placesGo_length : ∀ (f : Nat) (P : List Int) (T : Int), (placesGo f P T).length = f
  | 0, _, _ => rfl
  | f + 1, P, T => by rw [placesGo, List.length_cons, placesGo_length]
section
variable {w : World} {p : Program} {loose : List Str} {mean : ExcName → Option Value} {mg mb : Str → Option Value} {dp un : Nat} {fr : Option (List Env)} {gd : Option (List Code)} {s : Shared} {E Q : Value → Shared → Prop}
local macro_rules | `(tactic| walk_at "exec For Name Call cons nil") => `(tactic| refine for_call ?_)
theorem pl_spec {n : Int} {t : Tok}
    (X : (hd82.heap_39 w.params).In s.heap) (T : Top p loose mean mg mb s.heap) (hd : dp + 4 < recursionLimit) (hu : un + 8 < cLine)
    (hret : ∀ h' tk a vs c, Kp s.heap h' → s.heap.get? a = none → h'.get? a = some (W.listOf (List.toArray vs) c) → IntsAre vs (placesOf n) → Q (.ref a) { s with heap := h', toks := tk }) :
    wpAny (model PySem.Challenge.rw_op0082_01.row.prog w) ⟨none, dp, fr, gd, un⟩ (call (.ref 98) [.int n t]) Q E s := by
  revert X; k_fill; intro X
  refine enterF T.nolimit (X 98 _ (by k_is)) (by exact rfl) (codeRec_of X (by k_is)) (by show dp < _; omega) (BindsTo.of_eq rfl) (locs rfl) ?_ (by decide)
  intro L' h₁ m tk₀ _ hm F' N'
  have hm' : m (Str.ofString "total") = some (.int n t) := hm _
  rw [map1 hm'] at F'
  clear hm hm'
  k_steps
  rename IsRange _ _ _ _ _ _ _ _ => hr
  rename Fr _ _ _ _ => F2
  rename News _ _ _ _ => N2
  rename_i pa _ _ _ _ qa _ hlt _ _ _ _ _ _ _ _ _
  refine for_range (n := 5) rfl hr (by decide) rfl F2 N2 (fun i m news => m (Str.ofString "pool") = some (.ref pa) ∧ m (Str.ofString "places") = some (.ref qa) ∧ ∃ T u vs ws P c1 c2, m (Str.ofString "total") = some (.int T u) ∧ IntsAre vs P ∧ IntsAre ws ((placesOf n).take i) ∧ P.length + i = 9 ∧ (placesOf n).drop i = placesGo (5 - i) P T ∧ news = [(qa, W.listOf (List.toArray ws) c2), (pa, W.listOf (List.toArray vs) c1)]) ?_ ?_ ?_
  · exact ⟨rfl, rfl, n, t, _, [], [1, 2, 3, 4, 5, 6, 7, 8, 9], _, _, rfl, by repeat constructor, .nil, rfl, rfl, rfl⟩
  · rintro i q m₁ news₁ h₂ tk₁ I io hi ⟨hm1, hm2, T', u, vs, ws, P, c1, c2, hm3, hvs, hws, hP, hdrop, rfl⟩ hoff hltI F3 N3
    replace F3 : Fr s.heap L' h₂ m₁ := F3
    replace N3 : News s.heap L' h₂ [(I, io), (qa, W.listOf (List.toArray ws) c2), (pa, W.listOf (List.toArray vs) c1)] := N3
    rw [map3 hm1 hm2 hm3] at F3
    rw [Int.zero_add, Int.mul_one]
    have g1 := ltN (hltI _ (.head _))
    refine assign_name rfl rfl F3 N3 ?_
    clear F3 N3 F2 N2 hm1 hm2 hm3 hr
    intro h₃ tk₃ F4 N4
    replace F4 := F4
    k_steps
    have hPl : ((9 : Int) - (i : Int)) = (P.length : Int) := by omega
    rw [hPl]
    have hj0 : 0 ≤ T'.fmod (P.length : Int) := Int.fmod_nonneg_of_pos _ (by omega)
    have hj1 : T'.fmod (P.length : Int) < (P.length : Int) := Int.fmod_lt_of_pos _ (by omega)
    obtain ⟨a, tt, b, rfl, hla, hab⟩ := ints_split (T'.fmod (P.length : Int)).toNat hvs (by omega)
    have hlen := hvs.length
    have hlw := hws.length
    have hsz : (List.toArray ws).size ≤ sizeLine := by
      rw [List.size_toArray, hlw, List.length_take, sizeLine_eq]
      omega
    have hstep : placesGo (5 - i) P T' = P.getD (T'.fmod (P.length : Int)).toNat 0 :: placesGo (5 - (i + 1)) (P.eraseIdx (T'.fmod (P.length : Int)).toNat) (T'.fdiv 9) := by
      rw [show 5 - i = (5 - (i + 1)) + 1 by omega, placesGo]
    rw [hstep] at hdrop
    have g2 := ltN hlt
    refine kl_popAt (p := a) (q := b) (y := .int (P.getD (T'.fmod (P.length : Int)).toNat 0) tt) F4 N4 (k := a.length) ?_ ?_ ?_ (.tail ?_ (.tail ?_ (.head (fun _ h => nomatch h)))) ?_ ?_
    · unfold Builtin.List.listFitsIndex
      simp
      omega
    · have e : T'.fmod (P.length : Int) = (a.length : Int) := by omega
      rw [e]
      simp [seqIndex?]
      have hn : ¬ ((a.length : Int) < 0) := by omega
      simp only [if_neg hn]
      omega
    · exact kl_cut_mk a b _
    · exact Nat.ne_of_gt (Nat.lt_trans g2 g1)
    · exact Nat.ne_of_gt g2
    · show ((a ++ _ :: b)).length ≤ _
      rw [hlen, sizeLine_eq]; omega
    clear F4 N4
    intro h₄ F5 N5
    k_steps
    dsimp only [TurnPost]
    rename Fr _ _ _ _ => F9
    rename News _ _ _ _ => N9
    rw [List.push_toArray] at N9
    have hget : (placesOf n)[i]? = some (P.getD (T'.fmod (P.length : Int)).toNat 0) := by
      rw [← Nat.add_zero i, ← List.getElem?_drop, hdrop]
      rfl
    refine LE.intro F9 N9 (fun p hp => hp) (fun p hp => ?_) ⟨rfl, rfl, T'.fdiv 9, _, a ++ b, _, P.eraseIdx (T'.fmod (P.length : Int)).toNat, _, _, rfl, hab, ?_, ?_, ?_, rfl⟩
    · intro hx
      have e := List.mem_singleton.mp hx
      rcases List.mem_cons.mp hp with rfl | hp
      · exact Nat.ne_of_lt g1 e
      · rw [List.mem_singleton.mp hp] at e
        exact Nat.ne_of_lt (Nat.lt_trans g2 g1) e
    · rw [List.take_add_one, hget]
      exact ints_snoc hws
    · rw [List.length_eraseIdx]
      split <;> omega
    · rw [← List.drop_drop, hdrop]
      rfl
  · rintro h₂ tk₂ m₂ news₂ F5 N5 ⟨hm1, hm2, T', u, vs, ws, P, c1, c2, hm3, hvs, hws, hP, hdrop, rfl⟩
    replace F5 : Fr s.heap L' h₂ m₂ := F5
    replace N5 : News s.heap L' h₂ [(qa, W.listOf (List.toArray ws) c2), (pa, W.listOf (List.toArray vs) c1)] := N5
    rw [map3 hm1 hm2 hm3] at F5
    clear hm1 hm2 hm3 F2 N2
    rw [List.take_of_length_le (by rw [placesOf, placesGo_length]; exact Nat.le_refl _)] at hws
    k_steps
    exact hret _ _ _ _ _ F5.keep (N5 _ (.head _)).2.2 (N5 _ (.head _)).1 hws
end
end Mine
end Pl1
section T1
open PySem PySem.W PyProof.Rows PySem.Calls PySem.Spec Mine
set_option Elab.async false
set_option pp.deepTerms false
set_option pp.maxSteps 3000
set_option maxRecDepth 100000
set_option maxHeartbeats 400000
namespace Mine
theorem st_tuple : isSubtype (.type "tuple") (.type "tuple") = pure true := by rw [isSubtype_type]; kernel_rfl
theorem st_dict : isSubtype (.type "dict") (.type "dict") = pure true := by rw [isSubtype_type]; kernel_rfl
theorem st_type : isSubtype (.type "type") (.type "type") = pure true := by rw [isSubtype_type]; kernel_rfl
theorem st_object : isSubtype (.type "object") (.type "object") = pure true := by rw [isSubtype_type]; kernel_rfl
theorem ty_object : typeOf (.type "object") = pure (.type "type") := by kernel_rfl
theorem turned0 : Builtin.notOverATurnedClass [.type "object"] = pure () := by kernel_rfl
theorem ext0 : Builtin.extendedBase [.type "object"] = pure (.type "object") := by kernel_rfl
theorem lk_dict_iter : typeLookup (.type "dict") "__iter__" = pure (some (.builtin "dict.__iter__")) := by rw [typeLookup_type, builtinLookup_eq_fast]; kernel_rfl
theorem bb0 : Builtin.Slots.bestBase [.type "object"] = pure (.type "object") := by kernel_rfl
theorem sn0 : Builtin.Slots.slotNamesOf (.type "object") = pure [] := by kernel_rfl
theorem gd0 : Builtin.Slots.givesDict (.type "object") = pure false := by kernel_rfl
theorem gw0 : Builtin.Slots.givesWeak (.type "object") = pure false := by kernel_rfl
theorem vs0 : Builtin.Slots.varSize (.type "object") = pure false := by kernel_rfl
theorem mh0 : Builtin.mroHook? (.type "type") = pure none := by kernel_rfl
theorem lin0 : Builtin.linearize [.type "object"] mroOf = pure [.type "object"] := by kernel_rfl
theorem mb0 : Bind.madeBy (.type "object") = pure (some "object.__new__") := by kernel_rfl
theorem nsb0 (a : Addr) : Builtin.noteSubclassOfBuiltin "object" a = pure () := by kernel_rfl
end Mine
end T1
section Cd1
open PySem PySem.W PyProof.Rows PySem.Calls PySem.Spec Mine
set_option Elab.async false
set_option maxRecDepth 100000
namespace Mine

noncomputable def DNs (h : Heap) (a : Addr) (m : Str → Option Value) (P : Value → Prop) (n : Nat) : Prop :=
  ∃ es ep, h.get? a = some ⟨.type "dict", none, .dict es ep, #[]⟩ ∧ StrKeys es ∧ (∀ x, nsFind es x = m x) ∧ (∀ e ∈ es, P e.val) ∧ es.size ≤ n

theorem DNs.ns {h : Heap} {a m P n} (x : DNs h a m P n) : h.Ns a m := let ⟨es, ep, e, k, f, _, _⟩ := x; ⟨_, es, ep, e, rfl, k, f⟩
theorem DNs.keep {h h' : Heap} {a m P n} (x : DNs h a m P n) (k : ∀ o, h.get? a = some o → h'.get? a = some o) : DNs h' a m P n :=
  let ⟨es, ep, e, r⟩ := x; ⟨es, ep, k _ e, r⟩
theorem DNs.sameBut {h h' : Heap} {a b m P n} (x : DNs h a m P n) (hs : Heap.SameBut b h h') (hab : a ≠ b) : DNs h' a m P n := x.keep fun _ e => (hs.2 a hab).trans e
theorem DNs.push {h : Heap} {a m P n} (x : DNs h a m P n) (o : Obj) : DNs (h.push o) a m P n := x.keep fun _ e => Heap.get?_push_of_some o e
theorem DNs.mono {h : Heap} {a m n} {P P' : Value → Prop} (x : DNs h a m P n) (k : ∀ v, P v → P' v) : DNs h a m P' n :=
  let ⟨es, ep, e, r1, r2, r3, r4⟩ := x; ⟨es, ep, e, r1, r2, fun e he => k _ (r3 e he), r4⟩
theorem DNs.map {h : Heap} {a m m' P n} (x : DNs h a m P n) (k : ∀ y, m y = m' y) : DNs h a m' P n :=
  let ⟨es, ep, e, r1, r2, r3⟩ := x; ⟨es, ep, e, r1, fun y => (r2 y).trans (k y), r3⟩
theorem DNs.at {h : Heap} {a m P n} (x : DNs h a m P n) : ∃ o, h.get? a = some o ∧ o.cls = .type "dict" := let ⟨_, _, e, _⟩ := x; ⟨_, e, rfl⟩

section
variable {M : Model} {A : Around} {E : Value → Shared → Prop} {s : Shared} {a : Addr} {m : Str → Option Value} {P : Value → Prop} {n : Nat} {name : Str} {v : Value}

theorem dns_get {Q : Option Value → Shared → Prop} (D : DNs s.heap a m P n) (h : Q (m name) s) : wpAny M A (nsGet a name) Q E s := wpAny_nsGet D.ns h

theorem refKey_none {es : Array DictEntry} (hk : StrKeys es) : es.any (·.refKey) = false := by
  rw [Array.any_eq_false']; intro e he; obtain ⟨n, t, h⟩ := hk e he; simp [DictEntry.refKey, h]

theorem dns_set {Q : Unit → Shared → Prop} (D : DNs s.heap a m P n) (hP : P v)
    (h : ∀ h', DNs h' a (fun x => if x = name then some v else m x) P (n + 1) → Heap.SameBut a s.heap h' → Q () { s with heap := h', toks := s.toks + 1 }) :
    wpAny M A (nsSet a name v) Q E s := by
  obtain ⟨es, ep, ho, hk, hm, hp, hz⟩ := D
  intro Γ p _
  simp only [nsSet, strHash, Sem.wp_bind', Sem.wp_cmd_ask, Sem.wp_pure', Sem.wp_cmd_mkText]
  rw [Sem.wp_loadPart_of M Γ _ p { s with toks := s.toks + 1 } _ ho]
  simp only [aRefKeyMayBeTheName_at, refKey_none hk, Bool.and_false, Bool.false_eq_true, if_false, Sem.wp_cmd_updatePart]
  refine ⟨by rw [ho]; rfl, h _ ?_ (Heap.SameBut.update ..)⟩
  cases hi : es.findIdx? (·.key.isStr name) with
  | some i =>
    refine ⟨_, ep, (Heap.get?_update_self _ ho (by simp only [Obj.putName_eq, Obj.putNameByArray, hi]; rfl)).trans (by simp only [Obj.putName_eq, Obj.putNameByArray, hi]; rfl), hk.modify _ _, fun x => ?_, fun e he => ?_, ?_⟩
    · show _ = if x = name then some v else m x
      rw [← hm]; exact findBy_modify (fun n v => v.isStr n) Value.isStr_inj es name x v i hi
    · obtain ⟨j, hj, rfl⟩ := Array.mem_iff_getElem.mp he
      rw [Array.getElem_modify]
      split
      · exact hP
      · exact hp _ (Array.getElem_mem _)
    · rw [Array.size_modify]; exact Nat.le_succ_of_le hz
  | none =>
    refine ⟨_, ep + 1, (Heap.get?_update_self _ ho (by simp only [Obj.putName_eq, Obj.putNameByArray, hi]; rfl)).trans (by simp only [Obj.putName_eq, Obj.putNameByArray, hi]; rfl), hk.push _ _ _ _, fun x => ?_, fun e he => ?_, ?_⟩
    · show _ = if x = name then some v else m x
      rw [← hm]
      exact findBy_push (fun n v => v.isStr n) es name x _ _ v (fun y => by
        show (name == y) = decide (y = name)
        by_cases h : y = name
        · subst h; simp
        · have : ¬ name = y := fun e => h e.symm
          simp [h, this]) hi
    · rcases Array.mem_push.mp he with he | rfl
      · exact hp _ he
      · exact hP
    · rw [Array.size_push]; exact Nat.succ_le_succ hz

theorem dns_setV {Q : Unit → Shared → Prop} (D : DNs s.heap a m P n) (hP : P v) (hn : n ≤ sizeLine)
    (h : ∀ h', DNs h' a (fun x => if x = name then some v else m x) P (n + 1) → Heap.SameBut a s.heap h' → Q () { s with heap := h', toks := s.toks + 1 }) :
    wpAny M A (nsSetByValue a name v) Q E s := by
  have D' := D
  obtain ⟨es, ep, ho, hk, hm, hp, hz⟩ := D
  unfold nsSetByValue
  refine wpAny_bind (wpAny_loadPart ho ?_)
  have : ¬ es.size > sizeLine := Nat.not_lt.mpr (Nat.le_trans hz hn)
  simp only [this, decide_false, Bool.false_and, Bool.false_eq_true, if_false]
  exact dns_set D' hP h

theorem dns_del {Q : Bool → Shared → Prop} (D : DNs s.heap a m P n)
    (h : ∀ h' u, DNs h' a (fun x => if x = name then u else m x) P n → Heap.SameBut a s.heap h' → Q (m name).isSome { s with heap := h' }) :
    wpAny M A (nsDel a name) Q E s := by
  obtain ⟨es, ep, ho, hk, hm, hp, hz⟩ := D
  have hsome : (m name).isSome = es.any (·.key.isStr name) := by
    rw [← hm name]; simp only [nsFind, findBy, Option.isSome_map]
    rw [Bool.eq_iff_iff]; simp only [Array.find?_isSome, Array.any_eq_true]
    constructor
    · rintro ⟨x, hx, hp⟩; obtain ⟨i, hi, rfl⟩ := Array.mem_iff_getElem.mp hx; exact ⟨i, hi, hp⟩
    · rintro ⟨i, hi, hp⟩; exact ⟨_, Array.getElem_mem hi, hp⟩
  have hhas : nsHas name ⟨.type "dict", none, .dict es ep, #[]⟩ = pure (es.any (·.key.isStr name)) := by
    rw [nsHas_eq]; unfold nsHasByArray
    show (if (es.any fun x => x.key.isStr name) = true then _ else _) = _
    generalize (es.any fun x => x.key.isStr name) = b
    cases b <;> simp [refKey_none hk]
  unfold nsDel
  refine wpAny_bind (wpAny_loadPart ho ?_)
  rw [hhas]
  refine wpAny_bind (wpAny_pure ?_)
  rw [← hsome]
  cases hmn : (m name).isSome
  · have := h s.heap (m name) ⟨es, ep, ho, hk, fun x => by by_cases hx : x = name <;> simp [hx, hm], hp, hz⟩ (.refl ..)
    rw [hmn] at this
    exact wpAny_pure this
  · refine wpAny_bind (wpAny_updatePart ho (wpAny_pure ?_))
    have key : ∃ u, DNs (s.heap.update a (Obj.dropName name)) a (fun x => if x = name then u else m x) P n := by
      cases hi : es.findIdx? (·.key.isStr name) with
      | some i =>
        refine ⟨nsFind (es.eraseIdxIfInBounds i) name, _, ep + 1, (Heap.get?_update_self _ ho (by simp only [Obj.dropName_eq, Obj.dropNameByArray, hi] <;> rfl)).trans (by simp only [Obj.dropName_eq, Obj.dropNameByArray, hi] <;> rfl), hk.erase i, fun x => ?_, fun e he => ?_, ?_⟩
        · show nsFind (es.eraseIdxIfInBounds i) x = if x = name then nsFind (es.eraseIdxIfInBounds i) name else m x
          by_cases hx : x = name
          · rw [if_pos hx, hx]
          · rw [if_neg hx, nsFind_erase_other hi hx, hm]
        · refine hp e ?_
          obtain ⟨l⟩ := es
          simp only [List.eraseIdxIfInBounds_toArray, List.mem_toArray] at he ⊢
          exact List.mem_of_mem_eraseIdx he
        · obtain ⟨l⟩ := es
          simp only [List.eraseIdxIfInBounds_toArray, List.size_toArray] at hz ⊢
          exact Nat.le_trans (List.length_eraseIdx_le ..) hz
      | none =>
        exact ⟨m name, es, ep, (Heap.get?_update_self _ ho (by simp only [Obj.dropName_eq, Obj.dropNameByArray, hi] <;> rfl)).trans (by simp only [Obj.dropName_eq, Obj.dropNameByArray, hi] <;> rfl), hk, fun x => by by_cases hx : x = name <;> simp [hx, hm], hp, hz⟩
    obtain ⟨u, hu⟩ := key
    have := h _ u hu (Heap.SameBut.update ..)
    rw [hmn] at this
    exact this
end
end Mine
end Cd1
section Cd2
open PySem PySem.W PyProof.Rows PySem.Calls PySem.Spec Mine
set_option Elab.async false
set_option pp.deepTerms false
set_option pp.maxSteps 300
set_option maxRecDepth 100000
namespace Mine
theorem resetCd2 : True := by
  w_top off
  trivial
section
variable {M : Model} {A : Around} {E : Value → Shared → Prop} {s : Shared} {α β : Type}
theorem lp_cons {x : α} {l : List α} {b : β} {f : α → β → Sem (ForInStep β)} {Q : β → Shared → Prop}
    (h : wpAny M A (f x b) (fun r s' => match r with | .done b' => Q b' s' | .yield b' => wpAny M A (forIn l b' f) Q E s') E s) : wpAny M A (forIn (x :: l) b f) Q E s := by
  rw [List.forIn_cons]
  refine wpAny_bind (wpAny_mono h (fun r s' h' => ?_) fun _ _ h' => h')
  cases r with
  | done b' => exact wpAny_pure h'
  | yield b' => exact h'
theorem lp_nil {b : β} {f : α → β → Sem (ForInStep β)} {Q : β → Shared → Prop} (h : Q b s) : wpAny M A (forIn ([] : List α) b f) Q E s := wpAny_pure h
/-- a loop that leaves state and accumulator alone -/
theorem lp_idle {b : β} {f : α → β → Sem (ForInStep β)} {Q : β → Shared → Prop} (h : Q b s) : ∀ {l : List α}, (∀ x ∈ l, ∀ Q' : ForInStep β → Shared → Prop, Q' (.yield b) s → wpAny M A (f x b) Q' E s) → wpAny M A (forIn l b f) Q E s
  | [], _ => lp_nil h
  | x :: l, k => lp_cons (k x (.head _) _ (lp_idle h fun y hy => k y (.tail _ hy)))
theorem lpA_idle {b : β} {f : α → β → Sem (ForInStep β)} {Q : β → Shared → Prop} {xs : Array α} (h : Q b s) (k : ∀ x ∈ xs, ∀ Q' : ForInStep β → Shared → Prop, Q' (.yield b) s → wpAny M A (f x b) Q' E s) : wpAny M A (forIn xs b f) Q E s := by
  obtain ⟨l⟩ := xs
  rw [List.forIn_toArray]
  exact lp_idle h fun x hx => k x (by simpa using hx)
end
theorem nsFind_any {es : Array DictEntry} {m : Str → Option Value} (hm : ∀ x, nsFind es x = m x) (x : Str) : es.any (·.key.isStr x) = (m x).isSome := by
  rw [← hm x]; simp only [nsFind, findBy, Option.isSome_map]
  rw [Bool.eq_iff_iff]; simp only [Array.find?_isSome, Array.any_eq_true]
  constructor
  · rintro ⟨i, hi, hp⟩; exact ⟨_, Array.getElem_mem hi, hp⟩
  · rintro ⟨x, hx, hp⟩; obtain ⟨i, hi, rfl⟩ := Array.mem_iff_getElem.mp hx; exact ⟨i, hi, hp⟩
theorem nsFind_find {es : Array DictEntry} {x : Str} {v : Value} (hm : nsFind es x = some v) : ∃ e, es.find? (·.key.isStr x) = some e ∧ e.val = v := by
  simp only [nsFind, findBy] at hm
  cases h : es.find? (fun e => e.key.isStr x) with
  | none => rw [h] at hm; cases hm
  | some e => rw [h] at hm; exact ⟨e, rfl, Option.some.inj hm⟩

theorem idK (x : Str) (hx : x = "obj") : Builtin.Slots.isIdentifier x = some true := by subst hx; kernel_rfl
theorem mangK (y x : Str) (hy : y = "K") (hx : x = "obj") : Builtin.Slots.mangle y x = x := by subst hx hy; kernel_rfl

theorem slots_read {prog : Program} {w : World} {A : Around} {E : Value → Shared → Prop} {Q : Builtin.Slots.Plan → Shared → Prop} {s : Shared} {kn : Str} {es : Array DictEntry} {l : Addr} {u : Nat} {m : Str → Option Value}
    (hkn : kn = "K") (hm : ∀ x, nsFind es x = m x) (hs : m "__slots__" = some (.ref l)) (ho : m "obj" = none) (hl : s.heap.IsList l #[.str "obj" u])
    (h : ∀ h', Kp s.heap h' → Q ⟨["obj"], false, false, []⟩ { s with heap := h' }) :
    wpAny (model prog w) A (Builtin.Slots.read kn [.type "object"] es) Q E s := by
  unfold Builtin.Slots.read
  refine wpAny_bind (wpAny_of_eq bb0 ?_)
  refine wpAny_bind (wpAny_of_eq sn0 ?_)
  refine wpAny_bind (wpAny_of_eq gd0 ?_)
  refine wpAny_bind (wpAny_of_eq gw0 ?_)
  refine wpAny_bind (wpAny_of_eq vs0 ?_)
  obtain ⟨e, he, hv⟩ := nsFind_find ((hm "__slots__").trans hs)
  rw [he]
  obtain ⟨⟨oc, od, odt, osl⟩, hol, hoc, nn, hod⟩ := id hl
  obtain ⟨hp, g, d, t, os⟩ := s
  cases hoc; cases hod
  obtain ⟨ek, eh, ev⟩ := e
  cases hv
  have j1 := vs0
  iterate 8 wp_step
  refine wpAny_bind (collect_list (vs := [.str "obj" u]) hl ?_)
  have KK : Kp hp ((hp.push (seqObj "list" #[] 0)).update hp.objs.size (Obj.mapSeq (· ++ [Value.str "obj" u].toArray))) := fun b o e =>
    Heap.get?_update_of_ne _ (Nat.ne_of_gt (Heap.lt_size e)) (Heap.get?_push_of_some _ e)
  generalize (hp.push (seqObj "list" #[] 0)).update hp.objs.size (Obj.mapSeq (· ++ [Value.str "obj" u].toArray)) = h2 at KK
  have kf := h h2 KK
  iterate 6 wp_step
  refine lp_cons ?_
  iterate 6 wp_step
  rw [idK _ rfl]
  iterate 15 (first | with_reducible refine lp_nil ?_ | with_reducible refine lp_cons ?_ | wp_step)
  have nz : es.any (fun x => x.key.isStr (Builtin.Slots.mangle kn "obj")) = false := by rw [mangK _ _ hkn rfl, nsFind_any hm, ho]; rfl
  with_reducible refine wpAny_ite_false ?_ ?_
  · show decide ((es.any (fun x => x.key.isStr (Builtin.Slots.mangle kn "obj")) && _) = true) = false
    rw [nz]; rfl
  subst hkn
  iterate 11 (first | with_reducible refine lp_nil ?_ | with_reducible refine lp_cons ?_ | wp_step)
  refine Eq.mp (congrArg (fun z => Q z _) ?_) kf
  kernel_rfl

/-- values whose type has no `__set_name__` -/
noncomputable def QV (al : List Addr) (v : Value) : Prop := v = .none ∨ (∃ x t, v = .str x t) ∨ (∃ i t, v = .int i t) ∨ ∃ a ∈ al, v = .ref a
noncomputable def calmTypes : List String := ["function", "list", "tuple", "member_descriptor"]
noncomputable def Calm (h : Heap) (al : List Addr) : Prop := ∀ a ∈ al, ∃ o T, h.get? a = some o ∧ o.cls = .type T ∧ T ∈ calmTypes
theorem lk_function_setname : typeLookup (.type "function") "__set_name__" = pure none := by rw [typeLookup_type, builtinLookup_eq_fast]; kernel_rfl
theorem lk_list_setname : typeLookup (.type "list") "__set_name__" = pure none := by rw [typeLookup_type, builtinLookup_eq_fast]; kernel_rfl
theorem lk_tuple_setname : typeLookup (.type "tuple") "__set_name__" = pure none := by rw [typeLookup_type, builtinLookup_eq_fast]; kernel_rfl
theorem lk_md_setname : typeLookup (.type "member_descriptor") "__set_name__" = pure none := by rw [typeLookup_type, builtinLookup_eq_fast]; kernel_rfl
theorem lk_none_setname : typeLookup (.type "NoneType") "__set_name__" = pure none := by rw [typeLookup_type, builtinLookup_eq_fast]; kernel_rfl
theorem lk_str_setname : typeLookup (.type "str") "__set_name__" = pure none := by rw [typeLookup_type, builtinLookup_eq_fast]; kernel_rfl
theorem lk_int_setname : typeLookup (.type "int") "__set_name__" = pure none := by rw [typeLookup_type, builtinLookup_eq_fast]; kernel_rfl
theorem calm_setname {M : Model} {A : Around} {E : Value → Shared → Prop} {Q : Option Value → Shared → Prop} {s : Shared} {al : List Addr} {v : Value} (hv : QV al v) (hc : Calm s.heap al) (h : Q none s) :
    wpAny M A (specialOf v "__set_name__") Q E s := by
  unfold specialOf
  rcases hv with rfl | ⟨x, t, rfl⟩ | ⟨i, t, rfl⟩ | ⟨a, ha, rfl⟩
  · exact wpAny_bind (wpAny_pure (wpAny_of_eq lk_none_setname h))
  · exact wpAny_bind (wpAny_pure (wpAny_of_eq lk_str_setname h))
  · exact wpAny_bind (wpAny_pure (wpAny_of_eq lk_int_setname h))
  · obtain ⟨o, T, ho, hT, hm⟩ := hc a ha
    refine wpAny_bind (wpAny_typeOf (T := T) ⟨o, ho, hT⟩ ?_)
    simp only [calmTypes, List.mem_cons, List.not_mem_nil, or_false] at hm
    rcases hm with rfl | rfl | rfl | rfl
    · exact wpAny_of_eq lk_function_setname h
    · exact wpAny_of_eq lk_list_setname h
    · exact wpAny_of_eq lk_tuple_setname h
    · exact wpAny_of_eq lk_md_setname h
theorem calm_held {k v : Value} {al : List Addr} (hv : QV al v) : Builtin.laidUnderItsOwnName k v = false := by
  rcases hv with rfl | ⟨x, t, rfl⟩ | ⟨i, t, rfl⟩ | ⟨a, ha, rfl⟩ <;> cases k <;> rfl
end Mine
end Cd2
section Cd3
open PySem PySem.W PyProof.Rows PySem.Calls PySem.Spec Mine
set_option Elab.async false
set_option pp.deepTerms false
set_option pp.maxSteps 300
set_option maxRecDepth 100000
namespace Mine

structure Ph (h0 h : Heap) (C N : Addr) (co : Obj) (m : Str → Option Value) (al : List Addr) (n : Nat) : Prop where
  kp : Kp h0 h
  fC : h0.get? C = none
  fN : h0.get? N = none
  ne : C ≠ N
  gC : h.get? C = some co
  dn : DNs h N m (QV al) n
  cm : Calm h al
  cC : C ∉ al
  cN : N ∉ al

section
variable {h0 h h' : Heap} {C N : Addr} {co co' : Obj} {m : Str → Option Value} {al : List Addr} {n : Nat}
theorem Calm.keep (x : Calm h al) (k : ∀ a ∈ al, ∀ o, h.get? a = some o → h'.get? a = some o) : Calm h' al := fun a ha => let ⟨o, T, e, r⟩ := x a ha; ⟨o, T, k a ha o e, r⟩
theorem Kp.none_lt (x : Kp h0 h) {C : Addr} (f : h0.get? C = none) : ∀ b o, h0.get? b = some o → b ≠ C := fun b o e q => by rw [q, f] at e; cases e
theorem Ph.push (x : Ph h0 h C N co m al n) (o : Obj) : Ph h0 (h.push o) C N co m al n :=
  ⟨fun b ob e => Heap.get?_push_of_some _ (x.kp b ob e), x.fC, x.fN, x.ne, Heap.get?_push_of_some _ x.gC, x.dn.push o, x.cm.keep fun _ _ _ e => Heap.get?_push_of_some _ e, x.cC, x.cN⟩
theorem Ph.upd (x : Ph h0 h C N co m al n) (f : Obj → Obj) (e : f co = co') (hf : co'.isFreed = false) : Ph h0 (h.update C f) C N co' m al n := by
  have hs : Heap.SameBut C h (h.update C f) := Heap.SameBut.update ..
  refine ⟨fun b ob e => (hs.2 b (x.kp.none_lt x.fC b ob e)).trans (x.kp b ob e), x.fC, x.fN, x.ne, ?_, x.dn.sameBut hs (Ne.symm x.ne), x.cm.keep fun a ha o q => (hs.2 a (fun z => x.cC (z ▸ ha))).trans q, x.cC, x.cN⟩
  rw [Heap.get?_update_self f x.gC (by rw [e]; exact hf), e]
theorem Ph.dnew (x : Ph h0 h C N co m al n) {m' : Str → Option Value} {n' : Nat} (hs : Heap.SameBut N h h') (D : DNs h' N m' (QV al) n') : Ph h0 h' C N co m' al n' :=
  ⟨fun b ob e => (hs.2 b (x.kp.none_lt x.fN b ob e)).trans (x.kp b ob e), x.fC, x.fN, x.ne, (hs.2 C x.ne).trans x.gC, D, x.cm.keep fun a ha o q => (hs.2 a (fun z => x.cN (z ▸ ha))).trans q, x.cC, x.cN⟩
theorem Ph.more (x : Ph h0 h C N co m al n) {a : Addr} {o : Obj} {T : String} (e : h.get? a = some o) (hT : o.cls = .type T) (hm : T ∈ calmTypes) (hC : a ≠ C) (hN : a ≠ N) : Ph h0 h C N co m (a :: al) n :=
  ⟨x.kp, x.fC, x.fN, x.ne, x.gC, x.dn.mono fun v hv => by
      rcases hv with rfl | ⟨y, t, rfl⟩ | ⟨i, t, rfl⟩ | ⟨b, hb, rfl⟩
      · exact .inl rfl
      · exact .inr (.inl ⟨_, _, rfl⟩)
      · exact .inr (.inr (.inl ⟨_, _, rfl⟩))
      · exact .inr (.inr (.inr ⟨b, .tail _ hb, rfl⟩)),
    fun b hb => by
      cases hb with
      | head => exact ⟨o, T, e, hT, hm⟩
      | tail _ hb => exact x.cm b hb,
    fun q => by
      cases q with
      | head => exact hC rfl
      | tail _ q => exact x.cC q,
    fun q => by
      cases q with
      | head => exact hN rfl
      | tail _ q => exact x.cN q⟩
end

section
variable {M : Model} {A : Around} {E : Value → Shared → Prop} {s : Shared} {h0 : Heap} {C N : Addr} {co co' : Obj} {m : Str → Option Value} {al : List Addr} {n : Nat} {name : Str} {v : Value}
theorem ph_slotSet {i : Nat} {o : Option Value} {Q : Unit → Shared → Prop} (x : Ph h0 s.heap C N co m al n) (h : ∀ h', Ph h0 h' C N co' m al n → Heap.SameBut C s.heap h' → Q () { s with heap := h' })
    (e : ({ co with slots := (co.slots ++ Array.replicate (i + 1 - co.slots.size) none).setIfInBounds i o } : Obj) = co' := by rfl) (hf : co'.isFreed = false := by rfl) (hi : i < sizeLine := by size_fits) : wpAny M A (setSlotAt C i o) Q E s := by
  unfold setSlotAt
  rw [if_neg (Nat.not_le.mpr hi)]
  exact wpAny_updatePart x.gC (h _ (x.upd _ e hf) (Heap.SameBut.update ..))
theorem ph_slotAt {i : Nat} {Q : Option Value → Shared → Prop} (x : Ph h0 s.heap C N co m al n) (h : Q ((co.slots[i]?).join) s) : wpAny M A (slotAt C i) Q E s := by
  unfold slotAt
  exact wpAny_bind (wpAny_loadPart x.gC (wpAny_pure h))
theorem ph_cls {f : ClassData → ClassData} {c : Value} {d : Option Addr} {cd : ClassData} {sl : Array (Option Value)} {Q : Unit → Shared → Prop} (x : Ph h0 s.heap C N ⟨c, d, .cls cd, sl⟩ m al n)
    (h : ∀ h', Ph h0 h' C N ⟨c, d, .cls (f cd), sl⟩ m al n → Heap.SameBut C s.heap h' → Q () { s with heap := h' }) (hp : (Data.cls (f cd)).pastItsLine = none) : wpAny M A (updateCls C f) Q E s := by
  unfold updateCls
  refine wpAny_bind (wpAny_load x.gC ?_)
  have y := x.upd (Obj.mapCls f) (co' := ⟨c, d, .cls (f cd), sl⟩) rfl rfl
  exact wpAny_bind (wpAny_update x.gC (wpAny_lookBehind y.gC hp (h _ y (Heap.SameBut.update ..))))
theorem ph_get {Q : Option Value → Shared → Prop} (x : Ph h0 s.heap C N co m al n) (h : Q (m name) s) : wpAny M A (nsGet N name) Q E s := dns_get x.dn h
theorem ph_set {Q : Unit → Shared → Prop} (x : Ph h0 s.heap C N co m al n) (hv : QV al v) (h : ∀ h', Ph h0 h' C N co (fun y => if y = name then some v else m y) al (n + 1) → Heap.SameBut N s.heap h' → Q () { s with heap := h', toks := s.toks + 1 }) : wpAny M A (nsSet N name v) Q E s :=
  dns_set x.dn hv fun h' D hs => h h' (x.dnew hs D) hs
theorem ph_setV {Q : Unit → Shared → Prop} (x : Ph h0 s.heap C N co m al n) (hv : QV al v) (hn : n ≤ sizeLine) (h : ∀ h', Ph h0 h' C N co (fun y => if y = name then some v else m y) al (n + 1) → Heap.SameBut N s.heap h' → Q () { s with heap := h', toks := s.toks + 1 }) : wpAny M A (nsSetByValue N name v) Q E s :=
  dns_setV x.dn hv hn fun h' D hs => h h' (x.dnew hs D) hs
theorem ph_del {Q : Bool → Shared → Prop} (x : Ph h0 s.heap C N co m al n) (h : ∀ h' u, Ph h0 h' C N co (fun y => if y = name then u else m y) al n → Heap.SameBut N s.heap h' → Q (m name).isSome { s with heap := h' }) : wpAny M A (nsDel N name) Q E s :=
  dns_del x.dn fun h' u D hs => h h' u (x.dnew hs D) hs
end
end Mine
end Cd3
section Cd4
open PySem PySem.W PyProof.Rows PySem.Calls PySem.Spec Mine
set_option Elab.async false
set_option pp.deepTerms false
set_option pp.maxSteps 300
set_option maxRecDepth 100000
namespace Mine
theorem resetCd4 : True := by
  w_top off
  trivial
noncomputable abbrev clsO (cd : ClassData) (sl : Array (Option Value)) : Obj := ⟨.type "type", none, .cls cd, sl⟩
section
variable {M : Model} {A : Around} {E : Value → Shared → Prop} {s : Shared} {h0 : Heap} {C N : Addr} {cd : ClassData} {sl : Array (Option Value)} {m : Str → Option Value} {name : Str}
theorem cls_data {Q : ClassData → Shared → Prop} {c : Value} {d : Option Addr} (x : s.heap.get? C = some ⟨c, d, .cls cd, sl⟩) (h : Q cd s) : wpAny M A (classData C) Q E s := by
  unfold classData
  exact wpAny_bind (wpAny_load x (wpAny_pure h))
theorem cls_look {Q : Option Value → Shared → Prop} {c : Value} {d : Option Addr} (x : s.heap.get? C = some ⟨c, d, .cls cd, sl⟩) (hN : s.heap.Ns cd.ns m) (hm : cd.mro = [.ref C, .type "object"])
    (h : Q ((m name).orElse (fun _ => builtinOwn "object" name)) s) : wpAny M A (typeLookup (.ref C) name) Q E s := by
  unfold typeLookup
  refine wpAny_bind (wpAny_bind (cls_data x (wpAny_pure ?_)))
  rw [hm]
  refine wpAny_bind (lp_cons ?_)
  refine wpAny_bind (wpAny_bind (cls_data x (wpAny_nsGet hN ?_)))
  cases hv : m name with
  | some v => rw [hv] at h; exact wpAny_pure (wpAny_pure h)
  | none =>
    rw [hv] at h
    refine wpAny_pure (lp_cons (wpAny_bind (wpAny_pure ?_)))
    change Q (builtinOwn "object" name) s at h
    revert h
    cases builtinOwn "object" name with
    | some v => exact fun h => wpAny_pure (wpAny_pure h)
    | none => exact fun h => wpAny_pure (lp_nil (wpAny_pure h))
end
theorem own_new : builtinOwn "object" "__new__" = some (.builtin "object.__new__") := by kernel_rfl
theorem ends_new : ("object.__new__" : String).endsWith ".__new__" = true := by decide +kernel
section
variable {M : Model} {A : Around} {E : Value → Shared → Prop} {s : Shared} {h0 : Heap} {C N : Addr} {cd : ClassData} {sl : Array (Option Value)} {m : Str → Option Value} {al : List Addr} {n : Nat}
theorem ph_refresh {Q : Unit → Shared → Prop} (x : Ph h0 s.heap C N (clsO cd sl) m al n) (hN : cd.ns = N) (hm : cd.mro = [.ref C, .type "object"]) (hn : m "__new__" = none) (h : Q () s) : wpAny M A (Bind.refreshMaker C) Q E s := by
  unfold Bind.refreshMaker
  refine wpAny_bind (ph_slotAt x ?_)
  cases hs : (clsO cd sl).slots[4]?.join with
  | none => exact wpAny_pure h
  | some v =>
    refine wpAny_bind (cls_look x.gC (hN ▸ x.dn.ns) hm ?_)
    rw [hn, Option.orElse_none, own_new]
    show wpAny M A (if (!("object.__new__" : String).endsWith ".__new__") = true then _ else _) _ _ _
    rw [ends_new]
    exact wpAny_pure h

theorem ph_install {Q : Unit → Shared → Prop} (x : Ph h0 s.heap C N (clsO cd sl) m al n) (hn : n < 100) (ho : m "obj" = none) (hsub : cd.subclasses = [])
    (h : ∀ h' md tk v0, Ph h0 h' C N (clsO { cd with hasDict := false, slotNames := ["obj"] } sl) (fun y => if y = "obj" then some (.ref md) else m y) (md :: al) (n + 1) → h0.get? md = none → md ≠ C → md ≠ N →
      h'.get? md = some ⟨.type "member_descriptor", none, .fields #[.str "obj" v0, .ref C, .builtin "proto.slot", .builtin "proto.slot#set", rawInt 0], #[]⟩ → Q () { s with heap := h', toks := tk }) :
    wpAny M A (Builtin.Slots.install (.ref C) N [.type "object"] ⟨["obj"], false, false, []⟩) Q E s := by
  unfold Builtin.Slots.install
  obtain ⟨hp, g, d, t, os⟩ := s
  change Ph h0 hp C N (clsO cd sl) m al n at x
  wp_step
  refine lp_cons ?_
  iterate 2 wp_step
  refine ph_get x ?_
  rw [ho]
  iterate 5 wp_step
  unfold newFields
  refine wpAny_newObj_type ?_ (by size_fits)
  wp_step
  have fM : h0.get? hp.objs.size = none := by
    cases q : h0.get? hp.objs.size with
    | none => rfl
    | some o => exact absurd (Heap.lt_size (x.kp _ _ q)) (Nat.lt_irrefl _)
  have neC : hp.objs.size ≠ C := fun q => absurd (Heap.lt_size x.gC) (q ▸ Nat.lt_irrefl _)
  have neN : hp.objs.size ≠ N := fun q => absurd x.dn.ns.lt (q ▸ Nat.lt_irrefl _)
  have gM : (hp.push ⟨.type "member_descriptor", none, .fields #[.str "obj" t, .ref C, .builtin "proto.slot", .builtin "proto.slot#set", rawInt 0], #[]⟩).get? hp.objs.size = some ⟨.type "member_descriptor", none, .fields #[.str "obj" t, .ref C, .builtin "proto.slot", .builtin "proto.slot#set", rawInt 0], #[]⟩ := Heap.get?_push_size _ rfl
  have x2 := (x.push ⟨.type "member_descriptor", none, .fields #[.str "obj" t, .ref C, .builtin "proto.slot", .builtin "proto.slot#set", rawInt 0], #[]⟩).more gM rfl (by decide) neC neN
  refine ph_setV (n := n) (al := hp.objs.size :: al) (C := C) (h0 := h0) (m := m) (co := clsO cd sl) x2 (.inr (.inr (.inr ⟨_, .head _, rfl⟩))) (Nat.le_trans (Nat.le_of_lt hn) (by size_fits)) fun h2 x3 s3 => ?_
  have gM2 := (s3.2 _ neN).trans gM
  have ho' : (fun y => if y = "obj" then some (Value.ref hp.objs.size) else m y) "__x" = m "__x" := rfl
  clear gM x2 s3 ho'
  iterate 3 wp_step
  refine lp_nil ?_
  iterate 2 wp_step
  refine lp_cons ?_
  iterate 1 wp_step
  refine wpAny_of_eq gd0 ?_
  iterate 2 wp_step
  refine lp_nil ?_
  iterate 2 wp_step
  refine ph_cls x3 (fun h3 x4 s4 => ?_) ?_
  · exact h h3 hp.objs.size _ t x4 fM neC neN ((s4.2 _ neC).trans gM2)
  · show (if (cd.subclasses.length > sizeLine || (["obj"] : List Str).length > sizeLine) = true then some "class:memory" else none) = none
    rw [hsub]; rfl
end
end Mine
end Cd4
section Cd5
open PySem PySem.W PyProof.Rows PySem.Calls PySem.Spec Mine
set_option Elab.async false
set_option pp.deepTerms false
set_option pp.maxSteps 300
set_option maxRecDepth 100000
namespace Mine
theorem resetCd5 : True := by
  w_top off
  trivial
section
variable {prog : Program} {w : World} {M : Model} {A : Around} {E : Value → Shared → Prop} {h : Heap} {g : Array GenState} {d : Drawn} {t : Nat} {os : OsState} {C : Addr} {cd : ClassData} {sl : Array (Option Value)} {c : Value} {dd : Option Addr}
theorem cls_sub {base : Value} {Q : Bool → Shared → Prop} (hC : h.get? C = some ⟨c, dd, .cls cd, sl⟩) (hm : cd.mro = [.ref C, .type "object"]) (hq : Q ([Value.ref C, .type "object"].contains base) ⟨h, g, d, t, os⟩) :
    wpAny M A (isSubtype (.ref C) base) Q E ⟨h, g, d, t, os⟩ := by
  unfold isSubtype
  refine wpAny_bind (wpAny_bind (cls_data hC (wpAny_pure ?_)))
  rw [hm]
  exact wpAny_pure hq
theorem sup_call {Q : Value → Shared → Prop} (hC : h.get? C = some ⟨c, dd, .cls cd, sl⟩) (hm : cd.mro = [.ref C, .type "object"])
    (hq : ∀ h', h'.get? h.objs.size = some ⟨.type "super", none, .fields #[.ref C, .ref C, .ref C], #[]⟩ → Kp h h' → Q (.ref h.objs.size) ⟨h', g, d, t, os⟩) :
    wpAny (model prog w) A (call (.type "super") [.ref C, .ref C]) Q E ⟨h, g, d, t, os⟩ := by
  refine ks_callType_codesW (Q₁ := fun obj s₁ => obj = .ref h.objs.size ∧ s₁ = ⟨h.push { cls := .type "super", data := .fields #[.none, .none, .none] }, g, d, t, os⟩) F.ks_called_super (ks_wpAny_checkTypeCall_super hC rfl) F.ks_entry_super_init
    (ks_code_super_new _ _ ⟨rfl, rfl⟩) fun obj s₁ h₁ => ?_
  obtain ⟨rfl, rfl⟩ := h₁
  have up : Kp h (h.push { cls := .type "super", data := .fields #[.none, .none, .none] }) := fun y o e => Heap.get?_push_of_some _ e
  have hso : (h.push { cls := .type "super", data := .fields #[.none, .none, .none] }).get? h.objs.size = some ⟨.type "super", none, .fields #[.none, .none, .none], #[]⟩ := Heap.get?_push_at rfl rfl
  have hC' := up _ _ hC
  refine ⟨⟨_, hso, rfl⟩, F.ks_initArgs_super _ _ _, ?_⟩
  unfold Builtin.«super.__init__» noKeywords
  have hct : [Value.ref C, .type "object"].contains (.ref C) = true := by simp
  repeat (first | (with_reducible refine ks_wpAny_isType_cls hC' rfl ?_) | (with_reducible refine cls_sub hC' hm ?_; rw [hct]) | (with_reducible refine ks_wpAny_super_set3 hso ?_) | wp_step)
  all_goals first
    | (intro h' e k; exact ⟨rfl, hq h' e fun y o ey => k y o (Nat.ne_of_lt (Heap.lt_size ey)) (up y o ey)⟩)
    | (refine ks_wpAny_super_set3 hso ?_; intro h' e k; exact ⟨rfl, hq h' e fun y o ey => k y o (Nat.ne_of_lt (Heap.lt_size ey)) (up y o ey)⟩)

theorem sig_is : Manifest.signature? "object.__init_subclass__" = some ⟨.noArgs, "object.__init_subclass__", "__init_subclass__", .cls, []⟩ := by kernel_rfl
theorem kind_is : builtinKind "object.__init_subclass__" = some .classMethod := by kernel_rfl
theorem st_type_module : isSubtype (.type "type") (.type "module") = pure false := by rw [isSubtype_type]; kernel_rfl
theorem va_is : Manifest.varargsMethods.contains "object.__init_subclass__" = false := by decide +kernel
noncomputable def qualK : Str := "cmp_to_key.<locals>.K"
theorem bc_is {Q : Unit → Shared → Prop} (hC : h.get? C = some ⟨.type "type", dd, .cls cd, sl⟩) (hqn : cd.qualname = qualK) (hq : Q () ⟨h, g, d, t, os⟩) : wpAny M A (checkBoundCall "object.__init_subclass__" ⟨[.ref C], []⟩) Q E ⟨h, g, d, t, os⟩ := by
  unfold checkBoundCall
  rw [sig_is, kind_is, va_is]
  have i1 := st_type_module
  repeat (first | (refine wpAny_of_eq (a := ()) (t := Bind.checkArgs _ _ _) (by kernel_rfl) hq) | (with_reducible refine ks_wpAny_isType_cls hC rfl ?_) | (with_reducible refine cls_data hC ?_; rw [hqn]) | wp_step)
theorem entry_is : entryFor table "object.__init_subclass__" = some Builtin.«object.__init_subclass__» := entryFor_of_tree (by kernel_rfl)
theorem plain_is : plainId "object.__init_subclass__" = true := by decide +kernel
theorem entry_cdget : entryFor table "classmethod_descriptor.__get__" = some Builtin.«classmethod_descriptor.__get__» := entryFor_of_tree (by kernel_rfl)
theorem slot_cdget : Slot "classmethod_descriptor" "__get__" "classmethod_descriptor.__get__" := .of (owner := "classmethod_descriptor") (n := "__get__") (by rw [typeLookup_type, builtinLookup_eq_fast]; kernel_rfl) (by decide +kernel) (by decide +kernel) (by decide +kernel)
  (by first | exact .inl (by decide +kernel) | exact .inr (by decide +kernel)) (by rw [isSubtype_type]; kernel_rfl)
theorem args_cdget (a b c : Value) : argsOk "classmethod_descriptor.__get__" ⟨[a, b, c], []⟩ := by unfold argsOk; kernel_rfl
theorem ty_is : typeOf (.builtin "object.__init_subclass__") = pure (.type "classmethod_descriptor") := by kernel_rfl
theorem own_is : builtinOwn "object" "__init_subclass__" = some (.builtin "object.__init_subclass__") := by kernel_rfl
theorem is_call {b : Addr} {Q : Value → Shared → Prop} (hb : h.get? b = some ⟨.type "builtin_function_or_method", none, .fields #[.builtin "object.__init_subclass__", .ref C], #[]⟩) (hC : h.get? C = some ⟨.type "type", dd, .cls cd, sl⟩) (hqn : cd.qualname = qualK) (hq : Q .none ⟨h, g, d, t, os⟩) :
    wpAny (model prog w) A (call (.ref b) []) Q E ⟨h, g, d, t, os⟩ := by
  refine wpAny_call (codeAny_of_tree ?_)
  show wpAny _ A.in1 (callAny (.ref b) ⟨[], []⟩) _ _ _
  unfold callAny
  refine wpAny_bind (wpAny_load hb ?_)
  show wpAny _ _ (do checkBoundCall "object.__init_subclass__" ⟨[.ref C], []⟩; return ← again (.builtin "object.__init_subclass__" ⟨[.ref C], []⟩)) _ _ _
  refine wpAny_bind (bc_is hC hqn (wpAny_pure ⟨plainId_quiet plain_is _, codeAny_builtin entry_is ?_⟩))
  exact wpAny_pure hq
theorem cdget_call {Q : Value → Shared → Prop} (hC : h.get? C = some ⟨c, dd, .cls cd, sl⟩) (hm : cd.mro = [.ref C, .type "object"])
    (hq : Q (.ref h.objs.size) ⟨h.push ⟨.type "builtin_function_or_method", none, .fields #[.builtin "object.__init_subclass__", .ref C], #[]⟩, g, d, t, os⟩) :
    wpAny (model prog w) A (call (.builtin "classmethod_descriptor.__get__") [.builtin "object.__init_subclass__", .none, .ref C]) Q E ⟨h, g, d, t, os⟩ := by
  refine wpAny_call_entry slot_cdget ty_is entry_cdget ?_ (args_cdget _ _ _)
  unfold Builtin.«classmethod_descriptor.__get__»
  refine wpAny_bind (wpAny_of_eq (a := (.builtin "object.__init_subclass__", none, some (.ref C))) (by kernel_rfl) ?_)
  have hct : [Value.ref C, .type "object"].contains (.type "object") = true := by simp
  iterate 3 wp_step
  refine ks_wpAny_isType_cls hC rfl ?_
  iterate 2 wp_step
  refine cls_sub (base := .type "object") hC hm ?_
  rw [hct]
  iterate 2 wp_step
  unfold newFields
  refine wpAny_newObj_type ?_ (by size_fits)
  refine wpAny_pure ⟨_, rfl, hq⟩
end
end Mine
end Cd5
section Cd6
open PySem PySem.W PyProof.Rows PySem.Calls PySem.Spec Mine
set_option Elab.async false
set_option pp.deepTerms false
set_option pp.maxSteps 300
set_option maxRecDepth 100000
namespace Mine
theorem resetCd6 : True := by
  w_top off
  trivial
section
variable {prog : Program} {w : World} {M : Model} {A : Around} {E : Value → Shared → Prop} {h : Heap} {g : Array GenState} {d : Drawn} {t : Nat} {os : OsState} {C so : Addr} {cd : ClassData} {sl : Array (Option Value)} {c : Value} {dd : Option Addr} {mc : Str → Option Value}
theorem no_opaque {what how : String} {Q : Unit → Shared → Prop} (hs : h.Ns cStatics mc) (hn : mc "thirdparty.any" = none) (hq : Q () ⟨h, g, d, t, os⟩) : wpAny M A (notOfAnOpaqueClass what how (.ref C)) Q E ⟨h, g, d, t, os⟩ := by
  unfold notOfAnOpaqueClass opaqueClassAbove anyOpaqueLoaded
  refine wpAny_bind (wpAny_bind (wpAny_bind (wpAny_nsGet hs ?_)))
  rw [hn]
  exact wpAny_pure (wpAny_pure (wpAny_pure hq))
theorem sup_ga {tk : Tok} {Q : Fin → Shared → Prop} (hso : h.get? so = some ⟨.type "super", none, .fields #[.ref C, .ref C, .ref C], #[]⟩) (hs : h.Ns cStatics mc) (hn : mc "thirdparty.any" = none)
    (hC : h.get? C = some ⟨c, dd, .cls cd, sl⟩) (hm : cd.mro = [.ref C, .type "object"])
    (hq : Q (.done (.ret (.ref h.objs.size))) ⟨h.push ⟨.type "builtin_function_or_method", none, .fields #[.builtin "object.__init_subclass__", .ref C], #[]⟩, g, d, t, os⟩) :
    wpAny (model prog w) A (Builtin.«super.__getattribute__» ⟨[.ref so, .str "__init_subclass__" tk], []⟩) Q E ⟨h, g, d, t, os⟩ := by
  have hdt : (⟨.type "super", none, .fields #[.ref C, .ref C, .ref C], #[]⟩ : Obj).data = .fields #[.ref C, .ref C, .ref C] := rfl
  have f0 : (#[.ref C, .ref C, .ref C] : Array Value)[0]? = some (.ref C) := rfl
  have f1 : (#[.ref C, .ref C, .ref C] : Array Value)[1]? = some (.ref C) := rfl
  have f2 : (#[.ref C, .ref C, .ref C] : Array Value)[2]? = some (.ref C) := rfl
  have hdw : (([Value.ref C, .type "object"].dropWhile (· != Value.ref C)).drop 1) = [.type "object"] := by simp
  have hlk := slot_cdget.lookup
  have hty := ty_is
  unfold Builtin.«super.__getattribute__»
  iterate 3 wp_step
  iterate 14 (first
    | (with_reducible refine wpAny_field hso hdt f0 ?_) | (with_reducible refine wpAny_field hso hdt f1 ?_) | (with_reducible refine wpAny_field hso hdt f2 ?_)
    | (with_reducible refine no_opaque hs hn ?_) | wp_step)
  refine wpAny_bind (wpAny_bind (cls_data hC (wpAny_pure ?_)))
  rw [hm, hdw]
  wp_step
  refine lp_cons ?_
  refine wpAny_bind (wpAny_pure ?_)
  rw [own_is]
  iterate 5 wp_step
  refine wpAny_holding ?_
  rw [show (if (Value.ref C == Value.ref C) = true then Value.none else Value.ref C) = Value.none by simp]
  refine cdget_call hC hm ?_
  iterate 4 wp_step
  exact wpAny_pure hq
theorem sup_attr {Q : Value → Shared → Prop} (hso : h.get? so = some ⟨.type "super", none, .fields #[.ref C, .ref C, .ref C], #[]⟩) (hs : h.Ns cStatics mc) (hn : mc "thirdparty.any" = none)
    (hC : h.get? C = some ⟨c, dd, .cls cd, sl⟩) (hm : cd.mro = [.ref C, .type "object"])
    (hq : Q (.ref h.objs.size) ⟨h.push ⟨.type "builtin_function_or_method", none, .fields #[.builtin "object.__init_subclass__", .ref C], #[]⟩, g, d, t + 1, os⟩) :
    wpAny (model prog w) A (getAttr (.ref so) "__init_subclass__") Q E ⟨h, g, d, t, os⟩ := by
  have hlk := F.ks_slot_super_ga.lookup
  have hT : ∀ t', (⟨h, g, d, t', os⟩ : Shared).TypeIs (.ref so) "super" := fun _ => ⟨_, hso, rfl⟩
  unfold getAttr getAttrBy
  refine wpAny_bind (wpAny_mkText (wpAny_holding (wpAny_bind (wpAny_typeOf (hT _) (wpAny_bind (wpAny_of_eq hlk ?_))))))
  show wpAny _ _ (getAttrByItsOwn (.ref so) (.str "__init_subclass__" t) (.type "super") (.builtin "super.__getattribute__") true false) _ _ _
  unfold getAttrByItsOwn hookBefore callGetattribute boundAndCalled
  refine wpAny_bind (wpAny_of_eq (show (if onTheHeap (.type "super") then typeLookup (.type "super") "__getattr__" else pure none) = pure none from rfl) ?_)
  refine wpAny_bind (wpAny_attempt (wpAny_holding ?_))
  show wpAny _ _ (bindSpecial (.builtin "super.__getattribute__") (.ref so) >>= _) _ _ _
  refine wpAny_bind (wpAny_of_eq (F.ks_slot_super_ga.bind _) ?_)
  refine wpAny_mono (Q := fun v s' => v = .ref h.objs.size ∧ s' = ⟨h.push ⟨.type "builtin_function_or_method", none, .fields #[.builtin "object.__init_subclass__", .ref C], #[]⟩, g, d, t + 1, os⟩) (E := fun _ _ => False)
    (wpAny_call_entry F.ks_slot_super_ga (hT _) F.ks_entry_super_ga (sup_ga hso hs hn hC hm ⟨_, rfl, rfl, rfl⟩) (F.ks_gaArgs_super _ _)) (fun v s' hv => ?_) fun _ _ z => z.elim
  obtain ⟨rfl, rfl⟩ := hv
  exact wpAny_pure hq
end
end Mine
end Cd6
section Tn
open PySem PySem.W PyProof.Rows PySem.Calls PySem.Spec Mine
set_option Elab.async false
set_option pp.deepTerms false
set_option pp.maxSteps 300
set_option maxRecDepth 100000
set_option maxHeartbeats 400000
namespace Mine
theorem resetTn : True := by
  w_top off
  trivial
noncomputable def keysK : List Str := ["__module__", "__qualname__", "__firstlineno__", "__slots__", "__init__", "__lt__", "__gt__", "__eq__", "__le__", "__ge__", "__hash__", "__static_attributes__"]
structure MF (m : Str → Option Value) (l f1 f2 : Addr) : Prop where
  keys : ∀ y, y ∉ keysK → m y = none
  slots : m "__slots__" = some (.ref l)
  eq : (m "__eq__").isSome = true
  hash : (m "__hash__").isSome = true
  init : m "__init__" = some (.ref f1)
  lt : m "__lt__" = some (.ref f2)
theorem MF.no {m : Str → Option Value} {l f1 f2 : Addr} (x : MF m l f1 f2) (y : Str) (h : y ∉ keysK := by decide) : m y = none := x.keys y h
theorem MF.dropQ {m : Str → Option Value} {l f1 f2 : Addr} {u : Option Value} (x : MF m l f1 f2) : MF (fun y => if y = "__qualname__" then u else m y) l f1 f2 := by
  obtain ⟨a0, a1, a2, a3, a4, a5⟩ := x
  refine ⟨fun y hy => ?_, ?_, ?_, ?_, ?_, ?_⟩
  · show (if y = "__qualname__" then u else m y) = none
    rw [if_neg (fun q : y = "__qualname__" => hy (by rw [q]; decide))]; exact a0 y hy
  all_goals (rw [if_neg (by decide)]; assumption)
structure MD (m : Str → Option Value) (l f1 f2 md : Addr) : Prop where
  keys : ∀ y : Str, y ∉ ("obj" : Str) :: ("__doc__" : Str) :: keysK → m y = none
  obj : m "obj" = some (.ref md)
  init : m "__init__" = some (.ref f1)
  lt : m "__lt__" = some (.ref f2)
  eq : (m "__eq__").isSome = true
  hash : (m "__hash__").isSome = true
theorem MF.done {m : Str → Option Value} {l f1 f2 md : Addr} (x : MF m l f1 f2) : MD (fun y => if y = "__doc__" then some .none else if y = "obj" then some (.ref md) else m y) l f1 f2 md := by
  refine ⟨fun y hy => ?_, ?_, ?_, ?_, ?_, ?_⟩
  · show (if y = "__doc__" then some .none else if y = "obj" then some (.ref md) else m y) = none
    rw [if_neg (fun q : y = "__doc__" => hy (by rw [q]; exact .tail _ (.head _))), if_neg (fun q : y = "obj" => hy (by rw [q]; exact .head _))]
    exact x.keys y fun q => hy (.tail _ (.tail _ q))
  · rw [if_neg (by decide), if_pos rfl]
  · rw [if_neg (by decide), if_neg (by decide)]; exact x.init
  · rw [if_neg (by decide), if_neg (by decide)]; exact x.lt
  · rw [if_neg (by decide), if_neg (by decide)]; exact x.eq
  · rw [if_neg (by decide), if_neg (by decide)]; exact x.hash
theorem Ph.kpTo {h0 h h' : Heap} {C N : Addr} {co : Obj} {m : Str → Option Value} {al : List Addr} {n : Nat} (x : Ph h0 h C N co m al n) (k : Kp h h') : Ph h0 h' C N co m al n :=
  ⟨x.kp.trans k, x.fC, x.fN, x.ne, k _ _ x.gC, x.dn.keep fun _ e => k _ _ e, x.cm.keep fun _ _ _ e => k _ _ e, x.cC, x.cN⟩
theorem tn1 {prog : Program} {w : World} {A : Around} {E : Value → Shared → Prop} {Q : Fin → Shared → Prop} {h : Heap} {g : Array GenState} {d : Drawn} {t : Nat} {os : OsState}
  {nsA bT l f1 f2 : Addr} {m : Str → Option Value} {al : List Addr} {n : Nat} {tn tq u : Nat} {kn q : Str} {mc : Str → Option Value}
  (hkn : kn = "K") (hqn : q = qualK) (D : DNs h nsA m (QV al) n) (hc : Calm h al) (hn : n < 100) (hsm : nsA ≠ sysModules)
  (hb : h.get? bT = some ⟨.type "tuple", none, .seq #[.type "object"] 0, #[]⟩)
  (m1 : (m "__module__").isSome = true) (m2 : m "__qualname__" = some (.str q tq)) (mf : MF m l f1 f2)
  (hl : h.IsList l #[.str "obj" u]) (hst : h.Ns cStatics mc) (hany : mc "thirdparty.any" = none)
  (hQ : ∀ h' tk C N md m' n' sl', Ph h h' C N (clsO { name := "K", bases := [.type "object"], mro := [.ref C, .type "object"], ns := N, qualname := qualK, hasDict := false, slotNames := ["obj"] } sl') m' (md :: al) n' → sl'[4]? = some (some (.builtin "object.__new__")) → MD m' l f1 f2 md →
    h.get? md = none → md ≠ C → md ≠ N → (∃ v0, h'.get? md = some ⟨.type "member_descriptor", none, .fields #[.str "obj" v0, .ref C, .builtin "proto.slot", .builtin "proto.slot#set", rawInt 0], #[]⟩) → Q (.done (.ret (.ref C))) ⟨h', g, d, tk, os⟩)
  : wpAny (model prog w) A (Builtin.«type.__new__» ⟨[.type "type", .str kn tn, .ref bT, .ref nsA], []⟩) Q E ⟨h,g,d,t,os⟩ := by
  have D' := D
  obtain ⟨es, ep, hobj, hk, hm, hp, hz⟩ := D
  have i1 := st_tuple; have i2 := st_dict; have i3 := st_type; have i4 := ty_object; have i5 := turned0; have i6 := ext0; have i7 := lk_dict_iter
  unfold Builtin.«type.__new__»
  iterate 28 wp_step
  refine lp_cons ?_
  iterate 6 (first | with_reducible refine lp_nil ?_ | with_reducible refine lp_cons ?_ | wp_step)
  iterate 2 wp_step
  refine lp_cons ?_
  iterate 9 (first | with_reducible refine lp_nil ?_ | with_reducible refine lp_cons ?_ | wp_step)
  refine wpAny_bind (wpAny_of_eq turned0 ?_)
  wp_step
  refine wpAny_bind (wpAny_of_eq ext0 ?_)
  wp_step
  wp_step
  refine wpAny_dictEntries hobj rfl ?_
  iterate 13 wp_step
  refine slots_read hkn hm mf.slots (mf.no "obj") hl fun h1 k1 => ?_
  wp_step
  have hz' : es.size ≤ sizeLine + 1 := Nat.le_trans hz (Nat.le_trans (Nat.le_of_lt hn) (by size_fits))
  refine wpAny_newObj_type ?_ hz'
  have fN : h.get? h1.objs.size = none := by
    cases q : h.get? h1.objs.size with
    | none => rfl
    | some o => exact absurd (Heap.lt_size (k1 _ _ q)) (Nat.lt_irrefl _)
  have DN : DNs (h1.push ⟨.type "dict", none, .dict es 0, #[]⟩) h1.objs.size m (QV al) n := ⟨es, 0, Heap.get?_push_size _ rfl, hk, hm, hp, hz⟩
  have k2 : Kp h (h1.push ⟨.type "dict", none, .dict es 0, #[]⟩) := fun b o e => Heap.get?_push_of_some _ (k1 b o e)
  have lN : h1.objs.size < (h1.push ⟨.type "dict", none, .dict es 0, #[]⟩).objs.size := DN.ns.lt
  have cN : h1.objs.size ∉ al := fun q => by obtain ⟨o, _, e, _⟩ := hc _ q; rw [fN] at e; cases e
  revert fN DN k2 cN lN
  generalize (h1.push ⟨.type "dict", none, .dict es 0, #[]⟩) = h2
  generalize h1.objs.size = N
  intro fN DN k2 lN cN
  wp_step
  (with_reducible apply wpAny_ite_false)
  · show decide ((!(es.any fun x => x.key.isStr "__module__")) = true) = false
    rw [nsFind_any hm, m1]; rfl
  subst hkn
  iterate 2 wp_step
  (with_reducible apply wpAny_ite_false)
  · kernel_rfl
  iterate 2 wp_step
  (with_reducible apply wpAny_ite_false)
  · kernel_rfl
  wp_step
  refine dns_get DN ?_
  rw [m2]
  wp_step
  refine dns_get DN ?_
  rw [m2]
  iterate 6 wp_step
  refine dns_get DN ?_
  rw [(mf.no "__doc__")]
  iterate 2 wp_step
  have ph : Ph h (h2.push ⟨.type "type", none, .cls { name := "K", bases := [.type "object"], mro := [], ns := N, qualname := q }, #[]⟩) h2.objs.size N ⟨.type "type", none, .cls { name := "K", bases := [.type "object"], mro := [], ns := N, qualname := q }, #[]⟩ m al n := by
    have fC : h.get? h2.objs.size = none := by
      cases q : h.get? h2.objs.size with
      | none => rfl
      | some o => exact absurd (Heap.lt_size (k2 _ _ q)) (Nat.lt_irrefl _)
    refine ⟨fun b o e => Heap.get?_push_of_some _ (k2 b o e), fC, fN, Nat.ne_of_gt lN, Heap.get?_push_size _ rfl, DN.push _, hc.keep fun a _ o e => Heap.get?_push_of_some _ (k2 a o e), fun q => ?_, cN⟩
    obtain ⟨o, _, e, _⟩ := hc _ q; rw [fC] at e; cases e
  revert ph
  show Ph _ _ _ _ _ _ _ _ → wpAny _ _ _ _ _ ⟨h2.push ⟨.type "type", none, .cls { name := "K", bases := [.type "object"], mro := [], ns := N, qualname := q }, #[]⟩, g, d, t, os⟩
  generalize (h2.push ⟨.type "type", none, .cls { name := "K", bases := [.type "object"], mro := [], ns := N, qualname := q }, #[]⟩) = h3
  generalize h2.objs.size = C
  intro ph
  iterate 2 wp_step
  refine ph_slotSet (co' := clsO _ #[some (.ref bT)]) ph fun h4 ph _ => ?_
  wp_step
  refine ph_slotSet (co' := clsO _ #[some (.ref bT), none, some (.str "K" tn)]) ph fun h5 ph _ => ?_
  iterate 2 wp_step
  refine ph_slotSet (co' := clsO _ #[some (.ref bT), none, some (.str "K" tn), some (.str q tq)]) ph fun h6 ph _ => ?_
  wp_step
  refine ph_del ph fun h7 u' ph _ => ?_
  have hdel : (es.any fun x => x.key.isStr "__del__") = false := by rw [nsFind_any hm, (mf.no "__del__")]; rfl
  clear D' DN hm hp hobj
  have mf := mf.dropQ (u := u')
  revert ph mf
  generalize (fun y => if y = Str.ofString "__qualname__" then u' else m y) = m'
  intro ph mf
  show wpAny _ _ _ _ _ ⟨h7, g, d, t, os⟩
  wp_step
  refine ph_get ph ?_
  rw [(mf.no "__new__")]
  iterate 2 wp_step
  refine lp_cons ?_
  wp_step
  refine ph_get ph ?_
  rw [(mf.no "__init_subclass__")]
  iterate 2 wp_step
  refine lp_cons ?_
  wp_step
  refine ph_get ph ?_
  rw [(mf.no "__class_getitem__")]
  iterate 2 wp_step
  refine lp_nil ?_
  wp_step
  refine ph_get ph ?_
  rw [(mf.no "__classcell__")]
  iterate 2 wp_step
  refine ph_get ph ?_
  rw [(mf.no "__classdictcell__")]
  iterate 2 wp_step
  refine wpAny_of_eq mh0 ?_
  iterate 1 wp_step
  refine wpAny_of_eq lin0 ?_
  iterate 3 wp_step
  have hfil : List.filter (fun x => x != Value.ref C) [.ref C, .type "object"] = [.type "object"] := by simp
  rw [hfil]
  refine wpAny_of_eq (a := false) (by kernel_rfl) ?_
  wp_step
  refine ph_cls ph (fun h8 ph _ => ?_) rfl
  replace ph : Ph h h8 C N (clsO { name := "K", bases := [.type "object"], mro := [.ref C, .type "object"], ns := N, qualname := q, hasDel := (es.any fun x => x.key.isStr "__del__") || false } #[some (.ref bT), none, some (.str "K" tn), some (.str q tq)]) m' al n := ph
  rw [hdel] at ph
  wp_step
  refine wpAny_of_eq mb0 ?_
  wp_step
  refine ph_slotSet (co' := clsO _ #[some (.ref bT), none, some (.str "K" tn), some (.str q tq), some (.builtin "object.__new__")]) ph fun h9 ph _ => ?_
  wp_step
  refine ph_refresh ph rfl rfl (mf.no "__new__") ?_
  wp_step
  refine ph_install ph hn (mf.no "obj") rfl fun h10 md tk v0 ph fM neC neN gM => ?_
  show wpAny _ _ _ _ _ ⟨h10, g, d, tk, os⟩
  wp_step
  refine wpAny_of_eq gw0 ?_
  wp_step
  refine ph_slotSet (co' := clsO _ #[some (.ref bT), none, some (.str "K" tn), some (.str q tq), some (.builtin "object.__new__"), some (.bool false)]) ph fun h11 ph s11 => ?_
  replace gM := (s11.2 _ neC).trans gM
  show wpAny _ _ _ _ _ ⟨h11, g, d, tk, os⟩
  iterate 3 wp_step
  refine ph_get ph ?_
  rw [show (if Str.ofString "__doc__" = Str.ofString "obj" then some (Value.ref md) else m' (Str.ofString "__doc__")) = none from (if_neg (by decide)).trans (mf.no "__doc__")]
  iterate 2 wp_step
  refine ph_set ph (.inl rfl) fun h12 ph s12 => ?_
  replace gM := (s12.2 _ neN).trans gM
  have mf := mf.done (md := md)
  revert ph mf
  show Ph h h12 C N _ (fun y => if y = Str.ofString "__doc__" then some Value.none else if y = Str.ofString "obj" then some (Value.ref md) else m' y) _ _ → _ → wpAny _ _ _ _ _ ⟨h12, g, d, tk + 1, os⟩
  generalize (fun y => if y = Str.ofString "__doc__" then some Value.none else if y = Str.ofString "obj" then some (Value.ref md) else m' y) = m2
  intro ph mf
  have e1 := mf.eq
  have e2 : (m2 "__hash__").isNone = false := by have := mf.hash; cases hq : m2 "__hash__" with | none => rw [hq] at this; cases this | some v => rfl
  wp_step
  refine ph_get ph ?_
  wp_step
  wp_step
  refine ph_get ph ?_
  wp_step
  wp_step
  refine lp_cons ?_
  iterate 2 wp_step
  refine wpAny_of_eq (nsb0 C) ?_
  iterate 2 wp_step
  refine lp_nil ?_
  subst hqn
  have hst' := hst.keeps ph.kp
  wp_step
  refine wpAny_tryCatch (wpAny_holding ?_)
  obtain ⟨es2, ep2, ho2, hk2, hm2, hp2, hz2⟩ := ph.dn
  refine wpAny_bind (wpAny_dictEntries ho2 rfl ?_)
  refine wpAny_bind (lpA_idle ?_ fun e he Q' hq' => ?_)
  rotate_left
  · obtain ⟨nm, tt, hkey⟩ := hk2 e he
    rw [hkey]
    iterate 5 wp_step
    exact hq'
  wp_step
  wp_step
  refine wpAny_dictEntries ho2 rfl ?_
  refine wpAny_bind (lpA_idle ?_ fun e he Q' hq' => ?_)
  rotate_left
  · rw [calm_held (hp2 e he)]
    refine wpAny_bind (calm_setname (hp2 e he) ph.cm ?_)
    exact wpAny_pure hq'
  refine wpAny_bind (sup_call ph.gC rfl fun h13 hso k13 => ?_)
  refine wpAny_bind (wpAny_holding (sup_attr hso (hst'.keeps k13) hany (k13 _ _ ph.gC) rfl ?_))
  refine wpAny_bind (is_call (Heap.get?_push_size _ rfl) (Heap.get?_push_of_some _ (k13 _ _ ph.gC)) rfl ?_)
  exact wpAny_pure (wpAny_pure (hQ _ _ C N md _ _ _ ((ph.kpTo k13).push _) rfl mf fM neC neN ⟨v0, Heap.get?_push_of_some _ (k13 _ _ gM)⟩))
end Mine
end Tn
section Cd7
open PySem PySem.W PyProof.Rows PySem.Calls PySem.Spec Mine
set_option Elab.async false
set_option pp.deepTerms false
set_option pp.maxSteps 300
set_option maxRecDepth 100000
namespace Mine
theorem resetCd7 : True := by
  w_top off
  trivial
theorem cc_tn (a b c : Value) : checkBuiltinCall "type.__new__" ⟨[.type "type", a, b, c], []⟩ = pure () := by kernel_rfl
theorem ct_type (a b c : Value) : checkTypeCall "type" ⟨[a, b, c], []⟩ = pure () := by kernel_rfl
theorem mro_type : mroOf (.type "type") = pure [.type "type", .type "object"] := by rw [mroOf_type]; kernel_rfl
theorem mb_type : Bind.madeBy (.type "type") = pure (some "type.__new__") := by kernel_rfl
theorem entry_tn : entryFor table "type.__new__" = some Builtin.«type.__new__» := entryFor_of_tree (by kernel_rfl)
theorem plain_tn : plainId "type.__new__" = true := by decide +kernel
theorem entry_ti : entryFor table "type.__init__" = some Builtin.«type.__init__» := entryFor_of_tree (by kernel_rfl)
theorem slot_ti : Slot "type" "__init__" "type.__init__" := .of (owner := "type") (n := "__init__") (by rw [typeLookup_type, builtinLookup_eq_fast]; kernel_rfl) (by decide +kernel) (by decide +kernel) (by decide +kernel)
  (by first | exact .inl (by decide +kernel) | exact .inr (by decide +kernel)) (by rw [isSubtype_type]; kernel_rfl)
theorem args_ti (a b c d : Value) : argsOk "type.__init__" ⟨[a, b, c, d], []⟩ := by unfold argsOk; kernel_rfl
theorem cc_can : ((Manifest.find? "type").bind (·.mro.findSome? fun t => (Manifest.find? t).bind fun b => if b.noNew then some true else if b.attrs.any (·.1 == "__new__") then some false else none)).getD false = false := by decide +kernel
theorem type_call {prog : Program} {w : World} {A : Around} {E : Value → Shared → Prop} {Q Q₁ : Value → Shared → Prop} {s : Shared} {a b c : Value}
    (hnew : wpAny (model prog w) A.in1.in1 (Builtin.«type.__new__» ⟨[.type "type", a, b, c], []⟩) (fun fin s' => ∃ v, fin = .done (.ret v) ∧ Q₁ v s') E s)
    (hnext : ∀ v s₁, Q₁ v s₁ → s₁.TypeIs v "type" ∧ Q v s₁) :
    wpAny (model prog w) A (call (.type "type") [a, b, c]) Q E s := by
  refine wpAny_call (codeAny_of_tree ?_)
  show wpAny _ _ (callAny (.type "type") _) _ _ _
  refine wpAny_pure ⟨Code.quiet_builtin _ (by decide +kernel), codeAny_builtin F.entry_type_call ?_⟩
  rw [Around.under_plain (weight_type_call_type "type" [a, b, c] []) rfl]
  unfold Builtin.«type.__call__»
  have i1 := cc_can
  have i2 := ct_type a b c
  have i3 := mro_type
  have i4 := mb_type
  have i5 := st_type
  have i6 := slot_ti.lookup
  iterate 14 wp_step
  refine wpAny_holding (wpAny_call (codeAny_call_builtin plain_tn entry_tn (wpAny_of_eq (cc_tn a b c) (wpAny_mono hnew (fun fin s' hv => ?_) fun _ _ x => x))))
  obtain ⟨v, rfl, hv⟩ := hv
  obtain ⟨hT, hq⟩ := hnext _ _ hv
  refine wpAny_bind (wpAny_isInstance hT st_type ?_)
  wp_step
  refine wpAny_bind (wpAny_holding ?_)
  unfold callSpecial?
  refine wpAny_bind (wpAny_specialOf hT i6 ?_)
  refine wpAny_holding (wpAny_bind (wpAny_of_eq (slot_ti.bind v) ?_))
  refine wpAny_bind (wpAny_call_entry slot_ti hT entry_ti ?_ (args_ti _ _ _ _))
  exact wpAny_pure ⟨.none, rfl, wpAny_pure (wpAny_pure hq)⟩
end Mine
end Cd7
section Cd8
open PySem PySem.W PyProof.Rows PySem.Calls PySem.Spec Mine
set_option Elab.async false
set_option pp.deepTerms false
set_option pp.maxSteps 300
set_option maxRecDepth 100000
namespace Mine

structure Bd (h0 h : Heap) (P0 nsA cc P : Addr) (m : Str → Option Value) (al : List Addr) (n : Nat) (ps : Array Value) : Prop where
  ext : ∀ b o, b ≠ P0 → h0.get? b = some o → h.get? b = some o
  sz : h0.objs.size ≤ h.objs.size
  fns : h0.get? nsA = none
  fP : h0.get? P = none
  dn : DNs h nsA m (QV al) n
  cd : CodeHd h cc P
  tp : h.get? P = some (tabObj ps)
  tr : TriplesOk ps.toList
  cm : Calm h al

noncomputable def Kp2 (a P : Addr) (h h' : Heap) : Prop := ∀ b o, b ≠ a → b ≠ P → h.get? b = some o → h'.get? b = some o
theorem Kp2.trans {a P : Addr} {h h' h'' : Heap} (x : Kp2 a P h h') (y : Kp2 a P h' h'') : Kp2 a P h h'' := fun b o n1 n2 e => y b o n1 n2 (x b o n1 n2 e)

structure Glb (h : Heap) (mg : Str → Option Value) : Prop where
  g : h.Ns mainGlobals mg
  b : ∃ bm ob, mg "__builtins__" = some (.ref bm) ∧ bm ≠ builtinsNs ∧ h.get? bm = some ob ∧ ob.cls = .type "module" ∧ ob.dict = some builtinsNs ∧ ob.data = .plain

section
variable {h0 h h' : Heap} {P0 nsA cc P : Addr} {m mg : Str → Option Value} {al : List Addr} {n : Nat} {ps : Array Value}
theorem Bd.nP (x : Bd h0 h P0 nsA cc P m al n ps) : nsA ≠ P := fun q => by
  obtain ⟨es, ep, e, _⟩ := x.dn
  rw [q, x.tp] at e; cases e
theorem Bd.alP (x : Bd h0 h P0 nsA cc P m al n ps) : ∀ a ∈ al, a ≠ P := fun a ha q => by
  obtain ⟨o, T, e, hT, _⟩ := x.cm a ha
  rw [q, x.tp] at e; cases e; cases hT
theorem Bd.aln (x : Bd h0 h P0 nsA cc P m al n ps) : ∀ a ∈ al, a ≠ nsA := fun a ha q => by
  obtain ⟨o, T, e, hT, hm⟩ := x.cm a ha
  obtain ⟨es, ep, e', _⟩ := x.dn
  rw [q, e'] at e; cases e; cases hT; exact absurd hm (by decide)
theorem Bd.ccn (x : Bd h0 h P0 nsA cc P m al n ps) : cc ≠ nsA := fun q => by
  obtain ⟨o, vs, _, _, _, _, _, _, _, e, hc, _⟩ := x.cd
  obtain ⟨es, ep, e', _⟩ := x.dn
  rw [q, e'] at e; cases e; injection hc with hc; exact absurd hc (by decide)
theorem CodeHd.at2 {h h' : Heap} {c P : Addr} (x : CodeHd h c P) (k : ∀ o, h.get? c = some o → h'.get? c = some o) : CodeHd h' c P :=
  let ⟨o, vs, file, tf, flags, tg, inF, text, tt, e, r⟩ := x; ⟨o, vs, file, tf, flags, tg, inF, text, tt, k _ e, r⟩
theorem CodeHd.neP {h : Heap} {c P : Addr} {ps : Array Value} (x : CodeHd h c P) (tp : h.get? P = some (tabObj ps)) : c ≠ P := fun q => by
  obtain ⟨⟨o, vs, e1, e2, _⟩, _⟩ := x.tab tp
  rw [q, tp] at e1
  cases e1
  cases e2
/-- all but P kept, P grown -/
theorem Bd.grow (x : Bd h0 h P0 nsA cc P m al n ps) (hx : ∀ b o, b ≠ P → h.get? b = some o → h'.get? b = some o) (hz : h.objs.size ≤ h'.objs.size) {ps' : Array Value} (tp : h'.get? P = some (tabObj ps')) (tr : TriplesOk ps'.toList) : Bd h0 h' P0 nsA cc P m al n ps' :=
  ⟨fun b o hb e => hx b o (fun q => by rw [q, x.fP] at e; cases e) (x.ext b o hb e), Nat.le_trans x.sz hz, x.fns, x.fP, x.dn.keep fun o e => hx _ o x.nP e, CodeHd.at2 x.cd fun o e => hx _ o (CodeHd.neP x.cd x.tp) e, tp, tr, x.cm.keep fun a ha o e => hx a o (x.alP a ha) e⟩
theorem Bd.dnew (x : Bd h0 h P0 nsA cc P m al n ps) {m' : Str → Option Value} {n' : Nat} (hs : Heap.SameBut nsA h h') (D : DNs h' nsA m' (QV al) n') : Bd h0 h' P0 nsA cc P m' al n' ps :=
  ⟨fun b o hb e => (hs.2 b (fun q => by rw [q, x.fns] at e; cases e)).trans (x.ext b o hb e), Nat.le_trans x.sz (Nat.le_of_eq hs.1.symm), x.fns, x.fP, D, CodeHd.at2 x.cd fun o e => (hs.2 _ x.ccn).trans e, (hs.2 _ x.nP.symm).trans x.tp, x.tr, x.cm.keep fun a ha o e => (hs.2 a (x.aln a ha)).trans e⟩
theorem Bd.more (x : Bd h0 h P0 nsA cc P m al n ps) {a : Addr} {o : Obj} {T : String} (e : h.get? a = some o) (hT : o.cls = .type T) (hm : T ∈ calmTypes) : Bd h0 h P0 nsA cc P m (a :: al) n ps :=
  ⟨x.ext, x.sz, x.fns, x.fP, x.dn.mono fun v hv => by
      rcases hv with rfl | ⟨y, t, rfl⟩ | ⟨i, t, rfl⟩ | ⟨b, hb, rfl⟩
      · exact .inl rfl
      · exact .inr (.inl ⟨_, _, rfl⟩)
      · exact .inr (.inr (.inl ⟨_, _, rfl⟩))
      · exact .inr (.inr (.inr ⟨b, .tail _ hb, rfl⟩)),
    x.cd, x.tp, x.tr, fun b hb => by
      cases hb with
      | head => exact ⟨o, T, e, hT, hm⟩
      | tail _ hb => exact x.cm b hb⟩
theorem Bd.push (x : Bd h0 h P0 nsA cc P m al n ps) (o : Obj) : Bd h0 (h.push o) P0 nsA cc P m al n ps := x.grow (fun _ _ _ e => Heap.get?_push_of_some _ e) (by rw [Heap.size_push]; exact Nat.le_succ _) (Heap.get?_push_of_some _ x.tp) x.tr
theorem Bd.glb (x : Bd h0 h P0 nsA cc P m al n ps) (G : Glb h0 mg) (hP0 : h0.get? P0 = some (tabObj #[])) : Glb h mg := by
  obtain ⟨⟨o, es, ep, e, hd, r⟩, ⟨bm, ob, b1, b2, b3, b4, b5, b6⟩⟩ := G
  refine ⟨⟨o, es, ep, x.ext _ _ (fun q => ?_) e, hd, r⟩, bm, ob, b1, b2, x.ext _ _ (fun q => ?_) b3, b4, b5, b6⟩
  · rw [q, hP0] at e; cases e; cases hd
  · rw [q, hP0] at b3; cases b3; cases b4
theorem Glb.neP (G : Glb h mg) (tp : h.get? P = some (tabObj ps)) : mainGlobals ≠ P := fun q => by
  obtain ⟨o, es, ep, e, hd, _⟩ := G.g
  rw [q, tp] at e; cases e; cases hd
theorem Glb.at (G : Glb h mg) (tp : h.get? P = some (tabObj ps)) : h.BuiltinsAt mg P := by
  have G' := G
  obtain ⟨⟨o, es, ep, e, hd, _⟩, bm, ob, b1, b2, b3, b4, b5, b6⟩ := G
  refine ⟨bm, ob, b1, b2, fun q => ?_, fun q => ?_, b3, b4, b5, b6⟩
  · rw [q, e] at b3; cases b3; rw [hd] at b6; cases b6
  · rw [q, tp] at b3; cases b3; cases b4
end

section
variable {M : Model} {A : Around} {E : Value → Shared → Prop} {s : Shared} {h0 : Heap} {P0 nsA cc P : Addr} {m mg : Str → Option Value} {al : List Addr} {n : Nat} {ps : Array Value} {env : Env} {name : Str} {v : Value}
theorem bd_store {Q : Unit → Shared → Prop} (x : Bd h0 s.heap P0 nsA cc P m al n ps) (hl : env.locals = nsA) (hs : storeName env name v = localSet env name v) (hv : QV al v)
    (h : ∀ h', Bd h0 h' P0 nsA cc P (fun y => if y = name then some v else m y) al (n + 1) ps → Kp2 nsA P s.heap h' → Q () { s with heap := h', toks := s.toks + 1 }) : wpAny M A (storeName env name v) Q E s := by
  rw [hs]
  unfold localSet
  rw [hl]
  obtain ⟨o, ho, hc⟩ := x.dn.at
  refine wpAny_bind (wpAny_load ho ?_)
  rw [hc, if_pos (by decide)]
  exact dns_set x.dn hv fun h' D hs => h h' (x.dnew hs D) fun b o n1 n2 e => (hs.2 b n1).trans e
theorem bd_def {params : Arguments} {body : List Stmt} {scope : Scope} {pos : Pos} {clos : List (Str × Addr)} {Q : Flow → Shared → Prop} (x : Bd h0 s.heap P0 nsA cc P m al n ps) (G : Glb h0 mg) (hP0 : h0.get? P0 = some (tabObj #[]))
    (hl : env.locals = nsA) (hge0 : env.globals = mainGlobals) (hcode : env.code = .ref cc) (hcl : closureFor scope env = pure clos) (hnf : codeAmong pos ps.toList = none)
    (hd0 : params.defaults = []) (hk0 : params.kw_defaults = []) (ha : annTrees params none env = []) (hs : ∀ v, storeName env name v = localSet env name v)
    (h : ∀ h' f c' ctv doc tk, Bd h0 h' P0 nsA cc P (fun y => if y = name then some (.ref f) else m y) (f :: al) (n + 1) (ps ++ #[rawInt pos.line, rawInt pos.col, .ref c']) → Kp2 nsA P s.heap h' →
      h'.get? f = some (fnMade name (qualnameIn env name name) params body scope clos doc ((mg "__name__").getD .none) c' ctv) → h'.CodeRec (.ref c') (qualnameIn env name name) → h0.get? f = none → c' ≠ nsA → c' ≠ P → Q .next { s with heap := h', toks := tk }) :
    wpAny M A (exec (.FunctionDef name params body [] none [] scope none name pos) env) Q E s := by
  have G1 := x.glb G hP0
  refine nestDef_K hd0 hk0 ha (makeFunction_K (mg := mg) hcl hge0 G1.g hcode x.cd x.tp x.tr hnf (G1.neP x.tp) (G1.at x.tp) fun c' ctv doc h1 tk hx hge hlt hrec htb => ?_)
  have x1 : Bd h0 h1 P0 nsA cc P m al n (ps ++ #[rawInt pos.line, rawInt pos.col, .ref c']) := x.grow (fun b o hb e => hx b o hb e) (Nat.le_trans hge (Nat.le_of_lt hlt)) htb (by
    rw [show (ps ++ #[rawInt pos.line, rawInt pos.col, Value.ref c']).toList = ps.toList ++ [rawInt pos.line, rawInt pos.col, .ref c'] by simp]
    exact TriplesOk_snoc _ _ _ _ x.tr)
  have gf : (h1.push (fnMade name (qualnameIn env name name) params body scope clos doc ((mg "__name__").getD .none) c' ctv)).get? h1.objs.size = some (fnMade name (qualnameIn env name name) params body scope clos doc ((mg "__name__").getD .none) c' ctv) := Heap.get?_push_size _ rfl
  have x2 := (x1.push (fnMade name (qualnameIn env name name) params body scope clos doc ((mg "__name__").getD .none) c' ctv)).more gf rfl (by decide)
  have nn : h1.objs.size ≠ nsA := x2.aln _ (.head _)
  have ff : h0.get? h1.objs.size = none := Heap.get?_none_of_le x1.sz
  have hc' : c' ≠ nsA := fun q => by
    exact absurd (Nat.lt_of_lt_of_le x.dn.ns.lt (q ▸ hge)) (Nat.lt_irrefl _)
  refine bd_store (v := .ref h1.objs.size) x2 hl (hs _) (.inr (.inr (.inr ⟨_, .head _, rfl⟩))) fun h2 x3 k3 => ?_
  have hgf := k3 _ _ nn (x2.alP _ (.head _)) gf
  obtain ⟨c₂, oc, vs, tt, e2, hoc, hdc, hvc⟩ := hrec
  cases e2
  have hcP : c' ≠ P := fun q => absurd (Nat.lt_of_lt_of_le (Heap.lt_size x.tp) (q ▸ hge)) (Nat.lt_irrefl _)
  exact h h2 _ c' ctv doc _ x3 (fun b o n1 n2 e => k3 b o n1 n2 (Heap.get?_push_of_some _ (hx b o n2 e))) hgf ⟨c', oc, vs, tt, rfl, k3 _ _ hc' hcP (Heap.get?_push_of_some _ hoc), hdc, hvc⟩ ff hc' hcP
end
end Mine
end Cd8
section Cd9
open PySem PySem.W PyProof.Rows PySem.Calls PySem.Spec Mine
set_option Elab.async false
set_option pp.deepTerms false
set_option pp.maxSteps 300
set_option maxRecDepth 100000
namespace Mine
section
variable {M : Model} {A : Around} {E : Value → Shared → Prop} {s : Shared} {env : Env} {c P : Addr} {ps : Array Value} {pos : Pos} {firstLine : Nat} {name qual : Str} {scope : Scope} {Q : Value → Shared → Prop}
theorem class_code (hc : env.code = .ref c) (C : CodeHd s.heap c P) (hP : s.heap.get? P = some (tabObj ps)) (ht : TriplesOk ps.toList) (hnf : codeAmong pos ps.toList = none)
    (hQ : ∀ c' P' h' tk, Heap.ExtBut P s.heap h' → s.heap.objs.size ≤ c' → s.heap.objs.size ≤ P' → CodeHd h' c' P' → h'.get? P' = some (tabObj #[]) → h'.get? P = some (tabObj (ps ++ #[rawInt pos.line, rawInt pos.col, .ref c'])) → s.heap.objs.size ≤ h'.objs.size →
      Q (.ref c') { s with heap := h', toks := tk }) :
    wpAny M A (classCode env pos firstLine name qual scope) Q E s := by
  obtain ⟨o, vs, file, tf, flags, tg, inF, text, tt, op, ho, hd, h11, h2, h7, h9, h10, hop, hpd, htr, hne⟩ := C.code hP ht
  have eop : op = tabObj ps := Option.some.inj (hop.symm.trans hP)
  unfold classCode codeAt
  rw [hc, if_neg (show ¬ ((Value.ref c == Value.none) = true) from Bool.false_ne_true)]
  refine wpAny_bind (wpAny_fieldsOf ho hd ?_)
  rw [h11]
  refine wpAny_bind (wpAny_fieldsOf hop hpd ?_)
  rw [hnf, h2, h7, h9, h10]
  refine wpAny_bind (wpAny_newCodeX fun c' P' h' tk hk hc' hP' hcode' htab' hrec' => ?_)
  refine wpAny_bind (wpAny_updateFieldsOfTheText (hk _ _ hop) hpd ?_)
  have hcP : c' ≠ P := Nat.ne_of_gt (Nat.lt_of_lt_of_le (Heap.lt_size hop) hc')
  have hP'P : P' ≠ P := Nat.ne_of_gt (Nat.lt_of_lt_of_le (Heap.lt_size hop) hP')
  have gP := hk _ _ hP
  generalize hf : (fun vs : Array Value => if (codeAmong pos vs.toList).isSome = true then vs else vs ++ #[rawInt pos.line, rawInt pos.col, Value.ref c']) = f
  have ef : f ps = ps ++ #[rawInt pos.line, rawInt pos.col, .ref c'] := by rw [← hf]; simp only [hnf]; rfl
  have hget : (h'.update P (Obj.mapFields f)).get? P = some (tabObj (ps ++ #[rawInt pos.line, rawInt pos.col, .ref c'])) := by
    rw [Heap.get?_update_self (h := h') (Obj.mapFields f) gP rfl]
    show some (tabObj (f ps)) = _
    rw [ef]
  have hs : Heap.SameBut P h' (h'.update P (Obj.mapFields f)) := Heap.SameBut.update ..
  refine wpAny_bind (wpAny_fieldsOf hget rfl ?_)
  have hl : (ps ++ #[rawInt pos.line, rawInt pos.col, Value.ref c']).toList = ps.toList ++ [rawInt pos.line, rawInt pos.col, .ref c'] := by simp
  rw [hl, codeAmong_snoc _ htr hnf]
  refine wpAny_pure (hQ c' P' _ tk (fun b ob hb e => (hs.2 b hb).trans (hk b ob e)) hc' hP' (CodeHd.at2 (CodeHd.of hcode' htab') fun ob e => (hs.2 _ hcP).trans e) ((hs.2 _ hP'P).trans htab'.2) hget ?_)
  rw [hs.1]
  exact Nat.le_trans hc' (Nat.le_of_lt hcode'.lt.1)
end
end Mine
end Cd9
section Ce1
open PySem PySem.W PyProof.Rows PySem.Calls PySem.Spec Mine
set_option Elab.async false
set_option pp.deepTerms false
set_option pp.maxSteps 300
set_option maxRecDepth 100000
namespace Mine
theorem resetCe1 : True := by
  w_top off
  trivial
theorem lk_prep : typeLookup (.type "type") "__prepare__" = pure (some (.builtin "type.__prepare__")) := by rw [typeLookup_type, builtinLookup_eq_fast]; kernel_rfl
theorem ty_type : typeOf (.type "type") = pure (.type "type") := by kernel_rfl
theorem ty_prep : typeOf (.builtin "type.__prepare__") = pure (.type "classmethod_descriptor") := by kernel_rfl
theorem lk_cd_set : typeLookup (.type "classmethod_descriptor") "__set__" = pure none := by rw [typeLookup_type, builtinLookup_eq_fast]; kernel_rfl
theorem lk_cd_del : typeLookup (.type "classmethod_descriptor") "__delete__" = pure none := by rw [typeLookup_type, builtinLookup_eq_fast]; kernel_rfl
theorem lk_cd_get : typeLookup (.type "classmethod_descriptor") "__get__" = pure (some (.builtin "classmethod_descriptor.__get__")) := slot_cdget.lookup
theorem slot_tga : Slot "type" "__getattribute__" "type.__getattribute__" := .of (owner := "type") (n := "__getattribute__") (by rw [typeLookup_type, builtinLookup_eq_fast]; kernel_rfl) (by decide +kernel) (by decide +kernel) (by decide +kernel)
  (by first | exact .inl (by decide +kernel) | exact .inr (by decide +kernel)) (by rw [isSubtype_type]; kernel_rfl)
theorem entry_tga : entryFor table "type.__getattribute__" = some Builtin.«type.__getattribute__» := entryFor_of_tree (by kernel_rfl)
theorem args_tga (a b : Value) : argsOk "type.__getattribute__" ⟨[a, b], []⟩ := by unfold argsOk; kernel_rfl
theorem entry_prep : entryFor table "type.__prepare__" = some Builtin.«type.__prepare__» := entryFor_of_tree (by kernel_rfl)
theorem plain_prep : plainId "type.__prepare__" = true := by decide +kernel
theorem opq_type : opaqueClassAbove (.type "type") = pure none := by kernel_rfl
theorem bc_prep (a b : Value) : checkBoundCall "type.__prepare__" ⟨[.type "type", a, b], []⟩ = pure () := by kernel_rfl
section
variable {prog : Program} {w : World} {M : Model} {A : Around} {E : Value → Shared → Prop} {h : Heap} {g : Array GenState} {d : Drawn} {t : Nat} {os : OsState}
theorem prep_get {Q : Value → Shared → Prop} (hq : Q (.ref h.objs.size) ⟨h.push ⟨.type "builtin_function_or_method", none, .fields #[.builtin "type.__prepare__", .type "type"], #[]⟩, g, d, t, os⟩) :
    wpAny (model prog w) A (call (.builtin "classmethod_descriptor.__get__") [.builtin "type.__prepare__", .none, .type "type"]) Q E ⟨h, g, d, t, os⟩ := by
  refine wpAny_call_entry slot_cdget ty_prep entry_cdget ?_ (args_cdget _ _ _)
  unfold Builtin.«classmethod_descriptor.__get__»
  refine wpAny_bind (wpAny_of_eq (a := (.builtin "type.__prepare__", none, some (.type "type"))) (by kernel_rfl) ?_)
  iterate 5 wp_step
  refine wpAny_bind (wpAny_of_eq (a := true) (by kernel_rfl) ?_)
  iterate 2 wp_step
  unfold newFields
  refine wpAny_newObj_type ?_ (by size_fits)
  exact wpAny_pure ⟨_, rfl, hq⟩
theorem prep_ga {tk : Tok} {Q : Fin → Shared → Prop} (hq : Q (.done (.ret (.ref h.objs.size))) ⟨h.push ⟨.type "builtin_function_or_method", none, .fields #[.builtin "type.__prepare__", .type "type"], #[]⟩, g, d, t, os⟩) :
    wpAny (model prog w) A (Builtin.«type.__getattribute__» ⟨[.type "type", .str "__prepare__" tk], []⟩) Q E ⟨h, g, d, t, os⟩ := by
  have i1 := opq_type; have i2 := lk_prep; have i3 := ty_type; have i4 := ty_prep; have i5 := lk_cd_set; have i6 := lk_cd_del; have i7 := lk_cd_get
  unfold Builtin.«type.__getattribute__»
  repeat (first | (with_reducible refine prep_get ?_) | wp_step)
  all_goals exact hq
theorem prep_attr {Q : Option Value → Shared → Prop} (hq : Q (some (.ref h.objs.size)) ⟨h.push ⟨.type "builtin_function_or_method", none, .fields #[.builtin "type.__prepare__", .type "type"], #[]⟩, g, d, t + 1, os⟩) :
    wpAny (model prog w) A (getAttr? (.type "type") "__prepare__") Q E ⟨h, g, d, t, os⟩ := by
  unfold getAttr? getAttrBy? getAttrBy
  refine wpAny_bind (wpAny_mkText (wpAny_bind (wpAny_attempt (wpAny_holding (wpAny_bind (wpAny_of_eq ty_type (wpAny_bind (wpAny_of_eq slot_tga.lookup ?_))))))))
  show wpAny _ _ (getAttrByItsOwn (.type "type") (.str "__prepare__" t) (.type "type") (.builtin "type.__getattribute__") false false) _ _ _
  unfold getAttrByItsOwn hookBefore callGetattribute boundAndCalled
  refine wpAny_bind (wpAny_of_eq (show (if onTheHeap (.type "type") then typeLookup (.type "type") "__getattr__" else pure none) = pure none from rfl) ?_)
  refine wpAny_bind (wpAny_attempt (wpAny_holding ?_))
  show wpAny _ _ (bindSpecial (.builtin "type.__getattribute__") (.type "type") >>= _) _ _ _
  refine wpAny_bind (wpAny_of_eq (slot_tga.bind _) ?_)
  refine wpAny_mono (Q := fun v s' => v = .ref h.objs.size ∧ s' = ⟨h.push ⟨.type "builtin_function_or_method", none, .fields #[.builtin "type.__prepare__", .type "type"], #[]⟩, g, d, t + 1, os⟩) (E := fun _ _ => False)
    (wpAny_call_entry slot_tga ty_type entry_tga (prep_ga ⟨_, rfl, rfl, rfl⟩) (args_tga _ _)) (fun v s' hv => ?_) fun _ _ z => z.elim
  obtain ⟨rfl, rfl⟩ := hv
  exact wpAny_pure (wpAny_pure hq)
theorem prep_call {b : Addr} {x y : Value} {Q : Value → Shared → Prop} (hb : h.get? b = some ⟨.type "builtin_function_or_method", none, .fields #[.builtin "type.__prepare__", .type "type"], #[]⟩)
    (hq : Q (.ref h.objs.size) ⟨h.push ⟨.type "dict", none, .dict #[] 0, #[]⟩, g, d, t, os⟩) : wpAny (model prog w) A (call (.ref b) [x, y]) Q E ⟨h, g, d, t, os⟩ := by
  refine wpAny_call (codeAny_of_tree ?_)
  show wpAny _ A.in1 (callAny (.ref b) ⟨[x, y], []⟩) _ _ _
  unfold callAny
  refine wpAny_bind (wpAny_load hb ?_)
  show wpAny _ _ (do checkBoundCall "type.__prepare__" ⟨[.type "type", x, y], []⟩; return ← again (.builtin "type.__prepare__" ⟨[.type "type", x, y], []⟩)) _ _ _
  refine wpAny_bind (wpAny_of_eq (bc_prep x y) (wpAny_pure ⟨plainId_quiet plain_prep _, codeAny_builtin entry_prep ?_⟩))
  unfold Builtin.«type.__prepare__» newDict
  refine wpAny_bind (wpAny_newObj_type ?_ (by size_fits))
  exact wpAny_pure hq
end
end Mine
end Ce1
section Ce2
open PySem PySem.W PyProof.Rows PySem.Calls PySem.Spec Mine
set_option Elab.async false
set_option pp.deepTerms false
set_option pp.maxSteps 400
set_option maxRecDepth 100000
set_option maxHeartbeats 0
namespace Mine
theorem resetCe2 : True := by
  w_top off
  trivial
noncomputable abbrev cenvOf (scope : Scope) (nsA : Addr) (qual : Str) (cc fr : Addr) (clos : List (Str × Addr)) : Env :=
  { scope, locals := nsA, globals := mainGlobals, qual := qual ++ ".", code := .ref cc, frame := some fr, builtins := builtinsNs, cells := clos }

theorem wpBind {α β : Type} {M : Model} {A : Around} {E : Value → Shared → Prop} {s : Shared} {m : Sem α} {f : α → Sem β} {Q : β → Shared → Prop} (P : α → Shared → Prop) (h1 : wpAny M A m P E s) (h2 : ∀ a s', P a s' → wpAny M A (f a) Q E s') : wpAny M A (m >>= f) Q E s :=
  wpAny_bind (wpAny_mono h1 h2 fun _ _ x => x)
theorem ntm {who : String} {a : Addr} (ha : a ≠ sysModules) : notTheModulesDict who a = pure () := by
  unfold notTheModulesDict
  rw [if_neg (by simpa using ha)]
theorem lk_dict_getitem : typeLookup (.type "dict") "__getitem__" = pure (some (.builtin "dict.__getitem__")) := by rw [typeLookup_type, builtinLookup_eq_fast]; kernel_rfl
theorem allocX {M : Model} {A : Around} {E : Value → Shared → Prop} {s : Shared} {o : Obj} {Q : Addr → Shared → Prop} (hf : o.isFreed = false) (h : ∀ a h', s.heap.objs.size ≤ a → Kp s.heap h' → s.heap.objs.size ≤ h'.objs.size → h'.get? a = some o → Q a { s with heap := h' }) : wpAny M A (alloc o) Q E s :=
  wpAny_alloc (h _ _ (Nat.le_refl _) (fun _ _ e => Heap.get?_push_of_some _ e) (by rw [Heap.size_push]; exact Nat.le_succ _) (Heap.get?_push_size _ hf))
theorem Bd.kpTo {h0 h h' : Heap} {P0 nsA cc P : Addr} {m : Str → Option Value} {al : List Addr} {n : Nat} {ps : Array Value} (x : Bd h0 h P0 nsA cc P m al n ps) (k : Kp h h') (hz : h.objs.size ≤ h'.objs.size) : Bd h0 h' P0 nsA cc P m al n ps :=
  x.grow (fun b o _ e => k b o e) hz (k _ _ x.tp) x.tr
theorem MF.static {m : Str → Option Value} {l f1 f2 : Addr} {u : Option Value} (x : MF m l f1 f2) : MF (fun y => if y = "__static_attributes__" then u else m y) l f1 f2 := by
  obtain ⟨a0, a1, a2, a3, a4, a5⟩ := x
  refine ⟨fun y hy => ?_, ?_, ?_, ?_, ?_, ?_⟩
  · show (if y = "__static_attributes__" then u else m y) = none
    rw [if_neg (fun q : y = "__static_attributes__" => hy (by rw [q]; decide))]; exact a0 y hy
  all_goals (rw [if_neg (by decide)]; assumption)
structure ClsAt (h : Heap) (C N md f1 f2 : Addr) : Prop where
  gC : ∃ sl, h.get? C = some (clsO { name := "K", bases := [.type "object"], mro := [.ref C, .type "object"], ns := N, qualname := qualK, hasDict := false, slotNames := ["obj"] } sl) ∧ sl[4]? = some (some (.builtin "object.__new__"))
  gN : ∃ m l, h.Ns N m ∧ MD m l f1 f2 md
  gM : ∃ v0, h.get? md = some ⟨.type "member_descriptor", none, .fields #[.str "obj" v0, .ref C, .builtin "proto.slot", .builtin "proto.slot#set", rawInt 0], #[]⟩
theorem ClsAt.keep {h h' : Heap} {C N md f1 f2 : Addr} (x : ClsAt h C N md f1 f2) (k : Kp h h') : ClsAt h' C N md f1 f2 :=
  let ⟨⟨sl, a, b⟩, ⟨m, l, c, e⟩, v, f⟩ := x; ⟨⟨sl, k _ _ a, b⟩, ⟨m, l, c.keeps k, e⟩, v, k _ _ f⟩
noncomputable def m3Of (nmv : Value) (firstLine : Int) (t2 t3 : Nat) : Str → Option Value := fun y => if y = "__firstlineno__" then some (.int firstLine t3) else if y = "__qualname__" then some (.str qualK t2) else if y = "__module__" then some nmv else none
noncomputable def BodyOut (h h3 : Heap) (P0 nsA cc P : Addr) (g : Array GenState) (d : Drawn) (os : OsState) (R : Addr → Addr → Addr → Addr → Heap → Prop) (s' : Shared) : Prop :=
  ∃ h5 tk5 m al n ps l f1 f2 u tq, s' = ⟨h5, g, d, tk5, os⟩ ∧ Bd h h5 P0 nsA cc P m al n ps ∧ Kp2 nsA P h3 h5 ∧ n < 90 ∧ (m "__module__").isSome = true ∧ m "__qualname__" = some (.str qualK tq) ∧ MF m l f1 f2 ∧ h5.IsList l #[.str "obj" u] ∧ R nsA P f1 f2 h5
theorem build_K {prog : Program} {w : World} {A : Around} {E : Value → Shared → Prop} {Q : Value → Shared → Prop} {h : Heap} {g : Array GenState} {d : Drawn} {t : Nat} {os : OsState}
    {body : List Stmt} {scope : Scope} {statics : List Str} {firstLine : Nat} {env : Env} {pos : Pos} {clos : List (Str × Addr)} {c P0 : Addr} {mg : Str → Option Value} {nmv : Value}
    (hge : env.globals = mainGlobals) (hbi : env.builtins = builtinsNs) (hcode : env.code = .ref c) (C : CodeHd h c P0) (hP0 : h.get? P0 = some (tabObj #[])) (G : Glb h mg) (hnm : mg "__name__" = some nmv) (hlim : h.NoLimit) (hdep : A.depth < recursionLimit)
    (hcl : closureFor scope env = pure clos) (c1 : (scope.names.lookup ("__class__" : Str) == some NameKind.cell) = false) (c2 : (scope.names.lookup ("__classdict__" : Str) == some NameKind.cell) = false)
    (hload : ∀ nsA cc fr (s : Shared) (Q' : Value → Shared → Prop) (E' : Value → Shared → Prop) (m : Str → Option Value) (Pv : Value → Prop) (n : Nat), DNs s.heap nsA m Pv n → m "__name__" = none → Glb s.heap mg → Q' nmv s → wpAny (model prog w) A (loadName (cenvOf scope nsA qualK cc fr clos) "__name__") Q' E' s)
    (hsto : ∀ nsA cc fr x v, x ∈ (["__module__", "__qualname__", "__firstlineno__", "__static_attributes__"] : List Str) → storeName (cenvOf scope nsA qualK cc fr clos) x v = localSet (cenvOf scope nsA qualK cc fr clos) x v)
    (hnv : QV [] nmv) {R : Addr → Addr → Addr → Addr → Heap → Prop} (hR : ∀ nsA P f1 f2 h1 h2, R nsA P f1 f2 h1 → Kp2 nsA P h1 h2 → R nsA P f1 f2 h2)
    (hbody : ∀ h3 nsA cc P fr t2 t3 tk, Bd h h3 P0 nsA cc P (m3Of nmv firstLine t2 t3) [] 3 #[] → wpAny (model prog w) A (run (.body body (cenvOf scope nsA qualK cc fr clos))) (fun _ s' => BodyOut h h3 P0 nsA cc P g d os R s') E ⟨h3, g, d, tk, os⟩)
    {mc : Str → Option Value} (hst : h.Ns cStatics mc) (hany : mc "thirdparty.any" = none)
    (hQ : ∀ h' tk C N md f1 f2 nsA P, (∀ b o, b ≠ P0 → h.get? b = some o → h'.get? b = some o) → (∃ ps0, h'.get? P0 = some (tabObj ps0)) → ClsAt h' C N md f1 f2 → R nsA P f1 f2 h' → h.get? N = none → Q (.ref C) ⟨h', g, d, tk, os⟩)
    : wpAny (model prog w) A (buildClass "K" qualK [.type "object"] [] body scope statics firstLine env pos none) Q E ⟨h, g, d, t, os⟩ := by
  have i1 := ty_object; have i2 := st_type; have i3 := ty_type
  unfold buildClass
  unfold newTuple
  refine wpAny_bind (wpAny_newObj_type ?_ (by size_fits))
  have gT : (h.push ⟨.type "tuple", none, .seq #[.type "object"] 0, #[]⟩).get? h.objs.size = some ⟨.type "tuple", none, .seq #[.type "object"] 0, #[]⟩ := Heap.get?_push_size _ rfl
  have kA : Kp h (h.push ⟨.type "tuple", none, .seq #[.type "object"] 0, #[]⟩) := fun _ _ e => Heap.get?_push_of_some _ e
  have sA : h.objs.size ≤ (h.push ⟨.type "tuple", none, .seq #[.type "object"] 0, #[]⟩).objs.size := by rw [Heap.size_push]; exact Nat.le_succ _
  revert gT kA sA
  show _ → _ → _ → wpAny _ _ _ _ _ ⟨h.push ⟨.type "tuple", none, .seq #[.type "object"] 0, #[]⟩, g, d, t, os⟩
  generalize (h.push ⟨.type "tuple", none, .seq #[.type "object"] 0, #[]⟩) = hA
  generalize hbT : h.objs.size = bT
  intro gT kA sA
  refine wpBind (fun r s' => r = ([Value.type "object"], false) ∧ s' = ⟨hA, g, d, t, os⟩) ?_ ?_
  · refine lp_cons ?_
    iterate 6 wp_step
    refine lp_nil ?_
    exact ⟨rfl, rfl⟩
  rintro _ _ ⟨rfl, rfl⟩
  wp_delta
  refine wpAny_bind (wpAny_of_eq ty_object ?_)
  wp_delta
  refine wpAny_bind (wpAny_of_eq (a := true) rfl ?_)
  wp_delta
  refine wpAny_ite_true rfl ?_
  refine wpBind (fun r s' => r = Value.type "type" ∧ s' = ⟨hA, g, d, t, os⟩) ?_ ?_
  · refine lp_cons (x := Value.type "object") (l := []) ?_
    iterate 6 wp_step
    refine lp_nil ?_
    exact ⟨rfl, rfl⟩
  rintro _ _ ⟨rfl, rfl⟩
  wp_delta
  refine wpAny_bind (wpAny_mkText ?_)
  wp_delta
  refine wpAny_ite_false rfl ?_
  refine wpAny_bind (wpAny_pure ?_)
  wp_delta
  refine wpAny_holding (wpAny_bind (prep_attr ?_))
  wp_delta
  refine wpAny_bind (prep_call (Heap.get?_push_size _ rfl) ?_)
  have kB : Kp hA ((hA.push ⟨.type "builtin_function_or_method", none, .fields #[.builtin "type.__prepare__", .type "type"], #[]⟩).push ⟨.type "dict", none, .dict #[] 0, #[]⟩) := fun _ _ e => Heap.get?_push_of_some _ (Heap.get?_push_of_some _ e)
  have dB : DNs ((hA.push ⟨.type "builtin_function_or_method", none, .fields #[.builtin "type.__prepare__", .type "type"], #[]⟩).push ⟨.type "dict", none, .dict #[] 0, #[]⟩) (hA.push ⟨.type "builtin_function_or_method", none, .fields #[.builtin "type.__prepare__", .type "type"], #[]⟩).objs.size (fun _ => none) (QV []) 0 :=
    ⟨#[], 0, Heap.get?_push_size _ rfl, fun _ he => by simp at he, fun _ => rfl, fun _ he => by simp at he, Nat.le_refl _⟩
  have sB : hA.objs.size ≤ (hA.push ⟨.type "builtin_function_or_method", none, .fields #[.builtin "type.__prepare__", .type "type"], #[]⟩).objs.size := by rw [Heap.size_push]; exact Nat.le_succ _
  revert kB dB sB
  generalize ((hA.push ⟨.type "builtin_function_or_method", none, .fields #[.builtin "type.__prepare__", .type "type"], #[]⟩).push ⟨.type "dict", none, .dict #[] 0, #[]⟩) = hB
  generalize (hA.push ⟨.type "builtin_function_or_method", none, .fields #[.builtin "type.__prepare__", .type "type"], #[]⟩).objs.size = nsA
  intro kB dB sB
  show wpAny _ _ _ _ _ ⟨hB, g, d, t + 1 + 1, os⟩
  have h3 : (3 : Nat) < bT := by rw [← hbT]; exact G.g.lt
  have hsm : nsA ≠ sysModules := Nat.ne_of_gt (Nat.lt_of_lt_of_le (Nat.lt_trans (show (1 : Nat) < 3 by decide) h3) (Nat.le_trans sA sB))
  wp_delta
  refine wpAny_bind (wpAny_of_eq (ntm hsm) ?_)
  refine wpAny_bind (wpAny_specialOf (T := "dict") dB.at lk_dict_getitem ?_)
  wp_delta
  refine wpAny_ite_false rfl ?_
  wp_delta
  refine wpAny_holding ?_
  wp_delta
  (with_reducible apply wpAny_ite_false)
  · rw [c1]; rfl
  refine wpAny_bind (wpAny_pure ?_)
  wp_delta
  (with_reducible apply wpAny_ite_false)
  · rw [c2]; rfl
  refine wpAny_bind (wpAny_pure ?_)
  wp_delta
  have kAB := kA.trans kB
  have hP0lt : P0 < h.objs.size := Heap.lt_size hP0
  have sAB : h.objs.size ≤ nsA := by rw [hbT]; exact Nat.le_trans sA sB
  have sBl : nsA < hB.objs.size := dB.ns.lt
  refine wpAny_bind (class_code hcode (C.keeps kAB) (kAB _ _ hP0) trivial rfl fun cc P hC tk xC gcc gP CC tP tP0 sC => ?_)
  have nP0 : nsA ≠ P0 := Nat.ne_of_gt (Nat.lt_of_lt_of_le hP0lt sAB)
  have szh : h.objs.size ≤ hB.objs.size := Nat.le_trans sAB (Nat.le_of_lt sBl)
  have B0 : Bd h hC P0 nsA cc P (fun _ => none) [] 0 #[] :=
    ⟨fun b o hb e => xC b o hb (kAB b o e), Nat.le_trans szh sC, Heap.get?_none_of_le sAB, Heap.get?_none_of_le (Nat.le_trans szh gP), dB.keep fun o e => xC _ o nP0 e, CC, tP, trivial, fun a ha => nomatch ha⟩
  have gT2 : hC.get? bT = some ⟨.type "tuple", none, .seq #[.type "object"] 0, #[]⟩ := xC _ _ (by rw [← hbT]; exact Nat.ne_of_gt hP0lt) (kB _ _ gT)
  rw [hge, hbi]
  have GC := B0.glb G hP0
  obtain ⟨bm, ob, b1, b2, b3, b4, b5, b6⟩ := GC.b
  refine wpAny_bind (wpAny_builtinsFor GC.g b1 b2 b3 b4 b5 b6 ?_)
  unfold newBodyFrame
  refine wpAny_bind (wpAny_bind (wpAny_nsGet GC.g (allocX rfl fun fr hF lF kF sF gF => ?_)))
  refine wpAny_bind (wpAny_of_eq hcl ?_)
  wp_delta
  have B1 := B0.kpTo kF sF
  have GF := B1.glb G hP0
  have gT3 := kF _ _ gT2
  have limF : hF.NoLimit := by
    obtain ⟨mc, ⟨o, es, ep, e, hd, r⟩, q⟩ := hlim
    refine ⟨mc, ⟨o, es, ep, B1.ext _ _ (fun z => ?_) e, hd, r⟩, q⟩
    rw [z, hP0] at e; cases e; cases hd
  have tP0F := kF _ _ tP0
  show wpAny _ _ (holding _ (enterFrame >>= fun _ => _)) _ _ ⟨hF, g, d, tk, os⟩
  refine wpAny_holding (wpAny_bind (wpAny_enterFrame limF hdep ?_))
  refine wpAny_bind (wpAny_onRaise ?_)
  refine wpAny_bind ?_
  refine hload nsA cc fr _ _ _ _ _ _ B1.dn rfl GF ?_
  refine wpAny_bind (bd_store (env := cenvOf scope nsA qualK cc fr clos) B1 rfl (hsto nsA cc fr _ _ (.head _)) hnv fun h1 B2 k2 => ?_)
  refine wpAny_bind (wpAny_mkText ?_)
  refine wpAny_bind (bd_store (env := cenvOf scope nsA qualK cc fr clos) B2 rfl (hsto nsA cc fr _ _ (.tail _ (.head _))) (.inr (.inl ⟨_, _, rfl⟩)) fun h2 B3 k3 => ?_)
  refine wpAny_bind (wpAny_mkInt ?_)
  refine wpAny_bind (bd_store (env := cenvOf scope nsA qualK cc fr clos) B3 rfl (hsto nsA cc fr _ _ (.tail _ (.tail _ (.head _)))) (.inr (.inr (.inl ⟨_, _, rfl⟩))) fun h3 B4 k4 => ?_)
  refine wpAny_pure ?_
  wp_delta
  refine wpBind (fun _ s' => BodyOut h h3 P0 nsA cc P g d os R s') (hbody h3 nsA cc P fr _ _ _ B4) ?_
  rintro _ _ ⟨h5, tk5, m, al, n, ps, l, f1, f2, u, tq, rfl, B5, k5, hn5, mm, mq, mf, hl5, r5⟩
  refine wpAny_bind (wpAny_onRaise ?_)
  refine wpAny_bind (wpAny_mkStrs fun vs => ?_)
  unfold newTextTuple
  refine wpAny_bind (wpAny_newObjAsIs_type ?_)
  have B6 := (B5.push ⟨.type "tuple", none, .seq vs.toArray 0, #[]⟩).more (Heap.get?_push_size _ rfl) rfl (by decide)
  refine wpAny_bind (bd_store (env := cenvOf scope nsA qualK cc fr clos) B6 rfl (hsto nsA cc fr _ _ (.tail _ (.tail _ (.tail _ (.head _))))) (.inr (.inr (.inr ⟨_, .head _, rfl⟩))) fun h6 B7 k7 => ?_)
  refine wpAny_pure ?_
  wp_delta
  refine wpAny_ite_false rfl ?_
  wp_delta
  have kT : Kp h5 (h5.push ⟨.type "tuple", none, .seq vs.toArray 0, #[]⟩) := fun _ _ e => Heap.get?_push_of_some _ e
  have bTn : bT ≠ nsA := Nat.ne_of_lt (Nat.lt_of_lt_of_le (Heap.lt_size gT) sB)
  have bTP : bT ≠ P := Nat.ne_of_lt (Nat.lt_of_lt_of_le (Nat.lt_trans (Nat.lt_of_lt_of_le (Heap.lt_size gT) sB) sBl) gP)
  have P0n : P0 ≠ nsA := nP0.symm
  have P0P : P0 ≠ P := Nat.ne_of_lt (Nat.lt_of_lt_of_le (Nat.lt_of_lt_of_le hP0lt szh) gP)
  have gT6 : h6.get? bT = some ⟨.type "tuple", none, .seq #[.type "object"] 0, #[]⟩ := k7 _ _ bTn bTP (kT _ _ (k5 _ _ bTn bTP (k4 _ _ bTn bTP (k3 _ _ bTn bTP (k2 _ _ bTn bTP gT3)))))
  have tP06 := k7 _ _ P0n P0P (kT _ _ (k5 _ _ P0n P0P (k4 _ _ P0n P0P (k3 _ _ P0n P0P (k2 _ _ P0n P0P tP0F)))))
  have r6 := hR _ _ _ _ _ h6 r5 fun b o n1 n2 e => k7 b o n1 n2 (kT b o e)
  have hst6 : h6.Ns cStatics mc := by
    obtain ⟨o, es, ep, e, hd, r⟩ := hst
    refine ⟨o, es, ep, B7.ext _ _ (fun z => ?_) e, hd, r⟩
    rw [z, hP0] at e; cases e; cases hd
  have hl6 : h6.IsList l #[.str "obj" u] := by
    obtain ⟨o, e, hc, nn, hd⟩ := hl5
    refine ⟨o, k7 _ _ (fun z => ?_) (fun z => ?_) (kT _ _ e), hc, nn, hd⟩
    · obtain ⟨es, ep, e', _⟩ := B5.dn
      rw [z, e'] at e; cases e; cases hd
    · rw [z, B5.tp] at e; cases e; cases hd
  refine wpAny_bind (type_call (Q₁ := fun v s₁ => ∃ h' tk C N md, v = .ref C ∧ s₁ = ⟨h', g, d, tk, os⟩ ∧ Kp h6 h' ∧ ClsAt h' C N md f1 f2 ∧ h6.get? N = none) ?_ ?_)
  · refine tn1 (tq := tq) rfl rfl B7.dn B7.cm (Nat.lt_of_lt_of_le (Nat.succ_lt_succ hn5) (by decide)) hsm gT6 ?_ ?_ mf.static hl6 hst6 hany fun h' tk' C N md m' n' sl' ph hsl md' fM neC neN gM => ⟨_, rfl, h', tk', C, N, md, rfl, rfl, ph.kp, ⟨⟨sl', ph.gC, hsl⟩, ⟨m', l, ph.dn.ns, md'⟩, gM⟩, ph.fN⟩
    · rw [if_neg (by decide)]; exact mm
    · rw [if_neg (by decide)]; exact mq
  rintro v s₁ ⟨h', tk', C, N, md, rfl, rfl, k', cl', fN'⟩
  obtain ⟨sl', e', _⟩ := cl'.gC
  refine ⟨⟨_, e', rfl⟩, ?_⟩
  exact wpAny_pure (hQ h' tk' C N md f1 f2 nsA P (fun b o hb e => k' _ _ (B7.ext b o hb e)) ⟨_, k' _ _ tP06⟩ cl' (hR _ _ _ _ _ _ r6 fun b o _ _ e => k' b o e) (by
    cases q : h.get? N with
    | none => rfl
    | some o =>
      by_cases hb : N = P0
      · rw [hb, tP06] at fN'; cases fN'
      · rw [B7.ext _ _ hb q] at fN'; cases fN'))
end Mine
end Ce2
section Ce3
open PySem PySem.W PyProof.Rows PySem.Calls PySem.Spec Mine
set_option Elab.async false
set_option pp.deepTerms false
set_option pp.maxSteps 400
set_option maxRecDepth 100000
namespace Mine
section
variable {prog : Program} {w : World} {A : Around} {s : Shared}
/-- enter a def that has cells of its own -/
theorem enterC {E : Value → Shared → Prop} {Q : Value → Shared → Prop} {f : Addr} {fo : Obj} {name qual : Str} {params : Arguments} {body : List Stmt} {scope : Scope} {dV kV doc pm cdv ct : Value} {an : Option Addr} {pos : List Value} {kw : List (Str × Value)} {binds : List (Str × Value)}
    (hlim : s.heap.NoLimit) (ho : s.heap.get? f = some fo) (hd : fo.data = .func (fnX name qual params body scope [] dV kV doc pm an cdv ct)) (hcd : s.heap.CodeRec cdv qual) (hroom : A.depth < recursionLimit)
    (hbind : BindsTo s (fnX name qual params body scope [] dV kV doc pm an cdv ct) ⟨pos, kw⟩ binds)
    (hkind : ∀ n, ∀ x ∈ binds, scope.names.lookup x.1 = some .local ∨ (scope.names.lookup x.1 = some .cell ∧ ((cellsFrom n scope.names []).lookup x.1).isSome = true))
    (h : ∀ L' h₁ tk₁, L' = s.heap.objs.size → InCallC s L' (bindL (envOfC qual scope L' f cdv).kindOf binds fun _ => none) (cellsFrom (L' + 1) scope.names []) (bindC (envOfC qual scope L' f cdv).kindOf binds fun _ => none) { s with heap := h₁, toks := tk₁ } →
      wpAny (model prog w) (A.deeper (envOfC qual scope L' f cdv)) (execs body (envOfC qual scope L' f cdv))
        (fun fl s' => Q (match fl with | .ret v => v | _ => .none) s') No { s with heap := h₁, toks := tk₁ })
    (hco : scope.isCoroutine = false := by rfl) (hgen : scope.isGenerator = false := by rfl) (hk : scope.kind = .function := by rfl) :
    wpAny (model prog w) A (call (.ref f) pos kw) Q E s := by
  refine wpAny_call (codeAny_call_function hroom ho hd hco hgen rfl hcd (hbind _ _ _ _ ?_))
  refine wpAny_newFunctionEnv_cells hk (hkind _) fun env' he s' x => ?_
  subst he
  refine ⟨hlim.keeps x.toInCall.keep, codeAny_func ?_⟩
  obtain ⟨h₁, tk, rfl, _⟩ := x.done
  exact wpAny_mono (h _ h₁ tk rfl x) (fun fl s' q => q) fun _ _ x => x.elim
end
end Mine
end Ce3
section Ck2
open PySem PySem.W PyProof.Rows PySem.Calls PySem.Spec Mine
set_option Elab.async false
set_option pp.deepTerms false
set_option pp.maxSteps 1500
set_option maxRecDepth 100000
set_option maxHeartbeats 0
namespace Mine
theorem resetCk2 : True := by
  w_top off
  trivial
theorem nsIn_ns {K : Frag} {h : Heap} {a : Addr} {mg : Str → Option Value} {n : Str} {r : Option Value} (X : K.In h) (G : h.Ns a mg) (e : nsIn K a n = some r) : mg n = r := by
  obtain ⟨o, es, ep, ho, hd, hk, hf⟩ := G
  cases hK : K.lookup a with
  | none => simp [nsIn, hK] at e
  | some o' =>
    obtain rfl : o = o' := Option.some.inj (ho.symm.trans (X a o' hK))
    obtain ⟨c, dd, dt, sl⟩ := o
    cases hd
    simp only [nsIn, hK] at e
    rw [← hf, nsFind, findBy, ← Array.find?_toList]
    cases hq : es.toList.find? (fun x => x.key.isStr n) with
    | some en => rw [hq] at e; exact Option.some.inj e
    | none =>
      rw [hq] at e
      simp only at e
      split at e
      · cases e
      · exact Option.some.inj e
theorem evalArgs_ff {M : Model} {A : Around} {E : Value → Shared → Prop} {s : Shared} {f : Value} {args : List (Bool × Sem Value)} {Q : Args → Shared → Prop} (h : wpAny M A (spliced args) (fun vs s' => Q ⟨vs, []⟩ s') E s) : wpAny M A (evalArgs f false args []) Q E s := by
  unfold evalArgs
  refine wpAny_bind (wpAny_mono h (fun vs s' h' => ?_) fun _ _ x => x)
  exact wpAny_bind (wpAny_pure (wpAny_holding (wpAny_bind (wpAny_pure (wpAny_bind (wpAny_pure (wpAny_pure h')))))))
/-- the class body of cmp_to_key and its defs, read off the row's own top -/
noncomputable def stmtsOf : Option Obj → List Stmt
  | some ⟨_, _, .func fd, _⟩ => (match fd.body with | .stmts b => b | _ => [])
  | _ => []
noncomputable def clsBodyOf : List Stmt → List Stmt
  | .ClassDef _ _ _ b _ _ _ _ _ _ _ :: _ => b
  | _ => []
noncomputable def defNamed (n : Str) : List Stmt → Option (Arguments × List Stmt × Scope)
  | .FunctionDef m ps b _ _ _ sc _ _ _ :: r => if m == n then some (ps, b, sc) else defNamed n r
  | _ :: r => defNamed n r
  | [] => none
noncomputable def kFn (Pm : Params) (n : Str) : Option (Arguments × List Stmt × Scope) := defNamed n (clsBodyOf (stmtsOf ((hd82.heap_39 Pm).lookup 21)))
noncomputable def KFn (Pm : Params) (n : Str) (clos : List (Str × Addr)) (nsA P : Addr) (h : Heap) (f : Addr) : Prop :=
  ∃ params body scope doc pm c' ctv, kFn Pm n = some (params, body, scope) ∧ h.get? f = some (fnMade n ((qualK ++ ".") ++ n) params body scope clos doc pm c' ctv) ∧ h.CodeRec (.ref c') ((qualK ++ ".") ++ n) ∧ f ≠ nsA ∧ f ≠ P ∧ c' ≠ nsA ∧ c' ≠ P
theorem KFn.keep {Pm : Params} {n : Str} {clos : List (Str × Addr)} {nsA P : Addr} {h h' : Heap} {f : Addr} (x : KFn Pm n clos nsA P h f) (k : Kp2 nsA P h h') : KFn Pm n clos nsA P h' f := by
  obtain ⟨ps, b, sc, doc, pm, c', ctv, e, g, ⟨c2, oc, vs, t, e2, hoc, r⟩, n1, n2, n3, n4⟩ := x
  cases e2
  exact ⟨ps, b, sc, doc, pm, c', ctv, e, k _ _ n1 n2 g, ⟨c', oc, vs, t, rfl, k _ _ n3 n4 hoc, r⟩, n1, n2, n3, n4⟩
theorem ck_spec {w : World} {s : Shared} {E Q : Value → Shared → Prop} {p : Program} {loose : List Str} {mean : ExcName → Option Value} {mg mb : Str → Option Value} {dp un : Nat} {fr : Option (List Env)} {gd : Option (List Code)} {f : Addr}
    (X : (hd82.heap_39 w.params).In s.heap) (T : Top p loose mean mg mb s.heap) (C : CodeHd s.heap 20 16) (hP0 : s.heap.get? 16 = some (tabObj #[])) (hdp : dp + 4 < recursionLimit)
    (hret : ∀ h' tk C N md f1 f2 cell, (∀ b o, b ≠ 16 → s.heap.get? b = some o → h'.get? b = some o) → (∃ ps0, h'.get? 16 = some (tabObj ps0)) → ClsAt h' C N md f1 f2 → (∃ nsA P, KFn w.params "__init__" [] nsA P h' f1 ∧ KFn w.params "__lt__" [(Str.ofString "mycmp", cell)] nsA P h' f2) → h'.IsCell cell (some (.ref f)) →
      Q (.ref C) { s with heap := h', toks := tk }) :
    wpAny (model PySem.Challenge.rw_op0082_01.row.prog w) ⟨none, dp, fr, gd, un⟩ (call (.ref 21) [.ref f]) Q E s := by
  revert X; k_fill; intro X
  obtain ⟨nmv, hnm, hnv⟩ : ∃ nmv, mg "__name__" = some nmv ∧ QV [] nmv := ⟨_, mg_of X T.g (by k_is), .inr (.inl ⟨_, _, rfl⟩)⟩
  obtain ⟨mc, hmc, _⟩ := T.nolimit
  have hany : mc "thirdparty.any" = none := nsIn_ns X hmc (by k_is)
  refine enterC (binds := [(Str.ofString "mycmp", .ref f)]) T.nolimit (X 21 _ (by k_is)) (by exact rfl) (codeRec_of X (by k_is)) (by show dp < _; omega) (BindsTo.of_eq rfl) (fun n x hx => by rcases List.mem_singleton.mp hx with rfl; exact .inr ⟨rfl, rfl⟩) ?_
  intro L' h₁ tk₁ hL x
  have k1 : Kp s.heap h₁ := x.toInCall.keep
  have cel := x.cell "mycmp" (L' + 1) rfl
  have T1 := T.keeps k1
  have G1 : Glb h₁ mg := ⟨T1.g, T1.bmain⟩
  refine wpAny_execs_cons ?_
  rw [arm_exec_ClassDef]
  refine wpAny_bind (wpAny_of_eq (a := []) rfl ?_)
  refine wpAny_bind (wpAny_standAt ?_)
  have hbc : mb "__build_class__" = some (.builtin "__build_class__") := (T.builtins _ (by decide)).trans (by kernel_rfl)
  refine wpAny_bind ?_
  unfold buildClassGuard
  refine wpAny_bind (wpAny_nsGet T1.b ?_)
  rw [hbc]
  refine wpAny_pure ?_
  have hob : mg "object" = none := nsIn_ns X T.g (by k_is)
  have hobj : mb "object" = some (.type "object") := (T.builtins _ (by decide)).trans (by kernel_rfl)
  refine wpAny_bind (wpAny_holding ?_)
  refine wpAny_bind (evalArgs_ff (spliced_more (Name_function_global rfl rfl (loadGlobal_builtin T1.g hob T1.b hobj (spliced_none ?_)) (by decide)) rfl))
  refine wpAny_bind (wpAny_standAt (wpAny_holding ?_))
  refine build_K (c := 20) (P0 := 16) (clos := [(Str.ofString "mycmp", L' + 1)]) (mg := mg) (nmv := nmv) (mc := mc) (R := fun nsA P f1 f2 h => KFn w.params "__init__" [] nsA P h f1 ∧ KFn w.params "__lt__" [(Str.ofString "mycmp", L' + 1)] nsA P h f2) rfl rfl rfl (C.keeps k1) (k1 _ _ hP0) G1 hnm T1.nolimit ?_ rfl rfl rfl ?_ ?_ hnv ?_ ?_ (hmc.keeps k1) hany ?_
  · show dp + 1 < _; omega
  · intro nsA cc fr' s' Q' E' m Pv n D hm G hq
    obtain ⟨hp, g, d, t, os⟩ := s'
    change DNs hp nsA m Pv n at D
    obtain ⟨o, ho, hc⟩ := D.at
    unfold loadName
    iterate 6 wp_step
    refine wpAny_load ho ?_
    rw [hc]
    (with_reducible apply wpAny_ite_true)
    · rfl
    refine dns_get D ?_
    rw [hm]
    wp_step
    refine wpAny_bind (wpAny_nsGet G.g ?_)
    rw [hnm]
    exact wpAny_pure hq
  · intro nsA cc fr x v hx
    simp only [List.mem_cons, List.not_mem_nil, or_false] at hx
    rcases hx with rfl | rfl | rfl | rfl <;> rfl
  · exact fun _ _ _ _ _ _ r k => ⟨r.1.keep k, r.2.keep k⟩
  · intro h3 nsA cc P fr' t2 t3 tk B
    refine wpAny_run (codeAny_of_tree ?_)
    show wpAny _ _ (blockStart _ _ >>= fun _ => (execs _ _).onRaise (leaving _) >>= fun r => pure (PySem.Fin.done r)) _ _ _
    refine wpAny_bind (wpAny_of_eq (a := ()) (by kernel_rfl) ?_)
    refine wpAny_bind (wpAny_onRaise ?_)
    refine wpAny_execs_cons (wpAny_Assign_Name (wpAny_Constant_str (bd_store B rfl (by rfl) (.inr (.inl ⟨_, _, rfl⟩)) fun h4 B4 k4 => ?_)))
    refine wpAny_execs_cons (wpAny_Assign_Name (wpAny_List (spliced_more (wpAny_Constant_str (spliced_none ⟨by size_fits, ?_⟩)) rfl)))
    have gl := Heap.get?_push_size h4 (o := ⟨.type "list", none, .seq #[.str "obj" (tk + 1 + 1)] 0, #[]⟩) rfl
    have B5 := (B4.push _).more gl rfl (by decide)
    refine bd_store B5 rfl (by rfl) (.inr (.inr (.inr ⟨_, .head _, rfl⟩))) fun h5 B6 k6 => ?_
    refine wpAny_execs_cons (bd_def B6 G1 (k1 _ _ hP0) rfl rfl rfl rfl rfl rfl rfl rfl (fun _ => rfl) fun h6 f1 c1 ctv1 doc1 tk1 B7 k7 g1 r1 fr1 cn1 cp1 => ?_)
    refine wpAny_execs_cons (bd_def B7 G1 (k1 _ _ hP0) rfl rfl rfl rfl rfl rfl rfl rfl (fun _ => rfl) fun h7 f2 c2 ctv2 doc2 tk2 B8 k8 g2 r2 fr2 cn2 cp2 => ?_)
    refine wpAny_execs_cons (bd_def B8 G1 (k1 _ _ hP0) rfl rfl rfl rfl rfl rfl rfl rfl (fun _ => rfl) fun h8 f3 c3 ctv3 doc3 tk3 B9 k9 _ _ _ _ _ => ?_)
    refine wpAny_execs_cons (bd_def B9 G1 (k1 _ _ hP0) rfl rfl rfl rfl rfl rfl rfl rfl (fun _ => rfl) fun h9 f4 c4 ctv4 doc4 tk4 B10 k10 _ _ _ _ _ => ?_)
    refine wpAny_execs_cons (bd_def B10 G1 (k1 _ _ hP0) rfl rfl rfl rfl rfl rfl rfl rfl (fun _ => rfl) fun h10 f5 c5 ctv5 doc5 tk5 B11 k11 _ _ _ _ _ => ?_)
    refine wpAny_execs_cons (bd_def B11 G1 (k1 _ _ hP0) rfl rfl rfl rfl rfl rfl rfl rfl (fun _ => rfl) fun h11 f6 c6 ctv6 doc6 tk6 B12 k12 _ _ _ _ _ => ?_)
    refine wpAny_execs_cons (wpAny_Assign_Name (wpAny_Constant_none (bd_store B12 rfl (by rfl) (.inl rfl) fun h12 B13 k13 => ?_)))
    refine wpAny_pure (wpAny_pure ?_)
    have kk := (k4.trans (fun b o n1 n2 e => k6 b o n1 n2 (Heap.get?_push_of_some _ e) : Kp2 nsA P h4 h5)).trans (k7.trans (k8.trans (k9.trans (k10.trans (k11.trans (k12.trans k13))))))
    refine ⟨h12, _, _, _, _, _, h4.objs.size, f1, f2, tk + 1 + 1, t2, rfl, B13, kk, by decide, rfl, rfl, ⟨fun y hy => ?_, rfl, rfl, rfl, rfl, rfl⟩, ?_, ?_, ?_⟩
    rotate_left 2
    · exact KFn.keep ⟨_, _, _, doc1, _, c1, ctv1, by kernel_rfl, g1, r1, B7.aln _ (.head _), B7.alP _ (.head _), cn1, cp1⟩ (k8.trans (k9.trans (k10.trans (k11.trans (k12.trans k13)))))
    · exact KFn.keep ⟨_, _, _, doc2, _, c2, ctv2, by kernel_rfl, g2, r2, B8.aln _ (.head _), B8.alP _ (.head _), cn2, cp2⟩ (k9.trans (k10.trans (k11.trans (k12.trans k13))))
    · simp only [keysK, List.mem_cons, List.not_mem_nil, or_false, not_or] at hy
      obtain ⟨a1, a2, a3, a4, a5, a6, a7, a8, a9, a10, a11, a12⟩ := hy
      simp only [m3Of, a1, a2, a3, a4, a5, a6, a7, a8, a9, a10, a11, if_false]
    · have nl := B5.aln _ (.head _)
      have pl := B5.alP _ (.head _)
      have kl := (k7.trans (k8.trans (k9.trans (k10.trans (k11.trans (k12.trans k13))))))
      exact ⟨_, kl _ _ nl pl (k6 _ _ nl pl gl), rfl, 0, rfl⟩
  · intro h' tk C N md f1 f2 nsA P ext tab cl rr fN
    have hL16 : L' ≠ 16 := by rw [hL]; exact Nat.ne_of_gt (Heap.lt_size hP0)
    refine wpAny_bind (wpAny_pure ?_)
    obtain ⟨oL, esL, epL, eL, hdL, hkL, hfL⟩ := x.toInCall.ns
    have gL := ext _ _ hL16 eL
    have nsL := (⟨oL, esL, epL, gL, hdL, hkL, hfL⟩ : h'.Ns L' _)
    refine wpAny_bind (wpAny_standAt (wpAny_bind (wpAny_bindName (wpAny_storeName_local rfl nsL (fun h2 hn2 hs2 => wpAny_pure ?_) rfl))))
    refine wpAny_execs_cons (wpAny_Return_some (wpAny_Name (wpAny_loadName_local rfl rfl hn2 rfl ?_)))
    have keep : ∀ b o, b ≠ L' → h'.get? b = some o → h2.get? b = some o := fun b o hb e => (hs2.2 b hb).trans e
    have kfn : ∀ {n clos g}, KFn w.params n clos nsA P h' g → KFn w.params n clos nsA P h2 g := by
      rintro n clos g ⟨ps, b, sc, doc, pm, c', ctv, e, ge, ⟨c2, oc, vs, t, e2, hoc, hod, hov⟩, n1, n2, n3, n4⟩
      cases e2
      refine ⟨ps, b, sc, doc, pm, c', ctv, e, keep _ _ (fun q => ?_) ge, ⟨c', oc, vs, t, rfl, keep _ _ (fun q => ?_) hoc, hod, hov⟩, n1, n2, n3, n4⟩
      · rw [q, gL] at ge; cases ge; cases hdL
      · rw [q, gL] at hoc; cases hoc; rw [hdL] at hod; cases hod
    refine hret h2 _ C N md f1 f2 (L' + 1) ?_ ?_ ?_ ⟨nsA, P, kfn rr.1, kfn rr.2⟩ ?_
    · intro b o hb e
      exact keep b o (by rw [hL]; exact Nat.ne_of_lt (Heap.lt_size e)) (ext b o hb (k1 b o e))
    · obtain ⟨ps0, e⟩ := tab
      exact ⟨ps0, keep _ _ hL16.symm e⟩
    · obtain ⟨⟨sl, a, b⟩, ⟨m, l, c, e⟩, v, fm⟩ := cl
      refine ⟨⟨sl, keep _ _ (fun q => ?_) a, b⟩, ⟨m, l, c.sameBut hs2 (fun q => ?_), e⟩, v, keep _ _ (fun q => ?_) fm⟩
      · rw [q, gL] at a; cases a; cases hdL
      · have e1 : h₁.get? L' = some oL := eL
        have e2 : h₁.get? L' = none := by rw [q] at fN; exact fN
        rw [e2] at e1; cases e1
      · rw [q, gL] at fm; cases fm; cases hdL
    · obtain ⟨oc, hoc, hod⟩ := cel
      refine ⟨oc, keep _ _ (Nat.succ_ne_self _) (ext _ _ (fun q => ?_) hoc), hod⟩
      rw [q, k1 _ _ hP0] at hoc; cases hoc; cases hod
end Mine
end Ck2
section Kc1
open PySem PySem.W PyProof.Rows PySem.Calls PySem.Spec Mine
set_option Elab.async false
set_option pp.deepTerms false
set_option pp.maxSteps 1500
set_option maxRecDepth 100000
set_option maxHeartbeats 0
namespace Mine
noncomputable abbrev kcd (C N : Addr) : ClassData := { name := "K", bases := [.type "object"], mro := [.ref C, .type "object"], ns := N, qualname := qualK, hasDict := false, slotNames := ["obj"] }
noncomputable abbrev kmd (C : Addr) (v0 : Nat) : Obj := ⟨.type "member_descriptor", none, .fields #[.str "obj" v0, .ref C, .builtin "proto.slot", .builtin "proto.slot#set", rawInt 0], #[]⟩
/-- what the library's rules ask of a class, read off a fragment -/
structure KAt (h : Heap) (C : Addr) (K : Frag) (md f1 f2 : Addr) : Prop where
  inn : K.In h
  mks : makesIn K C = true
  ini : findIn K (.ref C) "__init__" = some (some (.ref f1))
  lt : findIn K (.ref C) "__lt__" = some (some (.ref f2))
  t1 : typeIn K (.ref f1) = some (.type "function")
  t2 : isFn K (.ref f2) = true
  slot : slotIn K md C = some 0
  obj : findIn K (.ref C) "obj" = some (some (.ref md))
  pg : plainGet K C "obj" = true
  ic : isClsIn K C = true
  hn : specialIn K (.ref md) "__get__" = some (some (.builtin "member_descriptor.__get__"))
  ht : takesIn K (.ref md) = some true
  hs : findIn K (.ref C) "__setattr__" = some (some (.builtin "object.__setattr__"))
  po : plainOver K C = true
  tk : takerIn K C "obj" = some (some (.ref md))
  tm : typeIn K (.ref md) = some (.type "member_descriptor")
theorem KAt.keep {h h' : Heap} {C : Addr} {K : Frag} {md f1 f2 : Addr} (x : KAt h C K md f1 f2) (k : Kp h h') : KAt h' C K md f1 f2 := { x with inn := x.inn.keeps k }
theorem lookup_ne {a b : Addr} {o : Obj} {K : Frag} (h : a ≠ b) : List.lookup a ((b, o) :: K) = List.lookup a K := by
  simp [List.lookup, beq_eq_false_iff_ne.mpr h]
theorem lookup_eq {a : Addr} {o : Obj} {K : Frag} : List.lookup a ((a, o) :: K) = some o := by
  simp [List.lookup]
theorem lookup_mem {a : Addr} {o : Obj} : ∀ {K : Frag}, K.lookup a = some o → (a, o) ∈ K
  | [], e => by cases e
  | (b, x) :: K, e => by
    by_cases q : a = b
    · subst q; rw [lookup_eq] at e; cases e; exact .head _
    · rw [lookup_ne q] at e; exact .tail _ (lookup_mem e)
theorem typeIn_ref {K : Frag} {a : Addr} {o : Obj} (l : K.lookup a = some o) : typeIn K (.ref a) = some o.cls := by
  show (K.lookup a).map (·.cls) = _
  rw [l]; rfl
theorem fs1 : fastBuiltinOwn "object" "__getattribute__" = some (.builtin "object.__getattribute__") := by kernel_rfl
theorem fs2 : fastBuiltinOwn "object" "__getattr__" = none := by kernel_rfl
theorem fs3 : fastBuiltinOwn "object" "__setattr__" = some (.builtin "object.__setattr__") := by kernel_rfl
theorem fs4 : fastLookup "type" "__call__" = some (some (.builtin "type.__call__")) := by kernel_rfl
theorem fs5 : fastLookup "member_descriptor" "__get__" = some (some (.builtin "member_descriptor.__get__")) := by kernel_rfl
theorem fs6 : fastLookup "member_descriptor" "__set__" = some (some (.builtin "member_descriptor.__set__")) := by kernel_rfl
theorem fs7 : subIn [] (.type "type") (.type "type") = some true := by kernel_rfl
theorem kAt_of {h : Heap} {C N md f1 f2 : Addr} (x : ClsAt h C N md f1 f2) {o1 o2 : Obj} (g1 : h.get? f1 = some o1) (c1 : o1.cls = .type "function") (d1 : ∃ fd, o1.data = .func fd) (g2 : h.get? f2 = some o2) (c2 : o2.cls = .type "function") (d2 : ∃ fd, o2.data = .func fd) :
    ∃ K, KAt h C K md f1 f2 := by
  obtain ⟨⟨sl, gC, hsl⟩, ⟨m, l, ⟨oN, es, ep, gN, hd, hk, hf⟩, M⟩, v0, gM⟩ := x
  have nNC : N ≠ C := fun q => by rw [q, gC] at gN; cases gN; cases hd
  have nMC : md ≠ C := fun q => by
    rw [q, gC] at gM
    have := congrArg Obj.data (Option.some.inj gM)
    cases this
  have nMN : md ≠ N := fun q => by rw [q, gN] at gM; cases gM; cases hd
  have n1C : f1 ≠ C := fun q => by rw [q, gC] at g1; cases g1; obtain ⟨_, e⟩ := d1; cases e
  have n1N : f1 ≠ N := fun q => by rw [q, gN] at g1; cases g1; obtain ⟨_, e⟩ := d1; rw [hd] at e; cases e
  have n1M : f1 ≠ md := fun q => by rw [q, gM] at g1; cases g1; obtain ⟨_, e⟩ := d1; cases e
  have n2C : f2 ≠ C := fun q => by rw [q, gC] at g2; cases g2; obtain ⟨_, e⟩ := d2; cases e
  have n2N : f2 ≠ N := fun q => by rw [q, gN] at g2; cases g2; obtain ⟨_, e⟩ := d2; rw [hd] at e; cases e
  have n2M : f2 ≠ md := fun q => by rw [q, gM] at g2; cases g2; obtain ⟨_, e⟩ := d2; cases e
  let K : Frag := [(C, clsO (kcd C N) sl), (N, oN), (md, kmd C v0), (f1, o1), (f2, o2)]
  have lC : K.lookup C = some (clsO (kcd C N) sl) := lookup_eq
  have lN : K.lookup N = some oN := (lookup_ne nNC).trans lookup_eq
  have lM : K.lookup md = some (kmd C v0) := (lookup_ne nMC).trans ((lookup_ne nMN).trans lookup_eq)
  have l1 : K.lookup f1 = some o1 := (lookup_ne n1C).trans ((lookup_ne n1N).trans ((lookup_ne n1M).trans lookup_eq))
  have l2 : ∃ o, K.lookup f2 = some o ∧ o.cls = .type "function" := by
    by_cases q : f2 = f1
    · exact ⟨o1, q ▸ l1, c1⟩
    · exact ⟨o2, (lookup_ne n2C).trans ((lookup_ne n2N).trans ((lookup_ne n2M).trans ((lookup_ne q).trans lookup_eq))), c2⟩
  have hin : K.In h := by
    intro a o e
    have mem : (a, o) ∈ K := lookup_mem e
    simp only [K, List.mem_cons, List.not_mem_nil, or_false, Prod.mk.injEq] at mem
    rcases mem with ⟨rfl, rfl⟩ | ⟨rfl, rfl⟩ | ⟨rfl, rfl⟩ | ⟨rfl, rfl⟩ | ⟨rfl, rfl⟩ <;> assumption
  have own : ∀ y, nsIn K N y = some (m y) := by
    intro y
    obtain ⟨oc, od, odt, osl⟩ := oN
    cases hd
    unfold nsIn
    rw [lN]
    dsimp only
    rw [← hf y, nsFind, findBy, ← Array.find?_toList]
    cases hq : es.toList.find? (fun x => x.key.isStr y) with
    | some en => rfl
    | none =>
      have : es.toList.any (·.refKey) = false := by rw [Array.any_toList]; exact refKey_none hk
      simp [this]
  have fnd : ∀ y v, m y = some v → findIn K (.ref C) y = some (some v) := by
    intro y v e
    unfold findIn
    dsimp only
    rw [lC]
    show alongIn K y [.ref C, .type "object"] = _
    have q : ownIn K y (.ref C) = some (m y) := by
      unfold ownIn
      dsimp only
      rw [lC]
      exact own y
    unfold alongIn
    rw [q, e]
  have fnn : ∀ y, m y = none → findIn K (.ref C) y = some (fastBuiltinOwn "object" y) := by
    intro y e
    unfold findIn
    dsimp only
    rw [lC]
    show alongIn K y [.ref C, .type "object"] = _
    have q : ownIn K y (.ref C) = some (m y) := by
      unfold ownIn
      dsimp only
      rw [lC]
      exact own y
    unfold alongIn
    rw [q, e]
    dsimp only
    unfold alongIn ownIn
    dsimp only
    cases fastBuiltinOwn "object" y <;> rfl
  have no : ∀ y : Str, y ∉ ("obj" : Str) :: ("__doc__" : Str) :: keysK → m y = none := M.keys
  have hlt := fnd _ _ M.lt
  have hini := fnd _ _ M.init
  have hobj := fnd _ _ M.obj
  have hga := (fnn "__getattribute__" (no _ (by decide))).trans (congrArg some fs1)
  have hgt := (fnn "__getattr__" (no _ (by decide))).trans (congrArg some fs2)
  have hsa := (fnn "__setattr__" (no _ (by decide))).trans (congrArg some fs3)
  have tC : typeIn K (.ref C) = some (.type "type") := typeIn_ref lC
  have tM : typeIn K (.ref md) = some (.type "member_descriptor") := typeIn_ref lM
  have t1 : typeIn K (.ref f1) = some (.type "function") := (typeIn_ref l1).trans (congrArg some c1)
  have t2 : typeIn K (.ref f2) = some (.type "function") := let ⟨_, e, c⟩ := l2; (typeIn_ref e).trans (congrArg some c)
  have sg : specialIn K (.ref md) "__get__" = some (some (.builtin "member_descriptor.__get__")) := by unfold specialIn; rw [tM]; exact fs5
  have ss : specialIn K (.ref md) "__set__" = some (some (.builtin "member_descriptor.__set__")) := by unfold specialIn; rw [tM]; exact fs6
  have tk : takesIn K (.ref md) = some true := by unfold takesIn; rw [ss]
  have cl : clsIn K C = some (kcd C N) := by unfold clsIn; rw [lC]
  refine ⟨K, hin, ?_, hini, hlt, t1, by unfold isFn; rw [t2]; rfl, ?_, hobj, by unfold plainGet; rw [hga, hgt]; rfl, by unfold isClsIn; rw [cl]; rfl, sg, tk, hsa, ?_, by unfold takerIn; rw [hobj]; show Option.map _ (takesIn K _) = _; rw [tk]; rfl, tM⟩
  · have sc : specialIn K (.ref C) "__call__" = some (some (.builtin "type.__call__")) := by unfold specialIn; rw [tC]; exact fs4
    have si : instIn K (.ref C) (.type "type") = some true := by unfold instIn; rw [tC]; exact fs7
    unfold makesIn
    rw [lC]
    dsimp only
    rw [sc, si, Array.getElem?_toList, hsl]
    simp
  · unfold slotIn
    have rM : recIn K md "member_descriptor" = some [.str "obj" v0, .ref C, .builtin "proto.slot", .builtin "proto.slot#set", rawInt 0] := by unfold recIn; rw [lM]; rfl
    rw [rM, cl]
    simp [rawInt]
  · unfold plainOver
    rw [cl]
    rfl
end Mine
end Kc1
section Kc2
open PySem PySem.W PyProof.Rows PySem.Calls PySem.Spec Mine
set_option Elab.async false
set_option pp.deepTerms false
set_option pp.maxSteps 1500
set_option maxRecDepth 100000
set_option maxHeartbeats 0
namespace Mine
/-- an object of the class, its slot filled -/
structure KInst (h : Heap) (C x : Addr) (v : Value) : Prop where
  at_ : ∃ ox, InstAt h x ox C (some emptyDict) ∧ (ox.slots[0]?).join = some v
theorem KInst.keep {h h' : Heap} {C x : Addr} {v : Value} (i : KInst h C x v) (k : Kp h h') : KInst h' C x v := by
  obtain ⟨ox, ⟨a, b, c, d⟩, e⟩ := i
  refine ⟨ox, ⟨k _ _ a, b, c, ?_⟩, e⟩
  revert d
  cases ox.dict with
  | none => exact fun d => d
  | some dx => exact fun d => k _ _ d
theorem enterFc {prog : Program} {w : World} {A : Around} {s : Shared} {R : Result → Shared → Prop} {f : Addr} {fo : Obj} {name qual : Str} {params : Arguments} {body : List Stmt} {scope : Scope} {cl : List (Str × Addr)} {dV kV doc pm cdv ct : Value} {an : Option Addr} {pos : List Value} {kw : List (Str × Value)} {binds : List (Str × Value)}
    (hlim : s.heap.NoLimit) (ho : s.heap.get? f = some fo) (hd : fo.data = .func (fnX name qual params body scope cl dV kV doc pm an cdv ct)) (hcd : s.heap.CodeRec cdv qual) (hroom : A.depth < recursionLimit)
    (hbind : BindsTo s (fnX name qual params body scope cl dV kV doc pm an cdv ct) ⟨pos, kw⟩ binds) (hloc : ∀ y ∈ binds, scope.names.lookup y.1 = some .local)
    (h : ∀ L' h₁ m tk₁, L' = s.heap.objs.size → (∀ y, m y = binds.reverse.lookup y) → h₁.Ns L' m → Kp s.heap h₁ →
      wpAny (model prog w) (A.deeper (envX qual scope L' f cdv cl)) (execs body (envX qual scope L' f cdv cl))
        (fun fl s' => R (.ok (.ret (match fl with | .ret v => v | _ => .none))) s') No { s with heap := h₁, toks := tk₁ })
    (hcell : ∀ x ∈ scope.names, x.2 ≠ .cell) (hco : scope.isCoroutine = false := by rfl) (hgen : scope.isGenerator = false := by rfl) (hk : scope.kind = .function := by rfl) :
    codeAny (model prog w) A (.call (.ref f) ⟨pos, kw⟩) R s := by
  refine codeAny_call_def (fd := fnX name qual params body scope cl dV kV doc pm an cdv ct) (body := body) (binds := binds) hroom ho hd hlim hcd rfl hbind hcell hloc (fun h₁ hns hk₁ => ?_) hco hgen hk
  refine wpAny_mono (h _ h₁ _ _ rfl (fun _ => rfl) hns hk₁) (fun fl s' q => q) fun _ _ x => x.elim
theorem k_make {w : World} {A : Around} {s : Shared} {E Q : Value → Shared → Prop} {K : Frag} {C md f1 f2 nsA P : Addr} {v : Value} (Y : KAt s.heap C K md f1 f2) (I : KFn w.params "__init__" [] nsA P s.heap f1) (hlim : s.heap.NoLimit) (hd : A.depth + 1 < recursionLimit)
    (h : ∀ h' tk x, Kp s.heap h' → s.heap.get? x = none → KInst h' C x v → Q (.ref x) { s with heap := h', toks := tk }) :
    wpAny (model PySem.Challenge.rw_op0082_01.row.prog w) A (call (.ref C) [v]) Q E s := by
  obtain ⟨hp, g, d, t, os⟩ := s
  obtain ⟨ps, b, sc, doc, pm, c', ctv, e, g1, rec, n1, n2, n3, n4⟩ := I
  have e1 : kFn w.params "__init__" = some (?a, ?b, ?c) := by
    k_fill
    with_unfolding_all rfl
  rw [e1] at e
  cases e
  dsimp only at g1 rec hlim Y
  refine wpAny_call (make_core (makes_of Y.inn Y.mks) (looks_findIn Y.inn Y.ini) (fun self => bind_fn Y.inn self Y.t1) (.inl rfl) ?_)
  have kp : Kp hp ((hp.push emptyDict).push (instObj C hp.objs.size)) := fun _ _ e => Heap.get?_push_of_some _ (Heap.get?_push_of_some _ e)
  have gx : ((hp.push emptyDict).push (instObj C hp.objs.size)).get? (hp.objs.size + 1) = some (instObj C hp.objs.size) := by
    have := Heap.get?_push_size (hp.push emptyDict) (o := instObj C hp.objs.size) rfl
    rwa [Heap.size_push] at this
  have gd : ((hp.push emptyDict).push (instObj C hp.objs.size)).get? hp.objs.size = some emptyDict := Heap.get?_push_of_some _ (Heap.get?_push_size _ rfl)
  have sz : hp.objs.size ≤ ((hp.push emptyDict).push (instObj C hp.objs.size)).objs.size := by
    rw [Heap.size_push, Heap.size_push]
    exact Nat.le_trans (Nat.le_succ _) (Nat.le_succ _)
  have ne1 : hp.objs.size + 1 ≠ ((hp.push emptyDict).push (instObj C hp.objs.size)).objs.size := by
    rw [Heap.size_push, Heap.size_push]; exact Nat.ne_of_lt (Nat.lt_succ_self _)
  have ne0 : hp.objs.size ≠ ((hp.push emptyDict).push (instObj C hp.objs.size)).objs.size := by
    rw [Heap.size_push, Heap.size_push]; exact Nat.ne_of_lt (Nat.lt_trans (Nat.lt_succ_self _) (Nat.lt_succ_self _))
  revert kp gx gd sz ne1 ne0
  generalize ((hp.push emptyDict).push (instObj C hp.objs.size)) = hq
  intro kp gx gd sz ne1 ne0
  refine enterFc (s := ⟨hq, g, d, t, os⟩) (hlim.keeps kp) (kp _ _ g1) rfl (rec.keeps kp) ?_ (BindsTo.of_eq rfl) (locs rfl) (fun L' h₁ m tk₁ hL hm hns hk₁ => ?_) (by decide)
  · show A.depth + 1 < _; exact hd
  subst hL
  dsimp only at hns hk₁
  have F : Fr hp hq.objs.size h₁ _ := ⟨hns, fun b o e => hk₁ b o (kp b o e), sz⟩
  have N : News hp hq.objs.size h₁ [(hp.objs.size + 1, instObj C hp.objs.size), (hp.objs.size, emptyDict)] := by
    intro p hp'
    simp only [List.mem_cons, List.not_mem_nil, or_false] at hp'
    rcases hp' with rfl | rfl
    · exact ⟨hk₁ _ _ gx, ne1, Heap.get?_none_of_le (Nat.le_succ _)⟩
    · exact ⟨hk₁ _ _ gd, ne0, Heap.get?_none_of_le (Nat.le_refl _)⟩
  have hm1 : m (Str.ofString "self") = some (.ref (hp.objs.size + 1)) := hm _
  have hm2 : m (Str.ofString "obj") = some v := hm _
  rw [map2 hm1 hm2] at F
  clear hm hm1 hm2 hns
  refine wpAny_execs_cons (plainObj_wpAny_Assign_Attribute (hs := ?_) (nameX_L (s := ⟨h₁, g, d, tk₁, os⟩) F rfl (nameX_L (s := ⟨h₁, g, d, tk₁, os⟩) F rfl ?_)))
  rotate_left
  · with_unfolding_all rfl
  have I1 : InstAt h₁ (hp.objs.size + 1) (instObj C hp.objs.size) C (some emptyDict) := ⟨(N _ (.head _)).1, rfl, rfl, (N _ (.tail _ (.head _))).1⟩
  refine set_slot (s := ⟨h₁, g, d, tk₁, os⟩) F Y.inn N I1 Y.hs Y.po Y.tk Y.tm Y.slot (by decide) rfl rfl (.head (fun p hp' => ?_)) fun h₂ F2 N2 => ?_
  · rw [List.mem_singleton.mp hp']; exact Nat.ne_of_lt (Nat.lt_succ_self _)
  refine wpAny_pure ⟨rfl, ?_⟩
  refine h h₂ _ (hp.objs.size + 1) F2.keep (Heap.get?_none_of_le (Nat.le_succ _)) ⟨_, ⟨(N2 _ (.head _)).1, rfl, rfl, (N2 _ (.tail _ (.head _))).1⟩, rfl⟩
end Mine
end Kc2
section Kc3
open PySem PySem.W PyProof.Rows PySem.Calls PySem.Spec Mine
set_option Elab.async false
set_option pp.deepTerms false
set_option pp.maxSteps 1500
set_option maxRecDepth 100000
set_option maxHeartbeats 0
namespace Mine
theorem resetKc3 : True := by
  w_top off
  trivial
structure Ok (A : Around) (n u : Nat) : Prop where
  hh : A.handled = none
  hd : A.depth + n < recursionLimit
  hu : A.units + u < cLine
theorem Ok.in1 {A : Around} {n u : Nat} (o : Ok A n (u + 1)) : Ok A.in1 n u := ⟨o.hh, o.hd, by have := o.hu; show A.units + 1 + u < _; omega⟩
theorem Ok.deeper {A : Around} {n u : Nat} {env : Env} (o : Ok A (n + 1) (u + 3)) : Ok (A.deeper env) n u := ⟨o.hh, by have := o.hd; show A.depth + 1 + n < _; omega, by have := o.hu; show A.units + 3 + u < _; omega⟩
theorem Ok.le {A : Around} {n u n' u' : Nat} (o : Ok A n u) (h1 : n' ≤ n) (h2 : u' ≤ u) : Ok A n' u' := ⟨o.hh, by have := o.hd; omega, by have := o.hu; omega⟩
/-- a call's contract: what stood stands, an int comes back -/
noncomputable def CmpAt (w : World) (g : Addr) (n u : Nat) (v1 v2 : Value) (z : Int) (h : Heap) : Prop :=
  ∀ (A : Around) (s : Shared) (Q E : Value → Shared → Prop), Ok A n u → Kp h s.heap → (∀ h' tk t, Kp s.heap h' → Q (.int z t) { s with heap := h', toks := tk }) → wpAny (model PySem.Challenge.rw_op0082_01.row.prog w) A (call (.ref g) [v1, v2]) Q E s
theorem k_lt {w : World} {A : Around} {s : Shared} {E Q : Value → Shared → Prop} {K : Frag} {C md f1 f2 nsA P x y g cell : Addr} {v1 v2 : Value} {z : Int} {n u : Nat} (Y : KAt s.heap C K md f1 f2) (I : KFn w.params "__lt__" [(Str.ofString "mycmp", cell)] nsA P s.heap f2)
    (hc : s.heap.IsCell cell (some (.ref g))) (hg : FnAt g s.heap) (hlim : s.heap.NoLimit) (o : Ok A (n + 1) (u + 3)) (i1 : KInst s.heap C x v1) (i2 : KInst s.heap C y v2) (d1 : handedIn v1 = true) (d2 : handedIn v2 = true)
    (cmp : CmpAt w g n u v1 v2 z s.heap) (h : ∀ h' tk, Kp s.heap h' → Q (.bool (decide (z < 0))) { s with heap := h', toks := tk }) :
    wpAny (model PySem.Challenge.rw_op0082_01.row.prog w) A (call (.ref f2) [.ref x, .ref y]) Q E s := by
  obtain ⟨ps, b, sc, doc, pm, c', ctv, e, g1, rec, n1, n2, n3, n4⟩ := I
  have e1 : kFn w.params "__lt__" = some (?a, ?b, ?c) := by
    k_fill
    with_unfolding_all rfl
  rw [e1] at e
  cases e
  refine enterF hlim g1 rfl rec (by have := o.hd; omega) (BindsTo.of_eq rfl) (locs rfl) (fun L' h₁ m tk₁ hL hm F N => ?_) (by decide)
  have hm1 : m (Str.ofString "self") = some (.ref x) := hm _
  have hm2 : m (Str.ofString "other") = some (.ref y) := hm _
  rw [map2 hm1 hm2] at F
  clear hm hm1 hm2
  have k1 : Kp s.heap h₁ := F.keep
  have hc1 : h₁.IsCell cell (some (.ref g)) := let ⟨oc, a, b⟩ := hc; ⟨oc, k1 _ _ a, b⟩
  obtain ⟨ox, I1, s1⟩ := (i1.keep k1).at_
  obtain ⟨oy, I2, s2⟩ := (i2.keep k1).at_
  have hg1 : FnAt g h₁ := let ⟨a, b, c, d, e⟩ := hg; ⟨a, b, c, d, k1 _ _ e⟩
  refine wpAny_execs_cons (wpAny_Return_some (wpAny_Compare1 (Call_ (wpAny_Name (wpAny_loadName_free rfl rfl rfl hc1 ?_)))))
  refine callWith_F hg1 (spliced_more (Attribute_name (nameX_L F rfl (get_slot F Y.inn I1 Y.pg Y.ic Y.obj Y.hn Y.ht Y.slot s1 d1 ?_))))
  refine (spliced_more (Attribute_name (nameX_L (s := { s with heap := h₁, toks := tk₁ + 1 }) F rfl (get_slot (s := { s with heap := h₁, toks := tk₁ + 1 }) F Y.inn I2 Y.pg Y.ic Y.obj Y.hn Y.ht Y.slot s2 d2 ?_))))
  refine spliced_none ⟨hg1, ?_⟩
  refine cmp _ _ _ _ o.deeper k1 fun h2 tk2 t k2 => ?_
  refine wpAny_Constant_int ?_
  k_steps
  exact h _ _ (k1.trans k2)
end Mine
end Kc3
section Lc1
open PySem PySem.W PyProof.Rows PySem.Calls PySem.Spec Mine
set_option Elab.async false
set_option pp.deepTerms false
set_option pp.maxSteps 1500
set_option maxRecDepth 100000
set_option maxHeartbeats 0
namespace Mine
noncomputable def gFn (Pm : Params) : Option (Arguments × List Stmt × Scope) := defNamed "_law_compared" (stmtsOf ((hd82.heap_39 Pm).lookup 105))
noncomputable def GFn (Pm : Params) (clos : List (Str × Addr)) (h : Heap) (f : Addr) : Prop :=
  ∃ params body scope qual doc pm c' ctv, gFn Pm = some (params, body, scope) ∧ h.get? f = some (fnMade "_law_compared" qual params body scope clos doc pm c' ctv) ∧ h.CodeRec (.ref c') qual
theorem GFn.keep {Pm : Params} {clos : List (Str × Addr)} {h h' : Heap} {f : Addr} (x : GFn Pm clos h f) (k : Kp h h') : GFn Pm clos h' f := by
  obtain ⟨ps, b, sc, q, doc, pm, c', ctv, e, g, r⟩ := x
  exact ⟨ps, b, sc, q, doc, pm, c', ctv, e, k _ _ g, r.keeps k⟩
theorem GFn.at {Pm : Params} {clos : List (Str × Addr)} {h : Heap} {f : Addr} (x : GFn Pm clos h f) : FnAt f h := by
  obtain ⟨ps, b, sc, q, doc, pm, c', ctv, e, g, r⟩ := x
  exact ⟨_, _, _, _, g⟩
theorem push_all {Qp : Heap → Prop} {h2 : Heap} {o : Obj} (hf : o.isFreed = false) (H : ∀ h', Kp h2 h' → h'.get? h2.objs.size = some o → Qp h') : Qp (h2.push o) :=
  H _ (fun _ _ e => Heap.get?_push_of_some _ e) (Heap.get?_push_size _ hf)
theorem lc_spec {w : World} {s : Shared} {E Q : Value → Shared → Prop} {p : Program} {loose : List Str} {mean : ExcName → Option Value} {mg mb : Str → Option Value} {dp un : Nat} {fr : Option (List Env)} {gd : Option (List Code)} {R Pl : Addr}
    (X : (hd82.heap_39 w.params).In s.heap) (T : Top p loose mean mg mb s.heap) (C : CodeHd s.heap 104 100) (hP0 : s.heap.get? 100 = some (tabObj #[])) (hdp : dp + 4 < recursionLimit)
    (hret : ∀ h' tk g cr cp, (∀ b o, b ≠ 100 → s.heap.get? b = some o → h'.get? b = some o) → (∃ ps0, h'.get? 100 = some (tabObj ps0)) → GFn w.params [(Str.ofString "rows", cr), (Str.ofString "places", cp)] h' g → h'.IsCell cr (some (.ref R)) → h'.IsCell cp (some (.ref Pl)) →
      Q (.ref g) { s with heap := h', toks := tk }) :
    wpAny (model PySem.Challenge.rw_op0082_01.row.prog w) ⟨none, dp, fr, gd, un⟩ (call (.ref 105) [.ref R, .ref Pl]) Q E s := by
  revert X; k_fill; intro X
  refine enterC (binds := [(Str.ofString "rows", .ref R), (Str.ofString "places", .ref Pl)]) T.nolimit (X 105 _ (by k_is)) (by exact rfl) (codeRec_of X (by k_is)) (by show dp < _; omega) (BindsTo.of_eq rfl) (fun n x hx => by
    simp only [List.mem_cons, List.not_mem_nil, or_false] at hx
    rcases hx with rfl | rfl <;> exact .inr ⟨rfl, rfl⟩) ?_
  intro L' h₁ tk₁ hL x
  have k1 : Kp s.heap h₁ := x.toInCall.keep
  have cel1 := x.cell "rows" (L' + 1) rfl
  have cel2 := x.cell "places" (L' + 2) rfl
  have T1 := T.keeps k1
  have G1 : Glb h₁ mg := ⟨T1.g, T1.bmain⟩
  have tp := k1 _ _ hP0
  refine wpAny_execs_cons (nestDef_K rfl rfl rfl (makeFunction_K (mg := mg) rfl rfl G1.g rfl (C.keeps k1) tp trivial rfl (G1.neP tp) (G1.at tp) fun c' ctv doc h2 tk hx hge hlt hrec htb => ?_))
  obtain ⟨oL, esL, epL, eL, hdL, hkL, hfL⟩ := x.toInCall.ns
  have nL : L' ≠ 100 := by rw [hL]; exact Nat.ne_of_gt (Heap.lt_size hP0)
  have hfLt : L' < h2.objs.size := Nat.lt_of_lt_of_le (Heap.lt_size eL) (Nat.le_trans hge (Nat.le_of_lt hlt))
  refine push_all (Qp := fun hh => wpAny _ _ _ _ _ ⟨hh, _, _, _, _⟩) rfl fun hq kq gf => ?_
  have k2 : ∀ b o, b ≠ 100 → h₁.get? b = some o → hq.get? b = some o := fun b o hb e => kq _ _ (hx b o hb e)
  have gL := k2 _ _ nL eL
  have nsL := (⟨oL, esL, epL, gL, hdL, hkL, hfL⟩ : hq.Ns L' _)
  have tb := kq _ _ htb
  obtain ⟨c3, oc, vs, tt, e3, hoc, hdc, hvc⟩ := hrec
  cases e3
  have goc := kq _ _ hoc
  refine wpAny_storeName_local rfl nsL (fun h3 hn3 hs3 => ?_) rfl
  refine wpAny_execs_cons (wpAny_Return_some (wpAny_Name (wpAny_loadName_local rfl rfl hn3 rfl ?_)))
  have keep : ∀ b o, b ≠ L' → hq.get? b = some o → h3.get? b = some o := fun b o hb e => (hs3.2 b hb).trans e
  refine hret h3 _ _ (L' + 1) (L' + 2) ?_ ⟨_, keep _ _ nL.symm tb⟩ ⟨_, _, _, _, _, _, c', ctv, ?_, keep _ _ (Nat.ne_of_gt hfLt) gf, c', oc, vs, tt, rfl, keep _ _ (fun q => ?_) goc, hdc, hvc⟩ ?_ ?_
  · intro b o hb e
    exact keep b o (by rw [hL]; exact Nat.ne_of_lt (Heap.lt_size e)) (k2 b o hb (k1 b o e))
  · kernel_rfl
  · rw [q, gL] at goc; cases goc; rw [hdL] at hdc; cases hdc
  · obtain ⟨oc, hoc, hod⟩ := cel1
    refine ⟨oc, keep _ _ (Nat.succ_ne_self _) (k2 _ _ (fun q => ?_) hoc), hod⟩
    rw [q, tp] at hoc; cases hoc; cases hod
  · obtain ⟨oc, hoc, hod⟩ := cel2
    refine ⟨oc, keep _ _ (Nat.ne_of_gt (Nat.lt_trans (Nat.lt_succ_self _) (Nat.lt_succ_self _))) (k2 _ _ (fun q => ?_) hoc), hod⟩
    rw [q, tp] at hoc; cases hoc; cases hod
end Mine
end Lc1
section Lc2
open PySem PySem.W PyProof.Rows PySem.Calls PySem.Spec Mine
set_option Elab.async false
set_option pp.deepTerms false
set_option pp.maxSteps 1500
set_option maxRecDepth 100000
set_option maxHeartbeats 8000000
namespace Mine
theorem resetLc2 : True := by
  w_top off
  trivial
noncomputable def hasR (row : Str) (p : Int) : Bool := !(Builtin.Str.occurrences (Str.ofString "rwxst") (Txt.item row p) 0 (Str.ofString "rwxst").length 1).isEmpty
noncomputable def cmpGo (r1 r2 : Str) : List Int → Int → Int
  | [], _ => 0
  | p :: ps, t => if hasR r1 p = hasR r2 p then cmpGo r1 r2 ps (if hasR r1 p then -t else t) else if hasR r1 p then t * p else -t * p
section
variable {prog : Program} {w : World} {A : Around} {M : Model} {s : Shared} {h₀ : Heap} {L : Addr} {m : Str → Option Value} {E : Value → Shared → Prop} {Q : Value → Shared → Prop}
theorem name_free_F {cn : Str} {cs : Scope} {a : Addr} {ccd : Value} {cl : List (Str × Addr)} {x : Str} {pos : Pos} {c : Addr} {v : Value} (F : Fr h₀ L s.heap m) (hv : h₀.IsCell c (some v)) (h : Q v s)
    (hc : cl.lookup x = some c) (hk : cs.kind = .function := by rfl) (hx : (envX cn cs L a ccd cl).kindOf x = some .free := by rfl) (hb : (x == ("__debug__" : Str)) = false := by decide) (hn : (x == ("__classdict__" : Str)) = false := by decide) :
    wpAny M A (eval (.Name x pos) (envX cn cs L a ccd cl)) Q E s :=
  wpAny_Name (wpAny_loadName_free hk hx hc (let ⟨o, a, b⟩ := hv; ⟨o, F.keep _ _ a, b⟩) h hn) hb
theorem item_F {value slice : Expr} {R : Addr} {vs : List Value} {i : Int} {u : Tok} {v : Value} (F : Fr h₀ L s.heap m) (hl : h₀.IsList R vs.toArray) (h0 : 0 ≤ i) (hf : i < 2 ^ 63) (hx : vs[i.toNat]? = some v) (h : Q v s)
    (hs : subscripted slice false (.ref R) (.int i u) = operate [.ref R, .int i u] (getItem (.ref R) (.int i u)) := by with_unfolding_all rfl) :
    wpAny (model prog w) A (subscriptTail value slice (.ref R) (.int i u)) Q E s := by
  obtain ⟨lo, hg, hc, n, hd⟩ := hl
  have hls : s.heap.IsList R vs.toArray := ⟨lo, F.keep _ _ hg, hc, n, hd⟩
  exact tail_any hls.typeIs slot_list_getitem.lookup (wpAny_getItem_list hls h0 hf (by simpa using hx) h) hs
end
theorem cmpGo_drop {r1 r2 : Str} {ps : List Int} {q : Nat} {pz tu : Int} (h : ps[q]? = some pz) :
    (((hasR r1 pz) != hasR r2 pz) = true → (Builtin.Str.occurrences (Str.ofString "rwxst") (Txt.item r1 pz) 0 (Str.ofString "rwxst").length 1).isEmpty = false → cmpGo r1 r2 (ps.drop q) tu = tu * pz) ∧
    (((hasR r1 pz) != hasR r2 pz) = true → (Builtin.Str.occurrences (Str.ofString "rwxst") (Txt.item r1 pz) 0 (Str.ofString "rwxst").length 1).isEmpty = true → cmpGo r1 r2 (ps.drop q) tu = -tu * pz) ∧
    (((hasR r1 pz) != hasR r2 pz) = false → (Builtin.Str.occurrences (Str.ofString "rwxst") (Txt.item r1 pz) 0 (Str.ofString "rwxst").length 1).isEmpty = false → cmpGo r1 r2 (ps.drop q) tu = cmpGo r1 r2 (ps.drop (q + 1)) (-tu)) ∧
    (((hasR r1 pz) != hasR r2 pz) = false → (Builtin.Str.occurrences (Str.ofString "rwxst") (Txt.item r1 pz) 0 (Str.ofString "rwxst").length 1).isEmpty = true → cmpGo r1 r2 (ps.drop q) tu = cmpGo r1 r2 (ps.drop (q + 1)) tu) := by
  obtain ⟨hq, e⟩ := List.getElem?_eq_some_iff.mp h
  have eh : ∀ b, (Builtin.Str.occurrences (Str.ofString "rwxst") (Txt.item r1 pz) 0 (Str.ofString "rwxst").length 1).isEmpty = b → hasR r1 pz = !b := fun b hb => by unfold hasR; rw [hb]
  rw [List.drop_eq_getElem_cons hq, e]
  refine ⟨fun a b => ?_, fun a b => ?_, fun a b => ?_, fun a b => ?_⟩ <;> (rw [eh _ b] at a; show (if hasR r1 pz = hasR r2 pz then cmpGo r1 r2 (ps.drop (q + 1)) (if hasR r1 pz then -tu else tu) else if hasR r1 pz then tu * pz else -tu * pz) = _; rw [eh _ b]; revert a; cases hasR r2 pz <;> simp)
theorem ints_get : ∀ {vs : List Value} {ns : List Int} {i : Nat} {v : Value}, IntsAre vs ns → vs[i]? = some v → ∃ n t, v = .int n t ∧ ns[i]? = some n
  | _, _, 0, _, .cons n t h, e => by cases e; exact ⟨n, t, rfl, rfl⟩
  | _, _, i + 1, _, .cons n t h, e => by
    rw [List.getElem?_cons_succ] at e
    obtain ⟨n', t', e1, e2⟩ := ints_get h e
    exact ⟨n', t', e1, by rw [List.getElem?_cons_succ]; exact e2⟩
  | _, _, _, _, .nil, e => by simp at e
theorem stay_rows {M : Model} {A : Around} {env : Env} {pos : Pos} {Q : Value → Shared → Prop} {E : Value → Shared → Prop} {s : Shared} (h : wpAny M A (stay (eval (.Name (PySem.Str.ofString "rows") pos) env)) Q E s) : wpAny M A (eval (.Name (PySem.Str.ofString "rows") pos) env) Q E s := h
theorem stay_places {M : Model} {A : Around} {env : Env} {pos : Pos} {Q : Value → Shared → Prop} {E : Value → Shared → Prop} {s : Shared} (h : wpAny M A (stay (eval (.Name (PySem.Str.ofString "places") pos) env)) Q E s) : wpAny M A (eval (.Name (PySem.Str.ofString "places") pos) env) Q E s := h
local macro_rules | `(tactic| walk_at "pyIter ref") => `(tactic| refine stay_out ?_)
local macro_rules | `(tactic| walk_at "eval Name") => `(tactic| refine stay_rows ?_)
local macro_rules | `(tactic| walk_at "eval Name") => `(tactic| refine stay_places ?_)
local macro_rules | `(tactic| walk_at "exec For Name Name cons nil") => `(tactic| refine for_name ?_)
local macro_rules | `(tactic| walk_at "subscriptTail Name Name ref int") => `(tactic| refine stay_out ?_)
local macro_rules | `(tactic| walk_at "subscriptTail Subscript Name Name Name str int") => `(tactic| refine stay_out ?_)
local macro_rules | `(tactic| walk_at "subscriptTail Subscript") => `(tactic| refine stay_out ?_)
theorem lc_cmp {w : World} {p : Program} {loose : List Str} {mean : ExcName → Option Value} {mg mb : Str → Option Value} {h : Heap} {g cr cp R Pl : Addr} {rvs pvs : List Value} {ps : List Int} {i j : Int} {t1 t2 u1 u2 : Tok} {r1 r2 : Str}
    (X : (hd82.heap_39 w.params).In h) (T : Top p loose mean mg mb h) (G : GFn w.params [(Str.ofString "rows", cr), (Str.ofString "places", cp)] h g) (hlim : h.NoLimit) (c1 : h.IsCell cr (some (.ref R))) (c2 : h.IsCell cp (some (.ref Pl))) (lR : h.IsList R rvs.toArray) (lP : h.IsList Pl pvs.toArray) (iP : IntsAre pvs ps)
    (hps : ∀ p ∈ ps, 0 ≤ p ∧ p < 10) (hi : 0 ≤ i ∧ i < 64) (hj : 0 ≤ j ∧ j < 64) (e1 : rvs[i.toNat]? = some (.str r1 u1)) (e2 : rvs[j.toNat]? = some (.str r2 u2)) (l1 : r1.length = 10) (l2 : r2.length = 10) :
    CmpAt w g 1 9 (.int i t1) (.int j t2) (cmpGo r1 r2 ps 1) h := by
  intro A s Q E o k hret0
  obtain ⟨hi0, hi1⟩ := hi
  obtain ⟨hj0, hj1⟩ := hj
  obtain ⟨params, b, sc, qual, doc, pm, c', ctv, e, g1, rec⟩ := G
  have e0 : gFn w.params = some (?a, ?b, ?c) := by
    k_fill
    with_unfolding_all rfl
  rw [e0] at e
  cases e
  obtain ⟨ah, ad, af, ag, au⟩ := A
  obtain rfl : ah = none := o.hh
  refine enterF (hlim.keeps k) (k _ _ g1) rfl (rec.keeps k) (by have := o.hd; dsimp only at this ⊢; omega) (BindsTo.of_eq rfl) (locs rfl) (fun L' h₁ m tk₁ hL hm F N => ?_) (by decide)
  have hm1 : m (Str.ofString "one") = some (.int i t1) := hm _
  have hm2 : m (Str.ofString "other") = some (.int j t2) := hm _
  rw [map2 hm1 hm2] at F
  clear hm hm1 hm2
  have kc : ∀ {c v}, h.IsCell c v → s.heap.IsCell c v := fun ⟨o, a, b⟩ => ⟨o, k _ _ a, b⟩
  have kl : ∀ {c v}, h.IsList c v → s.heap.IsList c v := fun ⟨o, a, b⟩ => ⟨o, k _ _ a, b⟩
  replace X := X.keeps k
  replace T := T.keeps k
  revert X; k_fill; intro X
  replace c1 := kc c1
  replace c2 := kc c2
  replace lR := kl lR
  replace lP := kl lP
  clear kc kl e0 g1 rec
  k_steps
  refine name_free_F (by assumption) c2 ?_ (by rfl)
  k_steps
  rename Fr _ _ _ _ => F2
  rename News _ _ _ _ => N2
  refine for_list rfl lP F2 N2 (fun q m news => m (Str.ofString "one") = some (.int i t1) ∧ m (Str.ofString "other") = some (.int j t2) ∧ (∃ tu tt, m (Str.ofString "turn") = some (.int tu tt) ∧ (tu = 1 ∨ tu = -1) ∧ cmpGo r1 r2 ps 1 = cmpGo r1 r2 (ps.drop q) tu) ∧ news = []) ?_ ?_ ?_
  · exact ⟨rfl, rfl, ⟨1, _, rfl, .inl rfl, rfl⟩, rfl⟩
  · rintro q v m₁ news₁ h₂ tk₂ I io hv ⟨hm1, hm2, ⟨tu, tt, hm3, htu, hgo⟩, rfl⟩ hoff hltI F3 N3
    replace F3 : Fr s.heap L' h₂ m₁ := F3
    replace N3 : News s.heap L' h₂ [(I, io)] := N3
    rw [map3 hm1 hm2 hm3] at F3
    obtain ⟨pz, pt, rfl, hpz⟩ := ints_get iP hv
    obtain ⟨hp0, hp9⟩ := hps pz (List.mem_of_getElem? hpz)
    refine assign_name rfl rfl F3 N3 ?_
    clear F3 N3 F2 N2 hm1 hm2 hm3
    intro h₃ tk₃ F4 N4
    have st := cmpGo_drop (r1 := r1) (r2 := r2) (tu := tu) hpz
    rw [← hgo] at st
    clear hgo
    k_steps
    refine name_free_F (by assumption) c1 ?_ (by rfl)
    k_steps
    refine item_F (by assumption) lR hi0 (by omega) e1 ?_
    k_steps
    refine item_str (fitsSsize_of (N := 9223372036854775808) (by omega) (by omega) (Int.le_refl _)) (by omega) (by omega) ?_
    intro _
    k_steps
    refine name_free_F (by assumption) c1 ?_ (by rfl)
    k_steps
    refine item_F (by assumption) lR hj0 (by omega) e2 ?_
    k_steps
    refine item_str (fitsSsize_of (N := 9223372036854775808) (by omega) (by omega) (Int.le_refl _)) (by omega) (by omega) ?_
    intro _
    k_steps
    all_goals (rename Fr _ _ _ _ => F9; rename News _ _ _ _ => N9; rename (_ != _) = _ => b9; rename List.isEmpty _ = _ => b8; dsimp only [TurnPost])
    all_goals first
      | (rw [← st.1 b9 b8]; exact hret0 _ _ _ F9.keep)
      | (rw [← st.2.1 b9 b8]; exact hret0 _ _ _ F9.keep)
      | exact LE.intro F9 N9 (fun p hp => hp) (fun p hp => nomatch hp) ⟨rfl, rfl, ⟨_, _, rfl, htu, st.2.2.2 b9 b8⟩, rfl⟩
      | exact LE.intro F9 N9 (fun p hp => hp) (fun p hp => nomatch hp) ⟨rfl, rfl, ⟨_, _, rfl, by omega, st.2.2.1 b9 b8⟩, rfl⟩
  · rintro h₂ tk₂ m₂ news₂ F5 N5 ⟨hm1, hm2, ⟨tu, tt, hm3, htu, hgo⟩, rfl⟩
    replace F5 : Fr s.heap L' h₂ m₂ := F5
    replace N5 : News s.heap L' h₂ [] := N5
    rw [List.drop_of_length_le (by rw [iP.length]; exact Nat.le_refl _)] at hgo
    have hgo' : cmpGo r1 r2 ps 1 = 0 := hgo
    clear hgo F2 N2
    k_steps
    rw [← hgo']
    exact hret0 _ _ _ F5.keep
end Mine
end Lc2
section So0
open PySem PySem.W PyProof.Rows
set_option Elab.async false
set_option maxRecDepth 100000
namespace Mine
noncomputable def gt (p : Array Nat) (i : Nat) : Nat := p.getD i 0
theorem gt_eq {p q : Array Nat} {i j : Nat} (h : p[i]? = q[j]?) : gt p i = gt q j := by
  have e : ∀ (p : Array Nat) (i : Nat), gt p i = (p[i]?).getD 0 := fun p i => by
    unfold gt
    rw [Array.getD_eq_getD_getElem?]
  rw [e, e, h]
theorem gt_rev {p : Array Nat} {i j : Nat} (hj : j ≤ p.size) (k : Nat) : gt (kas_rev p i j) k = if i ≤ k ∧ k < j then gt p (i + j - 1 - k) else gt p k := by
  have h := getElem?_mirror_all (i := i) hj k
  split
  · rename_i q; rw [if_pos q] at h; exact gt_eq h
  · rename_i q; rw [if_neg q] at h; exact gt_eq h
theorem gt_bub {p : Array Nat} {s d : Nat} (hs : s < p.size) (hd : d ≤ s) (k : Nat) : gt (bubble p s d) k = if k = s - d then gt p s else if s - d < k ∧ k ≤ s then gt p (k - 1) else gt p k := by
  have h := getElem?_bubble hs d hd k
  split
  · rename_i q; rw [if_pos q] at h; exact gt_eq h
  · rename_i q
    rw [if_neg q] at h
    split
    · rename_i q2; rw [if_pos q2] at h; exact gt_eq h
    · rename_i q2; rw [if_neg q2] at h; exact gt_eq h
noncomputable def Lx (rk : Nat → Nat) (a b : Nat) : Prop := rk a < rk b ∨ (rk a = rk b ∧ a < b)
structure Tl (n : Nat) (p : Array Nat) (m : Nat) : Prop where
  sz : p.size = n
  pm : p.toList.Perm (List.range n)
  lo : ∀ i, i < m → gt p i < m
  hi : ∀ k, m ≤ k → k < n → gt p k = k
theorem lteq {a b c : Nat} (e : a = b) (h : b < c) : a < c := e ▸ h
theorem midL {l r : Nat} (h : ¬l ≥ r) : l ≤ (l + r) / 2 := by omega
theorem midR {l r : Nat} (h : ¬l ≥ r) : (l + r) / 2 < r := by omega
theorem lf {m f n : Nat} (h : m + (f + 1) ≤ n) : m < n := Nat.lt_of_lt_of_le (Nat.lt_add_of_pos_right (Nat.succ_pos f)) h
theorem ls (m f : Nat) : m + 1 + f = m + (f + 1) := by rw [Nat.add_assoc, Nat.add_comm 1]
theorem lg {m f n : Nat} (h : m + (f + 1) ≤ n) : m + 1 + f ≤ n := Nat.le_trans (Nat.le_of_eq (ls m f)) h
theorem lp {m : Nat} (h : 1 ≤ m) : m - 1 < m := Nat.sub_lt h Nat.one_pos
theorem l0 {i m : Nat} (h : i < m) : 1 ≤ m := Nat.lt_of_le_of_lt (Nat.zero_le _) h
theorem eqm {i m : Nat} (a : i < m + 1) (b : ¬i < m) : i = m := Nat.le_antisymm (Nat.le_of_lt_succ a) (Nat.not_lt.mp b)
theorem ltm {i j : Nat} (a : i < j) (b : i ≠ j - 1) : i < j - 1 := Nat.lt_of_le_of_ne (Nat.le_sub_one_of_lt a) b
theorem mir_eq {i j k : Nat} (b : k < j) : i + j - 1 - k = i + (j - 1 - k) := by rw [Nat.add_sub_assoc (l0 b), Nat.add_sub_assoc (Nat.le_sub_one_of_lt b)]
theorem mir_le {i j k : Nat} (b : k < j) : i ≤ i + j - 1 - k := by rw [mir_eq b]; exact Nat.le_add_right _ _
theorem mir_lt {i j k : Nat} (a : i ≤ k) (b : k < j) : i + j - 1 - k < j := by
  rw [mir_eq b]
  exact Nat.lt_of_le_of_lt (Nat.add_le_add_right a _) (by rw [Nat.add_sub_of_le (Nat.le_sub_one_of_lt b)]; exact lp (l0 b))
theorem mir_anti {i j k l : Nat} (ab : k < l) (b : l < j) : i + j - 1 - l < i + j - 1 - k := by
  rw [mir_eq b, mir_eq (Nat.lt_trans ab b)]
  exact Nat.add_lt_add_left (Nat.sub_lt_sub_left (Nat.lt_of_lt_of_le ab (Nat.le_sub_one_of_lt b)) ab) _
theorem Lx.le {rk : Nat → Nat} {a b : Nat} (h : Lx rk a b) : rk a ≤ rk b := h.elim Nat.le_of_lt fun x => Nat.le_of_eq x.1
theorem Lx.step {rk : Nat → Nat} {a b c : Nat} (h : Lx rk a b) (h2 : rk b ≤ rk c) (h3 : a < c) : Lx rk a c :=
  h.elim (fun x => .inl (Nat.lt_of_lt_of_le x h2)) fun x => (Nat.lt_or_eq_of_le h2).imp (fun y => lteq x.1 y) fun e => ⟨x.1.trans e, h3⟩
theorem Tl.rev {n : Nat} {p : Array Nat} {m a b : Nat} (t : Tl n p m) (hb : b ≤ m) (hm : m ≤ n) : Tl n (kas_rev p a b) m := by
  have hs : b ≤ p.size := by rw [t.sz]; exact Nat.le_trans hb hm
  refine ⟨by rw [kas_rev_size]; exact t.sz, (Array.perm_iff_toList_perm.mp (mirror_perm p a b _)).trans t.pm, fun i hi => ?_, fun k hk hn => ?_⟩
  · rw [gt_rev hs]
    split
    · rename_i q
      exact t.lo _ (Nat.lt_of_lt_of_le (mir_lt q.1 q.2) hb)
    · exact t.lo _ hi
  · rw [gt_rev hs, if_neg (show ¬(a ≤ k ∧ k < b) from fun q => Nat.lt_irrefl _ (Nat.lt_of_lt_of_le q.2 (Nat.le_trans hb hk)))]
    exact t.hi k hk hn
theorem Tl.up {n : Nat} {p : Array Nat} {m : Nat} (t : Tl n p m) (hm : m < n) : Tl n p (m + 1) := by
  refine ⟨t.sz, t.pm, fun i hi => ?_, fun k hk hn => t.hi k (Nat.le_of_succ_le hk) hn⟩
  by_cases q : i < m
  · exact Nat.lt_succ_of_lt (t.lo i q)
  · rw [eqm hi q, t.hi _ (Nat.le_refl _) hm]; exact Nat.lt_succ_self _
/-- sorted, stable -/
noncomputable def SP (rk : Nat → Nat) (p : Array Nat) (k : Nat) : Prop := ∀ i j, i < j → j < k → Lx rk (gt p i) (gt p j)
noncomputable def RS (rk : Nat → Nat) (p : Array Nat) (k : Nat) : Prop := ∀ i j, i < j → j < k → Lx rk (gt p j) (gt p i)
theorem SP.rev {rk : Nat → Nat} {p : Array Nat} {m : Nat} (hm : m ≤ p.size) (h : RS rk p m) : SP rk (kas_rev p 0 m) m := by
  intro i j hij hj
  have hi := Nat.lt_trans hij hj
  rw [gt_rev hm, gt_rev hm, if_pos ⟨Nat.zero_le _, hi⟩, if_pos ⟨Nat.zero_le _, hj⟩]
  exact h _ _ (mir_anti hij hj) (mir_lt (Nat.zero_le _) hi)
theorem RS.of {rk : Nat → Nat} {p : Array Nat} {m : Nat} (hm : m ≤ p.size) (h : SP rk p m) : RS rk (kas_rev p 0 m) m := by
  intro i j hij hj
  have hi := Nat.lt_trans hij hj
  rw [gt_rev hm, gt_rev hm, if_pos ⟨Nat.zero_le _, hj⟩, if_pos ⟨Nat.zero_le _, hi⟩]
  exact h _ _ (mir_anti hij hj) (mir_lt (Nat.zero_le _) hi)
/-- the state of the descending count -/
structure Ds (rk : Nat → Nat) (p : Array Nat) (m q : Nat) : Prop where
  qm : q + 1 ≤ m
  rs : RS rk p (m - (q + 1))
  cr : ∀ i j, i < m - (q + 1) → m - (q + 1) ≤ j → j < m → rk (gt p j) < rk (gt p i)
  bk : ∀ i j, m - (q + 1) ≤ i → i < j → j < m → rk (gt p i) = rk (gt p j) ∧ gt p i < gt p j
theorem Ds.one {rk : Nat → Nat} {p : Array Nat} {m q : Nat} (d : Ds rk p m q) : 1 ≤ m := Nat.le_trans (Nat.le_add_left 1 q) d.qm
theorem Ds.flip {rk : Nat → Nat} {p : Array Nat} {m q : Nat} (d : Ds rk p m q) (hm : m ≤ p.size) : RS rk (kas_rev p (m - (q + 1)) m) m := by
  intro i j hij hj
  have hi := Nat.lt_trans hij hj
  rw [gt_rev hm, gt_rev hm]
  by_cases hj' : m - (q + 1) ≤ j
  · rw [if_pos ⟨hj', hj⟩]
    by_cases hi' : m - (q + 1) ≤ i
    · rw [if_pos ⟨hi', hi⟩]
      have e := d.bk _ _ (mir_le (i := m - (q + 1)) hj) (mir_anti hij hj) (mir_lt hi' hi)
      exact .inr e
    · rw [if_neg (show ¬(m - (q + 1) ≤ i ∧ i < m) from fun z => hi' z.1)]
      exact .inl (d.cr _ _ (Nat.not_le.mp hi') (mir_le hj) (mir_lt hj' hj))
  · rw [if_neg (show ¬(m - (q + 1) ≤ j ∧ j < m) from fun z => hj' z.1), if_neg (show ¬(m - (q + 1) ≤ i ∧ i < m) from fun z => hj' (Nat.le_trans z.1 (Nat.le_of_lt hij)))]
    exact d.rs i j hij (Nat.not_le.mp hj')
theorem Ds.flat {rk : Nat → Nat} {p : Array Nat} {m : Nat} (d : Ds rk p m 0) : RS rk p m := by
  intro i j hij hj
  by_cases hj' : m - 1 ≤ j
  · exact .inl (d.cr _ _ (Nat.lt_of_lt_of_le hij (Nat.le_sub_one_of_lt hj)) hj' hj)
  · exact d.rs i j hij (Nat.not_le.mp hj')
theorem Ds.of {rk : Nat → Nat} {p : Array Nat} {m : Nat} (h : RS rk p m) (h1 : 1 ≤ m) (hlt : rk (gt p m) < rk (gt p (m - 1))) : Ds rk p (m + 1) 0 := by
  refine ⟨Nat.le_add_left 1 m, h, fun i j hi hj hj' => ?_, fun i j hi hij hj => absurd (Nat.lt_of_lt_of_le hij (Nat.le_of_lt_succ hj)) (Nat.not_lt.mpr hi)⟩
  have hi : i < m := hi
  rw [Nat.le_antisymm (Nat.le_of_lt_succ hj') hj]
  by_cases q : i = m - 1
  · rw [q]; exact hlt
  · exact Nat.lt_of_lt_of_le hlt (h i (m - 1) (ltm hi q) (lp h1)).le
theorem Ds.same {rk : Nat → Nat} {p : Array Nat} {m q : Nat} (d : Ds rk p m q) (heq : rk (gt p m) = rk (gt p (m - 1))) (hlt : ∀ i, i < m → gt p i < gt p m) : Ds rk p (m + 1) (q + 1) := by
  have e0 : m + 1 - (q + 1 + 1) = m - (q + 1) := Nat.add_sub_add_right m 1 (q + 1)
  have h1 := lp d.one
  have h2 : m - (q + 1) ≤ m - 1 := Nat.sub_le_sub_left (Nat.le_add_left 1 q) m
  refine ⟨Nat.succ_le_succ d.qm, by rw [e0]; exact d.rs, ?_, ?_⟩
  · rw [e0]
    intro i j hi hj hj'
    by_cases q' : j < m
    · exact d.cr i j hi hj q'
    · rw [eqm hj' q', heq]
      exact d.cr i _ hi h2 h1
  · rw [e0]
    intro i j hi hij hj
    by_cases q' : j < m
    · exact d.bk i j hi hij q'
    · have e := eqm hj q'
      rw [e] at hij ⊢
      refine ⟨?_, hlt i hij⟩
      rw [heq]
      by_cases q2 : i = m - 1
      · rw [q2]
      · exact (d.bk i (m - 1) hi (ltm hij q2) h1).1

section
variable {σ : Type} {cmp : Nat → Nat → (Bool → Shared → Prop) → Shared → Prop} {n : Nat} {rk : Nat → Nat} {I : Shared → Prop}
  (hc : ∀ i j (C : Bool → Shared → Prop) s, i < n → j < n → I s → (∀ s', I s' → C (decide (rk i < rk j)) s') → cmp i j C s)
include hc
theorem asc_wp {p : Array Nat} : ∀ (f m : Nat) (s : Shared) (Q : Nat → Shared → Prop), Tl n p m → SP rk p m → 1 ≤ m → m + f ≤ n → I s →
    (∀ r s', I s' → m ≤ r → r ≤ m + f → Tl n p r → SP rk p r → (r < m + f → rk (gt p r) < rk (gt p (r - 1))) → Q r s') → (kas_asc p f m).kasWp cmp Q s
  | 0, m, s, Q, t, h, h1, hf, hI, hQ => hQ m s hI (Nat.le_refl _) (Nat.le_refl _) t h (fun q => absurd q (Nat.lt_irrefl _))
  | f + 1, m, s, Q, t, h, h1, hf, hI, hQ => by
    have hm := lf hf
    have em : gt p m = m := t.hi m (Nat.le_refl _) hm
    have el : gt p (m - 1) < m := t.lo _ (lp h1)
    show cmp (gt p m) (gt p (m - 1)) _ s
    refine hc _ _ _ _ (lteq em hm) (Nat.lt_trans el hm) hI fun s' hI' => ?_
    by_cases q : rk (gt p m) < rk (gt p (m - 1))
    · rw [decide_eq_true q]
      exact hQ m s' hI' (Nat.le_refl _) (Nat.le_add_right _ _) t h fun _ => q
    · rw [decide_eq_false q]
      have q' := Nat.not_lt.mp q
      refine asc_wp f (m + 1) s' Q (t.up hm) (fun i j hij hj => ?_) (Nat.le_add_left 1 m) (lg hf) hI' fun r s2 a b c d e g => hQ r s2 a (Nat.le_of_succ_le b) (Nat.le_trans c (Nat.le_of_eq (ls m f))) d e (fun x => g (Nat.lt_of_lt_of_eq x (ls m f).symm))
      by_cases q2 : j < m
      · exact h i j hij q2
      · rw [eqm hj q2] at hij ⊢
        have h3 : gt p i < gt p m := Nat.lt_of_lt_of_eq (t.lo i hij) em.symm
        by_cases q3 : i = m - 1
        · rw [q3] at h3 ⊢
          exact (Nat.lt_or_eq_of_le q').imp id fun e => ⟨e, h3⟩
        · exact (h i (m - 1) (ltm hij q3) (lp h1)).step q' h3
theorem desc_wp : ∀ (f : Nat) (p : Array Nat) (m q : Nat) (s : Shared) (Q : Array Nat × Nat × Nat → Shared → Prop), Tl n p m → Ds rk p m q → m + f ≤ n → I s →
    (∀ p' r q' s', I s' → m ≤ r → r ≤ m + f → Tl n p' r → Ds rk p' r q' → Q (p', r, q') s') → (kas_desc f p m q).kasWp cmp Q s
  | 0, p, m, q, s, Q, t, d, hf, hI, hQ => hQ p m q s hI (Nat.le_refl _) (Nat.le_refl _) t d
  | f + 1, p, m, q, s, Q, t, d, hf, hI, hQ => by
    have hm := lf hf
    have h1 := d.one
    have em : gt p m = m := t.hi m (Nat.le_refl _) hm
    have el : gt p (m - 1) < m := t.lo _ (lp h1)
    have ln := lteq em hm
    have ln' := Nat.lt_trans el hm
    have hs : m ≤ p.size := by rw [t.sz]; exact Nat.le_of_lt hm
    have next : ∀ p' r q' s', I s' → m + 1 ≤ r → r ≤ m + 1 + f → Tl n p' r → Ds rk p' r q' → Q (p', r, q') s' := fun p' r q' s2 a b e g u => hQ p' r q' s2 a (Nat.le_of_succ_le b) (Nat.le_trans e (Nat.le_of_eq (ls m f))) g u
    show cmp (gt p m) (gt p (m - 1)) _ s
    refine hc _ _ _ _ ln ln' hI fun s' hI' => ?_
    by_cases c : rk (gt p m) < rk (gt p (m - 1))
    · rw [decide_eq_true c]
      show KasT.kasWp cmp (if true = true then (if q > 0 then kas_desc f (kas_rev p (m - (q + 1)) m) (m + 1) 0 else kas_desc f p (m + 1) 0) else _) Q s'
      rw [if_pos rfl]
      by_cases hq : q > 0
      · rw [if_pos hq]
        have h2 : m - (q + 1) ≤ m - 1 := Nat.sub_le_sub_left (Nat.le_add_left 1 q) m
        refine desc_wp f _ (m + 1) 0 s' Q ((t.rev (Nat.le_refl _) (Nat.le_of_lt hm)).up hm) (Ds.of (d.flip hs) h1 ?_) (lg hf) hI' next
        rw [gt_rev hs, gt_rev hs, if_neg (show ¬(m - (q + 1) ≤ m ∧ m < m) from fun z => Nat.lt_irrefl _ z.2), if_pos ⟨h2, lp h1⟩, mir_eq (lp h1), Nat.sub_self, Nat.add_zero]
        by_cases q2 : m - (q + 1) = m - 1
        · rw [q2]; exact c
        · rw [(d.bk (m - (q + 1)) (m - 1) (Nat.le_refl _) (Nat.lt_of_le_of_ne h2 q2) (lp h1)).1]; exact c
      · rw [if_neg hq]
        have hq0 : q = 0 := Nat.eq_zero_of_not_pos hq
        subst hq0
        exact desc_wp f _ (m + 1) 0 s' Q (t.up hm) (Ds.of d.flat h1 c) (lg hf) hI' next
    · rw [decide_eq_false c]
      show cmp (gt p (m - 1)) (gt p m) _ s'
      refine hc _ _ _ _ ln' ln hI' fun s2 hI2 => ?_
      by_cases c2 : rk (gt p (m - 1)) < rk (gt p m)
      · rw [decide_eq_true c2]
        exact hQ p m q s2 hI2 (Nat.le_refl _) (Nat.le_add_right _ _) t d
      · rw [decide_eq_false c2]
        exact desc_wp f _ (m + 1) (q + 1) s2 Q (t.up hm) (d.same (Nat.le_antisymm (Nat.not_lt.mp c2) (Nat.not_lt.mp c)) fun i hi => Nat.lt_of_lt_of_eq (t.lo i hi) em.symm) (lg hf) hI2 next
theorem tail3_wp {p : Array Nat} {m : Nat} {s : Shared} {Q : Nat × Array Nat → Shared → Prop} (t : Tl n p m) (h : RS rk p m) (h1 : 1 ≤ m) (hm : m ≤ n) (hI : I s)
    (hQ : ∀ r p' s', I s' → 1 ≤ r → r ≤ n → Tl n p' r → SP rk p' r → Q (r, p') s') : (kas_tail3 m n p).kasWp cmp Q s := by
  unfold kas_tail3
  rw [KasT.kasWp_bind]
  have hs : m ≤ p.size := by rw [t.sz]; exact hm
  have e0 := Nat.le_of_eq (Nat.add_sub_of_le hm)
  exact asc_wp hc (n - m) m s _ (t.rev (Nat.le_refl _) hm) (SP.rev hs h) h1 e0 hI fun r s' a b c d e g => hQ r _ s' a (Nat.le_trans h1 b) (Nat.le_trans c e0) d e
theorem descPart_wp {p : Array Nat} {m : Nat} {s : Shared} {Q : Nat × Array Nat → Shared → Prop} (t : Tl n p m) (h : RS rk p m) (h1 : 1 ≤ m) (hm : m < n) (hlt : rk (gt p m) < rk (gt p (m - 1))) (hI : I s)
    (hQ : ∀ r p' s', I s' → 1 ≤ r → r ≤ n → Tl n p' r → SP rk p' r → Q (r, p') s') : (kas_descPart m n p).kasWp cmp Q s := by
  unfold kas_descPart
  rw [KasT.kasWp_bind]
  have e0 := Nat.le_of_eq (Nat.add_sub_of_le (show m + 1 ≤ n from hm))
  refine desc_wp hc (n - (m + 1)) p (m + 1) 0 s _ (t.up hm) (Ds.of h h1 hlt) e0 hI fun p' r q' s' a b c d e => ?_
  have hr := Nat.le_trans c e0
  have hs : r ≤ p'.size := by rw [d.sz]; exact hr
  dsimp only
  by_cases hq : q' > 0
  · rw [if_pos hq]
    exact tail3_wp hc (d.rev (Nat.le_refl _) hr) (e.flip hs) e.one hr a hQ
  · rw [if_neg hq]
    have hq0 : q' = 0 := Nat.eq_zero_of_not_pos hq
    subst hq0
    exact tail3_wp hc d e.flat e.one hr a hQ
theorem tl0 : Tl n (List.toArray (List.range n)) 1 := by
  have e : ∀ k, k < n → gt (List.toArray (List.range n)) k = k := fun k hk => by
    unfold gt
    rw [Array.getD_eq_getD_getElem?]
    simp [hk]
  refine ⟨by simp, by simp, fun i hi => ?_, fun k _ hk => e k hk⟩
  rw [Nat.lt_one_iff.mp hi]
  by_cases q : 0 < n
  · rw [e 0 q]; exact Nat.one_pos
  · have : n = 0 := Nat.eq_zero_of_not_pos q
    subst this
    decide
theorem count_wp {s : Shared} {Q : Nat × Array Nat → Shared → Prop} (h2 : 2 ≤ n) (hI : I s) (hQ : ∀ r p' s', I s' → 1 ≤ r → r ≤ n → Tl n p' r → SP rk p' r → Q (r, p') s') :
    (kas_count n (List.toArray (List.range n))).kasWp cmp Q s := by
  unfold kas_count
  rw [KasT.kasWp_bind]
  have e0 := Nat.add_sub_of_le (Nat.le_of_succ_le h2)
  have no : ∀ {i j : Nat}, i < j → j < 1 → False := fun hij hj => absurd (Nat.lt_of_lt_of_le hij (Nat.le_of_lt_succ hj)) (Nat.not_lt_zero _)
  refine asc_wp hc (n - 1) 1 s _ (tl0 hc) (fun i j hij hj => (no hij hj).elim) (Nat.le_refl _) (Nat.le_of_eq e0) hI fun r s' hI' b c t sp g => ?_
  have hr := Nat.le_trans c (Nat.le_of_eq e0)
  by_cases q : r = n
  · rw [if_pos (beq_iff_eq.mpr q)]
    exact hQ r _ s' hI' b hr t sp
  · rw [if_neg fun z => q (beq_iff_eq.mp z)]
    have hrn : r < n := Nat.lt_of_le_of_ne hr q
    have g' := g (Nat.lt_of_lt_of_eq hrn e0.symm)
    by_cases q2 : r > 1
    · rw [if_pos q2]
      show cmp (gt _ 0) (gt _ (r - 1)) _ s'
      refine hc _ _ _ _ (Nat.lt_trans (t.lo 0 b) hrn) (Nat.lt_trans (t.lo (r - 1) (lp b)) hrn) hI' fun s2 hI2 => ?_
      by_cases q3 : rk (gt (List.toArray (List.range n)) 0) < rk (gt (List.toArray (List.range n)) (r - 1))
      · rw [decide_eq_true q3]
        exact hQ r _ s2 hI2 b hr t sp
      · rw [decide_eq_false q3]
        have hs : r ≤ (List.toArray (List.range n)).size := by rw [t.sz]; exact hr
        refine descPart_wp hc (t.rev (Nat.le_refl _) hr) (RS.of hs sp) b hrn ?_ hI2 hQ
        rw [gt_rev hs, gt_rev hs, if_neg (show ¬(0 ≤ r ∧ r < r) from fun z => Nat.lt_irrefl _ z.2), if_pos ⟨Nat.zero_le _, lp b⟩, mir_eq (lp b), Nat.sub_self]
        exact Nat.lt_of_lt_of_le g' (Nat.not_lt.mp q3)
    · rw [if_neg q2]
      exact descPart_wp hc t (fun i j hij hj => (no hij (Nat.lt_of_lt_of_le hj (Nat.not_lt.mp q2))).elim) b hrn g' hI' hQ
theorem place_wp {p : Array Nat} {k : Nat} (t : Tl n p k) (hk : k < n) (sp : SP rk p k) : ∀ (f l r : Nat) (s : Shared) (Q : Nat → Shared → Prop), l ≤ r → r ≤ k → r - l ≤ f → (∀ i, i < l → rk (gt p i) ≤ rk k) → (∀ i, r ≤ i → i < k → rk k < rk (gt p i)) → I s →
    (∀ l' s', I s' → l' ≤ k → (∀ i, i < l' → rk (gt p i) ≤ rk k) → (∀ i, l' ≤ i → i < k → rk k < rk (gt p i)) → Q l' s') → (kas_place p k f l r).kasWp cmp Q s
  | 0, l, r, s, Q, hlr, hrk, hf, h1, h2, hI, hQ => by
    have : l = r := Nat.le_antisymm hlr (Nat.le_of_sub_eq_zero (Nat.le_zero.mp hf))
    subst this
    exact hQ l s hI hrk h1 h2
  | f + 1, l, r, s, Q, hlr, hrk, hf, h1, h2, hI, hQ => by
    show KasT.kasWp cmp (if l ≥ r then .ret l else _) Q s
    by_cases q : l ≥ r
    · rw [if_pos q]
      have : l = r := Nat.le_antisymm hlr q
      subst this
      exact hQ l s hI hrk h1 h2
    · rw [if_neg q]
      have ek : gt p k = k := t.hi k (Nat.le_refl _) hk
      have mL := midL q
      have mR := midR q
      show cmp (gt p k) (gt p ((l + r) / 2)) _ s
      generalize (l + r) / 2 = c at mL mR ⊢
      have mk := Nat.lt_of_lt_of_le mR hrk
      refine hc _ _ _ _ (lteq ek hk) (Nat.lt_trans (t.lo c mk) hk) hI fun s' hI' => ?_
      rw [ek]
      by_cases d : rk k < rk (gt p c)
      · rw [decide_eq_true d]
        refine place_wp t hk sp f l c s' Q mL (Nat.le_of_lt mk) (Nat.le_of_lt_succ (Nat.lt_of_lt_of_le (Nat.sub_lt_sub_right mL mR) hf)) h1 (fun i hi hik => ?_) hI' hQ
        by_cases e : i = c
        · rw [e]; exact d
        · exact Nat.lt_of_lt_of_le d (sp c i (Nat.lt_of_le_of_ne hi fun z => e z.symm) hik).le
      · rw [decide_eq_false d]
        refine place_wp t hk sp f (c + 1) r s' Q mR hrk (Nat.le_trans (Nat.sub_le_sub_left (Nat.succ_le_succ mL) r) (Nat.pred_le_pred hf)) (fun i hi => ?_) h2 hI' hQ
        by_cases e : i = c
        · rw [e]; exact Nat.not_lt.mp d
        · exact Nat.le_trans (sp i c (Nat.lt_of_le_of_ne (Nat.le_of_lt_succ hi) e) mk).le (Nat.not_lt.mp d)
theorem ins {p : Array Nat} {k l : Nat} (t : Tl n p k) (hk : k < n) (sp : SP rk p k) (hl : l ≤ k) (h1 : ∀ i, i < l → rk (gt p i) ≤ rk k) (h2 : ∀ i, l ≤ i → i < k → rk k < rk (gt p i)) :
    Tl n (bubble p k (k - l)) (k + 1) ∧ SP rk (bubble p k (k - l)) (k + 1) := by
  have hs : k < p.size := by rw [t.sz]; exact hk
  have ek : gt p k = k := t.hi k (Nat.le_refl _) hk
  have g : ∀ i, gt (bubble p k (k - l)) i = if i = l then k else if l < i ∧ i ≤ k then gt p (i - 1) else gt p i := fun i => by
    rw [gt_bub hs (Nat.sub_le _ _), Nat.sub_sub_self hl, ek]
  have dn : ∀ {i}, l < i → i ≤ k → i - 1 < k := fun a b => Nat.lt_of_lt_of_le (lp (l0 a)) b
  refine ⟨⟨by rw [bubble_size]; exact t.sz, (Array.perm_iff_toList_perm.mp (bubble_perm p k _)).trans t.pm, fun i hi => ?_, fun j hj hn => ?_⟩, fun i j hij hj => ?_⟩
  · rw [g]
    split
    · exact Nat.lt_succ_self _
    · rename_i a
      split
      · rename_i b
        exact Nat.lt_succ_of_lt (t.lo _ (dn b.1 b.2))
      · rename_i b
        exact Nat.lt_succ_of_lt (t.lo _ (Nat.lt_of_lt_of_le (Nat.lt_of_le_of_ne (Nat.not_lt.mp fun x => b ⟨x, Nat.le_of_lt_succ hi⟩) a) hl))
  · rw [g, if_neg (show ¬j = l from fun e => Nat.lt_irrefl _ (Nat.lt_of_lt_of_le hj (Nat.le_trans (Nat.le_of_eq e) hl))), if_neg (show ¬(l < j ∧ j ≤ k) from fun z => Nat.lt_irrefl _ (Nat.lt_of_lt_of_le hj z.2))]
    exact t.hi j (Nat.le_of_succ_le hj) hn
  · have hjk := Nat.le_of_lt_succ hj
    rw [g, g]
    by_cases e1 : i = l
    · have hlj := lteq e1.symm hij
      rw [if_pos e1, if_neg (Nat.ne_of_gt hlj), if_pos ⟨hlj, hjk⟩]
      exact .inl (h2 _ (Nat.le_sub_one_of_lt hlj) (dn hlj hjk))
    · rw [if_neg e1]
      by_cases e2 : l < i ∧ i ≤ k
      · have hlj := Nat.lt_trans e2.1 hij
        rw [if_pos e2, if_neg (Nat.ne_of_gt hlj), if_pos ⟨hlj, hjk⟩]
        exact sp _ _ (Nat.sub_lt_sub_right (l0 e2.1) hij) (dn hlj hjk)
      · rw [if_neg e2]
        have hil : i < l := Nat.lt_of_le_of_ne (Nat.not_lt.mp fun x => e2 ⟨x, Nat.le_trans (Nat.le_of_lt hij) hjk⟩) e1
        by_cases e3 : j = l
        · rw [if_pos e3]
          exact (Nat.lt_or_eq_of_le (h1 i hil)).imp id fun e => ⟨e, t.lo i (Nat.lt_of_lt_of_le hil hl)⟩
        · rw [if_neg e3]
          by_cases e4 : l < j ∧ j ≤ k
          · rw [if_pos e4]; exact sp _ _ (Nat.lt_of_lt_of_le hil (Nat.le_sub_one_of_lt e4.1)) (dn e4.1 e4.2)
          · rw [if_neg e4]; exact sp _ _ hij (Nat.lt_of_lt_of_le (Nat.lt_of_le_of_ne (Nat.not_lt.mp fun x => e4 ⟨x, hjk⟩) e3) hl)
theorem bin_wp : ∀ (f : Nat) (p : Array Nat) (k : Nat) (s : Shared) (Q : Array Nat → Shared → Prop), Tl n p k → SP rk p k → k + f = n → I s → (∀ p' s', I s' → Tl n p' n → SP rk p' n → Q p' s') → (kas_bin f p k).kasWp cmp Q s
  | 0, p, k, s, Q, t, sp, hf, hI, hQ => by
    have : k = n := hf
    subst this
    exact hQ p s hI t sp
  | f + 1, p, k, s, Q, t, sp, hf, hI, hQ => by
    show ((kas_place p k k 0 k).bind fun l => kas_bin f (bubble p k (k - l)) (k + 1)).kasWp cmp Q s
    rw [KasT.kasWp_bind]
    have hk := lf (Nat.le_of_eq hf)
    refine place_wp hc t hk sp k 0 k s _ (Nat.zero_le _) (Nat.le_refl _) (Nat.sub_le _ _) (fun i hi => absurd hi (Nat.not_lt_zero _)) (fun i hi hik => absurd hik (Nat.not_lt.mpr hi)) hI fun l s' hI' hl h1 h2 => ?_
    obtain ⟨t', sp'⟩ := ins hc t hk sp hl h1 h2
    exact bin_wp f _ (k + 1) s' Q t' sp' ((ls k f).trans hf) hI' hQ
theorem sort_wp {s : Shared} {Q : Array Nat → Shared → Prop} (h2 : 2 ≤ n) (hI : I s) (hQ : ∀ p' s', I s' → p'.toList.Perm (List.range n) → SP rk p' n → Q p' s') : (kas_sort n).kasWp cmp Q s := by
  unfold kas_sort
  rw [KasT.kasWp_bind]
  refine count_wp hc h2 hI fun r p' s' hI' h1 hr t sp => ?_
  dsimp only
  by_cases q : r < n
  · rw [if_pos q, Nat.max_eq_left h1]
    exact bin_wp hc (n - r) p' r s' Q t sp (Nat.add_sub_of_le hr) hI' fun p2 s2 a b c => hQ p2 s2 a b.pm c
  · rw [if_neg q]
    have : r = n := Nat.le_antisymm hr (Nat.not_lt.mp q)
    subst this
    exact hQ p' s' hI' t.pm sp
end
end Mine
end So0
section So1
open PySem PySem.W PyProof.Rows PySem.Calls PySem.Spec Mine
set_option Elab.async false
set_option pp.deepTerms false
set_option pp.maxSteps 1500
set_option maxRecDepth 100000
namespace Mine
noncomputable def IdxAre (vs : List Value) (n : Nat) : Prop := vs.length = n ∧ ∀ (i : Nat) v, vs[i]? = some v → ∃ t, v = .int (i : Int) t
section
variable {prog : Program} {w : World} {A : Around} {E : Value → Shared → Prop} {s : Shared}
theorem size_rg (n : Nat) : Builtin.Range.rangeSize 0 (n : Int) 1 = (n : Int) := by
  rw [rangeSize_nat]; simp
theorem collect_rg {r : Addr} {n : Nat} {t u v : Tok} {Q : List Value → Shared → Prop} (hh : A.handled = none) (hr : IsRange s.heap r 0 (n : Int) 1 t u v) (hn : n ≤ 64)
    (h : ∀ h' tk vs, Kp s.heap h' → s.heap.objs.size ≤ h'.objs.size → IdxAre vs n → Q vs { s with heap := h', toks := tk }) : wpAny (model prog w) A (collect (.ref r)) Q E s := by
  unfold collect
  refine wpAny_bind (wpAny_runValue (codeAny_builtin entry_proto_collect' ?_))
  rw [Around.under_plainId F.plain_proto_collect _]
  show wpAny _ _ (do again (.builtin "list.__iadd__" ⟨[← newList [], .ref r], []⟩)) _ _ s
  refine wpAny_bind (wpAny_newList (wpAny_pure ⟨Code.quiet_builtin _ (by decide +kernel), codeAny_builtin entry_list_iadd' ?_⟩))
  rw [Around.under_plainId F.plain_list_iadd _]
  show wpAny _ _ (Builtin.List.listExtendWith (.ref s.heap.objs.size) (.ref r) (.ref s.heap.objs.size)) _ _ { s with heap := s.heap.push (seqObj "list" #[] 0) }
  have hs : Builtin.Range.small 0 (n : Int) 1 = true := small_one (by omega) (by omega) (by omega) (by omega)
  refine wpAny_extend_range (R := fun r s' => match r with | .ok (.ret v) => wpAny (model prog w) A (match v with | .ref a => (do let o ← load a; match o.data with | .seq xs _ => pure xs.toList | _ => unsupported "internal:collect") | _ => unsupported "internal:collect") Q E s' | .ok _ => False | .error e => E e s') (s := { s with heap := s.heap.push (seqObj "list" #[] 0) }) hh (Heap.get?_push_of_some _ hr) hs (size_rg n) (by omega) _ _ 0 (Heap.get?_push_size _ rfl) fun h' tk acc' c' hk hS' hacc => ?_
  refine wpAny_bind (wpAny_load hS' (wpAny_pure (h h' tk _ (fun b o e => hk b o (Nat.ne_of_lt (Heap.lt_size e)) (Heap.get?_push_of_some _ e)) (Nat.le_of_lt (Heap.lt_size hS')) ⟨?_, fun i v hv => ?_⟩)))
  · rw [Array.length_toList]; exact hacc.1
  · obtain ⟨t, e⟩ := hacc.2 i v (by rwa [Array.getElem?_toList] at hv)
    exact ⟨t, by rw [e]; simp⟩

/-- all but lists kept -/
noncomputable def KpL (h h' : Heap) : Prop := ∀ b o, o.cls ≠ .type "list" → h.get? b = some o → h'.get? b = some o
theorem KpL.of {h h' : Heap} (k : Kp h h') : KpL h h' := fun b o _ e => k b o e
theorem KpL.trans {a b c : Heap} (x : KpL a b) (y : KpL b c) : KpL a c := fun b o n e => y b o n (x b o n e)
theorem KpL.upd {h : Heap} {a : Addr} {xs : Array Value} {n : Nat} (f : Array Value → Array Value) (ho : h.get? a = some (seqObj "list" xs n)) : KpL h (h.update a (Obj.mapSeq f)) := fun b o hn e => by
  have : b ≠ a := fun q => by rw [q, ho] at e; cases e; exact hn rfl
  exact (Heap.SameBut.update h a _).2 b this |>.trans e
/-- what stands between the sort's steps: the base, the emptied list, the store of the keys -/
structure Mid (h0 h : Heap) (a kS : Addr) (e1 : Nat) (kA : Array Value) (e : Nat) (PI : Nat → Addr → Heap → Prop) : Prop where
  kp : Kp h0 h
  na : h.get? a = some (seqObj "list" #[] e1)
  nk : h.get? kS = some (seqObj "list" kA e)
  ne : kS ≠ a
  fa : h0.get? a = none
  fk : h0.get? kS = none
  ks : ∀ (j : Nat) v, kA[j]? = some v → ∃ x, v = .ref x ∧ PI j x h
theorem Mid.keep {h0 h h' : Heap} {a kS : Addr} {e1 : Nat} {kA : Array Value} {e : Nat} {PI : Nat → Addr → Heap → Prop} (hPI : ∀ i x h h', PI i x h → KpL h h' → PI i x h') (m : Mid h0 h a kS e1 kA e PI) (k : Kp h h') : Mid h0 h' a kS e1 kA e PI :=
  ⟨m.kp.trans k, k _ _ m.na, k _ _ m.nk, m.ne, m.fa, m.fk, fun j v hv => let ⟨x, e, p⟩ := m.ks j v hv; ⟨x, e, hPI _ _ _ _ p (.of k)⟩⟩
theorem so_run {h0 : Heap} {a kS : Addr} {e1 e : Nat} {kA : Array Value} {PI : Nat → Addr → Heap → Prop} {vs : List Value} {T : Value} {rk : Nat → Nat} {P : PySem.Fin → Shared → Prop}
    (hPI : ∀ i x h h', PI i x h → KpL h h' → PI i x h') (hT : ∀ i x h, PI i x h → Looks (model prog w) h (typeOf (.ref x)) T) (hT1 : (T != Value.type "tuple") = true) (hT2 : (T == T) = true)
    (h2 : 2 ≤ vs.length) (h64 : vs.length < 64) (hsz : kA.size = vs.length) (M : Mid h0 s.heap a kS e1 kA e PI)
    (ask : ∀ i j x y (s' : Shared) (Q' : Bool → Shared → Prop) (E' : Value → Shared → Prop), i < vs.length → j < vs.length → Kp h0 s'.heap → PI i x s'.heap → PI j y s'.heap → (∀ h' tk, Kp s'.heap h' → Q' (decide (rk i < rk j)) { s' with heap := h', toks := tk }) →
      wpAny (model prog w) A (keyLt' oneType' (.ref x) (.ref y)) Q' E' s')
    (h : ∀ h' tk p c, Kp h0 h' → p.toList.Perm (List.range vs.length) → SP rk p vs.length → h'.get? a = some (seqObj "list" (List.toArray (p.toList.map fun i => vs.getD i Value.none)) c) → P (.done (.ret .none)) { s with heap := h', toks := tk }) :
    wpAny (model prog w) A (ksk_end a false vs.toArray e1 (.ref kS) kA) P E s := by
  unfold ksk_end
  dsimp only
  rw [if_neg (by decide)]
  have h2' : ¬ vs.toArray.size < 2 := by rw [List.size_toArray]; omega
  rw [if_neg h2', if_neg h2']
  have hkL : ∀ v ∈ kA.toList, Looks (model prog w) s.heap (typeOf v) T := fun v hv => by
    obtain ⟨j, hj⟩ := List.mem_iff_getElem?.mp hv
    obtain ⟨x, rfl, p⟩ := M.ks j v (by rwa [Array.getElem?_toList] at hj)
    exact hT j x _ p
  have hl : 2 ≤ kA.toList.length := by rw [Array.length_toList, hsz]; exact h2
  refine wpAny_bind ?_
  rw [show kA = kA.toList.toArray by simp]
  refine kas_kind hl hkL hT1 hT2 ?_
  rw [show kA.toList.toArray = kA by simp]
  have hzs : (kA.zip vs.toArray).size = vs.length := by rw [Array.size_zip, hsz, List.size_toArray, Nat.min_self]
  have est : SortSt.mk' oneType' (if false = true then (kA.zip vs.toArray).reverse else kA.zip vs.toArray) #[] 7 none = kas_st oneType' (kA.zip vs.toArray) (List.toArray (List.range vs.length)) := by
    have e := kas_range (kA.zip vs.toArray)
    rw [hzs] at e
    unfold kas_st
    rw [e]
    rfl
  rw [est]
  have item : ∀ i, i < vs.length → ∃ x, (kas_item (kA.zip vs.toArray) i) = (.ref x, vs.getD i Value.none) ∧ kA[i]? = some (.ref x) := fun i hi => by
    have hik : i < kA.size := by omega
    obtain ⟨x, e, _⟩ := M.ks i kA[i] (by simp [hik])
    refine ⟨x, ?_, by rw [← e]; simp [hik]⟩
    unfold kas_item
    have hz : i < (kA.zip vs.toArray).size := by omega
    have e2 : (kA.zip vs.toArray).getD i (Value.none, Value.none) = (kA.zip vs.toArray)[i] := by rw [Array.getD_eq_getD_getElem?, Array.getElem?_eq_getElem hz]; rfl
    rw [e2, Array.getElem_zip, e]
    simp [hi]
  refine wpAny_bind (wpAny_mono (kas_runs (E := E) (Q := fun _ st' s' => ∃ p : Array Nat, ∃ h' tk, s' = { s with heap := h', toks := tk } ∧ Mid h0 h' a kS e1 kA e PI ∧ arrOf st' = p.map (kas_item (kA.zip vs.toArray)) ∧ failedOf st' = none ∧ p.toList.Perm (List.range vs.length) ∧ SP rk p vs.length)
    (G := fun p s' => ∃ h' tk, s' = { s with heap := h', toks := tk } ∧ Mid h0 h' a kS e1 kA e PI ∧ p.toList.Perm (List.range vs.length) ∧ SP rk p vs.length)
    h2 h64 (fun p' st' s' a1 a2 a3 ⟨h', tk, b1, b2, b3, b4⟩ => ⟨p', h', tk, b1, b2, a2, a3, b3, b4⟩) ?_) ?_ fun _ _ e => e)
  · refine sort_wp (I := fun s' => ∃ h' tk, s' = { s with heap := h', toks := tk } ∧ Mid h0 h' a kS e1 kA e PI) (rk := rk) ?_ h2 ⟨s.heap, s.toks, rfl, M⟩ fun p s' ⟨h', tk, b1, b2⟩ hp hsp => ⟨h', tk, b1, b2, hp, hsp⟩
    rintro i j C _ hi hj ⟨h', tk, rfl, M'⟩ hC
    obtain ⟨x, ex, kx⟩ := item i hi
    obtain ⟨y, ey, ky⟩ := item j hj
    obtain ⟨x', e1', px⟩ := M'.ks i _ kx
    obtain ⟨y', e2', py⟩ := M'.ks j _ ky
    cases e1'; cases e2'
    unfold kas_cmp
    rw [ex, ey]
    refine ask i j x y _ _ _ hi hj M'.kp px py fun h2 tk2 k2 => hC _ ⟨h2, tk2, rfl, M'.keep hPI k2⟩
  rintro ⟨⟨⟩, st'⟩ s' ⟨p, h', tk, rfl, M', har, hf, hp, hsp⟩
  dsimp only
  have hpl : p.toList.length = vs.length := by rw [hp.length_eq, List.length_range]
  have hplt : ∀ i ∈ p.toList, i < vs.length := fun i hi => List.mem_range.mp (hp.mem_iff.mp hi)
  have hout : (arrOf st').map (·.2) = List.toArray (p.toList.map fun i => vs.getD i Value.none) := by
    apply Array.toList_inj.mp
    rw [har, Array.map_map, Array.toList_map]
    refine List.map_congr_left fun i hi => ?_
    obtain ⟨x, ex, _⟩ := item i (hplt i hi)
    show (kas_item (kA.zip vs.toArray) i).2 = _
    rw [ex]
  have hsz2 : (List.toArray (p.toList.map fun i => vs.getD i Value.none)).size = vs.length := by rw [List.size_toArray, List.length_map, hpl]
  unfold ksk_tail
  dsimp only
  rw [hout, hf]
  have s1 := Heap.SameBut.update h' kS (Obj.mapSeq fun _ => (#[] : Array Value))
  have na1 : (h'.update kS (Obj.mapSeq fun _ => (#[] : Array Value))).get? a = some (seqObj "list" #[] e1) := (s1.2 a M'.ne.symm).trans M'.na
  have s2 := Heap.SameBut.update (h'.update kS (Obj.mapSeq fun _ => (#[] : Array Value))) a (Obj.mapSeq fun _ => List.toArray (p.toList.map fun i => vs.getD i Value.none))
  obtain ⟨c2, hc2⟩ : ∃ c2, ((h'.update kS (Obj.mapSeq fun _ => (#[] : Array Value))).update a (Obj.mapSeq fun _ => List.toArray (p.toList.map fun i => vs.getD i Value.none))).get? a = some (seqObj "list" (List.toArray (p.toList.map fun i => vs.getD i Value.none)) c2) := ⟨_, get?_update_seq na1 fun _ => List.toArray (p.toList.map fun i => vs.getD i Value.none)⟩
  refine wpAny_bind (listUpdate_at M'.nk rfl ?_ (by rw [hsz, sizeLine_eq]; omega) (Nat.zero_le _))
  refine wpAny_bind (wpAny_letGo ?_)
  refine wpAny_bind (seqEpoch_at na1 rfl ?_)
  refine wpAny_bind (listUpdate_at na1 rfl ?_ (Nat.zero_le _) (Nat.le_trans (Nat.le_of_eq hsz2) (by rw [sizeLine_eq]; omega)))
  simp only [bne_self_eq_false, Bool.false_eq_true, if_false]
  refine wpAny_pure (h _ _ p c2 (fun b o e => ?_) hp hsp hc2)
  have nb : b ≠ kS := fun q => by rw [q, M'.fk] at e; cases e
  have nb2 : b ≠ a := fun q => by rw [q, M'.fa] at e; cases e
  exact (s2.2 b nb2).trans ((s1.2 b nb).trans (M'.kp b o e))
theorem so_rest {h0 : Heap} {a kS : Addr} {e1 : Nat} {PI : Nat → Addr → Heap → Prop} {vs : List Value} {T f : Value} {rk : Nat → Nat} {P : PySem.Fin → Shared → Prop}
    (hPI : ∀ i x h h', PI i x h → KpL h h' → PI i x h') (hT : ∀ i x h, PI i x h → Looks (model prog w) h (typeOf (.ref x)) T) (hT1 : (T != Value.type "tuple") = true) (hT2 : (T == T) = true)
    (h2 : 2 ≤ vs.length) (h64 : vs.length < 64) (M : Mid h0 s.heap a kS e1 #[] 0 PI)
    (turn : ∀ (i : Nat) v (s' : Shared) (Q' E' : Value → Shared → Prop), vs[i]? = some v → Kp h0 s'.heap → (∀ h' tk x, Kp s'.heap h' → PI i x h' → Q' (.ref x) { s' with heap := h', toks := tk }) → wpAny (model prog w) A (call f [v]) Q' E' s')
    (ask : ∀ i j x y (s' : Shared) (Q' : Bool → Shared → Prop) (E' : Value → Shared → Prop), i < vs.length → j < vs.length → Kp h0 s'.heap → PI i x s'.heap → PI j y s'.heap → (∀ h' tk, Kp s'.heap h' → Q' (decide (rk i < rk j)) { s' with heap := h', toks := tk }) →
      wpAny (model prog w) A (keyLt' oneType' (.ref x) (.ref y)) Q' E' s')
    (h : ∀ h' tk p c, Kp h0 h' → p.toList.Perm (List.range vs.length) → SP rk p vs.length → h'.get? a = some (seqObj "list" (List.toArray (p.toList.map fun i => vs.getD i Value.none)) c) → P (.done (.ret .none)) { s with heap := h', toks := tk }) :
    wpAny (model prog w) A (ksk_rest a f false vs.toArray e1 (.ref kS)) P E s := by
  unfold ksk_rest
  refine wpAny_bind (wpAny_rule ?_)
  first
    | rw [List.forIn_toArray]
    | (rw [← Array.forIn_toList]; simp only [List.toList_toArray])
    | rw [← Array.forIn_toList]
  refine wpAny_bind (ksk_fold (fun i s' => ∃ h' tk kA e, s' = { s with heap := h', toks := tk } ∧ Mid h0 h' a kS e1 kA e PI ∧ kA.size = i) vs 0 s ⟨s.heap, s.toks, #[], 0, rfl, M, rfl⟩ ?step ?done)
  case step =>
    rintro j x s' hx ⟨h', tk, kA, e, rfl, M', hk⟩
    simp only [Nat.zero_add] at hk ⊢
    have hj : j < vs.length := (List.getElem?_eq_some_iff.mp hx).1
    refine wpAny_bind (wpAny_attempt (turn j x _ _ _ hx M'.kp fun h2 tk2 y k2 py => ?_))
    dsimp only
    have M2 := M'.keep hPI k2
    obtain ⟨c2, hc2⟩ : ∃ c2, (h2.update kS (Obj.mapSeq (·.push (.ref y)))).get? kS = some (seqObj "list" (kA.push (.ref y)) c2) := ⟨_, get?_update_seq M2.nk (·.push (.ref y))⟩
    have s1 := Heap.SameBut.update h2 kS (Obj.mapSeq (·.push (Value.ref y)))
    have kl := KpL.upd (·.push (Value.ref y)) M2.nk
    refine wpAny_bind (listUpdate_at M2.nk rfl ?_ (by rw [sizeLine_eq]; omega) (Nat.le_trans (Nat.le_of_eq (Array.size_push ..)) (by rw [sizeLine_eq]; omega)))
    refine wpAny_pure ⟨rfl, _, _, kA.push (.ref y), c2, rfl, ⟨fun b o e => ?_, (s1.2 a M2.ne.symm).trans M2.na, hc2, M2.ne, M2.fa, M2.fk, fun q v hv => ?_⟩, by rw [Array.size_push, hk]⟩
    · have nb : b ≠ kS := fun q => by rw [q, M2.fk] at e; cases e
      exact (s1.2 b nb).trans (M2.kp b o e)
    · rw [Array.getElem?_push] at hv
      split at hv
      · rename_i hq
        cases hv
        exact ⟨y, rfl, by rw [hq, hk]; exact hPI _ _ _ _ py kl⟩
      · obtain ⟨z, e, p⟩ := M2.ks q v hv
        exact ⟨z, e, hPI _ _ _ _ p kl⟩
  case done =>
    rintro s' ⟨h', tk, kA, e, rfl, M', hk⟩
    rw [Nat.zero_add] at hk
    refine wpAny_bind (listItems_at M'.nk rfl ?_)
    exact so_run hPI hT hT1 hT2 h2 h64 hk M' ask fun h3 tk3 p c k3 hp hsp hg => h h3 tk3 p c k3 hp hsp hg

theorem so_sorted {r : Addr} {n : Nat} {t u v : Tok} {PI : Nat → Addr → Heap → Prop} {T f : Value} {rk : Nat → Nat} {Q : Value → Shared → Prop}
    (hh : A.handled = none) (hr : IsRange s.heap r 0 (n : Int) 1 t u v) (hf : (∃ q, f = .ref q))
    (hPI : ∀ i x h h', PI i x h → KpL h h' → PI i x h') (hT : ∀ i x h, PI i x h → Looks (model prog w) h (typeOf (.ref x)) T) (hT1 : (T != Value.type "tuple") = true) (hT2 : (T == T) = true)
    (h2 : 2 ≤ n) (h64 : n < 64)
    (turn : ∀ (i : Nat) t (s' : Shared) (Q' E' : Value → Shared → Prop), i < n → Kp s.heap s'.heap → (∀ h' tk x, Kp s'.heap h' → PI i x h' → Q' (.ref x) { s' with heap := h', toks := tk }) → wpAny (model prog w) A.in1.in1 (call f [.int (i : Int) t]) Q' E' s')
    (ask : ∀ i j x y (s' : Shared) (Q' : Bool → Shared → Prop) (E' : Value → Shared → Prop), i < n → j < n → Kp s.heap s'.heap → PI i x s'.heap → PI j y s'.heap → (∀ h' tk, Kp s'.heap h' → Q' (decide (rk i < rk j)) { s' with heap := h', toks := tk }) →
      wpAny (model prog w) A.in1.in1 (keyLt' oneType' (.ref x) (.ref y)) Q' E' s')
    (h : ∀ h' tk D p vs c, Kp s.heap h' → s.heap.get? D = none → p.toList.Perm (List.range n) → SP rk p n → IntsAre vs (p.toList.map fun (i : Nat) => (i : Int)) → h'.get? D = some (listOf vs.toArray c) → Q (.ref D) { s with heap := h', toks := tk }) :
    wpAny (model prog w) A (call (.builtin "sorted") [.ref r] [(Str.ofString "key", f)]) Q E s := by
  obtain ⟨q, rfl⟩ := hf
  refine call_function_entry_kw kind_sorted plain_sorted entry_sorted (ksk_s1 _ _) ?_
  unfold Builtin.«sorted»
  refine wpAny_bind (m := checkCount "sorted" 1 1 _) (wpAny_pure ?_)
  refine wpAny_bind (collect_rg (A := A.in1) hh hr (by omega) fun h1 tk1 vs k1 z1 iv => ?_)
  have hl : vs.length = n := iv.1
  refine wpAny_bind (wpAny_newList ?_ (by rw [sizeLine_eq]; omega))
  have ho : (h1.push (seqObj "list" vs.toArray 0)).get? h1.objs.size = some (seqObj "list" vs.toArray 0) := Heap.get?_push_size _ rfl
  have kp1 : Kp h1 (h1.push (seqObj "list" vs.toArray 0)) := fun _ _ e => Heap.get?_push_of_some _ e
  have fr1 : s.heap.get? h1.objs.size = none := Heap.get?_none_of_le z1
  have sz1 : (h1.push (seqObj "list" vs.toArray 0)).objs.size = h1.objs.size + 1 := Heap.size_push ..
  show wpAny _ _ _ _ _ ⟨h1.push (seqObj "list" vs.toArray 0), _, _, _, _⟩
  revert ho kp1 sz1
  generalize h1.push (seqObj "list" vs.toArray 0) = hL
  intro ho kp1 sz1
  refine wpAny_bind (wpAny_holding (wpAny_call_entry_kw slot_list_sort ⟨_, ho, rfl⟩ entry_list_sort ?body (ksk_l1 _ _)))
  rw [ksk_t1]
  have s1 := Heap.SameBut.update hL h1.objs.size (Obj.mapSeq fun _ => (#[] : Array Value))
  obtain ⟨e1, ho1⟩ : ∃ e1, (hL.update h1.objs.size (Obj.mapSeq fun _ => (#[] : Array Value))).get? h1.objs.size = some (seqObj "list" #[] e1) := ⟨_, get?_update_seq ho fun _ => #[]⟩
  have hkS : ((hL.update h1.objs.size (Obj.mapSeq fun _ => (#[] : Array Value))).push (seqObj "tuple" vs.toArray 0)).objs.size = h1.objs.size + 2 := by rw [size_push', Heap.size_update, sz1]
  unfold ksk_tree
  refine wpAny_bind (listItems_at ho rfl ?_)
  refine wpAny_bind (listUpdate_at ho rfl ?_ (by rw [List.size_toArray, sizeLine_eq]; omega) (Nat.zero_le _))
  refine wpAny_bind (seqEpoch_at ho1 rfl ?_)
  refine wpAny_bind (wpAny_newTuple ?_ (by show vs.length ≤ _; rw [sizeLine_eq]; omega))
  refine wpAny_bind (wpAny_newList ?_ (Nat.zero_le _))
  refine wpAny_holding ?_
  refine so_rest (h0 := s.heap) (PI := PI) (kS := ((hL.update h1.objs.size (Obj.mapSeq fun _ => (#[] : Array Value))).push (seqObj "tuple" vs.toArray 0)).objs.size) hPI hT hT1 hT2 (by omega) (by omega) ⟨fun b o e => ?_, Heap.get?_push_of_some _ (Heap.get?_push_of_some _ ho1), Heap.get?_push_size _ rfl, by rw [hkS]; exact Nat.ne_of_gt (Nat.lt_add_of_pos_right (by decide)), fr1, Heap.get?_none_of_le (by rw [hkS]; exact Nat.le_trans z1 (Nat.le_add_right _ 2)), fun j v hv => by simp at hv⟩ (fun i v s' Q' E' hv hk hq => ?_) (fun i j x y s' Q' E' hi hj => ask i j x y s' Q' E' (by omega) (by omega)) fun h' tk p c k' hp hsp hg => ?_
  · have nb : b ≠ h1.objs.size := fun q => by rw [q, fr1] at e; cases e
    exact Heap.get?_push_of_some _ (Heap.get?_push_of_some _ ((s1.2 b nb).trans (kp1 _ _ (k1 b o e))))
  · obtain ⟨t, rfl⟩ := iv.2 i v hv
    exact turn i t s' Q' E' (by have := (List.getElem?_eq_some_iff.mp hv).1; omega) hk hq
  · rw [hl] at hp hsp
    refine ⟨_, rfl, wpAny_pure ⟨_, rfl, h h' tk _ p _ c k' fr1 hp hsp ?_ hg⟩⟩
    have hlt : ∀ i ∈ p.toList, i < n := fun i hi => List.mem_range.mp (hp.mem_iff.mp hi)
    revert hlt
    generalize p.toList = l
    intro hlt
    induction l with
    | nil => exact .nil
    | cons i l ih =>
      have hi : i < vs.length := by rw [hl]; exact hlt i (.head _)
      obtain ⟨t, e⟩ := iv.2 i vs[i] (by simp [hi])
      rw [List.map_cons, List.map_cons, show vs.getD i Value.none = .int (i : Int) t by simp [hi, e]]
      exact .cons _ _ (ih fun j hj => hlt j (.tail _ hj))
end
end Mine
end So1
section So2
open PySem PySem.W PyProof.Rows PySem.Calls PySem.Spec Mine
set_option Elab.async false
set_option pp.deepTerms false
set_option pp.maxSteps 1500
set_option maxRecDepth 100000
set_option maxHeartbeats 8000000
namespace Mine
theorem KInst.keepL {h h' : Heap} {C x : Addr} {v : Value} (i : KInst h C x v) (k : KpL h h') : KInst h' C x v := by
  obtain ⟨ox, ⟨a, b, c, d⟩, e⟩ := i
  refine ⟨ox, ⟨k _ _ (by rw [b]; simp) a, b, c, ?_⟩, e⟩
  revert d
  cases ox.dict with
  | none => exact fun d => d
  | some dx => exact fun d => k _ _ (by simp) d
theorem so_K {w : World} {A : Around} {s : Shared} {E Q : Value → Shared → Prop} {K : Frag} {C md f1 f2 nsA P nsA' P' g cell r : Addr} {n : Nat} {t u v : Tok} {rk : Nat → Nat} {z : Nat → Nat → Int}
    (o : Ok A 3 20) (hr : IsRange s.heap r 0 (n : Int) 1 t u v) (Y : KAt s.heap C K md f1 f2) (I1 : KFn w.params "__init__" [] nsA P s.heap f1) (I2 : KFn w.params "__lt__" [(Str.ofString "mycmp", cell)] nsA' P' s.heap f2)
    (hc : s.heap.IsCell cell (some (.ref g))) (hg : FnAt g s.heap) (hlim : s.heap.NoLimit) (h2 : 2 ≤ n) (h64 : n < 64)
    (cmp : ∀ (i j : Nat) t1 t2, i < n → j < n → CmpAt w g 1 9 (.int (i : Int) t1) (.int (j : Int) t2) (z i j) s.heap) (hz : ∀ i j, i < n → j < n → (z i j < 0 ↔ rk i < rk j))
    (h : ∀ h' tk D p vs c, Kp s.heap h' → s.heap.get? D = none → p.toList.Perm (List.range n) → SP rk p n → IntsAre vs (p.toList.map fun (i : Nat) => (i : Int)) → h'.get? D = some (listOf vs.toArray c) → Q (.ref D) { s with heap := h', toks := tk }) :
    wpAny (model PySem.Challenge.rw_op0082_01.row.prog w) A (call (.builtin "sorted") [.ref r] [(Str.ofString "key", .ref C)]) Q E s := by
  have oA : Ok A.in1.in1 3 18 := (o.in1 (u := 19)).in1
  have kf : ∀ {n clos nsA P f h'}, KFn w.params n clos nsA P s.heap f → Kp s.heap h' → KFn w.params n clos nsA P h' f := fun x k => x.keep fun b o _ _ e => k b o e
  refine so_sorted (PI := fun i x h => ∃ t, KInst h C x (.int (i : Int) t)) (T := .ref C) (rk := rk) o.hh hr ⟨_, rfl⟩ (fun i x h h' ⟨t, k⟩ kl => ⟨t, k.keepL kl⟩) (fun i x h ⟨t, ⟨ox, I, _⟩⟩ => I.type) (by rfl) (by simp) h2 h64 (fun i t s' Q' E' hi hk hq => ?_) (fun i j x y s' Q' E' hi hj hk ⟨t1, p1⟩ ⟨t2, p2⟩ hq => ?_) h
  · exact k_make (Y.keep hk) (kf I1 hk) (hlim.keeps hk) (by have := oA.hd; omega) fun h' tk x k2 _ ki => hq h' tk x k2 ⟨t, ki⟩
  · obtain ⟨ox, Ix, sx⟩ := p1.at_
    rw [keyLt'_oneType, oneLt'_eq]
    simp only [if_true]
    refine wpAny_bind (wpAny_cRoomFor (by have := oA.hu; omega) ?_)
    refine wpAny_bind (ifBound_K (Y.keep hk).inn Ix Y.lt Y.t2 ?_)
    refine k_lt (n := 1) (u := 9) (z := z i j) (Y.keep hk) (kf I2 hk) (let ⟨oc, a, b⟩ := hc; ⟨oc, hk _ _ a, b⟩) (let ⟨a, b, c, d, e⟩ := hg; ⟨a, b, c, d, hk _ _ e⟩) (hlim.keeps hk) (oA.le (by omega) (by omega)) p1 p2 rfl rfl (fun A' s2 Q2 E2 oo k2 hh => cmp i j t1 t2 hi hj A' s2 Q2 E2 oo (hk.trans k2) hh) fun h' tk k2 => ?_
    refine wpAny_truthy_bool ?_
    have e : decide (z i j < 0) = decide (rk i < rk j) := decide_eq_decide.mpr (hz i j hi hj)
    rw [e]
    exact hq h' tk k2
end Mine
end So2
section Tx1
open PySem PySem.W PyProof.Rows PySem.Calls PySem.Spec Mine
set_option Elab.async false
set_option pp.deepTerms false
set_option pp.maxSteps 1500
set_option maxRecDepth 100000
set_option maxHeartbeats 8000000
namespace Mine
theorem resetTx1 : True := by
  w_top off
  trivial
noncomputable def repl (x a b : Str) : Str := if (!(Builtin.Str.occurrences x a 0 x.length 1).isEmpty) = true then Txt.replace x a b else x
section
variable {prog : Program} {w : World} {A : Around} {s : Shared} {h₀ : Heap} {L : Addr} {m : Str → Option Value} {news : List (Addr × Obj)} {E : Value → Shared → Prop} {Q : Flow → Shared → Prop}
theorem esc_if {x a b : Str} {t : Tok} {kk1 kk2 kk3 : Nat} {p1 p2 p3 p4 p5 p6 p7 p8 p9 p10 p11 : Pos} {cn : Str} {cs : Scope} {f : Addr} {cd : Value} (F : Fr h₀ L s.heap m) (N : News h₀ L s.heap news) (hm : m (Str.ofString "text") = some (.str x t)) (hab : (a == b) = false) (hx : x.length ≤ 1048576) (hb : b.length ≤ 14)
    (h : ∀ h' tk t', Fr h₀ L h' (fun y => if y = Str.ofString "text" then some (.str (repl x a b) t') else m y) → News h₀ L h' news → Q .next { s with heap := h', toks := tk })
    (hk : cs.kind = .function) (hl : (envX cn cs L f cd []).kindOf (Str.ofString "text") = some .local) {pl : Sem Bool}
    (he : eval (.Call (.Attribute (.Name (Str.ofString "text") p5) (Str.ofString "replace") p6) [.Constant (.str a) kk2 p7, .Constant (.str b) kk3 p8] [] p9) (envX cn cs L f cd []) = (do
      let ov ← eval (.Name (Str.ofString "text") p5) (envX cn cs L f cd [])
      standAt p6.atName
      let (ff, first) ← holding [ov] (getMethod ov (Str.ofString "replace") pl)
      callWith p9 ff first (backTo p9 (starEach [.Constant (.str a) kk2 p7, .Constant (.str b) kk3 p8] (envX cn cs L f cd []))) []))
    (hsw : swapsWith (.Call (.Attribute (.Name (Str.ofString "text") p5) (Str.ofString "replace") p6) [.Constant (.str a) kk2 p7, .Constant (.str b) kk3 p8] [] p9) (some (.Name (Str.ofString "text") p4)) p10.line (envX cn cs L f cd []) = pure false) :
    wpAny (model prog w) A (exec (.If (.Compare (.Constant (.str a) kk1 p1) [.In] [.Name (Str.ofString "text") p2] p3) [.Assign [.Name (Str.ofString "text") p4] (.Call (.Attribute (.Name (Str.ofString "text") p5) (Str.ofString "replace") p6) [.Constant (.str a) kk2 p7, .Constant (.str b) kk3 p8] [] p9) p10] [] p11) (envX cn cs L f cd [])) Q E s := by
  refine wpAny_If (wpAny_isTrue_Compare1 (wpAny_Constant_str (nameX_L (s := { s with toks := s.toks + 1 }) F hm (in_str (wpAny_truthy_bool ?_)) hk hl)))
  by_cases hin : (!(Builtin.Str.occurrences x a 0 x.length 1).isEmpty) = true
  · rw [hin]
    have e : repl x a b = Txt.replace x a b := if_pos hin
    rw [e] at h
    refine wpAny_execs_cons (wpAny_Assign_Name (MethodCall_ (he := he) (nameX_L (s := { s with toks := s.toks + 1 }) F hm (GM.replace (callWith_method1 (spliced_more (wpAny_Constant_str (spliced_more (wpAny_Constant_str (spliced_none ?_)))))) ) hk hl)))
    refine SC.replaceW (Nat.succ_ne_zero _) (Nat.succ_ne_zero _) (Nat.ne_of_lt (Nat.lt_succ_self _)) hab hx hb fun t' k => ?_
    refine storeX_L (s := ⟨s.heap, s.gens, s.drawn, k, s.os⟩) F N (fun h' F' N' => ?_) hk hl
    exact wpAny_pure (h h' _ t' F' N')
  · rw [Bool.not_eq_true] at hin
    rw [hin]
    have e : repl x a b = x := if_neg (by rw [hin]; decide)
    rw [e] at h
    refine wpAny_pure (h s.heap _ t ?_ N)
    rw [map1 hm] at F
    exact F
end
variable {w : World} {p : Program} {loose : List Str} {mean : ExcName → Option Value} {mg mb : Str → Option Value} {dp un : Nat} {fr : Option (List Env)} {gd : Option (List Code)} {s : Shared} {E Q : Value → Shared → Prop}
theorem put_spec {x a b : Str} {t u v : Tok} {T : Addr} (X : (hd82.heap_39 w.params).In s.heap) (T' : Top p loose mean mg mb s.heap) (hd : dp + 2 < recursionLimit) (hT : s.heap.IsTuple T #[.str a u, .str b v])
    (hu : u ≠ 0) (hv : v ≠ 0) (huv : u ≠ v) (hab : (a == b) = false) (hx : x.length ≤ 1048576) (hb : b.length ≤ 14)
    (hret : ∀ h' tk t', Kp s.heap h' → Q (.str (Txt.replace x a b) t') { s with heap := h', toks := tk }) :
    wpAny (model PySem.Challenge.rw_op0082_01.row.prog w) ⟨none, dp, fr, gd, un⟩ (call (.ref 112) [.str x t, .ref T]) Q E s := by
  revert X; k_fill; intro X
  refine enterF T'.nolimit (X 112 _ (by k_is)) (by exact rfl) (codeRec_of X (by k_is)) (by show dp < _; omega) (BindsTo.of_eq rfl) (locs rfl) ?_ (by decide)
  intro L' h₁ m tk₀ _ hm F N
  have hm1 : m (Str.ofString "text") = some (.str x t) := hm _
  have hm2 : m (Str.ofString "pair") = some (.ref T) := hm _
  rw [map2 hm1 hm2] at F
  clear hm hm1 hm2
  k_steps
  exact hret _ _ _ F.keep
noncomputable def escP : List (Str × Str) := [("&", "&amp;"), ("<", "&lt;"), (">", "&gt;"), ("\"", "&quot;"), ("\r", "&#13;"), ("\n", "&#10;"), ("\t", "&#09;")]
noncomputable def escTo (k : Nat) (x : Str) : Str := (escP.take k).foldl (fun x q => repl x q.1 q.2) x
theorem esc_spec {x : Str} {t : Tok} (X : (hd82.heap_39 w.params).In s.heap) (T' : Top p loose mean mg mb s.heap) (hd : dp + 2 < recursionLimit) (hl : ∀ k, k ≤ 7 → (escTo k x).length ≤ 1048576)
    (hret : ∀ h' tk t', Kp s.heap h' → Q (.str (escTo 7 x) t') { s with heap := h', toks := tk }) :
    wpAny (model PySem.Challenge.rw_op0082_01.row.prog w) ⟨none, dp, fr, gd, un⟩ (call (.ref 91) [.str x t]) Q E s := by
  revert X; k_fill; intro X
  refine enterF T'.nolimit (X 91 _ (by k_is)) (by exact rfl) (codeRec_of X (by k_is)) (by show dp < _; omega) (BindsTo.of_eq rfl) (locs rfl) ?_ (by decide)
  intro L' h₁ m tk₀ _ hm F N
  have hm1 : m (Str.ofString "text") = some (.str x t) := hm _
  rw [map1 hm1] at F
  clear hm hm1
  refine wpAny_execs_cons (wpAny_Try_except (wpAny_mono (E := No) ?_ (fun _ _ h => h) (fun _ _ h => h.elim)))
  refine wpAny_execs_cons (esc_if F N rfl (by decide) (hl 0 (by decide)) (by decide) (fun h2 tk2 t2 F2 N2 => ?_) rfl rfl (by rfl) (by rfl))
  refine wpAny_execs_cons (esc_if F2 N2 rfl (by decide) (hl 1 (by decide)) (by decide) (fun h3 tk3 t3 F3 N3 => ?_) rfl rfl (by rfl) (by rfl))
  refine wpAny_execs_cons (esc_if F3 N3 rfl (by decide) (hl 2 (by decide)) (by decide) (fun h4 tk4 t4 F4 N4 => ?_) rfl rfl (by rfl) (by rfl))
  refine wpAny_execs_cons (esc_if F4 N4 rfl (by decide) (hl 3 (by decide)) (by decide) (fun h5 tk5 t5 F5 N5 => ?_) rfl rfl (by rfl) (by rfl))
  refine wpAny_execs_cons (esc_if F5 N5 rfl (by decide) (hl 4 (by decide)) (by decide) (fun h6 tk6 t6 F6 N6 => ?_) rfl rfl (by rfl) (by rfl))
  refine wpAny_execs_cons (esc_if F6 N6 rfl (by decide) (hl 5 (by decide)) (by decide) (fun h7 tk7 t7 F7 N7 => ?_) rfl rfl (by rfl) (by rfl))
  refine wpAny_execs_cons (esc_if F7 N7 rfl (by decide) (hl 6 (by decide)) (by decide) (fun h8 tk8 t8 F8 N8 => ?_) rfl rfl (by rfl) (by rfl))
  refine wpAny_execs_cons (wpAny_Return_some (nameX_L F8 rfl ?_))
  exact hret h8 _ t8 F8.keep
end Mine
end Tx1
section Tx2
open PySem PySem.W PyProof.Rows PySem.Calls PySem.Spec Mine
set_option Elab.async false
set_option pp.deepTerms false
set_option pp.maxSteps 1500
set_option maxRecDepth 100000
set_option maxHeartbeats 8000000
namespace Mine
theorem resetTx2 : True := by
  w_top off
  trivial
variable {w : World} {p : Program} {loose : List Str} {mean : ExcName → Option Value} {mg mb : Str → Option Value} {dp un : Nat} {fr : Option (List Env)} {gd : Option (List Code)} {s : Shared} {E Q : Value → Shared → Prop}
local macro_rules | `(tactic| walk_at "pyIter ref") => `(tactic| refine stay_out ?_)
local macro_rules | `(tactic| walk_at "exec For Name Name cons nil") => `(tactic| refine for_name ?_)
section
variable {prog : Program} {A : Around} {h₀ : Heap} {env : Env} {target : Expr} {body orelse : List Stmt} {Q : Flow → Shared → Prop} {m : Str → Option Value} {news : List (Addr × Obj)}
theorem for_at {fp : List Addr} {n : Nat} {P Md : Nat → Value → Heap → Prop} {St : Nat → Heap → Prop} {I : Addr}
    (W : KTurns prog w A target I fp [I] n P Md St)
    (hfp : ∀ b ∈ fp, b = I ∨ ∃ o, h₀.get? b = some o)
    (hlive : ∀ i h, St i h → ∃ o, h.get? I = some o) (hI0 : h₀.get? I = none) (hIL : env.locals ≠ I) (hnw : ∀ p ∈ news, p.1 ≠ I)
    (hst : St 0 s.heap) (F : Fr h₀ env.locals s.heap m) (N : News h₀ env.locals s.heap news)
    (J : Nat → (Str → Option Value) → List (Addr × Obj) → Prop) (h0 : J 0 m news)
    (step : ∀ i v m₁ news₁ h₁ tk₁ io, i < n → P i v h₁ → J i m₁ news₁ → (∀ p ∈ news₁, p.1 ≠ I) → Fr h₀ env.locals h₁ m₁ → News h₀ env.locals h₁ ((I, io) :: news₁) →
      wpAny (model prog w) A (assign target env v) (fun _ s₂ => wpAny (model prog w) A (execs body env) (TurnPost h₀ env.locals s [I] [(I, io)] (J (i + 1)) Q) No s₂) No { s with heap := h₁, toks := tk₁ })
    (hR : ∀ h' tk m' news', Fr h₀ env.locals h' m' → News h₀ env.locals h' news' → J n m' news' → wpAny (model prog w) A (execs orelse env) Q No { s with heap := h', toks := tk }) :
    codeAny (model prog w) A (.forLoop target (.ref I) body orelse env) (LoopR prog w A env Q E) s := by
  refine for_core (ws := [I]) W (fun b hb => (hfp b hb).imp (fun e => by rw [e]; exact .head _) id) (fun b hb => ?_) (fun b hb => hb) (fun i h st b hb => by rw [List.mem_singleton.mp hb]; exact hlive i h st)
    (fun q => hIL (List.mem_singleton.mp q)) (fun p hp q => hnw p hp (List.mem_singleton.mp q)) hst F N J h0 ?_ hR
  · rw [List.mem_singleton.mp hb]
    exact ⟨W.sub _ (.head _), hI0⟩
  · intro i v m₁ news₁ h₁ tk₁ its hi hP hJ hnw' hits F₁ N₁
    obtain ⟨io, rfl⟩ : ∃ io, its = [(I, io)] := by
      cases its with
      | nil => cases hits
      | cons p its =>
        cases its with
        | nil => obtain ⟨a, o⟩ := p; have e : a = I := List.head_eq_of_cons_eq hits; exact ⟨o, by rw [e]⟩
        | cons q its => exact absurd (congrArg List.length hits) (by simp)
    exact step i v m₁ news₁ h₁ tk₁ io hi hP hJ (fun p hp e => hnw' p hp (by rw [e]; exact .head _)) F₁ N₁
end
theorem call_iter {prog : Program} {A : Around} {x : Value} (h : wpAny (model prog w) A.in1 (pyIter x) Q E s) : wpAny (model prog w) A (call (.builtin "iter") [x]) Q E s := by
  refine call_function_entry (by decide +kernel) (by decide +kernel) kdk_entry_iter (kdk_args_iter _) ?_
  unfold Builtin.«iter»
  refine wpAny_bind (m := someArgs "iter" 1 2 _) (wpAny_of_eq (a := [x]) (by first | rfl | kernel_rfl!) ?_)
  dsimp only
  exact wpAny_bind (wpAny_mono h (fun v s' hv => wpAny_pure ⟨_, rfl, hv⟩) fun _ _ e => e)
noncomputable def TurnAt (w : World) (f : Addr) (dn du : Nat) (h : Heap) (x : Str) (v : Value) (y : Str) : Prop :=
  ∀ (A : Around) (s : Shared) (Q E : Value → Shared → Prop) t, Ok A dn du → Kp h s.heap → (∀ h' tk t', Kp s.heap h' → Q (.str y t') { s with heap := h', toks := tk }) → wpAny (model PySem.Challenge.rw_op0082_01.row.prog w) A (call (.ref f) [.str x t, v]) Q E s
/-- what reduce asks of a sequence: its iterator, and that it hands on the items -/
structure SeqAt (w : World) (h : Heap) (l : Addr) (n : Nat) (Pv : Nat → Value → Prop) (io : Obj) (fpx : List Addr) (St : Addr → Nat → Heap → Prop) : Prop where
  fresh : io.isFreed = false
  old : ∀ a ∈ fpx, ∃ o, h.get? a = some o
  py : ∀ (A : Around) (s' : Shared) (Q E : Value → Shared → Prop), Kp h s'.heap → Q (.ref s'.heap.objs.size) { s' with heap := s'.heap.push io } → wpAny (model PySem.Challenge.rw_op0082_01.row.prog w) A (pyIter (.ref l)) Q E s'
  self : ∀ (A : Around) (I : Addr) (s' : Shared) (Q E : Value → Shared → Prop), s'.heap.get? I = some io → Q (.ref I) s' → wpAny (model PySem.Challenge.rw_op0082_01.row.prog w) A (pyIter (.ref I)) Q E s'
  turns : ∀ (A : Around) (I : Addr) (x : Str) (px : Pos), A.handled = none → (∀ a ∈ fpx, a ≠ I) → ∃ Md, KTurns PySem.Challenge.rw_op0082_01.row.prog w A (.Name x px) I (I :: fpx) [I] n (fun i v _ => Pv i v) Md (St I)
  live : ∀ I i h', St I i h' → ∃ o, h'.get? I = some o
  start : ∀ I h', Kp h h' → h'.get? I = some io → St I 0 h'
theorem red_gen {dn du : Nat} {f l : Addr} {n : Nat} {Pv : Nat → Value → Prop} {io : Obj} {fpx : List Addr} {St : Addr → Nat → Heap → Prop} {g : Nat → Str} {t : Tok} (X : (hd82.heap_39 w.params).In s.heap) (T' : Top p loose mean mg mb s.heap) (hd : dp + 1 + dn < recursionLimit) (hu : un + 3 + du < cLine) (hl : SeqAt w s.heap l n Pv io fpx St) (hf : FnAt f s.heap)
    (turn : ∀ i v, i < n → Pv i v → TurnAt w f dn du s.heap (g i) v (g (i + 1)))
    (hret : ∀ h' tk t', Kp s.heap h' → Q (.str (g n) t') { s with heap := h', toks := tk }) :
    wpAny (model PySem.Challenge.rw_op0082_01.row.prog w) ⟨none, dp, fr, gd, un⟩ (call (.ref 30) [.ref f, .ref l, .str (g 0) t]) Q E s := by
  revert X; k_fill; intro X
  refine enterF T'.nolimit (X 30 _ (by k_is)) (by exact rfl) (codeRec_of X (by k_is)) (by show dp < _; omega) (BindsTo.of_defaults rfl (X _ _ (by k_is)) rfl (by rfl) (by rfl)) (locs rfl) ?_ (by decide)
  intro L' h₁ m tk₀ _ hm F N
  have hm1 : m (Str.ofString "function") = some (.ref f) := hm _
  have hm2 : m (Str.ofString "sequence") = some (.ref l) := hm _
  have hm3 : m (Str.ofString "initial") = some (.str (g 0) t) := hm _
  rw [map3 hm1 hm2 hm3] at F
  clear hm hm1 hm2 hm3
  k_steps
  refine call_iter (hl.py _ _ _ _ F.keep ?_)
  have F2 := F.push io
  have N2 := N.push F io hl.fresh
  have hLs : L' < h₁.objs.size := F.ns.lt
  have lt : ∀ a ∈ fpx, a ≠ h₁.objs.size := fun a ha => let ⟨o, e⟩ := hl.old a ha; Nat.ne_of_lt (Heap.lt_size (F.keep _ _ e))
  clear F N
  k_steps
  refine wpAny_of_eq (a := .bool false) (by rfl) ?_
  k_steps
  rename Fr _ _ _ _ => F3
  rename News _ _ _ _ => N3
  unfold stay
  have hI0 : s.heap.get? h₁.objs.size = none := Heap.get?_none_of_le (Nat.le_trans F3.above (Nat.le_of_lt hLs))
  have gI := (N3 _ (.head _)).1
  refine hl.self _ _ _ _ _ gI ?_
  obtain ⟨Md, W⟩ := hl.turns (({ depth := dp, frames := fr, guards := gd, units := un } : Around).deeper (envX _ _ L' 30 (.ref 29) [])) h₁.objs.size _ _ rfl lt
  refine for_at (news := []) W (fun b hb => ?_) (fun i h st => hl.live _ _ _ st) hI0 (Nat.ne_of_lt hLs) (fun p hp => nomatch hp) (hl.start _ _ F3.keep gI) F3 (fun p hp => nomatch hp)
    (fun i m news => m (Str.ofString "function") = some (.ref f) ∧ (∃ t', m (Str.ofString "value") = some (.str (g i) t')) ∧ news = []) ⟨rfl, ⟨_, rfl⟩, rfl⟩ ?_ ?_
  · rcases List.mem_cons.mp hb with e | hb
    · exact .inl e
    · exact .inr (hl.old _ hb)
  · rintro i v m₁ news₁ h₂ tk₁ io' hi hP ⟨hm1, ⟨t', hm2⟩, rfl⟩ hoff F4 N5
    replace F4 : Fr s.heap L' h₂ m₁ := F4
    replace N5 : News s.heap L' h₂ [(h₁.objs.size, io')] := N5
    rw [map2 hm1 hm2] at F4
    refine assign_name rfl rfl F4 N5 ?_
    clear F4 N5 F3 N3 hm1 hm2
    intro h₃ tk₃ F6 N6
    have hf3 : FnAt f h₃ := let ⟨a, b, c, d, e⟩ := hf; ⟨a, b, c, d, F6.keep _ _ e⟩
    k_steps
    refine callWith_F hf3 (spliced_more (nameX_L F6 rfl (spliced_more (nameX_L F6 rfl (spliced_none ⟨hf3, ?_⟩)))))
    refine turn i v hi hP _ _ _ _ t' ⟨rfl, hd, hu⟩ F6.keep fun h' tk t2 k2 => ?_
    have F7 := frKp F6 k2
    have N7 := newsKp N6 k2
    clear F6 N6 hf3
    k_steps
    rename Fr _ _ _ _ => F9
    rename News _ _ _ _ => N9
    exact LE.intro F9 N9 (fun p hp => hp) (fun p hp => nomatch hp) ⟨rfl, ⟨_, rfl⟩, rfl⟩
  · rintro h₂ tk₁ m₁ news₁ F4 N5 ⟨hm1, ⟨t', hm2⟩, rfl⟩
    replace F4 : Fr s.heap L' h₂ m₁ := F4
    replace N5 : News s.heap L' h₂ [] := N5
    rw [map2 hm1 hm2] at F4
    clear hm1 hm2 F3 N3
    k_steps
    exact hret _ _ _ F4.keep
theorem seq_list {h : Heap} {l : Addr} {vs : List Value} (hl : h.IsList l vs.toArray) :
    SeqAt w h l vs.toArray.size (fun i v => vs.toArray[i]? = some v) { cls := .type "list_iterator", data := .fields #[.ref l, .int 0 0] } [l] (fun I i h => h.IsListIter I l i ∧ h.IsList l vs.toArray) := by
  obtain ⟨lo, lg, lc, ln, ld⟩ := id hl
  exact ⟨rfl, fun a ha => ⟨lo, by rw [List.mem_singleton.mp ha]; exact lg⟩, fun A s' Q E k q => wpAny_pyIter_list (⟨lo, k _ _ lg, lc, ln, ld⟩ : s'.heap.IsList l vs.toArray) q, fun A I s' Q E e q => wpAny_pyIter_listiter (l := l) (i := 0) ⟨_, e, rfl, rfl⟩ q,
    fun A I x px hh hne => ⟨_, KTurns.ofWalks (target := .Name x px) (Walks.list (prog := PySem.Challenge.rw_op0082_01.row.prog) (w := w) hh I l (hne l (.head _)) vs.toArray) fun i v s Q E st q => letGo_listiter st.1 q⟩, fun I i h' st => let ⟨o, ho, _⟩ := st.1; ⟨o, ho⟩, fun I h' k e => ⟨⟨_, e, rfl, rfl⟩, ⟨lo, k _ _ lg, lc, ln, ld⟩⟩⟩
theorem seq_range {h : Heap} {r : Addr} {n : Nat} {t u v : Tok} (hr : IsRange h r 0 (n : Int) 1 t u v) (hn : n ≤ 64) :
    SeqAt w h r n (fun i v => ∃ t, v = .int (0 + (i : Int) * 1) t) { cls := .type "range_iterator", data := .fields #[rawInt 0, rawInt (n : Int), rawInt 1] } [] (fun I i h => IsRangeIter h I (0 + (i : Int) * 1) ((n : Int) - i) 1) := by
  refine ⟨rfl, (fun a ha => nomatch ha), fun A s' Q E k q => wpAny_pyIter_range (k _ _ hr) (small_one (by omega) (by omega) (by omega) (by omega)) ?_, fun A I s' Q E e q => wpAny_pyIter_rangeiter (x := 0) (left := n) (step := 1) e q, fun A I x px hh hne => ⟨_, KTurns.ofWalks (Walks.range hh I 0 1 n) fun i v s Q E st q => wpAny_pure q⟩, fun I i h' st => ⟨_, st⟩, fun I h' k e => ?_⟩
  · rw [size_rg]; exact q
  · simpa [IsRangeIter] using e
end Mine
end Tx2
section Tx3
open PySem PySem.W PyProof.Rows PySem.Calls PySem.Spec Mine
set_option Elab.async false
set_option pp.deepTerms false
set_option pp.maxSteps 1500
set_option maxRecDepth 100000
set_option maxHeartbeats 8000000
namespace Mine
theorem resetTx3 : True := by
  w_top off
  trivial
theorem enterFt {prog : Program} {w : World} {A : Around} {s : Shared} {E : Value → Shared → Prop} {Q : Value → Shared → Prop} {f : Addr} {fo : Obj} {name qual : Str} {params : Arguments} {body : List Stmt} {scope : Scope} {cl : List (Str × Addr)} {dV kV doc pm cdv ct : Value} {an : Option Addr} {pos : List Value} {kw : List (Str × Value)} {binds : List (Str × Value)}
    (hlim : s.heap.NoLimit) (ho : s.heap.get? f = some fo) (hd : fo.data = .func (fnX name qual params body scope cl dV kV doc pm an cdv ct)) (hcd : s.heap.CodeRec cdv qual) (hroom : A.depth < recursionLimit)
    (hbind : BindsTo s (fnX name qual params body scope cl dV kV doc pm an cdv ct) ⟨pos, kw⟩ binds) (hloc : ∀ y ∈ binds, scope.names.lookup y.1 = some .local)
    (h : ∀ L' h₁ m tk₁, L' = s.heap.objs.size → tk₁ = s.toks + binds.length → (∀ y, m y = binds.reverse.lookup y) → Fr s.heap L' h₁ m → News s.heap L' h₁ [] →
      wpAny (model prog w) (A.deeper (envX qual scope L' f cdv cl)) (execs body (envX qual scope L' f cdv cl))
        (fun fl s' => Q (match fl with | .ret v => v | _ => .none) s') No { s with heap := h₁, toks := tk₁ })
    (hcell : ∀ x ∈ scope.names, x.2 ≠ .cell) (hco : scope.isCoroutine = false := by rfl) (hgen : scope.isGenerator = false := by rfl) (hk : scope.kind = .function := by rfl) :
    wpAny (model prog w) A (call (.ref f) pos kw) Q E s := by
  refine wpAny_call (codeAny_call_def (fd := fnX name qual params body scope cl dV kV doc pm an cdv ct) (body := body) (binds := binds) hroom ho hd hlim hcd rfl hbind hcell hloc (fun h₁ hns hk₁ => ?_) hco hgen hk)
  refine wpAny_mono (h _ h₁ _ _ rfl rfl (fun _ => rfl) ⟨hns, hk₁, Nat.le_refl _⟩ News.nil) (fun fl s' q => q) fun _ _ x => x.elim
variable {w : World} {p : Program} {loose : List Str} {mean : ExcName → Option Value} {mg mb : Str → Option Value} {dp un : Nat} {fr : Option (List Env)} {gd : Option (List Code)} {s : Shared} {E Q : Value → Shared → Prop}
noncomputable def spP : List (Str × Str) := [("&amp;", "&<"), ("&lt;", "&>"), ("&gt;", "&\""), ("&quot;", "&\r"), ("&#13;", "&\n")]
noncomputable def spTo (x : Str) (k : Nat) : Str := (spP.take k).foldl (fun x q => Txt.replace x q.1 q.2) (escTo 7 x)
local macro_rules | `(tactic| walk_at "call ref") => `(tactic| refine stay_out ?_)
theorem rnd_spec {x : Str} {v : Value} {t : Tok} (X : (hd82.heap_39 w.params).In s.heap) (T' : Top p loose mean mg mb s.heap) (hd : dp + 8 < recursionLimit) (hu : un + 40 < cLine) (hl : ∀ k, k ≤ 7 → (escTo k x).length ≤ 1048576) (hl2 : ∀ k, k ≤ 5 → (spTo x k).length ≤ 1048576)
    (hret : ∀ h' tk t', Kp s.heap h' → Q (.str (spTo x 5) t') { s with heap := h', toks := tk }) :
    wpAny (model PySem.Challenge.rw_op0082_01.row.prog w) ⟨none, dp, fr, gd, un⟩ (call (.ref 119) [.str x t, v]) Q E s := by
  revert X; k_fill; intro X
  refine enterFt T'.nolimit (X 119 _ (by k_is)) (by exact rfl) (codeRec_of X (by k_is)) (by show dp < _; omega) (BindsTo.of_eq rfl) (locs rfl) ?_ (by decide)
  intro L' h₁ m tk₁ _ htk hm F N
  have htk0 : 0 < tk₁ := by rw [htk]; exact Nat.lt_of_lt_of_le (by decide) (Nat.le_add_left 2 _)
  clear htk
  have hm1 : m (Str.ofString "text") = some (.str x t) := hm _
  have hm2 : m (Str.ofString "turn") = some v := hm _
  rw [map2 hm1 hm2] at F
  clear hm hm1 hm2
  k_steps
  rename Fr _ _ _ _ => F1
  rename News _ _ _ _ => N1
  unfold stay
  refine esc_spec (X.keeps F1.keep) (T'.keeps F1.keep) (by show dp + 1 + 2 < _; omega) hl fun h2 tk2 t2 k2 => ?_
  have F2 := frKp F1 k2
  have N2 := newsKp N1 k2
  clear F1 N1
  k_steps
  unfold stay
  have lst : h2.IsList _ _ := ⟨_, (N2 _ (.head _)).1, rfl, 0, rfl⟩
  have t5 := (N2 _ (.tail _ (.head _))).1
  have t4 := (N2 _ (.tail _ (.tail _ (.head _)))).1
  have t3 := (N2 _ (.tail _ (.tail _ (.tail _ (.head _))))).1
  have t1 := (N2 _ (.tail _ (.tail _ (.tail _ (.tail _ (.head _)))))).1
  have t0 := (N2 _ (.tail _ (.tail _ (.tail _ (.tail _ (.tail _ (.head _))))))).1
  have f112 : FnAt 112 h2 := ⟨_, _, _, _, F2.keep _ _ (X 112 _ (by k_is))⟩
  have e0 : escTo 7 x = spTo x 0 := rfl
  rw [e0]
  refine red_gen (dn := 3) (du := 10) (g := spTo x) (X.keeps F2.keep) (T'.keeps F2.keep) (by show dp + 1 + 1 + 3 < _; omega) (by show un + 3 + 3 + 10 < _; omega) (seq_list lst) f112 (fun i v hi hv => ?_) fun h' tk t' k' => hret h' tk t' (Kp.trans F2.keep k')
  intro A s' Q' E' u o k hq
  obtain ⟨ah, ad, af, ag, au⟩ := A
  obtain rfl : ah = none := o.hh
  have od := o.hd
  have X' := X.keeps (Kp.trans F2.keep k)
  have T2 := T'.keeps (Kp.trans F2.keep k)
  have li := hl2 i (Nat.le_of_lt hi)
  have nz : ∀ n, tk₁ + n ≠ 0 := fun n => Nat.ne_of_gt (Nat.lt_of_lt_of_le htk0 (Nat.le_add_right _ _))
  have ns : ∀ n : Nat, n ≠ n + 1 := fun n => Nat.ne_of_lt (Nat.lt_succ_self n)
  have five : i = 0 ∨ i = 1 ∨ i = 2 ∨ i = 3 ∨ i = 4 := by
    have : i < 5 := hi
    omega
  have dq : ad + 2 < recursionLimit := by dsimp only at od; omega
  rcases five with rfl | rfl | rfl | rfl | rfl
  · cases hv; exact put_spec X' T2 dq ⟨_, k _ _ t0, rfl, 0, rfl⟩ (nz 0) (nz 1) (ns _) (by decide) li (by decide) hq
  · cases hv; exact put_spec X' T2 dq ⟨_, k _ _ t1, rfl, 0, rfl⟩ (nz 2) (nz 3) (ns _) (by decide) li (by decide) hq
  · cases hv; exact put_spec X' T2 dq ⟨_, k _ _ t3, rfl, 0, rfl⟩ (nz 4) (nz 5) (ns _) (by decide) li (by decide) hq
  · cases hv; exact put_spec X' T2 dq ⟨_, k _ _ t4, rfl, 0, rfl⟩ (nz 6) (nz 7) (ns _) (by decide) li (by decide) hq
  · cases hv; exact put_spec X' T2 dq ⟨_, k _ _ t5, rfl, 0, rfl⟩ (nz 8) (nz 9) (ns _) (by decide) li (by decide) hq
noncomputable def signs : List Nat := [38, 60, 38, 62, 38, 60, 38, 34, 38, 60, 38, 62, 38, 60, 38, 13, 38, 60, 38, 62, 38, 60, 38, 34, 38, 60, 38, 62, 38, 60, 38, 10]
/-- the text's rounds -/
noncomputable def rnds (k : Nat) : Str := ⟨(signs.take (2 ^ k)).toArray⟩
noncomputable def rndOk (x : Str) : Bool := ((List.range 8).all fun k => decide ((escTo k x).length ≤ 1048576)) && (List.range 6).all fun k => decide ((spTo x k).length ≤ 1048576)
theorem rndOk_of {x : Str} (h : rndOk x = true) : (∀ k, k ≤ 7 → (escTo k x).length ≤ 1048576) ∧ ∀ k, k ≤ 5 → (spTo x k).length ≤ 1048576 := by
  unfold rndOk at h
  simp only [Bool.and_eq_true, List.all_eq_true, decide_eq_true_eq, List.mem_range] at h
  exact ⟨fun k hk => h.1 k (by omega), fun k hk => h.2 k (by omega)⟩
theorem rnds_at0 : (rndOk (rnds 0) && spTo (rnds 0) 5 == rnds (0 + 1)) = true := by decide +kernel
theorem rnds_at1 : (rndOk (rnds 1) && spTo (rnds 1) 5 == rnds (1 + 1)) = true := by decide +kernel
theorem rnds_at2 : (rndOk (rnds 2) && spTo (rnds 2) 5 == rnds (2 + 1)) = true := by decide +kernel
theorem rnds_at3 : (rndOk (rnds 3) && spTo (rnds 3) 5 == rnds (3 + 1)) = true := by decide +kernel
theorem rnds_at4 : (rndOk (rnds 4) && spTo (rnds 4) 5 == rnds (4 + 1)) = true := by decide +kernel
theorem rnds_all : ∀ k, k < 5 → (rndOk (rnds k) && spTo (rnds k) 5 == rnds (k + 1)) = true
  | 0, _ => rnds_at0
  | 1, _ => rnds_at1
  | 2, _ => rnds_at2
  | 3, _ => rnds_at3
  | 4, _ => rnds_at4
  | n + 5, h => absurd h (Nat.not_lt.mpr (Nat.le_add_left 5 n))
theorem rnds_ok (k : Nat) (hk : k < 5) : rndOk (rnds k) = true := (Bool.and_eq_true_iff.mp (rnds_all k hk)).1
theorem rnds_step (k : Nat) (hk : k < 5) : spTo (rnds k) 5 = rnds (k + 1) := eq_of_beq (Bool.and_eq_true_iff.mp (rnds_all k hk)).2
theorem rnds_end : rnds 5 = ⟨signs.toArray⟩ := by decide +kernel
theorem text_spec {r : Addr} {t u v t0 : Tok} (X : (hd82.heap_39 w.params).In s.heap) (T' : Top p loose mean mg mb s.heap) (hd : dp + 14 < recursionLimit) (hu : un + 80 < cLine) (hr : IsRange s.heap r 0 5 1 t u v)
    (hret : ∀ h' tk t', Kp s.heap h' → Q (.str ⟨signs.toArray⟩ t') { s with heap := h', toks := tk }) :
    wpAny (model PySem.Challenge.rw_op0082_01.row.prog w) ⟨none, dp, fr, gd, un⟩ (call (.ref 30) [.ref 119, .ref r, .str "&" t0]) Q E s := by
  have f119 : FnAt 119 s.heap := ⟨_, _, _, _, X 119 _ (by k_is)⟩
  have e0 : Str.ofString "&" = rnds 0 := by decide +kernel
  rw [e0]
  refine red_gen (dn := 9) (du := 50) (g := rnds) (n := 5) X T' (by omega) (by omega) (seq_range hr (by decide)) f119 (fun i v hi hv => ?_) fun h' tk t' k' => by rw [rnds_end]; exact hret h' tk t' k'
  intro A s' Q' E' u o k hq
  obtain ⟨ah, ad, af, ag, au⟩ := A
  obtain rfl : ah = none := o.hh
  obtain ⟨o1, o2⟩ := rndOk_of (rnds_ok i hi)
  have od := o.hd
  have ou := o.hu
  dsimp only at od ou
  rw [← rnds_step i hi] at hq
  exact rnd_spec (X.keeps k) (T'.keeps k) (by omega) (by omega) o1 o2 hq
end Mine
end Tx3
section Li1
open PySem PySem.W PyProof.Rows PySem.Calls PySem.Spec Mine
set_option Elab.async false
set_option pp.deepTerms false
set_option pp.maxSteps 600
set_option maxRecDepth 100000
namespace Mine
section
variable {prog : Program} {w : World} {A : Around} {E : Value → Shared → Prop} {s : Shared}
theorem noFill_ilist : fillsInplaceSlot (.type "list") "add" true = pure false := by
  unfold fillsInplaceSlot
  show (typeLookup (.type "list") (dunderI "add") >>= fun fi => _) = _
  rw [PySem.F.slot_list_iadd.lookup]
  kernel_rfl
theorem seq_list_iadd : seqSlot? (.type "list") (dunderI "add") = pure (some (.builtin "list.__iadd__")) := by
  unfold seqSlot?
  rw [PySem.F.slot_list_iadd.lookup]
  kernel_rfl
theorem iadd_list {D D' : Addr} {xs ys : List Value} {c c2 : Nat} {Q : Value → Shared → Prop} (hD : s.heap.get? D = some (W.listOf (List.toArray xs) c)) (hD' : s.heap.get? D' = some (W.listOf (List.toArray ys) c2)) (hne : D ≠ D') (hsz : xs.length + ys.length ≤ 1000000)
    (h : ∀ h' c', h'.get? D = some (W.listOf (List.toArray (xs ++ ys)) c') → Heap.SameBut D s.heap h' → Q (.ref D) { s with heap := h' }) :
    wpAny (model prog w) A (inplaceOp .Add (.ref D) (.ref D')) Q E s := by
  unfold inplaceOp
  refine wpAny_holding ?_
  refine wpAny_bind (wpAny_typeOf (T := "list") ⟨_, hD, rfl⟩ (wpAny_bind (wpAny_of_eq noFill_ilist ?_)))
  show wpAny _ A (if false = true then _ else _) Q E s
  rw [if_neg Bool.false_ne_true]
  have tD : s.TypeIs (.ref D) "list" := ⟨_, hD, rfl⟩
  have tD2 : s.TypeIs (.ref D') "list" := ⟨_, hD', rfl⟩
  refine wpAny_bind (wpAny_binaryOp1_none (nm := "add") tD tD2 noFill_list_add ?_)
  refine wpAny_bind (wpAny_of_eq seq_list_iadd ?_)
  refine wpAny_bind (wpAny_rule ?_)
  refine wpAny_call_entry PySem.F.slot_list_iadd tD entry_list_iadd' ?_ (PySem.F.args_list_iadd_2 _ _)
  show wpAny _ _ (Builtin.List.listExtendWith (.ref D) (.ref D') (.ref D)) _ _ _
  unfold Builtin.List.listExtendWith
  refine wpAny_bind (wpAny_typeOf tD2 ?_)
  have ht : (Value.type "list" == Value.type "list") = true := by rfl
  rw [if_pos (by rw [ht]; simp)]
  refine wpAny_bind (listItems_at hD' rfl ?_)
  refine wpAny_bind (listItems_at hD rfl ?_)
  rw [if_neg (by simp [Builtin.List.listTooLong, sizeLine_eq]; omega)]
  obtain ⟨c3, hc⟩ : ∃ c3, (s.heap.update D (Obj.mapSeq (· ++ ys.toArray))).get? D = some (seqObj "list" (xs.toArray ++ ys.toArray) c3) := ⟨_, get?_update_seq hD (· ++ ys.toArray)⟩
  refine wpAny_bind (listUpdate_at hD rfl ?_ (by rw [List.size_toArray, sizeLine_eq]; omega) (by show (xs.toArray ++ ys.toArray).size ≤ _; rw [Array.size_append, List.size_toArray, List.size_toArray, sizeLine_eq]; omega))
  refine wpAny_pure ⟨_, rfl, (h _ c3 ?_ (Heap.SameBut.update ..))⟩
  rw [List.append_toArray] at hc
  exact hc
end
end Mine
end Li1
section Mt1
open PySem PySem.W PyProof.Rows PySem.Calls PySem.Spec Mine
set_option Elab.async false
set_option pp.deepTerms false
set_option pp.maxSteps 1500
set_option maxRecDepth 100000
set_option maxHeartbeats 8000000
namespace Mine
theorem resetMt1 : True := by
  w_top off
  trivial
noncomputable def sidx (c : Nat) : Nat := if c = 38 then 0 else if c = 60 then 1 else if c = 62 then 2 else if c = 34 then 3 else 4
noncomputable def wishStep (us : List Int) (w : Int) (c : Nat) : Int := if c = 10 then w else w + (if (w.fdiv (us.getD (4 - sidx c) 0)).fmod 2 = 0 then us.getD (4 - sidx c) 0 else -us.getD (4 - sidx c) 0)
noncomputable def idxOf (os : List Int) (w : Int) : List Int := ((List.range os.length).filter fun k => os.getD k 0 == w).map fun (k : Nat) => (k : Int)
noncomputable def metGo (os us : List Int) : List Nat → Int → List Int
  | [], _ => []
  | c :: cs, w => idxOf os w ++ metGo os us cs (wishStep us w c)
variable {w : World} {p : Program} {loose : List Str} {mean : ExcName → Option Value} {mg mb : Str → Option Value} {dp un : Nat} {fr : Option (List Env)} {gd : Option (List Code)} {s : Shared} {E Q : Value → Shared → Prop}
local macro_rules | `(tactic| walk_at "call ref") => `(tactic| refine stay_out ?_)
local macro_rules | `(tactic| walk_at "pyIter str") => `(tactic| refine stay_out ?_)
local macro_rules | `(tactic| walk_at "exec For Name Call cons nil") => `(tactic| refine for_call ?_)
local macro_rules | `(tactic| walk_at "eval ListComp") => `(tactic| refine stay_out ?_)
local macro_rules | `(tactic| walk_at "pyIter ref") => `(tactic| refine stay_out ?_)
theorem walks_bounded {prog : Program} {A : Around} {I : Addr} {fp wr : List Addr} {n : Nat} {P : Nat → Value → Prop} {St : Nat → Heap → Prop} (W : Walks prog w A I fp wr n P St) : Walks prog w A I fp wr n (fun i v => i < n ∧ P i v) St :=
  ⟨W.sub, W.frame, fun i s Q E hi st hQ => W.item i s Q E hi st fun v h' tk hP => hQ v h' tk ⟨hi, hP⟩, W.done, W.self⟩
theorem ints_off : ∀ (vs : List Value) (k : Nat), (∀ (j : Nat) v, vs[j]? = some v → ∃ t, v = .int ((k + j : Nat) : Int) t) → IntsAre vs ((List.range' k vs.length).map fun (i : Nat) => (i : Int))
  | [], _, _ => .nil
  | v :: vs, k, h => by
    obtain ⟨t, rfl⟩ := h 0 v rfl
    rw [List.length_cons, List.range'_succ, List.map_cons]
    refine .cons _ t (ints_off vs (k + 1) fun j v hv => ?_)
    obtain ⟨u, e⟩ := h (j + 1) v (by rw [List.getElem?_cons_succ]; exact hv)
    exact ⟨u, by rw [e, show k + (j + 1) = k + 1 + j by omega]⟩
theorem ints_filter {p : Value → Bool} {q : Int → Bool} (hp : ∀ n t, p (.int n t) = q n) : ∀ {vs : List Value} {ns : List Int}, IntsAre vs ns → IntsAre (vs.filter p) (ns.filter q)
  | _, _, .nil => .nil
  | _, _, .cons n t h => by
    rw [List.filter_cons, List.filter_cons, hp]
    split
    · exact .cons n t (ints_filter hp h)
    · exact ints_filter hp h
theorem paired_eq {α : Type} : ∀ {l₁ l₂ : List α}, Paired (fun v y => y = v) l₁ l₂ → l₂ = l₁
  | _, _, .nil => rfl
  | _, _, .cons h t => by rw [h, paired_eq t]
theorem comp_out {p : Value → Bool} {q : Nat → Bool} {n : Nat} {vs l : List Value} (hl : vs.length = n) (hP : ∀ (j : Nat) v, vs[j]? = some v → j < n ∧ ∃ t, v = .int (0 + (j : Int) * 1) t) (hF : Paired (fun v y => y = v) (vs.filter p) l) (hp : ∀ (z : Int) t, p (.int z t) = q z.toNat) :
    IntsAre l (((List.range n).filter q).map fun (k : Nat) => (k : Int)) := by
  rw [paired_eq hF]
  have h1 := ints_off vs 0 fun j v hv => by
    obtain ⟨_, t, e⟩ := hP j v hv
    exact ⟨t, by rw [e]; congr 1; omega⟩
  rw [hl, ← List.range_eq_range'] at h1
  have h2 := ints_filter (p := p) (q := fun z => q z.toNat) hp h1
  rw [List.filter_map] at h2
  exact h2
theorem signs_in : ∀ c ∈ signs, c = 10 ∨ c = 38 ∨ c = 60 ∨ c = 62 ∨ c = 34 ∨ c = 13 := by decide
theorem sidx_le (c : Nat) : sidx c ≤ 4 := by unfold sidx; (repeat' split) <;> omega
noncomputable def isS (x : Str) : Value → Bool
  | .str a _ => a == x
  | _ => false
theorem five_cases {P : Nat → Prop} (h0 : P 0) (h1 : P 1) (h2 : P 2) (h3 : P 3) (h4 : P 4) : ∀ m, m < 5 → P m
  | 0, _ => h0
  | 1, _ => h1
  | 2, _ => h2
  | 3, _ => h3
  | 4, _ => h4
  | n + 5, h => absurd h (by omega)
theorem idx_call {prog : Program} {A : Around} {l : Addr} {c n : Nat} {u t1 t2 t3 t4 t5 : Tok} (hc : c = 38 ∨ c = 60 ∨ c = 62 ∨ c = 34 ∨ c = 13)
    (hg : s.heap.get? l = some (W.listOf #[.str (Str.ofString "&") t1, .str (Str.ofString "<") t2, .str (Str.ofString ">") t3, .str (Str.ofString "\"") t4, .str (Str.ofString "\r") t5] n)) (h : Q (.int (sidx c : Int) s.toks) { s with toks := s.toks + 1 }) :
    wpAny (model prog w) A (call (.builtin "list.index") [.ref l, .str ⟨#[c]⟩ u]) Q E s := by
  have he : ∀ y, y ∈ #[Value.str (Str.ofString "&") t1, .str (Str.ofString "<") t2, .str (Str.ofString ">") t3, .str (Str.ofString "\"") t4, .str (Str.ofString "\r") t5] → MeetsSeq.EqGives y (.str ⟨#[c]⟩ u) (isS ⟨#[c]⟩ y) := by
    intro y hy
    simp only [List.mem_toArray, List.mem_cons, List.not_mem_nil, or_false] at hy
    rcases hy with rfl | rfl | rfl | rfl | rfl <;> exact eqGives_str _ _ _ _
  have key : ∀ j (hj : j < 5), (∀ m, m < 5 → isS ⟨#[c]⟩ (#[Value.str (Str.ofString "&") t1, .str (Str.ofString "<") t2, .str (Str.ofString ">") t3, .str (Str.ofString "\"") t4, .str (Str.ofString "\r") t5].getD m .none) = decide (m = j)) → sidx c = j → wpAny (model prog w) A (call (.builtin "list.index") [.ref l, .str ⟨#[c]⟩ u]) Q E s := by
    intro j hj hm hs
    rw [hs] at h
    have g : ∀ m (hm : m < 5), (#[Value.str (Str.ofString "&") t1, .str (Str.ofString "<") t2, .str (Str.ofString ">") t3, .str (Str.ofString "\"") t4, .str (Str.ofString "\r") t5])[m]'hm = #[Value.str (Str.ofString "&") t1, .str (Str.ofString "<") t2, .str (Str.ofString ">") t3, .str (Str.ofString "\"") t4, .str (Str.ofString "\r") t5].getD m .none := fun m hm => by
      simp [Array.getD, hm]
    exact call_meets PySem.F.slot_list_index ⟨_, hg, rfl⟩ PySem.F.entry_list_index (PySem.F.args_list_index_2 _ _)
      (MeetsSeq.list_index l _ n (.str ⟨#[c]⟩ u) (isS ⟨#[c]⟩) he j hj (by omega) (by rw [g j hj, hm j hj]; simp) (fun m h1 h2 => by rw [g m h1, hm m h1]; simp; omega)) ⟨hg, h⟩
  rcases hc with rfl | rfl | rfl | rfl | rfl
  · exact key 0 (by decide) (five_cases (by kernel_rfl) (by kernel_rfl) (by kernel_rfl) (by kernel_rfl) (by kernel_rfl)) rfl
  · exact key 1 (by decide) (five_cases (by kernel_rfl) (by kernel_rfl) (by kernel_rfl) (by kernel_rfl) (by kernel_rfl)) rfl
  · exact key 2 (by decide) (five_cases (by kernel_rfl) (by kernel_rfl) (by kernel_rfl) (by kernel_rfl) (by kernel_rfl)) rfl
  · exact key 3 (by decide) (five_cases (by kernel_rfl) (by kernel_rfl) (by kernel_rfl) (by kernel_rfl) (by kernel_rfl)) rfl
  · exact key 4 (by decide) (five_cases (by kernel_rfl) (by kernel_rfl) (by kernel_rfl) (by kernel_rfl) (by kernel_rfl)) rfl
theorem stay_wish {M : Model} {A : Around} {env : Env} {Q : Value → Shared → Prop} {E : Value → Shared → Prop} {s : Shared} (h : wpAny M A (stay (loadName env (PySem.Str.ofString "wish"))) Q E s) : wpAny M A (loadName env (PySem.Str.ofString "wish")) Q E s := h
local macro_rules | `(tactic| walk_at "loadName") => `(tactic| refine stay_wish ?_)
local macro_rules | `(tactic| walk_at "subscriptTail Name BinOp ref int") => `(tactic| refine stay_out ?_)
theorem met_spec {O U : Addr} {ovs uvs : List Value} {os us : List Int} (X : (hd82.heap_39 w.params).In s.heap) (T' : Top p loose mean mg mb s.heap) (hd : dp + 20 < recursionLimit) (hu : un + 100 < cLine)
    (hO : s.heap.IsList O ovs.toArray) (iO : IntsAre ovs os) (hU : s.heap.IsList U uvs.toArray) (iU : IntsAre uvs us) (l5 : us.length = 5) (up : ∀ x ∈ us, 0 < x ∧ x < 1024) (ol : os.length < 64) 
    (hret : ∀ h' tk D vs c, Kp s.heap h' → s.heap.get? D = none → IntsAre vs (metGo os us signs 0) → h'.get? D = some (W.listOf (List.toArray vs) c) → Q (.ref D) { s with heap := h', toks := tk }) :
    wpAny (model PySem.Challenge.rw_op0082_01.row.prog w) ⟨none, dp, fr, gd, un⟩ (call (.ref 124) [.ref O, .ref U]) Q E s := by
  revert X; k_fill; intro X
  refine enterC (binds := [(Str.ofString "owned", .ref O), (Str.ofString "units", .ref U)]) T'.nolimit (X 124 _ (by k_is)) (by exact rfl) (codeRec_of X (by k_is)) (by show dp < _; omega) (BindsTo.of_eq rfl) (fun n x hx => by
    simp only [List.mem_cons, List.not_mem_nil, or_false] at hx
    rcases hx with rfl | rfl
    · exact .inr ⟨rfl, rfl⟩
    · exact .inl rfl) ?_
  intro L' h₁ tk₁ hL x
  obtain ⟨oc1, gc1, dc1⟩ := x.cell "owned" (L' + 1) rfl
  obtain ⟨oc2, gc2, dc2⟩ := x.cell "wish" (L' + 2) rfl
  replace dc1 : oc1.data = .cell (some (.ref O)) := dc1
  replace dc2 : oc2.data = .cell none := dc2
  obtain ⟨m, F, hmU⟩ : ∃ m, Fr s.heap L' h₁ m ∧ m (Str.ofString "units") = some (.ref U) := ⟨_, ⟨x.toInCall.ns, x.toInCall.keep, Nat.le_of_eq hL.symm⟩, rfl⟩
  rw [map1 hmU] at F
  have N : News s.heap L' h₁ [(L' + 1, oc1), (L' + 2, oc2)] := by
    intro q hq
    simp only [List.mem_cons, List.not_mem_nil, or_false] at hq
    rcases hq with rfl | rfl
    · exact ⟨gc1, Nat.succ_ne_self _, Heap.get?_none_of_le (by rw [hL]; exact Nat.le_succ _)⟩
    · exact ⟨gc2, Nat.ne_of_gt (Nat.lt_trans (Nat.lt_succ_self _) (Nat.lt_succ_self _)), Heap.get?_none_of_le (by rw [hL]; exact Nat.le_add_right _ 2)⟩
  clear x gc1 gc2 hmU
  k_steps
  rename IsRange _ _ _ _ _ _ _ _ => hr
  rename Fr _ _ _ _ => F1
  rename News _ _ _ _ => N1
  unfold stay
  refine text_spec (X.keeps F1.keep) (T'.keeps F1.keep) (by show dp + 1 + 14 < _; omega) (by show un + 3 + 80 < _; omega) hr fun h2 tk2 t2 k2 => ?_
  have F2 := frKp F1 k2
  have N2 := newsKp N1 k2
  clear F1 N1 hr k2
  k_steps
  rename Fr _ _ _ _ => F3
  rename News _ _ _ _ => N3
  rename_i D _ lD _ _ ow _ _ dw _ _ _ _ _ _
  unfold stay
  refine for_str rfl (by decide +kernel) F3 N3 (fun i m news => m (Str.ofString "due") = some (.ref D) ∧ m (Str.ofString "units") = some (.ref U) ∧ ∃ wv wt ow dv c dn, ow.data = .cell (some (.int wv wt)) ∧ IntsAre dv dn ∧ metGo os us signs 0 = dn ++ metGo os us (signs.drop i) wv ∧ dn.length ≤ 64 * i ∧ news = [(D, W.listOf (List.toArray dv) c), (L' + 1, oc1), (L' + 1 + 1, ow)]) ?_ ?_ ?_
  · exact ⟨rfl, rfl, 0, _, _, [], 0, [], dw, .nil, rfl, by decide, rfl⟩
  · rintro i c u m₁ news₁ h₂ tk₁ I io hc ⟨hm1, hm2, wv, wt, ow, dv, ep, dn, dw, hdv, hgo, hlen, rfl⟩ hoff hltI F4 N4
    replace F4 : Fr s.heap L' h₂ m₁ := F4
    replace N4 : News s.heap L' h₂ [(I, io), (D, W.listOf (List.toArray dv) ep), (L' + 1, oc1), (L' + 1 + 1, ow)] := N4
    rw [map2 hm1 hm2] at F4
    have gI := ltN (hltI _ (.head _))
    refine assign_name rfl rfl F4 N4 ?_
    clear F4 N4 F3 N3 hm1 hm2
    intro h₃ tk₃ F5 N5
    k_steps
    unfold stay
    refine wpAny_ListComp_free (fun v => match v with | .int j _ => decide (os.getD j.toNat 0 = wv) | _ => false) (fun v y => y = v) rfl (by decide) rfl (by decide) rfl ?_
    k_steps
    rename IsRange _ _ _ _ _ _ _ _ => hr
    rename Fr _ _ _ _ => F6
    rename News _ _ _ _ => N6
    replace F6 : Fr s.heap L' _ _ := F6
    replace N6 : News s.heap L' _ [(I, io), (D, W.listOf (List.toArray dv) ep), (L' + 1, oc1), (L' + 1 + 1, ow)] := N6
    unfold stay
    refine wpAny_pyIter_range hr (small_one (by omega) (by omega) (by omega) (by omega)) ?_
    rw [size_rg]
    rename_i h₄ tk₄ _ _ _ k34
    have g1 := (N6 _ (.tail _ (.tail _ (.head _)))).1
    have g2 := (N6 _ (.tail _ (.tail _ (.tail _ (.head _))))).1
    refine ⟨_, _, _, os.length, _, _, rfl, walks_bounded (Walks.range rfl _ 0 1 os.length), by rw [sizeLine_eq]; omega, ?_, ?_, ⟨?_, ?_⟩, ?_⟩
    · have := Heap.get?_push_size h₄ (o := ({ cls := .type "range_iterator", data := .fields #[rawInt 0, rawInt (os.length : Int), rawInt 1] } : Obj)) rfl
      simpa [IsRangeIter] using this
    · intro b hb
      rw [List.mem_singleton.mp hb, Heap.size_push]
      exact Nat.lt_succ_self _
    · intro C i v s₃ m₃ E' hC hP hn hm hk htk
      obtain ⟨hi, t, rfl⟩ := hP
      have kk : ∀ b o, h₄.get? b = some o → s₃.heap.get? b = some o := fun b o e => hk b o (fun q => Nat.lt_irrefl _ ((List.mem_singleton.mp q) ▸ Heap.lt_size e)) (Heap.get?_push_of_some _ e)
      have hj : (0 + (i : Int) * 1).toNat = i := by omega
      obtain ⟨lo, lg, lc, ln, ld⟩ := hO
      have hls : s₃.heap.IsList O ovs.toArray := ⟨lo, kk _ _ (F6.keep _ _ lg), lc, ln, ld⟩
      have hiv : i < ovs.length := by rw [iO.length]; exact hi
      obtain ⟨z, zt, ez, ez2⟩ := ints_get iO (List.getElem?_eq_getElem hiv)
      refine wpAny_tests_one (wpAny_isTrue_Compare1 (Subscript_ (wpAny_Name (wpAny_loadName_cell rfl rfl rfl ⟨oc1, kk _ _ g1, dc1⟩ (wpAny_Name (wpAny_loadName_local rfl rfl hn hm ?_))))))
      refine tail_any hls.typeIs slot_list_getitem.lookup (wpAny_getItem_list (x := .int z zt) hls (by omega) (by omega) (by rw [hj, ← ez]; simp [hiv]) ?_) (by with_unfolding_all rfl)
      refine wpAny_Name (wpAny_loadName_cell rfl rfl rfl ⟨ow, kk _ _ g2, dw⟩ (PyProof.Rows.eq_int (wpAny_truthy_bool ⟨?_, _, _, rfl, fun _ _ e => e⟩)))
      dsimp only
      rw [hj, List.getD_eq_getElem?_getD, ez2]
      rfl
    · intro C i v s₃ m₃ E' hC hP _ hn hm hk htk
      exact wpAny_Name (wpAny_loadName_local rfl rfl hn hm ⟨rfl, _, _, rfl, fun _ _ e => e⟩)
    · intro D' h' tk5 ys vs hD' hl hpl hvl hP hF hk
      have kk : Kp h₄ h' := fun b o e => hk b o (fun q => Nat.lt_irrefl _ ((List.mem_singleton.mp q) ▸ Heap.lt_size e)) (Heap.get?_push_of_some _ e)
      have F7 := frKp F6 kk
      have N7 := newsKp N6 kk
      obtain ⟨n2, e2⟩ := hpl
      have iy := comp_out (q := fun k => os.getD k 0 == wv) hvl hP hF (fun z t => rfl)
      have nD : D ≠ D' := fun q => by
        have := Heap.get?_push_of_some ({ cls := .type "range_iterator", data := .fields #[rawInt 0, rawInt (os.length : Int), rawInt 1] } : Obj) (N6 _ (.tail _ (.head _))).1
        rw [q, hD'] at this
        cases this
      have hi32 : i < 32 := (Array.getElem?_eq_some_iff.mp hc).1
      have ly : ys.toList.length ≤ 64 := by
        rw [iy.length, List.length_map]
        exact Nat.le_trans (List.length_filter_le _ _) (by rw [List.length_range]; omega)
      have ldv : dv.length = dn.length := hdv.length
      have lD1 : D ≠ L' := Nat.ne_of_gt (Nat.lt_trans (Nat.lt_succ_self _) lD.1)
      have nID : I ≠ D := Nat.ne_of_gt gI
      have n1D : L' + 1 ≠ D := Nat.ne_of_lt lD.1
      have n2D : L' + 1 + 1 ≠ D := Nat.ne_of_lt lD.2
      have dD := N7 _ (.tail _ (.head _))
      have e3 : h'.get? D' = some (W.listOf (List.toArray ys.toList) n2) := by rw [Array.toArray_toList]; exact e2
      refine iadd_list dD.1 e3 nD (by omega) fun h8 c8 g8 s8 => ?_
      have F8 := kas_fr F7 s8 lD1 dD.2.2
      have N8 : News s.heap L' h8 [(I, io), (D, W.listOf (List.toArray (dv ++ ys.toList)) c8), (L' + 1, oc1), (L' + 1 + 1, ow)] := by
        intro q hq
        simp only [List.mem_cons, List.not_mem_nil, or_false] at hq
        rcases hq with rfl | rfl | rfl | rfl
        · exact ⟨(s8.2 _ nID).trans (N7 _ (.head _)).1, (N7 _ (.head _)).2⟩
        · exact ⟨g8, dD.2⟩
        · exact ⟨(s8.2 _ n1D).trans (N7 _ (.tail _ (.tail _ (.head _)))).1, (N7 _ (.tail _ (.tail _ (.head _)))).2⟩
        · exact ⟨(s8.2 _ n2D).trans (N7 _ (.tail _ (.tail _ (.tail _ (.head _))))).1, (N7 _ (.tail _ (.tail _ (.tail _ (.head _))))).2⟩
      have idv := hdv.append iy
      have hdrop : signs.drop i = c :: signs.drop (i + 1) := by
        have : signs.toArray[i]? = some c := hc
        rw [List.getElem?_toArray] at this
        obtain ⟨hlt, e⟩ := List.getElem?_eq_some_iff.mp this
        rw [List.drop_eq_getElem_cons hlt, e]
      have hgo2 : metGo os us signs 0 = (dn ++ idxOf os wv) ++ metGo os us (signs.drop (i + 1)) (wishStep us wv c) := by
        rw [hgo, hdrop, List.append_assoc]
        rfl
      have hlen2 : (dn ++ idxOf os wv).length ≤ 64 * (i + 1) := by
        have : (idxOf os wv).length ≤ 64 := by
          unfold idxOf
          rw [List.length_map]
          exact Nat.le_trans (List.length_filter_le _ _) (by rw [List.length_range]; omega)
        rw [List.length_append]
        omega
      have hnI : ∀ {o1 o2 o3 : Obj}, ∀ p ∈ [(D, o1), (L' + 1, o2), (L' + 1 + 1, o3)], p.1 ∉ [I] := by
        intro o1 o2 o3 p hp hx
        have e := List.mem_singleton.mp hx
        simp only [List.mem_cons, List.not_mem_nil, or_false] at hp
        rcases hp with rfl | rfl | rfl
        · exact nID e.symm
        · exact Nat.ne_of_lt (Nat.lt_trans lD.1 gI) e
        · exact Nat.ne_of_lt (Nat.lt_trans lD.2 gI) e
      clear F6 N6 F7 N7 hr hk kk dD g1 g2 k34 hF hP hl e2 e3 iy hvl hD' s8 g8
      dsimp only
      k_steps
      · rename ((_ != _) = true) => hcs
        rename Fr _ _ _ _ => F9
        rename News _ _ _ _ => N9
        have hcx : c = 10 ∨ c = 38 ∨ c = 60 ∨ c = 62 ∨ c = 34 ∨ c = 13 := signs_in c (by
          have : signs.toArray[i]? = some c := hc
          rw [List.getElem?_toArray] at this
          exact List.mem_of_getElem? this)
        have hc5 : c = 38 ∨ c = 60 ∨ c = 62 ∨ c = 34 ∨ c = 13 := by
          rcases hcx with rfl | h
          · exact absurd hcs (by decide +kernel)
          · exact h
        refine idx_call hc5 (N9 _ (.head _)).1 ?_
        dsimp only
        have hj4 := sidx_le c
        obtain ⟨z, zt, ez, ez2⟩ := ints_get iU (List.getElem?_eq_getElem (show 4 - sidx c < uvs.length by rw [iU.length, l5]; omega))
        obtain ⟨hz0, hz1⟩ := up z (List.mem_of_getElem? ez2)
        have hst : wishStep us wv c = wv + (if (wv.fdiv z).fmod 2 = 0 then z else -z) := by
          have n10 : c ≠ 10 := by rintro rfl; simp at hc5
          unfold wishStep
          rw [if_neg n10, List.getD_eq_getElem?_getD, ez2]
          rfl
        have hux : uvs[(4 - (sidx c : Int)).toNat]? = some (.int z zt) := by
          rw [show (4 - (sidx c : Int)).toNat = 4 - sidx c by omega, ← ez]
          exact List.getElem?_eq_getElem _
        k_steps
        refine item_F (by assumption) hU (by omega) (by omega) hux ?_
        k_steps
        rename Fr _ _ _ _ => F10
        rename News _ _ _ _ => N10
        have g3 := (N10 _ (.tail _ (.tail _ (.tail _ (.tail _ (.head _)))))).1
        unfold stay
        refine wpAny_loadName_cell rfl rfl rfl ⟨ow, g3, dw⟩ ?_
        k_steps
        all_goals (rename Fr _ _ _ _ => F11; rename News _ _ _ _ => N11; rename Obj.data _ = _ => d11)
        · refine LE.intro F11 N11 (fun p hp => .tail _ hp) hnI ⟨rfl, rfl, wv + z, _, _, _, c8, _, d11, idv, ?_, hlen2, rfl⟩
          rw [hgo2, hst, if_pos (by assumption)]
          rfl
        · refine LE.intro F11 N11 (fun p hp => .tail _ hp) hnI ⟨rfl, rfl, wv + -z, _, _, _, c8, _, d11, idv, ?_, hlen2, rfl⟩
          rw [hgo2, hst, if_neg (by assumption)]
          rfl
      · rename ((_ != _) = false) => hcs
        have c10 : c = 10 := by
          have : ({ cps := #[c] } : Str) = Str.ofString "\n" := by simpa using hcs
          have e : Str.ofString "\n" = ⟨#[10]⟩ := by decide +kernel
          rw [e] at this
          injection this with h
          simpa using h
        rename Fr _ _ _ _ => F9
        rename News _ _ _ _ => N9
        refine LE.intro F9 N9 (fun p hp => hp) hnI ⟨rfl, rfl, wv, wt, ow, _, c8, _, dw, idv, ?_, hlen2, rfl⟩
        rw [hgo2]
        unfold wishStep
        rw [if_pos c10]
        rfl
  · rintro h₂ tk₂ m₂ news₂ F5 N5 ⟨hm1, hm2, wv, wt, ow, dv, ep, dn, dw, hdv, hgo, hlen, rfl⟩
    replace F5 : Fr s.heap L' h₂ m₂ := F5
    replace N5 : News s.heap L' h₂ [(D, W.listOf (List.toArray dv) ep), (L' + 1, oc1), (L' + 1 + 1, ow)] := N5
    rw [map2 hm1 hm2] at F5
    have e32 : metGo os us (signs.drop (⟨signs.toArray⟩ : Str).cps.size) wv = [] := rfl
    rw [e32, List.append_nil] at hgo
    rw [← hgo] at hdv
    clear F3 N3 hm1 hm2
    k_steps
    exact hret _ _ _ _ _ F5.keep (N5 _ (.head _)).2.2 hdv (N5 _ (.head _)).1
end Mine
end Mt1
section Cm1
open PySem PySem.W PyProof.Rows PySem.Calls PySem.Spec
set_option Elab.async false
set_option pp.deepTerms false
set_option pp.maxSteps 600
set_option maxRecDepth 100000
namespace Mine
section
variable {prog : Program} {w : World} {A : Around} {E : Value → Shared → Prop} {env : Env}
/-- a turn of a comprehension whose target is a cell of its own -/
theorem comp_loop_cell {R : Result → Shared → Prop} {s : Shared} {elt iter : Expr} {x : Str} {px : Pos} {scope : Scope} {pos : Pos} {I D c : Addr} {fp wr : List Addr} {n : Nat} {P : Nat → Value → Prop} {St : Nat → Heap → Prop} {cenv : Env} {m : Str → Option Value}
    (W : Walks prog w A I fp wr n P St) (F : Value → Value → Prop) (hk : cenv.scope.kind = .function) (hx : cenv.kindOf x = some .cell) (hcx : cenv.cells.lookup x = some c)
    (hDC : D ≠ cenv.locals) (hcD : c ≠ D) (hcC : c ≠ cenv.locals) (hDf : D ∉ fp) (hCf : cenv.locals ∉ fp) (hcf : c ∉ fp)
    (hst : St 0 s.heap) (hacc : s.heap.PlainList D #[]) (hn : s.heap.Ns cenv.locals m) (hcl : s.heap.IsCell c none)
    (helt : ∀ i v s₂ E', P i v → s₂.heap.IsCell c (some v) → (∀ b o, b ≠ cenv.locals → b ≠ c → b ∉ wr → b ≠ D → s.heap.get? b = some o → s₂.heap.get? b = some o) →
      wpAny (model prog w) A (eval elt cenv) (fun y s₃ => F v y ∧ Keeps s₂ s₃) E' s₂)
    (hR : ∀ h' tk m' ys (vs : List Value), h'.Ns cenv.locals m' → h'.PlainList D ys → vs.length = n → (∀ j v, vs[j]? = some v → P j v) → Paired F vs ys.toList →
      (∀ b o, b ≠ cenv.locals → b ≠ c → b ∉ wr → b ≠ D → s.heap.get? b = some o → h'.get? b = some o) → R (.ok .next) { s with heap := h', toks := tk })
    (hsz : n ≤ sizeLine) :
    codeAny (model prog w) A (.compLoop (.ListComp elt [⟨.Name x px, iter, [], 0⟩] scope pos) 0 (.ref I) (.ref D) cenv) R s := by
  refine codeAny_compLoop_tests
    (fun k s' => ∃ h' tk m' ys ov, ∃ vs : List Value, s' = { s with heap := h', toks := tk } ∧ St vs.length h' ∧ h'.PlainList D ys ∧ h'.Ns cenv.locals m' ∧ h'.IsCell c ov ∧ (∀ j v, vs[j]? = some v → P j v) ∧
      Paired F vs ys.toList ∧ vs.length ≤ n ∧ k = n + 1 - vs.length ∧ (∀ b o, b ≠ cenv.locals → b ≠ c → b ∉ wr → b ≠ D → s.heap.get? b = some o → h'.get? b = some o)) ?_ (n + 1)
    ⟨s.heap, s.toks, m, #[], none, [], rfl, hst, hacc, hn, hcl, by simp, by simpa using Paired.nil, Nat.zero_le _, rfl, fun _ _ _ _ _ _ e => e⟩
  rintro k s' ⟨H, tk, m', ys, ov, vs, rfl, hst', hacc', hn', hc', hP, hF, hi, rfl, hk'⟩
  have hCw : cenv.locals ∉ wr := fun h => hCf (W.sub _ h)
  have hDw : D ∉ wr := fun h => hDf (W.sub _ h)
  have hcw : c ∉ wr := fun h => hcf (W.sub _ h)
  by_cases hlt : vs.length < n
  · refine W.item vs.length _ _ _ hlt hst' fun v h₁ tk₁ hPv hst₁ hk₁ => ?_
    have hc₁ : h₁.IsCell c ov := let ⟨o, a, b⟩ := hc'; ⟨o, hk₁ _ _ hcw a, b⟩
    refine wpAny_assign_Name (wpAny_storeName_cell hk hx hcx hc₁ fun h₂ hc₂ hs₂ => ?_)
    refine wpAny_tests_nil ?_
    rw [if_pos rfl]
    have up₂ : ∀ b o, b ≠ c → b ∉ wr → H.get? b = some o → h₂.get? b = some o := fun b o hbc hbf e => hs₂.extBut b o hbc (hk₁ b o hbf e)
    have hst₂ : St (vs.length + 1) h₂ := W.frame _ _ _ hst₁ fun b hb o e => hs₂.extBut b o (fun h => hcf (h ▸ hb)) e
    refine wpAny_mono (helt vs.length v { s with heap := h₂, toks := tk₁ } _ hPv hc₂ (fun b o hbC hbc hbf hbD e => up₂ b o hbc hbf (hk' b o hbC hbc hbf hbD e))) (fun y s₄ h₄ => ?_) fun _ _ e => e
    obtain ⟨hFy, h₄, tk₄, rfl, hk₄⟩ := h₄
    have hys : ys.size ≤ sizeLine := by
      have e1 := hF.length
      have e4 : ys.toList.length = ys.size := by simp
      omega
    have hacc₄ : h₄.PlainList D ys := hacc'.at fun o e => hk₄ _ o (up₂ D o hcD.symm hDw e)
    refine wpAny_list_append_plain (hsz := hys) hacc₄ fun h₅ hl₅ hs₅ => ?_
    refine ⟨n + 1 - (vs.length + 1), by omega, h₅, tk₄, m', ys.push y, some v, vs ++ [v], rfl, ?_, hl₅, ((hn'.at' fun o e => hk₄ _ o (up₂ _ o hcC.symm hCw e))).sameBut hs₅ (Ne.symm hDC), (hc₂.keeps hk₄).sameBut hs₅ hcD, fun j u hj => ?_, ?_, (by rw [List.length_append, List.length_singleton]; exact hlt), (by rw [List.length_append, List.length_singleton]), fun b o hbC hbc hbf hbD e => hs₅.extBut b o hbD (hk₄ b o (up₂ b o hbc hbf (hk' b o hbC hbc hbf hbD e)))⟩
    · rw [List.length_append, List.length_singleton]
      exact W.frame _ _ h₅ hst₂ fun b hb o e => hs₅.extBut b o (fun h => hDf (h ▸ hb)) (hk₄ b o e)
    · rcases Nat.lt_trichotomy j vs.length with h | h | h
      · exact hP j u (by rwa [List.getElem?_append_left h] at hj)
      · subst h; simp at hj; subst hj; exact hPv
      · have hnone : (vs ++ [v])[j]? = none := List.getElem?_eq_none (by rw [List.length_append, List.length_singleton]; omega)
        rw [hnone] at hj; cases hj
    · simpa using Paired.snoc hF hFy
  · have hin : vs.length = n := by omega
    refine W.done _ _ _ (hin ▸ hst') fun h₁ tk₁ hk₁ => ?_
    exact hR h₁ tk₁ m' ys vs (hn'.at' fun o e => hk₁ _ o hCw e) (hacc'.at fun o e => hk₁ _ o hDw e) hin hP hF fun b o hbC hbc hbf hbD e => hk₁ b o hbf (hk' b o hbC hbc hbf hbD e)

theorem Assign_ListComp_cell {s : Shared} {elt iter : Expr} {x y : Str} {px py : Pos} {scope : Scope} {cl : List (Str × Addr)} {pos spos : Pos} {Q : Flow → Shared → Prop} (F : Value → Value → Prop)
    (hsw : swapsWith (.ListComp elt [⟨.Name x px, iter, [], 0⟩] scope pos) (some (.Name y py)) spos.line env = pure true)
    (hy : env.kindOf y = some .local) (hp : (env.scope.kind == .class || (env.scope.kind == .module && env.locals != env.globals)) = false)
    (hclos : closureFor scope env = pure cl) (hkind : scope.kind = .function) (hnames : ∀ y ∈ scope.names, y.2 = .local → scope.names.lookup y.1 = some .local)
    (hcf : ∀ n, cellsFrom n scope.names cl = (x, n) :: cl) (hpc : ∀ h, pushCells h scope.names = h.push { cls := .type "cell", data := .cell none }) (hx : ∀ C, (compEnvC scope ((x, C + 1) :: cl) C env).kindOf x = some .cell)
    (h : wpAny (model prog w) A (eval iter env) (fun xv s₁ => wpAny (model prog w) A (pyIter xv) (fun it s₂ => ∃ I fp wr n P St m, it = .ref I ∧ Walks prog w A I fp wr n P St ∧ n ≤ sizeLine ∧ St 0 s₂.heap ∧ (∀ b ∈ fp, b < s₂.heap.objs.size) ∧ env.locals ∉ wr ∧ s₂.heap.Ns env.locals m ∧
      (∀ C i v s₃ E', s₂.heap.objs.size ≤ C → P i v → s₃.heap.IsCell (C + 1) (some v) → (∀ b o, b ∉ wr → s₂.heap.get? b = some o → s₃.heap.get? b = some o) →
        wpAny (model prog w) A (eval elt (compEnvC scope ((x, C + 1) :: cl) C env)) (fun y s₄ => F v y ∧ Keeps s₃ s₄) E' s₃) ∧
      (∀ D h' tk ys (vs : List Value), s₂.heap.get? D = none → h'.PlainList D ys → vs.length = n → (∀ j v, vs[j]? = some v → P j v) → Paired F vs ys.toList →
        h'.Ns env.locals (fun z => if z = y then some (.ref D) else m z) → (∀ b o, b ≠ env.locals → b ∉ wr → s₂.heap.get? b = some o → h'.get? b = some o) → Q .next { s₂ with heap := h', toks := tk })) E s₁) E s)
    (hs : ∀ x, foldedSetIterable iter env x = pure x := by intro _; rfl) :
    wpAny (model prog w) A (exec (.Assign [.Name y py] (.ListComp elt [⟨.Name x px, iter, [], 0⟩] scope pos) spos) env) Q E s := by
  rw [exec_Assign_Name_used _ _ _ _ hsw]
  refine wpAny_bind (wpAny_standAt (wpAny_bind ?_))
  show wpAny _ A (do let _ ← comprehension (.ListComp elt [⟨.Name x px, iter, [], 0⟩] scope pos) scope env _ (newList []) false (eval iter env) (some (assign (.Name y py) env))) _ _ s
  refine wpAny_bind (wpAny_mono (wpAny_comprehension_free (use := some (assign (.Name y py) env)) (Q := fun _ s' => Q .next s') rfl hs hclos hkind hnames
    (wpAny_mono h (fun xv s₁ h₁ => wpAny_mono h₁ (fun it s₂ h₂ => ?_) fun _ _ e => e) fun _ _ e => e)) (fun _ s' hq => wpAny_pure (wpAny_pure hq)) fun _ _ e => e)
  obtain ⟨I, fp, wr, n, P, St, m, rfl, W, hsz, hst, hfp, hLf, hnL, hq, hQ⟩ := h₂
  refine wpAny_newObj_type ?_
  generalize hH2 : s₂.heap.push { cls := .type "list", dict := none, data := .seq ([] : List Value).toArray } = H2
  have hC : H2.objs.size = s₂.heap.objs.size + 1 := by rw [← hH2, Heap.size_push]
  simp only [newFunctionEnv, Option.isSome_some, if_true]
  refine wpAny_bind (wpAny_alloc ?_)
  refine wpAny_bind (wpAny_layCells _ (fun name kind cells => by cases hkc : kind == NameKind.cell <;> simp [hkc]) _ _ _ _ ?_)
  dsimp only
  rw [hpc, hcf]
  refine wpAny_bind (wpAny_of_eq (a := ⟨⟩) rfl (wpAny_pure ?_))
  have hz : (H2.push { cls := .type "dict", data := .dict #[] }).objs.size = H2.objs.size + 1 := Heap.size_push ..
  rw [hz]
  have gc : ((H2.push { cls := .type "dict", data := .dict #[] }).push { cls := .type "cell", data := .cell none }).get? (H2.objs.size + 1) = some { cls := .type "cell", data := .cell none } := by
    rw [← hz]; exact Heap.get?_push_size _ rfl
  have gn : ((H2.push { cls := .type "dict", data := .dict #[] }).push { cls := .type "cell", data := .cell none }).Ns H2.objs.size (fun _ => none) := (Heap.Ns.new H2 (.type "dict")).keeps fun b o e => Heap.get?_push_of_some _ e
  have old : Heap.get? s₂.heap = Heap.get? s₂.heap := rfl
  have kp : ∀ b o, s₂.heap.get? b = some o → ((H2.push { cls := .type "dict", data := .dict #[] }).push { cls := .type "cell", data := .cell none }).get? b = some o := fun b o e => Heap.get?_push_of_some _ (Heap.get?_push_of_some _ (hH2 ▸ Heap.get?_push_of_some _ e))
  have hacc : ((H2.push { cls := .type "dict", data := .dict #[] }).push { cls := .type "cell", data := .cell none }).PlainList s₂.heap.objs.size #[] := ⟨0, Heap.get?_push_of_some _ (Heap.get?_push_of_some _ (hH2 ▸ Heap.get?_push_size _ rfl))⟩
  revert gc gn kp hacc
  generalize ((H2.push { cls := .type "dict", data := .dict #[] }).push { cls := .type "cell", data := .cell none }) = H4
  intro gc gn kp hacc
  have hst₁ : St 0 H4 := W.frame _ _ _ hst fun b _ o e => kp b o e
  have hDC : s₂.heap.objs.size ≠ H2.objs.size := by rw [hC]; exact Nat.ne_of_lt (Nat.lt_succ_self _)
  have ltD : s₂.heap.objs.size < H2.objs.size + 1 := by rw [hC]; exact Nat.lt_succ_of_lt (Nat.lt_succ_self _)
  have nf : ∀ a, s₂.heap.objs.size ≤ a → a ∉ fp := fun a ha hm => Nat.lt_irrefl _ (Nat.lt_of_lt_of_le (hfp _ hm) ha)
  have fresh : ∀ a, s₂.heap.objs.size ≤ a → s₂.heap.get? a = none := fun a ha => Heap.get?_none_of_le ha
  have hCle : s₂.heap.objs.size ≤ H2.objs.size := by rw [hC]; exact Nat.le_succ _
  have below : ∀ b, b < s₂.heap.objs.size → b ≠ H2.objs.size ∧ b ≠ H2.objs.size + 1 ∧ b ≠ s₂.heap.objs.size := fun b hb => ⟨Nat.ne_of_lt (Nat.lt_of_lt_of_le hb hCle), Nat.ne_of_lt (Nat.lt_trans hb ltD), Nat.ne_of_lt hb⟩
  have loop : codeAny (model prog w) A (.compLoop (.ListComp elt [⟨.Name x px, iter, [], 0⟩] scope pos) 0 (.ref I) (.ref s₂.heap.objs.size) (compEnvC scope ((x, H2.objs.size + 1) :: cl) H2.objs.size env))
      (compPost (model prog w) A E (some (assign (.Name y py) env)) (fun _ s' => Q .next s') (.ref s₂.heap.objs.size) H2.objs.size) { s₂ with heap := H4 } := by
    refine comp_loop_cell (s := { s₂ with heap := H4 }) (c := H2.objs.size + 1) (m := fun _ => none) (cenv := compEnvC scope ((x, H2.objs.size + 1) :: cl) H2.objs.size env) W F (by simp [compEnvC, relabel, hkind]) (hx _) (by simp [compEnvC]) hDC (Nat.ne_of_gt ltD) (Nat.succ_ne_self _) (nf _ (Nat.le_refl _)) (nf _ hCle) (nf _ (Nat.le_of_lt ltD)) hst₁ hacc gn ⟨_, gc, rfl⟩ (fun i v s₃ E' hv hc hk => ?_) (fun h' tk m' ys vs hn hpl hlen hP hF hk => ?_) hsz
    · exact hq _ i v s₃ E' hCle hv hc fun b o hbf e => hk b o (below b (Heap.lt_size e)).1 (below b (Heap.lt_size e)).2.1 hbf (below b (Heap.lt_size e)).2.2 (kp b o e)
    · have ltL : env.locals < s₂.heap.objs.size := hnL.lt
      have bl := below _ ltL
      show wpAny _ A (assign (.Name y py) env (.ref s₂.heap.objs.size)) _ _ _
      refine wpAny_assign_Name (wpAny_storeName_local hy (hnL.at' fun o e => hk _ o bl.1 bl.2.1 hLf bl.2.2 (kp _ o e)) (fun h₂ hn₂ hs₂ => ?_) hp)
      refine ⟨m', hn.sameBut hs₂ (Ne.symm bl.1), fun h₃ hs₃ => ?_⟩
      refine hQ _ h₃ _ ys vs (fresh _ (Nat.le_refl _)) ?_ hlen hP hF (hn₂.sameBut hs₃ bl.1) fun b o hbL hbf e => hs₃.extBut b o (below b (Heap.lt_size e)).1 (hs₂.extBut b o hbL (hk b o (below b (Heap.lt_size e)).1 (below b (Heap.lt_size e)).2.1 hbf (below b (Heap.lt_size e)).2.2 (kp b o e)))
      exact (hpl.at fun o e => hs₂.extBut _ o (Ne.symm bl.2.2) e).at fun o e => hs₃.extBut _ o hDC e
  exact codeAny_compStart_list loop (W.self 0 _ _ _ hst₁ loop)
end
end Mine
end Cm1
section Pw1
open PySem PySem.W PyProof.Rows PySem.Calls PySem.Spec Mine
set_option Elab.async false
set_option maxRecDepth 100000
namespace Mine
noncomputable def rowOf (z : Int) : Str := Txt.join (Str.ofString "") (fmRow z)
noncomputable def ch (z : Int) (i : Nat) : Nat := (fmPick i z (fmTab.getD i default).2).cps.getD 0 0
theorem str_one {x : Str} (h : x.length = 1) : x = ⟨#[x.cps.getD 0 0]⟩ := by
  obtain ⟨⟨l⟩⟩ := x
  match l, h with
  | [a], _ => rfl
theorem row_eq (z : Int) : rowOf z = ⟨#[ch z 0, ch z 1, ch z 2, ch z 3, ch z 4, ch z 5, ch z 6, ch z 7, ch z 8, ch z 9]⟩ := by
  have e : fmRow z = (List.range 10).map fun i => (⟨#[ch z i]⟩ : Str) := by
    unfold fmRow
    refine List.map_congr_left fun i hi => ?_
    exact str_one (fmPick_len i (List.mem_range.mp hi) z)
  unfold rowOf
  rw [e]
  rfl
theorem row_len (z : Int) : (rowOf z).length = 10 := by
  rw [row_eq]
  rfl
noncomputable def rC (c : Nat) : Bool := !(Builtin.Str.occurrences (Str.ofString "rwxst") ⟨#[c]⟩ 0 (Str.ofString "rwxst").length 1).isEmpty
theorem nine : ∀ p, p < 10 → 1 ≤ p → p = 1 ∨ p = 2 ∨ p = 3 ∨ p = 4 ∨ p = 5 ∨ p = 6 ∨ p = 7 ∨ p = 8 ∨ p = 9 := by decide
theorem row_item (z : Int) (p : Nat) (h1 : 1 ≤ p) (h9 : p ≤ 9) : hasR (rowOf z) (p : Int) = rC (ch z p) := by
  have e : Txt.item (rowOf z) (p : Int) = ⟨#[ch z p]⟩ := by
    rw [row_eq]
    have := nine p (Nat.lt_succ_of_le h9) h1
    rcases this with rfl | rfl | rfl | rfl | rfl | rfl | rfl | rfl | rfl <;> rfl
  unfold hasR rC
  rw [e]
theorem and_pow (n k : Nat) : decide (n &&& 2 ^ k = 2 ^ k) = n.testBit k := by
  cases e : n.testBit k with
  | true =>
    refine decide_eq_true (Nat.eq_of_testBit_eq fun i => ?_)
    rw [Nat.testBit_and, Nat.testBit_two_pow]
    by_cases q : k = i
    · subst q; simp [e]
    · simp [q]
  | false =>
    refine decide_eq_false fun h => ?_
    have := congrArg (fun x => x.testBit k) h
    simp [Nat.testBit_and, e] at this
theorem and_cond (n b : Nat) (i : Nat) (hi : i ≠ 0) : fmCond i (n : Int) (b : Int) = decide (n &&& b = b) := by
  unfold fmCond
  rw [if_neg hi]
  refine decide_eq_decide.mpr ?_
  have : Builtin.bitAnd (n : Int) (b : Int) = ((n &&& b : Nat) : Int) := by
    unfold Builtin.bitAnd
    simp
  rw [this]
  exact Int.ofNat_inj
theorem pick1 (n k i : Nat) (b : Int) (hi : i ≠ 0) (hb : b = ((2 ^ k : Nat) : Int)) (a : Addr) (c : Nat) (t t2 : Tok) (h1 : rC c = true) : rC ((fmPick i (n : Int) [(a, b, t, ⟨#[c]⟩, t2)]).cps.getD 0 0) = n.testBit k := by
  subst hb
  rw [← and_pow]
  unfold fmPick
  rw [List.find?_cons]
  dsimp only
  rw [and_cond _ _ _ hi]
  cases decide (n &&& 2 ^ k = 2 ^ k) with
  | true => exact h1
  | false =>
    simp only [List.find?_nil, if_neg hi]
    decide +kernel
theorem and_or2 (n k l : Nat) : decide (n &&& (2 ^ k ||| 2 ^ l) = (2 ^ k ||| 2 ^ l)) = (n.testBit k && n.testBit l) := by
  rw [← and_pow n k, ← and_pow n l]
  by_cases q : n &&& (2 ^ k ||| 2 ^ l) = (2 ^ k ||| 2 ^ l)
  · rw [decide_eq_true q, and_pow, and_pow]
    have h1 := congrArg (fun x => x.testBit k) q
    have h2 := congrArg (fun x => x.testBit l) q
    simp [Nat.testBit_and, Nat.testBit_or] at h1 h2
    simp [h1, h2]
  · rw [decide_eq_false q]
    refine (Bool.and_eq_false_iff.mpr ?_).symm
    by_cases q1 : n &&& 2 ^ k = 2 ^ k
    · refine .inr (decide_eq_false fun q2 => q ?_)
      rw [Nat.and_or_distrib_left, q1, q2]
    · exact .inl (decide_eq_false q1)
theorem pick3 (n k l i : Nat) (b1 b2 b3 : Int) (hi : i ≠ 0) (hb1 : b1 = ((2 ^ k ||| 2 ^ l : Nat) : Int)) (hb2 : b2 = ((2 ^ k : Nat) : Int)) (hb3 : b3 = ((2 ^ l : Nat) : Int)) (a a' a'' : Addr) (c c' c'' : Nat) (t t2 t3 t4 t5 t6 : Tok) (h1 : rC c = true) (h2 : rC c' = false) (h3 : rC c'' = true) :
    rC ((fmPick i (n : Int) [(a, b1, t, ⟨#[c]⟩, t2), (a', b2, t3, ⟨#[c']⟩, t4), (a'', b3, t5, ⟨#[c'']⟩, t6)]).cps.getD 0 0) = n.testBit l := by
  subst hb1 hb2 hb3
  unfold fmPick
  rw [List.find?_cons, List.find?_cons, List.find?_cons]
  dsimp only
  rw [and_cond _ _ _ hi, and_cond _ _ _ hi, and_cond _ _ _ hi, and_or2, and_pow, and_pow]
  cases n.testBit k <;> cases n.testBit l
  · simp only [Bool.and_false, List.find?_nil, if_neg hi]
    decide +kernel
  · exact h3
  · exact h2
  · exact h1
theorem row_bit (n : Nat) (p : Nat) (h1 : 1 ≤ p) (h9 : p ≤ 9) : hasR (rowOf (n : Int)) (p : Int) = n.testBit (9 - p) := by
  rw [row_item _ _ h1 h9]
  have := nine p (Nat.lt_succ_of_le h9) h1
  rcases this with rfl | rfl | rfl | rfl | rfl | rfl | rfl | rfl | rfl
  · exact pick1 n 8 1 _ (by decide) rfl _ _ _ _ (by decide +kernel)
  · exact pick1 n 7 2 _ (by decide) rfl _ _ _ _ (by decide +kernel)
  · exact pick3 n 11 6 3 _ _ _ (by decide) rfl rfl rfl _ _ _ _ _ _ _ _ _ _ _ _ (by decide +kernel) (by decide +kernel) (by decide +kernel)
  · exact pick1 n 5 4 _ (by decide) rfl _ _ _ _ (by decide +kernel)
  · exact pick1 n 4 5 _ (by decide) rfl _ _ _ _ (by decide +kernel)
  · exact pick3 n 10 3 6 _ _ _ (by decide) rfl rfl rfl _ _ _ _ _ _ _ _ _ _ _ _ (by decide +kernel) (by decide +kernel) (by decide +kernel)
  · exact pick1 n 2 7 _ (by decide) rfl _ _ _ _ (by decide +kernel)
  · exact pick1 n 1 8 _ (by decide) rfl _ _ _ _ (by decide +kernel)
  · exact pick3 n 9 0 9 _ _ _ (by decide) rfl rfl rfl _ _ _ _ _ _ _ _ _ _ _ _ (by decide +kernel) (by decide +kernel) (by decide +kernel)
end Mine
end Pw1
section Pw2
open PySem PySem.W PyProof.Rows PySem.Calls PySem.Spec Mine
set_option Elab.async false
set_option maxRecDepth 100000
namespace Mine
theorem placesGo_mem : ∀ (f : Nat) (P : List Int) (T : Int), f ≤ P.length → P.Nodup → (placesGo f P T).Nodup ∧ ∀ x ∈ placesGo f P T, x ∈ P
  | 0, _, _, _, _ => ⟨List.nodup_nil, fun _ h => absurd h List.not_mem_nil⟩
  | f + 1, P, T, hf, hn => by
    have hlen : 0 < P.length := by omega
    have hl : (0 : Int) < P.length := by omega
    have hj : (T.fmod P.length).toNat < P.length := by
      have h1 := Int.fmod_nonneg_of_pos T hl
      have h2 := Int.fmod_lt_of_pos T hl
      omega
    have hx : P.getD (T.fmod P.length).toNat 0 = P[(T.fmod P.length).toNat] := by
      rw [List.getD_eq_getElem?_getD, List.getElem?_eq_getElem hj]
      rfl
    obtain ⟨n1, m1⟩ := placesGo_mem f (P.eraseIdx (T.fmod P.length).toNat) (T.fdiv 9) (by rw [List.length_eraseIdx_of_lt hj]; omega) (List.Nodup.sublist (List.eraseIdx_sublist _ _) hn)
    unfold placesGo
    rw [hx]
    refine ⟨List.nodup_cons.mpr ⟨fun h => ?_, n1⟩, fun x h => ?_⟩
    · obtain ⟨i, hi, hne, e⟩ := List.mem_eraseIdx_iff_getElem.mp (m1 _ h)
      exact hne ((List.getElem_inj hn).mp e)
    · rcases List.mem_cons.mp h with rfl | h
      · exact List.getElem_mem _
      · exact (List.eraseIdx_sublist _ _).subset (m1 _ h)
theorem places_nodup (n : Int) : (placesOf n).Nodup := (placesGo_mem 5 _ n (by decide) (by decide)).1
theorem places_in (n : Int) : ∀ p ∈ placesOf n, 1 ≤ p ∧ p ≤ 9 := fun p h => by
  have := (placesGo_mem 5 [1, 2, 3, 4, 5, 6, 7, 8, 9] n (by decide) (by decide)).2 p h
  simp only [List.mem_cons, List.not_mem_nil, or_false] at this
  omega
theorem places_len (n : Int) : (placesOf n).length = 5 := placesGo_length ..
/-- the rank of a row under the places: prefix parities of its bits -/
noncomputable def gr : List Int → Str → Bool → Nat
  | [], _, _ => 0
  | p :: ps, r, b => (if (b != hasR r p) then 2 ^ ps.length else 0) + gr ps r (b != hasR r p)
noncomputable def grB : List Bool → Bool → Nat
  | [], _ => 0
  | x :: xs, b => (if (b != x) then 2 ^ xs.length else 0) + grB xs (b != x)
theorem gr_eq (r : Str) : ∀ (ps : List Int) (b : Bool), gr ps r b = grB (ps.map (hasR r)) b
  | [], _ => rfl
  | p :: ps, b => by
    unfold gr
    rw [List.map_cons, grB, List.length_map, gr_eq r ps]
theorem grB_lt : ∀ (l : List Bool) (b : Bool), grB l b < 2 ^ l.length
  | [], _ => Nat.one_pos
  | x :: xs, b => by
    have := grB_lt xs (b != x)
    rw [grB, List.length_cons, Nat.pow_succ]
    split <;> omega
theorem cmp_gr (r1 r2 : Str) : ∀ (ps : List Int) (b : Bool), (∀ p ∈ ps, 1 ≤ p) → (cmpGo r1 r2 ps (if b then -1 else 1) < 0 ↔ gr ps r1 b < gr ps r2 b)
  | [], b, _ => by simp [cmpGo, gr]
  | p :: ps, b, h => by
    have hp := h p (.head _)
    have ih := fun b => cmp_gr r1 r2 ps b fun q hq => h q (.tail _ hq)
    have l1 := fun b => grB_lt (ps.map (hasR r1)) b
    have l2 := fun b => grB_lt (ps.map (hasR r2)) b
    rw [List.length_map] at l1 l2
    simp only [← gr_eq] at l1 l2
    unfold cmpGo gr
    cases e1 : hasR r1 p <;> cases e2 : hasR r2 p <;> cases b
    all_goals have := l1 true; have := l1 false; have := l2 true; have := l2 false; have i1 := ih true; have i2 := ih false; simp at *; omega
end Mine
end Pw2
section Pw3
open PySem PySem.W PyProof.Rows PySem.Calls PySem.Spec Mine
set_option Elab.async false
set_option maxRecDepth 100000
namespace Mine
noncomputable def encN : List Nat → List Bool → Nat
  | e :: es, b :: bs => (if b then 2 ^ e else 0) + encN es bs
  | _, _ => 0
theorem bit_div {S e : Nat} (h0 : S.testBit e = false) : (2 ^ e + S) / 2 ^ (e + 1) = S / 2 ^ (e + 1) := by
  have h : S / 2 ^ e % 2 = 0 := by
    rw [Nat.testBit_eq_decide_div_mod_eq] at h0
    exact (Nat.mod_two_eq_zero_or_one _).resolve_right (of_decide_eq_false h0)
  rw [Nat.pow_succ, ← Nat.div_div_eq_div_mul, ← Nat.div_div_eq_div_mul, Nat.add_div_left _ (Nat.two_pow_pos e)]
  generalize S / 2 ^ e = x at h ⊢
  omega
theorem bit_step {S e : Nat} (hS : S < 512) (he : e < 9) (h0 : S.testBit e = false) : S + 2 ^ e < 512 ∧ ∀ e', e' < 9 → (2 ^ e + S).testBit e' = (e' == e || S.testBit e') := by
  have hd := bit_div h0
  refine ⟨?_, fun e' _ => ?_⟩
  · have e9 : (512 : Nat) = 2 ^ (9 - (e + 1)) * 2 ^ (e + 1) := by rw [← Nat.pow_add, Nat.sub_add_cancel he]
    rw [Nat.add_comm, e9, ← Nat.div_lt_iff_lt_mul (Nat.two_pow_pos _), hd, Nat.div_lt_iff_lt_mul (Nat.two_pow_pos _), ← e9]
    exact hS
  · rcases Nat.lt_trichotomy e' e with h | h | h
    · rw [Nat.testBit_two_pow_add_gt h, beq_false_of_ne (Nat.ne_of_lt h), Bool.false_or]
    · rw [h, Nat.testBit_two_pow_add_eq, h0, beq_self_eq_true]; rfl
    · obtain ⟨d, rfl⟩ := Nat.exists_eq_add_of_le h
      rw [Nat.add_comm (e + 1) d, Nat.testBit_add, hd, ← Nat.testBit_add, beq_false_of_ne (Nat.ne_of_gt (Nat.lt_of_lt_of_le h (Nat.le_of_eq (Nat.add_comm _ _)))), Bool.false_or]
theorem encN_spec : ∀ (es : List Nat) (bs : List Bool), es.Nodup → (∀ e ∈ es, e < 9) → es.length = bs.length →
    encN es bs < 512 ∧ (∀ e, e < 9 → e ∉ es → (encN es bs).testBit e = false) ∧ es.map (encN es bs).testBit = bs
  | [], [], _, _, _ => ⟨by decide, fun e _ _ => Nat.zero_testBit e, rfl⟩
  | e :: es, b :: bs, hn, h9, hl => by
    obtain ⟨h1, h2⟩ := List.nodup_cons.mp hn
    obtain ⟨i1, i2, i3⟩ := encN_spec es bs h2 (fun x hx => h9 x (.tail _ hx)) (by simpa using hl)
    have he := h9 e (.head _)
    have h0 := i2 e he h1
    unfold encN
    cases b with
    | false =>
      simp only [Bool.false_eq_true, if_false, Nat.zero_add]
      exact ⟨i1, fun x hx hm => i2 x hx fun q => hm (.tail _ q), by rw [List.map_cons, h0, i3]⟩
    | true =>
      obtain ⟨s1, s2⟩ := bit_step i1 he h0
      simp only [if_true]
      refine ⟨by omega, fun x hx hm => ?_, ?_⟩
      · rw [s2 x hx, i2 x hx fun q => hm (.tail _ q), Bool.or_false]
        exact beq_eq_false_iff_ne.mpr fun q => hm (q ▸ .head _)
      · rw [List.map_cons, s2 e he, beq_self_eq_true, Bool.true_or]
        refine congrArg _ (Eq.trans (List.map_congr_left fun x hx => ?_) i3)
        rw [s2 x (h9 x (.tail _ hx))]
        have : (x == e) = false := beq_eq_false_iff_ne.mpr fun q => h1 (q ▸ hx)
        rw [this, Bool.false_or]
theorem encN_inj {es : List Nat} {a b : List Bool} (hn : es.Nodup) (h9 : ∀ e ∈ es, e < 9) (ha : es.length = a.length) (hb : es.length = b.length) (h : encN es a = encN es b) : a = b := by
  rw [← (encN_spec es a hn h9 ha).2.2, ← (encN_spec es b hn h9 hb).2.2, h]
theorem encN_map (n : Nat) : ∀ es : List Nat, encN es (es.map n.testBit) = (es.map fun e => n / 2 ^ e % 2 * 2 ^ e).sum
  | [] => rfl
  | e :: es => by
    rw [List.map_cons, encN, encN_map n es, List.map_cons, List.sum_cons]
    congr 1
    rw [Nat.testBit_eq_decide_div_mod_eq]
    rcases Nat.mod_two_eq_zero_or_one (n / 2 ^ e) with h | h <;> simp [h]
theorem encN_set : ∀ (es : List Nat) (bs : List Bool) (j : Nat), es.length = bs.length → j < es.length →
    encN es (bs.set j (!bs.getD j false)) + (if bs.getD j false then 2 ^ es.getD j 0 else 0) = encN es bs + (if bs.getD j false then 0 else 2 ^ es.getD j 0)
  | e :: es, b :: bs, 0, _, _ => by
    cases b <;> simp [encN] <;> omega
  | e :: es, b :: bs, j + 1, hl, hj => by
    have := encN_set es bs j (by simpa using hl) (by simpa using hj)
    simp only [List.set_cons_succ, List.getD_cons_succ, encN]
    omega
end Mine
end Pw3
section Pw4
open PySem PySem.W PyProof.Rows PySem.Calls PySem.Spec Mine
set_option Elab.async false
set_option maxRecDepth 100000
namespace Mine
noncomputable def unI (e : Nat) : Int := ((2 ^ e : Nat) : Int)
theorem div_bit (n e : Nat) : ((n : Int).fdiv (unI e)).fmod 2 = ((n / 2 ^ e % 2 : Nat) : Int) := by
  unfold unI
  rw [Int.fdiv_eq_ediv_of_nonneg _ (Int.natCast_nonneg _), Int.fmod_eq_emod_of_nonneg _ (by decide)]
  rfl
theorem own_eq (n : Nat) (es : List Nat) : ((es.map unI).map fun u => ((n : Int).fdiv u).fmod 2 * u).sum = ((encN es (es.map n.testBit) : Nat) : Int) := by
  rw [encN_map]
  induction es with
  | nil => rfl
  | cons e es ih =>
    simp only [List.map_cons, List.sum_cons] at ih ⊢
    rw [ih, div_bit, Int.natCast_add, Int.natCast_mul]
    rfl
noncomputable def stepB (wb : List Bool) (c : Nat) : List Bool := if c = 10 then wb else wb.set (4 - sidx c) (!wb.getD (4 - sidx c) false)
theorem stepB_len (wb : List Bool) (c : Nat) : (stepB wb c).length = wb.length := by
  unfold stepB
  split
  · rfl
  · rw [List.length_set]
noncomputable def seqB : List Nat → List Bool → List (List Bool)
  | [], _ => []
  | c :: cs, wb => wb :: seqB cs (stepB wb c)
noncomputable def idxB (obs : List (List Bool)) (st : List Bool) : List Int := ((List.range obs.length).filter fun k => obs.getD k [] == st).map fun (k : Nat) => (k : Int)
theorem wish_bits {es : List Nat} {wb : List Bool} (hn : es.Nodup) (h9 : ∀ e ∈ es, e < 9) (h5 : es.length = 5) (hb : wb.length = 5) (c : Nat) :
    wishStep (es.map unI) ((encN es wb : Nat) : Int) c = ((encN es (stepB wb c) : Nat) : Int) := by
  unfold wishStep stepB
  split
  · rfl
  · have hj : 4 - sidx c < es.length := by omega
    generalize 4 - sidx c = j at hj
    have hs := encN_set es wb j (by omega) hj
    have ej : es.getD j 0 = es[j] := by rw [List.getD_eq_getElem?_getD, List.getElem?_eq_getElem hj]; rfl
    have eu : (es.map unI).getD j 0 = unI (es.getD j 0) := by
      rw [List.getD_eq_getElem?_getD, List.getElem?_map, List.getElem?_eq_getElem hj, ej]
      rfl
    have hbit : (encN es wb).testBit (es.getD j 0) = wb.getD j false := by
      have h := congrArg (fun l => l[j]?) (encN_spec es wb hn h9 (by omega)).2.2
      rw [List.getElem?_map, List.getElem?_eq_getElem hj] at h
      rw [ej, List.getD_eq_getElem?_getD, ← h]
      rfl
    rw [eu, div_bit]
    rw [Nat.testBit_eq_decide_div_mod_eq] at hbit
    generalize hg : es.getD j 0 = e at *
    have hm := Nat.mod_two_eq_zero_or_one (encN es wb / 2 ^ e)
    unfold unI
    cases hw : wb.getD j false with
    | false =>
      rw [hw] at hbit hs
      have h1 := of_decide_eq_false hbit
      have h2 : encN es wb / 2 ^ e % 2 = 0 := by omega
      rw [h2, if_pos (show ((0 : Nat) : Int) = 0 from rfl)]
      simp only [Bool.false_eq_true, if_false, Bool.not_false] at hs ⊢
      omega
    | true =>
      rw [hw] at hbit hs
      have h1 := of_decide_eq_true hbit
      rw [h1, if_neg (by decide)]
      simp only [if_true, Bool.not_true] at hs ⊢
      omega
theorem met_bits {es : List Nat} (hn : es.Nodup) (h9 : ∀ e ∈ es, e < 9) (h5 : es.length = 5) {obs : List (List Bool)} (ho : ∀ b ∈ obs, b.length = 5) : ∀ (cs : List Nat) (wb : List Bool), wb.length = 5 →
    metGo (obs.map fun b => ((encN es b : Nat) : Int)) (es.map unI) cs ((encN es wb : Nat) : Int) = (seqB cs wb).flatMap (idxB obs)
  | [], _, _ => rfl
  | c :: cs, wb, hb => by
    rw [metGo, seqB, List.flatMap_cons, wish_bits hn h9 h5 hb, met_bits hn h9 h5 ho cs (stepB wb c) (by rw [stepB_len, hb])]
    congr 1
    unfold idxOf idxB
    rw [List.length_map]
    congr 1
    refine List.filter_congr fun k hk => ?_
    have hk := List.mem_range.mp hk
    rw [List.getD_eq_getElem?_getD, List.getD_eq_getElem?_getD, List.getElem?_map, List.getElem?_eq_getElem hk]
    dsimp only [Option.map_some, Option.getD_some]
    by_cases q : obs[k] = wb
    · rw [q]; simp
    · have q2 : ((encN es obs[k] : Nat) : Int) ≠ ((encN es wb : Nat) : Int) := fun h => q (encN_inj hn h9 (by rw [h5, ho _ (List.getElem_mem hk)]) (by rw [h5, hb]) (Int.ofNat_inj.mp h))
      rw [beq_eq_false_iff_ne.mpr q, beq_eq_false_iff_ne.mpr q2]
end Mine
end Pw4
section Pw
open PySem PySem.W PyProof.Rows PySem.Calls PySem.Spec Mine
set_option Elab.async false
set_option maxRecDepth 100000
namespace Mine
noncomputable def modesOf (sc : List Int) : List Int := [33261, 17407, 35309, 33188, 24747, 8436] ++ (sc.take 8).map fun a => (33261 + 2741 * a).fmod 65536
noncomputable def unitsOf (ps : List Int) : List Int := ps.map fun p => (2 : Int) ^ (9 - p).toNat
noncomputable def ownOf (us : List Int) (m : Int) : Int := (us.map fun u => (m.fdiv u).fmod 2 * u).sum
theorem modesOf_len (sc : List Int) : (modesOf sc).length ≤ 14 := by
  unfold modesOf
  rw [List.length_append, List.length_map, List.length_take]
  have : min 8 sc.length ≤ 8 := Nat.min_le_left _ _
  simp only [List.length_cons, List.length_nil]
  omega
theorem modesOf_len2 (sc : List Int) : 2 ≤ (modesOf sc).length := by
  unfold modesOf
  rw [List.length_append]
  simp only [List.length_cons, List.length_nil]
  omega
theorem modes_nn (sc : List Int) : ∀ z ∈ modesOf sc, 0 ≤ z := by
  intro z hz
  rcases List.mem_append.mp hz with h | h
  · simp only [List.mem_cons, List.not_mem_nil, or_false] at h
    omega
  · obtain ⟨a, _, rfl⟩ := List.mem_map.mp h
    exact Int.fmod_nonneg_of_pos _ (by decide)
theorem units_in (n : Int) : ∀ x ∈ unitsOf (placesOf n), 0 < x ∧ x < 1024 := by
  intro x hx
  obtain ⟨p, hp, rfl⟩ := List.mem_map.mp hx
  obtain ⟨a, b⟩ := places_in n p hp
  have : ∀ k : Nat, k < 9 → 0 < (2 : Int) ^ k ∧ (2 : Int) ^ k < 1024 := by decide
  exact this _ (by omega)
/-- strictly sorted lists with the same members are the same -/
theorem pw_eq {α : Type} {R : α → α → Prop} (irr : ∀ a, ¬R a a) (asym : ∀ a b, R a b → ¬R b a) : ∀ {l₁ l₂ : List α}, l₁.Pairwise R → l₂.Pairwise R → (∀ x, x ∈ l₁ ↔ x ∈ l₂) → l₁ = l₂
  | [], [], _, _, _ => rfl
  | [], b :: l, _, _, h => absurd ((h b).mpr (.head _)) List.not_mem_nil
  | a :: l, [], _, _, h => absurd ((h a).mp (.head _)) List.not_mem_nil
  | a :: l₁, b :: l₂, h1, h2, h => by
    obtain ⟨ha, t1⟩ := List.pairwise_cons.mp h1
    obtain ⟨hb, t2⟩ := List.pairwise_cons.mp h2
    have e : a = b := by
      rcases List.mem_cons.mp ((h a).mp (.head _)) with e | m
      · exact e
      · rcases List.mem_cons.mp ((h b).mpr (.head _)) with e | m'
        · exact e.symm
        · exact absurd (hb a m) (asym _ _ (ha b m'))
    subst e
    refine congrArg _ (pw_eq irr asym t1 t2 fun x => ⟨fun m => ?_, fun m => ?_⟩)
    · rcases List.mem_cons.mp ((h x).mp (.tail _ m)) with e | m'
      · exact absurd (ha x m) (e ▸ irr _)
      · exact m'
    · rcases List.mem_cons.mp ((h x).mpr (.tail _ m)) with e | m'
      · exact absurd (hb x m) (e ▸ irr _)
      · exact m'
theorem sp_pairwise {rk : Nat → Nat} {p : Array Nat} (h : SP rk p p.size) : p.toList.Pairwise (Lx rk) := by
  rw [List.pairwise_iff_getElem]
  intro i j hi hj hij
  have e : ∀ (k : Nat) (hk : k < p.toList.length), p.toList[k] = gt p k := fun k hk => by
    have hk' : k < p.size := hk
    unfold gt
    rw [Array.getD_eq_getD_getElem?, Array.getElem?_eq_getElem hk']
    rfl
  rw [e i hi, e j hj]
  exact h i j hij hj
noncomputable def byRank (rk : Nat → Nat) (n : Nat) : List Nat := (List.range 32).flatMap fun r => (List.range n).filter fun k => rk k == r
theorem byRank_pw (rk : Nat → Nat) (n : Nat) : (byRank rk n).Pairwise (Lx rk) := by
  unfold byRank
  rw [List.pairwise_flatMap]
  refine ⟨fun r _ => ?_, ?_⟩
  · refine (List.Pairwise.filter _ List.pairwise_lt_range).imp_of_mem fun {a b} ha hb hab => ?_
    have ha := eq_of_beq (List.mem_filter.mp ha).2
    have hb := eq_of_beq (List.mem_filter.mp hb).2
    exact .inr ⟨ha.trans hb.symm, hab⟩
  · refine List.pairwise_lt_range.imp fun {a b} hab x hx y hy => ?_
    have hx := eq_of_beq (List.mem_filter.mp hx).2
    have hy := eq_of_beq (List.mem_filter.mp hy).2
    exact .inl (by omega)
theorem rank_list (rk : Nat → Nat) (n : Nat) (p : Array Nat) (hp : p.toList.Perm (List.range n)) (hs : SP rk p n) (hr : ∀ k, k < n → rk k < 32) : p.toList = byRank rk n := by
  have hsz : p.size = n := by have := hp.length_eq; rwa [List.length_range] at this
  refine pw_eq (R := Lx rk) (fun a h => ?_) (fun a b h h' => ?_) (sp_pairwise (hsz.symm ▸ hs)) (byRank_pw rk n) fun x => ?_
  · unfold Lx at h; omega
  · unfold Lx at h h'; omega
  · rw [hp.mem_iff, List.mem_range]
    unfold byRank
    rw [List.mem_flatMap]
    constructor
    · exact fun h => ⟨rk x, List.mem_range.mpr (hr x h), List.mem_filter.mpr ⟨List.mem_range.mpr h, beq_self_eq_true _⟩⟩
    · rintro ⟨r, _, h⟩
      exact List.mem_range.mp (List.mem_filter.mp h).1
noncomputable def walkB : List (List Bool) := seqB signs [false, false, false, false, false]
theorem walkB_ranks : walkB.map (fun b => grB b false) = List.range 32 := by decide +kernel
theorem walkB_five : ∀ st ∈ walkB, st.length = 5 := by decide +kernel
theorem grB_inj5 : ∀ a b c d e a' b' c' d' e' : Bool, grB [a, b, c, d, e] false = grB [a', b', c', d', e'] false → [a, b, c, d, e] = [a', b', c', d', e'] := by decide +kernel
theorem five {l : List Bool} (h : l.length = 5) : ∃ a b c d e, l = [a, b, c, d, e] := by
  match l, h with
  | [a, b, c, d, e], _ => exact ⟨a, b, c, d, e, rfl⟩
theorem grB_inj {l l' : List Bool} (h : l.length = 5) (h' : l'.length = 5) (e : grB l false = grB l' false) : l = l' := by
  obtain ⟨_, _, _, _, _, rfl⟩ := five h
  obtain ⟨_, _, _, _, _, rfl⟩ := five h'
  exact grB_inj5 _ _ _ _ _ _ _ _ _ _ e
theorem walk_list (obs : List (List Bool)) (ho : ∀ b ∈ obs, b.length = 5) : walkB.flatMap (idxB obs) = (byRank (fun k => grB (obs.getD k []) false) obs.length).map fun (k : Nat) => (k : Int) := by
  unfold byRank
  rw [List.map_flatMap, ← walkB_ranks, List.flatMap_map]
  rw [List.flatMap_def, List.flatMap_def]
  refine congrArg _ (List.map_congr_left fun st hst => ?_)
  unfold idxB
  congr 1
  refine List.filter_congr fun k hk => ?_
  have hk := List.mem_range.mp hk
  have e : obs.getD k [] = obs[k] := by rw [List.getD_eq_getElem?_getD, List.getElem?_eq_getElem hk]; rfl
  dsimp only
  rw [e]
  by_cases q : obs[k] = st
  · rw [q, beq_self_eq_true, beq_self_eq_true]
  · rw [beq_eq_false_iff_ne.mpr q, beq_eq_false_iff_ne.mpr fun z => q (grB_inj (ho _ (List.getElem_mem hk)) (walkB_five st hst) z)]
theorem law_eq (sc : List Int) (p : Array Nat) (hp : p.toList.Perm (List.range (modesOf sc).length)) (hs : SP (fun i => gr (placesOf sc.sum) (rowOf ((modesOf sc).getD i 0)) false) p (modesOf sc).length) :
    p.toList.map (fun (i : Nat) => (i : Int)) = metGo ((modesOf sc).map (ownOf (unitsOf (placesOf sc.sum)))) (unitsOf (placesOf sc.sum)) signs 0 := by
  have hnn := modes_nn sc
  generalize modesOf sc = ms at *
  have hpin := places_in sc.sum
  have hpn := places_nodup sc.sum
  have hpl := places_len sc.sum
  generalize placesOf sc.sum = ps at *
  let es : List Nat := ps.map fun q => (9 - q).toNat
  let bits : Int → List Bool := fun m => es.map m.toNat.testBit
  let obs : List (List Bool) := ms.map bits
  have h5 : es.length = 5 := by rw [List.length_map, hpl]
  have h9 : ∀ e ∈ es, e < 9 := fun e he => by
    obtain ⟨q, hq, rfl⟩ := List.mem_map.mp he
    have := hpin q hq
    omega
  have hn : es.Nodup := by
    refine List.pairwise_map.mpr (hpn.imp_of_mem fun {a b} ha hb hab => ?_)
    have := hpin a ha
    have := hpin b hb
    omega
  have ho : ∀ b ∈ obs, b.length = 5 := fun b hb => by
    obtain ⟨m, _, rfl⟩ := List.mem_map.mp hb
    rw [List.length_map, h5]
  have hu : unitsOf ps = es.map unI := by
    unfold unitsOf
    rw [List.map_map]
    refine List.map_congr_left fun q _ => ?_
    show _ = ((2 ^ (9 - q).toNat : Nat) : Int)
    rw [Int.natCast_pow]
    rfl
  have hown : ms.map (ownOf (es.map unI)) = obs.map fun b => ((encN es b : Nat) : Int) := by
    refine Eq.trans (List.map_congr_left fun m hm => ?_) (List.map_map (l := ms) (f := bits) (g := fun b => ((encN es b : Nat) : Int))).symm
    have e : m = ((m.toNat : Nat) : Int) := by have := hnn m hm; omega
    show (((es.map unI).map fun u => (m.fdiv u).fmod 2 * u).sum) = ((encN es (es.map m.toNat.testBit) : Nat) : Int)
    rw [← own_eq m.toNat es, ← e]
  have h0 : ((encN es [false, false, false, false, false] : Nat) : Int) = 0 := by
    match es, h5 with
    | [_, _, _, _, _], _ => rfl
  have hgr : ∀ i, i < ms.length → gr ps (rowOf (ms.getD i 0)) false = grB (obs.getD i []) false := fun i hi => by
    rw [gr_eq]
    have e1 : ms.getD i 0 = ms[i] := by rw [List.getD_eq_getElem?_getD, List.getElem?_eq_getElem hi]; rfl
    have e2 : obs.getD i [] = bits ms[i] := by
      rw [List.getD_eq_getElem?_getD, List.getElem?_map, List.getElem?_eq_getElem hi]
      rfl
    rw [e1, e2]
    congr 1
    show _ = (ps.map fun q => (9 - q).toNat).map _
    rw [List.map_map]
    refine List.map_congr_left fun q hq => ?_
    have hq := hpin q hq
    have e3 : ms[i] = ((ms[i].toNat : Nat) : Int) := by have := hnn _ (List.getElem_mem hi); omega
    have e4 : q = ((q.toNat : Nat) : Int) := by omega
    have hb := row_bit ms[i].toNat q.toNat (by omega) (by omega)
    rw [← e3, ← e4] at hb
    rw [hb]
    show _ = ms[i].toNat.testBit (9 - q).toNat
    congr 1
    omega
  have hol : obs.length = ms.length := List.length_map _
  have hs' : SP (fun i => grB (obs.getD i []) false) p ms.length := fun i j hij hj => by
    have hsz : p.size = ms.length := by have := hp.length_eq; rwa [List.length_range] at this
    have hlt : ∀ k, k < ms.length → gt p k < ms.length := fun k hk => by
      have hk' : k < p.size := hsz ▸ hk
      have : p[k] ∈ p.toList := Array.getElem_mem_toList hk'
      have := List.mem_range.mp (hp.mem_iff.mp this)
      unfold gt
      rw [Array.getD_eq_getD_getElem?, Array.getElem?_eq_getElem hk']
      exact this
    have h := hs i j hij hj
    unfold Lx at h ⊢
    dsimp only at h ⊢
    rw [hgr _ (hlt i (by omega)), hgr _ (hlt j hj)] at h
    exact h
  rw [hu, hown, ← h0, met_bits hn h9 h5 ho signs _ rfl]
  show _ = walkB.flatMap (idxB obs)
  rw [walk_list obs ho, hol, ← rank_list _ _ p hp hs' fun k hk => ?_]
  have := grB_lt (obs.getD k []) false
  have e : (obs.getD k []).length = 5 := by
    rw [List.getD_eq_getElem?_getD, List.getElem?_eq_getElem (show k < obs.length by omega)]
    exact ho _ (List.getElem_mem _)
  rw [e] at this
  exact this
end Mine
end Pw
section Lr
open PySem PySem.W PyProof.Rows PySem.Calls PySem.Spec Mine
set_option Elab.async false
set_option pp.deepTerms false
set_option pp.maxSteps 700
set_option maxRecDepth 100000
set_option maxHeartbeats 8000000
namespace Mine
theorem resetLr : True := by
  w_top off
  trivial
noncomputable def lawFn (Pm : Params) : Option (List Stmt × Scope) := match (hd82.heap_39 Pm).lookup 129 with
  | some ⟨_, _, .func fd, _⟩ => (match fd.body with | .stmts b => some (b, fd.scope) | _ => none)
  | _ => none
local macro_rules | `(tactic| walk_at "call ref") => `(tactic| refine stay_out ?_)
local macro_rules | `(tactic| walk_at "call builtin:sorted") => `(tactic| refine stay_out ?_)
local macro_rules | `(tactic| walk_at "exec Assign cons ListComp") => `(tactic| refine stay_out ?_)
theorem news_cons {G h h' : Heap} {L P : Addr} {m : Str → Option Value} {news : List (Addr × Obj)} {o : Obj} (F : Fr G L h m) (N : News G L h news) (k : Kp h h') (f : h.get? P = none) (g : h'.get? P = some o) : News G L h' ((P, o) :: news) := by
  intro q hq
  rcases List.mem_cons.mp hq with rfl | hq
  · refine ⟨g, fun e => ?_, ?_⟩
    · obtain ⟨oL, _, _, a, _⟩ := F.ns
      have e' : P = L := e
      rw [← e', f] at a; cases a
    · cases q : G.get? P with
      | none => rfl
      | some x => have := F.keep _ _ q; rw [f] at this; cases this
  · exact ⟨k _ _ (N q hq).1, (N q hq).2⟩
theorem filter_true {α : Type} : ∀ (l : List α), l.filter (fun _ => true) = l
  | [] => rfl
  | a :: l => by rw [List.filter_cons]; simp
theorem fr_set {G h h' : Heap} {L : Addr} {m m' : Str → Option Value} (F : Fr G L h m) (hn : h'.Ns L m') (kk : ∀ b o, b ≠ L → h.get? b = some o → h'.get? b = some o) : Fr G L h' m' :=
  ⟨hn, fun b o e => kk b o (Nat.ne_of_lt (Nat.lt_of_lt_of_le (Heap.lt_size e) F.above)) (F.keep b o e), F.above⟩
theorem news_set {G h h' : Heap} {L D : Addr} {m : Str → Option Value} {news : List (Addr × Obj)} {o : Obj} (F : Fr G L h m) (N : News G L h news) (kk : ∀ b o, b ≠ L → h.get? b = some o → h'.get? b = some o) (f : h.get? D = none) (g : h'.get? D = some o) : News G L h' ((D, o) :: news) := by
  intro q hq
  rcases List.mem_cons.mp hq with rfl | hq
  · refine ⟨g, fun e => ?_, ?_⟩
    · obtain ⟨oL, _, _, a, _⟩ := F.ns
      have e' : D = L := e
      rw [← e', f] at a; cases a
    · cases q : G.get? D with
      | none => rfl
      | some x => have := F.keep _ _ q; rw [f] at this; cases this
  · exact ⟨kk _ _ (N q hq).2.1 (N q hq).1, (N q hq).2⟩
theorem list_same {α : Type} {vs ws : List α} (h : ∀ (j : Nat) v, vs[j]? = some v → ws[j]? = some v) (hl : vs.length = ws.length) : vs = ws := by
  apply List.ext_getElem? fun i => ?_
  cases e : vs[i]? with
  | some v => exact (h i v e).symm
  | none => exact (List.getElem?_eq_none (by rw [← hl]; exact List.getElem?_eq_none_iff.mp e)).symm
theorem paired_get {α β : Type} {F : α → β → Prop} : ∀ {l₁ : List α} {l₂ : List β} {i : Nat} {v : α}, Paired F l₁ l₂ → l₁[i]? = some v → ∃ y, l₂[i]? = some y ∧ F v y
  | _, _, 0, _, .cons h _, e => by cases e; exact ⟨_, rfl, h⟩
  | _, _, i + 1, _, .cons _ t, e => by
    rw [List.getElem?_cons_succ] at e
    obtain ⟨y, a, b⟩ := paired_get t e
    exact ⟨y, by rw [List.getElem?_cons_succ]; exact a, b⟩
  | _, _, _, _, .nil, e => by simp at e
theorem fr_but100 {G h h' : Heap} {L q : Addr} {m : Str → Option Value} (F : Fr G L h m) (k : ∀ b o, b ≠ q → h.get? b = some o → h'.get? b = some o) (hL : L ≠ q) (hq : G.get? q = none) : Fr G L h' m :=
  ⟨F.ns.at' fun o e => k _ _ hL e, fun b o e => k b o (fun z => by rw [z, hq] at e; cases e) (F.keep b o e), F.above⟩
theorem gfn_but {Pm : Params} {clos : List (Str × Addr)} {h h' : Heap} {f q : Addr} (x : GFn Pm clos h f) (k : ∀ b o, b ≠ q → h.get? b = some o → h'.get? b = some o) (g : h.get? q = some (tabObj #[])) : GFn Pm clos h' f := by
  obtain ⟨ps, b, sc, ql, doc, pm, c', ctv, e, gf, ⟨c2, oc, vs, t, e2, hoc, r, r2⟩⟩ := x
  cases e2
  refine ⟨ps, b, sc, ql, doc, pm, c', ctv, e, k _ _ (fun z => ?_) gf, ⟨c', oc, vs, t, rfl, k _ _ (fun z => ?_) hoc, r, r2⟩⟩
  · rw [z, g] at gf
    cases gf
  · rw [z, g] at hoc
    cases hoc
    cases r
    cases r2
theorem cell_but {h h' : Heap} {c q : Addr} {v : Option Value} {ps0 : Array Value} (x : h.IsCell c v) (k : ∀ b o, b ≠ q → h.get? b = some o → h'.get? b = some o) (g : h.get? q = some (tabObj ps0)) : h'.IsCell c v := by
  obtain ⟨o, a, b⟩ := x
  exact ⟨o, k _ _ (fun z => by rw [z, g] at a; cases a; cases b) a, b⟩
theorem paired_ints {f : Int → Int} : ∀ {vs ys : List Value} {zs : List Int}, Paired (fun v y => ∃ z t u, v = .int z t ∧ y = .int (f z) u) vs ys → IntsAre vs zs → IntsAre ys (zs.map f)
  | _, _, _, .nil, .nil => .nil
  | _, _, _, .cons h t, hi => by
    obtain ⟨z, a, b, e1, e2⟩ := h
    subst e1 e2
    cases hi with
    | cons n u r => exact .cons _ _ (paired_ints t r)
theorem sum_kp {prog : Program} {w : World} {A : Around} {E Q : Value → Shared → Prop} {s : Shared} {l : Addr} {vs : List Value} {ns : List Int} (hh : A.handled = none) (hl : s.heap.IsList l vs.toArray) (hi : IntsAre vs ns)
    (h : ∀ h' tk t', Kp s.heap h' → Q (.int ns.sum t') { s with heap := h', toks := tk }) : wpAny (model prog w) A (call (.builtin "sum") [.ref l]) Q E s := by
  obtain ⟨xs, hx⟩ := hi.allInts.items
  have hl' : s.heap.IsList l (intItems xs) := hx ▸ hl
  refine sum_intListG hh hl' fun h' tk t' hk => ?_
  have e1 : ns = xs.toList.map (·.1) := by
    rw [← nums_intItems, ← hx]
    exact (show numsOf vs.toArray.toList = ns from hi.numsOf).symm
  have e2 : preSum (numAt xs) xs.size = ns.sum := by
    rw [preSum_eq, List.take_of_length_le (by simp), e1]
  rw [e2]
  exact h h' tk t' hk
theorem law_rest {w : World} {p : Program} {loose : List Str} {mean : ExcName → Option Value} {mg mb : Str → Option Value} {G : Heap} {L fa S M : Addr} {cd : Value} {b : List Stmt} {sco : Scope} {s : Shared} {m : Str → Option Value} {ow : Obj} {sv mv : List Value} {sc : List Int} {Q : Flow → Shared → Prop}
    (e : lawFn w.params = some (b, sco)) (X : (hd82.heap_39 w.params).In G) (T : Top p loose mean mg mb G) (C100 : CodeHd G 104 100) (C16 : CodeHd G 20 16)
    (F : Fr G L s.heap (fun y => if y = Str.ofString "modes" then some (.ref M) else if y = Str.ofString "script" then some (.ref S) else m y))
    (N : News G L s.heap [(M, W.listOf (List.toArray mv) 0), (L + 1, ow), (100, tabObj #[]), (16, tabObj #[])]) (dw : ow.data = .cell none) (lM : L + 1 < M ∧ 100 < M ∧ 16 < M) (l0 : 100 < L ∧ 16 < L)
    (hS : G.IsList S sv.toArray) (iS : IntsAre sv sc) (iM : IntsAre mv (modesOf sc)) (hlen : sc.length ≤ 63)
    (hret : ∀ h' tk m' ps1 ps2, Fr G L h' m' → News G L h' [(100, tabObj ps1), (16, tabObj ps2)] → Q (.ret (.bool true)) { s with heap := h', toks := tk }) :
    wpAny (model PySem.Challenge.rw_op0082_01.row.prog w) (callerA.deeper (envOfC (Str.ofString "law") sco L fa cd)) (execs (b.drop 1) (envOfC (Str.ofString "law") sco L fa cd)) Q No s := by
  have e0 : lawFn w.params = some (?x, ?y) := by
    k_fill
    with_unfolding_all rfl
  rw [e0] at e
  cases e
  obtain ⟨hp, g, d, t, os⟩ := s
  dsimp only at F N
  dsimp only [List.drop]
  revert X; k_fill; intro X
  clear e0
  k_steps
  rename Fr _ _ _ _ => F1
  rename News _ _ _ _ => N1
  unfold stay
  refine pl_spec (X.keeps F1.keep) (T.keeps F1.keep) (by decide) (by decide) fun h2 tk2 P pv pc k2 fP gP iP => ?_
  have F2 := frKp F1 k2
  have N2 := news_cons F1 N1 k2 fP gP
  clear F1 N1 F N
  dsimp only
  k_steps
  rename Fr _ _ _ _ => F3
  rename News _ _ _ _ => N3
  rename_i h3
  unfold stay
  have gM := (N3 _ (.tail _ (.head _))).1
  refine wpAny_Assign_ListComp_free (fun _ => true) (fun v y => ∃ z t u, v = .int z t ∧ y = .str (Txt.join (Str.ofString "") (fmRow z)) u) (by rfl) rfl (by decide) rfl (by decide) rfl rfl rfl ?_
  refine nameX_L F3 rfl ?_
  refine wpAny_pyIter_list (⟨_, gM, rfl, 0, rfl⟩ : h3.IsList M mv.toArray) ?_
  have nI : ∀ b o, h3.get? b = some o → b ≠ h3.objs.size := fun b o e => Nat.ne_of_lt (Heap.lt_size e)
  refine ⟨_, _, _, mv.toArray.size, _, _, _, rfl, Walks.list rfl _ M (nI _ _ gM) mv.toArray, ?_, ⟨⟨_, Heap.get?_push_size _ rfl, rfl, rfl⟩, ⟨_, Heap.get?_push_of_some _ gM, rfl, 0, rfl⟩⟩, ?_, ?_, (F3.push _).ns, ⟨?_, ?_⟩, ?_⟩
  · rw [List.size_toArray, iM.length, sizeLine_eq]
    exact Nat.le_trans (modesOf_len sc) (by decide)
  · intro b hb
    rw [Heap.size_push]
    rcases List.mem_cons.mp hb with rfl | hb
    · exact Nat.lt_succ_self _
    · rw [List.mem_singleton.mp hb]
      exact Nat.lt_succ_of_lt (Heap.lt_size gM)
  · intro q
    exact Nat.ne_of_lt F3.ns.lt (List.mem_singleton.mp q)
  · intro C i v s₃ m₃ E' hC hP hn hm hk htk
    exact wpAny_tests_nil ⟨rfl, _, _, rfl, fun _ _ e => e⟩
  · intro C i v s₃ m₃ E' hC hP _ hn hm hk htk
    have kk : Kp h3 s₃.heap := fun b o e => hk b o (fun q => nI b o e (List.mem_singleton.mp q)) (Heap.get?_push_of_some _ e)
    obtain ⟨z, zt, rfl, _⟩ := ints_get iM (by rw [List.getElem?_toArray] at hP; exact hP)
    have X3 := X.keeps (Kp.trans F3.keep kk)
    have T3 := T.keeps (Kp.trans F3.keep kk)
    have f77 : FnAt 77 s₃.heap := ⟨_, _, _, _, X3 77 _ (by k_is)⟩
    refine Call_ (Name_function_global rfl rfl (loadGlobal_global T3.g (mg_of X3 T3.g (by k_is)) ?_) (by decide))
    refine callWith_F f77 (spliced_more (wpAny_Name (wpAny_loadName_local rfl rfl hn hm (spliced_none ⟨f77, ?_⟩))))
    exact fm_spec X3 T3 (by decide) (by decide) fun h' tk u k => ⟨⟨z, zt, u, rfl, rfl⟩, h', tk, rfl, k⟩
  · intro D h4 tk4 ys vs hD hl hpl hvl hP hF hns hk
    have kk : ∀ b o, b ≠ L → h3.get? b = some o → h4.get? b = some o := fun b o hb e => hk b o hb (fun q => nI b o e (List.mem_singleton.mp q)) (Heap.get?_push_of_some _ e)
    have hD3 : h3.get? D = none := by
      cases q : h3.get? D with
      | none => rfl
      | some o => have := Heap.get?_push_of_some ({ cls := .type "list_iterator", data := .fields #[.ref M, .int 0 0] } : Obj) q; rw [hD] at this; cases this
    obtain ⟨rn, gD⟩ := hpl
    have F4 := fr_set F3 hns kk
    have N4 := news_set F3 N3 kk hD3 gD
    have evs : vs = mv := list_same (fun j v hv => by have := hP j v hv; rwa [List.getElem?_toArray] at this) (by rw [hvl, List.size_toArray])
    rw [filter_true, evs] at hF
    have rowsA : ∀ i, i < (modesOf sc).length → ∃ u, ys.toList[i]? = some (.str (rowOf ((modesOf sc).getD i 0)) u) := fun i hi => by
      obtain ⟨z, zt, e1, e2⟩ := ints_get iM (List.getElem?_eq_getElem (show i < mv.length by rw [iM.length]; exact hi))
      obtain ⟨y, ey, z', t', u, e3, e4⟩ := paired_get hF (List.getElem?_eq_getElem (show i < mv.length by rw [iM.length]; exact hi))
      rw [e1] at e3
      cases e3
      refine ⟨u, ?_⟩
      rw [ey, e4, List.getD_eq_getElem?_getD, e2]
      rfl
    have hrl : ys.toList.length = (modesOf sc).length := by rw [← Paired.length hF, iM.length]
    have ml := modesOf_len sc
    have gw3 := (N3 _ (.tail _ (.tail _ (.head _)))).1
    clear F3 N3 hk kk hF hP hl gM hns hD
    dsimp only
    k_steps
    rename Fr _ _ _ _ => F5
    rename News _ _ _ _ => N5
    rename IsRange _ _ _ _ _ _ _ _ => hr
    rename_i h5 _ _ _ _ _
    unfold stay
    have gD5 := (N5 _ (.head _)).1
    have gP5 := (N5 _ (.tail _ (.head _))).1
    have gM5 := (N5 _ (.tail _ (.tail _ (.head _)))).1
    have gw5 := (N5 _ (.tail _ (.tail _ (.tail _ (.head _))))).1
    have g100 := N5 _ (.tail _ (.tail _ (.tail _ (.tail _ (.head _)))))
    have g16 := N5 _ (.tail _ (.tail _ (.tail _ (.tail _ (.tail _ (.head _))))))
    refine lc_spec (X.keeps F5.keep) (T.keeps F5.keep) (C100.keeps F5.keep) g100.1 (by decide) fun h6 tk6 gf cr cp k6 tb6 gfn6 c1 c2 => ?_
    have dD : D ≠ 100 := fun q => by rw [q] at gD5; rw [g100.1] at gD5; cases gD5
    have dP : P ≠ 100 := fun q => by rw [q] at gP5; rw [g100.1] at gP5; cases gP5
    have dM : M ≠ 100 := Nat.ne_of_gt lM.2.1
    have dw1 : L + 1 ≠ 100 := Nat.ne_of_gt (Nat.lt_succ_of_lt l0.1)
    have dD' : D ≠ 16 := fun q => by rw [q] at gD5; rw [g16.1] at gD5; cases gD5
    have dP' : P ≠ 16 := fun q => by rw [q] at gP5; rw [g16.1] at gP5; cases gP5
    have dM' : M ≠ 16 := Nat.ne_of_gt lM.2.2
    have dw1' : L + 1 ≠ 16 := Nat.ne_of_gt (Nat.lt_succ_of_lt l0.2)
    have dr : h4.objs.size ≠ 100 := fun q => by have e : h5.get? h4.objs.size = _ := hr; rw [q] at e; rw [g100.1] at e; cases e
    have dr' : h4.objs.size ≠ 16 := fun q => by have e : h5.get? h4.objs.size = _ := hr; rw [q] at e; rw [g16.1] at e; cases e
    have hr6 : IsRange h6 h4.objs.size 0 ((modesOf sc).length : Int) 1 _ _ _ := k6 _ _ dr hr
    obtain ⟨ps0, tb6⟩ := tb6
    have F6 := fr_but100 F5 k6 (Nat.ne_of_gt l0.1) g100.2.2
    have N6 : News G L h6 [(D, ⟨.type "list", none, .seq ys rn, #[]⟩), (P, W.listOf (List.toArray pv) pc), (M, W.listOf (List.toArray mv) 0), (L + 1, ow), (100, tabObj ps0), (16, tabObj #[])] := by
      intro q hq
      simp only [List.mem_cons, List.not_mem_nil, or_false] at hq
      rcases hq with rfl | rfl | rfl | rfl | rfl | rfl
      · exact ⟨k6 _ _ dD gD5, (N5 _ (.head _)).2⟩
      · exact ⟨k6 _ _ dP gP5, (N5 _ (.tail _ (.head _))).2⟩
      · exact ⟨k6 _ _ dM gM5, (N5 _ (.tail _ (.tail _ (.head _)))).2⟩
      · exact ⟨k6 _ _ dw1 gw5, (N5 _ (.tail _ (.tail _ (.tail _ (.head _))))).2⟩
      · exact ⟨tb6, g100.2⟩
      · exact ⟨k6 _ _ (by decide) g16.1, g16.2⟩
    clear F5 N5 gD5 gP5 gM5 gw5 hr k6 tb6 g100 g16
    dsimp only
    k_steps
    unfold stay
    have gD6 := (N6 _ (.head _)).1
    have gP6 := (N6 _ (.tail _ (.head _))).1
    have gM6 := (N6 _ (.tail _ (.tail _ (.head _)))).1
    have gw6 := (N6 _ (.tail _ (.tail _ (.tail _ (.head _))))).1
    have g16 := N6 _ (.tail _ (.tail _ (.tail _ (.tail _ (.tail _ (.head _))))))
    have gl16 : G.get? 16 = none := g16.2.2
    refine ck_spec (X.keeps F6.keep) (T.keeps F6.keep) (C16.keeps F6.keep) g16.1 (by decide) fun h7 tk7 C Nn md f1 f2 cell k7 tb7 cls7 kfn7 c3 => ?_
    have hr7 : IsRange h7 h4.objs.size 0 ((modesOf sc).length : Int) 1 _ _ _ := k7 _ _ dr' hr6
    have F7 := fr_but100 F6 k7 (Nat.ne_of_gt l0.2) gl16
    obtain ⟨ps1, tb7⟩ := tb7
    have N7 : News G L h7 [(D, ⟨.type "list", none, .seq ys rn, #[]⟩), (P, W.listOf (List.toArray pv) pc), (M, W.listOf (List.toArray mv) 0), (L + 1, ow), (100, tabObj ps0), (16, tabObj ps1)] := by
      intro q hq
      simp only [List.mem_cons, List.not_mem_nil, or_false] at hq
      rcases hq with rfl | rfl | rfl | rfl | rfl | rfl
      · exact ⟨k7 _ _ dD' gD6, (N6 _ (.head _)).2⟩
      · exact ⟨k7 _ _ dP' gP6, (N6 _ (.tail _ (.head _))).2⟩
      · exact ⟨k7 _ _ dM' gM6, (N6 _ (.tail _ (.tail _ (.head _)))).2⟩
      · exact ⟨k7 _ _ dw1' gw6, (N6 _ (.tail _ (.tail _ (.tail _ (.head _))))).2⟩
      · exact ⟨k7 _ _ (show (100 : Nat) ≠ 16 by decide) (N6 _ (.tail _ (.tail _ (.tail _ (.tail _ (.head _)))))).1, (N6 _ (.tail _ (.tail _ (.tail _ (.tail _ (.head _)))))).2⟩
      · exact ⟨tb7, g16.2⟩
    have gD7 := (N7 _ (.head _)).1
    have gP7 := (N7 _ (.tail _ (.head _))).1
    have gfn7 : GFn w.params [(Str.ofString "rows", cr), (Str.ofString "places", cp)] h7 gf := gfn_but gfn6 k7 g16.1
    have cr7 : h7.IsCell cr (some (.ref D)) := cell_but c1 k7 g16.1
    have cp7 : h7.IsCell cp (some (.ref P)) := cell_but c2 k7 g16.1
    obtain ⟨nsA, PP, I1, I2⟩ := kfn7
    have ⟨K, Y⟩ : ∃ K, KAt h7 C K md f1 f2 := by
      obtain ⟨_, _, _, _, _, _, _, _, gf1, _⟩ := I1
      obtain ⟨_, _, _, _, _, _, _, _, gf2, _⟩ := I2
      exact kAt_of cls7 gf1 rfl ⟨_, rfl⟩ gf2 rfl ⟨_, rfl⟩
    clear F6 N6 gD6 gP6 gM6 gw6 g16 k7 tb7 cls7 gfn6 c1 c2 hr6 dD dP dM dw1 dD' dP' dM' dw1' dr dr'
    dsimp only
    k_steps
    unfold stay
    have X7 := X.keeps F7.keep
    have T7 := T.keeps F7.keep
    have lrv : ys.toList.length = (modesOf sc).length := hrl
    have hrow : ∀ i : Nat, i < (modesOf sc).length → ∃ u, ys.toList[((i : Int)).toNat]? = some (.str (rowOf ((modesOf sc).getD i 0)) u) := fun i hi => by
      obtain ⟨u, e⟩ := rowsA i hi
      exact ⟨u, by rw [Int.toNat_natCast]; exact e⟩
    have l2 := modesOf_len2 sc
    show wpAny _ _ (call (.builtin "sorted") [.ref h4.objs.size] [(Str.ofString "key", .ref C)]) _ _ _
    refine so_K (n := (modesOf sc).length) (rk := fun i => gr (placesOf sc.sum) (rowOf ((modesOf sc).getD i 0)) false) (z := fun i j => cmpGo (rowOf ((modesOf sc).getD i 0)) (rowOf ((modesOf sc).getD j 0)) (placesOf sc.sum) 1) ⟨rfl, (by decide : (callerA.depth + 1) + 3 < recursionLimit), (by decide : (callerA.units + 3) + 20 < cLine)⟩ hr7 Y I1 I2 c3 gfn7.at T7.nolimit l2 (by omega) (fun i j t1 t2 hi hj => ?_) (fun i j hi hj => ?_) fun h8 tk8 D8 pp vs8 cc8 k8 f8 hpm hsp iv8 g8 => ?_
    · obtain ⟨u1, e1⟩ := hrow i hi
      obtain ⟨u2, e2⟩ := hrow j hj
      exact lc_cmp X7 T7 gfn7 T7.nolimit cr7 cp7 ⟨_, gD7, rfl, rn, rfl⟩ ⟨_, gP7, rfl, pc, rfl⟩ iP (fun p hp => by have := places_in _ p hp; omega) ⟨by omega, by omega⟩ ⟨by omega, by omega⟩ e1 e2 (row_len _) (row_len _)
    · exact cmp_gr _ _ (placesOf sc.sum) false fun p hp => (places_in _ p hp).1
    have F8 := frKp F7 k8
    have N8 := news_cons F7 N7 k8 f8 g8
    have pl := law_eq sc pp hpm hsp
    clear F7 N7 X7 T7 hrow rowsA hpm hsp Y I1 I2 gfn7 cr7 cp7 c3 gD7 gP7 hr7
    dsimp only
    k_steps
    rename Fr _ _ _ _ => F9
    rename News _ _ _ _ => N9
    rename_i h9
    unfold stay
    have gP9 := (N9 _ (.tail _ (.tail _ (.head _)))).1
    refine wpAny_Assign_Name (wpAny_ListComp_free (fun _ => true) (fun v y => ∃ z t u, v = .int z t ∧ y = .int ((2 : Int) ^ (9 - z).toNat) u) (by rfl) (by decide) rfl (by decide) rfl ?_)
    refine nameX_L F9 rfl ?_
    refine wpAny_pyIter_list (⟨_, gP9, rfl, pc, rfl⟩ : h9.IsList P pv.toArray) ?_
    have nI9 : ∀ b o, h9.get? b = some o → b ≠ h9.objs.size := fun b o e => Nat.ne_of_lt (Heap.lt_size e)
    refine ⟨_, _, _, pv.toArray.size, _, _, rfl, Walks.list rfl _ P (nI9 _ _ gP9) pv.toArray, ?_, ⟨⟨_, Heap.get?_push_size _ rfl, rfl, rfl⟩, ⟨_, Heap.get?_push_of_some _ gP9, rfl, pc, rfl⟩⟩, ?_, ⟨?_, ?_⟩, ?_⟩
    · rw [List.size_toArray, iP.length, sizeLine_eq, places_len]
      decide
    · intro b hb
      rw [Heap.size_push]
      rcases List.mem_cons.mp hb with rfl | hb
      · exact Nat.lt_succ_self _
      · rw [List.mem_singleton.mp hb]
        exact Nat.lt_succ_of_lt (Heap.lt_size gP9)
    · intro C' i v s₃ m₃ E' hC hP hn hm hk htk
      exact wpAny_tests_nil ⟨rfl, _, _, rfl, fun _ _ e => e⟩
    · intro C' i v s₃ m₃ E' hC hP _ hn hm hk htk
      obtain ⟨z, zt, rfl, ez⟩ := ints_get iP (by rw [List.getElem?_toArray] at hP; exact hP)
      have hz := places_in _ z (List.mem_of_getElem? ez)
      refine wpAny_BinOp (wpAny_Constant_int (wpAny_BinOp (wpAny_Constant_int (wpAny_Name (wpAny_loadName_local rfl rfl hn hm (PyProof.Rows.sub_int (pow_int_small (by omega) (by omega) (by decide) ⟨⟨z, zt, _, rfl, rfl⟩, _, _, rfl, fun _ _ e => e⟩)))))))
    · intro U h10 tk10 yu vu hU _ hpu hvu hPu hFu hku
      have k10 : Kp h9 h10 := fun b o e => hku b o (fun q => nI9 b o e (List.mem_singleton.mp q)) (Heap.get?_push_of_some _ e)
      have hU9 : h9.get? U = none := by
        cases q : h9.get? U with
        | none => rfl
        | some o => have := Heap.get?_push_of_some ({ cls := .type "list_iterator", data := .fields #[.ref P, .int 0 0] } : Obj) q; rw [hU] at this; cases this
      obtain ⟨rn', gU⟩ := hpu
      have F10 := frKp F9 k10
      have N10 := news_cons F9 N9 k10 hU9 gU
      have evu : vu = pv := list_same (fun j v hv => by have := hPu j v hv; rwa [List.getElem?_toArray] at this) (by rw [hvu, List.size_toArray])
      rw [filter_true, evu] at hFu
      have iU : IntsAre yu.toList (unitsOf (placesOf sc.sum)) := paired_ints hFu iP
      clear F9 N9 hku k10 hFu hPu hvu hU hU9 nI9 gP9
      have gw10 := N10 _ (.tail _ (.tail _ (.tail _ (.tail _ (.tail _ (.head _))))))
      refine wpAny_storeName_cell rfl rfl rfl ⟨ow, gw10.1, dw⟩ fun h11 cel11 sb11 => ?_
      have kk11 : ∀ b o, b ≠ L + 1 → h10.get? b = some o → h11.get? b = some o := fun b o hb e => sb11.extBut b o hb e
      have F11 := fr_but100 F10 kk11 (Nat.ne_of_lt (Nat.lt_succ_self _)) gw10.2.2
      obtain ⟨ow', gw11, dw'⟩ := cel11
      have nw : ∀ (x : Addr) (o : Obj), h10.get? x = some o → o.data ≠ .cell none → x ≠ L + 1 := fun x o e d q => by
        rw [q] at e
        have := gw10.1
        rw [e] at this
        cases this
        exact d dw
      have N11 : News G L h11 [(U, ⟨.type "list", none, .seq yu rn', #[]⟩), (D8, W.listOf (List.toArray vs8) cc8), (M, W.listOf (List.toArray mv) 0), (L + 1, ow'), (100, tabObj ps0), (16, tabObj ps1)] := by
        intro q hq
        simp only [List.mem_cons, List.not_mem_nil, or_false] at hq
        rcases hq with rfl | rfl | rfl | rfl | rfl | rfl
        · exact ⟨kk11 _ _ (nw _ _ (N10 _ (.head _)).1 nofun) (N10 _ (.head _)).1, (N10 _ (.head _)).2⟩
        · exact ⟨kk11 _ _ (nw _ _ (N10 _ (.tail _ (.head _))).1 nofun) (N10 _ (.tail _ (.head _))).1, (N10 _ (.tail _ (.head _))).2⟩
        · exact ⟨kk11 _ _ (nw _ _ (N10 _ (.tail _ (.tail _ (.tail _ (.tail _ (.head _)))))).1 nofun) (N10 _ (.tail _ (.tail _ (.tail _ (.tail _ (.head _)))))).1, (N10 _ (.tail _ (.tail _ (.tail _ (.tail _ (.head _)))))).2⟩
        · exact ⟨gw11, gw10.2⟩
        · have n := N10 _ (.tail _ (.tail _ (.tail _ (.tail _ (.tail _ (.tail _ (.head _)))))))
          exact ⟨kk11 _ _ (nw _ _ n.1 nofun) n.1, n.2⟩
        · have n := N10 _ (.tail _ (.tail _ (.tail _ (.tail _ (.tail _ (.tail _ (.tail _ (.head _))))))))
          exact ⟨kk11 _ _ (nw _ _ n.1 nofun) n.1, n.2⟩
      clear F10 N10 gw10 kk11 nw sb11 gU gw11
      dsimp only
      k_steps
      rename Fr _ _ _ _ => F12
      rename News _ _ _ _ => N12
      unfold stay
      have gM12 := (N12 _ (.tail _ (.tail _ (.head _)))).1
      have gw12 := (N12 _ (.tail _ (.tail _ (.tail _ (.head _))))).1
      have gU12 := (N12 _ (.head _)).1
      have nI12 : ∀ b o, h11.get? b = some o → b ≠ h11.objs.size := fun b o e => Nat.ne_of_lt (Heap.lt_size e)
      have hsum : mg "sum" = none := nsIn_ns X T.g (by k_is)
      have bsum : mb "sum" = some (.builtin "sum") := (T.builtins _ (by decide)).trans (by kernel_rfl)
      have upos : ∀ x ∈ unitsOf (placesOf sc.sum), 0 < x ∧ x < 1024 := units_in _
      refine (Assign_ListComp_cell (fun v y => ∃ z t u, v = .int z t ∧ y = .int (ownOf (unitsOf (placesOf sc.sum)) z) u) (by rfl) rfl rfl (by rfl) rfl (by decide) (fun _ => by rfl) (fun _ => by rfl) (fun _ => by rfl) ?_)
      refine nameX_L F12 rfl ?_
      refine wpAny_pyIter_list (⟨_, gM12, rfl, 0, rfl⟩ : h11.IsList M mv.toArray) ?_
      refine ⟨_, _, _, mv.toArray.size, _, _, _, rfl, Walks.list rfl _ M (nI12 _ _ gM12) mv.toArray, ?_, ⟨⟨_, Heap.get?_push_size _ rfl, rfl, rfl⟩, ⟨_, Heap.get?_push_of_some _ gM12, rfl, 0, rfl⟩⟩, ?_, ?_, (F12.push _).ns, ?_, ?_⟩
      · rw [List.size_toArray, iM.length, sizeLine_eq]
        exact Nat.le_trans (modesOf_len sc) (by decide)
      · intro b hb
        rw [Heap.size_push]
        rcases List.mem_cons.mp hb with rfl | hb
        · exact Nat.lt_succ_self _
        · rw [List.mem_singleton.mp hb]
          exact Nat.lt_succ_of_lt (Heap.lt_size gM12)
      · intro q
        exact Nat.ne_of_lt F12.ns.lt (List.mem_singleton.mp q)
      · intro C' i v s₃ E' hC hP hcell hk
        have kk : Kp h11 s₃.heap := fun b o e => hk b o (fun q => nI12 b o e (List.mem_singleton.mp q)) (Heap.get?_push_of_some _ e)
        obtain ⟨z, zt, rfl, _⟩ := ints_get iM (by rw [List.getElem?_toArray] at hP; exact hP)
        have T3 := T.keeps (Kp.trans F12.keep kk)
        have gU3 : s₃.heap.IsList U yu.toList.toArray := ⟨_, kk _ _ gU12, rfl, rn', rfl⟩
        refine Call_ (Name_function_global rfl rfl (loadGlobal_builtin T3.g hsum T3.b bsum ?_) (by decide))
        refine PyProof.Rows.callWith_builtin1 (spliced_more ?_)
        refine wpAny_ListComp_free (fun _ => true) (fun v y => ∃ u t' t'', v = .int u t' ∧ y = .int ((z.fdiv u).fmod 2 * u) t'') (by rfl) (by decide) rfl (by decide) rfl ?_
        refine wpAny_Name (wpAny_loadName_cell rfl rfl rfl ⟨ow', kk _ _ gw12, dw'⟩ ?_)
        refine wpAny_pyIter_list gU3 ?_
        have nI3 : ∀ b o, s₃.heap.get? b = some o → b ≠ s₃.heap.objs.size := fun b o e => Nat.ne_of_lt (Heap.lt_size e)
        refine ⟨_, _, _, yu.toList.toArray.size, _, _, rfl, Walks.list rfl _ U (nI3 _ _ (kk _ _ gU12)) yu.toList.toArray, ?_, ⟨⟨_, Heap.get?_push_size _ rfl, rfl, rfl⟩, gU3.push _⟩, ?_, ⟨?_, ?_⟩, ?_⟩
        · rw [List.size_toArray, iU.length, sizeLine_eq, unitsOf, List.length_map, places_len]
          decide
        · intro b hb
          rw [Heap.size_push]
          rcases List.mem_cons.mp hb with rfl | hb
          · exact Nat.lt_succ_self _
          · rw [List.mem_singleton.mp hb]
            exact Nat.lt_succ_of_lt (Heap.lt_size (kk _ _ gU12))
        · intro C2 i2 v2 s4 m4 E2 hC2 hP2 hn2 hm2 hk2 htk2
          exact wpAny_tests_nil ⟨rfl, _, _, rfl, fun _ _ e => e⟩
        · intro C2 i2 v2 s4 m4 E2 hC2 hP2 _ hn2 hm2 hk2 htk2
          obtain ⟨u, ut, rfl, eu⟩ := ints_get iU (by rw [List.getElem?_toArray] at hP2; exact hP2)
          have hu := upos u (List.mem_of_getElem? eu)
          have cel4 : s4.heap.IsCell (C' + 1) (some (.int z zt)) := let ⟨o, e, d⟩ := hcell; ⟨o, hk2 _ o (fun q => nI3 _ o e (List.mem_singleton.mp q)) (Heap.get?_push_of_some _ e), d⟩
          refine wpAny_BinOp (wpAny_BinOp (wpAny_BinOp (wpAny_Name (wpAny_loadName_cell rfl rfl rfl cel4 (wpAny_Name (wpAny_loadName_local rfl rfl hn2 hm2 ?_))))))
          refine floordiv_int (by omega) (wpAny_Constant_int (PyProof.Rows.mod_int (by decide) (wpAny_Name (wpAny_loadName_local rfl rfl hn2 hm2 ?_)))) (.inl (PyProof.noPylong_small (by omega)))
          exact PyProof.Rows.mul_int ⟨⟨u, ut, _, rfl, rfl⟩, _, _, rfl, fun _ _ e => e⟩ (PySem.IntMulOk.of_right (PySem.intBits_le_64 (by omega) (by omega)))
        · intro D2 h5' tk5 y2 v2 hD2 _ hp2 hv2 hP2 hF2 hk2
          have k5 : Kp s₃.heap h5' := fun b o e => hk2 b o (fun q => nI3 b o e (List.mem_singleton.mp q)) (Heap.get?_push_of_some _ e)
          have ev2 : v2 = yu.toList := list_same (fun j v hv => by have := hP2 j v hv; rwa [List.getElem?_toArray] at this) (by rw [hv2, List.size_toArray])
          rw [filter_true, ev2] at hF2
          obtain ⟨n2, g2⟩ := hp2
          refine spliced_none (sum_kp rfl (⟨_, g2, rfl, n2, rfl⟩ : h5'.IsList D2 y2.toList.toArray) (paired_ints hF2 iU) fun h6' tk6' t6' k6' => ⟨⟨z, zt, _, rfl, rfl⟩, h6', tk6', rfl, fun b o e => k6' _ _ (k5 b o e)⟩)
      · intro O h12 tk12 yo vo hO hpo hvo hPo hFo hns12 hko
        have kk12 : ∀ b o, b ≠ L → h11.get? b = some o → h12.get? b = some o := fun b o hb e => hko b o hb (fun q => nI12 b o e (List.mem_singleton.mp q)) (Heap.get?_push_of_some _ e)
        have hO11 : h11.get? O = none := by
          cases q : h11.get? O with
          | none => rfl
          | some o => have := Heap.get?_push_of_some ({ cls := .type "list_iterator", data := .fields #[.ref M, .int 0 0] } : Obj) q; rw [hO] at this; cases this
        obtain ⟨nO, gO⟩ := hpo
        have F13 := fr_set F12 hns12 kk12
        have N13 := news_set F12 N12 kk12 hO11 gO
        have evo : vo = mv := list_same (fun j v hv => by have := hPo j v hv; rwa [List.getElem?_toArray] at this) (by rw [hvo, List.size_toArray])
        rw [evo] at hFo
        have iO : IntsAre yo.toList ((modesOf sc).map (ownOf (unitsOf (placesOf sc.sum)))) := paired_ints hFo iM
        clear F12 N12 kk12 hns12 hFo hPo hvo evo hko hO gM12 gw12 gU12 nI12
        dsimp only
        k_steps
        rename Fr _ _ _ _ => F14
        rename News _ _ _ _ => N14
        unfold stay
        have gO14 := (N14 _ (.head _)).1
        have gU14 := (N14 _ (.tail _ (.head _))).1
        refine met_spec (ovs := yo.toList) (uvs := yu.toList) (os := (modesOf sc).map (ownOf (unitsOf (placesOf sc.sum)))) (us := unitsOf (placesOf sc.sum)) (X.keeps F14.keep) (T.keeps F14.keep) (by decide) (by decide) ⟨_, gO14, rfl, nO, rfl⟩ iO ⟨_, gU14, rfl, rn', rfl⟩ iU (by rw [unitsOf, List.length_map, places_len]) upos (by rw [List.length_map]; omega) fun h15 tk15 D15 vs15 c15 k15 f15 iv15 g15 => ?_
        have F15 := frKp F14 k15
        have N15 := news_cons F14 N14 k15 f15 g15
        rw [← pl] at iv15
        clear F14 N14 k15 gO14 gU14 f15
        dsimp only
        k_steps
        rename News _ _ _ _ => N16
        refine hret _ _ _ ps0 ps1 (by assumption) fun q hq => N16 q ?_
        simp only [List.mem_cons, List.not_mem_nil, or_false] at hq ⊢
        rcases hq with rfl | rfl
        · simp
        · simp
end Mine
end Lr
section Lw
open PySem PySem.W PyProof.Rows PySem.Calls PySem.Spec Mine
set_option Elab.async false
set_option pp.deepTerms false
set_option pp.maxSteps 700
set_option maxRecDepth 100000
set_option maxHeartbeats 8000000
namespace Mine
theorem resetLw : True := by
  w_top off
  trivial
local macro_rules | `(tactic| walk_at "nowhere") => `(tactic| fail)
local macro_rules | `(tactic| walk_at "binaryOp Add ref ref") => `(tactic| refine stay_out ?_)
local macro_rules | `(tactic| walk_at "call ref") => `(tactic| refine stay_out ?_)
local macro_rules | `(tactic| walk_at "call builtin:sorted") => `(tactic| refine stay_out ?_)
inductive AllIn {α : Type} (l : List α) : List α → Prop
  | nil : AllIn l []
  | cons {a : α} {r : List α} : a ∈ l → AllIn l r → AllIn l (a :: r)
theorem AllIn.mem {α : Type} {l : List α} : ∀ {r : List α}, AllIn l r → ∀ a ∈ r, a ∈ l
  | _, .cons h t, a, e => by
    rcases List.mem_cons.mp e with rfl | e
    · exact h
    · exact t.mem a e
theorem News.part {G h : Heap} {L : Addr} {l r : List (Addr × Obj)} (N : News G L h l) (p : AllIn l r) : News G L h r := fun q hq => N q (p.mem q hq)
theorem news_set0 {G h h' : Heap} {L : Addr} {news : List (Addr × Obj)} (N : News G L h news) (kk : ∀ b o, b ≠ L → h.get? b = some o → h'.get? b = some o) : News G L h' news :=
  fun q hq => ⟨kk _ _ (N q hq).2.1 (N q hq).1, (N q hq).2⟩
theorem lw : PySem.Challenge.rw_op0082_01.Holds := hd82 (by
  k_go0
  rename Fr _ _ _ _ => F0
  rename News _ _ _ _ => N0
  rename IntsAre _ _ => hI
  rename Frag.In _ _ => X
  rename Top _ _ _ _ _ _ => T
  rename CodeHd _ _ _ => C16'
  have C16 : CodeHd _ 20 16 := C16'
  clear C16'
  rename CodeHd _ 104 100 => C100
  rename_i l0
  obtain ⟨m, F, hm⟩ : ∃ m, Fr _ _ _ m ∧ m (Str.ofString "script") = some (.ref _) := ⟨_, F0, rfl⟩
  rw [map1 hm] at F
  clear F0 hm
  k_steps
  rename Fr _ _ _ _ => F1
  rename News _ _ _ _ => N1
  rename NewPlain _ _ _ _ => NP
  rename CarriedAll _ _ => ca
  rename Obj.data _ = _ => dw0
  have dw : _ = Data.cell none := dw0
  clear dw0
  rw [filter_true] at ca
  have iy := ca.intsOf
  obtain ⟨⟨n1, py⟩, _⟩ := NP
  have gl := (N1 _ (.tail _ (.head _))).1
  have gw := (N1 _ (.tail _ (.tail _ (.head _)))).1
  have g100 := (N1 _ (.tail _ (.tail _ (.tail _ (.head _))))).1
  have g16 := (N1 _ (.tail _ (.tail _ (.tail _ (.tail _ (.head _)))))).1
  have lM : _ ∧ _ ∧ _ := ⟨Heap.lt_size gw, Heap.lt_size g100, Heap.lt_size g16⟩
  unfold stay
  refine add_lists_ints F1 N1 ⟨_, gl, rfl, 0, rfl⟩ ⟨_, py, rfl, n1, rfl⟩ (.cons _ _ (.cons _ _ (.cons _ _ (.cons _ _ (.cons _ _ (.cons _ _ .nil)))))) iy (fun h2 F2 N2 iM => ?_) (by simp [sizeLine_eq]; omega)
  clear F1 N1 ca iy py gl gw g100 g16
  dsimp only at F2 N2 lM ⊢
  have N3 : News (ghostOf _ _) _ _ [_, _, _, _] := News.part N2 (.cons (.head _) (.cons (.tail _ (.tail _ (.tail _ (.head _)))) (.cons (.tail _ (.tail _ (.tail _ (.tail _ (.head _))))) (.cons (.tail _ (.tail _ (.tail _ (.tail _ (.tail _ (.head _)))))) .nil))))
  clear N2
  refine wpAny_storeName_local rfl F2.ns (fun h3 hn3 hs3 => ?_) rfl
  have F3 := fr_set F2 hn3 fun b o hb e => hs3.extBut b o hb e
  have N4 := news_set0 N3 fun b o hb e => hs3.extBut b o hb e
  clear F2 N3
  rename Heap.IsList _ _ _ => hl0
  rename World => ww
  have eL : lawFn ww.params = some (?lwB, ?lwS) := by
    k_fill
    with_unfolding_all rfl
  dsimp only
  refine wpAny_mono (law_rest eL X T C100 C16 F3 N4 dw lM l0 lifted hI iM (by omega) ?_) (fun _ _ q => q) (fun _ _ f => (show False from f).elim)
  intro h4 tk4 m4 ps1 ps2 F4 N5
  dsimp only
  k_steps)
end Mine
end Lw
theorem PySem.Challenge.cw_op0082_01_holds : PySem.Challenge.rw_op0082_01.Holds :=
  Mine.lw

import PyProof.Rows.All
import Wide.All
import OpenK.AllK
import Wide.FinOn
import PySem.Challenge.RW_ux0011_01

section
open PySem PySem.W PyProof.Rows
set_option Elab.async false
set_option maxRecDepth 100000
set_option maxHeartbeats 8000000
namespace Mine
open_top hd for PySem.Challenge.rw_ux0011_01
end Mine
end

section
open PySem PySem.W PySem.Calls PyProof.Rows
set_option Elab.async false
set_option maxRecDepth 100000
set_option maxHeartbeats 8000000
namespace Mine

/-- a goal at which the walk is to halt -/
def Halt (p : Prop) : Prop := p
theorem Halt.out {p : Prop} (h : Halt p) : p := h
theorem Halt.of {p : Prop} (h : p) : Halt p := h

/-- every object stays as it is -/
def Keep (h h' : Heap) : Prop := ∀ b o, h.get? b = some o → h'.get? b = some o

theorem enterK {prog : Program} {w : World} {A : Around} {s : Shared} {K : Frag} {R : Result → Shared → Prop}
    {name qual : Str} {params : Arguments} {body : List Stmt} {scope : Scope} {dV kV doc pm cdv ct oc : Value} {an od : Option Addr} {osl : Array (Option Value)} {f : Addr} {args : Args} {binds : List (Str × Value)}
    (X : K.In s.heap) (hlim : s.heap.NoLimit)
    (ho : K.lookup f = some ⟨oc, od, .func (fnOf name qual params body scope dV kV doc pm an cdv ct), osl⟩) (hcd : codeIn K cdv qual = true) (hroom : A.depth < recursionLimit)
    (hbind : BindsTo s (fnOf name qual params body scope dV kV doc pm an cdv ct) args binds) (hloc : ∀ y ∈ binds, scope.names.lookup y.1 = some .local)
    (h : ∀ L h₁, L = s.heap.objs.size → Fr s.heap L h₁ (fun y => binds.reverse.lookup y) → News s.heap L h₁ [] →
      wpAny (model prog w) (A.deeper (envOf qual scope L f cdv)) (execs body (envOf qual scope L f cdv))
        (fun fl s' => R (.ok (.ret (match fl with | .ret v => v | _ => .none))) s')
        (fun _ _ => False)
        { s with heap := h₁, toks := s.toks + binds.length })
    (hco : scope.isCoroutine = false) (hgen : scope.isGenerator = false) (hk : scope.kind = .function)
    (hcell : ∀ x ∈ scope.names, x.2 ≠ .cell) : codeAny (model prog w) A (.call (.ref f) args) R s := by
  refine codeAny_call_def (fd := fnOf name qual params body scope dV kV doc pm an cdv ct) (body := body) (binds := binds) hroom (X _ _ ho) rfl hlim (codeRec_of X hcd) rfl hbind hcell hloc (fun h₁ hns hk₁ => ?_) hco hgen hk
  exact wpAny_mono (h s.heap.objs.size h₁ rfl ⟨hns, hk₁, Nat.le_refl _⟩ News.nil) (fun _ _ x => x) (fun _ _ x => x.elim)

end Mine
end

section
open PySem PySem.W PySem.Calls PyProof.Rows
set_option Elab.async false
set_option maxRecDepth 100000
set_option maxHeartbeats 8000000
namespace Mine

/-- what one step of an iterator leaves alone: the foreign addresses X, the base h₀ -/
structure Mv (pg : Bool) (h₀ : Heap) (X : List Addr) (s s' : Shared) : Prop where
  foreign : ∀ b o, b ∈ X → s.heap.get? b = some o → s'.heap.get? b = some o
  base : ∀ b o, h₀.get? b = some o → s.heap.get? b = some o → s'.heap.get? b = some o
  gens : AllBare s.gens → AllBare s'.gens
  same : pg = true → s'.gens = s.gens
  drawn : s'.drawn = s.drawn
  os : s'.os = s.os
  toks : s.toks ≤ s'.toks

structure Iter (pg : Bool) (prog : Program) (w : World) (A : Around) (h₀ : Heap) (X : List Addr) (it : Value) (n : Nat) (St : Nat → Shared → Prop) (It : Nat → Value → Shared → Prop) : Prop where
  frame : ∀ i (s : Shared) h' tk, St i s → s.toks ≤ tk → (∀ b o, b ∉ X → s.heap.get? b = some o → h'.get? b = some o) → St i { s with heap := h', toks := tk }
  item : ∀ i (s : Shared) (Q : Option Value → Shared → Prop) (E : Value → Shared → Prop), i < n → St i s →
    (∀ v s', It i v s' → St (i + 1) s' → Mv pg h₀ X s s' → Q (some v) s') → wpAny (model prog w) A (pyNext it) Q E s
  done : ∀ (s : Shared) (Q : Option Value → Shared → Prop) (E : Value → Shared → Prop), St n s → (∀ s', Mv pg h₀ X s s' → Q none s') → wpAny (model prog w) A (pyNext it) Q E s
  self : ∀ i (s : Shared) (Q : Value → Shared → Prop) (E : Value → Shared → Prop), St i s → Q it s → wpAny (model prog w) A (pyIter it) Q E s

/-- how a turn of a loop ends -/
def TurnEnd (h₀ : Heap) (L : Addr) (as : List Addr) (own : List (Addr × Obj)) (J : (Str → Option Value) → List (Addr × Obj) → Prop) (Q : Flow → Shared → Prop) (s₁ : Shared) (f : Flow) (s₂ : Shared) : Prop :=
  match f with
  | .ret v => Q (.ret v) s₂
  | .brk => Q .next s₂
  | _ => ∃ h' tk m' news', s₂ = { s₁ with heap := h', toks := tk } ∧ Fr h₀ L h' m' ∧ News h₀ L h' (news' ++ own) ∧ news'.map (·.1) = as ∧ J m' news'

theorem TurnEnd.intro {h₀ : Heap} {L : Addr} {as : List Addr} {own all : List (Addr × Obj)} {J : (Str → Option Value) → List (Addr × Obj) → Prop} {Q : Flow → Shared → Prop} {s₁ : Shared} {h' : Heap} {tk : Nat} {m' : Str → Option Value}
    (news' : List (Addr × Obj)) (F : Fr h₀ L h' m') (N : News h₀ L h' all) (hs : ∀ p ∈ news' ++ own, p ∈ all) (ha : news'.map (·.1) = as) (hJ : J m' news') :
    TurnEnd h₀ L as own J Q s₁ .next { s₁ with heap := h', toks := tk } := ⟨h', tk, m', news', rfl, F, fun p hp => N p (hs p hp), ha, hJ⟩

/-- everything that stands beside the base, the frame and the ledger -/
theorem rest_of (h₀ h : Heap) (L : Addr) (as : List Addr) : ∃ own : List (Addr × Obj), (∀ p ∈ own, h.get? p.1 = some p.2 ∧ p.1 ≠ L ∧ h₀.get? p.1 = none ∧ p.1 ∉ as) ∧
    ∀ b o, h.get? b = some o → b ≠ L → b ∉ as → h₀.get? b = none → (b, o) ∈ own := by
  classical
  refine ⟨(List.range h.objs.size).filterMap fun b => match h.get? b with
    | some o => if b ≠ L ∧ b ∉ as ∧ h₀.get? b = none then some (b, o) else none
    | none => none, fun p hp => ?_, fun b o e h1 h2 h3 => ?_⟩
  · obtain ⟨b, _, hb⟩ := List.mem_filterMap.mp hp
    cases e : h.get? b with
    | none => rw [e] at hb; cases hb
    | some o =>
      rw [e] at hb
      dsimp only at hb
      split at hb
      · rename_i hc
        cases hb
        exact ⟨e, hc.1, hc.2.2, hc.2.1⟩
      · cases hb
  · refine List.mem_filterMap.mpr ⟨b, List.mem_range.mpr (Heap.lt_size e), ?_⟩
    rw [e]
    dsimp only
    rw [if_pos ⟨h1, h2, h3⟩]

section
variable {pg : Bool} {prog : Program} {w : World} {A : Around} {s : Shared} {env : Env} {h₀ : Heap}

theorem loopI {R : Result → Shared → Prop} {target : Expr} {body : List Stmt} {it : Value} {n : Nat} {St : Nat → Shared → Prop} {It : Nat → Value → Shared → Prop} {m : Str → Option Value} {news : List (Addr × Obj)} {as : List Addr}
    (W : Iter pg prog w A h₀ (env.locals :: as) it n St It) (hst : St 0 s) (F : Fr h₀ env.locals s.heap m) (N : News h₀ env.locals s.heap news) (has : news.map (·.1) = as)
    (J : Nat → (Str → Option Value) → List (Addr × Obj) → Prop) (hJ : J 0 m news)
    (step : ∀ E i v m₁ news₁ own s₁, i < n → It i v s₁ → J i m₁ news₁ → news₁.map (·.1) = as → OwnOff own as → (AllBare s.gens → AllBare s₁.gens) → (pg = true → s₁.gens = s.gens) → s₁.drawn = s.drawn → s₁.os = s.os → s.toks ≤ s₁.toks →
      Fr h₀ env.locals s₁.heap m₁ → News h₀ env.locals s₁.heap (news₁ ++ own) → (∀ b o, s₁.heap.get? b = some o → b ≠ env.locals → b ∉ as → h₀.get? b = none → (b, o) ∈ own) →
      wpAny (model prog w) A (letOwnedTupleGo target it v) (fun _ s₁' => wpAny (model prog w) A (assign target env v) (fun _ s₂ =>
        wpAny (model prog w) A (execs body env) (TurnEnd h₀ env.locals as own (J (i + 1)) (fun f s' => R (.ok f) s') s₁) E s₂) E s₁') E s₁)
    (done : ∀ m' news' s', J n m' news' → news'.map (·.1) = as → (AllBare s.gens → AllBare s'.gens) → (pg = true → s'.gens = s.gens) → s'.drawn = s.drawn → s'.os = s.os → s.toks ≤ s'.toks → Fr h₀ env.locals s'.heap m' → News h₀ env.locals s'.heap news' → R (.ok .next) s') :
    codeAny (model prog w) A (.forLoop target it body [] env) R s := by
  subst has
  refine codeAny_forLoop_any
    (fun k s' => ∃ m' news' i, St i s' ∧ Fr h₀ env.locals s'.heap m' ∧ News h₀ env.locals s'.heap news' ∧ news'.map (·.1) = news.map (·.1) ∧ J i m' news' ∧ (AllBare s.gens → AllBare s'.gens) ∧ (pg = true → s'.gens = s.gens) ∧ s'.drawn = s.drawn ∧ s'.os = s.os ∧ s.toks ≤ s'.toks ∧ i ≤ n ∧ k = n + 1 - i) ?_ (n + 1)
    ⟨m, news, 0, hst, F, N, rfl, hJ, id, fun _ => rfl, rfl, rfl, Nat.le_refl _, Nat.zero_le _, rfl⟩
  rintro k s' ⟨m', news', i, hst', F', N', hmap, hJ', hg, hgs, hd', hos, htk, hi, rfl⟩
  have next : ∀ s₁, Mv pg h₀ (env.locals :: news.map (·.1)) s' s₁ → Fr h₀ env.locals s₁.heap m' ∧ News h₀ env.locals s₁.heap news' := fun s₁ mv =>
    ⟨⟨F'.ns.at' fun o e => mv.foreign _ o (List.mem_cons_self ..) e, fun b o e => mv.base b o e (F'.keep b o e), F'.above⟩,
     fun p hp => ⟨mv.foreign _ _ (List.mem_cons_of_mem _ (by rw [← hmap]; exact List.mem_map_of_mem hp)) (N' p hp).1, (N' p hp).2⟩⟩
  by_cases hlt : i < n
  · refine W.item i s' _ _ hlt hst' fun v s₁ hIt hst₁ mv => ?_
    obtain ⟨F₁, N₁⟩ := next s₁ mv
    obtain ⟨own, hown, hall⟩ := rest_of h₀ s₁.heap env.locals (news.map (·.1))
    have N₂ : News h₀ env.locals s₁.heap (news' ++ own) := fun p hp => (List.mem_append.mp hp).elim (N₁ p) fun h => ⟨(hown p h).1, (hown p h).2.1, (hown p h).2.2.1⟩
    have hoff : OwnOff own (news.map (·.1)) := fun p hp b hb e => (hown p hp).2.2.2 (e ▸ hb)
    have htk₁ := Nat.le_trans htk mv.toks
    have W1 := step (notedBy (model prog w) A env fun e s' => R (.error e) s') i v m' news' own s₁ hlt hIt hJ' hmap hoff (fun x => mv.gens (hg x)) (fun x => (mv.same x).trans (hgs x)) (mv.drawn.trans hd') (mv.os.trans hos) htk₁ F₁ N₂ hall
    refine wpAny_mono (wpAny_toks W1) (fun _ s₁' h₁' => wpAny_mono (wpAny_toks h₁'.2) (fun _ s₂ h₂ => wpAny_mono (wpAny_toks h₂.2) (fun f s₃ h₃ => ?_) fun _ _ e => e.2) fun _ _ e => e.2) fun _ _ e => e.2
    have htk₃ : s₁.toks ≤ s₃.toks := Nat.le_trans h₁'.1 (Nat.le_trans h₂.1 h₃.1)
    have h₃ := h₃.2
    have fin : (∃ h' tk m' news', s₃ = { s₁ with heap := h', toks := tk } ∧ Fr h₀ env.locals h' m' ∧ News h₀ env.locals h' (news' ++ own) ∧ news'.map (·.1) = news.map (·.1) ∧ J (i + 1) m' news') →
        ∃ k', k' < n + 1 - i ∧ ∃ m' news' i, St i s₃ ∧ Fr h₀ env.locals s₃.heap m' ∧ News h₀ env.locals s₃.heap news' ∧ news'.map (·.1) = news.map (·.1) ∧ J i m' news' ∧ (AllBare s.gens → AllBare s₃.gens) ∧ (pg = true → s₃.gens = s.gens) ∧ s₃.drawn = s.drawn ∧ s₃.os = s.os ∧ s.toks ≤ s₃.toks ∧ i ≤ n ∧ k' = n + 1 - i := by
      rintro ⟨h', tk, m₃, news₃, rfl, F₃, N₃, hm₃, hJ₃⟩
      refine ⟨n + 1 - (i + 1), by omega, m₃, news₃, i + 1, W.frame _ _ _ _ hst₁ htk₃ fun b o hb e => ?_, F₃, fun p hp => N₃ p (List.mem_append_left _ hp), hm₃, hJ₃, fun x => mv.gens (hg x), fun x => (mv.same x).trans (hgs x), mv.drawn.trans hd', mv.os.trans hos, Nat.le_trans htk₁ htk₃, hlt, rfl⟩
      have hbL : b ≠ env.locals := fun q => hb (q ▸ List.mem_cons_self ..)
      have hba : b ∉ news.map (·.1) := fun q => hb (List.mem_cons_of_mem _ q)
      cases hb0 : h₀.get? b with
      | some o₀ =>
        have q := F₁.keep b o₀ hb0
        rw [e] at q
        cases q
        exact F₃.keep b o hb0
      | none => exact (N₃ (b, o) (List.mem_append_right _ (hall b o e hbL hba hb0))).1
    cases f with
    | ret v => exact h₃
    | brk => exact h₃
    | next => exact fin h₃
    | cont => exact fin h₃
  · have hin : i = n := by omega
    subst hin
    refine W.done s' _ _ hst' fun s₁ mv => wpAny_execs_nil ?_
    obtain ⟨F₁, N₁⟩ := next s₁ mv
    exact done m' news' s₁ hJ' hmap (fun x => mv.gens (hg x)) (fun x => (mv.same x).trans (hgs x)) (mv.drawn.trans hd') (mv.os.trans hos) (Nat.le_trans htk mv.toks) F₁ N₁

/-- a loop whose target is one name, over an iterator that wakes no generator -/
theorem loopN {R : Result → Shared → Prop} {x : Str} {px : Pos} {body : List Stmt} {it : Value} {n : Nat} {St : Nat → Shared → Prop} {It : Nat → Value → Shared → Prop} {m : Str → Option Value} {news : List (Addr × Obj)} {as : List Addr}
    (W : Iter true prog w A h₀ (env.locals :: as) it n St It) (hst : St 0 s) (F : Fr h₀ env.locals s.heap m) (N : News h₀ env.locals s.heap news) (has : news.map (·.1) = as)
    (J : Nat → (Str → Option Value) → List (Addr × Obj) → Prop) (hJ : J 0 m news)
    (step : ∀ E i v m₁ news₁ own h₁ tk₁, i < n → It i v { s with heap := h₁, toks := tk₁ } → J i m₁ news₁ → news₁.map (·.1) = as → OwnOff own as → s.toks ≤ tk₁ →
      Fr h₀ env.locals h₁ m₁ → News h₀ env.locals h₁ (news₁ ++ own) →
      wpAny (model prog w) A (storeName env x v) (fun _ s₂ =>
        wpAny (model prog w) A (execs body env) (TurnEnd h₀ env.locals as own (J (i + 1)) (fun f s' => R (.ok f) s') { s with heap := h₁, toks := tk₁ }) E s₂) E { s with heap := h₁, toks := tk₁ })
    (done : ∀ m' news' h' tk', J n m' news' → news'.map (·.1) = as → s.toks ≤ tk' → Fr h₀ env.locals h' m' → News h₀ env.locals h' news' → R (.ok .next) { s with heap := h', toks := tk' }) :
    codeAny (model prog w) A (.forLoop (.Name x px) it body [] env) R s := by
  have sh : ∀ s' : Shared, (true = true → s'.gens = s.gens) → s'.drawn = s.drawn → s'.os = s.os → s' = { s with heap := s'.heap, toks := s'.toks } := fun s' h1 h2 h3 => by
    obtain ⟨a, b, c, d, e⟩ := s'
    have h1 := h1 rfl
    dsimp only at h1 h2 h3 ⊢
    rw [h1, h2, h3]
  refine loopI W hst F N has J hJ (fun E i v m₁ news₁ own s₁ h1 h2 h3 h4 h5 _ h6 h7 h8 h9 h10 h11 _ => wpAny_of_eq (rfl : letOwnedTupleGo (.Name x px) it v = pure ()) (wpAny_assign_Name ?_)) fun m' news' s' h1 h2 _ h4 h5 h6 h7 h8 h9 => ?_
  · have e := sh s₁ h6 h7 h8
    rw [e] at h2 ⊢
    exact step E i v m₁ news₁ own _ _ h1 h2 h3 h4 h5 h9 h10 h11
  · rw [sh s' h4 h5 h6]
    exact done m' news' _ _ h1 h2 h7 h8 h9

/-- an iterator of the library's, that touches its own objects alone -/
theorem iter_of_walks {I : Addr} {fp wr : List Addr} {n : Nat} {P : Nat → Value → Prop} {St : Nat → Heap → Prop} {X : List Addr} (W : Walks prog w A I fp wr n P St) (hX : ∀ b ∈ X, b ∉ fp) (hwr : ∀ b ∈ wr, h₀.get? b = none) :
    Iter true prog w A h₀ X (.ref I) n (fun i s => St i s.heap) (fun i v _ => P i v) where
  frame := fun i s h' tk st _ hk => W.frame i _ _ st fun b hb o e => hk b o (fun q => hX b q hb) e
  item := fun i s Q E hi st hQ => wpAny_with_toks (Nat.le_refl s.toks) (W.item i s _ _ hi st fun v h' tk hP st' hk htk =>
    hQ v _ hP st' ⟨fun b o hb e => hk b o (fun q => hX b hb (W.sub _ q)) e, fun b o e0 e => hk b o (fun q => by rw [hwr b q] at e0; cases e0) e, id, fun _ => rfl, rfl, rfl, htk⟩)
  done := fun s Q E st hQ => wpAny_with_toks (Nat.le_refl s.toks) (W.done s _ _ st fun h' tk hk htk =>
    hQ _ ⟨fun b o hb e => hk b o (fun q => hX b hb (W.sub _ q)) e, fun b o e0 e => hk b o (fun q => by rw [hwr b q] at e0; cases e0) e, id, fun _ => rfl, rfl, rfl, htk⟩)
  self := fun i s Q E st hQ => W.self i s Q E st hQ

/-- the signs of a text; their tokens are new -/
theorem iter_strA {I : Addr} {x : Str} {t : Tok} {T : String} {T₀ : Nat} {X : List Addr} (hI : I ∉ X) (h0 : h₀.get? I = none)
    (hit : ∀ (s : Shared) (i c : Nat) (Q : Option Value → Shared → Prop) (E : Value → Shared → Prop), s.heap.IsStrIter I T x t i → x.cps[i]? = some c →
      (∀ h', h'.IsStrIter I T x t (i + 1) → Heap.SameBut I s.heap h' → Q (some (.str ⟨#[c]⟩ s.toks)) { s with heap := h', toks := s.toks + 1 }) → wpAny (model prog w) A (pyNext (.ref I)) Q E s)
    (hen : ∀ (s : Shared) (Q : Option Value → Shared → Prop) (E : Value → Shared → Prop), s.heap.IsStrIter I T x t x.cps.size → (∀ h', Heap.ExtBut I s.heap h' → Q none { s with heap := h' }) → wpAny (model prog w) A (pyNext (.ref I)) Q E s)
    (hse : ∀ (s : Shared) (i : Nat) (Q : Value → Shared → Prop) (E : Value → Shared → Prop), s.heap.IsStrIter I T x t i → Q (.ref I) s → wpAny (model prog w) A (pyIter (.ref I)) Q E s) :
    Iter true prog w A h₀ X (.ref I) x.cps.size (fun i s => s.heap.IsStrIter I T x t i ∧ T₀ ≤ s.toks) (fun i v s => ∃ c u, x.cps[i]? = some c ∧ v = .str ⟨#[c]⟩ u ∧ T₀ ≤ u ∧ u < s.toks) where
  frame := fun i s h' tk st htk hk => ⟨let ⟨o, ho, r⟩ := st.1; ⟨o, hk I o hI ho, r⟩, Nat.le_trans st.2 htk⟩
  item := fun i s Q E hi st hQ => by
    refine hit s i x.cps[i] Q E st.1 (by simp [hi]) fun h' hit' hs' => ?_
    refine hQ _ _ ⟨x.cps[i], s.toks, by simp [hi], rfl, st.2, Nat.lt_succ_self _⟩ ⟨hit', Nat.le_succ_of_le st.2⟩ ⟨fun b o hb e => hs'.extBut b o (fun q => hI (q ▸ hb)) e, fun b o e0 e => hs'.extBut b o (fun q => by rw [q, h0] at e0; cases e0) e, id, fun _ => rfl, rfl, rfl, Nat.le_succ _⟩
  done := fun s Q E st hQ => hen s Q E st.1 fun h' he' => hQ _ ⟨fun b o hb e => he' b o (fun q => hI (q ▸ hb)) e, fun b o e0 e => he' b o (fun q => by rw [q, h0] at e0; cases e0) e, id, fun _ => rfl, rfl, rfl, Nat.le_refl _⟩
  self := fun i s Q E st hQ => hse s i Q E st.1 hQ

theorem base_lt {h₀ h : Heap} {L : Addr} {m : Str → Option Value} (F : Fr h₀ L h m) : h₀.get? h.objs.size = none := F.fresh

theorem size_off {h₀ h : Heap} {L : Addr} {m : Str → Option Value} {news : List (Addr × Obj)} (F : Fr h₀ L h m) (N : News h₀ L h news) : h.objs.size ∉ L :: news.map (·.1) := by
  intro hm
  rcases List.mem_cons.mp hm with e | hm
  · exact Nat.lt_irrefl _ (e ▸ F.ns.lt)
  · obtain ⟨p, hp, e⟩ := List.mem_map.mp hm
    exact Nat.lt_irrefl _ (e ▸ Heap.lt_size (N p hp).1)

/-- x makes an iterator of n items; ban: what it reads beside its own -/
def Makes (prog : Program) (w : World) (A : Around) (ban : List Addr) (xv : Value) (s : Shared) (n : Nat) (It : Nat → Value → Shared → Prop) : Prop :=
  ∀ (Q : Value → Shared → Prop) (E : Value → Shared → Prop), (∀ o : Obj, o.isFreed = false →
    (∀ (h₀ : Heap) (X : List Addr), s.heap.objs.size ∉ X → h₀.get? s.heap.objs.size = none → (∀ b ∈ ban, b ∉ X) →
      ∃ St, Iter true prog w A h₀ X (.ref s.heap.objs.size) n St It ∧ ∀ h' tk, (∀ b ob, (s.heap.push o).get? b = some ob → h'.get? b = some ob) → s.toks ≤ tk → St 0 { s with heap := h', toks := tk }) →
    Q (.ref s.heap.objs.size) { s with heap := s.heap.push o }) → wpAny (model prog w) A (pyIter xv) Q E s

theorem makes_str {x : Str} {t : Tok} (hh : A.handled = none) :
    Makes prog w A [] (.str x t) s x.cps.size (fun i v s' => ∃ c u, x.cps[i]? = some c ∧ v = .str ⟨#[c]⟩ u ∧ s.toks ≤ u ∧ u < s'.toks) := by
  intro Q E hQ
  cases ha : x.cps.all (· < 128)
  · refine wpAny_pyIter_wide ha (hQ _ rfl fun h₀ X hI h0 _ => ⟨_, iter_strA (T₀ := s.toks) hI h0 (fun s' i c Q E a b hQ => wpAny_pyNext_wide_item a b hQ) (fun s' Q E a hQ => wpAny_pyNext_wide_end hh a (by simp) hQ) (fun s' i Q E a hQ => wpAny_pyIter_striter_wide a hQ), fun h' tk hk htk => ⟨⟨_, hk _ _ (Heap.get?_push_size _ rfl), rfl, rfl⟩, htk⟩⟩)
  · refine wpAny_pyIter_ascii ha (hQ _ rfl fun h₀ X hI h0 _ => ⟨_, iter_strA (T₀ := s.toks) hI h0 (fun s' i c Q E a b hQ => wpAny_pyNext_ascii_item a b hQ) (fun s' Q E a hQ => wpAny_pyNext_ascii_end hh a (by simp) hQ) (fun s' i Q E a hQ => wpAny_pyIter_striter_ascii a hQ), fun h' tk hk htk => ⟨⟨_, hk _ _ (Heap.get?_push_size _ rfl), rfl, rfl⟩, htk⟩⟩)

theorem makes_list {a : Addr} {items : Array Value} (hh : A.handled = none) (hl : s.heap.IsList a items) :
    Makes prog w A [a] (.ref a) s items.size (fun i v _ => items[i]? = some v) := by
  intro Q E hQ
  obtain ⟨oa, hoa, _⟩ := id hl
  have hlt := Heap.lt_size hoa
  refine wpAny_pyIter_list hl (hQ _ rfl fun h₀ X hI h0 hb => ⟨_, iter_of_walks (Walks.list (prog := prog) (w := w) hh s.heap.objs.size a (Nat.ne_of_lt hlt) items) (fun b hb' q => ?_) (fun b hb' => ?_), fun h' tk hk htk => ⟨⟨_, hk _ _ (Heap.get?_push_size _ rfl), rfl, rfl⟩, hl.at fun o e => hk _ _ (Heap.get?_push_of_some _ e)⟩⟩)
  · rcases List.mem_cons.mp q with q | q
    · exact hI (q ▸ hb')
    · exact hb a (List.mem_singleton.mpr rfl) (List.mem_singleton.mp q ▸ hb')
  · rw [List.mem_singleton.mp hb']; exact h0

theorem makes_range {r : Addr} {a₀ b₀ : Int} {t₀ u₀ v₀ : Tok} {n : Nat} (hh : A.handled = none)
    (hr : IsRange s.heap r a₀ b₀ 1 t₀ u₀ v₀) (hsmall : Builtin.Range.small a₀ b₀ 1 = true) (hn : Builtin.Range.rangeSize a₀ b₀ 1 = (n : Int)) :
    Makes prog w A [] (.ref r) s n (fun i v _ => ∃ t, v = .int (a₀ + (i : Int)) t) := by
  intro Q E hQ
  refine wpAny_pyIter_range hr hsmall (hQ _ rfl fun h₀ X hI h0 _ => ?_)
  have W := iter_of_walks (h₀ := h₀) (X := X) (Walks.range (prog := prog) (w := w) hh s.heap.objs.size a₀ 1 n) (fun b hb' q => hI (List.mem_singleton.mp q ▸ hb')) (fun b hb' => by rw [List.mem_singleton.mp hb']; exact h0)
  refine ⟨_, ⟨W.frame, fun i s' Q E hi st hq => W.item i s' Q E hi st fun v s'' hv => hq v s'' ?_, W.done, W.self⟩, fun h' tk hk htk => ?_⟩
  · obtain ⟨t, rfl⟩ := hv
    exact ⟨t, by rw [Int.mul_one]⟩
  · show IsRangeIter _ _ _ _ _
    have q := hk _ _ (Heap.get?_push_size s.heap (o := { cls := .type "range_iterator", data := .fields #[rawInt a₀, rawInt (Builtin.Range.rangeSize a₀ b₀ 1), rawInt 1] }) rfl)
    rw [hn] at q
    simpa using q

/-- a for loop over what makes an iterator -/
theorem for_of {R : Result → Shared → Prop} {E : Value → Shared → Prop} {ban : List Addr} {xv : Value} {n : Nat} {It : Nat → Value → Shared → Prop} {v : Str} {pv : Pos} {body : List Stmt} {m : Str → Option Value} {news : List (Addr × Obj)}
    (M : Makes prog w A ban xv s n It) (hban : ∀ b ∈ ban, b ∉ env.locals :: news.map (·.1))
    (F : Fr h₀ env.locals s.heap m) (N : News h₀ env.locals s.heap news)
    (J : Nat → (Str → Option Value) → List (Addr × Obj) → Prop) (hJ : J 0 m news)
    (step : ∀ E i x m₁ news₁ own h₁ tk₁, i < n → It i x { s with heap := h₁, toks := tk₁ } → s.toks ≤ tk₁ → J i m₁ news₁ → news₁.map (·.1) = news.map (·.1) → OwnOff own (news.map (·.1)) →
      Fr h₀ env.locals h₁ m₁ → News h₀ env.locals h₁ (news₁ ++ own) →
      wpAny (model prog w) A (storeName env v x) (fun _ s₂ =>
        wpAny (model prog w) A (execs body env) (TurnEnd h₀ env.locals (news.map (·.1)) own (J (i + 1)) (fun f s' => R (.ok f) s') { s with heap := h₁, toks := tk₁ }) E s₂) E { s with heap := h₁, toks := tk₁ })
    (done : ∀ m' news' h' tk', J n m' news' → news'.map (·.1) = news.map (·.1) → s.toks ≤ tk' → Fr h₀ env.locals h' m' → News h₀ env.locals h' news' → R (.ok .next) { s with heap := h', toks := tk' }) :
    wpAny (model prog w) A (pyIter xv) (fun it s₂ => codeAny (model prog w) A (.forLoop (.Name v pv) it body [] env) R s₂) E s := by
  refine M _ _ fun o hf hI => ?_
  obtain ⟨St, W, hst⟩ := hI h₀ (env.locals :: news.map (·.1)) (size_off F N) (base_lt F) hban
  refine loopN (s := { s with heap := s.heap.push o }) W (hst _ _ (fun _ _ e => e) (Nat.le_refl _)) (F.push _) (fun p hp => ⟨Heap.get?_push_of_some _ (N p hp).1, (N p hp).2⟩) rfl J hJ ?_ ?_
  · exact fun E i x m₁ news₁ own h₁ tk₁ h1 h2 h3 h4 h5 h6 h7 h8 => step E i x m₁ news₁ own h₁ tk₁ h1 h2 h6 h3 h4 h5 h7 h8
  · exact fun m' news' h' tk' a b c d e => done m' news' h' tk' a b c d e
end
end Mine
end

section
open PySem PySem.W PySem.Calls PyProof.Rows
set_option Elab.async false
set_option maxRecDepth 100000
set_option maxHeartbeats 8000000
namespace Mine
section
variable {prog : Program} {w : World} {A : Around} {s : Shared} {env : Env} {h₀ : Heap} {E : Value → Shared → Prop}

/-- names, whatever block asks -/
theorem nameL {M : Model} {m : Str → Option Value} {x : Str} {pos : Pos} {v : Value} {Q : Value → Shared → Prop} (F : Fr h₀ env.locals s.heap m) (hv : m x = some v) (h : Q v s)
    (hk : env.scope.kind = .function) (hl : env.kindOf x = some .local) (hd : (x == ("__debug__" : Str)) = false) : wpAny M A (eval (.Name x pos) env) Q E s :=
  wpAny_Name (wpAny_loadName_local hk hl F.ns hv h) hd
theorem nameC {M : Model} {x : Str} {pos : Pos} {c : Addr} {v : Value} {Q : Value → Shared → Prop} (hv : s.heap.IsCell c (some v)) (hc : env.cells.lookup x = some c) (h : Q v s)
    (hk : env.scope.kind = .function) (hl : env.kindOf x = some .cell) (hd : (x == ("__debug__" : Str)) = false) : wpAny M A (eval (.Name x pos) env) Q E s :=
  wpAny_Name (wpAny_loadName_cell hk hl hc hv h) hd
theorem nameG {M : Model} {L : Addr} {m : Str → Option Value} {K : Frag} {mg mb : Str → Option Value} {p : Program} {loose : List Str} {x : Str} {pos : Pos} {v : Value} {Q : Value → Shared → Prop} (F : Fr h₀ L s.heap m) (X : K.In h₀) (T : TopRead p loose mg mb h₀)
    (e : nsIn K mainGlobals x = some (some v)) (h : Q v s) (hg : env.globals = mainGlobals) (hk : env.scope.kind = .function) (hx : env.kindOf x = some .globalImplicit) (hd : (x == ("__debug__" : Str)) = false) :
    wpAny M A (eval (.Name x pos) env) Q E s :=
  nameG_K F X T e h hg hk hx hd
theorem nameB {M : Model} {L : Addr} {m : Str → Option Value} {K : Frag} {mg mb : Str → Option Value} {p : Program} {loose : List Str} {x : Str} {pos : Pos} {v : Value} {Q : Value → Shared → Prop} (F : Fr h₀ L s.heap m) (X : K.In h₀) (T : TopRead p loose mg mb h₀)
    (e : nsIn K mainGlobals x = some none) (hv : bootBuiltins x = some v) (hn : x ≠ "__name__") (h : Q v s) (hg : env.globals = mainGlobals) (hb : env.builtins = builtinsNs) (hk : env.scope.kind = .function) (hx : env.kindOf x = some .globalImplicit) (hd : (x == ("__debug__" : Str)) = false) :
    wpAny M A (eval (.Name x pos) env) Q E s :=
  Name_function_global hk hx (loadGlobal_builtin (env := env) (by rw [hg]; exact T.g.keeps F.keep) (mg_none_of X T.g e) (by rw [hb]; exact T.b.keeps F.keep) ((T.builtins x hn).trans hv) h) hd
theorem storeL {M : Model} {m : Str → Option Value} {x : Str} {v : Value} {news : List (Addr × Obj)} {Q : Unit → Shared → Prop} (F : Fr h₀ env.locals s.heap m) (N : News h₀ env.locals s.heap news)
    (h : ∀ h', Fr h₀ env.locals h' (fun y => if y = x then some v else m y) → News h₀ env.locals h' news → Q () { s with heap := h', toks := s.toks + 1 })
    (hk : env.scope.kind = .function) (hx : env.kindOf x = some .local) : wpAny M A (storeName env x v) Q E s :=
  wpAny_storeName_local hx F.ns (fun h' hn hs => h h' (F.set hn hs) (N.set hs)) (by rw [hk]; rfl)
theorem storeC {M : Model} {m : Str → Option Value} {x : Str} {v : Value} {v₀ : Option Value} {c : Addr} {o : Obj} {news : List (Addr × Obj)} {g : Obj → List (Addr × Obj)} {Q : Unit → Shared → Prop} (F : Fr h₀ env.locals s.heap m) (N : News h₀ env.locals s.heap news)
    (hc : env.cells.lookup x = some c) (U : UpdF c o news g) (hd : o.data = .cell v₀)
    (h : ∀ h' o', Fr h₀ env.locals h' m → News h₀ env.locals h' (g o') → o'.data = .cell (some v) → Q () { s with heap := h' })
    (hk : env.scope.kind = .function) (hx : env.kindOf x = some .cell) : wpAny M A (storeName env x v) Q E s := by
  obtain ⟨before, after, rfl, eg, left, right⟩ := U.split
  obtain ⟨stands, off, young⟩ := N (c, o) (List.mem_append_right _ (.head _))
  have base : ∀ b ob, h₀.get? b = some ob → b ≠ c := fun b ob e q => by
    subst q
    rw [young] at e
    exact nomatch e
  refine wpAny_storeName_cell hk hx hc ⟨o, stands, hd⟩ ?_
  rintro h' ⟨o', now, cell⟩ same
  have F' : Fr h₀ env.locals h' m := ⟨F.ns.sameBut same off.symm, fun b ob e => (same.2 b (base b ob e)).trans (F.keep b ob e), F.above⟩
  have N' : News h₀ env.locals h' (g o') := by
    rw [eg]
    exact N.setAt left right same now
  exact h h' o' F' N' cell

/-- a block that turns by pyNext, whatever its turn -/
theorem blockI {pg : Bool} {R : Result → Shared → Prop} {it : Value} {n : Nat} {St : Nat → Shared → Prop} {It : Nat → Value → Shared → Prop} {m : Str → Option Value} {news : List (Addr × Obj)} {as : List Addr} {c : Code} {p : Pos} {turn : Value → Sem Fin}
    (W : Iter pg prog w A h₀ (env.locals :: as) it n St It) (hst : St 0 s) (F : Fr h₀ env.locals s.heap m) (N : News h₀ env.locals s.heap news) (has : news.map (·.1) = as)
    (hq : c.quiet = true) (hw : A.under c = A)
    (hden : (model prog w).den c = Sem.onRaise (α := Fin) (standAt p >>= fun _ => pyNext it >>= fun r => match r with
      | none => (pure (Fin.done .next) : Sem Fin)
      | some v => turn v) (fun x => do noteFrame x env; theTreesLotGoes x))
    (J : Nat → (Str → Option Value) → List (Addr × Obj) → Prop) (hJ : J 0 m news)
    (step : ∀ E i v m₁ news₁ own s₁, i < n → It i v s₁ → J i m₁ news₁ → news₁.map (·.1) = as → OwnOff own as → (AllBare s.gens → AllBare s₁.gens) → (pg = true → s₁.gens = s.gens) → s₁.drawn = s.drawn → s₁.os = s.os → s.toks ≤ s₁.toks →
      Fr h₀ env.locals s₁.heap m₁ → News h₀ env.locals s₁.heap (news₁ ++ own) → 
      wpAny (model prog w) A (turn v) (fun fin s₂ => fin = .again c ∧ TurnEnd h₀ env.locals as own (J (i + 1)) (fun _ _ => False) s₁ .next s₂) E s₁)
    (done : ∀ m' news' s', J n m' news' → news'.map (·.1) = as → (AllBare s.gens → AllBare s'.gens) → (pg = true → s'.gens = s.gens) → s'.drawn = s.drawn → s'.os = s.os → s.toks ≤ s'.toks → Fr h₀ env.locals s'.heap m' → News h₀ env.locals s'.heap news' → R (.ok .next) s') :
    codeAny (model prog w) A c R s := by
  subst has
  refine codeAny_loop hq
    (fun k s' => ∃ m' news' i, St i s' ∧ Fr h₀ env.locals s'.heap m' ∧ News h₀ env.locals s'.heap news' ∧ news'.map (·.1) = news.map (·.1) ∧ J i m' news' ∧ (AllBare s.gens → AllBare s'.gens) ∧ (pg = true → s'.gens = s.gens) ∧ s'.drawn = s.drawn ∧ s'.os = s.os ∧ s.toks ≤ s'.toks ∧ i ≤ n ∧ k = n + 1 - i) ?_ (n + 1)
    ⟨m, news, 0, hst, F, N, rfl, hJ, id, fun _ => rfl, rfl, rfl, Nat.le_refl _, Nat.zero_le _, rfl⟩
  rintro k s' ⟨m', news', i, hst', F', N', hmap, hJ', hg, hgs, hd', hos, htk, hi, rfl⟩
  rw [hw, hden]
  refine wpAny_noted ?_
  refine wpAny_bind (wpAny_standAt (wpAny_bind ?_))
  have next : ∀ s₁, Mv pg h₀ (env.locals :: news.map (·.1)) s' s₁ → Fr h₀ env.locals s₁.heap m' ∧ News h₀ env.locals s₁.heap news' := fun s₁ mv =>
    ⟨⟨F'.ns.at' fun o e => mv.foreign _ o (List.mem_cons_self ..) e, fun b o e => mv.base b o e (F'.keep b o e), F'.above⟩,
     fun p hp => ⟨mv.foreign _ _ (List.mem_cons_of_mem _ (by rw [← hmap]; exact List.mem_map_of_mem hp)) (N' p hp).1, (N' p hp).2⟩⟩
  by_cases hlt : i < n
  · refine W.item i s' _ _ hlt hst' fun v s₁ hIt hst₁ mv => ?_
    obtain ⟨F₁, N₁⟩ := next s₁ mv
    obtain ⟨own, hown, hall⟩ := rest_of h₀ s₁.heap env.locals (news.map (·.1))
    have N₂ : News h₀ env.locals s₁.heap (news' ++ own) := fun p hp => (List.mem_append.mp hp).elim (N₁ p) fun h => ⟨(hown p h).1, (hown p h).2.1, (hown p h).2.2.1⟩
    have hoff : OwnOff own (news.map (·.1)) := fun p hp b hb e => (hown p hp).2.2.2 (e ▸ hb)
    have htk₁ := Nat.le_trans htk mv.toks
    refine wpAny_mono (wpAny_toks (step _ i v m' news' own s₁ hlt hIt hJ' hmap hoff (fun x => mv.gens (hg x)) (fun x => (mv.same x).trans (hgs x)) (mv.drawn.trans hd') (mv.os.trans hos) htk₁ F₁ N₂)) (fun fin s₃ h₃ => ?_) fun _ _ e => e.2
    obtain ⟨htk₃, rfl, h', tk, m₃, news₃, rfl, F₃, N₃, hm₃, hJ₃⟩ := h₃
    refine ⟨rfl, n + 1 - (i + 1), by omega, m₃, news₃, i + 1, W.frame _ _ _ _ hst₁ htk₃ fun b o hb e => ?_, F₃, fun p hp => N₃ p (List.mem_append_left _ hp), hm₃, hJ₃, fun x => mv.gens (hg x), fun x => (mv.same x).trans (hgs x), mv.drawn.trans hd', mv.os.trans hos, Nat.le_trans htk₁ htk₃, hlt, rfl⟩
    have hbL : b ≠ env.locals := fun q => hb (q ▸ List.mem_cons_self ..)
    have hba : b ∉ news.map (·.1) := fun q => hb (List.mem_cons_of_mem _ q)
    cases hb0 : h₀.get? b with
    | some o₀ =>
      have q := F₁.keep b o₀ hb0
      rw [e] at q
      cases q
      exact F₃.keep b o hb0
    | none => exact (N₃ (b, o) (List.mem_append_right _ (hall b o e hbL hba hb0))).1
  · have hin : i = n := by omega
    subst hin
    refine W.done s' _ _ hst' fun s₁ mv => wpAny_pure ?_
    obtain ⟨F₁, N₁⟩ := next s₁ mv
    exact done m' news' s₁ hJ' hmap (fun x => mv.gens (hg x)) (fun x => (mv.same x).trans (hgs x)) (mv.drawn.trans hd') (mv.os.trans hos) (Nat.le_trans htk mv.toks) F₁ N₁

theorem shared_eta {s s' : Shared} (h1 : s'.gens = s.gens) (h2 : s'.drawn = s.drawn) (h3 : s'.os = s.os) : s' = { s with heap := s'.heap, toks := s'.toks } := by
  obtain ⟨a, b, c, d, e⟩ := s'
  dsimp only at h1 h2 h3 ⊢
  rw [h1, h2, h3]

/-- how a list comprehension ends: its own names are let go, the list stands -/
def CompEnd (base : Heap) (C D : Addr) (s : Shared) (Q : Value → Shared → Prop) (r : Result) (s' : Shared) : Prop :=
  match r with
  | .ok _ => ∃ m' h' tk', s' = { s with heap := h', toks := tk' } ∧ Fr base C h' m' ∧ ∃ items n, h'.get? D = some (listOf items n) ∧
      ∀ h'', Keep base h'' → h''.get? D = some (listOf items n) → Q (.ref D) { s with heap := h'', toks := tk' }
  | .error _ => False

theorem compEnd_post {base : Heap} {C D : Addr} {s₀ : Shared} {Q : Value → Shared → Prop} (hDC : D ≠ C) : ∀ (r : Result) (s' : Shared), CompEnd base C D s₀ Q r s' → compPost (model prog w) A E none Q (.ref D) C r s'
  | .ok _, s', h => by
    obtain ⟨m', h', tk', rfl, F, items, n, hD, hQ⟩ := h
    refine ⟨m', F.ns, fun h'' hs => hQ h'' (fun b o e => ?_) ((hs.2 D hDC).trans hD)⟩
    exact (hs.2 b (fun q => Nat.lt_irrefl _ (Nat.lt_of_lt_of_le (q ▸ Heap.lt_size e) F.above))).trans (F.keep b o e)
  | .error _, _, h => h.elim

abbrev cenvOf (scope : Scope) (cells : List (Str × Addr)) (C : Addr) (env : Env) : Env :=
  { scope := relabel scope env, locals := C, globals := env.globals, cells := cells, qual := env.qual, func := none, code := env.code, frame := env.frame, builtins := env.builtins }

theorem comp_start {elt target iter : Expr} {ifs : List Expr} {rest : List Comprehension} {scope : Scope} {pos : Pos} {cl : List (Str × Addr)} {ban : List Addr} {xv : Value} {n : Nat} {It : Nat → Value → Shared → Prop} {RR : Value → Addr → Result → Shared → Prop}
    (hkind : scope.kind = .function) (hcell : ∀ y ∈ scope.names, y.2 ≠ .cell) (M : Makes prog w A ban xv s n It) (hban : ∀ b ∈ ban, b < s.heap.objs.size)
    (go : ∀ I D C h, I = s.heap.objs.size → D = s.heap.objs.size + 1 → C = s.heap.objs.size + 2 → Fr s.heap C h (fun _ => none) → News s.heap C h [(D, listOf #[] 0)] →
      (∀ X, (∀ b ∈ X, D ≤ b) → ∃ St, Iter true prog w A s.heap X (.ref I) n St It ∧ St 0 { s with heap := h }) →
      codeAny (model prog w) A (.compLoop (.ListComp elt (⟨target, iter, ifs, 0⟩ :: rest) scope pos) 0 (.ref I) (.ref D) (cenvOf scope cl C env)) (RR (.ref D) C) { s with heap := h }) :
    wpAny (model prog w) A (pyIter xv) (fun it s₂ => wpAny (model prog w) A (newList []) (fun acc s₃ => wpAny (model prog w) A (newFunctionEnv scope env.globals cl [] env.qual none .none (some env)) (fun cenv s₄ =>
      codeAny (model prog w) A (.compStart (.ListComp elt (⟨target, iter, ifs, 0⟩ :: rest) scope pos) 0 it acc { cenv with scope := relabel scope env }) (RR acc cenv.locals) s₄) E s₃) E s₂) E s := by
  refine M _ _ fun o hf hI => ?_
  refine wpAny_newObj_type (wpAny_newFunctionEnv hcell (by intro y hy; simp at hy) (fun h₁ hns hsb => ?_) hkind)
  dsimp only at hns hsb ⊢
  have z1 : (s.heap.push o).objs.size = s.heap.objs.size + 1 := Heap.size_push ..
  have z2 : ((s.heap.push o).push { cls := .type "list", dict := none, data := .seq ([] : List Value).toArray }).objs.size = s.heap.objs.size + 2 := by rw [Heap.size_push, z1]
  rw [z2] at hns hsb ⊢
  rw [z1]
  have up : ∀ b ob, b ≠ s.heap.objs.size + 2 → ((s.heap.push o).push { cls := .type "list", dict := none, data := .seq ([] : List Value).toArray }).get? b = some ob → h₁.get? b = some ob := fun b ob hb e => hsb.extBut b ob hb (Heap.get?_push_of_some _ e)
  have low : ∀ b ob, s.heap.get? b = some ob → b < s.heap.objs.size := fun b ob e => Heap.lt_size e
  have up1 : ∀ b ob, (s.heap.push o).get? b = some ob → h₁.get? b = some ob := fun b ob e => up b ob (Nat.ne_of_lt (Nat.lt_of_lt_of_le (Heap.lt_size e) (by rw [z1]; exact Nat.le_succ _))) (Heap.get?_push_of_some _ e)
  have F : Fr s.heap (s.heap.objs.size + 2) h₁ (fun _ => none) := ⟨hns, fun b ob e => up1 b ob (Heap.get?_push_of_some _ e), by omega⟩
  have hDn : s.heap.get? (s.heap.objs.size + 1) = none := Heap.get?_none_of_le (by omega)
  have N : News s.heap (s.heap.objs.size + 2) h₁ [(s.heap.objs.size + 1, listOf #[] 0)] := fun p hp => by
    rw [List.mem_singleton.mp hp]
    refine ⟨up _ _ (Nat.ne_of_lt (Nat.lt_succ_self _)) ?_, Nat.ne_of_lt (Nat.lt_succ_self _), hDn⟩
    have := Heap.get?_push_size (s.heap.push o) (o := ({ cls := .type "list", dict := none, data := .seq ([] : List Value).toArray } : Obj)) rfl
    rw [z1] at this
    exact this
  have hX : ∀ X, (∀ b ∈ X, s.heap.objs.size + 1 ≤ b) → ∃ St, Iter true prog w A s.heap X (.ref s.heap.objs.size) n St It ∧ St 0 { s with heap := h₁ } := fun X hX => by
    obtain ⟨St, W, hst⟩ := hI s.heap X (fun q => Nat.not_succ_le_self _ (hX _ q)) (Heap.get?_none_of_le (Nat.le_refl _)) (fun b hb q => Nat.lt_irrefl _ (Nat.lt_of_lt_of_le (hban b hb) (Nat.le_of_succ_le (hX _ q))))
    exact ⟨St, W, hst h₁ s.toks up1 (Nat.le_refl _)⟩
  have G := go _ _ _ h₁ rfl rfl rfl F N hX
  have loop : ∀ s₃ : Shared, s₃ = { s with heap := h₁, toks := s.toks + ([] : List (Str × Value)).length } → codeAny (model prog w) A (.compLoop (.ListComp elt (⟨target, iter, ifs, 0⟩ :: rest) scope pos) 0 (.ref s.heap.objs.size) (.ref (s.heap.objs.size + 1)) (cenvOf scope cl (s.heap.objs.size + 2) env))
      (RR (.ref (s.heap.objs.size + 1)) (s.heap.objs.size + 2)) s₃ := by
    rintro s₃ rfl
    exact G
  obtain ⟨St, W, hst⟩ := hX [] (fun _ h => nomatch h)
  exact codeAny_compStart_list (loop _ rfl) (W.self 0 _ _ _ hst (loop _ rfl))

/-- a comprehension's value -/
theorem comp_eval {elt target iter : Expr} {ifs : List Expr} {rest : List Comprehension} {scope : Scope} {pos : Pos} {cl : List (Str × Addr)} {Q : Value → Shared → Prop}
    (hclos : closureFor scope env = pure cl) (hkind : scope.kind = .function) (hnames : ∀ x ∈ scope.names, x.2 = .local → scope.names.lookup x.1 = some .local) (hcell : ∀ y ∈ scope.names, y.2 ≠ .cell) (hs : ∀ x, foldedSetIterable iter env x = pure x)
    (h : wpAny (model prog w) A (eval iter env) (fun xv s₁ => ∃ ban n It, Makes prog w A ban xv s₁ n It ∧ (∀ b ∈ ban, b < s₁.heap.objs.size) ∧
      ∀ I D C h, I = s₁.heap.objs.size → D = s₁.heap.objs.size + 1 → C = s₁.heap.objs.size + 2 → Fr s₁.heap C h (fun _ => none) → News s₁.heap C h [(D, listOf #[] 0)] →
      (∀ X, (∀ b ∈ X, D ≤ b) → ∃ St, Iter true prog w A s₁.heap X (.ref I) n St It ∧ St 0 { s₁ with heap := h }) →
      codeAny (model prog w) A (.compLoop (.ListComp elt (⟨target, iter, ifs, 0⟩ :: rest) scope pos) 0 (.ref I) (.ref D) (cenvOf scope cl C env)) (CompEnd s₁.heap C D s₁ Q) { s₁ with heap := h }) E s) :
    wpAny (model prog w) A (eval (.ListComp elt (⟨target, iter, ifs, 0⟩ :: rest) scope pos) env) Q E s := by
  rw [eval_ListComp]
  refine wpAny_comprehension_free (use := none) rfl hs hclos hkind hnames (wpAny_mono h (fun xv s₁ h₁ => ?_) fun _ _ e => e)
  obtain ⟨ban, n, It, M, hban, go⟩ := h₁
  exact comp_start (RR := fun acc C => compPost (model prog w) A E none Q acc C) hkind hcell M hban fun I D C h e1 e2 e3 F N hI => codeAny_mono (go I D C h e1 e2 e3 F N hI) (compEnd_post (by rw [e2, e3]; exact Nat.ne_of_lt (Nat.lt_succ_self _)))

/-- y = [..] -/
def CompSet (h₀ : Heap) (L : Addr) (m : Str → Option Value) (news : List (Addr × Obj)) (base : Heap) (C D : Addr) (y : Str) (s : Shared) (Q : Shared → Prop) (r : Result) (s' : Shared) : Prop :=
  match r with
  | .ok _ => ∃ m' h' tk', s' = { s with heap := h', toks := tk' } ∧ Fr base C h' m' ∧ ∃ items n, h'.get? D = some (listOf items n) ∧
      ∀ hh tk, Fr h₀ L hh (fun z => if z = y then some (.ref D) else m z) → News h₀ L hh ((D, listOf items n) :: news) → (∀ p ∈ news, p.1 < D) → tk' ≤ tk → Q { s with heap := hh, toks := tk }
  | .error _ => False

theorem comp_assign {elt target iter : Expr} {ifs : List Expr} {rest : List Comprehension} {scope : Scope} {pos spos py : Pos} {y : Str} {cl : List (Str × Addr)} {m : Str → Option Value} {news : List (Addr × Obj)} {Q : Flow → Shared → Prop}
    (hsw : swapsWith (.ListComp elt (⟨target, iter, ifs, 0⟩ :: rest) scope pos) (some (.Name y py)) spos.line env = pure true)
    (hclos : closureFor scope env = pure cl) (hkind : scope.kind = .function) (hnames : ∀ x ∈ scope.names, x.2 = .local → scope.names.lookup x.1 = some .local) (hcell : ∀ y ∈ scope.names, y.2 ≠ .cell) (hs : ∀ x, foldedSetIterable iter env x = pure x)
    (hk : env.scope.kind = .function) (hy : env.kindOf y = some .local)
    (h : wpAny (model prog w) A (eval iter env) (fun xv s₁ => Fr h₀ env.locals s₁.heap m ∧ News h₀ env.locals s₁.heap news ∧ ∃ ban n It, Makes prog w A ban xv s₁ n It ∧ (∀ b ∈ ban, b < s₁.heap.objs.size) ∧
      ∀ I D C h, I = s₁.heap.objs.size → D = s₁.heap.objs.size + 1 → C = s₁.heap.objs.size + 2 → Fr s₁.heap C h (fun _ => none) → News s₁.heap C h [(D, listOf #[] 0)] →
      (∀ X, (∀ b ∈ X, D ≤ b) → ∃ St, Iter true prog w A s₁.heap X (.ref I) n St It ∧ St 0 { s₁ with heap := h }) →
      codeAny (model prog w) A (.compLoop (.ListComp elt (⟨target, iter, ifs, 0⟩ :: rest) scope pos) 0 (.ref I) (.ref D) (cenvOf scope cl C env)) (CompSet h₀ env.locals m news s₁.heap C D y s₁ (Q .next)) { s₁ with heap := h }) E s) :
    wpAny (model prog w) A (exec (.Assign [.Name y py] (.ListComp elt (⟨target, iter, ifs, 0⟩ :: rest) scope pos) spos) env) Q E s := by
  rw [exec_Assign_Name_used _ _ _ _ hsw]
  refine wpAny_bind (wpAny_standAt (wpAny_bind ?_))
  show wpAny _ A (do let _ ← comprehension (.ListComp elt (⟨target, iter, ifs, 0⟩ :: rest) scope pos) scope env _ (newList []) false (eval iter env) (some (assign (.Name y py) env))) _ _ s
  refine wpAny_bind (wpAny_mono (wpAny_comprehension_free (use := some (assign (.Name y py) env)) (Q := fun _ s' => Q .next s') rfl hs hclos hkind hnames
    (wpAny_mono h (fun xv s₁ h₁ => ?_) fun _ _ e => e)) (fun _ s' hq => wpAny_pure (wpAny_pure hq)) fun _ _ e => e)
  obtain ⟨F, N, ban, n, It, M, hban, go⟩ := h₁
  have hL := F.ns.lt
  refine comp_start (RR := fun acc C => compPost (model prog w) A E (some (assign (.Name y py) env)) (fun _ s' => Q .next s') acc C) hkind hcell M hban fun I D C h e1 e2 e3 F' N' hI => codeAny_mono (go I D C h e1 e2 e3 F' N' hI) fun r s' hr => ?_
  cases r with
  | error _ => exact hr.elim
  | ok f =>
    obtain ⟨m', h', tk', rfl, FC, items, nn, hD, hQ⟩ := hr
    have hDl : s₁.heap.get? D = none := Heap.get?_none_of_le (by rw [e2]; exact Nat.le_succ _)
    have hCl : s₁.heap.get? C = none := Heap.get?_none_of_le (by rw [e3]; exact Nat.le_add_right _ _)
    have nb : ∀ b : Addr, s₁.heap.get? b = none → h₀.get? b = none := fun b hb => by
      cases q : h₀.get? b with
      | none => rfl
      | some o => have := F.keep b o q; rw [hb] at this; cases this
    have hLC : env.locals ≠ C := by rw [e3]; exact Nat.ne_of_lt (Nat.lt_of_lt_of_le hL (Nat.le_add_right _ _))
    have hLD : env.locals ≠ D := by rw [e2]; exact Nat.ne_of_lt (Nat.lt_of_lt_of_le hL (Nat.le_succ _))
    have hDC : D ≠ C := by rw [e2, e3]; exact Nat.ne_of_lt (Nat.lt_succ_self _)
    have F₁ := F.keeps FC.keep
    have N₁ : News h₀ env.locals h' ((D, listOf items nn) :: news) := fun p hp => by
      rcases List.mem_cons.mp hp with rfl | hp
      · exact ⟨hD, Ne.symm hLD, nb _ hDl⟩
      · exact (N.grown FC.keep) p hp
    have hlt : ∀ p ∈ news, p.1 < D := fun p hp => by rw [e2]; exact Nat.lt_of_lt_of_le (Heap.lt_size (N p hp).1) (Nat.le_succ _)
    show wpAny _ A (assign (.Name y py) env (.ref D)) _ _ _
    refine wpAny_assign_Name (wpAny_storeName_local hy F₁.ns (fun h₂ hn₂ hs₂ => ?_) (by rw [hk]; rfl))
    refine ⟨m', FC.ns.sameBut hs₂ (Ne.symm hLC), fun h₃ hs₃ => ?_⟩
    have F₂ := F₁.set hn₂ hs₂
    have N₂ := N₁.set hs₂
    refine hQ h₃ _ ⟨F₂.ns.sameBut hs₃ hLC, fun b o e => (hs₃.2 b (fun q => ?_)).trans (F₂.keep b o e), F.above⟩ (fun p hp => ⟨(hs₃.2 p.1 (fun q => ?_)).trans (N₂ p hp).1, (N₂ p hp).2⟩) hlt (Nat.le_succ _)
    · rw [q, nb _ hCl] at e; cases e
    · rcases List.mem_cons.mp hp with rfl | hp
      · exact hDC q
      · have := (N p hp).1
        rw [q, hCl] at this; cases this
end
end Mine
end

section
open PySem PySem.W PySem.Calls PyProof.Rows
set_option Elab.async false
set_option maxRecDepth 100000
set_option maxHeartbeats 8000000
namespace Mine
section
variable {prog : Program} {w : World} {A : Around} {s : Shared} {env : Env} {h₀ : Heap} {E : Value → Shared → Prop}

/-- the loop of a comprehension of one clause -/
theorem comp_loop1 {R : Result → Shared → Prop} {elt iter : Expr} {x : Str} {px : Pos} {ifs : List Expr} {scope : Scope} {pos : Pos} {it acc : Value} {n : Nat} {St : Nat → Shared → Prop} {It : Nat → Value → Shared → Prop} {m : Str → Option Value} {news : List (Addr × Obj)} {as : List Addr}
    (W : Iter true prog w A h₀ (env.locals :: as) it n St It) (hst : St 0 s) (F : Fr h₀ env.locals s.heap m) (N : News h₀ env.locals s.heap news) (has : news.map (·.1) = as)
    (J : Nat → (Str → Option Value) → List (Addr × Obj) → Prop) (hJ : J 0 m news)
    (step : ∀ E i v m₁ news₁ own h₁ tk₁, i < n → It i v { s with heap := h₁, toks := tk₁ } → J i m₁ news₁ → news₁.map (·.1) = as → OwnOff own as → s.toks ≤ tk₁ →
      Fr h₀ env.locals h₁ m₁ → News h₀ env.locals h₁ (news₁ ++ own) →
      wpAny (model prog w) A (storeName env x v) (fun _ s₂ => wpAny (model prog w) A (forIn ifs true fun c r => if r = true then do let ok ← isTrue c env (eval c env); pure (ForInStep.yield ok) else pure (ForInStep.yield r)) (fun ok s₃ =>
        if ok = true then wpAny (model prog w) A (eval elt env) (fun y s₄ => wpAny (model prog w) A (call (.builtin "list.append") [acc, y]) (fun _ s₅ => TurnEnd h₀ env.locals as own (J (i + 1)) (fun _ _ => False) { s with heap := h₁, toks := tk₁ } .next s₅) E s₄) E s₃
        else TurnEnd h₀ env.locals as own (J (i + 1)) (fun _ _ => False) { s with heap := h₁, toks := tk₁ } .next s₃) E s₂) E { s with heap := h₁, toks := tk₁ })
    (done : ∀ m' news' h' tk', J n m' news' → news'.map (·.1) = as → s.toks ≤ tk' → Fr h₀ env.locals h' m' → News h₀ env.locals h' news' → R (.ok .next) { s with heap := h', toks := tk' }) :
    codeAny (model prog w) A (.compLoop (.ListComp elt [⟨.Name x px, iter, ifs, 0⟩] scope pos) 0 it acc env) R s := by
  refine blockI (p := iter.pos) (turn := fun v => letOwnedTupleGo (.Name x px) it v >>= fun _ => assign (.Name x px) env v >>= fun _ =>
      (forIn ifs true fun c r => if r = true then do let ok ← isTrue c env (eval c env); pure (ForInStep.yield ok) else pure (ForInStep.yield r)) >>= fun ok =>
      (if ok = true then (eval elt env >>= fun y => call (.builtin "list.append") [acc, y] >>= fun _ => pure ()) else pure ()) >>= fun _ => again (.compLoop (.ListComp elt [⟨.Name x px, iter, ifs, 0⟩] scope pos) 0 it acc env))
    W hst F N has rfl rfl ?_ J hJ ?_ ?_
  · show Sem.onRaise (compTurn _ _ _ _ _) _ = _
    rw [compTurn_list]
    refine congrArg (fun t => Sem.onRaise t _) ?_
    refine congrArg (Sem.bind (standAt iter.pos)) (funext fun _ => congrArg (Sem.bind (pyNext it)) (funext fun r => ?_))
    cases r with
    | none => rfl
    | some v => 
      refine congrArg (Sem.bind (letOwnedTupleGo (.Name x px) it v)) (funext fun _ => congrArg (Sem.bind (assign (.Name x px) env v)) (funext fun _ => ?_))
      refine congrArg (Sem.bind _) (funext fun ok => ?_)
      cases ok <;> rfl
  · intro E i v m₁ news₁ own s₁ h1 h2 h3 h4 h5 _ h6 h7 h8 h9 h10 h11
    have e := shared_eta (s := s) (s' := s₁) (h6 rfl) h7 h8
    rw [e] at h2 ⊢
    have z := step E i v m₁ news₁ own _ _ h1 h2 h3 h4 h5 h9 h10 h11
    refine wpAny_bind (wpAny_pure ?_)
    refine wpAny_bind (wpAny_assign_Name (wpAny_mono z (fun _ s₂ h₂ => wpAny_bind (wpAny_mono h₂ (fun ok s₃ h₃ => ?_) fun _ _ e => e)) fun _ _ e => e))
    cases ok with
    | true =>
      rw [if_pos rfl] at h₃
      exact wpAny_bind (wpAny_bind (wpAny_mono h₃ (fun y s₄ h₄ => wpAny_bind (wpAny_mono h₄ (fun _ s₅ h₅ => wpAny_pure (wpAny_pure ⟨rfl, h₅⟩)) fun _ _ e => e)) fun _ _ e => e))
    | false =>
      rw [if_neg Bool.false_ne_true] at h₃
      exact wpAny_bind (wpAny_pure (wpAny_pure ⟨rfl, h₃⟩))
  · intro m' news' s' h1 h2 _ h4 h5 h6 h7 h8 h9
    rw [shared_eta (s := s) (s' := s') (h4 rfl) h5 h6]
    exact done m' news' _ _ h1 h2 h7 h8 h9

/-- into a def that has cells -/
theorem enterC {K : Frag} {R : Result → Shared → Prop}
    {name qual : Str} {params : Arguments} {body : List Stmt} {scope : Scope} {dV kV doc pm cdv ct oc : Value} {an od : Option Addr} {osl : Array (Option Value)} {f : Addr} {args : List Value} {binds : List (Str × Value)}
    (X : K.In s.heap) (hlim : s.heap.NoLimit)
    (ho : K.lookup f = some ⟨oc, od, .func (fnOf name qual params body scope dV kV doc pm an cdv ct), osl⟩) (hcd : codeIn K cdv qual = true) (hroom : A.depth < recursionLimit)
    (hbind : bindArgs (fnOf name qual params body scope dV kV doc pm an cdv ct) ⟨args, []⟩ = pure binds)
    (hkind : ∀ n, ∀ x ∈ binds, scope.names.lookup x.1 = some .local ∨ (scope.names.lookup x.1 = some .cell ∧ ((cellsFrom n scope.names []).lookup x.1).isSome = true))
    (hnd : ((cellsFrom 0 scope.names []).map (·.1)).Nodup)
    (h : ∀ L h₁ tk cells, L = s.heap.objs.size → s.toks ≤ tk → Fr s.heap L h₁ (bindL (envOfC qual scope L f cdv).kindOf binds fun _ => none) → News s.heap L h₁ cells →
      CellsAre (bindC (envOfC qual scope L f cdv).kindOf binds fun _ => none) (cellsFrom (L + 1) scope.names []) cells →
      wpAny (model prog w) (A.deeper (envOfC qual scope L f cdv)) (execs body (envOfC qual scope L f cdv))
        (fun fl s' => R (.ok (.ret (match fl with | .ret v => v | _ => .none))) s')
        (fun _ _ => False)
        { s with heap := h₁, toks := tk })
    (hco : scope.isCoroutine = false) (hgen : scope.isGenerator = false) (hk : scope.kind = .function) : codeAny (model prog w) A (.call (.ref f) ⟨args, []⟩) R s := by
  refine codeAny_with_toks (Nat.le_refl s.toks) ?_
  refine codeAny_call_function hroom (X _ _ ho) rfl hco hgen rfl (codeRec_of X hcd) ?_
  rw [hbind]
  refine wpAny_pure (wpAny_with_toks (Nat.le_refl s.toks) (wpAny_newFunctionEnv_cells hk (hkind _) fun env' he s' x htk => ?_))
  subst he
  refine ⟨hlim.keeps x.toInCall.keep, codeAny_func ?_⟩
  obtain ⟨h₁, tk, rfl, _⟩ := x.done
  obtain ⟨cells, NC, Y⟩ := Cl.news (h₀ := s.heap) (Nat.le_refl _) fun n c hm => ⟨x.cell n c (lookup_of_mem_nodup (cellsFrom_names scope.names 0 (s.heap.objs.size + 1) [] [] rfl ▸ hnd) hm), x.above n c hm⟩
  exact wpAny_mono (h s.heap.objs.size h₁ tk cells rfl htk ⟨x.toInCall.ns, x.toInCall.keep, Nat.le_refl _⟩ NC Y) (fun _ _ x _ => x) (fun _ _ x => x.elim)
end
end Mine
end

section
open PySem PySem.W PySem.Calls PyProof.Rows
set_option Elab.async false
set_option maxRecDepth 100000
set_option maxHeartbeats 8000000
namespace Mine
section
variable {prog : Program} {w : World} {A : Around} {s : Shared} {h₀ : Heap} {L D : Addr} {m : Str → Option Value} {E : Value → Shared → Prop}
theorem appendTo {its : Array Value} {n : Nat} {x : Value} {own : List (Addr × Obj)} {Q : Value → Shared → Prop} (F : Fr h₀ L s.heap m) (N : News h₀ L s.heap ((D, listOf its n) :: own)) (off : ∀ p ∈ own, p.1 ≠ D) (hsz : its.size ≤ 1000)
    (h : ∀ h', Fr h₀ L h' m → News h₀ L h' ((D, listOf (its.push x) (n + 1)) :: own) → Q .none { s with heap := h' }) :
    wpAny (model prog w) A (call (.builtin "list.append") [.ref D, x]) Q E s :=
  append_K F N (.head off) h (by rw [sizeLine_eq]; omega)
theorem nameCK {s : Shared} {env : Env} {h₀ : Heap} {L : Addr} {m : Str → Option Value} {A : Around} {E : Value → Shared → Prop} {x : Str} {pos : Pos} {c : Addr} {v : Value} {Q : Value → Shared → Prop} (F : Fr h₀ L s.heap m) (hv : h₀.IsCell c (some v)) (hc : env.cells.lookup x = some c) (h : Q v s)
    (hk : env.scope.kind = .function) (hl : env.kindOf x = some .cell) (hd : (x == ("__debug__" : Str)) = false) : wpAny (model prog w) A (eval (.Name x pos) env) Q E s :=
  nameC (hv.keeps F.keep) hc h hk hl hd
end
end Mine
end

section
open PySem PySem.W PyProof.Rows Builtin.Str
set_option Elab.async false
set_option maxRecDepth 100000
set_option maxHeartbeats 8000000
namespace Mine
theorem rng_tab : ∀ m : Fin 30, Builtin.Range.small 0 ((m.val : Int) - 8) 1 = true ∧ Builtin.Range.rangeSize 0 ((m.val : Int) - 8) 1 = (((m.val : Int) - 8).toNat : Int) := by decide
theorem rng_ok {b : Int} (h1 : -8 ≤ b) (h2 : b ≤ 20) : Builtin.Range.small 0 b 1 = true ∧ Builtin.Range.rangeSize 0 b 1 = (b.toNat : Int) := by
  have h := rng_tab ⟨(b + 8).toNat, by omega⟩
  have e : (((b + 8).toNat : Nat) : Int) - 8 = b := by omega
  dsimp only at h
  rw [e] at h
  exact h
theorem str_eta (x : Str) : (⟨x.cps.toList.toArray⟩ : Str) = x := by cases x; simp
theorem slice_ab (x : Str) {a b : Nat} (hab : a ≤ b) (hb : b ≤ x.length) : Txt.slice x (some (a : Int)) (some (b : Int)) = ⟨((x.cps.toList.drop a).take (b - a)).toArray⟩ := by
  unfold Txt.slice
  split
  · rename_i h
    simp only [beq_self_eq_true, Bool.true_and, beq_iff_eq] at h
    rw [PySem.StrLaws.strSliceIndices_plain hab hb] at h
    simp at h
    have ha : a = 0 := by omega
    have hb' : b = x.length := by omega
    subst ha
    have e : (List.drop 0 x.cps.toList).take (b - 0) = x.cps.toList := by
      rw [List.drop_zero, List.take_of_length_le]
      simp [Str.length] at hb' ⊢; omega
    rw [e, str_eta]
  · rw [PySem.StrLaws.sliced_plain x hab hb]
theorem lo_none (u : Option Int) (n : Nat) : strSliceIndices none u 1 n = strSliceIndices (some ((0 : Nat) : Int)) u 1 n := by
  have e : max (0 : Int) (min 0 (n : Int)) = 0 := by omega
  simp [strSliceIndices, e]
theorem hi_none (l : Option Int) (n : Nat) : strSliceIndices l none 1 n = strSliceIndices l (some (n : Int)) 1 n := StrLaws.sliceIdx_none_hi l n
theorem slice_to (x : Str) {b : Nat} (hb : b ≤ x.length) : Txt.slice x none (some (b : Int)) = ⟨(x.cps.toList.take b).toArray⟩ := by
  have e : Txt.slice x none (some (b : Int)) = Txt.slice x (some ((0 : Nat) : Int)) (some (b : Int)) := by unfold Txt.slice; rw [lo_none]
  rw [e, slice_ab x (Nat.zero_le _) hb]; rfl
theorem slice_from (x : Str) {a : Nat} (ha : a ≤ x.length) : Txt.slice x (some (a : Int)) none = ⟨(x.cps.toList.drop a).toArray⟩ := by
  have e : Txt.slice x (some (a : Int)) none = Txt.slice x (some (a : Int)) (some (x.length : Int)) := by unfold Txt.slice; rw [hi_none]
  rw [e, slice_ab x ha (Nat.le_refl _)]
  congr 2
  rw [List.take_of_length_le]
  simp [Str.length]
theorem charAt_at (x : Str) {k : Nat} (h : k < x.length) : Txt.charAt x (k : Int) = x.cps.toList[k]? := by
  unfold Txt.charAt seqIndex?
  have h1 : ¬ ((k : Int) < 0) := by omega
  simp [h1, h]
theorem item_at (x : Str) {k c : Nat} (h : x.cps.toList[k]? = some c) : Txt.item x (k : Int) = ⟨#[c]⟩ := by
  have hk : k < x.length := by
    rcases Nat.lt_or_ge k x.cps.toList.length with q | q
    · simpa [Str.length] using q
    · rw [List.getElem?_eq_none q] at h; cases h
  unfold Txt.item
  rw [charAt_at x hk, h]; rfl
/-- is the sign at k the sign d? -/
theorem item_beq (x : Str) {k : Nat} (hk : k < x.length) (d : Nat) : (Txt.item x (k : Int) == (⟨#[d]⟩ : Str)) = decide (x.cps.toList[k]? = some d) := by
  have hk' : k < x.cps.toList.length := by simpa [Str.length] using hk
  rw [item_at x (List.getElem?_eq_getElem hk'), List.getElem?_eq_getElem hk']
  by_cases e : x.cps.toList[k] = d
  · rw [e]; simp
  · have : ¬ ((⟨#[x.cps.toList[k]]⟩ : Str) = ⟨#[d]⟩) := fun q => e (by injection q with q; simpa using q)
    rw [beq_eq_false_iff_ne.mpr this]
    symm
    exact decide_eq_false (fun q => e (Option.some.inj q))
section
variable {prog : Program} {w : World} {A : Around} {s : Shared} {h₀ : Heap} {L : Addr} {m : Str → Option Value} {news : List (Addr × Obj)} {E : Value → Shared → Prop} {Q : Value → Shared → Prop} {x : Str} {t : Tok} {value slice : Expr}
theorem slT_ns {T₀ : Nat} (hT : T₀ ≤ s.toks) {j : Int} {uj : Tok} (hF : Fr h₀ L s.heap m) (hN : News h₀ L s.heap news) (h : ∀ h' t' k, Fr h₀ L h' m → News h₀ L h' news → (Txt.slice x none (some j)).length ≤ x.length → T₀ ≤ k → Q (.str (Txt.slice x none (some j)) t') { s with heap := h', toks := k })
    (hs : subscripted slice false (.str x t) (.ref s.heap.objs.size) = operate [.ref s.heap.objs.size, .str x t] (getItem (.str x t) (.ref s.heap.objs.size)) := by with_unfolding_all rfl)
    (ht : ∀ r, letTemporaryGo value (.str x t) r = pure () := by intro _; with_unfolding_all rfl) (hsz : x.length ≤ sizeLine := by size_fits) :
    wpAny (model prog w) A (subscriptTail value slice (.str x t) (.ref s.heap.objs.size)) Q E { s with heap := s.heap.push { cls := .type "slice", data := .fields #[.none, .int j uj, .none] } } :=
  wpAny_with_toks (n := T₀) hT (slice_strN_ns_len hF hN (fun h' t' k a b c d => h h' t' k a b c d) hs ht hsz)
theorem slT_sn {T₀ : Nat} (hT : T₀ ≤ s.toks) {i : Int} {ui : Tok} (hF : Fr h₀ L s.heap m) (hN : News h₀ L s.heap news) (h : ∀ h' t' k, Fr h₀ L h' m → News h₀ L h' news → (Txt.slice x (some i) none).length ≤ x.length → T₀ ≤ k → Q (.str (Txt.slice x (some i) none) t') { s with heap := h', toks := k })
    (hs : subscripted slice false (.str x t) (.ref s.heap.objs.size) = operate [.ref s.heap.objs.size, .str x t] (getItem (.str x t) (.ref s.heap.objs.size)) := by with_unfolding_all rfl)
    (ht : ∀ r, letTemporaryGo value (.str x t) r = pure () := by intro _; with_unfolding_all rfl) (hsz : x.length ≤ sizeLine := by size_fits) :
    wpAny (model prog w) A (subscriptTail value slice (.str x t) (.ref s.heap.objs.size)) Q E { s with heap := s.heap.push { cls := .type "slice", data := .fields #[.int i ui, .none, .none] } } :=
  wpAny_with_toks (n := T₀) hT (slice_strN_sn_len hF hN (fun h' t' k a b c d => h h' t' k a b c d) hs ht hsz)
end
end Mine
end

section
open PySem PySem.W PySem.Calls PyProof.Rows
set_option Elab.async false
set_option maxRecDepth 100000
set_option maxHeartbeats 8000000
namespace Mine

theorem is_str {prog : Program} {w : World} {A : Around} {s : Shared} {x y : Str} {t u : Nat} {Q E : Value → Shared → Prop} (ht : 0 < t) (hu : 0 < u) (hne : t ≠ u) (hb : NoneBooked s.heap)
    (h1 : x = y → Q (.bool true) s) (h2 : Q (.bool false) s) : wpAny (model prog w) A (compareOp .Is (.str x t) (.str y u)) Q E s := by
  show wpAny _ A (isSame.created (x == y) t u >>= fun b => pure (.bool b)) Q E s
  refine wpAny_bind ?_
  unfold isSame.created
  have e1 : (t == 0 || u == 0) = false := by
    have a1 : t ≠ 0 := Nat.pos_iff_ne_zero.mp ht
    have a2 : u ≠ 0 := Nat.pos_iff_ne_zero.mp hu
    simp [a1, a2]
  have e2 : (t == u) = false := by simpa using hne
  rw [e1, e2]
  simp only [Bool.false_eq_true, if_false]
  by_cases hxy : x = y
  · have e3 : (!(x == y)) = false := by simp [hxy]
    rw [e3]
    simp only [Bool.false_eq_true, if_false]
    refine wpAny_bind (wpAny_sharingNotTold_none hb ?_)
    simp only [Bool.false_eq_true, if_false]
    refine wpAny_bind (wpAny_sharingNotTold_none hb ?_)
    simp only [Bool.false_eq_true, if_false]
    refine wpAny_bind (wpAny_rule (wpAny_bind (wpAny_askSetting (wpAny_pure ?_))))
    refine wpAny_pure ?_
    have key : ∀ b : Bool, Q (.bool b) s := fun b => by
      cases b
      · exact h2
      · exact h1 hxy
    exact key _
  · have e3 : (!(x == y)) = true := by simp [hxy]
    rw [e3]
    simp only [if_true]
    exact wpAny_pure (wpAny_pure h2)

def cntL (l : List Nat) (y : Str) : Nat := (l.filter fun c => decide ((⟨#[c]⟩ : Str) = y)).length
theorem cntL_snoc (l : List Nat) (c : Nat) (y : Str) : cntL (l ++ [c]) y = cntL l y + (if (⟨#[c]⟩ : Str) = y then 1 else 0) := by
  unfold cntL
  rw [List.filter_append]
  by_cases h : (⟨#[c]⟩ : Str) = y <;> simp [h]
theorem take_at {α : Type} {l : List α} {i : Nat} {c : α} (h : l[i]? = some c) : l.take (i + 1) = l.take i ++ [c] := by
  rw [List.take_add_one, h]; rfl

section
variable {w : World} {A : Around} {s : Shared} {Q E : Value → Shared → Prop} {mean : ExcName → Option Value} {mg mb : Str → Option Value}

theorem noneBooked {h : Heap} (X : (hd.heap_39 w.params).In h) : NoneBooked h := by
  refine ⟨fun _ => none, ⟨_, _, _, X 2 _ (by rfl), rfl, fun e he => ?_, fun _ => ?_⟩, rfl⟩
  · simp at he
  · rfl

theorem lines_off1 : True := by
  w_top off
  trivial
local macro_rules | `(tactic| walk_at "exec For Name Name cons nil") => `(tactic| refine Halt.out ?_)
local macro_rules | `(tactic| walk_at "compareOp Is str str") => `(tactic| refine Halt.out ?_)
local macro_rules | `(tactic| walk_at "execs cons") => `(tactic| refine wpAny_execs_cons ?_)
local macro_rules | `(tactic| walk_at "execs nil") => `(tactic| refine wpAny_execs_nil ?_)
local macro_rules | `(tactic| walk_at "eval Name") => `(tactic| (k_dflt (refine' ld ?k1 ?k2 ?_; (case k1 => k_asm); (case k2 => assumption); k_whole)))
local macro_rules | `(tactic| walk_at "loadName") => `(tactic| (k_dflt (refine' ldn ?k1 ?k2 ?_; (case k1 => k_asm); (case k2 => assumption); k_whole)))

theorem countOf_ss (hh : A.handled = none) (hA : A.depth < recursionLimit) (X : (hd.heap_39 w.params).In s.heap) (T : Top hd.view_39 (looseW hd.view_39 []) mean mg mb s.heap)
    (x y : Str) (t u : Nat) (hu : 0 < u) (hus : u < s.toks) (ret : ∀ t' h' tk', Keep s.heap h' → s.toks ≤ tk' → Q (.int (cntL x.cps.toList y) t') { s with heap := h', toks := tk' }) :
    wpAny (model PySem.Challenge.rw_ux0011_01.row.prog w) A (call (.ref 84) [.str x t, .str y u]) Q E s := by
  revert X; k_fill; intro X
  refine wpAny_with_toks (Nat.le_refl s.toks) ?_
  refine wpAny_call ?_
  refine' enterK (binds := [(Str.ofString "a", .str x t), (Str.ofString "b", .str y u)]) ?kX ?klim ?k6 ?k7 ?k8 ?k9 ?kB ?kbody ?c2 ?c3 ?c4 ?c5
  (case kX => assumption); (case klim => exact TopRead.nolimit (by k_asm)); (case k6 => k_is); (case k7 => k_is); (case k8 => first | assumption | omega); (case k9 => exact BindsTo.of_eq rfl); (case c5 => decide); (case kB => exact locs rfl); (case c2 => exact rfl); (case c3 => exact rfl); (case c4 => exact rfl)
  intro L h₁ hL F N
  k_steps
  case kbody =>
    refine Halt.of ?_
    refine wpAny_For ?_
    k_steps
    rename_i h' F' N'
    dsimp only
    refine for_of (env := envOf _ _ _ _ _) (makes_str hh) (fun b hb => (List.not_mem_nil hb).elim) F' N' (fun i m' news' => news' = [] ∧ m' (Str.ofString "b") = some (.str y u) ∧ ∃ tc, m' (Str.ofString "count") = some (.int (cntL (x.cps.toList.take i) y) tc)) ⟨rfl, rfl, _, rfl⟩ ?step ?done
    case step =>
      rintro E i _ m₁ news₁ own h₁ tk₁ hi ⟨c, v, hc, rfl, hv, hv'⟩ _ ⟨rfl, hb, tc, hcount⟩ hmap hoff F₁ N₁
      have hc' : x.cps.toList[i]? = some c := by simpa using hc
      dsimp only at hv
      have hX := noneBooked X
      k_steps
      refine Halt.of (is_str (by simp at hv; omega) hu (by simp at hv; omega) ?nb ?h1 ?h2)
      case nb => exact noneBooked (X.keeps (Fr.keep (by assumption)))
      case h1 =>
        intro hxy
        k_steps
        refine TurnEnd.intro [] (by assumption) (by assumption) (fun p hp => hp) rfl ⟨rfl, ?_, ?_⟩
        · assumption
        · rw [take_at hc', cntL_snoc, if_pos hxy]
          exact ⟨_, rfl⟩
      case h2 =>
        k_steps
        · (rename ((_ == _) = true) => hq)
          refine TurnEnd.intro [] (by assumption) (by assumption) (fun p hp => hp) rfl ⟨rfl, ?_, ?_⟩
          · assumption
          · rw [take_at hc', cntL_snoc, if_pos (beq_iff_eq.mp hq)]
            exact ⟨_, rfl⟩
        · (rename ((_ == _) = false) => hq)
          have hx : ¬ ((⟨#[c]⟩ : Str) = y) := fun e => by rw [e] at hq; simp at hq
          refine TurnEnd.intro [] (by assumption) (by assumption) (fun p hp => hp) rfl ⟨rfl, ?_, ?_⟩
          · assumption
          · rw [take_at hc', cntL_snoc, if_neg hx]
            exact ⟨tc, hcount⟩
    case done =>
      rintro m' news' h' tk' ⟨rfl, hb, tc, hcount⟩ _ htk F₁ N₁
      have e : List.take x.cps.size x.cps.toList = x.cps.toList := by rw [List.take_of_length_le]; simp
      rw [e] at hcount
      k_steps
      exact ret _ _ _ (Fr.keep F₁) (by assumption)
end
end Mine
end

section
open PySem PySem.W PySem.Calls PyProof.Rows
set_option Elab.async false
set_option maxRecDepth 100000
set_option maxHeartbeats 8000000
namespace Mine
section
variable {w : World} {A : Around} {s : Shared} {Q E : Value → Shared → Prop} {mean : ExcName → Option Value} {mg mb : Str → Option Value}
theorem lines_off2 : True := by
  w_top off
  trivial
local macro_rules | `(tactic| walk_at "execs cons") => `(tactic| refine wpAny_execs_cons ?_)
local macro_rules | `(tactic| walk_at "execs nil") => `(tactic| refine wpAny_execs_nil ?_)
local macro_rules | `(tactic| walk_at "compareOp In bool ref") => `(tactic| refine Halt.out ?_)

theorem lt_ss (hA : A.depth < recursionLimit) (X : (hd.heap_39 w.params).In s.heap) (T : Top hd.view_39 (looseW hd.view_39 []) mean mg mb s.heap)
    (x y : Str) (t u : Tok)  (ret : ∀ (_ : Unit) h' tk', Keep s.heap h' → s.toks ≤ tk' → Q (.bool (decide (x.cps.toList < y.cps.toList))) { s with heap := h', toks := tk' }) :
    wpAny (model PySem.Challenge.rw_ux0011_01.row.prog w) A (call (.ref 49) [.str x t, .str y u]) Q E s := by
  revert X; k_fill; intro X
  refine wpAny_with_toks (Nat.le_refl s.toks) ?_
  refine wpAny_call ?_
  refine' enterK (binds := [(Str.ofString "a", .str x t), (Str.ofString "b", .str y u)]) ?kX ?klim ?k6 ?k7 ?k8 ?k9 ?kB ?kbody ?c2 ?c3 ?c4 ?c5
  (case kX => assumption); (case klim => exact TopRead.nolimit (by k_asm)); (case k6 => k_is); (case k7 => k_is); (case k8 => first | assumption | omega); (case k9 => exact BindsTo.of_eq rfl); (case c5 => decide); (case kB => exact locs rfl); (case c2 => exact rfl); (case c3 => exact rfl); (case c4 => exact rfl)
  intro L h₁ hL F N
  k_steps
  exact ret () _ _ (Fr.keep (by assumption)) (by assumption)

theorem lt_ii (hA : A.depth < recursionLimit) (X : (hd.heap_39 w.params).In s.heap) (T : Top hd.view_39 (looseW hd.view_39 []) mean mg mb s.heap)
    (x y : Int) (t u : Tok)  (ret : ∀ (_ : Unit) h' tk', Keep s.heap h' → s.toks ≤ tk' → Q (.bool (decide (x < y))) { s with heap := h', toks := tk' }) :
    wpAny (model PySem.Challenge.rw_ux0011_01.row.prog w) A (call (.ref 49) [.int x t, .int y u]) Q E s := by
  revert X; k_fill; intro X
  refine wpAny_with_toks (Nat.le_refl s.toks) ?_
  refine wpAny_call ?_
  refine' enterK (binds := [(Str.ofString "a", .int x t), (Str.ofString "b", .int y u)]) ?kX ?klim ?k6 ?k7 ?k8 ?k9 ?kB ?kbody ?c2 ?c3 ?c4 ?c5
  (case kX => assumption); (case klim => exact TopRead.nolimit (by k_asm)); (case k6 => k_is); (case k7 => k_is); (case k8 => first | assumption | omega); (case k9 => exact BindsTo.of_eq rfl); (case c5 => decide); (case kB => exact locs rfl); (case c2 => exact rfl); (case c3 => exact rfl); (case c4 => exact rfl)
  intro L h₁ hL F N
  k_steps
  exact ret () _ _ (Fr.keep (by assumption)) (by assumption)

theorem add_ii (hA : A.depth < recursionLimit) (X : (hd.heap_39 w.params).In s.heap) (T : Top hd.view_39 (looseW hd.view_39 []) mean mg mb s.heap)
    (x y : Int) (t₁ u : Tok)  (ret : ∀ (t : Tok) h' tk', Keep s.heap h' → s.toks ≤ tk' → Q (.int (x + y) t) { s with heap := h', toks := tk' }) :
    wpAny (model PySem.Challenge.rw_ux0011_01.row.prog w) A (call (.ref 56) [.int x t₁, .int y u]) Q E s := by
  revert X; k_fill; intro X
  refine wpAny_with_toks (Nat.le_refl s.toks) ?_
  refine wpAny_call ?_
  refine' enterK (binds := [(Str.ofString "a", .int x t₁), (Str.ofString "b", .int y u)]) ?kX ?klim ?k6 ?k7 ?k8 ?k9 ?kB ?kbody ?c2 ?c3 ?c4 ?c5
  (case kX => assumption); (case klim => exact TopRead.nolimit (by k_asm)); (case k6 => k_is); (case k7 => k_is); (case k8 => first | assumption | omega); (case k9 => exact BindsTo.of_eq rfl); (case c5 => decide); (case kB => exact locs rfl); (case c2 => exact rfl); (case c3 => exact rfl); (case c4 => exact rfl)
  intro L h₁ hL F N
  k_steps
  exact ret _ _ _ (Fr.keep (by assumption)) (by assumption)

theorem sub_ii (hA : A.depth < recursionLimit) (X : (hd.heap_39 w.params).In s.heap) (T : Top hd.view_39 (looseW hd.view_39 []) mean mg mb s.heap)
    (x y : Int) (t₁ u : Tok)  (ret : ∀ (t : Tok) h' tk', Keep s.heap h' → s.toks ≤ tk' → Q (.int (x - y) t) { s with heap := h', toks := tk' }) :
    wpAny (model PySem.Challenge.rw_ux0011_01.row.prog w) A (call (.ref 70) [.int x t₁, .int y u]) Q E s := by
  revert X; k_fill; intro X
  refine wpAny_with_toks (Nat.le_refl s.toks) ?_
  refine wpAny_call ?_
  refine' enterK (binds := [(Str.ofString "a", .int x t₁), (Str.ofString "b", .int y u)]) ?kX ?klim ?k6 ?k7 ?k8 ?k9 ?kB ?kbody ?c2 ?c3 ?c4 ?c5
  (case kX => assumption); (case klim => exact TopRead.nolimit (by k_asm)); (case k6 => k_is); (case k7 => k_is); (case k8 => first | assumption | omega); (case k9 => exact BindsTo.of_eq rfl); (case c5 => decide); (case kB => exact locs rfl); (case c2 => exact rfl); (case c3 => exact rfl); (case c4 => exact rfl)
  intro L h₁ hL F N
  k_steps
  exact ret _ _ _ (Fr.keep (by assumption)) (by assumption)

theorem mul_ii (hA : A.depth < recursionLimit) (X : (hd.heap_39 w.params).In s.heap) (T : Top hd.view_39 (looseW hd.view_39 []) mean mg mb s.heap)
    (x y : Int) (t₁ u : Tok) (hy : IntMulOk x y) (ret : ∀ (t : Tok) h' tk', Keep s.heap h' → s.toks ≤ tk' → Q (.int (x * y) t) { s with heap := h', toks := tk' }) :
    wpAny (model PySem.Challenge.rw_ux0011_01.row.prog w) A (call (.ref 63) [.int x t₁, .int y u]) Q E s := by
  revert X; k_fill; intro X
  refine wpAny_with_toks (Nat.le_refl s.toks) ?_
  refine wpAny_call ?_
  refine' enterK (binds := [(Str.ofString "a", .int x t₁), (Str.ofString "b", .int y u)]) ?kX ?klim ?k6 ?k7 ?k8 ?k9 ?kB ?kbody ?c2 ?c3 ?c4 ?c5
  (case kX => assumption); (case klim => exact TopRead.nolimit (by k_asm)); (case k6 => k_is); (case k7 => k_is); (case k8 => first | assumption | omega); (case k9 => exact BindsTo.of_eq rfl); (case c5 => decide); (case kB => exact locs rfl); (case c2 => exact rfl); (case c3 => exact rfl); (case c4 => exact rfl)
  intro L h₁ hL F N
  k_steps
  exact ret _ _ _ (Fr.keep (by assumption)) (by assumption)

theorem contains_b (hA : A.depth < recursionLimit) (X : (hd.heap_39 w.params).In s.heap) (T : Top hd.view_39 (looseW hd.view_39 []) mean mg mb s.heap)
    (l : Addr) (vs : List Bool) (hl : s.heap.IsList l (vs.map Value.bool).toArray) (ret : ∀ (_ : Unit) h' tk', Keep s.heap h' → s.toks ≤ tk' → Q (.bool (vs.any id)) { s with heap := h', toks := tk' }) :
    wpAny (model PySem.Challenge.rw_ux0011_01.row.prog w) A (call (.ref 77) [.ref l, .bool true]) Q E s := by
  revert X; k_fill; intro X
  refine wpAny_with_toks (Nat.le_refl s.toks) ?_
  refine wpAny_call ?_
  refine' enterK (binds := [(Str.ofString "a", .ref l), (Str.ofString "b", .bool true)]) ?kX ?klim ?k6 ?k7 ?k8 ?k9 ?kB ?kbody ?c2 ?c3 ?c4 ?c5
  (case kX => assumption); (case klim => exact TopRead.nolimit (by k_asm)); (case k6 => k_is); (case k7 => k_is); (case k8 => first | assumption | omega); (case k9 => exact BindsTo.of_eq rfl); (case c5 => decide); (case kB => exact locs rfl); (case c2 => exact rfl); (case c3 => exact rfl); (case c4 => exact rfl)
  intro L h₁ hL F N
  k_steps
  refine Halt.of (SeqAt.in_listAt (fun v => match v with | .bool b => b | _ => false) (hl.at fun o e => Fr.keep (by assumption) _ o e) ?_ ?_)
  · intro y hy
    simp only [List.mem_toArray, List.mem_map] at hy
    obtain ⟨b, _, rfl⟩ := hy
    cases b
    · exact SeqAt.EqAt.bool_bool false true
    · exact SeqAt.EqAt.bool_bool true true
  · k_steps
    have e : ((vs.map Value.bool).toArray.any fun v => match v with | .bool b => b | _ => false) = vs.any id := by
      simp only [List.any_toArray, List.any_map]
      rfl
    rw [e]
    exact ret () _ _ (Fr.keep (by assumption)) (by assumption)
end
end Mine
end

section
open PySem PySem.W PySem.Calls PyProof.Rows
set_option Elab.async false
set_option maxRecDepth 100000
set_option maxHeartbeats 8000000
namespace Mine
open Builtin Builtin.Str in
def find4 (x y : Str) (i j : Int) : Int := match occurrences x y (fromIndex x.length i) (min (fromIndex x.length j) x.length) 1 with | k :: _ => (k : Int) | [] => -1
open Builtin Builtin.Str in
theorem gives_find4 (x y : Str) (i j : Int) (t u v v' : Tok) : Gives («str.find» ⟨[.str x t, .str y u, .int i v, .int j v'], []⟩) (.int (find4 x y i j)) := by
  show Gives (match occurrences x y (fromIndex x.length i) (min (fromIndex x.length j) x.length) 1 with | k :: _ => retInt k | [] => (do rule "str.find.not-found"; retInt (-1))) _
  unfold find4
  cases occurrences x y (fromIndex x.length i) (min (fromIndex x.length j) x.length) 1 with
  | nil => exact .rule (.of_eq rfl)
  | cons k _ => exact .of_eq rfl
theorem args_find4 (a b c d : Value) : argsOk "str.find" ⟨[a, b, c, d], []⟩ := PySem.F.args_str_find_4 a b c d
theorem call_find4 {prog : Program} {w : World} {A : Around} {E : Value → Shared → Prop} {s : Shared} {x y : Str} {t u v v' : Tok} {i j : Int} {Q : Value → Shared → Prop} (hq : Q (.int (find4 x y i j) s.toks) { s with toks := s.toks + 1 }) :
    wpAny (model prog w) A (call (.builtin "str.find") [.str x t, .str y u, .int i v, .int j v']) Q E s :=
  call_gives F.slot_str_find (typeIs_str _ _ _) F.entry_str_find (args_find4 _ _ _ _) (gives_find4 x y i j t u v v') hq

/-- what _ellipsis_match does with the parts between the dots -/
def ellGo (got : Str) : List Str → Int → Bool
  | [], _ => true
  | w :: ws, st => if find4 got w st got.length < 0 then false else ellGo got ws (find4 got w st got.length + (w.length : Nat))
theorem ellGo_at {got : Str} {ws : List Str} {i : Nat} {wd : Str} {st : Int} (h : ws[i]? = some wd) : ellGo got (ws.drop i) st = if find4 got wd st got.length < 0 then false else ellGo got (ws.drop (i + 1)) (find4 got wd st got.length + (wd.length : Nat)) := by
  have hi : i < ws.length := by
    rcases Nat.lt_or_ge i ws.length with h' | h'
    · exact h'
    · rw [List.getElem?_eq_none h'] at h; cases h
  have e : ws.drop i = wd :: ws.drop (i + 1) := by
    rw [List.drop_eq_getElem_cons hi]
    rw [List.getElem?_eq_getElem hi] at h
    rw [Option.some.inj h]
  rw [e]
  rfl
section
variable {w : World} {A : Around} {s : Shared} {Q E : Value → Shared → Prop} {mean : ExcName → Option Value} {mg mb : Str → Option Value}
theorem lines_off3 : True := by
  w_top off
  trivial
local macro_rules | `(tactic| walk_at "execs cons") => `(tactic| (refine wpAny_execs_cons ?_; (try dsimp only)))
local macro_rules | `(tactic| walk_at "execs nil") => `(tactic| (refine wpAny_execs_nil ?_; (try dsimp only)))
local macro_rules | `(tactic| walk_at "exec For Name Name cons nil") => `(tactic| refine Halt.out ?_)
local macro_rules | `(tactic| walk_at "call builtin:str.split") => `(tactic| refine Halt.out ?_)
local macro_rules | `(tactic| walk_at "call builtin:str.find") => `(tactic| (refine call_find4 ?_))
local macro_rules | `(tactic| walk_at "eval Name") => `(tactic| (k_dflt (refine' ld ?k1 ?k2 ?_; (case k1 => k_asm); (case k2 => first | exact rfl | assumption); k_whole)))

theorem ell_ok (hh : A.handled = none) (hA : A.depth < recursionLimit) (X : (hd.heap_39 w.params).In s.heap) (T : Top hd.view_39 (looseW hd.view_39 []) mean mg mb s.heap)
    (want got x y z : Str) (t u : Tok) (hx : x.length ≤ 100) (hy : y.length ≤ 100) (hz : z.length ≤ 100) (hw : want.length ≤ 100) (hg : got.length ≤ 100) (hocc : (Builtin.Str.occurrences want (Str.ofString "...") 0 want.length 1).isEmpty = false)
    (hs : Txt.split want (Str.ofString "...") = [Str.ofString "", x, y, z, Str.ofString ""])
    (ret : ∀ h' tk', Keep s.heap h' → s.toks ≤ tk' → Q (.bool (ellGo got [Str.ofString "", x, y, z, Str.ofString ""] 0)) { s with heap := h', toks := tk' }) :
    wpAny (model PySem.Challenge.rw_ux0011_01.row.prog w) A (call (.ref 42) [.str want t, .str got u]) Q E s := by
  obtain ⟨_, dp, fr, gd, un⟩ := A
  dsimp only at hh hA
  subst hh
  revert X; k_fill; intro X
  refine wpAny_with_toks (Nat.le_refl s.toks) ?_
  refine wpAny_call ?_
  refine' enterK (binds := [(Str.ofString "want", .str want t), (Str.ofString "got", .str got u)]) ?kX ?klim ?k6 ?k7 ?k8 ?k9 ?kB ?kbody ?c2 ?c3 ?c4 ?c5
  (case kX => assumption); (case klim => exact TopRead.nolimit (by k_asm)); (case k6 => k_is); (case k7 => k_is); (case k8 => first | assumption | omega); (case k9 => exact BindsTo.of_eq rfl); (case c5 => decide); (case kB => exact locs rfl); (case c2 => exact rfl); (case c3 => exact rfl); (case c4 => exact rfl)
  intro L h₁ hL F N
  k_steps
  · refine Halt.of ?_
    refine KSpl.split1 (by k_asm) (by k_asm) (by decide) ?_ (by rw [sizeLine_eq]; omega)
    intro D l h' k e a F' N' l1
    rw [hs] at e
    obtain ⟨t1, l2, r1, e1⟩ := KSpl.cons_of e
    obtain ⟨t2, l3, r2, e2⟩ := KSpl.cons_of e1
    obtain ⟨t3, l4, r3, e3⟩ := KSpl.cons_of e2
    obtain ⟨t4, l5, r4, e4⟩ := KSpl.cons_of e3
    obtain ⟨t5, l6, r5, e5⟩ := KSpl.cons_of e4
    have r6 := KSpl.nil_of e5
    subst r6 r5 r4 r3 r2 r1
    clear e e1 e2 e3 e4 e5
    simp only [strValues, List.map_cons, List.map_nil] at N' a
    k_steps
    (with_reducible rename Fr _ _ _ _ => F2)
    (with_reducible rename News _ _ _ _ => N2)
    refine Halt.of (wpAny_For ?_)
    k_steps
    have hl := News.isList N2 (List.Mem.tail _ (List.Mem.head _))
    have hD := (N2 _ (List.Mem.tail _ (List.Mem.head _))).2.1
    refine for_of (env := envOf _ _ _ _ _) (news := []) (makes_list rfl hl) (fun b hb q => (List.mem_cons.mp q).elim (fun q => hD ((List.mem_singleton.mp hb).symm.trans q)) fun q => (List.not_mem_nil q).elim) F2 (News.nil) (fun i m' news' => news' = [] ∧ m' (Str.ofString "got") = some (.str got u) ∧ (∃ te, m' (Str.ofString "endpos") = some (.int (got.length : Nat) te)) ∧
      ∃ st ts, m' (Str.ofString "startpos") = some (.int st ts) ∧ ellGo got ([Str.ofString "", x, y, z, Str.ofString ""].drop i) st = ellGo got [Str.ofString "", x, y, z, Str.ofString ""] 0) ⟨rfl, rfl, ⟨_, rfl⟩, 0, _, rfl, rfl⟩ ?step ?done
    case step =>
      rintro E i v m₁ news₁ own h₂ tk₁ hi hc htk ⟨rfl, hgot, ⟨te, hend⟩, st, ts, hst, hgo⟩ hmap hoff F₁ N₁
      obtain ⟨wd, tw, rfl, hwd, hwl⟩ : ∃ wd tw, v = .str wd tw ∧ [Str.ofString "", x, y, z, Str.ofString ""][i]? = some wd ∧ wd.length ≤ 100 := by
        rcases i with _ | _ | _ | _ | _ | i
        all_goals first
          | (cases hc; exact ⟨_, _, rfl, rfl, by first | assumption | decide⟩)
          | (simp at hc)
      have hat := ellGo_at (got := got) (st := st) hwd
      k_steps
      · have e : ellGo got [Str.ofString "", x, y, z, Str.ofString ""] 0 = false := by rw [← hgo, hat, if_pos (by assumption)]
        rw [e] at ret
        exact fun htk' => ret _ _ (Fr.keep (by assumption)) htk'
      · refine TurnEnd.intro [] (by assumption) (by assumption) (fun p hp => hp) rfl ⟨rfl, ?_, ⟨te, ?_⟩, _, _, rfl, ?_⟩
        · exact hgot
        · exact hend
        · rw [← hgo, hat, if_neg (by omega)]
    case done =>
      rintro m' news' h' tk' ⟨rfl, hgot, ⟨te, hend⟩, st, ts, hst, hgo⟩ _ htk F₁ N₁
      have e : ellGo got (List.drop 5 [Str.ofString "", x, y, z, Str.ofString ""]) st = true := rfl
      have hgo' : true = ellGo got [Str.ofString "", x, y, z, Str.ofString ""] 0 := e.symm.trans hgo
      rw [← hgo'] at ret
      k_steps
      exact ret _ _ (Fr.keep F₁) (by assumption)
end
end Mine
end

section
open PySem PySem.W PySem.Calls PyProof.Rows
set_option Elab.async false
set_option maxRecDepth 100000
set_option maxHeartbeats 8000000
namespace Mine
def saidOf (got : Str) (p r : Nat) : List Bool := ([97, 98, 99, 100].filter fun c => decide ([c] < [p])).map fun c => ellGo got [Str.ofString "", ⟨#[c]⟩, ⟨#[r]⟩, ⟨#[p]⟩, Str.ofString ""] 0
def pairsL : List (Nat × Nat) := [(98, 99), (98, 100), (99, 100)]
def turnedN (got : Str) (k : Nat) : Nat := ((pairsL.take k).filter fun pr => (saidOf got pr.1 pr.2).any id).length
def wantOf (c p r : Nat) : Str := Str.ofString "..." ++ ⟨#[c]⟩ ++ Str.ofString "..." ++ Txt.item ⟨#[p, r]⟩ 1 ++ Str.ofString "..." ++ Txt.item ⟨#[p, r]⟩ 0 ++ Str.ofString "..."
theorem want_ok : ∀ c ∈ [97, 98, 99, 100], ∀ pr ∈ pairsL, (wantOf c pr.1 pr.2).length ≤ 100 ∧ (Builtin.Str.occurrences (wantOf c pr.1 pr.2) (Str.ofString "...") 0 (wantOf c pr.1 pr.2).length 1).isEmpty = false ∧
    Txt.split (wantOf c pr.1 pr.2) (Str.ofString "...") = [Str.ofString "", ⟨#[c]⟩, ⟨#[pr.2]⟩, ⟨#[pr.1]⟩, Str.ofString ""] := by decide +kernel
theorem short4 (j : Nat) (f g : Nat → Bool) : ((((([97, 98, 99, 100] : List Nat).take j).filter f).map g).map Value.bool).toArray.size ≤ 1000 := by
  rw [List.size_toArray, List.length_map, List.length_map]
  exact Nat.le_trans (List.length_filter_le _ _) (Nat.le_trans (List.length_take_le' ..) (by decide))
theorem said_step (got : Str) (p r j c : Nat) (h : [97, 98, 99, 100][j]? = some c) :
    (([97, 98, 99, 100].take (j + 1)).filter fun c => decide ([c] < [p])).map (fun c => ellGo got [Str.ofString "", ⟨#[c]⟩, ⟨#[r]⟩, ⟨#[p]⟩, Str.ofString ""] 0)
      = (([97, 98, 99, 100].take j).filter fun c => decide ([c] < [p])).map (fun c => ellGo got [Str.ofString "", ⟨#[c]⟩, ⟨#[r]⟩, ⟨#[p]⟩, Str.ofString ""] 0) ++ (if [c] < [p] then [ellGo got [Str.ofString "", ⟨#[c]⟩, ⟨#[r]⟩, ⟨#[p]⟩, Str.ofString ""] 0] else []) := by
  rw [List.take_add_one, h, List.filter_append, List.map_append]
  by_cases hc : [c] < [p]
  · rw [if_pos hc]; simp [hc]
  · rw [if_neg hc]; simp [hc]
theorem turned_step (got : Str) (i p r : Nat) (h : pairsL[i]? = some (p, r)) : turnedN got (i + 1) = turnedN got i + (if (saidOf got p r).any id = true then 1 else 0) := by
  unfold turnedN
  rw [List.take_add_one, h, List.filter_append, List.length_append]
  cases q : (saidOf got p r).any id <;> simp [q]
section
variable {w : World} {A : Around} {s : Shared} {Q E : Value → Shared → Prop} {mean : ExcName → Option Value} {mg mb : Str → Option Value}
theorem lines_off4 : True := by
  w_top off
  trivial
local macro_rules | `(tactic| walk_at "execs cons") => `(tactic| (refine wpAny_execs_cons ?_; (try dsimp only)))
local macro_rules | `(tactic| walk_at "execs nil") => `(tactic| (refine wpAny_execs_nil ?_; (try dsimp only)))
local macro_rules | `(tactic| walk_at "exec For Name List cons nil") => `(tactic| refine Halt.out ?_)
local macro_rules | `(tactic| walk_at "pyIter ref") => `(tactic| refine Halt.out ?_)
local macro_rules | `(tactic| walk_at "exec Assign cons ListComp") => `(tactic| refine Halt.out ?_)

local macro_rules | `(tactic| walk_at "eval Name") => `(tactic| (k_dflt (refine' nameL ?k1 ?k2 ?_ ?k4 ?k5 ?k6; (case k4 => exact rfl); (case k5 => exact rfl); (case k6 => decide); (case k1 => k_asm); (case k2 => first | exact rfl | assumption); k_whole)))
local macro_rules | `(tactic| walk_at "eval Name") => `(tactic| (k_dflt (refine' nameCK ?k1 ?k2 ?k3 ?_ ?k4 ?k5 ?k6; (case k4 => exact rfl); (case k5 => exact rfl); (case k6 => decide); (case k3 => exact rfl); (case k1 => with_reducible assumption); (case k2 => with_reducible assumption); k_whole)))
local macro_rules | `(tactic| walk_at "eval Name") => `(tactic| (k_dflt (refine' nameG ?k1 ?k2 ?k3 ?e ?_ ?k4 ?k5 ?k6 ?k7; (case k5 => exact rfl); (case k6 => exact rfl); (case k7 => decide); (case k4 => exact rfl); (case k1 => k_asm); (case k2 => k_asm); (case k3 => k_asm); (case e => k_is); k_whole)))
local macro_rules | `(tactic| walk_at "call ref") => `(tactic| refine Halt.out ?_)
theorem turned_ok (hh : A.handled = none) (hA : A.depth + 1 < recursionLimit) (X : (hd.heap_39 w.params).In s.heap) (T : Top hd.view_39 (looseW hd.view_39 []) mean mg mb s.heap)
    (got : Str) (u : Tok) (hg : got.length ≤ 100)
    (ret : ∀ t h' tk', Keep s.heap h' → s.toks ≤ tk' → Q (.int (turnedN got 3) t) { s with heap := h', toks := tk' }) :
    wpAny (model PySem.Challenge.rw_ux0011_01.row.prog w) A (call (.ref 108) [.str got u]) Q E s := by
  obtain ⟨_, dp, fr, gd, un⟩ := A
  dsimp only at hh hA
  subst hh
  revert X; k_fill; intro X
  refine wpAny_with_toks (Nat.le_refl s.toks) ?_
  refine wpAny_call ?_
  refine' enterC (binds := [(Str.ofString "order", .str got u)]) ?kX ?klim ?k6 ?k7 ?k8 ?k9 ?kB ?kD ?kbody ?c2 ?c3 ?c4
  (case kX => assumption); (case klim => exact TopRead.nolimit (by k_asm)); (case k6 => k_is); (case k7 => k_is); (case k8 => first | assumption | (dsimp only; omega)); (case k9 => exact rfl); (case kB => exact fun n => by intro x hx; rw [List.mem_singleton.mp hx]; exact Or.inr ⟨rfl, rfl⟩); (case kD => decide); (case c2 => exact rfl); (case c3 => exact rfl); (case c4 => exact rfl)
  intro L h₁ tk cells hL htk F N Y
  obtain ⟨oa, ob, rfl, da, db⟩ := CellsAre.two Y
  clear Y
  replace da : oa.data = .cell none := da.trans (by with_unfolding_all rfl)
  replace db : ob.data = .cell (some (.str got u)) := db.trans (by with_unfolding_all rfl)
  k_steps
  refine Halt.of (wpAny_For ?_)
  k_steps
  (with_reducible rename Fr _ _ _ _ => F2)
  (with_reducible rename News _ _ _ _ => N2)
  have hl := News.isList N2 (List.Mem.head _)
  have N3 : News s.heap L _ [(L + 1 + 1, oa), (L + 1, ob)] := fun p hp => N2 p (List.Mem.tail _ hp)
  refine Halt.of ?_
  refine for_of (env := envOfC _ _ _ _ _) (makes_list rfl hl) ?ban F2 N3 (fun i m' news' => ∃ tt op vv, m' (Str.ofString "turned") = some (.int (turnedN got i) tt) ∧ news' = [(L + 1 + 1, op), (L + 1, ob)] ∧ op.data = .cell vv) ⟨_, _, _, rfl, rfl, da⟩ ?step ?done
  case ban =>
    intro b hb q
    rw [List.mem_singleton.mp hb] at q
    have hlt : L + 1 + 1 < _ ∧ L + 1 < _ := (by assumption)
    rcases List.mem_cons.mp q with q | q
    · exact Nat.lt_irrefl L (Nat.lt_of_lt_of_eq (Nat.lt_of_succ_lt hlt.2) q)
    · rcases List.mem_cons.mp q with q | q
      · exact Nat.lt_irrefl _ (Nat.lt_of_lt_of_eq hlt.1 q)
      · exact Nat.lt_irrefl _ (Nat.lt_of_lt_of_eq hlt.2 (List.mem_singleton.mp q))
  case step =>
    rintro E i v m₁ news₁ own h₂ tk₁ hi hc htk ⟨tt, op, vv, hturned, rfl, hop⟩ hmap hoff F₁ N₁
    obtain ⟨p, r, tv, rfl, hpr⟩ : ∃ p r tv, v = .str ⟨#[p, r]⟩ tv ∧ pairsL[i]? = some (p, r) := by
      rcases i with _ | _ | _ | i
      · cases hc; exact ⟨98, 99, _, congrArg (Value.str · _) (by decide), rfl⟩
      · cases hc; exact ⟨98, 100, _, congrArg (Value.str · _) (by decide), rfl⟩
      · cases hc; exact ⟨99, 100, _, congrArg (Value.str · _) (by decide), rfl⟩
      · simp at hc
    clear hc
    k_steps
    (with_reducible rename Fr _ _ _ _ => F4)
    (with_reducible rename News _ _ _ _ => N4)
    rename_i o2 d2
    refine' Halt.of (comp_assign (h₀ := s.heap) (m := m₁) (news := (L + 1 + 1, o2) :: [(L + 1, ob)].append own) ?hsw ?hclos rfl ?hnames ?hcell ?hs rfl rfl ?h)
    case hsw => with_unfolding_all rfl
    case hclos => with_unfolding_all rfl
    case hnames => decide
    case hcell => decide
    case hs => intro _; rfl
    case h =>
      walk1
      have hcp := (N4 (L + 1 + 1, o2) (List.Mem.head _)).1
      have hco := (N4 (L + 1, ob) (List.Mem.tail _ (List.Mem.head _))).1
      refine ⟨F4, N4, [], 4, _, makes_str rfl, fun b hb => (List.not_mem_nil hb).elim, ?_⟩
      intro I D C h eI eD eC FC NC hI
      dsimp only at eI eD eC FC NC hI ⊢
      obtain ⟨St, WI, hst⟩ := hI [C, D] (fun b hb => by
        rcases List.mem_cons.mp hb with q | q
        · rw [q, eC, eD]; exact Nat.le_succ _
        · rw [List.mem_singleton.mp q]; exact Nat.le_refl _)
      have XC := Frag.In.keeps X (Fr.keep F4)
      have TC := Top.keeps T (Fr.keep F4)
      have cellp : Heap.IsCell _ (L + 1 + 1) (some (.str ⟨#[p, r]⟩ tv)) := ⟨_, hcp, d2⟩
      have cello : Heap.IsCell _ (L + 1) (some (.str got u)) := ⟨_, hco, db⟩
      refine comp_loop1 (env := cenvOf _ _ C _) (as := [D]) WI hst FC NC rfl (fun i m' news' => ∃ nn, news' = [(D, W.listOf (((([97, 98, 99, 100].take i).filter fun c => decide ([c] < [p])).map fun c => ellGo got [Str.ofString "", ⟨#[c]⟩, ⟨#[r]⟩, ⟨#[p]⟩, Str.ofString ""] 0).map Value.bool).toArray nn)]) ⟨_, rfl⟩ ?stepc ?donec
      case stepc =>
        rintro E' j _ m₂ news₂ own₂ h₃ tk₃ hj ⟨c, u', hc', rfl, hu1, hu2⟩ ⟨nn, rfl⟩ hmap' hoff' htk' F₂ N₂
        have hc4 : [97, 98, 99, 100][j]? = some c := by
          rw [← hc']
          rcases j with _ | _ | _ | _ | j
          all_goals first | rfl | omega
        refine storeL F₂ N₂ ?_ rfl rfl
        intro h₄ F₅ N₅
        dsimp only at F₅ N₅ hmap' hoff' htk' F₂ N₂ ⊢
        refine wpAny_tests_one ?_
        trace_state
        (try dsimp only)
        k_steps
        refine Halt.of (lt_ss (by exact hA) (Frag.In.keeps XC (Fr.keep F₅)) (Top.keeps TC (Fr.keep F₅)) _ _ _ _ ?_)
        intro _ h₆ tk₆ k₆ t₆
        have F₆ := Fr.keeps F₅ k₆
        have N₆ := News.grown N₅ k₆
        dsimp only at t₆ ⊢
        k_steps
        · obtain ⟨w1, w2, w3⟩ := want_ok c (List.mem_of_getElem? hc4) (p, r) (List.mem_of_getElem? hpr)
          refine Halt.of (ell_ok rfl (by exact hA) (Frag.In.keeps XC (Fr.keep F₆)) (Top.keeps TC (Fr.keep F₆)) (wantOf c p r) got ⟨#[c]⟩ ⟨#[r]⟩ ⟨#[p]⟩ _ _ (show (1 : Nat) ≤ 100 by decide) (show (1 : Nat) ≤ 100 by decide) (show (1 : Nat) ≤ 100 by decide) w1 hg w2 w3 ?_)
          intro h₇ tk₇ k₇ t₇
          have F₇ := Fr.keeps F₆ k₇
          have N₇ := News.grown N₆ k₇
          dsimp only at t₇ ⊢
          refine appendTo F₇ N₇ (OwnOff.ne hoff' (List.Mem.head _)) (short4 _ _ _) ?_
          intro h₈ F₈ N₈
          refine TurnEnd.intro [(D, _)] F₈ N₈ (fun p hp => hp) rfl ⟨nn + 1, ?_⟩
          rw [said_step _ _ _ _ _ hc4, if_pos (by assumption)]
          simp
        · refine TurnEnd.intro [(D, _)] (by assumption) (by assumption) (fun p hp => hp) rfl ⟨nn, ?_⟩
          rw [said_step _ _ _ _ _ hc4, if_neg (by assumption), List.append_nil]
      case donec =>
        rintro m' news' h' tk' ⟨nn, rfl⟩ hmap' htk' FC' NC'
        dsimp only at FC' NC' htk' ⊢
        refine ⟨m', _, _, rfl, FC', _, nn, (NC' (D, _) (List.Mem.head _)).1, ?_⟩
        intro hh tk₈ F₈ N₈ hlt₈ t₈
        dsimp only at F₈ N₈ ⊢
        k_steps
        refine Halt.of (contains_b (by exact hA) (Frag.In.keeps X (Fr.keep F₈)) (Top.keeps T (Fr.keep F₈)) D (saidOf got p r) (News.isList N₈ (List.Mem.head _)) ?_)
        intro _ h₉ tk₉ k₉ t₉
        have F₉ := Fr.keeps F₈ k₉
        have N₉ := News.grown N₈ k₉
        dsimp only at t₉ ⊢
        k_steps
        · refine Halt.of (add_ii (by exact hA) (Frag.In.keeps X (Fr.keep F₉)) (Top.keeps T (Fr.keep F₉)) _ _ _ _ ?_)
          intro t h₁₀ tk₁₀ k₁₀ t₁₀
          have F₁₀ := Fr.keeps F₉ k₁₀
          have N₁₀ := News.grown N₉ k₁₀
          dsimp only at t₁₀ ⊢
          k_steps
          refine TurnEnd.intro [(L + 1 + 1, o2), (L + 1, ob)] (by assumption) (by assumption) (fun p hp => List.Mem.tail _ hp) rfl ⟨t, o2, _, ?_, rfl, d2⟩
          show some (Value.int ((turnedN got i : Nat) + 1) t) = _
          rw [turned_step got i p r hpr, if_pos (by assumption)]
          rfl
        · refine TurnEnd.intro [(L + 1 + 1, o2), (L + 1, ob)] (by assumption) (by assumption) (fun p hp => List.Mem.tail _ hp) rfl ⟨tt, o2, _, ?_, rfl, d2⟩
          show m₁ (Str.ofString "turned") = _
          rw [turned_step got i p r hpr, if_neg (Bool.eq_false_iff.mp (by assumption))]
          exact hturned
  case done =>
    rintro m' news' h' tk' ⟨tt, op, vv, hturned, rfl, hop⟩ _ htk F₁ N₁
    k_steps
    exact ret _ _ _ (Fr.keep F₁) (by assumption)
end
end Mine
end

section
open PySem PySem.W PySem.Calls PyProof.Rows PySem.Builtin.Int
set_option Elab.async false
set_option maxRecDepth 100000
set_option maxHeartbeats 8000000
namespace Mine
def factorN (q : Int) : Nat → Int
  | 0 => 0
  | n + 1 => factorN q n * q + 1
def prodStep (l : List Nat) (q : Int) (st : Int × Nat) (place : Nat) : Int × Nat :=
  if l[place]? = some 41 then (if place = 0 ∨ l[place - 1]? = some 41 then (st.1 * factorN q (cntL (l.take place) ⟨#[40]⟩ - st.2), st.2 + 1) else (st.1, st.2 + 1)) else st
def prodN (l : List Nat) (q : Int) (k : Nat) : Int × Nat := (List.range k).foldl (prodStep l q) (1, 0)
theorem prodN_succ (l : List Nat) (q : Int) (k : Nat) : prodN l q (k + 1) = prodStep l q (prodN l q k) k := by
  unfold prodN; rw [List.range_succ, List.foldl_append]; rfl
theorem factor_bits {q : Int} (hq : Builtin.Int.intBits q ≤ 64) : ∀ n, Builtin.Int.intBits (factorN q n) ≤ 66 * n + 1
  | 0 => by show Builtin.Int.intBits 0 ≤ _; have : Builtin.Int.intBits 0 ≤ 1 := by decide
            omega
  | n + 1 => by
    have h1 := intBits_add_le (intBits_mul_le (factor_bits hq n) hq) (show Builtin.Int.intBits 1 ≤ 1 by decide)
    show Builtin.Int.intBits (factorN q n * q + 1) ≤ _
    omega
theorem cnt_le (l : List Nat) (y : Str) : cntL l y ≤ l.length := List.length_filter_le _ _
section
variable {w : World} {A : Around} {s : Shared} {Q E : Value → Shared → Prop} {mean : ExcName → Option Value} {mg mb : Str → Option Value}
theorem lines_off5 : True := by
  w_top off
  trivial
local macro_rules | `(tactic| walk_at "execs cons") => `(tactic| (refine wpAny_execs_cons ?_; (try dsimp only)))
local macro_rules | `(tactic| walk_at "execs nil") => `(tactic| (refine wpAny_execs_nil ?_; (try dsimp only)))
local macro_rules | `(tactic| walk_at "exec For Name Call cons nil") => `(tactic| refine Halt.out ?_)
local macro_rules | `(tactic| walk_at "pyIter ref") => `(tactic| refine Halt.out ?_)
local macro_rules | `(tactic| walk_at "call ref") => `(tactic| refine Halt.out ?_)
local macro_rules | `(tactic| walk_at "eval Name") => `(tactic| (k_dflt (refine' ld ?k1 ?k2 ?_; (case k1 => k_asm); (case k2 => first | exact rfl | assumption); k_whole)))

local macro_rules | `(tactic| walk_at "subscriptTail Name Slice str ref") => `(tactic| ((with_reducible rename Fr _ _ _ _ => F'); (with_reducible rename News _ _ _ _ => N'); (refine slT_ns (T₀ := 1) (s := ⟨_, _, _, _, _⟩) ?ht F' N' ?_ (hsz := ?hsz)); (case ht => (dsimp only; omega)); (case hsz => size_fits); intro _ _ _ _ _ _ _))

theorem product_ok (hh : A.handled = none) (hA : A.depth + 1 < recursionLimit) (X : (hd.heap_39 w.params).In s.heap) (T : Top hd.view_39 (looseW hd.view_39 []) mean mg mb s.heap)
    (row : Str) (q : Int) (u v : Tok) (hrow : row.cps.toList.length = 8) (hq : Builtin.Int.intBits q ≤ 64) (ht : 1 ≤ s.toks)
    (ret : ∀ t h' tk', Keep s.heap h' → s.toks ≤ tk' → Q (.int (prodN row.cps.toList q 8).1 t) { s with heap := h', toks := tk' }) :
    wpAny (model PySem.Challenge.rw_ux0011_01.row.prog w) A (call (.ref 115) [.str row u, .int q v]) Q E s := by
  obtain ⟨_, dp, fr, gd, un⟩ := A
  dsimp only at hh hA
  subst hh
  revert X; k_fill; intro X
  refine wpAny_with_toks (Nat.le_refl s.toks) ?_
  refine wpAny_call ?_
  refine' enterK (binds := [(Str.ofString "row", .str row u), (Str.ofString "q", .int q v)]) ?kX ?klim ?k6 ?k7 ?k8 ?k9 ?kB ?kbody ?c2 ?c3 ?c4 ?c5
  (case kX => assumption); (case klim => exact TopRead.nolimit (by k_asm)); (case k6 => k_is); (case k7 => k_is); (case k8 => first | assumption | (dsimp only; omega)); (case k9 => exact BindsTo.of_eq rfl); (case c5 => decide); (case kB => exact locs rfl); (case c2 => exact rfl); (case c3 => exact rfl); (case c4 => exact rfl)
  intro L h₁ hL F N
  k_steps
  refine Halt.of (wpAny_For (wpAny_with_toks (n := 1) (by dsimp only; omega) ?_))
  k_steps
  (with_reducible rename Fr _ _ _ _ => F2)
  (with_reducible rename News _ _ _ _ => N2)
  (with_reducible rename IsRange _ _ _ _ _ _ _ _ => R2)
  rename_i htk2
  refine Halt.of (for_of (env := envOf _ _ _ _ _) (makes_range (n := 8) rfl R2 (by decide) (by decide)) (fun b hb => (List.not_mem_nil hb).elim) F2 N2
    (fun k m' news' => news' = [] ∧ m' (Str.ofString "row") = some (.str row u) ∧ m' (Str.ofString "q") = some (.int q v) ∧ (prodN row.cps.toList q k).2 ≤ k ∧ Builtin.Int.intBits (prodN row.cps.toList q k).1 ≤ 1000 * k + 1 ∧
      ∃ tp tc, m' (Str.ofString "product") = some (.int (prodN row.cps.toList q k).1 tp) ∧ m' (Str.ofString "closed") = some (.int (prodN row.cps.toList q k).2 tc))
    ⟨rfl, rfl, rfl, Nat.zero_le _, by show Builtin.Int.intBits 1 ≤ 1; decide, _, _, rfl, rfl⟩ ?step ?done)
  case step =>
    rintro E k _ m₁ news₁ own h₂ tk₁ hk ⟨t, rfl⟩ htk ⟨rfl, hr1, hq1, hc1, hb1, tp, tc, hp, hc⟩ hmap hoff F₁ N₁
    dsimp only at htk
    rw [Int.zero_add]
    have hlen : row.length = 8 := by rw [← hrow]; simp [Str.length]
    have e1 : (Txt.item row (k : Int) == Str.ofString ")") = decide (row.cps.toList[k]? = some 41) := item_beq row (by omega) 41
    have e2 : k ≠ 0 → (Txt.item row ((k : Int) - 1) == Str.ofString ")") = decide (row.cps.toList[k - 1]? = some 41) := fun h0 => by
      have e : ((k : Int) - 1) = ((k - 1 : Nat) : Int) := by omega
      rw [e]; exact item_beq row (by omega) 41
    k_steps
    iterate 2 focus
      have h41 : row.cps.toList[k]? = some 41 := of_decide_eq_true (e1.symm.trans (by assumption))
      have hor : k = 0 ∨ row.cps.toList[k - 1]? = some 41 := by
        first
          | exact Or.inl (by omega)
          | exact Or.inr (of_decide_eq_true ((e2 (by omega)).symm.trans (by assumption)))
      refine Halt.of (wpAny_For (wpAny_with_toks (n := 1) (by dsimp only; omega) ?_))
      k_steps
      (with_reducible rename Fr _ _ _ _ => F3)
      (with_reducible rename News _ _ _ _ => N3)
      refine Halt.of (countOf_ss rfl (by exact hA) (Frag.In.keeps X (Fr.keep F3)) (Top.keeps T (Fr.keep F3)) _ _ _ _ (by omega) (by dsimp only; omega) ?_)
      intro t4 h4 tk4 k4 le4
      have F4 := Fr.keeps F3 k4
      have N4 := News.grown N3 k4
      dsimp only at le4 ⊢
      k_steps
      refine Halt.of (sub_ii (by exact hA) (Frag.In.keeps X (Fr.keep F4)) (Top.keeps T (Fr.keep F4)) _ _ _ _ ?_)
      intro t5 h5 tk5 k5 le5
      have F5 := Fr.keeps F4 k5
      have N5 := News.grown N4 k5
      dsimp only at le5 ⊢
      k_steps
      (with_reducible rename Fr _ _ _ _ => F6)
      (with_reducible rename News _ _ _ _ => N6)
      (with_reducible rename IsRange _ _ _ _ _ _ _ _ => R6)
      dsimp only at F6
      have esl : Txt.slice row none (some (k : Int)) = ⟨(row.cps.toList.take k).toArray⟩ := slice_to row (by omega)
      rw [esl] at R6
      have hcn : cntL (row.cps.toList.take k) ⟨#[40]⟩ ≤ 8 := Nat.le_trans (cnt_le _ _) (by rw [List.length_take]; omega)
      have hrng := @rng_ok ((cntL (row.cps.toList.take k) ⟨#[40]⟩ : Int) - ((prodN row.cps.toList q k).2 : Int)) (by omega) (by omega)
      have hn : ((cntL (row.cps.toList.take k) ⟨#[40]⟩ : Int) - ((prodN row.cps.toList q k).2 : Int)).toNat = cntL (row.cps.toList.take k) ⟨#[40]⟩ - (prodN row.cps.toList q k).2 := by omega
      rw [hn] at hrng
      have hst := prodN_succ row.cps.toList q k
      rw [prodStep, if_pos h41, if_pos hor] at hst
      have hfb := factor_bits hq (cntL (row.cps.toList.take k) ⟨#[40]⟩ - (prodN row.cps.toList q k).2)
      have hnn : cntL (row.cps.toList.take k) ⟨#[40]⟩ - (prodN row.cps.toList q k).2 ≤ 8 := by omega
      generalize cntL (row.cps.toList.take k) ⟨#[40]⟩ - (prodN row.cps.toList q k).2 = nn at *
      refine Halt.of (for_of (env := envOf _ _ _ _ _) (news := own) (makes_range (n := nn) rfl R6 hrng.1 hrng.2) (fun b hb => (List.not_mem_nil hb).elim) F6 N6
        (fun j m' news' => news' = own ∧ m' (Str.ofString "row") = some (.str row u) ∧ m' (Str.ofString "q") = some (.int q v) ∧
          ∃ tp tc tf, m' (Str.ofString "product") = some (.int (prodN row.cps.toList q k).1 tp) ∧ m' (Str.ofString "closed") = some (.int (prodN row.cps.toList q k).2 tc) ∧ m' (Str.ofString "factor") = some (.int (factorN q j) tf))
        ⟨rfl, hr1, hq1, tp, tc, _, hp, hc, rfl⟩ ?istep ?idone)
      case istep =>
        rintro E j _ m₂ news₂ own₂ h₇ tk₇ hj ⟨tj, rfl⟩ htk7 ⟨rfl, hr2, hq2, tp2, tc2, tf2, hp2, hc2, hf2⟩ hmap2 hoff2 F₇ N₇
        dsimp only at htk7
        k_steps
        (with_reducible rename Fr _ _ _ _ => F8)
        (with_reducible rename News _ _ _ _ => N8)
        refine Halt.of (mul_ii (by exact hA) (Frag.In.keeps X (Fr.keep F8)) (Top.keeps T (Fr.keep F8)) _ _ _ _ (IntMulOk.of_right hq) ?_)
        intro t9 h9 tk9 k9 le9
        have F9 := Fr.keeps F8 k9
        have N9 := News.grown N8 k9
        dsimp only at le9 ⊢
        k_steps
        refine Halt.of (add_ii (by exact hA) (Frag.In.keeps X (Fr.keep F9)) (Top.keeps T (Fr.keep F9)) _ _ _ _ ?_)
        intro t10 h10 tk10 k10 le10
        have F10 := Fr.keeps F9 k10
        have N10 := News.grown N9 k10
        dsimp only at le10 ⊢
        k_steps
        refine TurnEnd.intro news₂ (by assumption) (by assumption) (fun p hp => hp) rfl ⟨rfl, ?_, ?_, tp2, tc2, _, ?_, ?_, rfl⟩
        · exact hr2
        · exact hq2
        · exact hp2
        · exact hc2
      case idone =>
        rintro m₂ news₂ h₇ tk₇ ⟨rfl, hr2, hq2, tp2, tc2, tf2, hp2, hc2, hf2⟩ hmap2 htk7 F₇ N₇
        dsimp only at htk7
        k_steps
        refine Halt.of (mul_ii (by exact hA) (Frag.In.keeps X (Fr.keep F₇)) (Top.keeps T (Fr.keep F₇)) _ _ _ _ (IntMulOk.of_le hb1 hfb (by omega)) ?_)
        intro t9 h9 tk9 k9 le9
        have F9 := Fr.keeps F₇ k9
        have N9 := News.grown N₇ k9
        dsimp only at le9 ⊢
        k_steps
        have hb9 := intBits_mul_le hb1 hfb
        refine TurnEnd.intro [] (by assumption) (by assumption) (fun p hp => hp) rfl ⟨rfl, ?_, ?_, by rw [hst]; dsimp only; omega, by rw [hst]; dsimp only; omega, ?_⟩
        · exact hr2
        · exact hq2
        · rw [hst]; exact ⟨_, _, rfl, rfl⟩
    · have h41 : row.cps.toList[k]? = some 41 := of_decide_eq_true (e1.symm.trans (by assumption))
      have hor : ¬ (k = 0 ∨ row.cps.toList[k - 1]? = some 41) := fun h => h.elim (fun h => by omega) (fun h => of_decide_eq_false ((e2 (by omega)).symm.trans (by assumption)) h)
      have hst := prodN_succ row.cps.toList q k
      rw [prodStep, if_pos h41, if_neg hor] at hst
      refine TurnEnd.intro [] (by assumption) (by assumption) (fun p hp => hp) rfl ⟨rfl, ?_, ?_, by rw [hst]; dsimp only; omega, by rw [hst]; dsimp only; omega, ?_⟩
      · exact hr1
      · exact hq1
      · rw [hst]; exact ⟨tp, _, hp, rfl⟩
    · have h41 : ¬ (row.cps.toList[k]? = some 41) := of_decide_eq_false (e1.symm.trans (by assumption))
      have hst := prodN_succ row.cps.toList q k
      rw [prodStep, if_neg h41] at hst
      refine TurnEnd.intro [] (by assumption) (by assumption) (fun p hp => hp) rfl ⟨rfl, ?_, ?_, by rw [hst]; omega, by rw [hst]; omega, ?_⟩
      · exact hr1
      · exact hq1
      · rw [hst]; exact ⟨tp, tc, hp, hc⟩
  case done =>
    rintro m' news' h' tk' ⟨rfl, hr1, hq1, hc1, hb1, tp, tc, hp, hc⟩ _ htk F₁ N₁
    k_steps
    exact ret _ _ _ (Fr.keep F₁) (by assumption)
end
end Mine
end

section
open PySem PySem.W PySem.Calls PyProof.Rows
set_option Elab.async false
set_option maxRecDepth 100000
set_option maxHeartbeats 8000000
namespace Mine
def insRow (row : Str) (p : Int) : Str := Txt.slice row none (some p) ++ Str.ofString "(" ++ Txt.slice row (some p) none
def rowGo (ns : List Int) : Nat → Str
  | 0 => Str.ofString ")))"
  | k + 1 => insRow (rowGo ns k) ((ns.getD k 0).fmod ((rowGo ns k).length + 1))
def rowOf (ns : List Int) : Str := if (ns.getD 3 0).fmod 4 = 3 then Str.ofString ")" ++ rowGo ns 3 ++ Str.ofString "(" else Str.ofString "(" ++ rowGo ns 3 ++ Str.ofString ")"
theorem str_app_len (x y : Str) : (x ++ y).length = x.length + y.length := strLen_append x y
theorem insRow_at (row : Str) {a : Nat} (h : a ≤ row.length) : insRow row (a : Int) = ⟨(row.cps.toList.take a ++ [40] ++ row.cps.toList.drop a).toArray⟩ := by
  unfold insRow
  rw [slice_to row h, slice_from row h]
  show (⟨((row.cps.toList.take a).toArray ++ #[40]) ++ (row.cps.toList.drop a).toArray⟩ : Str) = _
  simp
theorem insRow_len (row : Str) (x : Int) : (insRow row (x.fmod (row.length + 1))).length = row.length + 1 := by
  have h0 : (0 : Int) < row.length + 1 := by omega
  have h1 := Int.fmod_nonneg_of_pos x h0
  have h2 := Int.fmod_lt_of_pos x h0
  have e : x.fmod (row.length + 1) = ((x.fmod (row.length + 1)).toNat : Int) := by omega
  have h3 : (x.fmod (row.length + 1)).toNat ≤ row.length := by omega
  rw [e, insRow_at row h3]
  simp only [Str.length, List.size_toArray, List.length_append, List.length_take, List.length_drop, List.length_cons, List.length_nil, Array.length_toList]
  simp only [Str.length] at h3
  omega
theorem rowGo_len (ns : List Int) : ∀ k, (rowGo ns k).length = 3 + k
  | 0 => rfl
  | k + 1 => by show (insRow _ _).length = _; rw [insRow_len, rowGo_len ns k]; omega
section
variable {w : World} {A : Around} {s : Shared} {Q E : Value → Shared → Prop} {mean : ExcName → Option Value} {mg mb : Str → Option Value}
theorem lines_off6 : True := by
  w_top off
  trivial
local macro_rules | `(tactic| walk_at "execs cons") => `(tactic| (refine wpAny_execs_cons ?_; (try dsimp only)))
local macro_rules | `(tactic| walk_at "execs nil") => `(tactic| (refine wpAny_execs_nil ?_; (try dsimp only)))
local macro_rules | `(tactic| walk_at "exec For Name Call cons nil") => `(tactic| refine Halt.out ?_)
local macro_rules | `(tactic| walk_at "pyIter ref") => `(tactic| refine Halt.out ?_)
local macro_rules | `(tactic| walk_at "call ref") => `(tactic| refine Halt.out ?_)
local macro_rules | `(tactic| walk_at "eval Name") => `(tactic| (k_dflt (refine' ld ?k1 ?k2 ?_; (case k1 => k_asm); (case k2 => first | exact rfl | assumption); k_whole)))

theorem row_ok (hh : A.handled = none) (hA : A.depth < recursionLimit) (X : (hd.heap_39 w.params).In s.heap) (T : Top hd.view_39 (looseW hd.view_39 []) mean mg mb s.heap)
    (l : Addr) (ns : List Int) (vals : List Value) (hi : IntsAre vals ns) (hl : s.heap.IsList l vals.toArray) (hns : ns.length = 13)
    (ret : ∀ t h' tk', Keep s.heap h' → s.toks ≤ tk' → Q (.str (rowOf ns) t) { s with heap := h', toks := tk' }) :
    wpAny (model PySem.Challenge.rw_ux0011_01.row.prog w) A (call (.ref 91) [.ref l]) Q E s := by
  obtain ⟨_, dp, fr, gd, un⟩ := A
  dsimp only at hh hA
  subst hh
  revert X; k_fill; intro X
  refine wpAny_with_toks (Nat.le_refl s.toks) ?_
  refine wpAny_call ?_
  refine' enterK (binds := [(Str.ofString "numbers", .ref l)]) ?kX ?klim ?k6 ?k7 ?k8 ?k9 ?kB ?kbody ?c2 ?c3 ?c4 ?c5
  (case kX => assumption); (case klim => exact TopRead.nolimit (by k_asm)); (case k6 => k_is); (case k7 => k_is); (case k8 => first | assumption | (dsimp only; omega)); (case k9 => exact BindsTo.of_eq rfl); (case c5 => decide); (case kB => exact locs rfl); (case c2 => exact rfl); (case c3 => exact rfl); (case c4 => exact rfl)
  intro L h₁ hL F N
  have hl1 := hl.at (fun o e => Fr.keep F _ o e)
  k_steps
  refine Halt.of (wpAny_For ?_)
  k_steps
  (with_reducible rename Fr _ _ _ _ => F2)
  (with_reducible rename News _ _ _ _ => N2)
  (with_reducible rename IsRange _ _ _ _ _ _ _ _ => R2)
  refine Halt.of (for_of (env := envOf _ _ _ _ _) (makes_range (n := 3) rfl R2 (by decide) (by decide)) (fun b hb => (List.not_mem_nil hb).elim) F2 N2
    (fun k m' news' => news' = [] ∧ m' (Str.ofString "numbers") = some (.ref l) ∧ ∃ tr, m' (Str.ofString "row") = some (.str (rowGo ns k) tr))
    ⟨rfl, rfl, _, rfl⟩ ?step ?done)
  case step =>
    rintro E k _ m₁ news₁ own h₂ tk₁ hk ⟨t, rfl⟩ htk ⟨rfl, hnm, tr, hrow⟩ hmap hoff F₁ N₁
    dsimp only at htk
    rw [Int.zero_add]
    have hl2 := hl.at (fun o e => Fr.keep F₁ _ o e)
    have hlen := rowGo_len ns k
    k_steps
    refine TurnEnd.intro [] (by assumption) (by assumption) (fun p hp => hp) rfl ⟨rfl, ?_, ?_⟩
    · exact hnm
    · exact ⟨_, rfl⟩
  case done =>
    rintro m' news' h' tk' ⟨rfl, hnm, tr, hrow⟩ _ htk F₁ N₁
    have hlen := rowGo_len ns 3
    have hl2 := hl.at (fun o e => Fr.keep F₁ _ o e)
    k_steps
    · have e : rowOf ns = Str.ofString ")" ++ rowGo ns 3 ++ Str.ofString "(" := if_pos (by assumption)
      rw [e] at ret
      exact ret _ _ _ (Fr.keep F₁) (by assumption)
    · have e : rowOf ns = Str.ofString "(" ++ rowGo ns 3 ++ Str.ofString ")" := if_neg (by assumption)
      rw [e] at ret
      exact ret _ _ _ (Fr.keep F₁) (by assumption)
end
end Mine
end

section
open PySem PySem.W PySem.Calls PyProof.Rows
set_option Elab.async false
set_option maxRecDepth 100000
set_option maxHeartbeats 8000000
namespace Mine
def dressStep (ns : List Int) (n : Nat) (text : Str) (k : Nat) (sign : Str) : Str :=
  if (k : Int) = (n : Int) - 1 ∧ ((ns.getD (Int.toNat 3) 0).fdiv 4).fmod 2 = 1 then text ++ Str.ofString "\"" ++ sign
  else if (ns.getD (5 + (k : Int)).toNat 0).fmod 6 = 0 then text ++ sign
  else if (ns.getD (5 + (k : Int)).toNat 0).fmod 6 = 1 then text ++ Str.ofString "\"" ++ sign ++ Str.ofString "\"" ++ sign
  else if (ns.getD (5 + (k : Int)).toNat 0).fmod 6 = 2 then text ++ sign ++ Str.ofString "\\" ++ sign
  else if (ns.getD (5 + (k : Int)).toNat 0).fmod 6 = 3 then text ++ Str.ofString "\\\\" ++ sign
  else if (ns.getD (5 + (k : Int)).toNat 0).fmod 6 = 4 then text ++ Str.ofString "\"\\\")\"" ++ sign
  else text ++ sign ++ Str.ofString "\\\""
def dressGo (ns : List Int) (row : Str) : Nat → Str
  | 0 => Str.ofString ""
  | k + 1 => dressStep ns row.length (dressGo ns row k) k (Txt.item row (k : Int))
theorem str_app_len' (x y : Str) : (x ++ y).length = x.length + y.length := strLen_append x y
theorem dressStep_len (ns : List Int) (n : Nat) (text : Str) (k : Nat) (sign : Str) (h : sign.length = 1) : (dressStep ns n text k sign).length ≤ text.length + 6 := by
  have l1 : (Str.ofString "\"").length = 1 := rfl
  have l2 : (Str.ofString "\\").length = 1 := rfl
  have l3 : (Str.ofString "\\\\").length = 2 := rfl
  have l4 : (Str.ofString "\"\\\")\"").length = 5 := rfl
  have l5 : (Str.ofString "\\\"").length = 2 := rfl
  unfold dressStep
  split
  · simp only [str_app_len', l1, h]; omega
  split
  · simp only [str_app_len', l1, h]; omega
  split
  · simp only [str_app_len', l1, h]; omega
  split
  · simp only [str_app_len', l2, h]; omega
  split
  · simp only [str_app_len', l3, h]; omega
  split
  · simp only [str_app_len', l4, h]; omega
  · simp only [str_app_len', l5, h]; omega
theorem dressGo_len (ns : List Int) (row : Str) : ∀ k, (dressGo ns row k).length ≤ 6 * k
  | 0 => Nat.le_refl _
  | k + 1 => by
    have := dressStep_len ns row.length (dressGo ns row k) k (Txt.item row (k : Int)) rfl
    have := dressGo_len ns row k
    show (dressStep ns row.length (dressGo ns row k) k (Txt.item row (k : Int))).length ≤ _
    omega
section
variable {w : World} {A : Around} {s : Shared} {Q E : Value → Shared → Prop} {mean : ExcName → Option Value} {mg mb : Str → Option Value}
theorem lines_off7 : True := by
  w_top off
  trivial
local macro_rules | `(tactic| walk_at "zz pad") => `(tactic| skip)
local macro_rules | `(tactic| walk_at "execs cons") => `(tactic| (refine wpAny_execs_cons ?_; (try dsimp only)))
local macro_rules | `(tactic| walk_at "execs nil") => `(tactic| (refine wpAny_execs_nil ?_; (try dsimp only)))
local macro_rules | `(tactic| walk_at "exec For Name Call cons nil") => `(tactic| refine Halt.out ?_)
local macro_rules | `(tactic| walk_at "pyIter ref") => `(tactic| refine Halt.out ?_)
local macro_rules | `(tactic| walk_at "call ref") => `(tactic| refine Halt.out ?_)
local macro_rules | `(tactic| walk_at "eval Name") => `(tactic| (k_dflt (refine' ld ?k1 ?k2 ?_; (case k1 => k_asm); (case k2 => first | exact rfl | assumption); k_whole)))

theorem dressed_ok (hh : A.handled = none) (hA : A.depth < recursionLimit) (X : (hd.heap_39 w.params).In s.heap) (T : Top hd.view_39 (looseW hd.view_39 []) mean mg mb s.heap)
    (l : Addr) (ns : List Int) (vals : List Value) (row : Str) (u : Tok) (hrl : row.length ≤ 8) (hi : IntsAre vals ns) (hl : s.heap.IsList l vals.toArray) (hns : ns.length = 13)
    (ret : ∀ t h' tk', Keep s.heap h' → s.toks ≤ tk' → Q (.str (dressGo ns row row.length) t) { s with heap := h', toks := tk' }) :
    wpAny (model PySem.Challenge.rw_ux0011_01.row.prog w) A (call (.ref 98) [.str row u, .ref l]) Q E s := by
  obtain ⟨_, dp, fr, gd, un⟩ := A
  dsimp only at hh hA
  subst hh
  revert X; k_fill; intro X
  refine wpAny_with_toks (Nat.le_refl s.toks) ?_
  refine wpAny_call ?_
  refine' enterK (binds := [(Str.ofString "row", .str row u), (Str.ofString "numbers", .ref l)]) ?kX ?klim ?k6 ?k7 ?k8 ?k9 ?kB ?kbody ?c2 ?c3 ?c4 ?c5
  (case kX => assumption); (case klim => exact TopRead.nolimit (by k_asm)); (case k6 => k_is); (case k7 => k_is); (case k8 => first | assumption | (dsimp only; omega)); (case k9 => exact BindsTo.of_eq rfl); (case c5 => decide); (case kB => exact locs rfl); (case c2 => exact rfl); (case c3 => exact rfl); (case c4 => exact rfl)
  intro L h₁ hL F N
  have hl1 := hl.at (fun o e => Fr.keep F _ o e)
  k_steps
  refine Halt.of (wpAny_For ?_)
  k_steps
  (with_reducible rename Fr _ _ _ _ => F2)
  (with_reducible rename News _ _ _ _ => N2)
  (with_reducible rename IsRange _ _ _ _ _ _ _ _ => R2)
  have hrng := @rng_ok (row.length : Int) (by omega) (by omega)
  rw [Int.toNat_natCast] at hrng
  refine Halt.of (for_of (env := envOf _ _ _ _ _) (makes_range (n := row.length) rfl R2 hrng.1 hrng.2) (fun b hb => (List.not_mem_nil hb).elim) F2 N2
    (fun k m' news' => news' = [] ∧ m' (Str.ofString "numbers") = some (.ref l) ∧ m' (Str.ofString "row") = some (.str row u) ∧ ∃ tr, m' (Str.ofString "text") = some (.str (dressGo ns row k) tr))
    ⟨rfl, rfl, rfl, _, rfl⟩ ?step ?done)
  case step =>
    rintro E k _ m₁ news₁ own h₂ tk₁ hk ⟨t, rfl⟩ htk ⟨rfl, hnm, hro, tr, htext⟩ hmap hoff F₁ N₁
    dsimp only at htk
    rw [Int.zero_add]
    have hl2 := hl.at (fun o e => Fr.keep F₁ _ o e)
    have hlen := dressGo_len ns row k
    k_steps
    all_goals refine TurnEnd.intro [] (by assumption) (by assumption) (fun p hp => hp) rfl ⟨rfl, ?_, ?_, ?_⟩
    all_goals first | exact hnm | exact hro | skip
    all_goals
      show ∃ tr, some (Value.str _ _) = some (Value.str (dressStep ns row.length (dressGo ns row k) k (Txt.item row (k : Int))) tr)
      unfold dressStep
      repeat' split
      all_goals first | exact ⟨_, rfl⟩ | (exfalso; omega)
  case done =>
    rintro m' news' h' tk' ⟨rfl, hnm, hro, tr, htext⟩ _ htk F₁ N₁
    k_steps
    exact ret _ _ _ (Fr.keep F₁) (by assumption)
end
end Mine
end

section
open PySem PySem.W PySem.Calls PyProof.Rows
set_option Elab.async false
set_option maxRecDepth 100000
set_option maxHeartbeats 8000000
namespace Mine
section
variable {prog : Program} {w : World} {A : Around} {E : Value → Shared → Prop} {s : Shared}

/-- a StopIteration that holds nothing: two objects more -/
theorem make_stop {Q : Value → Shared → Prop} (h : ∀ h' b o, (∀ c x, s.heap.get? c = some x → h'.get? c = some x) → h'.get? b = some o → o.cls = .type "StopIteration" → Q (.ref b) { s with heap := h' }) :
    wpAny (model prog w) A (newExc (.type "StopIteration") []) Q E s := by
  unfold newExc newTuple
  refine wpAny_bind (wpAny_newObj_type (wpAny_bind (m := firstArgMember _ _) ?_) (by size_fits))
  have nothing : firstArgMember (.type "StopIteration") [] = pure Value.none := by first | rfl | (simp only [firstArgMember]; rfl)
  refine wpAny_of_eq (a := Value.none) nothing (wpAny_newObj_type (h _ _ _ ?_ (Heap.get?_push_size _ rfl) rfl) (by size_fits))
  exact fun c x hx => Heap.get?_push_of_some _ (Heap.get?_push_of_some _ hx)

/-- how a generator goes on from the state that it left -/
def Onward (prog : Program) (w : World) (A : Around) (P : Nat → Shared → Shared → Prop) (Y : Protocol) (gs : GenState) : Nat → Resume → Shared → Prop
  | 0, _, _ => False
  | k + 1, r, s => gs.Goes (model prog w) A (fun n s₀ r s₁ => r = .ok (.ret .none) ∧ P n s₀ s₁) Y k r s

/-- a woken generator's item, the state that it leaves, and how it goes on -/
def Gave (prog : Program) (w : World) (A : Around) (P : Nat → Shared → Shared → Prop) (Y : Protocol) (g n : Nat) (s : Shared) (v : Value) (s' : Shared) : Prop :=
  ∃ s₁ gs', s' = s₁.setGen g gs' ∧ gs'.bare = true ∧ Y (n - 1) (s.setGen g .running) v s₁ (Onward prog w A P Y gs' n)

/-- a woken generator's end -/
def Ended (P : Nat → Shared → Shared → Prop) (g n : Nat) (s : Shared) (s' : Shared) : Prop := ∃ s₁, s' = s₁.setGen g .finished ∧ P n (s.setGen g .running) s₁

/-- what waking a generator function comes to: an item, or a StopIteration -/
theorem wakes {a : Addr} {g n : Nat} {gs : GenState} {P : Nat → Shared → Shared → Prop} {Y : Protocol} (hh : A.handled = none) (hl : s.heap.NoLimit) (hroom : A.depth < recursionLimit) (hg : s.heap.IsGen a g)
    (hgs : s.gens[g]? = some gs) (hgo : gs.Goes (model prog w) A.in1 (fun n s₀ r s₁ => r = .ok (.ret .none) ∧ P n s₀ s₁) Y n (.send .none) (s.setGen g .running)) :
    wpAny (model prog w) A.in1 (Builtin.Generator.genWake (.ref a) (.send .none))
      (fun f s' => ∃ v, f = .done (.ret v) ∧ Gave prog w A.in1 P Y g n s v s')
      (fun e s' => ∃ t h' b o, e = .ref b ∧ s' = { t with heap := h' } ∧ Ended P g n s t ∧ (∀ c x, t.heap.get? c = some x → h'.get? c = some x) ∧ h'.get? b = some o ∧ o.cls = .type "StopIteration") s := by
  have woken : wpAny (model prog w) A.in1 (resume g (.send .none)) (fun x s' => (∃ v, x = .yielded v ∧ Gave prog w A.in1 P Y g n s v s') ∨ (x = .returned .none ∧ Ended P g n s s')) (fun _ _ => False) s :=
    wpAny_resumeQ hgs hgo (fun _ s₁ hx => by obtain ⟨rfl, hp⟩ := hx; exact wpAny_pure (.inr ⟨rfl, s₁, rfl, hp⟩)) fun v s₁ gs' hb hy => wpAny_pure (.inl ⟨v, rfl, s₁, gs', rfl, hb, by cases n <;> exact hy⟩)
  have live : gs.status = .fresh ∨ gs.status = .suspended := by
    cases gs
    all_goals first
      | exact .inl rfl
      | exact .inr rfl
      | exact hgo.elim
  unfold Builtin.Generator.genWake
  refine wpAny_bind (wpAny_holding (wpAny_genNumber hg ?_))
  refine wpAny_bind (wpAny_genState hgs ?_)
  rcases live with e | e
  all_goals
    rw [e]
    refine wpAny_bind (wpAny_roomToWake hl hroom ?_)
    refine wpAny_bind (wpAny_mono woken ?_ fun _ _ x => x.elim)
    rintro _ t (⟨v, rfl, hv⟩ | ⟨rfl, he⟩)
    · exact wpAny_pure ⟨v, rfl, hv⟩
    · show wpAny _ _ (newExc (.type "StopIteration") [] >>= fun x => _) _ _ _
      exact wpAny_bind (make_stop fun h' b o hk hb hc => wpAny_bind (wpAny_raiseNew_none hh ⟨t, h', b, o, rfl, rfl, he, hk, hb, hc⟩))

/-- a generator function's next item, with its bareness -/
theorem next_gen {a : Addr} {g n : Nat} {gs : GenState} {P : Nat → Shared → Shared → Prop} {Y : Protocol} {Q : Option Value → Shared → Prop} (hh : A.handled = none) (hl : s.heap.NoLimit) (hroom : A.depth < recursionLimit) (hg : s.heap.IsGen a g)
    (hgs : s.gens[g]? = some gs) (hgo : gs.Goes (model prog w) A.in1 (fun n s₀ r s₁ => r = .ok (.ret .none) ∧ P n s₀ s₁) Y n (.send .none) (s.setGen g .running))
    (some_ : ∀ v s', Gave prog w A.in1 P Y g n s v s' → Q (some v) s')
    (none_ : ∀ t h', Ended P g n s t → (∀ c x, t.heap.get? c = some x → h'.get? c = some x) → Q none { t with heap := h' }) :
    wpAny (model prog w) A (pyNext (.ref a)) Q E s := by
  unfold pyNext
  refine wpAny_bind (wpAny_attempt (wpAny_callSpecial?_slot hg.typeIs slot_gen_next (wpAny_call_entry slot_gen_next hg.typeIs entry_gen_next (wpAny_mono (wakes hh hl hroom hg hgs hgo) ?_ ?_) (args_gen_next _))))
  · rintro _ s' ⟨v, rfl, hv⟩
    exact ⟨v, rfl, wpAny_pure (some_ v s' hv)⟩
  · rintro _ _ ⟨t, h', b, o, rfl, rfl, he, hk, hb, hc⟩
    exact wpAny_bind (wpAny_isInstance (T := "StopIteration") (b := true) ⟨o, hb, hc⟩ isSubtype_stop (wpAny_pure (none_ t h' he hk)))
end
section
variable {M : Model} {A : Around} {R : GenEnd} {Y : Protocol} {n : Nat} {s₀ : Shared} {c : Code} {fs : List Frame} {s : Shared} {env : Env}
  {K : Flow → Sem Fin} {H : Value → Sem Fin} {gd : Bool → Bool} {lv : List Value → List Value}

theorem seg_For {target iter : Expr} {body orelse : List Stmt} {pos : Pos}
    (h : wpAny M (A.over c fs) (eval iter env) (fun x s₁ => wpAny M (A.over c fs) (pyIter x) (fun it s₂ =>
      ∀ (lx : List Value) p, Seg M A R Y n s₀ (.forLoop target it body orelse env) (M.den (.forLoop target it body orelse env))
      (.ret (fun r => ((match r with | .ok f => (.pure f : Sem Flow) | .error e => .raise e).onRaise fun (x : Value) => do
        if (← field x 1) == Value.none then unsupported "frame.own-activation:exception-without-traceback"
        setFlight x env.frame).wrap K H gd lv) none (gd false) (lv lx) c p [] :: fs) s₂)
        (fun x s' => Seg M A R Y n s₀ c (H x) fs s') s₁) (fun x s' => Seg M A R Y n s₀ c (H x) fs s') s)
    (hs : ∀ x, foldedSetIterable iter env x = pure x := by intro _; rfl) :
    Seg M A R Y n s₀ c ((exec (.For target iter body orelse pos) env).wrap K H gd lv) fs s := by
  rw [exec_For]
  refine seg_at ?_
  show Seg M A R Y n s₀ c (((eval iter env) >>= fun y => foldedSetIterable iter env y >>= fun x => standAt iter.pos >>= fun _ => holding [x] (pyIter x) >>= fun it => runOwn (.forLoop target it body orelse env) env).wrap K H gd lv) fs s
  refine seg_bind_wrap (wpAny_mono h (fun x s₁ h₁ => ?_) fun _ _ e => e)
  refine seg_bind_wrap (wpAny_of_eq (hs x) ?_)
  refine seg_bind_wrap (wpAny_standAt ?_)
  refine seg_bind_wrap (wpAny_holding (wpAny_mono h₁ (fun it s₂ h₂ => ?_) fun _ _ e => e))
  exact seg_call (h₂ _)

theorem seg_forLoop {prog : Program} {w : World} {target : Expr} {it : Value} {body : List Stmt}
    (h : wpAny (model prog w) (A.over (.forLoop target it body [] env) fs) (pyNext it) (fun r s₁ => match r with
      | none => Seg (model prog w) A R Y n s₀ (.block [] env) (leafOf (.ok .next)) fs s₁
      | some v => wpAny (model prog w) (A.over (.forLoop target it body [] env) fs) (letOwnedTupleGo target it v) (fun _ s₁' => wpAny (model prog w) (A.over (.forLoop target it body [] env) fs) (assign target env v) (fun _ s₂ =>
          Seg (model prog w) A R Y n s₀ (.forLoop target it body [] env) ((execs body env).wrap (fun f => match f with
            | .next | .cont => .pure (.again (.forLoop target it body [] env))
            | .brk => .pure (.done .next)
            | .ret v => .pure (.done (.ret v))) (fun e => (do noteFrame e env; theTreesLotGoes e : Sem Unit).wrap (fun _ => .raise e) .raise id id) id id) fs s₂) (fun _ _ => False) s₁') (fun _ _ => False) s₁)
      (fun _ _ => False) s) :
    Seg (model prog w) A R Y n s₀ (.forLoop target it body [] env) ((model prog w).den (.forLoop target it body [] env)) fs s := by
  show Seg _ A R Y n s₀ _ ((forTurn target it body [] env).onRaise (fun x => do noteFrame x env; theTreesLotGoes x)) fs s
  unfold forTurn
  rw [Sem.onRaise_eq_wrap]
  refine seg_bind_wrap (wpAny_standAt ?_)
  refine seg_bind_wrap (wpAny_onRaise (wpAny_mono h (fun r s₁ h₁ => ?_) fun _ _ e => e.elim))
  cases r with
  | none =>
    refine seg_again rfl ?_
    exact h₁
  | some v =>
    refine seg_bind_wrap (wpAny_mono h₁ (fun _ s₁' h₁' => ?_) fun _ _ e => e.elim)
    refine seg_bind_wrap (wpAny_mono h₁' (fun _ s₂ h₂ => ?_) fun _ _ e => e.elim)
    rw [Sem.bind_eq_wrap', Sem.wrap_wrap]
    rw [Sem.wrap_congr (execs body env) _ _ (K' := fun f => match f with
            | .next | .cont => .pure (.again (.forLoop target it body [] env))
            | .brk => .pure (.done .next)
            | .ret v => .pure (.done (.ret v))) (H' := (fun e => (do noteFrame e env; theTreesLotGoes e : Sem Unit).wrap (fun _ => .raise e) .raise id id))
        (fun f => by cases f <;> rfl)
        (fun e => by first | exact Sem.bind_eq_wrap _ _ | (show (do noteFrame e env; theTreesLotGoes e : Sem Unit).bind (fun _ => .raise e) = _; rw [Sem.bind_eq_wrap]))]
    exact h₂
end
end Mine
end

section
open PySem PySem.W PySem.Calls PyProof.Rows
set_option Elab.async false
set_option maxRecDepth 100000
set_option maxHeartbeats 8000000
namespace Mine
/-- what _iter_escaped_chars gives -/
def escOuts : List Nat → Nat → Bool → List (Nat × Str)
  | [], i, esc => if esc then [(i - 1, Str.ofString "\\")] else []
  | c :: r, i, true => (i, Str.ofString "\\" ++ ⟨#[c]⟩) :: escOuts r (i + 1) false
  | c :: r, i, false => if c = 92 then escOuts r (i + 1) true else (i, ⟨#[c]⟩) :: escOuts r (i + 1) false
def IsOut (v : Value) (out : Nat × Str) (h : Heap) : Prop := ∃ T t u, v = .ref T ∧ h.IsTuple T #[.int out.1 t, .str out.2 u]
def Since (Sf : Addr → Prop) (s₀ s : Shared) : Prop := ∃ h' tk, s = { s₀ with heap := h', toks := tk } ∧ ∀ b o, Sf b → s₀.heap.get? b = some o → h'.get? b = some o
theorem Since.refl (Sf : Addr → Prop) (s : Shared) : Since Sf s s := ⟨s.heap, s.toks, rfl, fun _ _ _ e => e⟩
theorem Since.step {Sf : Addr → Prop} {s₀ s : Shared} (x : Since Sf s₀ s) {h' : Heap} {tk : Nat} (hk : ∀ b o, Sf b → s.heap.get? b = some o → h'.get? b = some o) : Since Sf s₀ { s with heap := h', toks := tk } := by
  obtain ⟨h₁, tk₁, rfl, hk₁⟩ := x
  exact ⟨h', tk, rfl, fun b o hb e => hk b o hb (hk₁ b o hb e)⟩
def genY (all : List (Nat × Str)) (Sf Ow : Addr → Prop) : Protocol := fun m s₀ v s kap =>
  (∃ out, all[all.length - 1 - m]? = some out ∧ IsOut v out s.heap) ∧ Since Sf s₀ s ∧ ∀ s'' : Shared, (∀ b o, Ow b → s.heap.get? b = some o → s''.heap.get? b = some o) → kap (.send .none) s''
def genR (Sf : Addr → Prop) : GenEnd := fun n s₀ r s₁ => r = .ok (.ret .none) ∧ (n = 0 ∧ Since Sf s₀ s₁)
theorem suffix_here {α : Type} {all pre r : List α} {o : α} (h : all = pre ++ o :: r) : all[all.length - 1 - r.length]? = some o := by
  rw [h, List.length_append, List.length_cons]
  have e : pre.length + (r.length + 1) - 1 - r.length = pre.length := by omega
  rw [e, List.getElem?_append_right (Nat.le_refl _), Nat.sub_self]; rfl

structure Pieces (prog : Program) (w : World) (env : Env) (h₀ : Heap) (e1 t1 e2 t2 e3 t3 : Expr) (s1 s2 : Stmt) : Prop where
  e1 : ∀ (A' : Around) s m esc, A'.handled = none → Fr h₀ env.locals s.heap m → m (Str.ofString "escape") = some (.bool esc) → wpAny (model prog w) A' (isTrue e1 env (eval e1 env)) (fun b s' => b = esc ∧ Keeps s s') (fun _ _ => False) s
  e3 : ∀ (A' : Around) s m esc, A'.handled = none → Fr h₀ env.locals s.heap m → m (Str.ofString "escape") = some (.bool esc) → wpAny (model prog w) A' (isTrue e3 env (eval e3 env)) (fun b s' => b = esc ∧ Keeps s s') (fun _ _ => False) s
  e2 : ∀ (A' : Around) s m c t, A'.handled = none → Fr h₀ env.locals s.heap m → m (Str.ofString "ch") = some (.str ⟨#[c]⟩ t) → wpAny (model prog w) A' (isTrue e2 env (eval e2 env)) (fun b s' => b = decide (c = 92) ∧ Keeps s s') (fun _ _ => False) s
  t1 : ∀ (A' : Around) s m (i c : Nat) u t, A'.handled = none → Fr h₀ env.locals s.heap m → m (Str.ofString "pos") = some (.int i u) → m (Str.ofString "ch") = some (.str ⟨#[c]⟩ t) → wpAny (model prog w) A' (eval t1 env) (fun v s' => IsOut v (i, Str.ofString "\\" ++ ⟨#[c]⟩) s'.heap ∧ Keeps s s') (fun _ _ => False) s
  t2 : ∀ (A' : Around) s m (i c : Nat) u t, A'.handled = none → Fr h₀ env.locals s.heap m → m (Str.ofString "pos") = some (.int i u) → m (Str.ofString "ch") = some (.str ⟨#[c]⟩ t) → wpAny (model prog w) A' (eval t2 env) (fun v s' => IsOut v (i, ⟨#[c]⟩) s'.heap ∧ Keeps s s') (fun _ _ => False) s
  t3 : ∀ (A' : Around) s m (i : Nat) u, A'.handled = none → Fr h₀ env.locals s.heap m → m (Str.ofString "pos") = some (.int i u) → wpAny (model prog w) A' (eval t3 env) (fun v s' => IsOut v (i, Str.ofString "\\") s'.heap ∧ Keeps s s') (fun _ _ => False) s
  s1 : ∀ (A' : Around) s m, A'.handled = none → Fr h₀ env.locals s.heap m → wpAny (model prog w) A' (exec s1 env) (fun f s' => f = .next ∧ ∃ h' tk, s' = { s with heap := h', toks := tk } ∧ Fr h₀ env.locals h' (fun y => if y = Str.ofString "escape" then some (.bool false) else m y) ∧ ∀ b o, b ≠ env.locals → s.heap.get? b = some o → h'.get? b = some o) (fun _ _ => False) s
  s2 : ∀ (A' : Around) s m, A'.handled = none → Fr h₀ env.locals s.heap m → wpAny (model prog w) A' (exec s2 env) (fun f s' => f = .next ∧ ∃ h' tk, s' = { s with heap := h', toks := tk } ∧ Fr h₀ env.locals h' (fun y => if y = Str.ofString "escape" then some (.bool true) else m y) ∧ ∀ b o, b ≠ env.locals → s.heap.get? b = some o → h'.get? b = some o) (fun _ _ => False) s

section
variable {prog : Program} {w : World} {A : Around} {env : Env} {h₀ : Heap} {e1 t1 e2 t2 e3 t3 : Expr} {st1 st2 : Stmt}

theorem seg_If {M : Model} {R : GenEnd} {Y : Protocol} {n : Nat} {s₀ : Shared} {c : Code} {fs : List Frame} {s : Shared} {K : Flow → Sem Fin} {H : Value → Sem Fin} {gd : Bool → Bool} {lv : List Value → List Value} {test : Expr} {body orelse : List Stmt} {pos : Pos}
    (h : wpAny M (A.over c fs) (isTrue test env (eval test env)) (fun b s' => if b = true then Seg M A R Y n s₀ c ((execs body env).wrap K H gd lv) fs s' else Seg M A R Y n s₀ c ((execs orelse env).wrap K H gd lv) fs s') (fun _ _ => False) s) :
    Seg M A R Y n s₀ c ((exec (.If test body orelse pos) env).wrap K H gd lv) fs s := by
  rw [exec_If]
  refine seg_bind_wrap (wpAny_standAt ?_)
  refine seg_bind_wrap (wpAny_mono h (fun b s' hb => ?_) fun _ _ e => e.elim)
  cases b with
  | true => rw [if_pos rfl] at hb; exact hb
  | false => rw [if_neg Bool.false_ne_true] at hb; exact hb

theorem esc_loop {x : Str} {I : Addr} {fp wr : List Addr} {St : Nat → Heap → Prop} {Mid : Nat → Addr → Heap → Prop} {pa pb pt p1 q1 p2 q2 r1 r2 : Pos} {kt : Nat} {fs : List Frame} {Sf Ow : Addr → Prop}
    (hh : A.handled = none) (hov : (A.over (.forLoop (.Tuple [.Name (Str.ofString "pos") pa, .Name (Str.ofString "ch") pb] kt pt) (.ref I) [.If e1 [.Expr (.Yield (some t1) p1) q1, st1] [.If e2 [st2] [.Expr (.Yield (some t2) p2) q2] r2] r1] [] env) fs).handled = none) (P : Pieces prog w env h₀ e1 t1 e2 t2 e3 t3 st1 st2)
    (W₀ : ∀ A' : Around, A'.handled = none → WalksT prog w A' I fp wr x.cps.size (fun i vals => ∃ t v, (∃ c u, x.cps[i]? = some c ∧ v = .str ⟨#[c]⟩ u) ∧ vals = #[.int i t, v]) St Mid)
    (hk : env.scope.kind = .function) (hx1 : env.kindOf (Str.ofString "pos") = some .local) (hx2 : env.kindOf (Str.ofString "ch") = some .local) (hco : env.scope.isCoroutine = false) (hin : interactive env = false)
    (hC : ¬ Sf env.locals) (hCo : Ow env.locals) (hw : ∀ b ∈ wr, ¬ Sf b) (hfo : ∀ b ∈ fp, Ow b) (hCf : env.locals ∉ fp) (h0 : ∀ b o, h₀.get? b = some o → Sf b ∧ Ow b)
    (hfs : splitAtGen fs = none) (hfg : fs.any Frame.guarded = false) (all : List (Nat × Str))
    (fin : ∀ (s₀ s : Shared) m esc i t, Fr h₀ env.locals s.heap m → m (Str.ofString "escape") = some (.bool esc) → m (Str.ofString "pos") = some (.int (i : Nat) t) → (∃ pre, all = pre ++ (if esc then [(i, Str.ofString "\\")] else [])) → Since Sf s₀ s →
      Seg (model prog w) A (genR Sf) (genY all Sf Ow) (if esc then [(i, Str.ofString "\\")] else []).length s₀ (.block [] env) (leafOf (.ok .next)) fs s) :
    ∀ (k i : Nat) (s₀ s : Shared) (m : Str → Option Value) (esc : Bool), x.cps.size - i = k → i ≤ x.cps.size → St i s.heap → Fr h₀ env.locals s.heap m → m (Str.ofString "escape") = some (.bool esc) → (∃ t, m (Str.ofString "pos") = some (.int (i - 1 : Nat) t)) →
      (∃ pre, all = pre ++ escOuts (x.cps.toList.drop i) i esc) → Since Sf s₀ s →
      Seg (model prog w) A (genR Sf) (genY all Sf Ow) (escOuts (x.cps.toList.drop i) i esc).length s₀
        (.forLoop (.Tuple [.Name (Str.ofString "pos") pa, .Name (Str.ofString "ch") pb] kt pt) (.ref I) [.If e1 [.Expr (.Yield (some t1) p1) q1, st1] [.If e2 [st2] [.Expr (.Yield (some t2) p2) q2] r2] r1] [] env)
        ((model prog w).den (.forLoop (.Tuple [.Name (Str.ofString "pos") pa, .Name (Str.ofString "ch") pb] kt pt) (.ref I) [.If e1 [.Expr (.Yield (some t1) p1) q1, st1] [.If e2 [st2] [.Expr (.Yield (some t2) p2) q2] r2] r1] [] env)) fs s := by
  have hp : (env.scope.kind == .class || (env.scope.kind == .module && env.locals != env.globals)) = false := by rw [hk]; rfl
  have hCw : env.locals ∉ wr := fun h => hCf ((W₀ A hh).sub _ h)
  have h0w : ∀ b o, h₀.get? b = some o → b ∉ wr := fun b o e hb => hw b hb (h0 b o e).1
  have sfC : ∀ b, Sf b → b ≠ env.locals := fun b hb e => hC (e ▸ hb)
  have sfw : ∀ b, Sf b → b ∉ wr := fun b hb e => hw b e hb
  intro k
  induction k with
  | zero =>
    rintro i s₀ s m esc hki hi hst F he ⟨tp, hpos⟩ ⟨pre, hpre⟩ hsince
    have hin' : i = x.cps.size := by omega
    subst hin'
    have hd : List.drop x.cps.size x.cps.toList = [] := by simp
    rw [hd] at hpre ⊢
    refine seg_forLoop ((W₀ _ hov).done s _ _ hst fun h' tk hk' => ?_)
    refine fin s₀ _ m esc (x.cps.size - 1) tp ⟨F.ns.at' fun o e => hk' _ o hCw e, fun b o e => hk' b o (h0w b o e) (F.keep b o e), F.above⟩ he hpos ⟨pre, hpre⟩ (hsince.step fun b o hb e => hk' b o (sfw b hb) e)
  | succ k ih =>
    rintro i s₀ s m esc hki hi hst F he ⟨tp, hpos⟩ ⟨pre, hpre⟩ hsince
    have hlt : i < x.cps.size := by omega
    have hlt' : i < x.cps.toList.length := by simpa using hlt
    have hdrop : x.cps.toList.drop i = x.cps.toList[i] :: x.cps.toList.drop (i + 1) := List.drop_eq_getElem_cons hlt'
    have hci : x.cps[i]? = some x.cps.toList[i] := by simp [hlt]
    rw [hdrop] at hpre ⊢
    generalize hcc : x.cps.toList[i] = c at *
    refine seg_forLoop ((W₀ _ hov).item i s _ _ hlt hst fun T vals h₁ tk₁ hPv hTs hT₁ hmid hk₁ => ?_)
    obtain ⟨ti, v, ⟨c', u, hc', rfl⟩, rfl⟩ := hPv
    have : c' = c := by rw [hci] at hc'; exact (Option.some.inj hc').symm
    subst this
    refine (W₀ _ hov).go _ _ _ i T _ _ _ hmid fun h₁' hst₁ hk₁' => ?_
    have hT₁' : h₁'.IsTuple T #[.int i ti, .str ⟨#[c']⟩ u] := let ⟨o, e, r⟩ := hT₁; ⟨o, hk₁' _ o ((W₀ _ hov).apart i T _ hmid) e, r⟩
    refine wpAny_assign_Tuple hov hT₁' rfl rfl fun h₁'' hx₁ => ?_
    replace hx₁ : Heap.ExtBut h₁'.objs.size h₁' h₁'' := hx₁
    have old₁ : ∀ b o, h₁'.get? b = some o → h₁''.get? b = some o := fun b o e => hx₁ b o (Nat.ne_of_lt (Heap.lt_size e)) e
    have up₀ : ∀ b o, b ∉ wr → s.heap.get? b = some o → h₁''.get? b = some o := fun b o hb e => old₁ b o (hk₁' b o hb (hk₁ b o hb e))
    show wpAny _ _ (do holding [.str ⟨#[c']⟩ u] (assign (.Name (Str.ofString "pos") pa) env (.int i ti)); do holding [] (assign (.Name (Str.ofString "ch") pb) env (.str ⟨#[c']⟩ u)); pure ()) _ _ _
    refine wpAny_bind (wpAny_holding (wpAny_assign_Name (wpAny_storeName_local hx1 (F.ns.at' fun o e => up₀ _ o hCw e) (fun h₂a hn₂a hs₂a => ?_) hp)))
    replace hs₂a : Heap.SameBut env.locals h₁'' h₂a := hs₂a
    refine wpAny_bind (wpAny_holding (wpAny_assign_Name (wpAny_storeName_local hx2 hn₂a (fun h₂ hn₂ hs₂ => wpAny_pure ?_) hp)))
    replace hs₂ : Heap.SameBut env.locals h₂a h₂ := hs₂
    have up₂ : ∀ b o, b ≠ env.locals → b ∉ wr → s.heap.get? b = some o → h₂.get? b = some o := fun b o hbC hbw e => hs₂.extBut b o hbC (hs₂a.extBut b o hbC (up₀ b o hbw e))
    have hst₂ : St (i + 1) h₂ := (W₀ A hh).frame _ _ _ hst₁ fun b hb o e => hs₂.extBut b o (fun h => hCf (h ▸ hb)) (hs₂a.extBut b o (fun h => hCf (h ▸ hb)) (old₁ b o e))
    have h0C : ∀ b o, h₀.get? b = some o → b ≠ env.locals := fun b o e => sfC b (h0 b o e).1
    have F₂ : Fr h₀ env.locals h₂ _ := ⟨hn₂, fun b o e => up₂ b o (h0C b o e) (h0w b o e) (F.keep b o e), F.above⟩
    generalize hm2 : (fun y => if y = Str.ofString "ch" then some (Value.str ⟨#[c']⟩ u) else if y = Str.ofString "pos" then some (Value.int i ti) else m y) = m₂ at *
    have he₂ : m₂ (Str.ofString "escape") = some (.bool esc) := by rw [← hm2]; exact he
    have hpos₂ : m₂ (Str.ofString "pos") = some (.int i ti) := by rw [← hm2]; rfl
    have hch₂ : m₂ (Str.ofString "ch") = some (.str ⟨#[c']⟩ u) := by rw [← hm2]; rfl
    have hsince₂ : Since Sf s₀ { s with heap := h₂, toks := tk₁ + 1 + 1 } := hsince.step fun b o hb e => up₂ b o (sfC b hb) (sfw b hb) e
    clear hm2 hsince hst hst₁ hmid hT₁ hT₁' hn₂ hn₂a hs₂ hs₂a up₀ up₂ old₁ hk₁ hk₁' hx₁ hpos he F
    refine seg_execs_cons (seg_If (wpAny_mono (P.e1 _ { s with heap := h₂, toks := tk₁ + 1 + 1 } m₂ esc hov F₂ he₂) (fun b s₃ hb => ?_) fun _ _ e => e))
    obtain ⟨rfl, h₃, tk₃, rfl, hk₃⟩ := hb
    have F₃ := F₂.keeps hk₃
    have hst₃ : St (i + 1) h₃ := (W₀ A hh).frame _ _ _ hst₂ fun b _ o e => hk₃ b o e
    have hsince₃ : Since Sf s₀ { s with heap := h₃, toks := tk₃ } := hsince₂.step fun b o _ e => hk₃ b o e
    clear hst₂ hsince₂ F₂ hk₃
    cases b with
    | true =>
      rw [if_pos rfl]
      simp only [escOuts, List.length_cons] at hpre ⊢
      refine seg_execs_cons (seg_Expr_Yield hfs rfl hfg (wpAny_mono (P.t1 _ { s with heap := h₃, toks := tk₃ } m₂ i c' ti u hov F₃ hpos₂ hch₂) (fun v s₄ hv => ?_) fun _ _ e => e.elim) hco hin)
      obtain ⟨hout, h₄, tk₄, rfl, hk₄⟩ := hv
      intro kap hkap
      refine ⟨⟨_, suffix_here hpre, hout⟩, hsince₃.step fun b o _ e => hk₄ b o e, fun s'' hal => hkap .none s'' ?_⟩
      have F₅ : Fr h₀ env.locals s''.heap m₂ := ⟨(F₃.ns.keeps hk₄).at' fun o e => hal _ o hCo e, fun b o e => hal b o (h0 b o e).2 (hk₄ b o (F₃.keep b o e)), F₃.above⟩
      have hst₅ : St (i + 1) s''.heap := (W₀ A hh).frame _ _ _ hst₃ fun b hb o e => hal b o (hfo b hb) (hk₄ b o e)
      refine seg_execs_cons (seg_wrap (wpAny_mono (P.s1 _ s'' m₂ hov F₅) (fun f s₆ hf => ?_) fun _ _ e => e.elim))
      obtain ⟨rfl, h₆, tk₆, rfl, F₆, hk₆⟩ := hf
      refine seg_execs_nil (seg_execs_nil (seg_again rfl (ih (i + 1) s'' _ _ false (by omega) hlt ((W₀ A hh).frame _ _ _ hst₅ fun b hb o e => hk₆ b o (fun q => hCf (q ▸ hb)) e) F₆ rfl ⟨ti, hpos₂⟩ ⟨pre ++ [_], by rw [List.append_assoc]; exact hpre⟩ ((Since.refl Sf s'').step fun b o hb e => hk₆ b o (sfC b hb) e))))
    | false =>
      rw [if_neg Bool.false_ne_true]
      refine seg_execs_cons (seg_If (wpAny_mono (P.e2 _ { s with heap := h₃, toks := tk₃ } m₂ c' u hov F₃ hch₂) (fun b s₄ hb => ?_) fun _ _ e => e))
      obtain ⟨rfl, h₄, tk₄, rfl, hk₄⟩ := hb
      have F₄ := F₃.keeps hk₄
      have hst₄ : St (i + 1) h₄ := (W₀ A hh).frame _ _ _ hst₃ fun b _ o e => hk₄ b o e
      have hsince₄ : Since Sf s₀ { s with heap := h₄, toks := tk₄ } := hsince₃.step fun b o _ e => hk₄ b o e
      by_cases hc92 : c' = 92
      · rw [if_pos (decide_eq_true hc92)]
        simp only [escOuts, if_pos hc92] at hpre ⊢
        refine seg_execs_cons (seg_wrap (wpAny_mono (P.s2 _ { s with heap := h₄, toks := tk₄ } m₂ hov F₄) (fun f s₆ hf => ?_) fun _ _ e => e.elim))
        obtain ⟨rfl, h₆, tk₆, rfl, F₆, hk₆⟩ := hf
        refine seg_execs_nil (seg_execs_nil (seg_execs_nil (seg_again rfl (ih (i + 1) s₀ _ _ true (by omega) hlt ((W₀ A hh).frame _ _ _ hst₄ fun b hb o e => hk₆ b o (fun q => hCf (q ▸ hb)) e) F₆ rfl ⟨ti, hpos₂⟩ ⟨pre, hpre⟩ (hsince₄.step fun b o hb e => hk₆ b o (sfC b hb) e)))))
      · rw [if_neg (fun h => hc92 (of_decide_eq_true h))]
        simp only [escOuts, if_neg hc92, List.length_cons] at hpre ⊢
        refine seg_execs_cons (seg_Expr_Yield hfs rfl hfg (wpAny_mono (P.t2 _ { s with heap := h₄, toks := tk₄ } m₂ i c' ti u hov F₄ hpos₂ hch₂) (fun v s₅ hv => ?_) fun _ _ e => e.elim) hco hin)
        obtain ⟨hout, h₅, tk₅, rfl, hk₅⟩ := hv
        intro kap hkap
        refine ⟨⟨_, suffix_here hpre, hout⟩, hsince₄.step fun b o _ e => hk₅ b o e, fun s'' hal => hkap .none s'' ?_⟩
        have F₅ : Fr h₀ env.locals s''.heap m₂ := ⟨(F₄.ns.keeps hk₅).at' fun o e => hal _ o hCo e, fun b o e => hal b o (h0 b o e).2 (hk₅ b o (F₄.keep b o e)), F₄.above⟩
        have hst₅ : St (i + 1) s''.heap := (W₀ A hh).frame _ _ _ hst₄ fun b hb o e => hal b o (hfo b hb) (hk₅ b o e)
        refine seg_execs_nil (seg_execs_nil (seg_execs_nil (seg_again rfl (ih (i + 1) s'' _ _ false (by omega) hlt hst₅ F₅ he₂ ⟨ti, hpos₂⟩ ⟨pre ++ [_], by rw [List.append_assoc]; exact hpre⟩ (Since.refl Sf s'')))))
end
end Mine
end

section
open PySem PySem.W PySem.Calls PyProof.Rows
set_option Elab.async false
set_option maxRecDepth 100000
set_option maxHeartbeats 8000000
namespace Mine
structure Heads (prog : Program) (w : World) (env : Env) (h₀ : Heap) (a1 a2 : Stmt) (iter : Expr) : Prop where
  a1 : ∀ (A' : Around) s m, A'.handled = none → Fr h₀ env.locals s.heap m → wpAny (model prog w) A' (exec a1 env) (fun f s' => f = .next ∧ ∃ h' tk, s' = { s with heap := h', toks := tk } ∧ (∃ u, Fr h₀ env.locals h' (fun y => if y = Str.ofString "pos" then some (.int (0 : Nat) u) else m y)) ∧ ∀ b o, b ≠ env.locals → s.heap.get? b = some o → h'.get? b = some o) (fun _ _ => False) s
  a2 : ∀ (A' : Around) s m, A'.handled = none → Fr h₀ env.locals s.heap m → wpAny (model prog w) A' (exec a2 env) (fun f s' => f = .next ∧ ∃ h' tk, s' = { s with heap := h', toks := tk } ∧ Fr h₀ env.locals h' (fun y => if y = Str.ofString "escape" then some (.bool false) else m y) ∧ ∀ b o, b ≠ env.locals → s.heap.get? b = some o → h'.get? b = some o) (fun _ _ => False) s
  it : ∀ (A' : Around) s m x t, A'.handled = none → Fr h₀ env.locals s.heap m → m (Str.ofString "addr") = some (.str x t) → wpAny (model prog w) A' (eval iter env) (fun v s' => ∃ I J, v = .ref I ∧ s.heap.objs.size ≤ J ∧ s.heap.objs.size ≤ I ∧ I ≠ J ∧ IsEnum s'.heap I J 0 .none ∧ s'.heap.IsStrIter J (strIterType x) x t 0 ∧ Keeps s s') (fun _ _ => False) s
  fold : ∀ x, foldedSetIterable iter env x = pure x

section
variable {prog : Program} {w : World} {A : Around} {env : Env} {h₀ : Heap} {e1 t1 e2 t2 e3 t3 iter : Expr} {st1 st2 a1 a2 : Stmt}
abbrev escBody (a1 a2 : Stmt) (iter e1 t1 e2 t2 e3 t3 : Expr) (st1 st2 : Stmt) (pa pb pt p1 q1 p2 q2 r1 r2 pf p3 q3 r3 : Pos) (kt : Nat) : List Stmt :=
  [a1, a2, .For (.Tuple [.Name (Str.ofString "pos") pa, .Name (Str.ofString "ch") pb] kt pt) iter [.If e1 [.Expr (.Yield (some t1) p1) q1, st1] [.If e2 [st2] [.Expr (.Yield (some t2) p2) q2] r2] r1] [] pf, .If e3 [.Expr (.Yield (some t3) p3) q3] [] r3]

theorem esc_func {x : Str} {t : Tok} {pa pb pt p1 q1 p2 q2 r1 r2 pf p3 q3 r3 : Pos} {kt : Nat} {Sf Ow : Addr → Prop}
    (hh : A.handled = none) (P : Pieces prog w env h₀ e1 t1 e2 t2 e3 t3 st1 st2) (Hd : Heads prog w env h₀ a1 a2 iter)
    (hk : env.scope.kind = .function) (hx1 : env.kindOf (Str.ofString "pos") = some .local) (hx2 : env.kindOf (Str.ofString "ch") = some .local) (hco : env.scope.isCoroutine = false) (hin : interactive env = false)
    (hC : ¬ Sf env.locals ∧ Ow env.locals) {a : Addr} (haC : a ≠ env.locals) (hnew : ∀ b, a < b → ¬ Sf b ∧ Ow b) (h0 : ∀ b o, h₀.get? b = some o → Sf b ∧ Ow b)
    (s₀ s : Shared) (m : Str → Option Value) (F : Fr h₀ env.locals s.heap m) (haddr : m (Str.ofString "addr") = some (.str x t)) (hsince : Since Sf s₀ s) (hao : ∃ o, s.heap.get? a = some o) :
    Seg (model prog w) A (genR Sf) (genY (escOuts x.cps.toList 0 false) Sf Ow) (escOuts x.cps.toList 0 false).length s₀
      (.func (escBody a1 a2 iter e1 t1 e2 t2 e3 t3 st1 st2 pa pb pt p1 q1 p2 q2 r1 r2 pf p3 q3 r3 kt) env)
      ((model prog w).den (.func (escBody a1 a2 iter e1 t1 e2 t2 e3 t3 st1 st2 pa pb pt p1 q1 p2 q2 r1 r2 pf p3 q3 r3 kt) env)) [] s := by
  have hov : ∀ c fs, (A.over c fs).handled = (marksOver fs (A.handled, A.handled)).1 := fun _ _ => rfl
  have sfC : ∀ b, Sf b → b ≠ env.locals := fun b hb e => hC.1 (e ▸ hb)
  refine seg_func (seg_execs_cons (seg_wrap (wpAny_mono (Hd.a1 _ s m hh F) (fun f s₁ hf => ?_) fun _ _ e => e.elim)))
  obtain ⟨rfl, h₁, tk₁, rfl, ⟨u, F₁⟩, hk₁⟩ := hf
  refine seg_execs_cons (seg_wrap (wpAny_mono (Hd.a2 _ { s with heap := h₁, toks := tk₁ } _ hh F₁) (fun f s₂ hf => ?_) fun _ _ e => e.elim))
  obtain ⟨rfl, h₂, tk₂, rfl, F₂, hk₂⟩ := hf
  have hsince₂ : Since Sf s₀ { s with heap := h₂, toks := tk₂ } := hsince.step fun b o hb e => hk₂ b o (sfC b hb) (hk₁ b o (sfC b hb) e)
  refine seg_execs_cons (seg_For (wpAny_mono (Hd.it _ { s with heap := h₂, toks := tk₂ } _ x t hh F₂ (by exact haddr)) (fun v s₃ hv => ?_) fun _ _ e => e.elim) Hd.fold)
  obtain ⟨I, J, rfl, hJ, hI, hIJ, hen, hsi, h₃, tk₃, rfl, hk₃⟩ := hv
  dsimp only at hJ hI hen hsi hk₃
  have F₃ := F₂.keeps hk₃
  have hsince₃ : Since Sf s₀ { s with heap := h₃, toks := tk₃ } := hsince₂.step fun b o hb e => hk₃ b o e
  have hCs : env.locals < h₂.objs.size := F₂.ns.lt
  have has : a < h₂.objs.size := let ⟨o, e⟩ := hao; Heap.lt_size (hk₂ a o haC (hk₁ a o haC e))
  have newI := hnew I (Nat.lt_of_lt_of_le has hI)
  have newJ := hnew J (Nat.lt_of_lt_of_le has hJ)
  have hIC : env.locals ≠ I := Nat.ne_of_lt (Nat.lt_of_lt_of_le hCs hI)
  have hJC : env.locals ≠ J := Nat.ne_of_lt (Nat.lt_of_lt_of_le hCs hJ)
  have W₀ : ∃ St Mid, (∀ A' : Around, A'.handled = none → WalksT prog w A' I [I, J] [I, J] x.cps.size (fun i vals => ∃ t v, (∃ c u, x.cps[i]? = some c ∧ v = .str ⟨#[c]⟩ u) ∧ vals = #[.int i t, v]) St Mid) ∧ St 0 h₃ := by
    have hef : I ∉ [J] := fun q => hIJ (List.mem_singleton.mp q)
    cases ha : x.cps.all (· < 128)
    · have hsi' : h₃.IsStrIter J "str_iterator" x t 0 := by simpa [strIterType, ha] using hsi
      exact ⟨_, _, fun A' hA' => WalksT.enumerateD (Draws.strWide (A := A'.in1) hA' J x t) I hIJ hef (List.mem_singleton.mpr rfl), ⟨⟨_, hen⟩, hsi'⟩⟩
    · have hsi' : h₃.IsStrIter J "str_ascii_iterator" x t 0 := by simpa [strIterType, ha] using hsi
      exact ⟨_, _, fun A' hA' => WalksT.enumerateD (Draws.strAscii (A := A'.in1) hA' J x t) I hIJ hef (List.mem_singleton.mpr rfl), ⟨⟨_, hen⟩, hsi'⟩⟩
  obtain ⟨St, Mid, W₀, hst⟩ := W₀
  have mem2 : ∀ b ∈ [I, J], ¬ Sf b ∧ Ow b := fun b hb => by
    rcases List.mem_cons.mp hb with rfl | hb
    · exact newI
    · rw [List.mem_singleton.mp hb]; exact newJ
  refine (W₀ (A.over (.func (escBody a1 a2 iter e1 t1 e2 t2 e3 t3 st1 st2 pa pb pt p1 q1 p2 q2 r1 r2 pf p3 q3 r3 kt) env) []) hh).self 0 { s with heap := h₃, toks := tk₃ } _ _ hst ?_
  intro lx p
  refine esc_loop hh (by exact hh) P W₀ hk hx1 hx2 hco hin hC.1 hC.2 (fun b hb => (mem2 b hb).1) (fun b hb => (mem2 b hb).2) ?_ h0 rfl rfl (escOuts x.cps.toList 0 false) ?_
    x.cps.size 0 s₀ { s with heap := h₃, toks := tk₃ } _ false (Nat.sub_zero _) (Nat.zero_le _) hst F₃ rfl ⟨u, rfl⟩ ⟨[], rfl⟩ hsince₃
  · intro hm
    rcases List.mem_cons.mp hm with q | hm
    · exact hIC q
    · exact hJC (List.mem_singleton.mp hm)
  · rintro s₀ s m esc i t F he hpos ⟨pre, hpre⟩ hsince
    refine seg_leaf (.ok .next) ?_
    refine seg_execs_cons (seg_If (wpAny_mono (P.e3 _ s m esc hh F he) (fun b s₃ hb => ?_) fun _ _ e => e))
    obtain ⟨rfl, h₃, tk₃, rfl, hk₃⟩ := hb
    have F₃ := F.keeps hk₃
    have hsince₃ : Since Sf s₀ { s with heap := h₃, toks := tk₃ } := hsince.step fun b o _ e => hk₃ b o e
    cases b with
    | true =>
      rw [if_pos rfl]
      simp only [if_true] at hpre ⊢
      refine seg_execs_cons (seg_Expr_Yield rfl rfl rfl (wpAny_mono (P.t3 _ { s with heap := h₃, toks := tk₃ } m i t hh F₃ hpos) (fun v s₄ hv => ?_) fun _ _ e => e.elim) hco hin)
      obtain ⟨hout, h₄, tk₄, rfl, hk₄⟩ := hv
      intro kap hkap
      refine ⟨⟨_, suffix_here hpre, hout⟩, hsince₃.step fun b o _ e => hk₄ b o e, fun s'' hal => hkap .none s'' ?_⟩
      exact seg_execs_nil (seg_execs_nil (seg_end (.ok (.ret .none)) ⟨rfl, rfl, Since.refl _ _⟩))
    | false =>
      rw [if_neg Bool.false_ne_true]
      exact seg_execs_nil (seg_execs_nil (seg_end (.ok (.ret .none)) ⟨rfl, rfl, hsince₃⟩))
end
end Mine
end

section
open PySem PySem.W PySem.Calls PyProof.Rows
set_option Elab.async false
set_option maxRecDepth 100000
set_option maxHeartbeats 8000000
namespace Mine
theorem allBare_set {gens : Array GenState} {g : Nat} {x : GenState} (h : AllBare gens) (hx : x.bare = true) : AllBare (gens.setIfInBounds g x) := by
  intro y hy
  obtain ⟨i, hi, e⟩ := Array.mem_iff_getElem.mp hy
  rw [Array.getElem_setIfInBounds] at e
  · split at e
    · rw [← e]; exact hx
    · rw [← e]; exact h _ (Array.getElem_mem _)
  · simpa using hi
section
variable {prog : Program} {w : World} {A : Around} {h₀ : Heap}
def SfOf (h₀ : Heap) (X : List Addr) (a b : Addr) : Prop := b ∈ X ∨ b = a ∨ ∃ o, h₀.get? b = some o
def GenSt (prog : Program) (w : World) (A : Around) (h₀ : Heap) (X : List Addr) (a g : Addr) (all : List (Nat × Str)) (i : Nat) (s : Shared) : Prop :=
  s.heap.IsGen a g ∧ s.heap.NoLimit ∧ (∀ b o, h₀.get? b = some o → s.heap.get? b = some o) ∧ ∃ gs, s.gens[g]? = some gs ∧ ∀ s'' : Shared, (∀ b o, b ∉ X → s.heap.get? b = some o → s''.heap.get? b = some o) →
    gs.Goes (model prog w) A.in1 (genR (SfOf h₀ X a)) (genY all (SfOf h₀ X a) (fun b => b ∉ X)) (all.length - i) (.send .none) s''

theorem iter_gen {X : List Addr} {a g : Addr} {all : List (Nat × Str)} (hh : A.handled = none) (hroom : A.depth < recursionLimit) (haX : a ∉ X) (hX0 : ∀ b ∈ X, h₀.get? b = none) (hl0 : h₀.NoLimit) (ha0 : h₀.get? a = none) :
    Iter false prog w A h₀ X (.ref a) all.length (GenSt prog w A h₀ X a g all) (fun i v s => (∃ out, all[i]? = some out ∧ IsOut v out s.heap) ∧ s.heap.IsGen a g) where
  frame := fun i s h' tk st _ hk =>
    ⟨let ⟨o, nm, qn, ho, r⟩ := st.1; ⟨o, nm, qn, hk a o haX ho, r⟩, hl0.keeps fun b o e => hk b o (fun q => by rw [hX0 b q] at e; cases e) (st.2.2.1 b o e), fun b o e => hk b o (fun q => by rw [hX0 b q] at e; cases e) (st.2.2.1 b o e),
     let ⟨gs, hgs, hgo⟩ := st.2.2.2; ⟨gs, hgs, fun s'' hal => hgo s'' fun b o hb e => hal b o hb (hk b o hb e)⟩⟩
  item := fun i s Q E hi st hQ => by
    obtain ⟨hg, hl, h0k, gs, hgs, hgo⟩ := st
    obtain ⟨m, hm⟩ : ∃ m, all.length - i = m + 1 := ⟨all.length - i - 1, by omega⟩
    rw [hm] at hgo
    refine wpAny_with_toks (Nat.le_refl s.toks) ?_
    refine next_gen (P := fun n s₀ s₁ => n = 0 ∧ Since (SfOf h₀ X a) s₀ s₁) hh hl hroom hg hgs (hgo _ fun _ _ _ e => e) (fun v _ hv => ?_) (fun _ h' hp hk => ?_)
    · obtain ⟨s₁, gs', rfl, hbare, ⟨out, hi', hout⟩, ⟨h₁, tk₁, rfl, hk₁⟩, hkap⟩ := hv
      have hidx : all.length - 1 - (m + 1 - 1) = i := by omega
      rw [hidx] at hi'
      intro htk
      have k0 : ∀ b o, h₀.get? b = some o → h₁.get? b = some o := fun b o e => hk₁ b o (Or.inr (Or.inr ⟨o, e⟩)) (h0k b o e)
      have alive : h₁.IsGen a g := let ⟨o, nm, qn, ho, r⟩ := hg; ⟨o, nm, qn, hk₁ a o (Or.inr (Or.inl rfl)) ho, r⟩
      refine hQ v _ ⟨⟨out, hi', hout⟩, alive⟩ ⟨alive, hl0.keeps k0, k0, gs', setGen_self (gs := .running) (setGen_self hgs), fun s'' hal => ?_⟩
        ⟨fun b o hb e => hk₁ b o (Or.inl hb) e, fun b o e0 e => hk₁ b o (Or.inr (Or.inr ⟨o, e0⟩)) e, fun hb => allBare_set (allBare_set hb rfl) hbare, fun h => (nomatch h), rfl, rfl, htk⟩
      have e : all.length - (i + 1) = m := by omega
      rw [e]
      exact hkap s'' hal
    · obtain ⟨_, _, hp⟩ := hp
      exact absurd hp.1 (Nat.succ_ne_zero m)
  done := fun s Q E st hQ => by
    obtain ⟨hg, hl, h0k, gs, hgs, hgo⟩ := st
    rw [Nat.sub_self] at hgo
    refine wpAny_with_toks (Nat.le_refl s.toks) ?_
    refine next_gen (P := fun n s₀ s₁ => n = 0 ∧ Since (SfOf h₀ X a) s₀ s₁) hh hl hroom hg hgs (hgo _ fun _ _ _ e => e) (fun v _ hv => ?_) (fun _ h' hp hk => ?_)
    · obtain ⟨s₁, _, _, _, _, _, hkap⟩ := hv
      exact False.elim (hkap s₁ fun _ _ _ e => e)
    · obtain ⟨_, rfl, _, h₁, tk₁, rfl, hk₁⟩ := hp
      intro htk
      exact hQ _ ⟨fun b o hb e => hk b o (hk₁ b o (Or.inl hb) e), fun b o e0 e => hk b o (hk₁ b o (Or.inr (Or.inr ⟨o, e0⟩)) e), fun hb => allBare_set (allBare_set hb rfl) rfl, fun h => (nomatch h), rfl, rfl, htk⟩
  self := fun _ _ _ _ st hQ => wpAny_pyIter_gen st.1 hQ
end
end Mine
end

section
open PySem PySem.W PySem.Calls PyProof.Rows
set_option Elab.async false
set_option maxRecDepth 100000
set_option maxHeartbeats 8000000
namespace Mine
section
variable {prog : Program} {w : World} {A : Around} {s : Shared} {e1 t1 e2 t2 e3 t3 iter : Expr} {st1 st2 a1 a2 : Stmt}
theorem enterG {K : Frag} {G : Heap → Prop} {R : Result → Shared → Prop} {x : Str} {t : Tok} {pa pb pt p1 q1 p2 q2 r1 r2 pf p3 q3 r3 : Pos} {kt : Nat}
    {name qual : Str} {params : Arguments} {scope : Scope} {dV kV doc pm cdv ct oc : Value} {an od : Option Addr} {osl : Array (Option Value)} {f : Addr}
    (hh : A.handled = none) (X : K.In s.heap) (hlim : s.heap.NoLimit)
    (ho : K.lookup f = some ⟨oc, od, .func (fnOf name qual params (escBody a1 a2 iter e1 t1 e2 t2 e3 t3 st1 st2 pa pb pt p1 q1 p2 q2 r1 r2 pf p3 q3 r3 kt) scope dV kV doc pm an cdv ct), osl⟩) (hcd : codeIn K cdv qual = true) (hroom : A.depth < recursionLimit)
    (hbind : bindArgs (fnOf name qual params (escBody a1 a2 iter e1 t1 e2 t2 e3 t3 st1 st2 pa pb pt p1 q1 p2 q2 r1 r2 pf p3 q3 r3 kt) scope dV kV doc pm an cdv ct) ⟨[.str x t], []⟩ = pure [(Str.ofString "addr", .str x t)]) (hloc : scope.names.lookup (Str.ofString "addr") = some .local)
    (hx1 : ∀ L, (envOf qual scope L f cdv).kindOf (Str.ofString "pos") = some .local) (hx2 : ∀ L, (envOf qual scope L f cdv).kindOf (Str.ofString "ch") = some .local) (hin : ∀ L, interactive (envOf qual scope L f cdv) = false)
    (hco : scope.isCoroutine = false) (hgen : scope.isGenerator = true) (hk : scope.kind = .function) (hcell : ∀ x ∈ scope.names, x.2 ≠ .cell)
    (P : ∀ L h₀, G h₀ → Pieces prog w (envOf qual scope L f cdv) h₀ e1 t1 e2 t2 e3 t3 st1 st2) (Hd : ∀ L h₀, G h₀ → Heads prog w (envOf qual scope L f cdv) h₀ a1 a2 iter)
    (ret : ∀ a h' gs' tk', Keep s.heap h' → s.toks ≤ tk' → s.heap.objs.size ≤ a → (AllBare s.gens → AllBare gs') →
      (∀ h₀ X, (∀ b ∈ X, b < s.heap.objs.size) → (∀ b ∈ X, h₀.get? b = none) → G h₀ → h₀.NoLimit → h₀.objs.size ≤ s.heap.objs.size → (∀ b o, h₀.get? b = some o → s.heap.get? b = some o) →
        ∃ St, Iter false prog w A h₀ X (.ref a) (escOuts x.cps.toList 0 false).length St (fun i v s => (∃ out, (escOuts x.cps.toList 0 false)[i]? = some out ∧ IsOut v out s.heap) ∧ ∃ g, s.heap.IsGen a g) ∧ St 0 { s with heap := h', gens := gs', toks := tk' }) →
      R (.ok (.ret (.ref a))) { s with heap := h', gens := gs', toks := tk' }) :
    codeAny (model prog w) A (.call (.ref f) ⟨[.str x t], []⟩) R s := by
  refine codeAny_call_generator hroom (X _ _ ho) rfl hco hgen rfl (codeRec_of X hcd) ?_
  rw [hbind]
  refine wpAny_pure (wpAny_newFunctionEnv hcell (fun y hy => by rw [List.mem_singleton.mp hy]; exact hloc) (fun h₁ hns hsb => ?_) hk)
  dsimp only at hns hsb ⊢
  have up : ∀ b o, s.heap.get? b = some o → h₁.get? b = some o := fun b o e => hsb.extBut b o (Nat.ne_of_lt (Heap.lt_size e)) (Heap.get?_push_of_some _ e)
  have hz : h₁.objs.size = s.heap.objs.size + 1 := by rw [hsb.1, Heap.size_push]
  refine ⟨hlim.keeps up, ?_⟩
  have upg : ∀ (og : Obj) b o, h₁.get? b = some o → (h₁.push og).get? b = some o := fun og b o e => Heap.get?_push_of_some _ e
  have hres := ret h₁.objs.size
  refine ret h₁.objs.size _ _ _ (fun b o e => upg _ b o (up b o e)) (by simp; omega) (by rw [hz]; exact Nat.le_succ _) (fun hb => AllBare.push hb rfl) ?_
  intro h₀ Xs hXlt hX0 hG hl0 hsz hk0
  have hCX : s.heap.objs.size ∉ Xs := fun q => Nat.lt_irrefl _ (hXlt _ q)
  have haX : h₁.objs.size ∉ Xs := fun q => Nat.lt_irrefl _ (Nat.lt_trans (by rw [hz]; exact Nat.lt_succ_self _) (hXlt _ q))
  have hnone : ∀ b, s.heap.objs.size ≤ b → h₀.get? b = none := fun b hb => Heap.get?_none_of_le (Nat.le_trans hsz hb)
  refine ⟨GenSt prog w A h₀ Xs h₁.objs.size s.gens.size (escOuts x.cps.toList 0 false), ?_, ?_⟩
  · have W := iter_gen (prog := prog) (w := w) (A := A) (h₀ := h₀) (X := Xs) (a := h₁.objs.size) (g := s.gens.size) (all := escOuts x.cps.toList 0 false) hh hroom haX hX0 hl0 (hnone _ (by rw [hz]; exact Nat.le_succ _))
    exact ⟨W.frame, fun i s Q E hi st hq => W.item i s Q E hi st fun v s' hv => hq v s' ⟨hv.1, _, hv.2⟩, W.done, W.self⟩
  · refine ⟨⟨_, _, _, Heap.get?_push_size _ rfl, rfl, rfl, rfl⟩, hlim.keeps fun b o e => upg _ b o (up b o e), fun b o e => upg _ b o (up b o (hk0 b o e)), .fresh _, Array.getElem?_push_size .., fun s'' hal => ⟨rfl, ?_⟩⟩
    have hG1 : SfOf h₀ Xs h₁.objs.size s.heap.objs.size → False := fun q => by
      rcases q with q | q | ⟨o, e⟩
      · exact hCX q
      · rw [hz] at q; exact Nat.ne_of_lt (Nat.lt_succ_self _) q
      · rw [hnone _ (Nat.le_refl _)] at e; cases e
    have Fs : Fr h₀ s.heap.objs.size s''.heap (fun y => [(Str.ofString "addr", Value.str x t)].reverse.lookup y) :=
      ⟨hns.at' fun o e => hal _ o hCX (upg _ _ o e), fun b o e => hal b o (fun q => by rw [hX0 b q] at e; cases e) (upg _ b o (up b o (hk0 b o e))), hsz⟩
    refine esc_func (A := A.in1) (env := envOf qual scope s.heap.objs.size f cdv) (a := h₁.objs.size) hh (P _ h₀ hG) (Hd _ h₀ hG) hk (hx1 _) (hx2 _) hco (hin _) ⟨fun q => hG1 q, hCX⟩ ?_ ?_ ?_ s'' s'' _ Fs rfl (Since.refl _ _) ⟨_, hal _ _ haX (Heap.get?_push_size _ rfl)⟩
    · show h₁.objs.size ≠ s.heap.objs.size
      rw [hz]; exact Nat.ne_of_gt (Nat.lt_succ_self _)
    · intro b hb
      have hb' : s.heap.objs.size ≤ b := by
        rw [hz] at hb
        exact Nat.le_of_lt (Nat.lt_trans (Nat.lt_succ_self _) hb)
      refine ⟨fun q => ?_, fun q => Nat.lt_irrefl _ (Nat.lt_of_lt_of_le (hXlt _ q) hb')⟩
      rcases q with q | q | ⟨o, e⟩
      · exact Nat.lt_irrefl _ (Nat.lt_of_lt_of_le (hXlt _ q) hb')
      · rw [q] at hb; exact Nat.lt_irrefl _ hb
      · rw [hnone _ hb'] at e; cases e
    · intro b o e
      exact ⟨Or.inr (Or.inr ⟨o, e⟩), fun q => by rw [hX0 b q] at e; cases e⟩
end
end Mine
end

section
open PySem PySem.W PySem.Calls PyProof.Rows
set_option Elab.async false
set_option maxRecDepth 100000
set_option maxHeartbeats 8000000
namespace Mine
theorem chr_beq (c d : Nat) : ((⟨#[c]⟩ : Str) == ⟨#[d]⟩) = decide (c = d) := mk_one_beq c d
section
variable {w : World} {A : Around} {s : Shared} {Q E : Value → Shared → Prop} {mean : ExcName → Option Value} {mg mb : Str → Option Value}
theorem lines_off8 : True := by
  w_top off
  trivial
local macro_rules | `(tactic| walk_at "execs cons") => `(tactic| (refine wpAny_execs_cons ?_; (try dsimp only)))
local macro_rules | `(tactic| walk_at "execs nil") => `(tactic| (refine wpAny_execs_nil ?_; (try dsimp only)))
local macro_rules | `(tactic| walk_at "eval Name") => `(tactic| (k_dflt (refine' ld ?k1 ?k2 ?_; (case k1 => k_asm); (case k2 => first | exact rfl | assumption); k_whole)))
local macro_rules | `(tactic| walk_at "newTuple") => `(tactic| refine Halt.out ?_)
local macro_rules | `(tactic| walk_at "storeName") => `(tactic| refine Halt.out ?_)
local macro_rules | `(tactic| walk_at "call type:enumerate") => `(tactic| refine Halt.out ?_)

theorem chars_ok (hh : A.handled = none) (hA : A.depth < recursionLimit) (X : (hd.heap_39 w.params).In s.heap) (T : Top hd.view_39 (looseW hd.view_39 []) mean mg mb s.heap)
    (x : Str) (t : Tok) (hx : x.length ≤ 100000)
    (ret : ∀ a h' gs' tk', Keep s.heap h' → s.toks ≤ tk' → s.heap.objs.size ≤ a → (AllBare s.gens → AllBare gs') →
      (∀ h₀ X, (∀ b ∈ X, b < s.heap.objs.size) → (∀ b ∈ X, h₀.get? b = none) → (hd.heap_39 w.params).In h₀ → TopRead hd.view_39 (looseW hd.view_39 []) mg mb h₀ → h₀.objs.size ≤ s.heap.objs.size → (∀ b o, h₀.get? b = some o → s.heap.get? b = some o) →
        ∃ St, Iter false PySem.Challenge.rw_ux0011_01.row.prog w A h₀ X (.ref a) (escOuts x.cps.toList 0 false).length St (fun i v s => (∃ out, (escOuts x.cps.toList 0 false)[i]? = some out ∧ IsOut v out s.heap) ∧ ∃ g, s.heap.IsGen a g) ∧ St 0 { s with heap := h', gens := gs', toks := tk' }) →
      Q (.ref a) { s with heap := h', gens := gs', toks := tk' }) :
    wpAny (model PySem.Challenge.rw_ux0011_01.row.prog w) A (call (.ref 21) [.str x t]) Q E s := by
  obtain ⟨_, dp, fr, gd, un⟩ := A
  dsimp only at hh hA
  subst hh
  revert X; k_fill; intro X
  refine wpAny_call ?_
  refine' enterG (G := fun h₀ => (hd.heap_39 w.params).In h₀ ∧ TopRead hd.view_39 (looseW hd.view_39 []) mg mb h₀) (t := t) (x := x) rfl ?kX ?klim ?k6 ?k7 ?k8 ?k9 ?kloc ?kx1 ?kx2 ?kin ?kco ?kgen ?kk ?kcell ?P ?Hd ?ret
  (case kX => assumption); (case klim => exact TopRead.nolimit (by k_asm)); (case k6 => k_is); (case k7 => k_is); (case k8 => exact hA); (case k9 => exact rfl); (case kloc => exact rfl); (case kx1 => exact fun _ => rfl); (case kx2 => exact fun _ => rfl); (case kin => exact fun _ => rfl); (case kco => exact rfl); (case kgen => exact rfl); (case kk => exact rfl); (case kcell => decide)
  case P =>
    intro L h₀ hG
    obtain ⟨XG, TG⟩ := hG
    constructor
    case e1 =>
      rintro ⟨_, dp', fr', gd', un'⟩ s m esc hh' F hm
      dsimp only at hh'; subst hh'
      k_steps
      exact ⟨_, _, rfl, fun _ _ e => e⟩
    case e3 =>
      rintro ⟨_, dp', fr', gd', un'⟩ s m esc hh' F hm
      dsimp only at hh'; subst hh'
      k_steps
      exact ⟨_, _, rfl, fun _ _ e => e⟩
    case e2 =>
      rintro ⟨_, dp', fr', gd', un'⟩ s m c t hh' F hm
      dsimp only at hh'; subst hh'
      k_steps
      · exact chr_beq c 92
      · exact ⟨_, _, rfl, fun _ _ e => e⟩
    case t1 =>
      rintro ⟨_, dp', fr', gd', un'⟩ s m i c u t hh' F hm1 hm2
      dsimp only at hh'; subst hh'
      k_steps
      refine Halt.of (wpAny_newTuple ?_)
      exact ⟨⟨_, _, _, rfl, _, Heap.get?_push_size _ rfl, rfl, _, rfl⟩, _, _, rfl, fun _ _ e => Heap.get?_push_of_some _ e⟩
    case t2 =>
      rintro ⟨_, dp', fr', gd', un'⟩ s m i c u t hh' F hm1 hm2
      dsimp only at hh'; subst hh'
      k_steps
      refine Halt.of (wpAny_newTuple ?_)
      exact ⟨⟨_, _, _, rfl, _, Heap.get?_push_size _ rfl, rfl, _, rfl⟩, _, _, rfl, fun _ _ e => Heap.get?_push_of_some _ e⟩
    case t3 =>
      rintro ⟨_, dp', fr', gd', un'⟩ s m i u hh' F hm1
      dsimp only at hh'; subst hh'
      k_steps
      refine Halt.of (wpAny_newTuple ?_)
      exact ⟨⟨_, _, _, rfl, _, Heap.get?_push_size _ rfl, rfl, _, rfl⟩, _, _, rfl, fun _ _ e => Heap.get?_push_of_some _ e⟩
    case s1 =>
      rintro ⟨_, dp', fr', gd', un'⟩ s m hh' F
      dsimp only at hh'; subst hh'
      k_steps
      refine Halt.of (wpAny_storeName_local rfl F.ns (fun h' hn hs => ?_) rfl)
      exact ⟨rfl, h', _, rfl, F.set hn hs, fun b o hb e => hs.extBut b o hb e⟩
    case s2 =>
      rintro ⟨_, dp', fr', gd', un'⟩ s m hh' F
      dsimp only at hh'; subst hh'
      k_steps
      refine Halt.of (wpAny_storeName_local rfl F.ns (fun h' hn hs => ?_) rfl)
      exact ⟨rfl, h', _, rfl, F.set hn hs, fun b o hb e => hs.extBut b o hb e⟩
  case Hd =>
    intro L h₀ hG
    obtain ⟨XG, TG⟩ := hG
    constructor
    case a1 =>
      rintro ⟨_, dp', fr', gd', un'⟩ s m hh' F
      dsimp only at hh'; subst hh'
      k_steps
      refine Halt.of (wpAny_storeName_local rfl F.ns (fun h' hn hs => ?_) rfl)
      exact ⟨rfl, h', _, rfl, ⟨_, F.set hn hs⟩, fun b o hb e => hs.extBut b o hb e⟩
    case a2 =>
      rintro ⟨_, dp', fr', gd', un'⟩ s m hh' F
      dsimp only at hh'; subst hh'
      k_steps
      refine Halt.of (wpAny_storeName_local rfl F.ns (fun h' hn hs => ?_) rfl)
      exact ⟨rfl, h', _, rfl, F.set hn hs, fun b o hb e => hs.extBut b o hb e⟩
    case it =>
      rintro ⟨_, dp', fr', gd', un'⟩ s m x t hh' F hm
      dsimp only at hh'; subst hh'
      k_steps
      refine Halt.of (call_enumerate_str fun h' he hsi hsz hk => ?_)
      exact ⟨s.heap.objs.size + 1, s.heap.objs.size, rfl, Nat.le_refl _, Nat.le_succ _, Nat.succ_ne_self _, he, hsi, h', _, rfl, hk⟩
    case fold => exact fun _ => rfl
  case ret =>
    intro a h' gs' tk' k1 k2 k3 k4 k5
    exact ret a h' gs' tk' k1 k2 k3 k4 fun h₀ Xs a1 a2 a3 a4 a5 a6 => k5 h₀ Xs a1 a2 ⟨a3, a4⟩ a4.nolimit a5 a6
end
end Mine
end

section
open PySem PySem.W PySem.Calls PyProof.Rows
set_option Elab.async false
set_option maxRecDepth 100000
set_option maxHeartbeats 8000000
namespace Mine
theorem go_gen {prog : Program} {w : World} {A : Around} {E : Value → Shared → Prop} {s : Shared} {elts : List Expr} {x1} {pos : Pos} {I T : Addr} {g : Nat} {Q : Unit → Shared → Prop} (hg : s.heap.IsGen I g) (hQ : Q () s) :
    wpAny (model prog w) A (letOwnedTupleGo (.Tuple elts x1 pos) (.ref I) (.ref T)) Q E s := by
  obtain ⟨o, nm, qn, ho, hc, hd, hsl⟩ := hg
  unfold letOwnedTupleGo
  refine wpAny_bind (wpAny_load ho ?_)
  rw [hc, hd]
  exact wpAny_pure hQ
theorem TurnEnd.of {h₀ : Heap} {L : Addr} {as : List Addr} {own : List (Addr × Obj)} {J : (Str → Option Value) → List (Addr × Obj) → Prop} {Q : Flow → Shared → Prop} {s₁ : Shared} {h₂ : Heap} {tk₂ : Nat} : ∀ {f : Flow} {s₃ : Shared},
    TurnEnd h₀ L as own J Q { s₁ with heap := h₂, toks := tk₂ } f s₃ → TurnEnd h₀ L as own J Q s₁ f s₃
  | .ret _, _, h => h
  | .brk, _, h => h
  | .next, _, ⟨h', tk, m', news', e, r⟩ => ⟨h', tk, m', news', e, r⟩
  | .cont, _, ⟨h', tk, m', news', e, r⟩ => ⟨h', tk, m', news', e, r⟩
section
variable {w : World} {A : Around} {s : Shared} {E : Value → Shared → Prop} {env : Env} {h₀ : Heap} {mean : ExcName → Option Value} {mg mb : Str → Option Value}
theorem for_chars {R : Result → Shared → Prop} {x : Str} {t : Tok} {body : List Stmt} {pa pb pt : Pos} {kt : Nat} {m : Str → Option Value} {news : List (Addr × Obj)}
    (hh : A.handled = none) (hA : A.depth < recursionLimit) (X : (hd.heap_39 w.params).In h₀) (T : Top hd.view_39 (looseW hd.view_39 []) mean mg mb h₀) (hx : x.length ≤ 100000)
    (hk : env.scope.kind = .function) (hx1 : env.kindOf (Str.ofString "pos") = some .local) (hx2 : env.kindOf (Str.ofString "ch") = some .local)
    (F : Fr h₀ env.locals s.heap m) (N : News h₀ env.locals s.heap news)
    (J : Nat → (Str → Option Value) → List (Addr × Obj) → Prop) (hJ : J 0 m news)
    (step : ∀ E i p c u₁ u₂ m₁ news₁ own s₁, (escOuts x.cps.toList 0 false)[i]? = some (p, c) → J i m₁ news₁ → news₁.map (·.1) = news.map (·.1) → OwnOff own (news.map (·.1)) → (AllBare s.gens → AllBare s₁.gens) → s₁.drawn = s.drawn → s₁.os = s.os → s.toks ≤ s₁.toks →
      Fr h₀ env.locals s₁.heap (fun y => if y = Str.ofString "ch" then some (.str c u₂) else if y = Str.ofString "pos" then some (.int (p : Nat) u₁) else m₁ y) → News h₀ env.locals s₁.heap (news₁ ++ own) →
      wpAny (model PySem.Challenge.rw_ux0011_01.row.prog w) A (execs body env) (TurnEnd h₀ env.locals (news.map (·.1)) own (J (i + 1)) (fun f s' => R (.ok f) s') s₁) E s₁)
    (done : ∀ m' news' s', J (escOuts x.cps.toList 0 false).length m' news' → news'.map (·.1) = news.map (·.1) → (AllBare s.gens → AllBare s'.gens) → s'.drawn = s.drawn → s'.os = s.os → s.toks ≤ s'.toks → Fr h₀ env.locals s'.heap m' → News h₀ env.locals s'.heap news' → R (.ok .next) s') :
    wpAny (model PySem.Challenge.rw_ux0011_01.row.prog w) A (call (.ref 21) [.str x t]) (fun v s₁ => wpAny (model PySem.Challenge.rw_ux0011_01.row.prog w) A (pyIter v) (fun it s₂ =>
      codeAny (model PySem.Challenge.rw_ux0011_01.row.prog w) A (.forLoop (.Tuple [.Name (Str.ofString "pos") pa, .Name (Str.ofString "ch") pb] kt pt) it body [] env) R s₂) E s₁) E s := by
  have hp : (env.scope.kind == .class || (env.scope.kind == .module && env.locals != env.globals)) = false := by rw [hk]; rfl
  have hL := F.ns.lt
  refine chars_ok hh hA (X.keeps F.keep) (T.keeps F.keep) x t hx fun a h' gs' tk' k1 k2 k3 k4 k5 => ?_
  have side1 : ∀ b ∈ env.locals :: news.map (·.1), b < s.heap.objs.size := fun b hb => by
    rcases List.mem_cons.mp hb with rfl | hb
    · exact hL
    · obtain ⟨q, hq, rfl⟩ := List.mem_map.mp hb
      exact Heap.lt_size (N q hq).1
  have side2 : ∀ b ∈ env.locals :: news.map (·.1), h₀.get? b = none := fun b hb => by
    rcases List.mem_cons.mp hb with rfl | hb
    · exact Heap.get?_none_of_le F.above
    · obtain ⟨q, hq, rfl⟩ := List.mem_map.mp hb
      exact (N q hq).2.2
  obtain ⟨St, W, hst⟩ := k5 h₀ (env.locals :: news.map (·.1)) side1 side2 X (topRead_of T) (Nat.le_trans F.above (Nat.le_of_lt hL)) F.keep
  refine W.self 0 _ _ _ hst ?_
  refine loopI W hst (F.keeps k1) (N.grown k1) rfl J hJ ?_ ?_
  · rintro E i v m₁ news₁ own s₁ hi ⟨⟨⟨p, c⟩, hout, Tp, u₁, u₂, rfl, hTp⟩, g, hg⟩ hJ₁ hmap hoff hb₁ _ hd₁ ho₁ ht₁ F₁ N₁ _
    refine go_gen hg ?_
    refine wpAny_assign_Tuple hh hTp rfl rfl fun h₁ hx₁ => ?_
    have old₁ : ∀ b o, s₁.heap.get? b = some o → h₁.get? b = some o := fun b o e => hx₁ b o (Nat.ne_of_lt (Heap.lt_size e)) e
    have F₂ := F₁.keeps old₁
    have N₂ := N₁.grown old₁
    show wpAny _ _ (do holding [.str c u₂] (assign (.Name (Str.ofString "pos") pa) env (.int p u₁)); do holding [] (assign (.Name (Str.ofString "ch") pb) env (.str c u₂)); pure ()) _ _ _
    refine wpAny_bind (wpAny_holding (wpAny_assign_Name (wpAny_storeName_local hx1 F₂.ns (fun h₂a hn₂a hs₂a => ?_) hp)))
    have F₃ := F₂.set hn₂a hs₂a
    have N₃ := N₂.set hs₂a
    refine wpAny_bind (wpAny_holding (wpAny_assign_Name (wpAny_storeName_local hx2 F₃.ns (fun h₂ hn₂ hs₂ => wpAny_pure ?_) hp)))
    have F₄ := F₃.set hn₂ hs₂
    have N₄ := N₃.set hs₂
    refine wpAny_mono (step E i p c u₁ u₂ m₁ news₁ own { s₁ with heap := h₂, toks := s₁.toks + 1 + 1 } hout hJ₁ hmap hoff (fun hb => hb₁ (k4 hb)) hd₁ ho₁ (Nat.le_trans k2 (Nat.le_trans ht₁ (Nat.le_trans (Nat.le_succ _) (Nat.le_succ _)))) F₄ N₄) (fun f s₅ h₅ => h₅.of) fun _ _ e => e
  · intro m' news' s' hJ' hmap hb _ hd ho ht F' N'
    exact done m' news' s' hJ' hmap (fun hb' => hb (k4 hb')) hd ho (Nat.le_trans k2 ht) F' N'
end
end Mine
end

section
open PySem PySem.W PySem.Calls PyProof.Rows
set_option Elab.async false
set_option maxRecDepth 100000
set_option maxHeartbeats 8000000
namespace Mine
def stripStep (x : Str) (st : Nat × Option Nat × List Str) (out : Nat × Str) : Nat × Option Nat × List Str :=
  if out.2 = Str.ofString "\"" then
    match st.2.1 with
    | none => (st.1, some out.1, st.2.2)
    | some o => (out.1 + 1, none, if st.1 = o then st.2.2 else st.2.2 ++ [Txt.slice x (some (st.1 : Int)) (some (o : Int))])
  else st
def stripGo (x : Str) (k : Nat) : Nat × Option Nat × List Str := ((escOuts x.cps.toList 0 false).take k).foldl (stripStep x) (0, none, [])
theorem stripGo_succ (x : Str) {k : Nat} {out : Nat × Str} (h : (escOuts x.cps.toList 0 false)[k]? = some out) : stripGo x (k + 1) = stripStep x (stripGo x k) out := by
  unfold stripGo
  rw [List.take_add_one, h, List.foldl_append]; rfl
def stripRes (x : Str) : List Str :=
  let st := stripGo x (escOuts x.cps.toList 0 false).length
  if st.1 < x.length then st.2.2 ++ [Txt.slice x (some (st.1 : Int)) none] else st.2.2
def stripOf (x : Str) : Str := if (Builtin.Str.occurrences x (Str.ofString "\"") 0 x.length 1).isEmpty = true then x else Txt.join (Str.ofString "") (stripRes x)
theorem strs_snoc {vs : List Value} {ys : List Str} (h : StrsAre vs ys) (y : Str) (t : Tok) : StrsAre (vs ++ [.str y t]) (ys ++ [y]) := by
  induction h with
  | nil => exact .cons y t .nil
  | cons z u _ ih => exact .cons z u ih
theorem strs_len {vs : List Value} {ys : List Str} (h : StrsAre vs ys) : vs.length = ys.length := StrsAre.length h
theorem esc_len : ∀ (l : List Nat) (i : Nat) (e : Bool), (escOuts l i e).length ≤ l.length + 1
  | [], i, e => by cases e <;> simp [escOuts]
  | c :: r, i, true => by simp only [escOuts, List.length_cons]; have := esc_len r (i + 1) false; omega
  | c :: r, i, false => by
    simp only [escOuts]
    split
    · have := esc_len r (i + 1) true; simp only [List.length_cons]; omega
    · simp only [List.length_cons]; have := esc_len r (i + 1) false; omega
theorem sum_le (l : List Str) (h : ∀ y ∈ l, y.length ≤ 100) : (l.map (·.length)).sum ≤ 100 * l.length := by
  induction l with
  | nil => simp
  | cons y l ih =>
    have h1 := h y (List.mem_cons_self ..)
    have h2 := ih fun z hz => h z (List.mem_cons_of_mem _ hz)
    simp only [List.map_cons, List.sum_cons, List.length_cons]
    omega
section
variable {w : World} {A : Around} {s : Shared} {Q E : Value → Shared → Prop} {mean : ExcName → Option Value} {mg mb : Str → Option Value}
theorem lines_off9 : True := by
  w_top off
  trivial
local macro_rules | `(tactic| walk_at "execs cons") => `(tactic| (refine wpAny_execs_cons ?_; (try dsimp only)))
local macro_rules | `(tactic| walk_at "execs nil") => `(tactic| (refine wpAny_execs_nil ?_; (try dsimp only)))
local macro_rules | `(tactic| walk_at "exec For Tuple Call cons nil") => `(tactic| refine Halt.out ?_)
local macro_rules | `(tactic| walk_at "pyIter ref") => `(tactic| refine Halt.out ?_)
local macro_rules | `(tactic| walk_at "call ref") => `(tactic| refine Halt.out ?_)
local macro_rules | `(tactic| walk_at "call builtin:str.join") => `(tactic| refine Halt.out ?_)
local macro_rules | `(tactic| walk_at "call builtin:list.append") => `(tactic| refine Halt.out ?_)
local macro_rules | `(tactic| walk_at "eval Name") => `(tactic| (k_dflt (refine' ld ?k1 ?k2 ?_; (case k1 => k_asm); (case k2 => first | exact rfl | assumption); k_whole)))

theorem strip_ok (hh : A.handled = none) (hA : A.depth + 1 < recursionLimit) (X : (hd.heap_39 w.params).In s.heap) (T : Top hd.view_39 (looseW hd.view_39 []) mean mg mb s.heap)
    (x : Str) (u : Tok) (hx : x.length ≤ 100)
    (ret : ∀ t h' gs' tk', Keep s.heap h' → s.toks ≤ tk' → (AllBare s.gens → AllBare gs') → Q (.str (stripOf x) t) { s with heap := h', gens := gs', toks := tk' }) :
    wpAny (model PySem.Challenge.rw_ux0011_01.row.prog w) A (call (.ref 28) [.str x u]) Q E s := by
  obtain ⟨_, dp, fr, gd, un⟩ := A
  dsimp only at hh hA
  subst hh
  revert X; k_fill; intro X
  refine wpAny_with_toks (Nat.le_refl s.toks) ?_
  refine wpAny_call ?_
  refine' enterK (binds := [(Str.ofString "addr", .str x u)]) ?kX ?klim ?k6 ?k7 ?k8 ?k9 ?kB ?kbody ?c2 ?c3 ?c4 ?c5
  (case kX => assumption); (case klim => exact TopRead.nolimit (by k_asm)); (case k6 => k_is); (case k7 => k_is); (case k8 => first | assumption | (dsimp only; omega)); (case k9 => exact BindsTo.of_eq rfl); (case c5 => decide); (case kB => exact locs rfl); (case c2 => exact rfl); (case c3 => exact rfl); (case c4 => exact rfl)
  intro L h₁ hL F N
  k_steps
  · have e : stripOf x = x := if_pos (by assumption)
    rw [e] at ret
    exact ret _ _ _ _ (Fr.keep (by assumption)) (by assumption) id
  · have e : stripOf x = Txt.join (Str.ofString "") (stripRes x) := if_neg (Bool.eq_false_iff.mp (by assumption))
    rw [e] at ret
    clear e
    refine Halt.of (wpAny_For ?_)
    k_steps
    (with_reducible rename Fr _ _ _ _ => F2)
    (with_reducible rename News _ _ _ _ => N2)
    rename_i l' _ _ _
    refine Halt.of (for_chars (env := envOf _ _ _ _ _) rfl (by exact hA) X T (by omega) rfl rfl rfl F2 N2
      (fun k m' news' => ∃ its n, news' = [(l', listOf its n)] ∧ StrsAre its.toList (stripGo x k).2.2 ∧ (stripGo x k).2.2.length ≤ k ∧ (∀ y ∈ (stripGo x k).2.2, y.length ≤ 100) ∧
        m' (Str.ofString "addr") = some (.str x u) ∧ m' (Str.ofString "result") = some (.ref l') ∧ (∃ t, m' (Str.ofString "start") = some (.int (stripGo x k).1 t)) ∧
        ((stripGo x k).2.1 = none ∧ m' (Str.ofString "open_pos") = some .none ∨ ∃ o t, (stripGo x k).2.1 = some o ∧ m' (Str.ofString "open_pos") = some (.int (o : Nat) t)))
      ⟨#[], 0, rfl, .nil, Nat.le_refl _, (fun _ h => (nomatch h)), rfl, rfl, ⟨_, rfl⟩, Or.inl ⟨rfl, rfl⟩⟩ ?step ?done)
    case step =>
      rintro E k p c u₁ u₂ m₁ news₁ own s₁ hout ⟨its, n, rfl, hits, hlen, hall, haddr, hres, ⟨ts, hstart⟩, hopen⟩ hmap hoff hb₁ hd₁ ho₁ ht₁ F₁ N₁
      have hsucc := stripGo_succ x hout
      have hkl : k < (escOuts x.cps.toList 0 false).length := (List.getElem?_eq_some_iff.mp hout).1
      have hel := esc_len x.cps.toList 0 false
      have hxl : x.cps.toList.length = x.length := by simp [Str.length]
      have hsz : its.size ≤ 1000 := by
        have := strs_len hits
        rw [Array.length_toList] at this
        omega
      rcases hopen with ⟨hon, hop⟩ | ⟨o, to, hon, hop⟩
      · k_steps
        · have hq : c = Str.ofString "\"" := beq_iff_eq.mp (by assumption)
          have hst : stripGo x (k + 1) = ((stripGo x k).1, some p, (stripGo x k).2.2) := by rw [hsucc, stripStep, if_pos hq, hon]
          refine TurnEnd.intro [(l', listOf its n)] (by assumption) (by assumption) (fun p hp => hp) rfl ⟨its, n, rfl, ?_, ?_, ?_, ?_, ?_, ?_, ?_⟩
          · rw [hst]; exact hits
          · rw [hst]; exact Nat.le_succ_of_le hlen
          · rw [hst]; exact hall
          · exact haddr
          · exact hres
          · rw [hst]; exact ⟨ts, hstart⟩
          · rw [hst]; exact Or.inr ⟨p, u₁, rfl, rfl⟩
        · have hq : ¬ c = Str.ofString "\"" := beq_eq_false_iff_ne.mp (by assumption)
          have hst : stripGo x (k + 1) = stripGo x k := by rw [hsucc, stripStep, if_neg hq]
          refine TurnEnd.intro [(l', listOf its n)] (by assumption) (by assumption) (fun p hp => hp) rfl ⟨its, n, rfl, ?_, ?_, ?_, ?_, ?_, ?_, ?_⟩
          · rw [hst]; exact hits
          · rw [hst]; exact Nat.le_succ_of_le hlen
          · rw [hst]; exact hall
          · exact haddr
          · exact hres
          · rw [hst]; exact ⟨ts, hstart⟩
          · rw [hst]; exact Or.inl ⟨hon, hop⟩
      · k_steps
        · have hq : c = Str.ofString "\"" := beq_iff_eq.mp (by assumption)
          have hne : ¬ (stripGo x k).1 = o := by omega
          have hst : stripGo x (k + 1) = (p + 1, none, (stripGo x k).2.2 ++ [Txt.slice x (some ((stripGo x k).1 : Int)) (some (o : Int))]) := by rw [hsucc, stripStep, if_pos hq, hon]; dsimp only; rw [if_neg hne]
          (with_reducible rename Fr _ _ _ _ => F3)
          (with_reducible rename News _ _ _ _ => N3)
          refine Halt.of (appendTo F3 N3 (OwnOff.ne hoff (List.Mem.head _)) hsz ?_)
          intro h₄ F₄ N₄
          dsimp only
          k_steps
          refine TurnEnd.intro [(l', listOf (its.push _) (n + 1))] (by assumption) (by assumption) (fun p hp => hp) rfl ⟨_, n + 1, rfl, ?_, ?_, ?_, ?_, ?_, ?_, ?_⟩
          · rw [hst, Array.toList_push]; exact strs_snoc hits _ _
          · rw [hst]; simp only [List.length_append, List.length_cons, List.length_nil]; omega
          · rw [hst]; intro y hy
            rcases List.mem_append.mp hy with hy | hy
            · exact hall y hy
            · rw [List.mem_singleton.mp hy]; exact Nat.le_trans (Txt.slice_le _ _ _) hx
          · exact haddr
          · exact hres
          · rw [hst]; exact ⟨_, rfl⟩
          · rw [hst]; exact Or.inl ⟨rfl, rfl⟩
        · have hq : c = Str.ofString "\"" := beq_iff_eq.mp (by assumption)
          have hne : (stripGo x k).1 = o := by omega
          have hst : stripGo x (k + 1) = (p + 1, none, (stripGo x k).2.2) := by rw [hsucc, stripStep, if_pos hq, hon]; dsimp only; rw [if_pos hne]
          refine TurnEnd.intro [(l', listOf its n)] (by assumption) (by assumption) (fun p hp => hp) rfl ⟨its, n, rfl, ?_, ?_, ?_, ?_, ?_, ?_, ?_⟩
          · rw [hst]; exact hits
          · rw [hst]; exact Nat.le_succ_of_le hlen
          · rw [hst]; exact hall
          · exact haddr
          · exact hres
          · rw [hst]; exact ⟨_, rfl⟩
          · rw [hst]; exact Or.inl ⟨rfl, rfl⟩
        · have hq : ¬ c = Str.ofString "\"" := beq_eq_false_iff_ne.mp (by assumption)
          have hst : stripGo x (k + 1) = stripGo x k := by rw [hsucc, stripStep, if_neg hq]
          refine TurnEnd.intro [(l', listOf its n)] (by assumption) (by assumption) (fun p hp => hp) rfl ⟨its, n, rfl, ?_, ?_, ?_, ?_, ?_, ?_, ?_⟩
          · rw [hst]; exact hits
          · rw [hst]; exact Nat.le_succ_of_le hlen
          · rw [hst]; exact hall
          · exact haddr
          · exact hres
          · rw [hst]; exact ⟨ts, hstart⟩
          · rw [hst]; exact Or.inr ⟨o, to, hon, hop⟩
    case done =>
      rintro m' news' s' ⟨its, n, rfl, hits, hlen, hall, haddr, hres, ⟨ts, hstart⟩, hopen⟩ hmap hb hd' ho ht F' N'
      have hel := esc_len x.cps.toList 0 false
      have hxl : x.cps.toList.length = x.length := by simp [Str.length]
      have hsz : its.size ≤ 1000 := by
        have := strs_len hits
        rw [Array.length_toList] at this
        omega
      have fin : ∀ t h' tk', Keep s.heap h' → s.toks ≤ tk' → Q (.str (Txt.join (Str.ofString "") (stripRes x)) t) { s' with heap := h', toks := tk' } := fun t h' tk' k1 k2 => by
        have e : { s' with heap := h', toks := tk' } = { s with heap := h', gens := s'.gens, toks := tk' } := by
          obtain ⟨a1, a2, a3, a4, a5⟩ := s'
          dsimp only at hd' ho ⊢
          rw [hd', ho]
        rw [e]
        exact ret t h' s'.gens tk' k1 k2 hb
      k_steps
      · have hr : stripRes x = (stripGo x (escOuts x.cps.toList 0 false).length).2.2 ++ [Txt.slice x (some ((stripGo x (escOuts x.cps.toList 0 false).length).1 : Int)) none] := if_pos (by omega)
        (with_reducible rename Fr _ _ _ _ => F3)
        (with_reducible rename News _ _ _ _ => N3)
        refine Halt.of (appendTo (own := []) F3 N3 (fun _ h => (nomatch h)) hsz ?_)
        intro h₄ F₄ N₄
        dsimp only
        k_steps
        refine Halt.of (join_listC (ys := stripRes x) (News.isList N₄ (List.Mem.head _)) (by rw [hr, Array.toList_push]; exact strs_snoc hits _ _) (by decide) ?_ ?_)
        · rw [hr]
          have h1 := sum_le _ hall
          have h2 := Txt.slice_le x (some ((stripGo x (escOuts x.cps.toList 0 false).length).1 : Int)) none
          simp only [List.map_append, List.sum_append, List.map_cons, List.map_nil, List.sum_cons, List.sum_nil, List.length_append, List.length_cons, List.length_nil]
          omega
        · intro t' k ht'
          exact fin t' _ _ (Fr.keep F₄) ht'
      · have hr : stripRes x = (stripGo x (escOuts x.cps.toList 0 false).length).2.2 := if_neg (by omega)
        refine Halt.of (join_listC (ys := stripRes x) (News.isList N' (List.Mem.head _)) (by rw [hr]; exact hits) (by decide) ?_ ?_)
        · rw [hr]
          have := sum_le _ hall
          omega
        · intro t' k ht'
          exact fin t' _ _ (Fr.keep F') ht'
end
end Mine
end

section
open PySem PySem.W PySem.Calls PyProof.Rows
set_option Elab.async false
set_option maxRecDepth 100000
set_option maxHeartbeats 8000000
namespace Mine
def checkGo : List (Nat × Str) → Int → Bool
  | [], o => decide (o = 0)
  | c :: r, o => if c.2 = Str.ofString "(" then checkGo r (o + 1) else if c.2 = Str.ofString ")" then (if o - 1 < 0 then false else checkGo r (o - 1)) else checkGo r o
def checkOf (x : Str) : Bool := checkGo (escOuts (stripOf x).cps.toList 0 false) 0
theorem drop_at {α : Type} {l : List α} {k : Nat} {a : α} (h : l[k]? = some a) : l.drop k = a :: l.drop (k + 1) := by
  obtain ⟨hk, e⟩ := List.getElem?_eq_some_iff.mp h
  rw [List.drop_eq_getElem_cons hk, e]
section
variable {w : World} {A : Around} {s : Shared} {Q E : Value → Shared → Prop} {mean : ExcName → Option Value} {mg mb : Str → Option Value}
theorem lines_off10 : True := by
  w_top off
  trivial
local macro_rules | `(tactic| walk_at "execs cons") => `(tactic| (refine wpAny_execs_cons ?_; (try dsimp only)))
local macro_rules | `(tactic| walk_at "execs nil") => `(tactic| (refine wpAny_execs_nil ?_; (try dsimp only)))
local macro_rules | `(tactic| walk_at "exec For Tuple Call cons nil") => `(tactic| refine Halt.out ?_)
local macro_rules | `(tactic| walk_at "pyIter ref") => `(tactic| refine Halt.out ?_)
local macro_rules | `(tactic| walk_at "call ref") => `(tactic| refine Halt.out ?_)
local macro_rules | `(tactic| walk_at "eval Name") => `(tactic| (k_dflt (refine' ld ?k1 ?k2 ?_; (case k1 => k_asm); (case k2 => first | exact rfl | assumption); k_whole)))
local macro_rules | `(tactic| walk_at "loadName") => `(tactic| (k_dflt (refine' ldn ?k1 ?k2 ?_; (case k1 => k_asm); (case k2 => first | exact rfl | assumption); k_whole)))

theorem check_ok (hh : A.handled = none) (hA : A.depth + 2 < recursionLimit) (X : (hd.heap_39 w.params).In s.heap) (T : Top hd.view_39 (looseW hd.view_39 []) mean mg mb s.heap)
    (x : Str) (u : Tok) (hx : x.length ≤ 100) (hx2 : (stripOf x).length ≤ 100000)
    (ret : ∀ h' gs' tk', Keep s.heap h' → s.toks ≤ tk' → (AllBare s.gens → AllBare gs') → Q (.bool (checkOf x)) { s with heap := h', gens := gs', toks := tk' }) :
    wpAny (model PySem.Challenge.rw_ux0011_01.row.prog w) A (call (.ref 35) [.str x u]) Q E s := by
  obtain ⟨_, dp, fr, gd, un⟩ := A
  dsimp only at hh hA
  subst hh
  revert X; k_fill; intro X
  refine wpAny_with_toks (Nat.le_refl s.toks) ?_
  refine wpAny_call ?_
  refine' enterK (binds := [(Str.ofString "addr", .str x u)]) ?kX ?klim ?k6 ?k7 ?k8 ?k9 ?kB ?kbody ?c2 ?c3 ?c4 ?c5
  (case kX => assumption); (case klim => exact TopRead.nolimit (by k_asm)); (case k6 => k_is); (case k7 => k_is); (case k8 => first | assumption | (dsimp only; omega)); (case k9 => exact BindsTo.of_eq rfl); (case c5 => decide); (case kB => exact locs rfl); (case c2 => exact rfl); (case c3 => exact rfl); (case c4 => exact rfl)
  intro L h₁ hL F N
  k_steps
  refine Halt.of (strip_ok rfl (by show dp + 1 + 1 < recursionLimit; omega) (Frag.In.keeps X (Fr.keep F)) (Top.keeps T (Fr.keep F)) x u hx ?_)
  intro t2 h2 gs2 tk2 k2 le2 b2
  have F2 := Fr.keeps F k2
  have N2 := News.grown N k2
  dsimp only at le2 b2 ⊢
  k_steps
  refine Halt.of (wpAny_For ?_)
  k_steps
  (with_reducible rename Fr _ _ _ _ => F3)
  (with_reducible rename News _ _ _ _ => N3)
  refine Halt.of (for_chars (env := envOf _ _ _ _ _) rfl (by show dp + 1 < recursionLimit; omega) X T hx2 rfl rfl rfl F3 N3
    (fun k m' news' => news' = [] ∧ ∃ o t, m' (Str.ofString "opens") = some (.int o t) ∧ checkGo ((escOuts (stripOf x).cps.toList 0 false).drop k) o = checkOf x)
    ⟨rfl, 0, _, rfl, rfl⟩ ?step ?done)
  case step =>
    rintro E k p c u₁ u₂ m₁ news₁ own s₁ hout ⟨rfl, o, t, hop, hgo⟩ hmap hoff hb₁ hd₁ ho₁ ht₁ F₁ N₁
    rw [drop_at hout] at hgo
    simp only [checkGo] at hgo
    k_steps
    · rw [if_pos (beq_iff_eq.mp (by assumption))] at hgo
      refine TurnEnd.intro [] (by assumption) (by assumption) (fun p hp => hp) rfl ⟨rfl, o + 1, _, rfl, hgo⟩
    · rw [if_neg (beq_eq_false_iff_ne.mp (by assumption)), if_pos (beq_iff_eq.mp (by assumption)), if_pos (by assumption)] at hgo
      intro ht'
      (with_reducible rename Fr _ _ _ _ => F5)
      dsimp only at ht' F5 ⊢
      rw [← hgo] at ret
      rw [hd₁, ho₁]
      exact ret _ _ _ (Fr.keep F5) ht' (fun h => hb₁ (b2 h))
    · rw [if_neg (beq_eq_false_iff_ne.mp (by assumption)), if_pos (beq_iff_eq.mp (by assumption)), if_neg (by assumption)] at hgo
      refine TurnEnd.intro [] (by assumption) (by assumption) (fun p hp => hp) rfl ⟨rfl, o - 1, _, rfl, hgo⟩
    · rw [if_neg (beq_eq_false_iff_ne.mp (by assumption)), if_neg (beq_eq_false_iff_ne.mp (by assumption))] at hgo
      refine TurnEnd.intro [] (by assumption) (by assumption) (fun p hp => hp) rfl ⟨rfl, o, t, ?_, hgo⟩
      exact hop
  case done =>
    rintro m' news' s' ⟨rfl, o, t, hop, hgo⟩ hmap hb hd' ho ht F' N'
    rw [List.drop_length] at hgo
    k_steps
    have e0 : (o == 0) = checkOf x := by rw [← hgo]; show (o == 0) = decide (o = 0); rw [Bool.eq_iff_iff]; simp
    have e : { s' with toks := s'.toks + 1 } = { s with heap := s'.heap, gens := s'.gens, toks := s'.toks + 1 } := by
      obtain ⟨a1, a2, a3, a4, a5⟩ := s'
      dsimp only at hd' ho ⊢
      rw [hd', ho]
    show Q (.bool (o == 0)) { s' with toks := s'.toks + 1 }
    rw [e, e0]
    exact ret _ _ _ (Fr.keep F') (by assumption) (fun h => hb (b2 h))
end
end Mine
end

section
open PySem PySem.W PySem.Calls PyProof.Rows
set_option Elab.async false
set_option maxRecDepth 100000
set_option maxHeartbeats 8000000
namespace Mine
abbrev comp2 (elt : Expr) (x : Str) (px : Pos) (iter : Expr) (y : Str) (py : Pos) (iter2 : Expr) (scope : Scope) (pos : Pos) : Expr :=
  .ListComp elt [⟨.Name x px, iter, [], 0⟩, ⟨.Name y py, iter2, [], 0⟩] scope pos
theorem turn2_1 (elt : Expr) (x : Str) (px : Pos) (iter : Expr) (y : Str) (py : Pos) (iter2 : Expr) (scope : Scope) (pos : Pos) (it acc : Value) (env : Env) :
    compTurn (comp2 elt x px iter y py iter2 scope pos) 1 it acc env = (do
      standAt iter2.pos
      match ← pyNext it with
      | none => pure (.done .next)
      | some v =>
        letOwnedTupleGo (.Name y py) it v
        assign (.Name y py) env v
        (do let _ ← call (.builtin "list.append") [acc, ← eval elt env])
        again (.compLoop (comp2 elt x px iter y py iter2 scope pos) 1 it acc env)) := by rfl
theorem turn2_0 (elt : Expr) (x : Str) (px : Pos) (iter : Expr) (y : Str) (py : Pos) (iter2 : Expr) (scope : Scope) (pos : Pos) (it acc : Value) (env : Env) :
    compTurn (comp2 elt x px iter y py iter2 scope pos) 0 it acc env = (do
      standAt iter.pos
      match ← pyNext it with
      | none => pure (.done .next)
      | some v =>
        letOwnedTupleGo (.Name x px) it v
        assign (.Name x px) env v
        let xv ← eval iter2 env
        standAt iter2.pos
        let xv ← foldedSetIterable iter2 env xv
        let it2 ← holding [xv] (pyIter xv)
        let _ ← runOwn (.compStart (comp2 elt x px iter y py iter2 scope pos) 1 it2 acc env) env
        again (.compLoop (comp2 elt x px iter y py iter2 scope pos) 0 it acc env)) := by rfl
section
variable {prog : Program} {w : World} {A : Around} {s : Shared} {env : Env} {h₀ : Heap} {E : Value → Shared → Prop}
variable {elt iter iter2 : Expr} {x y : Str} {px py : Pos} {scope : Scope} {pos : Pos}

theorem comp_loop_in {R : Result → Shared → Prop} {it acc : Value} {n : Nat} {St : Nat → Shared → Prop} {It : Nat → Value → Shared → Prop} {m : Str → Option Value} {news : List (Addr × Obj)} {as : List Addr}
    (W : Iter true prog w A h₀ (env.locals :: as) it n St It) (hst : St 0 s) (F : Fr h₀ env.locals s.heap m) (N : News h₀ env.locals s.heap news) (has : news.map (·.1) = as)
    (J : Nat → (Str → Option Value) → List (Addr × Obj) → Prop) (hJ : J 0 m news)
    (step : ∀ E i v m₁ news₁ own h₁ tk₁, i < n → It i v { s with heap := h₁, toks := tk₁ } → J i m₁ news₁ → news₁.map (·.1) = as → OwnOff own as → s.toks ≤ tk₁ →
      Fr h₀ env.locals h₁ m₁ → News h₀ env.locals h₁ (news₁ ++ own) →
      wpAny (model prog w) A (storeName env y v) (fun _ s₂ => wpAny (model prog w) A (eval elt env) (fun z s₄ => wpAny (model prog w) A (call (.builtin "list.append") [acc, z]) (fun _ s₅ => TurnEnd h₀ env.locals as own (J (i + 1)) (fun _ _ => False) { s with heap := h₁, toks := tk₁ } .next s₅) E s₄) E s₂) E { s with heap := h₁, toks := tk₁ })
    (done : ∀ m' news' h' tk', J n m' news' → news'.map (·.1) = as → s.toks ≤ tk' → Fr h₀ env.locals h' m' → News h₀ env.locals h' news' → R (.ok .next) { s with heap := h', toks := tk' }) :
    codeAny (model prog w) A (.compLoop (comp2 elt x px iter y py iter2 scope pos) 1 it acc env) R s := by
  refine blockI (p := iter2.pos) (turn := fun v => letOwnedTupleGo (.Name y py) it v >>= fun _ => assign (.Name y py) env v >>= fun _ =>
      (eval elt env >>= fun y => call (.builtin "list.append") [acc, y] >>= fun _ => pure ()) >>= fun _ => again (.compLoop (comp2 elt x px iter y py iter2 scope pos) 1 it acc env))
    W hst F N has rfl rfl ?_ J hJ ?_ ?_
  · show Sem.onRaise (compTurn _ _ _ _ _) _ = _
    rw [turn2_1]
    all_goals refine congrArg (fun t => Sem.onRaise t _) ?_
    all_goals refine congrArg (Sem.bind (standAt iter2.pos)) (funext fun _ => congrArg (Sem.bind (pyNext it)) (funext fun r => ?_))
    all_goals (cases r <;> rfl)
  · intro E i v m₁ news₁ own s₁ h1 h2 h3 h4 h5 _ h6 h7 h8 h9 h10 h11
    have e := shared_eta (s := s) (s' := s₁) (h6 rfl) h7 h8
    rw [e] at h2 ⊢
    have z := step E i v m₁ news₁ own _ _ h1 h2 h3 h4 h5 h9 h10 h11
    refine wpAny_bind (wpAny_pure ?_)
    exact wpAny_bind (wpAny_assign_Name (wpAny_mono z (fun _ s₂ h₃ => wpAny_bind (wpAny_bind (wpAny_mono h₃ (fun y s₄ h₄ => wpAny_bind (wpAny_mono h₄ (fun _ s₅ h₅ => wpAny_pure (wpAny_pure ⟨rfl, h₅⟩)) fun _ _ e => e)) fun _ _ e => e))) fun _ _ e => e))
  · intro m' news' s' h1 h2 _ h4 h5 h6 h7 h8 h9
    rw [shared_eta (s := s) (s' := s') (h4 rfl) h5 h6]
    exact done m' news' _ _ h1 h2 h7 h8 h9

theorem comp_start1 {R : Result → Shared → Prop} {it acc : Value}
    (h0 : codeAny (model prog w) A (.compLoop (comp2 elt x px iter y py iter2 scope pos) 1 it acc env) R s)
    (h : wpAny (model prog w) A (pyIter it) (fun it' s' => codeAny (model prog w) A (.compLoop (comp2 elt x px iter y py iter2 scope pos) 1 it' acc env) R s') (fun _ _ => False) s) :
    codeAny (model prog w) A (.compStart (comp2 elt x px iter y py iter2 scope pos) 1 it acc env) R s := by
  have turn : ∀ (I : Value) (t : Shared) (B : Around) (F : Value → Shared → Prop), codeAny (model prog w) A (.compLoop (comp2 elt x px iter y py iter2 scope pos) 1 I acc env) R t →
      wpAny (model prog w) B (again (.compLoop (comp2 elt x px iter y py iter2 scope pos) 1 I acc env)) (fun f s' => match f with | .done r => R (.ok r) s' | .again c => c.quiet = true ∧ codeAny (model prog w) A c R s') F t :=
    fun _ _ _ _ go => wpAny_pure ⟨rfl, go⟩
  apply codeAny_of_tree
  apply wpAny_notedAt (pos := theWindowsPlace)
  unfold compStart
  refine wpAny_bind (wpAny_askSetting (wpAny_ite_split (fun _ => ?once) fun _ => ?twice))
  case once => exact wpAny_bind (wpAny_pure (turn it s _ _ h0))
  case twice =>
    refine wpAny_bind (wpAny_rule (wpAny_bind (m := standAt iter2.pos) (wpAny_standAt (wpAny_bind ?_))))
    exact wpAny_mono h (fun I t go => turn I t _ _ go) fun _ _ no => no.elim

theorem comp_loop2 {R : Result → Shared → Prop} {it acc : Value} {n : Nat} {St : Nat → Shared → Prop} {It : Nat → Value → Shared → Prop} {m : Str → Option Value} {news : List (Addr × Obj)} {as : List Addr}
    (W : Iter true prog w A h₀ (env.locals :: as) it n St It) (hst : St 0 s) (F : Fr h₀ env.locals s.heap m) (N : News h₀ env.locals s.heap news) (has : news.map (·.1) = as) (hfold : ∀ x, foldedSetIterable iter2 env x = pure x)
    (J : Nat → (Str → Option Value) → List (Addr × Obj) → Prop) (hJ : J 0 m news)
    (step : ∀ E i v m₁ news₁ own h₁ tk₁, i < n → It i v { s with heap := h₁, toks := tk₁ } → J i m₁ news₁ → news₁.map (·.1) = as → OwnOff own as → s.toks ≤ tk₁ →
      Fr h₀ env.locals h₁ m₁ → News h₀ env.locals h₁ (news₁ ++ own) →
      wpAny (model prog w) A (storeName env x v) (fun _ s₂ => wpAny (model prog w) A (eval iter2 env) (fun xv s₃ => wpAny (model prog w) A (pyIter xv) (fun it2 s₄ =>
        codeAny (model prog w) A (.compStart (comp2 elt x px iter y py iter2 scope pos) 1 it2 acc env) (fun r s₅ => match r with | .ok _ => TurnEnd h₀ env.locals as own (J (i + 1)) (fun _ _ => False) { s with heap := h₁, toks := tk₁ } .next s₅ | .error _ => False) s₄) E s₃) E s₂) E { s with heap := h₁, toks := tk₁ })
    (done : ∀ m' news' h' tk', J n m' news' → news'.map (·.1) = as → s.toks ≤ tk' → Fr h₀ env.locals h' m' → News h₀ env.locals h' news' → R (.ok .next) { s with heap := h', toks := tk' }) :
    codeAny (model prog w) A (.compLoop (comp2 elt x px iter y py iter2 scope pos) 0 it acc env) R s := by
  refine blockI (p := iter.pos) (turn := fun v => letOwnedTupleGo (.Name x px) it v >>= fun _ => assign (.Name x px) env v >>= fun _ =>
      eval iter2 env >>= fun xv => standAt iter2.pos >>= fun _ => foldedSetIterable iter2 env xv >>= fun xv => holding [xv] (pyIter xv) >>= fun it2 => runOwn (.compStart (comp2 elt x px iter y py iter2 scope pos) 1 it2 acc env) env >>= fun _ => again (.compLoop (comp2 elt x px iter y py iter2 scope pos) 0 it acc env))
    W hst F N has rfl rfl ?_ J hJ ?_ ?_
  · show Sem.onRaise (compTurn _ _ _ _ _) _ = _
    rw [turn2_0]
    all_goals refine congrArg (fun t => Sem.onRaise t _) ?_
    all_goals refine congrArg (Sem.bind (standAt iter.pos)) (funext fun _ => congrArg (Sem.bind (pyNext it)) (funext fun r => ?_))
    all_goals (cases r <;> rfl)
  · intro E i v m₁ news₁ own s₁ h1 h2 h3 h4 h5 _ h6 h7 h8 h9 h10 h11
    have e := shared_eta (s := s) (s' := s₁) (h6 rfl) h7 h8
    rw [e] at h2 ⊢
    have z := step E i v m₁ news₁ own _ _ h1 h2 h3 h4 h5 h9 h10 h11
    refine wpAny_bind (wpAny_pure ?_)
    refine wpAny_bind (wpAny_assign_Name (wpAny_mono z (fun _ s₂ h₃ => wpAny_bind (wpAny_mono h₃ (fun xv s₃ h₄ => wpAny_bind (wpAny_standAt (wpAny_bind (wpAny_of_eq (hfold xv) (wpAny_bind (wpAny_holding (wpAny_mono h₄ (fun it2 s₄ h₅ => wpAny_bind (wpAny_runOwn ?_)) fun _ _ e => e))))))) fun _ _ e => e)) fun _ _ e => e))
    refine codeAny_mono h₅ fun r s₅ hr => ?_
    cases r with
    | ok f => exact wpAny_pure ⟨rfl, hr⟩
    | error _ => exact hr.elim
  · intro m' news' s' h1 h2 _ h4 h5 h6 h7 h8 h9
    rw [shared_eta (s := s) (s' := s') (h4 rfl) h5 h6]
    exact done m' news' _ _ h1 h2 h7 h8 h9
end
end Mine
end

section
open PySem PySem.W PySem.Calls PyProof.Rows
set_option Elab.async false
set_option maxRecDepth 100000
set_option maxHeartbeats 8000000
namespace Mine
section
variable {prog : Program} {w : World} {A : Around} {s : Shared} {env : Env} {h₀ : Heap} {E : Value → Shared → Prop}
/-- a comprehension with one cell of its own -/
theorem comp_start_c {elt target iter : Expr} {ifs : List Expr} {rest : List Comprehension} {scope : Scope} {pos : Pos} {cl : List (Str × Addr)} {ban : List Addr} {xv : Value} {n : Nat} {It : Nat → Value → Shared → Prop} {RR : Value → Addr → Result → Shared → Prop} {o : Str}
    (hcf : ∀ n, cellsFrom n scope.names cl = (o, n) :: cl) (hpc : ∀ h : Heap, pushCells h scope.names = h.push { cls := .type "cell", data := .cell none }) (M : Makes prog w A ban xv s n It) (hban : ∀ b ∈ ban, b < s.heap.objs.size)
    (go : ∀ I D C h, I = s.heap.objs.size → D = s.heap.objs.size + 1 → C = s.heap.objs.size + 2 → Fr s.heap C h (fun _ => none) → News s.heap C h [(C + 1, { cls := .type "cell", data := .cell none }), (D, listOf #[] 0)] →
      (∀ X, (∀ b ∈ X, D ≤ b) → ∃ St, Iter true prog w A s.heap X (.ref I) n St It ∧ St 0 { s with heap := h }) →
      codeAny (model prog w) A (.compLoop (.ListComp elt (⟨target, iter, ifs, 0⟩ :: rest) scope pos) 0 (.ref I) (.ref D) (cenvOf scope ((o, C + 1) :: cl) C env)) (RR (.ref D) C) { s with heap := h }) :
    wpAny (model prog w) A (pyIter xv) (fun it s₂ => wpAny (model prog w) A (newList []) (fun acc s₃ => wpAny (model prog w) A (newFunctionEnv scope env.globals cl [] env.qual none .none (some env)) (fun cenv s₄ =>
      codeAny (model prog w) A (.compStart (.ListComp elt (⟨target, iter, ifs, 0⟩ :: rest) scope pos) 0 it acc { cenv with scope := relabel scope env }) (RR acc cenv.locals) s₄) E s₃) E s₂) E s := by
  refine M _ _ fun ob hf hI => ?_
  refine wpAny_newObj_type ?_
  simp only [newFunctionEnv, Option.isSome_some, if_true]
  refine wpAny_bind (wpAny_alloc ?_)
  refine wpAny_bind (wpAny_layCells _ (fun name kind cells => by cases hkc : kind == NameKind.cell <;> simp [hkc]) _ _ _ _ ?_)
  refine wpAny_bind (wpAny_pure (wpAny_pure ?_))
  dsimp only
  rw [hcf, hpc]
  have z1 : (s.heap.push ob).objs.size = s.heap.objs.size + 1 := Heap.size_push ..
  have z2 : ((s.heap.push ob).push { cls := .type "list", dict := none, data := .seq ([] : List Value).toArray }).objs.size = s.heap.objs.size + 2 := by rw [Heap.size_push, z1]
  have z3 : (((s.heap.push ob).push { cls := .type "list", dict := none, data := .seq ([] : List Value).toArray }).push { cls := .type "dict", data := .dict #[] }).objs.size = s.heap.objs.size + 2 + 1 := by rw [Heap.size_push, z2]
  rw [z1, z2, z3]
  generalize hh : (((s.heap.push ob).push { cls := .type "list", dict := none, data := .seq ([] : List Value).toArray }).push { cls := .type "dict", data := .dict #[] }).push { cls := .type "cell", data := .cell none } = h₁
  have up1 : ∀ b o, (s.heap.push ob).get? b = some o → h₁.get? b = some o := fun b o e => by
    rw [← hh]; exact Heap.get?_push_of_some _ (Heap.get?_push_of_some _ (Heap.get?_push_of_some _ e))
  have hC : h₁.get? (s.heap.objs.size + 2) = some { cls := .type "dict", data := .dict #[] } := by
    rw [← hh]
    have := Heap.get?_push_size ((s.heap.push ob).push { cls := .type "list", dict := none, data := .seq ([] : List Value).toArray }) (o := ({ cls := .type "dict", data := .dict #[] } : Obj)) rfl
    rw [z2] at this
    exact Heap.get?_push_of_some _ this
  have hcell : h₁.get? (s.heap.objs.size + 2 + 1) = some { cls := .type "cell", data := .cell none } := by
    rw [← hh]
    have := Heap.get?_push_size (((s.heap.push ob).push { cls := .type "list", dict := none, data := .seq ([] : List Value).toArray }).push { cls := .type "dict", data := .dict #[] }) (o := ({ cls := .type "cell", data := .cell none } : Obj)) rfl
    rw [z3] at this
    exact this
  have hD : h₁.get? (s.heap.objs.size + 1) = some (listOf #[] 0) := by
    rw [← hh]
    have := Heap.get?_push_size (s.heap.push ob) (o := ({ cls := .type "list", dict := none, data := .seq ([] : List Value).toArray } : Obj)) rfl
    rw [z1] at this
    exact Heap.get?_push_of_some _ (Heap.get?_push_of_some _ this)
  have F : Fr s.heap (s.heap.objs.size + 2) h₁ (fun _ => none) := ⟨by
    have := Heap.Ns.new ((s.heap.push ob).push { cls := .type "list", dict := none, data := .seq ([] : List Value).toArray }) (.type "dict")
    rw [z2] at this
    exact this.keeps fun b o e => by rw [← hh]; exact Heap.get?_push_of_some _ e, fun b o e => up1 b o (Heap.get?_push_of_some _ e), Nat.le_add_right _ _⟩
  have nn : ∀ k, s.heap.get? (s.heap.objs.size + k) = none := fun k => Heap.get?_none_of_le (Nat.le_add_right _ _)
  have N : News s.heap (s.heap.objs.size + 2) h₁ [(s.heap.objs.size + 2 + 1, { cls := .type "cell", data := .cell none }), (s.heap.objs.size + 1, listOf #[] 0)] := fun p hp => by
    rcases List.mem_cons.mp hp with rfl | hp
    · exact ⟨hcell, Nat.succ_ne_self _, nn 3⟩
    · rw [List.mem_singleton.mp hp]
      exact ⟨hD, Nat.ne_of_lt (Nat.lt_succ_self _), nn 1⟩
  have hX : ∀ X, (∀ b ∈ X, s.heap.objs.size + 1 ≤ b) → ∃ St, Iter true prog w A s.heap X (.ref s.heap.objs.size) n St It ∧ St 0 { s with heap := h₁ } := fun X hX => by
    obtain ⟨St, W, hst⟩ := hI s.heap X (fun q => Nat.not_succ_le_self _ (hX _ q)) (Heap.get?_none_of_le (Nat.le_refl _)) (fun b hb q => Nat.lt_irrefl _ (Nat.lt_of_lt_of_le (hban b hb) (Nat.le_of_succ_le (hX _ q))))
    exact ⟨St, W, hst h₁ s.toks up1 (Nat.le_refl _)⟩
  have loop := go _ _ _ h₁ rfl rfl rfl F N hX
  obtain ⟨St, W, hst⟩ := hX [] (fun _ h => nomatch h)
  exact codeAny_compStart_list loop (W.self 0 _ _ _ hst loop)

theorem comp_eval_c {elt target iter : Expr} {ifs : List Expr} {rest : List Comprehension} {scope : Scope} {pos : Pos} {cl : List (Str × Addr)} {Q : Value → Shared → Prop} {o : Str}
    (hclos : closureFor scope env = pure cl) (hkind : scope.kind = .function) (hnames : ∀ x ∈ scope.names, x.2 = .local → scope.names.lookup x.1 = some .local)
    (hcf : ∀ n, cellsFrom n scope.names cl = (o, n) :: cl) (hpc : ∀ h : Heap, pushCells h scope.names = h.push { cls := .type "cell", data := .cell none }) (hs : ∀ x, foldedSetIterable iter env x = pure x)
    (h : wpAny (model prog w) A (eval iter env) (fun xv s₁ => ∃ ban n It, Makes prog w A ban xv s₁ n It ∧ (∀ b ∈ ban, b < s₁.heap.objs.size) ∧
      ∀ I D C h, I = s₁.heap.objs.size → D = s₁.heap.objs.size + 1 → C = s₁.heap.objs.size + 2 → Fr s₁.heap C h (fun _ => none) → News s₁.heap C h [(C + 1, { cls := .type "cell", data := .cell none }), (D, listOf #[] 0)] →
      (∀ X, (∀ b ∈ X, D ≤ b) → ∃ St, Iter true prog w A s₁.heap X (.ref I) n St It ∧ St 0 { s₁ with heap := h }) →
      codeAny (model prog w) A (.compLoop (.ListComp elt (⟨target, iter, ifs, 0⟩ :: rest) scope pos) 0 (.ref I) (.ref D) (cenvOf scope ((o, C + 1) :: cl) C env)) (CompEnd s₁.heap C D s₁ Q) { s₁ with heap := h }) E s) :
    wpAny (model prog w) A (eval (.ListComp elt (⟨target, iter, ifs, 0⟩ :: rest) scope pos) env) Q E s := by
  rw [eval_ListComp]
  refine wpAny_comprehension_free (use := none) rfl hs hclos hkind hnames (wpAny_mono h (fun xv s₁ h₁ => ?_) fun _ _ e => e)
  obtain ⟨ban, n, It, M, hban, go⟩ := h₁
  exact comp_start_c (RR := fun acc C => compPost (model prog w) A E none Q acc C) hcf hpc M hban fun I D C h e1 e2 e3 F N hI => codeAny_mono (go I D C h e1 e2 e3 F N hI) (compEnd_post (by rw [e2, e3]; exact Nat.ne_of_lt (Nat.lt_succ_self _)))
end
end Mine
end

section
open PySem PySem.W PySem.Calls PyProof.Rows
set_option Elab.async false
set_option maxRecDepth 100000
set_option maxHeartbeats 8000000
namespace Mine
def minChr (l : List Nat) : Nat := l.getD (argBest (fun i j => decide ([l.getD i 0] < [l.getD j 0])) (l.length - 1)) 0
section
variable {prog : Program} {w : World} {A : Around} {s : Shared} {E : Value → Shared → Prop}
theorem min_ss {y : Str} {t : Tok} {Q : Value → Shared → Prop} (hh : A.handled = none) (hy : 0 < y.cps.size) (hQ : ∀ u h' tk', Keep s.heap h' → Q (.str ⟨#[minChr y.cps.toList]⟩ u) { s with heap := h', toks := tk' }) :
    wpAny (model prog w) A (call (.builtin "min") [.str y t]) Q E s := by
  have hcmp : CmpOf prog w A.in1 .Lt (SignAt y) (fun i j => decide ([y.cps.toList.getD i 0] < [y.cps.toList.getD j 0])) := by
    rintro i j vi vj s Q E ⟨ci, ui, hi, rfl⟩ ⟨cj, uj, hj, rfl⟩ hq
    have ei : y.cps.toList.getD i 0 = ci := by simp [List.getD, hi]
    have ej : y.cps.toList.getD j 0 = cj := by simp [List.getD, hj]
    dsimp only at hq
    rw [ei, ej] at hq
    exact PyProof.Rows.lt_str hq
  have fin : ∀ I : Addr, I = s.heap.objs.size → ∀ (hp : Heap), (∀ b o, s.heap.get? b = some o → hp.get? b = some o) → ∀ v h' tk, SignAt y (argBest (fun i j => decide ([y.cps.toList.getD i 0] < [y.cps.toList.getD j 0])) (y.cps.size - 1)) v →
      (∀ b o, b ∉ [I] → hp.get? b = some o → h'.get? b = some o) → Q v { s with heap := h', toks := tk } := by
    rintro I rfl hp hpk v h' tk ⟨c, u, hc, rfl⟩ hk
    have e : minChr y.cps.toList = c := by
      unfold minChr
      have : y.cps.toList.length = y.cps.size := by simp
      rw [this]
      generalize argBest _ _ = k at hc ⊢
      simp [List.getD, hc]
    rw [← e]
    exact hQ u h' tk fun b o q => hk b o (fun hm => Nat.ne_of_lt (Heap.lt_size q) (List.mem_singleton.mp hm)) (hpk b o q)
  refine call_min_walk ?_
  cases ha : y.cps.all (· < 128)
  · refine wpAny_pyIter_wide ha ⟨_, [s.heap.objs.size], _, _, _, _, _, rfl, Walks.strWide (A := A.in1) hh s.heap.objs.size y t, ⟨_, Heap.get?_push_size _ rfl, rfl, rfl⟩, fun b hb => ?_, hy, hcmp, fun v h' tk hP hk => fin _ rfl _ (fun b o e => Heap.get?_push_of_some _ e) v h' tk hP hk⟩
    rw [List.mem_singleton.mp hb, Heap.size_push]; exact Nat.lt_succ_self _
  · refine wpAny_pyIter_ascii ha ⟨_, [s.heap.objs.size], _, _, _, _, _, rfl, Walks.strAscii (A := A.in1) hh s.heap.objs.size y t, ⟨_, Heap.get?_push_size _ rfl, rfl, rfl⟩, fun b hb => ?_, hy, hcmp, fun v h' tk hP hk => fin _ rfl _ (fun b o e => Heap.get?_push_of_some _ e) v h' tk hP hk⟩
    rw [List.mem_singleton.mp hb, Heap.size_push]; exact Nat.lt_succ_self _

theorem strs_get {vs : List Value} {ys : List Str} (h : StrsAre vs ys) : ∀ {j : Nat} {v : Value}, vs[j]? = some v → ∃ y t, v = .str y t ∧ ys[j]? = some y := StrsAre.item h _ _
theorem strs_length {vs : List Value} {ys : List Str} (h : StrsAre vs ys) : vs.length = ys.length := StrsAre.length h
theorem eq_strs {a b : Addr} {xs ys : Array Value} {l m : List Str} {Q : Value → Shared → Prop} (ha : s.heap.IsList a xs) (hb : s.heap.IsList b ys) (hx : StrsAre xs.toList l) (hy : StrsAre ys.toList m) (hu : A.units < cLine)
    (h : Q (.bool (decide (l = m))) s) : wpAny (model prog w) A (compareOp .Eq (.ref a) (.ref b)) Q E s := by
  have lx := strs_length hx
  have ly := strs_length hy
  rw [Array.length_toList] at lx ly
  by_cases hsz : xs.size = ys.size
  · refine SeqAt.eq_listAt (e := fun j => l.getD j ⟨#[]⟩ == m.getD j ⟨#[]⟩) ha hb hsz hu (fun j h1 h2 => ?_) ?_
    · obtain ⟨y1, t1, e1, g1⟩ := strs_get hx (j := j) (v := xs[j]) (by simp [h1])
      obtain ⟨y2, t2, e2, g2⟩ := strs_get hy (j := j) (v := ys[j]) (by simp [h2])
      have d1 : l.getD j ⟨#[]⟩ = y1 := by simp [List.getD, g1]
      have d2 : m.getD j ⟨#[]⟩ = y2 := by simp [List.getD, g2]
      rw [e1, e2, d1, d2]
      exact SeqAt.EqAt.str_str y1 t1 y2 t2
    · have e : ((List.range xs.size).all fun j => l.getD j ⟨#[]⟩ == m.getD j ⟨#[]⟩) = decide (l = m) := by
        rw [Bool.eq_iff_iff, List.all_eq_true, decide_eq_true_iff]
        constructor
        · intro hall
          refine List.ext_getElem (by omega) fun j h1 h2 => ?_
          have := hall j (List.mem_range.mpr (by omega))
          have := beq_iff_eq.mp this
          simpa [List.getD, h1, h2] using this
        · rintro rfl j _; simp
      rw [e]; exact h
  · have hne : ¬ l = m := fun e => hsz (by rw [lx, ly, e])
    rw [decide_eq_false hne] at h
    exact SeqAt.eq_list_lengthsAt ha hb (by simpa using hsz) hu h
end
end Mine
end

section
open PySem PySem.W PySem.Calls PyProof.Rows
set_option Elab.async false
set_option maxRecDepth 100000
set_option maxHeartbeats 8000000
namespace Mine
section
variable {prog : Program} {w : World} {A : Around} {s : Shared} {env : Env} {h₀ : Heap}
/-- a loop over an ASCII text whose ledger may change from turn to turn -/
theorem for_strJ {R : Result → Shared → Prop} {E : Value → Shared → Prop} {x : Str} {t : Tok} {v : Str} {pv : Pos} {body : List Stmt} {m : Str → Option Value} {news : List (Addr × Obj)}
    (hh : A.handled = none) (ha : x.cps.all (· < 128) = true) (F : Fr h₀ env.locals s.heap m) (N : News h₀ env.locals s.heap news)
    (J : Nat → (Str → Option Value) → List (Addr × Obj) → Prop) (hJ : J 0 m news)
    (step : ∀ E I i c u m₁ news₁ oI h₁ tk₁, I = s.heap.objs.size → x.cps[i]? = some c → J i m₁ news₁ → s.toks ≤ tk₁ → (∀ p ∈ news₁, p.1 ≠ I) → Fr h₀ env.locals h₁ m₁ → News h₀ env.locals h₁ ((I, oI) :: news₁) →
      wpAny (model prog w) A (storeName env v (.str ⟨#[c]⟩ u)) (fun _ s₂ => wpAny (model prog w) A (execs body env) (fun f s₃ => f = .next ∧ ∃ h' tk m' news', s₃ = { s with heap := h', toks := tk } ∧ s.toks ≤ tk ∧ Fr h₀ env.locals h' m' ∧ News h₀ env.locals h' ((I, oI) :: news') ∧ (∀ p ∈ news', p.1 ≠ I) ∧ J (i + 1) m' news') E s₂) E { s with heap := h₁, toks := tk₁ })
    (done : ∀ m' news' h' tk', J x.cps.size m' news' → s.toks ≤ tk' → Fr h₀ env.locals h' m' → News h₀ env.locals h' news' → R (.ok .next) { s with heap := h', toks := tk' }) :
    wpAny (model prog w) A (pyIter (.str x t)) (fun it s₂ => codeAny (model prog w) A (.forLoop (.Name v pv) it body [] env) R s₂) E s := by
  refine wpAny_pyIter_ascii ha ?_
  have hL := F.ns.lt
  have hIL : s.heap.objs.size ≠ env.locals := Nat.ne_of_gt hL
  have hI0 : h₀.get? s.heap.objs.size = none := Heap.get?_none_of_le (Nat.le_trans F.above (Nat.le_of_lt hL))
  have hz := Heap.get?_push_size s.heap (o := { cls := .type "str_ascii_iterator", data := .fields #[.str x t, .int 0 0] }) rfl
  refine codeAny_forLoop_any
    (fun k s' => ∃ h' tk m' news', ∃ i : Nat, ∃ oI, s' = { s with heap := h', toks := tk } ∧ s.toks ≤ tk ∧ Fr h₀ env.locals h' m' ∧ News h₀ env.locals h' ((s.heap.objs.size, oI) :: news') ∧ oI.cls = .type "str_ascii_iterator" ∧ oI.data = .fields #[.str x t, .int i 0] ∧ (∀ p ∈ news', p.1 ≠ s.heap.objs.size) ∧ J i m' news' ∧ i ≤ x.cps.size ∧ k = x.cps.size + 1 - i) ?_ (x.cps.size + 1)
    ⟨_, _, m, news, 0, { cls := .type "str_ascii_iterator", data := .fields #[.str x t, .int 0 0] }, rfl, Nat.le_refl _, F.push _, fun p hp => ?_, rfl, rfl, fun p hp => Nat.ne_of_lt (Heap.lt_size (N p hp).1), hJ, Nat.zero_le _, rfl⟩
  · rintro k s' ⟨h', tk, m', news', i, oI, rfl, htk, F', N', hc, hd, hne, hJ', hi, rfl⟩
    have hget : h'.get? s.heap.objs.size = some oI := (N' _ (List.Mem.head _)).1
    by_cases hlt : i < x.cps.size
    · refine wpAny_pyNext_ascii_item (s := { s with heap := h', toks := tk }) ⟨oI, hget, hc, hd⟩ (c := x.cps[i]) (by simp [hlt]) fun h₁ hit₁ hs₁ => ?_
      obtain ⟨o₁, ho₁, hc₁, hd₁⟩ := hit₁
      have F₁ : Fr h₀ env.locals h₁ m' := ⟨F'.ns.at' fun o e => hs₁.extBut _ o (Ne.symm hIL) e, fun b o e => hs₁.extBut b o (fun q => by rw [q, hI0] at e; cases e) (F'.keep b o e), F'.above⟩
      have N₁ : News h₀ env.locals h₁ ((s.heap.objs.size, o₁) :: news') := fun p hp => by
        rcases List.mem_cons.mp hp with rfl | hp
        · exact ⟨ho₁, hIL, hI0⟩
        · have := N' p (List.mem_cons_of_mem _ hp)
          exact ⟨hs₁.extBut _ _ (hne p hp) this.1, this.2⟩
      refine wpAny_of_eq (rfl : letOwnedTupleGo (.Name v pv) _ _ = pure ()) (wpAny_assign_Name ?_)
      refine wpAny_mono (step _ s.heap.objs.size i x.cps[i] tk m' news' o₁ h₁ (tk + 1) rfl (by simp [hlt]) hJ' (Nat.le_succ_of_le htk) hne F₁ N₁) (fun _ s₂ h₂ => wpAny_mono h₂ (fun f s₃ h₃ => ?_) fun _ _ e => e) fun _ _ e => e
      obtain ⟨rfl, h'', tk'', m'', news'', rfl, htk'', F'', N'', hne'', hJ''⟩ := h₃
      exact ⟨x.cps.size + 1 - (i + 1), by omega, h'', tk'', m'', news'', i + 1, o₁, rfl, htk'', F'', N'', hc₁, hd₁, hne'', hJ'', hlt, rfl⟩
    · have hin : i = x.cps.size := by omega
      subst hin
      refine wpAny_pyNext_ascii_end (s := { s with heap := h', toks := tk }) hh ⟨oI, hget, hc, hd⟩ (by simp) fun h₁ hs₁ => ?_
      exact wpAny_execs_nil (done m' news' h₁ tk hJ' htk ⟨F'.ns.at' fun o e => hs₁ _ o (Ne.symm hIL) e, fun b o e => hs₁ b o (fun q => by rw [q, hI0] at e; cases e) (F'.keep b o e), F'.above⟩
        (fun p hp => ⟨hs₁ _ _ (hne p hp) (N' p (List.mem_cons_of_mem _ hp)).1, (N' p (List.mem_cons_of_mem _ hp)).2⟩))
  · rcases List.mem_cons.mp hp with rfl | hp
    · exact ⟨hz, hIL, hI0⟩
    · exact ⟨Heap.get?_push_of_some _ (N p hp).1, (N p hp).2⟩
end
end Mine
end

section
open PySem PySem.W PySem.Calls PyProof.Rows
set_option Elab.async false
set_option maxRecDepth 100000
set_option maxHeartbeats 8000000
namespace Mine
def leastL (l : List Nat) : Nat → List Str
  | 0 => []
  | p + 1 => if l[p]? = some 41 then leastL l p ++ [Txt.item (Str.ofString "-dcba") (cntL (l.take p) ⟨#[40]⟩ : Int)] else leastL l p
def orderPieces (o sign : Str) : List Str := (List.range (o.length + 1)).map fun (k : Nat) => Txt.slice o none (some (k : Int)) ++ sign ++ Txt.slice o (some (k : Int)) none
def ordersN : Nat → List Str
  | 0 => [Str.ofString "a"]
  | k + 1 => (ordersN k).flatMap fun o => orderPieces o (Txt.item (Str.ofString "bcd") (k : Int))
def minPre (o : Str) (n : Nat) : List Str := (List.range n).map fun (k : Nat) => ⟨#[minChr (Txt.slice o none (some ((k : Int) + 1))).cps.toList]⟩
def ordersOf (l : List Nat) : List Str := (ordersN 3).filter fun o => decide (minPre o (leastL l l.length).length = leastL l l.length)
theorem leastL_len (l : List Nat) : ∀ k, (leastL l k).length ≤ k
  | 0 => Nat.le_refl _
  | k + 1 => by
    have := leastL_len l k
    unfold leastL
    split
    · simp only [List.length_append, List.length_cons, List.length_nil]; omega
    · omega
theorem ordersN_len : ∀ i < 4, ∀ o ∈ ordersN i, o.length = i + 1 := by decide +kernel
theorem ordersN_num : ∀ i < 4, (ordersN i).length ≤ 24 := by decide +kernel
theorem strs_push {vs : List Value} {ys : List Str} (h : StrsAre vs ys) (y : Str) (t : Tok) : StrsAre (vs ++ [.str y t]) (ys ++ [y]) := by
  induction h with
  | nil => exact .cons y t .nil
  | cons z u _ ih => exact .cons z u ih
theorem comp_start1I {prog : Program} {w : World} {A : Around} {s : Shared} {env : Env} {h₀ : Heap} {elt iter iter2 : Expr} {x y : Str} {px py : Pos} {scope : Scope} {pos : Pos} {R : Result → Shared → Prop} {it acc : Value} {pg : Bool} {X : List Addr} {n : Nat} {St : Nat → Shared → Prop} {It : Nat → Value → Shared → Prop}
    (W : Iter pg prog w A h₀ X it n St It) (hst : St 0 s) (loop : codeAny (model prog w) A (.compLoop (comp2 elt x px iter y py iter2 scope pos) 1 it acc env) R s) :
    codeAny (model prog w) A (.compStart (comp2 elt x px iter y py iter2 scope pos) 1 it acc env) R s := comp_start1 loop (W.self 0 _ _ _ hst loop)
theorem flat_take {α β : Type} {l : List α} {j : Nat} {a : α} (f : α → List β) (h : l[j]? = some a) : (l.take (j + 1)).flatMap f = (l.take j).flatMap f ++ f a := by
  rw [List.take_add_one, h, List.flatMap_append]; simp
section
variable {w : World} {A : Around} {s : Shared} {Q E : Value → Shared → Prop} {mean : ExcName → Option Value} {mg mb : Str → Option Value}
theorem lenLK {prog : Program} {s : Shared} {h₀ : Heap} {L : Addr} {m : Str → Option Value} {A : Around} {E : Value → Shared → Prop} {l : Addr} {items : Array Value} {Q : Value → Shared → Prop} (F : Fr h₀ L s.heap m) (hl : h₀.IsList l items) (hfit : (items.size : Int) < 2 ^ 63)
    (h : Q (.int items.size (s.toks + 1)) { s with toks := s.toks + 1 + 1 }) : wpAny (model prog w) A (call (.builtin "len") [.ref l]) Q E s :=
  len_list (hl.at fun o e => Fr.keep F _ o e) hfit h
theorem nameCN {prog : Program} {s : Shared} {env : Env} {h₀ : Heap} {L : Addr} {news : List (Addr × Obj)} {A : Around} {E : Value → Shared → Prop} {x : Str} {pos : Pos} {c : Addr} {o : Obj} {v : Value} {Q : Value → Shared → Prop} (N : News h₀ L s.heap news) (hm : (c, o) ∈ news) (hd : o.data = .cell (some v)) (hc : env.cells.lookup x = some c) (h : Q v s)
    (hk : env.scope.kind = .function) (hl : env.kindOf x = some .cell) (hb : (x == ("__debug__" : Str)) = false) : wpAny (model prog w) A (eval (.Name x pos) env) Q E s :=
  nameC ⟨o, (N (c, o) hm).1, hd⟩ hc h hk hl hb
theorem lines_off11 : True := by
  w_top off
  trivial
local macro_rules | `(tactic| walk_at "execs cons") => `(tactic| (refine wpAny_execs_cons ?_; (try dsimp only)))
local macro_rules | `(tactic| walk_at "execs nil") => `(tactic| (refine wpAny_execs_nil ?_; (try dsimp only)))
local macro_rules | `(tactic| walk_at "exec For Name Call cons nil") => `(tactic| refine Halt.out ?_)
local macro_rules | `(tactic| walk_at "exec For Name Constant cons nil") => `(tactic| refine Halt.out ?_)
local macro_rules | `(tactic| walk_at "eval ListComp") => `(tactic| refine Halt.out ?_)
local macro_rules | `(tactic| walk_at "pyIter ref") => `(tactic| refine Halt.out ?_)
local macro_rules | `(tactic| walk_at "pyIter str") => `(tactic| refine Halt.out ?_)
local macro_rules | `(tactic| walk_at "exec Assign cons ListComp") => `(tactic| refine Halt.out ?_)
local macro_rules | `(tactic| walk_at "call ref") => `(tactic| refine Halt.out ?_)
local macro_rules | `(tactic| walk_at "call builtin:list.append") => `(tactic| refine Halt.out ?_)
local macro_rules | `(tactic| walk_at "eval Name") => `(tactic| (k_dflt (refine' nameL ?k1 ?k2 ?_ ?k4 ?k5 ?k6; (case k4 => exact rfl); (case k5 => exact rfl); (case k6 => decide); (case k1 => k_asm); (case k2 => first | exact rfl | assumption); k_whole)))
local macro_rules | `(tactic| walk_at "eval Name") => `(tactic| (k_dflt (refine' nameCK ?k1 ?k2 ?k3 ?_ ?k4 ?k5 ?k6; (case k4 => exact rfl); (case k5 => exact rfl); (case k6 => decide); (case k3 => exact rfl); (case k1 => with_reducible assumption); (case k2 => with_reducible assumption); k_whole)))
local macro_rules | `(tactic| walk_at "eval Name") => `(tactic| (k_dflt (refine' nameG ?k1 ?k2 ?k3 ?e ?_ ?k4 ?k5 ?k6 ?k7; (case k5 => exact rfl); (case k6 => exact rfl); (case k7 => decide); (case k4 => exact rfl); (case k1 => k_asm); (case k2 => k_asm); (case k3 => k_asm); (case e => k_is); k_whole)))
local macro_rules | `(tactic| walk_at "eval Name") => `(tactic| (k_dflt (refine' nameB ?k1 ?k2 ?k3 ?e ?hv ?hn ?_ ?k4 ?kb ?k5 ?k6 ?k7; (case k5 => exact rfl); (case k6 => exact rfl); (case k7 => decide); (case k4 => exact rfl); (case kb => exact rfl); (case k1 => k_asm); (case k2 => k_asm); (case k3 => k_asm); (case e => k_is); (case hv => boot_by_name); (case hn => decide); k_whole)))
local macro_rules | `(tactic| walk_at "eval Name") => `(tactic| (k_dflt (refine' nameCN ?N ?m ?d ?c ?_ ?k4 ?k5 ?k6; (case k4 => exact rfl); (case k5 => exact rfl); (case k6 => decide); (case c => exact rfl); (case N => k_asm); (case m => k_mem); (case d => first | with_reducible assumption | assumption); k_whole)))
local macro_rules | `(tactic| walk_at "call builtin:len") => `(tactic| ((with_reducible show wpAny _ _ (call (Value.builtin _) [Value.ref _]) _ _ _); k_dflt (refine' lenLK ?F ?l ?f ?_; (case F => k_asm); (case l => with_reducible assumption); (case f => assumption); k_whole)))
local macro_rules | `(tactic| walk_at "call builtin:min") => `(tactic| refine Halt.out ?_)
local macro_rules | `(tactic| walk_at "compareOp Eq ref ref") => `(tactic| refine Halt.out ?_)
local macro_rules | `(tactic| walk_at "subscriptTail Name Slice str ref") => `(tactic| ((with_reducible rename Fr _ _ _ _ => F'); (with_reducible rename News _ _ _ _ => N'); (refine slT_ns (T₀ := 1) (s := ⟨_, _, _, _, _⟩) ?ht F' N' ?_ (hsz := ?hsz)); (case ht => (dsimp only; omega)); (case hsz => size_fits); intro _ _ _ _ _ _ _))

theorem orders_ok (hh : A.handled = none) (hA : A.depth + 1 < recursionLimit) (hU : A.units + 20 < cLine) (X : (hd.heap_39 w.params).In s.heap) (T : Top hd.view_39 (looseW hd.view_39 []) mean mg mb s.heap)
    (row : Str) (u : Tok) (hrow : row.length ≤ 8) (hcnt : cntL row.cps.toList ⟨#[40]⟩ ≤ 4) (htk0 : 1 ≤ s.toks) (hll4 : (leastL row.cps.toList row.length).length ≤ 4)
    (ret : ∀ a its n h' tk', Keep s.heap h' → s.toks ≤ tk' → s.heap.objs.size ≤ a → h'.get? a = some (listOf its n) → StrsAre its.toList (ordersOf row.cps.toList) → Q (.ref a) { s with heap := h', toks := tk' }) :
    wpAny (model PySem.Challenge.rw_ux0011_01.row.prog w) A (call (.ref 103) [.str row u]) Q E s := by
  obtain ⟨_, dp, fr, gd, un⟩ := A
  dsimp only at hh hA hU
  subst hh
  revert X; k_fill; intro X
  refine wpAny_with_toks (Nat.le_refl s.toks) ?_
  refine wpAny_call ?_
  refine' enterC (binds := [(Str.ofString "row", .str row u)]) ?kX ?klim ?k6 ?k7 ?k8 ?k9 ?kB ?kD ?kbody ?c2 ?c3 ?c4
  (case kX => assumption); (case klim => exact TopRead.nolimit (by k_asm)); (case k6 => k_is); (case k7 => k_is); (case k8 => first | assumption | (dsimp only; omega)); (case k9 => exact rfl); (case kB => exact fun n => by intro x hx; rw [List.mem_singleton.mp hx]; exact Or.inl rfl); (case kD => decide); (case c2 => exact rfl); (case c3 => exact rfl); (case c4 => exact rfl)
  intro L h₁ tk cells hL htk F N Y
  obtain ⟨oa, ob, rfl, da, db⟩ := CellsAre.two Y
  clear Y
  replace da : oa.data = .cell none := da.trans (by with_unfolding_all rfl)
  replace db : ob.data = .cell none := db.trans (by with_unfolding_all rfl)
  k_steps
  rename_i ll _ hlt _ ol _ _ dl
  refine Halt.of (wpAny_For (wpAny_with_toks (n := 1) (by dsimp only; omega) ?_))
  k_steps
  (with_reducible rename Fr _ _ _ _ => F2)
  (with_reducible rename News _ _ _ _ => N2)
  (with_reducible rename IsRange _ _ _ _ _ _ _ _ => R2)
  rename_i htk2
  have hxl : row.cps.toList.length = row.length := by simp [Str.length]
  have hrng := @rng_ok (row.length : Int) (by omega) (by omega)
  rw [Int.toNat_natCast] at hrng
  refine Halt.of (for_of (env := envOfC _ _ _ _ _) (makes_range (n := row.length) rfl R2 hrng.1 hrng.2) (fun b hb => (List.not_mem_nil hb).elim) F2 N2
    (fun k m' news' => m' (Str.ofString "row") = some (.str row u) ∧ ∃ its n, news' = [(ll, listOf its n), (L + 1 + 1, oa), (L + 1, ol)] ∧ StrsAre its.toList (leastL row.cps.toList k))
    ⟨rfl, #[], 0, rfl, .nil⟩ ?step ?done)
  case step =>
    rintro E k _ m₁ news₁ own h₂ tk₁ hk ⟨t, rfl⟩ htk ⟨hro, its, n, rfl, hits⟩ hmap hoff F₁ N₁
    dsimp only at htk
    rw [Int.zero_add]
    have e1 : (Txt.item row (k : Int) == Str.ofString ")") = decide (row.cps.toList[k]? = some 41) := item_beq row hk 41
    have ec : cntL (Txt.slice row none (some (k : Int))).cps.toList (Str.ofString "(") = cntL (row.cps.toList.take k) ⟨#[40]⟩ := by rw [slice_to row (Nat.le_of_lt hk)]; rfl
    have hc4 : cntL (Txt.slice row none (some (k : Int))).cps.toList (Str.ofString "(") ≤ 4 := by
      rw [ec]
      refine Nat.le_trans ?_ hcnt
      unfold cntL
      exact List.Sublist.length_le (List.Sublist.filter _ (List.take_sublist _ _))
    k_steps
    · have h41 : row.cps.toList[k]? = some 41 := of_decide_eq_true (e1.symm.trans (by assumption))
      (with_reducible rename Fr _ _ _ _ => F3)
      (with_reducible rename News _ _ _ _ => N3)
      refine Halt.of (countOf_ss rfl (by show dp + 1 < recursionLimit; omega) (Frag.In.keeps X (Fr.keep F3)) (Top.keeps T (Fr.keep F3)) _ _ _ _ (by omega) (by dsimp only; omega) ?_)
      intro t4 h4 tk4 k4 le4
      have F4 := Fr.keeps F3 k4
      have N4 := News.grown N3 k4
      dsimp only at le4 ⊢
      k_steps
      (with_reducible rename Fr _ _ _ _ => F5)
      (with_reducible rename News _ _ _ _ => N5)
      have hsz : its.size ≤ 1000 := by
        have h1 := strs_length hits
        have h2 := leastL_len row.cps.toList k
        rw [Array.length_toList] at h1
        omega
      refine Halt.of (appendTo F5 N5 ?off hsz ?_)
      case off =>
        intro p hp
        rcases List.mem_cons.mp hp with rfl | hp
        · exact Nat.ne_of_lt hlt.1
        · rcases List.mem_cons.mp hp with rfl | hp
          · exact Nat.ne_of_lt hlt.2
          · exact hoff p hp _ (List.Mem.head _)
      intro h₆ F₆ N₆
      dsimp only
      k_steps
      refine TurnEnd.intro [(_, listOf (its.push _) (n + 1)), (L + 1 + 1, oa), (L + 1, _)] F₆ N₆ (fun p hp => hp) rfl ⟨?_, _, n + 1, rfl, ?_⟩
      · exact hro
      · rw [Array.toList_push]
        have e : leastL row.cps.toList (k + 1) = leastL row.cps.toList k ++ [Txt.item (Str.ofString "-dcba") (cntL (row.cps.toList.take k) ⟨#[40]⟩ : Int)] := if_pos h41
        rw [e, ← ec]
        exact strs_push hits _ _
    · have h41 : ¬ row.cps.toList[k]? = some 41 := of_decide_eq_false (e1.symm.trans (by assumption))
      have e : leastL row.cps.toList (k + 1) = leastL row.cps.toList k := if_neg h41
      refine TurnEnd.intro [(_, listOf its n), (L + 1 + 1, oa), (L + 1, _)] (by assumption) (by assumption) (fun p hp => hp) rfl ⟨?_, its, n, rfl, ?_⟩
      · exact hro
      · rw [e]; exact hits
  case done =>
    rintro m' news' h' tk' ⟨hro, its, n, rfl, hits⟩ hmap htk F₁ N₁
    k_steps
    rename_i lD _ _ _ hlt2 _ F5 N5
    refine Halt.of (wpAny_For ?_)
    k_steps
    refine Halt.of (for_strJ (env := envOfC _ _ _ _ _) rfl (by decide +kernel) F5 N5
      (fun i m' news' => ∃ D its2 n2 oc, news' = [(D, listOf its2 n2), (ll, listOf its n), (L + 1 + 1, oc), (L + 1, ol)] ∧ (∃ vv, oc.data = .cell vv) ∧ StrsAre its2.toList (ordersN i) ∧ m' (Str.ofString "orders") = some (.ref D) ∧ ll < D ∧ L + 1 + 1 < D ∧ L + 1 < D)
      ⟨lD, _, 0, oa, rfl, ⟨_, da⟩, .cons _ _ .nil, rfl, hlt2.1, hlt2.2.1, hlt2.2.2⟩ ?step2 ?done2)
    case step2 =>
      rintro E I₀ i c uc m₂ news₂ oI h₂ tk₂ hI₀ hci ⟨D, its2, n2, oc, rfl, ⟨vv, hoc⟩, hits2, hord, hl1, hl2, hl3⟩ htk₂ hne₂ F₂ N₂
      have nI := hne₂ (L + 1 + 1, oc) (List.mem_cons_of_mem _ (List.mem_cons_of_mem _ (List.Mem.head _)))
      refine storeC F₂ N₂ rfl (UpdF.tail (Ne.symm nI) (UpdF.tail (Nat.ne_of_gt hl2) (UpdF.tail (Nat.ne_of_gt hlt.1) (UpdF.head (fun p hp => by rw [List.mem_singleton.mp hp]; exact Nat.ne_of_lt (Nat.lt_succ_self _)))))) hoc ?_ rfl rfl
      intro h₃ o3 F₃ N₃ d3
      dsimp only at F₃ N₃ d3 ⊢
      k_steps
      have hi3 : i < 3 := by
        rcases Nat.lt_or_ge i 3 with q | q
        · exact q
        · rw [Array.getElem?_eq_none (by exact q)] at hci; cases hci
      have hsign : (⟨#[c]⟩ : Str) = Txt.item (Str.ofString "bcd") (i : Int) := by
        rcases i with _ | _ | _ | i
        · cases hci; rfl
        · cases hci; rfl
        · cases hci; rfl
        · omega
      refine' Halt.of (comp_assign (h₀ := s.heap) (m := m₂) (news := [(I₀, oI), (D, listOf its2 n2), (ll, listOf its n), (L + 1 + 1, o3), (L + 1, ol)]) ?hsw ?hclos rfl ?hnames ?hcell ?hs rfl rfl ?h)
      case hsw => with_unfolding_all rfl
      case hclos => with_unfolding_all rfl
      case hnames => decide
      case hcell => decide
      case hs => intro _; rfl
      case h =>
        refine nameL F₃ hord ?_ rfl rfl (by decide)
        refine ⟨F₃, N₃, [D], its2.size, _, makes_list rfl (News.isList N₃ (List.Mem.tail _ (List.Mem.head _))), fun b hb => ?_, ?_⟩
        · rw [List.mem_singleton.mp hb]; exact Heap.lt_size (N₃ _ (List.Mem.tail _ (List.Mem.head _))).1
        intro I D2 C h eI eD eC FC NC hI
        dsimp only at eI eD eC FC NC hI ⊢
        obtain ⟨St, WI, hst⟩ := hI [C, D2] (fun b hb => by
          rcases List.mem_cons.mp hb with q | q
          · rw [q, eC, eD]; exact Nat.le_succ _
          · rw [List.mem_singleton.mp q]; exact Nat.le_refl _)
        have XC := Frag.In.keeps X (Fr.keep F₃)
        have TC := Top.keeps T (Fr.keep F₃)
        have cells' : Heap.IsCell _ (L + 1 + 1) (some (.str ⟨#[c]⟩ uc)) := ⟨_, (N₃ (L + 1 + 1, o3) (by simp)).1, d3⟩
        refine comp_loop2 (env := cenvOf _ _ C _) (as := [D2]) WI hst FC NC rfl (fun _ => rfl)
          (fun j m' news' => ∃ its3 n3, news' = [(D2, listOf its3 n3)] ∧ StrsAre its3.toList (((ordersN i).take j).flatMap fun o => orderPieces o ⟨#[c]⟩) ∧ its3.size ≤ 5 * j) ⟨#[], 0, rfl, .nil, Nat.le_refl _⟩ ?so ?dn
        case so =>
          rintro E' j v m₃ news₃ own₃ h₄ tk₄ hj hv ⟨its3, n3, rfl, hits3, hsz3⟩ hmap3 hoff3 htk₄ F₄ N₄
          obtain ⟨o, to, rfl, ho⟩ := strs_get hits2 (j := j) (v := v) (by simpa using hv)
          have holen := ordersN_len i (by omega) o (List.mem_of_getElem? ho)
          have hjn : j < 24 := by
            have h1 := ordersN_num i (by omega)
            have h2 := (List.getElem?_eq_some_iff.mp ho).1
            omega
          refine storeL F₄ N₄ ?_ rfl rfl
          intro h₅ F₅ N₅
          dsimp only at F₅ N₅ hmap3 hoff3 htk₄ F₄ N₄ ⊢
          k_steps
          (with_reducible rename Fr _ _ _ _ => F6)
          (with_reducible rename News _ _ _ _ => N6)
          (with_reducible rename IsRange _ _ _ _ _ _ _ _ => R6)
          have hrng := @rng_ok ((o.length : Int) + 1) (by omega) (by omega)
          have hrn : ((o.length : Int) + 1).toNat = o.length + 1 := by omega
          rw [hrn] at hrng
          refine Halt.of ((makes_range (n := o.length + 1) rfl R6 hrng.1 hrng.2) _ _ fun ob hf hI2 => ?_)
          obtain ⟨St2, W2, hst2⟩ := hI2 h₃ (C :: ((D2, listOf its3 n3) :: own₃).map (·.1)) (size_off F6 N6) (base_lt F6) (fun b hb => (List.not_mem_nil hb).elim)
          have F7 := F6.push ob
          have N7 : News h₃ C _ ((D2, listOf its3 n3) :: own₃) := fun p hp => ⟨Heap.get?_push_of_some ob (N6 p hp).1, (N6 p hp).2⟩
          dsimp only at hst2 F7 N7 ⊢
          refine comp_start1I W2 (hst2 _ _ (fun _ _ e => e) (Nat.le_refl _)) (comp_loop_in (env := cenvOf _ _ C _) W2 (hst2 _ _ (fun _ _ e => e) (Nat.le_refl _)) F7 N7 rfl
            (fun k m' news' => ∃ its4 n4, news' = (D2, listOf its4 n4) :: own₃ ∧ StrsAre its4.toList ((((ordersN i).take j).flatMap fun o => orderPieces o ⟨#[c]⟩) ++ (List.range k).map fun (k : Nat) => Txt.slice o none (some (k : Int)) ++ ⟨#[c]⟩ ++ Txt.slice o (some (k : Int)) none) ∧ its4.size ≤ 5 * j + k ∧ m' (Str.ofString "order") = some (.str o to))
            ⟨its3, n3, rfl, by simpa using hits3, hsz3, rfl⟩ ?si ?di)
          case si =>
            rintro E'' k v m₄ news₄ own₄ h₇ tk₇ hk ⟨tv, rfl⟩ ⟨its4, n4, rfl, hits4, hsz4, hord4⟩ hmap4 hoff4 htk₇ F₇ N₇
            refine storeL F₇ N₇ ?_ rfl rfl
            intro h₈ F₈ N₈
            dsimp only at F₈ N₈ hmap4 hoff4 htk₇ F₇ N₇ ⊢
            simp only [Int.zero_add] at F₈
            k_steps
            (with_reducible rename Fr _ _ _ _ => F9)
            (with_reducible rename News _ _ _ _ => N9)
            refine Halt.of (appendTo (own := own₃ ++ own₄) F9 N9 ?off (by omega) ?_)
            case off =>
              intro p hp
              rcases List.mem_append.mp hp with hp | hp
              · exact hoff3 p hp D2 (List.Mem.head _)
              · exact hoff4 p hp D2 (List.Mem.head _)
            intro h₁₀ F₁₀ N₁₀
            refine TurnEnd.intro ((D2, listOf (its4.push _) (n4 + 1)) :: own₃) F₁₀ N₁₀ (fun p hp => hp) rfl ⟨_, n4 + 1, rfl, ?_, ?_, ?_⟩
            · rw [Array.toList_push, List.range_succ, List.map_append, ← List.append_assoc]
              exact strs_push hits4 _ _
            · rw [Array.size_push]; omega
            · exact hord4
          case di =>
            rintro m' news' h' tk' ⟨its4, n4, rfl, hits4, hsz4, hord4⟩ hmap4 htk4 F' N'
            refine TurnEnd.intro [(D2, listOf its4 n4)] F' N' (fun p hp => hp) rfl ⟨its4, n4, rfl, ?_, ?_⟩
            · rw [flat_take _ ho]; exact hits4
            · omega
        case dn =>
          rintro m' news' h' tk' ⟨its3, n3, rfl, hits3, hsz3⟩ hmap' htk' FC' NC'
          dsimp only at FC' NC' htk' ⊢
          refine ⟨m', _, _, rfl, FC', _, n3, (NC' (D2, _) (List.Mem.head _)).1, ?_⟩
          intro hh tk₈ F₈ N₈ hlt₈ t₈
          dsimp only at F₈ N₈ ⊢
          refine wpAny_execs_nil ?_
          have hl5 : its2.size = (ordersN i).length := by
            have := strs_length hits2
            rw [Array.length_toList] at this
            exact this
          rw [hl5, List.take_length, hsign] at hits3
          refine ⟨rfl, hh, tk₈, _, [(D2, listOf its3 n3), (ll, listOf its n), (L + 1 + 1, o3), (L + 1, ol)], rfl, ?_, F₈, ?_, ?_, D2, its3, n3, o3, rfl, ⟨_, d3⟩, hits3, rfl, ?_, ?_, ?_⟩
          · dsimp only at htk₂ ⊢; omega
          · intro p hp
            rcases List.mem_cons.mp hp with rfl | hp
            · exact N₈ _ (.tail _ (.head _))
            · rcases List.mem_cons.mp hp with rfl | hp
              · exact N₈ _ (.head _)
              · exact N₈ p (.tail _ (.tail _ (.tail _ hp)))
          · intro p hp
            rcases List.mem_cons.mp hp with rfl | hp
            · exact Nat.ne_of_gt (hlt₈ _ (.head _))
            · rcases List.mem_cons.mp hp with rfl | hp
              · exact hne₂ _ (.tail _ (.head _))
              · rcases List.mem_cons.mp hp with rfl | hp
                · exact nI
                · exact hne₂ p (.tail _ (.tail _ (.tail _ hp)))
          · exact hlt₈ _ (.tail _ (.tail _ (.head _)))
          · exact hlt₈ _ (.tail _ (.tail _ (.tail _ (.head _))))
          · exact hlt₈ _ (.tail _ (.tail _ (.tail _ (.tail _ (.head _)))))
    case done2 =>
      rintro m₂ news₂ h₂ tk₂ ⟨D, its2, n2, oc, rfl, ⟨vv, hoc⟩, hits2, hord, hl1, hl2, hl3⟩ htk₂ F₂ N₂
      dsimp only at F₂ N₂ ⊢
      k_steps
      have hll : h₂.IsList ll its := News.isList N₂ (.tail _ (.head _))
      have cellsl : h₂.IsCell (L + 1) (some (.ref ll)) := ⟨ol, (N₂ (L + 1, ol) (by simp)).1, dl⟩
      have hlsz : its.size = (leastL row.cps.toList row.length).length := by
        have := strs_length hits
        rw [Array.length_toList] at this
        exact this
      have hfit : (its.size : Int) < 2 ^ 63 := by omega
      have hDs : its2.size = (ordersN 3).length := by
        have := strs_length hits2
        rw [Array.length_toList] at this
        exact this
      refine' Halt.of (comp_eval_c (o := Str.ofString "order") ?hclos rfl ?hnames ?hcf ?hpc ?hs ?h)
      case hclos => with_unfolding_all rfl
      case hnames => decide
      case hcf => intro n; rfl
      case hpc => intro n; rfl
      case hs => intro _; rfl
      case h =>
        refine nameL F₂ hord ?_ rfl rfl (by decide)
        refine ⟨[D], its2.size, _, makes_list rfl (News.isList N₂ (.head _)), fun b hb => ?_, ?_⟩
        · rw [List.mem_singleton.mp hb]; exact Heap.lt_size (N₂ _ (.head _)).1
        intro I D2 C h eI eD eC FC NC hI
        dsimp only at eI eD eC FC NC hI ⊢
        obtain ⟨St, WI, hst⟩ := hI [C, C + 1, D2] (fun b hb => by
          rcases List.mem_cons.mp hb with q | hb
          · rw [q, eC, eD]; exact Nat.le_succ _
          · rcases List.mem_cons.mp hb with q | hb
            · rw [q, eC, eD]; exact Nat.le_succ_of_le (Nat.le_succ _)
            · rw [List.mem_singleton.mp hb]; exact Nat.le_refl _)
        have XC := Frag.In.keeps X (Fr.keep F₂)
        have TC := Top.keeps T (Fr.keep F₂)
        have hDC : D2 ≠ C + 1 := by rw [eD, eC]; exact Nat.ne_of_lt (Nat.lt_succ_of_lt (Nat.lt_succ_self _))
        refine comp_loop1 (env := cenvOf _ _ C _) (as := [C + 1, D2]) WI hst FC NC rfl
          (fun j m' news' => ∃ oc' its3 n3, news' = [(C + 1, oc'), (D2, listOf its3 n3)] ∧ (∃ vv, oc'.data = .cell vv) ∧ StrsAre its3.toList (((ordersN 3).take j).filter fun o => decide (minPre o (leastL row.cps.toList row.length).length = leastL row.cps.toList row.length)) ∧ its3.size ≤ j)
          ⟨_, #[], 0, rfl, ⟨_, rfl⟩, .nil, Nat.le_refl _⟩ ?stepc ?donec
        case stepc =>
          rintro E' j v m₃ news₃ own₃ h₄ tk₄ hj hv ⟨oc', its3, n3, rfl, ⟨vv', hoc'⟩, hits3, hsz3⟩ hmap3 hoff3 htk₄ F₄ N₄
          obtain ⟨o, to, rfl, ho⟩ := strs_get hits2 (j := j) (v := v) (by simpa using hv)
          replace ho : (ordersN 3)[j]? = some o := ho
          have holen := ordersN_len 3 (by omega) o (List.mem_of_getElem? ho)
          have hjn : j < 24 := by
            have h1 := ordersN_num 3 (by omega)
            have h2 := (List.getElem?_eq_some_iff.mp ho).1
            omega
          have hft : ∀ p : Str → Bool, ((ordersN 3).take (j + 1)).filter p = ((ordersN 3).take j).filter p ++ (if p o = true then [o] else []) := fun p => by
            rw [List.take_add_one, ho, List.filter_append]
            by_cases hp : p o = true
            · rw [if_pos hp]; simp [hp]
            · rw [if_neg hp]; simp [hp]
          refine storeC F₄ N₄ rfl (UpdF.head fun p hp => ?_) hoc' ?_ rfl rfl
          · rcases List.mem_cons.mp hp with rfl | hp
            · exact hDC
            · exact hoff3 p hp (C + 1) (.head _)
          intro h₅ o5 F₅ N₅ d5
          dsimp only at F₅ N₅ d5 hmap3 hoff3 htk₄ F₄ N₄ ⊢
          refine wpAny_tests_one ?_
          k_steps
          refine' Halt.of (comp_eval ?hclos1 rfl ?hnames1 ?hcell1 ?hs1 ?h1)
          case hclos1 => with_unfolding_all rfl
          case hnames1 => decide
          case hcell1 => decide
          case hs1 => intro _; rfl
          case h1 =>
            repeat ((with_reducible show wpAny _ _ _ _ _ _); first | walk1 | (dsimp only; walk1))
            (with_reducible rename Fr _ _ _ _ => F6)
            (with_reducible rename News _ _ _ _ => N6)
            (with_reducible rename IsRange _ _ _ _ _ _ _ _ => R6)
            have hrng := @rng_ok (its.size : Int) (by omega) (by omega)
            rw [Int.toNat_natCast] at hrng
            refine ⟨[], its.size, _, makes_range (n := its.size) rfl R6 hrng.1 hrng.2, fun b hb => (List.not_mem_nil hb).elim, ?_⟩
            intro I1 D1 C1 h6 e1 e2 e3 FC1 NC1 hI1
            dsimp only at e1 e2 e3 FC1 NC1 hI1 ⊢
            obtain ⟨St1, W1, hst1⟩ := hI1 [C1, D1] (fun b hb => by
              rcases List.mem_cons.mp hb with q | q
              · rw [q, e3, e2]; exact Nat.le_succ _
              · rw [List.mem_singleton.mp q]; exact Nat.le_refl _)
            have X6 := Frag.In.keeps XC (Fr.keep F6)
            have T6 := Top.keeps TC (Fr.keep F6)
            have cello : Heap.IsCell _ (C + 1) (some (.str o to)) := ⟨o5, (N6 _ (.head _)).1, d5⟩
            refine comp_loop1 (env := cenvOf _ _ C1 _) (as := [D1]) W1 hst1 FC1 NC1 rfl (fun k m' news' => ∃ its4 n4, news' = [(D1, listOf its4 n4)] ∧ StrsAre its4.toList (minPre o k) ∧ its4.size ≤ k) ⟨#[], 0, rfl, .nil, Nat.le_refl _⟩ ?s1 ?d1
            case s1 =>
              rintro E'' k v m₄ news₄ own₄ h₇ tk₇ hk ⟨tv, rfl⟩ ⟨its4, n4, rfl, hits4, hsz4⟩ hmap4 hoff4 htk₇ F₇ N₇
              refine storeL F₇ N₇ ?_ rfl rfl
              intro h₈ F₈ N₈
              dsimp only at F₈ N₈ hmap4 hoff4 htk₇ F₇ N₇ ⊢
              simp only [Int.zero_add] at F₈
              refine wpAny_tests_nil ?_
              rw [if_pos rfl]
              k_steps
              (with_reducible rename Fr _ _ _ _ => F9)
              (with_reducible rename News _ _ _ _ => N9)
              have hol : o.cps.toList.length = 4 := by simpa [Str.length] using holen
              have hsl : Txt.slice o none (some ((k : Int) + 1)) = ⟨(o.cps.toList.take (k + 1)).toArray⟩ := slice_to o (b := k + 1) (by omega)
              refine Halt.of (min_ss rfl ?_ ?_)
              · rw [hsl, List.size_toArray, List.length_take]; omega
              · intro u9 h9 tk9 kk
                have F10 := Fr.keeps F9 kk
                have N10 := News.grown N9 kk
                dsimp only at F10 N10 ⊢
                refine appendTo F10 N10 (OwnOff.ne hoff4 (.head _)) (by omega) ?_
                intro h₁₀ F₁₀ N₁₀
                refine TurnEnd.intro [(D1, listOf (its4.push _) (n4 + 1))] F₁₀ N₁₀ (fun p hp => hp) rfl ⟨_, n4 + 1, rfl, ?_, ?_⟩
                · have e : minPre o (k + 1) = minPre o k ++ [⟨#[minChr (Txt.slice o none (some ((k : Int) + 1))).cps.toList]⟩] := by
                    unfold minPre; rw [List.range_succ, List.map_append]; rfl
                  rw [Array.toList_push, e]
                  exact strs_push hits4 _ _
                · rw [Array.size_push]; omega
            case d1 =>
              rintro m' news' h' tk' ⟨its4, n4, rfl, hits4, hsz4⟩ hmap4' htk4' FC4 NC4
              dsimp only at FC4 NC4 htk4' ⊢
              refine ⟨m', _, _, rfl, FC4, _, n4, (NC4 (D1, _) (.head _)).1, ?_⟩
              intro h'' k1 k2
              have F9 := Fr.keeps F6 k1
              have N9 := News.grown N6 k1
              dsimp only at F9 N9 ⊢
              k_steps
              refine Halt.of (eq_strs ⟨listOf its4 n4, k2, rfl, n4, rfl⟩ (hll.at fun o e => Fr.keep F9 _ o e) hits4 hits (by show un + 3 < cLine; omega) ?_)
              rw [hlsz]
              k_steps
              · (with_reducible rename Fr _ _ _ _ => F11)
                (with_reducible rename News _ _ _ _ => N11)
                have N12 : News h₂ C _ ((D2, listOf its3 n3) :: (C + 1, o5) :: own₃) := fun p hp => N11 p (by
                  rcases List.mem_cons.mp hp with rfl | hp
                  · exact .tail _ (.head _)
                  · rcases List.mem_cons.mp hp with rfl | hp
                    · exact .head _
                    · exact .tail _ (.tail _ hp))
                refine Halt.of (appendTo F11 N12 ?offc (by omega) ?_)
                case offc =>
                  intro p hp
                  rcases List.mem_cons.mp hp with rfl | hp
                  · exact Ne.symm hDC
                  · exact hoff3 p hp D2 (.tail _ (.head _))
                intro h₁₀ F₁₀ N₁₀
                refine TurnEnd.intro [(C + 1, o5), (D2, listOf (its3.push (.str o to)) (n3 + 1))] F₁₀ N₁₀ ?_ rfl ⟨o5, _, n3 + 1, rfl, ⟨_, d5⟩, ?_, ?_⟩
                · intro p hp
                  rcases List.mem_cons.mp hp with rfl | hp
                  · exact .tail _ (.head _)
                  · rcases List.mem_cons.mp hp with rfl | hp
                    · exact .head _
                    · exact .tail _ (.tail _ hp)
                · rw [Array.toList_push, hft, if_pos (decide_eq_true (by assumption))]
                  exact strs_push hits3 _ _
                · rw [Array.size_push]; omega
              · refine TurnEnd.intro [(C + 1, o5), (D2, listOf its3 n3)] F9 N9 (fun p hp => hp) rfl ⟨o5, its3, n3, rfl, ⟨_, d5⟩, ?_, Nat.le_succ_of_le hsz3⟩
                rw [hft, if_neg (fun h => absurd (of_decide_eq_true h) (by assumption)), List.append_nil]
                exact hits3
        case donec =>
          rintro m' news' h' tk' ⟨oc', its3, n3, rfl, ⟨vv', hoc'⟩, hits3, hsz3⟩ hmap' htk' FC' NC'
          dsimp only at FC' NC' htk' ⊢
          rw [hDs, List.take_length] at hits3
          refine ⟨m', _, _, rfl, FC', _, n3, (NC' (D2, _) (.tail _ (.head _))).1, ?_⟩
          intro h'' k1 k2 ht'
          dsimp only at ht' ⊢
          exact ret D2 its3 n3 h'' tk' (fun b o e => k1 b o (Fr.keep F₂ b o e)) ht' (by rw [eD]; exact Nat.le_succ_of_le (Nat.le_trans F₂.above (Nat.le_of_lt F₂.ns.lt))) k2 (by rw [← hxl] at hits3; exact hits3)
end
end Mine
end

section
open PySem PySem.W PySem.Calls PyProof.Rows
set_option Elab.async false
set_option maxRecDepth 100000
set_option maxHeartbeats 8000000
namespace Mine
def powN (q : Int) : Nat → Int
  | 0 => 1
  | n + 1 => powN q n * q
def totalGo (q : Int) : List Str → Int → Int
  | [], t => t
  | o :: r, t => totalGo q r (t + powN q (turnedN o 3))
def evalP (q : Int) : List Int → Int
  | [] => 0
  | x :: a => x + q * evalP q a
def addP : List Int → List Int → List Int
  | [], b => b
  | a, [] => a
  | x :: a, y :: b => (x + y) :: addP a b
def scaleP (c : Int) : List Int → List Int
  | [] => []
  | x :: a => c * x :: scaleP c a
def mulP : List Int → List Int → List Int
  | [], _ => []
  | x :: a, b => addP (scaleP x b) (0 :: mulP a b)
def trimP : List Int → List Int
  | [] => []
  | x :: a => if trimP a = [] ∧ x = 0 then [] else x :: trimP a
theorem eval_trim (q : Int) : ∀ a, evalP q (trimP a) = evalP q a
  | [] => rfl
  | x :: a => by
    have ih := eval_trim q a
    unfold trimP
    split
    · rename_i h
      rw [h.1] at ih
      simp only [evalP] at ih ⊢
      rw [← ih, h.2]; simp
    · simp only [evalP]; rw [ih]
theorem eval_add (q : Int) : ∀ a b, evalP q (addP a b) = evalP q a + evalP q b
  | [], b => by simp [addP, evalP]
  | x :: a, [] => by simp [addP, evalP]
  | x :: a, y :: b => by
    simp only [addP, evalP, eval_add q a b, Int.mul_add]
    omega
theorem eval_scale (q c : Int) : ∀ a, evalP q (scaleP c a) = c * evalP q a
  | [] => by simp [scaleP, evalP]
  | x :: a => by
    simp only [scaleP, evalP, eval_scale q c a, Int.mul_add]
    rw [← Int.mul_assoc, ← Int.mul_assoc, Int.mul_comm q c]
theorem eval_mul (q : Int) : ∀ a b, evalP q (mulP a b) = evalP q a * evalP q b
  | [], b => by simp [mulP, evalP]
  | x :: a, b => by
    simp only [mulP, eval_add, eval_scale, evalP, eval_mul q a b, Int.add_mul, Int.zero_add]
    rw [Int.mul_assoc]
def monoP (e : Nat) : List Int := List.replicate e 0 ++ [1]
theorem eval_mono (q : Int) : ∀ e, evalP q (monoP e) = powN q e
  | 0 => by simp [monoP, evalP, powN]
  | e + 1 => by
    have ih := eval_mono q e
    unfold monoP at ih ⊢
    rw [List.replicate_succ, List.cons_append]
    simp only [evalP, powN]
    rw [ih, Int.zero_add, Int.mul_comm]
def onesP (n : Nat) : List Int := List.replicate n 1
theorem eval_ones (q : Int) : ∀ n, evalP q (onesP n) = factorN q n
  | 0 => rfl
  | n + 1 => by
    have ih := eval_ones q n
    unfold onesP at ih ⊢
    rw [List.replicate_succ]
    simp only [evalP, factorN]
    rw [ih, Int.mul_comm]; omega
def totP (os : List Str) : List Int := os.foldl (fun p o => addP p (monoP (turnedN o 3))) []
theorem eval_tot (q : Int) : ∀ (os : List Str) (p : List Int) (t : Int), evalP q p = t → evalP q (os.foldl (fun p o => addP p (monoP (turnedN o 3))) p) = totalGo q os t
  | [], p, t, h => h
  | o :: r, p, t, h => by
    show evalP q (r.foldl _ (addP p (monoP (turnedN o 3)))) = totalGo q r (t + powN q (turnedN o 3))
    refine eval_tot q r _ _ ?_
    rw [eval_add, eval_mono, h]
def prodPS (l : List Nat) (st : List Int × Nat) (place : Nat) : List Int × Nat :=
  if l[place]? = some 41 then (if place = 0 ∨ l[place - 1]? = some 41 then (mulP st.1 (onesP (cntL (l.take place) ⟨#[40]⟩ - st.2)), st.2 + 1) else (st.1, st.2 + 1)) else st
def prodP (l : List Nat) (k : Nat) : List Int × Nat := (List.range k).foldl (prodPS l) ([1], 0)
theorem eval_prod (l : List Nat) (q : Int) : ∀ k, (prodN l q k).1 = evalP q (prodP l k).1 ∧ (prodN l q k).2 = (prodP l k).2
  | 0 => ⟨by simp [prodN, prodP, evalP], rfl⟩
  | k + 1 => by
    obtain ⟨h1, h2⟩ := eval_prod l q k
    have e : prodP l (k + 1) = prodPS l (prodP l k) k := by unfold prodP; rw [List.range_succ, List.foldl_append]; rfl
    rw [prodN_succ, e]
    unfold prodStep prodPS
    split
    · split
      · exact ⟨by rw [eval_mul, eval_ones, h1, h2], by rw [h2]⟩
      · exact ⟨h1, by rw [h2]⟩
    · exact ⟨h1, h2⟩
theorem tot_of {l : List Nat} (h : trimP (totP (ordersOf l)) = trimP (prodP l 8).1) (q : Int) : totalGo q (ordersOf l) 0 = (prodN l q 8).1 := by
  rw [(eval_prod l q 8).1, ← eval_trim q (prodP l 8).1, ← h, eval_trim]
  exact (eval_tot q (ordersOf l) [] 0 rfl).symm
end Mine
end

section
open PySem PySem.W PySem.Calls PyProof.Rows
set_option Elab.async false
set_option maxRecDepth 100000
set_option maxHeartbeats 8000000
namespace Mine
def rowsL : List (List Nat) := [
  [40, 40, 40, 40, 41, 41, 41, 41],
  [40, 40, 40, 41, 40, 41, 41, 41],
  [40, 40, 40, 41, 41, 40, 41, 41],
  [40, 40, 40, 41, 41, 41, 40, 41],
  [40, 40, 41, 40, 40, 41, 41, 41],
  [40, 40, 41, 40, 41, 40, 41, 41],
  [40, 40, 41, 40, 41, 41, 40, 41],
  [40, 40, 41, 41, 40, 40, 41, 41],
  [40, 40, 41, 41, 40, 41, 40, 41],
  [40, 40, 41, 41, 41, 40, 40, 41],
  [40, 41, 40, 40, 40, 41, 41, 41],
  [40, 41, 40, 40, 41, 40, 41, 41],
  [40, 41, 40, 40, 41, 41, 40, 41],
  [40, 41, 40, 41, 40, 40, 41, 41],
  [40, 41, 40, 41, 40, 41, 40, 41],
  [40, 41, 40, 41, 41, 40, 40, 41],
  [40, 41, 41, 40, 40, 40, 41, 41],
  [40, 41, 41, 40, 40, 41, 40, 41],
  [40, 41, 41, 40, 41, 40, 40, 41],
  [40, 41, 41, 41, 40, 40, 40, 41],
  [41, 40, 40, 40, 41, 41, 41, 40],
  [41, 40, 40, 41, 40, 41, 41, 40],
  [41, 40, 40, 41, 41, 40, 41, 40],
  [41, 40, 40, 41, 41, 41, 40, 40],
  [41, 40, 41, 40, 40, 41, 41, 40],
  [41, 40, 41, 40, 41, 40, 41, 40],
  [41, 40, 41, 40, 41, 41, 40, 40],
  [41, 40, 41, 41, 40, 40, 41, 40],
  [41, 40, 41, 41, 40, 41, 40, 40],
  [41, 40, 41, 41, 41, 40, 40, 40],
  [41, 41, 40, 40, 40, 41, 41, 40],
  [41, 41, 40, 40, 41, 40, 41, 40],
  [41, 41, 40, 40, 41, 41, 40, 40],
  [41, 41, 40, 41, 40, 40, 41, 40],
  [41, 41, 40, 41, 40, 41, 40, 40],
  [41, 41, 40, 41, 41, 40, 40, 40],
  [41, 41, 41, 40, 40, 40, 41, 40],
  [41, 41, 41, 40, 40, 41, 40, 40],
  [41, 41, 41, 40, 41, 40, 40, 40],
  [41, 41, 41, 41, 40, 40, 40, 40]]
def mkRow (a b c : Nat) (f : Bool) : Str := match f with
  | true => Str.ofString ")" ++ insRow (insRow (insRow (Str.ofString ")))") a) b) c ++ Str.ofString "("
  | false => Str.ofString "(" ++ insRow (insRow (insRow (Str.ofString ")))") a) b) c ++ Str.ofString ")"
theorem mk_rows : ∀ a < 4, ∀ b < 5, ∀ c < 6, ∀ f : Bool, (mkRow a b c f).cps.toList ∈ rowsL := by decide +kernel
def balGo : List Nat → Int → Bool
  | [], o => decide (o = 0)
  | c :: r, o => if c = 40 then balGo r (o + 1) else if c = 41 then (if o - 1 < 0 then false else balGo r (o - 1)) else balGo r o
def formedL (b : List Nat) : Bool := decide (ordersOf b ≠ []) && (cntL b ⟨#[40]⟩ == cntL b ⟨#[41]⟩)
theorem rows_poly : ∀ l ∈ rowsL, trimP (totP (ordersOf l)) = trimP (prodP l 8).1 := by decide +kernel
theorem rows_pre : ∀ l ∈ rowsL, ∀ k < 9, cntL (l.take k) ⟨#[40]⟩ ≤ 4 ∧ (leastL (l.take k) (l.take k).length).length ≤ 4 ∧ (∀ c ∈ l.take k, c = 40 ∨ c = 41) := by decide +kernel
theorem rows_formed' : ∀ l ∈ rowsL, ∀ k < 9, ((cntL (l.take k) ⟨#[40]⟩ == cntL (l.take k) ⟨#[41]⟩) && decide (ordersOf (l.take k) ≠ [])) = balGo (l.take k) 0 := by decide +kernel
theorem rows_formed (l : List Nat) (hl : l ∈ rowsL) (k : Nat) (hk : k < 9) : formedL (l.take k) = balGo (l.take k) 0 := by
  unfold formedL
  rw [Bool.and_comm]
  exact rows_formed' l hl k hk
end Mine
end

section
open PySem PySem.W PySem.Calls PyProof.Rows
set_option Elab.async false
set_option maxRecDepth 100000
set_option maxHeartbeats 8000000
namespace Mine
def qOf (nums : List Int) : Int := (nums.getD 4 0 + 1000001).fmod 2000003 - 1000001
def begunOf (nums : List Int) : Str := Txt.slice (rowOf nums) none (some (8 - ((nums.getD 3 0).fdiv 8).fmod 9))
def formedOf (b : Str) : Bool := decide (ordersOf b.cps.toList ≠ []) && (cntL b.cps.toList ⟨#[40]⟩ == cntL b.cps.toList ⟨#[41]⟩)
theorem p_len (nums : List Int) : (rowOf nums).length = 8 := by
  unfold rowOf
  have h := rowGo_len nums 3
  split
  · simp only [str_app_len, h]; rfl
  · simp only [str_app_len, h]; rfl
theorem fmod_nat (x : Int) (n : Nat) : ∃ a, a < n + 1 ∧ x.fmod ((n : Int) + 1) = (a : Int) := by
  have h0 : (0 : Int) < (n : Int) + 1 := by omega
  have h1 := Int.fmod_nonneg_of_pos x h0
  have h2 := Int.fmod_lt_of_pos x h0
  exact ⟨(x.fmod ((n : Int) + 1)).toNat, by omega, by omega⟩
theorem row_mem (nums : List Int) : (rowOf nums).cps.toList ∈ rowsL := by
  obtain ⟨a, ha, ea⟩ := fmod_nat (nums.getD 0 0) (rowGo nums 0).length
  obtain ⟨b, hb, eb⟩ := fmod_nat (nums.getD 1 0) (rowGo nums 1).length
  obtain ⟨c, hc, ec⟩ := fmod_nat (nums.getD 2 0) (rowGo nums 2).length
  rw [rowGo_len] at ha hb hc
  have e1 : rowGo nums 1 = insRow (Str.ofString ")))") a := by show insRow _ _ = _; rw [ea]; rfl
  have e2 : rowGo nums 2 = insRow (insRow (Str.ofString ")))") a) b := by show insRow (rowGo nums 1) _ = _; rw [eb, e1]
  have e3 : rowGo nums 3 = insRow (insRow (insRow (Str.ofString ")))") a) b) c := by show insRow (rowGo nums 2) _ = _; rw [ec, e2]
  unfold rowOf
  rw [e3]
  split
  · exact mk_rows a ha b hb c hc true
  · exact mk_rows a ha b hb c hc false
theorem begun_at (nums : List Int) : ∃ k, k < 9 ∧ begunOf nums = ⟨((rowOf nums).cps.toList.take k).toArray⟩ := by
  obtain ⟨y, hy, ey⟩ := fmod_nat ((nums.getD 3 0).fdiv 8) 8
  have hl := p_len nums
  refine ⟨8 - y, by omega, ?_⟩
  unfold begunOf
  have e : (8 : Int) - ((nums.getD 3 0).fdiv 8).fmod 9 = ((8 - y : Nat) : Int) := by
    have : ((nums.getD 3 0).fdiv 8).fmod 9 = (y : Int) := ey
    omega
  rw [e]
  exact slice_to _ (by omega)
theorem p_tot (nums : List Int) : totalGo (qOf nums) (ordersOf (rowOf nums).cps.toList) 0 = (prodN (rowOf nums).cps.toList (qOf nums) 8).1 := tot_of (rows_poly _ (row_mem nums)) _
theorem take8 (nums : List Int) : (rowOf nums).cps.toList.take 8 = (rowOf nums).cps.toList := by
  rw [List.take_of_length_le]
  have := p_len nums
  simp [Str.length] at this
  simp [this]
theorem p_cnt (nums : List Int) : cntL (rowOf nums).cps.toList ⟨#[40]⟩ ≤ 4 := by
  have := (rows_pre _ (row_mem nums) 8 (by omega)).1
  rwa [take8] at this
theorem len_list' (x : Str) : x.cps.toList.length = x.length := by simp [Str.length]
theorem p_ll (nums : List Int) : (leastL (rowOf nums).cps.toList (rowOf nums).length).length ≤ 4 := by
  have := (rows_pre _ (row_mem nums) 8 (by omega)).2.1
  rw [take8, len_list'] at this
  exact this
theorem begun_facts (nums : List Int) : ∃ k, k < 9 ∧ (begunOf nums).cps.toList = (rowOf nums).cps.toList.take k := by
  obtain ⟨k, hk, e⟩ := begun_at nums
  exact ⟨k, hk, by rw [e]⟩
theorem p_llb (nums : List Int) : (leastL (begunOf nums).cps.toList (begunOf nums).length).length ≤ 4 := by
  obtain ⟨k, hk, e⟩ := begun_facts nums
  rw [← len_list', e]
  exact (rows_pre _ (row_mem nums) k hk).2.1
theorem p_cntb (nums : List Int) : cntL (begunOf nums).cps.toList ⟨#[40]⟩ ≤ 4 := by
  obtain ⟨k, hk, e⟩ := begun_facts nums
  rw [e]
  exact (rows_pre _ (row_mem nums) k hk).1
theorem p_signs (nums : List Int) : ∀ c ∈ (begunOf nums).cps.toList, c = 40 ∨ c = 41 := by
  obtain ⟨k, hk, e⟩ := begun_facts nums
  rw [e]
  exact (rows_pre _ (row_mem nums) k hk).2.2
theorem p_lenb (nums : List Int) : (begunOf nums).length ≤ 8 := by
  obtain ⟨k, hk, e⟩ := begun_facts nums
  rw [← len_list', e, List.length_take]
  omega
theorem p_formed (nums : List Int) : formedOf (begunOf nums) = balGo (begunOf nums).cps.toList 0 := by
  obtain ⟨k, hk, e⟩ := begun_facts nums
  show formedL (begunOf nums).cps.toList = _
  rw [e]
  exact rows_formed _ (row_mem nums) k hk
theorem p_ord (l : List Nat) : ∀ o ∈ ordersOf l, o.length = 4 := fun o ho => ordersN_len 3 (by omega) o (List.mem_filter.mp ho).1
theorem p_turn (o : Str) : turnedN o 3 ≤ 3 := by
  unfold turnedN
  exact Nat.le_trans (List.length_filter_le _ _) (List.length_take_le ..)
end Mine
end

section
open PySem PySem.W PySem.Calls PyProof.Rows
set_option Elab.async false
set_option maxRecDepth 100000
set_option maxHeartbeats 8000000
namespace Mine
def pieceC (k c : Nat) : List Nat := match k with
  | 0 => [c]
  | 1 => [34, c, 34, c]
  | 2 => [c, 92, c]
  | 3 => [92, 92, c]
  | 4 => [34, 92, 34, 41, 34, c]
  | 5 => [c, 92, 34]
  | _ => [34, c]
def stripC (k c : Nat) : List Nat := match k with
  | 0 => [c]
  | 1 => [c]
  | 2 => [c, 92, c]
  | 3 => [92, 92, c]
  | 4 => [c]
  | 5 => [c, 92, 34]
  | _ => [34, c]
def flatK (ks : List (Nat × Nat)) : List Nat := ks.flatMap fun p => pieceC p.1 p.2
def strK (ks : List (Nat × Nat)) : List Nat := ks.flatMap fun p => stripC p.1 p.2
theorem esc_c {c : Nat} (h : c ≠ 92) (r : List Nat) (i : Nat) : escOuts (c :: r) i false = (i, ⟨#[c]⟩) :: escOuts r (i + 1) false := if_neg h
theorem esc_e (c : Nat) (r : List Nat) (i : Nat) : escOuts (92 :: c :: r) i false = (i + 1, Str.ofString "\\" ++ ⟨#[c]⟩) :: escOuts r (i + 1 + 1) false := by
  show (if 92 = 92 then escOuts (c :: r) (i + 1) true else _) = _
  rw [if_pos rfl]; rfl
theorem ck_open (j : Nat) (r : List (Nat × Str)) (o : Int) : checkGo ((j, ⟨#[40]⟩) :: r) o = checkGo r (o + 1) := by
  rw [checkGo]; exact if_pos rfl
theorem ck_close (j : Nat) (r : List (Nat × Str)) (o : Int) : checkGo ((j, ⟨#[41]⟩) :: r) o = (if o - 1 < 0 then false else checkGo r (o - 1)) := by
  rw [checkGo]
  exact (if_neg (show ¬ ((⟨#[41]⟩ : Str) = Str.ofString "(") by decide)).trans (if_pos rfl)
theorem ck_q (j : Nat) (r : List (Nat × Str)) (o : Int) : checkGo ((j, ⟨#[34]⟩) :: r) o = checkGo r o := by
  rw [checkGo]
  exact (if_neg (show ¬ ((⟨#[34]⟩ : Str) = Str.ofString "(") by decide)).trans (if_neg (show ¬ ((⟨#[34]⟩ : Str) = Str.ofString ")") by decide))
theorem two_ne (c d : Nat) : ¬ (Str.ofString "\\" ++ ⟨#[c]⟩ = (⟨#[d]⟩ : Str)) := fun h => by
  have := congrArg Str.length h
  rw [str_app_len] at this
  cases this
theorem ck_e (j c : Nat) (r : List (Nat × Str)) (o : Int) : checkGo ((j, Str.ofString "\\" ++ ⟨#[c]⟩) :: r) o = checkGo r o := by
  rw [checkGo]
  exact (if_neg (two_ne c 40)).trans (if_neg (two_ne c 41))
/-- the check of the stripped text, piece by piece -/
theorem check_piece (k c : Nat) (hk : k ≤ 6) (hc : c = 40 ∨ c = 41) (B : List Nat) (i : Nat) (o : Int) (R : Int → Bool) (hR : ∀ j o', checkGo (escOuts B j false) o' = R o') :
    checkGo (escOuts (stripC k c ++ B) i false) o = (if c = 40 then R (o + 1) else if o - 1 < 0 then false else R (o - 1)) := by
  have n92 : c ≠ 92 := by omega
  have h34 : (34 : Nat) ≠ 92 := by decide
  have ck : ∀ j r o, checkGo ((j, ⟨#[c]⟩) :: r) o = (if c = 40 then checkGo r (o + 1) else if o - 1 < 0 then false else checkGo r (o - 1)) := fun j r o => by
    rcases hc with rfl | rfl
    · rw [ck_open, if_pos rfl]
    · rw [ck_close]; exact (if_neg (show ¬ ((41 : Nat) = 40) by decide)).symm
  rcases k with _ | _ | _ | _ | _ | _ | _ | k
  · simp only [stripC, List.cons_append, List.nil_append]; rw [esc_c n92, ck, hR, hR]
  · simp only [stripC, List.cons_append, List.nil_append]; rw [esc_c n92, ck, hR, hR]
  · simp only [stripC, List.cons_append, List.nil_append]; rw [esc_c n92, esc_e, ck, ck_e, ck_e, hR, hR]
  · simp only [stripC, List.cons_append, List.nil_append]; rw [esc_e, esc_c n92, ck_e, ck, hR, hR]
  · simp only [stripC, List.cons_append, List.nil_append]; rw [esc_c n92, ck, hR, hR]
  · simp only [stripC, List.cons_append, List.nil_append]; rw [esc_c n92, esc_e, ck, ck_e, ck_e, hR, hR]
  · simp only [stripC, List.cons_append, List.nil_append]; rw [esc_c h34, esc_c n92, ck_q, ck, hR, hR]
  · omega
theorem check_flat : ∀ (ks : List (Nat × Nat)) (i : Nat) (o : Int), (∀ p ∈ ks, p.1 ≤ 6 ∧ (p.2 = 40 ∨ p.2 = 41)) → checkGo (escOuts (strK ks) i false) o = balGo (ks.map (·.2)) o
  | [], i, o, _ => rfl
  | (k, c) :: r, i, o, h => by
    have hk := h (k, c) (.head _)
    have e : strK ((k, c) :: r) = stripC k c ++ strK r := rfl
    rw [e, check_piece k c hk.1 hk.2 (strK r) i o (fun o' => balGo (r.map (·.2)) o') fun j o' => check_flat r j o' fun p hp => h p (.tail _ hp)]
    show _ = balGo (c :: r.map (·.2)) o
    rw [balGo]
    rcases hk.2 with rfl | rfl
    · rfl
    · rfl
end Mine
end

section
open PySem PySem.W PySem.Calls PyProof.Rows
set_option Elab.async false
set_option maxRecDepth 100000
set_option maxHeartbeats 8000000
namespace Mine
def catS (res : List Str) : List Nat := res.flatMap (·.cps.toList)
theorem ss_open (x : Str) (st : Nat) (res : List Str) (p : Nat) : stripStep x (st, none, res) (p, ⟨#[34]⟩) = (st, some p, res) := by
  unfold stripStep; exact if_pos rfl
theorem ss_close (x : Str) (st o : Nat) (res : List Str) (p : Nat) : stripStep x (st, some o, res) (p, ⟨#[34]⟩) = (p + 1, none, if st = o then res else res ++ [Txt.slice x (some (st : Int)) (some (o : Int))]) := by
  unfold stripStep; exact if_pos rfl
theorem ss_other (x : Str) (s : Nat × Option Nat × List Str) (p : Nat) (y : Str) (h : y ≠ ⟨#[34]⟩) : stripStep x s (p, y) = s := by
  unfold stripStep; exact if_neg h
theorem one_ne {c : Nat} (h : c ≠ 34) : (⟨#[c]⟩ : Str) ≠ ⟨#[34]⟩ := fun e => h (by injection e with e; simpa using e)
theorem piece_fold (x : Str) (k c : Nat) (hk : k < 6) (hc : c = 40 ∨ c = 41) (B : List Nat) (b st : Nat) (res : List Str) :
    (escOuts (pieceC k c ++ B) b false).foldl (stripStep x) (st, none, res) = (escOuts B (b + (pieceC k c).length) false).foldl (stripStep x)
      (if k = 1 then b + 3 else if k = 4 then b + 5 else st, none, if k = 1 ∨ k = 4 then (if st = b then res else res ++ [Txt.slice x (some (st : Int)) (some (b : Int))]) else res) := by
  have n92 : c ≠ 92 := by omega
  have n34 : c ≠ 34 := by omega
  have h34 : (34 : Nat) ≠ 92 := by decide
  have h41 : (41 : Nat) ≠ 92 := by decide
  have h41' : (41 : Nat) ≠ 34 := by decide
  rcases k with _ | _ | _ | _ | _ | _ | k
  · simp only [pieceC, List.cons_append, List.nil_append]; rw [esc_c n92, List.foldl_cons, ss_other _ _ _ _ (one_ne n34)]; rfl
  · simp only [pieceC, List.cons_append, List.nil_append]
    rw [esc_c h34, esc_c n92, esc_c h34, esc_c n92]
    simp only [List.foldl_cons]
    rw [ss_open, ss_other _ _ _ _ (one_ne n34), ss_other _ _ _ _ (one_ne n34), ss_close]; rfl
  · simp only [pieceC, List.cons_append, List.nil_append]; rw [esc_c n92, esc_e]; simp only [List.foldl_cons]; rw [ss_other _ _ _ _ (one_ne n34), ss_other _ _ _ _ (two_ne c 34)]; rfl
  · simp only [pieceC, List.cons_append, List.nil_append]; rw [esc_e, esc_c n92]; simp only [List.foldl_cons]; rw [ss_other _ _ _ _ (two_ne 92 34), ss_other _ _ _ _ (one_ne n34)]; rfl
  · simp only [pieceC, List.cons_append, List.nil_append]
    rw [esc_c h34, esc_e, esc_c h41, esc_c h34, esc_c n92]
    simp only [List.foldl_cons]
    rw [ss_open, ss_other _ _ _ _ (two_ne 34 34), ss_other _ _ _ _ (one_ne h41'), ss_close, ss_other _ _ _ _ (one_ne n34)]; rfl
  · simp only [pieceC, List.cons_append, List.nil_append]; rw [esc_c n92, esc_e]; simp only [List.foldl_cons]; rw [ss_other _ _ _ _ (one_ne n34), ss_other _ _ _ _ (two_ne 34 34)]; rfl
  · omega
theorem slice_mid (x : Str) (T1 R : List Nat) (st : Nat) (h : st ≤ T1.length) (e : x.cps.toList = T1 ++ R) : (Txt.slice x (some (st : Int)) (some (T1.length : Int))).cps.toList = T1.drop st := by
  have hl : T1.length ≤ x.length := by rw [← len_list', e, List.length_append]; omega
  rw [slice_ab x h hl, e]
  show ((T1 ++ R).drop st).take (T1.length - st) = _
  rw [List.drop_append_of_le_length h]
  have : T1.length - st = (T1.drop st).length := by rw [List.length_drop]
  rw [this, List.take_left']; rfl
theorem strip_fold (x : Str) : ∀ (ks : List (Nat × Nat)) (T1 : List Nat) (st : Nat) (res : List Str) (B : List Nat), (∀ p ∈ ks, p.1 < 6 ∧ (p.2 = 40 ∨ p.2 = 41)) → st ≤ T1.length → (∃ R, x.cps.toList = T1 ++ (flatK ks ++ R)) →
    ∃ st' res', (escOuts (flatK ks ++ B) T1.length false).foldl (stripStep x) (st, none, res) = (escOuts B (T1 ++ flatK ks).length false).foldl (stripStep x) (st', none, res') ∧ st' ≤ (T1 ++ flatK ks).length ∧
      catS res' ++ (T1 ++ flatK ks).drop st' = catS res ++ T1.drop st ++ strK ks
  | [], T1, st, res, B, _, hst, _ => ⟨st, res, by simp [flatK], by simpa [flatK] using hst, by simp [flatK, strK]⟩
  | (k, c) :: r, T1, st, res, B, h, hst, ⟨R, hx⟩ => by
    have hk := h (k, c) (.head _)
    have e : flatK ((k, c) :: r) = pieceC k c ++ flatK r := rfl
    have es : strK ((k, c) :: r) = stripC k c ++ strK r := rfl
    rw [e] at hx ⊢
    rw [es, List.append_assoc, piece_fold x k c hk.1 hk.2]
    have hsl := slice_mid x T1 (pieceC k c ++ flatK r ++ R) st hst hx
    generalize hst1 : (if k = 1 then T1.length + 3 else if k = 4 then T1.length + 5 else st) = st1
    generalize hres1 : (if k = 1 ∨ k = 4 then (if st = T1.length then res else res ++ [Txt.slice x (some (st : Int)) (some (T1.length : Int))]) else res) = res1
    have hcat : catS (if st = T1.length then res else res ++ [Txt.slice x (some (st : Int)) (some (T1.length : Int))]) = catS res ++ T1.drop st := by
      split
      · rename_i q; rw [q, List.drop_length, List.append_nil]
      · unfold catS; rw [List.flatMap_append]; simp [hsl]
    have hlp : st1 ≤ (T1 ++ pieceC k c).length := by
      rw [← hst1, List.length_append]
      rcases k with _ | _ | _ | _ | _ | _ | k <;> simp [pieceC] <;> omega
    have key : catS res1 ++ (T1 ++ pieceC k c).drop st1 = catS res ++ T1.drop st ++ stripC k c := by
      rw [← hst1, ← hres1]
      rcases k with _ | _ | _ | _ | _ | _ | k
      · simp [pieceC, stripC, List.drop_append_of_le_length hst]
      · rw [if_pos rfl, if_pos (Or.inl rfl), hcat]; simp [pieceC, stripC, List.drop_append]
      · simp [pieceC, stripC, List.drop_append_of_le_length hst]
      · simp [pieceC, stripC, List.drop_append_of_le_length hst]
      · show catS (if st = T1.length then res else res ++ [Txt.slice x (some (st : Int)) (some (T1.length : Int))]) ++ (T1 ++ pieceC 4 c).drop (T1.length + 5) = _
        rw [hcat]; simp [pieceC, stripC, List.drop_append]
      · simp [pieceC, stripC, List.drop_append_of_le_length hst]
      · exact absurd hk.1 (by omega)
    obtain ⟨st', res', h1, h2, h3⟩ := strip_fold x r (T1 ++ pieceC k c) st1 res1 B (fun p hp => h p (.tail _ hp)) hlp ⟨R, by rw [hx]; simp⟩
    refine ⟨st', res', ?_, ?_, ?_⟩
    · rw [List.length_append] at h1
      rw [h1]; simp [List.append_assoc]
    · simpa [List.append_assoc] using h2
    · rw [← List.append_assoc, h3, key]; simp [List.append_assoc]
end Mine
end

section
open PySem PySem.W PySem.Calls PyProof.Rows
set_option Elab.async false
set_option maxRecDepth 100000
set_option maxHeartbeats 8000000
namespace Mine
def tailK (last : Option Nat) : List Nat := match last with | none => [] | some c => [34, c]
theorem str_app_list (x y : Str) : (x ++ y).cps.toList = x.cps.toList ++ y.cps.toList := cps_toList_append x y
theorem join_list0 : ∀ (ys : List Str), (Txt.join (Str.ofString "") ys).cps.toList = catS ys := by
  have key : ∀ (rest : List Str) (acc : Array Nat), (rest.foldl (fun acc p => acc ++ (Str.ofString "").cps ++ p.cps) acc).toList = acc.toList ++ catS rest := by
    intro rest
    induction rest with
    | nil => intro acc; simp [catS]
    | cons y r ih =>
      intro acc
      rw [List.foldl_cons, ih]
      have e : (Str.ofString "").cps = #[] := rfl
      simp [catS, e]
  intro ys
  cases ys with
  | nil => rfl
  | cons y r => exact key r y.cps
theorem sliceF (x : Str) (st : Nat) (h : st ≤ x.length) : (Txt.slice x (some (st : Int)) none).cps.toList = x.cps.toList.drop st := by
  rw [slice_from x h]
theorem res_cat (x : Str) (st : Nat) (op : Option Nat) (res : List Str) (hg : stripGo x (escOuts x.cps.toList 0 false).length = (st, op, res)) (hst : st ≤ x.length) : catS (stripRes x) = catS res ++ x.cps.toList.drop st := by
  unfold stripRes
  rw [hg]
  dsimp only
  split
  · unfold catS; rw [List.flatMap_append]; simp [sliceF x st hst]
  · have : st = x.cps.toList.length := by rw [len_list']; omega
    rw [this, List.drop_length, List.append_nil]
theorem strip_res (x : Str) (ks : List (Nat × Nat)) (last : Option Nat) (hx : x.cps.toList = flatK ks ++ tailK last) (h : ∀ p ∈ ks, p.1 < 6 ∧ (p.2 = 40 ∨ p.2 = 41)) (hl : ∀ c, last = some c → c = 40 ∨ c = 41) :
    catS (stripRes x) = strK ks ++ tailK last := by
  obtain ⟨st, res, h1, h2, h3⟩ := strip_fold x ks [] 0 [] (tailK last) h (Nat.le_refl _) ⟨tailK last, by rw [hx]; rfl⟩
  have hall : stripGo x (escOuts x.cps.toList 0 false).length = (escOuts (flatK ks ++ tailK last) 0 false).foldl (stripStep x) (0, none, []) := by
    unfold stripGo; rw [List.take_length, hx]
  have h1' : (escOuts (flatK ks ++ tailK last) 0 false).foldl (stripStep x) (0, none, []) = _ := h1
  rw [h1'] at hall
  rw [List.nil_append] at h2 hall h3
  have hcat : catS res ++ (flatK ks).drop st = strK ks := by rw [h3]; simp [catS]
  have hxl : x.length = (flatK ks).length + (tailK last).length := by rw [← len_list', hx, List.length_append]
  cases last with
  | none =>
    rw [res_cat x st none res hall (by omega), hx]
    simp only [tailK, List.append_nil]
    exact hcat
  | some c =>
    have hc := hl c rfl
    have n92 : c ≠ 92 := by omega
    have n34 : c ≠ 34 := by omega
    have hall2 : stripGo x (escOuts x.cps.toList 0 false).length = (st, some (flatK ks).length, res) := by
      rw [hall]
      show (escOuts [34, c] _ false).foldl _ _ = _
      rw [esc_c (by decide), esc_c n92]
      simp only [List.foldl_cons]
      rw [ss_open, ss_other _ _ _ _ (one_ne n34)]; rfl
    rw [res_cat x st _ res hall2 (by omega), hx, List.drop_append_of_le_length h2, ← List.append_assoc, hcat]
theorem strip_same : ∀ (ks : List (Nat × Nat)), (∀ p ∈ ks, p.1 < 6 ∧ (p.2 = 40 ∨ p.2 = 41)) → 34 ∉ flatK ks → strK ks = flatK ks
  | [], _, _ => rfl
  | (k, c) :: r, h, hn => by
    have hk := h (k, c) (.head _)
    have e : flatK ((k, c) :: r) = pieceC k c ++ flatK r := rfl
    have es : strK ((k, c) :: r) = stripC k c ++ strK r := rfl
    rw [e] at hn ⊢
    rw [es, strip_same r (fun p hp => h p (.tail _ hp)) (fun q => hn (List.mem_append_right _ q))]
    have hp : 34 ∉ pieceC k c := fun q => hn (List.mem_append_left _ q)
    rcases k with _ | _ | _ | _ | _ | _ | k
    · rfl
    · exact absurd (by simp [pieceC]) hp
    · rfl
    · rfl
    · exact absurd (by simp [pieceC]) hp
    · exact absurd (by simp [pieceC]) hp
    · exact absurd hk.1 (by omega)
theorem strip_of (x : Str) (ks : List (Nat × Nat)) (last : Option Nat) (hx : x.cps.toList = flatK ks ++ tailK last) (h : ∀ p ∈ ks, p.1 < 6 ∧ (p.2 = 40 ∨ p.2 = 41)) (hl : ∀ c, last = some c → c = 40 ∨ c = 41) :
    (stripOf x).cps.toList = strK ks ++ tailK last := by
  unfold stripOf
  split
  · rename_i hq
    have hf := PySem.StrLaws.found_one x 34
    have hq' : (Builtin.Str.occurrences x (⟨#[34]⟩ : Str) 0 x.length 1).isEmpty = true := hq
    rw [hq'] at hf
    have hn : 34 ∉ x.cps.toList := of_decide_eq_false hf.symm
    rw [hx] at hn
    have hls : last = none := by
      cases last with
      | none => rfl
      | some c => exact absurd (List.mem_append_right _ (by simp [tailK])) hn
    subst hls
    rw [hx, strip_same ks h (fun q => hn (List.mem_append_left _ q))]
  · rw [join_list0, strip_res x ks last hx h hl]
theorem step_piece (ns : List Int) (n : Nat) (text : Str) (k c : Nat) : (∃ kd, kd < 6 ∧ (dressStep ns n text k ⟨#[c]⟩).cps.toList = text.cps.toList ++ pieceC kd c) ∨ ((k : Int) = (n : Int) - 1 ∧ (dressStep ns n text k ⟨#[c]⟩).cps.toList = text.cps.toList ++ [34, c]) := by
  unfold dressStep
  split
  · rename_i h
    exact Or.inr ⟨h.1, by simp only [str_app_list, List.append_assoc]; rfl⟩
  · refine Or.inl ?_
    split
    · exact ⟨0, by omega, by simp only [str_app_list, List.append_assoc]; rfl⟩
    split
    · exact ⟨1, by omega, by simp only [str_app_list, List.append_assoc]; rfl⟩
    split
    · exact ⟨2, by omega, by simp only [str_app_list, List.append_assoc]; rfl⟩
    split
    · exact ⟨3, by omega, by simp only [str_app_list, List.append_assoc]; rfl⟩
    split
    · exact ⟨4, by omega, by simp only [str_app_list, List.append_assoc]; rfl⟩
    · exact ⟨5, by omega, by simp only [str_app_list, List.append_assoc]; rfl⟩
theorem dress_ks (ns : List Int) (b : Str) (hb : ∀ c ∈ b.cps.toList, c = 40 ∨ c = 41) : ∀ k, k ≤ b.length → ∃ ks last, (∀ p ∈ ks, p.1 < 6 ∧ (p.2 = 40 ∨ p.2 = 41)) ∧ (∀ c, last = some c → (c = 40 ∨ c = 41) ∧ k = b.length) ∧
    ks.map (·.2) ++ last.toList = b.cps.toList.take k ∧ (dressGo ns b k).cps.toList = flatK ks ++ tailK last
  | 0, _ => ⟨[], none, fun _ h => (nomatch h), fun _ h => (nomatch h), rfl, rfl⟩
  | k + 1, hk => by
    obtain ⟨ks, last, h1, h2, h3, h4⟩ := dress_ks ns b hb k (by omega)
    have hls : last = none := by
      cases last with
      | none => rfl
      | some c => exact absurd (h2 c rfl).2 (by omega)
    subst hls
    have hkl : k < b.cps.toList.length := by rw [len_list']; omega
    have hget : b.cps.toList[k]? = some b.cps.toList[k] := List.getElem?_eq_getElem hkl
    have hsign := hb _ (List.getElem_mem hkl)
    generalize b.cps.toList[k] = c at hget hsign
    have htake : b.cps.toList.take (k + 1) = b.cps.toList.take k ++ [c] := by rw [List.take_add_one, hget]; rfl
    have hd : dressGo ns b (k + 1) = dressStep ns b.length (dressGo ns b k) k ⟨#[c]⟩ := by
      show dressStep ns b.length (dressGo ns b k) k (Txt.item b (k : Int)) = _
      rw [item_at b hget]
    simp only [tailK, Option.toList, List.append_nil] at h3 h4
    rcases step_piece ns b.length (dressGo ns b k) k c with ⟨kd, hkd, e⟩ | ⟨hkn, e⟩
    · refine ⟨ks ++ [(kd, c)], none, ?_, fun _ h => (nomatch h), ?_, ?_⟩
      · intro p hp
        rcases List.mem_append.mp hp with hp | hp
        · exact h1 p hp
        · rw [List.mem_singleton.mp hp]; exact ⟨hkd, hsign⟩
      · rw [htake, ← h3]; simp
      · rw [hd, e, h4]; simp [flatK, tailK]
    · refine ⟨ks, some c, h1, ?_, ?_, ?_⟩
      · intro c' hc'
        cases hc'
        exact ⟨hsign, by omega⟩
      · rw [htake, ← h3]; rfl
      · rw [hd, e, h4]; rfl
theorem p_strip (nums : List Int) : (stripOf (dressGo nums (begunOf nums) (begunOf nums).length)).length ≤ 100000 := by
  obtain ⟨ks, last, h1, h2, h3, h4⟩ := dress_ks nums (begunOf nums) (p_signs nums) _ (Nat.le_refl _)
  have hs := strip_of _ ks last h4 h1 (fun c hc => (h2 c hc).1)
  rw [← len_list', hs, List.length_append]
  have hlen : ∀ ks : List (Nat × Nat), (strK ks).length ≤ 3 * ks.length := by
    intro ks
    induction ks with
    | nil => simp [strK]
    | cons p r ih =>
      have e : strK (p :: r) = stripC p.1 p.2 ++ strK r := rfl
      have h3 : (stripC p.1 p.2).length ≤ 3 := by unfold stripC; split <;> simp
      rw [e, List.length_append, List.length_cons]; omega
  have h5 := hlen ks
  have h6 : ks.length ≤ 8 := by
    have := congrArg List.length h3
    rw [List.length_append, List.length_map, List.length_take] at this
    have := p_lenb nums
    omega
  have h7 : (tailK last).length ≤ 2 := by cases last <;> simp [tailK]
  omega
theorem p_check (nums : List Int) : checkOf (dressGo nums (begunOf nums) (begunOf nums).length) = formedOf (begunOf nums) := by
  obtain ⟨ks, last, h1, h2, h3, h4⟩ := dress_ks nums (begunOf nums) (p_signs nums) _ (Nat.le_refl _)
  have hs := strip_of _ ks last h4 h1 (fun c hc => (h2 c hc).1)
  rw [p_formed]
  unfold checkOf
  rw [hs]
  have ht : (begunOf nums).cps.toList.take (begunOf nums).length = (begunOf nums).cps.toList := List.take_of_length_le (by rw [len_list']; exact Nat.le_refl _)
  rw [ht] at h3
  cases last with
  | none =>
    simp only [tailK, Option.toList, List.append_nil] at h3 ⊢
    rw [check_flat ks 0 0 (fun p hp => ⟨Nat.le_of_lt (h1 p hp).1, (h1 p hp).2⟩), h3]
  | some c =>
    have e : strK ks ++ tailK (some c) = strK (ks ++ [(6, c)]) := by simp [strK, tailK, stripC]
    rw [e, check_flat _ 0 0 ?_]
    · rw [List.map_append, ← h3]; rfl
    · intro p hp
      rcases List.mem_append.mp hp with hp | hp
      · exact ⟨Nat.le_of_lt (h1 p hp).1, (h1 p hp).2⟩
      · rw [List.mem_singleton.mp hp]; exact ⟨Nat.le_refl _, (h2 c rfl).1⟩
end Mine
end

section
open PySem PySem.W PySem.Calls PyProof.Rows
set_option Elab.async false
set_option maxRecDepth 100000
set_option maxHeartbeats 8000000
namespace Mine
def firstsL : List Int := [1, 2, 3, 0, 2, 5, 1, 2, 3, 4, 0, 1, 2]
def numOf (ns : List Int) (k : Nat) : Int := if (k : Int) < ns.length then ns.getD k 0 else firstsL.getD k 0
def numsOf (ns : List Int) : List Int := (List.range 13).map (numOf ns)
theorem int_beq (a b : Nat) : ((a : Int) == (b : Int)) = (a == b) := by
  rw [Bool.eq_iff_iff, beq_iff_eq, beq_iff_eq]
  constructor <;> intro h <;> omega
theorem ne_empty {prog : Program} {w : World} {A : Around} {E : Value → Shared → Prop} {s : Shared} {a b : Addr} {xs : Array Value} {Q : Value → Shared → Prop} (ha : s.heap.IsList a xs) (hb : s.heap.IsList b #[]) (hu : A.units < cLine) (h : Q (.bool (decide (xs.size ≠ 0))) s) :
    wpAny (model prog w) A (compareOp .NotEq (.ref a) (.ref b)) Q E s := by
  by_cases hz : xs.size = 0
  · have e : decide (xs.size ≠ 0) = false := decide_eq_false (fun h => h hz)
    rw [e] at h
    refine SeqAt.RcNeAt.lists (e := fun _ => true) ha hb (by simpa using hz) hu (fun j h1 h2 => by simp at h2) prog w E Q ?_
    rw [hz]; exact h
  · have e : decide (xs.size ≠ 0) = true := decide_eq_true hz
    rw [e] at h
    exact SeqAt.RcNeAt.lists_lengths ha hb (by simpa using hz) hu prog w E Q h
section
variable {w : World} {A : Around} {s : Shared} {Q E : Value → Shared → Prop} {mean : ExcName → Option Value} {mg mb : Str → Option Value}
theorem lines_off12 : True := by
  w_top off
  trivial
local macro_rules | `(tactic| walk_at "execs cons") => `(tactic| (refine wpAny_execs_cons ?_; (try dsimp only)))
local macro_rules | `(tactic| walk_at "execs nil") => `(tactic| (refine wpAny_execs_nil ?_; (try dsimp only)))
local macro_rules | `(tactic| walk_at "exec For Name Call cons nil") => `(tactic| refine Halt.out ?_)
local macro_rules | `(tactic| walk_at "pyIter ref") => `(tactic| refine Halt.out ?_)
local macro_rules | `(tactic| walk_at "exec Assign cons ListComp") => `(tactic| refine Halt.out ?_)
local macro_rules | `(tactic| walk_at "call ref") => `(tactic| refine Halt.out ?_)
local macro_rules | `(tactic| walk_at "call builtin:list.append") => `(tactic| refine Halt.out ?_)
local macro_rules | `(tactic| walk_at "compareOp NotEq ref ref") => `(tactic| refine Halt.out ?_)
local macro_rules | `(tactic| walk_at "call builtin:len") => `(tactic| ((with_reducible show wpAny _ _ (call (Value.builtin _) [Value.ref _]) _ _ _); k_dflt (refine' lenLK ?F ?l ?f ?_; (case F => k_asm); (case l => with_reducible assumption); (case f => assumption); k_whole)))
local macro_rules | `(tactic| walk_at "eval Name") => `(tactic| (k_dflt (refine' nameL ?k1 ?k2 ?_ ?k4 ?k5 ?k6; (case k4 => exact rfl); (case k5 => exact rfl); (case k6 => decide); (case k1 => k_asm); (case k2 => first | exact rfl | assumption); k_whole)))
local macro_rules | `(tactic| walk_at "eval Name") => `(tactic| (k_dflt (refine' nameCK ?k1 ?k2 ?k3 ?_ ?k4 ?k5 ?k6; (case k4 => exact rfl); (case k5 => exact rfl); (case k6 => decide); (case k3 => exact rfl); (case k1 => with_reducible assumption); (case k2 => with_reducible assumption); k_whole)))
local macro_rules | `(tactic| walk_at "eval Name") => `(tactic| (k_dflt (refine' nameG ?k1 ?k2 ?k3 ?e ?_ ?k4 ?k5 ?k6 ?k7; (case k5 => exact rfl); (case k6 => exact rfl); (case k7 => decide); (case k4 => exact rfl); (case k1 => k_asm); (case k2 => k_asm); (case k3 => k_asm); (case e => k_is); k_whole)))
local macro_rules | `(tactic| walk_at "eval Name") => `(tactic| (k_dflt (refine' nameB ?k1 ?k2 ?k3 ?e ?hv ?hn ?_ ?k4 ?kb ?k5 ?k6 ?k7; (case k5 => exact rfl); (case k6 => exact rfl); (case k7 => decide); (case k4 => exact rfl); (case kb => exact rfl); (case k1 => k_asm); (case k2 => k_asm); (case k3 => k_asm); (case e => k_is); (case hv => boot_by_name); (case hn => decide); k_whole)))
local macro_rules | `(tactic| walk_at "eval Name") => `(tactic| (k_dflt (refine' nameCN ?N ?m ?d ?c ?_ ?k4 ?k5 ?k6; (case k4 => exact rfl); (case k5 => exact rfl); (case k6 => decide); (case c => exact rfl); (case N => k_asm); (case m => k_mem); (case d => first | with_reducible assumption | assumption); k_whole)))
local macro_rules | `(tactic| walk_at "subscriptTail Name Slice str ref") => `(tactic| ((with_reducible rename Fr _ _ _ _ => F'); (with_reducible rename News _ _ _ _ => N'); (refine slT_ns (T₀ := 1) (s := ⟨_, _, _, _, _⟩) ?ht F' N' ?_ (hsz := ?hsz)); (case ht => (dsimp only; omega)); (case hsz => size_fits); intro _ _ _ _ _ _ _))

theorem law_go (hh : A.handled = none) (hA : A.depth + 20 < recursionLimit) (hU : A.units + 60 < cLine) (X : (hd.heap_39 w.params).In s.heap) (T : Top hd.view_39 (looseW hd.view_39 []) mean mg mb s.heap)
    (hg : s.gens = #[]) {a : Addr} {vals : List Value} {ns : List Int} (hl : s.heap.IsList a vals.toArray) (hi : IntsAre vals ns) (hlen : ns.length ≤ 63)
    (ret : ∀ s' : Shared, s'.os = s.os → Keep s.heap s'.heap → AllBare s'.gens → Q (.bool true) s') :
    wpAny (model PySem.Challenge.rw_ux0011_01.row.prog w) A (call (.ref 120) [.ref a]) Q E s := by
  obtain ⟨_, dp, fr, gd, un⟩ := A
  dsimp only at hh hA hU
  subst hh
  revert X; k_fill; intro X
  refine wpAny_with_toks (Nat.le_refl s.toks) ?_
  refine wpAny_call ?_
  refine' enterC (binds := [(Str.ofString "script", .ref a)]) ?kX ?klim ?k6 ?k7 ?k8 ?k9 ?kB ?kD ?kbody ?c2 ?c3 ?c4
  (case kX => assumption); (case klim => exact TopRead.nolimit (by k_asm)); (case k6 => k_is); (case k7 => k_is); (case k8 => first | assumption | (dsimp only; omega)); (case k9 => exact rfl); (case kB => exact fun n => by intro x hx; rw [List.mem_singleton.mp hx]; exact Or.inr ⟨rfl, rfl⟩); (case kD => decide); (case c2 => exact rfl); (case c3 => exact rfl); (case c4 => exact rfl)
  intro L h₁ tk cells hL htk F N Y
  obtain ⟨oa, ob, rfl, da, db⟩ := CellsAre.two Y
  clear Y
  replace da : oa.data = .cell none := da.trans (by with_unfolding_all rfl)
  replace db : ob.data = .cell (some (.ref a)) := db.trans (by with_unfolding_all rfl)
  k_steps
  rename_i lf _ hlt _ of _ _ dfi
  (with_reducible rename Fr _ _ _ _ => F2)
  (with_reducible rename News _ _ _ _ => N2)
  generalize bindL _ _ _ = m₀ at F2
  have hlf := News.isList N2 (List.Mem.head _)
  have hvl : vals.length = ns.length := IntsAre.length hi
  generalize hfv : #[Value.int 1 _, Value.int 2 _, Value.int 3 _, Value.int 0 _, Value.int 2 _, Value.int 5 _, Value.int 1 _, Value.int 2 _, Value.int 3 _, Value.int 4 _, Value.int 0 _, Value.int 1 _, Value.int 2 _] = fv at *
  have hfi : IntsAre fv.toList firstsL := by rw [← hfv]; repeat constructor
  refine Halt.of (wpAny_with_toks (n := 1) (by dsimp only; omega) ?_)
  refine' (comp_assign (h₀ := s.heap) (m := m₀) (news := [(lf, listOf fv 0), (L + 1 + 1, of), (L + 1, ob)]) ?hsw ?hclos rfl ?hnames ?hcell ?hs rfl rfl ?h)
  case hsw => with_unfolding_all rfl
  case hclos => with_unfolding_all rfl
  case hnames => decide
  case hcell => decide
  case hs => intro _; rfl
  case h =>
    repeat ((with_reducible show wpAny _ _ _ _ _ _); first | walk1 | (dsimp only; walk1))
    (with_reducible rename Fr _ _ _ _ => F3)
    (with_reducible rename News _ _ _ _ => N3)
    (with_reducible rename IsRange _ _ _ _ _ _ _ _ => R3)
    refine ⟨F3, N3, [], 13, _, makes_range (n := 13) rfl R3 (by decide) (by decide), fun b hb => (List.not_mem_nil hb).elim, ?_⟩
    intro I D C h eI eD eC FC NC hI
    dsimp only at eI eD eC FC NC hI ⊢
    obtain ⟨St, WI, hst⟩ := hI [C, D] (fun b hb => by
      rcases List.mem_cons.mp hb with q | q
      · rw [q, eC, eD]; exact Nat.le_succ _
      · rw [List.mem_singleton.mp q]; exact Nat.le_refl _)
    have XC := Frag.In.keeps X (Fr.keep F3)
    have TC := Top.keeps T (Fr.keep F3)
    have cellss : Heap.IsCell _ (L + 1) (some (.ref a)) := ⟨ob, (N3 (L + 1, ob) (by simp)).1, db⟩
    have cellsf : Heap.IsCell _ (L + 1 + 1) (some (.ref lf)) := ⟨of, (N3 (L + 1 + 1, of) (by simp)).1, dfi⟩
    have hla := hl.at (fun o e => Fr.keep F3 _ o e)
    have hlf3 := News.isList N3 (List.Mem.head _)
    have hsza : vals.toArray.size = ns.length := by simp [hvl]
    have hfit : (vals.toArray.size : Int) < 2 ^ 63 := by rw [hsza]; omega
    refine comp_loop1 (env := cenvOf _ _ C _) (as := [D]) WI hst FC NC rfl
      (fun k m' news' => ∃ its n, news' = [(D, listOf its n)] ∧ IntsAre its.toList ((List.range k).map (numOf ns)) ∧ its.size ≤ k)
      ⟨#[], 0, rfl, .nil, Nat.le_refl _⟩ ?stepc ?donec
    case stepc =>
      rintro E' k _ m₂ news₂ own₂ h₃ tk₃ hk ⟨tv, rfl⟩ ⟨its, n, rfl, hits, hsz⟩ hmap2 hoff2 htk2 F₂ N₂
      refine storeL F₂ N₂ ?_ rfl rfl
      intro h₄ F₄ N₄
      dsimp only at F₄ N₄ hmap2 hoff2 htk2 F₂ N₂ ⊢
      simp only [Int.zero_add] at F₄
      refine wpAny_tests_nil ?_
      rw [if_pos rfl]
      have hla4 := hla.at (fun o e => Fr.keep F₄ _ o e)
      have hlf4 := hlf3.at (fun o e => Fr.keep F₄ _ o e)
      k_steps
      refine Halt.of (lt_ii (by show dp + 1 < recursionLimit; omega) (Frag.In.keeps XC (Fr.keep F₄)) (Top.keeps TC (Fr.keep F₄)) _ _ _ _ ?_)
      intro _ h5 tk5 k5 le5
      have F5 := Fr.keeps F₄ k5
      have N5 := News.grown N₄ k5
      have hla5 := hla.at (fun o e => Fr.keep F5 _ o e)
      have hlf5 := hlf3.at (fun o e => Fr.keep F5 _ o e)
      dsimp only at F5 N5 le5 ⊢
      k_steps
      · have hlt' : (k : Int) < ns.length := by rw [← hsza]; assumption
        have e : numOf ns k = ns.getD k 0 := if_pos hlt'
        refine Halt.of (appendTo F5 N5 (OwnOff.ne hoff2 (.head _)) (by omega) ?_)
        intro h₆ F₆ N₆
        refine TurnEnd.intro [(D, listOf (its.push _) (n + 1))] F₆ N₆ (fun p hp => hp) rfl ⟨_, n + 1, rfl, ?_, ?_⟩
        · rw [Array.toList_push, List.range_succ, List.map_append, List.map_cons, List.map_nil, e]
          exact IntsAre.append hits (.cons _ _ .nil)
        · rw [Array.size_push]; omega
      · have hlt' : ¬ (k : Int) < ns.length := by rw [← hsza]; assumption
        have e : numOf ns k = firstsL.getD k 0 := if_neg hlt'
        obtain ⟨tf, hf⟩ := IntsAre.get hfi k (firstsL.getD k 0) (by
          rcases k with _ | _ | _ | _ | _ | _ | _ | _ | _ | _ | _ | _ | _ | k
          all_goals first | rfl | omega)
        refine item_list (x := .int (firstsL.getD k 0) tf) hlf5 (by omega) (by omega) ?_ ?_
        · rw [Int.toNat_natCast]; simpa using hf
        · (try dsimp only)
          refine appendTo F5 N5 (OwnOff.ne hoff2 (.head _)) (by omega) ?_
          intro h₆ F₆ N₆
          refine TurnEnd.intro [(D, listOf (its.push _) (n + 1))] F₆ N₆ (fun p hp => hp) rfl ⟨_, n + 1, rfl, ?_, ?_⟩
          · rw [Array.toList_push, List.range_succ, List.map_append, List.map_cons, List.map_nil, e]
            exact IntsAre.append hits (.cons _ _ .nil)
          · rw [Array.size_push]; omega
    case donec =>
      rintro m' news' h' tk' ⟨its, n, rfl, hits, hsz⟩ hmap' htk' FC' NC'
      dsimp only at FC' NC' htk' ⊢
      refine ⟨m', _, _, rfl, FC', _, n, (NC' (D, _) (List.Mem.head _)).1, ?_⟩
      intro hh tk₈ F₈ N₈ hlt₈ t₈ ht1
      dsimp only at F₈ N₈ ht1 ⊢
      obtain ⟨nv, rfl⟩ : ∃ nv : List Value, its = nv.toArray := ⟨its.toList, by simp⟩
      replace hits : IntsAre nv (numsOf ns) := hits
      have hnl : (numsOf ns).length = 13 := by unfold numsOf; simp
      generalize numsOf ns = nums at *
      have hD8 := News.isList N₈ (List.Mem.head _)
      k_steps
      refine Halt.of (row_ok rfl (by show dp + 1 < recursionLimit; omega) (Frag.In.keeps X (Fr.keep F₈)) (Top.keeps T (Fr.keep F₈)) D nums nv hits hD8 hnl ?_)
      intro t9 h9 tk9 k9 le9
      have F9 := Fr.keeps F₈ k9
      have N9 := News.grown N₈ k9
      have hD9 := News.isList N9 (List.Mem.head _)
      dsimp only at F9 N9 le9 ⊢
      k_steps
      generalize hq : Int.fmod _ _ - _ = q at *
      have hqb : Builtin.Int.intBits q ≤ 64 := by
        rw [← hq]
        have h1 := Int.fmod_nonneg_of_pos (nums.getD (Int.toNat 4) 0 + 1000001) (show (0 : Int) < 2000003 by decide)
        have h2 := Int.fmod_lt_of_pos (nums.getD (Int.toNat 4) 0 + 1000001) (show (0 : Int) < 2000003 by decide)
        exact intBits_le_64 (by omega) (by omega)
      have hqq : q = qOf nums := hq.symm
      refine Halt.of (wpAny_For ?_)
      k_steps
      (with_reducible rename Fr _ _ _ _ => F10)
      (with_reducible rename News _ _ _ _ => N10)
      refine Halt.of (orders_ok rfl (by show dp + 1 + 1 < recursionLimit; omega) (by show un + 3 + 20 < cLine; omega) (Frag.In.keeps X (Fr.keep F10)) (Top.keeps T (Fr.keep F10)) (rowOf nums) _ (Nat.le_of_eq (p_len nums)) (p_cnt nums) (by dsimp only; omega) (p_ll nums) ?_)
      intro ao oits on h11 tk11 k11 le11 hao hgo hos
      have F11 := Fr.keeps F10 k11
      have N11 := News.grown N10 k11
      dsimp only at F11 N11 le11 hao ⊢
      k_steps
      have hol : h11.IsList ao oits := ⟨_, hgo, rfl, on, rfl⟩
      have hosz : oits.size = (ordersOf (rowOf nums).cps.toList).length := by
        have := strs_length hos
        rw [Array.length_toList] at this
        exact this
      refine Halt.of (for_of (env := envOfC _ _ _ _ _) (makes_list rfl hol) ?ban F11 N11
        (fun i m' news' => news' = [(D, listOf nv.toArray n), (lf, listOf fv 0), (L + 1 + 1, of), (L + 1, ob)] ∧ m' (Str.ofString "numbers") = some (.ref D) ∧ m' (Str.ofString "row") = some (.str (rowOf nums) t9) ∧ (∃ tq, m' (Str.ofString "q") = some (.int q tq)) ∧
          ∃ tot tt, m' (Str.ofString "total") = some (.int tot tt) ∧ totalGo q ((ordersOf (rowOf nums).cps.toList).drop i) tot = totalGo q (ordersOf (rowOf nums).cps.toList) 0)
        ⟨rfl, rfl, rfl, ⟨_, rfl⟩, 0, _, rfl, rfl⟩ ?lstep ?ldone)
      case ban =>
        intro b hb q'
        rw [List.mem_singleton.mp hb] at q'
        rcases List.mem_cons.mp q' with q' | q'
        · exact Nat.lt_irrefl L (Nat.lt_of_lt_of_le F10.ns.lt (Nat.le_trans hao (Nat.le_of_eq q')))
        · obtain ⟨p, hp, e⟩ := List.mem_map.mp q'
          exact Nat.lt_irrefl _ (Nat.lt_of_lt_of_le (Heap.lt_size (N10 p hp).1) (Nat.le_trans hao (Nat.le_of_eq e.symm)))
      case lstep =>
        rintro E i v m₁ news₁ own h₂ tk₁ hil hv htk1 ⟨rfl, hnum, hrw, ⟨tq, hqm⟩, tot, tt, htot, hgo1⟩ hmap hoff F₁ N₁
        obtain ⟨o, to, rfl, ho⟩ := strs_get hos (j := i) (v := v) (by simpa using hv)
        have holen := p_ord _ o (List.mem_of_getElem? ho)
        dsimp only at htk1
        k_steps
        refine Halt.of (wpAny_For ?_)
        k_steps
        (with_reducible rename Fr _ _ _ _ => F3)
        (with_reducible rename News _ _ _ _ => N3)
        refine Halt.of (turned_ok rfl (by show dp + 1 + 1 < recursionLimit; omega) (Frag.In.keeps X (Fr.keep F3)) (Top.keeps T (Fr.keep F3)) o to (by omega) ?_)
        intro t4 h4 tk4 k4 le4
        have F4 := Fr.keeps F3 k4
        have N4 := News.grown N3 k4
        dsimp only at F4 N4 le4 ⊢
        have htn := p_turn o
        k_steps
        (with_reducible rename Fr _ _ _ _ => F5)
        (with_reducible rename News _ _ _ _ => N5)
        (with_reducible rename IsRange _ _ _ _ _ _ _ _ => R5)
        have hrng := @rng_ok (turnedN o 3 : Int) (by omega) (by omega)
        rw [Int.toNat_natCast] at hrng
        refine Halt.of (for_of (env := envOfC _ _ _ _ _) (makes_range (n := turnedN o 3) rfl R5 hrng.1 hrng.2) (fun b hb => (List.not_mem_nil hb).elim) F5 N5
          (fun j m' news' => news' = [(D, listOf nv.toArray n), (lf, listOf fv 0), (L + 1 + 1, of), (L + 1, ob)] ++ own ∧ m' (Str.ofString "numbers") = some (.ref D) ∧ m' (Str.ofString "row") = some (.str (rowOf nums) t9) ∧ (∃ tq, m' (Str.ofString "q") = some (.int q tq)) ∧
            m' (Str.ofString "total") = some (.int tot tt) ∧ ∃ tf, m' (Str.ofString "term") = some (.int (powN q j) tf))
          ⟨rfl, hnum, hrw, ⟨tq, hqm⟩, htot, _, rfl⟩ ?istep ?idone)
        case istep =>
          rintro E j _ m₂ news₂ own₂ h₇ tk₇ hj ⟨tj, rfl⟩ htk7 ⟨rfl, hnum2, hrw2, ⟨tq2, hqm2⟩, htot2, tf2, hterm2⟩ hmap2 hoff2 F₇ N₇
          dsimp only at htk7
          k_steps
          (with_reducible rename Fr _ _ _ _ => F8)
          (with_reducible rename News _ _ _ _ => N8)
          refine Halt.of (mul_ii (by show dp + 1 < recursionLimit; omega) (Frag.In.keeps X (Fr.keep F8)) (Top.keeps T (Fr.keep F8)) _ _ _ _ (IntMulOk.of_right hqb) ?_)
          intro t9' h9' tk9' k9' le9'
          have F9' := Fr.keeps F8 k9'
          have N9' := News.grown N8 k9'
          dsimp only at le9' ⊢
          k_steps
          refine TurnEnd.intro ([(D, listOf nv.toArray n), (lf, listOf fv 0), (L + 1 + 1, of), (L + 1, ob)] ++ own) (by assumption) (by assumption) (fun p hp => hp) rfl ⟨rfl, ?_, ?_, ?_, ?_, ?_⟩
          · exact hnum2
          · exact hrw2
          · exact ⟨tq2, hqm2⟩
          · exact htot2
          · exact ⟨_, rfl⟩
        case idone =>
          rintro m₂ news₂ h₇ tk₇ ⟨rfl, hnum2, hrw2, ⟨tq2, hqm2⟩, htot2, tf2, hterm2⟩ hmap2 htk7 F₇ N₇
          dsimp only at htk7
          k_steps
          refine Halt.of (add_ii (by show dp + 1 < recursionLimit; omega) (Frag.In.keeps X (Fr.keep F₇)) (Top.keeps T (Fr.keep F₇)) _ _ _ _ ?_)
          intro t9' h9' tk9' k9' le9'
          have F9' := Fr.keeps F₇ k9'
          have N9' := News.grown N₇ k9'
          dsimp only at le9' ⊢
          k_steps
          refine TurnEnd.intro [(D, listOf nv.toArray n), (lf, listOf fv 0), (L + 1 + 1, of), (L + 1, ob)] (by assumption) (by assumption) (fun p hp => hp) rfl ⟨rfl, ?_, ?_, ?_, ?_⟩
          · exact hnum2
          · exact hrw2
          · exact ⟨tq2, hqm2⟩
          · refine ⟨_, _, rfl, ?_⟩
            rw [← hgo1, drop_at ho]
            rfl
      case ldone =>
        rintro m' news' h' tk' ⟨rfl, hnum, hrw, ⟨tq, hqm⟩, tot, tt, htot, hgo1⟩ hmap htk1 F₁ N₁
        rw [hosz, List.drop_length] at hgo1
        have hD1 := News.isList N₁ (List.Mem.head _)
        k_steps
        refine Halt.of (product_ok rfl (by show dp + 1 + 1 < recursionLimit; omega) (Frag.In.keeps X (Fr.keep F₁)) (Top.keeps T (Fr.keep F₁)) (rowOf nums) q _ _ (by simpa [Str.length] using p_len nums) hqb (by dsimp only at htk1 ⊢; omega) ?_)
        intro t12 h12 tk12 k12 le12
        have F12 := Fr.keeps F₁ k12
        have N12 := News.grown N₁ k12
        have hD12 := News.isList N12 (List.Mem.head _)
        dsimp only at F12 N12 le12 ⊢
        have htp : tot = (prodN (rowOf nums).cps.toList q 8).1 := by
          have := p_tot nums
          rw [← hqq, ← hgo1] at this
          exact this
        rw [← htp]
        have hpl := p_len nums
        have hone : 1 ≤ tk12 := by dsimp only at htk1; omega
        k_steps
        · exact absurd rfl (by assumption)
        (with_reducible rename Fr _ _ _ _ => F13)
        (with_reducible rename News _ _ _ _ => N13)
        have hlb := p_lenb nums
        refine Halt.of (orders_ok rfl (by show dp + 1 + 1 < recursionLimit; omega) (by show un + 3 + 20 < cLine; omega) (Frag.In.keeps X (Fr.keep F13)) (Top.keeps T (Fr.keep F13)) (begunOf nums) _ hlb (p_cntb nums) (by dsimp only; omega) (p_llb nums) ?_)
        intro bo bits bn h14 tk14 k14 le14 hbo hgo14 hbs
        have F14 := Fr.keeps F13 k14
        have N14 : News s.heap L h14 ((bo, listOf bits bn) :: [(D, listOf nv.toArray n), (lf, listOf fv 0), (L + 1 + 1, of), (L + 1, ob)]) := fun p hp => by
          rcases List.mem_cons.mp hp with rfl | hp
          · exact ⟨hgo14, Nat.ne_of_gt (Nat.lt_of_lt_of_le F13.ns.lt hbo), Heap.get?_none_of_le (Nat.le_trans F13.above (Nat.le_trans (Nat.le_of_lt F13.ns.lt) hbo))⟩
          · exact (News.grown N13 k14) p hp
        have hbsz : bits.size = (ordersOf (begunOf nums).cps.toList).length := by
          have := strs_length hbs
          rw [Array.length_toList] at this
          exact this
        dsimp only at F14 N14 le14 ⊢
        k_steps
        (with_reducible rename Fr _ _ _ _ => F15)
        (with_reducible rename News _ _ _ _ => N15)
        refine Halt.of (ne_empty (News.isList N15 (.tail _ (.head _))) (News.isList N15 (.head _)) (by show un + 3 < cLine; omega) ?_)
        k_steps
        rotate_left
        · have hfb : decide (bits.size ≠ 0) = formedOf (begunOf nums) := by
            have h0 : ordersOf (begunOf nums).cps.toList = [] := List.eq_nil_of_length_eq_zero (by omega)
            unfold formedOf
            rw [h0]
            rw [decide_eq_false (by assumption)]; rfl
          (with_reducible rename Fr _ _ _ _ => F16)
          (with_reducible rename News _ _ _ _ => N16)
          rw [hfb] at F16
          have hD16 := News.isList N16 (.tail _ (.tail _ (.head _)))
          refine Halt.of (dressed_ok rfl (by show dp + 1 < recursionLimit; omega) (Frag.In.keeps X (Fr.keep F16)) (Top.keeps T (Fr.keep F16)) D nums nv (begunOf nums) _ hlb hits hD16 hnl ?_)
          intro t17 h17 tk17 k17 le17
          have F17 := Fr.keeps F16 k17
          have N17 := News.grown N16 k17
          dsimp only at F17 N17 le17 ⊢
          k_steps
          refine Halt.of (check_ok rfl (by show dp + 1 + 2 < recursionLimit; omega) (Frag.In.keeps X (Fr.keep F17)) (Top.keeps T (Fr.keep F17)) (dressGo nums (begunOf nums) (begunOf nums).length) _ (Nat.le_trans (dressGo_len _ _ _) (by omega)) (p_strip nums) ?_)
          intro h18 gs18 tk18 k18 le18 b18
          have F18 := Fr.keeps F17 k18
          have N18 := News.grown N17 k18
          dsimp only at F18 N18 le18 b18 ⊢
          rw [p_check nums]
          k_steps
          have e : (formedOf (begunOf nums) == formedOf (begunOf nums)) = true := by simp
          rw [e]
          exact ret _ rfl (Fr.keep F18) (b18 (AllBare.of_eq hg))
        · (with_reducible rename Fr _ _ _ _ => F16)
          (with_reducible rename News _ _ _ _ => N16)
          refine Halt.of (countOf_ss rfl (by show dp + 1 < recursionLimit; omega) (Frag.In.keeps X (Fr.keep F16)) (Top.keeps T (Fr.keep F16)) (begunOf nums) (Str.ofString "(") _ _ (by omega) (by dsimp only; omega) ?_)
          intro t17 h17 tk17 k17 le17
          have F17 := Fr.keeps F16 k17
          have N17 := News.grown N16 k17
          dsimp only at F17 N17 le17 ⊢
          k_steps
          refine Halt.of (countOf_ss rfl (by show dp + 1 < recursionLimit; omega) (Frag.In.keeps X (Fr.keep F17)) (Top.keeps T (Fr.keep F17)) (begunOf nums) (Str.ofString ")") _ _ (by omega) (by dsimp only; omega) ?_)
          intro t18 h18 tk18 k18 le18
          have F18 := Fr.keeps F17 k18
          have N18 := News.grown N17 k18
          dsimp only at F18 N18 le18 ⊢
          k_steps
          (with_reducible rename Fr _ _ _ _ => F16)
          (with_reducible rename News _ _ _ _ => N16)
          have hfb : ((cntL (begunOf nums).cps.toList (Str.ofString "(") : Int) == (cntL (begunOf nums).cps.toList (Str.ofString ")") : Int)) = formedOf (begunOf nums) := by
            have h0 : ordersOf (begunOf nums).cps.toList ≠ [] := fun h => by
              rw [h] at hbsz
              exact (by assumption : bits.size ≠ 0) hbsz
            unfold formedOf
            rw [decide_eq_true h0, Bool.true_and]
            exact int_beq _ _
          rw [hfb] at F16
          have hD16 := News.isList N16 (.tail _ (.tail _ (.head _)))
          refine Halt.of (dressed_ok rfl (by show dp + 1 < recursionLimit; omega) (Frag.In.keeps X (Fr.keep F16)) (Top.keeps T (Fr.keep F16)) D nums nv (begunOf nums) _ hlb hits hD16 hnl ?_)
          intro t17 h17 tk17 k17 le17
          have F17 := Fr.keeps F16 k17
          have N17 := News.grown N16 k17
          dsimp only at F17 N17 le17 ⊢
          k_steps
          refine Halt.of (check_ok rfl (by show dp + 1 + 2 < recursionLimit; omega) (Frag.In.keeps X (Fr.keep F17)) (Top.keeps T (Fr.keep F17)) (dressGo nums (begunOf nums) (begunOf nums).length) _ (Nat.le_trans (dressGo_len _ _ _) (by omega)) (p_strip nums) ?_)
          intro h18 gs18 tk18 k18 le18 b18
          have F18 := Fr.keeps F17 k18
          have N18 := News.grown N17 k18
          dsimp only at F18 N18 le18 b18 ⊢
          rw [p_check nums]
          k_steps
          have e : (formedOf (begunOf nums) == formedOf (begunOf nums)) = true := by simp
          rw [e]
          exact ret _ rfl (Fr.keep F18) (b18 (AllBare.of_eq hg))
end
end Mine
end

section
open PySem PySem.W PySem.W.X PySem.W.ZRun PySem.Calls PyProof.Rows
set_option Elab.async false
set_option maxRecDepth 100000
set_option maxHeartbeats 0
theorem PySem.Challenge.cw_ux0011_01_holds : PySem.Challenge.rw_ux0011_01.Holds := by
  refine Mine.hd ?_
  k_fill
  intro w s₀ s₁ mg mb G Y fa o pm cd doc dV kV ho hd hcd hD hmg hg args vals as hpre hlay hrd hwl hlo
  have KX := kIn_of Y
  have X := (Ground.X G).1
  have V := (Ground.X G).2
  refine Ground.open G ?_
  intro T B D TE TW
  wrow_args hpre hlay hrd hwl hlo
  x_fa T KX hmg
  all_lens
  refine Mine.law_go (by rfl) (by decide) (by decide) KX T hg (by assumption) (by assumption) (by omega) ?_
  · intro s' ho hk hb
    refine ⟨.inl ⟨_, _, [], rfl, fun _ => rfl, ReadsW.bool true, ?_, fun _ => ⟨List.nodup_nil, fun _ hm => (nomatch hm)⟩⟩, ?_, ho, hb⟩
    · first | rfl | wrow_post
    · exact OldK.of_keep hk
end

import PyProof.Rows.All
import Wide.All
import OpenK.AllK
import Wide.FinOn
import PySem.Challenge.RW_ax6027_01
set_option Elab.async false

section
open PySem PySem.W PyProof.Rows
set_option Elab.async false
set_option maxRecDepth 100000
set_option maxHeartbeats 8000000
namespace Mine
open_top hd for PySem.Challenge.rw_ax6027_01
end Mine
end

section
open PySem PySem.W PyProof.Rows PySem.Calls
set_option Elab.async false
set_option maxRecDepth 100000
set_option maxHeartbeats 8000000
namespace Mine

abbrev prg : Program := PySem.Challenge.rw_ax6027_01.row.prog
noncomputable abbrev loo : List PySem.Str := (looseW hd.view_39 [] ++ List.map (fun x => x.name) (recsOf hd.view_39) ++
        List.map (fun x => x.fst) (litsOf hd.view_39) ++
      List.map (fun x => x.name) (clssOf hd.view_39 (looseW hd.view_39 [])))

def Kept (h h' : Heap) (A A' : List (Addr × Obj)) : Prop :=
  (∀ b o, h.get? b = some o → b ∉ A.map (·.1) → h'.get? b = some o) ∧ (∀ p ∈ A', p.1 ∈ A.map (·.1) ∨ h.get? p.1 = none)

def Ctr (w : World) (f : Addr) (cost : Nat) (args : List Value) (A : List (Addr × Obj)) (pre : Heap → Prop) (post : Value → Heap → List (Addr × Obj) → Prop) : Prop :=
  ∀ (mean : ExcName → Option Value) (mg mb : Str → Option Value) (dp un : Nat) (gd : Option (List Code)) (cn : Str) (cs : Scope) (L a : Addr) (ccd : Value) (cl : List (Str × Addr)) (outer : List Env) (A₀ : Around) (base h₀ : Heap) (m : Str → Option Value) (s : Shared)
    (Q E : Value → Shared → Prop),
    Below A₀ base outer h₀ → Fr h₀ L s.heap m → (hd.heap_39 w.params).In h₀ → News h₀ L s.heap A → Top topProg loo mean mg mb h₀ → cs.kind = .function → pre s.heap →
    dp + cost < recursionLimit → un + 200 * cost < cLine →
    (∀ r h' tk' A', Fr h₀ L h' m → News h₀ L h' A' → Kept s.heap h' A A' → post r h' A' → Q r { s with heap := h', toks := tk' }) →
    wpAny (model PySem.Challenge.rw_ax6027_01.row.prog w) (ktrTop dp un gd cn cs L a ccd cl outer) (call (.ref f) args) Q E s

/-- a call that passes on a part of the ledger; all else lies in the callee's ground -/
theorem call_part {prog : Program} {w : World} {A A₀ : Around} {s : Shared} {K : Frag} {L : Addr} {h₀ base : Heap} {m mg mb : Str → Option Value} {news : List (Addr × Obj)} {p : Program} {loose : List Str} {mean : ExcName → Option Value}
    {env : Env} {outer : List Env} {R : Result → Shared → Prop} {name qual : Str} {params : Arguments} {body : List Stmt} {scope : Scope} {dV kV doc pm cdv ct oc : Value} {an od : Option Addr} {osl : Array (Option Value)} {f : Addr} {args : Args} {binds : List (Str × Value)}
    (B : Below A₀ base outer h₀) (F : Fr h₀ L s.heap m) (X₀ : K.In h₀) (N : News h₀ L s.heap news) (T : Top p loose mean mg mb h₀) (hA : A.frames = some (env :: outer)) (hf : env.frame = some L) (hke : env.scope.kind = .function)
    (ho : K.lookup f = some ⟨oc, od, .func (fnOf name qual params body scope dV kV doc pm an cdv ct), osl⟩) (hcd : codeIn K cdv qual = true) (hroom : A.depth < recursionLimit)
    (hbind : BindsTo s (fnOf name qual params body scope dV kV doc pm an cdv ct) args binds) (hloc : ∀ y ∈ binds, scope.names.lookup y.1 = some .local)
    (h : ∀ g L' h₁, Fr h₀ L g m → Fr g L' h₁ (fun y => binds.reverse.lookup y) → News g L' h₁ news → Below A base (env :: outer) g → K.In g → Top p loose mean mg mb g →
      (∀ b o, s.heap.get? b = some o → b ∉ news.map (·.1) → g.get? b = some o) → s.heap.objs.size = L' →
      wpAny (model prog w) (A.deeper (envOf qual scope L' f cdv)) (execs body (envOf qual scope L' f cdv))
        (fun fl s' => LeaveK h₀ L m g R (match fl with | .ret v => v | _ => .none) s')
        (fun e s' => wpAny (model prog w) (A.deeper (envOf qual scope L' f cdv)) (leaving (envOf qual scope L' f cdv) e) (fun _ s'' => R (.error e) s'') (fun e' s'' => R (.error e') s'') s')
        { s with heap := h₁, toks := s.toks + binds.length })
    (hco : scope.isCoroutine = false) (hgen : scope.isGenerator = false) (hk : scope.kind = .function)
    (hcell : ∀ x ∈ scope.names, x.2 ≠ .cell) : codeAny (model prog w) A (.call (.ref f) args) R s := by
  obtain ⟨FG, BG, st, lv⟩ := groundX (R := R) B F N hA hf hke
  refine codeAny_call_def (fd := fnOf name qual params body scope dV kV doc pm an cdv ct) (body := body) (binds := binds) hroom ((X₀.keeps F.keep) _ _ ho) rfl (T.nolimit.keeps F.keep) (codeRec_of (X₀.keeps F.keep) hcd) rfl hbind hcell hloc (fun h₁ hns hk₁ => ?_) hco hgen hk
  exact wpAny_mono (h _ s.heap.objs.size h₁ FG ⟨hns, fun b o e => hk₁ b o (of_hideAll _ e), Nat.le_of_eq (hideAll_size _ _)⟩
    (fun p hp => ⟨hk₁ _ _ (N p hp).1, Nat.ne_of_lt (Heap.lt_size (N p hp).1), hideAll_none _ (List.mem_map_of_mem hp)⟩) BG (X₀.keeps st) (T.keeps st) (fun b o e n => hideAll_get _ e n) rfl) (fun fl s' hl => lv _ _ hl) fun _ _ y => y

theorem kept_of {h h' g : Heap} {L : Addr} {m : Str → Option Value} {A A' : List (Addr × Obj)} (hG : ∀ b o, h.get? b = some o → b ∉ A.map (·.1) → g.get? b = some o) (F : Fr g L h' m) (N : News g L h' A') : Kept h h' A A' :=
  ⟨fun b o e n => F.keep b o (hG b o e n), fun p hp => by
    by_cases hm : p.1 ∈ A.map (·.1)
    · exact .inl hm
    · refine .inr ?_
      cases e : h.get? p.1 with
      | none => rfl
      | some o => have z := hG _ _ e hm; rw [(N p hp).2.2] at z; cases z⟩

theorem pop0 {prog : Program} {w : World} {A : Around} {E : Value → Shared → Prop} {s : Shared} {h₀ : Heap} {L D : Addr} {m : Str → Option Value} {news news' : List (Addr × Obj)} {n : Nat} {u : Tok} {y : Value} {q : List Value} {Q : Value → Shared → Prop}
    (F : Fr h₀ L s.heap m) (N : News h₀ L s.heap news) (U : Upd D (listOf (y :: q).toArray n) (listOf q.toArray (n + 1)) news news') (hz : q.length + 1 ≤ 1000)
    (h : ∀ h', Fr h₀ L h' m → News h₀ L h' news' → Q y { s with heap := h' }) : wpAny (model prog w) A (call (.builtin "list.pop") [.ref D, .int 0 u]) Q E s :=
  kl_popAt (p := []) (q := q) (k := 0) F N rfl (seqIndex?_zero (by rw [List.size_toArray]; exact Nat.succ_pos _)) rfl U (by rw [sizeLine_eq]; simp only [List.toList_toArray, List.length_cons]; omega) h

theorem fmod_nn (a : Int) {b : Int} (h : 0 < b) : 0 ≤ Int.fmod a b := Int.fmod_nonneg_of_pos _ h
theorem fmod_lt (a : Int) {b : Int} (h : 0 < b) : Int.fmod a b < b := Int.fmod_lt_of_pos _ h
end Mine
end

section
open PySem PySem.W PyProof.Rows PySem.Calls
set_option Elab.async false
set_option maxRecDepth 100000
set_option maxHeartbeats 8000000
namespace Mine

theorem kept_refl {h : Heap} {A : List (Addr × Obj)} : Kept h h A A := ⟨fun _ _ e _ => e, fun p hp => .inl (List.mem_map_of_mem hp)⟩

/-- a contract taken at a call: the part A of the ledger is handed on, the rest stays -/
theorem ctr_use {w : World} {f : Addr} {cost : Nat} {args : List Value} {A : List (Addr × Obj)} {pre : Heap → Prop} {post : Value → Heap → List (Addr × Obj) → Prop} (C : Ctr w f cost args A pre post)
    {mean : ExcName → Option Value} {mg mb : Str → Option Value} {dp un : Nat} {gd : Option (List Code)} {cn : Str} {cs : Scope} {L a : Addr} {ccd : Value} {cl : List (Str × Addr)} {outer : List Env} {A₀ : Around} {base h₀ : Heap} {m : Str → Option Value} {s : Shared}
    {Q E : Value → Shared → Prop} {news : List (Addr × Obj)} (rest : List (Addr × Obj))
    (B : Below A₀ base outer h₀) (F : Fr h₀ L s.heap m) (X : (hd.heap_39 w.params).In h₀) (N : News h₀ L s.heap news) (T : Top topProg loo mean mg mb h₀) (hk : cs.kind = .function)
    (hsub : ∀ p ∈ A, p ∈ news) (hrest : ∀ p ∈ rest, p ∈ news) (hoff : ∀ p ∈ rest, ∀ q ∈ A, p.1 ≠ q.1) (hpre : pre s.heap) (hd : dp + cost < recursionLimit) (hu : un + 200 * cost < cLine)
    (h : ∀ r h' tk' A', Fr h₀ L h' m → News h₀ L h' (A' ++ rest) → (∀ p ∈ A', p.1 ∈ A.map (·.1) ∨ s.heap.get? p.1 = none) → (∀ p ∈ rest, ∀ q ∈ A', p.1 ≠ q.1) → post r h' A' → Q r { s with heap := h', toks := tk' }) :
    wpAny (model PySem.Challenge.rw_ax6027_01.row.prog w) (ktrTop dp un gd cn cs L a ccd cl outer) (call (.ref f) args) Q E s := by
  refine C mean mg mb dp un gd cn cs L a ccd cl outer A₀ base h₀ m s Q E B F X (fun p hp => N p (hsub p hp)) T hk hpre hd hu ?_
  intro r h' tk' A' F' N' K hp
  refine h r h' tk' A' F' (fun p hq => ?_) K.2 (fun p hq q hA e => ?_) hp
  · rcases List.mem_append.mp hq with hq | hq
    · exact N' p hq
    · have z := N p (hrest p hq)
      refine ⟨K.1 _ _ z.1 fun hm => ?_, z.2⟩
      obtain ⟨q, hqA, e⟩ := List.mem_map.mp hm
      exact hoff p hq q hqA e.symm
  · rcases K.2 q hA with hm | hm
    · obtain ⟨q', hqA, e'⟩ := List.mem_map.mp hm
      exact hoff p hq q' hqA (e.trans e'.symm)
    · have z := (N p (hrest p hq)).1
      rw [e, hm] at z
      cases z

/-- names of the frame that are known, laid over the rest -/
def over : List (Str × Value) → (Str → Option Value) → Str → Option Value
  | [], m => m
  | p :: r, m => fun y => if y = p.1 then some p.2 else over r m y
theorem over_eq : ∀ {l : List (Str × Value)} {m : Str → Option Value}, (∀ p ∈ l, m p.1 = some p.2) → over l m = m
  | [], _, _ => rfl
  | p :: r, m, h => by
    funext y
    show (if y = p.1 then some p.2 else over r m y) = m y
    rw [over_eq (l := r) fun q hq => h q (.tail _ hq)]
    by_cases e : y = p.1
    · rw [if_pos e, e]; exact (h p (.head _)).symm
    · rw [if_neg e]

section
variable {prog : Program} {w : World} {A : Around} {E : Value → Shared → Prop} {s : Shared} {env : Env} {h₀ : Heap} {x : Str} {body : List Stmt} {Q : Flow → Shared → Prop}

def TurnTo (h₀ : Heap) (L : Addr) (I : Addr) (oI : Obj) (J : (Str → Option Value) → List (Addr × Obj) → Prop) (s₁ s₂ : Shared) : Prop :=
  ∃ h' tk' m' news', s₂ = { s₁ with heap := h', toks := tk' } ∧ Fr h₀ L h' m' ∧ News h₀ L h' ((I, oI) :: news') ∧ (∀ p ∈ news', @Ne Nat p.1 I) ∧ J m' news'
def Turn (h₀ : Heap) (L : Addr) (I : Addr) (oI : Obj) (J : (Str → Option Value) → List (Addr × Obj) → Prop) (s₁ : Shared) (Q : Flow → Shared → Prop) (f : Flow) (s₂ : Shared) : Prop :=
  match f with
  | .ret v => Q (.ret v) s₂
  | .brk => Q .next s₂
  | _ => TurnTo h₀ L I oI J s₁ s₂

theorem TurnTo.intro {L I : Addr} {oI : Obj} {J : (Str → Option Value) → List (Addr × Obj) → Prop} {s₁ : Shared} {h' : Heap} {tk' : Nat} {m' : Str → Option Value} {all : List (Addr × Obj)} (F : Fr h₀ L h' m') (N : News h₀ L h' all) (news' : List (Addr × Obj))
    (sub : ∀ p ∈ (I, oI) :: news', p ∈ all) (ne : ∀ p ∈ news', @Ne Nat p.1 I) (j : J m' news') : TurnTo h₀ L I oI J s₁ { s₁ with heap := h', toks := tk' } :=
  ⟨h', tk', m', news', rfl, F, fun p hp => N p (sub p hp), ne, j⟩
theorem own_one {L I : Addr} {fp : List Addr} {own news₁ : List (Addr × Obj)} {h : Heap} (hI : ∃ o, h.get? I = some o) (hIf : I ∈ fp) (hI0 : h₀.get? I = none)
    (hall : ∀ b ∈ fp, h₀.get? b = none → ∀ o, h.get? b = some o → (b, o) ∈ own) (N : News h₀ L h (own ++ news₁)) : ∃ oI, (I, oI) ∈ own ∧ h.get? I = some oI ∧ News h₀ L h ((I, oI) :: news₁) := by
  obtain ⟨o, ho⟩ := hI
  have hm := hall I hIf hI0 o ho
  refine ⟨o, hm, ho, fun p hp => ?_⟩
  rcases List.mem_cons.mp hp with hp | hp
  · rw [hp]; exact N _ (List.mem_append_left _ hm)
  · exact N p (List.mem_append_right _ hp)

theorem own_back {L I : Addr} {fp : List Addr} {own news' : List (Addr × Obj)} {h h' : Heap} {oI : Obj} (hI : h.get? I = some oI) (hfp : ∀ b ∈ fp, b = I ∨ (∃ o, h₀.get? b = some o) ∨ ∃ o, h.get? b = some o ∧ (b, o) ∈ news') (hsub : ∀ p ∈ own, p.1 ∈ fp)
    (hget : ∀ p ∈ own, h.get? p.1 = some p.2) (h0 : ∀ p ∈ own, h₀.get? p.1 = none) (N : News h₀ L h' ((I, oI) :: news')) : News h₀ L h' (own ++ news') := by
  intro p hp
  rcases List.mem_append.mp hp with hp | hp
  · rcases hfp p.1 (hsub p hp) with e | ⟨o, e⟩ | ⟨o, e, hm⟩
    · have h1 := hget p hp
      rw [e, hI] at h1
      have : p = (I, oI) := by obtain ⟨a, b⟩ := p; cases e; cases h1; rfl
      rw [this]; exact N _ (.head _)
    · rw [h0 p hp] at e; cases e
    · have h1 := hget p hp
      rw [e] at h1
      have : p = (p.1, o) := by obtain ⟨a, b⟩ := p; cases h1; rfl
      rw [this]; exact N _ (.tail _ hm)
  · exact N p (.tail _ hp)

theorem loopJ {I : Addr} {fp : List Addr} {n : Nat} {P : Nat → Value → Prop} {St : Nat → Heap → Prop} {m₀ : Str → Option Value} {news : List (Addr × Obj)} (J : Nat → (Str → Option Value) → List (Addr × Obj) → Prop)
    (W : Walks prog w A I fp [I] n P St) (hLf : env.locals ∉ fp) (hI0 : h₀.get? I = none) (hIo : ∀ i h, St i h → ∃ o, h.get? I = some o)
    (hfp : ∀ b ∈ fp, b = I ∨ (∃ o, h₀.get? b = some o) ∨ ∃ o, ∀ i m nx, J i m nx → (b, o) ∈ nx)
    (hnw : ∀ p ∈ news, @Ne Nat p.1 I) (hst : St 0 s.heap) (F : Fr h₀ env.locals s.heap m₀) (N : News h₀ env.locals s.heap news) (h0 : J 0 m₀ news)
    (turn : ∀ i v m₁ news₁ oI h tk, i < n → P i v → J i m₁ news₁ → (∀ p ∈ news₁, @Ne Nat p.1 I) → Fr h₀ env.locals h (fun y => if y = x then some v else m₁ y) → News h₀ env.locals h ((I, oI) :: news₁) →
      wpAny (model prog w) A (execs body env) (Turn h₀ env.locals I oI (J (i + 1)) { s with heap := h, toks := tk } Q) E { s with heap := h, toks := tk })
    (done : ∀ m₁ news₁ h tk, J n m₁ news₁ → (∀ p ∈ news₁, @Ne Nat p.1 I) → Fr h₀ env.locals h m₁ → News h₀ env.locals h news₁ → Q .next { s with heap := h, toks := tk }) :
    LoopAtV prog w A h₀ env x body Q E (.ref I) s := by
  refine ⟨I, fp, [I], n, P, St, m₀, news, J, rfl, W, hLf, (fun b hb => by rw [List.mem_singleton.mp hb]; exact hI0), (fun p hp hm => hnw p hp (List.mem_singleton.mp hm)), hst, F, N, h0, ?_, ?_⟩
  · rintro i v m₁ news₁ s₁ own ⟨hh, tk', rfl⟩ hin hP hJ hoff hsub hget hall hst₁ F₁ N₁
    obtain ⟨oI, hmI, hgI, N₂⟩ := own_one (hIo _ _ hst₁) (W.sub I (.head _)) hI0 hall N₁
    refine wpAny_mono (turn i v m₁ news₁ oI hh tk' hin hP hJ (fun p hp e => hoff p hp (e ▸ .head _)) F₁ N₂) (fun f s₂ p => ?_) fun _ _ e => e
    have fin : TurnTo h₀ env.locals I oI (J (i + 1)) { s with heap := hh, toks := tk' } s₂ → LoopStepU h₀ env.locals [I] own (J (i + 1)) { s with heap := hh, toks := tk' } .next s₂ := by
      rintro ⟨h', tk, m', news', e, F', N', hne, hJ'⟩
      refine ⟨rfl, h', tk, m', news', e, F', own_back hgI (fun b hb => ?_) hsub hget (fun p hp => (N₁ p (List.mem_append_left _ hp)).2.2) N', fun p hp hq => hne p hp (List.mem_singleton.mp hq), hJ'⟩
      rcases hfp b hb with e | e | ⟨o, e⟩
      · exact .inl e
      · exact .inr (.inl e)
      · exact .inr (.inr ⟨o, (N₁ _ (List.mem_append_right _ (e _ _ _ hJ))).1, e _ _ _ hJ'⟩)
    cases f with
    | ret v => exact .ret p
    | brk => exact .brk p
    | next => exact .next (fin p)
    | cont => exact .cont (fin p)
  · rintro h' tk m' news' F' N' hq hJ
    exact done m' news' h' tk hJ (fun p hp e => hq p hp (e ▸ .head _)) F' N'

theorem loopJ_range {r : Addr} {a₀ b₀ : Int} {t₀ u₀ v₀ : Tok} {n : Nat} {m₀ : Str → Option Value} {news : List (Addr × Obj)} (J : Nat → (Str → Option Value) → List (Addr × Obj) → Prop)
    (hh : A.handled = none) (hr : IsRange s.heap r a₀ b₀ 1 t₀ u₀ v₀) (hsmall : Builtin.Range.small a₀ b₀ 1 = true) (hn : Builtin.Range.rangeSize a₀ b₀ 1 = (n : Int)) (F : Fr h₀ env.locals s.heap m₀) (N : News h₀ env.locals s.heap news) (h0 : J 0 m₀ news)
    (turn : ∀ i t m₁ news₁ I oI h tk, i < n → J i m₁ news₁ → (∀ p ∈ news₁, @Ne Nat p.1 I) → Fr h₀ env.locals h (fun y => if y = x then some (.int (a₀ + (i : Nat)) t) else m₁ y) → News h₀ env.locals h ((I, oI) :: news₁) →
      wpAny (model prog w) A (execs body env) (Turn h₀ env.locals I oI (J (i + 1)) { s with heap := h, toks := tk } Q) E { s with heap := h, toks := tk })
    (done : ∀ m₁ news₁ h tk, J n m₁ news₁ → Fr h₀ env.locals h m₁ → News h₀ env.locals h news₁ → Q .next { s with heap := h, toks := tk }) :
    wpAny (model prog w) A (pyIter (.ref r)) (fun it s₂ => LoopAtV prog w A h₀ env x body Q E it s₂) E s := by
  refine wpAny_pyIter_range hr hsmall ?_
  refine loopJ J (LCg.range_walks hh a₀ n) ?_ (next_is_new F) (fun i h st => ⟨_, st⟩) (fun b hb => .inl (List.mem_singleton.mp hb)) (fun p hp => Nat.ne_of_lt (Heap.lt_size (N p hp).1))
    (by show IsRangeIter _ _ _ _ _; rw [hn]; simpa using Heap.get?_push_size _ rfl) (F.push _) (fun p hp => ⟨Heap.get?_push_of_some _ (N p hp).1, (N p hp).2⟩) h0 ?_ ?_
  · intro hm
    exact absurd F.ns.lt ((List.mem_singleton.mp hm) ▸ Nat.lt_irrefl _)
  · rintro i v m₁ news₁ oI h tk hi ⟨t, rfl⟩ hJ hne F₁ N₁
    exact turn i t m₁ news₁ _ oI h tk hi hJ hne F₁ N₁
  · exact fun m₁ news₁ h tk hJ _ F₁ N₁ => done m₁ news₁ h tk hJ F₁ N₁

/-- over a tuple that lies in the ground -/
theorem loopJ_tup {l : Addr} {its : Array Value} {m₀ : Str → Option Value} {news : List (Addr × Obj)} (J : Nat → (Str → Option Value) → List (Addr × Obj) → Prop)
    (hh : A.handled = none) (hl : IsTup h₀ l its) (F : Fr h₀ env.locals s.heap m₀) (N : News h₀ env.locals s.heap news) (h0 : J 0 m₀ news)
    (turn : ∀ i v m₁ news₁ I oI h tk, i < its.size → its[i]? = some v → J i m₁ news₁ → (∀ p ∈ news₁, @Ne Nat p.1 I) → Fr h₀ env.locals h (fun y => if y = x then some v else m₁ y) → News h₀ env.locals h ((I, oI) :: news₁) →
      wpAny (model prog w) A (execs body env) (Turn h₀ env.locals I oI (J (i + 1)) { s with heap := h, toks := tk } Q) E { s with heap := h, toks := tk })
    (done : ∀ m₁ news₁ h tk, J its.size m₁ news₁ → Fr h₀ env.locals h m₁ → News h₀ env.locals h news₁ → Q .next { s with heap := h, toks := tk }) :
    wpAny (model prog w) A (pyIter (.ref l)) (fun it s₂ => LoopAtV prog w A h₀ env x body Q E it s₂) E s := by
  have hls : IsTup s.heap l its := hl.keeps F.keep
  obtain ⟨ol, hol, hrest⟩ := id hl
  have hlt : l < h₀.objs.size := Heap.lt_size hol
  have hne : l ≠ s.heap.objs.size := Nat.ne_of_lt (Nat.lt_trans (Nat.lt_of_lt_of_le hlt F.above) F.ns.lt)
  refine iter_tuple hls ?_
  refine loopJ J (Walks.tuple hh s.heap.objs.size l hne its) ?_ (next_is_new F) (fun i h st => ?_) (fun b hb => ?_) (fun p hp => Nat.ne_of_lt (Heap.lt_size (N p hp).1))
    ⟨⟨_, Heap.get?_push_size _ rfl, rfl, rfl⟩, ?_⟩ (F.push _) (fun p hp => ⟨Heap.get?_push_of_some _ (N p hp).1, (N p hp).2⟩) h0 ?_ ?_
  · intro hm
    rcases List.mem_cons.mp hm with e | hm
    · exact absurd F.ns.lt (e ▸ Nat.lt_irrefl _)
    · exact absurd (Nat.lt_of_lt_of_le hlt F.above) ((List.mem_singleton.mp hm) ▸ Nat.lt_irrefl _)
  · obtain ⟨o, e, _⟩ := st.1
    exact ⟨o, e⟩
  · rcases List.mem_cons.mp hb with e | hb
    · exact .inl e
    · exact .inr (.inl ⟨ol, by rw [List.mem_singleton.mp hb]; exact hol⟩)
  · exact hls.keeps fun b o e => Heap.get?_push_of_some _ e
  · rintro i v m₁ news₁ oI h tk hi hP hJ hne F₁ N₁
    exact turn i v m₁ news₁ _ oI h tk hi hP hJ hne F₁ N₁
  · exact fun m₁ news₁ h tk hJ _ F₁ N₁ => done m₁ news₁ h tk hJ F₁ N₁

/-- over a list that lies in the ground -/
theorem loopJ_list {l : Addr} {its : Array Value} {m₀ : Str → Option Value} {news : List (Addr × Obj)} (J : Nat → (Str → Option Value) → List (Addr × Obj) → Prop)
    (hh : A.handled = none) (hl : h₀.IsList l its) (F : Fr h₀ env.locals s.heap m₀) (N : News h₀ env.locals s.heap news) (h0 : J 0 m₀ news)
    (turn : ∀ i v m₁ news₁ I oI h tk, i < its.size → its[i]? = some v → J i m₁ news₁ → (∀ p ∈ news₁, @Ne Nat p.1 I) → Fr h₀ env.locals h (fun y => if y = x then some v else m₁ y) → News h₀ env.locals h ((I, oI) :: news₁) →
      wpAny (model prog w) A (execs body env) (Turn h₀ env.locals I oI (J (i + 1)) { s with heap := h, toks := tk } Q) E { s with heap := h, toks := tk })
    (done : ∀ m₁ news₁ h tk, J its.size m₁ news₁ → Fr h₀ env.locals h m₁ → News h₀ env.locals h news₁ → Q .next { s with heap := h, toks := tk }) :
    wpAny (model prog w) A (pyIter (.ref l)) (fun it s₂ => LoopAtV prog w A h₀ env x body Q E it s₂) E s := by
  have hls : s.heap.IsList l its := hl.at fun o e => F.keep l o e
  obtain ⟨ol, hol, hrest⟩ := id hl
  have hlt : l < h₀.objs.size := Heap.lt_size hol
  have hne : l ≠ s.heap.objs.size := Nat.ne_of_lt (Nat.lt_trans (Nat.lt_of_lt_of_le hlt F.above) F.ns.lt)
  refine wpAny_pyIter_list hls ?_
  refine loopJ J (Walks.list hh s.heap.objs.size l hne its) ?_ (next_is_new F) (fun i h st => ?_) (fun b hb => ?_) (fun p hp => Nat.ne_of_lt (Heap.lt_size (N p hp).1))
    ⟨⟨_, Heap.get?_push_size _ rfl, rfl, rfl⟩, hls.at fun o e => Heap.get?_push_of_some _ e⟩ (F.push _) (fun p hp => ⟨Heap.get?_push_of_some _ (N p hp).1, (N p hp).2⟩) h0 ?_ ?_
  · intro hm
    rcases List.mem_cons.mp hm with e | hm
    · exact absurd F.ns.lt (e ▸ Nat.lt_irrefl _)
    · exact absurd (Nat.lt_of_lt_of_le hlt F.above) ((List.mem_singleton.mp hm) ▸ Nat.lt_irrefl _)
  · obtain ⟨o, e, _⟩ := st.1
    exact ⟨o, e⟩
  · rcases List.mem_cons.mp hb with e | hb
    · exact .inl e
    · exact .inr (.inl ⟨ol, by rw [List.mem_singleton.mp hb]; exact hol⟩)
  · rintro i v m₁ news₁ oI h tk hi hP hJ hne F₁ N₁
    exact turn i v m₁ news₁ _ oI h tk hi hP hJ hne F₁ N₁
  · exact fun m₁ news₁ h tk hJ _ F₁ N₁ => done m₁ news₁ h tk hJ F₁ N₁
end

def Stop (P : Prop) : Prop := P
theorem Stop.go {P : Prop} (h : Stop P) : P := h
theorem Stop.of {P : Prop} (h : P) : Stop P := h

/-- an item of a list of the ledger, at a place that is known -/
theorem sub_led {prog : Program} {w : World} {A : Around} {E : Value → Shared → Prop} {s : Shared} {h₀ : Heap} {L D : Addr} {news : List (Addr × Obj)} {its : Array Value} {n : Nat} {k : Int} {u : Tok} {v : Value} {value slice : PySem.Expr} {Q : Value → Shared → Prop}
    (N : News h₀ L s.heap news) (hm : (D, listOf its n) ∈ news) (h0 : 0 ≤ k) (hfit : k < 2 ^ 63) (hx : its[k.toNat]? = some v) (h : Q v s)
    (hs : subscripted slice false (.ref D) (.int k u) = operate [.ref D, .int k u] (getItem (.ref D) (.int k u)) := by with_unfolding_all rfl) :
    wpAny (model prog w) A (subscriptTail value slice (.ref D) (.int k u)) Q E s :=
  tail_any (PySem.IsL.isList (n := n) (N _ hm).1).typeIs slot_list_getitem.lookup (wpAny_getItem_list (PySem.IsL.isList (n := n) (N _ hm).1) h0 hfit hx h) hs
end Mine
end

section
open PySem PySem.W PyProof.Rows PySem.Calls
set_option Elab.async false
set_option maxRecDepth 100000
set_option maxHeartbeats 8000000
namespace Mine

inductive Each {α β : Type} (R : α → β → Prop) : List α → List β → Prop
  | nil : Each R [] []
  | cons {a : α} {b : β} {as : List α} {bs : List β} : R a b → Each R as bs → Each R (a :: as) (b :: bs)
section
variable {α β : Type} {R S : α → β → Prop}
theorem Each.length : ∀ {as : List α} {bs : List β}, Each R as bs → as.length = bs.length
  | _, _, .nil => rfl
  | _, _, .cons _ h => congrArg (· + 1) h.length
theorem Each.mono (hs : ∀ a b, R a b → S a b) : ∀ {as : List α} {bs : List β}, Each R as bs → Each S as bs
  | _, _, .nil => .nil
  | _, _, .cons h r => .cons (hs _ _ h) (r.mono hs)
theorem Each.append : ∀ {as : List α} {bs : List β} {as' : List α} {bs' : List β}, Each R as bs → Each R as' bs' → Each R (as ++ as') (bs ++ bs')
  | _, _, _, _, .nil, k => k
  | _, _, _, _, .cons h r, k => .cons h (r.append k)
theorem Each.snoc {as : List α} {bs : List β} {a : α} {b : β} (h : Each R as bs) (k : R a b) : Each R (as ++ [a]) (bs ++ [b]) := h.append (.cons k .nil)
theorem Each.get : ∀ {as : List α} {bs : List β}, Each R as bs → ∀ {i : Nat} {b : β}, bs[i]? = some b → ∃ a, as[i]? = some a ∧ R a b
  | _, _, .nil, i, b, h => by simp at h
  | _, _, .cons h r, 0, b, e => by
    simp only [List.getElem?_cons_zero, Option.some.injEq] at e
    subst e
    exact ⟨_, by simp, h⟩
  | _, _, .cons h r, i + 1, b, e => by
    obtain ⟨a, e1, e2⟩ := r.get (i := i) (b := b) (by simpa using e)
    exact ⟨a, by simpa using e1, e2⟩
theorem Each.getL : ∀ {as : List α} {bs : List β}, Each R as bs → ∀ {i : Nat} {a : α}, as[i]? = some a → ∃ b, bs[i]? = some b ∧ R a b
  | _, _, .nil, i, b, h => by simp at h
  | _, _, .cons h r, 0, b, e => by
    simp only [List.getElem?_cons_zero, Option.some.injEq] at e
    subst e
    exact ⟨_, by simp, h⟩
  | _, _, .cons h r, i + 1, b, e => by
    obtain ⟨a, e1, e2⟩ := r.getL (i := i) (a := b) (by simpa using e)
    exact ⟨a, by simpa using e1, e2⟩
end

abbrev tup (vs : Array Value) (n : Nat) : Obj := { cls := .type "tuple", data := .seq vs n }

/-- the ledger bears a pair of ints at v -/
structure PairIn (news : List (Addr × Obj)) (v : Value) (p : Int × Int) : Prop where
  ex : ∃ a t u n, v = .ref a ∧ (a, tup #[.int p.1 t, .int p.2 u] n) ∈ news
structure PairAt (h : Heap) (v : Value) (p : Int × Int) : Prop where
  ex : ∃ a t u n, v = .ref a ∧ h.get? a = some (tup #[.int p.1 t, .int p.2 u] n)
structure RowIn (news : List (Addr × Obj)) (v : Value) (ps : List (Int × Int)) : Prop where
  ex : ∃ a vs n, v = .ref a ∧ (a, tup (List.toArray vs) n) ∈ news ∧ Each (PairIn news) vs ps
structure RowAt (h : Heap) (v : Value) (ps : List (Int × Int)) : Prop where
  ex : ∃ a vs n, v = .ref a ∧ h.get? a = some (tup (List.toArray vs) n) ∧ Each (PairAt h) vs ps

theorem PairIn.mono {news news' : List (Addr × Obj)} (hs : ∀ p ∈ news, p ∈ news') {v : Value} {p : Int × Int} : PairIn news v p → PairIn news' v p
  | ⟨a, t, u, n, e, hm⟩ => ⟨a, t, u, n, e, hs _ hm⟩
theorem RowIn.mono {news news' : List (Addr × Obj)} (hs : ∀ p ∈ news, p ∈ news') {v : Value} {ps : List (Int × Int)} : RowIn news v ps → RowIn news' v ps
  | ⟨a, vs, n, e, hm, r⟩ => ⟨a, vs, n, e, hs _ hm, r.mono fun _ _ h => h.mono hs⟩
theorem pairs_mono {news news' : List (Addr × Obj)} {vs : List Value} {ps : List (Int × Int)} (h : Each (PairIn news) vs ps) (hs : ∀ p ∈ news, p ∈ news') : Each (PairIn news') vs ps := h.mono fun _ _ k => k.mono hs
theorem pairs_tl {news : List (Addr × Obj)} {q : Addr × Obj} {vs : List Value} {ps : List (Int × Int)} (h : Each (PairIn news) vs ps) : Each (PairIn (q :: news)) vs ps := pairs_mono h fun _ h => .tail _ h
theorem PairAt.keeps {h h' : Heap} (hk : ∀ b o, h.get? b = some o → h'.get? b = some o) {v : Value} {p : Int × Int} : PairAt h v p → PairAt h' v p
  | ⟨a, t, u, n, e, hm⟩ => ⟨a, t, u, n, e, hk _ _ hm⟩
theorem RowAt.keeps {h h' : Heap} (hk : ∀ b o, h.get? b = some o → h'.get? b = some o) {v : Value} {ps : List (Int × Int)} : RowAt h v ps → RowAt h' v ps
  | ⟨a, vs, n, e, hm, r⟩ => ⟨a, vs, n, e, hk _ _ hm, r.mono fun _ _ h => h.keeps hk⟩
theorem PairIn.at {h₀ h : Heap} {L : Addr} {news : List (Addr × Obj)} (N : News h₀ L h news) {v : Value} {p : Int × Int} : PairIn news v p → PairAt h v p
  | ⟨a, t, u, n, e, hm⟩ => ⟨a, t, u, n, e, (N _ hm).1⟩
theorem RowIn.at {h₀ h : Heap} {L : Addr} {news : List (Addr × Obj)} (N : News h₀ L h news) {v : Value} {ps : List (Int × Int)} : RowIn news v ps → RowAt h v ps
  | ⟨a, vs, n, e, hm, r⟩ => ⟨a, vs, n, e, (N _ hm).1, r.mono fun _ _ h => h.at N⟩

/-- the draw's two objects -/
structure DrawOk (vs : List Value) (sd : Int) : Prop where
  are : ∃ ns, IntsAre vs ns ∧ ns.length ≤ 63
  lo : 0 ≤ sd
  hi : sd < 2147483647
abbrev drawL (d l : Addr) (vs : List Value) (sd : Int) (t : Tok) (n1 n2 : Nat) : List (Addr × Obj) := [(d, listOf #[.ref l, .int sd t] n1), (l, listOf vs.toArray n2)]

theorem Ctr.post {w : World} {f : Addr} {cost : Nat} {args : List Value} {A : List (Addr × Obj)} {pre : Heap → Prop} {P P' : Value → Heap → List (Addr × Obj) → Prop} (C : Ctr w f cost args A pre P) (h : ∀ r g B, P r g B → P' r g B) : Ctr w f cost args A pre P' := by
  intro mean mg mb dp un gd cn cs L a ccd cl outer A₀ base h₀ m s Q E B F X N T hk hpre hd hu hret
  exact C mean mg mb dp un gd cn cs L a ccd cl outer A₀ base h₀ m s Q E B F X N T hk hpre hd hu fun r h' tk' A' F' N' K hp => hret r h' tk' A' F' N' K (h _ _ _ hp)
end Mine
end

section
open PySem PySem.W PyProof.Rows PySem.Calls
set_option Elab.async false
set_option maxRecDepth 100000
set_option maxHeartbeats 8000000
namespace Mine
theorem off_own {own A : List (Addr × Obj)} {adr : List Addr} (h : OwnOff own adr) (hs : ∀ q ∈ A, q.1 ∈ adr) : ∀ p ∈ own, ∀ q ∈ A, p.1 ≠ q.1 := fun p hp q hq => h p hp _ (hs q hq)
theorem own_nil {adr : List Addr} : OwnOff [] adr := fun _ h => nomatch h
theorem own_cons {own : List (Addr × Obj)} {adr : List Addr} {q : Addr × Obj} (h : OwnOff own adr) (hq : ∀ b ∈ adr, q.1 ≠ b) : OwnOff (q :: own) adr := fun p hp b hb => by
  rcases List.mem_cons.mp hp with rfl | hp
  · exact hq b hb
  · exact h p hp b hb
theorem own_ne {own : List (Addr × Obj)} {adr : List Addr} {b : Addr} (h : OwnOff own adr) (hb : b ∈ adr) : ∀ p ∈ own, @Ne Nat p.1 b := fun p hp => h p hp b hb
theorem own_more {own : List (Addr × Obj)} {adr : List Addr} {b : Addr} (h : OwnOff own adr) (hb : ∀ p ∈ own, @Ne Nat p.1 b) : OwnOff own (b :: adr) := fun p hp c hc => by
  rcases List.mem_cons.mp hc with rfl | hc
  · exact hb p hp
  · exact h p hp c hc
theorem own_less {own : List (Addr × Obj)} {adr adr' : List Addr} (h : OwnOff own adr) (hs : ∀ b ∈ adr', b ∈ adr) : OwnOff own adr' := fun p hp c hc => h p hp c (hs c hc)
theorem own_lt {own : List (Addr × Obj)} {b : Nat} (h : ∀ p ∈ own, @LT.lt Nat _ p.1 b) : ∀ p ∈ own, @Ne Nat p.1 b := fun p hp => Nat.ne_of_lt (h p hp)
theorem allLt_ne {b : Nat} : ∀ {own : List (Addr × Obj)}, AllLt b own → ∀ p ∈ own, @Ne Nat p.1 b
  | [], _, _, h => nomatch h
  | _ :: _, a, p, h => by
    rcases List.mem_cons.mp h with rfl | h
    · exact Nat.ne_of_lt a.1
    · exact allLt_ne a.2 p h
section
variable {prog : Program} {w : World} {A : Around} {E : Value → Shared → Prop} {s : Shared} {h₀ : Heap} {L : Addr} {m : Str → Option Value} {news : List (Addr × Obj)}
theorem range1' {Q : Value → Shared → Prop} {n : Int} {t : Tok} (F : Fr h₀ L s.heap m) (N : News h₀ L s.heap news)
    (h : ∀ r h' tk t₁ u₁ v₁, IsRange h' r 0 n 1 t₁ u₁ v₁ → Fr h₀ L h' m → News h₀ L h' news → Q (.ref r) { s with heap := h', toks := tk }) :
    wpAny (model prog w) A (call (.type "range") [.int n t]) Q E s :=
  range1_rows F N fun h' tk t₁ u₁ v₁ a b c _ => h _ h' tk t₁ u₁ v₁ a b c
theorem range2' {Q : Value → Shared → Prop} {a b : Int} {t u : Tok} (F : Fr h₀ L s.heap m) (N : News h₀ L s.heap news)
    (h : ∀ r h' tk t₁ u₁ v₁, IsRange h' r a b 1 t₁ u₁ v₁ → Fr h₀ L h' m → News h₀ L h' news → Q (.ref r) { s with heap := h', toks := tk }) :
    wpAny (model prog w) A (call (.type "range") [.int a t, .int b u]) Q E s :=
  range2_rows F N fun h' tk t₁ u₁ v₁ x y z _ => h _ h' tk t₁ u₁ v₁ x y z
theorem tuple_of {Q : Value → Shared → Prop} {l : Addr} {vs : List Value} {n : Nat} (F : Fr h₀ L s.heap m) (N : News h₀ L s.heap news) (hl : (l, listOf vs.toArray n) ∈ news) (hz : vs.length ≤ 16384)
    (h : ∀ D h', Fr h₀ L h' m → News h₀ L h' ((D, tup vs.toArray 0) :: news) → (∀ p ∈ news, p.1 < D) → Q (.ref D) { s with heap := h' }) : wpAny (model prog w) A (call (.type "tuple") [.ref l]) Q E s :=
  kde_tupleOf (zs := vs) F N (PySem.IsL.isList (n := n) (N _ hl).1) (by rw [List.size_toArray]; exact hz) (by simp) h
theorem append_of {Q : Value → Shared → Prop} {D : Addr} {vs : List Value} {x : Value} {n : Nat} {news' : List (Addr × Obj)} (F : Fr h₀ L s.heap m) (N : News h₀ L s.heap news) (U : Upd D (listOf vs.toArray n) (listOf (vs ++ [x]).toArray (n + 1)) news news')
    (hz : vs.length ≤ 16384) (h : ∀ h', Fr h₀ L h' m → News h₀ L h' news' → Q .none { s with heap := h' }) : wpAny (model prog w) A (call (.builtin "list.append") [.ref D, x]) Q E s := by
  refine append_K (its := vs.toArray) (n := n) F N ?_ h (by rw [List.size_toArray, sizeLine_eq]; omega)
  rw [List.push_toArray]
  exact U
end
end Mine
end

section
open PySem PySem.W PyProof.Rows PySem.Calls
set_option Elab.async false
set_option maxRecDepth 100000
set_option maxHeartbeats 8000000
namespace Mine

theorem ws_next {h₀ h' : Heap} {L : Addr} {s : Shared} {J : Nat → (Str → Option Value) → List (Addr × Obj) → Prop} {Q : Flow → Shared → Prop} {n n' tk : Nat} {m' : Str → Option Value} {all : List (Addr × Obj)} (F : Fr h₀ L h' m') (N : News h₀ L h' all) (news' : List (Addr × Obj))
    (sub : ∀ p ∈ news', p ∈ all) (hn : n' < n) (j : J n' m' news') : WhileStep2 h₀ L s J Q n .next { s with heap := h', toks := tk } := ⟨h', tk, m', news', n', rfl, F, fun p hp => N p (sub p hp), hn, j⟩

structure BoolList (h : Heap) (a : Addr) (bs : List Bool) : Prop where
  ex : ∃ vs n, h.get? a = some (listOf (List.toArray vs) n) ∧ LSm.BoolsAre vs bs
structure BoolIn (news : List (Addr × Obj)) (a : Addr) (bs : List Bool) : Prop where
  ex : ∃ vs n, (a, listOf (List.toArray vs) n) ∈ news ∧ LSm.BoolsAre vs bs
theorem BoolList.keeps {h h' : Heap} {a : Addr} {bs : List Bool} (hk : ∀ b o, h.get? b = some o → h'.get? b = some o) : BoolList h a bs → BoolList h' a bs
  | ⟨vs, n, e, b⟩ => ⟨vs, n, hk _ _ e, b⟩
theorem BoolIn.at {h₀ h : Heap} {L a : Addr} {news : List (Addr × Obj)} {bs : List Bool} (N : News h₀ L h news) : BoolIn news a bs → BoolList h a bs
  | ⟨vs, n, e, b⟩ => ⟨vs, n, (N _ e).1, b⟩

section
variable {prog : Program} {w : World} {A : Around} {E : Value → Shared → Prop} {s : Shared} {h₀ : Heap} {L : Addr} {m : Str → Option Value} {news : List (Addr × Obj)} {value slice : PySem.Expr} {Q : Value → Shared → Prop} {k : Int} {u : Tok} {D : Addr}
theorem sub_bools {bs : List Bool} (H : BoolList s.heap D bs) (h0 : 0 ≤ k) (h1 : k < bs.length) (hz : bs.length ≤ 1000) (h : Q (.bool (bs.getD k.toNat false)) s)
    (hs : subscripted slice false (.ref D) (.int k u) = operate [.ref D, .int k u] (getItem (.ref D) (.int k u)) := by with_unfolding_all rfl) :
    wpAny (model prog w) A (subscriptTail value slice (.ref D) (.int k u)) Q E s := by
  obtain ⟨vs, n, e, hb⟩ := H
  have hx := kbo_at hb k.toNat (by omega)
  exact tail_any (PySem.IsL.isList (n := n) e).typeIs slot_list_getitem.lookup (wpAny_getItem_list (PySem.IsL.isList (n := n) e) h0 (by omega) (by simpa using hx) h) hs

theorem row_tup {h : Heap} {ps : List (Int × Int)} (H : RowAt h (.ref D) ps) : ∃ vs, IsTup h D (List.toArray vs) ∧ Each (PairAt h) vs ps := by
  obtain ⟨a, vs, n, e, hm, r⟩ := H
  cases e
  exact ⟨vs, ⟨_, hm, rfl, _, rfl⟩, r⟩

theorem sub_row {ps : List (Int × Int)} (H : RowAt s.heap (.ref D) ps) (h0 : 0 ≤ k) (h1 : k < ps.length) (hz : ps.length ≤ 1000) (h : ∀ a, PairAt s.heap (.ref a) (ps.getD k.toNat (0, 0)) → Q (.ref a) s)
    (hs : subscripted slice false (.ref D) (.int k u) = operate [.ref D, .int k u] (getItem (.ref D) (.int k u)) := by with_unfolding_all rfl) (hg : ∀ r, letTemporaryGo value (.ref D) r = pure () := by intro _; with_unfolding_all rfl) :
    wpAny (model prog w) A (subscriptTail value slice (.ref D) (.int k u)) Q E s := by
  obtain ⟨vs, ht, r⟩ := row_tup H
  have hb : ps[k.toNat]? = some (ps.getD k.toNat (0, 0)) := by
    have : k.toNat < ps.length := by omega
    simp [this]
  obtain ⟨v, hv, a, t, u', n, e, hp⟩ := r.get hb
  subst e
  refine item_tupleL (j := k.toNat) ht (by omega) (by omega) (seqIndex_of h0 (by rw [r.length]; exact h1)) hv (h a ⟨a, t, u', n, rfl, hp⟩) hs hg

theorem pair_tup {h : Heap} {p : Int × Int} (H : PairAt h (.ref D) p) : ∃ t u, IsTup h D (List.toArray [Value.int p.1 t, .int p.2 u]) := by
  obtain ⟨a, t, u, n, e, hm⟩ := H
  cases e
  exact ⟨t, u, _, hm, rfl, _, rfl⟩
theorem sub_pair0 {p : Int × Int} (H : PairAt s.heap (.ref D) p) (h : ∀ t, Q (.int p.1 t) s)
    (hs : subscripted slice false (.ref D) (.int 0 u) = operate [.ref D, .int 0 u] (getItem (.ref D) (.int 0 u)) := by with_unfolding_all rfl) (hg : ∀ r, letTemporaryGo value (.ref D) r = pure () := by intro _; with_unfolding_all rfl) :
    wpAny (model prog w) A (subscriptTail value slice (.ref D) (.int 0 u)) Q E s := by
  obtain ⟨t, u', ht⟩ := pair_tup H
  exact item_tupleL (j := 0) ht (by decide) (by decide) rfl rfl (h t) hs hg
theorem sub_pair1 {p : Int × Int} (H : PairAt s.heap (.ref D) p) (h : ∀ t, Q (.int p.2 t) s)
    (hs : subscripted slice false (.ref D) (.int 1 u) = operate [.ref D, .int 1 u] (getItem (.ref D) (.int 1 u)) := by with_unfolding_all rfl) (hg : ∀ r, letTemporaryGo value (.ref D) r = pure () := by intro _; with_unfolding_all rfl) :
    wpAny (model prog w) A (subscriptTail value slice (.ref D) (.int 1 u)) Q E s := by
  obtain ⟨t, u', ht⟩ := pair_tup H
  exact item_tupleL (j := 1) ht (by decide) (by decide) rfl rfl (h u') hs hg
theorem len_row {ps : List (Int × Int)} (H : RowAt s.heap (.ref D) ps) (hz : ps.length ≤ 1000) (h : Q (.int (ps.length : Nat) (s.toks + 1)) { s with toks := s.toks + 1 + 1 }) : wpAny (model prog w) A (call (.builtin "len") [.ref D]) Q E s := by
  obtain ⟨vs, ht, r⟩ := row_tup H
  have e : (List.toArray vs).size = ps.length := by rw [List.size_toArray, r.length]
  refine PyProof.Rows.len_tuple ht (by rw [e]; omega) ?_
  rw [e]
  exact h
end
end Mine
end

section
open PySem PySem.W PyProof.Rows PySem.Calls
set_option Elab.async false
set_option maxRecDepth 100000
set_option maxHeartbeats 8000000
namespace Mine
section
variable {prog : Program} {w : World} {A : Around} {h₀ : Heap} {L : Addr} {m : Str → Option Value} {env : Env} {elt : Expr} {x : Str} {scope : Scope} {cl : List (Str × Addr)} {s : Shared} {S : List (Addr × Obj) → Prop} {P : Nat → Value → Prop} {Fin : List Value → List (Addr × Obj) → Prop} {news : List (Addr × Obj)}
theorem compJ {n : Nat} (J : Nat → List Value → List (Addr × Obj) → Prop) (h0 : J 0 [] news)
    (turn : ∀ i ys nw v I oI C oC D m₂ h tk (E' : Value → Shared → Prop), i < n → P i v → J i ys nw → LCg.NsObj oC m₂ → m₂ x = some v → Fr h₀ L h m → News h₀ L h ((I, oI) :: (C, oC) :: (D, LCg.lst ys) :: nw) → LCg.Off3 I C D nw → ((@Ne Nat I C) ∧ (@Ne Nat I D) ∧ (@Ne Nat C D)) →
      wpAny (model prog w) A (eval elt (compEnvC scope cl C env)) (LCg.CompEnd h₀ L m { s with heap := h, toks := tk } I oI C oC D (LCg.lst ys) S (fun y nw' => J (i + 1) (ys ++ [y]) nw')) E' { s with heap := h, toks := tk })
    (fin : ∀ ys nw, J n ys nw → Fin ys nw) : LCg.CompRest prog w A h₀ L m env elt x scope cl s S P Fin n 0 [] news := by
  have key : ∀ (j i : Nat) (ys : List Value) (nw : List (Addr × Obj)), i + j = n → J i ys nw → LCg.CompRest prog w A h₀ L m env elt x scope cl s S P Fin j i ys nw := by
    intro j
    induction j with
    | zero =>
      intro i ys nw hi hy
      have e : i = n := by omega
      subst e
      exact LCg.CompRest.zero (fin ys nw hy)
    | succ j ih =>
      intro i ys nw hi hy
      refine LCg.CompRest.succ ?_
      intro v I oI C oC D m₂ h tk E' hv hC hx F N off ne
      refine wpAny_mono (turn i ys nw v I oI C oC D m₂ h tk E' (by omega) hv hy hC hx F N off ne) (fun y s₂ hq => ?_) fun _ _ e => e
      obtain ⟨h', tk', nw', e, F', N', off', hS, hj⟩ := hq
      exact ⟨h', tk', nw', e, F', N', off', hS, ih (i + 1) _ _ (by omega) hj⟩
  exact key n 0 [] news (by omega) h0
end
theorem execs_gen {M : Model} {A : Around} {E : Value → Shared → Prop} {s : Shared} {st : Stmt} {sts : List Stmt} {env : Env} {Q : Flow → Shared → Prop}
    (h : ∀ tk, wpAny M A (exec st env) (fun f s' => match f with | .next => wpAny M A (execs sts env) Q E s' | f => Q f s') E { s with toks := tk }) : wpAny M A (execs (st :: sts) env) Q E s := wpAny_execs_cons (h s.toks)
theorem ints_app : ∀ {vs vs' : List Value} {ns ns' : List Int}, IntsAre vs ns → IntsAre vs' ns' → IntsAre (vs ++ vs') (ns ++ ns')
  | _, _, _, _, .nil, k => k
  | _, _, _, _, .cons n t h, k => .cons n t (ints_app h k)
theorem off1_own {D : Addr} : ∀ {l : List (Addr × Obj)}, LCg.Off1 D l → ∀ p ∈ l, @Ne Nat p.1 D
  | [], _, _, h => nomatch h
  | _ :: _, a, p, h => by
    rcases List.mem_cons.mp h with rfl | h
    · exact a.1
    · exact off1_own a.2 p h
end Mine
end

section
open PySem PySem.W PyProof.Rows PySem.Calls
set_option Elab.async false
set_option maxRecDepth 100000
set_option maxHeartbeats 8000000
namespace Mine
theorem peek1_push {α : Type} {K : Frag} {M : Model} {A : Around} {E : Value → Shared → Prop} {Q : α → Shared → Prop} {s : Shared} {o : Obj} {r : Addr → α} (X : K.In s.heap) (q : Q (r s.heap.objs.size) { s with heap := s.heap.push o }) :
    ∀ (t : Sem α) (g : Addr → Option α), peek1 K ⟨M.prog, M.w.params⟩ t = some (o, g) → (∀ D, g D = some (r D)) → wpAny M A t Q E s := by
  intro t
  induction t with
  | rule _ k ih => exact fun g e hg Γ p hΓ => ih () g e hg Γ p hΓ
  | point _ k ih => exact fun g e hg Γ p hΓ => ih () g e hg Γ p hΓ
  | ask k ih => exact fun g e hg Γ p hΓ => ih _ g e hg Γ p hΓ
  | load a _ k ih =>
    intro g e hg Γ p hΓ
    simp only [peek1] at e
    split at e
    · rename_i ob ho
      exact ⟨ob, X _ _ ho, ih ob g e hg Γ p hΓ⟩
    · cases e
  | alloc ob k _ =>
    intro g e hg
    obtain ⟨e1, e2⟩ := Prod.mk.inj (Option.some.inj (show some (ob, fun D => peek K ⟨M.prog, M.w.params⟩ (k D)) = some (o, g) from e))
    subst e1 e2
    exact wpAny_bind (m := alloc ob) (wpAny_alloc ((Looks.of_peek (M := M) (h := s.heap.push ob) (X.keeps fun b x hb => Heap.get?_push_of_some _ hb) (hg s.heap.objs.size)).here (s := { s with heap := s.heap.push ob }) q))
  | _ => intro g e; cases e

/-- a call of a def that takes all its arguments as one tuple; the ledger passed on is small, all else lies in the callee's ground -/
theorem call_rest {prog : Program} {w : World} {A A₀ : Around} {s : Shared} {K : Frag} {L : Addr} {h₀ base : Heap} {m mg mb : Str → Option Value} {news : List (Addr × Obj)} {p : Program} {loose : List Str} {mean : ExcName → Option Value}
    {env : Env} {outer : List Env} {R : Result → Shared → Prop} {name qual : Str} {params : Arguments} {body : List Stmt} {scope : Scope} {dV kV doc pm cdv ct oc : Value} {an od : Option Addr} {osl : Array (Option Value)} {f : Addr} {args : Args} {vs : List Value} {g₁ : Addr → Option (List (Str × Value))} {binds : Addr → List (Str × Value)}
    (B : Below A₀ base outer h₀) (F : Fr h₀ L s.heap m) (X₀ : K.In h₀) (N : News h₀ L s.heap news) (T : Top p loose mean mg mb h₀) (hA : A.frames = some (env :: outer)) (hf : env.frame = some L) (hke : env.scope.kind = .function)
    (ho : K.lookup f = some ⟨oc, od, .func (fnOf name qual params body scope dV kV doc pm an cdv ct), osl⟩) (hcd : codeIn K cdv qual = true) (hroom : A.depth < recursionLimit)
    (hp : peek1 K ⟨prog, w.params⟩ (bindArgs (fnOf name qual params body scope dV kV doc pm an cdv ct) args) = some (tup vs.toArray 0, g₁))
    (hg : ∀ D, g₁ D = some (binds D)) (hloc : ∀ D, ∀ y ∈ binds D, scope.names.lookup y.1 = some .local)
    (h : ∀ D g L' h₁, (∀ p ∈ news, p.1 < D) → Fr h₀ L g m → Fr g L' h₁ (fun y => (binds D).reverse.lookup y) → News g L' h₁ ((D, tup vs.toArray 0) :: news) → Below A base (env :: outer) g → K.In g → Top p loose mean mg mb g →
      (∀ b o, s.heap.get? b = some o → b ∉ news.map (·.1) → g.get? b = some o) → s.heap.objs.size = D →
      wpAny (model prog w) (A.deeper (envOf qual scope L' f cdv)) (execs body (envOf qual scope L' f cdv))
        (fun fl s' => LeaveK h₀ L m g R (match fl with | .ret v => v | _ => .none) s')
        (fun e s' => wpAny (model prog w) (A.deeper (envOf qual scope L' f cdv)) (leaving (envOf qual scope L' f cdv) e) (fun _ s'' => R (.error e) s'') (fun e' s'' => R (.error e') s'') s')
        { s with heap := h₁, toks := s.toks + (binds D).length })
    (hco : scope.isCoroutine = false) (hgen : scope.isGenerator = false) (hk : scope.kind = .function)
    (hcell : ∀ x ∈ scope.names, x.2 ≠ .cell) : codeAny (model prog w) A (.call (.ref f) args) R s := by
  refine codeAny_call_function (fd := fnOf name qual params body scope dV kV doc pm an cdv ct) (body := body) hroom ((X₀.keeps F.keep) _ _ ho) rfl hco hgen rfl (codeRec_of (X₀.keeps F.keep) hcd) ?_
  refine peek1_push (o := tup vs.toArray 0) (X₀.keeps F.keep) (r := binds) ?_ _ g₁ hp hg
  have F' : Fr h₀ L (s.heap.push (tup vs.toArray 0)) m := F.push _
  have N' : News h₀ L (s.heap.push (tup vs.toArray 0)) ((s.heap.objs.size, tup vs.toArray 0) :: news) := News.push F N _ rfl
  obtain ⟨FG, BG, st, lv⟩ := groundX (R := R) (s := { s with heap := s.heap.push (tup vs.toArray 0) }) B F' N' hA hf hke
  refine wpAny_newFunctionEnv hcell (hloc _) (fun h₁ hns hsb => ⟨(T.nolimit.keeps F'.keep).fresh _ hsb, codeAny_func ?_⟩) hk
  have hk₁ : ∀ b o, (s.heap.push (tup vs.toArray 0)).get? b = some o → h₁.get? b = some o := fun b o e => hsb.extBut b o (Nat.ne_of_lt (Heap.lt_size e)) (Heap.get?_push_of_some _ e)
  exact wpAny_mono (h s.heap.objs.size _ (s.heap.push (tup vs.toArray 0)).objs.size h₁ (fun p hp => Heap.lt_size (N p hp).1) FG ⟨hns, fun b o e => hk₁ b o (of_hideAll _ e), Nat.le_of_eq (hideAll_size _ _)⟩
    (fun p hp => ⟨hk₁ _ _ (N' p hp).1, Nat.ne_of_lt (Heap.lt_size (N' p hp).1), hideAll_none _ (List.mem_map_of_mem hp)⟩) BG (X₀.keeps st) (T.keeps st)
    (fun b o e n => hideAll_get _ (Heap.get?_push_of_some _ e) (fun k => by
      rcases List.mem_cons.mp k with k | k
      · exact absurd (Heap.lt_size e) (by rw [k]; exact Nat.lt_irrefl _)
      · exact n k)) rfl) (fun fl s' hl => lv _ _ hl) fun _ _ y => y
section
variable {prog : Program} {w : World} {A : Around} {E : Value → Shared → Prop} {s : Shared} {env : Env} {h₀ : Heap} {x : Str} {body : List Stmt} {Q : Flow → Shared → Prop}
/-- over a tuple of the ledger -/
theorem loopJ_tupL {l : Addr} {its : Array Value} {ln : Nat} {m₀ : Str → Option Value} {news : List (Addr × Obj)} (J : Nat → (Str → Option Value) → List (Addr × Obj) → Prop)
    (hh : A.handled = none) (hl : (l, tup its ln) ∈ news) (F : Fr h₀ env.locals s.heap m₀) (N : News h₀ env.locals s.heap news) (h0 : J 0 m₀ news) (hJl : ∀ i m nx, J i m nx → (l, tup its ln) ∈ nx)
    (turn : ∀ i v m₁ news₁ I oI h tk, i < its.size → its[i]? = some v → J i m₁ news₁ → (∀ p ∈ news₁, @Ne Nat p.1 I) → Fr h₀ env.locals h (fun y => if y = x then some v else m₁ y) → News h₀ env.locals h ((I, oI) :: news₁) →
      wpAny (model prog w) A (execs body env) (Turn h₀ env.locals I oI (J (i + 1)) { s with heap := h, toks := tk } Q) E { s with heap := h, toks := tk })
    (done : ∀ m₁ news₁ h tk, J its.size m₁ news₁ → Fr h₀ env.locals h m₁ → News h₀ env.locals h news₁ → Q .next { s with heap := h, toks := tk }) :
    wpAny (model prog w) A (pyIter (.ref l)) (fun it s₂ => LoopAtV prog w A h₀ env x body Q E it s₂) E s := by
  have hls : IsTup s.heap l its := ⟨_, (N _ hl).1, rfl, _, rfl⟩
  have hlt : l < s.heap.objs.size := Heap.lt_size (N _ hl).1
  have hne : l ≠ s.heap.objs.size := Nat.ne_of_lt hlt
  refine iter_tuple hls ?_
  refine loopJ J (Walks.tuple hh s.heap.objs.size l hne its) ?_ (next_is_new F) (fun i h st => ?_) (fun b hb => ?_) (fun p hp => Nat.ne_of_lt (Heap.lt_size (N p hp).1))
    ⟨⟨_, Heap.get?_push_size _ rfl, rfl, rfl⟩, ?_⟩ (F.push _) (fun p hp => ⟨Heap.get?_push_of_some _ (N p hp).1, (N p hp).2⟩) h0 ?_ ?_
  · intro hm
    rcases List.mem_cons.mp hm with e | hm
    · exact absurd F.ns.lt (e ▸ Nat.lt_irrefl _)
    · exact (N _ hl).2.1 (List.mem_singleton.mp hm).symm
  · obtain ⟨o, e, _⟩ := st.1
    exact ⟨o, e⟩
  · rcases List.mem_cons.mp hb with e | hb
    · exact .inl e
    · exact .inr (.inr ⟨_, fun i m nx hj => by rw [List.mem_singleton.mp hb]; exact hJl i m nx hj⟩)
  · exact hls.keeps fun b o e => Heap.get?_push_of_some _ e
  · rintro i v m₁ news₁ oI h tk hi hP hJ hne F₁ N₁
    exact turn i v m₁ news₁ _ oI h tk hi hP hJ hne F₁ N₁
  · exact fun m₁ news₁ h tk hJ _ F₁ N₁ => done m₁ news₁ h tk hJ F₁ N₁
end
section
variable {prog : Program} {w : World} {A : Around} {E : Value → Shared → Prop} {s : Shared} {h₀ : Heap} {L D b : Addr} {m : Str → Option Value} {news : List (Addr × Obj)}
theorem led_upd {news' : Obj → List (Addr × Obj)} {o1 o2 : Obj} {h' : Heap} (N : News h₀ L s.heap news) (U : ∀ o, Upd D o1 o news (news' o)) (hk : ∀ c, c ≠ D → h'.get? c = s.heap.get? c) (hD : h'.get? D = some o2) : News h₀ L h' (news' o2) := by
  obtain ⟨pre, post, e1, e2, x1, x2⟩ := (U o2).split
  rw [e2]
  rw [e1] at N
  intro p hq
  rcases List.mem_append.mp hq with hq | hq
  · have y := N p (List.mem_append_left _ hq)
    exact ⟨(hk _ (x1 p hq)).trans y.1, y.2⟩
  · rcases List.mem_cons.mp hq with rfl | hq
    · exact ⟨hD, (N _ (List.mem_append_right _ (.head _))).2⟩
    · have y := N p (List.mem_append_right _ (.tail _ hq))
      exact ⟨(hk _ (x2 p hq)).trans y.1, y.2⟩
/-- a list of the ledger grows by a tuple of the ground -/
theorem extend_row {vs ws : List Value} {n n2 : Nat} {news' : Obj → List (Addr × Obj)} {Q : Value → Shared → Prop} (F : Fr h₀ L s.heap m) (N : News h₀ L s.heap news) (U : ∀ o, Upd D (listOf vs.toArray n) o news (news' o)) (hb : s.heap.get? b = some (tup ws.toArray n2))
    (hz : vs.length + ws.length ≤ 1000) (h : ∀ h' c, Fr h₀ L h' m → News h₀ L h' (news' (listOf (vs ++ ws).toArray c)) → Q .none { s with heap := h' }) : wpAny (model prog w) A (call (.builtin "list.extend") [.ref D, .ref b]) Q E s := by
  have z : s.heap.get? D = some (listOf vs.toArray n) ∧ D ≠ L ∧ h₀.get? D = none := by
    obtain ⟨pre, post, e1, e2, x1, x2⟩ := (U (listOf vs.toArray n)).split
    exact N _ (by rw [e1]; exact List.mem_append_right _ (.head _))
  have hs1 : vs.toArray.size = vs.length := List.size_toArray ..
  have hs2 : ws.toArray.size = ws.length := List.size_toArray ..
  refine call_meets PySem.F.slot_list_extend ⟨_, z.1, rfl⟩ PySem.F.entry_list_extend (PySem.F.args_list_extend_2 _ _) (PySem.AutoSeq1.list_extend_list_tuple_0 D vs.toArray n b ws.toArray n2 ?_ ?_ ?_) ⟨z.1, hb, ?_⟩
  · intro e
    have e2 := (Bool.and_eq_true_iff.mp e).2
    have : Builtin.List.listTooLong (vs.toArray.size + ws.toArray.size) = false := by
      rw [hs1, hs2]
      unfold Builtin.List.listTooLong
      simp only [sizeLine_eq, decide_eq_false_iff_not]
      omega
    rw [this] at e2
    cases e2
  · rw [hs1, sizeLine_eq]; omega
  · rw [hs1, hs2, sizeLine_eq]; omega
  · obtain ⟨c, hc⟩ : ∃ c, (s.heap.update D (Obj.mapSeq fun x => x ++ ws.toArray)).get? D = some (seqObj "list" (vs.toArray ++ ws.toArray) c) := ⟨_, get?_update_seq z.1 _⟩
    refine h _ c (F.change (Heap.SameBut.update ..) z.2.1 z.2.2) (led_upd N U (fun x hx => Heap.get?_update_ne _ _ _ _ hx) ?_)
    rw [show (vs ++ ws).toArray = vs.toArray ++ ws.toArray by simp]
    exact hc
end
section
variable {M : Model} {A : Around} {E : Value → Shared → Prop} {s : Shared} {env : Env}
theorem evalArgs_kw0 {f : Value} {keywords : List (Option Str × Sem Value)} {Q : Args → Shared → Prop} (hall : keywords.all (·.1.isSome) = true)
    (h : wpAny M A (evalAll (keywords.map (·.2))) (fun kvs s₂ => Q ⟨[], (keywords.filterMap (·.1)).zip kvs⟩ s₂) E s) : wpAny M A (evalArgs f true [] keywords) Q E s := by
  unfold evalArgs
  show wpAny M A (spliced [] >>= _) Q E s
  refine wpAny_bind (wpAny_pure (wpAny_bind (wpAny_pure ?_)))
  refine wpAny_holding ?_
  rw [if_pos hall]
  refine wpAny_bind (wpAny_mono h (fun kvs s₂ h₂ => ?_) fun _ _ x => x)
  exact wpAny_bind (wpAny_pure (wpAny_pure h₂))
theorem callWith_kw0 {pos : Pos} {id : String} {first : List Value} {kws : List Keyword} {Q : Value → Shared → Prop}
    (h : wpAny M A (evalAll ((backToKw pos (keywordEach kws env)).map (·.2))) (fun kvs s₂ => wpAny M A (call (.builtin id) first (((backToKw pos (keywordEach kws env)).filterMap (·.1)).zip kvs)) Q E s₂) E s)
    (hall : (backToKw pos (keywordEach kws env)).all (·.1.isSome) = true := by rfl)
    (hkw : (backToKw pos (keywordEach kws env)).any (·.1.isNone) = false := by rfl) :
    wpAny M A (callWith pos (.builtin id) first (backTo pos (starEach [] env)) (backToKw pos (keywordEach kws env))) Q E s := by
  refine callWith_builtin_kwB rfl hkw (evalArgs_kw0 hall (wpAny_mono h (fun kvs s₂ h₂ => ?_) fun _ _ x => x))
  rw [List.append_nil]
  exact h₂
end
end Mine
end

section
namespace Mine
abbrev Ps := List (Int × Int)
def CovM (ps : Ps) (u : Int) : Prop := ∃ p ∈ ps, p.1 ≤ u ∧ u ≤ p.2
def BriM (ps : Ps) (u : Int) : Prop := ∃ p ∈ ps, p.1 ≤ u ∧ u < p.2
structure SepM (ps : Ps) : Prop where
  le : ∀ p ∈ ps, p.1 ≤ p.2
  lt : ps.Pairwise fun a b => a.2 < b.1

theorem covM_app (a b : Ps) (u : Int) : CovM (a ++ b) u ↔ CovM a u ∨ CovM b u := by
  constructor
  · rintro ⟨p, hp, r⟩
    rcases List.mem_append.mp hp with h | h
    · exact .inl ⟨p, h, r⟩
    · exact .inr ⟨p, h, r⟩
  · rintro (⟨p, hp, r⟩ | ⟨p, hp, r⟩)
    · exact ⟨p, List.mem_append_left _ hp, r⟩
    · exact ⟨p, List.mem_append_right _ hp, r⟩
theorem briM_app (a b : Ps) (u : Int) : BriM (a ++ b) u ↔ BriM a u ∨ BriM b u := by
  constructor
  · rintro ⟨p, hp, r⟩
    rcases List.mem_append.mp hp with h | h
    · exact .inl ⟨p, h, r⟩
    · exact .inr ⟨p, h, r⟩
  · rintro (⟨p, hp, r⟩ | ⟨p, hp, r⟩)
    · exact ⟨p, List.mem_append_left _ hp, r⟩
    · exact ⟨p, List.mem_append_right _ hp, r⟩
theorem covM_one (q : Int × Int) (u : Int) : CovM [q] u ↔ q.1 ≤ u ∧ u ≤ q.2 :=
  ⟨fun ⟨p, hp, r⟩ => by rw [List.mem_singleton.mp hp] at r; exact r, fun h => ⟨q, .head _, h⟩⟩
theorem briM_one (q : Int × Int) (u : Int) : BriM [q] u ↔ q.1 ≤ u ∧ u < q.2 :=
  ⟨fun ⟨p, hp, r⟩ => by rw [List.mem_singleton.mp hp] at r; exact r, fun h => ⟨q, .head _, h⟩⟩
theorem covM_cons (q : Int × Int) (b : Ps) (u : Int) : CovM (q :: b) u ↔ (q.1 ≤ u ∧ u ≤ q.2) ∨ CovM b u := by
  rw [show q :: b = [q] ++ b from rfl, covM_app, covM_one]
theorem briM_cons (q : Int × Int) (b : Ps) (u : Int) : BriM (q :: b) u ↔ (q.1 ≤ u ∧ u < q.2) ∨ BriM b u := by
  rw [show q :: b = [q] ++ b from rfl, briM_app, briM_one]

structure Canon (CH CB : Int → Prop) (ps : Ps) : Prop where
  sep : SepM ps
  held : ∀ x, CH x ↔ CovM ps x
  bri : ∀ x, CB x ↔ BriM ps x

theorem canon_uniq_aux : ∀ (a b : Ps), SepM a → SepM b → (∀ x, CovM a x ↔ CovM b x) → (∀ x, BriM a x ↔ BriM b x) → a = b
  | [], [], _, _, _, _ => rfl
  | [], q :: b, _, sb, hc, _ => by
    have h := (hc q.1).mpr ⟨q, .head _, Int.le_refl _, sb.le q (.head _)⟩
    obtain ⟨p, hp, _⟩ := h
    exact nomatch hp
  | q :: a, [], sa, _, hc, _ => by
    have h := (hc q.1).mp ⟨q, .head _, Int.le_refl _, sa.le q (.head _)⟩
    obtain ⟨p, hp, _⟩ := h
    exact nomatch hp
  | p :: a, q :: b, sa, sb, hc, hb => by
    have hp := sa.le p (.head _)
    have hq := sb.le q (.head _)
    have pa := List.pairwise_cons.mp sa.lt
    have pb := List.pairwise_cons.mp sb.lt
    have e1 : p.1 = q.1 := by
      obtain ⟨x, hx, h1, h2⟩ := (hc p.1).mp ⟨p, .head _, Int.le_refl _, hp⟩
      obtain ⟨y, hy, h3, h4⟩ := (hc q.1).mpr ⟨q, .head _, Int.le_refl _, hq⟩
      have a1 : q.1 ≤ x.1 := by
        rcases List.mem_cons.mp hx with e | e
        · rw [e]; exact Int.le_refl _
        · have := pb.1 x e; omega
      have a2 : p.1 ≤ y.1 := by
        rcases List.mem_cons.mp hy with e | e
        · rw [e]; exact Int.le_refl _
        · have := pa.1 y e; omega
      omega
    have e2 : p.2 = q.2 := by
      by_cases h1 : p.2 < q.2
      · obtain ⟨y, hy, h3, h4⟩ := (hb p.2).mpr ⟨q, .head _, by omega, h1⟩
        rcases List.mem_cons.mp hy with e | e
        · rw [e] at h4; omega
        · have := pa.1 y e; omega
      · by_cases h2 : q.2 < p.2
        · obtain ⟨y, hy, h3, h4⟩ := (hb q.2).mp ⟨p, .head _, by omega, h2⟩
          rcases List.mem_cons.mp hy with e | e
          · rw [e] at h4; omega
          · have := pb.1 y e; omega
        · omega
    have e : p = q := Prod.ext e1 e2
    subst e
    have ih := canon_uniq_aux a b ⟨fun x hx => sa.le x (.tail _ hx), pa.2⟩ ⟨fun x hx => sb.le x (.tail _ hx), pb.2⟩
      (fun x => by
        constructor
        · rintro ⟨y, hy, h1, h2⟩
          have := pa.1 y hy
          rcases (covM_cons p b x).mp ((hc x).mp ⟨y, .tail _ hy, h1, h2⟩) with h | h
          · omega
          · exact h
        · rintro ⟨y, hy, h1, h2⟩
          have := pb.1 y hy
          rcases (covM_cons p a x).mp ((hc x).mpr ⟨y, .tail _ hy, h1, h2⟩) with h | h
          · omega
          · exact h)
      (fun x => by
        constructor
        · rintro ⟨y, hy, h1, h2⟩
          have := pa.1 y hy
          rcases (briM_cons p b x).mp ((hb x).mp ⟨y, .tail _ hy, h1, h2⟩) with h | h
          · omega
          · exact h
        · rintro ⟨y, hy, h1, h2⟩
          have := pb.1 y hy
          rcases (briM_cons p a x).mp ((hb x).mpr ⟨y, .tail _ hy, h1, h2⟩) with h | h
          · omega
          · exact h)
    rw [ih]
theorem canon_uniq {CH CB : Int → Prop} {a b : Ps} (ha : Canon CH CB a) (hb : Canon CH CB b) : a = b :=
  canon_uniq_aux a b ha.sep hb.sep (fun x => (ha.held x).symm.trans (hb.held x)) (fun x => (ha.bri x).symm.trans (hb.bri x))

/-- the stretches found so far, up to a point -/
structure Upto (CH CB : Int → Prop) (ps : Ps) (pt : Int) : Prop where
  sep : SepM ps
  below : ∀ p ∈ ps, p.2 < pt
  held : ∀ x, x < pt → (CH x ↔ CovM ps x)
  bri : ∀ x, x < pt → (CB x ↔ BriM ps x)
  len : (ps.length : Int) ≤ pt
theorem Upto.start {CH CB : Int → Prop} (h : ∀ x, CH x → 0 ≤ x) (b : ∀ x, CB x → 0 ≤ x) : Upto CH CB [] 0 :=
  ⟨⟨fun _ h => (nomatch h), .nil⟩, fun _ h => (nomatch h), fun x hx => ⟨fun k => absurd (h x k) (by omega), fun ⟨_, k, _⟩ => (nomatch k)⟩, fun x hx => ⟨fun k => absurd (b x k) (by omega), fun ⟨_, k, _⟩ => (nomatch k)⟩, by simp⟩
theorem Upto.skip {CH CB : Int → Prop} {ps : Ps} {pt : Int} (U : Upto CH CB ps pt) (h : ¬ CH pt) (b : ¬ CB pt) : Upto CH CB ps (pt + 1) := by
  refine ⟨U.sep, fun p hp => by have := U.below p hp; omega, fun x hx => ?_, fun x hx => ?_, by have := U.len; omega⟩
  · by_cases e : x = pt
    · subst e
      refine ⟨fun k => absurd k h, fun ⟨p, hp, h1, h2⟩ => ?_⟩
      have := U.below p hp
      omega
    · exact U.held x (by omega)
  · by_cases e : x = pt
    · subst e
      refine ⟨fun k => absurd k b, fun ⟨p, hp, h1, h2⟩ => ?_⟩
      have := U.below p hp
      omega
    · exact U.bri x (by omega)
theorem Upto.add {CH CB : Int → Prop} {ps : Ps} {pt last : Int} (U : Upto CH CB ps pt) (hl : pt ≤ last) (hb : ∀ x, pt ≤ x → x < last → CB x) (h : CH pt) (hn : ∀ x, CB x → CH (x + 1)) (b : ¬ CB last) : Upto CH CB (ps ++ [(pt, last)]) (last + 1) := by
  refine ⟨⟨fun p hp => ?_, ?_⟩, fun p hp => ?_, fun x hx => ?_, fun x hx => ?_, ?_⟩
  · rcases List.mem_append.mp hp with hp | hp
    · exact U.sep.le p hp
    · rw [List.mem_singleton.mp hp]; exact hl
  · refine List.pairwise_append.mpr ⟨U.sep.lt, List.pairwise_singleton _ _, fun a ha c hc => ?_⟩
    rw [List.mem_singleton.mp hc]
    exact U.below a ha
  · rcases List.mem_append.mp hp with hp | hp
    · have := U.below p hp; omega
    · rw [List.mem_singleton.mp hp]; show last < last + 1; omega
  · rw [covM_app, covM_one]
    by_cases e : x < pt
    · rw [U.held x e]
      constructor
      · exact .inl
      · rintro (k | k)
        · exact k
        · have := k.1; dsimp only at this; omega
    · refine ⟨fun _ => .inr ⟨by show pt ≤ x; omega, by show x ≤ last; omega⟩, fun _ => ?_⟩
      by_cases e2 : x = pt
      · rw [e2]; exact h
      · have := hn (x - 1) (hb (x - 1) (by omega) (by omega))
        rwa [show x - 1 + 1 = x by omega] at this
  · rw [briM_app, briM_one]
    by_cases e : x < pt
    · rw [U.bri x e]
      constructor
      · exact .inl
      · rintro (k | k)
        · exact k
        · have := k.1; dsimp only at this; omega
    · by_cases e2 : x = last
      · subst e2
        refine ⟨fun k => absurd k b, ?_⟩
        rintro (⟨p, hp, h1, h2⟩ | k)
        · have := U.below p hp; omega
        · have := k.2; dsimp only at this; omega
      · refine ⟨fun _ => .inr ⟨by show pt ≤ x; omega, by show x < last; omega⟩, fun _ => hb x (by omega) (by omega)⟩
  · have := U.len
    rw [List.length_append, List.length_singleton]
    omega
theorem Upto.done {CH CB : Int → Prop} {ps : Ps} {pt : Int} (U : Upto CH CB ps pt) (h : ∀ x, CH x → x < pt) (b : ∀ x, CB x → x < pt) : Canon CH CB ps := by
  refine ⟨U.sep, fun x => ?_, fun x => ?_⟩
  · by_cases e : x < pt
    · exact U.held x e
    · refine ⟨fun k => absurd (h x k) e, fun ⟨p, hp, h1, h2⟩ => ?_⟩
      have := U.below p hp
      omega
  · by_cases e : x < pt
    · exact U.bri x e
    · refine ⟨fun k => absurd (b x k) e, fun ⟨p, hp, h1, h2⟩ => ?_⟩
      have := U.below p hp
      omega

/-- merging: what is merged so far of the ranges taken so far -/
structure Mrg (pre : Ps) (init : Ps) (lo hi : Int) : Prop where
  sep : SepM (init ++ [(lo, hi)])
  held : ∀ x, CovM pre x ↔ CovM (init ++ [(lo, hi)]) x
  bri : ∀ x, BriM pre x ↔ BriM (init ++ [(lo, hi)]) x
  len : (init ++ [(lo, hi)]).length ≤ pre.length
  lows : ∀ p ∈ init ++ [(lo, hi)], ∃ q ∈ pre, q.1 = p.1
theorem Mrg.start {p : Int × Int} (h : p.1 ≤ p.2) : Mrg [p] [] p.1 p.2 :=
  ⟨⟨fun q hq => by rw [List.mem_singleton.mp hq]; exact h, List.pairwise_singleton _ _⟩, fun _ => .rfl, fun _ => .rfl, Nat.le_refl _, fun q hq => ⟨p, .head _, by rw [List.mem_singleton.mp hq]⟩⟩
theorem Mrg.join {pre init : Ps} {lo hi : Int} {p : Int × Int} (M : Mrg pre init lo hi) (hp : p.1 ≤ p.2) (hs : ∀ q ∈ pre, q.1 ≤ p.1) (h : p.1 ≤ hi) : Mrg (pre ++ [p]) init lo (max hi p.2) := by
  have hlo : lo ≤ p.1 := by
    obtain ⟨q, hq, e⟩ := M.lows (lo, hi) (List.mem_append_right _ (.head _))
    have := hs q hq
    dsimp only at e
    omega
  have hle := M.sep.le (lo, hi) (List.mem_append_right _ (.head _))
  dsimp only at hle
  obtain ⟨w1, w2, w3⟩ := List.pairwise_append.mp M.sep.lt
  refine ⟨⟨fun q hq => ?_, List.pairwise_append.mpr ⟨w1, List.pairwise_singleton _ _, fun a ha c hc => ?_⟩⟩, fun x => ?_, fun x => ?_, ?_, fun q hq => ?_⟩
  · rcases List.mem_append.mp hq with hq | hq
    · exact M.sep.le q (List.mem_append_left _ hq)
    · rw [List.mem_singleton.mp hq]; show lo ≤ max hi p.2; omega
  · rw [List.mem_singleton.mp hc]
    exact w3 a ha (lo, hi) (.head _)
  · rw [covM_app, covM_one, M.held x, covM_app, covM_app, covM_one, covM_one]
    dsimp only
    constructor
    · rintro ((k | k) | k)
      · exact .inl k
      · right; omega
      · right; omega
    · rintro (k | k)
      · exact .inl (.inl k)
      · by_cases e : x ≤ hi
        · left; right; omega
        · right; omega
  · rw [briM_app, briM_one, M.bri x, briM_app, briM_app, briM_one, briM_one]
    dsimp only
    constructor
    · rintro ((k | k) | k)
      · exact .inl k
      · right; omega
      · right; omega
    · rintro (k | k)
      · exact .inl (.inl k)
      · by_cases e : x < hi
        · left; right; omega
        · right; omega
  · have := M.len
    simp only [List.length_append, List.length_singleton] at this ⊢
    omega
  · rcases List.mem_append.mp hq with hq | hq
    · obtain ⟨z, hz, e⟩ := M.lows q (List.mem_append_left _ hq)
      exact ⟨z, List.mem_append_left _ hz, e⟩
    · rw [List.mem_singleton.mp hq]
      obtain ⟨z, hz, e⟩ := M.lows (lo, hi) (List.mem_append_right _ (.head _))
      exact ⟨z, List.mem_append_left _ hz, e⟩
theorem Mrg.apart {pre init : Ps} {lo hi : Int} {p : Int × Int} (M : Mrg pre init lo hi) (hp : p.1 ≤ p.2) (h : ¬ p.1 ≤ hi) : Mrg (pre ++ [p]) (init ++ [(lo, hi)]) p.1 p.2 := by
  obtain ⟨w1, w2, w3⟩ := List.pairwise_append.mp M.sep.lt
  refine ⟨⟨fun q hq => ?_, List.pairwise_append.mpr ⟨M.sep.lt, List.pairwise_singleton _ _, fun a ha c hc => ?_⟩⟩, fun x => ?_, fun x => ?_, ?_, fun q hq => ?_⟩
  · rcases List.mem_append.mp hq with hq | hq
    · exact M.sep.le q hq
    · rw [List.mem_singleton.mp hq]; exact hp
  · rw [List.mem_singleton.mp hc]
    show a.2 < p.1
    rcases List.mem_append.mp ha with ha | ha
    · have h1 := w3 a ha (lo, hi) (.head _)
      have h2 := M.sep.le (lo, hi) (List.mem_append_right _ (.head _))
      dsimp only at h1 h2
      omega
    · rw [List.mem_singleton.mp ha]; show hi < p.1; omega
  · rw [covM_app, covM_app (init ++ [(lo, hi)]), M.held x]
  · rw [briM_app, briM_app (init ++ [(lo, hi)]), M.bri x]
  · have := M.len
    simp only [List.length_append, List.length_singleton] at this ⊢
    omega
  · rcases List.mem_append.mp hq with hq | hq
    · obtain ⟨z, hz, e⟩ := M.lows q hq
      exact ⟨z, List.mem_append_left _ hz, e⟩
    · exact ⟨p, List.mem_append_right _ (.head _), by rw [List.mem_singleton.mp hq]⟩
end Mine
end

section
open PySem PySem.W PyProof.Rows PySem.Calls
set_option Elab.async false
set_option maxRecDepth 100000
set_option maxHeartbeats 8000000
set_option pp.deepTerms false
set_option pp.proofs false
namespace Mine
local macro_rules | `(tactic| walk_at "MINE enter") => `(tactic| k_dflt (
  refine' call_part ?k1 ?k2 ?k3 ?k4 ?k5 ?kA ?kF ?kK ?k6 ?k7 ?k8 ?k9 ?kB ?_ ?c2 ?c3 ?c4 ?c5; (case kA => exact rfl); (case kF => exact rfl); (case kK => assumption); (case k1 => k_asm); (case k2 => k_asm); (case k3 => k_asm); (case k4 => k_asm); (case k5 => k_asm); (case k6 => k_is); (case k7 => k_is); (case k8 => ktr_room); (case k9 => exact BindsTo.of_eq rfl); (case c5 => decide); (case kB => exact locs rfl); (case c2 => exact rfl); (case c3 => exact rfl); (case c4 => exact rfl); k_whole))
local macro_rules | `(tactic| units_room) => `(tactic| ((have hcL9 := cLine_is); (simp only [units_in1, units_deeper, Around.mark_units] at *); (try dsimp only [ktrTop] at *); omega))
local macro_rules | `(tactic| walk_at "call builtin:list.pop") => `(tactic| (k_here; (with_reducible show wpAny _ _ (call (Value.builtin _) [Value.ref _, Value.int _ _]) _ _ _); k_dflt (refine' pop0 ?F ?N ?U ?z ?_; (case F => k_asm); (case N => k_asm); (case U => k_upd); (case z => omega)); (intro h' F' N')))

theorem take_spec (w : World) (d l : Addr) (hdl : @Ne Nat d l) (vs : List Value) (ns : List Int) (sd : Int) (t : Tok) (n1 n2 : Nat) (many : Int) (tm : Tok)
    (hi : IntsAre vs ns) (hlen : ns.length ≤ 63) (hs0 : 0 ≤ sd) (hs1 : sd < 2147483647) (hm0 : 0 < many) (hm1 : many < 1000) :
    Ctr w 40 1 [.ref d, .int many tm] [(d, listOf #[.ref l, .int sd t] n1), (l, listOf vs.toArray n2)] (fun _ => True)
      (fun r _ A' => ∃ k tk vs' ns' sd' t' n1' n2', r = .int k tk ∧ A' = [(d, listOf #[.ref l, .int sd' t'] n1'), (l, listOf vs'.toArray n2')] ∧ IntsAre vs' ns' ∧ ns'.length ≤ 63 ∧ 0 ≤ sd' ∧ sd' < 2147483647 ∧ 0 ≤ k ∧ k < many) := by
  unfold Ctr
  w_top off
  k_fill
  intro mean mg mb dp un gd cn cs L a ccd cl outer A₀ base h₀ m s Q E B F X N T hk hpre hd hu hret
  refine wpAny_call ?_
  walk_at "MINE enter"
  intro g L' h₁ FG F' N' B' X' T' hG hL'
  try dsimp only
  k_fold
  cases hi with
  | nil =>
    k_steps
    rename News h₀ L _ _ => kN
    rename Fr g L' _ _ => F'
    refine hret _ _ _ [(d, _), (l, _)] (by assumption) (cb_drop kN (by kcf_all)) (kept_of hG F' (cb_drop (by assumption : News g L' _ _) (by kcf_all))) ⟨_, _, [], [], _, _, _, _, rfl, rfl, .nil, by simp, fmod_nn _ (by omega), fmod_lt _ (by omega), fmod_nn _ (by omega), fmod_lt _ (by omega)⟩
  | @cons k tk0 vs' ns' hi' =>
    have hvl := hi'.length
    simp only [List.length_cons] at hlen
    k_steps
    all_goals try (rename decide (_ = _) = true => hx; exact absurd (of_decide_eq_true hx) (List.cons_ne_nil _ _))
    rename News h₀ L _ _ => kN
    rename Fr g L' _ _ => F'
    refine hret _ _ _ [(d, _), (l, _)] (by assumption) (cb_drop kN (by kcf_all)) (kept_of hG F' (cb_drop (by assumption : News g L' _ _) (by kcf_all))) ⟨_, _, vs', ns', _, _, _, _, rfl, rfl, hi', by omega, hs0, hs1, fmod_nn _ (by omega), fmod_lt _ (by omega)⟩
end Mine
end

section
open PySem PySem.W PyProof.Rows PySem.Calls
set_option Elab.async false
set_option maxRecDepth 100000
set_option maxHeartbeats 8000000
set_option pp.deepTerms false
set_option pp.proofs false
namespace Mine
local macro_rules | `(tactic| walk_at "MINE none") => `(tactic| skip)
local macro_rules | `(tactic| walk_at "MINE enter") => `(tactic| k_dflt (
  refine' call_part ?k1 ?k2 ?k3 ?k4 ?k5 ?kA ?kF ?kK ?k6 ?k7 ?k8 ?k9 ?kB ?_ ?c2 ?c3 ?c4 ?c5; (case kA => exact rfl); (case kF => exact rfl); (case kK => assumption); (case k1 => k_asm); (case k2 => k_asm); (case k3 => k_asm); (case k4 => k_asm); (case k5 => k_asm); (case k6 => k_is); (case k7 => k_is); (case k8 => ktr_room); (case k9 => exact BindsTo.of_eq rfl); (case c5 => decide); (case kB => exact locs rfl); (case c2 => exact rfl); (case c3 => exact rfl); (case c4 => exact rfl); k_whole))
local macro_rules | `(tactic| units_room) => `(tactic| ((have hcL9 := cLine_is); (simp only [units_in1, units_deeper, Around.mark_units] at *); (try dsimp only [ktrTop] at *); omega))
local macro_rules | `(tactic| walk_at "call builtin:list.pop") => `(tactic| (k_here; (with_reducible show wpAny _ _ (call (Value.builtin _) [Value.ref _, Value.int _ _]) _ _ _); k_dflt (refine' pop0 ?F ?N ?U ?z ?_; (case F => k_asm); (case N => k_asm); (case U => k_upd); (case z => omega)); (intro h' F' N')))
theorem take_c (w : World) (d l : Addr) (hdl : @Ne Nat d l) (vs : List Value) (sd : Int) (t : Tok) (n1 n2 : Nat) (many : Int) (tm : Tok) (ok : DrawOk vs sd) (hm0 : 0 < many) (hm1 : many < 1000) :
    Ctr w 40 1 [.ref d, .int many tm] (drawL d l vs sd t n1 n2) (fun _ => True)
      (fun r _ A' => ∃ k tk vs' sd' t' n1' n2', r = .int k tk ∧ A' = drawL d l vs' sd' t' n1' n2' ∧ DrawOk vs' sd' ∧ 0 ≤ k ∧ k < many) := by
  obtain ⟨⟨ns, hi, hlen⟩, lo, hi'⟩ := ok
  refine (take_spec w d l hdl vs ns sd t n1 n2 many tm hi hlen lo hi' hm0 hm1).post ?_
  rintro r g B ⟨k, tk, vs', ns', sd', t', n1', n2', e, e', a, b, c, c', x, y⟩
  exact ⟨k, tk, vs', sd', t', n1', n2', e, e', ⟨⟨ns', a, b⟩, c, c'⟩, x, y⟩
end Mine
end

section
open PySem PySem.W PyProof.Rows PySem.Calls
set_option Elab.async false
set_option maxRecDepth 100000
set_option maxHeartbeats 8000000
set_option pp.deepTerms false
set_option pp.proofs false
namespace Mine
local macro_rules | `(tactic| walk_at "MINE enter") => `(tactic| k_dflt (
  refine' call_part ?k1 ?k2 ?k3 ?k4 ?k5 ?kA ?kF ?kK ?k6 ?k7 ?k8 ?k9 ?kB ?_ ?c2 ?c3 ?c4 ?c5; (case kA => exact rfl); (case kF => exact rfl); (case kK => assumption); (case k1 => k_asm); (case k2 => k_asm); (case k3 => k_asm); (case k4 => k_asm); (case k5 => k_asm); (case k6 => k_is); (case k7 => k_is); (case k8 => ktr_room); (case k9 => exact BindsTo.of_eq rfl); (case c5 => decide); (case kB => exact locs rfl); (case c2 => exact rfl); (case c3 => exact rfl); (case c4 => exact rfl); k_whole))
local macro_rules | `(tactic| units_room) => `(tactic| ((have hcL9 := cLine_is); (simp only [units_in1, units_deeper, Around.mark_units] at *); (try dsimp only [ktrTop] at *); omega))
local macro_rules | `(tactic| walk_at "call builtin:list.pop") => `(tactic| (k_here; (with_reducible show wpAny _ _ (call (Value.builtin _) [Value.ref _, Value.int _ _]) _ _ _); k_dflt (refine' pop0 ?F ?N ?U ?z ?_; (case F => k_asm); (case N => k_asm); (case U => k_upd); (case z => omega)); (intro h' F' N')))
local macro_rules | `(tactic| walk_at "call ref") => `(tactic| (k_here; (with_reducible show wpAny _ _ (call (Value.ref _) _) _ _ _); refine Stop.go ?_))
local macro_rules | `(tactic| walk_at "pyIter ref") => `(tactic| ((with_reducible show wpAny _ _ (pyIter (Value.ref _)) (fun it s₂ => LoopAtV _ _ _ _ _ _ _ _ _ it s₂) _ _); refine Stop.go ?_))
local macro_rules | `(tactic| walk_at "subscriptTail Name Constant ref int") => `(tactic| (k_here; k_dflt (refine' sub_led ?k1 ?k2 ?k3 ?k4 ?k5 ?_ ?k6; (case k1 => k_asm); (case k2 => k_mem); (case k3 => decide); (case k4 => decide); (case k5 => rfl); (case k6 => with_unfolding_all rfl); k_whole)))
local macro_rules | `(tactic| walk_at "MINE off") => `(tactic| first | exact List.forall_mem_nil _ | exact off_own (by assumption) (by k_allIn) | exact OwnOff.ne (by assumption) (by k_memK) | (refine List.forall_mem_cons.mpr ⟨?_, ?_⟩ <;> walk_at "MINE off") | k_ne)
local macro_rules | `(tactic| walk_at "call type:range") => `(tactic| (k_here; k_dflt (first
  | (refine' range1' ?k1 ?k2 ?_; (case k1 => k_asm); (case k2 => k_asm); k_whole)
  | (refine' range2' ?k1 ?k2 ?_; (case k1 => k_asm); (case k2 => k_asm); k_whole)); intro r' h' tk' t1' u1' v1' hR' F' N'; (try k_sweep)))
local macro_rules | `(tactic| walk_at "call builtin:list.append cons cons nil") => `(tactic| (k_here; (with_reducible show wpAny _ _ (call (Value.builtin _) [Value.ref _, _]) _ _ _); k_dflt (refine' append_of ?k1 ?k2 ?k3 ?z ?_; (case k1 => k_asm); (case k2 => k_asm); (case k3 => k_upd); (case z => omega); k_whole); intro h' F' N'; (try k_sweep)))
local macro_rules | `(tactic| walk_at "call builtin:list.append") => `(tactic| (k_here; (with_reducible show wpAny _ _ (call (Value.builtin _) [Value.ref _, _]) _ _ _); k_dflt (refine' append_of ?k1 ?k2 ?k3 ?z ?_; (case k1 => k_asm); (case k2 => k_asm); (case k3 => k_upd); (case z => omega); k_whole); intro h' F' N'; (try k_sweep)))
local macro_rules | `(tactic| walk_at "call type:tuple") => `(tactic| (k_here; (with_reducible show wpAny _ _ (call (Value.type _) [Value.ref _]) _ _ _); k_dflt (refine' tuple_of ?k1 ?k2 ?k3 ?k4 ?_; (case k1 => k_asm); (case k2 => k_asm); (case k3 => k_mem); (case k4 => omega); k_whole); intro D' h' F' N' l1'; (try k_lt l1'); (try k_sweep)))

def RowJ (d l row : Addr) (i : Nat) (m : Str → Option Value) (nx : List (Addr × Obj)) : Prop :=
  ∃ lv tl sd t n1 n2 vs rv nr tups ps, (∀ p ∈ [(Str.ofString "draw", Value.ref d), (Str.ofString "row", Value.ref row), (Str.ofString "low", Value.int lv tl)], m p.1 = some p.2) ∧
    nx = (d, listOf #[.ref l, .int sd t] n1) :: (l, listOf (List.toArray vs) n2) :: (row, listOf (List.toArray rv) nr) :: tups ∧ DrawOk vs sd ∧
    0 ≤ lv ∧ lv ≤ 7 + 4 * (i : Int) ∧ ps.length = i ∧ Each (PairIn tups) rv ps ∧ (∀ p ∈ ps, 0 ≤ p.1 ∧ p.1 ≤ p.2 ∧ p.2 ≤ 40) ∧ OwnOff tups [d, l, row]

theorem row_spec (w : World) (d l : Addr) (hdl : @Ne Nat d l) (vs : List Value) (sd : Int) (t : Tok) (n1 n2 : Nat) (ok : DrawOk vs sd) :
    Ctr w 47 2 [.ref d] (drawL d l vs sd t n1 n2) (fun _ => True)
      (fun r _ A' => ∃ vs' sd' t' n1' n2' tl ps, A' = drawL d l vs' sd' t' n1' n2' ++ tl ∧ DrawOk vs' sd' ∧ OwnOff tl [d, l] ∧ RowIn tl r ps ∧ ps.length ≤ 5 ∧ ∀ p ∈ ps, 0 ≤ p.1 ∧ p.1 ≤ p.2 ∧ p.2 ≤ 40) := by
  unfold Ctr
  w_top off
  k_fill
  intro mean mg mb dp un gd cn cs L a ccd cl outer A₀ base h₀ m s Q E B F X N T hk hpre hd hu hret
  have hcL := cLine_is
  refine wpAny_call ?_
  walk_at "MINE enter"
  intro g L' h₁ FG F' N' B' X' T' hG hL'
  try dsimp only
  k_fold
  k_steps
  rename_i tk0 row h2 l1 h3 F2 N2
  refine Stop.of ?_
  refine ctr_use (dp := dp + 1) (un := un + 3) (take_c w d l hdl _ _ _ _ _ 6 _ ok (by decide) (by decide)) [(row, _)] (by k_asm) (by k_asm) (by k_asm) (by k_asm) (by k_asm) rfl (by kcf_all) (by kcf_all) (by walk_at "MINE off") trivial (by omega) (by omega) ?_
  intro r h3 tk3 A3 F3 N3 hA3 hoff3 ⟨many, tkm, vs3, sd3, t3, n13, n23, e1, e2, ok3, hm0, hm1⟩
  subst e1 e2
  clear hA3 hoff3 F2 N2
  dsimp only [drawL, List.cons_append, List.nil_append] at N3
  k_steps
  refine Stop.of ?_
  refine ctr_use (dp := dp + 1) (un := un + 3) (take_c w d l hdl _ _ _ _ _ 8 _ ok3 (by decide) (by decide)) [(row, _)] (by k_asm) (by k_asm) (by k_asm) (by k_asm) (by k_asm) rfl (by kcf_all) (by kcf_all) (by walk_at "MINE off") trivial (by omega) (by omega) ?_
  intro r h4 tk4 A4 F4 N4 hA4 hoff4 ⟨low, tkl, vs4, sd4, t4, n14, n24, e1, e2, ok4, hl0, hl1⟩
  subst e1 e2
  clear hA4 hoff4 ok3
  dsimp only [drawL, List.cons_append, List.nil_append] at N4
  k_steps
  refine Stop.of ?_
  rename IsRange _ _ _ _ _ _ _ _ => hR
  refine loopJ_range (RowJ d l row) rfl hR (small_one (by decide) (by decide) (by omega) (by omega)) (rangeSize_nat _ _) (by k_asm) (by k_asm) ?h0 ?turn ?done
  case h0 =>
    refine ⟨low, tkl, sd4, t4, n14, n24, vs4, [], _, [], [], ?_, rfl, ok4, hl0, by omega, rfl, .nil, fun _ h => (nomatch h), own_nil⟩
    exact List.forall_mem_cons.mpr ⟨rfl, List.forall_mem_cons.mpr ⟨rfl, List.forall_mem_cons.mpr ⟨rfl, List.forall_mem_nil _⟩⟩⟩
  case turn =>
    rintro i tt m₁ nx I oI h tk hi ⟨lv, tl, sd5, t5, n15, n25, vs5, rv, nr, tups, ps, hm, rfl, ok5, hlv0, hlv1, hps, hE, hP, ho⟩ hne F₁ N₁
    rw [← over_eq hm] at F₁
    change Fr g L' h _ at F₁
    change News g L' h _ at N₁
    obtain ⟨hd, hne⟩ := List.forall_mem_cons.mp hne
    obtain ⟨hl, hne⟩ := List.forall_mem_cons.mp hne
    obtain ⟨hr, hne⟩ := List.forall_mem_cons.mp hne
    dsimp only at hd hl hr
    replace ho := own_more ho hne
    have hrl := hE.length
    clear hm hne
    k_unmd
    k_fold
    k_steps
    refine Stop.of ?_
    refine ctr_use (dp := dp + 1) (un := un + 3) (take_c w d l hdl _ _ _ _ _ 7 _ ok5 (by decide) (by decide)) ((I, oI) :: (row, listOf (List.toArray rv) nr) :: tups) (by k_asm) (by k_asm) (by k_asm) (by k_asm) (by k_asm) rfl (by kcf_all) (by kcf_all) (by walk_at "MINE off") trivial (by omega) (by omega) ?_
    intro r h6 tk6 A6 F6 N6 hA6 hoff6 ⟨k6, tkk, vs6, sd6, t6, n16, n26, e1, e2, ok6, hk0, hk1⟩
    subst e1 e2
    clear hA6 hoff6 ok5
    dsimp only [drawL, List.cons_append, List.nil_append] at N6
    k_steps
    rename_i h7 D7 h8 l7 h9 F9 N9
    have hD := own_more ho (allLt_ne l7.2.2.2.2)
    refine Stop.of ?_
    refine ctr_use (dp := dp + 1) (un := un + 3) (take_c w d l hdl _ _ _ _ _ 5 _ ok6 (by decide) (by decide)) ((I, oI) :: (row, listOf (List.toArray (rv ++ [Value.ref D7])) (nr + 1)) :: (D7, tup #[.int lv tl, .int (lv + k6) tk6] 0) :: tups) (by k_asm) (by k_asm) (by k_asm) (by k_asm) (by k_asm) rfl (by kcf_all) (by kcf_all) (by walk_at "MINE off") trivial (by omega) (by omega) ?_
    intro r hA tkA AA FA NA hAA hoffA ⟨kA, tkkA, vsA, sdA, tA, n1A, n2A, e1, e2, okA, hkA0, hkA1⟩
    subst e1 e2
    clear hAA hoffA ok6
    dsimp only [drawL, List.cons_append, List.nil_append] at NA
    k_steps
    show TurnTo _ _ _ _ _ _ _
    rename Fr g L' _ _ => FZ
    rename News g L' _ _ => NZ
    refine TurnTo.intro FZ NZ ((d, listOf #[.ref l, .int sdA tA] n1A) :: (l, listOf vsA.toArray n2A) :: (row, listOf (rv ++ [Value.ref D7]).toArray (nr + 1)) :: (D7, tup #[.int lv tl, .int (lv + k6) tk6] 0) :: tups) (by kcf_all) (by walk_at "MINE off")
      ⟨lv + kA, _, sdA, tA, n1A, n2A, vsA, rv ++ [Value.ref D7], nr + 1, (D7, tup #[.int lv tl, .int (lv + k6) tk6] 0) :: tups, ps ++ [(lv, lv + k6)], List.forall_mem_cons.mpr ⟨rfl, List.forall_mem_cons.mpr ⟨rfl, List.forall_mem_cons.mpr ⟨rfl, List.forall_mem_nil _⟩⟩⟩, rfl, okA, by omega, by omega, by simp [hps], (pairs_tl hE).snoc ⟨⟨D7, tl, tk6, 0, rfl, .head _⟩⟩, ?_, own_cons (own_less hD (by kcf_all)) (by walk_at "MINE off")⟩
    · intro p hp
      rcases List.mem_append.mp hp with hp | hp
      · exact hP p hp
      · rw [List.mem_singleton.mp hp]
        dsimp only
        omega
  case done =>
    rintro m₁ nx h tk ⟨lv, tl, sd5, t5, n15, n25, vs5, rv, nr, tups, ps, hm, rfl, ok5, hlv0, hlv1, hps, hE, hP, ho⟩ F₁ N₁
    rw [← over_eq hm] at F₁
    change Fr g L' h _ at F₁
    change News g L' h _ at N₁
    have hrl := hE.length
    k_steps
    rename_i D9 h9 F9 N9 l9 kF kN Tc kX
    refine hret _ _ _ (drawL d l vs5 sd5 t5 n15 n25 ++ ((D9, tup rv.toArray 0) :: tups)) kF (cb_drop kN (by kcf_all)) (kept_of hG F9 (cb_drop N9 (by kcf_all))) ⟨vs5, sd5, t5, n15, n25, _, ps, rfl, ok5, own_cons (own_less ho (by kcf_all)) (by walk_at "MINE off"), ⟨⟨D9, rv, 0, rfl, .head _, pairs_tl hE⟩⟩, by omega, hP⟩
end Mine
end

section
open PySem PySem.W PyProof.Rows PySem.Calls
set_option Elab.async false
set_option maxRecDepth 100000
set_option maxHeartbeats 8000000
set_option pp.deepTerms false
set_option pp.proofs false
namespace Mine
local macro_rules | `(tactic| walk_at "MINE enter") => `(tactic| k_dflt (
  refine' call_part ?k1 ?k2 ?k3 ?k4 ?k5 ?kA ?kF ?kK ?k6 ?k7 ?k8 ?k9 ?kB ?_ ?c2 ?c3 ?c4 ?c5; (case kA => exact rfl); (case kF => exact rfl); (case kK => assumption); (case k1 => k_asm); (case k2 => k_asm); (case k3 => k_asm); (case k4 => k_asm); (case k5 => k_asm); (case k6 => k_is); (case k7 => k_is); (case k8 => ktr_room); (case k9 => exact BindsTo.of_eq rfl); (case c5 => decide); (case kB => exact locs rfl); (case c2 => exact rfl); (case c3 => exact rfl); (case c4 => exact rfl); k_whole))
local macro_rules | `(tactic| units_room) => `(tactic| ((have hcL9 := cLine_is); (simp only [units_in1, units_deeper, Around.mark_units] at *); (try dsimp only [ktrTop] at *); omega))
local macro_rules | `(tactic| walk_at "call builtin:list.pop") => `(tactic| (k_here; (with_reducible show wpAny _ _ (call (Value.builtin _) [Value.ref _, Value.int _ _]) _ _ _); k_dflt (refine' pop0 ?F ?N ?U ?z ?_; (case F => k_asm); (case N => k_asm); (case U => k_upd); (case z => omega)); (intro h' F' N')))
local macro_rules | `(tactic| walk_at "call ref") => `(tactic| (k_here; (with_reducible show wpAny _ _ (call (Value.ref _) _) _ _ _); refine Stop.go ?_))
local macro_rules | `(tactic| walk_at "pyIter ref") => `(tactic| ((with_reducible show wpAny _ _ (pyIter (Value.ref _)) (fun it s₂ => LoopAtV _ _ _ _ _ _ _ _ _ it s₂) _ _); refine Stop.go ?_))
local macro_rules | `(tactic| walk_at "MINE at") => `(tactic| first
  | assumption
  | exact PairAt.keeps (Fr.keep (by k_asm)) (by assumption)
  | exact RowAt.keeps (Fr.keep (by k_asm)) (by assumption)
  | exact BoolList.keeps (Fr.keep (by k_asm)) (by assumption)
  | exact PairIn.at (by k_asm) (by assumption)
  | exact RowIn.at (by k_asm) (by assumption)
  | exact BoolIn.at (by k_asm) (by assumption))
local macro_rules | `(tactic| walk_at "MINE num") => `(tactic| first | omega | ((repeat (rename decide _ = true => hx9; replace hx9 := of_decide_eq_true hx9)); (repeat (rename decide _ = false => hx9; replace hx9 := of_decide_eq_false hx9)); omega))
local macro_rules | `(tactic| walk_at "MINE sub") => `(tactic| (k_here; (with_reducible show wpAny _ _ (subscriptTail _ _ (Value.ref _) (Value.int _ _)) _ _ _); k_dflt (first
  | (refine' sub_led ?k1 ?k2 ?k3 ?k4 ?k5 ?_ ?k6; (case k1 => k_asm); (case k2 => k_mem); (case k3 => decide); (case k4 => decide); (case k5 => rfl); (case k6 => with_unfolding_all rfl); k_whole)
  | ((with_reducible show wpAny _ _ (subscriptTail _ _ (Value.ref _) (Value.int 0 _)) _ _ _); refine' sub_pair0 ?k1 ?_ ?k6 ?k7; (case k1 => walk_at "MINE at"); (case k6 => with_unfolding_all rfl); (case k7 => (intro _; with_unfolding_all rfl)); k_whole; intro t')
  | ((with_reducible show wpAny _ _ (subscriptTail _ _ (Value.ref _) (Value.int 1 _)) _ _ _); refine' sub_pair1 ?k1 ?_ ?k6 ?k7; (case k1 => walk_at "MINE at"); (case k6 => with_unfolding_all rfl); (case k7 => (intro _; with_unfolding_all rfl)); k_whole; intro t')
  | (refine' sub_row ?k1 ?k2 ?k3 ?k4 ?_ ?k6 ?k7; (case k1 => walk_at "MINE at"); (case k2 => walk_at "MINE num"); (case k3 => walk_at "MINE num"); (case k4 => walk_at "MINE num"); (case k6 => with_unfolding_all rfl); (case k7 => (intro _; with_unfolding_all rfl)); k_whole; intro a' hp')
  | (refine' sub_bools ?k1 ?k2 ?k3 ?k4 ?_ ?k6; (case k1 => walk_at "MINE at"); (case k2 => walk_at "MINE num"); (case k3 => walk_at "MINE num"); (case k4 => walk_at "MINE num"); (case k6 => with_unfolding_all rfl); k_whole))))
local macro_rules | `(tactic| walk_at "subscriptTail Name Constant ref int") => `(tactic| walk_at "MINE sub")
local macro_rules | `(tactic| walk_at "subscriptTail Name Name ref int") => `(tactic| walk_at "MINE sub")
local macro_rules | `(tactic| walk_at "subscriptTail Subscript Name Constant Constant ref int") => `(tactic| walk_at "MINE sub")
local macro_rules | `(tactic| walk_at "subscriptTail Subscript Name Name Constant ref int") => `(tactic| walk_at "MINE sub")
local macro_rules | `(tactic| walk_at "call builtin:len cons nil") => `(tactic| (k_here; k_dflt (refine' len_row ?k1 ?k2 ?_; (case k1 => walk_at "MINE at"); (case k2 => walk_at "MINE num"); k_whole)))
local macro_rules | `(tactic| walk_at "exec While") => `(tactic| (k_here; refine Stop.go ?_))
local macro_rules | `(tactic| walk_at "exec While Compare cons nil") => `(tactic| (k_here; refine Stop.go ?_))
local macro_rules | `(tactic| walk_at "MINE off") => `(tactic| first | exact List.forall_mem_nil _ | exact off_own (by assumption) (by k_allIn) | exact OwnOff.ne (by assumption) (by k_memK) | (refine List.forall_mem_cons.mpr ⟨?_, ?_⟩ <;> walk_at "MINE off") | k_ne)
local macro_rules | `(tactic| walk_at "call type:range") => `(tactic| (k_here; k_dflt (first
  | (refine' range1' ?k1 ?k2 ?_; (case k1 => k_asm); (case k2 => k_asm); k_whole)
  | (refine' range2' ?k1 ?k2 ?_; (case k1 => k_asm); (case k2 => k_asm); k_whole)); intro r' h' tk' t1' u1' v1' hR' F' N'; (try k_sweep)))
local macro_rules | `(tactic| walk_at "call builtin:list.append cons cons nil") => `(tactic| (k_here; (with_reducible show wpAny _ _ (call (Value.builtin _) [Value.ref _, _]) _ _ _); k_dflt (refine' append_of ?k1 ?k2 ?k3 ?z ?_; (case k1 => k_asm); (case k2 => k_asm); (case k3 => k_upd); (case z => omega); k_whole); intro h' F' N'; (try k_sweep)))
local macro_rules | `(tactic| walk_at "call builtin:list.append") => `(tactic| (k_here; (with_reducible show wpAny _ _ (call (Value.builtin _) [Value.ref _, _]) _ _ _); k_dflt (refine' append_of ?k1 ?k2 ?k3 ?z ?_; (case k1 => k_asm); (case k2 => k_asm); (case k3 => k_upd); (case z => omega); k_whole); intro h' F' N'; (try k_sweep)))
local macro_rules | `(tactic| walk_at "call type:tuple") => `(tactic| (k_here; (with_reducible show wpAny _ _ (call (Value.type _) [Value.ref _]) _ _ _); k_dflt (refine' tuple_of ?k1 ?k2 ?k3 ?k4 ?_; (case k1 => k_asm); (case k2 => k_asm); (case k3 => k_mem); (case k4 => omega); k_whole); intro D' h' F' N' l1'; (try k_lt l1'); (try k_sweep)))

theorem holds_spec (w : World) (hl : Addr) (bs : List Bool) (p : Int) (t : Tok) (hlen : bs.length = 44) :
    Ctr w 75 1 [.ref hl, .int p t] [] (fun h => BoolList h hl bs)
      (fun r _ A' => A' = [] ∧ ∃ z tk, r = .int z tk ∧ ((z = 1 ∧ 0 ≤ p ∧ p < 44 ∧ bs.getD p.toNat false = true) ∨ (z = 0 ∧ ¬ (0 ≤ p ∧ p < 44 ∧ bs.getD p.toNat false = true)))) := by
  unfold Ctr
  w_top off
  k_fill
  intro mean mg mb dp un gd cn cs L a ccd cl outer A₀ base h₀ m s Q E B F X N T hk hpre hd hu hret
  have hcL := cLine_is
  refine wpAny_call ?_
  walk_at "MINE enter"
  intro g L' h₁ FG F' N' B' X' T' hG hL'
  generalize s.toks + List.length _ = tk00
  try dsimp only
  k_fold
  have HB : BoolList g hl bs := BoolList.keeps (fun b o e => hG b o e (by simp)) hpre
  k_steps
  all_goals (try dsimp only)
  all_goals (
    rename Fr h₀ L _ _ => kF
    rename News h₀ L _ _ => kN
    rename Fr g L' _ _ => F9
    rename News g L' _ _ => N9
    refine hret _ _ _ [] kF kN (kept_of hG F9 N9) ⟨rfl, _, _, rfl, ?_⟩
    first
    | exact .inl ⟨rfl, by assumption, by assumption, by assumption⟩
    | (refine .inr ⟨rfl, fun hc => ?_⟩; obtain ⟨c1, c2, c3⟩ := hc; first | omega | contradiction | (rename _ = false => e9; rw [c3] at e9; cases e9) | (rename _ = true => e9; exact absurd e9 (by simp [c1, c2, c3]))))

end Mine
end

section
open PySem PySem.W PyProof.Rows PySem.Calls
set_option Elab.async false
set_option maxRecDepth 100000
set_option maxHeartbeats 8000000
set_option pp.deepTerms false
set_option pp.proofs false
namespace Mine
local macro_rules | `(tactic| walk_at "MINE enter") => `(tactic| k_dflt (
  refine' call_part ?k1 ?k2 ?k3 ?k4 ?k5 ?kA ?kF ?kK ?k6 ?k7 ?k8 ?k9 ?kB ?_ ?c2 ?c3 ?c4 ?c5; (case kA => exact rfl); (case kF => exact rfl); (case kK => assumption); (case k1 => k_asm); (case k2 => k_asm); (case k3 => k_asm); (case k4 => k_asm); (case k5 => k_asm); (case k6 => k_is); (case k7 => k_is); (case k8 => ktr_room); (case k9 => exact BindsTo.of_eq rfl); (case c5 => decide); (case kB => exact locs rfl); (case c2 => exact rfl); (case c3 => exact rfl); (case c4 => exact rfl); k_whole))
local macro_rules | `(tactic| units_room) => `(tactic| ((have hcL9 := cLine_is); (simp only [units_in1, units_deeper, Around.mark_units] at *); (try dsimp only [ktrTop] at *); omega))
local macro_rules | `(tactic| walk_at "call builtin:list.pop") => `(tactic| (k_here; (with_reducible show wpAny _ _ (call (Value.builtin _) [Value.ref _, Value.int _ _]) _ _ _); k_dflt (refine' pop0 ?F ?N ?U ?z ?_; (case F => k_asm); (case N => k_asm); (case U => k_upd); (case z => omega)); (intro h' F' N')))
local macro_rules | `(tactic| walk_at "call ref") => `(tactic| (k_here; (with_reducible show wpAny _ _ (call (Value.ref _) _) _ _ _); refine Stop.go ?_))
local macro_rules | `(tactic| walk_at "pyIter ref") => `(tactic| ((with_reducible show wpAny _ _ (pyIter (Value.ref _)) (fun it s₂ => LoopAtV _ _ _ _ _ _ _ _ _ it s₂) _ _); refine Stop.go ?_))
local macro_rules | `(tactic| walk_at "MINE at") => `(tactic| first
  | assumption
  | exact PairAt.keeps (Fr.keep (by k_asm)) (by assumption)
  | exact RowAt.keeps (Fr.keep (by k_asm)) (by assumption)
  | exact BoolList.keeps (Fr.keep (by k_asm)) (by assumption)
  | exact PairIn.at (by k_asm) (by assumption)
  | exact RowIn.at (by k_asm) (by assumption)
  | exact BoolIn.at (by k_asm) (by assumption))
local macro_rules | `(tactic| walk_at "MINE num") => `(tactic| first | omega | ((repeat (rename decide _ = true => hx9; replace hx9 := of_decide_eq_true hx9)); (repeat (rename decide _ = false => hx9; replace hx9 := of_decide_eq_false hx9)); omega))
local macro_rules | `(tactic| walk_at "MINE sub") => `(tactic| (k_here; (with_reducible show wpAny _ _ (subscriptTail _ _ (Value.ref _) (Value.int _ _)) _ _ _); k_dflt (first
  | (refine' sub_led ?k1 ?k2 ?k3 ?k4 ?k5 ?_ ?k6; (case k1 => k_asm); (case k2 => k_mem); (case k3 => decide); (case k4 => decide); (case k5 => rfl); (case k6 => with_unfolding_all rfl); k_whole)
  | ((with_reducible show wpAny _ _ (subscriptTail _ _ (Value.ref _) (Value.int 0 _)) _ _ _); refine' sub_pair0 ?k1 ?_ ?k6 ?k7; (case k1 => walk_at "MINE at"); (case k6 => with_unfolding_all rfl); (case k7 => (intro _; with_unfolding_all rfl)); k_whole; intro t')
  | ((with_reducible show wpAny _ _ (subscriptTail _ _ (Value.ref _) (Value.int 1 _)) _ _ _); refine' sub_pair1 ?k1 ?_ ?k6 ?k7; (case k1 => walk_at "MINE at"); (case k6 => with_unfolding_all rfl); (case k7 => (intro _; with_unfolding_all rfl)); k_whole; intro t')
  | (refine' sub_row ?k1 ?k2 ?k3 ?k4 ?_ ?k6 ?k7; (case k1 => walk_at "MINE at"); (case k2 => walk_at "MINE num"); (case k3 => walk_at "MINE num"); (case k4 => walk_at "MINE num"); (case k6 => with_unfolding_all rfl); (case k7 => (intro _; with_unfolding_all rfl)); k_whole; intro a' hp'; (try dsimp only at hp'))
  | (refine' sub_bools ?k1 ?k2 ?k3 ?k4 ?_ ?k6; (case k1 => walk_at "MINE at"); (case k2 => walk_at "MINE num"); (case k3 => walk_at "MINE num"); (case k4 => walk_at "MINE num"); (case k6 => with_unfolding_all rfl); k_whole))))
local macro_rules | `(tactic| walk_at "subscriptTail Name Constant ref int") => `(tactic| walk_at "MINE sub")
local macro_rules | `(tactic| walk_at "subscriptTail Name Name ref int") => `(tactic| walk_at "MINE sub")
local macro_rules | `(tactic| walk_at "subscriptTail Subscript Name Constant Constant ref int") => `(tactic| walk_at "MINE sub")
local macro_rules | `(tactic| walk_at "subscriptTail Subscript Name Name Constant ref int") => `(tactic| walk_at "MINE sub")
local macro_rules | `(tactic| walk_at "call builtin:len cons nil") => `(tactic| (k_here; k_dflt (refine' len_row ?k1 ?k2 ?_; (case k1 => walk_at "MINE at"); (case k2 => walk_at "MINE num"); k_whole)))
local macro_rules | `(tactic| walk_at "exec While") => `(tactic| (k_here; refine Stop.go ?_))
local macro_rules | `(tactic| walk_at "exec While Compare cons nil") => `(tactic| (k_here; refine Stop.go ?_))
local macro_rules | `(tactic| walk_at "MINE off") => `(tactic| first | exact List.forall_mem_nil _ | exact off_own (by assumption) (by k_allIn) | exact OwnOff.ne (by assumption) (by k_memK) | (refine List.forall_mem_cons.mpr ⟨?_, ?_⟩ <;> walk_at "MINE off") | k_ne)
local macro_rules | `(tactic| walk_at "call type:range") => `(tactic| (k_here; k_dflt (first
  | (refine' range1' ?k1 ?k2 ?_; (case k1 => k_asm); (case k2 => k_asm); k_whole)
  | (refine' range2' ?k1 ?k2 ?_; (case k1 => k_asm); (case k2 => k_asm); k_whole)); intro r' h' tk' t1' u1' v1' hR' F' N'; (try k_sweep)))
local macro_rules | `(tactic| walk_at "call builtin:list.append cons cons nil") => `(tactic| (k_here; (with_reducible show wpAny _ _ (call (Value.builtin _) [Value.ref _, _]) _ _ _); k_dflt (refine' append_of ?k1 ?k2 ?k3 ?z ?_; (case k1 => k_asm); (case k2 => k_asm); (case k3 => k_upd); (case z => omega); k_whole); intro h' F' N'; (try k_sweep)))
local macro_rules | `(tactic| walk_at "call builtin:list.append") => `(tactic| (k_here; (with_reducible show wpAny _ _ (call (Value.builtin _) [Value.ref _, _]) _ _ _); k_dflt (refine' append_of ?k1 ?k2 ?k3 ?z ?_; (case k1 => k_asm); (case k2 => k_asm); (case k3 => k_upd); (case z => omega); k_whole); intro h' F' N'; (try k_sweep)))
local macro_rules | `(tactic| walk_at "call type:tuple") => `(tactic| (k_here; (with_reducible show wpAny _ _ (call (Value.type _) [Value.ref _]) _ _ _); k_dflt (refine' tuple_of ?k1 ?k2 ?k3 ?k4 ?_; (case k1 => k_asm); (case k2 => k_asm); (case k3 => k_mem); (case k4 => omega); k_whole); intro D' h' F' N' l1'; (try k_lt l1'); (try k_sweep)))
local macro_rules | `(tactic| walk_at "WhileStep2 ret") => `(tactic| dsimp only [WhileStep2])
local macro_rules | `(tactic| walk_at "WhileStep2 brk") => `(tactic| dsimp only [WhileStep2])
local macro_rules | `(tactic| walk_at "Turn ret") => `(tactic| dsimp only [Turn])
local macro_rules | `(tactic| walk_at "Turn brk") => `(tactic| dsimp only [Turn])

structure Sep (ps : List (Int × Int)) : Prop where
  le : ∀ i, i < ps.length → (ps.getD i (0, 0)).1 ≤ (ps.getD i (0, 0)).2
  lt : ∀ i j, i < j → j < ps.length → (ps.getD i (0, 0)).2 < (ps.getD j (0, 0)).1
def Cov (ps : List (Int × Int)) (u : Int) : Prop := ∃ i, i < ps.length ∧ (ps.getD i (0, 0)).1 ≤ u ∧ u ≤ (ps.getD i (0, 0)).2
theorem fdiv2 (x : Int) : 2 * Int.fdiv x 2 ≤ x ∧ x ≤ 2 * Int.fdiv x 2 + 1 := by
  rw [Int.fdiv_eq_ediv_of_nonneg _ (by decide)]
  omega
theorem Sep.mono1 {ps : List (Int × Int)} (S : Sep ps) {i j : Nat} (h : i ≤ j) (hj : j < ps.length) : (ps.getD i (0, 0)).1 ≤ (ps.getD j (0, 0)).1 := by
  rcases Nat.lt_or_ge i j with h' | h'
  · have a := S.le i (by omega)
    have b := S.lt i j h' hj
    omega
  · have : i = j := by omega
    rw [this]
    exact Int.le_refl _
theorem Sep.mono2 {ps : List (Int × Int)} (S : Sep ps) {i j : Nat} (h : i ≤ j) (hj : j < ps.length) : (ps.getD i (0, 0)).2 ≤ (ps.getD j (0, 0)).2 := by
  rcases Nat.lt_or_ge i j with h' | h'
  · have a := S.le j hj
    have b := S.lt i j h' hj
    omega
  · have : i = j := by omega
    rw [this]
    exact Int.le_refl _
theorem cov_lo {ps : List (Int × Int)} (S : Sep ps) {u : Int} (h : u < (ps.getD (Int.toNat 0) (0, 0)).1) : ¬ Cov ps u := by
  rintro ⟨i, hi, a, b⟩
  have := S.mono1 (i := 0) (Nat.zero_le i) hi
  change u < (ps.getD 0 (0, 0)).1 at h
  omega
theorem cov_hi {ps : List (Int × Int)} (S : Sep ps) {u : Int} (h : (ps.getD ((ps.length : Int) - 1).toNat (0, 0)).2 < u) : ¬ Cov ps u := by
  rintro ⟨i, hi, a, b⟩
  have e : ((ps.length : Int) - 1).toNat = ps.length - 1 := by omega
  rw [e] at h
  have := S.mono2 (i := i) (j := ps.length - 1) (by omega) (by omega)
  omega
theorem cov_none {ps : List (Int × Int)} {u lb ub : Int} (h : ub < lb) (a : ∀ i : Nat, i < ps.length → (i : Int) < lb → (ps.getD i (0, 0)).2 < u) (b : ∀ i : Nat, i < ps.length → ub < (i : Int) → u < (ps.getD i (0, 0)).1) : ¬ Cov ps u := by
  rintro ⟨i, hi, x, y⟩
  by_cases h' : (i : Int) < lb
  · have := a i hi h'; omega
  · have := b i hi (by omega); omega

def BiJ (u : Int) (t : Tok) (tb : Addr) (ps : List (Int × Int)) (n : Nat) (m : Str → Option Value) (nx : List (Addr × Obj)) : Prop :=
  nx = [] ∧ ∃ lb ub tl tu, (∀ p ∈ [(Str.ofString "ucs", Value.int u t), (Str.ofString "table", Value.ref tb), (Str.ofString "lbound", Value.int lb tl), (Str.ofString "ubound", Value.int ub tu)], m p.1 = some p.2) ∧
    0 ≤ lb ∧ ub < (ps.length : Int) ∧ lb ≤ ub + 1 ∧ n = (ub + 1 - lb).toNat ∧ (∀ i : Nat, i < ps.length → (i : Int) < lb → (ps.getD i (0, 0)).2 < u) ∧ (∀ i : Nat, i < ps.length → ub < (i : Int) → u < (ps.getD i (0, 0)).1)

theorem bi_spec (w : World) (tb : Addr) (u : Int) (t : Tok) (ps : List (Int × Int)) (hne : 0 < ps.length) (hz : ps.length ≤ 1000) (S : Sep ps) :
    Ctr w 28 1 [.int u t, .ref tb] [] (fun h => RowAt h (.ref tb) ps)
      (fun r _ A' => A' = [] ∧ ∃ z tk, r = .int z tk ∧ ((z = 1 ∧ Cov ps u) ∨ (z = 0 ∧ ¬ Cov ps u))) := by
  unfold Ctr
  w_top off
  k_fill
  intro mean mg mb dp un gd cn cs L a ccd cl outer A₀ base h₀ m s Q E B F X N T hk hpre hd hu hret
  have hcL := cLine_is
  refine wpAny_call ?_
  walk_at "MINE enter"
  intro g L' h₁ FG F' N' B' X' T' hG hL'
  generalize s.toks + List.length _ = tk00
  try dsimp only
  k_fold
  have HB : RowAt g (.ref tb) ps := RowAt.keeps (fun b o e => hG b o e (by simp)) hpre
  k_steps
  · rename_i hx kF kN Tc kX
    refine hret _ _ _ [] kF kN (kept_of hG (by k_asm) (by k_asm)) ⟨rfl, _, _, rfl, .inr ⟨rfl, cov_lo S hx⟩⟩
  · rename_i hx kF kN Tc kX
    refine hret _ _ _ [] kF kN (kept_of hG (by k_asm) (by k_asm)) ⟨rfl, _, _, rfl, .inr ⟨rfl, cov_hi S hx⟩⟩
  refine Stop.of ?_
  refine While_inv2 (BiJ u t tb ps) (n₀ := ps.length) (by k_asm) (by k_asm) ⟨rfl, 0, (ps.length : Int) - 1, _, _, List.forall_mem_cons.mpr ⟨rfl, List.forall_mem_cons.mpr ⟨rfl, List.forall_mem_cons.mpr ⟨rfl, List.forall_mem_cons.mpr ⟨rfl, List.forall_mem_nil _⟩⟩⟩⟩, by omega, by omega, by omega, by omega, fun i _ h => absurd h (by omega), fun i h1 h2 => absurd h2 (by omega)⟩ ?turn
  rintro n m₁ nx h tk F₁ N₁ ⟨rfl, lb, ub, tl, tu, hm, h0, h1, h2, hn, ha, hb⟩
  rw [← over_eq hm] at F₁
  have hf := fdiv2 (lb + ub)
  have hmid := S.mono2 (i := 0) (j := 0) (Nat.le_refl _) hne
  k_steps
  · rename _ < u => hx
    rename lb ≤ ub => hlu
    rename News g L' _ _ => N9
    rename Fr g L' _ _ => F9
    refine ws_next F9 N9 [] (fun _ h => h) (n' := (ub + 1 - (Int.fdiv (lb + ub) 2 + 1)).toNat) (by omega) ⟨rfl, Int.fdiv (lb + ub) 2 + 1, ub, _, _, List.forall_mem_cons.mpr ⟨rfl, List.forall_mem_cons.mpr ⟨rfl, List.forall_mem_cons.mpr ⟨rfl, List.forall_mem_cons.mpr ⟨rfl, List.forall_mem_nil _⟩⟩⟩⟩, by omega, by omega, by omega, rfl, fun i hi hl => ?_, hb⟩
    have := S.mono2 (i := i) (j := (Int.fdiv (lb + ub) 2).toNat) (by omega) (by omega)
    omega
  · rename u < _ => hx
    rename lb ≤ ub => hlu
    rename News g L' _ _ => N9
    rename Fr g L' _ _ => F9
    refine ws_next F9 N9 [] (fun _ h => h) (n' := (Int.fdiv (lb + ub) 2 - 1 + 1 - lb).toNat) (by omega) ⟨rfl, lb, Int.fdiv (lb + ub) 2 - 1, _, _, List.forall_mem_cons.mpr ⟨rfl, List.forall_mem_cons.mpr ⟨rfl, List.forall_mem_cons.mpr ⟨rfl, List.forall_mem_cons.mpr ⟨rfl, List.forall_mem_nil _⟩⟩⟩⟩, by omega, by omega, by omega, rfl, ha, fun i hi hl => ?_⟩
    have := S.mono1 (i := (Int.fdiv (lb + ub) 2).toNat) (j := i) (by omega) (by omega)
    omega
  · rename ¬ (_ < u) => hx
    rename ¬ (u < _) => hy
    rename lb ≤ ub => hlu
    rename_i kF kN Tc kX
    refine hret _ _ _ [] kF kN (kept_of hG (by k_asm) (by k_asm)) ⟨rfl, _, _, rfl, .inl ⟨rfl, (Int.fdiv (lb + ub) 2).toNat, by omega, by omega, by omega⟩⟩
  · rename ¬ (lb ≤ ub) => hx
    rename_i kF kN Tc kX
    refine hret _ _ _ [] kF kN (kept_of hG (by k_asm) (by k_asm)) ⟨rfl, _, _, rfl, .inr ⟨rfl, cov_none (by omega) ha hb⟩⟩

end Mine
end

section
open PySem PySem.W PyProof.Rows PySem.Calls
set_option Elab.async false
set_option maxRecDepth 100000
set_option maxHeartbeats 8000000
set_option pp.deepTerms false
set_option pp.proofs false
namespace Mine
local macro_rules | `(tactic| walk_at "MINE enter") => `(tactic| k_dflt (
  refine' call_part ?k1 ?k2 ?k3 ?k4 ?k5 ?kA ?kF ?kK ?k6 ?k7 ?k8 ?k9 ?kB ?_ ?c2 ?c3 ?c4 ?c5; (case kA => exact rfl); (case kF => exact rfl); (case kK => assumption); (case k1 => k_asm); (case k2 => k_asm); (case k3 => k_asm); (case k4 => k_asm); (case k5 => k_asm); (case k6 => k_is); (case k7 => k_is); (case k8 => ktr_room); (case k9 => exact BindsTo.of_eq rfl); (case c5 => decide); (case kB => exact locs rfl); (case c2 => exact rfl); (case c3 => exact rfl); (case c4 => exact rfl); k_whole))
local macro_rules | `(tactic| units_room) => `(tactic| ((have hcL9 := cLine_is); (simp only [units_in1, units_deeper, Around.mark_units] at *); (try dsimp only [ktrTop] at *); omega))
local macro_rules | `(tactic| walk_at "call builtin:list.pop") => `(tactic| (k_here; (with_reducible show wpAny _ _ (call (Value.builtin _) [Value.ref _, Value.int _ _]) _ _ _); k_dflt (refine' pop0 ?F ?N ?U ?z ?_; (case F => k_asm); (case N => k_asm); (case U => k_upd); (case z => omega)); (intro h' F' N')))
local macro_rules | `(tactic| walk_at "call ref") => `(tactic| (k_here; (with_reducible show wpAny _ _ (call (Value.ref _) _) _ _ _); refine Stop.go ?_))
local macro_rules | `(tactic| walk_at "pyIter ref") => `(tactic| ((with_reducible show wpAny _ _ (pyIter (Value.ref _)) (fun it s₂ => LoopAtV _ _ _ _ _ _ _ _ _ it s₂) _ _); refine Stop.go ?_))
local macro_rules | `(tactic| walk_at "MINE at") => `(tactic| first
  | assumption
  | exact PairAt.keeps (Fr.keep (by k_asm)) (by assumption)
  | exact RowAt.keeps (Fr.keep (by k_asm)) (by assumption)
  | exact BoolList.keeps (Fr.keep (by k_asm)) (by assumption)
  | exact PairIn.at (by k_asm) (by assumption)
  | exact RowIn.at (by k_asm) (by assumption)
  | exact BoolIn.at (by k_asm) (by assumption))
local macro_rules | `(tactic| walk_at "MINE num") => `(tactic| first | omega | ((repeat (rename decide _ = true => hx9; replace hx9 := of_decide_eq_true hx9)); (repeat (rename decide _ = false => hx9; replace hx9 := of_decide_eq_false hx9)); omega))
local macro_rules | `(tactic| walk_at "MINE sub") => `(tactic| (k_here; (with_reducible show wpAny _ _ (subscriptTail _ _ (Value.ref _) (Value.int _ _)) _ _ _); k_dflt (first
  | (refine' sub_led ?k1 ?k2 ?k3 ?k4 ?k5 ?_ ?k6; (case k1 => k_asm); (case k2 => k_mem); (case k3 => decide); (case k4 => decide); (case k5 => rfl); (case k6 => with_unfolding_all rfl); k_whole)
  | ((with_reducible show wpAny _ _ (subscriptTail _ _ (Value.ref _) (Value.int 0 _)) _ _ _); refine' sub_pair0 ?k1 ?_ ?k6 ?k7; (case k1 => walk_at "MINE at"); (case k6 => with_unfolding_all rfl); (case k7 => (intro _; with_unfolding_all rfl)); k_whole; intro t')
  | ((with_reducible show wpAny _ _ (subscriptTail _ _ (Value.ref _) (Value.int 1 _)) _ _ _); refine' sub_pair1 ?k1 ?_ ?k6 ?k7; (case k1 => walk_at "MINE at"); (case k6 => with_unfolding_all rfl); (case k7 => (intro _; with_unfolding_all rfl)); k_whole; intro t')
  | (refine' sub_row ?k1 ?k2 ?k3 ?k4 ?_ ?k6 ?k7; (case k1 => walk_at "MINE at"); (case k2 => walk_at "MINE num"); (case k3 => walk_at "MINE num"); (case k4 => walk_at "MINE num"); (case k6 => with_unfolding_all rfl); (case k7 => (intro _; with_unfolding_all rfl)); k_whole; intro a' hp'; (try dsimp only at hp'))
  | (refine' sub_bools ?k1 ?k2 ?k3 ?k4 ?_ ?k6; (case k1 => walk_at "MINE at"); (case k2 => walk_at "MINE num"); (case k3 => walk_at "MINE num"); (case k4 => walk_at "MINE num"); (case k6 => with_unfolding_all rfl); k_whole))))
local macro_rules | `(tactic| walk_at "subscriptTail Name Constant ref int") => `(tactic| walk_at "MINE sub")
local macro_rules | `(tactic| walk_at "subscriptTail Name Name ref int") => `(tactic| walk_at "MINE sub")
local macro_rules | `(tactic| walk_at "subscriptTail Subscript Name Constant Constant ref int") => `(tactic| (k_here; k_dflt (refine kba_turn (value' := PySem.Expr.Name (PySem.Str.ofString "_") ⟨0, 0, 0, 0⟩) (fun _ => rfl) ?_)))
local macro_rules | `(tactic| walk_at "subscriptTail Subscript Name Name Constant ref int") => `(tactic| (k_here; k_dflt (refine kba_turn (value' := PySem.Expr.Name (PySem.Str.ofString "_") ⟨0, 0, 0, 0⟩) (fun _ => rfl) ?_)))
local macro_rules | `(tactic| walk_at "subscriptTail Subscript Name UnaryOp Constant ref int") => `(tactic| (k_here; k_dflt (refine kba_turn (value' := PySem.Expr.Name (PySem.Str.ofString "_") ⟨0, 0, 0, 0⟩) (fun _ => rfl) ?_)))
local macro_rules | `(tactic| walk_at "MINE for") => `(tactic| (k_here; (rename Fr _ _ _ _ => lF'); (with_unfolding_all refine' For_invVF lF' ?k1 ?k2 ?_; (case k1 => exact rfl); (case k2 => exact rfl); k_whole)))
local macro_rules | `(tactic| walk_at "exec For Name Name cons nil") => `(tactic| walk_at "MINE for")
local macro_rules | `(tactic| walk_at "exec For Name Call cons nil") => `(tactic| walk_at "MINE for")
local macro_rules | `(tactic| walk_at "exec For Name Subscript cons nil") => `(tactic| walk_at "MINE for")
local macro_rules | `(tactic| walk_at "eval Name") => `(tactic| (k_here; k_dflt (first
  | (refine' nameX_L ?F ?v ?_ ?a ?b; (case F => k_asm); (case a => rfl); (case b => rfl); (case v => rfl); k_whole)
  | (refine' nameX_K ?F ?X ?T ?e ?_ ?a ?b; (case F => k_asm); (case X => k_asm); (case T => k_asm); (case a => rfl); (case b => rfl); (case e => k_is); k_whole)
  | (refine' nameX_B ?F ?X ?T ?e ?v ?n ?_ ?a ?b; (case F => k_asm); (case X => k_asm); (case T => k_asm); (case a => rfl); (case b => rfl); (case e => k_is); (case v => first | boot_by_name | exact PyProof.Rows.boot_abs | exact PyProof.Rows.boot_max | exact PyProof.Rows.boot_isinstance | boot_fast); (case n => decide); k_whole))))
local macro_rules | `(tactic| walk_at "storeName") => `(tactic| (k_here; k_dflt (refine' storeX_L ?F ?N ?_ ?a ?b; (case F => k_asm); (case N => k_asm); (case a => rfl); (case b => rfl); k_whole; intro h' F' N'; (try k_sweep))))
local macro_rules | `(tactic| walk_at "call builtin:len cons nil") => `(tactic| (k_here; k_dflt (refine' len_row ?k1 ?k2 ?_; (case k1 => walk_at "MINE at"); (case k2 => walk_at "MINE num"); k_whole)))
local macro_rules | `(tactic| walk_at "exec While") => `(tactic| (k_here; refine Stop.go ?_))
local macro_rules | `(tactic| walk_at "exec While Compare cons nil") => `(tactic| (k_here; refine Stop.go ?_))
local macro_rules | `(tactic| walk_at "MINE off") => `(tactic| first | exact List.forall_mem_nil _ | exact off_own (by assumption) (by k_allIn) | exact OwnOff.ne (by assumption) (by k_memK) | (refine List.forall_mem_cons.mpr ⟨?_, ?_⟩ <;> walk_at "MINE off") | k_ne)
local macro_rules | `(tactic| walk_at "call type:range") => `(tactic| (k_here; k_dflt (first
  | (refine' range1' ?k1 ?k2 ?_; (case k1 => k_asm); (case k2 => k_asm); k_whole)
  | (refine' range2' ?k1 ?k2 ?_; (case k1 => k_asm); (case k2 => k_asm); k_whole)); intro r' h' tk' t1' u1' v1' hR' F' N'; (try k_sweep)))
local macro_rules | `(tactic| walk_at "call builtin:list.append cons cons nil") => `(tactic| (k_here; (with_reducible show wpAny _ _ (call (Value.builtin _) [Value.ref _, _]) _ _ _); k_dflt (refine' append_of ?k1 ?k2 ?k3 ?z ?_; (case k1 => k_asm); (case k2 => k_asm); (case k3 => k_upd); (case z => omega); k_whole); intro h' F' N'; (try k_sweep)))
local macro_rules | `(tactic| walk_at "call builtin:list.append") => `(tactic| (k_here; (with_reducible show wpAny _ _ (call (Value.builtin _) [Value.ref _, _]) _ _ _); k_dflt (refine' append_of ?k1 ?k2 ?k3 ?z ?_; (case k1 => k_asm); (case k2 => k_asm); (case k3 => k_upd); (case z => omega); k_whole); intro h' F' N'; (try k_sweep)))
local macro_rules | `(tactic| walk_at "call type:tuple") => `(tactic| (k_here; (with_reducible show wpAny _ _ (call (Value.type _) [Value.ref _]) _ _ _); k_dflt (refine' tuple_of ?k1 ?k2 ?k3 ?k4 ?_; (case k1 => k_asm); (case k2 => k_asm); (case k3 => k_mem); (case k4 => omega); k_whole); intro D' h' F' N' l1'; (try k_lt l1'); (try k_sweep)))
local macro_rules | `(tactic| walk_at "WhileStep2 ret") => `(tactic| dsimp only [WhileStep2])
local macro_rules | `(tactic| walk_at "WhileStep2 brk") => `(tactic| dsimp only [WhileStep2])
local macro_rules | `(tactic| walk_at "Turn ret") => `(tactic| dsimp only [Turn])
local macro_rules | `(tactic| walk_at "Turn brk") => `(tactic| dsimp only [Turn])
local macro_rules | `(tactic| walk_at "eval ListComp") => `(tactic| (k_here; k_dflt (refine LCg.ListComp_U (F₀ := by k_asm) (by with_unfolding_all rfl) (by decide) (by rfl) (by decide) (by rfl) ?_)))
local macro_rules | `(tactic| walk_at "CompSrc") => `(tactic| refine Stop.go ?_)
local macro_rules | `(tactic| walk_at "subscriptTail ListComp") => `(tactic| (k_here; k_dflt (refine kba_turn (value' := PySem.Expr.Name (PySem.Str.ofString "_") ⟨0, 0, 0, 0⟩) (fun _ => rfl) ?_)))
local macro_rules | `(tactic| walk_at "execs cons") => `(tactic| (k_here; refine execs_gen ?_; intro tk'; (try dsimp only)))
local macro_rules | `(tactic| walk_at "execs nil") => `(tactic| (k_here; refine wpAny_execs_nil ?_))
local macro_rules | `(tactic| walk_at "CompEnd") => `(tactic| refine Stop.go ?_)

def DrJ (sc : Addr) (_i : Nat) (m : Str → Option Value) (nx : List (Addr × Obj)) : Prop :=
  nx = [] ∧ ∃ sd t, (∀ p ∈ [(Str.ofString "script", Value.ref sc), (Str.ofString "seed", Value.int sd t)], m p.1 = some p.2) ∧ 0 ≤ sd ∧ sd < 2147483647

theorem draw_spec (w : World) (sc : Addr) (vs : List Value) (ns : List Int) (hi : IntsAre vs ns) (hlen : ns.length ≤ 63) :
    Ctr w 33 1 [.ref sc] [] (fun h => h.IsList sc vs.toArray)
      (fun r _ A' => ∃ d l vs' sd t n1 n2, r = .ref d ∧ A' = drawL d l vs' sd t n1 n2 ∧ DrawOk vs' sd ∧ @Ne Nat d l) := by
  unfold Ctr
  w_top off
  k_fill
  intro mean mg mb dp un gd cn cs L a ccd cl outer A₀ base h₀ m s Q E B F X N T hk hpre hd hu hret
  have hcL := cLine_is
  refine wpAny_call ?_
  walk_at "MINE enter"
  intro g L' h₁ FG F' N' B' X' T' hG hL'
  generalize s.toks + List.length _ = tk00
  try dsimp only
  k_fold
  have HS : g.IsList sc vs.toArray := Heap.IsList.at hpre fun o e => hG _ o e (by simp)
  have hvl := hi.length
  k_steps
  refine Stop.of ?_
  refine loopJ_list (DrJ sc) rfl HS (by k_asm) (by k_asm) ⟨rfl, 13, _, List.forall_mem_cons.mpr ⟨rfl, List.forall_mem_cons.mpr ⟨rfl, List.forall_mem_nil _⟩⟩, by decide, by decide⟩ ?turn ?done
  case turn =>
    rintro i v m₁ nx I oI h tk hlt hv ⟨rfl, sd, t, hm, h0, h1⟩ hne F₁ N₁
    obtain ⟨k, tk2, rfl, _⟩ := hi.at i v (by simpa using hv)
    rw [← over_eq hm] at F₁
    change Fr g L' h _ at F₁
    change News g L' h _ at N₁
    clear hm hne hv
    k_steps
    show TurnTo _ _ _ _ _ _ _
    rename Fr g L' _ _ => FZ
    rename News g L' _ _ => NZ
    exact TurnTo.intro FZ NZ [] (by kcf_all) (List.forall_mem_nil _) ⟨rfl, _, _, List.forall_mem_cons.mpr ⟨rfl, List.forall_mem_cons.mpr ⟨rfl, List.forall_mem_nil _⟩⟩, fmod_nn _ (by decide), fmod_lt _ (by decide)⟩
  case done =>
    rintro m₁ nx h tk ⟨rfl, sd, t, hm, h0, h1⟩ F₁ N₁
    rw [← over_eq hm] at F₁
    change Fr g L' h _ at F₁
    change News g L' h _ at N₁
    k_steps
    refine Stop.of ?_
    refine LCg.CompSrc.base rfl (by k_asm) (by k_asm) HS (by rw [List.size_toArray, sizeLine_eq]; omega) ?_
    intro g2
    refine compJ (fun i ys nw => nw = [] ∧ ∃ ks, IntsAre ys ks ∧ ks.length = i) ⟨rfl, [], .nil, rfl⟩ ?turn2 ?fin2
    case turn2 =>
      rintro i ys nw v I oI C oC D m₂ h2 tk2 E' hlt hv ⟨rfl, ks, hy, hk⟩ hC hx F2 N2 off ne
      obtain ⟨k, tk3, rfl, _⟩ := hi.at i v (by simpa using hv)
      clear hv
      k_steps
      refine Stop.of ?_
      rename Fr g L' _ _ => FZ
      rename News g L' _ _ => NZ
      exact LCg.CompEnd.intro FZ NZ [] (by kcf_all) trivial (.inl HS) ⟨rfl, ks ++ [_], ints_app hy (.cons _ _ .nil), by simp [hk]⟩
    case fin2 =>
      rintro ys nw ⟨rfl, ks, hy, hk⟩ D h2 tk2 F2 N2 off
      have hkl := hy.length
      rw [List.size_toArray] at hk
      k_steps
      rename_i D9 ws9 h9 hI9 hC9 hL9 l9 l10 h10 F10 N10 l11 kF kN Tc kX
      exact hret _ _ _ (drawL l10 D9 ws9 sd t 0 0) kF (cb_drop kN (by kcf_all)) (kept_of hG F10 (cb_drop N10 (by kcf_all))) ⟨l10, D9, ws9, sd, t, 0, 0, rfl, rfl, ⟨⟨_, hI9, by omega⟩, h0, h1⟩, by k_ne⟩

end Mine
end

section
open PySem PySem.W PyProof.Rows PySem.Calls
set_option Elab.async false
set_option maxRecDepth 100000
set_option maxHeartbeats 8000000
set_option pp.deepTerms false
set_option pp.proofs false
namespace Mine
local macro_rules | `(tactic| walk_at "MINE enter") => `(tactic| k_dflt (
  refine' call_part ?k1 ?k2 ?k3 ?k4 ?k5 ?kA ?kF ?kK ?k6 ?k7 ?k8 ?k9 ?kB ?_ ?c2 ?c3 ?c4 ?c5; (case kA => exact rfl); (case kF => exact rfl); (case kK => assumption); (case k1 => k_asm); (case k2 => k_asm); (case k3 => k_asm); (case k4 => k_asm); (case k5 => k_asm); (case k6 => k_is); (case k7 => k_is); (case k8 => ktr_room); (case k9 => exact BindsTo.of_eq rfl); (case c5 => decide); (case kB => exact locs rfl); (case c2 => exact rfl); (case c3 => exact rfl); (case c4 => exact rfl); k_whole))
local macro_rules | `(tactic| units_room) => `(tactic| ((have hcL9 := cLine_is); (simp only [units_in1, units_deeper, Around.mark_units] at *); (try dsimp only [ktrTop] at *); omega))
local macro_rules | `(tactic| walk_at "call builtin:list.pop") => `(tactic| (k_here; (with_reducible show wpAny _ _ (call (Value.builtin _) [Value.ref _, Value.int _ _]) _ _ _); k_dflt (refine' pop0 ?F ?N ?U ?z ?_; (case F => k_asm); (case N => k_asm); (case U => k_upd); (case z => omega)); (intro h' F' N')))
local macro_rules | `(tactic| walk_at "call ref") => `(tactic| (k_here; (with_reducible show wpAny _ _ (call (Value.ref _) _) _ _ _); refine Stop.go ?_))
local macro_rules | `(tactic| walk_at "pyIter ref") => `(tactic| ((with_reducible show wpAny _ _ (pyIter (Value.ref _)) (fun it s₂ => LoopAtV _ _ _ _ _ _ _ _ _ it s₂) _ _); refine Stop.go ?_))
local macro_rules | `(tactic| walk_at "MINE at") => `(tactic| first
  | assumption
  | exact PairAt.keeps (Fr.keep (by k_asm)) (by assumption)
  | exact RowAt.keeps (Fr.keep (by k_asm)) (by assumption)
  | exact BoolList.keeps (Fr.keep (by k_asm)) (by assumption)
  | exact PairIn.at (by k_asm) (by assumption)
  | exact RowIn.at (by k_asm) (by assumption)
  | exact BoolIn.at (by k_asm) (by assumption))
local macro_rules | `(tactic| walk_at "MINE num") => `(tactic| first | omega | ((repeat (rename decide _ = true => hx9; replace hx9 := of_decide_eq_true hx9)); (repeat (rename decide _ = false => hx9; replace hx9 := of_decide_eq_false hx9)); omega))
local macro_rules | `(tactic| walk_at "MINE sub") => `(tactic| (k_here; (with_reducible show wpAny _ _ (subscriptTail _ _ (Value.ref _) (Value.int _ _)) _ _ _); k_dflt (first
  | (refine' sub_led ?k1 ?k2 ?k3 ?k4 ?k5 ?_ ?k6; (case k1 => k_asm); (case k2 => k_mem); (case k3 => decide); (case k4 => decide); (case k5 => rfl); (case k6 => with_unfolding_all rfl); k_whole)
  | ((with_reducible show wpAny _ _ (subscriptTail _ _ (Value.ref _) (Value.int 0 _)) _ _ _); refine' sub_pair0 ?k1 ?_ ?k6 ?k7; (case k1 => walk_at "MINE at"); (case k6 => with_unfolding_all rfl); (case k7 => (intro _; with_unfolding_all rfl)); k_whole; intro t')
  | ((with_reducible show wpAny _ _ (subscriptTail _ _ (Value.ref _) (Value.int 1 _)) _ _ _); refine' sub_pair1 ?k1 ?_ ?k6 ?k7; (case k1 => walk_at "MINE at"); (case k6 => with_unfolding_all rfl); (case k7 => (intro _; with_unfolding_all rfl)); k_whole; intro t')
  | (refine' sub_row ?k1 ?k2 ?k3 ?k4 ?_ ?k6 ?k7; (case k1 => walk_at "MINE at"); (case k2 => walk_at "MINE num"); (case k3 => walk_at "MINE num"); (case k4 => walk_at "MINE num"); (case k6 => with_unfolding_all rfl); (case k7 => (intro _; with_unfolding_all rfl)); k_whole; intro a' hp'; (try dsimp only at hp'))
  | (refine' sub_bools ?k1 ?k2 ?k3 ?k4 ?_ ?k6; (case k1 => walk_at "MINE at"); (case k2 => walk_at "MINE num"); (case k3 => walk_at "MINE num"); (case k4 => walk_at "MINE num"); (case k6 => with_unfolding_all rfl); k_whole))))
local macro_rules | `(tactic| walk_at "subscriptTail Name Constant ref int") => `(tactic| walk_at "MINE sub")
local macro_rules | `(tactic| walk_at "subscriptTail Name Name ref int") => `(tactic| walk_at "MINE sub")
local macro_rules | `(tactic| walk_at "subscriptTail Subscript Name Constant Constant ref int") => `(tactic| (k_here; k_dflt (refine kba_turn (value' := PySem.Expr.Name (PySem.Str.ofString "_") ⟨0, 0, 0, 0⟩) (fun _ => rfl) ?_)))
local macro_rules | `(tactic| walk_at "subscriptTail Subscript Name Name Constant ref int") => `(tactic| (k_here; k_dflt (refine kba_turn (value' := PySem.Expr.Name (PySem.Str.ofString "_") ⟨0, 0, 0, 0⟩) (fun _ => rfl) ?_)))
local macro_rules | `(tactic| walk_at "subscriptTail Subscript Name UnaryOp Constant ref int") => `(tactic| (k_here; k_dflt (refine kba_turn (value' := PySem.Expr.Name (PySem.Str.ofString "_") ⟨0, 0, 0, 0⟩) (fun _ => rfl) ?_)))
local macro_rules | `(tactic| walk_at "MINE for") => `(tactic| (k_here; (rename Fr _ _ _ _ => lF'); (with_unfolding_all refine' For_invVF lF' ?k1 ?k2 ?_; (case k1 => exact rfl); (case k2 => exact rfl); k_whole)))
local macro_rules | `(tactic| walk_at "exec For Name Name cons nil") => `(tactic| walk_at "MINE for")
local macro_rules | `(tactic| walk_at "exec For Name Call cons nil") => `(tactic| walk_at "MINE for")
local macro_rules | `(tactic| walk_at "exec For Name Subscript cons nil") => `(tactic| walk_at "MINE for")
local macro_rules | `(tactic| walk_at "eval Name") => `(tactic| (k_here; k_dflt (first
  | (refine' nameX_L ?F ?v ?_ ?a ?b; (case F => k_asm); (case a => rfl); (case b => rfl); (case v => rfl); k_whole)
  | (refine' nameX_K ?F ?X ?T ?e ?_ ?a ?b; (case F => k_asm); (case X => k_asm); (case T => k_asm); (case a => rfl); (case b => rfl); (case e => k_is); k_whole)
  | (refine' nameX_B ?F ?X ?T ?e ?v ?n ?_ ?a ?b; (case F => k_asm); (case X => k_asm); (case T => k_asm); (case a => rfl); (case b => rfl); (case e => k_is); (case v => first | boot_by_name | exact PyProof.Rows.boot_abs | exact PyProof.Rows.boot_max | exact PyProof.Rows.boot_isinstance | boot_fast); (case n => decide); k_whole))))
local macro_rules | `(tactic| walk_at "storeName") => `(tactic| (k_here; k_dflt (refine' storeX_L ?F ?N ?_ ?a ?b; (case F => k_asm); (case N => k_asm); (case a => rfl); (case b => rfl); k_whole; intro h' F' N'; (try k_sweep))))
local macro_rules | `(tactic| walk_at "call builtin:len cons nil") => `(tactic| (k_here; k_dflt (refine' len_row ?k1 ?k2 ?_; (case k1 => walk_at "MINE at"); (case k2 => walk_at "MINE num"); k_whole)))
local macro_rules | `(tactic| walk_at "exec While") => `(tactic| (k_here; refine Stop.go ?_))
local macro_rules | `(tactic| walk_at "exec While Compare cons nil") => `(tactic| (k_here; refine Stop.go ?_))
local macro_rules | `(tactic| walk_at "MINE off") => `(tactic| first | exact List.forall_mem_nil _ | exact off_own (by assumption) (by k_allIn) | exact OwnOff.ne (by assumption) (by k_memK) | (refine List.forall_mem_cons.mpr ⟨?_, ?_⟩ <;> walk_at "MINE off") | k_ne)
local macro_rules | `(tactic| walk_at "call type:range") => `(tactic| (k_here; k_dflt (first
  | (refine' range1' ?k1 ?k2 ?_; (case k1 => k_asm); (case k2 => k_asm); k_whole)
  | (refine' range2' ?k1 ?k2 ?_; (case k1 => k_asm); (case k2 => k_asm); k_whole)); intro r' h' tk' t1' u1' v1' hR' F' N'; (try k_sweep)))
local macro_rules | `(tactic| walk_at "call builtin:list.append cons cons nil") => `(tactic| (k_here; (with_reducible show wpAny _ _ (call (Value.builtin _) [Value.ref _, _]) _ _ _); k_dflt (refine' append_of ?k1 ?k2 ?k3 ?z ?_; (case k1 => k_asm); (case k2 => k_asm); (case k3 => k_upd); (case z => omega); k_whole); intro h' F' N'; (try k_sweep)))
local macro_rules | `(tactic| walk_at "call builtin:list.append") => `(tactic| (k_here; (with_reducible show wpAny _ _ (call (Value.builtin _) [Value.ref _, _]) _ _ _); k_dflt (refine' append_of ?k1 ?k2 ?k3 ?z ?_; (case k1 => k_asm); (case k2 => k_asm); (case k3 => k_upd); (case z => omega); k_whole); intro h' F' N'; (try k_sweep)))
local macro_rules | `(tactic| walk_at "call type:tuple") => `(tactic| (k_here; (with_reducible show wpAny _ _ (call (Value.type _) [Value.ref _]) _ _ _); k_dflt (refine' tuple_of ?k1 ?k2 ?k3 ?k4 ?_; (case k1 => k_asm); (case k2 => k_asm); (case k3 => k_mem); (case k4 => omega); k_whole); intro D' h' F' N' l1'; (try k_lt l1'); (try k_sweep)))
local macro_rules | `(tactic| walk_at "WhileStep2 ret") => `(tactic| dsimp only [WhileStep2])
local macro_rules | `(tactic| walk_at "WhileStep2 brk") => `(tactic| dsimp only [WhileStep2])
local macro_rules | `(tactic| walk_at "Turn ret") => `(tactic| dsimp only [Turn])
local macro_rules | `(tactic| walk_at "Turn brk") => `(tactic| dsimp only [Turn])
local macro_rules | `(tactic| walk_at "eval ListComp") => `(tactic| (k_here; k_dflt (refine LCg.ListComp_U (F₀ := by k_asm) (by with_unfolding_all rfl) (by decide) (by rfl) (by decide) (by rfl) ?_)))
local macro_rules | `(tactic| walk_at "CompSrc") => `(tactic| refine Stop.go ?_)
local macro_rules | `(tactic| walk_at "subscriptTail ListComp") => `(tactic| (k_here; k_dflt (refine kba_turn (value' := PySem.Expr.Name (PySem.Str.ofString "_") ⟨0, 0, 0, 0⟩) (fun _ => rfl) ?_)))
local macro_rules | `(tactic| walk_at "execs cons") => `(tactic| (k_here; refine execs_gen ?_; intro tk'; (try dsimp only)))
local macro_rules | `(tactic| walk_at "execs nil") => `(tactic| (k_here; refine wpAny_execs_nil ?_))
local macro_rules | `(tactic| walk_at "CompEnd") => `(tactic| refine Stop.go ?_)


theorem getD_set {bs : List Bool} {k i : Nat} (hk : k < bs.length) : ((bs.set k true).getD i false = true) ↔ (i = k ∨ bs.getD i false = true) := by
  simp only [List.getD_eq_getElem?_getD, List.getElem?_set]
  by_cases h : k = i
  · subst h
    simp [hk]
  · simp only [h, if_false]
    constructor
    · exact .inr
    · rintro (e | e)
      · exact absurd e.symm h
      · exact e

/-- the two tables of points -/
structure PtsAre (hv bv : List Value) (CH CB : Int → Prop) : Prop where
  ex : ∃ hs bs, LSm.BoolsAre hv hs ∧ LSm.BoolsAre bv bs ∧ hs.length = 44 ∧ bs.length = 44 ∧ (∀ i : Nat, i < 44 → (hs.getD i false = true ↔ CH i)) ∧ (∀ i : Nat, i < 44 → (bs.getD i false = true ↔ CB i))
theorem PtsAre.congr {hv bv : List Value} {CH CB CH' CB' : Int → Prop} (h : PtsAre hv bv CH CB) (e1 : ∀ i, CH i ↔ CH' i) (e2 : ∀ i, CB i ↔ CB' i) : PtsAre hv bv CH' CB' := by
  obtain ⟨hs, bs, a, b, c, d, x, y⟩ := h
  exact ⟨hs, bs, a, b, c, d, fun i hi => (x i hi).trans (e1 _), fun i hi => (y i hi).trans (e2 _)⟩
theorem PtsAre.set {hv bv : List Value} {CH CB : Int → Prop} {k : Int} (h : PtsAre hv bv CH CB) (h0 : 0 ≤ k) (h1 : k < 44) : PtsAre (hv.set k.toNat (.bool true)) bv (fun i => i = k ∨ CH i) CB := by
  obtain ⟨hs, bs, a, b, c, d, x, y⟩ := h
  refine ⟨hs.set k.toNat true, bs, kbo_setB a _, b, by simpa using c, d, fun i hi => ?_, y⟩
  rw [getD_set (by omega), x i hi]
  have : (i = k.toNat) ↔ ((i : Int) = k) := by omega
  rw [this]
theorem PtsAre.setB {hv bv : List Value} {CH CB : Int → Prop} {k : Int} (h : PtsAre hv bv CH CB) (h0 : 0 ≤ k) (h1 : k < 44) : PtsAre hv (bv.set k.toNat (.bool true)) CH (fun i => i = k ∨ CB i) := by
  obtain ⟨hs, bs, a, b, c, d, x, y⟩ := h
  refine ⟨hs, bs.set k.toNat true, a, kbo_setB b _, c, by simpa using d, x, fun i hi => ?_⟩
  rw [getD_set (by omega), y i hi]
  have : (i = k.toNat) ↔ ((i : Int) = k) := by omega
  rw [this]
theorem PtsAre.lenH {hv bv : List Value} {CH CB : Int → Prop} (h : PtsAre hv bv CH CB) : hv.length = 44 := by
  obtain ⟨hs, bs, a, b, c, d, x, y⟩ := h
  exact a.length.trans c
theorem PtsAre.lenB {hv bv : List Value} {CH CB : Int → Prop} (h : PtsAre hv bv CH CB) : bv.length = 44 := by
  obtain ⟨hs, bs, a, b, c, d, x, y⟩ := h
  exact b.length.trans d

theorem set_led {prog : Program} {w : World} {A : Around} {E : Value → Shared → Prop} {s : Shared} {h₀ : Heap} {L D : Addr} {m : Str → Option Value} {news news' : List (Addr × Obj)} {vs : List Value} {n : Nat} {k : Int} {t : Tok} {x : Value} {Q : Unit → Shared → Prop}
    (F : Fr h₀ L s.heap m) (N : News h₀ L s.heap news) (U : Upd D (listOf vs.toArray n) (listOf (vs.set k.toNat x).toArray n) news news') (h0 : 0 ≤ k) (h1 : k < vs.length) (hz : vs.length ≤ 1000)
    (h : ∀ h', Fr h₀ L h' m → News h₀ L h' news' → Q () { s with heap := h' }) : wpAny (model prog w) A (setItem (.ref D) (.int k t) x) Q E s := by
  obtain ⟨pre, post, rfl, rfl, a, b'⟩ := U.split
  have z := N (D, listOf vs.toArray n) (List.mem_append.mpr (.inr (.head _)))
  refine ki_setAt z.1 h0 (by omega) (by rw [List.size_toArray]; exact h1) (h _ (F.change (Heap.SameBut.update ..) z.2.1 z.2.2) (ki_turn _ N a b' ?_ ?_))
  · show vs.toArray.setIfInBounds k.toNat x = (vs.set k.toNat x).toArray
    apply Array.toList_inj.mp
    simp
  · simp

def HeldBy (rows : List (List (Int × Int))) (i : Int) : Prop := ∃ ps ∈ rows, ∃ p ∈ ps, p.1 ≤ i ∧ i ≤ p.2
def BridgedBy (rows : List (List (Int × Int))) (i : Int) : Prop := ∃ ps ∈ rows, ∃ p ∈ ps, p.1 ≤ i ∧ i < p.2

def PtJ (rl hl bl : Addr) (pre : List (Addr × Obj)) (ns : List (Str × Value)) (CH CB : Int → Prop) (m : Str → Option Value) (nx : List (Addr × Obj)) : Prop :=
  ∃ hv bv n1 n2, nx = (hl, listOf (List.toArray hv) n1) :: (bl, listOf (List.toArray bv) n2) :: pre ∧ PtsAre hv bv CH CB ∧ (∀ p ∈ (Str.ofString "rows", Value.ref rl) :: (Str.ofString "held", Value.ref hl) :: (Str.ofString "bridged", Value.ref bl) :: ns, m p.1 = some p.2)

theorem rep_false : ∀ n i : Nat, (List.replicate n false).getD i false = false
  | 0, i => by simp
  | n + 1, 0 => rfl
  | n + 1, i + 1 => by
    have := rep_false n i
    simpa [List.replicate_succ] using this
theorem ch_step {H : Prop} {a x : Int} {k : Nat} : (x = a + k ∨ (H ∨ (a ≤ x ∧ x < a + k))) ↔ (H ∨ (a ≤ x ∧ x < a + ((k + 1 : Nat) : Int))) := by
  constructor
  · rintro (h | h | h)
    · right; omega
    · left; exact h
    · right; omega
  · rintro (h | h)
    · right; left; exact h
    · by_cases e : x = a + k
      · left; exact e
      · right; right; omega
theorem cb_step {H : Prop} {a b x : Int} {k : Nat} (hb : a + k < b) : (x = a + k ∨ (H ∨ (a ≤ x ∧ x < a + k ∧ x < b))) ↔ (H ∨ (a ≤ x ∧ x < a + ((k + 1 : Nat) : Int) ∧ x < b)) := by
  constructor
  · rintro (h | h | h)
    · right; omega
    · left; exact h
    · right; omega
  · rintro (h | h)
    · right; left; exact h
    · by_cases e : x = a + k
      · left; exact e
      · right; right; omega
theorem cb_skip {H : Prop} {a b x : Int} {k : Nat} (hb : ¬ a + k < b) : (H ∨ (a ≤ x ∧ x < a + k ∧ x < b)) ↔ (H ∨ (a ≤ x ∧ x < a + ((k + 1 : Nat) : Int) ∧ x < b)) := by
  constructor
  · rintro (h | h)
    · left; exact h
    · right; omega
  · rintro (h | h)
    · left; exact h
    · right; omega
theorem held_pair {A : Prop} {ps : List (Int × Int)} {j : Nat} {q : Int × Int} (hq : ps[j]? = some q) (hle : q.1 ≤ q.2) (x : Int) :
    ((A ∨ HeldBy [ps.take j] x) ∨ (q.1 ≤ x ∧ x < q.1 + ((q.2 + 1 - q.1).toNat : Int))) ↔ (A ∨ HeldBy [ps.take (j + 1)] x) := by
  have e : ps.take (j + 1) = ps.take j ++ [q] := by rw [List.take_add_one, hq]; rfl
  have e2 : ((q.2 + 1 - q.1).toNat : Int) = q.2 + 1 - q.1 := by omega
  rw [e, e2]
  constructor
  · rintro ((h | ⟨ps', hm, p, hp, h1, h2⟩) | h)
    · exact .inl h
    · rw [List.mem_singleton.mp hm] at hp
      exact .inr ⟨_, .head _, p, List.mem_append_left _ hp, h1, h2⟩
    · exact .inr ⟨_, .head _, q, List.mem_append_right _ (.head _), by omega, by omega⟩
  · rintro (h | ⟨ps', hm, p, hp, h1, h2⟩)
    · exact .inl (.inl h)
    · rw [List.mem_singleton.mp hm] at hp
      rcases List.mem_append.mp hp with hp | hp
      · exact .inl (.inr ⟨_, .head _, p, hp, h1, h2⟩)
      · rw [List.mem_singleton.mp hp] at h1 h2
        exact .inr ⟨by omega, by omega⟩
theorem bridged_pair {A : Prop} {ps : List (Int × Int)} {j : Nat} {q : Int × Int} (hq : ps[j]? = some q) (hle : q.1 ≤ q.2) (x : Int) :
    ((A ∨ BridgedBy [ps.take j] x) ∨ (q.1 ≤ x ∧ x < q.1 + ((q.2 + 1 - q.1).toNat : Int) ∧ x < q.2)) ↔ (A ∨ BridgedBy [ps.take (j + 1)] x) := by
  have e : ps.take (j + 1) = ps.take j ++ [q] := by rw [List.take_add_one, hq]; rfl
  have e2 : ((q.2 + 1 - q.1).toNat : Int) = q.2 + 1 - q.1 := by omega
  rw [e, e2]
  constructor
  · rintro ((h | ⟨ps', hm, p, hp, h1, h2⟩) | h)
    · exact .inl h
    · rw [List.mem_singleton.mp hm] at hp
      exact .inr ⟨_, .head _, p, List.mem_append_left _ hp, h1, h2⟩
    · exact .inr ⟨_, .head _, q, List.mem_append_right _ (.head _), by omega, by omega⟩
  · rintro (h | ⟨ps', hm, p, hp, h1, h2⟩)
    · exact .inl (.inl h)
    · rw [List.mem_singleton.mp hm] at hp
      rcases List.mem_append.mp hp with hp | hp
      · exact .inl (.inr ⟨_, .head _, p, hp, h1, h2⟩)
      · rw [List.mem_singleton.mp hp] at h1 h2
        exact .inr ⟨by omega, by omega, by omega⟩
theorem held_row {rows : List (List (Int × Int))} {i : Nat} {ps : List (Int × Int)} (h : rows[i]? = some ps) (x : Int) : (HeldBy (rows.take i) x ∨ HeldBy [ps] x) ↔ HeldBy (rows.take (i + 1)) x := by
  have e : rows.take (i + 1) = rows.take i ++ [ps] := by rw [List.take_add_one, h]; rfl
  rw [e]
  constructor
  · rintro (⟨ps', hm, r⟩ | ⟨ps', hm, r⟩)
    · exact ⟨ps', List.mem_append_left _ hm, r⟩
    · exact ⟨ps', List.mem_append_right _ hm, r⟩
  · rintro ⟨ps', hm, r⟩
    rcases List.mem_append.mp hm with hm | hm
    · exact .inl ⟨ps', hm, r⟩
    · exact .inr ⟨ps', hm, r⟩
theorem bridged_row {rows : List (List (Int × Int))} {i : Nat} {ps : List (Int × Int)} (h : rows[i]? = some ps) (x : Int) : (BridgedBy (rows.take i) x ∨ BridgedBy [ps] x) ↔ BridgedBy (rows.take (i + 1)) x := by
  have e : rows.take (i + 1) = rows.take i ++ [ps] := by rw [List.take_add_one, h]; rfl
  rw [e]
  constructor
  · rintro (⟨ps', hm, r⟩ | ⟨ps', hm, r⟩)
    · exact ⟨ps', List.mem_append_left _ hm, r⟩
    · exact ⟨ps', List.mem_append_right _ hm, r⟩
  · rintro ⟨ps', hm, r⟩
    rcases List.mem_append.mp hm with hm | hm
    · exact .inl ⟨ps', hm, r⟩
    · exact .inr ⟨ps', hm, r⟩

local macro_rules | `(tactic| walk_at "setItem ref int bool") => `(tactic| (k_here; k_dflt (refine' set_led ?k1 ?k2 ?k3 ?k4 ?k5 ?k6 ?_; (case k1 => k_asm); (case k2 => k_asm); (case k3 => k_upd); (case k4 => walk_at "MINE num"); (case k5 => walk_at "MINE num"); (case k6 => walk_at "MINE num"); k_whole); intro h' F' N'; (try k_sweep)))

theorem points_spec (w : World) (rl : Addr) (rvs : List Value) (rn : Nat) (rows : List (List (Int × Int))) (hb : ∀ ps ∈ rows, ∀ p ∈ ps, 0 ≤ p.1 ∧ p.1 ≤ p.2 ∧ p.2 ≤ 40) (hz : ∀ ps ∈ rows, ps.length ≤ 100) :
    Ctr w 54 1 [.ref rl] [] (fun h => h.get? rl = some (listOf rvs.toArray rn) ∧ Each (RowAt h) rvs rows)
      (fun r _ A' => ∃ t hl bl hv bv n1 n2, r = .ref t ∧ A' = [(t, tup #[.ref hl, .ref bl] 0), (hl, listOf (List.toArray hv) n1), (bl, listOf (List.toArray bv) n2)] ∧ PtsAre hv bv (HeldBy rows) (BridgedBy rows)) := by
  unfold Ctr
  w_top off
  k_fill
  intro mean mg mb dp un gd cn cs L a ccd cl outer A₀ base h₀ m s Q E B F X N T hk hpre hd hu hret
  have hcL := cLine_is
  refine wpAny_call ?_
  walk_at "MINE enter"
  intro g L' h₁ FG F' N' B' X' T' hG hL'
  generalize s.toks + List.length _ = tk00
  try dsimp only
  k_fold
  have HR : Each (RowAt g) rvs rows := hpre.2.mono fun _ _ k => k.keeps fun b o e => hG b o e (by simp)
  have HL : g.IsList rl rvs.toArray := PySem.IsL.isList (hG _ _ hpre.1 (by simp))
  k_steps
  rename_i _ lh hh1 _ hl hh2 l2 hh3 _ lb hh4 l4 bl hh5 l5 hh6 F6 N6 _
  refine Stop.of ?_
  refine loopJ_list (news := [(hl, listOf (List.toArray (List.replicate 44 (Value.bool false))) 0), (bl, listOf (List.toArray (List.replicate 44 (Value.bool false))) 0)]) (fun i => PtJ rl hl bl [] [] (HeldBy (rows.take i)) (BridgedBy (rows.take i))) rfl HL F6 (cb_drop N6 (by kcf_all)) ?h0 ?turn ?done
  case h0 =>
    refine ⟨_, _, 0, 0, rfl, ⟨List.replicate 44 false, List.replicate 44 false, ?_, ?_, by simp, by simp, fun i hi => ?_, fun i hi => ?_⟩, List.forall_mem_cons.mpr ⟨rfl, List.forall_mem_cons.mpr ⟨rfl, List.forall_mem_cons.mpr ⟨rfl, List.forall_mem_nil _⟩⟩⟩⟩
    · exact .cons _ (.cons _ (.cons _ (.cons _ (.cons _ (.cons _ (.cons _ (.cons _ (.cons _ (.cons _ (.cons _ (.cons _ (.cons _ (.cons _ (.cons _ (.cons _ (.cons _ (.cons _ (.cons _ (.cons _ (.cons _ (.cons _ (.cons _ (.cons _ (.cons _ (.cons _ (.cons _ (.cons _ (.cons _ (.cons _ (.cons _ (.cons _ (.cons _ (.cons _ (.cons _ (.cons _ (.cons _ (.cons _ (.cons _ (.cons _ (.cons _ (.cons _ (.cons _ (.cons _ .nil)))))))))))))))))))))))))))))))))))))))))))
    · exact .cons _ (.cons _ (.cons _ (.cons _ (.cons _ (.cons _ (.cons _ (.cons _ (.cons _ (.cons _ (.cons _ (.cons _ (.cons _ (.cons _ (.cons _ (.cons _ (.cons _ (.cons _ (.cons _ (.cons _ (.cons _ (.cons _ (.cons _ (.cons _ (.cons _ (.cons _ (.cons _ (.cons _ (.cons _ (.cons _ (.cons _ (.cons _ (.cons _ (.cons _ (.cons _ (.cons _ (.cons _ (.cons _ (.cons _ (.cons _ (.cons _ (.cons _ (.cons _ (.cons _ .nil)))))))))))))))))))))))))))))))))))))))))))
    · rw [rep_false]; simp [HeldBy]
    · rw [rep_false]; simp [BridgedBy]
  case turn =>
    rintro i v m₁ nx I oI h tk hlt hv ⟨hv9, bv9, n1, n2, rfl, hP, hm⟩ hne F₁ N₁
    rw [← over_eq hm] at F₁
    change Fr g L' h _ at F₁
    change News g L' h _ at N₁
    obtain ⟨ps, hps, hrow⟩ := HR.getL (i := i) (a := v) (by simpa using hv)
    have hbp := hb ps (List.mem_of_getElem? hps)
    have hzp := hz ps (List.mem_of_getElem? hps)
    obtain ⟨hne1, hne⟩ := List.forall_mem_cons.mp hne
    obtain ⟨hne2, hne⟩ := List.forall_mem_cons.mp hne
    dsimp only at hne1 hne2
    obtain ⟨ra, rvv, rnn, rfl, hrg, hre⟩ := hrow.ex
    k_steps
    refine Stop.of ?_
    refine loopJ_tup (news := (hl, listOf (List.toArray hv9) n1) :: (bl, listOf (List.toArray bv9) n2) :: [(I, oI)]) (fun j => PtJ rl hl bl [(I, oI)] [] (fun x => HeldBy (rows.take i) x ∨ HeldBy [ps.take j] x) (fun x => BridgedBy (rows.take i) x ∨ BridgedBy [ps.take j] x)) rfl ⟨_, hrg, rfl, _, rfl⟩ (by k_asm) (cb_drop N₁ (by kcf_all)) ?g0 ?gturn ?gdone
    case g0 => exact ⟨hv9, bv9, n1, n2, rfl, hP.congr (fun x => by simp [HeldBy]) (fun x => by simp [BridgedBy]), List.forall_mem_cons.mpr ⟨rfl, List.forall_mem_cons.mpr ⟨rfl, List.forall_mem_cons.mpr ⟨rfl, List.forall_mem_nil _⟩⟩⟩⟩
    case gturn =>
      rintro j v m₂ nx J oJ h2 tk2 hlt2 hv2 ⟨hv8, bv8, n3, n4, rfl, hP8, hm8⟩ hne8 F₂ N₂
      rw [← over_eq hm8] at F₂
      change Fr g L' h2 _ at F₂
      change News g L' h2 _ at N₂
      obtain ⟨q, hq, hpair⟩ := hre.getL (i := j) (a := v) (by simpa using hv2)
      have hbq := hbp q (List.mem_of_getElem? hq)
      obtain ⟨hn1, hne8⟩ := List.forall_mem_cons.mp hne8
      obtain ⟨hn2, hne8⟩ := List.forall_mem_cons.mp hne8
      obtain ⟨hn3, hne8⟩ := List.forall_mem_cons.mp hne8
      dsimp only at hn1 hn2 hn3
      obtain ⟨pa, t1, t2, pn, rfl, hpg⟩ := hpair.ex
      clear hv2
      k_steps
      refine Stop.of ?_
      rename IsRange _ _ _ _ _ _ _ _ => hR
      refine loopJ_range (news := (hl, listOf (List.toArray hv8) n3) :: (bl, listOf (List.toArray bv8) n4) :: [(J, oJ), (I, oI)]) (fun k => PtJ rl hl bl [(J, oJ), (I, oI)] [(Str.ofString "pair", Value.ref pa)] (fun x => (HeldBy (rows.take i) x ∨ HeldBy [ps.take j] x) ∨ (q.1 ≤ x ∧ x < q.1 + k)) (fun x => (BridgedBy (rows.take i) x ∨ BridgedBy [ps.take j] x) ∨ (q.1 ≤ x ∧ x < q.1 + k ∧ x < q.2))) rfl hR (small_one (by omega) (by omega) (by omega) (by omega)) (rangeSize_nat _ _) (by k_asm) (cb_drop (by k_asm) (by kcf_all)) ?k0 ?kturn ?kdone
      case k0 =>
        exact ⟨hv8, bv8, n3, n4, rfl, hP8.congr (fun x => ⟨.inl, fun h => h.elim id fun h => absurd h (by omega)⟩) (fun x => ⟨.inl, fun h => h.elim id fun h => absurd h (by omega)⟩), List.forall_mem_cons.mpr ⟨rfl, List.forall_mem_cons.mpr ⟨rfl, List.forall_mem_cons.mpr ⟨rfl, List.forall_mem_cons.mpr ⟨rfl, List.forall_mem_nil _⟩⟩⟩⟩⟩
      case kturn =>
        rintro k tk3 m₃ nx K oK h3 tk3' hk ⟨hv7, bv7, n5, n6, rfl, hP7, hm7⟩ hne7 F₃ N₃
        rw [← over_eq hm7] at F₃
        change Fr g L' h3 _ at F₃
        change News g L' h3 _ at N₃
        obtain ⟨hk1, hne7⟩ := List.forall_mem_cons.mp hne7
        obtain ⟨hk2, hne7⟩ := List.forall_mem_cons.mp hne7
        obtain ⟨hk3, hne7⟩ := List.forall_mem_cons.mp hne7
        obtain ⟨hk4, hne7⟩ := List.forall_mem_cons.mp hne7
        dsimp only at hk1 hk2 hk3 hk4
        have e1 := hP7.lenH
        have e2 := hP7.lenB
        k_steps
        · rename _ < q.2 => hlt7
          show TurnTo _ _ _ _ _ _ _
          rename Fr g L' _ _ => FZ
          rename News g L' _ _ => NZ
          exact TurnTo.intro FZ NZ [(hl, listOf (List.toArray (hv7.set (q.1 + k).toNat (.bool true))) n5), (bl, listOf (List.toArray (bv7.set (q.1 + k).toNat (.bool true))) n6), (J, oJ), (I, oI)] (by kcf_all) (by walk_at "MINE off") ⟨_, _, n5, n6, rfl, ((hP7.set (k := q.1 + k) (by omega) (by omega)).setB (k := q.1 + k) (by omega) (by omega)).congr (fun x => ch_step) (fun x => cb_step hlt7), List.forall_mem_cons.mpr ⟨rfl, List.forall_mem_cons.mpr ⟨rfl, List.forall_mem_cons.mpr ⟨rfl, List.forall_mem_cons.mpr ⟨rfl, List.forall_mem_nil _⟩⟩⟩⟩⟩
        · rename ¬ _ < q.2 => hlt7
          show TurnTo _ _ _ _ _ _ _
          rename Fr g L' _ _ => FZ
          rename News g L' _ _ => NZ
          exact TurnTo.intro FZ NZ [(hl, listOf (List.toArray (hv7.set (q.1 + k).toNat (.bool true))) n5), (bl, listOf (List.toArray bv7) n6), (J, oJ), (I, oI)] (by kcf_all) (by walk_at "MINE off") ⟨_, _, n5, n6, rfl, (hP7.set (k := q.1 + k) (by omega) (by omega)).congr (fun x => ch_step) (fun x => cb_skip hlt7), List.forall_mem_cons.mpr ⟨rfl, List.forall_mem_cons.mpr ⟨rfl, List.forall_mem_cons.mpr ⟨rfl, List.forall_mem_cons.mpr ⟨rfl, List.forall_mem_nil _⟩⟩⟩⟩⟩
      case kdone =>
        rintro m₃ nx h3 tk3' ⟨hv7, bv7, n5, n6, rfl, hP7, hm7⟩ F₃ N₃
        rw [← over_eq hm7] at F₃
        change Fr g L' h3 _ at F₃
        change News g L' h3 _ at N₃
        k_steps
        show TurnTo _ _ _ _ _ _ _
        exact TurnTo.intro F₃ N₃ [(hl, listOf (List.toArray hv7) n5), (bl, listOf (List.toArray bv7) n6), (I, oI)] (by kcf_all) (by walk_at "MINE off") ⟨_, _, n5, n6, rfl, hP7.congr (fun x => held_pair hq (by omega) x) (fun x => bridged_pair hq (by omega) x), List.forall_mem_cons.mpr ⟨rfl, List.forall_mem_cons.mpr ⟨rfl, List.forall_mem_cons.mpr ⟨rfl, List.forall_mem_nil _⟩⟩⟩⟩
    case gdone =>
      rintro m₂ nx h2 tk2 ⟨hv8, bv8, n3, n4, rfl, hP8, hm8⟩ F₂ N₂
      rw [← over_eq hm8] at F₂
      change Fr g L' h2 _ at F₂
      change News g L' h2 _ at N₂
      have er : ps.take rvv.toArray.size = ps := by rw [List.size_toArray, hre.length, List.take_length]
      rw [er] at hP8
      k_steps
      show TurnTo _ _ _ _ _ _ _
      exact TurnTo.intro F₂ N₂ [(hl, listOf (List.toArray hv8) n3), (bl, listOf (List.toArray bv8) n4)] (by kcf_all) (by walk_at "MINE off") ⟨_, _, n3, n4, rfl, hP8.congr (fun x => held_row hps x) (fun x => bridged_row hps x), List.forall_mem_cons.mpr ⟨rfl, List.forall_mem_cons.mpr ⟨rfl, List.forall_mem_cons.mpr ⟨rfl, List.forall_mem_nil _⟩⟩⟩⟩
  case done =>
    rintro m₁ nx h tk ⟨hv9, bv9, n1, n2, rfl, hP, hm⟩ F₁ N₁
    rw [← over_eq hm] at F₁
    change Fr g L' h _ at F₁
    change News g L' h _ at N₁
    have er : rows.take rvs.toArray.size = rows := by rw [List.size_toArray, HR.length, List.take_length]
    rw [er] at hP
    k_steps
    rename_i D9 h9 F9 N9 l9 kF kN Tc kX
    exact hret _ _ _ [(D9, tup #[.ref hl, .ref bl] 0), (hl, listOf (List.toArray hv9) n1), (bl, listOf (List.toArray bv9) n2)] kF (cb_drop kN (by kcf_all)) (kept_of hG F9 (cb_drop N9 (by kcf_all))) ⟨D9, hl, bl, hv9, bv9, n1, n2, rfl, rfl, hP⟩

end Mine
end

section
open PySem PySem.W PyProof.Rows PySem.Calls
set_option Elab.async false
set_option maxRecDepth 100000
set_option maxHeartbeats 8000000
set_option pp.deepTerms false
set_option pp.proofs false
namespace Mine
local macro_rules | `(tactic| walk_at "MINE enter") => `(tactic| k_dflt (
  refine' call_part ?k1 ?k2 ?k3 ?k4 ?k5 ?kA ?kF ?kK ?k6 ?k7 ?k8 ?k9 ?kB ?_ ?c2 ?c3 ?c4 ?c5; (case kA => exact rfl); (case kF => exact rfl); (case kK => assumption); (case k1 => k_asm); (case k2 => k_asm); (case k3 => k_asm); (case k4 => k_asm); (case k5 => k_asm); (case k6 => k_is); (case k7 => k_is); (case k8 => ktr_room); (case k9 => exact BindsTo.of_eq rfl); (case c5 => decide); (case kB => exact locs rfl); (case c2 => exact rfl); (case c3 => exact rfl); (case c4 => exact rfl); k_whole))
local macro_rules | `(tactic| units_room) => `(tactic| ((have hcL9 := cLine_is); (simp only [units_in1, units_deeper, Around.mark_units] at *); (try dsimp only [ktrTop] at *); omega))
local macro_rules | `(tactic| walk_at "call builtin:list.pop") => `(tactic| (k_here; (with_reducible show wpAny _ _ (call (Value.builtin _) [Value.ref _, Value.int _ _]) _ _ _); k_dflt (refine' pop0 ?F ?N ?U ?z ?_; (case F => k_asm); (case N => k_asm); (case U => k_upd); (case z => omega)); (intro h' F' N')))
local macro_rules | `(tactic| walk_at "call ref") => `(tactic| (k_here; (with_reducible show wpAny _ _ (call (Value.ref _) _) _ _ _); refine Stop.go ?_))
local macro_rules | `(tactic| walk_at "pyIter ref") => `(tactic| ((with_reducible show wpAny _ _ (pyIter (Value.ref _)) (fun it s₂ => LoopAtV _ _ _ _ _ _ _ _ _ it s₂) _ _); refine Stop.go ?_))
local macro_rules | `(tactic| walk_at "MINE at") => `(tactic| first
  | assumption
  | exact PairAt.keeps (Fr.keep (by k_asm)) (by assumption)
  | exact RowAt.keeps (Fr.keep (by k_asm)) (by assumption)
  | exact BoolList.keeps (Fr.keep (by k_asm)) (by assumption)
  | exact PairIn.at (by k_asm) (by assumption)
  | exact RowIn.at (by k_asm) (by assumption)
  | exact BoolIn.at (by k_asm) (by assumption))
local macro_rules | `(tactic| walk_at "MINE num") => `(tactic| first | omega | ((repeat (rename decide _ = true => hx9; replace hx9 := of_decide_eq_true hx9)); (repeat (rename decide _ = false => hx9; replace hx9 := of_decide_eq_false hx9)); omega))
local macro_rules | `(tactic| walk_at "MINE sub") => `(tactic| (k_here; (with_reducible show wpAny _ _ (subscriptTail _ _ (Value.ref _) (Value.int _ _)) _ _ _); k_dflt (first
  | (refine' sub_led ?k1 ?k2 ?k3 ?k4 ?k5 ?_ ?k6; (case k1 => k_asm); (case k2 => k_mem); (case k3 => decide); (case k4 => decide); (case k5 => rfl); (case k6 => with_unfolding_all rfl); k_whole)
  | ((with_reducible show wpAny _ _ (subscriptTail _ _ (Value.ref _) (Value.int 0 _)) _ _ _); refine' sub_pair0 ?k1 ?_ ?k6 ?k7; (case k1 => walk_at "MINE at"); (case k6 => with_unfolding_all rfl); (case k7 => (intro _; with_unfolding_all rfl)); k_whole; intro t')
  | ((with_reducible show wpAny _ _ (subscriptTail _ _ (Value.ref _) (Value.int 1 _)) _ _ _); refine' sub_pair1 ?k1 ?_ ?k6 ?k7; (case k1 => walk_at "MINE at"); (case k6 => with_unfolding_all rfl); (case k7 => (intro _; with_unfolding_all rfl)); k_whole; intro t')
  | (refine' sub_row ?k1 ?k2 ?k3 ?k4 ?_ ?k6 ?k7; (case k1 => walk_at "MINE at"); (case k2 => walk_at "MINE num"); (case k3 => walk_at "MINE num"); (case k4 => walk_at "MINE num"); (case k6 => with_unfolding_all rfl); (case k7 => (intro _; with_unfolding_all rfl)); k_whole; intro a' hp'; (try dsimp only at hp'))
  | (refine' sub_bools ?k1 ?k2 ?k3 ?k4 ?_ ?k6; (case k1 => walk_at "MINE at"); (case k2 => walk_at "MINE num"); (case k3 => walk_at "MINE num"); (case k4 => walk_at "MINE num"); (case k6 => with_unfolding_all rfl); k_whole))))
local macro_rules | `(tactic| walk_at "subscriptTail Name Constant ref int") => `(tactic| walk_at "MINE sub")
local macro_rules | `(tactic| walk_at "subscriptTail Name Name ref int") => `(tactic| walk_at "MINE sub")
local macro_rules | `(tactic| walk_at "subscriptTail Subscript Name Constant Constant ref int") => `(tactic| (k_here; k_dflt (refine kba_turn (value' := PySem.Expr.Name (PySem.Str.ofString "_") ⟨0, 0, 0, 0⟩) (fun _ => rfl) ?_)))
local macro_rules | `(tactic| walk_at "subscriptTail Subscript Name Name Constant ref int") => `(tactic| (k_here; k_dflt (refine kba_turn (value' := PySem.Expr.Name (PySem.Str.ofString "_") ⟨0, 0, 0, 0⟩) (fun _ => rfl) ?_)))
local macro_rules | `(tactic| walk_at "subscriptTail Subscript Name UnaryOp Constant ref int") => `(tactic| (k_here; k_dflt (refine kba_turn (value' := PySem.Expr.Name (PySem.Str.ofString "_") ⟨0, 0, 0, 0⟩) (fun _ => rfl) ?_)))
local macro_rules | `(tactic| walk_at "MINE for") => `(tactic| (k_here; (rename Fr _ _ _ _ => lF'); (with_unfolding_all refine' For_invVF lF' ?k1 ?k2 ?_; (case k1 => exact rfl); (case k2 => exact rfl); k_whole)))
local macro_rules | `(tactic| walk_at "exec For Name Name cons nil") => `(tactic| walk_at "MINE for")
local macro_rules | `(tactic| walk_at "exec For Name Call cons nil") => `(tactic| walk_at "MINE for")
local macro_rules | `(tactic| walk_at "exec For Name Subscript cons nil") => `(tactic| walk_at "MINE for")
local macro_rules | `(tactic| walk_at "eval Name") => `(tactic| (k_here; k_dflt (first
  | (refine' nameX_L ?F ?v ?_ ?a ?b; (case F => k_asm); (case a => rfl); (case b => rfl); (case v => rfl); k_whole)
  | (refine' nameX_K ?F ?X ?T ?e ?_ ?a ?b; (case F => k_asm); (case X => k_asm); (case T => k_asm); (case a => rfl); (case b => rfl); (case e => k_is); k_whole)
  | (refine' nameX_B ?F ?X ?T ?e ?v ?n ?_ ?a ?b; (case F => k_asm); (case X => k_asm); (case T => k_asm); (case a => rfl); (case b => rfl); (case e => k_is); (case v => first | boot_by_name | exact PyProof.Rows.boot_abs | exact PyProof.Rows.boot_max | exact PyProof.Rows.boot_isinstance | boot_fast); (case n => decide); k_whole))))
local macro_rules | `(tactic| walk_at "storeName") => `(tactic| (k_here; k_dflt (refine' storeX_L ?F ?N ?_ ?a ?b; (case F => k_asm); (case N => k_asm); (case a => rfl); (case b => rfl); k_whole; intro h' F' N'; (try k_sweep))))
local macro_rules | `(tactic| walk_at "call builtin:len cons nil") => `(tactic| (k_here; k_dflt (refine' len_row ?k1 ?k2 ?_; (case k1 => walk_at "MINE at"); (case k2 => walk_at "MINE num"); k_whole)))
local macro_rules | `(tactic| walk_at "exec While") => `(tactic| (k_here; refine Stop.go ?_))
local macro_rules | `(tactic| walk_at "exec While Compare cons nil") => `(tactic| (k_here; refine Stop.go ?_))
local macro_rules | `(tactic| walk_at "MINE off") => `(tactic| first | exact List.forall_mem_nil _ | exact off_own (by assumption) (by k_allIn) | exact OwnOff.ne (by assumption) (by k_memK) | (refine List.forall_mem_cons.mpr ⟨?_, ?_⟩ <;> walk_at "MINE off") | k_ne)
local macro_rules | `(tactic| walk_at "call type:range") => `(tactic| (k_here; k_dflt (first
  | (refine' range1' ?k1 ?k2 ?_; (case k1 => k_asm); (case k2 => k_asm); k_whole)
  | (refine' range2' ?k1 ?k2 ?_; (case k1 => k_asm); (case k2 => k_asm); k_whole)); intro r' h' tk' t1' u1' v1' hR' F' N'; (try k_sweep)))
local macro_rules | `(tactic| walk_at "call builtin:list.append cons cons nil") => `(tactic| (k_here; (with_reducible show wpAny _ _ (call (Value.builtin _) [Value.ref _, _]) _ _ _); k_dflt (refine' append_of ?k1 ?k2 ?k3 ?z ?_; (case k1 => k_asm); (case k2 => k_asm); (case k3 => k_upd); (case z => omega); k_whole); intro h' F' N'; (try k_sweep)))
local macro_rules | `(tactic| walk_at "call builtin:list.append") => `(tactic| (k_here; (with_reducible show wpAny _ _ (call (Value.builtin _) [Value.ref _, _]) _ _ _); k_dflt (refine' append_of ?k1 ?k2 ?k3 ?z ?_; (case k1 => k_asm); (case k2 => k_asm); (case k3 => k_upd); (case z => omega); k_whole); intro h' F' N'; (try k_sweep)))
local macro_rules | `(tactic| walk_at "call type:tuple") => `(tactic| (k_here; (with_reducible show wpAny _ _ (call (Value.type _) [Value.ref _]) _ _ _); k_dflt (refine' tuple_of ?k1 ?k2 ?k3 ?k4 ?_; (case k1 => k_asm); (case k2 => k_asm); (case k3 => k_mem); (case k4 => omega); k_whole); intro D' h' F' N' l1'; (try k_lt l1'); (try k_sweep)))
local macro_rules | `(tactic| walk_at "WhileStep2 ret") => `(tactic| dsimp only [WhileStep2])
local macro_rules | `(tactic| walk_at "WhileStep2 brk") => `(tactic| dsimp only [WhileStep2])
local macro_rules | `(tactic| walk_at "Turn ret") => `(tactic| dsimp only [Turn])
local macro_rules | `(tactic| walk_at "Turn brk") => `(tactic| dsimp only [Turn])
local macro_rules | `(tactic| walk_at "eval ListComp") => `(tactic| (k_here; k_dflt (refine LCg.ListComp_U (F₀ := by k_asm) (by with_unfolding_all rfl) (by decide) (by rfl) (by decide) (by rfl) ?_)))
local macro_rules | `(tactic| walk_at "CompSrc") => `(tactic| refine Stop.go ?_)
local macro_rules | `(tactic| walk_at "subscriptTail ListComp") => `(tactic| (k_here; k_dflt (refine kba_turn (value' := PySem.Expr.Name (PySem.Str.ofString "_") ⟨0, 0, 0, 0⟩) (fun _ => rfl) ?_)))
local macro_rules | `(tactic| walk_at "execs cons") => `(tactic| (k_here; refine execs_gen ?_; intro tk'; (try dsimp only)))
local macro_rules | `(tactic| walk_at "execs nil") => `(tactic| (k_here; refine wpAny_execs_nil ?_))
local macro_rules | `(tactic| walk_at "CompEnd") => `(tactic| refine Stop.go ?_)


def StJ (hl bl fd : Addr) (CH CB : Int → Prop) (n : Nat) (m : Str → Option Value) (nx : List (Addr × Obj)) : Prop :=
  ∃ pt tp fv fn tups ps, (∀ p ∈ [(Str.ofString "held", Value.ref hl), (Str.ofString "bridged", Value.ref bl), (Str.ofString "found", Value.ref fd), (Str.ofString "point", Value.int pt tp)], m p.1 = some p.2) ∧
    nx = (fd, listOf (List.toArray fv) fn) :: tups ∧ Each (PairIn tups) fv ps ∧ OwnOff tups [fd] ∧ 0 ≤ pt ∧ pt ≤ 44 ∧ n = (44 - pt).toNat ∧ Upto CH CB ps pt
def SiJ (hl bl fd : Addr) (CB : Int → Prop) (pt : Int) (tp : Tok) (led : List (Addr × Obj)) (n : Nat) (m : Str → Option Value) (nx : List (Addr × Obj)) : Prop :=
  ∃ la tl, (∀ p ∈ [(Str.ofString "held", Value.ref hl), (Str.ofString "bridged", Value.ref bl), (Str.ofString "found", Value.ref fd), (Str.ofString "point", Value.int pt tp), (Str.ofString "last", Value.int la tl)], m p.1 = some p.2) ∧
    nx = led ∧ pt ≤ la ∧ la < 44 ∧ n = (44 - la).toNat ∧ ∀ x, pt ≤ x → x < la → CB x

theorem str_spec (w : World) (hl bl : Addr) (hs bs : List Bool) (h44 : hs.length = 44) (b44 : bs.length = 44) (CH CB : Int → Prop) (eH : ∀ i : Nat, i < 44 → (hs.getD i false = true ↔ CH i)) (eB : ∀ i : Nat, i < 44 → (bs.getD i false = true ↔ CB i))
    (bH : ∀ x, CH x → 0 ≤ x ∧ x < 44) (bB : ∀ x, CB x → CH x ∧ CH (x + 1)) :
    Ctr w 61 1 [.ref hl, .ref bl] [] (fun h => BoolList h hl hs ∧ BoolList h bl bs)
      (fun r _ A' => ∃ ps, RowIn A' r ps ∧ Canon CH CB ps ∧ ps.length ≤ 44) := by
  unfold Ctr
  w_top off
  k_fill
  intro mean mg mb dp un gd cn cs L a ccd cl outer A₀ base h₀ m s Q E B F X N T hk hpre hd hu hret
  have hcL := cLine_is
  refine wpAny_call ?_
  walk_at "MINE enter"
  intro g L' h₁ FG F' N' B' X' T' hG hL'
  generalize s.toks + List.length _ = tk00
  try dsimp only
  k_fold
  have HH : BoolList g hl hs := BoolList.keeps (fun b o e => hG b o e (by simp)) hpre.1
  have HB : BoolList g bl bs := BoolList.keeps (fun b o e => hG b o e (by simp)) hpre.2
  have bB2 : ∀ x, CB x → 0 ≤ x ∧ x < 43 := fun x h => by
    have h1 := bH _ (bB x h).1
    have h2 := bH _ (bB x h).2
    omega
  k_steps
  rename_i fd hh0 l0 x1 x2 x3 x4 x5 x6
  refine Stop.of ?_
  refine While_inv2 (StJ hl bl fd CH CB) (n₀ := 44) (by k_asm) (by k_asm) ⟨0, _, [], 0, [], [], List.forall_mem_cons.mpr ⟨rfl, List.forall_mem_cons.mpr ⟨rfl, List.forall_mem_cons.mpr ⟨rfl, List.forall_mem_cons.mpr ⟨rfl, List.forall_mem_nil _⟩⟩⟩⟩, rfl, .nil, own_nil, by decide, by decide, by decide, Upto.start (fun x h => (bH x h).1) (fun x h => (bB2 x h).1)⟩ ?turn
  rintro n m₁ nx h tk F₁ N₁ ⟨pt, tp, fv, fn, tups, ps, hm, rfl, hE, hO, hp0, hp1, hn, U⟩
  rw [← over_eq hm] at F₁
  have hfl := hE.length
  have hpl := U.len
  k_steps
  · refine Stop.of ?_
    have hk : CH pt := by
      have := (eH pt.toNat (by omega)).mp (by assumption)
      rwa [show ((pt.toNat : Nat) : Int) = pt by omega] at this
    refine While_inv2 (SiJ hl bl fd CB pt tp ((fd, listOf (List.toArray fv) fn) :: tups)) (n₀ := (44 - pt).toNat) (by k_asm) (by k_asm) ⟨pt, tp, List.forall_mem_cons.mpr ⟨rfl, List.forall_mem_cons.mpr ⟨rfl, List.forall_mem_cons.mpr ⟨rfl, List.forall_mem_cons.mpr ⟨rfl, List.forall_mem_cons.mpr ⟨rfl, List.forall_mem_nil _⟩⟩⟩⟩⟩, rfl, by omega, by omega, rfl, fun x h1 h2 => absurd h2 (by omega)⟩ ?iturn
    rintro n2 m₂ nx h2 tk2 F₂ N₂ ⟨la, tl, hm2, rfl, hl1, hl2, hn2, hB2⟩
    rw [← over_eq hm2] at F₂
    k_steps
    · rename bs.getD _ _ = true => hb9
      rename Fr g L' _ _ => F9
      rename News g L' _ _ => N9
      have hcb : CB la := by
        have := (eB la.toNat (by omega)).mp hb9
        rwa [show ((la.toNat : Nat) : Int) = la by omega] at this
      have h43 := (bB2 la hcb).2
      exact ws_next F9 N9 ((fd, listOf (List.toArray fv) fn) :: tups) (fun _ h => h) (n' := (44 - (la + 1)).toNat) (by omega) ⟨la + 1, _, List.forall_mem_cons.mpr ⟨rfl, List.forall_mem_cons.mpr ⟨rfl, List.forall_mem_cons.mpr ⟨rfl, List.forall_mem_cons.mpr ⟨rfl, List.forall_mem_cons.mpr ⟨rfl, List.forall_mem_nil _⟩⟩⟩⟩⟩, rfl, by omega, by omega, rfl, fun x h1 h2 => by
        by_cases e : x = la
        · exact e ▸ hcb
        · exact hB2 x h1 (by omega)⟩
    · rename bs.getD _ _ = false => hb9
      rename_i D9 q1 l9 hh9 a9 b9 F9 N9
      have hcb : ¬ CB la := fun k => by
        have := (eB la.toNat (by omega)).mpr (by rwa [show ((la.toNat : Nat) : Int) = la by omega])
        rw [hb9] at this
        exact absurd this (by decide)
      exact ws_next F9 N9 ((fd, listOf (List.toArray (fv ++ [.ref D9])) (fn + 1)) :: (D9, tup #[.int pt tp, .int la tl] 0) :: tups) (by kcf_all) (n' := (44 - (la + 1)).toNat) (by omega) ⟨la + 1, _, _, _, _, _, List.forall_mem_cons.mpr ⟨rfl, List.forall_mem_cons.mpr ⟨rfl, List.forall_mem_cons.mpr ⟨rfl, List.forall_mem_cons.mpr ⟨rfl, List.forall_mem_nil _⟩⟩⟩⟩, rfl, (pairs_tl hE).snoc ⟨_, _, _, _, rfl, .head _⟩, own_cons hO (fun b hb => by rw [List.mem_singleton.mp hb]; exact (Nat.ne_of_lt l9.1).symm), by omega, by omega, rfl, U.add hl1 hB2 hk (fun x h => (bB x h).2) hcb⟩
  · rename hs.getD _ _ = false => hb9
    rename Fr g L' _ _ => F9
    rename News g L' _ _ => N9
    have hch : ¬ CH pt := fun k => by
      have := (eH pt.toNat (by omega)).mpr (by rwa [show ((pt.toNat : Nat) : Int) = pt by omega])
      rw [hb9] at this
      exact absurd this (by decide)
    exact ws_next F9 N9 ((fd, listOf (List.toArray fv) fn) :: tups) (fun _ h => h) (n' := (44 - (pt + 1)).toNat) (by omega) ⟨pt + 1, _, _, _, _, _, List.forall_mem_cons.mpr ⟨rfl, List.forall_mem_cons.mpr ⟨rfl, List.forall_mem_cons.mpr ⟨rfl, List.forall_mem_cons.mpr ⟨rfl, List.forall_mem_nil _⟩⟩⟩⟩, rfl, hE, hO, by omega, by omega, rfl, U.skip hch (fun k => hch (bB pt k).1)⟩
  · rename_i D9 h9 F9 N9 l9 kF kN Tc kX
    exact hret _ _ _ ((D9, tup fv.toArray 0) :: tups) kF (cb_drop kN (by kcf_all)) (kept_of hG F9 (cb_drop N9 (by kcf_all))) ⟨ps, ⟨D9, fv, 0, rfl, .head _, pairs_tl hE⟩, U.done (fun x h => by have := (bH x h).2; omega) (fun x h => by have := (bB2 x h).2; omega), by omega⟩

end Mine
end

section
open PySem PySem.W PyProof.Rows PySem.Calls
set_option Elab.async false
set_option maxRecDepth 100000
set_option maxHeartbeats 8000000
namespace Mine
section
variable {prog : Program} {w : World} {A : Around} {E : Value → Shared → Prop} {s : Shared} {h₀ : Heap} {L D q : Addr} {m : Str → Option Value} {news : List (Addr × Obj)}
/-- a list of the ledger is sorted by a key that gives ints; the key's turn sees what it needs of the ledger -/
theorem sort_key {vs : List Value} {n : Nat} {kz : List Int} {news' : Obj → List (Addr × Obj)} {Q : Value → Shared → Prop} (need : List (Addr × Obj)) (F : Fr h₀ L s.heap m) (N : News h₀ L s.heap news) (U : ∀ o, Upd D (listOf vs.toArray n) o news (news' o))
    (hneed : ∀ p ∈ need, p ∈ news) (hoff : ∀ p ∈ need, @Ne Nat p.1 D) (hlen : kz.length = vs.length) (h64 : vs.length < 64)
    (turn : ∀ (i : Nat) (v : Value) (k : Int), vs[i]? = some v → kz[i]? = some k → ∀ (h : Heap) (tk : Nat) (all : List (Addr × Obj)), Fr h₀ L h m → News h₀ L h (need ++ all) →
      wpAny (model prog w) A.in1 (call (.ref q) [v]) (KskEnd h₀ L m all k { s with heap := h, toks := tk }) (fun _ _ => False) { s with heap := h, toks := tk })
    (h : ∀ h' tk out c, Fr h₀ L h' m → News h₀ L h' (news' (listOf (List.toArray out) c)) → KskOut false kz vs out → Q .none { s with heap := h', toks := tk }) :
    wpAny (model prog w) A (call (.builtin "list.sort") [.ref D] [(Str.ofString "key", .ref q)]) Q E s := by
  obtain ⟨pre, post, e1, -, x1, x2⟩ := (U (listOf vs.toArray n)).split
  have z := N (D, listOf vs.toArray n) (by rw [e1]; exact List.mem_append_right _ (.head _))
  have hsub : ∀ p ∈ pre ++ post, p ∈ news := fun p hp => by
    rw [e1]
    rcases List.mem_append.mp hp with hp | hp
    · exact List.mem_append_left _ hp
    · exact List.mem_append_right _ (.tail _ hp)
  have hne : ∀ p ∈ need, p ∈ pre ++ post := fun p hp => by
    have hq := hneed p hp
    rw [e1] at hq
    rcases List.mem_append.mp hq with hq | hq
    · exact List.mem_append_left _ hq
    · rcases List.mem_cons.mp hq with rfl | hq
      · exact absurd rfl (hoff _ hp)
      · exact List.mem_append_right _ hq
  refine wpAny_call_entry_kw slot_list_sort ⟨_, z.1, rfl⟩ entry_list_sort ?body (ksk_l1 _ _)
  case body =>
    show wpAny (model prog w) A.in1 (Builtin.«list.sort» ⟨[.ref D], [(Str.ofString "key", .ref q)]⟩) _ _ _
    rw [ksk_t1]
    refine ksk_sort (news := pre ++ post) F (fun p hp => N p (hsub p hp)) z.1 z.2.1 z.2.2 (fun p hp => ?_) hlen h64 (fun i v k hv hk hh tk own F' N' => ?_) fun h' tk out c F' N' k' => ⟨_, rfl, ?_⟩
    · rcases List.mem_append.mp hp with hp | hp
      · exact x1 p hp
      · exact x2 p hp
    · refine turn i v k hv hk hh tk _ F' fun p hp => ?_
      rcases List.mem_append.mp hp with hp | hp
      · exact N' p (List.mem_append_left _ (hne p hp))
      · exact N' p hp
    · obtain ⟨pre', post', e1', e2', x1', x2'⟩ := (U (listOf out c)).split
      have hN : News h₀ L h' (news' (listOf out c)) := by
        rw [e2']
        intro p hp
        rcases List.mem_append.mp hp with hp | hp
        · have hq : p ∈ news := by rw [e1']; exact List.mem_append_left _ hp
          rw [e1] at hq
          rcases List.mem_append.mp hq with hq | hq
          · exact N' p (.tail _ (List.mem_append_left _ hq))
          · rcases List.mem_cons.mp hq with rfl | hq
            · exact absurd rfl (x1' _ hp)
            · exact N' p (.tail _ (List.mem_append_right _ hq))
        · rcases List.mem_cons.mp hp with rfl | hp
          · exact N' _ (.head _)
          · have hq : p ∈ news := by rw [e1']; exact List.mem_append_right _ (.tail _ hp)
            rw [e1] at hq
            rcases List.mem_append.mp hq with hq | hq
            · exact N' p (.tail _ (List.mem_append_left _ hq))
            · rcases List.mem_cons.mp hq with rfl | hq
              · exact absurd rfl (x2' _ hp)
              · exact N' p (.tail _ (List.mem_append_right _ hq))
      exact h h' tk out.toList c F' (by rw [Array.toArray_toList]; exact hN) k'
end

theorem slice_from1 (v : Value) (vs : List Value) : (slicePick (v :: vs).toArray (some 1) none none).toList = vs := by
  have e : sliceBounds (some 1) none none (v :: vs).toArray.size = (((1 : Nat) : Int), ((vs.length + 1 : Nat) : Int), 1) := by
    have hs : (v :: vs).toArray.size = vs.length + 1 := by simp
    rw [hs]
    simp only [sliceBounds, Option.getD_none, show (1 : Int) > 0 by decide, if_true, if_neg (show ¬ ((1 : Int) < 0) by decide)]
    congr 1
    omega
  rw [kmk_pick_nat _ e]
  simp

section
variable {prog : Program} {w : World} {A : Around} {E : Value → Shared → Prop} {s : Shared} {h₀ : Heap} {L D : Addr} {m : Str → Option Value} {news news' : List (Addr × Obj)} {mi : List Value} {x v : Value} {n : Nat}
theorem set_last {t : Tok} {Q : Unit → Shared → Prop} (F : Fr h₀ L s.heap m) (N : News h₀ L s.heap news) (U : Upd D (listOf (mi ++ [x]).toArray n) (listOf (mi ++ [v]).toArray n) news news') (hz : mi.length ≤ 1000)
    (h : ∀ h', Fr h₀ L h' m → News h₀ L h' news' → Q () { s with heap := h' }) : wpAny (model prog w) A (setItem (.ref D) (.int (-1) t) v) Q E s := by
  obtain ⟨pre, post, rfl, rfl, a, b⟩ := U.split
  have z := N (D, listOf (mi ++ [x]).toArray n) (List.mem_append.mpr (.inr (.head _)))
  have hs : (mi ++ [x]).toArray.size = mi.length + 1 := by simp
  refine ki_setBack z.1 (by decide) (by rw [hs]; omega) (by decide) (h _ (F.change (Heap.SameBut.update ..) z.2.1 z.2.2) (ki_turn _ N a b ?_ ?_))
  · show (mi ++ [x]).toArray.setIfInBounds (-1 + ((mi ++ [x]).toArray.size : Int)).toNat v = (mi ++ [v]).toArray
    have e : (-1 + ((mi ++ [x]).toArray.size : Int)).toNat = mi.length := by rw [hs]; omega
    rw [e]
    apply Array.toList_inj.mp
    simp
  · simp
theorem sub_last {value slice : PySem.Expr} {u : Tok} {Q : Value → Shared → Prop} (N : News h₀ L s.heap news) (hm : (D, listOf (mi ++ [x]).toArray n) ∈ news) (hz : mi.length ≤ 1000) (h : Q x s)
    (hs : subscripted slice false (.ref D) (.int (-1) u) = operate [.ref D, .int (-1) u] (getItem (.ref D) (.int (-1) u)) := by with_unfolding_all rfl) :
    wpAny (model prog w) A (subscriptTail value slice (.ref D) (.int (-1) u)) Q E s := by
  have hsz : (mi ++ [x]).toArray.size = mi.length + 1 := by simp
  have e : (-1 + ((mi ++ [x]).toArray.size : Int)).toNat = mi.length := by rw [hsz]; omega
  refine tail_any (PySem.IsL.isList (n := n) (N _ hm).1).typeIs slot_list_getitem.lookup (wpAny_getItem_list_neg (x := x) (PySem.IsL.isList (n := n) (N _ hm).1) (by decide) (by rw [hsz]; omega) (by decide) ?_ h) hs
  rw [e]
  simp
theorem unpack_pair {env : Env} {elts : List Expr} {k : Nat} {pos : Pos} {p : Int × Int} {Q : Unit → Shared → Prop} (F : Fr h₀ L s.heap m) (N : News h₀ L s.heap news) (H : PairAt s.heap (.ref D) p)
    (hh : A.handled = none) (hn : (assignEach elts env).length = 2) (hstar : (assignEach elts env).findIdx? (·.1) = none)
    (h : ∀ t u h', Fr h₀ L h' m → News h₀ L h' news → wpAny (model prog w) A (assignInOrder ((assignEach elts env).map (·.2)) [.int p.1 t, .int p.2 u]) Q E { s with heap := h' }) :
    wpAny (model prog w) A (assign (.Tuple elts k pos) env (.ref D)) Q E s := by
  obtain ⟨t, u, ht⟩ := pair_tup H
  exact unpackN_ F N ht hh hn hstar fun h' F' N' => h t u h' F' N'
end
section
variable {prog : Program} {w : World} {A : Around} {E : Value → Shared → Prop} {s : Shared} {env : Env} {h₀ : Heap} {target : Expr} {body : List Stmt} {Q : Flow → Shared → Prop}
def TurnN (h₀ : Heap) (L : Addr) (I : Addr) (oI : Obj) (J : (Str → Option Value) → List (Addr × Obj) → Prop) (s₁ : Shared) (f : Flow) (s₂ : Shared) : Prop := f = .next ∧ TurnTo h₀ L I oI J s₁ s₂
/-- over a list of the ledger, with a target that is no plain name -/
theorem loopT_listL {l : Addr} {its : Array Value} {ln : Nat} {m₀ : Str → Option Value} {news : List (Addr × Obj)} (J : Nat → (Str → Option Value) → List (Addr × Obj) → Prop)
    (hh : A.handled = none) (hl : (l, listOf its ln) ∈ news) (F : Fr h₀ env.locals s.heap m₀) (N : News h₀ env.locals s.heap news) (h0 : J 0 m₀ news) (hJl : ∀ i m nx, J i m nx → (l, listOf its ln) ∈ nx)
    (turn : ∀ i v m₁ news₁ I oI s₁, i < its.size → its[i]? = some v → J i m₁ news₁ → (∀ p ∈ news₁, @Ne Nat p.1 I) → Fr h₀ env.locals s₁.heap m₁ → News h₀ env.locals s₁.heap ((I, oI) :: news₁) →
      wpAny (model prog w) A (assign target env v) (fun _ s₃ => wpAny (model prog w) A (execs body env) (TurnN h₀ env.locals I oI (J (i + 1)) s₁) E s₃) E s₁)
    (done : ∀ m₁ news₁ h tk, J its.size m₁ news₁ → Fr h₀ env.locals h m₁ → News h₀ env.locals h news₁ → Q .next { s with heap := h, toks := tk }) :
    wpAny (model prog w) A (pyIter (.ref l)) (fun it s₂ => LoopAtT prog w A h₀ env target body Q E it s₂) E s := by
  have hls : s.heap.IsList l its := PySem.IsL.isList (n := ln) (N _ hl).1
  have hlt : l < s.heap.objs.size := Heap.lt_size (N _ hl).1
  have hne : l ≠ s.heap.objs.size := Nat.ne_of_lt hlt
  refine wpAny_pyIter_list hls ?_
  have W := Walks.list (prog := prog) (w := w) hh s.heap.objs.size l hne its
  refine ⟨s.heap.objs.size, _, _, its.size, _, _, m₀, news, J, rfl, W, ?_, ?_, ?_,
    ⟨⟨_, Heap.get?_push_size _ rfl, rfl, rfl⟩, hls.at fun o e => Heap.get?_push_of_some _ e⟩, F.push _, (fun p hp => ⟨Heap.get?_push_of_some _ (N p hp).1, (N p hp).2⟩), (fun i s' v Q' st hQ' => letGo_listiter st.1 hQ'), h0, ?_, ?_⟩
  · intro hm
    rcases List.mem_cons.mp hm with e | hm
    · exact absurd F.ns.lt (e ▸ Nat.lt_irrefl _)
    · exact (N _ hl).2.1 (List.mem_singleton.mp hm).symm
  · intro b hb
    rw [List.mem_singleton.mp hb]
    exact next_is_new F
  · intro p hp hm
    exact absurd (List.mem_singleton.mp hm) (Nat.ne_of_lt (Heap.lt_size (N p hp).1))
  · rintro i v m₁ news₁ s₁ own hin hP hJ hoff hsub hget hall hst₁ F₁ N₁
    have hIo : ∃ o, s₁.heap.get? s.heap.objs.size = some o := by
      obtain ⟨o, e, _⟩ := hst₁.1
      exact ⟨o, e⟩
    obtain ⟨oI, hmI, hgI, N₂⟩ := own_one hIo (W.sub _ (.head _)) (next_is_new F) hall N₁
    refine wpAny_mono (turn i v m₁ news₁ _ oI s₁ hin hP hJ (fun p hp e => hoff p hp (e ▸ .head _)) F₁ N₂) (fun _ s₃ h₃ => wpAny_mono h₃ (fun f s₂ p => ?_) fun _ _ e => e) fun _ _ e => e
    obtain ⟨rfl, h', tk, m', news', rfl, F', N', hne', hJ'⟩ := p
    refine ⟨rfl, h', tk, m', news', rfl, F', own_back hgI (fun b hb => ?_) hsub hget (fun p hp => (N₁ p (List.mem_append_left _ hp)).2.2) N', fun p hp hq => hne' p hp (List.mem_singleton.mp hq), hJ'⟩
    rcases List.mem_cons.mp hb with e | hb
    · exact .inl e
    · have eb := List.mem_singleton.mp hb
      refine .inr (.inr ⟨listOf its ln, ?_, ?_⟩)
      · rw [eb]; exact (N₁ _ (List.mem_append_right _ (hJl _ _ _ hJ))).1
      · rw [eb]; exact hJl _ _ _ hJ'
  · rintro h' tk m' news' F' N' hq hJ
    exact done m' news' h' tk hJ F' N'
end

theorem perm_of_map {α β : Type} (f : α → β) : ∀ {l₁ l₂ : List β}, l₁.Perm l₂ → ∀ l : List α, l₂ = l.map f → ∃ l' : List α, l'.Perm l ∧ l₁ = l'.map f := by
  intro l₁ l₂ h
  induction h with
  | nil =>
    intro l e
    refine ⟨[], ?_, rfl⟩
    cases l with
    | nil => exact .refl _
    | cons a r => cases e
  | cons x _ ih =>
    intro l e
    cases l with
    | nil => cases e
    | cons a r =>
      obtain ⟨e1, e2⟩ := List.cons.inj e
      obtain ⟨l', hp, e'⟩ := ih r e2
      exact ⟨a :: l', hp.cons a, by rw [List.map_cons, ← e', ← e1]⟩
  | swap x y l₀ =>
    intro l e
    cases l with
    | nil => cases e
    | cons a r =>
      obtain ⟨e1, e2⟩ := List.cons.inj e
      cases r with
      | nil => cases e2
      | cons b r =>
        obtain ⟨e3, e4⟩ := List.cons.inj e2
        exact ⟨b :: a :: r, List.Perm.swap a b r, by rw [List.map_cons, List.map_cons, ← e1, ← e3, ← e4]⟩
  | trans _ _ ih1 ih2 =>
    intro l e
    obtain ⟨l2, hp2, e2⟩ := ih2 l e
    obtain ⟨l1, hp1, e1⟩ := ih1 l2 e2
    exact ⟨l1, hp1.trans hp2, e1⟩

theorem each_all {α β : Type} {R : α → β → Prop} : ∀ l : List (β × α), (∀ x ∈ l, R x.2 x.1) → Each R (l.map Prod.snd) (l.map Prod.fst)
  | [], _ => .nil
  | x :: r, h => .cons (h x (.head _)) (each_all r fun y hy => h y (.tail _ hy))
theorem each_zip {α β : Type} {R : α → β → Prop} : ∀ {as : List α} {bs : List β}, Each R as bs → ∀ x ∈ bs.zip as, R x.2 x.1
  | _, _, .nil, _, h => nomatch h
  | _, _, .cons h r, x, hx => by
    rcases List.mem_cons.mp hx with rfl | hx
    · exact h
    · exact each_zip r x hx

/-- what a sort by the first leaves of pairs -/
theorem sorted_pairs {R : Value → Int × Int → Prop} {as : List Value} {bs : List (Int × Int)} {out : List Value} (h : Each R as bs) (ko : KskOut false (bs.map Prod.fst) as out) :
    ∃ ps, Each R out ps ∧ ps.Perm bs ∧ ps.Pairwise fun p q => p.1 ≤ q.1 := by
  obtain ⟨qs, hperm, hout, hpw⟩ := ko
  have e0 : (bs.map Prod.fst).zip as = (bs.zip as).map fun x : (Int × Int) × Value => (x.1.1, x.2) := by
    rw [List.zip_map_left]
    rfl
  obtain ⟨l', hp, e⟩ := perm_of_map _ hperm _ e0
  subst e
  refine ⟨l'.map Prod.fst, ?_, ?_, ?_⟩
  · have e1 : out = l'.map Prod.snd := by rw [hout, List.map_map]; rfl
    rw [e1]
    exact each_all l' fun x hx => each_zip h x (hp.mem_iff.mp hx)
  · have := hp.map Prod.fst
    rw [List.map_fst_zip (by rw [h.length]; exact Nat.le_refl _)] at this
    exact this
  · rw [List.pairwise_map] at hpw ⊢
    exact hpw.imp fun r => by simpa using r
end Mine
end

section
open PySem PySem.W PyProof.Rows PySem.Calls
set_option Elab.async false
set_option maxRecDepth 100000
set_option maxHeartbeats 8000000
namespace Mine
abbrev datP (p : Int × Int) : Dat := .tuple [.int p.1, .int p.2]
theorem dat_pair {news : List (Addr × Obj)} {v : Value} {p : Int × Int} : PairIn news v p → DatIn news v (datP p)
  | ⟨_, t, u, _, e, hm⟩ => e ▸ DatIn.tuple (vs := [.int p.1 t, .int p.2 u]) hm (.cons (.int _ _) (.cons (.int _ _) .nil))
theorem dat_pairs {news : List (Addr × Obj)} : ∀ {vs : List Value} {ps : List (Int × Int)}, Each (PairIn news) vs ps → DatAll news vs (ps.map datP)
  | _, _, .nil => .nil
  | _, _, .cons h r => .cons (dat_pair h) (dat_pairs r)
theorem dat_row {news : List (Addr × Obj)} {v : Value} {ps : List (Int × Int)} : RowIn news v ps → DatIn news v (.tuple (ps.map datP))
  | ⟨_, _, _, e, hm, r⟩ => e ▸ DatIn.tuple hm (dat_pairs r)
theorem dat_ok (ps : List (Int × Int)) : kqdOk 8 (.tuple (ps.map datP)) = true := by
  simp only [kqdOk, List.all_eq_true, List.mem_map]
  rintro d ⟨p, _, rfl⟩
  simp [kqdOk]
section
variable {prog : Program} {w : World} {A : Around} {E : Value → Shared → Prop} {s : Shared} {h₀ : Heap} {L : Addr} {m : Str → Option Value} {news own : List (Addr × Obj)}
theorem ne_same {va vb : Value} {d : Dat} {Q : Value → Shared → Prop} (N : News h₀ L s.heap news) (Da : DatIn own va d) (Db : DatIn own vb d) (sub : ∀ p ∈ own, p ∈ news) (ok : kqdOk 8 d = true) (hu : A.units + 64 < cLine) (h : Q (.bool false) s) :
    wpAny (model prog w) A (compareOp .NotEq va vb) Q E s := by
  obtain ⟨as, ra⟩ := kqd_in N 8 (Da.mono sub) ok
  obtain ⟨bs, rb⟩ := kqd_in N 8 (Db.mono sub) ok
  have la := kqd_lay 8 d ok
  have sh : SeqAt.shaped (kqdP d) = true := by
    unfold SeqAt.shaped; rw [la.1, Bool.true_and]; exact decide_eq_true (Nat.le_trans la.2 (by decide))
  exact ne_dataH ra rb sh sh hu (by rw [(kqd_eqv 8 d d 8 ok ok).mpr rfl]; exact h)
theorem isi_tup {D : Addr} {its : Array Value} {n : Nat} {Q : Value → Shared → Prop} (N : News h₀ L s.heap news) (hm : (D, tup its n) ∈ news) (h : Q (.bool true) s) : wpAny (model prog w) A (call (.builtin "isinstance") [.ref D, .type "tuple"]) Q E s :=
  PySem.IsiPair.tuple_tuple (N _ hm).1 rfl h
theorem isi_pair {D : Addr} {p : Int × Int} {Q : Value → Shared → Prop} (H : PairAt s.heap (.ref D) p) (h : Q (.bool true) s) : wpAny (model prog w) A (call (.builtin "isinstance") [.ref D, .type "tuple"]) Q E s := by
  obtain ⟨a, t, u, n, e, hm⟩ := H
  cases e
  exact PySem.IsiPair.tuple_tuple hm rfl h
theorem PairIn.sub {v : Value} {p : Int × Int} (N : News h₀ L s.heap news) (sub : ∀ p ∈ own, p ∈ news) (H : PairIn own v p) : PairAt s.heap v p := PairIn.at (fun q hq => N q (sub q hq)) H
theorem RowIn.sub {v : Value} {p : List (Int × Int)} (N : News h₀ L s.heap news) (sub : ∀ p ∈ own, p ∈ news) (H : RowIn own v p) : RowAt s.heap v p := RowIn.at (fun q hq => N q (sub q hq)) H
end
end Mine
end

section
open PySem PySem.W PyProof.Rows PySem.Calls
set_option Elab.async false
set_option maxRecDepth 100000
set_option maxHeartbeats 8000000
set_option pp.deepTerms false
set_option pp.proofs false
namespace Mine
local macro_rules | `(tactic| walk_at "MINE enter") => `(tactic| k_dflt (
  refine' call_part ?k1 ?k2 ?k3 ?k4 ?k5 ?kA ?kF ?kK ?k6 ?k7 ?k8 ?k9 ?kB ?_ ?c2 ?c3 ?c4 ?c5; (case kA => exact rfl); (case kF => exact rfl); (case kK => assumption); (case k1 => k_asm); (case k2 => k_asm); (case k3 => k_asm); (case k4 => k_asm); (case k5 => k_asm); (case k6 => k_is); (case k7 => k_is); (case k8 => ktr_room); (case k9 => exact BindsTo.of_eq rfl); (case c5 => decide); (case kB => exact locs rfl); (case c2 => exact rfl); (case c3 => exact rfl); (case c4 => exact rfl); k_whole))
local macro_rules | `(tactic| units_room) => `(tactic| ((have hcL9 := cLine_is); (simp only [units_in1, units_deeper, Around.mark_units] at *); (try dsimp only [ktrTop] at *); omega))
local macro_rules | `(tactic| walk_at "call builtin:list.pop") => `(tactic| (k_here; (with_reducible show wpAny _ _ (call (Value.builtin _) [Value.ref _, Value.int _ _]) _ _ _); k_dflt (refine' pop0 ?F ?N ?U ?z ?_; (case F => k_asm); (case N => k_asm); (case U => k_upd); (case z => omega)); (intro h' F' N')))
local macro_rules | `(tactic| walk_at "call ref") => `(tactic| (k_here; (with_reducible show wpAny _ _ (call (Value.ref _) _) _ _ _); refine Stop.go ?_))
local macro_rules | `(tactic| walk_at "pyIter ref") => `(tactic| ((with_reducible show wpAny _ _ (pyIter (Value.ref _)) (fun it s₂ => LoopAtV _ _ _ _ _ _ _ _ _ it s₂) _ _); refine Stop.go ?_))
local macro_rules | `(tactic| walk_at "MINE at") => `(tactic| first
  | assumption
  | exact PairAt.keeps (Fr.keep (by k_asm)) (by assumption)
  | exact RowAt.keeps (Fr.keep (by k_asm)) (by assumption)
  | exact BoolList.keeps (Fr.keep (by k_asm)) (by assumption)
  | exact PairIn.at (by k_asm) (by assumption)
  | exact RowIn.at (by k_asm) (by assumption)
  | exact BoolIn.at (by k_asm) (by assumption))
local macro_rules | `(tactic| walk_at "MINE num") => `(tactic| first | omega | ((repeat (rename decide _ = true => hx9; replace hx9 := of_decide_eq_true hx9)); (repeat (rename decide _ = false => hx9; replace hx9 := of_decide_eq_false hx9)); omega))
local macro_rules | `(tactic| walk_at "MINE sub") => `(tactic| (k_here; (with_reducible show wpAny _ _ (subscriptTail _ _ (Value.ref _) (Value.int _ _)) _ _ _); k_dflt (first
  | (refine' sub_led ?k1 ?k2 ?k3 ?k4 ?k5 ?_ ?k6; (case k1 => k_asm); (case k2 => k_mem); (case k3 => decide); (case k4 => decide); (case k5 => rfl); (case k6 => with_unfolding_all rfl); k_whole)
  | ((with_reducible show wpAny _ _ (subscriptTail _ _ (Value.ref _) (Value.int 0 _)) _ _ _); refine' sub_pair0 ?k1 ?_ ?k6 ?k7; (case k1 => walk_at "MINE at"); (case k6 => with_unfolding_all rfl); (case k7 => (intro _; with_unfolding_all rfl)); k_whole; intro t')
  | ((with_reducible show wpAny _ _ (subscriptTail _ _ (Value.ref _) (Value.int 1 _)) _ _ _); refine' sub_pair1 ?k1 ?_ ?k6 ?k7; (case k1 => walk_at "MINE at"); (case k6 => with_unfolding_all rfl); (case k7 => (intro _; with_unfolding_all rfl)); k_whole; intro t')
  | (refine' sub_row ?k1 ?k2 ?k3 ?k4 ?_ ?k6 ?k7; (case k1 => walk_at "MINE at"); (case k2 => walk_at "MINE num"); (case k3 => walk_at "MINE num"); (case k4 => walk_at "MINE num"); (case k6 => with_unfolding_all rfl); (case k7 => (intro _; with_unfolding_all rfl)); k_whole; intro a' hp'; (try dsimp only at hp'))
  | (refine' sub_bools ?k1 ?k2 ?k3 ?k4 ?_ ?k6; (case k1 => walk_at "MINE at"); (case k2 => walk_at "MINE num"); (case k3 => walk_at "MINE num"); (case k4 => walk_at "MINE num"); (case k6 => with_unfolding_all rfl); k_whole))))
local macro_rules | `(tactic| walk_at "subscriptTail Name Constant ref int") => `(tactic| walk_at "MINE sub")
local macro_rules | `(tactic| walk_at "subscriptTail Name Name ref int") => `(tactic| walk_at "MINE sub")
local macro_rules | `(tactic| walk_at "subscriptTail Subscript Name Constant Constant ref int") => `(tactic| (k_here; k_dflt (refine kba_turn (value' := PySem.Expr.Name (PySem.Str.ofString "_") ⟨0, 0, 0, 0⟩) (fun _ => rfl) ?_)))
local macro_rules | `(tactic| walk_at "subscriptTail Subscript Name Name Constant ref int") => `(tactic| (k_here; k_dflt (refine kba_turn (value' := PySem.Expr.Name (PySem.Str.ofString "_") ⟨0, 0, 0, 0⟩) (fun _ => rfl) ?_)))
local macro_rules | `(tactic| walk_at "subscriptTail Subscript Name UnaryOp Constant ref int") => `(tactic| (k_here; k_dflt (refine kba_turn (value' := PySem.Expr.Name (PySem.Str.ofString "_") ⟨0, 0, 0, 0⟩) (fun _ => rfl) ?_)))
local macro_rules | `(tactic| walk_at "MINE for") => `(tactic| (k_here; (rename Fr _ _ _ _ => lF'); (with_unfolding_all refine' For_invVF lF' ?k1 ?k2 ?_; (case k1 => exact rfl); (case k2 => exact rfl); k_whole)))
local macro_rules | `(tactic| walk_at "exec For Name Name cons nil") => `(tactic| walk_at "MINE for")
local macro_rules | `(tactic| walk_at "exec For Name Call cons nil") => `(tactic| walk_at "MINE for")
local macro_rules | `(tactic| walk_at "exec For Name Subscript cons nil") => `(tactic| walk_at "MINE for")
local macro_rules | `(tactic| walk_at "eval Name") => `(tactic| (k_here; k_dflt (first
  | (refine' nameX_L ?F ?v ?_ ?a ?b; (case F => k_asm); (case a => rfl); (case b => rfl); (case v => rfl); k_whole)
  | (refine' nameX_K ?F ?X ?T ?e ?_ ?a ?b; (case F => k_asm); (case X => k_asm); (case T => k_asm); (case a => rfl); (case b => rfl); (case e => k_is); k_whole)
  | (refine' nameX_B ?F ?X ?T ?e ?v ?n ?_ ?a ?b; (case F => k_asm); (case X => k_asm); (case T => k_asm); (case a => rfl); (case b => rfl); (case e => k_is); (case v => first | boot_by_name | exact PyProof.Rows.boot_abs | exact PyProof.Rows.boot_max | exact PyProof.Rows.boot_isinstance | boot_fast); (case n => decide); k_whole))))
local macro_rules | `(tactic| walk_at "storeName") => `(tactic| (k_here; k_dflt (refine' storeX_L ?F ?N ?_ ?a ?b; (case F => k_asm); (case N => k_asm); (case a => rfl); (case b => rfl); k_whole; intro h' F' N'; (try k_sweep))))
local macro_rules | `(tactic| walk_at "call builtin:len cons nil") => `(tactic| (k_here; k_dflt (refine' len_row ?k1 ?k2 ?_; (case k1 => walk_at "MINE at"); (case k2 => walk_at "MINE num"); k_whole)))
local macro_rules | `(tactic| walk_at "exec While") => `(tactic| (k_here; refine Stop.go ?_))
local macro_rules | `(tactic| walk_at "exec While Compare cons nil") => `(tactic| (k_here; refine Stop.go ?_))
local macro_rules | `(tactic| walk_at "MINE off") => `(tactic| first | exact List.forall_mem_nil _ | exact off_own (by assumption) (by k_allIn) | exact OwnOff.ne (by assumption) (by k_memK) | (refine List.forall_mem_cons.mpr ⟨?_, ?_⟩ <;> walk_at "MINE off") | k_ne)
local macro_rules | `(tactic| walk_at "call type:range") => `(tactic| (k_here; k_dflt (first
  | (refine' range1' ?k1 ?k2 ?_; (case k1 => k_asm); (case k2 => k_asm); k_whole)
  | (refine' range2' ?k1 ?k2 ?_; (case k1 => k_asm); (case k2 => k_asm); k_whole)); intro r' h' tk' t1' u1' v1' hR' F' N'; (try k_sweep)))
local macro_rules | `(tactic| walk_at "call builtin:list.append cons cons nil") => `(tactic| (k_here; (with_reducible show wpAny _ _ (call (Value.builtin _) [Value.ref _, _]) _ _ _); k_dflt (refine' append_of ?k1 ?k2 ?k3 ?z ?_; (case k1 => k_asm); (case k2 => k_asm); (case k3 => k_upd); (case z => omega); k_whole); intro h' F' N'; (try k_sweep)))
local macro_rules | `(tactic| walk_at "call builtin:list.append") => `(tactic| (k_here; (with_reducible show wpAny _ _ (call (Value.builtin _) [Value.ref _, _]) _ _ _); k_dflt (refine' append_of ?k1 ?k2 ?k3 ?z ?_; (case k1 => k_asm); (case k2 => k_asm); (case k3 => k_upd); (case z => omega); k_whole); intro h' F' N'; (try k_sweep)))
local macro_rules | `(tactic| walk_at "call type:tuple") => `(tactic| (k_here; (with_reducible show wpAny _ _ (call (Value.type _) [Value.ref _]) _ _ _); k_dflt (refine' tuple_of ?k1 ?k2 ?k3 ?k4 ?_; (case k1 => k_asm); (case k2 => k_asm); (case k3 => k_mem); (case k4 => omega); k_whole); intro D' h' F' N' l1'; (try k_lt l1'); (try k_sweep)))
local macro_rules | `(tactic| walk_at "WhileStep2 ret") => `(tactic| dsimp only [WhileStep2])
local macro_rules | `(tactic| walk_at "WhileStep2 brk") => `(tactic| dsimp only [WhileStep2])
local macro_rules | `(tactic| walk_at "Turn ret") => `(tactic| dsimp only [Turn])
local macro_rules | `(tactic| walk_at "Turn brk") => `(tactic| dsimp only [Turn])
local macro_rules | `(tactic| walk_at "eval ListComp") => `(tactic| (k_here; k_dflt (refine LCg.ListComp_U (F₀ := by k_asm) (by with_unfolding_all rfl) (by decide) (by rfl) (by decide) (by rfl) ?_)))
local macro_rules | `(tactic| walk_at "CompSrc") => `(tactic| refine Stop.go ?_)
local macro_rules | `(tactic| walk_at "subscriptTail ListComp") => `(tactic| (k_here; k_dflt (refine kba_turn (value' := PySem.Expr.Name (PySem.Str.ofString "_") ⟨0, 0, 0, 0⟩) (fun _ => rfl) ?_)))
local macro_rules | `(tactic| walk_at "execs cons") => `(tactic| (k_here; refine execs_gen ?_; intro tk'; (try dsimp only)))
local macro_rules | `(tactic| walk_at "execs nil") => `(tactic| (k_here; refine wpAny_execs_nil ?_))
local macro_rules | `(tactic| walk_at "CompEnd") => `(tactic| refine Stop.go ?_)


theorem RowAt.keepsT {h h' : Heap} (hk : ∀ b vs n, h.get? b = some (tup vs n) → h'.get? b = some (tup vs n)) {v : Value} {ps : List (Int × Int)} : RowAt h v ps → RowAt h' v ps
  | ⟨a, vs, n, e, hm, r⟩ => ⟨a, vs, n, e, hk _ _ _ hm, r.mono fun _ _ ⟨a, t, u, n, e, hm⟩ => ⟨a, t, u, n, e, hk _ _ _ hm⟩⟩
theorem PairIn.ofG {G : List (Addr × Obj)} {g : Heap} (H : ∀ a vs n, (a, tup vs n) ∈ G → g.get? a = some (tup vs n)) {v : Value} {p : Int × Int} : PairIn G v p → PairAt g v p
  | ⟨a, t, u, n, e, hm⟩ => ⟨a, t, u, n, e, H _ _ _ hm⟩
theorem pairGT {G tups news : List (Addr × Obj)} {g h : Heap} {L : Addr} {m : Str → Option Value} {v : Value} {p : Int × Int} (F : Fr g L h m) (N : News g L h news) (hs : ∀ q ∈ tups, q ∈ news) (H : ∀ a vs n, (a, tup vs n) ∈ G → g.get? a = some (tup vs n)) :
    PairIn (tups ++ G) v p → PairAt h v p
  | ⟨a, t, u, n, e, hm⟩ => ⟨a, t, u, n, e, by
    rcases List.mem_append.mp hm with hm | hm
    · exact (N _ (hs _ hm)).1
    · exact F.keep _ _ (H _ _ _ hm)⟩
local macro_rules | `(tactic| walk_at "call builtin:list.extend") => `(tactic| (k_here; (with_reducible show wpAny _ _ (call (Value.builtin _) [Value.ref _, Value.ref _]) _ _ _); k_dflt (refine' extend_row ?F ?N ?U ?b ?z ?_; (case F => k_asm); (case N => k_asm); (case U => (intro o'; k_upd)); (case b => exact Fr.keep (by k_asm) _ _ (by assumption)); (case z => walk_at "MINE num")); intro h' c' F' N'; (try dsimp only at N'); (try k_sweep)))
local macro_rules | `(tactic| walk_at "truthy ref") => `(tactic| (k_here; k_dflt (refine' kgr_truthy ?N ?m ?c ?d ?z ?_; (case N => k_asm); (case m => exact .head _); (case c => rfl); (case d => rfl); (case z => (simp only [List.length_cons]; omega)); simp only [List.isEmpty_cons, Bool.not_false])))
local macro_rules | `(tactic| walk_at "callWith builtin:list.sort") => `(tactic| (k_here; refine callWith_kw0 ?_))
local macro_rules | `(tactic| walk_at "eval Lambda") => `(tactic| (k_here; k_dflt (refine' kla_eval ?d0 ?_; (case d0 => exact rfl)); k_dflt (refine' kla_nest ?F ?N ?T ?C ?cd ?U ?t ?n ?cl ?_; (case F => k_asm); (case N => k_asm); (case T => k_asm); (case cd => exact rfl); (case C => assumption); (case U => k_updF); (case t => kn_triples); (case n => kn_among); (case cl => exact rfl); k_whole); intro f' c' oc' vs' t' ct' h' tk' F' N' d1' d2' l1 l2; (try dsimp only at N'); (try k_lt l1); (try k_lt2 l2)))
local macro_rules | `(tactic| walk_at "call builtin:list.sort") => `(tactic| (k_here; (show wpAny _ _ (call (Value.builtin _) [Value.ref _] [(PySem.Str.ofString "key", _)]) _ _ _); refine Stop.go ?_))
local macro_rules | `(tactic| walk_at "subscriptTail Name Slice ref ref") => `(tactic| (k_here; k_dflt (refine' kmk_slice_lit ?F ?N ?l ?p ?q ?e ?_ ?s ?t ?z; (case F => k_asm); (case N => k_asm); (case l => kmk_list); (case p => kmk_part); (case q => kmk_part); (case e => exact slice_from1 _ _); (case s => with_unfolding_all rfl); (case t => kmk_pure); (case z => (simp only [List.size_toArray, List.length_cons, sizeLine_eq]; omega)); k_whole); intro D' h' F' N' l1; (try k_lt l1); (try k_sweep)))
local macro_rules | `(tactic| walk_at "exec For Tuple Subscript") => `(tactic| (k_here; (rename Fr _ _ _ _ => lF'); (with_unfolding_all refine' For_invTF lF' ?_ ?k1; (case k1 => (intro _; exact rfl)); k_whole)))
local macro_rules | `(tactic| walk_at "pyIter ref") => `(tactic| ((with_reducible show wpAny _ _ (pyIter (Value.ref _)) (fun it s₂ => LoopAtT _ _ _ _ _ _ _ _ _ it s₂) _ _); refine Stop.go ?_))
local macro_rules | `(tactic| walk_at "MINE at") => `(tactic| first | assumption | exact PairAt.keeps (Fr.keep (by k_asm)) (by assumption) | (refine' pairGT ?mF ?mN ?ms ?mH ?mx; (case mx => assumption); (case mH => assumption); (case mF => k_asm); (case mN => k_asm); (case ms => kcf_all)))
local macro_rules | `(tactic| walk_at "assign Tuple") => `(tactic| (k_here; (with_reducible show wpAny _ _ (assign (Expr.Tuple _ _ _) _ (Value.ref _)) _ _ _); k_dflt (refine' unpack_pair ?k1 ?k2 ?k3 ?k4 ?k5 ?k6 ?_; (case k1 => k_asm); (case k2 => k_asm); (case k3 => walk_at "MINE at"); (case k4 => exact rfl); (case k5 => exact rfl); (case k6 => exact rfl); k_whole); intro t' u' h' F' N'; (try k_sweep)))
local macro_rules | `(tactic| walk_at "subscriptTail Name UnaryOp") => `(tactic| (k_here; k_dflt (refine' sub_last ?k1 ?k2 ?k3 ?_ ?k6; (case k1 => k_asm); (case k2 => k_mem); (case k3 => walk_at "MINE num"); (case k6 => with_unfolding_all rfl); k_whole)))
local macro_rules | `(tactic| walk_at "setItem ref int") => `(tactic| (k_here; k_dflt (refine' set_last ?k1 ?k2 ?k3 ?k4 ?_; (case k1 => k_asm); (case k2 => k_asm); (case k3 => k_upd); (case k4 => walk_at "MINE num"); k_whole); intro h' F' N'; (try k_sweep)))

theorem need2 {p q : Addr × Obj} {r : List (Addr × Obj)} : ∀ x ∈ [p, q], x ∈ p :: q :: r := fun x hx => by
  rcases List.mem_cons.mp hx with rfl | hx
  · exact .head _
  · rw [List.mem_singleton.mp hx]; exact .tail _ (.head _)
theorem flat_take {rows : List (List (Int × Int))} {i : Nat} {ps : List (Int × Int)} (h : rows[i]? = some ps) : (rows.take (i + 1)).flatten = (rows.take i).flatten ++ ps := by
  rw [List.take_add_one, h]
  simp
theorem flat_le (rows : List (List (Int × Int))) (i : Nat) : (rows.take i).flatten.length ≤ rows.flatten.length := by
  have e : rows.flatten = (rows.take i).flatten ++ (rows.drop i).flatten := by rw [← List.flatten_append, List.take_append_drop]
  rw [e, List.length_append]
  omega

def MxJ (G : List (Addr × Obj)) (D0 lst : Addr) (vs : List Value) (rows : List (List (Int × Int))) (i : Nat) (m : Str → Option Value) (nx : List (Addr × Obj)) : Prop :=
  ∃ av n, (∀ p ∈ [(Str.ofString "all_ranges", Value.ref lst)], m p.1 = some p.2) ∧ nx = [(lst, listOf (List.toArray av) n), (D0, tup vs.toArray 0), (16, tabObj #[])] ∧ Each (PairIn G) av (rows.take i).flatten

def MgJ (G : List (Addr × Obj)) (M SL : Addr) (tp : Array Value) (out : List Value) (p0 : Int × Int) (ps : List (Int × Int)) (i : Nat) (m : Str → Option Value) (nx : List (Addr × Obj)) : Prop :=
  ∃ mi x n lo hi init tups, (∀ p ∈ [(Str.ofString "merged", Value.ref M)], m p.1 = some p.2) ∧ nx = (M, listOf (List.toArray (mi ++ [x])) n) :: (SL, listOf (List.toArray out) 0) :: (16, tabObj tp) :: tups ∧ Each (PairIn (tups ++ G)) mi init ∧ PairIn (tups ++ G) x (lo, hi) ∧
    Mrg (p0 :: ps.take i) init lo hi ∧ OwnOff tups [M, SL]

theorem merge_spec (w : World) (G : List (Addr × Obj)) (vs : List Value) (rows : List (List (Int × Int))) (hR : Each (RowIn G) vs rows) (hb : ∀ ps ∈ rows, ∀ p ∈ ps, p.1 ≤ p.2) (hz : rows.flatten.length ≤ 20) (hn : vs.length ≤ 4) :
    Ctr w 21 3 vs [(16, tabObj #[])] (fun h => ∀ p ∈ G, h.get? p.1 = some p.2)
      (fun r _ A' => ∃ ps tp, RowIn (A' ++ G) r ps ∧ Canon (CovM rows.flatten) (BriM rows.flatten) ps ∧ ps.length ≤ 20 ∧ (16, tabObj tp) ∈ A') := by
  unfold Ctr
  w_top off
  k_fill
  intro mean mg mb dp un gd cn cs L a ccd cl outer A₀ base h₀ m s Q E B F X N T hk hpre hd hu hret
  have hcL := cLine_is
  refine wpAny_call ?_
  k_dflt (
    refine' call_rest (vs := vs) (g₁ := fun D => some [(Str.ofString "tuples", Value.ref D)]) (binds := fun D => [(Str.ofString "tuples", Value.ref D)]) ?k1 ?k2 ?k3 ?k4 ?k5 ?kA ?kF ?kK ?k6 ?k7 ?k8 ?kP ?kG ?kB ?_ ?c2 ?c3 ?c4 ?c5; (case kA => exact rfl); (case kF => exact rfl); (case kK => assumption); (case k1 => k_asm); (case k2 => k_asm); (case k3 => k_asm); (case k4 => k_asm); (case k5 => k_asm); (case k6 => k_is); (case k7 => k_is); (case k8 => ktr_room); (case kP => (rcases vs with _ | ⟨a1, _ | ⟨a2, _ | ⟨a3, _ | ⟨a4, _ | ⟨a5, r⟩⟩⟩⟩⟩ <;> first | exact rfl | exact absurd hn (by simp only [List.length_cons]; omega))); (case kG => exact fun _ => rfl); (case c5 => decide); (case kB => exact fun _ => locs rfl); (case c2 => exact rfl); (case c3 => exact rfl); (case c4 => exact rfl); k_whole)
  intro D0 g L' h₁ l0 FG F' N' B' X' T' hG hL'
  generalize s.toks + List.length _ = tk00
  try dsimp only
  k_fold
  k_lt l0
  have HG : ∀ a vs n, (a, tup vs n) ∈ G → g.get? a = some (tup vs n) := fun a vs n hm => hG _ _ (hpre _ hm) fun h16 => by
    have e16 : a = 16 := by simpa using h16
    have e := hpre _ hm
    dsimp only at e
    rw [e16, (N _ (.head _)).1] at e
    cases e
  have HC : CodeHd g 20 16 := codeHd_of_K X' rfl
  k_steps
  rename_i lst hh0 l1 a1 F1 N1 b1
  refine Stop.of ?_
  refine loopJ_tupL (news := [(lst, listOf (List.toArray []) 0), (D0, tup vs.toArray 0), (16, tabObj #[])]) (MxJ G D0 lst vs rows) rfl (.tail _ (.head _)) F1 N1 ⟨[], 0, List.forall_mem_cons.mpr ⟨rfl, List.forall_mem_nil _⟩, rfl, .nil⟩ (fun i m nx ⟨_, _, _, e, _⟩ => e ▸ .tail _ (.head _)) ?turn ?done
  case turn =>
    rintro i v m₁ nx I oI h tk hlt hv ⟨av, n, hm, rfl, hE⟩ hne F₁ N₁
    rw [← over_eq hm] at F₁
    change Fr g L' h _ at F₁
    change News g L' h _ at N₁
    obtain ⟨ps, hps, hrow⟩ := hR.getL (i := i) (a := v) (by simpa using hv)
    obtain ⟨hne1, hne⟩ := List.forall_mem_cons.mp hne
    obtain ⟨hne2, hne⟩ := List.forall_mem_cons.mp hne
    obtain ⟨hne3, hne⟩ := List.forall_mem_cons.mp hne
    dsimp only at hne1 hne2 hne3
    obtain ⟨ra, rvv, rnn, rfl, hrg0, hre⟩ := hrow.ex
    have hrg := HG _ _ _ hrg0
    have z1 := hE.length
    have z2 := hre.length
    have z3 := flat_le rows (i + 1)
    rw [flat_take hps, List.length_append] at z3
    k_steps
    rename_i h9 c9 F9 N9
    show TurnTo _ _ _ _ _ _ _
    exact TurnTo.intro F9 N9 [(lst, listOf (List.toArray (av ++ rvv)) c9), (D0, tup vs.toArray 0), (16, tabObj #[])] (by kcf_all) (by walk_at "MINE off") ⟨_, c9, List.forall_mem_cons.mpr ⟨rfl, List.forall_mem_nil _⟩, rfl, by rw [flat_take hps]; exact hE.append hre⟩
  case done =>
    rintro m₁ nx h tk ⟨av, n, hm, rfl, hE⟩ F₁ N₁
    rw [← over_eq hm] at F₁
    change Fr g L' h _ at F₁
    change News g L' h _ at N₁
    have er : rows.take vs.toArray.size = rows := by rw [List.size_toArray, hR.length, List.take_length]
    rw [er] at hE
    have hfb : ∀ p ∈ rows.flatten, p.1 ≤ p.2 := fun p hp => by
      obtain ⟨ps, h1, h2⟩ := List.mem_flatten.mp hp
      exact hb ps h1 p h2
    clear hR hb er
    generalize rows.flatten = fl at *
    rcases hE with _ | ⟨he, hE⟩
    · k_steps
      rename_i D9 h9 F9 N9 l9 kF kN Tc kX
      exact hret _ _ _ [(D9, tup #[] 0), (16, tabObj #[])] kF (cb_drop kN (by kcf_all)) (kept_of hG F9 (cb_drop N9 (by kcf_all))) ⟨[], #[], ⟨⟨D9, [], 0, rfl, .head _, .nil⟩⟩, ⟨⟨fun _ h => (nomatch h), .nil⟩, fun _ => .rfl, fun _ => .rfl⟩, by decide, .tail _ (.head _)⟩
    · rename_i a0 b0 as0 bs0
      have z1 := hE.length
      rw [List.length_cons] at hz
      k_steps
      rename_i f7 c7 oc7 vs7 t7 ct7 h7 tk7 F7 N7 d1 d2 l7 l8
      refine Stop.of ?_
      refine' sort_key (vs := a0 :: as0) [?e1, ?e2] F7 N7 ?U ?need (kz := (b0 :: bs0).map Prod.fst) ?off (by simp only [List.length_map, List.length_cons]; omega) (by simp only [List.length_cons]; omega) ?turn ?done
      case U => intro o'; k_upd
      case need => exact need2
      case off => exact List.forall_mem_cons.mpr ⟨by k_ne, List.forall_mem_cons.mpr ⟨by k_ne, List.forall_mem_nil _⟩⟩
      case turn =>
        clear N7 F7 N₁ F₁ N1 F1
        intro i v k hv hkz hh tk9 all F9 N9
        obtain ⟨k', hk', hp0⟩ := (Each.cons he hE).getL hv
        rw [List.getElem?_map, hk'] at hkz
        cases hkz
        clear hv hk'
        have hp := hp0.ofG HG
        dsimp only [List.cons_append, List.nil_append] at N9
        obtain ⟨va, rfl⟩ : ∃ va, v = .ref va := let ⟨⟨a, _, _, _, e, _⟩⟩ := hp; ⟨a, e⟩
        refine wpAny_call ?_
        k_dflt (refine' kla_code ?k1 ?k2 ?k3 ?k4 ?k5 ?kA ?kF ?kK ?k6 ?k7 ?k8 ?k9 ?kB ?_ ?c2 ?c3 ?c4 ?c5; (case kA => exact rfl); (case kF => exact rfl); (case kK => exact rfl); (case k1 => k_asm); (case k2 => k_asm); (case k3 => k_asm); (case k4 => k_asm); (case k5 => k_asm); (case k6 => k_mem); (case k7 => exact codeRec_news (by k_asm) (by k_mem) (by assumption) (by assumption)); (case k8 => ktr_room); (case k9 => exact rfl); (case c5 => decide); (case kB => exact locs rfl); (case c2 => exact rfl); (case c3 => exact rfl); (case c4 => exact rfl); k_whole; intro g' L' h' FG' F' N' B' X' T'; (try dsimp only); (try k_lift B'); (try k_fold))
        replace hp := hp.keeps FG'.keep
        k_steps
      case done =>
        clear N7 F7 N₁ F₁ N1 F1
        intro h9 tk9 out c9 F9 N9 ko
        clear d1 d2
        generalize kla_obj _ _ _ _ _ _ _ _ _ = ol at N9
        generalize (#[] ++ #[rawInt _, rawInt _, Value.ref c7] : Array Value) = tp at N9
        obtain ⟨ps, hE9, hperm, hpw⟩ := sorted_pairs (Each.cons he hE) ko
        have hfb9 : ∀ p ∈ ps, p.1 ≤ p.2 := fun p hp => hfb p (hperm.mem_iff.mp hp)
        have hz9 := hperm.length_eq
        rw [List.length_cons] at hz9
        clear ko hfb he hE
        rcases hE9 with _ | ⟨he9, hE9⟩
        · exact absurd hz9 (by simp)
        rename_i v0 p0 out ps
        have hl9 := hE9.length
        rw [List.length_cons] at hz9
        k_steps
        rename_i M8 h8a l8a h8b tk8 SL8 h8 F8 N8 l8b
        change News g L' h8 ((SL8, _) :: (M8, listOf (List.toArray ([] ++ [v0])) 0) :: _) at N8
        refine Stop.of ?_
        refine loopT_listL (its := out.toArray) (news := [(M8, listOf (List.toArray ([] ++ [v0])) 0), (SL8, listOf out.toArray 0), (16, tabObj tp)]) (MgJ G M8 SL8 tp out p0 ps) rfl (.tail _ (.head _)) F8 (cb_drop N8 (by kcf_all))
          ⟨[], v0, 0, p0.1, p0.2, [], [], List.forall_mem_cons.mpr ⟨rfl, List.forall_mem_nil _⟩, rfl, .nil, he9, Mrg.start (hfb9 p0 (.head _)), own_nil⟩ (fun i m nx ⟨_, _, _, _, _, _, _, _, e, _⟩ => e ▸ .tail _ (.head _)) ?turn ?done
        case turn =>
          have l8d := l8a.2.2.2.2
          clear N8 F8 l1 l7 l8 l8a HC
          have l8c := l8b.1
          clear l8b
          rintro i v m₁ nx I oI s₁ hlt hv ⟨mi, x, n, lo, hi, init, tups, hm, rfl, hEm, hx, hM, hO⟩ hne F₁ N₁
          rw [← over_eq hm] at F₁
          change Fr g L' s₁.heap _ at F₁
          change News g L' s₁.heap _ at N₁
          obtain ⟨p, hp, hvp⟩ := hE9.getL (i := i) (a := v) (by simpa using hv)
          obtain ⟨va, rfl⟩ : ∃ va, v = .ref va := let ⟨⟨a, _, _, _, e, _⟩⟩ := hvp; ⟨a, e⟩
          obtain ⟨xa, rfl⟩ : ∃ xa, x = .ref xa := let ⟨⟨a, _, _, _, e, _⟩⟩ := hx; ⟨a, e⟩
          have hv9 := hvp.ofG HG
          obtain ⟨hne1, hne⟩ := List.forall_mem_cons.mp hne
          obtain ⟨hne2, hne⟩ := List.forall_mem_cons.mp hne
          obtain ⟨hne3, hne⟩ := List.forall_mem_cons.mp hne
          dsimp only at hne1 hne2 hne3
          have hO' := own_more hO hne
          clear hm hne
          have z7 := hEm.length
          have z8 := hM.len
          simp only [List.length_append, List.length_cons, List.length_nil, List.length_take] at z8
          have hpb := hfb9 p (.tail _ (List.mem_of_getElem? hp))
          have hT : p0 :: ps.take (i + 1) = (p0 :: ps.take i) ++ [p] := by rw [List.take_add_one, hp]; rfl
          have hsort : ∀ q ∈ p0 :: ps.take i, q.1 ≤ p.1 := fun q hq => by
            have e := List.pairwise_append.mp (show List.Pairwise (fun p q : Int × Int => p.1 ≤ q.1) ((p0 :: ps.take i) ++ ps.drop i) by rw [List.cons_append, List.take_append_drop]; exact hpw)
            refine e.2.2 q hq p ?_
            rw [List.mem_iff_getElem?]
            exact ⟨0, by rw [List.getElem?_drop]; exact hp⟩
          k_steps
          · rename_i hle tk1 t1 h9a tk9a D9 h9b l9 h9 F9 N9
            dsimp only at hle
            have eM : (if p.2 > hi then p.2 else hi) = max hi p.2 := by rw [Int.max_def]; split <;> split <;> omega
            rw [eM] at N9
            generalize (if p.2 > hi then _ else _ : Tok) = te at N9
            exact ⟨rfl, TurnTo.intro F9 N9 ((M8, listOf (List.toArray (mi ++ [Value.ref D9])) n) :: (SL8, listOf out.toArray 0) :: (16, tabObj tp) :: (D9, tup #[.int lo t1, .int (max hi p.2) te] 0) :: tups) (by kcf_all) (by walk_at "MINE off")
              ⟨mi, .ref D9, n, lo, max hi p.2, init, (D9, tup #[.int lo t1, .int (max hi p.2) te] 0) :: tups, List.forall_mem_cons.mpr ⟨rfl, List.forall_mem_nil _⟩, rfl, hEm.mono fun _ _ k => k.mono fun _ h => .tail _ h, ⟨⟨D9, t1, te, 0, rfl, .head _⟩⟩, by rw [hT]; exact hM.join hpb hsort hle, own_cons hO (by walk_at "MINE off")⟩⟩
          · rename_i hle tk1 D9 h9b l9 h9 F9 N9
            dsimp only at hle
            rw [List.push_toArray] at N9
            exact ⟨rfl, TurnTo.intro F9 N9 ((M8, listOf (List.toArray (mi ++ [Value.ref xa] ++ [Value.ref D9])) (n + 1)) :: (SL8, listOf out.toArray 0) :: (16, tabObj tp) :: (D9, tup #[.int p.1 _, .int p.2 _] 0) :: tups) (by kcf_all) (by walk_at "MINE off")
              ⟨mi ++ [Value.ref xa], .ref D9, n + 1, p.1, p.2, init ++ [(lo, hi)], (D9, tup #[.int p.1 _, .int p.2 _] 0) :: tups, List.forall_mem_cons.mpr ⟨rfl, List.forall_mem_nil _⟩, rfl, (hEm.snoc hx).mono fun _ _ k => k.mono fun _ h => .tail _ h, ⟨⟨D9, _, _, 0, rfl, .head _⟩⟩, by rw [hT]; exact hM.apart hpb hle, own_cons hO (by walk_at "MINE off")⟩⟩
        case done =>
          clear N8 F8 HC
          rintro m₁ nx h tk ⟨mi, x, n, lo, hi, init, tups, hm, rfl, hEm, hx, hM, hO⟩ F₁ N₁
          rw [← over_eq hm] at F₁
          change Fr g L' h _ at F₁
          change News g L' h _ at N₁
          have z7 := hEm.length
          have z8 := hM.len
          simp only [List.length_append, List.length_cons, List.length_nil, List.length_take] at z8
          k_steps
          rename_i D9 h9 F9 N9 l9 kF kN Tc kX
          have eT : ps.take out.toArray.size = ps := by rw [List.size_toArray, hl9, List.take_length]
          rw [eT] at hM
          have hEE := hEm.snoc hx
          refine hret _ _ _ ((D9, tup (List.toArray (mi ++ [x])) 0) :: (16, tabObj tp) :: tups) kF (cb_drop kN (by kcf_all)) (kept_of hG F9 (cb_drop N9 (by kcf_all))) ⟨init ++ [(lo, hi)], tp, ⟨⟨D9, mi ++ [x], 0, rfl, .head _, hEE.mono fun _ _ k => k.mono fun _ h => .tail _ (.tail _ h)⟩⟩, ⟨hM.sep, fun x => ?_, fun x => ?_⟩, ?_, .tail _ (.head _)⟩
          · rw [← hM.held x]
            exact ⟨fun ⟨p, hp, r⟩ => ⟨p, hperm.mem_iff.mpr hp, r⟩, fun ⟨p, hp, r⟩ => ⟨p, hperm.mem_iff.mp hp, r⟩⟩
          · rw [← hM.bri x]
            exact ⟨fun ⟨p, hp, r⟩ => ⟨p, hperm.mem_iff.mpr hp, r⟩, fun ⟨p, hp, r⟩ => ⟨p, hperm.mem_iff.mp hp, r⟩⟩
          · have := hM.len
            rw [List.length_cons] at this
            omega

end Mine
end

section
open PySem PySem.W PyProof.Rows PySem.Calls
set_option Elab.async false
set_option maxRecDepth 100000
set_option maxHeartbeats 8000000
set_option pp.deepTerms false
set_option pp.proofs false
namespace Mine
local macro_rules | `(tactic| walk_at "MINE enter") => `(tactic| k_dflt (
  refine' call_part ?k1 ?k2 ?k3 ?k4 ?k5 ?kA ?kF ?kK ?k6 ?k7 ?k8 ?k9 ?kB ?_ ?c2 ?c3 ?c4 ?c5; (case kA => exact rfl); (case kF => exact rfl); (case kK => assumption); (case k1 => k_asm); (case k2 => k_asm); (case k3 => k_asm); (case k4 => k_asm); (case k5 => k_asm); (case k6 => k_is); (case k7 => k_is); (case k8 => ktr_room); (case k9 => exact BindsTo.of_eq rfl); (case c5 => decide); (case kB => exact locs rfl); (case c2 => exact rfl); (case c3 => exact rfl); (case c4 => exact rfl); k_whole))
local macro_rules | `(tactic| units_room) => `(tactic| ((have hcL9 := cLine_is); (simp only [units_in1, units_deeper, Around.mark_units] at *); (try dsimp only [ktrTop] at *); omega))
local macro_rules | `(tactic| walk_at "call builtin:list.pop") => `(tactic| (k_here; (with_reducible show wpAny _ _ (call (Value.builtin _) [Value.ref _, Value.int _ _]) _ _ _); k_dflt (refine' pop0 ?F ?N ?U ?z ?_; (case F => k_asm); (case N => k_asm); (case U => k_upd); (case z => omega)); (intro h' F' N')))
local macro_rules | `(tactic| walk_at "call ref") => `(tactic| (k_here; (with_reducible show wpAny _ _ (call (Value.ref _) _) _ _ _); refine Stop.go ?_))
local macro_rules | `(tactic| walk_at "pyIter ref") => `(tactic| ((with_reducible show wpAny _ _ (pyIter (Value.ref _)) (fun it s₂ => LoopAtV _ _ _ _ _ _ _ _ _ it s₂) _ _); refine Stop.go ?_))
local macro_rules | `(tactic| walk_at "MINE at") => `(tactic| first
  | assumption
  | exact PairAt.keeps (Fr.keep (by k_asm)) (by assumption)
  | exact RowAt.keeps (Fr.keep (by k_asm)) (by assumption)
  | exact BoolList.keeps (Fr.keep (by k_asm)) (by assumption)
  | exact PairIn.at (by k_asm) (by assumption)
  | exact RowIn.at (by k_asm) (by assumption)
  | exact BoolIn.at (by k_asm) (by assumption))
local macro_rules | `(tactic| walk_at "MINE num") => `(tactic| first | omega | ((repeat (rename decide _ = true => hx9; replace hx9 := of_decide_eq_true hx9)); (repeat (rename decide _ = false => hx9; replace hx9 := of_decide_eq_false hx9)); omega))
local macro_rules | `(tactic| walk_at "MINE sub") => `(tactic| (k_here; (with_reducible show wpAny _ _ (subscriptTail _ _ (Value.ref _) (Value.int _ _)) _ _ _); k_dflt (first
  | (refine' sub_led ?k1 ?k2 ?k3 ?k4 ?k5 ?_ ?k6; (case k1 => k_asm); (case k2 => k_mem); (case k3 => decide); (case k4 => decide); (case k5 => rfl); (case k6 => with_unfolding_all rfl); k_whole)
  | ((with_reducible show wpAny _ _ (subscriptTail _ _ (Value.ref _) (Value.int 0 _)) _ _ _); refine' sub_pair0 ?k1 ?_ ?k6 ?k7; (case k1 => walk_at "MINE at"); (case k6 => with_unfolding_all rfl); (case k7 => (intro _; with_unfolding_all rfl)); k_whole; intro t')
  | ((with_reducible show wpAny _ _ (subscriptTail _ _ (Value.ref _) (Value.int 1 _)) _ _ _); refine' sub_pair1 ?k1 ?_ ?k6 ?k7; (case k1 => walk_at "MINE at"); (case k6 => with_unfolding_all rfl); (case k7 => (intro _; with_unfolding_all rfl)); k_whole; intro t')
  | (refine' sub_row ?k1 ?k2 ?k3 ?k4 ?_ ?k6 ?k7; (case k1 => walk_at "MINE at"); (case k2 => walk_at "MINE num"); (case k3 => walk_at "MINE num"); (case k4 => walk_at "MINE num"); (case k6 => with_unfolding_all rfl); (case k7 => (intro _; with_unfolding_all rfl)); k_whole; intro a' hp'; (try dsimp only at hp'))
  | (refine' sub_bools ?k1 ?k2 ?k3 ?k4 ?_ ?k6; (case k1 => walk_at "MINE at"); (case k2 => walk_at "MINE num"); (case k3 => walk_at "MINE num"); (case k4 => walk_at "MINE num"); (case k6 => with_unfolding_all rfl); k_whole))))
local macro_rules | `(tactic| walk_at "subscriptTail Name Constant ref int") => `(tactic| walk_at "MINE sub")
local macro_rules | `(tactic| walk_at "subscriptTail Name Name ref int") => `(tactic| walk_at "MINE sub")
local macro_rules | `(tactic| walk_at "subscriptTail Subscript Name Constant Constant ref int") => `(tactic| (k_here; k_dflt (refine kba_turn (value' := PySem.Expr.Name (PySem.Str.ofString "_") ⟨0, 0, 0, 0⟩) (fun _ => rfl) ?_)))
local macro_rules | `(tactic| walk_at "subscriptTail Subscript Name Name Constant ref int") => `(tactic| (k_here; k_dflt (refine kba_turn (value' := PySem.Expr.Name (PySem.Str.ofString "_") ⟨0, 0, 0, 0⟩) (fun _ => rfl) ?_)))
local macro_rules | `(tactic| walk_at "subscriptTail Subscript Name UnaryOp Constant ref int") => `(tactic| (k_here; k_dflt (refine kba_turn (value' := PySem.Expr.Name (PySem.Str.ofString "_") ⟨0, 0, 0, 0⟩) (fun _ => rfl) ?_)))
local macro_rules | `(tactic| walk_at "MINE for") => `(tactic| (k_here; (rename Fr _ _ _ _ => lF'); (with_unfolding_all refine' For_invVF lF' ?k1 ?k2 ?_; (case k1 => exact rfl); (case k2 => exact rfl); k_whole)))
local macro_rules | `(tactic| walk_at "exec For Name Name cons nil") => `(tactic| walk_at "MINE for")
local macro_rules | `(tactic| walk_at "exec For Name Call cons nil") => `(tactic| walk_at "MINE for")
local macro_rules | `(tactic| walk_at "exec For Name Subscript cons nil") => `(tactic| walk_at "MINE for")
local macro_rules | `(tactic| walk_at "eval Name") => `(tactic| (k_here; k_dflt (first
  | (refine' nameX_L ?F ?v ?_ ?a ?b; (case F => k_asm); (case a => rfl); (case b => rfl); (case v => rfl); k_whole)
  | (refine' nameX_K ?F ?X ?T ?e ?_ ?a ?b; (case F => k_asm); (case X => k_asm); (case T => k_asm); (case a => rfl); (case b => rfl); (case e => k_is); k_whole)
  | (refine' nameX_B ?F ?X ?T ?e ?v ?n ?_ ?a ?b; (case F => k_asm); (case X => k_asm); (case T => k_asm); (case a => rfl); (case b => rfl); (case e => k_is); (case v => first | boot_by_name | exact PyProof.Rows.boot_abs | exact PyProof.Rows.boot_max | exact PyProof.Rows.boot_isinstance | boot_fast); (case n => decide); k_whole))))
local macro_rules | `(tactic| walk_at "storeName") => `(tactic| (k_here; k_dflt (refine' storeX_L ?F ?N ?_ ?a ?b; (case F => k_asm); (case N => k_asm); (case a => rfl); (case b => rfl); k_whole; intro h' F' N'; (try k_sweep))))
local macro_rules | `(tactic| walk_at "call builtin:len cons nil") => `(tactic| (k_here; k_dflt (refine' len_row ?k1 ?k2 ?_; (case k1 => walk_at "MINE at"); (case k2 => walk_at "MINE num"); k_whole)))
local macro_rules | `(tactic| walk_at "exec While") => `(tactic| (k_here; refine Stop.go ?_))
local macro_rules | `(tactic| walk_at "exec While Compare cons nil") => `(tactic| (k_here; refine Stop.go ?_))
local macro_rules | `(tactic| walk_at "MINE off") => `(tactic| first | exact List.forall_mem_nil _ | exact off_own (by assumption) (by k_allIn) | exact OwnOff.ne (by assumption) (by k_memK) | (refine List.forall_mem_cons.mpr ⟨?_, ?_⟩ <;> walk_at "MINE off") | k_ne)
local macro_rules | `(tactic| walk_at "call type:range") => `(tactic| (k_here; k_dflt (first
  | (refine' range1' ?k1 ?k2 ?_; (case k1 => k_asm); (case k2 => k_asm); k_whole)
  | (refine' range2' ?k1 ?k2 ?_; (case k1 => k_asm); (case k2 => k_asm); k_whole)); intro r' h' tk' t1' u1' v1' hR' F' N'; (try k_sweep)))
local macro_rules | `(tactic| walk_at "call builtin:list.append cons cons nil") => `(tactic| (k_here; (with_reducible show wpAny _ _ (call (Value.builtin _) [Value.ref _, _]) _ _ _); k_dflt (refine' append_of ?k1 ?k2 ?k3 ?z ?_; (case k1 => k_asm); (case k2 => k_asm); (case k3 => k_upd); (case z => omega); k_whole); intro h' F' N'; (try k_sweep)))
local macro_rules | `(tactic| walk_at "call builtin:list.append") => `(tactic| (k_here; (with_reducible show wpAny _ _ (call (Value.builtin _) [Value.ref _, _]) _ _ _); k_dflt (refine' append_of ?k1 ?k2 ?k3 ?z ?_; (case k1 => k_asm); (case k2 => k_asm); (case k3 => k_upd); (case z => omega); k_whole); intro h' F' N'; (try k_sweep)))
local macro_rules | `(tactic| walk_at "call type:tuple") => `(tactic| (k_here; (with_reducible show wpAny _ _ (call (Value.type _) [Value.ref _]) _ _ _); k_dflt (refine' tuple_of ?k1 ?k2 ?k3 ?k4 ?_; (case k1 => k_asm); (case k2 => k_asm); (case k3 => k_mem); (case k4 => omega); k_whole); intro D' h' F' N' l1'; (try k_lt l1'); (try k_sweep)))
local macro_rules | `(tactic| walk_at "WhileStep2 ret") => `(tactic| dsimp only [WhileStep2])
local macro_rules | `(tactic| walk_at "WhileStep2 brk") => `(tactic| dsimp only [WhileStep2])
local macro_rules | `(tactic| walk_at "Turn ret") => `(tactic| dsimp only [Turn])
local macro_rules | `(tactic| walk_at "Turn brk") => `(tactic| dsimp only [Turn])
local macro_rules | `(tactic| walk_at "eval ListComp") => `(tactic| (k_here; k_dflt (refine LCg.ListComp_U (F₀ := by k_asm) (by with_unfolding_all rfl) (by decide) (by rfl) (by decide) (by rfl) ?_)))
local macro_rules | `(tactic| walk_at "CompSrc") => `(tactic| refine Stop.go ?_)
local macro_rules | `(tactic| walk_at "subscriptTail ListComp") => `(tactic| (k_here; k_dflt (refine kba_turn (value' := PySem.Expr.Name (PySem.Str.ofString "_") ⟨0, 0, 0, 0⟩) (fun _ => rfl) ?_)))
local macro_rules | `(tactic| walk_at "execs cons") => `(tactic| (k_here; refine execs_gen ?_; intro tk'; (try dsimp only)))
local macro_rules | `(tactic| walk_at "execs nil") => `(tactic| (k_here; refine wpAny_execs_nil ?_))
local macro_rules | `(tactic| walk_at "CompEnd") => `(tactic| refine Stop.go ?_)


theorem merge0_spec (w : World) : Ctr w 21 3 [] [] (fun _ => True) (fun r _ A' => ∃ D, r = .ref D ∧ A' = [(D, tup #[] 0)]) := by
  unfold Ctr
  w_top off
  k_fill
  intro mean mg mb dp un gd cn cs L a ccd cl outer A₀ base h₀ m s Q E B F X N T hk hpre hd hu hret
  have hcL := cLine_is
  refine wpAny_call ?_
  k_dflt (
    refine' call_rest (vs := []) (g₁ := fun D => some [(Str.ofString "tuples", Value.ref D)]) (binds := fun D => [(Str.ofString "tuples", Value.ref D)]) ?k1 ?k2 ?k3 ?k4 ?k5 ?kA ?kF ?kK ?k6 ?k7 ?k8 ?kP ?kG ?kB ?_ ?c2 ?c3 ?c4 ?c5; (case kA => exact rfl); (case kF => exact rfl); (case kK => assumption); (case k1 => k_asm); (case k2 => k_asm); (case k3 => k_asm); (case k4 => k_asm); (case k5 => k_asm); (case k6 => k_is); (case k7 => k_is); (case k8 => ktr_room); (case kP => exact rfl); (case kG => exact fun _ => rfl); (case c5 => decide); (case kB => exact fun _ => locs rfl); (case c2 => exact rfl); (case c3 => exact rfl); (case c4 => exact rfl); k_whole)
  intro D0 g L' h₁ l0 FG F' N' B' X' T' hG hL'
  generalize s.toks + List.length _ = tk00
  try dsimp only
  k_fold
  k_steps
  rename_i lst hh0 l1 a1 F1 N1 b1
  refine Stop.of ?_
  refine loopJ_tupL (news := [(lst, listOf (List.toArray []) 0), (D0, tup #[] 0)]) (fun _ m nx => (∀ p ∈ [(Str.ofString "all_ranges", Value.ref lst)], m p.1 = some p.2) ∧ nx = [(lst, listOf (List.toArray []) 0), (D0, tup #[] 0)]) rfl (.tail _ (.head _)) F1 N1 ⟨List.forall_mem_cons.mpr ⟨rfl, List.forall_mem_nil _⟩, rfl⟩ (fun i m nx ⟨_, e⟩ => e ▸ .tail _ (.head _)) ?turn ?done
  case turn =>
    intro i v m₁ nx I oI h tk hlt
    exact absurd hlt (Nat.not_lt_zero _)
  case done =>
    rintro m₁ nx h tk ⟨hm, rfl⟩ F₁ N₁
    rw [← over_eq hm] at F₁
    change Fr g L' h _ at F₁
    change News g L' h _ at N₁
    k_steps
    rename_i D9 h9 F9 N9 l9 kF kN Tc kX
    exact hret _ _ _ [(D9, tup #[] 0)] kF (cb_drop kN (by kcf_all)) (kept_of hG F9 (cb_drop N9 (by kcf_all))) ⟨D9, rfl, rfl⟩

end Mine
end

section
open PySem PySem.W PyProof.Rows PySem.Calls
set_option Elab.async false
set_option maxRecDepth 100000
set_option maxHeartbeats 8000000
set_option pp.deepTerms false
set_option pp.proofs false
namespace Mine
local macro_rules | `(tactic| walk_at "MINE none") => `(tactic| skip)
local macro_rules | `(tactic| walk_at "MINE enter") => `(tactic| k_dflt (
  refine' call_part ?k1 ?k2 ?k3 ?k4 ?k5 ?kA ?kF ?kK ?k6 ?k7 ?k8 ?k9 ?kB ?_ ?c2 ?c3 ?c4 ?c5; (case kA => exact rfl); (case kF => exact rfl); (case kK => assumption); (case k1 => k_asm); (case k2 => k_asm); (case k3 => k_asm); (case k4 => k_asm); (case k5 => k_asm); (case k6 => k_is); (case k7 => k_is); (case k8 => ktr_room); (case k9 => exact BindsTo.of_eq rfl); (case c5 => decide); (case kB => exact locs rfl); (case c2 => exact rfl); (case c3 => exact rfl); (case c4 => exact rfl); k_whole))
local macro_rules | `(tactic| units_room) => `(tactic| ((have hcL9 := cLine_is); (simp only [units_in1, units_deeper, Around.mark_units] at *); (try dsimp only [ktrTop] at *); omega))
local macro_rules | `(tactic| walk_at "call builtin:list.pop") => `(tactic| (k_here; (with_reducible show wpAny _ _ (call (Value.builtin _) [Value.ref _, Value.int _ _]) _ _ _); k_dflt (refine' pop0 ?F ?N ?U ?z ?_; (case F => k_asm); (case N => k_asm); (case U => k_upd); (case z => omega)); (intro h' F' N')))
local macro_rules | `(tactic| walk_at "call ref") => `(tactic| (k_here; (with_reducible show wpAny _ _ (call (Value.ref _) _) _ _ _); refine Stop.go ?_))
local macro_rules | `(tactic| walk_at "pyIter ref") => `(tactic| ((with_reducible show wpAny _ _ (pyIter (Value.ref _)) (fun it s₂ => LoopAtV _ _ _ _ _ _ _ _ _ it s₂) _ _); refine Stop.go ?_))
local macro_rules | `(tactic| walk_at "MINE at") => `(tactic| first
  | assumption
  | exact PairAt.keeps (Fr.keep (by k_asm)) (by assumption)
  | exact RowAt.keeps (Fr.keep (by k_asm)) (by assumption)
  | exact BoolList.keeps (Fr.keep (by k_asm)) (by assumption)
  | exact PairIn.at (by k_asm) (by assumption)
  | exact RowIn.at (by k_asm) (by assumption)
  | exact BoolIn.at (by k_asm) (by assumption))
local macro_rules | `(tactic| walk_at "MINE num") => `(tactic| first | omega | ((repeat (rename decide _ = true => hx9; replace hx9 := of_decide_eq_true hx9)); (repeat (rename decide _ = false => hx9; replace hx9 := of_decide_eq_false hx9)); omega))
local macro_rules | `(tactic| walk_at "MINE sub") => `(tactic| (k_here; (with_reducible show wpAny _ _ (subscriptTail _ _ (Value.ref _) (Value.int _ _)) _ _ _); k_dflt (first
  | (refine' sub_led ?k1 ?k2 ?k3 ?k4 ?k5 ?_ ?k6; (case k1 => k_asm); (case k2 => k_mem); (case k3 => decide); (case k4 => decide); (case k5 => rfl); (case k6 => with_unfolding_all rfl); k_whole)
  | ((with_reducible show wpAny _ _ (subscriptTail _ _ (Value.ref _) (Value.int 0 _)) _ _ _); refine' sub_pair0 ?k1 ?_ ?k6 ?k7; (case k1 => walk_at "MINE at"); (case k6 => with_unfolding_all rfl); (case k7 => (intro _; with_unfolding_all rfl)); k_whole; intro t')
  | ((with_reducible show wpAny _ _ (subscriptTail _ _ (Value.ref _) (Value.int 1 _)) _ _ _); refine' sub_pair1 ?k1 ?_ ?k6 ?k7; (case k1 => walk_at "MINE at"); (case k6 => with_unfolding_all rfl); (case k7 => (intro _; with_unfolding_all rfl)); k_whole; intro t')
  | (refine' sub_row ?k1 ?k2 ?k3 ?k4 ?_ ?k6 ?k7; (case k1 => walk_at "MINE at"); (case k2 => walk_at "MINE num"); (case k3 => walk_at "MINE num"); (case k4 => walk_at "MINE num"); (case k6 => with_unfolding_all rfl); (case k7 => (intro _; with_unfolding_all rfl)); k_whole; intro a' hp'; (try dsimp only at hp'))
  | (refine' sub_bools ?k1 ?k2 ?k3 ?k4 ?_ ?k6; (case k1 => walk_at "MINE at"); (case k2 => walk_at "MINE num"); (case k3 => walk_at "MINE num"); (case k4 => walk_at "MINE num"); (case k6 => with_unfolding_all rfl); k_whole))))
local macro_rules | `(tactic| walk_at "subscriptTail Name Constant ref int") => `(tactic| walk_at "MINE sub")
local macro_rules | `(tactic| walk_at "subscriptTail Name Name ref int") => `(tactic| walk_at "MINE sub")
local macro_rules | `(tactic| walk_at "subscriptTail Subscript Name Constant Constant ref int") => `(tactic| (k_here; k_dflt (refine kba_turn (value' := PySem.Expr.Name (PySem.Str.ofString "_") ⟨0, 0, 0, 0⟩) (fun _ => rfl) ?_)))
local macro_rules | `(tactic| walk_at "subscriptTail Subscript Name Name Constant ref int") => `(tactic| (k_here; k_dflt (refine kba_turn (value' := PySem.Expr.Name (PySem.Str.ofString "_") ⟨0, 0, 0, 0⟩) (fun _ => rfl) ?_)))
local macro_rules | `(tactic| walk_at "subscriptTail Subscript Name UnaryOp Constant ref int") => `(tactic| (k_here; k_dflt (refine kba_turn (value' := PySem.Expr.Name (PySem.Str.ofString "_") ⟨0, 0, 0, 0⟩) (fun _ => rfl) ?_)))
local macro_rules | `(tactic| walk_at "MINE for") => `(tactic| (k_here; (rename Fr _ _ _ _ => lF'); (with_unfolding_all refine' For_invVF lF' ?k1 ?k2 ?_; (case k1 => exact rfl); (case k2 => exact rfl); k_whole)))
local macro_rules | `(tactic| walk_at "exec For Name Name cons nil") => `(tactic| walk_at "MINE for")
local macro_rules | `(tactic| walk_at "exec For Name Call cons nil") => `(tactic| walk_at "MINE for")
local macro_rules | `(tactic| walk_at "exec For Name Subscript cons nil") => `(tactic| walk_at "MINE for")
local macro_rules | `(tactic| walk_at "eval Name") => `(tactic| (k_here; k_dflt (first
  | (refine' nameX_L ?F ?v ?_ ?a ?b; (case F => k_asm); (case a => rfl); (case b => rfl); (case v => rfl); k_whole)
  | (refine' nameX_K ?F ?X ?T ?e ?_ ?a ?b; (case F => k_asm); (case X => k_asm); (case T => k_asm); (case a => rfl); (case b => rfl); (case e => k_is); k_whole)
  | (refine' nameX_B ?F ?X ?T ?e ?v ?n ?_ ?a ?b; (case F => k_asm); (case X => k_asm); (case T => k_asm); (case a => rfl); (case b => rfl); (case e => k_is); (case v => first | boot_by_name | exact PyProof.Rows.boot_abs | exact PyProof.Rows.boot_max | exact PyProof.Rows.boot_isinstance | boot_fast); (case n => decide); k_whole))))
local macro_rules | `(tactic| walk_at "storeName") => `(tactic| (k_here; k_dflt (refine' storeX_L ?F ?N ?_ ?a ?b; (case F => k_asm); (case N => k_asm); (case a => rfl); (case b => rfl); k_whole; intro h' F' N'; (try k_sweep))))
local macro_rules | `(tactic| walk_at "call builtin:len cons nil") => `(tactic| (k_here; k_dflt (refine' len_row ?k1 ?k2 ?_; (case k1 => walk_at "MINE at"); (case k2 => walk_at "MINE num"); k_whole)))
local macro_rules | `(tactic| walk_at "exec While") => `(tactic| (k_here; refine Stop.go ?_))
local macro_rules | `(tactic| walk_at "exec While Compare cons nil") => `(tactic| (k_here; refine Stop.go ?_))
local macro_rules | `(tactic| walk_at "MINE off") => `(tactic| first | exact List.forall_mem_nil _ | exact off_own (by assumption) (by k_allIn) | exact OwnOff.ne (by assumption) (by k_memK) | (refine List.forall_mem_cons.mpr ⟨?_, ?_⟩ <;> walk_at "MINE off") | k_ne)
local macro_rules | `(tactic| walk_at "call type:range") => `(tactic| (k_here; k_dflt (first
  | (refine' range1' ?k1 ?k2 ?_; (case k1 => k_asm); (case k2 => k_asm); k_whole)
  | (refine' range2' ?k1 ?k2 ?_; (case k1 => k_asm); (case k2 => k_asm); k_whole)); intro r' h' tk' t1' u1' v1' hR' F' N'; (try k_sweep)))
local macro_rules | `(tactic| walk_at "call builtin:list.append cons cons nil") => `(tactic| (k_here; (with_reducible show wpAny _ _ (call (Value.builtin _) [Value.ref _, _]) _ _ _); k_dflt (refine' append_of ?k1 ?k2 ?k3 ?z ?_; (case k1 => k_asm); (case k2 => k_asm); (case k3 => k_upd); (case z => omega); k_whole); intro h' F' N'; (try k_sweep)))
local macro_rules | `(tactic| walk_at "call builtin:list.append") => `(tactic| (k_here; (with_reducible show wpAny _ _ (call (Value.builtin _) [Value.ref _, _]) _ _ _); k_dflt (refine' append_of ?k1 ?k2 ?k3 ?z ?_; (case k1 => k_asm); (case k2 => k_asm); (case k3 => k_upd); (case z => omega); k_whole); intro h' F' N'; (try k_sweep)))
local macro_rules | `(tactic| walk_at "call type:tuple") => `(tactic| (k_here; (with_reducible show wpAny _ _ (call (Value.type _) [Value.ref _]) _ _ _); k_dflt (refine' tuple_of ?k1 ?k2 ?k3 ?k4 ?_; (case k1 => k_asm); (case k2 => k_asm); (case k3 => k_mem); (case k4 => omega); k_whole); intro D' h' F' N' l1'; (try k_lt l1'); (try k_sweep)))
local macro_rules | `(tactic| walk_at "WhileStep2 ret") => `(tactic| dsimp only [WhileStep2])
local macro_rules | `(tactic| walk_at "WhileStep2 brk") => `(tactic| dsimp only [WhileStep2])
local macro_rules | `(tactic| walk_at "Turn ret") => `(tactic| dsimp only [Turn])
local macro_rules | `(tactic| walk_at "Turn brk") => `(tactic| dsimp only [Turn])
local macro_rules | `(tactic| walk_at "eval ListComp") => `(tactic| (k_here; k_dflt (refine LCg.ListComp_U (F₀ := by k_asm) (by with_unfolding_all rfl) (by decide) (by rfl) (by decide) (by rfl) ?_)))
local macro_rules | `(tactic| walk_at "CompSrc") => `(tactic| refine Stop.go ?_)
local macro_rules | `(tactic| walk_at "subscriptTail ListComp") => `(tactic| (k_here; k_dflt (refine kba_turn (value' := PySem.Expr.Name (PySem.Str.ofString "_") ⟨0, 0, 0, 0⟩) (fun _ => rfl) ?_)))
local macro_rules | `(tactic| walk_at "execs cons") => `(tactic| (k_here; refine execs_gen ?_; intro tk'; (try dsimp only)))
local macro_rules | `(tactic| walk_at "execs nil") => `(tactic| (k_here; refine wpAny_execs_nil ?_))
local macro_rules | `(tactic| walk_at "CompEnd") => `(tactic| refine Stop.go ?_)


theorem merged_spec (w : World) (G : List (Addr × Obj)) (rl : Addr) (rvs : List Value) (rn : Nat) (rows : List (List (Int × Int))) (hR : Each (RowIn G) rvs rows) (hoG : OwnOff G [rl, 16]) (hb : ∀ ps ∈ rows, ∀ p ∈ ps, p.1 ≤ p.2) (hz : rows.flatten.length ≤ 20) (hn0 : 0 < rvs.length) (hn : rvs.length ≤ 4) :
    Ctr w 68 4 [.ref rl] [(rl, listOf rvs.toArray rn), (16, tabObj #[])] (fun h => ∀ p ∈ G, h.get? p.1 = some p.2)
      (fun r _ A' => ∃ ps tp, RowIn (A' ++ G) r ps ∧ Canon (CovM rows.flatten) (BriM rows.flatten) ps ∧ ps.length ≤ 20 ∧ (16, tabObj tp) ∈ A') := by
  unfold Ctr
  w_top off
  k_fill
  intro mean mg mb dp un gd cn cs L a ccd cl outer A₀ base h₀ m s Q E B F X N T hk hpre hd hu hret
  have hcL := cLine_is
  refine wpAny_call ?_
  walk_at "MINE enter"
  intro g L' h₁ FG F' N' B' X' T' hG hL'
  generalize s.toks + List.length _ = tk00
  try dsimp only
  k_fold
  have HG : ∀ p ∈ G, g.get? p.1 = some p.2 := fun p hm => hG _ _ (hpre p hm) fun h => hoG p hm p.1 h rfl
  rcases rvs with _ | ⟨v1, _ | ⟨v2, _ | ⟨v3, _ | ⟨v4, _ | ⟨v5, r⟩⟩⟩⟩⟩
  · exact absurd hn0 (by simp)
  · k_steps
    refine Stop.of ?_
    change wpAny _ _ (call (.ref 21) [v1]) _ _ _
    refine ctr_use (dp := dp + 1) (un := un + 3) (merge_spec w G [v1] rows hR hb hz hn) [] (by k_asm) (by k_asm) (by k_asm) (by k_asm) (by k_asm) rfl (by kcf_all) (by kcf_all) (fun _ h => nomatch h) (fun p hp => F'.keep _ _ (HG p hp)) (by omega) (by omega) ?_
    intro r h3 tk3 A3 F3 N3 hA3 hoff3 hps
    rw [List.append_nil] at N3
    clear hA3 hoff3
    k_steps
    rename_i kF kN Tc kX
    exact hret _ _ _ A3 kF kN (kept_of hG F3 N3) hps
  · k_steps
    refine Stop.of ?_
    change wpAny _ _ (call (.ref 21) [v1, v2]) _ _ _
    refine ctr_use (dp := dp + 1) (un := un + 3) (merge_spec w G [v1, v2] rows hR hb hz hn) [] (by k_asm) (by k_asm) (by k_asm) (by k_asm) (by k_asm) rfl (by kcf_all) (by kcf_all) (fun _ h => nomatch h) (fun p hp => F'.keep _ _ (HG p hp)) (by omega) (by omega) ?_
    intro r h3 tk3 A3 F3 N3 hA3 hoff3 hps
    rw [List.append_nil] at N3
    clear hA3 hoff3
    k_steps
    rename_i kF kN Tc kX
    exact hret _ _ _ A3 kF kN (kept_of hG F3 N3) hps
  · k_steps
    refine Stop.of ?_
    change wpAny _ _ (call (.ref 21) [v1, v2, v3]) _ _ _
    refine ctr_use (dp := dp + 1) (un := un + 3) (merge_spec w G [v1, v2, v3] rows hR hb hz hn) [] (by k_asm) (by k_asm) (by k_asm) (by k_asm) (by k_asm) rfl (by kcf_all) (by kcf_all) (fun _ h => nomatch h) (fun p hp => F'.keep _ _ (HG p hp)) (by omega) (by omega) ?_
    intro r h3 tk3 A3 F3 N3 hA3 hoff3 hps
    rw [List.append_nil] at N3
    clear hA3 hoff3
    k_steps
    rename_i kF kN Tc kX
    exact hret _ _ _ A3 kF kN (kept_of hG F3 N3) hps
  · k_steps
    refine Stop.of ?_
    change wpAny _ _ (call (.ref 21) [v1, v2, v3, v4]) _ _ _
    refine ctr_use (dp := dp + 1) (un := un + 3) (merge_spec w G [v1, v2, v3, v4] rows hR hb hz hn) [] (by k_asm) (by k_asm) (by k_asm) (by k_asm) (by k_asm) rfl (by kcf_all) (by kcf_all) (fun _ h => nomatch h) (fun p hp => F'.keep _ _ (HG p hp)) (by omega) (by omega) ?_
    intro r h3 tk3 A3 F3 N3 hA3 hoff3 hps
    rw [List.append_nil] at N3
    clear hA3 hoff3
    k_steps
    rename_i kF kN Tc kX
    exact hret _ _ _ A3 kF kN (kept_of hG F3 N3) hps
  · exact absurd hn (by simp only [List.length_cons]; omega)

end Mine
end

section
open PySem PySem.W PyProof.Rows PySem.Calls
set_option Elab.async false
set_option maxRecDepth 100000
set_option maxHeartbeats 8000000
set_option pp.deepTerms false
set_option pp.proofs false
namespace Mine
local macro_rules | `(tactic| walk_at "MINE enter") => `(tactic| k_dflt (
  refine' call_part ?k1 ?k2 ?k3 ?k4 ?k5 ?kA ?kF ?kK ?k6 ?k7 ?k8 ?k9 ?kB ?_ ?c2 ?c3 ?c4 ?c5; (case kA => exact rfl); (case kF => exact rfl); (case kK => assumption); (case k1 => k_asm); (case k2 => k_asm); (case k3 => k_asm); (case k4 => k_asm); (case k5 => k_asm); (case k6 => k_is); (case k7 => k_is); (case k8 => ktr_room); (case k9 => exact BindsTo.of_eq rfl); (case c5 => decide); (case kB => exact locs rfl); (case c2 => exact rfl); (case c3 => exact rfl); (case c4 => exact rfl); k_whole))
local macro_rules | `(tactic| units_room) => `(tactic| ((have hcL9 := cLine_is); (simp only [units_in1, units_deeper, Around.mark_units] at *); (try dsimp only [ktrTop] at *); omega))
local macro_rules | `(tactic| walk_at "call builtin:list.pop") => `(tactic| (k_here; (with_reducible show wpAny _ _ (call (Value.builtin _) [Value.ref _, Value.int _ _]) _ _ _); k_dflt (refine' pop0 ?F ?N ?U ?z ?_; (case F => k_asm); (case N => k_asm); (case U => k_upd); (case z => omega)); (intro h' F' N')))
local macro_rules | `(tactic| walk_at "call ref") => `(tactic| (k_here; (with_reducible show wpAny _ _ (call (Value.ref _) _) _ _ _); refine Stop.go ?_))
local macro_rules | `(tactic| walk_at "pyIter ref") => `(tactic| ((with_reducible show wpAny _ _ (pyIter (Value.ref _)) (fun it s₂ => LoopAtV _ _ _ _ _ _ _ _ _ it s₂) _ _); refine Stop.go ?_))
local macro_rules | `(tactic| walk_at "MINE at") => `(tactic| first
  | assumption
  | exact PairAt.keeps (Fr.keep (by k_asm)) (by assumption)
  | exact RowAt.keeps (Fr.keep (by k_asm)) (by assumption)
  | exact BoolList.keeps (Fr.keep (by k_asm)) (by assumption)
  | exact PairIn.at (by k_asm) (by assumption)
  | exact RowIn.at (by k_asm) (by assumption)
  | exact BoolIn.at (by k_asm) (by assumption))
local macro_rules | `(tactic| walk_at "MINE num") => `(tactic| first | omega | ((repeat (rename decide _ = true => hx9; replace hx9 := of_decide_eq_true hx9)); (repeat (rename decide _ = false => hx9; replace hx9 := of_decide_eq_false hx9)); omega))
local macro_rules | `(tactic| walk_at "MINE sub") => `(tactic| (k_here; (with_reducible show wpAny _ _ (subscriptTail _ _ (Value.ref _) (Value.int _ _)) _ _ _); k_dflt (first
  | (refine' sub_led ?k1 ?k2 ?k3 ?k4 ?k5 ?_ ?k6; (case k1 => k_asm); (case k2 => k_mem); (case k3 => decide); (case k4 => decide); (case k5 => rfl); (case k6 => with_unfolding_all rfl); k_whole)
  | ((with_reducible show wpAny _ _ (subscriptTail _ _ (Value.ref _) (Value.int 0 _)) _ _ _); refine' sub_pair0 ?k1 ?_ ?k6 ?k7; (case k1 => walk_at "MINE at"); (case k6 => with_unfolding_all rfl); (case k7 => (intro _; with_unfolding_all rfl)); k_whole; intro t')
  | ((with_reducible show wpAny _ _ (subscriptTail _ _ (Value.ref _) (Value.int 1 _)) _ _ _); refine' sub_pair1 ?k1 ?_ ?k6 ?k7; (case k1 => walk_at "MINE at"); (case k6 => with_unfolding_all rfl); (case k7 => (intro _; with_unfolding_all rfl)); k_whole; intro t')
  | (refine' sub_row ?k1 ?k2 ?k3 ?k4 ?_ ?k6 ?k7; (case k1 => walk_at "MINE at"); (case k2 => walk_at "MINE num"); (case k3 => walk_at "MINE num"); (case k4 => walk_at "MINE num"); (case k6 => with_unfolding_all rfl); (case k7 => (intro _; with_unfolding_all rfl)); k_whole; intro a' hp'; (try dsimp only at hp'))
  | (refine' sub_bools ?k1 ?k2 ?k3 ?k4 ?_ ?k6; (case k1 => walk_at "MINE at"); (case k2 => walk_at "MINE num"); (case k3 => walk_at "MINE num"); (case k4 => walk_at "MINE num"); (case k6 => with_unfolding_all rfl); k_whole))))
local macro_rules | `(tactic| walk_at "subscriptTail Name Constant ref int") => `(tactic| walk_at "MINE sub")
local macro_rules | `(tactic| walk_at "subscriptTail Name Name ref int") => `(tactic| walk_at "MINE sub")
local macro_rules | `(tactic| walk_at "subscriptTail Subscript Name Constant Constant ref int") => `(tactic| (k_here; k_dflt (refine kba_turn (value' := PySem.Expr.Name (PySem.Str.ofString "_") ⟨0, 0, 0, 0⟩) (fun _ => rfl) ?_)))
local macro_rules | `(tactic| walk_at "subscriptTail Subscript Name Name Constant ref int") => `(tactic| (k_here; k_dflt (refine kba_turn (value' := PySem.Expr.Name (PySem.Str.ofString "_") ⟨0, 0, 0, 0⟩) (fun _ => rfl) ?_)))
local macro_rules | `(tactic| walk_at "subscriptTail Subscript Name UnaryOp Constant ref int") => `(tactic| (k_here; k_dflt (refine kba_turn (value' := PySem.Expr.Name (PySem.Str.ofString "_") ⟨0, 0, 0, 0⟩) (fun _ => rfl) ?_)))
local macro_rules | `(tactic| walk_at "MINE for") => `(tactic| (k_here; (rename Fr _ _ _ _ => lF'); (with_unfolding_all refine' For_invVF lF' ?k1 ?k2 ?_; (case k1 => exact rfl); (case k2 => exact rfl); k_whole)))
local macro_rules | `(tactic| walk_at "exec For Name Name cons nil") => `(tactic| walk_at "MINE for")
local macro_rules | `(tactic| walk_at "exec For Name Call cons nil") => `(tactic| walk_at "MINE for")
local macro_rules | `(tactic| walk_at "exec For Name Subscript cons nil") => `(tactic| walk_at "MINE for")
local macro_rules | `(tactic| walk_at "eval Name") => `(tactic| (k_here; k_dflt (first
  | (refine' nameX_L ?F ?v ?_ ?a ?b; (case F => k_asm); (case a => rfl); (case b => rfl); (case v => rfl); k_whole)
  | (refine' nameX_K ?F ?X ?T ?e ?_ ?a ?b; (case F => k_asm); (case X => k_asm); (case T => k_asm); (case a => rfl); (case b => rfl); (case e => k_is); k_whole)
  | (refine' nameX_B ?F ?X ?T ?e ?v ?n ?_ ?a ?b; (case F => k_asm); (case X => k_asm); (case T => k_asm); (case a => rfl); (case b => rfl); (case e => k_is); (case v => first | boot_by_name | exact PyProof.Rows.boot_abs | exact PyProof.Rows.boot_max | exact PyProof.Rows.boot_isinstance | boot_fast); (case n => decide); k_whole))))
local macro_rules | `(tactic| walk_at "storeName") => `(tactic| (k_here; k_dflt (refine' storeX_L ?F ?N ?_ ?a ?b; (case F => k_asm); (case N => k_asm); (case a => rfl); (case b => rfl); k_whole; intro h' F' N'; (try k_sweep))))
local macro_rules | `(tactic| walk_at "call builtin:len cons nil") => `(tactic| (k_here; k_dflt (refine' len_row ?k1 ?k2 ?_; (case k1 => walk_at "MINE at"); (case k2 => walk_at "MINE num"); k_whole)))
local macro_rules | `(tactic| walk_at "exec While") => `(tactic| (k_here; refine Stop.go ?_))
local macro_rules | `(tactic| walk_at "exec While Compare cons nil") => `(tactic| (k_here; refine Stop.go ?_))
local macro_rules | `(tactic| walk_at "MINE off") => `(tactic| first | exact List.forall_mem_nil _ | exact off_own (by assumption) (by k_allIn) | exact OwnOff.ne (by assumption) (by k_memK) | (refine List.forall_mem_cons.mpr ⟨?_, ?_⟩ <;> walk_at "MINE off") | k_ne)
local macro_rules | `(tactic| walk_at "call type:range") => `(tactic| (k_here; k_dflt (first
  | (refine' range1' ?k1 ?k2 ?_; (case k1 => k_asm); (case k2 => k_asm); k_whole)
  | (refine' range2' ?k1 ?k2 ?_; (case k1 => k_asm); (case k2 => k_asm); k_whole)); intro r' h' tk' t1' u1' v1' hR' F' N'; (try k_sweep)))
local macro_rules | `(tactic| walk_at "call builtin:list.append cons cons nil") => `(tactic| (k_here; (with_reducible show wpAny _ _ (call (Value.builtin _) [Value.ref _, _]) _ _ _); k_dflt (refine' append_of ?k1 ?k2 ?k3 ?z ?_; (case k1 => k_asm); (case k2 => k_asm); (case k3 => k_upd); (case z => omega); k_whole); intro h' F' N'; (try k_sweep)))
local macro_rules | `(tactic| walk_at "call builtin:list.append") => `(tactic| (k_here; (with_reducible show wpAny _ _ (call (Value.builtin _) [Value.ref _, _]) _ _ _); k_dflt (refine' append_of ?k1 ?k2 ?k3 ?z ?_; (case k1 => k_asm); (case k2 => k_asm); (case k3 => k_upd); (case z => omega); k_whole); intro h' F' N'; (try k_sweep)))
local macro_rules | `(tactic| walk_at "call type:tuple") => `(tactic| (k_here; (with_reducible show wpAny _ _ (call (Value.type _) [Value.ref _]) _ _ _); k_dflt (refine' tuple_of ?k1 ?k2 ?k3 ?k4 ?_; (case k1 => k_asm); (case k2 => k_asm); (case k3 => k_mem); (case k4 => omega); k_whole); intro D' h' F' N' l1'; (try k_lt l1'); (try k_sweep)))
local macro_rules | `(tactic| walk_at "WhileStep2 ret") => `(tactic| dsimp only [WhileStep2])
local macro_rules | `(tactic| walk_at "WhileStep2 brk") => `(tactic| dsimp only [WhileStep2])
local macro_rules | `(tactic| walk_at "Turn ret") => `(tactic| dsimp only [Turn])
local macro_rules | `(tactic| walk_at "Turn brk") => `(tactic| dsimp only [Turn])
local macro_rules | `(tactic| walk_at "eval ListComp") => `(tactic| (k_here; k_dflt (refine LCg.ListComp_U (F₀ := by k_asm) (by with_unfolding_all rfl) (by decide) (by rfl) (by decide) (by rfl) ?_)))
local macro_rules | `(tactic| walk_at "CompSrc") => `(tactic| refine Stop.go ?_)
local macro_rules | `(tactic| walk_at "subscriptTail ListComp") => `(tactic| (k_here; k_dflt (refine kba_turn (value' := PySem.Expr.Name (PySem.Str.ofString "_") ⟨0, 0, 0, 0⟩) (fun _ => rfl) ?_)))
local macro_rules | `(tactic| walk_at "execs cons") => `(tactic| (k_here; refine execs_gen ?_; intro tk'; (try dsimp only)))
local macro_rules | `(tactic| walk_at "execs nil") => `(tactic| (k_here; refine wpAny_execs_nil ?_))
local macro_rules | `(tactic| walk_at "CompEnd") => `(tactic| refine Stop.go ?_)


def RwJ (d l CA : Addr) (oC : Obj) (i : Nat) (ys : List Value) (nw : List (Addr × Obj)) : Prop :=
  ∃ vs sd t n1 n2 tl rows, nw = (d, listOf #[.ref l, .int sd t] n1) :: (l, listOf (List.toArray vs) n2) :: (CA, oC) :: (16, tabObj #[]) :: tl ∧ DrawOk vs sd ∧ OwnOff tl [d, l, CA, 16] ∧ Each (RowIn tl) ys rows ∧ rows.length = i ∧
    ∀ ps ∈ rows, ps.length ≤ 5 ∧ ∀ p ∈ ps, 0 ≤ p.1 ∧ p.1 ≤ p.2 ∧ p.2 ≤ 40
theorem sub_rows {α : Type} {xI xC xD xd xl xa x6 : α} {t8 tl : List α} : ∀ p ∈ xI :: xC :: xD :: xd :: xl :: xa :: x6 :: (t8 ++ tl), p ∈ ([xd, xl] ++ t8) ++ (xI :: xC :: xD :: xa :: x6 :: tl) := by
  intro p hp
  simp only [List.mem_cons, List.mem_append, List.not_mem_nil, or_false] at *
  grind
theorem own_app {a b : List (Addr × Obj)} {adr : List Addr} (h1 : OwnOff a adr) (h2 : OwnOff b adr) : OwnOff (a ++ b) adr := fun p hp => by
  rcases List.mem_append.mp hp with hp | hp
  · exact h1 p hp
  · exact h2 p hp
theorem own_two {t : List (Addr × Obj)} {a b c d : Addr} (h : OwnOff t [a, b]) (hc : ∀ p ∈ t, @Ne Nat c p.1) (hd : ∀ p ∈ t, @Ne Nat d p.1) : OwnOff t [a, b, c, d] := fun p hp e he => by
  rcases List.mem_cons.mp he with rfl | he
  · exact h p hp _ (.head _)
  · rcases List.mem_cons.mp he with rfl | he
    · exact h p hp _ (.tail _ (.head _))
    · rcases List.mem_cons.mp he with rfl | he
      · exact (hc p hp).symm
      · rw [List.mem_singleton.mp he]
        exact (hd p hp).symm
theorem news_mv {g h : Heap} {L : Addr} {a x t : List (Addr × Obj)} (N : News g L h (a ++ (x ++ t))) : News g L h (x ++ (a ++ t)) := fun p hp => N p (by
  simp only [List.mem_append] at *
  grind)
theorem own_of_off {led A : List (Addr × Obj)} {adr : List Addr} (hoff : ∀ p ∈ led, ∀ q ∈ A, p.1 ≠ q.1) (hs : ∀ b ∈ adr, b ∈ led.map (·.1)) : OwnOff A adr := fun q hq b hb => by
  obtain ⟨p, hp, rfl⟩ := List.mem_map.mp (hs b hb)
  exact (hoff p hp q hq).symm
theorem RowIn.ref {news : List (Addr × Obj)} {v : Value} {ps : List (Int × Int)} : RowIn news v ps → ∃ a, v = .ref a
  | ⟨a, _, _, e, _⟩ => ⟨a, e⟩
theorem flat_five : ∀ rows : List (List (Int × Int)), (∀ ps ∈ rows, ps.length ≤ 5) → rows.flatten.length ≤ 5 * rows.length
  | [], _ => Nat.le_refl _
  | ps :: r, h => by
    have h1 := h ps (.head _)
    have h2 := flat_five r fun q hq => h q (.tail _ hq)
    rw [List.flatten_cons, List.length_append, List.length_cons]
    omega
theorem held_flat (rows : List (List (Int × Int))) (x : Int) : HeldBy rows x ↔ CovM rows.flatten x :=
  ⟨fun ⟨ps, hps, p, hp, r⟩ => ⟨p, List.mem_flatten.mpr ⟨ps, hps, hp⟩, r⟩, fun ⟨p, hp, r⟩ => let ⟨ps, hps, h⟩ := List.mem_flatten.mp hp; ⟨ps, hps, p, h, r⟩⟩
theorem bri_flat (rows : List (List (Int × Int))) (x : Int) : BridgedBy rows x ↔ BriM rows.flatten x :=
  ⟨fun ⟨ps, hps, p, hp, r⟩ => ⟨p, List.mem_flatten.mpr ⟨ps, hps, hp⟩, r⟩, fun ⟨p, hp, r⟩ => let ⟨ps, hps, h⟩ := List.mem_flatten.mp hp; ⟨ps, hps, p, h, r⟩⟩
theorem two_in {a b c d e : Addr} : ∀ x ∈ [a, e], x ∈ [a, b, c, d, e] := fun x hx => by
  rcases List.mem_cons.mp hx with rfl | hx
  · exact .head _
  · rw [List.mem_singleton.mp hx]; simp
theorem news_cons {g h : Heap} {L : Addr} {nx : List (Addr × Obj)} {q : Addr × Obj} (N : News g L h nx) (hm : q ∈ nx) : News g L h (q :: nx) := fun p hp => by
  rcases List.mem_cons.mp hp with rfl | hp
  · exact N _ hm
  · exact N p hp
theorem hd1 {c : Nat} (h : c ≤ 600) : callerA.depth + 1 + c < recursionLimit := by
  rw [depth_caller]
  show 301 + 1 + c < 1000
  omega
theorem hu1 {c : Nat} (h : c ≤ 40) : callerA.units + 3 + 200 * c < cLine := by
  rw [units_caller, cLine_is]
  omega
def TnJ (d l CA T : Addr) (mk : Int) (tm : Tok) (o4 : Obj) (tp : Array Value) (ys : List Value) (tups : List (Addr × Obj)) (m : Str → Option Value) (nx : List (Addr × Obj)) : Prop :=
  ∃ vs sd t n1 n2, (∀ p ∈ [(Str.ofString "many", Value.int (1 + mk) tm), (Str.ofString "table", Value.ref T)], m p.1 = some p.2) ∧ nx = (d, listOf #[.ref l, .int sd t] n1) :: (l, listOf (List.toArray vs) n2) :: (CA, o4) :: (16, tabObj tp) :: (T, tup ys.toArray 0) :: tups ∧ DrawOk vs sd
def tabOf (n : Nat) : List (Int × Int) := (List.range n).map fun (k : Nat) => (3 * (k : Int), 3 * (k : Int) + 1)
theorem tabOf_succ (n : Nat) : tabOf (n + 1) = tabOf n ++ [(3 * (n : Int), 3 * (n : Int) + 1)] := by
  unfold tabOf
  rw [List.range_succ, List.map_append]
  rfl
theorem tabOf_len (n : Nat) : (tabOf n).length = n := by
  unfold tabOf
  simp
theorem tabOf_get {n i : Nat} (h : i < n) : (tabOf n).getD i (0, 0) = (3 * (i : Int), 3 * (i : Int) + 1) := by
  unfold tabOf
  simp [h]
theorem tabOf_sep (n : Nat) : Sep (tabOf n) := by
  refine ⟨fun i hi => ?_, fun i j hij hj => ?_⟩
  · rw [tabOf_len] at hi
    rw [tabOf_get hi]
    dsimp only
    omega
  · rw [tabOf_len] at hj
    rw [tabOf_get hj, tabOf_get (Nat.lt_trans hij hj)]
    dsimp only
    omega
theorem tabOf_cov (n : Nat) (u : Int) : Cov (tabOf n) u ↔ (0 ≤ u ∧ u < 3 * (n : Int) ∧ u % 3 < 2) := by
  constructor
  · rintro ⟨i, hi, h1, h2⟩
    rw [tabOf_len] at hi
    rw [tabOf_get hi] at h1 h2
    dsimp only at h1 h2
    omega
  · rintro ⟨h0, h1, h2⟩
    have hi : (u / 3).toNat < n := by omega
    refine ⟨(u / 3).toNat, by rw [tabOf_len]; exact hi, ?_, ?_⟩
    · rw [tabOf_get hi]
      dsimp only
      omega
    · rw [tabOf_get hi]
      dsimp only
      omega
def TbJ (d l CA : Addr) (base : List (Addr × Obj)) (i : Nat) (ys : List Value) (nw : List (Addr × Obj)) : Prop :=
  ∃ tups, nw = base ++ tups ∧ Each (PairIn tups) ys (tabOf i) ∧ OwnOff tups [d, l, CA]

def Mid (gh : Heap) (L : Addr) (names : List (Str × Value)) (led : List (Addr × Obj)) (s s' : Shared) : Prop :=
  ∃ h tk m, s' = { s with heap := h, toks := tk } ∧ (∀ p ∈ names, m p.1 = some p.2) ∧ Fr gh L h m ∧ News gh L h led
theorem Mid.intro {gh h : Heap} {L : Addr} {names : List (Str × Value)} {led all : List (Addr × Obj)} {s : Shared} {tk : Nat} {m : Str → Option Value} (F : Fr gh L h m) (N : News gh L h all) (sub : ∀ p ∈ led, p ∈ all) (hn : ∀ p ∈ names, m p.1 = some p.2) :
    Mid gh L names led s { s with heap := h, toks := tk } := ⟨h, tk, m, rfl, hn, F, fun p hp => N p (sub p hp)⟩
theorem execs_mid {M : Model} {A : Around} {E : Value → Shared → Prop} {s : Shared} {st : Stmt} {sts : List Stmt} {env : Env} {Q : Flow → Shared → Prop} (I : Shared → Prop)
    (h1 : ∀ tk, wpAny M A (exec st env) (fun f s' => match f with | .next => I s' | f => Q f s') E { s with toks := tk }) (h2 : ∀ s', I s' → wpAny M A (execs sts env) Q E s') : wpAny M A (execs (st :: sts) env) Q E s :=
  execs_gen fun tk => wpAny_mono (h1 tk) (fun f s' h => match f, h with
    | .next, h => h2 s' h
    | .brk, h => h
    | .cont, h => h
    | .ret v, h => h) fun _ _ e => e
theorem tru_tup {prog : Program} {w : World} {A : Around} {E : Value → Shared → Prop} {s : Shared} {h₀ : Heap} {L D : Addr} {news : List (Addr × Obj)} {vs : List Value} {n : Nat} {Q : Bool → Shared → Prop} (N : News h₀ L s.heap news) (hm : (D, tup vs.toArray n) ∈ news) (hz : vs.length ≤ 1000)
    (h : Q (!vs.isEmpty) { s with toks := s.toks + 1 + 1 }) : wpAny (model prog w) A (truthy (.ref D)) Q E s :=
  ktl_truthy (items := vs.toArray) (n := n) (N _ hm).1 (by rw [List.size_toArray]; omega) (by rw [List.isEmpty_toArray]; exact h)
theorem cov_iff (ps : List (Int × Int)) (u : Int) : Cov ps u ↔ CovM ps u := by
  constructor
  · rintro ⟨i, hi, h1, h2⟩
    have e : ps.getD i (0, 0) = ps[i] := by simp [hi]
    rw [e] at h1 h2
    exact ⟨ps[i], List.getElem_mem hi, h1, h2⟩
  · rintro ⟨p, hp, h1, h2⟩
    obtain ⟨i, hi, rfl⟩ := List.mem_iff_getElem.mp hp
    have e : ps.getD i (0, 0) = ps[i] := by simp [hi]
    exact ⟨i, hi, by rw [e]; exact h1, by rw [e]; exact h2⟩
theorem sep_of {ps : List (Int × Int)} (S : SepM ps) : Sep ps := by
  refine ⟨fun i hi => ?_, fun i j hij hj => ?_⟩
  · have e : ps.getD i (0, 0) = ps[i] := by simp [hi]
    rw [e]
    exact S.le _ (List.getElem_mem hi)
  · have hi : i < ps.length := Nat.lt_trans hij hj
    have e : ps.getD i (0, 0) = ps[i] := by simp [hi]
    have e2 : ps.getD j (0, 0) = ps[j] := by simp [hj]
    rw [e, e2]
    exact List.pairwise_iff_getElem.mp S.lt i j hi hj hij
theorem key_all {rows : List (List (Int × Int))} {ps : List (Int × Int)} {hs : List Bool} (C : Canon (HeldBy rows) (BridgedBy rows) ps) (hb : ∀ x, HeldBy rows x → 0 ≤ x ∧ x < 44) (eH : ∀ i : Nat, i < 44 → (hs.getD i false = true ↔ HeldBy rows i)) (u : Int) :
    Cov ps u ↔ (0 ≤ u ∧ u < 44 ∧ hs.getD u.toNat false = true) := by
  rw [cov_iff, ← C.held u]
  constructor
  · intro h
    obtain ⟨h0, h1⟩ := hb u h
    refine ⟨h0, h1, (eH u.toNat (by omega)).mpr ?_⟩
    rw [show ((u.toNat : Nat) : Int) = u by omega]
    exact h
  · rintro ⟨h0, h1, h2⟩
    have := (eH u.toNat (by omega)).mp h2
    rwa [show ((u.toNat : Nat) : Int) = u by omega] at this
theorem same_told {C P : Prop} {z y : Int} (hz : (z = 1 ∧ C) ∨ (z = 0 ∧ ¬ C)) (hy : (y = 1 ∧ P) ∨ (y = 0 ∧ ¬ P)) (h : C ↔ P) : z = y := by
  rcases hz with ⟨rfl, c⟩ | ⟨rfl, c⟩ <;> rcases hy with ⟨rfl, e⟩ | ⟨rfl, e⟩
  · rfl
  · exact absurd (h.mp c) e
  · exact absurd (h.mpr e) c
  · rfl
theorem hu64 : callerA.units + 3 + 64 < cLine := by
  rw [units_caller, cLine_is]
  omega

local macro_rules | `(tactic| walk_at "MINE at") => `(tactic| first | assumption | (refine' PairIn.sub ?mN ?ms ?mx; (case mx => assumption); (case mN => k_asm); (case ms => kcf_all)) | (refine' RowIn.sub ?mN ?ms ?mx; (case mx => assumption); (case mN => k_asm); (case ms => kcf_all)))
local macro_rules | `(tactic| walk_at "truthy ref") => `(tactic| (k_here; k_dflt (refine' tru_tup ?N ?m ?z ?_; (case N => k_asm); (case m => k_mem); (case z => (simp only [List.length_cons, List.length_nil]; omega)); k_whole); (try simp only [List.isEmpty_cons, List.isEmpty_nil, Bool.not_false, Bool.not_true])))
local macro_rules | `(tactic| walk_at "call builtin:isinstance") => `(tactic| (k_here; (with_reducible show wpAny _ _ (call (Value.builtin _) [Value.ref _, Value.type "tuple"]) _ _ _); k_dflt (first
  | (refine' isi_tup ?k1 ?k2 ?_; (case k1 => k_asm); (case k2 => k_mem); k_whole)
  | (refine' isi_pair ?k1 ?_; (case k1 => walk_at "MINE at"); k_whole))))
local macro_rules | `(tactic| walk_at "compareOp NotEq ref ref") => `(tactic| (k_here; k_dflt (refine' ne_same ?k1 ?k2 ?k3 ?k4 ?k5 ?k6 ?_; (case k1 => k_asm); (case k2 => assumption); (case k3 => assumption); (case k4 => kcf_all); (case k5 => assumption); (case k6 => exact hu64); k_whole)))
local macro_rules | `(tactic| walk_at "Mid") => `(tactic| refine Stop.go ?_)

theorem law_all : PySem.Challenge.rw_ax6027_01.Holds := by
  refine hd ?_
  k_go0
  all_goals (try k_fold)
  rename_i w0 s0 s1 mg mb G Y fa o pm cd doc ho hcd hg X V T B TE TW ns hs hlay0 hLl hr hl2 ra1 ra2 sc vs ra3 hL ra w1 r0 hI hr2 hcond hct hD h1 tk1 oc hoc X0 X' T' B' F' N' l0
  clear ho hcd X V TE TW hs hlay0 hr hl2 ra hr2 hct hD
  k_steps
  refine Stop.of ?_
  refine ctr_use (draw_spec w0 sc vs ns hI (by omega)) [(s1.heap.objs.size + 1, oc), (16, tabObj #[])] B' F' X' N' T' rfl (List.forall_mem_nil _) (by kcf_all) (fun _ _ _ h => nomatch h) (lifted.at fun o e => F'.keep sc o e) (hd1 (by decide)) (hu1 (by decide)) ?_
  intro r h3 tk3 A3 F3 N3 hA3 hoff3 ⟨d, l, vs3, sd3, t3, n13, n23, e1, e2, ok3, hdl⟩
  subst e1 e2
  have a1 : @Ne Nat (s1.heap.objs.size + 1) d := hoff3 _ (.head _) _ (.head _)
  have a2 : @Ne Nat (s1.heap.objs.size + 1) l := hoff3 _ (.head _) _ (.tail _ (.head _))
  have a3 : @Ne Nat 16 d := hoff3 _ (.tail _ (.head _)) _ (.head _)
  have a4 : @Ne Nat 16 l := hoff3 _ (.tail _ (.head _)) _ (.tail _ (.head _))
  clear hA3 hoff3 F' N'
  dsimp only [drawL, List.cons_append, List.nil_append] at N3
  k_steps
  rename_i h4 o4 F4 N4 d4 tk4
  refine Stop.of ?_
  refine ctr_use (take_c w0 d l hdl vs3 sd3 t3 n13 n23 4 _ ok3 (by decide) (by decide)) [(s1.heap.objs.size + 1, o4), (16, tabObj #[])] B' F4 X' N4 T' rfl (by kcf_all) (by kcf_all) (by walk_at "MINE off") trivial (hd1 (by decide)) (hu1 (by decide)) ?_
  intro r h5 tk5 A5 F5 N5 hA5 hoff5 ⟨nr, tkr, vs5, sd5, t5, n15, n25, e1, e2, ok5, hnr0, hnr1⟩
  subst e1 e2
  clear hA5 hoff5 F4 N4 ok3
  dsimp only [drawL, List.cons_append, List.nil_append] at N5
  k_steps
  rename_i rg h6 tk6 rt1 rt2 rt3 hR6 F6 N6
  refine Stop.of ?_
  refine LCg.CompSrc.range rfl F6 N6 hR6 (small_one (by decide) (by decide) (by omega) (by omega)) (rangeSize_nat _ _) (by rw [sizeLine_eq]; omega) ?_
  intro g2
  refine compJ (RwJ d l (s1.heap.objs.size + 1) o4) ⟨vs5, sd5, t5, n15, n25, [], [], rfl, ok5, own_nil, .nil, rfl, fun _ h => (nomatch h)⟩ ?turna ?fina
  case turna =>
    rintro i ys nw v I oI C oC D m₂ h tk E' hlt ⟨tv, rfl⟩ ⟨vs7, sd7, t7, n17, n27, tl, rows, rfl, ok7, ho, hE, hrl, hrb⟩ hC hx F N off ne
    k_steps
    obtain ⟨⟨o1, o2, o3⟩, ⟨o4', o5, o6⟩, ⟨o7, o8, o9⟩, ⟨oa, ob, oc'⟩, otl⟩ := id off
    refine Stop.of ?_
    refine ctr_use (row_spec w0 d l hdl vs7 sd7 t7 n17 n27 ok7) ((I, oI) :: (C, oC) :: (D, LCg.lst ys) :: (s1.heap.objs.size + 1, o4) :: (16, tabObj #[]) :: tl) B' F X' N T' rfl (by kcf_all) (by kcf_all) ?hoff trivial (hd1 (by decide)) (hu1 (by decide)) ?_
    case hoff => walk_at "MINE off"
    intro r h8 tk8 A8 F8 N8 hA8 hoff8 ⟨vs8, sd8, t8, n18, n28, tl8, ps8, e2, ok8, ho8, hR8, hl8, hb8⟩
    subst e2
    k_steps
    refine Stop.of ?_
    refine LCg.CompEnd.intro F8 N8 ((d, listOf #[.ref l, .int sd8 t8] n18) :: (l, listOf (List.toArray vs8) n28) :: (s1.heap.objs.size + 1, o4) :: (16, tabObj #[]) :: (tl8 ++ tl)) sub_rows (LCg.Off3.of fun p hp => ?_) trivial
      ⟨vs8, sd8, t8, n18, n28, tl8 ++ tl, rows ++ [ps8], rfl, ok8, own_app (own_two ho8 (fun p hp => hoff8 _ (.tail _ (.tail _ (.tail _ (.head _)))) p (List.mem_append_right _ hp)) (fun p hp => hoff8 _ (.tail _ (.tail _ (.tail _ (.tail _ (.head _))))) p (List.mem_append_right _ hp))) ho,
        (hE.mono fun _ _ k => k.mono fun _ h => List.mem_append_right _ h).snoc (hR8.mono fun _ h => List.mem_append_left _ h), by simp [hrl], fun ps hps => ?_⟩
    · rcases List.mem_cons.mp hp with rfl | hp
      · exact off.mem (d, listOf #[.ref l, .int sd7 t7] n17) (.head _)
      rcases List.mem_cons.mp hp with rfl | hp
      · exact off.mem (l, listOf (List.toArray vs7) n27) (.tail _ (.head _))
      rcases List.mem_cons.mp hp with rfl | hp
      · exact off.mem _ (.tail _ (.tail _ (.head _)))
      rcases List.mem_cons.mp hp with rfl | hp
      · exact off.mem _ (.tail _ (.tail _ (.tail _ (.head _))))
      rcases List.mem_append.mp hp with hp | hp
      · exact ⟨(hoff8 _ (.head _) p (List.mem_append_right _ hp)).symm, (hoff8 _ (.tail _ (.head _)) p (List.mem_append_right _ hp)).symm, (hoff8 _ (.tail _ (.tail _ (.head _))) p (List.mem_append_right _ hp)).symm⟩
      · exact off.mem _ (.tail _ (.tail _ (.tail _ (.tail _ hp))))
    · rcases List.mem_append.mp hps with hps | hps
      · exact hrb ps hps
      · rw [List.mem_singleton.mp hps]
        exact ⟨hl8, hb8⟩
  clear hR6 F6 N6 ok5
  rintro ys nw ⟨vs7, sd7, t7, n17, n27, tl, rows, rfl, ok7, ho, hE, hrl, hrb⟩ D h2 tk2 F2 N2 off
  obtain ⟨q1, q2, q3, q4, qtl⟩ := off
  dsimp only at q1 q2 q3 q4
  have ho2 := own_more ho (off1_own qtl)
  clear qtl ho
  have hyl := hE.length
  k_steps
  refine Stop.of ?_
  refine ctr_use (points_spec w0 D ys ys.length rows (fun ps hps => (hrb ps hps).2) (fun ps hps => by have := (hrb ps hps).1; omega)) ((D, LCg.lst ys) :: (d, listOf #[.ref l, .int sd7 t7] n17) :: (l, listOf (List.toArray vs7) n27) :: (s1.heap.objs.size + 1, o4) :: (16, tabObj #[]) :: tl) B' F2 X' N2 T' rfl (List.forall_mem_nil _) (by kcf_all) (fun _ _ _ h => nomatch h) ⟨(N2 _ (.head _)).1, hE.mono fun _ _ k => k.at fun p hp => N2 p (.tail _ (.tail _ (.tail _ (.tail _ (.tail _ hp)))))⟩ (hd1 (by decide)) (hu1 (by decide)) ?_
  intro r h9 tk9 A9 F9 N9 hA9 hoff9 ⟨pt, hl, bl, hv, bv, n19, n29, e1, e2, hP⟩
  subst e1 e2
  dsimp only [List.cons_append, List.nil_append] at N9
  have hP4 : OwnOff [(pt, tup #[.ref hl, .ref bl] 0), (hl, listOf (List.toArray hv) n19), (bl, listOf (List.toArray bv) n29)] [D, d, l, s1.heap.objs.size + 1, 16] := own_of_off hoff9 (by
    intro b hb
    simp only [List.mem_cons, List.not_mem_nil, or_false] at hb
    rcases hb with rfl | rfl | rfl | rfl | rfl <;> simp)
  clear hA9 hoff9
  k_steps
  rename_i h10 F10 N10 tk10
  obtain ⟨⟨hs, bs, hhs, hbs, h44, b44, eH, eB⟩⟩ := hP
  have hbnd : ∀ x, HeldBy rows x → 0 ≤ x ∧ x < 44 := fun x ⟨ps, hps, p, hp, h1, h2⟩ => by have := (hrb ps hps).2 p hp; omega
  have hbri : ∀ x, BridgedBy rows x → HeldBy rows x ∧ HeldBy rows (x + 1) := fun x ⟨ps, hps, p, hp, h1, h2⟩ => ⟨⟨ps, hps, p, hp, h1, by omega⟩, ⟨ps, hps, p, hp, by omega, by omega⟩⟩
  refine Stop.of ?_
  refine ctr_use (str_spec w0 hl bl hs bs h44 b44 (HeldBy rows) (BridgedBy rows) eH eB hbnd hbri) _ B' F10 X' N10 T' rfl (List.forall_mem_nil _) (fun _ h => h) (fun _ _ _ h => nomatch h) ⟨⟨⟨hv, n19, (N10 _ (.tail _ (.head _))).1, hhs⟩⟩, ⟨⟨bv, n29, (N10 _ (.tail _ (.tail _ (.head _)))).1, hbs⟩⟩⟩ (hd1 (by decide)) (hu1 (by decide)) ?_
  intro r h11 tk11 A11 F11 N11 hA11 hoff11 ⟨psd, hRd, hCd, hld⟩
  replace N11 := news_mv (x := [_, _, _, _, _, _, _, _]) N11
  dsimp only [List.cons_append, List.nil_append] at N11
  have ho3 : OwnOff (A11 ++ tl) [D, d, l, s1.heap.objs.size + 1, 16] := own_app (own_of_off hoff11 (by
    intro b hb
    simp only [List.mem_cons, List.not_mem_nil, or_false] at hb
    rcases hb with rfl | rfl | rfl | rfl | rfl <;> simp)) ho2
  have hE3 : Each (RowIn (A11 ++ tl)) ys rows := hE.mono fun _ _ k => k.mono fun _ h => List.mem_append_right _ h
  replace hRd : RowIn (A11 ++ tl) r psd := hRd.mono fun _ h => List.mem_append_left _ h
  obtain ⟨due, rfl⟩ := hRd.ref
  clear hA11 hoff11 N10 F10 hE ho2
  generalize A11 ++ tl = tl3 at *
  clear tl A11
  k_steps
  rename_i h12 F12 N12 tk12
  have hfl := flat_five rows fun ps hps => (hrb ps hps).1
  have hof : OwnOff ([(pt, tup #[.ref hl, .ref bl] 0), (hl, listOf (List.toArray hv) n19), (bl, listOf (List.toArray bv) n29)] ++ ((d, listOf #[.ref l, .int sd7 t7] n17) :: (l, listOf (List.toArray vs7) n27) :: (s1.heap.objs.size + 1, o4) :: tl3)) [D, 16] :=
    own_app (own_less hP4 two_in) (own_cons (own_cons (own_cons (own_less ho3 two_in) (List.forall_mem_cons.mpr ⟨q3, List.forall_mem_cons.mpr ⟨(Nat.ne_of_gt (Nat.lt_succ_of_lt l0) : @Ne Nat (s1.heap.objs.size + 1) 16), List.forall_mem_nil _⟩⟩)) (List.forall_mem_cons.mpr ⟨q2, List.forall_mem_cons.mpr ⟨a4.symm, List.forall_mem_nil _⟩⟩)) (List.forall_mem_cons.mpr ⟨q1, List.forall_mem_cons.mpr ⟨a3.symm, List.forall_mem_nil _⟩⟩))
  refine Stop.of ?_
  refine ctr_use (merged_spec w0 tl3 D ys ys.length rows hE3 (own_less ho3 two_in) (fun ps hps p hp => ((hrb ps hps).2 p hp).2.1) (by omega) (by omega) (by omega)) ((pt, tup #[.ref hl, .ref bl] 0) :: (hl, listOf (List.toArray hv) n19) :: (bl, listOf (List.toArray bv) n29) :: (d, listOf #[.ref l, .int sd7 t7] n17) :: (l, listOf (List.toArray vs7) n27) :: (s1.heap.objs.size + 1, o4) :: tl3)
    B' F12 X' N12 T' rfl (by kcf_all) (by kcf_all) (off_own hof (by kcf_all)) (fun p hp => (N12 p (.tail _ (.tail _ (.tail _ (.tail _ (.tail _ (.tail _ (.tail _ (.tail _ hp))))))))).1) (hd1 (by decide)) (hu1 (by decide)) ?_
  clear hof
  intro r h13 tk13 A13 F13 N13 hA13 hoff13 ⟨pst, tp, hRt, hCt, hlt, h16⟩
  have epst : pst = psd := canon_uniq (CH := HeldBy rows) (CB := BridgedBy rows) ⟨hCt.sep, fun x => (held_flat rows x).trans (hCt.held x), fun x => (bri_flat rows x).trans (hCt.bri x)⟩ hCd
  subst epst
  replace N13 := news_mv (x := [_, _, _, _, _, _]) N13
  dsimp only [List.cons_append, List.nil_append] at N13
  have ho4 : OwnOff (A13 ++ tl3) [d, l, s1.heap.objs.size + 1] := own_app (own_of_off hoff13 (by
    intro b hb
    simp only [List.mem_cons, List.not_mem_nil, or_false] at hb
    rcases hb with rfl | rfl | rfl <;> simp)) (own_less ho3 (by simp))
  replace hP4 := own_less hP4 (adr' := [d, l, s1.heap.objs.size + 1]) (by simp)
  obtain ⟨told, tvs, tn, e, hmt, hEt⟩ := id hRt.ex
  subst e
  replace hRd : RowIn (A13 ++ tl3) (.ref due) pst := hRd.mono fun _ h => List.mem_append_right _ h
  have hDt := dat_row hRt
  have hDd := dat_row hRd
  have hok := dat_ok pst
  replace N13 := news_cons (q := (16, tabObj tp)) N13 (.tail _ (.tail _ (.tail _ (.tail _ (.tail _ (.tail _ (List.mem_append_left _ h16)))))))
  replace N13 := news_cons (q := (told, tup (List.toArray tvs) tn)) N13 (.tail _ (.tail _ (.tail _ (.tail _ (.tail _ (.tail _ (.tail _ hmt)))))))
  clear h16
  clear hA13 hoff13 N12 F12 hE3 ho3 hCt hfl hlt hRd hmt
  generalize A13 ++ tl3 = tl4 at *
  clear tl3 A13 hyl q1 q2 q3 q4 hrl ys
  w_top off
  k_steps
  rename_i h14 F14 N14 tk14
  refine Stop.of ?_
  change wpAny _ _ (call (.ref 21) []) _ _ _
  refine ctr_use (merge0_spec w0) _ B' F14 X' N14 T' rfl (List.forall_mem_nil _) (fun _ h => h) (fun _ _ _ h => nomatch h) trivial (hd1 (by decide)) (hu1 (by decide)) ?_
  intro r h15 tk15 A15 F15 N15 hA15 hoff15 ⟨E0, e1, e2⟩
  subst e1 e2
  clear hA15 hoff15
  dsimp only [List.cons_append, List.nil_append] at N15
  k_steps
  rename_i D16 h16 F16 N16 l16 tk16
  refine Stop.of ?_
  refine loopJ_tupL (news := ((told, tup (List.toArray tvs) tn) :: (16, tabObj tp) :: (pt, tup #[.ref hl, .ref bl] 0) :: (hl, listOf (List.toArray hv) n19) :: (bl, listOf (List.toArray bv) n29) :: (d, listOf #[.ref l, .int sd7 t7] n17) :: (l, listOf (List.toArray vs7) n27) :: (s1.heap.objs.size + 1, o4) :: tl4)) (fun _ m nx => (∀ p ∈ [(Str.ofString "script", Value.ref sc), (Str.ofString "points", Value.ref pt), (Str.ofString "told", Value.ref told)], m p.1 = some p.2) ∧ nx = ((told, tup (List.toArray tvs) tn) :: (16, tabObj tp) :: (pt, tup #[.ref hl, .ref bl] 0) :: (hl, listOf (List.toArray hv) n19) :: (bl, listOf (List.toArray bv) n29) :: (d, listOf #[.ref l, .int sd7 t7] n17) :: (l, listOf (List.toArray vs7) n27) :: (s1.heap.objs.size + 1, o4) :: tl4)) rfl (.head _) F16 (cb_drop N16 (by kcf_all)) ⟨List.forall_mem_cons.mpr ⟨rfl, List.forall_mem_cons.mpr ⟨rfl, List.forall_mem_cons.mpr ⟨rfl, List.forall_mem_nil _⟩⟩⟩, rfl⟩ (fun i m nx ⟨_, e⟩ => e ▸ .head _) ?turnb ?doneb
  case turnb =>
    rintro i v m₁ nx I oI h tk hlt hv ⟨hm, rfl⟩ hne F₁ N₁
    rw [← over_eq hm] at F₁
    change Fr _ s1.heap.objs.size h _ at F₁
    change News _ s1.heap.objs.size h _ at N₁
    obtain ⟨p, hp, hvp⟩ := hEt.getL (i := i) (a := v) (by simpa using hv)
    obtain ⟨va, rfl⟩ : ∃ va, v = .ref va := let ⟨⟨a, _, _, _, e, _⟩⟩ := hvp; ⟨a, e⟩
    clear hm hv
    k_steps
    rename Fr _ _ _ _ => FZ
    exact TurnTo.intro FZ N₁ ((told, tup (List.toArray tvs) tn) :: (16, tabObj tp) :: (pt, tup #[.ref hl, .ref bl] 0) :: (hl, listOf (List.toArray hv) n19) :: (bl, listOf (List.toArray bv) n29) :: (d, listOf #[.ref l, .int sd7 t7] n17) :: (l, listOf (List.toArray vs7) n27) :: (s1.heap.objs.size + 1, o4) :: tl4) (by kcf_all) hne ⟨List.forall_mem_cons.mpr ⟨rfl, List.forall_mem_cons.mpr ⟨rfl, List.forall_mem_cons.mpr ⟨rfl, List.forall_mem_nil _⟩⟩⟩, rfl⟩
  clear F16 N16 l16 hDt hDd hok
  rintro m₁ nx h tk ⟨hm, rfl⟩ F₁ N₁
  w_top off
  rw [← over_eq hm] at F₁
  change Fr _ s1.heap.objs.size h _ at F₁
  change News _ s1.heap.objs.size h _ at N₁
  clear hm
  have htl := hEt.length
  show wpAny _ _ (execs (_ :: _) _) _ _ _
  refine execs_mid (Mid (ghostOf s1.heap [(20, 16)]) s1.heap.objs.size [] ((told, tup (List.toArray tvs) tn) :: (16, tabObj tp) :: (pt, tup #[.ref hl, .ref bl] 0) :: (hl, listOf (List.toArray hv) n19) :: (bl, listOf (List.toArray bv) n29) :: (d, listOf #[.ref l, .int sd7 t7] n17) :: (l, listOf (List.toArray vs7) n27) :: (s1.heap.objs.size + 1, o4) :: tl4) s1) ?ifpc ?restc
  case ifpc =>
    intro tk
    rcases hEt with _ | ⟨he, hE⟩
    · k_steps
      exact Mid.intro F₁ N₁ (fun _ h => h) (List.forall_mem_nil _)
    · rename_i a0 b0 as0 bs0
      replace htl := hE.length
      rw [List.length_cons] at hld
      have hkey := key_all hCd hbnd eH
      have hsep := sep_of hCd.sep
      k_steps
      rename_i r2 h2 tk2 u1 u2 u3 hR2 F2 N2
      refine Stop.of ?_
      refine loopJ_range (news := ((told, tup (List.toArray (a0 :: as0)) tn) :: (16, tabObj tp) :: (pt, tup #[.ref hl, .ref bl] 0) :: (hl, listOf (List.toArray hv) n19) :: (bl, listOf (List.toArray bv) n29) :: (d, listOf #[.ref l, .int sd7 t7] n17) :: (l, listOf (List.toArray vs7) n27) :: (s1.heap.objs.size + 1, o4) :: tl4)) (fun _ m nx => (∀ p ∈ [(Str.ofString "script", Value.ref sc), (Str.ofString "points", Value.ref pt), (Str.ofString "told", Value.ref told)], m p.1 = some p.2) ∧ nx = ((told, tup (List.toArray (a0 :: as0)) tn) :: (16, tabObj tp) :: (pt, tup #[.ref hl, .ref bl] 0) :: (hl, listOf (List.toArray hv) n19) :: (bl, listOf (List.toArray bv) n29) :: (d, listOf #[.ref l, .int sd7 t7] n17) :: (l, listOf (List.toArray vs7) n27) :: (s1.heap.objs.size + 1, o4) :: tl4)) rfl hR2 (small_one (by decide) (by decide) (by decide) (by decide)) (rangeSize_nat _ _) F2 N2 ⟨List.forall_mem_cons.mpr ⟨rfl, List.forall_mem_cons.mpr ⟨rfl, List.forall_mem_cons.mpr ⟨rfl, List.forall_mem_nil _⟩⟩⟩, rfl⟩ ?turnc ?donec
      case turnc =>
        clear hR2 F2 N2
        rintro i t m₁ nx I oI h tk hlt ⟨hm, rfl⟩ hne F₁ N₁
        rw [← over_eq hm] at F₁
        change Fr _ s1.heap.objs.size h _ at F₁
        change News _ s1.heap.objs.size h _ at N₁
        clear hm
        k_steps
        rename Fr _ _ _ _ => FZ
        rename News _ _ _ _ => NZ
        refine Stop.of ?_
        refine ctr_use (bi_spec w0 told _ _ (b0 :: bs0) (by simp) (by rw [List.length_cons]; omega) hsep) _ B' FZ X' NZ T' rfl (List.forall_mem_nil _) (fun _ h => h) (fun _ _ _ h => nomatch h) (hRt.sub NZ (by kcf_all)) (hd1 (by decide)) (hu1 (by decide)) ?_
        intro r h3 tk3 A3 F3 N3 hA3 hoff3 ⟨eA, z, tz, er, hz⟩
        subst eA er
        dsimp only [List.nil_append] at N3
        clear hA3 hoff3
        k_steps
        clear FZ NZ
        rename Fr _ _ _ _ => FZ
        rename News _ _ _ _ => NZ
        refine Stop.of ?_
        refine ctr_use (holds_spec w0 hl hs _ _ h44) _ B' FZ X' NZ T' rfl (List.forall_mem_nil _) (fun _ h => h) (fun _ _ _ h => nomatch h) ⟨⟨hv, n19, (NZ _ (.tail _ (.tail _ (.tail _ (.tail _ (.head _)))))).1, hhs⟩⟩ (hd1 (by decide)) (hu1 (by decide)) ?_
        intro r h4 tk4 A4 F4 N4 hA4 hoff4 ⟨eA, y, ty, er, hy⟩
        subst eA er
        dsimp only [List.nil_append] at N4
        clear hA4 hoff4
        have ezy := same_told hz hy (hkey _)
        subst ezy
        clear hy hz
        walk1
        rw [bne_self_eq_false]
        k_steps
        clear FZ NZ
        rename Fr _ _ _ _ => FZ
        rename News _ _ _ _ => NZ
        exact TurnTo.intro FZ NZ ((told, tup (List.toArray (a0 :: as0)) tn) :: (16, tabObj tp) :: (pt, tup #[.ref hl, .ref bl] 0) :: (hl, listOf (List.toArray hv) n19) :: (bl, listOf (List.toArray bv) n29) :: (d, listOf #[.ref l, .int sd7 t7] n17) :: (l, listOf (List.toArray vs7) n27) :: (s1.heap.objs.size + 1, o4) :: tl4) (by kcf_all) hne ⟨List.forall_mem_cons.mpr ⟨rfl, List.forall_mem_cons.mpr ⟨rfl, List.forall_mem_cons.mpr ⟨rfl, List.forall_mem_nil _⟩⟩⟩, rfl⟩
      case donec =>
        clear hR2 F2 N2
        rintro m₁ nx h tk ⟨hm, rfl⟩ F₁ N₁
        rw [← over_eq hm] at F₁
        change Fr _ s1.heap.objs.size h _ at F₁
        change News _ s1.heap.objs.size h _ at N₁
        clear hm
        k_steps
        all_goals
          rename Fr _ _ _ _ => FZ
          rename News _ _ _ _ => NZ
          refine Stop.of ?_
          refine ctr_use (bi_spec w0 told _ _ (b0 :: bs0) (by simp) (by rw [List.length_cons]; omega) hsep) _ B' FZ X' NZ T' rfl (List.forall_mem_nil _) (fun _ h => h) (fun _ _ _ h => nomatch h) (hRt.sub NZ (by kcf_all)) (hd1 (by decide)) (hu1 (by decide)) ?_
          intro r h3 tk3 A3 F3 N3 hA3 hoff3 ⟨eA, z, tz, er, hz⟩
          subst eA er
          dsimp only [List.nil_append] at N3
          clear hA3 hoff3
          k_steps
          clear FZ NZ
          rename Fr _ _ _ _ => FZ
          rename News _ _ _ _ => NZ
          refine Stop.of ?_
          refine ctr_use (holds_spec w0 hl hs _ _ h44) _ B' FZ X' NZ T' rfl (List.forall_mem_nil _) (fun _ h => h) (fun _ _ _ h => nomatch h) ⟨⟨hv, n19, (NZ _ (.tail _ (.tail _ (.tail _ (.head _))))).1, hhs⟩⟩ (hd1 (by decide)) (hu1 (by decide)) ?_
          intro r h4 tk4 A4 F4 N4 hA4 hoff4 ⟨eA, y, ty, er, hy⟩
          subst eA er
          dsimp only [List.nil_append] at N4
          clear hA4 hoff4
          have ezy := same_told hz hy (hkey _)
          subst ezy
          clear hy hz
          walk1
          rw [bne_self_eq_false]
          k_steps
          clear FZ NZ
          rename Fr _ _ _ _ => FZ
          rename News _ _ _ _ => NZ
          exact Mid.intro FZ NZ (fun _ h => h) (List.forall_mem_nil _)
  clear F₁ N₁ hEt hRt hCd hld hbri hbnd eB eH b44 h44 hbs hhs hrb htl
  intro s' hmid
  w_top off
  obtain ⟨h, tk, m, rfl, -, F₁, N₁⟩ := hmid
  replace N₁ : News _ _ _ [(d, listOf #[.ref l, .int sd7 t7] n17), (l, listOf (List.toArray vs7) n27), (s1.heap.objs.size + 1, o4), (16, tabObj tp)] := cb_drop N₁ (by kcf_all)
  clear ho4 hP4 
  k_steps
  rename_i tk2
  refine Stop.of ?_
  refine ctr_use (take_c w0 d l hdl vs7 sd7 t7 n17 n27 30 _ ok7 (by decide) (by decide)) [(s1.heap.objs.size + 1, o4), (16, tabObj tp)] B' F₁ X' N₁ T' rfl (by kcf_all) (by kcf_all) (by walk_at "MINE off") trivial (hd1 (by decide)) (hu1 (by decide)) ?_
  intro r h5 tk5 A5 F5 N5 hA5 hoff5 ⟨mk, tkr, vs5, sd5, t5, n15, n25, e1, e2, ok5, hmk0, hmk1⟩
  subst e1 e2
  clear hA5 hoff5 F₁ N₁ ok7
  dsimp only [drawL, List.cons_append, List.nil_append] at N5
  k_steps
  rename_i rg h6 tk6 rt1 rt2 rt3 hR6 F6 N6
  refine Stop.of ?_
  refine LCg.CompSrc.range rfl F6 N6 hR6 (small_one (by decide) (by decide) (by omega) (by omega)) (rangeSize_nat _ _) (by rw [sizeLine_eq]; omega) ?_
  intro g2
  refine compJ (TbJ d l (s1.heap.objs.size + 1) [(d, listOf #[.ref l, .int sd5 t5] n15), (l, listOf (List.toArray vs5) n25), (s1.heap.objs.size + 1, o4), (16, tabObj tp)]) ⟨[], rfl, .nil, own_nil⟩ ?turnd ?find
  case turnd =>
    rintro i ys nw v I oI C oC D m₂ h tk E' hlt ⟨tv, rfl⟩ ⟨tups, rfl, hE, ho⟩ hC hx F N off ne
    dsimp only [List.cons_append, List.nil_append] at N off
    k_steps
    rename_i D9 h9 F9 N9 l9
    simp only [Int.zero_add] at N9
    refine Stop.of ?_
    obtain ⟨o1, o2, o3, o6, o5⟩ := off
    exact LCg.CompEnd.intro F9 N9 ((d, listOf #[.ref l, .int sd5 t5] n15) :: (l, listOf (List.toArray vs5) n25) :: (s1.heap.objs.size + 1, o4) :: (16, tabObj tp) :: (D9, tup #[.int (3 * (i : Int)) (tk + 1), .int (3 * (i : Int) + 1) (tk + 1 + 1 + 1 + 1 + 1)] 0) :: tups) (by kcf_all) ⟨o1, o2, o3, o6, ⟨Nat.ne_of_gt l9.1, Nat.ne_of_gt l9.2.1, Nat.ne_of_gt l9.2.2.1⟩, o5⟩ trivial
      ⟨(D9, tup #[.int (3 * (i : Int)) (tk + 1), .int (3 * (i : Int) + 1) (tk + 1 + 1 + 1 + 1 + 1)] 0) :: tups, rfl, by rw [tabOf_succ]; exact (pairs_tl hE).snoc ⟨⟨D9, _, _, 0, rfl, .head _⟩⟩, own_cons ho (by walk_at "MINE off")⟩
  clear hR6 F6 N6
  rintro ys nw ⟨tups, rfl, hE, ho⟩ D h2 tk2 F2 N2 off
  dsimp only [List.cons_append, List.nil_append] at N2 off
  obtain ⟨q1, q2, q3, q4, qt⟩ := off
  dsimp only at q1 q2 q3 q4
  replace ho := own_more ho (off1_own qt)
  clear qt
  have hyl := hE.length
  rw [tabOf_len] at hyl
  k_steps
  rename_i T9 h9a l9 h9b tk9 r9 h9 tk9b u1 u2 u3 hR9 F9 N9
  obtain ⟨n, hn, e⟩ : ∃ n : Nat, (n : Int) = 1 + mk ∧ (1 + mk - 0).toNat = n := ⟨(1 + mk - 0).toNat, by omega, rfl⟩
  rw [e] at hE hyl
  clear e
  have hTab : RowIn ((T9, tup ys.toArray 0) :: tups) (.ref T9) (tabOf n) := ⟨⟨T9, ys, 0, rfl, .head _, pairs_tl hE⟩⟩
  refine Stop.of ?_
  refine loopJ_range (news := (d, listOf #[.ref l, .int sd5 t5] n15) :: (l, listOf (List.toArray vs5) n25) :: (s1.heap.objs.size + 1, o4) :: (16, tabObj tp) :: (T9, tup ys.toArray 0) :: tups) (fun _ => TnJ d l (s1.heap.objs.size + 1) T9 mk tk5 o4 tp ys tups) rfl hR9 (small_one (by decide) (by decide) (by decide) (by decide)) (rangeSize_nat _ _) F9 (cb_drop N9 (by kcf_all)) ⟨vs5, sd5, t5, n15, n25, List.forall_mem_cons.mpr ⟨rfl, List.forall_mem_cons.mpr ⟨rfl, List.forall_mem_nil _⟩⟩, rfl, ok5⟩ ?turne ?donee
  case turne =>
    clear hR9 F9 N9 ok5
    rintro i t m₁ nx I oI h tk hlt ⟨vs6, sd6, t6, n16, n26, hm, rfl, ok6⟩ hne F₁ N₁
    rw [← over_eq hm] at F₁
    change Fr _ s1.heap.objs.size h _ at F₁
    change News _ s1.heap.objs.size h _ at N₁
    clear hm
    obtain ⟨e1, hne⟩ := List.forall_mem_cons.mp hne
    obtain ⟨e2, hne⟩ := List.forall_mem_cons.mp hne
    obtain ⟨e3, hne⟩ := List.forall_mem_cons.mp hne
    obtain ⟨e5, hne⟩ := List.forall_mem_cons.mp hne
    obtain ⟨e4, hne⟩ := List.forall_mem_cons.mp hne
    dsimp only at e1 e2 e3 e4 e5
    obtain ⟨l9b, l9c, l9d, l9e, l9g, l9f⟩ := id l9
    k_steps
    refine Stop.of ?_
    refine ctr_use (take_c w0 d l hdl vs6 sd6 t6 n16 n26 _ _ ok6 (by omega) (by omega)) ((I, oI) :: (s1.heap.objs.size + 1, o4) :: (16, tabObj tp) :: (T9, tup ys.toArray 0) :: tups) B' F₁ X' N₁ T' rfl (by kcf_all) (by kcf_all) (by walk_at "MINE off") trivial (hd1 (by decide)) (hu1 (by decide)) ?_
    intro r h5 tk5' A5 F5 N5 hA5 hoff5 ⟨k5, tkk, vs8, sd8, t8, n18, n28, e1', e2', ok8, hk0, hk1⟩
    subst e1' e2'
    clear hA5 hoff5 F₁ N₁ ok6
    dsimp only [drawL, List.cons_append, List.nil_append] at N5
    k_steps
    rename Fr _ _ _ _ => FZ
    rename News _ _ _ _ => NZ
    refine Stop.of ?_
    refine ctr_use (bi_spec w0 T9 _ _ (tabOf n) (by rw [tabOf_len]; omega) (by rw [tabOf_len]; omega) (tabOf_sep n)) _ B' FZ X' NZ T' rfl (List.forall_mem_nil _) (fun _ h => h) (fun _ _ _ h => nomatch h) (hTab.sub NZ (by kcf_all)) (hd1 (by decide)) (hu1 (by decide)) ?_
    intro r h6 tk6 A6 F6 N6 hA6 hoff6 ⟨eA, z, tz, er, hz⟩
    subst eA er
    dsimp only [List.nil_append] at N6
    clear hA6 hoff6 FZ NZ
    rw [tabOf_cov] at hz
    rcases hz with ⟨rfl, c1, c2, c3⟩ | ⟨rfl, c⟩
    · k_steps
      all_goals
        rename Fr _ _ _ _ => FZ
        rename News _ _ _ _ => NZ
        exact TurnTo.intro FZ NZ ((d, listOf #[.ref l, .int sd8 t8] n18) :: (l, listOf (List.toArray vs8) n28) :: (s1.heap.objs.size + 1, o4) :: (16, tabObj tp) :: (T9, tup ys.toArray 0) :: tups) (by kcf_all) (List.forall_mem_cons.mpr ⟨e1, List.forall_mem_cons.mpr ⟨e2, List.forall_mem_cons.mpr ⟨e3, List.forall_mem_cons.mpr ⟨e5, List.forall_mem_cons.mpr ⟨e4, hne⟩⟩⟩⟩⟩)
          ⟨vs8, sd8, t8, n18, n28, List.forall_mem_cons.mpr ⟨rfl, List.forall_mem_cons.mpr ⟨rfl, List.forall_mem_nil _⟩⟩, rfl, ok8⟩
    · k_steps
      all_goals
        rename Fr _ _ _ _ => FZ
        rename News _ _ _ _ => NZ
        exact TurnTo.intro FZ NZ ((d, listOf #[.ref l, .int sd8 t8] n18) :: (l, listOf (List.toArray vs8) n28) :: (s1.heap.objs.size + 1, o4) :: (16, tabObj tp) :: (T9, tup ys.toArray 0) :: tups) (by kcf_all) (List.forall_mem_cons.mpr ⟨e1, List.forall_mem_cons.mpr ⟨e2, List.forall_mem_cons.mpr ⟨e3, List.forall_mem_cons.mpr ⟨e5, List.forall_mem_cons.mpr ⟨e4, hne⟩⟩⟩⟩⟩)
          ⟨vs8, sd8, t8, n18, n28, List.forall_mem_cons.mpr ⟨rfl, List.forall_mem_cons.mpr ⟨rfl, List.forall_mem_nil _⟩⟩, rfl, ok8⟩
  case donee =>
    rintro m₁ nx h tk ⟨vs6, sd6, t6, n16, n26, hm, rfl, ok6⟩ F₁ N₁
    rw [← over_eq hm] at F₁
    change Fr _ s1.heap.objs.size h _ at F₁
    change News _ s1.heap.objs.size h _ at N₁
    clear hm
    k_steps
    clear hR9 F9 N9 ok5
    rename Fr _ _ _ _ => FZ
    rename News _ _ _ _ => NZ
    refine Stop.of ?_
    refine ctr_use (bi_spec w0 T9 _ _ (tabOf n) (by rw [tabOf_len]; omega) (by rw [tabOf_len]; omega) (tabOf_sep n)) _ B' FZ X' NZ T' rfl (List.forall_mem_nil _) (fun _ h => h) (fun _ _ _ h => nomatch h) (hTab.sub NZ (by kcf_all)) (hd1 (by decide)) (hu1 (by decide)) ?_
    intro r h6 tk6 A6 F6 N6 hA6 hoff6 ⟨eA, z, tz, er, hz⟩
    subst eA er
    dsimp only [List.nil_append] at N6
    clear hA6 hoff6 FZ NZ
    rw [tabOf_cov] at hz
    have ez : z = 1 := by omega
    subst ez
    clear hz
    k_steps
    rename Fr _ _ _ _ => FZ
    rename News _ _ _ _ => NZ
    refine Stop.of ?_
    refine ctr_use (bi_spec w0 T9 _ _ (tabOf n) (by rw [tabOf_len]; omega) (by rw [tabOf_len]; omega) (tabOf_sep n)) _ B' FZ X' NZ T' rfl (List.forall_mem_nil _) (fun _ h => h) (fun _ _ _ h => nomatch h) (hTab.sub NZ (by kcf_all)) (hd1 (by decide)) (hu1 (by decide)) ?_
    intro r h7 tk7 A7 F7 N7 hA7 hoff7 ⟨eA, z, tz, er, hz⟩
    subst eA er
    dsimp only [List.nil_append] at N7
    clear hA7 hoff7 FZ NZ
    rw [tabOf_cov] at hz
    have ez : z = 0 := by omega
    subst ez
    clear hz
    walk1
    walk1
    refine ⟨⟨.inl ⟨.bool true, .bool true, [], rfl, ?g1, .bool true, ?g2, ?g3⟩, ?g4, rfl, ?g5⟩, ?g6, trivial⟩
    case g1 => intro _; rfl
    case g2 => kernel_rfl
    case g3 => intro _; exact ⟨List.nodup_nil, fun _ h => nomatch h⟩
    case g4 => exact fun b o e => F7.keep b o e
    case g5 => exact hg
    case g6 => exact ⟨tp, (N7 _ (.tail _ (.tail _ (.tail _ (.head _))))).1⟩
end Mine
end

open PySem PySem.W PyProof.Rows
theorem PySem.Challenge.cw_ax6027_01_holds : PySem.Challenge.rw_ax6027_01.Holds :=
  Mine.law_all

import PyProof.Rows.All
import Wide.All
import OpenK.AllK
import Wide.FinOn
import PySem.Challenge.RW_nb0025_01
open PySem PySem.W PyProof.Rows
set_option Elab.async false

section
set_option maxRecDepth 100000
set_option maxHeartbeats 8000000
namespace Mine
open_top hd for PySem.Challenge.rw_nb0025_01
end Mine
end

section
set_option maxRecDepth 100000
set_option maxHeartbeats 8000000
namespace Mine

/-- a call that hands back a value and leaves what stood -/
def TellV (w : World) (f : Addr) (D U : Nat) (vs : List Value) (need : List (Addr × Obj) → Prop) (R : Value → Prop) : Prop :=
  ∀ (prog : Program) (mean : ExcName → Option Value) (mg mb : Str → Option Value) (dp un : Nat) (gd : Option (List Code)) (cn : Str) (cs : Scope) (a : Addr) (ccd : Value) (cl : List (Str × Addr)) (outer : List Env) (A₀ : Around) (base h₀ : Heap) (L : Addr) (m : Str → Option Value) (news : List (Addr × Obj)) (s : Shared) (Q E : Value → Shared → Prop),
    Below A₀ base outer h₀ → Fr h₀ L s.heap m → (hd.heap_39 w.params).In h₀ → News h₀ L s.heap news → Top hd.view_39 (looseW hd.view_39 []) mean mg mb h₀ → cs.kind = .function → need news → dp + D < recursionLimit → un + U < cLine →
    (∀ r h' tk', R r → Fr h₀ L h' m → News h₀ L h' news → Q r { s with heap := h', toks := tk' }) →
    wpAny (model prog w) (ktrTop dp un gd cn cs L a ccd cl outer) (call (.ref f) vs) Q E s

theorem TellV.use {w : World} {f : Addr} {D U : Nat} {vs : List Value} {need : List (Addr × Obj) → Prop} {R : Value → Prop} (C : TellV w f D U vs need R) {prog : Program} {mean : ExcName → Option Value} {mg mb : Str → Option Value} {dp un : Nat} {gd : Option (List Code)} {cn : Str} {cs : Scope} {a : Addr} {ccd : Value} {cl : List (Str × Addr)} {outer : List Env} {A₀ : Around} {base h₀ : Heap} {L : Addr} {m : Str → Option Value} {news : List (Addr × Obj)} {s : Shared} {Q E : Value → Shared → Prop}
    (B : Below A₀ base outer h₀) (F : Fr h₀ L s.heap m) (X : (hd.heap_39 w.params).In h₀) (N : News h₀ L s.heap news) (T : Top hd.view_39 (looseW hd.view_39 []) mean mg mb h₀) (hk : cs.kind = .function) (hn : need news) (hdp : dp + D < recursionLimit) (hun : un + U < cLine)
    (ret : ∀ r h' tk', R r → Fr h₀ L h' m → News h₀ L h' news → Q r { s with heap := h', toks := tk' }) :
    wpAny (model prog w) (ktrTop dp un gd cn cs L a ccd cl outer) (call (.ref f) vs) Q E s := C _ _ _ _ _ _ _ _ _ _ _ _ _ _ _ _ _ _ _ _ _ _ B F X N T hk hn hdp hun ret

/-- a call that makes things: tl -/
def TellL (w : World) (f : Addr) (D U : Nat) (vs : List Value) (need : List (Addr × Obj) → Prop) (R : List (Addr × Obj) → Value → Prop) : Prop :=
  ∀ (prog : Program) (mean : ExcName → Option Value) (mg mb : Str → Option Value) (dp un : Nat) (gd : Option (List Code)) (cn : Str) (cs : Scope) (a : Addr) (ccd : Value) (cl : List (Str × Addr)) (outer : List Env) (A₀ : Around) (base h₀ : Heap) (L : Addr) (m : Str → Option Value) (news : List (Addr × Obj)) (s : Shared) (Q E : Value → Shared → Prop),
    Below A₀ base outer h₀ → Fr h₀ L s.heap m → (hd.heap_39 w.params).In h₀ → News h₀ L s.heap news → Top hd.view_39 (looseW hd.view_39 []) mean mg mb h₀ → cs.kind = .function → need news → dp + D < recursionLimit → un + U < cLine →
    (∀ r h' tk' tl, R tl r → (∀ q ∈ news, ∀ p ∈ tl, q.1 < p.1) → Fr h₀ L h' m → News h₀ L h' (tl ++ news) → Q r { s with heap := h', toks := tk' }) →
    wpAny (model prog w) (ktrTop dp un gd cn cs L a ccd cl outer) (call (.ref f) vs) Q E s

theorem TellL.use {w : World} {f : Addr} {D U : Nat} {vs : List Value} {need : List (Addr × Obj) → Prop} {R : List (Addr × Obj) → Value → Prop} (C : TellL w f D U vs need R) {prog : Program} {mean : ExcName → Option Value} {mg mb : Str → Option Value} {dp un : Nat} {gd : Option (List Code)} {cn : Str} {cs : Scope} {a : Addr} {ccd : Value} {cl : List (Str × Addr)} {outer : List Env} {A₀ : Around} {base h₀ : Heap} {L : Addr} {m : Str → Option Value} {news : List (Addr × Obj)} {s : Shared} {Q E : Value → Shared → Prop}
    (B : Below A₀ base outer h₀) (F : Fr h₀ L s.heap m) (X : (hd.heap_39 w.params).In h₀) (N : News h₀ L s.heap news) (T : Top hd.view_39 (looseW hd.view_39 []) mean mg mb h₀) (hk : cs.kind = .function) (hn : need news) (hdp : dp + D < recursionLimit) (hun : un + U < cLine)
    (ret : ∀ r h' tk' tl, R tl r → (∀ q ∈ news, ∀ p ∈ tl, q.1 < p.1) → Fr h₀ L h' m → News h₀ L h' (tl ++ news) → Q r { s with heap := h', toks := tk' }) :
    wpAny (model prog w) (ktrTop dp un gd cn cs L a ccd cl outer) (call (.ref f) vs) Q E s := C _ _ _ _ _ _ _ _ _ _ _ _ _ _ _ _ _ _ _ _ _ _ B F X N T hk hn hdp hun ret

inductive Pairs (led : List (Addr × Obj)) : List Value → List (Nat × Nat) → Prop
  | nil : Pairs led [] []
  | cons {p : Addr} {w c n : Nat} {t u : Tok} {vs : List Value} {ws : List (Nat × Nat)} : (p, ({ cls := .type "tuple", data := .seq #[.int (w : Int) t, .str ⟨#[c]⟩ u] n } : Obj)) ∈ led → Pairs led vs ws → Pairs led (.ref p :: vs) ((w, c) :: ws)
theorem Pairs.mono {led led' : List (Addr × Obj)} {vs : List Value} {ws : List (Nat × Nat)} (h : Pairs led vs ws) (hs : ∀ p ∈ led, p ∈ led') : Pairs led' vs ws := by
  induction h with
  | nil => exact .nil
  | cons hm _ ih => exact .cons (hs _ hm) ih
theorem Pairs.append {led : List (Addr × Obj)} {vs vs' : List Value} {ws ws' : List (Nat × Nat)} (h : Pairs led vs ws) (h' : Pairs led vs' ws') : Pairs led (vs ++ vs') (ws ++ ws') := by
  induction h with
  | nil => exact h'
  | cons hm _ ih => exact .cons hm ih
theorem Pairs.length {led : List (Addr × Obj)} {vs : List Value} {ws : List (Nat × Nat)} (h : Pairs led vs ws) : vs.length = ws.length := by
  induction h with
  | nil => rfl
  | cons _ _ ih => rw [List.length_cons, List.length_cons, ih]
theorem Pairs.get {led : List (Addr × Obj)} {vs : List Value} {ws : List (Nat × Nat)} (h : Pairs led vs ws) : ∀ {i : Nat} {v : Value}, vs[i]? = some v → ∃ p w c n t u, v = .ref p ∧ ws[i]? = some (w, c) ∧ (p, ({ cls := .type "tuple", data := .seq #[.int (w : Int) t, .str ⟨#[c]⟩ u] n } : Obj)) ∈ led := by
  induction h with
  | nil => intro i v h; simp at h
  | cons hm _ ih =>
    intro i v h
    cases i with
    | zero => simp at h; subst h; exact ⟨_, _, _, _, _, _, rfl, rfl, hm⟩
    | succ i => simpa using ih (by simpa using h)
end Mine
end

section
set_option maxRecDepth 100000
set_option maxHeartbeats 8000000
namespace Mine

/-- no way raises: any end of a raise will do -/
theorem quiet {α : Type} {M : Model} {A : Around} {t : Sem α} {Q : α → Shared → Prop} {E : Value → Shared → Prop} {s : Shared} (h : wpAny M A t Q (fun _ _ => False) s) : wpAny M A t Q E s :=
  wpAny_mono h (fun _ _ x => x) (fun _ _ x => x.elim)

def Hold (P : Prop) : Prop := P
theorem Hold.out {P : Prop} (h : Hold P) : P := h

/-- what stands at a turn's end -/
def TurnEnd (h₀ : Heap) (L I : Addr) (oI : Obj) (J : (Str → Option Value) → List (Addr × Obj) → Prop) (s s' : Shared) : Prop :=
  ∃ h' tk' m' news', s' = { s with heap := h', toks := tk' } ∧ Fr h₀ L h' m' ∧ News h₀ L h' ((I, oI) :: news') ∧ (∀ p ∈ news', p.1 ≠ I) ∧ J m' news'
def TurnPost (h₀ : Heap) (L I : Addr) (oI : Obj) (J : (Str → Option Value) → List (Addr × Obj) → Prop) (s : Shared) (Q : Flow → Shared → Prop) (f : Flow) (s' : Shared) : Prop :=
  match f with
  | .ret v => Q (.ret v) s'
  | .brk => Q .next s'
  | .next => TurnEnd h₀ L I oI J s s'
  | .cont => TurnEnd h₀ L I oI J s s'

theorem TurnEnd.mk {h₀ : Heap} {L I : Addr} {oI : Obj} {J : (Str → Option Value) → List (Addr × Obj) → Prop} {s : Shared} {h' : Heap} {tk' : Nat} {m' : Str → Option Value} {all : List (Addr × Obj)} (news' : List (Addr × Obj))
    (F : Fr h₀ L h' m') (N : News h₀ L h' all) (hs : ∀ p ∈ (I, oI) :: news', p ∈ all) (ho : ∀ p ∈ news', p.1 ≠ I) (hJ : J m' news') : TurnEnd h₀ L I oI J s { s with heap := h', toks := tk' } :=
  ⟨h', tk', m', news', rfl, F, fun p hp => N p (hs p hp), ho, hJ⟩

section
variable {prog : Program} {w : World} {A : Around} {s : Shared} {env : Env} {h₀ : Heap}

theorem forG {target : Expr} {body : List Stmt} {I : Addr} {ks : List Addr} {n : Nat} {P : Nat → Value → Prop} {St : Nat → Heap → Prop} {m : Str → Option Value} {news : List (Addr × Obj)} {Q : Flow → Shared → Prop} {R : Result → Shared → Prop}
    (W : Walks prog w A I (I :: ks) [I] n P St) (live : ∀ i h, St i h → ∃ o, h.get? I = some o) (hR : ∀ f s', Q f s' → R (.ok f) s')
    (hLI : env.locals ≠ I) (hI0 : h₀.get? I = none) (hst : St 0 s.heap) (F : Fr h₀ env.locals s.heap m) (N : News h₀ env.locals s.heap news) (hoff : ∀ p ∈ news, p.1 ≠ I)
    (J : Nat → (Str → Option Value) → List (Addr × Obj) → Prop) (h0 : J 0 m news)
    (hks : ∀ b ∈ ks, (∃ o, h₀.get? b = some o) ∨ ∃ o, ∀ i m' news', J i m' news' → (b, o) ∈ news')
    (step : ∀ i v m₁ news₁ h tk oI, i < n → P i v → J i m₁ news₁ → (∀ p ∈ news₁, p.1 ≠ I) → Fr h₀ env.locals h m₁ → News h₀ env.locals h ((I, oI) :: news₁) →
      wpAny (model prog w) A (assign target env v) (fun _ s₂ => wpAny (model prog w) A (execs body env) (TurnPost h₀ env.locals I oI (J (i + 1)) s Q) (fun _ _ => False) s₂) (fun _ _ => False) { s with heap := h, toks := tk })
    (done : ∀ m₁ news₁ h tk, J n m₁ news₁ → Fr h₀ env.locals h m₁ → News h₀ env.locals h news₁ → Q .next { s with heap := h, toks := tk })
    (go : ∀ i v (s' : Shared) (Q' : Unit → Shared → Prop), i < n → P i v → St (i + 1) s'.heap → Q' () s' → wpAny (model prog w) A (letOwnedTupleGo target (.ref I) v) Q' (fun _ _ => False) s') :
    codeAny (model prog w) A (.forLoop target (.ref I) body [] env) R s := by
  refine codeAny_forLoop_any (fun k s' => ∃ h' tk m' news' i, s' = { s with heap := h', toks := tk } ∧ St i h' ∧ Fr h₀ env.locals h' m' ∧ News h₀ env.locals h' news' ∧ (∀ p ∈ news', p.1 ≠ I) ∧ J i m' news' ∧ i ≤ n ∧ k = n + 1 - i) ?_ (n + 1)
    ⟨s.heap, s.toks, m, news, 0, rfl, hst, F, N, hoff, h0, Nat.zero_le _, rfl⟩
  rintro k s' ⟨h', tk, m', news', i, rfl, hst', F', N', hnw', hJ, hi, rfl⟩
  have next : ∀ h₁ : Heap, (∀ b o, b ∉ [I] → h'.get? b = some o → h₁.get? b = some o) → Fr h₀ env.locals h₁ m' ∧ News h₀ env.locals h₁ news' := fun h₁ hk₁ =>
    ⟨⟨F'.ns.at' fun o e => hk₁ _ o (by simpa using hLI) e, fun b o e => hk₁ b o (fun hb => by rw [List.mem_singleton.mp hb, hI0] at e; cases e) (F'.keep b o e), F'.above⟩,
      fun p hp => ⟨hk₁ _ _ (by simpa using hnw' p hp) (N' p hp).1, (N' p hp).2⟩⟩
  by_cases hlt : i < n
  · refine quiet (W.item i _ _ _ hlt hst' fun v h₁ tk₁ hP hst₁ hk₁ => ?_)
    obtain ⟨F₁, N₁⟩ := next h₁ hk₁
    obtain ⟨oI, hoI⟩ := live _ _ hst₁
    have N₂ : News h₀ env.locals h₁ ((I, oI) :: news') := fun p hp => by
      rcases List.mem_cons.mp hp with rfl | hp
      · exact ⟨hoI, Ne.symm hLI, hI0⟩
      · exact N₁ p hp
    have fin : ∀ s₃, TurnEnd h₀ env.locals I oI (J (i + 1)) s s₃ → ∃ k', k' < n + 1 - i ∧ ∃ h' tk m' news' i, s₃ = { s with heap := h', toks := tk } ∧ St i h' ∧ Fr h₀ env.locals h' m' ∧ News h₀ env.locals h' news' ∧ (∀ p ∈ news', p.1 ≠ I) ∧ J i m' news' ∧ i ≤ n ∧ k' = n + 1 - i := by
      rintro s₃ ⟨h₃, tk₃, m₃, news₃, rfl, F₃, N₃, ho₃, hJ₃⟩
      refine ⟨n + 1 - (i + 1), by omega, h₃, tk₃, m₃, news₃, i + 1, rfl, ?_, F₃, fun p hp => N₃ p (.tail _ hp), ho₃, hJ₃, hlt, rfl⟩
      refine W.frame _ _ _ hst₁ fun b hb o e => ?_
      rcases List.mem_cons.mp hb with rfl | hb
      · rw [hoI] at e
        cases e
        exact (N₃ _ (.head _)).1
      · rcases hks b hb with ⟨o', ho'⟩ | ⟨o', ho'⟩
        · have e1 := F₁.keep b o' ho'
          rw [e] at e1
          cases e1
          exact F₃.keep b _ ho'
        · have e1 := (N₁ _ (ho' i m' news' hJ)).1
          have e2 := (N₃ _ (.tail _ (ho' (i + 1) m₃ news₃ hJ₃))).1
          dsimp only at e1 e2
          rw [e] at e1
          cases e1
          exact e2
    refine quiet (go i v _ _ hlt hP hst₁ ?_)
    refine quiet (wpAny_mono (step i v m' news' h₁ tk₁ oI hlt hP hJ hnw' F₁ N₂) (fun _ s₂ h₂ => quiet (wpAny_mono h₂ (fun f s₃ h₃ => ?_) fun _ _ e => e)) fun _ _ e => e)
    cases f with
    | ret v => exact hR _ _ h₃
    | brk => exact hR _ _ h₃
    | cont => exact fin s₃ h₃
    | next => exact fin s₃ h₃
  · have hin : i = n := by omega
    subst hin
    refine quiet (W.done _ _ _ hst' fun h₁ tk₁ hk₁ => wpAny_execs_nil ?_)
    obtain ⟨F₁, N₁⟩ := next h₁ hk₁
    exact hR _ _ (done m' news' h₁ tk₁ hJ F₁ N₁)

theorem for_in {target iter : Expr} {body : List Stmt} {pos : Pos} {Q : Flow → Shared → Prop} {E : Value → Shared → Prop}
    (h : wpAny (model prog w) A (eval iter env) (fun x s₁ => Hold (wpAny (model prog w) A (pyIter x) (fun it s₂ => codeAny (model prog w) A (.forLoop target it body [] env) (fun r s' => match r with | .ok f => Q f s' | .error _ => False) s₂) (fun _ _ => False) s₁)) E s)
    (hs : ∀ x, foldedSetIterable iter env x = pure x := by intro _; rfl) : wpAny (model prog w) A (exec (.For target iter body [] pos) env) Q E s :=
  wpAny_For (wpAny_mono h (fun x s₁ h₁ => quiet (wpAny_mono h₁.out (fun it s₂ h₂ => codeAny_mono h₂ fun r s' h' => by
    cases r with
    | ok f => exact h'
    | error e => exact h'.elim) fun _ _ e => e)) fun _ _ e => e) hs

theorem src_list {target : Expr} {body : List Stmt} {l : Addr} {arr : Array Value} {k : Nat} {m : Str → Option Value} {news : List (Addr × Obj)} {Q : Flow → Shared → Prop} {E : Value → Shared → Prop}
    (J : Nat → (Str → Option Value) → List (Addr × Obj) → Prop) (hh : A.handled = none) (F : Fr h₀ env.locals s.heap m) (N : News h₀ env.locals s.heap news) (hl : (l, listOf arr k) ∈ news) (h0 : J 0 m news)
    (hJ : ∀ i m' news', J i m' news' → (l, listOf arr k) ∈ news')
    (step : ∀ i v m₁ news₁ h tk I oI, arr[i]? = some v → J i m₁ news₁ → (∀ p ∈ news, p.1 < I) → (∀ p ∈ news₁, p.1 ≠ I) → Fr h₀ env.locals h m₁ → News h₀ env.locals h ((I, oI) :: news₁) →
      wpAny (model prog w) A (assign target env v) (fun _ s₂ => wpAny (model prog w) A (execs body env) (TurnPost h₀ env.locals I oI (J (i + 1)) s Q) (fun _ _ => False) s₂) (fun _ _ => False) { s with heap := h, toks := tk })
    (done : ∀ m₁ news₁ h tk, J arr.size m₁ news₁ → Fr h₀ env.locals h m₁ → News h₀ env.locals h news₁ → Q .next { s with heap := h, toks := tk })
    (ht : (∀ I v, letOwnedTupleGo target (.ref I) v = pure ()) ∨ ∃ elts x1 pos, target = .Tuple elts x1 pos ∧ ∀ v ∈ arr.toList, ∃ T, v = .ref T) :
    Hold (wpAny (model prog w) A (pyIter (.ref l)) (fun it s₂ => codeAny (model prog w) A (.forLoop target it body [] env) (fun r s' => match r with | .ok f => Q f s' | .error _ => False) s₂) E s) := by
  have hls : s.heap.IsList l arr := ⟨_, (N _ hl).1, rfl, k, rfl⟩
  have hlt : l < s.heap.objs.size := Heap.lt_size (N _ hl).1
  refine wpAny_pyIter_list hls ?_
  have W := Walks.list (prog := prog) (w := w) (A := A) hh s.heap.objs.size l (Nat.ne_of_lt hlt) arr
  have hnew : ∀ p ∈ news, p.1 < s.heap.objs.size := fun p hp => Heap.lt_size (N p hp).1
  refine forG (h₀ := h₀) (m := m) (news := news) (Q := Q) W (fun i h st => let ⟨o, ho, _⟩ := st.1; ⟨o, ho⟩) (fun _ _ x => x) (Nat.ne_of_lt F.ns.lt) (next_is_new F)
    ⟨⟨_, Heap.get?_push_size _ rfl, rfl, rfl⟩, hls.at fun o e => Heap.get?_push_of_some _ e⟩ (F.push _) (fun p hp => ⟨Heap.get?_push_of_some _ (N p hp).1, (N p hp).2⟩) (fun p hp => Nat.ne_of_lt (hnew p hp)) J h0
    (fun b hb => .inr ⟨listOf arr k, fun i m' news' hj => by rw [List.mem_singleton.mp hb]; exact hJ i m' news' hj⟩) ?_ ?_ ?_
  · intro i v m₁ news₁ h tk oI _ hP hj ho F₁ N₁
    exact step i v m₁ news₁ h tk _ oI hP hj hnew ho F₁ N₁
  · intro m₁ news₁ h tk hj F₁ N₁
    exact done m₁ news₁ h tk hj F₁ N₁
  · intro i v s' Q' _ hP st hQ
    rcases ht with ht | ⟨elts, x1, pos, rfl, hv⟩
    · rw [ht]; exact wpAny_pure hQ
    · obtain ⟨T, rfl⟩ := hv v (List.mem_of_getElem? (i := i) (by simpa using hP))
      exact wpAny_letOwnedTupleGo_listiter st.1 hQ

theorem src_range {target : Expr} {body : List Stmt} {r : Addr} {n : Nat} {b : Int} {t u v : Tok} {m : Str → Option Value} {news : List (Addr × Obj)} {Q : Flow → Shared → Prop} {E : Value → Shared → Prop}
    (J : Nat → (Str → Option Value) → List (Addr × Obj) → Prop) (hh : A.handled = none) (F : Fr h₀ env.locals s.heap m) (N : News h₀ env.locals s.heap news) (hr : IsRange s.heap r 0 b 1 t u v) (hsm : Builtin.Range.small 0 b 1 = true) (hn : Builtin.Range.rangeSize 0 b 1 = (n : Int)) (h0 : J 0 m news)
    (step : ∀ i t' m₁ news₁ h tk I oI, i < n → J i m₁ news₁ → (∀ p ∈ news, p.1 < I) → (∀ p ∈ news₁, p.1 ≠ I) → Fr h₀ env.locals h m₁ → News h₀ env.locals h ((I, oI) :: news₁) →
      wpAny (model prog w) A (assign target env (.int (i : Int) t')) (fun _ s₂ => wpAny (model prog w) A (execs body env) (TurnPost h₀ env.locals I oI (J (i + 1)) s Q) (fun _ _ => False) s₂) (fun _ _ => False) { s with heap := h, toks := tk })
    (done : ∀ m₁ news₁ h tk, J n m₁ news₁ → Fr h₀ env.locals h m₁ → News h₀ env.locals h news₁ → Q .next { s with heap := h, toks := tk })
    (ht : ∀ I v, letOwnedTupleGo target (.ref I) v = pure () := by intro _ _; rfl) :
    Hold (wpAny (model prog w) A (pyIter (.ref r)) (fun it s₂ => codeAny (model prog w) A (.forLoop target it body [] env) (fun r s' => match r with | .ok f => Q f s' | .error _ => False) s₂) E s) := by
  refine wpAny_pyIter_range hr hsm ?_
  have W := Walks.range (prog := prog) (w := w) (A := A) hh s.heap.objs.size 0 1 n
  have hnew : ∀ p ∈ news, p.1 < s.heap.objs.size := fun p hp => Heap.lt_size (N p hp).1
  refine forG (h₀ := h₀) (m := m) (news := news) (Q := Q) (ks := []) W (fun i h st => ⟨_, st⟩) (fun _ _ x => x) (Nat.ne_of_lt F.ns.lt) (next_is_new F)
    (by show IsRangeIter _ _ _ _ _; rw [hn]; simpa using Heap.get?_push_size _ rfl) (F.push _) (fun p hp => ⟨Heap.get?_push_of_some _ (N p hp).1, (N p hp).2⟩) (fun p hp => Nat.ne_of_lt (hnew p hp)) J h0
    (fun b hb => nomatch hb) ?_ ?_ (fun i v s' Q' _ _ _ hQ => by rw [ht]; exact wpAny_pure hQ)
  · rintro i v m₁ news₁ h tk oI hi ⟨t', rfl⟩ hj ho F₁ N₁
    have e : (0 : Int) + (i : Int) * 1 = (i : Int) := by omega
    rw [e]
    exact step i t' m₁ news₁ h tk _ oI hi hj hnew ho F₁ N₁
  · intro m₁ news₁ h tk hj F₁ N₁
    exact done m₁ news₁ h tk hj F₁ N₁

theorem src_str {target : Expr} {body : List Stmt} {x : Str} {t : Tok} {m : Str → Option Value} {news : List (Addr × Obj)} {Q : Flow → Shared → Prop} {E : Value → Shared → Prop}
    (J : Nat → (Str → Option Value) → List (Addr × Obj) → Prop) (hh : A.handled = none) (F : Fr h₀ env.locals s.heap m) (N : News h₀ env.locals s.heap news) (h0 : J 0 m news)
    (step : ∀ i c t' m₁ news₁ h tk I oI, x.cps[i]? = some c → J i m₁ news₁ → (∀ p ∈ news, p.1 < I) → (∀ p ∈ news₁, p.1 ≠ I) → Fr h₀ env.locals h m₁ → News h₀ env.locals h ((I, oI) :: news₁) →
      wpAny (model prog w) A (assign target env (.str ⟨#[c]⟩ t')) (fun _ s₂ => wpAny (model prog w) A (execs body env) (TurnPost h₀ env.locals I oI (J (i + 1)) s Q) (fun _ _ => False) s₂) (fun _ _ => False) { s with heap := h, toks := tk })
    (done : ∀ m₁ news₁ h tk, J x.cps.size m₁ news₁ → Fr h₀ env.locals h m₁ → News h₀ env.locals h news₁ → Q .next { s with heap := h, toks := tk })
    (ht : ∀ I v, letOwnedTupleGo target (.ref I) v = pure () := by intro _ _; rfl) :
    Hold (wpAny (model prog w) A (pyIter (.str x t)) (fun it s₂ => codeAny (model prog w) A (.forLoop target it body [] env) (fun r s' => match r with | .ok f => Q f s' | .error _ => False) s₂) E s) := by
  have hnew : ∀ p ∈ news, p.1 < s.heap.objs.size := fun p hp => Heap.lt_size (N p hp).1
  have go : ∀ (ty : String) (o : Obj), o.isFreed = false → (∀ A' : Around, A'.handled = none → Walks prog w A' s.heap.objs.size [s.heap.objs.size] [s.heap.objs.size] x.cps.size (SignAt x) (fun i h => h.IsStrIter s.heap.objs.size ty x t i)) → (s.heap.push o).IsStrIter s.heap.objs.size ty x t 0 →
      codeAny (model prog w) A (.forLoop target (.ref s.heap.objs.size) body [] env) (fun r s' => match r with | .ok f => Q f s' | .error _ => False) { s with heap := s.heap.push o } := by
    intro ty o hf W st
    refine forG (h₀ := h₀) (m := m) (news := news) (Q := Q) (ks := []) (W A hh) (fun i h st => let ⟨o, ho, _⟩ := st; ⟨o, ho⟩) (fun _ _ x => x) (Nat.ne_of_lt F.ns.lt) (next_is_new F)
      st (F.push _) (fun p hp => ⟨Heap.get?_push_of_some _ (N p hp).1, (N p hp).2⟩) (fun p hp => Nat.ne_of_lt (hnew p hp)) J h0
      (fun b hb => nomatch hb) ?_ ?_ (fun i v s' Q' _ _ _ hQ => by rw [ht]; exact wpAny_pure hQ)
    · rintro i v m₁ news₁ h tk oI hi ⟨c, t', hc, rfl⟩ hj ho F₁ N₁
      exact step i c t' m₁ news₁ h tk _ oI hc hj hnew ho F₁ N₁
    · intro m₁ news₁ h tk hj F₁ N₁
      exact done m₁ news₁ h tk hj F₁ N₁
  cases ha : x.cps.all (· < 128)
  · exact wpAny_pyIter_wide ha (go "str_iterator" _ rfl (fun A' hA => Walks.strWide hA _ x t) ⟨_, Heap.get?_push_size _ rfl, rfl, rfl⟩)
  · exact wpAny_pyIter_ascii ha (go "str_ascii_iterator" _ rfl (fun A' hA => Walks.strAscii hA _ x t) ⟨_, Heap.get?_push_size _ rfl, rfl, rfl⟩)

theorem turn_pair {x y : Str} {px py pos : Pos} {x1 : Nat} {v₁ v₂ : Value} {p : Addr} {n : Nat} {m : Str → Option Value} {news : List (Addr × Obj)} {Q : Unit → Shared → Prop} {E : Value → Shared → Prop} (hh : A.handled = none) (F : Fr h₀ env.locals s.heap m) (N : News h₀ env.locals s.heap news)
    (hm : (p, ({ cls := .type "tuple", data := .seq #[v₁, v₂] n } : Obj)) ∈ news)
    (h : ∀ h' tk', Fr h₀ env.locals h' (fun z => if z = y then some v₂ else if z = x then some v₁ else m z) → News h₀ env.locals h' news → Q () { s with heap := h', toks := tk' })
    (hx : env.kindOf x = some .local) (hy : env.kindOf y = some .local) (hp : (env.scope.kind == .class || (env.scope.kind == .module && env.locals != env.globals)) = false) :
    wpAny (model prog w) A (assign (.Tuple [.Name x px, .Name y py] x1 pos) env (.ref p)) Q E s := by
  refine unpackN_ F N (News.isTup N hm) hh rfl rfl fun h₁ F₁ N₁ => ?_
  show wpAny _ _ (assignInOrder [assign (.Name x px) env, assign (.Name y py) env] [v₁, v₂]) _ _ _
  refine assignInOrder_cons (wpAny_assign_Name (wpAny_storeName_local hx F₁.ns (fun h₂ hn₂ hs₂ => ?_) hp))
  have F₂ := F₁.set hn₂ hs₂
  refine assignInOrder_cons (wpAny_assign_Name (wpAny_storeName_local hy F₂.ns (fun h₃ hn₃ hs₃ => ?_) hp))
  exact assignInOrder_nil (h h₃ _ (F₂.set hn₃ hs₃) ((N₁.set hs₂).set hs₃))

/-- a store into the loop's own name -/
theorem turn_name {x : Str} {px : Pos} {v : Value} {m : Str → Option Value} {news : List (Addr × Obj)} {Q : Unit → Shared → Prop} {E : Value → Shared → Prop} (F : Fr h₀ env.locals s.heap m) (N : News h₀ env.locals s.heap news)
    (h : ∀ h' tk', Fr h₀ env.locals h' (fun y => if y = x then some v else m y) → News h₀ env.locals h' news → Q () { s with heap := h', toks := tk' })
    (hl : env.kindOf x = some .local) (hp : (env.scope.kind == .class || (env.scope.kind == .module && env.locals != env.globals)) = false) : wpAny (model prog w) A (assign (.Name x px) env v) Q E s :=
  wpAny_assign_Name (wpAny_storeName_local hl F.ns (fun h' hn hs => h h' _ (F.set hn hs) (N.set hs)) hp)
end
end Mine
namespace Mine
theorem fr_at1 {h₀ h : Heap} {L : Addr} {m : Str → Option Value} {a : Str} {v : Value} (F : Fr h₀ L h m) (h1 : m a = some v) : Fr h₀ L h (fun y => if y = a then some v else m y) := by
  have e : (fun y => if y = a then some v else m y) = m := by
    funext y
    by_cases h : y = a
    · subst h; rw [if_pos rfl, h1]
    · rw [if_neg h]
  rw [e]; exact F
theorem int_at {m : Str → Option Value} {a : Str} {x y : Int} {t : Tok} (h : m a = some (.int x t)) (e : x = y) : ∃ t', m a = some (.int y t') := ⟨t, e ▸ h⟩
theorem str_at {m : Str → Option Value} {a : Str} {x y : Str} {t : Tok} (h : m a = some (.str x t)) (e : x = y) : ∃ t', m a = some (.str y t') := ⟨t, e ▸ h⟩
theorem at_if {m : Str → Option Value} {a : Str} {v : Value} (h1 : m a = some v) : (fun y => if y = a then some v else m y) = m := by
  funext y
  by_cases h : y = a
  · subst h; rw [if_pos rfl, h1]
  · rw [if_neg h]
theorem fr_at2 {h₀ h : Heap} {L : Addr} {m : Str → Option Value} {a b : Str} {v u : Value} (F : Fr h₀ L h m) (h1 : m a = some v) (h2 : m b = some u) : Fr h₀ L h (fun y => if y = a then some v else if y = b then some u else m y) := by
  have e := at_if h2
  have e' : (fun y => if y = a then some v else if y = b then some u else m y) = m := by
    have := congrFun e
    funext y
    by_cases h : y = a
    · subst h; rw [if_pos rfl, h1]
    · rw [if_neg h]; exact this y
  rw [e']; exact F
theorem fr_at3 {h₀ h : Heap} {L : Addr} {m : Str → Option Value} {a b c : Str} {v u x : Value} (F : Fr h₀ L h m) (h1 : m a = some v) (h2 : m b = some u) (h3 : m c = some x) : Fr h₀ L h (fun y => if y = a then some v else if y = b then some u else if y = c then some x else m y) := by
  have e' : (fun y => if y = a then some v else if y = b then some u else if y = c then some x else m y) = m := by
    funext y
    by_cases h : y = a
    · subst h; rw [if_pos rfl, h1]
    · rw [if_neg h]
      by_cases h' : y = b
      · subst h'; rw [if_pos rfl, h2]
      · rw [if_neg h']; exact congrFun (at_if h3) y
  rw [e']; exact F
theorem fr_at4 {h₀ h : Heap} {L : Addr} {m : Str → Option Value} {a b c d : Str} {v u x z : Value} (F : Fr h₀ L h m) (h1 : m a = some v) (h2 : m b = some u) (h3 : m c = some x) (h4 : m d = some z) : Fr h₀ L h (fun y => if y = a then some v else if y = b then some u else if y = c then some x else if y = d then some z else m y) := by
  have e' : (fun y => if y = a then some v else if y = b then some u else if y = c then some x else if y = d then some z else m y) = m := by
    funext y
    by_cases h : y = a
    · subst h; rw [if_pos rfl, h1]
    · rw [if_neg h]
      by_cases h' : y = b
      · subst h'; rw [if_pos rfl, h2]
      · rw [if_neg h']
        by_cases h'' : y = c
        · subst h''; rw [if_pos rfl, h3]
        · rw [if_neg h'']; exact congrFun (at_if h4) y
  rw [e']; exact F
end Mine
end

section
set_option maxRecDepth 100000
set_option maxHeartbeats 8000000
namespace Mine

def NsAt (C : Addr) (o : Obj) (m : Str → Option Value) : Prop := ∀ h : Heap, h.get? C = some o → h.Ns C m
theorem nsAt_of {h : Heap} {C : Addr} {m : Str → Option Value} (hn : h.Ns C m) : ∃ o, h.get? C = some o ∧ NsAt C o m := by
  obtain ⟨o, es, ep, ho, r⟩ := hn
  exact ⟨o, ho, fun h' e => ⟨o, es, ep, e, r⟩⟩

/-- where an element ends: all that stood stands -/
def EltEnd (h₀ : Heap) (L : Addr) (m : Str → Option Value) (led : List (Addr × Obj)) (s s' : Shared) : Prop := ∃ h' tk', s' = { s with heap := h', toks := tk' } ∧ Fr h₀ L h' m ∧ News h₀ L h' led
theorem EltEnd.mk {h₀ h' : Heap} {L : Addr} {m : Str → Option Value} {led all : List (Addr × Obj)} {s : Shared} {tk' : Nat} (F : Fr h₀ L h' m) (N : News h₀ L h' all) (hs : ∀ p ∈ led, p ∈ all) : EltEnd h₀ L m led s { s with heap := h', toks := tk' } := ⟨h', tk', rfl, F, fun p hp => N p (hs p hp)⟩

def EltPost (h₀ : Heap) (L : Addr) (m : Str → Option Value) (led : List (Addr × Obj)) (s : Shared) (J : Value → Prop) (y : Value) (s' : Shared) : Prop := EltEnd h₀ L m led s s' ∧ J y

def tests (ifs : List Expr) (env : Env) : Sem Bool := forIn ifs true fun c r => if r = true then do let ok ← isTrue c env (eval c env); pure (ForInStep.yield ok) else pure (ForInStep.yield r)

section
variable {prog : Program} {w : World} {A : Around} {s : Shared} {env : Env} {h₀ : Heap}

theorem compLoopG {elt iter : Expr} {x : Str} {px : Pos} {ifs : List Expr} {scope : Scope} {pos : Pos} {cenv : Env} {L I D : Addr} {ks : List Addr} {n : Nat} {P : Nat → Value → Prop} {St : Nat → Heap → Prop} {m mc : Str → Option Value} {news : List (Addr × Obj)} {R : Result → Shared → Prop}
    (W : Walks prog w A I (I :: ks) [I] n P St) (live : ∀ i h, St i h → ∃ o, h.get? I = some o)
    (hx : cenv.kindOf x = some .local) (hp : (cenv.scope.kind == .class || (cenv.scope.kind == .module && cenv.locals != cenv.globals)) = false)
    (hDI : D ≠ I) (hCI : cenv.locals ≠ I) (hCD : cenv.locals ≠ D) (hLI : L ≠ I) (hLD : L ≠ D) (hLC : L ≠ cenv.locals) (hI0 : h₀.get? I = none) (hD0 : h₀.get? D = none) (hC0 : h₀.get? cenv.locals = none)
    (hnew : ∀ p ∈ news, p.1 ≠ I ∧ p.1 ≠ D ∧ p.1 ≠ cenv.locals) (hst : St 0 s.heap) (hacc : s.heap.get? D = some (listOf #[] 0)) (hn : s.heap.Ns cenv.locals mc) (F : Fr h₀ L s.heap m) (N : News h₀ L s.heap news)
    (hks : ∀ b ∈ ks, (∃ o, h₀.get? b = some o) ∨ ∃ o, (b, o) ∈ news) (J : Nat → Array Value → Prop) (h0 : J 0 #[]) (hsz : ∀ i ys, J i ys → ys.size ≤ sizeLine)
    (step : ∀ i v ys k oI oC mc' h tk, i < n → P i v → J i ys → NsAt cenv.locals oC mc' → mc' x = some v → Fr h₀ L h m → News h₀ L h ((D, listOf ys k) :: (I, oI) :: (cenv.locals, oC) :: news) →
      wpAny (model prog w) A (tests ifs cenv) (fun ok s₃ => if ok = true then wpAny (model prog w) A (eval elt cenv) (EltPost h₀ L m ((D, listOf ys k) :: (I, oI) :: (cenv.locals, oC) :: news) s fun y => J (i + 1) (ys.push y)) (fun _ _ => False) s₃
        else EltEnd h₀ L m ((D, listOf ys k) :: (I, oI) :: (cenv.locals, oC) :: news) s s₃ ∧ J (i + 1) ys) (fun _ _ => False) { s with heap := h, toks := tk })
    (hR : ∀ ys k mc' h tk, J n ys → h.Ns cenv.locals mc' → Fr h₀ L h m → News h₀ L h ((D, listOf ys k) :: news) → R (.ok .next) { s with heap := h, toks := tk }) :
    codeAny (model prog w) A (.compLoop (.ListComp elt [⟨.Name x px, iter, ifs, 0⟩] scope pos) 0 (.ref I) (.ref D) cenv) R s := by
  refine codeAny_compLoop_tests (fun j s' => ∃ h' tk ys k mc' i, s' = { s with heap := h', toks := tk } ∧ St i h' ∧ Fr h₀ L h' m ∧ News h₀ L h' ((D, listOf ys k) :: news) ∧ h'.Ns cenv.locals mc' ∧ J i ys ∧ i ≤ n ∧ j = n + 1 - i) ?_ (n + 1)
    ⟨s.heap, s.toks, #[], 0, mc, 0, rfl, hst, F, fun p hp => by
      rcases List.mem_cons.mp hp with rfl | hp
      · exact ⟨hacc, Ne.symm hLD, hD0⟩
      · exact N p hp, hn, h0, Nat.zero_le _, rfl⟩
  rintro j s' ⟨h', tk, ys, k, mc', i, rfl, hst', F', N', hn', hJ, hi, rfl⟩
  have next : ∀ h₁ : Heap, (∀ b o, b ∉ [I] → h'.get? b = some o → h₁.get? b = some o) → Fr h₀ L h₁ m ∧ News h₀ L h₁ ((D, listOf ys k) :: news) ∧ h₁.Ns cenv.locals mc' := fun h₁ hk₁ =>
    ⟨⟨F'.ns.at' fun o e => hk₁ _ o (by simpa using hLI) e, fun b o e => hk₁ b o (fun hb => by rw [List.mem_singleton.mp hb, hI0] at e; cases e) (F'.keep b o e), F'.above⟩,
      (fun p hp => ⟨hk₁ _ _ (by
        rcases List.mem_cons.mp hp with rfl | hp
        · simpa using hDI
        · simpa using (hnew p hp).1) (N' p hp).1, (N' p hp).2⟩), hn'.at' fun o e => hk₁ _ o (by simpa using hCI) e⟩
  by_cases hlt : i < n
  · refine quiet (W.item i _ _ _ hlt hst' fun v h₁ tk₁ hP hst₁ hk₁ => ?_)
    obtain ⟨F₁, N₁, hn₁⟩ := next h₁ hk₁
    refine wpAny_assign_Name (wpAny_storeName_local hx hn₁ (fun h₂ hn₂ hs₂ => ?_) hp)
    have F₂ : Fr h₀ L h₂ m := ⟨F₁.ns.at' fun o e => hs₂.extBut _ o hLC e, fun b o e => hs₂.extBut b o (fun hb => by rw [hb, hC0] at e; cases e) (F₁.keep b o e), F₁.above⟩
    have N₂ : News h₀ L h₂ ((D, listOf ys k) :: news) := fun p hp => ⟨hs₂.extBut _ _ (by
        rcases List.mem_cons.mp hp with rfl | hp
        · exact Ne.symm hCD
        · exact (hnew p hp).2.2) (N₁ p hp).1, (N₁ p hp).2⟩
    obtain ⟨oI, hoI⟩ := live _ _ hst₁
    have hoI₂ : h₂.get? I = some oI := hs₂.extBut _ _ (Ne.symm hCI) hoI
    obtain ⟨oC, hoC, nC⟩ := nsAt_of hn₂
    have N₃ : News h₀ L h₂ ((D, listOf ys k) :: (I, oI) :: (cenv.locals, oC) :: news) := fun p hp => by
      rcases List.mem_cons.mp hp with rfl | hp
      · exact N₂ _ (.head _)
      · rcases List.mem_cons.mp hp with rfl | hp
        · exact ⟨hoI₂, Ne.symm hLI, hI0⟩
        · rcases List.mem_cons.mp hp with rfl | hp
          · exact ⟨hoC, Ne.symm hLC, hC0⟩
          · exact N₂ p (.tail _ hp)
    have back : ∀ (ys' : Array Value) k' h₄ tk₄, Fr h₀ L h₄ m → News h₀ L h₄ ((D, listOf ys' k') :: (I, oI) :: (cenv.locals, oC) :: news) → J (i + 1) ys' →
        ∃ j', j' < n + 1 - i ∧ ∃ h' tk ys k mc' i, ({ s with heap := h₄, toks := tk₄ } : Shared) = { s with heap := h', toks := tk } ∧ St i h' ∧ Fr h₀ L h' m ∧ News h₀ L h' ((D, listOf ys k) :: news) ∧ h'.Ns cenv.locals mc' ∧ J i ys ∧ i ≤ n ∧ j' = n + 1 - i := by
      intro ys' k' h₄ tk₄ F₄ N₄ hJ₄
      refine ⟨n + 1 - (i + 1), by omega, h₄, tk₄, ys', k', _, i + 1, rfl, ?_, F₄, (fun p hp => N₄ p (by
        rcases List.mem_cons.mp hp with rfl | hp
        · exact .head _
        · exact .tail _ (.tail _ (.tail _ hp)))), nC h₄ (N₄ _ (.tail _ (.tail _ (.head _)))).1, hJ₄, hlt, rfl⟩
      refine W.frame _ _ _ hst₁ fun b hb o e => ?_
      rcases List.mem_cons.mp hb with rfl | hb
      · rw [hoI] at e
        cases e
        exact (N₄ _ (.tail _ (.head _))).1
      · rcases hks b hb with ⟨o', ho'⟩ | ⟨o', ho'⟩
        · have e1 := F₁.keep b o' ho'
          rw [e] at e1
          cases e1
          exact F₄.keep b _ ho'
        · have e1 := (N₁ _ (.tail _ ho')).1
          have e2 := (N₄ _ (.tail _ (.tail _ (.tail _ ho')))).1
          dsimp only at e1 e2
          rw [e] at e1
          cases e1
          exact e2
    have st := step i v ys k oI oC _ h₂ (tk₁ + 1) hlt hP hJ nC (if_pos rfl) F₂ N₃
    refine quiet (wpAny_mono st (fun ok s₃ h₃ => ?_) fun _ _ e => e)
    cases ok with
    | false =>
      rw [if_neg (by decide)] at h₃ ⊢
      obtain ⟨⟨h₄, tk₄, rfl, F₄, N₄⟩, hJ₄⟩ := h₃
      exact back ys k h₄ tk₄ F₄ N₄ hJ₄
    | true =>
      rw [if_pos rfl] at h₃ ⊢
      refine quiet (wpAny_mono h₃ (fun y s₄ h₄ => ?_) fun _ _ e => e)
      obtain ⟨⟨h₅, tk₅, rfl, F₅, N₅⟩, hJ₅⟩ := h₄
      refine quiet (append_K F₅ N₅ (Upd.head (r := (I, oI) :: (cenv.locals, oC) :: news) ?_) (fun h₆ F₆ N₆ => ?_) (hsz i ys hJ))
      · intro p hp
        rcases List.mem_cons.mp hp with rfl | hp
        · exact Ne.symm hDI
        · rcases List.mem_cons.mp hp with rfl | hp
          · exact hCD
          · exact (hnew p hp).2.1
      · exact back (ys.push y) (k + 1) h₆ tk₅ F₆ N₆ hJ₅
  · have hin : i = n := by omega
    subst hin
    refine quiet (W.done _ _ _ hst' fun h₁ tk₁ hk₁ => ?_)
    obtain ⟨F₁, N₁, hn₁⟩ := next h₁ hk₁
    exact hR ys k mc' h₁ tk₁ hJ hn₁ F₁ N₁

theorem fresh_at {h h₀ : Heap} {L : Addr} {m : Str → Option Value} (F : Fr h₀ L h m) {a : Addr} (ha : h.objs.size ≤ a) : h₀.get? a = none := by
  cases e : h₀.get? a with
  | none => rfl
  | some o => exact absurd (Heap.lt_size (F.keep a o e)) (Nat.not_lt.mpr ha)

theorem compAtG {elt iter : Expr} {x : Str} {px : Pos} {ifs : List Expr} {scope : Scope} {cl : List (Str × Addr)} {pos : Pos} {L I : Addr} {ks : List Addr} {n : Nat} {P : Nat → Value → Prop} {St : Nat → Heap → Prop} {m : Str → Option Value} {news : List (Addr × Obj)} {RR : Value → Addr → Result → Shared → Prop} {E : Value → Shared → Prop}
    (W : Walks prog w A I (I :: ks) [I] n P St) (live : ∀ i h, St i h → ∃ o, h.get? I = some o) (hst : St 0 s.heap) (hIlt : I < s.heap.objs.size) (F : Fr h₀ L s.heap m) (N : News h₀ L s.heap news) (hoff : ∀ p ∈ news, p.1 ≠ I) (hLI : L ≠ I) (hI0 : h₀.get? I = none)
    (hks : ∀ b ∈ ks, (∃ o, h₀.get? b = some o) ∨ ∃ o, (b, o) ∈ news) (hcell : ∀ y ∈ scope.names, y.2 ≠ .cell) (hkind : scope.kind = .function) (hx : scope.names.lookup x = some .local)
    (J : Nat → Array Value → Prop) (h0 : J 0 #[]) (hsz : ∀ i ys, J i ys → ys.size ≤ sizeLine)
    (step : ∀ D C i v ys k oI oC mc' h tk, (∀ p ∈ news, p.1 < D) → I < D → D < C → i < n → P i v → J i ys → NsAt C oC mc' → mc' x = some v → Fr h₀ L h m → News h₀ L h ((D, listOf ys k) :: (I, oI) :: (C, oC) :: news) →
      wpAny (model prog w) A (tests ifs (compEnvC scope cl C env)) (fun ok s₃ => if ok = true then wpAny (model prog w) A (eval elt (compEnvC scope cl C env)) (EltPost h₀ L m ((D, listOf ys k) :: (I, oI) :: (C, oC) :: news) s fun y => J (i + 1) (ys.push y)) (fun _ _ => False) s₃
        else EltEnd h₀ L m ((D, listOf ys k) :: (I, oI) :: (C, oC) :: news) s s₃ ∧ J (i + 1) ys) (fun _ _ => False) { s with heap := h, toks := tk })
    (done : ∀ D C ys k mc' h tk, (∀ p ∈ news, p.1 < D) → D < C → L < D → h₀.get? C = none → J n ys → h.Ns C mc' → Fr h₀ L h m → News h₀ L h ((D, listOf ys k) :: news) → RR (.ref D) C (.ok .next) { s with heap := h, toks := tk }) :
    wpAny (model prog w) A (newList []) (fun acc s₃ => wpAny (model prog w) A (newFunctionEnv scope env.globals cl [] env.qual none .none (some env)) (fun cenv s₄ =>
      codeAny (model prog w) A (.compStart (.ListComp elt [⟨.Name x px, iter, ifs, 0⟩] scope pos) 0 (.ref I) acc { cenv with scope := relabel scope env }) (RR acc cenv.locals) s₄) E s₃) E s := by
  refine wpAny_newObj_type (wpAny_newFunctionEnv hcell (by intro y hy; simp at hy) (fun h₁ hns₁ hsb₁ => ?_) hkind)
  dsimp only at hns₁ hsb₁ ⊢
  generalize hH2 : s.heap.push { cls := .type "list", dict := none, data := .seq ([] : List Value).toArray } = H2 at hns₁ hsb₁ ⊢
  have hC : H2.objs.size = s.heap.objs.size + 1 := by rw [← hH2, Heap.size_push]
  have hDC : s.heap.objs.size < H2.objs.size := by rw [hC]; exact Nat.lt_succ_self _
  have hLD : L < s.heap.objs.size := F.ns.lt
  have hnl : ∀ p ∈ news, p.1 < s.heap.objs.size := fun p hp => Heap.lt_size (N p hp).1
  have old : ∀ b o, s.heap.get? b = some o → h₁.get? b = some o := fun b o e => hsb₁.extBut b o (Nat.ne_of_lt (Nat.lt_trans (Heap.lt_size e) hDC)) (Heap.get?_push_of_some _ (hH2 ▸ Heap.get?_push_of_some _ e))
  have hacc : h₁.get? s.heap.objs.size = some (listOf #[] 0) := hsb₁.extBut _ _ (Nat.ne_of_lt hDC) (Heap.get?_push_of_some _ (hH2 ▸ Heap.get?_push_size _ rfl))
  have hst₁ : St 0 h₁ := W.frame _ _ _ hst fun b _ o e => old b o e
  have F₁ : Fr h₀ L h₁ m := ⟨F.ns.at' fun o e => old _ o e, fun b o e => old b o (F.keep b o e), F.above⟩
  have N₁ : News h₀ L h₁ news := fun p hp => ⟨old _ _ (N p hp).1, (N p hp).2⟩
  have loop : ∀ s₃ : Shared, s₃ = { s with heap := h₁, toks := s.toks + ([] : List (Str × Value)).length } →
      codeAny (model prog w) A (.compLoop (.ListComp elt [⟨.Name x px, iter, ifs, 0⟩] scope pos) 0 (.ref I) (.ref s.heap.objs.size) (compEnvC scope cl H2.objs.size env)) (RR (.ref s.heap.objs.size) H2.objs.size) s₃ := by
    rintro s₃ rfl
    refine compLoopG (cenv := compEnvC scope cl H2.objs.size env) (h₀ := h₀) (L := L) (m := m) (news := news) W live (lookup_relabel_local hx) (by simp [compEnvC, relabel, hkind]) (Nat.ne_of_gt hIlt) (Nat.ne_of_gt (Nat.lt_trans hIlt hDC)) (Nat.ne_of_gt hDC) hLI (Nat.ne_of_lt hLD) (Nat.ne_of_lt (Nat.lt_trans hLD hDC)) hI0
      (fresh_at F (Nat.le_refl _)) (fresh_at F (Nat.le_of_lt hDC)) (fun p hp => ⟨hoff p hp, Nat.ne_of_lt (hnl p hp), Nat.ne_of_lt (Nat.lt_trans (hnl p hp) hDC)⟩) hst₁ hacc hns₁ F₁ N₁ hks J h0 hsz ?_ ?_
    · intro i v ys k oI oC mc' h tk hi hP hJ nC hv F' N'
      exact step _ _ i v ys k oI oC mc' h tk hnl hIlt hDC hi hP hJ nC hv F' N'
    · intro ys k mc' h tk hJ hn' F' N'
      exact done _ _ ys k mc' h tk hnl hDC hLD (fresh_at F (Nat.le_of_lt hDC)) hJ hn' F' N'
  exact codeAny_compStart_list (loop _ rfl) (W.self 0 _ _ _ hst₁ (loop _ rfl))

/-- the source of a list comprehension, then its block -/
def CompAt (prog : Program) (w : World) (A : Around) (env : Env) (e : Expr) (scope : Scope) (cl : List (Str × Addr)) (PQ : Value → Addr → Shared → Prop) (it : Value) (s : Shared) : Prop :=
  wpAny (model prog w) A (newList []) (fun acc s₃ => wpAny (model prog w) A (newFunctionEnv scope env.globals cl [] env.qual none .none (some env)) (fun cenv s₄ =>
      codeAny (model prog w) A (.compStart e 0 it acc { cenv with scope := relabel scope env }) (fun r s' => match r with | .ok _ => PQ acc cenv.locals s' | .error _ => False) s₄) (fun _ _ => False) s₃) (fun _ _ => False) s

def InPost (Q : Value → Shared → Prop) (acc : Value) (C : Addr) (s' : Shared) : Prop := ∃ m, s'.heap.Ns C m ∧ ∀ h', Heap.SameBut C s'.heap h' → Q acc { s' with heap := h' }
def AsPost (prog : Program) (w : World) (A : Around) (env : Env) (y : Str) (py : Pos) (Q : Flow → Shared → Prop) (acc : Value) (C : Addr) (s' : Shared) : Prop := wpAny (model prog w) A (assign (.Name y py) env acc) (fun _ s'' => ∃ m, s''.heap.Ns C m ∧ ∀ h', Heap.SameBut C s''.heap h' → Q .next { s'' with heap := h' }) (fun _ _ => False) s'
theorem comp_in {elt target iter : Expr} {ifs : List Expr} {gs : List Comprehension} {scope : Scope} {cl : List (Str × Addr)} {pos : Pos} {Q : Value → Shared → Prop} {E : Value → Shared → Prop}
    (h : wpAny (model prog w) A (eval iter env) (fun xv s₁ => Hold (wpAny (model prog w) A (pyIter xv) (CompAt prog w A env (.ListComp elt (⟨target, iter, ifs, 0⟩ :: gs) scope pos) scope cl (InPost Q)) (fun _ _ => False) s₁)) E s)
    (hclos : closureFor scope env = pure cl) (hkind : scope.kind = .function) (hnames : ∀ y ∈ scope.names, y.2 = .local → scope.names.lookup y.1 = some .local) (hs : ∀ x, foldedSetIterable iter env x = pure x) :
    wpAny (model prog w) A (eval (.ListComp elt (⟨target, iter, ifs, 0⟩ :: gs) scope pos) env) Q E s := by
  rw [eval_ListComp]
  refine wpAny_comprehension_free (use := none) rfl hs hclos hkind hnames (wpAny_mono h (fun xv s₁ h₁ => quiet (wpAny_mono h₁.out (fun it s₂ h₂ => ?_) fun _ _ e => e)) fun _ _ e => e)
  refine quiet (wpAny_mono h₂ (fun acc s₃ h₃ => quiet (wpAny_mono h₃ (fun cenv s₄ h₄ => codeAny_mono h₄ fun r s' hr => ?_) fun _ _ e => e)) fun _ _ e => e)
  cases r with
  | ok f => exact hr
  | error x => exact hr.elim

theorem comp_as {elt target iter : Expr} {ifs : List Expr} {gs : List Comprehension} {scope : Scope} {cl : List (Str × Addr)} {y : Str} {py pos spos : Pos} {Q : Flow → Shared → Prop} {E : Value → Shared → Prop}
    (h : wpAny (model prog w) A (eval iter env) (fun xv s₁ => Hold (wpAny (model prog w) A (pyIter xv) (CompAt prog w A env (.ListComp elt (⟨target, iter, ifs, 0⟩ :: gs) scope pos) scope cl (AsPost prog w A env y py Q)) (fun _ _ => False) s₁)) E s)
    (hsw : swapsWith (.ListComp elt (⟨target, iter, ifs, 0⟩ :: gs) scope pos) (some (.Name y py)) spos.line env = pure true)
    (hclos : closureFor scope env = pure cl) (hkind : scope.kind = .function) (hnames : ∀ y ∈ scope.names, y.2 = .local → scope.names.lookup y.1 = some .local) (hs : ∀ x, foldedSetIterable iter env x = pure x) :
    wpAny (model prog w) A (exec (.Assign [.Name y py] (.ListComp elt (⟨target, iter, ifs, 0⟩ :: gs) scope pos) spos) env) Q E s := by
  rw [exec_Assign_Name_used _ _ _ _ hsw]
  refine wpAny_bind (wpAny_standAt (wpAny_bind ?_))
  show wpAny _ A (do let _ ← comprehension (.ListComp elt (⟨target, iter, ifs, 0⟩ :: gs) scope pos) scope env _ (newList []) false (eval iter env) (some (assign (.Name y py) env))) _ _ s
  refine wpAny_bind (wpAny_mono (wpAny_comprehension_free (use := some (assign (.Name y py) env)) (Q := fun _ s' => Q .next s') rfl hs hclos hkind hnames
    (wpAny_mono h (fun xv s₁ h₁ => quiet (wpAny_mono h₁.out (fun it s₂ h₂ => ?_) fun _ _ e => e)) fun _ _ e => e)) (fun _ s' hq => wpAny_pure (wpAny_pure hq)) fun _ _ e => e)
  refine quiet (wpAny_mono h₂ (fun acc s₃ h₃ => quiet (wpAny_mono h₃ (fun cenv s₄ h₄ => codeAny_mono h₄ fun r s' hr => ?_) fun _ _ e => e)) fun _ _ e => e)
  cases r with
  | ok f => exact quiet hr
  | error x => exact hr.elim

theorem csrc_list {elt iter : Expr} {x : Str} {px : Pos} {ifs : List Expr} {scope : Scope} {cl : List (Str × Addr)} {pos : Pos} {L l : Addr} {arr : Array Value} {kl : Nat} {m : Str → Option Value} {news : List (Addr × Obj)} {PQ : Value → Addr → Shared → Prop} {E : Value → Shared → Prop}
    (J : Nat → Array Value → Prop) (hh : A.handled = none) (F : Fr h₀ L s.heap m) (N : News h₀ L s.heap news) (hl : (l, listOf arr kl) ∈ news) (hcell : ∀ y ∈ scope.names, y.2 ≠ .cell) (hkind : scope.kind = .function) (hx : scope.names.lookup x = some .local)
    (h0 : J 0 #[]) (hsz : ∀ i ys, J i ys → ys.size ≤ sizeLine)
    (step : ∀ D C I i v ys k oI oC mc' h tk, (∀ p ∈ news, p.1 < I) → I < D → D < C → arr[i]? = some v → J i ys → NsAt C oC mc' → mc' x = some v → Fr h₀ L h m → News h₀ L h ((D, listOf ys k) :: (I, oI) :: (C, oC) :: news) →
      wpAny (model prog w) A (tests ifs (compEnvC scope cl C env)) (fun ok s₃ => if ok = true then wpAny (model prog w) A (eval elt (compEnvC scope cl C env)) (EltPost h₀ L m ((D, listOf ys k) :: (I, oI) :: (C, oC) :: news) s fun y => J (i + 1) (ys.push y)) (fun _ _ => False) s₃
        else EltEnd h₀ L m ((D, listOf ys k) :: (I, oI) :: (C, oC) :: news) s s₃ ∧ J (i + 1) ys) (fun _ _ => False) { s with heap := h, toks := tk })
    (done : ∀ D C ys k mc' h tk, (∀ p ∈ news, p.1 < D) → D < C → L < D → h₀.get? C = none → J arr.size ys → h.Ns C mc' → Fr h₀ L h m → News h₀ L h ((D, listOf ys k) :: news) → PQ (.ref D) C { s with heap := h, toks := tk }) :
    Hold (wpAny (model prog w) A (pyIter (.ref l)) (CompAt prog w A env (.ListComp elt [⟨.Name x px, iter, ifs, 0⟩] scope pos) scope cl PQ) E s) := by
  have hls : s.heap.IsList l arr := ⟨_, (N _ hl).1, rfl, kl, rfl⟩
  have hlt : l < s.heap.objs.size := Heap.lt_size (N _ hl).1
  refine wpAny_pyIter_list hls ?_
  have W := Walks.list (prog := prog) (w := w) (A := A) hh s.heap.objs.size l (Nat.ne_of_lt hlt) arr
  have hnew : ∀ p ∈ news, p.1 < s.heap.objs.size := fun p hp => Heap.lt_size (N p hp).1
  refine compAtG (h₀ := h₀) (m := m) (news := news) (RR := fun acc C r s' => match r with | .ok _ => PQ acc C s' | .error _ => False) W (fun i h st => let ⟨o, ho, _⟩ := st.1; ⟨o, ho⟩)
    ⟨⟨_, Heap.get?_push_size _ rfl, rfl, rfl⟩, hls.at fun o e => Heap.get?_push_of_some _ e⟩ (by show s.heap.objs.size < (s.heap.push _).objs.size; rw [Heap.size_push]; exact Nat.lt_succ_self _) (F.push _) (fun p hp => ⟨Heap.get?_push_of_some _ (N p hp).1, (N p hp).2⟩) (fun p hp => Nat.ne_of_lt (hnew p hp)) (Nat.ne_of_lt F.ns.lt) (next_is_new F)
    (fun b hb => .inr ⟨listOf arr kl, by rw [List.mem_singleton.mp hb]; exact hl⟩) hcell hkind hx J h0 hsz ?_ ?_
  · intro D C i v ys k oI oC mc' h tk _ hID hDC _ hP hJ nC hv F₁ N₁
    exact step D C _ i v ys k oI oC mc' h tk hnew hID hDC hP hJ nC hv F₁ N₁
  · intro D C ys k mc' h tk a b c d hJ hn F₁ N₁
    exact done D C ys k mc' h tk a b c d hJ hn F₁ N₁

theorem csrc_str {elt iter : Expr} {x : Str} {px : Pos} {ifs : List Expr} {scope : Scope} {cl : List (Str × Addr)} {pos : Pos} {L : Addr} {xs : Str} {t : Tok} {m : Str → Option Value} {news : List (Addr × Obj)} {PQ : Value → Addr → Shared → Prop} {E : Value → Shared → Prop}
    (J : Nat → Array Value → Prop) (hh : A.handled = none) (F : Fr h₀ L s.heap m) (N : News h₀ L s.heap news) (hcell : ∀ y ∈ scope.names, y.2 ≠ .cell) (hkind : scope.kind = .function) (hx : scope.names.lookup x = some .local)
    (h0 : J 0 #[]) (hsz : ∀ i ys, J i ys → ys.size ≤ sizeLine)
    (step : ∀ D C I i c t' ys k oI oC mc' h tk, (∀ p ∈ news, p.1 < I) → I < D → D < C → xs.cps[i]? = some c → J i ys → NsAt C oC mc' → mc' x = some (.str ⟨#[c]⟩ t') → Fr h₀ L h m → News h₀ L h ((D, listOf ys k) :: (I, oI) :: (C, oC) :: news) →
      wpAny (model prog w) A (tests ifs (compEnvC scope cl C env)) (fun ok s₃ => if ok = true then wpAny (model prog w) A (eval elt (compEnvC scope cl C env)) (EltPost h₀ L m ((D, listOf ys k) :: (I, oI) :: (C, oC) :: news) s fun y => J (i + 1) (ys.push y)) (fun _ _ => False) s₃
        else EltEnd h₀ L m ((D, listOf ys k) :: (I, oI) :: (C, oC) :: news) s s₃ ∧ J (i + 1) ys) (fun _ _ => False) { s with heap := h, toks := tk })
    (done : ∀ D C ys k mc' h tk, (∀ p ∈ news, p.1 < D) → D < C → L < D → h₀.get? C = none → J xs.cps.size ys → h.Ns C mc' → Fr h₀ L h m → News h₀ L h ((D, listOf ys k) :: news) → PQ (.ref D) C { s with heap := h, toks := tk }) :
    Hold (wpAny (model prog w) A (pyIter (.str xs t)) (CompAt prog w A env (.ListComp elt [⟨.Name x px, iter, ifs, 0⟩] scope pos) scope cl PQ) E s) := by
  have hnew : ∀ p ∈ news, p.1 < s.heap.objs.size := fun p hp => Heap.lt_size (N p hp).1
  have go : ∀ (ty : String) (o : Obj), (∀ A' : Around, A'.handled = none → Walks prog w A' s.heap.objs.size [s.heap.objs.size] [s.heap.objs.size] xs.cps.size (SignAt xs) (fun i h => h.IsStrIter s.heap.objs.size ty xs t i)) → (s.heap.push o).IsStrIter s.heap.objs.size ty xs t 0 →
      CompAt prog w A env (.ListComp elt [⟨.Name x px, iter, ifs, 0⟩] scope pos) scope cl PQ (.ref s.heap.objs.size) { s with heap := s.heap.push o } := by
    intro ty o W st
    refine compAtG (h₀ := h₀) (m := m) (news := news) (ks := []) (RR := fun acc C r s' => match r with | .ok _ => PQ acc C s' | .error _ => False) (W A hh) (fun i h st => let ⟨o, ho, _⟩ := st; ⟨o, ho⟩)
      st (by show s.heap.objs.size < (s.heap.push _).objs.size; rw [Heap.size_push]; exact Nat.lt_succ_self _) (F.push _) (fun p hp => ⟨Heap.get?_push_of_some _ (N p hp).1, (N p hp).2⟩) (fun p hp => Nat.ne_of_lt (hnew p hp)) (Nat.ne_of_lt F.ns.lt) (next_is_new F)
      (fun b hb => nomatch hb) hcell hkind hx J h0 hsz ?_ ?_
    · rintro D C i v ys k oI oC mc' h tk _ hID hDC _ ⟨c, t', hc, rfl⟩ hJ nC hv F₁ N₁
      exact step D C _ i c t' ys k oI oC mc' h tk hnew hID hDC hc hJ nC hv F₁ N₁
    · intro D C ys k mc' h tk a b c d hJ hn F₁ N₁
      exact done D C ys k mc' h tk a b c d hJ hn F₁ N₁
  cases ha : xs.cps.all (· < 128)
  · exact wpAny_pyIter_wide ha (go "str_iterator" _ (fun A' hA => Walks.strWide hA _ xs t) ⟨_, Heap.get?_push_size _ rfl, rfl, rfl⟩)
  · exact wpAny_pyIter_ascii ha (go "str_ascii_iterator" _ (fun A' hA => Walks.strAscii hA _ xs t) ⟨_, Heap.get?_push_size _ rfl, rfl, rfl⟩)

/-- behind a comprehension that is handed on -/
theorem done_in {L D C : Addr} {m mc' : Str → Option Value} {news : List (Addr × Obj)} {o : Obj} {Q : Value → Shared → Prop} (a : ∀ p ∈ news, p.1 < D) (b : D < C) (c : L < D) (d : h₀.get? C = none) (hn : s.heap.Ns C mc') (F : Fr h₀ L s.heap m) (N : News h₀ L s.heap ((D, o) :: news))
    (hq : ∀ h', Fr h₀ L h' m → News h₀ L h' ((D, o) :: news) → Q (.ref D) { s with heap := h' }) : InPost Q (.ref D) C s := by
  refine ⟨mc', hn, fun h' hs => hq h' ⟨F.ns.at' fun o e => hs.extBut _ o (Nat.ne_of_lt (Nat.lt_trans c b)) e, fun y o e => hs.extBut y o (fun q => by rw [q, d] at e; cases e) (F.keep y o e), F.above⟩ fun p hp => ⟨hs.extBut _ _ ?_ (N p hp).1, (N p hp).2⟩⟩
  rcases List.mem_cons.mp hp with rfl | hp
  · exact Nat.ne_of_lt b
  · exact Nat.ne_of_lt (Nat.lt_trans (a p hp) b)
/-- behind a comprehension that is stored -/
theorem done_as {D C : Addr} {m mc' : Str → Option Value} {news : List (Addr × Obj)} {o : Obj} {y : Str} {py : Pos} {Q : Flow → Shared → Prop} (a : ∀ p ∈ news, p.1 < D) (b : D < C) (c : env.locals < D) (d : h₀.get? C = none) (hn : s.heap.Ns C mc') (F : Fr h₀ env.locals s.heap m) (N : News h₀ env.locals s.heap ((D, o) :: news))
    (hy : env.kindOf y = some .local) (hp : (env.scope.kind == .class || (env.scope.kind == .module && env.locals != env.globals)) = false)
    (hq : ∀ h' tk', Fr h₀ env.locals h' (fun z => if z = y then some (.ref D) else m z) → News h₀ env.locals h' ((D, o) :: news) → Q .next { s with heap := h', toks := tk' }) :
    AsPost prog w A env y py Q (.ref D) C s := by
  refine wpAny_assign_Name (wpAny_storeName_local hy F.ns (fun h₂ hn₂ hs₂ => ?_) hp)
  have F₂ := F.set hn₂ hs₂
  have N₂ := N.set hs₂
  have hLC : C ≠ env.locals := Nat.ne_of_gt (Nat.lt_trans c b)
  refine ⟨mc', hn.sameBut hs₂ hLC, fun h' hs => hq h' _ ⟨F₂.ns.at' fun o e => hs.extBut _ o (Ne.symm hLC) e, fun y o e => hs.extBut y o (fun q => by rw [q, d] at e; cases e) (F₂.keep y o e), F₂.above⟩ fun p hp => ⟨hs.extBut _ _ ?_ (N₂ p hp).1, (N₂ p hp).2⟩⟩
  rcases List.mem_cons.mp hp with rfl | hp
  · exact Nat.ne_of_lt b
  · exact Nat.ne_of_lt (Nat.lt_trans (a p hp) b)

theorem name_comp {M : Model} {scope : Scope} {cl : List (Str × Addr)} {L C : Addr} {oC : Obj} {mc : Str → Option Value} {news : List (Addr × Obj)} {x : Str} {v : Value} {pos : Pos} {Q : Value → Shared → Prop} {E : Value → Shared → Prop} (N : News h₀ L s.heap news) (hm : (C, oC) ∈ news) (nC : NsAt C oC mc) (hv : mc x = some v)
    (hk : (compEnvC scope cl C env).scope.kind = .function) (hx : (compEnvC scope cl C env).kindOf x = some .local) (hd : (x == ("__debug__" : Str)) = false) (h : Q v s) :
    wpAny M A (eval (.Name x pos) (compEnvC scope cl C env)) Q E s := wpAny_Name (wpAny_loadName_local hk hx (nC _ (N _ hm).1) hv h) hd
theorem no_tests {cenv : Env} {Q : Bool → Shared → Prop} {E : Value → Shared → Prop} (h : Q true s) : wpAny (model prog w) A (tests [] cenv) Q E s := wpAny_tests_nil h
theorem one_test {cenv : Env} {c : Expr} {Q : Bool → Shared → Prop} {E : Value → Shared → Prop} (h : wpAny (model prog w) A (isTrue c cenv (eval c cenv)) Q E s) : wpAny (model prog w) A (tests [c] cenv) Q E s := wpAny_tests_one h
end
end Mine
end

section
set_option maxRecDepth 100000
set_option maxHeartbeats 8000000
namespace Mine

section
variable {prog : Program} {w : World} {A : Around} {s : Shared} {env : Env} {h₀ : Heap}

theorem name_compB {K : Frag} {L : Addr} {m mg mb : Str → Option Value} {p : Program} {loose : List Str} {M : Model} {x : Str} {pos : Pos} {v : Value} {Q : Value → Shared → Prop} {E : Value → Shared → Prop} (F : Fr h₀ L s.heap m) (X : K.In h₀) (T : TopRead p loose mg mb h₀) (e : nsIn K mainGlobals x = some none) (hv : bootBuiltins x = some v) (hn : x ≠ "__name__")
    (h : Q v s) (hg : env.globals = mainGlobals) (hb : env.builtins = builtinsNs) (hk : env.scope.kind = .function) (hx : env.kindOf x = some .globalImplicit) (hd : (x == ("__debug__" : Str)) = false) : wpAny M A (eval (.Name x pos) env) Q E s :=
  Calls.Name_function_global hk hx (Calls.loadGlobal_builtin (env := env) (by rw [hg]; exact T.g.keeps F.keep) (mg_none_of X T.g e) (by rw [hb]; exact T.b.keeps F.keep) ((T.builtins x hn).trans hv) h) hd

theorem compTurn_two0 (elt t1 i1 t2 i2 : Expr) (scope : Scope) (pos : Pos) (it acc : Value) (cenv : Env) :
    compTurn (.ListComp elt [⟨t1, i1, [], 0⟩, ⟨t2, i2, [], 0⟩] scope pos) 0 it acc cenv = (standAt i1.pos >>= fun _ => pyNext it >>= fun r => match r with
      | none => pure (.done .next)
      | some v => letOwnedTupleGo t1 it v >>= fun _ => assign t1 cenv v >>= fun _ =>
        (eval i2 cenv >>= fun x => standAt i2.pos >>= fun _ => foldedSetIterable i2 cenv x >>= fun x => holding [x] (pyIter x) >>= fun it' => runOwn (.compStart (.ListComp elt [⟨t1, i1, [], 0⟩, ⟨t2, i2, [], 0⟩] scope pos) 1 it' acc cenv) cenv >>= fun _ =>
          again (.compLoop (.ListComp elt [⟨t1, i1, [], 0⟩, ⟨t2, i2, [], 0⟩] scope pos) 0 it acc cenv))) := by rfl
theorem compTurn_two1 (elt t1 i1 t2 i2 : Expr) (scope : Scope) (pos : Pos) (it acc : Value) (cenv : Env) :
    compTurn (.ListComp elt [⟨t1, i1, [], 0⟩, ⟨t2, i2, [], 0⟩] scope pos) 1 it acc cenv = (standAt i2.pos >>= fun _ => pyNext it >>= fun r => match r with
      | none => pure (.done .next)
      | some v => letOwnedTupleGo t2 it v >>= fun _ => assign t2 cenv v >>= fun _ =>
        (eval elt cenv >>= fun x => call (.builtin "list.append") [acc, x] >>= fun _ => pure ()) >>= fun _ =>
          again (.compLoop (.ListComp elt [⟨t1, i1, [], 0⟩, ⟨t2, i2, [], 0⟩] scope pos) 1 it acc cenv)) := by rfl

theorem codeAny_two1 {elt t1 i1 t2 i2 : Expr} {scope : Scope} {pos : Pos} {it acc : Value} {cenv : Env} {R : Result → Shared → Prop} (I : Nat → Shared → Prop)
    (turn : ∀ n s, I n s → wpAny (model prog w) A (pyNext it) (fun r s₁ => match r with
      | none => R (.ok .next) s₁
      | some v => wpAny (model prog w) A (assign t2 cenv v) (fun _ s₂ => wpAny (model prog w) A (eval elt cenv) (fun x s₃ =>
          wpAny (model prog w) A (call (.builtin "list.append") [acc, x]) (fun _ s₄ => ∃ m, m < n ∧ I m s₄) (fun _ _ => False) s₃) (fun _ _ => False) s₂) (fun _ _ => False) s₁) (fun _ _ => False) s)
    (n : Nat) (h : I n s) (ht : ∀ v, letOwnedTupleGo t2 it v = pure () := by intro _; rfl) :
    codeAny (model prog w) A (.compLoop (.ListComp elt [⟨t1, i1, [], 0⟩, ⟨t2, i2, [], 0⟩] scope pos) 1 it acc cenv) R s := by
  refine codeAny_loop rfl I (fun n s hI => ?_) n h
  show wpAny _ _ ((compTurn (.ListComp elt [⟨t1, i1, [], 0⟩, ⟨t2, i2, [], 0⟩] scope pos) 1 it acc cenv).onRaise (fun x => do noteFrame x cenv; theTreesLotGoes x)) _ _ s
  refine wpAny_noted ?_
  rw [compTurn_two1]
  refine wpAny_bind (wpAny_standAt (wpAny_bind (quiet (wpAny_mono (turn n s hI) (fun r s₁ h₁ => ?_) fun _ _ h' => h'))))
  cases r with
  | none => exact wpAny_pure h₁
  | some v =>
    refine wpAny_bind (wpAny_of_eq (ht v) ?_)
    exact wpAny_bind (quiet (wpAny_mono h₁ (fun _ s₂ h₂ => wpAny_bind (wpAny_bind (quiet (wpAny_mono h₂ (fun x s₃ h₃ => wpAny_bind (quiet (wpAny_mono h₃
      (fun _ s₄ h₄ => wpAny_pure (wpAny_pure ⟨rfl, h₄⟩)) fun _ _ h' => h'))) fun _ _ h' => h')))) fun _ _ h' => h'))

theorem codeAny_two0 {elt t1 i1 t2 i2 : Expr} {scope : Scope} {pos : Pos} {it acc : Value} {cenv : Env} {R : Result → Shared → Prop} (I : Nat → Shared → Prop)
    (turn : ∀ n s, I n s → wpAny (model prog w) A (pyNext it) (fun r s₁ => match r with
      | none => R (.ok .next) s₁
      | some v => wpAny (model prog w) A (assign t1 cenv v) (fun _ s₂ => wpAny (model prog w) A (eval i2 cenv) (fun x s₃ => wpAny (model prog w) A (pyIter x) (fun it' s₄ =>
          codeAny (model prog w) A (.compStart (.ListComp elt [⟨t1, i1, [], 0⟩, ⟨t2, i2, [], 0⟩] scope pos) 1 it' acc cenv) (fun r s₅ => match r with | .ok _ => ∃ m, m < n ∧ I m s₅ | .error _ => False) s₄) (fun _ _ => False) s₃) (fun _ _ => False) s₂) (fun _ _ => False) s₁) (fun _ _ => False) s)
    (n : Nat) (h : I n s) (hs : ∀ x, foldedSetIterable i2 cenv x = pure x) (ht : ∀ v, letOwnedTupleGo t1 it v = pure () := by intro _; rfl) :
    codeAny (model prog w) A (.compLoop (.ListComp elt [⟨t1, i1, [], 0⟩, ⟨t2, i2, [], 0⟩] scope pos) 0 it acc cenv) R s := by
  refine codeAny_loop rfl I (fun n s hI => ?_) n h
  show wpAny _ _ ((compTurn (.ListComp elt [⟨t1, i1, [], 0⟩, ⟨t2, i2, [], 0⟩] scope pos) 0 it acc cenv).onRaise (fun x => do noteFrame x cenv; theTreesLotGoes x)) _ _ s
  refine wpAny_noted ?_
  rw [compTurn_two0]
  refine wpAny_bind (wpAny_standAt (wpAny_bind (quiet (wpAny_mono (turn n s hI) (fun r s₁ h₁ => ?_) fun _ _ h' => h'))))
  cases r with
  | none => exact wpAny_pure h₁
  | some v =>
    refine wpAny_bind (wpAny_of_eq (ht v) ?_)
    refine wpAny_bind (quiet (wpAny_mono h₁ (fun _ s₂ h₂ => wpAny_bind (quiet (wpAny_mono h₂ (fun x s₃ h₃ => wpAny_bind (wpAny_standAt (wpAny_bind (wpAny_of_eq (hs x) (wpAny_bind (wpAny_holding (quiet (wpAny_mono h₃ (fun it' s₄ h₄ => wpAny_bind (wpAny_runOwn (codeAny_mono h₄ fun r s₅ h₅ => ?_))) fun _ _ h' => h')))))))) fun _ _ h' => h'))) fun _ _ h' => h'))
    cases r with
    | ok f => exact wpAny_pure ⟨rfl, h₅⟩
    | error e => exact h₅.elim

theorem codeAny_compStart_1 {elt t1 i1 t2 i2 : Expr} {scope : Scope} {pos : Pos} {it acc : Value} {cenv : Env} {R : Result → Shared → Prop}
    (h0 : codeAny (model prog w) A (.compLoop (.ListComp elt [⟨t1, i1, [], 0⟩, ⟨t2, i2, [], 0⟩] scope pos) 1 it acc cenv) R s)
    (h : wpAny (model prog w) A (pyIter it) (fun it' s' => codeAny (model prog w) A (.compLoop (.ListComp elt [⟨t1, i1, [], 0⟩, ⟨t2, i2, [], 0⟩] scope pos) 1 it' acc cenv) R s') (fun _ _ => False) s) :
    codeAny (model prog w) A (.compStart (.ListComp elt [⟨t1, i1, [], 0⟩, ⟨t2, i2, [], 0⟩] scope pos) 1 it acc cenv) R s := by
  refine codeAny_of_tree ?_
  show wpAny _ _ ((compStart (.ListComp elt [⟨t1, i1, [], 0⟩, ⟨t2, i2, [], 0⟩] scope pos) 1 it acc cenv).onRaise (fun x => do noteFrame x cenv; standAt theWindowsPlace)) _ _ s
  refine wpAny_notedAt ?_
  unfold compStart
  show wpAny _ _ (ask >>= _) _ _ s
  refine wpAny_bind (wpAny_askSetting (wpAny_ite ?_))
  split
  · first
      | exact wpAny_bind (wpAny_pure (wpAny_pure (And.intro rfl h0)))
      | exact wpAny_pure (And.intro rfl h0)
  · first
      | exact wpAny_bind (wpAny_rule (wpAny_bind (wpAny_standAt (wpAny_bind (quiet (wpAny_mono h (fun it' s' h' => wpAny_pure (And.intro rfl h')) fun _ _ x => x))))))
      | (refine wpAny_bind (wpAny_rule ?_); show wpAny _ _ (standAt i2.pos >>= _) _ _ s; exact wpAny_bind (wpAny_standAt (wpAny_bind (quiet (wpAny_mono h (fun it' s' h' => wpAny_pure (And.intro rfl h')) fun _ _ x => x)))))

/-- the inner clause: its turns, the outer clause's name kept -/
theorem compInnerG {elt t1 i1 i2 : Expr} {x1 x : Str} {px : Pos} {scope : Scope} {pos : Pos} {cenv : Env} {L I D : Addr} {ks : List Addr} {n : Nat} {P : Nat → Value → Prop} {St : Nat → Heap → Prop} {m mc : Str → Option Value} {v1 : Value} {ys₀ : Array Value} {k₀ : Nat} {news : List (Addr × Obj)} {R : Result → Shared → Prop}
    (W : Walks prog w A I (I :: ks) [I] n P St) (live : ∀ i h, St i h → ∃ o, h.get? I = some o)
    (hx : cenv.kindOf x = some .local) (hp : (cenv.scope.kind == .class || (cenv.scope.kind == .module && cenv.locals != cenv.globals)) = false) (hxx : x1 ≠ x)
    (hDI : D ≠ I) (hCI : cenv.locals ≠ I) (hCD : cenv.locals ≠ D) (hLI : L ≠ I) (hLC : L ≠ cenv.locals) (hI0 : h₀.get? I = none) (hC0 : h₀.get? cenv.locals = none)
    (hnew : ∀ p ∈ news, p.1 ≠ I ∧ p.1 ≠ D ∧ p.1 ≠ cenv.locals) (hst : St 0 s.heap) (hn : s.heap.Ns cenv.locals mc) (hv1 : mc x1 = some v1) (F : Fr h₀ L s.heap m) (N : News h₀ L s.heap ((D, listOf ys₀ k₀) :: news))
    (hks : ∀ b ∈ ks, (∃ o, h₀.get? b = some o) ∨ ∃ o, (b, o) ∈ news) (J : Nat → Array Value → Prop) (h0 : J 0 ys₀) (hsz : ∀ i ys, J i ys → ys.size ≤ sizeLine)
    (step : ∀ i v ys k oI oC mc' h tk, i < n → P i v → J i ys → NsAt cenv.locals oC mc' → mc' x = some v → mc' x1 = some v1 → Fr h₀ L h m → News h₀ L h ((D, listOf ys k) :: (I, oI) :: (cenv.locals, oC) :: news) →
      wpAny (model prog w) A (eval elt cenv) (EltPost h₀ L m ((D, listOf ys k) :: (I, oI) :: (cenv.locals, oC) :: news) s fun y => J (i + 1) (ys.push y)) (fun _ _ => False) { s with heap := h, toks := tk })
    (hR : ∀ ys k mc' h tk, J n ys → h.Ns cenv.locals mc' → Fr h₀ L h m → News h₀ L h ((D, listOf ys k) :: news) → R (.ok .next) { s with heap := h, toks := tk }) :
    codeAny (model prog w) A (.compLoop (.ListComp elt [⟨t1, i1, [], 0⟩, ⟨.Name x px, i2, [], 0⟩] scope pos) 1 (.ref I) (.ref D) cenv) R s := by
  refine codeAny_two1 (fun j s' => ∃ h' tk ys k mc' i, s' = { s with heap := h', toks := tk } ∧ St i h' ∧ Fr h₀ L h' m ∧ News h₀ L h' ((D, listOf ys k) :: news) ∧ h'.Ns cenv.locals mc' ∧ mc' x1 = some v1 ∧ J i ys ∧ i ≤ n ∧ j = n + 1 - i) ?_ (n + 1)
    ⟨s.heap, s.toks, ys₀, k₀, mc, 0, rfl, hst, F, N, hn, hv1, h0, Nat.zero_le _, rfl⟩
  rintro j s' ⟨h', tk, ys, k, mc', i, rfl, hst', F', N', hn', hv', hJ, hi, rfl⟩
  have next : ∀ h₁ : Heap, (∀ b o, b ∉ [I] → h'.get? b = some o → h₁.get? b = some o) → Fr h₀ L h₁ m ∧ News h₀ L h₁ ((D, listOf ys k) :: news) ∧ h₁.Ns cenv.locals mc' := fun h₁ hk₁ =>
    ⟨⟨F'.ns.at' fun o e => hk₁ _ o (by simpa using hLI) e, fun b o e => hk₁ b o (fun hb => by rw [List.mem_singleton.mp hb, hI0] at e; cases e) (F'.keep b o e), F'.above⟩,
      (fun p hp => ⟨hk₁ _ _ (by
        rcases List.mem_cons.mp hp with rfl | hp
        · simpa using hDI
        · simpa using (hnew p hp).1) (N' p hp).1, (N' p hp).2⟩), hn'.at' fun o e => hk₁ _ o (by simpa using hCI) e⟩
  by_cases hlt : i < n
  · refine W.item i _ _ _ hlt hst' fun v h₁ tk₁ hP hst₁ hk₁ => ?_
    obtain ⟨F₁, N₁, hn₁⟩ := next h₁ hk₁
    refine wpAny_assign_Name (wpAny_storeName_local hx hn₁ (fun h₂ hn₂ hs₂ => ?_) hp)
    have F₂ : Fr h₀ L h₂ m := ⟨F₁.ns.at' fun o e => hs₂.extBut _ o hLC e, fun b o e => hs₂.extBut b o (fun hb => by rw [hb, hC0] at e; cases e) (F₁.keep b o e), F₁.above⟩
    have N₂ : News h₀ L h₂ ((D, listOf ys k) :: news) := fun p hp => ⟨hs₂.extBut _ _ (by
        rcases List.mem_cons.mp hp with rfl | hp
        · exact Ne.symm hCD
        · exact (hnew p hp).2.2) (N₁ p hp).1, (N₁ p hp).2⟩
    obtain ⟨oI, hoI⟩ := live _ _ hst₁
    have hoI₂ : h₂.get? I = some oI := hs₂.extBut _ _ (Ne.symm hCI) hoI
    obtain ⟨oC, hoC, nC⟩ := nsAt_of hn₂
    have N₃ : News h₀ L h₂ ((D, listOf ys k) :: (I, oI) :: (cenv.locals, oC) :: news) := fun p hp => by
      rcases List.mem_cons.mp hp with rfl | hp
      · exact N₂ _ (.head _)
      · rcases List.mem_cons.mp hp with rfl | hp
        · exact ⟨hoI₂, Ne.symm hLI, hI0⟩
        · rcases List.mem_cons.mp hp with rfl | hp
          · exact ⟨hoC, Ne.symm hLC, hC0⟩
          · exact N₂ p (.tail _ hp)
    refine wpAny_mono (step i v ys k oI oC _ h₂ (tk₁ + 1) hlt hP hJ nC (if_pos rfl) ((if_neg hxx).trans hv') F₂ N₃) (fun y s₄ h₄ => ?_) fun _ _ e => e
    obtain ⟨⟨h₅, tk₅, rfl, F₅, N₅⟩, hJ₅⟩ := h₄
    refine append_K F₅ N₅ (Upd.head (r := (I, oI) :: (cenv.locals, oC) :: news) ?_) (fun h₆ F₆ N₆ => ?_) (hsz i ys hJ)
    · intro p hp
      rcases List.mem_cons.mp hp with rfl | hp
      · exact Ne.symm hDI
      · rcases List.mem_cons.mp hp with rfl | hp
        · exact hCD
        · exact (hnew p hp).2.1
    · refine ⟨n + 1 - (i + 1), by omega, h₆, tk₅, ys.push y, k + 1, _, i + 1, rfl, ?_, F₆, (fun p hp => N₆ p (by
        rcases List.mem_cons.mp hp with rfl | hp
        · exact .head _
        · exact .tail _ (.tail _ (.tail _ hp)))), nC h₆ (N₆ _ (.tail _ (.tail _ (.head _)))).1, (if_neg hxx).trans hv', hJ₅, hlt, rfl⟩
      refine W.frame _ _ _ hst₁ fun b hb o e => ?_
      rcases List.mem_cons.mp hb with rfl | hb
      · rw [hoI] at e
        cases e
        exact (N₆ _ (.tail _ (.head _))).1
      · rcases hks b hb with ⟨o', ho'⟩ | ⟨o', ho'⟩
        · have e1 := F₁.keep b o' ho'
          rw [e] at e1
          cases e1
          exact F₆.keep b _ ho'
        · have e1 := (N₁ _ (.tail _ ho')).1
          have e2 := (N₆ _ (.tail _ (.tail _ (.tail _ ho')))).1
          dsimp only at e1 e2
          rw [e] at e1
          cases e1
          exact e2
  · have hin : i = n := by omega
    subst hin
    refine W.done _ _ _ hst' fun h₁ tk₁ hk₁ => ?_
    obtain ⟨F₁, N₁, hn₁⟩ := next h₁ hk₁
    exact hR ys k mc' h₁ tk₁ hJ hn₁ F₁ N₁

/-- the outer clause over a list of the ledger -/
theorem csrc_list2 {elt i1 t2 i2 : Expr} {x : Str} {px : Pos} {scope : Scope} {cl : List (Str × Addr)} {pos : Pos} {L l : Addr} {arr : Array Value} {kl : Nat} {m : Str → Option Value} {news : List (Addr × Obj)} {PQ : Value → Addr → Shared → Prop} {E : Value → Shared → Prop}
    (J : Nat → Array Value → Prop) (hh : A.handled = none) (F : Fr h₀ L s.heap m) (N : News h₀ L s.heap news) (hl : (l, listOf arr kl) ∈ news) (hcell : ∀ y ∈ scope.names, y.2 ≠ .cell) (hkind : scope.kind = .function) (hx : scope.names.lookup x = some .local) (h0 : J 0 #[])
    (hs : ∀ C y, foldedSetIterable i2 (compEnvC scope cl C env) y = pure y)
    (step : ∀ D C I i v ys k oI oC mc' h tk, (∀ p ∈ news, p.1 < I) → I < D → D < C → L < I → arr[i]? = some v → J i ys → NsAt C oC mc' → mc' x = some v → Fr h₀ L h m → News h₀ L h ((D, listOf ys k) :: (I, oI) :: (C, oC) :: news) →
      wpAny (model prog w) A (eval i2 (compEnvC scope cl C env)) (fun y s₃ => Hold (wpAny (model prog w) A (pyIter y) (fun it' s₄ =>
          codeAny (model prog w) A (.compStart (.ListComp elt [⟨.Name x px, i1, [], 0⟩, ⟨t2, i2, [], 0⟩] scope pos) 1 it' (.ref D) (compEnvC scope cl C env)) (fun r s₅ => match r with | .ok _ => ∃ h' tk' ys' k' mc'', s₅ = { s with heap := h', toks := tk' } ∧ h'.Ns C mc'' ∧ Fr h₀ L h' m ∧ News h₀ L h' ((D, listOf ys' k') :: (I, oI) :: news) ∧ J (i + 1) ys' | .error _ => False) s₄) (fun _ _ => False) s₃)) (fun _ _ => False) { s with heap := h, toks := tk })
    (done : ∀ D C ys k mc' h tk, (∀ p ∈ news, p.1 < D) → D < C → L < D → h₀.get? C = none → J arr.size ys → h.Ns C mc' → Fr h₀ L h m → News h₀ L h ((D, listOf ys k) :: news) → PQ (.ref D) C { s with heap := h, toks := tk }) :
    Hold (wpAny (model prog w) A (pyIter (.ref l)) (CompAt prog w A env (.ListComp elt [⟨.Name x px, i1, [], 0⟩, ⟨t2, i2, [], 0⟩] scope pos) scope cl PQ) E s) := by
  have hls : s.heap.IsList l arr := ⟨_, (N _ hl).1, rfl, kl, rfl⟩
  have hlt : l < s.heap.objs.size := Heap.lt_size (N _ hl).1
  refine wpAny_pyIter_list hls ?_
  have W := Walks.list (prog := prog) (w := w) (A := A) hh s.heap.objs.size l (Nat.ne_of_lt hlt) arr
  have hnew : ∀ p ∈ news, p.1 < s.heap.objs.size := fun p hp => Heap.lt_size (N p hp).1
  have hL : L < s.heap.objs.size := F.ns.lt
  have hI0 := next_is_new F
  generalize hI : s.heap.objs.size = I at *
  generalize hH1 : s.heap.push { cls := .type "list_iterator", data := .fields #[.ref l, .int 0 0] } = H1
  have hH1s : H1.objs.size = I + 1 := by rw [← hH1, Heap.size_push, hI]
  have hst : H1.IsListIter I l 0 ∧ H1.IsList l arr := by
    rw [← hH1]
    exact ⟨⟨_, by rw [← hI]; exact Heap.get?_push_size _ rfl, rfl, rfl⟩, hls.at fun o e => Heap.get?_push_of_some _ e⟩
  have FH : Fr h₀ L H1 m := hH1 ▸ F.push _
  have NH : News h₀ L H1 news := fun p hp => ⟨hH1 ▸ Heap.get?_push_of_some _ (N p hp).1, (N p hp).2⟩
  refine wpAny_newObj_type (wpAny_newFunctionEnv hcell (by intro y hy; simp at hy) (fun h₁ hns₁ hsb₁ => ?_) hkind)
  dsimp only at hns₁ hsb₁ ⊢
  generalize hH2 : H1.push { cls := .type "list", dict := none, data := .seq ([] : List Value).toArray } = H2 at hns₁ hsb₁ ⊢
  have hC : H2.objs.size = I + 2 := by rw [← hH2, Heap.size_push, hH1s]
  have hD0 := fresh_at FH (a := H1.objs.size) (Nat.le_refl _)
  rw [hH1s] at hD0
  have hC0 := fresh_at FH (a := I + 2) (by rw [hH1s]; exact Nat.le_succ _)
  have old : ∀ b o, H1.get? b = some o → h₁.get? b = some o := fun b o e => hsb₁.extBut b o (by have := Heap.lt_size e; rw [hH1s] at this; rw [hC]; exact Nat.ne_of_lt (Nat.lt_succ_of_lt this)) (Heap.get?_push_of_some _ (hH2 ▸ Heap.get?_push_of_some _ e))
  have hacc : h₁.get? (I + 1) = some (listOf #[] 0) := by
    refine hsb₁.extBut _ _ (by rw [hC]; exact Nat.ne_of_lt (Nat.lt_succ_self _)) (Heap.get?_push_of_some _ (hH2 ▸ ?_))
    rw [← hH1s]
    exact Heap.get?_push_size _ rfl
  rw [hC] at hns₁ ⊢
  rw [hH1s]
  have hst₁ : h₁.IsListIter I l 0 ∧ h₁.IsList l arr := W.frame _ _ _ hst fun b _ o e => old b o e
  have F₁ : Fr h₀ L h₁ m := ⟨FH.ns.at' fun o e => old _ o e, fun b o e => old b o (FH.keep b o e), FH.above⟩
  have N₁ : News h₀ L h₁ ((I + 1, listOf #[] 0) :: news) := fun p hp => by
    rcases List.mem_cons.mp hp with rfl | hp
    · exact ⟨hacc, Nat.ne_of_gt (Nat.lt_succ_of_lt hL), hD0⟩
    · exact ⟨old _ _ (NH p hp).1, (NH p hp).2⟩
  have loop : ∀ s₃ : Shared, s₃ = { s with heap := h₁, toks := s.toks + ([] : List (Str × Value)).length } →
      codeAny (model prog w) A (.compLoop (.ListComp elt [⟨.Name x px, i1, [], 0⟩, ⟨t2, i2, [], 0⟩] scope pos) 0 (.ref I) (.ref (I + 1)) (compEnvC scope cl (I + 2) env)) (fun r s' => match r with | .ok _ => PQ (.ref (I + 1)) (I + 2) s' | .error _ => False) s₃ := by
    rintro s₃ rfl
    refine codeAny_two0 (fun j s' => ∃ h' tk ys k mc' i, s' = { s with heap := h', toks := tk } ∧ (h'.IsListIter I l i ∧ h'.IsList l arr) ∧ Fr h₀ L h' m ∧ News h₀ L h' ((I + 1, listOf ys k) :: news) ∧ h'.Ns (I + 2) mc' ∧ J i ys ∧ i ≤ arr.size ∧ j = arr.size + 1 - i) ?_ (arr.size + 1)
      ⟨h₁, _, #[], 0, _, 0, rfl, hst₁, F₁, N₁, hns₁, h0, Nat.zero_le _, rfl⟩ (hs _)
    rintro j s' ⟨h', tk, ys, k, mc', i, rfl, hst', F', N', hn', hJ, hi, rfl⟩
    have next : ∀ h₁ : Heap, (∀ b o, b ∉ [I] → h'.get? b = some o → h₁.get? b = some o) → Fr h₀ L h₁ m ∧ News h₀ L h₁ ((I + 1, listOf ys k) :: news) ∧ h₁.Ns (I + 2) mc' := fun h₁ hk₁ =>
      ⟨⟨F'.ns.at' fun o e => hk₁ _ o (by simpa using Nat.ne_of_lt hL) e, fun b o e => hk₁ b o (fun hb => by rw [List.mem_singleton.mp hb, hI0] at e; cases e) (F'.keep b o e), F'.above⟩,
        (fun p hp => ⟨hk₁ _ _ (by
          rcases List.mem_cons.mp hp with rfl | hp
          · simp
          · simpa using Nat.ne_of_lt (hnew p hp)) (N' p hp).1, (N' p hp).2⟩), hn'.at' fun o e => hk₁ _ o (by simp) e⟩
    by_cases hlt : i < arr.size
    · refine W.item i _ _ _ hlt hst' fun v h₂ tk₂ hP hst₂ hk₂ => ?_
      obtain ⟨F₂, N₂, hn₂⟩ := next h₂ hk₂
      refine wpAny_assign_Name (wpAny_storeName_local (env := compEnvC scope cl (I + 2) env) (lookup_relabel_local hx) hn₂ (fun h₃ hn₃ hs₃ => ?_) (by simp [compEnvC, relabel, hkind]))
      have hs₃' : Heap.SameBut (I + 2) h₂ h₃ := hs₃
      have F₃ : Fr h₀ L h₃ m := ⟨F₂.ns.at' fun o e => hs₃'.extBut _ o (Nat.ne_of_lt (Nat.lt_trans hL (by omega))) e, fun b o e => hs₃'.extBut b o (fun hb => by rw [hb, hC0] at e; cases e) (F₂.keep b o e), F₂.above⟩
      have N₃ : News h₀ L h₃ ((I + 1, listOf ys k) :: news) := fun p hp => ⟨hs₃'.extBut _ _ (by
          rcases List.mem_cons.mp hp with rfl | hp
          · simp
          · exact Nat.ne_of_lt (Nat.lt_trans (hnew p hp) (by omega))) (N₂ p hp).1, (N₂ p hp).2⟩
      obtain ⟨oI, hoI, hrest⟩ := hst₂.1
      have hoI₃ : h₃.get? I = some oI := hs₃'.extBut _ _ (Nat.ne_of_lt (by omega)) hoI
      obtain ⟨oC, hoC, nC⟩ := nsAt_of hn₃
      have N₄ : News h₀ L h₃ ((I + 1, listOf ys k) :: (I, oI) :: (I + 2, oC) :: news) := fun p hp => by
        rcases List.mem_cons.mp hp with rfl | hp
        · exact N₃ _ (.head _)
        · rcases List.mem_cons.mp hp with rfl | hp
          · exact ⟨hoI₃, Nat.ne_of_gt hL, hI0⟩
          · rcases List.mem_cons.mp hp with rfl | hp
            · exact ⟨hoC, Nat.ne_of_gt (Nat.lt_trans hL (by show I < I + 2; omega)), hC0⟩
            · exact N₃ p (.tail _ hp)
      refine wpAny_mono (step (I + 1) (I + 2) I i v ys k oI oC _ h₃ _ hnew (Nat.lt_succ_self _) (Nat.lt_succ_self _) hL hP hJ nC (if_pos rfl) F₃ N₄) (fun y s₅ h₅ => wpAny_mono h₅.out (fun it' s₆ h₆ => codeAny_mono h₆ fun r s₇ h₇ => ?_) fun _ _ e => e) fun _ _ e => e
      cases r with
      | error e => exact h₇.elim
      | ok f =>
        obtain ⟨h₈, tk₈, ys', k', mc'', rfl, hn₈, F₈, N₈, hJ₈⟩ := h₇
        refine ⟨arr.size + 1 - (i + 1), by omega, h₈, tk₈, ys', k', mc'', i + 1, rfl, ?_, F₈, (fun p hp => N₈ p (by
          rcases List.mem_cons.mp hp with rfl | hp
          · exact .head _
          · exact .tail _ (.tail _ hp))), hn₈, hJ₈, hlt, rfl⟩
        exact ⟨⟨oI, (N₈ _ (.tail _ (.head _))).1, hrest⟩, ⟨_, (N₈ _ (.tail _ (.tail _ hl))).1, rfl, kl, rfl⟩⟩
    · have hin : i = arr.size := by omega
      subst hin
      refine W.done _ _ _ hst' fun h₂ tk₂ hk₂ => ?_
      obtain ⟨F₂, N₂, hn₂⟩ := next h₂ hk₂
      exact done (I + 1) (I + 2) ys k mc' h₂ tk₂ (fun p hp => Nat.lt_succ_of_lt (hnew p hp)) (Nat.lt_succ_self _) (Nat.lt_succ_of_lt hL) hC0 hJ hn₂ F₂ N₂
  exact codeAny_compStart_list (loop _ rfl) (W.self 0 _ _ _ hst₁ (loop _ rfl))

theorem inner_range {elt t1 i1 i2 : Expr} {x1 x : Str} {px : Pos} {scope : Scope} {pos : Pos} {cenv : Env} {L D r : Addr} {n : Nat} {bb : Int} {tr ur vr : Tok} {m mc : Str → Option Value} {v1 : Value} {ys₀ : Array Value} {k₀ : Nat} {oC : Obj} {news : List (Addr × Obj)} {RO : Shared → Prop} {E : Value → Shared → Prop}
    (J : Nat → Array Value → Prop) (hh : A.handled = none) (hr : IsRange s.heap r 0 bb 1 tr ur vr) (hsm : Builtin.Range.small 0 bb 1 = true) (hn : Builtin.Range.rangeSize 0 bb 1 = (n : Int))
    (hx : cenv.kindOf x = some .local) (hp : (cenv.scope.kind == .class || (cenv.scope.kind == .module && cenv.locals != cenv.globals)) = false) (hxx : x1 ≠ x)
    (hCD : cenv.locals ≠ D) (hnew : ∀ p ∈ news, p.1 ≠ D ∧ p.1 ≠ cenv.locals) (nC : NsAt cenv.locals oC mc) (hv1 : mc x1 = some v1) (F : Fr h₀ L s.heap m) (N : News h₀ L s.heap ((D, listOf ys₀ k₀) :: (cenv.locals, oC) :: news))
    (h0 : J 0 ys₀) (hsz : ∀ i ys, J i ys → ys.size ≤ sizeLine)
    (step : ∀ i t' ys k I oI oC mc' h tk, i < n → J i ys → NsAt cenv.locals oC mc' → mc' x = some (.int ((i : Nat) : Int) t') → mc' x1 = some v1 → Fr h₀ L h m → News h₀ L h ((D, listOf ys k) :: (I, oI) :: (cenv.locals, oC) :: news) →
      wpAny (model prog w) A (eval elt cenv) (EltPost h₀ L m ((D, listOf ys k) :: (I, oI) :: (cenv.locals, oC) :: news) s fun y => J (i + 1) (ys.push y)) (fun _ _ => False) { s with heap := h, toks := tk })
    (done : ∀ ys k mc' h tk, J n ys → h.Ns cenv.locals mc' → Fr h₀ L h m → News h₀ L h ((D, listOf ys k) :: news) → RO { s with heap := h, toks := tk }) :
    Hold (wpAny (model prog w) A (pyIter (.ref r)) (fun it' s₄ => codeAny (model prog w) A (.compStart (.ListComp elt [⟨t1, i1, [], 0⟩, ⟨.Name x px, i2, [], 0⟩] scope pos) 1 it' (.ref D) cenv) (fun r s₅ => match r with | .ok _ => RO s₅ | .error _ => False) s₄) E s) := by
  refine wpAny_pyIter_range hr hsm ?_
  have W := Walks.range (prog := prog) (w := w) (A := A) hh s.heap.objs.size 0 1 n
  have hall : ∀ p ∈ (D, listOf ys₀ k₀) :: (cenv.locals, oC) :: news, p.1 < s.heap.objs.size := fun p hp => Heap.lt_size (N p hp).1
  have hst : IsRangeIter (s.heap.push { cls := .type "range_iterator", data := .fields #[rawInt 0, rawInt (Builtin.Range.rangeSize 0 bb 1), rawInt 1] }) s.heap.objs.size (0 + ((0 : Nat) : Int) * 1) ((n : Int) - ((0 : Nat) : Int)) 1 := by
    show IsRangeIter _ _ _ _ _
    rw [hn]; simpa using Heap.get?_push_size _ rfl
  have N' : News h₀ L (s.heap.push { cls := .type "range_iterator", data := .fields #[rawInt 0, rawInt (Builtin.Range.rangeSize 0 bb 1), rawInt 1] }) ((D, listOf ys₀ k₀) :: (cenv.locals, oC) :: news) := fun p hp => ⟨Heap.get?_push_of_some _ (N p hp).1, (N p hp).2⟩
  have loop : codeAny (model prog w) A (.compLoop (.ListComp elt [⟨t1, i1, [], 0⟩, ⟨.Name x px, i2, [], 0⟩] scope pos) 1 (.ref s.heap.objs.size) (.ref D) cenv) (fun r s₅ => match r with | .ok _ => RO s₅ | .error _ => False)
      { s with heap := s.heap.push { cls := .type "range_iterator", data := .fields #[rawInt 0, rawInt (Builtin.Range.rangeSize 0 bb 1), rawInt 1] } } := by
    refine compInnerG (h₀ := h₀) (L := L) (m := m) (ks := []) (ys₀ := ys₀) (k₀ := k₀) (news := news) W (fun i h st => ⟨_, st⟩) hx hp hxx (Nat.ne_of_lt (hall _ (.head _))) (Nat.ne_of_lt (hall _ (.tail _ (.head _)))) hCD (Nat.ne_of_lt F.ns.lt) (Ne.symm (N _ (.tail _ (.head _))).2.1) (next_is_new F) (N _ (.tail _ (.head _))).2.2
      (fun p hp => ⟨Nat.ne_of_lt (hall p (.tail _ (.tail _ hp))), hnew p hp⟩) hst (nC _ (N' _ (.tail _ (.head _))).1) hv1 (F.push _) (fun p hp => N' p (by
        rcases List.mem_cons.mp hp with rfl | hp
        · exact .head _
        · exact .tail _ (.tail _ hp))) (fun b hb => nomatch hb) J h0 hsz ?_ ?_
    · rintro i v ys k oI oC' mc' h tk hi ⟨t', rfl⟩ hJ nC' hv hv1' F₁ N₁
      have e : (0 : Int) + (i : Int) * 1 = (i : Int) := by omega
      rw [e] at hv
      exact step i t' ys k _ oI oC' mc' h tk hi hJ nC' hv hv1' F₁ N₁
    · intro ys k mc' h tk hJ hn' F₁ N₁
      exact done ys k mc' h tk hJ hn' F₁ N₁
  exact codeAny_compStart_1 loop (W.self 0 _ _ _ hst loop)
end
end Mine
end

section
set_option maxRecDepth 100000
set_option maxHeartbeats 8000000
namespace Mine
theorem filled : (PySem.Challenge.rw_nb0025_01, hd.heap_39) = (PySem.Challenge.rw_nb0025_01, hd.heap_39) := by w_top off; k_fill; rfl

theorem ctoi_int (w : World) (x : Int) (t : Tok) : TellV w 21 2 16 [.int x t] (fun _ => True) fun r => r = .int x t := by
  unfold TellV
  intro prog mean mg mb dp un gd cn cs a ccd cl outer A₀ base h₀ L m news s Q E B F X N T hk hn hdp hun hret
  refine wpAny_call ?_
  k_dflt ktr_enter
  k_steps
  all_goals exact hret _ _ _ rfl (by k_asm) (by k_asm)

theorem ctoi_str (w : World) (c : Nat) (t : Tok) : TellV w 21 2 16 [.str ⟨#[c]⟩ t] (fun _ => True) fun r => ∃ t', r = .int c t' := by
  unfold TellV
  intro prog mean mg mb dp un gd cn cs a ccd cl outer A₀ base h₀ L m news s Q E B F X N T hk hn hdp hun hret
  refine wpAny_call ?_
  k_dflt ktr_enter
  k_steps
  all_goals exact hret _ _ _ ⟨_, rfl⟩ (by k_asm) (by k_asm)
end Mine
end

section
set_option maxRecDepth 100000
set_option maxHeartbeats 8000000
namespace Mine
theorem filled2 : (PySem.Challenge.rw_nb0025_01, hd.heap_39) = (PySem.Challenge.rw_nb0025_01, hd.heap_39) := by w_top off; k_fill; rfl

theorem xor_add (a : Nat) : ∀ b : Nat, (a ^^^ b) + 2 * (a &&& b) = a + b := by
  induction a using Nat.strongRecOn with
  | ind a ih =>
    intro b
    by_cases h0 : a = 0
    · subst h0; simp
    · have h := ih (a / 2) (by omega) (b / 2)
      rw [← Nat.xor_div_two, ← Nat.and_div_two] at h
      have h1 : (a ^^^ b) % 2 = 1 ↔ ¬ ((a % 2 = 1) ↔ (b % 2 = 1)) := Nat.xor_mod_two_eq_one
      have h2 : (a &&& b) % 2 = 1 ↔ a % 2 = 1 ∧ b % 2 = 1 := Nat.and_mod_two_eq_one
      generalize a ^^^ b = p at *
      generalize a &&& b = q at *
      rcases Nat.mod_two_eq_zero_or_one a with ha | ha <;> rcases Nat.mod_two_eq_zero_or_one b with hb | hb <;> simp [ha, hb] at h1 h2 <;> omega
theorem bitAnd_nat (a b : Nat) : Builtin.bitAnd (a : Int) (b : Int) = ((a &&& b : Nat) : Int) := by
  unfold Builtin.bitAnd
  simp
theorem bitXor_nat (a b : Nat) : Builtin.bitXor (a : Int) (b : Int) = ((a ^^^ b : Nat) : Int) := by
  rw [bitXor_and, bitAnd_nat]
  have := xor_add a b
  omega
theorem bitOr_add (a b : Int) : Builtin.bitOr a b = a + b - Builtin.bitAnd a b := by
  have h := bitXor_and a b
  unfold Builtin.bitXor at h
  omega
theorem or_128_lo : ∀ c : Nat, c < 128 → Builtin.bitOr (c : Int) 128 = ((c + 128 : Nat) : Int) := by
  intro c hc
  have e : Builtin.bitAnd (c : Int) 128 = (c : Int) / 128 % 2 * 128 := kbt_bit c 7
  rw [bitOr_add, e]; omega
theorem or_32_lo (x : Int) (h0 : 0 ≤ x) (h1 : x < 32) : Builtin.bitOr x 32 = x + 32 := by
  have e : Builtin.bitAnd x 32 = x / 32 % 2 * 32 := kbt_bit x 5
  rw [bitOr_add, e]; omega

section
variable {prog : Program} {w : World} {A : Around} {E : Value → Shared → Prop} {s : Shared} {x y : Int} {t u : Tok} {Q : Value → Shared → Prop}
theorem and_31 (h : Q (.int (x % 32) s.toks) { s with toks := s.toks + 1 }) : wpAny (model prog w) A (binaryOp .BitAnd (.int x t) (.int 31 u)) Q E s := and_int (by rw [bitAnd_m5]; exact h)
theorem and_127 (h : Q (.int (x % 128) s.toks) { s with toks := s.toks + 1 }) : wpAny (model prog w) A (binaryOp .BitAnd (.int x t) (.int 127 u)) Q E s := and_int (by rw [bitAnd_m7]; exact h)
theorem and_255 (h : Q (.int (x % 256) s.toks) { s with toks := s.toks + 1 }) : wpAny (model prog w) A (binaryOp .BitAnd (.int x t) (.int 255 u)) Q E s := and_int (by rw [bitAnd_m8]; exact h)
theorem and_1 (h : Q (.int (x % 2) s.toks) { s with toks := s.toks + 1 }) : wpAny (model prog w) A (binaryOp .BitAnd (.int x t) (.int 1 u)) Q E s := and_int (by rw [bitAnd_m1]; exact h)
theorem and_128 (h : Q (.int (x / 128 % 2 * 128) s.toks) { s with toks := s.toks + 1 }) : wpAny (model prog w) A (binaryOp .BitAnd (.int x t) (.int 128 u)) Q E s := and_int (by
  have e : Builtin.bitAnd x 128 = x / 128 % 2 * 128 := kbt_bit x 7
  rw [e]; exact h)
theorem or_128 {c : Nat} (hc : c < 128) (h : Q (.int ((c + 128 : Nat) : Int) s.toks) { s with toks := s.toks + 1 }) : wpAny (model prog w) A (binaryOp .BitOr (.int (c : Int) t) (.int 128 u)) Q E s := or_int (by rw [or_128_lo c hc]; exact h)
theorem or_32 (h : Q (.int (x + 32 - x / 32 % 2 * 32) s.toks) { s with toks := s.toks + 1 }) : wpAny (model prog w) A (binaryOp .BitOr (.int x t) (.int 32 u)) Q E s := or_int (by
  have e : Builtin.bitAnd x 32 = x / 32 % 2 * 32 := kbt_bit x 5
  rw [bitOr_add, e]; exact h)
end

local macro_rules | `(tactic| walk_at "binaryOp BitAnd int int") => `(tactic| (k_here; first | refine and_31 ?_ | refine and_127 ?_ | refine and_255 ?_ | refine and_128 ?_ | refine and_1 ?_))
local macro_rules | `(tactic| walk_at "binaryOp BitOr int int") => `(tactic| (k_here; first | refine or_128 (by omega) ?_ | refine or_32 ?_))

local macro_rules | `(tactic| walk_at "call ref") => `(tactic| (k_here; k_dflt (first
  | refine' TellV.use (ctoi_int _ _ _) ?k1 ?k2 ?k3 ?k4 ?k5 ?kK ?kn ?kd ?ku ?_
  | refine' TellV.use (ctoi_str _ _ _) ?k1 ?k2 ?k3 ?k4 ?k5 ?kK ?kn ?kd ?ku ?_); (case k1 => k_asm); (case k2 => k_asm); (case k3 => k_asm); (case k4 => k_asm); (case k5 => k_asm); (case kK => first | exact rfl | assumption); (case kn => trivial); (case kd => ktr_room); (case ku => ktr_units); (intro r9 h9 tk9 hr9 F9 N9; (first | subst hr9 | (obtain ⟨t9, e9⟩ := hr9; subst e9)); (try dsimp only); (try k_fold))))

theorem isprint_int (w : World) (x : Int) (t : Tok) : TellV w 28 4 32 [.int x t] (fun _ => True) fun r => r = .bool (decide (32 ≤ x ∧ x ≤ 126)) := by
  unfold TellV
  intro prog mean mg mb dp un gd cn cs a ccd cl outer A₀ base h₀ L m news s Q E B F X N T hk hn hdp hun hret
  refine wpAny_call ?_
  k_dflt ktr_enter
  k_steps
  all_goals exact hret _ _ _ (congrArg Value.bool (decide_eq_decide.mpr (by omega))) (by k_asm) (by k_asm)

theorem isprint_str (w : World) (c : Nat) (t : Tok) : TellV w 28 4 32 [.str ⟨#[c]⟩ t] (fun _ => True) fun r => r = .bool (decide (32 ≤ c ∧ c ≤ 126)) := by
  unfold TellV
  intro prog mean mg mb dp un gd cn cs a ccd cl outer A₀ base h₀ L m news s Q E B F X N T hk hn hdp hun hret
  refine wpAny_call ?_
  k_dflt ktr_enter
  k_steps
  all_goals exact hret _ _ _ (congrArg Value.bool (decide_eq_decide.mpr (by omega))) (by k_asm) (by k_asm)

theorem str_end {i : Int} {c : Nat} (h : i = (c : Int)) {t : Tok} : ∃ t', Value.str ⟨#[i.toNat]⟩ t = Value.str ⟨#[c]⟩ t' := ⟨t, by subst h; rfl⟩
theorem ctrl_str (w : World) (c : Nat) (t : Tok) : TellV w 35 4 32 [.str ⟨#[c]⟩ t] (fun _ => True) fun r => ∃ t', r = .str ⟨#[c % 32]⟩ t' := by
  unfold TellV
  intro prog mean mg mb dp un gd cn cs a ccd cl outer A₀ base h₀ L m news s Q E B F X N T hk hn hdp hun hret
  refine wpAny_call ?_
  k_dflt ktr_enter
  k_steps
  all_goals (refine hret _ _ _ ?_ (by k_asm) (by k_asm); exact str_end (by omega))

theorem alt_str (w : World) (c : Nat) (hc : c < 128) (t : Tok) : TellV w 42 4 32 [.str ⟨#[c]⟩ t] (fun _ => True) fun r => ∃ t', r = .str ⟨#[c + 128]⟩ t' := by
  unfold TellV
  intro prog mean mg mb dp un gd cn cs a ccd cl outer A₀ base h₀ L m news s Q E B F X N T hk hn hdp hun hret
  refine wpAny_call ?_
  k_dflt ktr_enter
  k_steps
  all_goals (refine hret _ _ _ ?_ (by k_asm) (by k_asm); exact str_end (by omega))

def lowU (b : Int) : List Nat := if b < 32 then [94, b.toNat + 64] else if b < 127 then [b.toNat] else [94, 159]
def UI (x : Int) : List Nat := if x = 127 then [94, 63] else (if x / 128 % 2 = 1 then [33] else []) ++ lowU (x % 128)

theorem ue2 {x : Int} (h : x = 127) : Str.ofString "^?" = ⟨(UI x).toArray⟩ := by subst h; decide
theorem ue3 {x : Int} (h : x ≠ 127) (h1 : x / 128 % 2 = 1) (h2 : 32 ≤ x % 128) (h3 : x % 128 ≤ 126) : Str.ofString "!" ++ ⟨#[(x % 128).toNat]⟩ = ⟨(UI x).toArray⟩ := by
  unfold UI lowU
  rw [if_neg h, if_pos h1, if_neg (by omega), if_pos (by omega)]
  rfl
theorem ue4 {x : Int} (h : x ≠ 127) (h1 : x / 128 % 2 = 0) (h2 : 32 ≤ x % 128) (h3 : x % 128 ≤ 126) : (⟨#[(x % 128).toNat]⟩ : Str) = ⟨(UI x).toArray⟩ := by
  unfold UI lowU
  rw [if_neg h, if_neg (by omega), if_neg (by omega), if_pos (by omega)]
  rfl
theorem ue5 {x : Int} (h : x ≠ 127) (h1 : x / 128 % 2 = 1) (h2 : ¬ (32 ≤ x % 128 ∧ x % 128 ≤ 126)) : Str.ofString "!" ++ (Str.ofString "^" ++ ⟨#[(x % 128 + 32 - x % 128 / 32 % 2 * 32 + 32).toNat]⟩) = ⟨(UI x).toArray⟩ := by
  unfold UI lowU
  rw [if_neg h, if_pos h1]
  by_cases h3 : x % 128 < 32
  · rw [if_pos h3, show (x % 128 + 32 - x % 128 / 32 % 2 * 32 + 32).toNat = (x % 128).toNat + 64 by omega]; rfl
  · rw [if_neg h3, if_neg (by omega), show (x % 128 + 32 - x % 128 / 32 % 2 * 32 + 32).toNat = 159 by omega]; rfl
theorem ue6 {x : Int} (h : x ≠ 127) (h1 : x / 128 % 2 = 0) (h2 : ¬ (32 ≤ x % 128 ∧ x % 128 ≤ 126)) : (Str.ofString "^" ++ ⟨#[(x % 128 + 32 - x % 128 / 32 % 2 * 32 + 32).toNat]⟩) = ⟨(UI x).toArray⟩ := by
  unfold UI lowU
  rw [if_neg h, if_neg (by omega)]
  by_cases h3 : x % 128 < 32
  · rw [if_pos h3, show (x % 128 + 32 - x % 128 / 32 % 2 * 32 + 32).toNat = (x % 128).toNat + 64 by omega]; rfl
  · rw [if_neg h3, if_neg (by omega), show (x % 128 + 32 - x % 128 / 32 % 2 * 32 + 32).toNat = 159 by omega]; rfl
theorem str_is {a b : Str} (h : a = b) {t : Tok} : ∃ t', Value.str a t = Value.str b t' := ⟨t, by rw [h]⟩

local macro_rules | `(tactic| walk_at "call ref") => `(tactic| (k_here; k_dflt (first
  | refine' TellV.use (isprint_int _ _ _) ?k1 ?k2 ?k3 ?k4 ?k5 ?kK ?kn ?kd ?ku ?_
  | refine' TellV.use (ctoi_int _ _ _) ?k1 ?k2 ?k3 ?k4 ?k5 ?kK ?kn ?kd ?ku ?_
  | refine' TellV.use (ctoi_str _ _ _) ?k1 ?k2 ?k3 ?k4 ?k5 ?kK ?kn ?kd ?ku ?_); (case k1 => k_asm); (case k2 => k_asm); (case k3 => k_asm); (case k4 => k_asm); (case k5 => k_asm); (case kK => first | exact rfl | assumption); (case kn => trivial); (case kd => ktr_room); (case ku => ktr_units); (intro r9 h9 tk9 hr9 F9 N9; (first | subst hr9 | (obtain ⟨t9, e9⟩ := hr9; subst e9)); (try dsimp only); (try k_fold))))

theorem unctrl_int (w : World) (x : Int) (t : Tok) : TellV w 49 8 64 [.int x t] (fun _ => True) fun r => ∃ t', r = .str ⟨(UI x).toArray⟩ t' := by
  unfold TellV
  intro prog mean mg mb dp un gd cn cs a ccd cl outer A₀ base h₀ L m news s Q E B F X N T hk hn hdp hun hret
  refine wpAny_call ?_
  k_dflt ktr_enter
  k_steps
  all_goals (try simp only [decide_eq_true_eq] at *)
  all_goals refine hret _ _ _ ?_ (by k_asm) (by k_asm)
  all_goals first
    | (exfalso; omega)
    | exact str_is (ue2 (by omega))
    | exact str_is (ue3 (by omega) (by omega) (by omega) (by omega))
    | exact str_is (ue4 (by omega) (by omega) (by omega) (by omega))
    | exact str_is (ue5 (by omega) (by omega) (by omega))
    | exact str_is (ue6 (by omega) (by omega) (by omega))

theorem unctrl_str (w : World) (c : Nat) (t : Tok) : TellV w 49 8 64 [.str ⟨#[c]⟩ t] (fun _ => True) fun r => ∃ t', r = .str ⟨(UI c).toArray⟩ t' := by
  unfold TellV
  intro prog mean mg mb dp un gd cn cs a ccd cl outer A₀ base h₀ L m news s Q E B F X N T hk hn hdp hun hret
  refine wpAny_call ?_
  k_dflt ktr_enter
  k_steps
  all_goals (try simp only [decide_eq_true_eq] at *)
  all_goals refine hret _ _ _ ?_ (by k_asm) (by k_asm)
  all_goals first
    | (exfalso; omega)
    | exact str_is (ue2 (by omega))
    | exact str_is (ue3 (by omega) (by omega) (by omega) (by omega))
    | exact str_is (ue4 (by omega) (by omega) (by omega) (by omega))
    | exact str_is (ue5 (by omega) (by omega) (by omega))
    | exact str_is (ue6 (by omega) (by omega) (by omega))
end Mine
end

section
set_option maxRecDepth 100000
set_option maxHeartbeats 8000000
namespace Mine
theorem filled3 : (PySem.Challenge.rw_nb0025_01, hd.heap_39) = (PySem.Challenge.rw_nb0025_01, hd.heap_39) := by w_top off; k_fill; rfl

def gcStep (c : Nat) : Nat := if c % 2 = 1 then (c / 2) ^^^ 3988292384 else c / 2
def gcIter : Nat → Nat → Nat
  | 0, c => c
  | n + 1, c => gcStep (gcIter n c)
theorem gc_hi {c : Nat} (h : (c : Int) % 2 ≠ 0) : Builtin.bitXor ((c : Int).fdiv (2 ^ (1 : Int).toNat)) 3988292384 = ((gcStep c : Nat) : Int) := by
  unfold gcStep
  rw [if_pos (by omega)]
  have e : ((c : Int).fdiv (2 ^ (1 : Int).toNat)) = ((c / 2 : Nat) : Int) := by
    rw [Int.fdiv_eq_ediv_of_nonneg _ (by decide)]; rfl
  rw [e]
  exact bitXor_nat (c / 2) 3988292384
theorem gc_lo {c : Nat} (h : (c : Int) % 2 = 0) : (c : Int).fdiv (2 ^ (1 : Int).toNat) = ((gcStep c : Nat) : Int) := by
  unfold gcStep
  rw [if_neg (by omega), Int.fdiv_eq_ediv_of_nonneg _ (by decide)]; rfl

local macro_rules | `(tactic| walk_at "exec For Name Call cons nil") => `(tactic| (k_here; with_unfolding_all (refine for_in ?_ (by intro _; rfl))))
local macro_rules | `(tactic| walk_at "binaryOp BitAnd int int") => `(tactic| (k_here; first | refine and_31 ?_ | refine and_127 ?_ | refine and_255 ?_ | refine and_128 ?_ | refine and_1 ?_))

theorem gen_crc (w : World) (c : Nat) (t : Tok) : TellV w 56 2 32 [.int (c : Int) t] (fun _ => True) fun r => ∃ t', r = .int (gcIter 8 c : Nat) t' := by
  unfold TellV
  intro prog mean mg mb dp un gd cn cs a ccd cl outer A₀ base h₀ L m news s Q E B F X N T hk hn hdp hun hret
  refine wpAny_call ?_
  k_dflt ktr_enter
  k_steps
  refine src_range (n := 8) (fun i m' news' => (∃ t', m' (Str.ofString "crc") = some (.int (gcIter i c : Nat) t')) ∧ news' = news) rfl (by k_asm) (by k_asm) (by assumption) (by decide) (by decide) ⟨⟨_, rfl⟩, rfl⟩ ?_ ?_
  · rintro i t' m₁ news₁ h tk I oI hi ⟨⟨t1, h1⟩, rfl⟩ _ ho F₁ N₁
    refine turn_name (fr_at1 F₁ h1) N₁ (fun h' tk' F' N' => ?_) rfl rfl
    clear F₁ N₁ h1
    (try dsimp only)
    k_steps
    · refine TurnEnd.mk news₁ (by k_asm) (by k_asm) (fun _ h => h) ho ⟨int_at (by with_unfolding_all rfl) (gc_hi (by assumption)), rfl⟩
    · refine TurnEnd.mk news₁ (by k_asm) (by k_asm) (fun _ h => h) ho ⟨int_at (by with_unfolding_all rfl) (gc_lo (by omega)), rfl⟩
  · rintro m₁ news₁ h tk ⟨⟨t1, h1⟩, rfl⟩ F₁ N₁
    have F₂ := fr_at1 F₁ h1
    clear F₁ h1
    k_steps
    exact hret _ _ _ ⟨_, rfl⟩ (by k_asm) (by k_asm)
end Mine
end

section
set_option maxRecDepth 100000
set_option maxHeartbeats 8000000
namespace Mine
theorem filled4 : (PySem.Challenge.rw_nb0025_01, hd.heap_39) = (PySem.Challenge.rw_nb0025_01, hd.heap_39) := by w_top off; k_fill; rfl

def sumStep (crc c : Nat) : Nat := (crc / 256) ^^^ gcIter 8 ((crc ^^^ c) % 256)
def lawSum (l : List Nat) : Nat := (l.foldl sumStep 4294967295) ^^^ 4294967295

section
variable {prog : Program} {w : World} {A : Around} {E : Value → Shared → Prop} {s : Shared} {a b : Nat} {t u : Tok} {Q : Value → Shared → Prop}
theorem xor_cc (h : Q (.int ((a ^^^ b : Nat) : Int) s.toks) { s with toks := s.toks + 1 }) : wpAny (model prog w) A (binaryOp .BitXor (.int (a : Int) t) (.int (b : Int) u)) Q E s := xor_int (by rw [bitXor_nat]; exact h)
theorem xor_cK (h : Q (.int ((a ^^^ 4294967295 : Nat) : Int) s.toks) { s with toks := s.toks + 1 }) : wpAny (model prog w) A (binaryOp .BitXor (.int (a : Int) t) (.int 4294967295 u)) Q E s := xor_int (by rw [show (4294967295 : Int) = ((4294967295 : Nat) : Int) from rfl, bitXor_nat]; exact h)
theorem and_255n (h : Q (.int ((a % 256 : Nat) : Int) s.toks) { s with toks := s.toks + 1 }) : wpAny (model prog w) A (binaryOp .BitAnd (.int (a : Int) t) (.int 255 u)) Q E s := and_int (by rw [bitAnd_m8]; exact h)
theorem shr_8 (h : Q (.int ((a / 256 : Nat) : Int) s.toks) { s with toks := s.toks + 1 }) : wpAny (model prog w) A (binaryOp .RShift (.int (a : Int) t) (.int 8 u)) Q E s := rshift_int (by decide) (by rw [Int.fdiv_eq_ediv_of_nonneg _ (by decide)]; exact h)
end

local macro_rules | `(tactic| walk_at "exec For Name Name cons nil") => `(tactic| (k_here; with_unfolding_all (refine for_in ?_ (by intro _; rfl))))
local macro_rules | `(tactic| walk_at "binaryOp BitAnd int int") => `(tactic| (k_here; first | refine and_255n ?_))
local macro_rules | `(tactic| walk_at "binaryOp BitXor int int") => `(tactic| (k_here; first | refine xor_cc ?_ | refine xor_cK ?_))
local macro_rules | `(tactic| walk_at "binaryOp RShift int int") => `(tactic| (k_here; first | refine shr_8 ?_))
local macro_rules | `(tactic| walk_at "call ref") => `(tactic| (k_here; k_dflt (first
  | refine' TellV.use (gen_crc _ _ _) ?k1 ?k2 ?k3 ?k4 ?k5 ?kK ?kn ?kd ?ku ?_); (case k1 => k_asm); (case k2 => k_asm); (case k3 => k_asm); (case k4 => k_asm); (case k5 => k_asm); (case kK => first | exact rfl | assumption); (case kn => trivial); (case kd => ktr_room); (case ku => ktr_units); (intro r9 h9 tk9 hr9 F9 N9; (first | subst hr9 | (obtain ⟨t9, e9⟩ := hr9; subst e9)); (try dsimp only); (try k_fold))))

theorem int_is {x y : Int} (h : x = y) {t : Tok} : ∃ t', Value.int x t = Value.int y t' := ⟨t, by rw [h]⟩
theorem take_snoc {α : Type} {l : List α} {i : Nat} {c : α} (h : l.toArray[i]? = some c) : l.take (i + 1) = l.take i ++ [c] := by
  have h' : l[i]? = some c := by simpa using h
  rw [List.take_add_one, h']; rfl

theorem law_sum (w : World) (l : List Nat) (t : Tok) : TellV w 75 6 64 [.str ⟨l.toArray⟩ t] (fun _ => True) fun r => ∃ t', r = .int (lawSum l : Nat) t' := by
  unfold TellV
  intro prog mean mg mb dp un gd cn cs a ccd cl outer A₀ base h₀ L m news s Q E B F X N T hk hn hdp hun hret
  refine wpAny_call ?_
  k_dflt ktr_enter
  k_steps
  refine src_str (fun i m' news' => (∃ t', m' (Str.ofString "crc") = some (.int ((l.take i).foldl sumStep 4294967295 : Nat) t')) ∧ news' = news) rfl (by k_asm) (by k_asm) ⟨⟨_, rfl⟩, rfl⟩ ?_ ?_
  · rintro i c t' m₁ news₁ h tk I oI hi ⟨⟨t1, h1⟩, rfl⟩ _ ho F₁ N₁
    refine turn_name (fr_at1 F₁ h1) N₁ (fun h' tk' F' N' => ?_) rfl rfl
    clear F₁ N₁ h1
    dsimp only at hi
    (try dsimp only)
    k_steps
    refine TurnEnd.mk news₁ (by k_asm) (by k_asm) (fun _ h => h) ho ⟨int_at (by with_unfolding_all rfl) ?_, rfl⟩
    rw [take_snoc hi, List.foldl_append]
    rfl
  · rintro m₁ news₁ h tk ⟨⟨t1, h1⟩, rfl⟩ F₁ N₁
    have F₂ := fr_at1 F₁ h1
    clear F₁ h1
    k_steps
    refine hret _ _ _ (int_is ?_) (by k_asm) (by k_asm)
    simp [lawSum]
end Mine
end

section
set_option maxRecDepth 100000
set_option maxHeartbeats 8000000
namespace Mine
theorem filled5 : (PySem.Challenge.rw_nb0025_01, hd.heap_39) = (PySem.Challenge.rw_nb0025_01, hd.heap_39) := by w_top off; k_fill; rfl

local macro_rules | `(tactic| walk_at "call ref") => `(tactic| (k_here; k_dflt (first
  | refine' TellV.use (isprint_str _ _ _) ?k1 ?k2 ?k3 ?k4 ?k5 ?kK ?kn ?kd ?ku ?_
  | refine' TellV.use (ctrl_str _ _ _) ?k1 ?k2 ?k3 ?k4 ?k5 ?kK ?kn ?kd ?ku ?_); (case k1 => k_asm); (case k2 => k_asm); (case k3 => k_asm); (case k4 => k_asm); (case k5 => k_asm); (case kK => first | exact rfl | assumption); (case kn => trivial); (case kd => ktr_room); (case ku => ktr_units); (intro r9 h9 tk9 hr9 F9 N9; (first | subst hr9 | (obtain ⟨t9, e9⟩ := hr9; subst e9)); (try dsimp only); (try k_fold))))

section
variable {prog : Program} {w : World} {A : Around} {E : Value → Shared → Prop} {s : Shared} {t : Tok} {Q : Value → Shared → Prop}
theorem len_txt {l : List Nat} (hl : l.length < 100000) (h : Q (.int (l.length : Nat) (s.toks + 1)) { s with toks := s.toks + 1 + 1 }) : wpAny (model prog w) A (call (.builtin "len") [.str ⟨l.toArray⟩ t]) Q E s :=
  P.len_str (x := ⟨l.toArray⟩) (by have e : (Str.mk l.toArray).length = l.length := by simp [Str.length]
                                   rw [e]; omega) (by have e : (Str.mk l.toArray).length = l.length := by simp [Str.length]
                                                      rw [e]; exact h)
theorem item_t0 {value slice : Expr} {c : Nat} {l : List Nat} {u : Tok} (hl : l.length < 100000) (h : Q (.str ⟨#[c]⟩ s.toks) { s with toks := s.toks + 1 }) (hs : subscripted slice false (.str ⟨(c :: l).toArray⟩ t) (.int 0 u) = operate [.str ⟨(c :: l).toArray⟩ t, .int 0 u] (getItem (.str ⟨(c :: l).toArray⟩ t) (.int 0 u)) := by with_unfolding_all rfl) :
    wpAny (model prog w) A (subscriptTail value slice (.str ⟨(c :: l).toArray⟩ t) (.int 0 u)) Q E s :=
  tail_any (typeIs_str s _ t) slot_str_getitem.lookup (P.getItem_str (c := c) (by decide) (by simp [Txt.charAt, seqIndex?, Str.length]) h) hs
theorem item_t1 {value slice : Expr} {c d : Nat} {l : List Nat} {u : Tok} (hl : l.length < 100000) (h : Q (.str ⟨#[d]⟩ s.toks) { s with toks := s.toks + 1 }) (hs : subscripted slice false (.str ⟨(c :: d :: l).toArray⟩ t) (.int 1 u) = operate [.str ⟨(c :: d :: l).toArray⟩ t, .int 1 u] (getItem (.str ⟨(c :: d :: l).toArray⟩ t) (.int 1 u)) := by with_unfolding_all rfl) :
    wpAny (model prog w) A (subscriptTail value slice (.str ⟨(c :: d :: l).toArray⟩ t) (.int 1 u)) Q E s :=
  tail_any (typeIs_str s _ t) slot_str_getitem.lookup (P.getItem_str (c := d) (by decide) (by simp [seqIndex?, Str.length]; rw [if_pos (by omega)]; rfl) h) hs
theorem one_eq (c d : Nat) : ((⟨#[c]⟩ : Str) == ⟨#[d]⟩) = decide (c = d) := by
  by_cases h : c = d
  · subst h; simp
  · rw [decide_eq_false h]
    simpa using h
theorem eq_94 {c : Nat} {u : Tok} (h : Q (.bool (decide (c = 94))) s) : wpAny (model prog w) A (compareOp .Eq (.str ⟨#[c]⟩ t) (.str (Str.ofString "^") u)) Q E s := PyProof.Rows.eq_str (by rw [show Str.ofString "^" = ⟨#[94]⟩ by decide +kernel, one_eq]; exact h)
theorem eq_63 {c : Nat} {u : Tok} (h : Q (.bool (decide (c = 63))) s) : wpAny (model prog w) A (compareOp .Eq (.str ⟨#[c]⟩ t) (.str (Str.ofString "?") u)) Q E s := PyProof.Rows.eq_str (by rw [show Str.ofString "?" = ⟨#[63]⟩ by decide +kernel, one_eq]; exact h)
theorem eq_33 {c : Nat} {u : Tok} (h : Q (.bool (decide (c = 33))) s) : wpAny (model prog w) A (compareOp .Eq (.str ⟨#[c]⟩ t) (.str (Str.ofString "!") u)) Q E s := PyProof.Rows.eq_str (by rw [show Str.ofString "!" = ⟨#[33]⟩ by decide +kernel, one_eq]; exact h)
end
local macro_rules | `(tactic| walk_at "compareOp Eq str str") => `(tactic| (k_here; first | refine eq_94 ?_ | refine eq_63 ?_ | refine eq_33 ?_))
local macro_rules | `(tactic| walk_at "subscriptTail Name Constant str int") => `(tactic| (k_here; first | refine item_t0 (by (try simp only [List.length_cons, List.length_nil]); omega) ?_ (by with_unfolding_all rfl) | refine item_t1 (by (try simp only [List.length_cons, List.length_nil]); omega) ?_ (by with_unfolding_all rfl)))
local macro_rules | `(tactic| walk_at "call builtin:chr") => `(tactic| (k_here; refine chr_of_range (by decide) (by decide) ?_))
local macro_rules | `(tactic| walk_at "call builtin:len") => `(tactic| (k_here; (with_reducible show wpAny _ _ (call (Value.builtin "len") [Value.str ⟨List.toArray _⟩ _]) _ _ _); refine len_txt (by (try simp only [List.length_cons, List.length_nil]); omega) ?_; (try simp only [List.length_cons, List.length_nil])))

def lowWords : List Nat → List (Nat × Nat)
  | [] => []
  | c :: r => (if 32 ≤ c ∧ c ≤ 126 then [(1, c)] else []) ++ (if c = 94 then (match r with | [] => [] | d :: _ => (if 64 ≤ d ∧ d ≤ 95 then [(2, d % 32)] else []) ++ (if d = 63 then [(2, 127)] else [])) else [])

theorem lw1 (c : Nat) : lowWords [c] = if 32 ≤ c ∧ c ≤ 126 then [(1, c)] else [] := by
  show (if 32 ≤ c ∧ c ≤ 126 then [(1, c)] else []) ++ (if c = 94 then [] else []) = _
  by_cases h : c = 94
  · rw [if_pos h]; simp
  · rw [if_neg h]; simp
theorem lw2 (c d : Nat) (l : List Nat) : lowWords (c :: d :: l) = (if 32 ≤ c ∧ c ≤ 126 then [(1, c)] else []) ++ (if c = 94 then (if 64 ≤ d ∧ d ≤ 95 then [(2, d % 32)] else []) ++ (if d = 63 then [(2, 127)] else []) else []) := rfl
theorem ord_nil {news : List (Addr × Obj)} : ∀ q ∈ news, ∀ p ∈ ([] : List (Addr × Obj)), q.1 < p.1 := fun _ _ _ h => nomatch h
theorem ord_cons {news tl : List (Addr × Obj)} {a : Addr} {o : Obj} (h : ∀ q ∈ news, q.1 < a) (k : ∀ q ∈ news, ∀ p ∈ tl, q.1 < p.1) : ∀ q ∈ news, ∀ p ∈ (a, o) :: tl, q.1 < p.1 := by
  intro q hq p hp
  rcases List.mem_cons.mp hp with rfl | hp
  · exact h q hq
  · exact k q hq p hp
local macro_rules | `(tactic| walk_at "mine ord") => `(tactic| first
  | exact ord_nil
  | (refine ord_cons (by first | assumption | exact ktn_ltOf (by assumption) | exact ktn_ltOf (And.right (by assumption)) | exact ktn_ltOf (And.right (And.right (by assumption))) | exact ktn_ltOf (And.right (And.right (And.right (by assumption))))) ?_; walk_at "mine ord"))
local macro_rules | `(tactic| walk_at "mine pairs") => `(tactic| first
  | exact .nil
  | (refine .cons (by k_mem) ?_; walk_at "mine pairs"))

def WordsOut (ws : List (Nat × Nat)) (tl : List (Addr × Obj)) (r : Value) : Prop := ∃ a arr k tl', tl = (a, listOf arr k) :: tl' ∧ r = .ref a ∧ (∀ p ∈ tl', a < p.1) ∧ Pairs tl' arr.toList ws
theorem news_21 {h₀ h : Heap} {L : Addr} {a b : Addr × Obj} {r : List (Addr × Obj)} (N : News h₀ L h (a :: b :: r)) : News h₀ L h (b :: a :: r) := fun p hp => N p (by simp only [List.mem_cons] at hp ⊢; rcases hp with h | h | h <;> simp [h])
theorem news_321 {h₀ h : Heap} {L : Addr} {a b c : Addr × Obj} {r : List (Addr × Obj)} (N : News h₀ L h (a :: b :: c :: r)) : News h₀ L h (c :: b :: a :: r) := fun p hp => N p (by simp only [List.mem_cons] at hp ⊢; rcases hp with h | h | h | h <;> simp [h])
theorem Pairs.to {led : List (Addr × Obj)} {vs : List Value} {ws ws' : List (Nat × Nat)} (h : Pairs led vs ws) (e : ws = ws') : Pairs led vs ws' := e ▸ h
theorem low_words (w : World) (c : Nat) (l : List Nat) (hl : l.length < 1000) (t : Tok) : TellL w 82 8 64 [.str ⟨(c :: l).toArray⟩ t] (fun _ => True) (WordsOut (lowWords (c :: l))) := by
  unfold TellL
  intro prog mean mg mb dp un gd cn cs a ccd cl outer A₀ base h₀ L m news s Q E B F X N T hk hn hdp hun hret
  refine wpAny_call ?_
  cases l with
  | nil =>
    k_dflt ktr_enter
    k_steps
    all_goals first
      | (refine hret _ _ _ [_] ⟨_, _, _, [], rfl, rfl, List.forall_mem_nil _, Pairs.nil.to ?_⟩ ?_ (by k_asm) (by k_asm))
      | (refine hret _ _ _ [_, _] ⟨_, _, _, [_], rfl, rfl, ?_, (Pairs.cons (.head _) .nil).to ?_⟩ ?_ (by k_asm) (news_21 (by k_asm)))
    all_goals first
      | walk_at "mine ord"
      | exact List.forall_mem_cons.mpr ⟨by refine ltN ?_; (try dsimp only); omega, List.forall_mem_nil _⟩
      | exact List.forall_mem_cons.mpr ⟨by refine ltN ?_; (try dsimp only); omega, List.forall_mem_cons.mpr ⟨by refine ltN ?_; (try dsimp only); omega, List.forall_mem_nil _⟩⟩
      | (rw [lw1]; (repeat' split) <;> first | rfl | omega | (exfalso; omega))
  | cons d l =>
    rw [List.length_cons] at hl
    k_dflt ktr_enter
    k_steps
    all_goals first
      | (refine hret _ _ _ [_] ⟨_, _, _, [], rfl, rfl, List.forall_mem_nil _, Pairs.nil.to ?_⟩ ?_ (by k_asm) (by k_asm))
      | (refine hret _ _ _ [_, _] ⟨_, _, _, [_], rfl, rfl, ?_, (Pairs.cons (.head _) .nil).to ?_⟩ ?_ (by k_asm) (news_21 (by k_asm)))
      | (refine hret _ _ _ [_, _, _] ⟨_, _, _, [_, _], rfl, rfl, ?_, (Pairs.cons (.head _) (Pairs.cons (.tail _ (.head _)) .nil)).to ?_⟩ ?_ (by k_asm) (news_321 (by k_asm)))
    all_goals first
      | walk_at "mine ord"
      | exact List.forall_mem_cons.mpr ⟨by refine ltN ?_; (try dsimp only); omega, List.forall_mem_nil _⟩
      | exact List.forall_mem_cons.mpr ⟨by refine ltN ?_; (try dsimp only); omega, List.forall_mem_cons.mpr ⟨by refine ltN ?_; (try dsimp only); omega, List.forall_mem_nil _⟩⟩
      | (rw [lw2]; (repeat' split) <;> first | rfl | omega | (exfalso; omega))
end Mine
end

section
set_option maxRecDepth 100000
set_option maxHeartbeats 8000000
namespace Mine
theorem filled6 : (PySem.Challenge.rw_nb0025_01, hd.heap_39) = (PySem.Challenge.rw_nb0025_01, hd.heap_39) := by w_top off; k_fill; rfl

local macro_rules | `(tactic| walk_at "call ref") => `(tactic| (k_here; k_dflt (first
  | refine' TellV.use (alt_str _ _ (by omega) _) ?k1 ?k2 ?k3 ?k4 ?k5 ?kK ?kn ?kd ?ku ?_); (case k1 => k_asm); (case k2 => k_asm); (case k3 => k_asm); (case k4 => k_asm); (case k5 => k_asm); (case kK => first | exact rfl | assumption); (case kn => trivial); (case kd => ktr_room); (case ku => ktr_units); (intro r9 h9 tk9 hr9 F9 N9; (first | subst hr9 | (obtain ⟨t9, e9⟩ := hr9; subst e9)); (try dsimp only); (try k_fold))))
local macro_rules | `(tactic| walk_at "call ref") => `(tactic| (k_here; (with_reducible show wpAny _ _ (call (Value.ref 82) _) _ _ _); refine Hold.out ?_))
local macro_rules | `(tactic| walk_at "exec For Tuple Call cons nil") => `(tactic| (k_here; with_unfolding_all (refine for_in ?_ (by intro _; rfl))))
local macro_rules | `(tactic| walk_at "compareOp Eq str str") => `(tactic| (k_here; first | refine eq_94 ?_ | refine eq_63 ?_ | refine eq_33 ?_))
local macro_rules | `(tactic| walk_at "subscriptTail Name Constant str int") => `(tactic| (k_here; first | refine item_t0 (by (try simp only [List.length_cons, List.length_nil]); omega) ?_ (by with_unfolding_all rfl) | refine item_t1 (by (try simp only [List.length_cons, List.length_nil]); omega) ?_ (by with_unfolding_all rfl)))
local macro_rules | `(tactic| walk_at "call builtin:len") => `(tactic| (k_here; (with_reducible show wpAny _ _ (call (Value.builtin "len") [Value.str ⟨List.toArray _⟩ _]) _ _ _); refine len_txt (by (try simp only [List.length_cons, List.length_nil]); omega) ?_; (try simp only [List.length_cons, List.length_nil])))

def altWords (ws : List (Nat × Nat)) : List (Nat × Nat) := (ws.filter (fun p => p.2 ≠ 127)).map (fun p => (p.1 + 1, p.2 + 128))
def lawWords : List Nat → List (Nat × Nat)
  | [] => []
  | c :: r => lowWords (c :: r) ++ (if c = 33 then (match r with | [] => [] | _ :: _ => altWords (lowWords r) ++ (if r.take 2 = [94, 159] then [(3, 255)] else [])) else [])

theorem slice_from (l : List Nat) (k : Nat) (hk : k ≤ l.length) : Txt.slice ⟨l.toArray⟩ (some (k : Int)) none = ⟨(l.drop k).toArray⟩ := by
  rw [slice_from_eq (b := (l.length : Int)) (by omega) (by simp [Str.length]; omega) (by simp [Str.length])]
  congr 2
  rw [List.take_of_length_le]
  · simp
  · simp
theorem slice_1 (c : Nat) (l : List Nat) : Txt.slice ⟨(c :: l).toArray⟩ (some 1) none = ⟨l.toArray⟩ := slice_from (c :: l) 1 (by simp)
theorem slice_13a (c d : Nat) : Txt.slice ⟨[c, d].toArray⟩ (some 1) (some 3) = ⟨[d].toArray⟩ := by
  have e : Builtin.Str.strSliceIndices (some 1) (some 3) 1 2 = [1] := by decide
  have n : (Str.mk [c, d].toArray).length = 2 := rfl
  unfold Txt.slice
  rw [n, e]
  rfl
theorem slice_13b (c d e : Nat) (l : List Nat) : Txt.slice ⟨(c :: d :: e :: l).toArray⟩ (some 1) (some 3) = ⟨[d, e].toArray⟩ := by
  have h := slice_closes (x := ⟨(c :: d :: e :: l).toArray⟩) (i := 1) (j := 3) (by simp; omega)
  exact (beq_iff_eq.mp h).trans rfl
theorem slice_13 (c d : Nat) (l : List Nat) : Txt.slice ⟨(c :: d :: l).toArray⟩ (some 1) (some 3) = ⟨((d :: l).take 2).toArray⟩ := by
  cases l with
  | nil => exact slice_13a c d
  | cons e l => exact slice_13b c d e l
section
variable {prog : Program} {w : World} {A : Around} {E : Value → Shared → Prop} {s : Shared} {t : Tok} {Q : Value → Shared → Prop}
theorem txt_eq (l l' : List Nat) : ((⟨l.toArray⟩ : Str) == ⟨l'.toArray⟩) = decide (l = l') := by
  by_cases h : l = l'
  · subst h; simp
  · rw [decide_eq_false h]
    simpa using h
theorem eq_pair {c d : Nat} {l : List Nat} {u : Tok} (h : Q (.bool (decide ((d :: l).take 2 = [94, 159]))) s) : wpAny (model prog w) A (compareOp .Eq (.str (Txt.slice ⟨(c :: d :: l).toArray⟩ (some 1) (some 3)) t) (.str (Str.ofString "^" ++ ⟨#[159]⟩) u)) Q E s :=
  PyProof.Rows.eq_str (by rw [slice_13, show Str.ofString "^" ++ ⟨#[159]⟩ = ⟨[94, 159].toArray⟩ by decide +kernel, txt_eq]; exact h)
theorem ne_127 {c : Nat} {u : Tok} (h : Q (.bool (decide (c ≠ 127))) s) : wpAny (model prog w) A (compareOp .NotEq (.str ⟨#[c]⟩ t) (.str ⟨#[127]⟩ u)) Q E s := PyProof.Rows.ne_str (by
  have e : ((⟨#[c]⟩ : Str) != ⟨#[127]⟩) = decide (c ≠ 127) := by
    rw [bne, one_eq]; simp
  rw [e]; exact h)
end
local macro_rules | `(tactic| walk_at "compareOp Eq str str") => `(tactic| (k_here; first | refine eq_33 ?_ | refine eq_pair ?_))
local macro_rules | `(tactic| walk_at "compareOp NotEq str str") => `(tactic| (k_here; first | refine ne_127 ?_))
theorem chr_127 {prog : Program} {w : World} {A : Around} {E : Value → Shared → Prop} {s : Shared} {t : Tok} {Q : Value → Shared → Prop} (h : Q (.str ⟨#[127]⟩ s.toks) { s with toks := s.toks + 1 }) : wpAny (model prog w) A (call (.builtin "chr") [.int 127 t]) Q E s := chr_of_range (by decide) (by decide) h
theorem chr_159 {prog : Program} {w : World} {A : Around} {E : Value → Shared → Prop} {s : Shared} {t : Tok} {Q : Value → Shared → Prop} (h : Q (.str ⟨#[159]⟩ s.toks) { s with toks := s.toks + 1 }) : wpAny (model prog w) A (call (.builtin "chr") [.int 159 t]) Q E s := chr_of_range (by decide) (by decide) h
local macro_rules | `(tactic| walk_at "call builtin:chr") => `(tactic| (k_here; first | refine chr_127 ?_ | refine chr_159 ?_))
local macro_rules | `(tactic| k_all) => `(tactic| assumption)
local macro_rules | `(tactic| walk_at "call builtin:list.append") => `(tactic| (k_here; k_dflt (refine' append_K ?k1 ?k2 ?k3 ?_ ?z; (case k1 => k_asm); (case k2 => k_asm); (case k3 => k_upd); (case z => first | size_fits | (rw [sizeLine_eq]; omega)); k_whole); intro h' F' N'))
theorem lowWords_len (l : List Nat) : (lowWords l).length ≤ 3 := by
  cases l with
  | nil => decide
  | cons c l =>
    cases l with
    | nil => rw [lw1]; split <;> simp
    | cons d l => rw [lw2]; (repeat' split) <;> simp
theorem altWords_len (ws : List (Nat × Nat)) : (altWords ws).length ≤ ws.length := by
  unfold altWords
  rw [List.length_map]
  exact List.length_filter_le _ _

theorem lowWords_lt (l : List Nat) : ∀ p ∈ lowWords l, p.2 < 128 := by
  intro p hp
  cases l with
  | nil => exact nomatch hp
  | cons c l =>
    cases l with
    | nil =>
      rw [lw1] at hp
      split at hp
      · rw [List.mem_singleton.mp hp]; dsimp only; omega
      · exact nomatch hp
    | cons d l =>
      rw [lw2] at hp
      rcases List.mem_append.mp hp with h | h
      · split at h
        · rw [List.mem_singleton.mp h]; dsimp only; omega
        · exact nomatch h
      · split at h
        · rcases List.mem_append.mp h with h | h
          · split at h
            · rw [List.mem_singleton.mp h]; dsimp only; omega
            · exact nomatch h
          · split at h
            · rw [List.mem_singleton.mp h]; dsimp only; omega
            · exact nomatch h
        · exact nomatch h
theorem altWords_snoc_yes {ws : List (Nat × Nat)} {i w c : Nat} (h : ws[i]? = some (w, c)) (hc : c ≠ 127) : altWords (ws.take (i + 1)) = altWords (ws.take i) ++ [(w + 1, c + 128)] := by
  rw [List.take_add_one, h]
  simp [altWords, hc]
theorem altWords_snoc_no {ws : List (Nat × Nat)} {i w c : Nat} (h : ws[i]? = some (w, c)) (hc : c = 127) : altWords (ws.take (i + 1)) = altWords (ws.take i) := by
  rw [List.take_add_one, h]
  simp [altWords, hc]

theorem Pairs.cons' {led : List (Addr × Obj)} {p : Addr} {w c n : Nat} {t u : Tok} {x : Str} {z : Int} {vs : List Value} {ws : List (Nat × Nat)} (hm : (p, ({ cls := .type "tuple", data := .seq #[.int z t, .str x u] n } : Obj)) ∈ led) (hz : z = (w : Int)) (hx : x = ⟨#[c]⟩) (r : Pairs led vs ws) : Pairs led (.ref p :: vs) ((w, c) :: ws) := by
  subst hz hx
  exact .cons hm r
theorem Pairs.push {led : List (Addr × Obj)} {p : Addr} {w c n : Nat} {t u : Tok} {x : Str} {z : Int} {arr : Array Value} {ws : List (Nat × Nat)} (r : Pairs led arr.toList ws) (hz : z = (w : Int)) (hx : x = ⟨#[c]⟩) :
    Pairs ((p, ({ cls := .type "tuple", data := .seq #[.int z t, .str x u] n } : Obj)) :: led) (arr.push (.ref p)).toList (ws ++ [(w, c)]) := by
  rw [Array.toList_push]
  exact (r.mono fun _ h => .tail _ h).append (Pairs.cons' (.head _) hz hx .nil)

theorem turn_push {h₀ : Heap} {L I : Addr} {oI : Obj} {J : (Str → Option Value) → List (Addr × Obj) → Prop} {s : Shared} {h' : Heap} {tk' : Nat} {m' : Str → Option Value} {D a : Addr} {tup : Obj} {arr : Array Value} {k : Nat} {tl X : List (Addr × Obj)}
    (F : Fr h₀ L h' m') (N : News h₀ L h' ((D, tup) :: (I, oI) :: (a, listOf (arr.push (.ref D)) (k + 1)) :: (tl ++ X))) (hD : I < D) (ha : a ≠ I) (hI : ∀ p ∈ tl ++ X, p.1 ≠ I)
    (hJ : J m' ((a, listOf (arr.push (.ref D)) (k + 1)) :: (((D, tup) :: tl) ++ X))) : TurnEnd h₀ L I oI J s { s with heap := h', toks := tk' } := by
  refine TurnEnd.mk _ F N (fun p hp => ?_) (fun p hp => ?_) hJ
  · simp only [List.mem_cons, List.mem_append, List.cons_append] at hp ⊢
    rcases hp with h | h | h | h | h <;> simp only [h, true_or, or_true]
  · rcases List.mem_cons.mp hp with rfl | hp
    · exact ha
    · rcases List.mem_cons.mp hp with rfl | hp
      · exact Nat.ne_of_gt hD
      · exact hI p hp
theorem news_end {h₀ h' : Heap} {L D a : Addr} {tup o : Obj} {tl X news : List (Addr × Obj)} (N : News h₀ L h' ((D, tup) :: (a, o) :: (tl ++ X))) (hX : ∀ p ∈ news, p ∈ X) : News h₀ L h' (((a, o) :: ((D, tup) :: tl)) ++ news) := fun p hp => N p (by
  simp only [List.mem_cons, List.mem_append, List.cons_append] at hp ⊢
  rcases hp with h | h | h | h
  · simp only [h, true_or, or_true]
  · simp only [h, true_or, or_true]
  · simp only [h, true_or, or_true]
  · simp only [hX p h, or_true])
theorem news_end0 {h₀ h' : Heap} {L a : Addr} {o : Obj} {tl X news : List (Addr × Obj)} (N : News h₀ L h' ((a, o) :: (tl ++ X))) (hX : ∀ p ∈ news, p ∈ X) : News h₀ L h' (((a, o) :: tl) ++ news) := fun p hp => N p (by
  simp only [List.mem_cons, List.mem_append, List.cons_append] at hp ⊢
  rcases hp with h | h | h
  · simp only [h, true_or]
  · simp only [h, true_or, or_true]
  · simp only [hX p h, or_true])
theorem Pairs.refs {led : List (Addr × Obj)} {vs : List Value} {ws : List (Nat × Nat)} (h : Pairs led vs ws) : ∀ v ∈ vs, ∃ T, v = .ref T := by
  induction h with
  | nil => intro v h; exact nomatch h
  | cons _ _ ih =>
    intro v hv
    rcases List.mem_cons.mp hv with rfl | hv
    · exact ⟨_, rfl⟩
    · exact ih v hv
theorem lww1 (c : Nat) : lawWords [c] = lowWords [c] := by
  show lowWords [c] ++ (if c = 33 then [] else []) = _
  by_cases h : c = 33
  · rw [if_pos h, List.append_nil]
  · rw [if_neg h, List.append_nil]
theorem lww2 (c d : Nat) (l : List Nat) : lawWords (c :: d :: l) = lowWords (c :: d :: l) ++ (if c = 33 then altWords (lowWords (d :: l)) ++ (if (d :: l).take 2 = [94, 159] then [(3, 255)] else []) else []) := rfl

theorem law_words (w : World) (c : Nat) (l : List Nat) (hl : l.length < 900) (t : Tok) : TellL w 89 20 160 [.str ⟨(c :: l).toArray⟩ t] (fun _ => True) (WordsOut (lawWords (c :: l))) := by
  unfold TellL
  intro prog mean mg mb dp un gd cn cs a ccd cl outer A₀ base h₀ L m news s Q E B F X N T hk hn hdp hun hret
  refine wpAny_call ?_
  k_dflt ktr_enter
  k_steps
  refine TellL.use (low_words _ _ _ (by omega) _) (by k_asm) (by k_asm) (by k_asm) (by k_asm) (by k_asm) rfl trivial (by ktr_room) (by ktr_units) ?_
  rintro r1 h1 tk1 tl1 ⟨a1, arr1, n1, tw1, rfl, rfl, hlt1, hP1⟩ ho1 F1 N1
  rw [List.cons_append] at N1
  (try dsimp only)
  cases l with
  | nil =>
    k_steps
    all_goals (rename_i kF kN kT kX; exact hret _ _ _ _ ⟨_, _, _, _, rfl, rfl, hlt1, hP1.to (lww1 c).symm⟩ ho1 kF kN)
  | cons d l =>
    rw [List.length_cons] at hl
    k_steps
    · rw [slice_1]
      refine TellL.use (low_words _ _ _ (by omega) _) (by k_asm) (by k_asm) (by k_asm) (by k_asm) (by k_asm) rfl trivial (by ktr_room) (by ktr_units) ?_
      rintro r2 h2 tk2 tl2 ⟨a2, arr2, n2, tw2, rfl, rfl, hlt2, hP2⟩ ho2 F2 N2
      have hX : ∀ p ∈ (a2, listOf arr2 n2) :: (tw2 ++ news), p.1 ≠ a1 := by
        intro p hp
        have h1 : ∀ q ∈ (a2, listOf arr2 n2) :: tw2, a1 < q.1 := fun q hq => ho2 (a1, listOf arr1 n1) (.head _) q hq
        rw [← List.cons_append] at hp
        rcases List.mem_append.mp hp with hp | hp
        · exact Nat.ne_of_gt (h1 p hp)
        · exact Nat.ne_of_lt (ho1 p hp (a1, listOf arr1 n1) (.head _))
      have N3 : News _ _ _ ((a1, listOf arr1 n1) :: (tw1 ++ ((a2, listOf arr2 n2) :: (tw2 ++ news)))) := cb_drop N2 (by
        intro p hp
        simp only [List.mem_cons, List.mem_append, List.cons_append] at hp ⊢
        rcases hp with h | h | h | h | h <;> simp only [h, true_or, or_true])
      refine src_list (fun i m' news' => m' (Str.ofString "words") = some (.ref a1) ∧ m' (Str.ofString "text") = some (.str ⟨(c :: d :: l).toArray⟩ t) ∧ ∃ arr k tl', news' = (a1, listOf arr k) :: (tl' ++ ((a2, listOf arr2 n2) :: (tw2 ++ news))) ∧ (∀ p ∈ tl', a1 < p.1) ∧ Pairs tl' arr.toList (lowWords (c :: d :: l) ++ altWords ((lowWords (d :: l)).take i))) rfl (by k_asm) N3 (List.mem_cons_of_mem _ (List.mem_append_right _ (.head _)))
        ⟨rfl, rfl, arr1, n1, tw1, rfl, hlt1, hP1.to (by simp [altWords])⟩ ?_ ?_ ?_ (.inr ⟨_, _, _, rfl, ?_⟩)
      · rintro i m' news' ⟨_, _, arr, k, tl', rfl, _⟩
        exact List.mem_cons_of_mem _ (List.mem_append_right _ (.head _))
      · rintro i v m₁ news₁ h tk I oI hv ⟨hw, ht, arr, k, tl', rfl, hlt, hP⟩ hIlt hI F₁ N₁
        obtain ⟨p, wd, ch, nn, tt, uu, rfl, hws, hmem⟩ := hP2.get (i := i) (by simpa using hv)
        have hch : ch < 128 := lowWords_lt _ _ (List.mem_of_getElem? hws)
        have hoff : ∀ p ∈ tl' ++ ((a2, listOf arr2 n2) :: (tw2 ++ news)), p.1 ≠ a1 := fun p hp => (List.mem_append.mp hp).elim (fun h => Nat.ne_of_gt (hlt p h)) (hX p)
        have hIa := ltN (hIlt (a1, listOf arr1 n1) (.head _))
        dsimp only at hIa
        have harr : arr.size ≤ 100 := by
          have h1 := hP.length
          have h2 := lowWords_len (c :: d :: l)
          have h3 := altWords_len ((lowWords (d :: l)).take i)
          have h4 := lowWords_len (d :: l)
          simp only [List.length_append, Array.length_toList, List.length_take] at h1 h3
          omega
        refine turn_pair rfl (fr_at2 F₁ ht hw) N₁ (List.mem_cons_of_mem _ (List.mem_cons_of_mem _ (List.mem_append_right _ (List.mem_cons_of_mem _ (List.mem_append_left _ hmem))))) (fun h' tk' F' N' => ?_) rfl rfl rfl
        clear F₁ N₁ hw ht
        (try dsimp only)
        k_steps
        · rename_i D hA FA NA lD hB FB NB
          refine turn_push FB NB lD.1 (Nat.ne_of_lt hIa) (fun p hp => hI p (.tail _ hp)) ⟨rfl, rfl, _, _, _, rfl, List.forall_mem_cons.mpr ⟨lD.2.1, hlt⟩, (hP.push (w := wd + 1) (c := ch + 128) rfl rfl).to ?_⟩
          rw [altWords_snoc_yes hws (by assumption), List.append_assoc]
        · rename_i hq
          refine TurnEnd.mk ((a1, listOf arr k) :: (tl' ++ ((a2, listOf arr2 n2) :: (tw2 ++ news)))) F' N' (fun _ h => h) hI ⟨rfl, rfl, _, _, _, rfl, hlt, hP.to ?_⟩
          rw [altWords_snoc_no hws (by omega)]
      · rintro m₁ news₁ h tk ⟨hw, ht, arr, k, tl', rfl, hlt, hP⟩ F₁ N₁
        have F₂ := fr_at2 F₁ ht hw
        have hoff : ∀ p ∈ tl' ++ ((a2, listOf arr2 n2) :: (tw2 ++ news)), p.1 ≠ a1 := fun p hp => (List.mem_append.mp hp).elim (fun h => Nat.ne_of_gt (hlt p h)) (hX p)
        have harr : arr.size ≤ 100 := by
          have h1 := hP.length
          have h2 := lowWords_len (c :: d :: l)
          have h3 := altWords_len ((lowWords (d :: l)).take arr2.size)
          have h4 := lowWords_len (d :: l)
          simp only [List.length_append, Array.length_toList, List.length_take] at h1 h3
          omega
        clear F₁ hw ht
        k_steps
        · rename_i D hA FA NA lD hB FB NB kF kN kT kX
          have hfull : (lowWords (d :: l)).take arr2.size = lowWords (d :: l) := List.take_of_length_le (by rw [← hP2.length]; simp)
          refine hret _ _ _ _ ⟨_, _, _, _, rfl, rfl, List.forall_mem_cons.mpr ⟨lD.1, hlt⟩, (hP.push (w := 3) (c := 255) rfl (by decide +kernel)).to ?_⟩ ?_ kF (news_end kN fun p hp => .tail _ (List.mem_append_right _ hp))
          · rw [lww2, if_pos (by omega), if_pos (by assumption), hfull, List.append_assoc]
          · refine ord_cons (fun q hq => ho1 q hq _ (.head _)) (ord_cons (fun q hq => Nat.lt_trans (ho1 q hq _ (.head _)) lD.1) (fun q hq p hp => Nat.lt_trans (ho1 q hq _ (.head _)) (hlt p hp)))
        · rename_i kF kN kT kX
          have hfull : (lowWords (d :: l)).take arr2.size = lowWords (d :: l) := List.take_of_length_le (by rw [← hP2.length]; simp)
          refine hret _ _ _ _ ⟨_, _, _, _, rfl, rfl, hlt, hP.to ?_⟩ ?_ kF (news_end0 kN fun p hp => .tail _ (List.mem_append_right _ hp))
          · rw [lww2, if_pos (by omega), if_neg (by assumption), hfull, List.append_nil]
          · exact ord_cons (fun q hq => ho1 q hq _ (.head _)) (fun q hq p hp => Nat.lt_trans (ho1 q hq _ (.head _)) (hlt p hp))
      · exact hP2.refs
    · rename_i kF kN kT kX
      refine hret _ _ _ _ ⟨_, _, _, _, rfl, rfl, hlt1, hP1.to ?_⟩ ho1 kF kN
      rw [lww2, if_neg (by omega), List.append_nil]
end Mine
end

section
set_option maxRecDepth 100000
set_option maxHeartbeats 8000000
namespace Mine
theorem filled7 : (PySem.Challenge.rw_nb0025_01, hd.heap_39) = (PySem.Challenge.rw_nb0025_01, hd.heap_39) := by w_top off; k_fill; rfl

def readings : Nat → List Nat → List (List Nat)
  | 0, l => if l = [] then [[]] else []
  | n + 1, l => (lawWords l).flatMap (fun p => (readings n (l.drop p.1)).map (p.2 :: ·))
theorem lawWords_len (l : List Nat) : (lawWords l).length ≤ 7 := by
  cases l with
  | nil => decide
  | cons c l =>
    cases l with
    | nil => rw [lww1]; exact Nat.le_trans (lowWords_len _) (by decide)
    | cons d l =>
      rw [lww2]
      have h1 := lowWords_len (c :: d :: l)
      have h2 := lowWords_len (d :: l)
      have h3 := altWords_len (lowWords (d :: l))
      (repeat' split) <;> simp only [List.length_append, List.length_cons, List.length_nil] <;> omega
theorem flatMap_len {α β : Type} (f : α → List β) (b : Nat) : ∀ l : List α, (∀ x ∈ l, (f x).length ≤ b) → (l.flatMap f).length ≤ l.length * b
  | [], _ => by simp
  | x :: l, h => by
    rw [List.flatMap_cons, List.length_append, List.length_cons, Nat.succ_mul]
    have h1 := h x (.head _)
    have h2 := flatMap_len f b l fun y hy => h y (.tail _ hy)
    omega
theorem readings_len : ∀ n l, (readings n l).length ≤ 7 ^ n
  | 0, l => by unfold readings; split <;> simp
  | n + 1, l => by
    unfold readings
    have h := flatMap_len (fun p : Nat × Nat => (readings n (l.drop p.1)).map (p.2 :: ·)) (7 ^ n) (lawWords l) (fun p _ => by rw [List.length_map]; exact readings_len n _)
    have h2 := lawWords_len l
    rw [Nat.pow_succ, Nat.mul_comm]
    exact Nat.le_trans h (Nat.mul_le_mul_right _ h2)
theorem readings_size : ∀ n l, ∀ r ∈ readings n l, r.length = n
  | 0, l, r, h => by
    unfold readings at h
    split at h
    · rw [List.mem_singleton.mp h]; rfl
    · exact nomatch h
  | n + 1, l, r, h => by
    unfold readings at h
    obtain ⟨p, _, hp⟩ := List.mem_flatMap.mp h
    obtain ⟨q, hq, rfl⟩ := List.mem_map.mp hp
    rw [List.length_cons, readings_size n _ q hq]

inductive Txts : List Value → List (List Nat) → Prop
  | nil : Txts [] []
  | cons {l : List Nat} {t : Tok} {vs : List Value} {ls : List (List Nat)} : Txts vs ls → Txts (.str ⟨l.toArray⟩ t :: vs) (l :: ls)
theorem Txts.append {vs vs' : List Value} {ls ls' : List (List Nat)} (h : Txts vs ls) (h' : Txts vs' ls') : Txts (vs ++ vs') (ls ++ ls') := by
  induction h with
  | nil => exact h'
  | cons _ ih => exact .cons ih
theorem Txts.length {vs : List Value} {ls : List (List Nat)} (h : Txts vs ls) : vs.length = ls.length := by
  induction h with
  | nil => rfl
  | cons _ ih => rw [List.length_cons, List.length_cons, ih]
theorem Txts.get {vs : List Value} {ls : List (List Nat)} (h : Txts vs ls) : ∀ {i : Nat} {v : Value}, vs[i]? = some v → ∃ l t, v = .str ⟨l.toArray⟩ t ∧ ls[i]? = some l := by
  induction h with
  | nil => intro i v h; simp at h
  | cons _ ih =>
    intro i v h
    cases i with
    | zero => simp at h; subst h; exact ⟨_, _, rfl, rfl⟩
    | succ i => simpa using ih (by simpa using h)
theorem Txts.to {vs : List Value} {ls ls' : List (List Nat)} (h : Txts vs ls) (e : ls = ls') : Txts vs ls' := e ▸ h
theorem Txts.push {arr : Array Value} {ls : List (List Nat)} {x : Str} {l : List Nat} {t : Tok} (h : Txts arr.toList ls) (e : x = ⟨l.toArray⟩) : Txts (arr.push (.str x t)).toList (ls ++ [l]) := by
  subst e
  rw [Array.toList_push]
  exact h.append (.cons .nil)

def TxtsOut (ls : List (List Nat)) (tl : List (Addr × Obj)) (r : Value) : Prop := ∃ a arr k, tl = [(a, listOf arr k)] ∧ r = .ref a ∧ Txts arr.toList ls

section
variable {prog : Program} {w : World} {A : Around} {E : Value → Shared → Prop} {s : Shared} {t : Tok} {Q : Value → Shared → Prop}
theorem eq_nil {l : List Nat} {u : Tok} (h : Q (.bool (decide (l = []))) s) : wpAny (model prog w) A (compareOp .Eq (.str ⟨l.toArray⟩ t) (.str (Str.ofString "") u)) Q E s :=
  PyProof.Rows.eq_str (by rw [show Str.ofString "" = ⟨([] : List Nat).toArray⟩ by decide +kernel, txt_eq]; exact h)
theorem add_txt {c : Nat} {l : List Nat} {u : Tok} (hl : l.length < 100000) (h : ∀ t' k, Q (.str ⟨(c :: l).toArray⟩ t') { s with toks := k }) : wpAny (model prog w) A (binaryOp .Add (.str ⟨#[c]⟩ t) (.str ⟨l.toArray⟩ u)) Q E s :=
  SB.add (fun t' k => by
    have e : (⟨#[c]⟩ : Str) ++ ⟨l.toArray⟩ = ⟨(c :: l).toArray⟩ := by
      show Str.mk (#[c] ++ l.toArray) = _
      simp
    rw [e]; exact h t' k) (by
    have e : (Str.mk l.toArray).length = l.length := by simp [Str.length]
    have e' : (Str.mk #[c]).length = 1 := rfl
    rw [e, e', sizeLine_eq]; omega)
end

local macro_rules | `(tactic| walk_at "call ref") => `(tactic| (k_here; (with_reducible show wpAny _ _ (call (Value.ref 89) _) _ _ _); refine Hold.out ?_))
local macro_rules | `(tactic| walk_at "call ref") => `(tactic| (k_here; (with_reducible show wpAny _ _ (call (Value.ref 96) _) _ _ _); refine Hold.out ?_))
local macro_rules | `(tactic| walk_at "exec For Tuple Call cons nil") => `(tactic| (k_here; with_unfolding_all (refine for_in ?_ (by intro _; rfl))))
local macro_rules | `(tactic| walk_at "exec For Name Call cons nil") => `(tactic| (k_here; with_unfolding_all (refine for_in ?_ (by intro _; rfl))))
local macro_rules | `(tactic| walk_at "compareOp Eq str str") => `(tactic| (k_here; first | refine eq_nil ?_))
local macro_rules | `(tactic| walk_at "binaryOp Add str str") => `(tactic| (k_here; refine add_txt (by omega) ?_; intro t9 k9))
local macro_rules | `(tactic| k_all) => `(tactic| assumption)
local macro_rules | `(tactic| walk_at "call builtin:list.append") => `(tactic| (k_here; k_dflt (refine' append_K ?k1 ?k2 ?k3 ?_ ?z; (case k1 => k_asm); (case k2 => k_asm); (case k3 => k_upd); (case z => first | size_fits | (rw [sizeLine_eq]; omega)); k_whole); intro h' F' N'))

theorem lowWords_w (l : List Nat) : ∀ p ∈ lowWords l, p.1 ≤ l.length := by
  intro p hp
  cases l with
  | nil => exact nomatch hp
  | cons c l =>
    cases l with
    | nil =>
      rw [lw1] at hp
      split at hp
      · rw [List.mem_singleton.mp hp]; simp
      · exact nomatch hp
    | cons d l =>
      rw [lw2] at hp
      simp only [List.length_cons]
      rcases List.mem_append.mp hp with h | h
      · split at h
        · rw [List.mem_singleton.mp h]; dsimp only; omega
        · exact nomatch h
      · split at h
        · rcases List.mem_append.mp h with h | h
          · split at h
            · rw [List.mem_singleton.mp h]; dsimp only; omega
            · exact nomatch h
          · split at h
            · rw [List.mem_singleton.mp h]; dsimp only; omega
            · exact nomatch h
        · exact nomatch h
theorem lawWords_w (l : List Nat) : ∀ p ∈ lawWords l, p.1 ≤ l.length := by
  intro p hp
  cases l with
  | nil => exact nomatch hp
  | cons c l =>
    cases l with
    | nil => rw [lww1] at hp; exact lowWords_w _ p hp
    | cons d l =>
      rw [lww2] at hp
      rcases List.mem_append.mp hp with h | h
      · exact lowWords_w _ p h
      · split at h
        · rcases List.mem_append.mp h with h | h
          · unfold altWords at h
            obtain ⟨q, hq, rfl⟩ := List.mem_map.mp h
            have h1 := lowWords_w _ q (List.mem_filter.mp hq).1
            simp only [List.length_cons] at h1 ⊢
            omega
          · split at h
            · rename_i e
              rw [List.mem_singleton.mp h]
              have h2 := congrArg List.length e
              simp only [List.length_take, List.length_cons, List.length_nil] at h2
              simp only [List.length_cons]
              omega
            · exact nomatch h
        · exact nomatch h
theorem flatMap_snoc {α β : Type} {f : α → List β} {l : List α} {i : Nat} {x : α} (h : l[i]? = some x) : (l.take (i + 1)).flatMap f = (l.take i).flatMap f ++ f x := by
  rw [List.take_add_one, h]
  simp
theorem map_snoc {α β : Type} {f : α → β} {l : List α} {i : Nat} {x : α} (h : l[i]? = some x) : (l.take (i + 1)).map f = (l.take i).map f ++ [f x] := by
  rw [List.take_add_one, h]
  simp

theorem turn_keep {h₀ : Heap} {L I : Addr} {oI : Obj} {J : (Str → Option Value) → List (Addr × Obj) → Prop} {s : Shared} {h' : Heap} {tk' : Nat} {m' : Str → Option Value} {news' : List (Addr × Obj)}
    (F : Fr h₀ L h' m') (N : News h₀ L h' ((I, oI) :: news')) (hI : ∀ p ∈ news', p.1 ≠ I) (hJ : J m' news') : TurnEnd h₀ L I oI J s { s with heap := h', toks := tk' } :=
  TurnEnd.mk news' F N (fun _ h => h) hI hJ

theorem law_readings (w : World) : ∀ (n : Nat), n ≤ 4 → ∀ (l : List Nat), l.length < 800 → ∀ (t u : Tok), TellL w 96 (24 + 2 * n) (200 + 20 * n) [.str ⟨l.toArray⟩ t, .int (n : Int) u] (fun _ => True) (TxtsOut (readings n l)) := by
  intro n
  induction n with
  | zero =>
    intro hn4 l hl t u
    unfold TellL
    intro prog mean mg mb dp un gd cn cs a ccd cl outer A₀ base h₀ L m news s Q E B F X N T hk hn hdp hun hret
    refine wpAny_call ?_
    k_dflt ktr_enter
    k_steps
    · rename_i l1 kF kN kT kX
      refine hret _ _ _ [_] ⟨_, _, _, rfl, rfl, ?_⟩ (ord_cons l1 ord_nil) kF kN
      unfold readings
      rw [if_pos (by assumption), show Str.ofString "" = ⟨([] : List Nat).toArray⟩ by decide +kernel]
      exact .cons .nil
    · rename_i l1 kF kN kT kX
      refine hret _ _ _ [_] ⟨_, _, _, rfl, rfl, ?_⟩ (ord_cons l1 ord_nil) kF kN
      unfold readings
      rw [if_neg (by assumption)]
      exact .nil
  | succ n ih =>
    intro hn4 l hl t u
    unfold TellL
    intro prog mean mg mb dp un gd cn cs a ccd cl outer A₀ base h₀ L m news s Q E B F X N T hk hn hdp hun hret
    refine wpAny_call ?_
    cases l with
    | nil =>
      k_dflt ktr_enter
      k_steps
      all_goals first
        | (exfalso; omega)
        | (exfalso; contradiction)
        | (rename_i l1 kF kN kT kX
           exact hret _ _ _ [_] ⟨_, _, _, rfl, rfl, .nil⟩ (ord_cons l1 ord_nil) kF kN)
    | cons c l =>
      k_dflt ktr_enter
      k_steps
      all_goals first
        | (exfalso; omega)
        | (exfalso; contradiction)
        | skip
      rename_i a0 hz0 hl0 hz1 FZ NZ
      refine TellL.use (law_words _ _ _ (by rw [List.length_cons] at hl; omega) _) (by k_asm) (by k_asm) (by k_asm) (by k_asm) (by k_asm) rfl trivial (by ktr_room) (by ktr_units) ?_
      rintro r1 h1 tk1 tl1 ⟨a1, arr1, n1, tw1, rfl, rfl, hlt1, hP1⟩ ho1 F1 N1
      have h01 : ∀ p ∈ (a1, listOf arr1 n1) :: tw1, a0 < p.1 := fun p hp => ho1 (a0, listOf #[] 0) (.head _) p hp
      have hX : ∀ p ∈ (a1, listOf arr1 n1) :: (tw1 ++ news), p.1 ≠ a0 := by
        intro p hp
        rw [← List.cons_append] at hp
        rcases List.mem_append.mp hp with hp | hp
        · exact Nat.ne_of_gt (h01 p hp)
        · exact Nat.ne_of_lt (hl0 p hp)
      have N3 : News _ _ _ ((a0, listOf #[] 0) :: ((a1, listOf arr1 n1) :: (tw1 ++ news))) := cb_drop N1 (by
        intro p hp
        simp only [List.mem_cons, List.mem_append, List.cons_append] at hp ⊢
        rcases hp with h | h | h | h <;> simp only [h, true_or, or_true])
      clear N1
      refine src_list (fun i m' news' => m' (Str.ofString "found") = some (.ref a0) ∧ m' (Str.ofString "text") = some (.str ⟨(c :: l).toArray⟩ t) ∧ m' (Str.ofString "size") = some (.int ((n + 1 : Nat) : Int) u) ∧ ∃ arr k, news' = (a0, listOf arr k) :: ((a1, listOf arr1 n1) :: (tw1 ++ news)) ∧
          Txts arr.toList (((lawWords (c :: l)).take i).flatMap (fun p => (readings n ((c :: l).drop p.1)).map (p.2 :: ·)))) rfl (by k_asm) N3 (.tail _ (.head _))
        ⟨rfl, rfl, rfl, #[], 0, rfl, .nil⟩ ?_ ?_ ?_ (.inr ⟨_, _, _, rfl, hP1.refs⟩)
      · rintro i m' news' ⟨_, _, _, arr, k, rfl, _⟩
        exact .tail _ (.head _)
      · rintro i v m₁ news₁ h tk I oI hv ⟨hf, ht, hs, arr, k, rfl, hT⟩ hIlt hI F₁ N₁
        obtain ⟨p, wd, ch, nn, tt, uu, rfl, hws, hmem⟩ := hP1.get (i := i) (by simpa using hv)
        have hwd : wd ≤ (c :: l).length := lawWords_w _ _ (List.mem_of_getElem? hws)
        have hIa := ltN (hIlt (a0, listOf #[] 0) (.head _))
        dsimp only at hIa
        refine turn_pair rfl (fr_at3 F₁ ht hf hs) N₁ (List.mem_cons_of_mem _ (List.mem_cons_of_mem _ (List.mem_cons_of_mem _ (List.mem_append_left _ hmem)))) (fun h' tk' F' N' => ?_) rfl rfl rfl
        clear F₁ N₁ hf ht hs
        (try dsimp only)
        k_steps
        rw [slice_from _ _ hwd, show ((n + 1 : Nat) : Int) - 1 = (n : Int) by omega]
        refine TellL.use (ih (by omega) _ (by simp only [List.length_drop]; omega) _ _) (by k_asm) (by k_asm) (by k_asm) (by k_asm) (by k_asm) rfl trivial (by ktr_room) (by ktr_units) ?_
        rintro r2 h2 tk2 tl2 ⟨a2, arr2, n2, rfl, rfl, hT2⟩ ho2 F2 N2
        have h02 := ltN (ho2 (a0, listOf arr k) (.tail _ (.head _)) (a2, listOf arr2 n2) (.head _))
        dsimp only at h02
        have N4 : News _ _ _ ((a0, listOf arr k) :: ((a2, listOf arr2 n2) :: (I, oI) :: ((a1, listOf arr1 n1) :: (tw1 ++ news)))) := cb_drop N2 (by
          intro p hp
          simp only [List.mem_cons, List.mem_append, List.cons_append, List.nil_append] at hp ⊢
          rcases hp with h | h | h | h | h | h <;> simp only [h, true_or, or_true])
        have hoff : ∀ p ∈ (a2, listOf arr2 n2) :: (I, oI) :: ((a1, listOf arr1 n1) :: (tw1 ++ news)), p.1 ≠ a0 :=
          List.forall_mem_cons.mpr ⟨Nat.ne_of_gt h02, List.forall_mem_cons.mpr ⟨Nat.ne_of_gt hIa, hX⟩⟩
        clear N2
        have hbig : (((lawWords (c :: l)).take i).flatMap (fun p => (readings n ((c :: l).drop p.1)).map (p.2 :: ·))).length ≤ 7 * 7 ^ 4 := by
          have h1 := flatMap_len (fun p : Nat × Nat => (readings n ((c :: l).drop p.1)).map (p.2 :: ·)) (7 ^ 4) ((lawWords (c :: l)).take i) (fun p _ => by
            rw [List.length_map]; exact Nat.le_trans (readings_len n _) (Nat.pow_le_pow_right (by decide) (by omega)))
          have h2 := lawWords_len (c :: l)
          rw [List.length_take] at h1
          exact Nat.le_trans h1 (Nat.mul_le_mul_right _ (by omega))
        have hrd : (readings n ((c :: l).drop wd)).length ≤ 7 ^ 4 := Nat.le_trans (readings_len n _) (Nat.pow_le_pow_right (by decide) (by omega))
        refine src_list (fun j m' news' => m' (Str.ofString "found") = some (.ref a0) ∧ m' (Str.ofString "text") = some (.str ⟨(c :: l).toArray⟩ t) ∧ m' (Str.ofString "size") = some (.int ((n + 1 : Nat) : Int) u) ∧ m' (Str.ofString "sign") = some (.str ⟨#[ch]⟩ uu) ∧
            ∃ arr' k', news' = (a0, listOf arr' k') :: ((a2, listOf arr2 n2) :: (I, oI) :: ((a1, listOf arr1 n1) :: (tw1 ++ news))) ∧
            Txts arr'.toList (((lawWords (c :: l)).take i).flatMap (fun p => (readings n ((c :: l).drop p.1)).map (p.2 :: ·)) ++ ((readings n ((c :: l).drop wd)).take j).map (ch :: ·))) rfl (by k_asm) N4 (.tail _ (.head _))
          ⟨rfl, rfl, rfl, rfl, arr, k, rfl, hT.to (by simp)⟩ ?_ ?_ ?_ (.inl fun _ _ => rfl)
        · rintro j m' news' ⟨_, _, _, _, arr', k', rfl, _⟩
          exact .tail _ (.head _)
        · rintro j v m₂ news₂ h3 tk3 I2 oI2 hv2 ⟨hf, ht, hs, hg, arr', k', rfl, hT'⟩ hIlt2 hI2 F₁ N₁
          obtain ⟨q, tq, rfl, hq⟩ := hT2.get (i := j) (by simpa using hv2)
          have hql : q.length = n := readings_size n _ q (List.mem_of_getElem? hq)
          have hIa2 := ltN (hIlt2 (a0, listOf arr k) (.head _))
          dsimp only at hIa2
          have harr : arr'.size ≤ 100000 := by
            have h1 := hT'.length
            simp only [List.length_append, Array.length_toList, List.length_map, List.length_take] at h1
            omega
          refine turn_name (fr_at4 F₁ ht hf hs hg) N₁ (fun h' tk' F' N' => ?_) rfl rfl
          clear F₁ N₁ hf ht hs hg
          (try dsimp only)
          k_steps
          rename_i t9 k9 h9 F9 N9
          refine turn_keep F9 N9 (List.forall_mem_cons.mpr ⟨hI2 (a0, listOf arr' k') (.head _), fun p hp => hI2 p (.tail _ hp)⟩) ⟨rfl, rfl, rfl, rfl, _, _, rfl, (hT'.push rfl).to ?_⟩
          rw [map_snoc hq, List.append_assoc]
        · rintro m₂ news₂ h3 tk3 ⟨hf, ht, hs, hg, arr', k', rfl, hT'⟩ F₁ N₁
          have F₂ := fr_at4 F₁ ht hf hs hg
          clear F₁ hf ht hs hg
          k_steps
          refine TurnEnd.mk ((a0, listOf arr' k') :: ((a1, listOf arr1 n1) :: (tw1 ++ news))) F₂ N₁ (fun p hp => ?_) (List.forall_mem_cons.mpr ⟨hI (a0, listOf arr k) (.head _), fun p hp => hI p (.tail _ hp)⟩) ⟨rfl, rfl, rfl, _, _, rfl, hT'.to ?_⟩
          · simp only [List.mem_cons, List.mem_append] at hp ⊢
            rcases hp with h | h | h | h | h <;> simp only [h, true_or, or_true]
          · have hfull : (readings n ((c :: l).drop wd)).take arr2.size = readings n ((c :: l).drop wd) := List.take_of_length_le (by rw [← hT2.length]; simp)
            rw [flatMap_snoc hws, hfull]
      · rintro m₁ news₁ h tk ⟨hf, ht, hs, arr, k, rfl, hT⟩ F₁ N₁
        have F₂ := fr_at3 F₁ ht hf hs
        clear F₁ hf ht hs
        k_steps
        rename_i kF kN kT kX
        refine hret _ _ _ [(a0, listOf arr k)] ⟨_, _, _, rfl, rfl, hT.to ?_⟩ (ord_cons hl0 ord_nil) kF (cb_drop kN ?_)
        · rw [List.take_of_length_le (by rw [← hP1.length]; simp)]
          rfl
        · intro p hp
          rcases List.mem_cons.mp hp with rfl | hp
          · exact .head _
          · exact .tail _ (.tail _ (List.mem_append_right _ hp))
end Mine
end

section
set_option maxRecDepth 100000
set_option maxHeartbeats 1000000
namespace Mine
theorem filled8 : (PySem.Challenge.rw_nb0025_01, hd.heap_39) = (PySem.Challenge.rw_nb0025_01, hd.heap_39) := by w_top off; k_fill; rfl

inductive NatsV : List Value → List Nat → Prop
  | nil : NatsV [] []
  | cons {c : Nat} {t : Tok} {vs : List Value} {cs : List Nat} : NatsV vs cs → NatsV (.int (c : Int) t :: vs) (c :: cs)
theorem NatsV.append {vs vs' : List Value} {ls ls' : List Nat} (h : NatsV vs ls) (h' : NatsV vs' ls') : NatsV (vs ++ vs') (ls ++ ls') := by
  induction h with
  | nil => exact h'
  | cons _ ih => exact .cons ih
theorem NatsV.length {vs : List Value} {ls : List Nat} (h : NatsV vs ls) : vs.length = ls.length := by
  induction h with
  | nil => rfl
  | cons _ ih => rw [List.length_cons, List.length_cons, ih]
theorem NatsV.get {vs : List Value} {ls : List Nat} (h : NatsV vs ls) : ∀ {i : Nat} {v : Value}, vs[i]? = some v → ∃ c t, v = .int ((c : Nat) : Int) t ∧ ls[i]? = some c := by
  induction h with
  | nil => intro i v h; simp at h
  | cons _ ih =>
    intro i v h
    cases i with
    | zero => simp at h; subst h; exact ⟨_, _, rfl, rfl⟩
    | succ i => simpa using ih (by simpa using h)
theorem NatsV.to {vs : List Value} {ls ls' : List Nat} (h : NatsV vs ls) (e : ls = ls') : NatsV vs ls' := e ▸ h
theorem NatsV.push {arr : Array Value} {ls : List Nat} {x : Int} {c : Nat} {t : Tok} (h : NatsV arr.toList ls) (e : x = (c : Int)) : NatsV (arr.push (.int x t)).toList (ls ++ [c]) := by
  subst e
  rw [Array.toList_push]
  exact h.append (.cons .nil)

def bits8 (c : Nat) : List Nat := (List.range 8).map fun k => c / 2 ^ k % 2
def bitsOf (cs : List Nat) : List Nat := cs.flatMap bits8

section
variable {prog : Program} {w : World} {A : Around} {E : Value → Shared → Prop} {s : Shared} {a b : Nat} {t u : Tok} {Q : Value → Shared → Prop}
theorem shr_nat (h : Q (.int ((a / 2 ^ b : Nat) : Int) s.toks) { s with toks := s.toks + 1 }) : wpAny (model prog w) A (binaryOp .RShift (.int (a : Int) t) (.int (b : Int) u)) Q E s := rshift_int (by omega) (by
  have e : ((a : Int).fdiv (2 ^ (b : Int).toNat)) = ((a / 2 ^ b : Nat) : Int) := by
    rw [Int.toNat_natCast, Int.fdiv_eq_ediv_of_nonneg _ (Int.pow_nonneg (by decide)), Int.natCast_ediv, Int.natCast_pow]
    rfl
  rw [e]; exact h)
theorem mod_2n (h : Q (.int ((a % 2 : Nat) : Int) s.toks) { s with toks := s.toks + 1 }) : wpAny (model prog w) A (binaryOp .Mod (.int (a : Int) t) (.int 2 u)) Q E s := mod_int' (by decide) (by
  have e : (a : Int).fmod 2 = ((a % 2 : Nat) : Int) := by
    rw [Int.fmod_eq_emod_of_nonneg _ (by decide)]; rfl
  rw [e]; exact h)
end

theorem add_K2 {prog : Program} {w : World} {A : Around} {E : Value → Shared → Prop} {s : Shared} {h₀ : Heap} {L l b : Addr} {m : Str → Option Value} {news : List (Addr × Obj)} {its its2 : Array Value} {k k2 : Nat} {Q : Value → Shared → Prop} (F : Fr h₀ L s.heap m) (N : News h₀ L s.heap news) (hl : (l, listOf its k) ∈ news) (hb : (b, listOf its2 k2) ∈ news) (hsz : its.size + its2.size ≤ 1000000)
    (h : ∀ D h', Fr h₀ L h' m → News h₀ L h' ((D, listOf (its ++ its2) 0) :: news) → (∀ p ∈ news, p.1 < D) → Q (.ref D) { s with heap := h' }) : wpAny (model prog w) A (binaryOp .Add (.ref l) (.ref b)) Q E s :=
  add_arrays F N (News.isList N hl) (News.isList N hb) (fun h' F' N' => h _ h' F' (by
    have e : (its.toList ++ its2.toList).toArray = its ++ its2 := by
      apply Array.ext'
      simp
    rw [e] at N'
    exact N') fun p hp => Heap.lt_size (N p hp).1) (by rw [sizeLine_eq]; omega)
local macro_rules | `(tactic| walk_at "binaryOp Add ref ref") => `(tactic| (k_here; (with_reducible show wpAny _ _ (binaryOp _ (Value.ref _) (Value.ref _)) _ _ _); refine Hold.out ?_))
section
variable {prog : Program} {w : World} {A : Around} {E : Value → Shared → Prop} {s : Shared} {h₀ : Heap} {L l : Addr} {m : Str → Option Value} {news : List (Addr × Obj)} {arr : Array Value} {k : Nat} {u : Tok} {Q : Value → Shared → Prop} {value slice : Expr}
theorem slice_to {n : Nat} {y : Int} (F : Fr h₀ L s.heap m) (N : News h₀ L s.heap news) (hl : (l, listOf arr k) ∈ news) (hy : y = (n : Int)) (hsz : arr.size ≤ 1000000)
    (h : ∀ D h', Fr h₀ L h' m → News h₀ L h' ((D, listOf (arr.toList.take n).toArray 0) :: news) → (∀ p ∈ news, p.1 < D) → Q (.ref D) { s with heap := h' })
    (hs : subscripted slice false (.ref l) (.ref s.heap.objs.size) = operate [.ref s.heap.objs.size, .ref l] (getItem (.ref l) (.ref s.heap.objs.size))) (ht : ∀ r, letTemporaryGo value (.ref l) r = pure ()) :
    wpAny (model prog w) A (subscriptTail value slice (.ref l) (.ref s.heap.objs.size)) Q E { s with heap := s.heap.push { cls := .type "slice", data := .fields #[.none, .int y u, .none] } } := by
  subst hy
  refine slice_list F N (News.isList N hl) .none (.int _ _) (fun h' F' N' => h _ h' F' ?_ fun p hp => Nat.lt_succ_of_lt (Heap.lt_size (N p hp).1)) hs ht (by rw [sizeLine_eq]; omega)
  have e := slicePick_upto' arr n
  rw [e] at N'
  exact N'
theorem slice_fr {n : Nat} {y : Int} (F : Fr h₀ L s.heap m) (N : News h₀ L s.heap news) (hl : (l, listOf arr k) ∈ news) (hy : y = (n : Int)) (hsz : arr.size ≤ 1000000)
    (h : ∀ D h', Fr h₀ L h' m → News h₀ L h' ((D, listOf (arr.toList.drop n).toArray 0) :: news) → (∀ p ∈ news, p.1 < D) → Q (.ref D) { s with heap := h' })
    (hs : subscripted slice false (.ref l) (.ref s.heap.objs.size) = operate [.ref s.heap.objs.size, .ref l] (getItem (.ref l) (.ref s.heap.objs.size))) (ht : ∀ r, letTemporaryGo value (.ref l) r = pure ()) :
    wpAny (model prog w) A (subscriptTail value slice (.ref l) (.ref s.heap.objs.size)) Q E { s with heap := s.heap.push { cls := .type "slice", data := .fields #[.int y u, .none, .none] } } := by
  subst hy
  refine slice_list F N (News.isList N hl) (.int _ _) .none (fun h' F' N' => h _ h' F' ?_ fun p hp => Nat.lt_succ_of_lt (Heap.lt_size (N p hp).1)) hs ht (by rw [sizeLine_eq]; omega)
  have e := slicePick_from' arr n
  rw [e] at N'
  exact N'
end
local macro_rules | `(tactic| walk_at "subscriptTail Name Slice ref ref") => `(tactic| (k_here; k_dflt (first | refine' slice_to (n := 32) ?k1 ?k2 ?k3 ?k4 ?z ?_ ?ks ?kt | refine' slice_fr (n := 32) ?k1 ?k2 ?k3 ?k4 ?z ?_ ?ks ?kt); (case k1 => k_asm); (case k2 => k_asm); (case k3 => k_mem); (case k4 => rfl); (case z => omega); (case ks => with_unfolding_all rfl); (case kt => (intro _; with_unfolding_all rfl)); k_whole; intro D' h' F' N' l1; (try k_lt l1)))
local macro_rules | `(tactic| walk_at "eval ListComp") => `(tactic| (k_here; with_unfolding_all (refine comp_in ?_ (by rfl) (by rfl) (by decide) (by intro _; rfl))))
local macro_rules | `(tactic| walk_at "binaryOp RShift int int") => `(tactic| (k_here; refine shr_nat ?_))
local macro_rules | `(tactic| walk_at "binaryOp Mod int int") => `(tactic| (k_here; refine mod_2n ?_))
local macro_rules | `(tactic| walk_at "eval Name") => `(tactic| (k_here; k_dflt (refine' name_comp ?k1 ?k2 ?k3 ?k4 ?k5 ?k6 ?k7 ?_; (case k1 => k_asm); (case k3 => assumption); (case k2 => k_mem); (case k4 => assumption); (case k5 => rfl); (case k6 => rfl); (case k7 => decide); k_whole)))
local macro_rules | `(tactic| walk_at "eval Name") => `(tactic| (k_here; k_inBlock; (with_reducible rename Fr _ _ _ _ => kF); k_dflt (refine' name_compB kF ?k1 ?k2 ?k3 ?k4 ?k5 ?_ ?k6 ?k7 ?k8 ?k9 ?k10; (case k6 => rfl); (case k7 => rfl); (case k8 => rfl); (case k9 => rfl); (case k10 => decide); (case k1 => k_asm); (case k2 => k_asm); (case k3 => k_is); (case k4 => boot_by_name); (case k5 => decide); k_whole)))

theorem mul_2n {prog : Program} {w : World} {A : Around} {E : Value → Shared → Prop} {s : Shared} {a : Nat} {t u : Tok} {Q : Value → Shared → Prop} (ha : a < 2 ^ 40) (h : Q (.int ((2 * a : Nat) : Int) s.toks) { s with toks := s.toks + 1 }) : wpAny (model prog w) A (binaryOp .Mult (.int 2 t) (.int (a : Int) u)) Q E s :=
  PyProof.Rows.mul_int h (IntMulOk.of_le (m := 2) (n := 40) (intBits_le_iff.mpr (by decide)) (intBits_le_iff.mpr (by simpa using ha)) (by decide))
theorem add_cc {prog : Program} {w : World} {A : Around} {E : Value → Shared → Prop} {s : Shared} {a b : Nat} {t u : Tok} {Q : Value → Shared → Prop} (h : Q (.int ((a + b : Nat) : Int) s.toks) { s with toks := s.toks + 1 }) : wpAny (model prog w) A (binaryOp .Add (.int (a : Int) t) (.int (b : Int) u)) Q E s := PyProof.Rows.add_int h
theorem add_c1 {prog : Program} {w : World} {A : Around} {E : Value → Shared → Prop} {s : Shared} {a : Nat} {t u : Tok} {Q : Value → Shared → Prop} (h : Q (.int ((a + 1 : Nat) : Int) s.toks) { s with toks := s.toks + 1 }) : wpAny (model prog w) A (binaryOp .Add (.int (a : Int) t) (.int 1 u)) Q E s := PyProof.Rows.add_int h
theorem sub_cc {prog : Program} {w : World} {A : Around} {E : Value → Shared → Prop} {s : Shared} {a b : Nat} {t u : Tok} {Q : Value → Shared → Prop} (hb : b ≤ a) (h : Q (.int ((a - b : Nat) : Int) s.toks) { s with toks := s.toks + 1 }) : wpAny (model prog w) A (binaryOp .Sub (.int (a : Int) t) (.int (b : Int) u)) Q E s := PyProof.Rows.sub_int (by
  rw [show (a : Int) - (b : Int) = ((a - b : Nat) : Int) by omega]; exact h)
theorem sub_1c {prog : Program} {w : World} {A : Around} {E : Value → Shared → Prop} {s : Shared} {b : Nat} {t u : Tok} {Q : Value → Shared → Prop} (hb : b ≤ 1) (h : Q (.int ((1 - b : Nat) : Int) s.toks) { s with toks := s.toks + 1 }) : wpAny (model prog w) A (binaryOp .Sub (.int 1 t) (.int (b : Int) u)) Q E s := PyProof.Rows.sub_int (by
  rw [show (1 : Int) - (b : Int) = ((1 - b : Nat) : Int) by omega]; exact h)
theorem xor_cP {prog : Program} {w : World} {A : Around} {E : Value → Shared → Prop} {s : Shared} {a : Nat} {t u : Tok} {Q : Value → Shared → Prop} (h : Q (.int ((a ^^^ 4374732215 : Nat) : Int) s.toks) { s with toks := s.toks + 1 }) : wpAny (model prog w) A (binaryOp .BitXor (.int (a : Int) t) (.int 4374732215 u)) Q E s := xor_int (by rw [show (4374732215 : Int) = ((4374732215 : Nat) : Int) from rfl, bitXor_nat]; exact h)
local macro_rules | `(tactic| walk_at "binaryOp Mult int int") => `(tactic| (k_here; refine mul_2n (by omega) ?_))
local macro_rules | `(tactic| walk_at "binaryOp Add int int") => `(tactic| (k_here; first | refine add_cc ?_ | refine add_c1 ?_))
local macro_rules | `(tactic| walk_at "binaryOp Sub int int") => `(tactic| (k_here; first | refine sub_cc (by omega) ?_ | refine sub_1c (by omega) ?_))
local macro_rules | `(tactic| walk_at "binaryOp BitXor int int") => `(tactic| (k_here; refine xor_cP ?_))
local macro_rules | `(tactic| walk_at "exec For Name BinOp cons nil") => `(tactic| (k_here; with_unfolding_all (refine for_in ?_ (by intro _; rfl))))
local macro_rules | `(tactic| walk_at "exec For Name Call cons nil") => `(tactic| (k_here; with_unfolding_all (refine for_in ?_ (by intro _; rfl))))

theorem nats_zeros (tk : Tok) : ∀ n : Nat, NatsV (List.replicate n [Value.int 0 tk]).flatten (List.replicate n 0)
  | 0 => .nil
  | n + 1 => by
    rw [List.replicate_succ, List.replicate_succ, List.flatten_cons]
    exact NatsV.cons (c := 0) (nats_zeros tk n)
theorem NatsV.take {vs : List Value} {ls : List Nat} (h : NatsV vs ls) : ∀ n : Nat, NatsV (vs.take n) (ls.take n) := by
  induction h with
  | nil => intro n; simp; exact .nil
  | cons _ ih =>
    intro n
    cases n with
    | zero => exact .nil
    | succ n => exact .cons (ih n)
theorem NatsV.drop {vs : List Value} {ls : List Nat} (h : NatsV vs ls) : ∀ n : Nat, NatsV (vs.drop n) (ls.drop n) := by
  induction h with
  | nil => intro n; simp; exact .nil
  | cons h ih =>
    intro n
    cases n with
    | zero => exact .cons h
    | succ n => exact ih n

def allBits (cs : List Nat) : List Nat := bitsOf cs ++ List.replicate 32 0
def flipped (cs : List Nat) : List Nat := ((allBits cs).take 32).map (1 - ·) ++ (allBits cs).drop 32
def restStep (r b : Nat) : Nat := if 2 * r + b ≥ 4294967296 then (2 * r + b) ^^^ 4374732215 else 2 * r + b
def restOf (cs : List Nat) : Nat := (flipped cs).foldl restStep 0
def turned (r n : Nat) : Nat := (List.range n).foldl (fun t k => 2 * t + 1 - r / 2 ^ k % 2) 0
def plainSum (cs : List Nat) : Nat := turned (restOf cs) 32

theorem bits8_len (c : Nat) : (bits8 c).length = 8 := by simp [bits8]
theorem bits8_get {c i : Nat} (h : i < 8) : (bits8 c)[i]? = some (c / 2 ^ i % 2) := by simp [bits8, h]
theorem bitsOf_len (cs : List Nat) : (bitsOf cs).length = 8 * cs.length := by
  induction cs with
  | nil => rfl
  | cons c cs ih =>
    show (bits8 c ++ bitsOf cs).length = _
    rw [List.length_append, bits8_len, ih, List.length_cons]; omega
theorem bitsOf_snoc {cs : List Nat} {i c : Nat} (h : cs[i]? = some c) : bitsOf (cs.take (i + 1)) = bitsOf (cs.take i) ++ bits8 c := flatMap_snoc h

theorem allBits_le (cs : List Nat) : ∀ b ∈ allBits cs, b ≤ 1 := by
  intro b hb
  rcases List.mem_append.mp hb with h | h
  · obtain ⟨c, _, hc⟩ := List.mem_flatMap.mp h
    obtain ⟨k, _, rfl⟩ := List.mem_map.mp hc
    omega
  · rw [(List.mem_replicate.mp h).2]; omega
theorem flipped_le (cs : List Nat) : ∀ b ∈ flipped cs, b ≤ 1 := by
  intro b hb
  rcases List.mem_append.mp hb with h | h
  · obtain ⟨c, _, rfl⟩ := List.mem_map.mp h
    omega
  · exact allBits_le cs b (List.mem_of_mem_drop h)
theorem restStep_lt {r b : Nat} (hr : r < 4294967296) (hb : b ≤ 1) : restStep r b < 4294967296 := by
  unfold restStep
  split
  · rename_i h
    have key : ∀ x y : Nat, 4294967296 ≤ x → x < 8589934592 → 4294967296 ≤ y → y < 8589934592 → x ^^^ y < 2 ^ 32 := by
      intro x y hx1 hx2 hy1 hy2
      refine Nat.lt_pow_two_of_testBit _ fun i hi => ?_
      rw [Nat.testBit_xor]
      rcases Nat.eq_or_lt_of_le hi with e | e
      · subst e
        have h1 : x.testBit 32 = true := by rw [Nat.testBit_eq_decide_div_mod_eq]; simp; omega
        have h2 : y.testBit 32 = true := by rw [Nat.testBit_eq_decide_div_mod_eq]; simp; omega
        rw [h1, h2]; rfl
      · have hp : 2 ^ 33 ≤ 2 ^ i := Nat.pow_le_pow_right (by decide) e
        rw [Nat.testBit_lt_two_pow (by omega), Nat.testBit_lt_two_pow (by omega)]; rfl
    exact key _ _ (by omega) (by omega) (by omega) (by omega)
  · omega
theorem rest_lt (l : List Nat) (h : ∀ b ∈ l, b ≤ 1) : l.foldl restStep 0 < 4294967296 := by
  have key : ∀ (l : List Nat) (r : Nat), (∀ b ∈ l, b ≤ 1) → r < 4294967296 → l.foldl restStep r < 4294967296 := by
    intro l
    induction l with
    | nil => intro r _ hr; exact hr
    | cons b l ih => intro r hl hr; exact ih _ (fun c hc => hl c (.tail _ hc)) (restStep_lt hr (hl b (.head _)))
  exact key l 0 h (by decide)
theorem turned_succ (r n : Nat) : turned r (n + 1) = 2 * turned r n + 1 - r / 2 ^ n % 2 := by
  unfold turned
  rw [List.range_succ, List.foldl_append]
  rfl
theorem turned_lt (r : Nat) : ∀ n : Nat, turned r n < 2 ^ n
  | 0 => by simp [turned]
  | n + 1 => by
    have h := turned_lt r n
    rw [turned_succ, Nat.pow_succ]
    omega
theorem news_132 {h₀ h : Heap} {L : Addr} {a b c : Addr × Obj} {r : List (Addr × Obj)} (N : News h₀ L h (a :: b :: c :: r)) : News h₀ L h (a :: c :: b :: r) := fun p hp => N p (by simp only [List.mem_cons] at hp ⊢; rcases hp with h | h | h | h <;> simp [h])
theorem plain_sum (w : World) (lc : Addr) (arrc : Array Value) (kc : Nat) (cs : List Nat) (hcs : NatsV arrc.toList cs) (hlen : cs.length ≤ 4) : TellV w 68 8 64 [.ref lc] (fun news => (lc, listOf arrc kc) ∈ news) fun r => ∃ t', r = .int (plainSum cs : Nat) t' := by
  unfold TellV
  intro prog mean mg mb dp un gd cn csc a ccd cl outer A₀ base h₀ L m news s Q E B F X N T hk hn hdp hun hret
  refine wpAny_call ?_
  k_dflt ktr_enter
  k_steps
  refine csrc_list2 (fun i ys => NatsV ys.toList (bitsOf (cs.take i))) rfl (by k_asm) (by k_asm) hn (by decide) rfl rfl .nil (fun _ _ => rfl) ?_ ?_
  · intro D C I i v ys k oI oC mc' h tk hnI hID hDC hLI hv hJ nC hmv F₁ N₁
    obtain ⟨c, tc, rfl, hc⟩ := hcs.get (i := i) (by simpa using hv)
    (try dsimp only)
    k_steps
    have hci : (cs.take i).length + 1 ≤ 4 := by
      have := (List.getElem?_eq_some_iff.mp hc).1
      rw [List.length_take]; omega
    refine inner_range (n := 8) (k₀ := k) (x1 := Str.ofString "code") (news := (I, oI) :: news) (oC := oC) (mc := mc') (fun j ys' => NatsV ys'.toList (bitsOf (cs.take i) ++ (bits8 c).take j)) rfl (by assumption) (by decide) (by decide) rfl rfl (by decide) (Nat.ne_of_gt hDC)
      (List.forall_mem_cons.mpr ⟨⟨Nat.ne_of_lt hID, Nat.ne_of_lt (Nat.lt_trans hID hDC)⟩, fun p hp => ⟨Nat.ne_of_lt (Nat.lt_trans (hnI p hp) hID), Nat.ne_of_lt (Nat.lt_trans (hnI p hp) (Nat.lt_trans hID hDC))⟩⟩) nC hmv (by k_asm) (news_132 (by k_asm)) (hJ.to (by simp)) ?_ ?_ ?_
    · intro j ys' hj
      have h1 := hj.length
      simp only [Array.length_toList, List.length_append, List.length_take, bitsOf_len, bits8_len] at h1
      simp only [List.length_take] at hci
      rw [sizeLine_eq]; omega
    · intro j t' ys' k' I' oI' oC' mc'' h' tk' hj hJ' nC' hvj hvc F₂ N₂
      (try dsimp only)
      k_steps
      refine ⟨EltEnd.mk F₂ N₂ (fun _ h => h), (hJ'.push rfl).to ?_⟩
      rw [List.take_add_one, bits8_get hj, List.append_assoc]
      rfl
    · intro ys' k' mc'' h' tk' hJ' hn' F₂ N₂
      refine ⟨_, _, ys', k', mc'', rfl, hn', F₂, N₂, hJ'.to ?_⟩
      have h8 : (bits8 c).take 8 = bits8 c := List.take_of_length_le (by rw [bits8_len]; exact Nat.le_refl _)
      rw [bitsOf_snoc hc, h8]
  · intro D C ys k mc' h tk hD hDC hLD hC0 hJ hnC F₁ N₁
    refine' done_in hD hDC hLD hC0 ?ea ?eb ?ec ?ed
    case ea => exact hnC
    case eb => exact F₁
    case ec => exact N₁
    intro h' F₂ N₂
    clear F₁ N₁ hnC
    have hys : ys.size ≤ 32 := by
      have h1 := hJ.length
      simp only [Array.length_toList, bitsOf_len, List.length_take] at h1
      omega
    (try dsimp only)
    k_steps
    rename_i l' hq1 lq1 D' hq2 FQ NQ iq1 nq1 sq1 eq1 eq2 eq3 lq2
    refine add_K2 (by k_asm) (by k_asm) (by k_mem) (by k_mem) ?_ ?_
    · have h1 := (nats_zeros tk 32).length
      rw [List.length_replicate] at h1
      have h2 : (List.replicate (Int.toNat 32) [Value.int 0 tk]).flatten.toArray.size = 32 := by rw [List.size_toArray]; exact h1
      rw [h2]; omega
    intro Db hb Fb Nb lb
    have hlb : ∀ p ∈ news, p.1 < Db := fun p hp => lb p (.tail _ (.tail _ (.tail _ hp)))
    obtain ⟨arrb, hB, Nc⟩ : ∃ arrb : Array Value, NatsV arrb.toList (allBits cs) ∧ News _ _ hb ((Db, listOf arrb 0) :: news) := by
      refine ⟨_, ?_, cb_drop Nb (List.forall_mem_cons.mpr ⟨.head _, fun p hp => .tail _ (.tail _ (.tail _ (.tail _ hp)))⟩)⟩
      rw [Array.toList_append]
      refine (hJ.append (nats_zeros tk 32)).to ?_
      rw [List.take_of_length_le (by rw [← hcs.length]; simp)]
      rfl
    have hbl : arrb.size = 8 * cs.length + 32 := by
      have h1 := hB.length
      rw [Array.length_toList] at h1
      rw [h1, allBits, List.length_append, bitsOf_len, List.length_replicate]
    clear Nb lb NQ
    (try dsimp only)
    k_steps
    rename_i D2 h2 F2 N2 l2
    refine csrc_list (fun i ys => NatsV ys.toList ((((allBits cs).take 32).take i).map (1 - ·))) rfl F2 N2 (.head _) (by decide) rfl rfl .nil ?_ ?_ ?_
    · intro i ys hj
      have h1 := hj.length
      simp only [Array.length_toList, List.length_map, List.length_take] at h1
      rw [sizeLine_eq]; omega
    · intro Dx C I i v ysx kx oI oC mc' hx tkx hnI hID hDC hv hJx nC hmv F₁ N₁
      obtain ⟨b, tb, rfl, hbg⟩ := (hB.take 32).get (i := i) (by simpa using hv)
      have hb1 : b ≤ 1 := allBits_le cs b (List.mem_of_mem_take (List.mem_of_getElem? hbg))
      refine no_tests ?_
      rw [if_pos rfl]
      (try dsimp only)
      k_steps
      exact ⟨EltEnd.mk F₁ N₁ (fun _ h => h), (hJx.push rfl).to (map_snoc hbg).symm⟩
    · intro Dx C ysx kx mc' hx tkx hDn hDC hLD hC0 hJx hnC F₁ N₁
      refine' done_in hDn hDC hLD hC0 ?fa ?fb ?fc ?fd
      case fa => exact hnC
      case fb => exact F₁
      case fc => exact N₁
      intro h' F₃ N₃
      clear F₁ N₁ hnC
      (try dsimp only)
      k_steps
      have hxl : ysx.size = 32 := by
        have h1 := hJx.length
        simp only [Array.length_toList, List.length_map, List.length_take, List.size_toArray, hB.length.symm] at h1
        omega
      refine add_K2 (by k_asm) (by k_asm) (by k_mem) (by k_mem) ?_ ?_
      · simp only [List.size_toArray, List.length_drop, Array.length_toList]; omega
      intro Df hf Ff Nf lf
      have hlf : ∀ p ∈ news, p.1 < Df := fun p hp => lf p (.tail _ (.tail _ (.tail _ (.tail _ hp))))
      obtain ⟨arrf, hFl, Ng⟩ : ∃ arrf : Array Value, NatsV arrf.toList (flipped cs) ∧ News _ _ hf ((Df, listOf arrf 0) :: news) := by
        refine ⟨_, ?_, cb_drop Nf (List.forall_mem_cons.mpr ⟨.head _, fun p hp => .tail _ (.tail _ (.tail _ (.tail _ (.tail _ hp))))⟩)⟩
        rw [Array.toList_append]
        refine (hJx.append (hB.drop 32)).to ?_
        have h1 := hB.length
        rw [List.take_of_length_le (by rw [List.size_toArray, List.length_take, List.length_take, ← h1]; exact Nat.le_refl _)]
        rfl
      clear Nf lf
      (try dsimp only)
      k_steps
      refine src_list (fun i m' news' => (∃ t', m' (Str.ofString "rest") = some (.int (((flipped cs).take i).foldl restStep 0 : Nat) t')) ∧ news' = (Df, listOf arrf 0) :: news) rfl (by k_asm) Ng (.head _) ⟨⟨_, rfl⟩, rfl⟩ ?_ ?_ ?_ (.inl fun _ _ => rfl)
      · rintro i m' news' ⟨_, rfl⟩
        exact .head _
      · rintro i v m₁ news₁ h tk I oI hv ⟨⟨t1, h1⟩, rfl⟩ _ ho F₁ N₁
        obtain ⟨b, tb, rfl, hbg⟩ := hFl.get (i := i) (by simpa using hv)
        have hb1 : b ≤ 1 := flipped_le cs b (List.mem_of_getElem? hbg)
        have hr : ((flipped cs).take i).foldl restStep 0 < 4294967296 := rest_lt _ (fun b hb => flipped_le cs b (List.mem_of_mem_take hb))
        have hnx : ((flipped cs).take (i + 1)).foldl restStep 0 = restStep (((flipped cs).take i).foldl restStep 0) b := by
          rw [List.take_add_one, hbg, List.foldl_append]; rfl
        generalize ((flipped cs).take i).foldl restStep 0 = r at *
        refine turn_name (fr_at1 F₁ h1) N₁ (fun h' tk' F' N' => ?_) rfl rfl
        clear F₁ N₁ h1
        (try dsimp only)
        k_steps
        · refine turn_keep (by k_asm) (by k_asm) ho ⟨int_at (by with_unfolding_all rfl) ?_, rfl⟩
          rw [hnx, restStep, if_pos (by omega)]
        · refine turn_keep (by k_asm) (by k_asm) ho ⟨int_at (by with_unfolding_all rfl) ?_, rfl⟩
          rw [hnx, restStep, if_neg (by omega)]
      · rintro m₁ news₁ h tk ⟨⟨t1, h1⟩, rfl⟩ F₁ N₁
        rw [show ((flipped cs).take arrf.size) = flipped cs from List.take_of_length_le (by rw [← hFl.length]; simp)] at h1
        have F₂ := fr_at1 F₁ h1
        clear F₁ h1
        k_steps
        refine src_range (n := 32) (fun i m' news' => (∃ t', m' (Str.ofString "turned") = some (.int (turned (restOf cs) i : Nat) t')) ∧ m' (Str.ofString "rest") = some (.int (restOf cs : Nat) t1) ∧ news' = (Df, listOf arrf 0) :: news) rfl (by k_asm) (by k_asm) (by assumption) (by decide) (by decide) ⟨⟨_, rfl⟩, rfl, rfl⟩ ?_ ?_
        · rintro i ti m₂ news₂ h' tk' I oI hi ⟨⟨t2, h2⟩, h3, rfl⟩ _ ho F₃ N₃
          have ht : turned (restOf cs) i < 2 ^ i := turned_lt _ _
          have ht' : turned (restOf cs) i < 2 ^ 40 := Nat.lt_of_lt_of_le ht (Nat.pow_le_pow_right (by decide) (by omega))
          refine turn_name (fr_at2 F₃ h2 h3) N₃ (fun h' tk' F' N' => ?_) rfl rfl
          clear F₃ N₃ h2 h3
          (try dsimp only)
          k_steps
          refine turn_keep (by k_asm) (by k_asm) ho ⟨int_at (by with_unfolding_all rfl) ?_, by with_unfolding_all rfl, rfl⟩
          rw [turned_succ]
        · rintro m₂ news₂ h' tk' ⟨⟨t2, h2⟩, h3, rfl⟩ F₃ N₃
          have F₄ := fr_at1 F₃ h2
          clear F₃ h2
          k_steps
          rename_i kF kN kT kX
          exact hret _ _ _ ⟨_, rfl⟩ kF (fun p hp => kN p (.tail _ hp))
end Mine
end

section
set_option maxRecDepth 100000
set_option maxHeartbeats 2000000
namespace Mine
theorem filled9 : (PySem.Challenge.rw_nb0025_01, hd.heap_39) = (PySem.Challenge.rw_nb0025_01, hd.heap_39) := by w_top off; k_fill; rfl

/-- as TellL, and of the ground below -/
def TellB (w : World) (f : Addr) (D U : Nat) (vs : List Value) (needB : Heap → Prop) (R : List (Addr × Obj) → Value → Prop) : Prop :=
  ∀ (prog : Program) (mean : ExcName → Option Value) (mg mb : Str → Option Value) (dp un : Nat) (gd : Option (List Code)) (cn : Str) (cs : Scope) (a : Addr) (ccd : Value) (cl : List (Str × Addr)) (outer : List Env) (A₀ : Around) (base h₀ : Heap) (L : Addr) (m : Str → Option Value) (news : List (Addr × Obj)) (s : Shared) (Q E : Value → Shared → Prop),
    Below A₀ base outer h₀ → Fr h₀ L s.heap m → (hd.heap_39 w.params).In h₀ → News h₀ L s.heap news → Top hd.view_39 (looseW hd.view_39 []) mean mg mb h₀ → cs.kind = .function → needB h₀ → dp + D < recursionLimit → un + U < cLine →
    (∀ r h' tk' tl, R tl r → (∀ q ∈ news, ∀ p ∈ tl, q.1 < p.1) → Fr h₀ L h' m → News h₀ L h' (tl ++ news) → Q r { s with heap := h', toks := tk' }) →
    wpAny (model prog w) (ktrTop dp un gd cn cs L a ccd cl outer) (call (.ref f) vs) Q E s
theorem TellB.use {w : World} {f : Addr} {D U : Nat} {vs : List Value} {needB : Heap → Prop} {R : List (Addr × Obj) → Value → Prop} (C : TellB w f D U vs needB R) {prog : Program} {mean : ExcName → Option Value} {mg mb : Str → Option Value} {dp un : Nat} {gd : Option (List Code)} {cn : Str} {cs : Scope} {a : Addr} {ccd : Value} {cl : List (Str × Addr)} {outer : List Env} {A₀ : Around} {base h₀ : Heap} {L : Addr} {m : Str → Option Value} {news : List (Addr × Obj)} {s : Shared} {Q E : Value → Shared → Prop}
    (B : Below A₀ base outer h₀) (F : Fr h₀ L s.heap m) (X : (hd.heap_39 w.params).In h₀) (N : News h₀ L s.heap news) (T : Top hd.view_39 (looseW hd.view_39 []) mean mg mb h₀) (hk : cs.kind = .function) (hn : needB h₀) (hdp : dp + D < recursionLimit) (hun : un + U < cLine)
    (ret : ∀ r h' tk' tl, R tl r → (∀ q ∈ news, ∀ p ∈ tl, q.1 < p.1) → Fr h₀ L h' m → News h₀ L h' (tl ++ news) → Q r { s with heap := h', toks := tk' }) :
    wpAny (model prog w) (ktrTop dp un gd cn cs L a ccd cl outer) (call (.ref f) vs) Q E s := C _ _ _ _ _ _ _ _ _ _ _ _ _ _ _ _ _ _ _ _ _ _ B F X N T hk hn hdp hun ret

inductive RowsIn (led : List (Addr × Obj)) : List Value → List (List Int) → Prop
  | nil : RowsIn led [] []
  | cons {p : Addr} {arr : Array Value} {k : Nat} {row : List Int} {vs : List Value} {rows : List (List Int)} : (p, listOf arr k) ∈ led → IntsAre arr.toList row → RowsIn led vs rows → RowsIn led (.ref p :: vs) (row :: rows)
theorem RowsIn.mono {led led' : List (Addr × Obj)} {vs : List Value} {rows : List (List Int)} (h : RowsIn led vs rows) (hs : ∀ p ∈ led, p ∈ led') : RowsIn led' vs rows := by
  induction h with
  | nil => exact .nil
  | cons hm hi _ ih => exact .cons (hs _ hm) hi ih
theorem RowsIn.append {led : List (Addr × Obj)} {vs vs' : List Value} {ws ws' : List (List Int)} (h : RowsIn led vs ws) (h' : RowsIn led vs' ws') : RowsIn led (vs ++ vs') (ws ++ ws') := by
  induction h with
  | nil => exact h'
  | cons hm hi _ ih => exact .cons hm hi ih
theorem RowsIn.length {led : List (Addr × Obj)} {vs : List Value} {ws : List (List Int)} (h : RowsIn led vs ws) : vs.length = ws.length := by
  induction h with
  | nil => rfl
  | cons _ _ _ ih => rw [List.length_cons, List.length_cons, ih]
theorem RowsIn.get {led : List (Addr × Obj)} {vs : List Value} {ws : List (List Int)} (h : RowsIn led vs ws) : ∀ {i : Nat} {v : Value}, vs[i]? = some v → ∃ p arr k row, v = .ref p ∧ ws[i]? = some row ∧ (p, listOf arr k) ∈ led ∧ IntsAre arr.toList row := by
  induction h with
  | nil => intro i v h; simp at h
  | cons hm hi _ ih =>
    intro i v h
    cases i with
    | zero => simp at h; subst h; exact ⟨_, _, _, _, rfl, rfl, hm, hi⟩
    | succ i => simpa using ih (by simpa using h)

def thingOf (x : Int) : Int := if (x.fdiv 4).fmod 256 = 127 then 127 else x.fdiv 4
def rowStep (st : List (List Int) × List Int) (x : Int) : List (List Int) × List Int :=
  if x.fmod 4 = 0 ∨ st.2.length + 1 = 4 then (st.1 ++ [st.2 ++ [thingOf x]], []) else (st.1, st.2 ++ [thingOf x])
def numbers (ns : List Int) : List Int := ns.take 8 ++ [121, 133, 632, 133, 377, 377, 900]
def lawRows (ns : List Int) : List (List Int) := ((numbers ns).foldl rowStep ([], [])).1
def RowsOut (rows : List (List Int)) (tl : List (Addr × Obj)) (r : Value) : Prop := ∃ a arr k tl', tl = (a, listOf arr k) :: tl' ∧ r = .ref a ∧ (∀ p ∈ tl', a < p.1) ∧ RowsIn tl' arr.toList rows

local macro_rules | `(tactic| walk_at "binaryOp Add ref ref") => `(tactic| (k_here; (with_reducible show wpAny _ _ (binaryOp _ (Value.ref _) (Value.ref _)) _ _ _); refine Hold.out ?_))
local macro_rules | `(tactic| walk_at "subscriptTail Name Slice ref ref") => `(tactic| (k_here; refine Hold.out ?_))
local macro_rules | `(tactic| walk_at "exec For Name BinOp cons nil") => `(tactic| (k_here; with_unfolding_all (refine for_in ?_ (by intro _; rfl))))
local macro_rules | `(tactic| k_all) => `(tactic| assumption)
local macro_rules | `(tactic| walk_at "call builtin:list.append") => `(tactic| (k_here; k_dflt (refine' append_K ?k1 ?k2 ?k3 ?_ ?z; (case k1 => k_asm); (case k2 => k_asm); (case k3 => k_upd); (case z => first | size_fits | (rw [sizeLine_eq]; omega)); k_whole); intro h' F' N'))

theorem slice_toL {prog : Program} {w : World} {A : Around} {E : Value → Shared → Prop} {s : Shared} {h₀ : Heap} {L l : Addr} {m : Str → Option Value} {news : List (Addr × Obj)} {arr : Array Value} {u : Tok} {Q : Value → Shared → Prop} {value slice : Expr} {n : Nat} {y : Int} (F : Fr h₀ L s.heap m) (N : News h₀ L s.heap news) (hl : s.heap.IsList l arr) (hy : y = (n : Int)) (hsz : arr.size ≤ 1000000)
    (h : ∀ D h', Fr h₀ L h' m → News h₀ L h' ((D, listOf (arr.toList.take n).toArray 0) :: news) → (∀ p ∈ news, p.1 < D) → Q (.ref D) { s with heap := h' })
    (hs : subscripted slice false (.ref l) (.ref s.heap.objs.size) = operate [.ref s.heap.objs.size, .ref l] (getItem (.ref l) (.ref s.heap.objs.size))) (ht : ∀ r, letTemporaryGo value (.ref l) r = pure ()) :
    wpAny (model prog w) A (subscriptTail value slice (.ref l) (.ref s.heap.objs.size)) Q E { s with heap := s.heap.push { cls := .type "slice", data := .fields #[.none, .int y u, .none] } } := by
  subst hy
  refine slice_list F N hl .none (.int _ _) (fun h' F' N' => h _ h' F' ?_ fun p hp => Nat.lt_succ_of_lt (Heap.lt_size (N p hp).1)) hs ht (by rw [sizeLine_eq]; omega)
  have e := slicePick_upto' arr n
  rw [e] at N'
  exact N'
theorem len_arr {prog : Program} {w : World} {A : Around} {E : Value → Shared → Prop} {s : Shared} {h₀ : Heap} {L l : Addr} {news : List (Addr × Obj)} {arr : Array Value} {k : Nat} {Q : Value → Shared → Prop} (N : News h₀ L s.heap news) (hl : (l, listOf arr k) ∈ news) (hsz : arr.size ≤ 1000000)
    (h : ∀ t' tk', Q (.int (arr.size : Nat) t') { s with toks := tk' }) : wpAny (model prog w) A (call (.builtin "len") [.ref l]) Q E s :=
  len_list (News.isList N hl) (by omega) (h _ _)
local macro_rules | `(tactic| walk_at "call builtin:len") => `(tactic| (k_here; k_dflt (refine' len_arr ?k1 ?k2 ?z ?_; (case k1 => k_asm); (case k2 => k_mem); (case z => (try simp only [Array.size_push]); omega); k_whole); intro t9 tk9; (try simp only [Array.size_push])))
theorem ints_append {vs vs' : List Value} {ls ls' : List Int} (h : IntsAre vs ls) (h' : IntsAre vs' ls') : IntsAre (vs ++ vs') (ls ++ ls') := by
  induction h with
  | nil => exact h'
  | cons n t _ ih => exact .cons n t ih

theorem rows_src {h₀ h : Heap} {L Ds : Addr} {arr : Array Value} {x1 x2 b a : Addr × Obj} {news : List (Addr × Obj)} (N : News h₀ L h ((Ds, listOf arr 0) :: x1 :: x2 :: b :: a :: news)) : News h₀ L h (b :: a :: ([] ++ ((Ds, listOf arr 0) :: news))) := cb_drop N (by
  intro p hp
  simp only [List.mem_cons, List.nil_append] at hp ⊢
  rcases hp with h | h | h | h <;> simp only [h, true_or, or_true])
theorem ints_get {vs : List Value} {ns : List Int} (h : IntsAre vs ns) : ∀ {i : Nat} {v : Value}, vs[i]? = some v → ∃ x t, v = .int x t ∧ ns[i]? = some x := by
  induction h with
  | nil => intro i v h; simp at h
  | cons n t _ ih =>
    intro i v h
    cases i with
    | zero => simp at h; subst h; exact ⟨_, _, rfl, rfl⟩
    | succ i => simpa using ih (by simpa using h)
theorem ints_push {arr : Array Value} {ls : List Int} {x y : Int} {t : Tok} (h : IntsAre arr.toList ls) (e : x = y) : IntsAre (arr.push (.int x t)).toList (ls ++ [y]) := by
  subst e
  rw [Array.toList_push]
  exact ints_append h (.cons _ _ .nil)
theorem turn_row {h₀ : Heap} {L I : Addr} {oI : Obj} {J : (Str → Option Value) → List (Addr × Obj) → Prop} {s : Shared} {h' : Heap} {tk' : Nat} {m' : Str → Option Value} {bn b a : Addr} {on ob oa : Obj} {tl X : List (Addr × Obj)}
    (F : Fr h₀ L h' m') (N : News h₀ L h' ((bn, on) :: (I, oI) :: (b, ob) :: (a, oa) :: (tl ++ X))) (hbn : I < bn) (hb : b ≠ I) (ha : a ≠ I) (hI : ∀ p ∈ tl ++ X, p.1 ≠ I)
    (hJ : J m' ((bn, on) :: (a, oa) :: (((b, ob) :: tl) ++ X))) : TurnEnd h₀ L I oI J s { s with heap := h', toks := tk' } := by
  refine TurnEnd.mk _ F N (fun p hp => ?_) (fun p hp => ?_) hJ
  · simp only [List.mem_cons, List.mem_append, List.cons_append] at hp ⊢
    rcases hp with h | h | h | h | h | h <;> simp only [h, true_or, or_true]
  · rcases List.mem_cons.mp hp with rfl | hp
    · exact Nat.ne_of_gt hbn
    · rcases List.mem_cons.mp hp with rfl | hp
      · exact ha
      · rcases List.mem_cons.mp hp with rfl | hp
        · exact hb
        · exact hI p hp

def RowJ (a0 : Addr) (X : List (Addr × Obj)) (st : List (List Int) × List Int) (i : Nat) (m' : Str → Option Value) (news' : List (Addr × Obj)) : Prop :=
  m' (Str.ofString "rows") = some (.ref a0) ∧ ∃ b arrb kb arra ka tl', m' (Str.ofString "row") = some (.ref b) ∧ news' = (b, listOf arrb kb) :: (a0, listOf arra ka) :: (tl' ++ X) ∧ IntsAre arrb.toList st.2 ∧ RowsIn tl' arra.toList st.1 ∧
      a0 < b ∧ (∀ p ∈ tl', a0 < p.1) ∧ (∀ p ∈ tl' ++ X, p.1 ≠ a0) ∧ (∀ p ∈ (a0, listOf arra ka) :: (tl' ++ X), p.1 ≠ b) ∧ arrb.size < 4 ∧ arra.size ≤ i
theorem row_close {a0 b bn : Addr} {X tl' : List (Addr × Obj)} {st : List (List Int) × List Int} {i kb ka : Nat} {arrb arra : Array Value} {m' : Str → Option Value} {th : Int} {t : Tok} (hr : m' (Str.ofString "rows") = some (.ref a0)) (hb : m' (Str.ofString "row") = some (.ref bn)) (hIb : IntsAre arrb.toList st.2) (hRa : RowsIn tl' arra.toList st.1)
    (hab : a0 < b) (hta : ∀ p ∈ tl', a0 < p.1) (hoffa : ∀ p ∈ tl' ++ X, p.1 ≠ a0) (hsa : arra.size ≤ i) (hbn : b < bn) (hall : ∀ p ∈ tl' ++ X, p.1 < bn) :
    RowJ a0 X (st.1 ++ [st.2 ++ [th]], []) (i + 1) m' ((bn, listOf #[] 0) :: (a0, listOf (arra.push (.ref b)) (ka + 1)) :: (((b, listOf (arrb.push (.int th t)) (kb + 1)) :: tl') ++ X)) := by
  refine ⟨hr, bn, #[], 0, _, _, _, hb, rfl, .nil, ?_, Nat.lt_trans hab hbn, List.forall_mem_cons.mpr ⟨hab, hta⟩, List.forall_mem_cons.mpr ⟨Nat.ne_of_gt hab, hoffa⟩, List.forall_mem_cons.mpr ⟨Nat.ne_of_lt (Nat.lt_trans hab hbn), List.forall_mem_cons.mpr ⟨Nat.ne_of_lt hbn, fun p hp => Nat.ne_of_lt (hall p hp)⟩⟩, by decide, by rw [Array.size_push]; omega⟩
  rw [Array.toList_push]
  exact (hRa.mono fun _ h => .tail _ h).append (.cons (.head _) (ints_push hIb rfl) .nil)
theorem row_go {a0 b : Addr} {X tl' : List (Addr × Obj)} {st : List (List Int) × List Int} {i kb ka : Nat} {arrb arra : Array Value} {m' : Str → Option Value} {th : Int} {t : Tok} (hr : m' (Str.ofString "rows") = some (.ref a0)) (hb : m' (Str.ofString "row") = some (.ref b)) (hIb : IntsAre arrb.toList st.2) (hRa : RowsIn tl' arra.toList st.1)
    (hab : a0 < b) (hta : ∀ p ∈ tl', a0 < p.1) (hoffa : ∀ p ∈ tl' ++ X, p.1 ≠ a0) (hoffb : ∀ p ∈ (a0, listOf arra ka) :: (tl' ++ X), p.1 ≠ b) (hsb : arrb.size + 1 < 4) (hsa : arra.size ≤ i) :
    RowJ a0 X (st.1, st.2 ++ [th]) (i + 1) m' ((b, listOf (arrb.push (.int th t)) (kb + 1)) :: (a0, listOf arra ka) :: (tl' ++ X)) :=
  ⟨hr, b, _, _, _, _, _, hb, rfl, ints_push hIb rfl, hRa, hab, hta, hoffa, hoffb, by rw [Array.size_push]; exact hsb, by omega⟩

theorem law_rows (w : World) (sc : Addr) (vs : List Value) (ns : List Int) (hi : IntsAre vs ns) (hlen : ns.length ≤ 63) : TellB w 63 8 64 [.ref sc] (fun h₀ => h₀.IsList sc vs.toArray) (RowsOut (lawRows ns)) := by
  unfold TellB
  intro prog mean mg mb dp un gd cn csc a ccd cl outer A₀ base h₀ L m news s Q E B F X N T hk hn hdp hun hret
  refine wpAny_call ?_
  k_dflt ktr_enter
  rename_i g1 L1 hh1 FG1 F1 N1 B1 X1 T1
  have hsc : g1.IsList sc vs.toArray := hn.at fun o e => FG1.keep _ o e
  k_steps
  rename_i a0 hz1 hl0 hz2 tkz b0 hz3 hl1 hz4 FZ NZ
  refine slice_toL (n := 8) FZ NZ (hsc.at fun o e => FZ.keep _ o e) rfl (by rw [List.size_toArray, hi.length]; omega) ?_ (by with_unfolding_all rfl) (by intro _; with_unfolding_all rfl)
  intro D1 h1 Fa Na la
  (try dsimp only)
  k_steps
  refine add_K2 (by k_asm) (by k_asm) (by k_mem) (by k_mem) ?_ ?_
  · simp; omega
  intro Ds hs Fs Ns ls
  have hls : ∀ p ∈ (b0, listOf #[] 0) :: (a0, listOf #[] 0) :: news, p.1 < Ds := fun p hp => ls p (.tail _ (.tail _ hp))
  obtain ⟨arrs, hI, Nt⟩ : ∃ arrs : Array Value, IntsAre arrs.toList (numbers ns) ∧ News _ _ hs ((b0, listOf #[] 0) :: (a0, listOf #[] 0) :: ([] ++ ((Ds, listOf arrs 0) :: news))) := by
    refine ⟨_, ?_, rows_src Ns⟩
    rw [Array.toList_append]
    exact ints_append (hi.take 8) (.cons _ _ (.cons _ _ (.cons _ _ (.cons _ _ (.cons _ _ (.cons _ _ (.cons _ _ .nil)))))))
  clear Ns ls
  (try dsimp only)
  k_steps
  refine src_list (fun i m' news' => RowJ a0 ((Ds, listOf arrs 0) :: news) (((numbers ns).take i).foldl rowStep ([], [])) i m' news') rfl (by k_asm) Nt (.tail _ (.tail _ (.head _)))
    ⟨rfl, b0, #[], 0, #[], 0, [], rfl, rfl, .nil, .nil, ?_, List.forall_mem_nil _, ?_, ?_, by decide, by decide⟩ ?_ ?_ ?_ (.inl fun _ _ => rfl)
  · exact hl1.1
  · exact List.forall_mem_cons.mpr ⟨Nat.ne_of_gt (hls (a0, listOf #[] 0) (.tail _ (.head _))), fun p hp => Nat.ne_of_lt (hl0 p hp)⟩
  · exact List.forall_mem_cons.mpr ⟨Nat.ne_of_lt hl1.1, List.forall_mem_cons.mpr ⟨Nat.ne_of_gt (hls (b0, listOf #[] 0) (.head _)), fun p hp => Nat.ne_of_lt (ktn_ltOf hl1.2 p hp)⟩⟩
  · rintro i m' news' ⟨_, b, arrb, kb, arra, ka, tl', _, rfl, _⟩
    exact .tail _ (.tail _ (List.mem_append_right _ (.head _)))
  · rintro i v m₁ news₁ h tk I oI hv ⟨hr, b, arrb, kb, arra, ka, tl', hb, rfl, hIb, hRa, hab, hta, hoffa, hoffb, hsb, hsa⟩ hIlt hI9 F₁ N₁
    have hIa := ltN (hIlt (a0, listOf #[] 0) (.tail _ (.head _)))
    dsimp only at hIa
    have hIb9 := neN (hI9 (b, listOf arrb kb) (.head _))
    dsimp only at hIb9
    have hab9 := ltN hab
    obtain ⟨x, tx, rfl, hx⟩ := ints_get hI (i := i) (by simpa using hv)
    have hnx : ((numbers ns).take (i + 1)).foldl rowStep ([], []) = rowStep (((numbers ns).take i).foldl rowStep ([], [])) x := by
      rw [List.take_add_one, hx, List.foldl_append]; rfl
    have hil : i < 15 := by
      have h1 := (List.getElem?_eq_some_iff.mp hx).1
      simp only [numbers, List.length_append, List.length_take, List.length_cons, List.length_nil] at h1
      omega
    generalize ((numbers ns).take i).foldl rowStep ([], []) = st at *
    have hlb : arrb.size = st.2.length := by rw [← hIb.length, Array.length_toList]
    refine turn_name (fr_at2 F₁ hr hb) N₁ (fun h' tk' F' N' => ?_) rfl rfl
    clear F₁ N₁ hr hb
    (try dsimp only)
    k_steps
    all_goals rw [hnx]
    all_goals unfold rowStep thingOf
    · rename_i bn hq1 lq hq2 FQ NQ
      rw [if_pos (.inl (by assumption)), if_pos (by assumption)]
      exact turn_row FQ NQ lq.1 hIb9 (Nat.ne_of_lt hIa) (fun p hp => hI9 p (.tail _ (.tail _ hp))) (row_close rfl rfl hIb hRa hab hta hoffa hsa lq.2.1 (ktn_ltOf lq.2.2.2))
    · rename_i bn hq1 lq hq2 FQ NQ
      rw [if_pos (.inr (by omega)), if_pos (by assumption)]
      exact turn_row FQ NQ lq.1 hIb9 (Nat.ne_of_lt hIa) (fun p hp => hI9 p (.tail _ (.tail _ hp))) (row_close rfl rfl hIb hRa hab hta hoffa hsa lq.2.1 (ktn_ltOf lq.2.2.2))
    · rw [if_neg (by omega), if_pos (by assumption)]
      exact turn_keep (by k_asm) (by k_asm) (List.forall_mem_cons.mpr ⟨hIb9, fun p hp => hI9 p (.tail _ hp)⟩) (row_go rfl rfl hIb hRa hab hta hoffa hoffb (by omega) hsa)
    · rename_i bn hq1 lq hq2 FQ NQ
      rw [if_pos (.inl (by assumption)), if_neg (by assumption)]
      exact turn_row FQ NQ lq.1 hIb9 (Nat.ne_of_lt hIa) (fun p hp => hI9 p (.tail _ (.tail _ hp))) (row_close rfl rfl hIb hRa hab hta hoffa hsa lq.2.1 (ktn_ltOf lq.2.2.2))
    · rename_i bn hq1 lq hq2 FQ NQ
      rw [if_pos (.inr (by omega)), if_neg (by assumption)]
      exact turn_row FQ NQ lq.1 hIb9 (Nat.ne_of_lt hIa) (fun p hp => hI9 p (.tail _ (.tail _ hp))) (row_close rfl rfl hIb hRa hab hta hoffa hsa lq.2.1 (ktn_ltOf lq.2.2.2))
    · rw [if_neg (by omega), if_neg (by assumption)]
      exact turn_keep (by k_asm) (by k_asm) (List.forall_mem_cons.mpr ⟨hIb9, fun p hp => hI9 p (.tail _ hp)⟩) (row_go rfl rfl hIb hRa hab hta hoffa hoffb (by omega) hsa)
  · rintro m₁ news₁ h tk ⟨hr, b, arrb, kb, arra, ka, tl', hb, rfl, hIb, hRa, hab, hta, hoffa, hoffb, hsb, hsa⟩ F₁ N₁
    rw [show (numbers ns).take arrs.size = numbers ns from List.take_of_length_le (by rw [← hI.length]; simp)] at hRa
    have F₂ := fr_at1 F₁ hr
    clear F₁ hr
    k_steps
    rename_i kF kN kT kX
    refine hret _ _ _ ((a0, listOf arra ka) :: tl') ⟨_, _, _, _, rfl, rfl, hta, hRa⟩ (ord_cons hl0 fun q hq p hp => Nat.lt_trans (hl0 q hq) (hta p hp)) kF (cb_drop kN ?_)
    intro p hp
    simp only [List.mem_cons, List.mem_append, List.cons_append] at hp ⊢
    rcases hp with h | h | h <;> simp only [h, true_or, or_true]
end Mine
end

section
namespace Mine
theorem txts_carried {vs : List Value} {ls : List (List Nat)} (h : Txts vs ls) : CarriedAll vs (ls.map fun l => PyData.str (⟨l.toArray⟩ : Str)) := by
  induction h with
  | nil => exact .nil
  | cons _ ih => exact .cons (.str _ _) ih
theorem join_is : ∀ ls : List (List Nat), Str.join (Str.ofString "") (ls.map fun l => (⟨l.toArray⟩ : Str)) = ⟨ls.flatten.toArray⟩
  | [] => rfl
  | [x] => by
    show (⟨x.toArray⟩ : Str) = _
    simp
  | x :: y :: r => by
    have ih := join_is (y :: r)
    show (⟨x.toArray⟩ : Str) ++ Str.ofString "" ++ Str.join (Str.ofString "") ((y :: r).map fun l => (⟨l.toArray⟩ : Str)) = _
    rw [ih, show Str.ofString "" = (⟨#[]⟩ : Str) by decide +kernel]
    show Str.mk ((x.toArray ++ #[]) ++ (y :: r).flatten.toArray) = _
    simp
theorem join_txts {prog : Program} {w : World} {A : Around} {E : Value → Shared → Prop} {s : Shared} {h₀ : Heap} {L D : Addr} {news : List (Addr × Obj)} {arr : Array Value} {k : Nat} {ls : List (List Nat)} {t : Tok} {Q : Value → Shared → Prop} (N : News h₀ L s.heap news) (hl : (D, listOf arr k) ∈ news) (hT : Txts arr.toList ls) (hB : ∀ l ∈ ls, l.length ≤ 16) (hn : ls.length ≤ 1000)
    (h : ∀ t' k, Q (.str ⟨ls.flatten.toArray⟩ t') { s with toks := k }) : wpAny (model prog w) A (call (.builtin "str.join") [.str (Str.ofString "") t, .ref D]) Q E s := by
  have hi : s.heap.IsList D arr.toList.toArray := by
    rw [Array.toArray_toList]
    exact News.isList N hl
  refine KT.join_B (g := fun l : List Nat => (⟨l.toArray⟩ : Str)) (l := ls) 16 hi (txts_carried hT) (fun a ha => by simpa [Str.length] using hB a ha) (by omega) (by decide) fun t' k' => ?_
  have e : Txt.join (Str.ofString "") (ls.map fun l => (⟨l.toArray⟩ : Str)) = ⟨ls.flatten.toArray⟩ := by
    show Builtin.Str.glued (Str.ofString "") _ = _
    rw [StrLaws.glued_eq_join]
    exact join_is ls
  rw [e]
  exact h t' k'
theorem txts_dat {vs : List Value} {ls : List (List Nat)} (h : Txts vs ls) : DatAll [] vs (ls.map fun l => Dat.str (⟨l.toArray⟩ : Str)) := by
  induction h with
  | nil => exact .nil
  | cons _ ih => exact .cons (.str _ _) ih
open Classical in
theorem ne_texts {prog : Program} {w : World} {A : Around} {E : Value → Shared → Prop} {s : Shared} {h₀ : Heap} {L a b : Addr} {news : List (Addr × Obj)} {arr arr2 : Array Value} {k k2 : Nat} {ls : List (List Nat)} {Q : Value → Shared → Prop} (N : News h₀ L s.heap news) (ma : (a, listOf arr k) ∈ news) (mb : (b, listOf arr2 k2) ∈ news) (hT : Txts arr.toList ls) (hT2 : Txts arr2.toList ls)
    (hok : ∀ l ∈ ls, PyData.strOk (⟨l.toArray⟩ : Str) = true) (hu : A.units + 64 < cLine) (h : Q (.bool false) s) : wpAny (model prog w) A (compareOp .NotEq (.ref a) (.ref b)) Q E s := by
  have ok : ∀ d ∈ (ls.map fun l => Dat.str (⟨l.toArray⟩ : Str)), kqdOk 8 d = true := by
    intro d hd
    obtain ⟨l, hl, rfl⟩ := List.mem_map.mp hd
    exact hok l hl
  refine kqd_ne (xs := arr.toList) (ys := arr2.toList) N ma rfl (by rw [Array.toArray_toList]) (txts_dat hT) (List.forall_mem_nil _) mb rfl (by rw [Array.toArray_toList]) (txts_dat hT2) (List.forall_mem_nil _) ok ok hu ?_
  rw [decide_eq_true rfl]
  exact h
end Mine
end

section
namespace Mine
def RowOk (row : List Int) : Prop := ∀ x ∈ row, x.fmod 256 = 127 → x = 127
theorem thing_ok (x : Int) : (thingOf x).fmod 256 = 127 → thingOf x = 127 := by
  unfold thingOf
  split
  · intro _; rfl
  · intro h; contradiction
theorem rows_inv : ∀ (l : List Int) (st : List (List Int) × List Int), (∀ row ∈ st.1, row.length ≤ 4 ∧ RowOk row) → st.2.length < 4 → RowOk st.2 →
    ∀ row ∈ (l.foldl rowStep st).1, row.length ≤ 4 ∧ RowOk row
  | [], st, h1, _, _ => h1
  | x :: l, st, h1, h2, h3 => by
    have hok : RowOk (st.2 ++ [thingOf x]) := by
      intro y hy
      rcases List.mem_append.mp hy with h | h
      · exact h3 y h
      · rw [List.mem_singleton.mp h]; exact thing_ok x
    rw [List.foldl_cons]
    unfold rowStep
    split
    · refine rows_inv l _ ?_ (by simp) (fun y hy => nomatch hy)
      intro row hrow
      rcases List.mem_append.mp hrow with h | h
      · exact h1 row h
      · rw [List.mem_singleton.mp h]
        exact ⟨by rw [List.length_append, List.length_singleton]; omega, hok⟩
    · rename_i hc
      refine rows_inv l _ h1 ?_ hok
      show (st.2 ++ [thingOf x]).length < 4
      rw [List.length_append, List.length_singleton]; omega
theorem row_facts (ns : List Int) : ∀ row ∈ lawRows ns, row.length ≤ 4 ∧ ∀ x ∈ row, x.fmod 256 = 127 → x = 127 :=
  rows_inv _ _ (fun _ h => nomatch h) (by decide) (fun _ h => nomatch h)
theorem UI_print {c : Nat} (h1 : 32 ≤ c) (h2 : c ≤ 126) : UI (c : Int) = [c] := by
  unfold UI lowU
  rw [if_neg (by omega), if_neg (by omega), if_neg (by omega), if_pos (by omega)]
  have e : ((c : Int) % 128).toNat = c := by omega
  rw [e]; rfl
theorem UI_ctrl {c : Nat} (h1 : c < 32) : UI (c : Int) = [94, c + 64] := by
  unfold UI lowU
  rw [if_neg (by omega), if_neg (by omega), if_pos (by omega)]
  have e : ((c : Int) % 128).toNat = c := by omega
  rw [e]; rfl
theorem UI_alt {c : Nat} (h1 : c < 128) (h2 : c ≠ 127) : UI ((c + 128 : Nat) : Int) = 33 :: UI (c : Int) := by
  unfold UI
  rw [if_neg (by omega), if_pos (by omega), if_neg (by omega), if_neg (by omega)]
  have e : ((c + 128 : Nat) : Int) % 128 = (c : Int) % 128 := by omega
  rw [e]; rfl
theorem UI_127 : UI ((127 : Nat) : Int) = [94, 63] := by decide
theorem UI_255 : UI ((255 : Nat) : Int) = [33, 94, 159] := by decide
theorem low_write (l : List Nat) : ∀ p ∈ lowWords l, UI (p.2 : Int) = l.take p.1 := by
  intro p hp
  cases l with
  | nil => exact nomatch hp
  | cons c l =>
    cases l with
    | nil =>
      rw [lw1] at hp
      split at hp
      · rename_i h
        rw [List.mem_singleton.mp hp]; exact UI_print h.1 h.2
      · exact nomatch hp
    | cons d l =>
      rw [lw2] at hp
      rcases List.mem_append.mp hp with h | h
      · split at h
        · rename_i h'
          rw [List.mem_singleton.mp h]; exact UI_print h'.1 h'.2
        · exact nomatch h
      · split at h
        · rename_i h94
          rcases List.mem_append.mp h with h | h
          · split at h
            · rename_i hd
              rw [List.mem_singleton.mp h]
              show UI ((d % 32 : Nat) : Int) = [c, d]
              rw [UI_ctrl (by omega), h94, show d % 32 + 64 = d by omega]
            · exact nomatch h
          · split at h
            · rename_i hd
              rw [List.mem_singleton.mp h]
              show UI ((127 : Nat) : Int) = [c, d]
              rw [UI_127, h94, hd]
            · exact nomatch h
        · exact nomatch h
theorem words_write (l : List Nat) : ∀ p ∈ lawWords l, UI (p.2 : Int) = l.take p.1 := by
  intro p hp
  cases l with
  | nil => exact nomatch hp
  | cons c l =>
    cases l with
    | nil => rw [lww1] at hp; exact low_write _ p hp
    | cons d l =>
      rw [lww2] at hp
      rcases List.mem_append.mp hp with h | h
      · exact low_write _ p h
      · split at h
        · rename_i h33
          rcases List.mem_append.mp h with h | h
          · unfold altWords at h
            obtain ⟨q, hq, rfl⟩ := List.mem_map.mp h
            have hq1 := List.mem_filter.mp hq
            have hlt := lowWords_lt _ q hq1.1
            have hne : q.2 ≠ 127 := by simpa using hq1.2
            show UI ((q.2 + 128 : Nat) : Int) = (c :: d :: l).take (q.1 + 1)
            rw [UI_alt hlt hne, low_write _ q hq1.1, h33, List.take_succ_cons]
          · split at h
            · rename_i e
              rw [List.mem_singleton.mp h]
              show UI ((255 : Nat) : Int) = (c :: d :: l).take 3
              rw [UI_255, h33, List.take_succ_cons, e]
            · exact nomatch h
        · exact nomatch h
theorem reads_write : ∀ (n : Nat) (l : List Nat), ∀ r ∈ readings n l, r.flatMap (fun c : Nat => UI (c : Int)) = l
  | 0, l, r, h => by
    unfold readings at h
    split at h
    · rename_i e
      rw [List.mem_singleton.mp h, e]; rfl
    · exact nomatch h
  | n + 1, l, r, h => by
    unfold readings at h
    obtain ⟨p, hp, h⟩ := List.mem_flatMap.mp h
    obtain ⟨q, hq, rfl⟩ := List.mem_map.mp h
    rw [List.flatMap_cons, words_write l p hp, reads_write n _ q hq, List.take_append_drop]
end Mine
end

section
namespace Mine
/-! the CRC, plain: the reflected register, its linearity, its injectivity -/
theorem tb_div2 (c i : Nat) : (c / 2).testBit i = c.testBit (i + 1) := (Nat.testBit_succ c i).symm
theorem tb0 (c : Nat) : c.testBit 0 = decide (c % 2 = 1) := Nat.testBit_zero c
theorem gc_bit (c i : Nat) : (gcStep c).testBit i = (c.testBit (i + 1) ^^ (c.testBit 0 && (3988292384 : Nat).testBit i)) := by
  unfold gcStep
  by_cases h : c % 2 = 1
  · rw [if_pos h, Nat.testBit_xor, tb_div2, tb0, decide_eq_true h, Bool.true_and]
  · rw [if_neg h, tb_div2, tb0, decide_eq_false h, Bool.false_and, Bool.xor_false]
theorem gc_xor (a b : Nat) : gcStep (a ^^^ b) = gcStep a ^^^ gcStep b := by
  apply Nat.eq_of_testBit_eq
  intro i
  rw [Nat.testBit_xor, gc_bit, gc_bit, gc_bit, Nat.testBit_xor, Nat.testBit_xor]
  cases a.testBit (i + 1) <;> cases b.testBit (i + 1) <;> cases a.testBit 0 <;> cases b.testBit 0 <;> cases (3988292384 : Nat).testBit i <;> rfl
theorem gcI_xor (n a b : Nat) : gcIter n (a ^^^ b) = gcIter n a ^^^ gcIter n b := by
  induction n with
  | zero => rfl
  | succ n ih => show gcStep _ = gcStep _ ^^^ gcStep _; rw [ih, gc_xor]
theorem gc_even (y : Nat) : gcStep (2 * y) = y := by
  unfold gcStep
  rw [if_neg (by omega)]; omega
theorem gcI_add (m n c : Nat) : gcIter (m + n) c = gcIter m (gcIter n c) := by
  induction m with
  | zero => rw [Nat.zero_add]; rfl
  | succ m ih => rw [Nat.succ_add]; show gcStep _ = gcStep _; rw [ih]
theorem gcI_256 (y : Nat) : gcIter 8 (256 * y) = y := by
  show gcStep (gcStep (gcStep (gcStep (gcStep (gcStep (gcStep (gcStep (256 * y)))))))) = y
  rw [show 256 * y = 2 * (2 * (2 * (2 * (2 * (2 * (2 * (2 * y))))))) by omega]
  simp only [gc_even]
theorem split_256 (x : Nat) : x = 256 * (x / 256) ^^^ x % 256 := by
  apply Nat.eq_of_testBit_eq
  intro i
  rw [Nat.testBit_xor, show (256 : Nat) = 2 ^ 8 from rfl, Nat.testBit_two_pow_mul, Nat.testBit_mod_two_pow, Nat.testBit_div_two_pow]
  by_cases h : i < 8
  · simp [h, show ¬ 8 ≤ i by omega]
  · simp [h, show 8 ≤ i by omega]
theorem xor_hi {s c : Nat} (h : c < 256) : (s ^^^ c) / 256 = s / 256 := by
  apply Nat.eq_of_testBit_eq
  intro i
  rw [show (256 : Nat) = 2 ^ 8 from rfl, Nat.testBit_div_two_pow, Nat.testBit_div_two_pow, Nat.testBit_xor, Nat.testBit_lt_two_pow (x := c) (Nat.lt_of_lt_of_le h (Nat.pow_le_pow_right (n := 2) (by decide) (by omega : 8 ≤ i + 8))), Bool.xor_false]
theorem sum_step {s c : Nat} (h : c < 256) : sumStep s c = gcIter 8 (s ^^^ c) := by
  have e := split_256 (s ^^^ c)
  unfold sumStep
  generalize hx : s ^^^ c = x at *
  rw [← xor_hi (s := s) h, hx]
  conv => rhs; rw [e]
  rw [gcI_xor, gcI_256]
def packed : List Nat → Nat
  | [] => 0
  | c :: cs => c ^^^ 256 * packed cs
theorem fold_sum : ∀ (cs : List Nat) (s : Nat), (∀ c ∈ cs, c < 256) → cs.foldl sumStep s = gcIter (8 * cs.length) (s ^^^ packed cs)
  | [], s, _ => by
    show s = s ^^^ 0
    rw [Nat.xor_zero]
  | c :: cs, s, h => by
    rw [List.foldl_cons, sum_step (h c (.head _)), fold_sum cs _ (fun d hd => h d (.tail _ hd)), List.length_cons, Nat.mul_succ, gcI_add]
    congr 1
    show _ = gcIter 8 (s ^^^ (c ^^^ 256 * packed cs))
    rw [← Nat.xor_assoc, gcI_xor 8 (s ^^^ c), gcI_256]
theorem law_sum_is (cs : List Nat) (h : ∀ c ∈ cs, c < 256) : lawSum cs = gcIter (8 * cs.length) (4294967295 ^^^ packed cs) ^^^ 4294967295 := by
  unfold lawSum
  rw [fold_sum cs _ h]
theorem gc_lt {c : Nat} (h : c < 2 ^ 32) : gcStep c < 2 ^ 32 := by
  unfold gcStep
  split
  · exact Nat.xor_lt_two_pow (by omega) (by decide)
  · omega
theorem gcI_lt (n : Nat) {c : Nat} (h : c < 2 ^ 32) : gcIter n c < 2 ^ 32 := by
  induction n with
  | zero => exact h
  | succ n ih => exact gc_lt ih
theorem gc_zero {c : Nat} (h : c < 2 ^ 32) (e : gcStep c = 0) : c = 0 := by
  have hb : ∀ i, (c.testBit (i + 1) ^^ (c.testBit 0 && (3988292384 : Nat).testBit i)) = false := by
    intro i
    rw [← gc_bit, e, Nat.zero_testBit]
  have h0 : c.testBit 0 = false := by
    have h1 := hb 31
    rw [Nat.testBit_lt_two_pow (x := c) (i := 31 + 1) h, show (3988292384 : Nat).testBit 31 = true by decide] at h1
    simpa using h1
  apply Nat.eq_of_testBit_eq
  intro i
  rw [Nat.zero_testBit]
  cases i with
  | zero => exact h0
  | succ i =>
    have h1 := hb i
    rw [h0] at h1
    simpa using h1
theorem gc_inj {a b : Nat} (ha : a < 2 ^ 32) (hb : b < 2 ^ 32) (e : gcStep a = gcStep b) : a = b := by
  have h := gc_zero (c := a ^^^ b) (Nat.xor_lt_two_pow ha hb) (by rw [gc_xor, e, Nat.xor_self])
  have h2 := congrArg (· ^^^ b) h
  simpa only [Nat.xor_assoc, Nat.xor_self, Nat.xor_zero, Nat.zero_xor] using h2
theorem gcI_inj (n : Nat) {a b : Nat} (ha : a < 2 ^ 32) (hb : b < 2 ^ 32) (e : gcIter n a = gcIter n b) : a = b := by
  induction n with
  | zero => exact e
  | succ n ih => exact ih (gc_inj (gcI_lt n ha) (gcI_lt n hb) e)
theorem packed_lt : ∀ (cs : List Nat), (∀ c ∈ cs, c < 256) → packed cs < 2 ^ (8 * cs.length)
  | [], _ => by decide
  | c :: cs, h => by
    have ih := packed_lt cs (fun d hd => h d (.tail _ hd))
    have hc := h c (.head _)
    refine Nat.xor_lt_two_pow ?_ ?_
    · exact Nat.lt_of_lt_of_le hc (Nat.pow_le_pow_right (n := 2) (by decide) (by rw [List.length_cons]; omega : 8 ≤ 8 * (c :: cs).length))
    · rw [List.length_cons, Nat.mul_succ, Nat.pow_add]
      omega
theorem packed_bit (c : Nat) (cs : List Nat) (hc : c < 256) (i : Nat) : (packed (c :: cs)).testBit i = if i < 8 then c.testBit i else (packed cs).testBit (i - 8) := by
  show (c ^^^ 256 * packed cs).testBit i = _
  rw [Nat.testBit_xor, show (256 : Nat) = 2 ^ 8 from rfl, Nat.testBit_two_pow_mul]
  split
  · rename_i h
    simp [show ¬ 8 ≤ i by omega]
  · rename_i h
    rw [Nat.testBit_lt_two_pow (x := c) (i := i) (Nat.lt_of_lt_of_le hc (Nat.pow_le_pow_right (n := 2) (by decide) (by omega : 8 ≤ i)))]
    simp [show 8 ≤ i by omega]
theorem packed_inj : ∀ (a b : List Nat), a.length = b.length → (∀ c ∈ a, c < 256) → (∀ c ∈ b, c < 256) → packed a = packed b → a = b
  | [], [], _, _, _, _ => rfl
  | [], _ :: _, h, _, _, _ => nomatch h
  | _ :: _, [], h, _, _, _ => nomatch h
  | c :: a, d :: b, hl, ha, hb, e => by
    have hc := ha c (.head _)
    have hd := hb d (.head _)
    have h1 : c = d := by
      apply Nat.eq_of_testBit_eq
      intro i
      by_cases h : i < 8
      · have := congrArg (Nat.testBit · i) e
        simpa only [packed_bit _ _ hc, packed_bit _ _ hd, if_pos h] using this
      · have h8 : (256 : Nat) ≤ 2 ^ i := Nat.pow_le_pow_right (n := 2) (by decide) (by omega : 8 ≤ i)
        rw [Nat.testBit_lt_two_pow (by omega), Nat.testBit_lt_two_pow (by omega)]
    have h2 : packed a = packed b := by
      apply Nat.eq_of_testBit_eq
      intro i
      have := congrArg (Nat.testBit · (i + 8)) e
      simpa only [packed_bit _ _ hc, packed_bit _ _ hd, if_neg (show ¬ i + 8 < 8 by omega), Nat.add_sub_cancel] using this
    rw [h1, packed_inj a b (by simpa using hl) (fun x hx => ha x (.tail _ hx)) (fun x hx => hb x (.tail _ hx)) h2]
theorem packed_32 {cs : List Nat} (h : ∀ c ∈ cs, c < 256) (h4 : cs.length ≤ 4) : packed cs < 2 ^ 32 :=
  Nat.lt_of_lt_of_le (packed_lt cs h) (Nat.pow_le_pow_right (by decide) (by omega))
theorem law_sum_inj {a b : List Nat} (hl : a.length = b.length) (h4 : b.length ≤ 4) (ha : ∀ c ∈ a, c < 256) (hb : ∀ c ∈ b, c < 256) (e : lawSum a = lawSum b) : a = b := by
  rw [law_sum_is a ha, law_sum_is b hb, hl] at e
  have e1 := congrArg (· ^^^ 4294967295) e
  simp only [Nat.xor_assoc, Nat.xor_self, Nat.xor_zero] at e1
  have e2 := gcI_inj _ (Nat.xor_lt_two_pow (by decide) (packed_32 ha (by omega))) (Nat.xor_lt_two_pow (by decide) (packed_32 hb h4)) e1
  have e3 := congrArg (4294967295 ^^^ ·) e2
  simp only [← Nat.xor_assoc, Nat.xor_self, Nat.zero_xor] at e3
  exact packed_inj a b hl ha hb e3
end Mine
end

section
namespace Mine
/-! the long division against the reflected register -/
def Mir (r r' : Nat) : Prop := r < 2 ^ 32 ∧ r' < 2 ^ 32 ∧ ∀ i, i < 32 → r'.testBit i = r.testBit (31 - i)
theorem poly_mir : ∀ i, i < 32 → (3988292384 : Nat).testBit i = (4374732215 : Nat).testBit (31 - i) := by decide
theorem tb_31 {r : Nat} (h : r < 2 ^ 32) : r.testBit 31 = decide (2 * r ≥ 4294967296) := by
  rw [Nat.testBit_eq_decide_div_mod_eq]
  have e : r / 2 ^ 31 = if 2 * r ≥ 4294967296 then 1 else 0 := by split <;> omega
  rw [e]
  by_cases h2 : 2 * r ≥ 4294967296
  · rw [if_pos h2, decide_eq_true h2]; rfl
  · rw [if_neg h2, decide_eq_false h2]; rfl
theorem rest_bit {r : Nat} (h : r < 2 ^ 32) (i : Nat) : (restStep r 0).testBit i = ((2 * r).testBit i ^^ (r.testBit 31 && (4374732215 : Nat).testBit i)) := by
  unfold restStep
  rw [Nat.add_zero, tb_31 h]
  by_cases h2 : 2 * r ≥ 4294967296
  · rw [if_pos h2, decide_eq_true h2, Nat.testBit_xor, Bool.true_and]
  · rw [if_neg h2, decide_eq_false h2, Bool.false_and, Bool.xor_false]
theorem tb_2r (r i : Nat) : (2 * r).testBit (i + 1) = r.testBit i := by
  rw [Nat.testBit_succ, Nat.mul_div_cancel_left _ (by decide)]
theorem tb_2r0 (r : Nat) : (2 * r).testBit 0 = false := by
  rw [tb0]; exact decide_eq_false (by omega)
theorem rest0_lt {r : Nat} (h : r < 2 ^ 32) : restStep r 0 < 2 ^ 32 := by
  apply Nat.lt_pow_two_of_testBit
  intro i hi
  rw [rest_bit h]
  obtain ⟨j, rfl⟩ : ∃ j, i = j + 1 := ⟨i - 1, by omega⟩
  rw [tb_2r]
  by_cases hj : j = 31
  · subst hj
    rw [show (4374732215 : Nat).testBit (31 + 1) = true by decide, Bool.and_true, Bool.xor_self]
  · have h1 : r.testBit j = false := Nat.testBit_lt_two_pow (Nat.lt_of_lt_of_le h (Nat.pow_le_pow_right (by decide) (by omega)))
    have h2 : (4374732215 : Nat).testBit (j + 1) = false := Nat.testBit_lt_two_pow (Nat.lt_of_lt_of_le (by decide : (4374732215 : Nat) < 2 ^ 33) (Nat.pow_le_pow_right (by decide) (by omega)))
    rw [h1, h2, Bool.and_false]; rfl
theorem mir_step {r r' : Nat} (h : Mir r r') : Mir (restStep r 0) (gcStep r') := by
  obtain ⟨h1, h2, h3⟩ := h
  refine ⟨rest0_lt h1, gc_lt h2, fun i hi => ?_⟩
  rw [gc_bit, rest_bit h1, h3 0 (by decide), poly_mir i hi, Nat.sub_zero]
  congr 1
  by_cases h31 : i = 31
  · subst h31
    rw [tb_2r0]
    exact Nat.testBit_lt_two_pow h2
  · rw [h3 (i + 1) (by omega), show 31 - i = (31 - (i + 1)) + 1 by omega, tb_2r]
theorem mir_run (n : Nat) : ∀ {r r' : Nat}, Mir r r' → Mir ((List.replicate n 0).foldl restStep r) (gcIter n r') := by
  induction n with
  | zero => intro r r' h; exact h
  | succ n ih =>
    intro r r' h
    rw [List.replicate_succ', List.foldl_append]
    exact mir_step (ih h)
/-- the number that the bits f 0, f 1, .. write, the highest first -/
def writ (f : Nat → Bool) : Nat → Nat
  | 0 => 0
  | n + 1 => 2 * writ f n + (f n).toNat
theorem writ_bit (f : Nat → Bool) : ∀ n i, (writ f n).testBit i = (decide (i < n) && f (n - 1 - i))
  | 0, i => by simp [writ]
  | n + 1, i => by
    unfold writ
    cases i with
    | zero =>
      rw [tb0]
      cases h : f n <;> simp [h]
    | succ i =>
      rw [Nat.testBit_succ]
      have e : (2 * writ f n + (f n).toNat) / 2 = writ f n := by
        have : (f n).toNat ≤ 1 := Bool.toNat_le _
        omega
      rw [e, writ_bit f n i]
      have e2 : n + 1 - 1 - (i + 1) = n - 1 - i := by omega
      rw [e2]
      by_cases h : i < n
      · simp [h]
      · simp [h]
theorem writ_lt (f : Nat → Bool) (n : Nat) : writ f n < 2 ^ n := by
  apply Nat.lt_pow_two_of_testBit
  intro i hi
  rw [writ_bit, decide_eq_false (by omega), Bool.false_and]
theorem dm_bit (m i : Nat) : m / 2 ^ i % 2 = (m.testBit i).toNat := by
  rw [Nat.testBit_eq_decide_div_mod_eq]
  by_cases h : m / 2 ^ i % 2 = 1
  · rw [decide_eq_true h, h]; rfl
  · rw [decide_eq_false h]
    show _ = 0
    omega
theorem not_bit (b : Bool) : 1 - b.toNat = (!b).toNat := by cases b <;> rfl
theorem turned_is (r : Nat) : ∀ n, turned r n = writ (fun k => !r.testBit k) n
  | 0 => rfl
  | n + 1 => by
    have ih := turned_is r n
    unfold turned at ih ⊢
    rw [List.range_succ, List.foldl_append, ih, List.foldl_cons, List.foldl_nil, dm_bit]
    show _ = 2 * writ (fun k => !r.testBit k) n + (!r.testBit n).toNat
    cases r.testBit n <;> simp
theorem first_is (m : Nat) : ∀ n, n ≤ 32 → ((List.range n).map fun i => 1 - m / 2 ^ i % 2).foldl restStep 0 = writ (fun k => !m.testBit k) n
  | 0, _ => rfl
  | n + 1, h => by
    rw [List.range_succ, List.map_append, List.foldl_append, first_is m n (by omega)]
    show restStep (writ _ n) (1 - m / 2 ^ n % 2) = 2 * writ _ n + (!m.testBit n).toNat
    rw [dm_bit, not_bit]
    have h1 := writ_lt (fun k => !m.testBit k) n
    have h2 : (2 : Nat) ^ n ≤ 2 ^ 31 := Nat.pow_le_pow_right (by decide) (by omega)
    have h3 : (!m.testBit n).toNat ≤ 1 := Bool.toNat_le _
    unfold restStep
    rw [if_neg (by omega)]
theorem allBits_is : ∀ cs : List Nat, (∀ c ∈ cs, c < 256) → allBits cs = (List.range (8 * cs.length + 32)).map fun i => packed cs / 2 ^ i % 2
  | [], _ => by decide
  | c :: cs, h => by
    have hc := h c (.head _)
    have ih := allBits_is cs (fun d hd => h d (.tail _ hd))
    have e : allBits (c :: cs) = bits8 c ++ allBits cs := by
      show (bits8 c ++ bitsOf cs) ++ _ = bits8 c ++ (bitsOf cs ++ _)
      rw [List.append_assoc]
    rw [e, ih, List.length_cons, show 8 * (cs.length + 1) + 32 = 8 + (8 * cs.length + 32) by omega, List.range_add (n := 8), List.map_append, List.map_map]
    congr 1
    · unfold bits8
      apply List.map_congr_left
      intro i hi
      have hi8 : i < 8 := List.mem_range.mp hi
      rw [dm_bit, dm_bit, packed_bit c cs hc, if_pos hi8]
    · apply List.map_congr_left
      intro i _
      show _ = packed (c :: cs) / 2 ^ (8 + i) % 2
      rw [dm_bit, dm_bit, packed_bit c cs hc, if_neg (by omega), Nat.add_sub_cancel_left]
theorem flipped_is (cs : List Nat) (h : ∀ c ∈ cs, c < 256) (h4 : cs.length ≤ 4) : flipped cs = ((List.range 32).map fun i => 1 - packed cs / 2 ^ i % 2) ++ List.replicate (8 * cs.length) 0 := by
  have hp := packed_32 h h4
  unfold flipped
  rw [allBits_is cs h, Nat.add_comm, List.range_add, List.map_append, List.take_left' (by simp), List.drop_left' (by simp), List.map_map, List.map_map]
  congr 1
  rw [List.eq_replicate_iff]
  refine ⟨by simp, ?_⟩
  intro b hb
  obtain ⟨i, _, rfl⟩ := List.mem_map.mp hb
  show packed cs / 2 ^ (32 + i) % 2 = 0
  rw [dm_bit, Nat.testBit_lt_two_pow (Nat.lt_of_lt_of_le hp (Nat.pow_le_pow_right (by decide) (by omega)))]
  rfl
theorem ones_bit : ∀ i, i < 32 → (4294967295 : Nat).testBit i = true := by decide
theorem mir_first {m : Nat} (h : m < 2 ^ 32) : Mir (writ (fun k => !m.testBit k) 32) (4294967295 ^^^ m) := by
  refine ⟨writ_lt _ _, Nat.xor_lt_two_pow (by decide) h, fun i hi => ?_⟩
  rw [Nat.testBit_xor, ones_bit i hi, writ_bit, decide_eq_true (by omega), Bool.true_and, show 32 - 1 - (31 - i) = i by omega]
  cases m.testBit i <;> rfl
theorem plain_is (cs : List Nat) (h : ∀ c ∈ cs, c < 256) (h4 : cs.length ≤ 4) : plainSum cs = lawSum cs := by
  rw [law_sum_is cs h]
  unfold plainSum restOf
  rw [flipped_is cs h h4, List.foldl_append, first_is _ 32 (by decide), turned_is]
  obtain ⟨h1, h2, h3⟩ := mir_run (8 * cs.length) (mir_first (packed_32 h h4))
  apply Nat.eq_of_testBit_eq
  intro i
  rw [writ_bit, Nat.testBit_xor]
  by_cases hi : i < 32
  · rw [decide_eq_true hi, Bool.true_and, h3 i hi, ones_bit i hi, Bool.xor_true]
  · have hp : (2 : Nat) ^ 32 ≤ 2 ^ i := Nat.pow_le_pow_right (by decide) (by omega)
    rw [decide_eq_false hi, Bool.false_and, Nat.testBit_lt_two_pow (x := 4294967295) (Nat.lt_of_lt_of_le (by decide) hp), Nat.testBit_lt_two_pow (Nat.lt_of_lt_of_le h2 hp)]
    rfl
end Mine
end

section
namespace Mine
def codeOf (x : Int) : Nat := (x.fmod 256).toNat
theorem code_lt (x : Int) : codeOf x < 256 := by
  unfold codeOf
  rw [Int.fmod_eq_emod_of_nonneg _ (by decide)]
  omega
theorem codes_lt (row : List Int) : ∀ c ∈ row.map codeOf, c < 256 := by
  intro c hc
  obtain ⟨x, _, rfl⟩ := List.mem_map.mp hc
  exact code_lt x
theorem code_emod (x : Int) : ((codeOf x : Nat) : Int) = x % 256 := by
  unfold codeOf
  rw [Int.fmod_eq_emod_of_nonneg _ (by decide)]
  omega
/-- the page of a number is that of its remainder, but for 127 -/
theorem UI_code (x : Int) (h : x.fmod 256 = 127 → x = 127) : UI x = UI (codeOf x : Int) := by
  have e := code_emod x
  rw [Int.fmod_eq_emod_of_nonneg _ (by decide)] at h
  by_cases h1 : x = 127
  · subst h1; rfl
  · have h2 : ((codeOf x : Nat) : Int) ≠ 127 := by
      intro h3
      exact h1 (h (by omega))
    unfold UI
    rw [if_neg h1, if_neg h2, show x / 128 % 2 = ((codeOf x : Nat) : Int) / 128 % 2 by omega, show x % 128 = ((codeOf x : Nat) : Int) % 128 by omega]
/-- the words whose sign is c -/
def withSign (c : Nat) (ws : List (Nat × Nat)) : List (Nat × Nat) := ws.filter fun p => decide (p.2 = c)
theorem ws_append (c : Nat) (a b : List (Nat × Nat)) : withSign c (a ++ b) = withSign c a ++ withSign c b := List.filter_append ..
theorem ws_none {c : Nat} {ws : List (Nat × Nat)} (h : ∀ p ∈ ws, p.2 ≠ c) : withSign c ws = [] := by
  unfold withSign
  rw [List.filter_eq_nil_iff]
  intro p hp
  simpa using h p hp
theorem low_print {c : Nat} (h1 : 32 ≤ c) (h2 : c ≤ 126) (rest : List Nat) : withSign c (lowWords (c :: rest)) = [(1, c)] := by
  cases rest with
  | nil => rw [lw1, if_pos ⟨h1, h2⟩]; simp [withSign]
  | cons d l =>
    rw [lw2, if_pos ⟨h1, h2⟩, ws_append]
    have e : withSign c [(1, c)] = [(1, c)] := by simp [withSign]
    rw [e, ws_none]
    · rfl
    · intro p hp
      split at hp
      · rcases List.mem_append.mp hp with h | h
        · split at h
          · rw [List.mem_singleton.mp h]; dsimp only; omega
          · exact nomatch h
        · split at h
          · rw [List.mem_singleton.mp h]; dsimp only; omega
          · exact nomatch h
      · exact nomatch hp
theorem low_ctrl {c : Nat} (h1 : c < 32) (rest : List Nat) : withSign c (lowWords (94 :: (c + 64) :: rest)) = [(2, c)] := by
  rw [lw2, if_pos (by decide), if_pos rfl, if_pos (by omega), if_neg (by omega), show (c + 64) % 32 = c by omega]
  have e : ¬ (94 : Nat) = c := by omega
  simp [withSign, e]
theorem low_del (rest : List Nat) : withSign 127 (lowWords (94 :: 63 :: rest)) = [(2, 127)] := rfl
/-- alt of the words with the sign c -/
theorem alt_sign {c : Nat} (hc : c ≠ 127) : ∀ ws : List (Nat × Nat), withSign (c + 128) (altWords ws) = (withSign c ws).map fun p => (p.1 + 1, p.2 + 128)
  | [] => rfl
  | p :: ws => by
    have ih := alt_sign hc ws
    by_cases h2 : p.2 = 127
    · have e1 : altWords (p :: ws) = altWords ws := by simp [altWords, h2]
      have e2 : withSign c (p :: ws) = withSign c ws := by
        unfold withSign
        rw [List.filter_cons_of_neg]
        simp only [decide_eq_true_eq]; omega
      rw [e1, e2, ih]
    · have e1 : altWords (p :: ws) = (p.1 + 1, p.2 + 128) :: altWords ws := by simp [altWords, h2]
      rw [e1]
      by_cases h1 : p.2 = c
      · have e2 : withSign c (p :: ws) = p :: withSign c ws := by simp [withSign, h1]
        have e3 : withSign (c + 128) ((p.1 + 1, p.2 + 128) :: altWords ws) = (p.1 + 1, p.2 + 128) :: withSign (c + 128) (altWords ws) := by simp [withSign, h1]
        rw [e2, e3, ih]; rfl
      · have e2 : withSign c (p :: ws) = withSign c ws := by simp [withSign, h1]
        have e3 : withSign (c + 128) ((p.1 + 1, p.2 + 128) :: altWords ws) = withSign (c + 128) (altWords ws) := by simp [withSign, h1]
        rw [e2, e3, ih]
theorem alt_none {c : Nat} (hc : c < 128) (ws : List (Nat × Nat)) : withSign c (altWords ws) = [] := by
  apply ws_none
  intro p hp
  unfold altWords at hp
  obtain ⟨q, _, rfl⟩ := List.mem_map.mp hp
  dsimp only; omega
theorem alt_255 {ws : List (Nat × Nat)} (h : ∀ p ∈ ws, p.2 < 128) : withSign 255 (altWords ws) = [] := by
  apply ws_none
  intro p hp
  unfold altWords at hp
  obtain ⟨q, hq, rfl⟩ := List.mem_map.mp hp
  have h1 := List.mem_filter.mp hq
  have h2 := h q h1.1
  have h3 : q.2 ≠ 127 := by simpa using h1.2
  dsimp only; omega
/-- a sign below 128: the words of it are the low ones -/
theorem words_low {c : Nat} (hc : c < 128) (l : List Nat) : withSign c (lawWords l) = withSign c (lowWords l) := by
  match l with
  | [] => rfl
  | [a] => rw [lww1]
  | a :: d :: l =>
    rw [lww2, ws_append]
    split
    · have e : withSign c (if (d :: l).take 2 = [94, 159] then [(3, 255)] else []) = [] := by
        apply ws_none
        intro p hp
        split at hp
        · rw [List.mem_singleton.mp hp]; dsimp only; omega
        · exact nomatch hp
      rw [ws_append, alt_none hc, e, List.append_nil, List.append_nil]
    · exact List.append_nil _
/-- a sign of 128 and above, but 255: the words of it are alt's of the low ones behind '!' -/
theorem words_alt {c : Nat} (hc : c < 127) (d : Nat) (l : List Nat) : withSign (c + 128) (lawWords (33 :: d :: l)) = (withSign c (lowWords (d :: l))).map fun p => (p.1 + 1, p.2 + 128) := by
  rw [lww2, if_pos rfl, ws_append, ws_append, alt_sign (by omega), ws_none (c := c + 128), ws_none (c := c + 128)]
  · simp
  · intro p hp
    split at hp
    · rw [List.mem_singleton.mp hp]; dsimp only; omega
    · exact nomatch hp
  · intro p hp
    have := lowWords_lt _ p hp
    omega
theorem words_255 (l : List Nat) : withSign 255 (lawWords (33 :: 94 :: 159 :: l)) = [(3, 255)] := by
  rw [lww2, if_pos rfl, ws_append, ws_append, alt_255 (lowWords_lt _), ws_none]
  · rfl
  · intro p hp
    have := lowWords_lt _ p hp
    omega
/-- at a place where the page of c stands, one word alone has the sign c, and its width is that page's -/
theorem one_word {c : Nat} (hc : c < 256) (rest : List Nat) : withSign c (lawWords (UI (c : Int) ++ rest)) = [((UI (c : Int)).length, c)] := by
  by_cases h1 : c < 32
  · rw [UI_ctrl h1, words_low (by omega)]
    exact low_ctrl h1 rest
  by_cases h2 : c ≤ 126
  · rw [UI_print (by omega) h2, words_low (by omega)]
    exact low_print (by omega) h2 rest
  by_cases h3 : c = 127
  · subst h3
    rw [UI_127, words_low (by omega)]
    exact low_del rest
  by_cases h4 : c = 255
  · subst h4
    rw [UI_255]
    exact words_255 rest
  obtain ⟨b, rfl⟩ : ∃ b, c = b + 128 := ⟨c - 128, by omega⟩
  rw [UI_alt (by omega) (by omega)]
  by_cases h5 : b < 32
  · rw [UI_ctrl h5]
    show withSign (b + 128) (lawWords (33 :: 94 :: (b + 64) :: rest)) = _
    rw [words_alt (by omega), low_ctrl h5]
    rfl
  · rw [UI_print (by omega) (by omega)]
    show withSign (b + 128) (lawWords (33 :: b :: rest)) = _
    rw [words_alt (by omega), low_print (by omega) (by omega)]
    rfl
theorem filter_heads (c : Nat) (cs : List Nat) (F : Nat → List (List Nat)) : ∀ ws : List (Nat × Nat),
    (ws.flatMap fun p => (F p.1).map (p.2 :: ·)).filter (fun r => decide (r = c :: cs)) = (withSign c ws).flatMap fun p => ((F p.1).filter fun r => decide (r = cs)).map (c :: ·)
  | [] => rfl
  | p :: ws => by
    have ih := filter_heads c cs F ws
    rw [List.flatMap_cons, List.filter_append, ih, List.filter_map]
    by_cases h : p.2 = c
    · have e : withSign c (p :: ws) = p :: withSign c ws := by simp [withSign, h]
      rw [e, List.flatMap_cons, h]
      congr 2
      apply List.filter_congr
      intro r _
      simp
    · have e : withSign c (p :: ws) = withSign c ws := by simp [withSign, h]
      rw [e]
      have e2 : (F p.1).filter ((fun r => decide (r = c :: cs)) ∘ (p.2 :: ·)) = [] := by
        rw [List.filter_eq_nil_iff]
        intro r _
        simp [h]
      rw [e2]
      rfl
theorem once : ∀ cs : List Nat, (∀ c ∈ cs, c < 256) → (readings cs.length (cs.flatMap fun c : Nat => UI (c : Int))).filter (fun r => decide (r = cs)) = [cs]
  | [], _ => rfl
  | c :: cs, h => by
    have ih := once cs (fun d hd => h d (.tail _ hd))
    show ((lawWords _).flatMap _).filter _ = _
    rw [filter_heads c cs (fun k => readings cs.length (((c :: cs).flatMap fun c : Nat => UI (c : Int)).drop k)), List.flatMap_cons, one_word (h c (.head _)), List.flatMap_cons, List.flatMap_nil, List.drop_left, ih]
    rfl
theorem low_sign (l : List Nat) : ∀ p ∈ lawWords l, p.2 < 256 := by
  intro p hp
  match l with
  | [] => exact nomatch hp
  | [a] => rw [lww1] at hp; exact Nat.lt_trans (lowWords_lt _ p hp) (by decide)
  | a :: d :: l =>
    rw [lww2] at hp
    rcases List.mem_append.mp hp with h | h
    · exact Nat.lt_trans (lowWords_lt _ p h) (by decide)
    · split at h
      · rcases List.mem_append.mp h with h | h
        · unfold altWords at h
          obtain ⟨q, hq, rfl⟩ := List.mem_map.mp h
          have := lowWords_lt _ q (List.mem_filter.mp hq).1
          dsimp only; omega
        · split at h
          · rw [List.mem_singleton.mp h]; decide
          · exact nomatch h
      · exact nomatch h
theorem readings_256 : ∀ (n : Nat) (l : List Nat), ∀ r ∈ readings n l, ∀ c ∈ r, c < 256
  | 0, l, r, h => by
    unfold readings at h
    split at h
    · rw [List.mem_singleton.mp h]; exact fun _ h => nomatch h
    · exact nomatch h
  | n + 1, l, r, h => by
    unfold readings at h
    obtain ⟨p, hp, h⟩ := List.mem_flatMap.mp h
    obtain ⟨q, hq, rfl⟩ := List.mem_map.mp h
    exact List.forall_mem_cons.mpr ⟨low_sign l p hp, readings_256 n _ q hq⟩
theorem page_is (row : List Int) (h127 : ∀ x ∈ row, x.fmod 256 = 127 → x = 127) : (row.map UI).flatten = (row.map codeOf).flatMap fun c : Nat => UI (c : Int) := by
  rw [List.flatMap_def, List.map_map]
  congr 1
  apply List.map_congr_left
  intro x hx
  exact UI_code x (h127 x hx)
theorem one_reading (row : List Int) (h4 : row.length ≤ 4) (h127 : ∀ x ∈ row, x.fmod 256 = 127 → x = 127) :
    (readings row.length ((row.map UI).flatten)).filter (fun r => decide (lawSum r = plainSum (row.map codeOf))) = [row.map codeOf] := by
  have hl : (row.map codeOf).length = row.length := List.length_map ..
  have h256 := codes_lt row
  rw [page_is row h127, plain_is _ h256 (by omega), ← hl, ← once _ h256]
  conv => rhs; rw [once _ h256]
  conv => rhs; rw [← once _ h256]
  apply List.filter_congr
  intro r hr
  rw [decide_eq_decide]
  exact ⟨fun e => law_sum_inj (readings_size _ _ r hr) (by omega) (readings_256 _ _ r hr) h256 e, fun e => by rw [e]⟩
end Mine
end

section
set_option maxRecDepth 100000
set_option maxHeartbeats 2000000
namespace Mine

section
local macro_rules | `(tactic| walk_at "exec For Name Call cons nil") => `(tactic| (k_here; with_unfolding_all (refine for_in ?_ (by intro _; rfl))))
local macro_rules | `(tactic| walk_at "exec For Name Name cons nil") => `(tactic| (k_here; with_unfolding_all (refine for_in ?_ (by intro _; rfl))))
local macro_rules | `(tactic| walk_at "call ref") => `(tactic| (k_here; (with_reducible show wpAny _ _ (call (Value.ref 63) _) _ _ _); refine Hold.out ?_))
local macro_rules | `(tactic| walk_at "call ref") => `(tactic| (k_here; (with_reducible show wpAny _ _ (call (Value.ref 68) _) _ _ _); refine Hold.out ?_))
local macro_rules | `(tactic| walk_at "call ref") => `(tactic| (k_here; (with_reducible show wpAny _ _ (call (Value.ref 96) _) _ _ _); refine Hold.out ?_))
local macro_rules | `(tactic| walk_at "call builtin:str.join") => `(tactic| (k_here; refine Hold.out ?_))
local macro_rules | `(tactic| walk_at "eval ListComp") => `(tactic| (k_here; with_unfolding_all (refine comp_in ?_ (by rfl) (by rfl) (by decide) (by intro _; rfl))))
local macro_rules | `(tactic| walk_at "exec Assign cons ListComp") => `(tactic| (k_here; with_unfolding_all (refine comp_as ?_ (by rfl) (by rfl) (by rfl) (by decide) (by intro _; rfl))))
local macro_rules | `(tactic| walk_at "eval Name") => `(tactic| (k_here; k_dflt (refine' name_comp ?k1 ?k2 ?k3 ?k4 ?k5 ?k6 ?k7 ?_; (case k1 => k_asm); (case k3 => assumption); (case k2 => k_mem); (case k4 => assumption); (case k5 => rfl); (case k6 => rfl); (case k7 => decide); k_whole)))
local macro_rules | `(tactic| walk_at "eval Name") => `(tactic| (k_here; k_inBlock; (with_reducible rename Fr _ _ _ _ => kF); k_dflt (refine' name_compB kF ?k1 ?k2 ?k3 ?k4 ?k5 ?_ ?k6 ?k7 ?k8 ?k9 ?k10; (case k6 => rfl); (case k7 => rfl); (case k8 => rfl); (case k9 => rfl); (case k10 => decide); (case k1 => k_asm); (case k2 => k_asm); (case k3 => k_is); (case k4 => boot_by_name); (case k5 => decide); k_whole)))

local macro_rules | `(tactic| walk_at "call ref") => `(tactic| (k_here; (with_reducible show wpAny _ _ (call (Value.ref 49) _) _ _ _); refine Hold.out ?_))
local macro_rules | `(tactic| walk_at "call ref") => `(tactic| (k_here; (with_reducible show wpAny _ _ (call (Value.ref 75) _) _ _ _); refine Hold.out ?_))
local macro_rules | `(tactic| k_all) => `(tactic| assumption)
local macro_rules | `(tactic| walk_at "call builtin:len") => `(tactic| (k_here; refine Hold.out ?_))
local macro_rules | `(tactic| walk_at "compareOp NotEq str str") => `(tactic| (k_here; refine Hold.out ?_))
local macro_rules | `(tactic| walk_at "compareOp NotEq ref ref") => `(tactic| (k_here; refine Hold.out ?_))
theorem ne_same {prog : Program} {w : World} {A : Around} {E : Value → Shared → Prop} {s : Shared} {l l' : List Nat} {t u : Tok} {Q : Value → Shared → Prop} (e : l = l') (h : Q (.bool false) s) : wpAny (model prog w) A (compareOp .NotEq (.str ⟨l.toArray⟩ t) (.str ⟨l'.toArray⟩ u)) Q E s := PyProof.Rows.ne_str (by
  subst e
  rw [show ((⟨l.toArray⟩ : Str) != ⟨l.toArray⟩) = false by simp]
  exact h)
local macro_rules | `(tactic| walk_at "eval Name") => `(tactic| (k_here; (with_reducible show wpAny _ _ (eval (Expr.Name (Str.ofString "told") _) (compEnvC _ _ _ _)) _ _ _); refine Hold.out ?_))
theorem code_cast (x : Int) : x.fmod 256 = ((codeOf x : Nat) : Int) := by
  unfold codeOf
  rw [Int.toNat_of_nonneg]
  rw [Int.fmod_eq_emod_of_nonneg _ (by decide)]
  exact Int.emod_nonneg _ (by decide)

theorem UI_len (x : Int) : (UI x).length ≤ 3 := by
  unfold UI lowU
  (repeat' split) <;> simp
theorem page_len (row : List Int) (h : row.length ≤ 4) : ((row.map UI).flatten).length < 800 := by
  have h1 := flatMap_len UI 3 row (fun x _ => UI_len x)
  rw [List.flatMap_def] at h1
  omega
theorem filter_yes {α : Type} {l : List α} {k : Nat} {q : α} {p : α → Bool} (h : l[k]? = some q) (hp : p q = true) : (l.take (k + 1)).filter p = (l.take k).filter p ++ [q] := by
  rw [List.take_add_one, h, List.filter_append]
  simp [hp]
theorem filter_no {α : Type} {l : List α} {k : Nat} {q : α} {p : α → Bool} (h : l[k]? = some q) (hp : p q = false) : (l.take (k + 1)).filter p = (l.take k).filter p := by
  rw [List.take_add_one, h, List.filter_append]
  simp [hp]
theorem flat_ones (l : List Nat) : (l.map fun c => [c]).flatten = l := by
  induction l with
  | nil => rfl
  | cons c l ih => rw [List.map_cons, List.flatten_cons, ih]; rfl
theorem codes_ok (row : List Int) : PyData.strOk (⟨(row.map codeOf).toArray⟩ : Str) = true := by
  unfold PyData.strOk
  rw [List.all_toArray, List.all_eq_true]
  intro c hc
  have := codes_lt row c hc
  exact decide_eq_true (by omega)
theorem law_holds : PySem.Challenge.rw_nb0025_01.Holds := by
  refine hd ?_
  w_strict (k_go0; (all_goals try k_fold); k_steps)
  rename Shared => s1
  rename IntsAre _ _ => hI
  rename Heap.IsList _ _ _ => hLs
  rename (¬ _ < _) => hlen
  rename (_ = Data.cell _) => hcell0
  refine TellB.use (law_rows _ _ _ _ hI (by omega)) (below_caller _) (by k_asm) (by k_asm) (by k_asm) (by k_asm) rfl hLs (by ktr_room) (by ktr_units) ?_
  rintro r1 h1 tk1 tl1 ⟨a1, arr1, n1, tl', rfl, rfl, hlt1, hR1⟩ ho1 F1 N1
  obtain ⟨R1, hRa, hRows, hRoff, N2⟩ : ∃ R1, (a1, listOf arr1 n1) ∈ R1 ∧ RowsIn R1 arr1.toList (lawRows _) ∧ (∀ p ∈ R1, p.1 ≠ _) ∧ News _ _ h1 ((_, _) :: R1) :=
    ⟨(a1, listOf arr1 n1) :: tl', List.mem_cons_self, hR1.mono (fun _ h => List.mem_cons_of_mem _ h), fun p hp => Nat.ne_of_gt (ho1 _ List.mem_cons_self p hp), fun p hp => N1 p (by
      rcases List.mem_cons.mp hp with rfl | hp
      · exact List.mem_append_right _ (.head _)
      · exact List.mem_append_left _ hp)⟩
  clear N1 ho1 hlt1 hR1
  refine src_list (fun i m' news' => ∃ oc v₀, oc.data = .cell v₀ ∧ news' = (_, oc) :: R1) rfl F1 N2 (.tail _ hRa) ⟨_, _, hcell0, rfl⟩ ?_ ?_ ?_ (.inl fun _ _ => rfl)
  · rintro i m' news' ⟨oc, v₀, _, rfl⟩
    exact .tail _ hRa
  · rintro i v m₁ news₁ h tk I oI hv ⟨oc, v₀, hoc, rfl⟩ hIlt hI9 F₁ N₁
    obtain ⟨p, arrp, kp, row, rfl, hrow, hpm, hip⟩ := hRows.get (i := i) (by simpa using hv)
    refine turn_name F₁ N₁ (fun h' tk' F' N' => ?_) rfl rfl
    clear F₁ N₁
    (try dsimp only)
    k_steps
    have hlr : row.length ≤ 4 := (row_facts _ row (List.mem_of_getElem? hrow)).1
    have hlp : arrp.size = row.length := by rw [← hip.length, Array.length_toList]
    refine csrc_list (fun i ys => NatsV ys.toList ((row.take i).map codeOf)) rfl F' N' (List.mem_cons_of_mem _ (List.mem_cons_of_mem _ hpm)) (by decide) rfl rfl .nil ?_ ?_ ?_
    · intro i ys hj
      have h1 := hj.length
      simp only [Array.length_toList, List.length_map, List.length_take] at h1
      rw [sizeLine_eq]; omega
    · intro Dx C I' j v ysx kx oI' oC mc' hx tkx hnI hID hDC hv hJx nC hmv F₁ N₁
      obtain ⟨x, tx, rfl, hxr⟩ := ints_get hip (i := j) (by simpa using hv)
      refine no_tests ?_
      rw [if_pos rfl]
      (try dsimp only)
      k_steps
      exact ⟨EltEnd.mk F₁ N₁ (fun _ h => h), (hJx.push (code_cast x)).to (map_snoc hxr).symm⟩
    · intro Dc C ysc kc mc' hx tkx hDn hDC hLD hC0 hJc hnC F₁ N₁
      have hfull : row.take arrp.size = row := List.take_of_length_le (by omega)
      rw [hfull] at hJc
      refine' done_as hDn hDC hLD hC0 ?fa ?fb ?fc rfl rfl ?fd
      case fa => exact hnC
      case fb => exact F₁
      case fc => exact N₁
      intro h2 tk2 F2 N2
      clear F₁ N₁ hnC
      (try dsimp only)
      k_steps
      refine csrc_list (fun i ys => Txts ys.toList ((row.take i).map UI)) rfl F2 N2 (List.mem_cons_of_mem _ (List.mem_cons_of_mem _ (List.mem_cons_of_mem _ hpm))) (by decide) rfl rfl .nil ?_ ?_ ?_
      · intro i ys hj
        have h1 := hj.length
        simp only [Array.length_toList, List.length_map, List.length_take] at h1
        rw [sizeLine_eq]; omega
      · intro Dx C2 I' j v ysx kx oI' oC mc2 hx tkx hnI hID hDC2 hv hJx nC hmv F₁ N₁
        obtain ⟨x, tx, rfl, hxr⟩ := ints_get hip (i := j) (by simpa using hv)
        refine no_tests ?_
        rw [if_pos rfl]
        (try dsimp only)
        k_steps
        refine TellV.use (unctrl_int _ x tx) (below_caller _) F₁ (by k_asm) N₁ (by k_asm) rfl trivial (by ktr_room) (by ktr_units) ?_
        rintro r9 h9 tk9 ⟨t9, rfl⟩ F9 N9
        exact ⟨EltEnd.mk F9 N9 (fun _ h => h), (hJx.push rfl).to (map_snoc hxr).symm⟩
      · intro Dp C2 ysp kp2 mc2 hx tkx hDn2 hDC2 hLD2 hC02 hJp hnC F₁ N₁
        rw [hfull] at hJp
        refine' done_in hDn2 hDC2 hLD2 hC02 ?ga ?gb ?gc ?gd
        case ga => exact hnC
        case gb => exact F₁
        case gc => exact N₁
        intro h3 F3 N3
        clear F₁ N₁ hnC
        (try dsimp only)
        k_steps
        refine join_txts N3 List.mem_cons_self hJp ?_ ?_ ?_
        · intro l hl
          obtain ⟨x, _, rfl⟩ := List.mem_map.mp hl
          exact Nat.le_trans (UI_len x) (by decide)
        · rw [List.length_map]; omega
        intro t4 tk4
        (try dsimp only)
        k_steps
        rename_i h5 F5 N5
        refine TellV.use (plain_sum _ Dc ysc kc _ hJc (by rw [List.length_map]; omega)) (below_caller _) F5 (by k_asm) N5 (by k_asm) rfl (List.mem_cons_of_mem _ List.mem_cons_self) (by ktr_room) (by ktr_units) ?_
        rintro r6 h6 tk6 ⟨t6, rfl⟩ F6 N6
        dsimp only at hRoff
        clear F5 N5
        (try dsimp only)
        refine storeX_C F6 N6 rfl (UpdF.tail ?_ (UpdF.tail ?_ (UpdF.tail ?_ (UpdF.head hRoff)))) hoc ?_ rfl rfl
        · exact Nat.ne_of_gt (hDn2 _ (List.mem_cons_of_mem _ (List.mem_cons_of_mem _ List.mem_cons_self)))
        · exact Nat.ne_of_gt (hDn _ (List.mem_cons_of_mem _ List.mem_cons_self))
        · exact Ne.symm (hI9 _ List.mem_cons_self)
        intro h7 o7 F7 N7 hd7
        (try dsimp only at N7)
        clear F6 N6
        (try dsimp only)
        k_steps
        refine len_arr N7 (List.mem_cons_of_mem _ (List.mem_cons_of_mem _ (List.mem_cons_of_mem _ (List.mem_cons_of_mem _ hpm)))) (by omega) ?_
        intro t8 tk8
        (try dsimp only)
        k_steps
        have hpl : ((row.map UI).flatten).length < 800 := page_len row hlr
        refine TellL.use (law_readings _ arrp.size (by omega) _ hpl _ _) (below_caller _) F7 (by k_asm) N7 (by k_asm) rfl trivial (by ktr_room) (by ktr_units) ?_
        rintro r8 h8 tk9 tl8 ⟨a8, arr8, n8, rfl, rfl, hT8⟩ ho8 F8 N8
        dsimp only [List.cons_append, List.nil_append] at N8
        clear F7 N7
        (try dsimp only)
        k_steps
        rename_i hL FL NL
        obtain ⟨LED, hLED⟩ : ∃ LED, LED = (a8, listOf arr8 n8) :: (Dp, listOf ysp kp2) :: (Dc, listOf ysc kc) :: (I, oI) :: (s1.heap.objs.size + 1, o7) :: R1 := ⟨_, rfl⟩
        have hL8 : (a8, listOf arr8 n8) ∈ LED := by rw [hLED]; exact List.mem_cons_self
        have hLc : (Dc, listOf ysc kc) ∈ LED := by rw [hLED]; exact List.mem_cons_of_mem _ (List.mem_cons_of_mem _ List.mem_cons_self)
        rw [← hLED] at NL
        refine src_list (fun j m' news' => m' (Str.ofString "readings") = some (.ref a8) ∧ m' (Str.ofString "page") = some (.str ⟨((row.map UI).flatten).toArray⟩ t4) ∧ m' (Str.ofString "codes") = some (.ref Dc) ∧ news' = LED) rfl FL NL hL8 ⟨rfl, rfl, rfl, rfl⟩ ?_ ?_ ?_ (.inl fun _ _ => rfl)
        · rintro j m' news' ⟨_, _, _, rfl⟩
          exact hL8
        · rintro j v m₂ news₂ hA tkA I2 oI2 hv2 ⟨hm1, hm2, hm3, rfl⟩ hIlt2 hI2 F₁ N₁
          obtain ⟨q, tq, rfl, hq⟩ := hT8.get (i := j) (by simpa using hv2)
          have hqm := List.mem_of_getElem? hq
          have hql : q.length = arrp.size := readings_size _ _ q hqm
          refine turn_name (fr_at3 F₁ hm1 hm2 hm3) N₁ (fun h' tk' F' N' => ?_) rfl rfl
          clear F₁ N₁ hm1 hm2 hm3
          (try dsimp only)
          k_steps
          refine csrc_str (fun i ys => Txts ys.toList ((q.take i).map fun c : Nat => UI (c : Int))) rfl F' N' (by decide) rfl rfl .nil ?_ ?_ ?_
          · intro i ys hj
            have h1 := hj.length
            simp only [Array.length_toList, List.length_map, List.length_take] at h1
            rw [sizeLine_eq]; omega
          · intro Dx C2 I' k c tc ysx kx oI' oC mc2 hx tkx hnI hID hDC2 hv hJx nC hmv F₁ N₁
            refine no_tests ?_
            rw [if_pos rfl]
            (try dsimp only)
            k_steps
            refine TellV.use (unctrl_str _ c tc) (below_caller _) F₁ (by k_asm) N₁ (by k_asm) rfl trivial (by ktr_room) (by ktr_units) ?_
            rintro r9 h9 tk9 ⟨t9, rfl⟩ F9 N9
            exact ⟨EltEnd.mk F9 N9 (fun _ h => h), (hJx.push rfl).to (map_snoc (by simpa using hv)).symm⟩
          · intro Dq C2 ysq kq mc2 hx tkx hDn3 hDC3 hLD3 hC03 hJq hnC F₁ N₁
            rw [show q.take (Str.mk q.toArray).cps.size = q from List.take_of_length_le (by simp)] at hJq
            refine' done_in hDn3 hDC3 hLD3 hC03 ?ja ?jb ?jc ?jd
            case ja => exact hnC
            case jb => exact F₁
            case jc => exact N₁
            intro hB FB NB
            clear F₁ N₁ hnC
            (try dsimp only)
            k_steps
            refine join_txts NB List.mem_cons_self hJq ?_ ?_ ?_
            · intro l hl
              obtain ⟨x, _, rfl⟩ := List.mem_map.mp hl
              exact Nat.le_trans (UI_len x) (by decide)
            · rw [List.length_map]; omega
            intro tB tkB
            (try dsimp only)
            k_steps
            refine ne_same (by rw [← List.flatMap_def]; exact reads_write _ _ q hqm) ?_
            (try dsimp only)
            k_steps
            exact TurnEnd.mk news₂ FB NB (fun p hp => List.mem_cons_of_mem _ hp) hI2 ⟨rfl, rfl, rfl, rfl⟩
        · rintro m₂ news₂ hA tkA ⟨hm1, hm2, hm3, rfl⟩ F₁ N₁
          have F₂ := fr_at3 F₁ hm1 hm2 hm3
          clear F₁ hm1 hm2 hm3
          have hLk : (s1.heap.objs.size + 1, o7) ∈ news₂ := by rw [hLED]; exact List.mem_cons_of_mem _ (List.mem_cons_of_mem _ (List.mem_cons_of_mem _ (List.mem_cons_of_mem _ List.mem_cons_self)))
          k_steps
          refine csrc_list (fun i ys => Txts ys.toList (((readings arrp.size ((row.map UI).flatten)).take i).filter fun r => lawSum r = plainSum (row.map codeOf))) rfl F₂ N₁ hL8 (by decide) rfl rfl .nil ?_ ?_ ?_
          · intro i ys hj
            have h1 := hj.length
            have h2 := readings_len arrp.size ((row.map UI).flatten)
            have h3 : 7 ^ arrp.size ≤ 7 ^ 4 := Nat.pow_le_pow_right (by decide) (by omega)
            have h4 := List.length_filter_le (fun r => decide (lawSum r = plainSum (row.map codeOf))) ((readings arrp.size ((row.map UI).flatten)).take i)
            rw [List.length_take] at h4
            rw [Array.length_toList] at h1
            rw [sizeLine_eq]; omega
          · intro Dx C2 I' k v ysx kx oI' oC mc2 hx tkx hnI hID hDC2 hv hJx nC hmv F₃ N₃
            obtain ⟨q, tq, rfl, hq⟩ := hT8.get (i := k) (by simpa using hv)
            refine one_test ?_
            (try dsimp only)
            k_steps
            refine TellV.use (law_sum _ q tq) (below_caller _) F₃ (by k_asm) N₃ (by k_asm) rfl trivial (by ktr_room) (by ktr_units) ?_
            rintro r9 h9 tk9 ⟨t9, rfl⟩ F9 N9
            (try dsimp only)
            k_steps
            refine lcf_cell N9 rfl (List.mem_cons_of_mem _ (List.mem_cons_of_mem _ (List.mem_cons_of_mem _ hLk))) hd7 ?_ rfl rfl
            (try dsimp only)
            k_steps
            · rename_i he
              exact ⟨EltEnd.mk F9 N9 (fun _ h => h), (hJx.push rfl).to (filter_yes hq (decide_eq_true (by omega))).symm⟩
            · exact EltEnd.mk F9 N9 (fun _ h => h)
            · rename_i he
              exact hJx.to (filter_no hq (decide_eq_false (by omega))).symm
          · intro Dz C2 ysz kz mc2 hx tkx hDn4 hDC4 hLD4 hC04 hJz hnC F₃ N₃
            refine' done_in hDn4 hDC4 hLD4 hC04 ?la ?lb ?lc ?ld
            case la => exact hnC
            case lb => exact F₃
            case lc => exact N₃
            intro hE FE NE
            clear F₃ N₃ hnC
            (try dsimp only)
            k_steps
            refine csrc_list (fun i ys => Txts ys.toList (((row.map codeOf).take i).map fun c => [c])) rfl FE NE (List.mem_cons_of_mem _ hLc) (by decide) rfl rfl .nil ?_ ?_ ?_
            · intro i ys hj
              have h1 := hj.length
              simp only [Array.length_toList, List.length_map, List.length_take] at h1
              rw [sizeLine_eq]; omega
            · intro Dx C3 I' k v ysx kx oI' oC mc3 hx tkx hnI hID hDC3 hv hJx nC hmv F₃ N₃
              obtain ⟨c, tc, rfl, hc⟩ := hJc.get (i := k) (by simpa using hv)
              have hc256 : c < 256 := codes_lt row c (List.mem_of_getElem? hc)
              refine no_tests ?_
              rw [if_pos rfl]
              (try dsimp only)
              k_steps
              exact ⟨EltEnd.mk (by k_asm) (by k_asm) (fun _ h => h), (hJx.push (by simp)).to (map_snoc hc).symm⟩
            · intro Dw C3 ysw kw mc3 hx tkx hDn5 hDC5 hLD5 hC05 hJw hnC F₃ N₃
              rw [show (row.map codeOf).take ysc.size = row.map codeOf from List.take_of_length_le (by rw [← hJc.length]; simp)] at hJw
              refine' done_in hDn5 hDC5 hLD5 hC05 ?na ?nb ?nc ?nd
              case na => exact hnC
              case nb => exact F₃
              case nc => exact N₃
              intro hG FG NG
              clear F₃ N₃ hnC
              (try dsimp only)
              k_steps
              refine join_txts NG List.mem_cons_self hJw ?_ ?_ ?_
              · intro l hl
                obtain ⟨x, _, rfl⟩ := List.mem_map.mp hl
                show 1 ≤ 16
                decide
              · simp only [List.length_map]; omega
              intro tG tkG
              (try dsimp only)
              k_steps
              rename_i l9 hq9 FQ9 NQ9 lq9
              have hones : ((row.map codeOf).map fun c => [c]).flatten = row.map codeOf := flat_ones _
              rw [hones] at NQ9
              rw [show (readings arrp.size ((row.map UI).flatten)).take arr8.size = readings arrp.size ((row.map UI).flatten) from List.take_of_length_le (by rw [← hT8.length]; simp), hlp, one_reading row hlr (row_facts _ row (List.mem_of_getElem? hrow)).2] at hJz
              refine ne_texts NQ9 (List.mem_cons_of_mem _ (List.mem_cons_of_mem _ List.mem_cons_self)) List.mem_cons_self hJz (.cons .nil) ?_ (by ktr_units) ?_
              · intro l hl
                rw [List.mem_singleton.mp hl]
                exact codes_ok row
              (try dsimp only)
              k_steps
              refine TurnEnd.mk ((s1.heap.objs.size + 1, o7) :: R1) FQ9 NQ9 (fun p hp => List.mem_cons_of_mem _ (List.mem_cons_of_mem _ (List.mem_cons_of_mem _ ?_))) (List.forall_mem_cons.mpr ⟨hI9 (s1.heap.objs.size + 1, oc) List.mem_cons_self, fun p hp => hI9 p (List.mem_cons_of_mem _ hp)⟩) ⟨o7, _, hd7, rfl⟩
              rw [hLED]
              exact List.mem_cons_of_mem _ (List.mem_cons_of_mem _ (List.mem_cons_of_mem _ hp))
  · rintro m₁ news₁ h tk ⟨oc, v₀, hoc, rfl⟩ F₁ N₁
    k_steps
end
end Mine
end

theorem PySem.Challenge.cw_nb0025_01_holds : PySem.Challenge.rw_nb0025_01.Holds :=
  Mine.law_holds

import PyProof.Rows.All
import Wide.All
import OpenK.AllK
import Wide.FinOn
import PySem.Challenge.RW_tl0031_01
open PySem PySem.W PyProof.Rows
set_option compiler.extract_closed false
set_option Elab.async false
set_option maxRecDepth 100000
set_option maxHeartbeats 8000000
namespace Mine
noncomputable def qa : Str := Str.ofString "Whitespace"
noncomputable def qb : Str := qa
theorem qe : qb = qa := rfl
end Mine
name_quick tw861502493610598483 for Mine.qa by Mine.qe
name_quick tw6659056426116555980 for Mine.qa by Mine.qe
name_quick tw7774113678449685934 for Mine.qa by Mine.qe
name_quick tw4218082148368573619 for Mine.qa by Mine.qe
name_quick tw17512793052788017329 for Mine.qa by Mine.qe
name_quick tw12652432740844512721 for Mine.qa by Mine.qe
name_quick tw9536688357841153863 for Mine.qa by Mine.qe
name_quick tw15530356413301135991 for Mine.qa by Mine.qe
name_quick tw14715321909736271235 for Mine.qa by Mine.qe
name_quick tw8912161614967838395 for Mine.qa by Mine.qe
name_quick tw18101783494082082527 for Mine.qa by Mine.qe
name_quick tw3543459598558145280 for Mine.qa by Mine.qe
name_quick tw7217548393331319763 for Mine.qa by Mine.qe
name_quick tw13796709590457398163 for Mine.qa by Mine.qe
name_quick tw10295913840692754127 for Mine.qa by Mine.qe
name_quick tw1000662321505670351 for Mine.qa by Mine.qe
name_quick tw15173544498738437827 for Mine.qa by Mine.qe
name_quick tw17062427158221528723 for Mine.qa by Mine.qe
name_quick tw8997383693586321770 for Mine.qa by Mine.qe
name_quick tw12917704675397863716 for Mine.qa by Mine.qe
name_quick tw2080317491765294665 for Mine.qa by Mine.qe
name_quick tw18262670878535919901 for Mine.qa by Mine.qe
name_quick tw15402603294489630176 for Mine.qa by Mine.qe
name_quick tw10519837036962490867 for Mine.qa by Mine.qe
name_quick tw14935467056822913822 for Mine.qa by Mine.qe
name_quick tw3215387988796971590 for Mine.qa by Mine.qe
name_quick tw6469784823511061222 for Mine.qa by Mine.qe
name_quick tw14760874974797668852 for Mine.qa by Mine.qe
name_quick tw16108870410212019532 for Mine.qa by Mine.qe
name_quick tw11266997524610791606 for Mine.qa by Mine.qe
name_quick tw140001813534094272 for Mine.qa by Mine.qe
name_quick tw15395538048113002526 for Mine.qa by Mine.qe
name_quick tw209982475168477708 for Mine.qa by Mine.qe
name_quick tw13135312941875745310 for Mine.qa by Mine.qe
name_quick tw16902440903046159558 for Mine.qa by Mine.qe
name_quick tw9456574344343218679 for Mine.qa by Mine.qe
name_quick tw3721919958574915784 for Mine.qa by Mine.qe
name_quick tw2261719852989239553 for Mine.qa by Mine.qe
name_quick tw16120054744476736488 for Mine.qa by Mine.qe
name_quick tw11421057715548341654 for Mine.qa by Mine.qe
name_quick tw10792498714594961201 for Mine.qa by Mine.qe
name_quick tw5832305185047221409 for Mine.qa by Mine.qe
name_quick tw17760279517084355780 for Mine.qa by Mine.qe
open_top hd for PySem.Challenge.rw_tl0031_01
section
open PySem PySem.W PyProof.Rows PySem.Calls PyProof.V PySem.Spec
set_option maxRecDepth 100000
set_option Elab.async false
namespace Mine

section
variable {prog : Program} {w : World} {A : Around} {E : Value → Shared → Prop} {s : Shared} {env : Env} {h₀ : Heap} {L : Addr}

noncomputable def EndG (h₀ : Heap) (L I : Addr) (o : Obj) (Jn : (Str → Option Value) → List (Addr × Obj) → Prop) (Q : Flow → Shared → Prop) (s : Shared) (f : Flow) (s₄ : Shared) : Prop :=
  match f with
  | .ret v => Q (.ret v) s₄
  | .brk => Q .next s₄
  | _ => ∃ h' tk m₂ news₂, s₄ = { s with heap := h', toks := tk } ∧ Fr h₀ L h' m₂ ∧ News h₀ L h' ((I, o) :: news₂) ∧ (∀ p ∈ news₂, p.1 ≠ I) ∧ Jn m₂ news₂
theorem EndG.next {I : Addr} {o : Obj} {Jn : (Str → Option Value) → List (Addr × Obj) → Prop} {Q : Flow → Shared → Prop} {h' : Heap} {tk : Nat} {m₂ : Str → Option Value} {all : List (Addr × Obj)}
    (F : Fr h₀ L h' m₂) (N : News h₀ L h' all) (news₂ : List (Addr × Obj)) (hI : (I, o) ∈ all) (sub : ∀ p ∈ news₂, p ∈ all) (off : ∀ p ∈ news₂, p.1 ≠ I) (hJ : Jn m₂ news₂) :
    EndG h₀ L I o Jn Q s .next { s with heap := h', toks := tk } :=
  ⟨h', tk, m₂, news₂, rfl, F, fun p hp => (List.mem_cons.mp hp).elim (fun e => e ▸ N _ hI) fun e => N _ (sub p e), off, hJ⟩

theorem EndG.next_same {I : Addr} {o : Obj} {Jn : (Str → Option Value) → List (Addr × Obj) → Prop} {Q : Flow → Shared → Prop} {h' : Heap} {tk : Nat} {m₂ : Str → Option Value} {nw : List (Addr × Obj)}
    (F : Fr h₀ L h' m₂) (N : News h₀ L h' ((I, o) :: nw)) (off : ∀ p ∈ nw, p.1 ≠ I) (hJ : Jn m₂ nw) : EndG h₀ L I o Jn Q s .next { s with heap := h', toks := tk } := ⟨h', tk, m₂, nw, rfl, F, N, off, hJ⟩

noncomputable def LoopG (prog : Program) (w : World) (A : Around) (h₀ : Heap) (L : Addr) (env : Env) (target : Expr) (body : List Stmt) (Q : Flow → Shared → Prop) (it : Value) (s₂ : Shared) : Prop :=
  ∃ (I : Addr) (fp : List Addr) (n : Nat) (P : Nat → Value → Prop) (St : Nat → Heap → Prop) (m : Str → Option Value) (news : List (Addr × Obj)) (J : Nat → (Str → Option Value) → List (Addr × Obj) → Prop),
    it = .ref I ∧ Walks prog w A I fp [I] n P St ∧ (∀ i h, St i h → ∃ o, h.get? I = some o) ∧
    (∀ i h h' o m' nw, St (i + 1) h → h.get? I = some o → h'.get? I = some o → Fr h₀ L h' m' → News h₀ L h' nw → J (i + 1) m' nw → St (i + 1) h') ∧
    L ≠ I ∧ h₀.get? I = none ∧ (∀ p ∈ news, p.1 ≠ I) ∧ St 0 s₂.heap ∧ Fr h₀ L s₂.heap m ∧ News h₀ L s₂.heap news ∧ J 0 m news ∧
    (∀ i v m₁ news₁ h tk o, i < n → P i v → J i m₁ news₁ → (∀ p ∈ news₁, p.1 ≠ I) → Fr h₀ L h m₁ → News h₀ L h ((I, o) :: news₁) →
      wpAny (model prog w) A (assign target env v) (fun _ s₃ => wpAny (model prog w) A (execs body env) (EndG h₀ L I o (J (i + 1)) Q { s₂ with heap := h, toks := tk }) (fun _ _ => False) s₃) (fun _ _ => False) { s₂ with heap := h, toks := tk }) ∧
    (∀ m' news' h' tk, Fr h₀ L h' m' → News h₀ L h' news' → (∀ p ∈ news', p.1 ≠ I) → J n m' news' → Q .next { s₂ with heap := h', toks := tk })

theorem fr_but1 {h h' : Heap} {I : Addr} {m : Str → Option Value} (F : Fr h₀ L h m) (hk : ∀ b o, b ∉ [I] → h.get? b = some o → h'.get? b = some o) (hL : L ≠ I) (hI : h₀.get? I = none) : Fr h₀ L h' m :=
  ⟨F.ns.at' fun o e => hk L o (by simpa using hL) e, fun b o e => hk b o (fun hm => by rw [List.mem_singleton.mp hm, hI] at e; cases e) (F.keep b o e), F.above⟩
theorem news_but1 {h h' : Heap} {I : Addr} {news : List (Addr × Obj)} (N : News h₀ L h news) (hk : ∀ b o, b ∉ [I] → h.get? b = some o → h'.get? b = some o) (off : ∀ p ∈ news, p.1 ≠ I) : News h₀ L h' news :=
  fun p hp => ⟨hk _ _ (by simpa using off p hp) (N p hp).1, (N p hp).2⟩

theorem For_gen {target iter : Expr} {body : List Stmt} {pos : Pos} {Q : Flow → Shared → Prop} {m₀ : Str → Option Value} (_F : Fr h₀ L s.heap m₀)
    (h : wpAny (model prog w) A (eval iter env) (fun xv s₁ => wpAny (model prog w) A (pyIter xv) (fun it s₂ => LoopG prog w A h₀ L env target body Q it s₂) (fun _ _ => False) s₁) (fun _ _ => False) s)
    (hs : ∀ x, foldedSetIterable iter env x = pure x := by intro _; rfl)
    (ht : ∀ it v, letOwnedTupleGo target it v = pure () := by intro _ _; rfl) :
    wpAny (model prog w) A (exec (.For target iter body [] pos) env) Q E s := by
  refine wpAny_For (wpAny_noRaise (wpAny_mono h (fun xv s₁ h₁ => wpAny_noRaise (wpAny_mono h₁ (fun it s₂ h₂ => ?_) fun _ _ e => e)) fun _ _ e => e)) hs
  obtain ⟨I, fp, n, P, St, m, news, J, rfl, W, hIo, hSt', hLI, hI₀, hoff, hst, F, N, h0, step, done⟩ := h₂
  refine codeAny_forLoop
    (fun k s' => ∃ h' tk m' news' i, s' = { s₂ with heap := h', toks := tk } ∧ St i h' ∧ Fr h₀ L h' m' ∧ News h₀ L h' news' ∧ (∀ p ∈ news', p.1 ≠ I) ∧ J i m' news' ∧ i ≤ n ∧ k = n + 1 - i) ?_ (n + 1)
    ⟨s₂.heap, s₂.toks, m, news, 0, rfl, hst, F, N, hoff, h0, Nat.zero_le _, rfl⟩ (ht _)
  rintro k s' ⟨h', tk, m', news', i, rfl, hst', F', N', hnw', hJ, hi, rfl⟩
  by_cases hlt : i < n
  · refine W.item i _ _ _ hlt hst' fun v h₁ tk₁ hP hst₁ hk₁ => ?_
    have F₁ := fr_but1 F' hk₁ hLI hI₀
    have N₁ := news_but1 N' hk₁ hnw'
    obtain ⟨o, ho⟩ := hIo _ _ hst₁
    have N₂ : News h₀ L h₁ ((I, o) :: news') := fun p hp => by
      rcases List.mem_cons.mp hp with rfl | hp
      · exact ⟨ho, Ne.symm hLI, hI₀⟩
      · exact N₁ p hp
    refine wpAny_mono (step i v m' news' h₁ tk₁ o hlt hP hJ hnw' F₁ N₂) (fun _ s₃ h₃ => wpAny_mono h₃ (fun f s₄ h₄ => ?_) fun _ _ e => e.elim) fun _ _ e => e.elim
    cases f with
    | ret v => exact h₄
    | brk => exact h₄
    | cont =>
      obtain ⟨h₅, tk₅, m₂, news₂, rfl, F₅, N₅, off₅, J₅⟩ := h₄
      have NN : News h₀ L h₅ news₂ := fun p hp => N₅ p (List.mem_cons_of_mem _ hp)
      exact ⟨n + 1 - (i + 1), by omega, h₅, tk₅, m₂, news₂, i + 1, rfl, hSt' _ _ _ _ _ _ hst₁ ho (N₅ _ List.mem_cons_self).1 F₅ NN J₅, F₅, NN, off₅, J₅, hlt, rfl⟩
    | next =>
      obtain ⟨h₅, tk₅, m₂, news₂, rfl, F₅, N₅, off₅, J₅⟩ := h₄
      have NN : News h₀ L h₅ news₂ := fun p hp => N₅ p (List.mem_cons_of_mem _ hp)
      exact ⟨n + 1 - (i + 1), by omega, h₅, tk₅, m₂, news₂, i + 1, rfl, hSt' _ _ _ _ _ _ hst₁ ho (N₅ _ List.mem_cons_self).1 F₅ NN J₅, F₅, NN, off₅, J₅, hlt, rfl⟩
  · have hin : i = n := by omega
    subst hin
    refine W.done _ _ _ hst' fun h₁ tk₁ hk₁ => wpAny_execs_nil ?_
    exact done m' news' h₁ tk₁ (fr_but1 F' hk₁ hLI hI₀) (news_but1 N' hk₁ hnw') hnw' hJ

/-- over a list of the ledger that stays as it is -/
theorem iter_listG {target : Expr} {body : List Stmt} {Q : Flow → Shared → Prop} {l : Addr} {vs : List Value} {m : Str → Option Value} {news : List (Addr × Obj)} (J : Nat → (Str → Option Value) → List (Addr × Obj) → Prop)
    (hh : A.handled = none) (F : Fr h₀ L s.heap m) (N : News h₀ L s.heap news) (h0 : J 0 m news) (hJ : ∀ i m' nw, J i m' nw → h₀.IsList l vs.toArray ∨ ∃ k, (l, listOf vs.toArray k) ∈ nw)
    (turn : ∀ i v I o m₁ news₁ h tk, vs[i]? = some v → J i m₁ news₁ → (∀ p ∈ news, p.1 < I) → (∀ p ∈ news₁, p.1 ≠ I) → Fr h₀ L h m₁ → News h₀ L h ((I, o) :: news₁) →
      wpAny (model prog w) A (assign target env v) (fun _ s₃ => wpAny (model prog w) A (execs body env) (EndG h₀ L I o (J (i + 1)) Q { s with heap := h, toks := tk }) (fun _ _ => False) s₃) (fun _ _ => False) { s with heap := h, toks := tk })
    (done : ∀ m' news' h' tk, Fr h₀ L h' m' → News h₀ L h' news' → J vs.length m' news' → Q .next { s with heap := h', toks := tk }) :
    wpAny (model prog w) A (pyIter (.ref l)) (fun it s₂ => LoopG prog w A h₀ L env target body Q it s₂) E s := by
  have islist : ∀ {i : Nat} {m' : Str → Option Value} {h : Heap} {nw : List (Addr × Obj)}, Fr h₀ L h m' → News h₀ L h nw → J i m' nw → h.IsList l vs.toArray := fun {i m' h nw} F N hj => by
    rcases hJ i m' nw hj with hb | ⟨k, hk⟩
    · exact hb.at fun o e => F.keep _ _ e
    · exact ⟨_, (N _ hk).1, rfl, _, rfl⟩
  have hls := islist F N h0
  have hlt : l < s.heap.objs.size := by obtain ⟨_, e, _⟩ := hls; exact Heap.lt_size e
  refine wpAny_pyIter_list hls ?_
  refine ⟨s.heap.objs.size, [s.heap.objs.size, l], vs.length, fun i v => vs[i]? = some v, fun i h => h.IsListIter s.heap.objs.size l i ∧ h.IsList l vs.toArray, m, news, J, rfl, ?_, ?_, ?_, Nat.ne_of_lt F.ns.lt, next_is_new F, fun p hp => Nat.ne_of_lt (Heap.lt_size (N p hp).1),
    ⟨⟨_, Heap.get?_push_size _ rfl, rfl, rfl⟩, hls.push _⟩, F.push _, N.grown fun _ _ e => Heap.get?_push_of_some _ e, h0, ?_, ?_⟩
  · have W := Walks.list (prog := prog) (w := w) hh s.heap.objs.size l (Nat.ne_of_lt hlt) vs.toArray
    simpa using W
  · rintro i h ⟨⟨o, ho, _⟩, _⟩; exact ⟨o, ho⟩
  · rintro i h h' o m' nw ⟨⟨o', ho', r⟩, _⟩ ho hn F' N' hj
    rw [ho'] at ho; cases ho
    exact ⟨⟨_, hn, r⟩, islist F' N' hj⟩
  · intro i v m₁ news₁ h tk o _ hv hj off F₁ N₁
    exact turn i v _ o m₁ news₁ h tk hv hj (fun p hp => Heap.lt_size (N p hp).1) off F₁ N₁
  · intro m' news' h' tk F' N' _ hj
    exact done m' news' h' tk F' N' hj

/-- over a range by ones -/
theorem iter_rangeG {target : Expr} {body : List Stmt} {Q : Flow → Shared → Prop} {r : Addr} {a b : Int} {t₀ u₀ v₀ : Tok} {n : Nat} {m : Str → Option Value} {news : List (Addr × Obj)} (J : Nat → (Str → Option Value) → List (Addr × Obj) → Prop)
    (hh : A.handled = none) (hr : IsRange s.heap r a b 1 t₀ u₀ v₀) (hsmall : Builtin.Range.small a b 1 = true) (hn : Builtin.Range.rangeSize a b 1 = (n : Int)) (F : Fr h₀ L s.heap m) (N : News h₀ L s.heap news) (h0 : J 0 m news)
    (turn : ∀ i t I o m₁ news₁ h tk, i < n → J i m₁ news₁ → (∀ p ∈ news, p.1 < I) → (∀ p ∈ news₁, p.1 ≠ I) → Fr h₀ L h m₁ → News h₀ L h ((I, o) :: news₁) →
      wpAny (model prog w) A (assign target env (.int (a + (i : Int)) t)) (fun _ s₃ => wpAny (model prog w) A (execs body env) (EndG h₀ L I o (J (i + 1)) Q { s with heap := h, toks := tk }) (fun _ _ => False) s₃) (fun _ _ => False) { s with heap := h, toks := tk })
    (done : ∀ m' news' h' tk, Fr h₀ L h' m' → News h₀ L h' news' → J n m' news' → Q .next { s with heap := h', toks := tk }) :
    wpAny (model prog w) A (pyIter (.ref r)) (fun it s₂ => LoopG prog w A h₀ L env target body Q it s₂) E s := by
  refine wpAny_pyIter_range hr hsmall ?_
  refine ⟨s.heap.objs.size, [s.heap.objs.size], n, _, _, m, news, J, rfl, LCg.range_walks hh a n, ?_, ?_, Nat.ne_of_lt F.ns.lt, next_is_new F, fun p hp => Nat.ne_of_lt (Heap.lt_size (N p hp).1),
    (by show IsRangeIter _ _ _ _ _; rw [hn]; simpa using Heap.get?_push_size _ rfl), F.push _, N.grown fun _ _ e => Heap.get?_push_of_some _ e, h0, ?_, ?_⟩
  · intro i h st; exact ⟨_, st⟩
  · intro i h h' o m' nw st ho hn' _ _ _
    have st' : h.get? s.heap.objs.size = some _ := st
    show h'.get? s.heap.objs.size = some _
    rw [hn', ← ho]; exact st'
  · rintro i v m₁ news₁ h tk o hi ⟨t, rfl⟩ hj off F₁ N₁
    exact turn i t _ o m₁ news₁ h tk hi hj (fun p hp => Heap.lt_size (N p hp).1) off F₁ N₁
  · intro m' news' h' tk F' N' _ hj
    exact done m' news' h' tk F' N' hj

/-- over the signs of a text -/
theorem iter_strG {target : Expr} {body : List Stmt} {Q : Flow → Shared → Prop} {x : Str} {t : Tok} {m : Str → Option Value} {news : List (Addr × Obj)} (J : Nat → (Str → Option Value) → List (Addr × Obj) → Prop)
    (hh : A.handled = none) (F : Fr h₀ L s.heap m) (N : News h₀ L s.heap news) (h0 : J 0 m news)
    (turn : ∀ i c t I o m₁ news₁ h tk, x.cps[i]? = some c → J i m₁ news₁ → (∀ p ∈ news, p.1 < I) → (∀ p ∈ news₁, p.1 ≠ I) → Fr h₀ L h m₁ → News h₀ L h ((I, o) :: news₁) →
      wpAny (model prog w) A (assign target env (.str ⟨#[c]⟩ t)) (fun _ s₃ => wpAny (model prog w) A (execs body env) (EndG h₀ L I o (J (i + 1)) Q { s with heap := h, toks := tk }) (fun _ _ => False) s₃) (fun _ _ => False) { s with heap := h, toks := tk })
    (done : ∀ m' news' h' tk, Fr h₀ L h' m' → News h₀ L h' news' → J x.cps.size m' news' → Q .next { s with heap := h', toks := tk }) :
    wpAny (model prog w) A (pyIter (.str x t)) (fun it s₂ => LoopG prog w A h₀ L env target body Q it s₂) E s := by
  have core : ∀ (cl : String) (W : Walks prog w A s.heap.objs.size [s.heap.objs.size] [s.heap.objs.size] x.cps.size (SignAt x) (fun i h => h.IsStrIter s.heap.objs.size cl x t i)) (ob : Obj), (s.heap.push ob).IsStrIter s.heap.objs.size cl x t 0 →
      LoopG prog w A h₀ L env target body Q (.ref s.heap.objs.size) { s with heap := s.heap.push ob } := by
    intro cl W ob hst
    refine ⟨s.heap.objs.size, [s.heap.objs.size], x.cps.size, _, _, m, news, J, rfl, W, ?_, ?_, Nat.ne_of_lt F.ns.lt, next_is_new F, fun p hp => Nat.ne_of_lt (Heap.lt_size (N p hp).1),
      hst, F.push _, N.grown fun _ _ e => Heap.get?_push_of_some _ e, h0, ?_, ?_⟩
    · rintro i h ⟨o, ho, _⟩; exact ⟨o, ho⟩
    · rintro i h h' o m' nw ⟨o', ho', r⟩ ho hn _ _ _
      rw [ho'] at ho; cases ho
      exact ⟨_, hn, r⟩
    · rintro i v m₁ news₁ h tk o hi ⟨c, u, hc, rfl⟩ hj off F₁ N₁
      exact turn i c u _ o m₁ news₁ h tk hc hj (fun p hp => Heap.lt_size (N p hp).1) off F₁ N₁
    · intro m' news' h' tk F' N' _ hj
      exact done m' news' h' tk F' N' hj
  cases ha : x.cps.all (· < 128)
  · exact wpAny_pyIter_wide ha (core _ (Walks.strWide hh _ x t) _ ⟨_, Heap.get?_push_size _ rfl, rfl, rfl⟩)
  · exact wpAny_pyIter_ascii ha (core _ (Walks.strAscii hh _ x t) _ ⟨_, Heap.get?_push_size _ rfl, rfl, rfl⟩)

/-- the same with one exit: a break and the end both lead to JX -/
noncomputable def EndX (h₀ : Heap) (L I : Addr) (o : Obj) (Jn : (Str → Option Value) → List (Addr × Obj) → Prop) (JX : (Str → Option Value) → List (Addr × Obj) → Prop) (s : Shared) (f : Flow) (s₄ : Shared) : Prop :=
  match f with
  | .ret _ => False
  | .brk => ∃ h' tk m₂ news₂, s₄ = { s with heap := h', toks := tk } ∧ Fr h₀ L h' m₂ ∧ News h₀ L h' news₂ ∧ JX m₂ news₂
  | _ => ∃ h' tk m₂ news₂, s₄ = { s with heap := h', toks := tk } ∧ Fr h₀ L h' m₂ ∧ News h₀ L h' ((I, o) :: news₂) ∧ (∀ p ∈ news₂, p.1 ≠ I) ∧ Jn m₂ news₂
theorem EndX.next {I : Addr} {o : Obj} {Jn JX : (Str → Option Value) → List (Addr × Obj) → Prop} {h' : Heap} {tk : Nat} {m₂ : Str → Option Value} {all : List (Addr × Obj)}
    (F : Fr h₀ L h' m₂) (N : News h₀ L h' all) (news₂ : List (Addr × Obj)) (hI : (I, o) ∈ all) (sub : ∀ p ∈ news₂, p ∈ all) (off : ∀ p ∈ news₂, p.1 ≠ I) (hJ : Jn m₂ news₂) :
    EndX h₀ L I o Jn JX s .next { s with heap := h', toks := tk } :=
  ⟨h', tk, m₂, news₂, rfl, F, fun p hp => (List.mem_cons.mp hp).elim (fun e => e ▸ N _ hI) fun e => N _ (sub p e), off, hJ⟩
theorem EndX.next_head {I D : Addr} {o ob : Obj} {Jn JX : (Str → Option Value) → List (Addr × Obj) → Prop} {h' : Heap} {tk : Nat} {m₂ : Str → Option Value} {mid : List (Addr × Obj)}
    (F : Fr h₀ L h' m₂) (N : News h₀ L h' ((D, ob) :: mid)) (keep : List (Addr × Obj)) (hI : (I, o) ∈ mid) (sub : ∀ p ∈ keep, p ∈ mid) (offD : D ≠ I) (off : ∀ p ∈ keep, p.1 ≠ I) (hJ : Jn m₂ ((D, ob) :: keep)) :
    EndX h₀ L I o Jn JX s .next { s with heap := h', toks := tk } :=
  EndX.next F N ((D, ob) :: keep) (List.Mem.tail _ hI) (fun p hp => (List.mem_cons.mp hp).elim (fun e => e ▸ List.Mem.head _) fun e => List.Mem.tail _ (sub p e)) (fun p hp => (List.mem_cons.mp hp).elim (fun e => e ▸ offD) fun e => off p e) hJ
theorem EndX.next_same {I : Addr} {o : Obj} {Jn JX : (Str → Option Value) → List (Addr × Obj) → Prop} {h' : Heap} {tk : Nat} {m₂ : Str → Option Value} {nw : List (Addr × Obj)}
    (F : Fr h₀ L h' m₂) (N : News h₀ L h' ((I, o) :: nw)) (off : ∀ p ∈ nw, p.1 ≠ I) (hJ : Jn m₂ nw) :
    EndX h₀ L I o Jn JX s .next { s with heap := h', toks := tk } := ⟨h', tk, m₂, nw, rfl, F, N, off, hJ⟩
theorem EndX.brk {I : Addr} {o : Obj} {Jn JX : (Str → Option Value) → List (Addr × Obj) → Prop} {h' : Heap} {tk : Nat} {m₂ : Str → Option Value} {all : List (Addr × Obj)}
    (F : Fr h₀ L h' m₂) (N : News h₀ L h' all) (news₂ : List (Addr × Obj)) (sub : ∀ p ∈ news₂, p ∈ all) (hJ : JX m₂ news₂) :
    EndX h₀ L I o Jn JX s .brk { s with heap := h', toks := tk } :=
  ⟨h', tk, m₂, news₂, rfl, F, fun p hp => N _ (sub p hp), hJ⟩
theorem iter_strX {target : Expr} {body : List Stmt} {Q : Flow → Shared → Prop} {x : Str} {t : Tok} {m : Str → Option Value} {news : List (Addr × Obj)} (J : Nat → (Str → Option Value) → List (Addr × Obj) → Prop) (JX : (Str → Option Value) → List (Addr × Obj) → Prop)
    (hh : A.handled = none) (F : Fr h₀ L s.heap m) (N : News h₀ L s.heap news) (h0 : J 0 m news) (hX : ∀ m nw, J x.cps.size m nw → JX m nw)
    (turn : ∀ i c t I o m₁ news₁ h tk, x.cps[i]? = some c → J i m₁ news₁ → (∀ p ∈ news, p.1 < I) → (∀ p ∈ news₁, p.1 ≠ I) → Fr h₀ L h m₁ → News h₀ L h ((I, o) :: news₁) →
      wpAny (model prog w) A (assign target env (.str ⟨#[c]⟩ t)) (fun _ s₃ => wpAny (model prog w) A (execs body env) (EndX h₀ L I o (J (i + 1)) JX { s with heap := h, toks := tk }) (fun _ _ => False) s₃) (fun _ _ => False) { s with heap := h, toks := tk })
    (done : ∀ m' news' h' tk, Fr h₀ L h' m' → News h₀ L h' news' → JX m' news' → Q .next { s with heap := h', toks := tk }) :
    wpAny (model prog w) A (pyIter (.str x t)) (fun it s₂ => LoopG prog w A h₀ L env target body Q it s₂) E s := by
  refine iter_strG J hh F N h0 (fun i c t I o m₁ news₁ h tk a b c' d F₁ N₁ => wpAny_mono (turn i c t I o m₁ news₁ h tk a b c' d F₁ N₁) (fun _ s₃ h₃ => wpAny_mono h₃ (fun f s₄ h₄ => ?_) fun _ _ e => e) fun _ _ e => e) fun m' news' h' tk F' N' hj => done m' news' h' tk F' N' (hX _ _ hj)
  cases f with
  | ret v => exact h₄.elim
  | brk => obtain ⟨h₅, tk₅, m₂, news₂, rfl, F₅, N₅, J₅⟩ := h₄; exact done m₂ news₂ h₅ tk₅ F₅ N₅ J₅
  | next => exact h₄
  | cont => exact h₄

noncomputable def ExitW (h₀ : Heap) (L : Addr) (s : Shared) (JX : (Str → Option Value) → List (Addr × Obj) → Prop) (s₂ : Shared) : Prop :=
  ∃ h' tk m' nw', s₂ = { s with heap := h', toks := tk } ∧ Fr h₀ L h' m' ∧ News h₀ L h' nw' ∧ JX m' nw'
theorem ExitW.intro {JX : (Str → Option Value) → List (Addr × Obj) → Prop} {h' : Heap} {tk : Nat} {m' : Str → Option Value} {nw' : List (Addr × Obj)} (F : Fr h₀ L h' m') (N : News h₀ L h' nw') (hJ : JX m' nw') : ExitW h₀ L s JX { s with heap := h', toks := tk } := ⟨h', tk, m', nw', rfl, F, N, hJ⟩
theorem While_invX {test : Expr} {body : List Stmt} {pos : Pos} {Q : Flow → Shared → Prop} {m : Str → Option Value} {news : List (Addr × Obj)} (J : Nat → (Str → Option Value) → List (Addr × Obj) → Prop) (JX : (Str → Option Value) → List (Addr × Obj) → Prop) (n₀ : Nat)
    (F : Fr h₀ L s.heap m) (N : News h₀ L s.heap news) (hJ : J n₀ m news)
    (turn : ∀ n m₁ news₁ h₁ tk₁, Fr h₀ L h₁ m₁ → News h₀ L h₁ news₁ → J n m₁ news₁ →
      wpAny (model prog w) A (isTrue test env (eval test env)) (fun b s₂ =>
        if b = true then wpAny (model prog w) A (execs body env) (WhileStep h₀ L s J n) (fun _ _ => False) s₂ else ExitW h₀ L s JX s₂) (fun _ _ => False) { s with heap := h₁, toks := tk₁ })
    (done : ∀ m' news' h' tk, Fr h₀ L h' m' → News h₀ L h' news' → JX m' news' → Q .next { s with heap := h', toks := tk }) :
    wpAny (model prog w) A (exec (.While test body [] pos) env) Q E s := by
  refine wpAny_noRaise (While_inv J F N hJ (fun n m₁ news₁ h₁ tk₁ F₁ N₁ J₁ => wpAny_mono (turn n m₁ news₁ h₁ tk₁ F₁ N₁ J₁) (fun b s₂ h₂ => ?_) fun _ _ e => e) PassesOwn.never)
  cases b with
  | true => exact h₂
  | false =>
    simp only [Bool.false_eq_true, if_false] at h₂ ⊢
    obtain ⟨h', tk, m', nw', rfl, F', N', J'⟩ := h₂
    exact done m' nw' h' tk F' N' J'
end
end Mine

end
section
open PySem PySem.W PyProof.Rows
namespace Mine
noncomputable abbrev envM (names : List (Str × NameKind)) (ig ic : Bool) (more : List (Str × Const)) (lo gl : Addr) (ce : List (Str × Addr)) (qual : Str) (fu : Option Addr) (co : Value) (L : Addr) (bu : Addr) : Env :=
  ⟨⟨.function, names, ig, ic, more⟩, lo, gl, ce, qual, fu, co, some L, bu⟩
end Mine
namespace Mine
theorem map_eq1 {m m₀ : Str → Option Value} {a1 : Str} {v1 : Value} (h1 : m a1 = some v1) (hm : ∀ z, z ≠ a1 → m z = m₀ z) : m = fun z => if z = a1 then some v1 else m₀ z := by
  funext z
  by_cases e1 : z = a1
  · rw [if_pos e1, e1, h1]
  rw [if_neg e1]
  exact hm z e1
theorem map_eq2 {m m₀ : Str → Option Value} {a1 a2 : Str} {v1 v2 : Value} (h1 : m a1 = some v1) (h2 : m a2 = some v2) (hm : ∀ z, z ≠ a1 → z ≠ a2 → m z = m₀ z) : m = fun z => if z = a1 then some v1 else if z = a2 then some v2 else m₀ z := by
  funext z
  by_cases e1 : z = a1
  · rw [if_pos e1, e1, h1]
  rw [if_neg e1]
  by_cases e2 : z = a2
  · rw [if_pos e2, e2, h2]
  rw [if_neg e2]
  exact hm z e1 e2
theorem map_eq3 {m m₀ : Str → Option Value} {a1 a2 a3 : Str} {v1 v2 v3 : Value} (h1 : m a1 = some v1) (h2 : m a2 = some v2) (h3 : m a3 = some v3) (hm : ∀ z, z ≠ a1 → z ≠ a2 → z ≠ a3 → m z = m₀ z) : m = fun z => if z = a1 then some v1 else if z = a2 then some v2 else if z = a3 then some v3 else m₀ z := by
  funext z
  by_cases e1 : z = a1
  · rw [if_pos e1, e1, h1]
  rw [if_neg e1]
  by_cases e2 : z = a2
  · rw [if_pos e2, e2, h2]
  rw [if_neg e2]
  by_cases e3 : z = a3
  · rw [if_pos e3, e3, h3]
  rw [if_neg e3]
  exact hm z e1 e2 e3
theorem map_eq4 {m m₀ : Str → Option Value} {a1 a2 a3 a4 : Str} {v1 v2 v3 v4 : Value} (h1 : m a1 = some v1) (h2 : m a2 = some v2) (h3 : m a3 = some v3) (h4 : m a4 = some v4) (hm : ∀ z, z ≠ a1 → z ≠ a2 → z ≠ a3 → z ≠ a4 → m z = m₀ z) : m = fun z => if z = a1 then some v1 else if z = a2 then some v2 else if z = a3 then some v3 else if z = a4 then some v4 else m₀ z := by
  funext z
  by_cases e1 : z = a1
  · rw [if_pos e1, e1, h1]
  rw [if_neg e1]
  by_cases e2 : z = a2
  · rw [if_pos e2, e2, h2]
  rw [if_neg e2]
  by_cases e3 : z = a3
  · rw [if_pos e3, e3, h3]
  rw [if_neg e3]
  by_cases e4 : z = a4
  · rw [if_pos e4, e4, h4]
  rw [if_neg e4]
  exact hm z e1 e2 e3 e4
theorem map_eq5 {m m₀ : Str → Option Value} {a1 a2 a3 a4 a5 : Str} {v1 v2 v3 v4 v5 : Value} (h1 : m a1 = some v1) (h2 : m a2 = some v2) (h3 : m a3 = some v3) (h4 : m a4 = some v4) (h5 : m a5 = some v5) (hm : ∀ z, z ≠ a1 → z ≠ a2 → z ≠ a3 → z ≠ a4 → z ≠ a5 → m z = m₀ z) : m = fun z => if z = a1 then some v1 else if z = a2 then some v2 else if z = a3 then some v3 else if z = a4 then some v4 else if z = a5 then some v5 else m₀ z := by
  funext z
  by_cases e1 : z = a1
  · rw [if_pos e1, e1, h1]
  rw [if_neg e1]
  by_cases e2 : z = a2
  · rw [if_pos e2, e2, h2]
  rw [if_neg e2]
  by_cases e3 : z = a3
  · rw [if_pos e3, e3, h3]
  rw [if_neg e3]
  by_cases e4 : z = a4
  · rw [if_pos e4, e4, h4]
  rw [if_neg e4]
  by_cases e5 : z = a5
  · rw [if_pos e5, e5, h5]
  rw [if_neg e5]
  exact hm z e1 e2 e3 e4 e5
theorem map_eq6 {m m₀ : Str → Option Value} {a1 a2 a3 a4 a5 a6 : Str} {v1 v2 v3 v4 v5 v6 : Value} (h1 : m a1 = some v1) (h2 : m a2 = some v2) (h3 : m a3 = some v3) (h4 : m a4 = some v4) (h5 : m a5 = some v5) (h6 : m a6 = some v6) (hm : ∀ z, z ≠ a1 → z ≠ a2 → z ≠ a3 → z ≠ a4 → z ≠ a5 → z ≠ a6 → m z = m₀ z) : m = fun z => if z = a1 then some v1 else if z = a2 then some v2 else if z = a3 then some v3 else if z = a4 then some v4 else if z = a5 then some v5 else if z = a6 then some v6 else m₀ z := by
  funext z
  by_cases e1 : z = a1
  · rw [if_pos e1, e1, h1]
  rw [if_neg e1]
  by_cases e2 : z = a2
  · rw [if_pos e2, e2, h2]
  rw [if_neg e2]
  by_cases e3 : z = a3
  · rw [if_pos e3, e3, h3]
  rw [if_neg e3]
  by_cases e4 : z = a4
  · rw [if_pos e4, e4, h4]
  rw [if_neg e4]
  by_cases e5 : z = a5
  · rw [if_pos e5, e5, h5]
  rw [if_neg e5]
  by_cases e6 : z = a6
  · rw [if_pos e6, e6, h6]
  rw [if_neg e6]
  exact hm z e1 e2 e3 e4 e5 e6
theorem map_eq7 {m m₀ : Str → Option Value} {a1 a2 a3 a4 a5 a6 a7 : Str} {v1 v2 v3 v4 v5 v6 v7 : Value} (h1 : m a1 = some v1) (h2 : m a2 = some v2) (h3 : m a3 = some v3) (h4 : m a4 = some v4) (h5 : m a5 = some v5) (h6 : m a6 = some v6) (h7 : m a7 = some v7) (hm : ∀ z, z ≠ a1 → z ≠ a2 → z ≠ a3 → z ≠ a4 → z ≠ a5 → z ≠ a6 → z ≠ a7 → m z = m₀ z) : m = fun z => if z = a1 then some v1 else if z = a2 then some v2 else if z = a3 then some v3 else if z = a4 then some v4 else if z = a5 then some v5 else if z = a6 then some v6 else if z = a7 then some v7 else m₀ z := by
  funext z
  by_cases e1 : z = a1
  · rw [if_pos e1, e1, h1]
  rw [if_neg e1]
  by_cases e2 : z = a2
  · rw [if_pos e2, e2, h2]
  rw [if_neg e2]
  by_cases e3 : z = a3
  · rw [if_pos e3, e3, h3]
  rw [if_neg e3]
  by_cases e4 : z = a4
  · rw [if_pos e4, e4, h4]
  rw [if_neg e4]
  by_cases e5 : z = a5
  · rw [if_pos e5, e5, h5]
  rw [if_neg e5]
  by_cases e6 : z = a6
  · rw [if_pos e6, e6, h6]
  rw [if_neg e6]
  by_cases e7 : z = a7
  · rw [if_pos e7, e7, h7]
  rw [if_neg e7]
  exact hm z e1 e2 e3 e4 e5 e6 e7
theorem map_eq8 {m m₀ : Str → Option Value} {a1 a2 a3 a4 a5 a6 a7 a8 : Str} {v1 v2 v3 v4 v5 v6 v7 v8 : Value} (h1 : m a1 = some v1) (h2 : m a2 = some v2) (h3 : m a3 = some v3) (h4 : m a4 = some v4) (h5 : m a5 = some v5) (h6 : m a6 = some v6) (h7 : m a7 = some v7) (h8 : m a8 = some v8) (hm : ∀ z, z ≠ a1 → z ≠ a2 → z ≠ a3 → z ≠ a4 → z ≠ a5 → z ≠ a6 → z ≠ a7 → z ≠ a8 → m z = m₀ z) : m = fun z => if z = a1 then some v1 else if z = a2 then some v2 else if z = a3 then some v3 else if z = a4 then some v4 else if z = a5 then some v5 else if z = a6 then some v6 else if z = a7 then some v7 else if z = a8 then some v8 else m₀ z := by
  funext z
  by_cases e1 : z = a1
  · rw [if_pos e1, e1, h1]
  rw [if_neg e1]
  by_cases e2 : z = a2
  · rw [if_pos e2, e2, h2]
  rw [if_neg e2]
  by_cases e3 : z = a3
  · rw [if_pos e3, e3, h3]
  rw [if_neg e3]
  by_cases e4 : z = a4
  · rw [if_pos e4, e4, h4]
  rw [if_neg e4]
  by_cases e5 : z = a5
  · rw [if_pos e5, e5, h5]
  rw [if_neg e5]
  by_cases e6 : z = a6
  · rw [if_pos e6, e6, h6]
  rw [if_neg e6]
  by_cases e7 : z = a7
  · rw [if_pos e7, e7, h7]
  rw [if_neg e7]
  by_cases e8 : z = a8
  · rw [if_pos e8, e8, h8]
  rw [if_neg e8]
  exact hm z e1 e2 e3 e4 e5 e6 e7 e8
theorem map_eq9 {m m₀ : Str → Option Value} {a1 a2 a3 a4 a5 a6 a7 a8 a9 : Str} {v1 v2 v3 v4 v5 v6 v7 v8 v9 : Value} (h1 : m a1 = some v1) (h2 : m a2 = some v2) (h3 : m a3 = some v3) (h4 : m a4 = some v4) (h5 : m a5 = some v5) (h6 : m a6 = some v6) (h7 : m a7 = some v7) (h8 : m a8 = some v8) (h9 : m a9 = some v9) (hm : ∀ z, z ≠ a1 → z ≠ a2 → z ≠ a3 → z ≠ a4 → z ≠ a5 → z ≠ a6 → z ≠ a7 → z ≠ a8 → z ≠ a9 → m z = m₀ z) : m = fun z => if z = a1 then some v1 else if z = a2 then some v2 else if z = a3 then some v3 else if z = a4 then some v4 else if z = a5 then some v5 else if z = a6 then some v6 else if z = a7 then some v7 else if z = a8 then some v8 else if z = a9 then some v9 else m₀ z := by
  funext z
  by_cases e1 : z = a1
  · rw [if_pos e1, e1, h1]
  rw [if_neg e1]
  by_cases e2 : z = a2
  · rw [if_pos e2, e2, h2]
  rw [if_neg e2]
  by_cases e3 : z = a3
  · rw [if_pos e3, e3, h3]
  rw [if_neg e3]
  by_cases e4 : z = a4
  · rw [if_pos e4, e4, h4]
  rw [if_neg e4]
  by_cases e5 : z = a5
  · rw [if_pos e5, e5, h5]
  rw [if_neg e5]
  by_cases e6 : z = a6
  · rw [if_pos e6, e6, h6]
  rw [if_neg e6]
  by_cases e7 : z = a7
  · rw [if_pos e7, e7, h7]
  rw [if_neg e7]
  by_cases e8 : z = a8
  · rw [if_pos e8, e8, h8]
  rw [if_neg e8]
  by_cases e9 : z = a9
  · rw [if_pos e9, e9, h9]
  rw [if_neg e9]
  exact hm z e1 e2 e3 e4 e5 e6 e7 e8 e9
end Mine
namespace Mine
theorem fr_get {h₀ h : Heap} {L : Addr} {m : Str → Option Value} (F : Fr h₀ L h m) : ∃ mm, mm = m ∧ Fr h₀ L h mm := ⟨m, rfl, F⟩
end Mine
namespace Mine
theorem news_get {h₀ h : Heap} {L : Addr} {nw : List (Addr × Obj)} (N : News h₀ L h nw) : ∃ mm, mm = nw ∧ News h₀ L h mm := ⟨nw, rfl, N⟩
end Mine
namespace Mine
theorem kl_last_snoc (vs : List Value) (y : Value) : kl_last (vs ++ [y]).toArray.toList = some (vs, y) := kpa_last y vs
theorem bb_iff {p : Prop} [Decidable p] {said : Bool} (h : ((decide p == said) == said) = true) : p := by
  cases said <;> simpa using h
theorem bb_not {p : Prop} [Decidable p] {said : Bool} (h : ((decide p == said) == said) = false) : ¬ p := by
  cases said <;> simpa using h
end Mine
namespace Mine
theorem allLt_ne {d : Addr} : ∀ {l : List (Addr × Obj)}, AllLt d l → ∀ p ∈ l, p.1 ≠ d
  | [], _, _, h => nomatch h
  | _ :: _, x, p, h => by
    rcases List.mem_cons.mp h with rfl | h
    · exact Nat.ne_of_lt x.1
    · exact allLt_ne x.2 p h
end Mine
namespace Mine
theorem news_drop2 {h₀ h : Heap} {L : Addr} {a b : Addr × Obj} {r : List (Addr × Obj)} (N : News h₀ L h (a :: b :: r)) : News h₀ L h (a :: r) :=
  fun p hp => N p (List.mem_cons.mpr ((List.mem_cons.mp hp).imp id fun q => List.Mem.tail _ q))
theorem news_drop1 {h₀ h : Heap} {L : Addr} {a : Addr × Obj} {r : List (Addr × Obj)} (N : News h₀ L h (a :: r)) : News h₀ L h r :=
  fun p hp => N p (List.Mem.tail _ hp)
theorem news_swap {h₀ h : Heap} {L : Addr} {a b : Addr × Obj} {r : List (Addr × Obj)} (N : News h₀ L h (a :: b :: r)) : News h₀ L h (b :: a :: r) :=
  fun p hp => N p (by rcases List.mem_cons.mp hp with q | q
                      · rw [q]; exact List.Mem.tail _ (List.Mem.head _)
                      · rcases List.mem_cons.mp q with q | q
                        · rw [q]; exact List.Mem.head _
                        · exact List.Mem.tail _ (List.Mem.tail _ q))
end Mine
namespace Mine
open PySem.Calls
theorem setL_in : ∀ (vs : List Value) (k : Nat) (v : Value), k < vs.length → ki_setL vs k v = some (vs.set k v)
  | [], _, _, h => absurd h (Nat.not_lt_zero _)
  | _ :: _, 0, _, _ => rfl
  | x :: r, k + 1, v, h => by
    show (match ki_setL r k v with | some q => some (x :: q) | none => none) = _
    rw [setL_in r k v (Nat.lt_of_succ_lt_succ h)]
    rfl
theorem intsAre_set : ∀ {vs : List Value} {ns : List Int}, IntsAre vs ns → ∀ (k : Nat) (i : Int) (t : Tok), IntsAre (vs.set k (.int i t)) (ns.set k i)
  | _, _, .nil, _, _, _ => .nil
  | _, _, .cons n t' r, 0, i, t => .cons i t r
  | _, _, .cons n t' r, k + 1, i, t => .cons n t' (intsAre_set r k i t)
theorem intsAre_rep (k : Nat) (i : Int) (t : Tok) : IntsAre (List.replicate k (Value.int i t)) (List.replicate k i) := by
  induction k with
  | zero => exact .nil
  | succ k ih => exact .cons i t ih
section
variable {prog : Program} {w : World} {A : Around} {E : Value → Shared → Prop} {s : Shared} {h₀ : Heap} {L l : Addr} {m : Str → Option Value} {news news' : List (Addr × Obj)} {vs : List Value} {k : Nat} {ns : List Int} {Q : Value → Shared → Prop}
theorem m_len (N : News h₀ L s.heap news) (hm : (l, listOf vs.toArray k) ∈ news) (hf : vs.length < 2 ^ 62) (h : Q (.int (vs.length : Nat) (s.toks + 1)) { s with toks := s.toks + 1 + 1 }) :
    wpAny (model prog w) A (call (.builtin "len") [.ref l]) Q E s := KM.len_K N hm (by rw [List.size_toArray]) hf h
theorem m_item {value slice : Expr} {i : Int} {t : Tok} {v : Value} (N : News h₀ L s.heap news) (hm : (l, listOf vs.toArray k) ∈ news) (h0 : 0 ≤ i) (hfit : i < 2 ^ 63) (hx : vs[i.toNat]? = some v) (h : Q v s)
    (hs : subscripted slice false (.ref l) (.int i t) = operate [.ref l, .int i t] (getItem (.ref l) (.int i t)) := by with_unfolding_all rfl) (hg : ∀ r, letTemporaryGo value (.ref l) r = pure () := by intro _; with_unfolding_all rfl) :
    wpAny (model prog w) A (subscriptTail value slice (.ref l) (.int i t)) Q E s :=
  item_listL (News.isList N hm) h0 hfit hx h hs hg
theorem m_item_ints {value slice : Expr} {i : Int} {t : Tok} (N : News h₀ L s.heap news) (hm : (l, listOf vs.toArray k) ∈ news) (hi : IntsAre vs ns) (h0 : 0 ≤ i) (h1 : i < ns.length) (hfit : i < 2 ^ 63) (h : ∀ t, Q (.int (ns.getD i.toNat 0) t) s)
    (hs : subscripted slice false (.ref l) (.int i t) = operate [.ref l, .int i t] (getItem (.ref l) (.int i t)) := by with_unfolding_all rfl) (hg : ∀ r, letTemporaryGo value (.ref l) r = pure () := by intro _; with_unfolding_all rfl) :
    wpAny (model prog w) A (subscriptTail value slice (.ref l) (.int i t)) Q E s := by
  have hk : i.toNat < ns.length := by omega
  obtain ⟨t', ht⟩ := hi.get i.toNat ns[i.toNat] (List.getElem?_eq_getElem hk)
  refine m_item N hm h0 hfit ht ?_ hs hg
  have := h t'
  rw [List.getD_eq_getElem?_getD, List.getElem?_eq_getElem hk] at this
  exact this
theorem m_set {i : Int} {t : Tok} {v : Value} {Q : Unit → Shared → Prop} (F : Fr h₀ L s.heap m) (N : News h₀ L s.heap news) (h0 : 0 ≤ i) (h1 : i < vs.length) (hfit : i < 2 ^ 63) (U : Upd l (listOf vs.toArray k) (listOf (vs.set i.toNat v).toArray k) news news')
    (h : ∀ h', Fr h₀ L h' m → News h₀ L h' news' → Q () { s with heap := h' }) : wpAny (model prog w) A (setItem (.ref l) (.int i t) v) Q E s :=
  ki_set F N h0 hfit (by have := setL_in vs i.toNat v (by omega); simpa using this) U h
theorem m_last {value slice : Expr} {t : Tok} {v : Value} (N : News h₀ L s.heap news) (hm : (l, listOf (vs ++ [v]).toArray k) ∈ news) (hf : vs.length < 2 ^ 62) (h : Q v s)
    (hs : subscripted slice false (.ref l) (.int (-1) t) = operate [.ref l, .int (-1) t] (getItem (.ref l) (.int (-1) t)) := by with_unfolding_all rfl) (hg : ∀ r, letTemporaryGo value (.ref l) r = pure () := by intro _; with_unfolding_all rfl) :
    wpAny (model prog w) A (subscriptTail value slice (.ref l) (.int (-1) t)) Q E s := by
  have hl := News.isList N hm
  have hsz : (vs ++ [v]).toArray.size = vs.length + 1 := by simp
  exact subscriptTail_builtin hl.typeIs slot_list_getitem.lookup (wpAny_getItem_list_neg hl (by decide) (by omega) (by decide) (by
    rw [hsz, show ((-1 : Int) + ((vs.length + 1 : Nat) : Int)).toNat = vs.length by omega]
    simp) h) hs hg
theorem m_add {a b : Addr} {us : List Value} {k' : Nat} (F : Fr h₀ L s.heap m) (N : News h₀ L s.heap news) (ha : (a, listOf vs.toArray k) ∈ news) (hb : (b, listOf us.toArray k') ∈ news) (hsz : vs.length + us.length ≤ sizeLine)
    (h : ∀ D h', Fr h₀ L h' m → News h₀ L h' ((D, listOf (vs ++ us).toArray 0) :: news) → (∀ p ∈ news, p.1 < D) → Q (.ref D) { s with heap := h' }) :
    wpAny (model prog w) A (binaryOp .Add (.ref a) (.ref b)) Q E s :=
  add_lists (hsz := hsz) F N (News.isList N ha) (News.isList N hb) (fun h' F' N' => h _ h' F' N' fun p hp => Heap.lt_size (N p hp).1)
theorem m_mul {x : Int} {u : Tok} {v : Value} (F : Fr h₀ L s.heap m) (N : News h₀ L s.heap news) (ha : (l, listOf #[v] k) ∈ news) (hlo : 0 ≤ x) (hhi : x ≤ 256)
    (h : ∀ D h', Fr h₀ L h' m → News h₀ L h' ((D, listOf (List.replicate x.toNat v).toArray 0) :: news) → (∀ p ∈ news, p.1 < D) → Q (.ref D) { s with heap := h' }) :
    wpAny (model prog w) A (binaryOp .Mult (.ref l) (.int x u)) Q E s :=
  KMa.mul F N (vs := [v]) (News.isList N ha) (by omega) (by omega) (by simp; omega) List.flatten_replicate_singleton h
end
end Mine
namespace Mine
noncomputable def natI (l : List Nat) : List Int := l.map fun k : Nat => (k : Int)
theorem natI_length (l : List Nat) : (natI l).length = l.length := List.length_map _
end Mine
namespace Mine
theorem sign_true {c k : Nat} {x : Str} (hx : x = ⟨#[k]⟩) (h : ((⟨#[c]⟩ : Str) == x) = true) : c = k := by
  subst hx
  have := eq_of_beq h
  simpa using this
theorem sign_false {c k : Nat} {x : Str} (hx : x = ⟨#[k]⟩) (h : ((⟨#[c]⟩ : Str) == x) = false) : c ≠ k := by
  rintro rfl
  subst hx
  simp at h
theorem drop_cps {x : Str} {i c : Nat} (h : x.cps[i]? = some c) : x.cps.toList.drop i = c :: x.cps.toList.drop (i + 1) := by
  have h' : x.cps.toList[i]? = some c := by simpa using h
  obtain ⟨hi, e⟩ := List.getElem?_eq_some_iff.mp h'
  rw [List.drop_eq_getElem_cons hi, e]
theorem natI_set (l : List Nat) (k : Nat) (v : Nat) : natI (l.set k v) = (natI l).set k (v : Int) := by
  unfold natI; rw [List.map_set]
theorem natI_getD (l : List Nat) (k : Nat) : (natI l).getD k 0 = ((l.getD k 0 : Nat) : Int) := by
  unfold natI
  rw [List.getD_eq_getElem?_getD, List.getD_eq_getElem?_getD, List.getElem?_map]
  cases l[k]? <;> rfl
theorem natI_append (l r : List Nat) : natI (l ++ r) = natI l ++ natI r := List.map_append
theorem natI_replicate (n v : Nat) : natI (List.replicate n v) = List.replicate n (v : Int) := List.map_replicate
structure Wd where
  count : List Nat
  b : Nat
  n : Nat
  nt : Nat
noncomputable def Wd.sp (w : Wd) : Wd := ⟨w.count, w.b + 1, w.n + 1, w.nt⟩
noncomputable def Wd.grow (w : Wd) : List Nat := if w.b ≥ w.count.length then w.count ++ List.replicate (w.b - w.count.length + 1) 0 else w.count
noncomputable def Wd.tb (w : Wd) : Wd := ⟨w.grow.set w.b (w.grow.getD w.b 0 + 1), 0, w.n + 1, w.nt + 1⟩
noncomputable def Wd.run : List Nat → Wd → Wd
  | [], w => w
  | c :: r, w => if c = 32 then Wd.run r w.sp else if c = 9 then Wd.run r w.tb else w
noncomputable abbrev Wd.zero : Wd := ⟨[], 0, 0, 0⟩
noncomputable abbrev tupObj (vs : List Value) : Obj := { cls := .type "tuple", data := .seq vs.toArray }
noncomputable def WsIn (nw : List (Addr × Obj)) (x : Addr) (wd : Wd) : Prop :=
  ∃ (dx tu tc : Addr) (cs : List Value) (h1 h2 h3 h4 h5 : Int) (t1 t2 t3 t4 t5 tr tn tnt tb : Tok) (row : Str) (bs : Bool),
    (x, instObj 135 dx) ∈ nw ∧
    (dx, dictOf [⟨h1, .str (Str.ofString "raw") t1, .str row tr⟩, ⟨h2, .str (Str.ofString "n") t2, .int wd.n tn⟩, ⟨h3, .str (Str.ofString "nt") t3, .int wd.nt tnt⟩, ⟨h4, .str (Str.ofString "norm") t4, .ref tu⟩, ⟨h5, .str (Str.ofString "is_simple") t5, .bool bs⟩] 5) ∈ nw ∧
    (tu, tupObj [.ref tc, .int wd.b tb]) ∈ nw ∧ (tc, tupObj cs) ∈ nw ∧ IntsAre cs (natI wd.count) ∧ wd.count.length ≤ 50 ∧ (bs = true ↔ wd.count.length ≤ 1)
theorem WsIn.mono {nw nw' : List (Addr × Obj)} {x : Addr} {wd : Wd} (h : WsIn nw x wd) (hs : ∀ p ∈ nw, p ∈ nw') : WsIn nw' x wd := by
  obtain ⟨dx, tu, tc, cs, h1, h2, h3, h4, h5, t1, t2, t3, t4, t5, tr, tn, tnt, tb, row, bs, a, b, c, d, r⟩ := h
  exact ⟨dx, tu, tc, cs, h1, h2, h3, h4, h5, t1, t2, t3, t4, t5, tr, tn, tnt, tb, row, bs, hs _ a, hs _ b, hs _ c, hs _ d, r⟩
end Mine
namespace Mine
section
variable {prog : Program} {w : World} {A : Around} {E : Value → Shared → Prop} {s : Shared} {h₀ : Heap} {L l : Addr} {m : Str → Option Value} {news news' : List (Addr × Obj)} {vs : List Value} {k : Nat} {ns : List Int} {Q : Value → Shared → Prop}
theorem m_lenT (N : News h₀ L s.heap news) (hm : (l, tupObj vs) ∈ news) (hf : vs.length < 2 ^ 62) (h : Q (.int (vs.length : Nat) (s.toks + 1)) { s with toks := s.toks + 1 + 1 }) :
    wpAny (model prog w) A (call (.builtin "len") [.ref l]) Q E s := PyProof.Rows.len_tuple (News.isTup N hm) (by rw [List.size_toArray]; omega) (by rw [List.size_toArray]; exact h)
theorem m_itemT_ints {value slice : Expr} {i : Int} {t : Tok} (N : News h₀ L s.heap news) (hm : (l, tupObj vs) ∈ news) (hi : IntsAre vs ns) (h0 : 0 ≤ i) (h1 : i < ns.length) (hfit : i < 2 ^ 63) (h : ∀ t, Q (.int (ns.getD i.toNat 0) t) s)
    (hs : subscripted slice false (.ref l) (.int i t) = operate [.ref l, .int i t] (getItem (.ref l) (.int i t)) := by with_unfolding_all rfl) (hg : ∀ r, letTemporaryGo value (.ref l) r = pure () := by intro _; with_unfolding_all rfl) :
    wpAny (model prog w) A (subscriptTail value slice (.ref l) (.int i t)) Q E s :=
  item_tuple_ints (News.isTup N hm) hi h0 h1 hfit h hs hg
end
noncomputable def ilSum (ts : Nat) (count : List Nat) : Nat → Nat
  | 0 => 0
  | k + 1 => ilSum ts count k + (ts + k) / ts * count.getD (ts + k) 0
noncomputable def Wd.indent (x : Wd) (ts : Nat) : Nat := x.b + ts * (ilSum ts x.count (x.count.length - ts) + x.nt)
noncomputable def Wd.longest (x : Wd) : Nat := max (x.count.length - 1) x.b
noncomputable def Wd.less (x y : Wd) : Bool :=
  if x.n ≥ y.n then false else if x.count.length ≤ 1 ∧ y.count.length ≤ 1 then decide (x.nt ≤ y.nt)
  else (List.range (max x.longest y.longest)).all fun j => decide (x.indent (j + 2) < y.indent (j + 2))
noncomputable def Wd.small (x : Wd) : Prop := x.b ≤ 50 ∧ x.n ≤ 50 ∧ x.nt ≤ 50 ∧ x.count.length ≤ 50
end Mine
namespace Mine
theorem looseM {m mm : Str → Option Value} {f z : Str} (h : z ≠ f → m z = mm z) : m z = if z = f then m z else mm z := by
  by_cases q : z = f
  · rw [if_pos q]
  · rw [if_neg q]; exact h q
end Mine
namespace Mine
theorem fdivN (a b : Nat) : Int.fdiv (a : Int) (b : Int) = ((a / b : Nat) : Int) := by
  rw [Int.fdiv_eq_ediv_of_nonneg _ (Int.natCast_nonneg b)]
  exact (Int.natCast_ediv a b).symm
end Mine
namespace Mine
theorem m_char {prog : Program} {w : World} {A : Around} {E : Value → Shared → Prop} {s : Shared} {value slice : Expr} {x : Str} {t u : Tok} {i : Int} {c : Nat} {Q : Value → Shared → Prop} (h0 : 0 ≤ i) (hfit : i < 2 ^ 63) (hc : x.cps[i.toNat]? = some c)
    (h : ∀ t', Q (.str ⟨#[c]⟩ t') { s with toks := s.toks + 1 })
    (hs : subscripted slice false (.str x t) (.int i u) = operate [.str x t, .int i u] (getItem (.str x t) (.int i u)) := by with_unfolding_all rfl)
    (ht : ∀ r, letTemporaryGo value (.str x t) r = pure () := by intro _; with_unfolding_all rfl) :
    wpAny (model prog w) A (subscriptTail value slice (.str x t) (.int i u)) Q E s := by
  obtain ⟨n, rfl⟩ := Int.eq_ofNat_of_zero_le h0
  have hn : n < x.cps.size := by
    rcases Nat.lt_or_ge n x.cps.size with q | q
    · exact q
    · have : x.cps[n]? = none := Array.getElem?_eq_none q
      rw [show ((n : Nat) : Int).toNat = n from rfl, this] at hc; cases hc
  have hl : (n : Int) < (x.length : Int) := Int.ofNat_lt.mpr hn
  refine item_str (fitsSsize_of (N := 9223372036854775808) (by omega) (by omega) (Int.le_refl _)) (by omega) hl (fun _ => ?_) hs ht
  have e : Txt.item x (n : Int) = ⟨#[c]⟩ := by
    unfold Txt.item Txt.charAt seqIndex?
    have h1 : ¬ ((n : Int) < 0) := by omega
    simp only [h1, if_false]
    have h2 : (decide (0 ≤ (n : Int)) && decide ((n : Int) < ((x.length : Nat) : Int))) = true := by
      rw [Bool.and_eq_true]; exact ⟨decide_eq_true (by omega), decide_eq_true hl⟩
    rw [if_pos h2]
    have hc' : x.cps[n]? = some c := hc
    simp only [Option.bind_some, Int.toNat_natCast, hc', Option.getD_some]
  rw [e]
  exact h _
end Mine
namespace Mine
theorem looseM2 {m mm : Str → Option Value} {f g z : Str} (h : z ≠ f → z ≠ g → m z = mm z) : m z = if z = f then m z else if z = g then m z else mm z := by
  by_cases q : z = f
  · rw [if_pos q]
  · rw [if_neg q]
    by_cases q2 : z = g
    · rw [if_pos q2]
    · rw [if_neg q2]; exact h q q2
theorem looseM3 {m mm : Str → Option Value} {f g k z : Str} (h : z ≠ f → z ≠ g → z ≠ k → m z = mm z) : m z = if z = f then m z else if z = g then m z else if z = k then m z else mm z := by
  by_cases q : z = f
  · rw [if_pos q]
  · rw [if_neg q]; exact looseM2 (h q)
end Mine
namespace Mine
theorem news_perm4 {h₀ h : Heap} {L : Addr} {a b c d : Addr × Obj} {r : List (Addr × Obj)} (N : News h₀ L h (a :: b :: c :: d :: r)) : News h₀ L h (c :: d :: a :: b :: r) := fun p hp => N p (by
  simp only [List.mem_cons] at hp ⊢
  rcases hp with q | q | q | q | q <;> simp [q])
theorem news_back4 {h₀ h : Heap} {L : Addr} {a b c d : Addr × Obj} {r : List (Addr × Obj)} (N : News h₀ L h (c :: d :: a :: b :: r)) : News h₀ L h (a :: b :: c :: d :: r) := fun p hp => N p (by
  simp only [List.mem_cons] at hp ⊢
  rcases hp with q | q | q | q | q <;> simp [q])
end Mine
namespace Mine
theorem news_rot3 {h₀ h : Heap} {L : Addr} {a b c : Addr × Obj} {r : List (Addr × Obj)} (N : News h₀ L h (a :: b :: c :: r)) : News h₀ L h (b :: c :: a :: r) := fun p hp => N p (by
  simp only [List.mem_cons] at hp ⊢
  rcases hp with q | q | q | q <;> simp [q])
theorem news_torn3 {h₀ h : Heap} {L : Addr} {a b c : Addr × Obj} {r : List (Addr × Obj)} (N : News h₀ L h (b :: c :: a :: r)) : News h₀ L h (a :: b :: c :: r) := fun p hp => N p (by
  simp only [List.mem_cons] at hp ⊢
  rcases hp with q | q | q | q <;> simp [q])
end Mine
namespace Mine
theorem fmodN (a b : Nat) : Int.fmod (a : Int) (b : Int) = ((a % b : Nat) : Int) := by
  rw [Int.fmod_eq_emod_of_nonneg _ (Int.natCast_nonneg b)]
  exact (Int.natCast_emod a b).symm
theorem take_snoc {x : Str} {i c : Nat} (h : x.cps[i]? = some c) : x.cps.toList.take (i + 1) = x.cps.toList.take i ++ [c] := by
  have h' : x.cps.toList[i]? = some c := by simpa using h
  rw [List.take_add_one, h']; rfl
end Mine

end
section
open PySem PySem.W PyProof.Rows PySem.Calls PyProof.V PySem.Spec PyProof.Rows.LCg PyProof.Rows.LCt
set_option maxRecDepth 100000
set_option Elab.async false
namespace Mine
section
variable {prog : Program} {w : World} {A : Around} {s : Shared} {h₀ : Heap} {L : Addr} {m : Str → Option Value} {env : Env} {elt ct : Expr} {x : Str} {scope : Scope} {cl : List (Str × Addr)} {S : List (Addr × Obj) → Prop} {P : Nat → Value → Prop} {Fin : List Value → List (Addr × Obj) → Prop}

/-- a list comprehension without a test, by what holds between its turns -/
theorem compRest_ind (Inv : Nat → List Value → List (Addr × Obj) → Prop) (n : Nat)
    (step : ∀ i ys news v I oI C oC D m₂ h tk (E' : Value → Shared → Prop), i < n → Inv i ys news → P i v → NsObj oC m₂ → m₂ x = some v → Fr h₀ L h m → News h₀ L h ((I, oI) :: (C, oC) :: (D, lst ys) :: news) → Off3 I C D news → ((@Ne Nat I C) ∧ (@Ne Nat I D) ∧ (@Ne Nat C D)) →
      wpAny (model prog w) A (eval elt (compEnvC scope cl C env)) (CompEnd h₀ L m { s with heap := h, toks := tk } I oI C oC D (lst ys) S (fun y news' => Inv (i + 1) (ys ++ [y]) news')) E' { s with heap := h, toks := tk })
    (fin : ∀ ys news, Inv n ys news → Fin ys news) : ∀ {ys : List Value} {news : List (Addr × Obj)}, Inv 0 ys news → CompRest prog w A h₀ L m env elt x scope cl s S P Fin n 0 ys news := by
  have key : ∀ (k i : Nat) (ys : List Value) (news : List (Addr × Obj)), i + k = n → Inv i ys news → CompRest prog w A h₀ L m env elt x scope cl s S P Fin k i ys news := by
    intro k
    induction k with
    | zero => intro i ys news e hi; exact CompRest.zero (fin _ _ (by have : i = n := e; exact this ▸ hi))
    | succ k ih =>
      intro i ys news e hi
      refine CompRest.succ fun v I oI C oC D m₂ h tk E' hP hC hx F N off ne => ?_
      refine wpAny_mono (step i ys news v I oI C oC D m₂ h tk E' (by omega) hi hP hC hx F N off ne) (fun y s₂ h₂ => ?_) fun _ _ e => e
      obtain ⟨h', tk', news', rfl, F', N', off', hS, r⟩ := h₂
      exact ⟨h', tk', news', rfl, F', N', off', hS, ih (i + 1) _ _ (by omega) r⟩
  intro ys news h0
  exact key n 0 ys news (by omega) h0

/-- with a test -/
theorem compRestT_ind (Inv : Nat → List Value → List (Addr × Obj) → Prop) (n : Nat)
    (step : ∀ i ys news v I oI C oC D m₂ h tk (E' : Value → Shared → Prop), i < n → Inv i ys news → P i v → NsObj oC m₂ → m₂ x = some v → Fr h₀ L h m → News h₀ L h ((I, oI) :: (C, oC) :: (D, lst ys) :: news) → Off3 I C D news → ((@Ne Nat I C) ∧ (@Ne Nat I D) ∧ (@Ne Nat C D)) →
      wpAny (model prog w) A (isTrue ct (compEnvC scope cl C env) (eval ct (compEnvC scope cl C env))) (fun ok s' => if ok = true then
        wpAny (model prog w) A (eval elt (compEnvC scope cl C env)) (CompEnd h₀ L m { s with heap := h, toks := tk } I oI C oC D (lst ys) S (fun y news' => Inv (i + 1) (ys ++ [y]) news')) E' s'
        else CompEnd h₀ L m { s with heap := h, toks := tk } I oI C oC D (lst ys) S (fun _ news' => Inv (i + 1) ys news') Value.none s') E' { s with heap := h, toks := tk })
    (fin : ∀ ys news, Inv n ys news → Fin ys news) : ∀ {ys : List Value} {news : List (Addr × Obj)}, Inv 0 ys news → CompRestT prog w A h₀ L m env ct elt x scope cl s S P Fin n 0 ys news := by
  have key : ∀ (k i : Nat) (ys : List Value) (news : List (Addr × Obj)), i + k = n → Inv i ys news → CompRestT prog w A h₀ L m env ct elt x scope cl s S P Fin k i ys news := by
    intro k
    induction k with
    | zero => intro i ys news e hi; exact CompRestT.zero (fin _ _ (by have : i = n := e; exact this ▸ hi))
    | succ k ih =>
      intro i ys news e hi
      refine CompRestT.succ fun v I oI C oC D m₂ h tk E' hP hC hx F N off ne => ?_
      refine wpAny_mono (step i ys news v I oI C oC D m₂ h tk E' (by omega) hi hP hC hx F N off ne) (fun ok s₂ h₂ => ?_) fun _ _ e => e
      cases ok with
      | true =>
        simp only [if_true] at h₂ ⊢
        refine wpAny_mono h₂ (fun y s₃ h₃ => ?_) fun _ _ e => e
        obtain ⟨h', tk', news', rfl, F', N', off', hS, r⟩ := h₃
        exact ⟨h', tk', news', rfl, F', N', off', hS, ih (i + 1) _ _ (by omega) r⟩
      | false =>
        simp only [Bool.false_eq_true, if_false] at h₂ ⊢
        obtain ⟨h', tk', news', rfl, F', N', off', hS, r⟩ := h₂
        exact ⟨h', tk', news', rfl, F', N', off', hS, ih (i + 1) _ _ (by omega) r⟩
  intro ys news h0
  exact key n 0 ys news (by omega) h0
end
end Mine
namespace Mine
theorem off1_mem {D : Addr} : ∀ {l : List (Addr × Obj)}, PyProof.Rows.LCg.Off1 D l → ∀ p ∈ l, p.1 ≠ D
  | [], _, _, h => nomatch h
  | _ :: _, x, p, h => by
    rcases List.mem_cons.mp h with rfl | h
    · exact x.1
    · exact off1_mem x.2 p h
end Mine

end
section
open PySem PySem.W PyProof.Rows PySem.Calls PyProof.V PySem.Spec PyProof.Rows.LCg
set_option maxRecDepth 100000
set_option Elab.async false
namespace Mine
section
variable {prog : Program} {w : World} {A : Around}
/-- a loop's body, with its place and its end made opaque: the proof's text stays small -/
theorem body_gen {α β : Type} {x : Sem α} {y : α → Sem β} {Q : β → Shared → Prop} {E E2 : Value → Shared → Prop} {s : Shared} (hh : A.handled = none)
    (h : ∀ (A' : Around) (Q' : β → Shared → Prop), A'.handled = none → (∀ b s', Q b s' → Q' b s') → wpAny (model prog w) A' x (fun a s₃ => wpAny (model prog w) A' (y a) Q' E2 s₃) E s) :
    wpAny (model prog w) A x (fun a s₃ => wpAny (model prog w) A (y a) Q E2 s₃) E s := h A Q hh fun _ _ h => h
theorem comp_gen {α : Type} {x : Sem α} {Q : α → Shared → Prop} {E : Value → Shared → Prop} {s : Shared} (hh : A.handled = none)
    (h : ∀ (A' : Around) (Q' : α → Shared → Prop), A'.handled = none → (∀ b s', Q b s' → Q' b s') → wpAny (model prog w) A' x Q' E s) :
    wpAny (model prog w) A x Q E s := h A Q hh fun _ _ h => h
theorem compT_gen {α : Type} {t : Sem Bool} {x : Sem α} {Q : α → Shared → Prop} {P : Shared → Prop} {E : Value → Shared → Prop} {s : Shared} (hh : A.handled = none)
    (h : ∀ (A' : Around) (Q' : α → Shared → Prop) (P' : Shared → Prop), A'.handled = none → (∀ b s', Q b s' → Q' b s') → (∀ s', P s' → P' s') →
      wpAny (model prog w) A' t (fun ok s' => if ok = true then wpAny (model prog w) A' x Q' E s' else P' s') E s) :
    wpAny (model prog w) A t (fun ok s' => if ok = true then wpAny (model prog w) A x Q E s' else P s') E s := h A Q P hh (fun _ _ h => h) fun _ h => h
end
end Mine
namespace Mine
/-- Q' is asked of no more than Q -/
noncomputable def Above {α : Type} (Q Q' : α → Shared → Prop) : Prop := ∀ a s, Q a s → Q' a s
theorem above_use {α : Type} {Q Q' : α → Shared → Prop} (h : Above Q Q') {a : α} {s : Shared} (q : Q a s) : Q' a s := h a s q
theorem stmt_gen {α : Type} {M : Model} {A : Around} {x : Sem α} {Q : α → Shared → Prop} {E : Value → Shared → Prop} {s : Shared}
    (h : ∀ Q' : α → Shared → Prop, Above Q Q' → wpAny M A x Q' E s) : wpAny M A x Q E s := h Q fun _ _ h => h
end Mine
namespace Mine
theorem toks_gen {α : Type} {M : Model} {A : Around} {x : Sem α} {Q : α → Shared → Prop} {E : Value → Shared → Prop} {s : Shared} {h : Heap} {t : Nat} (s0 : Shared)
    (hs : s = { s0 with heap := h, toks := t })
    (k : ∀ t', wpAny M A x Q E { s0 with heap := h, toks := t' }) : wpAny M A x Q E s := hs ▸ k t
end Mine
namespace Mine
/-- what a law asks of its answer, said once of any law: the same step at the law itself takes 80 seconds -/
theorem post_true (o : OpenLaw) (args : List WData) : o.row.claim.post args (.bool true) args = true := by
  refine postW_of (X := true) rfl ?_ rfl
  show WTm.value [] (.eq .res (.lit (.bool true))) { args := args, res := some (WData.bool true), after := args } = _
  wtm_val
end Mine

end
section
open PySem PySem.W PyProof.Rows
set_option maxRecDepth 100000
set_option Elab.async false
set_option maxHeartbeats 8000000
set_option linter.unusedVariables false
namespace Mine
local macro_rules | `(tactic| omega) => `(tactic| first | lia | omega +splitDisjunctions)
local macro_rules | `(tactic| k_room) => `(tactic| ((try simp only [depth_under_make, depth_under_kw, depth_in1, depth_deeper, depth_caller]); (have hR9 : recursionLimit = 1000 := rfl); omega))
local macro_rules | `(tactic| k_steps) => `(tactic| repeat' ((fail_if_success (with_reducible show wpAny _ _ (exec (Stmt.While _ _ _ _) _) _ _ _)); (fail_if_success (with_reducible show wpAny _ _ (exec (Stmt.For _ _ _ _ _) _) _ _ _)); first | (k_unfold; (try dsimp only)) | (k_end; wrow_close) | walk1 | (dsimp only; walk1) | (leave1; walk_say "STEP leave1"; try dsimp only) | fail "no step"))
local macro_rules | `(tactic| walk_at "call builtin:list.pop") => `(tactic| (k_here; k_dflt (refine' kl_pop ?F ?N ?e ?U ?z ?_; (case F => k_asm); (case N => k_asm); (case U => k_upd); (case e => exact kl_last_snoc _ _); (case z => (simp only [List.length_append, List.length_cons, List.length_nil, sizeLine_eq]; omega))); kl_rest))
section
variable {w : World} {A₀ : Around} {d u : Nat} {gd : Option (List Code)} {names : List (Str × NameKind)} {ig ic : Bool} {more : List (Str × Const)} {lo gl : Addr} {ce : List (Str × Addr)} {qual : Str} {fu : Option Addr} {co : Value} {L : Addr} {bu : Addr}
  {outer : List Env} {E : Value → Shared → Prop} {s : Shared} {h₀ base : Heap} {m mg mb : Str → Option Value} {news : List (Addr × Obj)} {p : Program} {loose : List Str} {mean : ExcName → Option Value} {Q : Value → Shared → Prop}
  (hd9 : d < 600) (hu9 : u < 3000)
  (B : Below A₀ base outer h₀) (F : Fr h₀ L s.heap m) (X₀ : (hd.heap_39 w.params).In h₀) (T : Top p loose mean mg mb h₀)
include hd9 hu9 B F X₀ T
theorem add_call {x y : Int} {tx ty : Tok} (N : News h₀ L s.heap news) 
  (h : ∀ h' tk t', Fr h₀ L h' m → News h₀ L h' news → Q (Value.int (x + y) t') { s with heap := h', toks := tk }) :
  wpAny (model PySem.Challenge.rw_tl0031_01.row.prog w) (Around.mk none d (some (envM names ig ic more lo gl ce qual fu co L bu :: outer)) gd u) (call (.ref 45) [Value.int x tx, Value.int y ty]) Q E s := by
  w_top off
  revert X₀
  k_fill
  intro X₀
  refine wpAny_noRaise ?_
  refine wpAny_call ?_
  k_enter
  k_steps
  exact h _ _ _ (by assumption) (by assumption)
theorem mul_call {x y : Int} {tx ty : Tok} (N : News h₀ L s.heap news) (hm : IntMulOk x y)
  (h : ∀ h' tk t', Fr h₀ L h' m → News h₀ L h' news → Q (Value.int (x * y) t') { s with heap := h', toks := tk }) :
  wpAny (model PySem.Challenge.rw_tl0031_01.row.prog w) (Around.mk none d (some (envM names ig ic more lo gl ce qual fu co L bu :: outer)) gd u) (call (.ref 52) [Value.int x tx, Value.int y ty]) Q E s := by
  w_top off
  revert X₀
  k_fill
  intro X₀
  refine wpAny_noRaise ?_
  refine wpAny_call ?_
  k_enter
  k_steps
  exact h _ _ _ (by assumption) (by assumption)
theorem neg_call {x : Int} {tx : Tok} (N : News h₀ L s.heap news) 
  (h : ∀ h' tk t', Fr h₀ L h' m → News h₀ L h' news → Q (Value.int (-x) t') { s with heap := h', toks := tk }) :
  wpAny (model PySem.Challenge.rw_tl0031_01.row.prog w) (Around.mk none d (some (envM names ig ic more lo gl ce qual fu co L bu :: outer)) gd u) (call (.ref 59) [Value.int x tx]) Q E s := by
  w_top off
  revert X₀
  k_fill
  intro X₀
  refine wpAny_noRaise ?_
  refine wpAny_call ?_
  k_enter
  k_steps
  exact h _ _ _ (by assumption) (by assumption)
theorem pos_call {x : Int} {tx : Tok} (N : News h₀ L s.heap news) 
  (h : ∀ h' tk t', Fr h₀ L h' m → News h₀ L h' news → Q (Value.int x t') { s with heap := h', toks := tk }) :
  wpAny (model PySem.Challenge.rw_tl0031_01.row.prog w) (Around.mk none d (some (envM names ig ic more lo gl ce qual fu co L bu :: outer)) gd u) (call (.ref 66) [Value.int x tx]) Q E s := by
  w_top off
  revert X₀
  k_fill
  intro X₀
  refine wpAny_noRaise ?_
  refine wpAny_call ?_
  k_enter
  k_steps
  exact h _ _ _ (by assumption) (by assumption)
theorem rshift_call {x y : Int} {tx ty : Tok} (N : News h₀ L s.heap news) (hy : 0 ≤ y)
  (h : ∀ h' tk t', Fr h₀ L h' m → News h₀ L h' news → Q (Value.int (x.fdiv (2 ^ y.toNat)) t') { s with heap := h', toks := tk }) :
  wpAny (model PySem.Challenge.rw_tl0031_01.row.prog w) (Around.mk none d (some (envM names ig ic more lo gl ce qual fu co L bu :: outer)) gd u) (call (.ref 73) [Value.int x tx, Value.int y ty]) Q E s := by
  w_top off
  revert X₀
  k_fill
  intro X₀
  refine wpAny_noRaise ?_
  refine wpAny_call ?_
  k_enter
  k_steps
  exact h _ _ _ (by assumption) (by assumption)
theorem isterminal_call {x : Int} {tx : Tok} (N : News h₀ L s.heap news) 
  (h : ∀ h' tk, Fr h₀ L h' m → News h₀ L h' news → Q (Value.bool (decide (x < 256))) { s with heap := h', toks := tk }) :
  wpAny (model PySem.Challenge.rw_tl0031_01.row.prog w) (Around.mk none d (some (envM names ig ic more lo gl ce qual fu co L bu :: outer)) gd u) (call (.ref 31) [Value.int x tx]) Q E s := by
  w_top off
  revert X₀
  k_fill
  intro X₀
  refine wpAny_noRaise ?_
  refine wpAny_call ?_
  k_enter
  k_steps
  exact h _ _ (by assumption) (by assumption)
theorem iseof_call {x : Int} {tx : Tok} (N : News h₀ L s.heap news) 
  (h : ∀ h' tk, Fr h₀ L h' m → News h₀ L h' news → Q (Value.bool (decide (x = 0))) { s with heap := h', toks := tk }) :
  wpAny (model PySem.Challenge.rw_tl0031_01.row.prog w) (Around.mk none d (some (envM names ig ic more lo gl ce qual fu co L bu :: outer)) gd u) (call (.ref 38) [Value.int x tx]) Q E s := by
  w_top off
  revert X₀
  k_fill
  intro X₀
  refine wpAny_noRaise ?_
  refine wpAny_call ?_
  k_enter
  k_steps
  exact h _ _ (by assumption) (by assumption)
end
end Mine

end
section
open PySem PySem.W PyProof.Rows
set_option maxRecDepth 100000
set_option Elab.async false
set_option maxHeartbeats 8000000
set_option linter.unusedVariables false
namespace Mine
local macro_rules | `(tactic| omega) => `(tactic| first | lia | omega +splitDisjunctions)
local macro_rules | `(tactic| k_room) => `(tactic| ((try simp only [depth_under_make, depth_under_kw, depth_in1, depth_deeper, depth_caller]); (have hR9 : recursionLimit = 1000 := rfl); omega))
local macro_rules | `(tactic| k_steps) => `(tactic| repeat' ((fail_if_success (with_reducible show wpAny _ _ (exec (Stmt.While _ _ _ _) _) _ _ _)); (fail_if_success (with_reducible show wpAny _ _ (exec (Stmt.For _ _ _ _ _) _) _ _ _)); first | (k_unfold; (try dsimp only)) | (k_end; wrow_close) | walk1 | (dsimp only; walk1) | (leave1; walk_say "STEP leave1"; try dsimp only) | fail "no step"))
local macro_rules | `(tactic| walk_at "call builtin:list.pop") => `(tactic| (k_here; k_dflt (refine' kl_pop ?F ?N ?e ?U ?z ?_; (case F => k_asm); (case N => k_asm); (case U => k_upd); (case e => exact kl_last_snoc _ _); (case z => (simp only [List.length_append, List.length_cons, List.length_nil, sizeLine_eq]; omega))); kl_rest))
local macro_rules | `(tactic| walk_at "call ref") => `(tactic| (k_here; (with_reducible show wpAny _ _ (call (Value.ref 45) [Value.int _ _, Value.int _ _]) _ _ _); k_dflt (refine' add_call ?kd ?ku ?kB ?kF ?kX ?kT ?kN ?_; (case kB => k_asm); (case kF => k_asm); (case kX => k_asm); (case kT => k_asm); (case kN => k_asm); (case kd => (dsimp only [Around.deeper, Around.in1]; omega)); (case ku => (dsimp only [Around.deeper, Around.in1]; omega)); intro h' tk' t' F' N'; (try dsimp only); (try k_sweep))))
local macro_rules | `(tactic| walk_at "call ref") => `(tactic| (k_here; (with_reducible show wpAny _ _ (call (Value.ref 52) [Value.int _ _, Value.int _ _]) _ _ _); k_dflt (refine' mul_call ?kd ?ku ?kB ?kF ?kX ?kT ?kN ?km ?_; (case kB => k_asm); (case kF => k_asm); (case kX => k_asm); (case kT => k_asm); (case kN => k_asm); (case kd => (dsimp only [Around.deeper, Around.in1]; omega)); (case ku => (dsimp only [Around.deeper, Around.in1]; omega)); (case km => mul_fits); intro h' tk' t' F' N'; (try dsimp only); (try k_sweep))))
local macro_rules | `(tactic| walk_at "call ref") => `(tactic| (k_here; (with_reducible show wpAny _ _ (call (Value.ref 59) [Value.int _ _]) _ _ _); k_dflt (refine' neg_call ?kd ?ku ?kB ?kF ?kX ?kT ?kN ?_; (case kB => k_asm); (case kF => k_asm); (case kX => k_asm); (case kT => k_asm); (case kN => k_asm); (case kd => (dsimp only [Around.deeper, Around.in1]; omega)); (case ku => (dsimp only [Around.deeper, Around.in1]; omega)); intro h' tk' t' F' N'; (try dsimp only); (try k_sweep))))
local macro_rules | `(tactic| walk_at "call ref") => `(tactic| (k_here; (with_reducible show wpAny _ _ (call (Value.ref 66) [Value.int _ _]) _ _ _); k_dflt (refine' pos_call ?kd ?ku ?kB ?kF ?kX ?kT ?kN ?_; (case kB => k_asm); (case kF => k_asm); (case kX => k_asm); (case kT => k_asm); (case kN => k_asm); (case kd => (dsimp only [Around.deeper, Around.in1]; omega)); (case ku => (dsimp only [Around.deeper, Around.in1]; omega)); intro h' tk' t' F' N'; (try dsimp only); (try k_sweep))))
local macro_rules | `(tactic| walk_at "call ref") => `(tactic| (k_here; (with_reducible show wpAny _ _ (call (Value.ref 73) [Value.int _ _, Value.int _ _]) _ _ _); k_dflt (refine' rshift_call ?kd ?ku ?kB ?kF ?kX ?kT ?kN ?km ?_; (case kB => k_asm); (case kF => k_asm); (case kX => k_asm); (case kT => k_asm); (case kN => k_asm); (case kd => (dsimp only [Around.deeper, Around.in1]; omega)); (case ku => (dsimp only [Around.deeper, Around.in1]; omega)); (case km => l_bnd); intro h' tk' t' F' N'; (try dsimp only); (try k_sweep))))
local macro_rules | `(tactic| walk_at "call ref") => `(tactic| (k_here; (with_reducible show wpAny _ _ (call (Value.ref 31) [Value.int _ _]) _ _ _); k_dflt (refine' isterminal_call ?kd ?ku ?kB ?kF ?kX ?kT ?kN ?_; (case kB => k_asm); (case kF => k_asm); (case kX => k_asm); (case kT => k_asm); (case kN => k_asm); (case kd => (dsimp only [Around.deeper, Around.in1]; omega)); (case ku => (dsimp only [Around.deeper, Around.in1]; omega)); intro h' tk' F' N'; (try dsimp only); (try k_sweep))))
local macro_rules | `(tactic| walk_at "call ref") => `(tactic| (k_here; (with_reducible show wpAny _ _ (call (Value.ref 38) [Value.int _ _]) _ _ _); k_dflt (refine' iseof_call ?kd ?ku ?kB ?kF ?kX ?kT ?kN ?_; (case kB => k_asm); (case kF => k_asm); (case kX => k_asm); (case kT => k_asm); (case kN => k_asm); (case kd => (dsimp only [Around.deeper, Around.in1]; omega)); (case ku => (dsimp only [Around.deeper, Around.in1]; omega)); intro h' tk' F' N'; (try dsimp only); (try k_sweep))))
noncomputable def shutOnes (num a : Int) : Nat → Int → Int
  | 0, o => o
  | n + 1, o => if o < 9 ∧ Int.fdiv (a + 8 * o) 2 + (237 + num) < 256 then shutOnes num a n (o + 1) else o
theorem shutOnes_exit {num a : Int} : ∀ {n : Nat} {o : Int}, ¬ (o < 9 ∧ Int.fdiv (a + 8 * o) 2 + (237 + num) < 256) → shutOnes num a n o = o
  | 0, _, _ => rfl
  | n + 1, o, h => by unfold shutOnes; rw [if_neg h]
theorem shutOnes_step {num a : Int} {n : Nat} {o : Int} (h1 : (n : Int) + o = 9) (h2 : o < 9) (h3 : Int.fdiv (a + 8 * o) 2 + (237 + num) < 256) : ∃ n', n = n' + 1 ∧ shutOnes num a n o = shutOnes num a n' (o + 1) := by
  cases n with
  | zero => exfalso; omega
  | succ n =>
    refine ⟨n, rfl, ?_⟩
    rw [shutOnes, if_pos ⟨h2, h3⟩]
noncomputable def turnI (num a : Int) : Int := if num = 14 then a else -a
section
variable {w : World} {A₀ : Around} {d u : Nat} {gd : Option (List Code)} {names : List (Str × NameKind)} {ig ic : Bool} {more : List (Str × Const)} {lo gl : Addr} {ce : List (Str × Addr)} {qual : Str} {fu : Option Addr} {co : Value} {L : Addr} {bu : Addr}
  {outer : List Env} {E : Value → Shared → Prop} {s : Shared} {h₀ base : Heap} {m mg mb : Str → Option Value} {news : List (Addr × Obj)} {p : Program} {loose : List Str} {mean : ExcName → Option Value} {Q : Value → Shared → Prop}
  (hd9 : d < 500) (hu9 : u < 2500)
  (B : Below A₀ base outer h₀) (F : Fr h₀ L s.heap m) (X₀ : (hd.heap_39 w.params).In h₀) (T : Top p loose mean mg mb h₀)
include hd9 hu9 B F X₀ T
noncomputable def shutWorth (num a : Int) : Int := (2 * turnI num (turnI num a + 8 * shutOnes num (turnI num a) 8 1) + 1).fdiv (2 ^ (shutOnes num (turnI num a) 8 1).toNat)
theorem shut_call {nl sl : Addr} {vs us : List Value} {num a b : Int} {tn ta tb : Tok} {k1 k2 : Nat} {rest : List (Addr × Obj)} {said : Bool}
  (N : News h₀ L s.heap ((nl, listOf (vs ++ [Value.int num tn]).toArray k1) :: (sl, listOf ((us ++ [Value.int b tb]) ++ [Value.int a ta]).toArray k2) :: rest))
  (hne : @Ne Nat nl sl) (hrest : OwnOff rest [nl, sl]) (hnum : num = 14 ∨ num = 15) (ha : -100 ≤ a ∧ a ≤ 100) (hb : -100 ≤ b ∧ b ≤ 100) (hvs : vs.length ≤ 100) (hus : us.length ≤ 100)
  (h : ∀ h' tk t' k1 k2, Fr h₀ L h' m → News h₀ L h' ((nl, listOf vs.toArray k1) :: (sl, listOf (us ++ [Value.int (b + shutWorth num a) t']).toArray k2) :: rest) → Q .none { s with heap := h', toks := tk }) :
  wpAny (model PySem.Challenge.rw_tl0031_01.row.prog w) (Around.mk none d (some (envM names ig ic more lo gl ce qual fu co L bu :: outer)) gd u) (call (.ref 146) [.ref nl, .ref sl, .bool said]) Q E s := by
  w_top off
  revert X₀
  k_fill
  intro X₀
  refine wpAny_noRaise ?_
  refine wpAny_call ?_
  rcases hnum with rfl | rfl
  all_goals k_enter
  all_goals k_steps
  · rename Fr _ _ _ _ => F1
    rename News _ _ _ _ => N1
    obtain ⟨mm, hmm, F2⟩ := fr_get F1
    obtain ⟨nw₀, hnw, N2⟩ := news_get N1
    clear F1 N1
    refine wpAny_noRaise ?_
    refine' While_inv (fun n m nw => nw = nw₀ ∧ ∃ o : Int, 1 ≤ o ∧ o ≤ 9 ∧ (n : Int) + o = 9 ∧ shutOnes (14) (turnI (14) a) n o = shutOnes (14) (turnI (14) a) 8 1 ∧ (∃ t, m (Str.ofString "ones") = some (.int o t)) ∧ ∀ z, z ≠ Str.ofString "ones" → m z = mm z)
      (n₀ := 8) F2 N2 ⟨rfl, 1, by decide, by decide, by decide, rfl, ⟨_, by rw [hmm]; rfl⟩, fun _ _ => rfl⟩ ?_ PassesOwn.never
    rintro n m₁ nw h₁ tk₁ F3 N3 ⟨rfl, o, ho1, ho2, hn, hr, ⟨t1, e1⟩, em⟩
    have em := map_eq1 e1 em
    subst em
    subst hmm
    subst hnw
    clear F2 N2 e1
    dsimp only at F3
    k_steps
    · rename ((decide _ == _) == _) = true => ht
      rename _ < 9 => hlt
      have ht := bb_iff ht
      obtain ⟨n', rfl, hs⟩ := shutOnes_step (num := 14) (a := turnI 14 a) hn hlt ht
      exact WhileStep.intro (by assumption) (by assumption) (n' := n') (by omega) ⟨rfl, _, by omega, by omega, by omega, hs ▸ hr, ⟨_, rfl⟩, fun z h1 => by simp only [h1, if_false]⟩
    all_goals
      have hR : o = shutOnes 14 (turnI 14 a) 8 1 := by
        rw [← hr, shutOnes_exit]
        rintro ⟨q1, q2⟩
        first
          | exact absurd q1 (by assumption)
          | (rename ((decide _ == _) == _) = false => ht; exact bb_not ht q2)
      have hW : shutWorth 14 a = (2 * turnI 14 (turnI 14 a + 8 * o) + 1).fdiv (2 ^ o.toNat) := by unfold shutWorth; rw [← hR]
      rename News h₀ L _ _ => kN
      exact h _ _ _ _ _ (by assumption) (by rw [hW, ← List.push_toArray]; exact fun p hp => kN p (List.mem_cons_of_mem _ hp))
  · rename Fr _ _ _ _ => F1
    rename News _ _ _ _ => N1
    obtain ⟨mm, hmm, F2⟩ := fr_get F1
    obtain ⟨nw₀, hnw, N2⟩ := news_get N1
    clear F1 N1
    refine wpAny_noRaise ?_
    refine' While_inv (fun n m nw => nw = nw₀ ∧ ∃ o : Int, 1 ≤ o ∧ o ≤ 9 ∧ (n : Int) + o = 9 ∧ shutOnes (15) (turnI (15) a) n o = shutOnes (15) (turnI (15) a) 8 1 ∧ (∃ t, m (Str.ofString "ones") = some (.int o t)) ∧ ∀ z, z ≠ Str.ofString "ones" → m z = mm z)
      (n₀ := 8) F2 N2 ⟨rfl, 1, by decide, by decide, by decide, rfl, ⟨_, by rw [hmm]; rfl⟩, fun _ _ => rfl⟩ ?_ PassesOwn.never
    rintro n m₁ nw h₁ tk₁ F3 N3 ⟨rfl, o, ho1, ho2, hn, hr, ⟨t1, e1⟩, em⟩
    have em := map_eq1 e1 em
    subst em
    subst hmm
    subst hnw
    clear F2 N2 e1
    dsimp only at F3
    k_steps
    · rename ((decide _ == _) == _) = true => ht
      rename _ < 9 => hlt
      have ht := bb_iff ht
      obtain ⟨n', rfl, hs⟩ := shutOnes_step (num := 15) (a := turnI 15 a) hn hlt ht
      exact WhileStep.intro (by assumption) (by assumption) (n' := n') (by omega) ⟨rfl, _, by omega, by omega, by omega, hs ▸ hr, ⟨_, rfl⟩, fun z h1 => by simp only [h1, if_false]⟩
    all_goals
      have hR : o = shutOnes 15 (turnI 15 a) 8 1 := by
        rw [← hr, shutOnes_exit]
        rintro ⟨q1, q2⟩
        first
          | exact absurd q1 (by assumption)
          | (rename ((decide _ == _) == _) = false => ht; exact bb_not ht q2)
      have hW : shutWorth 15 a = (2 * turnI 15 (turnI 15 a + 8 * o) + 1).fdiv (2 ^ o.toNat) := by unfold shutWorth; rw [← hR]
      rename News h₀ L _ _ => kN
      exact h _ _ _ _ _ (by assumption) (by rw [hW, ← List.push_toArray]; exact fun p hp => kN p (List.mem_cons_of_mem _ hp))
end
end Mine

end
section
open PySem PySem.W PyProof.Rows
set_option maxRecDepth 100000
set_option Elab.async false
set_option maxHeartbeats 2000000
set_option linter.unusedVariables false
set_option linter.unusedSectionVars false
namespace Mine
local macro_rules | `(tactic| walk_at "walkpad0") => `(tactic| skip)
local macro_rules | `(tactic| omega) => `(tactic| first | lia | omega +splitDisjunctions)
local macro_rules | `(tactic| k_room) => `(tactic| ((try simp only [depth_under_make, depth_under_kw, depth_in1, depth_deeper, depth_caller]); (have hR9 : recursionLimit = 1000 := rfl); omega))
local macro_rules | `(tactic| k_steps) => `(tactic| repeat' ((fail_if_success (with_reducible show wpAny _ _ (exec (Stmt.While _ _ _ _) _) _ _ _)); (fail_if_success (with_reducible show wpAny _ _ (exec (Stmt.For _ _ _ _ _) _) _ _ _)); first | ((with_reducible show wpAny _ _ (execs (_ :: _) _) _ _ _); walk1; (try (refine stmt_gen ?_; intro Q9 hQ9)); (try (refine toks_gen _ rfl ?_; intro t9; dsimp only))) | (refine above_use (by assumption) ?_; (try dsimp only)) | (k_unfold; (try dsimp only)) | (k_end; wrow_close) | walk1 | (dsimp only; walk1) | (leave1; walk_say "STEP leave1"; try dsimp only) | fail "no step"))
local macro_rules | `(tactic| walk_at "call builtin:list.pop") => `(tactic| (k_here; k_dflt (refine' kl_pop ?F ?N ?e ?U ?z ?_; (case F => k_asm); (case N => k_asm); (case U => k_upd); (case e => exact kl_last_snoc _ _); (case z => (simp only [List.length_append, List.length_cons, List.length_nil, sizeLine_eq]; omega))); kl_rest))
local macro_rules | `(tactic| k_all) => `(tactic| (refine allLt_ne ?_; first | assumption | exact And.right (by assumption) | exact And.right (And.right (by assumption)) | exact And.right (And.right (And.right (by assumption))) | exact And.right (And.right (And.right (And.right (by assumption)))) | exact And.right (And.right (And.right (And.right (And.right (by assumption))))) | exact And.right (And.right (And.right (And.right (And.right (And.right (by assumption))))))))
-- LISTS
local macro_rules | `(tactic| walk_at "call builtin:len") => `(tactic| (k_here; (with_reducible show wpAny _ _ (call (Value.builtin "len") [Value.ref _]) _ _ _); k_dflt (refine' m_len ?kN ?km ?kf ?_; (case kN => k_asm); (case km => k_mem); (case kf => ((try simp only [List.length_append, List.length_cons, List.length_nil, List.length_replicate, List.length_set]); omega)))))
local macro_rules | `(tactic| walk_at "subscriptTail") => `(tactic| (k_here; (with_reducible show wpAny _ _ (subscriptTail _ _ (Value.ref _) (Value.int (-1) _)) _ _ _); k_dflt (refine' m_last ?kN ?km ?kf ?_; (case kN => k_asm); (case km => k_mem); (case kf => omega))))
local macro_rules | `(tactic| walk_at "subscriptTail") => `(tactic| (k_here; (with_reducible show wpAny _ _ (subscriptTail _ _ (Value.ref _) (Value.int _ _)) _ _ _); k_dflt (refine' m_item_ints ?kN ?km ?ki ?k0 ?k1 ?kf ?_; (case kN => k_asm); (case km => k_mem); (case ki => first | with_reducible assumption | exact IntsAre.append (by with_reducible assumption) (intsAre_rep _ _ _)); (case k0 => omega); (case k1 => ((try simp only [List.length_append, List.length_replicate, natI_length]); omega)); (case kf => omega)); intro t9'))
local macro_rules | `(tactic| walk_at "setItem ref int") => `(tactic| (k_here; k_dflt (refine' m_set ?kF ?kN ?k0 ?k1 ?kf ?kU ?_; (case kF => k_asm); (case kN => k_asm); (case kU => k_upd); (case k0 => omega); (case k1 => ((try simp only [List.length_append, List.length_cons, List.length_nil, List.length_replicate, List.length_set]); omega)); (case kf => omega)); intro h' F' N'; (try dsimp only at N'); (try k_sweep)))
local macro_rules | `(tactic| walk_at "binaryOp Add ref ref") => `(tactic| (k_here; k_dflt (refine' m_add ?kF ?kN ?ka ?kb ?kz ?_; (case kF => k_asm); (case kN => k_asm); (case ka => k_mem); (case kb => k_mem); (case kz => (rw [sizeLine_eq]; (try simp only [List.length_append, List.length_cons, List.length_nil, List.length_replicate, List.length_set]); omega))); intro D' h' F' N' l1; (try k_lt l1); (try k_sweep)))
local macro_rules | `(tactic| walk_at "binaryOp Mult ref int") => `(tactic| (k_here; k_dflt (refine' m_mul ?kF ?kN ?ka ?k0 ?k1 ?_; (case kF => k_asm); (case kN => k_asm); (case ka => k_mem); (case k0 => omega); (case k1 => omega)); intro D' h' F' N' l1; (try k_lt l1); (try k_sweep)))
local macro_rules | `(tactic| walk_at "call type:tuple") => `(tactic| (k_here; (with_reducible show wpAny _ _ (call (Value.type _) [Value.ref _]) _ _ _); k_dflt (refine' kde_tupleOf ?k1 ?k2 ?k3 ?k4 ?k5 ?_; (case k1 => k_asm); (case k2 => k_asm); (case k3 => exact News.isList (by k_asm) (by k_mem)); (case k4 => (rw [List.size_toArray]; omega)); (case k5 => exact List.toList_toArray)); intro D' h' F' N' l1; (try k_lt l1); (try k_sweep)))

theorem run_step {x : Str} {i c : Nat} {wd : Wd} (h : x.cps[i]? = some c) : Wd.run (x.cps.toList.drop i) wd = if c = 32 then Wd.run (x.cps.toList.drop (i + 1)) wd.sp else if c = 9 then Wd.run (x.cps.toList.drop (i + 1)) wd.tb else wd := by
  rw [drop_cps h]; rfl
theorem own_of {h₀ h : Heap} {L : Addr} {a b c d e : Addr × Obj} {r : List (Addr × Obj)} (N : News h₀ L h (a :: b :: c :: d :: e :: r)) : News h₀ L h ([a, b, d, e] ++ r) := fun p hp => N p (by
  rcases List.mem_append.mp hp with hp | hp
  · simp only [List.mem_cons, List.not_mem_nil, or_false] at hp
    rcases hp with rfl | rfl | rfl | rfl
    · exact List.Mem.head _
    · exact List.Mem.tail _ (List.Mem.head _)
    · exact List.Mem.tail _ (List.Mem.tail _ (List.Mem.tail _ (List.Mem.head _)))
    · exact List.Mem.tail _ (List.Mem.tail _ (List.Mem.tail _ (List.Mem.tail _ (List.Mem.head _))))
  · exact List.Mem.tail _ (List.Mem.tail _ (List.Mem.tail _ (List.Mem.tail _ (List.Mem.tail _ hp)))))
theorem allLt_mem {d : Addr} : ∀ {l : List (Addr × Obj)}, AllLt d l → ∀ p ∈ l, @LT.lt Nat _ p.1 d
  | [], _, _, h => nomatch h
  | _ :: _, x, p, h => by
    rcases List.mem_cons.mp h with rfl | h
    · exact x.1
    · exact allLt_mem x.2 p h
section
variable {w : World} {A₀ : Around} {d u : Nat} {gd : Option (List Code)} {names : List (Str × NameKind)} {ig ic : Bool} {more : List (Str × Const)} {lo gl : Addr} {ce : List (Str × Addr)} {qual : Str} {fu : Option Addr} {co : Value} {L : Addr} {bu : Addr}
  {outer : List Env} {E : Value → Shared → Prop} {s : Shared} {h₀ base : Heap} {m mg mb : Str → Option Value} {news : List (Addr × Obj)} {p : Program} {loose : List Str} {mean : ExcName → Option Value} {Q : Value → Shared → Prop}
  (hd9 : d < 600) (hu9 : u < 3000)
  (B : Below A₀ base outer h₀) (F : Fr h₀ L s.heap m) (X₀ : (hd.heap_39 w.params).In h₀) (T : Top p loose mean mg mb h₀)
include hd9 hu9 B F X₀ T

theorem ws_init {x dx : Addr} {row : Str} {tr : Tok} {R : Result → Shared → Prop} (N : News h₀ L s.heap ((x, instObj 135 dx) :: (dx, dictOf [] 0) :: news))
  (hx1 : @LT.lt Nat _ dx x) (hx2 : AllLt dx news) (hx3 : AllLt x news) (hrow : row.length ≤ 50)
  (h : ∀ h' tk own, Fr h₀ L h' m → News h₀ L h' (own ++ news) → WsIn own x (Wd.run row.cps.toList Wd.zero) → (∀ p ∈ own, ∀ q ∈ news, @LT.lt Nat _ q.1 p.1) → R (.ok (.ret .none)) { s with heap := h', toks := tk }) :
  codeAny (model PySem.Challenge.rw_tl0031_01.row.prog w) (Around.mk none d (some (envM names ig ic more lo gl ce qual fu co L bu :: outer)) gd u) (.call (.ref 90) ⟨[.ref x, .str row tr], []⟩) R s := by
  w_top off
  revert X₀
  k_fill
  intro X₀
  k_enter
  k_steps
  rename Fr _ _ _ _ => F1
  rename News _ _ _ _ => N1
  obtain ⟨cl, od, mm, hcl, ⟨tS, hS⟩, ⟨tT, hT⟩, hself, hcount, ⟨tb, hb⟩, ⟨tn, hn⟩, ⟨tnt, hnt⟩, hod, N2, F2⟩ : ∃ (cl : Addr) (od : Obj) (mm : Str → Option Value), (@LT.lt Nat _ x cl ∧ @LT.lt Nat _ dx cl ∧ AllLt cl news) ∧
     (∃ t, mm (Str.ofString "S") = some (.str (Str.ofString " ") t)) ∧ (∃ t, mm (Str.ofString "T") = some (.str (Str.ofString "\t") t)) ∧ mm (Str.ofString "self") = some (.ref x) ∧ mm (Str.ofString "count") = some (.ref cl) ∧
     (∃ t, mm (Str.ofString "b") = some (.int 0 t)) ∧ (∃ t, mm (Str.ofString "n") = some (.int 0 t)) ∧ (∃ t, mm (Str.ofString "nt") = some (.int 0 t)) ∧
     (∃ hs t, od = dictOf [⟨hs, .str (Str.ofString "raw") t, .str row tr⟩] 1) ∧
     News _ _ _ ((cl, listOf #[] 0) :: (x, instObj 135 dx) :: (dx, od) :: news) ∧ Fr _ _ _ mm :=
    ⟨_, _, _, by (refine ⟨?_, ?_, ?_⟩ <;> first | assumption | exact And.left (And.right (by assumption)) | exact And.left (And.right (And.right (by assumption))) | exact And.right (And.right (And.right (by assumption)))), ⟨_, rfl⟩, ⟨_, rfl⟩, rfl, rfl, ⟨_, rfl⟩, ⟨_, rfl⟩, ⟨_, rfl⟩, ⟨_, _, rfl⟩, news_drop2 N1, F1⟩
  clear F1 N1
  obtain ⟨hs9, t9, rfl⟩ := hod
  have hmm := map_eq7 (m₀ := mm) hcount hb hn hnt hS hT hself (fun _ _ _ _ _ _ _ _ => rfl)
  have F3 := F2
  rw [hmm] at F3
  refine For_gen F3 ?_
  k_steps
  refine iter_strX (fun i m nw => ∃ (wd : Wd) (cl : Addr) (k : Nat) (cs : List Value), (wd.b ≤ i ∧ wd.count.length ≤ i ∧ wd.n ≤ i ∧ wd.nt ≤ i) ∧ Wd.run (row.cps.toList.drop i) wd = Wd.run row.cps.toList ⟨[], 0, 0, 0⟩ ∧
      nw = (cl, listOf cs.toArray k) :: (x, instObj 135 dx) :: (dx, dictOf [⟨hs9, .str (Str.ofString "raw") t9, .str row tr⟩] 1) :: news ∧ (@LT.lt Nat _ x cl ∧ @LT.lt Nat _ dx cl ∧ AllLt cl news) ∧ IntsAre cs (natI wd.count) ∧
      m (Str.ofString "count") = some (.ref cl) ∧ (∃ t, m (Str.ofString "b") = some (.int wd.b t)) ∧ (∃ t, m (Str.ofString "n") = some (.int wd.n t)) ∧ (∃ t, m (Str.ofString "nt") = some (.int wd.nt t)) ∧
      ∀ z, z ≠ Str.ofString "count" → z ≠ Str.ofString "b" → z ≠ Str.ofString "n" → z ≠ Str.ofString "nt" → z ≠ Str.ofString "ch" → m z = mm z)
    (fun m nw => ∃ (wd : Wd) (cl : Addr) (k : Nat) (cs : List Value), wd = Wd.run row.cps.toList ⟨[], 0, 0, 0⟩ ∧ wd.count.length ≤ 50 ∧
      nw = (cl, listOf cs.toArray k) :: (x, instObj 135 dx) :: (dx, dictOf [⟨hs9, .str (Str.ofString "raw") t9, .str row tr⟩] 1) :: news ∧ (@LT.lt Nat _ x cl ∧ @LT.lt Nat _ dx cl ∧ AllLt cl news) ∧ IntsAre cs (natI wd.count) ∧
      m (Str.ofString "count") = some (.ref cl) ∧ (∃ t, m (Str.ofString "b") = some (.int wd.b t)) ∧ (∃ t, m (Str.ofString "n") = some (.int wd.n t)) ∧ (∃ t, m (Str.ofString "nt") = some (.int wd.nt t)) ∧ m (Str.ofString "self") = some (.ref x)) rfl F2 N2 ?_ ?_ ?_ ?_
  · exact ⟨⟨[], 0, 0, 0⟩, cl, 0, [], ⟨Nat.le_refl _, Nat.le_refl _, Nat.le_refl _, Nat.le_refl _⟩, rfl, rfl, hcl, .nil, hcount, ⟨_, hb⟩, ⟨_, hn⟩, ⟨_, hnt⟩, fun _ _ _ _ _ _ => rfl⟩
  · rintro m' nw ⟨wd, cl, k, cs, hwd, hrun, rfl, hcl, hcs, ecount, eb, en, ent, em⟩
    refine ⟨wd, cl, k, cs, ?_, Nat.le_trans hwd.2.1 hrow, rfl, hcl, hcs, ecount, eb, en, ent, (em _ (by decide) (by decide) (by decide) (by decide) (by decide)).trans hself⟩
    rw [List.drop_eq_nil_of_le (by simp)] at hrun
    exact hrun
  · rintro i c t I o m₁ news₁ h₁ tk₁ hc ⟨wd, cl, k, cs, hwd, hrun, rfl, hcl, hcs, ecount, ⟨tb, eb⟩, ⟨tn, en⟩, ⟨tnt, ent⟩, em⟩ hI hoff F4 N4
    have hm4 := map_eq7 (m₀ := m₁) ecount eb en ent ((em _ (by decide) (by decide) (by decide) (by decide) (by decide)).trans hS) ((em _ (by decide) (by decide) (by decide) (by decide) (by decide)).trans hT) ((em _ (by decide) (by decide) (by decide) (by decide) (by decide)).trans hself) (fun _ _ _ _ _ _ _ _ => rfl)
    rw [hm4] at F4
    clear F2 F3 N2 hmm
    have hlen : cs.length = wd.count.length := by rw [hcs.length, natI_length]
    have hilt : i < 50 := by have h8 : i < row.cps.size := by { rcases Nat.lt_or_ge i row.cps.size with q | q; exact q; rw [Array.getElem?_eq_none q] at hc; cases hc }; exact Nat.lt_of_lt_of_le h8 hrow
    have hIcl : @Ne Nat I cl := fun e => hoff _ (List.Mem.head _) e.symm
    have hIx : @Ne Nat I x := fun e => hoff _ (List.Mem.tail _ (List.Mem.head _)) e.symm
    have hIdx : @Ne Nat I dx := fun e => hoff _ (List.Mem.tail _ (List.Mem.tail _ (List.Mem.head _))) e.symm
    obtain ⟨hcl1, hcl2, hcl3⟩ := hcl
    k_steps
    all_goals rw [run_step hc] at hrun
    · rename (_ == Str.ofString " ") = true => e1
      have e1 := sign_true (k := 32) (by decide +kernel) e1
      rw [if_pos e1] at hrun
      exact EndX.next (by assumption) (by assumption) _ (List.Mem.head _) (fun p hp => List.Mem.tail _ hp) hoff ⟨wd.sp, cl, k, cs, by simp only [Wd.sp]; omega, hrun, rfl, ⟨hcl1, hcl2, hcl3⟩, hcs, rfl, ⟨_, rfl⟩, ⟨_, rfl⟩, ⟨_, rfl⟩, fun z z1 z2 z3 z4 z5 => by
        simp only [z1, z2, z3, z4, z5, if_false]
        rw [← em z z1 z2 z3 z4 z5]
        by_cases q1 : z = Str.ofString "S"
        · rw [if_pos q1, q1, em _ (by decide) (by decide) (by decide) (by decide) (by decide), hS]
        by_cases q2 : z = Str.ofString "T"
        · rw [if_neg q1, if_pos q2, q2, em _ (by decide) (by decide) (by decide) (by decide) (by decide), hT]
        by_cases q3 : z = Str.ofString "self"
        · rw [if_neg q1, if_neg q2, if_pos q3, q3, em _ (by decide) (by decide) (by decide) (by decide) (by decide), hself]
        rw [if_neg q1, if_neg q2, if_neg q3]⟩
    · rename (_ == Str.ofString " ") = false => e1
      rename (_ == Str.ofString "\t") = true => e2
      have e1 := sign_false (k := 32) (by decide +kernel) e1
      have e2 := sign_true (k := 9) (by decide +kernel) e2
      rw [if_neg e1, if_pos e2] at hrun
      have emz : ∀ z, z ≠ Str.ofString "count" → z ≠ Str.ofString "b" → z ≠ Str.ofString "n" → z ≠ Str.ofString "nt" → z ≠ Str.ofString "ch" → (if z = Str.ofString "S" then some (Value.str (Str.ofString " ") tS) else if z = Str.ofString "T" then some (Value.str (Str.ofString "\t") tT) else if z = Str.ofString "self" then some (Value.ref x) else m₁ z) = mm z := fun z z1 z2 z3 z4 z5 => by
        rw [← em z z1 z2 z3 z4 z5]
        by_cases q1 : z = Str.ofString "S"
        · rw [if_pos q1, q1, em _ (by decide) (by decide) (by decide) (by decide) (by decide), hS]
        by_cases q2 : z = Str.ofString "T"
        · rw [if_neg q1, if_pos q2, q2, em _ (by decide) (by decide) (by decide) (by decide) (by decide), hT]
        by_cases q3 : z = Str.ofString "self"
        · rw [if_neg q1, if_neg q2, if_pos q3, q3, em _ (by decide) (by decide) (by decide) (by decide) (by decide), hself]
        rw [if_neg q1, if_neg q2, if_neg q3]
      have hge : wd.b ≥ wd.count.length := by omega
      have hrep : ((wd.b : Int) - (cs.length : Int) + 1).toNat = wd.b - wd.count.length + 1 := by omega
      have hgr : wd.grow = wd.count ++ List.replicate (wd.b - wd.count.length + 1) 0 := by unfold Wd.grow; rw [if_pos hge]
      rename News _ _ _ _ => NN
      refine' EndX.next_head (by assumption) NN ((x, instObj 135 dx) :: (dx, dictOf [⟨hs9, .str (Str.ofString "raw") t9, .str row tr⟩] 1) :: news) (by k_mem) (fun p hp => List.Mem.tail _ (List.Mem.tail _ (List.Mem.tail _ (List.Mem.tail _ hp)))) (Nat.ne_of_gt (by omega)) (fun p hp => hoff p (List.Mem.tail _ hp))
        ⟨wd.tb, _, _, _, ?_, hrun, rfl, ⟨?_, ?_, ?_⟩, ?_, (by with_unfolding_all rfl), ⟨_, rfl⟩, ⟨_, rfl⟩, ⟨_, rfl⟩, fun z z1 z2 z3 z4 z5 => by
        simp only [z1, z2, z3, z4, z5, if_false]
        exact emz z z1 z2 z3 z4 z5⟩
      · simp only [Wd.tb, hgr, List.length_set, List.length_append, List.length_replicate]; omega
      · show @LT.lt Nat _ _ _; omega
      · show @LT.lt Nat _ _ _; omega
      · first | assumption | exact And.right (by assumption) | exact And.right (And.right (by assumption)) | exact And.right (And.right (And.right (by assumption))) | exact And.right (And.right (And.right (And.right (by assumption)))) | exact And.right (And.right (And.right (And.right (And.right (by assumption))))) | exact And.right (And.right (And.right (And.right (And.right (And.right (by assumption))))))
      · simp only [Wd.tb, hgr]
        rw [natI_set, natI_append, natI_replicate]
        have hb9 : ((wd.b : Nat) : Int).toNat = wd.b := rfl
        rw [hrep, hb9]
        have hv9 : (natI wd.count ++ List.replicate (wd.b - wd.count.length + 1) (0 : Int)).getD wd.b 0 + 1 = (((wd.count ++ List.replicate (wd.b - wd.count.length + 1) 0).getD wd.b 0 + 1 : Nat) : Int) := by
          have := natI_getD (wd.count ++ List.replicate (wd.b - wd.count.length + 1) 0) wd.b
          rw [natI_append, natI_replicate] at this
          rw [Int.natCast_add, ← this]; rfl
        rw [← hv9]
        exact intsAre_set (IntsAre.append hcs (intsAre_rep _ _ _)) _ _ _
    · rename (_ == Str.ofString " ") = false => e1
      rename (_ == Str.ofString "\t") = true => e2
      have e1 := sign_false (k := 32) (by decide +kernel) e1
      have e2 := sign_true (k := 9) (by decide +kernel) e2
      rw [if_neg e1, if_pos e2] at hrun
      have emz : ∀ z, z ≠ Str.ofString "count" → z ≠ Str.ofString "b" → z ≠ Str.ofString "n" → z ≠ Str.ofString "nt" → z ≠ Str.ofString "ch" → (if z = Str.ofString "S" then some (Value.str (Str.ofString " ") tS) else if z = Str.ofString "T" then some (Value.str (Str.ofString "\t") tT) else if z = Str.ofString "self" then some (Value.ref x) else m₁ z) = mm z := fun z z1 z2 z3 z4 z5 => by
        rw [← em z z1 z2 z3 z4 z5]
        by_cases q1 : z = Str.ofString "S"
        · rw [if_pos q1, q1, em _ (by decide) (by decide) (by decide) (by decide) (by decide), hS]
        by_cases q2 : z = Str.ofString "T"
        · rw [if_neg q1, if_pos q2, q2, em _ (by decide) (by decide) (by decide) (by decide) (by decide), hT]
        by_cases q3 : z = Str.ofString "self"
        · rw [if_neg q1, if_neg q2, if_pos q3, q3, em _ (by decide) (by decide) (by decide) (by decide) (by decide), hself]
        rw [if_neg q1, if_neg q2, if_neg q3]
      have hge : ¬ wd.b ≥ wd.count.length := by omega
      have hgr : wd.grow = wd.count := by unfold Wd.grow; rw [if_neg hge]
      rename News _ _ _ _ => NN
      refine' EndX.next_same (by assumption) NN ?_
        ⟨wd.tb, _, _, _, ?_, hrun, rfl, ⟨?_, ?_, ?_⟩, ?_, (by with_unfolding_all rfl), ⟨_, rfl⟩, ⟨_, rfl⟩, ⟨_, rfl⟩, fun z z1 z2 z3 z4 z5 => by
        simp only [z1, z2, z3, z4, z5, if_false]
        exact emz z z1 z2 z3 z4 z5⟩
      · intro p hp
        rcases List.mem_cons.mp hp with rfl | hp
        · exact Ne.symm hIcl
        · exact hoff p (List.Mem.tail _ hp)
      · simp only [Wd.tb, hgr, List.length_set]; omega
      · assumption
      · assumption
      · assumption
      · simp only [Wd.tb, hgr]
        rw [natI_set]
        have hb9 : ((wd.b : Nat) : Int).toNat = wd.b := rfl
        rw [hb9]
        have hv9 : (natI wd.count).getD wd.b 0 + 1 = ((wd.count.getD wd.b 0 + 1 : Nat) : Int) := by
          rw [Int.natCast_add, ← natI_getD]; rfl
        rw [← hv9]
        exact intsAre_set hcs _ _ _
    · rename (_ == Str.ofString " ") = false => e1
      rename (_ == Str.ofString "\t") = false => e2
      have e1 := sign_false (k := 32) (by decide +kernel) e1
      have e2 := sign_false (k := 9) (by decide +kernel) e2
      rw [if_neg e1, if_neg e2] at hrun
      (try dsimp only)
      exact EndX.brk (by assumption) (by assumption) _ (fun p hp => List.Mem.tail _ hp) ⟨wd, cl, k, cs, hrun, by omega, rfl, ⟨hcl1, hcl2, hcl3⟩, hcs, rfl, ⟨_, rfl⟩, ⟨_, rfl⟩, ⟨_, rfl⟩, rfl⟩
  · rintro m' nw h₁ tk₁ F4 N4 ⟨wd, cl, k, cs, rfl, hlen, rfl, hcl, hcs, ecount, ⟨tb, eb⟩, ⟨tn, en⟩, ⟨tnt, ent⟩, eself⟩
    have hm4 := map_eq5 (m₀ := m') ecount eb en ent eself (fun _ _ _ _ _ _ => rfl)
    rw [hm4] at F4
    clear F2 F3 N2 hmm
    have hlen2 : cs.length = (Wd.run row.cps.toList ⟨[], 0, 0, 0⟩).count.length := by rw [hcs.length, natI_length]
    obtain ⟨hcl1, hcl2, hcl3⟩ := hcl
    dsimp only
    k_steps
    rename News h₀ L _ _ => kN
    refine' h _ _ [_, _, _, _] (by assumption) (own_of kN) ⟨dx, _, _, cs, _, _, _, _, _, _, _, _, _, _, _, _, _, _, _, _, List.Mem.tail _ (List.Mem.tail _ (List.Mem.head _)), List.Mem.tail _ (List.Mem.tail _ (List.Mem.tail _ (List.Mem.head _))), List.Mem.head _, List.Mem.tail _ (List.Mem.head _), hcs, hlen, ?_⟩ ?_
    · rw [decide_eq_true_iff, hlen2]; show _ ↔ (Wd.run row.cps.toList ⟨[], 0, 0, 0⟩).count.length ≤ 1; omega
    · intro p hp q hq
      simp only [List.mem_cons, List.not_mem_nil, or_false] at hp
      rcases hp with rfl | rfl | rfl | rfl
      · exact allLt_mem (by first | assumption | exact And.right (by assumption) | exact And.right (And.right (by assumption)) | exact And.right (And.right (And.right (by assumption))) | exact And.right (And.right (And.right (And.right (by assumption))))) q hq
      · exact allLt_mem (by first | assumption | exact And.right (by assumption) | exact And.right (And.right (by assumption)) | exact And.right (And.right (And.right (by assumption))) | exact And.right (And.right (And.right (And.right (by assumption))))) q hq
      · exact allLt_mem hx3 q hq
      · exact allLt_mem hx2 q hq
end
end Mine

end
section
open PySem PySem.W PyProof.Rows
set_option maxRecDepth 100000
set_option Elab.async false
set_option maxHeartbeats 2000000
set_option linter.unusedVariables false
set_option linter.unusedSectionVars false
namespace Mine
local macro_rules | `(tactic| omega) => `(tactic| first | lia | omega +splitDisjunctions)
local macro_rules | `(tactic| k_room) => `(tactic| ((try simp only [depth_under_make, depth_under_kw, depth_in1, depth_deeper, depth_caller]); (have hR9 : recursionLimit = 1000 := rfl); omega))
local macro_rules | `(tactic| k_steps) => `(tactic| repeat' ((fail_if_success (with_reducible show wpAny _ _ (exec (Stmt.While _ _ _ _) _) _ _ _)); (fail_if_success (with_reducible show wpAny _ _ (exec (Stmt.For _ _ _ _ _) _) _ _ _)); first | (k_unfold; (try dsimp only)) | (k_end; wrow_close) | walk1 | (dsimp only; walk1) | (leave1; walk_say "STEP leave1"; try dsimp only) | fail "no step"))
local macro_rules | `(tactic| walk_at "call builtin:list.pop") => `(tactic| (k_here; k_dflt (refine' kl_pop ?F ?N ?e ?U ?z ?_; (case F => k_asm); (case N => k_asm); (case U => k_upd); (case e => exact kl_last_snoc _ _); (case z => (simp only [List.length_append, List.length_cons, List.length_nil, sizeLine_eq]; omega))); kl_rest))
local macro_rules | `(tactic| k_all) => `(tactic| (refine allLt_ne ?_; first | assumption | exact And.right (by assumption) | exact And.right (And.right (by assumption)) | exact And.right (And.right (And.right (by assumption))) | exact And.right (And.right (And.right (And.right (by assumption)))) | exact And.right (And.right (And.right (And.right (And.right (by assumption))))) | exact And.right (And.right (And.right (And.right (And.right (And.right (by assumption))))))))
-- LISTS
local macro_rules | `(tactic| walk_at "call builtin:len") => `(tactic| (k_here; (with_reducible show wpAny _ _ (call (Value.builtin "len") [Value.ref _]) _ _ _); k_dflt (refine' m_len ?kN ?km ?kf ?_; (case kN => k_asm); (case km => k_mem); (case kf => ((try simp only [List.length_append, List.length_cons, List.length_nil, List.length_replicate, List.length_set]); omega)))))
local macro_rules | `(tactic| walk_at "subscriptTail") => `(tactic| (k_here; (with_reducible show wpAny _ _ (subscriptTail _ _ (Value.ref _) (Value.int (-1) _)) _ _ _); k_dflt (refine' m_last ?kN ?km ?kf ?_; (case kN => k_asm); (case km => k_mem); (case kf => omega))))
local macro_rules | `(tactic| walk_at "subscriptTail") => `(tactic| (k_here; (with_reducible show wpAny _ _ (subscriptTail _ _ (Value.ref _) (Value.int _ _)) _ _ _); k_dflt (refine' m_item_ints ?kN ?km ?ki ?k0 ?k1 ?kf ?_; (case kN => k_asm); (case km => k_mem); (case ki => first | with_reducible assumption | exact IntsAre.append (by with_reducible assumption) (intsAre_rep _ _ _)); (case k0 => omega); (case k1 => ((try simp only [List.length_append, List.length_replicate, natI_length]); omega)); (case kf => omega)); intro t9'))
local macro_rules | `(tactic| walk_at "setItem ref int") => `(tactic| (k_here; k_dflt (refine' m_set ?kF ?kN ?k0 ?k1 ?kf ?kU ?_; (case kF => k_asm); (case kN => k_asm); (case kU => k_upd); (case k0 => omega); (case k1 => ((try simp only [List.length_append, List.length_cons, List.length_nil, List.length_replicate, List.length_set]); omega)); (case kf => omega)); intro h' F' N'; (try dsimp only at N'); (try k_sweep)))
local macro_rules | `(tactic| walk_at "binaryOp Add ref ref") => `(tactic| (k_here; k_dflt (refine' m_add ?kF ?kN ?ka ?kb ?kz ?_; (case kF => k_asm); (case kN => k_asm); (case ka => k_mem); (case kb => k_mem); (case kz => (rw [sizeLine_eq]; (try simp only [List.length_append, List.length_cons, List.length_nil, List.length_replicate, List.length_set]); omega))); intro D' h' F' N' l1; (try k_lt l1); (try k_sweep)))
local macro_rules | `(tactic| walk_at "binaryOp Mult ref int") => `(tactic| (k_here; k_dflt (refine' m_mul ?kF ?kN ?ka ?k0 ?k1 ?_; (case kF => k_asm); (case kN => k_asm); (case ka => k_mem); (case k0 => omega); (case k1 => omega)); intro D' h' F' N' l1; (try k_lt l1); (try k_sweep)))
local macro_rules | `(tactic| walk_at "call type:tuple") => `(tactic| (k_here; (with_reducible show wpAny _ _ (call (Value.type _) [Value.ref _]) _ _ _); k_dflt (refine' kde_tupleOf ?k1 ?k2 ?k3 ?k4 ?k5 ?_; (case k1 => k_asm); (case k2 => k_asm); (case k3 => exact News.isList (by k_asm) (by k_mem)); (case k4 => (rw [List.size_toArray]; omega)); (case k5 => exact List.toList_toArray)); intro D' h' F' N' l1; (try k_lt l1); (try k_sweep)))
-- TUPLES
local macro_rules | `(tactic| k_mem) => `(tactic| (show (_ : Addr × Obj) ∈ (_ : List (Addr × Obj)); with_reducible assumption))
local macro_rules | `(tactic| walk_at "call builtin:len") => `(tactic| (k_here; (with_reducible show wpAny _ _ (call (Value.builtin "len") [Value.ref _]) _ _ _); k_dflt (refine' m_lenT ?kN ?km ?kf ?_; (case kN => k_asm); (case km => k_mem); (case kf => ((try simp only [List.length_append, List.length_cons, List.length_nil]); omega)))))
local macro_rules | `(tactic| walk_at "subscriptTail") => `(tactic| (k_here; (with_reducible show wpAny _ _ (subscriptTail _ _ (Value.ref _) (Value.int _ _)) _ _ _); k_dflt (refine' m_itemT_ints ?kN ?km ?ki ?k0 ?k1 ?kf ?_; (case kN => k_asm); (case km => k_mem); (case ki => with_reducible assumption); (case k0 => omega); (case k1 => ((try simp only [natI_length]); omega)); (case kf => omega)); intro t9'))
section
variable {w : World} {A₀ : Around} {d u : Nat} {gd : Option (List Code)} {names : List (Str × NameKind)} {ig ic : Bool} {more : List (Str × Const)} {lo gl : Addr} {ce : List (Str × Addr)} {qual : Str} {fu : Option Addr} {co : Value} {L : Addr} {bu : Addr}
  {outer : List Env} {E : Value → Shared → Prop} {s : Shared} {h₀ base : Heap} {m mg mb : Str → Option Value} {news : List (Addr × Obj)} {p : Program} {loose : List Str} {mean : ExcName → Option Value} {Q : Value → Shared → Prop}
  (hd9 : d < 600) (hu9 : u < 3000)
  (B : Below A₀ base outer h₀) (F : Fr h₀ L s.heap m) (X₀ : (hd.heap_39 w.params).In h₀) (T : Top p loose mean mg mb h₀)
include hd9 hu9 B F X₀ T

theorem indent_call {x : Addr} {wd : Wd} {ts : Nat} {tt : Tok} (N : News h₀ L s.heap news) (hx : WsIn news x wd) (hts : 1 ≤ ts ∧ ts ≤ 60) (hsm : wd.small)
  (h : ∀ h' tk t, Fr h₀ L h' m → News h₀ L h' news → Q (.int (wd.indent ts : Nat) t) { s with heap := h', toks := tk }) :
  wpAny (model PySem.Challenge.rw_tl0031_01.row.prog w) (Around.mk none d (some (envM names ig ic more lo gl ce qual fu co L bu :: outer)) gd u) (call (.ref 104) [.ref x, .int (ts : Nat) tt]) Q E s := by
  w_top off
  revert X₀
  k_fill
  intro X₀
  refine wpAny_noRaise ?_
  refine wpAny_call ?_
  obtain ⟨dx, tu, tc, cs, h1, h2, h3, h4, h5, t1, t2, t3, t4, t5, tr, tn, tnt, tb, row, bs, hx1, hx2, hx3, hx4, hcs, hcl, hbs⟩ := hx
  have hlen : cs.length = wd.count.length := by rw [hcs.length, natI_length]
  obtain ⟨hs1, hs2, hs3, hs4⟩ := hsm
  k_enter
  k_steps
  rename Fr _ _ _ _ => F1
  refine For_gen F1 ?_
  k_steps
  rename Fr _ _ _ _ => F2
  rename News _ _ _ _ => N2
  rename IsRange _ _ _ _ _ _ _ _ => RG
  obtain ⟨mm, hmm, F3⟩ := fr_get F2
  refine iter_rangeG (n := wd.count.length - ts) (fun i m nw => nw = news ∧ (∃ t, m (Str.ofString "il") = some (.int (ilSum ts wd.count i : Nat) t)) ∧ ∀ z, z ≠ Str.ofString "il" → z ≠ Str.ofString "i" → m z = mm z)
    rfl RG (small_one (by omega) (by omega) (by rw [natI_length]; omega) (by rw [natI_length]; omega)) (by rw [rangeSize_nat, natI_length]; omega) F3 N2 ⟨rfl, ⟨_, by rw [hmm]; rfl⟩, fun _ _ _ => rfl⟩ ?_ ?_
  · rintro i t I o m₁ nw h₁ tk₁ hi ⟨rfl, ⟨ti, ei⟩, em⟩ hI hoff F4 N4
    have hm4 := map_eq1 (m₀ := fun z => if z = Str.ofString "i" then m₁ z else mm z) ei (fun z z1 => looseM (em z z1))
    rw [hm4, hmm] at F4
    clear F2 F3 N2
    have hq0 : ((ts : Nat) : Int) + ((i : Nat) : Int) = ((ts + i : Nat) : Int) := by push_cast; rfl
    have hq : Int.fdiv (((ts : Nat) : Int) + ((i : Nat) : Int)) ((ts : Nat) : Int) = (((ts + i) / ts : Nat) : Int) := by rw [hq0]; exact fdivN _ _
    have hq1 : (ts + i) / ts ≤ 200 := Nat.le_trans (Nat.div_le_self _ _) (by omega)
    have hq2 : 0 ≤ Int.fdiv (((ts : Nat) : Int) + ((i : Nat) : Int)) ((ts : Nat) : Int) := by rw [hq]; exact Int.natCast_nonneg _
    have hq3 : Int.fdiv (((ts : Nat) : Int) + ((i : Nat) : Int)) ((ts : Nat) : Int) ≤ 200 := by rw [hq]; exact Int.ofNat_le.mpr hq1
    k_steps
    rename Fr _ _ _ _ => F5
    rename News _ _ _ _ => N5
    refine' EndG.next F5 N5 nw (List.Mem.head _) (fun p hp => List.Mem.tail _ hp) hoff ⟨rfl, ⟨_, ?_⟩, fun z z1 z2 => ?_⟩
    rotate_left
    · rw [hq, show ((((ts : Nat) : Int) + ((i : Nat) : Int)).toNat) = ts + i from by omega, natI_getD, show ((ilSum ts wd.count (i + 1) : Nat) : Int) = ((ilSum ts wd.count i : Nat) : Int) + (((ts + i) / ts : Nat) : Int) * ((wd.count.getD (ts + i) 0 : Nat) : Int) from by rw [ilSum]; push_cast; rfl]
      rfl
    · simp only [z1, z2, if_false, hmm]
  · rintro m' nw h₁ tk₁ F4 N4 ⟨rfl, ⟨ti, ei⟩, em⟩
    have hm4 := map_eq1 (m₀ := fun z => if z = Str.ofString "i" then m' z else mm z) ei (fun z z1 => looseM (em z z1))
    rw [hm4, hmm] at F4
    clear F2 F3 N2
    dsimp only
    k_steps
    have e9 : (wd.b : Int) + (ts : Int) * (((ilSum ts wd.count (wd.count.length - ts) : Nat) : Int) + (wd.nt : Int)) = ((wd.indent ts : Nat) : Int) := by
      unfold Wd.indent; push_cast; rfl
    rw [e9]
    exact h _ _ _ (by assumption) (by assumption)
end
end Mine

end
section
open PySem PySem.W PyProof.Rows
set_option maxRecDepth 100000
set_option Elab.async false
set_option maxHeartbeats 2000000
set_option linter.unusedVariables false
set_option linter.unusedSectionVars false
namespace Mine
local macro_rules | `(tactic| omega) => `(tactic| first | lia | omega +splitDisjunctions)
local macro_rules | `(tactic| k_room) => `(tactic| ((try simp only [depth_under_make, depth_under_kw, depth_in1, depth_deeper, depth_caller]); (have hR9 : recursionLimit = 1000 := rfl); omega))
local macro_rules | `(tactic| k_steps) => `(tactic| repeat' ((fail_if_success (with_reducible show wpAny _ _ (exec (Stmt.While _ _ _ _) _) _ _ _)); (fail_if_success (with_reducible show wpAny _ _ (exec (Stmt.For _ _ _ _ _) _) _ _ _)); first | (k_unfold; (try dsimp only)) | (k_end; wrow_close) | walk1 | (dsimp only; walk1) | (leave1; walk_say "STEP leave1"; try dsimp only) | fail "no step"))
local macro_rules | `(tactic| walk_at "call builtin:list.pop") => `(tactic| (k_here; k_dflt (refine' kl_pop ?F ?N ?e ?U ?z ?_; (case F => k_asm); (case N => k_asm); (case U => k_upd); (case e => exact kl_last_snoc _ _); (case z => (simp only [List.length_append, List.length_cons, List.length_nil, sizeLine_eq]; omega))); kl_rest))
local macro_rules | `(tactic| k_all) => `(tactic| (refine allLt_ne ?_; first | assumption | exact And.right (by assumption) | exact And.right (And.right (by assumption)) | exact And.right (And.right (And.right (by assumption))) | exact And.right (And.right (And.right (And.right (by assumption)))) | exact And.right (And.right (And.right (And.right (And.right (by assumption))))) | exact And.right (And.right (And.right (And.right (And.right (And.right (by assumption))))))))
-- LISTS
local macro_rules | `(tactic| walk_at "call builtin:len") => `(tactic| (k_here; (with_reducible show wpAny _ _ (call (Value.builtin "len") [Value.ref _]) _ _ _); k_dflt (refine' m_len ?kN ?km ?kf ?_; (case kN => k_asm); (case km => k_mem); (case kf => ((try simp only [List.length_append, List.length_cons, List.length_nil, List.length_replicate, List.length_set]); omega)))))
local macro_rules | `(tactic| walk_at "subscriptTail") => `(tactic| (k_here; (with_reducible show wpAny _ _ (subscriptTail _ _ (Value.ref _) (Value.int (-1) _)) _ _ _); k_dflt (refine' m_last ?kN ?km ?kf ?_; (case kN => k_asm); (case km => k_mem); (case kf => omega))))
local macro_rules | `(tactic| walk_at "subscriptTail") => `(tactic| (k_here; (with_reducible show wpAny _ _ (subscriptTail _ _ (Value.ref _) (Value.int _ _)) _ _ _); k_dflt (refine' m_item_ints ?kN ?km ?ki ?k0 ?k1 ?kf ?_; (case kN => k_asm); (case km => k_mem); (case ki => first | with_reducible assumption | exact IntsAre.append (by with_reducible assumption) (intsAre_rep _ _ _)); (case k0 => omega); (case k1 => ((try simp only [List.length_append, List.length_replicate, natI_length]); omega)); (case kf => omega)); intro t9'))
local macro_rules | `(tactic| walk_at "setItem ref int") => `(tactic| (k_here; k_dflt (refine' m_set ?kF ?kN ?k0 ?k1 ?kf ?kU ?_; (case kF => k_asm); (case kN => k_asm); (case kU => k_upd); (case k0 => omega); (case k1 => ((try simp only [List.length_append, List.length_cons, List.length_nil, List.length_replicate, List.length_set]); omega)); (case kf => omega)); intro h' F' N'; (try dsimp only at N'); (try k_sweep)))
local macro_rules | `(tactic| walk_at "binaryOp Add ref ref") => `(tactic| (k_here; k_dflt (refine' m_add ?kF ?kN ?ka ?kb ?kz ?_; (case kF => k_asm); (case kN => k_asm); (case ka => k_mem); (case kb => k_mem); (case kz => (rw [sizeLine_eq]; (try simp only [List.length_append, List.length_cons, List.length_nil, List.length_replicate, List.length_set]); omega))); intro D' h' F' N' l1; (try k_lt l1); (try k_sweep)))
local macro_rules | `(tactic| walk_at "binaryOp Mult ref int") => `(tactic| (k_here; k_dflt (refine' m_mul ?kF ?kN ?ka ?k0 ?k1 ?_; (case kF => k_asm); (case kN => k_asm); (case ka => k_mem); (case k0 => omega); (case k1 => omega)); intro D' h' F' N' l1; (try k_lt l1); (try k_sweep)))
local macro_rules | `(tactic| walk_at "call type:tuple") => `(tactic| (k_here; (with_reducible show wpAny _ _ (call (Value.type _) [Value.ref _]) _ _ _); k_dflt (refine' kde_tupleOf ?k1 ?k2 ?k3 ?k4 ?k5 ?_; (case k1 => k_asm); (case k2 => k_asm); (case k3 => exact News.isList (by k_asm) (by k_mem)); (case k4 => (rw [List.size_toArray]; omega)); (case k5 => exact List.toList_toArray)); intro D' h' F' N' l1; (try k_lt l1); (try k_sweep)))
-- TUPLES
local macro_rules | `(tactic| k_mem) => `(tactic| (show (_ : Addr × Obj) ∈ (_ : List (Addr × Obj)); with_reducible assumption))
local macro_rules | `(tactic| walk_at "call builtin:len") => `(tactic| (k_here; (with_reducible show wpAny _ _ (call (Value.builtin "len") [Value.ref _]) _ _ _); k_dflt (refine' m_lenT ?kN ?km ?kf ?_; (case kN => k_asm); (case km => k_mem); (case kf => ((try simp only [List.length_append, List.length_cons, List.length_nil]); omega)))))
local macro_rules | `(tactic| walk_at "subscriptTail") => `(tactic| (k_here; (with_reducible show wpAny _ _ (subscriptTail _ _ (Value.ref _) (Value.int _ _)) _ _ _); k_dflt (refine' m_itemT_ints ?kN ?km ?ki ?k0 ?k1 ?kf ?_; (case kN => k_asm); (case km => k_mem); (case ki => with_reducible assumption); (case k0 => omega); (case k1 => ((try simp only [natI_length]); omega)); (case kf => omega)); intro t9'))
section
variable {w : World} {A₀ : Around} {d u : Nat} {gd : Option (List Code)} {names : List (Str × NameKind)} {ig ic : Bool} {more : List (Str × Const)} {lo gl : Addr} {ce : List (Str × Addr)} {qual : Str} {fu : Option Addr} {co : Value} {L : Addr} {bu : Addr}
  {outer : List Env} {E : Value → Shared → Prop} {s : Shared} {h₀ base : Heap} {m mg mb : Str → Option Value} {news : List (Addr × Obj)} {p : Program} {loose : List Str} {mean : ExcName → Option Value} {Q : Value → Shared → Prop}
  (hd9 : d < 600) (hu9 : u < 3000)
  (B : Below A₀ base outer h₀) (F : Fr h₀ L s.heap m) (X₀ : (hd.heap_39 w.params).In h₀) (T : Top p loose mean mg mb h₀)
include hd9 hu9 B F X₀ T

theorem longest_call {x : Addr} {wd : Wd} (N : News h₀ L s.heap news) (hx : WsIn news x wd) (hsm : wd.small)
  (h : ∀ h' tk t, Fr h₀ L h' m → News h₀ L h' news → Q (.int (wd.longest : Nat) t) { s with heap := h', toks := tk }) :
  wpAny (model PySem.Challenge.rw_tl0031_01.row.prog w) (Around.mk none d (some (envM names ig ic more lo gl ce qual fu co L bu :: outer)) gd u) (call (.ref 97) [.ref x]) Q E s := by
  w_top off
  revert X₀
  k_fill
  intro X₀
  refine wpAny_noRaise ?_
  refine wpAny_call ?_
  obtain ⟨dx, tu, tc, cs, h1, h2, h3, h4, h5, t1, t2, t3, t4, t5, tr, tn, tnt, tb, row, bs, hx1, hx2, hx3, hx4, hcs, hcl, hbs⟩ := hx
  have hlen : cs.length = wd.count.length := by rw [hcs.length, natI_length]
  obtain ⟨hs1, hs2, hs3, hs4⟩ := hsm
  k_enter
  k_steps
  have e9 : (if (wd.b : Int) > (cs.length : Int) - 1 then (wd.b : Int) else (cs.length : Int) - 1) = ((wd.longest : Nat) : Int) := by
    unfold Wd.longest; rw [hlen]; split <;> omega
  rw [e9]
  exact h _ _ _ (by assumption) (by assumption)
theorem indent_callI {x : Addr} {wd : Wd} {ts : Int} {tt : Tok} (N : News h₀ L s.heap news) (hx : WsIn news x wd) (hts : 1 ≤ ts ∧ ts ≤ 60) (hsm : wd.small)
  (h : ∀ h' tk t, Fr h₀ L h' m → News h₀ L h' news → Q (.int (wd.indent ts.toNat : Nat) t) { s with heap := h', toks := tk }) :
  wpAny (model PySem.Challenge.rw_tl0031_01.row.prog w) (Around.mk none d (some (envM names ig ic more lo gl ce qual fu co L bu :: outer)) gd u) (call (.ref 104) [.ref x, .int ts tt]) Q E s := by
  obtain ⟨n, rfl⟩ := Int.eq_ofNat_of_zero_le (show 0 ≤ ts by omega)
  exact indent_call hd9 hu9 B F X₀ T N hx (by omega) hsm h
end
-- WHITESPACE METHODS
local macro_rules | `(tactic| walk_at "call ref") => `(tactic| (k_here; (with_reducible show wpAny _ _ (call (Value.ref 104) _) _ _ _); k_dflt (refine' indent_callI ?kd ?ku ?kB ?kF ?kX ?kT ?kN (WsIn.mono ?kW ?kS) ?k1 ?k2 ?_; (case kB => k_asm); (case kF => k_asm); (case kX => k_asm); (case kT => k_asm); (case kN => k_asm); (case kW => with_reducible assumption); (case kS => first | exact fun p hp => hp | exact fun p hp => List.Mem.tail _ hp | exact fun p hp => List.Mem.tail _ (List.Mem.tail _ hp)); (case k1 => omega); (case k2 => with_reducible assumption); (case kd => (dsimp only [Around.deeper, Around.in1]; omega)); (case ku => (dsimp only [Around.deeper, Around.in1]; omega)); intro h' tk' t' F' N'; (try dsimp only); (try k_sweep))))
local macro_rules | `(tactic| walk_at "call ref") => `(tactic| (k_here; (with_reducible show wpAny _ _ (call (Value.ref 97) _) _ _ _); k_dflt (refine' longest_call ?kd ?ku ?kB ?kF ?kX ?kT ?kN (WsIn.mono ?kW ?kS) ?k2 ?_; (case kB => k_asm); (case kF => k_asm); (case kX => k_asm); (case kT => k_asm); (case kN => k_asm); (case kW => with_reducible assumption); (case kS => first | exact fun p hp => hp | exact fun p hp => List.Mem.tail _ hp | exact fun p hp => List.Mem.tail _ (List.Mem.tail _ hp)); (case k2 => with_reducible assumption); (case kd => (dsimp only [Around.deeper, Around.in1]; omega)); (case ku => (dsimp only [Around.deeper, Around.in1]; omega)); intro h' tk' t' F' N'; (try dsimp only); (try k_sweep))))

section
variable {w : World} {A₀ : Around} {d u : Nat} {gd : Option (List Code)} {names : List (Str × NameKind)} {ig ic : Bool} {more : List (Str × Const)} {lo gl : Addr} {ce : List (Str × Addr)} {qual : Str} {fu : Option Addr} {co : Value} {L : Addr} {bu : Addr}
  {outer : List Env} {E : Value → Shared → Prop} {s : Shared} {h₀ base : Heap} {m mg mb : Str → Option Value} {news : List (Addr × Obj)} {p : Program} {loose : List Str} {mean : ExcName → Option Value} {Q : Value → Shared → Prop}
  (hd9 : d < 550) (hu9 : u < 2800)
  (B : Below A₀ base outer h₀) (F : Fr h₀ L s.heap m) (X₀ : (hd.heap_39 w.params).In h₀) (T : Top p loose mean mg mb h₀)
include hd9 hu9 B F X₀ T

theorem ws_call {row : Str} {tr : Tok} (N : News h₀ L s.heap news) (hrow : row.length ≤ 50)
  (h : ∀ h' tk x own, Fr h₀ L h' m → News h₀ L h' (own ++ news) → WsIn own x (Wd.run row.cps.toList Wd.zero) → (∀ p ∈ own, ∀ q ∈ news, @LT.lt Nat _ q.1 p.1) → Q (.ref x) { s with heap := h', toks := tk }) :
  wpAny (model PySem.Challenge.rw_tl0031_01.row.prog w) (Around.mk none d (some (envM names ig ic more lo gl ce qual fu co L bu :: outer)) gd u) (call (.ref 135) [.str row tr]) Q E s := by
  w_top off
  revert X₀
  k_fill
  intro X₀
  refine' call_cls ?k1 ?k2 ?k3 ?k4 ?k5 ?k6 ?_
  (case k1 => k_asm)
  (case k2 => k_asm)
  (case k3 => k_asm)
  (case k4 => k_is)
  (case k5 => k_is)
  (case k6 => k_is)
  intro x dx h' F' N' l1 l2
  refine' ws_init ?kd ?ku B F' X₀ T N' l2 (allLt_of l1) (allLt_of fun p hp => Nat.lt_trans (l1 p hp) l2) hrow ?_
  (case kd => (show d + 1 < 600; omega))
  (case ku => (show u + 1 < 3000; omega))
  intro h'' tk own F'' N'' hw hsep
  exact ⟨rfl, h _ _ _ _ F'' N'' hw hsep⟩
theorem less_call {x y : Addr} {wx wy : Wd} (N : News h₀ L s.heap news) (hx : WsIn news x wx) (hy : WsIn news y wy) (hsx : wx.small) (hsy : wy.small)
  (h : ∀ h' tk, Fr h₀ L h' m → News h₀ L h' news → Q (.bool (wx.less wy)) { s with heap := h', toks := tk }) :
  wpAny (model PySem.Challenge.rw_tl0031_01.row.prog w) (Around.mk none d (some (envM names ig ic more lo gl ce qual fu co L bu :: outer)) gd u) (call (.ref 125) [.ref x, .ref y]) Q E s := by
  w_top off
  revert X₀
  k_fill
  intro X₀
  refine wpAny_noRaise ?_
  refine wpAny_call ?_
  have hx' := hx
  have hy' := hy
  obtain ⟨dx, tu, tc, cs, h1, h2, h3, h4, h5, t1, t2, t3, t4, t5, tr, tn, tnt, tb, row, bs, hx1, hx2, hx3, hx4, hcs, hcl, hbs⟩ := hx'
  obtain ⟨dy, uu, uc, ds, g1, g2, g3, g4, g5, u1, u2, u3, u4, u5, ur, un, unt, ub, row', bs', hy1, hy2, hy3, hy4, hds, hdl, hbs'⟩ := hy'
  k_enter
  k_steps
  · have e9 : wx.less wy = false := by unfold Wd.less; rw [if_pos (by omega)]
    rw [← e9]
    exact h _ _ (by assumption) (by assumption)
  · have e9 : wx.less wy = decide ((wx.nt : Int) ≤ (wy.nt : Int)) := by
      unfold Wd.less
      rw [if_neg (by omega), if_pos ⟨hbs.mp (by assumption), hbs'.mp (by assumption)⟩]
      exact decide_eq_decide.mpr Int.ofNat_le.symm
    rw [← e9]
    exact h _ _ (by assumption) (by assumption)
  all_goals
    have hns : ¬ (wx.count.length ≤ 1 ∧ wy.count.length ≤ 1) := by
      rintro ⟨q1, q2⟩
      have q1 := hbs.mpr q1
      have q2 := hbs'.mpr q2
      subst q1 q2
      first | contradiction | (simp_all; done)
    have hnn : ¬ wx.n ≥ wy.n := by omega
    have hlx : wx.longest ≤ 50 := by obtain ⟨q1, q2, q3, q4⟩ := hsx; unfold Wd.longest; omega
    have hly : wy.longest ≤ 50 := by obtain ⟨q1, q2, q3, q4⟩ := hsy; unfold Wd.longest; omega
    rename Fr _ _ _ _ => F1
    refine For_gen F1 ?_
    k_steps
    rename Fr _ _ _ _ => F2
    rename News _ _ _ _ => N2
    rename IsRange _ _ _ _ _ _ _ _ => RG
    obtain ⟨mm, hmm, F3⟩ := fr_get F2
    refine iter_rangeG (n := max wx.longest wy.longest) (fun i m nw => nw = news ∧ (∀ j, j < i → wx.indent (j + 2) < wy.indent (j + 2)) ∧ ∀ z, z ≠ Str.ofString "ts" → m z = mm z)
      rfl RG (small_one (by omega) (by omega) (by split <;> omega) (by split <;> omega)) (by rw [rangeSize_nat]; split <;> omega) F3 N2 ⟨rfl, fun _ q => absurd q (Nat.not_lt_zero _), fun _ _ => rfl⟩ ?_ ?_
    · rintro i t I o m₁ nw h₁ tk₁ hi ⟨rfl, hj, em⟩ hI hoff F4 N4
      have hm4 : m₁ = fun z => if z = Str.ofString "ts" then m₁ z else mm z := funext fun z => looseM (em z)
      rw [hm4, hmm] at F4
      clear F2 F3 N2
      have ht : ((2 : Int) + ((i : Nat) : Int)).toNat = i + 2 := by omega
      k_steps
      · dsimp only [EndG]
        k_steps
        have e9 : wx.less wy = false := by
          rename _ ≥ _ => hge
          rw [ht] at hge
          unfold Wd.less
          rw [if_neg hnn, if_neg hns, List.all_eq_false]
          exact ⟨i, List.mem_range.mpr hi, by rw [decide_eq_true_iff]; omega⟩
        rw [← e9]
        exact h _ _ (by assumption) (news_drop1 (by assumption))
      · rename ¬ _ ≥ _ => hlt
        rw [ht] at hlt
        rename Fr _ _ _ _ => F5
        rename News _ _ _ _ => N5
        refine' EndG.next F5 N5 nw (List.Mem.head _) (fun p hp => List.Mem.tail _ hp) hoff ⟨rfl, fun j hj' => ?_, fun z z1 => ?_⟩
        · rcases Nat.lt_succ_iff_lt_or_eq.mp hj' with q | rfl
          · exact hj j q
          · omega
        · simp only [z1, if_false, hmm]
    · rintro m' nw h₁ tk₁ F4 N4 ⟨rfl, hj, em⟩
      have hm4 : m' = fun z => if z = Str.ofString "ts" then m' z else mm z := funext fun z => looseM (em z)
      rw [hm4, hmm] at F4
      clear F2 F3 N2
      dsimp only
      k_steps
      have e9 : wx.less wy = true := by
        unfold Wd.less
        rw [if_neg hnn, if_neg hns, List.all_eq_true]
        exact fun j hj' => decide_eq_true (hj j (List.mem_range.mp hj'))
      rw [← e9]
      exact h _ _ (by assumption) (by assumption)
end
end Mine

end
section
open PySem PySem.W PyProof.Rows
set_option maxRecDepth 100000
set_option Elab.async false
set_option maxHeartbeats 2000000
set_option linter.unusedVariables false
set_option linter.unusedSectionVars false
namespace Mine
structure RowOk (r : Str) (wd : Wd) (num : Int) : Prop where
  len : r.length ≤ 50
  run : Wd.run r.cps.toList Wd.zero = wd
  small : wd.small
  sign : (r.cps[wd.n]? = some 43 ∧ num = 14) ∨ (r.cps[wd.n]? = some 45 ∧ num = 15)
inductive RowsAre : List Value → List (Wd × Int) → Prop
  | nil : RowsAre [] []
  | cons {r : Str} {t : Tok} {wd : Wd} {num : Int} {vs : List Value} {rs : List (Wd × Int)} : RowOk r wd num → RowsAre vs rs → RowsAre (.str r t :: vs) ((wd, num) :: rs)
theorem RowsAre.length : ∀ {vs : List Value} {rs : List (Wd × Int)}, RowsAre vs rs → vs.length = rs.length
  | _, _, .nil => rfl
  | _, _, .cons _ h => congrArg (· + 1) h.length
theorem RowsAre.get : ∀ {vs : List Value} {rs : List (Wd × Int)}, RowsAre vs rs → ∀ (i : Nat) (v : Value), vs[i]? = some v → ∃ r t wd num, v = .str r t ∧ RowOk r wd num ∧ rs.drop i = (wd, num) :: rs.drop (i + 1)
  | _, _, .nil, i, v, h => by simp at h
  | _, _, .cons (r := r) (t := t) (wd := wd) (num := num) ho h, 0, v, e => by
    simp at e
    exact ⟨r, t, wd, num, e.symm, ho, rfl⟩
  | _, _, .cons ho h, i + 1, v, e => by
    obtain ⟨r, t, wd, num, a, b, c⟩ := h.get i v (by simpa using e)
    exact ⟨r, t, wd, num, a, b, by simpa using c⟩
noncomputable def popP (lead : Wd) : List (Wd × Int) → List Int → List (Wd × Int) × List Int
  | (l, num) :: st, a :: b :: us => if l.less lead = true then ((l, num) :: st, a :: b :: us) else popP lead st ((b + shutWorth num a) :: us)
  | st, us => (st, us)
noncomputable def closeP : List (Wd × Int) → List Int → List Int
  | (_, num) :: st, a :: b :: us => closeP st ((b + shutWorth num a) :: us)
  | _, us => us
noncomputable def goP : List (Wd × Int) → List (Wd × Int) → List Int → List Int
  | [], st, us => closeP st us
  | (wd, num) :: r, st, us => goP r ((wd, num) :: (popP wd st us).1) (0 :: (popP wd st us).2)
noncomputable def worthP (rs : List (Wd × Int)) : Int := (goP rs [] [0]).getD 0 0
noncomputable def absSum : List Int → Nat
  | [] => 0
  | a :: l => a.natAbs + absSum l
noncomputable def Bnd (st : List (Wd × Int)) (us : List Int) (k : Nat) : Prop := us.length = st.length + 1 ∧ absSum us + 8 * st.length ≤ k
theorem shutWorth_bound {num a : Int} (hn : num = 14 ∨ num = 15) (ha : -100 ≤ a ∧ a ≤ 100) : (shutWorth num a).natAbs ≤ a.natAbs + 8 := by
  have key : ∀ k : Nat, k < 201 → (shutWorth 14 ((k : Int) - 100)).natAbs ≤ ((k : Int) - 100).natAbs + 8 ∧ (shutWorth 15 ((k : Int) - 100)).natAbs ≤ ((k : Int) - 100).natAbs + 8 := by decide +kernel
  have h := key (a + 100).toNat (by omega)
  rw [show (((a + 100).toNat : Nat) : Int) - 100 = a by omega] at h
  rcases hn with rfl | rfl
  · exact h.1
  · exact h.2
theorem Bnd.two {l : Wd} {num : Int} {st : List (Wd × Int)} {us : List Int} {k : Nat} (h : Bnd ((l, num) :: st) us k) : ∃ a b r, us = a :: b :: r := by
  obtain ⟨h1, _⟩ := h
  rcases us with _ | ⟨a, _ | ⟨b, r⟩⟩
  · simp at h1
  · simp at h1
  · exact ⟨a, b, r, rfl⟩
theorem Bnd.shut {l : Wd} {num a b : Int} {st : List (Wd × Int)} {us : List Int} {k : Nat} (h : Bnd ((l, num) :: st) (a :: b :: us) k) (hk : k ≤ 96) (hn : num = 14 ∨ num = 15) :
    (-100 ≤ a ∧ a ≤ 100) ∧ (-100 ≤ b ∧ b ≤ 100) ∧ Bnd st ((b + shutWorth num a) :: us) k := by
  obtain ⟨h1, h2⟩ := h
  simp only [absSum, List.length_cons] at h1 h2
  have ha : -100 ≤ a ∧ a ≤ 100 := by omega
  have hs := shutWorth_bound hn ha
  refine ⟨ha, by omega, ?_, ?_⟩
  · simp only [List.length_cons]; omega
  · simp only [absSum]; omega
theorem Bnd.push {wd : Wd} {num : Int} {st : List (Wd × Int)} {us : List Int} {k : Nat} (h : Bnd st us k) : Bnd ((wd, num) :: st) (0 :: us) (k + 8) := by
  obtain ⟨h1, h2⟩ := h
  refine ⟨by simp only [List.length_cons]; omega, by simp only [absSum, List.length_cons]; omega⟩
theorem Bnd.mono {st : List (Wd × Int)} {us : List Int} {k k' : Nat} (h : Bnd st us k) (hk : k ≤ k') : Bnd st us k' := ⟨h.1, Nat.le_trans h.2 hk⟩
noncomputable def NumsOk (st : List (Wd × Int)) : Prop := ∀ p ∈ st, p.2 = 14 ∨ p.2 = 15
inductive LeadsR (tl : List (Addr × Obj)) : List Value → List (Wd × Int) → Prop
  | nil : LeadsR tl [] []
  | cons {x : Addr} {wd : Wd} {num : Int} {vs : List Value} {st : List (Wd × Int)} : WsIn tl x wd → wd.small → LeadsR tl vs st → LeadsR tl (.ref x :: vs) ((wd, num) :: st)
theorem LeadsR.mono {tl tl' : List (Addr × Obj)} {vs : List Value} {st : List (Wd × Int)} (h : LeadsR tl vs st) (hs : ∀ p ∈ tl, p ∈ tl') : LeadsR tl' vs st := by
  induction h with
  | nil => exact .nil
  | cons a b _ ih => exact .cons (a.mono hs) b ih
theorem LeadsR.length {tl : List (Addr × Obj)} {vs : List Value} {st : List (Wd × Int)} (h : LeadsR tl vs st) : vs.length = st.length := by
  induction h with
  | nil => rfl
  | cons _ _ _ ih => simp [ih]
theorem intsAre_rev : ∀ {vs : List Value} {ns : List Int}, IntsAre vs ns → IntsAre vs.reverse ns.reverse
  | _, _, .nil => .nil
  | _, _, .cons n t h => by
    rw [List.reverse_cons, List.reverse_cons]
    exact IntsAre.append (intsAre_rev h) (.cons n t .nil)
end Mine

end
section
open PySem PySem.W PyProof.Rows
set_option maxRecDepth 100000
set_option Elab.async false
set_option maxHeartbeats 2000000
set_option linter.unusedVariables false
set_option linter.unusedSectionVars false
namespace Mine
local macro_rules | `(tactic| omega) => `(tactic| first | lia | omega +splitDisjunctions)
local macro_rules | `(tactic| k_room) => `(tactic| ((try simp only [depth_under_make, depth_under_kw, depth_in1, depth_deeper, depth_caller]); (have hR9 : recursionLimit = 1000 := rfl); omega))
local macro_rules | `(tactic| k_steps) => `(tactic| repeat' ((fail_if_success (with_reducible show wpAny _ _ (exec (Stmt.While _ _ _ _) _) _ _ _)); (fail_if_success (with_reducible show wpAny _ _ (exec (Stmt.For _ _ _ _ _) _) _ _ _)); first | ((with_reducible show wpAny _ _ (execs (_ :: _) _) _ _ _); walk1; (try (refine stmt_gen ?_; intro Q9 hQ9)); (try (refine toks_gen _ rfl ?_; intro t9; dsimp only))) | (refine above_use (by assumption) ?_; (try dsimp only)) | (k_unfold; (try dsimp only)) | (k_end; wrow_close) | walk1 | (dsimp only; walk1) | (leave1; walk_say "STEP leave1"; try dsimp only) | fail "no step"))
local macro_rules | `(tactic| walk_at "call builtin:list.pop") => `(tactic| (k_here; k_dflt (refine' kl_pop ?F ?N ?e ?U ?z ?_; (case F => k_asm); (case N => k_asm); (case U => k_upd); (case e => exact kl_last_snoc _ _); (case z => (simp only [List.length_append, List.length_cons, List.length_nil, sizeLine_eq]; omega))); kl_rest))
local macro_rules | `(tactic| k_all) => `(tactic| (refine allLt_ne ?_; first | assumption | exact And.right (by assumption) | exact And.right (And.right (by assumption)) | exact And.right (And.right (And.right (by assumption))) | exact And.right (And.right (And.right (And.right (by assumption)))) | exact And.right (And.right (And.right (And.right (And.right (by assumption))))) | exact And.right (And.right (And.right (And.right (And.right (And.right (by assumption))))))))
-- LISTS
local macro_rules | `(tactic| walk_at "call builtin:len") => `(tactic| (k_here; (with_reducible show wpAny _ _ (call (Value.builtin "len") [Value.ref _]) _ _ _); k_dflt (refine' m_len ?kN ?km ?kf ?_; (case kN => k_asm); (case km => k_mem); (case kf => ((try simp only [List.length_append, List.length_cons, List.length_nil, List.length_replicate, List.length_set]); omega)))))
local macro_rules | `(tactic| walk_at "subscriptTail") => `(tactic| (k_here; (with_reducible show wpAny _ _ (subscriptTail _ _ (Value.ref _) (Value.int (-1) _)) _ _ _); k_dflt (refine' m_last ?kN ?km ?kf ?_; (case kN => k_asm); (case km => k_mem); (case kf => omega))))
local macro_rules | `(tactic| walk_at "subscriptTail") => `(tactic| (k_here; (with_reducible show wpAny _ _ (subscriptTail _ _ (Value.ref _) (Value.int _ _)) _ _ _); k_dflt (refine' m_item_ints ?kN ?km ?ki ?k0 ?k1 ?kf ?_; (case kN => k_asm); (case km => k_mem); (case ki => first | with_reducible assumption | exact IntsAre.append (by with_reducible assumption) (intsAre_rep _ _ _)); (case k0 => omega); (case k1 => ((try simp only [List.length_append, List.length_replicate, natI_length]); omega)); (case kf => omega)); intro t9'))
local macro_rules | `(tactic| walk_at "setItem ref int") => `(tactic| (k_here; k_dflt (refine' m_set ?kF ?kN ?k0 ?k1 ?kf ?kU ?_; (case kF => k_asm); (case kN => k_asm); (case kU => k_upd); (case k0 => omega); (case k1 => ((try simp only [List.length_append, List.length_cons, List.length_nil, List.length_replicate, List.length_set]); omega)); (case kf => omega)); intro h' F' N'; (try dsimp only at N'); (try k_sweep)))
local macro_rules | `(tactic| walk_at "binaryOp Add ref ref") => `(tactic| (k_here; k_dflt (refine' m_add ?kF ?kN ?ka ?kb ?kz ?_; (case kF => k_asm); (case kN => k_asm); (case ka => k_mem); (case kb => k_mem); (case kz => (rw [sizeLine_eq]; (try simp only [List.length_append, List.length_cons, List.length_nil, List.length_replicate, List.length_set]); omega))); intro D' h' F' N' l1; (try k_lt l1); (try k_sweep)))
local macro_rules | `(tactic| walk_at "binaryOp Mult ref int") => `(tactic| (k_here; k_dflt (refine' m_mul ?kF ?kN ?ka ?k0 ?k1 ?_; (case kF => k_asm); (case kN => k_asm); (case ka => k_mem); (case k0 => omega); (case k1 => omega)); intro D' h' F' N' l1; (try k_lt l1); (try k_sweep)))
local macro_rules | `(tactic| walk_at "call type:tuple") => `(tactic| (k_here; (with_reducible show wpAny _ _ (call (Value.type _) [Value.ref _]) _ _ _); k_dflt (refine' kde_tupleOf ?k1 ?k2 ?k3 ?k4 ?k5 ?_; (case k1 => k_asm); (case k2 => k_asm); (case k3 => exact News.isList (by k_asm) (by k_mem)); (case k4 => (rw [List.size_toArray]; omega)); (case k5 => exact List.toList_toArray)); intro D' h' F' N' l1; (try k_lt l1); (try k_sweep)))
-- TUPLES
local macro_rules | `(tactic| k_mem) => `(tactic| (show (_ : Addr × Obj) ∈ (_ : List (Addr × Obj)); with_reducible assumption))
local macro_rules | `(tactic| walk_at "call builtin:len") => `(tactic| (k_here; (with_reducible show wpAny _ _ (call (Value.builtin "len") [Value.ref _]) _ _ _); k_dflt (refine' m_lenT ?kN ?km ?kf ?_; (case kN => k_asm); (case km => k_mem); (case kf => ((try simp only [List.length_append, List.length_cons, List.length_nil]); omega)))))
local macro_rules | `(tactic| walk_at "subscriptTail") => `(tactic| (k_here; (with_reducible show wpAny _ _ (subscriptTail _ _ (Value.ref _) (Value.int _ _)) _ _ _); k_dflt (refine' m_itemT_ints ?kN ?km ?ki ?k0 ?k1 ?kf ?_; (case kN => k_asm); (case km => k_mem); (case ki => with_reducible assumption); (case k0 => omega); (case k1 => ((try simp only [natI_length]); omega)); (case kf => omega)); intro t9'))
local macro_rules | `(tactic| walk_at "call ref") => `(tactic| (k_here; (with_reducible show wpAny _ _ (call (Value.ref 45) [Value.int _ _, Value.int _ _]) _ _ _); k_dflt (refine' add_call ?kd ?ku ?kB ?kF ?kX ?kT ?kN ?_; (case kB => k_asm); (case kF => k_asm); (case kX => k_asm); (case kT => k_asm); (case kN => k_asm); (case kd => (dsimp only [Around.deeper, Around.in1]; omega)); (case ku => (dsimp only [Around.deeper, Around.in1]; omega)); intro h' tk' t' F' N'; (try dsimp only); (try k_sweep))))
local macro_rules | `(tactic| walk_at "call ref") => `(tactic| (k_here; (with_reducible show wpAny _ _ (call (Value.ref 52) [Value.int _ _, Value.int _ _]) _ _ _); k_dflt (refine' mul_call ?kd ?ku ?kB ?kF ?kX ?kT ?kN ?km ?_; (case kB => k_asm); (case kF => k_asm); (case kX => k_asm); (case kT => k_asm); (case kN => k_asm); (case kd => (dsimp only [Around.deeper, Around.in1]; omega)); (case ku => (dsimp only [Around.deeper, Around.in1]; omega)); (case km => mul_fits); intro h' tk' t' F' N'; (try dsimp only); (try k_sweep))))
local macro_rules | `(tactic| walk_at "call ref") => `(tactic| (k_here; (with_reducible show wpAny _ _ (call (Value.ref 59) [Value.int _ _]) _ _ _); k_dflt (refine' neg_call ?kd ?ku ?kB ?kF ?kX ?kT ?kN ?_; (case kB => k_asm); (case kF => k_asm); (case kX => k_asm); (case kT => k_asm); (case kN => k_asm); (case kd => (dsimp only [Around.deeper, Around.in1]; omega)); (case ku => (dsimp only [Around.deeper, Around.in1]; omega)); intro h' tk' t' F' N'; (try dsimp only); (try k_sweep))))
local macro_rules | `(tactic| walk_at "call ref") => `(tactic| (k_here; (with_reducible show wpAny _ _ (call (Value.ref 66) [Value.int _ _]) _ _ _); k_dflt (refine' pos_call ?kd ?ku ?kB ?kF ?kX ?kT ?kN ?_; (case kB => k_asm); (case kF => k_asm); (case kX => k_asm); (case kT => k_asm); (case kN => k_asm); (case kd => (dsimp only [Around.deeper, Around.in1]; omega)); (case ku => (dsimp only [Around.deeper, Around.in1]; omega)); intro h' tk' t' F' N'; (try dsimp only); (try k_sweep))))
local macro_rules | `(tactic| walk_at "call ref") => `(tactic| (k_here; (with_reducible show wpAny _ _ (call (Value.ref 73) [Value.int _ _, Value.int _ _]) _ _ _); k_dflt (refine' rshift_call ?kd ?ku ?kB ?kF ?kX ?kT ?kN ?km ?_; (case kB => k_asm); (case kF => k_asm); (case kX => k_asm); (case kT => k_asm); (case kN => k_asm); (case kd => (dsimp only [Around.deeper, Around.in1]; omega)); (case ku => (dsimp only [Around.deeper, Around.in1]; omega)); (case km => l_bnd); intro h' tk' t' F' N'; (try dsimp only); (try k_sweep))))
local macro_rules | `(tactic| walk_at "call ref") => `(tactic| (k_here; (with_reducible show wpAny _ _ (call (Value.ref 31) [Value.int _ _]) _ _ _); k_dflt (refine' isterminal_call ?kd ?ku ?kB ?kF ?kX ?kT ?kN ?_; (case kB => k_asm); (case kF => k_asm); (case kX => k_asm); (case kT => k_asm); (case kN => k_asm); (case kd => (dsimp only [Around.deeper, Around.in1]; omega)); (case ku => (dsimp only [Around.deeper, Around.in1]; omega)); intro h' tk' F' N'; (try dsimp only); (try k_sweep))))
local macro_rules | `(tactic| walk_at "call ref") => `(tactic| (k_here; (with_reducible show wpAny _ _ (call (Value.ref 38) [Value.int _ _]) _ _ _); k_dflt (refine' iseof_call ?kd ?ku ?kB ?kF ?kX ?kT ?kN ?_; (case kB => k_asm); (case kF => k_asm); (case kX => k_asm); (case kT => k_asm); (case kN => k_asm); (case kd => (dsimp only [Around.deeper, Around.in1]; omega)); (case ku => (dsimp only [Around.deeper, Around.in1]; omega)); intro h' tk' F' N'; (try dsimp only); (try k_sweep))))
local macro_rules | `(tactic| k_steps) => `(tactic| repeat' ((fail_if_success (with_reducible show wpAny _ _ (exec (Stmt.While _ _ _ _) _) _ _ _)); (fail_if_success (with_reducible show wpAny _ _ (exec (Stmt.For _ _ _ _ _) _) _ _ _)); (fail_if_success (with_reducible show wpAny _ _ (call (Value.ref 135) _) _ _ _)); (fail_if_success (with_reducible show wpAny _ _ (call (Value.ref 146) _) _ _ _)); first | ((with_reducible show wpAny _ _ (execs (_ :: _) _) _ _ _); walk1; (try (refine stmt_gen ?_; intro Q9 hQ9)); (try (refine toks_gen _ rfl ?_; intro t9; dsimp only))) | (refine above_use (by assumption) ?_; (try dsimp only)) | (k_unfold; (try dsimp only)) | (k_end; wrow_close) | walk1 | (dsimp only; walk1) | (leave1; walk_say "STEP leave1"; try dsimp only) | fail "no step"))
local macro_rules | `(tactic| walk_at "call ref") => `(tactic| (k_here; (with_reducible show wpAny _ _ (call (Value.ref 125) _) _ _ _); k_dflt (refine' less_call ?kd ?ku ?kB ?kF ?kX ?kT ?kN (WsIn.mono ?kW1 ?kS1) (WsIn.mono ?kW2 ?kS2) ?k1 ?k2 ?_; (case kB => k_asm); (case kF => k_asm); (case kX => k_asm); (case kT => k_asm); (case kN => k_asm); (case kW1 => with_reducible assumption); (case kS1 => k_sub); (case kW2 => with_reducible assumption); (case kS2 => k_sub); (case k1 => with_reducible assumption); (case k2 => with_reducible assumption); (case kd => (dsimp only [Around.deeper, Around.in1]; omega)); (case ku => (dsimp only [Around.deeper, Around.in1]; omega)); intro h' tk' F' N'; (try dsimp only); (try k_sweep))))
section
variable {w : World} {A₀ : Around} {d u : Nat} {gd : Option (List Code)} {names : List (Str × NameKind)} {ig ic : Bool} {more : List (Str × Const)} {lo gl : Addr} {ce : List (Str × Addr)} {qual : Str} {fu : Option Addr} {co : Value} {L : Addr} {bu : Addr}
  {outer : List Env} {E : Value → Shared → Prop} {s : Shared} {h₀ base : Heap} {m mg mb : Str → Option Value} {news : List (Addr × Obj)} {p : Program} {loose : List Str} {mean : ExcName → Option Value} {Q : Value → Shared → Prop}
  (hd9 : d < 450) (hu9 : u < 2000)
  (B : Below A₀ base outer h₀) (F : Fr h₀ L s.heap m) (X₀ : (hd.heap_39 w.params).In h₀) (T : Top p loose mean mg mb h₀)
include hd9 hu9 B F X₀ T

theorem worth_call {pl : Addr} {rows : List Value} {k : Nat} {rs : List (Wd × Int)} {said : Bool} (N : News h₀ L s.heap news) (hpl : (pl, listOf rows.toArray k) ∈ news) (hrows : RowsAre rows rs) (hlen : rs.length ≤ 9)
  (h : ∀ h' tk t, Fr h₀ L h' m → News h₀ L h' news → Q (.int (worthP rs) t) { s with heap := h', toks := tk }) :
  wpAny (model PySem.Challenge.rw_tl0031_01.row.prog w) (Around.mk none d (some (envM names ig ic more lo gl ce qual fu co L bu :: outer)) gd u) (call (.ref 153) [.ref pl, .bool said]) Q E s := by
  w_top off
  revert X₀
  k_fill
  intro X₀
  refine wpAny_noRaise ?_
  refine wpAny_call ?_
  have hrl : rows.length = rs.length := hrows.length
  k_enter
  k_steps
  rename Fr _ _ _ _ => F1
  rename News _ _ _ _ => N1
  obtain ⟨ll, nl, sl, t0, mm, ⟨hln, hns, hal1, hal2, hal3⟩, hpage, hsaid, hleads, hnumbers, hsums, N2, F2⟩ : ∃ (ll nl sl : Addr) (t0 : Tok) (mm : Str → Option Value), (@LT.lt Nat _ ll nl ∧ @LT.lt Nat _ nl sl ∧ AllLt ll news ∧ AllLt nl news ∧ AllLt sl news) ∧
     mm (Str.ofString "page") = some (.ref pl) ∧ mm (Str.ofString "said") = some (.bool said) ∧ mm (Str.ofString "leads") = some (.ref ll) ∧ mm (Str.ofString "numbers") = some (.ref nl) ∧ mm (Str.ofString "sums") = some (.ref sl) ∧
     News _ _ _ ((ll, listOf #[] 0) :: (nl, listOf #[] 0) :: (sl, listOf #[Value.int 0 t0] 0) :: news) ∧ Fr _ _ _ mm :=
    ⟨_, _, _, _, _, by (refine ⟨?_, ?_, ?_, ?_, ?_⟩ <;> first | exact And.left (by assumption) | exact allLt_of (by assumption) | exact And.right (by assumption) | exact And.right (And.right (by assumption))), rfl, rfl, rfl, rfl, rfl, (fun p hp => N1 p (by
      rcases List.mem_cons.mp hp with rfl | hp
      · exact List.Mem.tail _ (List.Mem.tail _ (List.Mem.head _))
      rcases List.mem_cons.mp hp with rfl | hp
      · exact List.Mem.tail _ (List.Mem.head _)
      rcases List.mem_cons.mp hp with rfl | hp
      · exact List.Mem.head _
      exact List.Mem.tail _ (List.Mem.tail _ (List.Mem.tail _ hp)))), F1⟩
  clear F1 N1
  have hmm := map_eq5 (m₀ := mm) hpage hsaid hleads hnumbers hsums (fun _ _ _ _ _ _ => rfl)
  have F3 := F2
  rw [hmm] at F3
  refine For_gen F3 ?_
  k_steps
  refine iter_listG (vs := rows) (fun i m nw => ∃ (lv nv sv : List Value) (k1 k2 k3 : Nat) (tl : List (Addr × Obj)) (st : List (Wd × Int)) (us : List Int),
      nw = (ll, listOf lv.reverse.toArray k1) :: (nl, listOf nv.reverse.toArray k2) :: (sl, listOf sv.reverse.toArray k3) :: tl ∧ OwnOff tl [ll, nl, sl] ∧ (∀ p ∈ news, p ∈ tl) ∧
      LeadsR tl lv st ∧ IntsAre nv (st.map (·.2)) ∧ IntsAre sv us ∧ NumsOk st ∧ Bnd st us (8 * i) ∧ goP (rs.drop i) st us = goP rs [] [0] ∧ ∀ z, z ≠ Str.ofString "row" → z ≠ Str.ofString "lead" → m z = mm z)
    rfl F2 N2 ?_ ?_ ?_ ?_
  · refine ⟨[], [], [.int 0 t0], 0, 0, 0, news, [], [0], rfl, ?_, fun _ hp => hp, .nil, .nil, .cons 0 t0 .nil, (fun _ hp => nomatch hp), ⟨rfl, Nat.le_refl _⟩, rfl, fun _ _ _ => rfl⟩
    intro p hp b hb
    simp only [List.mem_cons, List.not_mem_nil, or_false] at hb
    rcases hb with rfl | rfl | rfl
    · exact allLt_ne hal1 p hp
    · exact allLt_ne hal2 p hp
    · exact allLt_ne hal3 p hp
  · rintro i m' nw ⟨lv, nv, sv, k1, k2, k3, tl, st, us, rfl, -, hsub, -⟩
    exact .inr ⟨k, List.Mem.tail _ (List.Mem.tail _ (List.Mem.tail _ (hsub _ hpl)))⟩
  · rintro i v I o m₁ nw h₁ tk₁ hv ⟨lv, nv, sv, k1, k2, k3, tl, st, us, rfl, hoff, hsub, hlv, hnv, hsv, hno, hbnd, hgo, em⟩ hI hIoff F4 N4
    obtain ⟨r, tr, wd, num, rfl, hrow, hdrop⟩ := hrows.get i v hv
    have hi9 : i < rows.length := by rcases Nat.lt_or_ge i rows.length with q | q; exact q; rw [List.getElem?_eq_none q] at hv; cases hv
    have emq : ∀ {z : Str} {v : Value}, mm z = some v → z ≠ Str.ofString "row" → z ≠ Str.ofString "lead" → m₁ z = some v := fun {z v} e a b => (em z a b).trans e
    have hm4 := map_eq5 (m := m₁) (m₀ := fun z => if z = Str.ofString "row" then m₁ z else if z = Str.ofString "lead" then m₁ z else mm z) (emq hpage (by decide) (by decide)) (emq hsaid (by decide) (by decide)) (emq hleads (by decide) (by decide)) (emq hnumbers (by decide) (by decide)) (emq hsums (by decide) (by decide)) (fun z _ _ _ _ _ => looseM2 (em z))
    rw [hm4] at F4
    clear F2 F3 N2
    k_steps
    refine' ws_call ?kd ?ku ?kB ?kF ?kX ?kT ?kN hrow.len ?_
    (case kB => k_asm)
    (case kF => k_asm)
    (case kX => k_asm)
    (case kT => k_asm)
    (case kN => k_asm)
    (case kd => (dsimp only [Around.deeper, Around.in1]; omega))
    (case ku => (dsimp only [Around.deeper, Around.in1]; omega))
    intro h2 tk2 x own F5 N5 hw hsep
    rw [show Wd.run r.cps.toList Wd.zero = wd from hrow.run] at hw
    have hsmall := hrow.small
    have N6 : News _ _ h2 ((I, o) :: (ll, listOf lv.reverse.toArray k1) :: (nl, listOf nv.reverse.toArray k2) :: (sl, listOf sv.reverse.toArray k3) :: (own ++ tl)) := fun p hp => N5 p (by
      simp only [List.mem_cons, List.mem_append] at hp ⊢
      rcases hp with q | q | q | q | q | q <;> simp [q])
    have hoff2 : OwnOff (own ++ tl) [ll, nl, sl] := by
      intro p hp b hb
      rcases List.mem_append.mp hp with hp | hp
      · simp only [List.mem_cons, List.not_mem_nil, or_false] at hb
        rcases hb with rfl | rfl | rfl
        · exact Nat.ne_of_gt (hsep p hp _ (List.Mem.tail _ (List.Mem.head _)))
        · exact Nat.ne_of_gt (hsep p hp _ (List.Mem.tail _ (List.Mem.tail _ (List.Mem.head _))))
        · exact Nat.ne_of_gt (hsep p hp _ (List.Mem.tail _ (List.Mem.tail _ (List.Mem.tail _ (List.Mem.head _)))))
      · exact hoff p hp b hb
    have hIoff2 : ∀ p ∈ own ++ tl, p.1 ≠ I := by
      intro p hp
      rcases List.mem_append.mp hp with hp | hp
      · exact Nat.ne_of_gt (hsep p hp _ (List.Mem.head _))
      · exact hIoff p (List.Mem.tail _ (List.Mem.tail _ (List.Mem.tail _ hp)))
    have hIll : @Ne Nat I ll := fun e => hIoff _ (List.Mem.head _) e.symm
    have hInl : @Ne Nat I nl := fun e => hIoff _ (List.Mem.tail _ (List.Mem.head _)) e.symm
    have hIsl : @Ne Nat I sl := fun e => hIoff _ (List.Mem.tail _ (List.Mem.tail _ (List.Mem.head _))) e.symm
    have hlv2 := hlv.mono (tl' := own ++ tl) fun p hp => List.mem_append_right _ hp
    have hw2 := hw.mono (nw' := own ++ tl) fun p hp => List.mem_append_left _ hp
    have hsub2 : ∀ p ∈ news, p ∈ own ++ tl := fun p hp => List.mem_append_right _ (hsub p hp)
    generalize own ++ tl = tl2 at N6 hoff2 hIoff2 hlv2 hw2 hsub2
    clear N5 hw hsep hlv hoff
    dsimp only
    k_steps
    rename Fr _ _ _ _ => F7
    rename News _ _ _ _ => N7
    obtain ⟨mm5, hmm5, F8⟩ := fr_get F7
    refine While_invX (fun n m nw => ∃ (lv nv sv : List Value) (k1 k2 k3 : Nat) (st' : List (Wd × Int)) (us' : List Int), n = st'.length ∧
        nw = (I, o) :: (ll, listOf lv.reverse.toArray k1) :: (nl, listOf nv.reverse.toArray k2) :: (sl, listOf sv.reverse.toArray k3) :: tl2 ∧
        LeadsR tl2 lv st' ∧ IntsAre nv (st'.map (·.2)) ∧ IntsAre sv us' ∧ NumsOk st' ∧ Bnd st' us' (8 * i) ∧ popP wd st' us' = popP wd st us ∧ m = mm5)
      (fun m nw => ∃ (lv nv sv : List Value) (k1 k2 k3 : Nat) (st' : List (Wd × Int)) (us' : List Int),
        nw = (I, o) :: (ll, listOf lv.reverse.toArray k1) :: (nl, listOf nv.reverse.toArray k2) :: (sl, listOf sv.reverse.toArray k3) :: tl2 ∧
        LeadsR tl2 lv st' ∧ IntsAre nv (st'.map (·.2)) ∧ IntsAre sv us' ∧ NumsOk st' ∧ Bnd st' us' (8 * i) ∧ (st', us') = popP wd st us ∧ m = mm5)
      st.length F8 N7 ⟨lv, nv, sv, k1, k2, k3, st, us, rfl, rfl, hlv2, hnv, hsv, hno, hbnd, rfl, rfl⟩ ?_ ?_
    · clear F7 N7 F8
      rintro n m₂ nw h₃ tk₃ F9 N9 ⟨lv, nv, sv, k1, k2, k3, st', us', rfl, rfl, hlv, hnv, hsv, hno, hbnd, hpop, rfl⟩
      rw [hmm5] at F9
      rcases st' with _ | ⟨⟨l, num1⟩, st'⟩
      · cases hlv
        cases hnv
        rw [List.reverse_nil] at N9
        k_steps
        exact ExitW.intro (by assumption) (by assumption) ⟨[], [], sv, k1, k2, k3, [], us', rfl, .nil, .nil, hsv, hno, hbnd, hpop, hmm5.symm⟩
      · obtain ⟨a, b, us2, rfl⟩ := hbnd.two
        rcases hlv with _ | ⟨hwx, hsx, hlv3⟩
        rename_i x1 lv3
        simp only [List.map_cons] at hnv
        rcases hnv with _ | ⟨_, tn1, hnv3⟩
        rename_i nv3
        rcases hsv with _ | ⟨_, ta, hsv2⟩
        rcases hsv2 with _ | ⟨_, tb, hsv3⟩
        rename_i sv3
        have hnum := hno _ (List.Mem.head _)
        obtain ⟨hab1, hab2, hbnd2⟩ := hbnd.shut (by omega) hnum
        simp only [List.reverse_cons] at N9
        have hll3 : lv3.reverse.length ≤ 100 := by have q1 := hlv3.length; have q2 := hbnd2.2; rw [List.length_reverse]; omega
        have hwx2 := hwx
        obtain ⟨dx, tu, tc, cs, q1, q2, q3, q4, q5, t1, t2, t3, t4, t5, tr9, tn9, tnt9, tb9, row9, bs9, hx1, hx2, -⟩ := hwx2
        k_steps
        · rename ((_ == _) != _) = true => hc
          have hless : l.less wd = false := by revert hc; cases l.less wd <;> cases said <;> decide
          rename Fr _ _ _ _ => F10
          rename News _ _ _ _ => N10
          refine' shut_call ?kd ?ku ?kB F10 ?kX ?kT (vs := nv3.reverse) (us := sv3.reverse) (rest := (I, o) :: (ll, listOf lv3.reverse.toArray (k1 + 1)) :: tl2) (news_perm4 N10) (by omega) ?hoff hnum hab1 hab2 ?l1 ?l2 ?_
          (case kB => k_asm)
          (case kX => k_asm)
          (case kT => k_asm)
          (case kd => (dsimp only [Around.deeper, Around.in1]; omega))
          (case ku => (dsimp only [Around.deeper, Around.in1]; omega))
          (case hoff =>
            intro p hp c hc'
            simp only [List.mem_cons, List.not_mem_nil, or_false] at hc'
            rcases List.mem_cons.mp hp with rfl | hp
            · rcases hc' with rfl | rfl
              · exact hInl
              · exact hIsl
            rcases List.mem_cons.mp hp with rfl | hp
            · rcases hc' with rfl | rfl
              · exact Nat.ne_of_lt hln
              · exact Nat.ne_of_lt (Nat.lt_trans hln hns)
            · rcases hc' with rfl | rfl
              · exact hoff2 p hp _ (List.Mem.tail _ (List.Mem.head _))
              · exact hoff2 p hp _ (List.Mem.tail _ (List.Mem.tail _ (List.Mem.head _))))
          (case l1 => (have z1 := hnv3.length; have z2 := hlv3.length; rw [List.length_map] at z1; rw [List.length_reverse] at hll3 ⊢; omega))
          (case l2 => (have z1 := hsv3.length; have z2 := hbnd2.1; have z3 := hbnd2.2; simp only [List.length_cons] at z2; rw [List.length_reverse]; omega))
          intro h6 tk6 t6 k6 k7 F11 N11
          k_steps
          exact WhileStep.intro (by assumption) (news_back4 (by assumption)) (n' := st'.length) (by simp) ⟨lv3, nv3, .int (b + shutWorth num1 a) t6 :: sv3, _, _, _, st', (b + shutWorth num1 a) :: us2, rfl, (by (simp only [List.reverse_cons]; rfl)), hlv3, hnv3, .cons _ _ hsv3, (fun p hp => hno p (List.Mem.tail _ hp)), hbnd2, by rw [← hpop, popP, if_neg (by rw [hless]; decide)], hmm5.symm⟩
        · rename ((_ == _) != _) = false => hc
          have hless : l.less wd = true := by revert hc; cases l.less wd <;> cases said <;> decide
          exact ExitW.intro (by assumption) (by assumption) ⟨.ref x1 :: lv3, .int num1 tn1 :: nv3, .int a ta :: .int b tb :: sv3, k1, k2, k3, (l, num1) :: st', a :: b :: us2, (by simp only [List.reverse_cons]), .cons hwx hsx hlv3, .cons _ _ hnv3, .cons _ _ (.cons _ _ hsv3), hno, hbnd, by rw [← hpop, popP, if_pos hless], hmm5.symm⟩
        · exfalso
          rename ¬ _ < _ => hc
          rw [List.length_append] at hc
          simp only [List.length_cons, List.length_nil] at hc
          omega
    · clear F7 N7 F8
      rintro m₂ nw h₃ tk₃ F9 N9 ⟨lv, nv, sv, k1, k2, k3, st', us', rfl, hlv, hnv, hsv, hno, hbnd, hpop, rfl⟩
      rw [hmm5] at F9
      have hll3 : lv.reverse.length ≤ 100 := by have q1 := hlv.length; have q2 := hbnd.2; rw [List.length_reverse]; omega
      have hnl3 : nv.reverse.length ≤ 100 := by have q1 := hnv.length; have q2 := hbnd.2; rw [List.length_map] at q1; rw [List.length_reverse]; omega
      have hsl3 : sv.reverse.length ≤ 100 := by have q1 := hsv.length; have q2 := hbnd.2; have q3 := hbnd.1; rw [List.length_reverse]; omega
      obtain ⟨dx, tu, tc, cs, q1, q2, q3, q4, q5, t1, t2, t3, t4, t5, tr9, tn9, tnt9, tb9, row9, bs9, hx1, hx2, -⟩ := id hw2
      have hwn : wd.n ≤ 50 := hsmall.2.1
      dsimp only
      k_steps
      have hwz : (((wd.n : Nat) : Int)).toNat = wd.n := rfl
      rcases hrow.sign with ⟨hsg, rfl⟩ | ⟨hsg, rfl⟩
      · refine m_char (by omega) (by omega) (by rw [hwz]; exact hsg) ?_
        intro t'
        rw [show (⟨#[43]⟩ : Str) = Str.ofString "+" from by decide +kernel]
        dsimp only
        k_steps
        rename Fr _ _ _ _ => F12
        rename News _ _ _ _ => N12
        refine' EndG.next_same F12 N12 ?_ ⟨.ref x :: lv, .int 14 _ :: nv, .int 0 _ :: sv, _, _, _, tl2, (wd, 14) :: st', 0 :: us', (by (simp only [List.reverse_cons, List.push_toArray]; rfl)), hoff2, hsub2, .cons hw2 hsmall hlv, .cons _ _ hnv, .cons _ _ hsv, ?_, hbnd.push, (by rw [← hgo, hdrop, goP, ← hpop]), fun z z1 z2 => ?_⟩
        · intro p hp
          rcases List.mem_cons.mp hp with rfl | hp
          · exact Ne.symm hIll
          rcases List.mem_cons.mp hp with rfl | hp
          · exact Ne.symm hInl
          rcases List.mem_cons.mp hp with rfl | hp
          · exact Ne.symm hIsl
          exact hIoff2 p hp
        · intro p hp
          rcases List.mem_cons.mp hp with rfl | hp
          · exact .inl rfl
          · exact hno p hp
        · simp only [z1, z2, if_false]
          exact (congrFun hmm z).symm
      · refine m_char (by omega) (by omega) (by rw [hwz]; exact hsg) ?_
        intro t'
        rw [show (⟨#[45]⟩ : Str) = Str.ofString "-" from by decide +kernel]
        dsimp only
        k_steps
        rename Fr _ _ _ _ => F12
        rename News _ _ _ _ => N12
        refine' EndG.next_same F12 N12 ?_ ⟨.ref x :: lv, .int 15 _ :: nv, .int 0 _ :: sv, _, _, _, tl2, (wd, 15) :: st', 0 :: us', (by (simp only [List.reverse_cons, List.push_toArray]; rfl)), hoff2, hsub2, .cons hw2 hsmall hlv, .cons _ _ hnv, .cons _ _ hsv, ?_, hbnd.push, (by rw [← hgo, hdrop, goP, ← hpop]), fun z z1 z2 => ?_⟩
        · intro p hp
          rcases List.mem_cons.mp hp with rfl | hp
          · exact Ne.symm hIll
          rcases List.mem_cons.mp hp with rfl | hp
          · exact Ne.symm hInl
          rcases List.mem_cons.mp hp with rfl | hp
          · exact Ne.symm hIsl
          exact hIoff2 p hp
        · intro p hp
          rcases List.mem_cons.mp hp with rfl | hp
          · exact .inr rfl
          · exact hno p hp
        · simp only [z1, z2, if_false]
          exact (congrFun hmm z).symm
  · rintro m' nw h₁ tk₁ F4 N4 ⟨lv, nv, sv, k1, k2, k3, tl, st, us, rfl, hoff, hsub, hlv, hnv, hsv, hno, hbnd, hgo, em⟩
    rw [hrl, List.drop_eq_nil_of_le (Nat.le_refl _), goP] at hgo
    have emq : ∀ {z : Str} {v : Value}, mm z = some v → z ≠ Str.ofString "row" → z ≠ Str.ofString "lead" → m' z = some v := fun {z v} e a b => (em z a b).trans e
    have hm4 := map_eq5 (m := m') (m₀ := fun z => if z = Str.ofString "row" then m' z else if z = Str.ofString "lead" then m' z else mm z) (emq hpage (by decide) (by decide)) (emq hsaid (by decide) (by decide)) (emq hleads (by decide) (by decide)) (emq hnumbers (by decide) (by decide)) (emq hsums (by decide) (by decide)) (fun z _ _ _ _ _ => looseM2 (em z))
    rw [hm4] at F4
    clear F2 F3 N2
    dsimp only
    k_steps
    rename Fr _ _ _ _ => F7
    rename News _ _ _ _ => N7
    obtain ⟨mm5, hmm5, F8⟩ := fr_get F7
    refine While_invX (fun n m nw => ∃ (nv sv : List Value) (k2 k3 : Nat) (st' : List (Wd × Int)) (us' : List Int), n = st'.length ∧
        nw = (ll, listOf lv.reverse.toArray k1) :: (nl, listOf nv.reverse.toArray k2) :: (sl, listOf sv.reverse.toArray k3) :: tl ∧
        IntsAre nv (st'.map (·.2)) ∧ IntsAre sv us' ∧ NumsOk st' ∧ Bnd st' us' 96 ∧ closeP st' us' = goP rs [] [0] ∧ m = mm5)
      (fun m nw => ∃ (sv : List Value) (k2 k3 : Nat) (nv : List Value) (us' : List Int),
        nw = (ll, listOf lv.reverse.toArray k1) :: (nl, listOf nv.reverse.toArray k2) :: (sl, listOf sv.reverse.toArray k3) :: tl ∧
        IntsAre sv us' ∧ us'.length = 1 ∧ us' = goP rs [] [0] ∧ m = mm5)
      st.length F8 N7 ⟨nv, sv, k2, k3, st, us, rfl, rfl, hnv, hsv, hno, hbnd.mono (by omega), hgo, rfl⟩ ?_ ?_
    · clear F7 N7 F8 hbnd hnv hsv hgo hno
      rintro n m₂ nw h₃ tk₃ F9 N9 ⟨nv, sv, k2, k3, st', us', rfl, rfl, hnv, hsv, hno, hbnd, hgo, rfl⟩
      rw [hmm5] at F9
      rcases st' with _ | ⟨⟨l, num1⟩, st'⟩
      · cases hnv
        rw [List.reverse_nil] at N9
        k_steps
        exact ExitW.intro (by assumption) (by assumption) ⟨sv, k2, k3, [], us', rfl, hsv, hbnd.1, hgo, hmm5.symm⟩
      · obtain ⟨a, b, us2, rfl⟩ := hbnd.two
        simp only [List.map_cons] at hnv
        rcases hnv with _ | ⟨_, tn1, hnv3⟩
        rename_i nv3
        rcases hsv with _ | ⟨_, ta, hsv2⟩
        rcases hsv2 with _ | ⟨_, tb, hsv3⟩
        rename_i sv3
        have hnum := hno _ (List.Mem.head _)
        obtain ⟨hab1, hab2, hbnd2⟩ := hbnd.shut (by omega) hnum
        simp only [List.reverse_cons] at N9
        have hnl3 : nv3.reverse.length ≤ 100 := by have z1 := hnv3.length; have z2 := hbnd2.2; rw [List.length_map] at z1; rw [List.length_reverse]; omega
        k_steps
        · rename Fr _ _ _ _ => F10
          rename News _ _ _ _ => N10
          refine' shut_call ?kd ?ku ?kB F10 ?kX ?kT (vs := nv3.reverse) (us := sv3.reverse) (rest := (ll, listOf lv.reverse.toArray k1) :: tl) (news_rot3 N10) (by omega) ?hoff hnum hab1 hab2 hnl3 ?l2 ?_
          (case kB => k_asm)
          (case kX => k_asm)
          (case kT => k_asm)
          (case kd => (dsimp only [Around.deeper, Around.in1]; omega))
          (case ku => (dsimp only [Around.deeper, Around.in1]; omega))
          (case hoff =>
            intro p hp c hc'
            simp only [List.mem_cons, List.not_mem_nil, or_false] at hc'
            rcases List.mem_cons.mp hp with rfl | hp
            · rcases hc' with rfl | rfl
              · exact Nat.ne_of_lt hln
              · exact Nat.ne_of_lt (Nat.lt_trans hln hns)
            · rcases hc' with rfl | rfl
              · exact hoff p hp _ (List.Mem.tail _ (List.Mem.head _))
              · exact hoff p hp _ (List.Mem.tail _ (List.Mem.tail _ (List.Mem.head _))))
          (case l2 => (have z1 := hsv3.length; have z2 := hbnd2.1; have z3 := hbnd2.2; simp only [List.length_cons] at z2; rw [List.length_reverse]; omega))
          intro h6 tk6 t6 k6 k7 F11 N11
          k_steps
          exact WhileStep.intro (by assumption) (news_torn3 (by assumption)) (n' := st'.length) (by simp) ⟨nv3, .int (b + shutWorth num1 a) t6 :: sv3, _, _, st', (b + shutWorth num1 a) :: us2, rfl, (by (simp only [List.reverse_cons]; rfl)), hnv3, .cons _ _ hsv3, (fun p hp => hno p (List.Mem.tail _ hp)), hbnd2, by rw [← hgo, closeP], hmm5.symm⟩
        · exfalso
          rename ¬ _ > _ => hc
          rw [List.length_append] at hc
          simp only [List.length_cons, List.length_nil] at hc
          omega
    · clear F7 N7 F8
      rintro m₂ nw h₃ tk₃ F9 N9 ⟨sv, k2, k3, nv, us', rfl, hsv, hl1, hres, rfl⟩
      rw [hmm5] at F9
      dsimp only
      rcases us' with _ | ⟨a, _ | ⟨b, r⟩⟩
      · simp at hl1
      · rcases hsv with _ | ⟨_, ta, hsv2⟩
        cases hsv2
        rw [show [Value.int a ta].reverse = [Value.int a ta] from rfl] at N9
        k_steps
        have e9 : ([a].getD (Int.toNat 0) 0) = worthP rs := by unfold worthP; rw [← hres]; rfl
        rw [e9]
        rename News h₀ L _ _ => kN
        exact h _ _ _ (by assumption) (fun p hp => kN p (List.Mem.tail _ (List.Mem.tail _ (List.Mem.tail _ (hsub p hp)))))
      · simp at hl1
end
end Mine

end
section
open PySem PySem.W PyProof.Rows
set_option maxRecDepth 100000
set_option Elab.async false
set_option maxHeartbeats 8000000
namespace Mine
local macro_rules | `(tactic| omega) => `(tactic| first | lia | omega +splitDisjunctions)
local macro_rules | `(tactic| k_room) => `(tactic| ((try simp only [depth_under_make, depth_under_kw, depth_in1, depth_deeper, depth_caller]); (have hR9 : recursionLimit = 1000 := rfl); omega))
local macro_rules | `(tactic| k_steps) => `(tactic| repeat' ((fail_if_success (with_reducible show wpAny _ _ (exec (Stmt.While _ _ _ _) _) _ _ _)); (fail_if_success (with_reducible show wpAny _ _ (exec (Stmt.For _ _ _ _ _) _) _ _ _)); first | (k_unfold; (try dsimp only)) | (k_end; wrow_close) | walk1 | (dsimp only; walk1) | (leave1; walk_say "STEP leave1"; try dsimp only) | fail "no step"))

structure Sp where
  x : Str
  here : Int
  low : Option Int
  high : Option Int
noncomputable def Sp.step (worth : Int) (st : Sp) : Sp :=
  if st.here < worth then
    ⟨st.x ++ Str.ofString "+", (match st.high with | none => st.here + 8 | some hi => Int.fdiv (st.here + hi) 2), some st.here, st.high⟩
  else ⟨st.x ++ Str.ofString "-", (match st.low with | none => st.here - 8 | some lo => Int.fdiv (st.here + lo) 2), st.low, some st.here⟩
noncomputable def Sp.run (worth : Int) : Nat → Sp → Option Str
  | 0, _ => none
  | n + 1, st => if st.here = worth then some st.x else Sp.run worth n (st.step worth)
noncomputable def OptV (v : Value) : Option Int → Prop
  | none => v = .none
  | some k => ∃ t, v = .int k t

theorem Sp.run_done {i : Int} {st : Sp} {res : Str} : ∀ {n : Nat}, Sp.run i n st = some res → ¬ st.here ≠ i → res = st.x
  | 0, h, _ => nomatch h
  | n + 1, h, e => by
    unfold Sp.run at h
    rw [if_pos (Decidable.of_not_not e)] at h
    exact (Option.some.inj h).symm
theorem Sp.run_step {i : Int} {st : Sp} {res : Str} : ∀ {n : Nat}, Sp.run i n st = some res → st.here ≠ i → ∃ n', n = n' + 1 ∧ Sp.run i n' (st.step i) = some res
  | 0, h, _ => nomatch h
  | n + 1, h, e => by
    unfold Sp.run at h
    rw [if_neg e] at h
    exact ⟨n, rfl, h⟩
theorem Sp.half {a b : Int} (ha : -108 ≤ a ∧ a ≤ 108) (hb : -108 ≤ b ∧ b ≤ 108) : -108 ≤ Int.fdiv (a + b) 2 ∧ Int.fdiv (a + b) 2 ≤ 108 := by
  rw [Int.fdiv_eq_ediv_of_nonneg _ (by decide)]
  omega

theorem spelled_call {w : World} {A₀ : Around} {d u : Nat} {gd : Option (List Code)} {names : List (Str × NameKind)} {ig ic : Bool} {more : List (Str × Const)} {lo gl : Addr} {ce : List (Str × Addr)} {qual : Str} {fu : Option Addr} {co : Value} {L : Addr} {bu : Addr}
  {outer : List Env} {E : Value → Shared → Prop} {s : Shared} {h₀ base : Heap} {m mg mb : Str → Option Value} {news : List (Addr × Obj)} {p : Program} {loose : List Str} {mean : ExcName → Option Value} {Q : Value → Shared → Prop}
  {i : Int} {t : Tok} {res : Str}
  (hd9 : d < 600) (hu9 : u < 3000)
  (B : Below A₀ base outer h₀) (F : Fr h₀ L s.heap m) (X₀ : (hd.heap_39 w.params).In h₀) (N : News h₀ L s.heap news) (T : Top p loose mean mg mb h₀)
  (hi : -100 ≤ i ∧ i ≤ 100) (hres : Sp.run i 9 ⟨Str.ofString "", 0, none, none⟩ = some res)
  (h : ∀ h' tk t', Fr h₀ L h' m → News h₀ L h' news → Q (.str res t') { s with heap := h', toks := tk }) :
  wpAny (model PySem.Challenge.rw_tl0031_01.row.prog w) (Around.mk none d (some (envM names ig ic more lo gl ce qual fu co L bu :: outer)) gd u) (call (.ref 160) [.int i t]) Q E s := by
  w_top off
  revert X₀
  k_fill
  intro X₀
  refine wpAny_noRaise ?_
  refine wpAny_call ?_
  k_enter
  k_steps
  refine wpAny_noRaise ?_
  rename Fr _ _ _ _ => F1
  rename News _ _ _ _ => N1
  refine' While_inv (fun n m nw => nw = news ∧ ∃ st : Sp, st.x.length + n ≤ 9 ∧ (-108 ≤ st.here ∧ st.here ≤ 108) ∧ (∀ k, st.low = some k → -108 ≤ k ∧ k ≤ 108) ∧ (∀ k, st.high = some k → -108 ≤ k ∧ k ≤ 108) ∧ Sp.run i n st = some res ∧
      (∃ t, m (Str.ofString "spelled") = some (.str st.x t)) ∧ (∃ t, m (Str.ofString "here") = some (.int st.here t)) ∧ (∃ v, m (Str.ofString "low") = some v ∧ OptV v st.low) ∧ (∃ v, m (Str.ofString "high") = some v ∧ OptV v st.high) ∧
      ∀ z, z ≠ Str.ofString "spelled" → z ≠ Str.ofString "here" → z ≠ Str.ofString "low" → z ≠ Str.ofString "high" → m z = List.lookup z [(Str.ofString "worth", Value.int i t)])
    (n₀ := 9) F1 N1 ?_ ?_ PassesOwn.never
  · refine ⟨rfl, ⟨_, 0, none, none⟩, by decide, by decide, (fun _ e => nomatch e), (fun _ e => nomatch e), hres, ⟨_, rfl⟩, ⟨_, rfl⟩, ⟨_, rfl, rfl⟩, ⟨_, rfl, rfl⟩, ?_⟩
    intro z h1 h2 h3 h4
    simp only [h1, h2, h3, h4, if_false]
    rfl
  · rintro n m₁ nw h₁ tk₁ F2 N2 ⟨rfl, ⟨x, here, low, high⟩, hx, hb, hbl, hbh, hr, ⟨t1, e1⟩, ⟨t2, e2⟩, ⟨vlo, e3, hlo⟩, ⟨vhi, e4, hhi⟩, em⟩
    have em := map_eq4 e1 e2 e3 e4 em
    subst em
    dsimp only at hx hb hr hlo hhi hbl hbh F2
    clear F1 N1 e1 e2 e3 e4
    rcases low with _ | lo <;> rcases high with _ | hi' <;> (try obtain ⟨tlo, rfl⟩ := hlo) <;> (try obtain ⟨thi, rfl⟩ := hhi) <;> (try (have hlo' : vlo = Value.none := hlo; subst hlo'; clear hlo)) <;> (try (have hhi' : vhi = Value.none := hhi; subst hhi'; clear hhi)) <;> (try have hbl := hbl _ rfl) <;> (try have hbh := hbh _ rfl)
    all_goals k_steps
    all_goals first
      | (have hq := Sp.run_done hr (by dsimp only; omega); subst hq; exact h _ _ _ (by assumption) (by assumption))
      | (rename _ ≠ _ => ne
         obtain ⟨n', rfl, hr'⟩ := Sp.run_step hr ne
         (first | (rename ¬ _ < _ => lt9; simp only [Sp.step, if_neg lt9] at hr') | (rename _ < _ => lt9; simp only [Sp.step, if_pos lt9] at hr'))
         have hl1 : (Str.ofString "+").length = 1 := by decide +kernel
         have hl2 : (Str.ofString "-").length = 1 := by decide +kernel
         refine WhileStep.intro (by assumption) (by assumption) (n' := n') (by omega) ⟨rfl, _, ?_, ?_, ?_, ?_, hr', ⟨_, rfl⟩, ⟨_, rfl⟩, ⟨_, rfl, ?_⟩, ⟨_, rfl, ?_⟩, ?_⟩
         · dsimp only; omega
         · dsimp only; first | omega | exact Sp.half (by assumption) (by assumption)
         · intro k hk; dsimp only at hk; first | (cases hk; done) | (cases hk; first | assumption | omega)
         · intro k hk; dsimp only at hk; first | (cases hk; done) | (cases hk; first | assumption | omega)
         · first | exact rfl | exact ⟨_, rfl⟩
         · first | exact rfl | exact ⟨_, rfl⟩
         · intro z h1 h2 h3 h4; simp only [h1, h2, h3, h4, if_false])
end Mine

end
section
open PySem PySem.W PyProof.Rows
set_option maxRecDepth 100000
set_option Elab.async false
set_option maxHeartbeats 2000000
set_option linter.unusedVariables false
set_option linter.unusedSectionVars false
namespace Mine
local macro_rules | `(tactic| walk_at "walkpad0") => `(tactic| skip)
local macro_rules | `(tactic| walk_at "walkpad1") => `(tactic| skip)
local macro_rules | `(tactic| walk_at "walkpad2") => `(tactic| skip)
local macro_rules | `(tactic| omega) => `(tactic| first | lia | omega +splitDisjunctions)
local macro_rules | `(tactic| k_room) => `(tactic| ((try simp only [depth_under_make, depth_under_kw, depth_in1, depth_deeper, depth_caller]); (have hR9 : recursionLimit = 1000 := rfl); omega))
local macro_rules | `(tactic| k_steps) => `(tactic| repeat' ((fail_if_success (with_reducible show wpAny _ _ (exec (Stmt.While _ _ _ _) _) _ _ _)); (fail_if_success (with_reducible show wpAny _ _ (exec (Stmt.For _ _ _ _ _) _) _ _ _)); first | (k_unfold; (try dsimp only)) | (k_end; wrow_close) | walk1 | (dsimp only; walk1) | (leave1; walk_say "STEP leave1"; try dsimp only) | fail "no step"))
local macro_rules | `(tactic| walk_at "call builtin:list.pop") => `(tactic| (k_here; k_dflt (refine' kl_pop ?F ?N ?e ?U ?z ?_; (case F => k_asm); (case N => k_asm); (case U => k_upd); (case e => exact kl_last_snoc _ _); (case z => (simp only [List.length_append, List.length_cons, List.length_nil, sizeLine_eq]; omega))); kl_rest))
local macro_rules | `(tactic| k_all) => `(tactic| (refine allLt_ne ?_; first | assumption | exact And.right (by assumption) | exact And.right (And.right (by assumption)) | exact And.right (And.right (And.right (by assumption))) | exact And.right (And.right (And.right (And.right (by assumption)))) | exact And.right (And.right (And.right (And.right (And.right (by assumption))))) | exact And.right (And.right (And.right (And.right (And.right (And.right (by assumption))))))))
-- LISTS
local macro_rules | `(tactic| walk_at "call builtin:len") => `(tactic| (k_here; (with_reducible show wpAny _ _ (call (Value.builtin "len") [Value.ref _]) _ _ _); k_dflt (refine' m_len ?kN ?km ?kf ?_; (case kN => k_asm); (case km => k_mem); (case kf => ((try simp only [List.length_append, List.length_cons, List.length_nil, List.length_replicate, List.length_set]); omega)))))
local macro_rules | `(tactic| walk_at "subscriptTail") => `(tactic| (k_here; (with_reducible show wpAny _ _ (subscriptTail _ _ (Value.ref _) (Value.int (-1) _)) _ _ _); k_dflt (refine' m_last ?kN ?km ?kf ?_; (case kN => k_asm); (case km => k_mem); (case kf => omega))))
local macro_rules | `(tactic| walk_at "subscriptTail") => `(tactic| (k_here; (with_reducible show wpAny _ _ (subscriptTail _ _ (Value.ref _) (Value.int _ _)) _ _ _); k_dflt (refine' m_item_ints ?kN ?km ?ki ?k0 ?k1 ?kf ?_; (case kN => k_asm); (case km => k_mem); (case ki => first | with_reducible assumption | exact IntsAre.append (by with_reducible assumption) (intsAre_rep _ _ _)); (case k0 => omega); (case k1 => ((try simp only [List.length_append, List.length_replicate, natI_length]); omega)); (case kf => omega)); intro t9'))
local macro_rules | `(tactic| walk_at "setItem ref int") => `(tactic| (k_here; k_dflt (refine' m_set ?kF ?kN ?k0 ?k1 ?kf ?kU ?_; (case kF => k_asm); (case kN => k_asm); (case kU => k_upd); (case k0 => omega); (case k1 => ((try simp only [List.length_append, List.length_cons, List.length_nil, List.length_replicate, List.length_set]); omega)); (case kf => omega)); intro h' F' N'; (try dsimp only at N'); (try k_sweep)))
local macro_rules | `(tactic| walk_at "binaryOp Add ref ref") => `(tactic| (k_here; k_dflt (refine' m_add ?kF ?kN ?ka ?kb ?kz ?_; (case kF => k_asm); (case kN => k_asm); (case ka => k_mem); (case kb => k_mem); (case kz => (rw [sizeLine_eq]; (try simp only [List.length_append, List.length_cons, List.length_nil, List.length_replicate, List.length_set]); omega))); intro D' h' F' N' l1; (try k_lt l1); (try k_sweep)))
local macro_rules | `(tactic| walk_at "binaryOp Mult ref int") => `(tactic| (k_here; k_dflt (refine' m_mul ?kF ?kN ?ka ?k0 ?k1 ?_; (case kF => k_asm); (case kN => k_asm); (case ka => k_mem); (case k0 => omega); (case k1 => omega)); intro D' h' F' N' l1; (try k_lt l1); (try k_sweep)))
local macro_rules | `(tactic| walk_at "call type:tuple") => `(tactic| (k_here; (with_reducible show wpAny _ _ (call (Value.type _) [Value.ref _]) _ _ _); k_dflt (refine' kde_tupleOf ?k1 ?k2 ?k3 ?k4 ?k5 ?_; (case k1 => k_asm); (case k2 => k_asm); (case k3 => exact News.isList (by k_asm) (by k_mem)); (case k4 => (rw [List.size_toArray]; omega)); (case k5 => exact List.toList_toArray)); intro D' h' F' N' l1; (try k_lt l1); (try k_sweep)))

noncomputable def colStep (size : Nat) (c : Nat) (ch : Nat) : Nat := if ch = 32 then c + 1 else c + size - c % size
noncomputable def colN (size : Nat) (l : List Nat) : Nat := l.foldl (colStep size) 0
theorem colStep_le {size c ch : Nat} (h : 1 ≤ size) : colStep size c ch ≤ c + size := by
  unfold colStep; split <;> omega
theorem colN_le {size : Nat} (h : 1 ≤ size) (l : List Nat) : colN size l ≤ size * l.length := by
  have : ∀ (l : List Nat) (c : Nat), l.foldl (colStep size) c ≤ c + size * l.length := by
    intro l
    induction l with
    | nil => intro c; simp
    | cons a r ih =>
      intro c
      have h1 := ih (colStep size c a)
      have h2 := colStep_le (size := size) (c := c) (ch := a) h
      simp only [List.foldl_cons, List.length_cons, Nat.mul_add, Nat.mul_one]
      omega
  simpa [colN] using this l 0
noncomputable def colsN (l : List Nat) (k : Nat) : List Nat := (List.range k).map fun j => colN (j + 1) l
section
variable {w : World} {A₀ : Around} {d u : Nat} {gd : Option (List Code)} {names : List (Str × NameKind)} {ig ic : Bool} {more : List (Str × Const)} {lo gl : Addr} {ce : List (Str × Addr)} {qual : Str} {fu : Option Addr} {co : Value} {L : Addr} {bu : Addr}
  {outer : List Env} {E : Value → Shared → Prop} {s : Shared} {h₀ base : Heap} {m mg mb : Str → Option Value} {news : List (Addr × Obj)} {p : Program} {loose : List Str} {mean : ExcName → Option Value} {Q : Value → Shared → Prop}
  (hd9 : d < 600) (hu9 : u < 3000)
  (B : Below A₀ base outer h₀) (F : Fr h₀ L s.heap m) (X₀ : (hd.heap_39 w.params).In h₀) (T : Top p loose mean mg mb h₀)
include hd9 hu9 B F X₀ T

theorem columns_call {x : Str} {tx : Tok} (N : News h₀ L s.heap news) (hlen : x.length ≤ 10)
  (h : ∀ h' tk cl vs k, Fr h₀ L h' m → News h₀ L h' ((cl, listOf vs.toArray k) :: news) → (∀ p ∈ news, @LT.lt Nat _ p.1 cl) → IntsAre vs (natI (colsN x.cps.toList 8)) → Q (.ref cl) { s with heap := h', toks := tk }) :
  wpAny (model PySem.Challenge.rw_tl0031_01.row.prog w) (Around.mk none d (some (envM names ig ic more lo gl ce qual fu co L bu :: outer)) gd u) (call (.ref 167) [.str x tx]) Q E s := by
  w_top off
  revert X₀
  k_fill
  intro X₀
  refine wpAny_noRaise ?_
  refine wpAny_call ?_
  k_enter
  k_steps
  rename Fr _ _ _ _ => F1
  rename News _ _ _ _ => N1
  obtain ⟨cl, mm, hal, hlead, hcols, N2, F2⟩ : ∃ (cl : Addr) (mm : Str → Option Value), AllLt cl news ∧ mm (Str.ofString "lead") = some (.str x tx) ∧ mm (Str.ofString "columns") = some (.ref cl) ∧
     News _ _ _ ((cl, listOf #[] 0) :: news) ∧ Fr _ _ _ mm := ⟨_, _, by first | assumption | exact allLt_of (by assumption), rfl, rfl, N1, F1⟩
  clear F1 N1
  have hmm := map_eq2 (m₀ := mm) hlead hcols (fun _ _ _ => rfl)
  have F3 := F2
  rw [hmm] at F3
  refine For_gen F3 ?_
  k_steps
  rename IsRange _ _ _ _ _ _ _ _ => RG
  rename Fr _ _ _ _ => F4
  rename News _ _ _ _ => N4
  obtain ⟨mm4, hmm4, F5⟩ := fr_get F4
  have hmm4' : mm4 = mm := by rw [hmm4, ← hmm]
  subst hmm4'
  refine iter_rangeG (n := 8) (fun i m nw => ∃ (vs : List Value) (k : Nat), nw = (cl, listOf vs.toArray k) :: news ∧ IntsAre vs (natI (colsN x.cps.toList i)) ∧ ∀ z, z ≠ Str.ofString "size" → z ≠ Str.ofString "column" → z ≠ Str.ofString "sign" → m z = mm4 z)
    rfl RG (by decide) (by decide) F5 N4 ⟨[], 0, rfl, .nil, fun _ _ _ _ => rfl⟩ ?_ ?_
  · rintro i t I o m₁ nw h₁ tk₁ hi ⟨vs, k, rfl, hvs, em⟩ hI hIoff F6 N6
    have hm4 := map_eq2 (m := m₁) (m₀ := fun z => if z = Str.ofString "size" then m₁ z else if z = Str.ofString "column" then m₁ z else if z = Str.ofString "sign" then m₁ z else mm4 z)
      ((em _ (by decide) (by decide) (by decide)).trans hlead) ((em _ (by decide) (by decide) (by decide)).trans hcols) (fun z _ _ => looseM3 (em z))
    rw [hm4] at F6
    clear F4 F5 N4
    k_steps
    rename Fr _ _ _ _ => F7
    refine For_gen F7 ?_
    k_steps
    rename Fr _ _ _ _ => F7
    obtain ⟨mm5, hmm5, F8⟩ := fr_get F7
    rename News _ _ _ _ => N8
    have hIcl : @Ne Nat I cl := fun e => hIoff _ (List.Mem.head _) e.symm
    refine iter_strG (fun j m nw => nw = (I, o) :: (cl, listOf vs.toArray k) :: news ∧ (∃ t, m (Str.ofString "column") = some (.int (((x.cps.toList.take j).foldl (colStep (i + 1)) 0 : Nat)) t)) ∧ ∀ z, z ≠ Str.ofString "column" → z ≠ Str.ofString "sign" → m z = mm5 z)
      rfl F8 N8 ⟨rfl, ⟨_, by rw [hmm5]; rfl⟩, fun _ _ _ => rfl⟩ ?_ ?_
    · clear F7 N8 F8
      rintro j c tc I2 o2 m₂ nw h₂ tk₂ hc ⟨rfl, ⟨t2, e2⟩, em2⟩ hI2 hI2off F9 N9
      have hm5 := map_eq1 (m₀ := fun z => if z = Str.ofString "sign" then m₂ z else mm5 z) e2 (fun z z1 => looseM (em2 z z1))
      rw [hm5, hmm5] at F9
      have hsz : ((1 : Int) + ((i : Nat) : Int)) = ((i + 1 : Nat) : Int) := by omega
      have hfm : Int.fmod (((x.cps.toList.take j).foldl (colStep (i + 1)) 0 : Nat) : Int) (1 + ((i : Nat) : Int)) = ((((x.cps.toList.take j).foldl (colStep (i + 1)) 0) % (i + 1) : Nat) : Int) := by rw [hsz, fmodN]
      have hlt : ((x.cps.toList.take j).foldl (colStep (i + 1)) 0) % (i + 1) < i + 1 := Nat.mod_lt _ (by omega)
      generalize hcv : (x.cps.toList.take j).foldl (colStep (i + 1)) 0 = cv at F9 hfm hlt
      have hst : ((x.cps.toList.take (j + 1)).foldl (colStep (i + 1)) 0) = colStep (i + 1) cv c := by rw [take_snoc hc, List.foldl_append, hcv]; rfl
      k_steps
      · rename (_ == Str.ofString " ") = true => e1
        have e1 := sign_true (k := 32) (by decide +kernel) e1
        rename Fr _ _ _ _ => F10
        rename News _ _ _ _ => N10
        refine' EndG.next_same F10 N10 hI2off ⟨rfl, ⟨_, ?_⟩, fun z z1 z2 => ?_⟩
        rotate_left
        · rw [hst, show colStep (i + 1) cv c = cv + 1 from by unfold colStep; rw [if_pos e1]]; rfl
        · simp only [z1, z2, if_false, hmm5]
      · rename (_ == Str.ofString " ") = false => e1
        have e1 := sign_false (k := 32) (by decide +kernel) e1
        rename Fr _ _ _ _ => F10
        rename News _ _ _ _ => N10
        refine' EndG.next_same F10 N10 hI2off ⟨rfl, ⟨_, ?_⟩, fun z z1 z2 => ?_⟩
        rotate_left
        · rw [hst, show colStep (i + 1) cv c = cv + (i + 1) - cv % (i + 1) from by unfold colStep; rw [if_neg e1], show ((cv + (i + 1) - cv % (i + 1) : Nat) : Int) = (cv : Int) + (1 + (i : Int)) - Int.fmod (cv : Int) (1 + (i : Int)) from by rw [hfm]; omega]
          rfl
        · simp only [z1, z2, if_false, hmm5]
    · clear F7 N8 F8
      rintro m₂ nw h₂ tk₂ F9 N9 ⟨rfl, ⟨t2, e2⟩, em2⟩
      have hm5 := map_eq1 (m₀ := fun z => if z = Str.ofString "sign" then m₂ z else mm5 z) e2 (fun z z1 => looseM (em2 z z1))
      rw [hm5, hmm5] at F9
      have hvl : vs.length ≤ 10 := by have q := hvs.length; rw [natI_length] at q; unfold colsN at q; rw [List.length_map, List.length_range] at q; omega
      dsimp only
      k_steps
      rename Fr _ _ _ _ => F10
      rename News _ _ _ _ => N10
      refine' EndG.next_same F10 N10 ?_ ⟨vs ++ [_], _, (by rw [List.push_toArray]), ?_, fun z z1 z2 z3 => ?_⟩
      · intro p hp
        rcases List.mem_cons.mp hp with rfl | hp
        · exact Ne.symm hIcl
        · exact hIoff p (List.Mem.tail _ hp)
      · have e9 : colsN x.cps.toList (i + 1) = colsN x.cps.toList i ++ [colN (i + 1) x.cps.toList] := by
          unfold colsN; rw [List.range_succ, List.map_append]; rfl
        have e8 : (x.cps.toList.take x.cps.size).foldl (colStep (i + 1)) 0 = colN (i + 1) x.cps.toList := by
          rw [List.take_of_length_le (by simp)]; rfl
        rw [e9, natI_append, e8]
        exact IntsAre.append hvs (.cons _ _ .nil)
      · simp only [z1, z2, z3, if_false]
        exact (congrFun hmm z).symm
  · rintro m' nw h₁ tk₁ F6 N6 ⟨vs, k, rfl, hvs, em⟩
    have hm4 := map_eq2 (m := m') (m₀ := fun z => if z = Str.ofString "size" then m' z else if z = Str.ofString "column" then m' z else if z = Str.ofString "sign" then m' z else mm4 z)
      ((em _ (by decide) (by decide) (by decide)).trans hlead) ((em _ (by decide) (by decide) (by decide)).trans hcols) (fun z _ _ => looseM3 (em z))
    rw [hm4] at F6
    clear F4 F5 N4
    dsimp only
    k_steps
    exact h _ _ _ _ _ (by assumption) (by assumption) (fun p hp => allLt_mem hal p hp) hvs
end
end Mine

end
section
open PySem PySem.W PyProof.Rows
set_option maxRecDepth 100000
set_option Elab.async false
set_option maxHeartbeats 2000000
set_option linter.unusedVariables false
set_option linter.unusedSectionVars false
namespace Mine
local macro_rules | `(tactic| omega) => `(tactic| first | lia | omega +splitDisjunctions)
local macro_rules | `(tactic| k_room) => `(tactic| ((try simp only [depth_under_make, depth_under_kw, depth_in1, depth_deeper, depth_caller]); (have hR9 : recursionLimit = 1000 := rfl); omega))
local macro_rules | `(tactic| k_steps) => `(tactic| repeat' ((fail_if_success (with_reducible show wpAny _ _ (exec (Stmt.While _ _ _ _) _) _ _ _)); (fail_if_success (with_reducible show wpAny _ _ (exec (Stmt.For _ _ _ _ _) _) _ _ _)); first | (k_unfold; (try dsimp only)) | (k_end; wrow_close) | walk1 | (dsimp only; walk1) | (leave1; walk_say "STEP leave1"; try dsimp only) | fail "no step"))
local macro_rules | `(tactic| walk_at "call builtin:list.pop") => `(tactic| (k_here; k_dflt (refine' kl_pop ?F ?N ?e ?U ?z ?_; (case F => k_asm); (case N => k_asm); (case U => k_upd); (case e => exact kl_last_snoc _ _); (case z => (simp only [List.length_append, List.length_cons, List.length_nil, sizeLine_eq]; omega))); kl_rest))
local macro_rules | `(tactic| k_all) => `(tactic| (refine allLt_ne ?_; first | assumption | exact And.right (by assumption) | exact And.right (And.right (by assumption)) | exact And.right (And.right (And.right (by assumption))) | exact And.right (And.right (And.right (And.right (by assumption)))) | exact And.right (And.right (And.right (And.right (And.right (by assumption))))) | exact And.right (And.right (And.right (And.right (And.right (And.right (by assumption))))))))
-- LISTS
local macro_rules | `(tactic| walk_at "call builtin:len") => `(tactic| (k_here; (with_reducible show wpAny _ _ (call (Value.builtin "len") [Value.ref _]) _ _ _); k_dflt (refine' m_len ?kN ?km ?kf ?_; (case kN => k_asm); (case km => k_mem); (case kf => ((try simp only [List.length_append, List.length_cons, List.length_nil, List.length_replicate, List.length_set]); omega)))))
local macro_rules | `(tactic| walk_at "subscriptTail") => `(tactic| (k_here; (with_reducible show wpAny _ _ (subscriptTail _ _ (Value.ref _) (Value.int (-1) _)) _ _ _); k_dflt (refine' m_last ?kN ?km ?kf ?_; (case kN => k_asm); (case km => k_mem); (case kf => omega))))
local macro_rules | `(tactic| walk_at "subscriptTail") => `(tactic| (k_here; (with_reducible show wpAny _ _ (subscriptTail _ _ (Value.ref _) (Value.int _ _)) _ _ _); k_dflt (refine' m_item_ints ?kN ?km ?ki ?k0 ?k1 ?kf ?_; (case kN => k_asm); (case km => k_mem); (case ki => first | with_reducible assumption | exact IntsAre.append (by with_reducible assumption) (intsAre_rep _ _ _)); (case k0 => omega); (case k1 => ((try simp only [List.length_append, List.length_replicate, natI_length]); omega)); (case kf => omega)); intro t9'))
local macro_rules | `(tactic| walk_at "setItem ref int") => `(tactic| (k_here; k_dflt (refine' m_set ?kF ?kN ?k0 ?k1 ?kf ?kU ?_; (case kF => k_asm); (case kN => k_asm); (case kU => k_upd); (case k0 => omega); (case k1 => ((try simp only [List.length_append, List.length_cons, List.length_nil, List.length_replicate, List.length_set]); omega)); (case kf => omega)); intro h' F' N'; (try dsimp only at N'); (try k_sweep)))
local macro_rules | `(tactic| walk_at "binaryOp Add ref ref") => `(tactic| (k_here; k_dflt (refine' m_add ?kF ?kN ?ka ?kb ?kz ?_; (case kF => k_asm); (case kN => k_asm); (case ka => k_mem); (case kb => k_mem); (case kz => (rw [sizeLine_eq]; (try simp only [List.length_append, List.length_cons, List.length_nil, List.length_replicate, List.length_set]); omega))); intro D' h' F' N' l1; (try k_lt l1); (try k_sweep)))
local macro_rules | `(tactic| walk_at "binaryOp Mult ref int") => `(tactic| (k_here; k_dflt (refine' m_mul ?kF ?kN ?ka ?k0 ?k1 ?_; (case kF => k_asm); (case kN => k_asm); (case ka => k_mem); (case k0 => omega); (case k1 => omega)); intro D' h' F' N' l1; (try k_lt l1); (try k_sweep)))
local macro_rules | `(tactic| walk_at "call type:tuple") => `(tactic| (k_here; (with_reducible show wpAny _ _ (call (Value.type _) [Value.ref _]) _ _ _); k_dflt (refine' kde_tupleOf ?k1 ?k2 ?k3 ?k4 ?k5 ?_; (case k1 => k_asm); (case k2 => k_asm); (case k3 => exact News.isList (by k_asm) (by k_mem)); (case k4 => (rw [List.size_toArray]; omega)); (case k5 => exact List.toList_toArray)); intro D' h' F' N' l1; (try k_lt l1); (try k_sweep)))
-- TUPLES
local macro_rules | `(tactic| k_mem) => `(tactic| (show (_ : Addr × Obj) ∈ (_ : List (Addr × Obj)); with_reducible assumption))
local macro_rules | `(tactic| walk_at "call builtin:len") => `(tactic| (k_here; (with_reducible show wpAny _ _ (call (Value.builtin "len") [Value.ref _]) _ _ _); k_dflt (refine' m_lenT ?kN ?km ?kf ?_; (case kN => k_asm); (case km => k_mem); (case kf => ((try simp only [List.length_append, List.length_cons, List.length_nil]); omega)))))
local macro_rules | `(tactic| walk_at "subscriptTail") => `(tactic| (k_here; (with_reducible show wpAny _ _ (subscriptTail _ _ (Value.ref _) (Value.int _ _)) _ _ _); k_dflt (refine' m_itemT_ints ?kN ?km ?ki ?k0 ?k1 ?kf ?_; (case kN => k_asm); (case km => k_mem); (case ki => with_reducible assumption); (case k0 => omega); (case k1 => ((try simp only [natI_length]); omega)); (case kf => omega)); intro t9'))
local macro_rules | `(tactic| walk_at "call ref") => `(tactic| (k_here; (with_reducible show wpAny _ _ (call (Value.ref 45) [Value.int _ _, Value.int _ _]) _ _ _); k_dflt (refine' add_call ?kd ?ku ?kB ?kF ?kX ?kT ?kN ?_; (case kB => k_asm); (case kF => k_asm); (case kX => k_asm); (case kT => k_asm); (case kN => k_asm); (case kd => (dsimp only [Around.deeper, Around.in1]; omega)); (case ku => (dsimp only [Around.deeper, Around.in1]; omega)); intro h' tk' t' F' N'; (try dsimp only); (try k_sweep))))
local macro_rules | `(tactic| walk_at "call ref") => `(tactic| (k_here; (with_reducible show wpAny _ _ (call (Value.ref 52) [Value.int _ _, Value.int _ _]) _ _ _); k_dflt (refine' mul_call ?kd ?ku ?kB ?kF ?kX ?kT ?kN ?km ?_; (case kB => k_asm); (case kF => k_asm); (case kX => k_asm); (case kT => k_asm); (case kN => k_asm); (case kd => (dsimp only [Around.deeper, Around.in1]; omega)); (case ku => (dsimp only [Around.deeper, Around.in1]; omega)); (case km => mul_fits); intro h' tk' t' F' N'; (try dsimp only); (try k_sweep))))
local macro_rules | `(tactic| walk_at "call ref") => `(tactic| (k_here; (with_reducible show wpAny _ _ (call (Value.ref 59) [Value.int _ _]) _ _ _); k_dflt (refine' neg_call ?kd ?ku ?kB ?kF ?kX ?kT ?kN ?_; (case kB => k_asm); (case kF => k_asm); (case kX => k_asm); (case kT => k_asm); (case kN => k_asm); (case kd => (dsimp only [Around.deeper, Around.in1]; omega)); (case ku => (dsimp only [Around.deeper, Around.in1]; omega)); intro h' tk' t' F' N'; (try dsimp only); (try k_sweep))))
local macro_rules | `(tactic| walk_at "call ref") => `(tactic| (k_here; (with_reducible show wpAny _ _ (call (Value.ref 66) [Value.int _ _]) _ _ _); k_dflt (refine' pos_call ?kd ?ku ?kB ?kF ?kX ?kT ?kN ?_; (case kB => k_asm); (case kF => k_asm); (case kX => k_asm); (case kT => k_asm); (case kN => k_asm); (case kd => (dsimp only [Around.deeper, Around.in1]; omega)); (case ku => (dsimp only [Around.deeper, Around.in1]; omega)); intro h' tk' t' F' N'; (try dsimp only); (try k_sweep))))
local macro_rules | `(tactic| walk_at "call ref") => `(tactic| (k_here; (with_reducible show wpAny _ _ (call (Value.ref 73) [Value.int _ _, Value.int _ _]) _ _ _); k_dflt (refine' rshift_call ?kd ?ku ?kB ?kF ?kX ?kT ?kN ?km ?_; (case kB => k_asm); (case kF => k_asm); (case kX => k_asm); (case kT => k_asm); (case kN => k_asm); (case kd => (dsimp only [Around.deeper, Around.in1]; omega)); (case ku => (dsimp only [Around.deeper, Around.in1]; omega)); (case km => l_bnd); intro h' tk' t' F' N'; (try dsimp only); (try k_sweep))))
local macro_rules | `(tactic| walk_at "call ref") => `(tactic| (k_here; (with_reducible show wpAny _ _ (call (Value.ref 31) [Value.int _ _]) _ _ _); k_dflt (refine' isterminal_call ?kd ?ku ?kB ?kF ?kX ?kT ?kN ?_; (case kB => k_asm); (case kF => k_asm); (case kX => k_asm); (case kT => k_asm); (case kN => k_asm); (case kd => (dsimp only [Around.deeper, Around.in1]; omega)); (case ku => (dsimp only [Around.deeper, Around.in1]; omega)); intro h' tk' F' N'; (try dsimp only); (try k_sweep))))
local macro_rules | `(tactic| walk_at "call ref") => `(tactic| (k_here; (with_reducible show wpAny _ _ (call (Value.ref 38) [Value.int _ _]) _ _ _); k_dflt (refine' iseof_call ?kd ?ku ?kB ?kF ?kX ?kT ?kN ?_; (case kB => k_asm); (case kF => k_asm); (case kX => k_asm); (case kT => k_asm); (case kN => k_asm); (case kd => (dsimp only [Around.deeper, Around.in1]; omega)); (case ku => (dsimp only [Around.deeper, Around.in1]; omega)); intro h' tk' F' N'; (try dsimp only); (try k_sweep))))
local macro_rules | `(tactic| k_steps) => `(tactic| repeat' ((fail_if_success (with_reducible show wpAny _ _ (exec (Stmt.While _ _ _ _) _) _ _ _)); (fail_if_success (with_reducible show wpAny _ _ (exec (Stmt.For _ _ _ _ _) _) _ _ _)); (fail_if_success (with_reducible show wpAny _ _ (eval (Expr.ListComp _ _ _ _) _) _ _ _)); (fail_if_success (with_reducible show PyProof.Rows.LCg.CompSrc _ _ _ _ _ _ _ _ _ _ _ _ _ _)); (fail_if_success (with_reducible show PyProof.Rows.LCt.CompSrcT _ _ _ _ _ _ _ _ _ _ _ _ _ _ _)); (fail_if_success (with_reducible show PyProof.Rows.LCg.CompEnd _ _ _ _ _ _ _ _ _ _ _ _ _ _)); (fail_if_success (with_reducible show wpAny _ _ (call (Value.ref 167) _) _ _ _)); first | (k_unfold; (try dsimp only)) | (k_end; wrow_close) | walk1 | (dsimp only; walk1) | (leave1; walk_say "STEP leave1"; try dsimp only) | fail "no step"))

inductive ColsIn (tl : List (Addr × Obj)) : List Value → List Str → Prop
  | nil : ColsIn tl [] []
  | snoc {cl : Addr} {vs : List Value} {k : Nat} {ys : List Value} {ss : List Str} {x : Str} : ColsIn tl ys ss → (cl, listOf vs.toArray k) ∈ tl → IntsAre vs (natI (colsN x.cps.toList 8)) → ColsIn tl (ys ++ [.ref cl]) (ss ++ [x])
theorem ColsIn.mono {tl tl' : List (Addr × Obj)} {ys : List Value} {ss : List Str} (h : ColsIn tl ys ss) (hs : ∀ p ∈ tl, p ∈ tl') : ColsIn tl' ys ss := by
  induction h with
  | nil => exact .nil
  | snoc _ a b ih => exact .snoc ih (hs _ a) b
theorem ColsIn.length {tl : List (Addr × Obj)} {ys : List Value} {ss : List Str} (h : ColsIn tl ys ss) : ys.length = ss.length := by
  induction h with
  | nil => rfl
  | snoc _ _ _ ih => simp [ih]
theorem ColsIn.get {tl : List (Addr × Obj)} {ys : List Value} {ss : List Str} (h : ColsIn tl ys ss) : ∀ (i : Nat) (x : Str), ss[i]? = some x → ∃ cl vs k, ys[i]? = some (.ref cl) ∧ (cl, listOf vs.toArray k) ∈ tl ∧ IntsAre vs (natI (colsN x.cps.toList 8)) := by
  induction h with
  | nil => intro i x e; simp at e
  | @snoc cl vs k ys ss y hc a b ih =>
    intro i x e
    have hl := hc.length
    rcases Nat.lt_or_ge i ss.length with q | q
    · rw [List.getElem?_append_left q] at e
      obtain ⟨cl', vs', k', e1, e2, e3⟩ := ih i x e
      exact ⟨cl', vs', k', by rw [List.getElem?_append_left (by omega)]; exact e1, e2, e3⟩
    · rw [List.getElem?_append_right q] at e
      have hi : i - ss.length = 0 := by
        rcases Nat.eq_zero_or_pos (i - ss.length) with z | z
        · exact z
        · rw [List.getElem?_eq_none (by simp; omega)] at e; cases e
      rw [hi] at e
      simp at e
      subst e
      exact ⟨cl, vs, k, by rw [List.getElem?_append_right (by omega), show i - ys.length = 0 by omega]; rfl, a, b⟩
theorem intsAre_get : ∀ {vs : List Value} {ns : List Int}, IntsAre vs ns → ∀ (i : Nat) (v : Value), vs[i]? = some v → ∃ n t, v = .int n t ∧ ns[i]? = some n
  | _, _, .nil, i, v, h => by simp at h
  | _, _, .cons n t h, 0, v, e => by simp at e; exact ⟨n, t, e.symm, rfl⟩
  | _, _, .cons n t h, i + 1, v, e => by
    obtain ⟨x, t', a, b⟩ := intsAre_get h i v (by simpa using e)
    exact ⟨x, t', a, by simpa using b⟩
theorem off_map {l l' : List (Addr × Obj)} {I : Addr} (h : ∀ p ∈ l, p.1 ≠ I) (e : l'.map Prod.fst = l.map Prod.fst) : ∀ p ∈ l', p.1 ≠ I := by
  intro p hp
  have : p.1 ∈ l.map Prod.fst := e ▸ List.mem_map_of_mem hp
  obtain ⟨q, hq, e⟩ := List.mem_map.mp this
  exact e ▸ h q hq
theorem row_map {mm m₃ : Str → Option Value} {a b : Option Value} {l p r z : Str} (hl : mm l = a) (hp : mm p = b) (hz : z ≠ r) : (if z = l then a else if z = p then b else if z = r then m₃ z else mm z) = mm z := by
  by_cases h1 : z = l
  · rw [if_pos h1, h1, hl]
  · rw [if_neg h1]
    by_cases h2 : z = p
    · rw [if_pos h2, h2, hp]
    · rw [if_neg h2, if_neg hz]
theorem strsAre_get : ∀ {vs : List Value} {ss : List Str}, StrsAre vs ss → ∀ (i : Nat) (v : Value), vs[i]? = some v → ∃ x t, v = .str x t ∧ ss[i]? = some x
  | _, _, .nil, i, v, h => by simp at h
  | _, _, .cons y t h, 0, v, e => by simp at e; exact ⟨y, t, e.symm, rfl⟩
  | _, _, .cons y t h, i + 1, v, e => by
    obtain ⟨x, t', a, b⟩ := strsAre_get h i v (by simpa using e)
    exact ⟨x, t', a, by simpa using b⟩
theorem take_snocL {α : Type} {l : List α} {i : Nat} {x : α} (h : l[i]? = some x) : l.take (i + 1) = l.take i ++ [x] := by
  rw [List.take_add_one, h]; rfl
noncomputable def less8 (a b : Str) : Bool := (List.range 8).all fun j => decide (colN (j + 1) a.cps.toList < colN (j + 1) b.cps.toList)
noncomputable abbrev strAt (ss : List Str) (k : Nat) : Str := ss.getD k ⟨#[]⟩
noncomputable def popC (ss : List Str) (k : Nat) : List Nat → List Nat
  | c :: ch => if less8 (strAt ss c) (strAt ss k) = true then c :: ch else popC ss k ch
  | [] => []
noncomputable def addK (k : Nat) (ps : List Nat) (rows : List Nat) : List Nat := rows.foldl (fun ps r => ps.set r (ps.getD r 0 + 2 ^ k)) ps
noncomputable def stepParts (ss : List Str) (k : Nat) (st : List Nat × List Nat) : List Nat × List Nat := (k :: popC ss k st.1, addK k (st.2 ++ [0]) (k :: popC ss k st.1).reverse)
noncomputable def partsGo (ss : List Str) : Nat → List Nat × List Nat
  | 0 => ([], [])
  | k + 1 => stepParts ss k (partsGo ss k)
theorem popC_mem {ss : List Str} {k c : Nat} : ∀ {ch : List Nat}, c ∈ popC ss k ch → c ∈ ch
  | [], h => h
  | d :: ch, h => by
    unfold popC at h
    split at h
    · exact h
    · exact List.Mem.tail _ (popC_mem h)
theorem popC_length {ss : List Str} {k : Nat} : ∀ {ch : List Nat}, (popC ss k ch).length ≤ ch.length
  | [] => Nat.le_refl _
  | d :: ch => by
    unfold popC
    split
    · exact Nat.le_refl _
    · exact Nat.le_succ_of_le popC_length
theorem addK_snoc (k r : Nat) (ps rows : List Nat) : addK k ps (rows ++ [r]) = (addK k ps rows).set r ((addK k ps rows).getD r 0 + 2 ^ k) := by
  unfold addK; rw [List.foldl_append]; rfl
theorem addK_length (k : Nat) (rows : List Nat) : ∀ (ps : List Nat), (addK k ps rows).length = ps.length := by
  unfold addK
  induction rows with
  | nil => intro ps; rfl
  | cons r rows ih => intro ps; rw [List.foldl_cons, ih, List.length_set]
theorem partsGo_bound (ss : List Str) : ∀ i, (∀ c ∈ (partsGo ss i).1, c < i) ∧ (partsGo ss i).2.length = i ∧ (partsGo ss i).1.length ≤ i
  | 0 => ⟨fun _ h => (nomatch h), rfl, Nat.le_refl _⟩
  | k + 1 => by
    obtain ⟨h1, h2, h3⟩ := partsGo_bound ss k
    refine ⟨fun c hc => ?_, ?_, ?_⟩
    · rcases List.mem_cons.mp hc with rfl | hc
      · exact Nat.lt_succ_self _
      · exact Nat.lt_succ_of_lt (h1 c (popC_mem hc))
    · show (addK k _ _).length = _
      rw [addK_length, List.length_append, h2]; rfl
    · exact Nat.succ_le_succ (Nat.le_trans popC_length h3)
theorem colsN_length (l : List Nat) (k : Nat) : (colsN l k).length = k := by unfold colsN; rw [List.length_map, List.length_range]
theorem colsN_getD {l : List Nat} {k j : Nat} (h : j < k) : (colsN l k).getD j 0 = colN (j + 1) l := by
  unfold colsN
  rw [List.getD_eq_getElem?_getD, List.getElem?_map, List.getElem?_range h]; rfl
theorem strAt_get {ss : List Str} {k : Nat} (h : k < ss.length) : ss[k]? = some (strAt ss k) := by
  unfold strAt
  rw [List.getD_eq_getElem?_getD, List.getElem?_eq_getElem h]; rfl
theorem less8_not {a b : Str} : less8 a b = true ↔ ¬ ∃ t, t < 8 ∧ colN (t + 1) a.cps.toList ≥ colN (t + 1) b.cps.toList := by
  unfold less8
  rw [List.all_eq_true]
  constructor
  · rintro h ⟨t, ht, hge⟩
    have := h t (List.mem_range.mpr ht)
    rw [decide_eq_true_iff] at this
    omega
  · intro h t ht
    rw [decide_eq_true_iff]
    rcases Nat.lt_or_ge (colN (t + 1) a.cps.toList) (colN (t + 1) b.cps.toList) with q | q
    · exact q
    · exact absurd ⟨t, List.mem_range.mp ht, q⟩ h
local macro_rules | `(tactic| walk_at "compareOp NotEq ref ref") => `(tactic| (k_here; (with_reducible show wpAny _ _ (compareOp CmpOp.NotEq (Value.ref _) (Value.ref _)) _ _ _); k_dflt (refine ke_ne_ints (News.isList (by k_asm) (by k_mem)) (News.isList (by k_asm) (by k_mem)) (by with_reducible assumption) IntsAre.nil (by first | ke_room | (dsimp only [Around.deeper, Around.in1]; have hcl9 : cLine = cLine := rfl; simp only [PySem.cLine]; omega)) ?_)))
local macro_rules | `(tactic| walk_at "subscriptTail") => `(tactic| (k_here; (with_reducible show wpAny _ _ (subscriptTail _ _ (Value.ref _) (Value.int _ _)) _ _ _); k_dflt (refine' m_item ?kN ?km ?k0 ?kf ?kx ?_; (case kN => k_asm); (case km => k_mem); (case kx => with_reducible assumption); (case k0 => omega); (case kf => omega))))
section
variable {w : World} {A₀ : Around} {d u : Nat} {gd : Option (List Code)} {names : List (Str × NameKind)} {ig ic : Bool} {more : List (Str × Const)} {lo gl : Addr} {ce : List (Str × Addr)} {qual : Str} {fu : Option Addr} {co : Value} {L : Addr} {bu : Addr}
  {outer : List Env} {E : Value → Shared → Prop} {s : Shared} {h₀ base : Heap} {m mg mb : Str → Option Value} {news : List (Addr × Obj)} {p : Program} {loose : List Str} {mean : ExcName → Option Value} {Q : Value → Shared → Prop}
  (hd9 : d < 450) (hu9 : u < 2000)
  (B : Below A₀ base outer h₀) (F : Fr h₀ L s.heap m) (X₀ : (hd.heap_39 w.params).In h₀) (T : Top p loose mean mg mb h₀)
include hd9 hu9 B F X₀ T

theorem parts_call {lp : Addr} {lvs : List Value} {k0 : Nat} {ss : List Str} (N : News h₀ L s.heap news) (hlp : (lp, listOf lvs.toArray k0) ∈ news) (hlvs : StrsAre lvs ss) (hss : ∀ x ∈ ss, x.length ≤ 10) (hn : ss.length ≤ 6)
  (h : ∀ h' tk cl (vs : List Value) k, Fr h₀ L h' m → News h₀ L h' ((cl, listOf vs.toArray k) :: news) → (∀ p ∈ news, @LT.lt Nat _ p.1 cl) → IntsAre vs (natI (partsGo ss ss.length).2) → Q (.ref cl) { s with heap := h', toks := tk }) :
  wpAny (model PySem.Challenge.rw_tl0031_01.row.prog w) (Around.mk none d (some (envM names ig ic more lo gl ce qual fu co L bu :: outer)) gd u) (call (.ref 172) [.ref lp]) Q E s := by
  w_top off
  revert X₀
  k_fill
  intro X₀
  refine wpAny_noRaise ?_
  refine wpAny_call ?_
  have hll : lvs.length = ss.length := hlvs.length
  refine' code_defC ?k1 ?k2 ?k3 ?k4 ?k5 ?kA ?kF ?kK ?k6 ?k7 ?k8 ?k9 ?kB ?kD ?_ ?c2 ?c3 ?c4
  (case kA => exact rfl)
  (case kF => exact rfl)
  (case kK => exact rfl)
  (case k1 => k_asm)
  (case k2 => k_asm)
  (case k3 => k_asm)
  (case k4 => k_asm)
  (case k5 => k_asm)
  (case k6 => k_is)
  (case k7 => k_is)
  (case k8 => k_room)
  (case k9 => first | exact BindsTo.of_eq rfl | exact binds_K (by k_in) rfl (by k_is) rfl rfl rfl)
  (case kB => exact rfl)
  (case kD => decide +kernel)
  (case c2 => exact rfl)
  (case c3 => exact rfl)
  (case c4 => exact rfl)
  intro g L9 h1 tk1 cells FG F1 N1 Y1 B1 X1 T1 hL9
  obtain ⟨ok, oc, ocol, rfl, dk, dc, dcol⟩ := CellsAre.three Y1
  simp only [List.cons_append, List.nil_append] at N1
  clear Y1
  have hal : AllLt L9 news := allLt_of hL9
  (try dsimp only)
  (try k_fold)
  k_steps
  have hbase : ∀ p ∈ (L9 + 1 + 1 + 1, ok) :: (L9 + 1 + 1, oc) :: (L9 + 1, ocol) :: news, @LT.lt Nat _ p.1 (L9 + 4) := by
    intro p hp
    rcases List.mem_cons.mp hp with rfl | hp
    · exact Nat.lt_succ_self _
    rcases List.mem_cons.mp hp with rfl | hp
    · exact Nat.add_lt_add_left (by decide : 2 < 4) L9
    rcases List.mem_cons.mp hp with rfl | hp
    · exact Nat.add_lt_add_left (by decide : 1 < 4) L9
    have := hL9 p hp
    exact Nat.lt_trans this (Nat.lt_add_of_pos_right (by decide))
  rename Fr _ _ _ _ => F2
  refine LCg.ListComp_U (F₀ := F2) (by with_unfolding_all rfl) (by decide) (by rfl) (by decide) (by rfl) ?_
  k_steps
  rename Fr _ _ _ _ => F3
  rename News _ _ _ _ => N3
  generalize hbs : (L9 + 1 + 1 + 1, ok) :: (L9 + 1 + 1, oc) :: (L9 + 1, ocol) :: news = bs at N3
  have hlpb : (lp, listOf lvs.toArray k0) ∈ bs := by rw [← hbs]; exact List.Mem.tail _ (List.Mem.tail _ (List.Mem.tail _ hlp))
  refine LCg.CompSrc.ledger (k := k0) (its := lvs.toArray) (by rfl) F3 N3 hlpb (by rw [List.size_toArray, sizeLine_eq]; omega) ?_
  intro g2
  refine compRest_ind (fun i ys nw => ∃ own, nw = own ++ bs ∧ ColsIn own ys (ss.take i) ∧ (∀ p ∈ own, ∀ q ∈ bs, @LT.lt Nat _ q.1 p.1)) lvs.toArray.size ?_ ?_ ⟨[], rfl, .nil, fun _ hp => nomatch hp⟩
  · rintro i ys nw v I oI C oC D m₂ h2 tk2 E' hi ⟨own, rfl, hci, hsep⟩ hP hC hx F4 N4 off ⟨ne1, ne2, ne3⟩
    rw [List.size_toArray] at hi
    have hP' : lvs[i]? = some v := by simpa using hP
    obtain ⟨x, tx, rfl, hxi⟩ := strsAre_get hlvs i v hP'
    have hx10 : x.length ≤ 10 := hss x (List.mem_of_getElem? hxi)
    clear F3 N3
    k_steps
    refine' columns_call ?kd ?ku ?kB ?kF ?kX ?kT ?kN hx10 ?_
    (case kB => k_asm)
    (case kF => k_asm)
    (case kX => k_asm)
    (case kT => k_asm)
    (case kN => k_asm)
    (case kd => (dsimp only [Around.deeper, Around.in1]; omega))
    (case ku => (dsimp only [Around.deeper, Around.in1]; omega))
    intro h3 tk3 cl vs k F5 N5 hlt hvs
    (try k_unfold)
    (try dsimp only)
    refine LCg.CompEnd.intro F5 N5 ((cl, listOf vs.toArray k) :: (own ++ bs)) ?_ ?_ ?_ ⟨(cl, listOf vs.toArray k) :: own, rfl, ?_, ?_⟩
    · intro p hp
      simp only [List.mem_cons] at hp ⊢
      rcases hp with q | q | q | q | q <;> simp [q]
    · exact ⟨⟨Nat.ne_of_gt (hlt _ (List.Mem.head _)), Nat.ne_of_gt (hlt _ (List.Mem.tail _ (List.Mem.head _))), Nat.ne_of_gt (hlt _ (List.Mem.tail _ (List.Mem.tail _ (List.Mem.head _))))⟩, off⟩
    · exact .inr ⟨_, List.Mem.tail _ (List.mem_append_right _ hlpb), rfl, _, rfl⟩
    · rw [take_snocL hxi]
      exact .snoc (hci.mono fun p hp => List.Mem.tail _ hp) (List.Mem.head _) hvs
    · intro p hp q hq
      rcases List.mem_cons.mp hp with rfl | hp
      · exact hlt _ (List.Mem.tail _ (List.Mem.tail _ (List.Mem.tail _ (List.mem_append_right _ hq))))
      · exact hsep p hp q hq
  · rintro ys nw ⟨own, rfl, hci, hsep⟩
    intro D h2 tk2 F4 N4 off
    rw [List.size_toArray, hll, List.take_of_length_le (Nat.le_refl _)] at hci
    clear F3 N3
    subst hbs
    have N5 : News g L9 h2 ((L9 + 1 + 1 + 1, ok) :: (L9 + 1 + 1, oc) :: (L9 + 1, ocol) :: (D, listOf ys.toArray ys.length) :: (own ++ news)) := fun p hp => N4 p (by
      simp only [List.mem_cons, List.mem_append] at hp ⊢
      rcases hp with q | q | q | q | q | q <;> simp [q])
    have hoff : OwnOff ((D, listOf ys.toArray ys.length) :: (own ++ news)) [L9 + 1 + 1 + 1, L9 + 1 + 1, L9 + 1] := by
      intro p hp b hb
      simp only [List.mem_cons, List.not_mem_nil, or_false] at hb
      rcases List.mem_cons.mp hp with rfl | hp
      · rcases hb with rfl | rfl | rfl
        · exact (off1_mem off (L9 + 1 + 1 + 1, ok) (List.mem_append_right _ (List.Mem.head _))).symm
        · exact (off1_mem off (L9 + 1 + 1, oc) (List.mem_append_right _ (List.Mem.tail _ (List.Mem.head _)))).symm
        · exact (off1_mem off (L9 + 1, ocol) (List.mem_append_right _ (List.Mem.tail _ (List.Mem.tail _ (List.Mem.head _))))).symm
      · rcases List.mem_append.mp hp with hp | hp
        · rcases hb with rfl | rfl | rfl
          · exact Nat.ne_of_gt (hsep p hp _ (List.Mem.head _))
          · exact Nat.ne_of_gt (hsep p hp _ (List.Mem.tail _ (List.Mem.head _)))
          · exact Nat.ne_of_gt (hsep p hp _ (List.Mem.tail _ (List.Mem.tail _ (List.Mem.head _))))
        · have hq := hL9 p hp
          rcases hb with rfl | rfl | rfl
          · exact Nat.ne_of_lt (Nat.lt_trans hq (Nat.lt_add_of_pos_right (k := 3) (by decide)))
          · exact Nat.ne_of_lt (Nat.lt_trans hq (Nat.lt_add_of_pos_right (k := 2) (by decide)))
          · exact Nat.ne_of_lt (Nat.lt_trans hq (Nat.lt_add_of_pos_right (k := 1) (by decide)))
    have hci2 : ColsIn ((D, listOf ys.toArray ys.length) :: (own ++ news)) ys ss := hci.mono fun p hp => List.Mem.tail _ (List.mem_append_left _ hp)
    have hsubt : ∀ p ∈ news, p ∈ (D, listOf ys.toArray ys.length) :: (own ++ news) := fun p hp => List.Mem.tail _ (List.mem_append_right _ hp)
    have hDt : (D, listOf ys.toArray ys.length) ∈ (D, listOf ys.toArray ys.length) :: (own ++ news) := List.Mem.head _
    generalize (D, listOf ys.toArray ys.length) :: (own ++ news) = tl at N5 hoff hci2 hsubt hDt
    clear N4 off hsep hci hlpb
    k_steps
    rename Fr _ _ _ _ => F6
    rename News _ _ _ _ => N6
    obtain ⟨chl, ptl, oc2, ocol2, mm, hcc, hpc, hoff3, dc2, dcol2, hleads, hparts, N7, F7⟩ : ∃ (chl ptl : Addr) (oc2 ocol2 : Obj) (mm : Str → Option Value), (@LT.lt Nat _ ptl chl ∧ @LT.lt Nat _ (L9 + 3) ptl) ∧ True ∧ (AllLt ptl tl ∧ AllLt chl tl) ∧ oc2.data = Data.cell (some (Value.ref chl)) ∧ ocol2.data = Data.cell (some (Value.ref D)) ∧
       mm (Str.ofString "leads") = some (.ref lp) ∧ mm (Str.ofString "parts") = some (.ref ptl) ∧ News g L9 _ ((chl, listOf #[] 0) :: (ptl, listOf #[] 0) :: (L9 + 1 + 1 + 1, ok) :: (L9 + 1 + 1, oc2) :: (L9 + 1, ocol2) :: tl) ∧ Fr g L9 _ mm :=
      ⟨_, _, _, _, _, by (refine ⟨And.left (by assumption), And.left (by assumption)⟩), trivial, by (refine ⟨?_, ?_⟩ <;> first | exact And.right (And.right (And.right (by assumption))) | exact And.right (And.right (And.right (And.right (by assumption))))), by assumption, by assumption, rfl, rfl, N6, F6⟩
    clear F6 N6
    obtain ⟨hcc, hcl3⟩ := hcc
    obtain ⟨hal1, hal2⟩ := hoff3
    have hmm := map_eq2 (m₀ := mm) hleads hparts (fun _ _ _ => rfl)
    have F8 := F7
    rw [hmm] at F8
    have hlpt : (lp, listOf lvs.toArray k0) ∈ tl := hsubt _ hlp
    refine For_gen F8 ?_
    k_steps
    rename IsRange _ _ _ _ _ _ _ _ => RG
    rename Fr _ _ _ _ => F9
    rename News _ _ _ _ => N9
    refine iter_rangeG (n := lvs.length) (fun i m nw => ∃ (chv pv : List Value) (kc kp : Nat) (ch ps : List Nat) (ok : Obj) (vk : Option Value),
        nw = (chl, listOf chv.reverse.toArray kc) :: (ptl, listOf pv.toArray kp) :: (L9 + 1 + 1 + 1, ok) :: (L9 + 1 + 1, oc2) :: (L9 + 1, ocol2) :: tl ∧ (ch, ps) = partsGo ss i ∧ IntsAre chv (natI ch) ∧ IntsAre pv (natI ps) ∧
        ok.data = Data.cell vk ∧ ∀ z, z ≠ Str.ofString "row" → m z = mm z)
      rfl RG (small_one (by omega) (by omega) (by omega) (by omega)) (by rw [rangeSize_nat]; omega) F9 N9 ⟨[], [], 0, 0, [], [], ok, _, rfl, rfl, .nil, .nil, dk, fun z _ => (congrFun hmm z).symm⟩ ?_ ?_
    · clear F9 N9 F7 dk
      rintro i t I o m₁ nw h₁ tk₁ hi ⟨chv, pv, kc, kp, ch, ps, ok, vk, rfl, hst, hchv, hpv, dk, em⟩ hI hIoff F10 N10
      have hm4 := map_eq2 (m := m₁) (m₀ := fun z => if z = Str.ofString "row" then m₁ z else mm z) ((em _ (by decide)).trans hleads) ((em _ (by decide)).trans hparts) (fun z _ _ => looseM (em z))
      rw [hm4] at F10
      have hIch : @Ne Nat I chl := fun e => hIoff _ (List.Mem.head _) e.symm
      have hIpt : @Ne Nat I ptl := fun e => hIoff _ (List.Mem.tail _ (List.Mem.head _)) e.symm
      have hI3 : @Ne Nat I (L9 + 1 + 1 + 1) := fun e => hIoff _ (List.Mem.tail _ (List.Mem.tail _ (List.Mem.head _))) e.symm
      have hI2 : @Ne Nat I (L9 + 1 + 1) := fun e => hIoff _ (List.Mem.tail _ (List.Mem.tail _ (List.Mem.tail _ (List.Mem.head _)))) e.symm
      have hI1 : @Ne Nat I (L9 + 1) := fun e => hIoff _ (List.Mem.tail _ (List.Mem.tail _ (List.Mem.tail _ (List.Mem.tail _ (List.Mem.head _))))) e.symm
      have hItl : ∀ p ∈ tl, p.1 ≠ I := fun p hp => hIoff p (List.Mem.tail _ (List.Mem.tail _ (List.Mem.tail _ (List.Mem.tail _ (List.Mem.tail _ hp)))))
      obtain ⟨hb1, hb2, hb3⟩ := partsGo_bound ss i
      rw [← hst] at hb1 hb2 hb3
      dsimp only at hb1 hb2 hb3
      have hchl : chv.length = ch.length := by rw [hchv.length, natI_length]
      have hpvl : pv.length = ps.length := by rw [hpv.length, natI_length]
      k_steps
      rename Fr _ _ _ _ => F11
      rename News _ _ _ _ => N11
      rename Obj.data _ = Data.cell (some (Value.int _ _)) => dk2
      obtain ⟨mm5, hmm5, F12⟩ := fr_get F11
      refine While_invX (fun n m nw => ∃ (chv : List Value) (kc : Nat) (ch' : List Nat) (ok : Obj), n = ch'.length ∧
          nw = (I, o) :: (chl, listOf chv.reverse.toArray kc) :: (ptl, listOf pv.toArray kp) :: (L9 + 1 + 1 + 1, ok) :: (L9 + 1 + 1, oc2) :: (L9 + 1, ocol2) :: tl ∧ ok.data = Data.cell (some (.int (0 + (i : Int)) t)) ∧
          IntsAre chv (natI ch') ∧ popC ss i ch' = popC ss i ch ∧ (∀ c ∈ ch', c < i) ∧ ch'.length ≤ i ∧ m = mm5)
        (fun m nw => ∃ (chv : List Value) (kc : Nat) (ok : Obj),
          nw = (I, o) :: (chl, listOf chv.reverse.toArray kc) :: (ptl, listOf pv.toArray kp) :: (L9 + 1 + 1 + 1, ok) :: (L9 + 1 + 1, oc2) :: (L9 + 1, ocol2) :: tl ∧ ok.data = Data.cell (some (.int (0 + (i : Int)) t)) ∧
          IntsAre chv (natI (popC ss i ch)) ∧ m = mm5)
        ch.length F12 N11 ⟨chv, kc, ch, _, rfl, rfl, dk2, hchv, rfl, hb1, hb3, rfl⟩ ?_ ?_
      · clear F11 N11 F12 dk2 hchv hchl
        rintro n m₂ nw h₂ tk₂ F13 N13 ⟨chv, kc, ch', ok, rfl, rfl, dk, hchv, hpop, hbd, hbl, rfl⟩
        rw [hmm5] at F13
        rcases ch' with _ | ⟨c, ch'⟩
        · cases hchv
          rw [List.reverse_nil] at N13
          k_steps
          exact ExitW.intro (by assumption) (by assumption) ⟨[], kc, ok, rfl, dk, by rw [← hpop]; exact .nil, hmm5.symm⟩
        · rcases hchv with _ | ⟨_, tc, hchv2⟩
          rename_i chv2
          have hc := hbd c (List.Mem.head _)
          simp only [List.reverse_cons] at N13
          have hl2 : chv2.reverse.length ≤ 10 := by have q := hchv2.length; rw [List.length_map] at q; simp only [List.length_cons] at hbl; rw [List.length_reverse]; omega
          obtain ⟨clc, vsc, kcc, hyc, hmc, hvc⟩ := hci2.get c _ (strAt_get (by omega))
          obtain ⟨cli, vsi, kci, hyi, hmi, hvi⟩ := hci2.get i _ (strAt_get (by omega))
          have hyc' : ys[((c : Nat) : Int).toNat]? = some (.ref clc) := hyc
          have hyi' : ys[((0 : Int) + ((i : Nat) : Int)).toNat]? = some (.ref cli) := by rw [show ((0 : Int) + ((i : Nat) : Int)).toNat = i by omega]; exact hyi
          have hlc8 := colsN_length (strAt ss c).cps.toList 8
          have hli8 := colsN_length (strAt ss i).cps.toList 8
          have hge : ((0 : Int) + (i : Int)).toNat = i := by omega
          k_steps
          · rename Fr _ _ _ _ => F14
            rename News _ _ _ _ => N14
            refine LCt.ListComp_T (F₀ := F14) (by with_unfolding_all rfl) (by decide) (by rfl) (by decide) (by rfl) ?_
            k_steps
            rename IsRange _ _ _ _ _ _ _ _ => RG2
            rename Fr _ _ _ _ => F15
            rename News _ _ _ _ => N15
            generalize hbw : (I, o) :: (chl, listOf (chv2.reverse ++ [Value.int (↑c) tc]).toArray kc) :: (ptl, listOf pv.toArray kp) :: (L9 + 1 + 1 + 1, ok) :: (L9 + 1 + 1, oc2) :: (L9 + 1, ocol2) :: tl = bw at N15
            refine LCt.CompSrcT.range (n := 8) (by rfl) F15 N15 RG2 (by decide) (by decide) (by rw [sizeLine_eq]; omega) ?_
            intro g3
            refine compRestT_ind (fun j zs nw => nw = bw ∧ ∃ ns, IntsAre zs ns ∧ (ns ≠ [] ↔ ∃ t, t < j ∧ colN (t + 1) (strAt ss c).cps.toList ≥ colN (t + 1) (strAt ss i).cps.toList)) 8 ?_ ?_ ⟨rfl, [], .nil, by simp⟩
            · (try clear F13); (try clear N13); (try clear F14); (try clear N14); clear F15 N15
              rintro j zs nw v I2 oI2 C2 oC2 D2 m₃ h3 tk3 E3 hj ⟨rfl, ns, hns, hnz⟩ ⟨tt, rfl⟩ hC hx F16 N16 off ⟨ne1, ne2, ne3⟩
              subst hbw
              k_steps
              · rename _ ≤ _ => hcm
                rw [natI_getD, natI_getD, show ((0 : Int) + (j : Int)).toNat = j by omega, colsN_getD hj, colsN_getD hj] at hcm
                refine' LCg.CompEnd.intro (by assumption) (by assumption) _ (fun _ h => h) off trivial ⟨rfl, ns ++ [_], IntsAre.append hns (.cons _ _ .nil), ?_⟩
                exact ⟨fun _ => ⟨j, Nat.lt_succ_self _, by omega⟩, fun _ e => by simp at e⟩
              · rename ¬ _ ≤ _ => hcm
                rw [natI_getD, natI_getD, show ((0 : Int) + (j : Int)).toNat = j by omega, colsN_getD hj, colsN_getD hj] at hcm
                refine' LCg.CompEnd.intro (by assumption) (by assumption) _ (fun _ h => h) off trivial ⟨rfl, ns, hns, ?_⟩
                rw [hnz]
                constructor
                · rintro ⟨t8, h8, h9⟩
                  exact ⟨t8, Nat.lt_succ_of_lt h8, h9⟩
                · rintro ⟨t8, h8, h9⟩
                  rcases Nat.lt_or_ge t8 j with q | q
                  · exact ⟨t8, q, h9⟩
                  · have : t8 = j := by omega
                    subst this
                    omega
            · rintro zs nw ⟨rfl, ns, hns, hnz⟩
              intro D2 h3 tk3 F16 N16 off
              (try clear F13); (try clear N13); (try clear F14); (try clear N14); clear F15 N15
              subst hbw
              have N17 : News g L9 h3 ((D2, listOf zs.toArray zs.length) :: (I, o) :: (chl, listOf (chv2.reverse ++ [Value.int (↑c) tc]).toArray kc) :: (ptl, listOf pv.toArray kp) :: (L9 + 1 + 1 + 1, ok) :: (L9 + 1 + 1, oc2) :: (L9 + 1, ocol2) :: tl) := N16
              clear N16
              have hD2c : @Ne Nat D2 chl := (off1_mem off (chl, _) (List.Mem.tail _ (List.Mem.head _))).symm
              have hl8 : ns ≠ [] ↔ less8 (strAt ss c) (strAt ss i) = false := by
                rw [hnz, Bool.eq_false_iff, ne_eq, less8_not, Classical.not_not]
              clear off
              k_steps
              · rename decide _ = true => hdec
                have hns0 : ns = [] := of_decide_eq_true hdec
                have hless : less8 (strAt ss c) (strAt ss i) = true := by
                  cases hx : less8 (strAt ss c) (strAt ss i)
                  · exact absurd hns0 (hl8.mpr hx)
                  · rfl
                rename News _ _ _ _ => N18
                exact ExitW.intro (by assumption) (fun p hp => N18 p (List.Mem.tail _ (List.Mem.tail _ hp))) ⟨.int c tc :: chv2, kc, ok, by simp only [List.reverse_cons], dk, by rw [← hpop, popC, if_pos hless]; exact .cons _ _ hchv2, hmm5.symm⟩
              · rename decide _ = false => hdec
                have hless : less8 (strAt ss c) (strAt ss i) = false := hl8.mp (of_decide_eq_false hdec)
                rename News _ _ _ _ => N18
                exact WhileStep.intro (by assumption) (fun p hp => N18 p (List.Mem.tail _ (List.Mem.tail _ hp))) (n' := ch'.length) (by simp) ⟨chv2, _, ch', ok, rfl, rfl, dk, hchv2, by rw [← hpop, popC, if_neg (by rw [hless]; decide)], (fun z hz => hbd z (List.Mem.tail _ hz)), by (simp only [List.length_cons] at hbl; omega), hmm5.symm⟩
          · exfalso
            rename ¬ _ < _ => hc9
            rw [List.length_append] at hc9
            simp only [List.length_cons, List.length_nil] at hc9
            omega
      · clear F11 N11 F12 dk2 hchv hchl
        rintro m₂ nw h₂ tk₂ F13 N13 ⟨chv, kc, ok, rfl, dk, hchv, rfl⟩
        rw [hmm5] at F13
        have hchl := hchv.length
        have hpcl : (popC ss i ch).length ≤ ch.length := popC_length
        have hpcm : ∀ c ∈ popC ss i ch, c < i := fun c hc => hb1 c (popC_mem hc)
        rw [natI_length] at hchl
        have hl3 : chv.reverse.length ≤ 100 := by rw [List.length_reverse]; omega
        have hl4 : pv.length ≤ 100 := by omega
        have hchI : ∀ p ∈ [(I, o)], p.1 ≠ chl := by intro p hp; rw [List.mem_singleton.mp hp]; exact hIch
        k_steps
        rename Fr _ _ _ _ => F14
        rename News _ _ _ _ => N14
        generalize hrs : (i :: popC ss i ch).reverse = rows
        have hrsl : rows.length ≤ 10 := by rw [← hrs, List.length_reverse, List.length_cons]; omega
        have hrsm : ∀ r ∈ rows, r ≤ i := by
          intro r hr
          rw [← hrs, List.mem_reverse, List.mem_cons] at hr
          rcases hr with rfl | hr
          · exact Nat.le_refl _
          · exact Nat.le_of_lt (hpcm r hr)
        have hrow : IntsAre (chv.reverse ++ [.int (0 + (i : Int)) t]) (natI rows) := by
          rw [← hrs, List.reverse_cons, natI_append]
          exact IntsAre.append (by unfold natI; rw [List.map_reverse]; exact intsAre_rev hchv) (by rw [show (0 : Int) + (i : Int) = (i : Int) by omega]; exact .cons _ _ .nil)
        refine For_gen F14 ?_
        k_steps
        rename News _ _ _ _ => N15
        refine iter_listG (vs := chv.reverse ++ [.int (0 + (i : Int)) t]) (fun j m nw => ∃ (pv2 : List Value) (kp2 : Nat),
            nw = (I, o) :: (chl, listOf (chv.reverse ++ [Value.int (0 + (i : Int)) t]).toArray (kc + 1)) :: (ptl, listOf pv2.toArray kp2) :: (L9 + 1 + 1 + 1, ok) :: (L9 + 1 + 1, oc2) :: (L9 + 1, ocol2) :: tl ∧
            IntsAre pv2 (natI (addK i (ps ++ [0]) (rows.take j))) ∧ ∀ z, z ≠ Str.ofString "row" → m z = mm z)
          rfl F14 N15 ⟨pv ++ [.int 0 _], kp + 1, rfl, by rw [List.take_zero]; unfold addK; rw [List.foldl_nil, natI_append]; exact IntsAre.append hpv (.cons _ _ .nil), fun z hz => ?_⟩
          (fun j m nw hJ => by obtain ⟨pv2, kp2, rfl, -⟩ := hJ; exact .inr ⟨kc + 1, List.Mem.tail _ (List.Mem.head _)⟩) ?_ ?_
        · show (if z = Str.ofString "leads" then _ else if z = Str.ofString "parts" then _ else if z = Str.ofString "row" then m₁ z else mm z) = _
          split
          · rename z = _ => e; rw [e, hleads]
          split
          · rename z = _ => e; rw [e, hparts]
          rfl
        · clear N15 F14
          rintro j v I2 o2 m₃ nw h3 tk3 hjv ⟨pv2, kp2, rfl, hpv2, em2⟩ hI2 hI2off F15 N15
          obtain ⟨n9, t9, rfl, hn9⟩ := intsAre_get hrow j v hjv
          obtain ⟨r9, hr9, rfl⟩ : ∃ r, rows[j]? = some r ∧ (r : Int) = n9 := by
            unfold natI at hn9
            rw [List.getElem?_map, Option.map_eq_some_iff] at hn9
            exact hn9
          have hri := hrsm r9 (List.mem_of_getElem? hr9)
          have hadl : (addK i (ps ++ [0]) (rows.take j)).length = i + 1 := by rw [addK_length, List.length_append, hb2]; rfl
          have hpv2l : pv2.length = i + 1 := by rw [hpv2.length, natI_length, hadl]
          have hadl2 : (natI (addK i (ps ++ [0]) (rows.take j))).length = i + 1 := by rw [natI_length, hadl]
          have hm5 := map_eq2 (m := m₃) (m₀ := fun z => if z = Str.ofString "row" then m₃ z else mm z) ((em2 _ (by decide)).trans hleads) ((em2 _ (by decide)).trans hparts) (fun z _ _ => looseM (em2 z))
          rw [hm5] at F15
          have hI2I : @Ne Nat I2 I := fun e => hI2off _ (List.Mem.head _) e.symm
          have hI2ch : @Ne Nat I2 chl := fun e => hI2off _ (List.Mem.tail _ (List.Mem.head _)) e.symm
          have hI2pt : @Ne Nat I2 ptl := fun e => hI2off _ (List.Mem.tail _ (List.Mem.tail _ (List.Mem.head _))) e.symm
          clear hI2
          have hsep2 : ∀ p ∈ tl, p.1 ≠ I2 := fun p hp => hI2off p (List.Mem.tail _ (List.Mem.tail _ (List.Mem.tail _ (List.Mem.tail _ (List.Mem.tail _ (List.Mem.tail _ hp))))))
          k_steps
          rename Fr _ _ _ _ => F16
          rename News _ _ _ _ => N16
          refine' EndG.next_same F16 N16 (off_map hI2off rfl) ⟨_, _, rfl, ?_, fun z hz => ?_⟩
          · rw [take_snocL hr9, addK_snoc, natI_set]
            have hxx : ((natI (addK i (ps ++ [0]) (rows.take j))).getD ((r9 : Nat) : Int).toNat 0 + 1 * 2 ^ ((0 : Int) + (i : Int)).toNat) = (((addK i (ps ++ [0]) (rows.take j)).getD r9 0 + 2 ^ i : Nat) : Int) := by
              rw [show ((r9 : Nat) : Int).toNat = r9 from rfl, natI_getD, show ((0 : Int) + (i : Int)).toNat = i by omega, Int.natCast_add, Int.natCast_pow, Int.one_mul]
              rfl
            rw [← hxx]
            exact intsAre_set hpv2 _ _ _
          · show (if z = Str.ofString "row" then _ else if z = Str.ofString "leads" then _ else if z = Str.ofString "parts" then _ else if z = Str.ofString "row" then m₃ z else mm z) = _
            rw [if_neg hz]
            exact row_map hleads hparts hz
        · rintro m₃ nw h3 tk3 F15 N15 ⟨pv2, kp2, rfl, hpv2, em2⟩
          have hm5 := map_eq2 (m := m₃) (m₀ := fun z => if z = Str.ofString "row" then m₃ z else mm z) ((em2 _ (by decide)).trans hleads) ((em2 _ (by decide)).trans hparts) (fun z _ _ => looseM (em2 z))
          clear F14
          rw [hm5] at F15
          have hall : (chv.reverse ++ [Value.int (0 + (i : Int)) t]).length = rows.length := by
            have := hrow.length
            rw [natI_length] at this
            exact this
          rw [hall, List.take_length] at hpv2
          k_steps
          rename Fr _ _ _ _ => F16
          rename News _ _ _ _ => N16
          refine' EndG.next_same F16 N16 (off_map hIoff rfl) ⟨.int (0 + (i : Int)) t :: chv, pv2, kc + 1, kp2, i :: popC ss i ch, addK i (ps ++ [0]) rows, ok, _, ?_, ?_, ?_, hpv2, dk, fun z hz => ?_⟩
          · rw [List.reverse_cons]
          · show _ = stepParts ss i (partsGo ss i)
            rw [← hst, stepParts, hrs]
          · rw [show (0 : Int) + (i : Int) = (i : Int) by omega]
            exact .cons _ _ hchv
          · exact row_map hleads hparts hz
    · clear F9 N9 F7 dk
      rintro m₁ nw h₁ tk₁ F10 N10 ⟨chv, pv, kc, kp, ch, ps, ok, vk, rfl, hst, hchv, hpv, dk, em⟩
      rw [hll] at hst
      have hm4 := map_eq2 (m := m₁) (m₀ := fun z => if z = Str.ofString "row" then m₁ z else mm z) ((em _ (by decide)).trans hleads) ((em _ (by decide)).trans hparts) (fun z _ _ => looseM (em z))
      rw [hm4] at F10
      k_steps
      rename News h₀ _ _ _ => N11
      have hps : ps = (partsGo ss ss.length).2 := by rw [← hst]
      refine h _ _ _ pv kp (by assumption) (fun p hp => N11 p ?_) (fun p hp => allLt_mem hal1 p (hsubt p hp)) (by rw [← hps]; exact hpv)
      rcases List.mem_cons.mp hp with rfl | hp
      · exact List.Mem.tail _ (List.Mem.head _)
      · exact List.Mem.tail _ (List.Mem.tail _ (List.Mem.tail _ (List.Mem.tail _ (List.Mem.tail _ (hsubt p hp)))))
end
end Mine

end
section
open PySem PySem.W PyProof.Rows PySem.Calls PyProof.V PySem.Spec PyProof.Rows.LSm
set_option maxRecDepth 100000
set_option Elab.async false
namespace Mine
section
variable {prog : Program} {w : World} {A : Around} {E : Value → Shared → Prop} {s : Shared} {h₀ : Heap} {L D b : Addr} {m : Str → Option Value} {news : List (Addr × Obj)} {g : Obj → List (Addr × Obj)} {xs ys : List Value} {n n2 : Nat}
theorem UpdF.upd {d : Addr} {o : Obj} (o' : Obj) : ∀ {l : List (Addr × Obj)} {g : Obj → List (Addr × Obj)}, UpdF d o l g → Upd d o o' l (g o')
  | _, _, .head h => .head h
  | _, _, .tail h r => .tail h (UpdF.upd o' r)
theorem m_extend {Q : Value → Shared → Prop} (F : Fr h₀ L s.heap m) (N : News h₀ L s.heap news) (hb : (b, listOf ys.toArray n2) ∈ news) (U : UpdF D (listOf xs.toArray n) news g)
    (hz : xs.length + ys.length ≤ 1000) (h : ∀ h' c, Fr h₀ L h' m → News h₀ L h' (g (listOf (xs ++ ys).toArray c)) → Q .none { s with heap := h' }) : wpAny (model prog w) A (call (.builtin "list.extend") [.ref D, .ref b]) Q E s := by
  have hlong : ¬ (!xs.toArray.isEmpty && Builtin.List.listTooLong (xs.toArray.size + ys.toArray.size)) = true := by
    rw [List.size_toArray, List.size_toArray]
    simp only [Builtin.List.listTooLong]
    intro q
    rw [Bool.and_eq_true] at q
    have := q.2
    simp at this
    rw [sizeLine_eq] at this
    omega
  by_cases hy : ys = []
  · subst hy
    refine kxn_extend F N hb rfl (UpdF.upd _ U) hlong (by simp; rw [sizeLine_eq]; simp at hz; omega) (by rw [List.size_toArray, List.size_toArray, sizeLine_eq]; simp at hz ⊢; omega) fun h' F' N' => h h' n F' (by rw [List.append_nil]; exact N')
  · refine kl_extend F N hb (l := xs ++ ys) rfl (by intro q; exact hy (List.eq_nil_of_length_eq_zero q)) (UpdF.upd _ U) hlong (by simp; rw [sizeLine_eq]; omega) (by rw [List.size_toArray, List.size_toArray, sizeLine_eq]; omega) fun h' F' N' => h h' _ F' N'
theorem boolsAre_mem {vs : List Value} {bs : List Bool} (h : BoolsAre vs bs) : ∀ v ∈ vs, ∃ c, v = .bool c := by
  induction h with
  | nil => intro v hv; cases hv
  | cons c _ ih =>
    intro v hv
    rcases List.mem_cons.mp hv with rfl | hv
    · exact ⟨c, rfl⟩
    · exact ih v hv
noncomputable def isF : Value → Bool
  | .bool c => !c
  | _ => false
theorem boolsAre_any {vs : List Value} {bs : List Bool} (h : BoolsAre vs bs) : vs.any isF = bs.any (fun c => !c) := by
  induction h with
  | nil => rfl
  | cons c _ ih => rw [List.any_cons, List.any_cons, ih]; rfl
theorem m_inB {Q : Value → Shared → Prop} {bs : List Bool} (N : News h₀ L s.heap news) (hm : (D, listOf xs.toArray n) ∈ news) (hb : BoolsAre xs bs) (h : Q (.bool (bs.any fun c => !c)) s) :
    wpAny (model prog w) A (compareOp .In (.bool false) (.ref D)) Q E s := by
  refine PySem.SeqAt.in_listAt isF (N.isList hm) (fun y hy => ?_) ?_
  · obtain ⟨c, rfl⟩ := boolsAre_mem hb y (by simpa using hy)
    have := PySem.SeqAt.EqAt.bool_bool (A := A.in1) (s := s) c false
    have e : (c == false) = isF (.bool c) := by cases c <;> rfl
    rw [e] at this
    exact this
  · rw [List.any_toArray, boolsAre_any hb]; exact h
end
theorem valueAt_stored {K : Type} [DecidableEq K] {v : Value} {k k' : K} : ∀ {kvs : List (K × Value)}, valueAt (stored kvs k v) k' = if k' = k then some v else valueAt kvs k' := by
  intro kvs
  unfold stored
  split
  · rename_i hany
    induction kvs with
    | nil => cases hany
    | cons p r ih =>
      unfold valueAt at ih ⊢
      rw [List.map_cons, List.find?_cons, List.find?_cons]
      by_cases hp : p.1 = k
      · simp only [hp, if_true]
        by_cases hk : k' = k
        · subst hk; simp
        · have hk2 : ¬ k = k' := fun e => hk e.symm
          simp only [decide_eq_false hk2, hk, if_false]
          by_cases hr : (r.any fun kv => decide (kv.1 = k)) = true
          · rw [ih hr, if_neg hk]
          · have : r.map (fun kv => if kv.1 = k then (kv.1, v) else kv) = r := by
              conv => rhs; rw [← List.map_id r]
              apply List.map_congr_left
              intro q hq
              rw [if_neg]; rfl
              intro e
              exact hr (List.any_eq_true.mpr ⟨q, hq, decide_eq_true e⟩)
            have e0 : (fun kv : K × Value => if kv.1 = k then (k, v) else kv) = (fun kv : K × Value => if kv.1 = k then (kv.1, v) else kv) := by
              funext kv; split
              · rename_i e; rw [e]
              · rfl
            rw [this]
      · simp only [hp, if_false]
        rw [List.any_cons, decide_eq_false hp, Bool.false_or] at hany
        by_cases hk : p.1 = k'
        · subst hk; simp [hp]
        · simp only [decide_eq_false hk]
          exact ih hany
  · rename_i hany
    unfold valueAt
    rw [List.find?_append]
    by_cases hk : k' = k
    · subst hk
      have : kvs.find? (fun kv => decide (kv.1 = k')) = none := by
        rw [List.find?_eq_none]
        intro q hq e
        exact hany (List.any_eq_true.mpr ⟨q, hq, e⟩)
      rw [this]; simp
    · have hk2 : ¬ k = k' := fun e => hk e.symm
      simp [hk, hk2]
theorem stored_length {K : Type} [DecidableEq K] {v : Value} {k : K} {kvs : List (K × Value)} : (stored kvs k v).length ≤ kvs.length + 1 := by
  unfold stored
  split
  · rw [List.length_map]; exact Nat.le_succ _
  · rw [List.length_append]; exact Nat.le_refl _

/- the game -/
noncomputable def keyN (rows left who : Nat) : Nat := (rows * 8 + left) * 2 + who
noncomputable def moveR (sg : List Bool) (ps : List Nat) (T rows left : Nat) (who : Nat) (k : Nat) : Bool :=
  rows.testBit k && (sg.getD k false == (who == 1)) && !T.testBit (keyN (rows - (rows &&& ps.getD k 0)) left (1 - who))
noncomputable def moveS (stb : List Bool) (T rows : Nat) (who : Nat) (k : Nat) : Bool :=
  (stb.getD k false == (who == 1)) && !T.testBit (keyN rows k (1 - who))
noncomputable def winB (sg : List Bool) (ps : List Nat) (stb : List Bool) (T rows left who : Nat) : Bool :=
  (List.range 4).any (moveR sg ps T rows left who) || (List.range left).any (moveS stb T rows who)
noncomputable def stepB (sg : List Bool) (ps : List Nat) (stb : List Bool) (rows left who T : Nat) : Nat :=
  if winB sg ps stb T rows left who then T ||| 1 <<< keyN rows left who else T
noncomputable def goW (sg : List Bool) (ps : List Nat) (stb : List Bool) (rows left : Nat) : Nat → Nat → Nat
  | 0, T => T
  | k + 1, T => stepB sg ps stb rows left k (goW sg ps stb rows left k T)
noncomputable def goL (sg : List Bool) (ps : List Nat) (stb : List Bool) (rows : Nat) : Nat → Nat → Nat
  | 0, T => T
  | k + 1, T => goW sg ps stb rows k 2 (goL sg ps stb rows k T)
noncomputable def goR (sg : List Bool) (ps : List Nat) (stb : List Bool) : Nat → Nat
  | 0 => 0
  | k + 1 => goL sg ps stb k (stb.length + 1) (goR sg ps stb k)
structure Tab (kvs : List (Int × Value)) (T cur len : Nat) : Prop where
  size : kvs.length ≤ cur
  top : T < 2 ^ cur
  at' : ∀ r l w, l ≤ len → w < 2 → keyN r l w < cur → valueAt kvs ((keyN r l w : Nat) : Int) = some (.bool (T.testBit (keyN r l w)))
theorem Tab.zero (len : Nat) : Tab [] 0 0 len := ⟨Nat.le_refl _, by decide, fun _ _ _ _ _ h => absurd h (Nat.not_lt_zero _)⟩
theorem Tab.up {kvs : List (Int × Value)} {T cur cur' len : Nat} (t : Tab kvs T cur len) (hle : cur ≤ cur') (h : ∀ r l w, l ≤ len → w < 2 → keyN r l w < cur' → keyN r l w < cur) : Tab kvs T cur' len :=
  ⟨Nat.le_trans t.size hle, Nat.lt_of_lt_of_le t.top (Nat.pow_le_pow_right (by decide) hle), fun r l w a b c => t.at' r l w a b (h r l w a b c)⟩
theorem keyN_inj {r l w r' l' w' : Nat} (h1 : l < 8) (h2 : l' < 8) (h3 : w < 2) (h4 : w' < 2) (h : keyN r l w = keyN r' l' w') : r = r' ∧ l = l' ∧ w = w' := by
  unfold keyN at h
  omega
theorem Tab.step {kvs : List (Int × Value)} {T len : Nat} {b : Bool} {cur : Nat} (t : Tab kvs T cur len) : Tab (stored kvs ((cur : Nat) : Int) (.bool b)) (if b then T ||| 1 <<< cur else T) (cur + 1) len := by
  have h1 : (1 <<< cur : Nat) = 2 ^ cur := Nat.one_shiftLeft cur
  refine ⟨Nat.le_trans stored_length (Nat.succ_le_succ t.size), ?_, ?_⟩
  · split
    · rw [h1]
      refine Nat.or_lt_two_pow (Nat.lt_of_lt_of_le t.top (Nat.pow_le_pow_right (by decide) (Nat.le_succ _))) (Nat.pow_lt_pow_right (by decide) (Nat.lt_succ_self _))
    · exact Nat.lt_of_lt_of_le t.top (Nat.pow_le_pow_right (by decide) (Nat.le_succ _))
  · intro r l w a c e
    rw [valueAt_stored]
    have htop : T.testBit cur = false := Nat.testBit_lt_two_pow t.top
    by_cases hk : keyN r l w = cur
    · rw [if_pos (by rw [hk]), hk]
      cases b
      · simp [htop]
      · simp [h1, Nat.testBit_or, Nat.testBit_two_pow_self]
    · rw [if_neg (by omega), t.at' r l w a c (by omega)]
      cases b
      · simp
      · simp only [if_true, h1, Nat.testBit_or, Nat.testBit_two_pow, decide_eq_false (fun e => hk e.symm : ¬ cur = keyN r l w), Bool.or_false]
theorem any_snoc (f : Nat → Bool) (k : Nat) : (List.range (k + 1)).any f = ((List.range k).any f || f k) := by
  rw [List.range_succ, List.any_append, List.any_cons, List.any_nil, Bool.or_false]
end Mine

end
section
open PySem PySem.W PyProof.Rows PyProof.Rows.LSm
set_option maxRecDepth 100000
set_option Elab.async false
namespace Mine
local macro_rules | `(tactic| omega) => `(tactic| first | lia | omega +splitDisjunctions)
theorem bit_iff (i j : Nat) : Builtin.bitAnd (((0 : Int) + ((i : Nat) : Int)).fdiv (2 ^ ((0 : Int) + ((j : Nat) : Int)).toNat)) 1 ≠ 0 ↔ i.testBit j = true := by
  have h := kbt_mask (((0 : Int) + ((i : Nat) : Int)).fdiv (2 ^ ((0 : Int) + ((j : Nat) : Int)).toNat)) 1
  have e1 : (2 : Int) ^ 1 - 1 = 1 := rfl
  have e2 : (2 : Int) ^ 1 = 2 := rfl
  rw [e1, e2] at h
  rw [h, show ((0 : Int) + (j : Int)).toNat = j by omega, Int.zero_add]
  have e3 : ((i : Int)).fdiv (2 ^ j) = ((i / 2 ^ j : Nat) : Int) := by
    rw [Int.fdiv_eq_ediv_of_nonneg _ (by exact Int.le_of_lt (Int.pow_pos (by decide)))]
    rw [Int.natCast_ediv, Int.natCast_pow]; rfl
  rw [e3, Nat.testBit_eq_decide_div_mod_eq, decide_eq_true_iff]
  omega

theorem bitAnd_notN (i p : Nat) : Builtin.bitAnd ((i : Nat) : Int) (Builtin.bitNot ((p : Nat) : Int)) = ((i - (i &&& p) : Nat) : Int) := by
  have h1 : decide ((0 : Int) ≤ ((i : Nat) : Int)) = true := decide_eq_true (by omega)
  have h2 : decide ((0 : Int) ≤ Builtin.bitNot ((p : Nat) : Int)) = false := decide_eq_false (by unfold Builtin.bitNot; omega)
  have h3 : Builtin.bitNot (Builtin.bitNot ((p : Nat) : Int)) = ((p : Nat) : Int) := by unfold Builtin.bitNot; omega
  unfold Builtin.bitAnd
  rw [h1, h2, h3]
  have hle : i &&& p ≤ i := Nat.and_le_left
  simp only [Int.toNat_natCast]
  omega
theorem key_rows (ps : List Nat) (i l wh j : Nat) (hw : wh < 2) : (Builtin.bitAnd (0 + ((i : Nat) : Int)) (Builtin.bitNot ((natI ps).getD ((0 : Int) + ((j : Nat) : Int)).toNat 0)) * 8 + (0 + ((l : Nat) : Int))) * 2 + 1 - (0 + ((wh : Nat) : Int)) = ((keyN (i - (i &&& ps.getD j 0)) l (1 - wh) : Nat) : Int) := by
  rw [show ((0 : Int) + ((j : Nat) : Int)).toNat = j by omega, natI_getD, Int.zero_add, bitAnd_notN]
  unfold keyN
  omega
theorem key_stalk (i k wh : Nat) (hw : wh < 2) : ((0 + ((i : Nat) : Int)) * 8 + (0 + ((k : Nat) : Int))) * 2 + 1 - (0 + ((wh : Nat) : Int)) = ((keyN i k (1 - wh) : Nat) : Int) := by
  unfold keyN
  omega
theorem key_here (i l wh : Nat) : ((0 + ((i : Nat) : Int)) * 8 + (0 + ((l : Nat) : Int))) * 2 + (0 + ((wh : Nat) : Int)) = ((keyN i l wh : Nat) : Int) := by
  unfold keyN
  omega
theorem row_lt {i p j : Nat} (h1 : i.testBit j = true) (h2 : p.testBit j = true) : i - (i &&& p) < i := by
  have h : (i &&& p).testBit j = true := by rw [Nat.testBit_and, h1, h2]; rfl
  have hz : i &&& p ≠ 0 := fun e => by rw [e, Nat.zero_testBit] at h; cases h
  have hi : i ≠ 0 := fun e => by rw [e, Nat.zero_testBit] at h1; cases h1
  omega
theorem keyN_row {r i l wh wh' : Nat} (h : r < i) (hl : l < 8) (hw : wh < 2) : keyN r l wh < keyN i l wh' := by
  unfold keyN
  omega
theorem keyN_left {i k l wh wh' : Nat} (h : k < l) (hw : wh < 2) : keyN i k wh < keyN i l wh' := by
  unfold keyN
  omega
noncomputable def sgn (b : Bool) : Str := if b then Str.ofString "-" else Str.ofString "+"
theorem sgn_eq (b : Bool) {wh : Nat} (hw : wh < 2) : (sgn b == (⟨#[if wh = 1 then 45 else 43]⟩ : Str)) = (b == (wh == 1)) := by
  have : wh = 0 ∨ wh = 1 := by omega
  rcases this with rfl | rfl <;> cases b <;> decide +kernel
theorem chr_eq (b : Bool) {wh : Nat} (hw : wh < 2) : ((⟨#[if b = true then 45 else 43]⟩ : Str) == (⟨#[if wh = 1 then 45 else 43]⟩ : Str)) = (b == (wh == 1)) := by
  have : wh = 0 ∨ wh = 1 := by omega
  rcases this with rfl | rfl <;> cases b <;> decide +kernel
theorem moveR_yes {sg : List Bool} {ps : List Nat} {T rows left who k : Nat} (hw : who < 2) (hb : Builtin.bitAnd (((0 : Int) + ((rows : Nat) : Int)).fdiv (2 ^ ((0 : Int) + ((k : Nat) : Int)).toNat)) 1 ≠ 0) (hs : (sgn (sg.getD k false) == (⟨#[if who = 1 then 45 else 43]⟩ : Str)) = true) :
    moveR sg ps T rows left who k = !T.testBit (keyN (rows - (rows &&& ps.getD k 0)) left (1 - who)) := by
  unfold moveR
  rw [(bit_iff rows k).mp hb, ← sgn_eq _ hw, hs]
  rfl
theorem moveR_sign {sg : List Bool} {ps : List Nat} {T rows left who k : Nat} (hw : who < 2) (hs : (sgn (sg.getD k false) == (⟨#[if who = 1 then 45 else 43]⟩ : Str)) = false) :
    moveR sg ps T rows left who k = false := by
  unfold moveR
  rw [← sgn_eq _ hw, hs, Bool.and_false, Bool.false_and]
theorem moveR_bit {sg : List Bool} {ps : List Nat} {T rows left who k : Nat} (hb : Builtin.bitAnd (((0 : Int) + ((rows : Nat) : Int)).fdiv (2 ^ ((0 : Int) + ((k : Nat) : Int)).toNat)) 1 = 0) :
    moveR sg ps T rows left who k = false := by
  have : rows.testBit k = false := by
    cases e : rows.testBit k with
    | false => rfl
    | true => exact absurd hb ((bit_iff rows k).mpr e)
  unfold moveR
  rw [this, Bool.false_and, Bool.false_and]
theorem moveS_yes {stb : List Bool} {T rows who k : Nat} (hw : who < 2) (hs : ((⟨#[if stb.getD k false = true then 45 else 43]⟩ : Str) == (⟨#[if who = 1 then 45 else 43]⟩ : Str)) = true) :
    moveS stb T rows who k = !T.testBit (keyN rows k (1 - who)) := by
  unfold moveS
  rw [← chr_eq _ hw, hs]
  rfl
theorem moveS_no {stb : List Bool} {T rows who k : Nat} (hw : who < 2) (hs : ((⟨#[if stb.getD k false = true then 45 else 43]⟩ : Str) == (⟨#[if who = 1 then 45 else 43]⟩ : Str)) = false) :
    moveS stb T rows who k = false := by
  unfold moveS
  rw [← chr_eq _ hw, hs, Bool.false_and]
theorem stk_get {st : Str} {stb : List Bool} (hst : st.cps.toList = stb.map (fun b => if b then 45 else 43)) {k : Nat} (hk : k < stb.length) : st.cps[((0 : Int) + (k : Int)).toNat]? = some (if stb.getD k false = true then 45 else 43) := by
  rw [show ((0 : Int) + (k : Int)).toNat = k by omega, ← Array.getElem?_toList, hst, List.getElem?_map, List.getElem?_eq_getElem hk, List.getD_eq_getElem?_getD, List.getElem?_eq_getElem hk]
  rfl
theorem item_stk {st : Str} {stb : List Bool} (hst : st.cps.toList = stb.map (fun b => if b then 45 else 43)) {k : Nat} (hk : k < stb.length) : Txt.item st ((0 : Int) + (k : Int)) = (⟨#[if stb.getD k false = true then 45 else 43]⟩ : Str) := by
  have hl : st.length = stb.length := by
    have := congrArg List.length hst
    rw [List.length_map] at this
    rw [← this]; rfl
  rw [item_meets ⟨by omega, by omega⟩]
  have h := stk_get hst hk
  rw [Array.getD_eq_getD_getElem?, h]
  rfl
theorem BoolsAre.snoc {vs : List Value} {bs : List Bool} (h : BoolsAre vs bs) (c : Bool) : BoolsAre (vs ++ [.bool c]) (bs ++ [c]) := by
  induction h with
  | nil => exact .cons c .nil
  | cons x _ ih => exact .cons x ih
theorem BoolsAre.app {vs ws : List Value} {bs cs : List Bool} (h : BoolsAre vs bs) (k : BoolsAre ws cs) : BoolsAre (vs ++ ws) (bs ++ cs) := by
  induction h with
  | nil => exact k
  | cons x _ ih => exact .cons x ih
theorem BoolsAre.len {vs : List Value} {bs : List Bool} (h : BoolsAre vs bs) : vs.length = bs.length := by
  induction h with
  | nil => rfl
  | cons x _ ih => simp [ih]
theorem any_no {f : Nat → Bool} {k : Nat} {b : Bool} (h : b = (List.range k).any f) (hf : f k = false) : b = (List.range (k + 1)).any f := by
  rw [any_snoc, hf, Bool.or_false, h]
theorem any_yes {f : Nat → Bool} {k : Nat} {bs : List Bool} {c : Bool} (h : (bs.any fun x => !x) = (List.range k).any f) (hf : f k = !c) : ((bs ++ [c]).any fun x => !x) = (List.range (k + 1)).any f := by
  rw [any_snoc, hf, List.any_append, h, List.any_cons, List.any_nil, Bool.or_false]
section
variable {prog : Program} {w : World} {A : Around} {E : Value → Shared → Prop} {s : Shared} {h₀ : Heap} {L d : Addr} {m : Str → Option Value} {news : List (Addr × Obj)} {o : Obj} {kvs : List (Int × Value)}
theorem m_wins {value slice : PySem.Expr} {key : Int} {tk : Tok} {T cur len r l wh : Nat} {Q : Value → Shared → Prop} (N : News h₀ L s.heap news) (hp : (d, o) ∈ news) (hd : o.IsDictOf (intKind prog w) kvs) (t : Tab kvs T cur len)
    (e : key = ((keyN r l wh : Nat) : Int)) (hl : l ≤ len) (hw : wh < 2) (hlt : keyN r l wh < cur) (h : Q (.bool (T.testBit (keyN r l wh))) { s with toks := s.toks + 1 })
    (hs : subscripted slice false (.ref d) (.int key tk) = operate [.ref d, .int key tk] (getItem (.ref d) (.int key tk)) := by with_unfolding_all rfl) (hg : ∀ r, letTemporaryGo value (.ref d) r = pure () := by intro _; with_unfolding_all rfl) :
    wpAny (model prog w) A (subscriptTail value slice (.ref d) (.int key tk)) Q E s := by
  subst e
  exact kda_item (knd := intKind prog w) N hp hd (intKind_is _ _ _ _) (t.at' r l wh hl hw hlt) h hs hg
theorem m_winset {key : Int} {tk : Tok} {T len cur : Nat} {b : Bool} {g : Obj → List (Addr × Obj)} {Q : Unit → Shared → Prop} (F : Fr h₀ L s.heap m) (N : News h₀ L s.heap news) (U : UpdF d o news g) (hd : o.IsDictOf (intKind prog w) kvs) (t : Tab kvs T cur len)
    (e : key = ((cur : Nat) : Int)) (hc : cur ≤ 1000)
    (h : ∀ h' o' kvs', Fr h₀ L h' m → News h₀ L h' (g o') → o'.IsDictOf (intKind prog w) kvs' → Tab kvs' (if b then T ||| 1 <<< cur else T) (cur + 1) len → Q () { s with heap := h', toks := s.toks + 1 }) :
    wpAny (model prog w) A (setItem (.ref d) (.int key tk) (.bool b)) Q E s := by
  subst e
  refine kda_set (knd := intKind prog w) F N U hd (intKind_is _ _ _ _) ?_ fun h' o' F' N' hd' => h h' o' _ F' N' hd' t.step
  rw [sizeLine_eq]
  have := t.size
  omega
end
end Mine

end
section
open PySem PySem.W PyProof.Rows
set_option maxRecDepth 100000
set_option Elab.async false
set_option maxHeartbeats 2000000
set_option linter.unusedVariables false
set_option linter.unusedSectionVars false
namespace Mine
local macro_rules | `(tactic| walk_at "walkpad0") => `(tactic| skip)
local macro_rules | `(tactic| omega) => `(tactic| first | lia | omega +splitDisjunctions)
local macro_rules | `(tactic| k_room) => `(tactic| ((try simp only [depth_under_make, depth_under_kw, depth_in1, depth_deeper, depth_caller]); (have hR9 : recursionLimit = 1000 := rfl); omega))
local macro_rules | `(tactic| k_steps) => `(tactic| repeat' ((fail_if_success (with_reducible show wpAny _ _ (exec (Stmt.While _ _ _ _) _) _ _ _)); (fail_if_success (with_reducible show wpAny _ _ (exec (Stmt.For _ _ _ _ _) _) _ _ _)); first | (k_unfold; (try dsimp only)) | (k_end; wrow_close) | walk1 | (dsimp only; walk1) | (leave1; walk_say "STEP leave1"; try dsimp only) | fail "no step"))
local macro_rules | `(tactic| walk_at "call builtin:list.pop") => `(tactic| (k_here; k_dflt (refine' kl_pop ?F ?N ?e ?U ?z ?_; (case F => k_asm); (case N => k_asm); (case U => k_upd); (case e => exact kl_last_snoc _ _); (case z => (simp only [List.length_append, List.length_cons, List.length_nil, sizeLine_eq]; omega))); kl_rest))
local macro_rules | `(tactic| k_all) => `(tactic| (refine allLt_ne ?_; first | assumption | exact And.right (by assumption) | exact And.right (And.right (by assumption)) | exact And.right (And.right (And.right (by assumption))) | exact And.right (And.right (And.right (And.right (by assumption)))) | exact And.right (And.right (And.right (And.right (And.right (by assumption))))) | exact And.right (And.right (And.right (And.right (And.right (And.right (by assumption))))))))
-- LISTS
local macro_rules | `(tactic| walk_at "call builtin:len") => `(tactic| (k_here; (with_reducible show wpAny _ _ (call (Value.builtin "len") [Value.ref _]) _ _ _); k_dflt (refine' m_len ?kN ?km ?kf ?_; (case kN => k_asm); (case km => k_mem); (case kf => ((try simp only [List.length_append, List.length_cons, List.length_nil, List.length_replicate, List.length_set]); omega)))))
local macro_rules | `(tactic| walk_at "subscriptTail") => `(tactic| (k_here; (with_reducible show wpAny _ _ (subscriptTail _ _ (Value.ref _) (Value.int (-1) _)) _ _ _); k_dflt (refine' m_last ?kN ?km ?kf ?_; (case kN => k_asm); (case km => k_mem); (case kf => omega))))
local macro_rules | `(tactic| walk_at "subscriptTail") => `(tactic| (k_here; (with_reducible show wpAny _ _ (subscriptTail _ _ (Value.ref _) (Value.int _ _)) _ _ _); k_dflt (refine' m_item_ints ?kN ?km ?ki ?k0 ?k1 ?kf ?_; (case kN => k_asm); (case km => k_mem); (case ki => first | with_reducible assumption | exact IntsAre.append (by with_reducible assumption) (intsAre_rep _ _ _)); (case k0 => omega); (case k1 => ((try simp only [List.length_append, List.length_replicate, natI_length]); omega)); (case kf => omega)); intro t9'))
local macro_rules | `(tactic| walk_at "setItem ref int") => `(tactic| (k_here; k_dflt (refine' m_set ?kF ?kN ?k0 ?k1 ?kf ?kU ?_; (case kF => k_asm); (case kN => k_asm); (case kU => k_upd); (case k0 => omega); (case k1 => ((try simp only [List.length_append, List.length_cons, List.length_nil, List.length_replicate, List.length_set]); omega)); (case kf => omega)); intro h' F' N'; (try dsimp only at N'); (try k_sweep)))
local macro_rules | `(tactic| walk_at "binaryOp Add ref ref") => `(tactic| (k_here; k_dflt (refine' m_add ?kF ?kN ?ka ?kb ?kz ?_; (case kF => k_asm); (case kN => k_asm); (case ka => k_mem); (case kb => k_mem); (case kz => (rw [sizeLine_eq]; (try simp only [List.length_append, List.length_cons, List.length_nil, List.length_replicate, List.length_set]); omega))); intro D' h' F' N' l1; (try k_lt l1); (try k_sweep)))
local macro_rules | `(tactic| walk_at "binaryOp Mult ref int") => `(tactic| (k_here; k_dflt (refine' m_mul ?kF ?kN ?ka ?k0 ?k1 ?_; (case kF => k_asm); (case kN => k_asm); (case ka => k_mem); (case k0 => omega); (case k1 => omega)); intro D' h' F' N' l1; (try k_lt l1); (try k_sweep)))
local macro_rules | `(tactic| walk_at "call type:tuple") => `(tactic| (k_here; (with_reducible show wpAny _ _ (call (Value.type _) [Value.ref _]) _ _ _); k_dflt (refine' kde_tupleOf ?k1 ?k2 ?k3 ?k4 ?k5 ?_; (case k1 => k_asm); (case k2 => k_asm); (case k3 => exact News.isList (by k_asm) (by k_mem)); (case k4 => (rw [List.size_toArray]; omega)); (case k5 => exact List.toList_toArray)); intro D' h' F' N' l1; (try k_lt l1); (try k_sweep)))
-- TUPLES
local macro_rules | `(tactic| k_mem) => `(tactic| (show (_ : Addr × Obj) ∈ (_ : List (Addr × Obj)); with_reducible assumption))
local macro_rules | `(tactic| walk_at "call builtin:len") => `(tactic| (k_here; (with_reducible show wpAny _ _ (call (Value.builtin "len") [Value.ref _]) _ _ _); k_dflt (refine' m_lenT ?kN ?km ?kf ?_; (case kN => k_asm); (case km => k_mem); (case kf => ((try simp only [List.length_append, List.length_cons, List.length_nil]); omega)))))
local macro_rules | `(tactic| walk_at "subscriptTail") => `(tactic| (k_here; (with_reducible show wpAny _ _ (subscriptTail _ _ (Value.ref _) (Value.int _ _)) _ _ _); k_dflt (refine' m_itemT_ints ?kN ?km ?ki ?k0 ?k1 ?kf ?_; (case kN => k_asm); (case km => k_mem); (case ki => with_reducible assumption); (case k0 => omega); (case k1 => ((try simp only [natI_length]); omega)); (case kf => omega)); intro t9'))
local macro_rules | `(tactic| walk_at "call ref") => `(tactic| (k_here; (with_reducible show wpAny _ _ (call (Value.ref 45) [Value.int _ _, Value.int _ _]) _ _ _); k_dflt (refine' add_call ?kd ?ku ?kB ?kF ?kX ?kT ?kN ?_; (case kB => k_asm); (case kF => k_asm); (case kX => k_asm); (case kT => k_asm); (case kN => k_asm); (case kd => (dsimp only [Around.deeper, Around.in1]; omega)); (case ku => (dsimp only [Around.deeper, Around.in1]; omega)); intro h' tk' t' F' N'; (try dsimp only); (try k_sweep))))
local macro_rules | `(tactic| walk_at "call ref") => `(tactic| (k_here; (with_reducible show wpAny _ _ (call (Value.ref 52) [Value.int _ _, Value.int _ _]) _ _ _); k_dflt (refine' mul_call ?kd ?ku ?kB ?kF ?kX ?kT ?kN ?km ?_; (case kB => k_asm); (case kF => k_asm); (case kX => k_asm); (case kT => k_asm); (case kN => k_asm); (case kd => (dsimp only [Around.deeper, Around.in1]; omega)); (case ku => (dsimp only [Around.deeper, Around.in1]; omega)); (case km => mul_fits); intro h' tk' t' F' N'; (try dsimp only); (try k_sweep))))
local macro_rules | `(tactic| walk_at "call ref") => `(tactic| (k_here; (with_reducible show wpAny _ _ (call (Value.ref 59) [Value.int _ _]) _ _ _); k_dflt (refine' neg_call ?kd ?ku ?kB ?kF ?kX ?kT ?kN ?_; (case kB => k_asm); (case kF => k_asm); (case kX => k_asm); (case kT => k_asm); (case kN => k_asm); (case kd => (dsimp only [Around.deeper, Around.in1]; omega)); (case ku => (dsimp only [Around.deeper, Around.in1]; omega)); intro h' tk' t' F' N'; (try dsimp only); (try k_sweep))))
local macro_rules | `(tactic| walk_at "call ref") => `(tactic| (k_here; (with_reducible show wpAny _ _ (call (Value.ref 66) [Value.int _ _]) _ _ _); k_dflt (refine' pos_call ?kd ?ku ?kB ?kF ?kX ?kT ?kN ?_; (case kB => k_asm); (case kF => k_asm); (case kX => k_asm); (case kT => k_asm); (case kN => k_asm); (case kd => (dsimp only [Around.deeper, Around.in1]; omega)); (case ku => (dsimp only [Around.deeper, Around.in1]; omega)); intro h' tk' t' F' N'; (try dsimp only); (try k_sweep))))
local macro_rules | `(tactic| walk_at "call ref") => `(tactic| (k_here; (with_reducible show wpAny _ _ (call (Value.ref 73) [Value.int _ _, Value.int _ _]) _ _ _); k_dflt (refine' rshift_call ?kd ?ku ?kB ?kF ?kX ?kT ?kN ?km ?_; (case kB => k_asm); (case kF => k_asm); (case kX => k_asm); (case kT => k_asm); (case kN => k_asm); (case kd => (dsimp only [Around.deeper, Around.in1]; omega)); (case ku => (dsimp only [Around.deeper, Around.in1]; omega)); (case km => l_bnd); intro h' tk' t' F' N'; (try dsimp only); (try k_sweep))))
local macro_rules | `(tactic| walk_at "call ref") => `(tactic| (k_here; (with_reducible show wpAny _ _ (call (Value.ref 31) [Value.int _ _]) _ _ _); k_dflt (refine' isterminal_call ?kd ?ku ?kB ?kF ?kX ?kT ?kN ?_; (case kB => k_asm); (case kF => k_asm); (case kX => k_asm); (case kT => k_asm); (case kN => k_asm); (case kd => (dsimp only [Around.deeper, Around.in1]; omega)); (case ku => (dsimp only [Around.deeper, Around.in1]; omega)); intro h' tk' F' N'; (try dsimp only); (try k_sweep))))
local macro_rules | `(tactic| walk_at "call ref") => `(tactic| (k_here; (with_reducible show wpAny _ _ (call (Value.ref 38) [Value.int _ _]) _ _ _); k_dflt (refine' iseof_call ?kd ?ku ?kB ?kF ?kX ?kT ?kN ?_; (case kB => k_asm); (case kF => k_asm); (case kX => k_asm); (case kT => k_asm); (case kN => k_asm); (case kd => (dsimp only [Around.deeper, Around.in1]; omega)); (case ku => (dsimp only [Around.deeper, Around.in1]; omega)); intro h' tk' F' N'; (try dsimp only); (try k_sweep))))
local macro_rules | `(tactic| k_steps) => `(tactic| repeat' ((fail_if_success (with_reducible show wpAny _ _ (exec (Stmt.While _ _ _ _) _) _ _ _)); (fail_if_success (with_reducible show wpAny _ _ (exec (Stmt.For _ _ _ _ _) _) _ _ _)); (fail_if_success (with_reducible show wpAny _ _ (eval (Expr.ListComp _ _ _ _) _) _ _ _)); (fail_if_success (with_reducible show PyProof.Rows.LCg.CompSrc _ _ _ _ _ _ _ _ _ _ _ _ _ _)); (fail_if_success (with_reducible show PyProof.Rows.LCt.CompSrcT _ _ _ _ _ _ _ _ _ _ _ _ _ _ _)); (fail_if_success (with_reducible show PyProof.Rows.LCg.CompEnd _ _ _ _ _ _ _ _ _ _ _ _ _ _)); (fail_if_success (with_reducible show wpAny _ _ (call (Value.ref 167) _) _ _ _)); (fail_if_success (with_reducible show wpAny _ _ (exec (Stmt.Assign _ (Expr.ListComp _ _ _ _) _) _) _ _ _)); first | (k_unfold; (try dsimp only)) | (k_end; wrow_close) | walk1 | (dsimp only; walk1) | (leave1; walk_say "STEP leave1"; try dsimp only) | fail "no step"))


local macro_rules | `(tactic| k_all) => `(tactic| (refine allLt_ne ?_; first | assumption | exact And.right (by assumption) | exact And.right (And.right (by assumption)) | exact And.right (And.right (And.right (by assumption))) | exact And.right (And.right (And.right (And.right (by assumption)))) | exact And.right (And.right (And.right (And.right (And.right (by assumption))))) | exact And.right (And.right (And.right (And.right (And.right (And.right (by assumption)))))) | exact And.right (And.right (And.right (And.right (And.right (And.right (And.right (by assumption))))))) | exact And.right (And.right (And.right (And.right (And.right (And.right (And.right (And.right (by assumption)))))))) | exact And.right (And.right (And.right (And.right (And.right (And.right (And.right (And.right (And.right (by assumption))))))))) | exact And.right (And.right (And.right (And.right (And.right (And.right (And.right (And.right (And.right (And.right (by assumption)))))))))) | exact And.right (And.right (And.right (And.right (And.right (And.right (And.right (And.right (And.right (And.right (And.right (by assumption))))))))))) | exact And.right (And.right (And.right (And.right (And.right (And.right (And.right (And.right (And.right (And.right (And.right (And.right (by assumption)))))))))))) | exact And.right (And.right (And.right (And.right (And.right (And.right (And.right (And.right (And.right (And.right (And.right (And.right (And.right (by assumption))))))))))))) | exact And.right (And.right (And.right (And.right (And.right (And.right (And.right (And.right (And.right (And.right (And.right (And.right (And.right (And.right (by assumption)))))))))))))) | exact And.right (And.right (And.right (And.right (And.right (And.right (And.right (And.right (And.right (And.right (And.right (And.right (And.right (And.right (And.right (by assumption)))))))))))))))))
local macro_rules | `(tactic| walk_at "subscriptTail") => `(tactic| (k_here; (with_reducible show wpAny _ _ (subscriptTail _ _ (Value.str _ _) (Value.int (0 + _) _)) _ _ _); k_dflt (refine' m_char ?h0 ?hf ?hc ?_; (case h0 => omega); (case hf => omega); (case hc => with_reducible assumption)); intro t9'))
theorem sgs_get : ∀ {vs : List Value} {bs : List Bool}, StrsAre vs (bs.map sgn) → ∀ j, j < bs.length → ∃ t, vs[j]? = some (.str (sgn (bs.getD j false)) t)
  | _, [], _, j, h => absurd h (Nat.not_lt_zero j)
  | _, b :: bs, .cons _ t r, 0, _ => ⟨t, rfl⟩
  | _, b :: bs, .cons _ t r, j + 1, h => by
    obtain ⟨t', e⟩ := sgs_get r j (Nat.lt_of_succ_lt_succ h)
    exact ⟨t', e⟩
local macro_rules | `(tactic| walk_at "subscriptTail") => `(tactic| (k_here; (with_reducible show wpAny _ _ (subscriptTail _ _ (Value.ref _) (Value.int _ _)) _ _ _); k_dflt (refine' m_item ?kN ?km ?k0 ?kf ?kx ?_; (case kN => k_asm); (case km => k_mem); (case kx => with_reducible assumption); (case k0 => omega); (case kf => omega))))
section
variable {w : World} {A₀ : Around} {d u : Nat} {gd : Option (List Code)} {names : List (Str × NameKind)} {ig ic : Bool} {more : List (Str × Const)} {lo gl : Addr} {ce : List (Str × Addr)} {qual : Str} {fu : Option Addr} {co : Value} {L : Addr} {bu : Addr}
  {outer : List Env} {E : Value → Shared → Prop} {s : Shared} {h₀ base : Heap} {m mg mb : Str → Option Value} {news : List (Addr × Obj)} {p : Program} {loose : List Str} {mean : ExcName → Option Value} {Q : Value → Shared → Prop}
  (hd9 : d < 450) (hu9 : u < 2000)
  (B : Below A₀ base outer h₀) (F : Fr h₀ L s.heap m) (X₀ : (hd.heap_39 w.params).In h₀) (T : Top p loose mean mg mb h₀)
include hd9 hu9 B F X₀ T

theorem wins_call {sg pl : Addr} {sgvs pvs : List Value} {k0 k1 : Nat} {sgs : List Bool} {ps : List Nat} {st : Str} {stb : List Bool} {tst : Tok}
  (N : News h₀ L s.heap news) (hsg : (sg, listOf sgvs.toArray k0) ∈ news) (hpl : (pl, listOf pvs.toArray k1) ∈ news)
  (hsgs : StrsAre sgvs (sgs.map sgn)) (hps : IntsAre pvs (natI ps)) (hl1 : sgs.length = 4) (hl2 : ps.length = 4) (hst : st.cps.toList = stb.map (fun b => if b then 45 else 43)) (hl3 : stb.length ≤ 7) (hps2 : ∀ k, k < 4 → (ps.getD k 0).testBit k = true)
  (h : ∀ h' tk cl k, Fr h₀ L h' m → News h₀ L h' ((cl, listOf [Value.bool ((goR sgs ps stb 16).testBit (keyN 15 stb.length 0)), Value.bool ((goR sgs ps stb 16).testBit (keyN 15 stb.length 1))].toArray k) :: news) → (∀ p ∈ news, @LT.lt Nat _ p.1 cl) → Q (.ref cl) { s with heap := h', toks := tk }) :
  wpAny (model PySem.Challenge.rw_tl0031_01.row.prog w) (Around.mk none d (some (envM names ig ic more lo gl ce qual fu co L bu :: outer)) gd u) (call (.ref 177) [.ref sg, .ref pl, .str st tst]) Q E s := by
  w_top off
  revert X₀
  k_fill
  intro X₀
  refine wpAny_noRaise ?_
  refine wpAny_call ?_
  have hll : sgvs.length = 4 := by rw [hsgs.length, List.length_map, hl1]
  have hpl4 : pvs.length = 4 := by rw [hps.length, natI_length, hl2]
  refine' code_defC ?k1 ?k2 ?k3 ?k4 ?k5 ?kA ?kF ?kK ?k6 ?k7 ?k8 ?k9 ?kB ?kD ?_ ?c2 ?c3 ?c4
  (case kA => exact rfl)
  (case kF => exact rfl)
  (case kK => exact rfl)
  (case k1 => k_asm)
  (case k2 => k_asm)
  (case k3 => k_asm)
  (case k4 => k_asm)
  (case k5 => k_asm)
  (case k6 => k_is)
  (case k7 => k_is)
  (case k8 => k_room)
  (case k9 => first | exact BindsTo.of_eq rfl | exact binds_K (by k_in) rfl (by k_is) rfl rfl rfl)
  (case kB => exact rfl)
  (case kD => decide +kernel)
  (case c2 => exact rfl)
  (case c3 => exact rfl)
  (case c4 => exact rfl)
  k_whole
  intro g L9 h1 tk1 cells FG F1 N1 Y1 B1 X1 T1 hL9
  obtain ⟨o1, o2, o3, o4, o5, o6, o7, rfl, d1, d2, d3, d4, d5, d6, d7⟩ := PyProof.Rows.kc_seven Y1
  simp only [List.cons_append, List.nil_append] at N1
  have hal : AllLt L9 news := allLt_of hL9
  have hA1 : AllLt (L9 + 1) news := allLt_of fun p hp => Nat.lt_add_right 1 (hL9 p hp)
  have hA2 : AllLt (L9 + 1 + 1) news := allLt_of fun p hp => Nat.lt_add_right 2 (hL9 p hp)
  have hA3 : AllLt (L9 + 1 + 1 + 1) news := allLt_of fun p hp => Nat.lt_add_right 3 (hL9 p hp)
  have hA4 : AllLt (L9 + 1 + 1 + 1 + 1) news := allLt_of fun p hp => Nat.lt_add_right 4 (hL9 p hp)
  have hA5 : AllLt (L9 + 1 + 1 + 1 + 1 + 1) news := allLt_of fun p hp => Nat.lt_add_right 5 (hL9 p hp)
  have hA6 : AllLt (L9 + 1 + 1 + 1 + 1 + 1 + 1) news := allLt_of fun p hp => Nat.lt_add_right 6 (hL9 p hp)
  have hA7 : AllLt (L9 + 1 + 1 + 1 + 1 + 1 + 1 + 1) news := allLt_of fun p hp => Nat.lt_add_right 7 (hL9 p hp)
  (try dsimp only)
  (try k_fold)
  k_steps
  rename Fr _ _ _ _ => F2
  rename News _ _ _ _ => N2
  rename Obj.IsDictOf (intKind _ _) _ _ => hi2
  rename @LT.lt Nat _ _ _ ∧ _ => hl1
  obtain ⟨Dw, ow, oW, oL, oR, oD, vw, vl, vr, hDn, hdD, hdW, hdL, hdR, hi2, N3⟩ : ∃ (Dw : Addr) (ow : Obj) (oW oL oR oD : Obj) (vw vl vr : Option Value), ((@LT.lt Nat _ (L9 + 7) Dw) ∧ AllLt Dw news) ∧ oD.data = Data.cell (some (.ref Dw)) ∧ oW.data = Data.cell vw ∧ oL.data = Data.cell vl ∧ oR.data = Data.cell vr ∧ ow.IsDictOf (intKind PySem.Challenge.rw_tl0031_01.row.prog w) [] ∧
      News g L9 _ ((Dw, ow) :: (L9 + 1 + 1 + 1 + 1 + 1 + 1 + 1, oW) :: (L9 + 1 + 1 + 1 + 1 + 1 + 1, oL) :: (L9 + 1 + 1 + 1 + 1 + 1, oR) :: (L9 + 1 + 1 + 1 + 1, oD) :: (L9 + 1 + 1 + 1, o5) :: (L9 + 1 + 1, o6) :: (L9 + 1, o7) :: news) :=
    ⟨_, _, _, _, _, _, _, _, _, ⟨hl1.1, hl1.2.2.2.2.2.2.2⟩, by assumption, d1, d2, d3, hi2, N2⟩
  have dS : o5.data = Data.cell (some (.str st tst)) := d5
  have dP : o6.data = Data.cell (some (.ref pl)) := d6
  have dG : o7.data = Data.cell (some (.ref sg)) := d7
  clear hl1 N2 d1 d2 d3 d4 d5 d6 d7 Y1
  refine For_gen F2 ?_
  k_steps
  rename IsRange _ _ _ _ _ _ _ _ => RG
  rename Fr _ _ _ _ => F4
  rename News _ _ _ _ => N4
  have hDl := hDn.1
  have hDa := hDn.2
  have hstl : st.length = stb.length := by
    have := congrArg List.length hst
    rw [List.length_map] at this
    rw [← this]; rfl
  refine iter_rangeG (n := 16) (fun i m nw => ∃ (ow oW oL oR : Obj) (vw vl vr : Option Value) (kvs : List (Int × Value)),
        nw = (Dw, ow) :: (L9 + 1 + 1 + 1 + 1 + 1 + 1 + 1, oW) :: (L9 + 1 + 1 + 1 + 1 + 1 + 1, oL) :: (L9 + 1 + 1 + 1 + 1 + 1, oR) :: (L9 + 1 + 1 + 1 + 1, oD) :: (L9 + 1 + 1 + 1, o5) :: (L9 + 1 + 1, o6) :: (L9 + 1, o7) :: news ∧
        oW.data = Data.cell vw ∧ oL.data = Data.cell vl ∧ oR.data = Data.cell vr ∧ ow.IsDictOf (intKind PySem.Challenge.rw_tl0031_01.row.prog w) kvs ∧ Tab kvs (goR sgs ps stb i) (keyN i 0 0) stb.length)
      rfl RG (by rw [hll]; decide) (by rw [hll]; decide) F4 N4 ⟨ow, oW, oL, oR, vw, vl, vr, [], rfl, hdW, hdL, hdR, hi2, Tab.zero _⟩ ?_ ?_
  · clear F4 N4 hi2 hdW hdL hdR
    rintro i t I o m₁ nw h₁ tk₁ hi ⟨ow, oW, oL, oR, vw, vl, vr, kvs, rfl, hdW, hdL, hdR, hi2, htab⟩ hI hIoff F4 N4
    have hIx0 : @Ne Nat I (Dw) := fun e => hIoff _ (List.Mem.head _) e.symm
    have hIx1 : @Ne Nat I (L9 + 1 + 1 + 1 + 1 + 1 + 1 + 1) := fun e => hIoff _ (List.Mem.tail _ (List.Mem.head _)) e.symm
    have hIx2 : @Ne Nat I (L9 + 1 + 1 + 1 + 1 + 1 + 1) := fun e => hIoff _ (List.Mem.tail _ (List.Mem.tail _ (List.Mem.head _))) e.symm
    have hIx3 : @Ne Nat I (L9 + 1 + 1 + 1 + 1 + 1) := fun e => hIoff _ (List.Mem.tail _ (List.Mem.tail _ (List.Mem.tail _ (List.Mem.head _)))) e.symm
    have hIx4 : @Ne Nat I (L9 + 1 + 1 + 1 + 1) := fun e => hIoff _ (List.Mem.tail _ (List.Mem.tail _ (List.Mem.tail _ (List.Mem.tail _ (List.Mem.head _))))) e.symm
    have hIx5 : @Ne Nat I (L9 + 1 + 1 + 1) := fun e => hIoff _ (List.Mem.tail _ (List.Mem.tail _ (List.Mem.tail _ (List.Mem.tail _ (List.Mem.tail _ (List.Mem.head _)))))) e.symm
    have hIx6 : @Ne Nat I (L9 + 1 + 1) := fun e => hIoff _ (List.Mem.tail _ (List.Mem.tail _ (List.Mem.tail _ (List.Mem.tail _ (List.Mem.tail _ (List.Mem.tail _ (List.Mem.head _))))))) e.symm
    have hIx7 : @Ne Nat I (L9 + 1) := fun e => hIoff _ (List.Mem.tail _ (List.Mem.tail _ (List.Mem.tail _ (List.Mem.tail _ (List.Mem.tail _ (List.Mem.tail _ (List.Mem.tail _ (List.Mem.head _)))))))) e.symm
    have hIn : ∀ p ∈ news, p.1 ≠ I := fun p hp => hIoff p (List.Mem.tail _ (List.Mem.tail _ (List.Mem.tail _ (List.Mem.tail _ (List.Mem.tail _ (List.Mem.tail _ (List.Mem.tail _ (List.Mem.tail _ hp))))))))
    clear hI
    refine body_gen (by rfl) ?_
    intro A1 Q1 hA1 hQ1
    k_steps
    rename Fr _ _ _ _ => F5
    rename News _ _ _ _ => N5
    rename Obj.data _ = Data.cell (some (Value.int _ _)) => hdR2
    refine For_gen F5 ?_
    k_steps
    rename IsRange _ _ _ _ _ _ _ _ => RG2
    rename Fr _ _ _ _ => F6
    rename News _ _ _ _ => N6
    refine iter_rangeG (n := stb.length + 1) (fun l m nw => ∃ (ow oW oL oR : Obj) (vw vl : Option Value) (kvs : List (Int × Value)),
        nw = (I, o) :: (Dw, ow) :: (L9 + 1 + 1 + 1 + 1 + 1 + 1 + 1, oW) :: (L9 + 1 + 1 + 1 + 1 + 1 + 1, oL) :: (L9 + 1 + 1 + 1 + 1 + 1, oR) :: (L9 + 1 + 1 + 1 + 1, oD) :: (L9 + 1 + 1 + 1, o5) :: (L9 + 1 + 1, o6) :: (L9 + 1, o7) :: news ∧
        oW.data = Data.cell vw ∧ oL.data = Data.cell vl ∧ oR.data = Data.cell (some (.int (0 + (i : Int)) t)) ∧ ow.IsDictOf (intKind PySem.Challenge.rw_tl0031_01.row.prog w) kvs ∧ Tab kvs (goL sgs ps stb i l (goR sgs ps stb i)) (keyN i l 0) stb.length)
      hA1 RG2 (small_one (by omega) (by omega) (by omega) (by omega)) (by rw [rangeSize_nat]; omega) F6 N6 ⟨ow, oW, oL, _, vw, vl, kvs, rfl, hdW, hdL, hdR2, hi2, htab⟩ ?_ ?_
    · clear F6 N6 hi2 hdW hdL hdR hdR2 htab
      rintro l t2 I2 o2 m₂ nw h₂ tk₂ hl ⟨ow, oW, oL, oR, vw, vl, kvs, rfl, hdW, hdL, hdR, hi2, htab⟩ hI2 hI2off F6 N6
      have hI2x0 : @Ne Nat I2 (Dw) := fun e => hI2off _ (List.Mem.tail _ (List.Mem.head _)) e.symm
      have hI2x1 : @Ne Nat I2 (L9 + 1 + 1 + 1 + 1 + 1 + 1 + 1) := fun e => hI2off _ (List.Mem.tail _ (List.Mem.tail _ (List.Mem.head _))) e.symm
      have hI2x2 : @Ne Nat I2 (L9 + 1 + 1 + 1 + 1 + 1 + 1) := fun e => hI2off _ (List.Mem.tail _ (List.Mem.tail _ (List.Mem.tail _ (List.Mem.head _)))) e.symm
      have hI2x3 : @Ne Nat I2 (L9 + 1 + 1 + 1 + 1 + 1) := fun e => hI2off _ (List.Mem.tail _ (List.Mem.tail _ (List.Mem.tail _ (List.Mem.tail _ (List.Mem.head _))))) e.symm
      have hI2x4 : @Ne Nat I2 (L9 + 1 + 1 + 1 + 1) := fun e => hI2off _ (List.Mem.tail _ (List.Mem.tail _ (List.Mem.tail _ (List.Mem.tail _ (List.Mem.tail _ (List.Mem.head _)))))) e.symm
      have hI2x5 : @Ne Nat I2 (L9 + 1 + 1 + 1) := fun e => hI2off _ (List.Mem.tail _ (List.Mem.tail _ (List.Mem.tail _ (List.Mem.tail _ (List.Mem.tail _ (List.Mem.tail _ (List.Mem.head _))))))) e.symm
      have hI2x6 : @Ne Nat I2 (L9 + 1 + 1) := fun e => hI2off _ (List.Mem.tail _ (List.Mem.tail _ (List.Mem.tail _ (List.Mem.tail _ (List.Mem.tail _ (List.Mem.tail _ (List.Mem.tail _ (List.Mem.head _)))))))) e.symm
      have hI2x7 : @Ne Nat I2 (L9 + 1) := fun e => hI2off _ (List.Mem.tail _ (List.Mem.tail _ (List.Mem.tail _ (List.Mem.tail _ (List.Mem.tail _ (List.Mem.tail _ (List.Mem.tail _ (List.Mem.tail _ (List.Mem.head _))))))))) e.symm
      have hI2n : ∀ p ∈ news, p.1 ≠ I2 := fun p hp => hI2off p (List.Mem.tail _ (List.Mem.tail _ (List.Mem.tail _ (List.Mem.tail _ (List.Mem.tail _ (List.Mem.tail _ (List.Mem.tail _ (List.Mem.tail _ (List.Mem.tail _ hp)))))))))
      have hI2xI : @Ne Nat I2 I := fun e => hI2off _ (List.Mem.head _) e.symm
      clear hI2
      refine body_gen hA1 ?_
      intro A2 Q2 hA2 hQ2
      k_steps
      rename Fr _ _ _ _ => F7
      rename News _ _ _ _ => N7
      rename Obj.data _ = Data.cell (some (Value.int (0 + (l : Int)) _)) => hdL2
      refine For_gen F7 ?_
      k_steps
      rename IsRange _ _ _ _ _ _ _ _ => RG3
      rename Fr _ _ _ _ => F8
      rename News _ _ _ _ => N8
      refine iter_rangeG (n := 2) (fun wh m nw => ∃ (ow oW oL oR : Obj) (vw : Option Value) (kvs : List (Int × Value)),
          nw = (I2, o2) :: (I, o) :: (Dw, ow) :: (L9 + 1 + 1 + 1 + 1 + 1 + 1 + 1, oW) :: (L9 + 1 + 1 + 1 + 1 + 1 + 1, oL) :: (L9 + 1 + 1 + 1 + 1 + 1, oR) :: (L9 + 1 + 1 + 1 + 1, oD) :: (L9 + 1 + 1 + 1, o5) :: (L9 + 1 + 1, o6) :: (L9 + 1, o7) :: news ∧
          oW.data = Data.cell vw ∧ oL.data = Data.cell (some (.int (0 + (l : Int)) t2)) ∧ oR.data = Data.cell (some (.int (0 + (i : Int)) t)) ∧ ow.IsDictOf (intKind PySem.Challenge.rw_tl0031_01.row.prog w) kvs ∧ Tab kvs (goW sgs ps stb i l wh (goL sgs ps stb i l (goR sgs ps stb i))) (keyN i l wh) stb.length)
        hA2 RG3 (by decide) (by decide) F8 N8 ⟨ow, oW, _, oR, vw, kvs, rfl, hdW, hdL2, hdR, hi2, htab⟩ ?_ ?_
      · clear F8 N8 hi2 hdW hdL hdR hdL2 htab
        rintro wh t3 I3 o3 m₃ nw h₃ tk₃ hw ⟨ow, oW, oL, oR, vw, kvs, rfl, hdW, hdL, hdR, hi2, htab⟩ hI3 hI3off F8 N8
        have hI3x0 : @Ne Nat I3 (Dw) := fun e => hI3off _ (List.Mem.tail _ (List.Mem.tail _ (List.Mem.head _))) e.symm
        have hI3x1 : @Ne Nat I3 (L9 + 1 + 1 + 1 + 1 + 1 + 1 + 1) := fun e => hI3off _ (List.Mem.tail _ (List.Mem.tail _ (List.Mem.tail _ (List.Mem.head _)))) e.symm
        have hI3x2 : @Ne Nat I3 (L9 + 1 + 1 + 1 + 1 + 1 + 1) := fun e => hI3off _ (List.Mem.tail _ (List.Mem.tail _ (List.Mem.tail _ (List.Mem.tail _ (List.Mem.head _))))) e.symm
        have hI3x3 : @Ne Nat I3 (L9 + 1 + 1 + 1 + 1 + 1) := fun e => hI3off _ (List.Mem.tail _ (List.Mem.tail _ (List.Mem.tail _ (List.Mem.tail _ (List.Mem.tail _ (List.Mem.head _)))))) e.symm
        have hI3x4 : @Ne Nat I3 (L9 + 1 + 1 + 1 + 1) := fun e => hI3off _ (List.Mem.tail _ (List.Mem.tail _ (List.Mem.tail _ (List.Mem.tail _ (List.Mem.tail _ (List.Mem.tail _ (List.Mem.head _))))))) e.symm
        have hI3x5 : @Ne Nat I3 (L9 + 1 + 1 + 1) := fun e => hI3off _ (List.Mem.tail _ (List.Mem.tail _ (List.Mem.tail _ (List.Mem.tail _ (List.Mem.tail _ (List.Mem.tail _ (List.Mem.tail _ (List.Mem.head _)))))))) e.symm
        have hI3x6 : @Ne Nat I3 (L9 + 1 + 1) := fun e => hI3off _ (List.Mem.tail _ (List.Mem.tail _ (List.Mem.tail _ (List.Mem.tail _ (List.Mem.tail _ (List.Mem.tail _ (List.Mem.tail _ (List.Mem.tail _ (List.Mem.head _))))))))) e.symm
        have hI3x7 : @Ne Nat I3 (L9 + 1) := fun e => hI3off _ (List.Mem.tail _ (List.Mem.tail _ (List.Mem.tail _ (List.Mem.tail _ (List.Mem.tail _ (List.Mem.tail _ (List.Mem.tail _ (List.Mem.tail _ (List.Mem.tail _ (List.Mem.head _)))))))))) e.symm
        have hI3n : ∀ p ∈ news, p.1 ≠ I3 := fun p hp => hI3off p (List.Mem.tail _ (List.Mem.tail _ (List.Mem.tail _ (List.Mem.tail _ (List.Mem.tail _ (List.Mem.tail _ (List.Mem.tail _ (List.Mem.tail _ (List.Mem.tail _ (List.Mem.tail _ hp))))))))))
        have hI3xI : @Ne Nat I3 I := fun e => hI3off _ (List.Mem.tail _ (List.Mem.head _)) e.symm
        have hI3xI2 : @Ne Nat I3 I2 := fun e => hI3off _ (List.Mem.head _) e.symm
        clear hI3
        refine body_gen hA2 ?_
        intro A3 Q3 hA3 hQ3
        k_steps
        rename Fr _ _ _ _ => F9
        rename News _ _ _ _ => N9
        rename Obj.data _ = Data.cell (some (Value.int (0 + (wh : Int)) _)) => hdW2
        refine LCt.Assign_ListComp_T (F₀ := F9) (by rfl) (by with_unfolding_all rfl) (by with_unfolding_all rfl) (by decide) (by rfl) (by decide) (by rfl) (by rfl) (by rfl) ?_
        k_steps
        rename IsRange _ _ _ _ _ _ _ _ => RG4
        rename Fr _ _ _ _ => F10
        rename News _ _ _ _ => N10
        obtain ⟨bw, hbw, N11⟩ := news_get N10
        refine LCt.CompSrcT.range (n := 4) hA3 F10 N11 RG4 (by rw [hll]; decide) (by rw [hll]; decide) (by rw [sizeLine_eq]; omega) ?_
        intro g3
        refine compRestT_ind (fun j zs nw => nw = bw ∧ ∃ bs, PyProof.Rows.LSm.BoolsAre zs bs ∧ bs.length ≤ j ∧ (bs.any fun c => !c) = (List.range j).any (moveR sgs ps (goW sgs ps stb i l wh (goL sgs ps stb i l (goR sgs ps stb i))) i l wh)) 4 ?_ ?_ ⟨rfl, [], .nil, Nat.le_refl _, rfl⟩
        · (try clear F9); (try clear N9); (try clear F10); (try clear N10); clear N11
          rintro j zs nw v I4 oI4 C4 oC4 D4 m₄ h4 tk4 E4 hj ⟨rfl, bs, hbs, hbl, hany⟩ ⟨tj, rfl⟩ hC hx F12 N12 off ⟨ne1, ne2, ne3⟩
          subst hbw
          obtain ⟨tsg, hsgk⟩ := sgs_get hsgs j (by omega)
          have hsgk2 : sgvs[((0 : Int) + (j : Int)).toNat]? = some (.str (sgn (sgs.getD j false)) tsg) := by rw [show ((0 : Int) + (j : Int)).toNat = j by omega]; exact hsgk
          refine compT_gen hA3 ?_
          intro A4 Q4 P4 hA4 hQ4 hP4
          have hchr : (Str.ofString "+-").cps[((0 : Int) + (wh : Int)).toNat]? = some (if wh = 1 then 45 else 43) := by
            have : wh = 0 ∨ wh = 1 := by omega
            rcases this with rfl | rfl <;> decide +kernel
          iterate 12 (first | (k_unfold; (try dsimp only)) | (k_end; wrow_close) | walk1 | (dsimp only; walk1) | (leave1; walk_say "STEP leave1"; try dsimp only))
          · iterate 40 (first | (k_unfold; (try dsimp only)) | (k_end; wrow_close) | walk1 | (dsimp only; walk1) | (leave1; walk_say "STEP leave1"; try dsimp only))
            · rename (_ == _) = true => hs9
              rename _ ≠ (0 : Int) => hb9
              refine m_wins N12 (.tail _ (.tail _ (.tail _ (.tail _ (.tail _ (.tail _ (.head _))))))) hi2 htab (key_rows ps i l wh j hw) (by omega) (by omega) (keyN_row (row_lt ((bit_iff i j).mp hb9) (hps2 j hj)) (by omega) (by omega)) ?_
              exact hQ4 _ _ <| LCg.CompEnd.intro F12 N12 _ (fun _ h => h) off trivial ⟨rfl, bs ++ [_], BoolsAre.snoc hbs _, (by rw [List.length_append, List.length_singleton]; omega), any_yes hany (moveR_yes hw hb9 hs9)⟩
            · rename (_ == _) = false => hs9
              iterate 1 (first | (k_unfold; (try dsimp only)) | (k_end; wrow_close) | walk1 | (dsimp only; walk1) | (leave1; walk_say "STEP leave1"; try dsimp only))
              exact hP4 _ <| LCg.CompEnd.intro F12 N12 _ (fun _ h => h) off trivial ⟨rfl, bs, hbs, (by omega), any_no hany (moveR_sign hw hs9)⟩
          · rename _ = (0 : Int) => hb9
            iterate 1 (first | (k_unfold; (try dsimp only)) | (k_end; wrow_close) | walk1 | (dsimp only; walk1) | (leave1; walk_say "STEP leave1"; try dsimp only))
            exact hP4 _ <| LCg.CompEnd.intro F12 N12 _ (fun _ h => h) off trivial ⟨rfl, bs, hbs, (by omega), any_no hany (moveR_bit hb9)⟩
        · subst hbw
          rintro zs nw ⟨rfl, bs, hbs, hbl, hany⟩
          unfold LCg.FinA
          intro D4 h4 tk4 F12 N12 off
          (try dsimp only)
          have hD4x0 : @Ne Nat D4 (I3) := fun e => (off1_mem off _ (.head _)) e.symm
          have hD4x1 : @Ne Nat D4 (I2) := fun e => (off1_mem off _ (.tail _ (.head _))) e.symm
          have hD4x2 : @Ne Nat D4 (I) := fun e => (off1_mem off _ (.tail _ (.tail _ (.head _)))) e.symm
          have hD4x3 : @Ne Nat D4 (Dw) := fun e => (off1_mem off _ (.tail _ (.tail _ (.tail _ (.head _))))) e.symm
          have hD4x4 : @Ne Nat D4 (L9 + 1 + 1 + 1 + 1 + 1 + 1 + 1) := fun e => (off1_mem off _ (.tail _ (.tail _ (.tail _ (.tail _ (.head _)))))) e.symm
          have hD4x5 : @Ne Nat D4 (L9 + 1 + 1 + 1 + 1 + 1 + 1) := fun e => (off1_mem off _ (.tail _ (.tail _ (.tail _ (.tail _ (.tail _ (.head _))))))) e.symm
          have hD4x6 : @Ne Nat D4 (L9 + 1 + 1 + 1 + 1 + 1) := fun e => (off1_mem off _ (.tail _ (.tail _ (.tail _ (.tail _ (.tail _ (.tail _ (.head _)))))))) e.symm
          have hD4x7 : @Ne Nat D4 (L9 + 1 + 1 + 1 + 1) := fun e => (off1_mem off _ (.tail _ (.tail _ (.tail _ (.tail _ (.tail _ (.tail _ (.tail _ (.head _))))))))) e.symm
          have hD4x8 : @Ne Nat D4 (L9 + 1 + 1 + 1) := fun e => (off1_mem off _ (.tail _ (.tail _ (.tail _ (.tail _ (.tail _ (.tail _ (.tail _ (.tail _ (.head _)))))))))) e.symm
          have hD4x9 : @Ne Nat D4 (L9 + 1 + 1) := fun e => (off1_mem off _ (.tail _ (.tail _ (.tail _ (.tail _ (.tail _ (.tail _ (.tail _ (.tail _ (.tail _ (.head _))))))))))) e.symm
          have hD4x10 : @Ne Nat D4 (L9 + 1) := fun e => (off1_mem off _ (.tail _ (.tail _ (.tail _ (.tail _ (.tail _ (.tail _ (.tail _ (.tail _ (.tail _ (.tail _ (.head _)))))))))))) e.symm
          have hD4n : ∀ p ∈ news, p.1 ≠ D4 := fun p hp => off1_mem off p (.tail _ (.tail _ (.tail _ (.tail _ (.tail _ (.tail _ (.tail _ (.tail _ (.tail _ (.tail _ (.tail _ (hp))))))))))))
          k_steps
          refine LCt.ListComp_T (F₀ := F12) (by with_unfolding_all rfl) (by decide) (by rfl) (by decide) (by rfl) ?_
          k_steps
          rename IsRange _ _ _ _ _ _ _ _ => RG5
          rename Fr _ _ _ _ => F14
          rename News _ _ _ _ => N14
          obtain ⟨bw, hbw, N15⟩ := news_get N14
          refine LCt.CompSrcT.range (n := l) hA3 F14 N15 RG5 (small_one (by omega) (by omega) (by omega) (by omega)) (by rw [Int.zero_add, rangeSize_nat]; omega) (by rw [sizeLine_eq]; omega) ?_
          intro g4
          refine compRestT_ind (fun j ys nw => nw = bw ∧ ∃ bs2, PyProof.Rows.LSm.BoolsAre ys bs2 ∧ bs2.length ≤ j ∧ (bs2.any fun c => !c) = (List.range j).any (moveS stb (goW sgs ps stb i l wh (goL sgs ps stb i l (goR sgs ps stb i))) i wh)) l ?_ ?_ ⟨rfl, [], .nil, Nat.le_refl _, rfl⟩
          · (try clear F12); (try clear N12); (try clear F14); (try clear N14); clear N15
            rintro j ys nw v I4 oI4 C4 oC4 D5 m₄ h4 tk4 E4 hj ⟨rfl, bs2, hbs2, hbl2, hany2⟩ ⟨tj, rfl⟩ hC hx F16 N16 off2 ⟨ne1, ne2, ne3⟩
            subst hbw
            refine compT_gen hA3 ?_
            intro A4 Q4 P4 hA4 hQ4 hP4
            have hchr : (Str.ofString "+-").cps[((0 : Int) + (wh : Int)).toNat]? = some (if wh = 1 then 45 else 43) := by
              have : wh = 0 ∨ wh = 1 := by omega
              rcases this with rfl | rfl <;> decide +kernel
            have hchr2 := stk_get hst (k := j) (by omega)
            iterate 12 (first | (k_unfold; (try dsimp only)) | (k_end; wrow_close) | walk1 | (dsimp only; walk1) | (leave1; walk_say "STEP leave1"; try dsimp only))
            · rename (_ == _) = true => hs9
              iterate 18 (first | (k_unfold; (try dsimp only)) | (k_end; wrow_close) | walk1 | (dsimp only; walk1) | (leave1; walk_say "STEP leave1"; try dsimp only))
              rw [item_stk hst (by omega)] at hs9
              refine m_wins N16 (.tail _ (.tail _ (.tail _ (.tail _ (.tail _ (.tail _ (.tail _ (.head _)))))))) hi2 htab (key_stalk i j wh hw) (by omega) (by omega) (keyN_left hj (by omega)) ?_
              exact hQ4 _ _ <| LCg.CompEnd.intro F16 N16 _ (fun _ h => h) off2 trivial ⟨rfl, bs2 ++ [_], BoolsAre.snoc hbs2 _, (by rw [List.length_append, List.length_singleton]; omega), any_yes hany2 (moveS_yes hw hs9)⟩
            · rename (_ == _) = false => hs9
              rw [item_stk hst (by omega)] at hs9
              exact hP4 _ <| LCg.CompEnd.intro F16 N16 _ (fun _ h => h) off2 trivial ⟨rfl, bs2, hbs2, (by omega), any_no hany2 (moveS_no hw hs9)⟩
          · subst hbw
            rintro ys nw ⟨rfl, bs2, hbs2, hbl2, hany2⟩
            unfold LCg.FinE
            intro D5 h5 tk5 F16 N16 off2
            (try dsimp only)
            have hD54 : @Ne Nat D5 D4 := fun e => (off1_mem off2 _ (.head _)) e.symm
            k_steps
            refine m_extend (xs := zs) (n := zs.length) (ys := ys) (n2 := ys.length) F16 N16 (.head _) (.tail hD54 (.head fun p hp => off1_mem off p hp)) (by rw [BoolsAre.len hbs, BoolsAre.len hbs2]; omega) ?_
            intro h6 c6 F17 N17
            (try dsimp only at N17)
            (try dsimp only)
            clear F16 N16
            have hD5x : @Ne Nat D5 Dw := fun e => (off1_mem off2 _ (.tail _ (.tail _ (.tail _ (.tail _ (.head _)))))) e.symm
            iterate 5 (first | (k_unfold; (try dsimp only)) | (k_end; wrow_close) | walk1 | (dsimp only; walk1) | (leave1; walk_say "STEP leave1"; try dsimp only))
            refine m_inB N17 (.tail _ (.head _)) (BoolsAre.app hbs hbs2) ?_
            iterate 14 (first | (k_unfold; (try dsimp only)) | (k_end; wrow_close) | walk1 | (dsimp only; walk1) | (leave1; walk_say "STEP leave1"; try dsimp only))
            refine m_winset F17 N17 (.tail hD5x (.tail hD4x3 (.tail hI3x0 (.tail hI2x0 (.tail hIx0 (.head (allLt_ne ⟨(Nat.lt_of_le_of_lt (Nat.add_le_add_left (by decide : 7 ≤ 7) L9) hDl), (Nat.lt_of_le_of_lt (Nat.add_le_add_left (by decide : 6 ≤ 7) L9) hDl), (Nat.lt_of_le_of_lt (Nat.add_le_add_left (by decide : 5 ≤ 7) L9) hDl), (Nat.lt_of_le_of_lt (Nat.add_le_add_left (by decide : 4 ≤ 7) L9) hDl), (Nat.lt_of_le_of_lt (Nat.add_le_add_left (by decide : 3 ≤ 7) L9) hDl), (Nat.lt_of_le_of_lt (Nat.add_le_add_left (by decide : 2 ≤ 7) L9) hDl), (Nat.lt_of_le_of_lt (Nat.add_le_add_left (by decide : 1 ≤ 7) L9) hDl), hDa⟩))))))) hi2 htab (key_here i l wh) (by unfold keyN; omega) ?_
            intro h7 o7' kvs7 F18 N18 hi7 htab7
            (try dsimp only at N18)
            (try dsimp only)
            k_steps
            refine hQ3 _ _ ?_
            refine EndG.next F18 N18 _ (.tail _ (.tail _ (.head _))) (fun p hp => .tail _ (.tail _ (.tail _ hp))) (off_map hI3off rfl) ⟨o7', _, oL, oR, _, kvs7, rfl, hdW2, hdL, hdR, hi7, ?_⟩
            rw [List.any_append, hany, hany2] at htab7
            exact htab7
      · clear F8 N8 hi2 hdW hdL hdR hdL2 htab
        rintro m₃ nw h₃ tk₃ F8 N8 ⟨ow, oW, oL, oR, vw, kvs, rfl, hdW, hdL, hdR, hi2, htab⟩
        (try dsimp only)
        k_steps
        refine hQ2 _ _ ?_
        refine EndG.next_same F8 N8 (off_map hI2off rfl) ⟨ow, oW, oL, oR, vw, _, kvs, rfl, hdW, hdL, hdR, hi2, htab.up (by unfold keyN; omega) (fun r l' w' _ _ h => by unfold keyN at h ⊢; omega)⟩
    · clear F6 N6 hi2 hdW hdL hdR hdR2 htab
      rintro m₂ nw h₂ tk₂ F6 N6 ⟨ow, oW, oL, oR, vw, vl, kvs, rfl, hdW, hdL, hdR, hi2, htab⟩
      (try dsimp only)
      k_steps
      refine hQ1 _ _ ?_
      refine EndG.next_same F6 N6 (off_map hIoff rfl) ⟨ow, oW, oL, oR, vw, vl, _, kvs, rfl, hdW, hdL, hdR, hi2, htab.up (by unfold keyN; omega) (fun r l' w' _ _ h => by unfold keyN at h ⊢; omega)⟩
  · clear F4 N4 hi2 hdW hdL hdR
    rintro m₁ nw h₁ tk₁ F4 N4 ⟨ow, oW, oL, oR, vw, vl, vr, kvs, rfl, hdW, hdL, hdR, hi2, htab⟩
    (try dsimp only)
    iterate 39 (first | (k_unfold; (try dsimp only)) | (k_end; wrow_close) | walk1 | (dsimp only; walk1) | (leave1; walk_say "STEP leave1"; try dsimp only))
    rename Fr _ _ _ _ => F9
    rename News _ _ _ _ => N9
    refine m_wins N9 (.head _) hi2 htab (r := 15) (l := stb.length) (wh := 0) (by rw [hll, hstl]; unfold keyN; have e4 : (1 : Int) * 2 ^ (((4 : Nat) : Int)).toNat = 16 := by decide
                                                                                  omega) (Nat.le_refl _) (by decide) (by unfold keyN; omega) ?_
    iterate 10 (first | (k_unfold; (try dsimp only)) | (k_end; wrow_close) | walk1 | (dsimp only; walk1) | (leave1; walk_say "STEP leave1"; try dsimp only))
    refine m_wins N9 (.head _) hi2 htab (r := 15) (l := stb.length) (wh := 1) (by rw [hll, hstl]; unfold keyN; have e4 : (1 : Int) * 2 ^ (((4 : Nat) : Int)).toNat = 16 := by decide
                                                                                  omega) (Nat.le_refl _) (by decide) (by unfold keyN; omega) ?_
    k_steps
    rename News h₀ _ _ _ => N11
    rename @LT.lt Nat _ Dw _ ∧ _ => hl9
    refine h _ _ _ 0 (by assumption) (fun p hp => N11 p ?_) (fun p hp => allLt_mem hl9.2.2.2.2.2.2.2.2 p hp)
    rcases List.mem_cons.mp hp with rfl | hp
    · exact .head _
    · exact .tail _ (.tail _ (.tail _ (.tail _ (.tail _ (.tail _ (.tail _ (.tail _ (.tail _ (hp)))))))))
end
end Mine

end
section
open PySem PySem.W PyProof.Rows
set_option maxRecDepth 100000
set_option Elab.async false
set_option maxHeartbeats 2000000
namespace Mine
noncomputable def leadL (n v : Nat) : List Nat := (List.range n).map fun k => if v.testBit k then 9 else 32
noncomputable def lfOk (l : List Nat) : Bool :=
  let w := Wd.run l Wd.zero
  decide (w.n = l.length) && (List.range 8).all (fun t => decide (w.indent (t + 1) = colN (t + 1) l)) && decide (w.b ≤ 7) && decide (w.nt ≤ 7) && decide (w.count.length ≤ 8) && (decide (1 < w.count.length) || decide (w.n = w.b + w.nt))
theorem lf_all : ∀ n, n < 8 → ∀ v, v < 128 → lfOk (leadL n v) = true := by decide +kernel
noncomputable def popA (lt : Nat → Nat → Bool) (num : Nat → Int) (k : Nat) : List Nat → List Int → List Nat × List Int
  | c :: st, a :: b :: us => if lt c k = true then (c :: st, a :: b :: us) else popA lt num k st ((b + shutWorth (num c) a) :: us)
  | st, us => (st, us)
noncomputable def closeA (num : Nat → Int) : List Nat → List Int → List Int
  | c :: st, a :: b :: us => closeA num st ((b + shutWorth (num c) a) :: us)
  | _, us => us
noncomputable def goA (lt : Nat → Nat → Bool) (num : Nat → Int) : Nat → Nat → List Nat → List Int → List Int
  | 0, _, st, us => closeA num st us
  | n + 1, k, st, us => goA lt num n (k + 1) (k :: (popA lt num k st us).1) (0 :: (popA lt num k st us).2)
noncomputable def popI (lt : Nat → Nat → Bool) (k : Nat) : List Nat → List Nat
  | c :: ch => if lt c k = true then c :: ch else popI lt k ch
  | [] => []
noncomputable def stepI (lt : Nat → Nat → Bool) (k : Nat) (st : List Nat × List Nat) : List Nat × List Nat := (k :: popI lt k st.1, addK k (st.2 ++ [0]) (k :: popI lt k st.1).reverse)
noncomputable def partsI (lt : Nat → Nat → Bool) : Nat → List Nat × List Nat
  | 0 => ([], [])
  | k + 1 => stepI lt k (partsI lt k)
-- six booleans in one number
noncomputable def ltM (m : Nat) (c k : Nat) : Bool := m.testBit (k * (k - 1) / 2 + c)
noncomputable def numS (s : Nat) (k : Nat) : Int := if s.testBit k then 15 else 14
noncomputable def worthM (m s : Nat) : Int := (goA (ltM m) (numS s) 4 0 [] [0]).getD 0 0
noncomputable def sgs4 (s : Nat) : List Bool := [s.testBit 0, s.testBit 1, s.testBit 2, s.testBit 3]
noncomputable def stalkRow (k : Nat) (b : Bool) : Wd × Int := (Wd.run ([32, 9, 32, 9].take k) Wd.zero, if b then 15 else 14)
noncomputable def stalkRows : Nat → List Bool → List (Wd × Int)
  | _, [] => []
  | k, b :: r => stalkRow k b :: stalkRows (k + 1) r

noncomputable def fin2 (ps : List Nat) (sg : List Bool) (stb : List Bool) : Bool := !(goR sg ps stb 16).testBit (keyN 15 stb.length 0) && !(goR sg ps stb 16).testBit (keyN 15 stb.length 1)
noncomputable def ltP (ps : List Nat) (c k : Nat) : Bool := (ps.getD c 0).testBit k
noncomputable def worthI (ps : List Nat) (s : Nat) : Int := (goA (ltP ps) (numS s) 4 0 [] [0]).getD 0 0
noncomputable def shapes : List (List Nat) := [[1, 2, 4, 8], [3, 2, 4, 8], [7, 2, 4, 8], [1, 6, 4, 8], [7, 6, 4, 8], [15, 2, 4, 8], [15, 6, 4, 8], [1, 14, 4, 8], [15, 14, 4, 8], [1, 2, 12, 8], [3, 2, 12, 8], [15, 2, 12, 8], [1, 14, 12, 8], [15, 14, 12, 8]]
theorem shape_of : ∀ m, m < 64 → (partsI (ltM m) 4).2 ∈ shapes ∧ (List.range 4).all (fun k => ((partsI (ltM m) 4).2.getD k 0).testBit k) = true ∧ (List.range 16).all (fun s => decide (worthM m s = worthI (partsI (ltM m) 4).2 s)) = true := by decide +kernel
noncomputable def sp0 : Sp := ⟨Str.ofString "", 0, none, none⟩
noncomputable def goodW (W : Int) (st : Str) : Bool :=
  decide (st.cps.toList = (st.cps.toList.map fun c => decide (c = 45)).map (fun b => if b = true then 45 else 43)) && decide (st.cps.toList.length ≤ 4) && decide ((goP (stalkRows 0 (st.cps.toList.map fun c => decide (c = 45))) [] [W]).getD 0 0 = 0) &&
    decide (-32 ≤ W ∧ W ≤ 32) && ((st == Str.ofString "") == decide (W = 0))
noncomputable def good (ps : List Nat) (s : Nat) : Bool :=
  match Sp.run (- worthI ps s) 9 sp0 with
  | none => false
  | some st => goodW (worthI ps s) st && fin2 ps (sgs4 s) (st.cps.toList.map fun c => decide (c = 45))
theorem good_a : ∀ s, s < 16 → good [1, 2, 4, 8] s = true := by decide +kernel
theorem good_b : ∀ s, s < 16 → good [3, 2, 4, 8] s = true := by decide +kernel
theorem good_c : ∀ s, s < 16 → good [7, 2, 4, 8] s = true := by decide +kernel
theorem good_d : ∀ s, s < 16 → good [1, 6, 4, 8] s = true := by decide +kernel
theorem good_e : ∀ s, s < 16 → good [7, 6, 4, 8] s = true := by decide +kernel
theorem good_f : ∀ s, s < 16 → good [15, 2, 4, 8] s = true := by decide +kernel
theorem good_g : ∀ s, s < 16 → good [15, 6, 4, 8] s = true := by decide +kernel
theorem good_h : ∀ s, s < 16 → good [1, 14, 4, 8] s = true := by decide +kernel
theorem good_i : ∀ s, s < 16 → good [15, 14, 4, 8] s = true := by decide +kernel
theorem good_j : ∀ s, s < 16 → good [1, 2, 12, 8] s = true := by decide +kernel
theorem good_k : ∀ s, s < 16 → good [3, 2, 12, 8] s = true := by decide +kernel
theorem good_l : ∀ s, s < 16 → good [15, 2, 12, 8] s = true := by decide +kernel
theorem good_m : ∀ s, s < 16 → good [1, 14, 12, 8] s = true := by decide +kernel
theorem good_n : ∀ s, s < 16 → good [15, 14, 12, 8] s = true := by decide +kernel
theorem good_all : ∀ ps ∈ shapes, ∀ s, s < 16 → good ps s = true := by
  intro ps h
  unfold shapes at h
  simp only [List.mem_cons, List.not_mem_nil, or_false] at h
  rcases h with rfl | rfl | rfl | rfl | rfl | rfl | rfl | rfl | rfl | rfl | rfl | rfl | rfl | rfl
  · exact good_a
  · exact good_b
  · exact good_c
  · exact good_d
  · exact good_e
  · exact good_f
  · exact good_g
  · exact good_h
  · exact good_i
  · exact good_j
  · exact good_k
  · exact good_l
  · exact good_m
  · exact good_n
end Mine

end
section
open PySem PySem.W PyProof.Rows
set_option maxRecDepth 100000
set_option Elab.async false
set_option maxHeartbeats 2000000
namespace Mine
local macro_rules | `(tactic| omega) => `(tactic| first | lia | omega +splitDisjunctions)
theorem popP_sim {f : Nat → Wd × Int} {lt : Nat → Nat → Bool} {num : Nat → Int} {k : Nat} : ∀ (st : List Nat) (us : List Int), (∀ c ∈ st, lt c k = (f c).1.less (f k).1 ∧ num c = (f c).2) →
    popP (f k).1 (st.map f) us = ((popA lt num k st us).1.map f, (popA lt num k st us).2)
  | [], us, _ => by cases us <;> rfl
  | c :: st, [], _ => rfl
  | c :: st, [a], _ => rfl
  | c :: st, a :: b :: us, h => by
    obtain ⟨h1, h2⟩ := h c (.head _)
    rw [List.map_cons]
    show (if (f c).1.less (f k).1 = true then ((f c) :: st.map f, a :: b :: us) else popP (f k).1 (st.map f) ((b + shutWorth (f c).2 a) :: us)) = _
    rw [← h1, ← h2]
    unfold popA
    split
    · rfl
    · exact popP_sim st _ fun c hc => h c (.tail _ hc)
theorem closeP_sim {f : Nat → Wd × Int} {num : Nat → Int} : ∀ (st : List Nat) (us : List Int), (∀ c ∈ st, num c = (f c).2) → closeP (st.map f) us = closeA num st us
  | [], us, _ => by cases us <;> rfl
  | c :: st, [], _ => rfl
  | c :: st, [a], _ => rfl
  | c :: st, a :: b :: us, h => by
    rw [List.map_cons]
    show closeP (st.map f) ((b + shutWorth (f c).2 a) :: us) = _
    rw [← h c (.head _)]
    exact closeP_sim st _ fun c hc => h c (.tail _ hc)
theorem popA_mem {lt : Nat → Nat → Bool} {num : Nat → Int} {k c : Nat} : ∀ (st : List Nat) (us : List Int), c ∈ (popA lt num k st us).1 → c ∈ st
  | [], us, h => by cases us <;> exact h
  | d :: st, [], h => h
  | d :: st, [a], h => h
  | d :: st, a :: b :: us, h => by
    unfold popA at h
    split at h
    · exact h
    · exact .tail _ (popA_mem st _ h)
theorem goP_sim {f : Nat → Wd × Int} {lt : Nat → Nat → Bool} {num : Nat → Int} {top : Nat} (hl : ∀ c k, c < k → k < top → lt c k = (f c).1.less (f k).1) (hn : ∀ c, c < top → num c = (f c).2) :
    ∀ (n k : Nat) (st : List Nat) (us : List Int), k + n = top → (∀ c ∈ st, c < k) → goP ((List.range' k n).map f) (st.map f) us = goA lt num n k st us
  | 0, k, st, us, e, h => closeP_sim st us fun c hc => hn c (by have := h c hc; omega)
  | n + 1, k, st, us, e, h => by
    rw [List.range'_succ, List.map_cons]
    show goP ((List.range' (k + 1) n).map f) (f k :: (popP (f k).1 (st.map f) us).1) (0 :: (popP (f k).1 (st.map f) us).2) = _
    rw [popP_sim (lt := lt) (num := num) st us fun c hc => ⟨hl c k (h c hc) (by omega), hn c (by have := h c hc; omega)⟩]
    refine goP_sim hl hn n (k + 1) (k :: _) _ (by omega) fun c hc => ?_
    rcases List.mem_cons.mp hc with rfl | hc
    · exact Nat.lt_succ_self _
    · exact Nat.lt_succ_of_lt (h c (popA_mem _ _ hc))
theorem popC_sim {ss : List Str} {lt : Nat → Nat → Bool} {k : Nat} : ∀ (ch : List Nat), (∀ c ∈ ch, lt c k = less8 (strAt ss c) (strAt ss k)) → popC ss k ch = popI lt k ch
  | [], _ => rfl
  | c :: ch, h => by
    unfold popC popI
    rw [h c (.head _)]
    split
    · rfl
    · exact popC_sim ch fun c hc => h c (.tail _ hc)
theorem partsGo_sim {ss : List Str} {lt : Nat → Nat → Bool} {top : Nat} (hl : ∀ c k, c < k → k < top → lt c k = less8 (strAt ss c) (strAt ss k)) : ∀ k, k ≤ top → partsGo ss k = partsI lt k
  | 0, _ => rfl
  | k + 1, h => by
    have ih := partsGo_sim hl k (by omega)
    show stepParts ss k (partsGo ss k) = stepI lt k (partsI lt k)
    unfold stepParts stepI
    rw [popC_sim (lt := lt) (partsGo ss k).1 fun c hc => hl c k ((partsGo_bound ss k).1 c hc) (by omega), ih]
/- the stalk's rows, below all others -/
theorem popP_all {z : Wd} (hz : ∀ l : Wd, l.less z = false) : ∀ (st : List (Wd × Int)) (us : List Int), us.length = st.length + 1 → popP z st us = ([], closeP st us)
  | [], us, _ => by cases us <;> rfl
  | (l, num) :: st, a :: b :: us, h => by
    show (if l.less z = true then _ else popP z st ((b + shutWorth num a) :: us)) = _
    rw [hz l]
    exact popP_all hz st _ (by simpa using h)
  | (l, num) :: st, [a], h => by simp at h
  | (l, num) :: st, [], h => by simp at h
theorem popP_len {z : Wd} : ∀ (st : List (Wd × Int)) (us : List Int), us.length = st.length + 1 → (popP z st us).2.length = (popP z st us).1.length + 1
  | [], us, h => by cases us <;> exact h
  | (l, num) :: st, a :: b :: us, h => by
    unfold popP
    split
    · exact h
    · exact popP_len st _ (by simpa using h)
  | (l, num) :: st, [a], h => by simp at h
  | (l, num) :: st, [], h => by simp at h
theorem closeP_len : ∀ (st : List (Wd × Int)) (us : List Int), us.length = st.length + 1 → (closeP st us).length = 1
  | [], us, h => by cases us <;> exact h
  | (l, num) :: st, a :: b :: us, h => closeP_len st _ (by simpa using h)
  | (l, num) :: st, [a], h => by simp at h
  | (l, num) :: st, [], h => by simp at h
theorem goP_len : ∀ (rs st : List (Wd × Int)) (us : List Int), us.length = st.length + 1 → (goP rs st us).length = 1
  | [], st, us, h => closeP_len st us h
  | (wd, num) :: r, st, us, h => goP_len r _ _ (by simpa using popP_len (z := wd) st us h)
theorem goP_app {z : Wd} {zn : Int} {tl : List (Wd × Int)} (hz : ∀ l : Wd, l.less z = false) : ∀ (rs st : List (Wd × Int)) (us : List Int), us.length = st.length + 1 → goP (rs ++ (z, zn) :: tl) st us = goP ((z, zn) :: tl) [] (goP rs st us)
  | [], st, us, h => by
    show goP tl ((z, zn) :: (popP z st us).1) (0 :: (popP z st us).2) = goP tl ((z, zn) :: (popP z [] (closeP st us)).1) (0 :: (popP z [] (closeP st us)).2)
    rw [popP_all hz st us h, popP_all hz [] (closeP st us) (by rw [closeP_len st us h]; rfl)]
    have := closeP_len st us h
    cases hcl : closeP st us with
    | nil => rw [hcl] at this; simp at this
    | cons a r => cases r with
      | nil => rfl
      | cons b r => rw [hcl] at this; simp at this
  | (wd, num) :: r, st, us, h => goP_app hz r _ _ (by simpa using popP_len (z := wd) st us h)
theorem less_zero (l : Wd) : l.less (stalkRow 0 true).1 = false := by
  have : (stalkRow 0 true).1.n = 0 := by decide
  unfold Wd.less
  rw [if_pos (by omega)]
theorem stalkRow_fst (b : Bool) : (stalkRow 0 b).1 = (stalkRow 0 true).1 := rfl
theorem worth_whole (rs : List (Wd × Int)) (stb : List Bool) : worthP (rs ++ stalkRows 0 stb) = (goP (stalkRows 0 stb) [] [worthP rs]).getD 0 0 := by
  have hl := goP_len rs [] [0] rfl
  have e : goP rs [] [0] = [worthP rs] := by
    unfold worthP
    cases h : goP rs [] [0] with
    | nil => rw [h] at hl; simp at hl
    | cons a r => cases r with
      | nil => rfl
      | cons b r => rw [h] at hl; simp at hl
  cases stb with
  | nil =>
    show worthP (rs ++ []) = worthP rs
    rw [List.append_nil]
  | cons b r =>
    have h9 := goP_app (z := (stalkRow 0 true).1) (zn := (stalkRow 0 b).2) (tl := stalkRows 1 r) less_zero rs [] [0] rfl
    show (goP (rs ++ ((stalkRow 0 true).1, (stalkRow 0 b).2) :: stalkRows 1 r) [] [0]).getD 0 0 = _
    rw [h9, e]
    rfl

/- less on leads is the order of all eight columns -/
structure LFact (l : List Nat) (w : Wd) : Prop where
  run : Wd.run l Wd.zero = w
  len : w.n = l.length
  col : ∀ t, t < 8 → w.indent (t + 1) = colN (t + 1) l
  b7 : w.b ≤ 7
  nt7 : w.nt ≤ 7
  c8 : w.count.length ≤ 8
  flat : w.count.length ≤ 1 → w.n = w.b + w.nt
theorem leadL_fact {n v : Nat} (hn : n < 8) (hv : v < 128) : LFact (leadL n v) (Wd.run (leadL n v) Wd.zero) := by
  have h := lf_all n hn v hv
  unfold lfOk at h
  simp only [Bool.and_eq_true, Bool.or_eq_true, decide_eq_true_eq, List.all_eq_true, List.mem_range] at h
  obtain ⟨⟨⟨⟨⟨h1, h2⟩, h3⟩, h4⟩, h5⟩, h6⟩ := h
  exact ⟨rfl, h1, h2, h3, h4, h5, fun q => by rcases h6 with h6 | h6 <;> omega⟩
theorem colN_one (l : List Nat) : colN 1 l = l.length := by
  have : ∀ (l : List Nat) (c : Nat), l.foldl (colStep 1) c = c + l.length := by
    intro l
    induction l with
    | nil => intro c; rfl
    | cons a l ih =>
      intro c
      rw [List.foldl_cons, ih, List.length_cons]
      have : colStep 1 c a = c + 1 := by
        unfold colStep
        split
        · rfl
        · omega
      rw [this]; omega
  unfold colN
  rw [this, Nat.zero_add]
theorem indent_top {w : Wd} {t : Nat} (h : w.count.length ≤ t) : w.indent t = w.b + t * w.nt := by
  unfold Wd.indent
  rw [Nat.sub_eq_zero_of_le h]
  show w.b + t * (0 + w.nt) = _
  rw [Nat.zero_add]
theorem less_less8 {x y : List Nat} {a b : Wd} (ha : LFact x a) (hb : LFact y b) : a.less b = (List.range 8).all fun j => decide (colN (j + 1) x < colN (j + 1) y) := by
  have key : a.less b = true ↔ ∀ j, j < 8 → colN (j + 1) x < colN (j + 1) y := by
    have e1 : a.indent 1 = a.n := by rw [ha.col 0 (by decide), ha.len]; exact colN_one x
    have e2 : b.indent 1 = b.n := by rw [hb.col 0 (by decide), hb.len]; exact colN_one y
    have hfa := ha.flat
    have hfb := hb.flat
    have hb7 := ha.b7
    have hb7' := hb.b7
    have hc := ha.c8
    have hc' := hb.c8
    have cols : (∀ j, j < 8 → colN (j + 1) x < colN (j + 1) y) ↔ ∀ j, j < 8 → a.indent (j + 1) < b.indent (j + 1) := by
      constructor
      · intro h j hj; rw [ha.col j hj, hb.col j hj]; exact h j hj
      · intro h j hj; rw [← ha.col j hj, ← hb.col j hj]; exact h j hj
    rw [cols]
    unfold Wd.less
    split
    · rename_i hge
      constructor
      · intro h; cases h
      · intro h; have := h 0 (by decide); rw [e1, e2] at this; omega
    · rename_i hlt
      split
      · rename_i hs
        rw [decide_eq_true_iff]
        have q1 := hfa hs.1
        have q2 := hfb hs.2
        constructor
        · intro h j hj
          rw [indent_top (by omega), indent_top (by omega)]
          have h3 : j * a.nt ≤ j * b.nt := Nat.mul_le_mul_left j h
          rw [Nat.succ_mul, Nat.succ_mul]
          omega
        · intro h
          have := h 7 (by decide)
          rw [indent_top (by omega), indent_top (by omega)] at this
          omega
      · rename_i hs
        rw [List.all_eq_true]
        have hm : max a.longest b.longest ≤ 7 ∧ 1 ≤ max a.longest b.longest := by unfold Wd.longest; omega
        have hl1 : a.count.length ≤ max a.longest b.longest + 1 ∧ a.b ≤ max a.longest b.longest := by unfold Wd.longest; omega
        have hl2 : b.count.length ≤ max a.longest b.longest + 1 ∧ b.b ≤ max a.longest b.longest := by unfold Wd.longest; omega
        generalize max a.longest b.longest = q at *
        constructor
        · intro h j hj
          have h' : ∀ i, i < q → a.indent (i + 2) < b.indent (i + 2) := fun i hi => by simpa using h i (List.mem_range.mpr hi)
          by_cases hjq : j ≤ q
          · cases j with
            | zero => rw [e1, e2]; omega
            | succ j => exact h' j (by omega)
          · have ht := h' (q - 1) (by omega)
            rw [show q - 1 + 2 = q + 1 by omega, indent_top hl1.1, indent_top hl2.1] at ht
            rw [indent_top (by omega), indent_top (by omega)]
            have hnt : a.nt ≤ b.nt := by
              rcases Nat.lt_or_ge b.nt a.nt with q9 | q9
              · exfalso
                have : (q + 1) * (b.nt + 1) ≤ (q + 1) * a.nt := Nat.mul_le_mul_left _ q9
                rw [Nat.mul_succ] at this
                omega
              · exact q9
            have h3 : (j - q) * a.nt ≤ (j - q) * b.nt := Nat.mul_le_mul_left _ hnt
            have e3 : j + 1 = (q + 1) + (j - q) := by omega
            rw [e3, Nat.add_mul (q + 1) (j - q) a.nt, Nat.add_mul (q + 1) (j - q) b.nt]
            omega
        · intro h i hi
          rw [decide_eq_true_iff]
          have := h (i + 1) (by have := List.mem_range.mp hi; omega)
          exact this
  rw [Bool.eq_iff_iff, key, List.all_eq_true]
  simp only [List.mem_range, decide_eq_true_eq]

theorem six : ∀ b0 b1 b2 b3 b4 b5 : Bool, ∃ m, m < 64 ∧ Nat.testBit m 0 = b0 ∧ Nat.testBit m 1 = b1 ∧ Nat.testBit m 2 = b2 ∧ Nat.testBit m 3 = b3 ∧ Nat.testBit m 4 = b4 ∧ Nat.testBit m 5 = b5 := by
  intro b0 b1 b2 b3 b4 b5
  refine ⟨b0.toNat + 2 * b1.toNat + 4 * b2.toNat + 8 * b3.toNat + 16 * b4.toNat + 32 * b5.toNat, ?_⟩
  cases b0 <;> cases b1 <;> cases b2 <;> cases b3 <;> cases b4 <;> cases b5 <;> decide
theorem four : ∀ b0 b1 b2 b3 : Bool, ∃ m, m < 16 ∧ Nat.testBit m 0 = b0 ∧ Nat.testBit m 1 = b1 ∧ Nat.testBit m 2 = b2 ∧ Nat.testBit m 3 = b3 := by
  intro b0 b1 b2 b3
  refine ⟨b0.toNat + 2 * b1.toNat + 4 * b2.toNat + 8 * b3.toNat, ?_⟩
  cases b0 <;> cases b1 <;> cases b2 <;> cases b3 <;> decide
/-- the plain law: four leads x, their Wd, their signs -/
theorem plain_law {ss : List Str} {xs : List (List Nat)} {ws : List Wd} {sg : List Bool} (h1 : ss = xs.map fun x => (⟨x.toArray⟩ : Str)) (hx : xs.length = 4) (hs : sg.length = 4) (hw : ws.length = 4) (hf : ∀ k, k < 4 → LFact (xs.getD k []) (ws.getD k Wd.zero)) :
    ∃ st : Str, Sp.run (- worthP (ws.zip (sg.map fun b => if b = true then (15 : Int) else 14))) 9 sp0 = some st ∧ goodW (worthP (ws.zip (sg.map fun b => if b = true then (15 : Int) else 14))) st = true ∧
      fin2 (partsGo ss 4).2 sg (st.cps.toList.map fun c => decide (c = 45)) = true ∧ ∀ k, k < 4 → ((partsGo ss 4).2.getD k 0).testBit k = true := by
  obtain ⟨x0, x1, x2, x3, rfl⟩ : ∃ a b c d, xs = [a, b, c, d] := by
    match xs, hx with
    | [a, b, c, d], _ => exact ⟨a, b, c, d, rfl⟩
  obtain ⟨s0, s1, s2, s3, rfl⟩ : ∃ a b c d, sg = [a, b, c, d] := by
    match sg, hs with
    | [a, b, c, d], _ => exact ⟨a, b, c, d, rfl⟩
  obtain ⟨w0, w1, w2, w3, rfl⟩ : ∃ a b c d, ws = [a, b, c, d] := by
    match ws, hw with
    | [a, b, c, d], _ => exact ⟨a, b, c, d, rfl⟩
  have f0 : LFact x0 w0 := hf 0 (by decide)
  have f1 : LFact x1 w1 := hf 1 (by decide)
  have f2 : LFact x2 w2 := hf 2 (by decide)
  have f3 : LFact x3 w3 := hf 3 (by decide)
  obtain ⟨m, hm, m0, m1, m2, m3, m4, m5⟩ := six (w0.less w1) (w0.less w2) (w1.less w2) (w0.less w3) (w1.less w3) (w2.less w3)
  obtain ⟨s, hs16, t0, t1, t2, t3⟩ := four s0 s1 s2 s3
  have hl8 : ∀ c k, c < k → k < 4 → ltM m c k = less8 (strAt ss c) (strAt ss k) := by
    subst h1
    intro c k hc hk
    have : k = 1 ∨ k = 2 ∨ k = 3 := by omega
    rcases this with rfl | rfl | rfl
    · obtain rfl : c = 0 := by omega
      exact m0.trans (less_less8 f0 f1)
    · have : c = 0 ∨ c = 1 := by omega
      rcases this with rfl | rfl
      · exact m1.trans (less_less8 f0 f2)
      · exact m2.trans (less_less8 f1 f2)
    · have : c = 0 ∨ c = 1 ∨ c = 2 := by omega
      rcases this with rfl | rfl | rfl
      · exact m3.trans (less_less8 f0 f3)
      · exact m4.trans (less_less8 f1 f3)
      · exact m5.trans (less_less8 f2 f3)
  have hp : partsGo ss 4 = partsI (ltM m) 4 := partsGo_sim hl8 4 (Nat.le_refl _)
  have hW : worthP ([w0, w1, w2, w3].zip ([s0, s1, s2, s3].map fun b => if b = true then (15 : Int) else 14)) = worthM m s := by
    have := goP_sim (f := fun k => ([w0, w1, w2, w3].getD k Wd.zero, if [s0, s1, s2, s3].getD k false = true then 15 else 14)) (lt := ltM m) (num := numS s) (top := 4) (by
      intro c k hc hk
      have : k = 1 ∨ k = 2 ∨ k = 3 := by omega
      rcases this with rfl | rfl | rfl
      · obtain rfl : c = 0 := by omega
        exact m0
      · have : c = 0 ∨ c = 1 := by omega
        rcases this with rfl | rfl
        · exact m1
        · exact m2
      · have : c = 0 ∨ c = 1 ∨ c = 2 := by omega
        rcases this with rfl | rfl | rfl
        · exact m3
        · exact m4
        · exact m5) (by
      intro c hc
      have : c = 0 ∨ c = 1 ∨ c = 2 ∨ c = 3 := by omega
      unfold numS
      rcases this with rfl | rfl | rfl | rfl
      · rw [t0]; rfl
      · rw [t1]; rfl
      · rw [t2]; rfl
      · rw [t3]; rfl) 4 0 [] [0] rfl (fun _ h => (nomatch h))
    unfold worthP worthM
    rw [← this]
    rfl
  obtain ⟨hsh, hbits, hwi⟩ := shape_of m hm
  have hwi := of_decide_eq_true (List.all_eq_true.mp hwi s (List.mem_range.mpr hs16))
  have hg := good_all _ hsh s hs16
  rw [hW, hp, hwi]
  unfold good at hg
  split at hg
  · cases hg
  · rename_i st hst
    rw [Bool.and_eq_true] at hg
    refine ⟨st, hst, hg.1, ?_, fun k hk => List.all_eq_true.mp hbits k (List.mem_range.mpr hk)⟩
    have : sgs4 s = [s0, s1, s2, s3] := by unfold sgs4; rw [t0, t1, t2, t3]
    rw [← this]
    exact hg.2

noncomputable def leadCh (v k : Nat) : Str := ⟨#[if v.testBit k = true then 9 else 32]⟩
theorem join_all : ∀ n, n < 8 → ∀ v, v < 128 → Txt.join (Str.ofString "") ((List.range n).map (leadCh v)) = ⟨(leadL n v).toArray⟩ := by decide +kernel
theorem join_weight (n v : Nat) (hn : n < 8) : (((List.range n).map (leadCh v)).map (·.length)).sum + ((List.range n).map (leadCh v)).length ≤ 1048576 := by
  have h1 : ((List.range n).map (leadCh v)).map (·.length) = (List.range n).map fun _ => 1 := by
    rw [List.map_map]; rfl
  rw [h1, List.length_map, List.length_range]
  have : n = 0 ∨ n = 1 ∨ n = 2 ∨ n = 3 ∨ n = 4 ∨ n = 5 ∨ n = 6 ∨ n = 7 := by omega
  rcases this with rfl | rfl | rfl | rfl | rfl | rfl | rfl | rfl <;> decide
theorem leadCh_tab {v k : Nat} (h : v.testBit k = true) : leadCh v k = Str.ofString "\t" := by
  unfold leadCh; rw [if_pos h]; decide +kernel
theorem leadCh_sp {v k : Nat} (h : ¬ v.testBit k = true) : leadCh v k = Str.ofString " " := by
  unfold leadCh; rw [if_neg h]; decide +kernel
end Mine

end
section
open PySem PySem.W PyProof.Rows PySem.Calls PyProof.V PySem.Spec PyProof.Rows.LCg
set_option maxRecDepth 100000
set_option Elab.async false
namespace Mine
noncomputable def Off4 (I C D K : Addr) (l : List (Addr × Obj)) : Prop := ∀ p ∈ l, p.1 ≠ I ∧ p.1 ≠ C ∧ p.1 ≠ D ∧ p.1 ≠ K
/-- the end of a turn of a comprehension whose variable is a cell -/
noncomputable def EndK (h₀ : Heap) (L : Addr) (m : Str → Option Value) (s₁ : Shared) (I : Addr) (oI : Obj) (C : Addr) (oC : Obj) (D : Addr) (oD : Obj) (K : Addr) (oK : Obj) (S : List (Addr × Obj) → Prop) (rest : Value → List (Addr × Obj) → Prop) (y : Value) (s₂ : Shared) : Prop :=
  ∃ h' tk news', s₂ = { s₁ with heap := h', toks := tk } ∧ Fr h₀ L h' m ∧ News h₀ L h' ((I, oI) :: (C, oC) :: (D, oD) :: (K, oK) :: news') ∧ Off4 I C D K news' ∧ S news' ∧ rest y news'
theorem off1_of {D : Addr} : ∀ {l : List (Addr × Obj)}, (∀ p ∈ l, p.1 ≠ D) → Off1 D l
  | [], _ => trivial
  | _ :: _, h => ⟨h _ (.head _), off1_of fun p hp => h p (.tail _ hp)⟩
section
variable {prog : Program} {w : World} {A : Around} {E : Value → Shared → Prop} {s : Shared} {h₀ : Heap} {L : Addr} {m : Str → Option Value} {env : Env}
theorem ListComp_K {elt iter : Expr} {x : Str} {px : Pos} {scope : Scope} {cl : List (Str × Addr)} {pos : Pos} {Q : Value → Shared → Prop} (Inv : Nat → List Value → List (Addr × Obj) → Prop) (_F : Fr h₀ L s.heap m)
    (hclos : closureFor scope env = pure cl) (hkind : scope.kind = .function)
    (hnames : ∀ y ∈ scope.names, y.2 = .local → scope.names.lookup y.1 = some .local) (hx : (relabel scope env).names.lookup x = some .cell)
    (hcells : ∀ k, cellsFrom k scope.names cl = (x, k) :: cl) (hpush : ∀ h, pushCells h scope.names = h.push { cls := .type "cell", data := .cell none })
    (h : wpAny (model prog w) A (eval iter env) (fun xv s₁ => ∃ ax its news, xv = .ref ax ∧ A.handled = none ∧ Fr h₀ L s₁.heap m ∧ News h₀ L s₁.heap news ∧ SrcAt h₀ ax its news ∧ its.size ≤ sizeLine ∧ Inv 0 [] news ∧
      (∀ i ys news v I oI C oC D K oK h tk (E' : Value → Shared → Prop), i < its.size → Inv i ys news → its[i]? = some v → oK.data = .cell (some v) → Fr h₀ L h m → News h₀ L h ((I, oI) :: (C, oC) :: (D, lst ys) :: (K, oK) :: news) → Off4 I C D K news →
        ((@Ne Nat I C) ∧ (@Ne Nat I D) ∧ (@Ne Nat I K) ∧ (@Ne Nat C D) ∧ (@Ne Nat C K) ∧ (@Ne Nat D K)) →
        wpAny (model prog w) A (eval elt (compEnvC scope ((x, K) :: cl) C env)) (EndK h₀ L m { s₁ with heap := h, toks := tk } I oI C oC D (lst ys) K oK (SrcAt h₀ ax its) (fun y news' => Inv (i + 1) (ys ++ [y]) news')) E' { s₁ with heap := h, toks := tk }) ∧
      (∀ ys news, Inv its.size ys news → ∀ D h tk, Fr h₀ L h m → News h₀ L h ((D, lst ys) :: news) → Off1 D news → Q (.ref D) { s₁ with heap := h, toks := tk })) E s)
    (hs : ∀ x, foldedSetIterable iter env x = pure x := by intro _; rfl) :
    wpAny (model prog w) A (eval (.ListComp elt [⟨.Name x px, iter, [], 0⟩] scope pos) env) Q E s := by
  rw [eval_ListComp]
  refine wpAny_comprehension_free (use := none) rfl hs hclos hkind hnames (wpAny_mono h (fun xv s₁ h₁ => ?_) fun _ _ e => e)
  obtain ⟨ax, its, news, rfl, hh, F, N, S, hsz, hI, step, fin⟩ := h₁
  have hl := S.list F.keep N
  have hlt : ax < s₁.heap.objs.size := by obtain ⟨_, e, _⟩ := hl; exact Heap.lt_size e
  refine wpAny_pyIter_list hl ?_
  refine wpAny_newObj_type ?_
  simp only [newFunctionEnv, Option.isSome_some, if_true]
  refine wpAny_bind (wpAny_alloc ?_)
  refine wpAny_bind (wpAny_layCells _ (fun name kind cells => by cases hkc : kind == NameKind.cell <;> simp [hkc]) _ _ _ _ ?_)
  rw [hcells, hpush, List.forIn_nil]
  refine wpAny_bind (wpAny_pure (wpAny_pure ?_))
  dsimp only
  -- the addresses
  let n : Nat := s₁.heap.objs.size
  let H2 := s₁.heap.push { cls := .type "list_iterator", data := .fields #[.ref ax, .int 0 0] }
  let H3 := H2.push { cls := .type "list", dict := none, data := .seq ([] : List Value).toArray }
  let H4 := H3.push { cls := .type "dict", data := .dict #[] }
  let H5 := H4.push { cls := .type "cell", data := .cell none }
  have z2 : H2.objs.size = n + 1 := Heap.size_push ..
  have z3 : H3.objs.size = n + 2 := (Heap.size_push ..).trans (congrArg (· + 1) z2)
  have z4 : H4.objs.size = n + 3 := (Heap.size_push ..).trans (congrArg (· + 1) z3)
  have gI : H5.get? n = some { cls := .type "list_iterator", data := .fields #[.ref ax, .int 0 0] } := Heap.get?_push_of_some _ (Heap.get?_push_of_some _ (Heap.get?_push_of_some _ (Heap.get?_push_size _ rfl)))
  have gD : H5.get? (n + 1) = some { cls := .type "list", dict := none, data := .seq ([] : List Value).toArray } := Heap.get?_push_of_some _ (Heap.get?_push_of_some _ (z2 ▸ Heap.get?_push_size _ rfl))
  have gC : H5.get? (n + 2) = some { cls := .type "dict", data := .dict #[] } := Heap.get?_push_of_some _ (z3 ▸ Heap.get?_push_size _ rfl)
  have gK : H5.get? (n + 3) = some { cls := .type "cell", data := .cell none } := z4 ▸ Heap.get?_push_size _ rfl
  have old : ∀ b o, s₁.heap.get? b = some o → H5.get? b = some o := fun b o e => Heap.get?_push_of_some _ (Heap.get?_push_of_some _ (Heap.get?_push_of_some _ (Heap.get?_push_of_some _ e)))
  have fresh₀ : ∀ a, n ≤ a → h₀.get? a = none := fun a ha => by
    cases e : h₀.get? a with
    | none => rfl
    | some o' => exact absurd (Heap.lt_size (F.keep a o' e)) (Nat.not_lt.mpr ha)
  have hLn : L < n := F.ns.lt
  have hIL : L ≠ n := Nat.ne_of_lt hLn
  have hDL : (n + 1 : Nat) ≠ L := Nat.ne_of_gt (Nat.lt_add_right 1 hLn)
  have hCL : (n + 2 : Nat) ≠ L := Nat.ne_of_gt (Nat.lt_add_right 2 hLn)
  have hKL : (n + 3 : Nat) ≠ L := Nat.ne_of_gt (Nat.lt_add_right 3 hLn)
  have hI₀ : h₀.get? n = none := fresh₀ n (Nat.le_refl _)
  have hD₀ : h₀.get? (n + 1) = none := fresh₀ _ (Nat.le_add_right n 1)
  have hC₀ : h₀.get? (n + 2) = none := fresh₀ _ (Nat.le_add_right n 2)
  have hK₀ : h₀.get? (n + 3) = none := fresh₀ _ (Nat.le_add_right n 3)
  have nID : (n : Nat) ≠ n + 1 := fun e => by omega
  have nIC : (n : Nat) ≠ n + 2 := fun e => by omega
  have nIK : (n : Nat) ≠ n + 3 := fun e => by omega
  have nCD : (n + 2 : Nat) ≠ n + 1 := fun e => by omega
  have nCK : (n + 2 : Nat) ≠ n + 3 := fun e => by omega
  have nDK : (n + 1 : Nat) ≠ n + 3 := fun e => by omega
  have nax : ax ≠ n := Nat.ne_of_lt hlt
  have naxD : ax ≠ n + 1 := Nat.ne_of_lt (Nat.lt_add_right 1 hlt)
  have naxK : ax ≠ n + 3 := Nat.ne_of_lt (Nat.lt_add_right 3 hlt)
  have W : Walks prog w A n [n, ax] [n] its.size _ _ := Walks.list hh n ax nax its
  have low : ∀ p ∈ news, p.1 < n := fun p hp => Heap.lt_size (N p hp).1
  have off₀ : Off4 n (n + 2) (n + 1) (n + 3) news := fun p hp => by
    have := low p hp
    exact ⟨Nat.ne_of_lt this, Nat.ne_of_lt (Nat.lt_add_right 2 this), Nat.ne_of_lt (Nat.lt_add_right 1 this), Nat.ne_of_lt (Nat.lt_add_right 3 this)⟩
  have st₀ : H5.IsListIter n ax 0 ∧ H5.IsList ax its := ⟨⟨_, gI, rfl, rfl⟩, by obtain ⟨o, e, r⟩ := hl; exact ⟨o, old _ _ e, r⟩⟩
  have key : ∀ (D C K : Addr), D = n + 1 → C = n + 2 → K = n + 3 → codeAny (model prog w) A (.compStart (.ListComp elt [⟨.Name x px, iter, [], 0⟩] scope pos) 0 (.ref n) (.ref D) (compEnvC scope ((x, K) :: cl) C env)) (compPost (model prog w) A E none Q (.ref D) C) { s₁ with heap := H5 } := by
    rintro D C K rfl rfl rfl
    have loop : codeAny (model prog w) A (.compLoop (.ListComp elt [⟨.Name x px, iter, [], 0⟩] scope pos) 0 (.ref n) (.ref (n + 1)) (compEnvC scope ((x, n + 3) :: cl) (n + 2) env)) (compPost (model prog w) A E none Q (.ref (n + 1)) (n + 2)) { s₁ with heap := H5 } := by
      refine codeAny_compLoop_tests
        (fun k s' => ∃ h' tk i ys oC m' oK vK news', s' = { s₁ with heap := h', toks := tk } ∧ i ≤ its.size ∧ k = its.size + 1 - i ∧ ys.length = i ∧ (h'.IsListIter n ax i ∧ h'.IsList ax its) ∧ Fr h₀ L h' m ∧ NsObj oC m' ∧ oK.data = .cell vK ∧
          News h₀ L h' ((n + 2, oC) :: (n + 1, lst ys) :: (n + 3, oK) :: news') ∧ Off4 n (n + 2) (n + 1) (n + 3) news' ∧ SrcAt h₀ ax its news' ∧ Inv i ys news') ?_ (its.size + 1)
        ⟨H5, _, 0, [], { cls := .type "dict", data := .dict #[] }, fun _ => none, { cls := .type "cell", data := .cell none }, none, news, rfl, Nat.zero_le _, rfl, rfl, st₀, F.keeps old, ⟨#[], _, rfl, by intro y hy; simp at hy, fun _ => rfl⟩, rfl, fun p hp => ?_, off₀, S, hI⟩
      · rintro k s' ⟨h', tk, i, ys, oC, m', oK, vK, news', rfl, hi, rfl, hyl, hst', F', hoC, hoK, N', off', hS', hI'⟩
        have offs : ∀ p ∈ (n + 2, oC) :: (n + 1, lst ys) :: (n + 3, oK) :: news', p.1 ≠ n := fun p hp => by
          rcases List.mem_cons.mp hp with rfl | hp
          · exact Ne.symm nIC
          rcases List.mem_cons.mp hp with rfl | hp
          · exact Ne.symm nID
          rcases List.mem_cons.mp hp with rfl | hp
          · exact Ne.symm nIK
          exact (off' p hp).1
        by_cases hlt' : i < its.size
        · refine W.item i _ _ _ hlt' hst' fun v h₂ tk₂ hPv hst₂ hk₂ => ?_
          have N₂ := news_but N' hk₂ offs
          have F₂ := fr_but F' hk₂ hIL hI₀
          have mK : ((n + 3 : Nat), oK) ∈ ((n + 2 : Nat), oC) :: (n + 1, lst ys) :: (n + 3, oK) :: news' := .tail _ (.tail _ (.head _))
          refine wpAny_assign_Name (wpAny_storeName_cell (c := n + 3) hkind hx (by simp [compEnvC]) ⟨oK, (N₂ _ mK).1, hoK⟩ fun h₃ hv₃ hs₃ => ?_)
          refine wpAny_tests_nil ?_
          simp only [if_true]
          obtain ⟨oK', eK', dK'⟩ := hv₃
          have F₃ : Fr h₀ L h₃ m := F₂.change hs₃ hKL hK₀
          have hst₃ := W.frame _ _ h₃ hst₂ fun b hb o e => hs₃.extBut b o (by
            rcases List.mem_cons.mp hb with rfl | hb
            · exact nIK
            · rw [List.mem_singleton.mp hb]; exact naxK) e
          obtain ⟨oI, eI, _⟩ := hst₃.1
          have N₃ : News h₀ L h₃ ((n, oI) :: (n + 2, oC) :: (n + 1, lst ys) :: (n + 3, oK') :: news') := fun p hp => by
            rcases List.mem_cons.mp hp with rfl | hp
            · exact ⟨eI, Ne.symm hIL, hI₀⟩
            rcases List.mem_cons.mp hp with rfl | hp
            · exact ⟨hs₃.extBut _ _ nCK (N₂ _ (.head _)).1, hCL, hC₀⟩
            rcases List.mem_cons.mp hp with rfl | hp
            · exact ⟨hs₃.extBut _ _ nDK (N₂ _ (.tail _ (.head _))).1, hDL, hD₀⟩
            rcases List.mem_cons.mp hp with rfl | hp
            · exact ⟨eK', hKL, hK₀⟩
            have z := N₂ p (.tail _ (.tail _ (.tail _ hp)))
            exact ⟨hs₃.extBut _ _ (off' p hp).2.2.2 z.1, z.2⟩
          refine wpAny_mono (step i ys news' v n oI (n + 2) oC (n + 1) (n + 3) oK' h₃ _ _ hlt' hI' hPv dK' F₃ N₃ off' ⟨nIC, nID, nIK, nCD, nCK, nDK⟩) (fun y s₄ h₄ => ?_) fun _ _ e => e
          obtain ⟨h₄, tk₄, news₄, rfl, F₄, N₄, off₄, hS₄, R₄⟩ := h₄
          have N₄' : News h₀ L h₄ news₄ := fun p hp => N₄ p (.tail _ (.tail _ (.tail _ (.tail _ hp))))
          have hst₄ := list_st (i + 1) h₃ h₄ oI news₄ hst₃ eI (N₄ _ (.head _)).1 F₄.keep N₄' hS₄
          refine append_at (hsz := by show ys.toArray.size ≤ sizeLine; rw [List.size_toArray, hyl]; exact Nat.le_trans hi hsz) (N₄ _ (.tail _ (.tail _ (.head _)))).1 fun h₅ hs₅ hD₅ => ?_
          refine ⟨its.size + 1 - (i + 1), by omega, h₅, tk₄, i + 1, ys ++ [y], oC, _, oK', _, news₄, rfl, hlt', rfl, by rw [List.length_append, List.length_singleton, hyl], ?_, F₄.change hs₅ hDL hD₀, hoC, dK', fun p hp => ?_, off₄, hS₄, R₄⟩
          · exact W.frame _ _ h₅ hst₄ fun b hb o e => hs₅.extBut b o (by
              rcases List.mem_cons.mp hb with rfl | hb
              · exact nID
              · rw [List.mem_singleton.mp hb]; exact naxD) e
          · rcases List.mem_cons.mp hp with rfl | hp
            · exact ⟨hs₅.extBut _ _ nCD (N₄ _ (.tail _ (.head _))).1, hCL, hC₀⟩
            rcases List.mem_cons.mp hp with rfl | hp
            · exact ⟨hD₅.trans (congrArg some (lst_snoc ys y)), hDL, hD₀⟩
            rcases List.mem_cons.mp hp with rfl | hp
            · exact ⟨hs₅.extBut _ _ (Ne.symm nDK) (N₄ _ (.tail _ (.tail _ (.tail _ (.head _))))).1, hKL, hK₀⟩
            exact ⟨hs₅.extBut _ _ (off₄ p hp).2.2.1 (N₄' p hp).1, (N₄' p hp).2⟩
        · obtain rfl : i = its.size := Nat.le_antisymm hi (Nat.not_lt.mp hlt')
          refine W.done _ _ _ hst' fun h₂ tk₂ hk₂ => ?_
          have N₂ := news_but N' hk₂ offs
          have F₂ := fr_but F' hk₂ hIL hI₀
          refine ⟨m', hoC.ns (N₂ _ (.head _)).1, fun h'' hs'' => fin ys news' hI' (n + 1) h'' _ (F₂.change hs'' hCL hC₀) (fun p hp => ?_) ?_⟩
          · rcases List.mem_cons.mp hp with rfl | hp
            · exact ⟨hs''.extBut _ _ (Ne.symm nCD) (N₂ _ (.tail _ (.head _))).1, hDL, hD₀⟩
            have z := N₂ p (.tail _ (.tail _ (.tail _ hp)))
            exact ⟨hs''.extBut _ _ (off' p hp).2.1 z.1, z.2⟩
          · exact off1_of fun p hp => (off' p hp).2.2.1
      · rcases List.mem_cons.mp hp with rfl | hp
        · exact ⟨gC, hCL, hC₀⟩
        rcases List.mem_cons.mp hp with rfl | hp
        · exact ⟨gD, hDL, hD₀⟩
        rcases List.mem_cons.mp hp with rfl | hp
        · exact ⟨gK, hKL, hK₀⟩
        exact ⟨old _ _ (N p hp).1, (N p hp).2⟩
    exact codeAny_compStart_list loop (W.self 0 _ _ _ st₀ loop)
  exact key _ _ _ z2 z3 z4
end
end Mine

end
section
open PySem PySem.W PyProof.Rows PyProof.Rows.LSm
set_option maxRecDepth 100000
set_option Elab.async false
set_option maxHeartbeats 2000000
namespace Mine
local macro_rules | `(tactic| omega) => `(tactic| first | lia | omega +splitDisjunctions)
noncomputable def leadS (c : Nat) : Str := ⟨(leadL (c / 2 % 8) (c / 16)).toArray⟩
theorem bit_iff16 (c j : Nat) : Builtin.bitAnd ((((c : Nat) : Int).fdiv 16).fdiv (2 ^ ((0 : Int) + ((j : Nat) : Int)).toNat)) 1 ≠ 0 ↔ (c / 16).testBit j = true := by
  rw [show ((c : Nat) : Int).fdiv 16 = ((c / 16 : Nat) : Int) from fdivN c 16]
  have h := bit_iff (c / 16) j
  rw [Int.zero_add ((c / 16 : Nat) : Int)] at h
  exact h
noncomputable def sgnC (c : Nat) : Bool := decide (c % 2 = 1)
theorem sgnC_str (c : Nat) : sgn (sgnC c) = (⟨#[if c % 2 = 1 then 45 else 43]⟩ : Str) := by
  unfold sgn sgnC
  by_cases h : c % 2 = 1
  · simp only [h, decide_true, if_true]; decide +kernel
  · simp only [h, decide_false, if_false]; decide +kernel
theorem pm_char (c : Nat) : (Str.ofString "+-").cps[(((c : Nat) : Int).fmod 2).toNat]? = some (if c % 2 = 1 then 45 else 43) := by
  rw [show ((c : Nat) : Int).fmod 2 = ((c % 2 : Nat) : Int) from fmodN c 2, Int.toNat_natCast]
  have : c % 2 = 0 ∨ c % 2 = 1 := by omega
  rcases this with h | h <;> rw [h] <;> decide +kernel
theorem natI_get {cs : List Nat} {i : Nat} {x : Int} (h : (natI cs)[i]? = some x) : ∃ c : Nat, cs[i]? = some c ∧ x = (c : Int) := by
  unfold natI at h
  rw [List.getElem?_map] at h
  cases e : cs[i]? with
  | none => rw [e] at h; cases h
  | some c => rw [e] at h; exact ⟨c, rfl, (Option.some.inj h).symm⟩
theorem strs_at : ∀ {vs : List Value} {ss : List Str}, StrsAre vs ss → ∀ (j : Nat) (x : Str), ss[j]? = some x → ∃ t, vs[j]? = some (.str x t)
  | _, _, .nil, j, x, h => by simp at h
  | _, _, .cons y t h, 0, x, e => by
    simp at e
    subst e
    exact ⟨t, rfl⟩
  | _, _, .cons y t h, j + 1, x, e => by
    obtain ⟨t', e'⟩ := strs_at h j x (by simpa using e)
    exact ⟨t', by simpa using e'⟩
noncomputable def rowS (c : Nat) : Str := leadS c ++ sgn (sgnC c) ++ Str.ofString " \t"
theorem leadS_len (c : Nat) : (leadS c).length < 8 := by
  show ((leadL (c / 2 % 8) (c / 16)).toArray).size < 8
  unfold leadL
  rw [List.size_toArray, List.length_map, List.length_range]
  exact Nat.mod_lt _ (by decide)
theorem sgn_len (b : Bool) : (sgn b).length = 1 := by cases b <;> decide +kernel

noncomputable def wdC (c : Nat) : Wd := Wd.run (leadL (c / 2 % 8) (c / 16)) Wd.zero
noncomputable def numB (b : Bool) : Int := if b = true then 15 else 14
noncomputable def rsOf (cs : List Nat) : List (Wd × Int) := (cs.map wdC).zip ((cs.map sgnC).map fun b => if b = true then (15 : Int) else 14)
noncomputable def wdSame (a b : Wd) : Bool := decide (a.count = b.count) && decide (a.b = b.b) && decide (a.n = b.n) && decide (a.nt = b.nt)
theorem wdSame_eq {a b : Wd} (h : wdSame a b = true) : a = b := by
  unfold wdSame at h
  simp only [Bool.and_eq_true, decide_eq_true_eq] at h
  obtain ⟨⟨⟨h1, h2⟩, h3⟩, h4⟩ := h
  cases a; cases b
  simp only at h1 h2 h3 h4
  subst h1 h2 h3 h4
  rfl
noncomputable def rowOkB (r : Str) (wd : Wd) (b : Bool) : Bool :=
  decide (r.length ≤ 50) && wdSame (Wd.run r.cps.toList Wd.zero) wd && decide (wd.b ≤ 50) && decide (wd.n ≤ 50) && decide (wd.nt ≤ 50) && decide (wd.count.length ≤ 50) && decide (r.cps[wd.n]? = some (if b = true then 45 else 43))
theorem rowOkB_ok {r : Str} {wd : Wd} {b : Bool} (h : rowOkB r wd b = true) : RowOk r wd (if b = true then (15 : Int) else 14) := by
  unfold rowOkB at h
  simp only [Bool.and_eq_true, decide_eq_true_eq] at h
  obtain ⟨⟨⟨⟨⟨⟨h1, h2⟩, h3⟩, h4⟩, h5⟩, h6⟩, h7⟩ := h
  refine ⟨h1, wdSame_eq h2, ⟨h3, h4, h5, h6⟩, ?_⟩
  cases b
  · exact .inl ⟨h7, rfl⟩
  · exact .inr ⟨h7, rfl⟩
theorem run_stop {c : Nat} (r : List Nat) (h1 : c ≠ 32) (h2 : c ≠ 9) : ∀ (l : List Nat) (w : Wd), Wd.run (l ++ c :: r) w = Wd.run l w
  | [], w => by
    show (if c = 32 then _ else if c = 9 then _ else w) = w
    rw [if_neg h1, if_neg h2]
  | d :: l, w => by
    show (if d = 32 then Wd.run (l ++ c :: r) w.sp else if d = 9 then Wd.run (l ++ c :: r) w.tb else w) = if d = 32 then Wd.run l w.sp else if d = 9 then Wd.run l w.tb else w
    rw [run_stop r h1 h2 l, run_stop r h1 h2 l]
theorem rowS_list (c : Nat) : (rowS c).cps.toList = leadL (c / 2 % 8) (c / 16) ++ (if c % 2 = 1 then 45 else 43) :: [32, 9] := by
  unfold rowS
  rw [sgnC_str]
  show (((leadL (c / 2 % 8) (c / 16)).toArray ++ #[if c % 2 = 1 then 45 else 43]) ++ (Str.ofString " \t").cps).toList = _
  rw [Array.toList_append, Array.toList_append, show (Str.ofString " \t").cps.toList = [32, 9] from by decide +kernel]
  rw [List.append_assoc]
  rfl
theorem leadL_len (n v : Nat) : (leadL n v).length = n := by
  unfold leadL
  rw [List.length_map, List.length_range]
theorem rows_ok {c : Nat} (hc : c < 2048) : RowOk (rowS c) (wdC c) (if sgnC c = true then (15 : Int) else 14) := by
  have hn : c / 2 % 8 < 8 := Nat.mod_lt _ (by decide)
  have hf := leadL_fact hn (v := c / 16) (by omega)
  have hl := leadL_len (c / 2 % 8) (c / 16)
  have hs := rowS_list c
  have hsz : (rowS c).length = c / 2 % 8 + 3 := by
    show (rowS c).cps.size = _
    rw [← Array.length_toList, hs, List.length_append, hl]
    rfl
  have h32 : (if c % 2 = 1 then 45 else 43) ≠ (32 : Nat) := by split <;> decide
  have h9 : (if c % 2 = 1 then 45 else 43) ≠ (9 : Nat) := by split <;> decide
  have hg : (rowS c).cps[(wdC c).n]? = some (if c % 2 = 1 then 45 else 43) := by
    rw [← Array.getElem?_toList, hs, show (wdC c).n = (leadL (c / 2 % 8) (c / 16)).length from hf.len, List.getElem?_append_right (Nat.le_refl _), Nat.sub_self]
    rfl
  refine ⟨by omega, by rw [hs, run_stop _ h32 h9]; rfl, ⟨Nat.le_trans hf.b7 (by decide), ?_, Nat.le_trans hf.nt7 (by decide), Nat.le_trans hf.c8 (by decide)⟩, ?_⟩
  · show (wdC c).n ≤ 50
    rw [show (wdC c).n = (leadL (c / 2 % 8) (c / 16)).length from hf.len, hl]
    omega
  · rw [hg]
    unfold sgnC
    by_cases h : c % 2 = 1
    · simp only [h, if_true, decide_true]
      exact .inr ⟨trivial, trivial⟩
    · simp only [h, if_false, decide_false]
      exact .inl ⟨trivial, by simp⟩
noncomputable def stalkPre (k : Nat) : Str := ⟨([32, 9, 32, 9].take k).toArray⟩
noncomputable def stalkS (k : Nat) (b : Bool) : Str := stalkPre k ++ (⟨#[if b = true then 45 else 43]⟩ : Str) ++ Str.ofString " \t"
theorem stalks_ok : ∀ k, k < 4 → ∀ b, rowOkB (stalkS k b) (stalkRow k b).1 b = true := by decide +kernel
theorem rowsAre_of : ∀ {vs : List Value} {cs : List Nat}, StrsAre vs (cs.map rowS) → (∀ c ∈ cs, c < 2048) → RowsAre vs (rsOf cs)
  | vs, [], h, _ => by cases h; exact .nil
  | vs, c :: cs, h, hc => by
    cases h with
    | cons _ t h => exact .cons (rows_ok (hc c (.head _))) (rowsAre_of h fun d hd => hc d (.tail _ hd))
noncomputable def stalkRowsS : Nat → List Bool → List Str
  | _, [] => []
  | k, b :: r => stalkS k b :: stalkRowsS (k + 1) r
theorem rowsAre_stalk : ∀ {vs : List Value} {k : Nat} {bs : List Bool}, StrsAre vs (stalkRowsS k bs) → k + bs.length ≤ 4 → RowsAre vs (stalkRows k bs)
  | vs, k, [], h, _ => by cases h; exact .nil
  | vs, k, b :: bs, h, hk => by
    cases h with
    | cons _ t h => exact .cons (rowOkB_ok (stalks_ok k (by simp only [List.length_cons] at hk; omega) b)) (rowsAre_stalk h (by simp only [List.length_cons] at hk; omega))
theorem RowsAre.app : ∀ {vs ws : List Value} {rs ts : List (Wd × Int)}, RowsAre vs rs → RowsAre ws ts → RowsAre (vs ++ ws) (rs ++ ts)
  | _, _, _, _, .nil, k => k
  | _, _, _, _, .cons a h, k => .cons a (RowsAre.app h k)
theorem rsOf_length (cs : List Nat) : (rsOf cs).length = cs.length := by
  unfold rsOf
  rw [List.length_zip, List.length_map, List.length_map, List.length_map, Nat.min_self]
theorem stalkRows_length : ∀ (k : Nat) (bs : List Bool), (stalkRows k bs).length = bs.length
  | _, [] => rfl
  | k, b :: r => by
    show (stalkRows (k + 1) r).length + 1 = _
    rw [stalkRows_length]; rfl
/-- what the plain law says of four cells -/
theorem plain_cells {cs : List Nat} (hl : cs.length = 4) (hc : ∀ c ∈ cs, c < 2048) :
    ∃ (st : Str) (stb : List Bool), Sp.run (- worthP (rsOf cs)) 9 ⟨Str.ofString "", 0, none, none⟩ = some st ∧ st.cps.toList = stb.map (fun b => if b = true then 45 else 43) ∧ stb.length ≤ 4 ∧ (-32 ≤ worthP (rsOf cs) ∧ worthP (rsOf cs) ≤ 32) ∧
      (st == Str.ofString "") = decide (worthP (rsOf cs) = 0) ∧ worthP (rsOf cs ++ stalkRows 0 stb) = 0 ∧
      (goR (cs.map sgnC) (partsGo (cs.map leadS) 4).2 stb 16).testBit (keyN 15 stb.length 0) = false ∧ (goR (cs.map sgnC) (partsGo (cs.map leadS) 4).2 stb 16).testBit (keyN 15 stb.length 1) = false ∧
      ∀ k, k < 4 → ((partsGo (cs.map leadS) 4).2.getD k 0).testBit k = true := by
  obtain ⟨st, h1, h2, h3, h4⟩ := plain_law (ss := cs.map leadS) (xs := cs.map fun c => leadL (c / 2 % 8) (c / 16)) (ws := cs.map wdC) (sg := cs.map sgnC) (by rw [List.map_map]; rfl) (by rw [List.length_map, hl]) (by rw [List.length_map, hl]) (by rw [List.length_map, hl]) (by
    intro k hk
    have hk' : k < cs.length := by omega
    rw [List.getD_eq_getElem?_getD, List.getD_eq_getElem?_getD, List.getElem?_map, List.getElem?_map, List.getElem?_eq_getElem hk']
    have := hc cs[k] (List.getElem_mem hk')
    exact leadL_fact (Nat.mod_lt _ (by decide)) (by omega))
  unfold goodW at h2
  simp only [Bool.and_eq_true, decide_eq_true_eq] at h2
  obtain ⟨⟨⟨⟨g1, g2⟩, g3⟩, g4⟩, g5⟩ := h2
  unfold fin2 at h3
  simp only [Bool.and_eq_true, Bool.not_eq_true'] at h3
  refine ⟨st, st.cps.toList.map fun c => decide (c = 45), h1, g1, by rw [List.length_map]; exact g2, g4, ?_, ?_, h3.1, h3.2, h4⟩
  · exact eq_of_beq g5
  · rw [worth_whole]; exact g3
theorem w_bits : ∀ k : Nat, k < 65 → Builtin.Int.intBits ((k : Int) - 32) ≤ 64 := by decide +kernel
theorem w_mulok {a W : Int} (h : -32 ≤ W ∧ W ≤ 32) : IntMulOk a W := by
  have := w_bits (W + 32).toNat (by omega)
  rw [show (((W + 32).toNat : Nat) : Int) - 32 = W by omega] at this
  exact IntMulOk.of_right this
theorem mul_zero_iff {a W : Int} (h : 0 ≤ a) : decide ((1 + a) * W = 0) = decide (W = 0) := by
  have : (1 + a) * W = 0 ↔ W = 0 := by
    rw [Int.mul_eq_zero]
    constructor
    · rintro (h' | h')
      · omega
      · exact h'
    · exact .inr
  simp only [this]
theorem slice_pre : ∀ j : Nat, j < 4 → Txt.slice (Str.ofString " \t \t") none (some ((0 : Int) + (j : Int))) = stalkPre j := by decide +kernel
theorem stalkPre_len : ∀ j : Nat, j < 4 → (stalkPre j).length ≤ 4 := by decide +kernel
theorem stalkRowsS_get : ∀ (k : Nat) (bs : List Bool) (j : Nat), j < bs.length → (stalkRowsS k bs)[j]? = some (stalkS (k + j) (bs.getD j false))
  | k, [], j, h => absurd h (Nat.not_lt_zero j)
  | k, b :: bs, 0, h => rfl
  | k, b :: bs, j + 1, h => by
    have := stalkRowsS_get (k + 1) bs j (Nat.lt_of_succ_lt_succ h)
    rw [Nat.add_right_comm] at this
    exact this
theorem stalkRowsS_length : ∀ (k : Nat) (bs : List Bool), (stalkRowsS k bs).length = bs.length
  | _, [] => rfl
  | k, b :: r => congrArg (· + 1) (stalkRowsS_length (k + 1) r)
end Mine

end
section
open PySem PySem.W PyProof.Rows
set_option maxRecDepth 100000
set_option Elab.async false
set_option maxHeartbeats 2000000
set_option linter.unusedVariables false
set_option linter.unusedSectionVars false
namespace Mine
local macro_rules | `(tactic| omega) => `(tactic| first | lia | omega +splitDisjunctions)
local macro_rules | `(tactic| k_room) => `(tactic| ((try simp only [depth_under_make, depth_under_kw, depth_in1, depth_deeper, depth_caller]); (have hR9 : recursionLimit = 1000 := rfl); omega))
local macro_rules | `(tactic| k_steps) => `(tactic| repeat' ((fail_if_success (with_reducible show wpAny _ _ (exec (Stmt.While _ _ _ _) _) _ _ _)); (fail_if_success (with_reducible show wpAny _ _ (exec (Stmt.For _ _ _ _ _) _) _ _ _)); first | (k_unfold; (try dsimp only)) | (k_end; wrow_close) | walk1 | (dsimp only; walk1) | (leave1; walk_say "STEP leave1"; try dsimp only) | fail "no step"))
local macro_rules | `(tactic| walk_at "call builtin:list.pop") => `(tactic| (k_here; k_dflt (refine' kl_pop ?F ?N ?e ?U ?z ?_; (case F => k_asm); (case N => k_asm); (case U => k_upd); (case e => exact kl_last_snoc _ _); (case z => (simp only [List.length_append, List.length_cons, List.length_nil, sizeLine_eq]; omega))); kl_rest))
local macro_rules | `(tactic| k_all) => `(tactic| (refine allLt_ne ?_; first | assumption | exact And.right (by assumption) | exact And.right (And.right (by assumption)) | exact And.right (And.right (And.right (by assumption))) | exact And.right (And.right (And.right (And.right (by assumption)))) | exact And.right (And.right (And.right (And.right (And.right (by assumption))))) | exact And.right (And.right (And.right (And.right (And.right (And.right (by assumption))))))))
-- LISTS
local macro_rules | `(tactic| walk_at "call builtin:len") => `(tactic| (k_here; (with_reducible show wpAny _ _ (call (Value.builtin "len") [Value.ref _]) _ _ _); k_dflt (refine' m_len ?kN ?km ?kf ?_; (case kN => k_asm); (case km => k_mem); (case kf => ((try simp only [List.length_append, List.length_cons, List.length_nil, List.length_replicate, List.length_set]); omega)))))
local macro_rules | `(tactic| walk_at "subscriptTail") => `(tactic| (k_here; (with_reducible show wpAny _ _ (subscriptTail _ _ (Value.ref _) (Value.int (-1) _)) _ _ _); k_dflt (refine' m_last ?kN ?km ?kf ?_; (case kN => k_asm); (case km => k_mem); (case kf => omega))))
local macro_rules | `(tactic| walk_at "subscriptTail") => `(tactic| (k_here; (with_reducible show wpAny _ _ (subscriptTail _ _ (Value.ref _) (Value.int _ _)) _ _ _); k_dflt (refine' m_item_ints ?kN ?km ?ki ?k0 ?k1 ?kf ?_; (case kN => k_asm); (case km => k_mem); (case ki => first | with_reducible assumption | exact IntsAre.append (by with_reducible assumption) (intsAre_rep _ _ _)); (case k0 => omega); (case k1 => ((try simp only [List.length_append, List.length_replicate, natI_length]); omega)); (case kf => omega)); intro t9'))
local macro_rules | `(tactic| walk_at "setItem ref int") => `(tactic| (k_here; k_dflt (refine' m_set ?kF ?kN ?k0 ?k1 ?kf ?kU ?_; (case kF => k_asm); (case kN => k_asm); (case kU => k_upd); (case k0 => omega); (case k1 => ((try simp only [List.length_append, List.length_cons, List.length_nil, List.length_replicate, List.length_set]); omega)); (case kf => omega)); intro h' F' N'; (try dsimp only at N'); (try k_sweep)))
local macro_rules | `(tactic| walk_at "binaryOp Add ref ref") => `(tactic| (k_here; k_dflt (refine' m_add ?kF ?kN ?ka ?kb ?kz ?_; (case kF => k_asm); (case kN => k_asm); (case ka => k_mem); (case kb => k_mem); (case kz => (rw [sizeLine_eq]; (try simp only [List.length_append, List.length_cons, List.length_nil, List.length_replicate, List.length_set]); omega))); intro D' h' F' N' l1; (try k_lt l1); (try k_sweep)))
local macro_rules | `(tactic| walk_at "binaryOp Mult ref int") => `(tactic| (k_here; k_dflt (refine' m_mul ?kF ?kN ?ka ?k0 ?k1 ?_; (case kF => k_asm); (case kN => k_asm); (case ka => k_mem); (case k0 => omega); (case k1 => omega)); intro D' h' F' N' l1; (try k_lt l1); (try k_sweep)))
local macro_rules | `(tactic| walk_at "call type:tuple") => `(tactic| (k_here; (with_reducible show wpAny _ _ (call (Value.type _) [Value.ref _]) _ _ _); k_dflt (refine' kde_tupleOf ?k1 ?k2 ?k3 ?k4 ?k5 ?_; (case k1 => k_asm); (case k2 => k_asm); (case k3 => exact News.isList (by k_asm) (by k_mem)); (case k4 => (rw [List.size_toArray]; omega)); (case k5 => exact List.toList_toArray)); intro D' h' F' N' l1; (try k_lt l1); (try k_sweep)))
-- TUPLES
local macro_rules | `(tactic| k_mem) => `(tactic| (show (_ : Addr × Obj) ∈ (_ : List (Addr × Obj)); with_reducible assumption))
local macro_rules | `(tactic| walk_at "call builtin:len") => `(tactic| (k_here; (with_reducible show wpAny _ _ (call (Value.builtin "len") [Value.ref _]) _ _ _); k_dflt (refine' m_lenT ?kN ?km ?kf ?_; (case kN => k_asm); (case km => k_mem); (case kf => ((try simp only [List.length_append, List.length_cons, List.length_nil]); omega)))))
local macro_rules | `(tactic| walk_at "subscriptTail") => `(tactic| (k_here; (with_reducible show wpAny _ _ (subscriptTail _ _ (Value.ref _) (Value.int _ _)) _ _ _); k_dflt (refine' m_itemT_ints ?kN ?km ?ki ?k0 ?k1 ?kf ?_; (case kN => k_asm); (case km => k_mem); (case ki => with_reducible assumption); (case k0 => omega); (case k1 => ((try simp only [natI_length]); omega)); (case kf => omega)); intro t9'))
local macro_rules | `(tactic| walk_at "call ref") => `(tactic| (k_here; (with_reducible show wpAny _ _ (call (Value.ref 45) [Value.int _ _, Value.int _ _]) _ _ _); k_dflt (refine' add_call ?kd ?ku ?kB ?kF ?kX ?kT ?kN ?_; (case kB => k_asm); (case kF => k_asm); (case kX => k_asm); (case kT => k_asm); (case kN => k_asm); (case kd => (dsimp only [Around.deeper, Around.in1]; omega)); (case ku => (dsimp only [Around.deeper, Around.in1]; omega)); intro h' tk' t' F' N'; (try dsimp only); (try k_sweep))))
local macro_rules | `(tactic| walk_at "call ref") => `(tactic| (k_here; (with_reducible show wpAny _ _ (call (Value.ref 52) [Value.int _ _, Value.int _ _]) _ _ _); k_dflt (refine' mul_call ?kd ?ku ?kB ?kF ?kX ?kT ?kN ?km ?_; (case kB => k_asm); (case kF => k_asm); (case kX => k_asm); (case kT => k_asm); (case kN => k_asm); (case kd => (dsimp only [Around.deeper, Around.in1]; omega)); (case ku => (dsimp only [Around.deeper, Around.in1]; omega)); (case km => mul_fits); intro h' tk' t' F' N'; (try dsimp only); (try k_sweep))))
local macro_rules | `(tactic| walk_at "call ref") => `(tactic| (k_here; (with_reducible show wpAny _ _ (call (Value.ref 59) [Value.int _ _]) _ _ _); k_dflt (refine' neg_call ?kd ?ku ?kB ?kF ?kX ?kT ?kN ?_; (case kB => k_asm); (case kF => k_asm); (case kX => k_asm); (case kT => k_asm); (case kN => k_asm); (case kd => (dsimp only [Around.deeper, Around.in1]; omega)); (case ku => (dsimp only [Around.deeper, Around.in1]; omega)); intro h' tk' t' F' N'; (try dsimp only); (try k_sweep))))
local macro_rules | `(tactic| walk_at "call ref") => `(tactic| (k_here; (with_reducible show wpAny _ _ (call (Value.ref 66) [Value.int _ _]) _ _ _); k_dflt (refine' pos_call ?kd ?ku ?kB ?kF ?kX ?kT ?kN ?_; (case kB => k_asm); (case kF => k_asm); (case kX => k_asm); (case kT => k_asm); (case kN => k_asm); (case kd => (dsimp only [Around.deeper, Around.in1]; omega)); (case ku => (dsimp only [Around.deeper, Around.in1]; omega)); intro h' tk' t' F' N'; (try dsimp only); (try k_sweep))))
local macro_rules | `(tactic| walk_at "call ref") => `(tactic| (k_here; (with_reducible show wpAny _ _ (call (Value.ref 73) [Value.int _ _, Value.int _ _]) _ _ _); k_dflt (refine' rshift_call ?kd ?ku ?kB ?kF ?kX ?kT ?kN ?km ?_; (case kB => k_asm); (case kF => k_asm); (case kX => k_asm); (case kT => k_asm); (case kN => k_asm); (case kd => (dsimp only [Around.deeper, Around.in1]; omega)); (case ku => (dsimp only [Around.deeper, Around.in1]; omega)); (case km => l_bnd); intro h' tk' t' F' N'; (try dsimp only); (try k_sweep))))
local macro_rules | `(tactic| walk_at "call ref") => `(tactic| (k_here; (with_reducible show wpAny _ _ (call (Value.ref 31) [Value.int _ _]) _ _ _); k_dflt (refine' isterminal_call ?kd ?ku ?kB ?kF ?kX ?kT ?kN ?_; (case kB => k_asm); (case kF => k_asm); (case kX => k_asm); (case kT => k_asm); (case kN => k_asm); (case kd => (dsimp only [Around.deeper, Around.in1]; omega)); (case ku => (dsimp only [Around.deeper, Around.in1]; omega)); intro h' tk' F' N'; (try dsimp only); (try k_sweep))))
local macro_rules | `(tactic| walk_at "call ref") => `(tactic| (k_here; (with_reducible show wpAny _ _ (call (Value.ref 38) [Value.int _ _]) _ _ _); k_dflt (refine' iseof_call ?kd ?ku ?kB ?kF ?kX ?kT ?kN ?_; (case kB => k_asm); (case kF => k_asm); (case kX => k_asm); (case kT => k_asm); (case kN => k_asm); (case kd => (dsimp only [Around.deeper, Around.in1]; omega)); (case ku => (dsimp only [Around.deeper, Around.in1]; omega)); intro h' tk' F' N'; (try dsimp only); (try k_sweep))))
local macro_rules | `(tactic| k_steps) => `(tactic| repeat' ((fail_if_success (with_reducible show wpAny _ _ (exec (Stmt.While _ _ _ _) _) _ _ _)); (fail_if_success (with_reducible show wpAny _ _ (exec (Stmt.For _ _ _ _ _) _) _ _ _)); (fail_if_success (with_reducible show wpAny _ _ (eval (Expr.ListComp _ _ _ _) _) _ _ _)); (fail_if_success (with_reducible show PyProof.Rows.LCg.CompSrc _ _ _ _ _ _ _ _ _ _ _ _ _ _)); (fail_if_success (with_reducible show PyProof.Rows.LCt.CompSrcT _ _ _ _ _ _ _ _ _ _ _ _ _ _ _)); (fail_if_success (with_reducible show PyProof.Rows.LCg.CompEnd _ _ _ _ _ _ _ _ _ _ _ _ _ _)); (fail_if_success (with_reducible show wpAny _ _ (call (Value.ref 167) _) _ _ _)); (fail_if_success (with_reducible show wpAny _ _ (exec (Stmt.Assign _ (Expr.ListComp _ _ _ _) _) _) _ _ _)); first | (k_unfold; (try dsimp only)) | (k_end; wrow_close) | walk1 | (dsimp only; walk1) | (leave1; walk_say "STEP leave1"; try dsimp only) | fail "no step"))


local macro_rules | `(tactic| k_all) => `(tactic| (refine allLt_ne ?_; first | assumption | exact And.right (by assumption) | exact And.right (And.right (by assumption)) | exact And.right (And.right (And.right (by assumption))) | exact And.right (And.right (And.right (And.right (by assumption)))) | exact And.right (And.right (And.right (And.right (And.right (by assumption))))) | exact And.right (And.right (And.right (And.right (And.right (And.right (by assumption)))))) | exact And.right (And.right (And.right (And.right (And.right (And.right (And.right (by assumption))))))) | exact And.right (And.right (And.right (And.right (And.right (And.right (And.right (And.right (by assumption)))))))) | exact And.right (And.right (And.right (And.right (And.right (And.right (And.right (And.right (And.right (by assumption))))))))) | exact And.right (And.right (And.right (And.right (And.right (And.right (And.right (And.right (And.right (And.right (by assumption)))))))))) | exact And.right (And.right (And.right (And.right (And.right (And.right (And.right (And.right (And.right (And.right (And.right (by assumption))))))))))) | exact And.right (And.right (And.right (And.right (And.right (And.right (And.right (And.right (And.right (And.right (And.right (And.right (by assumption)))))))))))) | exact And.right (And.right (And.right (And.right (And.right (And.right (And.right (And.right (And.right (And.right (And.right (And.right (And.right (by assumption))))))))))))) | exact And.right (And.right (And.right (And.right (And.right (And.right (And.right (And.right (And.right (And.right (And.right (And.right (And.right (And.right (by assumption)))))))))))))) | exact And.right (And.right (And.right (And.right (And.right (And.right (And.right (And.right (And.right (And.right (And.right (And.right (And.right (And.right (And.right (by assumption)))))))))))))))))
local macro_rules | `(tactic| walk_at "subscriptTail") => `(tactic| (k_here; (with_reducible show wpAny _ _ (subscriptTail _ _ (Value.str _ _) (Value.int (0 + _) _)) _ _ _); k_dflt (refine' m_char ?h0 ?hf ?hc ?_; (case h0 => omega); (case hf => omega); (case hc => with_reducible assumption)); intro t9'))

noncomputable def cellN (x : Int) : Nat := (x.fmod 2048).toNat
theorem cellN_lt (x : Int) : cellN x < 2048 := by
  have h1 : 0 ≤ x.fmod 2048 := Int.fmod_nonneg_of_pos _ (by decide)
  have h2 : x.fmod 2048 < 2048 := Int.fmod_lt_of_pos _ (by decide)
  unfold cellN
  omega
theorem cells_four {sc : List Int} {ys ws : List Value} (h1 : IntsAre ys (natI ((sc.take (min 4 sc.length)).map cellN))) (h2 : IntsAre ws (([8, 267, 76, 591] : List Int).drop (min 4 sc.length))) :
    ∃ cs : List Nat, IntsAre (ys ++ ws) (natI cs) ∧ cs.length = 4 ∧ ∀ k, k < 4 → cs.getD k 0 < 2048 := by
  refine ⟨(sc.take (min 4 sc.length)).map cellN ++ ([8, 267, 76, 591] : List Nat).drop (min 4 sc.length), ?_, ?_, ?_⟩
  · rw [natI_append]
    refine IntsAre.append h1 ?_
    have : natI (([8, 267, 76, 591] : List Nat).drop (min 4 sc.length)) = ([8, 267, 76, 591] : List Int).drop (min 4 sc.length) := by
      unfold natI; rw [List.map_drop]; rfl
    rw [this]; exact h2
  · rw [List.length_append, List.length_map, List.length_take, List.length_drop]
    simp only [List.length_cons, List.length_nil]
    omega
  · intro k hk
    have hall : ∀ c ∈ (sc.take (min 4 sc.length)).map cellN ++ ([8, 267, 76, 591] : List Nat).drop (min 4 sc.length), c < 2048 := by
      intro c hc
      rcases List.mem_append.mp hc with hc | hc
      · obtain ⟨x, _, rfl⟩ := List.mem_map.mp hc
        exact cellN_lt x
      · have := List.mem_of_mem_drop hc
        simp only [List.mem_cons, List.not_mem_nil, or_false] at this
        omega
    rw [List.getD_eq_getElem?_getD]
    cases e : ((sc.take (min 4 sc.length)).map cellN ++ ([8, 267, 76, 591] : List Nat).drop (min 4 sc.length))[k]? with
    | none => decide
    | some c => exact hall c (List.mem_of_getElem? e)
local macro_rules | `(tactic| walk_at "subscriptTail") => `(tactic| (k_here; (with_reducible show wpAny _ _ (subscriptTail _ _ (Value.ref _) (Value.int _ _)) _ _ _); k_dflt (refine' m_item ?kN ?km ?k0 ?kf ?kx ?_; (case kN => k_asm); (case km => k_mem); (case kx => with_reducible assumption); (case k0 => omega); (case kf => omega))))
-- LAWCALLS
local macro_rules | `(tactic| walk_at "call ref") => `(tactic| (k_here; (with_reducible show wpAny _ _ (call (Value.ref 52) [Value.int _ _, Value.int _ _]) _ _ _); k_dflt (refine' mul_call (h₀ := _) ?kd ?ku ?kB ?kF ?kX ?kT ?kN ?km ?_; (case kF => k_asm); (case kN => k_asm); (case kX => k_asm); (case kT => k_asm); (case kB => k_asm); (case kd => decide); (case ku => decide); (case km => exact w_mulok (by assumption)); intro h' tk' t' F' N'; (try dsimp only); (try k_sweep))))
local macro_rules | `(tactic| walk_at "call ref") => `(tactic| (k_here; (with_reducible show wpAny _ _ (call (Value.ref 59) [Value.int _ _]) _ _ _); k_dflt (refine' neg_call ?kd ?ku ?kB ?kF ?kX ?kT ?kN ?_; (case kF => k_asm); (case kN => k_asm); (case kX => k_asm); (case kT => k_asm); (case kB => k_asm); (case kd => decide); (case ku => decide); intro h' tk' t' F' N'; (try dsimp only); (try k_sweep))))
local macro_rules | `(tactic| walk_at "call ref") => `(tactic| (k_here; (with_reducible show wpAny _ _ (call (Value.ref 38) [Value.int _ _]) _ _ _); k_dflt (refine' iseof_call ?kd ?ku ?kB ?kF ?kX ?kT ?kN ?_; (case kF => k_asm); (case kN => k_asm); (case kX => k_asm); (case kT => k_asm); (case kB => k_asm); (case kd => decide); (case ku => decide); intro h' tk' F' N'; (try dsimp only); (try k_sweep))))
local macro_rules | `(tactic| walk_at "call builtin:len") => `(tactic| (k_here; (with_reducible show wpAny _ _ (call (Value.builtin "len") [Value.str _ _]) _ _ _); k_dflt (refine' PySem.len_str ?hf ?_; (case hf => omega))))
local macro_rules | `(tactic| walk_at "call ref") => `(tactic| (k_here; (with_reducible show wpAny _ _ (call (Value.ref 153) [Value.ref _, Value.bool false]) _ _ _); k_dflt (refine' worth_call ?kd ?ku ?kB ?kF ?kX ?kT ?kN ?kp ?kr ?kl ?_; (case kF => k_asm); (case kN => k_asm); (case kX => k_asm); (case kT => k_asm); (case kB => k_asm); (case kd => decide); (case ku => decide); (case kp => k_mem); (case kr => with_reducible assumption); (case kl => with_reducible assumption); intro h' tk' t' F' N'; (try dsimp only); (try k_sweep))))
theorem law_try : PySem.Challenge.rw_tl0031_01.Holds := by
  w_top off
  refine hd ?_
  k_go0
  (all_goals try k_fold)
  k_steps
  rename World => w
  rename List Int => sc
  rename Shared => s1
  rename Heap.IsList _ _ _ => hLs
  rename IntsAre _ _ => hIs
  rename ¬ _ < _ => hlen
  rename Fr _ _ _ _ => F0
  rename News _ _ _ _ => N0
  rename CellsAre _ _ _ => Y0
  clear Y0
  have hls : sc.length ≤ 63 := by omega
  change Fr _ _ _ (fun z => if z = Str.ofString "script" then some (Value.ref _) else none) at F0
  rename _ = Data.cell (bindC _ _ _ (Str.ofString "stalk")) => d1
  rename _ = Data.cell (bindC _ _ _ (Str.ofString "signs")) => d2
  rename _ = Data.cell (bindC _ _ _ (Str.ofString "leads")) => d3
  obtain ⟨oSt, oSg, oLd, vSt, vSg, vLd, dSt, dSg, dLd, N1⟩ : ∃ (oSt oSg oLd : Obj) (v1 v2 v3 : Option Value), oSt.data = Data.cell v1 ∧ oSg.data = Data.cell v2 ∧ oLd.data = Data.cell v3 ∧ News s1.heap s1.heap.objs.size _ [(s1.heap.objs.size + 1 + 1 + 1, oSt), (s1.heap.objs.size + 1 + 1, oSg), (s1.heap.objs.size + 1, oLd)] :=
    ⟨_, _, _, _, _, _, d1, d2, d3, N0⟩
  clear N0 d1 d2 d3
  refine LCg.ListComp_U (F₀ := F0) (by with_unfolding_all rfl) (by decide) (by rfl) (by decide) (by rfl) ?_
  k_steps
  rename IntsAre _ (List.take 4 sc) => hI4
  rename Fr _ _ _ _ => F1
  rename News _ _ _ _ => N2
  rename List Value => ws4
  rename @LT.lt Nat _ _ _ ∧ _ => hlt1
  have hw4 : ws4.length = min 4 sc.length := by rw [hI4.length, List.length_take]
  obtain ⟨bw, hbw, N3⟩ := news_get N2
  refine LCg.CompSrc.ledger (k := 0) (its := ws4.toArray) (by rfl) F1 N3 (by rw [hbw]; exact .head _) (by rw [List.size_toArray, sizeLine_eq]; omega) ?_
  intro g1
  refine compRest_ind (fun i ys nw => nw = bw ∧ IntsAre ys (natI ((sc.take i).map cellN))) ws4.toArray.size ?_ ?_ ⟨rfl, .nil⟩
  · rintro i ys nw v I oI C oC D m₂ h2 tk2 E' hi ⟨rfl, hys⟩ hP hC hx F4 N4 off ⟨ne1, ne2, ne3⟩
    rw [List.size_toArray] at hi
    have hP' : ws4[i]? = some v := by simpa using hP
    obtain ⟨xi, txi, rfl, hxi⟩ := intsAre_get hI4 i v hP'
    have hxi2 : sc[i]? = some xi := by rw [List.getElem?_take] at hxi; split at hxi; exact hxi; cases hxi
    clear F1 N2 N3
    iterate 4 (first | (k_unfold; (try dsimp only)) | (k_end; wrow_close) | walk1 | (dsimp only; walk1) | (leave1; walk_say "STEP leave1"; try dsimp only))
    refine LCg.CompEnd.intro F4 N4 _ (fun _ h => h) off (.inr ⟨_, by rw [hbw]; exact .head _, rfl, _, rfl⟩) ⟨rfl, ?_⟩
    rw [take_snocL hxi2, List.map_append, natI_append]
    refine IntsAre.append hys ?_
    have e9 : xi.fmod 2048 = ((cellN xi : Nat) : Int) := (Int.toNat_of_nonneg (Int.fmod_nonneg_of_pos _ (by decide))).symm
    show IntsAre [Value.int (xi.fmod 2048) _] [((cellN xi : Nat) : Int)]
    rw [← e9]
    exact .cons _ _ .nil
  · rintro ys nw ⟨rfl, hys⟩
    intro D h2 tk2 F4 N4 off
    subst hbw
    clear F1 N2 N3
    have N5 : News s1.heap s1.heap.objs.size h2 ((D, listOf ys.toArray ys.length) :: [(s1.heap.objs.size + 1 + 1 + 1, oSt), (s1.heap.objs.size + 1 + 1, oSg), (s1.heap.objs.size + 1, oLd)]) := fun p hp => N4 p (by
      simp only [List.mem_cons] at hp ⊢
      rcases hp with q | q | q | q | q <;> first | (cases q; done) | simp [q])
    clear N4
    have hysl : ys.length = min 4 sc.length := by rw [hys.length, natI_length, List.length_map, List.length_take, List.size_toArray, hw4]; omega
    (try dsimp only)
    iterate 30 (first | (k_unfold; (try dsimp only)) | (k_end; wrow_close) | walk1 | (dsimp only; walk1) | (leave1; walk_say "STEP leave1"; try dsimp only))
    rename Fr _ _ _ _ => F5
    rename News _ _ _ _ => N5
    refine kba_turn (value' := PySem.Expr.Name (PySem.Str.ofString "_") ⟨0, 0, 0, 0⟩) (fun _ => rfl) ?_
    refine' kmk_slice_ints (ns := [8, 267, 76, 591]) F5 N5 (News.isList N5 (.tail _ (.head _))) (IsPart.int _ _) IsPart.none (.cons _ _ (.cons _ _ (.cons _ _ (.cons _ _ .nil)))) (kmk_from (.cons _ _ (.cons _ _ (.cons _ _ (.cons _ _ .nil)))) (by omega)) rfl ?_ ?s ?t ?z
    (case s => with_unfolding_all rfl)
    (case t => (intro _; with_unfolding_all rfl))
    (case z => exact Nat.le_of_ble_eq_true rfl)
    intro D7 ws7 h7 F7 N7 l7 hI7 hc7 hl7
    have hws7 : ws7.length = 4 - min 4 sc.length := by rw [hI7.length, List.length_drop, List.length_take, Int.toNat_natCast]; rfl
    refine' m_add F7 N7 (.tail _ (.tail _ (.tail _ (.head _)))) (.head _) (by rw [sizeLine_eq]; omega) ?_
    intro Dc h8 F8 N8 l8
    (try dsimp only)
    obtain ⟨cs, hcs, hcl, hclt⟩ := cells_four (sc := sc) (ys := ys) (ws := ws7) (by rw [List.size_toArray, hw4] at hys; exact hys) (by rw [List.length_take, Int.toNat_natCast] at hI7; exact hI7)
    generalize hcv : ys ++ ws7 = cvs at hcs
    rw [hcv] at N8
    have N9 : News s1.heap s1.heap.objs.size h8 ((Dc, listOf cvs.toArray 0) :: [(s1.heap.objs.size + 1 + 1 + 1, oSt), (s1.heap.objs.size + 1 + 1, oSg), (s1.heap.objs.size + 1, oLd)]) := fun p hp => N8 p (by
      simp only [List.mem_cons] at hp ⊢
      rcases hp with q | q | q | q | q <;> first | (cases q; done) | simp [q])
    clear N5 N7 N8 F5 F7 hys hI7
    have hDc1 : @LT.lt Nat _ (s1.heap.objs.size + 1) Dc := l8 _ (.tail _ (.tail _ (.tail _ (.tail _ (.tail _ (.tail _ (.head _)))))))
    have hDc2 : @LT.lt Nat _ (s1.heap.objs.size + 1 + 1) Dc := l8 _ (.tail _ (.tail _ (.tail _ (.tail _ (.tail _ (.head _))))))
    have hDc3 : @LT.lt Nat _ (s1.heap.objs.size + 1 + 1 + 1) Dc := l8 _ (.tail _ (.tail _ (.tail _ (.tail _ (.head _)))))
    have hDcx1 : @Ne Nat Dc (s1.heap.objs.size + 1) := Nat.ne_of_gt hDc1
    have hDcx2 : @Ne Nat Dc (s1.heap.objs.size + 1 + 1) := Nat.ne_of_gt hDc2
    have hDcx3 : @Ne Nat Dc (s1.heap.objs.size + 1 + 1 + 1) := Nat.ne_of_gt hDc3
    clear l7 hc7 hl7 l8 off hcv hws7 hysl hlt1 hw4 hI4
    have hcvl : cvs.length = 4 := by rw [hcs.length, natI_length, hcl]
    iterate 4 (first | (k_unfold; (try dsimp only)) | (k_end; wrow_close) | walk1 | (dsimp only; walk1) | (leave1; walk_say "STEP leave1"; try dsimp only))
    rename Fr _ _ _ _ => F10
    rename News _ _ _ _ => N10
    refine ListComp_K (_F := F10) (x := Str.ofString "cell") (fun i zs nw => nw = (Dc, listOf cvs.toArray 0) :: [(s1.heap.objs.size + 1 + 1 + 1, oSt), (s1.heap.objs.size + 1 + 1, oSg), (s1.heap.objs.size + 1, oLd)] ∧ StrsAre zs ((cs.take i).map leadS))
      (by with_unfolding_all rfl) (by rfl) (by decide) (by rfl) (fun _ => rfl) (fun _ => rfl) ?_
    iterate 1 (first | (k_unfold; (try dsimp only)) | (k_end; wrow_close) | walk1 | (dsimp only; walk1) | (leave1; walk_say "STEP leave1"; try dsimp only))
    refine ⟨Dc, cvs.toArray, _, rfl, rfl, F10, N10, .inr ⟨_, .head _, rfl, _, rfl⟩, by rw [List.size_toArray, sizeLine_eq]; omega, ⟨rfl, .nil⟩, ?_, ?_⟩
    · clear F10 N10
      rintro i zs nw v I oI C oC D K oK h tk E' hi ⟨rfl, hzs⟩ hP hK F N off ⟨n1, n2, n3, n4, n5, n6⟩
      rw [List.size_toArray] at hi
      have hP' : cvs[i]? = some v := by simpa using hP
      obtain ⟨ci, tci, rfl, hci⟩ := intsAre_get hcs i v hP'
      have hci2 : ∃ c : Nat, cs[i]? = some c ∧ ci = (c : Int) := by
        unfold natI at hci
        rw [List.getElem?_map] at hci
        cases e : cs[i]? with
        | none => rw [e] at hci; cases hci
        | some c => rw [e] at hci; exact ⟨c, rfl, (Option.some.inj hci).symm⟩
      obtain ⟨c, hcc, rfl⟩ := hci2
      iterate 6 (first | (k_unfold; (try dsimp only)) | (k_end; wrow_close) | walk1 | (dsimp only; walk1) | (leave1; walk_say "STEP leave1"; try dsimp only))
      refine LCg.ListComp_U (F₀ := F) (by with_unfolding_all rfl) (by decide) (by rfl) (by decide) (by rfl) ?_
      k_steps
      rename IsRange _ _ _ _ _ _ _ _ => RG
      rename Fr _ _ _ _ => F11
      rename News _ _ _ _ => N11
      obtain ⟨bw, hbw, N12⟩ := news_get N11
      have e2 : (((c : Nat) : Int).fdiv 2).fmod 8 = ((c / 2 % 8 : Nat) : Int) := by
        rw [show ((c : Nat) : Int).fdiv 2 = ((c / 2 : Nat) : Int) from fdivN c 2]
        exact fmodN (c / 2) 8
      rw [e2] at RG
      have hn8 : c / 2 % 8 < 8 := Nat.mod_lt _ (by decide)
      generalize hnn : c / 2 % 8 = nn at RG hn8
      refine LCg.CompSrc.range (n := nn) (by rfl) F11 N12 RG (small_one (by omega) (by omega) (by omega) (by omega)) (by rw [rangeSize_nat]; omega) (by rw [sizeLine_eq]; omega) ?_
      intro g3
      refine compRest_ind (fun j ys nw => nw = bw ∧ StrsAre ys ((List.range j).map (leadCh (c / 16)))) nn ?_ ?_ ⟨rfl, .nil⟩
      · clear F11 N11 N12
        rintro j ys nw v I5 oI5 C5 oC5 D5 m₄ h4 tk4 E4 hj ⟨rfl, hys⟩ ⟨tj, rfl⟩ hC hx F12 N13 off5 ⟨ne1, ne2, ne3⟩
        subst hbw
        k_steps
        · rename _ ≠ (0 : Int) => hb9
          refine LCg.CompEnd.intro F12 N13 _ (fun _ h => h) off5 trivial ⟨rfl, ?_⟩
          rw [List.range_succ, List.map_append]
          refine StrsAre.append' hys ?_
          show StrsAre [_] [leadCh (c / 16) j]
          rw [leadCh_tab ((bit_iff16 c j).mp hb9)]
          exact .cons _ _ .nil
        · rename _ = (0 : Int) => hb9
          refine LCg.CompEnd.intro F12 N13 _ (fun _ h => h) off5 trivial ⟨rfl, ?_⟩
          rw [List.range_succ, List.map_append]
          refine StrsAre.append' hys ?_
          show StrsAre [_] [leadCh (c / 16) j]
          rw [leadCh_sp (fun q => (bit_iff16 c j).mpr q hb9)]
          exact .cons _ _ .nil
      · clear F11 N11 N12
        rintro ys nw ⟨rfl, hys⟩
        intro D5 h5 tk5 F13 N14 off5
        subst hbw
        have hc2 : c < 2048 := by
          have := hclt i (by omega)
          rw [List.getD_eq_getElem?_getD, hcc] at this
          exact this
        iterate 1 (first | (k_unfold; (try dsimp only)) | (k_end; wrow_close) | walk1 | (dsimp only; walk1) | (leave1; walk_say "STEP leave1"; try dsimp only))
        refine join_listW (News.isList N14 (.head _)) hys (by decide) (join_weight nn (c / 16) hn8) ?_
        intro t6 k6
        rw [join_all nn hn8 (c / 16) (by omega)]
        refine ⟨h5, _, _, rfl, F13, fun p hp => N14 p (.tail _ hp), off, .inr ⟨_, .head _, rfl, _, rfl⟩, rfl, ?_⟩
        rw [take_snocL hcc, List.map_append]
        refine StrsAre.append' hzs ?_
        show StrsAre [_] [leadS c]
        unfold leadS
        rw [hnn]
        exact .cons _ _ .nil
    · rintro zs nw ⟨rfl, hzs⟩ Dl h9 tk9 F11 N11 off1
      clear F10 N10
      rw [List.size_toArray, hcvl, List.take_of_length_le (by omega)] at hzs
      have hDlc : @Ne Nat Dl Dc := fun e => (off1_mem off1 _ (.head _)) e.symm
      have hDlx3 : @Ne Nat Dl (s1.heap.objs.size + 1 + 1 + 1) := fun e => (off1_mem off1 _ (.tail _ (.head _))) e.symm
      have hDlx2 : @Ne Nat Dl (s1.heap.objs.size + 1 + 1) := fun e => (off1_mem off1 _ (.tail _ (.tail _ (.head _)))) e.symm
      have hDlx1 : @Ne Nat Dl (s1.heap.objs.size + 1) := fun e => (off1_mem off1 _ (.tail _ (.tail _ (.tail _ (.head _))))) e.symm
      clear off1
      (try dsimp only)
      iterate 4 (first | (k_unfold; (try dsimp only)) | (k_end; wrow_close) | walk1 | (dsimp only; walk1) | (leave1; walk_say "STEP leave1"; try dsimp only))
      rename Fr _ _ _ _ => F12
      rename News _ _ _ _ => N12
      rename Obj.data _ = Data.cell (some (Value.ref Dl)) => dL2
      obtain ⟨oL2, dL2, N12⟩ : ∃ oL2 : Obj, oL2.data = Data.cell (some (.ref Dl)) ∧ News s1.heap s1.heap.objs.size _ [(Dl, listOf zs.toArray zs.length), (Dc, listOf cvs.toArray 0), (s1.heap.objs.size + 1 + 1 + 1, oSt), (s1.heap.objs.size + 1 + 1, oSg), (s1.heap.objs.size + 1, oL2)] := ⟨_, dL2, N12⟩
      refine LCg.ListComp_U (F₀ := F12) (by with_unfolding_all rfl) (by decide) (by rfl) (by decide) (by rfl) ?_
      iterate 1 (first | (k_unfold; (try dsimp only)) | (k_end; wrow_close) | walk1 | (dsimp only; walk1) | (leave1; walk_say "STEP leave1"; try dsimp only))
      obtain ⟨bw, hbw, N13⟩ := news_get N12
      refine LCg.CompSrc.ledger (k := 0) (its := cvs.toArray) (by rfl) F12 N13 (by rw [hbw]; exact .tail _ (.head _)) (by rw [List.size_toArray, sizeLine_eq]; omega) ?_
      intro g4
      refine compRest_ind (fun i ys nw => nw = bw ∧ StrsAre ys (((cs.take i).map sgnC).map sgn)) cvs.toArray.size ?_ ?_ ⟨rfl, .nil⟩
      · clear F12 N12 N13
        rintro i ys nw v I oI C oC D m₂ h2 tk2 E' hi ⟨rfl, hys⟩ hP hC hx F4 N4 off ⟨ne1, ne2, ne3⟩
        rw [List.size_toArray] at hi
        have hP' : cvs[i]? = some v := by simpa using hP
        obtain ⟨ci, tci, rfl, hci⟩ := intsAre_get hcs i v hP'
        obtain ⟨c, hcc, rfl⟩ := natI_get hci
        subst hbw
        iterate 6 (first | (k_unfold; (try dsimp only)) | (k_end; wrow_close) | walk1 | (dsimp only; walk1) | (leave1; walk_say "STEP leave1"; try dsimp only))
        refine m_char (c := if c % 2 = 1 then 45 else 43) (by rw [show ((c : Nat) : Int).fmod 2 = ((c % 2 : Nat) : Int) from fmodN c 2]; omega) (by rw [show ((c : Nat) : Int).fmod 2 = ((c % 2 : Nat) : Int) from fmodN c 2]; omega) (pm_char c) ?_
        intro t9
        refine LCg.CompEnd.intro F4 N4 _ (fun _ h => h) off (.inr ⟨_, .tail _ (.head _), rfl, _, rfl⟩) ⟨rfl, ?_⟩
        rw [take_snocL hcc, List.map_append, List.map_append]
        refine StrsAre.append' hys ?_
        show StrsAre [_] [sgn (sgnC c)]
        rw [sgnC_str]
        exact .cons _ _ .nil
      · rintro gs nw ⟨rfl, hgs⟩
        intro Dg h10 tk10 F13 N14 off2
        subst hbw
        clear F12 N12 N13
        rw [List.size_toArray, hcvl, List.take_of_length_le (by omega)] at hgs
        have hDgx0 : @Ne Nat Dg Dl := fun e => (off1_mem off2 _ (.head _)) e.symm
        have hDgxc : @Ne Nat Dg Dc := fun e => (off1_mem off2 _ (.tail _ (.head _))) e.symm
        have hDgx3 : @Ne Nat Dg (s1.heap.objs.size + 1 + 1 + 1) := fun e => (off1_mem off2 _ (.tail _ (.tail _ (.head _)))) e.symm
        have hDgx2 : @Ne Nat Dg (s1.heap.objs.size + 1 + 1) := fun e => (off1_mem off2 _ (.tail _ (.tail _ (.tail _ (.head _))))) e.symm
        have hDgx1 : @Ne Nat Dg (s1.heap.objs.size + 1) := fun e => (off1_mem off2 _ (.tail _ (.tail _ (.tail _ (.tail _ (.head _)))))) e.symm
        clear off2
        (try dsimp only)
        iterate 3 (first | (k_unfold; (try dsimp only)) | (k_end; wrow_close) | walk1 | (dsimp only; walk1) | (leave1; walk_say "STEP leave1"; try dsimp only))
        rename Fr _ _ _ _ => F14
        rename News _ _ _ _ => N15
        rename Obj.data _ = Data.cell (some (Value.ref Dg)) => dG2
        obtain ⟨oG2, dG2, N15⟩ : ∃ oG2 : Obj, oG2.data = Data.cell (some (.ref Dg)) ∧ News s1.heap s1.heap.objs.size _ [(Dg, listOf gs.toArray gs.length), (Dl, listOf zs.toArray zs.length), (Dc, listOf cvs.toArray 0), (s1.heap.objs.size + 1 + 1 + 1, oSt), (s1.heap.objs.size + 1 + 1, oG2), (s1.heap.objs.size + 1, oL2)] := ⟨_, dG2, N15⟩
        refine LCg.Assign_ListComp_U (F₀ := F14) (by rfl) (by with_unfolding_all rfl) (by with_unfolding_all rfl) (by decide) (by rfl) (by decide) (by rfl) (by rfl) (by rfl) ?_
        k_steps
        rename IsRange _ _ _ _ _ _ _ _ => RG
        rename Fr _ _ _ _ => F15
        rename News _ _ _ _ => N16
        obtain ⟨bw, hbw, N17⟩ := news_get N16
        refine LCg.CompSrc.range (n := 4) (by rfl) F15 N17 RG (by decide) (by decide) (by rw [sizeLine_eq]; omega) ?_
        intro g5
        refine compRest_ind (fun i ys nw => nw = bw ∧ StrsAre ys ((cs.take i).map rowS)) 4 ?_ ?_ ⟨rfl, .nil⟩
        · (try clear F14); (try clear N15); (try clear F15); (try clear N16); (try clear N17)
          rintro i ys nw v I oI C oC D m₂ h2 tk2 E' hi ⟨rfl, hys⟩ ⟨tj, rfl⟩ hC hx F4 N4 off ⟨ne1, ne2, ne3⟩
          subst hbw
          obtain ⟨c, hcc⟩ : ∃ c, cs[i]? = some c := ⟨_, List.getElem?_eq_getElem (by omega)⟩
          obtain ⟨ta, hza⟩ := strs_at hzs i (leadS c) (by rw [List.getElem?_map, hcc]; rfl)
          obtain ⟨tb, hgb⟩ := strs_at hgs i (sgn (sgnC c)) (by rw [List.getElem?_map, List.getElem?_map, hcc]; rfl)
          have hza2 : zs[((0 : Int) + (i : Int)).toNat]? = some (.str (leadS c) ta) := by rw [show ((0 : Int) + (i : Int)).toNat = i by omega]; exact hza
          have hgb2 : gs[((0 : Int) + (i : Int)).toNat]? = some (.str (sgn (sgnC c)) tb) := by rw [show ((0 : Int) + (i : Int)).toNat = i by omega]; exact hgb
          have hll := leadS_len c
          have hsl := sgn_len (sgnC c)
          iterate 13 (first | (k_unfold; (try dsimp only)) | (k_end; wrow_close) | walk1 | (dsimp only; walk1) | (leave1; walk_say "STEP leave1"; try dsimp only))
          refine LCg.CompEnd.intro F4 N4 _ (fun _ h => h) off trivial ⟨rfl, ?_⟩
          rw [take_snocL hcc, List.map_append]
          refine StrsAre.append' hys ?_
          exact .cons _ _ .nil
        · (try clear F14); (try clear N15); (try clear F15); (try clear N16); (try clear N17)
          rintro pgs nw ⟨rfl, hpg⟩
          unfold LCg.FinA
          intro Dp h11 tk11 F16 N18 off3
          subst hbw
          rw [List.take_of_length_le (by omega)] at hpg
          have hcall : ∀ c ∈ cs, c < 2048 := by
            intro c hc
            obtain ⟨k, hk, rfl⟩ := List.getElem_of_mem hc
            have := hclt k (by omega)
            rw [List.getD_eq_getElem?_getD, List.getElem?_eq_getElem hk] at this
            exact this
          have hrows := rowsAre_of hpg hcall
          obtain ⟨st, stb, hrun, hstb, hst4, hwb, hste, hwhole, hf0, hf1, hbits⟩ := plain_cells hcl hcall
          have hstl : st.length = stb.length := by
            have := congrArg List.length hstb
            rw [List.length_map] at this
            rw [← this]; rfl
          generalize hW : worthP (rsOf cs) = W at hrun hwb hste
          have hDpx0 : @Ne Nat Dp Dg := fun e => (off1_mem off3 _ (.head _)) e.symm
          have hDpxl : @Ne Nat Dp Dl := fun e => (off1_mem off3 _ (.tail _ (.head _))) e.symm
          have hDpxc : @Ne Nat Dp Dc := fun e => (off1_mem off3 _ (.tail _ (.tail _ (.head _)))) e.symm
          have hDpx3 : @Ne Nat Dp (s1.heap.objs.size + 1 + 1 + 1) := fun e => (off1_mem off3 _ (.tail _ (.tail _ (.tail _ (.head _))))) e.symm
          have hDpx2 : @Ne Nat Dp (s1.heap.objs.size + 1 + 1) := fun e => (off1_mem off3 _ (.tail _ (.tail _ (.tail _ (.tail _ (.head _)))))) e.symm
          have hDpx1 : @Ne Nat Dp (s1.heap.objs.size + 1) := fun e => (off1_mem off3 _ (.tail _ (.tail _ (.tail _ (.tail _ (.tail _ (.head _))))))) e.symm
          clear off3
          (try dsimp only)
          iterate 11 (first | (k_unfold; (try dsimp only)) | (k_end; wrow_close) | walk1 | (dsimp only; walk1) | (leave1; walk_say "STEP leave1"; try dsimp only))
          have hlr : (rsOf cs).length ≤ 9 := by rw [rsOf_length]; omega
          refine' worth_call (h₀ := s1.heap) ?kd ?ku ?kB ?kF ?kX ?kT ?kN (k := pgs.length) (rows := pgs) (rs := rsOf cs) (.head _) hrows hlr ?_
          (case kF => k_asm)
          (case kN => k_asm)
          (case kX => k_asm)
          (case kT => k_asm)
          (case kB => k_asm)
          (case kd => decide)
          (case ku => decide)
          intro h12 tk12 t12 F17 N19
          rw [hW]
          iterate 18 (first | (k_unfold; (try dsimp only)) | (k_end; wrow_close) | walk1 | (dsimp only; walk1) | (leave1; walk_say "STEP leave1"; try dsimp only))
          refine' spelled_call (h₀ := s1.heap) ?kd ?ku ?kB ?kF ?kX ?kN ?kT (by omega) hrun ?_
          (case kF => k_asm)
          (case kN => k_asm)
          (case kX => k_asm)
          (case kT => k_asm)
          (case kB => k_asm)
          (case kd => decide)
          (case ku => decide)
          intro h13 tk13 t13 F18 N20
          iterate 4 (first | (k_unfold; (try dsimp only)) | (k_end; wrow_close) | walk1 | (dsimp only; walk1) | (leave1; walk_say "STEP leave1"; try dsimp only))
          rename Fr _ _ _ _ => F18
          rename News _ _ _ _ => N20
          rename Obj.data _ = Data.cell (some (Value.str st _)) => dSt2
          obtain ⟨oSt2, dSt2, N20⟩ : ∃ oSt2 : Obj, oSt2.data = Data.cell (some (.str st t13)) ∧ News s1.heap s1.heap.objs.size _ [(Dp, listOf pgs.toArray pgs.length), (Dg, listOf gs.toArray gs.length), (Dl, listOf zs.toArray zs.length), (Dc, listOf cvs.toArray 0), (s1.heap.objs.size + 1 + 1 + 1, oSt2), (s1.heap.objs.size + 1 + 1, oG2), (s1.heap.objs.size + 1, oL2)] := ⟨_, dSt2, N20⟩
          iterate 1 (first | (k_unfold; (try dsimp only)) | (k_end; wrow_close) | walk1 | (dsimp only; walk1) | (leave1; walk_say "STEP leave1"; try dsimp only))
          refine LCt.ListComp_T (F₀ := F18) (by with_unfolding_all rfl) (by decide) (by rfl) (by decide) (by rfl) ?_
          k_steps
          rename Fr _ _ _ _ => F19
          rename News _ _ _ _ => N21
          rename Addr => Dq
          obtain ⟨aq, tq, haq, N22⟩ : ∃ (aq : Int) (tq : Tok), 0 ≤ aq ∧ News s1.heap s1.heap.objs.size _ [(Dq, listOf [Value.int W t12, Value.int ((1 + aq) * W) tq].toArray 0), (Dp, listOf pgs.toArray pgs.length), (Dg, listOf gs.toArray gs.length), (Dl, listOf zs.toArray zs.length), (Dc, listOf cvs.toArray 0), (s1.heap.objs.size + 1 + 1 + 1, oSt2), (s1.heap.objs.size + 1 + 1, oG2), (s1.heap.objs.size + 1, oL2)] := ⟨_, _, (by omega), N21⟩
          have hz2 := mul_zero_iff (W := W) haq
          generalize hx2 : (1 + aq) * W = x2 at N22 hz2
          obtain ⟨bw, hbw, N23⟩ := news_get N22
          refine LCt.CompSrcT.ledger (k := 0) (its := [Value.int W t12, Value.int x2 tq].toArray) (by rfl) F19 N23 (by rw [hbw]; exact .head _) (by rw [List.size_toArray, sizeLine_eq]; simp) ?_
          intro g6
          refine compRestT_ind (fun j ys nw => nw = bw ∧ ys = []) 2 ?_ ?_ ⟨rfl, rfl⟩
          · (try clear F18); (try clear N20); (try clear F19); (try clear N21); (try clear N22); (try clear N23)
            rintro j ys nw v I4 oI4 C4 oC4 D4 m₄ h4 tk4 E4 hj ⟨rfl, rfl⟩ hP hC hx F20 N24 off ⟨ne1, ne2, ne3⟩
            obtain ⟨xj, txj, rfl, hxj⟩ : ∃ xj txj, v = .int xj txj ∧ decide (xj = 0) = decide (W = 0) := by
              have : j = 0 ∨ j = 1 := by omega
              rcases this with rfl | rfl
              · have : v = .int W t12 := by simpa using hP.symm
                exact ⟨_, _, this, rfl⟩
              · have : v = .int x2 tq := by simpa using hP.symm
                exact ⟨_, _, this, hz2⟩
            clear hP
            subst hbw
            iterate 16 (first | (k_unfold; (try dsimp only)) | (k_end; wrow_close) | walk1 | (dsimp only; walk1) | (leave1; walk_say "STEP leave1"; try dsimp only))
            rename Fr _ _ _ _ => F21
            rename News _ _ _ _ => N25
            have hb9 : (decide (xj = 0) != (st == Str.ofString "")) = false := by rw [hxj, ← hste]; simp
            show qk (decide (xj = 0) != (st == Str.ofString "")) _
            rw [hb9]
            k_unfold
            (try dsimp only)
            (try simp only [Bool.false_eq_true, if_false])
            refine' LCg.CompEnd.intro F21 N25 _ (fun _ h => h) off ?ss9 ?rr9
            (case ss9 => exact .inr ⟨_, .head _, rfl, _, rfl⟩)
            (case rr9 => first | exact ⟨rfl, rfl⟩ | trivial)
          · (try clear F18); (try clear N20); (try clear F19); (try clear N21); (try clear N22); (try clear N23)
            rintro ys nw ⟨rfl, rfl⟩
            unfold LCg.FinE
            intro D7 h14 tk14 F22 N26 off4
            subst hbw
            clear off4
            have N27 : News s1.heap s1.heap.objs.size h14 [(D7, listOf ([] : List Value).toArray 0), (Dp, listOf pgs.toArray pgs.length), (Dg, listOf gs.toArray gs.length), (Dl, listOf zs.toArray zs.length), (Dc, listOf cvs.toArray 0), (s1.heap.objs.size + 1 + 1 + 1, oSt2), (s1.heap.objs.size + 1 + 1, oG2), (s1.heap.objs.size + 1, oL2)] := fun p hp => N26 p (by
              simp only [List.mem_cons] at hp ⊢
              rcases hp with q | q | q | q | q | q | q | q | q <;> first | (cases q; done) | simp [q])
            clear N26
            (try dsimp only)
            iterate 4 (first | (k_unfold; (try dsimp only)) | (k_end; wrow_close) | walk1 | (dsimp only; walk1) | (leave1; walk_say "STEP leave1"; try dsimp only))
            rename Fr _ _ _ _ => F23
            rename News _ _ _ _ => N28
            have N29 : News s1.heap s1.heap.objs.size _ [(Dp, listOf pgs.toArray pgs.length), (Dg, listOf gs.toArray gs.length), (Dl, listOf zs.toArray zs.length), (Dc, listOf cvs.toArray 0), (s1.heap.objs.size + 1 + 1 + 1, oSt2), (s1.heap.objs.size + 1 + 1, oG2), (s1.heap.objs.size + 1, oL2)] := fun p hp => N28 p (.tail _ (.tail _ hp))
            clear N28
            (try clear N27)
            iterate 7 (first | (k_unfold; (try dsimp only)) | (k_end; wrow_close) | walk1 | (dsimp only; walk1) | (leave1; walk_say "STEP leave1"; try dsimp only))
            refine LCg.ListComp_U (F₀ := F23) (by with_unfolding_all rfl) (by decide) (by rfl) (by decide) (by rfl) ?_
            iterate 13 (first | (k_unfold; (try dsimp only)) | (k_end; wrow_close) | walk1 | (dsimp only; walk1) | (leave1; walk_say "STEP leave1"; try dsimp only))
            rename IsRange _ _ _ _ _ _ _ _ => RG2
            rename Fr _ _ _ _ => F24
            rename News _ _ _ _ => N30
            rw [hstl] at RG2
            obtain ⟨bw, hbw, N31⟩ := news_get N30
            refine LCg.CompSrc.range (n := stb.length) (by rfl) F24 N31 RG2 (small_one (by omega) (by omega) (by omega) (by omega)) (by rw [rangeSize_nat]; omega) (by rw [sizeLine_eq]; omega) ?_
            intro g7
            refine compRest_ind (fun j ys nw => nw = bw ∧ StrsAre ys ((stalkRowsS 0 stb).take j)) stb.length ?_ ?_ ⟨rfl, .nil⟩
            · (try clear F23); (try clear F24); (try clear N30); (try clear N31); (try clear N29)
              rintro j ys nw v I5 oI5 C5 oC5 D5 m₄ h4 tk4 E4 hj ⟨rfl, hys⟩ ⟨tj, rfl⟩ hC hx F25 N32 off5 ⟨ne1, ne2, ne3⟩
              subst hbw
              iterate 10 (first | (k_unfold; (try dsimp only)) | (k_end; wrow_close) | walk1 | (dsimp only; walk1) | (leave1; walk_say "STEP leave1"; try dsimp only))
              rw [slice_pre j (by omega)]
              have hpl := stalkPre_len j (by omega)
              iterate 4 (first | (k_unfold; (try dsimp only)) | (k_end; wrow_close) | walk1 | (dsimp only; walk1) | (leave1; walk_say "STEP leave1"; try dsimp only))
              rw [item_stk hstb hj]
              iterate 3 (first | (k_unfold; (try dsimp only)) | (k_end; wrow_close) | walk1 | (dsimp only; walk1) | (leave1; walk_say "STEP leave1"; try dsimp only))
              rename Fr _ _ _ _ => F26
              rename News _ _ _ _ => N33
              refine LCg.CompEnd.intro F26 N33 _ (fun _ h => h) off5 trivial ⟨rfl, ?_⟩
              have hg9 := stalkRowsS_get 0 stb j hj
              rw [Nat.zero_add] at hg9
              rw [take_snocL hg9]
              refine StrsAre.append' hys ?_
              exact .cons _ _ .nil
            · (try clear F23); (try clear F24); (try clear N30); (try clear N31); (try clear N29)
              rintro ys nw ⟨rfl, hys⟩
              unfold LCg.FinE
              intro D9 h15 tk15 F27 N34 off6
              subst hbw
              rw [List.take_of_length_le (Nat.le_of_eq (stalkRowsS_length 0 stb))] at hys
              clear off6
              have hrows2 := rowsAre_stalk hys (by omega)
              have hyl : ys.length = stb.length := by rw [hrows2.length, stalkRows_length]
              have hpgl : pgs.length = 4 := by rw [hrows.length, rsOf_length, hcl]
              (try dsimp only)
              have hrw := RowsAre.app hrows hrows2
              have hlrw : (rsOf cs ++ stalkRows 0 stb).length ≤ 9 := by rw [List.length_append, rsOf_length, stalkRows_length]; omega
              iterate 5 (first | (k_unfold; (try dsimp only)) | (k_end; wrow_close) | walk1 | (dsimp only; walk1) | (leave1; walk_say "STEP leave1"; try dsimp only))
              iterate 16 (first | (k_unfold; (try dsimp only)) | (k_end; wrow_close) | walk1 | (dsimp only; walk1) | (leave1; walk_say "STEP leave1"; try dsimp only))
              rw [hwhole]
              iterate 3 (first | (k_unfold; (try dsimp only)) | (k_end; wrow_close) | walk1 | (dsimp only; walk1) | (leave1; walk_say "STEP leave1"; try dsimp only))
              rw [show decide ((0 : Int) = 0) = true from rfl]
              rename Fr _ _ _ _ => F28
              rename News _ _ _ _ => N35
              have N36 : News s1.heap s1.heap.objs.size _ [(Dg, listOf gs.toArray gs.length), (Dl, listOf zs.toArray zs.length), (s1.heap.objs.size + 1 + 1 + 1, oSt2), (s1.heap.objs.size + 1 + 1, oG2), (s1.heap.objs.size + 1, oL2)] := fun p hp => N35 p (by
                simp only [List.mem_cons] at hp ⊢
                rcases hp with q | q | q | q | q | q <;> first | (cases q; done) | simp [q])
              clear N35
              iterate 20 (first | (k_unfold; (try dsimp only)) | (k_end; wrow_close) | walk1 | (dsimp only; walk1) | (leave1; walk_say "STEP leave1"; try dsimp only))
              refine' parts_call (h₀ := s1.heap) ?kd ?ku ?kB ?kF ?kX ?kT ?kN (.tail _ (.head _)) hzs ?kx ?ky ?_
              (case kF => k_asm)
              (case kN => k_asm)
              (case kX => k_asm)
              (case kT => k_asm)
              (case kB => k_asm)
              (case kd => decide)
              (case ku => decide)
              (case kx => (intro x hx; obtain ⟨c, _, rfl⟩ := List.mem_map.mp hx; exact Nat.le_trans (Nat.le_of_lt (leadS_len c)) (by decide)))
              (case ky => (rw [List.length_map, hcl]; decide))
              intro h16 tk16 Dw vws kw F29 N37 hltw hvw
              rw [List.length_map, hcl] at hvw
              iterate 4 (first | (k_unfold; (try dsimp only)) | (k_end; wrow_close) | walk1 | (dsimp only; walk1) | (leave1; walk_say "STEP leave1"; try dsimp only))
              refine' wins_call (h₀ := s1.heap) ?kd ?ku ?kB ?kF ?kX ?kT (sgs := cs.map sgnC) (ps := (partsGo (cs.map leadS) 4).2) (stb := stb) ?kN (.tail _ (.head _)) (.head _) hgs hvw ?kx ?ky hstb ?kz hbits ?_
              (case kF => k_asm)
              (case kN => k_asm)
              (case kX => k_asm)
              (case kT => k_asm)
              (case kB => k_asm)
              (case kd => decide)
              (case ku => decide)
              (case kx => (rw [List.length_map, hcl]))
              (case ky => exact (partsGo_bound _ 4).2.1)
              (case kz => omega)
              intro h17 tk17 Dz kz F30 N38 hltz
              rw [hf0, hf1] at N38
              iterate 8 (first | (k_unfold; (try dsimp only)) | (k_end; wrow_close) | walk1 | (dsimp only; walk1) | (leave1; walk_say "STEP leave1"; try dsimp only))
              clear hf0 hf1 hbits hwhole hste hstb hrun hrows hrows2 hrw hvw hgs hzs hcs hpg hys hcall hclt
              repeat (first | (k_unfold; (try dsimp only)) | walk1 | (dsimp only; walk1))
              w_end
              refine goodW_bool (by assumption) (by assumption) (raisesW_false ?_) ?_
              · wrow_none_raised
              · exact post_true _ _
end Mine

end
set_option maxRecDepth 100000 in
set_option maxHeartbeats 8000000 in
theorem PySem.Challenge.cw_tl0031_01_holds : PySem.Challenge.rw_tl0031_01.Holds := by
  exact Mine.law_try

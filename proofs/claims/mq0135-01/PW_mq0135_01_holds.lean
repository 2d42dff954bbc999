import PyProof.Rows.All
import Wide.All
import OpenK.AllK
import Wide.FinOn
import PySem.Challenge.RW_mq0135_01
open PySem PySem.W PyProof.Rows
set_option Elab.async false
set_option exponentiation.threshold 3000
set_option linter.unusedVariables false

namespace Mine

abbrev pw : Program := PySem.Challenge.pw_mq0135_01
def fnAt (i : Nat) : Stmt := match pw.main.body[i]? with | some st => st | none => .Pass default
def fnName (i : Nat) : Str := match fnAt i with | .FunctionDef n .. => n | _ => Str.empty
def fnParams (i : Nat) : Arguments := match fnAt i with | .FunctionDef _ a .. => a | _ => default
def fnBody (i : Nat) : List Stmt := match fnAt i with | .FunctionDef _ _ b .. => b | _ => []
def fnScope (i : Nat) : Scope := match fnAt i with | .FunctionDef _ _ _ _ _ _ sc .. => sc | _ => default

/-- the place of def number i -/
structure FnIs (i : Nat) (f : Addr) (pm cd doc : Value) (h : Heap) : Prop where
  get : ∃ o, h.get? f = some o ∧ o.data = .func (Calls.docDef (fnName i) (fnParams i) (fnBody i) (fnScope i) pm cd doc)
  code : h.CodeRec cd (fnName i)
  lim : h.NoLimit
end Mine

namespace Mine

theorem frBind {h₀ h : Heap} {L : Addr} {m : Str → Option Value} (x : Str) {v : Value} (F : Fr h₀ L h m) (e : m x = some v) : Fr h₀ L h (fun y => if y = x then some v else m y) := by
  have : (fun y => if y = x then some v else m y) = m := by
    funext y
    by_cases hy : y = x
    · subst hy; simp [e]
    · simp [hy]
  rw [this]; exact F

section
variable {prog : Program} {w : World} {A : Around} {E : Value → Shared → Prop} {s : Shared} {env : Env} {h₀ : Heap} {x : Str} {body : List Stmt} {Q : Flow → Shared → Prop}

theorem own_off {fp wr : List Addr} {own news₁ : List (Addr × Obj)} (hown : ∀ p ∈ own, p.1 ∈ fp) (hnf : ∀ p ∈ news₁, p.1 ∉ fp) : OwnOff own (news₁.map (·.1)) := by
  intro p hp b hb e
  obtain ⟨q, hq, rfl⟩ := List.mem_map.mp hb
  exact hnf q hq (e ▸ hown p hp)

theorem loopV {I : Addr} {fp wr : List Addr} {n : Nat} {P : Nat → Value → Prop} {St : Nat → Heap → Prop} {m₀ : Str → Option Value} {news : List (Addr × Obj)} (J : Nat → (Str → Option Value) → List (Addr × Obj) → Prop)
    (W : Walks prog w A I fp wr n P St) (hal : ∀ i h, St i h → ∀ b ∈ fp, ∃ o, h.get? b = some o) (hLf : env.locals ∉ fp) (hwr : ∀ b ∈ wr, h₀.get? b = none) (hnf : ∀ p ∈ news, p.1 ∉ fp) (hst : St 0 s.heap)
    (F : Fr h₀ env.locals s.heap m₀) (N : News h₀ env.locals s.heap news) (hj : J 0 m₀ news)
    (turn : ∀ i v m₁ nx h tk own, i < n → P i v → OwnOff own (nx.map (·.1)) → J i m₁ nx → Fr h₀ env.locals h (fun y => if y = x then some v else m₁ y) → News h₀ env.locals h (nx ++ own) →
      wpAny (model prog w) A (execs body env) (InvPostG h₀ env.locals (J (i + 1)) own { s with heap := h, toks := tk } Q) E { s with heap := h, toks := tk })
    (done : ∀ m₁ nx h tk, J n m₁ nx → Fr h₀ env.locals h m₁ → News h₀ env.locals h nx → Q .next { s with heap := h, toks := tk }) :
    LoopAtV prog w A h₀ env x body Q E (.ref I) s := by
  refine ⟨I, fp, wr, n, P, St, m₀, news, (fun i m nx => J i m nx ∧ ∀ p ∈ nx, p.1 ∉ fp), rfl, W, hLf, hwr, (fun p hp h => hnf p hp (W.sub _ h)), hst, F, N, ⟨hj, hnf⟩, ?_, ?_⟩
  · rintro i v m₁ news₁ s₁ own ⟨hh', tk', rfl⟩ hin hP ⟨hJ, hnf₁⟩ hoff hown _ hmem hst' F₁ N₁
    have N₂ : News h₀ env.locals hh' (news₁ ++ own) := fun p hp => N₁ p ((List.mem_append.mp hp).elim (fun h => List.mem_append.mpr (.inr h)) fun h => List.mem_append.mpr (.inl h))
    refine wpAny_mono (turn i v m₁ news₁ hh' tk' own hin hP (own_off (wr := wr) hown hnf₁) hJ F₁ N₂) (fun f s₂ p => ?_) fun _ _ e => e
    have fin : InvEndG h₀ env.locals (J (i + 1)) own { s with heap := hh', toks := tk' } s₂ → LoopStepU h₀ env.locals wr own (fun m nx => J (i + 1) m nx ∧ ∀ p ∈ nx, p.1 ∉ fp) { s with heap := hh', toks := tk' } .next s₂ := by
      rintro ⟨h', tk, m', news', nx, e, F', N', hn, ho, ha, hm⟩
      have hnx : ∀ p ∈ nx, p.1 ∉ fp := fun p hp hq => by
        obtain ⟨o, hbo⟩ := hal _ _ hst' _ hq
        exact ha _ (hmem _ hq (N' p (hn p hp)).2.2 o hbo) p.1 (List.mem_map.mpr ⟨p, hp, rfl⟩) rfl
      exact ⟨rfl, h', tk, m', nx, e, F', fun p hp => N' p ((List.mem_append.mp hp).elim (ho p) (hn p)), fun p hp hq => hnx p hp (W.sub _ hq), hm, hnx⟩
    cases f with
    | ret v => exact .ret p
    | brk => exact .brk p
    | next => exact .next (fin p)
    | cont => exact .cont (fin p)
  · rintro h' tk m' news' F' N' _ hJ
    exact done m' news' h' tk hJ.1 F' N'

theorem loopT {target : Expr} {I : Addr} {fp wr : List Addr} {n : Nat} {P : Nat → Value → Prop} {St : Nat → Heap → Prop} {m₀ : Str → Option Value} {news : List (Addr × Obj)} (J : Nat → (Str → Option Value) → List (Addr × Obj) → Prop)
    (W : Walks prog w A I fp wr n P St) (hal : ∀ i h, St i h → ∀ b ∈ fp, ∃ o, h.get? b = some o) (hLf : env.locals ∉ fp) (hwr : ∀ b ∈ wr, h₀.get? b = none) (hnf : ∀ p ∈ news, p.1 ∉ fp) (hst : St 0 s.heap)
    (F : Fr h₀ env.locals s.heap m₀) (N : News h₀ env.locals s.heap news) (hj : J 0 m₀ news)
    (hgo : ∀ i (s' : Shared) v (Q' : Unit → Shared → Prop), St i s'.heap → Q' () s' → wpAny (model prog w) A (letOwnedTupleGo target (.ref I) v) Q' E s')
    (turn : ∀ i v m₁ nx (s₁ : Shared) own, i < n → P i v → OwnOff own (nx.map (·.1)) → J i m₁ nx → Fr h₀ env.locals s₁.heap m₁ → News h₀ env.locals s₁.heap (nx ++ own) →
      wpAny (model prog w) A (assign target env v) (fun _ s₃ => wpAny (model prog w) A (execs body env) (fun f s₄ => f = .next ∧ InvEndG h₀ env.locals (J (i + 1)) own s₁ s₄) E s₃) E s₁)
    (done : ∀ m₁ nx h tk, J n m₁ nx → Fr h₀ env.locals h m₁ → News h₀ env.locals h nx → Q .next { s with heap := h, toks := tk }) :
    LoopAtT prog w A h₀ env target body Q E (.ref I) s := by
  refine ⟨I, fp, wr, n, P, St, m₀, news, (fun i m nx => J i m nx ∧ ∀ p ∈ nx, p.1 ∉ fp), rfl, W, hLf, hwr, (fun p hp h => hnf p hp (W.sub _ h)), hst, F, N, hgo, ⟨hj, hnf⟩, ?_, ?_⟩
  · rintro i v m₁ news₁ s₁ own hin hP ⟨hJ, hnf₁⟩ hoff hown _ hmem hst' F₁ N₁
    have N₂ : News h₀ env.locals s₁.heap (news₁ ++ own) := fun p hp => N₁ p ((List.mem_append.mp hp).elim (fun h => List.mem_append.mpr (.inr h)) fun h => List.mem_append.mpr (.inl h))
    refine wpAny_mono (turn i v m₁ news₁ s₁ own hin hP (own_off (wr := wr) hown hnf₁) hJ F₁ N₂) (fun _ s₃ p => wpAny_mono p (fun f s₄ p => ?_) fun _ _ e => e) fun _ _ e => e
    obtain ⟨rfl, h', tk, m', news', nx, e, F', N', hn, ho, ha, hm⟩ := p
    have hnx : ∀ p ∈ nx, p.1 ∉ fp := fun p hp hq => by
      obtain ⟨o, hbo⟩ := hal _ _ hst' _ hq
      exact ha _ (hmem _ hq (N' p (hn p hp)).2.2 o hbo) p.1 (List.mem_map.mpr ⟨p, hp, rfl⟩) rfl
    exact ⟨rfl, h', tk, m', nx, e, F', fun p hp => N' p ((List.mem_append.mp hp).elim (ho p) (hn p)), fun p hp hq => hnx p hp (W.sub _ hq), hm, hnx⟩
  · rintro h' tk m' news' F' N' _ hJ
    exact done m' news' h' tk hJ.1 F' N'

/-- a loop over a text's signs -/
theorem iterStr {txt : Str} {t : Tok} {m₀ : Str → Option Value} {news : List (Addr × Obj)} (J : Nat → (Str → Option Value) → List (Addr × Obj) → Prop) (hh : A.handled = none)
    (F : Fr h₀ env.locals s.heap m₀) (N : News h₀ env.locals s.heap news) (hj : J 0 m₀ news)
    (turn : ∀ i c u m₁ nx h tk own, txt.cps[i]? = some c → OwnOff own (nx.map (·.1)) → J i m₁ nx → Fr h₀ env.locals h (fun y => if y = x then some (.str ⟨#[c]⟩ u) else m₁ y) → News h₀ env.locals h (nx ++ own) →
      wpAny (model prog w) A (execs body env) (InvPostG h₀ env.locals (J (i + 1)) own { s with heap := h, toks := tk } Q) E { s with heap := h, toks := tk })
    (done : ∀ m₁ nx h tk, J txt.cps.size m₁ nx → Fr h₀ env.locals h m₁ → News h₀ env.locals h nx → Q .next { s with heap := h, toks := tk }) :
    wpAny (model prog w) A (pyIter (.str txt t)) (fun it s₂ => LoopAtV prog w A h₀ env x body Q E it s₂) E s := by
  cases ha : txt.cps.all (· < 128)
  · refine wpAny_pyIter_wide ha ?_
    refine loopV J (Walks.strWide hh _ txt t) (fun i h st b hb => ?_) (fun hm => absurd F.ns.lt ((List.mem_singleton.mp hm) ▸ Nat.lt_irrefl _)) (fun b hb => ?_) (fun p hp hI => absurd (Heap.lt_size (N p hp).1) ((List.mem_singleton.mp hI) ▸ Nat.lt_irrefl _)) ⟨_, Heap.get?_push_size _ rfl, rfl, rfl⟩ (F.push _) (fun p hp => ⟨Heap.get?_push_of_some _ (N p hp).1, (N p hp).2⟩) hj ?_ done
    · obtain ⟨o, ho, _⟩ := st; exact ⟨o, (List.mem_singleton.mp hb) ▸ ho⟩
    · rw [List.mem_singleton.mp hb]; exact next_is_new F
    · rintro i v m₁ nx h tk own _ ⟨c, u, hc, rfl⟩ a b d e
      exact turn i c u m₁ nx h tk own hc a b d e
  · refine wpAny_pyIter_ascii ha ?_
    refine loopV J (Walks.strAscii hh _ txt t) (fun i h st b hb => ?_) (fun hm => absurd F.ns.lt ((List.mem_singleton.mp hm) ▸ Nat.lt_irrefl _)) (fun b hb => ?_) (fun p hp hI => absurd (Heap.lt_size (N p hp).1) ((List.mem_singleton.mp hI) ▸ Nat.lt_irrefl _)) ⟨_, Heap.get?_push_size _ rfl, rfl, rfl⟩ (F.push _) (fun p hp => ⟨Heap.get?_push_of_some _ (N p hp).1, (N p hp).2⟩) hj ?_ done
    · obtain ⟨o, ho, _⟩ := st; exact ⟨o, (List.mem_singleton.mp hb) ▸ ho⟩
    · rw [List.mem_singleton.mp hb]; exact next_is_new F
    · rintro i v m₁ nx h tk own _ ⟨c, u, hc, rfl⟩ a b d e
      exact turn i c u m₁ nx h tk own hc a b d e

theorem listSt_alive {I l : Addr} {items : Array Value} : ∀ (i : Nat) (h : Heap), (h.IsListIter I l i ∧ h.IsList l items) → ∀ b ∈ [I, l], ∃ o, h.get? b = some o := by
  rintro i h ⟨⟨o, ho, _⟩, ⟨o2, ho2, _⟩⟩ b hb
  rcases List.mem_cons.mp hb with rfl | hb
  · exact ⟨o, ho⟩
  · exact ⟨o2, (List.mem_singleton.mp hb) ▸ ho2⟩

/-- a loop over a list that is no part of the ledger's turning things -/
theorem iterList {l : Addr} {vs : List Value} {m₀ : Str → Option Value} {news : List (Addr × Obj)} (J : Nat → (Str → Option Value) → List (Addr × Obj) → Prop) (hh : A.handled = none)
    (hl : s.heap.IsList l vs.toArray) (hlL : l ≠ env.locals) (hln : ∀ p ∈ news, p.1 ≠ l)
    (F : Fr h₀ env.locals s.heap m₀) (N : News h₀ env.locals s.heap news) (hj : J 0 m₀ news)
    (turn : ∀ i v m₁ nx h tk own, vs[i]? = some v → OwnOff own (nx.map (·.1)) → J i m₁ nx → Fr h₀ env.locals h (fun y => if y = x then some v else m₁ y) → News h₀ env.locals h (nx ++ own) →
      wpAny (model prog w) A (execs body env) (InvPostG h₀ env.locals (J (i + 1)) own { s with heap := h, toks := tk } Q) E { s with heap := h, toks := tk })
    (done : ∀ m₁ nx h tk, J vs.length m₁ nx → Fr h₀ env.locals h m₁ → News h₀ env.locals h nx → Q .next { s with heap := h, toks := tk }) :
    wpAny (model prog w) A (pyIter (.ref l)) (fun it s₂ => LoopAtV prog w A h₀ env x body Q E it s₂) E s := by
  obtain ⟨ol, hol, _⟩ := id hl
  have hne : l ≠ s.heap.objs.size := Nat.ne_of_lt (Heap.lt_size hol)
  refine wpAny_pyIter_list hl ?_
  have W := Walks.list (prog := prog) (w := w) hh s.heap.objs.size l hne vs.toArray
  have hlen : vs.toArray.size = vs.length := by simp
  rw [hlen] at W
  refine loopV J W listSt_alive (fun hm => ?_) (fun b hb => ?_) (fun p hp hm => ?_) ⟨⟨_, Heap.get?_push_size _ rfl, rfl, rfl⟩, hl.at fun o e => Heap.get?_push_of_some _ e⟩ (F.push _) (fun p hp => ⟨Heap.get?_push_of_some _ (N p hp).1, (N p hp).2⟩) hj ?_ done
  · rcases List.mem_cons.mp hm with e | hm
    · exact absurd F.ns.lt (e ▸ Nat.lt_irrefl _)
    · exact hlL (List.mem_singleton.mp hm).symm
  · rw [List.mem_singleton.mp hb]; exact next_is_new F
  · rcases List.mem_cons.mp hm with e | hm
    · exact absurd (Heap.lt_size (N p hp).1) (e ▸ Nat.lt_irrefl _)
    · exact hln p hp (List.mem_singleton.mp hm)
  · intro i v m₁ nx h tk own _ hP a b d e
    exact turn i v m₁ nx h tk own (by simpa using hP) a b d e

theorem iterListT {target : Expr} {l : Addr} {vs : List Value} {m₀ : Str → Option Value} {news : List (Addr × Obj)} (J : Nat → (Str → Option Value) → List (Addr × Obj) → Prop) (hh : A.handled = none)
    (hl : s.heap.IsList l vs.toArray) (hlL : l ≠ env.locals) (hln : ∀ p ∈ news, p.1 ≠ l)
    (F : Fr h₀ env.locals s.heap m₀) (N : News h₀ env.locals s.heap news) (hj : J 0 m₀ news)
    (turn : ∀ i v m₁ nx (s₁ : Shared) own, vs[i]? = some v → OwnOff own (nx.map (·.1)) → J i m₁ nx → Fr h₀ env.locals s₁.heap m₁ → News h₀ env.locals s₁.heap (nx ++ own) →
      wpAny (model prog w) A (assign target env v) (fun _ s₃ => wpAny (model prog w) A (execs body env) (fun f s₄ => f = .next ∧ InvEndG h₀ env.locals (J (i + 1)) own s₁ s₄) E s₃) E s₁)
    (done : ∀ m₁ nx h tk, J vs.length m₁ nx → Fr h₀ env.locals h m₁ → News h₀ env.locals h nx → Q .next { s with heap := h, toks := tk }) :
    wpAny (model prog w) A (pyIter (.ref l)) (fun it s₂ => LoopAtT prog w A h₀ env target body Q E it s₂) E s := by
  obtain ⟨ol, hol, _⟩ := id hl
  have hne : l ≠ s.heap.objs.size := Nat.ne_of_lt (Heap.lt_size hol)
  refine wpAny_pyIter_list hl ?_
  have W := Walks.list (prog := prog) (w := w) hh s.heap.objs.size l hne vs.toArray
  have hlen : vs.toArray.size = vs.length := by simp
  rw [hlen] at W
  refine loopT J W listSt_alive (fun hm => ?_) (fun b hb => ?_) (fun p hp hm => ?_) ⟨⟨_, Heap.get?_push_size _ rfl, rfl, rfl⟩, hl.at fun o e => Heap.get?_push_of_some _ e⟩ (F.push _) (fun p hp => ⟨Heap.get?_push_of_some _ (N p hp).1, (N p hp).2⟩) hj
    (fun i s' v Q' st hQ' => letGo_listiter st.1 hQ') ?_ done
  · rcases List.mem_cons.mp hm with e | hm
    · exact absurd F.ns.lt (e ▸ Nat.lt_irrefl _)
    · exact hlL (List.mem_singleton.mp hm).symm
  · rw [List.mem_singleton.mp hb]; exact next_is_new F
  · rcases List.mem_cons.mp hm with e | hm
    · exact absurd (Heap.lt_size (N p hp).1) (e ▸ Nat.lt_irrefl _)
    · exact hln p hp (List.mem_singleton.mp hm)
  · intro i v m₁ nx s₁ own _ hP a b d e
    exact turn i v m₁ nx s₁ own (by simpa using hP) a b d e

/-- append to a list of the ledger's head -/
theorem append_N {L : Addr} {m : Str → Option Value} {D : Addr} {vs : Array Value} {n : Nat} {v : Value} {own : List (Addr × Obj)} {Q : Value → Shared → Prop}
    (F : Fr h₀ L s.heap m) (N : News h₀ L s.heap ((D, listOf vs n) :: own)) (hoff : ∀ p ∈ own, p.1 ≠ D) (hsz : vs.size ≤ sizeLine)
    (h : ∀ h', Fr h₀ L h' m → News h₀ L h' ((D, listOf (vs.push v) (n + 1)) :: own) → Q .none { s with heap := h' }) :
    wpAny (model prog w) A (call (.builtin "list.append") [.ref D, v]) Q E s := by
  have ho := (N _ (.head _)).1
  refine wpAny_call_entry slot_list_append ⟨_, ho, rfl⟩ entry_list_append ?_ (args_list_append _ _)
  show wpAny _ _ (updateSeq D (·.push v) >>= fun _ => ret .none) _ _ s
  refine wpAny_bind ?_
  have U := news_upd (pre := []) (post := own) (f := Obj.mapSeq (·.push v)) F N (fun _ h => nomatch h) hoff (Obj.mapSeq_push_plain vs n v) rfl
  exact wpAny_updateSeq ho rfl (wpAny_pure ⟨.none, rfl, h _ U.1 U.2⟩)

theorem frGrow {L : Addr} {m : Str → Option Value} {h h' : Heap} (F : Fr h₀ L h m) (hk : ∀ b o, h.get? b = some o → h'.get? b = some o) : Fr h₀ L h' m :=
  ⟨F.ns.keeps hk, fun b o e => hk b o (F.keep b o e), F.above⟩
theorem newsGrow {L : Addr} {news : List (Addr × Obj)} {h h' : Heap} (N : News h₀ L h news) (hk : ∀ b o, h.get? b = some o → h'.get? b = some o) : News h₀ L h' news :=
  fun p hp => ⟨hk _ _ (N p hp).1, (N p hp).2⟩
theorem newsCons {L : Addr} {m : Str → Option Value} {news : List (Addr × Obj)} {h h' : Heap} {D : Addr} {o : Obj} (F : Fr h₀ L h m) (N : News h₀ L h news) (hk : ∀ b o, h.get? b = some o → h'.get? b = some o) (hD : h.get? D = none) (ho : h'.get? D = some o) :
    News h₀ L h' ((D, o) :: news) := by
  intro p hp
  rcases List.mem_cons.mp hp with rfl | hp
  · refine ⟨ho, ?_, ?_⟩
    · rintro rfl
      obtain ⟨oL, _, _, hL, _⟩ := F.ns
      rw [hD] at hL; cases hL
    · cases hq : h₀.get? D with
      | none => rfl
      | some o' => have := F.keep _ _ hq; rw [hD] at this; cases this
  · exact newsGrow N hk p hp

/-- what a comprehension's source and element must show; the state ahead of the iterator is s -/
def CompOk (prog : Program) (w : World) (A : Around) (env : Env) (scope : Scope) (cl : List (Str × Addr)) (x : Str) (ifs : List Expr) (elt : Expr) (p : Value → Bool) (F : Value → Value → Prop) (Q : Value → Shared → Prop) (it : Value) (s₂ : Shared) : Prop :=
  ∃ I fp wr n P St, it = .ref I ∧ Walks prog w A I fp wr n P St ∧ n ≤ sizeLine ∧ St 0 s₂.heap ∧ (∀ b ∈ fp, b < s₂.heap.objs.size) ∧
      QuietOnC prog w A env scope cl x ifs elt wr P p F s₂ ∧
      (∀ D h' tk ys (vs : List Value), s₂.heap.get? D = none → h'.IsList D ys → h'.PlainList D ys → vs.length = n → (∀ j v, vs[j]? = some v → P j v) → Paired F (vs.filter p) ys.toList →
        (∀ b o, b ∉ wr → s₂.heap.get? b = some o → h'.get? b = some o) → Q (.ref D) { s₂ with heap := h', toks := tk })

theorem filter_true {α : Type} (l : List α) : l.filter (fun _ => true) = l := by simp

theorem comp_src {I : Addr} {fp : List Addr} {n : Nat} {P : Nat → Value → Prop} {St : Nat → Heap → Prop} {s₀ : Shared} {oI : Obj} {scope : Scope} {cl : List (Str × Addr)} {elt : Expr} {Q : Value → Shared → Prop} (G : Value → Value → Prop)
    (W : Walks prog w A I fp [I] n P St) (hI : I = s₀.heap.objs.size) (hs : s = { s₀ with heap := s₀.heap.push oI }) (hn : n ≤ sizeLine) (hst : St 0 s.heap) (hfp : ∀ b ∈ fp, b < s.heap.objs.size)
    (helt : ∀ C i v s₃ m₃ E', s₀.heap.objs.size < C → P i v → s₃.heap.Ns C m₃ → m₃ x = some v → (∀ b o, s₀.heap.get? b = some o → s₃.heap.get? b = some o) → wpAny (model prog w) A (eval elt (compEnvC scope cl C env)) (fun y s₄ => G v y ∧ Keeps s₃ s₄) E' s₃)
    (hfin : ∀ D h' tk k ys (vs : List Value), s₀.heap.get? D = none → h'.get? D = some (listOf ys k) → vs.length = n → (∀ j v, vs[j]? = some v → P j v) → Paired G vs ys.toList → (∀ b o, s₀.heap.get? b = some o → h'.get? b = some o) → Q (.ref D) { s₀ with heap := h', toks := tk }) :
    CompOk prog w A env scope cl x [] elt (fun _ => true) G Q (.ref I) s := by
  subst hs
  have old : ∀ b o, s₀.heap.get? b = some o → b ∉ [I] := fun b o e hb => by
    rw [List.mem_singleton.mp hb, hI] at e
    exact absurd (Heap.lt_size e) (Nat.lt_irrefl _)
  refine ⟨I, fp, [I], n, P, St, rfl, W, hn, hst, hfp, ⟨?_, ?_⟩, ?_⟩
  · intro C i v s₃ m₃ E' _ _ _ _ _ _
    exact wpAny_tests_nil ⟨rfl, ⟨s₃.heap, s₃.toks, rfl, fun _ _ e => e⟩⟩
  · intro C i v s₃ m₃ E' hC hP _ hns hv hk _
    refine helt C i v s₃ m₃ E' ?_ hP hns hv fun b o e => hk b o (old b o e) (Heap.get?_push_of_some _ e)
    have : ({ s₀ with heap := s₀.heap.push oI } : Shared).heap.objs.size = s₀.heap.objs.size + 1 := Heap.size_push ..
    omega
  · intro D h' tk ys vs hD _ hpl hlen hP hG hk
    obtain ⟨k, hk'⟩ := hpl
    have hD' : s₀.heap.get? D = none := by
      cases e : s₀.heap.get? D with
      | none => rfl
      | some o => have := Heap.get?_push_of_some oI e; rw [show (s₀.heap.push oI).get? D = none from hD] at this; cases this
    rw [filter_true] at hG
    exact hfin D h' tk k ys vs hD' hk' hlen hP hG fun b o e => hk b o (old b o e) (Heap.get?_push_of_some _ e)

theorem places_eq {vs us : List Value} (hlen : us.length = vs.length) (h : ∀ (j : Nat) (v : Value), us[j]? = some v → vs[j]? = some v) : us = vs := by
  refine List.ext_getElem? fun j => ?_
  cases e : us[j]? with
  | some v => exact (h j v e).symm
  | none =>
    have : us.length ≤ j := List.getElem?_eq_none_iff.mp e
    exact (List.getElem?_eq_none_iff.mpr (by omega)).symm

/-- a comprehension over a list -/
theorem comp_list {l : Addr} {vs : List Value} {scope : Scope} {cl : List (Str × Addr)} {elt : Expr} {Q : Value → Shared → Prop} (G : Value → Value → Prop) (hh : A.handled = none)
    (hl : s.heap.IsList l vs.toArray) (hn : vs.length ≤ sizeLine)
    (helt : ∀ (C : Addr) (i : Nat) (v : Value) (s₃ : Shared) m₃ E', s.heap.objs.size < C → vs[i]? = some v → s₃.heap.Ns C m₃ → m₃ x = some v → (∀ b o, s.heap.get? b = some o → s₃.heap.get? b = some o) → wpAny (model prog w) A (eval elt (compEnvC scope cl C env)) (fun y s₄ => G v y ∧ Keeps s₃ s₄) E' s₃)
    (hfin : ∀ D h' tk k ys, s.heap.get? D = none → h'.get? D = some (listOf ys k) → Paired G vs ys.toList → (∀ b o, s.heap.get? b = some o → h'.get? b = some o) → Q (.ref D) { s with heap := h', toks := tk }) :
    wpAny (model prog w) A (pyIter (.ref l)) (fun it s₂ => CompOk prog w A env scope cl x [] elt (fun _ => true) G Q it s₂) E s := by
  obtain ⟨ol, hol, _⟩ := id hl
  have hne : l ≠ s.heap.objs.size := Nat.ne_of_lt (Heap.lt_size hol)
  refine wpAny_pyIter_list hl ?_
  have W := Walks.list (prog := prog) (w := w) hh s.heap.objs.size l hne vs.toArray
  have hlen : vs.toArray.size = vs.length := by simp
  rw [hlen] at W
  refine comp_src G W rfl rfl hn ⟨⟨_, Heap.get?_push_size _ rfl, rfl, rfl⟩, hl.at fun o e => Heap.get?_push_of_some _ e⟩ ?_ ?_ ?_
  · intro b hb
    have : ∀ o : Obj, (s.heap.push o).objs.size = s.heap.objs.size + 1 := fun o => Heap.size_push ..
    show b < (s.heap.push _).objs.size
    rw [this]
    rcases List.mem_cons.mp hb with rfl | hb
    · exact Nat.lt_succ_self _
    · rw [List.mem_singleton.mp hb]; exact Nat.lt_succ_of_lt (Heap.lt_size hol)
  · intro C i v s₃ m₃ E' hC hP hns hv hk
    exact helt C i v s₃ m₃ E' hC (by simpa using hP) hns hv hk
  · intro D h' tk k ys us hD ho hlen' hP hG hk
    have : us = vs := places_eq hlen' fun j v e => by simpa using hP j v e
    subst this
    exact hfin D h' tk k ys hD ho hG hk

/-- a comprehension over a tuple -/
theorem comp_tuple {l : Addr} {vs : List Value} {scope : Scope} {cl : List (Str × Addr)} {elt : Expr} {Q : Value → Shared → Prop} (G : Value → Value → Prop) (hh : A.handled = none)
    (hl : s.heap.IsTuple l vs.toArray) (hn : vs.length ≤ sizeLine)
    (helt : ∀ (C : Addr) (i : Nat) (v : Value) (s₃ : Shared) m₃ E', s.heap.objs.size < C → vs[i]? = some v → s₃.heap.Ns C m₃ → m₃ x = some v → (∀ b o, s.heap.get? b = some o → s₃.heap.get? b = some o) → wpAny (model prog w) A (eval elt (compEnvC scope cl C env)) (fun y s₄ => G v y ∧ Keeps s₃ s₄) E' s₃)
    (hfin : ∀ D h' tk k ys, s.heap.get? D = none → h'.get? D = some (listOf ys k) → Paired G vs ys.toList → (∀ b o, s.heap.get? b = some o → h'.get? b = some o) → Q (.ref D) { s with heap := h', toks := tk }) :
    wpAny (model prog w) A (pyIter (.ref l)) (fun it s₂ => CompOk prog w A env scope cl x [] elt (fun _ => true) G Q it s₂) E s := by
  obtain ⟨ol, hol, _⟩ := id hl
  have hne : l ≠ s.heap.objs.size := Nat.ne_of_lt (Heap.lt_size hol)
  refine wpAny_pyIter_tuple hl ?_
  have W := Walks.tuple (prog := prog) (w := w) hh s.heap.objs.size l hne vs.toArray
  have hlen : vs.toArray.size = vs.length := by simp
  rw [hlen] at W
  refine comp_src G W rfl rfl hn ⟨⟨_, Heap.get?_push_size _ rfl, rfl, rfl⟩, hl.at fun o e => Heap.get?_push_of_some _ e⟩ ?_ ?_ ?_
  · intro b hb
    have : ∀ o : Obj, (s.heap.push o).objs.size = s.heap.objs.size + 1 := fun o => Heap.size_push ..
    show b < (s.heap.push _).objs.size
    rw [this]
    rcases List.mem_cons.mp hb with rfl | hb
    · exact Nat.lt_succ_self _
    · rw [List.mem_singleton.mp hb]; exact Nat.lt_succ_of_lt (Heap.lt_size hol)
  · intro C i v s₃ m₃ E' hC hP hns hv hk
    exact helt C i v s₃ m₃ E' hC (by simpa using hP) hns hv hk
  · intro D h' tk k ys us hD ho hlen' hP hG hk
    have : us = vs := places_eq hlen' fun j v e => by simpa using hP j v e
    subst this
    exact hfin D h' tk k ys hD ho hG hk

/-- a comprehension over a text's signs -/
theorem comp_str {txt : Str} {t : Tok} {scope : Scope} {cl : List (Str × Addr)} {elt : Expr} {Q : Value → Shared → Prop} (G : Value → Value → Prop) (hh : A.handled = none)
    (hn : txt.length ≤ sizeLine)
    (helt : ∀ (C : Addr) (i : Nat) (c : Nat) (u : Tok) (s₃ : Shared) m₃ E', s.heap.objs.size < C → txt.cps[i]? = some c → s₃.heap.Ns C m₃ → m₃ x = some (.str ⟨#[c]⟩ u) → (∀ b o, s.heap.get? b = some o → s₃.heap.get? b = some o) → wpAny (model prog w) A (eval elt (compEnvC scope cl C env)) (fun y s₄ => G (.str ⟨#[c]⟩ u) y ∧ Keeps s₃ s₄) E' s₃)
    (hfin : ∀ D h' tk k ys (vs : List Value), s.heap.get? D = none → h'.get? D = some (listOf ys k) → StrsAre vs (txt.cps.toList.map fun c => ⟨#[c]⟩) → Paired G vs ys.toList → (∀ b o, s.heap.get? b = some o → h'.get? b = some o) → Q (.ref D) { s with heap := h', toks := tk }) :
    wpAny (model prog w) A (pyIter (.str txt t)) (fun it s₂ => CompOk prog w A env scope cl x [] elt (fun _ => true) G Q it s₂) E s := by
  have signs : ∀ (us : List Value) (cs : List Nat), us.length = cs.length → (∀ (j : Nat) (v : Value), us[j]? = some v → ∃ c u, cs[j]? = some c ∧ v = .str ⟨#[c]⟩ u) → StrsAre us (cs.map fun c => ⟨#[c]⟩) := by
    intro us
    induction us with
    | nil => intro cs hl _; cases cs with
      | nil => exact .nil
      | cons _ _ => simp at hl
    | cons v r ih =>
      intro cs hl h
      cases cs with
      | nil => simp at hl
      | cons c cs =>
        obtain ⟨c', u, e1, rfl⟩ := h 0 v rfl
        have : c = c' := by simpa using e1
        subst this
        exact .cons _ _ (ih cs (by simpa using hl) fun j v e => h (j + 1) v e)
  have key : ∀ (o : Obj) (St : Nat → Heap → Prop), Walks prog w A s.heap.objs.size [s.heap.objs.size] [s.heap.objs.size] txt.cps.size (SignAt txt) St → St 0 (s.heap.push o) →
      CompOk prog w A env scope cl x [] elt (fun _ => true) G Q (.ref s.heap.objs.size) { s with heap := s.heap.push o } := by
    intro o St W st
    refine comp_src G W rfl rfl hn st ?_ ?_ ?_
    · intro b hb
      show b < (s.heap.push _).objs.size
      rw [Heap.size_push, List.mem_singleton.mp hb]; exact Nat.lt_succ_self _
    · rintro C i v s₃ m₃ E' hC ⟨c, u, hc, rfl⟩ hns hv hk
      exact helt C i c u s₃ m₃ E' hC hc hns hv hk
    · intro D h' tk k ys us hD ho hlen' hP hG hk
      exact hfin D h' tk k ys us hD ho (signs us _ (by simpa using hlen') fun j v e => by obtain ⟨c, u, hc, hv⟩ := hP j v e; exact ⟨c, u, by simpa using hc, hv⟩) hG hk
  refine wpAny_pyIter_str fun o St W st => key o St (W A hh) st

theorem listAt {h : Heap} {D : Addr} {us : Array Value} {k : Nat} (e : h.get? D = some (listOf us k)) : h.IsList D us.toList.toArray := ⟨_, e, rfl, k, by simp⟩

theorem compE {elt iter : Expr} {px : Pos} {scope : Scope} {cl : List (Str × Addr)} {pos : Pos} {Q : Value → Shared → Prop} (G : Value → Value → Prop)
    (hclos : closureFor scope env = pure cl) (hcell : ∀ y ∈ scope.names, y.2 ≠ .cell) (hkind : scope.kind = .function)
    (hnames : ∀ y ∈ scope.names, y.2 = .local → scope.names.lookup y.1 = some .local) (hx : scope.names.lookup x = some .local)
    (hs : ∀ x, foldedSetIterable iter env x = pure x)
    (h : wpAny (model prog w) A (eval iter env) (fun xv s₁ => wpAny (model prog w) A (pyIter xv) (fun it s₂ => CompOk prog w A env scope cl x [] elt (fun _ => true) G Q it s₂) E s₁) E s) :
    wpAny (model prog w) A (eval (.ListComp elt [⟨.Name x px, iter, [], 0⟩] scope pos) env) Q E s :=
  wpAny_ListComp_free (fun _ => true) G hclos hcell hkind hnames hx h hs

theorem dict_empty_N {L : Addr} {m : Str → Option Value} {news : List (Addr × Obj)} {pos : Pos} {Q : Value → Shared → Prop} (F : Fr h₀ L s.heap m) (N : News h₀ L s.heap news)
    (k : ∀ h' o, Fr h₀ L h' m → News h₀ L h' ((s.heap.objs.size, o) :: news) → o.IsDictOf (PySem.strKind prog w) [] → (∀ p ∈ news, p.1 ≠ s.heap.objs.size) → Q (.ref s.heap.objs.size) { s with heap := h' }) : wpAny (model prog w) A (eval (.Dict [] [] pos) env) Q E s := by
  refine wpAny_Dict_empty (k _ _ (F.push _) (News.push F N _) ?_ N.apart)
  obtain ⟨o, ho, hd⟩ := Heap.dictOf_iff.mp (Heap.DictOf.new (knd := PySem.strKind prog w) s.heap)
  rw [Heap.get?_push_size _ rfl] at ho
  exact (Option.some.inj ho) ▸ hd

theorem setItem_N {L d : Addr} {m : Str → Option Value} {rest : List (Addr × Obj)} {o : Obj} {kvs : List (Str × Value)} {k : Str} {t : Tok} {v : Value} {Q : Unit → Shared → Prop}
    (F : Fr h₀ L s.heap m) (N : News h₀ L s.heap ((d, o) :: rest)) (hap : ∀ p ∈ rest, p.1 ≠ d) (hd : o.IsDictOf (PySem.strKind prog w) kvs) (hsz : kvs.length ≤ sizeLine)
    (h : ∀ h' o', Fr h₀ L h' m → News h₀ L h' ((d, o') :: rest) → o'.IsDictOf (PySem.strKind prog w) (stored kvs k v) → Q () { s with heap := h', toks := s.toks + 1 }) :
    wpAny (model prog w) A (setItem (.ref d) (.str k t) v) Q E s := by
  refine wpAny_setItem_pairs (hsz := hsz) (strKind_is prog w k t) (Heap.dictOf_iff.mpr ⟨o, N.get (.head _), hd⟩) fun h' hm hs => ?_
  obtain ⟨o', ho', hd'⟩ := Heap.dictOf_iff.mp hm
  exact h h' o' (F.change hs (N _ (.head _)).2.1 (N.fresh (.head _))) (N.setHead hap hs ho') hd'

abbrev tupOf (vs : Array Value) : Obj := { cls := .type "tuple", data := .seq vs }
theorem newTuple_D {L : Addr} {m : Str → Option Value} {news : List (Addr × Obj)} {vs : List Value} {Q : Value → Shared → Prop} (F : Fr h₀ L s.heap m) (N : News h₀ L s.heap news)
    (h : ∀ T h', (∀ p ∈ news, p.1 ≠ T) → Fr h₀ L h' m → News h₀ L h' ((T, tupOf vs.toArray) :: news) → Q (.ref T) { s with heap := h' }) (hsz : vs.length ≤ sizeLine := by size_fits) :
    wpAny (model prog w) A (newTuple vs) Q E s := newTuple_N F N (fun h' F' N' => h _ h' N.apart F' N') hsz
theorem newList_D {L : Addr} {m : Str → Option Value} {news : List (Addr × Obj)} {vs : List Value} {Q : Value → Shared → Prop} (F : Fr h₀ L s.heap m) (N : News h₀ L s.heap news)
    (h : ∀ T h', (∀ p ∈ news, p.1 ≠ T) → Fr h₀ L h' m → News h₀ L h' ((T, listOf vs.toArray 0) :: news) → Q (.ref T) { s with heap := h' }) (hsz : vs.length ≤ sizeLine := by size_fits) :
    wpAny (model prog w) A (newList vs) Q E s := newList_N F N (fun h' F' N' => h _ h' N.apart F' N') hsz
theorem addLists_D {L l b : Addr} {m : Str → Option Value} {news : List (Addr × Obj)} {vs ws : List Value} {Q : Value → Shared → Prop} (F : Fr h₀ L s.heap m) (N : News h₀ L s.heap news) (hl : s.heap.IsList l vs.toArray) (hb : s.heap.IsList b ws.toArray)
    (h : ∀ T h', (∀ p ∈ news, p.1 ≠ T) → Fr h₀ L h' m → News h₀ L h' ((T, listOf (vs ++ ws).toArray 0) :: news) → Q (.ref T) { s with heap := h' }) (hsz : vs.length + ws.length ≤ sizeLine) :
    wpAny (model prog w) A (binaryOp .Add (.ref l) (.ref b)) Q E s := add_lists F N hl hb (fun h' F' N' => h _ h' N.apart F' N') hsz
end
end Mine

namespace Mine

structure PS where
  res : List Str
  part : Str
  esc : Bool
  quo : Bool
def one (c : Nat) : Str := ⟨#[c]⟩
def httpStep (st : PS) (c : Nat) : PS :=
  if st.esc then { st with part := st.part ++ one c, esc := false }
  else if st.quo then
    if one c == Str.ofString "\\" then { st with esc := true }
    else if one c == Str.ofString "\"" then { st with part := st.part ++ one c, quo := false }
    else { st with part := st.part ++ one c }
  else if one c == Str.ofString "," then { st with res := st.res ++ [st.part], part := Str.ofString "" }
  else if one c == Str.ofString "\"" then { st with part := st.part ++ one c, quo := true }
  else { st with part := st.part ++ one c }
def httpInit : PS := ⟨[], Str.ofString "", false, false⟩
def httpRun (cs : List Nat) : PS := cs.foldl httpStep httpInit
theorem httpRun_succ {l : List Nat} {i c : Nat} (hc : l[i]? = some c) : httpRun (l.take (i + 1)) = httpStep (httpRun (l.take i)) c := by
  unfold httpRun
  rw [List.take_add_one, hc, List.foldl_append]; rfl
theorem httpStep_len (st : PS) (c : Nat) : (httpStep st c).part.length ≤ st.part.length + 1 ∧ (httpStep st c).res.length ≤ st.res.length + 1 := by
  unfold httpStep
  repeat' split
  all_goals (simp only [Str.length_append, List.length_append, List.length_singleton, show (Str.ofString "").length = 0 from rfl, show (one c).length = 1 from rfl]; omega)
theorem httpRun_len (cs : List Nat) : (httpRun cs).part.length ≤ cs.length ∧ (httpRun cs).res.length ≤ cs.length := by
  have : ∀ (cs : List Nat) (st : PS), (cs.foldl httpStep st).part.length ≤ st.part.length + cs.length ∧ (cs.foldl httpStep st).res.length ≤ st.res.length + cs.length := by
    intro cs
    induction cs with
    | nil => intro st; simp
    | cons c r ih =>
      intro st
      have h1 := httpStep_len st c
      have h2 := ih (httpStep st c)
      simp only [List.foldl_cons, List.length_cons]
      omega
  have := this cs httpInit
  rw [show httpInit.part.length = 0 from rfl, show httpInit.res.length = 0 from rfl] at this
  simpa [httpRun] using this

theorem one_beq (c d : Nat) (e : String) (he : Str.ofString e = ⟨#[d]⟩) : ((⟨#[c]⟩ : Str) == Str.ofString e) = decide (c = d) := by
  rw [he]
  by_cases h : c = d
  · subst h; simp
  · simp only [h, decide_false, beq_eq_false_iff_ne, ne_eq, Str.mk.injEq]
    intro q
    exact h (by simpa using q)

theorem strsAre_snoc {vs : List Value} {ts : List Str} {y : Str} {t : Tok} (h : StrsAre vs ts) : StrsAre (vs ++ [.str y t]) (ts ++ [y]) := by
  induction h with
  | nil => exact .cons _ _ .nil
  | cons y' t' _ ih => exact .cons _ _ ih

def httpAll (x : Str) : List Str := let st := httpRun x.cps.toList; if st.part.length = 0 then st.res else st.res ++ [st.part]
def httpParse (x : Str) : List Str := (httpAll x).map Txt.strip

theorem httpStep_parts {st : PS} {c N : Nat} (h1 : st.part.length ≤ N) (h2 : ∀ y ∈ st.res, y.length ≤ N) : (httpStep st c).part.length ≤ N + 1 ∧ ∀ y ∈ (httpStep st c).res, y.length ≤ N + 1 := by
  refine ⟨Nat.le_trans (httpStep_len st c).1 (by omega), ?_⟩
  intro y hy
  unfold httpStep at hy
  repeat' split at hy
  all_goals (first | exact Nat.le_succ_of_le (h2 y hy) | skip)
  rcases List.mem_append.mp hy with hy | hy
  · exact Nat.le_succ_of_le (h2 y hy)
  · rw [List.mem_singleton.mp hy]; exact Nat.le_succ_of_le h1
theorem httpRun_parts (cs : List Nat) : (httpRun cs).part.length ≤ cs.length ∧ ∀ y ∈ (httpRun cs).res, y.length ≤ cs.length := by
  have : ∀ (cs : List Nat) (st : PS) (N : Nat), st.part.length ≤ N → (∀ y ∈ st.res, y.length ≤ N) → (cs.foldl httpStep st).part.length ≤ N + cs.length ∧ ∀ y ∈ (cs.foldl httpStep st).res, y.length ≤ N + cs.length := by
    intro cs
    induction cs with
    | nil => intro st N h1 h2; exact ⟨h1, h2⟩
    | cons c r ih =>
      intro st N h1 h2
      have h3 := httpStep_parts (c := c) h1 h2
      have h4 := ih (httpStep st c) (N + 1) h3.1 h3.2
      simp only [List.foldl_cons, List.length_cons]
      rw [show N + (r.length + 1) = N + 1 + r.length by omega]
      exact h4
  have := this cs httpInit 0 (Nat.le_refl _) (fun y hy => nomatch hy)
  rw [Nat.zero_add] at this
  exact this
theorem httpAll_len {x : Str} {K : Nat} (hx : x.length ≤ K) : ∀ y ∈ httpAll x, y.length ≤ K := by
  have h := httpRun_parts x.cps.toList
  have hl : x.cps.toList.length = x.length := by simp [Str.length]
  intro y hy
  unfold httpAll at hy
  simp only at hy
  split at hy
  · have := h.2 y hy; omega
  · rcases List.mem_append.mp hy with hy | hy
    · have := h.2 y hy; omega
    · rw [List.mem_singleton.mp hy]; have := h.1; omega

def StripTo (v y : Value) : Prop := ∀ z t, v = .str z t → ∃ t', y = .str (Txt.strip z) t'
theorem strip_paired {vs ys : List Value} {ts : List Str} (h : StrsAre vs ts) (hp : Paired StripTo vs ys) : StrsAre ys (ts.map Txt.strip) := by
  induction h generalizing ys with
  | nil => cases hp; exact .nil
  | cons y t _ ih =>
    cases hp with
    | cons h1 h2 =>
      obtain ⟨t', rfl⟩ := h1 y t rfl
      exact .cons _ _ (ih h2)
theorem strsAre_at {vs : List Value} {ts : List Str} (h : StrsAre vs ts) {i : Nat} {v : Value} (hv : vs[i]? = some v) : ∃ y t, v = .str y t ∧ y ∈ ts := by
  induction h generalizing i with
  | nil => simp at hv
  | cons y t _ ih =>
    cases i with
    | zero => have : v = .str y t := by simpa using hv.symm
              exact ⟨y, t, this, .head _⟩
    | succ i => obtain ⟨y', t', e, hm⟩ := ih (by simpa using hv); exact ⟨y', t', e, .tail _ hm⟩
theorem freshUp {h₀ h : Heap} {L D : Addr} {m : Str → Option Value} (F : Fr h₀ L h m) (hD : h.get? D = none) : h₀.get? D = none := by
  cases e : h₀.get? D with
  | none => rfl
  | some o => have := F.keep _ _ e; rw [hD] at this; cases this

/-- [x.strip() for x in l] -/
theorem comp_strip {prog : Program} {w : World} {A : Around} {E : Value → Shared → Prop} {s : Shared} {env : Env} {x : Str} {elt : Expr} {l : Addr} {vs : List Value} {ts : List Str} {scope : Scope} {cl : List (Str × Addr)} {Q : Value → Shared → Prop} (hh : A.handled = none)
    (hl : s.heap.IsList l vs.toArray) (hvs : StrsAre vs ts) (hn : vs.length ≤ sizeLine) (hb : ∀ y ∈ ts, y.length ≤ 100000)
    (helt : ∀ (C : Addr) (s₃ : Shared) (m₃ : Str → Option Value) (E' : Value → Shared → Prop) (y : Str) (t : Tok) (Q' : Value → Shared → Prop), s₃.heap.Ns C m₃ → m₃ x = some (.str y t) → y.length ≤ sizeLine → (∀ t' k, Q' (.str (Txt.strip y) t') { s₃ with toks := k }) →
      wpAny (model prog w) A (eval elt (compEnvC scope cl C env)) Q' E' s₃)
    (hfin : ∀ D h' tk k ys, s.heap.get? D = none → h'.get? D = some (listOf ys k) → StrsAre ys.toList (ts.map Txt.strip) → (∀ b o, s.heap.get? b = some o → h'.get? b = some o) → Q (.ref D) { s with heap := h', toks := tk }) :
    wpAny (model prog w) A (pyIter (.ref l)) (fun it s₂ => CompOk prog w A env scope cl x [] elt (fun _ => true) StripTo Q it s₂) E s := by
  refine comp_list StripTo hh hl hn ?_ ?_
  · intro C i v s₃ m₃ E' _ hv hns hmx _
    obtain ⟨y, t, rfl, hy⟩ := strsAre_at hvs hv
    refine helt C s₃ m₃ E' y t _ hns hmx ?_ fun t' k => ⟨?_, ⟨s₃.heap, k, rfl, fun _ _ e => e⟩⟩
    · have := hb y hy; rw [sizeLine_eq]; omega
    · intro z t'' e; cases e; exact ⟨t', rfl⟩
  · intro D h' tk k ys hD ho hG hkp
    exact hfin D h' tk k ys hD ho (strip_paired hvs hG) hkp

def HttpJ (x : Str) (D : Addr) (i : Nat) (m : Str → Option Value) (news : List (Addr × Obj)) : Prop :=
  ∃ st vs n t, st = httpRun (x.cps.toList.take i) ∧ m "part" = some (.str st.part t) ∧ m "escape" = some (.bool st.esc) ∧ m "quote" = some (.bool st.quo) ∧ m "res" = some (.ref D) ∧
    news = [(D, listOf vs n)] ∧ StrsAre vs.toList st.res

theorem http_end {x : Str} {D L : Addr} {i c : Nat} {h₀ h' : Heap} {m' : Str → Option Value} {own : List (Addr × Obj)} {s₁ : Shared} {tk : Nat} {st : PS} {res' : List Str} {part' : Str} {e' q' : Bool} {vs : Array Value} {n : Nat} {t : Tok}
    (hc : x.cps[i]? = some c) (hst : st = httpRun (x.cps.toList.take i)) (hst' : httpStep st c = ⟨res', part', e', q'⟩)
    (hoff : OwnOff own [D]) (F : Fr h₀ L h' m') (N : News h₀ L h' ([(D, listOf vs n)] ++ own))
    (e1 : m' "part" = some (.str part' t)) (e2 : m' "escape" = some (.bool e')) (e3 : m' "quote" = some (.bool q')) (e4 : m' "res" = some (.ref D)) (hv : StrsAre vs.toList res') :
    InvEndG h₀ L (HttpJ x D (i + 1)) own s₁ { s₁ with heap := h', toks := tk } := by
  refine InvEndG.intro F N ⟨⟨res', part', e', q'⟩, vs, n, t, ?_, e1, e2, e3, e4, rfl, hv⟩ hoff (fun p hp => List.mem_append_left _ hp) (fun p hp => List.mem_append_right _ hp)
  rw [httpRun_succ (by simpa using hc), ← hst, hst']

local macro_rules | `(tactic| walk_at "call builtin:list.append") => `(tactic| ((with_reducible show wpAny _ _ (call (Value.builtin "list.append") _) _ _ _); refine append_N (by assumption) (by assumption) (by assumption) (by assumption) ?_; intro _ _ _))

set_option maxRecDepth 100000 in
set_option maxHeartbeats 4000000 in
theorem call_http {prog : Program} {w : World} {A : Around} {s : Shared} {f : Addr} {pm cd doc : Value} {R : Result → Shared → Prop} {x : Str} {t1 : Tok}
    (hroom : A.depth < recursionLimit) (hh : A.handled = none) (hlen : x.length ≤ 100000) (H : FnIs 5 f pm cd doc s.heap)
    (h : ∀ D h' tk ys k, s.heap.get? D = none → h'.get? D = some (listOf ys k) → StrsAre ys.toList (httpParse x) → (∀ b o, s.heap.get? b = some o → h'.get? b = some o) → R (.ok (.ret (.ref D))) { s with heap := h', toks := tk }) :
    codeAny (model prog w) A (.call (.ref f) ⟨[.str x t1], []⟩) R s := by
  obtain ⟨o, ho, hdata⟩ := H.get
  refine call_plain_ret hroom ho hdata H.lim H.code (binds := [("s", .str x t1)]) (by rfl) (locs rfl) ?_
  intro h₁ F
  have N : News s.heap s.heap.objs.size h₁ [] := News.nil
  conv =>
    arg 3
    arg 1
    whnf
  (repeat walk1)
  rename Fr _ _ _ _ => F1
  rename News _ _ _ _ => N1
  refine For_invV (env := envOf (fnName 5) (fnScope 5) s.heap.objs.size f cd) s.heap (by rfl) (by rfl) ?_
  walk1
  refine iterStr (HttpJ x h₁.objs.size) hh F1 N1 ⟨httpInit, _, _, _, rfl, rfl, rfl, rfl, rfl, rfl, .nil⟩ ?turn ?done
  case done =>
    clear F1 N1
    rintro m₁ nx h' tk ⟨st, vs, n, t, hst, e1, e2, e3, e4, rfl, hvs⟩ F2 N2
    have F3 : Fr s.heap s.heap.objs.size h' _ := frBind "res" (v := .ref h₁.objs.size) (frBind "part" (v := .str st.part t) F2 e1) e4
    have N3 : News s.heap s.heap.objs.size h' ((h₁.objs.size, listOf vs n) :: []) := N2
    clear N2 F2
    have hoff' : ∀ p ∈ ([] : List (Addr × Obj)), p.1 ≠ h₁.objs.size := fun _ h => nomatch h
    have hst2 : st = httpRun x.cps.toList := by rw [hst, List.take_of_length_le (by simp)]
    have hl1 : st.res.length ≤ 100000 := by
      have h1 := (httpRun_len x.cps.toList).2
      rw [← hst2] at h1
      have h2 : x.cps.toList.length = x.length := by simp [Str.length]
      omega
    have hsz : vs.size ≤ sizeLine := by
      have h3 := StrsAre.length hvs
      have h4 : vs.toList.length = vs.size := by simp
      rw [sizeLine_eq]; omega
    have h63 : (st.part.length : Int) < 9223372036854775808 := by
      have h1 := (httpRun_len x.cps.toList).1
      rw [← hst2] at h1
      have h2 : x.cps.toList.length = x.length := by simp [Str.length]
      omega
    show wpAny _ _ _ _ _ _
    repeat' (first | ((with_reducible show wpAny _ _ (call (Value.builtin "list.append") _) _ _ _); refine append_N (by assumption) (by assumption) (by assumption) (by assumption) ?_; intro _ _ _; (try dsimp only)) | ((with_reducible show wpAny _ _ (truthy (Value.str _ _)) _ _ _); refine SBL.truthy h63 ?_) | ((fail_if_success (with_reducible show wpAny _ _ (eval (Expr.ListComp _ _ _ _) _) _ _ _)); walk1))
    · rename (st.part.length : Int) ≠ 0 => hp
      have hp' : ¬ st.part.length = 0 := by omega
      refine compE (cl := []) StripTo (by rfl) (by decide) (by rfl) (by decide) (by rfl) (fun _ => rfl) ?_
      walk1
      rename Fr _ _ _ _ => F5
      rename News _ _ _ _ => N5
      have hall : httpAll x = st.res ++ [st.part] := by simp only [httpAll, ← hst2, if_neg hp']
      refine comp_strip (vs := (vs.push (.str st.part t)).toList) ?_ ?_ (ts := httpAll x) ?_ ?_ ?_ ?_ ?_
      · exact hh
      · exact listAt (N5 _ (.head _)).1
      · rw [hall, Array.toList_push]; exact strsAre_snoc hvs
      · rw [Array.length_toList, Array.size_push, sizeLine_eq]; have h3 := StrsAre.length hvs; rw [Array.length_toList] at h3; omega
      · exact httpAll_len hlen
      · intro C s₃ m₃ E' y t Q' hns hm hsz' hq
        refine MethodCall_ (wpAny_Name (wpAny_loadName_local rfl rfl hns hm ?_) (by decide))
        exact GM.strip (callWith_method0 (SCL.strip (fun t' k _ => hq t' k) hsz'))
      · intro D h'' tk' k ys hD hD' hys hk
        exact h D h'' tk' ys k (freshUp F5 hD) hD' hys fun b o e => hk b o (F5.keep b o e)
    · rename (st.part.length : Int) = 0 => hp
      have hp' : st.part.length = 0 := by omega
      refine compE (cl := []) StripTo (by rfl) (by decide) (by rfl) (by decide) (by rfl) (fun _ => rfl) ?_
      walk1
      rename Fr _ _ _ _ => F5
      rename News _ _ _ _ => N5
      have hall : httpAll x = st.res := by simp only [httpAll, ← hst2, if_pos hp']
      refine comp_strip (vs := vs.toList) ?_ ?_ (ts := httpAll x) ?_ ?_ ?_ ?_ ?_
      · exact hh
      · exact listAt (N5 _ (.head _)).1
      · rw [hall]; exact hvs
      · rw [Array.length_toList]; exact hsz
      · exact httpAll_len hlen
      · intro C s₃ m₃ E' y t Q' hns hm hsz' hq
        refine MethodCall_ (wpAny_Name (wpAny_loadName_local rfl rfl hns hm ?_) (by decide))
        exact GM.strip (callWith_method0 (SCL.strip (fun t' k _ => hq t' k) hsz'))
      · intro D h'' tk' k ys hD hD' hys hk
        exact h D h'' tk' ys k (freshUp F5 hD) hD' hys fun b o e => hk b o (F5.keep b o e)
  case turn =>
    clear F1 N1
    rintro i c u m₁ nx h tk own hc hoff ⟨st, vs, n, t, hst, e1, e2, e3, e4, rfl, hvs⟩ F2 N2
    have F3 : Fr s.heap s.heap.objs.size h _ := frBind "res" (v := .ref h₁.objs.size) (frBind "quote" (v := .bool st.quo) (frBind "escape" (v := .bool st.esc) (frBind "part" (v := .str st.part t) F2 e1) e2) e3) e4
    have N3 : News s.heap s.heap.objs.size h ((h₁.objs.size, listOf vs n) :: own) := N2
    clear N2
    clear F2
    show wpAny _ _ _ _ _ _
    k_fold
    have hln : st.part.length + (⟨#[c]⟩ : Str).length ≤ sizeLine := by
      have h1 := (httpRun_len (x.cps.toList.take i)).1
      rw [← hst] at h1
      have h2 : (x.cps.toList.take i).length ≤ x.length := by simp [Str.length]; omega
      have h3 : (⟨#[c]⟩ : Str).length = 1 := rfl
      rw [sizeLine_eq]; omega
    have hoff' : ∀ p ∈ own, p.1 ≠ h₁.objs.size := fun p hp => hoff p hp _ (.head _)
    have hsz : vs.size ≤ sizeLine := by
      have h1 := (httpRun_len (x.cps.toList.take i)).2
      rw [← hst] at h1
      have h2 : (x.cps.toList.take i).length ≤ x.length := by simp [Str.length]; omega
      have h3 := StrsAre.length hvs
      have h4 : vs.toList.length = vs.size := by simp
      rw [sizeLine_eq]; omega
    cases he : st.esc with
    | true =>
      rw [he] at F3
      (repeat' walk1)
      k_unfold
      exact http_end (e' := false) (q' := st.quo) (part' := st.part ++ one c) hc hst (by simp only [httpStep, he, if_true]) hoff (by assumption) (by assumption) rfl rfl rfl rfl hvs
    | false => 
      rw [he] at F3
      cases hq : st.quo with
      | true =>
        rw [hq] at F3
        (repeat' walk1)
        all_goals k_unfold
        · rename ((_ : Str) == Str.ofString "\\") = true => g1
          exact http_end (e' := true) (q' := true) (part' := st.part) hc hst (by simp only [httpStep, he, hq, one, g1, if_true, if_false, Bool.false_eq_true]) hoff (by assumption) (by assumption) rfl rfl rfl rfl hvs
        · rename ((_ : Str) == Str.ofString "\\") = false => g1
          rename ((_ : Str) == Str.ofString "\"") = true => g2
          exact http_end (e' := false) (q' := false) (part' := st.part ++ one c) hc hst (by simp only [httpStep, he, hq, one, g1, g2, if_true, if_false, Bool.false_eq_true]) hoff (by assumption) (by assumption) rfl rfl rfl rfl hvs
        · rename ((_ : Str) == Str.ofString "\\") = false => g1
          rename ((_ : Str) == Str.ofString "\"") = false => g2
          exact http_end (e' := false) (q' := true) (part' := st.part ++ one c) hc hst (by simp only [httpStep, he, hq, one, g1, g2, if_true, if_false, Bool.false_eq_true]) hoff (by assumption) (by assumption) rfl rfl rfl rfl hvs
      | false =>
        rw [hq] at F3
        repeat' (first | ((with_reducible show wpAny _ _ (call (Value.builtin "list.append") _) _ _ _); refine append_N (by assumption) (by assumption) (by assumption) (by assumption) ?_; intro _ _ _; (try dsimp only)) | walk1)
        all_goals k_unfold
        · rename ((_ : Str) == Str.ofString ",") = true => g1
          exact http_end (e' := false) (q' := false) (part' := Str.ofString "") (res' := st.res ++ [st.part]) hc hst (by simp only [httpStep, he, hq, one, g1, if_true, if_false, Bool.false_eq_true]) hoff (by assumption) (by assumption) rfl rfl rfl rfl (by simpa using strsAre_snoc hvs)
        · rename ((_ : Str) == Str.ofString ",") = false => g1
          rename ((_ : Str) == Str.ofString "\"") = true => g2
          exact http_end (e' := false) (q' := true) (part' := st.part ++ one c) hc hst (by simp only [httpStep, he, hq, one, g1, g2, if_true, if_false, Bool.false_eq_true]) hoff (by assumption) (by assumption) rfl rfl rfl rfl hvs
        · rename ((_ : Str) == Str.ofString ",") = false => g1
          rename ((_ : Str) == Str.ofString "\"") = false => g2
          exact http_end (e' := false) (q' := false) (part' := st.part ++ one c) hc hst (by simp only [httpStep, he, hq, one, g1, g2, if_true, if_false, Bool.false_eq_true]) hoff (by assumption) (by assumption) rfl rfl rfl rfl hvs
end Mine

namespace Mine
open Float64 (add sub mul)

def yiqY (r g b : UInt64) : UInt64 := add (add (mul 0x3fd3333333333333 r) (mul 0x3fe2e147ae147ae1 g)) (mul 0x3fbc28f5c28f5c29 b)
def yiqI (r b y : UInt64) : UInt64 := sub (mul 0x3fe7ae147ae147ae (sub r y)) (mul 0x3fd147ae147ae148 (sub b y))
def yiqQ (r b y : UInt64) : UInt64 := add (mul 0x3fdeb851eb851eb8 (sub r y)) (mul 0x3fda3d70a3d70a3d (sub b y))
def rgbR (y i q : UInt64) : UInt64 := add (add y (mul 0x3fee4cdbef721b32 i)) (mul 0x3fe3f42ceedac0be q)
def rgbG (y i q : UInt64) : UInt64 := sub (sub y (mul 0x3fd1961eec8cbb3a i)) (mul 0x3fe45794d16efff3 q)
def rgbB (y i q : UInt64) : UInt64 := add (sub y (mul 0x3ff1bc99b7dee436 i)) (mul 0x3ffb5817a6224a7f q)
def clampLo (x : UInt64) : UInt64 := if Float64.cmp x 0x0 == some Ordering.lt then 0x0 else x
def clampHi (x : UInt64) : UInt64 := if Float64.cmp x 0x3ff0000000000000 == some Ordering.gt then 0x3ff0000000000000 else x
def clampF (x : UInt64) : UInt64 := clampHi (clampLo x)

section
variable {prog : Program} {w : World} {A : Around} {E : Value → Shared → Prop} {s : Shared} {name : Str} {scope : Scope} {L a : Addr} {cd : Value} {h₀ : Heap} {m : Str → Option Value} {news : List (Addr × Obj)}
theorem clampIf {x : Str} {v c : UInt64} {t : Tok} {op : CmpOp} {p1 p2 p3 p4 p5 p6 p7 : Pos} {k1 k2 : Nat} {Q : Flow → Shared → Prop} (test : UInt64 → UInt64 → Bool)
    (F : Fr h₀ L s.heap m) (N : News h₀ L s.heap news) (hv : m x = some (.float v t))
    (hop : ∀ (s' : Shared) (t u : Tok) (Q : Value → Shared → Prop), Q (.bool (test v c)) s' → wpAny (model prog w) A (compareOp op (.float v t) (.float c u)) Q E s')
    (h : ∀ h' t' tk, Fr h₀ L h' (fun y => if y = x then some (.float (if test v c then c else v) t') else m y) → News h₀ L h' news → Q .next { s with heap := h', toks := tk })
    (hk : scope.kind = .function) (hl : (envOf name scope L a cd).kindOf x = some .local) (hd : (x == ("__debug__" : Str)) = false)
    (hm : behindInMarks op (.Constant (.float c) k1 p2) = false)
    (hs : swapsWith (.Constant (.float c) k2 p5) (some (.Name x p4)) p6.line (envOf name scope L a cd) = pure false) :
    wpAny (model prog w) A (exec (.If (.Compare (.Name x p1) [op] [.Constant (.float c) k1 p2] p3) [.Assign [.Name x p4] (.Constant (.float c) k2 p5) p6] [] p7) (envOf name scope L a cd)) Q E s := by
  refine wpAny_If (wpAny_isTrue_Compare1 (ld F hv (PySem.AutoFloatOps.wpAny_Constant_float (hop _ _ _ _ (wpAny_truthy_bool ?_))) hk hl hd) hm)
  cases ht : test v c with
  | true =>
    simp only [if_true]
    refine wpAny_execs_cons (wpAny_Assign_Name (PySem.AutoFloatOps.wpAny_Constant_float (stN F N (fun h' F' N' => ?_) hk hl)) hs)
    refine wpAny_execs_nil ?_
    rw [ht] at h
    exact h h' _ _ F' N'
  | false =>
    simp only [Bool.false_eq_true, if_false]
    rw [ht] at h
    refine wpAny_execs_nil (h _ _ _ (frBind x F hv) N)
end

/-- a tuple of three floats, made by the call -/
def Tup3 (h : Heap) (a : Addr) (x y z : UInt64) : Prop := ∃ t u v n, h.get? a = some { cls := .type "tuple", data := .seq #[.float x t, .float y u, .float z v] n }

set_option maxRecDepth 100000 in
set_option maxHeartbeats 4000000 in
theorem call_toYiq {prog : Program} {w : World} {A : Around} {s : Shared} {f : Addr} {pm cd doc : Value} {R : Result → Shared → Prop} {r g b : UInt64} {t1 t2 t3 : Tok}
    (hroom : A.depth < recursionLimit) (H : FnIs 1 f pm cd doc s.heap)
    (h : ∀ a h' tk, s.heap.get? a = none → Tup3 h' a (yiqY r g b) (yiqI r b (yiqY r g b)) (yiqQ r b (yiqY r g b)) → (∀ b o, s.heap.get? b = some o → h'.get? b = some o) → R (.ok (.ret (.ref a))) { s with heap := h', toks := tk }) :
    codeAny (model prog w) A (.call (.ref f) ⟨[.float r t1, .float g t2, .float b t3], []⟩) R s := by
  obtain ⟨o, ho, hdata⟩ := H.get
  refine call_plain_ret hroom ho hdata H.lim H.code (binds := [("r", .float r t1), ("g", .float g t2), ("b", .float b t3)]) (by rfl) (locs rfl) ?_
  intro h₁ F
  have N : News s.heap s.heap.objs.size h₁ [] := News.nil
  conv =>
    arg 3
    arg 1
    whnf
  (repeat walk1)
  rename Fr _ _ _ _ => F5
  rename News _ _ _ _ => N5
  exact h _ _ _ (N5 _ (.head _)).2.2 ⟨_, _, _, _, (N5 _ (.head _)).1⟩ F5.keep

set_option maxRecDepth 100000 in
set_option maxHeartbeats 4000000 in
theorem call_toRgb {prog : Program} {w : World} {A : Around} {s : Shared} {f : Addr} {pm cd doc : Value} {R : Result → Shared → Prop} {y i q : UInt64} {t1 t2 t3 : Tok}
    (hroom : A.depth < recursionLimit) (H : FnIs 2 f pm cd doc s.heap)
    (h : ∀ a h' tk, s.heap.get? a = none → Tup3 h' a (clampF (rgbR y i q)) (clampF (rgbG y i q)) (clampF (rgbB y i q)) → (∀ b o, s.heap.get? b = some o → h'.get? b = some o) → R (.ok (.ret (.ref a))) { s with heap := h', toks := tk }) :
    codeAny (model prog w) A (.call (.ref f) ⟨[.float y t1, .float i t2, .float q t3], []⟩) R s := by
  obtain ⟨o, ho, hdata⟩ := H.get
  refine call_plain_ret hroom ho hdata H.lim H.code (binds := [("y", .float y t1), ("i", .float i t2), ("q", .float q t3)]) (by rfl) (locs rfl) ?_
  intro h₁ F
  have N : News s.heap s.heap.objs.size h₁ [] := News.nil
  conv =>
    arg 3
    arg 1
    whnf
  repeat ((fail_if_success (with_reducible show wpAny _ _ (exec (Stmt.If _ _ _ _) _) _ _ _)); walk1)
  iterate 3 (refine clampIf (fun x c => Float64.cmp x c == some Ordering.lt) (by assumption) (by assumption) (by rfl) (fun _ _ _ _ q => PySem.AutoFloatOps.lt_0 q) (fun _ _ _ _ _ => ?_) (by rfl) (by rfl) (by decide) (by with_unfolding_all rfl) (by rfl); (try dsimp only); walk1)
  iterate 3 (refine clampIf (fun x c => Float64.cmp x c == some Ordering.gt) (by assumption) (by assumption) (by rfl) (fun _ _ _ _ q => PySem.AutoFloatOps.gt_0 q) (fun _ _ _ _ _ => ?_) (by rfl) (by rfl) (by decide) (by with_unfolding_all rfl) (by rfl); (try dsimp only); walk1)
  (repeat walk1)
  rename Fr _ _ _ _ => F5
  rename News _ _ _ _ => N5
  exact h _ _ _ (N5 _ (.head _)).2.2 ⟨_, _, _, _, (N5 _ (.head _)).1⟩ F5.keep
end Mine

namespace Mine
def quoted (t : Str) : Str := Str.ofString "\"" ++ t ++ Str.ofString "\""
theorem quoted_cps (t : Str) : (quoted t).cps.toList = 34 :: (t.cps.toList ++ [34]) := by
  unfold quoted
  rw [Str.cps_append, Str.cps_append]
  simp [show (Str.ofString "\"").cps = #[34] from by decide +kernel]
theorem quoted_length (t : Str) : (quoted t).length = t.length + 2 := by
  unfold quoted
  rw [Str.length_append, Str.length_append, show (Str.ofString "\"").length = 1 from rfl]
  omega
theorem quoted_first (t : Str) : Txt.item (quoted t) 0 = Str.ofString "\"" := by
  have hl := quoted_length t
  have hc : (quoted t).cps[0]? = some 34 := by
    rw [← Array.getElem?_toList, quoted_cps]; rfl
  unfold Txt.item Txt.charAt
  rw [seqIndex?_zero (by omega)]
  simp only [Option.bind_some]
  rw [hc]
  rfl
theorem quoted_last (t : Str) : Txt.item (quoted t) (-1) = Str.ofString "\"" := by
  have hl := quoted_length t
  have hc : (quoted t).cps[(quoted t).length - 1]? = some 34 := by
    rw [← Array.getElem?_toList, quoted_cps, hl]
    rw [show t.length + 2 - 1 = t.cps.toList.length + 1 by simp [Str.length]]
    simp
  unfold Txt.item Txt.charAt
  rw [seqIndex?_neg_one (by omega)]
  simp only [Option.bind_some]
  rw [hc]
  rfl
theorem quoted_cut (t : Str) : Txt.slice (quoted t) (some 1) (some (-1)) = t := by
  have hl := quoted_length t
  have h1 : Txt.slice (quoted t) (some 1) (some (-1)) = Txt.slice (quoted t) (some 1) (some ((t.length : Int) + 1)) := by
    unfold Txt.slice
    have : Builtin.Str.strSliceIndices (some 1) (some (-1)) 1 (quoted t).length = Builtin.Str.strSliceIndices (some 1) (some ((t.length : Int) + 1)) 1 (quoted t).length := by
      have a1 : ¬ ((t.length : Int) + 1 < 0) := by omega
      have e1 : max (0 : Int) (min (-1 + ((t.length + 2 : Nat) : Int)) ((t.length + 2 : Nat) : Int)) = max 0 (min ((t.length : Int) + 1) ((t.length + 2 : Nat) : Int)) := by omega
      rw [hl]
      simp only [Builtin.Str.strSliceIndices, show (1 : Int) > 0 by decide, if_true, show (-1 : Int) < 0 by decide, if_neg a1, e1]
    simp only [this]
  have h2 := slice_closesL (x := quoted t) (i := 1) (j := (t.length : Int) + 1) (by omega) (by omega) (by rw [hl]; omega)
  rw [h1, eq_of_beq h2, quoted_cps]
  apply Str.ext'
  simp [Str.length]
structure KeqvIs (elt k t : Str) : Prop where
  cut : Txt.splitMax elt (Str.ofString "=") 1 = [k, quoted t]
  len : elt.length ≤ 100000

def dput (l : List (Str × Str)) (p : Str × Str) : List (Str × Str) :=
  if l.any (fun q => decide (q.1 = p.1)) then l.map (fun q => if q.1 = p.1 then p else q) else l ++ [p]

def StrPairs (kvs : List (Str × Value)) (l : List (Str × Str)) : Prop := Paired (fun (a : Str × Value) (b : Str × Str) => a.1 = b.1 ∧ ∃ t, a.2 = .str b.2 t) kvs l

def KeqvJ (prog : Program) (w : World) (d : Addr) (items : List (Str × Str)) (i : Nat) (m : Str → Option Value) (news : List (Addr × Obj)) : Prop :=
  ∃ o kvs, m "parsed" = some (.ref d) ∧ news = [(d, o)] ∧ o.IsDictOf (PySem.strKind prog w) kvs ∧ StrPairs kvs ((items.take i).foldl dput [])


theorem strsAre_place {vs : List Value} {ts : List Str} (h : StrsAre vs ts) {i : Nat} {y : Str} {t : Tok} (hv : vs[i]? = some (.str y t)) : ts[i]? = some y := by
  induction h generalizing i with
  | nil => simp at hv
  | cons y' t' _ ih =>
    cases i with
    | zero => simp at hv; simp [hv.1]
    | succ i => simpa using ih (by simpa using hv)
theorem paired_place {α β : Type} {G : α → β → Prop} {l₁ : List α} {l₂ : List β} (h : Paired G l₁ l₂) {i : Nat} {a : α} (ha : l₁[i]? = some a) : ∃ b, l₂[i]? = some b ∧ G a b := by
  induction h generalizing i with
  | nil => simp at ha
  | cons g _ ih =>
    cases i with
    | zero => simp at ha; subst ha; exact ⟨_, rfl, g⟩
    | succ i => obtain ⟨b, hb, gb⟩ := ih (by simpa using ha); exact ⟨b, by simpa using hb, gb⟩

theorem two_of {l : List (Str × Tok)} {a b : Str} (h : l.map (·.1) = [a, b]) : ∃ p q : Str × Tok, l = [p, q] ∧ p.1 = a ∧ q.1 = b := by
  match l, h with
  | [p, q], h => simp at h; exact ⟨p, q, rfl, h.1, h.2⟩

theorem strPairs_stored {kvs : List (Str × Value)} {l : List (Str × Str)} {k t : Str} {u : Tok} (h : StrPairs kvs l) : StrPairs (stored kvs k (.str t u)) (dput l (k, t)) := by
  have hany : (kvs.any fun kv => decide (kv.1 = k)) = (l.any fun q => decide (q.1 = k)) := by
    induction h with
    | nil => rfl
    | cons g _ ih => simp only [List.any_cons, ih, g.1]
  unfold stored dput
  simp only [hany]
  split
  · rename_i hh
    clear hany hh
    induction h with
    | nil => exact .nil
    | @cons a b l1 l2 g _ ih =>
      refine .cons ?_ ih
      obtain ⟨a1, a2⟩ := a
      obtain ⟨b1, b2⟩ := b
      obtain ⟨g1, g2⟩ := g
      dsimp only at g1 g2
      subst g1
      by_cases e : a1 = k
      · simp [e]
      · simpa [e] using g2
  · exact Paired.snoc h ⟨rfl, u, rfl⟩

theorem strPairs_len {kvs : List (Str × Value)} {l : List (Str × Str)} (h : StrPairs kvs l) : kvs.length = l.length := Paired.length h
theorem dput_len (l : List (Str × Str)) (p : Str × Str) : (dput l p).length ≤ l.length + 1 := by
  unfold dput; split <;> simp
theorem dputs_len (ps l : List (Str × Str)) : (ps.foldl dput l).length ≤ l.length + ps.length := by
  induction ps generalizing l with
  | nil => simp
  | cons p r ih => have := ih (dput l p); have := dput_len l p; simp only [List.foldl_cons, List.length_cons]; omega

set_option maxRecDepth 100000 in
set_option maxHeartbeats 4000000 in
theorem call_keqv {prog : Program} {w : World} {A : Around} {s : Shared} {f l : Addr} {pm cd doc : Value} {R : Result → Shared → Prop} {vs : List Value} {ts : List Str} {items : List (Str × Str)}
    (hroom : A.depth < recursionLimit) (hh : A.handled = none) (H : FnIs 4 f pm cd doc s.heap)
    (hl : s.heap.IsList l vs.toArray) (hvs : StrsAre vs ts) (hit : Paired (fun e (p : Str × Str) => KeqvIs e p.1 p.2) ts items) (hlen : items.length ≤ 100000)
    (h : ∀ d h' tk o kvs, s.heap.objs.size ≤ d → s.heap.get? d = none → h'.get? d = some o → o.IsDictOf (PySem.strKind prog w) kvs → StrPairs kvs (items.foldl dput []) → (∀ b o, s.heap.get? b = some o → h'.get? b = some o) → R (.ok (.ret (.ref d))) { s with heap := h', toks := tk }) :
    codeAny (model prog w) A (.call (.ref f) ⟨[.ref l], []⟩) R s := by
  obtain ⟨o, ho, hdata⟩ := H.get
  refine call_plain_ret hroom ho hdata H.lim H.code (binds := [("l", .ref l)]) (by rfl) (locs rfl) ?_
  intro h₁ F
  have N : News s.heap s.heap.objs.size h₁ [] := News.nil
  conv =>
    arg 3
    arg 1
    whnf
  (repeat walk1)
  have hbig : s.heap.objs.size ≤ h₁.objs.size := Nat.le_of_lt F.ns.lt
  refine dict_empty_N F N fun h2 od F2 N2 hod _ => ?_
  clear F N
  repeat ((fail_if_success (with_reducible show wpAny _ _ (exec (Stmt.For _ _ _ _ _) _) _ _ _)); walk1)
  rename Fr _ _ _ _ => F1
  rename News _ _ _ _ => N1
  have hlt : l < s.heap.objs.size := by obtain ⟨ol, hol, _⟩ := hl; exact Heap.lt_size hol
  refine For_invV (env := envOf (fnName 4) (fnScope 4) s.heap.objs.size f cd) s.heap (by rfl) (by rfl) ?_
  walk1
  refine iterList (KeqvJ prog w h₁.objs.size items) hh (vs := vs) ?_ ?_ ?_ F1 N1 ⟨od, [], rfl, rfl, hod, .nil⟩ ?turn ?done
  · exact hl.at fun o e => F1.keep _ o e
  · exact Nat.ne_of_lt hlt
  · intro p hp e
    have h0 := (N1 p hp).2.2
    obtain ⟨ol, hol, _⟩ := hl
    rw [e, hol] at h0; cases h0
  case done =>
    clear F1 N1
    rintro m₁ nx h' tk ⟨o2, kvs, e1, rfl, hd2, hkv⟩ F2 N2
    have F3 : Fr s.heap s.heap.objs.size h' _ := frBind "parsed" (v := .ref h₁.objs.size) F2 e1
    have N3 : News s.heap s.heap.objs.size h' [(h₁.objs.size, o2)] := N2
    have hvl : vs.length = items.length := by rw [StrsAre.length hvs, Paired.length hit]
    rw [hvl, List.take_length] at hkv
    show wpAny _ _ _ _ _ _
    repeat walk1
    exact h _ _ _ _ _ hbig (N3 _ (.head _)).2.2 (N3 _ (.head _)).1 hd2 hkv F3.keep
  case turn =>
    clear F1 N1
    rintro i v m₁ nx h tk own hv hoff ⟨o2, kvs, e1, rfl, hd2, hkv⟩ F2 N2
    obtain ⟨y, t, rfl, hy⟩ := strsAre_at hvs hv
    have F3 : Fr s.heap s.heap.objs.size h _ := frBind "parsed" (v := .ref h₁.objs.size) F2 e1
    have N3 : News s.heap s.heap.objs.size h ((h₁.objs.size, o2) :: own) := N2
    clear N2 F2
    obtain ⟨⟨kk, tt⟩, hitm, hcut, hylen⟩ := paired_place hit (strsAre_place hvs hv)
    dsimp only at hcut
    have hsz : y.length + 2 ≤ sizeLine := by rw [sizeLine_eq]; omega
    have hkl : kvs.length ≤ sizeLine := by
      have h1 := strPairs_len hkv
      have h2 := dputs_len (items.take i) []
      have h3 : (items.take i).length ≤ items.length := by rw [List.length_take]; omega
      have h4 : ([] : List (Str × Str)).length = 0 := rfl
      rw [sizeLine_eq]; omega
    have hoff' : ∀ p ∈ own, p.1 ≠ h₁.objs.size := fun p hp => hoff p hp _ (.head _)
    show wpAny _ _ _ _ _ _
    k_fold
    repeat ((fail_if_success (with_reducible show wpAny _ _ (call _ _) _ _ _)); walk1)
    refine splitN2A F3 N3 (by decide) (by decide) (fun l2 h3 tk3 hl2 _ hshort hL3 F4 N4 => ?_) hsz
    obtain ⟨⟨k1, t1⟩, ⟨v1, t2⟩, rfl, rfl, rfl⟩ := two_of (hl2.trans hcut)
    dsimp only at hitm hcut hl2
    clear F3 N3
    refine kun_list F4 N4 hL3 hh (by rfl) (by rfl) (fun h5 F5 N5 => ?_)
    show wpAny _ _ (assignInOrder (_ :: _ :: []) [Value.str k1 t1, Value.str (quoted tt) t2]) _ _ _
    refine assignInOrder_cons ?_
    walk1
    walk1
    refine assignInOrder_cons ?_
    walk1
    walk1
    refine assignInOrder_nil ?_
    clear F4 N4 F5 N5
    have hq1 : 2 ≤ (quoted tt).length := by rw [quoted_length]; omega
    have hq2 : (quoted tt).length ≤ 100000 := Nat.le_trans (hshort _ (by simp)) hylen
    have hi0 := quoted_first tt
    have hi1 := quoted_last tt
    repeat' ((fail_if_success (with_reducible show wpAny _ _ (setItem _ _ _) _ _ _)); walk1)
    · rename Fr _ _ _ _ => F6
      rename News _ _ _ _ => N6
      refine setItem_N F6 (fun p hp => N6 p (.tail _ hp)) hoff' hd2 hkl fun h7 o7 F7 N7 hd7 => ?_
      repeat walk1
      k_unfold
      refine InvEndG.intro F7 N7 ⟨o7, _, rfl, rfl, hd7, ?_⟩ hoff (fun p hp => by rw [List.mem_singleton.mp hp]; exact .head _) (fun p hp => .tail _ hp)
      rw [quoted_cut, List.take_add_one, hitm]
      rw [show (some (k1, tt)).toList = [(k1, tt)] from rfl, List.foldl_append]
      exact strPairs_stored hkv
    · rename ((Txt.item (quoted tt) (-1)) == _) = false => g
      rw [hi1] at g
      exact absurd g (by decide)
    · rename ((Txt.item (quoted tt) 0) == _) = false => g
      rw [hi0] at g
      exact absurd g (by decide)
end Mine

namespace Mine

theorem fnIs_keeps {i : Nat} {f : Addr} {pm cd doc : Value} {h h' : Heap} (H : FnIs i f pm cd doc h) (hk : ∀ b o, h.get? b = some o → h'.get? b = some o) : FnIs i f pm cd doc h' :=
  ⟨let ⟨o, ho, hd⟩ := H.get; ⟨o, hk _ _ ho, hd⟩, H.code.keeps hk, H.lim.keeps hk⟩

/-- what the text's top has left: its defs, and the built-in names that it does not hide -/
structure Home (mg mb : Str → Option Value) (h : Heap) : Prop where
  g : h.Ns mainGlobals mg
  b : h.Ns builtinsNs mb
  bi : ∀ x : Str, x ≠ "__name__" → mb x = bootBuiltins x
  free : ∀ x ∈ ([Str.ofString "int", Str.ofString "str", Str.ofString "round", Str.ofString "zip", Str.ofString "min", Str.ofString "max"] : List Str), mg x = none
  fn : ∀ i ∈ ([1, 2, 4, 5, 7, 8, 9, 10] : List Nat), ∃ f pm cd doc, mg (fnName i) = some (.ref f) ∧ FnIs i f pm cd doc h
theorem Home.keeps {mg mb : Str → Option Value} {h h' : Heap} (H : Home mg mb h) (hk : ∀ b o, h.get? b = some o → h'.get? b = some o) : Home mg mb h' :=
  ⟨H.g.keeps hk, H.b.keeps hk, H.bi, H.free, fun i hi => let ⟨f, pm, cd, doc, e, X⟩ := H.fn i hi; ⟨f, pm, cd, doc, e, fnIs_keeps X hk⟩⟩

section
variable {M : Model} {A : Around} {E : Value → Shared → Prop} {s : Shared} {env : Env} {mg mb : Str → Option Value} {x : Str} {pos : Pos} {Q : Value → Shared → Prop}
theorem nameFn (H : Home mg mb s.heap) (i : Nat) (hi : i ∈ ([1, 2, 4, 5, 7, 8, 9, 10] : List Nat)) (hx : fnName i = x)
    (h : ∀ f pm cd doc, FnIs i f pm cd doc s.heap → Q (.ref f) s)
    (hg : env.globals = mainGlobals) (hk : env.scope.kind = .function) (hl : env.kindOf x = some .globalImplicit) (hd : (x == ("__debug__" : Str)) = false) :
    wpAny M A (eval (.Name x pos) env) Q E s := by
  obtain ⟨f, pm, cd, doc, e, X⟩ := H.fn i hi
  exact Calls.Name_function_global hk hl (Calls.loadGlobal_global (by rw [hg]; exact H.g) (hx ▸ e) (h f pm cd doc X)) hd
theorem nameB {v : Value} (H : Home mg mb s.heap) (hm : x ∈ ([Str.ofString "int", Str.ofString "str", Str.ofString "round", Str.ofString "zip", Str.ofString "min", Str.ofString "max"] : List Str))
    (hn : x ≠ "__name__") (hv : bootBuiltins x = some v) (h : Q v s)
    (hg : env.globals = mainGlobals) (hb : env.builtins = builtinsNs) (hk : env.scope.kind = .function) (hl : env.kindOf x = some .globalImplicit) (hd : (x == ("__debug__" : Str)) = false) :
    wpAny M A (eval (.Name x pos) env) Q E s :=
  Calls.Name_function_global hk hl (Calls.loadGlobal_builtin (by rw [hg]; exact H.g) (H.free x hm) (by rw [hb]; exact H.b) ((H.bi x hn).trans hv) h) hd

theorem callFn {i : Nat} {f : Addr} {pm cd doc : Value} {e : Expr} {rest : List Expr} (X : FnIs i f pm cd doc s.heap)
    (h : wpAny M A (spliced (backTo pos (starEach (e :: rest) env))) (fun vs s₁ => (∀ b o, s.heap.get? b = some o → s₁.heap.get? b = some o) ∧ wpAny M A (call (.ref f) vs) Q E s₁) E s)
    (he : starEach (e :: rest) env = (false, eval e env) :: starEach rest env) :
    wpAny M A (callWith pos (.ref f) [] (backTo pos (starEach (e :: rest) env)) []) Q E s := by
  obtain ⟨o, ho, hd⟩ := X.get
  exact callWith_def hd (wpAny_mono h (fun vs s₁ h₁ => ⟨h₁.1 _ _ ho, h₁.2⟩) fun _ _ x => x) he
end
theorem boot_int : bootBuiltins (Str.ofString "int") = some (.type "int") := by decide +kernel
theorem boot_str : bootBuiltins (Str.ofString "str") = some (.type "str") := by decide +kernel
theorem boot_zip : bootBuiltins (Str.ofString "zip") = some (.type "zip") := by decide +kernel
theorem boot_round : bootBuiltins (Str.ofString "round") = some (.builtin "round") := by decide +kernel
theorem boot_min : bootBuiltins (Str.ofString "min") = some (.builtin "min") := by decide +kernel
theorem boot_max : bootBuiltins (Str.ofString "max") = some (.builtin "max") := by decide +kernel
end Mine

namespace Mine

structure Paint where
  name : Str
  r : Int
  g : Int
  b : Int
  parts : Int
  way : Int

def nameAt (k : Int) : Str := if k = 0 then Str.ofString "red" else if k = 1 then Str.ofString "Red" else if k = 2 then Str.ofString "" else if k = 3 then Str.ofString "a b" else Str.ofString "it's"
def paintOf (n : Int) : Paint := ⟨nameAt ((n.fdiv 1000).fmod 5), n.fmod 10, (n.fdiv 10).fmod 10, (n.fdiv 100).fmod 10, 1 + (n.fdiv 5000).fmod 9, (n.fdiv 45000).fmod 4⟩
def numbersOf (ns : List Int) : List Int := [9, 51457, 90, 142036, 98013] ++ (ns.take 6).map (fun n => n.fmod 1000000)

/-- the ledger bears a paint at v -/
def PaintIn (led : List (Addr × Obj)) (v : Value) (p : Paint) : Prop :=
  ∃ a c t1 t2 t3 u1 u2 u3, v = .ref a ∧ (a, tupOf #[.str p.name t1, .ref c, .int p.parts t2, .int p.way t3]) ∈ led ∧ (c, tupOf #[.int p.r u1, .int p.g u2, .int p.b u3]) ∈ led
theorem PaintIn.mono {led led' : List (Addr × Obj)} {v : Value} {p : Paint} (h : PaintIn led v p) (hs : ∀ q ∈ led, q ∈ led') : PaintIn led' v p := by
  obtain ⟨a, c, t1, t2, t3, u1, u2, u3, rfl, h1, h2⟩ := h
  exact ⟨a, c, t1, t2, t3, u1, u2, u3, rfl, hs _ h1, hs _ h2⟩
theorem paints_mono {led led' : List (Addr × Obj)} {vs : List Value} {ps : List Paint} (h : Paired (PaintIn led) vs ps) (hs : ∀ q ∈ led, q ∈ led') : Paired (PaintIn led') vs ps := by
  induction h with
  | nil => exact .nil
  | cons g _ ih => exact .cons (g.mono hs) ih
/-- the heap bears a paint at v -/
def PaintAt (h : Heap) (v : Value) (p : Paint) : Prop :=
  ∃ a c t1 t2 t3 u1 u2 u3, v = .ref a ∧ h.get? a = some (tupOf #[.str p.name t1, .ref c, .int p.parts t2, .int p.way t3]) ∧ h.get? c = some (tupOf #[.int p.r u1, .int p.g u2, .int p.b u3])
theorem paintAt_of {h₀ h : Heap} {L : Addr} {led : List (Addr × Obj)} {v : Value} {p : Paint} (N : News h₀ L h led) (x : PaintIn led v p) : PaintAt h v p := by
  obtain ⟨a, c, t1, t2, t3, u1, u2, u3, rfl, h1, h2⟩ := x
  exact ⟨a, c, t1, t2, t3, u1, u2, u3, rfl, (N _ h1).1, (N _ h2).1⟩
theorem PaintAt.keeps {h h' : Heap} {v : Value} {p : Paint} (x : PaintAt h v p) (hk : ∀ b o, h.get? b = some o → h'.get? b = some o) : PaintAt h' v p := by
  obtain ⟨a, c, t1, t2, t3, u1, u2, u3, rfl, h1, h2⟩ := x
  exact ⟨a, c, t1, t2, t3, u1, u2, u3, rfl, hk _ _ h1, hk _ _ h2⟩

def NamesTup (vs : Array Value) : Prop := vs.size = 5 ∧ ∀ k : Int, 0 ≤ k → k < 5 → ∃ t, vs[k.toNat]? = some (.str (nameAt k) t)
theorem namesTup_mk (t0 t1 t2 t3 t4 : Tok) : NamesTup #[.str (Str.ofString "red") t0, .str (Str.ofString "Red") t1, .str (Str.ofString "") t2, .str (Str.ofString "a b") t3, .str (Str.ofString "it's") t4] := by
  refine ⟨rfl, fun k h0 h5 => ?_⟩
  have : k = 0 ∨ k = 1 ∨ k = 2 ∨ k = 3 ∨ k = 4 := by omega
  rcases this with rfl | rfl | rfl | rfl | rfl
  all_goals exact ⟨_, rfl⟩

def DrawnJ (D nt : Addr) (ntv : Array Value) (nums : List Int) (i : Nat) (m : Str → Option Value) (nx : List (Addr × Obj)) : Prop :=
  ∃ vs k tl, m "drawn" = some (.ref D) ∧ m "names" = some (.ref nt) ∧ nx = (D, listOf vs k) :: (nt, tupOf ntv) :: tl ∧ (∀ p ∈ (nt, tupOf ntv) :: tl, p.1 ≠ D) ∧ Paired (PaintIn tl) vs.toList ((nums.take i).map paintOf)

theorem intsAre_at {vs : List Value} {ns : List Int} (h : IntsAre vs ns) {i : Nat} {v : Value} (hv : vs[i]? = some v) : ∃ n t, v = .int n t ∧ ns[i]? = some n := by
  induction h generalizing i with
  | nil => simp at hv
  | cons y t _ ih =>
    cases i with
    | zero => exact ⟨y, t, by simpa using hv.symm, rfl⟩
    | succ i => obtain ⟨y', t', e, hm⟩ := ih (by simpa using hv); exact ⟨y', t', e, by simpa using hm⟩

def ModTo (v y : Value) : Prop := ∀ n t, v = .int n t → ∃ t', y = .int (n.fmod 1000000) t'
theorem mod_paired {vs ys : List Value} {ns : List Int} (h : IntsAre vs ns) (hp : Paired ModTo vs ys) : IntsAre ys (ns.map fun n => n.fmod 1000000) := by
  induction h generalizing ys with
  | nil => cases hp; exact .nil
  | cons n t _ ih =>
    cases hp with
    | cons h1 h2 =>
      obtain ⟨t', rfl⟩ := h1 n t rfl
      exact .cons _ _ (ih h2)
theorem intsAre_take {vs : List Value} {ns : List Int} (h : IntsAre vs ns) (k : Nat) : IntsAre (vs.take k) (ns.take k) := by
  induction h generalizing k with
  | nil => simpa using IntsAre.nil
  | cons n t _ ih => cases k with
    | zero => exact .nil
    | succ k => exact .cons _ _ (ih k)

theorem numbers_range {ns : List Int} {n : Int} (h : n ∈ numbersOf ns) : 0 ≤ n ∧ n < 1000000 := by
  unfold numbersOf at h
  rcases List.mem_append.mp h with h | h
  · simp at h; omega
  · obtain ⟨x, _, rfl⟩ := List.mem_map.mp h
    have e : x.fmod 1000000 = x % 1000000 := Int.fmod_eq_emod_of_nonneg x (by decide)
    simp only [e]
    omega

theorem fmod_range (x : Int) {m : Int} (hm : 0 < m) : 0 ≤ x.fmod m ∧ x.fmod m < m := by
  rw [Int.fmod_eq_emod_of_nonneg x (Int.le_of_lt hm)]
  exact ⟨Int.emod_nonneg x (Int.ne_of_gt hm), Int.emod_lt_of_pos x hm⟩
theorem seqIndex_in {k : Int} {n : Nat} (h0 : 0 ≤ k) (h1 : k < n) : seqIndex? k n = some k.toNat := by
  simp [seqIndex?, h0, h1]
  omega

set_option maxRecDepth 100000 in
set_option maxHeartbeats 4000000 in
theorem call_drawn {prog : Program} {w : World} {A : Around} {s : Shared} {f l : Addr} {pm cd doc : Value} {mg mb : Str → Option Value} {R : Result → Shared → Prop} {vs : List Value} {ns : List Int}
    (hroom : A.depth < recursionLimit) (hh : A.handled = none) (X : FnIs 7 f pm cd doc s.heap) (H : Home mg mb s.heap)
    (hl : s.heap.IsList l vs.toArray) (hvs : IntsAre vs ns) (hlen : ns.length ≤ 100000)
    (h : ∀ D h' tk us k, s.heap.get? D = none → h'.get? D = some (listOf us k) → Paired (PaintAt h') us.toList ((numbersOf ns).map paintOf) → (∀ b o, s.heap.get? b = some o → h'.get? b = some o) → R (.ok (.ret (.ref D))) { s with heap := h', toks := tk }) :
    codeAny (model prog w) A (.call (.ref f) ⟨[.ref l], []⟩) R s := by
  obtain ⟨o, ho, hdata⟩ := X.get
  refine call_plain_ret hroom ho hdata X.lim X.code (binds := [("script", .ref l)]) (by rfl) (locs rfl) ?_
  intro h₁ F
  have N : News s.heap s.heap.objs.size h₁ [] := News.nil
  conv =>
    arg 3
    arg 1
    whnf
  repeat ((fail_if_success (with_reducible show wpAny _ _ (newTuple _) _ _ _)); walk1)
  refine newTuple_D (by assumption) (by assumption) fun nt h2 _ F2 N2 => ?_
  clear F N
  obtain ⟨ntv, hnt, N2'⟩ : ∃ ntv, NamesTup ntv ∧ News s.heap s.heap.objs.size h2 [(nt, tupOf ntv)] := ⟨_, namesTup_mk _ _ _ _ _, N2⟩
  clear N2
  repeat ((fail_if_success (with_reducible show wpAny _ _ (newList _) _ _ _)); walk1)
  refine newList_D (by assumption) (by assumption) fun D h3 hD F3 N3 => ?_
  repeat ((fail_if_success (with_reducible show wpAny _ _ (exec (Stmt.For _ _ _ _ _) _) _ _ _)); walk1)
  refine For_invV (env := envOf (fnName 7) (fnScope 7) s.heap.objs.size f cd) s.heap (by rfl) (by rfl) ?_
  repeat ((fail_if_success (with_reducible show wpAny _ _ (newList _) _ _ _)); walk1)
  refine newList_D (by assumption) (by assumption) fun D5 h5 _ F5 N5 => ?_
  obtain ⟨v5, hv5, N5'⟩ : ∃ v5 : List Value, IntsAre v5 [9, 51457, 90, 142036, 98013] ∧ News s.heap s.heap.objs.size h5 ((D5, listOf v5.toArray 0) :: (D, listOf #[] 0) :: (nt, tupOf ntv) :: []) := ⟨_, .cons _ _ (.cons _ _ (.cons _ _ (.cons _ _ (.cons _ _ .nil)))), N5⟩
  have h5l : v5.length = 5 := IntsAre.length hv5
  clear N5
  refine compE (cl := []) ModTo (by rfl) (by decide) (by rfl) (by decide) (by rfl) (fun _ => rfl) ?_
  repeat ((fail_if_success (with_reducible show wpAny _ _ (pyIter _) _ _ _)); walk1)
  rename Fr _ _ _ _ => F6
  rename News _ _ _ _ => N6
  have hvl : vs.length = ns.length := IntsAre.length hvs
  refine comp_list ModTo hh (vs := vs.take 6) ?_ ?_ ?_ ?_
  · refine ⟨_, (N6 _ (.head _)).1, rfl, 0, ?_⟩
    rw [show (some (6 : Int)) = some ((6 : Nat) : Int) from rfl, slicePick_upto']
  · rw [List.length_take, sizeLine_eq]; omega
  · intro C i v s₃ m₃ E' _ hv hns hmx hk
    obtain ⟨n, t, rfl, hn⟩ := intsAre_at (intsAre_take hvs 6) hv
    have H3 : Home mg mb s₃.heap := H.keeps fun b o e => hk b o (F6.keep b o e)
    refine wpAny_BinOp (Call_ (nameB H3 (by decide) (by decide) boot_int ?_ rfl rfl rfl rfl (by decide)))
    refine PyProof.Rows.callWith_type1 (args_cons (wpAny_Name (wpAny_loadName_local rfl rfl hns hmx ?_) (by decide)))
    refine args_nil (call_int_int ?_)
    refine wpAny_BinOp (wpAny_Constant_int (wpAny_Constant_int ?_))
    refine PySem.AutoIntOps.pow_4 (by decide) (by decide) (by decide) (by decide) (by decide) ?_
    refine PyProof.Rows.mod_int (by decide) ⟨?_, ⟨s₃.heap, _, rfl, fun _ _ e => e⟩⟩
    intro z t'' e; cases e; exact ⟨_, rfl⟩
  intro D7 h7 tk7 k7 ys hD7 ho7 hG hk7
  have F7 := frGrow F6 hk7
  have N7 := newsCons F6 N6 hk7 hD7 ho7
  have hys : IntsAre ys.toList ((ns.take 6).map fun n => n.fmod 1000000) := mod_paired (intsAre_take hvs 6) hG
  have hyl : ys.toList.length ≤ 6 := by rw [IntsAre.length hys, List.length_map, List.length_take]; omega
  refine addLists_D (vs := v5) (ws := ys.toList) F7 N7 ?_ (listAt ho7) (fun T8 h8 hT8 F8 N8 => ?_) ?_
  · exact ⟨_, (N7 _ (.tail _ (.tail _ (.head _)))).1, rfl, 0, rfl⟩
  rotate_left
  · rw [sizeLine_eq]; omega
  have hnums : IntsAre _ (numbersOf ns) := IntsAre.append hv5 hys
  have N8' : News s.heap s.heap.objs.size h8 ((D, listOf #[] 0) :: (nt, tupOf ntv) :: []) := fun p hp => N8 p (by
    rcases List.mem_cons.mp hp with rfl | hp
    · exact .tail _ (.tail _ (.tail _ (.tail _ (.head _))))
    · rw [List.mem_singleton.mp hp]; exact .tail _ (.tail _ (.tail _ (.tail _ (.tail _ (.head _))))))
  have hDnt : ∀ p ∈ (nt, tupOf ntv) :: ([] : List (Addr × Obj)), p.1 ≠ D := fun p hp => hD p hp
  refine iterList (vs := v5 ++ ys.toList) (DrawnJ D nt ntv (numbersOf ns)) hh ?_ ?_ ?_ F8 N8' ⟨#[], 0, [], rfl, rfl, rfl, hDnt, .nil⟩ ?turn ?done
  · exact ⟨_, (N8 _ (.head _)).1, rfl, 0, rfl⟩
  · exact (N8 _ (.head _)).2.1
  · intro p hp
    rcases List.mem_cons.mp hp with rfl | hp
    · exact hT8 _ (.tail _ (.tail _ (.tail _ (.head _))))
    · rw [List.mem_singleton.mp hp]; exact hT8 _ (.tail _ (.tail _ (.tail _ (.tail _ (.head _)))))
  case done =>
    rintro m₁ nx h9 tk9 ⟨us, k, tl, e1, e2, rfl, hoffD, hP⟩ F9 N9
    have F10 : Fr s.heap s.heap.objs.size h9 _ := frBind "drawn" F9 e1
    have N10 : News s.heap s.heap.objs.size h9 ((D, listOf us k) :: (nt, tupOf ntv) :: tl) := N9
    clear F2 N2' F3 N3 F5 N5' F6 N6 F7 N7 F8 N8 N8' F9 N9
    show wpAny _ _ _ _ _ _
    repeat walk1
    refine h _ _ _ _ _ (N10 _ (.head _)).2.2 (N10 _ (.head _)).1 ?_ F10.keep
    rw [IntsAre.length hnums, List.take_length] at hP
    have N11 : News s.heap s.heap.objs.size h9 tl := fun p hp => N10 p (.tail _ (.tail _ hp))
    clear hnums
    generalize (numbersOf ns).map paintOf = ps at hP
    generalize us.toList = us' at hP
    induction hP with
    | nil => exact .nil
    | cons g _ ih => exact .cons (paintAt_of N11 g) ih
  case turn =>
    clear F2 N2' F3 N3 F5 N5' F6 N6 F7 N7 F8 N8 N8'
    rintro i v m₁ nx h9 tk own hv hoff ⟨us, k, tl, e1, e2, rfl, hoffD, hP⟩ F9 N9
    obtain ⟨n, t, rfl, hn⟩ := intsAre_at hnums hv
    have hr := numbers_range (List.mem_of_getElem? hn)
    have hn0 := hr.1
    have hn1 := hr.2
    have F10 : Fr s.heap s.heap.objs.size h9 _ := frBind "names" (frBind "drawn" F9 e1) e2
    have N10 : News s.heap s.heap.objs.size h9 ((D, listOf us k) :: (nt, tupOf ntv) :: (tl ++ own)) := N9
    clear F9 N9
    have hoff1 : ∀ p ∈ own, p.1 ≠ D := fun p hp => hoff p hp _ (.head _)
    show wpAny _ _ _ _ _ _
    k_fold
    repeat ((fail_if_success (with_reducible show wpAny _ _ (newTuple _) _ _ _)); walk1)
    refine newTuple_D (by assumption) (by assumption) fun c h11 hc F11 N11 => ?_
    clear F10 N10
    repeat ((fail_if_success (with_reducible show wpAny _ _ (newTuple _) _ _ _)); walk1)
    rename Fr _ _ _ _ => F12
    rename News _ _ _ _ => N12
    have hk5 := fmod_range (n.fdiv 1000) (m := 5) (by decide)
    obtain ⟨tn, htn⟩ := hnt.2 _ hk5.1 hk5.2
    refine item_tupleT (l := ntv.toList) (j := ((n.fdiv 1000).fmod 5).toNat) (x := .str (nameAt ((n.fdiv 1000).fmod 5)) tn) ?_ (by omega) (by omega) ?_ ?_ ?_
    · exact ⟨_, (N12 _ (.tail _ (.tail _ (.head _)))).1, rfl, 0, by simp⟩
    · exact seqIndex_in hk5.1 (by rw [Array.length_toList, hnt.1]; omega)
    · simpa using htn
    repeat ((fail_if_success (with_reducible show wpAny _ _ (newTuple _) _ _ _)); walk1)
    refine newTuple_D F12 N12 fun T h13 hT F13 N13 => ?_
    clear F12 N12 F11 N11
    obtain ⟨oT, oc, hpin, N13'⟩ : ∃ oT oc, PaintIn [(T, oT), (c, oc)] (.ref T) (paintOf n) ∧ News s.heap s.heap.objs.size h13 ((T, oT) :: (c, oc) :: (D, listOf us k) :: (nt, tupOf ntv) :: (tl ++ own)) :=
      ⟨_, _, ⟨T, c, _, _, _, _, _, _, rfl, .head _, .tail _ (.head _)⟩, N13⟩
    clear N13
    have hsz : us.size ≤ sizeLine := by
      have h1 := Paired.length hP
      rw [Array.length_toList, List.length_map, List.length_take] at h1
      have h2 : (numbersOf ns).length ≤ 11 := by
        unfold numbersOf
        rw [List.length_append, List.length_map, List.length_take]
        show 5 + min 6 ns.length ≤ 11
        omega
      rw [sizeLine_eq]; omega
    have N14 : News s.heap s.heap.objs.size h13 ((D, listOf us k) :: (T, oT) :: (c, oc) :: (nt, tupOf ntv) :: (tl ++ own)) := fun p hp => N13' p (by
      rcases List.mem_cons.mp hp with rfl | hp
      · exact .tail _ (.tail _ (.head _))
      rcases List.mem_cons.mp hp with rfl | hp
      · exact .head _
      rcases List.mem_cons.mp hp with rfl | hp
      · exact .tail _ (.head _)
      · exact .tail _ (.tail _ (.tail _ hp)))
    have hoff2 : ∀ p ∈ (T, oT) :: (c, oc) :: (nt, tupOf ntv) :: (tl ++ own), p.1 ≠ D := by
      intro p hp
      rcases List.mem_cons.mp hp with rfl | hp
      · exact fun e => hT (D, listOf us k) (.tail _ (.head _)) e.symm
      rcases List.mem_cons.mp hp with rfl | hp
      · exact fun e => hc (D, listOf us k) (.head _) e.symm
      rcases List.mem_cons.mp hp with rfl | hp
      · exact hoffD _ (.head _)
      rcases List.mem_append.mp hp with hp | hp
      · exact hoffD _ (.tail _ hp)
      · exact hoff1 p hp
    repeat ((fail_if_success (with_reducible show wpAny _ _ (call (Value.builtin "list.append") _) _ _ _)); walk1)
    refine append_N F13 N14 hoff2 hsz fun h15 F15 N15 => ?_
    clear F13 N14 N13'
    (try dsimp only)
    repeat walk1
    k_unfold
    refine InvEndG.intro (nx := (D, listOf (us.push (.ref T)) (k + 1)) :: (nt, tupOf ntv) :: (T, oT) :: (c, oc) :: tl) F15 N15 ⟨_, _, _, rfl, rfl, rfl, ?_, ?_⟩ ?_ ?_ ?_
    · intro p hp
      refine hoff2 p ?_
      rcases List.mem_cons.mp hp with rfl | hp
      · exact .tail _ (.tail _ (.head _))
      rcases List.mem_cons.mp hp with rfl | hp
      · exact .head _
      rcases List.mem_cons.mp hp with rfl | hp
      · exact .tail _ (.head _)
      · exact .tail _ (.tail _ (.tail _ (List.mem_append_left _ hp)))
    · rw [Array.toList_push, List.take_add_one, hn, List.map_append]
      exact Paired.snoc (paints_mono hP fun q hq => .tail _ (.tail _ hq)) (hpin.mono fun q hq => by
        rcases List.mem_cons.mp hq with rfl | hq
        · exact .head _
        · rw [List.mem_singleton.mp hq]; exact .tail _ (.head _))
    · intro p hp b hb
      rcases List.mem_cons.mp hb with rfl | hb
      · exact hoff1 p hp
      rcases List.mem_cons.mp hb with rfl | hb
      · exact hoff p hp _ (.tail _ (.head _))
      rcases List.mem_cons.mp hb with rfl | hb
      · exact hT p (.tail _ (.tail _ (.tail _ (List.mem_append_right _ hp))))
      rcases List.mem_cons.mp hb with rfl | hb
      · exact hc p (.tail _ (.tail _ (List.mem_append_right _ hp)))
      · exact hoff p hp _ (.tail _ (.tail _ hb))
    · intro p hp
      rcases List.mem_cons.mp hp with rfl | hp
      · exact .head _
      rcases List.mem_cons.mp hp with rfl | hp
      · exact .tail _ (.tail _ (.tail _ (.head _)))
      rcases List.mem_cons.mp hp with rfl | hp
      · exact .tail _ (.head _)
      rcases List.mem_cons.mp hp with rfl | hp
      · exact .tail _ (.tail _ (.head _))
      · exact .tail _ (.tail _ (.tail _ (.tail _ (List.mem_append_left _ hp))))
    · intro p hp
      exact .tail _ (.tail _ (.tail _ (.tail _ (List.mem_append_right _ hp))))
end Mine

namespace Mine
section
variable {prog : Program} {w : World} {A : Around} {E : Value → Shared → Prop} {s : Shared}

theorem compLoop_any {R : Result → Shared → Prop} {elt target iter : Expr} {scope : Scope} {pos : Pos} {I D : Addr} {fp wr : List Addr} {n : Nat} {P : Nat → Value → Prop} {St : Nat → Heap → Prop} {cenv : Env} {m : Str → Option Value}
    (G : Nat → Value → Prop) (B : Nat → (Str → Option Value) → Prop) (W : Walks prog w A I fp wr n P St)
    (hDC : D ≠ cenv.locals) (hDf : D ∉ fp) (hCf : cenv.locals ∉ fp)
    (hst : St 0 s.heap) (hacc : s.heap.PlainList D #[]) (hn : s.heap.Ns cenv.locals m)
    (htgt : ∀ i v (s' : Shared) m' (Q' : Unit → Shared → Prop) (E' : Value → Shared → Prop), P i v → St (i + 1) s'.heap → s'.heap.Ns cenv.locals m' → (∀ b o, b ≠ cenv.locals → b ∉ wr → b ≠ D → s.heap.get? b = some o → s'.heap.get? b = some o) →
      (∀ h' tk m'', h'.Ns cenv.locals m'' → B i m'' → (∀ b o, b ≠ cenv.locals → s'.heap.get? b = some o → h'.get? b = some o) → Q' () { s' with heap := h', toks := tk }) →
      wpAny (model prog w) A (letOwnedTupleGo target (.ref I) v) (fun _ s₁ => wpAny (model prog w) A (assign target cenv v) Q' E' s₁) E' s')
    (helt : ∀ i (s₂ : Shared) m₂ (E' : Value → Shared → Prop), i < n → B i m₂ → s₂.heap.Ns cenv.locals m₂ → (∀ b o, b ≠ cenv.locals → b ∉ wr → b ≠ D → s.heap.get? b = some o → s₂.heap.get? b = some o) →
      wpAny (model prog w) A (eval elt cenv) (fun y s₃ => G i y ∧ Keeps s₂ s₃) E' s₂)
    (hR : ∀ h' tk m' ys k, h'.Ns cenv.locals m' → h'.get? D = some (listOf ys k) → ys.size = n → (∀ (j : Nat) y, ys[j]? = some y → G j y) →
      (∀ b o, b ≠ cenv.locals → b ∉ wr → b ≠ D → s.heap.get? b = some o → h'.get? b = some o) → R (.ok .next) { s with heap := h', toks := tk })
    (hsz : n ≤ sizeLine) : codeAny (model prog w) A (.compLoop (.ListComp elt [⟨target, iter, [], 0⟩] scope pos) 0 (.ref I) (.ref D) cenv) R s := by
  refine kcp_loop
    (fun k s' => ∃ h' tk m' ys, s' = { s with heap := h', toks := tk } ∧ St ys.size h' ∧ h'.PlainList D ys ∧ h'.Ns cenv.locals m' ∧ (∀ (j : Nat) y, ys[j]? = some y → G j y) ∧
      ys.size ≤ n ∧ k = n + 1 - ys.size ∧ (∀ b o, b ≠ cenv.locals → b ∉ wr → b ≠ D → s.heap.get? b = some o → h'.get? b = some o)) ?_ (n + 1)
    ⟨s.heap, s.toks, m, #[], rfl, hst, hacc, hn, by simp, Nat.zero_le _, rfl, fun _ _ _ _ _ e => e⟩
  rintro k s' ⟨H, tk, m', ys, rfl, hst', hacc', hn', hG, hi, rfl, hk⟩
  have hCw : cenv.locals ∉ wr := fun h => hCf (W.sub _ h)
  have hDw : D ∉ wr := fun h => hDf (W.sub _ h)
  by_cases hlt : ys.size < n
  · refine W.item ys.size _ _ _ hlt hst' fun v h₁ tk₁ hPv hst₁ hk₁ => ?_
    dsimp only
    refine htgt ys.size v _ m' _ _ hPv hst₁ (hn'.at' fun o e => hk₁ _ o hCw e) (fun b o hbC hbf hbD e => hk₁ b o hbf (hk b o hbC hbf hbD e)) fun h₂ tk₂ m₂ hn₂ hB hk₂ => ?_
    have up₂ : ∀ b o, b ≠ cenv.locals → b ∉ wr → H.get? b = some o → h₂.get? b = some o := fun b o hbC hbf e => hk₂ b o hbC (hk₁ b o hbf e)
    have hst₂ : St (ys.size + 1) h₂ := W.frame _ _ _ hst₁ fun b hb o e => hk₂ b o (fun h => hCf (h ▸ hb)) e
    refine wpAny_mono (helt ys.size _ m₂ _ hlt hB hn₂ fun b o hbC hbf hbD e => up₂ b o hbC hbf (hk b o hbC hbf hbD e)) (fun y s₄ h₄ => ?_) fun _ _ e => e
    obtain ⟨hGy, h₄, tk₄, rfl, hk₄⟩ := h₄
    have hacc₂ : h₂.PlainList D ys := hacc'.at fun o e => up₂ D o hDC hDw e
    refine wpAny_list_append_plain (hsz := Nat.le_trans hi hsz) (hacc₂.at fun o e => hk₄ _ o e) fun h₅ hl₅ hs₅ => ?_
    refine ⟨n + 1 - (ys.size + 1), by omega, h₅, tk₄, m₂, ys.push y, rfl, ?_, hl₅, (hn₂.keeps hk₄).sameBut hs₅ (Ne.symm hDC), ?_, ?_, ?_, ?_⟩
    · rw [Array.size_push]
      exact W.frame _ _ _ hst₂ fun b hb o e => hs₅.extBut b o (fun h => hDf (h ▸ hb)) (hk₄ b o e)
    · intro j z hj
      rw [Array.getElem?_push] at hj
      split at hj
      · rename_i e; cases hj; rw [e]; exact hGy
      · exact hG j z hj
    · rw [Array.size_push]; exact hlt
    · rw [Array.size_push]
    · exact fun b o hbC hbf hbD e => hs₅.extBut b o hbD (hk₄ b o (up₂ b o hbC hbf (hk b o hbC hbf hbD e)))
  · have hin : ys.size = n := by omega
    refine W.done _ _ _ (hin ▸ hst') fun h₁ tk₁ hk₁ => ?_
    obtain ⟨kk, hkk⟩ := hacc'
    exact hR h₁ tk₁ m' ys kk (hn'.at' fun o e => hk₁ _ o hCw e) (hk₁ _ _ hDw hkk) hin hG fun b o hbC hbf hbD e => hk₁ b o hbf (hk b o hbC hbf hbD e)
end

section
variable {prog : Program} {w : World} {A : Around} {E : Value → Shared → Prop} {env : Env}

/-- the source: a fresh iterator I over s₀'s heap -/
theorem compBlock {s₀ s₂ : Shared} {oI : Obj} {elt target iter : Expr} {scope : Scope} {cl : List (Str × Addr)} {pos : Pos} {I : Addr} {fp : List Addr} {n : Nat} {P : Nat → Value → Prop} {St : Nat → Heap → Prop}
    {RR : Value → Addr → Result → Shared → Prop} (G : Nat → Value → Prop) (B : Nat → (Str → Option Value) → Prop)
    (W : Walks prog w A I fp [I] n P St) (hI : I = s₀.heap.objs.size) (hs₂ : s₂ = { s₀ with heap := s₀.heap.push oI }) (hsz : n ≤ sizeLine) (hst : St 0 s₂.heap) (hfp : ∀ b ∈ fp, b < s₂.heap.objs.size)
    (hcell : ∀ y ∈ scope.names, y.2 ≠ .cell) (hkind : scope.kind = .function)
    (htgt : ∀ C i v (s' : Shared) m' (Q' : Unit → Shared → Prop) (E' : Value → Shared → Prop), s₀.heap.objs.size < C → P i v → St (i + 1) s'.heap → s'.heap.Ns C m' → (∀ b o, s₀.heap.get? b = some o → s'.heap.get? b = some o) →
      (∀ h' tk m'', h'.Ns C m'' → B i m'' → (∀ b o, b ≠ C → s'.heap.get? b = some o → h'.get? b = some o) → Q' () { s' with heap := h', toks := tk }) →
      wpAny (model prog w) A (letOwnedTupleGo target (.ref I) v) (fun _ s₁ => wpAny (model prog w) A (assign target (compEnvC scope cl C env) v) Q' E' s₁) E' s')
    (helt : ∀ C i (s₃ : Shared) m₃ (E' : Value → Shared → Prop), s₀.heap.objs.size < C → i < n → B i m₃ → s₃.heap.Ns C m₃ → (∀ b o, s₀.heap.get? b = some o → s₃.heap.get? b = some o) →
      wpAny (model prog w) A (eval elt (compEnvC scope cl C env)) (fun y s₄ => G i y ∧ Keeps s₃ s₄) E' s₃)
    (hRR : ∀ D C h' tk m' ys k, s₀.heap.get? D = none → s₀.heap.get? C = none → D ≠ C → h'.Ns C m' → h'.get? D = some (listOf ys k) → ys.size = n → (∀ (j : Nat) y, ys[j]? = some y → G j y) →
      (∀ b o, s₀.heap.get? b = some o → h'.get? b = some o) → RR (.ref D) C (.ok .next) { s₀ with heap := h', toks := tk }) :
    wpAny (model prog w) A (newList []) (fun acc s₃ => wpAny (model prog w) A (newFunctionEnv scope env.globals cl [] env.qual none .none (some env)) (fun cenv s₄ =>
      codeAny (model prog w) A (.compStart (.ListComp elt [⟨target, iter, [], 0⟩] scope pos) 0 (.ref I) acc { cenv with scope := relabel scope env }) (RR acc cenv.locals) s₄) E s₃) E s₂ := by
  subst hs₂
  have fresh0 : ∀ a, s₀.heap.objs.size ≤ a → s₀.heap.get? a = none := fun a ha => by
    cases e : s₀.heap.get? a with
    | none => rfl
    | some o' => exact absurd (Heap.lt_size e) (Nat.not_lt.mpr ha)
  refine wpAny_newObj_type (wpAny_newFunctionEnv hcell (by intro y hy; simp at hy) (fun h₁ hns₁ hsb₁ => ?_) hkind)
  dsimp only at hns₁ hsb₁ ⊢
  generalize hH1 : s₀.heap.push oI = H1 at *
  have h1s : H1.objs.size = s₀.heap.objs.size + 1 := by rw [← hH1, Heap.size_push]
  generalize hH2 : H1.push { cls := .type "list", dict := none, data := .seq ([] : List Value).toArray } = H2 at hns₁ hsb₁ ⊢
  have hC : H2.objs.size = H1.objs.size + 1 := by rw [← hH2, Heap.size_push]
  have hDC : H1.objs.size ≠ H2.objs.size := by rw [hC]; exact Nat.ne_of_lt (Nat.lt_succ_self _)
  have below : ∀ b, b < H1.objs.size → b ≠ H2.objs.size ∧ b ≠ H1.objs.size := fun b hb => ⟨by rw [hC]; exact Nat.ne_of_lt (Nat.lt_succ_of_lt hb), Nat.ne_of_lt hb⟩
  have hDf : H1.objs.size ∉ fp := fun hm => Nat.lt_irrefl _ (hfp _ hm)
  have hCf : H2.objs.size ∉ fp := fun hm => by have := hfp _ hm; rw [hC] at this; exact Nat.lt_irrefl _ (Nat.lt_of_succ_lt this)
  have old : ∀ b o, H1.get? b = some o → h₁.get? b = some o := fun b o e => hsb₁.extBut b o (below b (Heap.lt_size e)).1 (Heap.get?_push_of_some _ (hH2 ▸ Heap.get?_push_of_some _ e))
  have old0 : ∀ b o, s₀.heap.get? b = some o → H1.get? b = some o := fun b o e => hH1 ▸ Heap.get?_push_of_some _ e
  have notI : ∀ b o, s₀.heap.get? b = some o → b ∉ [I] := fun b o e hb => by
    rw [List.mem_singleton.mp hb, hI] at e
    exact absurd (Heap.lt_size e) (Nat.lt_irrefl _)
  have hacc : h₁.PlainList H1.objs.size #[] := ⟨_, hsb₁.extBut _ _ hDC (Heap.get?_push_of_some _ (hH2 ▸ Heap.get?_push_size _ rfl))⟩
  have hst₁ : St 0 h₁ := W.frame _ _ _ hst fun b _ o e => old b o e
  have lt2 : s₀.heap.objs.size < H2.objs.size := by rw [hC, h1s]; exact Nat.lt_succ_of_lt (Nat.lt_succ_self _)
  have keep0 : ∀ {h' : Heap}, (∀ b o, b ≠ H2.objs.size → b ∉ [I] → b ≠ H1.objs.size → h₁.get? b = some o → h'.get? b = some o) → ∀ b o, s₀.heap.get? b = some o → h'.get? b = some o := fun hk b o e =>
    hk b o (below b (Heap.lt_size (old0 b o e))).1 (notI b o e) (below b (Heap.lt_size (old0 b o e))).2 (old b o (old0 b o e))
  have loop : ∀ s₃ : Shared, s₃ = { s₀ with heap := h₁, toks := s₀.toks + ([] : List (Str × Value)).length } →
      codeAny (model prog w) A (.compLoop (.ListComp elt [⟨target, iter, [], 0⟩] scope pos) 0 (.ref I) (.ref H1.objs.size) (compEnvC scope cl H2.objs.size env))
        (RR (.ref H1.objs.size) H2.objs.size) s₃ := by
    rintro s₃ rfl
    refine compLoop_any (cenv := compEnvC scope cl H2.objs.size env) G B W hDC hDf hCf hst₁ hacc hns₁ ?_ ?_ ?_ hsz
    · intro i v s' m' Q' E' hP hst' hns hk hq
      exact htgt _ i v s' m' Q' E' lt2 hP hst' hns (keep0 hk) hq
    · intro i s₄ m₄ E' hi hB hns hk
      exact helt _ i s₄ m₄ E' lt2 hi hB hns (keep0 hk)
    · intro h' tk m' ys k hns ho hsz' hG hk
      exact hRR _ _ h' tk m' ys k (fresh0 _ (by rw [h1s]; exact Nat.le_succ _)) (fresh0 _ (Nat.le_of_lt lt2)) hDC hns ho hsz' hG (keep0 hk)
  exact codeAny_compStart_list (loop _ rfl) (W.self 0 _ _ _ hst₁ (loop _ rfl))
end

section
variable {prog : Program} {w : World} {A : Around} {E : Value → Shared → Prop} {env : Env} {s : Shared}

/-- an iterator freshly made over the state s -/
def SrcOk (prog : Program) (w : World) (A : Around) (s : Shared) (tup : Bool) (n : Nat) (P : Nat → Value → Prop) (it : Value) (s₂ : Shared) : Prop :=
  ∃ (I : Addr) (oI : Obj) (fp : List Addr) (St : Nat → Heap → Prop), it = .ref I ∧ I = s.heap.objs.size ∧ s₂ = { s with heap := s.heap.push oI } ∧ Walks prog w A I fp [I] n P St ∧ St 0 s₂.heap ∧ (∀ b ∈ fp, b < s₂.heap.objs.size) ∧
    (tup = true → ∀ (target : Expr) i (s' : Shared) v (Q' : Unit → Shared → Prop) (E' : Value → Shared → Prop), St i s'.heap → Q' () s' → wpAny (model prog w) A (letOwnedTupleGo target (.ref I) v) Q' E' s')

theorem srcList {l : Addr} {vs : List Value} (hh : A.handled = none) (hl : s.heap.IsList l vs.toArray) :
    wpAny (model prog w) A (pyIter (.ref l)) (fun it s₂ => SrcOk prog w A s true vs.length (fun i v => vs[i]? = some v) it s₂) E s := by
  obtain ⟨ol, hol, _⟩ := id hl
  have hne : l ≠ s.heap.objs.size := Nat.ne_of_lt (Heap.lt_size hol)
  refine wpAny_pyIter_list hl ?_
  have W := Walks.list (prog := prog) (w := w) hh s.heap.objs.size l hne vs.toArray
  have hlen : vs.toArray.size = vs.length := by simp
  rw [hlen] at W
  have hP : (fun (i : Nat) (v : Value) => vs.toArray[i]? = some v) = fun i v => vs[i]? = some v := by funext i v; simp
  rw [hP] at W
  refine ⟨_, _, _, _, rfl, rfl, rfl, W, ⟨⟨_, Heap.get?_push_size _ rfl, rfl, rfl⟩, hl.at fun o e => Heap.get?_push_of_some _ e⟩, ?_, fun _ target i s' v Q' E' st hQ' => letGo_listiter st.1 hQ'⟩
  intro b hb
  show b < (s.heap.push _).objs.size
  rw [Heap.size_push]
  rcases List.mem_cons.mp hb with rfl | hb
  · exact Nat.lt_succ_self _
  · rw [List.mem_singleton.mp hb]; exact Nat.lt_succ_of_lt (Heap.lt_size hol)
theorem srcTuple {l : Addr} {vs : List Value} (hh : A.handled = none) (hl : s.heap.IsTuple l vs.toArray) :
    wpAny (model prog w) A (pyIter (.ref l)) (fun it s₂ => SrcOk prog w A s false vs.length (fun i v => vs[i]? = some v) it s₂) E s := by
  obtain ⟨ol, hol, _⟩ := id hl
  have hne : l ≠ s.heap.objs.size := Nat.ne_of_lt (Heap.lt_size hol)
  refine wpAny_pyIter_tuple hl ?_
  have W := Walks.tuple (prog := prog) (w := w) hh s.heap.objs.size l hne vs.toArray
  have hlen : vs.toArray.size = vs.length := by simp
  rw [hlen] at W
  have hP : (fun (i : Nat) (v : Value) => vs.toArray[i]? = some v) = fun i v => vs[i]? = some v := by funext i v; simp
  rw [hP] at W
  refine ⟨_, _, _, _, rfl, rfl, rfl, W, ⟨⟨_, Heap.get?_push_size _ rfl, rfl, rfl⟩, hl.at fun o e => Heap.get?_push_of_some _ e⟩, ?_, fun h => nomatch h⟩
  intro b hb
  show b < (s.heap.push _).objs.size
  rw [Heap.size_push]
  rcases List.mem_cons.mp hb with rfl | hb
  · exact Nat.lt_succ_self _
  · rw [List.mem_singleton.mp hb]; exact Nat.lt_succ_of_lt (Heap.lt_size hol)
theorem srcStr {txt : Str} {t : Tok} (hh : A.handled = none) :
    wpAny (model prog w) A (pyIter (.str txt t)) (fun it s₂ => SrcOk prog w A s false txt.cps.size (SignAt txt) it s₂) E s := by
  refine wpAny_pyIter_str fun o St W st => ⟨_, _, _, _, rfl, rfl, rfl, W A hh, st, ?_, fun h => nomatch h⟩
  intro b hb
  show b < (s.heap.push _).objs.size
  rw [Heap.size_push, List.mem_singleton.mp hb]; exact Nat.lt_succ_self _

abbrev Blk (prog : Program) (w : World) (A : Around) (E : Value → Shared → Prop) (env : Env) (scope : Scope) (cl : List (Str × Addr)) (e : Expr) (use : Option (Value → Sem Unit)) (Q : Value → Shared → Prop) (it : Value) (s₂ : Shared) : Prop :=
  wpAny (model prog w) A (newList []) (fun acc s₃ => wpAny (model prog w) A (newFunctionEnv scope env.globals cl [] env.qual none .none (some env)) (fun cenv s₄ =>
    codeAny (model prog w) A (.compStart e 0 it acc { cenv with scope := relabel scope env }) (compPost (model prog w) A E use Q acc cenv.locals) s₄) E s₃) E s₂

theorem evalComp {elt target iter : Expr} {scope : Scope} {cl : List (Str × Addr)} {pos : Pos} {Q : Value → Shared → Prop}
    (hclos : closureFor scope env = pure cl) (hkind : scope.kind = .function) (hnames : ∀ y ∈ scope.names, y.2 = .local → scope.names.lookup y.1 = some .local) (hs : ∀ x, foldedSetIterable iter env x = pure x)
    (h : wpAny (model prog w) A (eval iter env) (fun xv s₁ => wpAny (model prog w) A (pyIter xv) (fun it s₂ => Blk prog w A E env scope cl (.ListComp elt [⟨target, iter, [], 0⟩] scope pos) none Q it s₂) E s₁) E s) :
    wpAny (model prog w) A (eval (.ListComp elt [⟨target, iter, [], 0⟩] scope pos) env) Q E s := by
  rw [eval_ListComp]
  exact wpAny_comprehension_free (use := none) rfl hs hclos hkind hnames h

theorem assignComp {elt target iter : Expr} {y : Str} {py spos : Pos} {scope : Scope} {cl : List (Str × Addr)} {pos : Pos} {Q : Flow → Shared → Prop}
    (hsw : swapsWith (.ListComp elt [⟨target, iter, [], 0⟩] scope pos) (some (.Name y py)) spos.line env = pure true)
    (hclos : closureFor scope env = pure cl) (hkind : scope.kind = .function) (hnames : ∀ y ∈ scope.names, y.2 = .local → scope.names.lookup y.1 = some .local) (hs : ∀ x, foldedSetIterable iter env x = pure x)
    (h : wpAny (model prog w) A (eval iter env) (fun xv s₁ => wpAny (model prog w) A (pyIter xv) (fun it s₂ => Blk prog w A E env scope cl (.ListComp elt [⟨target, iter, [], 0⟩] scope pos) (some (assign (.Name y py) env)) (fun _ s' => Q .next s') it s₂) E s₁) E s) :
    wpAny (model prog w) A (exec (.Assign [.Name y py] (.ListComp elt [⟨target, iter, [], 0⟩] scope pos) spos) env) Q E s := by
  rw [exec_Assign_Name_used _ _ _ _ hsw]
  refine wpAny_bind (wpAny_standAt (wpAny_bind ?_))
  show wpAny _ A (do let _ ← comprehension (.ListComp elt [⟨target, iter, [], 0⟩] scope pos) scope env _ (newList []) false (eval iter env) (some (assign (.Name y py) env))) _ _ s
  exact wpAny_bind (wpAny_mono (wpAny_comprehension_free (use := some (assign (.Name y py) env)) (Q := fun _ s' => Q .next s') rfl hs hclos hkind hnames h) (fun _ s' hq => wpAny_pure (wpAny_pure hq)) fun _ _ e => e)

variable {s₂ : Shared} {it : Value} {tup : Bool} {n : Nat} {P : Nat → Value → Prop} {elt target iter : Expr} {scope : Scope} {cl : List (Str × Addr)} {pos : Pos}

/-- how a target binds -/
def Binds (prog : Program) (w : World) (A : Around) (env : Env) (scope : Scope) (cl : List (Str × Addr)) (target : Expr) (s : Shared) (P : Nat → Value → Prop) (B : Nat → (Str → Option Value) → Prop) : Prop :=
  ∀ C i v (s' : Shared) m' (Q' : Unit → Shared → Prop) (E' : Value → Shared → Prop), P i v → s'.heap.Ns C m' → (∀ b o, s.heap.get? b = some o → s'.heap.get? b = some o) →
      (∀ h' tk m'', h'.Ns C m'' → B i m'' → (∀ b o, b ≠ C → s'.heap.get? b = some o → h'.get? b = some o) → Q' () { s' with heap := h', toks := tk }) →
      wpAny (model prog w) A (assign target (compEnvC scope cl C env) v) Q' E' s'

theorem binds_name {x : Str} {px : Pos} (hx : scope.names.lookup x = some .local) (hkind : scope.kind = .function) : Binds prog w A env scope cl (.Name x px) s P (fun i m => ∃ v, P i v ∧ m x = some v) := by
  intro C i v s' m' Q' E' hP hns _ hq
  refine wpAny_assign_Name (wpAny_storeName_local (env := compEnvC scope cl C env) (lookup_relabel_local hx) hns (fun h' hn' hs' => ?_) (by simp [compEnvC, relabel, hkind]))
  exact hq h' _ _ hn' ⟨v, hP, by simp⟩ fun b o hb e => hs'.extBut b o hb e

theorem blkE {Q : Value → Shared → Prop} (S : SrcOk prog w A s tup n P it s₂) (ht : tup = true ∨ ∀ I v, letOwnedTupleGo target (.ref I) v = pure ()) (G : Nat → Value → Prop) (B : Nat → (Str → Option Value) → Prop) (hb : Binds prog w A env scope cl target s P B)
    (hsz : n ≤ sizeLine) (hcell : ∀ y ∈ scope.names, y.2 ≠ .cell) (hkind : scope.kind = .function)
    (helt : ∀ C i (s₃ : Shared) m₃ (E' : Value → Shared → Prop), i < n → B i m₃ → s₃.heap.Ns C m₃ → (∀ b o, s.heap.get? b = some o → s₃.heap.get? b = some o) → wpAny (model prog w) A (eval elt (compEnvC scope cl C env)) (fun y s₄ => G i y ∧ Keeps s₃ s₄) E' s₃)
    (hfin : ∀ D h' tk ys k, s.heap.get? D = none → h'.get? D = some (listOf ys k) → ys.size = n → (∀ (j : Nat) y, ys[j]? = some y → G j y) → (∀ b o, s.heap.get? b = some o → h'.get? b = some o) → Q (.ref D) { s with heap := h', toks := tk }) :
    Blk prog w A E env scope cl (.ListComp elt [⟨target, iter, [], 0⟩] scope pos) none Q it s₂ := by
  obtain ⟨I, oI, fp, St, rfl, hI, hs₂, W, hst, hfp, hgo⟩ := S
  refine compBlock (RR := fun acc C => compPost (model prog w) A E none Q acc C) G B W hI hs₂ hsz hst hfp hcell hkind ?_ ?_ ?_
  · intro C i v s' m' Q' E' _ hP hst' hns hk hq
    rcases ht with ht | ht
    · exact hgo ht _ _ s' v _ E' hst' (hb C i v s' m' Q' E' hP hns hk hq)
    · exact wpAny_of_eq (ht I v) (hb C i v s' m' Q' E' hP hns hk hq)
  · intro C i s₃ m₃ E' _ hi hB hns hk
    exact helt C i s₃ m₃ E' hi hB hns hk
  · intro D C h' tk m' ys k hD hC hDC hns ho hsz' hG hk
    exact ⟨m', hns, fun h'' hs'' => hfin D h'' tk ys k hD (hs''.extBut D _ hDC ho) hsz' hG fun b o e => hs''.extBut b o (by rintro rfl; rw [hC] at e; cases e) (hk b o e)⟩

theorem blkA {h₀ : Heap} {m : Str → Option Value} {news : List (Addr × Obj)} {y : Str} {py : Pos} {Qn : Shared → Prop} (S : SrcOk prog w A s tup n P it s₂) (ht : tup = true ∨ ∀ I v, letOwnedTupleGo target (.ref I) v = pure ()) (G : Nat → Value → Prop) (B : Nat → (Str → Option Value) → Prop) (hb : Binds prog w A env scope cl target s P B)
    (hsz : n ≤ sizeLine) (hcell : ∀ y ∈ scope.names, y.2 ≠ .cell) (hkind : scope.kind = .function)
    (hy : env.kindOf y = some .local) (hp : (env.scope.kind == .class || (env.scope.kind == .module && env.locals != env.globals)) = false)
    (F : Fr h₀ env.locals s.heap m) (N : News h₀ env.locals s.heap news)
    (helt : ∀ C i (s₃ : Shared) m₃ (E' : Value → Shared → Prop), i < n → B i m₃ → s₃.heap.Ns C m₃ → (∀ b o, s.heap.get? b = some o → s₃.heap.get? b = some o) → wpAny (model prog w) A (eval elt (compEnvC scope cl C env)) (fun y s₄ => G i y ∧ Keeps s₃ s₄) E' s₃)
    (hfin : ∀ D h' tk ys k, Fr h₀ env.locals h' (fun z => if z = y then some (.ref D) else m z) → News h₀ env.locals h' ((D, listOf ys k) :: news) → (∀ p ∈ news, p.1 ≠ D) → ys.size = n → (∀ (j : Nat) y, ys[j]? = some y → G j y) → Qn { s with heap := h', toks := tk }) :
    Blk prog w A E env scope cl (.ListComp elt [⟨target, iter, [], 0⟩] scope pos) (some (assign (.Name y py) env)) (fun _ s' => Qn s') it s₂ := by
  obtain ⟨I, oI, fp, St, rfl, hI, hs₂, W, hst, hfp, hgo⟩ := S
  refine compBlock (RR := fun acc C => compPost (model prog w) A E (some (assign (.Name y py) env)) (fun _ s' => Qn s') acc C) G B W hI hs₂ hsz hst hfp hcell hkind ?_ ?_ ?_
  · intro C i v s' m' Q' E' _ hP hst' hns hk hq
    rcases ht with ht | ht
    · exact hgo ht _ _ s' v _ E' hst' (hb C i v s' m' Q' E' hP hns hk hq)
    · exact wpAny_of_eq (ht I v) (hb C i v s' m' Q' E' hP hns hk hq)
  · intro C i s₃ m₃ E' _ hi hB hns hk
    exact helt C i s₃ m₃ E' hi hB hns hk
  · intro D C h' tk m' ys k hD hC hDC hns ho hsz' hG hk
    have F' := frGrow F hk
    have N' := newsCons F N hk hD ho
    have hLC : env.locals ≠ C := by rintro rfl; obtain ⟨o, _, _, ho', _⟩ := F.ns; rw [hC] at ho'; cases ho'
    have hnD : ∀ p ∈ news, p.1 ≠ D := fun p hp e => by have := (N p hp).1; rw [e, hD] at this; cases this
    show wpAny _ A (assign (.Name y py) env (.ref D)) _ _ _
    refine wpAny_assign_Name (wpAny_storeName_local hy F'.ns (fun h₂ hn₂ hs₂' => ?_) hp)
    refine ⟨m', hns.sameBut hs₂' (Ne.symm hLC), fun h₃ hs₃ => ?_⟩
    have F₂ := F'.set hn₂ hs₂'
    have N₂ := N'.set hs₂'
    have hC0 : h₀.get? C = none := by
      cases e : h₀.get? C with
      | none => rfl
      | some o => have := F.keep _ _ e; rw [hC] at this; cases this
    have F₃ : Fr h₀ env.locals h₃ _ := ⟨F₂.ns.sameBut hs₃ hLC, fun b o e => hs₃.extBut b o (by rintro rfl; rw [hC0] at e; cases e) (F₂.keep b o e), F₂.above⟩
    refine hfin D h₃ _ ys k F₃ (fun p hp => ⟨hs₃.extBut _ _ ?_ (N₂ p hp).1, (N₂ p hp).2⟩) hnD hsz' hG
    rcases List.mem_cons.mp hp with rfl | hp
    · exact hDC
    · intro e; have := (N p hp).1; rw [e, hC] at this; cases this
end
end Mine

namespace Mine

def RoundsTo (x : UInt64) (n : Int) : Prop := ∃ sg m e, Float64.decode x = .fin sg m e ∧ Float64.nearestOf sg m e = n
theorem RoundsTo.inj {x : UInt64} {n n' : Int} (h : RoundsTo x n) (h' : RoundsTo x n') : n = n' := by
  obtain ⟨sg, m, e, hd, rfl⟩ := h
  obtain ⟨sg', m', e', hd', rfl⟩ := h'
  rw [hd] at hd'; cases hd'; rfl

section
variable {prog : Program} {w : World} {A : Around} {E : Value → Shared → Prop} {s : Shared}
theorem round_rule {x : UInt64} {n : Int} {t : Tok} {Q : Value → Shared → Prop} (hx : RoundsTo x n) (hA : A.handled = none) (h : Q (.int n s.toks) { s with toks := s.toks + 1 }) :
    wpAny (model prog w) A (call (.builtin "round") [.float x t]) Q E s := by
  obtain ⟨sg, m, e, hd, rfl⟩ := hx
  refine PySem.Flt.call_round_float hA (fun c => ?_) (fun c => ?_) fun _ => ?_
  · unfold Float64.isNaN at c; rw [hd] at c; cases c
  · unfold Float64.isInf at c; rw [hd] at c; cases c
  · rw [PySem.Flt.toInt_fin hd]; exact h

end
def IntAt (ns : List Int) (j : Nat) (y : Value) : Prop := ∃ n t, ns[j]? = some n ∧ y = .int n t
def StrAt (ss : List Str) (j : Nat) (y : Value) : Prop := ∃ x t, ss[j]? = some x ∧ y = .str x t
theorem intsAre_of {ys : Array Value} {ns : List Int} (hs : ys.size = ns.length) (h : ∀ (j : Nat) y, ys[j]? = some y → IntAt ns j y) : IntsAre ys.toList ns := by
  obtain ⟨l⟩ := ys
  simp only [List.size_toArray] at hs
  have h' : ∀ (j : Nat) y, l[j]? = some y → IntAt ns j y := fun j y e => h j y (by simpa using e)
  clear h
  induction l generalizing ns with
  | nil => cases ns with
    | nil => exact .nil
    | cons _ _ => simp at hs
  | cons v r ih =>
    cases ns with
    | nil => simp at hs
    | cons n ns =>
      obtain ⟨n', t, e, rfl⟩ := h' 0 v rfl
      have : n = n' := by simpa using e
      subst this
      exact .cons _ _ (ih (by simpa using hs) fun j y e => h' (j + 1) y e)
theorem strsAre_of {ys : Array Value} {ns : List Str} (hs : ys.size = ns.length) (h : ∀ (j : Nat) y, ys[j]? = some y → StrAt ns j y) : StrsAre ys.toList ns := by
  obtain ⟨l⟩ := ys
  simp only [List.size_toArray] at hs
  have h' : ∀ (j : Nat) y, l[j]? = some y → StrAt ns j y := fun j y e => h j y (by simpa using e)
  clear h
  induction l generalizing ns with
  | nil => cases ns with
    | nil => exact .nil
    | cons _ _ => simp at hs
  | cons v r ih =>
    cases ns with
    | nil => simp at hs
    | cons n ns =>
      obtain ⟨n', t, e, rfl⟩ := h' 0 v rfl
      have : n = n' := by simpa using e
      subst this
      exact .cons _ _ (ih (by simpa using hs) fun j y e => h' (j + 1) y e)

theorem strsAre_values {vs : List Value} {ts : List Str} (h : StrsAre vs ts) : ∃ l : List (Str × Tok), vs = strValues l ∧ l.map (·.1) = ts := by
  induction h with
  | nil => exact ⟨[], rfl, rfl⟩
  | cons y t _ ih =>
    obtain ⟨l, e1, e2⟩ := ih
    exact ⟨(y, t) :: l, by rw [e1]; rfl, by rw [← e2]; rfl⟩
section
variable {prog : Program} {w : World} {A : Around} {E : Value → Shared → Prop} {s : Shared}
theorem join_rule {sep : Str} {t : Tok} {texts : List Str} {D : Addr} {us : Array Value} {k : Nat} {Q : Value → Shared → Prop} (hl : s.heap.get? D = some (listOf us k)) (hs : StrsAre us.toList texts)
    (hW : (texts.map (·.length)).sum + texts.length ≤ 1048576) (hsep : sep.length ≤ 16)
    (h : ∀ t' k, Q (.str (Txt.join sep texts) t') { s with toks := k }) : wpAny (model prog w) A (call (.builtin "str.join") [.str sep t, .ref D]) Q E s := by
  obtain ⟨l, e1, e2⟩ := strsAre_values hs
  exact SC.join (l := l) (by rw [← e1]; exact listAt hl) e2 (joinOk_of_weight hW hsep) h
theorem join_rule2 {sep : Str} {t : Tok} {texts : List Str} {D : Addr} {us : List Value} {Q : Value → Shared → Prop} (hl : s.heap.IsList D us.toArray) (hs : StrsAre us texts)
    (hW : (texts.map (·.length)).sum + texts.length ≤ 1048576) (hsep : sep.length ≤ 16)
    (h : ∀ t' k, Q (.str (Txt.join sep texts) t') { s with toks := k }) : wpAny (model prog w) A (call (.builtin "str.join") [.str sep t, .ref D]) Q E s := by
  obtain ⟨l, e1, e2⟩ := strsAre_values hs
  exact SC.join (l := l) (by rw [← e1]; exact hl) e2 (joinOk_of_weight hW hsep) h
end

def ninth (r : Int) : UInt64 := Float64.ofFrac (decide (r < 0) != decide ((9 : Int) < 0)) r.natAbs (9 : Int).natAbs
theorem ninth_fin {r : Int} (h : 0 ≤ r ∧ r ≤ 9) : ¬ Float64.isInf (Float64.ofFrac (decide (r < 0) != decide ((9 : Int) < 0)) r.natAbs (9 : Int).natAbs) = true := by
  have : r = 0 ∨ r = 1 ∨ r = 2 ∨ r = 3 ∨ r = 4 ∨ r = 5 ∨ r = 6 ∨ r = 7 ∨ r = 8 ∨ r = 9 := by omega
  rcases this with rfl | rfl | rfl | rfl | rfl | rfl | rfl | rfl | rfl | rfl
  all_goals decide +kernel
def numStr (n : Int) : Str := Str.ofString (toString n)
theorem log_small {n : Int} (h : n.natAbs < 2 ^ 30) : n.natAbs.log2 < 1920 := by
  by_cases h0 : n.natAbs = 0
  · rw [h0]; decide
  · exact (Nat.log2_lt h0).mpr (Nat.lt_trans h (Nat.pow_lt_pow_right (by decide) (by decide)))
def times (k : Int) (x : UInt64) : UInt64 := Float64.mul (Float64.ofInt k) x

theorem numStr_len {n : Int} (h : n.natAbs < 2 ^ 30) : (numStr n).length ≤ 11 := by
  unfold numStr
  rw [ofString_len]
  exact int_text_length_le10 (k := 10) (by decide) (Nat.lt_trans h (by decide))
theorem join4 (sep a b c d : Str) : Txt.join sep [a, b, c, d] = a ++ sep ++ (b ++ sep ++ (c ++ sep ++ d)) := by
  rw [eq_of_beq (join_plain_closes sep [a, b, c, d])]; rfl
theorem empty_is : Str.ofString "" = ⟨#[]⟩ := by decide +kernel
theorem joinNil (l : List Str) : Txt.join (Str.ofString "") l = Str.join ⟨#[]⟩ l := by
  rw [eq_of_beq (join_plain_closes (Str.ofString "") l), empty_is]
theorem joinNil_cps (l : List Str) : (Txt.join (Str.ofString "") l).cps.toList = l.flatMap (fun x => x.cps.toList) := by
  rw [joinNil]
  induction l with
  | nil => rfl
  | cons x r ih => rw [PyProof.Rows.join_nil_cons, Str.cps_append, Array.toList_append, ih]; rfl
theorem joinNil_len (l : List Str) : (Txt.join (Str.ofString "") l).length = (l.map (·.length)).sum := by
  have h := joinNil_cps l
  have e : (Txt.join (Str.ofString "") l).length = (Txt.join (Str.ofString "") l).cps.toList.length := by simp [Str.length]
  rw [e, h, List.length_flatMap]
  congr 1
def bodyText (sep : Str) (ns : List Int) : Str := Txt.join sep (ns.map numStr)
def escaped (x : Str) : List Str := x.cps.toList.map fun c => Str.ofString "\\" ++ one c
def wayText (ns : List Int) (way : Int) : Str :=
  if way = 1 then Txt.join (Str.ofString "") (escaped (bodyText (Str.ofString ",") ns))
  else if way = 2 then Str.ofString " " ++ bodyText (Str.ofString "\t, ") ns ++ Str.ofString " "
  else if way = 3 then bodyText (Str.ofString ",") ns ++ Str.ofString ","
  else bodyText (Str.ofString ",") ns
def itemText (name : Str) (ns : List Int) (way : Int) : Str := name ++ Str.ofString "=\"" ++ wayText ns way ++ Str.ofString "\""

set_option maxRecDepth 100000 in
set_option maxHeartbeats 4000000 in
theorem call_item {prog : Program} {w : World} {A : Around} {s : Shared} {f c : Addr} {pm cd doc : Value} {mg mb : Str → Option Value} {R : Result → Shared → Prop} {name : Str} {r g b parts way : Int} {t1 t2 t3 u1 u2 u3 : Tok} {n1 n2 n3 : Int}
    (hroom : A.depth + 2 < recursionLimit) (hh : A.handled = none) (X : FnIs 8 f pm cd doc s.heap) (H : Home mg mb s.heap)
    (hc : s.heap.get? c = some (tupOf #[.int r u1, .int g u2, .int b u3]))
    (hr : 0 ≤ r ∧ r ≤ 9) (hg : 0 ≤ g ∧ g ≤ 9) (hb : 0 ≤ b ∧ b ≤ 9)
    (hw : 0 ≤ way ∧ way ≤ 3) (hsm : ∀ n ∈ [n1, n2, n3, parts], n.natAbs < 2 ^ 30) (hname : name.length ≤ 10)
    (hn1 : RoundsTo (times 90000 (yiqY (ninth r) (ninth g) (ninth b))) n1)
    (hn2 : RoundsTo (times 90000 (yiqI (ninth r) (ninth b) (yiqY (ninth r) (ninth g) (ninth b)))) n2)
    (hn3 : RoundsTo (times 90000 (yiqQ (ninth r) (ninth b) (yiqY (ninth r) (ninth g) (ninth b)))) n3)
    (h : ∀ t' h' tk, (∀ b o, s.heap.get? b = some o → h'.get? b = some o) → R (.ok (.ret (.str (itemText name [n1, n2, n3, parts] way) t'))) { s with heap := h', toks := tk }) :
    codeAny (model prog w) A (.call (.ref f) ⟨[.str name t1, .ref c, .int parts t2, .int way t3], []⟩) R s := by
  obtain ⟨o, ho, hdata⟩ := X.get
  refine call_plain_ret (by omega) ho hdata X.lim X.code (binds := [("name", .str name t1), ("colour", .ref c), ("parts", .int parts t2), ("way", .int way t3)]) (by rfl) (locs rfl) ?_
  intro h₁ F
  have N : News s.heap s.heap.objs.size h₁ [] := News.nil
  conv =>
    arg 3
    arg 1
    whnf
  walk1
  refine assignComp (cl := []) (by rfl) (by rfl) (by rfl) (by decide) (fun _ => rfl) ?_
  have H1 : Home mg mb h₁ := H.keeps F.keep
  refine Call_ (nameFn H1 1 (by decide) (by rfl) (fun fy py cy dy Xy => ?_) rfl rfl rfl (by decide))
  refine callFn Xy ?_ rfl
  have hc1 : IsTup h₁ c #[.int r u1, .int g u2, .int b u3] := ⟨_, F.keep _ _ hc, rfl, 0, rfl⟩
  have e9 : ¬ ((9 : Int) == 0) = true := by decide
  repeat ((fail_if_success (with_reducible show wpAny _ _ (subscriptTail _ _ _ _) _ _ _)); walk1)
  refine item_tupleT (l := [.int r u1, .int g u2, .int b u3]) (j := 0) hc1 (by decide) (by decide) rfl rfl ?_
  walk1
  refine PySem.AutoIntOps.truediv_2 e9 (ninth_fin hr) ?_
  show wpAny _ _ _ _ _ _
  repeat ((fail_if_success (with_reducible show wpAny _ _ (subscriptTail _ _ _ _) _ _ _)); walk1)
  refine item_tupleT (l := [.int r u1, .int g u2, .int b u3]) (j := 1) hc1 (by decide) (by decide) rfl rfl ?_
  walk1
  refine PySem.AutoIntOps.truediv_2 e9 (ninth_fin hg) ?_
  show wpAny _ _ _ _ _ _
  repeat ((fail_if_success (with_reducible show wpAny _ _ (subscriptTail _ _ _ _) _ _ _)); walk1)
  refine item_tupleT (l := [.int r u1, .int g u2, .int b u3]) (j := 2) hc1 (by decide) (by decide) rfl rfl ?_
  walk1
  refine PySem.AutoIntOps.truediv_2 e9 (ninth_fin hb) ?_
  show wpAny _ _ _ _ _ _
  walk1
  refine ⟨fun _ _ e => e, ?_⟩
  refine wpAny_call (call_toYiq ?_ Xy fun a2 h2 tk2 ha2 T2 hk2 => ?_)
  · show A.depth + 1 < recursionLimit; omega
  dsimp only
  obtain ⟨v1, v2, v3, nT2, hT2⟩ := T2
  have F2 := frGrow F hk2
  have N2 := newsGrow N hk2
  clear F N
  refine wpAny_mono (srcTuple (vs := [.float _ v1, .float _ v2, .float _ v3]) hh ⟨_, hT2, rfl, nT2, rfl⟩) (fun it s₃ S => ?_) fun _ _ e => e
  refine blkA S (.inr fun _ _ => rfl) (IntAt [n1, n2, n3]) _ (binds_name rfl rfl) (by rw [sizeLine_eq]; simp) (by decide) rfl rfl rfl F2 N2 ?_ ?_
  · rintro C i s₄ m₄ E' hi ⟨v, hv, hm⟩ hns hk
    have H4 : Home mg mb s₄.heap := H.keeps fun b o e => hk b o (F2.keep b o e)
    have : ∃ y t n, v = .float y t ∧ RoundsTo (times 90000 y) n ∧ [n1, n2, n3][i]? = some n := by
      match i with
      | 0 => exact ⟨_, _, _, (Option.some.inj hv).symm, hn1, rfl⟩
      | 1 => exact ⟨_, _, _, (Option.some.inj hv).symm, hn2, rfl⟩
      | 2 => exact ⟨_, _, _, (Option.some.inj hv).symm, hn3, rfl⟩
      | i + 3 => simp at hv
    obtain ⟨y, t', n, rfl, hrn, hin⟩ := this
    refine Call_ (nameB H4 (by decide) (by decide) boot_round ?_ rfl rfl rfl rfl (by decide))
    refine PyProof.Rows.callWith_builtin1 (args_cons (wpAny_BinOp (wpAny_Constant_int (wpAny_Name (wpAny_loadName_local rfl rfl hns hm ?_) (by decide)))))
    refine PySem.AutoFloatOps.mul_if_1 (by decide +kernel) ?_
    refine args_nil (round_rule hrn hh ⟨⟨n, _, hin, rfl⟩, ⟨s₄.heap, _, rfl, fun _ _ e => e⟩⟩)
  intro D5 h5 tk5 ys k5 F5 N5 _ hys hG
  have hints : IntsAre ys.toList [n1, n2, n3] := intsAre_of hys hG
  clear F2 N2
  dsimp only
  walk1
  refine assignComp (cl := []) (by rfl) (by rfl) (by rfl) (by decide) (fun _ => rfl) ?_
  repeat ((fail_if_success (with_reducible show wpAny _ _ (newList _) _ _ _)); walk1)
  refine newList_D (by assumption) (by assumption) fun D6 h6 _ F6 N6 => ?_
  refine addLists_D (vs := ys.toList) (ws := [.int parts t2]) F6 N6 ?_ ?_ (fun D7 h7 _ F7 N7 => ?_) ?_
  · exact listAt (N6 _ (.tail _ (.head _))).1
  · exact ⟨_, (N6 _ (.head _)).1, rfl, 0, rfl⟩
  rotate_left
  · rw [sizeLine_eq, IntsAre.length hints]; simp
  have hints4 : IntsAre (ys.toList ++ [.int parts t2]) [n1, n2, n3, parts] := IntsAre.append hints (.cons _ _ .nil)
  refine wpAny_mono (srcList (vs := ys.toList ++ [.int parts t2]) hh ⟨_, (N7 _ (.head _)).1, rfl, 0, rfl⟩) (fun it s₃ S => ?_) fun _ _ e => e
  refine blkA S (.inr fun _ _ => rfl) (StrAt ([n1, n2, n3, parts].map numStr)) _ (binds_name rfl rfl) (by rw [sizeLine_eq, IntsAre.length hints4]; simp) (by decide) rfl rfl rfl F7 N7 ?_ ?_
  · rintro C i s₄ m₄ E' hi ⟨v, hv, hm⟩ hns hk
    have H4 : Home mg mb s₄.heap := H.keeps fun b o e => hk b o (F7.keep b o e)
    obtain ⟨n, t, rfl, hin⟩ := intsAre_at hints4 hv
    refine Call_ (nameB H4 (by decide) (by decide) boot_str ?_ rfl rfl rfl rfl (by decide))
    refine PyProof.Rows.callWith_type1 (args_cons (wpAny_Name (wpAny_loadName_local rfl rfl hns hm ?_) (by decide)))
    refine args_nil (P.str_of_int (log_small (hsm n (List.mem_of_getElem? hin))) ⟨⟨numStr n, _, ?_, rfl⟩, ⟨s₄.heap, _, rfl, fun _ _ e => e⟩⟩)
    rw [List.getElem?_map, hin]; rfl
  intro D8 h8 tk8 ws k8 F8 N8 _ hws hG8
  have hstrs : StrsAre ws.toList ([n1, n2, n3, parts].map numStr) := strsAre_of (by rw [hws, IntsAre.length hints4]; rfl) hG8
  clear F5 N5 F6 N6 F7 N7
  dsimp only
  have hl1 := numStr_len (hsm n1 (by simp))
  have hl2 := numStr_len (hsm n2 (by simp))
  have hl3 := numStr_len (hsm n3 (by simp))
  have hl4 := numStr_len (hsm parts (by simp))
  have hW : (([n1, n2, n3, parts].map numStr).map (·.length)).sum + ([n1, n2, n3, parts].map numStr).length ≤ 1048576 := by
    simp only [List.map_cons, List.map_nil, List.sum_cons, List.sum_nil, List.length_cons, List.length_nil]; omega
  have hbl : ∀ sep : Str, sep.length ≤ 10 → (Txt.join sep ([n1, n2, n3, parts].map numStr)).length ≤ 80 := fun sep hs => by
    simp only [List.map_cons, List.map_nil]
    rw [join4]
    simp only [Str.length_append]; omega
  have hbl1 := hbl (Str.ofString ",") (by decide)
  have hbl2 := hbl (Str.ofString "\t, ") (by decide)
  repeat ((fail_if_success (with_reducible show wpAny _ _ (call _ _) _ _ _)); walk1)
  refine join_rule (N8 _ (.head _)).1 hstrs hW (by decide) fun t9 tk9 => ?_
  generalize hbase : Txt.join (Str.ofString ",") ([n1, n2, n3, parts].map numStr) = base at *
  have hways : way = 0 ∨ way = 1 ∨ way = 2 ∨ way = 3 := by omega
  rcases hways with rfl | rfl | rfl | rfl
  · have e : itemText name [n1, n2, n3, parts] 0 = name ++ Str.ofString "=\"" ++ base ++ Str.ofString "\"" := by rw [← hbase]; rfl
    rw [e] at h
    repeat ((fail_if_success (with_reducible show wpAny _ _ (call _ _) _ _ _)); walk1)
    rename Fr _ _ _ _ => F9
    exact h _ _ _ F9.keep
  · repeat ((fail_if_success (with_reducible show wpAny _ _ (call _ _) _ _ _)); (fail_if_success (with_reducible show wpAny _ _ (eval (Expr.ListComp _ _ _ _) _) _ _ _)); walk1)
    rename Fr _ _ _ _ => F9
    rename News _ _ _ _ => N9
    refine evalComp (cl := []) (by rfl) (by rfl) (by decide) (fun _ => rfl) ?_
    walk1
    refine wpAny_mono (srcStr hh) (fun it s₃ S => ?_) fun _ _ e => e
    have hbc : base.cps.size = base.length := rfl
    refine blkE S (.inr fun _ _ => rfl) (StrAt (escaped base)) _ (binds_name rfl rfl) (by rw [sizeLine_eq]; omega) (by decide) rfl ?_ ?_
    · rintro C i s₄ m₄ E' hi ⟨v, ⟨ch, u, hch, rfl⟩, hm⟩ hns hk
      refine wpAny_BinOp (Calls.Constant_str (wpAny_Name (wpAny_loadName_local rfl rfl hns hm ?_) (by decide)))
      refine PyProof.Rows.add_str (fun t' tk => ⟨⟨_, t', ?_, rfl⟩, ⟨s₄.heap, _, rfl, fun _ _ e => e⟩⟩) (by rw [sizeLine_eq]; show (Str.ofString "\\").length + 1 ≤ _; decide)
      unfold escaped
      rw [List.getElem?_map, Array.getElem?_toList, hch]; rfl
    intro D10 h10 tk10 zs k10 hD10 ho10 hzs hG10 hk10
    have hzstr : StrsAre zs.toList (escaped base) := strsAre_of (by rw [hzs]; unfold escaped; simp) hG10
    have F10 := frGrow F9 hk10
    have N10 := newsCons F9 N9 hk10 hD10 ho10
    clear F9 N9 F8 N8
    have hel : (escaped base).length = base.length := by unfold escaped; simp [Str.length]
    have hes : ((escaped base).map (·.length)).sum = 2 * base.length := by
      unfold escaped
      rw [List.map_map, ← hbc, ← Array.length_toList]
      generalize base.cps.toList = l
      induction l with
      | nil => rfl
      | cons c r ih => simp only [List.map_cons, List.sum_cons, List.length_cons, ih, Function.comp]; rw [Str.length_append, show (Str.ofString "\\").length = 1 from rfl, show (one c).length = 1 from rfl]; omega
    repeat ((fail_if_success (with_reducible show wpAny _ _ (call _ _) _ _ _)); walk1)
    refine join_rule ho10 hzstr (by omega) (by decide) fun t11 tk11 => ?_
    have hjl : (Txt.join (Str.ofString "") (escaped base)).length ≤ 160 := by rw [joinNil_len, hes]; omega
    have e : itemText name [n1, n2, n3, parts] 1 = name ++ Str.ofString "=\"" ++ Txt.join (Str.ofString "") (escaped base) ++ Str.ofString "\"" := by rw [← hbase]; rfl
    rw [e] at h
    generalize Txt.join (Str.ofString "") (escaped base) = esc at *
    repeat ((fail_if_success (with_reducible show wpAny _ _ (call _ _) _ _ _)); walk1)
    rename Fr _ _ _ _ => F12
    exact h _ _ _ F12.keep
  · repeat ((fail_if_success (with_reducible show wpAny _ _ (call _ _) _ _ _)); walk1)
    rename Fr _ _ _ _ => F9
    rename News _ _ _ _ => N9
    refine join_rule (N9 _ (.head _)).1 hstrs hW (by decide) fun t10 tk10 => ?_
    have e : itemText name [n1, n2, n3, parts] 2 = name ++ Str.ofString "=\"" ++ (Str.ofString " " ++ Txt.join (Str.ofString "\t, ") ([n1, n2, n3, parts].map numStr) ++ Str.ofString " ") ++ Str.ofString "\"" := by rfl
    rw [e] at h
    generalize Txt.join (Str.ofString "\t, ") ([n1, n2, n3, parts].map numStr) = wide at *
    repeat ((fail_if_success (with_reducible show wpAny _ _ (call _ _) _ _ _)); walk1)
    rename Fr _ _ _ _ => F12
    exact h _ _ _ F12.keep
  · have e : itemText name [n1, n2, n3, parts] 3 = name ++ Str.ofString "=\"" ++ (base ++ Str.ofString ",") ++ Str.ofString "\"" := by rw [← hbase]; rfl
    rw [e] at h
    repeat ((fail_if_success (with_reducible show wpAny _ _ (call _ _) _ _ _)); walk1)
    rename Fr _ _ _ _ => F9
    exact h _ _ _ F9.keep
end Mine

namespace Mine

section
variable {M : Model} {A : Around} {E : Value → Shared → Prop} {s : Shared} {h₀ : Heap} {L a : Addr} {m : Str → Option Value} {name : Str} {scope : Scope} {cd : Value} {x : Str} {news rest : List (Addr × Obj)} {c : Addr} {o : Obj}
/-- a cell of the frame's, read -/
theorem cellLd {pos : Pos} {v : Value} {Q : Value → Shared → Prop} (N : News h₀ L s.heap news) (hm : (c, o) ∈ news) (hd : o.data = .cell (some v)) (h : Q v s)
    (hc : (envOfC name scope L a cd).cells.lookup x = some c) (hk : scope.kind = .function) (hx : (envOfC name scope L a cd).kindOf x = some .cell) (hb : (x == ("__debug__" : Str)) = false) :
    wpAny M A (eval (.Name x pos) (envOfC name scope L a cd)) Q E s := wpAny_Name (wpAny_loadName_cell hk hx hc ⟨o, N.get hm, hd⟩ h) hb
/-- a cell of the frame's at the ledger's head, stored -/
theorem cellSt {v : Value} {v₀ : Option Value} {Q : Unit → Shared → Prop} (F : Fr h₀ L s.heap m) (N : News h₀ L s.heap ((c, o) :: rest)) (hap : ∀ p ∈ rest, p.1 ≠ c) (hd : o.data = .cell v₀)
    (h : ∀ h' o', Fr h₀ L h' m → News h₀ L h' ((c, o') :: rest) → o'.data = .cell (some v) → Q () { s with heap := h' })
    (hc : (envOfC name scope L a cd).cells.lookup x = some c) (hk : scope.kind = .function) (hx : (envOfC name scope L a cd).kindOf x = some .cell) :
    wpAny M A (storeName (envOfC name scope L a cd) x v) Q E s := by
  have hmem := N (c, o) (.head _)
  refine wpAny_storeName_cell hk hx hc ⟨o, hmem.1, hd⟩ fun h' hv hs => ?_
  obtain ⟨o', ho', hd'⟩ := hv
  exact h h' o' (F.change hs hmem.2.1 hmem.2.2) (N.setHead hap hs ho') hd'
end

section
variable {prog : Program} {w : World} {A : Around} {E : Value → Shared → Prop} {s : Shared} {env : Env} {h₀ : Heap} {x : Str} {body : List Stmt} {Q : Flow → Shared → Prop}
theorem dictAt_of {h : Heap} {d : Addr} {o : Obj} {kvs : List (Str × Value)} (ho : h.get? d = some o) (hd : o.IsDictOf (PySem.strKind prog w) kvs) : ∃ ep, h.DictAt (PySem.strKind prog w) d kvs ep :=
  (Heap.dictOf_iff.mpr ⟨o, ho, hd⟩ : h.DictOf (PySem.strKind prog w) d kvs).dictAt

/-- a loop over a dict's values -/
theorem iterVals {v d : Addr} {o : Obj} {kvs : List (Str × Value)} {m₀ : Str → Option Value} {news : List (Addr × Obj)} (J : Nat → (Str → Option Value) → List (Addr × Obj) → Prop) (hh : A.handled = none)
    (hv : s.heap.IsValuesView v d) (ho : s.heap.get? d = some o) (hd : o.IsDictOf (PySem.strKind prog w) kvs) (hdL : d ≠ env.locals) (hdn : ∀ p ∈ news, p.1 ≠ d)
    (F : Fr h₀ env.locals s.heap m₀) (N : News h₀ env.locals s.heap news) (hj : J 0 m₀ news)
    (turn : ∀ i k v m₁ nx h tk own, kvs[i]? = some (k, v) → OwnOff own (nx.map (·.1)) → J i m₁ nx → Fr h₀ env.locals h (fun y => if y = x then some v else m₁ y) → News h₀ env.locals h (nx ++ own) →
      wpAny (model prog w) A (execs body env) (InvPostG h₀ env.locals (J (i + 1)) own { s with heap := h, toks := tk } Q) E { s with heap := h, toks := tk })
    (done : ∀ m₁ nx h tk, J kvs.length m₁ nx → Fr h₀ env.locals h m₁ → News h₀ env.locals h nx → Q .next { s with heap := h, toks := tk }) :
    wpAny (model prog w) A (pyIter (.ref v)) (fun it s₂ => LoopAtV prog w A h₀ env x body Q E it s₂) E s := by
  obtain ⟨ep, hD⟩ := dictAt_of ho hd
  have hne : d ≠ s.heap.objs.size := Nat.ne_of_lt (Heap.lt_size ho)
  refine wpAny_pyIter_values hv hD ?_
  have W := Walks.dictValues (prog := prog) (w := w) (knd := PySem.strKind prog w) hh s.heap.objs.size d hne kvs ep
  refine loopV J W ?_ (fun hm => ?_) (fun b hb => ?_) (fun p hp hm => ?_) ⟨⟨_, Heap.get?_push_size _ rfl, rfl, rfl⟩, hD.at' fun o e => Heap.get?_push_of_some _ e⟩ (F.push _) (fun p hp => ⟨Heap.get?_push_of_some _ (N p hp).1, (N p hp).2⟩) hj ?_ done
  · rintro i h ⟨⟨o1, ho1, _⟩, ⟨o2, es, ho2, _⟩⟩ b hb
    rcases List.mem_cons.mp hb with rfl | hb
    · exact ⟨o1, ho1⟩
    · exact ⟨o2, (List.mem_singleton.mp hb) ▸ ho2⟩
  · rcases List.mem_cons.mp hm with e | hm
    · exact absurd F.ns.lt (e ▸ Nat.lt_irrefl _)
    · exact hdL (List.mem_singleton.mp hm).symm
  · rw [List.mem_singleton.mp hb]; exact next_is_new F
  · rcases List.mem_cons.mp hm with e | hm
    · exact absurd (Heap.lt_size (N p hp).1) (e ▸ Nat.lt_irrefl _)
    · exact hdn p hp (List.mem_singleton.mp hm)
  · rintro i v m₁ nx h tk own _ ⟨k, hk⟩ a b d e
    exact turn i k v m₁ nx h tk own hk a b d e

theorem valuesOf {L d : Addr} {o : Obj} {kvs : List (Str × Value)} {m : Str → Option Value} {news : List (Addr × Obj)} {Q : Value → Shared → Prop} (lo : (d == sysModules) = false) (F : Fr h₀ L s.heap m) (N : News h₀ L s.heap news) (ho : s.heap.get? d = some o) (hd : o.IsDictOf (PySem.strKind prog w) kvs)
    (h : ∀ V h', h'.IsValuesView V d → (∀ b o, s.heap.get? b = some o → h'.get? b = some o) → Fr h₀ L h' m → News h₀ L h' news → Q (.ref V) { s with heap := h' }) :
    wpAny (model prog w) A (call (.builtin "dict.values") [.ref d]) Q E s := by
  have hD : s.heap.DictOf (PySem.strKind prog w) d kvs := Heap.dictOf_iff.mpr ⟨o, ho, hd⟩
  exact call_meetsIn PySem.F.slot_dict_values hD.typeIs PySem.F.entry_dict_values (PySem.F.args_dict_values_1 _) (meets_dict_values (PySem.strKind prog w) d lo)
    ⟨⟨kvs, hD⟩, h _ _ ⟨_, Heap.get?_push_size _ rfl, rfl, rfl⟩ (fun b o e => Heap.get?_push_of_some _ e) (F.push _) fun p hp => ⟨Heap.get?_push_of_some _ (N p hp).1, (N p hp).2⟩⟩
theorem getValues {d : Addr} {o : Obj} {kvs : List (Str × Value)} {pl : Sem Bool} {Q : Value × List Value → Shared → Prop} (ho : s.heap.get? d = some o) (hd : o.IsDictOf (PySem.strKind prog w) kvs)
    (h : Q (.builtin "dict.values", [.ref d]) s) : wpAny (model prog w) A (getMethod (.ref d) "values" pl) Q E s := by
  have hD : s.heap.DictOf (PySem.strKind prog w) d kvs := Heap.dictOf_iff.mpr ⟨o, ho, hd⟩
  exact getMethod_builtin hD.typeIs PySem.F.plainAttrs_dict PySem.F.slot_dict_values PySem.F.type_dict_values hD.mapOf.noDict h
end
theorem home_low {mg mb : Str → Option Value} {h : Heap} (H : Home mg mb h) : 3 < h.objs.size := by
  have := H.g.lt
  exact this
end Mine

namespace Mine


abbrev Quad := Int × Int × Int × Int
def mixStep (a q : Quad) : Quad := (a.1 + q.2.2.2 * q.1, a.2.1 + q.2.2.2 * q.2.1, a.2.2.1 + q.2.2.2 * q.2.2.1, a.2.2.2 + q.2.2.2)
def mixSum (qs : List Quad) : Quad := qs.foldl mixStep (0, 0, 0, 0)
theorem mixSum_snoc (qs : List Quad) (q : Quad) : mixSum (qs ++ [q]) = mixStep (mixSum qs) q := by unfold mixSum; rw [List.foldl_append]; rfl
structure QuadIs (t : Str) (q : Quad) : Prop where
  len : t.length ≤ 100000
  parse : ∃ w1 w2 w3 w4, httpParse t = [w1, w2, w3, w4] ∧ (w1.length ≤ 640 ∧ PySem.intText? w1 = some q.1) ∧ (w2.length ≤ 640 ∧ PySem.intText? w2 = some q.2.1) ∧ (w3.length ≤ 640 ∧ PySem.intText? w3 = some q.2.2.1) ∧ (w4.length ≤ 640 ∧ PySem.intText? w4 = some q.2.2.2)
  low : 0 ≤ q.2.2.2
  high : q.2.2.2 ≤ 9
theorem four_of {l : List Value} {a b c d : Int} (h : IntsAre l [a, b, c, d]) : ∃ t1 t2 t3 t4, l = [.int a t1, .int b t2, .int c t3, .int d t4] := by
  cases h with | cons _ t1 h => cases h with | cons _ t2 h => cases h with | cons _ t3 h => cases h with | cons _ t4 h => cases h; exact ⟨t1, t2, t3, t4, rfl⟩
def quot (a b : Int) : UInt64 := Float64.ofFrac (decide (a < 0) != decide (b < 0)) a.natAbs b.natAbs
def MixJ (c : Addr) (qs : List Quad) (i : Nat) (m : Str → Option Value) (news : List (Addr × Obj)) : Prop :=
  ∃ t1 t2 t3 t4 oc, m "luma" = some (.int (mixSum (qs.take i)).1 t1) ∧ m "orange" = some (.int (mixSum (qs.take i)).2.1 t2) ∧ m "purple" = some (.int (mixSum (qs.take i)).2.2.1 t3) ∧ news = [(c, oc)] ∧
    oc.data = .cell (some (.int (mixSum (qs.take i)).2.2.2 t4))
set_option maxRecDepth 100000 in
set_option maxHeartbeats 4000000 in
theorem call_mixed {prog : Program} {w : World} {A : Around} {s : Shared} {f l : Addr} {pm cd doc : Value} {mg mb : Str → Option Value} {R : Result → Shared → Prop} {vs : List Value} {ts : List Str}
    (hroom : A.depth + 2 < recursionLimit) (hh : A.handled = none) (X : FnIs 9 f pm cd doc s.heap) (H : Home mg mb s.heap)
    (hl : s.heap.IsList l vs.toArray) (hvs : StrsAre vs ts) {items : List (Str × Str)} {qs : List Quad}
    (hW : (ts.map (·.length)).sum + ts.length ≤ 1048576) (hlen : (Txt.join (Str.ofString " ,\t") ts).length ≤ 100000)
    (hit : Paired (fun e (p : Str × Str) => KeqvIs e p.1 p.2) (httpParse (Txt.join (Str.ofString " ,\t") ts)) items) (hil : items.length ≤ 100000)
    (hqs : Paired (fun (p : Str × Str) q => QuadIs p.2 q) (items.foldl dput []) qs)
    {L O P T : Int} (hS : mixSum qs = (L, O, P, T)) (hT : ¬ (90000 * T == 0) = true)
    (hf1 : ¬ Float64.isInf (quot L (90000 * T)) = true) (hf2 : ¬ Float64.isInf (quot O (90000 * T)) = true) (hf3 : ¬ Float64.isInf (quot P (90000 * T)) = true)
    (hf4 : ¬ Float64.isInf (quot (3 * O) (90000 * T)) = true) (hf5 : ¬ Float64.isInf (quot (3 * P) (90000 * T)) = true)
    (hi1 : ¬ Float64.isInf (Float64.ofInt (9 * T)) = true) (hi2 : ¬ Float64.isInf (Float64.ofInt (900 * T)) = true)
    {m1 m2 m3 v1 v2 v3 : Int}
    (hm1 : RoundsTo (times (9 * T) (clampF (rgbR (quot L (90000 * T)) (quot O (90000 * T)) (quot P (90000 * T))))) m1)
    (hm2 : RoundsTo (times (9 * T) (clampF (rgbG (quot L (90000 * T)) (quot O (90000 * T)) (quot P (90000 * T))))) m2)
    (hm3 : RoundsTo (times (9 * T) (clampF (rgbB (quot L (90000 * T)) (quot O (90000 * T)) (quot P (90000 * T))))) m3)
    (hv1 : RoundsTo (times (900 * T) (clampF (rgbR (quot L (90000 * T)) (quot (3 * O) (90000 * T)) (quot (3 * P) (90000 * T))))) v1)
    (hv2 : RoundsTo (times (900 * T) (clampF (rgbG (quot L (90000 * T)) (quot (3 * O) (90000 * T)) (quot (3 * P) (90000 * T))))) v2)
    (hv3 : RoundsTo (times (900 * T) (clampF (rgbB (quot L (90000 * T)) (quot (3 * O) (90000 * T)) (quot (3 * P) (90000 * T))))) v3)
    (h : ∀ t a b h' tk ys k zs k', h'.get? t = some (tupOf #[.ref a, .ref b]) → h'.get? a = some (listOf ys k) → h'.get? b = some (listOf zs k') → IntsAre ys.toList [m1, m2, m3] → IntsAre zs.toList [v1, v2, v3] →
      (∀ b o, s.heap.get? b = some o → h'.get? b = some o) → R (.ok (.ret (.ref t))) { s with heap := h', toks := tk }) :
    codeAny (model prog w) A (.call (.ref f) ⟨[.ref l], []⟩) R s := by
  have hlx : True → s.heap.IsList l vs.toArray := fun _ => hl
  obtain ⟨o, ho, hdata⟩ := X.get
  refine call_cellsN_ret (by omega) ho hdata X.lim X.code (binds := [("items", .ref l)]) (by rfl) (fun x hx => .inl (locs rfl x hx)) (by decide +kernel) ?_ rfl rfl rfl
  intro h₁ tk₁ cells F N Y
  obtain ⟨oc, rfl, hoc⟩ := CellsAre.one Y
  conv =>
    arg 3
    arg 1
    whnf
  have F1 : Fr s.heap s.heap.objs.size h₁ (fun y => if y = "items" then some (.ref l) else none) := F
  clear F
  repeat ((fail_if_success (with_reducible show wpAny _ _ (newTuple _) _ _ _)); walk1)
  refine newTuple_D F1 N fun T2 h2 _ F2 N2 => ?_
  clear F1 N
  refine wpAny_assign_Tuple hh (items := #[.int 0 _, .int 0 _, .int 0 _, .int 0 _]) ⟨_, (N2 _ (.head _)).1, rfl, 0, rfl⟩ (by rfl) (by rfl) fun h3 he3 => ?_
  have F3 := F2.extBut he3 (Nat.le_refl _)
  have N3 := N2.extBut he3 (Nat.le_refl _)
  clear F2 N2
  have N3' : News s.heap s.heap.objs.size h3 [(s.heap.objs.size + 1, oc)] := fun p hp => N3 p (.tail _ hp)
  clear N3
  show wpAny _ _ (assignInOrder (_ :: _ :: _ :: _ :: []) [_, _, _, _]) _ _ _
  refine assignInOrder_cons ?_
  walk1
  walk1
  refine assignInOrder_cons ?_
  walk1
  walk1
  refine assignInOrder_cons ?_
  walk1
  walk1
  refine assignInOrder_cons ?_
  walk1
  rename Fr _ _ _ _ => F4
  rename News _ _ _ _ => N4
  refine cellSt F4 N4 (fun _ h => nomatch h) hoc (fun h5 o5 F5 N5 hd5 => ?_) (by rfl) (by rfl) (by rfl)
  refine assignInOrder_nil ?_
  walk1
  refine For_invV (env := envOfC (fnName 9) (fnScope 9) s.heap.objs.size f cd) s.heap (by rfl) (by rfl) ?_
  have H5 : Home mg mb h5 := H.keeps F5.keep
  refine MethodCall_ ?_
  refine Call_ (nameFn H5 4 (by decide) (by rfl) (fun fk pk ck dk Xk => ?_) rfl rfl rfl (by decide))
  refine callFn Xk ?_ rfl
  refine args_cons ?_
  refine Call_ (nameFn H5 5 (by decide) (by rfl) (fun fh ph ch dh Xh => ?_) rfl rfl rfl (by decide))
  refine callFn Xh ?_ rfl
  refine args_cons ?_
  repeat ((fail_if_success (with_reducible show wpAny _ _ (call _ _) _ _ _)); walk1)
  refine join_rule2 ((hlx trivial).at fun o e => F5.keep _ o e) hvs hW (by decide) fun t6 tk6 => ?_
  refine args_nil ⟨fun _ _ e => e, wpAny_call (call_http ?_ hh hlen Xh fun D7 h7 tk7 ys k7 hD7 ho7 hys hk7 => ?_)⟩
  · show A.depth + 1 < recursionLimit; omega
  dsimp only
  refine args_nil ⟨hk7, wpAny_call (call_keqv ?_ hh (fnIs_keeps Xk hk7) (listAt ho7) hys hit hil fun d h8 tk8 od kvs hd hd8 ho8 hkd hkv hk8 => ?_)⟩
  · show A.depth + 1 < recursionLimit; omega
  dsimp only
  refine getValues ho8 hkd ?_
  dsimp only
  refine callWith_method0 ?_
  have hlow := home_low (H5.keeps hk7)
  have hsys : (d == sysModules) = false := by
    have : (3 : Nat) < d := Nat.lt_of_lt_of_le hlow hd
    have : d ≠ (1 : Nat) := by omega
    simpa [sysModules] using this
  have F7 := frGrow F5 hk7
  have N7 := newsGrow N5 hk7
  have hdL : d ≠ s.heap.objs.size := by
    rintro rfl
    obtain ⟨oL, _, _, hL, _⟩ := F7.ns
    rw [hd8] at hL; cases hL
  have hdC : d ≠ s.heap.objs.size + 1 := by
    intro e
    have := (N7 _ (.head _)).1
    rw [← e, hd8] at this; cases this
  have F8 := frGrow F7 hk8
  have N8 := newsGrow N7 hk8
  clear F5 N5 F7 N7
  refine valuesOf hsys F8 N8 ho8 hkd fun V h9 hV9 hk9 F9 N9 => ?_
  refine iterVals (MixJ (s.heap.objs.size + 1) qs) hh hV9 (hk9 _ _ ho8) hkd hdL (fun p hp => by rw [List.mem_singleton.mp hp]; exact Ne.symm hdC) F9 N9 ⟨_, _, _, _, _, rfl, rfl, rfl, rfl, hd5⟩ ?turn ?done
  case done =>
    clear F8 N8 F9 N9
    rintro m₁ nx h10 tk ⟨t1, t2, t3, t4, oc1, e1, e2, e3, rfl, hoc1⟩ F10 N10
    have hql : kvs.length = qs.length := by rw [Paired.length hkv, Paired.length hqs]
    rw [hql, List.take_length, hS] at e1 e2 e3 hoc1
    have F11 : Fr s.heap s.heap.objs.size h10 _ := frBind "purple" (frBind "orange" (frBind "luma" F10 e1) e2) e3
    have N11 : News s.heap s.heap.objs.size h10 ((s.heap.objs.size + 1, oc1) :: []) := N10
    try clear F10 N10
    dsimp only at hoc1 F11
    show wpAny _ _ _ _ _ _
    repeat ((fail_if_success (with_reducible show wpAny _ _ (eval (Expr.Name (Str.ofString "total") _) _) _ _ _)); walk1)
    refine cellLd N11 (.head _) hoc1 ?_ (by rfl) (by rfl) (by rfl) (by decide)
    repeat ((fail_if_success (with_reducible show wpAny _ _ (eval (Expr.Call _ _ _ _) _) _ _ _)); walk1)
    rename Fr _ _ _ _ => F12
    rename News _ _ _ _ => N12
    try clear F11 N11
    have H12 : Home mg mb _ := H.keeps F12.keep
    refine Call_ (nameFn H12 2 (by decide) (by rfl) (fun fy py cy dy Xy => ?_) rfl rfl rfl (by decide))
    refine callFn Xy ?_ rfl
    repeat ((fail_if_success (with_reducible show wpAny _ _ (binaryOp .Div _ _) _ _ _)); walk1)
    refine PySem.AutoIntOps.truediv_2 hT hf1 ?_
    show wpAny _ _ _ _ _ _
    repeat ((fail_if_success (with_reducible show wpAny _ _ (binaryOp .Div _ _) _ _ _)); walk1)
    refine PySem.AutoIntOps.truediv_2 hT hf2 ?_
    show wpAny _ _ _ _ _ _
    repeat ((fail_if_success (with_reducible show wpAny _ _ (binaryOp .Div _ _) _ _ _)); walk1)
    refine PySem.AutoIntOps.truediv_2 hT hf3 ?_
    show wpAny _ _ _ _ _ _
    refine args_nil ⟨fun _ _ e => e, wpAny_call (call_toRgb ?_ Xy fun a13 h13 tk13 ha13 T13 hk13 => ?_)⟩
    · show A.depth + 1 < recursionLimit; omega
    dsimp only
    obtain ⟨x1, x2, x3, x4, hT13⟩ := T13
    have F13 := frGrow F12 hk13
    have N13 := newsCons F12 N12 hk13 ha13 hT13
    try clear F12 N12
    repeat ((fail_if_success (with_reducible show wpAny _ _ (eval (Expr.Call _ _ _ _) _) _ _ _)); walk1)
    rename Fr _ _ _ _ => F14
    rename News _ _ _ _ => N14
    try clear F13 N13
    have H14 : Home mg mb _ := H.keeps F14.keep
    refine Call_ (nameFn H14 2 (by decide) (by rfl) (fun fz pz cz dz Xz => ?_) rfl rfl rfl (by decide))
    refine callFn Xz ?_ rfl
    repeat ((fail_if_success (with_reducible show wpAny _ _ (binaryOp .Div _ _) _ _ _)); walk1)
    refine PySem.AutoIntOps.truediv_2 hT hf1 ?_
    show wpAny _ _ _ _ _ _
    repeat ((fail_if_success (with_reducible show wpAny _ _ (binaryOp .Div _ _) _ _ _)); walk1)
    refine PySem.AutoIntOps.truediv_2 hT hf4 ?_
    show wpAny _ _ _ _ _ _
    repeat ((fail_if_success (with_reducible show wpAny _ _ (binaryOp .Div _ _) _ _ _)); walk1)
    refine PySem.AutoIntOps.truediv_2 hT hf5 ?_
    show wpAny _ _ _ _ _ _
    refine args_nil ⟨fun _ _ e => e, wpAny_call (call_toRgb ?_ Xz fun a15 h15 tk15 ha15 T15 hk15 => ?_)⟩
    · show A.depth + 1 < recursionLimit; omega
    dsimp only
    obtain ⟨y1, y2, y3, y4, hT15⟩ := T15
    have F15 := frGrow F14 hk15
    have N15 := newsCons F14 N14 hk15 ha15 hT15
    try clear F14 N14
    repeat ((fail_if_success (with_reducible show wpAny _ _ (eval (Expr.ListComp _ _ _ _) _) _ _ _)); walk1)
    rename Fr _ _ _ _ => F16
    rename News _ _ _ _ => N16
    refine evalComp (cl := [("total", s.heap.objs.size + 1)]) (by rfl) (by rfl) (by decide) (fun _ => rfl) ?_
    walk1
    refine wpAny_mono (srcTuple (vs := [.float _ x1, .float _ x2, .float _ x3]) hh ⟨_, (N16 _ (.tail _ (.head _))).1, rfl, x4, rfl⟩) (fun it s₃ S => ?_) fun _ _ e => e
    refine blkE S (.inr fun _ _ => rfl) (IntAt [m1, m2, m3]) _ (binds_name rfl rfl) (by rw [sizeLine_eq]; simp) (by decide) rfl ?_ ?_
    · rintro C i s₄ m₄ E' hi ⟨v, hv, hm⟩ hns hk
      have H4 : Home mg mb s₄.heap := H.keeps fun b o e => hk b o (F16.keep b o e)
      have hcell : s₄.heap.IsCell (s.heap.objs.size + 1) (some (.int T t4)) := ⟨_, hk _ _ (N16 _ (.tail _ (.tail _ (.head _)))).1, hoc1⟩
      have : ∃ y t n, v = .float y t ∧ RoundsTo (times (9 * T) y) n ∧ [m1, m2, m3][i]? = some n := by
        match i with
        | 0 => exact ⟨_, _, _, (Option.some.inj hv).symm, hm1, rfl⟩
        | 1 => exact ⟨_, _, _, (Option.some.inj hv).symm, hm2, rfl⟩
        | 2 => exact ⟨_, _, _, (Option.some.inj hv).symm, hm3, rfl⟩
        | i + 3 => simp at hv
      obtain ⟨y, t', n, rfl, hrn, hin⟩ := this
      refine Call_ (nameB H4 (by decide) (by decide) boot_round ?_ rfl rfl rfl rfl (by decide))
      refine PyProof.Rows.callWith_builtin1 (args_cons (wpAny_BinOp (wpAny_BinOp (wpAny_Constant_int (wpAny_Name (wpAny_loadName_cell rfl rfl rfl hcell ?_) (by decide))))))
      refine PyProof.Rows.mul_int ?_
      refine wpAny_Name (wpAny_loadName_local rfl rfl hns hm ?_) (by decide)
      refine PySem.AutoFloatOps.mul_if_1 hi1 ?_
      refine args_nil (round_rule hrn hh ⟨⟨n, _, hin, rfl⟩, ⟨s₄.heap, _, rfl, fun _ _ e => e⟩⟩)
    intro D17 h17 tk17 ys17 k17 hD17 ho17 hys17 hG17 hk17
    have hints17 : IntsAre ys17.toList [m1, m2, m3] := intsAre_of hys17 hG17
    have F17 := frGrow F16 hk17
    have N17 := newsCons F16 N16 hk17 hD17 ho17
    clear F16 N16
    dsimp only
    repeat ((fail_if_success (with_reducible show wpAny _ _ (eval (Expr.ListComp _ _ _ _) _) _ _ _)); walk1)
    refine evalComp (cl := [("total", s.heap.objs.size + 1)]) (by rfl) (by rfl) (by decide) (fun _ => rfl) ?_
    walk1
    refine wpAny_mono (srcTuple (vs := [.float _ y1, .float _ y2, .float _ y3]) hh ⟨_, (N17 _ (.tail _ (.head _))).1, rfl, y4, rfl⟩) (fun it s₃ S => ?_) fun _ _ e => e
    refine blkE S (.inr fun _ _ => rfl) (IntAt [v1, v2, v3]) _ (binds_name rfl rfl) (by rw [sizeLine_eq]; simp) (by decide) rfl ?_ ?_
    · rintro C i s₄ m₄ E' hi ⟨v, hv, hm⟩ hns hk
      have H4 : Home mg mb s₄.heap := H.keeps fun b o e => hk b o (F17.keep b o e)
      have hcell : s₄.heap.IsCell (s.heap.objs.size + 1) (some (.int T t4)) := ⟨_, hk _ _ (N17 _ (.tail _ (.tail _ (.tail _ (.head _))))).1, hoc1⟩
      have : ∃ y t n, v = .float y t ∧ RoundsTo (times (900 * T) y) n ∧ [v1, v2, v3][i]? = some n := by
        match i with
        | 0 => exact ⟨_, _, _, (Option.some.inj hv).symm, hv1, rfl⟩
        | 1 => exact ⟨_, _, _, (Option.some.inj hv).symm, hv2, rfl⟩
        | 2 => exact ⟨_, _, _, (Option.some.inj hv).symm, hv3, rfl⟩
        | i + 3 => simp at hv
      obtain ⟨y, t', n, rfl, hrn, hin⟩ := this
      refine Call_ (nameB H4 (by decide) (by decide) boot_round ?_ rfl rfl rfl rfl (by decide))
      refine PyProof.Rows.callWith_builtin1 (args_cons (wpAny_BinOp (wpAny_BinOp (wpAny_Constant_int (wpAny_Name (wpAny_loadName_cell rfl rfl rfl hcell ?_) (by decide))))))
      refine PyProof.Rows.mul_int ?_
      refine wpAny_Name (wpAny_loadName_local rfl rfl hns hm ?_) (by decide)
      refine PySem.AutoFloatOps.mul_if_1 hi2 ?_
      refine args_nil (round_rule hrn hh ⟨⟨n, _, hin, rfl⟩, ⟨s₄.heap, _, rfl, fun _ _ e => e⟩⟩)
    intro D18 h18 tk18 ys18 k18 hD18 ho18 hys18 hG18 hk18
    have hints18 : IntsAre ys18.toList [v1, v2, v3] := intsAre_of hys18 hG18
    have F18 := frGrow F17 hk18
    have N18 := newsCons F17 N17 hk18 hD18 ho18
    clear F17 N17
    dsimp only
    repeat ((fail_if_success (with_reducible show wpAny _ _ (newTuple _) _ _ _)); walk1)
    refine newTuple_D F18 N18 fun T19 h19 _ F19 N19 => ?_
    exact h T19 D17 D18 _ _ _ _ _ _ (N19 _ (.head _)).1 (N19 _ (.tail _ (.tail _ (.head _)))).1 (N19 _ (.tail _ (.head _))).1 hints17 hints18 F19.keep
  case turn =>
    clear F8 N8 F9 N9
    rintro i k v m₁ nx h10 tk own hv hoff ⟨t1, t2, t3, t4, oc1, e1, e2, e3, rfl, hoc1⟩ F10 N10
    obtain ⟨⟨k', y⟩, hy, e, u, rfl⟩ := paired_place hkv hv
    dsimp only at e
    subst e
    obtain ⟨q, hq, hQ⟩ := paired_place hqs hy
    obtain ⟨hlen4, ⟨w1, w2, w3, w4, hp4, hw1, hw2, hw3, hw4⟩, hlow4, hhigh4⟩ := hQ
    have F11 : Fr s.heap s.heap.objs.size h10 _ := frBind "purple" (frBind "orange" (frBind "luma" F10 e1) e2) e3
    have N11 : News s.heap s.heap.objs.size h10 ((s.heap.objs.size + 1, oc1) :: own) := N10
    clear F10 N10
    have hoff1 : ∀ p ∈ own, p.1 ≠ s.heap.objs.size + 1 := fun p hp => hoff p hp _ (.head _)
    have H11 : Home mg mb h10 := H.keeps F11.keep
    show wpAny _ _ _ _ _ _
    k_fold
    repeat ((fail_if_success (with_reducible show wpAny _ _ (eval (Expr.ListComp _ _ _ _) _) _ _ _)); walk1)
    refine evalComp (cl := []) (by rfl) (by rfl) (by decide) (fun _ => rfl) ?_
    refine Call_ (nameFn H11 5 (by decide) (by rfl) (fun fh ph ch dh Xh => ?_) rfl rfl rfl (by decide))
    refine callFn Xh ?_ rfl
    refine args_cons ?_
    repeat ((fail_if_success (with_reducible show wpAny _ _ (call _ _) _ _ _)); walk1)
    · exact fun _ _ e => e
    refine wpAny_call (call_http ?_ hh hlen4 Xh fun D12 h12 tk12 ys k12 hD12 ho12 hys hk12 => ?_)
    · show A.depth + 1 < recursionLimit; omega
    dsimp only
    rw [hp4] at hys
    have hyl := StrsAre.length hys
    have F12 := frGrow F11 hk12
    have N12 := newsGrow N11 hk12
    clear F11 N11
    refine wpAny_mono (srcList (vs := ys.toList) hh (listAt ho12)) (fun it s₃ S => ?_) fun _ _ e => e
    refine blkE S (.inr fun _ _ => rfl) (IntAt [q.1, q.2.1, q.2.2.1, q.2.2.2]) _ (binds_name rfl rfl) (by rw [sizeLine_eq, hyl]; simp) (by decide) rfl ?_ ?_
    · rintro C i s₄ m₄ E' hi ⟨v, hv, hm⟩ hns hk
      have H4 : Home mg mb s₄.heap := H.keeps fun b o e => hk b o (F12.keep b o e)
      obtain ⟨y, t, rfl, hin⟩ := strsAre_at hys hv
      have hpl := strsAre_place hys hv
      have : ∃ n, y.length ≤ 640 ∧ PySem.intText? y = some n ∧ [q.1, q.2.1, q.2.2.1, q.2.2.2][i]? = some n := by
        match i with
        | 0 => cases hpl; exact ⟨_, hw1.1, hw1.2, rfl⟩
        | 1 => cases hpl; exact ⟨_, hw2.1, hw2.2, rfl⟩
        | 2 => cases hpl; exact ⟨_, hw3.1, hw3.2, rfl⟩
        | 3 => cases hpl; exact ⟨_, hw4.1, hw4.2, rfl⟩
        | i + 4 => simp at hpl
      obtain ⟨n, hyl, hyn, hin⟩ := this
      refine Call_ (nameB H4 (by decide) (by decide) boot_int ?_ rfl rfl rfl rfl (by decide))
      refine PyProof.Rows.callWith_type1 (args_cons (wpAny_Name (wpAny_loadName_local rfl rfl hns hm ?_) (by decide)))
      exact args_nil (KIN.call_text hyn hyl ⟨⟨n, _, hin, rfl⟩, ⟨s₄.heap, _, rfl, fun _ _ e => e⟩⟩)
    intro D13 h13 tk13 zs k13 hD13 ho13 hzs hG13 hk13
    have hz : IntsAre zs.toList [q.1, q.2.1, q.2.2.1, q.2.2.2] := intsAre_of (by rw [hzs, hyl]; rfl) hG13
    have F13 := frGrow F12 hk13
    have N13 := newsGrow N12 hk13
    clear F12 N12
    dsimp only
    obtain ⟨a1, a2, a3, a4, hz4⟩ := four_of hz
    have hL13 : h13.IsList D13 #[.int q.1 a1, .int q.2.1 a2, .int q.2.2.1 a3, .int q.2.2.2 a4] := ⟨_, ho13, rfl, k13, by rw [← hz4]⟩
    refine kun_list F13 N13 hL13 hh (by rfl) (by rfl) (fun h14 F14 N14 => ?_)
    clear F13 N13
    show wpAny _ _ (assignInOrder (_ :: _ :: _ :: _ :: []) [_, _, _, _]) _ _ _
    iterate 4
      refine assignInOrder_cons ?_
      walk1
      walk1
    refine assignInOrder_nil ?_
    rename Fr _ _ _ _ => F15
    rename News _ _ _ _ => N15
    skip
    repeat ((fail_if_success (with_reducible show wpAny _ _ (eval (Expr.Name (Str.ofString "total") _) _) _ _ _)); walk1)
    refine cellLd N15 (.head _) hoc1 ?_ (by rfl) (by rfl) (by rfl) (by decide)
    repeat ((fail_if_success (with_reducible show wpAny _ _ (newTuple _) _ _ _)); walk1)
    rename Fr _ _ _ _ => F16
    rename News _ _ _ _ => N16
    refine newTuple_D F16 N16 fun T17 h17 _ F17 N17 => ?_
    clear F16 N16
    refine wpAny_assign_Tuple hh (items := #[.int _ _, .int _ _, .int _ _, .int _ _]) ⟨_, (N17 _ (.head _)).1, rfl, 0, rfl⟩ (by rfl) (by rfl) fun h18 he18 => ?_
    have F18 := F17.extBut he18 (Nat.le_refl _)
    have N18 := N17.extBut he18 (Nat.le_refl _)
    clear F17 N17
    have N18' : News s.heap s.heap.objs.size h18 ((s.heap.objs.size + 1, oc1) :: own) := fun p hp => N18 p (.tail _ hp)
    clear N18
    show wpAny _ _ (assignInOrder (_ :: _ :: _ :: _ :: []) [_, _, _, _]) _ _ _
    iterate 3
      refine assignInOrder_cons ?_
      walk1
      walk1
    refine assignInOrder_cons ?_
    walk1
    rename Fr _ _ _ _ => F19
    rename News _ _ _ _ => N19
    refine cellSt F19 N19 hoff1 hoc1 (fun h20 o20 F20 N20 hd20 => ?_) (by rfl) (by rfl) (by rfl)
    refine assignInOrder_nil ?_
    repeat walk1
    k_unfold
    have hsum : mixSum (qs.take (i + 1)) = mixStep (mixSum (qs.take i)) q := by
      rw [List.take_add_one, hq]; exact mixSum_snoc _ _
    refine InvEndG.intro (nx := [(s.heap.objs.size + 1, o20)]) F20 N20 ⟨_, _, _, _, _, by rw [hsum]; rfl, by rw [hsum]; rfl, by rw [hsum]; rfl, rfl, by rw [hsum]; exact hd20⟩ hoff (fun p hp => by rw [List.mem_singleton.mp hp]; exact .head _) (fun p hp => .tail _ hp)
end Mine

namespace Mine

/-- an iterator whose item is handed to a tuple target (its own tuple is let go in between) -/
structure WalksM (prog : Program) (w : World) (A : Around) (target : Expr) (I : Addr) (fp wr : List Addr) (n : Nat) (St : Nat → Heap → Prop) (Mid Post : Nat → Value → Heap → Prop) : Prop where
  sub : ∀ b ∈ wr, b ∈ fp
  frame : ∀ i h h', St i h → (∀ b ∈ fp, ∀ o, h.get? b = some o → h'.get? b = some o) → St i h'
  item : ∀ i (s : Shared) (Q : Option Value → Shared → Prop) (E : Value → Shared → Prop), i < n → St i s.heap →
    (∀ v h' tk, Mid i v h' → (∀ b o, b ∉ wr → s.heap.get? b = some o → h'.get? b = some o) → Q (some v) { s with heap := h', toks := tk }) → wpAny (model prog w) A (pyNext (.ref I)) Q E s
  go : ∀ i v (s : Shared) (Q : Unit → Shared → Prop) (E : Value → Shared → Prop), Mid i v s.heap →
    (∀ h', St (i + 1) h' → Post i v h' → (∀ b o, b ∉ wr → s.heap.get? b = some o → h'.get? b = some o) → Q () { s with heap := h' }) → wpAny (model prog w) A (letOwnedTupleGo target (.ref I) v) Q E s
  done : ∀ (s : Shared) (Q : Option Value → Shared → Prop) (E : Value → Shared → Prop), St n s.heap →
    (∀ h' tk, (∀ b o, b ∉ wr → s.heap.get? b = some o → h'.get? b = some o) → Q none { s with heap := h', toks := tk }) → wpAny (model prog w) A (pyNext (.ref I)) Q E s
  self : ∀ i (s : Shared) (Q : Value → Shared → Prop) (E : Value → Shared → Prop), St i s.heap → Q (.ref I) s → wpAny (model prog w) A (pyIter (.ref I)) Q E s

section
variable {prog : Program} {w : World} {A : Around} {E : Value → Shared → Prop} {s : Shared}

theorem compLoop_mid {R : Result → Shared → Prop} {elt target iter : Expr} {scope : Scope} {pos : Pos} {I D : Addr} {fp wr : List Addr} {n : Nat} {St : Nat → Heap → Prop} {Mid Post : Nat → Value → Heap → Prop} {cenv : Env} {m : Str → Option Value}
    (G : Nat → Value → Prop) (B : Nat → (Str → Option Value) → Prop) (W : WalksM prog w A target I fp wr n St Mid Post)
    (hDC : D ≠ cenv.locals) (hDf : D ∉ fp) (hCf : cenv.locals ∉ fp)
    (hst : St 0 s.heap) (hacc : s.heap.PlainList D #[]) (hn : s.heap.Ns cenv.locals m)
    (htgt : ∀ i v (s' : Shared) m' (Q' : Unit → Shared → Prop) (E' : Value → Shared → Prop), i < n → Post i v s'.heap → s'.heap.Ns cenv.locals m' →
      (∀ h' tk m'', h'.Ns cenv.locals m'' → B i m'' → (∀ b o, b ≠ cenv.locals → s'.heap.get? b = some o → h'.get? b = some o) → Q' () { s' with heap := h', toks := tk }) →
      wpAny (model prog w) A (assign target cenv v) Q' E' s')
    (helt : ∀ i (s₂ : Shared) m₂ (E' : Value → Shared → Prop), i < n → B i m₂ → s₂.heap.Ns cenv.locals m₂ → (∀ b o, b ≠ cenv.locals → b ∉ wr → b ≠ D → s.heap.get? b = some o → s₂.heap.get? b = some o) →
      wpAny (model prog w) A (eval elt cenv) (fun y s₃ => G i y ∧ Keeps s₂ s₃) E' s₂)
    (hR : ∀ h' tk m' ys k, h'.Ns cenv.locals m' → h'.get? D = some (listOf ys k) → ys.size = n → (∀ (j : Nat) y, ys[j]? = some y → G j y) →
      (∀ b o, b ≠ cenv.locals → b ∉ wr → b ≠ D → s.heap.get? b = some o → h'.get? b = some o) → R (.ok .next) { s with heap := h', toks := tk })
    (hsz : n ≤ sizeLine) : codeAny (model prog w) A (.compLoop (.ListComp elt [⟨target, iter, [], 0⟩] scope pos) 0 (.ref I) (.ref D) cenv) R s := by
  refine kcp_loop
    (fun k s' => ∃ h' tk m' ys, s' = { s with heap := h', toks := tk } ∧ St ys.size h' ∧ h'.PlainList D ys ∧ h'.Ns cenv.locals m' ∧ (∀ (j : Nat) y, ys[j]? = some y → G j y) ∧
      ys.size ≤ n ∧ k = n + 1 - ys.size ∧ (∀ b o, b ≠ cenv.locals → b ∉ wr → b ≠ D → s.heap.get? b = some o → h'.get? b = some o)) ?_ (n + 1)
    ⟨s.heap, s.toks, m, #[], rfl, hst, hacc, hn, by simp, Nat.zero_le _, rfl, fun _ _ _ _ _ e => e⟩
  rintro k s' ⟨H, tk, m', ys, rfl, hst', hacc', hn', hG, hi, rfl, hk⟩
  have hCw : cenv.locals ∉ wr := fun h => hCf (W.sub _ h)
  have hDw : D ∉ wr := fun h => hDf (W.sub _ h)
  by_cases hlt : ys.size < n
  · refine W.item ys.size _ _ _ hlt hst' fun v h₁ tk₁ hmid hk₁ => ?_
    dsimp only
    refine W.go ys.size v _ _ _ hmid fun h₁' hst₁ hpost hk₁' => ?_
    have up₁ : ∀ b o, b ∉ wr → H.get? b = some o → h₁'.get? b = some o := fun b o hb e => hk₁' b o hb (hk₁ b o hb e)
    refine htgt ys.size v _ m' _ _ hlt hpost (hn'.at' fun o e => up₁ _ o hCw e) fun h₂ tk₂ m₂ hn₂ hB hk₂ => ?_
    have up₂ : ∀ b o, b ≠ cenv.locals → b ∉ wr → H.get? b = some o → h₂.get? b = some o := fun b o hbC hbf e => hk₂ b o hbC (up₁ b o hbf e)
    have hst₂ : St (ys.size + 1) h₂ := W.frame _ _ _ hst₁ fun b hb o e => hk₂ b o (fun h => hCf (h ▸ hb)) e
    refine wpAny_mono (helt ys.size _ m₂ _ hlt hB hn₂ fun b o hbC hbf hbD e => up₂ b o hbC hbf (hk b o hbC hbf hbD e)) (fun y s₄ h₄ => ?_) fun _ _ e => e
    obtain ⟨hGy, h₄, tk₄, rfl, hk₄⟩ := h₄
    have hacc₂ : h₂.PlainList D ys := hacc'.at fun o e => up₂ D o hDC hDw e
    refine wpAny_list_append_plain (hsz := Nat.le_trans hi hsz) (hacc₂.at fun o e => hk₄ _ o e) fun h₅ hl₅ hs₅ => ?_
    refine ⟨n + 1 - (ys.size + 1), by omega, h₅, tk₄, m₂, ys.push y, rfl, ?_, hl₅, (hn₂.keeps hk₄).sameBut hs₅ (Ne.symm hDC), ?_, ?_, ?_, ?_⟩
    · rw [Array.size_push]
      exact W.frame _ _ _ hst₂ fun b hb o e => hs₅.extBut b o (fun h => hDf (h ▸ hb)) (hk₄ b o e)
    · intro j z hj
      rw [Array.getElem?_push] at hj
      split at hj
      · rename_i e; cases hj; rw [e]; exact hGy
      · exact hG j z hj
    · rw [Array.size_push]; exact hlt
    · rw [Array.size_push]
    · exact fun b o hbC hbf hbD e => hs₅.extBut b o hbD (hk₄ b o (up₂ b o hbC hbf (hk b o hbC hbf hbD e)))
  · have hin : ys.size = n := by omega
    refine W.done _ _ _ (hin ▸ hst') fun h₁ tk₁ hk₁ => ?_
    obtain ⟨kk, hkk⟩ := hacc'
    exact hR h₁ tk₁ m' ys kk (hn'.at' fun o e => hk₁ _ o hCw e) (hk₁ _ _ hDw hkk) hin hG fun b o hbC hbf hbD e => hk₁ b o hbf (hk b o hbC hbf hbD e)
end

section
variable {prog : Program} {w : World} {A : Around} {E : Value → Shared → Prop} {env : Env}
theorem compBlock_mid {s₀ : Shared} {H0 : Heap} {tk0 : Nat} {elt target iter : Expr} {scope : Scope} {cl : List (Str × Addr)} {pos : Pos} {I : Addr} {fp wr : List Addr} {n : Nat} {St : Nat → Heap → Prop} {Mid Post : Nat → Value → Heap → Prop}
    {RR : Value → Addr → Result → Shared → Prop} (G : Nat → Value → Prop) (B : Nat → (Str → Option Value) → Prop)
    (W : WalksM prog w A target I fp wr n St Mid Post) (hkeep : ∀ b o, s₀.heap.get? b = some o → H0.get? b = some o) (hbig : s₀.heap.objs.size ≤ H0.objs.size) (hwr : ∀ b ∈ wr, s₀.heap.get? b = none) (hsz : n ≤ sizeLine) (hst : St 0 H0) (hfp : ∀ b ∈ fp, b < H0.objs.size)
    (hcell : ∀ y ∈ scope.names, y.2 ≠ .cell) (hkind : scope.kind = .function)
    (htgt : ∀ C i v (s' : Shared) m' (Q' : Unit → Shared → Prop) (E' : Value → Shared → Prop), i < n → Post i v s'.heap → s'.heap.Ns C m' →
      (∀ h' tk m'', h'.Ns C m'' → B i m'' → (∀ b o, b ≠ C → s'.heap.get? b = some o → h'.get? b = some o) → Q' () { s' with heap := h', toks := tk }) →
      wpAny (model prog w) A (assign target (compEnvC scope cl C env) v) Q' E' s')
    (helt : ∀ C i (s₃ : Shared) m₃ (E' : Value → Shared → Prop), i < n → B i m₃ → s₃.heap.Ns C m₃ → (∀ b o, s₀.heap.get? b = some o → s₃.heap.get? b = some o) →
      wpAny (model prog w) A (eval elt (compEnvC scope cl C env)) (fun y s₄ => G i y ∧ Keeps s₃ s₄) E' s₃)
    (hRR : ∀ D C h' tk m' ys k, s₀.heap.get? D = none → s₀.heap.get? C = none → D ≠ C → h'.Ns C m' → h'.get? D = some (listOf ys k) → ys.size = n → (∀ (j : Nat) y, ys[j]? = some y → G j y) →
      (∀ b o, s₀.heap.get? b = some o → h'.get? b = some o) → RR (.ref D) C (.ok .next) { s₀ with heap := h', toks := tk }) :
    wpAny (model prog w) A (newList []) (fun acc s₃ => wpAny (model prog w) A (newFunctionEnv scope env.globals cl [] env.qual none .none (some env)) (fun cenv s₄ =>
      codeAny (model prog w) A (.compStart (.ListComp elt [⟨target, iter, [], 0⟩] scope pos) 0 (.ref I) acc { cenv with scope := relabel scope env }) (RR acc cenv.locals) s₄) E s₃) E { s₀ with heap := H0, toks := tk0 } := by
  have fresh0 : ∀ a, s₀.heap.objs.size ≤ a → s₀.heap.get? a = none := fun a ha => by
    cases e : s₀.heap.get? a with
    | none => rfl
    | some o' => exact absurd (Heap.lt_size e) (Nat.not_lt.mpr ha)
  refine wpAny_newObj_type (wpAny_newFunctionEnv hcell (by intro y hy; simp at hy) (fun h₁ hns₁ hsb₁ => ?_) hkind)
  dsimp only at hns₁ hsb₁ ⊢
  generalize hH2 : H0.push { cls := .type "list", dict := none, data := .seq ([] : List Value).toArray } = H2 at hns₁ hsb₁ ⊢
  have hC : H2.objs.size = H0.objs.size + 1 := by rw [← hH2, Heap.size_push]
  have hDC : H0.objs.size ≠ H2.objs.size := by rw [hC]; exact Nat.ne_of_lt (Nat.lt_succ_self _)
  have below : ∀ b, b < H0.objs.size → b ≠ H2.objs.size ∧ b ≠ H0.objs.size := fun b hb => ⟨by rw [hC]; exact Nat.ne_of_lt (Nat.lt_succ_of_lt hb), Nat.ne_of_lt hb⟩
  have hDf : H0.objs.size ∉ fp := fun hm => Nat.lt_irrefl _ (hfp _ hm)
  have hCf : H2.objs.size ∉ fp := fun hm => by have := hfp _ hm; rw [hC] at this; exact Nat.lt_irrefl _ (Nat.lt_of_succ_lt this)
  have old : ∀ b o, H0.get? b = some o → h₁.get? b = some o := fun b o e => hsb₁.extBut b o (below b (Heap.lt_size e)).1 (Heap.get?_push_of_some _ (hH2 ▸ Heap.get?_push_of_some _ e))
  have notI : ∀ b o, s₀.heap.get? b = some o → b ∉ wr := fun b o e hb => by rw [hwr b hb] at e; cases e
  have hacc : h₁.PlainList H0.objs.size #[] := ⟨_, hsb₁.extBut _ _ hDC (Heap.get?_push_of_some _ (hH2 ▸ Heap.get?_push_size _ rfl))⟩
  have hst₁ : St 0 h₁ := W.frame _ _ _ hst fun b _ o e => old b o e
  have lt2 : s₀.heap.objs.size < H2.objs.size := by rw [hC]; exact Nat.lt_succ_of_le hbig
  have keep0 : ∀ {h' : Heap}, (∀ b o, b ≠ H2.objs.size → b ∉ wr → b ≠ H0.objs.size → h₁.get? b = some o → h'.get? b = some o) → ∀ b o, s₀.heap.get? b = some o → h'.get? b = some o := fun hk b o e =>
    hk b o (below b (Heap.lt_size (hkeep b o e))).1 (notI b o e) (below b (Heap.lt_size (hkeep b o e))).2 (old b o (hkeep b o e))
  have loop : ∀ s₃ : Shared, s₃ = { s₀ with heap := h₁, toks := tk0 + ([] : List (Str × Value)).length } →
      codeAny (model prog w) A (.compLoop (.ListComp elt [⟨target, iter, [], 0⟩] scope pos) 0 (.ref I) (.ref H0.objs.size) (compEnvC scope cl H2.objs.size env))
        (RR (.ref H0.objs.size) H2.objs.size) s₃ := by
    rintro s₃ rfl
    refine compLoop_mid (cenv := compEnvC scope cl H2.objs.size env) G B W hDC hDf hCf hst₁ hacc hns₁ ?_ ?_ ?_ hsz
    · intro i v s' m' Q' E' hi hP hns hq
      exact htgt _ i v s' m' Q' E' hi hP hns hq
    · intro i s₄ m₄ E' hi hB hns hk
      exact helt _ i s₄ m₄ E' hi hB hns (keep0 hk)
    · intro h' tk m' ys k hns ho hsz' hG hk
      exact hRR _ _ h' tk m' ys k (fresh0 _ hbig) (fresh0 _ (Nat.le_of_lt lt2)) hDC hns ho hsz' hG (keep0 hk)
  exact codeAny_compStart_list (loop _ rfl) (W.self 0 _ _ _ hst₁ (loop _ rfl))

theorem blkA_mid {s₀ : Shared} {H0 h₀ : Heap} {tk0 : Nat} {elt target iter : Expr} {scope : Scope} {cl : List (Str × Addr)} {pos : Pos} {I : Addr} {fp wr : List Addr} {n : Nat} {St : Nat → Heap → Prop} {Mid Post : Nat → Value → Heap → Prop}
    {m : Str → Option Value} {news : List (Addr × Obj)} {y : Str} {py : Pos} {Qn : Shared → Prop} (G : Nat → Value → Prop) (B : Nat → (Str → Option Value) → Prop)
    (W : WalksM prog w A target I fp wr n St Mid Post) (hkeep : ∀ b o, s₀.heap.get? b = some o → H0.get? b = some o) (hbig : s₀.heap.objs.size ≤ H0.objs.size) (hwr : ∀ b ∈ wr, s₀.heap.get? b = none) (hsz : n ≤ sizeLine) (hst : St 0 H0) (hfp : ∀ b ∈ fp, b < H0.objs.size)
    (hcell : ∀ y ∈ scope.names, y.2 ≠ .cell) (hkind : scope.kind = .function)
    (hy : env.kindOf y = some .local) (hp : (env.scope.kind == .class || (env.scope.kind == .module && env.locals != env.globals)) = false)
    (F : Fr h₀ env.locals s₀.heap m) (N : News h₀ env.locals s₀.heap news)
    (htgt : ∀ C i v (s' : Shared) m' (Q' : Unit → Shared → Prop) (E' : Value → Shared → Prop), i < n → Post i v s'.heap → s'.heap.Ns C m' →
      (∀ h' tk m'', h'.Ns C m'' → B i m'' → (∀ b o, b ≠ C → s'.heap.get? b = some o → h'.get? b = some o) → Q' () { s' with heap := h', toks := tk }) →
      wpAny (model prog w) A (assign target (compEnvC scope cl C env) v) Q' E' s')
    (helt : ∀ C i (s₃ : Shared) m₃ (E' : Value → Shared → Prop), i < n → B i m₃ → s₃.heap.Ns C m₃ → (∀ b o, s₀.heap.get? b = some o → s₃.heap.get? b = some o) →
      wpAny (model prog w) A (eval elt (compEnvC scope cl C env)) (fun y s₄ => G i y ∧ Keeps s₃ s₄) E' s₃)
    (hfin : ∀ D h' tk ys k, Fr h₀ env.locals h' (fun z => if z = y then some (.ref D) else m z) → News h₀ env.locals h' ((D, listOf ys k) :: news) → (∀ p ∈ news, p.1 ≠ D) → ys.size = n → (∀ (j : Nat) y, ys[j]? = some y → G j y) → Qn { s₀ with heap := h', toks := tk }) :
    Blk prog w A E env scope cl (.ListComp elt [⟨target, iter, [], 0⟩] scope pos) (some (assign (.Name y py) env)) (fun _ s' => Qn s') (.ref I) { s₀ with heap := H0, toks := tk0 } := by
  refine compBlock_mid (RR := fun acc C => compPost (model prog w) A E (some (assign (.Name y py) env)) (fun _ s' => Qn s') acc C) G B W hkeep hbig hwr hsz hst hfp hcell hkind htgt helt ?_
  intro D C h' tk m' ys k hD hC hDC hns ho hsz' hG hk
  have F' := frGrow F hk
  have N' := newsCons F N hk hD ho
  have hLC : env.locals ≠ C := by rintro rfl; obtain ⟨o, _, _, ho', _⟩ := F.ns; rw [hC] at ho'; cases ho'
  have hnD : ∀ p ∈ news, p.1 ≠ D := fun p hp e => by have := (N p hp).1; rw [e, hD] at this; cases this
  show wpAny _ A (assign (.Name y py) env (.ref D)) _ _ _
  refine wpAny_assign_Name (wpAny_storeName_local hy F'.ns (fun h₂ hn₂ hs₂' => ?_) hp)
  refine ⟨m', hns.sameBut hs₂' (Ne.symm hLC), fun h₃ hs₃ => ?_⟩
  have F₂ := F'.set hn₂ hs₂'
  have N₂ := N'.set hs₂'
  have hC0 : h₀.get? C = none := by
    cases e : h₀.get? C with
    | none => rfl
    | some o => have := F.keep _ _ e; rw [hC] at this; cases this
  have F₃ : Fr h₀ env.locals h₃ _ := ⟨F₂.ns.sameBut hs₃ hLC, fun b o e => hs₃.extBut b o (by rintro rfl; rw [hC0] at e; cases e) (F₂.keep b o e), F₂.above⟩
  refine hfin D h₃ _ ys k F₃ (fun p hp => ⟨hs₃.extBut _ _ ?_ (N₂ p hp).1, (N₂ p hp).2⟩) hnD hsz' hG
  rcases List.mem_cons.mp hp with rfl | hp
  · exact hDC
  · intro e; have := (N p hp).1; rw [e, hC] at this; cases this
end

section
variable {prog : Program} {w : World} {A : Around} {E : Value → Shared → Prop} {env : Env} {s : Shared} {scope : Scope} {cl : List (Str × Addr)} {C : Addr} {m : Str → Option Value}
theorem storeC {x : Str} {v : Value} {Q : Unit → Shared → Prop} (hx : scope.names.lookup x = some .local) (hkind : scope.kind = .function) (hns : s.heap.Ns C m)
    (hq : ∀ h', h'.Ns C (fun y => if y = x then some v else m y) → (∀ b o, b ≠ C → s.heap.get? b = some o → h'.get? b = some o) → Q () { s with heap := h', toks := s.toks + 1 }) :
    wpAny (model prog w) A (storeName (compEnvC scope cl C env) x v) Q E s :=
  wpAny_storeName_local (env := compEnvC scope cl C env) (lookup_relabel_local hx) hns (fun h' hn' hs' => hq h' hn' fun b o hb e => hs'.extBut b o hb e) (by simp [compEnvC, relabel, hkind])

theorem nsUp {h h' : Heap} (hns : h.Ns C m) (he : Heap.ExtBut h.objs.size h h') : h'.Ns C m := hns.at' fun o e => he _ o (Nat.ne_of_lt hns.lt) e

theorem assign3 {x1 x2 x3 : Str} {p1 p2 p3 pos : Pos} {k : Nat} {T : Addr} {a b c : Value} {Q : Unit → Shared → Prop} (hh : A.handled = none) (hT : s.heap.IsTuple T #[a, b, c]) (hns : s.heap.Ns C m)
    (h1 : scope.names.lookup x1 = some .local) (h2 : scope.names.lookup x2 = some .local) (h3 : scope.names.lookup x3 = some .local) (hkind : scope.kind = .function) (d12 : x1 ≠ x2) (d13 : x1 ≠ x3) (d23 : x2 ≠ x3)
    (hq : ∀ h' tk m', h'.Ns C m' → (m' x1 = some a ∧ m' x2 = some b ∧ m' x3 = some c) → (∀ b o, b ≠ C → s.heap.get? b = some o → h'.get? b = some o) → Q () { s with heap := h', toks := tk }) :
    wpAny (model prog w) A (assign (.Tuple [.Name x1 p1, .Name x2 p2, .Name x3 p3] k pos) (compEnvC scope cl C env) (.ref T)) Q E s := by
  refine wpAny_assign_Tuple hh hT (by rfl) (by rfl) fun h4 he4 => ?_
  have hns4 := nsUp hns he4
  show wpAny _ _ (assignInOrder (_ :: _ :: _ :: []) [_, _, _]) _ _ _
  refine assignInOrder_cons (wpAny_assign_Name (storeC h1 hkind hns4 fun h5 hns5 hk5 => ?_))
  refine assignInOrder_cons (wpAny_assign_Name (storeC h2 hkind hns5 fun h6 hns6 hk6 => ?_))
  refine assignInOrder_cons (wpAny_assign_Name (storeC h3 hkind hns6 fun h7 hns7 hk7 => ?_))
  refine assignInOrder_nil (hq h7 _ _ hns7 ⟨?_, ?_, ?_⟩ fun b o hb e => hk7 b o hb (hk6 b o hb (hk5 b o hb (he4 b o (Nat.ne_of_lt (Heap.lt_size e)) e))))
  · simp [d12, d13]
  · simp [d23]
  · simp
theorem assign4 {x1 x2 x3 x4 : Str} {p1 p2 p3 p4 pos : Pos} {k : Nat} {T : Addr} {a b c d : Value} {Q : Unit → Shared → Prop} (hh : A.handled = none) (hT : s.heap.IsTuple T #[a, b, c, d]) (hns : s.heap.Ns C m)
    (h1 : scope.names.lookup x1 = some .local) (h2 : scope.names.lookup x2 = some .local) (h3 : scope.names.lookup x3 = some .local) (h4 : scope.names.lookup x4 = some .local) (hkind : scope.kind = .function) (d12 : x1 ≠ x2) (d13 : x1 ≠ x3) (d23 : x2 ≠ x3) (d14 : x1 ≠ x4) (d24 : x2 ≠ x4) (d34 : x3 ≠ x4)
    (hq : ∀ h' tk m', h'.Ns C m' → (m' x1 = some a ∧ m' x2 = some b ∧ m' x3 = some c ∧ m' x4 = some d) → (∀ b o, b ≠ C → s.heap.get? b = some o → h'.get? b = some o) → Q () { s with heap := h', toks := tk }) :
    wpAny (model prog w) A (assign (.Tuple [.Name x1 p1, .Name x2 p2, .Name x3 p3, .Name x4 p4] k pos) (compEnvC scope cl C env) (.ref T)) Q E s := by
  refine wpAny_assign_Tuple hh hT (by rfl) (by rfl) fun h4' he4 => ?_
  have hns4 := nsUp hns he4
  show wpAny _ _ (assignInOrder (_ :: _ :: _ :: _ :: []) [_, _, _, _]) _ _ _
  refine assignInOrder_cons (wpAny_assign_Name (storeC h1 hkind hns4 fun h5 hns5 hk5 => ?_))
  refine assignInOrder_cons (wpAny_assign_Name (storeC h2 hkind hns5 fun h6 hns6 hk6 => ?_))
  refine assignInOrder_cons (wpAny_assign_Name (storeC h3 hkind hns6 fun h7 hns7 hk7 => ?_))
  refine assignInOrder_cons (wpAny_assign_Name (storeC h4 hkind hns7 fun h8 hns8 hk8 => ?_))
  refine assignInOrder_nil (hq h8 _ _ hns8 ⟨?_, ?_, ?_, ?_⟩ fun b o hb e => hk8 b o hb (hk7 b o hb (hk6 b o hb (hk5 b o hb (he4 b o (Nat.ne_of_lt (Heap.lt_size e)) e)))))
  · simp [d12, d13, d14]
  · simp [d23, d24]
  · simp [d34]
  · simp
end
end Mine

namespace Mine

abbrev IsTrip (h : Heap) (T : Addr) (a b c : Value) : Prop := h.get? T = some { cls := .type "tuple", data := .seq #[a, b, c] }

section
variable {prog : Program} {w : World} {A : Around} {E : Value → Shared → Prop} {s : Shared}

theorem nextOf_tuple_item {it t : Addr} {i : Nat} {items} {x : Value} {Q : Value → Shared → Prop} (hit : s.heap.IsTupleIter it t i)
    (ht : s.heap.IsTuple t items) (hx : items[i]? = some x)
    (hQ : ∀ h', h'.IsTupleIter it t (i + 1) → Heap.SameBut it s.heap h' → Q x { s with heap := h' }) :
    wpAny (model prog w) A (Builtin.SmallTypes.nextOf (.ref it)) Q E s := by
  obtain ⟨o, ho, hc, hd⟩ := id hit
  obtain ⟨ol, hol, _, nl, hdl⟩ := ht
  unfold Builtin.SmallTypes.nextOf
  refine wpAny_bind (wpAny_callSpecial?_slot (name := Str.ofString "__next__") hit.typeIs PySem.F.slot_tuple_iterator_next
    (wpAny_call_entry PySem.F.slot_tuple_iterator_next hit.typeIs PySem.F.entry_tuple_iterator_next ?_ (PySem.F.args_tuple_iterator_next_1 _)))
  show wpAny _ _ (field (.ref it) 0 >>= _) _ _ s
  refine wpAny_bind (wpAny_field ho hd (x := .ref t) rfl ?_)
  show wpAny _ _ (if (Value.ref t == Value.none) = true then _ else _) _ _ s
  rw [if_neg (show ¬ ((Value.ref t == Value.none) = true) from Bool.false_ne_true)]
  show wpAny _ _ (field (.ref it) 1 >>= _) _ _ s
  refine wpAny_bind (wpAny_field ho hd (x := .int i 0) rfl ?_)
  show wpAny _ _ (seqItems? (.ref t) >>= _) _ _ s
  refine wpAny_bind (wpAny_seqItems hol hdl ?_)
  simp only [Int.toNat_natCast, hx]
  refine wpAny_bind (wpAny_setField ho hd (by simp) (wpAny_pure ⟨x, rfl, wpAny_pure (hQ _ ?_ (Heap.SameBut.update ..))⟩))
  exact ⟨_, Heap.get?_update_self _ ho (Obj.isFreed_of_fields (Obj.data_mapFields hd _)), (Obj.cls_mapFields ..).trans hc, by
    rw [Obj.data_mapFields hd]; simp [rawInt]⟩

theorem updateSeq_trip {T : Addr} {a b c x : Value} {k : Nat} {Q : Unit → Shared → Prop} (hT : IsTrip s.heap T a b c)
    (h : ∀ h', h'.get? T = some { cls := .type "tuple", data := .seq ((#[a, b, c] : Array Value).setIfInBounds k x) } → Heap.SameBut T s.heap h' → Q () { s with heap := h' }) :
    wpAny (model prog w) A (updateSeq T (·.setIfInBounds k x)) Q E s := by
  refine wpAny_updateSeq hT rfl (h _ ?_ (Heap.SameBut.update ..))
  rw [Heap.get?_update_self _ hT rfl]
  simp [Obj.mapSeq]

structure Z3 (n l1 l2 l3 : Addr) (xs ys zs : Array Value) (k : Nat) (f0 : Value) (h : Heap) : Prop where
  z : IsZip h (n + 5) (n + 3) (n + 4) f0
  TI : IsTrip h (n + 3) (.ref n) (.ref (n + 1)) (.ref (n + 2))
  TO : ∃ a b c, IsTrip h (n + 4) a b c
  i1 : h.IsListIter n l1 k
  i2 : h.IsTupleIter (n + 1) l2 k
  i3 : h.IsTupleIter (n + 2) l3 k
  l1 : h.IsList l1 xs
  l2 : h.IsTuple l2 ys
  l3 : h.IsTuple l3 zs

theorem tupAt {h h' : Heap} {a : Addr} {items : Array Value} (x : h.IsTuple a items) (e : ∀ o, h.get? a = some o → h'.get? a = some o) : h'.IsTuple a items := let ⟨o, ho, r⟩ := x; ⟨o, e _ ho, r⟩

theorem Z3.frame {n l1 l2 l3 : Addr} {xs ys zs : Array Value} {k : Nat} {f0 : Value} {h h' : Heap} (Z : Z3 n l1 l2 l3 xs ys zs k f0 h) (hk : ∀ b ∈ [n + 5, n + 4, n, n + 1, n + 2, n + 3, l1, l2, l3], ∀ o, h.get? b = some o → h'.get? b = some o) : Z3 n l1 l2 l3 xs ys zs k f0 h' :=
  let ⟨a, b, c, e⟩ := Z.TO
  ⟨hk _ (by simp) _ Z.z, hk _ (by simp) _ Z.TI, ⟨a, b, c, hk _ (by simp) _ e⟩, Z.i1.at fun o e => hk _ (by simp) o e, Z.i2.at fun o e => hk _ (by simp) o e, Z.i3.at fun o e => hk _ (by simp) o e,
    Z.l1.at fun o e => hk _ (by simp) o e, tupAt Z.l2 fun o e => hk _ (by simp) o e, tupAt Z.l3 fun o e => hk _ (by simp) o e⟩

theorem ne_of (a b : Nat) (h : a < b ∨ b < a) : a ≠ b := by omega

theorem notIn5 (n c : Nat) (h : c < n ∨ c = n + 3 ∨ n + 5 < c) : c ∉ [n + 5, n + 4, n, n + 1, n + 2] := by
  simp only [List.mem_cons, List.not_mem_nil, or_false]
  omega

set_option maxHeartbeats 1000000 in
theorem zip3_next_item {n l1 l2 l3 : Addr} {k : Nat} {xs ys zs : Array Value} {x y z : Value} {Q : Value → Shared → Prop} (hl1 : @LT.lt Nat instLTNat l1 n) (hl2 : @LT.lt Nat instLTNat l2 n) (hl3 : @LT.lt Nat instLTNat l3 n)
    (Z : Z3 n l1 l2 l3 xs ys zs k .none s.heap) (hx : xs[k]? = some x) (hy : ys[k]? = some y) (hz : zs[k]? = some z)
    (hQ : ∀ h', Z3 n l1 l2 l3 xs ys zs (k + 1) (rawInt s.heap.objs.size) h' → IsTrip h' s.heap.objs.size x y z →
      (∀ c o, c ∉ [n + 5, n + 4, n, n + 1, n + 2] → s.heap.get? c = some o → h'.get? c = some o) → Q (.ref s.heap.objs.size) { s with heap := h' }) :
    wpAny (model prog w) A (Builtin.«zip.__next__» ⟨[.ref (n + 5)], []⟩) (fun fin s' => ∃ v, fin = .done (.ret v) ∧ Q v s') E s := by
  obtain ⟨hzip, hTI, ⟨a, b, c, hTO⟩, h1, h2, h3, hL1, hL2, hL3⟩ := Z
  show wpAny _ _ (field (.ref (n + 5)) 2 >>= _) _ _ _
  refine wpAny_bind (wpAny_field hzip rfl (x := .bool false) rfl ?_)
  show wpAny _ _ (field (.ref (n + 5)) 3 >>= _) _ _ _
  refine wpAny_bind (wpAny_field hzip rfl (x := .ref (n + 3)) rfl ?_)
  refine wpAny_bind (wpAny_seqItems hTI rfl ?_)
  show wpAny _ _ (Builtin.SmallTypes.ownedTupleIsFree (.ref (n + 5)) >>= _) _ _ _
  refine wpAny_bind ?_
  unfold Builtin.SmallTypes.ownedTupleIsFree
  refine wpAny_bind (wpAny_field hzip rfl (x := .none) rfl (wpAny_pure ?_))
  simp only [if_true]
  refine wpAny_bind (wpAny_rule ?_)
  refine wpAny_bind (wpAny_field hzip rfl (x := .ref (n + 4)) rfl ?_)
  refine wpAny_bind (wpAny_setField_rec hzip (by simp) fun h₁ hz₁ hs₁ => ?_)
  replace hz₁ : IsZip h₁ (n + 5) (n + 3) (n + 4) .ellipsis := hz₁
  refine wpAny_bind ?_
  simp only [List.zipIdx_cons, List.zipIdx_nil, List.forIn_cons, List.forIn_nil]
  refine wpAny_bind (wpAny_bind (wpAny_onRaise ?_))
  show wpAny _ _ (Builtin.SmallTypes.nextOf (.ref n) >>= _) _ _ _
  refine wpAny_bind (wpAny_nextOf_list_item (h1.extBut hs₁.extBut (ne_of _ _ (by omega))) (hL1.extBut hs₁.extBut (ne_of _ _ (by omega))) hx fun h₂ h1₂ hs₂ => wpAny_pure ?_)
  have hTO₂ : IsTrip h₂ (n + 4) a b c := hs₂.extBut _ _ (ne_of _ _ (by omega)) (hs₁.extBut _ _ (ne_of _ _ (by omega)) hTO)
  refine wpAny_bind (wpAny_seqItems hTO₂ rfl ?_)
  refine wpAny_bind (updateSeq_trip hTO₂ fun h₃ hTO₃ hs₃ => ?_)
  replace hTO₃ : IsTrip h₃ (n + 4) x b c := hTO₃
  refine wpAny_bind (wpAny_letGo (wpAny_pure ?_))
  refine wpAny_bind (wpAny_bind (wpAny_onRaise ?_))
  show wpAny _ _ (Builtin.SmallTypes.nextOf (.ref (n + 1)) >>= _) _ _ _
  refine wpAny_bind (nextOf_tuple_item (((h2.extBut hs₁.extBut (ne_of _ _ (by omega))).extBut hs₂.extBut (ne_of _ _ (by omega))).extBut hs₃.extBut (ne_of _ _ (by omega)))
    (((hL2.extBut hs₁.extBut (ne_of _ _ (by omega))).extBut hs₂.extBut (ne_of _ _ (by omega))).extBut hs₃.extBut (ne_of _ _ (by omega))) hy fun h₄ h2₄ hs₄ => wpAny_pure ?_)
  have hTO₄ : IsTrip h₄ (n + 4) x b c := hs₄.extBut _ _ (ne_of _ _ (by omega)) hTO₃
  refine wpAny_bind (wpAny_seqItems hTO₄ rfl ?_)
  refine wpAny_bind (updateSeq_trip hTO₄ fun h₅ hTO₅ hs₅ => ?_)
  replace hTO₅ : IsTrip h₅ (n + 4) x y c := hTO₅
  refine wpAny_bind (wpAny_letGo (wpAny_pure ?_))
  refine wpAny_bind (wpAny_bind (wpAny_onRaise ?_))
  show wpAny _ _ (Builtin.SmallTypes.nextOf (.ref (n + 2)) >>= _) _ _ _
  refine wpAny_bind (nextOf_tuple_item (((((h3.extBut hs₁.extBut (ne_of _ _ (by omega))).extBut hs₂.extBut (ne_of _ _ (by omega))).extBut hs₃.extBut (ne_of _ _ (by omega))).extBut hs₄.extBut (ne_of _ _ (by omega))).extBut hs₅.extBut (ne_of _ _ (by omega)))
    (((((hL3.extBut hs₁.extBut (ne_of _ _ (by omega))).extBut hs₂.extBut (ne_of _ _ (by omega))).extBut hs₃.extBut (ne_of _ _ (by omega))).extBut hs₄.extBut (ne_of _ _ (by omega))).extBut hs₅.extBut (ne_of _ _ (by omega))) hz fun h₆ h3₆ hs₆ => wpAny_pure ?_)
  have hTO₆ : IsTrip h₆ (n + 4) x y c := hs₆.extBut _ _ (ne_of _ _ (by omega)) hTO₅
  refine wpAny_bind (wpAny_seqItems hTO₆ rfl ?_)
  refine wpAny_bind (updateSeq_trip hTO₆ fun h₇ hTO₇ hs₇ => ?_)
  replace hTO₇ : IsTrip h₇ (n + 4) x y z := hTO₇
  refine wpAny_bind (wpAny_letGo (wpAny_pure (wpAny_pure ?_)))
  refine wpAny_bind (wpAny_seqItems hTO₇ rfl ?_)
  refine wpAny_bind (wpAny_newTuple ?_)
  have hsz : h₇.objs.size = s.heap.objs.size := by rw [hs₇.1, hs₆.1, hs₅.1, hs₄.1, hs₃.1, hs₂.1, hs₁.1]
  have hk₇ : ∀ c o, c ∉ [n + 5, n + 4, n, n + 1, n + 2] → s.heap.get? c = some o → h₇.get? c = some o := fun c o hc e => by
    simp only [List.mem_cons, List.not_mem_nil, or_false, not_or] at hc
    obtain ⟨c1, c2, c3, c4, c5⟩ := hc
    exact hs₇.extBut _ _ c2 (hs₆.extBut _ _ c5 (hs₅.extBut _ _ c2 (hs₄.extBut _ _ c4 (hs₃.extBut _ _ c2 (hs₂.extBut _ _ c3 (hs₁.extBut _ _ c1 e))))))
  have hz₇ : IsZip h₇ (n + 5) (n + 3) (n + 4) .ellipsis := hs₇.extBut _ _ (ne_of _ _ (by omega)) (hs₆.extBut _ _ (ne_of _ _ (by omega)) (hs₅.extBut _ _ (ne_of _ _ (by omega)) (hs₄.extBut _ _ (ne_of _ _ (by omega)) (hs₃.extBut _ _ (ne_of _ _ (by omega)) (hs₂.extBut _ _ (ne_of _ _ (by omega)) hz₁)))))
  have h1₇ : h₇.IsListIter n l1 (k + 1) := ((((h1₂.extBut hs₃.extBut (ne_of _ _ (by omega))).extBut hs₄.extBut (ne_of _ _ (by omega))).extBut hs₅.extBut (ne_of _ _ (by omega))).extBut hs₆.extBut (ne_of _ _ (by omega))).extBut hs₇.extBut (ne_of _ _ (by omega))
  have h2₇ : h₇.IsTupleIter (n + 1) l2 (k + 1) := ((h2₄.extBut hs₅.extBut (ne_of _ _ (by omega))).extBut hs₆.extBut (ne_of _ _ (by omega))).extBut hs₇.extBut (ne_of _ _ (by omega))
  have h3₇ : h₇.IsTupleIter (n + 2) l3 (k + 1) := h3₆.extBut hs₇.extBut (ne_of _ _ (by omega))
  have out := notIn5 n
  have Z₇ : Z3 n l1 l2 l3 xs ys zs (k + 1) .ellipsis h₇ := ⟨hz₇, hk₇ _ _ (out _ (by omega)) hTI, ⟨x, y, z, hTO₇⟩, h1₇, h2₇, h3₇, hL1.at fun o e => hk₇ _ o (out _ (.inl hl1)) e, tupAt hL2 fun o e => hk₇ _ o (out _ (.inl hl2)) e, tupAt hL3 fun o e => hk₇ _ o (out _ (.inl hl3)) e⟩
  have hzlt : n + 5 < h₇.objs.size := Heap.lt_size hz₇
  show wpAny _ _ (Builtin.SmallTypes.ownedTupleHandOut (.ref (n + 5)) (.ref h₇.objs.size) >>= _) _ _ _
  refine wpAny_bind ?_
  unfold Builtin.SmallTypes.ownedTupleHandOut
  have hz₈ : IsZip (h₇.push { cls := .type "tuple", data := .seq #[x, y, z] }) (n + 5) (n + 3) (n + 4) .ellipsis := Heap.get?_push_of_some _ hz₇
  refine wpAny_bind (wpAny_setField_rec hz₈ (by simp) fun h₉ hz₉ hs₉ => ?_)
  replace hz₉ : IsZip h₉ (n + 5) (n + 3) (n + 4) (rawInt h₇.objs.size) := hz₉
  refine wpAny_setField_rec hz₉ (by simp) fun h₁₀ hz₁₀ hs₁₀ => ?_
  replace hz₁₀ : IsZip h₁₀ (n + 5) (n + 3) (n + 4) (rawInt h₇.objs.size) := hz₁₀
  have up : ∀ c o, c ≠ n + 5 → h₇.get? c = some o → h₁₀.get? c = some o := fun c o c1 e => hs₁₀.extBut _ _ c1 (hs₉.extBut _ _ c1 (Heap.get?_push_of_some _ e))
  have hT₁₀ : IsTrip h₁₀ h₇.objs.size x y z := hs₁₀.extBut _ _ (Nat.ne_of_gt hzlt) (hs₉.extBut _ _ (Nat.ne_of_gt hzlt) (Heap.get?_push_size _ rfl))
  have Z₁₀ : Z3 n l1 l2 l3 xs ys zs (k + 1) (rawInt h₇.objs.size) h₁₀ := by
    refine ⟨hz₁₀, up _ _ (ne_of _ _ (by omega)) Z₇.TI, ⟨x, y, z, up _ _ (ne_of _ _ (by omega)) hTO₇⟩, Z₇.i1.at fun o e => up _ o (ne_of _ _ (by omega)) e, Z₇.i2.at fun o e => up _ o (ne_of _ _ (by omega)) e, Z₇.i3.at fun o e => up _ o (ne_of _ _ (by omega)) e,
      Z₇.l1.at fun o e => up _ o (ne_of _ _ (by omega)) e, tupAt Z₇.l2 fun o e => up _ o (ne_of _ _ (by omega)) e, tupAt Z₇.l3 fun o e => up _ o (ne_of _ _ (by omega)) e⟩
  rw [hsz] at Z₁₀ hT₁₀
  refine wpAny_pure ⟨_, rfl, ?_⟩
  show Q (.ref h₇.objs.size) _
  rw [hsz]
  exact hQ h₁₀ Z₁₀ hT₁₀ fun c o hc e => up c o (fun h => hc (by simp [h])) (hk₇ c o hc e)

theorem zip3_next_end {n l1 l2 l3 : Addr} {k : Nat} {xs ys zs : Array Value} {Q : Fin → Shared → Prop} (hh : A.handled = none) (hl1 : @LT.lt Nat instLTNat l1 n)
    (Z : Z3 n l1 l2 l3 xs ys zs k .none s.heap) (hx : xs[k]? = none)
    (hE : ∀ h' e, (∀ c o, c ∉ [n + 5, n + 4, n, n + 1, n + 2] → s.heap.get? c = some o → h'.get? c = some o) → (∃ o, h'.get? e = some o ∧ o.cls = .type "StopIteration") → E (.ref e) { s with heap := h' }) :
    wpAny (model prog w) A (Builtin.«zip.__next__» ⟨[.ref (n + 5)], []⟩) Q E s := by
  obtain ⟨hzip, hTI, ⟨a, b, c, hTO⟩, h1, h2, h3, hL1, hL2, hL3⟩ := Z
  show wpAny _ _ (field (.ref (n + 5)) 2 >>= _) _ _ _
  refine wpAny_bind (wpAny_field hzip rfl (x := .bool false) rfl ?_)
  show wpAny _ _ (field (.ref (n + 5)) 3 >>= _) _ _ _
  refine wpAny_bind (wpAny_field hzip rfl (x := .ref (n + 3)) rfl ?_)
  refine wpAny_bind (wpAny_seqItems hTI rfl ?_)
  show wpAny _ _ (Builtin.SmallTypes.ownedTupleIsFree (.ref (n + 5)) >>= _) _ _ _
  refine wpAny_bind ?_
  unfold Builtin.SmallTypes.ownedTupleIsFree
  refine wpAny_bind (wpAny_field hzip rfl (x := .none) rfl (wpAny_pure ?_))
  simp only [if_true]
  refine wpAny_bind (wpAny_rule ?_)
  refine wpAny_bind (wpAny_field hzip rfl (x := .ref (n + 4)) rfl ?_)
  refine wpAny_bind (wpAny_setField_rec hzip (by simp) fun h₁ hz₁ hs₁ => ?_)
  replace hz₁ : IsZip h₁ (n + 5) (n + 3) (n + 4) .ellipsis := hz₁
  refine wpAny_bind ?_
  simp only [List.zipIdx_cons, List.zipIdx_nil, List.forIn_cons, List.forIn_nil]
  refine wpAny_bind (wpAny_bind (wpAny_onRaise ?_))
  show wpAny _ _ (Builtin.SmallTypes.nextOf (.ref n) >>= _) _ _ _
  refine wpAny_bind (wpAny_nextOf_list_end hh (h1.extBut hs₁.extBut (ne_of _ _ (by omega))) (hL1.extBut hs₁.extBut (ne_of _ _ (by omega))) hx fun h₂ e hs₂ he => ?_)
  obtain ⟨oe, hoe, hce⟩ := he
  have hz₂ : IsZip h₂ (n + 5) (n + 3) (n + 4) .ellipsis := hs₂ _ _ (ne_of _ _ (by omega)) hz₁
  have hez : e ≠ n + 5 := fun x => by subst x; rw [hz₂] at hoe; cases hoe; simp at hce
  refine wpAny_setField_rec hz₂ (by simp) fun h₃ _ hs₃ => hE h₃ e (fun c o hc x => ?_) ⟨oe, hs₃.extBut _ _ hez hoe, hce⟩
  simp only [List.mem_cons, List.not_mem_nil, or_false, not_or] at hc
  exact hs₃.extBut _ _ hc.1 (hs₂ _ _ hc.2.2.1 (hs₁.extBut _ _ hc.1 x))

theorem zip3_item {n l1 l2 l3 : Addr} {k : Nat} {xs ys zs : Array Value} {x y z : Value} {Q : Option Value → Shared → Prop} (hl1 : @LT.lt Nat instLTNat l1 n) (hl2 : @LT.lt Nat instLTNat l2 n) (hl3 : @LT.lt Nat instLTNat l3 n)
    (Z : Z3 n l1 l2 l3 xs ys zs k .none s.heap) (hx : xs[k]? = some x) (hy : ys[k]? = some y) (hz : zs[k]? = some z)
    (hQ : ∀ h', Z3 n l1 l2 l3 xs ys zs (k + 1) (rawInt s.heap.objs.size) h' → IsTrip h' s.heap.objs.size x y z →
      (∀ c o, c ∉ [n + 5, n + 4, n, n + 1, n + 2] → s.heap.get? c = some o → h'.get? c = some o) → Q (some (.ref s.heap.objs.size)) { s with heap := h' }) :
    wpAny (model prog w) A (pyNext (.ref (n + 5))) Q E s := by
  have hT : s.TypeIs (.ref (n + 5)) "zip" := ⟨_, Z.z, rfl⟩
  unfold pyNext
  exact wpAny_bind (wpAny_attempt (wpAny_callSpecial?_slot (name := Str.ofString "__next__") hT PySem.F.slot_zip_next
    (wpAny_call_entry PySem.F.slot_zip_next hT PySem.F.entry_zip_next
      (zip3_next_item hl1 hl2 hl3 Z hx hy hz fun h' a1 a2 a3 => wpAny_pure (hQ h' a1 a2 a3)) (PySem.F.args_zip_next_1 _))))

theorem zip3_end {n l1 l2 l3 : Addr} {k : Nat} {xs ys zs : Array Value} {Q : Option Value → Shared → Prop} (hh : A.handled = none) (hl1 : @LT.lt Nat instLTNat l1 n)
    (Z : Z3 n l1 l2 l3 xs ys zs k .none s.heap) (hx : xs[k]? = none)
    (hQ : ∀ h', (∀ c o, c ∉ [n + 5, n + 4, n, n + 1, n + 2] → s.heap.get? c = some o → h'.get? c = some o) → Q none { s with heap := h' }) : wpAny (model prog w) A (pyNext (.ref (n + 5))) Q E s := by
  have hT : s.TypeIs (.ref (n + 5)) "zip" := ⟨_, Z.z, rfl⟩
  unfold pyNext
  refine wpAny_bind (wpAny_attempt (wpAny_callSpecial?_slot (name := Str.ofString "__next__") hT PySem.F.slot_zip_next
    (wpAny_call_entry PySem.F.slot_zip_next hT PySem.F.entry_zip_next (zip3_next_end hh hl1 Z hx fun h' e hk he => ?_) (PySem.F.args_zip_next_1 _))))
  obtain ⟨o, ho, hc⟩ := he
  refine wpAny_bind (wpAny_isInstance (T := "StopIteration") (b := true) ⟨o, ho, hc⟩ isSubtype_stop ?_)
  exact wpAny_pure (hQ _ hk)

theorem WalksM.zip3 {elts : List Expr} {x1 : Nat} {pos : Pos} (hh : A.handled = none) {n l1 l2 l3 : Addr} (xs ys zs : Array Value) (hl1 : @LT.lt Nat instLTNat l1 n) (hl2 : @LT.lt Nat instLTNat l2 n) (hl3 : @LT.lt Nat instLTNat l3 n)
    (hs2 : ys.size = xs.size) (hs3 : zs.size = xs.size) :
    WalksM prog w A (.Tuple elts x1 pos) (n + 5) [n + 5, n + 4, n, n + 1, n + 2, n + 3, l1, l2, l3] [n + 5, n + 4, n, n + 1, n + 2] xs.size
      (fun k h => Z3 n l1 l2 l3 xs ys zs k .none h)
      (fun k v h => ∃ T x y z, v = .ref T ∧ @LT.lt Nat instLTNat (n + 5) T ∧ xs[k]? = some x ∧ ys[k]? = some y ∧ zs[k]? = some z ∧ Z3 n l1 l2 l3 xs ys zs (k + 1) (rawInt T) h ∧ IsTrip h T x y z)
      (fun k v h => ∃ T x y z, v = .ref T ∧ xs[k]? = some x ∧ ys[k]? = some y ∧ zs[k]? = some z ∧ IsTrip h T x y z) where
  sub := fun b hb => by
    simp only [List.mem_cons, List.not_mem_nil, or_false] at hb ⊢
    rcases hb with h | h | h | h | h <;> simp [h]
  frame := fun k h h' Z hk => Z.frame hk
  item := fun k s Q E hk Z hQ => by
    have hx : xs[k]? = some xs[k] := by simp [hk]
    have hky : k < ys.size := by omega
    have hkz : k < zs.size := by omega
    have hy : ys[k]? = some ys[k] := by simp [hky]
    have hz : zs[k]? = some zs[k] := by simp [hkz]
    refine zip3_item hl1 hl2 hl3 Z hx hy hz fun h' Z' hT hk' => ?_
    exact hQ _ h' s.toks ⟨_, _, _, _, rfl, Heap.lt_size Z.z, hx, hy, hz, Z', hT⟩ hk'
  go := fun k v s Q E hm hQ => by
    obtain ⟨T, x, y, z, rfl, hlt, hx, hy, hz, Z, hT⟩ := hm
    refine wpAny_letOwnedTupleGo_zip Z.z fun h' hz' hs' => hQ h' ?_ ⟨T, x, y, z, rfl, hx, hy, hz, hs'.extBut _ _ (ne_of _ _ (by omega)) hT⟩ fun c o hc e => hs'.extBut _ _ (fun h => hc (by simp [h])) e
    have up : ∀ c o, c ≠ n + 5 → s.heap.get? c = some o → h'.get? c = some o := fun c o c1 e => hs'.extBut _ _ c1 e
    obtain ⟨a, b, c, hTO⟩ := Z.TO
    exact ⟨hz', up _ _ (ne_of _ _ (by omega)) Z.TI, ⟨a, b, c, up _ _ (ne_of _ _ (by omega)) hTO⟩, Z.i1.at fun o e => up _ o (ne_of _ _ (by omega)) e, Z.i2.at fun o e => up _ o (ne_of _ _ (by omega)) e, Z.i3.at fun o e => up _ o (ne_of _ _ (by omega)) e,
      Z.l1.at fun o e => up _ o (ne_of _ _ (by omega)) e, tupAt Z.l2 fun o e => up _ o (ne_of _ _ (by omega)) e, tupAt Z.l3 fun o e => up _ o (ne_of _ _ (by omega)) e⟩
  done := fun s Q E Z hQ => zip3_end hh hl1 Z (by simp) fun h' hk => hQ h' s.toks hk
  self := fun k s Q E Z hQ => wpAny_pyIter_zip Z.z hQ
end

theorem typeCall_zip_3 (a b c : Value) : checkTypeCall "zip" ⟨[a, b, c], []⟩ = pure () := by kernel_rfl
theorem newCall_zip_3 (a b c : Value) : checkBuiltinCall "zip.__new__" ⟨[.type "zip", a, b, c], []⟩ = pure () := by kernel_rfl
theorem args_object_init_4 (a b c d : Value) : argsOk "object.__init__" ⟨[a, b, c, d], []⟩ := by
  unfold argsOk; rw [signature?_of (id := "object.__init__") (n := ['_', '_', 't', 'i', 'n', 'i', '_', '_']) (o := ['t', 'c', 'e', 'j', 'b', 'o']) (by kernel_rfl) PySem.F.owner_object]; kernel_rfl

abbrev zA (h : Heap) (l1 : Addr) : Heap := h.push { cls := .type "list_iterator", data := .fields #[.ref l1, .int 0 0] }
abbrev zB (h : Heap) (l1 l2 : Addr) : Heap := (zA h l1).push { cls := .type "tuple_iterator", data := .fields #[.ref l2, .int 0 0] }
abbrev zC (h : Heap) (l1 l2 l3 : Addr) : Heap := (zB h l1 l2).push { cls := .type "tuple_iterator", data := .fields #[.ref l3, .int 0 0] }
abbrev zD (h : Heap) (l1 l2 l3 : Addr) : Heap := (zC h l1 l2 l3).push { cls := .type "tuple", data := .seq #[.ref h.objs.size, .ref (zA h l1).objs.size, .ref (zB h l1 l2).objs.size] }
abbrev zE (h : Heap) (l1 l2 l3 : Addr) : Heap := (zD h l1 l2 l3).push { cls := .type "tuple", data := .seq #[.none, .none, .none] }
abbrev zF (h : Heap) (l1 l2 l3 : Addr) : Heap := (zE h l1 l2 l3).push { cls := .type "zip", data := .fields #[.none, .bool false, .bool false, .ref (zC h l1 l2 l3).objs.size, .ref (zD h l1 l2 l3).objs.size] }

set_option maxHeartbeats 2000000 in
theorem meets_zip3_new (l1 l2 l3 : Addr) (xs ys zs : Array Value) :
    Meets (Builtin.«zip.__new__» ⟨[.type "zip", .ref l1, .ref l2, .ref l3], []⟩) (fun _ R s => s.heap.IsList l1 xs ∧ s.heap.IsTuple l2 ys ∧ s.heap.IsTuple l3 zs ∧
      R (.ok (.ret (.ref (zE s.heap l1 l2 l3).objs.size))) { s with heap := zF s.heap l1 l2 l3 }) :=
  .of_wp fun prog w A R s h => by
    obtain ⟨hp, g, d, tk, os⟩ := s; obtain ⟨hl1, hl2, hl3, h⟩ := h
    have hsub := sub_zip
    have hL1 : Heap.IsList (Shared.heap ⟨hp, g, d, tk, os⟩) l1 xs := hl1
    have hL2 : Heap.IsTuple (Shared.heap ⟨hp.push { cls := .type "list_iterator", data := .fields #[.ref l1, .int 0 0] }, g, d, tk, os⟩) l2 ys := Heap.IsTuple.push hl2 _
    have hL3 : Heap.IsTuple (Shared.heap ⟨(hp.push { cls := .type "list_iterator", data := .fields #[.ref l1, .int 0 0] }).push { cls := .type "tuple_iterator", data := .fields #[.ref l2, .int 0 0] }, g, d, tk, os⟩) l3 zs := Heap.IsTuple.push (Heap.IsTuple.push hl3 _) _
    wp_walk using wpAny_pyIter_list hL1, wpAny_pyIter_tuple hL2, wpAny_pyIter_tuple hL3
    exact ⟨_, rfl, h⟩

section
variable {prog : Program} {w : World} {A : Around} {E : Value → Shared → Prop} {s : Shared}
theorem call_zip_3 {l1 l2 l3 : Addr} {xs ys zs : Array Value} {Q : Value → Shared → Prop} (hl1 : s.heap.IsList l1 xs) (hl2 : s.heap.IsTuple l2 ys) (hl3 : s.heap.IsTuple l3 zs)
    (h : ∀ h', Z3 s.heap.objs.size l1 l2 l3 xs ys zs 0 .none h' → h'.objs.size = s.heap.objs.size + 6 →
      (∀ c o, s.heap.get? c = some o → h'.get? c = some o) → Q (.ref (s.heap.objs.size + 5)) { s with heap := h' }) :
    wpAny (model prog w) A (call (.type "zip") [.ref l1, .ref l2, .ref l3]) Q E s := by
  refine callType_new PySem.F.called_zip (by decide) (typeCall_zip_3 _ _ _) (newCall_zip_3 _ _ _) (fun obj => args_object_init_4 obj _ _ _) PySem.F.entry_zip_new
    (meets_zip3_new l1 l2 l3 xs ys zs) ⟨hl1, hl2, hl3, ?_⟩
  have z1 : (zA s.heap l1).objs.size = s.heap.objs.size + 1 := Heap.size_push ..
  have z2 : (zB s.heap l1 l2).objs.size = s.heap.objs.size + 2 := by rw [Heap.size_push, z1]
  have z3 : (zC s.heap l1 l2 l3).objs.size = s.heap.objs.size + 3 := by rw [Heap.size_push, z2]
  have z4 : (zD s.heap l1 l2 l3).objs.size = s.heap.objs.size + 4 := by rw [Heap.size_push, z3]
  have z5 : (zE s.heap l1 l2 l3).objs.size = s.heap.objs.size + 5 := by rw [Heap.size_push, z4]
  have z6 : (zF s.heap l1 l2 l3).objs.size = s.heap.objs.size + 6 := by rw [Heap.size_push, z5]
  have g6 : (zF s.heap l1 l2 l3).get? (zE s.heap l1 l2 l3).objs.size = some _ := Heap.get?_push_size _ rfl
  have g5 : (zF s.heap l1 l2 l3).get? (zD s.heap l1 l2 l3).objs.size = some _ := Heap.get?_push_of_some _ (Heap.get?_push_size _ rfl)
  have g4 : (zF s.heap l1 l2 l3).get? (zC s.heap l1 l2 l3).objs.size = some _ := Heap.get?_push_of_some _ (Heap.get?_push_of_some _ (Heap.get?_push_size _ rfl))
  have g3 : (zF s.heap l1 l2 l3).get? (zB s.heap l1 l2).objs.size = some _ := Heap.get?_push_of_some _ (Heap.get?_push_of_some _ (Heap.get?_push_of_some _ (Heap.get?_push_size _ rfl)))
  have g2 : (zF s.heap l1 l2 l3).get? (zA s.heap l1).objs.size = some _ := Heap.get?_push_of_some _ (Heap.get?_push_of_some _ (Heap.get?_push_of_some _ (Heap.get?_push_of_some _ (Heap.get?_push_size _ rfl))))
  have g1 : (zF s.heap l1 l2 l3).get? s.heap.objs.size = some _ := Heap.get?_push_of_some _ (Heap.get?_push_of_some _ (Heap.get?_push_of_some _ (Heap.get?_push_of_some _ (Heap.get?_push_of_some _ (Heap.get?_push_size _ rfl)))))
  have keep : ∀ c o, s.heap.get? c = some o → (zF s.heap l1 l2 l3).get? c = some o := fun c o x =>
    Heap.get?_push_of_some _ (Heap.get?_push_of_some _ (Heap.get?_push_of_some _ (Heap.get?_push_of_some _ (Heap.get?_push_of_some _ (Heap.get?_push_of_some _ x)))))
  show _ ∧ _
  rw [z3, z4, z5] at g6
  rw [z1, z2, z3] at g4
  rw [z4] at g5
  rw [z1] at g2
  rw [z2] at g3
  rw [z5]
  exact ⟨⟨_, g6, rfl⟩, h _ ⟨g6, g4, ⟨_, _, _, g5⟩, ⟨_, g1, rfl, rfl⟩, ⟨_, g2, rfl, rfl⟩, ⟨_, g3, rfl, rfl⟩, hl1.at fun o e => keep _ o e, tupAt hl2 fun o e => keep _ o e, tupAt hl3 fun o e => keep _ o e⟩ z6 keep⟩
end
end Mine

namespace Mine

abbrev Col := Int × Int × Int
abbrev PPair := Col × Int
def gput {β : Type} (l : List (Str × β)) (p : Str × β) : List (Str × β) :=
  if l.any (fun q => decide (q.1 = p.1)) then l.map (fun q => if q.1 = p.1 then p else q) else l ++ [p]
def gget {β : Type} (l : List (Str × β)) (k : Str) : Option β := (l.find? fun q => decide (q.1 = k)).map (·.2)
structure Pot where
  paints : List (Str × PPair)
  p1 : Int
  p2 : Int
  p3 : Int
  total : Int
def elderOf (st : Pot) (p : Paint) : PPair := (gget st.paints p.name).getD ((0, 0, 0), 0)
def potStep (st : Pot) (p : Paint) : Pot :=
  { paints := gput st.paints (p.name, ((p.r, p.g, p.b), p.parts)),
    p1 := st.p1 + p.parts * p.r - (elderOf st p).2 * (elderOf st p).1.1,
    p2 := st.p2 + p.parts * p.g - (elderOf st p).2 * (elderOf st p).1.2.1,
    p3 := st.p3 + p.parts * p.b - (elderOf st p).2 * (elderOf st p).1.2.2,
    total := st.total + p.parts - (elderOf st p).2 }
def potOf (ps : List Paint) : Pot := ps.foldl potStep ⟨[], 0, 0, 0, 0⟩
theorem potOf_snoc (ps : List Paint) (p : Paint) : potOf (ps ++ [p]) = potStep (potOf ps) p := by unfold potOf; rw [List.foldl_append]; rfl

def potLuma (st : Pot) : Int := 30 * st.p1 + 59 * st.p2 + 11 * st.p3
def vivid (st : Pot) (x : Int) : Int := min (max (300 * x - 2 * potLuma st) 0) (900 * st.total)
theorem max_val (a b : Int) (t u : Tok) : ∃ tm, (if b > a then Value.int b u else Value.int a t) = .int (max a b) tm := by
  split
  · exact ⟨u, by rw [show max a b = b by omega]⟩
  · exact ⟨t, by rw [show max a b = a by omega]⟩
theorem min_val (a b : Int) (t u : Tok) : ∃ tm, (if b < a then Value.int b u else Value.int a t) = .int (min a b) tm := by
  split
  · exact ⟨u, by rw [show min a b = b by omega]⟩
  · exact ⟨t, by rw [show min a b = a by omega]⟩
theorem pairs_stored {β : Type} {R : Value → β → Prop} {kvs : List (Str × Value)} {l : List (Str × β)} {k : Str} {v : Value} {b : β} (h : Paired (fun (x : Str × Value) (y : Str × β) => x.1 = y.1 ∧ R x.2 y.2) kvs l) (hv : R v b) :
    Paired (fun (x : Str × Value) (y : Str × β) => x.1 = y.1 ∧ R x.2 y.2) (stored kvs k v) (gput l (k, b)) := by
  have hany : (kvs.any fun kv => decide (kv.1 = k)) = (l.any fun q => decide (q.1 = k)) := by
    induction h with
    | nil => rfl
    | cons g _ ih => simp only [List.any_cons, ih, g.1]
  unfold stored gput
  simp only [hany]
  split
  · rename_i hh
    clear hany hh
    induction h with
    | nil => exact .nil
    | @cons a b l1 l2 g _ ih =>
      refine .cons ?_ ih
      obtain ⟨a1, a2⟩ := a
      obtain ⟨b1, b2⟩ := b
      obtain ⟨g1, g2⟩ := g
      dsimp only at g1 g2
      subst g1
      by_cases e : a1 = k
      · simpa [e] using hv
      · simpa [e] using g2
  · exact Paired.snoc h ⟨rfl, hv⟩
theorem pairs_get {β : Type} {R : Value → β → Prop} {kvs : List (Str × Value)} {l : List (Str × β)} {k : Str} (h : Paired (fun (x : Str × Value) (y : Str × β) => x.1 = y.1 ∧ R x.2 y.2) kvs l) :
    (valueAt kvs k = none ∧ gget l k = none) ∨ ∃ v b, valueAt kvs k = some v ∧ gget l k = some b ∧ R v b := by
  unfold valueAt gget
  induction h with
  | nil => exact .inl ⟨rfl, rfl⟩
  | @cons a b l1 l2 g _ ih =>
    obtain ⟨a1, a2⟩ := a
    obtain ⟨b1, b2⟩ := b
    obtain ⟨g1, g2⟩ := g
    dsimp only at g1 g2
    subst g1
    by_cases e : a1 = k
    · exact .inr ⟨a2, b2, by simp [e], by simp [e], g2⟩
    · simpa [e] using ih
theorem gput_len {β : Type} (l : List (Str × β)) (p : Str × β) : (gput l p).length ≤ l.length + 1 := by
  unfold gput; split <;> simp
theorem potOf_len (ps : List Paint) : (potOf ps).paints.length ≤ ps.length := by
  suffices h : ∀ (ps : List Paint) (st : Pot), (ps.foldl potStep st).paints.length ≤ st.paints.length + ps.length by
    have := h ps ⟨[], 0, 0, 0, 0⟩
    simpa [potOf] using this
  intro ps
  induction ps with
  | nil => intro st; simp
  | cons p ps ih =>
    intro st
    have h1 := ih (potStep st p)
    have h2 : (potStep st p).paints.length ≤ st.paints.length + 1 := gput_len _ _
    simp only [List.foldl_cons, List.length_cons]
    omega

/-- a stored paint -/
def EntryR (h₀ : Heap) (tl : List (Addr × Obj)) (v : Value) (q : PPair) : Prop :=
  0 ≤ q.2 ∧ q.2 ≤ 9 ∧ ∃ T c t u1 u2 u3, v = .ref T ∧ (T, tupOf #[.ref c, .int q.2 t]) ∈ tl ∧ h₀.get? c = some (tupOf #[.int q.1.1 u1, .int q.1.2.1 u2, .int q.1.2.2 u3])
theorem EntryR.mono {h₀ : Heap} {tl tl' : List (Addr × Obj)} {v : Value} {q : PPair} (h : EntryR h₀ tl v q) (hs : ∀ p ∈ tl, p ∈ tl') : EntryR h₀ tl' v q := by
  obtain ⟨a, b, T, c, t, u1, u2, u3, e, hm, hc⟩ := h
  exact ⟨a, b, T, c, t, u1, u2, u3, e, hs _ hm, hc⟩
def EntriesR (h₀ : Heap) (tl : List (Addr × Obj)) (kvs : List (Str × Value)) (l : List (Str × PPair)) : Prop := Paired (fun (x : Str × Value) (y : Str × PPair) => x.1 = y.1 ∧ EntryR h₀ tl x.2 y.2) kvs l
theorem EntriesR.mono {h₀ : Heap} {tl tl' : List (Addr × Obj)} {kvs : List (Str × Value)} {l : List (Str × PPair)} (h : EntriesR h₀ tl kvs l) (hs : ∀ p ∈ tl, p ∈ tl') : EntriesR h₀ tl' kvs l := by
  unfold EntriesR at h ⊢
  induction h with
  | nil => exact .nil
  | cons g _ ih => exact .cons ⟨g.1, g.2.mono hs⟩ ih

theorem three_of {l : List Value} {a b c : Int} (h : IntsAre l [a, b, c]) : ∃ t1 t2 t3, l = [.int a t1, .int b t2, .int c t3] := by
  cases h with | cons _ t1 h => cases h with | cons _ t2 h => cases h with | cons _ t3 h => cases h; exact ⟨t1, t2, t3, rfl⟩
def PotJ (prog : Program) (w : World) (h₀ : Heap) (ct cp cc cl d : Addr) (ps : List Paint) (i : Nat) (m : Str → Option Value) (news : List (Addr × Obj)) : Prop :=
  ∃ ot op oc ol od tl kvs P pv k tt xp xc xl, news = (ct, ot) :: (cp, op) :: (cc, oc) :: (cl, ol) :: (d, od) :: tl ∧ m "paints" = some (.ref d) ∧ m "pot" = some (.ref P) ∧ (P, listOf pv k) ∈ tl ∧
    IntsAre pv.toList [(potOf (ps.take i)).p1, (potOf (ps.take i)).p2, (potOf (ps.take i)).p3] ∧ ot.data = .cell (some (.int (potOf (ps.take i)).total tt)) ∧ op.data = .cell xp ∧ oc.data = .cell xc ∧ ol.data = .cell xl ∧
    od.IsDictOf (PySem.strKind prog w) kvs ∧ EntriesR h₀ tl kvs (potOf (ps.take i)).paints ∧ (∀ p ∈ tl, p.1 ≠ ct ∧ p.1 ≠ cp ∧ p.1 ≠ cc ∧ p.1 ≠ cl ∧ p.1 ≠ d) ∧ d ≠ ct ∧ d ≠ cp ∧ d ≠ cc ∧ d ≠ cl

section
variable {prog : Program} {w : World} {A : Around} {E : Value → Shared → Prop} {s : Shared} {h₀ : Heap} {L a : Addr} {m : Str → Option Value} {name : Str} {scope : Scope} {cd : Value} {x : Str} {news : List (Addr × Obj)} {c : Addr} {o : Obj}
/-- a cell of the frame's, stored -/
theorem cellSt2 {v : Value} {v₀ : Option Value} {Q : Unit → Shared → Prop} (rest : List (Addr × Obj)) (F : Fr h₀ L s.heap m) (N : News h₀ L s.heap news) (hm : (c, o) ∈ news) (hap : ∀ p ∈ rest, p ∈ news ∧ p.1 ≠ c) (hd : o.data = .cell v₀)
    (h : ∀ h' o', Fr h₀ L h' m → News h₀ L h' ((c, o') :: rest) → o'.data = .cell (some v) → Q () { s with heap := h' })
    (hc : (envOfC name scope L a cd).cells.lookup x = some c) (hk : scope.kind = .function) (hx : (envOfC name scope L a cd).kindOf x = some .cell) :
    wpAny (model prog w) A (storeName (envOfC name scope L a cd) x v) Q E s :=
  cellSt F (rest := rest) (fun p hp => by
    rcases List.mem_cons.mp hp with rfl | hp
    · exact N _ hm
    · exact N p (hap p hp).1) (fun p hp => (hap p hp).2) hd h hc hk hx
theorem cellSt3 {v : Value} {v₀ : Option Value} {Q : Unit → Shared → Prop} (pre post : List (Addr × Obj)) (F : Fr h₀ L s.heap m) (N : News h₀ L s.heap (pre ++ (c, o) :: post)) (hpre : ∀ p ∈ pre, p.1 ≠ c) (hpost : ∀ p ∈ post, p.1 ≠ c) (hd : o.data = .cell v₀)
    (h : ∀ h' o', Fr h₀ L h' m → News h₀ L h' (pre ++ (c, o') :: post) → o'.data = .cell (some v) → Q () { s with heap := h' })
    (hc : (envOfC name scope L a cd).cells.lookup x = some c) (hk : scope.kind = .function) (hx : (envOfC name scope L a cd).kindOf x = some .cell) :
    wpAny (model prog w) A (storeName (envOfC name scope L a cd) x v) Q E s :=
  cellSt2 (pre ++ post) F N (List.mem_append_right _ (.head _)) (fun p hp => by
      rcases List.mem_append.mp hp with hp | hp
      · exact ⟨List.mem_append_left _ hp, hpre p hp⟩
      · exact ⟨List.mem_append_right _ (.tail _ hp), hpost p hp⟩) hd
    (fun h' o' F' N' hd' => h h' o' F' (fun p hp => N' p (by
      rcases List.mem_append.mp hp with hp | hp
      · exact .tail _ (List.mem_append_left _ hp)
      · rcases List.mem_cons.mp hp with rfl | hp
        · exact .head _
        · exact .tail _ (List.mem_append_right _ hp))) hd') hc hk hx
theorem cellSt3i {n n' : Int} {t : Tok} {v₀ : Option Value} {Q : Unit → Shared → Prop} (pre post : List (Addr × Obj)) (F : Fr h₀ L s.heap m) (N : News h₀ L s.heap (pre ++ (c, o) :: post)) (hpre : ∀ p ∈ pre, p.1 ≠ c) (hpost : ∀ p ∈ post, p.1 ≠ c) (hd : o.data = .cell v₀) (hn : n = n')
    (h : ∀ h' o' t, Fr h₀ L h' m → News h₀ L h' (pre ++ (c, o') :: post) → o'.data = .cell (some (.int n' t)) → Q () { s with heap := h' })
    (hc : (envOfC name scope L a cd).cells.lookup x = some c) (hk : scope.kind = .function) (hx : (envOfC name scope L a cd).kindOf x = some .cell) :
    wpAny (model prog w) A (storeName (envOfC name scope L a cd) x (.int n t)) Q E s := by
  subst hn
  exact cellSt3 pre post F N hpre hpost hd (fun h' o' F' N' e => h h' o' _ F' N' e) hc hk hx
theorem getGet {env : Env} {d : Addr} {kvs : List (Str × Value)} {pl : Sem Bool} {Q : Value × List Value → Shared → Prop} (ho : s.heap.get? d = some o) (hd : o.IsDictOf (PySem.strKind prog w) kvs)
    (h : Q (.builtin "dict.get", [.ref d]) s) : wpAny (model prog w) A (getMethod (.ref d) "get" pl) Q E s := by
  have hD : s.heap.DictOf (PySem.strKind prog w) d kvs := Heap.dictOf_iff.mpr ⟨o, ho, hd⟩
  exact getMethod_builtin hD.typeIs PySem.F.plainAttrs_dict PySem.F.slot_dict_get PySem.F.type_dict_get hD.mapOf.noDict h
theorem dictGet2 {d : Addr} {kvs : List (Str × Value)} {k : Str} {t : Tok} {v : Value} {Q : Value → Shared → Prop} (lo : (d == sysModules) = false) (ho : s.heap.get? d = some o) (hd : o.IsDictOf (PySem.strKind prog w) kvs)
    (h : Q ((valueAt kvs k).getD v) { s with toks := s.toks + 1 }) : wpAny (model prog w) A (call (.builtin "dict.get") [.ref d, .str k t, v]) Q E s := by
  have hD : s.heap.DictOf (PySem.strKind prog w) d kvs := Heap.dictOf_iff.mpr ⟨o, ho, hd⟩
  exact call_meetsIn PySem.F.slot_dict_get hD.typeIs PySem.F.entry_dict_get (PySem.F.args_dict_get_3 _ _ _) (meets_dict_get_default (PySem.strKind prog w) d (strKind_is prog w k t) lo v) ⟨_, hD.mapOf, h⟩
end

set_option maxRecDepth 100000 in
set_option maxHeartbeats 4000000 in
theorem call_pot {prog : Program} {w : World} {A : Around} {s : Shared} {f l : Addr} {pm cd doc : Value} {mg mb : Str → Option Value} {R : Result → Shared → Prop} {vs : List Value} {ps : List Paint}
    (hroom : A.depth + 2 < recursionLimit) (hh : A.handled = none) (X : FnIs 10 f pm cd doc s.heap) (H : Home mg mb s.heap)
    (hl : s.heap.IsList l vs.toArray) (hvs : Paired (PaintAt s.heap) vs ps) (hpl : ps.length ≤ 100000) (hparts : ∀ p ∈ ps, 0 ≤ p.parts ∧ p.parts ≤ 9)
    (h : ∀ t a b h' tk ys k zs k', h'.get? t = some (tupOf #[.ref a, .ref b]) → h'.get? a = some (listOf ys k) → h'.get? b = some (listOf zs k') → IntsAre ys.toList [(potOf ps).p1, (potOf ps).p2, (potOf ps).p3] →
      IntsAre zs.toList [vivid (potOf ps) (potOf ps).p1, vivid (potOf ps) (potOf ps).p2, vivid (potOf ps) (potOf ps).p3] →
      (∀ b o, s.heap.get? b = some o → h'.get? b = some o) → R (.ok (.ret (.ref t))) { s with heap := h', toks := tk }) :
    codeAny (model prog w) A (.call (.ref f) ⟨[.ref l], []⟩) R s := by
  have hlx : True → s.heap.IsList l vs.toArray := fun _ => hl
  obtain ⟨o, ho, hdata⟩ := X.get
  refine call_cellsN_ret (by omega) ho hdata X.lim X.code (binds := [("drawn", .ref l)]) (by rfl) (fun x hx => .inl (locs rfl x hx)) (by decide +kernel) ?_ rfl rfl rfl
  intro h₁ tk₁ cells F N Y
  obtain ⟨o1, o2, o3, o4, rfl, hd1, hd2, hd3, hd4⟩ := CellsAre.four Y
  conv =>
    arg 3
    arg 1
    whnf
  have F1 : Fr s.heap s.heap.objs.size h₁ (fun y => if y = "drawn" then some (.ref l) else none) := F
  clear F
  repeat ((fail_if_success (with_reducible show wpAny _ _ (eval (Expr.Dict _ _ _) _) _ _ _)); walk1)
  refine dict_empty_N F1 N fun h2 od F2 N2 hod hap2 => ?_
  have hbig : s.heap.objs.size < h₁.objs.size := F1.ns.lt
  generalize hdd : h₁.objs.size = d at *
  clear F1 N
  repeat ((fail_if_success (with_reducible show wpAny _ _ (newList _) _ _ _)); walk1)
  refine newList_D F2 N2 fun P3 h3 hap3 F3 N3 => ?_
  clear F2 N2
  repeat ((fail_if_success (with_reducible show wpAny _ _ (newTuple _) _ _ _)); walk1)
  refine newTuple_D F3 N3 fun T4 h4 hap4 F4 N4 => ?_
  clear F3 N3
  refine wpAny_assign_Tuple hh (items := #[.ref d, .ref P3, .int 0 _]) ⟨_, (N4 _ (.head _)).1, rfl, 0, rfl⟩ (by rfl) (by rfl) fun h5 he5 => ?_
  have F5 := F4.extBut he5 (Nat.le_refl _)
  have N5 := N4.extBut he5 (Nat.le_refl _)
  clear F4 N4
  obtain ⟨oT4, pv, hpv, N5a⟩ : ∃ (oT4 : Obj) (pv : Array Value), IntsAre pv.toList [0, 0, 0] ∧ News s.heap s.heap.objs.size h5 [(T4, oT4), (P3, listOf pv 0), (d, od), (s.heap.objs.size + 1 + 1 + 1 + 1, o1), (s.heap.objs.size + 1 + 1 + 1, o2), (s.heap.objs.size + 1 + 1, o3), (s.heap.objs.size + 1, o4)] :=
    ⟨_, _, .cons _ _ (.cons _ _ (.cons _ _ .nil)), N5⟩
  clear N5
  have N5 : News s.heap s.heap.objs.size h5 [(s.heap.objs.size + 1, o4), (s.heap.objs.size + 1 + 1, o3), (s.heap.objs.size + 1 + 1 + 1, o2), (s.heap.objs.size + 1 + 1 + 1 + 1, o1), (d, od), (P3, listOf pv 0)] := fun p hp => N5a p (by
      simp only [List.mem_cons, List.not_mem_nil, or_false] at hp ⊢
      rcases hp with h | h | h | h | h | h <;> simp [h])
  clear N5a
  have hPt := hap3 (s.heap.objs.size + 1, o4) (by simp)
  have hPp := hap3 (s.heap.objs.size + 1 + 1, o3) (by simp)
  have hPc := hap3 (s.heap.objs.size + 1 + 1 + 1, o2) (by simp)
  have hPl := hap3 (s.heap.objs.size + 1 + 1 + 1 + 1, o1) (by simp)
  have hPd := hap3 (d, od) (by simp)
  have hdt := hap2 (s.heap.objs.size + 1, o4) (by simp)
  have hdp := hap2 (s.heap.objs.size + 1 + 1, o3) (by simp)
  have hdc := hap2 (s.heap.objs.size + 1 + 1 + 1, o2) (by simp)
  have hdl := hap2 (s.heap.objs.size + 1 + 1 + 1 + 1, o1) (by simp)
  clear hap2 hap3 hap4 Y
  show wpAny _ _ (assignInOrder (_ :: _ :: _ :: []) [_, _, _]) _ _ _
  refine assignInOrder_cons ?_
  walk1
  walk1
  refine assignInOrder_cons ?_
  walk1
  walk1
  refine assignInOrder_cons ?_
  walk1
  rename Fr _ _ _ _ => F6
  rename News _ _ _ _ => N6
  refine cellSt2 [(s.heap.objs.size + 1 + 1, o3), (s.heap.objs.size + 1 + 1 + 1, o2), (s.heap.objs.size + 1 + 1 + 1 + 1, o1), (d, od), (P3, listOf pv 0)] F6 N6 (.head _) ?_ hd4 (fun h7 o7 F7 N7 hd7 => ?_) (by rfl) (by rfl) (by rfl)
  · intro p hp
    refine ⟨.tail _ hp, ?_⟩
    simp only [List.mem_cons, List.not_mem_nil, or_false] at hp
    rcases hp with rfl | rfl | rfl | rfl | rfl
    · exact ne_of _ _ (by omega)
    · exact ne_of _ _ (by omega)
    · exact ne_of _ _ (by omega)
    · exact Ne.symm hdt
    · exact Ne.symm hPt
  clear F6 N6
  refine assignInOrder_nil ?_
  walk1
  have hlow := home_low H
  have hsys : (d == sysModules) = false := by
    have h3 : (3 : Nat) < d := Nat.lt_trans hlow hbig
    have : d ≠ (1 : Nat) := by omega
    simpa [sysModules] using this
  refine For_invT (env := envOfC (fnName 10) (fnScope 10) s.heap.objs.size f cd) s.heap ?_ (fun _ => rfl)
  walk1
  have hlt : l < s.heap.objs.size := by obtain ⟨ol, hol, _⟩ := hlx trivial; exact Heap.lt_size hol
  refine iterListT (PotJ prog w s.heap (s.heap.objs.size + 1) (s.heap.objs.size + 1 + 1) (s.heap.objs.size + 1 + 1 + 1) (s.heap.objs.size + 1 + 1 + 1 + 1) d ps) hh (vs := vs) ((hlx trivial).at fun o e => F7.keep _ o e) (Nat.ne_of_lt hlt) ?_ F7 N7 ?_ ?turn ?done
  · intro p hp e
    have h0 := (N7 p hp).2.2
    obtain ⟨ol, hol, _⟩ := hlx trivial
    rw [e, hol] at h0; cases h0
  · exact ⟨_, _, _, _, _, [(P3, listOf pv 0)], _, _, _, _, _, _, _, _, rfl, rfl, rfl, .head _, hpv, hd7, hd3, hd2, hd1, hod, .nil, fun p hp => by
      rw [List.mem_singleton.mp hp]
      exact ⟨Ne.symm hPt, Ne.symm hPp, Ne.symm hPc, Ne.symm hPl, Ne.symm hPd⟩, Ne.symm hdt, Ne.symm hdp, Ne.symm hdc, Ne.symm hdl⟩
  case done =>
    clear F7 N7
    rintro m₁ nx h8 tk ⟨ot, op, oc, ol, od, tl, kvs, P, pv, k, tt, xp, xc, xl, rfl, e1, e2, hP, hpv, hot, hop, hoc, hol, hod, hent, htl, ht, hp, hc, hl⟩ F8 N8
    have hvl : vs.length = ps.length := Paired.length hvs
    rw [hvl, List.take_length] at hpv hot
    clear hent
    clear hvs hparts
    generalize potOf ps = st at *
    have F9 : Fr s.heap s.heap.objs.size h8 _ := frBind "pot" (frBind "paints" F8 e1) e2
    have N9 : News s.heap s.heap.objs.size h8 ((s.heap.objs.size + 1, ot) :: (s.heap.objs.size + 1 + 1, op) :: (s.heap.objs.size + 1 + 1 + 1, oc) :: (s.heap.objs.size + 1 + 1 + 1 + 1, ol) :: (d, od) :: tl) := N8
    clear F8 N8
    obtain ⟨y1, y2, y3, hpv3⟩ := three_of hpv
    have hpotL : h8.IsList P #[.int st.p1 y1, .int st.p2 y2, .int st.p3 y3] := ⟨_, (N9 _ (.tail _ (.tail _ (.tail _ (.tail _ (.tail _ hP)))))).1, rfl, k, by rw [← hpv3]⟩
    show wpAny _ _ _ _ _ _
    repeat ((fail_if_success (with_reducible show wpAny _ _ (storeName _ _ _) _ _ _)); walk1)
    rename Fr _ _ _ _ => F10
    rename News _ _ _ _ => N10
    refine cellSt3i [(s.heap.objs.size + 1, ot), (s.heap.objs.size + 1 + 1, op), (s.heap.objs.size + 1 + 1 + 1, oc)] _ F10 N10 ?_ ?_ hol (n' := potLuma st) (by rfl) (fun h11 o11 tL F11 N11 hluma => ?_) (by rfl) (by rfl) (by rfl)
    · intro q hq
      rcases List.mem_cons.mp hq with rfl | hq
      · exact ne_of _ _ (by omega)
      rcases List.mem_cons.mp hq with rfl | hq
      · exact ne_of _ _ (by omega)
      · rw [List.mem_singleton.mp hq]; exact ne_of _ _ (by omega)
    · intro q hq
      rcases List.mem_cons.mp hq with rfl | hq
      · exact hl
      · exact (htl q hq).2.2.2.1
    clear F10 N10
    dsimp only
    have hpot11 : h11.IsList P #[.int st.p1 y1, .int st.p2 y2, .int st.p3 y3] := ⟨_, (N11 _ (.tail _ (.tail _ (.tail _ (.tail _ (.tail _ hP)))))).1, rfl, k, by rw [← hpv3]⟩
    walk1
    refine assignComp (cl := [("total", s.heap.objs.size + 1), ("luma", s.heap.objs.size + 1 + 1 + 1 + 1)]) (by rfl) (by rfl) (by rfl) (by decide) (fun _ => rfl) ?_
    walk1
    refine wpAny_mono (srcList (vs := [.int st.p1 y1, .int st.p2 y2, .int st.p3 y3]) hh hpot11) (fun it s₃ S => ?_) fun _ _ e => e
    refine blkA S (.inr fun _ _ => rfl) (IntAt [vivid st st.p1, vivid st st.p2, vivid st st.p3]) _ (binds_name rfl rfl) (by rw [sizeLine_eq]; simp) (by decide) rfl rfl rfl F11 N11 ?_ ?_
    · rintro C j s₄ m₄ E' hj ⟨v, hv, hm⟩ hns hk
      have H4 : Home mg mb s₄.heap := H.keeps fun b o e => hk b o (F11.keep b o e)
      have hct : s₄.heap.IsCell (s.heap.objs.size + 1) (some (.int st.total tt)) := ⟨_, hk _ _ (N11 _ (.head _)).1, hot⟩
      have hcl : s₄.heap.IsCell (s.heap.objs.size + 1 + 1 + 1 + 1) (some (.int (potLuma st) tL)) := ⟨_, hk _ _ (N11 _ (.tail _ (.tail _ (.tail _ (.head _))))).1, hluma⟩
      have : ∃ x t, v = .int x t ∧ [vivid st st.p1, vivid st st.p2, vivid st st.p3][j]? = some (vivid st x) := by
        match j with
        | 0 => exact ⟨_, _, (Option.some.inj hv).symm, rfl⟩
        | 1 => exact ⟨_, _, (Option.some.inj hv).symm, rfl⟩
        | 2 => exact ⟨_, _, (Option.some.inj hv).symm, rfl⟩
        | j + 3 => simp at hv
      obtain ⟨x, t', rfl, hin⟩ := this
      refine Call_ (nameB H4 (by decide) (by decide) boot_min ?_ rfl rfl rfl rfl (by decide))
      refine PyProof.Rows.callWith_builtin1 (args_cons ?_)
      refine Call_ (nameB H4 (by decide) (by decide) boot_max ?_ rfl rfl rfl rfl (by decide))
      refine PyProof.Rows.callWith_builtin1 (args_cons (wpAny_BinOp (wpAny_BinOp (wpAny_Constant_int (wpAny_Name (wpAny_loadName_local rfl rfl hns hm ?_) (by decide))))))
      refine PyProof.Rows.mul_int ?_
      refine wpAny_BinOp (wpAny_Constant_int (wpAny_Name (wpAny_loadName_cell rfl rfl rfl hcl ?_) (by decide)))
      refine PyProof.Rows.mul_int ?_
      refine PyProof.Rows.sub_int (args_cons (wpAny_Constant_int (args_nil ?_)))
      refine max_two_ints hh fun h5 tk5 hk5 => ?_
      have hct5 : h5.IsCell (s.heap.objs.size + 1) (some (.int st.total tt)) := by obtain ⟨o, ho, hd⟩ := hct; exact ⟨o, hk5 _ _ ho, hd⟩
      refine args_cons (wpAny_BinOp (wpAny_Constant_int (wpAny_Name (wpAny_loadName_cell rfl rfl rfl hct5 ?_) (by decide))))
      refine PyProof.Rows.mul_int (args_nil ?_)
      dsimp only
      obtain ⟨tm, hmx⟩ := max_val (300 * x - 2 * potLuma st) 0 (s₄.toks + 1 + 1 + 1 + 1) (s₄.toks + 1 + 1 + 1 + 1 + 1)
      rw [hmx]
      refine min_two_ints hh fun h6 tk6 hk6 => ?_
      obtain ⟨tn, hmn⟩ := min_val (max (300 * x - 2 * potLuma st) 0) (900 * st.total) tm (tk5 + 1)
      rw [hmn]
      exact ⟨⟨_, _, hin, rfl⟩, ⟨h6, tk6, rfl, fun b o e => hk6 _ _ (hk5 _ _ e)⟩⟩
    intro D12 h12 tk12 ys12 k12 F12 N12 hap12 hys12 hG12
    have hints12 := intsAre_of (ns := [_, _, _]) hys12 hG12
    clear F11 N11
    dsimp only
    repeat ((fail_if_success (with_reducible show wpAny _ _ (newTuple _) _ _ _)); walk1)
    refine newTuple_D F12 N12 fun T13 h13 _ F13 N13 => ?_
    exact h T13 P D12 _ _ _ _ _ _ (N13 _ (.head _)).1 (N13 _ (.tail _ (.tail _ (.tail _ (.tail _ (.tail _ (.tail _ (.tail _ hP)))))))).1 (N13 _ (.tail _ (.head _))).1 hpv hints12 F13.keep
  case turn =>
    clear F7 N7
    rintro i v m₁ nx s₁ own hv hoff ⟨ot, op, oc, ol, od, tl, kvs, P, pv, k, tt, xp, xc, xl, rfl, e1, e2, hP, hpv, hot, hop, hoc, hol, hod, hent, htl, ht, hp, hc, hl⟩ F8 N8
    obtain ⟨p, hpi, hpa⟩ := paired_place hvs hv
    obtain ⟨a, c, t1, t2, t3, u1, u2, u3, rfl, ha, hca⟩ := hpa
    have hpp := hparts p (List.mem_of_getElem? hpi)
    have hpp0 := hpp.1
    have hpp9 := hpp.2
    have hA : ∀ q ∈ tl ++ own, q.1 ≠ s.heap.objs.size + 1 ∧ q.1 ≠ s.heap.objs.size + 1 + 1 ∧ q.1 ≠ s.heap.objs.size + 1 + 1 + 1 ∧ q.1 ≠ s.heap.objs.size + 1 + 1 + 1 + 1 ∧ q.1 ≠ d := by
      intro q hq
      rcases List.mem_append.mp hq with hq | hq
      · exact htl q hq
      · exact ⟨hoff q hq _ (by simp), hoff q hq _ (by simp), hoff q hq _ (by simp), hoff q hq _ (by simp), hoff q hq _ (by simp)⟩
    have hmem : ∀ q ∈ tl, q ∈ tl ++ own := fun q hq => List.mem_append_left _ hq
    have F9 : Fr s.heap s.heap.objs.size s₁.heap _ := frBind "pot" (frBind "paints" F8 e1) e2
    have N9 : News s.heap s.heap.objs.size s₁.heap ((s.heap.objs.size + 1, ot) :: (s.heap.objs.size + 1 + 1, op) :: (s.heap.objs.size + 1 + 1 + 1, oc) :: (s.heap.objs.size + 1 + 1 + 1 + 1, ol) :: (d, od) :: (tl ++ own)) := N8
    clear F8 N8
    refine wpAny_assign_Tuple hh (items := #[.str p.name t1, .ref c, .int p.parts t2, .int p.way t3]) ⟨_, F9.keep _ _ ha, rfl, 0, rfl⟩ (by rfl) (by rfl) fun h10 he10 => ?_
    have F10 := F9.extBut he10 (Nat.le_refl _)
    have N10 := N9.extBut he10 (Nat.le_refl _)
    clear F9 N9
    show wpAny _ _ (assignInOrder (_ :: _ :: _ :: _ :: []) [_, _, _, _]) _ _ _
    refine assignInOrder_cons ?_
    walk1
    walk1
    refine assignInOrder_cons ?_
    walk1
    walk1
    refine assignInOrder_cons ?_
    walk1
    rename Fr _ _ _ _ => F11
    rename News _ _ _ _ => N11
    refine cellSt3 [(s.heap.objs.size + 1, ot)] _ F11 N11 ?_ ?_ hop (fun h12 o12 F12 N12 hd12 => ?_) (by rfl) (by rfl) (by rfl)
    · intro q hq; rw [List.mem_singleton.mp hq]; exact ne_of _ _ (by omega)
    · intro q hq
      rcases List.mem_cons.mp hq with rfl | hq
      · exact ne_of _ _ (by omega)
      rcases List.mem_cons.mp hq with rfl | hq
      · exact ne_of _ _ (by omega)
      rcases List.mem_cons.mp hq with rfl | hq
      · exact hp
      · exact (hA q hq).2.1
    clear F11 N11
    refine assignInOrder_cons ?_
    walk1
    walk1
    refine assignInOrder_nil ?_
    rename Fr _ _ _ _ => F13
    rename News _ _ _ _ => N13
    show wpAny _ _ _ _ _ _
    k_fold
    repeat ((fail_if_success (with_reducible show wpAny _ _ (getMethod _ _ _) _ _ _)); walk1)
    refine getGet (env := envOfC (fnName 10) (fnScope 10) s.heap.objs.size f cd) (N13 _ (.tail _ (.tail _ (.tail _ (.tail _ (.head _)))))).1 hod ?_
    dsimp only
    refine callWith_method1 (args_cons ?_)
    repeat ((fail_if_success (with_reducible show wpAny _ _ (newTuple _) _ _ _)); walk1)
    refine newTuple_D F13 N13 fun T14 h14 hap14 F14 N14 => ?_
    clear F13 N13
    repeat ((fail_if_success (with_reducible show wpAny _ _ (newTuple _) _ _ _)); walk1)
    refine newTuple_D F14 N14 fun T15 h15 hap15 F15 N15 => ?_
    clear F14 N14
    repeat ((fail_if_success (with_reducible show wpAny _ _ (call _ _) _ _ _)); walk1)
    obtain ⟨oA, oB, ⟨xA, hoA⟩, ⟨xB1, xB2, xB3, hoB⟩, N15a⟩ : ∃ oA oB, (∃ t, oA = tupOf #[.ref T14, .int 0 t]) ∧ (∃ x1 x2 x3, oB = tupOf #[.int 0 x1, .int 0 x2, .int 0 x3]) ∧
        News s.heap s.heap.objs.size h15 ((T15, oA) :: (T14, oB) :: (s.heap.objs.size + 1, ot) :: (s.heap.objs.size + 1 + 1, o12) :: (s.heap.objs.size + 1 + 1 + 1, oc) :: (s.heap.objs.size + 1 + 1 + 1 + 1, ol) :: (d, od) :: (tl ++ own)) :=
      ⟨_, _, ⟨_, rfl⟩, ⟨_, _, _, rfl⟩, N15⟩
    clear N15
    obtain ⟨tl2, hsub2, hA2, hT15, hT14, N16⟩ : ∃ tl2 : List (Addr × Obj), (∀ q ∈ tl ++ own, q ∈ tl2) ∧ (∀ q ∈ tl2, q.1 ≠ s.heap.objs.size + 1 ∧ q.1 ≠ s.heap.objs.size + 1 + 1 ∧ q.1 ≠ s.heap.objs.size + 1 + 1 + 1 ∧ q.1 ≠ s.heap.objs.size + 1 + 1 + 1 + 1 ∧ q.1 ≠ d) ∧
        (∃ t, (T15, tupOf #[.ref T14, .int 0 t]) ∈ tl2) ∧ (∃ x1 x2 x3, (T14, tupOf #[.int 0 x1, .int 0 x2, .int 0 x3]) ∈ tl2) ∧
        News s.heap s.heap.objs.size h15 ((s.heap.objs.size + 1, ot) :: (s.heap.objs.size + 1 + 1, o12) :: (s.heap.objs.size + 1 + 1 + 1, oc) :: (s.heap.objs.size + 1 + 1 + 1 + 1, ol) :: (d, od) :: tl2) := by
      refine ⟨(T15, oA) :: (T14, oB) :: (tl ++ own), fun q hq => .tail _ (.tail _ hq), ?_, ⟨xA, hoA ▸ .head _⟩, ⟨xB1, xB2, xB3, hoB ▸ .tail _ (.head _)⟩, fun q hq => N15a q ?_⟩
      · intro q hq
        rcases List.mem_cons.mp hq with rfl | hq
        · exact ⟨Ne.symm (hap15 _ (.tail _ (.head _))), Ne.symm (hap15 _ (.tail _ (.tail _ (.head _)))), Ne.symm (hap15 _ (.tail _ (.tail _ (.tail _ (.head _))))), Ne.symm (hap15 _ (.tail _ (.tail _ (.tail _ (.tail _ (.head _)))))), Ne.symm (hap15 _ (.tail _ (.tail _ (.tail _ (.tail _ (.tail _ (.head _)))))))⟩
        rcases List.mem_cons.mp hq with rfl | hq
        · exact ⟨Ne.symm (hap14 _ (.head _)), Ne.symm (hap14 _ (.tail _ (.head _))), Ne.symm (hap14 _ (.tail _ (.tail _ (.head _)))), Ne.symm (hap14 _ (.tail _ (.tail _ (.tail _ (.head _))))), Ne.symm (hap14 _ (.tail _ (.tail _ (.tail _ (.tail _ (.head _))))))⟩
        · exact hA q hq
      · rcases List.mem_cons.mp hq with rfl | hq
        · exact .tail _ (.tail _ (.head _))
        rcases List.mem_cons.mp hq with rfl | hq
        · exact .tail _ (.tail _ (.tail _ (.head _)))
        rcases List.mem_cons.mp hq with rfl | hq
        · exact .tail _ (.tail _ (.tail _ (.tail _ (.head _))))
        rcases List.mem_cons.mp hq with rfl | hq
        · exact .tail _ (.tail _ (.tail _ (.tail _ (.tail _ (.head _)))))
        rcases List.mem_cons.mp hq with rfl | hq
        · exact .tail _ (.tail _ (.tail _ (.tail _ (.tail _ (.tail _ (.head _))))))
        rcases List.mem_cons.mp hq with rfl | hq
        · exact .head _
        rcases List.mem_cons.mp hq with rfl | hq
        · exact .tail _ (.head _)
        · exact .tail _ (.tail _ (.tail _ (.tail _ (.tail _ (.tail _ (.tail _ hq))))))
    clear N15a hap14 hap15
    have hoD := (N16 _ (.tail _ (.tail _ (.tail _ (.tail _ (.head _)))))).1
    refine dictGet2 hsys hoD hod ?_
    obtain ⟨e, he⟩ : ∃ e : PPair, e = elderOf (potOf (ps.take i)) p := ⟨_, rfl⟩
    obtain ⟨TT, c', t', w1, w2, w3, hval, hTT, hcc, he0, he9⟩ : ∃ TT c' t' w1 w2 w3, (valueAt kvs p.name).getD (.ref T15) = .ref TT ∧ h15.get? TT = some (tupOf #[.ref c', .int e.2 t']) ∧
        (s.heap.get? c' = some (tupOf #[.int e.1.1 w1, .int e.1.2.1 w2, .int e.1.2.2 w3]) ∨ (c', tupOf #[.int e.1.1 w1, .int e.1.2.1 w2, .int e.1.2.2 w3]) ∈ tl2) ∧ 0 ≤ e.2 ∧ e.2 ≤ 9 := by
      rcases pairs_get (k := p.name) hent with ⟨g1, g2⟩ | ⟨v, b, g1, g2, b0, b9, T, cT, tT, x1, x2, x3, rfl, hm, hb⟩
      · have : e = ((0, 0, 0), 0) := by rw [he]; unfold elderOf; rw [g2]; rfl
        subst this
        obtain ⟨t, ht15⟩ := hT15
        obtain ⟨x1, x2, x3, ht14⟩ := hT14
        exact ⟨T15, T14, t, x1, x2, x3, by rw [g1]; rfl, (N16 _ (.tail _ (.tail _ (.tail _ (.tail _ (.tail _ ht15)))))).1, .inr ht14, by decide, by decide⟩
      · have : e = b := by rw [he]; unfold elderOf; rw [g2]; rfl
        subst this
        exact ⟨T, cT, tT, x1, x2, x3, by rw [g1]; rfl, (N16 _ (.tail _ (.tail _ (.tail _ (.tail _ (.tail _ (hsub2 _ (hmem _ hm)))))))).1, .inl hb, b0, b9⟩
    rw [hval]
    refine wpAny_assign_Tuple hh (items := #[.ref c', .int e.2 t']) ⟨_, hTT, rfl, 0, rfl⟩ (by rfl) (by rfl) fun h17 he17 => ?_
    have F17 := F15.extBut he17 (Nat.le_refl _)
    have N17 := N16.extBut he17 (Nat.le_refl _)
    clear F15 N16
    show wpAny _ _ (assignInOrder (_ :: _ :: []) [_, _]) _ _ _
    refine assignInOrder_cons ?_
    walk1
    walk1
    refine assignInOrder_cons ?_
    walk1
    rename Fr _ _ _ _ => F18
    rename News _ _ _ _ => N18
    refine cellSt3 [(s.heap.objs.size + 1, ot), (s.heap.objs.size + 1 + 1, o12)] _ F18 N18 ?_ ?_ hoc (fun h19 o19 F19 N19 hd19 => ?_) (by rfl) (by rfl) (by rfl)
    · intro q hq
      rcases List.mem_cons.mp hq with rfl | hq
      · exact ne_of _ _ (by omega)
      · rw [List.mem_singleton.mp hq]; exact ne_of _ _ (by omega)
    · intro q hq
      rcases List.mem_cons.mp hq with rfl | hq
      · exact ne_of _ _ (by omega)
      rcases List.mem_cons.mp hq with rfl | hq
      · exact hc
      · exact (hA2 q hq).2.2.1
    clear F18 N18
    refine assignInOrder_nil ?_
    walk1
    have H19 : Home mg mb h19 := H.keeps F19.keep
    have hcolour : h19.IsTuple c #[.int p.r u1, .int p.g u2, .int p.b u3] := ⟨_, F19.keep _ _ hca, rfl, 0, rfl⟩
    have helder : h19.IsTuple c' #[.int e.1.1 w1, .int e.1.2.1 w2, .int e.1.2.2 w3] := by
      rcases hcc with hcc | hcc
      · exact ⟨_, F19.keep _ _ hcc, rfl, 0, rfl⟩
      · exact ⟨_, (N19 _ (.tail _ (.tail _ (.tail _ (.tail _ (.tail _ hcc)))))).1, rfl, 0, rfl⟩
    have hpot : h19.get? P = some (listOf pv k) := (N19 _ (.tail _ (.tail _ (.tail _ (.tail _ (.tail _ (hsub2 _ (hmem _ hP)))))))).1
    obtain ⟨y1, y2, y3, hpv3⟩ := three_of hpv
    have hpotL : h19.IsList P #[.int (potOf (ps.take i)).p1 y1, .int (potOf (ps.take i)).p2 y2, .int (potOf (ps.take i)).p3 y3] := ⟨_, hpot, rfl, k, by rw [← hpv3]⟩
    refine assignComp (cl := [("parts", s.heap.objs.size + 1 + 1), ("count", s.heap.objs.size + 1 + 1 + 1)]) (by rfl) (by rfl) (by rfl) (by decide) (fun _ => rfl) ?_
    refine Call_ (nameB H19 (by decide) (by decide) boot_zip ?_ rfl rfl rfl rfl (by decide))
    refine PyProof.Rows.callWith_type1 ?_
    repeat ((fail_if_success (with_reducible show wpAny _ _ (call _ _) _ _ _)); walk1)
    refine call_zip_3 hpotL hcolour helder fun h20 Z20 hz20 hk20 => ?_
    refine wpAny_pyIter_zip Z20.z ?_
    have nlt : ∀ {b : Addr} {o : Obj}, h19.get? b = some o → @LT.lt Nat instLTNat b h19.objs.size := fun e => Heap.lt_size e
    have lt1 : @LT.lt Nat instLTNat P h19.objs.size := nlt hpot
    have lt2 : @LT.lt Nat instLTNat c h19.objs.size := let ⟨_, e, _⟩ := hcolour; nlt e
    have lt3 : @LT.lt Nat instLTNat c' h19.objs.size := let ⟨_, e, _⟩ := helder; nlt e
    have fresh19 : ∀ a : Nat, h19.objs.size ≤ a → h19.get? a = none := fun a ha => by
      cases e : h19.get? a with
      | none => rfl
      | some o' => exact absurd (Heap.lt_size e) (Nat.not_lt.mpr ha)
    refine blkA_mid (s₀ := { s₁ with heap := h19, toks := s₁.toks + 1 + 1 + 1 + 1 + 1 + 1 + 1 + 1 + 1 }) (H0 := h20) (n := 3)
      (IntAt [(potOf (ps.take i)).p1 + p.parts * p.r - e.2 * e.1.1, (potOf (ps.take i)).p2 + p.parts * p.g - e.2 * e.1.2.1, (potOf (ps.take i)).p3 + p.parts * p.b - e.2 * e.1.2.2])
      (fun j mm => ∃ x y z, [(potOf (ps.take i)).p1, (potOf (ps.take i)).p2, (potOf (ps.take i)).p3][j]? = some x ∧ [p.r, p.g, p.b][j]? = some y ∧ [e.1.1, e.1.2.1, e.1.2.2][j]? = some z ∧
        (∃ t, mm "full" = some (.int x t)) ∧ (∃ t, mm "new" = some (.int y t)) ∧ (∃ t, mm "old" = some (.int z t)))
      (WalksM.zip3 (A := A.deeper (envOfC (fnName 10) (fnScope 10) s.heap.objs.size f cd)) hh #[.int (potOf (ps.take i)).p1 y1, .int (potOf (ps.take i)).p2 y2, .int (potOf (ps.take i)).p3 y3] #[.int p.r u1, .int p.g u2, .int p.b u3] #[.int e.1.1 w1, .int e.1.2.1 w2, .int e.1.2.2 w3] lt1 lt2 lt3 rfl rfl) hk20 (by rw [hz20]; exact Nat.le_add_right _ _) ?_ (by rw [sizeLine_eq]; decide) ?_ ?_ (by decide) rfl rfl rfl F19 N19 ?_ ?_ ?_
    · intro b hb
      simp only [List.mem_cons, List.not_mem_nil, or_false] at hb
      rcases hb with rfl | rfl | rfl | rfl | rfl <;> exact fresh19 _ (by omega)
    · exact Z20
    · intro b hb
      rw [hz20]
      simp only [List.mem_cons, List.not_mem_nil, or_false] at hb
      rcases hb with rfl | rfl | rfl | rfl | rfl | rfl | rfl | rfl | rfl
      · exact Nat.lt_succ_self _
      · exact Nat.add_lt_add_left (by decide) _
      · exact Nat.lt_add_of_pos_right (by decide)
      · exact Nat.add_lt_add_left (by decide) _
      · exact Nat.add_lt_add_left (by decide) _
      · exact Nat.add_lt_add_left (by decide) _
      · exact Nat.lt_of_lt_of_le lt1 (Nat.le_add_right _ _)
      · exact Nat.lt_of_lt_of_le lt2 (Nat.le_add_right _ _)
      · exact Nat.lt_of_lt_of_le lt3 (Nat.le_add_right _ _)
    · rintro C j v s' m' Q' E' hj ⟨T, x, y, z, rfl, hx, hy, hz, hT⟩ hns hq
      refine assign3 hh ⟨_, hT, rfl, 0, rfl⟩ hns rfl rfl rfl rfl (by decide) (by decide) (by decide) fun h' tk m'' hns' hm hk' => hq h' tk m'' hns' ?_ hk'
      obtain ⟨ma, mb', mc⟩ := hm
      match j, hj with
      | 0, _ =>
        cases hx; cases hy; cases hz
        exact ⟨_, _, _, rfl, rfl, rfl, ⟨_, ma⟩, ⟨_, mb'⟩, ⟨_, mc⟩⟩
      | 1, _ =>
        cases hx; cases hy; cases hz
        exact ⟨_, _, _, rfl, rfl, rfl, ⟨_, ma⟩, ⟨_, mb'⟩, ⟨_, mc⟩⟩
      | 2, _ =>
        cases hx; cases hy; cases hz
        exact ⟨_, _, _, rfl, rfl, rfl, ⟨_, ma⟩, ⟨_, mb'⟩, ⟨_, mc⟩⟩
    · rintro C j s₄ m₄ E' hj ⟨x, y, z, hx, hy, hz, ⟨ta, hma⟩, ⟨tb, hmb⟩, ⟨tc, hmc⟩⟩ hns hk
      have hcp : s₄.heap.IsCell (s.heap.objs.size + 1 + 1) (some (.int p.parts t2)) := ⟨_, hk _ _ (N19 _ (.tail _ (.head _))).1, hd12⟩
      have hccell : s₄.heap.IsCell (s.heap.objs.size + 1 + 1 + 1) (some (.int e.2 t')) := ⟨_, hk _ _ (N19 _ (.tail _ (.tail _ (.head _)))).1, hd19⟩
      refine wpAny_BinOp (wpAny_BinOp (wpAny_Name (wpAny_loadName_local rfl rfl hns hma ?_) (by decide)))
      refine wpAny_BinOp (wpAny_Name (wpAny_loadName_cell rfl rfl rfl hcp ?_) (by decide))
      refine wpAny_Name (wpAny_loadName_local rfl rfl hns hmb ?_) (by decide)
      refine PyProof.Rows.mul_int ?_ (IntMulOk.of_left (intBits_le_64 (by omega) (by omega)))
      refine PyProof.Rows.add_int ?_
      refine wpAny_BinOp (wpAny_Name (wpAny_loadName_cell rfl rfl rfl hccell ?_) (by decide))
      refine wpAny_Name (wpAny_loadName_local rfl rfl hns hmc ?_) (by decide)
      refine PyProof.Rows.mul_int ?_ (IntMulOk.of_left (intBits_le_64 (by omega) (by omega)))
      refine PyProof.Rows.sub_int ⟨⟨_, _, ?_, rfl⟩, ⟨s₄.heap, _, rfl, fun _ _ e => e⟩⟩
      match j, hj with
      | 0, _ => cases hx; cases hy; cases hz; rfl
      | 1, _ => cases hx; cases hy; cases hz; rfl
      | 2, _ => cases hx; cases hy; cases hz; rfl
    intro D21 h21 tk21 ys21 k21 F21 N21 hap21 hys21 hG21
    have hints21 := intsAre_of (ns := [_, _, _]) hys21 hG21
    clear F19 N19
    dsimp only
    have N22 : News s.heap s.heap.objs.size h21 ((s.heap.objs.size + 1, ot) :: (s.heap.objs.size + 1 + 1, o12) :: (s.heap.objs.size + 1 + 1 + 1, o19) :: (s.heap.objs.size + 1 + 1 + 1 + 1, ol) :: (d, od) :: (D21, listOf ys21 k21) :: tl2) := fun q hq => N21 q (by
      rcases List.mem_cons.mp hq with rfl | hq
      · exact .tail _ (.head _)
      rcases List.mem_cons.mp hq with rfl | hq
      · exact .tail _ (.tail _ (.head _))
      rcases List.mem_cons.mp hq with rfl | hq
      · exact .tail _ (.tail _ (.tail _ (.head _)))
      rcases List.mem_cons.mp hq with rfl | hq
      · exact .tail _ (.tail _ (.tail _ (.tail _ (.head _))))
      rcases List.mem_cons.mp hq with rfl | hq
      · exact .tail _ (.tail _ (.tail _ (.tail _ (.tail _ (.head _)))))
      rcases List.mem_cons.mp hq with rfl | hq
      · exact .head _
      · exact .tail _ (.tail _ (.tail _ (.tail _ (.tail _ (.tail _ hq))))))
    have gt := hap21 (s.heap.objs.size + 1, ot) (.head _)
    have gp := hap21 (s.heap.objs.size + 1 + 1, o12) (.tail _ (.head _))
    have gc := hap21 (s.heap.objs.size + 1 + 1 + 1, o19) (.tail _ (.tail _ (.head _)))
    have gl := hap21 (s.heap.objs.size + 1 + 1 + 1 + 1, ol) (.tail _ (.tail _ (.tail _ (.head _))))
    have gd := hap21 (d, od) (.tail _ (.tail _ (.tail _ (.tail _ (.head _)))))
    have gown : ∀ q ∈ tl ++ own, q.1 ≠ D21 := fun q hq => hap21 q (.tail _ (.tail _ (.tail _ (.tail _ (.tail _ (hsub2 q hq))))))
    clear N21 hap21
    repeat ((fail_if_success (with_reducible show wpAny _ _ (eval (Expr.Name (Str.ofString "total") _) _) _ _ _)); walk1)
    refine cellLd N22 (.head _) hot ?_ (by rfl) (by rfl) (by rfl) (by decide)
    refine cellLd N22 (.tail _ (.head _)) hd12 ?_ (by rfl) (by rfl) (by rfl) (by decide)
    repeat ((fail_if_success (with_reducible show wpAny _ _ (eval (Expr.Name (Str.ofString "count") _) _) _ _ _)); walk1)
    refine cellLd N22 (.tail _ (.tail _ (.head _))) hd19 ?_ (by rfl) (by rfl) (by rfl) (by decide)
    repeat ((fail_if_success (with_reducible show wpAny _ _ (storeName _ _ _) _ _ _)); walk1)
    refine cellSt3 [] _ F21 N22 (fun _ h => nomatch h) ?_ hot (fun h23 o23 F23 N23 hd23 => ?_) (by rfl) (by rfl) (by rfl)
    · intro q hq
      rcases List.mem_cons.mp hq with rfl | hq
      · exact ne_of _ _ (by omega)
      rcases List.mem_cons.mp hq with rfl | hq
      · exact ne_of _ _ (by omega)
      rcases List.mem_cons.mp hq with rfl | hq
      · exact ne_of _ _ (by omega)
      rcases List.mem_cons.mp hq with rfl | hq
      · exact ht
      rcases List.mem_cons.mp hq with rfl | hq
      · exact Ne.symm gt
      · exact (hA2 q hq).1
    clear F21 N22
    have N23' : News s.heap s.heap.objs.size h23 ((s.heap.objs.size + 1, o23) :: (s.heap.objs.size + 1 + 1, o12) :: (s.heap.objs.size + 1 + 1 + 1, o19) :: (s.heap.objs.size + 1 + 1 + 1 + 1, ol) :: (d, od) :: (D21, listOf ys21 k21) :: tl2) := N23
    clear N23
    repeat ((fail_if_success (with_reducible show wpAny _ _ (eval (Expr.Name (Str.ofString "parts") _) _) _ _ _)); walk1)
    refine cellLd N23' (.tail _ (.head _)) hd12 ?_ (by rfl) (by rfl) (by rfl) (by decide)
    repeat ((fail_if_success (with_reducible show wpAny _ _ (newTuple _) _ _ _)); walk1)
    refine newTuple_D F23 N23' fun T24 h24 hap24 F24 N24 => ?_
    clear F23 N23'
    repeat ((fail_if_success (with_reducible show wpAny _ _ (setItem _ _ _) _ _ _)); walk1)
    obtain ⟨oT, ⟨tT, hoT⟩, N24a⟩ : ∃ oT, (∃ t, oT = tupOf #[.ref c, .int p.parts t]) ∧ News s.heap s.heap.objs.size h24 ((T24, oT) :: (s.heap.objs.size + 1, o23) :: (s.heap.objs.size + 1 + 1, o12) :: (s.heap.objs.size + 1 + 1 + 1, o19) :: (s.heap.objs.size + 1 + 1 + 1 + 1, ol) :: (d, od) :: (D21, listOf ys21 k21) :: tl2) := ⟨_, ⟨_, rfl⟩, N24⟩
    clear N24
    have N25 : News s.heap s.heap.objs.size h24 ((d, od) :: (s.heap.objs.size + 1, o23) :: (s.heap.objs.size + 1 + 1, o12) :: (s.heap.objs.size + 1 + 1 + 1, o19) :: (s.heap.objs.size + 1 + 1 + 1 + 1, ol) :: (T24, oT) :: (D21, listOf ys21 k21) :: (tl ++ own)) := fun q hq => N24a q (by
      rcases List.mem_cons.mp hq with rfl | hq
      · exact .tail _ (.tail _ (.tail _ (.tail _ (.tail _ (.head _)))))
      rcases List.mem_cons.mp hq with rfl | hq
      · exact .tail _ (.head _)
      rcases List.mem_cons.mp hq with rfl | hq
      · exact .tail _ (.tail _ (.head _))
      rcases List.mem_cons.mp hq with rfl | hq
      · exact .tail _ (.tail _ (.tail _ (.head _)))
      rcases List.mem_cons.mp hq with rfl | hq
      · exact .tail _ (.tail _ (.tail _ (.tail _ (.head _))))
      rcases List.mem_cons.mp hq with rfl | hq
      · exact .head _
      rcases List.mem_cons.mp hq with rfl | hq
      · exact .tail _ (.tail _ (.tail _ (.tail _ (.tail _ (.tail _ (.head _))))))
      · exact .tail _ (.tail _ (.tail _ (.tail _ (.tail _ (.tail _ (.tail _ (hsub2 q hq))))))))
    have kt := hap24 (s.heap.objs.size + 1, o23) (.head _)
    have kp := hap24 (s.heap.objs.size + 1 + 1, o12) (.tail _ (.head _))
    have kc := hap24 (s.heap.objs.size + 1 + 1 + 1, o19) (.tail _ (.tail _ (.head _)))
    have kl := hap24 (s.heap.objs.size + 1 + 1 + 1 + 1, ol) (.tail _ (.tail _ (.tail _ (.head _))))
    have kd := hap24 (d, od) (.tail _ (.tail _ (.tail _ (.tail _ (.head _)))))
    have kown : ∀ q ∈ tl ++ own, q.1 ≠ T24 := fun q hq => hap24 q (.tail _ (.tail _ (.tail _ (.tail _ (.tail _ (.tail _ (hsub2 q hq)))))))
    clear N24a hap24
    have hkl : kvs.length ≤ sizeLine := by
      have h1 := Paired.length hent
      have h2 := potOf_len (ps.take i)
      have h3 : (ps.take i).length ≤ ps.length := by rw [List.length_take]; omega
      rw [sizeLine_eq]; omega
    refine setItem_N F24 N25 ?_ hod hkl fun h26 od26 F26 N26 hod26 => ?_
    · intro q hq
      rcases List.mem_cons.mp hq with rfl | hq
      · exact Ne.symm ht
      rcases List.mem_cons.mp hq with rfl | hq
      · exact Ne.symm hp
      rcases List.mem_cons.mp hq with rfl | hq
      · exact Ne.symm hc
      rcases List.mem_cons.mp hq with rfl | hq
      · exact Ne.symm hl
      rcases List.mem_cons.mp hq with rfl | hq
      · exact Ne.symm kd
      rcases List.mem_cons.mp hq with rfl | hq
      · exact Ne.symm gd
      · exact (hA q hq).2.2.2.2
    clear F24 N25
    repeat walk1
    have hst : potOf (ps.take (i + 1)) = potStep (potOf (ps.take i)) p := by
      rw [List.take_add_one, hpi]; exact potOf_snoc _ _
    obtain ⟨tt', hd23'⟩ : ∃ tt', o23.data = .cell (some (.int (potOf (ps.take (i + 1))).total tt')) := by
      rw [hst]; unfold potStep; rw [← he]; exact ⟨_, hd23⟩
    refine InvEndG.intro (nx := (s.heap.objs.size + 1, o23) :: (s.heap.objs.size + 1 + 1, o12) :: (s.heap.objs.size + 1 + 1 + 1, o19) :: (s.heap.objs.size + 1 + 1 + 1 + 1, ol) :: (d, od26) :: (T24, oT) :: (D21, listOf ys21 k21) :: tl) F26 N26
      ⟨_, _, _, _, _, (T24, oT) :: (D21, listOf ys21 k21) :: tl, _, D21, ys21, k21, tt', _, _, _, rfl, rfl, rfl, .tail _ (.head _), ?_, hd23', hd12, hd19, hol, hod26, ?_, ?_, ht, hp, hc, hl⟩ ?_ ?_ ?_
    · rw [hst]; unfold potStep; rw [← he]; exact hints21
    · rw [hst]
      exact pairs_stored (hent.mono fun q hq => .tail _ (.tail _ hq)) ⟨hpp0, hpp9, T24, c, tT, u1, u2, u3, rfl, hoT ▸ .head _, hca⟩
    · intro q hq
      rcases List.mem_cons.mp hq with rfl | hq
      · exact ⟨Ne.symm kt, Ne.symm kp, Ne.symm kc, Ne.symm kl, Ne.symm kd⟩
      rcases List.mem_cons.mp hq with rfl | hq
      · exact ⟨Ne.symm gt, Ne.symm gp, Ne.symm gc, Ne.symm gl, Ne.symm gd⟩
      · exact htl q hq
    · intro q hq b hb
      simp only [List.map_cons] at hb
      rcases List.mem_cons.mp hb with rfl | hb
      · exact hoff q hq _ (by simp)
      rcases List.mem_cons.mp hb with rfl | hb
      · exact hoff q hq _ (by simp)
      rcases List.mem_cons.mp hb with rfl | hb
      · exact hoff q hq _ (by simp)
      rcases List.mem_cons.mp hb with rfl | hb
      · exact hoff q hq _ (by simp)
      rcases List.mem_cons.mp hb with rfl | hb
      · exact hoff q hq _ (by simp)
      rcases List.mem_cons.mp hb with rfl | hb
      · exact kown q (List.mem_append_right _ hq)
      rcases List.mem_cons.mp hb with rfl | hb
      · exact gown q (List.mem_append_right _ hq)
      · exact hoff q hq _ (.tail _ (.tail _ (.tail _ (.tail _ (.tail _ hb)))))
    · intro q hq
      rcases List.mem_cons.mp hq with rfl | hq
      · exact .tail _ (.head _)
      rcases List.mem_cons.mp hq with rfl | hq
      · exact .tail _ (.tail _ (.head _))
      rcases List.mem_cons.mp hq with rfl | hq
      · exact .tail _ (.tail _ (.tail _ (.head _)))
      rcases List.mem_cons.mp hq with rfl | hq
      · exact .tail _ (.tail _ (.tail _ (.tail _ (.head _))))
      rcases List.mem_cons.mp hq with rfl | hq
      · exact .head _
      rcases List.mem_cons.mp hq with rfl | hq
      · exact .tail _ (.tail _ (.tail _ (.tail _ (.tail _ (.head _)))))
      rcases List.mem_cons.mp hq with rfl | hq
      · exact .tail _ (.tail _ (.tail _ (.tail _ (.tail _ (.tail _ (.head _))))))
      · exact .tail _ (.tail _ (.tail _ (.tail _ (.tail _ (.tail _ (.tail _ (List.mem_append_left _ hq)))))))
    · intro q hq
      exact .tail _ (.tail _ (.tail _ (.tail _ (.tail _ (.tail _ (.tail _ (List.mem_append_right _ hq)))))))
end Mine

namespace Mine
open Float64 (add sub mul val V decode sgn Right dist infMag pack)

/-- the real number of a float -/
def U : Rat := 2 ^ 1074
def rv (x : UInt64) : Rat := (val x : Rat) / U
structure Fin (x : UInt64) : Prop where
  fin : ∃ a m e, decode x = .fin a m e
structure Near (x : UInt64) (v e : Rat) : Prop where
  fin : ∃ a m e, decode x = .fin a m e
  hi : rv x - v ≤ e
  lo : v - rv x ≤ e

theorem U_pos : (0 : Rat) < U := by unfold U; exact Rat.pow_pos (by decide)

theorem grid {g j : Nat} (hg : g ≤ 1500) (hj : j < 2 ^ 53) : ∃ t, t < infMag ∧ V t = j * 2 ^ g := by
  have hi : infMag = 2047 * 2 ^ 52 := rfl
  induction g generalizing j with
  | zero => exact ⟨j, by omega, by have := Float64.V_at (k := 0) (q := j) (by omega) (.inr rfl); simpa using this⟩
  | succ g ih =>
    by_cases h : 2 ^ 52 ≤ j
    · refine ⟨(g + 1) * 2 ^ 52 + j, by omega, Float64.V_at (by omega) (.inl h)⟩
    · obtain ⟨t, ht, hv⟩ := ih (by omega) (j := 2 * j) (by omega)
      refine ⟨t, ht, ?_⟩
      rw [hv, Nat.pow_succ, Nat.mul_comm 2 j, Nat.mul_assoc, Nat.mul_comm 2]

theorem right_near {r : UInt64} {neg : Bool} {W D g : Nat} (h : Right r neg W D) (hD : 0 < D) (hg : g ≤ 1500) (hW : W < D * (2 ^ 53 * 2 ^ g)) :
    ∃ v : Nat, (∃ a m e, decode r = .fin a m e) ∧ val r = sgn neg v ∧ W ≤ D * v + D * 2 ^ g ∧ D * v ≤ W + D * 2 ^ g := by
  obtain ⟨t, rfl, hle, hov, hn⟩ := h
  have hlt : t < infMag := by
    refine Nat.lt_of_le_of_ne hle fun e => ?_
    have h1 := hov.mp e
    have h2 : (2 : Nat) ^ 53 * 2 ^ g ≤ 2 ^ 53 * 2 ^ 1500 := Nat.mul_le_mul_left _ (Nat.pow_le_pow_right (by decide) hg)
    have h3 : 2 * (2 ^ 53 * 2 ^ 1500) ≤ (2 ^ 54 - 1) * 2 ^ 2045 := by decide +kernel
    have h4 : D * (2 * (2 ^ 53 * 2 ^ g)) ≤ D * ((2 ^ 54 - 1) * 2 ^ 2045) := Nat.mul_le_mul_left _ (by omega)
    have h5 : D * (2 * (2 ^ 53 * 2 ^ g)) = 2 * (D * (2 ^ 53 * 2 ^ g)) := by ac_rfl
    omega
  obtain ⟨m, e, hd, hv⟩ := Float64.decode_pack neg hlt
  refine ⟨V t, ⟨_, _, _, hd⟩, Float64.val_pack neg hlt, ?_⟩
  have hP : 0 < D * 2 ^ g := Nat.mul_pos hD (Nat.two_pow_pos _)
  have hj : W / (D * 2 ^ g) < 2 ^ 53 := by
    rw [Nat.div_lt_iff_lt_mul hP]
    calc W < D * (2 ^ 53 * 2 ^ g) := hW
      _ = 2 ^ 53 * (D * 2 ^ g) := by ac_rfl
  obtain ⟨t', ht', hv'⟩ := grid hg hj
  have h1 := (hn hlt t').1
  have h2 := Nat.div_add_mod W (D * 2 ^ g)
  have h3 := Nat.mod_lt W hP
  have h4 : D * V t' = D * 2 ^ g * (W / (D * 2 ^ g)) := by rw [hv']; ac_rfl
  unfold Float64.dist at h1
  generalize D * V t' = A at *
  generalize D * V t = B at *
  omega
end Mine

namespace Mine
open Float64 (add sub mul val V decode sgn Right dist infMag pack)

theorem pow_add' (a b : Nat) : (2 : Rat) ^ (a + b) = (2 : Rat) ^ a * (2 : Rat) ^ b := by
  induction b with
  | zero => simp
  | succ b ih => rw [← Nat.add_assoc, Rat.pow_succ, ih, Rat.pow_succ, Rat.mul_assoc]
theorem U_split {c : Nat} (hc : c ≤ 1074) : U = (2 : Rat) ^ c * (2 : Rat) ^ (1074 - c) := by
  unfold U; rw [← pow_add']; congr 1; omega
theorem pow_cast (k : Nat) : ((2 ^ k : Nat) : Rat) = (2 : Rat) ^ k := by
  induction k with
  | zero => rfl
  | succ k ih => rw [Nat.pow_succ, Rat.natCast_mul, ih, Rat.pow_succ]; rfl
theorem sgn_cast (neg : Bool) (W : Nat) : ((sgn neg W : Int) : Rat) = if neg then -(W : Rat) else (W : Rat) := by
  unfold sgn
  cases neg
  · simp; rfl
  · simp; rfl

theorem near_right {r : UInt64} {neg : Bool} {W D c : Nat} {x : Rat} (hc : c ≤ 1074) (h : Right r neg W D) (hD : 0 < D) (hx : x * D * U = ((sgn neg W : Int) : Rat)) (h1 : x * 2 ^ c < 2 ^ 53) (h2 : -x * 2 ^ c < 2 ^ 53) : Near r x (1 / 2 ^ c) := by
  have hDr : (0 : Rat) < (D : Rat) := by exact_mod_cast hD
  have hP : (0 : Rat) < (2 : Rat) ^ c := Rat.pow_pos (by decide)
  have hG : (0 : Rat) < (2 : Rat) ^ (1074 - c) := Rat.pow_pos (by decide)
  have hU := U_split hc
  have hUp := U_pos
  have hWr : (W : Rat) < (D : Rat) * ((2 : Rat) ^ 53 * (2 : Rat) ^ (1074 - c)) := by
    have hDG : (0 : Rat) < (D : Rat) * (2 : Rat) ^ (1074 - c) := Rat.mul_pos hDr hG
    have a1 := Rat.mul_lt_mul_of_pos_right h1 hDG
    have a2 := Rat.mul_lt_mul_of_pos_right h2 hDG
    rw [hU, sgn_cast] at hx
    generalize (2 : Rat) ^ c = P at *
    generalize (2 : Rat) ^ (1074 - c) = G at *
    generalize (2 : Rat) ^ 53 = B at *
    cases neg
    · simp only [Bool.false_eq_true, if_false] at hx
      rw [← hx]; grind
    · simp only [if_true] at hx
      have : (W : Rat) = -(x * D * (P * G)) := by grind
      rw [this]; grind
  have hW : W < D * (2 ^ 53 * 2 ^ (1074 - c)) := by
    have : ((W : Nat) : Rat) < ((D * (2 ^ 53 * 2 ^ (1074 - c)) : Nat) : Rat) := by
      rw [Rat.natCast_mul, Rat.natCast_mul, pow_cast, pow_cast]; exact hWr
    exact_mod_cast this
  obtain ⟨v, hf, hv, b1, b2⟩ := right_near h hD (by omega) hW
  have c1 : (W : Rat) ≤ (D : Rat) * v + D * (2 : Rat) ^ (1074 - c) := by
    have : ((W : Nat) : Rat) ≤ ((D * v + D * 2 ^ (1074 - c) : Nat) : Rat) := by exact_mod_cast b1
    rwa [Rat.natCast_add, Rat.natCast_mul, Rat.natCast_mul, pow_cast] at this
  have c2 : (D : Rat) * v ≤ W + (D : Rat) * (2 : Rat) ^ (1074 - c) := by
    have : ((D * v : Nat) : Rat) ≤ ((W + D * 2 ^ (1074 - c) : Nat) : Rat) := by exact_mod_cast b2
    rwa [Rat.natCast_add, Rat.natCast_mul, Rat.natCast_mul, pow_cast] at this
  have key : ∀ z : Rat, z * (D * U) ≤ (D : Rat) * (2 : Rat) ^ (1074 - c) → z ≤ 1 / 2 ^ c := by
    intro z hz
    have e : (1 / 2 ^ c : Rat) * (D * U) = (D : Rat) * (2 : Rat) ^ (1074 - c) := by
      rw [hU]
      generalize (2 : Rat) ^ c = P at *
      generalize (2 : Rat) ^ (1074 - c) = G at *
      have : P ≠ 0 := by grind
      grind
    rw [← e] at hz
    exact Rat.le_of_mul_le_mul_right hz (Rat.mul_pos hDr hUp)
  have hrv : rv r * U = if neg then -(v : Rat) else (v : Rat) := by
    rw [← sgn_cast, ← hv]; unfold rv
    have : U ≠ 0 := by grind
    grind
  rw [sgn_cast] at hx
  refine ⟨hf, key _ ?_, key _ ?_⟩
  · have e : (rv r - x) * (D * U) = D * (rv r * U) - (x * D * U) := by grind
    rw [e, hrv, hx]
    generalize (2 : Rat) ^ (1074 - c) = G at *
    cases neg
    · simp only [Bool.false_eq_true, if_false]; grind
    · simp only [if_true]; grind
  · have e : (x - rv r) * (D * U) = (x * D * U) - D * (rv r * U) := by grind
    rw [e, hrv, hx]
    generalize (2 : Rat) ^ (1074 - c) = G at *
    cases neg
    · simp only [Bool.false_eq_true, if_false]; grind
    · simp only [if_true]; grind
end Mine

namespace Mine
open Float64 (add sub mul val V decode sgn Right dist infMag pack)

theorem rv_mulU (x : UInt64) : rv x * U = (val x : Rat) := by
  unfold rv; have := U_pos; have : U ≠ 0 := by grind
  grind
theorem cast_natAbs (i : Int) : ((sgn (decide (i < 0)) i.natAbs : Int) : Rat) = (i : Rat) := by
  congr 1; unfold sgn; split <;> rename_i h <;> simp at h <;> omega
theorem near_exact {x : UInt64} {v : Rat} {e : Rat} (he : 0 ≤ e) (hf : ∃ a m e, decode x = .fin a m e) (hv : rv x = v) : Near x v e := ⟨hf, by grind, by grind⟩
theorem zero_fin (s : Bool) : ∃ a m e, decode (Float64.zero s) = .fin a m e := let ⟨_, _, h, _⟩ := Float64.decode_pack s (t := 0) (by decide); ⟨_, _, _, h⟩
theorem eps_pos (c : Nat) : (0 : Rat) ≤ 1 / 2 ^ c := by
  have h : (0 : Rat) < 2 ^ c := Rat.pow_pos (by decide)
  generalize (2 : Rat) ^ c = P at *
  rw [Rat.div_def, Rat.one_mul]
  exact Rat.le_of_lt (Rat.inv_pos.mpr h)
theorem zero_rv (s : Bool) : rv (Float64.zero s) = 0 := by
  have : val (Float64.zero s) = 0 := by cases s <;> decide +kernel
  unfold rv; rw [this, Rat.div_def]; exact Rat.zero_mul _

/-- sums -/
theorem near_add {x y : UInt64} {c : Nat} (hc : c ≤ 1074) (hx : ∃ a m e, decode x = .fin a m e) (hy : ∃ a m e, decode y = .fin a m e) (h1 : (rv x + rv y) * 2 ^ c < 2 ^ 53) (h2 : -(rv x + rv y) * 2 ^ c < 2 ^ 53) : Near (add x y) (rv x + rv y) (1 / 2 ^ c) := by
  obtain ⟨a, m, e, hx⟩ := hx
  obtain ⟨b, k, f, hy⟩ := hy
  have hr := Float64.add_right hx hy
  have hs : (rv x + rv y) * U = ((val x + val y : Int) : Rat) := by rw [Rat.intCast_add, ← rv_mulU, ← rv_mulU]; grind
  by_cases h0 : val x + val y = 0
  · rw [hr.1 h0]
    have : rv x + rv y = 0 := by
      rw [h0] at hs
      have := U_pos
      have h : (rv x + rv y) * U = 0 := by rw [hs]; rfl
      rcases Rat.mul_eq_zero.mp h with h | h <;> grind
    rw [this]
    exact near_exact (eps_pos c) (zero_fin _) (zero_rv _)
  · refine near_right hc (hr.2 h0) (by decide) ?_ h1 h2
    rw [cast_natAbs, ← hs]; grind
theorem near_sub {x y : UInt64} {c : Nat} (hc : c ≤ 1074) (hx : ∃ a m e, decode x = .fin a m e) (hy : ∃ a m e, decode y = .fin a m e) (h1 : (rv x - rv y) * 2 ^ c < 2 ^ 53) (h2 : -(rv x - rv y) * 2 ^ c < 2 ^ 53) : Near (sub x y) (rv x - rv y) (1 / 2 ^ c) := by
  obtain ⟨a, m, e, hx⟩ := hx
  obtain ⟨b, k, f, hy⟩ := hy
  have hr := Float64.sub_right hx hy
  have hs : (rv x - rv y) * U = ((val x - val y : Int) : Rat) := by rw [Rat.intCast_sub, ← rv_mulU, ← rv_mulU]; grind
  by_cases h0 : val x - val y = 0
  · rw [hr.1 h0]
    have : rv x - rv y = 0 := by
      rw [h0] at hs
      have := U_pos
      have h : (rv x - rv y) * U = 0 := by rw [hs]; rfl
      rcases Rat.mul_eq_zero.mp h with h | h <;> grind
    rw [this]
    exact near_exact (eps_pos c) (zero_fin _) (zero_rv _)
  · refine near_right hc (hr.2 h0) (by decide) ?_ h1 h2
    rw [cast_natAbs, ← hs]; grind
theorem near_mul {x y : UInt64} {c : Nat} (hc : c ≤ 1074) (hx : ∃ a m e, decode x = .fin a m e) (hy : ∃ a m e, decode y = .fin a m e) (h1 : (rv x * rv y) * 2 ^ c < 2 ^ 53) (h2 : -(rv x * rv y) * 2 ^ c < 2 ^ 53) : Near (mul x y) (rv x * rv y) (1 / 2 ^ c) := by
  obtain ⟨a, m, e, hx⟩ := hx
  obtain ⟨b, k, f, hy⟩ := hy
  refine near_right hc (Float64.mul_right hx hy) (Nat.two_pow_pos _) ?_ h1 h2
  have e1 : ((2 ^ 1074 : Nat) : Rat) = U := by rw [pow_cast]; rfl
  have e2 : sgn (a != b) ((val x).natAbs * (val y).natAbs) = val x * val y := by
    rw [Float64.val_natAbs hx, Float64.val_natAbs hy, Float64.val_eq hx, Float64.val_eq hy]
    generalize m * 2 ^ (e + 1074).toNat = p
    generalize k * 2 ^ (f + 1074).toNat = q
    unfold sgn
    cases a <;> cases b <;> simp [Int.neg_mul, Int.mul_neg]
  rw [e1, e2, Rat.intCast_mul, ← rv_mulU, ← rv_mulU]; grind
theorem near_frac {a b : Int} {c : Nat} (hc : c ≤ 1074) (hb : 0 < b) (h1 : ((a : Rat) / b) * 2 ^ c < 2 ^ 53) (h2 : -((a : Rat) / b) * 2 ^ c < 2 ^ 53) :
    Near (Float64.ofFrac (decide (a < 0) != decide (b < 0)) a.natAbs b.natAbs) ((a : Rat) / b) (1 / 2 ^ c) := by
  have hd : 0 < b.natAbs := by omega
  refine near_right hc (Float64.ofFrac_right (W := a.natAbs * 2 ^ 1074) (D := b.natAbs) hd rfl hd) hd ?_ h1 h2
  have e1 : ((2 ^ 1074 : Nat) : Rat) = U := by rw [pow_cast]; rfl
  have e3 : ((b.natAbs : Nat) : Rat) = (b : Rat) := by
    have : ((b.natAbs : Nat) : Int) = b := by omega
    rw [← Rat.intCast_natCast, this]
  have e4 : (decide (a < 0) != decide (b < 0)) = decide (a < 0) := by
    have : decide (b < 0) = false := by simp; omega
    rw [this]; simp
  have hbr : (b : Rat) ≠ 0 := by
    intro h
    have : b = 0 := by exact_mod_cast h
    omega
  have e5 := Float64.sgn_mul (decide (a < 0)) a.natAbs (2 ^ 1074)
  rw [e4, e5, Rat.intCast_mul, cast_natAbs, e3, Rat.intCast_natCast, e1]
  grind
theorem near_ofInt {i : Int} {c : Nat} (hc : c ≤ 1074) (h1 : (i : Rat) * 2 ^ c < 2 ^ 53) (h2 : -(i : Rat) * 2 ^ c < 2 ^ 53) : Near (Float64.ofInt i) (i : Rat) (1 / 2 ^ c) := by
  refine near_right hc (Float64.ofInt_right i) (by decide) ?_ h1 h2
  have e1 : ((2 ^ 1074 : Nat) : Rat) = U := by rw [pow_cast]; rfl
  rw [Float64.sgn_mul, Rat.intCast_mul, cast_natAbs, Rat.intCast_natCast, e1]
  have : ((1 : Nat) : Rat) = 1 := rfl
  rw [this]; grind
end Mine

namespace Mine
open Float64 (add sub mul val V decode sgn Right infMag pack halfEven shift)

theorem halfEven_is {n d N : Nat} (hd : 0 < d) (h1 : 2 * n < 2 * (d * N) + d) (h2 : 2 * (d * N) < 2 * n + d) : halfEven n d = N := by
  have h := Float64.halfEven_nearest n d hd N
  generalize halfEven n d = q at *
  unfold Float64.dist at h
  rcases Nat.lt_trichotomy q N with hl | hl | hl
  · exfalso
    have : d * (q + 1) ≤ d * N := Nat.mul_le_mul_left d hl
    rw [Nat.mul_add, Nat.mul_one] at this
    omega
  · exact hl
  · exfalso
    have : d * (N + 1) ≤ d * q := Nat.mul_le_mul_left d hl
    rw [Nat.mul_add, Nat.mul_one] at this
    omega

theorem rounds_of {x : UInt64} {N : Int} {e : Rat} (h : Near x (N : Rat) e) (he : e < 1 / 2) : RoundsTo x N := by
  obtain ⟨⟨sg, m, ex, hd⟩, h1, h2⟩ := h
  refine ⟨sg, m, ex, hd, ?_⟩
  have hge := Float64.decode_ge hd
  have hs := Float64.shift_one m ex 1074 (by omega)
  have hp := Float64.shift_pos m 1 ex (by decide)
  unfold Float64.nearestOf
  generalize hsh : shift m 1 ex = q at *
  obtain ⟨n, d⟩ := q
  dsimp only at hs hp ⊢
  have hv := Float64.val_eq hd
  have e0 : (ex + ((1074 : Nat) : Int)).toNat = (ex + 1074).toNat := rfl
  have hvd : val x * (d : Int) = sgn sg n * ((2 ^ 1074 : Nat) : Int) := by
    rw [hv, ← Float64.sgn_mul, ← Float64.sgn_mul]
    congr 1
    rw [hs, e0]
  have hU0 : U ≠ 0 := by have := U_pos; grind
  have hr : rv x * (d : Rat) = ((sgn sg n : Int) : Rat) := by
    have a1 : ((val x * (d : Int) : Int) : Rat) = ((sgn sg n * ((2 ^ 1074 : Nat) : Int) : Int) : Rat) := by rw [hvd]
    rw [Rat.intCast_mul, Rat.intCast_mul, ← rv_mulU, Rat.intCast_natCast, Rat.intCast_natCast, show ((2 ^ 1074 : Nat) : Rat) = U from pow_cast 1074] at a1
    have a2 : (rv x * (d : Rat) - ((sgn sg n : Int) : Rat)) * U = 0 := by grind
    rcases Rat.mul_eq_zero.mp a2 with h | h <;> grind
  have hdr : (0 : Rat) < (d : Rat) := by exact_mod_cast hp
  have b1 : 2 * ((sgn sg n : Int) : Rat) - 2 * (N : Rat) * d < d := by
    have : (rv x - N) < 1 / 2 := by grind
    have := Rat.mul_lt_mul_of_pos_right this hdr
    rw [← hr]; grind
  have b2 : 2 * (N : Rat) * d - 2 * ((sgn sg n : Int) : Rat) < d := by
    have : (N - rv x) < 1 / 2 := by grind
    have := Rat.mul_lt_mul_of_pos_right this hdr
    rw [← hr]; grind
  have c1 : 2 * sgn sg n - 2 * N * (d : Int) < (d : Int) := by
    have : ((2 * sgn sg n - 2 * N * (d : Int) : Int) : Rat) < (((d : Int)) : Rat) := by
      rw [Rat.intCast_sub, Rat.intCast_mul, Rat.intCast_mul, Rat.intCast_mul, Rat.intCast_natCast]; exact b1
    exact_mod_cast this
  have c2 : 2 * N * (d : Int) - 2 * sgn sg n < (d : Int) := by
    have : ((2 * N * (d : Int) - 2 * sgn sg n : Int) : Rat) < (((d : Int)) : Rat) := by
      rw [Rat.intCast_sub, Rat.intCast_mul, Rat.intCast_mul, Rat.intCast_mul, Rat.intCast_natCast]; exact b2
    exact_mod_cast this
  have hdi : (0 : Int) < (d : Int) := by omega
  have key : ∀ K : Int, 2 * (n : Int) - 2 * K * (d : Int) < (d : Int) → 2 * K * (d : Int) - 2 * (n : Int) < (d : Int) → (halfEven n d : Int) = K := by
    intro K k1 k2
    have hK : 0 ≤ K := by
      by_cases hn : K < 0
      · exfalso
        have : K * (d : Int) ≤ (-1) * (d : Int) := Int.mul_le_mul_of_nonneg_right (by omega) (by omega)
        have e : 2 * K * (d : Int) = 2 * (K * (d : Int)) := by rw [Int.mul_assoc]
        rw [e] at k1
        omega
      · omega
    obtain ⟨k, rfl⟩ := Int.eq_ofNat_of_zero_le hK
    have e : 2 * (k : Int) * (d : Int) = 2 * ((d * k : Nat) : Int) := by rw [Int.mul_assoc, Int.natCast_mul, Int.mul_comm (k : Int)]
    rw [e] at k1 k2
    rw [halfEven_is hp (N := k) (by omega) (by omega)]
  unfold sgn at c1 c2 ⊢
  cases sg
  · simp only [Bool.false_eq_true, if_false] at c1 c2 ⊢
    exact key N (by omega) (by omega)
  · simp only [if_true] at c1 c2 ⊢
    have e : 2 * (-N) * (d : Int) = -(2 * N * (d : Int)) := by simp [Int.mul_neg, Int.neg_mul]
    have := key (-N) (by rw [e]; omega) (by rw [e]; omega)
    omega

theorem mul_bound {p q P Q : Rat} (h1 : -P ≤ p) (h2 : p ≤ P) (h3 : -Q ≤ q) (h4 : q ≤ Q) : p * q ≤ P * Q ∧ -(P * Q) ≤ p * q := by
  have a1 : 0 ≤ (P - p) * (Q + q) := Rat.mul_nonneg (by grind) (by grind)
  have a2 : 0 ≤ (P + p) * (Q - q) := Rat.mul_nonneg (by grind) (by grind)
  have a3 : 0 ≤ (P - p) * (Q - q) := Rat.mul_nonneg (by grind) (by grind)
  have a4 : 0 ≤ (P + p) * (Q + q) := Rat.mul_nonneg (by grind) (by grind)
  constructor <;> grind

def uu : Rat := 1 / 2 ^ 50
theorem uu_eq : uu = 1 / 1125899906842624 := by unfold uu; decide +kernel
theorem uu_pos : 0 < uu := by rw [uu_eq]; decide +kernel
theorem uu_le : uu ≤ 1 / 1000000000000 := by rw [uu_eq]; decide +kernel

theorem nn_add {x y : UInt64} {a b n k : Rat} (hx : Near x a (n * uu)) (hy : Near y b (k * uu)) (h1 : a + b ≤ 4) (h2 : -4 ≤ a + b) (hn : n + k ≤ 1000000) : Near (add x y) (a + b) ((n + k + 1) * uu) := by
  have p := uu_pos
  have l := uu_le
  have hb : (n + k) * uu ≤ 1000000 * uu := Rat.mul_le_mul_of_nonneg_right hn (Rat.le_of_lt p)
  have x1 := hx.hi; have x2 := hx.lo; have y1 := hy.hi; have y2 := hy.lo
  have r := near_add (c := 50) (by decide) hx.fin hy.fin (by grind) (by grind)
  have r1 := r.hi; have r2 := r.lo
  have e : (1 : Rat) / 2 ^ 50 = uu := rfl
  rw [e] at r1 r2
  exact ⟨r.fin, by grind, by grind⟩
theorem nn_sub {x y : UInt64} {a b n k : Rat} (hx : Near x a (n * uu)) (hy : Near y b (k * uu)) (h1 : a - b ≤ 4) (h2 : -4 ≤ a - b) (hn : n + k ≤ 1000000) : Near (sub x y) (a - b) ((n + k + 1) * uu) := by
  have p := uu_pos
  have l := uu_le
  have hb : (n + k) * uu ≤ 1000000 * uu := Rat.mul_le_mul_of_nonneg_right hn (Rat.le_of_lt p)
  have x1 := hx.hi; have x2 := hx.lo; have y1 := hy.hi; have y2 := hy.lo
  have r := near_sub (c := 50) (by decide) hx.fin hy.fin (by grind) (by grind)
  have r1 := r.hi; have r2 := r.lo
  have e : (1 : Rat) / 2 ^ 50 = uu := rfl
  rw [e] at r1 r2
  exact ⟨r.fin, by grind, by grind⟩
theorem nn_mul {x y : UInt64} {a b n : Rat} (hx : Near x a uu) (hy : Near y b (n * uu)) (ha1 : a ≤ 2) (ha2 : -2 ≤ a) (hb1 : b ≤ 2) (hb2 : -2 ≤ b) (hn0 : 0 ≤ n) (hn : n ≤ 1000000) : Near (mul x y) (a * b) ((2 * n + 4) * uu) := by
  have p := uu_pos
  have l := uu_le
  have hb : n * uu ≤ 1000000 * uu := Rat.mul_le_mul_of_nonneg_right hn (Rat.le_of_lt p)
  have hb0 : 0 ≤ n * uu := Rat.mul_nonneg hn0 (Rat.le_of_lt p)
  have x1 := hx.hi; have x2 := hx.lo; have y1 := hy.hi; have y2 := hy.lo
  have m0 := mul_bound (p := rv x) (q := rv y) (P := 5 / 2) (Q := 5 / 2) (by grind) (by grind) (by grind) (by grind)
  have r := near_mul (c := 50) (by decide) hx.fin hy.fin (by grind) (by grind)
  have r1 := r.hi; have r2 := r.lo
  have e : (1 : Rat) / 2 ^ 50 = uu := rfl
  rw [e] at r1 r2
  have m1 := mul_bound (p := rv x - a) (q := rv y) (P := uu) (Q := 3) (by grind) (by grind) (by grind) (by grind)
  have m2 := mul_bound (p := a) (q := rv y - b) (P := 2) (Q := n * uu) (by grind) (by grind) (by grind) (by grind)
  have e2 : rv x * rv y - a * b = (rv x - a) * rv y + a * (rv y - b) := by grind
  exact ⟨r.fin, by grind, by grind⟩
theorem nn_quot {a b : Int} (hb : 0 < b) (h1 : (a : Rat) / b ≤ 4) (h2 : -4 ≤ (a : Rat) / b) : Near (Float64.ofFrac (decide (a < 0) != decide (b < 0)) a.natAbs b.natAbs) ((a : Rat) / b) (1 * uu) := by
  have r := near_frac (a := a) (b := b) (c := 50) (by decide) hb (by grind) (by grind)
  have e : (1 : Rat) / 2 ^ 50 = 1 * uu := by rw [Rat.one_mul]; rfl
  rw [e] at r
  exact r
theorem nn_times {k N : Int} {x : UInt64} {v n : Rat} (hk0 : 0 ≤ k) (hk : k ≤ 100000) (hx : Near x v (n * uu)) (hn0 : 0 ≤ n) (hn : n ≤ 1000) (hv1 : v ≤ 2) (hv2 : -2 ≤ v) (hN : (k : Rat) * v = (N : Rat)) : RoundsTo (times k x) N := by
  have p := uu_pos
  have l := uu_le
  have hb : n * uu ≤ 1000 * uu := Rat.mul_le_mul_of_nonneg_right hn (Rat.le_of_lt p)
  have hb0 : 0 ≤ n * uu := Rat.mul_nonneg hn0 (Rat.le_of_lt p)
  have k0 : (0 : Rat) ≤ (k : Rat) := by exact_mod_cast hk0
  have k1 : (k : Rat) ≤ 100000 := by
    have h := Rat.intCast_le_intCast.mpr hk
    rwa [show ((100000 : Int) : Rat) = 100000 from by decide +kernel] at h
  have x1 := hx.hi; have x2 := hx.lo
  have e33 : (1 : Rat) / 2 ^ 33 ≤ 1 / 1000000000 := by decide +kernel
  have e33' : (1 : Rat) / 2 ^ 33 ≤ 1 / 1000000000 := e33
  have p33 : (2 : Rat) ^ 33 = 8589934592 := by decide +kernel
  have p53 : (2 : Rat) ^ 53 = 9007199254740992 := by decide +kernel
  have r := near_ofInt (i := k) (c := 33) (by decide) (by rw [p33, p53]; grind) (by rw [p33, p53]; grind)
  generalize (1 : Rat) / 2 ^ 33 = e33v at e33 r
  have r1 := r.hi; have r2 := r.lo
  have m0 := mul_bound (p := rv (Float64.ofInt k)) (q := rv x) (P := 100001) (Q := 3) (by grind) (by grind) (by grind) (by grind)
  have t := near_mul (c := 33) (by decide) r.fin hx.fin (by rw [p33, p53]; grind) (by rw [p33, p53]; grind)
  generalize (1 : Rat) / 2 ^ 33 = e33w at e33' t
  have t1 := t.hi; have t2 := t.lo
  have m1 := mul_bound (p := rv (Float64.ofInt k) - k) (q := rv x) (P := 1 / 1000000000) (Q := 3) (by grind) (by grind) (by grind) (by grind)
  have m2 := mul_bound (p := (k : Rat)) (q := rv x - v) (P := 100000) (Q := 1000 * uu) (by grind) (by grind) (by grind) (by grind)
  have e2 : rv (Float64.ofInt k) * rv x - k * v = (rv (Float64.ofInt k) - k) * rv x + k * (rv x - v) := by grind
  have u2 : 100000 * (1000 * uu) ≤ 1 / 1000 := by grind
  refine rounds_of (e := 1 / 3) ⟨t.fin, ?_, ?_⟩ (by decide +kernel)
  · unfold times; grind
  · unfold times; grind
end Mine

namespace Mine
open Float64 (add sub mul val decode sgn)

theorem fin_of {x : UInt64} (h : Float64.isFinite x = true) : ∃ a m e, decode x = .fin a m e := by
  unfold Float64.isFinite at h
  cases hd : decode x with
  | fin a m e => exact ⟨_, _, _, rfl⟩
  | nan => rw [hd] at h; cases h
  | inf s => rw [hd] at h; cases h
theorem const_near {x : UInt64} {v : Rat} (hd : Float64.isFinite x = true) (h1 : rv x - v ≤ uu) (h2 : v - rv x ≤ uu) : Near x v uu := ⟨fin_of hd, h1, h2⟩
theorem k30 : Near 0x3fd3333333333333 (3 / 10) uu := const_near (by decide +kernel) (by decide +kernel) (by decide +kernel)
theorem k59 : Near 0x3fe2e147ae147ae1 (59 / 100) uu := const_near (by decide +kernel) (by decide +kernel) (by decide +kernel)
theorem k11 : Near 0x3fbc28f5c28f5c29 (11 / 100) uu := const_near (by decide +kernel) (by decide +kernel) (by decide +kernel)
theorem k74 : Near 0x3fe7ae147ae147ae (74 / 100) uu := const_near (by decide +kernel) (by decide +kernel) (by decide +kernel)
theorem k27 : Near 0x3fd147ae147ae148 (27 / 100) uu := const_near (by decide +kernel) (by decide +kernel) (by decide +kernel)
theorem k48 : Near 0x3fdeb851eb851eb8 (48 / 100) uu := const_near (by decide +kernel) (by decide +kernel) (by decide +kernel)
theorem k41 : Near 0x3fda3d70a3d70a3d (41 / 100) uu := const_near (by decide +kernel) (by decide +kernel) (by decide +kernel)
theorem kri : Near 0x3fee4cdbef721b32 (410 / 433) uu := const_near (by decide +kernel) (by decide +kernel) (by decide +kernel)
theorem krq : Near 0x3fe3f42ceedac0be (270 / 433) uu := const_near (by decide +kernel) (by decide +kernel) (by decide +kernel)
theorem kgi : Near 0x3fd1961eec8cbb3a (7020 / 25547) uu := const_near (by decide +kernel) (by decide +kernel) (by decide +kernel)
theorem kgq : Near 0x3fe45794d16efff3 (16240 / 25547) uu := const_near (by decide +kernel) (by decide +kernel) (by decide +kernel)
theorem kbi : Near 0x3ff1bc99b7dee436 (480 / 433) uu := const_near (by decide +kernel) (by decide +kernel) (by decide +kernel)
theorem kbq : Near 0x3ffb5817a6224a7f (740 / 433) uu := const_near (by decide +kernel) (by decide +kernel) (by decide +kernel)

theorem Near.as {x : UInt64} {v v' e e' : Rat} (h : Near x v e) (hv : v = v') (he : e = e') : Near x v' e' := by subst hv; subst he; exact h

section
variable {R G B : UInt64} {r g b : Rat}
theorem near_Y (hR : Near R r (1 * uu)) (hG : Near G g (1 * uu)) (hB : Near B b (1 * uu)) (r0 : 0 ≤ r) (r1 : r ≤ 1) (g0 : 0 ≤ g) (g1 : g ≤ 1) (b0 : 0 ≤ b) (b1 : b ≤ 1) : Near (yiqY R G B) (3 / 10 * r + 59 / 100 * g + 11 / 100 * b) (20 * uu) := by
  have a := nn_mul k30 hR (by grind) (by grind) (by grind) (by grind) (by grind) (by grind)
  have c := nn_mul k59 hG (by grind) (by grind) (by grind) (by grind) (by grind) (by grind)
  have d := nn_mul k11 hB (by grind) (by grind) (by grind) (by grind) (by grind) (by grind)
  have e := nn_add a c (by grind) (by grind) (by grind)
  have f := nn_add e d (by grind) (by grind) (by grind)
  exact f.as rfl (by grind)
theorem near_I {Y : UInt64} {y : Rat} (hR : Near R r (1 * uu)) (hB : Near B b (1 * uu)) (hY : Near Y y (20 * uu)) (r0 : 0 ≤ r) (r1 : r ≤ 1) (b0 : 0 ≤ b) (b1 : b ≤ 1) (y0 : 0 ≤ y) (y1 : y ≤ 1) : Near (yiqI R B Y) (74 / 100 * (r - y) - 27 / 100 * (b - y)) (97 * uu) := by
  have s1 := nn_sub hR hY (by grind) (by grind) (by grind)
  have s2 := nn_sub hB hY (by grind) (by grind) (by grind)
  have a := nn_mul k74 s1 (by grind) (by grind) (by grind) (by grind) (by grind) (by grind)
  have c := nn_mul k27 s2 (by grind) (by grind) (by grind) (by grind) (by grind) (by grind)
  have e := nn_sub a c (by grind) (by grind) (by grind)
  exact e.as rfl (by grind)
theorem near_Q {Y : UInt64} {y : Rat} (hR : Near R r (1 * uu)) (hB : Near B b (1 * uu)) (hY : Near Y y (20 * uu)) (r0 : 0 ≤ r) (r1 : r ≤ 1) (b0 : 0 ≤ b) (b1 : b ≤ 1) (y0 : 0 ≤ y) (y1 : y ≤ 1) : Near (yiqQ R B Y) (48 / 100 * (r - y) + 41 / 100 * (b - y)) (97 * uu) := by
  have s1 := nn_sub hR hY (by grind) (by grind) (by grind)
  have s2 := nn_sub hB hY (by grind) (by grind) (by grind)
  have a := nn_mul k48 s1 (by grind) (by grind) (by grind) (by grind) (by grind) (by grind)
  have c := nn_mul k41 s2 (by grind) (by grind) (by grind) (by grind) (by grind) (by grind)
  have e := nn_add a c (by grind) (by grind) (by grind)
  exact e.as rfl (by grind)
end

section
variable {Y I Q : UInt64} {y i q : Rat}
theorem near_rgbR (hY : Near Y y (1 * uu)) (hI : Near I i (1 * uu)) (hQ : Near Q q (1 * uu)) (y0 : 0 ≤ y) (y1 : y ≤ 1) (i0 : -2 ≤ i) (i1 : i ≤ 2) (q0 : -2 ≤ q) (q1 : q ≤ 2) {v : Rat} (hv : y + 410 / 433 * i + 270 / 433 * q = v) (v0 : -3 ≤ v) (v1 : v ≤ 3) : Near (rgbR Y I Q) v (15 * uu) := by
  have a := nn_mul kri hI (by grind) (by grind) (by grind) (by grind) (by grind) (by grind)
  have c := nn_mul krq hQ (by grind) (by grind) (by grind) (by grind) (by grind) (by grind)
  have e := nn_add hY a (by grind) (by grind) (by grind)
  have f := nn_add e c (by grind) (by grind) (by grind)
  exact f.as hv (by grind)
theorem near_rgbG (hY : Near Y y (1 * uu)) (hI : Near I i (1 * uu)) (hQ : Near Q q (1 * uu)) (y0 : 0 ≤ y) (y1 : y ≤ 1) (i0 : -2 ≤ i) (i1 : i ≤ 2) (q0 : -2 ≤ q) (q1 : q ≤ 2) {v : Rat} (hv : y - 7020 / 25547 * i - 16240 / 25547 * q = v) (v0 : -3 ≤ v) (v1 : v ≤ 3) : Near (rgbG Y I Q) v (15 * uu) := by
  have a := nn_mul kgi hI (by grind) (by grind) (by grind) (by grind) (by grind) (by grind)
  have c := nn_mul kgq hQ (by grind) (by grind) (by grind) (by grind) (by grind) (by grind)
  have e := nn_sub hY a (by grind) (by grind) (by grind)
  have f := nn_sub e c (by grind) (by grind) (by grind)
  exact f.as hv (by grind)
theorem near_rgbB (hY : Near Y y (1 * uu)) (hI : Near I i (1 * uu)) (hQ : Near Q q (1 * uu)) (y0 : 0 ≤ y) (y1 : y ≤ 1) (i0 : -2 ≤ i) (i1 : i ≤ 2) (q0 : -2 ≤ q) (q1 : q ≤ 2) {v : Rat} (hv : y - 480 / 433 * i + 740 / 433 * q = v) (v0 : -3 ≤ v) (v1 : v ≤ 3) : Near (rgbB Y I Q) v (15 * uu) := by
  have a := nn_mul kbi hI (by grind) (by grind) (by grind) (by grind) (by grind) (by grind)
  have c := nn_mul kbq hQ (by grind) (by grind) (by grind) (by grind) (by grind) (by grind)
  have e := nn_sub hY a (by grind) (by grind) (by grind)
  have f := nn_add e c (by grind) (by grind) (by grind)
  exact f.as hv (by grind)
end

def clampR (v : Rat) : Rat := if v < 0 then 0 else if 1 < v then 1 else v
theorem zero_rv' : rv 0x0 = 0 := by decide +kernel
theorem one_rv : rv 0x3ff0000000000000 = 1 := by decide +kernel
theorem cmp_lt {x y : UInt64} (hx : ∃ a m e, decode x = .fin a m e) (hy : ∃ a m e, decode y = .fin a m e) : ((Float64.cmp x y == some Ordering.lt) = true ↔ rv x < rv y) ∧ ((Float64.cmp x y == some Ordering.gt) = true ↔ rv y < rv x) := by
  obtain ⟨a, m, e, hx⟩ := hx
  obtain ⟨b, k, f, hy⟩ := hy
  rw [Float64.cmp_right hx hy]
  have key : ∀ p q : UInt64, (rv p < rv q ↔ val p < val q) := by
    intro p q
    have hp := rv_mulU p
    have hq := rv_mulU q
    constructor
    · intro h
      have := Rat.mul_lt_mul_of_pos_right h U_pos
      rw [hp, hq] at this
      exact Rat.intCast_lt_intCast.mp this
    · intro h
      have := Rat.intCast_lt_intCast.mpr h
      rw [← hp, ← hq] at this
      exact Rat.lt_of_mul_lt_mul_right this (Rat.le_of_lt U_pos)
  constructor
  · rw [key, ← Int.compare_eq_lt]; simp
  · rw [key, ← Int.compare_eq_gt]; simp
theorem clamp_near {x : UInt64} {v e : Rat} (h : Near x v e) (he : 0 ≤ e) : Near (clampF x) (clampR v) e := by
  have f0 : ∃ a m e, decode (0x0 : UInt64) = .fin a m e := fin_of (by decide +kernel)
  have f1 : ∃ a m e, decode (0x3ff0000000000000 : UInt64) = .fin a m e := fin_of (by decide +kernel)
  have x1 := h.hi; have x2 := h.lo
  have c1 := (cmp_lt h.fin f0).1
  rw [zero_rv'] at c1
  unfold clampF clampLo
  by_cases hl : rv x < 0
  · rw [if_pos (c1.mpr hl)]
    have c2 := (cmp_lt f0 f1).2
    rw [zero_rv', one_rv] at c2
    unfold clampHi
    rw [if_neg (fun hh => by have := c2.mp hh; grind)]
    refine ⟨f0, ?_, ?_⟩ <;> rw [zero_rv'] <;> unfold clampR <;> split <;> (try split) <;> grind
  · rw [if_neg (fun hh => hl (c1.mp hh))]
    have c2 := (cmp_lt h.fin f1).2
    rw [one_rv] at c2
    unfold clampHi
    by_cases hg : 1 < rv x
    · rw [if_pos (c2.mpr hg)]
      refine ⟨f1, ?_, ?_⟩ <;> rw [one_rv] <;> unfold clampR <;> split <;> (try split) <;> grind
    · rw [if_neg (fun hh => hg (c2.mp hh))]
      refine ⟨h.fin, ?_, ?_⟩ <;> unfold clampR <;> split <;> (try split) <;> grind
end Mine

namespace Mine
open Float64 (add sub mul val decode sgn)

theorem div_facts {a b : Int} (hb : 0 < b) {lo hi : Int} (h1 : lo * b ≤ a) (h2 : a ≤ hi * b) : (lo : Rat) ≤ (a : Rat) / b ∧ (a : Rat) / b ≤ (hi : Rat) ∧ ((a : Rat) / b) * b = a := by
  have hbr : (0 : Rat) < (b : Rat) := by exact_mod_cast hb
  have e : ((a : Rat) / b) * b = a := by grind
  have k1 : ((lo * b : Int) : Rat) ≤ (a : Rat) := by exact_mod_cast h1
  have k2 : (a : Rat) ≤ ((hi * b : Int) : Rat) := by exact_mod_cast h2
  rw [Rat.intCast_mul] at k1 k2
  refine ⟨?_, ?_, e⟩
  · rw [← e] at k1; exact Rat.le_of_mul_le_mul_right k1 hbr
  · rw [← e] at k2; exact Rat.le_of_mul_le_mul_right k2 hbr

theorem ofInt_fin {i : Int} (h0 : 0 ≤ i) (h1 : i ≤ 100000) : ∃ a m e, decode (Float64.ofInt i) = .fin a m e := by
  have k0 : (0 : Rat) ≤ (i : Rat) := by exact_mod_cast h0
  have k1 : (i : Rat) ≤ 100000 := by
    have h := Rat.intCast_le_intCast.mpr h1
    rwa [show ((100000 : Int) : Rat) = 100000 from by decide +kernel] at h
  have p33 : (2 : Rat) ^ 33 = 8589934592 := by decide +kernel
  have p53 : (2 : Rat) ^ 53 = 9007199254740992 := by decide +kernel
  exact (near_ofInt (i := i) (c := 33) (by decide) (by rw [p33, p53]; grind) (by rw [p33, p53]; grind)).fin
theorem near_ninth {r : Int} (h : 0 ≤ r ∧ r ≤ 9) : ∃ v : Rat, Near (ninth r) v (1 * uu) ∧ 0 ≤ v ∧ v ≤ 1 ∧ v * 9 = (r : Rat) := by
  have f := div_facts (a := r) (b := 9) (lo := 0) (hi := 1) (by decide) (by omega) (by omega)
  have e0 : ((0 : Int) : Rat) = 0 := rfl
  have e1 : ((1 : Int) : Rat) = 1 := rfl
  have e9 : ((9 : Int) : Rat) = 9 := rfl
  rw [e0, e1] at f
  refine ⟨(r : Rat) / (9 : Int), nn_quot (by decide) (by grind) (by grind), f.1, f.2.1, ?_⟩
  rw [← e9]; exact f.2.2

theorem yiq_rounds {r g b : Int} (hr : 0 ≤ r ∧ r ≤ 9) (hg : 0 ≤ g ∧ g ≤ 9) (hb : 0 ≤ b ∧ b ≤ 9) :
    RoundsTo (times 90000 (yiqY (ninth r) (ninth g) (ninth b))) (3000 * r + 5900 * g + 1100 * b) ∧
    RoundsTo (times 90000 (yiqI (ninth r) (ninth b) (yiqY (ninth r) (ninth g) (ninth b)))) (5990 * r - 2773 * g - 3217 * b) ∧
    RoundsTo (times 90000 (yiqQ (ninth r) (ninth b) (yiqY (ninth r) (ninth g) (ninth b)))) (2130 * r - 5251 * g + 3121 * b) := by
  obtain ⟨x, hx, x0, x1, ex⟩ := near_ninth hr
  obtain ⟨y, hy, y0, y1, ey⟩ := near_ninth hg
  obtain ⟨z, hz, z0, z1, ez⟩ := near_ninth hb
  have hY := near_Y hx hy hz x0 x1 y0 y1 z0 z1
  have hI := near_I hx hz hY x0 x1 z0 z1 (by grind) (by grind)
  have hQ := near_Q hx hz hY x0 x1 z0 z1 (by grind) (by grind)
  refine ⟨nn_times (by decide) (by decide) hY (by grind) (by grind) (by grind) (by grind) ?_, nn_times (by decide) (by decide) hI (by grind) (by grind) (by grind) (by grind) ?_, nn_times (by decide) (by decide) hQ (by grind) (by grind) (by grind) (by grind) ?_⟩
  · push_cast; grind
  · push_cast; grind
  · push_cast; grind

theorem clampR_in {v : Rat} (h0 : 0 ≤ v) (h1 : v ≤ 1) : clampR v = v := by unfold clampR; split <;> (try split) <;> grind

structure MixOk (T L O P p1 p2 p3 : Int) : Prop where
  t0 : 0 < T
  t1 : T ≤ 110
  a0 : 0 ≤ p1
  a1 : p1 ≤ 9 * T
  b0 : 0 ≤ p2
  b1 : p2 ≤ 9 * T
  c0 : 0 ≤ p3
  c1 : p3 ≤ 9 * T
  l : L = 3000 * p1 + 5900 * p2 + 1100 * p3
  o : O = 5990 * p1 - 2773 * p2 - 3217 * p3
  p : P = 2130 * p1 - 5251 * p2 + 3121 * p3

theorem notInf_of {x : UInt64} (h : ∃ a m e, decode x = .fin a m e) : ¬ Float64.isInf x = true := by
  obtain ⟨a, m, e, h⟩ := h
  unfold Float64.isInf; rw [h]; simp

structure MixEnds (T L O P p1 p2 p3 q1 q2 q3 : Int) : Prop where
  hT : ¬ (90000 * T == 0) = true
  hf1 : ¬ Float64.isInf (quot L (90000 * T)) = true
  hf2 : ¬ Float64.isInf (quot O (90000 * T)) = true
  hf3 : ¬ Float64.isInf (quot P (90000 * T)) = true
  hf4 : ¬ Float64.isInf (quot (3 * O) (90000 * T)) = true
  hf5 : ¬ Float64.isInf (quot (3 * P) (90000 * T)) = true
  hi1 : ¬ Float64.isInf (Float64.ofInt (9 * T)) = true
  hi2 : ¬ Float64.isInf (Float64.ofInt (900 * T)) = true
  hm1 : RoundsTo (times (9 * T) (clampF (rgbR (quot L (90000 * T)) (quot O (90000 * T)) (quot P (90000 * T))))) p1
  hm2 : RoundsTo (times (9 * T) (clampF (rgbG (quot L (90000 * T)) (quot O (90000 * T)) (quot P (90000 * T))))) p2
  hm3 : RoundsTo (times (9 * T) (clampF (rgbB (quot L (90000 * T)) (quot O (90000 * T)) (quot P (90000 * T))))) p3
  hv1 : RoundsTo (times (900 * T) (clampF (rgbR (quot L (90000 * T)) (quot (3 * O) (90000 * T)) (quot (3 * P) (90000 * T))))) q1
  hv2 : RoundsTo (times (900 * T) (clampF (rgbG (quot L (90000 * T)) (quot (3 * O) (90000 * T)) (quot (3 * P) (90000 * T))))) q2
  hv3 : RoundsTo (times (900 * T) (clampF (rgbB (quot L (90000 * T)) (quot (3 * O) (90000 * T)) (quot (3 * P) (90000 * T))))) q3

theorem clamp_whole {T x l : Int} {u y : Rat} (hT : 0 < T) (hu : u * (9 * T : Int) = (x : Rat)) (hy : y * (90000 * T : Int) = ((100 * l : Int) : Rat)) : ((900 * T : Int) : Rat) * clampR (3 * u - 2 * y) = ((min (max (300 * x - 2 * l) 0) (900 * T) : Int) : Rat) := by
  have hTr : (0 : Rat) < (T : Rat) := by exact_mod_cast hT
  push_cast at hu hy
  have key : ((900 * T : Int) : Rat) * (3 * u - 2 * y) = ((300 * x - 2 * l : Int) : Rat) := by push_cast; grind
  have k9 : ((900 * T : Int) : Rat) > 0 := by push_cast; grind
  generalize 3 * u - 2 * y = v at *
  unfold clampR
  split
  · rename_i h
    have : ((300 * x - 2 * l : Int) : Rat) < ((0 : Int) : Rat) := by
      rw [← key]
      have := Rat.mul_lt_mul_of_pos_left h k9
      rw [Rat.mul_zero] at this
      exact this
    have := Rat.intCast_lt_intCast.mp this
    have e : min (max (300 * x - 2 * l) 0) (900 * T) = 0 := by omega
    rw [e, Rat.mul_zero]; rfl
  · rename_i h
    have h0 : 0 ≤ v := by grind
    have i0 : ((0 : Int) : Rat) ≤ ((300 * x - 2 * l : Int) : Rat) := by
      rw [← key]; exact Rat.mul_nonneg (Rat.le_of_lt k9) h0
    have i0 := Rat.intCast_le_intCast.mp i0
    split
    · rename_i h1
      have : ((900 * T : Int) : Rat) < ((300 * x - 2 * l : Int) : Rat) := by
        rw [← key]
        have := Rat.mul_lt_mul_of_pos_left h1 k9
        rw [Rat.mul_one] at this
        exact this
      have := Rat.intCast_lt_intCast.mp this
      have e : min (max (300 * x - 2 * l) 0) (900 * T) = 900 * T := by omega
      rw [e, Rat.mul_one]
    · rename_i h1
      have h1 : v ≤ 1 := by grind
      have i1 : ((300 * x - 2 * l : Int) : Rat) ≤ ((900 * T : Int) : Rat) := by
        rw [← key]
        have := Rat.mul_le_mul_of_nonneg_left h1 (Rat.le_of_lt k9)
        rw [Rat.mul_one] at this
        exact this
      have := Rat.intCast_le_intCast.mp i1
      have e : min (max (300 * x - 2 * l) 0) (900 * T) = 300 * x - 2 * l := by omega
      rw [e, key]

theorem mix_ends {T L O P p1 p2 p3 : Int} (h : MixOk T L O P p1 p2 p3) : MixEnds T L O P p1 p2 p3 (min (max (300 * p1 - 2 * (30 * p1 + 59 * p2 + 11 * p3)) 0) (900 * T)) (min (max (300 * p2 - 2 * (30 * p1 + 59 * p2 + 11 * p3)) 0) (900 * T)) (min (max (300 * p3 - 2 * (30 * p1 + 59 * p2 + 11 * p3)) 0) (900 * T)) := by
  obtain ⟨t0, t1, a0, a1, b0, b1, c0, c1, rfl, rfl, rfl⟩ := h
  have e0 : ((0 : Int) : Rat) = 0 := rfl
  have e1 : ((1 : Int) : Rat) = 1 := rfl
  have e2 : ((2 : Int) : Rat) = 2 := rfl
  have em : ((-2 : Int) : Rat) = -2 := rfl
  have hTr : (0 : Rat) < (T : Rat) := by exact_mod_cast t0
  have f1 := div_facts (a := p1) (b := 9 * T) (lo := 0) (hi := 1) (by omega) (by omega) (by omega)
  have f2 := div_facts (a := p2) (b := 9 * T) (lo := 0) (hi := 1) (by omega) (by omega) (by omega)
  have f3 := div_facts (a := p3) (b := 9 * T) (lo := 0) (hi := 1) (by omega) (by omega) (by omega)
  rw [e0, e1] at f1 f2 f3
  generalize (p1 : Rat) / ((9 * T : Int) : Rat) = u at *
  generalize (p2 : Rat) / ((9 * T : Int) : Rat) = v at *
  generalize (p3 : Rat) / ((9 * T : Int) : Rat) = w at *
  have gl := div_facts (a := 3000 * p1 + 5900 * p2 + 1100 * p3) (b := 90000 * T) (lo := 0) (hi := 1) (by omega) (by omega) (by omega)
  have go := div_facts (a := 5990 * p1 - 2773 * p2 - 3217 * p3) (b := 90000 * T) (lo := -2) (hi := 2) (by omega) (by omega) (by omega)
  have gp := div_facts (a := 2130 * p1 - 5251 * p2 + 3121 * p3) (b := 90000 * T) (lo := -2) (hi := 2) (by omega) (by omega) (by omega)
  have go3 := div_facts (a := 3 * (5990 * p1 - 2773 * p2 - 3217 * p3)) (b := 90000 * T) (lo := -2) (hi := 2) (by omega) (by omega) (by omega)
  have gp3 := div_facts (a := 3 * (2130 * p1 - 5251 * p2 + 3121 * p3)) (b := 90000 * T) (lo := -2) (hi := 2) (by omega) (by omega) (by omega)
  rw [e0, e1] at gl
  rw [em, e2] at go gp go3 gp3
  have nl := nn_quot (a := 3000 * p1 + 5900 * p2 + 1100 * p3) (b := 90000 * T) (by omega) (by grind) (by grind)
  have no := nn_quot (a := 5990 * p1 - 2773 * p2 - 3217 * p3) (b := 90000 * T) (by omega) (by grind) (by grind)
  have np := nn_quot (a := 2130 * p1 - 5251 * p2 + 3121 * p3) (b := 90000 * T) (by omega) (by grind) (by grind)
  have no3 := nn_quot (a := 3 * (5990 * p1 - 2773 * p2 - 3217 * p3)) (b := 90000 * T) (by omega) (by grind) (by grind)
  have np3 := nn_quot (a := 3 * (2130 * p1 - 5251 * p2 + 3121 * p3)) (b := 90000 * T) (by omega) (by grind) (by grind)
  generalize ((3000 * p1 + 5900 * p2 + 1100 * p3 : Int) : Rat) / ((90000 * T : Int) : Rat) = y at *
  generalize ((5990 * p1 - 2773 * p2 - 3217 * p3 : Int) : Rat) / ((90000 * T : Int) : Rat) = i at *
  generalize ((2130 * p1 - 5251 * p2 + 3121 * p3 : Int) : Rat) / ((90000 * T : Int) : Rat) = q at *
  generalize ((3 * (5990 * p1 - 2773 * p2 - 3217 * p3) : Int) : Rat) / ((90000 * T : Int) : Rat) = i3 at *
  generalize ((3 * (2130 * p1 - 5251 * p2 + 3121 * p3) : Int) : Rat) / ((90000 * T : Int) : Rat) = q3 at *
  obtain ⟨u0, u1, eu⟩ := f1
  obtain ⟨v0, v1, ev⟩ := f2
  obtain ⟨w0, w1, ew⟩ := f3
  obtain ⟨y0, y1, ey⟩ := gl
  obtain ⟨i0, i1, ei⟩ := go
  obtain ⟨q0, q1, eq⟩ := gp
  obtain ⟨j0, j1, ej⟩ := go3
  obtain ⟨k0, k1, ek⟩ := gp3
  have eu' := eu; have ev' := ev; have ew' := ew
  have hy : y * ((90000 * T : Int) : Rat) = ((100 * (30 * p1 + 59 * p2 + 11 * p3) : Int) : Rat) := by rw [ey]; congr 1; omega
  push_cast at eu ev ew ey ei eq ej ek
  have can : ∀ s t : Rat, s * T = t * T → s = t := fun s t h => by
    have : (s - t) * T = 0 := by grind
    rcases Rat.mul_eq_zero.mp this with h | h <;> grind
  have ry : y = 3 / 10 * u + 59 / 100 * v + 11 / 100 * w := can _ _ (by grind)
  have ri : i = 5990 / 10000 * u - 2773 / 10000 * v - 3217 / 10000 * w := can _ _ (by grind)
  have rq : q = 2130 / 10000 * u - 5251 / 10000 * v + 3121 / 10000 * w := can _ _ (by grind)
  have rj : i3 = 3 * i := can _ _ (by grind)
  have rk : q3 = 3 * q := can _ _ (by grind)
  have k9 : (0 : Rat) ≤ 15 := by decide +kernel
  have k9' : (15 : Rat) ≤ 1000 := by decide +kernel
  have up := uu_pos
  have R := clamp_near (near_rgbR nl no np y0 y1 i0 i1 q0 q1 (v := u) (by grind) (by grind) (by grind)) (by grind)
  have G := clamp_near (near_rgbG nl no np y0 y1 i0 i1 q0 q1 (v := v) (by grind) (by grind) (by grind)) (by grind)
  have B := clamp_near (near_rgbB nl no np y0 y1 i0 i1 q0 q1 (v := w) (by grind) (by grind) (by grind)) (by grind)
  have R3 := clamp_near (near_rgbR nl no3 np3 y0 y1 j0 j1 k0 k1 (v := 3 * u - 2 * y) (by grind) (by grind) (by grind)) (by grind)
  have G3 := clamp_near (near_rgbG nl no3 np3 y0 y1 j0 j1 k0 k1 (v := 3 * v - 2 * y) (by grind) (by grind) (by grind)) (by grind)
  have B3 := clamp_near (near_rgbB nl no3 np3 y0 y1 j0 j1 k0 k1 (v := 3 * w - 2 * y) (by grind) (by grind) (by grind)) (by grind)
  rw [clampR_in u0 u1] at R
  rw [clampR_in v0 v1] at G
  rw [clampR_in w0 w1] at B
  have cr : ∀ s : Rat, clampR s ≤ 2 ∧ -2 ≤ clampR s := fun s => by unfold clampR; split <;> (try split) <;> grind
  refine ⟨by simp; omega, notInf_of nl.fin, notInf_of no.fin, notInf_of np.fin, notInf_of no3.fin, notInf_of np3.fin, ?_, ?_, ?_, ?_, ?_, ?_, ?_, ?_⟩
  · exact notInf_of (ofInt_fin (by omega) (by omega))
  · exact notInf_of (ofInt_fin (by omega) (by omega))
  · exact nn_times (by omega) (by omega) R k9 k9' (by grind) (by grind) (by rw [Rat.mul_comm]; exact eu')
  · exact nn_times (by omega) (by omega) G k9 k9' (by grind) (by grind) (by rw [Rat.mul_comm]; exact ev')
  · exact nn_times (by omega) (by omega) B k9 k9' (by grind) (by grind) (by rw [Rat.mul_comm]; exact ew')
  · exact nn_times (by omega) (by omega) R3 k9 k9' (cr _).1 (cr _).2 (clamp_whole t0 eu' hy)
  · exact nn_times (by omega) (by omega) G3 k9 k9' (cr _).1 (cr _).2 (clamp_whole t0 ev' hy)
  · exact nn_times (by omega) (by omega) B3 k9 k9' (cr _).1 (cr _).2 (clamp_whole t0 ew' hy)
end Mine

namespace Mine

def lumaP (p : Paint) : Int := 3000 * p.r + 5900 * p.g + 1100 * p.b
def orangeP (p : Paint) : Int := 5990 * p.r - 2773 * p.g - 3217 * p.b
def purpleP (p : Paint) : Int := 2130 * p.r - 5251 * p.g + 3121 * p.b
def textP (p : Paint) : Str := itemText p.name [lumaP p, orangeP p, purpleP p, p.parts] p.way
structure Fine (p : Paint) : Prop where
  hr : 0 ≤ p.r ∧ p.r ≤ 9
  hg : 0 ≤ p.g ∧ p.g ≤ 9
  hb : 0 ≤ p.b ∧ p.b ≤ 9
  hp : 1 ≤ p.parts ∧ p.parts ≤ 9
  hw : 0 ≤ p.way ∧ p.way ≤ 3
  hn : ∃ k : Int, 0 ≤ k ∧ k < 5 ∧ p.name = nameAt k
structure LawOk (ps : List Paint) : Prop where
  fine : ∀ p ∈ ps, Fine p
  len : ps.length ≤ 11
  hW : ((ps.map textP).map (·.length)).sum + (ps.map textP).length ≤ 1048576
  hlen : (Txt.join (Str.ofString " ,\t") (ps.map textP)).length ≤ 100000
  mix : ∃ (items : List (Str × Str)) (qs : List Quad) (L O P : Int), Paired (fun e (p : Str × Str) => KeqvIs e p.1 p.2) (httpParse (Txt.join (Str.ofString " ,\t") (ps.map textP))) items ∧ items.length ≤ 100000 ∧
    Paired (fun (p : Str × Str) q => QuadIs p.2 q) (items.foldl dput []) qs ∧ mixSum qs = (L, O, P, (potOf ps).total) ∧ MixOk (potOf ps).total L O P (potOf ps).p1 (potOf ps).p2 (potOf ps).p3

theorem nameAt_len (k : Int) : (nameAt k).length ≤ 10 := by
  unfold nameAt
  repeat' split
  all_goals decide

section
variable {prog : Program} {w : World} {A : Around} {E : Value → Shared → Prop} {env : Env} {s : Shared} {scope : Scope} {cl : List (Str × Addr)}
theorem binds_paint {x1 x2 x3 x4 : Str} {p1 p2 p3 p4 pos : Pos} {k : Nat} {vs : List Value} {ps : List Paint} (hh : A.handled = none) (hvs : Paired (PaintAt s.heap) vs ps)
    (h1 : scope.names.lookup x1 = some .local) (h2 : scope.names.lookup x2 = some .local) (h3 : scope.names.lookup x3 = some .local) (h4 : scope.names.lookup x4 = some .local) (hkind : scope.kind = .function) (d12 : x1 ≠ x2) (d13 : x1 ≠ x3) (d23 : x2 ≠ x3) (d14 : x1 ≠ x4) (d24 : x2 ≠ x4) (d34 : x3 ≠ x4) :
    Binds prog w A env scope cl (.Tuple [.Name x1 p1, .Name x2 p2, .Name x3 p3, .Name x4 p4] k pos) s (fun i v => vs[i]? = some v)
      (fun i m => ∃ p c t1 t2 t3 u1 u2 u3, ps[i]? = some p ∧ (m x1 = some (.str p.name t1) ∧ m x2 = some (.ref c) ∧ m x3 = some (.int p.parts t2) ∧ m x4 = some (.int p.way t3)) ∧ s.heap.get? c = some (tupOf #[.int p.r u1, .int p.g u2, .int p.b u3])) := by
  intro C i v s' m' Q' E' hP hns hk hq
  obtain ⟨p, hpi, a, c, t1, t2, t3, u1, u2, u3, rfl, ha, hc⟩ := paired_place hvs hP
  refine assign4 hh (a := .str p.name t1) (b := .ref c) (c := .int p.parts t2) (d := .int p.way t3) ⟨_, hk _ _ ha, rfl, 0, rfl⟩ hns h1 h2 h3 h4 hkind d12 d13 d23 d14 d24 d34 fun h' tk m'' hns' hm hk' => ?_
  exact hq h' tk m'' hns' ⟨p, c, t1, t2, t3, u1, u2, u3, hpi, hm, hc⟩ hk'
end

theorem obj_led {h₀ h : Heap} {L a : Addr} {m : Str → Option Value} {vs : Array Value} (F : Fr h₀ L h m) (ha : h.get? a = some (tupOf vs)) :
    ∃ led, News h₀ L h led ∧ ∀ h' m', Fr h₀ L h' m' → News h₀ L h' led → h'.get? a = some (tupOf vs) := by
  cases e : h₀.get? a with
  | some o =>
    have := F.keep _ _ e
    rw [ha] at this; cases this
    exact ⟨[], News.nil, fun h' m' F' _ => F'.keep _ _ e⟩
  | none =>
    refine ⟨[(a, tupOf vs)], fun p hp => ?_, fun h' m' _ N' => (N' _ (.head _)).1⟩
    rw [List.mem_singleton.mp hp]
    refine ⟨ha, ?_, e⟩
    rintro rfl
    obtain ⟨o, es, ep, ho, hd, _⟩ := F.ns
    rw [ha] at ho; cases ho; cases hd
theorem news_append {h₀ h : Heap} {L : Addr} {l1 l2 : List (Addr × Obj)} (N1 : News h₀ L h l1) (N2 : News h₀ L h l2) : News h₀ L h (l1 ++ l2) := fun p hp => (List.mem_append.mp hp).elim (N1 p) (N2 p)
theorem paints_led {h₀ h : Heap} {L : Addr} {m : Str → Option Value} {vs : List Value} {ps : List Paint} (F : Fr h₀ L h m) (hp : Paired (PaintAt h) vs ps) :
    ∃ led, News h₀ L h led ∧ ∀ h' m', Fr h₀ L h' m' → News h₀ L h' led → Paired (PaintAt h') vs ps := by
  induction hp with
  | nil => exact ⟨[], News.nil, fun _ _ _ _ => .nil⟩
  | cons g _ ih =>
    obtain ⟨a, c, t1, t2, t3, u1, u2, u3, rfl, ha, hc⟩ := g
    obtain ⟨l1, n1, k1⟩ := obj_led F ha
    obtain ⟨l2, n2, k2⟩ := obj_led F hc
    obtain ⟨l3, n3, k3⟩ := ih
    refine ⟨l1 ++ (l2 ++ l3), news_append n1 (news_append n2 n3), fun h' m' F' N' => .cons ⟨a, c, t1, t2, t3, u1, u2, u3, rfl, k1 h' m' F' (fun p hp => N' p (List.mem_append_left _ hp)), k2 h' m' F' (fun p hp => N' p (List.mem_append_right _ (List.mem_append_left _ hp)))⟩ (k3 h' m' F' fun p hp => N' p (List.mem_append_right _ (List.mem_append_right _ hp)))⟩

theorem reads_ints {h : Heap} {a : Addr} {ys : Array Value} {k : Nat} {ns : List Int} (ha : h.get? a = some (listOf ys k)) (hi : IntsAre ys.toList ns) : Reads h (.ref a) (.list (ns.map PyData.int)) [a] :=
  reads_newData (listAt ha) (ke_carried hi)
theorem eqv_two (a b : List Int) : PyData.eqv (.tuple [.list (a.map PyData.int), .list (b.map PyData.int)]) (.tuple [.list (a.map PyData.int), .list (b.map PyData.int)]) = true := by
  simp [PyData.eqv, PyData.eqvAll, ked_eqvAll]
theorem shaped_two (a1 a2 a3 b1 b2 b3 : Int) : SeqAt.shaped (.tuple [.list ([a1, a2, a3].map PyData.int), .list ([b1, b2, b3].map PyData.int)]) = true := by
  simp [SeqAt.shaped, PyData.canLay0, PyData.canLayAll0, PyData.depth, PyData.depthAll]
theorem eq_two {prog : Program} {w : World} {A : Around} {E : Value → Shared → Prop} {s : Shared} {Q : Value → Shared → Prop} {t t' a b a' b' : Addr} {ys zs ys' zs' : Array Value} {k l k' l' : Nat} {n1 n2 n3 v1 v2 v3 : Int}
    (ht : s.heap.get? t = some (tupOf #[.ref a, .ref b])) (ha : s.heap.get? a = some (listOf ys k)) (hb : s.heap.get? b = some (listOf zs l)) (hi : IntsAre ys.toList [n1, n2, n3]) (hj : IntsAre zs.toList [v1, v2, v3])
    (ht' : s.heap.get? t' = some (tupOf #[.ref a', .ref b'])) (ha' : s.heap.get? a' = some (listOf ys' k')) (hb' : s.heap.get? b' = some (listOf zs' l')) (hi' : IntsAre ys'.toList [n1, n2, n3]) (hj' : IntsAre zs'.toList [v1, v2, v3])
    (hu : A.units + 64 < cLine) (h : Q (.bool true) s) : wpAny (model prog w) A (compareOp .Eq (.ref t) (.ref t')) Q E s := by
  have r1 : Reads s.heap (.ref t) _ _ := reads_tuple_at ht rfl rfl (.cons (reads_ints ha hi) (.cons (reads_ints hb hj) .nil))
  have r2 : Reads s.heap (.ref t') _ _ := reads_tuple_at ht' rfl rfl (.cons (reads_ints ha' hi') (.cons (reads_ints hb' hj') .nil))
  refine eq_dataH r1 r2 (shaped_two _ _ _ _ _ _) (shaped_two _ _ _ _ _ _) hu ?_
  rw [eqv_two]
  exact h

set_option maxRecDepth 100000 in
set_option maxHeartbeats 1000000 in
theorem law_body {prog : Program} {w : World} {A : Around} {E : Value → Shared → Prop} {s : Shared} {h₀ : Heap} {fa l : Addr} {cd : Value} {mg mb : Str → Option Value} {Q : Flow → Shared → Prop} {vs : List Value} {ns : List Int}
    (hroom : A.depth + 2 < recursionLimit) (hu : A.units + 64 < cLine) (hh : A.handled = none) (H : Home mg mb h₀)
    (F : Fr h₀ h₀.objs.size s.heap (fun x => if x = "script" then some (.ref l) else none)) (N : News h₀ h₀.objs.size s.heap [])
    (hl : h₀.IsList l vs.toArray) (hvs : IntsAre vs ns) (hlen : ns.length ≤ 100000) (K : LawOk ((numbersOf ns).map paintOf))
    (h : ∀ h' tk, (∀ b o, h₀.get? b = some o → h'.get? b = some o) → Q (.ret (.bool true)) { s with heap := h', toks := tk }) :
    wpAny (model prog w) A (execs (fnBody 11) (envOf (fnName 11) (fnScope 11) h₀.objs.size fa cd)) Q E s := by
  generalize hps : (numbersOf ns).map paintOf = ps at K
  conv =>
    arg 3
    arg 1
    whnf
  walk1
  walk1
  have H1 : Home mg mb s.heap := H.keeps F.keep
  refine Call_ (nameFn H1 7 (by decide) (by rfl) (fun f7 p7 c7 d7 X7 => ?_) rfl rfl rfl (by decide))
  refine callFn X7 ?_ rfl
  repeat ((fail_if_success (with_reducible show wpAny _ _ (call _ _) _ _ _)); walk1)
  · exact fun _ _ e => e
  have hl1 : s.heap.IsList l vs.toArray := hl.at fun o e => F.keep _ o e
  refine wpAny_call (call_drawn (by omega) hh X7 H1 hl1 hvs hlen fun D h2 tk2 us k2 hD ho2 hpaints hk2 => ?_)
  dsimp only
  rw [hps] at hpaints
  have F2 := frGrow F hk2
  obtain ⟨led, Nled, hled⟩ := paints_led F2 hpaints
  have N2 : News h₀ h₀.objs.size h2 ((D, listOf us k2) :: led) := fun p hp => by
    rcases List.mem_cons.mp hp with rfl | hp
    · exact newsCons F N hk2 hD ho2 _ (.head _)
    · exact Nled p hp
  clear F N Nled
  walk1
  rename Fr _ _ _ _ => F3
  rename News _ _ _ _ => N3
  walk1
  have H3 : Home mg mb _ := H.keeps F3.keep
  have P3 := hled _ _ F3 fun p hp => N3 p (.tail _ hp)
  have hul : us.toList.length = ps.length := Paired.length hpaints
  have hpl := K.len
  refine assignComp (cl := []) (by rfl) (by rfl) (by rfl) (by decide) (fun _ => rfl) ?_
  walk1
  refine wpAny_mono (srcList (vs := us.toList) hh (listAt (N3 _ (.head _)).1)) (fun it s₃ S => ?_) fun _ _ e => e
  refine blkA S (.inl rfl) (StrAt (ps.map textP)) _ (binds_paint hh P3 rfl rfl rfl rfl rfl (by decide) (by decide) (by decide) (by decide) (by decide) (by decide)) (by rw [sizeLine_eq]; omega) (by decide) rfl rfl rfl F3 N3 ?_ ?_
  · rintro C i s₄ m₄ E' hi ⟨p, c, t1, t2, t3, u1, u2, u3, hpi, ⟨m1, m2, m3, m4⟩, hc⟩ hns hk
    have H4 : Home mg mb s₄.heap := H3.keeps hk
    have hf := K.fine p (List.mem_of_getElem? hpi)
    refine Call_ (nameFn H4 8 (by decide) (by rfl) (fun f8 p8 c8 d8 X8 => ?_) rfl rfl rfl (by decide))
    refine callFn X8 ?_ rfl
    refine args_cons (wpAny_Name (wpAny_loadName_local rfl rfl hns m1 ?_) (by decide))
    refine args_cons (wpAny_Name (wpAny_loadName_local rfl rfl hns m2 ?_) (by decide))
    refine args_cons (wpAny_Name (wpAny_loadName_local rfl rfl hns m3 ?_) (by decide))
    refine args_cons (wpAny_Name (wpAny_loadName_local rfl rfl hns m4 ?_) (by decide))
    have hr := hf.hr; have hg := hf.hg; have hb := hf.hb; have hpt := hf.hp; have hw := hf.hw
    have hy := yiq_rounds hr hg hb
    have hname : p.name.length ≤ 10 := by obtain ⟨kk, _, _, e⟩ := hf.hn; rw [e]; exact nameAt_len kk
    have hsm : ∀ n ∈ [lumaP p, orangeP p, purpleP p, p.parts], n.natAbs < 2 ^ 30 := by
      intro n hn
      simp only [List.mem_cons, List.not_mem_nil, or_false, lumaP, orangeP, purpleP] at hn
      omega
    refine args_nil ⟨fun _ _ e => e, wpAny_call (call_item hroom hh X8 H4 (hk _ _ hc) hr hg hb hw hsm hname hy.1 hy.2.1 hy.2.2 fun t' h' tk' hk' => ?_)⟩
    exact ⟨⟨textP p, t', by rw [List.getElem?_map, hpi]; rfl, rfl⟩, ⟨h', tk', rfl, hk'⟩⟩
  intro D5 h5 tk5 ys5 k5 F5 N5 _ hys5 hG5
  have hstr : StrsAre ys5.toList (ps.map textP) := strsAre_of (by rw [hys5, hul]; simp) hG5
  have P5 := hled _ _ F5 fun p hp => N5 p (.tail _ (.tail _ hp))
  clear F3 N3 F2 N2
  dsimp only
  repeat ((fail_if_success (with_reducible show wpAny _ _ (eval (Expr.Call _ _ _ _) _) _ _ _)); walk1)
  have H5 : Home mg mb h5 := H.keeps F5.keep
  refine Call_ (nameFn H5 9 (by decide) (by rfl) (fun f9 p9 c9 d9 X9 => ?_) rfl rfl rfl (by decide))
  refine callFn X9 ?_ rfl
  repeat ((fail_if_success (with_reducible show wpAny _ _ (call _ _) _ _ _)); walk1)
  · exact fun _ _ e => e
  obtain ⟨items, qs, L, O, P, hit, hil, hqs, hS, hmix⟩ := K.mix
  have e := mix_ends hmix
  refine wpAny_call (call_mixed hroom hh X9 H5 (listAt (N5 _ (.head _)).1) hstr K.hW K.hlen hit hil hqs hS e.hT e.hf1 e.hf2 e.hf3 e.hf4 e.hf5 e.hi1 e.hi2 e.hm1 e.hm2 e.hm3 e.hv1 e.hv2 e.hv3 fun t6 a6 b6 h6 tk6 ys6 k6 zs6 l6 ht6 ha6 hb6 hi6 hj6 hk6 => ?_)
  dsimp only
  have F6 := frGrow F5 hk6
  have N6 := newsGrow N5 hk6
  have P6 := hled _ _ F6 fun p hp => N6 p (.tail _ (.tail _ hp))
  have H6 : Home mg mb h6 := H.keeps F6.keep
  clear F5 N5
  refine Call_ (nameFn H6 10 (by decide) (by rfl) (fun f10 p10 c10 d10 X10 => ?_) rfl rfl rfl (by decide))
  refine callFn X10 ?_ rfl
  repeat ((fail_if_success (with_reducible show wpAny _ _ (call _ _) _ _ _)); walk1)
  · exact fun _ _ e => e
  refine wpAny_call (call_pot hroom hh X10 H6 (listAt (N6 _ (.tail _ (.head _))).1) P6 (by omega) (fun p hp => by have := (K.fine p hp).hp; omega) fun t7 a7 b7 h7 tk7 ys7 k7 zs7 l7 ht7 ha7 hb7 hi7 hj7 hk7 => ?_)
  dsimp only
  refine eq_two (hk7 _ _ ht6) (hk7 _ _ ha6) (hk7 _ _ hb6) hi6 hj6 ht7 ha7 hb7 hi7 hj7 hu ?_
  exact h h7 tk7 fun b o e => hk7 _ _ (F6.keep b o e)
end Mine

namespace Mine

abbrev S (l : List Nat) : Str := ⟨l.toArray⟩
theorem S_of (x : Str) : S x.cps.toList = x := by cases x; rfl
theorem S_app (a b : List Nat) : S a ++ S b = S (a ++ b) := by
  apply Str.ext'; rw [Str.cps_append]; simp
theorem S_one (a : List Nat) (c : Nat) : S a ++ one c = S (a ++ [c]) := S_app a [c]
theorem S_cps (l : List Nat) : (S l).cps.toList = l := by simp
theorem S_len (l : List Nat) : (S l).length = l.length := by simp [Str.length]
theorem nil_S : Str.ofString "" = S [] := empty_is

theorem strip_core {x : Str} {pre core post : List Nat} (hx : x.cps.toList = pre ++ core ++ post) (h1 : ∀ c ∈ pre, Unicode.isSpace c = true) (h2 : ∀ c ∈ post, Unicode.isSpace c = true)
    (hh : ∀ c, core.head? = some c → Unicode.isSpace c = false) (hl : ∀ c, core.getLast? = some c → Unicode.isSpace c = false) (hne : core ≠ []) : Txt.strip x = S core := by
  have tw : ∀ (l r : List Nat), (∀ c ∈ l, Unicode.isSpace c = true) → (∀ c, r.head? = some c → Unicode.isSpace c = false) → (l ++ r).takeWhile Unicode.isSpace = l := by
    intro l r h hr
    rw [List.takeWhile_append_of_pos h]
    cases r with
    | nil => simp
    | cons a r => rw [List.takeWhile_cons_of_neg (by rw [hr a rfl]; exact Bool.false_ne_true)]; simp
  have e1 : stripLo Unicode.isSpace true x = pre.length := by
    unfold stripLo
    rw [if_pos rfl, hx, List.append_assoc, tw _ _ h1]
    intro c hc
    cases core with
    | nil => exact absurd rfl hne
    | cons a r => exact hh c (by simpa using hc)
  have hlen : x.length = pre.length + core.length + post.length := by
    have : x.length = x.cps.toList.length := by simp [Str.length]
    rw [this, hx]; simp; omega
  have e2 : stripHi Unicode.isSpace true x pre.length = pre.length + core.length := by
    unfold stripHi
    rw [if_pos rfl, hx, List.append_assoc, List.drop_left, List.reverse_append, tw _ _ (fun c hc => h2 c (List.mem_reverse.mp hc))]
    · rw [List.length_reverse]; omega
    · intro c hc
      exact hl c (by rw [List.getLast?_eq_head?_reverse]; exact hc)
  unfold Txt.strip
  rw [PyProof.Rows.stripBy_eq, e1, e2]
  apply Str.ext'
  apply Array.toList_inj.mp
  rw [StrLaws.strSub_toList, hx, List.append_assoc, List.drop_left]
  simp

theorem split_one {x : Str} {k r : List Nat} (hx : x.cps.toList = k ++ 61 :: r) (hk : 61 ∉ k) : Txt.splitMax x (Str.ofString "=") 1 = [S k, S r] := by
  have hy : Str.ofString "=" = ⟨#[61]⟩ := by decide +kernel
  have hlen : x.length = k.length + 1 + r.length := by
    have : x.length = x.cps.toList.length := by simp [Str.length]
    rw [this, hx]; simp; omega
  have hat : ∀ i, StrLaws.At x ⟨#[61]⟩ x.length i ↔ x.cps.toList[i]? = some 61 := fun i => StrLaws.subAt_one x 61 i
  have hocc : Builtin.Str.occurrences x ⟨#[61]⟩ 0 x.length 1 = [k.length] := by
    rcases StrLaws.occ_head x ⟨#[61]⟩ 1 (Nat.le_refl 1) with ⟨_, hn⟩ | ⟨i, l, h0, hi, hn⟩
    · exact absurd ((hat k.length).mpr (by rw [hx]; simp)) (hn k.length)
    · have hi' := (hat i).mp hi
      have hik : i = k.length := by
        rcases Nat.lt_trichotomy i k.length with h | h | h
        · exfalso
          rw [hx, List.getElem?_append_left h] at hi'
          exact hk (List.mem_of_getElem? hi')
        · exact h
        · exact absurd ((hat k.length).mpr (by rw [hx]; simp)) (hn _ h)
      have hlen := StrLaws.occ_length_le x ⟨#[61]⟩ 0 x.length 1
      rw [h0] at hlen ⊢
      simp only [List.length_cons] at hlen
      have : l = [] := List.eq_nil_of_length_eq_zero (by omega)
      rw [this, hik]
  unfold Txt.splitMax
  rw [hy]
  have hk1 : Builtin.Str.strKind (⟨#[61]⟩ : Str) = 1 := by decide +kernel
  have hk2 : 1 ≤ Builtin.Str.strKind x := by unfold Builtin.Str.strKind; split <;> (try split) <;> omega
  have hl1 : (⟨#[61]⟩ : Str).length = 1 := rfl
  have c1 : (decide (x.length < (⟨#[61]⟩ : Str).length) || decide (Builtin.Str.strKind x < Builtin.Str.strKind (⟨#[61]⟩ : Str))) = false := by
    rw [hk1, hl1]; simp; omega
  rw [c1, if_neg Bool.false_ne_true]
  have hlim : limitOf x 1 = 1 := rfl
  rw [hlim, hocc, hl1]
  simp only [List.isEmpty_cons, Bool.false_eq_true, if_false, Builtin.Str.partsBetween, List.map_cons, List.map_nil, List.cons_append, List.nil_append, List.zip_cons_cons, List.zip_nil_left, List.cons.injEq, and_true]
  constructor
  · apply Str.ext'
    apply Array.toList_inj.mp
    rw [StrLaws.strSub_toList, hx]
    simp
  · apply Str.ext'
    apply Array.toList_inj.mp
    rw [StrLaws.strSub_toList, hx, hlen]
    have : (k ++ 61 :: r).drop (k.length + 1) = r := by
      rw [List.drop_append]; simp
    rw [this]
    simp

/-! the parser's steps -/
theorem st_plain (res : List Str) (p : List Nat) {c : Nat} (h1 : c ≠ 44) (h2 : c ≠ 34) : httpStep ⟨res, S p, false, false⟩ c = ⟨res, S (p ++ [c]), false, false⟩ := by
  unfold httpStep one
  rw [one_beq c 44 "," (by decide +kernel), one_beq c 34 "\"" (by decide +kernel)]
  simp only [h1, h2, decide_false, Bool.false_eq_true, if_false]
  rw [show (⟨#[c]⟩ : Str) = one c from rfl, S_one]
theorem st_comma (res : List Str) (p : List Nat) : httpStep ⟨res, S p, false, false⟩ 44 = ⟨res ++ [S p], S [], false, false⟩ := by
  unfold httpStep one
  rw [one_beq 44 44 "," (by decide +kernel), nil_S]
  simp
theorem st_open (res : List Str) (p : List Nat) : httpStep ⟨res, S p, false, false⟩ 34 = ⟨res, S (p ++ [34]), false, true⟩ := by
  unfold httpStep one
  rw [one_beq 34 44 "," (by decide +kernel), one_beq 34 34 "\"" (by decide +kernel)]
  simp only [show ¬ (34 = 44) by decide, decide_false, decide_true, Bool.false_eq_true, if_false, if_true]
  rw [show (⟨#[34]⟩ : Str) = one 34 from rfl, S_one]
theorem st_in (res : List Str) (p : List Nat) {c : Nat} (h1 : c ≠ 92) (h2 : c ≠ 34) : httpStep ⟨res, S p, false, true⟩ c = ⟨res, S (p ++ [c]), false, true⟩ := by
  unfold httpStep one
  rw [one_beq c 92 "\\" (by decide +kernel), one_beq c 34 "\"" (by decide +kernel)]
  simp only [h1, h2, decide_false, Bool.false_eq_true, if_false, if_true]
  rw [show (⟨#[c]⟩ : Str) = one c from rfl, S_one]
theorem st_close (res : List Str) (p : List Nat) : httpStep ⟨res, S p, false, true⟩ 34 = ⟨res, S (p ++ [34]), false, false⟩ := by
  unfold httpStep one
  rw [one_beq 34 92 "\\" (by decide +kernel), one_beq 34 34 "\"" (by decide +kernel)]
  simp only [show ¬ (34 = 92) by decide, decide_false, decide_true, Bool.false_eq_true, if_false, if_true]
  rw [show (⟨#[34]⟩ : Str) = one 34 from rfl, S_one]
theorem st_esc (res : List Str) (p : List Nat) (c : Nat) : httpStep (httpStep ⟨res, S p, false, true⟩ 92) c = ⟨res, S (p ++ [c]), false, true⟩ := by
  have e : httpStep ⟨res, S p, false, true⟩ 92 = ⟨res, S p, true, true⟩ := by
    unfold httpStep one
    rw [one_beq 92 92 "\\" (by decide +kernel)]
    simp
  rw [e]
  unfold httpStep
  simp only [if_true]
  rw [S_one]

theorem run_plain (res : List Str) (cs : List Nat) (h : ∀ c ∈ cs, c ≠ 44 ∧ c ≠ 34) (p : List Nat) : cs.foldl httpStep ⟨res, S p, false, false⟩ = ⟨res, S (p ++ cs), false, false⟩ := by
  induction cs generalizing p with
  | nil => simp
  | cons c r ih =>
    have hc := h c (.head _)
    rw [List.foldl_cons, st_plain res p hc.1 hc.2, ih (fun d hd => h d (.tail _ hd))]
    simp
theorem run_in (res : List Str) (cs : List Nat) (h : ∀ c ∈ cs, c ≠ 92 ∧ c ≠ 34) (p : List Nat) : cs.foldl httpStep ⟨res, S p, false, true⟩ = ⟨res, S (p ++ cs), false, true⟩ := by
  induction cs generalizing p with
  | nil => simp
  | cons c r ih =>
    have hc := h c (.head _)
    rw [List.foldl_cons, st_in res p hc.1 hc.2, ih (fun d hd => h d (.tail _ hd))]
    simp
theorem run_esc (res : List Str) (cs : List Nat) (p : List Nat) : (cs.flatMap fun c => [92, c]).foldl httpStep ⟨res, S p, false, true⟩ = ⟨res, S (p ++ cs), false, true⟩ := by
  induction cs generalizing p with
  | nil => simp
  | cons c r ih =>
    rw [List.flatMap_cons]
    show (r.flatMap fun c => [92, c]).foldl httpStep (httpStep (httpStep ⟨res, S p, false, true⟩ 92) c) = _
    rw [st_esc, ih]
    simp

/-- an item's signs, and what is read of it -/
def rawOf (name enc : List Nat) : List Nat := name ++ (61 :: 34 :: (enc ++ [34]))
theorem run_item (res : List Str) {name enc plain p : List Nat} (hn : ∀ c ∈ name, c ≠ 44 ∧ c ≠ 34)
    (he : (∀ c ∈ plain, c ≠ 92 ∧ c ≠ 34) ∧ enc = plain ∨ enc = plain.flatMap fun c => [92, c]) : (rawOf name enc).foldl httpStep ⟨res, S p, false, false⟩ = ⟨res, S (p ++ rawOf name plain), false, false⟩ := by
  unfold rawOf
  rw [List.foldl_append, run_plain res name hn, List.foldl_cons, st_plain res _ (by decide) (by decide), List.foldl_cons, st_open, List.foldl_append]
  have : enc.foldl httpStep ⟨res, S (p ++ name ++ [61] ++ [34]), false, true⟩ = ⟨res, S (p ++ name ++ [61] ++ [34] ++ plain), false, true⟩ := by
    rcases he with ⟨h1, rfl⟩ | rfl
    · exact run_in res _ h1 _
    · exact run_esc res _ _
  rw [this, List.foldl_cons, st_close]
  simp
end Mine

namespace Mine

theorem join_eq (sep : Str) (l : List Str) : Txt.join sep l = Str.join sep l := eq_of_beq (join_plain_closes sep l)
theorem join_cps1 (sep x : Str) : (Txt.join sep [x]).cps.toList = x.cps.toList := by rw [join_eq, join_one]
theorem join_cps2 (sep x y : Str) (r : List Str) : (Txt.join sep (x :: y :: r)).cps.toList = x.cps.toList ++ (sep.cps.toList ++ (Txt.join sep (y :: r)).cps.toList) := by
  rw [join_eq, join_cons_cons, Str.cps_append, Str.cps_append, Array.toList_append, Array.toList_append, List.append_assoc, join_eq]

/-- a text, as the header's parser reads it inside the header -/
structure ReadAs (x y : Str) : Prop where
  run : ∀ (res : List Str) (p : List Nat), x.cps.toList.foldl httpStep ⟨res, S p, false, false⟩ = ⟨res, S (p ++ y.cps.toList), false, false⟩
  hh : ∀ c, y.cps.toList.head? = some c → Unicode.isSpace c = false
  hl : ∀ c, y.cps.toList.getLast? = some c → Unicode.isSpace c = false
  ne : y.cps.toList ≠ []
theorem sp9 : Unicode.isSpace 9 = true := by decide +kernel
theorem sp32 : Unicode.isSpace 32 = true := by decide +kernel
theorem sep_cps : (Str.ofString " ,\t").cps.toList = [32, 44, 9] := by decide +kernel

theorem ReadAs.strip {x y : Str} (h : ReadAs x y) {pre post : List Nat} (h1 : ∀ c ∈ pre, Unicode.isSpace c = true) (h2 : ∀ c ∈ post, Unicode.isSpace c = true) : Txt.strip (S (pre ++ y.cps.toList ++ post)) = y := by
  rw [strip_core (S_cps _) h1 h2 h.hh h.hl h.ne, S_of]

theorem run_join {xs ys : List Str} (h : Paired ReadAs xs ys) (hne : xs ≠ []) (res : List Str) (pre : List Nat) (hp : ∀ c ∈ pre, Unicode.isSpace c = true) :
    ∃ res' part, (Txt.join (Str.ofString " ,\t") xs).cps.toList.foldl httpStep ⟨res, S pre, false, false⟩ = ⟨res ++ res', S part, false, false⟩ ∧ part ≠ [] ∧ (res' ++ [S part]).map Txt.strip = ys := by
  induction h generalizing res pre with
  | nil => exact absurd rfl hne
  | @cons x y xs ys g r ih =>
    cases r with
    | nil =>
      refine ⟨[], pre ++ y.cps.toList, ?_, ?_, ?_⟩
      · rw [join_cps1, g.run]; simp
      · intro e; exact g.ne (List.append_eq_nil_iff.mp e).2
      · have := g.strip hp (post := []) (by simp)
        simp only [List.append_nil] at this
        simp [this]
    | @cons x2 y2 xs2 ys2 g2 r2 =>
      rw [join_cps2, List.foldl_append, g.run, sep_cps]
      have e : ([32, 44, 9] ++ (Txt.join (Str.ofString " ,\t") (x2 :: xs2)).cps.toList).foldl httpStep ⟨res, S (pre ++ y.cps.toList), false, false⟩ =
          (Txt.join (Str.ofString " ,\t") (x2 :: xs2)).cps.toList.foldl httpStep ⟨res ++ [S (pre ++ y.cps.toList ++ [32])], S [9], false, false⟩ := by
        rw [List.foldl_append]
        congr 1
        rw [List.foldl_cons, List.foldl_cons, List.foldl_cons, List.foldl_nil, st_plain _ _ (by decide) (by decide), st_comma, st_plain _ _ (by decide) (by decide)]
        rfl
      rw [e]
      obtain ⟨res', part, e1, e2, e3⟩ := ih (by simp) (res ++ [S (pre ++ y.cps.toList ++ [32])]) [9] (by intro c hc; rw [List.mem_singleton.mp hc]; exact sp9)
      refine ⟨S (pre ++ y.cps.toList ++ [32]) :: res', part, by rw [e1]; simp, e2, ?_⟩
      have := g.strip hp (post := [32]) (by intro c hc; rw [List.mem_singleton.mp hc]; exact sp32)
      rw [List.cons_append, List.map_cons, this, e3]

theorem parse_join {xs ys : List Str} (h : Paired ReadAs xs ys) (hne : xs ≠ []) : httpParse (Txt.join (Str.ofString " ,\t") xs) = ys := by
  obtain ⟨res', part, e1, e2, e3⟩ := run_join h hne [] [] (by simp)
  unfold httpParse httpAll httpRun
  have hi : httpInit = ⟨[], S [], false, false⟩ := by unfold httpInit; rw [nil_S]
  rw [hi, e1]
  simp only [List.nil_append, S_len]
  rw [if_neg (by intro e; exact e2 (List.eq_nil_of_length_eq_zero e))]
  exact e3

/-! the text within -/
theorem all4 {e1 e2 e3 e4 : List Nat} (h1 : ∀ c ∈ e1, c ≠ 44 ∧ c ≠ 34) (h2 : ∀ c ∈ e2, c ≠ 44 ∧ c ≠ 34) (h3 : ∀ c ∈ e3, c ≠ 44 ∧ c ≠ 34) (h4 : ∀ c ∈ e4, c ≠ 44 ∧ c ≠ 34) (hne : e4 ≠ []) :
    httpAll (S (e1 ++ 44 :: (e2 ++ 44 :: (e3 ++ 44 :: e4)))) = [S e1, S e2, S e3, S e4] ∧ httpAll (S (e1 ++ 44 :: (e2 ++ 44 :: (e3 ++ 44 :: (e4 ++ [44]))))) = [S e1, S e2, S e3, S e4] := by
  have hi : httpInit = ⟨[], S [], false, false⟩ := by unfold httpInit; rw [nil_S]
  constructor
  · unfold httpAll httpRun
    rw [S_cps, hi, List.foldl_append, run_plain _ _ h1, List.foldl_cons, st_comma, List.foldl_append, run_plain _ _ h2, List.foldl_cons, st_comma, List.foldl_append, run_plain _ _ h3, List.foldl_cons, st_comma, run_plain _ _ h4]
    simp only [List.nil_append, S_len]
    rw [if_neg (by intro e; exact hne (List.eq_nil_of_length_eq_zero e))]
    simp
  · unfold httpAll httpRun
    rw [S_cps, hi, List.foldl_append, run_plain _ _ h1, List.foldl_cons, st_comma, List.foldl_append, run_plain _ _ h2, List.foldl_cons, st_comma, List.foldl_append, run_plain _ _ h3, List.foldl_cons, st_comma, List.foldl_append, run_plain _ _ h4, List.foldl_cons, st_comma]
    simp [S_len]

/-! numbers -/
structure Digs (d : List Nat) : Prop where
  ch : ∀ c ∈ d, c = 45 ∨ (48 ≤ c ∧ c ≤ 57)
  ne : d ≠ []
theorem notSpace {c : Nat} (h : c = 45 ∨ (48 ≤ c ∧ c ≤ 57)) : Unicode.isSpace c = false := by
  have : c = 45 ∨ c = 48 ∨ c = 49 ∨ c = 50 ∨ c = 51 ∨ c = 52 ∨ c = 53 ∨ c = 54 ∨ c = 55 ∨ c = 56 ∨ c = 57 := by omega
  rcases this with rfl | rfl | rfl | rfl | rfl | rfl | rfl | rfl | rfl | rfl | rfl
  all_goals decide +kernel
theorem Digs.strip {d : List Nat} (h : Digs d) {pre post : List Nat} (h1 : ∀ c ∈ pre, Unicode.isSpace c = true) (h2 : ∀ c ∈ post, Unicode.isSpace c = true) : Txt.strip (S (pre ++ d ++ post)) = S d :=
  strip_core (S_cps _) h1 h2 (fun c hc => notSpace (h.ch c (List.mem_of_head? hc))) (fun c hc => notSpace (h.ch c (List.mem_of_getLast? hc))) h.ne
theorem Digs.strip0 {d : List Nat} (h : Digs d) : Txt.strip (S d) = S d := by
  have := h.strip (pre := []) (post := []) (by simp) (by simp)
  simpa using this
theorem Digs.fine {d : List Nat} (h : Digs d) : ∀ c ∈ d, c ≠ 44 ∧ c ≠ 34 := fun c hc => by have := h.ch c hc; omega
theorem digs_num (m : Nat) : ∀ c ∈ (Nat.toDigits 10 m).map Char.toNat, 48 ≤ c ∧ c ≤ 57 := by
  intro c hc
  obtain ⟨ch, hch, e⟩ := List.mem_map.mp hc
  have r := digit_range (Nat.isDigit_of_mem_toDigits (by decide) (by decide) hch)
  rw [← e]
  exact r
theorem toDigits_ne (m : Nat) : (Nat.toDigits 10 m).map Char.toNat ≠ [] := by
  intro e
  have h := toDigits_len_ge 10 m
  rw [List.map_eq_nil_iff.mp e] at h
  exact absurd h (by decide)
theorem num_cps (n : Int) : (numStr n).cps.toList = if 0 ≤ n then (Nat.toDigits 10 n.natAbs).map Char.toNat else 45 :: (Nat.toDigits 10 n.natAbs).map Char.toNat := by
  unfold numStr
  split
  · rename_i h
    obtain ⟨m, rfl⟩ := Int.eq_ofNat_of_zero_le h
    exact KIN.signs_num m
  · rename_i h
    obtain ⟨m, rfl⟩ : ∃ m, n = Int.negSucc m := by cases n with
      | ofNat m => exact absurd (Int.natCast_nonneg m) h
      | negSucc m => exact ⟨m, rfl⟩
    rw [signs_ofString]
    show (("-" ++ Nat.repr (m + 1)).toList).map Char.toNat = _
    rw [String.toList_append, List.map_append, Nat.toList_repr]
    rfl
theorem num_digs (n : Int) : Digs (numStr n).cps.toList := by
  rw [num_cps]
  split
  · exact ⟨fun c hc => .inr (digs_num _ c hc), toDigits_ne _⟩
  · refine ⟨fun c hc => ?_, by simp⟩
    rcases List.mem_cons.mp hc with e | hc
    · exact .inl e
    · exact .inr (digs_num _ c hc)
theorem num_read {n : Int} (h : n.natAbs < 2 ^ 30) : PySem.intText? (numStr n) = some n := by
  by_cases h0 : 0 ≤ n
  · exact KIN.num_reads h0 (by omega)
  · have e := num_cps n
    rw [if_neg h0] at e
    have hl := numStr_len h
    have := intText_neg e (digs_num _) (toDigits_ne _) (by omega)
    rw [this, KIN.val_back]
    congr 1
    omega
end Mine

namespace Mine

def digsOf (n : Int) : List Nat := (numStr n).cps.toList
def comma4 (a b c d : List Nat) : List Nat := a ++ 44 :: (b ++ 44 :: (c ++ 44 :: d))
def plainP (p : Paint) : List Nat :=
  if p.way = 2 then comma4 (32 :: (digsOf (lumaP p) ++ [9])) (32 :: (digsOf (orangeP p) ++ [9])) (32 :: (digsOf (purpleP p) ++ [9])) (32 :: (digsOf p.parts ++ [32]))
  else if p.way = 3 then digsOf (lumaP p) ++ 44 :: (digsOf (orangeP p) ++ 44 :: (digsOf (purpleP p) ++ 44 :: (digsOf p.parts ++ [44])))
  else comma4 (digsOf (lumaP p)) (digsOf (orangeP p)) (digsOf (purpleP p)) (digsOf p.parts)
def encP (p : Paint) : List Nat := if p.way = 1 then (plainP p).flatMap fun c => [92, c] else plainP p
def nameP (p : Paint) : List Nat := p.name.cps.toList
def readP (p : Paint) : Str := S (rawOf (nameP p) (plainP p))
def quadP (p : Paint) : Quad := (lumaP p, orangeP p, purpleP p, p.parts)

theorem cps_app (a b : Str) : (a ++ b).cps.toList = a.cps.toList ++ b.cps.toList := by rw [Str.cps_append, Array.toList_append]
theorem body_cps (sep : Str) (a b c d : Int) : (bodyText sep [a, b, c, d]).cps.toList = digsOf a ++ (sep.cps.toList ++ (digsOf b ++ (sep.cps.toList ++ (digsOf c ++ (sep.cps.toList ++ digsOf d))))) := by
  unfold bodyText digsOf
  simp only [List.map_cons, List.map_nil]
  rw [join4]
  simp only [cps_app, List.append_assoc]
theorem comma_cps : (Str.ofString ",").cps.toList = [44] := by decide +kernel
theorem tab_cps : (Str.ofString "\t, ").cps.toList = [9, 44, 32] := by decide +kernel
theorem sp_cps : (Str.ofString " ").cps.toList = [32] := by decide +kernel
theorem bs_cps : (Str.ofString "\\").cps.toList = [92] := by decide +kernel
theorem eq_cps : (Str.ofString "=\"").cps.toList = [61, 34] := by decide +kernel
theorem qu_cps : (Str.ofString "\"").cps.toList = [34] := by decide +kernel
theorem esc_cps (x : Str) : (Txt.join (Str.ofString "") (escaped x)).cps.toList = x.cps.toList.flatMap fun c => [92, c] := by
  rw [joinNil_cps]
  unfold escaped
  rw [List.flatMap_map]
  congr 1
theorem way_cps (p : Paint) : (wayText [lumaP p, orangeP p, purpleP p, p.parts] p.way).cps.toList = encP p := by
  unfold wayText encP plainP
  by_cases h1 : p.way = 1
  · simp only [h1, if_true, show ¬ ((1 : Int) = 2) by decide, show ¬ ((1 : Int) = 3) by decide, if_false]
    rw [esc_cps, body_cps, comma_cps]
    rfl
  · simp only [h1, if_false]
    by_cases h2 : p.way = 2
    · simp only [h2, if_true]
      rw [cps_app, cps_app, body_cps, tab_cps, sp_cps]
      simp [comma4]
    · simp only [h2, if_false]
      by_cases h3 : p.way = 3
      · simp only [h3, if_true]
        rw [cps_app, body_cps, comma_cps]
        simp
      · simp only [h3, if_false]
        rw [body_cps, comma_cps]
        rfl
theorem text_cps (p : Paint) : (textP p).cps.toList = rawOf (nameP p) (encP p) := by
  unfold textP itemText rawOf nameP
  rw [cps_app, cps_app, cps_app, way_cps, eq_cps, qu_cps]
  simp

structure NameOk (l : List Nat) : Prop where
  ch : ∀ c ∈ l, c ≠ 44 ∧ c ≠ 34 ∧ c ≠ 61
  hh : ∀ c, l.head? = some c → Unicode.isSpace c = false
theorem name_ok {p : Paint} (h : Fine p) : NameOk (nameP p) := by
  obtain ⟨k, h0, h5, e⟩ := h.hn
  unfold nameP
  rw [e]
  have : k = 0 ∨ k = 1 ∨ k = 2 ∨ k = 3 ∨ k = 4 := by omega
  have n0 : (nameAt 0).cps.toList = [114, 101, 100] := by decide +kernel
  have n1 : (nameAt 1).cps.toList = [82, 101, 100] := by decide +kernel
  have n2 : (nameAt 2).cps.toList = [] := by decide +kernel
  have n3 : (nameAt 3).cps.toList = [97, 32, 98] := by decide +kernel
  have n4 : (nameAt 4).cps.toList = [105, 116, 39, 115] := by decide +kernel
  have hd : ∀ (a : Nat) (r : List Nat), Unicode.isSpace a = false → ∀ c, (a :: r).head? = some c → Unicode.isSpace c = false := by
    intro a r ha c hc
    have : a = c := by simpa using hc
    exact this ▸ ha
  rcases this with rfl | rfl | rfl | rfl | rfl
  · rw [n0]; exact ⟨by decide, hd _ _ (by decide +kernel)⟩
  · rw [n1]; exact ⟨by decide, hd _ _ (by decide +kernel)⟩
  · rw [n2]; exact ⟨by decide, by simp⟩
  · rw [n3]; exact ⟨by decide, hd _ _ (by decide +kernel)⟩
  · rw [n4]; exact ⟨by decide, hd _ _ (by decide +kernel)⟩

theorem plain_ch (p : Paint) : ∀ c ∈ plainP p, c ≠ 92 ∧ c ≠ 34 := by
  have k : ∀ (n : Int), ∀ c ∈ digsOf n, c ≠ 92 ∧ c ≠ 34 := fun n c hc => by have := (num_digs n).ch c hc; omega
  intro c hc
  unfold plainP comma4 at hc
  split at hc
  · simp only [List.mem_append, List.mem_cons, List.not_mem_nil, or_false] at hc
    rcases hc with (h | h | h) | h | (h | h | h) | h | (h | h | h) | h | (h | h | h)
    all_goals first | exact k _ _ h | omega
  · split at hc
    · simp only [List.mem_append, List.mem_cons, List.not_mem_nil, or_false] at hc
      rcases hc with h | h | h | h | h | h | h | h
      all_goals first | exact k _ _ h | omega
    · simp only [List.mem_append, List.mem_cons] at hc
      rcases hc with h | h | h | h | h | h | h
      all_goals first | exact k _ _ h | omega

theorem read_as {p : Paint} (h : Fine p) : ReadAs (textP p) (readP p) := by
  have hn := name_ok h
  refine ⟨fun res q => ?_, fun c hc => ?_, fun c hc => ?_, ?_⟩
  · rw [text_cps]
    unfold readP
    rw [S_cps]
    refine run_item res (fun c hc => ⟨(hn.ch c hc).1, (hn.ch c hc).2.1⟩) ?_
    unfold encP
    split
    · exact .inr rfl
    · exact .inl ⟨plain_ch p, rfl⟩
  · unfold readP at hc
    rw [S_cps] at hc
    unfold rawOf at hc
    cases hm : nameP p with
    | nil => rw [hm] at hc; have : c = 61 := by simpa using hc.symm
             subst this; decide +kernel
    | cons a r => exact hn.hh c (by rw [hm] at hc ⊢; simpa using hc)
  · unfold readP at hc
    rw [S_cps] at hc
    unfold rawOf at hc
    have : c = 34 := by
      have e : nameP p ++ 61 :: 34 :: (plainP p ++ [34]) = (nameP p ++ 61 :: 34 :: plainP p) ++ [34] := by simp
      rw [e, List.getLast?_concat] at hc
      simpa using hc.symm
    subst this; decide +kernel
  · unfold readP rawOf; rw [S_cps]; simp

/-! sizes -/
theorem digs_len {n : Int} (h : n.natAbs < 2 ^ 30) : (digsOf n).length ≤ 11 := by
  have := numStr_len h
  unfold digsOf
  have e : (numStr n).cps.toList.length = (numStr n).length := by simp [Str.length]
  omega
theorem small {p : Paint} (h : Fine p) : (lumaP p).natAbs < 2 ^ 30 ∧ (orangeP p).natAbs < 2 ^ 30 ∧ (purpleP p).natAbs < 2 ^ 30 ∧ p.parts.natAbs < 2 ^ 30 := by
  have := h.hr; have := h.hg; have := h.hb; have := h.hp
  unfold lumaP orangeP purpleP
  omega
theorem plain_len {p : Paint} (h : Fine p) : (plainP p).length ≤ 60 := by
  obtain ⟨a, b, c, d⟩ := small h
  have := digs_len a; have := digs_len b; have := digs_len c; have := digs_len d
  unfold plainP comma4
  split
  · simp only [List.length_append, List.length_cons, List.length_nil]; omega
  · split
    · simp only [List.length_append, List.length_cons, List.length_nil]; omega
    · simp only [List.length_append, List.length_cons]; omega
theorem name_len {p : Paint} (h : Fine p) : (nameP p).length ≤ 10 := by
  obtain ⟨k, _, _, e⟩ := h.hn
  have := nameAt_len k
  unfold nameP
  rw [e]
  have e : (nameAt k).cps.toList.length = (nameAt k).length := by simp [Str.length]
  omega
theorem text_len {p : Paint} (h : Fine p) : (textP p).length ≤ 140 := by
  have e : (textP p).length = (textP p).cps.toList.length := by simp [Str.length]
  have h1 := plain_len h
  have h2 := name_len h
  have h3 : (encP p).length ≤ 120 := by
    unfold encP
    split
    · rw [List.length_flatMap]
      have : ∀ l : List Nat, (l.map fun c => ([92, c] : List Nat).length).sum = 2 * l.length := by
        intro l
        induction l with
        | nil => rfl
        | cons a r ih => rw [List.map_cons, List.sum_cons, ih]; simp only [List.length_cons, List.length_nil]; omega
      rw [this]; omega
    · omega
  rw [e, text_cps]
  unfold rawOf
  simp only [List.length_append, List.length_cons, List.length_nil]
  omega

theorem keqv_is {p : Paint} (h : Fine p) : KeqvIs (readP p) p.name (S (plainP p)) := by
  have hn := name_ok h
  constructor
  · have := split_one (x := readP p) (k := nameP p) (r := 34 :: (plainP p ++ [34])) (by unfold readP rawOf; rw [S_cps]) (fun hc => (hn.ch _ hc).2.2 rfl)
    rw [this]
    have e1 : S (nameP p) = p.name := S_of _
    have e2 : S (34 :: (plainP p ++ [34])) = quoted (S (plainP p)) := by
      apply Str.ext'
      apply Array.toList_inj.mp
      rw [quoted_cps, S_cps, S_cps]
    rw [e1, e2]
  · have h1 := plain_len h
    have h2 := name_len h
    unfold readP rawOf
    rw [S_len]
    simp only [List.length_append, List.length_cons, List.length_nil]
    omega

theorem S_digs (n : Int) : S (digsOf n) = numStr n := S_of _
theorem quad_is {p : Paint} (h : Fine p) : QuadIs (S (plainP p)) (quadP p) := by
  obtain ⟨sa, sb, sc, sd⟩ := small h
  have da : Digs (digsOf (lumaP p)) := num_digs _; have db : Digs (digsOf (orangeP p)) := num_digs _; have dc : Digs (digsOf (purpleP p)) := num_digs _; have dd : Digs (digsOf p.parts) := num_digs _
  have hparts := h.hp
  refine ⟨by rw [S_len]; have := plain_len h; omega, ⟨numStr (lumaP p), numStr (orangeP p), numStr (purpleP p), numStr p.parts, ?_, ⟨Nat.le_trans (numStr_len sa) (by decide), num_read sa⟩, ⟨Nat.le_trans (numStr_len sb) (by decide), num_read sb⟩, ⟨Nat.le_trans (numStr_len sc) (by decide), num_read sc⟩, ⟨Nat.le_trans (numStr_len sd) (by decide), num_read sd⟩⟩, ?_, ?_⟩
  · unfold httpParse plainP comma4
    split
    · have ch : ∀ {d : List Nat} (z : Nat), z ≠ 44 ∧ z ≠ 34 → Digs d → ∀ c ∈ 32 :: (d ++ [z]), c ≠ 44 ∧ c ≠ 34 := by
        intro d z hz hd c hc
        simp only [List.mem_append, List.mem_cons, List.not_mem_nil, or_false] at hc
        rcases hc with rfl | hc | rfl
        · omega
        · exact hd.fine c hc
        · exact hz
      rw [(all4 (ch 9 (by decide) da) (ch 9 (by decide) db) (ch 9 (by decide) dc) (ch 32 (by decide) dd) (by simp)).1]
      have st : ∀ {d : List Nat} (z : Nat), Unicode.isSpace z = true → Digs d → Txt.strip (S (32 :: (d ++ [z]))) = S d := by
        intro d z hz hd
        have := hd.strip (pre := [32]) (post := [z]) (by intro c hc; rw [List.mem_singleton.mp hc]; exact sp32) (by intro c hc; rw [List.mem_singleton.mp hc]; exact hz)
        simpa using this
      simp only [List.map_cons, List.map_nil]
      rw [st 9 sp9 da, st 9 sp9 db, st 9 sp9 dc, st 32 sp32 dd]
      rfl
    · split
      · rw [(all4 da.fine db.fine dc.fine dd.fine dd.ne).2]
        simp only [List.map_cons, List.map_nil]
        rw [da.strip0, db.strip0, dc.strip0, dd.strip0]
        rfl
      · rw [(all4 da.fine db.fine dc.fine dd.fine dd.ne).1]
        simp only [List.map_cons, List.map_nil]
        rw [da.strip0, db.strip0, dc.strip0, dd.strip0]
        rfl
  · show 0 ≤ p.parts; omega
  · show p.parts ≤ 9; omega
end Mine

namespace Mine

/-! the dict of paints -/
def latest (ps : List Paint) : List (Str × Paint) := ps.foldl (fun l p => gput l (p.name, p)) []
def sumOf (f : Paint → Int) (l : List (Str × Paint)) : Int := (l.map fun q => f q.2).sum
def mapV {β γ : Type} (f : β → γ) (l : List (Str × β)) : List (Str × γ) := l.map fun q => (q.1, f q.2)
theorem gput_map {β γ : Type} (f : β → γ) (l : List (Str × β)) (k : Str) (v : β) : gput (mapV f l) (k, f v) = mapV f (gput l (k, v)) := by
  unfold gput mapV
  have e : (l.map fun q => (q.1, f q.2)).any (fun q => decide (q.1 = k)) = l.any (fun q => decide (q.1 = k)) := by
    rw [List.any_map]; rfl
  simp only [e]
  split
  · rw [List.map_map, List.map_map]
    congr 1
    funext q
    simp only [Function.comp]
    split <;> rfl
  · simp
theorem gget_map {β γ : Type} (f : β → γ) (l : List (Str × β)) (k : Str) : gget (mapV f l) k = (gget l k).map f := by
  unfold gget mapV
  induction l with
  | nil => rfl
  | cons q r ih =>
    simp only [List.map_cons, List.find?_cons]
    by_cases h : q.1 = k
    · simp [h]
    · simp only [h, decide_false]
      exact ih
theorem dput_eq (l : List (Str × Str)) (p : Str × Str) : dput l p = gput l p := rfl

structure Keys (l : List (Str × Paint)) : Prop where
  nodup : (l.map (·.1)).Nodup
theorem any_iff (l : List (Str × Paint)) (k : Str) : (l.any fun q => decide (q.1 = k)) = true ↔ k ∈ l.map (·.1) := by
  simp only [List.any_eq_true, decide_eq_true_eq, List.mem_map]
theorem keys_put (l : List (Str × Paint)) (p : Str × Paint) : (gput l p).map (·.1) = if p.1 ∈ l.map (·.1) then l.map (·.1) else l.map (·.1) ++ [p.1] := by
  unfold gput
  by_cases h : (l.any fun q => decide (q.1 = p.1)) = true
  · rw [if_pos h, if_pos ((any_iff l p.1).mp h), List.map_map]
    apply List.map_congr_left
    intro q _
    simp only [Function.comp]
    split
    · rename_i e; exact e.symm
    · rfl
  · rw [if_neg h, if_neg (fun m => h ((any_iff l p.1).mpr m)), List.map_append]
    rfl
theorem Keys.put {l : List (Str × Paint)} (h : Keys l) (p : Str × Paint) : Keys (gput l p) := by
  constructor
  rw [keys_put]
  split
  · exact h.nodup
  · rename_i hm
    rw [List.nodup_append]
    refine ⟨h.nodup, by simp, ?_⟩
    intro a ha b hb
    rw [List.mem_singleton.mp hb]
    intro e
    exact hm (e ▸ ha)
theorem sum_same (f : Paint → Int) (l : List (Str × Paint)) (p : Str × Paint) (h : p.1 ∉ l.map (·.1)) : ((l.map fun q => if q.1 = p.1 then p else q).map fun q => f q.2).sum = (l.map fun q => f q.2).sum := by
  congr 1
  rw [List.map_map]
  apply List.map_congr_left
  intro q hq
  simp only [Function.comp]
  rw [if_neg]
  intro e
  exact h (e ▸ List.mem_map_of_mem hq)
theorem sum_put (f : Paint → Int) {l : List (Str × Paint)} (h : Keys l) (p : Str × Paint) : sumOf f (gput l p) = sumOf f l + f p.2 - (match gget l p.1 with | some q => f q | none => 0) := by
  unfold sumOf gput
  by_cases ha : (l.any fun q => decide (q.1 = p.1)) = true
  · rw [if_pos ha]
    have hn := h.nodup
    clear h
    unfold gget
    induction l with
    | nil => simp at ha
    | cons q r ih =>
      simp only [List.map_cons, List.sum_cons, List.find?_cons]
      simp only [List.map_cons, List.nodup_cons] at hn
      by_cases e : q.1 = p.1
      · simp only [e, decide_true, if_true, Option.map_some]
        rw [sum_same f r p (e ▸ hn.1)]
        omega
      · have ha' : (r.any fun q => decide (q.1 = p.1)) = true := by simpa [e] using ha
        have := ih ha' hn.2
        simp only [e, decide_false, if_false]
        omega
  · rw [if_neg ha]
    have hg : gget l p.1 = none := by
      unfold gget
      rw [Option.map_eq_none_iff, List.find?_eq_none]
      intro q hq e
      exact ha (List.any_eq_true.mpr ⟨q, hq, e⟩)
    rw [hg]
    simp only [List.map_append, List.sum_append, List.map_cons, List.map_nil, List.sum_cons, List.sum_nil]
    omega

def colP (p : Paint) : PPair := ((p.r, p.g, p.b), p.parts)
structure Inv (l : List (Str × Paint)) (st : Pot) : Prop where
  keys : Keys l
  paints : st.paints = mapV colP l
  p1 : st.p1 = sumOf (fun p => p.parts * p.r) l
  p2 : st.p2 = sumOf (fun p => p.parts * p.g) l
  p3 : st.p3 = sumOf (fun p => p.parts * p.b) l
  total : st.total = sumOf (fun p => p.parts) l
theorem Inv.step {l : List (Str × Paint)} {st : Pot} (h : Inv l st) (p : Paint) : Inv (gput l (p.name, p)) (potStep st p) := by
  have he : elderOf st p = ((gget l p.name).map colP).getD ((0, 0, 0), 0) := by
    unfold elderOf
    rw [h.paints, gget_map]
  have s1 := sum_put (fun p => p.parts * p.r) h.keys (p.name, p)
  have s2 := sum_put (fun p => p.parts * p.g) h.keys (p.name, p)
  have s3 := sum_put (fun p => p.parts * p.b) h.keys (p.name, p)
  have s4 := sum_put (fun p => p.parts) h.keys (p.name, p)
  dsimp only at s1 s2 s3 s4
  have a1 := h.p1; have a2 := h.p2; have a3 := h.p3; have a4 := h.total
  refine ⟨h.keys.put _, ?_, ?_, ?_, ?_, ?_⟩
  · show gput st.paints (p.name, colP p) = _
    rw [h.paints]; exact gput_map colP l p.name p
  all_goals
    unfold potStep
    rw [he]
    cases hg : gget l p.name with
    | none => rw [hg] at s1 s2 s3 s4; simp only [Option.map_none, Option.getD_none] at *; omega
    | some q => rw [hg] at s1 s2 s3 s4; simp only [Option.map_some, Option.getD_some, colP] at *; omega
theorem inv_all (ps : List Paint) : Inv (latest ps) (potOf ps) := by
  unfold latest potOf
  suffices h : ∀ (ps : List Paint) (l : List (Str × Paint)) (st : Pot), Inv l st → Inv (ps.foldl (fun l p => gput l (p.name, p)) l) (ps.foldl potStep st) from
    h ps [] ⟨[], 0, 0, 0, 0⟩ ⟨⟨by simp⟩, rfl, rfl, rfl, rfl, rfl⟩
  intro ps
  induction ps with
  | nil => intro l st h; exact h
  | cons p ps ih => intro l st h; exact ih _ _ (h.step p)

theorem items_fold (ps : List Paint) : (ps.map fun p => (p.name, S (plainP p))).foldl dput [] = mapV (fun p => S (plainP p)) (latest ps) := by
  unfold latest
  suffices h : ∀ (ps : List Paint) (l : List (Str × Paint)), (ps.map fun p => (p.name, S (plainP p))).foldl dput (mapV (fun p => S (plainP p)) l) = mapV (fun p => S (plainP p)) (ps.foldl (fun l p => gput l (p.name, p)) l) from h ps []
  intro ps
  induction ps with
  | nil => intro l; rfl
  | cons p ps ih =>
    intro l
    rw [List.map_cons, List.foldl_cons, List.foldl_cons, dput_eq, gput_map (fun p => S (plainP p)) l p.name p, ih]
theorem latest_mem (ps : List Paint) : ∀ q ∈ latest ps, q.2 ∈ ps := by
  unfold latest
  suffices h : ∀ (ps : List Paint) (l : List (Str × Paint)) (A : List Paint), (∀ q ∈ l, q.2 ∈ A) → ∀ q ∈ ps.foldl (fun l p => gput l (p.name, p)) l, q.2 ∈ A ++ ps by
    intro q hq
    simpa using h ps [] [] (by simp) q hq
  intro ps
  induction ps with
  | nil => intro l A h q hq; simpa using h q hq
  | cons p ps ih =>
    intro l A h q hq
    have := ih (gput l (p.name, p)) (A ++ [p]) (fun q hq => by
      unfold gput at hq
      split at hq
      · obtain ⟨x, hx, e⟩ := List.mem_map.mp hq
        split at e
        · rw [← e]; simp
        · rw [← e]; exact List.mem_append_left _ (h x hx)
      · rcases List.mem_append.mp hq with hq | hq
        · exact List.mem_append_left _ (h q hq)
        · rw [List.mem_singleton.mp hq]; simp) q hq
    simpa using this
theorem latest_len (ps : List Paint) : (latest ps).length ≤ ps.length := by
  unfold latest
  suffices h : ∀ (ps : List Paint) (l : List (Str × Paint)), (ps.foldl (fun l p => gput l (p.name, p)) l).length ≤ l.length + ps.length by simpa using h ps []
  intro ps
  induction ps with
  | nil => intro l; simp
  | cons p ps ih =>
    intro l
    have h1 := ih (gput l (p.name, p))
    have h2 := gput_len l (p.name, p)
    simp only [List.foldl_cons, List.length_cons]
    omega
theorem latest_ne {ps : List Paint} (hne : ps ≠ []) : latest ps ≠ [] := by
  unfold latest
  have grow : ∀ (l : List (Str × Paint)) (p : Str × Paint), gput l p ≠ [] := by
    intro l p
    unfold gput
    split
    · rename_i ha
      intro e
      rw [List.map_eq_nil_iff] at e
      rw [e] at ha; simp at ha
    · simp
  suffices h : ∀ (ps : List Paint) (l : List (Str × Paint)), (l ≠ [] ∨ ps ≠ []) → ps.foldl (fun l p => gput l (p.name, p)) l ≠ [] from h ps [] (.inr hne)
  intro ps
  induction ps with
  | nil => intro l h; rcases h with h | h; exact h; exact absurd rfl h
  | cons p ps ih => intro l _; exact ih _ (.inl (grow _ _))

theorem mix_sum (l : List (Str × Paint)) : mixSum (l.map fun q => quadP q.2) = (sumOf (fun p => p.parts * lumaP p) l, sumOf (fun p => p.parts * orangeP p) l, sumOf (fun p => p.parts * purpleP p) l, sumOf (fun p => p.parts) l) := by
  unfold mixSum
  suffices h : ∀ (l : List (Str × Paint)) (a b c d : Int), (l.map fun q => quadP q.2).foldl mixStep (a, b, c, d) = (a + sumOf (fun p => p.parts * lumaP p) l, b + sumOf (fun p => p.parts * orangeP p) l, c + sumOf (fun p => p.parts * purpleP p) l, d + sumOf (fun p => p.parts) l) by
    have := h l 0 0 0 0
    simpa using this
  intro l
  induction l with
  | nil => intro a b c d; simp [sumOf]
  | cons q r ih =>
    intro a b c d
    rw [List.map_cons, List.foldl_cons]
    show (r.map fun q => quadP q.2).foldl mixStep (a + q.2.parts * lumaP q.2, b + q.2.parts * orangeP q.2, c + q.2.parts * purpleP q.2, d + q.2.parts) = _
    rw [ih]
    simp only [sumOf, List.map_cons, List.sum_cons, Prod.mk.injEq]
    refine ⟨?_, ?_, ?_, ?_⟩ <;> omega

theorem sums {l : List (Str × Paint)} (h : ∀ q ∈ l, Fine q.2) :
    (sumOf (fun p => p.parts * lumaP p) l = 3000 * sumOf (fun p => p.parts * p.r) l + 5900 * sumOf (fun p => p.parts * p.g) l + 1100 * sumOf (fun p => p.parts * p.b) l) ∧
    (sumOf (fun p => p.parts * orangeP p) l = 5990 * sumOf (fun p => p.parts * p.r) l - 2773 * sumOf (fun p => p.parts * p.g) l - 3217 * sumOf (fun p => p.parts * p.b) l) ∧
    (sumOf (fun p => p.parts * purpleP p) l = 2130 * sumOf (fun p => p.parts * p.r) l - 5251 * sumOf (fun p => p.parts * p.g) l + 3121 * sumOf (fun p => p.parts * p.b) l) ∧
    (0 ≤ sumOf (fun p => p.parts * p.r) l ∧ sumOf (fun p => p.parts * p.r) l ≤ 9 * sumOf (fun p => p.parts) l) ∧ (0 ≤ sumOf (fun p => p.parts * p.g) l ∧ sumOf (fun p => p.parts * p.g) l ≤ 9 * sumOf (fun p => p.parts) l) ∧
    (0 ≤ sumOf (fun p => p.parts * p.b) l ∧ sumOf (fun p => p.parts * p.b) l ≤ 9 * sumOf (fun p => p.parts) l) ∧ ((l.length : Int) ≤ sumOf (fun p => p.parts) l ∧ sumOf (fun p => p.parts) l ≤ 9 * (l.length : Int)) := by
  induction l with
  | nil => simp [sumOf]
  | cons q r ih =>
    have i := ih fun x hx => h x (.tail _ hx)
    have f := h q (.head _)
    have hp := f.hp
    have hp0 : 0 ≤ q.2.parts := by omega
    have b1 := Int.mul_nonneg hp0 f.hr.1
    have b2 := Int.mul_nonneg hp0 f.hg.1
    have b3 := Int.mul_nonneg hp0 f.hb.1
    have c1 := Int.mul_le_mul_of_nonneg_left f.hr.2 hp0
    have c2 := Int.mul_le_mul_of_nonneg_left f.hg.2 hp0
    have c3 := Int.mul_le_mul_of_nonneg_left f.hb.2 hp0
    have e1 : q.2.parts * lumaP q.2 = 3000 * (q.2.parts * q.2.r) + 5900 * (q.2.parts * q.2.g) + 1100 * (q.2.parts * q.2.b) := by unfold lumaP; grind
    have e2 : q.2.parts * orangeP q.2 = 5990 * (q.2.parts * q.2.r) - 2773 * (q.2.parts * q.2.g) - 3217 * (q.2.parts * q.2.b) := by unfold orangeP; grind
    have e3 : q.2.parts * purpleP q.2 = 2130 * (q.2.parts * q.2.r) - 5251 * (q.2.parts * q.2.g) + 3121 * (q.2.parts * q.2.b) := by unfold purpleP; grind
    have cons : ∀ f : Paint → Int, sumOf f (q :: r) = f q.2 + sumOf f r := fun f => by simp [sumOf]
    simp only [cons, List.length_cons]
    rw [e1, e2, e3]
    push_cast
    omega

theorem paintOf_fine {n : Int} : Fine (paintOf n) := by
  have a := fmod_range n (m := 10) (by decide)
  have b := fmod_range (n.fdiv 10) (m := 10) (by decide)
  have c := fmod_range (n.fdiv 100) (m := 10) (by decide)
  have d := fmod_range (n.fdiv 5000) (m := 9) (by decide)
  have e := fmod_range (n.fdiv 45000) (m := 4) (by decide)
  have f := fmod_range (n.fdiv 1000) (m := 5) (by decide)
  unfold paintOf
  exact ⟨by dsimp only; omega, by dsimp only; omega, by dsimp only; omega, by dsimp only; omega, by dsimp only; omega, ⟨_, f.1, f.2, rfl⟩⟩

theorem len_sum {l : List Str} {k : Nat} (h : ∀ x ∈ l, x.length ≤ k) : (l.map (·.length)).sum ≤ k * l.length := by
  induction l with
  | nil => simp
  | cons x r ih =>
    have h1 := h x (.head _)
    have h2 := ih fun y hy => h y (.tail _ hy)
    simp only [List.map_cons, List.sum_cons, List.length_cons, Nat.mul_add, Nat.mul_one]
    omega
theorem join_len {l : List Str} {k : Nat} (h : ∀ x ∈ l, x.length ≤ k) : (Txt.join (Str.ofString " ,\t") l).length ≤ (k + 3) * l.length := by
  have sl : (Str.ofString " ,\t").length = 3 := by decide +kernel
  rw [join_eq]
  induction l with
  | nil => simp [join_nil]; rfl
  | cons x r ih =>
    have h1 := h x (.head _)
    have h2 := ih fun y hy => h y (.tail _ hy)
    cases r with
    | nil => rw [join_one]; simp; omega
    | cons y r =>
      rw [join_cons_cons, Str.length_append, Str.length_append, sl]
      have : (k + 3) * (x :: y :: r).length = (k + 3) * (y :: r).length + (k + 3) := by rw [List.length_cons, Nat.mul_add, Nat.mul_one]
      omega

theorem law_ok (ns : List Int) : LawOk ((numbersOf ns).map paintOf) := by
  have fine : ∀ p ∈ (numbersOf ns).map paintOf, Fine p := by
    intro p hp
    obtain ⟨n, _, rfl⟩ := List.mem_map.mp hp
    exact paintOf_fine
  have len : ((numbersOf ns).map paintOf).length ≤ 11 := by
    rw [List.length_map]
    unfold numbersOf
    rw [List.length_append, List.length_map, List.length_take]
    show 5 + min 6 ns.length ≤ 11
    omega
  have hne : (numbersOf ns).map paintOf ≠ [] := by unfold numbersOf; simp
  generalize (numbersOf ns).map paintOf = ps at *
  have tl : ∀ x ∈ ps.map textP, x.length ≤ 140 := by
    intro x hx
    obtain ⟨p, hp, rfl⟩ := List.mem_map.mp hx
    exact text_len (fine p hp)
  have hml : (ps.map textP).length = ps.length := by simp
  have inv := inv_all ps
  have fl : ∀ q ∈ latest ps, Fine q.2 := fun q hq => fine _ (latest_mem ps q hq)
  have sm := sums fl
  have ll := latest_len ps
  have l0 : 0 < (latest ps).length := List.length_pos_iff.mpr (latest_ne hne)
  refine ⟨fine, len, ?_, ?_, ps.map (fun p => (p.name, S (plainP p))), (latest ps).map (fun q => quadP q.2), sumOf (fun p => p.parts * lumaP p) (latest ps), sumOf (fun p => p.parts * orangeP p) (latest ps), sumOf (fun p => p.parts * purpleP p) (latest ps), ?_, by rw [List.length_map]; omega, ?_, ?_, ?_⟩
  · have := len_sum tl
    rw [hml] at this ⊢
    have : 140 * ps.length ≤ 140 * 11 := Nat.mul_le_mul_left _ len
    omega
  · have := join_len tl
    rw [hml] at this
    have : (140 + 3) * ps.length ≤ (140 + 3) * 11 := Nat.mul_le_mul_left _ len
    omega
  · have hr : Paired ReadAs (ps.map textP) (ps.map readP) := by
      clear len hne tl hml inv fl sm ll l0
      induction ps with
      | nil => exact .nil
      | cons p r ih => exact .cons (read_as (fine p (.head _))) (ih fun x hx => fine x (.tail _ hx))
    rw [parse_join hr (by simpa using hne)]
    clear len hne tl hml inv fl sm ll l0 hr
    induction ps with
    | nil => exact .nil
    | cons p r ih => exact .cons (keqv_is (fine p (.head _))) (ih fun x hx => fine x (.tail _ hx))
  · rw [items_fold]
    generalize latest ps = l at fl
    clear len hne tl hml inv sm ll l0
    induction l with
    | nil => exact .nil
    | cons q r ih => exact .cons (quad_is (fl q (.head _))) (ih fun x hx => fl x (.tail _ hx))
  · rw [mix_sum, inv.total]
  · obtain ⟨s1, s2, s3, ⟨a0, a1⟩, ⟨b0, b1⟩, ⟨c0, c1⟩, ⟨t0, t1⟩⟩ := sm
    rw [inv.total, inv.p1, inv.p2, inv.p3]
    exact ⟨by omega, by omega, a0, a1, b0, b1, c0, c1, s1, s2, s3⟩
end Mine

namespace Mine
theorem home_of_top {p : Program} {loose : List Str} {mean : ExcName → Option Value} {mg mb : Str → Option Value} {h : Heap} (T : Top p loose mean mg mb h)
    (hrec : ∀ i ∈ ([1, 2, 4, 5, 7, 8, 9, 10] : List Nat), ∃ d ∈ recsOf p, d.name = fnName i ∧ d.params = fnParams i ∧ d.body = fnBody i ∧ d.scope = fnScope i)
    (hfree : ∀ x ∈ ([Str.ofString "int", Str.ofString "str", Str.ofString "round", Str.ofString "zip", Str.ofString "min", Str.ofString "max"] : List Str), x ∉ startupNames ∧ x ∉ loose ∧ x ∉ (recsOf p).map (·.name) ∧ x ∉ (litsOf p).map (·.1) ∧ x ∉ (clssOf p loose).map (·.name)) : Home mg mb h where
  g := T.g
  b := T.b
  bi := T.builtins
  free := fun x hx => let ⟨a, b, c, d, e⟩ := hfree x hx; T.free x a b c d e
  fn := fun i hi => by
    obtain ⟨d, hd, e1, e2, e3, e4⟩ := hrec i hi
    obtain ⟨a, o, pm, code, doc, h1, h2, h3, h4⟩ := T.fn d hd
    rw [e1] at h1 h4
    rw [e1, e2, e3, e4] at h3
    exact ⟨a, pm, code, doc, h1, ⟨o, h2, h3⟩, h4, T.nolimit⟩
theorem frScript {h₀ h : Heap} {L : Addr} {v : Value} (F : Fr h₀ L h fun x => List.lookup x [(Str.ofString "script", v)].reverse) : Fr h₀ L h (fun x : Str => if x = "script" then some v else none) := by
  have : (fun x => List.lookup x [(Str.ofString "script", v)].reverse) = fun x : Str => if x = "script" then some v else none := by
    funext x
    by_cases e : x = "script"
    · subst e; simp
    · have e' : (x == Str.ofString "script") = false := by simpa using e
      simp [List.lookup, e, e']
  rw [this] at F
  exact F
theorem len_small {n : Nat} (h : ¬ ((63 : Nat) : Int) < ((n : Nat) : Int)) : n ≤ 100000 := by omega
theorem rec_at {p : Program} (k i : Nat) (h : k < (recsOf p).length) (e : (recsOf p)[k].name = fnName i ∧ (recsOf p)[k].params = fnParams i ∧ (recsOf p)[k].body = fnBody i ∧ (recsOf p)[k].scope = fnScope i) :
    ∃ d ∈ recsOf p, d.name = fnName i ∧ d.params = fnParams i ∧ d.body = fnBody i ∧ d.scope = fnScope i := ⟨_, List.getElem_mem h, e⟩
end Mine
open Mine
set_option maxRecDepth 100000 in
set_option maxHeartbeats 8000000 in
theorem PySem.Challenge.cw_mq0135_01_holds : PySem.Challenge.rw_mq0135_01.Holds := by
  (w_on; o_law; k_head; (case hw => w_witness2); w_strict (
    k_go0
    rename Top _ _ _ _ _ _ => T
    rename Fr _ _ _ _ => F
    rename News _ _ _ _ => N
    rename IntsAre _ _ => hI
    rename Heap.IsList _ _ _ => hL
    have H := home_of_top T (by
      intro i hi
      simp only [List.mem_cons, List.not_mem_nil, or_false] at hi
      rcases hi with rfl | rfl | rfl | rfl | rfl | rfl | rfl | rfl
      · exact rec_at 0 1 (by decide +kernel) ⟨by kernel_rfl, by kernel_rfl, by kernel_rfl, by kernel_rfl⟩
      · exact rec_at 1 2 (by decide +kernel) ⟨by kernel_rfl, by kernel_rfl, by kernel_rfl, by kernel_rfl⟩
      · exact rec_at 2 4 (by decide +kernel) ⟨by kernel_rfl, by kernel_rfl, by kernel_rfl, by kernel_rfl⟩
      · exact rec_at 3 5 (by decide +kernel) ⟨by kernel_rfl, by kernel_rfl, by kernel_rfl, by kernel_rfl⟩
      · exact rec_at 4 7 (by decide +kernel) ⟨by kernel_rfl, by kernel_rfl, by kernel_rfl, by kernel_rfl⟩
      · exact rec_at 5 8 (by decide +kernel) ⟨by kernel_rfl, by kernel_rfl, by kernel_rfl, by kernel_rfl⟩
      · exact rec_at 6 9 (by decide +kernel) ⟨by kernel_rfl, by kernel_rfl, by kernel_rfl, by kernel_rfl⟩
      · exact rec_at 7 10 (by decide +kernel) ⟨by kernel_rfl, by kernel_rfl, by kernel_rfl, by kernel_rfl⟩) (by
      intro x hx
      simp only [List.mem_cons, List.not_mem_nil, or_false] at hx
      rcases hx with rfl | rfl | rfl | rfl | rfl | rfl
      all_goals exact ⟨by decide +kernel, by decide +kernel, by decide +kernel, by decide +kernel, by decide +kernel⟩)
    have F' : Fr _ _ _ (fun x : Str => if x = "script" then some (Value.ref _) else none) := frScript F
    have hlen : _ ≤ 100000 := len_small (by assumption)
    refine law_body ?_ ?_ rfl H F' N hL hI hlen (law_ok _) ?_
    · first | decide | exact Nat.le_of_ble_eq_true rfl
    · ke_room
    · intro h' tk hk
      refine ⟨.inl ⟨.bool true, .bool true, [], rfl, raisesW_false ?_, .bool true, ?_, unshared_nil⟩, hk, rfl, by assumption⟩
      · wrow_none_raised
      · wrow_post))

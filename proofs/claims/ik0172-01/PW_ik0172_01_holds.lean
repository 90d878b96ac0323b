import PyProof.Rows.All
import Wide.All
import OpenK.AllK
import Wide.FinOn
import PySem.Challenge.RW_ik0172_01
open PySem PySem.W PyProof.Rows
set_option Elab.async false
namespace Mine
set_option maxRecDepth 100000 in
set_option maxHeartbeats 8000000 in
open_top hd for PySem.Challenge.rw_ik0172_01
theorem wOff : True := by
  w_top off
  trivial
section
theorem kf_ints_of : ∀ {us : List Value} {l : List Int}, IntsAre us l → kf_ints us = true
  | _, _, .nil => rfl
  | _, _, .cons _ _ r => by unfold kf_ints; exact kf_ints_of r
theorem isInt_int (k n : Int) (t : Tok) : isInt k (.int n t) = decide (n = k) := by
  unfold isInt; first | rfl | simp
theorem any_isInt {k : Int} : ∀ {us : List Value} {l : List Int}, IntsAre us l → us.any (isInt k) = decide (k ∈ l)
  | _, _, .nil => by simp
  | _, _, .cons n t r => by
    rw [List.any_cons, any_isInt r, isInt_int]
    by_cases h : n = k
    · subst h; simp
    · have h' : k ≠ n := fun e => h e.symm
      simp [h, h']
theorem kf_at_of {k : Int} : ∀ {us : List Value} {pre post : List Int}, IntsAre us (pre ++ k :: post) → k ∉ pre → kf_at k us = some pre.length
  | _, [], _, .cons _ _ _, _ => by unfold kf_at; rw [isInt_int]; simp
  | _, p :: pre, post, .cons _ _ r, h => by
    have hp : p ≠ k := fun e => h (by rw [e]; exact List.mem_cons_self)
    have ih := kf_at_of (pre := pre) (post := post) r (fun e => h (List.mem_cons_of_mem _ e))
    unfold kf_at
    rw [isInt_int, ih]
    simp [hp]
theorem ki_delL_of {k : Int} : ∀ {us : List Value} {pre post : List Int}, IntsAre us (pre ++ k :: post) → ∃ q, ki_delL us pre.length = some q ∧ IntsAre q (pre ++ post)
  | _, [], _, .cons _ _ r => ⟨_, rfl, r⟩
  | _, p :: pre, post, .cons _ t r => by
    obtain ⟨q, h1, h2⟩ := ki_delL_of (pre := pre) (post := post) r
    exact ⟨.int p t :: q, by rw [List.length_cons]; unfold ki_delL; rw [h1], .cons p t h2⟩
theorem ints_concat : ∀ {us : List Value} {l : List Int} {x : Int}, IntsAre us (l ++ [x]) → ∃ vs t, us = vs ++ [Value.int x t] ∧ IntsAre vs l
  | _, [], _, .cons _ t r => by cases r; exact ⟨[], t, rfl, .nil⟩
  | _, y :: l, x, .cons _ t r => by
    obtain ⟨vs, u, h1, h2⟩ := ints_concat (l := l) r
    exact ⟨.int y t :: vs, u, by rw [h1]; rfl, .cons y t h2⟩
section
variable {prog : Program} {w : World} {A : Around} {E : Value → Shared → Prop} {s : Shared} {h₀ : Heap} {L D : Addr} {m : Str → Option Value} {news : List (Addr × Obj)} {n : Nat} {us : List Value}

theorem mem_hd {D : Addr} {o o' : Obj} {l : List (Addr × Obj)} (h : o = o') : (D, o) ∈ (D, o') :: l := h ▸ List.mem_cons_self
theorem News.sub {h : Heap} {l l' : List (Addr × Obj)} (N : News h₀ L h l) (hs : ∀ p ∈ l', p ∈ l) : News h₀ L h l' := fun p hp => N p (hs p hp)

/-- a list's pop -/
theorem kr_pop {news' : List Value → List (Addr × Obj)} {l : List Int} {x : Int} {Q : Value → Shared → Prop} (F : Fr h₀ L s.heap m) (N : News h₀ L s.heap news) (hi : IntsAre us (l ++ [x]))
    (U : ∀ vs, Upd D (listOf us.toArray n) (listOf vs.toArray (n + 1)) news (news' vs)) (hz : us.length ≤ sizeLine)
    (h : ∀ h' t vs, Fr h₀ L h' m → News h₀ L h' (news' vs) → IntsAre vs l → Q (.int x t) { s with heap := h' }) : wpAny (model prog w) A (call (.builtin "list.pop") [.ref D]) Q E s := by
  obtain ⟨vs, t, rfl, h2⟩ := ints_concat hi
  refine kl_pop F N (p := vs) (y := .int x t) ?_ (U vs) (by simpa using hz) fun h' F' N' => h h' t vs F' N' h2
  have e := kpa_last (.int x t) vs
  simpa using e
/-- a list's remove of an int that it has -/
theorem kr_remove {news' : List Value → List (Addr × Obj)} {pre post : List Int} {k : Int} {t : Tok} {Q : Value → Shared → Prop} (F : Fr h₀ L s.heap m) (N : News h₀ L s.heap news) (hi : IntsAre us (pre ++ k :: post)) (hn : k ∉ pre)
    (U : ∀ vs, Upd D (listOf us.toArray n) (listOf vs.toArray (n + 1)) news (news' vs)) (hz : us.length ≤ sizeLine)
    (h : ∀ h' vs, Fr h₀ L h' m → News h₀ L h' (news' vs) → IntsAre vs (pre ++ post) → Q .none { s with heap := h' }) : wpAny (model prog w) A (call (.builtin "list.remove") [.ref D, .int k t]) Q E s := by
  obtain ⟨q, h1, h2⟩ := ki_delL_of hi
  exact kf_remove F N (by simpa using kf_ints_of hi) (by simpa using kf_at_of hi hn) (by simpa using h1) (U q) (by simpa using hz) fun h' F' N' => h h' q F' N' h2
theorem kr_len {l : List Int} {Q : Value → Shared → Prop} (N : News h₀ L s.heap news) (hm : (D, listOf us.toArray n) ∈ news) (hi : IntsAre us l) (hz : l.length < 4611686018427387904)
    (h : Q (.int (l.length : Nat) (s.toks + 1)) { s with toks := s.toks + 1 + 1 }) : wpAny (model prog w) A (call (.builtin "len") [.ref D]) Q E s :=
  len_ints_fit (News.isList N hm) hi hz h
theorem kr_truthy {l : List Int} {Q : Bool → Shared → Prop} (N : News h₀ L s.heap news) (hm : (D, listOf us.toArray n) ∈ news) (hi : IntsAre us l) (hz : l.length < 4611686018427387904)
    (h : Q (decide (0 < l.length)) { s with toks := s.toks + 1 + 1 }) : wpAny (model prog w) A (truthy (.ref D)) Q E s :=
  truthy_ints_fit (News.isList N hm) hi hz h
theorem kr_item {value slice : Expr} {l : List Int} {k : Int} {u : Tok} {Q : Value → Shared → Prop} (N : News h₀ L s.heap news) (hm : (D, listOf us.toArray n) ∈ news) (hi : IntsAre us l) (hz : l.length < 4611686018427387904)
    (h0 : 0 ≤ k) (h1 : k < (l.length : Int)) (h : ∀ t, Q (.int (l.getD k.toNat 0) t) s)
    (hs : subscripted slice false (.ref D) (.int k u) = operate [.ref D, .int k u] (getItem (.ref D) (.int k u)) := by with_unfolding_all rfl) (hg : ∀ r, letTemporaryGo value (.ref D) r = pure () := by intro _; with_unfolding_all rfl) :
    wpAny (model prog w) A (subscriptTail value slice (.ref D) (.int k u)) Q E s :=
  item_list_ints (News.isList N hm) hi h0 h1 (by omega) h hs hg
theorem kr_in {l : List Int} {k : Int} {t : Tok} {Q : Value → Shared → Prop} (N : News h₀ L s.heap news) (hm : (D, listOf us.toArray n) ∈ news) (hi : IntsAre us l) (h : Q (.bool (decide (k ∈ l))) s) :
    wpAny (model prog w) A (compareOp .In (.int k t) (.ref D)) Q E s :=
  kf_in N hm (by simpa using kf_ints_of hi) (by simpa using any_isInt hi) h
theorem kr_notin {l : List Int} {k : Int} {t : Tok} {Q : Value → Shared → Prop} (N : News h₀ L s.heap news) (hm : (D, listOf us.toArray n) ∈ news) (hi : IntsAre us l) (h : Q (.bool (!decide (k ∈ l))) s) :
    wpAny (model prog w) A (compareOp .NotIn (.int k t) (.ref D)) Q E s :=
  kf_notin N hm (by simpa using kf_ints_of hi) (by show (!us.any (isInt k)) = _; rw [any_isInt hi]) h
end
section
variable {prog : Program} {w : World} {A : Around} {E : Value → Shared → Prop} {s : Shared} {env : Env} {h₀ : Heap} {x : Str} {body : List Stmt} {Q : Flow → Shared → Prop}
/-- a for over a range by ones, with any invariant over the frame and the ledger -/
theorem iter_rangeG {r : Addr} {a₀ b₀ : Int} {t₀ u₀ v₀ : Tok} {n : Nat} {m₀ : Str → Option Value} {news : List (Addr × Obj)} (J : Nat → (Str → Option Value) → List (Addr × Obj) → Prop)
    (hh : A.handled = none) (hr : IsRange s.heap r a₀ b₀ 1 t₀ u₀ v₀) (hsmall : Builtin.Range.small a₀ b₀ 1 = true) (hn : Builtin.Range.rangeSize a₀ b₀ 1 = (n : Int)) (F : Fr h₀ env.locals s.heap m₀) (N : News h₀ env.locals s.heap news) (hj : J 0 m₀ news)
    (turn : ∀ i t m₁ news₁ h tk own, i < n → OwnOff own (news₁.map (·.1)) → J i m₁ news₁ → Fr h₀ env.locals h (fun y => if y = x then some (.int (a₀ + (i : Int)) t) else m₁ y) → News h₀ env.locals h (news₁ ++ own) →
      wpAny (model prog w) A (execs body env) (InvPostG h₀ env.locals (J (i + 1)) own { s with heap := h, toks := tk } Q) E { s with heap := h, toks := tk })
    (done : ∀ m₁ news₁ h tk, J n m₁ news₁ → Fr h₀ env.locals h m₁ → News h₀ env.locals h news₁ → Q .next { s with heap := h, toks := tk }) :
    wpAny (model prog w) A (pyIter (.ref r)) (fun it s₂ => LoopAtV prog w A h₀ env x body Q E it s₂) E s := by
  refine wpAny_pyIter_range hr hsmall ?_
  have W : Walks prog w A s.heap.objs.size [s.heap.objs.size] [s.heap.objs.size] n (fun i v => i < n ∧ ∃ t, v = .int (a₀ + i * 1) t)
      (fun i h => IsRangeIter h s.heap.objs.size (a₀ + (i : Nat) * 1) ((n : Int) - (i : Nat)) 1) := (Walks.range hh _ a₀ 1 n).bound
  refine ⟨_, _, _, n, _, _, m₀, news, J, rfl, W, ?_, ?_, ?_, (by show IsRangeIter _ _ _ _ _; rw [hn]; simpa using Heap.get?_push_size _ rfl), F.push _, (fun p hp => ⟨Heap.get?_push_of_some _ (N p hp).1, (N p hp).2⟩), hj, ?_, ?_⟩
  · intro hm
    exact absurd F.ns.lt ((List.mem_singleton.mp hm) ▸ Nat.lt_irrefl _)
  · intro b hb
    rw [List.mem_singleton.mp hb]
    exact next_is_new F
  · intro p hp hI
    exact absurd (Heap.lt_size (N p hp).1) ((List.mem_singleton.mp hI) ▸ Nat.lt_irrefl _)
  · rintro i v m₁ news₁ s₁ own ⟨hh', tk', rfl⟩ hin ⟨_, t, rfl⟩ hJ hoff hown hget hfp hst F₁ N₁
    have hI0 : h₀.get? s.heap.objs.size = none := next_is_new F
    have hIown : (s.heap.objs.size, _) ∈ own := hfp _ (List.mem_singleton.mpr rfl) hI0 _ hst
    have hsep : OwnOff own (news₁.map (·.1)) := by
      intro p hp b hb e
      obtain ⟨q, hq, rfl⟩ := List.mem_map.mp hb
      exact hoff q hq (e ▸ hown p hp)
    have e1 : a₀ + (i : Int) * 1 = a₀ + (i : Int) := by omega
    rw [e1] at F₁
    have N₂ : News h₀ env.locals hh' (news₁ ++ own) := fun p hp => N₁ p ((List.mem_append.mp hp).elim (fun h => List.mem_append.mpr (.inr h)) fun h => List.mem_append.mpr (.inl h))
    refine wpAny_mono (turn i t m₁ news₁ hh' tk' own hin hsep hJ F₁ N₂) (fun f s₂ p => ?_) fun _ _ e => e
    have fin : InvEndG h₀ env.locals (J (i + 1)) own { s with heap := hh', toks := tk' } s₂ → LoopStepU h₀ env.locals [s.heap.objs.size] own (J (i + 1)) { s with heap := hh', toks := tk' } .next s₂ := by
      rintro ⟨h', tk, m', news', nx, e, F', N', hn, ho, ha, hm⟩
      refine ⟨rfl, h', tk, m', nx, e, F', fun p hp => N' p ((List.mem_append.mp hp).elim (ho p) (hn p)), fun p hp hq => ?_, hm⟩
      exact ha _ hIown p.1 (List.mem_map.mpr ⟨p, hp, rfl⟩) (List.mem_singleton.mp hq).symm
    cases f with
    | ret v => exact .ret p
    | brk => exact .brk p
    | next => exact .next (fin p)
    | cont => exact .cont (fin p)
  · rintro h' tk m' news' F' N' _ hJ
    exact done m' news' h' tk hJ F' N'
end
theorem tl1 {q : Addr} {a : Addr × Obj} {l : List (Addr × Obj)} (h : ∀ p ∈ a :: l, p.1 < q) : ∀ p ∈ l, p.1 < q := fun p hp => h p (List.mem_cons_of_mem _ hp)
theorem ne_of_lts {q : Addr} {l : List (Addr × Obj)} (h : ∀ p ∈ l, p.1 < q) : ∀ p ∈ l, p.1 ≠ q := fun p hp => Nat.ne_of_lt (h p hp)
section
variable {prog : Program} {w : World} {A A₀ : Around} {E : Value → Shared → Prop} {s : Shared} {K : Frag} {C L : Addr} {h₀ : Heap} {m : Str → Option Value} {news : List (Addr × Obj)} {Q : Value → Shared → Prop}
theorem call_clsM {pos : List Value} {kw : List (Str × Value)} {fI : Addr} (F : Fr h₀ L s.heap m) (X₀ : K.In h₀) (N : News h₀ L s.heap news) (hm : makesIn K C = true) (hi : findIn K (.ref C) "__init__" = some (some (.ref fI))) (hf : isFn K (.ref fI) = true)
    (h : ∀ x dx h', Fr h₀ L h' m → News h₀ L h' ((x, instObj C dx) :: (dx, dictOf [] 0) :: news) → (∀ p ∈ news, p.1 < dx) → (∀ p ∈ news, p.1 < x) → @LT.lt Nat _ dx x →
      codeAny (model prog w) (A.under (.builtin "type.__call__" ⟨.ref C :: pos, kw⟩)) (.call (.ref fI) ⟨.ref x :: pos, kw⟩) (InitBack x fun r s' => match r with | .ok (.ret v) => Q v s' | .ok _ => False | .error e => E e s') { s with heap := h' }) :
    wpAny (model prog w) A (call (.ref C) pos kw) Q E s :=
  call_cls F X₀ N hm hi hf fun x dx h' F' N' l1 l2 => h x dx h' F' N' l1 (fun p hp => Nat.lt_trans (l1 p hp) l2) l2
end
end
section
section
variable {prog : Program} {w : World} {A : Around} {E : Value → Shared → Prop} {s : Shared} {env : Env} {h₀ : Heap} {x : Str} {body : List Stmt} {Q : Flow → Shared → Prop}
/-- a for over a range of any step, with any invariant over the frame and the ledger -/
theorem iter_rangeC {r : Addr} {a₀ b₀ c : Int} {t₀ u₀ v₀ : Tok} {n : Nat} {m₀ : Str → Option Value} {news : List (Addr × Obj)} (J : Nat → (Str → Option Value) → List (Addr × Obj) → Prop)
    (hh : A.handled = none) (hr : IsRange s.heap r a₀ b₀ c t₀ u₀ v₀) (hsmall : Builtin.Range.small a₀ b₀ c = true) (hn : Builtin.Range.rangeSize a₀ b₀ c = (n : Int)) (F : Fr h₀ env.locals s.heap m₀) (N : News h₀ env.locals s.heap news) (hj : J 0 m₀ news)
    (turn : ∀ i t m₁ news₁ h tk own, i < n → OwnOff own (news₁.map (·.1)) → J i m₁ news₁ → Fr h₀ env.locals h (fun y => if y = x then some (.int (a₀ + (i : Int) * c) t) else m₁ y) → News h₀ env.locals h (news₁ ++ own) →
      wpAny (model prog w) A (execs body env) (InvPostG h₀ env.locals (J (i + 1)) own { s with heap := h, toks := tk } Q) E { s with heap := h, toks := tk })
    (done : ∀ m₁ news₁ h tk, J n m₁ news₁ → Fr h₀ env.locals h m₁ → News h₀ env.locals h news₁ → Q .next { s with heap := h, toks := tk }) :
    wpAny (model prog w) A (pyIter (.ref r)) (fun it s₂ => LoopAtV prog w A h₀ env x body Q E it s₂) E s := by
  refine wpAny_pyIter_range hr hsmall ?_
  have W : Walks prog w A s.heap.objs.size [s.heap.objs.size] [s.heap.objs.size] n (fun i v => i < n ∧ ∃ t, v = .int (a₀ + i * c) t)
      (fun i h => IsRangeIter h s.heap.objs.size (a₀ + (i : Nat) * c) ((n : Int) - (i : Nat)) c) := (Walks.range hh _ a₀ c n).bound
  refine ⟨_, _, _, n, _, _, m₀, news, J, rfl, W, ?_, ?_, ?_, (by show IsRangeIter _ _ _ _ _; rw [hn]; simpa using Heap.get?_push_size _ rfl), F.push _, (fun p hp => ⟨Heap.get?_push_of_some _ (N p hp).1, (N p hp).2⟩), hj, ?_, ?_⟩
  · intro hm
    exact absurd F.ns.lt ((List.mem_singleton.mp hm) ▸ Nat.lt_irrefl _)
  · intro b hb
    rw [List.mem_singleton.mp hb]
    exact next_is_new F
  · intro p hp hI
    exact absurd (Heap.lt_size (N p hp).1) ((List.mem_singleton.mp hI) ▸ Nat.lt_irrefl _)
  · rintro i v m₁ news₁ s₁ own ⟨hh', tk', rfl⟩ hin ⟨_, t, rfl⟩ hJ hoff hown hget hfp hst F₁ N₁
    have hI0 : h₀.get? s.heap.objs.size = none := next_is_new F
    have hIown : (s.heap.objs.size, _) ∈ own := hfp _ (List.mem_singleton.mpr rfl) hI0 _ hst
    have hsep : OwnOff own (news₁.map (·.1)) := by
      intro p hp b hb e
      obtain ⟨q, hq, rfl⟩ := List.mem_map.mp hb
      exact hoff q hq (e ▸ hown p hp)
    have N₂ : News h₀ env.locals hh' (news₁ ++ own) := fun p hp => N₁ p ((List.mem_append.mp hp).elim (fun h => List.mem_append.mpr (.inr h)) fun h => List.mem_append.mpr (.inl h))
    refine wpAny_mono (turn i t m₁ news₁ hh' tk' own hin hsep hJ F₁ N₂) (fun f s₂ p => ?_) fun _ _ e => e
    have fin : InvEndG h₀ env.locals (J (i + 1)) own { s with heap := hh', toks := tk' } s₂ → LoopStepU h₀ env.locals [s.heap.objs.size] own (J (i + 1)) { s with heap := hh', toks := tk' } .next s₂ := by
      rintro ⟨h', tk, m', news', nx, e, F', N', hn, ho, ha, hm⟩
      refine ⟨rfl, h', tk, m', nx, e, F', fun p hp => N' p ((List.mem_append.mp hp).elim (ho p) (hn p)), fun p hp hq => ?_, hm⟩
      exact ha _ hIown p.1 (List.mem_map.mpr ⟨p, hp, rfl⟩) (List.mem_singleton.mp hq).symm
    cases f with
    | ret v => exact .ret p
    | brk => exact .brk p
    | next => exact .next (fin p)
    | cont => exact .cont (fin p)
  · rintro h' tk m' news' F' N' _ hJ
    exact done m' news' h' tk hJ F' N'
end
section
variable {prog : Program} {w : World} {A : Around} {E : Value → Shared → Prop} {s : Shared} {h₀ : Heap} {L a b D : Addr} {m : Str → Option Value} {news : List (Addr × Obj)} {vs ws us : List Value} {n n' : Nat} {Q : Value → Shared → Prop} {xs ys : List Int}
theorem kr_add (F : Fr h₀ L s.heap m) (N : News h₀ L s.heap news) (ha : (a, listOf vs.toArray n) ∈ news) (hb : (b, listOf ws.toArray n') ∈ news) (hi : IntsAre vs xs) (hj : IntsAre ws ys) (hz : xs.length + ys.length < 16777216)
    (h : ∀ D us h', Fr h₀ L h' m → News h₀ L h' ((D, listOf (List.toArray us) 0) :: news) → (∀ p ∈ news, p.1 < D) → IntsAre us (xs ++ ys) → Q (.ref D) { s with heap := h' }) : wpAny (model prog w) A (binaryOp .Add (.ref a) (.ref b)) Q E s :=
  kmk_add_ints F N (News.isList N ha) (News.isList N hb) hi hj h (by rw [sizeLine_eq]; omega)
theorem ints_repl {v : Value} {i : Int} (h : IntsAre [v] [i]) : ∀ k : Nat, IntsAre (List.replicate k v) (List.replicate k i)
  | 0 => .nil
  | k + 1 => by
    cases h with
    | cons _ _ h => exact .cons _ _ (ints_repl (.cons _ _ .nil) k)
theorem kr_mul {v : Value} {i x : Int} {u : Tok} (F : Fr h₀ L s.heap m) (N : News h₀ L s.heap news) (ha : (a, listOf [v].toArray n) ∈ news) (hi : IntsAre [v] [i]) (h0 : 0 ≤ x) (h1 : x ≤ 256)
    (h : ∀ D us h', Fr h₀ L h' m → News h₀ L h' ((D, listOf (List.toArray us) 0) :: news) → (∀ p ∈ news, p.1 < D) → IntsAre us (List.replicate x.toNat i) → Q (.ref D) { s with heap := h' }) : wpAny (model prog w) A (binaryOp .Mult (.ref a) (.int x u)) Q E s := by
  refine KMa.mul F N (News.isList N ha) (by omega) (by omega) (by simp only [List.length_cons, List.length_nil]; omega) (ws := List.replicate x.toNat v) ?_ ?_
  · have : ∀ k : Nat, (List.replicate k [v]).flatten = List.replicate k v := by
      intro k
      induction k with
      | zero => rfl
      | succ k ih => rw [List.replicate_succ, List.flatten_cons, ih, List.replicate_succ]; rfl
    exact this _
  · intro D h' F' N' l1
    exact h D _ h' F' N' l1 (ints_repl hi _)
theorem kr_slice {value slice : Expr} {vl vu : Value} {lo hi : Option Int} (F : Fr h₀ L s.heap m) (N : News h₀ L s.heap news) (ha : (a, listOf vs.toArray n) ∈ news) (hi' : IntsAre vs xs) (pl : IsPart vl lo) (pu : IsPart vu hi) (hm : IntsAre (slicePick vs.toArray lo hi none).toList ys) (hz : xs.length < 16777216)
    (h : ∀ D ws h', Fr h₀ L h' m → News h₀ L h' ((D, listOf (List.toArray ws) 0) :: news) → (∀ p ∈ news, p.1 < D) → IntsAre ws ys → Q (.ref D) { s with heap := h' })
    (hs : subscripted slice false (.ref a) (.ref s.heap.objs.size) = operate [.ref s.heap.objs.size, .ref a] (getItem (.ref a) (.ref s.heap.objs.size))) (ht : ∀ r, letTemporaryGo value (.ref a) r = pure ()) :
    wpAny (model prog w) A (subscriptTail value slice (.ref a) (.ref s.heap.objs.size)) Q E { s with heap := s.heap.push { cls := .type "slice", data := .fields #[vl, vu, .none] } } :=
  kmk_slice_ints F N (News.isList N ha) pl pu hi' hm rfl (fun D ws h' F' N' l1 i _ _ => h D ws h' F' N' l1 i) hs ht (kmk_sz hi' (by rw [sizeLine_eq]; omega))
end
theorem small_pos {a b c : Int} {k : Int} (hc : 0 < c) (hc2 : c < 1000) (e : Builtin.Range.rangeSize a b c = k) (hk : 0 ≤ k) (hk2 : k < 2 ^ 62) (ha : -(2 ^ 62) ≤ a) (ha' : a < 2 ^ 62) (hb : -(2 ^ 62) ≤ b) (hb' : b < 2 ^ 62) : Builtin.Range.small a b c = true := by
  unfold Builtin.Range.small
  rw [e]
  simp only [Builtin.Range.rangeFitsLong, Bool.and_eq_true, Bool.or_eq_true, decide_eq_true_eq, beq_iff_eq, show c > 0 from hc, if_true]
  omega
/-- a frame of which some names are known -/
def frL : List (Str × Value) → (Str → Option Value) → Str → Option Value
  | [], u => u
  | (n, v) :: r, u => fun y => if y = n then some v else frL r u y
theorem frL_eq {u : Str → Option Value} : ∀ {l : List (Str × Value)}, (∀ p ∈ l, u p.1 = some p.2) → frL l u = u
  | [], _ => rfl
  | (n, v) :: r, h => by
    funext y
    show (if y = n then some v else frL r u y) = u y
    rw [frL_eq (l := r) fun p hp => h p (List.mem_cons_of_mem _ hp)]
    by_cases e : y = n
    · rw [if_pos e, e, h (n, v) List.mem_cons_self]
    · rw [if_neg e]
theorem Fr.lay {h₀ h : Heap} {L : Addr} {u : Str → Option Value} (l : List (Str × Value)) (F : Fr h₀ L h u) (hl : ∀ p ∈ l, u p.1 = some p.2) : Fr h₀ L h (frL l u) := by
  rw [frL_eq hl]
  exact F
theorem Fr.lay1 {h₀ h : Heap} {L : Addr} {u : Str → Option Value} {x : Str} {v : Value} (l : List (Str × Value)) (F : Fr h₀ L h (fun y => if y = x then some v else u y)) (hl : ∀ p ∈ l, u p.1 = some p.2) : Fr h₀ L h (fun y => if y = x then some v else frL l u y) := by
  rw [frL_eq hl]
  exact F
section
variable {prog : Program} {w : World} {A : Around} {E : Value → Shared → Prop} {s₁ : Shared} {h₀ : Heap} {L : Addr} {m : Str → Option Value} {news : List (Addr × Obj)}
/-- a list of ints made by a comprehension over a list of ints of the ledger -/
theorem comp_ints {env : Env} {elt : Expr} {x : Str} {scope : Scope} {Q : Value → Shared → Prop} {l : Addr} {vs : List Value} {n : Nat} {as : List Int} (f : Int → Int)
    (hh : A.handled = none) (F : Fr h₀ L s₁.heap m) (N : News h₀ L s₁.heap news) (hm : (l, listOf vs.toArray n) ∈ news) (hi : IntsAre vs as) (hz : as.length < 1000)
    (g2 : ∀ C a t s₂ m₂ E', s₂.heap.Ns (compEnv scope C env).locals m₂ → m₂ x = some (.int a t) → wpAny (model prog w) A (eval elt (compEnv scope C env)) (fun r s₃ => Carried r (.int (f a)) ∧ Keeps s₂ s₃) E' s₂)
    (g3 : ∀ D ys k h' tk, Fr h₀ L h' m → News h₀ L h' ((D, listOf (List.toArray ys) k) :: news) → (∀ p ∈ news, p.1 ≠ D) → IntsAre ys (as.map f) → Q (.ref D) { s₁ with heap := h', toks := tk }) :
    wpAny (model prog w) A (pyIter (.ref l)) (CompPost prog w A env scope x [] elt Q) E s₁ := by
  refine srcC_listD (K := .int) (pz := fun _ => true) (d := fun a => .int (f a)) hh (News.isList N hm) hi.areOf F N ?_ ?_ ?_ (by rw [sizeLine_eq]; omega)
  · intro C a v s₂ m₂ E' hk hn hx _
    exact wpAny_pure ⟨rfl, _, _, rfl, fun _ _ e => e⟩
  · intro C a v s₂ m₂ E' hk _ hn hx _
    obtain ⟨t, rfl⟩ := hk
    exact g2 C a t s₂ m₂ E' hn hx
  · intro D ys h' tk F' N' hn hl hp hc
    obtain ⟨k, NX⟩ := made_enters hp F' N' hn
    have e : as.filter (fun _ => true) = as := List.filter_eq_self.mpr fun _ _ => rfl
    rw [e] at hc
    exact g3 D ys k h' tk F' NX hp.2 hc.intsOf
end
end
section
section
variable {prog : Program} {w : World} {A : Around} {E : Value → Shared → Prop} {s : Shared} {env : Env} {h₀ : Heap} {x : Str} {body : List Stmt} {Q : Flow → Shared → Prop}
theorem own_one {L R : Addr} {oR : Obj} {J : (Str → Option Value) → List (Addr × Obj) → Prop} {own : List (Addr × Obj)} {s₁ s₂ : Shared} (ho : ∀ p ∈ own, p = (R, oR)) (h : InvEndG h₀ L J [(R, oR)] s₁ s₂) (hoff : OwnOff own [] := fun _ _ _ h => nomatch h) : InvEndG h₀ L J own s₁ s₂ := by
  obtain ⟨h', tk, m', news', nx, e, F, N, h1, h2, h3, h4⟩ := h
  refine ⟨h', tk, m', news', nx, e, F, N, h1, fun p hp => h2 p (by rw [ho p hp]; exact List.mem_cons_self), fun p hp b hb => ?_, h4⟩
  rw [ho p hp]
  exact h3 (R, oR) List.mem_cons_self b hb
theorem own_oneP {L R : Addr} {oR : Obj} {J : (Str → Option Value) → List (Addr × Obj) → Prop} {own : List (Addr × Obj)} {s₁ s₂ : Shared} {f : Flow} (ho : ∀ p ∈ own, p = (R, oR)) (h : InvPostG h₀ L J [(R, oR)] s₁ Q f s₂) : InvPostG h₀ L J own s₁ Q f s₂ := by
  cases f with
  | ret v => exact h
  | brk => exact h
  | next => exact own_one ho h
  | cont => exact own_one ho h
/-- a for over a range by ones; the iterator is one object of the ledger -/
theorem iter_rangeE {r : Addr} {a₀ b₀ : Int} {t₀ u₀ v₀ : Tok} {n : Nat} {m₀ : Str → Option Value} {news : List (Addr × Obj)} (J : Nat → (Str → Option Value) → List (Addr × Obj) → Prop)
    (hh : A.handled = none) (hr : IsRange s.heap r a₀ b₀ 1 t₀ u₀ v₀) (hsmall : Builtin.Range.small a₀ b₀ 1 = true) (hn : Builtin.Range.rangeSize a₀ b₀ 1 = (n : Int)) (F : Fr h₀ env.locals s.heap m₀) (N : News h₀ env.locals s.heap news) (hj : J 0 m₀ news)
    (turn : ∀ i t m₁ news₁ h tk R oR, i < n → (∀ p ∈ news, p.1 < R) → (∀ p ∈ news₁, p.1 ≠ R) → J i m₁ news₁ → Fr h₀ env.locals h (fun y => if y = x then some (.int (a₀ + (i : Int)) t) else m₁ y) → News h₀ env.locals h ((R, oR) :: news₁) →
      wpAny (model prog w) A (execs body env) (InvPostG h₀ env.locals (J (i + 1)) [(R, oR)] { s with heap := h, toks := tk } Q) E { s with heap := h, toks := tk })
    (done : ∀ m₁ news₁ h tk, J n m₁ news₁ → Fr h₀ env.locals h m₁ → News h₀ env.locals h news₁ → Q .next { s with heap := h, toks := tk }) :
    wpAny (model prog w) A (pyIter (.ref r)) (fun it s₂ => LoopAtV prog w A h₀ env x body Q E it s₂) E s := by
  refine wpAny_pyIter_range hr hsmall ?_
  have W : Walks prog w A s.heap.objs.size [s.heap.objs.size] [s.heap.objs.size] n (fun i v => i < n ∧ ∃ t, v = .int (a₀ + i * 1) t)
      (fun i h => IsRangeIter h s.heap.objs.size (a₀ + (i : Nat) * 1) ((n : Int) - (i : Nat)) 1) := (Walks.range hh _ a₀ 1 n).bound
  refine ⟨_, _, _, n, _, _, m₀, news, J, rfl, W, ?_, ?_, ?_, (by show IsRangeIter _ _ _ _ _; rw [hn]; simpa using Heap.get?_push_size _ rfl), F.push _, (fun p hp => ⟨Heap.get?_push_of_some _ (N p hp).1, (N p hp).2⟩), hj, ?_, ?_⟩
  · intro hm
    exact absurd F.ns.lt ((List.mem_singleton.mp hm) ▸ Nat.lt_irrefl _)
  · intro b hb
    rw [List.mem_singleton.mp hb]
    exact next_is_new F
  · intro p hp hI
    exact absurd (Heap.lt_size (N p hp).1) ((List.mem_singleton.mp hI) ▸ Nat.lt_irrefl _)
  · rintro i v m₁ news₁ s₁ own ⟨hh', tk', rfl⟩ hin ⟨_, t, rfl⟩ hJ hoff hown hget hfp hst F₁ N₁
    have hI0 : h₀.get? s.heap.objs.size = none := next_is_new F
    obtain ⟨oR, hIown⟩ : ∃ oR, (s.heap.objs.size, oR) ∈ own := ⟨_, hfp _ (List.mem_singleton.mpr rfl) hI0 _ hst⟩
    have hsep : OwnOff own (news₁.map (·.1)) := by
      intro p hp b hb e
      obtain ⟨q, hq, rfl⟩ := List.mem_map.mp hb
      exact hoff q hq (e ▸ hown p hp)
    have e1 : a₀ + (i : Int) * 1 = a₀ + (i : Int) := by omega
    rw [e1] at F₁
    have ho : ∀ p ∈ own, p = (s.heap.objs.size, oR) := fun p hp => by
      have h1 := List.mem_singleton.mp (hown p hp)
      have h2 := (N₁ p (List.mem_append_left _ hp)).1
      have h3 := (N₁ _ (List.mem_append_left _ hIown)).1
      rw [h1] at h2
      have h4 := Option.some.inj (h2.symm.trans h3)
      exact Prod.ext h1 h4
    refine wpAny_mono (turn i t m₁ news₁ hh' tk' s.heap.objs.size oR hin (fun p hp => Heap.lt_size (N p hp).1) (fun p hp e => hsep _ hIown p.1 (List.mem_map.mpr ⟨p, hp, rfl⟩) e.symm) hJ F₁ (fun p hp => ?_)) (fun f s₂ p => ?_) fun _ _ e => e
    · rcases List.mem_cons.mp hp with rfl | hp
      · exact N₁ _ (List.mem_append_left _ hIown)
      · exact N₁ _ (List.mem_append_right _ hp)
    have p' := own_oneP ho p
    have fin : InvEndG h₀ env.locals (J (i + 1)) own { s with heap := hh', toks := tk' } s₂ → LoopStepU h₀ env.locals [s.heap.objs.size] own (J (i + 1)) { s with heap := hh', toks := tk' } .next s₂ := by
      rintro ⟨h', tk, m', news', nx, e, F', N', hn, ho, ha, hm⟩
      refine ⟨rfl, h', tk, m', nx, e, F', fun p hp => N' p ((List.mem_append.mp hp).elim (ho p) (hn p)), fun p hp hq => ?_, hm⟩
      exact ha _ hIown p.1 (List.mem_map.mpr ⟨p, hp, rfl⟩) (List.mem_singleton.mp hq).symm
    cases f with
    | ret v => exact .ret p'
    | brk => exact .brk p'
    | next => exact .next (fin p')
    | cont => exact .cont (fin p')
  · rintro h' tk m' news' F' N' _ hJ
    exact done m' news' h' tk hJ F' N'
end
section
variable {M : Model} {A : Around} {E : Value → Shared → Prop} {s : Shared} {Q : Value → Shared → Prop}
/-- an IfExp whose branches are ints, met once its test is known -/
theorem ite_ints {b : Bool} {e1 e2 : Sem Value} {x y : Int} {tk : Nat} {t1 t2 : Tok} (h1 : ∀ Q : Value → Shared → Prop, (Q (.int x t1) { s with toks := tk }) → wpAny M A e1 Q E s) (h2 : ∀ Q : Value → Shared → Prop, (Q (.int y t2) { s with toks := tk }) → wpAny M A e2 Q E s)
    (h : ∀ v t, v = (if b = true then x else y) → Q (.int v t) { s with toks := tk }) : if b = true then wpAny M A e1 Q E s else wpAny M A e2 Q E s := by
  cases b with
  | true => exact h1 _ (h _ _ rfl)
  | false => exact h2 _ (h _ _ rfl)
end
section
variable {prog : Program} {w : World} {A : Around} {E : Value → Shared → Prop} {s : Shared} {h₀ : Heap} {L : Addr} {news : List (Addr × Obj)} {Q : Value → Shared → Prop}
theorem pair_same (ys zs : List Int) : PySem.Spec.same (.tuple [.list [], .list (ys.map PyData.int)]) (.tuple [.list [], .list (zs.map PyData.int)]) = decide (ys = zs) := by
  simp [PySem.Spec.same, PySem.Spec.sameAll, ke_sameAll]
theorem pair_shaped (ys : List Int) : SeqAt.shaped (.tuple [.list [], .list (ys.map PyData.int)]) = true := by
  simp [SeqAt.shaped, PyData.canLay0, PyData.canLayAll0, PyData.depth, PyData.depthAll, ke_canLayAll0, ke_depthAll]
theorem pair_has (ys : List Int) : (PySem.Spec.Shape.tuple [.list .int, .list .int]).has (.tuple [.list [], .list (ys.map PyData.int)]) = true := by
  have h : (PySem.Spec.Shape.list .int).has (.list (ys.map PyData.int)) = true := list_map_has fun _ => rfl
  have h0 : (PySem.Spec.Shape.list .int).has (.list []) = true := by simp [PySem.Spec.Shape.has]
  unfold PySem.Spec.Shape.has PySem.Spec.Shape.hasAll PySem.Spec.Shape.hasAll PySem.Spec.Shape.hasAll
  dsimp only
  rw [h, h0]; rfl
theorem ne_pair {T1 T2 a1 a2 b1 b2 : Addr} {o1 o2 : Obj} {k1 k2 m1 m2 n1 n2 : Nat} {us vs : List Value} {ys zs : List Int} (N : News h₀ L s.heap news)
    (h1 : (T1, o1) ∈ news) (c1 : o1.cls = .type "tuple") (d1 : o1.data = .seq #[.ref a1, .ref b1] k1) (ha1 : (a1, listOf #[] m1) ∈ news) (hb1 : (b1, listOf us.toArray n1) ∈ news)
    (h2 : (T2, o2) ∈ news) (c2 : o2.cls = .type "tuple") (d2 : o2.data = .seq #[.ref a2, .ref b2] k2) (ha2 : (a2, listOf #[] m2) ∈ news) (hb2 : (b2, listOf vs.toArray n2) ∈ news)
    (hi : IntsAre us ys) (hj : IntsAre vs zs) (hu : A.units + 64 < cLine) (h : Q (.bool (!decide (ys = zs))) s) :
    wpAny (model prog w) A (compareOp .NotEq (.ref T1) (.ref T2)) Q E s :=
  ne_dataH_same (reads_tuple_at (N _ h1).1 c1 d1 (.cons (reads_list_at (N _ ha1).1 rfl rfl .nil) (.cons (reads_list_at (N _ hb1).1 rfl rfl ((ke_carried hi).reads _)) .nil)))
    (reads_tuple_at (N _ h2).1 c2 d2 (.cons (reads_list_at (N _ ha2).1 rfl rfl .nil) (.cons (reads_list_at (N _ hb2).1 rfl rfl ((ke_carried hj).reads _)) .nil)))
    (pair_shaped _) (pair_shaped _) hu (SeqAt.noMix_of_shape (.tuple [.list .int, .list .int]) rfl _ _ (pair_has _) (pair_has _)) (by rw [pair_same]; exact h)
theorem kr_ne {a b : Addr} {us vs : List Value} {n1 n2 : Nat} {ys zs : List Int} (N : News h₀ L s.heap news) (ha : (a, listOf us.toArray n1) ∈ news) (hb : (b, listOf vs.toArray n2) ∈ news)
    (hi : IntsAre us ys) (hj : IntsAre vs zs) (hu : A.units + 64 < cLine) (h : Q (.bool (!decide (ys = zs))) s) :
    wpAny (model prog w) A (compareOp .NotEq (.ref a) (.ref b)) Q E s := ke_ne_ints (News.isList N ha) (News.isList N hb) hi hj hu h
theorem kr_eq {a b : Addr} {us vs : List Value} {n1 n2 : Nat} {ys zs : List Int} (N : News h₀ L s.heap news) (ha : (a, listOf us.toArray n1) ∈ news) (hb : (b, listOf vs.toArray n2) ∈ news)
    (hi : IntsAre us ys) (hj : IntsAre vs zs) (hu : A.units + 64 < cLine) (h : Q (.bool (decide (ys = zs))) s) :
    wpAny (model prog w) A (compareOp .Eq (.ref a) (.ref b)) Q E s := ke_eq_ints (News.isList N ha) (News.isList N hb) hi hj hu h
end
end
section
section
variable {prog : Program} {w : World} {A : Around} {s : Shared} {h₀ : Heap} {L : Addr} {m : Str → Option Value} {env : Env} {elt ct : Expr} {x : Str} {scope : Scope} {cl : List (Str × Addr)} {S : List (Addr × Obj) → Prop} {P : Nat → Value → Prop} {Fin : List Value → List (Addr × Obj) → Prop}
theorem compEnd_mono {s₁ : Shared} {I C D : Addr} {oI oC oD : Obj} {r1 r2 : Value → List (Addr × Obj) → Prop} {y : Value} {s₂ : Shared} (h : LCg.CompEnd h₀ L m s₁ I oI C oC D oD S r1 y s₂) (hr : ∀ nw, r1 y nw → r2 y nw) : LCg.CompEnd h₀ L m s₁ I oI C oC D oD S r2 y s₂ := by
  obtain ⟨h', tk, nw, e, F, N, o, hS, r⟩ := h
  exact ⟨h', tk, nw, e, F, N, o, hS, hr nw r⟩
/-- a list comprehension by an invariant over its turns -/
theorem compRest_inv (Inv : Nat → List Value → List (Addr × Obj) → Prop) {n : Nat}
    (turn : ∀ i ys nw v I oI C oC D m₂ h tk (E' : Value → Shared → Prop), i < n → Inv i ys nw → P i v → LCg.NsObj oC m₂ → m₂ x = some v → Fr h₀ L h m → News h₀ L h ((I, oI) :: (C, oC) :: (D, LCg.lst ys) :: nw) → LCg.Off3 I C D nw → ((@Ne Nat I C) ∧ (@Ne Nat I D) ∧ (@Ne Nat C D)) →
      wpAny (model prog w) A (eval elt (compEnvC scope cl C env)) (LCg.CompEnd h₀ L m { s with heap := h, toks := tk } I oI C oC D (LCg.lst ys) S (fun y nw' => Inv (i + 1) (ys ++ [y]) nw')) E' { s with heap := h, toks := tk })
    (fin : ∀ ys nw, Inv n ys nw → Fin ys nw) : ∀ (k i : Nat) (ys : List Value) (nw : List (Addr × Obj)), i + k = n → Inv i ys nw → LCg.CompRest prog w A h₀ L m env elt x scope cl s S P Fin k i ys nw
  | 0, i, ys, nw, e, h => LCg.CompRest.zero (fin ys nw (by rw [← e, Nat.add_zero]; exact h))
  | k + 1, i, ys, nw, e, h => LCg.CompRest.succ fun v I oI C oC D m₂ hp tk E' hP hC hx F N off ne =>
    wpAny_mono (turn i ys nw v I oI C oC D m₂ hp tk E' (by omega) h hP hC hx F N off ne) (fun y s₂ q => compEnd_mono q fun nw' r => compRest_inv Inv turn fin k (i + 1) (ys ++ [y]) nw' (by omega) r) fun _ _ e => e
theorem compRestT_inv (Inv : Nat → List Value → List (Addr × Obj) → Prop) {n : Nat}
    (turn : ∀ i ys nw v I oI C oC D m₂ h tk (E' : Value → Shared → Prop), i < n → Inv i ys nw → P i v → LCg.NsObj oC m₂ → m₂ x = some v → Fr h₀ L h m → News h₀ L h ((I, oI) :: (C, oC) :: (D, LCg.lst ys) :: nw) → LCg.Off3 I C D nw → ((@Ne Nat I C) ∧ (@Ne Nat I D) ∧ (@Ne Nat C D)) →
      wpAny (model prog w) A (isTrue ct (compEnvC scope cl C env) (eval ct (compEnvC scope cl C env))) (fun ok s' => if ok = true then
        wpAny (model prog w) A (eval elt (compEnvC scope cl C env)) (LCg.CompEnd h₀ L m { s with heap := h, toks := tk } I oI C oC D (LCg.lst ys) S (fun y nw' => Inv (i + 1) (ys ++ [y]) nw')) E' s'
        else LCg.CompEnd h₀ L m { s with heap := h, toks := tk } I oI C oC D (LCg.lst ys) S (fun _ nw' => Inv (i + 1) ys nw') Value.none s') E' { s with heap := h, toks := tk })
    (fin : ∀ ys nw, Inv n ys nw → Fin ys nw) : ∀ (k i : Nat) (ys : List Value) (nw : List (Addr × Obj)), i + k = n → Inv i ys nw → LCt.CompRestT prog w A h₀ L m env ct elt x scope cl s S P Fin k i ys nw
  | 0, i, ys, nw, e, h => LCt.CompRestT.zero (fin ys nw (by rw [← e, Nat.add_zero]; exact h))
  | k + 1, i, ys, nw, e, h => LCt.CompRestT.succ fun v I oI C oC D m₂ hp tk E' hP hC hx F N off ne =>
    wpAny_mono (turn i ys nw v I oI C oC D m₂ hp tk E' (by omega) h hP hC hx F N off ne) (fun ok s₂ q => by
      cases ok with
      | true => exact wpAny_mono q (fun y s₃ q => compEnd_mono q fun nw' r => compRestT_inv Inv turn fin k (i + 1) (ys ++ [y]) nw' (by omega) r) fun _ _ e => e
      | false =>
        simp only [Bool.false_eq_true, if_false] at q ⊢
        exact compEnd_mono q fun nw' r => compRestT_inv Inv turn fin k (i + 1) ys nw' (by omega) r) fun _ _ e => e
end
section
variable {prog : Program} {w : World} {A : Around} {E : Value → Shared → Prop} {s : Shared} {h₀ : Heap} {L D : Addr} {news : List (Addr × Obj)} {n : Nat} {Q : Value → Shared → Prop}
/-- an item of a list in the ledger, whatever it is -/
theorem kr_at {value slice : Expr} {vs : List Value} {v : Value} {k : Int} {u : Tok} (N : News h₀ L s.heap news) (hm : (D, listOf vs.toArray n) ∈ news) (h0 : 0 ≤ k) (h1 : k < 1000) (hx : vs[k.toNat]? = some v) (h : Q v s)
    (hs : subscripted slice false (.ref D) (.int k u) = operate [.ref D, .int k u] (getItem (.ref D) (.int k u)) := by with_unfolding_all rfl) (hg : ∀ r, letTemporaryGo value (.ref D) r = pure () := by intro _; with_unfolding_all rfl) :
    wpAny (model prog w) A (subscriptTail value slice (.ref D) (.int k u)) Q E s :=
  item_list (News.isList N hm) h0 (by omega) (by simpa using hx) h hs hg
theorem fam3 {s0 s1 s2 : Addr} {v0 v1 v2 : List Value} {n0 n1 n2 : Nat} {l : List Int} (h0 : IntsAre v0 (l.take 1)) (h1 : IntsAre v1 (l.take 2)) (h2 : IntsAre v2 (l.take 3)) {k : Nat} (hk : k < 3) :
    ∃ a v n, [Value.ref s0, .ref s1, .ref s2][k]? = some (.ref a) ∧ (a, listOf v.toArray n) ∈ [(s0, listOf v0.toArray n0), (s1, listOf v1.toArray n1), (s2, listOf v2.toArray n2)] ∧ IntsAre v (l.take (k + 1)) := by
  match k, hk with
  | 0, _ => exact ⟨_, _, _, rfl, .head _, h0⟩
  | 1, _ => exact ⟨_, _, _, rfl, .tail _ (.head _), h1⟩
  | 2, _ => exact ⟨_, _, _, rfl, .tail _ (.tail _ (.head _)), h2⟩
theorem IntsAre.snoc {us : List Value} {l : List Int} (h : IntsAre us l) (x : Int) (t : Tok) : IntsAre (us ++ [.int x t]) (l ++ [x]) := h.append (.cons _ _ .nil)
end
end
section

theorem bw_or (k : Nat) : ∀ x y : Int, 0 ≤ y → y < 2 ^ k → Builtin.bitAnd (x * 2 ^ k) y = 0 := by
  induction k with
  | zero =>
    intro x y h0 h1
    have : y = 0 := by
      have : (2 : Int) ^ 0 = 1 := rfl
      omega
    subst this
    have := bitAnd_range (x * 2 ^ 0) (y := 0) (by decide)
    omega
  | succ k ih =>
    intro x y h0 h1
    rw [kbt_halves]
    have e : x * 2 ^ (k + 1) = 2 * (x * 2 ^ k) := by
      rw [Int.pow_succ, ← Int.mul_assoc, Int.mul_comm]
    have e2 : (2 : Int) ^ (k + 1) = 2 * 2 ^ k := by
      rw [Int.pow_succ, Int.mul_comm]
    rw [e, Int.mul_ediv_cancel_left _ (by decide), ih x (y / 2) (by omega) (by omega), if_neg (by omega)]
    rfl
theorem bw_step {lc b : Int} (h0 : 0 ≤ b) (h1 : b < 256) : Builtin.bitAnd (Builtin.bitOr (lc * 2 ^ Int.toNat 8) b) 65535 = (lc * 256 + b) % 65536 := by
  have e : (2 : Int) ^ Int.toNat 8 = 256 := rfl
  rw [bitAnd_m16, bitOr_and, bw_or (Int.toNat 8) lc b h0 (by rw [e]; exact h1), e]
  simp
theorem bw63 (x : Int) : 0 ≤ Builtin.bitAnd x 63 ∧ Builtin.bitAnd x 63 < 64 := by
  rw [bitAnd_m6]
  omega
theorem bw3 (x : Int) : 0 ≤ Builtin.bitAnd x 3 * 2 ^ Int.toNat 4 ∧ Builtin.bitAnd x 3 * 2 ^ Int.toNat 4 < 64 := by
  rw [bitAnd_m2, show (2 : Int) ^ Int.toNat 4 = 16 from rfl]
  omega
theorem bw15 (x : Int) : 0 ≤ Builtin.bitAnd x 15 * 2 ^ Int.toNat 2 ∧ Builtin.bitAnd x 15 * 2 ^ Int.toNat 2 < 64 := by
  rw [bitAnd_m4, show (2 : Int) ^ Int.toNat 2 = 4 from rfl]
  omega
theorem bw_e3 (x : Int) : Builtin.bitAnd x 3 * 2 ^ Int.toNat 4 = x % 4 * 16 := by
  rw [bitAnd_m2, show (2 : Int) ^ Int.toNat 4 = 16 from rfl]
theorem bw_e15 (x : Int) : Builtin.bitAnd x 15 * 2 ^ Int.toNat 2 = x % 16 * 4 := by
  rw [bitAnd_m4, show (2 : Int) ^ Int.toNat 2 = 4 from rfl]
theorem bw_0 (x : Int) : Builtin.bitAnd (x.fdiv (2 ^ (0 + 8 - 6 : Int).toNat)) 63 = x / 4 % 64 := by
  rw [bitAnd_m6, show (2 : Int) ^ (0 + 8 - 6 : Int).toNat = 4 from rfl, Int.fdiv_eq_ediv_of_nonneg _ (by decide)]
theorem bw_2 (x : Int) : Builtin.bitAnd (x.fdiv (2 ^ (2 + 8 - 6 : Int).toNat)) 63 = x / 16 % 64 := by
  rw [bitAnd_m6, show (2 : Int) ^ (2 + 8 - 6 : Int).toNat = 16 from rfl, Int.fdiv_eq_ediv_of_nonneg _ (by decide)]
theorem bw_4 (x : Int) : Builtin.bitAnd (x.fdiv (2 ^ (4 + 8 - 6 : Int).toNat)) 63 = x / 64 % 64 := by
  rw [bitAnd_m6, show (2 : Int) ^ (4 + 8 - 6 : Int).toNat = 64 from rfl, Int.fdiv_eq_ediv_of_nonneg _ (by decide)]
theorem bw_4b (x : Int) : Builtin.bitAnd (x.fdiv (2 ^ (4 + 8 - 6 - 6 : Int).toNat)) 63 = x % 64 := by
  rw [bitAnd_m6, show (2 : Int) ^ (4 + 8 - 6 - 6 : Int).toNat = 1 from rfl, Int.fdiv_eq_ediv_of_nonneg _ (by decide), Int.ediv_one]
/-- the sixty-four signs -/
abbrev tb64 : List UInt8 := [65, 66, 67, 68, 69, 70, 71, 72, 73, 74, 75, 76, 77, 78, 79, 80, 81, 82, 83, 84, 85, 86, 87, 88, 89, 90, 97, 98, 99, 100, 101, 102, 103, 104, 105, 106, 107, 108, 109, 110, 111, 112, 113, 114, 115, 116, 117, 118, 119, 120, 121, 122, 48, 49, 50, 51, 52, 53, 54, 55, 56, 57, 43, 47]
def tbI (i : Int) : Int := ((tb64.getD i.toNat 0).toNat : Int)
theorem tb_item {prog : Program} {w : World} {A : Around} {E : Value → Shared → Prop} {s : Shared} {value slice : Expr} {t : Tok} {Q : Value → Shared → Prop} {i : Int} {ui : Tok} (h0 : 0 ≤ i) (h1 : i < 64) (h : Q (.int (tbI i) s.toks) { s with toks := s.toks + 1 })
    (hs : subscripted slice false (.bytes tb64.toArray t) (.int i ui) = operate [.bytes tb64.toArray t, .int i ui] (getItem (.bytes tb64.toArray t) (.int i ui)) := by with_unfolding_all rfl)
    (ht : ∀ r, letTemporaryGo value (.bytes tb64.toArray t) r = pure () := by intro _; with_unfolding_all rfl) :
    wpAny (model prog w) A (subscriptTail value slice (.bytes tb64.toArray t) (.int i ui)) Q E s :=
  KBy.item_N (x := tb64) (by decide) h0 (by exact h1) h hs ht
theorem tbI_range (i : Int) : 0 ≤ tbI i ∧ tbI i < 256 := by
  unfold tbI
  have := (tb64.getD i.toNat 0).toNat_lt
  omega
theorem bw_s3 (x : Int) : (Builtin.bitAnd x 3).natAbs < 2 ^ 64 := by
  rw [bitAnd_m2]
  omega
theorem bw_s15 (x : Int) : (Builtin.bitAnd x 15).natAbs < 2 ^ 64 := by
  rw [bitAnd_m4]
  omega
end
section
def bstep (st : List Int × Int × Int) (b : Int) : List Int × Int × Int :=
  let lc := (st.2.2 * 256 + b) % 65536
  if st.2.1 = 0 then (st.1 ++ [tbI (lc / 4 % 64)], 2, lc)
  else if st.2.1 = 2 then (st.1 ++ [tbI (lc / 16 % 64)], 4, lc)
  else (st.1 ++ [tbI (lc / 64 % 64), tbI (lc % 64)], 0, lc)
def b64st (pre : List Int) : List Int × Int × Int := pre.foldl bstep ([], 0, 0)
def B64Ok (st : List Int × Int × Int) (i : Nat) : Prop := (st.2.1 = 0 ∨ st.2.1 = 2 ∨ st.2.1 = 4) ∧ 0 ≤ st.2.2 ∧ st.2.2 < 65536 ∧ st.1.length ≤ 2 * i
theorem bstep_ok {st : List Int × Int × Int} {b : Int} {i : Nat} (h : B64Ok st i) : B64Ok (bstep st b) (i + 1) := by
  obtain ⟨h1, h2, h3, h4⟩ := h
  have e1 : 0 ≤ (st.2.2 * 256 + b) % 65536 := Int.emod_nonneg _ (by decide)
  have e2 : (st.2.2 * 256 + b) % 65536 < 65536 := Int.emod_lt_of_pos _ (by decide)
  unfold bstep
  dsimp only
  split
  · exact ⟨.inr (.inl rfl), e1, e2, by simp only [List.length_append, List.length_cons, List.length_nil]; omega⟩
  · split
    · exact ⟨.inr (.inr rfl), e1, e2, by simp only [List.length_append, List.length_cons, List.length_nil]; omega⟩
    · exact ⟨.inl rfl, e1, e2, by simp only [List.length_append, List.length_cons, List.length_nil]; omega⟩
theorem b64st_ok (pre : List Int) : B64Ok (b64st pre) pre.length := by
  have : ∀ (l : List Int) (st : List Int × Int × Int) (i : Nat), B64Ok st i → B64Ok (l.foldl bstep st) (i + l.length) := by
    intro l
    induction l with
    | nil => intro st i h; exact h
    | cons b r ih =>
      intro st i h
      have := ih (bstep st b) (i + 1) (bstep_ok h)
      rw [List.foldl_cons, List.length_cons]
      rw [show i + (r.length + 1) = i + 1 + r.length by omega]
      exact this
  have h := this pre ([], 0, 0) 0 ⟨.inl rfl, by decide, by decide, Nat.le_refl _⟩
  rw [Nat.zero_add] at h
  exact h
def b64pad (st : List Int × Int × Int) : List Int :=
  if st.2.1 = 2 then st.1 ++ [tbI (st.2.2 % 4 * 16), 61, 61]
  else if st.2.1 = 4 then st.1 ++ [tbI (st.2.2 % 16 * 4), 61]
  else st.1
/-- what b64encode answers -/
def b64 (ns : List Int) : List Int := b64pad (b64st ns)
theorem b64_in (ns : List Int) : ∀ n ∈ b64 ns, 0 ≤ n ∧ n < 256 := by
  have step : ∀ st b, (∀ n ∈ st.1, 0 ≤ n ∧ n < 256) → ∀ n ∈ (bstep st b).1, 0 ≤ n ∧ n < 256 := by
    intro st b h n hn
    unfold bstep at hn
    dsimp only at hn
    split at hn
    · rcases List.mem_append.mp hn with hn | hn
      · exact h n hn
      · rw [List.mem_singleton.mp hn]; exact tbI_range _
    · split at hn
      · rcases List.mem_append.mp hn with hn | hn
        · exact h n hn
        · rw [List.mem_singleton.mp hn]; exact tbI_range _
      · rcases List.mem_append.mp hn with hn | hn
        · exact h n hn
        · rcases List.mem_cons.mp hn with hn | hn
          · rw [hn]; exact tbI_range _
          · rw [List.mem_singleton.mp hn]; exact tbI_range _
  have all : ∀ (l : List Int) (st : List Int × Int × Int), (∀ n ∈ st.1, 0 ≤ n ∧ n < 256) → ∀ n ∈ (l.foldl bstep st).1, 0 ≤ n ∧ n < 256 := by
    intro l
    induction l with
    | nil => intro st h; exact h
    | cons b r ih => intro st h; exact ih _ (step st b h)
  have h0 := all ns ([], 0, 0) (by simp)
  intro n hn
  unfold b64 b64pad at hn
  split at hn
  · rcases List.mem_append.mp hn with hn | hn
    · exact h0 n hn
    · rcases List.mem_cons.mp hn with hn | hn
      · rw [hn]; exact tbI_range _
      · have : n = 61 := by simpa using hn
        omega
  · split at hn
    · rcases List.mem_append.mp hn with hn | hn
      · exact h0 n hn
      · rcases List.mem_cons.mp hn with hn | hn
        · rw [hn]; exact tbI_range _
        · have : n = 61 := by simpa using hn
          omega
    · exact h0 n hn
theorem b64_len (ns : List Int) : (b64 ns).length ≤ 2 * ns.length + 3 := by
  have h := (b64st_ok ns).2.2.2
  unfold b64 b64pad
  split
  · simp only [List.length_append, List.length_cons, List.length_nil]; omega
  · split
    · simp only [List.length_append, List.length_cons, List.length_nil]; omega
    · omega

def four (x y z : Int) : List Int := [tbI (x / 4), tbI (x % 4 * 16 + y / 16), tbI (y % 16 * 4 + z / 64), tbI (z % 64)]
def wr4 : List Int → List Int
  | x :: y :: z :: r => four x y z ++ wr4 r
  | _ => []
def lk (n : Nat) : Nat := ((-(n : Int)).fmod 3).toNat
def filled (xs : List Int) : List Int := xs ++ List.replicate (lk xs.length) 0
/-- what _law_written answers -/
def wr (xs : List Int) : List Int := (wr4 (filled xs)).take ((wr4 (filled xs)).length - lk xs.length) ++ List.replicate (lk xs.length) 61
theorem lk_eq (n : Nat) : lk n = ((-(n : Int)) % 3).toNat := by
  unfold lk
  rw [Int.fmod_eq_emod_of_nonneg _ (by decide)]
theorem lk_3 (n : Nat) : lk (n + 1 + 1 + 1) = lk n := by
  rw [lk_eq, lk_eq]
  omega
theorem lk_le (n : Nat) : lk n ≤ 2 := by
  rw [lk_eq]
  omega
theorem wr4_len (r : List Int) : lk r.length ≤ (wr4 (filled r)).length := by
  match r with
  | [] => decide
  | [x] => exact Nat.le_of_ble_eq_true rfl
  | [x, y] => exact Nat.le_of_ble_eq_true rfl
  | x :: y :: z :: r =>
    have := lk_le (x :: y :: z :: r).length
    show _ ≤ (four x y z ++ wr4 _).length
    rw [List.length_append, show (four x y z).length = 4 from rfl]
    omega
theorem wr_cons (x y z : Int) (r : List Int) : wr (x :: y :: z :: r) = four x y z ++ wr r := by
  have h := wr4_len r
  unfold wr
  have e1 : lk (x :: y :: z :: r).length = lk r.length := lk_3 r.length
  have e2 : filled (x :: y :: z :: r) = x :: y :: z :: filled r := by
    unfold filled
    rw [e1]
    rfl
  rw [e1, e2]
  show (four x y z ++ wr4 (filled r)).take ((four x y z ++ wr4 (filled r)).length - _) ++ _ = _
  rw [List.length_append, show (four x y z).length = 4 from rfl, show 4 + (wr4 (filled r)).length - lk r.length = (four x y z).length + ((wr4 (filled r)).length - lk r.length) by rw [show (four x y z).length = 4 from rfl]; omega, List.take_length_add_append, List.append_assoc]
theorem four_b (x y z lc : Int) (hx : 0 ≤ x ∧ x < 256) (hy : 0 ≤ y ∧ y < 256) (hz : 0 ≤ z ∧ z < 256) (out : List Int) : ∃ lc', bstep (bstep (bstep (out, 0, lc) x) y) z = (out ++ four x y z, 0, lc') := by
  refine ⟨((((lc * 256 + x) % 65536) * 256 + y) % 65536 * 256 + z) % 65536, ?_⟩
  have e1 : (lc * 256 + x) % 65536 / 4 % 64 = x / 4 := by omega
  have e2 : ((lc * 256 + x) % 65536 * 256 + y) % 65536 / 16 % 64 = x % 4 * 16 + y / 16 := by omega
  have e3 : (((lc * 256 + x) % 65536 * 256 + y) % 65536 * 256 + z) % 65536 / 64 % 64 = y % 16 * 4 + z / 64 := by omega
  have e4 : (((lc * 256 + x) % 65536 * 256 + y) % 65536 * 256 + z) % 65536 % 64 = z % 64 := by omega
  have s1 : bstep (out, 0, lc) x = (out ++ [tbI (x / 4)], 2, (lc * 256 + x) % 65536) := by
    show (out ++ [tbI ((lc * 256 + x) % 65536 / 4 % 64)], _, _) = _
    rw [e1]
  have s2 : bstep (out ++ [tbI (x / 4)], 2, (lc * 256 + x) % 65536) y = (out ++ [tbI (x / 4)] ++ [tbI (x % 4 * 16 + y / 16)], 4, ((lc * 256 + x) % 65536 * 256 + y) % 65536) := by
    show (_ ++ [tbI (((lc * 256 + x) % 65536 * 256 + y) % 65536 / 16 % 64)], _, _) = _
    rw [e2]
  rw [s1, s2]
  show (_ ++ [tbI ((((lc * 256 + x) % 65536 * 256 + y) % 65536 * 256 + z) % 65536 / 64 % 64), tbI ((((lc * 256 + x) % 65536 * 256 + y) % 65536 * 256 + z) % 65536 % 64)], _, _) = _
  rw [e3, e4]
  simp only [four, List.append_assoc, List.cons_append, List.nil_append]
  try rfl
theorem b64_from : ∀ (xs : List Int) (out : List Int) (lc : Int), (∀ n ∈ xs, 0 ≤ n ∧ n < 256) → b64pad (xs.foldl bstep (out, 0, lc)) = out ++ wr xs
  | [], out, lc, _ => by
    show out = out ++ []
    rw [List.append_nil]
  | [x], out, lc, h => by
    have hx := h x (by simp)
    have e1 : (lc * 256 + x) % 65536 / 4 % 64 = x / 4 := by omega
    have e2 : (lc * 256 + x) % 65536 % 4 * 16 = x % 4 * 16 + 0 / 16 := by omega
    show (out ++ [tbI ((lc * 256 + x) % 65536 / 4 % 64)]) ++ [tbI ((lc * 256 + x) % 65536 % 4 * 16), 61, 61] = out ++ [tbI (x / 4), tbI (x % 4 * 16 + 0 / 16), 61, 61]
    rw [e1, e2, List.append_assoc]
    rfl
  | [x, y], out, lc, h => by
    have hx := h x (by simp)
    have hy := h y (by simp)
    have e1 : (lc * 256 + x) % 65536 / 4 % 64 = x / 4 := by omega
    have e2 : ((lc * 256 + x) % 65536 * 256 + y) % 65536 / 16 % 64 = x % 4 * 16 + y / 16 := by omega
    have e3 : ((lc * 256 + x) % 65536 * 256 + y) % 65536 % 16 * 4 = y % 16 * 4 + 0 / 64 := by omega
    show ((out ++ [tbI ((lc * 256 + x) % 65536 / 4 % 64)]) ++ [tbI (((lc * 256 + x) % 65536 * 256 + y) % 65536 / 16 % 64)]) ++ [tbI (((lc * 256 + x) % 65536 * 256 + y) % 65536 % 16 * 4), 61] = out ++ [tbI (x / 4), tbI (x % 4 * 16 + y / 16), tbI (y % 16 * 4 + 0 / 64), 61]
    rw [e1, e2, e3, List.append_assoc, List.append_assoc]
    rfl
  | x :: y :: z :: r, out, lc, h => by
    obtain ⟨lc', e⟩ := four_b x y z lc (h x (by simp)) (h y (by simp)) (h z (by simp)) out
    rw [List.foldl_cons, List.foldl_cons, List.foldl_cons, e, b64_from r _ lc' (fun n hn => h n (by simp [hn])), wr_cons, List.append_assoc]
/-- the one law of the code: both writings agree -/
theorem b64_wr (xs : List Int) (h : ∀ n ∈ xs, 0 ≤ n ∧ n < 256) : b64 xs = wr xs := by
  have := b64_from xs [] 0 h
  rw [List.nil_append] at this
  exact this
theorem wr4_app : ∀ (i : Nat) (p : List Int) (x y z : Int), p.length = 3 * i → wr4 (p ++ [x, y, z]) = wr4 p ++ four x y z
  | 0, p, x, y, z, h => by
    have e : p = [] := List.eq_nil_of_length_eq_zero (by omega)
    subst e
    show four x y z ++ wr4 [] = [] ++ four x y z
    rw [List.nil_append]
    exact List.append_nil _
  | i + 1, a :: b :: c :: p, x, y, z, h => by
    show four a b c ++ wr4 (p ++ [x, y, z]) = (four a b c ++ wr4 p) ++ four x y z
    rw [wr4_app i p x y z (by simp only [List.length_cons] at h; omega), List.append_assoc]
  | i + 1, [], x, y, z, h => by simp at h
  | i + 1, [a], x, y, z, h => by simp at h; omega
  | i + 1, [a, b], x, y, z, h => by simp at h; omega
theorem filled_len (xs : List Int) : ∃ m, (filled xs).length = 3 * m ∧ 3 * m < xs.length + 3 := by
  refine ⟨(xs.length + 2) / 3, ?_⟩
  unfold filled
  rw [List.length_append, List.length_replicate, lk_eq]
  omega
theorem wr4_length : ∀ (m : Nat) (p : List Int), p.length = 3 * m → (wr4 p).length = 4 * m
  | 0, p, h => by
    have e : p = [] := List.eq_nil_of_length_eq_zero (by omega)
    subst e
    rfl
  | m + 1, a :: b :: c :: p, h => by
    show (four a b c ++ wr4 p).length = _
    rw [List.length_append, wr4_length m p (by simp only [List.length_cons] at h; omega), show (four a b c).length = 4 from rfl]
    omega
  | m + 1, [], h => by simp at h
  | m + 1, [a], h => by simp at h; omega
  | m + 1, [a, b], h => by simp at h; omega
theorem three {l : List Int} (h : l.length = 3) : ∃ x y z, l = [x, y, z] := by
  match l, h with
  | [x, y, z], _ => exact ⟨x, y, z, rfl⟩
theorem wr_step {xs : List Int} {m i : Nat} (hm : (filled xs).length = 3 * m) (hi : i < m) : ∃ x y z, ((filled xs).drop (3 * i)).take 3 = [x, y, z] ∧ x ∈ filled xs ∧ y ∈ filled xs ∧ z ∈ filled xs ∧ wr4 ((filled xs).take (3 * (i + 1))) = wr4 ((filled xs).take (3 * i)) ++ four x y z := by
  obtain ⟨x, y, z, e⟩ := three (l := ((filled xs).drop (3 * i)).take 3) (by rw [List.length_take, List.length_drop]; omega)
  have hin : ∀ n ∈ [x, y, z], n ∈ filled xs := fun n hn => List.mem_of_mem_drop (List.mem_of_mem_take (e ▸ hn))
  refine ⟨x, y, z, e, hin x (by simp), hin y (by simp), hin z (by simp), ?_⟩
  rw [← wr4_app i _ x y z (by rw [List.length_take]; omega), ← e, show 3 * (i + 1) = 3 * i + 3 by omega, List.take_add]
theorem filled_in {xs : List Int} (h : ∀ n ∈ xs, 0 ≤ n ∧ n < 256) : ∀ n ∈ filled xs, 0 ≤ n ∧ n < 256 := by
  intro n hn
  rcases List.mem_append.mp hn with hn | hn
  · exact h n hn
  · rw [(List.mem_replicate.mp hn).2]
    decide
/-- the law's row of octets -/
def oct (x : Int) : Int := x.fmod 2 + (x.fdiv 2).fmod 2 * 64
def octs (xs : List Int) : List Int := [64, 1, 0] ++ (xs.take 9).map oct
theorem octs_in (xs : List Int) : ∀ n ∈ octs xs, 0 ≤ n ∧ n < 256 := by
  intro n hn
  rcases List.mem_append.mp hn with hn | hn
  · simp only [List.mem_cons, List.not_mem_nil, or_false] at hn
    rcases hn with rfl | rfl | rfl <;> decide
  · obtain ⟨x, _, rfl⟩ := List.mem_map.mp hn
    unfold oct
    rw [Int.fmod_eq_emod_of_nonneg _ (by decide), Int.fmod_eq_emod_of_nonneg _ (by decide), Int.fdiv_eq_ediv_of_nonneg _ (by decide)]
    omega
theorem octs_len (xs : List Int) : (octs xs).length ≤ 12 := by
  unfold octs
  rw [List.length_append, List.length_map, List.length_take, show ([64, 1, 0] : List Int).length = 3 from rfl]
  omega
end
section
local macro_rules | `(tactic| walk_at "mine fill") => `(tactic| ((rename Frag.In _ _ => X); (have hd0 : PySem.Challenge.rw_ik0172_01.name = PySem.Challenge.rw_ik0172_01.name := rfl); revert X hd0; k_fill; intro X hd0; clear hd0))
local macro_rules | `(tactic| walk_at "mine stop") => `(tactic| first | (with_reducible show wpAny _ _ (exec (Stmt.While _ _ _ _) _) _ _ _) | (with_reducible show wpAny _ _ (exec (Stmt.For _ _ _ _ _) _) _ _ _) | (with_reducible show wpAny _ _ (call (.builtin "list.pop") _) _ _ _) | (with_reducible show wpAny _ _ (call (.builtin "list.remove") _) _ _ _))
local macro_rules | `(tactic| walk_at "mine steps") => `(tactic| repeat' ((fail_if_success (walk_at "mine stop")); first | (k_unfold; (try dsimp only)) | walk1 | (dsimp only; walk1) | (leave1; walk_say "STEP leave1"; try dsimp only) | fail "no step"))
local macro_rules | `(tactic| k_all) => `(tactic| assumption)
section
variable {prog : Program} {w : World} {A : Around} {E : Value → Shared → Prop} {Q : Flow → Shared → Prop} {s : Shared} {env : Env} {h₀ : Heap} {L : Addr}

def UldEnd (h₀ : Heap) (L e ac ms : Addr) (keep : List (Addr × Obj)) (ys : List Int) (s : Shared) (k : Nat) (f : Flow) (s₂ : Shared) : Prop :=
  (f = .next) ∧ ∃ xs vs us n1 n2 m' h' tk, s₂ = { s with heap := h', toks := tk } ∧ Fr h₀ L h' m' ∧ m' (Str.ofString "expected") = some (.ref e) ∧ m' (Str.ofString "actual") = some (.ref ac) ∧ m' (Str.ofString "missing") = some (.ref ms) ∧
    News h₀ L h' ((ms, listOf #[] 0) :: (e, listOf vs.toArray n1) :: (ac, listOf us.toArray n2) :: keep) ∧ IntsAre vs xs ∧ IntsAre us (xs ++ ys) ∧ (xs ++ ys).Nodup ∧ (xs ++ ys).length < 1000 ∧ xs.length < k

theorem uld_loop {test : Expr} {body : List Stmt} {pos : Pos} {m : Str → Option Value} {e ac ms : Addr} {keep : List (Addr × Obj)} {vs us : List Value} {n1 n2 : Nat} {xs ys : List Int}
    (F : Fr h₀ L s.heap m) (N : News h₀ L s.heap ((ms, listOf #[] 0) :: (e, listOf vs.toArray n1) :: (ac, listOf us.toArray n2) :: keep))
    (h1 : m (Str.ofString "expected") = some (.ref e)) (h2 : m (Str.ofString "actual") = some (.ref ac)) (h3 : m (Str.ofString "missing") = some (.ref ms))
    (hv : IntsAre vs xs) (hu : IntsAre us (xs ++ ys)) (hnd : (xs ++ ys).Nodup) (hlen : (xs ++ ys).length < 1000)
    (turn : ∀ (xs : List Int) vs us n1 n2 (u : Str → Option Value) h tk, IntsAre vs xs → IntsAre us (xs ++ ys) → (xs ++ ys).Nodup → (xs ++ ys).length < 1000 →
      Fr h₀ L h (fun z => if z = Str.ofString "expected" then some (.ref e) else if z = Str.ofString "actual" then some (.ref ac) else if z = Str.ofString "missing" then some (.ref ms) else u z) →
      News h₀ L h ((ms, listOf #[] 0) :: (e, listOf vs.toArray n1) :: (ac, listOf us.toArray n2) :: keep) →
      wpAny (model prog w) A (isTrue test env (eval test env)) (fun b s₂ =>
        if b = true then wpAny (model prog w) A (execs body env) (UldEnd h₀ L e ac ms keep ys s xs.length) E s₂ else Q .next s₂) E { s with heap := h, toks := tk })
    (hE : PassesOwn (model prog w) A env E) :
    wpAny (model prog w) A (exec (.While test body [] pos) env) Q E s := by
  refine While_inv2 (fun k m' nx => ∃ (xs : List Int) (vs us : List Value) (n1 n2 : Nat), m' (Str.ofString "expected") = some (.ref e) ∧ m' (Str.ofString "actual") = some (.ref ac) ∧ m' (Str.ofString "missing") = some (.ref ms) ∧
    nx = ((ms, listOf #[] 0) :: (e, listOf vs.toArray n1) :: (ac, listOf us.toArray n2) :: keep) ∧ IntsAre vs xs ∧ IntsAre us (xs ++ ys) ∧ (xs ++ ys).Nodup ∧ (xs ++ ys).length < 1000 ∧ xs.length = k) F N ⟨xs, vs, us, n1, n2, h1, h2, h3, rfl, hv, hu, hnd, hlen, rfl⟩ ?_ hE
  rintro k m₁ nx h tk F₁ N₁ ⟨xs, vs, us, n1, n2, e1, e2, e3, rfl, hv, hu, hnd, hlen, rfl⟩
  refine wpAny_mono (turn xs vs us n1 n2 m₁ h tk hv hu hnd hlen ?_ N₁) (fun b s₂ p => ?_) fun _ _ x => x
  · have em : (fun z => if z = Str.ofString "expected" then some (.ref e) else if z = Str.ofString "actual" then some (.ref ac) else if z = Str.ofString "missing" then some (.ref ms) else m₁ z) = m₁ := by
      funext z
      by_cases z1 : z = Str.ofString "expected"
      · rw [if_pos z1, z1, e1]
      · rw [if_neg z1]
        by_cases z2 : z = Str.ofString "actual"
        · rw [if_pos z2, z2, e2]
        · rw [if_neg z2]
          by_cases z3 : z = Str.ofString "missing"
          · rw [if_pos z3, z3, e3]
          · rw [if_neg z3]
    rw [em]; exact F₁
  · cases b with
    | false => simpa using p
    | true =>
      simp only [if_true] at p ⊢
      refine wpAny_mono p (fun f s₃ q => ?_) fun _ _ x => x
      obtain ⟨rfl, xs', vs', us', n1', n2', m', h', tk', rfl, F', e1', e2', e3', N', hv', hu', hnd', hlen', hlt⟩ := q
      exact ⟨h', tk', m', _, _, rfl, F', N', hlt, xs', vs', us', n1', n2', e1', e2', e3', rfl, hv', hu', hnd', hlen', rfl⟩
end

set_option maxRecDepth 100000 in
set_option maxHeartbeats 8000000 in
theorem uld {w : World} {p : Program} {loose : List Str} {mean : ExcName → Option Value} {mg mb : Str → Option Value}
  {dp un : Nat} {gd : Option (List Code)} {cn : Str} {cs : Scope} {a : Addr} {ccd : Value} {cl : List (Str × Addr)} {outer : List Env} {A₀ : Around} {base h₀ : Heap} {L : Addr} {m : Str → Option Value} {s : Shared} {Q E : Value → Shared → Prop}
  {e ac : Addr} {vs us : List Value} {xs ys : List Int} {n1 n2 : Nat} {keep : List (Addr × Obj)}
  (B : Below A₀ base outer h₀) (X : (hd.heap_39 w.params).In h₀) (T : Top p loose mean mg mb h₀) (hk : cs.kind = .function) (hdp : dp + 2 < recursionLimit) (hun : un + 40 < cLine)
  (F : Fr h₀ L s.heap m) (N : News h₀ L s.heap ((e, listOf vs.toArray n1) :: (ac, listOf us.toArray n2) :: keep))
  (hv : IntsAre vs xs) (hu : IntsAre us (xs ++ ys)) (hnd : (xs ++ ys).Nodup) (hea : e ≠ ac) (hke : ∀ q ∈ keep, q.1 ≠ e) (hka : ∀ q ∈ keep, q.1 ≠ ac) (hlen : (xs ++ ys).length < 1000)
  (hQ : ∀ t ms h' tk n1 n2 us', IntsAre us' ys → Fr h₀ L h' m → News h₀ L h' ((t, { cls := .type "tuple", data := .seq #[.ref ms, .ref ac] }) :: (ms, listOf #[] 0) :: (e, listOf #[] n1) :: (ac, listOf us'.toArray n2) :: keep) → (∀ q ∈ keep, q.1 < t) → Q (.ref t) { s with heap := h', toks := tk }) :
  wpAny (model PySem.Challenge.rw_ik0172_01.row.prog w) (ktrTop dp un gd cn cs L a ccd cl outer) (call (.ref 102) [.ref e, .ref ac]) Q E s := by
  walk_at "mine fill"
  replace hea := neN hea
  refine wpAny_call ?_
  k_dflt ktr_enter
  walk_at "mine steps"
  rename Fr _ _ _ _ => F1
  rename News _ _ _ _ => N1
  refine uld_loop F1 N1 (by rfl) (by rfl) (by rfl) hv hu hnd hlen ?_ (by passes_own)
  clear F1 N1 hv hu hnd hlen N
  intro xs vs us n1 n2 u h tk hv hu hnd hlen F1 N1
  have hxl : xs.length < 1000 := by rw [List.length_append] at hlen; omega
  have hul : us.length < 1000 := by rw [hu.length]; exact hlen
  have hvl : vs.length < 1000 := by rw [hv.length]; exact hxl
  walk_at "mine steps"
  · rcases List.eq_nil_or_concat xs with rfl | ⟨l, x, rfl⟩
    · exact absurd ‹0 < ([] : List Int).length› (Nat.lt_irrefl 0)
    · rw [List.concat_eq_append] at *
      rename Fr _ _ _ _ => F2
      rename News _ _ _ _ => N2
      obtain ⟨vs', t, rfl, hv'⟩ := ints_concat hv
      refine kl_pop F2 N2 (p := vs') (y := .int x t) (by simpa using kpa_last (.int x t) vs') (by k_upd) (Nat.le_trans (Nat.le_of_lt hvl) (by decide)) ?_
      clear F2 N2
      intro h' F3 N3
      walk_at "mine steps"
      rw [List.append_assoc] at hu hnd
      have hxl' : x ∉ l := fun hx => by
        have := (List.nodup_append.mp hnd).2.2 x hx x (List.mem_append_left _ (List.mem_singleton.mpr rfl))
        exact this rfl
      obtain ⟨q, hq1, hq2⟩ := ki_delL_of (pre := l) (k := x) (post := ys) (by simpa using hu)
      rename Fr _ _ _ _ => F2
      rename News _ _ _ _ => N2
      refine kf_remove F2 N2 (q := q) (by simpa using kf_ints_of hu) (by simpa using kf_at_of (pre := l) (post := ys) (by simpa using hu) hxl') (by simpa using hq1) (by k_upd) (Nat.le_trans (Nat.le_of_lt hul) (by decide)) ?_
      clear F2 N2
      intro h'' F4 N4
      walk_at "mine steps"
      refine ⟨rfl, l, vs', q, _, _, _, _, _, rfl, F4, by rfl, by rfl, by rfl, N4, hv', hq2, ?_, ?_, ?_⟩
      · exact hnd.sublist ((List.Sublist.refl l).append (List.sublist_append_right [x] ys))
      · simp only [List.length_append, List.length_cons, List.length_nil] at hlen ⊢; omega
      · simp
  · have hx0 : xs = [] := List.eq_nil_of_length_eq_zero (by omega)
    subst hx0
    cases hv
    refine hQ _ _ _ _ _ _ _ hu (by assumption) (by assumption) ?_
    rename (_ < _ ∧ _ < _ ∧ _ < _ ∧ AllLt _ _) => l1
    exact kst_ltOf l1.2.2.2
end
section
local macro_rules | `(tactic| walk_at "mine fill") => `(tactic| ((rename Frag.In _ _ => X); (have hd0 : PySem.Challenge.rw_ik0172_01.name = PySem.Challenge.rw_ik0172_01.name := rfl); revert X hd0; k_fill; intro X hd0; clear hd0))
local macro_rules | `(tactic| walk_at "mine stop") => `(tactic| first | (with_reducible show wpAny _ _ (exec (Stmt.While _ _ _ _) _) _ _ _) | (with_reducible show wpAny _ _ (exec (Stmt.For _ _ _ _ _) _) _ _ _) | (with_reducible show wpAny _ _ (pyIter _) _ _ _) | (with_reducible show wpAny _ _ (call (.builtin "list.pop") _) _ _ _) | (with_reducible show wpAny _ _ (call (.builtin "list.remove") _) _ _ _))
local macro_rules | `(tactic| walk_at "mine steps") => `(tactic| repeat' ((fail_if_success (walk_at "mine stop")); first | (k_unfold; (try dsimp only)) | walk1 | (dsimp only; walk1) | (leave1; walk_say "STEP leave1"; try dsimp only) | fail "no step"))
local macro_rules | `(tactic| k_all) => `(tactic| first | assumption | exact ne_of_lts (by first | assumption | exact tl1 (by assumption) | exact tl1 (tl1 (by assumption)) | exact tl1 (tl1 (tl1 (by assumption))) | exact tl1 (tl1 (tl1 (tl1 (by assumption)))) | exact kst_ltOf (by assumption) | exact kst_ltOf (And.right (by assumption)) | exact kst_ltOf (And.right (And.right (by assumption))) | exact kst_ltOf (And.right (And.right (And.right (by assumption)))) | exact kst_ltOf (And.right (And.right (And.right (And.right (by assumption))))) | exact kst_ltOf (And.right (And.right (And.right (And.right (And.right (by assumption)))))) | exact kst_ltOf (And.right (And.right (And.right (And.right (And.right (And.right (by assumption))))))) | exact kst_ltOf (And.right (And.right (And.right (And.right (And.right (And.right (And.right (by assumption)))))))) | exact kst_ltOf (And.right (And.right (And.right (And.right (And.right (And.right (And.right (And.right (by assumption)))))))))))
local macro_rules | `(tactic| walk_at "call builtin:len") => `(tactic| ((with_reducible show wpAny _ _ (call (Value.builtin "len") [Value.ref _]) _ _ _); k_dflt (refine' kr_len ?N ?m ?i ?z ?_; (case N => k_asm); (case m => k_mem); (case i => assumption); (case z => omega))))
local macro_rules | `(tactic| walk_at "truthy ref") => `(tactic| ((with_reducible show wpAny _ _ (truthy (Value.ref _)) _ _ _); k_dflt (refine' kr_truthy ?N ?m ?i ?z ?_; (case N => k_asm); (case m => k_mem); (case i => assumption); (case z => omega))))
local macro_rules | `(tactic| walk_at "subscriptTail") => `(tactic| ((with_reducible show wpAny _ _ (subscriptTail _ _ (Value.ref _) (Value.int _ _)) _ _ _); k_dflt (refine' kr_item ?N ?m ?i ?z ?a ?b ?_; (case N => k_asm); (case m => k_mem); (case i => assumption); (case z => omega); (case a => omega); (case b => omega); k_whole); intro _))
local macro_rules | `(tactic| walk_at "compareOp In int ref") => `(tactic| ((with_reducible show wpAny _ _ (compareOp CmpOp.In (Value.int _ _) (Value.ref _)) _ _ _); k_dflt (refine' kr_in ?N ?m ?i ?_; (case N => k_asm); (case m => k_mem); (case i => assumption))))
local macro_rules | `(tactic| walk_at "compareOp NotIn int ref") => `(tactic| ((with_reducible show wpAny _ _ (compareOp CmpOp.NotIn (Value.int _ _) (Value.ref _)) _ _ _); k_dflt (refine' kr_notin ?N ?m ?i ?_; (case N => k_asm); (case m => k_mem); (case i => assumption))))
local macro_rules | `(tactic| k_mem) => `(tactic| first | assumption | exact List.mem_append_left _ (by k_mem) | exact List.mem_append_right _ (by k_mem))
local macro_rules | `(tactic| k_memK) => `(tactic| first | assumption | exact List.mem_append_left _ (by k_memK) | exact List.mem_append_right _ (by k_memK))
local macro_rules | `(tactic| walk_at "mine enter") => `(tactic| (refine' code_def ?k1 ?k2 ?k3 ?k4 ?k5 ?kA ?kF ?kK ?k6 ?k7 ?k8 ?k9 ?kB ?_ ?c2 ?c3 ?c4 ?c5; (case kA => exact rfl); (case kF => exact rfl); (case kK => first | assumption | exact rfl); (case k1 => k_asm); (case k2 => k_asm); (case k3 => k_asm); (case k4 => k_asm); (case k5 => k_asm); (case k6 => k_is); (case k7 => k_is); (case k8 => ktr_room); (case k9 => first | exact BindsTo.of_eq rfl | exact binds_K (by k_in) rfl (by k_is) rfl rfl rfl | fail "mine enter: binds"); (case c5 => decide); (case kB => exact locs rfl); (case c2 => exact rfl); (case c3 => exact rfl); (case c4 => exact rfl); k_whole; intro g' L' h' FG' F' N' B' X' T'; (try dsimp only); (try k_fold)))
def latestS (acc : List Int) (x : Int) : List Int := if x ∈ acc then acc else acc ++ [x]
/-- unlike ints of a list, the last first -/
def latest (xs : List Int) : List Int := xs.reverse.foldl latestS []

section
variable {prog : Program} {w : World} {A : Around} {E : Value → Shared → Prop} {s : Shared} {env : Env} {h₀ : Heap} {body : List Stmt} {Q : Flow → Shared → Prop}
theorem lat_step {xs : List Int} {i : Nat} (hi : i < xs.length) : (xs.reverse.take (i + 1)).foldl latestS [] = latestS ((xs.reverse.take i).foldl latestS []) (xs.getD ((xs.length : Int) - 1 - (i : Int)).toNat 0) := by
  have e1 : ((xs.length : Int) - 1 - (i : Int)).toNat = xs.length - 1 - i := by omega
  have e2 : xs.reverse[i]? = some (xs.getD (xs.length - 1 - i) 0) := by
    rw [List.getElem?_reverse hi]
    simp only [List.getD]
    rw [List.getElem?_eq_getElem (by omega)]
    rfl
  rw [e1, List.take_add_one, e2]
  simp
def LatI (r ans : Addr) (keep : List (Addr × Obj)) (xs : List Int) (i : Nat) (m' : Str → Option Value) (nx : List (Addr × Obj)) : Prop :=
  ∃ vs k, m' (Str.ofString "row") = some (.ref r) ∧ m' (Str.ofString "answer") = some (.ref ans) ∧ nx = (ans, listOf vs.toArray k) :: keep ∧ IntsAre vs ((xs.reverse.take i).foldl latestS []) ∧ vs.length ≤ i
theorem lat_end {L r ans : Addr} {keep own : List (Addr × Obj)} {xs : List Int} {i k tk : Nat} {m' : Str → Option Value} {h' : Heap} {s₁ : Shared} {vs : List Value} (F : Fr h₀ L h' m') (N : News h₀ L h' ((ans, listOf vs.toArray k) :: (keep ++ own)))
    (hoff : OwnOff own (ans :: keep.map (·.1))) (e1 : m' (Str.ofString "row") = some (.ref r)) (e2 : m' (Str.ofString "answer") = some (.ref ans)) (hv : IntsAre vs ((xs.reverse.take i).foldl latestS [])) (hl : vs.length ≤ i) :
    InvEndG h₀ L (LatI r ans keep xs i) own s₁ { s₁ with heap := h', toks := tk } := by
  refine InvEndG.intro (nx := (ans, listOf vs.toArray k) :: keep) F N ⟨vs, k, e1, e2, rfl, hv, hl⟩ (by simpa using hoff) (fun p hp => ?_) (fun p hp => ?_)
  · rcases List.mem_cons.mp hp with rfl | hp
    · exact List.mem_cons_self
    · exact List.mem_cons_of_mem _ (List.mem_append_left _ hp)
  · exact List.mem_cons_of_mem _ (List.mem_append_right _ hp)
theorem lat_loop {r rr ans : Addr} {us : List Value} {xs : List Int} {b₀ : Int} {t₀ u₀ v₀ : Tok} {m₀ : Str → Option Value} {keep : List (Addr × Obj)}
    (hka : ∀ p ∈ keep, p.1 < ans) (F : Fr h₀ env.locals s.heap m₀) (N : News h₀ env.locals s.heap ((ans, listOf #[] 0) :: keep)) (e1 : m₀ (Str.ofString "row") = some (.ref r)) (e2 : m₀ (Str.ofString "answer") = some (.ref ans))
    (hh : A.handled = none) (hr : IsRange s.heap rr 0 b₀ 1 t₀ u₀ v₀) (hsmall : Builtin.Range.small 0 b₀ 1 = true) (hn : Builtin.Range.rangeSize 0 b₀ 1 = (xs.length : Int))
    (turn : ∀ (i : Nat) t vs k (u : Str → Option Value) h tk own, i < xs.length → OwnOff own (ans :: keep.map (·.1)) → (∀ p ∈ keep ++ own, p.1 ≠ ans) → IntsAre vs ((xs.reverse.take i).foldl latestS []) → vs.length ≤ i →
      Fr h₀ env.locals h (fun y => if y = Str.ofString "n" then some (.int (i : Int) t) else if y = Str.ofString "row" then some (.ref r) else if y = Str.ofString "answer" then some (.ref ans) else u y) →
      News h₀ env.locals h ((ans, listOf vs.toArray k) :: (keep ++ own)) →
      wpAny (model prog w) A (execs body env) (InvPostG h₀ env.locals (LatI r ans keep xs (i + 1)) own { s with heap := h, toks := tk } Q) E { s with heap := h, toks := tk })
    (done : ∀ vs k (u : Str → Option Value) h tk, IntsAre vs (latest xs) → vs.length ≤ xs.length → Fr h₀ env.locals h (fun y => if y = Str.ofString "row" then some (.ref r) else if y = Str.ofString "answer" then some (.ref ans) else u y) → News h₀ env.locals h ((ans, listOf vs.toArray k) :: keep) → Q .next { s with heap := h, toks := tk }) :
    wpAny (model prog w) A (pyIter (.ref rr)) (fun it s₂ => LoopAtV prog w A h₀ env (Str.ofString "n") body Q E it s₂) E s := by
  have em : ∀ m₁ : Str → Option Value, m₁ (Str.ofString "row") = some (.ref r) → m₁ (Str.ofString "answer") = some (.ref ans) → (fun y => if y = Str.ofString "row" then some (.ref r) else if y = Str.ofString "answer" then some (.ref ans) else m₁ y) = m₁ := by
    intro m₁ e1 e2
    funext y
    by_cases h1 : y = Str.ofString "row"
    · rw [if_pos h1, h1, e1]
    · rw [if_neg h1]
      by_cases h2 : y = Str.ofString "answer"
      · rw [if_pos h2, h2, e2]
      · rw [if_neg h2]
  refine iter_rangeG (n := xs.length) (LatI r ans keep xs) hh hr hsmall hn F N ⟨[], 0, e1, e2, rfl, by simpa using IntsAre.nil, Nat.le_refl _⟩ ?_ ?_
  · rintro i t m₁ news₁ h tk own hi hoff ⟨vs, k, e1, e2, rfl, hv, hl⟩ F₁ N₁
    rw [Int.zero_add] at F₁
    refine turn i t vs k m₁ h tk own hi hoff (fun p hp => (List.mem_append.mp hp).elim (fun hp => Nat.ne_of_lt (hka p hp)) fun hp => hoff p hp ans (List.mem_cons_self)) hv hl ?_ N₁
    have := congrFun (em m₁ e1 e2)
    have e3 : (fun y => if y = Str.ofString "n" then some (Value.int (i : Int) t) else if y = Str.ofString "row" then some (.ref r) else if y = Str.ofString "answer" then some (.ref ans) else m₁ y) = fun y => if y = Str.ofString "n" then some (Value.int (i : Int) t) else m₁ y := by
      funext y
      rw [this y]
    rw [e3]
    exact F₁
  · rintro m₁ news₁ h tk ⟨vs, k, e1, e2, rfl, hv, hl⟩ F₁ N₁
    refine done vs k m₁ h tk ?_ hl ?_ N₁
    · have : xs.reverse.take xs.length = xs.reverse := List.take_of_length_le (by simp)
      rw [this] at hv
      exact hv
    · rw [em m₁ e1 e2]; exact F₁
end

set_option maxRecDepth 100000 in
set_option maxHeartbeats 8000000 in
theorem latest_call {w : World} {p : Program} {loose : List Str} {mean : ExcName → Option Value} {mg mb : Str → Option Value}
  {dp un : Nat} {gd : Option (List Code)} {cn : Str} {cs : Scope} {a : Addr} {ccd : Value} {cl : List (Str × Addr)} {outer : List Env} {A₀ : Around} {base h₀ : Heap} {L : Addr} {m : Str → Option Value} {s : Shared} {Q E : Value → Shared → Prop}
  {r : Addr} {us : List Value} {xs : List Int} {n1 : Nat} {keep : List (Addr × Obj)}
  (B : Below A₀ base outer h₀) (X : (hd.heap_39 w.params).In h₀) (T : Top p loose mean mg mb h₀) (hk : cs.kind = .function) (hdp : dp + 2 < recursionLimit) (hun : un + 40 < cLine)
  (F : Fr h₀ L s.heap m) (N : News h₀ L s.heap keep) (hr : (r, listOf us.toArray n1) ∈ keep)
  (hu : IntsAre us xs) (hlen : xs.length < 1000)
  (hQ : ∀ q vs k h' tk, IntsAre vs (latest xs) → Fr h₀ L h' m → News h₀ L h' ((q, listOf vs.toArray k) :: keep) → (∀ p ∈ keep, p.1 < q) → Q (.ref q) { s with heap := h', toks := tk }) :
  wpAny (model PySem.Challenge.rw_ik0172_01.row.prog w) (ktrTop dp un gd cn cs L a ccd cl outer) (call (.ref 116) [.ref r]) Q E s := by
  walk_at "mine fill"
  have hul : us.length < 1000 := by rw [hu.length]; exact hlen
  refine wpAny_call ?_
  k_dflt ktr_enter
  walk_at "mine steps"
  rename Fr _ _ _ _ => F1
  refine For_invVF F1 (by rfl) (by rfl) ?_
  walk_at "mine steps"
  rename Fr _ _ _ _ => F2
  rename News _ _ _ _ => N2
  rename IsRange _ _ _ _ _ _ _ _ => hrg
  refine lat_loop (us := us) (xs := xs) (keep := keep) (by assumption) F2 N2 (by rfl) (by rfl) (by rfl) hrg (by first | exact small_one (by omega) (by omega) (by omega) (by omega)) (by first | exact rangeSize_nat _ _ | rfl) ?_ ?_
  · clear F2 N2 hrg
    intro i t vs k u h tk own hi hoff hne hv hl F3 N3
    walk_at "mine steps"
    · refine lat_end F3 N3 hoff (by rfl) (by rfl) ?_ (Nat.le_succ_of_le hl)
      rw [lat_step hi]
      unfold latestS
      rw [if_pos (by assumption)]
      exact hv
    · rename Fr _ _ _ _ => F5
      rename News _ _ _ _ => N5
      rw [List.push_toArray] at N5
      refine lat_end F5 N5 hoff (by rfl) (by rfl) ?_ ?_
      · rw [lat_step hi]
        unfold latestS
        rw [if_neg (by assumption)]
        exact hv.append (.cons _ _ .nil)
      · simp only [List.length_append, List.length_cons, List.length_nil]; omega
  · clear F2 N2 hrg
    intro vs k u h tk hv hl F3 N3
    walk_at "mine steps"
    exact hQ _ _ _ _ _ hv (by assumption) (by assumption) (by assumption)
end
section
section
set_option maxRecDepth 100000
abbrev mwObj (a : Addr) : Obj := { cls := .type "method-wrapper", data := .fields #[.builtin "list.__contains__", .ref a] }
theorem wd_type : typeOf (.builtin "list.__contains__") = pure (.type "wrapper_descriptor") := by show builtinType _ = _; rw [builtinType_eq_fast]; kernel_rfl
theorem wd_get : Slot "wrapper_descriptor" "__get__" "wrapper_descriptor.__get__" :=
  .of (owner := "wrapper_descriptor") (n := "__get__") (by rw [typeLookup_type, builtinLookup_eq_fast]; kernel_rfl) (by decide +kernel) (by decide +kernel) (by decide +kernel)
    (by first | exact .inl (by decide +kernel) | exact .inr (by decide +kernel)) (by rw [isSubtype_type]; kernel_rfl)
theorem wd_no_set : typeLookup (.type "wrapper_descriptor") "__set__" = pure none := by rw [typeLookup_type, builtinLookup_eq_fast]; kernel_rfl
theorem wd_no_del : typeLookup (.type "wrapper_descriptor") "__delete__" = pure none := by rw [typeLookup_type, builtinLookup_eq_fast]; kernel_rfl
theorem wd_entry : entryFor table "wrapper_descriptor.__get__" = some Builtin.«wrapper_descriptor.__get__» := entryFor_of_tree (by kernel_rfl)
theorem wd_args (a b c : Value) : argsOk "wrapper_descriptor.__get__" ⟨[a, b, c], []⟩ := by unfold argsOk; kernel_rfl
theorem wd_sub : isSubtype (.type "list") (.type (".".intercalate ("list.__contains__".cutAt '.').dropLast)) = pure true := by
  rw [show ".".intercalate ("list.__contains__".cutAt '.').dropLast = "list" from by decide +kernel, isSubtype_type]; kernel_rfl
set_option maxHeartbeats 2000000 in
theorem getAttr_contains {prog : Program} {w : World} {A : Around} {E : Value → Shared → Prop} {s : Shared} {a : Addr} {xs : Array Value} {k : Nat} {Q : Value → Shared → Prop}
    (hx : s.heap.get? a = some (listOf xs k)) (hA : A.handled = none)
    (h : ∀ tk, Q (.ref s.heap.objs.size) { s with heap := s.heap.push (mwObj a), toks := tk }) :
    wpAny (model prog w) A (getAttr (.ref a) "__contains__" true) Q E s := by
  obtain ⟨hp, g, d, tk, os⟩ := s
  have hT : ∀ tk', (⟨hp, g, d, tk', os⟩ : Shared).TypeIs (.ref a) "list" := fun _ => ⟨_, hx, rfl⟩
  have f3 := F.slot_list_getattribute.lookup
  have f4 := F.slot_list_getattribute.bind (.ref a)
  have f5 := am_list_getattr_none
  have f6 := slot_list_contains.lookup
  have f7 := wd_type
  have f8 := wd_get.lookup
  have f9 := wd_no_set
  have f10 := wd_no_del
  have f11 := wd_sub
  unfold getAttr getAttrBy
  repeat (any_goals (first | assumption | exact hT _ | ((with_reducible show wpAny _ _ (call (Value.builtin "list.__getattribute__") _ _) _ _ _); refine wpAny_call_entry F.slot_list_getattribute (hT _) am_entry_list_getattribute ?_ (F.args_list_getattribute_2 _ _)) | ((with_reducible show wpAny _ _ (call (Value.builtin "wrapper_descriptor.__get__") _ _) _ _ _); refine wpAny_call_entry wd_get f7 wd_entry ?_ (wd_args _ _ _)) | wp_step))
  exact ⟨_, rfl, wpAny_pure ⟨_, rfl, wpAny_pure (h _)⟩⟩
theorem kr_contains {prog : Program} {w : World} {A : Around} {E : Value → Shared → Prop} {s : Shared} {h₀ : Heap} {L a : Addr} {m : Str → Option Value} {news : List (Addr × Obj)} {xs : Array Value} {k : Nat} {Q : Value → Shared → Prop}
    (F : Fr h₀ L s.heap m) (N : News h₀ L s.heap news) (hm : (a, listOf xs k) ∈ news) (hA : A.handled = none)
    (h : ∀ q h' tk, Fr h₀ L h' m → News h₀ L h' ((q, mwObj a) :: news) → (∀ p ∈ news, p.1 < q) → Q (.ref q) { s with heap := h', toks := tk }) :
    wpAny (model prog w) A (getAttr (.ref a) "__contains__" true) Q E s :=
  getAttr_contains (N _ hm).1 hA fun tk => h _ _ tk (F.push _) (N.push F _) fun p hp => Heap.lt_size (N p hp).1
end
end
section
section
set_option maxRecDepth 100000
abbrev itObj (l : Addr) (i : Nat) : Obj := { cls := .type "list_iterator", data := .fields #[.ref l, .int (i : Int) 0] }
variable {prog : Program} {w : World} {A : Around} {E : Value → Shared → Prop} {s : Shared} {h₀ : Heap} {L l it : Addr} {m : Str → Option Value} {news : List (Addr × Obj)} {n i : Nat} {items : Array Value}
theorem kr_iter {Q : Value → Shared → Prop} (F : Fr h₀ L s.heap m) (N : News h₀ L s.heap news) (hm : (l, listOf items n) ∈ news)
    (h : ∀ q h', Fr h₀ L h' m → News h₀ L h' ((q, itObj l 0) :: news) → (∀ p ∈ news, p.1 < q) → Q (.ref q) { s with heap := h' }) : wpAny (model prog w) A (call (.builtin "iter") [.ref l]) Q E s := by
  refine Calls.call_function_entry (by decide +kernel) (by decide +kernel) kdk_entry_iter (kdk_args_iter _) ?_
  unfold Builtin.«iter»
  refine wpAny_bind (m := someArgs "iter" 1 2 _) (wpAny_of_eq (a := [Value.ref l]) (by first | rfl | kernel_rfl!) ?_)
  show wpAny _ _ (pyIter (.ref l) >>= _) _ _ _
  refine wpAny_bind (wpAny_pyIter_list (News.isList N hm) ?_)
  exact wpAny_pure ⟨_, rfl, h _ _ (F.push _) (News.push F N _ rfl) (fun q hq => Heap.lt_size (N q hq).1)⟩

theorem special_next_item {x : Value} {Q : Option Value → Shared → Prop} (ho : s.heap.get? it = some (itObj l i)) (hl : s.heap.IsList l items) (hx : items[i]? = some x)
    (hQ : ∀ h', h'.get? it = some (itObj l (i + 1)) → Heap.SameBut it s.heap h' → Q (some x) { s with heap := h' }) :
    wpAny (model prog w) A (callSpecial? (.ref it) (Str.ofString "__next__")) Q E s := by
  have hit : s.heap.IsListIter it l i := ⟨_, ho, rfl, rfl⟩
  obtain ⟨ol, hol, _, nl, hdl⟩ := hl
  refine wpAny_callSpecial?_slot (name := Str.ofString "__next__") hit.typeIs slot_listiter_next (wpAny_call_entry slot_listiter_next hit.typeIs entry_listiter_next ?_ (args_listiter_next _))
  show wpAny _ _ (field (.ref it) 0 >>= _) _ _ s
  refine wpAny_bind (wpAny_field ho rfl (x := .ref l) rfl ?_)
  show wpAny _ _ (if (Value.ref l == Value.none) = true then _ else _) _ _ s
  rw [if_neg (show ¬ ((Value.ref l == Value.none) = true) from Bool.false_ne_true)]
  show wpAny _ _ (field (.ref it) 1 >>= _) _ _ s
  refine wpAny_bind (wpAny_field ho rfl (x := .int i 0) rfl ?_)
  show wpAny _ _ (seqItems? (.ref l) >>= _) _ _ s
  refine wpAny_bind (wpAny_seqItems hol hdl ?_)
  simp only [Int.toNat_natCast, hx]
  refine wpAny_bind (wpAny_setField ho rfl (by simp) (wpAny_pure ⟨x, rfl, hQ _ ?_ (Heap.SameBut.update ..)⟩))
  have := Heap.get?_update_self (Obj.mapFields (·.setIfInBounds 1 (rawInt ((i : Int) + 1)))) ho rfl
  exact this
theorem special_next_end {Q : Option Value → Shared → Prop} (hh : A.handled = none) (ho : s.heap.get? it = some (itObj l i)) (hl : s.heap.IsList l items) (hx : items[i]? = none)
    (hE : ∀ h₁ h' e tk, Heap.SameBut it s.heap h₁ → (h₁.get? it).isSome → Heap.NewExc h₁ h' e "StopIteration" → E (.ref e) { s with heap := h', toks := tk }) :
    wpAny (model prog w) A (callSpecial? (.ref it) (Str.ofString "__next__")) Q E s := by
  have hit : s.heap.IsListIter it l i := ⟨_, ho, rfl, rfl⟩
  obtain ⟨ol, hol, _, nl, hdl⟩ := hl
  refine wpAny_callSpecial?_slot (name := Str.ofString "__next__") hit.typeIs slot_listiter_next (wpAny_call_entry slot_listiter_next hit.typeIs entry_listiter_next ?_ (args_listiter_next _))
  show wpAny _ _ (field (.ref it) 0 >>= _) _ _ s
  refine wpAny_bind (wpAny_field ho rfl (x := .ref l) rfl ?_)
  show wpAny _ _ (if (Value.ref l == Value.none) = true then _ else _) _ _ s
  rw [if_neg (show ¬ ((Value.ref l == Value.none) = true) from Bool.false_ne_true)]
  show wpAny _ _ (field (.ref it) 1 >>= _) _ _ s
  refine wpAny_bind (wpAny_field ho rfl (x := .int i 0) rfl ?_)
  show wpAny _ _ (seqItems? (.ref l) >>= _) _ _ s
  refine wpAny_bind (wpAny_seqItems hol hdl ?_)
  simp only [Int.toNat_natCast, hx]
  refine wpAny_bind (wpAny_rule (wpAny_bind (wpAny_setField ho rfl (by simp) ?_)))
  show wpAny _ _ (newExc (.type "StopIteration") [] >>= _) _ _ _
  refine wpAny_bind ?_
  simp only [newExc, newTuple]
  refine wpAny_bind (wpAny_newObj_type ?_ (by size_fits))
  refine wpAny_bind (m := firstArgMember _ _) (wpAny_of_eq (a := Value.none) (by first | rfl | (simp only [firstArgMember]; rfl)) ?_)
  refine wpAny_newObj_type ?_ (by size_fits)
  simp only [raiseNew]
  refine wpAny_bind (wpAny_handled ?_)
  rw [show A.in1.handled = none from hh]
  refine wpAny_bind (wpAny_pure (wpAny_throw ?_))
  have h1 := Heap.get?_update_self (Obj.mapFields (·.setIfInBounds 0 Value.none)) ho rfl
  refine hE (s.heap.update it (Obj.mapFields (·.setIfInBounds 0 Value.none))) _ _ _ (Heap.SameBut.update ..) (by rw [h1]; rfl) ⟨fun b o e => Heap.get?_push_of_some _ (Heap.get?_push_of_some _ e), Heap.get?_none_of_le (by rw [Heap.size_push]; exact Nat.le_succ _), ?_⟩
  exact ⟨_, _, Heap.get?_push_size _ rfl, rfl, rfl⟩
theorem call_next_of {Q : Value → Shared → Prop} (ho : s.heap.get? it = some (itObj l i)) (h : wpAny (model prog w) A.in1 (callSpecial? (.ref it) (Str.ofString "__next__")) (fun r s' => ∃ v, r = some v ∧ Q v s') E s) :
    wpAny (model prog w) A (call (.builtin "next") [.ref it]) Q E s := by
  have hit : s.heap.IsListIter it l i := ⟨_, ho, rfl, rfl⟩
  refine Calls.call_function_entry (by decide +kernel) (by decide +kernel) kdk_entry_next (kdk_args_next _) ?_
  unfold Builtin.«next»
  refine wpAny_bind (m := someArgs "next" 1 2 _) (wpAny_of_eq (a := [Value.ref it]) (by first | rfl | kernel_rfl!) ?_)
  dsimp only
  refine wpAny_bind (wpAny_specialOf (name := Str.ofString "__next__") hit.typeIs slot_listiter_next.lookup ?_)
  refine wpAny_ite_split (fun hab => absurd hab (by decide)) (fun _ => ?_)
  refine wpAny_bind (wpAny_mono h (fun r s' hr => ?_) fun _ _ z => z)
  obtain ⟨v, rfl, hv⟩ := hr
  exact wpAny_pure ⟨_, rfl, hv⟩
/-- next of a list's iterator: an item -/
theorem kr_next {us : List Value} {x : Value} {news' : List (Addr × Obj)} {Q : Value → Shared → Prop} (F : Fr h₀ L s.heap m) (N : News h₀ L s.heap news) (hm : (l, listOf us.toArray n) ∈ news) (hx : us[i]? = some x)
    (U : Upd it (itObj l i) (itObj l (i + 1)) news news') (h : ∀ h', Fr h₀ L h' m → News h₀ L h' news' → Q x { s with heap := h' }) : wpAny (model prog w) A (call (.builtin "next") [.ref it]) Q E s := by
  obtain ⟨pre, post, e1, e2, a, b⟩ := U.split
  subst e1 e2
  have z := N (it, itObj l i) (List.mem_append.mpr (.inr (.head _)))
  refine call_next_of z.1 (special_next_item z.1 (News.isList N hm) (by simpa using hx) fun h' ho' hs => ⟨x, rfl, h h' (F.change hs z.2.1 z.2.2) (news_set N a b hs ho')⟩)
/-- next of a list's iterator: its end -/
theorem kr_next_end {us : List Value} {news' : List (Addr × Obj)} {Q : Value → Shared → Prop} (hh : A.handled = none) (F : Fr h₀ L s.heap m) (N : News h₀ L s.heap news) (hm : (l, listOf us.toArray n) ∈ news) (hit : (it, itObj l i) ∈ news) (hx : us[i]? = none)
    (hs : ∀ p ∈ news', p ∈ news ∧ p.1 ≠ it)
    (h : ∀ h₁ h' e tk, Fr h₀ L h₁ m → News h₀ L h₁ news' → Heap.NewExc h₁ h' e "StopIteration" → E (.ref e) { s with heap := h', toks := tk }) : wpAny (model prog w) A (call (.builtin "next") [.ref it]) Q E s := by
  have z := N (it, itObj l i) hit
  refine call_next_of z.1 (special_next_end (A := A.in1) hh z.1 (News.isList N hm) (by simpa using hx) fun h₁ h' e tk hsb _ hx => h h₁ h' e tk (F.change hsb z.2.1 z.2.2) (fun p hp => ?_) hx)
  obtain ⟨h1, h2⟩ := hs p hp
  exact ⟨(hsb.2 p.1 h2).trans (N p h1).1, (N p h1).2⟩
end
end
section
section
set_option maxRecDepth 100000
theorem mw_kind : builtinKind "list.__contains__" = some .slot := by decide +kernel
theorem mw_bound (a : Addr) (v : Value) : checkBoundCall "list.__contains__" ⟨[.ref a, v], []⟩ = pure () := by
  first
  | kernel_rfl
  | (have h := PySem.F.args_list_contains_2 (.ref a) v
     unfold argsOk at h
     unfold checkBoundCall
     rw [mw_kind]
     exact h)
variable {prog : Program} {w : World} {A : Around} {E : Value → Shared → Prop} {s : Shared} {h₀ : Heap} {L a k : Addr} {m : Str → Option Value} {news : List (Addr × Obj)} {n : Nat}
theorem code_mw {y xv : Int} {t tx : Tok} {R : Result → Shared → Prop} (hm : s.heap.get? a = some (mwObj k)) (hk : s.heap.get? k = some (listOf [Value.int xv tx].toArray n))
    (h : R (.ok (.ret (.bool (decide (xv = y))))) s) : codeAny (model prog w) A (.call (.ref a) ⟨[.int y t], []⟩) R s := by
  refine codeAny_of_tree ?_
  show wpAny _ _ (callAny (.ref a) _) _ _ _
  unfold callAny
  refine wpAny_bind (wpAny_load hm ?_)
  show wpAny _ _ (checkBoundCall "list.__contains__" ⟨[.ref k, .int y t], []⟩ >>= _) _ _ _
  refine wpAny_bind (wpAny_of_eq (mw_bound _ _) ?_)
  refine wpAny_bind (wpAny_pure (wpAny_pure ?_))
  refine ⟨Code.quiet_builtin _ (by decide +kernel), codeAny_builtin PySem.F.entry_list_contains ?_⟩
  rw [Around.under_plainId (by decide +kernel) _]
  refine MeetsSeq.list_contains k [Value.int xv tx].toArray n (.int y t) (isInt y) (fun z hz => kf_eq (k := y) (l := [Value.int xv tx]) rfl z (by simpa using hz)) prog w _ _ _ ⟨hk, ?_⟩
  have e : ([Value.int xv tx].toArray).any (isInt y) = decide (xv = y) := by
    simp [isInt_int]
  rw [e]
  exact h
theorem kr_mw {y xv : Int} {t tx : Tok} {Q : Value → Shared → Prop} (N : News h₀ L s.heap news) (hm : (a, mwObj k) ∈ news) (hk : (k, listOf [Value.int xv tx].toArray n) ∈ news)
    (h : Q (.bool (decide (xv = y))) s) : wpAny (model prog w) A (call (.ref a) [.int y t]) Q E s :=
  wpAny_call (code_mw (N _ hm).1 (N _ hk).1 h)
def MwP (a k : Addr) (h : Heap) : Prop := h.get? a = some (mwObj k)
theorem keeps_mw {M : Model} (h : Heap) (X : MwP a k h) : ∃ kp, (kp = Keeper.frame ∨ kp = Keeper.machine ∨ kp = Keeper.boundFrame) ∧ Looks M h (keeperOf (.ref a)) kp := by
  refine ⟨.machine, .inr (.inl rfl), ?_⟩
  intro A Q E s kk q
  unfold keeperOf
  refine wpAny_bind (wpAny_load (kk _ _ X) ?_)
  exact wpAny_pure q
theorem callWith_mw {env : Env} {pos : Pos} {e : Expr} {rest : List Expr} {first : List Value} {Q : Value → Shared → Prop} (N : News h₀ L s.heap news) (hm : (a, mwObj k) ∈ news)
    (h : wpAny (model prog w) A (spliced (backTo pos (starEach (e :: rest) env))) (fun vs s₁ => MwP a k s₁.heap ∧ wpAny (model prog w) A (call (.ref a) (first ++ vs)) Q E s₁) E s)
    (he : starEach (e :: rest) env = (false, eval e env) :: starEach rest env := by rfl) (hplain : (backTo pos (starEach rest env)).any (·.1) = false := by rfl) :
    wpAny (model prog w) A (callWith pos (.ref a) first (backTo pos (starEach (e :: rest) env)) []) Q E s := by
  rw [he] at h ⊢
  exact callWith_of (P := MwP a k) (by show ((false || (backTo pos (starEach rest env)).any (·.1)) || false) = false; rw [hplain]; rfl) keeps_mw (Calls.evalArgs_plain h)
theorem mwP {h : Heap} (N : News h₀ L h news) (hm : (a, mwObj k) ∈ news) : MwP a k h := (N _ hm).1
end
end
section
local macro_rules | `(tactic| walk_at "mine fill") => `(tactic| ((rename Frag.In _ _ => X); (have hd0 : PySem.Challenge.rw_ik0172_01.name = PySem.Challenge.rw_ik0172_01.name := rfl); revert X hd0; k_fill; intro X hd0; clear hd0))
local macro_rules | `(tactic| walk_at "mine stop") => `(tactic| first | (with_reducible show wpAny _ _ (exec (Stmt.While _ _ _ _) _) _ _ _) | (with_reducible show wpAny _ _ (exec (Stmt.For _ _ _ _ _) _) _ _ _) | (with_reducible show wpAny _ _ (pyIter _) _ _ _) | (with_reducible show wpAny _ _ (call (.builtin "list.pop") _) _ _ _) | (with_reducible show wpAny _ _ (call (.builtin "list.remove") _) _ _ _))
local macro_rules | `(tactic| walk_at "mine steps") => `(tactic| repeat' ((fail_if_success (walk_at "mine stop")); first | (k_unfold; (try dsimp only)) | walk1 | (dsimp only; walk1) | (leave1; walk_say "STEP leave1"; try dsimp only) | fail "no step"))
local macro_rules | `(tactic| k_all) => `(tactic| first | assumption | exact ne_of_lts (by first | assumption | exact tl1 (by assumption) | exact tl1 (tl1 (by assumption)) | exact tl1 (tl1 (tl1 (by assumption))) | exact tl1 (tl1 (tl1 (tl1 (by assumption)))) | exact kst_ltOf (by assumption) | exact kst_ltOf (And.right (by assumption)) | exact kst_ltOf (And.right (And.right (by assumption))) | exact kst_ltOf (And.right (And.right (And.right (by assumption)))) | exact kst_ltOf (And.right (And.right (And.right (And.right (by assumption))))) | exact kst_ltOf (And.right (And.right (And.right (And.right (And.right (by assumption)))))) | exact kst_ltOf (And.right (And.right (And.right (And.right (And.right (And.right (by assumption))))))) | exact kst_ltOf (And.right (And.right (And.right (And.right (And.right (And.right (And.right (by assumption)))))))) | exact kst_ltOf (And.right (And.right (And.right (And.right (And.right (And.right (And.right (And.right (by assumption)))))))))))
local macro_rules | `(tactic| walk_at "call builtin:len") => `(tactic| ((with_reducible show wpAny _ _ (call (Value.builtin "len") [Value.ref _]) _ _ _); k_dflt (refine' kr_len ?N ?m ?i ?z ?_; (case N => k_asm); (case m => k_mem); (case i => assumption); (case z => omega))))
local macro_rules | `(tactic| walk_at "truthy ref") => `(tactic| ((with_reducible show wpAny _ _ (truthy (Value.ref _)) _ _ _); k_dflt (refine' kr_truthy ?N ?m ?i ?z ?_; (case N => k_asm); (case m => k_mem); (case i => assumption); (case z => omega))))
local macro_rules | `(tactic| walk_at "subscriptTail") => `(tactic| ((with_reducible show wpAny _ _ (subscriptTail _ _ (Value.ref _) (Value.int _ _)) _ _ _); k_dflt (refine' kr_item ?N ?m ?i ?z ?a ?b ?_; (case N => k_asm); (case m => k_mem); (case i => assumption); (case z => omega); (case a => omega); (case b => omega); k_whole); intro _))
local macro_rules | `(tactic| walk_at "compareOp In int ref") => `(tactic| ((with_reducible show wpAny _ _ (compareOp CmpOp.In (Value.int _ _) (Value.ref _)) _ _ _); k_dflt (refine' kr_in ?N ?m ?i ?_; (case N => k_asm); (case m => k_mem); (case i => assumption))))
local macro_rules | `(tactic| walk_at "compareOp NotIn int ref") => `(tactic| ((with_reducible show wpAny _ _ (compareOp CmpOp.NotIn (Value.int _ _) (Value.ref _)) _ _ _); k_dflt (refine' kr_notin ?N ?m ?i ?_; (case N => k_asm); (case m => k_mem); (case i => assumption))))
local macro_rules | `(tactic| k_mem) => `(tactic| first | assumption | exact List.mem_append_left _ (by k_mem) | exact List.mem_append_right _ (by k_mem))
local macro_rules | `(tactic| k_memK) => `(tactic| first | assumption | exact List.mem_append_left _ (by k_memK) | exact List.mem_append_right _ (by k_memK))
local macro_rules | `(tactic| walk_at "mine enter") => `(tactic| (refine' code_def ?k1 ?k2 ?k3 ?k4 ?k5 ?kA ?kF ?kK ?k6 ?k7 ?k8 ?k9 ?kB ?_ ?c2 ?c3 ?c4 ?c5; (case kA => exact rfl); (case kF => exact rfl); (case kK => first | assumption | exact rfl); (case k1 => k_asm); (case k2 => k_asm); (case k3 => k_asm); (case k4 => k_asm); (case k5 => k_asm); (case k6 => k_is); (case k7 => k_is); (case k8 => ktr_room); (case k9 => first | exact BindsTo.of_eq rfl | exact binds_K (by k_in) rfl (by k_is) rfl rfl rfl | fail "mine enter: binds"); (case c5 => decide); (case kB => exact locs rfl); (case c2 => exact rfl); (case c3 => exact rfl); (case c4 => exact rfl); k_whole; intro g' L' h' FG' F' N' B' X' T'; (try dsimp only); (try k_fold)))
local macro_rules | `(tactic| walk_at "mine stop") => `(tactic| first | (with_reducible show wpAny _ _ (exec (Stmt.While _ _ _ _) _) _ _ _) | (with_reducible show wpAny _ _ (call (.builtin "next") _) _ _ _))
local macro_rules | `(tactic| walk_at "callWith ref") => `(tactic| (k_dflt (refine' callWith_mw ?N ?m ?_; (case N => k_asm); (case m => k_mem); k_whole)))
local macro_rules | `(tactic| walk_at "And") => `(tactic| ((with_reducible show MwP _ _ _ ∧ _); k_dflt (refine ⟨mwP (by k_asm) (by k_mem), ?_⟩); try dsimp only [List.nil_append, List.cons_append]))
local macro_rules | `(tactic| walk_at "call ref") => `(tactic| (k_dflt (refine' kr_mw ?N ?m ?k ?_; (case N => k_asm); (case m => k_mem); (case k => k_mem))))
abbrev instF (mw it d : Addr) : Obj := { cls := .ref 54, dict := some d, data := .plain, slots := #[some (.ref mw), some (.ref it)] }
section
variable {prog : Program} {w : World} {A : Around} {E : Value → Shared → Prop} {Q : Flow → Shared → Prop} {s : Shared} {env : Env} {h₀ : Heap} {L : Addr}
abbrev keepsX (xv : Int) (l : List Int) : List Int := l.filter fun z => decide (z ≠ xv)
theorem drop_cons {xs : List Int} {j : Nat} (h : j < xs.length) : xs.drop j = xs[j] :: xs.drop (j + 1) := List.drop_eq_getElem_cons h
def NxEnd (h₀ : Heap) (L x mw it r : Addr) (keep : List (Addr × Obj)) (xs : List Int) (xv : Int) (i : Nat) (s : Shared) (Q : Flow → Shared → Prop) (j : Nat) (f : Flow) (s₂ : Shared) : Prop :=
  match f with
  | .ret v => Q (.ret v) s₂
  | .next => ∃ j' m' h' tk, s₂ = { s with heap := h', toks := tk } ∧ Fr h₀ L h' m' ∧ m' (Str.ofString "self") = some (.ref x) ∧ m' (Str.ofString "func") = some (.ref mw) ∧ News h₀ L h' ((it, itObj r j') :: keep) ∧ j < j' ∧ j' ≤ xs.length ∧ keepsX xv (xs.drop i) = keepsX xv (xs.drop j')
  | _ => False
theorem nx_loop {test : Expr} {body : List Stmt} {pos : Pos} {m₀ : Str → Option Value} {x mw it r : Addr} {keep : List (Addr × Obj)} {xs : List Int} {xv : Int} {i : Nat}
    (F : Fr h₀ L s.heap m₀) (N : News h₀ L s.heap ((it, itObj r i) :: keep)) (e1 : m₀ (Str.ofString "self") = some (.ref x)) (e2 : m₀ (Str.ofString "func") = some (.ref mw)) (hi : i ≤ xs.length)
    (turn : ∀ (j : Nat) (u : Str → Option Value) h tk, j ≤ xs.length → keepsX xv (xs.drop i) = keepsX xv (xs.drop j) →
      Fr h₀ L h (fun z => if z = Str.ofString "self" then some (.ref x) else if z = Str.ofString "func" then some (.ref mw) else u z) → News h₀ L h ((it, itObj r j) :: keep) →
      wpAny (model prog w) A (isTrue test env (eval test env)) (fun b s₂ =>
        if b = true then wpAny (model prog w) A (execs body env) (NxEnd h₀ L x mw it r keep xs xv i s Q j) E s₂ else Q .next s₂) E { s with heap := h, toks := tk })
    (hE : PassesOwn (model prog w) A env E) :
    wpAny (model prog w) A (exec (.While test body [] pos) env) Q E s := by
  refine While_inv2 (fun k m' nx => ∃ j : Nat, m' (Str.ofString "self") = some (.ref x) ∧ m' (Str.ofString "func") = some (.ref mw) ∧ nx = ((it, itObj r j) :: keep) ∧ j ≤ xs.length ∧ keepsX xv (xs.drop i) = keepsX xv (xs.drop j) ∧ k = xs.length - j) F N ⟨i, e1, e2, rfl, hi, rfl, rfl⟩ ?_ hE
  rintro k m₁ nx h tk F₁ N₁ ⟨j, e1, e2, rfl, hj, hf, rfl⟩
  refine wpAny_mono (turn j m₁ h tk hj hf ?_ N₁) (fun b s₂ p => ?_) fun _ _ x => x
  · have em : (fun z => if z = Str.ofString "self" then some (.ref x) else if z = Str.ofString "func" then some (.ref mw) else m₁ z) = m₁ := by
      funext z
      by_cases z1 : z = Str.ofString "self"
      · rw [if_pos z1, z1, e1]
      · rw [if_neg z1]
        by_cases z2 : z = Str.ofString "func"
        · rw [if_pos z2, z2, e2]
        · rw [if_neg z2]
    rw [em]; exact F₁
  · cases b with
    | false => simpa using p
    | true =>
      simp only [if_true] at p ⊢
      refine wpAny_mono p (fun f s₃ q => ?_) fun _ _ x => x
      cases f with
      | ret v => exact q
      | next =>
        obtain ⟨j', m', h', tk', rfl, F', e1', e2', N', hlt, hle, hf'⟩ := q
        exact ⟨h', tk', m', _, _, rfl, F', N', by omega, j', e1', e2', rfl, hle, hf', rfl⟩
      | brk => exact q.elim
      | cont => exact q.elim
end
local macro_rules | `(tactic| walk_at "NxEnd") => `(tactic| ((with_reducible show NxEnd _ _ _ _ _ _ _ _ _ _ _ _ _ (Flow.ret _) _); dsimp only [NxEnd]))
set_option maxRecDepth 100000 in
set_option maxHeartbeats 8000000 in
theorem next_call {w : World} {p : Program} {loose : List Str} {mean : ExcName → Option Value} {mg mb : Str → Option Value}
  {dp un : Nat} {gd : Option (List Code)} {cn : Str} {cs : Scope} {a : Addr} {ccd : Value} {cl : List (Str × Addr)} {outer : List Env} {A₀ : Around} {base h₀ : Heap} {L : Addr} {m : Str → Option Value} {s : Shared} {Q E : Value → Shared → Prop}
  {x d it mw r k : Addr} {us : List Value} {xs : List Int} {xv : Int} {tx : Tok} {n1 n2 i : Nat} {keep : List (Addr × Obj)}
  (B : Below A₀ base outer h₀) (X : (hd.heap_39 w.params).In h₀) (T : Top p loose mean mg mb h₀) (hk : cs.kind = .function) (hdp : dp + 2 < recursionLimit) (hun : un + 40 < cLine)
  (F : Fr h₀ L s.heap m) (N : News h₀ L s.heap ((it, itObj r i) :: keep)) (hx : (x, instF mw it d) ∈ keep) (hdd : (d, dictOf [] 0) ∈ keep) (hmw : (mw, mwObj k) ∈ keep) (hr : (r, listOf us.toArray n1) ∈ keep) (hkk : (k, listOf [Value.int xv tx].toArray n2) ∈ keep)
  (hne : ∀ q ∈ keep, q.1 ≠ it) (hu : IntsAre us xs) (hi : i ≤ xs.length) (hlen : xs.length < 1000)
  (hret : ∀ y t j h' tk, j ≤ xs.length → keepsX xv (xs.drop i) = y :: keepsX xv (xs.drop j) → Fr h₀ L h' m → News h₀ L h' ((it, itObj r j) :: keep) → Q (.int y t) { s with heap := h', toks := tk })
  (hend : keepsX xv (xs.drop i) = [] → ∀ e g₂ h' tk, RaisedSN base g₂ (envX cn cs L a ccd cl :: outer) e (.type "StopIteration") keep h' → Fr h₀ L g₂ m → g₂.UpToSlots h' → E (.ref e) { s with heap := h', toks := tk }) :
  wpAny (model PySem.Challenge.rw_ik0172_01.row.prog w) (ktrTop dp un gd cn cs L a ccd cl outer) (call (.ref 50) [.ref x]) Q E s := by
  walk_at "mine fill"
  refine wpAny_call ?_
  k_dflt (walk_at "mine enter")
  walk_at "mine steps"
  rename Fr _ _ _ _ => F1
  rename News _ _ _ _ => N1
  have hul : us.length = xs.length := hu.length
  refine nx_loop (xs := xs) (xv := xv) F1 N1 (by rfl) (by rfl) hi ?_ (by passes_own)
  clear F1 N1
  intro j u h tk hj hf F1 N1
  walk_at "mine steps"
  by_cases hjl : j < xs.length
  · obtain ⟨t, ht⟩ := hu.get j xs[j] (by simp [hjl])
    refine kr_next F1 N1 (by k_mem) ht (by k_upd) ?_
    clear F1 N1
    intro h' F1 N1
    walk_at "mine steps"
    · rename Fr _ _ _ _ => F3
      rename News _ _ _ _ => N3
      have hq : xv = xs[j] := by assumption
      refine ⟨j + 1, _, _, _, rfl, F3, by rfl, by rfl, N3, Nat.lt_succ_self j, hjl, ?_⟩
      rw [hf, drop_cons hjl]
      unfold keepsX
      rw [List.filter_cons_of_neg (by simp [hq])]
    · have hq : ¬ xv = xs[j] := by assumption
      refine hret xs[j] t (j + 1) _ _ hjl ?_ (by assumption) (by assumption)
      rw [hf, drop_cons hjl]
      unfold keepsX
      rw [List.filter_cons_of_pos (by simp only [decide_eq_true_eq]; exact fun z => hq z.symm)]
  · have hji : j = xs.length := by omega
    refine kr_next_end (l := r) (i := j) (n := n1) (us := us) (news' := keep) rfl F1 N1 (by k_mem) (by k_mem) (by rw [List.getElem?_eq_none]; omega) (fun p hp => ⟨List.mem_cons_of_mem _ hp, hne p hp⟩) ?_
    clear F1 N1
    intro h₁ h' e tk' F1 N1 hxc
    k_unfold
    try dsimp only
    rename Below _ _ _ _ => B1
    refine leave_newS B1 hxc F1 N1 (fun h'' R1 _ hU => ?_)
    refine hend ?_ e _ h'' tk' R1 (by assumption) hU
    rw [hf, hji]
    simp [keepsX]
end
section
local macro_rules | `(tactic| walk_at "mine fill") => `(tactic| ((rename Frag.In _ _ => X); (have hd0 : PySem.Challenge.rw_ik0172_01.name = PySem.Challenge.rw_ik0172_01.name := rfl); revert X hd0; k_fill; intro X hd0; clear hd0))
local macro_rules | `(tactic| walk_at "mine stop") => `(tactic| first | (with_reducible show wpAny _ _ (exec (Stmt.While _ _ _ _) _) _ _ _) | (with_reducible show wpAny _ _ (exec (Stmt.For _ _ _ _ _) _) _ _ _) | (with_reducible show wpAny _ _ (pyIter _) _ _ _) | (with_reducible show wpAny _ _ (call (.builtin "list.pop") _) _ _ _) | (with_reducible show wpAny _ _ (call (.builtin "list.remove") _) _ _ _))
local macro_rules | `(tactic| walk_at "mine steps") => `(tactic| repeat' ((fail_if_success (walk_at "mine stop")); first | (k_unfold; (try dsimp only)) | walk1 | (dsimp only; walk1) | (leave1; walk_say "STEP leave1"; try dsimp only) | fail "no step"))
local macro_rules | `(tactic| k_all) => `(tactic| first | assumption | exact ne_of_lts (by first | assumption | exact tl1 (by assumption) | exact tl1 (tl1 (by assumption)) | exact tl1 (tl1 (tl1 (by assumption))) | exact tl1 (tl1 (tl1 (tl1 (by assumption)))) | exact kst_ltOf (by assumption) | exact kst_ltOf (And.right (by assumption)) | exact kst_ltOf (And.right (And.right (by assumption))) | exact kst_ltOf (And.right (And.right (And.right (by assumption)))) | exact kst_ltOf (And.right (And.right (And.right (And.right (by assumption))))) | exact kst_ltOf (And.right (And.right (And.right (And.right (And.right (by assumption)))))) | exact kst_ltOf (And.right (And.right (And.right (And.right (And.right (And.right (by assumption))))))) | exact kst_ltOf (And.right (And.right (And.right (And.right (And.right (And.right (And.right (by assumption)))))))) | exact kst_ltOf (And.right (And.right (And.right (And.right (And.right (And.right (And.right (And.right (by assumption)))))))))))
local macro_rules | `(tactic| walk_at "call builtin:len") => `(tactic| ((with_reducible show wpAny _ _ (call (Value.builtin "len") [Value.ref _]) _ _ _); k_dflt (refine' kr_len ?N ?m ?i ?z ?_; (case N => k_asm); (case m => k_mem); (case i => assumption); (case z => omega))))
local macro_rules | `(tactic| walk_at "truthy ref") => `(tactic| ((with_reducible show wpAny _ _ (truthy (Value.ref _)) _ _ _); k_dflt (refine' kr_truthy ?N ?m ?i ?z ?_; (case N => k_asm); (case m => k_mem); (case i => assumption); (case z => omega))))
local macro_rules | `(tactic| walk_at "subscriptTail") => `(tactic| ((with_reducible show wpAny _ _ (subscriptTail _ _ (Value.ref _) (Value.int _ _)) _ _ _); k_dflt (refine' kr_item ?N ?m ?i ?z ?a ?b ?_; (case N => k_asm); (case m => k_mem); (case i => assumption); (case z => omega); (case a => omega); (case b => omega); k_whole); intro _))
local macro_rules | `(tactic| walk_at "compareOp In int ref") => `(tactic| ((with_reducible show wpAny _ _ (compareOp CmpOp.In (Value.int _ _) (Value.ref _)) _ _ _); k_dflt (refine' kr_in ?N ?m ?i ?_; (case N => k_asm); (case m => k_mem); (case i => assumption))))
local macro_rules | `(tactic| walk_at "compareOp NotIn int ref") => `(tactic| ((with_reducible show wpAny _ _ (compareOp CmpOp.NotIn (Value.int _ _) (Value.ref _)) _ _ _); k_dflt (refine' kr_notin ?N ?m ?i ?_; (case N => k_asm); (case m => k_mem); (case i => assumption))))
local macro_rules | `(tactic| k_mem) => `(tactic| first | assumption | exact List.mem_append_left _ (by k_mem) | exact List.mem_append_right _ (by k_mem))
local macro_rules | `(tactic| k_memK) => `(tactic| first | assumption | exact List.mem_append_left _ (by k_memK) | exact List.mem_append_right _ (by k_memK))
local macro_rules | `(tactic| walk_at "mine enter") => `(tactic| (refine' code_def ?k1 ?k2 ?k3 ?k4 ?k5 ?kA ?kF ?kK ?k6 ?k7 ?k8 ?k9 ?kB ?_ ?c2 ?c3 ?c4 ?c5; (case kA => exact rfl); (case kF => exact rfl); (case kK => first | assumption | exact rfl); (case k1 => k_asm); (case k2 => k_asm); (case k3 => k_asm); (case k4 => k_asm); (case k5 => k_asm); (case k6 => k_is); (case k7 => k_is); (case k8 => ktr_room); (case k9 => first | exact BindsTo.of_eq rfl | exact binds_K (by k_in) rfl (by k_is) rfl rfl rfl | fail "mine enter: binds"); (case c5 => decide); (case kB => exact locs rfl); (case c2 => exact rfl); (case c3 => exact rfl); (case c4 => exact rfl); k_whole; intro g' L' h' FG' F' N' B' X' T'; (try dsimp only); (try k_fold)))
section
set_option maxRecDepth 100000
variable {w : World} {p : Program} {loose : List Str} {mean : ExcName → Option Value} {mg mb : Str → Option Value}
  {dp un : Nat} {gd : Option (List Code)} {cn : Str} {cs : Scope} {a : Addr} {ccd : Value} {outer : List Env} {A₀ : Around} {base h₀ : Heap} {L : Addr} {m : Str → Option Value}
  {x d it mw r k S : Addr} {us : List Value} {xs : List Int} {xv : Int} {tx : Tok} {n1 n2 : Nat} {keep : List (Addr × Obj)}
theorem isStop : isSubtype (.type "StopIteration") (.type "StopIteration") = pure true := by rw [isSubtype_type]; kernel_rfl
/-- what stands behind a StopIteration that came out of a called frame -/
theorem stop_ground {e : Addr} {g₂ h' : Heap} {led : List (Addr × Obj)} (B : Below A₀ base outer h₀) (R1 : RaisedSN base g₂ (envOf cn cs L a ccd :: outer) e (.type "StopIteration") led h') (F2 : Fr h₀ L g₂ m) (hU : g₂.UpToSlots h') :
    (∃ ob, h'.get? e = some ob ∧ ob.cls = .type "StopIteration") ∧ ∃ g', KtsTurn (outer.filterMap (·.frame)) h₀ g' ∧ Fr g' L h' m ∧ Below A₀ base outer g' ∧ News g' L h' led := by
  obtain ⟨Bx, a0, hB, hBG, hl, hfl⟩ := R1
  have hL : Bx.get? L = none := by
    obtain ⟨_, ⟨L', _, hf, hn', _⟩, _⟩ := hfl.2.2.1
    obtain rfl : L = L' := Option.some.inj hf
    exact hn'
  obtain ⟨g', T', F', B'⟩ := kts_ground B F2 hBG hfl.1 hU
  refine ⟨hfl.there, g', T', F', B', fun q hq => ⟨hfl.1 _ _ (hl q hq).1, (fun z => by have := (hl q hq).1; rw [z, hL] at this; cases this), T'.none_ _ (kts_none F2.keep (hl q hq).2.1)⟩⟩
set_option maxHeartbeats 8000000 in
theorem drain {all : List Int} {R : Result → Shared → Prop} (B : Below A₀ base outer h₀) (X : (hd.heap_39 w.params).In h₀) (T : Top p loose mean mg mb h₀) (hk : cs.kind = .function) (hdp : dp + 2 < recursionLimit) (hun : un + 48 < cLine)
  (hx : (x, instF mw it d) ∈ keep) (hdd : (d, dictOf [] 0) ∈ keep) (hmw : (mw, mwObj k) ∈ keep) (hr : (r, listOf us.toArray n1) ∈ keep) (hkk : (k, listOf [Value.int xv tx].toArray n2) ∈ keep)
  (hne : ∀ q ∈ keep, q.1 ≠ it) (hnS : ∀ q ∈ keep, q.1 ≠ S) (hIS : S ≠ it) (hu : IntsAre us xs) (hlen : xs.length < 1000) (hal : all.length < 1000) :
  ∀ (n i : Nat) (done : List Int) (vs : List Value) (c : Nat) (s : Shared), (keepsX xv (xs.drop i)).length = n → i ≤ xs.length → Fr h₀ L s.heap m → News h₀ L s.heap ((it, itObj r i) :: (S, listOf vs.toArray c) :: keep) → IntsAre vs done → done ++ keepsX xv (xs.drop i) = all →
    (∀ vs' c' g' h' tk, IntsAre vs' all → KtsTurn (outer.filterMap (·.frame)) h₀ g' → Fr g' L h' m → News g' L h' ((S, listOf vs'.toArray c') :: keep) → Below A₀ base outer g' → R (.ok (.ret .none)) { s with heap := h', toks := tk }) →
    codeAny (model PySem.Challenge.rw_ik0172_01.row.prog w) (ktrTop dp un gd cn cs L a ccd [] outer) (.builtin "list.extend.loop" ⟨[.ref S, .ref x, .none], []⟩) R s := by
  walk_at "mine fill"
  rename Frag.In _ _ => X
  have hne2 : ∀ (vs : List Value) (c : Nat), ∀ q ∈ (S, listOf vs.toArray c) :: keep, q.1 ≠ it := fun vs c q hq => by
    rcases List.mem_cons.mp hq with rfl | hq
    · exact hIS
    · exact hne q hq
  intro n
  induction n with
  | zero =>
    intro i done vs c s hn hi F N hv hda hR
    have hnil : keepsX xv (xs.drop i) = [] := List.eq_nil_of_length_eq_zero hn
    refine codeAny_builtin PySem.F.entry_extend_loop ?_
    rw [Around.under_plainId PySem.F.plain_extend_loop _]
    show wpAny _ _ (pyNext (.ref x) >>= _) _ _ s
    refine wpAny_bind (owit_next (f := 50) (C := 54) F X (InstAt.of_news N (List.mem_cons_of_mem _ (List.mem_cons_of_mem _ hx)) (List.mem_cons_of_mem _ (List.mem_cons_of_mem _ hdd))) (by k_is) (by k_is) ?_)
    refine next_call (hne := hne2 vs c) (hx := List.mem_cons_of_mem _ hx) (hdd := List.mem_cons_of_mem _ hdd) (hmw := List.mem_cons_of_mem _ hmw) (hr := List.mem_cons_of_mem _ hr) (hkk := List.mem_cons_of_mem _ hkk) B X T hk hdp (by show un + 1 + 40 < cLine; omega) F N hu hi hlen ?_ ?_
    · intro y t j h' tk _ e
      rw [hnil] at e
      cases e
    · intro _ e g₂ h' tk R1 F2 hU
      obtain ⟨⟨ob, hob, hobc⟩, g', T', F', B', N'⟩ := stop_ground B R1 F2 hU
      unfold OwitStop
      refine wpAny_isInstance (T := "StopIteration") (show ∃ o, h'.get? e = some o ∧ o.cls = .type "StopIteration" from ⟨ob, hob, hobc⟩) isStop ?_
      rw [if_pos rfl]
      exact wpAny_pure (hR vs c g' h' tk (by rw [← hda, hnil, List.append_nil]; exact hv) T' F' N' B')
  | succ n ih =>
    intro i done vs c s hn hi F N hv hda hR
    refine codeAny_builtin PySem.F.entry_extend_loop ?_
    rw [Around.under_plainId PySem.F.plain_extend_loop _]
    show wpAny _ _ (pyNext (.ref x) >>= _) _ _ s
    refine wpAny_bind (owit_next (f := 50) (C := 54) F X (InstAt.of_news N (List.mem_cons_of_mem _ (List.mem_cons_of_mem _ hx)) (List.mem_cons_of_mem _ (List.mem_cons_of_mem _ hdd))) (by k_is) (by k_is) ?_)
    refine next_call (hne := hne2 vs c) (hx := List.mem_cons_of_mem _ hx) (hdd := List.mem_cons_of_mem _ hdd) (hmw := List.mem_cons_of_mem _ hmw) (hr := List.mem_cons_of_mem _ hr) (hkk := List.mem_cons_of_mem _ hkk) B X T hk hdp (by show un + 1 + 40 < cLine; omega) F N hu hi hlen ?_ ?_
    · intro y t j h' tk hj e F' N'
      show wpAny _ _ (updateSeq S (·.push (.int y t)) >>= _) _ _ _
      have hS := N' (S, listOf vs.toArray c) (List.mem_cons_of_mem _ List.mem_cons_self)
      have hvl : vs.length < 1000 := by
        rw [hv.length]
        have := congrArg List.length hda
        rw [List.length_append] at this
        omega
      refine wpAny_bind (wpAny_updateSeq hS.1 rfl ?_ (by rw [List.size_toArray]; exact Nat.le_trans (Nat.le_of_lt hvl) (by decide)) (by simp only [List.size_toArray, Array.size_push]; exact Nat.le_trans hvl (by decide)))
      refine wpAny_pure ⟨plainId_quiet PySem.F.plain_extend_loop _, ih j (done ++ [y]) (vs ++ [.int y t]) (c + 1) _ ?_ hj (F'.change (Heap.SameBut.update ..) hS.2.1 hS.2.2) ?_ (hv.append (.cons _ _ .nil)) ?_ ?_⟩
      · rw [e, List.length_cons] at hn
        omega
      · exact kl_turn (pre := [(it, itObj r j)]) _ N' (fun q hq => by rw [List.mem_singleton.mp hq]; exact Ne.symm hIS) hnS (by simp) (by simp)
      · rw [← hda, e]
        simp
      · exact hR
    · intro e
      rw [e] at hn
      cases hn
end
end
section
local macro_rules | `(tactic| walk_at "mine fill") => `(tactic| ((rename Frag.In _ _ => X); (have hd0 : PySem.Challenge.rw_ik0172_01.name = PySem.Challenge.rw_ik0172_01.name := rfl); revert X hd0; k_fill; intro X hd0; clear hd0))
local macro_rules | `(tactic| walk_at "mine stop") => `(tactic| first | (with_reducible show wpAny _ _ (exec (Stmt.While _ _ _ _) _) _ _ _) | (with_reducible show wpAny _ _ (exec (Stmt.For _ _ _ _ _) _) _ _ _) | (with_reducible show wpAny _ _ (pyIter _) _ _ _) | (with_reducible show wpAny _ _ (call (.builtin "list.pop") _) _ _ _) | (with_reducible show wpAny _ _ (call (.builtin "list.remove") _) _ _ _))
local macro_rules | `(tactic| walk_at "mine steps") => `(tactic| repeat' ((fail_if_success (walk_at "mine stop")); first | (k_unfold; (try dsimp only)) | walk1 | (dsimp only; walk1) | (leave1; walk_say "STEP leave1"; try dsimp only) | fail "no step"))
local macro_rules | `(tactic| k_all) => `(tactic| first | assumption | exact ne_of_lts (by first | assumption | exact tl1 (by assumption) | exact tl1 (tl1 (by assumption)) | exact tl1 (tl1 (tl1 (by assumption))) | exact tl1 (tl1 (tl1 (tl1 (by assumption)))) | exact kst_ltOf (by assumption) | exact kst_ltOf (And.right (by assumption)) | exact kst_ltOf (And.right (And.right (by assumption))) | exact kst_ltOf (And.right (And.right (And.right (by assumption)))) | exact kst_ltOf (And.right (And.right (And.right (And.right (by assumption))))) | exact kst_ltOf (And.right (And.right (And.right (And.right (And.right (by assumption)))))) | exact kst_ltOf (And.right (And.right (And.right (And.right (And.right (And.right (by assumption))))))) | exact kst_ltOf (And.right (And.right (And.right (And.right (And.right (And.right (And.right (by assumption)))))))) | exact kst_ltOf (And.right (And.right (And.right (And.right (And.right (And.right (And.right (And.right (by assumption)))))))))))
local macro_rules | `(tactic| walk_at "call builtin:len") => `(tactic| ((with_reducible show wpAny _ _ (call (Value.builtin "len") [Value.ref _]) _ _ _); k_dflt (refine' kr_len ?N ?m ?i ?z ?_; (case N => k_asm); (case m => k_mem); (case i => assumption); (case z => omega))))
local macro_rules | `(tactic| walk_at "truthy ref") => `(tactic| ((with_reducible show wpAny _ _ (truthy (Value.ref _)) _ _ _); k_dflt (refine' kr_truthy ?N ?m ?i ?z ?_; (case N => k_asm); (case m => k_mem); (case i => assumption); (case z => omega))))
local macro_rules | `(tactic| walk_at "subscriptTail") => `(tactic| ((with_reducible show wpAny _ _ (subscriptTail _ _ (Value.ref _) (Value.int _ _)) _ _ _); k_dflt (refine' kr_item ?N ?m ?i ?z ?a ?b ?_; (case N => k_asm); (case m => k_mem); (case i => assumption); (case z => omega); (case a => omega); (case b => omega); k_whole); intro _))
local macro_rules | `(tactic| walk_at "compareOp In int ref") => `(tactic| ((with_reducible show wpAny _ _ (compareOp CmpOp.In (Value.int _ _) (Value.ref _)) _ _ _); k_dflt (refine' kr_in ?N ?m ?i ?_; (case N => k_asm); (case m => k_mem); (case i => assumption))))
local macro_rules | `(tactic| walk_at "compareOp NotIn int ref") => `(tactic| ((with_reducible show wpAny _ _ (compareOp CmpOp.NotIn (Value.int _ _) (Value.ref _)) _ _ _); k_dflt (refine' kr_notin ?N ?m ?i ?_; (case N => k_asm); (case m => k_mem); (case i => assumption))))
local macro_rules | `(tactic| k_mem) => `(tactic| first | assumption | exact List.mem_append_left _ (by k_mem) | exact List.mem_append_right _ (by k_mem))
local macro_rules | `(tactic| k_memK) => `(tactic| first | assumption | exact List.mem_append_left _ (by k_memK) | exact List.mem_append_right _ (by k_memK))
local macro_rules | `(tactic| walk_at "mine enter") => `(tactic| (refine' code_def ?k1 ?k2 ?k3 ?k4 ?k5 ?kA ?kF ?kK ?k6 ?k7 ?k8 ?k9 ?kB ?_ ?c2 ?c3 ?c4 ?c5; (case kA => exact rfl); (case kF => exact rfl); (case kK => first | assumption | exact rfl); (case k1 => k_asm); (case k2 => k_asm); (case k3 => k_asm); (case k4 => k_asm); (case k5 => k_asm); (case k6 => k_is); (case k7 => k_is); (case k8 => ktr_room); (case k9 => first | exact BindsTo.of_eq rfl | exact binds_K (by k_in) rfl (by k_is) rfl rfl rfl | fail "mine enter: binds"); (case c5 => decide); (case kB => exact locs rfl); (case c2 => exact rfl); (case c3 => exact rfl); (case c4 => exact rfl); k_whole; intro g' L' h' FG' F' N' B' X' T'; (try dsimp only); (try k_fold)))
set_option maxRecDepth 100000 in
set_option maxHeartbeats 8000000 in
theorem iter_call {w : World} {p : Program} {loose : List Str} {mean : ExcName → Option Value} {mg mb : Str → Option Value}
  {dp un : Nat} {gd : Option (List Code)} {cn : Str} {cs : Scope} {a : Addr} {ccd : Value} {cl : List (Str × Addr)} {outer : List Env} {A₀ : Around} {base h₀ : Heap} {L : Addr} {m : Str → Option Value} {s : Shared} {Q E : Value → Shared → Prop}
  {x : Addr} {keep : List (Addr × Obj)}
  (B : Below A₀ base outer h₀) (X : (hd.heap_39 w.params).In h₀) (T : Top p loose mean mg mb h₀) (hk : cs.kind = .function) (hdp : dp + 2 < recursionLimit)
  (F : Fr h₀ L s.heap m) (N : News h₀ L s.heap keep)
  (hQ : ∀ h' tk, Fr h₀ L h' m → News h₀ L h' keep → Q (.ref x) { s with heap := h', toks := tk }) :
  wpAny (model PySem.Challenge.rw_ik0172_01.row.prog w) (ktrTop dp un gd cn cs L a ccd cl outer) (call (.ref 43) [.ref x]) Q E s := by
  walk_at "mine fill"
  refine wpAny_call ?_
  k_dflt (walk_at "mine enter")
  walk_at "mine steps"
  exact hQ _ _ (by assumption) (by assumption)
section
set_option maxRecDepth 100000
variable {w : World} {p : Program} {loose : List Str} {mean : ExcName → Option Value} {mg mb : Str → Option Value}
  {dp un : Nat} {gd : Option (List Code)} {cn : Str} {cs : Scope} {a : Addr} {ccd : Value} {outer : List Env} {A₀ : Around} {base h₀ : Heap} {L : Addr} {m : Str → Option Value}
  {x d it mw r k : Addr} {us : List Value} {xs : List Int} {xv : Int} {tx : Tok} {n1 n2 : Nat} {keep : List (Addr × Obj)} {s : Shared} {Q E : Value → Shared → Prop}
set_option maxHeartbeats 8000000 in
theorem list_own (B : Below A₀ base outer h₀) (X : (hd.heap_39 w.params).In h₀) (T : Top p loose mean mg mb h₀) (hk : cs.kind = .function) (hdp : dp + 2 < recursionLimit) (hun : un + 60 < cLine)
  (F : Fr h₀ L s.heap m) (N : News h₀ L s.heap ((it, itObj r 0) :: keep))
  (hx : (x, instF mw it d) ∈ keep) (hdd : (d, dictOf [] 0) ∈ keep) (hmw : (mw, mwObj k) ∈ keep) (hr : (r, listOf us.toArray n1) ∈ keep) (hkk : (k, listOf [Value.int xv tx].toArray n2) ∈ keep)
  (hne : ∀ q ∈ keep, q.1 ≠ it) (hu : IntsAre us xs) (hlen : xs.length < 1000)
  (hQ : ∀ S vs' c' g' h' tk, IntsAre vs' (keepsX xv xs) → KtsTurn (outer.filterMap (·.frame)) h₀ g' → Fr g' L h' m → News g' L h' ((S, listOf vs'.toArray c') :: keep) → Below A₀ base outer g' → (∀ q ∈ keep, q.1 < S) → Q (.ref S) { s with heap := h', toks := tk }) :
  wpAny (model PySem.Challenge.rw_ik0172_01.row.prog w) (ktrTop dp un gd cn cs L a ccd [] outer) (call (.type "list") [.ref x]) Q E s := by
  walk_at "mine fill"
  rename Frag.In _ _ => X
  have hlt : ∀ q ∈ (it, itObj r 0) :: keep, q.1 < s.heap.objs.size := fun q hq => Heap.lt_size (N q hq).1
  have hltk : ∀ q ∈ keep, q.1 < s.heap.objs.size := fun q hq => hlt q (List.mem_cons_of_mem _ hq)
  have hIlt : it < s.heap.objs.size := hlt _ List.mem_cons_self
  have hIS : s.heap.objs.size ≠ it := Nat.ne_of_gt hIlt
  have hnS : ∀ q ∈ keep, q.1 ≠ s.heap.objs.size := fun q hq => Nat.ne_of_lt (hltk q hq)
  refine callType_codes (Q₁ := fun obj s₁ => obj = .ref s.heap.objs.size ∧ s₁ = { s with heap := s.heap.push { cls := .type "list", data := .seq #[] } }) PySem.F.called_list (PySem.F.typeCall_list_1 _) PySem.F.entry_list_init
    (code_list_new _ ⟨rfl, rfl⟩) fun obj s₁ h₁ => ?_
  obtain ⟨rfl, rfl⟩ := h₁
  have F1 : Fr h₀ L (s.heap.push { cls := .type "list", data := .seq #[] }) m := F.push _
  have N1 : News h₀ L (s.heap.push { cls := .type "list", data := .seq #[] }) ((s.heap.objs.size, listOf #[] 0) :: (it, itObj r 0) :: keep) := N.push F _
  have hS := N1 _ List.mem_cons_self
  refine ⟨⟨_, hS.1, rfl⟩, PySem.F.args_list_init_2 _ _, ?_⟩
  show wpAny _ _ (do let old ← Builtin.List.listItems (.ref s.heap.objs.size); Builtin.List.listUpdate (.ref s.heap.objs.size) (fun _ => #[]); letGo old.toList.reverse; Builtin.List.listExtendWith (.ref s.heap.objs.size) (.ref x) .none) _ _ _
  refine wpAny_bind ?_
  unfold Builtin.List.listItems
  refine wpAny_bind (wpAny_seqItems hS.1 rfl (wpAny_pure ?_))
  show wpAny _ _ (updateSeq s.heap.objs.size (fun _ => #[]) >>= fun _ => letGo (#[] : Array Value).toList.reverse >>= fun _ => Builtin.List.listExtendWith (.ref s.heap.objs.size) (.ref x) .none) _ _ _
  refine wpAny_bind (wpAny_updateSeq hS.1 rfl ?_)
  have hIall : ∀ q ∈ (it, itObj r 0) :: keep, q.1 ≠ s.heap.objs.size := fun q hq => Nat.ne_of_lt (hlt q hq)
  have F2 := F1.change (Heap.SameBut.update (h := s.heap.push { cls := .type "list", data := .seq #[] }) (a := s.heap.objs.size) (f := Obj.mapSeq (fun _ => (#[] : Array Value)))) hS.2.1 hS.2.2
  have N2 := ki_turn (pre := []) (n' := 0) (its' := #[]) (fun _ => (#[] : Array Value)) N1 (fun _ h => nomatch h) hIall rfl rfl
  generalize (s.heap.push { cls := .type "list", data := .seq #[] }).update s.heap.objs.size (Obj.mapSeq (fun _ => (#[] : Array Value))) = hp2 at F2 N2 ⊢
  refine wpAny_bind (wpAny_letGo ?_)
  have hxl : x ≠ s.heap.objs.size := hnS _ hx
  have hm2 : ∀ q ∈ keep, q ∈ [] ++ (s.heap.objs.size, listOf #[] 0) :: (it, itObj r 0) :: keep := fun q hq => List.mem_cons_of_mem _ (List.mem_cons_of_mem _ hq)
  have I2 := InstAt.of_news N2 (hm2 _ hx) (hm2 _ hdd)
  unfold Builtin.List.listExtendWith
  refine wpAny_bind (I2.type.here ?_)
  have e1 : Builtin.List.listSameRef (.ref s.heap.objs.size) (.ref x) = false := by simp [Builtin.List.listSameRef, Ne.symm hxl]
  have e2 : (Value.ref 54 == Value.type "list") = false := by decide
  have e3 : (Value.ref 54 == Value.type "tuple") = false := by decide
  simp only [e1, e2, e3, Bool.or_false, Bool.false_eq_true, if_false]
  refine wpAny_bind (owit_iter (f := 43) (C := 54) F2 X I2 (by k_is) (by k_is) ?_)
  refine iter_call (un := un + 2) B X T hk hdp F2 N2 ?_
  intro h3 tk3 F3 N3
  have I3 := InstAt.of_news N3 (hm2 _ hx) (hm2 _ hdd)
  refine owit_it (g := .ref 50) F3 X I3 (by k_is) ?_
  refine wpAny_bind (wpAny_holding ?_)
  unfold Builtin.List.listLengthHint specialOf
  have q1 : findIn (hd.heap_39 w.params) (.ref 54) "__len__" = some none := by k_is
  have q2 : findIn (hd.heap_39 w.params) (.ref 54) "__length_hint__" = some none := by k_is
  refine wpAny_bind (wpAny_bind (I3.type.here ((looks_findIn (X.keeps F3.keep) q1).here ?_)))
  show wpAny _ _ ((typeOf (Value.ref x) >>= fun t => typeLookup t (Str.ofString "__length_hint__")) >>= _) _ _ _
  refine wpAny_bind (wpAny_bind (I3.type.here ((looks_findIn (X.keeps F3.keep) q2).here ?_)))
  refine wpAny_pure ?_
  show wpAny _ _ (rule "list.extend.makes-room" >>= fun _ => Builtin.List.listTouch (.ref s.heap.objs.size) >>= fun _ =>
    again (.builtin "list.extend.loop" ⟨[.ref s.heap.objs.size, .ref x, .none], []⟩)) _ _ _
  refine wpAny_bind (wpAny_rule ?_)
  refine wpAny_bind ?_
  show wpAny _ _ (updateSeq s.heap.objs.size (·.push .none) >>= fun _ => updateSeq s.heap.objs.size (·.pop)) _ _ _
  have hS3 := N3 (s.heap.objs.size, listOf #[] 0) List.mem_cons_self
  refine wpAny_bind (wpAny_updateSeq hS3.1 rfl ?_)
  have F4 := F3.change (Heap.SameBut.update (h := h3) (a := s.heap.objs.size) (f := Obj.mapSeq (·.push Value.none))) hS3.2.1 hS3.2.2
  have N4 := ki_turn (pre := []) (n' := 1) (its' := #[Value.none]) (·.push Value.none) N3 (fun _ h => nomatch h) hIall rfl rfl
  generalize h3.update s.heap.objs.size (Obj.mapSeq (·.push Value.none)) = hp4 at F4 N4 ⊢
  have hS4 := N4 (s.heap.objs.size, listOf #[Value.none] 1) List.mem_cons_self
  refine wpAny_updateSeq (hz := by seq_fits) hS4.1 rfl ?_
  have F5 := F4.change (Heap.SameBut.update (h := hp4) (a := s.heap.objs.size) (f := Obj.mapSeq (·.pop))) hS4.2.1 hS4.2.2
  have N5 := ki_turn (pre := []) (n' := 2) (its' := #[]) (·.pop) N4 (fun _ h => nomatch h) hIall rfl rfl
  generalize hp4.update s.heap.objs.size (Obj.mapSeq (·.pop)) = hp5 at F5 N5 ⊢
  refine wpAny_pure ⟨plainId_quiet PySem.F.plain_extend_loop _, ?_⟩
  have hall : (keepsX xv xs).length < 1000 := Nat.lt_of_le_of_lt (List.length_filter_le _ _) hlen
  refine drain (un := un + 1) (all := keepsX xv xs) B X T hk hdp (by show un + 1 + 48 < cLine; omega) hx hdd hmw hr hkk hne hnS hIS hu hlen hall _ 0 [] [] 2 _ rfl (Nat.zero_le _) F5 ?_ .nil rfl ?_
  · intro q hq
    rcases List.mem_cons.mp hq with rfl | hq
    · exact N5 _ (List.mem_cons_of_mem _ List.mem_cons_self)
    · rcases List.mem_cons.mp hq with rfl | hq
      · exact N5 _ List.mem_cons_self
      · exact N5 _ (List.mem_cons_of_mem _ (List.mem_cons_of_mem _ hq))
  · intro vs' c' g' h' tk hv T' F' N' B'
    exact ⟨rfl, hQ _ vs' c' g' h' tk hv T' F' N' B' hltk⟩
end
end
section
local macro_rules | `(tactic| walk_at "mine fill") => `(tactic| ((rename Frag.In _ _ => X); (have hd0 : PySem.Challenge.rw_ik0172_01.name = PySem.Challenge.rw_ik0172_01.name := rfl); revert X hd0; k_fill; intro X hd0; clear hd0))
local macro_rules | `(tactic| walk_at "mine stop") => `(tactic| first | (with_reducible show wpAny _ _ (exec (Stmt.While _ _ _ _) _) _ _ _) | (with_reducible show wpAny _ _ (exec (Stmt.For _ _ _ _ _) _) _ _ _) | (with_reducible show wpAny _ _ (pyIter _) _ _ _) | (with_reducible show wpAny _ _ (call (.builtin "list.pop") _) _ _ _) | (with_reducible show wpAny _ _ (call (.builtin "list.remove") _) _ _ _))
local macro_rules | `(tactic| walk_at "mine steps") => `(tactic| repeat' ((fail_if_success (walk_at "mine stop")); first | (k_unfold; (try dsimp only)) | walk1 | (dsimp only; walk1) | (leave1; walk_say "STEP leave1"; try dsimp only) | fail "no step"))
local macro_rules | `(tactic| k_all) => `(tactic| first | assumption | exact ne_of_lts (by first | assumption | exact tl1 (by assumption) | exact tl1 (tl1 (by assumption)) | exact tl1 (tl1 (tl1 (by assumption))) | exact tl1 (tl1 (tl1 (tl1 (by assumption)))) | exact kst_ltOf (by assumption) | exact kst_ltOf (And.right (by assumption)) | exact kst_ltOf (And.right (And.right (by assumption))) | exact kst_ltOf (And.right (And.right (And.right (by assumption)))) | exact kst_ltOf (And.right (And.right (And.right (And.right (by assumption))))) | exact kst_ltOf (And.right (And.right (And.right (And.right (And.right (by assumption)))))) | exact kst_ltOf (And.right (And.right (And.right (And.right (And.right (And.right (by assumption))))))) | exact kst_ltOf (And.right (And.right (And.right (And.right (And.right (And.right (And.right (by assumption)))))))) | exact kst_ltOf (And.right (And.right (And.right (And.right (And.right (And.right (And.right (And.right (by assumption)))))))))))
local macro_rules | `(tactic| walk_at "call builtin:len") => `(tactic| ((with_reducible show wpAny _ _ (call (Value.builtin "len") [Value.ref _]) _ _ _); k_dflt (refine' kr_len ?N ?m ?i ?z ?_; (case N => k_asm); (case m => k_mem); (case i => assumption); (case z => omega))))
local macro_rules | `(tactic| walk_at "truthy ref") => `(tactic| ((with_reducible show wpAny _ _ (truthy (Value.ref _)) _ _ _); k_dflt (refine' kr_truthy ?N ?m ?i ?z ?_; (case N => k_asm); (case m => k_mem); (case i => assumption); (case z => omega))))
local macro_rules | `(tactic| walk_at "subscriptTail") => `(tactic| ((with_reducible show wpAny _ _ (subscriptTail _ _ (Value.ref _) (Value.int _ _)) _ _ _); k_dflt (refine' kr_item ?N ?m ?i ?z ?a ?b ?_; (case N => k_asm); (case m => k_mem); (case i => assumption); (case z => omega); (case a => omega); (case b => omega); k_whole); intro _))
local macro_rules | `(tactic| walk_at "compareOp In int ref") => `(tactic| ((with_reducible show wpAny _ _ (compareOp CmpOp.In (Value.int _ _) (Value.ref _)) _ _ _); k_dflt (refine' kr_in ?N ?m ?i ?_; (case N => k_asm); (case m => k_mem); (case i => assumption))))
local macro_rules | `(tactic| walk_at "compareOp NotIn int ref") => `(tactic| ((with_reducible show wpAny _ _ (compareOp CmpOp.NotIn (Value.int _ _) (Value.ref _)) _ _ _); k_dflt (refine' kr_notin ?N ?m ?i ?_; (case N => k_asm); (case m => k_mem); (case i => assumption))))
local macro_rules | `(tactic| k_mem) => `(tactic| first | assumption | exact List.mem_append_left _ (by k_mem) | exact List.mem_append_right _ (by k_mem))
local macro_rules | `(tactic| k_memK) => `(tactic| first | assumption | exact List.mem_append_left _ (by k_memK) | exact List.mem_append_right _ (by k_memK))
local macro_rules | `(tactic| walk_at "mine enter") => `(tactic| (refine' code_def ?k1 ?k2 ?k3 ?k4 ?k5 ?kA ?kF ?kK ?k6 ?k7 ?k8 ?k9 ?kB ?_ ?c2 ?c3 ?c4 ?c5; (case kA => exact rfl); (case kF => exact rfl); (case kK => first | assumption | exact rfl); (case k1 => k_asm); (case k2 => k_asm); (case k3 => k_asm); (case k4 => k_asm); (case k5 => k_asm); (case k6 => k_is); (case k7 => k_is); (case k8 => ktr_room); (case k9 => first | exact BindsTo.of_eq rfl | exact binds_K (by k_in) rfl (by k_is) rfl rfl rfl | fail "mine enter: binds"); (case c5 => decide); (case kB => exact locs rfl); (case c2 => exact rfl); (case c3 => exact rfl); (case c4 => exact rfl); k_whole; intro g' L' h' FG' F' N' B' X' T'; (try dsimp only); (try k_fold)))
section
set_option maxRecDepth 100000
variable {prog : Program} {w : World} {A₀ A : Around} {s : Shared} {base h₀ : Heap} {L a : Addr} {m : Str → Option Value} {cn : Str} {cs : Scope} {ccd : Value} {cl : List (Str × Addr)} {news : List (Addr × Obj)} {K : Frag} {p : Program} {loose : List Str} {mean : ExcName → Option Value} {mg mb : Str → Option Value}
    {R : Result → Shared → Prop} {name qual : Str} {params : Arguments} {body : List Stmt} {scope : Scope} {dV kV doc pm cdv ct oc : Value} {an od : Option Addr} {osl : Array (Option Value)} {f : Addr} {args : Args} {binds : List (Str × Value)}
/-- a def called by the law's own frame, its base turned at the end -/
theorem code_defT (B : Below A₀ base [] h₀) (F : Fr h₀ L s.heap m) (X₀ : K.In h₀) (N : News h₀ L s.heap news) (T : Top p loose mean mg mb h₀) (hA : A.frames = some [envX cn cs L a ccd cl]) (hck : cs.kind = .function)
    (ho : K.lookup f = some ⟨oc, od, .func (fnOf name qual params body scope dV kV doc pm an cdv ct), osl⟩) (hcd : codeIn K cdv qual = true) (hroom : A.depth < recursionLimit)
    (hbind : BindsTo s (fnOf name qual params body scope dV kV doc pm an cdv ct) args binds) (hloc : ∀ y ∈ binds, scope.names.lookup y.1 = some .local)
    (h : ∀ g L' h₁, Fr g L' h₁ (fun y => binds.reverse.lookup y) → News g L' h₁ news → Below A base [envX cn cs L a ccd cl] g → K.In g → Top p loose mean mg mb g → (∀ p ∈ news, p.1 < L') →
      wpAny (model prog w) (A.deeper (envOf qual scope L' f cdv)) (execs body (envOf qual scope L' f cdv))
        (fun fl s' => LeaveS0 [L] h₀ L m g R (match fl with | .ret v => v | _ => .none) s')
        (fun e s' => wpAny (model prog w) (A.deeper (envOf qual scope L' f cdv)) (leaving (envOf qual scope L' f cdv) e) (fun _ s'' => R (.error e) s'') (fun e' s'' => R (.error e') s'') s')
        { s with heap := h₁, toks := s.toks + binds.length })
    (hco : scope.isCoroutine = false) (hgen : scope.isGenerator = false) (hk : scope.kind = .function)
    (hcell : ∀ x ∈ scope.names, x.2 ≠ .cell) : codeAny (model prog w) A (.call (.ref f) args) R s := by
  have X := X₀.keeps F.keep
  obtain ⟨FG, BG, st, _⟩ := groundX (R := R) B F N hA rfl hck
  obtain ⟨oL, es, ep, hL, hLd, hLk, hLf⟩ := F.ns
  have nL : L ∉ news.map (·.1) := fun q => by
    obtain ⟨p, hp, e⟩ := List.mem_map.mp q
    exact (N p hp).2.1 e
  have hLg := hideAll_get (news.map (·.1)) hL nL
  have nL₀ : h₀.get? L = none := kts_self F
  refine codeAny_call_def (fd := fnOf name qual params body scope dV kV doc pm an cdv ct) (body := body) (binds := binds) hroom (X _ _ ho) rfl (T.nolimit.keeps F.keep) (codeRec_of X hcd) rfl hbind hcell hloc (fun h₁ hns hk₁ => ?_) hco hgen hk
  refine wpAny_mono (h _ s.heap.objs.size h₁ ⟨hns, fun b o e => hk₁ b o (of_hideAll _ e), Nat.le_of_eq (hideAll_size _ _)⟩
    (fun p hp => ⟨hk₁ _ _ (N p hp).1, Nat.ne_of_lt (Heap.lt_size (N p hp).1), hideAll_none _ (List.mem_map_of_mem hp)⟩) BG (X₀.keeps st) (T.keeps st) (fun p hp => Heap.lt_size (N p hp).1)) (fun fl s' hl => ?_) fun _ _ y => y
  obtain ⟨g', L', m', news', T', F', N', k⟩ := hl
  obtain ⟨sl, hs⟩ := T'.up hLg
  refine k ⟨⟨_, es, ep, F'.keep _ _ hs, hLd, hLk, hLf⟩, fun b o e => F'.keep b o (T'.other b o (st b o e) (fun q => ?_)), F.above⟩ fun p hp => ⟨(N' p hp).1, fun q => ?_, ?_⟩
  · rw [List.mem_singleton.mp q, nL₀] at e
    cases e
  · have := (N' p hp).2.2; rw [q, hs] at this; cases this
  · cases q : h₀.get? p.1 with
    | none => rfl
    | some o =>
      obtain ⟨sl', hs'⟩ := T'.up (st _ _ q)
      have := (N' p hp).2.2
      rw [hs'] at this
      cases this
end
end
section
local macro_rules | `(tactic| walk_at "mine fill") => `(tactic| ((rename Frag.In _ _ => X); (have hd0 : PySem.Challenge.rw_ik0172_01.name = PySem.Challenge.rw_ik0172_01.name := rfl); revert X hd0; k_fill; intro X hd0; clear hd0))
local macro_rules | `(tactic| walk_at "mine stop") => `(tactic| first | (with_reducible show wpAny _ _ (exec (Stmt.While _ _ _ _) _) _ _ _) | (with_reducible show wpAny _ _ (exec (Stmt.For _ _ _ _ _) _) _ _ _) | (with_reducible show wpAny _ _ (pyIter _) _ _ _) | (with_reducible show wpAny _ _ (call (.builtin "list.pop") _) _ _ _) | (with_reducible show wpAny _ _ (call (.builtin "list.remove") _) _ _ _))
local macro_rules | `(tactic| walk_at "mine steps") => `(tactic| repeat' ((fail_if_success (walk_at "mine stop")); first | (k_unfold; (try dsimp only)) | walk1 | (dsimp only; walk1) | (leave1; walk_say "STEP leave1"; try dsimp only) | fail "no step"))
local macro_rules | `(tactic| k_all) => `(tactic| first | assumption | exact ne_of_lts (by first | assumption | exact tl1 (by assumption) | exact tl1 (tl1 (by assumption)) | exact tl1 (tl1 (tl1 (by assumption))) | exact tl1 (tl1 (tl1 (tl1 (by assumption)))) | exact kst_ltOf (by assumption) | exact kst_ltOf (And.right (by assumption)) | exact kst_ltOf (And.right (And.right (by assumption))) | exact kst_ltOf (And.right (And.right (And.right (by assumption)))) | exact kst_ltOf (And.right (And.right (And.right (And.right (by assumption))))) | exact kst_ltOf (And.right (And.right (And.right (And.right (And.right (by assumption)))))) | exact kst_ltOf (And.right (And.right (And.right (And.right (And.right (And.right (by assumption))))))) | exact kst_ltOf (And.right (And.right (And.right (And.right (And.right (And.right (And.right (by assumption)))))))) | exact kst_ltOf (And.right (And.right (And.right (And.right (And.right (And.right (And.right (And.right (by assumption)))))))))))
local macro_rules | `(tactic| walk_at "call builtin:len") => `(tactic| ((with_reducible show wpAny _ _ (call (Value.builtin "len") [Value.ref _]) _ _ _); k_dflt (refine' kr_len ?N ?m ?i ?z ?_; (case N => k_asm); (case m => k_mem); (case i => assumption); (case z => omega))))
local macro_rules | `(tactic| walk_at "truthy ref") => `(tactic| ((with_reducible show wpAny _ _ (truthy (Value.ref _)) _ _ _); k_dflt (refine' kr_truthy ?N ?m ?i ?z ?_; (case N => k_asm); (case m => k_mem); (case i => assumption); (case z => omega))))
local macro_rules | `(tactic| walk_at "subscriptTail") => `(tactic| ((with_reducible show wpAny _ _ (subscriptTail _ _ (Value.ref _) (Value.int _ _)) _ _ _); k_dflt (refine' kr_item ?N ?m ?i ?z ?a ?b ?_; (case N => k_asm); (case m => k_mem); (case i => assumption); (case z => omega); (case a => omega); (case b => omega); k_whole); intro _))
local macro_rules | `(tactic| walk_at "compareOp In int ref") => `(tactic| ((with_reducible show wpAny _ _ (compareOp CmpOp.In (Value.int _ _) (Value.ref _)) _ _ _); k_dflt (refine' kr_in ?N ?m ?i ?_; (case N => k_asm); (case m => k_mem); (case i => assumption))))
local macro_rules | `(tactic| walk_at "compareOp NotIn int ref") => `(tactic| ((with_reducible show wpAny _ _ (compareOp CmpOp.NotIn (Value.int _ _) (Value.ref _)) _ _ _); k_dflt (refine' kr_notin ?N ?m ?i ?_; (case N => k_asm); (case m => k_mem); (case i => assumption))))
local macro_rules | `(tactic| k_mem) => `(tactic| first | assumption | exact List.mem_append_left _ (by k_mem) | exact List.mem_append_right _ (by k_mem))
local macro_rules | `(tactic| k_memK) => `(tactic| first | assumption | exact List.mem_append_left _ (by k_memK) | exact List.mem_append_right _ (by k_memK))
local macro_rules | `(tactic| walk_at "mine enter") => `(tactic| (refine' code_def ?k1 ?k2 ?k3 ?k4 ?k5 ?kA ?kF ?kK ?k6 ?k7 ?k8 ?k9 ?kB ?_ ?c2 ?c3 ?c4 ?c5; (case kA => exact rfl); (case kF => exact rfl); (case kK => first | assumption | exact rfl); (case k1 => k_asm); (case k2 => k_asm); (case k3 => k_asm); (case k4 => k_asm); (case k5 => k_asm); (case k6 => k_is); (case k7 => k_is); (case k8 => ktr_room); (case k9 => first | exact BindsTo.of_eq rfl | exact binds_K (by k_in) rfl (by k_is) rfl rfl rfl | fail "mine enter: binds"); (case c5 => decide); (case kB => exact locs rfl); (case c2 => exact rfl); (case c3 => exact rfl); (case c4 => exact rfl); k_whole; intro g' L' h' FG' F' N' B' X' T'; (try dsimp only); (try k_fold)))
local macro_rules | `(tactic| walk_at "getAttr ref") => `(tactic| ((with_reducible show wpAny _ _ (getAttr (Value.ref _) (PySem.Str.ofString "__contains__") _) _ _ _); k_dflt (refine' kr_contains ?F ?N ?m ?A ?_; (case F => k_asm); (case N => k_asm); (case m => k_mem); (case A => rfl)); intro q' h' tk' F' N' l1; (have l9 := l1); (try k_lt l9)))
local macro_rules | `(tactic| walk_at "call builtin:iter") => `(tactic| ((with_reducible show wpAny _ _ (call (Value.builtin "iter") [Value.ref _]) _ _ _); k_dflt (refine' kr_iter ?F ?N ?m ?_; (case F => k_asm); (case N => k_asm); (case m => k_mem)); intro q' h' F' N' l1; (have l9 := l1); (try k_lt l9)))
local macro_rules | `(tactic| walk_at "mine enterT") => `(tactic| (refine' code_defT ?k1 ?k2 ?k3 ?k4 ?k5 ?kA ?kK ?k6 ?k7 ?k8 ?k9 ?kB ?_ ?c2 ?c3 ?c4 ?c5; (case kA => exact rfl); (case kK => first | assumption | exact rfl); (case k1 => k_asm); (case k2 => k_asm); (case k3 => k_asm); (case k4 => k_asm); (case k5 => k_asm); (case k6 => k_is); (case k7 => k_is); (case k8 => ktr_room); (case k9 => exact BindsTo.of_eq rfl); (case c5 => decide); (case kB => exact locs rfl); (case c2 => exact rfl); (case c3 => exact rfl); (case c4 => exact rfl); k_whole; intro g' L' h' F' N' B' X' T' l1; (try dsimp only); (try k_fold)))
set_option maxRecDepth 100000 in
set_option maxHeartbeats 8000000 in
theorem filter_call {w : World} {p : Program} {loose : List Str} {mean : ExcName → Option Value} {mg mb : Str → Option Value}
  {dp un : Nat} {gd : Option (List Code)} {cn : Str} {cs : Scope} {a : Addr} {ccd : Value} {cl : List (Str × Addr)} {A₀ : Around} {base h₀ : Heap} {L : Addr} {m : Str → Option Value} {s : Shared} {Q E : Value → Shared → Prop}
  {r k : Addr} {us : List Value} {xs : List Int} {xv : Int} {tx : Tok} {n1 n2 : Nat} {keep : List (Addr × Obj)}
  (B : Below A₀ base [] h₀) (X : (hd.heap_39 w.params).In h₀) (T : Top p loose mean mg mb h₀) (hk : cs.kind = .function) (hdp : dp + 6 < recursionLimit) (hun : un + 90 < cLine)
  (F : Fr h₀ L s.heap m) (N : News h₀ L s.heap keep) (hr : (r, listOf us.toArray n1) ∈ keep) (hkk : (k, listOf [Value.int xv tx].toArray n2) ∈ keep)
  (hu : IntsAre us xs) (hlen : xs.length < 1000)
  (hQ : ∀ q vs k h' tk, IntsAre vs (keepsX xv xs) → Fr h₀ L h' m → News h₀ L h' ((q, listOf vs.toArray k) :: keep) → (∀ p ∈ keep, p.1 < q) → Q (.ref q) { s with heap := h', toks := tk }) :
  wpAny (model PySem.Challenge.rw_ik0172_01.row.prog w) (ktrTop dp un gd cn cs L a ccd cl []) (call (.ref 65) [.ref r, .ref k]) Q E s := by
  walk_at "mine fill"
  have hul : us.length < 1000 := by rw [hu.length]; exact hlen
  refine wpAny_call ?_
  k_dflt (walk_at "mine enterT")
  walk_at "mine steps"
  k_dflt (refine' call_clsM ?k1 ?k2 ?k3 ?k4 ?k5 ?k6 ?_; (case k1 => k_asm); (case k2 => k_asm); (case k3 => k_asm); (case k4 => k_is); (case k5 => k_is); (case k6 => k_is); k_whole; intro x' d' h' F' N' l1 l2 l3; (have l9 := l1); (try k_lt l9); (have l8 := l2); (try k_lt l8); (try k_sweep))
  k_dflt (walk_at "mine enter")
  walk_at "mine steps"
  rename Fr _ _ _ _ => F9
  rename News _ _ _ _ => N9
  refine' list_own (F := F9) (N := N9) (xs := xs) (us := us) (n1 := n1) (k := k) (xv := xv) (tx := tx) (n2 := n2) (B := ?B) (X := ?X) (T := ?T) (hk := rfl) (hdp := by show dp + 1 + 2 < recursionLimit; omega) (hun := by show un + 3 + 60 < cLine; omega)
    (hx := List.mem_cons_self) (hdd := List.mem_cons_of_mem _ List.mem_cons_self) (hmw := List.mem_cons_of_mem _ (List.mem_cons_of_mem _ List.mem_cons_self)) (hr := by k_mem) (hkk := by k_mem) (hne := by k_all) (hu := hu) (hlen := hlen) ?_
  case B => assumption
  case X => assumption
  case T => assumption
  intro S vs' c' g2 h2 tk2 hv T2 F2 N2 B2 hlt
  k_unfold
  try dsimp only
  refine leaveS0_ F2 N2 T2 (fun kF kN => ?_)
  exact hQ S vs' c' h2 tk2 hv kF (News.sub kN (fun q hq => by
    rcases List.mem_cons.mp hq with rfl | hq
    · exact List.mem_cons_self
    · exact List.mem_cons_of_mem _ (List.mem_cons_of_mem _ (List.mem_cons_of_mem _ (List.mem_cons_of_mem _ hq))))) (fun q hq => hlt q (List.mem_cons_of_mem _ (List.mem_cons_of_mem _ (List.mem_cons_of_mem _ hq))))
end
section
local macro_rules | `(tactic| walk_at "mine fill") => `(tactic| ((rename Frag.In _ _ => X); (have hd0 : PySem.Challenge.rw_ik0172_01.name = PySem.Challenge.rw_ik0172_01.name := rfl); revert X hd0; k_fill; intro X hd0; clear hd0))
local macro_rules | `(tactic| walk_at "mine stop") => `(tactic| first | (with_reducible show wpAny _ _ (exec (Stmt.While _ _ _ _) _) _ _ _) | (with_reducible show wpAny _ _ (exec (Stmt.For _ _ _ _ _) _) _ _ _) | (with_reducible show wpAny _ _ (pyIter _) _ _ _) | (with_reducible show wpAny _ _ (call (.builtin "list.pop") _) _ _ _) | (with_reducible show wpAny _ _ (call (.builtin "list.remove") _) _ _ _))
local macro_rules | `(tactic| walk_at "mine steps") => `(tactic| repeat' ((fail_if_success (walk_at "mine stop")); first | (k_unfold; (try dsimp only)) | walk1 | (dsimp only; walk1) | (leave1; walk_say "STEP leave1"; try dsimp only) | fail "no step"))
local macro_rules | `(tactic| k_all) => `(tactic| first | assumption | exact ne_of_lts (by first | assumption | exact tl1 (by assumption) | exact tl1 (tl1 (by assumption)) | exact tl1 (tl1 (tl1 (by assumption))) | exact tl1 (tl1 (tl1 (tl1 (by assumption)))) | exact kst_ltOf (by assumption) | exact kst_ltOf (And.right (by assumption)) | exact kst_ltOf (And.right (And.right (by assumption))) | exact kst_ltOf (And.right (And.right (And.right (by assumption)))) | exact kst_ltOf (And.right (And.right (And.right (And.right (by assumption))))) | exact kst_ltOf (And.right (And.right (And.right (And.right (And.right (by assumption)))))) | exact kst_ltOf (And.right (And.right (And.right (And.right (And.right (And.right (by assumption))))))) | exact kst_ltOf (And.right (And.right (And.right (And.right (And.right (And.right (And.right (by assumption)))))))) | exact kst_ltOf (And.right (And.right (And.right (And.right (And.right (And.right (And.right (And.right (by assumption)))))))))))
local macro_rules | `(tactic| walk_at "call builtin:len") => `(tactic| ((with_reducible show wpAny _ _ (call (Value.builtin "len") [Value.ref _]) _ _ _); k_dflt (refine' kr_len ?N ?m ?i ?z ?_; (case N => k_asm); (case m => k_mem); (case i => assumption); (case z => omega))))
local macro_rules | `(tactic| walk_at "truthy ref") => `(tactic| ((with_reducible show wpAny _ _ (truthy (Value.ref _)) _ _ _); k_dflt (refine' kr_truthy ?N ?m ?i ?z ?_; (case N => k_asm); (case m => k_mem); (case i => assumption); (case z => omega))))
local macro_rules | `(tactic| walk_at "subscriptTail") => `(tactic| ((with_reducible show wpAny _ _ (subscriptTail _ _ (Value.ref _) (Value.int _ _)) _ _ _); k_dflt (refine' kr_item ?N ?m ?i ?z ?a ?b ?_; (case N => k_asm); (case m => k_mem); (case i => assumption); (case z => omega); (case a => omega); (case b => omega); k_whole); intro _))
local macro_rules | `(tactic| walk_at "compareOp In int ref") => `(tactic| ((with_reducible show wpAny _ _ (compareOp CmpOp.In (Value.int _ _) (Value.ref _)) _ _ _); k_dflt (refine' kr_in ?N ?m ?i ?_; (case N => k_asm); (case m => k_mem); (case i => assumption))))
local macro_rules | `(tactic| walk_at "compareOp NotIn int ref") => `(tactic| ((with_reducible show wpAny _ _ (compareOp CmpOp.NotIn (Value.int _ _) (Value.ref _)) _ _ _); k_dflt (refine' kr_notin ?N ?m ?i ?_; (case N => k_asm); (case m => k_mem); (case i => assumption))))
local macro_rules | `(tactic| k_mem) => `(tactic| first | with_reducible assumption | with_reducible exact List.mem_cons_self | with_reducible exact List.mem_append_left _ (by k_mem) | with_reducible exact List.mem_append_right _ (by k_mem) | (with_reducible refine List.mem_cons_of_mem _ ?_; k_mem) | assumption)
local macro_rules | `(tactic| k_memK) => `(tactic| first | with_reducible assumption | with_reducible exact List.mem_cons_self | with_reducible exact List.mem_append_left _ (by k_memK) | with_reducible exact List.mem_append_right _ (by k_memK) | (with_reducible refine List.mem_cons_of_mem _ ?_; k_memK) | assumption)
local macro_rules | `(tactic| walk_at "mine enter") => `(tactic| (refine' code_def ?k1 ?k2 ?k3 ?k4 ?k5 ?kA ?kF ?kK ?k6 ?k7 ?k8 ?k9 ?kB ?_ ?c2 ?c3 ?c4 ?c5; (case kA => exact rfl); (case kF => exact rfl); (case kK => first | assumption | exact rfl); (case k1 => k_asm); (case k2 => k_asm); (case k3 => k_asm); (case k4 => k_asm); (case k5 => k_asm); (case k6 => k_is); (case k7 => k_is); (case k8 => ktr_room); (case k9 => first | exact BindsTo.of_eq rfl | exact binds_K (by k_in) rfl (by k_is) rfl rfl rfl | fail "mine enter: binds"); (case c5 => decide); (case kB => exact locs rfl); (case c2 => exact rfl); (case c3 => exact rfl); (case c4 => exact rfl); k_whole; intro g' L' h' FG' F' N' B' X' T'; (try dsimp only); (try k_fold)))
local macro_rules | `(tactic| walk_at "spliced") => `(tactic| first | refine args_cons ?_ | (refine args_nil ?_; (try dsimp only [List.cons_append, List.nil_append])))
local macro_rules | `(tactic| walk_at "getMethod ref") => `(tactic| ((with_reducible show wpAny _ _ (getMethod (Value.ref _) (Str.ofString "append") _) _ _ _); (refine' listMethod_K ?N ?m PySem.F.slot_list_append PySem.F.type_list_append ?_; (case N => k_asm); (case m => k_mem))))
local macro_rules | `(tactic| walk_at "mine ints") => `(tactic| first | assumption | exact IntsAre.nil | exact IntsAre.cons _ _ (by walk_at "mine ints"))
local macro_rules | `(tactic| walk_at "mine len") => `(tactic| ((try simp only [List.length_append, List.length_cons, List.length_nil, List.length_replicate, List.length_take, List.length_drop]); omega))
section
variable {prog : Program} {w : World} {A : Around} {E : Value → Shared → Prop} {s : Shared} {env : Env} {h₀ : Heap} {body : List Stmt} {Q : Flow → Shared → Prop}
def B64I (o : Addr) (keep : List (Addr × Obj)) (st : List Int × Int × Int) (m' : Str → Option Value) (nx : List (Addr × Obj)) : Prop :=
  ∃ vs c t1 t2, m' (Str.ofString "out") = some (.ref o) ∧ m' (Str.ofString "leftbits") = some (.int st.2.1 t1) ∧ m' (Str.ofString "leftchar") = some (.int st.2.2 t2) ∧ m' (Str.ofString "newline") = some (.bool false) ∧
    nx = (o, listOf vs.toArray c) :: keep ∧ IntsAre vs st.1
abbrev b64Fr (o : Addr) (lb lc : Int) (t1 t2 : Tok) (u : Str → Option Value) : Str → Option Value := fun y => if y = Str.ofString "out" then some (.ref o) else if y = Str.ofString "leftbits" then some (.int lb t1) else if y = Str.ofString "leftchar" then some (.int lc t2) else if y = Str.ofString "newline" then some (.bool false) else u y
theorem b64Fr_eq {o : Addr} {lb lc : Int} {t1 t2 : Tok} {u : Str → Option Value} (e1 : u (Str.ofString "out") = some (.ref o)) (e2 : u (Str.ofString "leftbits") = some (.int lb t1)) (e3 : u (Str.ofString "leftchar") = some (.int lc t2)) (e4 : u (Str.ofString "newline") = some (.bool false)) : b64Fr o lb lc t1 t2 u = u := by
  funext y
  unfold b64Fr
  by_cases h1 : y = Str.ofString "out"
  · rw [if_pos h1, h1, e1]
  · rw [if_neg h1]
    by_cases h2 : y = Str.ofString "leftbits"
    · rw [if_pos h2, h2, e2]
    · rw [if_neg h2]
      by_cases h3 : y = Str.ofString "leftchar"
      · rw [if_pos h3, h3, e3]
      · rw [if_neg h3]
        by_cases h4 : y = Str.ofString "newline"
        · rw [if_pos h4, h4, e4]
        · rw [if_neg h4]
theorem b64_end {L o : Addr} {keep own : List (Addr × Obj)} {st : List Int × Int × Int} {c tk : Nat} {t1 t2 : Tok} {m' : Str → Option Value} {h' : Heap} {s₁ : Shared} {vs : List Value} (F : Fr h₀ L h' m') (N : News h₀ L h' ((o, listOf vs.toArray c) :: (keep ++ own)))
    (e1 : m' (Str.ofString "out") = some (.ref o)) (e2 : m' (Str.ofString "leftbits") = some (.int st.2.1 t1)) (e3 : m' (Str.ofString "leftchar") = some (.int st.2.2 t2)) (e4 : m' (Str.ofString "newline") = some (.bool false)) (hv : IntsAre vs st.1) :
    InvEndN h₀ L (B64I o keep st) own (o :: keep.map (·.1)) s₁ { s₁ with heap := h', toks := tk } :=
  InvEndN.intro (nx := (o, listOf vs.toArray c) :: keep) F N ⟨vs, c, t1, t2, e1, e2, e3, e4, rfl, hv⟩ (by simp) (fun p hp => by
    rcases List.mem_cons.mp hp with rfl | hp
    · exact List.mem_cons_self
    · exact List.mem_cons_of_mem _ (List.mem_append_left _ hp)) (fun p hp => List.mem_cons_of_mem _ (List.mem_append_right _ hp))
theorem b64_loop {o : Addr} {ns : List Int} {tb : Tok} {m₀ : Str → Option Value} {keep : List (Addr × Obj)} {t1 t2 : Tok} (hns : ∀ n ∈ ns, 0 ≤ n ∧ n < 256) (hlen : ns.length < 100) (hko : ∀ p ∈ keep, p.1 < o)
    (hh : A.handled = none) (F : Fr h₀ env.locals s.heap m₀) (N : News h₀ env.locals s.heap ((o, listOf #[] 0) :: keep))
    (e1 : m₀ (Str.ofString "out") = some (.ref o)) (e2 : m₀ (Str.ofString "leftbits") = some (.int 0 t1)) (e3 : m₀ (Str.ofString "leftchar") = some (.int 0 t2)) (e4 : m₀ (Str.ofString "newline") = some (.bool false))
    (turn : ∀ (st : List Int × Int × Int) (k : Int) t vs c t1 t2 (u : Str → Option Value) h tk own, 0 ≤ k → k < 256 → (st.2.1 = 0 ∨ st.2.1 = 2 ∨ st.2.1 = 4) → 0 ≤ st.2.2 → st.2.2 < 65536 → vs.length < 300 → (∀ p ∈ keep ++ own, p.1 ≠ o) → IntsAre vs st.1 →
      Fr h₀ env.locals h (fun y => if y = Str.ofString "b" then some (.int k t) else b64Fr o st.2.1 st.2.2 t1 t2 u y) → News h₀ env.locals h ((o, listOf vs.toArray c) :: (keep ++ own)) →
      wpAny (model prog w) A (execs body env) (InvPostN h₀ env.locals (B64I o keep (bstep st k)) own (o :: keep.map (·.1)) { s with heap := h, toks := tk } Q) E { s with heap := h, toks := tk })
    (done : ∀ vs c t1 t2 (u : Str → Option Value) h tk, IntsAre vs (b64st ns).1 → vs.length < 300 → Fr h₀ env.locals h (b64Fr o (b64st ns).2.1 (b64st ns).2.2 t1 t2 u) → News h₀ env.locals h ((o, listOf vs.toArray c) :: keep) → Q .next { s with heap := h, toks := tk }) :
    wpAny (model prog w) A (pyIter (.bytes (byteArr ns) tb)) (fun it s₂ => LoopAtV prog w A h₀ env (Str.ofString "b") body Q E it s₂) E s := by
  have hbi : KBw.bInts (byteArr ns) = ns := KBa.ints_make (fun n hn => hns n hn)
  refine KBw.pyIter_bytes ?_
  have W := KBw.walks (prog := prog) (w := w) hh s.heap.objs.size (byteArr ns) tb
  rw [byteArr_size] at W
  have ltS : ∀ p ∈ (o, listOf #[] 0) :: keep, p.1 < s.heap.objs.size := fun p hp => Heap.lt_size (N p hp).1
  refine loop_invN (news := (o, listOf #[] 0) :: keep) (fun i m nx => B64I o keep (b64st (ns.take i)) m nx) W ?_ ?_ ?_ ?_ ⟨_, Heap.get?_push_size _ rfl, rfl, rfl⟩ (F.push _) (fun p hp => ⟨Heap.get?_push_of_some _ (N p hp).1, (N p hp).2⟩) ⟨[], 0, t1, t2, e1, e2, e3, e4, rfl, .nil⟩ ?_ ?_
  · intro hm
    exact absurd F.ns.lt ((List.mem_singleton.mp hm) ▸ Nat.lt_irrefl _)
  · intro b' hb
    rw [List.mem_singleton.mp hb]
    exact next_is_new F
  · intro p hp hI
    exact absurd (ltS p hp) ((List.mem_singleton.mp hI) ▸ Nat.lt_irrefl _)
  · intro p hp hI
    exact absurd (ltS p hp) ((List.mem_singleton.mp hI) ▸ Nat.lt_irrefl _)
  · rintro i v m₁ nx h tk own hi ⟨n, u, hn, rfl⟩ _ hoff ⟨vs, c, t1, t2, e1, e2, e3, e4, rfl, hv⟩ F₁ N₁
    have hn' := KBw.ints_get hn
    rw [hbi] at hn'
    have hmem := hns _ (List.mem_of_getElem? hn')
    have hok := b64st_ok (ns.take i)
    have hst : b64st (ns.take (i + 1)) = bstep (b64st (ns.take i)) (n.toNat : Int) := by
      unfold b64st
      rw [List.take_add_one, hn', List.foldl_append]
      rfl
    have hil : (ns.take i).length ≤ i := by rw [List.length_take]; exact Nat.min_le_left _ _
    rw [hst]
    refine turn (b64st (ns.take i)) _ u vs c t1 t2 m₁ h tk own hmem.1 hmem.2 hok.1 hok.2.1 hok.2.2.1 ?_ (fun p hp => (List.mem_append.mp hp).elim (fun hp => Nat.ne_of_lt (hko p hp)) fun hp => hoff p hp o (List.mem_cons_self)) hv ?_ N₁
    · have := hok.2.2.2
      rw [hv.length]
      omega
    · have := congrFun (b64Fr_eq e1 e2 e3 e4)
      have e5 : (fun y => if y = Str.ofString "b" then some (Value.int (n.toNat : Int) u) else b64Fr o (b64st (ns.take i)).2.1 (b64st (ns.take i)).2.2 t1 t2 m₁ y) = fun y => if y = Str.ofString "b" then some (Value.int (n.toNat : Int) u) else m₁ y := by
        funext y
        rw [this y]
      rw [e5]
      exact F₁
  · rintro m₁ nx h tk ⟨vs, c, t1, t2, e1, e2, e3, e4, rfl, hv⟩ F₁ N₁
    rw [List.take_length] at e2 e3 hv
    have hok := b64st_ok ns
    refine done vs c t1 t2 m₁ h tk hv ?_ ?_ N₁
    · have := hok.2.2.2
      rw [hv.length]
      omega
    · rw [b64Fr_eq e1 e2 e3 e4]
      exact F₁
end
local macro_rules | `(tactic| walk_at "mine steps2") => `(tactic| repeat' (first | (k_unfold; (try dsimp only)) | walk1 | (dsimp only; walk1) | (leave1; walk_say "STEP leave1"; try dsimp only) | fail "no step"))
local macro_rules | `(tactic| walk_at "mine fact") => `(tactic| first | exact (bw63 _).1 | exact (bw63 _).2 | exact (bw3 _).1 | exact (bw3 _).2 | exact (bw15 _).1 | exact (bw15 _).2)
local macro_rules | `(tactic| walk_at "subscriptTail") => `(tactic| ((with_reducible show wpAny _ _ (subscriptTail _ _ (Value.bytes _ _) (Value.int _ _)) _ _ _); k_dflt (refine' tb_item ?a ?b ?_; (case a => walk_at "mine fact"); (case b => walk_at "mine fact"))))
local macro_rules | `(tactic| walk_at "binaryOp LShift int int") => `(tactic| ((with_reducible refine lshift_int_small ?kb1 ?kb2 ?kb3 ?_); (case kb1 => decide); (case kb2 => decide); (case kb3 => first | exact bw_s3 _ | exact bw_s15 _ | omega)))
local macro_rules | `(tactic| walk_at "call ref") => `(tactic| (refine wpAny_call ?_; k_dflt (walk_at "mine enter")))
local macro_rules | `(tactic| walk_at "call type:type") => `(tactic| ((with_reducible show wpAny _ _ (call _ [Value.bytes _ _]) _ _ _); k_dflt (refine call_type_of (Tx := "bytes") rfl (by decide +kernel) ?_)))
set_option maxRecDepth 100000 in
set_option maxHeartbeats 8000000 in
theorem b64_call {w : World} {p : Program} {loose : List Str} {mean : ExcName → Option Value} {mg mb : Str → Option Value}
  {dp un : Nat} {gd : Option (List Code)} {cn : Str} {cs : Scope} {a : Addr} {ccd : Value} {cl : List (Str × Addr)} {outer : List Env} {A₀ : Around} {base h₀ : Heap} {L : Addr} {m : Str → Option Value} {s : Shared} {Q E : Value → Shared → Prop}
  {ns : List Int} {t : Tok} {keep : List (Addr × Obj)}
  (B : Below A₀ base outer h₀) (X : (hd.heap_39 w.params).In h₀) (T : Top p loose mean mg mb h₀) (hk : cs.kind = .function) (hdp : dp + 6 < recursionLimit) (hun : un + 90 < cLine)
  (F : Fr h₀ L s.heap m) (N : News h₀ L s.heap keep) (hns : ∀ n ∈ ns, 0 ≤ n ∧ n < 256) (hlen : ns.length < 100)
  (hQ : ∀ t h' tk, Fr h₀ L h' m → News h₀ L h' keep → Q (.bytes (byteArr (b64 ns)) t) { s with heap := h', toks := tk }) :
  wpAny (model PySem.Challenge.rw_ik0172_01.row.prog w) (ktrTop dp un gd cn cs L a ccd cl outer) (call (.ref 95) [.bytes (byteArr ns) t]) Q E s := by
  walk_at "mine fill"
  refine wpAny_call ?_
  k_dflt (walk_at "mine enter")
  walk_at "mine steps"
  rename Fr _ _ _ _ => F1
  refine For_invVF F1 (by rfl) (by rfl) ?_
  walk_at "mine steps"
  rename Fr _ _ _ _ => F2
  rename News _ _ _ _ => N2
  refine b64_loop hns hlen (by assumption) (by rfl) F2 N2 (by rfl) (by rfl) (by rfl) (by rfl) ?_ ?_
  · clear F2 N2
    rintro ⟨out, lb, lc⟩ kb t vs c t1 t2 u h tk own hk0 hk1 hlb hl0 hl1 hvl hne hv F3 N3
    dsimp only at hlb hl0 hl1 hv F3
    rcases hlb with rfl | rfl | rfl
    · walk_at "mine steps"
      rename Fr _ _ _ _ => F4
      rw [bw_step hk0 hk1] at F4
      walk_at "mine steps2"
      rename Fr _ _ _ _ => F5
      rename News _ _ _ _ => N5
      simp only [List.push_toArray, List.append_assoc, List.cons_append, List.nil_append, bw_0, bw_2, bw_4, bw_4b, bw_e3, bw_e15] at N5
      exact b64_end F5 N5 rfl rfl rfl rfl (hv.append (.cons _ _ .nil))
    · walk_at "mine steps"
      rename Fr _ _ _ _ => F4
      rw [bw_step hk0 hk1] at F4
      walk_at "mine steps2"
      rename Fr _ _ _ _ => F5
      rename News _ _ _ _ => N5
      simp only [List.push_toArray, List.append_assoc, List.cons_append, List.nil_append, bw_0, bw_2, bw_4, bw_4b, bw_e3, bw_e15] at N5
      exact b64_end F5 N5 rfl rfl rfl rfl (hv.append (.cons _ _ .nil))
    · walk_at "mine steps"
      rename Fr _ _ _ _ => F4
      rw [bw_step hk0 hk1] at F4
      walk_at "mine steps2"
      rename Fr _ _ _ _ => F5
      rename News _ _ _ _ => N5
      simp only [List.push_toArray, List.append_assoc, List.cons_append, List.nil_append, bw_0, bw_2, bw_4, bw_4b, bw_e3, bw_e15] at N5
      exact b64_end F5 N5 rfl rfl rfl rfl (hv.append (.cons _ _ (.cons _ _ .nil)))
  · rintro vs c t1 t2 u h tk hv hvl F3 N3
    have hok := b64st_ok ns
    have hb : b64 ns = b64pad (b64st ns) := rfl
    generalize b64st ns = st at hv F3 hok hb
    obtain ⟨out, lb, lc⟩ := st
    obtain ⟨hlb, hl0, hl1, _⟩ := hok
    dsimp only at hlb hl0 hl1 hv F3
    rcases hlb with rfl | rfl | rfl
    · walk_at "mine steps2"
      rename Fr _ _ _ _ => F5
      rename News _ _ _ _ => N5
      refine KBa.make_K (ns := b64 ns) F5 N5 rfl (News.isList N5 List.mem_cons_self) (by rw [hb]; exact hv) (b64_in ns) (by have := b64_len ns; omega) ?_
      intro h7 t7 k7 F7 N7 _
      walk_at "mine steps2"
      rename News _ _ _ _ => N8
      exact hQ _ _ _ (by assumption) (News.sub N8 (fun p hp => List.mem_cons_of_mem _ hp))
    · walk_at "mine steps2"
      rename Fr _ _ _ _ => F5
      rename News _ _ _ _ => N5
      simp only [List.push_toArray, List.append_assoc, List.cons_append, List.nil_append, bw_0, bw_2, bw_4, bw_4b, bw_e3, bw_e15] at N5
      refine KBa.make_K (ns := b64 ns) F5 N5 rfl (News.isList N5 List.mem_cons_self) (by rw [hb]; exact hv.append (.cons _ _ (.cons _ _ (.cons _ _ .nil)))) (b64_in ns) (by have := b64_len ns; omega) ?_
      intro h7 t7 k7 F7 N7 _
      walk_at "mine steps2"
      rename News _ _ _ _ => N8
      exact hQ _ _ _ (by assumption) (News.sub N8 (fun p hp => List.mem_cons_of_mem _ hp))
    · walk_at "mine steps2"
      rename Fr _ _ _ _ => F5
      rename News _ _ _ _ => N5
      simp only [List.push_toArray, List.append_assoc, List.cons_append, List.nil_append, bw_0, bw_2, bw_4, bw_4b, bw_e3, bw_e15] at N5
      refine KBa.make_K (ns := b64 ns) F5 N5 rfl (News.isList N5 List.mem_cons_self) (by rw [hb]; exact hv.append (.cons _ _ (.cons _ _ .nil))) (b64_in ns) (by have := b64_len ns; omega) ?_
      intro h7 t7 k7 F7 N7 _
      walk_at "mine steps2"
      rename News _ _ _ _ => N8
      exact hQ _ _ _ (by assumption) (News.sub N8 (fun p hp => List.mem_cons_of_mem _ hp))
end
section
local macro_rules | `(tactic| walk_at "mine fill") => `(tactic| ((rename Frag.In _ _ => X); (have hd0 : PySem.Challenge.rw_ik0172_01.name = PySem.Challenge.rw_ik0172_01.name := rfl); revert X hd0; k_fill; intro X hd0; clear hd0))
local macro_rules | `(tactic| walk_at "mine stop") => `(tactic| first | (with_reducible show wpAny _ _ (exec (Stmt.While _ _ _ _) _) _ _ _) | (with_reducible show wpAny _ _ (exec (Stmt.For _ _ _ _ _) _) _ _ _) | (with_reducible show wpAny _ _ (pyIter _) _ _ _) | (with_reducible show wpAny _ _ (call (.builtin "list.pop") _) _ _ _) | (with_reducible show wpAny _ _ (call (.builtin "list.remove") _) _ _ _))
local macro_rules | `(tactic| walk_at "mine steps") => `(tactic| repeat' ((fail_if_success (walk_at "mine stop")); first | (k_unfold; (try dsimp only)) | walk1 | (dsimp only; walk1) | (leave1; walk_say "STEP leave1"; try dsimp only) | fail "no step"))
local macro_rules | `(tactic| k_all) => `(tactic| first | assumption | exact ne_of_lts (by first | assumption | exact tl1 (by assumption) | exact tl1 (tl1 (by assumption)) | exact tl1 (tl1 (tl1 (by assumption))) | exact tl1 (tl1 (tl1 (tl1 (by assumption)))) | exact kst_ltOf (by assumption) | exact kst_ltOf (And.right (by assumption)) | exact kst_ltOf (And.right (And.right (by assumption))) | exact kst_ltOf (And.right (And.right (And.right (by assumption)))) | exact kst_ltOf (And.right (And.right (And.right (And.right (by assumption))))) | exact kst_ltOf (And.right (And.right (And.right (And.right (And.right (by assumption)))))) | exact kst_ltOf (And.right (And.right (And.right (And.right (And.right (And.right (by assumption))))))) | exact kst_ltOf (And.right (And.right (And.right (And.right (And.right (And.right (And.right (by assumption)))))))) | exact kst_ltOf (And.right (And.right (And.right (And.right (And.right (And.right (And.right (And.right (by assumption)))))))))))
local macro_rules | `(tactic| walk_at "call builtin:len") => `(tactic| ((with_reducible show wpAny _ _ (call (Value.builtin "len") [Value.ref _]) _ _ _); k_dflt (refine' kr_len ?N ?m ?i ?z ?_; (case N => k_asm); (case m => k_mem); (case i => assumption); (case z => omega))))
local macro_rules | `(tactic| walk_at "truthy ref") => `(tactic| ((with_reducible show wpAny _ _ (truthy (Value.ref _)) _ _ _); k_dflt (refine' kr_truthy ?N ?m ?i ?z ?_; (case N => k_asm); (case m => k_mem); (case i => assumption); (case z => omega))))
local macro_rules | `(tactic| walk_at "subscriptTail") => `(tactic| ((with_reducible show wpAny _ _ (subscriptTail _ _ (Value.ref _) (Value.int _ _)) _ _ _); k_dflt (refine' kr_item ?N ?m ?i ?z ?a ?b ?_; (case N => k_asm); (case m => k_mem); (case i => assumption); (case z => omega); (case a => omega); (case b => omega); k_whole); intro _))
local macro_rules | `(tactic| walk_at "compareOp In int ref") => `(tactic| ((with_reducible show wpAny _ _ (compareOp CmpOp.In (Value.int _ _) (Value.ref _)) _ _ _); k_dflt (refine' kr_in ?N ?m ?i ?_; (case N => k_asm); (case m => k_mem); (case i => assumption))))
local macro_rules | `(tactic| walk_at "compareOp NotIn int ref") => `(tactic| ((with_reducible show wpAny _ _ (compareOp CmpOp.NotIn (Value.int _ _) (Value.ref _)) _ _ _); k_dflt (refine' kr_notin ?N ?m ?i ?_; (case N => k_asm); (case m => k_mem); (case i => assumption))))
local macro_rules | `(tactic| k_mem) => `(tactic| first | with_reducible assumption | with_reducible exact List.mem_cons_self | with_reducible exact List.mem_append_left _ (by k_mem) | with_reducible exact List.mem_append_right _ (by k_mem) | (with_reducible refine List.mem_cons_of_mem _ ?_; k_mem) | assumption)
local macro_rules | `(tactic| k_memK) => `(tactic| first | with_reducible assumption | with_reducible exact List.mem_cons_self | with_reducible exact List.mem_append_left _ (by k_memK) | with_reducible exact List.mem_append_right _ (by k_memK) | (with_reducible refine List.mem_cons_of_mem _ ?_; k_memK) | assumption)
local macro_rules | `(tactic| walk_at "mine enter") => `(tactic| (refine' code_def ?k1 ?k2 ?k3 ?k4 ?k5 ?kA ?kF ?kK ?k6 ?k7 ?k8 ?k9 ?kB ?_ ?c2 ?c3 ?c4 ?c5; (case kA => exact rfl); (case kF => exact rfl); (case kK => first | assumption | exact rfl); (case k1 => k_asm); (case k2 => k_asm); (case k3 => k_asm); (case k4 => k_asm); (case k5 => k_asm); (case k6 => k_is); (case k7 => k_is); (case k8 => ktr_room); (case k9 => first | exact BindsTo.of_eq rfl | exact binds_K (by k_in) rfl (by k_is) rfl rfl rfl | fail "mine enter: binds"); (case c5 => decide); (case kB => exact locs rfl); (case c2 => exact rfl); (case c3 => exact rfl); (case c4 => exact rfl); k_whole; intro g' L' h' FG' F' N' B' X' T'; (try dsimp only); (try k_fold)))
local macro_rules | `(tactic| walk_at "spliced") => `(tactic| first | refine args_cons ?_ | (refine args_nil ?_; (try dsimp only [List.cons_append, List.nil_append])))
local macro_rules | `(tactic| walk_at "getMethod ref") => `(tactic| ((with_reducible show wpAny _ _ (getMethod (Value.ref _) (Str.ofString "append") _) _ _ _); (refine' listMethod_K ?N ?m PySem.F.slot_list_append PySem.F.type_list_append ?_; (case N => k_asm); (case m => k_mem))))
local macro_rules | `(tactic| walk_at "mine ints") => `(tactic| first | assumption | exact IntsAre.nil | exact IntsAre.cons _ _ (by walk_at "mine ints"))
local macro_rules | `(tactic| walk_at "mine len") => `(tactic| ((try simp only [List.length_append, List.length_cons, List.length_nil, List.length_replicate, List.length_take, List.length_drop]); omega))
local macro_rules | `(tactic| walk_at "mine stop") => `(tactic| first | (with_reducible show wpAny _ _ (pyIter _) _ _ _) | (with_reducible show wpAny _ _ (binaryOp _ (Value.ref _) _) _ _ _) | (with_reducible show wpAny _ _ (subscriptTail _ (PySem.Expr.Slice _ _ _ _) _ _) _ _ _)  | (with_reducible show wpAny _ _ (exec (Stmt.For _ _ _ _ _) _) _ _ _))
def WrI (f : Addr) (lv : Int) (keep : List (Addr × Obj)) (xs : List Int) (i : Nat) (m' : Str → Option Value) (nx : List (Addr × Obj)) : Prop :=
  ∃ q vs c t1 t2, m' (Str.ofString "answer") = some (.ref q) ∧ m' (Str.ofString "filled") = some (.ref f) ∧ m' (Str.ofString "lacking") = some (.int lv t1) ∧ m' (Str.ofString "signs") = some (.bytes tb64.toArray t2) ∧
    nx = (q, listOf vs.toArray c) :: keep ∧ (∀ p ∈ keep, p.1 < q) ∧ IntsAre vs (wr4 ((filled xs).take (3 * i)))
theorem cut2 {h₀ h : Heap} {L : Addr} {x y a b : Addr × Obj} {l : List (Addr × Obj)} (N : News h₀ L h (x :: y :: a :: b :: l)) : News h₀ L h (x :: y :: l) := News.sub N fun p hp => by
  simp only [List.mem_cons] at hp ⊢
  rcases hp with h | h | h
  · exact .inl h
  · exact .inr (.inl h)
  · exact .inr (.inr (.inr (.inr h)))
theorem lt2 {q a : Addr} {o : Obj} {P R : Prop} {l : List (Addr × Obj)} (h : @LT.lt Nat _ a q ∧ P ∧ R ∧ AllLt q l) : ∀ p ∈ (a, o) :: l, p.1 < q := fun p hp => by
  rcases List.mem_cons.mp hp with rfl | hp
  · exact h.1
  · exact kst_ltOf h.2.2.2 p hp
theorem fr4 {u : Str → Option Value} {n1 n2 n3 n4 : Str} {v1 v2 v3 v4 : Value} (e1 : u n1 = some v1) (e2 : u n2 = some v2) (e3 : u n3 = some v3) (e4 : u n4 = some v4) : ∀ p ∈ [(n1, v1), (n2, v2), (n3, v3), (n4, v4)], u p.1 = some p.2 := by
  intro p hp
  simp only [List.mem_cons, List.not_mem_nil, or_false] at hp
  rcases hp with rfl | rfl | rfl | rfl
  · exact e1
  · exact e2
  · exact e3
  · exact e4
theorem wd (x : Int) : x.fdiv 4 = x / 4 ∧ x.fdiv 16 = x / 16 ∧ x.fdiv 64 = x / 64 ∧ x.fmod 4 = x % 4 ∧ x.fmod 16 = x % 16 ∧ x.fmod 64 = x % 64 :=
  ⟨Int.fdiv_eq_ediv_of_nonneg _ (by decide), Int.fdiv_eq_ediv_of_nonneg _ (by decide), Int.fdiv_eq_ediv_of_nonneg _ (by decide), Int.fmod_eq_emod_of_nonneg _ (by decide), Int.fmod_eq_emod_of_nonneg _ (by decide), Int.fmod_eq_emod_of_nonneg _ (by decide)⟩
local macro_rules | `(tactic| walk_at "mine fact") => `(tactic| (simp only [(wd _).1, (wd _).2.1, (wd _).2.2.1, (wd _).2.2.2.1, (wd _).2.2.2.2.1, (wd _).2.2.2.2.2]; omega))
local macro_rules | `(tactic| walk_at "subscriptTail") => `(tactic| ((with_reducible show wpAny _ _ (subscriptTail _ _ (Value.bytes _ _) (Value.int _ _)) _ _ _); k_dflt (refine' tb_item ?a ?b ?_; (case a => walk_at "mine fact"); (case b => walk_at "mine fact"))))
set_option maxRecDepth 100000 in
set_option maxHeartbeats 8000000 in
theorem written_call {w : World} {p : Program} {loose : List Str} {mean : ExcName → Option Value} {mg mb : Str → Option Value}
  {dp un : Nat} {gd : Option (List Code)} {cn : Str} {cs : Scope} {a : Addr} {ccd : Value} {cl : List (Str × Addr)} {outer : List Env} {A₀ : Around} {base h₀ : Heap} {L : Addr} {m : Str → Option Value} {s : Shared} {Q E : Value → Shared → Prop}
  {r : Addr} {us : List Value} {n : Nat} {xs : List Int} {keep : List (Addr × Obj)}
  (B : Below A₀ base outer h₀) (X : (hd.heap_39 w.params).In h₀) (T : Top p loose mean mg mb h₀) (hk : cs.kind = .function) (hdp : dp + 6 < recursionLimit) (hun : un + 90 < cLine)
  (F : Fr h₀ L s.heap m) (N : News h₀ L s.heap keep) (hr : (r, listOf us.toArray n) ∈ keep) (hu : IntsAre us xs) (hns : ∀ n ∈ xs, 0 ≤ n ∧ n < 256) (hlen : xs.length < 100)
  (hQ : ∀ q vs k h' tk, IntsAre vs (wr xs) → Fr h₀ L h' m → News h₀ L h' ((q, listOf vs.toArray k) :: keep) → (∀ p ∈ keep, p.1 < q) → Q (.ref q) { s with heap := h', toks := tk }) :
  wpAny (model PySem.Challenge.rw_ik0172_01.row.prog w) (ktrTop dp un gd cn cs L a ccd cl outer) (call (.ref 109) [.ref r]) Q E s := by
  walk_at "mine fill"
  refine wpAny_call ?_
  k_dflt (walk_at "mine enter")
  have hk0 : 0 ≤ (-(xs.length : Int)).fmod 3 ∧ (-(xs.length : Int)).fmod 3 ≤ 2 := by
    rw [Int.fmod_eq_emod_of_nonneg _ (by decide)]
    omega
  have hlk : lk xs.length ≤ 2 := lk_le _
  walk_at "mine steps"
  rename Fr _ _ _ _ => F1
  rename News _ _ _ _ => N1
  refine kr_mul F1 N1 (by k_mem) (.cons _ _ .nil) hk0.1 (by omega) ?_
  intro D2 us2 h2 F2 N2 l2 i2
  walk_at "mine steps"
  refine kr_add F2 N2 (by k_mem) (by k_mem) hu i2 (by rw [List.length_replicate]; omega) ?_
  intro D3 us3 h3 F3 N3 l3 i3
  have i3' : IntsAre us3 (filled xs) := i3
  clear i3
  walk_at "mine steps"
  rename Fr _ _ _ _ => F4
  obtain ⟨mm, hmm, hmm2⟩ := filled_len xs
  refine For_invVF F4 (by rfl) (by rfl) ?_
  have hfl : (filled xs).length < 1000 := by omega
  walk_at "mine steps"
  rename Fr _ _ _ _ => F5
  rename News _ _ _ _ => N5
  rename IsRange _ _ _ _ _ _ _ _ => hrg
  have hsz : Builtin.Range.rangeSize 0 ((filled xs).length : Int) 3 = (mm : Int) := by
    rw [rangeSize_pos (by decide) (by omega)]
    omega
  refine iter_rangeC (n := mm) (WrI D3 _ _ xs) rfl hrg (small_pos (by decide) (by decide) hsz (by omega) (by omega) (by decide) (by decide) (by omega) (by omega)) hsz F5 (cut2 N5) ⟨_, [], 0, _, _, by rfl, by rfl, by rfl, by rfl, rfl, lt2 (by assumption), .nil⟩ ?_ ?_
  · clear F5 N5 hrg
    rintro i t m₁ news₁ h tk own hi hoff ⟨q, vs, c, t1, t2, e1, e2, e3, e4, rfl, hq, hv⟩ F6 N6
    have F7 := Fr.lay1 _ F6 (fr4 e1 e2 e3 e4)
    clear F6 e1 e2 e3 e4
    simp only [frL] at F7
    walk_at "mine steps"
    rename Fr _ _ _ _ => F8
    rename News _ _ _ _ => N8
    obtain ⟨x, y, z, exyz, hx, hy, hz, hst⟩ := wr_step hmm hi
    have hx' := filled_in hns x hx
    have hy' := filled_in hns y hy
    have hz' := filled_in hns z hz
    refine kr_slice (s := ⟨_, _, _, _, _⟩) (ys := [x, y, z]) F8 N8 (by k_mem) i3' (IsPart.int _ _) (IsPart.int _ _) ?_ (by omega) ?_ (by with_unfolding_all rfl) (by intro _; with_unfolding_all rfl)
    · have := kmk_run (x := 0 + (i : Int) * 3) (y := 0 + (i : Int) * 3 + 3) i3' (by omega) (by omega)
      rw [show (0 + (i : Int) * 3).toNat = 3 * i by omega, show min (0 + (i : Int) * 3 + 3).toNat (filled xs).length - 3 * i = 3 by omega, exyz] at this
      exact this
    intro D9 ws h9 F9 N9 l9 i9
    cases i9 with | cons _ _ i9 => ?_
    cases i9 with | cons _ _ i9 => ?_
    cases i9 with | cons _ _ i9 => ?_
    cases i9
    walk_at "mine steps"
    rename Fr _ _ _ _ => F10
    rename News _ _ _ _ => N10
    simp only [(wd _).1, (wd _).2.1, (wd _).2.2.1, (wd _).2.2.2.1, (wd _).2.2.2.2.1, (wd _).2.2.2.2.2] at N10
    have hwl : (wr4 ((filled xs).take (3 * i))).length < 1000 := by
      rw [wr4_length i _ (by rw [List.length_take]; omega)]
      omega
    refine kr_add F10 N10 (by k_mem) (by k_mem) hv (ys := four x y z) (.cons _ _ (.cons _ _ (.cons _ _ (.cons _ _ .nil)))) (by rw [show (four x y z).length = 4 from rfl]; omega) ?_
    intro D11 us11 h11 F11 N11 l11 i11
    walk_at "mine steps"
    rename Fr _ _ _ _ => F12
    rename News _ _ _ _ => N12
    refine InvEndG.intro (nx := (D11, listOf us11.toArray 0) :: (D3, listOf us3.toArray 0) :: keep) F12 N12 ⟨D11, us11, 0, _, _, by rfl, by rfl, by rfl, by rfl, rfl, ?_, ?_⟩ ?_ ?_ ?_
    · intro p hp
      refine l11 p ?_
      simp only [List.mem_cons, List.mem_append, List.cons_append] at hp ⊢
      rcases hp with h | h
      · exact .inr (.inr (.inr (.inl h)))
      · exact .inr (.inr (.inr (.inr (.inl h))))
    · rw [hst]
      exact i11
    · intro p hp b hb
      simp only [List.map_cons, List.mem_cons] at hb
      rcases hb with rfl | hb
      · refine Nat.ne_of_lt (l11 p ?_)
        simp only [List.mem_cons, List.mem_append, List.cons_append]
        exact .inr (.inr (.inr (.inr (.inr hp))))
      · refine hoff p hp b ?_
        simp only [List.map_cons, List.mem_cons]
        exact .inr hb
    · intro p hp
      simp only [List.mem_cons, List.mem_append, List.cons_append] at hp ⊢
      rcases hp with h | h | h
      · exact .inl h
      · exact .inr (.inr (.inr (.inr (.inl h))))
      · exact .inr (.inr (.inr (.inr (.inr (.inl h)))))
    · intro p hp
      simp only [List.mem_cons, List.mem_append, List.cons_append]
      exact .inr (.inr (.inr (.inr (.inr (.inr hp)))))
  · rintro m₁ news₁ h tk ⟨q, vs, c, t1, t2, e1, e2, e3, e4, rfl, hq, hv⟩ F6 N6
    have F7 := Fr.lay _ F6 (fr4 e1 e2 e3 e4)
    clear F6 e1 e2 e3 e4
    simp only [frL] at F7
    have hall : (filled xs).take (3 * mm) = filled xs := List.take_of_length_le (by omega)
    rw [hall] at hv
    have hwl := wr4_length mm _ hmm
    have hwk := wr4_len xs
    have elk : ((lk xs.length : Nat) : Int) = (-(xs.length : Int)).fmod 3 := by
      unfold lk
      omega
    have hwl2 : (wr4 (filled xs)).length < 1000 := by omega
    walk_at "mine steps"
    rename Fr _ _ _ _ => F8
    rename News _ _ _ _ => N8
    refine kr_slice (s := ⟨_, _, _, _, _⟩) (ys := (wr4 (filled xs)).take ((wr4 (filled xs)).length - lk xs.length)) F8 N8 (by k_mem) hv IsPart.none (IsPart.int _ _) ?_ (by omega) ?_ (by with_unfolding_all rfl) (by intro _; with_unfolding_all rfl)
    · have := kmk_upto (y := ((wr4 (filled xs)).length : Int) - (-(xs.length : Int)).fmod 3) hv (by omega)
      rw [show (((wr4 (filled xs)).length : Int) - (-(xs.length : Int)).fmod 3).toNat = (wr4 (filled xs)).length - lk xs.length by omega] at this
      exact this
    intro D9 ws9 h9 F9 N9 l9 i9
    walk_at "mine steps"
    rename Fr _ _ _ _ => F10
    rename News _ _ _ _ => N10
    refine kr_mul F10 N10 (by k_mem) (.cons _ _ .nil) hk0.1 (by omega) ?_
    intro D11 us11 h11 F11 N11 l11 i11
    walk_at "mine steps"
    refine kr_add F11 N11 (by k_mem) (by k_mem) i9 i11 (by rw [List.length_replicate, List.length_take]; omega) ?_
    intro D12 us12 h12 F12 N12 l12 i12
    have i12' : IntsAre us12 (wr xs) := i12
    walk_at "mine steps"
    rename Fr _ _ _ _ => F13
    rename News _ _ _ _ => N13
    refine hQ D12 us12 0 _ _ i12' F13 (News.sub N13 fun p hp => ?_) fun p hp => l12 p ?_
    · simp only [List.mem_cons] at hp ⊢
      rcases hp with h | h
      · exact .inl h
      · exact .inr (.inr (.inr (.inr (.inr (.inr h)))))
    · simp only [List.mem_cons]
      exact .inr (.inr (.inr (.inr (.inr hp))))
end
section
section
set_option maxRecDepth 100000
variable {prog : Program} {w : World} {A : Around} {E : Value → Shared → Prop} {s : Shared}
theorem bytes_lenF : typeLookup (.type "bytes") "__len__" = pure (some (.builtin "bytes.__len__")) := by rw [typeLookup_type, builtinLookup_eq_fast]; kernel_rfl
def ByteAt (b : Array UInt8) (i : Nat) (v : Value) : Prop := ∃ c u, b[i]? = some c ∧ v = .int (c.toNat : Int) u
theorem extend_bytes {R : Result → Shared → Prop} (hh : A.handled = none) (b : Array UInt8) (t : Tok) (S : Addr) (res : Value) (c₀ : Nat) (hS : s.heap.get? S = some { cls := .type "list", data := .seq #[] c₀ })
    (hR : ∀ h' tk acc' c', (∀ b o, b ≠ S → s.heap.get? b = some o → h'.get? b = some o) → h'.get? S = some { cls := .type "list", dict := none, data := .seq acc' c', slots := #[] } →
      ItemsOf (ByteAt b) acc' b.size → R (.ok (.ret res)) { s with heap := h', toks := tk }) (hn : b.size ≤ sizeLine) :
    wpAny (model prog w) A.in1 (Builtin.List.listExtendWith (.ref S) (.bytes b t) res)
      (fun fin s' => match fin with | .done f => R (.ok f) s' | .again c' => c'.quiet = true ∧ codeAny (model prog w) A c' R s') (fun e s' => R (.error e) s') s := by
  have hSI : S ≠ s.heap.objs.size := Nat.ne_of_lt (Heap.lt_size hS)
  have hSf : S ∉ [s.heap.objs.size] := fun hm => hSI (List.mem_singleton.mp hm)
  unfold Builtin.List.listExtendWith
  refine wpAny_bind (wpAny_typeOf (T := "bytes") (v := .bytes b t) rfl ?_)
  have h1 : Builtin.List.listSameRef (.ref S) (.bytes b t) = false := rfl
  have h2 : (Value.type "bytes" == Value.type "list") = false := by decide
  have h3 : (Value.type "bytes" == Value.type "tuple") = false := by decide
  simp only [h1, h2, h3, Bool.or_false, Bool.false_eq_true, if_false]
  refine wpAny_bind (KBw.pyIter_bytes ?_)
  have W := KBw.walks (prog := prog) (w := w) (A := A.in1) hh s.heap.objs.size b t
  refine wpAny_bind (wpAny_holding ?_)
  unfold Builtin.List.listLengthHint
  refine wpAny_bind (wpAny_specialOf (T := "bytes") (v := .bytes b t) rfl bytes_lenF ?_)
  wp_delta
  refine wpAny_bind (wpAny_isInstance (T := "bytes") (v := .bytes b t) (b := true) rfl (by rw [isSubtype_type]; kernel_rfl) ?_)
  show wpAny _ _ (typeOf (Value.bytes b t) >>= _) _ _ _
  refine wpAny_bind (wpAny_typeOf (T := "bytes") (v := .bytes b t) rfl ?_)
  refine wpAny_pure ?_
  rw [if_neg (by decide)]
  refine wpAny_pure ⟨plainId_quiet PySem.F.plain_extend_loop _, codeAny_extend_loopS W.toS hn _ hSf _ b.size 0 _ _ _ rfl (Nat.zero_le _) ⟨_, Heap.get?_push_size _ rfl, rfl, rfl⟩ (Heap.get?_push_of_some _ hS) (ItemsOf.nil _) fun s' acc' c' hm hS' hacc => ?_⟩
  rw [Moved.eq_with hm]
  refine hR s'.heap s'.toks acc' c' (fun b ob hb e => hm.heap b ob (fun hmem => ?_) (Heap.get?_push_of_some _ e)) hS' hacc
  rcases List.mem_cons.mp hmem with e' | hmem
  · exact hb e'
  · exact absurd (Heap.lt_size e) (by rw [List.mem_singleton.mp hmem]; exact Nat.lt_irrefl _)
theorem list_init_bytes {R : Result → Shared → Prop} (hh : A.handled = none) (b : Array UInt8) (t : Tok) (S : Addr) (hS : s.heap.get? S = some { cls := .type "list", data := .seq #[] })
    (hR : ∀ h' tk acc' c', (∀ b o, b ≠ S → s.heap.get? b = some o → h'.get? b = some o) → h'.get? S = some { cls := .type "list", dict := none, data := .seq acc' c', slots := #[] } →
      ItemsOf (ByteAt b) acc' b.size → R (.ok (.ret .none)) { s with heap := h', toks := tk }) (hn : b.size ≤ sizeLine) :
    wpAny (model prog w) A.in1 (Builtin.«list.__init__» ⟨[.ref S, .bytes b t], []⟩)
      (fun fin s' => match fin with | .done f => R (.ok f) s' | .again c' => c'.quiet = true ∧ codeAny (model prog w) A c' R s') (fun e s' => R (.error e) s') s := by
  show wpAny _ _ (do let old ← Builtin.List.listItems (.ref S); Builtin.List.listUpdate (.ref S) (fun _ => #[]); letGo old.toList.reverse; Builtin.List.listExtendWith (.ref S) (.bytes b t) .none) _ _ s
  refine wpAny_bind ?_
  unfold Builtin.List.listItems
  refine wpAny_bind (wpAny_seqItems hS rfl (wpAny_pure ?_))
  show wpAny _ _ (updateSeq S (fun _ => #[]) >>= fun _ => letGo (#[] : Array Value).toList.reverse >>= fun _ => Builtin.List.listExtendWith (.ref S) (.bytes b t) .none) _ _ s
  refine wpAny_bind (wpAny_updateSeq hS rfl ?_)
  have hS₂ := Heap.get?_update_self (Obj.mapSeq (fun _ => (#[] : Array Value))) hS rfl
  have oth : ∀ b o, b ≠ S → s.heap.get? b = some o → (s.heap.update S (Obj.mapSeq (fun _ => (#[] : Array Value)))).get? b = some o :=
    fun b o hb e => (Heap.get?_update_other _ _ (Ne.symm hb)).trans e
  refine wpAny_bind (wpAny_letGo ?_)
  refine extend_bytes (hn := hn) hh b t S .none _ hS₂ fun h' tk acc' c' hk hS' hacc => ?_
  exact hR h' tk acc' c' (fun b o hb e => hk b o hb (oth b o hb e)) hS' hacc
theorem call_list_bytes {Q : Value → Shared → Prop} (hh : A.handled = none) (b : Array UInt8) (t : Tok)
    (hQ : ∀ h' tk acc' c', (∀ b o, s.heap.get? b = some o → h'.get? b = some o) →
      h'.get? s.heap.objs.size = some { cls := .type "list", dict := none, data := .seq acc' c', slots := #[] } → ItemsOf (ByteAt b) acc' b.size → Q (.ref s.heap.objs.size) { s with heap := h', toks := tk }) (hn : b.size ≤ sizeLine) :
    wpAny (model prog w) A (call (.type "list") [.bytes b t]) Q E s := by
  refine callType_codes (Q₁ := fun obj s₁ => obj = .ref s.heap.objs.size ∧ s₁ = { s with heap := s.heap.push { cls := .type "list", data := .seq #[] } }) PySem.F.called_list (PySem.F.typeCall_list_1 _) PySem.F.entry_list_init
    (code_list_new _ ⟨rfl, rfl⟩) fun obj s₁ h₁ => ?_
  obtain ⟨rfl, rfl⟩ := h₁
  have hS : (s.heap.push { cls := .type "list", data := .seq #[] }).get? s.heap.objs.size = some { cls := .type "list", data := .seq #[] } := Heap.get?_push_size _ rfl
  refine ⟨⟨_, hS, rfl⟩, PySem.F.args_list_init_2 _ _, list_init_bytes (A := A.in1) (hn := hn) hh b t _ hS fun h' tk acc' c' hk hS' hacc => ?_⟩
  exact ⟨rfl, hQ h' tk acc' c' (fun b o e => hk b o (Nat.ne_of_lt (Heap.lt_size e)) (Heap.get?_push_of_some _ e)) hS' hacc⟩
theorem kr_listB {h₀ : Heap} {L : Addr} {m : Str → Option Value} {news : List (Addr × Obj)} {ns : List Int} {t : Tok} {Q : Value → Shared → Prop} (hh : A.handled = none) (F : Fr h₀ L s.heap m) (N : News h₀ L s.heap news) (hr : ∀ n ∈ ns, 0 ≤ n ∧ n < 256) (hz : ns.length < 1000)
    (h : ∀ D us c h' tk, Fr h₀ L h' m → News h₀ L h' ((D, listOf (List.toArray us) c) :: news) → (∀ p ∈ news, p.1 < D) → IntsAre us ns → Q (.ref D) { s with heap := h', toks := tk }) :
    wpAny (model prog w) A (call (.type "list") [.bytes (byteArr ns) t]) Q E s := by
  have hbi : KBw.bInts (byteArr ns) = ns := KBa.ints_make (fun n hn => hr n hn)
  refine call_list_bytes hh _ t (fun h' tk acc c hk hD hI => ?_) (by rw [byteArr_size, sizeLine_eq]; omega)
  have hD' : h'.get? s.heap.objs.size = some (listOf (List.toArray acc.toList) c) := by
    rw [Array.toArray_toList]
    exact hD
  refine h _ acc.toList c h' tk (F.keeps hk) (news_pushed F N hk hD' rfl) (fun p hp => Heap.lt_size (N p hp).1) ?_
  rw [byteArr_size] at hI
  have : ∀ (us : List Value) (ks : List Int), us.length = ks.length → (∀ (j : Nat) v, us[j]? = some v → ∃ k u, ks[j]? = some k ∧ v = Value.int k u) → IntsAre us ks := by
    intro us
    induction us with
    | nil =>
      intro ks hl _
      cases ks with
      | nil => exact .nil
      | cons _ _ => simp at hl
    | cons v us ih =>
      intro ks hl hg
      cases ks with
      | nil => simp at hl
      | cons k ks =>
        obtain ⟨k', u, e1, rfl⟩ := hg 0 v rfl
        cases e1
        exact .cons _ _ (ih ks (by simpa using hl) fun j v hj => hg (j + 1) v hj)
  refine this _ _ (by rw [Array.length_toList]; exact hI.1) fun j v hj => ?_
  obtain ⟨cc, u, e1, rfl⟩ := hI.2 j v (by rw [← hj, Array.getElem?_toList])
  have e2 := KBw.ints_get e1
  rw [hbi] at e2
  exact ⟨_, u, e2, rfl⟩
end
end
section
/-- unlike ints, each where it comes first -/
def dd : List Int → List Int
  | [] => []
  | x :: l => x :: (dd l).filter (· ≠ x)
theorem mem_dd {x : Int} : ∀ {l : List Int}, x ∈ dd l ↔ x ∈ l
  | [] => Iff.rfl
  | y :: l => by
    show x ∈ y :: (dd l).filter (· ≠ y) ↔ _
    simp only [List.mem_cons, List.mem_filter, mem_dd (l := l), decide_eq_true_eq, ne_eq]
    by_cases h : x = y
    · simp [h]
    · simp [h]
theorem nodup_dd : ∀ l : List Int, (dd l).Nodup
  | [] => List.nodup_nil
  | y :: l => by
    refine List.nodup_cons.mpr ⟨?_, (nodup_dd l).filter _⟩
    simp
theorem fold_dd : ∀ (l acc : List Int), l.foldl latestS acc = acc ++ (dd l).filter (fun x => decide (x ∉ acc))
  | [], acc => by simp [dd]
  | x :: l, acc => by
    rw [List.foldl_cons, fold_dd l]
    show _ = acc ++ (x :: (dd l).filter (· ≠ x)).filter _
    unfold latestS
    by_cases h : x ∈ acc
    · rw [if_pos h, List.filter_cons, if_neg (by simpa using h), List.filter_filter]
      congr 1
      refine List.filter_congr fun y _ => ?_
      by_cases e : y = x
      · subst e; simp [h]
      · simp [e]
    · rw [if_neg h, List.filter_cons, if_pos (by simpa using h), List.filter_filter, List.append_assoc]
      congr 1
      show x :: _ = x :: _
      congr 1
      refine List.filter_congr fun y _ => ?_
      by_cases e : y = x
      · subst e; simp
      · simp [e]
theorem latest_dd (xs : List Int) : latest xs = dd xs.reverse := by
  unfold latest
  rw [fold_dd, List.nil_append]
  refine List.filter_eq_self.mpr fun x _ => ?_
  simp
theorem latest_snoc (p : List Int) (x : Int) : latest (p ++ [x]) = x :: keepsX x (latest p) := by
  rw [latest_dd, latest_dd, List.reverse_append]
  rfl
theorem nodup_latest (p : List Int) : (latest p).Nodup := by
  rw [latest_dd]
  exact nodup_dd _
theorem mem_latest {x : Int} {p : List Int} : x ∈ latest p ↔ x ∈ p := by
  rw [latest_dd, mem_dd, List.mem_reverse]
theorem keepsX_none {x : Int} {l : List Int} (h : x ∉ l) : keepsX x l = l :=
  List.filter_eq_self.mpr fun y hy => by
    have : y ≠ x := fun e => h (e ▸ hy)
    simpa using this
theorem keeps_take {x : Int} : ∀ {l : List Int} (k : Nat), l.Nodup → (keepsX x (l.take (k + 1))).take k = (keepsX x l).take k
  | [], k, _ => by simp
  | y :: r, 0, _ => by simp
  | y :: r, k + 1, h => by
    obtain ⟨h1, h2⟩ := List.nodup_cons.mp h
    rw [List.take_succ_cons]
    unfold keepsX
    by_cases e : y = x
    · subst e
      rw [List.filter_cons, if_neg (by simp), List.filter_cons, if_neg (by simp)]
      have e1 : (r.take (k + 1)).filter (fun z => decide (z ≠ y)) = r.take (k + 1) := keepsX_none fun hm => h1 (List.mem_of_mem_take hm)
      have e2 : r.filter (fun z => decide (z ≠ y)) = r := keepsX_none h1
      rw [e1, e2, List.take_take, Nat.min_self]
    · rw [List.filter_cons, if_pos (by simpa using e), List.filter_cons, if_pos (by simpa using e), List.take_succ_cons, List.take_succ_cons]
      congr 1
      exact keeps_take k h2
/-- a shelf's turn -/
theorem shelf_turn (p : List Int) (x : Int) (k : Nat) : ([x] ++ keepsX x ((latest p).take (k + 1))).take (k + 1) = (latest (p ++ [x])).take (k + 1) := by
  rw [latest_snoc]
  show (x :: keepsX x ((latest p).take (k + 1))).take (k + 1) = (x :: keepsX x (latest p)).take (k + 1)
  rw [List.take_succ_cons, List.take_succ_cons, keeps_take k (nodup_latest p)]
theorem dd_app : ∀ (l1 l2 : List Int), dd (l1 ++ l2) = dd l1 ++ (dd l2).filter (fun y => decide (y ∉ l1))
  | [], l2 => by
    show dd l2 = [] ++ _
    rw [List.nil_append]
    exact (List.filter_eq_self.mpr fun _ _ => by simp).symm
  | x :: l1, l2 => by
    show x :: (dd (l1 ++ l2)).filter (· ≠ x) = (x :: (dd l1).filter (· ≠ x)) ++ _
    rw [dd_app l1 l2, List.filter_append, List.filter_filter, List.cons_append]
    congr 2
    refine List.filter_congr fun y _ => ?_
    by_cases e : y = x
    · simp [e]
    · simp [e]
/-- Mattson's law for one asking -/
theorem depth_law {a b : List Int} {x : Int} (h : x ∉ b) (k : Nat) : x ∈ (latest (a ++ x :: b)).take (k + 1) ↔ (latest b).length ≤ k := by
  have e : latest (a ++ x :: b) = latest b ++ x :: ((dd a.reverse).filter (· ≠ x)).filter (fun y => decide (y ∉ b.reverse)) := by
    rw [latest_dd, latest_dd, List.reverse_append, List.reverse_cons, List.append_assoc, dd_app]
    congr 1
    show (x :: (dd a.reverse).filter (· ≠ x)).filter _ = _
    rw [List.filter_cons, if_pos (by simpa using h)]
  have hb : x ∉ latest b := fun hm => h (mem_latest.mp hm)
  rw [e]
  constructor
  · intro hm
    refine Nat.le_of_not_lt fun hk => hb ?_
    rw [List.take_append_of_le_length (by omega)] at hm
    exact List.mem_of_mem_take hm
  · intro hk
    rw [show k + 1 = (latest b).length + (k - (latest b).length + 1) by omega, List.take_length_add_append, List.take_succ_cons]
    exact List.mem_append_right _ List.mem_cons_self
/-- where a sign was asked for before -/
def earl (as : List Int) (x : Int) (t : Nat) : List Nat := (List.range t).filter fun i => decide (as.getD i 0 = x)
theorem earl_succ (as : List Int) (x : Int) (t : Nat) : earl as x (t + 1) = if as.getD t 0 = x then earl as x t ++ [t] else earl as x t := by
  unfold earl
  rw [List.range_succ, List.filter_append, List.filter_cons]
  by_cases h : as.getD t 0 = x
  · rw [if_pos (by simpa using h), if_pos h]
    rfl
  · rw [if_neg (by simpa using h), if_neg h]
    simp
theorem take_getD {as : List Int} {t : Nat} (ht : t < as.length) : as.take (t + 1) = as.take t ++ [as.getD t 0] := by
  rw [List.take_add_one, List.getElem?_eq_getElem ht]
  simp [List.getD, List.getElem?_eq_getElem ht]
theorem earl_nil {as : List Int} {x : Int} : ∀ {t : Nat}, t ≤ as.length → earl as x t = [] → x ∉ as.take t
  | 0, _, _ => by simp
  | t + 1, ht, h => by
    rw [earl_succ] at h
    by_cases e : as.getD t 0 = x
    · rw [if_pos e] at h
      simp at h
    · rw [if_neg e] at h
      rw [take_getD (by omega)]
      intro hm
      rcases List.mem_append.mp hm with hm | hm
      · exact earl_nil (by omega) h hm
      · exact e (List.mem_singleton.mp hm).symm
theorem earl_last {as : List Int} {x : Int} : ∀ {t : Nat}, t ≤ as.length → ∀ {l : List Nat} {j : Nat}, earl as x t = l ++ [j] → j < t ∧ as.take t = as.take j ++ x :: (as.drop (j + 1)).take (t - (j + 1)) ∧ x ∉ (as.drop (j + 1)).take (t - (j + 1))
  | 0, _, l, j, h => by
    unfold earl at h
    simp at h
  | t + 1, ht, l, j, h => by
    rw [earl_succ] at h
    by_cases e : as.getD t 0 = x
    · rw [if_pos e] at h
      have := (List.append_inj' h rfl).2
      have hj : t = j := by simpa using this
      subst hj
      refine ⟨Nat.lt_succ_self _, ?_, ?_⟩
      · rw [take_getD (by omega), e, Nat.sub_self, List.take_zero]
      · rw [Nat.sub_self, List.take_zero]
        simp
    · rw [if_neg e] at h
      obtain ⟨h1, h2, h3⟩ := earl_last (by omega) h
      have e1 : (as.drop (j + 1)).take (t + 1 - (j + 1)) = (as.drop (j + 1)).take (t - (j + 1)) ++ [as.getD t 0] := by
        rw [show t + 1 - (j + 1) = (t - (j + 1)) + 1 by omega, take_getD (by rw [List.length_drop]; omega)]
        congr 2
        simp only [List.getD, List.getElem?_drop]
        rw [show j + 1 + (t - (j + 1)) = t by omega]
      refine ⟨by omega, ?_, ?_⟩
      · rw [take_getD (by omega), h2, e1, List.append_assoc, List.cons_append]
      · rw [e1]
        intro hm
        rcases List.mem_append.mp hm with hm | hm
        · exact h3 hm
        · exact e (List.mem_singleton.mp hm).symm
/-- the count of a turn, by the shelf and by the signs between -/
theorem count_law {as : List Int} {x : Int} {t : Nat} (ht : t ≤ as.length) {l : List Nat} {j : Nat} (h : earl as x t = l ++ [j]) (k : Nat) :
    x ∈ (latest (as.take t)).take (k + 1) ↔ (latest ((as.drop (j + 1)).take (t - (j + 1)))).length ≤ k := by
  obtain ⟨_, h2, h3⟩ := earl_last ht h
  rw [h2]
  exact depth_law h3 k
theorem count_none {as : List Int} {x : Int} {t : Nat} (ht : t ≤ as.length) (h : earl as x t = []) (k : Nat) : x ∉ (latest (as.take t)).take (k + 1) := fun hm =>
  earl_nil ht h (mem_latest.mp (List.mem_of_mem_take hm))
end
section
theorem cutD {h₀ h : Heap} {L : Addr} {x a b c : Addr × Obj} {l : List (Addr × Obj)} (N : News h₀ L h (x :: a :: b :: c :: l)) : News h₀ L h (x :: l) := News.sub N fun p hp => by
  simp only [List.mem_cons] at hp ⊢
  rcases hp with h | h
  · exact .inl h
  · exact .inr (.inr (.inr (.inr h)))
theorem ltD {q : Addr} {a b c : Addr × Obj} {l : List (Addr × Obj)} (h : ∀ p ∈ a :: b :: c :: l, p.1 < q) : ∀ p ∈ l, p.1 < q := fun p hp => h p (by simp only [List.mem_cons]; exact .inr (.inr (.inr hp)))
end
section
/-- an address off the cells and off the list that is asked for -/
def OffC (c D8 X : Nat) : Prop := X ≠ D8 ∧ X ≠ c + 1 ∧ X ≠ c + 1 + 1 ∧ X ≠ c + 1 + 1 + 1 ∧ X ≠ c + 1 + 1 + 1 + 1 ∧ X ≠ c + 1 + 1 + 1 + 1 + 1 ∧ X ≠ c + 1 + 1 + 1 + 1 + 1 + 1
theorem OffC.of {c D8 X : Nat} (h : c + 1 + 1 + 1 + 1 + 1 + 1 < D8) (hx : D8 < X) : OffC c D8 X := by unfold OffC; omega
theorem OffC.c1 {c D8 X : Nat} (h : OffC c D8 X) : X ≠ c + 1 := h.2.1
theorem OffC.c2 {c D8 X : Nat} (h : OffC c D8 X) : X ≠ c + 1 + 1 := h.2.2.1
theorem OffC.c3 {c D8 X : Nat} (h : OffC c D8 X) : X ≠ c + 1 + 1 + 1 := h.2.2.2.1
theorem OffC.c4 {c D8 X : Nat} (h : OffC c D8 X) : X ≠ c + 1 + 1 + 1 + 1 := h.2.2.2.2.1
theorem OffC.c5 {c D8 X : Nat} (h : OffC c D8 X) : X ≠ c + 1 + 1 + 1 + 1 + 1 := h.2.2.2.2.2.1
theorem OffC.c6 {c D8 X : Nat} (h : OffC c D8 X) : X ≠ c + 1 + 1 + 1 + 1 + 1 + 1 := h.2.2.2.2.2.2
theorem off1_ne {D a : Nat} {o : Obj} : ∀ {l : List (Addr × Obj)}, LCg.Off1 D l → (a, o) ∈ l → a ≠ D
  | _ :: _, h, hm => by
    rcases List.mem_cons.mp hm with e | hm
    · have := h.1
      rw [← e] at this
      exact this
    · exact off1_ne h.2 hm
/-- what holds ahead of the i-th asking -/
def LawI (c D8 : Addr) (ws8 : List Value) (c8 : Nat) (as : List Int) (i : Nat) (_ : Str → Option Value) (nx : List (Addr × Obj)) : Prop :=
  ∃ (U H S s0 s1 s2 : Addr) (v0 v1 v2 us hs : List Value) (nU nH nS n0 n1 n2 : Nat) (o1 o2 o3 o4 o5 o6 : Obj) (x y z : Int) (b5 b6 : Option Value),
    nx = [(U, listOf us.toArray nU), (H, listOf hs.toArray nH), (S, listOf #[.ref s0, .ref s1, .ref s2] nS), (s0, listOf v0.toArray n0), (s1, listOf v1.toArray n1), (s2, listOf v2.toArray n2), (D8, listOf ws8.toArray c8),
      (c + 1 + 1 + 1 + 1 + 1 + 1, o6), (c + 1 + 1 + 1 + 1 + 1, o5), (c + 1 + 1 + 1 + 1, o4), (c + 1 + 1 + 1, o3), (c + 1 + 1, o2), (c + 1, o1)] ∧
    o1.data = Data.cell (some (.ref D8)) ∧ o2.data = Data.cell (some (.ref S)) ∧ o3.data = Data.cell (some (.ref H)) ∧ o4.data = Data.cell (some (.ref U)) ∧ o5.data = Data.cell b5 ∧ o6.data = Data.cell b6 ∧
    IntsAre v0 ((latest (as.take i)).take 1) ∧ IntsAre v1 ((latest (as.take i)).take 2) ∧ IntsAre v2 ((latest (as.take i)).take 3) ∧ IntsAre us [x, y, z] ∧ IntsAre hs [x, y, z] ∧
    (0 ≤ x ∧ x ≤ (i : Int)) ∧ (0 ≤ y ∧ y ≤ (i : Int)) ∧ (0 ≤ z ∧ z ≤ (i : Int)) ∧
    (OffC c D8 U ∧ OffC c D8 H ∧ OffC c D8 S ∧ OffC c D8 s0 ∧ OffC c D8 s1 ∧ OffC c D8 s2)
theorem off1_of {D : Addr} : ∀ {l : List (Addr × Obj)}, (∀ p ∈ l, p.1 ≠ D) → LCg.Off1 D l
  | [], _ => trivial
  | _ :: _, h => ⟨h _ List.mem_cons_self, off1_of fun p hp => h p (List.mem_cons_of_mem _ hp)⟩
theorem lawI_mem {c D8 : Addr} {ws8 : List Value} {c8 i : Nat} {as : List Int} {m : Str → Option Value} {nx : List (Addr × Obj)} (h : LawI c D8 ws8 c8 as i m nx) : (D8, listOf ws8.toArray c8) ∈ nx := by
  obtain ⟨U, H, S, s0, s1, s2, v0, v1, v2, us, hs, nU, nH, nS, n0, n1, n2, o1, o2, o3, o4, o5, o6, x, y, z, b5, b6, rfl, _⟩ := h
  simp
theorem lawI0 {h₀ h : Heap} {L c U H S s0 s1 s2 D10 D8 D4 : Addr} {x1 x2 o1 o2 o3 o4 o5 o6 : Obj} {t1 t2 t3 u1 u2 u3 : Tok} {nU nH nS n0 n1 n2 c8 : Nat} {ws8 : List Value} {as : List Int} {b5 b6 : Option Value}
    (N : News h₀ L h [(U, listOf #[.int 0 t1, .int 0 t2, .int 0 t3] nU), (H, listOf #[.int 0 u1, .int 0 u2, .int 0 u3] nH), (S, listOf #[.ref s0, .ref s1, .ref s2] nS), (s2, listOf #[] n2), (s1, listOf #[] n1), (s0, listOf #[] n0), (D10, x1), (D8, listOf ws8.toArray c8), (D4, x2),
      (c + 1 + 1 + 1 + 1 + 1 + 1, o6), (c + 1 + 1 + 1 + 1 + 1, o5), (c + 1 + 1 + 1 + 1, o4), (c + 1 + 1 + 1, o3), (c + 1 + 1, o2), (c + 1, o1)])
    (d1 : o1.data = Data.cell (some (.ref D8))) (d2 : o2.data = Data.cell (some (.ref S))) (d3 : o3.data = Data.cell (some (.ref H))) (d4 : o4.data = Data.cell (some (.ref U))) (d5 : o5.data = Data.cell b5) (d6 : o6.data = Data.cell b6)
    (hc : @LT.lt Nat _ (c + 1 + 1 + 1 + 1 + 1 + 1) D8) (l : @LT.lt Nat _ D8 U ∧ @LT.lt Nat _ D8 H ∧ @LT.lt Nat _ D8 S ∧ @LT.lt Nat _ D8 s0 ∧ @LT.lt Nat _ D8 s1 ∧ @LT.lt Nat _ D8 s2) :
    ∃ nx, News h₀ L h nx ∧ ∀ m, LawI c D8 ws8 c8 as 0 m nx := by
  refine ⟨_, News.sub N ?_, fun m => ⟨U, H, S, s0, s1, s2, [], [], [], [.int 0 t1, .int 0 t2, .int 0 t3], [.int 0 u1, .int 0 u2, .int 0 u3], nU, nH, nS, n0, n1, n2, o1, o2, o3, o4, o5, o6, 0, 0, 0, b5, b6, rfl, d1, d2, d3, d4, d5, d6, ?_, ?_, ?_, ?_, ?_, ?_, ?_, ?_, .of hc l.1, .of hc l.2.1, .of hc l.2.2.1, .of hc l.2.2.2.1, .of hc l.2.2.2.2.1, .of hc l.2.2.2.2.2⟩⟩
  · lcg_sub
  · rw [List.take_zero]; exact .nil
  · rw [List.take_zero]; exact .nil
  · rw [List.take_zero]; exact .nil
  · exact .cons _ _ (.cons _ _ (.cons _ _ .nil))
  · exact .cons _ _ (.cons _ _ (.cons _ _ .nil))
  · decide
  · decide
  · decide
end
section
/-- how often the shelves held what was asked for -/
def heldF (cn : List Int) (as : List Int) (i k : Nat) : Int := cn.getD k 0 + (if as.getD i 0 ∈ (latest (as.take i)).take (k + 1) then 1 else 0)
def HeldI (base : List (Addr × Obj)) (f : Nat → Int) (i : Nat) (ys : List Value) (nw : List (Addr × Obj)) : Prop := nw = base ∧ IntsAre ys ((List.range i).map f)
theorem HeldI.next {base : List (Addr × Obj)} {f : Nat → Int} {i : Nat} {ys : List Value} {v : Int} {t : Tok} (h : IntsAre ys ((List.range i).map f)) (hv : v = f i) : HeldI base f (i + 1) (ys ++ [.int v t]) base := by
  refine ⟨rfl, ?_⟩
  rw [List.range_succ, List.map_append, hv]
  exact h.append (.cons _ _ .nil)
section
variable {prog : Program} {w : World} {A : Around} {s : Shared} {h₀ : Heap} {L : Addr} {m : Str → Option Value} {env : Env} {elt ct : Expr} {x : Str} {scope : Scope} {cl : List (Str × Addr)} {S : List (Addr × Obj) → Prop} {P : Nat → Value → Prop} {Fin : List Value → List (Addr × Obj) → Prop} {base : List (Addr × Obj)}
theorem compRest_ints (f : Nat → Int) {n : Nat}
    (turn : ∀ i ys v I oI C oC D m₂ h tk (E' : Value → Shared → Prop), i < n → IntsAre ys ((List.range i).map f) → P i v → LCg.NsObj oC m₂ → m₂ x = some v → Fr h₀ L h m → News h₀ L h ((I, oI) :: (C, oC) :: (D, LCg.lst ys) :: base) → LCg.Off3 I C D base → ((@Ne Nat I C) ∧ (@Ne Nat I D) ∧ (@Ne Nat C D)) →
      wpAny (model prog w) A (eval elt (compEnvC scope cl C env)) (LCg.CompEnd h₀ L m { s with heap := h, toks := tk } I oI C oC D (LCg.lst ys) S (fun y nw' => HeldI base f (i + 1) (ys ++ [y]) nw')) E' { s with heap := h, toks := tk })
    (fin : ∀ ys, IntsAre ys ((List.range n).map f) → Fin ys base) : LCg.CompRest prog w A h₀ L m env elt x scope cl s S P Fin n 0 [] base := by
  refine compRest_inv (n := n) (HeldI base f) ?_ ?_ n 0 [] base (Nat.zero_add n) ⟨rfl, .nil⟩
  · rintro i ys nw v I oI C oC D m₂ h tk E' hi ⟨rfl, hys⟩ hP hC hx F N off ne
    exact turn i ys v I oI C oC D m₂ h tk E' hi hys hP hC hx F N off ne
  · rintro ys nw ⟨rfl, hys⟩
    exact fin ys hys
end
theorem news_fam {h₀ h : Heap} {L : Addr} {q : Addr × Obj} {l news : List (Addr × Obj)} (N : News h₀ L h news) (hq : q ∈ l) (hs : ∀ p ∈ l, p ∈ news) : News h₀ L h (q :: news) := fun p hp => by
  rcases List.mem_cons.mp hp with rfl | hp
  · exact N _ (hs _ hq)
  · exact N _ hp
end
section
/-- a list of a comprehension's turn, with what is known of it -/
def RefAt (ok : Addr → Prop) (l : List Int) (y : Value) (nw : List (Addr × Obj)) : Prop := ∃ a v n, y = .ref a ∧ (a, listOf v.toArray n) ∈ nw ∧ IntsAre v l ∧ ok a
def ShelfI (base : List (Addr × Obj)) (ok : Addr → Prop) (g : Nat → List Int) (i : Nat) (ys : List Value) (nw : List (Addr × Obj)) : Prop :=
  (∀ p ∈ base, p ∈ nw) ∧ ys.length = i ∧ ∀ j, j < i → ∃ y, ys[j]? = some y ∧ RefAt ok (g j) y nw
section
variable {prog : Program} {w : World} {A : Around} {s : Shared} {h₀ : Heap} {L : Addr} {m : Str → Option Value} {env : Env} {elt ct : Expr} {x : Str} {scope : Scope} {cl : List (Str × Addr)} {S : List (Addr × Obj) → Prop} {P : Nat → Value → Prop} {Fin : List Value → List (Addr × Obj) → Prop} {base : List (Addr × Obj)}
theorem compRest_refs (ok : Addr → Prop) (g : Nat → List Int) {n : Nat}
    (turn : ∀ i ys nw v I oI C oC D m₂ h tk (E' : Value → Shared → Prop), i < n → P i v → LCg.NsObj oC m₂ → m₂ x = some v → Fr h₀ L h m → News h₀ L h ((I, oI) :: (C, oC) :: (D, LCg.lst ys) :: (base ++ nw)) → LCg.Off3 I C D nw → ((@Ne Nat I C) ∧ (@Ne Nat I D) ∧ (@Ne Nat C D)) →
      wpAny (model prog w) A (eval elt (compEnvC scope cl C env)) (LCg.CompEnd h₀ L m { s with heap := h, toks := tk } I oI C oC D (LCg.lst ys) S (fun y nw' => (∀ p ∈ nw, p ∈ nw') ∧ RefAt ok (g i) y nw')) E' { s with heap := h, toks := tk })
    (fin : ∀ ys nw, ShelfI base ok g n ys nw → Fin ys nw) : LCg.CompRest prog w A h₀ L m env elt x scope cl s S P Fin n 0 [] base := by
  refine compRest_inv (n := n) (ShelfI base ok g) ?_ fin n 0 [] base (Nat.zero_add n) ⟨fun _ h => h, rfl, fun j hj => absurd hj (Nat.not_lt_zero j)⟩
  rintro i ys nw v I oI C oC D m₂ h tk E' hi ⟨hb, hl, hg⟩ hP hC hx F N off ne
  have N' : News h₀ L h ((I, oI) :: (C, oC) :: (D, LCg.lst ys) :: (base ++ nw)) := News.sub N fun p hp => by
    simp only [List.mem_cons, List.mem_append] at hp ⊢
    rcases hp with h | h | h | h | h
    · exact .inl h
    · exact .inr (.inl h)
    · exact .inr (.inr (.inl h))
    · exact .inr (.inr (.inr (hb p h)))
    · exact .inr (.inr (.inr h))
  refine wpAny_mono (turn i ys nw v I oI C oC D m₂ h tk E' hi hP hC hx F N' off ne) (fun y s₂ q => compEnd_mono q fun nw' ⟨h1, h2⟩ => ⟨fun p hp => h1 p (hb p hp), by rw [List.length_append, hl]; rfl, fun j hj => ?_⟩) fun _ _ e => e
  by_cases e : j < i
  · obtain ⟨y', hy, a, v, n, h3, h4, h5⟩ := hg j e
    exact ⟨y', by rw [List.getElem?_append_left (by omega)]; exact hy, a, v, n, h3, h1 _ h4, h5⟩
  · have e' : j = ys.length := by omega
    subst e'
    exact ⟨y, by simp, by rw [hl]; exact h2⟩
theorem ShelfI.three {ok : Addr → Prop} {g : Nat → List Int} {ys : List Value} {nw : List (Addr × Obj)} (h : ShelfI base ok g 3 ys nw) : ∃ a0 a1 a2 v0 v1 v2 n0 n1 n2, ys = [.ref a0, .ref a1, .ref a2] ∧ (∀ p ∈ base, p ∈ nw) ∧
    (a0, listOf v0.toArray n0) ∈ nw ∧ (a1, listOf v1.toArray n1) ∈ nw ∧ (a2, listOf v2.toArray n2) ∈ nw ∧ IntsAre v0 (g 0) ∧ IntsAre v1 (g 1) ∧ IntsAre v2 (g 2) ∧ ok a0 ∧ ok a1 ∧ ok a2 := by
  obtain ⟨hb, hl, hg⟩ := h
  obtain ⟨y0, e0, a0, v0, n0, rfl, i0, j0, k0⟩ := hg 0 (by decide)
  obtain ⟨y1, e1, a1, v1, n1, rfl, i1, j1, k1⟩ := hg 1 (by decide)
  obtain ⟨y2, e2, a2, v2, n2, rfl, i2, j2, k2⟩ := hg 2 (by decide)
  refine ⟨a0, a1, a2, v0, v1, v2, n0, n1, n2, ?_, hb, i0, i1, i2, j0, j1, j2, k0, k1, k2⟩
  match ys, hl with
  | [x, y, z], _ =>
    simp only [List.getElem?_cons_zero, List.getElem?_cons_succ, Option.some.injEq] at e0 e1 e2
    rw [e0, e1, e2]
end
/-- off the cells, and behind the iterator -/
def okR {c D8 X : Addr} (R : Addr) (_ : OffC c D8 X) (a : Addr) : Prop := OffC c D8 a ∧ @LT.lt Nat _ R a
theorem fold_le : ∀ (l acc : List Int), (l.foldl latestS acc).length ≤ acc.length + l.length
  | [], acc => Nat.le_refl _
  | x :: l, acc => by
    rw [List.foldl_cons]
    refine Nat.le_trans (fold_le l _) ?_
    unfold latestS
    split
    · simp only [List.length_cons]; omega
    · simp only [List.length_append, List.length_cons, List.length_nil]; omega
theorem latest_le (l : List Int) : (latest l).length ≤ l.length := by
  unfold latest
  have := fold_le l.reverse []
  simpa using this
theorem subl_mem {l l' : List (Addr × Obj)} (h : l.Sublist l') {p : Addr × Obj} (hp : p ∈ l) : p ∈ l' := h.subset hp
end
section
theorem OffC.off {c D8 X : Addr} {l : List (Addr × Obj)} {o8 o1 o2 o3 o4 o5 o6 : Obj} (h : LCg.Off1 X l) (m8 : (D8, o8) ∈ l) (m6 : (c + 1 + 1 + 1 + 1 + 1 + 1, o6) ∈ l) (m5 : (c + 1 + 1 + 1 + 1 + 1, o5) ∈ l) (m4 : (c + 1 + 1 + 1 + 1, o4) ∈ l) (m3 : (c + 1 + 1 + 1, o3) ∈ l) (m2 : (c + 1 + 1, o2) ∈ l) (m1 : (c + 1, o1) ∈ l) : OffC c D8 X :=
  ⟨(off1_ne h m8).symm, (off1_ne h m1).symm, (off1_ne h m2).symm, (off1_ne h m3).symm, (off1_ne h m4).symm, (off1_ne h m5).symm, (off1_ne h m6).symm⟩
end
section
def InnI (base : List (Addr × Obj)) (q : Addr) (iv : Value) (_ : Nat) (m : Str → Option Value) (nx : List (Addr × Obj)) : Prop := nx = base ∧ m (Str.ofString "latest") = some (.ref q) ∧ m (Str.ofString "t") = some iv
theorem fr2 {u : Str → Option Value} {n1 n2 : Str} {v1 v2 : Value} (e1 : u n1 = some v1) (e2 : u n2 = some v2) : ∀ p ∈ [(n1, v1), (n2, v2)], u p.1 = some p.2 := by
  intro p hp
  simp only [List.mem_cons, List.not_mem_nil, or_false] at hp
  rcases hp with rfl | rfl
  · exact e1
  · exact e2
theorem News.swap2 {h₀ h : Heap} {L : Addr} {a b : Addr × Obj} {l : List (Addr × Obj)} (N : News h₀ L h (a :: b :: l)) : News h₀ L h (b :: a :: l) := News.sub N fun p hp => by
  simp only [List.mem_cons] at hp ⊢
  rcases hp with h | h | h
  · exact .inr (.inl h)
  · exact .inl h
  · exact .inr (.inr h)
theorem own1 {R : Addr} {oR : Obj} {nx : List (Addr × Obj)} (h : ∀ p ∈ nx, p.1 ≠ R) : OwnOff [(R, oR)] (nx.map (·.1)) := by
  intro p hp b hb e
  rw [List.mem_singleton.mp hp] at e
  obtain ⟨q, hq, rfl⟩ := List.mem_map.mp hb
  exact h q hq e.symm
theorem run1 (l : List Int) (j : Nat) : (l.drop (j + 1)).take (min (j + 2) l.length - (j + 1)) = (l.drop (j + 1)).take 1 := by
  by_cases h : j + 2 ≤ l.length
  · rw [Nat.min_eq_left h, show j + 2 - (j + 1) = 1 by omega]
  · have e : l.drop (j + 1) = [] := List.drop_of_length_le (by omega)
    rw [e]
    simp
theorem shelf_next (l : List Int) (j : Nat) : l.take (j + 1 + 1) = l.take (j + 1) ++ (l.drop (j + 1)).take 1 := List.take_add
section
variable {prog : Program} {w : World} {A : Around} {E : Value → Shared → Prop} {s : Shared} {h₀ : Heap} {L : Addr} {news : List (Addr × Obj)} {Q : Value → Shared → Prop}
theorem no_bool (ys : List Int) : (!decide (ys = ys)) = false := by simp
theorem ne_pair_same {T1 T2 a1 a2 b1 b2 : Addr} {o1 o2 : Obj} {k1 k2 m1 m2 n1 n2 : Nat} {us vs : List Value} {ys : List Int} (N : News h₀ L s.heap news)
    (h1 : (T1, o1) ∈ news) (c1 : o1.cls = .type "tuple") (d1 : o1.data = .seq #[.ref a1, .ref b1] k1) (ha1 : (a1, listOf #[] m1) ∈ news) (hb1 : (b1, listOf us.toArray n1) ∈ news)
    (h2 : (T2, o2) ∈ news) (c2 : o2.cls = .type "tuple") (d2 : o2.data = .seq #[.ref a2, .ref b2] k2) (ha2 : (a2, listOf #[] m2) ∈ news) (hb2 : (b2, listOf vs.toArray n2) ∈ news)
    (hi : IntsAre us ys) (hj : IntsAre vs ys) (hu : A.units + 64 < cLine) (h : Q (.bool false) s) :
    wpAny (model prog w) A (compareOp .NotEq (.ref T1) (.ref T2)) Q E s :=
  ne_pair N h1 c1 d1 ha1 hb1 h2 c2 d2 ha2 hb2 hi hj hu (by rw [no_bool]; exact h)
theorem ne_nil {a b : Addr} {n1 n2 : Nat} (N : News h₀ L s.heap news) (ha : (a, listOf #[] n1) ∈ news) (hb : (b, listOf #[] n2) ∈ news) (hu : A.units + 64 < cLine) (h : Q (.bool false) s) :
    wpAny (model prog w) A (compareOp .NotEq (.ref a) (.ref b)) Q E s := kr_ne (us := []) (vs := []) N ha hb .nil .nil hu (by rw [no_bool]; exact h)
end
end
section
def earlZ (as : List Int) (x : Int) (j : Nat) : List Int := (earl as x j).map fun k : Nat => (k : Int)
def EarlI (base : List (Addr × Obj)) (as : List Int) (x : Int) (j : Nat) (ys : List Value) (nw : List (Addr × Obj)) : Prop := nw = base ∧ IntsAre ys (earlZ as x j)
section
variable {prog : Program} {w : World} {A : Around} {s : Shared} {h₀ : Heap} {L : Addr} {m : Str → Option Value} {env : Env} {elt ct : Expr} {x : Str} {scope : Scope} {cl : List (Str × Addr)} {S : List (Addr × Obj) → Prop} {P : Nat → Value → Prop} {Fin : List Value → List (Addr × Obj) → Prop} {base : List (Addr × Obj)}
theorem compRestT_earl {n : Nat} (as : List Int) (a : Int)
    (turn : ∀ i ys v I oI C oC D m₂ h tk (E' : Value → Shared → Prop), i < n → IntsAre ys (earlZ as a i) → P i v → LCg.NsObj oC m₂ → m₂ x = some v → Fr h₀ L h m → News h₀ L h ((I, oI) :: (C, oC) :: (D, LCg.lst ys) :: base) → LCg.Off3 I C D base → ((@Ne Nat I C) ∧ (@Ne Nat I D) ∧ (@Ne Nat C D)) →
      wpAny (model prog w) A (isTrue ct (compEnvC scope cl C env) (eval ct (compEnvC scope cl C env))) (fun ok s' => if ok = true then
        wpAny (model prog w) A (eval elt (compEnvC scope cl C env)) (LCg.CompEnd h₀ L m { s with heap := h, toks := tk } I oI C oC D (LCg.lst ys) S (fun y nw' => EarlI base as a (i + 1) (ys ++ [y]) nw')) E' s'
        else LCg.CompEnd h₀ L m { s with heap := h, toks := tk } I oI C oC D (LCg.lst ys) S (fun _ nw' => EarlI base as a (i + 1) ys nw') Value.none s') E' { s with heap := h, toks := tk })
    (fin : ∀ ys, IntsAre ys (earlZ as a n) → Fin ys base) : LCt.CompRestT prog w A h₀ L m env ct elt x scope cl s S P Fin n 0 [] base := by
  refine compRestT_inv (n := n) (EarlI base as a) ?_ ?_ n 0 [] base (Nat.zero_add n) ⟨rfl, .nil⟩
  · rintro i ys nw v I oI C oC D m₂ h tk E' hi ⟨rfl, hys⟩ hP hC hx F N off ne
    exact turn i ys v I oI C oC D m₂ h tk E' hi hys hP hC hx F N off ne
  · rintro ys nw ⟨rfl, hys⟩
    exact fin ys hys
end
theorem EarlI.yes {base : List (Addr × Obj)} {as : List Int} {x : Int} {j : Nat} {ys : List Value} {t : Tok} (h : IntsAre ys (earlZ as x j)) (e : as.getD j 0 = x) : EarlI base as x (j + 1) (ys ++ [.int (j : Int) t]) base := by
  refine ⟨rfl, ?_⟩
  unfold earlZ
  rw [earl_succ, if_pos e, List.map_append]
  exact h.append (.cons _ _ .nil)
theorem EarlI.no {base : List (Addr × Obj)} {as : List Int} {x : Int} {j : Nat} {ys : List Value} (h : IntsAre ys (earlZ as x j)) (e : ¬ as.getD j 0 = x) : EarlI base as x (j + 1) ys base := by
  refine ⟨rfl, ?_⟩
  unfold earlZ
  rw [earl_succ, if_neg e]
  exact h
end
section
section
variable {prog : Program} {w : World} {A : Around} {E : Value → Shared → Prop} {s : Shared} {h₀ : Heap} {L D : Addr} {news : List (Addr × Obj)} {n : Nat} {us : List Value} {Q : Value → Shared → Prop}
theorem kr_last {value slice : Expr} {l : List Int} {x : Int} {u : Tok} (N : News h₀ L s.heap news) (hm : (D, listOf us.toArray n) ∈ news) (hi : IntsAre us (l ++ [x])) (h : ∀ t, Q (.int x t) s)
    (hs : subscripted slice false (.ref D) (.int (-1) u) = operate [.ref D, .int (-1) u] (getItem (.ref D) (.int (-1) u)) := by with_unfolding_all rfl) (hg : ∀ r, letTemporaryGo value (.ref D) r = pure () := by intro _; with_unfolding_all rfl) :
    wpAny (model prog w) A (subscriptTail value slice (.ref D) (.int (-1) u)) Q E s := by
  refine item_list_ints_neg (News.isList N hm) hi (by decide) (by simp only [List.length_append, List.length_cons, List.length_nil]; omega) (by decide) (fun t => ?_) hs hg
  have e : (l ++ [x]).getD ((-1 : Int) + ((l ++ [x]).length : Int)).toNat 0 = x := by
    rw [show ((-1 : Int) + ((l ++ [x]).length : Int)).toNat = l.length by simp; omega]
    simp
  rw [e]
  exact h t
end
/-- what was due -/
def dueF (cn : List Int) (b : Int) (k : Nat) : Int := cn.getD k 0 + (if b ≤ (k : Int) then 1 else 0)
end
section
theorem off1_all {D : Addr} : ∀ {l : List (Addr × Obj)}, LCg.Off1 D l → ∀ p ∈ l, p.1 ≠ D
  | [], _, _, hp => nomatch hp
  | _ :: _, h, p, hp => by
    rcases List.mem_cons.mp hp with e | hp
    · rw [e]
      exact h.1
    · exact off1_all h.2 p hp
theorem due_law {as : List Int} {i : Nat} (hi : i ≤ as.length) {l : List Nat} {j : Nat} {b : Int} (he : earl as (as.getD i 0) i = l ++ [j]) (hb : b = ((latest ((as.drop (j + 1)).take (i - (j + 1)))).length : Nat)) (cn : List Int) (k : Nat) : dueF cn b k = heldF cn as i k := by
  unfold dueF heldF
  have h := count_law hi he k
  by_cases e : as.getD i 0 ∈ (latest (as.take i)).take (k + 1)
  · rw [if_pos e, if_pos (by have := h.mp e; omega)]
  · rw [if_neg e, if_neg (fun q => e (h.mpr (by omega)))]
theorem none_law {as : List Int} {i : Nat} (hi : i ≤ as.length) (he : earl as (as.getD i 0) i = []) (cn : List Int) (k : Nat) : cn.getD k 0 = heldF cn as i k := by
  unfold heldF
  rw [if_neg (count_none hi he k), Int.add_zero]
theorem held_bound {cn as : List Int} {i k : Nat} (h : 0 ≤ cn.getD k 0 ∧ cn.getD k 0 ≤ (i : Int)) : 0 ≤ heldF cn as i k ∧ heldF cn as i k ≤ ((i + 1 : Nat) : Int) := by
  unfold heldF
  by_cases e : as.getD i 0 ∈ (latest (as.take i)).take (k + 1)
  · rw [if_pos e]; omega
  · rw [if_neg e]; omega
end
section
theorem yes_bool (ys : List Int) : (decide (ys = ys)) = true := by simp
end
section
local macro_rules | `(tactic| walk_at "mine mem") => `(tactic| first | with_reducible assumption | with_reducible exact List.mem_cons_self | (with_reducible refine mem_hd ?_; exact rfl) | (with_reducible refine List.mem_append_left _ ?_; walk_at "mine mem") | (with_reducible refine List.mem_append_right _ ?_; walk_at "mine mem") | (with_reducible refine List.mem_cons_of_mem _ ?_; walk_at "mine mem"))
local macro_rules | `(tactic| k_mem) => `(tactic| walk_at "mine mem")
local macro_rules | `(tactic| k_memK) => `(tactic| walk_at "mine mem")
local macro_rules | `(tactic| walk_at "mine fill") => `(tactic| ((rename Frag.In _ _ => X); (have hd0 : PySem.Challenge.rw_ik0172_01.name = PySem.Challenge.rw_ik0172_01.name := rfl); revert X hd0; k_fill; intro X hd0; clear hd0))
local macro_rules | `(tactic| walk_at "mine stop") => `(tactic| first | (with_reducible show wpAny _ _ (exec (Stmt.While _ _ _ _) _) _ _ _) | (with_reducible show wpAny _ _ (exec (Stmt.For _ _ _ _ _) _) _ _ _) | (with_reducible show wpAny _ _ (pyIter _) _ _ _) | (with_reducible show wpAny _ _ (call (.builtin "list.pop") _) _ _ _) | (with_reducible show wpAny _ _ (call (.builtin "list.remove") _) _ _ _))
local macro_rules | `(tactic| walk_at "mine steps") => `(tactic| repeat' ((fail_if_success (walk_at "mine stop")); first | (k_unfold; (try dsimp only)) | walk1 | (dsimp only; walk1) | (leave1; walk_say "STEP leave1"; try dsimp only) | fail "no step"))
local macro_rules | `(tactic| k_all) => `(tactic| first | assumption | exact ne_of_lts (by first | assumption | exact tl1 (by assumption) | exact tl1 (tl1 (by assumption)) | exact tl1 (tl1 (tl1 (by assumption))) | exact tl1 (tl1 (tl1 (tl1 (by assumption)))) | exact kst_ltOf (by assumption) | exact kst_ltOf (And.right (by assumption)) | exact kst_ltOf (And.right (And.right (by assumption))) | exact kst_ltOf (And.right (And.right (And.right (by assumption)))) | exact kst_ltOf (And.right (And.right (And.right (And.right (by assumption))))) | exact kst_ltOf (And.right (And.right (And.right (And.right (And.right (by assumption)))))) | exact kst_ltOf (And.right (And.right (And.right (And.right (And.right (And.right (by assumption))))))) | exact kst_ltOf (And.right (And.right (And.right (And.right (And.right (And.right (And.right (by assumption)))))))) | exact kst_ltOf (And.right (And.right (And.right (And.right (And.right (And.right (And.right (And.right (by assumption)))))))))))
local macro_rules | `(tactic| walk_at "call builtin:len") => `(tactic| ((with_reducible show wpAny _ _ (call (Value.builtin "len") [Value.ref _]) _ _ _); k_dflt (refine' kr_len ?N ?m ?i ?z ?_; (case N => k_asm); (case m => k_mem); (case i => assumption); (case z => omega))))
local macro_rules | `(tactic| walk_at "truthy ref") => `(tactic| ((with_reducible show wpAny _ _ (truthy (Value.ref _)) _ _ _); k_dflt (refine' kr_truthy ?N ?m ?i ?z ?_; (case N => k_asm); (case m => k_mem); (case i => assumption); (case z => omega))))
local macro_rules | `(tactic| walk_at "subscriptTail") => `(tactic| ((with_reducible show wpAny _ _ (subscriptTail _ _ (Value.ref _) (Value.int _ _)) _ _ _); k_dflt (refine' kr_item ?N ?m ?i ?z ?a ?b ?_; (case N => k_asm); (case m => k_mem); (case i => assumption); (case z => omega); (case a => omega); (case b => omega); k_whole); intro _))
local macro_rules | `(tactic| walk_at "compareOp In int ref") => `(tactic| ((with_reducible show wpAny _ _ (compareOp CmpOp.In (Value.int _ _) (Value.ref _)) _ _ _); k_dflt (refine' kr_in ?N ?m ?i ?_; (case N => k_asm); (case m => k_mem); (case i => assumption))))
local macro_rules | `(tactic| walk_at "compareOp NotIn int ref") => `(tactic| ((with_reducible show wpAny _ _ (compareOp CmpOp.NotIn (Value.int _ _) (Value.ref _)) _ _ _); k_dflt (refine' kr_notin ?N ?m ?i ?_; (case N => k_asm); (case m => k_mem); (case i => assumption))))
local macro_rules | `(tactic| walk_at "mine enter") => `(tactic| (refine' code_def ?k1 ?k2 ?k3 ?k4 ?k5 ?kA ?kF ?kK ?k6 ?k7 ?k8 ?k9 ?kB ?_ ?c2 ?c3 ?c4 ?c5; (case kA => exact rfl); (case kF => exact rfl); (case kK => first | assumption | exact rfl); (case k1 => k_asm); (case k2 => k_asm); (case k3 => k_asm); (case k4 => k_asm); (case k5 => k_asm); (case k6 => k_is); (case k7 => k_is); (case k8 => ktr_room); (case k9 => first | exact BindsTo.of_eq rfl | exact binds_K (by k_in) rfl (by k_is) rfl rfl rfl | fail "mine enter: binds"); (case c5 => decide); (case kB => exact locs rfl); (case c2 => exact rfl); (case c3 => exact rfl); (case c4 => exact rfl); k_whole; intro g' L' h' FG' F' N' B' X' T'; (try dsimp only); (try k_fold)))
local macro_rules | `(tactic| walk_at "spliced") => `(tactic| first | refine args_cons ?_ | (refine args_nil ?_; (try dsimp only [List.cons_append, List.nil_append])))
local macro_rules | `(tactic| walk_at "getMethod ref") => `(tactic| ((with_reducible show wpAny _ _ (getMethod (Value.ref _) (Str.ofString "append") _) _ _ _); (refine' listMethod_K ?N ?m PySem.F.slot_list_append PySem.F.type_list_append ?_; (case N => k_asm); (case m => k_mem))))
local macro_rules | `(tactic| walk_at "mine ints") => `(tactic| first | assumption | exact IntsAre.nil | exact IntsAre.cons _ _ (by walk_at "mine ints"))
local macro_rules | `(tactic| walk_at "mine len") => `(tactic| ((try simp only [List.length_append, List.length_cons, List.length_nil, List.length_replicate, List.length_take, List.length_drop]); omega))
local macro_rules | `(tactic| walk_at "mine one") => `(tactic| ((fail_if_success (walk_at "mine stop")); first | (k_unfold; (try dsimp only)) | walk1 | (dsimp only; walk1) | (leave1; walk_say "STEP leave1"; try dsimp only) | fail "no step"))
local macro_rules | `(tactic| walk_at "mine stop") => `(tactic| first | (with_reducible show wpAny _ _ (call (.ref _) _) _ _ _) | (with_reducible show wpAny _ _ (call (.type _) [.ref _]) _ _ _) | (with_reducible show wpAny _ _ (pyIter _) _ _ _) | (with_reducible show wpAny _ _ (binaryOp _ (Value.ref _) _) _ _ _) | (with_reducible show wpAny _ _ (subscriptTail _ (PySem.Expr.Slice _ _ _ _) _ _) _ _ _)  | (with_reducible show wpAny _ _ (exec (Stmt.For _ _ _ _ _) _) _ _ _))
local macro_rules | `(tactic| walk_at "wide stop") => `(tactic| first | (with_reducible show wpAny _ _ (call (.ref _) _) _ _ _) | (with_reducible show wpAny _ _ (call (.type _) [.ref _]) _ _ _) | (with_reducible show wpAny _ _ (pyIter _) _ _ _) | (with_reducible show wpAny _ _ (binaryOp _ (Value.ref _) _) _ _ _) | (with_reducible show wpAny _ _ (compareOp _ (Value.ref _) (Value.ref _)) _ _ _) | (with_reducible show wpAny _ _ (subscriptTail _ (PySem.Expr.Slice _ _ _ _) _ _) _ _ _)  | (with_reducible show wpAny _ _ (exec (Stmt.For _ _ _ _ _) _) _ _ _) | (with_reducible show wpAny _ _ (subscriptTail _ (PySem.Expr.UnaryOp _ _ _) _ _) _ _ _))
local macro_rules | `(tactic| walk_at "wide steps") => `(tactic| repeat' ((fail_if_success (walk_at "wide stop")); first | (k_unfold; (try dsimp only)) | walk1 | (dsimp only; walk1) | (leave1; walk_say "STEP leave1"; try dsimp only) | fail "no step"))
local macro_rules | `(tactic| walk_at "wide one") => `(tactic| ((fail_if_success (walk_at "wide stop")); first | (k_unfold; (try dsimp only)) | walk1 | (dsimp only; walk1) | (leave1; walk_say "STEP leave1"; try dsimp only) | fail "no step"))
local macro_rules | `(tactic| walk_at "eval Name") => `(tactic| ((with_reducible show wpAny _ _ (eval (Expr.Name _ _) (compEnvC _ _ _ _)) _ _ _); k_dflt (first | (refine' lcf_free ?N ?c ?m ?d ?_ ?a ?b; (case a => rfl); (case b => rfl); (case N => k_asm); (case c => rfl); (case m => k_mem); (case d => k_asm); k_whole) | (refine' LCgL.ld_own ?N ?m ?C ?x ?_; (case N => k_asm); (case m => k_mem); (case C => assumption); (case x => assumption); k_whole))))
local macro_rules | `(tactic| walk_at "subscriptTail") => `(tactic| ((with_reducible show wpAny _ _ (subscriptTail _ _ (Value.ref _) (Value.int _ _)) _ _ _); k_dflt (refine' kr_at ?N ?m ?a ?b ?x ?_; (case N => k_asm); (case m => k_mem); (case x => with_reducible assumption); (case a => omega); (case b => omega); k_whole)))
local macro_rules | `(tactic| k_ne) => `(tactic| first | (refine neN ?_; (try dsimp only); first | exact off1_ne (by assumption) (by walk_at "mine mem") | exact (off1_ne (by assumption) (by walk_at "mine mem")).symm | exact OffC.c1 (by assumption) | exact OffC.c2 (by assumption) | exact OffC.c3 (by assumption) | exact OffC.c4 (by assumption) | exact OffC.c5 (by assumption) | exact OffC.c6 (by assumption) | omega))
set_option maxRecDepth 100000 in
set_option maxHeartbeats 0 in
theorem top : PySem.Challenge.rw_ik0172_01.Holds := by
  refine hd ?_
  k_go0
  try k_fold
  walk_at "mine steps"
  rename IntsAre _ _ => hI
  rename Heap.IsList _ _ _ => hL
  rename Fr _ _ _ _ => F1
  rename News _ _ _ _ => N1
  rename ¬ ((63 : Nat) : Int) < _ => hlen
  refine kmk_slice_ints (s := ⟨_, _, _, _, _⟩) F1 N1 (Fr.lst F1 hL) IsPart.none (IsPart.int _ _) hI (kmk_upto hI (by decide)) rfl ?_ (by with_unfolding_all rfl) (by intro _; with_unfolding_all rfl) (kmk_sz hI (by rw [sizeLine_eq]; omega))
  intro D2 ws2 h2 F2 N2 l2 i2 _ _
  walk_at "mine steps"
  refine comp_ints oct rfl F2 N2 (by k_mem) i2 (by rw [List.length_take]; omega) ?_ ?_
  · intro C a t s₂ m₂ E' hn hx
    walk_at "mine steps"
    · exact .int _ _
    · exact ⟨_, _, rfl, fun _ _ e => e⟩
  intro D3 ws3 k3 h3 tk3 F3 N3 l3 i3
  walk_at "mine steps"
  refine' kr_add F3 N3 ?ka ?kb (.cons _ _ (.cons _ _ (.cons _ _ .nil))) i3 ?kd ?_ (xs := [64, 1, 0])
  (case ka => k_mem)
  (case kb => k_mem)
  (case kd => simp only [List.length_map, List.length_take, List.length_cons, List.length_nil]; omega)
  intro D4 ws4 h4 F4 N4 l4 i4
  have N4b := cutD N4
  have l4b := ltD l4
  clear N4 l4 N3 l3 F3 F2 N2 l2
  k_lt l4b
  have i4' : IntsAre ws4 (octs _) := i4
  have hol := octs_len
  walk_at "mine steps"
  rename Fr _ _ _ _ => F5
  rename News _ _ _ _ => N5
  refine KBa.make_K F5 N5 rfl (News.isList N5 (by k_mem)) i4' (octs_in _) (by have := octs_len; exact Nat.le_trans (this _) (by decide)) ?_
  intro h6 t6 k6 F6 N6 _
  walk_at "mine steps"
  have hd1 : (1 + claimMargin) + 1 + 6 < recursionLimit := by decide
  refine b64_call (outer := []) (by assumption) (by assumption) (by assumption) rfl ?_ ?_ F6 N6 (octs_in _) (Nat.lt_of_le_of_lt (octs_len _) (by decide)) ?_
  · decide
  · decide
  intro t7 h7 tk7 F7 N7
  walk_at "mine steps"
  have hbl : ∀ xs, (b64 (octs xs)).length ≤ 27 := fun xs => by
    have h1 := b64_len (octs xs)
    have h2 := octs_len xs
    omega
  refine kr_listB rfl F7 N7 (b64_in _) (Nat.lt_of_le_of_lt (hbl _) (by decide)) ?_
  intro D8 ws8 c8 h8 tk8 F8 N8 l8 i8
  k_lt l8
  walk_at "mine steps"
  rename Fr _ _ _ _ => F9
  rename News _ _ _ _ => N9
  refine written_call (outer := []) (by assumption) (by assumption) (by assumption) rfl ?_ ?_ F9 N9 (by k_mem) i4' (octs_in _) (Nat.lt_of_le_of_lt (octs_len _) (by decide)) ?_
  · decide
  · decide
  clear F9 N9
  intro D10 ws10 c10 h10 tk10 i10 F10 N10 l10
  k_lt l10
  walk_at "mine steps"
  rotate_left
  · exact absurd (b64_wr _ (octs_in _)) (by assumption)
  w_top off
  rename Fr _ _ _ _ => F11
  rename News _ _ _ _ => N11
  rename IntsAre ws8 _ => i8
  rename (D8 < D10 ∧ _) => l810
  obtain ⟨as, i8', hz8⟩ : ∃ as, IntsAre ws8 as ∧ as.length ≤ 27 := ⟨_, i8, hbl _⟩
  clear i8
  rename IntsAre ws8 as => i8
  refine For_invVF F11 (by rfl) (by rfl) ?_
  walk_at "mine steps"
  rename Fr _ _ _ _ => F12
  rename News _ _ _ _ => N12
  rename IsRange _ _ _ _ _ _ _ _ => hrg
  obtain ⟨nx, N13, j0⟩ := lawI0 (as := as) N12 (by assumption) (by assumption) (by assumption) (by assumption) (by assumption) (by assumption) (by omega) (by omega)
  clear N12
  refine iter_rangeE (n := as.length) (LawI _ D8 ws8 c8 as) rfl hrg (by exact small_one (by omega) (by omega) (by omega) (by omega)) (by exact rangeSize_nat _ _) F12 N13 (j0 _) ?_ ?_
  · clear F12 N13 hrg
    rintro i t m₁ news₁ h tk R oR hi hR hne ⟨U, H, S, s0, s1, s2, v0, v1, v2, us, hs, nU, nH, nS, n0, n1, n2, o1, o2, o3, o4, o5, o6, x, y, z, b5, b6, rfl, d1, d2, d3, d4, d5, d6, iv0, iv1, iv2, ius, ihs, bx, by1, bz, oU, oH, oS, oA, oB, oZ⟩ F6 N6
    replace hne := off1_of hne
    have hRD : @LT.lt Nat _ D8 R := hR _ (lawI_mem (j0 (fun _ => none)))
    clear hR j0
    rw [Int.zero_add] at F6
    try dsimp only
    iterate 9 (walk_at "mine one")
    k_dflt (refine LCg.ListComp_U (F₀ := by k_asm) (by with_unfolding_all rfl) (by decide) (by rfl) (by decide) (by rfl) ?_)
    iterate 7 (walk_at "mine one")
    refine LCg.CompSrc.range (n := 3) (by rfl) (by k_asm) (by k_asm) (by assumption) (by decide) (by rfl) (by decide) ?_
    intro g'
    refine compRest_ints (heldF [x, y, z] as i) ?_ ?_
    · rintro j ys v I oI C oC D m₂ hp tk' E' hj hys ⟨tv, rfl⟩ hC hx F7 N7 off ne
      rw [Int.zero_add] at hx
      obtain ⟨sk, vk, nk, hk1, hk2, hk3⟩ := fam3 (s0 := s0) (s1 := s1) (s2 := s2) (n0 := n0) (n1 := n1) (n2 := n2) iv0 iv1 iv2 hj
      replace hk1 : [Value.ref s0, .ref s1, .ref s2][(j : Int).toNat]? = some (.ref sk) := hk1
      have N8 := news_fam N7 hk2 (by lcg_sub)
      try dsimp only
      iterate 12 (walk_at "mine one")
      walk_at "compareOp In int ref"
      walk_at "mine one"
      refine' ite_ints (x := 1) (y := 0) ?vbA ?vbB ?vbC
      case vbA => intro Q h; walk_at "mine one"; exact h
      case vbB => intro Q h; walk_at "mine one"; exact h
      intro q0 t9 hq0
      try dsimp only
      walk_at "binaryOp Add int int"
      refine LCg.CompEnd.intro F7 N7 _ (fun p hp => hp) off True.intro (HeldI.next hys ?_)
      rw [hq0]
      unfold heldF
      simp
    intro hs' ihs'
    unfold LCg.FinE
    intro H' h7 tk7 F8 N8 o8
    try dsimp only
    walk_at "mine one"
    try dsimp only
    rename Fr _ _ _ _ => F9
    rename News _ _ _ _ => N9
    rename (_ = Data.cell (some (Value.ref H'))) => d3'
    rename (_ = Data.cell (some (Value.int _ _))) => d5'
    clear d3 d5
    iterate 2 (walk_at "mine one")
    k_dflt (refine LCg.ListComp_U (F₀ := by k_asm) (by with_unfolding_all rfl) (by decide) (by rfl) (by decide) (by rfl) ?_)
    iterate 7 (walk_at "mine one")
    refine LCg.CompSrc.range (n := 3) (by rfl) (by k_asm) (by k_asm) (by assumption) (by decide) (by rfl) (by decide) ?_
    intro g'
    refine compRest_refs (okR R oU) (fun k => (latest (as.take (i + 1))).take (k + 1)) ?_ ?_
    · rintro j ys nw v I oI C oC D m₂ hp tk' E' hj ⟨tv, rfl⟩ hC hx F7 N7 off ne
      rw [Int.zero_add] at hx
      obtain ⟨sk, vk, nk, hk1, hk2, hk3⟩ := fam3 (s0 := s0) (s1 := s1) (s2 := s2) (n0 := n0) (n1 := n1) (n2 := n2) iv0 iv1 iv2 hj
      replace hk1 : [Value.ref s0, .ref s1, .ref s2][(j : Int).toNat]? = some (.ref sk) := hk1
      have N8 := news_fam N7 hk2 (by lcg_sub)
      try dsimp only
      simp only [List.cons_append, List.nil_append] at N8
      clear N7
      walk_at "mine steps"
      try dsimp only
      rename Fr _ _ _ _ => F10
      rename News _ _ _ _ => N10
      have hlt : (latest (as.take i)).length < 1000 ∧ ((latest (as.take i)).take (j + 1)).length < 900 := by
        have := latest_le (as.take i)
        simp only [List.length_take] at this ⊢
        omega
      refine filter_call (by assumption) (by assumption) (by assumption) rfl ?_ ?_ F10 N10 (by k_mem) (by k_mem) hk3 (by omega) ?_
      · decide
      · decide
      intro q1 v1' n1' h11 tk11 iq1 F11 N11 l11
      k_lt l11
      walk_at "mine steps"
      replace iq1 : IntsAre v1' (keepsX (as.getD i 0) ((latest (as.take i)).take (j + 1))) := iq1
      have hkl : (keepsX (as.getD i 0) ((latest (as.take i)).take (j + 1))).length < 900 := Nat.lt_of_le_of_lt (List.length_filter_le _ _) hlt.2
      refine kr_add F11 N11 (by k_mem) (by k_mem) (.cons _ _ .nil) iq1 (by simp only [List.length_cons, List.length_nil]; omega) ?_
      intro q2 v2' h12 F12 N12 l12 iq2
      k_lt l12
      walk_at "mine steps"
      try dsimp only
      rename Fr _ _ _ _ => F13
      rename News _ _ _ _ => N13
      refine kba_turn (value' := PySem.Expr.Name (PySem.Str.ofString "_") ⟨0, 0, 0, 0⟩) (fun _ => rfl) ?_
      refine kr_slice (s := ⟨_, _, _, _, _⟩) (ys := (latest (as.take (i + 1))).take (j + 1)) F13 N13 (by k_mem) iq2 IsPart.none (IsPart.int _ _) ?_ (by simp only [List.length_cons, List.length_nil, List.length_append]; omega) ?_ (by with_unfolding_all rfl) (by intro _; with_unfolding_all rfl)
      · have := kmk_upto (y := (j : Int) + 1) iq2 (by omega)
        rw [show ((j : Int) + 1).toNat = j + 1 by omega] at this
        rw [take_getD hi, ← shelf_turn]
        exact this
      intro q3 v3' h13 F14 N14 l14 iq3
      k_lt l14
      try dsimp only
      refine LCg.CompEnd.intro F14 N14 ((q3, listOf v3'.toArray 0) :: nw) ?_ ?_ True.intro ⟨fun p hp => List.mem_cons_of_mem _ hp, q3, v3', 0, rfl, List.mem_cons_self, iq3, .of (by omega) (by omega), by omega⟩
      · refine List.forall_mem_cons.mpr ⟨by walk_at "mine mem", List.forall_mem_cons.mpr ⟨by walk_at "mine mem", List.forall_mem_cons.mpr ⟨by walk_at "mine mem", List.forall_mem_cons.mpr ⟨by walk_at "mine mem", fun p hp => ?_⟩⟩⟩⟩
        walk_at "mine mem"
      · exact ⟨⟨by omega, by omega, by omega⟩, off⟩
    intro ys nw hS
    obtain ⟨a0, a1, a2, w0, w1, w2, k0, k1, k2, rfl, hb, m0, m1, m2, iw0, iw1, iw2, oa0, oa1, oa2⟩ := hS.three
    unfold LCg.FinE
    intro S' h12 tk12 F12 N12 o12
    try dsimp only
    have N13 : News _ _ _ [(S', listOf #[.ref a0, .ref a1, .ref a2] 3), (a0, listOf w0.toArray k0), (a1, listOf w1.toArray k1), (a2, listOf w2.toArray k2), (H', listOf hs'.toArray hs'.length), (R, oR), (U, listOf us.toArray nU), (D8, listOf ws8.toArray c8), _, _, _, _, _, _] := News.sub N12 (List.forall_mem_cons.mpr ⟨List.mem_cons_self, List.forall_mem_cons.mpr ⟨.tail _ m0, List.forall_mem_cons.mpr ⟨.tail _ m1, List.forall_mem_cons.mpr ⟨.tail _ m2, fun p hp => .tail _ (hb p (subl_mem (by
      exact .cons_cons _ (.cons_cons _ (.cons_cons _ (.cons _ (.cons _ (.cons _ (.cons _ (.cons _ (List.Sublist.refl _))))))))) hp))⟩⟩⟩⟩)
    try dsimp only
    have oS' := OffC.off o12 (D8 := D8) (hb _ (by walk_at "mine mem")) (hb _ (by walk_at "mine mem")) (hb _ (by walk_at "mine mem")) (hb _ (by walk_at "mine mem")) (hb _ (by walk_at "mine mem")) (hb _ (by walk_at "mine mem")) (hb _ (by walk_at "mine mem"))
    have oH' := OffC.off o8 (D8 := D8) (by walk_at "mine mem") (by walk_at "mine mem") (by walk_at "mine mem") (by walk_at "mine mem") (by walk_at "mine mem") (by walk_at "mine mem") (by walk_at "mine mem")
    have rS' : @Ne Nat R S' := off1_ne o12 (o := oR) (hb _ (by walk_at "mine mem"))
    have rH' : @Ne Nat R H' := off1_ne o8 (o := oR) (by walk_at "mine mem")
    have rU : @Ne Nat U R := off1_ne hne (o := listOf us.toArray nU) (by walk_at "mine mem")
    obtain ⟨oa0, ra0⟩ := oa0
    obtain ⟨oa1, ra1⟩ := oa1
    obtain ⟨oa2, ra2⟩ := oa2
    clear N12 o12 hb hS m0 m1 m2
    try clear N9
    try clear N8
    clear o8 hne oH oS oA oB oZ
    clear iv0 iv1 iv2 ihs
    walk_at "mine one"
    walk_at "mine steps"
    rename Fr _ _ _ _ => F13
    rename News _ _ _ _ => N13
    refine kr_slice (s := ⟨_, _, _, _, _⟩) (ys := as.take (i + 1)) F13 N13 (by k_mem) i8 IsPart.none (IsPart.int _ _) ?_ (by omega) ?_ (by with_unfolding_all rfl) (by intro _; with_unfolding_all rfl)
    · have := kmk_upto (y := (i : Int) + 1) i8 (by omega)
      rw [show ((i : Int) + 1).toNat = i + 1 by omega] at this
      exact this
    intro q3 v3' h13 F14 N14 l14 iq3
    k_lt l14
    try dsimp only
    walk_at "mine steps"
    try dsimp only
    have hl3 : (as.take (i + 1)).length < 1000 := by rw [List.length_take]; omega
    refine latest_call (outer := []) (by assumption) (by assumption) (by assumption) rfl ?_ ?_ F14 N14 (by k_mem) iq3 hl3 ?_
    · decide
    · decide
    intro q4 v4' n4' h15 tk15 iq4 F15 N15 l15
    k_lt l15
    walk_at "mine steps"
    try dsimp only
    rename Fr _ _ _ _ => F16
    rename News _ _ _ _ => N16
    refine For_invVF F16 (by rfl) (by rfl) ?_
    walk_at "wide steps"
    rename Fr _ _ _ _ => F17
    rename News _ _ _ _ => N17
    rename IsRange _ _ _ _ _ _ _ _ => hrg
    have hll := latest_le (as.take (i + 1))
    refine iter_rangeE (n := 2) (InnI _ q4 (.int i t)) rfl hrg (by decide) (by rfl) F17 N17 ⟨rfl, by rfl, by rfl⟩ ?_ ?_
    · clear F17 N17 hrg
      rintro j t2 m₂ news₂ h₂ tk₂ R2 oR2 hj hR2 hne2 ⟨rfl, e1, e2⟩ F18 N18
      have F19 := Fr.lay1 _ F18 (fr2 e1 e2)
      clear F18 e1 e2
      simp only [frL] at F19
      rw [Int.zero_add] at F19
      k_lt hR2
      obtain ⟨sk, vk, nk, hk1, hk2, hk3⟩ := fam3 (s0 := a0) (s1 := a1) (s2 := a2) (n0 := k0) (n1 := k1) (n2 := k2) iw0 iw1 iw2 (show j < 3 by omega)
      obtain ⟨sm, vm, nm, hm1, hm2, hm3⟩ := fam3 (s0 := a0) (s1 := a1) (s2 := a2) (n0 := k0) (n1 := k1) (n2 := k2) iw0 iw1 iw2 (show j + 1 < 3 by omega)
      have N19 := news_fam (news_fam N18 hk2 (by lcg_sub)) hm2 (by lcg_sub)
      clear N18
      replace hk1 : [Value.ref a0, .ref a1, .ref a2][(j : Int).toNat]? = some (.ref sk) := hk1
      replace hm1 : [Value.ref a0, .ref a1, .ref a2][((j : Int) + 1).toNat]? = some (.ref sm) := by
        rw [show ((j : Int) + 1).toNat = j + 1 by omega]
        exact hm1
      try dsimp only
      walk_at "wide steps"
      rename Fr _ _ _ _ => F20
      rename News _ _ _ _ => N20
      refine kup_listOf (zs := vk) F20 N20 (by k_mem) rfl ?_ ?_
      case' refine_2 =>
        show vk.length ≤ sizeLine
        rw [hk3.length, sizeLine_eq, List.length_take]
        omega
      intro D21 c21 h21 F21 N21 l21
      have l21' := l21
      k_lt l21
      walk_at "wide steps"
      rename Fr _ _ _ _ => F22
      rename News _ _ _ _ => N22
      refine kup_listOf (zs := vm) F22 N22 (by k_mem) rfl ?_ ?_
      case' refine_2 =>
        show vm.length ≤ sizeLine
        rw [hm3.length, sizeLine_eq, List.length_take]
        omega
      intro D23 c23 h23 F23 N23 l23
      have l23' := l23
      k_lt l23
      walk_at "wide steps"
      have hnd : ((latest (as.take (i + 1))).take (j + 1 + 1)).Nodup := (nodup_latest _).sublist (List.take_sublist _ _)
      have hsl : ((latest (as.take (i + 1))).take (j + 1 + 1)).length < 1000 := by
        simp only [List.length_take] at hll ⊢
        omega
      rw [shelf_next] at hnd hsl hm3
      refine uld (outer := []) (by assumption) (by assumption) (by assumption) rfl ?_ ?_ F23 (News.swap2 N23) hk3 hm3 hnd (Nat.ne_of_lt l23.1) (fun q hq => Nat.ne_of_lt (l21' q hq)) (fun q hq => Nat.ne_of_lt (l23' q (.tail _ hq))) hsl ?_
      · decide
      · decide
      clear l21' l23'
      intro t24 ms24 h24 tk24 m24 m24' us24 iu24 F24 N24 l24
      k_lt l24
      walk_at "wide steps"
      rename Fr _ _ _ _ => F25
      rename News _ _ _ _ => N25
      refine kr_slice (s := ⟨_, _, _, _, _⟩) (ys := ((latest (as.take (i + 1))).drop (j + 1)).take 1) F25 N25 (by k_mem) iq4 (IsPart.int _ _) (IsPart.int _ _) ?_ (by simp only [List.length_take] at hll ⊢; omega) ?_ (by with_unfolding_all rfl) (by intro _; with_unfolding_all rfl)
      · have := kmk_run (x := (j : Int) + 1) (y := (j : Int) + 2) iq4 (by omega) (by omega)
        rw [show ((j : Int) + 1).toNat = j + 1 by omega, show ((j : Int) + 2).toNat = j + 2 by omega, run1] at this
        exact this
      intro q26 v26 h26 F26 N26 l26 iq26
      k_lt l26
      walk_at "wide steps"
      rename News _ _ _ _ => N27
      refine ne_pair_same N27 (by k_mem) (by rfl) (by rfl) (by k_mem) (by k_mem) (by k_mem) (by rfl) (by rfl) (by k_mem) (by k_mem) iu24 iq26 (by ke_room) ?_
      walk_at "wide steps"
      rename News _ _ _ _ => N28
      refine ne_nil N28 (by k_mem) (by k_mem) (by ke_room) ?_
      walk_at "wide steps"
      rename Fr _ _ _ _ => F29
      refine InvEndG.intro F29 N28 ⟨rfl, by rfl, by rfl⟩ (own1 hne2) (fun p hp => ?_) (fun p hp => ?_)
      · walk_at "mine mem"
      · rw [List.mem_singleton.mp hp]
        walk_at "mine mem"
    · clear F17 N17 hrg
      rintro m₂ news₂ h₂ tk₂ ⟨rfl, e1, e2⟩ F18 N18
      have F19 := Fr.lay _ F18 (fr2 e1 e2)
      clear F18 e1 e2
      simp only [frL] at F19
      try dsimp only
      walk_at "wide one"
      k_dflt (refine LCt.Assign_ListComp_T (F₀ := by k_asm) (by rfl) (by with_unfolding_all rfl) (by with_unfolding_all rfl) (by decide) (by rfl) (by decide) (by rfl) (by rfl) (by rfl) ?_)
      iterate 7 (walk_at "wide one")
      refine LCt.CompSrcT.range (n := i) (by rfl) (by k_asm) (by k_asm) (by assumption) (by exact small_one (by omega) (by omega) (by omega) (by omega)) (by exact rangeSize_nat _ _) (by rw [sizeLine_eq]; omega) ?_
      intro g'
      refine compRestT_earl as (as.getD i 0) ?_ ?_
      · rintro j ys v I oI C oC D m₂ hp tk' E' hj hys ⟨tv, rfl⟩ hC hx F7 N7 off ne
        rw [Int.zero_add] at hx
        try dsimp only
        walk_at "wide steps"
        · exact LCg.CompEnd.intro F7 N7 _ (fun p hp => hp) off True.intro (EarlI.yes hys (by assumption))
        · exact LCg.CompEnd.intro F7 N7 _ (fun p hp => hp) off True.intro (EarlI.no hys (by assumption))
      intro es ies
      unfold LCg.FinA
      intro E1 h8 tk8 F8 N8 o8
      try dsimp only
      have oE1 := OffC.off o8 (D8 := D8) (by walk_at "mine mem") (by walk_at "mine mem") (by walk_at "mine mem") (by walk_at "mine mem") (by walk_at "mine mem") (by walk_at "mine mem") (by walk_at "mine mem")
      clear o8
      walk_at "wide steps"
      rename Fr _ _ _ _ => F9
      rename News _ _ _ _ => N9
      refine kr_ne (vs := []) N9 (by k_mem) (by k_mem) ies .nil (by ke_room) ?_
      rcases List.eq_nil_or_concat (earl as (as.getD i 0) i) with he | ⟨l0, j0, he⟩
      · rw [show (!decide (earlZ as (as.getD i 0) i = [])) = false by unfold earlZ; rw [he]; rfl]
        walk_at "wide steps"
        try dsimp only
        rename (_ = Data.cell (some (Value.ref S'))) => d2'
        have ius' : IntsAre us [heldF [x, y, z] as i 0, heldF [x, y, z] as i 1, heldF [x, y, z] as i 2] := by
          rw [← none_law (Nat.le_of_lt hi) he, ← none_law (Nat.le_of_lt hi) he, ← none_law (Nat.le_of_lt hi) he]
          exact ius
        refine InvEndG.intro F9 N9 ⟨U, H', S', a0, a1, a2, w0, w1, w2, us, hs', nU, hs'.length, 3, k0, k1, k2, o1, _, _, o4, _, o6, _, _, _, _, _, rfl, d1, d2', d3', d4, d5', d6, iw0, iw1, iw2, ius', ihs', held_bound bx, held_bound by1, held_bound bz, oU, oH', oS', oa0, oa1, oa2⟩ (own1 (off1_all ⟨rU, rH'.symm, rS'.symm, Nat.ne_of_gt ra0, Nat.ne_of_gt ra1, Nat.ne_of_gt ra2, Nat.ne_of_lt hRD, ?_, ?_, ?_, ?_, ?_, ?_, trivial⟩)) ?_ ?_
        · exact neN (by omega)
        · exact neN (by omega)
        · exact neN (by omega)
        · exact neN (by omega)
        · exact neN (by omega)
        · exact neN (by omega)
        · lcg_sub
        · lcg_sub
      · rw [List.concat_eq_append] at he
        rw [show (!decide (earlZ as (as.getD i 0) i = [])) = true by unfold earlZ; rw [he]; simp]
        iterate 14 (walk_at "wide one")
        try dsimp only
        have ies' : IntsAre es (l0.map (fun k : Nat => (k : Int)) ++ [(j0 : Int)]) := by
          have := ies
          unfold earlZ at this
          rw [he, List.map_append] at this
          exact this
        obtain ⟨hj0, hj1, hj2⟩ := earl_last (Nat.le_of_lt hi) he
        clear ies
        walk_at "wide steps"
        rename Fr _ _ _ _ => F10
        rename News _ _ _ _ => N10
        refine kr_last N10 (by k_mem) ies' (fun t31 => ?_)
        walk_at "wide steps"
        rename Fr _ _ _ _ => F11
        rename News _ _ _ _ => N11
        refine kr_slice (s := ⟨_, _, _, _, _⟩) (ys := (as.drop (j0 + 1)).take (i - (j0 + 1))) F11 N11 (by k_mem) i8 (IsPart.int _ _) (IsPart.int _ _) ?_ (by omega) ?_ (by with_unfolding_all rfl) (by intro _; with_unfolding_all rfl)
        · have := kmk_run (x := (j0 : Int) + 1) (y := (i : Int)) i8 (by omega) (by omega)
          rw [show ((j0 : Int) + 1).toNat = j0 + 1 by omega, show ((i : Nat) : Int).toNat = i by omega, Nat.min_eq_left (Nat.le_of_lt hi)] at this
          exact this
        intro q3 v3' h13 F14 N14 l14 iq3
        k_lt l14
        try dsimp only
        walk_at "wide steps"
        try dsimp only
        have hl3 : ((as.drop (j0 + 1)).take (i - (j0 + 1))).length < 1000 := by rw [List.length_take]; omega
        refine latest_call (outer := []) (by assumption) (by assumption) (by assumption) rfl ?_ ?_ F14 N14 (by k_mem) iq3 hl3 ?_
        · decide
        · decide
        intro q4' v4'' n4'' h15 tk15 iq4' F15 N15 l15
        k_lt l15
        have hlq := Nat.lt_of_le_of_lt (latest_le ((as.drop (j0 + 1)).take (i - (j0 + 1)))) hl3
        obtain ⟨bt, hbt⟩ : ∃ bt : Int, bt = ((latest ((as.drop (j0 + 1)).take (i - (j0 + 1)))).length : Nat) := ⟨_, rfl⟩
        iterate 2 (walk_at "wide one")
        rw [← hbt]
        iterate 3 (walk_at "wide one")
        try dsimp only
        rename (_ = Data.cell (some (Value.ref S'))) => d2'
        rename (_ = Data.cell (some (Value.int bt _))) => d6'
        clear d6
        iterate 1 (walk_at "wide one")
        k_dflt (refine LCg.ListComp_U (F₀ := by k_asm) (by with_unfolding_all rfl) (by decide) (by rfl) (by decide) (by rfl) ?_)
        iterate 7 (walk_at "wide one")
        refine LCg.CompSrc.range (n := 3) (by rfl) (by k_asm) (by k_asm) (by assumption) (by decide) (by rfl) (by decide) ?_
        intro g'
        refine compRest_ints (dueF [x, y, z] bt) ?_ ?_
        · rintro j ys v I oI C oC D m₂ hp tk' E' hj hys ⟨tv, rfl⟩ hC hx F7 N7 off ne
          rw [Int.zero_add] at hx
          try dsimp only
          iterate 11 (walk_at "wide one")
          refine' ite_ints (x := 1) (y := 0) ?vhA ?vhB ?vhC
          case vhA => intro Q h; walk_at "wide one"; exact h
          case vhB => intro Q h; walk_at "wide one"; exact h
          intro q0 t9 hq0
          try dsimp only
          walk_at "binaryOp Add int int"
          refine LCg.CompEnd.intro F7 N7 _ (fun p hp => hp) off True.intro (HeldI.next hys ?_)
          rw [hq0]
          unfold dueF
          simp
        intro us' ius'
        unfold LCg.FinE
        intro U' h7 tk7 F8 N8 o8
        try dsimp only
        have oU' := OffC.off o8 (D8 := D8) (by walk_at "mine mem") (by walk_at "mine mem") (by walk_at "mine mem") (by walk_at "mine mem") (by walk_at "mine mem") (by walk_at "mine mem") (by walk_at "mine mem")
        have rU' : @Ne Nat R U' := off1_ne o8 (o := oR) (by walk_at "mine mem")
        clear o8
        walk_at "wide steps"
        rename Fr _ _ _ _ => F9'
        rename News _ _ _ _ => N9'
        rename (_ = Data.cell (some (Value.ref U'))) => d4'
        have ius2 : IntsAre us' [heldF [x, y, z] as i 0, heldF [x, y, z] as i 1, heldF [x, y, z] as i 2] := by
          rw [← due_law (Nat.le_of_lt hi) he hbt, ← due_law (Nat.le_of_lt hi) he hbt, ← due_law (Nat.le_of_lt hi) he hbt]
          exact ius'
        refine InvEndG.intro F9' N9' ⟨U', H', S', a0, a1, a2, w0, w1, w2, us', hs', us'.length, hs'.length, 3, k0, k1, k2, o1, _, _, _, _, _, _, _, _, _, _, rfl, d1, d2', d3', d4', d5', d6', iw0, iw1, iw2, ius2, ihs', held_bound bx, held_bound by1, held_bound bz, oU', oH', oS', oa0, oa1, oa2⟩ (own1 (off1_all ⟨rU'.symm, rH'.symm, rS'.symm, Nat.ne_of_gt ra0, Nat.ne_of_gt ra1, Nat.ne_of_gt ra2, Nat.ne_of_lt hRD, ?_, ?_, ?_, ?_, ?_, ?_, trivial⟩)) ?_ ?_
        · exact neN (by omega)
        · exact neN (by omega)
        · exact neN (by omega)
        · exact neN (by omega)
        · exact neN (by omega)
        · exact neN (by omega)
        · lcg_sub
        · lcg_sub
  · clear F12 N13 j0 hrg
    rintro m₁ news₁ h tk ⟨U, H, S, s0, s1, s2, v0, v1, v2, us, hs, nU, nH, nS, n0, n1, n2, o1, o2, o3, o4, o5, o6, x, y, z, b5, b6, rfl, d1, d2, d3, d4, d5, d6, iv0, iv1, iv2, ius, ihs, bx, by1, bz, oU, oH, oS, oA, oB, oZ⟩ F6 N6
    try dsimp only
    walk_at "wide steps"
    rename Fr _ _ _ _ => F9
    rename News _ _ _ _ => N9
    refine kr_eq N9 (by k_mem) (by k_mem) ihs ius (by ke_room) ?_
    rw [yes_bool]
    try dsimp only
    k_unfold
    try dsimp only
    exact ⟨.inl ⟨.bool true, .bool true, [], rfl, fun _ => rfl, ReadsW.bool true, by wrow_post, fun _ => ⟨List.nodup_nil, fun _ hm => nomatch hm⟩⟩, Fr.keep F9, rfl, by assumption⟩
end
end Mine
theorem PySem.Challenge.cw_ik0172_01_holds : PySem.Challenge.rw_ik0172_01.Holds :=
  Mine.top

import PyProof.Rows.All
import Wide.All
import OpenK.AllK
import Wide.FinOn
import PySem.Challenge.RW_rw0101_01
open PySem PySem.W PySem.Calls PyProof.Rows
set_option Elab.async false
/- part HdA -/
namespace Mine
set_option maxRecDepth 100000 in
set_option maxHeartbeats 8000000 in
open_top hd for PySem.Challenge.rw_rw0101_01
end Mine
/- part Bs -/
namespace Mine
noncomputable abbrev Am (dp un : Nat) (fr : Option (List Env)) (gd : Option (List Code)) : Around := { handled := none, depth := dp, frames := fr, guards := gd, units := un }
/-- the heap has only grown -/
noncomputable abbrev Grows (h h' : Heap) : Prop := ∀ b o, h.get? b = some o → h'.get? b = some o
theorem Grows.refl (h : Heap) : Grows h h := fun _ _ e => e
theorem Grows.trans {a b c : Heap} (x : Grows a b) (y : Grows b c) : Grows a c := fun d o e => y d o (x d o e)
theorem Grows.list {h h' : Heap} (g : Grows h h') {a : Addr} {vs : Array Value} (x : h.IsList a vs) : h'.IsList a vs := let ⟨o, e, r⟩ := x; ⟨o, g _ _ e, r⟩
section
variable {prog : Program} {w : World} {A : Around} {s : Shared} {K : Frag}
theorem enterP {R : Result → Shared → Prop} {name qual : Str} {params : Arguments} {body : List Stmt} {scope : Scope} {dV kV doc pm cdv ct oc : Value} {an od : Option Addr} {osl : Array (Option Value)} {f : Addr} {args : Args} {binds : List (Str × Value)}
    (X : K.In s.heap) (hlim : s.heap.NoLimit)
    (ho : K.lookup f = some ⟨oc, od, .func (fnOf name qual params body scope dV kV doc pm an cdv ct), osl⟩) (hcd : codeIn K cdv qual = true) (hroom : A.depth < recursionLimit)
    (hbind : BindsTo s (fnOf name qual params body scope dV kV doc pm an cdv ct) args binds) (hloc : ∀ y ∈ binds, scope.names.lookup y.1 = some .local)
    (h : ∀ L' h₁, L' = s.heap.objs.size → Fr s.heap L' h₁ (fun y => binds.reverse.lookup y) →
      wpAny (model prog w) (A.deeper (envOf qual scope L' f cdv)) (execs body (envOf qual scope L' f cdv))
        (fun fl s' => R (.ok (.ret (match fl with | .ret v => v | _ => .none))) s') (fun _ _ => False)
        { s with heap := h₁, toks := s.toks + binds.length })
    (hco : scope.isCoroutine = false) (hgen : scope.isGenerator = false) (hk : scope.kind = .function)
    (hcell : ∀ x ∈ scope.names, x.2 ≠ .cell) : codeAny (model prog w) A (.call (.ref f) args) R s := by
  refine codeAny_call_def (fd := fnOf name qual params body scope dV kV doc pm an cdv ct) (body := body) (binds := binds) hroom (X _ _ ho) rfl hlim (codeRec_of X hcd) rfl hbind hcell hloc (fun h₁ hns hk₁ => ?_) hco hgen hk
  exact wpAny_mono (h s.heap.objs.size h₁ rfl ⟨hns, hk₁, Nat.le_refl _⟩) (fun _ _ x => x) fun _ _ x => x.elim
end

noncomputable def Has (m : Str → Option Value) : List (Str × Value) → Prop
  | [] => True
  | p :: r => m p.1 = some p.2 ∧ Has m r
theorem Has.mem {m : Str → Option Value} : ∀ {ps : List (Str × Value)}, Has m ps → ∀ p ∈ ps, m p.1 = some p.2
  | [], _, _, hp => nomatch hp
  | q :: r, h, p, hp => by
    rcases List.mem_cons.mp hp with rfl | hp
    · exact h.1
    · exact h.2.mem p hp
theorem Has.view {m : Str → Option Value} {ps : List (Str × Value)} (h : Has m ps) : kstB m ps = m := by
  funext z
  exact kstB_eq h.mem fun _ => rfl
theorem frView {h₀ h : Heap} {L : Addr} {m : Str → Option Value} {ps : List (Str × Value)} (F : Fr h₀ L h m) (hm : Has m ps) : Fr h₀ L h (kstB m ps) := by
  rw [hm.view]; exact F
theorem frViewX {h₀ h : Heap} {L : Addr} {m : Str → Option Value} {ps : List (Str × Value)} {x : Str} {v : Value} (F : Fr h₀ L h (fun y => if y = x then some v else m y)) (hm : Has m ps) :
    Fr h₀ L h (fun y => if y = x then some v else kstB m ps y) := by
  rw [hm.view]; exact F

section
variable {prog : Program} {w : World} {A : Around} {E : Value → Shared → Prop} {s : Shared} {env : Env} {h₀ : Heap} {x : Str} {body : List Stmt} {Q : Flow → Shared → Prop}
theorem unrPost_mono {L I : Addr} {it : Obj} {s₁ s₂ : Shared} {f : Flow} {r r' : (Str → Option Value) → List (Addr × Obj) → Prop} (hr : ∀ m n, (∀ p ∈ n, p.1 ≠ I) → r m n → r' m n) (h : UnrPost h₀ L s₁ I it r Q f s₂) : UnrPost h₀ L s₁ I it r' Q f s₂ := by
  have key : UnrEnd h₀ L s₁ I it r s₂ → UnrEnd h₀ L s₁ I it r' s₂ := by
    rintro ⟨h', tk, m', news', e, F, N, ho, hx⟩
    exact ⟨h', tk, m', news', e, F, N, ho, hr _ _ ho hx⟩
  cases f with
  | ret v => exact h
  | brk => exact h
  | next => exact key h
  | cont => exact key h
/-- a for over a list of the ledger, by what holds of the rest -/
theorem loop_list {ax : Addr} {lo : Obj} {vs : List Value} {n : Nat} {m₀ : Str → Option Value} {news : List (Addr × Obj)} (J : List Value → (Str → Option Value) → List (Addr × Obj) → Prop)
    (hh : A.handled = none) (F : Fr h₀ env.locals s.heap m₀) (N : News h₀ env.locals s.heap news) (hm : (ax, lo) ∈ news) (hc : lo.cls = .type "list") (hd : lo.data = .seq vs.toArray n) (hJ : J vs m₀ news)
    (turn : ∀ (I : Addr) v r m nx (it : Obj) h tk, J (v :: r) m nx → it.cls = .type "list_iterator" → (ax, lo) ∈ nx → (∀ p ∈ nx, p.1 ≠ I) → Fr h₀ env.locals h (fun y => if y = x then some v else m y) → News h₀ env.locals h ((I, it) :: nx) →
      wpAny (model prog w) A (execs body env) (UnrPost h₀ env.locals { s with heap := h, toks := tk } I it (fun m' n' => (ax, lo) ∈ n' ∧ J r m' n') Q) E { s with heap := h, toks := tk })
    (done : ∀ m nx h tk, J [] m nx → Fr h₀ env.locals h m → News h₀ env.locals h nx → Q .next { s with heap := h, toks := tk }) :
    wpAny (model prog w) A (pyIter (.ref ax)) (fun it s₂ => LoopAtV prog w A h₀ env x body Q E it s₂) E s := by
  refine iter_listUnr hh F N hm hc hd fun I hI => ?_
  have key : ∀ r m nx, (∀ p ∈ nx, p.1 ≠ I) → (ax, lo) ∈ nx → J r m nx → ListRest prog w A E h₀ env x body Q s I (ax, lo) r m nx := by
    intro r
    induction r with
    | nil => exact fun m nx _ _ hj => ListRest.zero fun h tk F' N' => done m nx h tk hj F' N'
    | cons v r ih =>
      intro m nx ho hmem hj
      refine ListRest.succ fun it h tk hc' F' N' => ?_
      exact wpAny_mono (turn I v r m nx it h tk hj hc' hmem ho F' N') (fun f s₂ p => unrPost_mono (fun m' n' ho' hx => ⟨hx.1, ih m' n' ho' hx.1 hx.2⟩) p) fun _ _ e => e
  exact key vs m₀ news (fun p hp => Nat.ne_of_lt (hI p hp)) hm hJ
end

/-- a place where the walk is to stop -/
structure Hold (P : Prop) : Prop where
  out : P
theorem hold {P : Prop} (h : Hold P) : P := h.out

section
variable {prog : Program} {w : World} {A : Around} {E : Value → Shared → Prop} {s : Shared}
theorem lenL {l : Addr} {vs : List Value} {n : Int} {Q : Value → Shared → Prop} (hl : s.heap.IsList l vs.toArray) (hn : (vs.length : Int) = n) (hf : n < 2 ^ 62)
    (h : Q (.int n (s.toks + 1)) { s with toks := s.toks + 1 + 1 }) : wpAny (model prog w) A (call (.builtin "len") [.ref l]) Q E s := by
  subst hn
  exact len_list hl (by simp; omega) (by simpa using h)
theorem itemL {value slice : PySem.Expr} {l : Addr} {vs : List Value} {k : Int} {u : Tok} {v : Value} {Q : Value → Shared → Prop}
    (hl : s.heap.IsList l vs.toArray) (h0 : 0 ≤ k) (hhi : k < 2 ^ 63) (hx : vs[k.toNat]? = some v) (h : Q v s)
    (hs : subscripted slice false (.ref l) (.int k u) = operate [.ref l, .int k u] (getItem (.ref l) (.int k u)) := by with_unfolding_all rfl) :
    wpAny (model prog w) A (subscriptTail value slice (.ref l) (.int k u)) Q E s :=
  tail_any hl.typeIs slot_list_getitem.lookup (wpAny_getItem_list hl h0 hhi (by simpa using hx) h) hs
theorem itemLast {value slice : PySem.Expr} {l : Addr} {vs : List Value} {u : Tok} {v : Value} {Q : Value → Shared → Prop}
    (hl : s.heap.IsList l (vs ++ [v]).toArray) (h : Q v s)
    (hs : subscripted slice false (.ref l) (.int (-1) u) = operate [.ref l, .int (-1) u] (getItem (.ref l) (.int (-1) u)) := by with_unfolding_all rfl) :
    wpAny (model prog w) A (subscriptTail value slice (.ref l) (.int (-1) u)) Q E s :=
  tail_any hl.typeIs slot_list_getitem.lookup (wpAny_getItem_list_neg hl (by decide) (by simp; omega) (by decide) (by
    have e : ((-1 : Int) + ((vs ++ [v]).toArray.size : Int)).toNat = vs.length := by simp; omega
    rw [e]; simp) h) hs
end

theorem newsSub {h₀ h : Heap} {L : Addr} {news news' : List (Addr × Obj)} (N : News h₀ L h news) (hs : ∀ p ∈ news', p ∈ news) : News h₀ L h news' := fun p hp => N p (hs p hp)
theorem strValues_cons {v : Value} {r : List Value} {rs : List (Str × Tok)} (h : v :: r = strValues rs) : ∃ x t rs', rs = (x, t) :: rs' ∧ v = .str x t ∧ r = strValues rs' := by
  cases rs with
  | nil => cases h
  | cons p rs' =>
    obtain ⟨x, t⟩ := p
    simp only [strValues, List.map_cons, List.cons.injEq] at h
    exact ⟨x, t, rs', rfl, h.1, h.2⟩

/-- the end of a turn of a comprehension whose ledger stays -/
structure CT (h₀ : Heap) (L : Addr) (m : Str → Option Value) (s₁ : Shared) (nw : List (Addr × Obj)) (J : Value → Prop) (y : Value) (s₂ : Shared) : Prop where
  out : ∃ h' tk, s₂ = { s₁ with heap := h', toks := tk } ∧ Fr h₀ L h' m ∧ News h₀ L h' nw ∧ J y
theorem CT.intro {h₀ : Heap} {L : Addr} {m : Str → Option Value} {s₁ : Shared} {nw : List (Addr × Obj)} {J : Value → Prop} {y : Value} {h' : Heap} {tk : Nat} (F : Fr h₀ L h' m) (N : News h₀ L h' nw) (j : J y) :
    CT h₀ L m s₁ nw J y { s₁ with heap := h', toks := tk } := ⟨h', tk, rfl, F, N, j⟩
section
variable {prog : Program} {w : World} {A : Around} {h₀ : Heap} {L : Addr} {m : Str → Option Value} {env : Env} {elt : PySem.Expr} {x : Str} {scope : Scope} {cl : List (Str × Addr)} {s : Shared} {S : List (Addr × Obj) → Prop} {P : Nat → Value → Prop} {Fin : List Value → List (Addr × Obj) → Prop} {news : List (Addr × Obj)}
theorem compRest_inv {n : Nat} (J : Nat → List Value → Prop) (hS : S news) (h0 : J 0 [])
    (turn : ∀ i v I oI C oC D m₂ ys h tk (E' : Value → Shared → Prop), i < n → P i v → J i ys → LCg.NsObj oC m₂ → m₂ x = some v → Fr h₀ L h m → News h₀ L h ((I, oI) :: (C, oC) :: (D, LCg.lst ys) :: news) → LCg.Off3 I C D news → ((@Ne Nat I C) ∧ (@Ne Nat I D) ∧ (@Ne Nat C D)) →
      wpAny (model prog w) A (eval elt (compEnvC scope cl C env)) (CT h₀ L m { s with heap := h, toks := tk } ((I, oI) :: (C, oC) :: (D, LCg.lst ys) :: news) (fun y => J (i + 1) (ys ++ [y]))) E' { s with heap := h, toks := tk })
    (fin : ∀ ys, J n ys → Fin ys news) : LCg.CompRest prog w A h₀ L m env elt x scope cl s S P Fin n 0 [] news := by
  have key : ∀ (j i : Nat) (ys : List Value), i + j = n → J i ys → LCg.CompRest prog w A h₀ L m env elt x scope cl s S P Fin j i ys news := by
    intro j
    induction j with
    | zero =>
      intro i ys hi hj
      have e : i = n := by omega
      subst e
      exact LCg.CompRest.zero (fin ys hj)
    | succ j ih =>
      intro i ys hi hj
      refine LCg.CompRest.succ ?_
      intro v I oI C oC D m₂ h tk E' hv hC hx F N off ne
      refine wpAny_mono (turn i v I oI C oC D m₂ ys h tk E' (by omega) hv hj hC hx F N off ne) (fun y s₂ hq => ?_) fun _ _ e => e
      obtain ⟨h', tk', e, F', N', j'⟩ := hq.out
      exact ⟨h', tk', news, e, F', N', off, hS, ih (i + 1) _ (by omega) j'⟩
  exact key n 0 [] (by omega) h0
end

section
variable {prog : Program} {w : World} {A : Around} {s : Shared} {K : Frag}
theorem enterC {R : Result → Shared → Prop} {name qual : Str} {params : Arguments} {body : List Stmt} {scope : Scope} {dV kV doc pm cdv ct oc : Value} {an od : Option Addr} {osl : Array (Option Value)} {f : Addr} {args : Args} {binds : List (Str × Value)}
    (X : K.In s.heap) (hlim : s.heap.NoLimit)
    (ho : K.lookup f = some ⟨oc, od, .func (fnOf name qual params body scope dV kV doc pm an cdv ct), osl⟩) (hcd : codeIn K cdv qual = true) (hroom : A.depth < recursionLimit)
    (hbind : BindsTo s (fnOf name qual params body scope dV kV doc pm an cdv ct) args binds) (hkind : (binds.all fun y => scope.names.lookup y.1 == some .local || scope.names.lookup y.1 == some .cell) = true)
    (hnd : ((cellsFrom 0 scope.names []).map (·.1)).Nodup)
    (h : ∀ L' h₁ tk cells, L' = s.heap.objs.size → Fr s.heap L' h₁ (bindL (envOfC qual scope L' f cdv).kindOf binds fun _ => none) → News s.heap L' h₁ cells →
      CellsAre (bindC (envOfC qual scope L' f cdv).kindOf binds fun _ => none) (cellsFrom (L' + 1) scope.names []) cells →
      wpAny (model prog w) (A.deeper (envOfC qual scope L' f cdv)) (execs body (envOfC qual scope L' f cdv))
        (fun fl s' => R (.ok (.ret (match fl with | .ret v => v | _ => .none))) s') (fun _ _ => False)
        { s with heap := h₁, toks := tk })
    (hco : scope.isCoroutine = false) (hgen : scope.isGenerator = false) (hk : scope.kind = .function) : codeAny (model prog w) A (.call (.ref f) args) R s := by
  refine codeAny_call_function hroom (X _ _ ho) rfl hco hgen rfl (codeRec_of X hcd) (hbind _ _ _ _ ?_)
  refine wpAny_newFunctionEnv_cells hk (kindsX hkind _) fun env' he s' x => ?_
  subst he
  refine ⟨hlim.keeps x.toInCall.keep, codeAny_func ?_⟩
  obtain ⟨h₁, tk, rfl, _⟩ := x.done
  obtain ⟨cells, NC, Y⟩ := Cl.news (h₀ := s.heap) (Nat.le_refl _) fun n c hm => ⟨x.cell n c (lookup_of_mem_nodup (cellsFrom_names scope.names 0 (s.heap.objs.size + 1) [] [] rfl ▸ hnd) hm), x.above n c hm⟩
  exact wpAny_mono (h s.heap.objs.size h₁ tk cells rfl ⟨x.toInCall.ns, x.toInCall.keep, Nat.le_refl _⟩ NC Y) (fun _ _ z => z) fun _ _ z => z.elim
end
section
variable {prog : Program} {w : World} {A : Around} {E : Value → Shared → Prop} {s : Shared} {env : Env} {h₀ : Heap} {target : PySem.Expr} {body : List Stmt} {Q : Flow → Shared → Prop}
/-- a for over a range by ones, whatever name its target is -/
theorem turns_range {y : Str} {py : Pos} {r : Addr} {a₀ b₀ : Int} {t₀ u₀ v₀ : Tok} {n : Nat} {m₀ : Str → Option Value} {news : List (Addr × Obj)} (J : Nat → (Str → Option Value) → List (Addr × Obj) → Prop)
    (hh : A.handled = none) (hr : IsRange s.heap r a₀ b₀ 1 t₀ u₀ v₀) (hsmall : Builtin.Range.small a₀ b₀ 1 = true) (hn : Builtin.Range.rangeSize a₀ b₀ 1 = (n : Int)) (F : Fr h₀ env.locals s.heap m₀) (N : News h₀ env.locals s.heap news) (hJ : J 0 m₀ news)
    (turn : ∀ (I : Addr) (i : Nat) t m nx (it : Obj) h tk, i < n → J i m nx → it.cls = .type "range_iterator" → (∀ p ∈ nx, p.1 ≠ I) → Fr h₀ env.locals h m → News h₀ env.locals h ((I, it) :: nx) →
      wpAny (model prog w) A (assign (.Name y py) env (.int (a₀ + (i : Int)) t)) (fun _ s₃ => wpAny (model prog w) A (execs body env) (UnrPost h₀ env.locals { s with heap := h, toks := tk } I it (J (i + 1)) Q) E s₃) E { s with heap := h, toks := tk })
    (done : ∀ m nx h tk, J n m nx → Fr h₀ env.locals h m → News h₀ env.locals h nx → Q .next { s with heap := h, toks := tk }) :
    wpAny (model prog w) A (pyIter (.ref r)) (fun it s₂ => TurnsAt prog w A h₀ env (.Name y py) body Q E it s₂) E s := by
  refine wpAny_pyIter_range hr hsmall ?_
  have W : Walks prog w A s.heap.objs.size [s.heap.objs.size] [s.heap.objs.size] n (fun i v => i < n ∧ ∃ t, v = .int (a₀ + i * 1) t)
      (fun i h => IsRangeIter h s.heap.objs.size (a₀ + (i : Nat) * 1) ((n : Int) - (i : Nat)) 1) := (Walks.range hh _ a₀ 1 n).bound
  have hnew := next_is_new F
  refine ⟨s.heap.objs.size, [s.heap.objs.size], [s.heap.objs.size], n, _, _, _, m₀, news, J, rfl, KTurns.ofWalks W (fun i v s Q E st hq => wpAny_pure hq), ?_, ?_, ?_, (by show IsRangeIter _ _ _ _ _; rw [hn]; simpa using Heap.get?_push_size _ rfl), F.push _, (fun p hp => ⟨Heap.get?_push_of_some _ (N p hp).1, (N p hp).2⟩), hJ, ?_, ?_⟩
  · intro hm
    exact absurd F.ns.lt ((List.mem_singleton.mp hm) ▸ Nat.lt_irrefl _)
  · intro b hb
    rw [List.mem_singleton.mp hb]
    exact hnew
  · intro p hp hI
    exact absurd (Heap.lt_size (N p hp).1) ((List.mem_singleton.mp hI) ▸ Nat.lt_irrefl _)
  · rintro i v m₁ news₁ h₁ tk₁ own hin ⟨_, t, rfl⟩ hj hoff hown hget hall hst F₁ N₁
    have hst' : h₁.get? s.heap.objs.size = some (itR (a₀ + ((i + 1 : Nat) : Int)) ((n : Int) - ((i + 1 : Nat) : Int))) := by
      have q : IsRangeIter h₁ s.heap.objs.size (a₀ + ((i + 1 : Nat) : Int) * 1) ((n : Int) - ((i + 1 : Nat) : Int)) 1 := hst
      rw [Int.mul_one] at q
      exact q
    have hmem := hall s.heap.objs.size (List.mem_singleton.mpr rfl) hnew _ hst'
    rw [show a₀ + (i : Int) * 1 = a₀ + (i : Int) by rw [Int.mul_one]]
    have off : ∀ p ∈ news₁, p.1 ≠ s.heap.objs.size := fun p hp e => hoff p hp (List.mem_singleton.mpr e)
    have N₂ : News h₀ env.locals h₁ ((s.heap.objs.size, itR (a₀ + ((i + 1 : Nat) : Int)) ((n : Int) - ((i + 1 : Nat) : Int))) :: news₁) := fun p hp => by
      rcases List.mem_cons.mp hp with rfl | hp
      · exact N₁ _ (List.mem_append_left _ hmem)
      · exact N₁ _ (List.mem_append_right _ hp)
    refine wpAny_mono (turn s.heap.objs.size i t m₁ news₁ _ h₁ tk₁ hin hj rfl off F₁ N₂) (fun _ s₃ z => wpAny_mono z (fun f s₂ p => ?_) fun _ _ e => e) fun _ _ e => e
    have fin : UnrEnd h₀ env.locals { s with heap := h₁, toks := tk₁ } s.heap.objs.size (itR (a₀ + ((i + 1 : Nat) : Int)) ((n : Int) - ((i + 1 : Nat) : Int))) (J (i + 1)) s₂ →
        LoopStepU h₀ env.locals [s.heap.objs.size] own (J (i + 1)) { s with heap := h₁, toks := tk₁ } .next s₂ := by
      rintro ⟨h', tk, m', news', e, F', N', ho, r⟩
      refine ⟨rfl, h', tk, m', news', e, F', fun p hp => ?_, fun p hp hI => ho p hp (List.mem_singleton.mp hI), r⟩
      rcases List.mem_append.mp hp with hp | hp
      · have h1 : p.1 = s.heap.objs.size := List.mem_singleton.mp (hown p hp)
        have h2 : h₁.get? p.1 = some p.2 := hget p hp
        have h3 : p = (s.heap.objs.size, itR (a₀ + ((i + 1 : Nat) : Int)) ((n : Int) - ((i + 1 : Nat) : Int))) := by
          rw [h1, hst'] at h2
          exact Prod.ext h1 (Option.some.inj h2).symm
        rw [h3]; exact N' _ (List.mem_cons_self ..)
      · exact N' _ (List.mem_cons_of_mem _ hp)
    cases f with
    | ret v => exact p
    | brk => exact p
    | next => exact fin p
    | cont => exact fin p
  · rintro h' tk m' news' F' N' _ hj
    exact done m' news' h' tk hj F' N'
end

section
variable {prog : Program} {w : World} {A : Around} {h₀ : Heap} {L : Addr} {m : Str → Option Value} {env : Env} {ct elt : PySem.Expr} {x : Str} {scope : Scope} {cl : List (Str × Addr)} {s : Shared} {S : List (Addr × Obj) → Prop} {P : Nat → Value → Prop} {Fin : List Value → List (Addr × Obj) → Prop} {news : List (Addr × Obj)}
theorem compRestT_inv {n : Nat} (J : Nat → List Value → Prop) (hS : S news) (h0 : J 0 [])
    (turn : ∀ i v I oI C oC D m₂ ys h tk (E' : Value → Shared → Prop), i < n → P i v → J i ys → LCg.NsObj oC m₂ → m₂ x = some v → Fr h₀ L h m → News h₀ L h ((I, oI) :: (C, oC) :: (D, LCg.lst ys) :: news) → LCg.Off3 I C D news → ((@Ne Nat I C) ∧ (@Ne Nat I D) ∧ (@Ne Nat C D)) →
      wpAny (model prog w) A (isTrue ct (compEnvC scope cl C env) (eval ct (compEnvC scope cl C env))) (fun ok s' => if ok = true then
        wpAny (model prog w) A (eval elt (compEnvC scope cl C env)) (CT h₀ L m { s with heap := h, toks := tk } ((I, oI) :: (C, oC) :: (D, LCg.lst ys) :: news) (fun y => J (i + 1) (ys ++ [y]))) E' s'
        else CT h₀ L m { s with heap := h, toks := tk } ((I, oI) :: (C, oC) :: (D, LCg.lst ys) :: news) (fun _ => J (i + 1) ys) Value.none s') E' { s with heap := h, toks := tk })
    (fin : ∀ ys, J n ys → Fin ys news) : LCt.CompRestT prog w A h₀ L m env ct elt x scope cl s S P Fin n 0 [] news := by
  have key : ∀ (j i : Nat) (ys : List Value), i + j = n → J i ys → LCt.CompRestT prog w A h₀ L m env ct elt x scope cl s S P Fin j i ys news := by
    intro j
    induction j with
    | zero =>
      intro i ys hi hj
      have e : i = n := by omega
      subst e
      exact LCt.CompRestT.zero (fin ys hj)
    | succ j ih =>
      intro i ys hi hj
      refine LCt.CompRestT.succ ?_
      intro v I oI C oC D m₂ h tk E' hv hC hx F N off ne
      refine wpAny_mono (turn i v I oI C oC D m₂ ys h tk E' (by omega) hv hj hC hx F N off ne) (fun ok s₂ hq => ?_) fun _ _ e => e
      cases ok with
      | true =>
        simp only [if_true] at hq ⊢
        refine wpAny_mono hq (fun y s₃ hq' => ?_) fun _ _ e => e
        obtain ⟨h', tk', e, F', N', j'⟩ := hq'.out
        exact ⟨h', tk', news, e, F', N', off, hS, ih (i + 1) _ (by omega) j'⟩
      | false =>
        simp only [Bool.false_eq_true, if_false] at hq ⊢
        obtain ⟨h', tk', e, F', N', j'⟩ := hq.out
        exact ⟨h', tk', news, e, F', N', off, hS, ih (i + 1) _ (by omega) j'⟩
  exact key n 0 [] (by omega) h0
end

/-- a list as the interpreter makes one -/
noncomputable def LstAt (h : Heap) (a : Addr) (vs : List Value) : Prop := ∃ n, h.get? a = some (listOf vs.toArray n)
theorem LstAt.isList {h : Heap} {a : Addr} {vs : List Value} (x : LstAt h a vs) : h.IsList a vs.toArray := let ⟨n, e⟩ := x; ⟨_, e, rfl, n, rfl⟩
theorem LstAt.keeps {h h' : Heap} {a : Addr} {vs : List Value} (x : LstAt h a vs) (g : Grows h h') : LstAt h' a vs := let ⟨n, e⟩ := x; ⟨n, g _ _ e⟩
theorem LstAt.news {h₀ h : Heap} {L a : Addr} {vs : List Value} {n : Nat} {news : List (Addr × Obj)} (N : News h₀ L h news) (hm : (a, listOf vs.toArray n) ∈ news) : LstAt h a vs := ⟨n, (N _ hm).1⟩
section
variable {prog : Program} {w : World} {A : Around} {E : Value → Shared → Prop} {s : Shared}
theorem listMeth {D : Addr} {vs : List Value} {name : Str} {id : String} {pl : Sem Bool} {Q : Value × List Value → Shared → Prop} (hl : LstAt s.heap D vs) (slot : Slot "list" name id) (hty : typeOf (.builtin id) = pure (.type "method_descriptor"))
    (h : Q (.builtin id, [.ref D]) s) : wpAny (model prog w) A (getMethod (.ref D) name pl) Q E s := by
  obtain ⟨n, e⟩ := hl
  exact getMethod_builtin ⟨_, e, rfl⟩ PySem.F.plainAttrs_list slot hty (fun a q => by cases q; exact ⟨_, e, rfl⟩) h
theorem idx_of_mem {k : Int} : ∀ {vs : List Value} {ns : List Int}, IntsAre vs ns → k ∈ ns → ∃ hj : ns.idxOf k < vs.length, isInt k vs[ns.idxOf k] = true ∧ ∀ i (hi : i < vs.length), i < ns.idxOf k → isInt k vs[i] = false
  | _, _, .nil, h => nomatch h
  | _, _, .cons (vs := vs) (ns := ns) n t r, h => by
    by_cases e : n = k
    · subst e
      simp only [List.idxOf_cons_self]
      exact ⟨Nat.zero_lt_succ _, by simp [isInt], fun i _ hi => absurd hi (Nat.not_lt_zero _)⟩
    · have hm : k ∈ ns := by
        rcases List.mem_cons.mp h with q | q
        · exact absurd q.symm e
        · exact q
      obtain ⟨a, b, c⟩ := idx_of_mem r hm
      have e2 : (n :: ns).idxOf k = ns.idxOf k + 1 := by rw [List.idxOf_cons, beq_false_of_ne e]; rfl
      refine ⟨by rw [e2]; exact Nat.succ_lt_succ a, by simp only [e2]; exact b, fun i hi hlt => ?_⟩
      rw [e2] at hlt
      cases i with
      | zero => simp [isInt, e]
      | succ i => exact c i (Nat.lt_of_succ_lt_succ hi) (Nat.lt_of_succ_lt_succ hlt)
theorem indexInts {D : Addr} {vs : List Value} {ns : List Int} {k : Int} {t : Tok} {Q : Value → Shared → Prop} (hl : LstAt s.heap D vs) (hi : IntsAre vs ns) (hz : ns.length ≤ 1000) (hk : k ∈ ns)
    (h : Q (.int (ns.idxOf k : Nat) s.toks) { s with toks := s.toks + 1 }) : wpAny (model prog w) A (call (.builtin "list.index") [.ref D, .int k t]) Q E s := by
  obtain ⟨n, e⟩ := hl
  obtain ⟨a, b, c⟩ := idx_of_mem hi hk
  have hs := hi.length
  refine call_meets PySem.F.slot_list_index ⟨_, e, rfl⟩ PySem.F.entry_list_index (PySem.F.args_list_index_2 _ _)
    (MeetsSeq.list_index D vs.toArray n (.int k t) (isInt k) (fun y hy => eq_isInt k t hi y (by simpa using hy)) (ns.idxOf k) (by simpa using a) (by omega) (by simpa using b) (fun i hi' hlt => ?_)) ⟨e, h⟩
  have := c i (by simpa using hi') hlt
  simpa using this
end

/-- what a call hands back, taken into the ledger -/
theorem newsAdd {h₀ h h' : Heap} {L r : Addr} {m : Str → Option Value} {news : List (Addr × Obj)} {o : Obj} (F : Fr h₀ L h m) (N : News h₀ L h news) (g : Grows h h') (hr : h'.get? r = some o) (hn : h.get? r = none) : News h₀ L h' ((r, o) :: news) := by
  intro p hp
  rcases List.mem_cons.mp hp with rfl | hp
  · refine ⟨hr, fun e => ?_, ?_⟩
    · obtain ⟨oL, _, _, hL, _⟩ := F.ns
      have e' : r = L := e
      rw [← e', hn] at hL; cases hL
    · cases q : h₀.get? r with
      | none => rfl
      | some o' => have := F.keep _ _ q; rw [hn] at this; cases this
  · exact ⟨g _ _ (N p hp).1, (N p hp).2⟩
end Mine
/- part Ell -/
namespace Mine
noncomputable def fnd (x y : Str) (i j : Int) : Int := match Builtin.Str.occurrences x y (fromIndex x.length i) (min (fromIndex x.length j) x.length) 1 with | k :: _ => (k : Int) | [] => -1
noncomputable def chain (got : Str) (e : Int) : Int → List Str → Bool
  | _, [] => true
  | p, w :: r => if fnd got w p e < 0 then false else chain got e (fnd got w p e + w.length) r
section
variable {prog : Program} {w : World} {A : Around} {E : Value → Shared → Prop} {s : Shared} {x y : Str} {t u v v' : Tok} {i j : Int}
theorem find4 {Q : Value → Shared → Prop} (hq : Q (.int (fnd x y i j) s.toks) { s with toks := s.toks + 1 }) : wpAny (model prog w) A (call (.builtin "str.find") [.str x t, .str y u, .int i v, .int j v']) Q E s := by
  refine call_gives PySem.F.slot_str_find (typeIs_str _ _ _) PySem.F.entry_str_find (PySem.F.args_str_find_4 _ _ _ _) (m := .int (fnd x y i j)) ?_ hq
  show Gives (match Builtin.Str.occurrences x y (fromIndex x.length i) (min (fromIndex x.length j) x.length) 1 with | k :: _ => retInt k | [] => (do rule "str.find.not-found"; retInt (-1))) _
  unfold fnd
  cases Builtin.Str.occurrences x y (fromIndex x.length i) (min (fromIndex x.length j) x.length) 1 with
  | nil => exact .rule (.of_eq rfl)
  | cons k _ => exact .of_eq rfl
theorem truthyE {Q : Bool → Shared → Prop} (h : Q false { s with toks := s.toks + 1 + 1 }) : wpAny (model prog w) A (PySem.truthy (.str Str.empty t)) Q E s := SBL.truthy (by decide) h
end
theorem str_cons {l : List (Str × Tok)} {a : Str} {r : List Str} (e : l.map (·.1) = a :: r) : ∃ t l', l = (a, t) :: l' ∧ l'.map (·.1) = r := KSpl.cons_of e
theorem str_mid {l : List (Str × Tok)} {r : List Str} {z : Str} (e : l.map (·.1) = r ++ [z]) : ∃ l' t, l = l' ++ [(z, t)] ∧ l'.map (·.1) = r := by
  obtain ⟨a, b, rfl, ha, hb⟩ := List.map_eq_append_iff.mp e
  obtain ⟨t, l', rfl, hl'⟩ := KSpl.cons_of hb
  have := KSpl.nil_of hl'
  subst this
  exact ⟨a, t, rfl, ha⟩
theorem strValues_app (a b : List (Str × Tok)) : strValues (a ++ b) = strValues a ++ strValues b := by simp [strValues]

local macro_rules | `(tactic| walk_at "call builtin:str.split") => `(tactic| refine hold ?_)
local macro_rules | `(tactic| walk_at "truthy str") => `(tactic| ((with_reducible show wpAny _ _ (PySem.truthy (Value.str Str.empty _)) _ _ _); refine truthyE ?_))
local macro_rules | `(tactic| walk_at "call builtin:str.find") => `(tactic| refine find4 ?_)
local macro_rules | `(tactic| walk_at "call builtin:len") => `(tactic| ((with_reducible show wpAny _ _ (call (Value.builtin "len") [Value.ref _]) _ _ _); refine hold ?_))
local macro_rules | `(tactic| walk_at "call builtin:len") => `(tactic| ((with_reducible show wpAny _ _ (call (Value.builtin "len") [Value.str _ _]) _ _ _); refine SBL.len (by omega) ?_))
local macro_rules | `(tactic| walk_at "subscriptTail") => `(tactic| refine hold ?_)
local macro_rules | `(tactic| walk_at "exec For Name Name cons nil") => `(tactic| refine hold ?_)
local macro_rules | `(tactic| walk_at "UnrEnd") => `(tactic| refine hold ?_)
local macro_rules | `(tactic| walk_at "pyIter ref") => `(tactic| refine hold ?_)
set_option maxRecDepth 100000 in
set_option maxHeartbeats 8000000 in
theorem c_ell {w : World} {dp un : Nat} {fr : Option (List Env)} {gd : Option (List Code)} {s : Shared} {p : Program} {loose : List Str} {mean : ExcName → Option Value} {mg mb : Str → Option Value} {Q E : Value → Shared → Prop}
    (X : (hd.heap_39 w.params).In s.heap) (T : Top p loose mean mg mb s.heap) (hroom : dp + 4 < recursionLimit) (hu : un + 40 < cLine)
    (want got : Str) (t u : Tok) (hw : want.length ≤ 1000) (hg : got.length ≤ 1000)
    (hin : (Builtin.Str.occurrences want (Str.ofString "...") 0 want.length 1).isEmpty = false)
    (ls : List Str) (hls : ls.length ≤ 100) (hla : ∀ a ∈ ls, a.length ≤ 10) (hsp : Txt.split want (Str.ofString "...") = Str.empty :: (ls ++ [Str.empty]))
    (ret : ∀ h' tk', Grows s.heap h' → Q (.bool (chain got got.length 0 (Str.empty :: (ls ++ [Str.empty])))) { s with heap := h', toks := tk' }) :
    wpAny (model Challenge.rw_rw0101_01.row.prog w) (Am dp un fr gd) (call (.ref 45) [.str want t, .str got u]) Q E s := by
  w_top off; revert X; k_fill; intro X
  refine wpAny_call ?_
  refine enterP (f := 45) X T.nolimit (by k_is) (by k_is) (by show dp < _; omega) (BindsTo.of_eq rfl) (locs rfl) ?_ rfl rfl rfl (by decide)
  intro L' h₁ eL F
  have N : News s.heap L' h₁ [] := News.nil
  k_steps
  refine ⟨?_⟩
  refine' KSpl.split1 ?k1 ?k2 (by decide) ?_ (by rw [sizeLine_eq]; omega)
  case k1 => k_asm
  case k2 => k_asm
  intro D l h' k el sa F' N' l1
  rw [hsp] at el
  obtain ⟨t0, l2, e1, el2⟩ := str_cons el
  obtain ⟨lm, tz, e2, el3⟩ := str_mid el2
  subst e1; subst e2
  clear el el2 sa
  have hl3 : lm.length = ls.length := by rw [← el3]; simp
  replace N' : News s.heap L' h' [(D, listOf (Value.str Str.empty t0 :: (strValues lm ++ [Value.str Str.empty tz])).toArray 0)] := by simpa [strValues] using N'
  k_steps
  refine ⟨?_⟩
  refine lenL (n := (ls.length : Int) + 2) (News.isList (by k_asm) (by k_mem)) (by simp [strValues]; omega) (by omega) ?_
  k_steps
  all_goals (try (simp; omega))
  refine ⟨?_⟩
  refine itemL (News.isList (by k_asm) (by k_mem)) (by decide) (by decide) rfl ?_
  k_steps
  refine ⟨?_⟩
  refine itemLast (vs := Value.str Str.empty t0 :: strValues lm) (News.isList (by k_asm) (by k_mem)) ?_
  k_steps
  refine ⟨?_⟩
  rename_i h2 F2 N2
  refine' For_invVF F2 ?k1 ?k2 ?_
  case k1 => exact rfl
  case k2 => exact rfl
  k_steps
  refine ⟨?_⟩
  have N3 := newsSub (news' := [(D, listOf (Value.str Str.empty t0 :: (strValues lm ++ [Value.str Str.empty tz])).toArray 0)]) N2 (by intro p hp; simp at hp; subst hp; simp)
  clear N2
  refine loop_list (vs := Value.str Str.empty t0 :: (strValues lm ++ [Value.str Str.empty tz])) (fun r m nx => nx = [(D, listOf (Value.str Str.empty t0 :: (strValues lm ++ [Value.str Str.empty tz])).toArray 0)] ∧ ∃ (rs : List (Str × Tok)) (q : Int) (tq te : Tok), r = strValues rs ∧
    Has m [(Str.ofString "got", .str got u), (Str.ofString "startpos", .int q tq), (Str.ofString "endpos", .int got.length te)] ∧ (∀ a ∈ rs.map (·.1), a.length ≤ 10) ∧ chain got got.length q (rs.map (·.1)) = chain got got.length 0 (Str.empty :: (ls ++ [Str.empty]))) rfl F2 N3 (.head _) rfl rfl ?hJ ?turn ?done
  case hJ =>
    refine ⟨rfl, (Str.empty, t0) :: (lm ++ [(Str.empty, tz)]), 0, _, _, by simp [strValues], ⟨rfl, rfl, rfl, trivial⟩, ?_, ?_⟩
    · intro a ha
      simp only [List.map_cons, List.map_append, el3, List.map_nil, List.mem_cons, List.mem_append, List.not_mem_nil, or_false] at ha
      rcases ha with rfl | ha | rfl
      · decide
      · exact hla a ha
      · decide
    · simp [el3]
  case turn =>
    rintro I v r m nx it h3 tk3 ⟨rfl, rs, q, tq, te, hr, hm, hal, hc⟩ hit hmem off F3 N4
    obtain ⟨x, tx, rs', rfl, rfl, rfl⟩ := strValues_cons hr
    replace F3 := frViewX F3 hm
    have hx : x.length ≤ 10 := hal x (by simp)
    rw [List.map_cons, chain] at hc
    k_steps
    · rename (fnd _ _ _ _ < 0) => hlt
      rename Fr _ _ _ _ => F5
      rw [if_pos hlt] at hc
      have r := ret _ tk F5.keep
      rw [← hc] at r
      exact r
    · refine ⟨?_⟩
      rename (¬ (fnd _ _ _ _ < 0)) => hlt
      rename Fr _ _ _ _ => F5
      rename News _ _ _ _ => N5
      rw [if_neg hlt] at hc
      exact UnrEnd.intro F5 N5 _ (fun p hp => hp) off ⟨.head _, rfl, rs', _, _, _, rfl, ⟨rfl, rfl, rfl, trivial⟩, fun a ha => hal a (by simp [ha]), hc⟩
  case done =>
    rintro m nx h3 tk3 ⟨rfl, rs, q, tq, te, hr, hm, hal, hc⟩ F3 N4
    obtain rfl : rs = [] := by
      cases rs with
      | nil => rfl
      | cons a r => cases hr
    rw [List.map_nil, chain] at hc
    dsimp only
    k_steps
    dsimp only
    have r := ret h3 tk3 F3.keep
    rw [← hc] at r
    exact r
end Mine
/- part Tak -/
namespace Mine
noncomputable def letter (c : Int) : Str := ⟨#[(96 + c).toNat]⟩
noncomputable def pieces (cars : List Int) : List Str := cars.map letter
noncomputable def wantOf (cars : List Int) : Str := Str.ofString "..." ++ Txt.join (Str.ofString "...") (pieces cars) ++ Str.ofString "..."
noncomputable def takes (word : Str) (cars : List Int) : Bool := chain word word.length 0 (Str.empty :: (pieces cars ++ [Str.empty]))
noncomputable def wantOk (cars : List Int) : Bool := (cars.all fun c => decide (1 ≤ c ∧ c ≤ 6)) && decide (cars.length ≤ 5) && !(Builtin.Str.occurrences (wantOf cars) (Str.ofString "...") 0 (wantOf cars).length 1).isEmpty &&
  (Txt.split (wantOf cars) (Str.ofString "...") == Str.empty :: (pieces cars ++ [Str.empty])) && decide ((wantOf cars).length ≤ 1000)
theorem letter_item {c : Int} (h : 1 ≤ c ∧ c ≤ 6) : (seqIndex? (c - 1) (Str.ofString "abcdef").length).bind ((Str.ofString "abcdef").cps[·]?) = some (96 + c).toNat := by
  have : c = 1 ∨ c = 2 ∨ c = 3 ∨ c = 4 ∨ c = 5 ∨ c = 6 := by omega
  rcases this with rfl | rfl | rfl | rfl | rfl | rfl <;> decide +kernel
section
variable {prog : Program} {w : World} {A : Around} {E : Value → Shared → Prop} {s : Shared}
theorem item_letter {value slice : PySem.Expr} {c : Int} {t u : Tok} {Q : Value → Shared → Prop} (hc : 1 ≤ c ∧ c ≤ 6) (h : Q (.str (letter c) s.toks) { s with toks := s.toks + 1 })
    (hs : subscripted slice false (.str (Str.ofString "abcdef") t) (.int (c - 1) u) = operate [.str (Str.ofString "abcdef") t, .int (c - 1) u] (getItem (.str (Str.ofString "abcdef") t) (.int (c - 1) u)) := by with_unfolding_all rfl) :
    wpAny (model prog w) A (subscriptTail value slice (.str (Str.ofString "abcdef") t) (.int (c - 1) u)) Q E s :=
  tail_any (typeIs_str _ _ _) PySem.F.slot_str_getitem.lookup (PySem.P.getItem_str (by simp; omega) (letter_item hc) h) hs
end
theorem strsAre_snoc {y : Str} {t : Tok} {vs : List Value} {ys : List Str} (h : StrsAre vs ys) : StrsAre (vs ++ [.str y t]) (ys ++ [y]) := kct_snoc h
theorem intsAt {vs : List Value} {ns : List Int} (h : IntsAre vs ns) {i : Nat} {v : Value} (hv : vs[i]? = some v) : ∃ n t, ns[i]? = some n ∧ v = .int n t := by
  obtain ⟨k, t, e, hk⟩ := IntsAre.at h i v hv
  exact ⟨k, t, hk, e⟩
local macro_rules | `(tactic| walk_at "eval ListComp") => `(tactic| refine hold ?_)
local macro_rules | `(tactic| walk_at "CompSrc") => `(tactic| refine hold ?_)
local macro_rules | `(tactic| walk_at "call ref") => `(tactic| refine hold ?_)
local macro_rules | `(tactic| walk_at "call builtin:str.join") => `(tactic| refine hold ?_)
local macro_rules | `(tactic| walk_at "subscriptTail") => `(tactic| refine hold ?_)
local macro_rules | `(tactic| walk_at "binaryOp Add str str") => `(tactic| refine hold ?_)
set_option maxRecDepth 100000 in
set_option maxHeartbeats 8000000 in
theorem c_takes {w : World} {dp un : Nat} {fr : Option (List Env)} {gd : Option (List Code)} {s : Shared} {p : Program} {loose : List Str} {mean : ExcName → Option Value} {mg mb : Str → Option Value} {Q E : Value → Shared → Prop}
    (X : (hd.heap_39 w.params).In s.heap) (T : Top p loose mean mg mb s.heap) (hroom : dp + 8 < recursionLimit) (hu : un + 80 < cLine)
    (word : Str) (t : Tok) (hg : word.length ≤ 1000) (a : Addr) (vs : List Value) (cars : List Int) (hl : s.heap.IsList a vs.toArray) (hi : IntsAre vs cars) (ok : wantOk cars = true)
    (ret : ∀ h' tk', Grows s.heap h' → Q (.bool (takes word cars)) { s with heap := h', toks := tk' }) :
    wpAny (model Challenge.rw_rw0101_01.row.prog w) (Am dp un fr gd) (call (.ref 177) [.str word t, .ref a]) Q E s := by
  simp only [wantOk, Bool.and_eq_true, List.all_eq_true, decide_eq_true_eq, Bool.not_eq_true', beq_iff_eq] at ok
  obtain ⟨⟨⟨⟨o1, o2⟩, o3⟩, o4⟩, o5⟩ := ok
  w_top off; revert X; k_fill; intro X
  refine wpAny_call ?_
  refine enterP (f := 177) (binds := [(Str.ofString "word", .str word t), (Str.ofString "cars", .ref a)]) X T.nolimit (by k_is) (by k_is) (by show dp < _; omega) (BindsTo.of_eq rfl) (locs rfl) ?_ rfl rfl rfl (by decide)
  intro L' h₁ eL F
  have N : News s.heap L' h₁ [] := News.nil
  k_steps
  refine ⟨?_⟩
  refine LCg.ListComp_U (F₀ := F) (by rfl) (by decide) (by rfl) (by decide) (by rfl) ?_
  k_steps
  refine ⟨?_⟩
  refine LCg.CompSrc.base (by rfl) F N hl (by rw [List.size_toArray, hi.length, sizeLine_eq]; omega) ?_
  intro g
  refine compRest_inv (fun i ys => StrsAre ys (pieces (cars.take i))) (.inl hl) (by simp [pieces]; exact .nil) ?_ ?_
  · intro i v I oI C oC D m₂ ys h tk E' hi' hv hj hC hx F' N' off ne
    obtain ⟨n, tn, hn, rfl⟩ := intsAt hi (by simpa using hv)
    have hb := o1 n (List.mem_of_getElem? hn)
    k_steps
    refine ⟨?_⟩
    refine item_letter hb ?_
    refine CT.intro F' N' ?_
    rw [show pieces (cars.take (i + 1)) = pieces (cars.take i) ++ [letter n] by simp [pieces, List.take_add_one, hn]]
    exact strsAre_snoc hj
  · intro ys hys
    rw [List.size_toArray, hi.length, List.take_length] at hys
    intro D h tk F2 N2 o1
    dsimp only
    k_steps
    refine ⟨?_⟩
    have hok : ((pieces cars).map (·.length)).sum + (pieces cars).length * (Str.ofString "...").length ≤ 16777216 := by
      have e1 : (pieces cars).map (·.length) = cars.map fun _ => 1 := by simp [pieces, letter, Str.length]
      have e2 : (pieces cars).length = cars.length := by simp [pieces]
      have e3 : (Str.ofString "...").length = 3 := by decide +kernel
      have e4 : ∀ l : List Int, (l.map fun _ => 1).sum = l.length := by intro l; induction l <;> simp_all; omega
      rw [e1, e2, e3, e4]; omega
    refine join_list (News.isList N2 (.head _)) (by simpa using hys) hok ?_
    intro t' k
    k_steps
    refine ⟨?_⟩
    have hw1 : (Str.ofString "..." ++ Txt.join (Str.ofString "...") (pieces cars)).length ≤ 1000 := by
      have e : (wantOf cars).length = (Str.ofString "..." ++ Txt.join (Str.ofString "...") (pieces cars)).length + (Str.ofString "...").length := Str.length_append _ _
      omega
    refine PyProof.Rows.add_str (fun t1 k1 => ?_) (by rw [← Str.length_append, sizeLine_eq]; omega)
    k_steps
    refine ⟨?_⟩
    refine PyProof.Rows.add_str (fun t2 k2 => ?_) (by rw [← Str.length_append, sizeLine_eq]; exact Nat.le_trans o5 (by decide))
    k_steps
    refine ⟨?_⟩
    have g2 : Grows s.heap h := F2.keep
    refine c_ell (p := p) (loose := loose) (mean := mean) (mg := mg) (mb := mb) (X.keeps g2) (T.keeps g2) ?_ ?_ (wantOf cars) word t2 t o5 hg o3 (pieces cars) ?_ ?_ o4 ?_
    · show dp + 1 + 4 < _; omega
    · show un + 3 + 40 < _; omega
    · simp [pieces]; omega
    · intro a ha
      simp only [pieces, List.mem_map] at ha
      obtain ⟨c, _, rfl⟩ := ha
      show 1 ≤ 10; omega
    · intro h' tk' g3
      dsimp only
      exact ret h' _ (g2.trans g3)
end Mine
/- part Wok -/
namespace Mine
theorem wok_quads : ∀ f ∈ ([4, 5, 6] : List Int), ∀ th ∈ ([3, 4, 5] : List Int), ∀ se ∈ ([2, 3, 4] : List Int), ∀ o ∈ ([1, 2, 3] : List Int), o < se → se < th → th < f →
    wantOk [se, th, f, o] = true ∧ wantOk [th, se, f, o] = true := by decide +kernel
theorem wok_fifths : ∀ x ∈ ([5, 6] : List Int), ∀ f ∈ ([4, 5] : List Int), ∀ th ∈ ([3, 4] : List Int), ∀ se ∈ ([2, 3] : List Int), ∀ o ∈ ([1, 2] : List Int), o < se → se < th → th < f → f < x →
    wantOk [th, x, se, f, o] = true := by decide +kernel
theorem wok_pairs : ∀ m ∈ ([2, 3, 4, 5, 6] : List Int), ∀ h ∈ ([2, 3, 4, 5, 6] : List Int), ∀ l ∈ ([1, 2, 3, 4, 5] : List Int), l < h → h ≤ m → wantOk [h, m, l] = true := by decide +kernel
theorem wok_q {f th se o : Int} (h : 1 ≤ o) (h1 : o < se) (h2 : se < th) (h3 : th < f) (h4 : f ≤ 6) : wantOk [se, th, f, o] = true ∧ wantOk [th, se, f, o] = true :=
  wok_quads f (by simp; omega) th (by simp; omega) se (by simp; omega) o (by simp; omega) h1 h2 h3
theorem wok_f {x f th se o : Int} (h : 1 ≤ o) (h1 : o < se) (h2 : se < th) (h3 : th < f) (h4 : f < x) (h5 : x ≤ 6) : wantOk [th, x, se, f, o] = true :=
  wok_fifths x (by simp; omega) f (by simp; omega) th (by simp; omega) se (by simp; omega) o (by simp; omega) h1 h2 h3 h4
theorem wok_p {m h l : Int} (h0 : 1 ≤ l) (h1 : l < h) (h2 : h ≤ m) (h3 : m ≤ 6) : wantOk [h, m, l] = true :=
  wok_pairs m (by simp; omega) h (by simp; omega) l (by simp; omega) h1 h2
end Mine
/- part Strt -/
namespace Mine
noncomputable def fifths (word : Str) (size f t s o : Int) : List Int := (rangeKs (f + 1) (size - f).toNat).filter fun x => takes word [t, x, s, f, o]
noncomputable def quadOk (word : Str) (size f t s o : Int) : Bool := !(takes word [s, t, f, o]) && (!(takes word [t, s, f, o]) || !(fifths word size f t s o).isEmpty)
noncomputable def okO (word : Str) (size f t s : Int) : Bool := (rangeKs 1 (s - 1).toNat).all fun o => quadOk word size f t s o
noncomputable def okS (word : Str) (size f t : Int) : Bool := (rangeKs 2 (t - 2).toNat).all fun s => okO word size f t s
noncomputable def okT (word : Str) (size f : Int) : Bool := (rangeKs 3 (f - 3).toNat).all fun t => okS word size f t
noncomputable def straight (word : Str) (size : Int) : Bool := (rangeKs 4 (size - 3).toNat).all fun f => okT word size f
theorem all_snoc {P : Int → Bool} {a : Int} {i : Nat} (h : ∀ k ∈ rangeKs a i, P k = true) (hp : P (a + (i : Int)) = true) : ∀ k ∈ rangeKs a (i + 1), P k = true := by
  intro k hk
  simp only [rangeKs, List.range_succ, List.map_append, List.map_cons, List.map_nil, List.mem_append, List.mem_singleton] at hk
  rcases hk with hk | rfl
  · exact h k hk
  · exact hp
theorem mem_rangeKs' {a : Int} {i n : Nat} (h : i < n) : a + (i : Int) ∈ rangeKs a n := List.mem_map.mpr ⟨i, List.mem_range.mpr h, rfl⟩
noncomputable def Cs (L : Addr) (word : Str) (t : Tok) (x4 x3 x2 x1 : Option Value) (nx : List (Addr × Obj)) : Prop :=
  ∃ o1 o2 o3 o4 oW : Obj, nx = [(L + 1 + 1 + 1 + 1 + 1, o1), (L + 1 + 1 + 1 + 1, o2), (L + 1 + 1 + 1, o3), (L + 1 + 1, o4), (L + 1, oW)] ∧
    o1.data = .cell x1 ∧ o2.data = .cell x2 ∧ o3.data = .cell x3 ∧ o4.data = .cell x4 ∧ oW.data = .cell (some (.str word t))
theorem Cs.offs {L I : Addr} {word : Str} {t : Tok} {x4 x3 x2 x1 : Option Value} {nx : List (Addr × Obj)} (h : Cs L word t x4 x3 x2 x1 nx) (off : ∀ p ∈ nx, p.1 ≠ I) :
    (@Ne Nat (L + 1 + 1 + 1 + 1 + 1) I) ∧ (@Ne Nat (L + 1 + 1 + 1 + 1) I) ∧ (@Ne Nat (L + 1 + 1 + 1) I) ∧ (@Ne Nat (L + 1 + 1) I) ∧ (@Ne Nat (L + 1) I) := by
  obtain ⟨o1, o2, o3, o4, oW, rfl, _⟩ := h
  simp only [List.forall_mem_cons] at off
  exact ⟨off.1, off.2.1, off.2.2.1, off.2.2.2.1, off.2.2.2.2.1⟩
theorem Cs.off {L I : Addr} {word : Str} {t : Tok} {x4 x3 x2 x1 : Option Value} {nx : List (Addr × Obj)} (h : Cs L word t x4 x3 x2 x1 nx)
    (e : (@Ne Nat (L + 1 + 1 + 1 + 1 + 1) I) ∧ (@Ne Nat (L + 1 + 1 + 1 + 1) I) ∧ (@Ne Nat (L + 1 + 1 + 1) I) ∧ (@Ne Nat (L + 1 + 1) I) ∧ (@Ne Nat (L + 1) I)) : ∀ p ∈ nx, p.1 ≠ I := by
  obtain ⟨o1, o2, o3, o4, oW, rfl, _⟩ := h
  simp only [List.forall_mem_cons]
  exact ⟨e.1, e.2.1, e.2.2.1, e.2.2.2.1, e.2.2.2.2, fun _ h => nomatch h⟩
theorem all_iff {P : Int → Bool} {a : Int} {n : Nat} (h : ∀ k ∈ rangeKs a n, P k = true) : (rangeKs a n).all P = true := List.all_eq_true.mpr h
theorem all_no {P : Int → Bool} {a : Int} {n : Nat} {k : Int} (hk : k ∈ rangeKs a n) (hp : P k = false) : (rangeKs a n).all P = false := by
  rw [List.all_eq_false]; exact ⟨k, hk, by rw [hp]; decide⟩
theorem filt_snoc {P : Int → Bool} {a : Int} {i : Nat} {ys : List Value} {t : Tok} (h : IntsAre ys ((rangeKs a i).filter P)) (hp : P (a + (i : Int)) = true) : IntsAre (ys ++ [.int (a + (i : Int)) t]) ((rangeKs a (i + 1)).filter P) := by
  rw [show rangeKs a (i + 1) = rangeKs a i ++ [a + (i : Int)] by simp [rangeKs, List.range_succ], List.filter_append, List.filter_cons_of_pos hp]
  exact IntsAre.append h (.cons _ t .nil)
theorem filt_same {P : Int → Bool} {a : Int} {i : Nat} {ys : List Value} (h : IntsAre ys ((rangeKs a i).filter P)) (hp : P (a + (i : Int)) = false) : IntsAre ys ((rangeKs a (i + 1)).filter P) := by
  rw [show rangeKs a (i + 1) = rangeKs a i ++ [a + (i : Int)] by simp [rangeKs, List.range_succ], List.filter_append, List.filter_cons_of_neg (by rw [hp]; decide)]
  simpa using h
section
variable {prog : Program} {w : World} {A : Around} {E : Value → Shared → Prop} {s : Shared} {env : Env} {h₀ : Heap} {body : List Stmt} {Q : Flow → Shared → Prop}
/-- the same, the turn's number a letter of its own -/
theorem turns_rangeV {y : Str} {py : Pos} {r : Addr} {a₀ b₀ : Int} {t₀ u₀ v₀ : Tok} {n : Nat} {m₀ : Str → Option Value} {news : List (Addr × Obj)} (J : Nat → (Str → Option Value) → List (Addr × Obj) → Prop)
    (hh : A.handled = none) (hr : IsRange s.heap r a₀ b₀ 1 t₀ u₀ v₀) (hsmall : Builtin.Range.small a₀ b₀ 1 = true) (hn : Builtin.Range.rangeSize a₀ b₀ 1 = (n : Int)) (F : Fr h₀ env.locals s.heap m₀) (N : News h₀ env.locals s.heap news) (hJ : J 0 m₀ news)
    (turn : ∀ (I : Addr) (i : Nat) (v : Int) t m nx (it : Obj) h tk, a₀ + (i : Int) = v → i < n → J i m nx → it.cls = .type "range_iterator" → (∀ p ∈ nx, p.1 ≠ I) → Fr h₀ env.locals h m → News h₀ env.locals h ((I, it) :: nx) →
      wpAny (model prog w) A (assign (.Name y py) env (.int v t)) (fun _ s₃ => wpAny (model prog w) A (execs body env) (UnrPost h₀ env.locals { s with heap := h, toks := tk } I it (J (i + 1)) Q) E s₃) E { s with heap := h, toks := tk })
    (done : ∀ m nx h tk, J n m nx → Fr h₀ env.locals h m → News h₀ env.locals h nx → Q .next { s with heap := h, toks := tk }) :
    wpAny (model prog w) A (pyIter (.ref r)) (fun it s₂ => TurnsAt prog w A h₀ env (.Name y py) body Q E it s₂) E s :=
  turns_range J hh hr hsmall hn F N hJ (fun I i t m nx it h tk => turn I i _ t m nx it h tk rfl) done
end
local macro_rules | `(tactic| k_ne) => `(tactic| first | (refine neN ?_; (try dsimp only); assumption) | (refine neN ?_; (try dsimp only); refine Ne.symm ?_; assumption))
local macro_rules | `(tactic| walk_at "CT") => `(tactic| refine hold ?_)
local macro_rules | `(tactic| walk_at "compareOp Eq ref ref") => `(tactic| refine hold ?_)
local macro_rules | `(tactic| walk_at "my:steps") => `(tactic| repeat' (first | (k_unfold; (try dsimp only)) | walk1 | (dsimp only; walk1)))
local macro_rules | `(tactic| walk_at "exec For Name Call cons nil") => `(tactic| refine hold ?_)
local macro_rules | `(tactic| walk_at "pyIter ref") => `(tactic| refine hold ?_)
local macro_rules | `(tactic| walk_at "call ref") => `(tactic| refine hold ?_)
local macro_rules | `(tactic| walk_at "eval ListComp") => `(tactic| refine hold ?_)
local macro_rules | `(tactic| walk_at "CompSrcT") => `(tactic| refine hold ?_)
local macro_rules | `(tactic| walk_at "UnrEnd") => `(tactic| refine hold ?_)
set_option maxRecDepth 100000 in
set_option maxHeartbeats 8000000 in
theorem c_straight {w : World} {dp un : Nat} {fr : Option (List Env)} {gd : Option (List Code)} {s : Shared} {p : Program} {loose : List Str} {mean : ExcName → Option Value} {mg mb : Str → Option Value} {Q E : Value → Shared → Prop}
    (X : (hd.heap_39 w.params).In s.heap) (T : Top p loose mean mg mb s.heap) (hroom : dp + 12 < recursionLimit) (hu : un + 120 < cLine)
    (word : Str) (t u : Tok) (hg : word.length ≤ 1000) (size : Int) (hsz : size = 5 ∨ size = 6)
    (ret : ∀ h' tk', Grows s.heap h' → Q (.bool (straight word size)) { s with heap := h', toks := tk' }) :
    wpAny (model Challenge.rw_rw0101_01.row.prog w) (Am dp un fr gd) (call (.ref 182) [.str word t, .int size u]) Q E s := by
  obtain ⟨hs5, hs6⟩ : 5 ≤ size ∧ size ≤ 6 := by omega
  clear hsz
  w_top off; revert X; k_fill; intro X
  refine wpAny_call ?_
  refine enterC (f := 182) (binds := [(Str.ofString "word", .str word t), (Str.ofString "size", .int size u)]) X T.nolimit (by k_is) (by k_is) (by show dp < _; omega) (BindsTo.of_eq rfl) (by rfl) (by decide) ?_ rfl rfl rfl
  intro L' h₁ tk cells eL F N Y
  obtain ⟨o1, o2, o3, o4, oW, hE, d1, d2, d3, d4, dW⟩ := kc_five Y
  subst hE
  clear Y
  replace dW : oW.data = .cell (some (.str word t)) := dW
  replace d1 : o1.data = .cell none := d1
  replace d2 : o2.data = .cell none := d2
  replace d3 : o3.data = .cell none := d3
  replace d4 : o4.data = .cell none := d4
  walk_at "my:steps"
  refine ⟨?_⟩
  refine For_turns F ?_
  walk_at "my:steps"
  refine ⟨?_⟩
  rename IsRange _ _ _ _ _ _ _ _ => R1
  rename Fr _ _ _ _ => F1
  rename News _ _ _ _ => N1
  refine turns_rangeV (n := (size - 3).toNat) (fun i m nx => Has m [(Str.ofString "size", .int size u)] ∧ (∃ x4 x3 x2 x1, Cs L' word t x4 x3 x2 x1 nx) ∧ ∀ f ∈ rangeKs 4 i, okT word size f = true) rfl R1 (small_one (by omega) (by omega) (by omega) (by omega)) (by rw [rangeSize_nat]; congr 2; omega) F1 N1 ?hJ ?turn ?done
  case hJ => exact ⟨⟨rfl, trivial⟩, ⟨none, none, none, none, ⟨o1, o2, o3, o4, oW, rfl, d1, d2, d3, d4, dW⟩⟩, by intro f hf; cases hf⟩
  case done =>
    rintro m nx h tk' ⟨hm, _, hok⟩ F2 N2
    dsimp only
    walk_at "my:steps"
    dsimp only
    have r := ret h tk' F2.keep
    rw [show straight word size = true from all_iff hok] at r
    exact r
  case turn =>
    clear N1 F1 R1
    rintro I i f ti m nx it h tk' hfe hi ⟨hm, ⟨x4, x3, x2, x1, hC⟩, hok⟩ hit off F2 N2
    obtain ⟨e1, e2, e3, e4, eW⟩ := hC.offs off
    obtain ⟨o1, o2, o3, o4, oW, rfl, d1, d2, d3, d4, dW⟩ := hC
    replace F2 := frView F2 hm
    walk_at "my:steps"
    refine ⟨?_⟩
    clear d4 F2 N2
    rename Fr _ _ _ _ => F2
    rename News _ _ _ _ => N2
    rename (Obj.data _ = _) => d4
    rename Obj => o4
    have hf : 4 ≤ f ∧ f ≤ size := ⟨by omega, by omega⟩
    refine For_turns F2 ?_
    walk_at "my:steps"
    refine ⟨?_⟩
    (try clear F2); (try clear N2)
    rename IsRange _ _ _ _ _ _ _ _ => R1
    rename Fr _ _ _ _ => F1
    rename News _ _ _ _ => N1
    refine turns_rangeV (n := (f - 3).toNat) (fun j m nx => Has m [(Str.ofString "size", .int size u)] ∧ (∃ x3 x2 x1 nx', nx = (I, it) :: nx' ∧ Cs L' word t (some (.int f ti)) x3 x2 x1 nx') ∧ ∀ k ∈ rangeKs 3 j, okS word size f k = true) rfl R1 (small_one (by omega) (by omega) (by omega) (by omega)) (by rw [rangeSize_nat]) F1 N1 ?hJ ?turn ?done
    case hJ => exact ⟨⟨rfl, trivial⟩, ⟨x3, x2, x1, _, rfl, ⟨o1, o2, o3, o4, oW, rfl, d1, d2, d3, d4, dW⟩⟩, by intro f hf; cases hf⟩
    case done =>
      clear d1 d2 d3 d4 dW
      rintro m nx h tk' ⟨hm, ⟨x3, x2, x1, nx', rfl, hC⟩, hok3⟩ F2 N2
      walk_at "my:steps"
      refine ⟨?_⟩
      exact UnrEnd.intro F2 N2 nx' (fun p hp => hp) (hC.off ⟨e1, e2, e3, e4, eW⟩) ⟨hm, ⟨_, x3, x2, x1, hC⟩, all_snoc hok (by rw [hfe]; exact all_iff hok3)⟩
    case turn =>
      clear N1 F1 R1 d1 d2 d3 d4 dW
      rintro I3 i3 th t3 m nx it3 h tk' hte hi3 ⟨hm, ⟨x3, x2, x1, nx', rfl, hC⟩, hok3⟩ hit3 off3 F2 N2
      obtain ⟨a1, a2, a3, a4, aW⟩ := hC.offs (fun p hp => off3 p (.tail _ hp))
      obtain ⟨o1, o2, o3, o4, oW, rfl, d1, d2, d3, d4, dW⟩ := hC
      have b3 : (@Ne Nat I I3) := off3 _ (.head _)
      replace F2 := frView F2 hm
      walk_at "my:steps"
      refine ⟨?_⟩
      clear d3 F2 N2
      rename Fr _ _ _ _ => F2
      rename News _ _ _ _ => N2
      rename (Obj.data _ = _) => d3
      rename Obj => o3
      have htt : 3 ≤ th ∧ th < f := ⟨by omega, by omega⟩
      refine For_turns F2 ?_
      walk_at "my:steps"
      refine ⟨?_⟩
      (try clear F2); (try clear N2)
      rename IsRange _ _ _ _ _ _ _ _ => R1
      rename Fr _ _ _ _ => F1
      rename News _ _ _ _ => N1
      refine turns_rangeV (n := (th - 2).toNat) (fun j m nx => Has m [(Str.ofString "size", .int size u)] ∧ (∃ x2 x1 nx', nx = (I3, it3) :: (I, it) :: nx' ∧ Cs L' word t (some (.int f ti)) (some (.int th t3)) x2 x1 nx') ∧ ∀ k ∈ rangeKs 2 j, okO word size f th k = true) rfl R1 (small_one (by omega) (by omega) (by omega) (by omega)) (by rw [rangeSize_nat]) F1 N1 ?hJ ?turn ?done
      case hJ => exact ⟨⟨rfl, trivial⟩, ⟨x2, x1, _, rfl, ⟨o1, o2, o3, o4, oW, rfl, d1, d2, d3, d4, dW⟩⟩, by intro f hf; cases hf⟩
      case done =>
        clear d1 d2 d3 d4 dW
        rintro m nx h tk' ⟨hm, ⟨x2, x1, nx', rfl, hC⟩, hok2⟩ F2 N2
        walk_at "my:steps"
        refine ⟨?_⟩
        exact UnrEnd.intro F2 N2 ((I, it) :: nx') (fun p hp => hp) (List.forall_mem_cons.mpr ⟨b3, hC.off ⟨a1, a2, a3, a4, aW⟩⟩) ⟨hm, ⟨_, x2, x1, nx', rfl, hC⟩, all_snoc hok3 (by rw [hte]; exact all_iff hok2)⟩
      case turn =>
        clear N1 F1 R1 d1 d2 d3 d4 dW
        rintro I2 i2 se t2 m nx it2 h tk' hse hi2 ⟨hm, ⟨x2, x1, nx', rfl, hC⟩, hok2⟩ hit2 off2 F2 N2
        obtain ⟨g1, g2, g3, g4, gW⟩ := hC.offs (fun p hp => off2 p (.tail _ (.tail _ hp)))
        obtain ⟨o1, o2, o3, o4, oW, rfl, d1, d2, d3, d4, dW⟩ := hC
        have b2 : (@Ne Nat I3 I2) := off2 _ (.head _)
        have b2' : (@Ne Nat I I2) := off2 _ (.tail _ (.head _))
        replace F2 := frView F2 hm
        walk_at "my:steps"
        refine ⟨?_⟩
        clear d2 F2 N2
        rename Fr _ _ _ _ => F2
        rename News _ _ _ _ => N2
        rename (Obj.data _ = _) => d2
        rename Obj => o2
        have hss : 2 ≤ se ∧ se < th := ⟨by omega, by omega⟩
        refine For_turns F2 ?_
        walk_at "my:steps"
        refine ⟨?_⟩
        (try clear F2); (try clear N2)
        rename IsRange _ _ _ _ _ _ _ _ => R1
        rename Fr _ _ _ _ => F1
        rename News _ _ _ _ => N1
        refine turns_rangeV (n := (se - 1).toNat) (fun j m nx => Has m [(Str.ofString "size", .int size u)] ∧ (∃ x1 nx', nx = (I2, it2) :: (I3, it3) :: (I, it) :: nx' ∧ Cs L' word t (some (.int f ti)) (some (.int th t3)) (some (.int se t2)) x1 nx') ∧ ∀ k ∈ rangeKs 1 j, quadOk word size f th se k = true) rfl R1 (small_one (by omega) (by omega) (by omega) (by omega)) (by rw [rangeSize_nat]) F1 N1 ?hJ ?turn ?done
        case hJ => exact ⟨⟨rfl, trivial⟩, ⟨x1, _, rfl, ⟨o1, o2, o3, o4, oW, rfl, d1, d2, d3, d4, dW⟩⟩, by intro f hf; cases hf⟩
        case done =>
          clear d1 d2 d3 d4 dW
          rintro m nx h tk' ⟨hm, ⟨x1, nx', rfl, hC⟩, hok1⟩ F2 N2
          walk_at "my:steps"
          refine ⟨?_⟩
          exact UnrEnd.intro F2 N2 ((I3, it3) :: (I, it) :: nx') (fun p hp => hp) (List.forall_mem_cons.mpr ⟨b2, List.forall_mem_cons.mpr ⟨b2', hC.off ⟨g1, g2, g3, g4, gW⟩⟩⟩) ⟨hm, ⟨_, x1, nx', rfl, hC⟩, all_snoc hok2 (by rw [hse]; exact all_iff hok1)⟩
        case turn =>
          clear N1 F1 R1 d1 d2 d3 d4 dW
          rintro I1 i1 o t1 m nx it1 h tk' hoe hi1 ⟨hm, ⟨x1, nx', rfl, hC⟩, hok1⟩ hit1 off1 F2 N2
          obtain ⟨k1, k2, k3, k4, kW⟩ := hC.offs (fun p hp => off1 p (.tail _ (.tail _ (.tail _ hp))))
          obtain ⟨o1, o2, o3, o4, oW, rfl, d1, d2, d3, d4, dW⟩ := hC
          have b1 : (@Ne Nat I2 I1) := off1 _ (.head _)
          have b1' : (@Ne Nat I3 I1) := off1 _ (.tail _ (.head _))
          have b1'' : (@Ne Nat I I1) := off1 _ (.tail _ (.tail _ (.head _)))
          replace F2 := frView F2 hm
          walk_at "my:steps"
          refine ⟨?_⟩
          clear d1 F2 N2
          rename Fr _ _ _ _ => F2
          rename News _ _ _ _ => N2
          rename (Obj.data _ = _) => d1
          rename Obj => o1
          have hC : Cs L' word t (some (.int f ti)) (some (.int th t3)) (some (.int se t2)) (some (.int o t1)) [(L' + 1 + 1 + 1 + 1 + 1, o1), (L' + 1 + 1 + 1 + 1, o2), (L' + 1 + 1 + 1, o3), (L' + 1 + 1, o4), (L' + 1, oW)] := ⟨o1, o2, o3, o4, oW, rfl, d1, d2, d3, d4, dW⟩
          have hoff : ∀ q ∈ ([(I2, it2), (I3, it3), (I, it), (L' + 1 + 1 + 1 + 1 + 1, o1), (L' + 1 + 1 + 1 + 1, o2), (L' + 1 + 1 + 1, o3), (L' + 1 + 1, o4), (L' + 1, oW)] : List (Addr × Obj)), q.1 ≠ I1 :=
            List.forall_mem_cons.mpr ⟨b1, List.forall_mem_cons.mpr ⟨b1', List.forall_mem_cons.mpr ⟨b1'', hC.off ⟨k1, k2, k3, k4, kW⟩⟩⟩⟩
          clear e1 e2 e3 e4 eW a1 a2 a3 a4 aW g1 g2 g3 g4 gW k1 k2 k3 k4 kW b3 b2 b2' b1 b1' b1''
          have hoo : 1 ≤ o ∧ o < se := ⟨by omega, by omega⟩
          have mf : f ∈ rangeKs 4 (size - 3).toNat := hfe ▸ mem_rangeKs' hi
          have mt : th ∈ rangeKs 3 (f - 3).toNat := hte ▸ mem_rangeKs' hi3
          have ms : se ∈ rangeKs 2 (th - 2).toNat := hse ▸ mem_rangeKs' hi2
          have mo : o ∈ rangeKs 1 (se - 1).toNat := hoe ▸ mem_rangeKs' hi1
          have no : quadOk word size f th se o = false → straight word size = false := fun e => all_no mf (all_no mt (all_no ms (all_no mo e)))
          obtain ⟨wk1, wk2⟩ := wok_q hoo.1 hoo.2 hss.2 htt.2 (Int.le_trans hf.2 hs6)
          refine c_takes (p := p) (loose := loose) (mean := mean) (mg := mg) (mb := mb) (X.keeps F2.keep) (T.keeps F2.keep) ?_ ?_ word t hg _ _ [se, th, f, o] (News.isList N2 (.head _)) (.cons _ _ (.cons _ _ (.cons _ _ (.cons _ _ .nil)))) wk1 ?_
          · show dp + 1 + 8 < _; omega
          · show un + 3 + 80 < _; omega
          intro h2 tk2 g2
          replace F2 := F2.keeps g2
          replace N2 := N2.grown g2
          clear g2
          dsimp only
          walk_at "my:steps"
          · rename ((_ == true) = true) => hb
            have r := ret h2 tk2 F2.keep
            rw [no (by simp only [beq_iff_eq] at hb; simp [quadOk, hb])] at r
            exact r
          refine ⟨?_⟩
          rename ((_ == true) = false) => hb1
          (try clear F2); (try clear N2)
          rename Fr _ _ _ _ => F2
          rename News _ _ _ _ => N2
          refine c_takes (p := p) (loose := loose) (mean := mean) (mg := mg) (mb := mb) (X.keeps F2.keep) (T.keeps F2.keep) ?_ ?_ word t hg _ _ [th, se, f, o] (News.isList N2 (.head _)) (.cons _ _ (.cons _ _ (.cons _ _ (.cons _ _ .nil)))) wk2 ?_
          · show dp + 1 + 8 < _; omega
          · show un + 3 + 80 < _; omega
          intro h3 tk3 g3
          replace F2 := F2.keeps g3
          replace N2 := N2.grown g3
          replace N2 := newsSub (news' := [(I1, it1), (I2, it2), (I3, it3), (I, it), (L' + 1 + 1 + 1 + 1 + 1, o1), (L' + 1 + 1 + 1 + 1, o2), (L' + 1 + 1 + 1, o3), (L' + 1 + 1, o4), (L' + 1, oW)]) N2 (fun p hp => .tail _ (.tail _ hp))
          clear g3
          dsimp only
          walk_at "my:steps"
          · refine ⟨?_⟩
            rename ((_ == true) = true) => hb2
            refine LCt.ListComp_T (F₀ := F2) (by with_unfolding_all rfl) (by decide) (by rfl) (by decide) (by rfl) ?_
            walk_at "my:steps"
            refine ⟨?_⟩
            (try clear F2); (try clear N2)
            rename IsRange _ _ _ _ _ _ _ _ => R1
            rename Fr _ _ _ _ => F1
            rename News _ _ _ _ => N1
            refine LCt.CompSrcT.range (n := (size - f).toNat) rfl F1 N1 R1 (small_one (by omega) (by omega) (by omega) (by omega)) (by rw [rangeSize_nat]; congr 2; omega) (by rw [sizeLine_eq]; omega) ?_
            intro g
            refine compRestT_inv (fun i ys => IntsAre ys ((rangeKs (f + 1) i).filter fun x => takes word [th, x, se, f, o])) trivial .nil ?_ ?_
            · clear F1 N1 R1
              rintro i5 v I5 oI C oC D m₂ ys h tk E' hi5 ⟨t5, rfl⟩ hj hC hx F1 N1 off5 ne5
              have hx5 : f < f + 1 + (i5 : Int) ∧ f + 1 + (i5 : Int) ≤ 6 := ⟨by omega, by omega⟩
              have hsn := fun hp => filt_snoc (t := t5) hj hp
              have hsm := fun hp => filt_same hj hp
              clear hj
              generalize hxe : f + 1 + (i5 : Int) = x5 at hx hsn hsm hx5
              walk_at "my:steps"
              refine ⟨?_⟩
              (try clear F1); (try clear N1)
              rename Fr _ _ _ _ => F1
              rename News _ _ _ _ => N1
              refine c_takes (p := p) (loose := loose) (mean := mean) (mg := mg) (mb := mb) (X.keeps F1.keep) (T.keeps F1.keep) ?_ ?_ word t hg _ _ [th, x5, se, f, o] (News.isList N1 (.head _)) (.cons _ _ (.cons _ _ (.cons _ _ (.cons _ _ (.cons _ _ .nil))))) (wok_f hoo.1 hoo.2 hss.2 htt.2 hx5.1 hx5.2) ?_
              · show dp + 1 + 8 < _; omega
              · show un + 3 + 80 < _; omega
              intro h4 tk4 g4
              replace F1 := F1.keeps g4
              replace N1 := N1.grown g4
              clear g4
              dsimp only
              walk_at "my:steps"
              · refine ⟨?_⟩
                rename ((_ == true) = true) => hb5
                exact CT.intro F1 (newsSub N1 fun p hp => .tail _ hp) (hsn (by simpa using hb5))
              · refine ⟨?_⟩
                rename ((_ == true) = false) => hb5
                exact CT.intro F1 (newsSub N1 fun p hp => .tail _ hp) (hsm (by simpa using hb5))
            · clear F1 N1 R1
              intro ys hj
              intro D h tk F2 N2 o5
              dsimp only
              walk_at "my:steps"
              refine ⟨?_⟩
              (try clear F2); (try clear N2)
              rename Fr _ _ _ _ => F2
              rename News _ _ _ _ => N2
              refine eq_intsK (News.isList N2 (.tail _ (.head _))) hj (News.isList N2 (.head _)) .nil (by show un + 3 + 64 < _; omega) ?_
              walk_at "my:steps"
              · rename (_ = true) => hb5
                have r := ret _ tk F2.keep
                rw [no (by simp only [decide_eq_true_eq] at hb5; simp only [beq_iff_eq] at hb2; simp [quadOk, fifths, hb2, hb5])] at r
                exact r
              · refine ⟨?_⟩
                rename (decide _ = false) => hb5
                exact UnrEnd.intro F2 (newsSub N2 fun p hp => .tail _ (.tail _ hp)) _ (fun p hp => hp) hoff
                  ⟨⟨rfl, trivial⟩, ⟨_, _, rfl, hC⟩, all_snoc hok1 (by rw [hoe]; simp only [decide_eq_false_iff_not] at hb5; simp only [beq_eq_false_iff_ne, ne_eq, Bool.not_eq_true] at hb1; simp only [quadOk, hb1, Bool.not_false, Bool.true_and, Bool.or_eq_true, Bool.not_eq_true']; right; simp only [fifths, List.isEmpty_eq_false_iff]; exact hb5)⟩
          · refine ⟨?_⟩
            rename ((_ == true) = false) => hb2
            exact UnrEnd.intro F2 N2 _ (fun p hp => hp) hoff
              ⟨⟨rfl, trivial⟩, ⟨_, _, rfl, hC⟩, all_snoc hok1 (by rw [hoe]; simp only [beq_eq_false_iff_ne, ne_eq, Bool.not_eq_true] at hb1 hb2; simp [quadOk, hb1, hb2])⟩
end Mine
/- part Due -/
namespace Mine
noncomputable def maxI : List Int → Int
  | [] => 0
  | x :: r => r.foldl max x
theorem foldl_max (x : Int) : ∀ r : List Int, (x ≤ r.foldl max x ∧ ∀ a ∈ r, a ≤ r.foldl max x) ∧ (r.foldl max x = x ∨ r.foldl max x ∈ r)
  | [] => ⟨⟨Int.le_refl _, fun _ h => nomatch h⟩, .inl rfl⟩
  | y :: r => by
    obtain ⟨⟨a, b⟩, c⟩ := foldl_max (max x y) r
    simp only [List.foldl_cons]
    refine ⟨⟨Int.le_trans (Int.le_max_left _ _) a, fun z hz => ?_⟩, ?_⟩
    · rcases List.mem_cons.mp hz with rfl | hz
      · exact Int.le_trans (Int.le_max_right _ _) a
      · exact b z hz
    · rcases c with c | c
      · rw [c]
        by_cases q : x ≤ y
        · right; rw [Int.max_eq_right q]; exact .head _
        · left; exact Int.max_eq_left (by omega)
      · right; exact .tail _ c
theorem maxI_eq {ns : List Int} {M : Int} (hm : M ∈ ns) (hb : ∀ a ∈ ns, a ≤ M) : M = maxI ns := by
  cases ns with
  | nil => nomatch hm
  | cons x r =>
    obtain ⟨⟨a, b⟩, c⟩ := foldl_max x r
    refine Int.le_antisymm ?_ ?_
    · rcases List.mem_cons.mp hm with rfl | hm
      · exact a
      · exact b M hm
    · show r.foldl max x ≤ M
      rcases c with c | c
      · rw [c]; exact hb x (.head _)
      · exact hb _ (.tail _ c)
noncomputable def dueN : Nat → List Int → List Int
  | 0, _ => []
  | _ + 1, [] => []
  | n + 1, x :: r => dueN n ((x :: r).take ((x :: r).idxOf (maxI (x :: r)))) ++ dueN n ((x :: r).drop ((x :: r).idxOf (maxI (x :: r)) + 1)) ++ [maxI (x :: r)]
theorem dueN_succ {n : Nat} {ns : List Int} (h : ns ≠ []) : dueN (n + 1) ns = dueN n (ns.take (ns.idxOf (maxI ns))) ++ dueN n (ns.drop (ns.idxOf (maxI ns) + 1)) ++ [maxI ns] := by
  cases ns with
  | nil => exact absurd rfl h
  | cons x r => rfl
theorem dueN_nil (n : Nat) : dueN n [] = [] := by cases n <;> rfl
theorem dueN_len (n : Nat) : ∀ ns : List Int, (dueN n ns).length ≤ ns.length := by
  induction n with
  | zero => intro ns; exact Nat.zero_le _
  | succ n ih =>
    intro ns
    by_cases h : ns = []
    · subst h; simp [dueN_nil]
    · rw [dueN_succ h]
      have h1 := ih (ns.take (ns.idxOf (maxI ns)))
      have h2 := ih (ns.drop (ns.idxOf (maxI ns) + 1))
      have hp := List.length_pos_iff.mpr h
      have h0 : ns.idxOf (maxI ns) < ns.length := by
        refine List.idxOf_lt_length_iff.mpr ?_
        cases ns with
        | nil => exact absurd rfl h
        | cons x r =>
          rcases (foldl_max x r).2 with c | c
          · show r.foldl max x ∈ _; rw [c]; exact .head _
          · exact .tail _ c
      rw [List.length_take] at h1
      rw [List.length_drop] at h2
      simp only [List.length_append, List.length_cons, List.length_nil]
      omega
local macro_rules | `(tactic| walk_at "my:steps") => `(tactic| repeat' (first | (k_unfold; (try dsimp only)) | walk1 | (dsimp only; walk1)))
local macro_rules | `(tactic| walk_at "call ref") => `(tactic| refine hold ?_)
local macro_rules | `(tactic| walk_at "compareOp Eq ref ref") => `(tactic| refine hold ?_)
local macro_rules | `(tactic| walk_at "getMethod ref") => `(tactic| refine hold ?_)
local macro_rules | `(tactic| walk_at "subscriptTail") => `(tactic| refine hold ?_)
local macro_rules | `(tactic| walk_at "binaryOp Add ref ref") => `(tactic| refine hold ?_)
local macro_rules | `(tactic| walk_at "call builtin:max") => `(tactic| refine hold ?_)
local macro_rules | `(tactic| walk_at "call builtin:list.index") => `(tactic| refine hold ?_)
set_option maxRecDepth 100000 in
set_option maxHeartbeats 8000000 in
theorem c_due (n : Nat) : ∀ {w : World} {dp un : Nat} {fr : Option (List Env)} {gd : Option (List Code)} {s : Shared} {p : Program} {loose : List Str} {mean : ExcName → Option Value} {mg mb : Str → Option Value} {Q E : Value → Shared → Prop}
    (X : (hd.heap_39 w.params).In s.heap) (T : Top p loose mean mg mb s.heap) (hroom : dp + 12 + n < recursionLimit) (hu : un + 120 + 5 * n < cLine)
    (a : Addr) (vs : List Value) (ns : List Int) (hl : LstAt s.heap a vs) (hi : IntsAre vs ns) (hn : ns.length < n) (hn6 : n ≤ 7)
    (ret : ∀ r vs' n' h' tk', Grows s.heap h' → h'.get? r = some (listOf vs'.toArray n') → s.heap.get? r = none → IntsAre vs' (dueN n ns) → Q (.ref r) { s with heap := h', toks := tk' }),
    wpAny (model Challenge.rw_rw0101_01.row.prog w) (Am dp un fr gd) (call (.ref 167) [.ref a]) Q E s := by
  induction n with
  | zero => intro w dp un fr gd s p loose mean mg mb Q E X T hroom hu a vs ns hl hi hn; exact absurd hn (Nat.not_lt_zero _)
  | succ n ih =>
  intro w dp un fr gd s p loose mean mg mb Q E X T hroom hu a vs ns hl hi hn hn6 ret
  w_top off; revert X; k_fill; intro X
  refine wpAny_call ?_
  refine enterP (f := 167) (binds := [(Str.ofString "cars", .ref a)]) X T.nolimit (by k_is) (by k_is) (by show dp < _; omega) (BindsTo.of_eq rfl) (locs rfl) ?_ rfl rfl rfl (by decide)
  intro L' h₁ eL F
  have N : News s.heap L' h₁ [] := News.nil
  walk_at "my:steps"
  refine ⟨?_⟩
  rename Fr _ _ _ _ => F1
  rename News _ _ _ _ => N1
  refine eq_intsK (ms := []) (hl.keeps F1.keep).isList hi (News.isList N1 (.head _)) .nil (by show un + 3 + 64 < _; omega) ?_
  walk_at "my:steps"
  · rename (decide _ = true) => hb
    rename Fr _ _ _ _ => F2
    rename News _ _ _ _ => N2
    simp only [decide_eq_true_eq] at hb
    subst hb
    exact ret _ [] 0 _ _ F2.keep (N2 _ (.head _)).1 (N2 _ (.head _)).2.2 .nil
  · refine ⟨?_⟩
    rename (decide _ = false) => hb
    simp only [decide_eq_false_iff_not] at hb
    refine listMeth (hl.keeps F1.keep) PySem.F.slot_list_index PySem.F.type_list_index ?_
    walk_at "my:steps"
    refine ⟨?_⟩
    refine max_list_N rfl F1 N1 (hl.keeps F1.keep).isList hi (by have := List.length_pos_iff.mpr hb; omega) ?_
    intro h2 M t2 tk2 F2 N2 hM1 hM2
    have eM := maxI_eq hM1 hM2
    subst eM
    clear F1 N1
    walk_at "my:steps"
    refine ⟨?_⟩
    refine indexInts (hl.keeps F2.keep) hi (by omega) hM1 ?_
    generalize htp : ns.idxOf (maxI ns) = tp
    have htpl : tp < ns.length := htp ▸ List.idxOf_lt_length_iff.mpr hM1
    dsimp only
    walk_at "my:steps"
    refine ⟨?_⟩

    rename Fr _ _ _ _ => F2
    rename News _ _ _ _ => N2
    refine slice_list (lo := none) (hi := some ((tp : Nat) : Int)) F2 N2 (hl.keeps F2.keep).isList .none (.int _ _) ?_ (hsz := by rw [List.size_toArray, hi.length, sizeLine_eq]; omega)
    intro h3 F3 N3
    have hi3 := slice_ints_upto hi (y := (tp : Int)) (by omega) (by omega)
    generalize slicePick vs.toArray none (some (tp : Int)) none = its3 at N3 hi3
    clear F2
    walk_at "my:steps"
    refine ⟨?_⟩
    refine ih (p := p) (loose := loose) (mean := mean) (mg := mg) (mb := mb) (X.keeps F3.keep) (T.keeps F3.keep) ?_ ?_ _ its3.toList (ns.take tp) (LstAt.news N3 (.head _)) (by simpa using hi3) (by rw [List.length_take]; omega) (by omega) ?_
    · show dp + 1 + 12 + n < _; omega
    · show un + 3 + 120 + 5 * n < _; omega
    intro r1 vs1 n1 h4 tk4 g4 hr1 hf1 hI1
    have N4 := newsAdd F3 N3 g4 hr1 hf1
    have F4 := F3.keeps g4
    clear g4 hr1 hf1
    replace N4 := newsSub (news' := [(r1, listOf vs1.toArray n1)]) N4 (by intro p hp; simp at hp; subst hp; exact .head _)
    clear F3 N3
    dsimp only
    walk_at "my:steps"
    refine ⟨?_⟩

    rename Fr _ _ _ _ => F4
    rename News _ _ _ _ => N4
    refine slice_list (lo := some ((tp : Int) + 1)) (hi := none) F4 N4 (hl.keeps F4.keep).isList (.int _ _) .none ?_ (hsz := by rw [List.size_toArray, hi.length, sizeLine_eq]; omega)
    intro h5 F5 N5
    have hi5 := slice_ints_from hi (x := (tp : Int) + 1) (by omega) (by omega)
    rw [show ((tp : Int) + 1).toNat = tp + 1 by omega] at hi5
    generalize slicePick vs.toArray (some ((tp : Int) + 1)) none none = its5 at N5 hi5
    clear F4 N4
    walk_at "my:steps"
    refine ⟨?_⟩
    refine ih (p := p) (loose := loose) (mean := mean) (mg := mg) (mb := mb) (X.keeps F5.keep) (T.keeps F5.keep) ?_ ?_ _ its5.toList (ns.drop (tp + 1)) (LstAt.news N5 (.head _)) hi5 (by rw [List.length_drop]; omega) (by omega) ?_
    · show dp + 1 + 12 + n < _; omega
    · show un + 3 + 120 + 5 * n < _; omega
    intro r2 vs2 n2 h6 tk6 g6 hr2 hf2 hI2
    have N6 := newsAdd F5 N5 g6 hr2 hf2
    have F6 := F5.keeps g6
    clear g6 hr2 hf2 F5 N5
    dsimp only
    walk_at "my:steps"
    refine ⟨?_⟩
    rename Fr _ _ _ _ => F6
    rename News _ _ _ _ => N6
    have l1 := dueN_len n (ns.take tp)
    have l2 := dueN_len n (ns.drop (tp + 1))
    rw [List.length_take] at l1
    rw [List.length_drop] at l2
    refine add_lists_ints (vs := vs1) (ws := vs2) F6 N6 (News.isList N6 (by k_mem)) (News.isList N6 (.head _)) hI1 hI2 ?_ (hsz := by rw [sizeLine_eq]; omega)
    intro h7 F7 N7 hI7
    clear F6 N6
    walk_at "my:steps"
    refine ⟨?_⟩
    obtain ⟨tm, hxm⟩ := hi.get tp (maxI ns) (by subst htp; rw [List.getElem?_eq_getElem htpl, List.getElem_idxOf])
    refine itemL (hl.keeps F7.keep).isList (by omega) (by omega) (by simpa using hxm) ?_
    walk_at "my:steps"
    refine ⟨?_⟩
    rename Fr _ _ _ _ => F8
    rename News _ _ _ _ => N8
    refine add_lists_ints (vs := vs1 ++ vs2) (ws := [.int (maxI ns) tm]) F8 N8 (News.isList N8 (by k_mem)) (News.isList N8 (.head _)) hI7 (.cons _ _ .nil) ?_ (hsz := by rw [sizeLine_eq]; simp only [List.length_append, List.length_cons, List.length_nil]; omega)
    intro h9 F9 N9 hI9
    walk_at "my:steps"
    rw [show dueN n (ns.take tp) ++ dueN n (ns.drop (tp + 1)) ++ [maxI ns] = dueN (n + 1) ns by rw [dueN_succ hb, htp]] at hI9
    exact ret _ _ 0 _ _ F9.keep (N9 _ (.head _)).1 (N9 _ (.head _)).2.2 hI9
end Mine
/- part Bis -/
namespace Mine
noncomputable def bisN (xs : List Int) (x : Int) : Nat → Nat → Nat → Nat
  | 0, lo, _ => lo
  | n + 1, lo, hi => if lo < hi then (if xs.getD ((lo + hi) / 2) 0 < x then bisN xs x n ((lo + hi) / 2 + 1) hi else bisN xs x n lo ((lo + hi) / 2)) else lo
noncomputable def bis (xs : List Int) (x : Int) : Nat := bisN xs x (xs.length + 1) 0 xs.length
theorem bisN_done {xs : List Int} {x : Int} {n lo hi : Nat} (h : ¬ lo < hi) : bisN xs x n lo hi = lo := by
  cases n with
  | zero => rfl
  | succ n => exact if_neg h
local macro_rules | `(tactic| walk_at "my:steps") => `(tactic| repeat' (first | (k_unfold; (try dsimp only)) | walk1 | (dsimp only; walk1)))
local macro_rules | `(tactic| walk_at "exec While") => `(tactic| refine hold ?_)
local macro_rules | `(tactic| walk_at "call builtin:len") => `(tactic| refine hold ?_)
local macro_rules | `(tactic| walk_at "subscriptTail") => `(tactic| refine hold ?_)
local macro_rules | `(tactic| walk_at "WhileStep") => `(tactic| refine hold ?_)
set_option maxRecDepth 100000 in
set_option maxHeartbeats 8000000 in
theorem c_bis {w : World} {dp un : Nat} {fr : Option (List Env)} {gd : Option (List Code)} {s : Shared} {p : Program} {loose : List Str} {mean : ExcName → Option Value} {mg mb : Str → Option Value} {Q E : Value → Shared → Prop}
    (X : (hd.heap_39 w.params).In s.heap) (T : Top p loose mean mg mb s.heap) (hroom : dp + 4 < recursionLimit) (hu : un + 80 < cLine)
    (a : Addr) (vs : List Value) (ns : List Int) (hl : s.heap.IsList a vs.toArray) (hi : IntsAre vs ns) (hn : ns.length ≤ 100) (x : Int) (t : Tok)
    (ret : ∀ t' h' tk', Grows s.heap h' → Q (.int (bis ns x : Nat) t') { s with heap := h', toks := tk' }) :
    wpAny (model Challenge.rw_rw0101_01.row.prog w) (Am dp un fr gd) (call (.ref 63) [.ref a, .int x t]) Q E s := by
  w_top off; revert X; k_fill; intro X
  refine wpAny_call ?_
  refine enterP (f := 63) (binds := [(Str.ofString "a", .ref a), (Str.ofString "x", .int x t), (Str.ofString "lo", .int 0 320), (Str.ofString "hi", .none), (Str.ofString "key", .none)]) X T.nolimit (by k_is) (by k_is) (by show dp < _; omega) (kp_binds X fun _ => rfl) (locs rfl) ?_ rfl rfl rfl (by decide)
  intro L' h₁ eL F
  have N : News s.heap L' h₁ [] := News.nil
  walk_at "my:steps"
  refine ⟨?_⟩
  rename Fr _ _ _ _ => F1
  refine lenL (n := (ns.length : Int)) (Grows.list F1.keep hl) (by rw [hi.length]) (by omega) ?_
  walk_at "my:steps"
  refine ⟨?_⟩
  rename Fr _ _ _ _ => F2
  refine While_inv (n₀ := ns.length + 1) (fun n m nx => nx = [] ∧ ∃ (lo hi : Nat) (tl th : Tok), Has m [(Str.ofString "a", .ref a), (Str.ofString "x", .int x t), (Str.ofString "lo", .int lo tl), (Str.ofString "hi", .int hi th)] ∧
    lo ≤ hi ∧ hi ≤ ns.length ∧ hi - lo < n ∧ bisN ns x n lo hi = bis ns x) F2 News.nil ⟨rfl, 0, ns.length, _, _, ⟨rfl, rfl, rfl, rfl, trivial⟩, by omega, by omega, by omega, rfl⟩ ?_
  rintro n m nx h tk' F N ⟨rfl, lo, hi', tl, th, hm, h1, h2, h3, h4⟩
  replace F := frView F hm
  have hmid : Int.fdiv ((lo : Int) + (hi' : Int)) 2 = (((lo + hi') / 2 : Nat) : Int) := by
    rw [Int.fdiv_eq_ediv_of_nonneg _ (by omega)]; omega
  walk_at "my:steps"
  · refine ⟨?_⟩
    rename ((lo : Int) < hi') => hlt
    rename (_ < x) => hx
    rename Fr _ _ _ _ => F3
    rename News _ _ _ _ => N3
    have hlt' : lo < hi' := by omega
    rw [hmid, Int.toNat_natCast] at hx
    obtain ⟨k, rfl⟩ : ∃ k, n = k + 1 := ⟨n - 1, by omega⟩
    rw [bisN, if_pos hlt', if_pos hx] at h4
    exact WhileStep.intro F3 N3 (n' := k) (by omega) ⟨rfl, (lo + hi') / 2 + 1, hi', _, _, ⟨rfl, rfl, by rw [hmid]; rfl, rfl, trivial⟩, by omega, h2, by omega, h4⟩
  · refine ⟨?_⟩
    rename ((lo : Int) < hi') => hlt
    rename (¬ (_ < x)) => hx
    rename Fr _ _ _ _ => F3
    rename News _ _ _ _ => N3
    have hlt' : lo < hi' := by omega
    rw [hmid, Int.toNat_natCast] at hx
    obtain ⟨k, rfl⟩ : ∃ k, n = k + 1 := ⟨n - 1, by omega⟩
    rw [bisN, if_pos hlt', if_neg hx] at h4
    exact WhileStep.intro F3 N3 (n' := k) (by omega) ⟨rfl, lo, (lo + hi') / 2, _, _, ⟨rfl, rfl, rfl, by rw [hmid]; rfl, trivial⟩, by omega, by omega, by omega, h4⟩
  · rename (¬ ((lo : Int) < hi')) => hge
    rename Fr _ _ _ _ => F3
    rw [bisN_done (by omega)] at h4
    subst h4
    exact ret _ _ _ F3.keep
end Mine
/- part Ins -/
namespace Mine
local macro_rules | `(tactic| walk_at "my:none0") => `(tactic| skip)
local macro_rules | `(tactic| walk_at "my:steps") => `(tactic| repeat' (first | (k_unfold; (try dsimp only)) | walk1 | (dsimp only; walk1)))
local macro_rules | `(tactic| walk_at "exec While") => `(tactic| refine hold ?_)
local macro_rules | `(tactic| walk_at "call builtin:len") => `(tactic| refine hold ?_)
local macro_rules | `(tactic| walk_at "subscriptTail") => `(tactic| refine hold ?_)
local macro_rules | `(tactic| walk_at "WhileStep") => `(tactic| refine hold ?_)
set_option maxRecDepth 100000 in
set_option maxHeartbeats 8000000 in
theorem c_bis4 {w : World} {dp un : Nat} {fr : Option (List Env)} {gd : Option (List Code)} {s : Shared} {p : Program} {loose : List Str} {mean : ExcName → Option Value} {mg mb : Str → Option Value} {Q E : Value → Shared → Prop}
    (X : (hd.heap_39 w.params).In s.heap) (T : Top p loose mean mg mb s.heap) (hroom : dp + 4 < recursionLimit) (_hu : un + 80 < cLine)
    (a : Addr) (vs : List Value) (ns : List Int) (hl : s.heap.IsList a vs.toArray) (hi : IntsAre vs ns) (hn : ns.length ≤ 100) (x : Int) (t t0 : Tok)
    (ret : ∀ t' h' tk', Grows s.heap h' → Q (.int (bis ns x : Nat) t') { s with heap := h', toks := tk' }) :
    wpAny (model Challenge.rw_rw0101_01.row.prog w) (Am dp un fr gd) (call (.ref 63) [.ref a, .int x t, .int 0 t0, .none]) Q E s := by
  w_top off; revert X; k_fill; intro X
  refine wpAny_call ?_
  refine enterP (f := 63) (binds := [(Str.ofString "a", .ref a), (Str.ofString "x", .int x t), (Str.ofString "lo", .int 0 t0), (Str.ofString "hi", .none), (Str.ofString "key", .none)]) X T.nolimit (by k_is) (by k_is) (by show dp < _; omega) (kp_binds X fun _ => rfl) (locs rfl) ?_ rfl rfl rfl (by decide)
  intro L' h₁ eL F
  have N : News s.heap L' h₁ [] := News.nil
  walk_at "my:steps"
  refine ⟨?_⟩
  rename Fr _ _ _ _ => F1
  refine lenL (n := (ns.length : Int)) (Grows.list F1.keep hl) (by rw [hi.length]) (by omega) ?_
  walk_at "my:steps"
  refine ⟨?_⟩
  rename Fr _ _ _ _ => F2
  refine While_inv (n₀ := ns.length + 1) (fun n m nx => nx = [] ∧ ∃ (lo hi : Nat) (tl th : Tok), Has m [(Str.ofString "a", .ref a), (Str.ofString "x", .int x t), (Str.ofString "lo", .int lo tl), (Str.ofString "hi", .int hi th)] ∧
    lo ≤ hi ∧ hi ≤ ns.length ∧ hi - lo < n ∧ bisN ns x n lo hi = bis ns x) F2 News.nil ⟨rfl, 0, ns.length, _, _, ⟨rfl, rfl, rfl, rfl, trivial⟩, by omega, by omega, by omega, rfl⟩ ?_
  rintro n m nx h tk' F N ⟨rfl, lo, hi', tl, th, hm, h1, h2, h3, h4⟩
  replace F := frView F hm
  have hmid : Int.fdiv ((lo : Int) + (hi' : Int)) 2 = (((lo + hi') / 2 : Nat) : Int) := by
    rw [Int.fdiv_eq_ediv_of_nonneg _ (by omega)]; omega
  walk_at "my:steps"
  · refine ⟨?_⟩
    rename ((lo : Int) < hi') => hlt
    rename (_ < x) => hx
    rename Fr _ _ _ _ => F3
    rename News _ _ _ _ => N3
    have hlt' : lo < hi' := by omega
    rw [hmid, Int.toNat_natCast] at hx
    obtain ⟨k, rfl⟩ : ∃ k, n = k + 1 := ⟨n - 1, by omega⟩
    rw [bisN, if_pos hlt', if_pos hx] at h4
    exact WhileStep.intro F3 N3 (n' := k) (by omega) ⟨rfl, (lo + hi') / 2 + 1, hi', _, _, ⟨rfl, rfl, by rw [hmid]; rfl, rfl, trivial⟩, by omega, h2, by omega, h4⟩
  · refine ⟨?_⟩
    rename ((lo : Int) < hi') => hlt
    rename (¬ (_ < x)) => hx
    rename Fr _ _ _ _ => F3
    rename News _ _ _ _ => N3
    have hlt' : lo < hi' := by omega
    rw [hmid, Int.toNat_natCast] at hx
    obtain ⟨k, rfl⟩ : ∃ k, n = k + 1 := ⟨n - 1, by omega⟩
    rw [bisN, if_pos hlt', if_neg hx] at h4
    exact WhileStep.intro F3 N3 (n' := k) (by omega) ⟨rfl, lo, (lo + hi') / 2, _, _, ⟨rfl, rfl, rfl, by rw [hmid]; rfl, trivial⟩, by omega, by omega, by omega, h4⟩
  · rename (¬ ((lo : Int) < hi')) => hge
    rename Fr _ _ _ _ => F3
    rw [bisN_done (by omega)] at h4
    subst h4
    exact ret _ _ _ F3.keep

theorem bisN_le (xs : List Int) (x : Int) : ∀ (n lo hi : Nat), lo ≤ hi → bisN xs x n lo hi ≤ hi
  | 0, lo, hi, h => h
  | n + 1, lo, hi, h => by
    unfold bisN
    split
    · split
      · exact bisN_le xs x n _ _ (by omega)
      · exact Nat.le_trans (bisN_le xs x n _ _ (by omega)) (by omega)
    · exact h
theorem intsTake : ∀ {vs : List Value} {ns : List Int} (k : Nat), IntsAre vs ns → IntsAre (vs.take k) (ns.take k)
  | _, _, 0, _ => by simp; exact .nil
  | _, _, k + 1, .nil => by simp; exact .nil
  | _, _, k + 1, .cons n t h => by simp; exact .cons n t (intsTake k h)
theorem intsDrop : ∀ {vs : List Value} {ns : List Int} (k : Nat), IntsAre vs ns → IntsAre (vs.drop k) (ns.drop k)
  | _, _, 0, h => by simpa using h
  | _, _, k + 1, .nil => by simp; exact .nil
  | _, _, k + 1, .cons n t h => by simp; exact intsDrop k h
theorem intsApp : ∀ {vs : List Value} {xs : List Int} {ws : List Value} {ys : List Int}, IntsAre vs xs → IntsAre ws ys → IntsAre (vs ++ ws) (xs ++ ys)
  | _, _, _, _, .nil, h => h
  | _, _, _, _, .cons n t h, h' => .cons n t (intsApp h h')
/-- an item put in at a place -/
noncomputable def insAt (l : List Int) (k : Nat) (x : Int) : List Int := l.take (min k l.length) ++ x :: l.drop (min k l.length)
theorem ints_ins {vs : List Value} {ns : List Int} (h : IntsAre vs ns) (k : Nat) (x : Int) (t : Tok) : IntsAre (kl_ins vs (k : Int) (.int x t)) (insAt ns k x) := by
  unfold kl_ins insAt
  rw [if_neg (by omega), Int.toNat_natCast, h.length]
  exact intsApp (intsTake _ h) (.cons x t (intsDrop _ h))
local macro_rules | `(tactic| walk_at "call ref") => `(tactic| refine hold ?_)
local macro_rules | `(tactic| walk_at "call builtin:list.insert") => `(tactic| refine hold ?_)
set_option maxRecDepth 100000 in
set_option maxHeartbeats 8000000 in
theorem c_ins {w : World} {dp un : Nat} {fr : Option (List Env)} {gd : Option (List Code)} {s : Shared} {p : Program} {loose : List Str} {mean : ExcName → Option Value} {mg mb : Str → Option Value} {Q E : Value → Shared → Prop}
    (a : Addr) (X0 : (hd.heap_39 w.params).In s.heap) (X : (hd.heap_39 w.params).In (hideAll s.heap [a])) (T0 : Top p loose mean mg mb s.heap) (T : Top p loose mean mg mb (hideAll s.heap [a])) (hroom : dp + 8 < recursionLimit) (hu : un + 120 < cLine)
    (vs : List Value) (k : Nat) (ns : List Int) (hl : s.heap.get? a = some (listOf vs.toArray k)) (hi : IntsAre vs ns) (hn : ns.length ≤ 50) (x : Int) (t : Tok)
    (ret : ∀ vs' k' h' tk', (∀ b o, b ≠ a → s.heap.get? b = some o → h'.get? b = some o) → h'.get? a = some (listOf vs'.toArray k') → IntsAre vs' (insAt ns (bis ns x) x) → Q .none { s with heap := h', toks := tk' }) :
    wpAny (model Challenge.rw_rw0101_01.row.prog w) (Am dp un fr gd) (call (.ref 54) [.ref a, .int x t]) Q E s := by
  w_top off; revert X; k_fill; intro X
  refine wpAny_call ?_
  refine enterP (f := 54) (binds := [(Str.ofString "a", .ref a), (Str.ofString "x", .int x t), (Str.ofString "lo", .int 0 307), (Str.ofString "hi", .none), (Str.ofString "key", .none)]) X0 T0.nolimit (by k_is) (by k_is) (by show dp < _; omega) (kp_binds X0 fun _ => rfl) (locs rfl) ?_ rfl rfl rfl (by decide)
  intro L' h₁ eL F0
  have hL : a ≠ L' := by rw [eL]; exact Nat.ne_of_lt (Heap.lt_size hl)
  have F : Fr (hideAll s.heap [a]) L' h₁ _ := ⟨F0.ns, fun b o e => F0.keep b o (of_hideAll _ e), by rw [hideAll_size]; exact F0.above⟩
  have N : News (hideAll s.heap [a]) L' h₁ [(a, listOf vs.toArray k)] := fun q hq => by
    rw [List.mem_singleton] at hq
    subst hq
    exact ⟨F0.keep _ _ hl, hL, hideAll_none _ (.head _)⟩
  clear F0
  walk_at "my:steps"
  refine ⟨?_⟩
  rename Fr _ _ _ _ => F1
  rename News _ _ _ _ => N1
  have hl1 := (N1 _ (.head _)).1
  refine c_bis4 (p := p) (loose := loose) (mean := mean) (mg := mg) (mb := mb) (X.keeps F1.keep) (T.keeps F1.keep) (by show dp + 1 + 4 < _; omega) (by show un + 3 + 80 < _; omega) a vs ns ⟨_, hl1, rfl, k, rfl⟩ hi (by omega) x t 307 fun t' h' tk' g => ?_
  have F2 := F1.keeps g
  have N2 := N1.grown g
  clear F1 N1 hl1
  dsimp only
  walk_at "my:steps"
  refine ⟨?_⟩
  rename Fr _ _ _ _ => F3
  rename News _ _ _ _ => N3
  refine kl_insert F3 N3 ?_ rfl (Upd.head (fun p hp => nomatch hp)) ?_ fun h'' F4 N4 => ?_
  · have hb : bis ns x ≤ ns.length := bisN_le ns x _ _ _ (Nat.zero_le _)
    unfold PySem.Builtin.List.listFitsIndex
    have e1 : (decide (-(2 ^ 63 : Int) ≤ (bis ns x : Int))) = true := decide_eq_true (by omega)
    have e2 : (decide ((bis ns x : Int) < 2 ^ 63)) = true := decide_eq_true (by omega)
    rw [e1, e2]; rfl
  · show vs.length ≤ sizeLine
    rw [hi.length, sizeLine_eq]; omega
  · dsimp only at F4 N4 ⊢
    walk_at "my:steps"
    exact ret _ _ _ _ (fun b o hb e => F4.keep b o (hideAll_get [a] e fun q => hb (List.mem_singleton.mp q))) (N4 _ (.head _)).1 (ints_ins hi _ x t)
end Mine
/- part Sre1 -/
namespace Mine
noncomputable abbrev eolCode : Array Nat := #[14, 9, 4, 1, 2, 16, 10, 16, 13, 0, 7, 7, 16, 13, 16, 10, 15, 18, 5, 16, 10, 15, 13, 11, 16, 13, 5, 5, 0, 16, 10, 1, 15, 2, 0, 1]
noncomputable abbrev dotCode : Array Nat := #[14, 4, 0, 1, 1, 6, 1, 16, 46, 1]
/-- the machine ends within n steps, and the end is as told -/
noncomputable def Ends (n : Nat) (m : Sre.M) (P : Sre.M → Prop) : Prop := ∃ k, k ≤ n ∧ (Sre.M.runFor k m).outcome.isSome = true ∧ P (Sre.M.runFor k m)
theorem Ends.step {n : Nat} {m m' : Sre.M} {P : Sre.M → Prop} (h : m.outcome = none) (e : m.step = m') (x : Ends n m' P) : Ends (n + 1) m P := by
  obtain ⟨k, hk, a, b⟩ := x
  have q : Sre.M.runFor (k + 1) m = Sre.M.runFor k m' := by
    show (if m.outcome.isSome = true then m else Sre.M.runFor k m.step) = _
    rw [h, e]; rfl
  exact ⟨k + 1, by omega, by rw [q]; exact a, by rw [q]; exact b⟩
theorem Ends.done {n : Nat} {m : Sre.M} {P : Sre.M → Prop} {o : Sre.Outcome} (h : m.outcome = some o) (p : P m) : Ends n m P := ⟨0, Nat.zero_le _, by show m.outcome.isSome = true; rw [h]; rfl, p⟩
theorem Ends.mono {n n' : Nat} {m : Sre.M} {P : Sre.M → Prop} (h : n ≤ n') (x : Ends n m P) : Ends n' m P := by
  obtain ⟨k, hk, a, b⟩ := x
  exact ⟨k, by omega, a, b⟩
/-- the state of the machine, written out -/
noncomputable abbrev mk (code text : Array Nat) (start ls pc pos handed : Nat) (om : Bool) (frames : List Sre.Frame) (weight : Nat) (answer : Option Bool) (seen : Sre.Seen) : Sre.M :=
  { code, text, lim := text.size, start, lastStart := ls, pc, pos, handed, outermost := om, marks := #[], frames, weight, answer, seen }
noncomputable def isEol (c : Nat) : Bool := c == 10 || c == 13
theorem inSet_eol (c : Nat) (seen : Sre.Seen) : ∃ seen', Sre.inSet eolCode c eolCode.size 5 true seen = .ok (isEol c, seen') := by
  show ∃ seen', (if (c == 10) = true then Except.ok (true, _) else if (c == 13) = true then Except.ok (true, _) else Except.ok (!true, _)) = _
  unfold isEol
  cases h : c == 10
  · cases h' : c == 13
    · exact ⟨_, rfl⟩
    · exact ⟨_, rfl⟩
  · exact ⟨_, rfl⟩
/-- the first end of a line from s on -/
noncomputable def nextEol (t : Array Nat) : Nat → Nat → Option Nat
  | 0, _ => none
  | n + 1, s => if t.size ≤ s then none else if isEol (t.getD s 0) then some s else nextEol t n (s + 1)
theorem admitted_eol {m : Sre.M} {t : Array Nat} (hc : m.code = eolCode) (ht : m.text = t) (hl : m.lim = t.size) : ∀ (fuel s : Nat) (seen : Sre.Seen), ∃ seen', Sre.M.admitted m fuel s seen = .ok (nextEol t fuel s, seen') := by
  intro fuel
  induction fuel with
  | zero => exact fun s seen => ⟨seen, rfl⟩
  | succ n ih =>
    intro s seen
    unfold Sre.M.admitted nextEol
    rw [hl, hc, ht]
    by_cases h : t.size ≤ s
    · rw [if_pos h, if_pos h]; exact ⟨_, rfl⟩
    · rw [if_neg h, if_neg h]
      obtain ⟨seen', e⟩ := inSet_eol (t.getD s 0) seen
      rw [e]
      cases hh : isEol (t.getD s 0)
      · exact ih _ _
      · exact ⟨_, rfl⟩
end Mine
/- part Sre2 -/
namespace Mine
section
variable {code t : Array Nat} {start ls pc pos handed : Nat} {om : Bool} {fs : List Sre.Frame} {w : Nat} {seen : Sre.Seen}
theorem ops16 : Sre.ops[16]? = some .LITERAL := rfl
theorem ops15 : Sre.ops[15]? = some .JUMP := rfl
theorem ops7 : Sre.ops[7]? = some .BRANCH := rfl
theorem ops5 : Sre.ops[5]? = some .ASSERT_NOT := rfl
theorem ops6 : Sre.ops[6]? = some .AT := rfl
theorem ops1 : Sre.ops[1]? = some .SUCCESS := rfl
theorem st_litY (hpc : pc < code.size) (hop : code.getD pc 0 = 16) (hlt : pos < t.size) (hc : t.getD pos 0 = code.getD (pc + 1) 0) :
    (mk code t start ls pc pos handed om fs w none seen).step = mk code t start ls (pc + 2) (pos + 1) handed om fs w none (seen.add 16) := by
  have h2 : ¬ (pos ≥ t.size) := by omega
  have ha : ∀ sn, Sre.accepts code pc (t.getD pos 0) sn = .ok (true, sn) := by
    intro sn
    unfold Sre.accepts
    rw [hop, ops16]
    dsimp only
    rw [hc, beq_self_eq_true]
  have hw : Sre.itemWidth code pc = 2 := by
    unfold Sre.itemWidth; rw [hop, ops16]
  unfold Sre.M.step
  dsimp only [Option.isSome]
  rw [if_neg Bool.false_ne_true, if_pos hpc]
  unfold Sre.M.exec Sre.M.word
  dsimp only [Nat.add_zero]
  rw [hop, ops16]
  dsimp only
  rw [if_neg h2, ha]
  dsimp only
  rw [hw]
theorem st_litN (hpc : pc < code.size) (hop : code.getD pc 0 = 16) (hc : t.size ≤ pos ∨ t.getD pos 0 ≠ code.getD (pc + 1) 0) :
    ∃ seen', (mk code t start ls pc pos handed om fs w none seen).step = mk code t start ls pc pos handed om fs w (some false) seen' := by
  unfold Sre.M.step
  dsimp only [Option.isSome]
  rw [if_neg Bool.false_ne_true, if_pos hpc]
  unfold Sre.M.exec Sre.M.word
  dsimp only [Nat.add_zero]
  rw [hop, ops16]
  dsimp only
  by_cases h : t.size ≤ pos
  · rw [if_pos h]; exact ⟨_, rfl⟩
  · rw [if_neg h]
    have hc' := hc.resolve_left h
    have ha : ∀ sn, Sre.accepts code pc (t.getD pos 0) sn = .ok (false, sn) := by
      intro sn
      unfold Sre.accepts
      rw [hop, ops16]
      dsimp only
      rw [beq_false_of_ne hc']
    rw [ha]
    exact ⟨_, rfl⟩
theorem st_jump (hpc : pc < code.size) (hop : code.getD pc 0 = 15) :
    (mk code t start ls pc pos handed om fs w none seen).step = mk code t start ls (pc + 1 + code.getD (pc + 1) 0) pos handed om fs w none (seen.add 15) := by
  unfold Sre.M.step
  dsimp only [Option.isSome]
  rw [if_neg Bool.false_ne_true, if_pos hpc]
  unfold Sre.M.exec Sre.M.word
  dsimp only [Nat.add_zero]
  rw [hop, ops15]
noncomputable abbrev fBr (pc pos : Nat) (om : Bool) : Sre.Frame := { wait := .nextBranch, pc, pos, outermost := om }
noncomputable abbrev fSt (pc pos : Nat) (om : Bool) : Sre.Frame := { wait := .nextStart, pc, pos, outermost := om }
noncomputable abbrev fLn (pc pos : Nat) (om : Bool) : Sre.Frame := { wait := .lookNot, pc, pos, outermost := om }
theorem st_branch (hpc : pc < code.size) (hop : code.getD pc 0 = 7) (hz : (code.getD (pc + 1) 0 == 0) = false) (hw : w ≤ 1000) :
    (mk code t start ls pc pos handed om fs w none seen).step = mk code t start ls (pc + 2) pos pos om (fBr (pc + 1) pos om :: fs) (w + 1) none (seen.add 7) := by
  unfold Sre.M.step
  dsimp only [Option.isSome]
  rw [if_neg Bool.false_ne_true, if_pos hpc]
  unfold Sre.M.exec Sre.M.word
  dsimp only [Nat.add_zero]
  rw [hop, ops7]
  dsimp only
  unfold Sre.M.alternative
  dsimp only
  rw [hz, if_neg Bool.false_ne_true]
  unfold Sre.M.attempt
  have : ¬ (w + 1 + 0 > 16777216) := by omega
  exact if_neg this
theorem st_success (hpc : pc < code.size) (hop : code.getD pc 0 = 1) :
    (mk code t start ls pc pos handed om fs w none seen).step = mk code t start ls pc pos pos om fs w (some true) (seen.add 1) := by
  unfold Sre.M.step
  dsimp only [Option.isSome]
  rw [if_neg Bool.false_ne_true, if_pos hpc]
  unfold Sre.M.exec Sre.M.word
  dsimp only [Nat.add_zero]
  rw [hop, ops1]
  cases om <;> rfl
theorem st_anot (hpc : pc < code.size) (hop : code.getD pc 0 = 5) (hz : code.getD (pc + 2) 0 = 0) (hw : w ≤ 1000) :
    (mk code t start ls pc pos handed om fs w none seen).step = mk code t start ls (pc + 3) pos pos false (fLn pc pos om :: fs) (w + 1) none (seen.add 5) := by
  unfold Sre.M.step
  dsimp only [Option.isSome]
  rw [if_neg Bool.false_ne_true, if_pos hpc]
  unfold Sre.M.exec Sre.M.word
  dsimp only [Nat.add_zero]
  rw [hop, ops5]
  dsimp only
  rw [hz, if_neg (Nat.not_lt_zero _)]
  unfold Sre.M.attempt
  have : ¬ (w + 1 + 0 > 16777216) := by omega
  exact if_neg this
theorem st_at (hpc : pc < code.size) (hop : code.getD pc 0 = 6) (hz : code.getD (pc + 1) 0 = 1) {b : Bool} (hb : (pos == 0 || t.getD (pos - 1) 0 == 10) = b) :
    ∃ seen', (mk code t start ls pc pos handed om fs w none seen).step = (if b = true then mk code t start ls (pc + 2) pos handed om fs w none seen' else mk code t start ls pc pos handed om fs w (some false) seen') := by
  unfold Sre.M.step
  dsimp only [Option.isSome]
  rw [if_neg Bool.false_ne_true, if_pos hpc]
  unfold Sre.M.exec Sre.M.word
  dsimp only [Nat.add_zero]
  rw [hop, ops6]
  dsimp only
  rw [hz]
  unfold Sre.M.isAt
  dsimp only
  rw [hb]
  cases b
  · exact ⟨_, rfl⟩
  · exact ⟨_, rfl⟩
theorem rs_brN {p q h' : Nat} {o o' : Bool} {alt : Nat} (he : p + code.getD p 0 = alt) (hz : (code.getD alt 0 == 0) = false) (hw : w ≤ 1000) :
    (mk code t start ls pc pos h' o (fBr p q o' :: fs) (w + 1) (some false) seen).step = mk code t start ls (alt + 1) q q o' (fBr alt q o' :: fs) (w + 1) none seen := by
  have e : (mk code t start ls pc pos h' o (fBr p q o' :: fs) (w + 1) (some false) seen).step = (mk code t start ls p q h' o' fs w none seen).alternative (p + code.getD p 0) {} := rfl
  rw [e, he]
  unfold Sre.M.alternative
  dsimp only
  rw [hz, if_neg Bool.false_ne_true]
  unfold Sre.M.attempt
  have : ¬ (w + 1 + 0 > 16777216) := by omega
  exact if_neg this
theorem rs_brY {p q h' : Nat} {o o' : Bool} :
    (mk code t start ls pc pos h' o (fBr p q o' :: fs) (w + 1) (some true) seen).step = mk code t start ls p q h' o' fs w (some true) seen := by
  rfl
theorem rs_stY {p q h' : Nat} {o o' : Bool} :
    (mk code t start ls pc pos h' o (fSt p q o' :: fs) (w + 1) (some true) seen).step = mk code t start ls p q h' o' fs w (some true) seen := by
  rfl
theorem rs_lnN {p q h' : Nat} {o o' : Bool} :
    (mk code t start ls pc pos h' o (fLn p q o' :: fs) (w + 1) (some false) seen).step = mk code t start ls (p + 1 + code.getD (p + 1) 0) q h' o' fs w none seen := by
  rfl
theorem rs_end {b : Bool} : (mk code t start ls pc pos handed om [] w (some b) seen).step = { mk code t start ls pc pos handed om [] w (some b) seen with outcome := some (if b then .matched else .failed) } := by
  cases b <;> rfl
theorem rs_stN {p q h' : Nat} {o o' : Bool} :
    (mk code t start ls pc pos h' o (fSt p q o' :: fs) (w + 1) (some false) seen).step =
      (if q < ls then (mk code t start ls p q h' o' fs w none seen).attemptFrom (q + 1) false else mk code t start ls p q h' o' fs w (some false) seen) := by
  rfl
end
/-- what the machine is to say -/
noncomputable def Told (r : Option (Nat × Nat)) (m : Sre.M) : Prop :=
  match r with
  | some p => m.outcome = some .matched ∧ m.start = p.1 ∧ m.handed = p.2
  | none => m.outcome = some .failed
/-- the regex for the ends of lines, tried at an end of a line -/
noncomputable def eolLen (t : Array Nat) (s : Nat) : Nat := if t.getD s 0 = 13 ∧ s + 1 < t.size ∧ t.getD (s + 1) 0 = 10 then 2 else 1
theorem eol_at (t : Array Nat) (s ls : Nat) (seen : Sre.Seen) (hs : s < t.size) (hc : isEol (t.getD s 0) = true) :
    Ends 20 (mk eolCode t s ls 10 s s true [fSt 10 s true] 1 none seen) (Told (some (s, s + eolLen t s))) := by
  refine Ends.step rfl (st_branch (by decide) rfl rfl (by omega)) ?_
  by_cases h13 : t.getD s 0 = 13
  · refine Ends.step rfl (st_litY (by decide) rfl hs h13) ?_
    by_cases h10 : s + 1 < t.size ∧ t.getD (s + 1) 0 = 10
    · have e : eolLen t s = 2 := if_pos ⟨h13, h10⟩
      refine Ends.step rfl (st_litY (by decide) rfl h10.1 h10.2) ?_
      refine Ends.step rfl (st_jump (by decide) rfl) ?_
      refine Ends.step rfl (st_success (by decide) rfl) ?_
      refine Ends.step rfl rs_brY ?_
      refine Ends.step rfl rs_stY ?_
      refine Ends.step rfl rs_end ?_
      exact Ends.done rfl ⟨rfl, rfl, by rw [e]⟩
    · have e : eolLen t s = 1 := if_neg fun q => h10 q.2
      have hn : t.size ≤ s + 1 ∨ t.getD (s + 1) 0 ≠ 10 := by
        by_cases q : s + 1 < t.size
        · exact .inr fun q' => h10 ⟨q, q'⟩
        · exact .inl (by omega)
      obtain ⟨seen1, e1⟩ := st_litN (code := eolCode) (t := t) (start := s) (ls := ls) (pc := 14) (pos := s + 1) (handed := s) (om := true) (fs := [fBr 11 s true, fSt 10 s true]) (w := 2) (seen := (seen.add 7).add 16) (by decide) rfl hn
      refine Ends.step rfl e1 ?_
      refine Ends.step rfl (rs_brN rfl rfl (by omega)) ?_
      obtain ⟨seen2, e2⟩ := st_litN (code := eolCode) (t := t) (start := s) (ls := ls) (pc := 19) (pos := s) (handed := s) (om := true) (fs := [fBr 18 s true, fSt 10 s true]) (w := 2) (seen := seen1) (by decide) rfl (.inr (by rw [h13]; decide))
      refine Ends.step rfl e2 ?_
      refine Ends.step rfl (rs_brN rfl rfl (by omega)) ?_
      refine Ends.step rfl (st_litY (by decide) rfl hs h13) ?_
      refine Ends.step rfl (st_anot (by decide) rfl rfl (by omega)) ?_
      obtain ⟨seen3, e3⟩ := st_litN (code := eolCode) (t := t) (start := s) (ls := ls) (pc := 29) (pos := s + 1) (handed := s + 1) (om := false) (fs := [fLn 26 (s + 1) true, fBr 23 s true, fSt 10 s true]) (w := 3) (seen := (seen2.add 16).add 5) (by decide) rfl hn
      refine Ends.step rfl e3 ?_
      refine Ends.step rfl rs_lnN ?_
      refine Ends.step rfl (st_jump (by decide) rfl) ?_
      refine Ends.step rfl (st_success (by decide) rfl) ?_
      refine Ends.step rfl rs_brY ?_
      refine Ends.step rfl rs_stY ?_
      refine Ends.step rfl rs_end ?_
      exact Ends.done rfl ⟨rfl, rfl, by rw [e]⟩
  · have h10 : t.getD s 0 = 10 := by
      rcases (Bool.or_eq_true _ _).mp hc with q | q
      · exact eq_of_beq q
      · exact absurd (eq_of_beq q) h13
    have e : eolLen t s = 1 := if_neg fun q => h13 q.1
    obtain ⟨seen1, e1⟩ := st_litN (code := eolCode) (t := t) (start := s) (ls := ls) (pc := 12) (pos := s) (handed := s) (om := true) (fs := [fBr 11 s true, fSt 10 s true]) (w := 2) (seen := (seen.add 7)) (by decide) rfl (.inr (by rw [h10]; decide))
    refine Ends.step rfl e1 ?_
    refine Ends.step rfl (rs_brN rfl rfl (by omega)) ?_
    refine Ends.step rfl (st_litY (by decide) rfl hs h10) ?_
    refine Ends.step rfl (st_jump (by decide) rfl) ?_
    refine Ends.step rfl (st_success (by decide) rfl) ?_
    refine Ends.step rfl rs_brY ?_
    refine Ends.step rfl rs_stY ?_
    refine Ends.step rfl rs_end ?_
    exact Ends.done rfl ⟨rfl, rfl, by rw [e]⟩
/-- the regex for the ends of lines, from a place on -/
noncomputable def findEol (t : Array Nat) (d : Nat) : Option (Nat × Nat) := (nextEol t (t.size + 1 - d) d).map fun s => (s, s + eolLen t s)
theorem nextEol_some {t : Array Nat} : ∀ {n d s : Nat}, nextEol t n d = some s → d ≤ s ∧ s < t.size ∧ isEol (t.getD s 0) = true
  | 0, _, _, h => nomatch h
  | n + 1, d, s, h => by
    unfold nextEol at h
    by_cases h1 : t.size ≤ d
    · rw [if_pos h1] at h; cases h
    · rw [if_neg h1] at h
      cases h2 : isEol (t.getD d 0)
      · rw [h2, if_neg Bool.false_ne_true] at h
        have := nextEol_some h
        exact ⟨by omega, this.2⟩
      · rw [h2, if_pos rfl] at h
        cases h
        exact ⟨Nat.le_refl _, by omega, h2⟩
theorem eol_search (t : Array Nat) (d : Nat) : Ends 30 (Sre.forSearch eolCode t 0 d t.size false) (Told (findEol t d)) := by
  unfold Sre.forSearch
  show Ends 30 (if (decide (d > t.size) || decide (t.size - d < 1)) = true then _ else _) _
  by_cases h : t.size ≤ d
  · rw [if_pos (by simp; omega)]
    have e : findEol t d = none := by
      unfold findEol
      have : nextEol t (t.size + 1 - d) d = none := by
        by_cases q : t.size + 1 - d = 0
        · rw [q]; rfl
        · obtain ⟨k, hk⟩ : ∃ k, t.size + 1 - d = k + 1 := ⟨t.size + 1 - d - 1, by omega⟩
          rw [hk]; unfold nextEol; rw [if_pos h]
      rw [this]; rfl
    rw [e]
    refine Ends.step rfl rs_end ?_
    exact Ends.done rfl rfl
  · rw [if_neg (by simp; omega)]
    show Ends 30 ((mk eolCode t d t.size 10 d d true [] 0 none (({} : Sre.Seen).add 14)).attemptFrom d true) _
    obtain ⟨seen', e⟩ := admitted_eol (m := mk eolCode t d t.size 10 d d true [] 0 none (({} : Sre.Seen).add 14)) (t := t) rfl rfl rfl (t.size + 1 - d) d (({} : Sre.Seen).add 14)
    have key : (mk eolCode t d t.size 10 d d true [] 0 none (({} : Sre.Seen).add 14)).attemptFrom d true =
        (match nextEol t (t.size + 1 - d) d with
          | none => mk eolCode t d t.size 10 d d true [] 0 (some false) seen'
          | some s => mk eolCode t s t.size 10 s s true [fSt 10 s true] 1 none seen') := by
      have hf : ∀ m : Sre.M, m.code = eolCode → m.hasFirstSet = true := by
        intro m hm
        unfold Sre.M.hasFirstSet
        rw [hm]; rfl
      unfold Sre.M.attemptFrom
      rw [hf _ rfl, if_neg (by decide), e]
      cases nextEol t (t.size + 1 - d) d <;> rfl
    rw [key]
    cases hn : nextEol t (t.size + 1 - d) d with
    | none =>
      have e' : findEol t d = none := by unfold findEol; rw [hn]; rfl
      rw [e']
      refine Ends.step rfl rs_end ?_
      exact Ends.done rfl rfl
    | some s =>
      have e' : findEol t d = some (s, s + eolLen t s) := by unfold findEol; rw [hn]; rfl
      rw [e']
      have q := nextEol_some hn
      exact Ends.mono (n := 20) (by decide) (eol_at t s t.size seen' q.2.1 q.2.2)
/-- the regex for the dots at the heads of lines -/
noncomputable def nextDot (t : Array Nat) : Nat → Nat → Option Nat
  | 0, _ => none
  | n + 1, s => if (s == 0 || t.getD (s - 1) 0 == 10) = true ∧ s < t.size ∧ t.getD s 0 = 46 then some s else nextDot t n (s + 1)
noncomputable def findDot (t : Array Nat) (d : Nat) : Option (Nat × Nat) := (nextDot t (t.size + 1 - d) d).map fun s => (s, s + 1)
theorem nextDot_some {t : Array Nat} : ∀ {n d s : Nat}, nextDot t n d = some s → d ≤ s ∧ s < t.size
  | 0, _, _, h => nomatch h
  | n + 1, d, s, h => by
    unfold nextDot at h
    split at h
    · rename_i q; cases h; exact ⟨Nat.le_refl _, q.2.1⟩
    · have := nextDot_some h
      exact ⟨by omega, this.2⟩
theorem dot_from (t : Array Nat) : ∀ (n d : Nat) (om : Bool) (seen : Sre.Seen), n = t.size + 1 - d → d ≤ t.size →
    Ends (10 * n) (mk dotCode t d t.size 5 d d om [fSt 5 d om] 1 none seen) (Told ((nextDot t n d).map fun s => (s, s + 1))) := by
  intro n
  induction n with
  | zero => intro d om seen h1 h2; omega
  | succ n ih =>
    intro d om seen h1 h2
    have fail : ∀ (pc pos h' : Nat) (o : Bool) (sn : Sre.Seen), nextDot t (n + 1) d = nextDot t n (d + 1) →
        Ends (10 * n + 5) (mk dotCode t d t.size pc pos h' o [fSt 5 d om] 1 (some false) sn) (Told ((nextDot t (n + 1) d).map fun s => (s, s + 1))) := by
      intro pc pos h' o sn e
      rw [e]
      refine Ends.step rfl rs_stN ?_
      by_cases hd : d < t.size
      · rw [if_pos hd]
        exact Ends.mono (by omega) (ih (d + 1) false sn (by omega) (by omega))
      · rw [if_neg hd]
        have hn : n = 0 := by omega
        subst hn
        refine Ends.step rfl rs_end ?_
        exact Ends.done rfl rfl
    refine Ends.mono (n := 10 * n + 5 + 1 + 1) (by omega) ?_
    cases hb : (d == 0 || t.getD (d - 1) 0 == 10)
    · obtain ⟨seen', e⟩ := st_at (code := dotCode) (t := t) (start := d) (ls := t.size) (pc := 5) (pos := d) (handed := d) (om := om) (fs := [fSt 5 d om]) (w := 1) (seen := seen) (by decide) rfl rfl hb
      refine Ends.step rfl e ?_
      refine Ends.mono (Nat.le_succ _) (fail _ _ _ _ _ ?_)
      conv => lhs; unfold nextDot
      rw [hb, if_neg (fun q => Bool.false_ne_true q.1)]
    · obtain ⟨seen', e⟩ := st_at (code := dotCode) (t := t) (start := d) (ls := t.size) (pc := 5) (pos := d) (handed := d) (om := om) (fs := [fSt 5 d om]) (w := 1) (seen := seen) (by decide) rfl rfl hb
      refine Ends.step rfl e ?_
      by_cases hc : d < t.size ∧ t.getD d 0 = 46
      · have e2 : nextDot t (n + 1) d = some d := by unfold nextDot; exact if_pos ⟨hb, hc⟩
        rw [e2]
        refine Ends.step rfl (st_litY (by decide) rfl hc.1 hc.2) ?_
        refine Ends.mono (n := 4) (by omega) ?_
        refine Ends.step rfl (st_success (by decide) rfl) ?_
        refine Ends.step rfl rs_stY ?_
        refine Ends.step rfl rs_end ?_
        exact Ends.done rfl ⟨rfl, rfl, rfl⟩
      · obtain ⟨seen2, e2⟩ := st_litN (code := dotCode) (t := t) (start := d) (ls := t.size) (pc := 7) (pos := d) (handed := d) (om := om) (fs := [fSt 5 d om]) (w := 1) (seen := seen') (by decide) rfl (by
          by_cases q : d < t.size
          · exact .inr fun q' => hc ⟨q, q'⟩
          · exact .inl (by omega))
        refine Ends.step rfl e2 ?_
        refine fail _ _ _ _ _ ?_
        conv => lhs; unfold nextDot
        exact if_neg fun q => hc q.2
theorem dot_search (t : Array Nat) (d : Nat) (hd : d ≤ t.size) : Ends (10 * (t.size + 2)) (Sre.forSearch dotCode t 0 d t.size false) (Told (findDot t d)) := by
  unfold Sre.forSearch
  show Ends _ (if (decide (d > t.size) || decide (t.size - d < 1)) = true then _ else _) _
  by_cases h : t.size ≤ d
  · rw [if_pos (by simp; omega)]
    have hh : d = t.size := by omega
    subst hh
    have e : findDot t t.size = none := by
      unfold findDot
      have : t.size + 1 - t.size = 0 + 1 := by omega
      rw [this]
      unfold nextDot
      rw [if_neg (fun q => Nat.lt_irrefl _ q.2.1)]
      rfl
    rw [e]
    refine Ends.step rfl rs_end ?_
    exact Ends.done rfl rfl
  · rw [if_neg (by simp; omega)]
    exact Ends.mono (by omega) (dot_from t (t.size + 1 - d) d true (({} : Sre.Seen).add 14) rfl hd)
end Mine
/- part Rsub -/
namespace Mine
open PySem.Builtin PySem.Builtin.Re
theorem plain_sub_loop : plainId "re.Pattern.sub.loop" = true := by decide +kernel
theorem entry_sub_loop : entryFor table "re.Pattern.sub.loop" = some Builtin.«re.Pattern.sub.loop» := entryFor_of_fast (by kernel_rfl)
theorem plain_sub : plainId "re.Pattern.sub" = true := by decide +kernel
theorem entry_sub : entryFor table "re.Pattern.sub" = some Builtin.«re.Pattern.sub» := entryFor_of_fast (by kernel_rfl)
theorem plainAttrs_pat : PlainAttrs "re.Pattern" :=
  ⟨⟨"object.__getattribute__", by rw [typeLookup_type, builtinLookup_eq_fast]; kernel_rfl, by decide +kernel⟩, by rw [typeLookup_type, builtinLookup_eq_fast]; kernel_rfl⟩
theorem slot_sub : Slot "re.Pattern" "sub" "re.Pattern.sub" :=
  .of (owner := "re.Pattern") (n := "sub") (by rw [typeLookup_type, builtinLookup_eq_fast]; kernel_rfl) (by decide +kernel) (by decide +kernel) (by decide +kernel)
    (by first | exact .inl (by decide +kernel) | exact .inr (by decide +kernel)) (by rw [isSubtype_type]; kernel_rfl)
theorem type_sub : typeOf (.builtin "re.Pattern.sub") = pure (.type "method_descriptor") := by show builtinType _ = _; rw [builtinType_eq_fast]; kernel_rfl
theorem owner_pat : Manifest.owners.lookup (String.ofList ['n', 'r', 'e', 't', 't', 'a', 'P', '.', 'e', 'r'].reverse) = some Manifest.sig_re_Pattern := by kernel_rfl
theorem args_sub_3 (a b c : Value) : argsOk "re.Pattern.sub" ⟨[a, b, c], []⟩ := by
  unfold argsOk; rw [signature?_of (id := "re.Pattern.sub") (n := ['b', 'u', 's']) (o := ['n', 'r', 'e', 't', 't', 'a', 'P', '.', 'e', 'r']) (by kernel_rfl) owner_pat]; kernel_rfl
theorem runFor_add (m : Sre.M) : ∀ a b, Sre.M.runFor (a + b) m = Sre.M.runFor b (Sre.M.runFor a m) := by
  intro a
  induction a generalizing m with
  | zero => intro b; rw [Nat.zero_add]; rfl
  | succ a ih =>
    intro b
    rw [show a + 1 + b = (a + b) + 1 by omega]
    show (if m.outcome.isSome = true then m else Sre.M.runFor (a + b) m.step) = Sre.M.runFor b (if m.outcome.isSome = true then m else Sre.M.runFor a m.step)
    by_cases h : m.outcome.isSome = true
    · rw [if_pos h, if_pos h]
      cases b with
      | zero => rfl
      | succ b => exact (if_pos h).symm
    · rw [if_neg h, if_neg h]
      exact ih _ _
theorem runFor_stop {m : Sre.M} (h : m.outcome.isSome = true) (n : Nat) : Sre.M.runFor n m = m := by
  cases n with
  | zero => rfl
  | succ n => exact if_pos h
section
variable {M : Model} {A : Around} {E : Value → Shared → Prop} {s : Shared}
theorem drive {P : Sre.M → Prop} {Q : Sre.M → Shared → Prop} : ∀ (T : Nat) (n : Nat) (m : Sre.M), Ends n m P → n ≤ 4 * T → 1 ≤ T → (∀ m', m'.outcome.isSome = true → P m' → Q m' s) → wpAny M A (reDrive T m) Q E s := by
  intro T
  induction T with
  | zero => intro n m _ _ h; omega
  | succ T ih =>
    intro n m e hn h1 q
    obtain ⟨k, hk, ho, hp⟩ := e
    unfold reDrive
    show wpAny M A (if (Sre.M.runFor 4 m).outcome.isSome = true then pure (Sre.M.runFor 4 m) else (do rule "sre.turn"; reDrive T (Sre.M.runFor 4 m))) Q E s
    by_cases h : (Sre.M.runFor 4 m).outcome.isSome = true
    · rw [if_pos h]
      have e : Sre.M.runFor 4 m = Sre.M.runFor k m := by
        by_cases h4 : k ≤ 4
        · rw [show 4 = k + (4 - k) by omega, runFor_add, runFor_stop ho]
        · rw [show k = 4 + (k - 4) by omega, runFor_add m 4, runFor_stop h]
      refine wpAny_pure (q _ h ?_)
      rw [e]; exact hp
    · rw [if_neg h]
      refine wpAny_bind (wpAny_rule ?_)
      have h4 : 4 < k := by
        by_cases h4 : k ≤ 4
        · exfalso
          apply h
          rw [show 4 = k + (4 - k) by omega, runFor_add, runFor_stop ho]
          exact ho
        · omega
      have ek : Sre.M.runFor k m = Sre.M.runFor (k - 4) (Sre.M.runFor 4 m) := by
        conv => lhs; rw [show k = 4 + (k - 4) by omega, runFor_add m 4]
      refine ih (k - 4) _ ⟨k - 4, Nat.le_refl _, ?_, ?_⟩ (by omega) (by omega) q
      · rw [← ek]; exact ho
      · rw [← ek]; exact hp
theorem runToEnd {r : Option (Nat × Nat)} {n : Nat} {m : Sre.M} {Q : Option Sre.M → Shared → Prop} (e : Ends n m (Told r)) (hn : n ≤ 2 ^ 66)
    (h : ∀ x, (match r with | some p => ∃ m', x = some m' ∧ m'.start = p.1 ∧ m'.handed = p.2 | none => x = none) → Q x s) : wpAny M A (reRunToEnd m) Q E s := by
  unfold reRunToEnd
  refine wpAny_bind (drive (2 ^ 64) n m e (by rw [show (2:Nat) ^ 66 = 4 * 2 ^ 64 by decide] at hn; exact hn) (by decide) fun m' ho hp => ?_)
  refine wpAny_bind ?_
  refine wpAny_forIn_list (fun (i : Nat) (b : PUnit) => _) (fun _ _ s' => s' = s) _ ?_ ?_ (List.range Sre.names.size) PUnit.unit rfl
  · rintro i rest b s' rfl
    split
    · exact wpAny_bind (wpAny_rule (wpAny_pure rfl))
    · exact wpAny_pure rfl
  · rintro b s' rfl
    cases r with
    | some p =>
      obtain ⟨h1, h2, h3⟩ := hp
      rw [h1]
      exact wpAny_pure (h _ ⟨m', rfl, h2, h3⟩)
    | none =>
      have h1 : m'.outcome = some .failed := hp
      rw [h1]
      exact wpAny_pure (h _ rfl)
end
end Mine
/- part Rsub2 -/
namespace Mine
open PySem.Builtin PySem.Builtin.Re
noncomputable abbrev patObj (a b : Value) (c : Addr) : Obj := { cls := .type "re.Pattern", dict := none, data := .fields #[a, b, .int 0 0, .none, .none, .ref c, .int 0 0], slots := #[] }
noncomputable abbrev tupObj (cv : Array Value) : Obj := { cls := .type "tuple", dict := none, data := .seq cv, slots := #[] }
noncomputable def subN (t : Array Nat) (find : Array Nat → Nat → Option (Nat × Nat)) (repl : List Nat) : Nat → Nat → List Nat
  | 0, d => (t.extract d t.size).toList
  | n + 1, d => match find t d with
    | none => (t.extract d t.size).toList
    | some p => (t.extract d p.1).toList ++ repl ++ subN t find repl n p.2
section
variable {M : Model} {A : Around} {E : Value → Shared → Prop} {s : Shared}
theorem whole {p c : Addr} {a b : Value} {cv : Array Value} {code : Array Nat} {x : Str} {t : Tok} {Q : ReTarget → Shared → Prop}
    (hp : s.heap.get? p = some (patObj a b c)) (hc : s.heap.get? c = some (tupObj cv)) (hcode : (cv.map reRawOf).map (·.toNat) = code)
    (h : Q { pattern := .ref p, string := .str x t, code, text := x.cps, kind := 0, groups := 0, pos := 0, lim := x.cps.size } s) :
    wpAny M A (reWholeTarget (.ref p) (.str x t)) Q E s := by
  subst hcode
  unfold reWholeTarget
  unfold fieldsOf
  refine wpAny_bind ?_
  refine wpAny_bind (wpAny_load hp ?_)
  refine wpAny_pure ?_
  refine wpAny_bind ?_
  unfold reTextOf
  refine wpAny_bind (wpAny_pure ?_)
  refine wpAny_pure ?_
  show wpAny M A (do
    reNoCollectionInside (.str x t) 0
    let l ← reRawItems (.ref c)
    pure { pattern := .ref p, string := .str x t, code := l.map (·.toNat), text := x.cps, kind := 0, groups := 0, pos := 0, lim := x.cps.size }) Q E s
  refine wpAny_bind ?_
  unfold reNoCollectionInside
  refine wpAny_pure ?_
  unfold reRawItems
  refine wpAny_bind (wpAny_bind (wpAny_seqItems hc rfl ?_))
  exact wpAny_pure (wpAny_pure h)
end
section
variable {M : Model} {A : Around} {E : Value → Shared → Prop} {s : Shared}
theorem pushL {h0 : Heap} {D : Addr} {its : Array Value} {k : Nat} {v : Value} {Q : Unit → Shared → Prop} (hD0 : h0.get? D = none) (G : Grows h0 s.heap) (hD : s.heap.get? D = some (W.listOf its k)) (hz : its.size ≤ 100000)
    (kq : ∀ h', Grows h0 h' → h'.get? D = some (W.listOf (its.push v) (k + 1)) → Q () { s with heap := h' }) : wpAny M A (updateSeq D (·.push v)) Q E s := by
  refine wpAny_updateSeq hD rfl (kq _ (fun b o e => ?_) ?_) (by rw [sizeLine_eq]; omega) (by show (its.push v).size ≤ _; rw [Array.size_push, sizeLine_eq]; omega)
  · have hb : b ≠ D := by rintro rfl; rw [hD0] at e; cases e
    exact (Heap.get?_update_other _ _ (Ne.symm hb)).trans (G b o e)
  · rw [Heap.get?_update_self _ hD rfl]
    congr 1
    show Obj.mapSeq (·.push v) (W.listOf its k) = _
    simp [Obj.mapSeq, W.listOf]
theorem strs_push {its : Array Value} {ys : List Str} {y : Str} {t : Tok} (h : StrsAre its.toList ys) : StrsAre (its.push (.str y t)).toList (ys ++ [y]) := by
  rw [Array.toList_push]
  exact strsAre_snoc h
theorem wpSlice {x : Array Nat} {a b : Nat} {Q : Value → Shared → Prop} (hx : x.size ≤ 1000) (h : ∀ t' k, Q (.str ⟨x.extract a b⟩ t') { s with toks := k }) : wpAny M A (reSlice x 0 a b) Q E s := by
  unfold reSlice
  refine wpAny_mkStr (h _ _) ?_
  show (x.extract a b).size ≤ _
  rw [Array.size_extract, sizeLine_eq]
  omega
end
theorem flat_snoc (ys : List Str) (y : Str) : ((ys ++ [y]).map (·.cps.toList)).flatten = (ys.map (·.cps.toList)).flatten ++ y.cps.toList := by simp
theorem sum_snoc (ys : List Str) (y : Str) : ((ys ++ [y]).map (·.length)).sum = (ys.map (·.length)).sum + y.length := by simp
theorem str_join_nil : ∀ (ys : List Str), Str.join ⟨#[]⟩ ys = ⟨((ys.map (·.cps.toList)).flatten).toArray⟩
  | [] => rfl
  | [x] => by
    show x = _
    obtain ⟨x⟩ := x
    simp
  | x :: y :: r => by
    show Str.mk ((x.cps ++ #[]) ++ (Str.join ⟨#[]⟩ (y :: r)).cps) = _
    rw [str_join_nil (y :: r)]
    obtain ⟨x⟩ := x
    simp
theorem join_nil (ys : List Str) : Txt.join ⟨#[]⟩ ys = ⟨((ys.map (·.cps.toList)).flatten).toArray⟩ := by
  show PySem.Builtin.Str.glued _ ys = _
  rw [StrLaws.glued_eq_join]
  exact str_join_nil ys
section
variable {prog : Program} {w : World} {A : Around} {R : Result → Shared → Prop}
theorem subLoop {h0 : Heap} {p c D : Addr} {pa pb : Value} {cv : Array Value} {code : Array Nat} {x : Str} {t : Tok} {repl : Str} {u : Tok} {find : Array Nat → Nat → Option (Nat × Nat)} {s₁ : Shared}
    (hp : h0.get? p = some (patObj pa pb c)) (hc : h0.get? c = some (tupObj cv)) (hcode : (cv.map reRawOf).map (·.toNat) = code)
    (hm : ∀ d, d ≤ x.cps.size → Ends (2 ^ 60) (Sre.forSearch code x.cps 0 d x.cps.size false) (Told (find x.cps d)))
    (hf : ∀ d q, d ≤ x.cps.size → find x.cps d = some q → d ≤ q.1 ∧ q.1 < q.2 ∧ q.2 ≤ x.cps.size)
    (hx : x.cps.size ≤ 1000) (hrl : repl.cps.size ≤ 10) (hD : h0.get? D = none) :
    ∀ (n d : Nat) (h : Heap) (tk : Nat) (its : Array Value) (k : Nat) (ys : List Str) (cnt : Int), d ≤ x.cps.size → x.cps.size + 1 - d ≤ n → Grows h0 h →
      h.get? D = some (W.listOf its k) → StrsAre its.toList ys → its.size ≤ 2 * d → (ys.map (·.length)).sum ≤ 1000 * (2 * d) →
      (∀ t' h' tk', Grows h0 h' → R (.ok (.ret (.str ⟨((ys.map (·.cps.toList)).flatten ++ subN x.cps find repl.cps.toList n d).toArray⟩ t'))) { s₁ with heap := h', toks := tk' }) →
      codeAny (model prog w) A (.builtin "re.Pattern.sub.loop" ⟨[.ref p, .str x t, .str repl u, rawInt 0, rawInt 0, rawInt cnt, rawInt d, rawInt d, .bool false, .ref D, .bool false], []⟩) R { s₁ with heap := h, toks := tk } := by
  intro n
  induction n with
  | zero => intro d h tk its k ys cnt h1 h2; omega
  | succ n ih =>
    intro d h tk its k ys cnt hd hn G hD' hi hz hzz kq
    refine codeAny_builtin entry_sub_loop ?_
    rw [Around.under_plainId plain_sub_loop _]
    unfold Builtin.«re.Pattern.sub.loop»
    dsimp only
    refine wpAny_bind (whole (G _ _ hp) (G _ _ hc) hcode ?_)
    rw [if_pos (by decide)]
    refine wpAny_bind ?_
    unfold reLiteralCannotBeTurned
    refine wpAny_bind (wpAny_pure ?_)
    refine wpAny_pure ?_
    dsimp only
    rw [if_neg (by simp)]
    refine wpAny_bind ?_
    unfold reNextFound
    rw [Int.toNat_natCast]
    refine runToEnd (hm d hd) (by decide) fun r hr => ?_
    cases hfd : find x.cps d with
    | some q =>
      rw [hfd] at hr
      obtain ⟨m', rfl, ha, hb⟩ := hr
      dsimp only
      obtain ⟨f1, f2, f3⟩ := hf d q hd hfd
      have hfalse : (m'.handed == m'.start) = false := by rw [ha, hb]; exact beq_false_of_ne (by omega)
      rw [ha, hb, hfalse] at *
      have tail : ∀ (h : Heap) (tk : Nat) (its : Array Value) (k : Nat) (ys' : List Str), Grows h0 h →
        h.get? D = some (W.listOf its k) → StrsAre its.toList ys' → its.size ≤ 2 * d + 1 → (ys'.map (·.length)).sum ≤ 1000 * (2 * d + 1) → (ys'.map (·.cps.toList)).flatten = (ys.map (·.cps.toList)).flatten ++ (x.cps.extract d q.1).toList →
        wpAny (model prog w) A.in1 (do
          let item ← pure (Value.str repl u)
          if (item != Value.none) = true then do
            updateSeq D fun x => x.push item
            again (Code.builtin "re.Pattern.sub.loop" ⟨[Value.ref p, Value.str x t, Value.str repl u, rawInt 0, rawInt 0, rawInt (cnt + 1), rawInt q.2, rawInt q.2, Value.bool false, Value.ref D, Value.bool false], []⟩)
          else again (Code.builtin "re.Pattern.sub.loop" ⟨[Value.ref p, Value.str x t, Value.str repl u, rawInt 0, rawInt 0, rawInt (cnt + 1), rawInt q.2, rawInt q.2, Value.bool false, Value.ref D, Value.bool false], []⟩))
          (fun fin s' => match fin with | .done f => R (.ok f) s' | .again c' => c'.quiet = true ∧ codeAny (model prog w) A c' R s') (fun e s' => R (.error e) s') { s₁ with heap := h, toks := tk } := by
        intro h tk its k ys' G hD' hi hz hzz hcat
        refine wpAny_bind (wpAny_pure ?_)
        rw [if_pos (by rfl)]
        refine wpAny_bind (pushL hD G hD' (by omega) fun h' G' hD'' => ?_)
        refine wpAny_pure ⟨plainId_quiet plain_sub_loop _, ?_⟩
        refine ih q.2 h' tk _ _ (ys' ++ [repl]) (cnt + 1) f3 (by omega) G' hD'' (strs_push hi) (by rw [Array.size_push]; omega) (by rw [sum_snoc]; show _ + repl.cps.size ≤ _; omega) ?_
        intro t' h2 tk2 G2
        have := kq t' h2 tk2 G2
        rw [subN, hfd] at this
        rw [flat_snoc, hcat]
        simpa [List.append_assoc] using this
      by_cases hlt : d < q.1
      · rw [if_pos hlt]
        refine wpAny_bind (wpSlice hx fun t' k' => ?_)
        refine wpAny_bind (pushL hD G hD' (by omega) fun h' G' hD'' => ?_)
        refine tail h' _ _ _ (ys ++ [⟨x.cps.extract d q.1⟩]) G' hD'' (strs_push hi) (by rw [Array.size_push]; omega) (by
          rw [sum_snoc]
          show _ + (x.cps.extract d q.1).size ≤ _
          rw [Array.size_extract]; omega) (flat_snoc _ _)
      · rw [if_neg hlt]
        refine tail h _ _ _ ys G hD' hi (by omega) (by omega) ?_
        have : (x.cps.extract d q.1).toList = [] := by
          apply List.eq_nil_of_length_eq_zero
          rw [Array.length_toList, Array.size_extract]; omega
        rw [this, List.append_nil]
    | none =>
      rw [hfd] at hr
      have hr : r = none := hr
      subst hr
      dsimp only
      have tail : ∀ (h : Heap) (tk : Nat) (its : Array Value) (k : Nat) (ys' : List Str), Grows h0 h →
        h.get? D = some (W.listOf its k) → StrsAre its.toList ys' → its.size ≤ 2 * d + 1 → (ys'.map (·.length)).sum ≤ 1000 * (2 * d + 1) → (ys'.map (·.cps.toList)).flatten = (ys.map (·.cps.toList)).flatten ++ (x.cps.extract d x.cps.size).toList →
        wpAny (model prog w) A.in1 (do
          let joiner ← reSlice x.cps 0 0 0
          let text ← if ((← seqItems? (.ref D)).getD #[]).isEmpty then pure joiner else call (.builtin "str.join") [joiner, .ref D]
          if false = true then ret (← holding [text] do newTuple [text, ← mkInt cnt]) else ret text)
          (fun fin s' => match fin with | .done f => R (.ok f) s' | .again c' => c'.quiet = true ∧ codeAny (model prog w) A c' R s') (fun e s' => R (.error e) s') { s₁ with heap := h, toks := tk } := by
        intro h tk its k ys' G hD' hi hz hzz hcat
        have done : ∀ t' h' tk', Grows h0 h' → R (.ok (.ret (.str ⟨((ys'.map (·.cps.toList)).flatten).toArray⟩ t'))) { s₁ with heap := h', toks := tk' } := by
          intro t' h' tk' g
          have := kq t' h' tk' g
          rw [subN, hfd] at this
          rw [hcat]; exact this
        refine wpAny_bind (wpSlice hx fun t' k' => ?_)
        have he : x.cps.extract 0 0 = #[] := by simp
        rw [he]
        refine wpAny_bind (wpAny_seqItems hD' rfl ?_)
        dsimp only
        by_cases hz0 : its.isEmpty = true
        · refine wpAny_ite ?_
          rw [if_pos (show ((some its).getD #[]).isEmpty = true from hz0)]
          refine wpAny_bind (wpAny_pure ?_)
          have h0' : ys' = [] := by
            have q := hi.length
            have : its.size = 0 := by simpa using hz0
            apply List.eq_nil_of_length_eq_zero
            rw [← q, Array.length_toList, this]
          have := done t' h k' G
          rw [h0'] at this
          exact wpAny_pure this
        · refine wpAny_ite ?_
          rw [if_neg (show ¬ ((some its).getD #[]).isEmpty = true from hz0)]
          refine wpAny_bind (join_list ⟨_, hD', rfl, _, rfl⟩ hi (by show _ + _ * 0 ≤ _; omega) fun t2 k2 => ?_)
          rw [join_nil]
          exact wpAny_pure (done t2 h k2 G)
      by_cases hlt : d < x.cps.size
      · rw [if_pos hlt]
        refine wpAny_bind (wpSlice hx fun t' k' => ?_)
        refine wpAny_bind (pushL hD G hD' (by omega) fun h' G' hD'' => ?_)
        refine tail h' _ _ _ (ys ++ [⟨x.cps.extract d x.cps.size⟩]) G' hD'' (strs_push hi) (by rw [Array.size_push]; omega) (by
          rw [sum_snoc]
          show _ + (x.cps.extract d x.cps.size).size ≤ _
          rw [Array.size_extract]; omega) (flat_snoc _ _)
      · rw [if_neg hlt]
        refine tail h _ _ _ ys G hD' hi (by omega) (by omega) ?_
        have : (x.cps.extract d x.cps.size).toList = [] := by
          apply List.eq_nil_of_length_eq_zero
          rw [Array.length_toList, Array.size_extract]; omega
        rw [this, List.append_nil]
end
end Mine
/- part Rsub3 -/
namespace Mine
open PySem.Builtin PySem.Builtin.Re
theorem no_call_str : typeLookup (.type "str") "__call__" = pure none := by rw [typeLookup_type, builtinLookup_eq_fast]; kernel_rfl
theorem named3 (a b : Value) : reNamed "re.Pattern.sub" "sub" ["repl", "string", "count"] 2 [a, b] [] = pure [some a, some b, none] := by rfl
/-- what the substitution makes of a text -/
noncomputable def subst (find : Array Nat → Nat → Option (Nat × Nat)) (repl : List Nat) (t : Array Nat) : List Nat := subN t find repl (t.size + 1) 0
section
variable {prog : Program} {w : World} {A : Around} {E : Value → Shared → Prop} {s : Shared}
theorem c_resub {p c : Addr} {pa pb : Value} {cv : Array Value} {code : Array Nat} {x : Str} {t : Tok} {repl : Str} {u : Tok} {find : Array Nat → Nat → Option (Nat × Nat)} {Q : Value → Shared → Prop}
    (hp : s.heap.get? p = some (patObj pa pb c)) (hc : s.heap.get? c = some (tupObj cv)) (hcode : (cv.map reRawOf).map (·.toNat) = code)
    (hm : ∀ d, d ≤ x.cps.size → Ends (2 ^ 60) (Sre.forSearch code x.cps 0 d x.cps.size false) (Told (find x.cps d)))
    (hf : ∀ d q, d ≤ x.cps.size → find x.cps d = some q → d ≤ q.1 ∧ q.1 < q.2 ∧ q.2 ≤ x.cps.size)
    (hx : x.cps.size ≤ 1000) (hrl : repl.cps.size ≤ 10) (h92 : repl.cps.contains 92 = false)
    (kq : ∀ t' h' tk', Grows s.heap h' → Q (.str ⟨(subst find repl.cps.toList x.cps).toArray⟩ t') { s with heap := h', toks := tk' }) :
    wpAny (model prog w) A (call (.builtin "re.Pattern.sub") [.ref p, .str repl u, .str x t]) Q E s := by
  refine wpAny_call (codeAny_call_builtin slot_sub.plain entry_sub (slot_sub.check _ _ _ _ _ _ _ _ ⟨_, hp, rfl⟩ (args_sub_3 _ _ _) ?_))
  unfold Builtin.«re.Pattern.sub» reSubstitute
  dsimp only
  rw [named3]
  refine wpAny_bind (wpAny_pure ?_)
  dsimp only
  refine wpAny_bind (wpAny_pure ?_)
  refine wpAny_bind (wpAny_specialOf (typeIs_str _ _ _) no_call_str ?_)
  rw [if_neg (by decide)]
  refine wpAny_bind (wpAny_pure ?_)
  dsimp only
  rw [h92]
  refine wpAny_bind (wpAny_pure ?_)
  rw [if_neg (by decide), if_pos (by decide)]
  refine wpAny_bind (wpAny_pure ?_)
  dsimp only
  refine wpAny_bind (wpAny_holding (whole hp hc hcode ?_))
  rw [if_neg (by decide)]
  refine wpAny_bind (wpAny_newList ?_)
  refine wpAny_pure ⟨plainId_quiet plain_sub_loop _, ?_⟩
  have hD : s.heap.get? s.heap.objs.size = none := by
    cases e : s.heap.get? s.heap.objs.size with
    | none => rfl
    | some o => exact absurd (Heap.lt_size e) (Nat.lt_irrefl _)
  refine subLoop (h0 := s.heap) hp hc hcode hm hf hx hrl hD (x.cps.size + 1) 0 _ _ #[] 0 [] 0 (Nat.zero_le _) (by omega) ?_ ?_ StrsAre.nil (by simp) (by simp) ?_
  · exact fun b o e => Heap.get?_push_of_some _ e
  · exact Heap.get?_push_size _ rfl
  · intro t' h' tk' g
    exact kq t' h' tk' g
end
end Mine
/- part Fix -/
namespace Mine
local macro_rules | `(tactic| walk_at "my:steps") => `(tactic| repeat' (first | (k_unfold; (try dsimp only)) | walk1 | (dsimp only; walk1)))
local macro_rules | `(tactic| walk_at "getMethod ref") => `(tactic| refine hold ?_)
local macro_rules | `(tactic| walk_at "call builtin:re.Pattern.sub") => `(tactic| refine hold ?_)
theorem patE {h : Heap} {p : Params} (X : (hd.heap_39 p).In h) : ∃ a b cv, h.get? 73 = some (patObj a b 72) ∧ h.get? 72 = some (tupObj cv) ∧ (cv.map PySem.Builtin.Re.reRawOf).map (·.toNat) = eolCode :=
  ⟨.str (Str.ofString "(?:\\r\\n|\\n|\\r(?!\\n))") 353, .int 32 392, #[.int 14 0, .int 9 0, .int 4 0, .int 1 0, .int 2 0, .int 16 0, .int 10 0, .int 16 0, .int 13 0, .int 0 0, .int 7 0, .int 7 0, .int 16 0, .int 13 0, .int 16 0, .int 10 0, .int 15 0, .int 18 0, .int 5 0, .int 16 0, .int 10 0, .int 15 0, .int 13 0, .int 11 0, .int 16 0, .int 13 0, .int 5 0, .int 5 0, .int 0 0, .int 16 0, .int 10 0, .int 1 0, .int 15 0, .int 2 0, .int 0 0, .int 1 0], X 73 _ (by with_unfolding_all rfl), X 72 _ (by with_unfolding_all rfl), by decide +kernel⟩
theorem patD {h : Heap} {p : Params} (X : (hd.heap_39 p).In h) : ∃ a b cv, h.get? 68 = some (patObj a b 67) ∧ h.get? 67 = some (tupObj cv) ∧ (cv.map PySem.Builtin.Re.reRawOf).map (·.toNat) = dotCode :=
  ⟨.str (Str.ofString "(?m)^\\.") 337, .int 40 350, #[.int 14 0, .int 4 0, .int 0 0, .int 1 0, .int 1 0, .int 6 0, .int 1 0, .int 16 0, .int 46 0, .int 1 0], X 68 _ (by with_unfolding_all rfl), X 67 _ (by with_unfolding_all rfl), by decide +kernel⟩
theorem eol_f {t : Array Nat} {d : Nat} {q : Nat × Nat} (h : findEol t d = some q) : d ≤ q.1 ∧ q.1 < q.2 ∧ q.2 ≤ t.size := by
  unfold findEol at h
  cases e : nextEol t (t.size + 1 - d) d with
  | none => rw [e] at h; cases h
  | some s =>
    rw [e] at h; cases h
    have := nextEol_some e
    refine ⟨this.1, ?_, ?_⟩
    · show s < s + eolLen t s; unfold eolLen; split <;> omega
    · show s + eolLen t s ≤ t.size
      unfold eolLen; split
      · omega
      · omega
theorem dot_f {t : Array Nat} {d : Nat} {q : Nat × Nat} (h : findDot t d = some q) : d ≤ q.1 ∧ q.1 < q.2 ∧ q.2 ≤ t.size := by
  unfold findDot at h
  cases e : nextDot t (t.size + 1 - d) d with
  | none => rw [e] at h; cases h
  | some s =>
    rw [e] at h; cases h
    have := nextDot_some e
    exact ⟨this.1, Nat.lt_succ_self s, this.2⟩
noncomputable def eolT (t : Array Nat) : Array Nat := (subst findEol [13, 10] t).toArray
noncomputable def dotT (t : Array Nat) : Array Nat := (subst findDot [46, 46] t).toArray
section
variable {prog : Program} {w : World} {A : Around} {E : Value → Shared → Prop} {s : Shared} {Q : Value → Shared → Prop}
theorem c_subE {p : Params} (X : (hd.heap_39 p).In s.heap) {x : Str} {t u : Tok} (hx : x.cps.size ≤ 1000)
    (kq : ∀ t' h' tk', Grows s.heap h' → Q (.str ⟨eolT x.cps⟩ t') { s with heap := h', toks := tk' }) :
    wpAny (model prog w) A (call (.builtin "re.Pattern.sub") [.ref 73, .str (Str.ofString "\r\n") u, .str x t]) Q E s := by
  obtain ⟨a, b, cv, h1, h2, h3⟩ := patE X
  exact c_resub (find := findEol) h1 h2 h3 (fun d _ => Ends.mono (by decide) (eol_search x.cps d)) (fun d q _ h => eol_f h) hx (by decide +kernel) (by decide +kernel) kq
theorem c_subD {p : Params} (X : (hd.heap_39 p).In s.heap) {x : Str} {t u : Tok} (hx : x.cps.size ≤ 1000)
    (kq : ∀ t' h' tk', Grows s.heap h' → Q (.str ⟨dotT x.cps⟩ t') { s with heap := h', toks := tk' }) :
    wpAny (model prog w) A (call (.builtin "re.Pattern.sub") [.ref 68, .str (Str.ofString "..") u, .str x t]) Q E s := by
  obtain ⟨a, b, cv, h1, h2, h3⟩ := patD X
  exact c_resub (find := findDot) h1 h2 h3 (fun d hd => Ends.mono (by rw [show (2:Nat)^60 = 1152921504606846976 by decide]; omega) (dot_search x.cps d hd)) (fun d q _ h => dot_f h) hx (by decide +kernel) (by decide +kernel) kq
theorem gm_sub {p : Addr} {a b : Value} {c : Addr} {pl : Sem Bool} {Q : Value × List Value → Shared → Prop} (hp : s.heap.get? p = some (patObj a b c)) (h : Q (.builtin "re.Pattern.sub", [.ref p]) s) :
    wpAny (model prog w) A (getMethod (.ref p) (Str.ofString "sub") pl) Q E s :=
  getMethod_builtin ⟨_, hp, rfl⟩ plainAttrs_pat slot_sub type_sub (fun a e => by cases e; exact ⟨_, hp, rfl⟩) h
end
set_option maxRecDepth 100000 in
set_option maxHeartbeats 8000000 in
theorem c_fix {w : World} {dp un : Nat} {fr : Option (List Env)} {gd : Option (List Code)} {s : Shared} {p : Program} {loose : List Str} {mean : ExcName → Option Value} {mg mb : Str → Option Value} {Q E : Value → Shared → Prop}
    (X : (hd.heap_39 w.params).In s.heap) (T : Top p loose mean mg mb s.heap) (hroom : dp + 4 < recursionLimit) (_hu : un + 80 < cLine)
    (x : Str) (t : Tok) (hx : x.cps.size ≤ 1000)
    (ret : ∀ t' h' tk', Grows s.heap h' → Q (.str ⟨eolT x.cps⟩ t') { s with heap := h', toks := tk' }) :
    wpAny (model Challenge.rw_rw0101_01.row.prog w) (Am dp un fr gd) (call (.ref 87) [.str x t]) Q E s := by
  w_top off; revert X; k_fill; intro X
  refine wpAny_call ?_
  refine enterP (f := 87) (binds := [(Str.ofString "data", .str x t)]) X T.nolimit (by k_is) (by k_is) (by show dp < _; omega) (BindsTo.of_eq rfl) (locs rfl) ?_ rfl rfl rfl (by decide)
  intro L' h₁ eL F
  have N : News s.heap L' h₁ [] := News.nil
  walk_at "my:steps"
  refine ⟨?_⟩
  rename Fr _ _ _ _ => F1
  obtain ⟨a, b, cv, h1, h2, h3⟩ := patE (X.keeps F1.keep)
  refine gm_sub h1 ?_
  walk_at "my:steps"
  refine ⟨?_⟩
  refine c_subE (X.keeps F1.keep) hx fun t' h' tk' g => ?_
  dsimp only at g
  have F2 := F1.keeps g
  walk_at "my:steps"
  exact ret _ _ _ F2.keep
set_option maxRecDepth 100000 in
set_option maxHeartbeats 8000000 in
theorem c_quote {w : World} {dp un : Nat} {fr : Option (List Env)} {gd : Option (List Code)} {s : Shared} {p : Program} {loose : List Str} {mean : ExcName → Option Value} {mg mb : Str → Option Value} {Q E : Value → Shared → Prop}
    (X : (hd.heap_39 w.params).In s.heap) (T : Top p loose mean mg mb s.heap) (hroom : dp + 4 < recursionLimit) (_hu : un + 80 < cLine)
    (x : Str) (t : Tok) (hx : x.cps.size ≤ 1000) (hx2 : (eolT x.cps).size ≤ 1000)
    (ret : ∀ t' h' tk', Grows s.heap h' → Q (.str ⟨dotT (eolT x.cps)⟩ t') { s with heap := h', toks := tk' }) :
    wpAny (model Challenge.rw_rw0101_01.row.prog w) (Am dp un fr gd) (call (.ref 80) [.str x t]) Q E s := by
  w_top off; revert X; k_fill; intro X
  refine wpAny_call ?_
  refine enterP (f := 80) (binds := [(Str.ofString "data", .str x t)]) X T.nolimit (by k_is) (by k_is) (by show dp < _; omega) (BindsTo.of_eq rfl) (locs rfl) ?_ rfl rfl rfl (by decide)
  intro L' h₁ eL F
  have N : News s.heap L' h₁ [] := News.nil
  walk_at "my:steps"
  refine ⟨?_⟩
  rename Fr _ _ _ _ => F1
  obtain ⟨a, b, cv, h1, h2, h3⟩ := patD (X.keeps F1.keep)
  refine gm_sub h1 ?_
  walk_at "my:steps"
  refine ⟨?_⟩
  obtain ⟨a', b', cv', h1', h2', h3'⟩ := patE (X.keeps F1.keep)
  refine gm_sub h1' ?_
  walk_at "my:steps"
  refine ⟨?_⟩
  refine c_subE (X.keeps F1.keep) hx fun t' h' tk' g => ?_
  dsimp only at g
  have F2 := F1.keeps g
  walk_at "my:steps"
  refine ⟨?_⟩
  refine c_subD (X.keeps F2.keep) hx2 fun t' h' tk' g => ?_
  dsimp only at g
  have F3 := F2.keeps g
  walk_at "my:steps"
  exact ret _ _ _ F3.keep
end Mine
/- part Ws -/
namespace Mine
local macro_rules | `(tactic| walk_at "my:none0") => `(tactic| skip)
local macro_rules | `(tactic| k_ne) => `(tactic| first | (refine neN ?_; (try dsimp only); assumption) | (refine neN ?_; (try dsimp only); refine Ne.symm ?_; assumption))
local macro_rules | `(tactic| walk_at "my:steps") => `(tactic| repeat' (first | (k_unfold; (try dsimp only)) | walk1 | (dsimp only; walk1)))
local macro_rules | `(tactic| walk_at "UnrEnd") => `(tactic| refine hold ?_)
local macro_rules | `(tactic| walk_at "pyIter str") => `(tactic| refine hold ?_)
/-- an object of the class Whitespace, as the law makes them -/
noncomputable def Lead (h : Heap) (x : Addr) (j d : Nat) : Prop := ∃ (dx : Addr) (es : List DictEntry) (n : Nat) (P C : Addr) (cv : Array Value) (t1 t2 t3 : Tok),
  h.get? x = some (instObj 149 dx) ∧ h.get? dx = some (dictOf es n) ∧ getL "n" es = some (some (.int ((j + d : Nat) : Int) t1)) ∧ getL "nt" es = some (some (.int (j : Int) t2)) ∧
  getL "norm" es = some (some (.ref P)) ∧ getL "is_simple" es = some (some (.bool true)) ∧ getL "less" es = some none ∧
  h.get? P = some { cls := .type "tuple", data := .seq #[.ref C, .int (d : Int) t3] } ∧ h.get? C = some { cls := .type "tuple", data := .seq cv } ∧ IntsAre cv.toList (if j = 0 then [] else [(j : Int)])
theorem Lead.keeps {h h' : Heap} {x : Addr} {j d : Nat} (l : Lead h x j d) (g : Grows h h') : Lead h' x j d := by
  obtain ⟨dx, es, n, P, C, cv, t1, t2, t3, a, b, c1, c2, c3, c4, c5, e, f, i⟩ := l
  exact ⟨dx, es, n, P, C, cv, t1, t2, t3, g _ _ a, g _ _ b, c1, c2, c3, c4, c5, g _ _ e, g _ _ f, i⟩
/-- the same, told of a part of the ledger -/
noncomputable def LeadIn (lo : List (Addr × Obj)) (x : Addr) (j d : Nat) : Prop := ∃ (dx : Addr) (es : List DictEntry) (n : Nat) (P C : Addr) (cv : Array Value) (t1 t2 t3 : Tok),
  (x, instObj 149 dx) ∈ lo ∧ (dx, dictOf es n) ∈ lo ∧ getL "n" es = some (some (.int ((j + d : Nat) : Int) t1)) ∧ getL "nt" es = some (some (.int (j : Int) t2)) ∧
  getL "norm" es = some (some (.ref P)) ∧ getL "is_simple" es = some (some (.bool true)) ∧ getL "less" es = some none ∧
  (P, ({ cls := .type "tuple", data := .seq #[.ref C, .int (d : Int) t3] } : Obj)) ∈ lo ∧ (C, ({ cls := .type "tuple", data := .seq cv } : Obj)) ∈ lo ∧ IntsAre cv.toList (if j = 0 then [] else [(j : Int)])
theorem LeadIn.lead {lo : List (Addr × Obj)} {h : Heap} {x : Addr} {j d : Nat} (l : LeadIn lo x j d) (g : ∀ p ∈ lo, h.get? p.1 = some p.2) : Lead h x j d := by
  obtain ⟨dx, es, n, P, C, cv, t1, t2, t3, a, b, c1, c2, c3, c4, c5, e, f, i⟩ := l
  exact ⟨dx, es, n, P, C, cv, t1, t2, t3, g _ a, g _ b, c1, c2, c3, c4, c5, g _ e, g _ f, i⟩
theorem LeadIn.mono {lo lo' : List (Addr × Obj)} {x : Addr} {j d : Nat} (l : LeadIn lo x j d) (g : ∀ p ∈ lo, p ∈ lo') : LeadIn lo' x j d := by
  obtain ⟨dx, es, n, P, C, cv, t1, t2, t3, a, b, c1, c2, c3, c4, c5, e, f, i⟩ := l
  exact ⟨dx, es, n, P, C, cv, t1, t2, t3, g _ a, g _ b, c1, c2, c3, c4, c5, g _ e, g _ f, i⟩
/-- a new object of the class: what it is made of was not there before -/
noncomputable def LeadNew (h₀ h : Heap) (x : Addr) (j d : Nat) : Prop := ∃ lo, LeadIn lo x j d ∧ ∀ p ∈ lo, h.get? p.1 = some p.2 ∧ h₀.get? p.1 = none ∧ ∀ v, p.2.data ≠ .cell v
theorem four_new {a b c e : Addr × Obj} {h₀ h : Heap} {L : Addr} {all : List (Addr × Obj)} (N : News h₀ L h all) (ha : a ∈ all) (hb : b ∈ all) (hc : c ∈ all) (he : e ∈ all)
    (da : ∀ v, a.2.data ≠ .cell v) (db : ∀ v, b.2.data ≠ .cell v) (dc : ∀ v, c.2.data ≠ .cell v) (de : ∀ v, e.2.data ≠ .cell v) : ∀ p ∈ [a, b, c, e], h.get? p.1 = some p.2 ∧ h₀.get? p.1 = none ∧ ∀ v, p.2.data ≠ .cell v := by
  intro p hp
  simp only [List.mem_cons, List.not_mem_nil, or_false] at hp
  rcases hp with q | q | q | q <;> rw [q]
  · exact ⟨(N _ ha).1, (N _ ha).2.2, da⟩
  · exact ⟨(N _ hb).1, (N _ hb).2.2, db⟩
  · exact ⟨(N _ hc).1, (N _ hc).2.2, dc⟩
  · exact ⟨(N _ he).1, (N _ he).2.2, de⟩
theorem ints_nil {vs : List Value} (h : IntsAre vs []) : vs = [] := by cases h; rfl
theorem ints_one {vs : List Value} {x : Int} (h : IntsAre vs [x]) : ∃ t, vs = [.int x t] := by
  cases h with
  | cons n t h => cases h; exact ⟨t, rfl⟩
theorem sub3 {a b c d : Addr × Obj} {all : List (Addr × Obj)} (h1 : b ∈ all) (h0 : a ∈ all) (h2 : c ∈ all) (h3 : d ∈ all) : ∀ p ∈ [a, b, c, d], p ∈ all := by
  intro p hp
  simp only [List.mem_cons, List.not_mem_nil, or_false] at hp
  rcases hp with h | h | h | h <;> rw [h] <;> assumption
theorem off3 {b c d : Addr × Obj} {I : Addr} (h1 : b.1 ≠ I) (h2 : c.1 ≠ I) (h3 : d.1 ≠ I) : ∀ p ∈ [b, c, d], p.1 ≠ I := by
  intro p hp
  simp only [List.mem_cons, List.not_mem_nil, or_false] at hp
  rcases hp with h | h | h <;> rw [h] <;> assumption
theorem tup_ne {h : Heap} {a b : Addr} {v : Array Value} {es : List DictEntry} {n : Nat} (h1 : h.get? a = some { cls := .type "tuple", data := .seq v }) (h2 : h.get? b = some (dictOf es n)) : a ≠ b := by
  rintro rfl
  rw [h1] at h2
  exact absurd (congrArg Obj.cls (Option.some.inj h2)) (by simp)
theorem newsDrop2 {h₀ h : Heap} {L : Addr} {a b : Addr × Obj} {r : List (Addr × Obj)} (N : News h₀ L h (a :: b :: r)) : News h₀ L h (a :: r) := fun p hp => N p (by
  rcases List.mem_cons.mp hp with rfl | hp
  · exact .head _
  · exact .tail _ (.tail _ hp))
section
variable {prog : Program} {w : World} {A : Around} {E : Value → Shared → Prop} {s : Shared} {env : Env} {h₀ : Heap} {x : Str} {body : List Stmt} {Q : Flow → Shared → Prop}
theorem str_phase {I : Addr} {n : Nat} {c : Str} {r : List Str} (J : Nat → (Str → Option Value) → List (Addr × Obj) → Prop)
    (turn : ∀ i m nx u it h tk, i < n → J i m nx → (∀ p ∈ nx, p.1 ≠ I) → Fr h₀ env.locals h (fun y => if y = x then some (.str c u) else m y) → News h₀ env.locals h ((I, it) :: nx) →
      wpAny (model prog w) A (execs body env) (UnrPost h₀ env.locals { s with heap := h, toks := tk } I it (J (i + 1)) Q) E { s with heap := h, toks := tk })
    (next : ∀ m nx, J n m nx → (∀ p ∈ nx, p.1 ≠ I) → StrRest prog w A E h₀ env x body Q s I r m nx) : ∀ m nx, J 0 m nx → (∀ p ∈ nx, p.1 ≠ I) → StrRest prog w A E h₀ env x body Q s I (List.replicate n c ++ r) m nx := by
  have key : ∀ k i m nx, i + k = n → J i m nx → (∀ p ∈ nx, p.1 ≠ I) → StrRest prog w A E h₀ env x body Q s I (List.replicate k c ++ r) m nx := by
    intro k
    induction k with
    | zero =>
      intro i m nx hi hj ho
      have : i = n := by omega
      subst this
      exact next m nx hj ho
    | succ k ih =>
      intro i m nx hi hj ho
      rw [List.replicate_succ, List.cons_append]
      refine StrRest.succ fun u it h tk F N => ?_
      exact wpAny_mono (turn i m nx u it h tk (by omega) hj ho F N) (fun f s₂ p => unrPost_mono (fun m' n' ho' hx => ih (i + 1) m' n' (by omega) hx ho') p) fun _ _ e => e
  exact fun m nx => key n 0 m nx (by omega)
end
set_option maxRecDepth 100000 in
set_option maxHeartbeats 8000000 in
theorem c_ws {w : World} {dp un : Nat} {fr : Option (List Env)} {gd : Option (List Code)} {s : Shared} {p : Program} {loose : List Str} {mean : ExcName → Option Value} {mg mb : Str → Option Value} {Q E : Value → Shared → Prop}
    (X : (hd.heap_39 w.params).In s.heap) (T : Top p loose mean mg mb s.heap) (hroom : dp + 12 < recursionLimit) (hu : un + 120 < cLine)
    (x : Str) (t : Tok) (j d : Nat) (hx : x.cps.toList = List.replicate j 9 ++ (List.replicate d 32 ++ [120])) (hj : j ≤ 2) (hd : d ≤ 10)
    (ret : ∀ a h' tk', Grows s.heap h' → LeadNew s.heap h' a j d → Q (.ref a) { s with heap := h', toks := tk' }) :
    wpAny (model Challenge.rw_rw0101_01.row.prog w) (Am dp un fr gd) (call (.ref 149) [.str x t]) Q E s := by
  w_top off; revert X; k_fill; intro X
  obtain ⟨hh, g, dr, tk, os⟩ := s
  dsimp only at X T
  refine wpAny_call (make_core (makes_of X (by k_is)) (looks_findIn X (by k_is)) (fun self => bind_fn X self (by k_is)) (.inl rfl) ?_)
  have k : Grows hh ((hh.push emptyDict).push (instObj 149 hh.objs.size)) := fun b o e => Heap.get?_push_of_some _ (Heap.get?_push_of_some _ e)
  have k1 : ((hh.push emptyDict).push (instObj 149 hh.objs.size)).get? (hh.objs.size + 1) = some (instObj 149 hh.objs.size) := by heap_get
  have k2 : ((hh.push emptyDict).push (instObj 149 hh.objs.size)).get? hh.objs.size = some (dictOf [] 0) := by heap_get
  generalize hh2 : (hh.push emptyDict).push (instObj 149 hh.objs.size) = h2 at k k1 k2
  have hnx : hh.get? (hh.objs.size + 1) = none := by
    cases e : hh.get? (hh.objs.size + 1) with
    | none => rfl
    | some o => exact absurd (Heap.lt_size e) (Nat.not_lt.mpr (Nat.le_succ _))
  have hnd : hh.get? hh.objs.size = none := by
    cases e : hh.get? hh.objs.size with
    | none => rfl
    | some o => exact absurd (Heap.lt_size e) (Nat.lt_irrefl _)
  have hroom' : dp + (Code.builtin "type.__call__" ⟨[.ref 149, .str x t], []⟩).weight < recursionLimit := by
    have e : (Code.builtin "type.__call__" ⟨[.ref 149, .str x t], []⟩).weight ≤ 12 := by
      unfold Code.weight
      have e1 : (Code.builtin "type.__call__" ⟨[.ref 149, .str x t], []⟩).frames = 0 := rfl
      have e2 : (Code.builtin "type.__call__" ⟨[.ref 149, .str x t], []⟩).isCaller = false := rfl
      rw [e1, e2]
      split <;> split <;> simp
    omega
  refine enterP (f := 104) (binds := [(Str.ofString "self", .ref (hh.objs.size + 1)), (Str.ofString "ws", .str x t)]) (X.keeps k) (T.keeps k).nolimit (by k_is) (by k_is) (by show dp + _ < _; exact hroom') (BindsTo.of_eq rfl) (locs rfl) ?_ rfl rfl rfl (by decide)
  intro L' h₁ eL F0
  dsimp only at eL F0 ⊢
  have F : Fr hh L' h₁ _ := ⟨F0.ns, fun b o e => F0.keep b o (k b o e), Nat.le_trans (Nat.le_trans (Nat.le_succ _) (Nat.le_of_lt (Heap.lt_size k1))) F0.above⟩
  have N : News hh L' h₁ [(hh.objs.size + 1, instObj 149 hh.objs.size), (hh.objs.size, dictOf [] 0)] := fun q hq => by
    simp only [List.mem_cons, List.not_mem_nil, or_false] at hq
    rcases hq with rfl | rfl
    · exact ⟨F0.keep _ _ k1, by rw [eL]; exact Nat.ne_of_lt (Heap.lt_size k1), hnx⟩
    · exact ⟨F0.keep _ _ k2, by rw [eL]; exact Nat.ne_of_lt (Heap.lt_size k2), hnd⟩
  have hne : hh.objs.size < hh.objs.size + 1 := Nat.lt_succ_self _
  generalize hh.objs.size + 1 = xa at *
  generalize hh.objs.size = da at *
  clear F0 hh2 k k1 k2
  walk_at "my:steps"
  refine ⟨?_⟩
  rename Fr _ _ _ _ => F1
  rename News _ _ _ _ => N1
  rename (_ < _ ∧ _ < _ ∧ _ < _) => l3
  have hl : x.cps.toList.map (fun c => (⟨#[c]⟩ : Str)) = List.replicate j ⟨#[9]⟩ ++ (List.replicate d ⟨#[32]⟩ ++ [⟨#[120]⟩]) := by
    rw [hx]; simp
  have N2 := newsDrop2 N1
  refine iter_strUnr rfl F1 N2 hl (fun I hI => ?_)
  · refine str_phase (fun i m nx => ∃ D cs k t1 t2 t3, nx = [(D, listOf cs k), (xa, instObj 149 da), (da, dictOf [⟨PyData.keyHash w.params (Str.ofString "raw"), .str (Str.ofString "raw") _, .str x t⟩] 1)] ∧
        IntsAre cs.toList (if i = 0 then [] else [(i : Int)]) ∧ xa < D ∧ da < D ∧
        Has m [(Str.ofString "self", .ref xa), (Str.ofString "count", .ref D), (Str.ofString "b", .int 0 t1), (Str.ofString "n", .int i t2), (Str.ofString "nt", .int i t3), (Str.ofString "S", .str (Str.ofString " ") 425), (Str.ofString "T", .str (Str.ofString "\t") 426)])
        ?_ ?_ _ _ ⟨_, _, _, _, _, _, rfl, ?_, ?_, ?_, rfl, rfl, rfl, rfl, rfl, rfl, rfl, trivial⟩ (fun p hp => Nat.ne_of_lt (hI p hp))
    · rintro i m nx u it h tk hij ⟨D, cs, k, t1, t2, t3, rfl, hi, l1, l2, hm⟩ ho F N
      replace F := frViewX F hm
      have o1 : D ≠ I := ho _ (.head _)
      have o2 : xa ≠ I := ho _ (.tail _ (.head _))
      have o3 : da ≠ I := ho _ (.tail _ (.tail _ (.head _)))
      clear ho hm hI N2 N1 F1
      by_cases h0 : i = 0
      · subst h0
        have := ints_nil hi
        have : cs = #[] := by rw [← Array.toArray_toList (xs := cs), this]
        subst this
        clear hi
        walk_at "my:steps"
        refine ⟨?_⟩
        clear F N
        rename Fr _ _ _ _ => F3
        rename News _ _ _ _ => N3
        rename (_ ∧ _ ∧ _ < _ ∧ _ < _ ∧ _ < _ ∧ _ < _) => l5
        refine UnrEnd.intro F3 N3 [_, _, _] (sub3 (.head _) (.tail _ (.tail _ (.tail _ (.head _)))) (.tail _ (.tail _ (.tail _ (.tail _ (.tail _ (.head _)))))) (.tail _ (.tail _ (.tail _ (.tail _ (.tail _ (.tail _ (.head _)))))))) (off3 (Nat.ne_of_gt l5.2.2.1) o2 o3) ⟨_, _, _, _, _, _, rfl, ?_, l5.2.2.2.2.1, l5.2.2.2.2.2, rfl, rfl, rfl, rfl, rfl, rfl, rfl, trivial⟩
        exact .cons 1 _ .nil
      · rw [if_neg h0] at hi
        obtain ⟨t', hcs⟩ := ints_one hi
        have : cs = #[.int i t'] := by rw [← Array.toArray_toList (xs := cs), hcs]
        subst this
        clear hi hcs
        walk_at "my:steps"
        refine ⟨?_⟩
        clear F N
        rename Fr _ _ _ _ => F3
        rename News _ _ _ _ => N3
        refine UnrEnd.intro F3 N3 [_, _, _] (sub3 (.tail _ (.head _)) (.head _) (.tail _ (.tail _ (.head _))) (.tail _ (.tail _ (.tail _ (.head _))))) (off3 o1 o2 o3) ⟨_, _, _, _, _, _, rfl, ?_, l1, l2, rfl, rfl, rfl, rfl, rfl, rfl, rfl, trivial⟩
        exact .cons _ _ .nil
    · rintro m nx ⟨D, cs, k, t1, t2, t3, rfl, hi, l1, l2, hm⟩ ho
      refine str_phase (fun i m nx => ∃ t1 t2 t3, nx = [(D, listOf cs k), (xa, instObj 149 da), (da, dictOf [⟨PyData.keyHash w.params (Str.ofString "raw"), .str (Str.ofString "raw") _, .str x t⟩] 1)] ∧
        Has m [(Str.ofString "self", .ref xa), (Str.ofString "count", .ref D), (Str.ofString "b", .int i t1), (Str.ofString "n", .int (j + i : Nat) t2), (Str.ofString "nt", .int j t3), (Str.ofString "S", .str (Str.ofString " ") 425), (Str.ofString "T", .str (Str.ofString "\t") 426)])
        ?_ ?_ _ _ ⟨_, _, _, rfl, hm⟩ ho
      · rintro i m nx u it h tk hij ⟨t1, t2, t3, rfl, hm⟩ ho F N
        replace F := frViewX F hm
        have o1 : D ≠ I := ho _ (.head _)
        have o2 : xa ≠ I := ho _ (.tail _ (.head _))
        have o3 : da ≠ I := ho _ (.tail _ (.tail _ (.head _)))
        clear ho hm hI N2 N1 F1
        walk_at "my:steps"
        refine ⟨?_⟩
        clear F N
        rename Fr _ _ _ _ => F3
        rename News _ _ _ _ => N3
        refine UnrEnd.intro F3 N3 [_, _, _] (sub3 (.tail _ (.head _)) (.head _) (.tail _ (.tail _ (.head _))) (.tail _ (.tail _ (.tail _ (.head _))))) (off3 o1 o2 o3) ⟨_, _, _, rfl, rfl, rfl, rfl, rfl, rfl, rfl, rfl, trivial⟩
      · rintro m nx ⟨t1, t2, t3, rfl, hm⟩ ho
        refine StrRest.succ fun u it h tk F N => ?_
        replace F := frViewX F hm
        have o1 : D ≠ I := ho _ (.head _)
        have o2 : xa ≠ I := ho _ (.tail _ (.head _))
        have o3 : da ≠ I := ho _ (.tail _ (.tail _ (.head _)))
        clear ho hm hI N2 N1 F1
        have hcz : cs.size ≤ 1 := by
          have h1 := hi.length
          rw [Array.length_toList] at h1
          rw [h1]
          split <;> simp
        walk_at "my:steps"
        rename News _ _ _ _ => N5
        rename (_ < _ ∧ _ < _ ∧ _ < _ ∧ _ < _ ∧ _ < _) => l6
        have q := tup_ne (N5 _ (.tail _ (.head _))).1 (N5 _ (.tail _ (.tail _ (.tail _ (.tail _ (.tail _ (.head _))))))).1
        walk_at "my:steps"
        rename Fr _ _ _ _ => F6
        rename News _ _ _ _ => N6
        refine ⟨rfl, ret xa _ _ F6.keep ⟨_, ⟨da, _, _, _, _, _, _, _, _, .head _, .tail _ (.head _), rfl, rfl, rfl, ?hs, rfl, .tail _ (.tail _ (.head _)), .tail _ (.tail _ (.tail _ (.head _))), hi⟩, four_new (L := L') N6 (.tail _ (.tail _ (.tail _ (.tail _ (.head _))))) (.tail _ (.tail _ (.tail _ (.tail _ (.tail _ (.head _)))))) (.head _) (.tail _ (.head _)) (fun _ e => by cases e) (fun _ e => by cases e) (fun _ e => by cases e) (fun _ e => by cases e)⟩⟩
        case hs =>
          have e : decide ((cs.size : Int) ≤ 1) = true := decide_eq_true (by omega)
          exact congrArg (fun b => some (some (Value.bool b))) e
    · exact .nil
    · exact l3.2.1
    · exact l3.2.2
end Mine
/- part Less -/
namespace Mine
local macro_rules | `(tactic| walk_at "my:steps") => `(tactic| repeat' (first | (k_unfold; (try dsimp only)) | walk1 | (dsimp only; walk1)))
local macro_rules | `(tactic| walk_at "getAttr ref") => `(tactic| refine hold ?_)
set_option maxRecDepth 100000 in
set_option maxHeartbeats 8000000 in
theorem c_less {w : World} {dp un : Nat} {fr : Option (List Env)} {gd : Option (List Code)} {s : Shared} {p : Program} {loose : List Str} {mean : ExcName → Option Value} {mg mb : Str → Option Value} {Q E : Value → Shared → Prop}
    (X : (hd.heap_39 w.params).In s.heap) (T : Top p loose mean mg mb s.heap) (hroom : dp + 4 < recursionLimit) (_hu : un + 80 < cLine)
    (a b : Addr) (j d e : Nat) (la : Lead s.heap a j d) (lb : Lead s.heap b j e)
    (ret : ∀ h' tk', Grows s.heap h' → Q (.bool (decide (d < e))) { s with heap := h', toks := tk' }) :
    wpAny (model Challenge.rw_rw0101_01.row.prog w) (Am dp un fr gd) (call (.ref 139) [.ref a, .ref b]) Q E s := by
  w_top off; revert X; k_fill; intro X
  obtain ⟨dx, es, n, P, C, cv, t1, t2, t3, a1, a2, a3, a4, a5, a6, a7, a8, a9, a10⟩ := la
  obtain ⟨dy, fs, n', P', C', cv', u1, u2, u3, b1, b2, b3, b4, b5, b6, b7, b8, b9, b10⟩ := lb
  refine wpAny_call ?_
  refine enterP (f := 139) (binds := [(Str.ofString "self", .ref a), (Str.ofString "other", .ref b)]) X T.nolimit (by k_is) (by k_is) (by show dp < _; omega) (BindsTo.of_eq rfl) (locs rfl) ?_ rfl rfl rfl (by decide)
  intro L' h₁ eL F
  have N : News s.heap L' h₁ [] := News.nil
  walk_at "my:steps"
  refine ⟨?_⟩
  refine get_own F X ⟨F.keep _ _ a1, rfl, rfl, F.keep _ _ a2⟩ (by k_is) (by k_is) (by k_is) (by k_is) a3 rfl ?_
  walk_at "my:steps"
  refine ⟨?_⟩
  refine get_own F X ⟨F.keep _ _ b1, rfl, rfl, F.keep _ _ b2⟩ (by k_is) (by k_is) (by k_is) (by k_is) b3 rfl ?_
  walk_at "my:steps"
  · rename (_ ≥ _) => hge
    have e1 : decide (d < e) = false := decide_eq_false (by omega)
    simp only [e1] at ret
    exact ret _ _ F.keep
  · rename (¬ _ ≥ _) => hlt
    have e1 : decide (d < e) = true := decide_eq_true (by omega)
    refine ⟨?_⟩
    refine get_own F X ⟨F.keep _ _ a1, rfl, rfl, F.keep _ _ a2⟩ (by k_is) (by k_is) (by k_is) (by k_is) a6 rfl ?_
    walk_at "my:steps"
    refine ⟨?_⟩
    refine get_own F X ⟨F.keep _ _ b1, rfl, rfl, F.keep _ _ b2⟩ (by k_is) (by k_is) (by k_is) (by k_is) b6 rfl ?_
    walk_at "my:steps"
    refine ⟨?_⟩
    refine get_own F X ⟨F.keep _ _ a1, rfl, rfl, F.keep _ _ a2⟩ (by k_is) (by k_is) (by k_is) (by k_is) a4 rfl ?_
    walk_at "my:steps"
    refine ⟨?_⟩
    refine get_own F X ⟨F.keep _ _ b1, rfl, rfl, F.keep _ _ b2⟩ (by k_is) (by k_is) (by k_is) (by k_is) b4 rfl ?_
    walk_at "my:steps"
    simp only [e1] at ret
    rw [show decide ((j : Int) ≤ (j : Int)) = true from decide_eq_true (Int.le_refl _)]
    exact ret _ _ F.keep
end Mine
/- part Dots -/
namespace Mine
inductive LeadsAre (h : Heap) (j : Nat) : List Value → List Nat → Prop
  | nil : LeadsAre h j [] []
  | cons {a : Addr} {d : Nat} {vs : List Value} {ds : List Nat} : Lead h a j d → LeadsAre h j vs ds → LeadsAre h j (.ref a :: vs) (d :: ds)
theorem LeadsAre.length {h : Heap} {j : Nat} : ∀ {vs : List Value} {ds : List Nat}, LeadsAre h j vs ds → vs.length = ds.length
  | _, _, .nil => rfl
  | _, _, .cons _ r => congrArg (· + 1) r.length
theorem LeadsAre.at {h : Heap} {j : Nat} {v : Value} : ∀ {vs : List Value} {ds : List Nat}, LeadsAre h j vs ds → ∀ {i : Nat}, vs[i]? = some v → ∃ a d, ds[i]? = some d ∧ v = .ref a ∧ Lead h a j d
  | _, _, .cons (a := a) (d := d) l r, 0, e => ⟨a, d, rfl, (Option.some.inj e).symm, l⟩
  | _, _, .cons _ r, _ + 1, e => r.at e
noncomputable def toInts (ds : List Nat) : List Int := ds.map (fun d : Nat => (d : Int))
local macro_rules | `(tactic| walk_at "eval ListComp") => `(tactic| refine hold ?_)
local macro_rules | `(tactic| walk_at "CompSrc") => `(tactic| refine hold ?_)
local macro_rules | `(tactic| walk_at "getAttr ref") => `(tactic| refine hold ?_)
local macro_rules | `(tactic| walk_at "CT") => `(tactic| refine hold ?_)
local macro_rules | `(tactic| walk_at "my:steps") => `(tactic| repeat' (first | (k_unfold; (try dsimp only)) | walk1 | (dsimp only; walk1)))
set_option maxRecDepth 100000 in
set_option maxHeartbeats 8000000 in
theorem c_dots {w : World} {dp un : Nat} {fr : Option (List Env)} {gd : Option (List Code)} {s : Shared} {p : Program} {loose : List Str} {mean : ExcName → Option Value} {mg mb : Str → Option Value} {Q E : Value → Shared → Prop}
    (X : (hd.heap_39 w.params).In s.heap) (T : Top p loose mean mg mb s.heap) (hroom : dp + 4 < recursionLimit) (_hu : un + 80 < cLine)
    (a : Addr) (vs : List Value) (j : Nat) (ds : List Nat) (hl : s.heap.IsList a vs.toArray) (hi : LeadsAre s.heap j vs ds) (hn : ds.length ≤ 100)
    (ret : ∀ r vs' n' h' tk', Grows s.heap h' → h'.get? r = some (listOf vs'.toArray n') → s.heap.get? r = none → IntsAre vs' (toInts ds) → Q (.ref r) { s with heap := h', toks := tk' }) :
    wpAny (model Challenge.rw_rw0101_01.row.prog w) (Am dp un fr gd) (call (.ref 172) [.ref a]) Q E s := by
  w_top off; revert X; k_fill; intro X
  refine wpAny_call ?_
  refine enterP (f := 172) (binds := [(Str.ofString "cars", .ref a)]) X T.nolimit (by k_is) (by k_is) (by show dp < _; omega) (BindsTo.of_eq rfl) (locs rfl) ?_ rfl rfl rfl (by decide)
  intro L' h₁ eL F
  have N : News s.heap L' h₁ [] := News.nil
  walk_at "my:steps"
  refine ⟨?_⟩
  refine LCg.ListComp_U (F₀ := F) (by rfl) (by decide) (by rfl) (by decide) (by rfl) ?_
  walk_at "my:steps"
  refine ⟨?_⟩
  refine LCg.CompSrc.base (by rfl) F N hl (by rw [List.size_toArray, hi.length, sizeLine_eq]; omega) ?_
  intro g
  refine compRest_inv (fun i ys => IntsAre ys (toInts (ds.take i))) (.inl hl) (by simp [toInts]; exact .nil) ?_ ?_
  · intro i v I oI C oC D m₂ ys h tk E' hi' hv hj hC hx F' N' off ne
    obtain ⟨b, d, hd, rfl, lb⟩ := hi.at (by simpa using hv)
    obtain ⟨dx, es, n, P, C', cv, t1, t2, t3, a1, a2, a3, a4, a5, a6, a7, a8, a9, a10⟩ := lb
    walk_at "my:steps"
    refine ⟨?_⟩
    refine get_own F' X ⟨F'.keep _ _ a1, rfl, rfl, F'.keep _ _ a2⟩ (by k_is) (by k_is) (by k_is) (by k_is) a3 rfl ?_
    walk_at "my:steps"
    refine ⟨?_⟩
    refine get_own F' X ⟨F'.keep _ _ a1, rfl, rfl, F'.keep _ _ a2⟩ (by k_is) (by k_is) (by k_is) (by k_is) a4 rfl ?_
    walk_at "my:steps"
    refine ⟨?_⟩
    refine CT.intro F' N' ?_
    rw [show ((j + d : Nat) : Int) - (j : Int) = (d : Int) by omega, show toInts (ds.take (i + 1)) = toInts (ds.take i) ++ [(d : Int)] by simp [toInts, List.take_add_one, hd]]
    exact ksk_snoc hj
  · intro ys hys
    rw [List.size_toArray, hi.length, List.take_length] at hys
    intro D h tk F2 N2 o1
    dsimp only
    walk_at "my:steps"
    refine ret D ys ys.length _ _ F2.keep ?_ ?_ hys
    · exact (N2 _ (.head _)).1
    · exact (N2 _ (.head _)).2.2
end Mine
/- part BisK -/
namespace Mine
/-- bisection by what is told of a place: true means further to the right -/
noncomputable def bisP (f : Nat → Bool) : Nat → Nat → Nat → Nat
  | 0, lo, _ => lo
  | n + 1, lo, hi => if lo < hi then (if f ((lo + hi) / 2) = true then bisP f n ((lo + hi) / 2 + 1) hi else bisP f n lo ((lo + hi) / 2)) else lo
theorem bisP_done {f : Nat → Bool} {n lo hi : Nat} (h : ¬ lo < hi) : bisP f n lo hi = lo := by
  cases n with
  | zero => rfl
  | succ n => exact if_neg h
theorem bisP_le (f : Nat → Bool) : ∀ (n lo hi : Nat), lo ≤ hi → bisP f n lo hi ≤ hi
  | 0, lo, hi, h => h
  | n + 1, lo, hi, h => by
    unfold bisP
    split
    · split
      · exact bisP_le f n _ _ (by omega)
      · exact Nat.le_trans (bisP_le f n _ _ (by omega)) (by omega)
    · exact h
theorem fnKeeps {q : Addr} {h h' : Heap} (x : FnAt q h) (g : Grows h h') : FnAt q h' := let ⟨a, b, c, d, e⟩ := x; ⟨a, b, c, d, g _ _ e⟩
local macro_rules | `(tactic| walk_at "my:steps") => `(tactic| repeat' (first | (k_unfold; (try dsimp only)) | walk1 | (dsimp only; walk1)))
local macro_rules | `(tactic| walk_at "exec While") => `(tactic| refine hold ?_)
local macro_rules | `(tactic| walk_at "call builtin:len") => `(tactic| refine hold ?_)
local macro_rules | `(tactic| walk_at "subscriptTail") => `(tactic| refine hold ?_)
local macro_rules | `(tactic| walk_at "call ref") => `(tactic| refine hold ?_)
local macro_rules | `(tactic| walk_at "callWith ref") => `(tactic| refine hold ?_)
local macro_rules | `(tactic| walk_at "FnAt") => `(tactic| refine hold ?_)
local macro_rules | `(tactic| walk_at "WhileStep") => `(tactic| refine hold ?_)
set_option maxRecDepth 100000 in
set_option maxHeartbeats 8000000 in
theorem c_bisK {w : World} {dp un : Nat} {fr : Option (List Env)} {gd : Option (List Code)} {s : Shared} {p : Program} {loose : List Str} {mean : ExcName → Option Value} {mg mb : Str → Option Value} {Q E : Value → Shared → Prop}
    (X : (hd.heap_39 w.params).In s.heap) (T : Top p loose mean mg mb s.heap) (hroom : dp + 4 < recursionLimit) (_hu : un + 80 < cLine)
    (a f : Addr) (hf : FnAt f s.heap) (vs : List Value) (hl : s.heap.IsList a vs.toArray) (hn : vs.length ≤ 100) (kb : Nat → Bool)
    (key : ∀ i v, vs[i]? = some v → ∀ (fr' : Option (List Env)) (h : Heap) (tk : Nat) (Q' E' : Value → Shared → Prop), Grows s.heap h → (∀ h' tk', Grows h h' → Q' (.bool (kb i)) { s with heap := h', toks := tk' }) →
      wpAny (model Challenge.rw_rw0101_01.row.prog w) (Am (dp + 1) (un + 3) fr' gd) (call (.ref f) [v]) Q' E' { s with heap := h, toks := tk })
    (ret : ∀ t' h' tk', Grows s.heap h' → Q (.int (bisP (fun i => !kb i) (vs.length + 1) 0 vs.length : Nat) t') { s with heap := h', toks := tk' }) :
    wpAny (model Challenge.rw_rw0101_01.row.prog w) (Am dp un fr gd) (call (.ref 63) [.ref a, .bool true] [(Str.ofString "key", .ref f)]) Q E s := by
  w_top off; revert X; k_fill; intro X
  refine wpAny_call ?_
  refine enterP (f := 63) (binds := [(Str.ofString "a", .ref a), (Str.ofString "x", .bool true), (Str.ofString "lo", .int 0 320), (Str.ofString "hi", .none), (Str.ofString "key", .ref f)]) X T.nolimit (by k_is) (by k_is) (by show dp < _; omega) (kp_binds X fun _ => rfl) (locs rfl) ?_ rfl rfl rfl (by decide)
  intro L' h₁ eL F
  have N : News s.heap L' h₁ [] := News.nil
  walk_at "my:steps"
  refine ⟨?_⟩
  rename Fr _ _ _ _ => F1
  refine lenL (n := (vs.length : Int)) (Grows.list F1.keep hl) rfl (by omega) ?_
  walk_at "my:steps"
  refine ⟨?_⟩
  rename Fr _ _ _ _ => F2
  refine While_inv (n₀ := vs.length + 1) (fun n m nx => nx = [] ∧ ∃ (lo hi : Nat) (tl th : Tok), Has m [(Str.ofString "a", .ref a), (Str.ofString "x", .bool true), (Str.ofString "lo", .int lo tl), (Str.ofString "hi", .int hi th), (Str.ofString "key", .ref f)] ∧
    lo ≤ hi ∧ hi ≤ vs.length ∧ hi - lo < n ∧ bisP (fun i => !kb i) n lo hi = bisP (fun i => !kb i) (vs.length + 1) 0 vs.length) F2 News.nil ⟨rfl, 0, vs.length, _, _, ⟨rfl, rfl, rfl, rfl, rfl, trivial⟩, by omega, by omega, by omega, rfl⟩ ?_
  rintro n m nx h tk' F N ⟨rfl, lo, hi', tl, th, hm, h1, h2, h3, h4⟩
  replace F := frView F hm
  have hmid : Int.fdiv ((lo : Int) + (hi' : Int)) 2 = (((lo + hi') / 2 : Nat) : Int) := by
    rw [Int.fdiv_eq_ediv_of_nonneg _ (by omega)]; omega
  walk_at "my:steps"
  · refine ⟨?_⟩
    rename Fr _ _ _ _ => F3
    refine callWith_F (fnKeeps hf F3.keep) ?_
    walk_at "my:steps"
    refine ⟨?_⟩
    rename ((lo : Int) < hi') => hlt
    have hlt' : lo < hi' := by omega
    have hb : (lo + hi') / 2 < vs.length := by omega
    rename Fr _ _ _ _ => F4
    rename News _ _ _ _ => N4
    rw [hmid]
    refine itemL (vs := vs) (v := vs[(lo + hi') / 2]) (Grows.list F4.keep hl) (by omega) (by omega) (by rw [Int.toNat_natCast, List.getElem?_eq_getElem hb]) ?_
    walk_at "my:steps"
    · exact ⟨fnKeeps hf F4.keep⟩
    refine ⟨?_⟩
    refine key ((lo + hi') / 2) _ (List.getElem?_eq_getElem hb) _ _ _ _ _ F4.keep fun h' tk' g => ?_
    have F5 := F4.keeps g
    have N5 := N4.grown g
    obtain ⟨k, rfl⟩ : ∃ k, n = k + 1 := ⟨n - 1, by omega⟩
    cases hk : kb ((lo + hi') / 2)
    · walk_at "my:steps"
      refine ⟨?_⟩
      rename Fr _ _ _ _ => F6
      rename News _ _ _ _ => N6
      rw [bisP, if_pos hlt', if_pos (by simp [hk])] at h4
      exact WhileStep.intro F6 N6 (n' := k) (by omega) ⟨rfl, (lo + hi') / 2 + 1, hi', _, _, ⟨rfl, rfl, by rw [hmid]; rfl, rfl, rfl, trivial⟩, by omega, h2, by omega, h4⟩
    · walk_at "my:steps"
      refine ⟨?_⟩
      rename Fr _ _ _ _ => F6
      rename News _ _ _ _ => N6
      rw [bisP, if_pos hlt', if_neg (by simp [hk])] at h4
      exact WhileStep.intro F6 N6 (n' := k) (by omega) ⟨rfl, lo, (lo + hi') / 2, _, _, ⟨rfl, rfl, rfl, by rw [hmid]; rfl, rfl, trivial⟩, by omega, by omega, by omega, h4⟩
  · rename (¬ ((lo : Int) < hi')) => hge
    rename Fr _ _ _ _ => F3
    rw [bisP_done (by omega)] at h4
    subst h4
    exact ret _ _ _ F3.keep
end Mine
/- part Lam -/
namespace Mine
section
variable {prog : Program} {w : World} {A : Around} {s : Shared}
theorem enterL {R : Result → Shared → Prop} {name qual : Str} {params : Arguments} {body : PySem.Expr} {scope : Scope} {cl : List (Str × Addr)} {pm ctv : Value} {c' : Addr} {f : Addr} {args : Args} {binds : List (Str × Value)}
    (hf : s.heap.get? f = some (kla_obj name qual params body scope cl pm c' ctv)) (hcd : s.heap.CodeRec (.ref c') qual) (hlim : s.heap.NoLimit) (hroom : A.depth < recursionLimit)
    (hbind : bindArgs (kla_fn name qual params body scope cl pm (.ref c') ctv) args = pure binds) (hloc : ∀ y ∈ binds, scope.names.lookup y.1 = some .local)
    (h : ∀ L' h₁, L' = s.heap.objs.size → Fr s.heap L' h₁ (fun y => binds.reverse.lookup y) →
      wpAny (model prog w) (A.deeper (envX qual scope L' f (.ref c') cl)) (eval body (envX qual scope L' f (.ref c') cl))
        (fun v s' => R (.ok (.ret v)) s') (fun _ _ => False)
        { s with heap := h₁, toks := s.toks + binds.length })
    (hco : scope.isCoroutine = false) (hgen : scope.isGenerator = false) (hk : scope.kind = .function)
    (hcell : ∀ x ∈ scope.names, x.2 ≠ .cell) : codeAny (model prog w) A (.call (.ref f) args) R s := by
  refine kla_callFunE hroom hf rfl hco hgen rfl hcd ?_
  rw [hbind]
  refine wpAny_pure (wpAny_newFunctionEnv hcell hloc (fun h₁ hns hsb => ⟨hlim.fresh _ hsb, ?_⟩) hk)
  show codeAny _ _ (.expr body (envX qual scope s.heap.objs.size f (.ref c') cl)) _ _
  have hk₁ : ∀ b o, s.heap.get? b = some o → h₁.get? b = some o := fun b o e => hsb.extBut b o (Nat.ne_of_lt (Heap.lt_size e)) (Heap.get?_push_of_some _ e)
  exact kla_codeExpr (wpAny_mono (h _ h₁ rfl ⟨hns, hk₁, Nat.le_refl _⟩) (fun v s' z => z) fun _ _ z => z.elim)
theorem nameX_H {M : Model} {E : Value → Shared → Prop} {L a c : Addr} {cn : Str} {cs : Scope} {ccd v : Value} {cl : List (Str × Addr)} {o : Obj} {x : Str} {pos : Pos} {Q : Value → Shared → Prop} (hc : cl.lookup x = some c) (hm : s.heap.get? c = some o) (hd : o.data = .cell (some v)) (h : Q v s)
    (hk : cs.kind = .function := by rfl) (hx : (envX cn cs L a ccd cl).kindOf x = some .free := by rfl) (hb : (x == ("__debug__" : Str)) = false := by decide) (hn : (x == ("__classdict__" : Str)) = false := by decide) :
    wpAny M A (eval (.Name x pos) (envX cn cs L a ccd cl)) Q E s := wpAny_Name (wpAny_loadName_free hk hx hc ⟨o, hm, hd⟩ h hn) hb
end
noncomputable abbrev lamScope : Scope := { kind := .function, names := [(Str.ofString "lead", .local), (Str.ofString "car", .free)], isGenerator := false, isCoroutine := false }
noncomputable abbrev lamParams : Arguments := { posonlyargs := [], args := [{ arg := Str.ofString "lead", annotation := none, pos := { line := 132, col := 52, endLine := 132, endCol := 56 } }], vararg := none, kwonlyargs := [], kw_defaults := [], kwarg := none, defaults := [] }
noncomputable abbrev lamBody : PySem.Expr := .Call (.Attribute (.Name (Str.ofString "lead") { line := 132, col := 58, endLine := 132, endCol := 62 }) (Str.ofString "less") { line := 132, col := 58, endLine := 132, endCol := 67 }) [.Name (Str.ofString "car") { line := 132, col := 68, endLine := 132, endCol := 71 }] [] { line := 132, col := 58, endLine := 132, endCol := 72 }
local macro_rules | `(tactic| walk_at "my:steps") => `(tactic| repeat' (first | (k_unfold; (try dsimp only)) | walk1 | (dsimp only; walk1)))
local macro_rules | `(tactic| walk_at "getMethod ref") => `(tactic| refine hold ?_)
local macro_rules | `(tactic| walk_at "call ref") => `(tactic| refine hold ?_)
set_option maxRecDepth 100000 in
set_option maxHeartbeats 8000000 in
theorem c_lam {w : World} {dp un : Nat} {fr : Option (List Env)} {gd : Option (List Code)} {s : Shared} {p : Program} {loose : List Str} {mean : ExcName → Option Value} {mg mb : Str → Option Value} {Q E : Value → Shared → Prop}
    (X : (hd.heap_39 w.params).In s.heap) (T : Top p loose mean mg mb s.heap) (hroom : dp + 8 < recursionLimit) (hu : un + 100 < cLine)
    {name qual : Str} {pm ctv : Value} {f c' a b cellA : Addr} {oc : Obj} {j d e : Nat}
    (hf : s.heap.get? f = some (kla_obj name qual lamParams lamBody lamScope [(Str.ofString "car", cellA)] pm c' ctv)) (hcd : s.heap.CodeRec (.ref c') qual)
    (hcell : s.heap.get? cellA = some oc) (hdat : oc.data = .cell (some (.ref b))) (la : Lead s.heap a j d) (lb : Lead s.heap b j e)
    (ret : ∀ h' tk', Grows s.heap h' → Q (.bool (decide (d < e))) { s with heap := h', toks := tk' }) :
    wpAny (model Challenge.rw_rw0101_01.row.prog w) (Am dp un fr gd) (call (.ref f) [.ref a]) Q E s := by
  have la' := la
  obtain ⟨dx, es, n, P, C, cv, t1, t2, t3, a1, a2, a3, a4, a5, a6, a7, a8, a9, a10⟩ := la'
  w_top off; revert X; k_fill; intro X
  refine wpAny_call ?_
  refine enterL (binds := [(Str.ofString "lead", .ref a)]) hf hcd T.nolimit (by show dp < _; omega) rfl (locs rfl) ?_ rfl rfl rfl (by decide)
  intro L' h₁ eL F
  have N : News s.heap L' h₁ [] := News.nil
  dsimp only [lamBody, lamScope]
  walk_at "my:steps"
  refine ⟨?_⟩
  refine method_inst (C := 149) F X ⟨F.keep _ _ a1, rfl, rfl, F.keep _ _ a2⟩ (by k_is) (by k_is) (by k_is) a7 ?_
  walk1
  walk1
  refine nameX_H rfl (F.keep _ _ hcell) hdat ?_
  walk_at "my:steps"
  refine ⟨?_⟩
  refine c_less (p := p) (loose := loose) (mean := mean) (mg := mg) (mb := mb) (X.keeps F.keep) (T.keeps F.keep) (by show dp + 1 + 4 < _; omega) (by show un + 3 + 80 < _; omega) a b j d e (la.keeps F.keep) (lb.keeps F.keep) fun h' tk' g => ?_
  walk_at "my:steps"
  exact ret _ _ (F.keeps g).keep
end Mine
/- part Run2 -/
namespace Mine
section
variable {prog : Program} {w : World} {A : Around} {E : Value → Shared → Prop} {s : Shared} {env : Env} {h₀ : Heap} {target : PySem.Expr} {body : List Stmt} {Q : Flow → Shared → Prop}
theorem turns_list {ax : Addr} {lo : Obj} {vs : List Value} {n : Nat} {m₀ : Str → Option Value} {news : List (Addr × Obj)} (J : List Value → (Str → Option Value) → List (Addr × Obj) → Prop)
    (hh : A.handled = none) (F : Fr h₀ env.locals s.heap m₀) (N : News h₀ env.locals s.heap news) (hm : (ax, lo) ∈ news) (hc : lo.cls = .type "list") (hd : lo.data = .seq vs.toArray n) (hJ : J vs m₀ news)
    (turn : ∀ (I : Addr) v r m nx (it : Obj) h tk, J (v :: r) m nx → it.cls = .type "list_iterator" → (ax, lo) ∈ nx → (∀ p ∈ nx, p.1 ≠ I) → Fr h₀ env.locals h m → News h₀ env.locals h ((I, it) :: nx) →
      wpAny (model prog w) A (assign target env v) (fun _ s₂ => wpAny (model prog w) A (execs body env) (UnrPost h₀ env.locals { s with heap := h, toks := tk } I it (fun m' n' => (ax, lo) ∈ n' ∧ J r m' n') Q) E s₂) E { s with heap := h, toks := tk })
    (done : ∀ m nx h tk, J [] m nx → Fr h₀ env.locals h m → News h₀ env.locals h nx → Q .next { s with heap := h, toks := tk }) :
    wpAny (model prog w) A (pyIter (.ref ax)) (fun it s₂ => TurnsAt prog w A h₀ env target body Q E it s₂) E s := by
  refine iter_listTurns hh F N hm hc hd fun I hI => ?_
  have key : ∀ r m nx, (∀ p ∈ nx, p.1 ≠ I) → (ax, lo) ∈ nx → J r m nx → ItemsRest prog w A E h₀ env target body Q s [(I, "list_iterator")] [(ax, lo)] (r.map .val) m nx := by
    intro r
    induction r with
    | nil => exact fun m nx _ _ hj => ItemsRest.zero fun h tk F' N' => done m nx h tk hj F' N'
    | cons v r ih =>
      intro m nx ho hmem hj
      refine ItemsRest.val fun h tk F' => AllObj.cons fun it hc' => AllObj.nil fun N' => ?_
      refine wpAny_mono (turn I v r m nx it h tk hj hc' hmem ho F' N') (fun _ s₂ z => wpAny_mono z (fun f s₃ p => ?_) fun _ _ e => e) fun _ _ e => e
      have conv : UnrEnd h₀ env.locals { s with heap := h, toks := tk } I it (fun m' n' => (ax, lo) ∈ n' ∧ J r m' n') s₃ →
          UnrEndW h₀ env.locals { s with heap := h, toks := tk } [(I, it)] (fun m' n' => SubL [(ax, lo)] n' ∧ ItemsRest prog w A E h₀ env target body Q s [(I, "list_iterator")] [(ax, lo)] (r.map .val) m' n') s₃ := by
        rintro ⟨h', tk', m', news', e, F2, N2, ho2, hmem2, hj2⟩
        exact ⟨h', tk', m', news', e, F2, N2, (fun q hq q' hq' => by rw [List.mem_singleton.mp hq']; exact ho2 q hq), And.intro hmem2 trivial, ih m' news' ho2 hmem2 hj2⟩
      cases f with
      | ret v => exact p
      | brk => exact p
      | next => exact conv p
      | cont => exact conv p
  exact key vs m₀ news (fun p hp => Nat.ne_of_lt (hI p hp)) hm hJ
end
theorem Lead.move {h H : Heap} {x : Addr} {j d : Nat} (l : Lead h x j d) (k : ∀ b o, h.get? b = some o → (∀ fs, o.data ≠ .fields fs) → o.cls ≠ .type "list" → H.get? b = some o) : Lead H x j d := by
  obtain ⟨dx, es, n', P, C, cv, t1, t2, t3, a1, a2, a3, a4, a5, a6, a7, a8, a9, a10⟩ := l
  exact ⟨dx, es, n', P, C, cv, t1, t2, t3, k _ _ a1 (fun _ e => by cases e) (by simp), k _ _ a2 (fun _ e => by cases e) (by simp), a3, a4, a5, a6, a7, k _ _ a8 (fun _ e => by cases e) (by simp), k _ _ a9 (fun _ e => by cases e) (by simp), a10⟩
/-- a list of references, each with its number of dots -/
inductive Each (P : Addr → Nat → Prop) : List Value → List Nat → Prop
  | nil : Each P [] []
  | cons {a : Addr} {d : Nat} {vs : List Value} {ds : List Nat} : P a d → Each P vs ds → Each P (.ref a :: vs) (d :: ds)
theorem Each.length {P : Addr → Nat → Prop} : ∀ {vs : List Value} {ds : List Nat}, Each P vs ds → vs.length = ds.length
  | _, _, .nil => rfl
  | _, _, .cons _ r => congrArg (· + 1) r.length
theorem Each.at {P : Addr → Nat → Prop} {v : Value} : ∀ {vs : List Value} {ds : List Nat}, Each P vs ds → ∀ {i : Nat}, vs[i]? = some v → ∃ a d, ds[i]? = some d ∧ v = .ref a ∧ P a d
  | _, _, .cons (a := a) (d := d) l r, 0, e => ⟨a, d, rfl, (Option.some.inj e).symm, l⟩
  | _, _, .cons _ r, _ + 1, e => r.at e
theorem Each.app {P : Addr → Nat → Prop} : ∀ {vs : List Value} {ds : List Nat} {ws : List Value} {es : List Nat}, Each P vs ds → Each P ws es → Each P (vs ++ ws) (ds ++ es)
  | _, _, _, _, .nil, h => h
  | _, _, _, _, .cons l r, h => .cons l (r.app h)
theorem Each.snoc {P : Addr → Nat → Prop} {vs : List Value} {ds : List Nat} {a : Addr} {d : Nat} (x : Each P vs ds) (l : P a d) : Each P (vs ++ [.ref a]) (ds ++ [d]) := x.app (.cons l .nil)
theorem Each.take {P : Addr → Nat → Prop} : ∀ {vs : List Value} {ds : List Nat} (k : Nat), Each P vs ds → Each P (vs.take k) (ds.take k)
  | _, _, 0, _ => by simp; exact .nil
  | _, _, k + 1, .nil => by simp; exact .nil
  | _, _, k + 1, .cons l r => by simp; exact .cons l (r.take k)
theorem Each.drop {P : Addr → Nat → Prop} : ∀ {vs : List Value} {ds : List Nat} (k : Nat), Each P vs ds → Each P (vs.drop k) (ds.drop k)
  | _, _, 0, h => by simpa using h
  | _, _, k + 1, .nil => by simp; exact .nil
  | _, _, k + 1, .cons l r => by simp; exact r.drop k
theorem Each.rev {P : Addr → Nat → Prop} : ∀ {vs : List Value} {ds : List Nat}, Each P vs ds → Each P vs.reverse ds.reverse
  | _, _, .nil => .nil
  | _, _, .cons l r => by rw [List.reverse_cons, List.reverse_cons]; exact r.rev.snoc l
/-- one car more comes to the siding -/
noncomputable def runStep (st : List Nat × List Nat) (car : Nat) : List Nat × List Nat :=
  let kept := bisP (fun i => !decide (st.1.getD i 0 < car)) (st.1.length + 1) 0 st.1.length
  (st.1.take kept ++ [car], st.2 ++ (st.1.drop kept).reverse)
noncomputable def runL (ds : List Nat) : List Nat := (ds.foldl runStep ([], [])).2 ++ (ds.foldl runStep ([], [])).1.reverse
/-- the table of the codes made in _law_run: empty, or with the lambda's code, which is no part of the base -/
noncomputable def TabB (B h : Heap) : Prop := ∃ ps, h.get? 155 = some (tabObj ps) ∧ (ps = #[] ∨ ∃ c' oc vs t, ps = #[rawInt 132, rawInt 45, .ref c'] ∧ h.get? c' = some oc ∧ oc.data = .fields vs ∧ vs[1]? = some (.str (Str.ofString "_law_run.<locals>.<lambda>") t) ∧ (@Ne Nat c' 155) ∧ B.get? c' = none)
section
variable {prog : Program} {w : World} {A : Around} {E : Value → Shared → Prop} {s : Shared} {h₀ : Heap} {L : Addr} {m : Str → Option Value} {news : List (Addr × Obj)}
theorem revAny {value slice : PySem.Expr} {l : Addr} {vs : List Value} {vk : Value} {ops : List Value} {Q : Value → Shared → Prop}
    (F : Fr h₀ L s.heap m) (N : News h₀ L s.heap news) (hl : s.heap.IsList l vs.toArray) (pk : IsPart vk (some (-1)))
    (h : ∀ D h', Fr h₀ L h' m → News h₀ L h' ((D, listOf vs.reverse.toArray 0) :: news) → (∀ p ∈ news, p.1 < D) → Q (.ref D) { s with heap := h' })
    (hs : subscripted slice false (.ref l) (.ref s.heap.objs.size) = operate ops (getItem (.ref l) (.ref s.heap.objs.size))) (hsz : vs.length ≤ sizeLine) :
    wpAny (model prog w) A (subscriptTail value slice (.ref l) (.ref s.heap.objs.size)) Q E { s with heap := s.heap.push { cls := .type "slice", data := .fields #[.none, .none, vk] } } := by
  refine tail_any (Heap.IsList.typeIs (s := { s with heap := s.heap.push { cls := .type "slice", data := .fields #[.none, .none, vk] } }) (hl.push _)) list_getitem_lookup
    (wpAny_getItem_list_slice (hl.push _) (Heap.IsSliceOf.new ..) .none .none pk (by decide) ?_ (by rw [List.size_toArray]; exact hsz)) hs
  have N1 := News.push (F.push { cls := .type "slice", data := .fields #[.none, .none, vk] }) (N.grown fun _ _ e => Heap.get?_push_of_some _ e) { cls := .type "list", data := .seq (slicePick vs.toArray none none (some (-1))) }
  rw [Heap.size_push] at N1
  show Q (.ref (s.heap.push _).objs.size) _
  rw [Heap.size_push]
  refine h _ _ ((F.push _).push _) ?_ fun p hp => Nat.lt_succ_of_lt (Heap.lt_size (N p hp).1)
  have e : slicePick vs.toArray none none (some (-1)) = vs.reverse.toArray := krv_pick vs.toArray
  rw [e] at N1 ⊢
  exact N1
end
section
variable {prog : Program} {w : World} {A : Around} {E : Value → Shared → Prop} {s : Shared} {h₀ : Heap} {L : Addr} {m : Str → Option Value} {news : List (Addr × Obj)}
theorem extAny {D b : Addr} {v1 v2 : List Value} {n n2 : Nat} {g : Obj → List (Addr × Obj)} {Q : Value → Shared → Prop} (F : Fr h₀ L s.heap m) (N : News h₀ L s.heap news) (hb : (b, listOf v2.toArray n2) ∈ news)
    (U : ∀ o, Upd D (listOf v1.toArray n) o news (g o)) (h1 : v1.length ≤ 1000) (h2 : v2.length ≤ 1000)
    (h : ∀ h' n', Fr h₀ L h' m → News h₀ L h' (g (listOf (v1 ++ v2).toArray n')) → Q .none { s with heap := h' }) : wpAny (model prog w) A (call (.builtin "list.extend") [.ref D, .ref b]) Q E s := by
  have hd : ¬(!(v1.toArray).isEmpty && Builtin.List.listTooLong (v1.toArray.size + v2.toArray.size)) = true := by
    have : Builtin.List.listTooLong (v1.toArray.size + v2.toArray.size) = false := by
      unfold Builtin.List.listTooLong
      refine decide_eq_false ?_
      rw [List.size_toArray, List.size_toArray, sizeLine_eq]; omega
    rw [this, Bool.and_false]; exact Bool.false_ne_true
  cases v2 with
  | nil =>
    refine kxn_extend F N hb rfl (U _) hd (by simp [sizeLine_eq]; omega) (by simp [sizeLine_eq]; omega) fun h' F' N' => h h' n F' ?_
    rw [List.append_nil]; exact N'
  | cons v r =>
    exact kl_extend F N hb (by simp) (by simp) (U _) hd (by simp [sizeLine_eq]; omega) (by simp [sizeLine_eq] at h2 ⊢; omega) fun h' F' N' => h h' (n + 1) F' N'
end
theorem pick_from (vs : List Value) {k : Nat} (h : k ≤ vs.length) : slicePick vs.toArray (some (k : Int)) none none = (vs.drop k).toArray := by
  rw [kms_pick_eq]
  congr 1
  unfold kms_pick kms_lo kms_hi
  dsimp only
  rw [if_neg (by omega), Int.toNat_natCast, Nat.min_eq_left h, List.take_of_length_le (by rw [List.length_drop]; omega)]
theorem pick_upto (vs : List Value) {k : Nat} (h : k ≤ vs.length) : slicePick vs.toArray none (some (k : Int)) none = (vs.take k).toArray := by
  rw [kms_pick_eq]
  congr 1
  unfold kms_pick kms_lo kms_hi
  dsimp only
  rw [if_neg (by omega), Int.toNat_natCast, Nat.min_eq_left h, List.drop_zero, Nat.sub_zero]
theorem runStep_eq {st : List Nat × List Nat} {e kp : Nat} (h : bisP (fun i => !decide (st.1.getD i 0 < e)) (st.1.length + 1) 0 st.1.length = kp) : runStep st e = (st.1.take kp ++ [e], st.2 ++ (st.1.drop kp).reverse) := by
  subst h; rfl
theorem run_len : ∀ (ds : List Nat) (st : List Nat × List Nat), (ds.foldl runStep st).1.length + (ds.foldl runStep st).2.length = st.1.length + st.2.length + ds.length
  | [], st => rfl
  | d :: r, st => by
    rw [List.foldl_cons, run_len r]
    have hk := bisP_le (fun i => !decide (st.1.getD i 0 < d)) (st.1.length + 1) 0 st.1.length (Nat.zero_le _)
    unfold runStep
    simp only [List.length_append, List.length_take, List.length_reverse, List.length_drop, List.length_cons, List.length_nil]
    omega
theorem recKeeps {h h' : Heap} {v : Value} {q : Str} (x : h.CodeRec v q) (g : Grows h h') : h'.CodeRec v q := let ⟨a, b, c, d, e, f, i⟩ := x; ⟨a, b, c, d, e, g _ _ f, i⟩
noncomputable def TbIs (tb : List (Addr × Obj)) : Prop := tb = [(155, tabObj #[])] ∨
  ∃ c' occ fs t, tb = [(155, tabObj #[rawInt 132, rawInt 45, .ref c']), (c', occ)] ∧ occ.data = .fields fs ∧ fs[1]? = some (.str (Str.ofString "_law_run.<locals>.<lambda>") t) ∧ (@Ne Nat c' 155)
theorem qual_eq : (Str.ofString "_law_run" ++ Str.ofString ".<locals>.") ++ Str.ofString "<lambda>" = Str.ofString "_law_run.<locals>.<lambda>" := by decide +kernel
theorem cod_ne {h : Heap} {c d : Addr} {o : Obj} {fs its : Array Value} {n : Nat} (h1 : o.data = .fields fs) (h2 : h.get? c = some o) (h3 : h.get? d = some (listOf its n)) : @Ne Nat c d := by
  rintro rfl
  rw [h2] at h3
  have := congrArg Obj.data (Option.some.inj h3)
  rw [h1] at this
  simp at this
theorem cod_cell {h : Heap} {c d : Addr} {o o' : Obj} {fs : Array Value} {ov : Option Value} (h1 : o.data = .fields fs) (h1' : o'.data = .cell ov) (h2 : h.get? c = some o) (h3 : h.get? d = some o') : @Ne Nat c d := by
  rintro rfl
  rw [h2] at h3
  have := congrArg Obj.data (Option.some.inj h3)
  rw [h1, h1'] at this
  simp at this
theorem tbis2 {c' : Addr} {occ : Obj} {fs : Array Value} {q : Str} {t : Tok} (h1 : occ.data = .fields fs) (h2 : fs[1]? = some (.str q t)) (e : q = Str.ofString "_law_run.<locals>.<lambda>") (e2 : @Ne Nat c' 155) :
    TbIs [(155, tabObj (#[] ++ #[rawInt ((132 : Nat) : Int), rawInt ((45 : Nat) : Int), .ref c'])), (c', occ)] := by
  subst e
  refine .inr ⟨c', occ, fs, t, ?_, h1, h2, e2⟩
  simp
/-- a heap to stand on: the given one less the list to walk over, the table of the codes and the code in it -/
theorem run_base {B h : Heap} {a : Addr} {its : Array Value} {k j : Nat} {P : Addr → Nat → Prop} (gB : Grows B h) (hB155 : B.get? 155 = none) (hBa : B.get? a = none) (hl : h.get? a = some (listOf its k)) (hP : ∀ b e, P b e → Lead h b j e) (ht : TabB B h) :
    ∃ (H : Heap) (tb0 : List (Addr × Obj)), Grows B H ∧ (∀ b o, H.get? b = some o → h.get? b = some o) ∧ H.objs.size = h.objs.size ∧ H.get? a = none ∧ (∀ q ∈ tb0, h.get? q.1 = some q.2 ∧ H.get? q.1 = none) ∧ (∀ b e, P b e → Lead H b j e) ∧ TbIs tb0 ∧
      (∀ b o, h.get? b = some o → b ≠ a → (∀ q ∈ tb0, q.1 ≠ b) → H.get? b = some o) := by
  have key : ∀ (l : List Addr) (tb0 : List (Addr × Obj)), a ∈ l → (∀ b ∈ l, B.get? b = none) → (∀ b ∈ l, b = a ∨ ∃ q ∈ tb0, q.1 = b) → (∀ q ∈ tb0, h.get? q.1 = some q.2 ∧ q.1 ∈ l ∧ ∃ fs, q.2.data = .fields fs) →
      Grows B (hideAll h l) ∧ (∀ b o, (hideAll h l).get? b = some o → h.get? b = some o) ∧ (hideAll h l).objs.size = h.objs.size ∧ (hideAll h l).get? a = none ∧ (∀ q ∈ tb0, h.get? q.1 = some q.2 ∧ (hideAll h l).get? q.1 = none) ∧ (∀ b e, P b e → Lead (hideAll h l) b j e) ∧
      (∀ b o, h.get? b = some o → b ≠ a → (∀ q ∈ tb0, q.1 ≠ b) → (hideAll h l).get? b = some o) := by
    intro l tb0 ha hb hl2 ht
    refine ⟨fun b o e => hideAll_get l (gB b o e) fun q => (by rw [hb b q] at e; cases e), fun b o e => of_hideAll l e, hideAll_size l h, hideAll_none l ha, fun q hq => ⟨(ht q hq).1, hideAll_none l (ht q hq).2.1⟩, fun b e x => (hP b e x).move fun b' o e hd hc => hideAll_get l e fun q => ?_, fun b o e hba hbt => hideAll_get l e fun q => ?_⟩
    · rcases hl2 _ q with rfl | ⟨q', hq', rfl⟩
      · rw [hl] at e; exact hc (by rw [← Option.some.inj e])
      · obtain ⟨h1, _, fs, h3⟩ := ht q' hq'
        rw [h1] at e
        exact hd fs (by rw [← Option.some.inj e]; exact h3)
    · rcases hl2 _ q with rfl | ⟨q', hq', rfl⟩
      · exact hba rfl
      · exact hbt q' hq' rfl
  obtain ⟨ps, hps, rfl | ⟨c', oc, fs, t, rfl, hc, h1, h2, h3, h4⟩⟩ := ht
  · obtain ⟨k1, k2, k3, k4, k5, k6, k7⟩ := key [155, a] [(155, tabObj #[])] (.tail _ (.head _)) (by simp [hB155, hBa]) (by simp) (fun q hq => by rw [List.mem_singleton.mp hq]; exact ⟨hps, .head _, _, rfl⟩)
    exact ⟨_, _, k1, k2, k3, k4, k5, k6, .inl rfl, k7⟩
  · obtain ⟨k1, k2, k3, k4, k5, k6, k7⟩ := key [155, a, c'] [(155, tabObj #[rawInt 132, rawInt 45, .ref c']), (c', oc)] (.tail _ (.head _)) (by simp [hB155, hBa, h4]) (by simp) (fun q hq => by
      rcases List.mem_cons.mp hq with rfl | hq
      · exact ⟨hps, .head _, _, rfl⟩
      · rw [List.mem_singleton.mp hq]; exact ⟨hc, .tail _ (.tail _ (.head _)), _, h1⟩)
    exact ⟨_, _, k1, k2, k3, k4, k5, k6, .inr ⟨c', oc, fs, t, rfl, h1, h2, h3⟩, k7⟩
local macro_rules | `(tactic| k_ne) => `(tactic| first | (refine neN ?_; (try dsimp only); assumption) | (refine neN ?_; (try dsimp only); refine Ne.symm ?_; assumption))
local macro_rules | `(tactic| walk_at "call ref") => `(tactic| refine hold ?_)
local macro_rules | `(tactic| walk_at "my:steps") => `(tactic| repeat' (first | (k_unfold; (try dsimp only)) | walk1 | (dsimp only; walk1)))
local macro_rules | `(tactic| walk_at "exec For Name Name cons nil") => `(tactic| refine hold ?_)
local macro_rules | `(tactic| walk_at "subscriptTail Name Slice ref ref") => `(tactic| refine hold ?_)
local macro_rules | `(tactic| walk_at "subscriptTail Subscript Slice ref ref") => `(tactic| refine hold ?_)
local macro_rules | `(tactic| walk_at "subscriptTail") => `(tactic| refine hold ?_)
local macro_rules | `(tactic| walk_at "call builtin:list.extend") => `(tactic| refine hold ?_)
local macro_rules | `(tactic| walk_at "binaryOp Add ref ref") => `(tactic| refine hold ?_)
local macro_rules | `(tactic| walk_at "UnrEnd") => `(tactic| refine hold ?_)
local macro_rules | `(tactic| walk_at "pyIter ref") => `(tactic| refine hold ?_)
set_option maxRecDepth 100000 in
set_option maxHeartbeats 8000000 in
theorem c_run {w : World} {dp un : Nat} {fr : Option (List Env)} {gd : Option (List Code)} {s : Shared} {p : Program} {loose : List Str} {mean : ExcName → Option Value} {mg mb : Str → Option Value} {Q E : Value → Shared → Prop}
    {B : Heap} (a : Addr) (gB : Grows B s.heap) (X : (hd.heap_39 w.params).In B) (T : Top p loose mean mg mb B) (C : CodeHd B 159 155) (hB155 : B.get? 155 = none) (hBa : B.get? a = none) (hroom : dp + 12 < recursionLimit) (hu : un + 120 < cLine)
    (vs : List Value) (k : Nat) (j : Nat) (ds : List Nat) (hl : s.heap.get? a = some (listOf vs.toArray k)) (P : Addr → Nat → Prop) (hP : ∀ b e, P b e → Lead s.heap b j e) (hi : Each P vs ds) (hn : ds.length ≤ 20) (ht : TabB B s.heap)
    (ret : ∀ (r : Addr) (vs' : List Value) (n' : Nat) (h' : Heap) (tk' : Nat), (∀ b o, b ≠ 155 → s.heap.get? b = some o → h'.get? b = some o) → TabB B h' → h'.get? r = some (listOf vs'.toArray n') → s.heap.get? r = none → Each P vs' (runL ds) → Q (.ref r) { s with heap := h', toks := tk' }) :
    wpAny (model Challenge.rw_rw0101_01.row.prog w) (Am dp un fr gd) (call (.ref 160) [.ref a]) Q E s := by
  have X0 := X.keeps gB
  have T0 := T.keeps gB
  obtain ⟨H, tb0, gBH, gH, szH, hHa, hHtb, hP', htb0, hback⟩ := run_base gB hB155 hBa hl hP ht
  replace X := X.keeps gBH
  replace T := T.keeps gBH
  replace C := C.keeps gBH
  clear ht hP
  w_top off; revert X; k_fill; intro X
  refine wpAny_call ?_
  refine enterC (f := 160) (binds := [(Str.ofString "cars", .ref a)]) X0 T0.nolimit (by k_is) (by k_is) (by show dp < _; omega) (BindsTo.of_eq rfl) (by rfl) (by decide) ?_ rfl rfl rfl
  intro L' h₁ tk cells eL F0 N0 Y
  obtain ⟨oc, rfl, hoc⟩ : ∃ oc, cells = [(L' + 1, oc)] ∧ oc.data = .cell none := by
    cases Y with | cons h r => cases r; exact ⟨_, rfl, h⟩
  clear Y
  have F : Fr H L' h₁ _ := ⟨F0.ns, fun b o e => F0.keep b o (gH _ _ e), by rw [szH]; exact F0.above⟩
  have hc0 := N0 _ (.head _)
  have N : News H L' h₁ ((L' + 1, oc) :: (a, listOf vs.toArray k) :: tb0) := fun q hq => by
    rcases List.mem_cons.mp hq with rfl | hq
    · refine ⟨hc0.1, hc0.2.1, ?_⟩
      cases e : H.get? (L' + 1) with
      | none => rfl
      | some o => have := gH _ _ e; rw [hc0.2.2] at this; cases this
    · rcases List.mem_cons.mp hq with rfl | hq
      · exact ⟨F0.keep _ _ hl, by rw [eL]; exact Nat.ne_of_lt (Heap.lt_size hl), hHa⟩
      · exact ⟨F0.keep _ _ (hHtb q hq).1, by rw [eL]; exact Nat.ne_of_lt (Heap.lt_size (hHtb q hq).1), (hHtb q hq).2⟩
  have la : @LT.lt Nat instLTNat a L' := by rw [eL]; exact Heap.lt_size hl
  have l155 : (155 : Nat) < L' := by
    rw [eL]
    rcases htb0 with rfl | ⟨c', occ, fs, t, rfl, _⟩
    · exact Heap.lt_size (hHtb _ (.head _)).1
    · exact Heap.lt_size (hHtb _ (.head _)).1
  have n155 : @Ne Nat 155 a := by
    rintro rfl
    have e : ∃ ps, s.heap.get? 155 = some (tabObj ps) := by
      rcases htb0 with rfl | ⟨c', occ, fs, t, rfl, _⟩
      · exact ⟨_, (hHtb _ (.head _)).1⟩
      · exact ⟨_, (hHtb _ (.head _)).1⟩
    obtain ⟨ps, e⟩ := e
    rw [hl] at e
    exact absurd (congrArg Obj.cls (Option.some.inj e)) (by simp)
  clear F0 N0 hc0
  walk_at "my:steps"
  refine ⟨?_⟩
  rename Fr _ _ _ _ => F1
  rename News _ _ _ _ => N1
  refine For_turns F1 ?_
  walk_at "my:steps"
  refine ⟨?_⟩
  rename Fr _ _ _ _ => F2
  rename News _ _ _ _ => N2
  have q1 := N2
  refine turns_list (fun r m nx => ∃ (dd dr : List Nat) (D1 D2 : Addr) (s1 s2 : List Value) (n1 n2 : Nat) (oc : Obj) (tb : List (Addr × Obj)), ds = dd ++ dr ∧ Each P r dr ∧ Each P s1 (dd.foldl runStep ([], [])).1 ∧ Each P s2 (dd.foldl runStep ([], [])).2 ∧
      Has m [(Str.ofString "siding", .ref D1), (Str.ofString "gone", .ref D2)] ∧ nx = (D2, listOf s2.toArray n2) :: (D1, listOf s1.toArray n1) :: (L' + 1, oc) :: (a, listOf vs.toArray k) :: tb ∧ (∃ ov, oc.data = .cell ov) ∧ (TbIs tb ∧ (tb0 = [(155, tabObj #[])] ∨ tb = tb0)) ∧ (@Ne Nat D1 D2) ∧ L' + 1 < D1 ∧ L' + 1 < D2)
    rfl F2 N2 (.tail _ (.tail _ (.tail _ (.head _)))) rfl rfl ?_ ?turn ?done
  case turn =>
    rintro I v r m nx it h tk ⟨dd, dr, D1, D2, s1, s2, n1, n2, oc', tb, hds, hr, h1, h2, hm, rfl, ⟨ov, hov⟩, ⟨htb, hrel⟩, hD, g1, g2⟩ hic hmem ho F N
    replace F := frView F hm
    obtain ⟨b, e, dr', ev, rfl, pb, hr'⟩ : ∃ b e dr', v = .ref b ∧ dr = e :: dr' ∧ P b e ∧ Each P r dr' := by
      cases hr with | cons l r' => exact ⟨_, _, _, rfl, rfl, l, r'⟩
    subst ev
    have lb := hP' b e pb
    have o1 : @Ne Nat (D2) I := ho _ (.head _)
    have o2 : @Ne Nat (D1) I := ho _ (.tail _ (.head _))
    have o3 : @Ne Nat (L' + 1) I := ho _ (.tail _ (.tail _ (.head _)))
    have o4 : @Ne Nat (a) I := ho _ (.tail _ (.tail _ (.tail _ (.head _))))
    rcases htb with rfl | ⟨c', occ, fs, t, rfl, hc1, hc2, hc9⟩
    · have o5 : @Ne Nat 155 I := ho _ (.tail _ (.tail _ (.tail _ (.tail _ (.head _)))))
      clear F2 N2 hm ho q1
      walk_at "my:steps"
      refine ⟨?_⟩
      --TAIL
      clear F N
      rename Fr _ _ _ _ => F3
      rename News _ _ _ _ => N3
      rename (Obj.data _ = Data.cell (some _)) => hcv
      rename (Obj.data _ = Data.fields _) => hcf
      rename (_ = some (Value.str _ _)) => hcq
      have hcr := codeRec_news N3 (.tail _ (.head _)) hcf hcq
      have hlen := run_len dd ([], [])
      have hdl : dd.length ≤ 20 := by rw [hds, List.length_append] at hn; omega
      refine c_bisK (p := p) (loose := loose) (mean := mean) (mg := mg) (mb := mb) (X.keeps F3.keep) (T.keeps F3.keep) (by show dp + 1 + 4 < _; omega) (by show un + 3 + 80 < _; omega) D1 _ ⟨_, _, _, _, (N3 _ (.head _)).1⟩ s1 ⟨_, (N3 _ (.tail _ (.tail _ (.tail _ (.tail _ (.head _)))))).1, rfl, n1, rfl⟩ (by rw [h1.length]; simp at hlen; omega) (fun i => decide ((dd.foldl runStep ([], [])).1.getD i 0 < e)) ?key1 ?ret1
      case key1 =>
        intro i v hv fr' h4 tk4 Q' E' g4 kq
        obtain ⟨a', d', hd', rfl, pa'⟩ := h1.at hv
        have la' := hP' a' d' pa'
        have g5 : Grows H h4 := Grows.trans F3.keep g4
        refine c_lam (p := p) (loose := loose) (mean := mean) (mg := mg) (mb := mb) (X.keeps g5) (T.keeps g5) (by show dp + 1 + 1 + 8 < _; omega) (by show un + 3 + 3 + 100 < _; omega) (g4 _ _ (N3 _ (.head _)).1) (recKeeps hcr g4) (g4 _ _ (N3 _ (.tail _ (.tail _ (.tail _ (.tail _ (.tail _ (.head _))))))).1) hcv (la'.keeps g5) (lb.keeps g5) fun h5 tk5 g6 => ?_
        have ek : decide ((dd.foldl runStep ([], [])).1.getD i 0 < e) = decide (d' < e) := by rw [List.getD_eq_getElem?_getD, hd']; rfl
        simp only [ek] at kq
        exact kq h5 tk5 g6
      case ret1 =>
        intro t' h6 tk6 g6
        have F5 := F3.keeps g6
        have N5 := N3.grown g6
        clear F3 N3
        generalize hkp : bisP (fun i => !decide ((dd.foldl runStep ([], [])).1.getD i 0 < e)) (s1.length + 1) 0 s1.length = kp
        have hkl : kp ≤ s1.length := hkp ▸ bisP_le _ _ _ _ (Nat.zero_le _)
        have hs1 : s1.length ≤ 20 := by rw [h1.length]; simp at hlen; omega
        have hs2 : s2.length ≤ 20 := by rw [h2.length]; simp at hlen; omega
        walk_at "my:steps"
        refine ⟨?_⟩
        rename Fr _ _ _ _ => F6
        rename News _ _ _ _ => N6
        have l71 := Nat.lt_succ_of_lt (Heap.lt_size (N6 _ (.tail _ (.tail _ (.tail _ (.head _))))).1)
        refine slice_list (lo := some (kp : Int)) (hi := none) F6 N6 ⟨_, (N6 _ (.tail _ (.tail _ (.tail _ (.tail _ (.head _)))))).1, rfl, n1, rfl⟩ (.int _ _) .none ?_ (hsz := by rw [List.size_toArray, sizeLine_eq]; omega)
        intro h7 F7 N7
        rw [pick_from s1 hkl] at N7
        clear F6 N6
        walk_at "my:steps"
        refine ⟨?_⟩
        refine revAny F7 N7 ⟨_, (N7 _ (.head _)).1, rfl, _, rfl⟩ (IsPart.int _ _) ?_ (by with_unfolding_all rfl) (by rw [List.length_drop, sizeLine_eq]; omega)
        intro D8 h8 F8 N8 l8
        clear F7 N7
        have l81 : @LT.lt Nat instLTNat D2 D8 := l8 _ (.tail _ (.tail _ (.tail _ (.tail _ (.head _)))))
        walk_at "my:steps"
        refine ⟨?_⟩
        refine extAny F8 N8 (.head _) (fun o => .tail ?u1 (.tail ?u2 (.tail ?u3 (.tail ?u4 (.tail ?u5 (.head ?u6)))))) (by omega) (by rw [List.length_reverse, List.length_drop]; omega) ?_
        case u1 => exact Nat.ne_of_gt l81
        case u2 => exact Nat.ne_of_gt l71
        case u3 => k_ne
        case u4 => k_ne
        case u5 => exact Ne.symm o1
        case u6 => k_all
        intro h9 n9 F9 N9
        clear F8 N8 l8
        walk_at "my:steps"
        refine ⟨?_⟩
        refine slice_list (lo := none) (hi := some (kp : Int)) F9 N9 ⟨_, (N9 _ (.tail _ (.tail _ (.tail _ (.tail _ (.tail _ (.tail _ (.head _)))))))).1, rfl, n1, rfl⟩ .none (.int _ _) ?_ (hsz := by rw [List.size_toArray, sizeLine_eq]; omega)
        intro h10 F10 N10
        rw [pick_upto s1 hkl] at N10
        clear F9 N9
        walk_at "my:steps"
        refine ⟨?_⟩
        rename Fr _ _ _ _ => F11
        rename News _ _ _ _ => N11
        refine kmk_add_lit (zs := s1.take kp ++ [.ref b]) F11 N11 ⟨_, (N11 _ (.tail _ (.head _))).1, rfl, _, rfl⟩ ⟨_, (N11 _ (.head _)).1, rfl, _, rfl⟩ rfl ?_ (by simp [sizeLine_eq]; omega)
        intro D12 h12 F12 N12 l12
        clear F11 N11
        have l121 : @LT.lt Nat instLTNat D2 D12 := l12 _ (.tail _ (.tail _ (.tail _ (.tail _ (.tail _ (.tail _ (.tail _ (.head _))))))))
        have l122 : @LT.lt Nat instLTNat I D12 := l12 _ (.tail _ (.tail _ (.tail _ (.tail _ (.tail _ (.tail _ (.head _)))))))
        have l123 : @LT.lt Nat instLTNat D1 D12 := l12 _ (.tail _ (.tail _ (.tail _ (.tail _ (.tail _ (.tail _ (.tail _ (.tail _ (.head _)))))))))
        clear l12
        walk_at "my:steps"
        refine ⟨?_⟩
        rename Fr _ _ _ _ => F13
        rename News _ _ _ _ => N13
        have est : runStep (dd.foldl runStep ([], [])) e = ((dd.foldl runStep ([], [])).1.take kp ++ [e], (dd.foldl runStep ([], [])).2 ++ ((dd.foldl runStep ([], [])).1.drop kp).reverse) := by
          rw [h1.length] at hkp
          exact runStep_eq hkp
        refine UnrEnd.intro F13 N13 [_, _, _, _, _, _] (List.forall_mem_cons.mpr ⟨.tail _ (.tail _ (.tail _ (.tail _ (.tail _ (.tail _ (.tail _ (.head _))))))), List.forall_mem_cons.mpr ⟨.tail _ (.tail _ (.tail _ (.tail _ (.tail _ (.tail _ (.tail _ (.tail _ (.head _)))))))), List.forall_mem_cons.mpr ⟨.head _, List.forall_mem_cons.mpr ⟨.tail _ (.tail _ (.tail _ (.tail _ (.tail _ (.tail _ (.tail _ (.tail _ (.tail _ (.tail _ (.head _)))))))))), List.forall_mem_cons.mpr ⟨.tail _ (.tail _ (.tail _ (.tail _ (.tail _ (.tail _ (.tail _ (.tail _ (.tail _ (.tail _ (.tail _ (.head _))))))))))), List.forall_mem_cons.mpr ⟨.tail _ (.tail _ (.tail _ (.tail _ (.tail _ (.tail _ (.tail _ (.tail _ (.tail _ (.tail _ (.tail _ (.tail _ (.head _)))))))))))), List.forall_mem_cons.mpr ⟨.tail _ (.tail _ (.tail _ (.tail _ (.tail _ (.tail _ (.head _)))))), fun _ h => nomatch h⟩⟩⟩⟩⟩⟩⟩) (List.forall_mem_cons.mpr ⟨o1, List.forall_mem_cons.mpr ⟨Nat.ne_of_gt l122, List.forall_mem_cons.mpr ⟨o3, List.forall_mem_cons.mpr ⟨o4, List.forall_mem_cons.mpr ⟨o5, List.forall_mem_cons.mpr ⟨(by k_ne), fun _ h => nomatch h⟩⟩⟩⟩⟩⟩) ⟨.tail _ (.tail _ (.tail _ (.head _))), dd ++ [e], dr', D12, D2, _, _, _, _, _, [_, _], ?e1, hr', ?e2, ?e3, ⟨rfl, rfl, trivial⟩, rfl, ⟨_, hcv⟩, ?e4, Nat.ne_of_gt l121, Nat.lt_trans g1 l123, g2⟩
        case e1 => rw [hds, List.append_assoc]; rfl
        case e2 => rw [List.foldl_append, List.foldl_cons, List.foldl_nil, est]; exact (h1.take kp).snoc pb
        case e3 => rw [List.foldl_append, List.foldl_cons, List.foldl_nil, est]; exact h2.app (h1.drop kp).rev
        case e4 => exact ⟨tbis2 hcf hcq qual_eq (by k_ne), .inl (hrel.elim id Eq.symm)⟩
    · have o5 : @Ne Nat 155 I := ho _ (.tail _ (.tail _ (.tail _ (.tail _ (.head _)))))
      have o6 : @Ne Nat c' I := ho _ (.tail _ (.tail _ (.tail _ (.tail _ (.tail _ (.head _))))))
      have t1 : @Ne Nat D2 (L' + 1) := by omega
      have t2 : @Ne Nat D1 (L' + 1) := by omega
      have t3 : @Ne Nat a (L' + 1) := by omega
      have p1 := cod_ne hc1 (N _ (.tail _ (.tail _ (.tail _ (.tail _ (.tail _ (.tail _ (.head _)))))))).1 (N _ (.tail _ (.head _))).1
      have p2 := cod_cell hc1 hov (N _ (.tail _ (.tail _ (.tail _ (.tail _ (.tail _ (.tail _ (.head _)))))))).1 (N _ (.tail _ (.tail _ (.tail _ (.head _))))).1
      clear F2 N2 hm ho q1
      walk_at "my:steps"
      refine ⟨?_⟩
      clear F N
      rename Fr _ _ _ _ => F3
      rename News _ _ _ _ => N3
      rename (Obj.data _ = Data.cell (some _)) => hcv
      have hcf := hc1
      have hcq : fs[1]? = some (Value.str ((Str.ofString "_law_run" ++ Str.ofString ".<locals>.") ++ Str.ofString "<lambda>") t) := by rw [qual_eq]; exact hc2
      have hcr := codeRec_news N3 (.tail _ (.tail _ (.tail _ (.tail _ (.tail _ (.tail _ (.tail _ (.head _)))))))) hcf hcq
      have hlen := run_len dd ([], [])
      have hdl : dd.length ≤ 20 := by rw [hds, List.length_append] at hn; omega
      refine c_bisK (p := p) (loose := loose) (mean := mean) (mg := mg) (mb := mb) (X.keeps F3.keep) (T.keeps F3.keep) (by show dp + 1 + 4 < _; omega) (by show un + 3 + 80 < _; omega) D1 _ ⟨_, _, _, _, (N3 _ (.head _)).1⟩ s1 ⟨_, (N3 _ (.tail _ (.tail _ (.tail _ (.head _))))).1, rfl, n1, rfl⟩ (by rw [h1.length]; simp at hlen; omega) (fun i => decide ((dd.foldl runStep ([], [])).1.getD i 0 < e)) ?key1 ?ret1
      case key1 =>
        intro i v hv fr' h4 tk4 Q' E' g4 kq
        obtain ⟨a', d', hd', rfl, pa'⟩ := h1.at hv
        have la' := hP' a' d' pa'
        have g5 : Grows H h4 := Grows.trans F3.keep g4
        refine c_lam (p := p) (loose := loose) (mean := mean) (mg := mg) (mb := mb) (X.keeps g5) (T.keeps g5) (by show dp + 1 + 1 + 8 < _; omega) (by show un + 3 + 3 + 100 < _; omega) (g4 _ _ (N3 _ (.head _)).1) (recKeeps hcr g4) (g4 _ _ (N3 _ (.tail _ (.tail _ (.tail _ (.tail _ (.head _)))))).1) hcv (la'.keeps g5) (lb.keeps g5) fun h5 tk5 g6 => ?_
        have ek : decide ((dd.foldl runStep ([], [])).1.getD i 0 < e) = decide (d' < e) := by rw [List.getD_eq_getElem?_getD, hd']; rfl
        simp only [ek] at kq
        exact kq h5 tk5 g6
      case ret1 =>
        intro t' h6 tk6 g6
        have F5 := F3.keeps g6
        have N5 := N3.grown g6
        clear F3 N3
        generalize hkp : bisP (fun i => !decide ((dd.foldl runStep ([], [])).1.getD i 0 < e)) (s1.length + 1) 0 s1.length = kp
        have hkl : kp ≤ s1.length := hkp ▸ bisP_le _ _ _ _ (Nat.zero_le _)
        have hs1 : s1.length ≤ 20 := by rw [h1.length]; simp at hlen; omega
        have hs2 : s2.length ≤ 20 := by rw [h2.length]; simp at hlen; omega
        walk_at "my:steps"
        refine ⟨?_⟩
        rename Fr _ _ _ _ => F6
        rename News _ _ _ _ => N6
        have l71 := Nat.lt_succ_of_lt (Heap.lt_size (N6 _ (.tail _ (.tail _ (.head _)))).1)
        refine slice_list (lo := some (kp : Int)) (hi := none) F6 N6 ⟨_, (N6 _ (.tail _ (.tail _ (.tail _ (.head _))))).1, rfl, n1, rfl⟩ (.int _ _) .none ?_ (hsz := by rw [List.size_toArray, sizeLine_eq]; omega)
        intro h7 F7 N7
        rw [pick_from s1 hkl] at N7
        clear F6 N6
        walk_at "my:steps"
        refine ⟨?_⟩
        refine revAny F7 N7 ⟨_, (N7 _ (.head _)).1, rfl, _, rfl⟩ (IsPart.int _ _) ?_ (by with_unfolding_all rfl) (by rw [List.length_drop, sizeLine_eq]; omega)
        intro D8 h8 F8 N8 l8
        clear F7 N7
        have l81 : @LT.lt Nat instLTNat D2 D8 := l8 _ (.tail _ (.tail _ (.tail _ (.head _))))
        walk_at "my:steps"
        refine ⟨?_⟩
        refine extAny F8 N8 (.head _) (fun o => .tail ?u1 (.tail ?u2 (.tail ?u3 (.tail ?u5 (.head ?u6))))) (by omega) (by rw [List.length_reverse, List.length_drop]; omega) ?_
        case u1 => exact Nat.ne_of_gt l81
        case u2 => exact Nat.ne_of_gt l71
        case u3 => k_ne
        case u5 => exact Ne.symm o1
        case u6 => k_all
        intro h9 n9 F9 N9
        clear F8 N8 l8
        walk_at "my:steps"
        refine ⟨?_⟩
        refine slice_list (lo := none) (hi := some (kp : Int)) F9 N9 ⟨_, (N9 _ (.tail _ (.tail _ (.tail _ (.tail _ (.tail _ (.head _))))))).1, rfl, n1, rfl⟩ .none (.int _ _) ?_ (hsz := by rw [List.size_toArray, sizeLine_eq]; omega)
        intro h10 F10 N10
        rw [pick_upto s1 hkl] at N10
        clear F9 N9
        walk_at "my:steps"
        refine ⟨?_⟩
        rename Fr _ _ _ _ => F11
        rename News _ _ _ _ => N11
        refine kmk_add_lit (zs := s1.take kp ++ [.ref b]) F11 N11 ⟨_, (N11 _ (.tail _ (.head _))).1, rfl, _, rfl⟩ ⟨_, (N11 _ (.head _)).1, rfl, _, rfl⟩ rfl ?_ (by simp [sizeLine_eq]; omega)
        intro D12 h12 F12 N12 l12
        clear F11 N11
        have l121 : @LT.lt Nat instLTNat D2 D12 := l12 _ (.tail _ (.tail _ (.tail _ (.tail _ (.tail _ (.tail _ (.head _)))))))
        have l122 : @LT.lt Nat instLTNat I D12 := l12 _ (.tail _ (.tail _ (.tail _ (.tail _ (.tail _ (.head _))))))
        have l123 : @LT.lt Nat instLTNat D1 D12 := l12 _ (.tail _ (.tail _ (.tail _ (.tail _ (.tail _ (.tail _ (.tail _ (.head _))))))))
        clear l12
        walk_at "my:steps"
        refine ⟨?_⟩
        rename Fr _ _ _ _ => F13
        rename News _ _ _ _ => N13
        have est : runStep (dd.foldl runStep ([], [])) e = ((dd.foldl runStep ([], [])).1.take kp ++ [e], (dd.foldl runStep ([], [])).2 ++ ((dd.foldl runStep ([], [])).1.drop kp).reverse) := by
          rw [h1.length] at hkp
          exact runStep_eq hkp
        refine UnrEnd.intro F13 N13 [_, _, _, _, _, _] (List.forall_mem_cons.mpr ⟨.tail _ (.tail _ (.tail _ (.tail _ (.tail _ (.tail _ (.head _)))))), List.forall_mem_cons.mpr ⟨.tail _ (.tail _ (.tail _ (.tail _ (.tail _ (.tail _ (.tail _ (.head _))))))), List.forall_mem_cons.mpr ⟨.head _, List.forall_mem_cons.mpr ⟨.tail _ (.tail _ (.tail _ (.tail _ (.tail _ (.tail _ (.tail _ (.tail _ (.tail _ (.head _))))))))), List.forall_mem_cons.mpr ⟨.tail _ (.tail _ (.tail _ (.tail _ (.tail _ (.tail _ (.tail _ (.tail _ (.tail _ (.tail _ (.head _)))))))))), List.forall_mem_cons.mpr ⟨.tail _ (.tail _ (.tail _ (.tail _ (.tail _ (.tail _ (.tail _ (.tail _ (.tail _ (.tail _ (.tail _ (.head _))))))))))), List.forall_mem_cons.mpr ⟨.tail _ (.tail _ (.tail _ (.tail _ (.tail _ (.tail _ (.tail _ (.tail _ (.tail _ (.tail _ (.tail _ (.tail _ (.head _)))))))))))), fun _ h => nomatch h⟩⟩⟩⟩⟩⟩⟩) (List.forall_mem_cons.mpr ⟨o1, List.forall_mem_cons.mpr ⟨Nat.ne_of_gt l122, List.forall_mem_cons.mpr ⟨o3, List.forall_mem_cons.mpr ⟨o4, List.forall_mem_cons.mpr ⟨o5, List.forall_mem_cons.mpr ⟨o6, fun _ h => nomatch h⟩⟩⟩⟩⟩⟩) ⟨.tail _ (.tail _ (.tail _ (.head _))), dd ++ [e], dr', D12, D2, _, _, _, _, _, [_, _], ?e1, hr', ?e2, ?e3, ⟨rfl, rfl, trivial⟩, rfl, ⟨_, hcv⟩, ?e4, Nat.ne_of_gt l121, Nat.lt_trans g1 l123, g2⟩
        case e1 => rw [hds, List.append_assoc]; rfl
        case e2 => rw [List.foldl_append, List.foldl_cons, List.foldl_nil, est]; exact (h1.take kp).snoc pb
        case e3 => rw [List.foldl_append, List.foldl_cons, List.foldl_nil, est]; exact h2.app (h1.drop kp).rev
        case e4 => exact ⟨.inr ⟨_, _, _, _, rfl, hc1, hc2, hc9⟩, hrel⟩
  case done =>
    rintro m nx h tk ⟨dd, dr, D1, D2, s1, s2, n1, n2, oc', tb, hds, hr, h1, h2, hm, rfl, ⟨ov, hov⟩, ⟨htb, hrel⟩, hD, g1, g2⟩ F N
    have hdr : dr = [] := by cases hr; rfl
    subst hdr
    rw [List.append_nil] at hds
    subst hds
    replace F := frView F hm
    have hlen := run_len ds ([], [])
    have hs1 : s1.length ≤ 20 := by rw [h1.length]; simp at hlen; omega
    have hs2 : s2.length ≤ 20 := by rw [h2.length]; simp at hlen; omega
    clear F2 N2 hm q1
    walk_at "my:steps"
    refine ⟨?_⟩
    rename Fr _ _ _ _ => F3
    rename News _ _ _ _ => N3
    refine revAny F3 N3 ⟨_, (N3 _ (.tail _ (.head _))).1, rfl, _, rfl⟩ (IsPart.int _ _) ?_ (by with_unfolding_all rfl) (by rw [sizeLine_eq]; omega)
    intro D4 h4 F4 N4 l4
    clear F3 N3
    walk_at "my:steps"
    refine ⟨?_⟩
    refine kmk_add_lit (zs := s2 ++ s1.reverse) F4 N4 ⟨_, (N4 _ (.tail _ (.head _))).1, rfl, _, rfl⟩ ⟨_, (N4 _ (.head _)).1, rfl, _, rfl⟩ rfl ?_ (by simp [sizeLine_eq]; omega)
    intro D5 h5 F5 N5 l5
    walk_at "my:steps"
    have tbAt : ∀ q ∈ tb, h5.get? q.1 = some q.2 := fun q hq => (N5 q (.tail _ (.tail _ (.tail _ (.tail _ (.tail _ (.tail _ hq))))))).1
    have tbN : ∀ q ∈ tb, H.get? q.1 = none := fun q hq => (N5 q (.tail _ (.tail _ (.tail _ (.tail _ (.tail _ (.tail _ hq))))))).2.2
    have hgr : ∀ b o, b ≠ 155 → s.heap.get? b = some o → h5.get? b = some o := by
      intro b o hb e
      by_cases hba : b = a
      · subst hba
        rw [hl] at e
        cases e
        exact (N5 _ (.tail _ (.tail _ (.tail _ (.tail _ (.tail _ (.head _))))))).1
      · by_cases hq : ∃ q ∈ tb0, q.1 = b
        · obtain ⟨q, hq, rfl⟩ := hq
          rcases hrel with h0 | h0
          · rw [h0, List.mem_singleton] at hq
            rw [hq] at hb
            exact absurd rfl hb
          · have e2 := (hHtb q hq).1
            rw [e] at e2
            have e3 := tbAt q (h0 ▸ hq)
            rw [← Option.some.inj e2] at e3
            exact e3
        · exact F5.keep _ _ (hback b o e hba fun q hq' e' => hq ⟨q, hq', e'⟩)
    have hdead : s.heap.get? D5 = none := by
      cases e : s.heap.get? D5 with
      | none => rfl
      | some o =>
        have l6 := Heap.lt_size e
        have l7 : @LT.lt Nat instLTNat L' D5 := Nat.lt_trans (Nat.lt_succ_self _) (Nat.lt_trans g2 (l5 _ (.tail _ (.head _))))
        rw [eL] at l7
        exact absurd (Nat.lt_trans l6 l7) (Nat.lt_irrefl _)
    have htab : TabB B h5 := by
      rcases htb with h0 | ⟨c', occ, fs, t, h0, hc1, hc2, hc9⟩
      · exact ⟨#[], tbAt (155, tabObj #[]) (by rw [h0]; exact .head _), .inl rfl⟩
      · refine ⟨_, tbAt (155, tabObj #[rawInt 132, rawInt 45, .ref c']) (by rw [h0]; exact .head _), .inr ⟨c', occ, fs, t, rfl, tbAt (c', occ) (by rw [h0]; exact .tail _ (.head _)), hc1, hc2, hc9, ?_⟩⟩
        cases e : B.get? c' with
        | none => rfl
        | some o => have := gBH _ _ e; rw [tbN (c', occ) (by rw [h0]; exact .tail _ (.head _))] at this; cases this
    exact ret D5 _ 0 h5 _ hgr htab (N5 _ (.head _)).1 hdead (h2.app h1.rev)
  refine ⟨[], ds, _, _, [], [], 0, 0, oc, tb0, rfl, hi, .nil, .nil, ⟨rfl, rfl, trivial⟩, rfl, ⟨_, hoc⟩, ⟨htb0, .inr rfl⟩, ?_, ?_, ?_⟩
  · first | k_ne | omega
  · omega
  · omega
end Mine
/- part TxtLaw -/
namespace Mine
section
variable {t : Array Nat} {find : Array Nat → Nat → Option (Nat × Nat)} {repl : List Nat} {n d : Nat}
theorem ext_cons {e : Nat} (h : d < t.size) (he : d + 1 ≤ e) : (t.extract d e).toList = t.getD d 0 :: (t.extract (d + 1) e).toList := by
  rw [Array.toList_extract, Array.toList_extract]
  have hd : t.toList.drop d = t.getD d 0 :: t.toList.drop (d + 1) := by
    rw [List.drop_eq_getElem_cons (by rw [Array.length_toList]; exact h)]
    congr 1
    simp [Array.getD, h]
  unfold List.extract
  rw [hd]
  obtain ⟨k, hk⟩ : ∃ k, e - d = k + 1 := ⟨e - d - 1, by omega⟩
  rw [hk, List.take_succ_cons, show e - (d + 1) = k by omega]
theorem sub_skip (h : d < t.size) (hf : find t d = find t (d + 1)) (hge : ∀ p, find t (d + 1) = some p → d + 1 ≤ p.1) : subN t find repl (n + 1) d = t.getD d 0 :: subN t find repl (n + 1) (d + 1) := by
  unfold subN
  rw [hf]
  cases e : find t (d + 1) with
  | none => exact ext_cons h (by omega)
  | some p =>
    dsimp only
    rw [ext_cons h (hge p e)]
    rfl
theorem sub_hit {b : Nat} (h : find t d = some (d, b)) : subN t find repl (n + 1) d = repl ++ subN t find repl n b := by
  conv => lhs; unfold subN
  rw [h]
  have : (t.extract d d).toList = [] := by simp
  dsimp only
  rw [this, List.nil_append]
theorem sub_end (h : find t d = none) (hd : t.size ≤ d) : subN t find repl (n + 1) d = [] := by
  unfold subN
  rw [h]
  apply List.eq_nil_of_length_eq_zero
  rw [Array.length_toList, Array.size_extract]; omega
end
/-- the ends of lines made CRLF -/
noncomputable def eolL : Nat → List Nat → List Nat
  | 0, _ => []
  | _, [] => []
  | n + 1, c :: r => if isEol c = true then 13 :: 10 :: eolL n (if c = 13 ∧ r.head? = some 10 then r.drop 1 else r) else c :: eolL n r
theorem getD_pre (pre rest : List Nat) : ((pre ++ rest).toArray.getD pre.length 0) = rest.headD 0 := by
  cases rest with
  | nil => simp [Array.getD]
  | cons c r => simp [Array.getD]
theorem getD_pre1 (pre : List Nat) (c : Nat) (r : List Nat) : ((pre ++ c :: r).toArray.getD (pre.length + 1) 0) = r.headD 0 := by
  have := getD_pre (pre ++ [c]) r
  simpa using this
theorem eol_sub : ∀ (k : Nat) (rest pre : List Nat) (n : Nat), rest.length ≤ k → rest.length + 1 ≤ n → subN (pre ++ rest).toArray findEol [13, 10] n pre.length = eolL (k + 1) rest := by
  intro k
  induction k with
  | zero =>
    intro rest pre n h1 h2
    have : rest = [] := List.eq_nil_of_length_eq_zero (by omega)
    subst this
    obtain ⟨n, rfl⟩ : ∃ m, n = m + 1 := ⟨n - 1, by omega⟩
    rw [sub_end]
    · rfl
    · unfold findEol
      have : (pre ++ []).toArray.size + 1 - pre.length = 0 + 1 := by simp
      rw [this]; unfold nextEol; rw [if_pos (by simp)]; rfl
    · simp
  | succ k ih =>
    intro rest pre n h1 h2
    obtain ⟨n, rfl⟩ : ∃ m, n = m + 1 := ⟨n - 1, by omega⟩
    cases rest with
    | nil =>
      rw [sub_end]
      · rfl
      · unfold findEol
        have : (pre ++ []).toArray.size + 1 - pre.length = 0 + 1 := by simp
        rw [this]; unfold nextEol; rw [if_pos (by simp)]; rfl
      · simp
    | cons c r =>
      have hs : (pre ++ c :: r).toArray.size = pre.length + (r.length + 1) := by simp
      have hg : (pre ++ c :: r).toArray.getD pre.length 0 = c := getD_pre pre (c :: r)
      have hstep : nextEol (pre ++ c :: r).toArray ((pre ++ c :: r).toArray.size + 1 - pre.length) pre.length = if isEol c = true then some pre.length else nextEol (pre ++ c :: r).toArray ((pre ++ c :: r).toArray.size + 1 - (pre.length + 1)) (pre.length + 1) := by
        rw [show (pre ++ c :: r).toArray.size + 1 - pre.length = ((pre ++ c :: r).toArray.size + 1 - (pre.length + 1)) + 1 by rw [hs]; omega]
        conv => lhs; unfold nextEol
        rw [if_neg (by rw [hs]; omega), hg]
      cases hc : isEol c
      · rw [hc, if_neg Bool.false_ne_true] at hstep
        rw [sub_skip (by rw [hs]; omega) (by unfold findEol; rw [hstep]) (fun p hp => (eol_f hp).1), hg]
        have := ih r (pre ++ [c]) (n + 1) (by simp at h1; omega) (by simp at h2; omega)
        rw [List.append_assoc, List.singleton_append, List.length_append, List.length_singleton] at this
        rw [this]
        conv => rhs; unfold eolL
        rw [hc, if_neg Bool.false_ne_true]
      · rw [hc, if_pos rfl] at hstep
        have hfind : findEol (pre ++ c :: r).toArray pre.length = some (pre.length, pre.length + eolLen (pre ++ c :: r).toArray pre.length) := by
          unfold findEol; rw [hstep]; rfl
        rw [sub_hit hfind]
        conv => rhs; unfold eolL
        rw [hc, if_pos rfl]
        show [13, 10] ++ _ = [13, 10] ++ _
        congr 1
        unfold eolLen
        rw [hg, hs, getD_pre1]
        cases r with
        | nil =>
          rw [if_neg (by simp), if_neg (by simp)]
          have := ih [] (pre ++ [c]) n (by simp) (by simp at h2 ⊢; omega)
          simpa using this
        | cons c2 r2 =>
          by_cases h : c = 13 ∧ c2 = 10
          · rw [if_pos ⟨h.1, by simp, h.2⟩, if_pos ⟨h.1, by simp [h.2]⟩]
            have := ih r2 (pre ++ [c, c2]) n (by simp at h1; omega) (by simp at h2; omega)
            simpa using this
          · rw [if_neg (fun q => h ⟨q.1, q.2.2⟩), if_neg (fun q => h ⟨q.1, by simpa using q.2⟩)]
            have := ih (c2 :: r2) (pre ++ [c]) n (by simp at h1 ⊢; omega) (by simp at h2 ⊢; omega)
            simpa using this
end Mine
/- part TxtLaw2 -/
namespace Mine
/-- a dot more at the head of each line that begins with one -/
noncomputable def dotL : Nat → Bool → List Nat → List Nat
  | 0, _, _ => []
  | _, _, [] => []
  | n + 1, b, c :: r => if b = true ∧ c = 46 then 46 :: 46 :: dotL n false r else c :: dotL n (c == 10) r
theorem flag_next (pre : List Nat) (c : Nat) (r : List Nat) : ((pre ++ [c]).length == 0 || (pre ++ [c] ++ r).toArray.getD ((pre ++ [c]).length - 1) 0 == 10) = (c == 10) := by
  have h1 : ((pre ++ [c]).length == 0) = false := by simp
  have h2 : (pre ++ [c]).length - 1 = pre.length := by simp
  rw [h1, h2, Bool.false_or, List.append_assoc, List.singleton_append, getD_pre]
  rfl
theorem dot_none {pre : List Nat} : findDot (pre ++ []).toArray pre.length = none := by
  unfold findDot
  have : (pre ++ []).toArray.size + 1 - pre.length = 0 + 1 := by simp
  rw [this]; unfold nextDot
  rw [if_neg (fun q => by have := q.2.1; simp at this)]
  rfl
theorem dot_sub : ∀ (k : Nat) (rest pre : List Nat) (n : Nat) (b : Bool), rest.length ≤ k → rest.length + 1 ≤ n → (pre.length == 0 || (pre ++ rest).toArray.getD (pre.length - 1) 0 == 10) = b →
    subN (pre ++ rest).toArray findDot [46, 46] n pre.length = dotL (k + 1) b rest := by
  intro k
  induction k with
  | zero =>
    intro rest pre n b h1 h2 hb
    have : rest = [] := List.eq_nil_of_length_eq_zero (by omega)
    subst this
    obtain ⟨n, rfl⟩ : ∃ m, n = m + 1 := ⟨n - 1, by omega⟩
    rw [sub_end dot_none (by simp)]
    rfl
  | succ k ih =>
    intro rest pre n b h1 h2 hb
    obtain ⟨n, rfl⟩ : ∃ m, n = m + 1 := ⟨n - 1, by omega⟩
    cases rest with
    | nil => rw [sub_end dot_none (by simp)]; rfl
    | cons c r =>
      have hs : (pre ++ c :: r).toArray.size = pre.length + (r.length + 1) := by simp
      have hg : (pre ++ c :: r).toArray.getD pre.length 0 = c := getD_pre pre (c :: r)
      have hstep : nextDot (pre ++ c :: r).toArray ((pre ++ c :: r).toArray.size + 1 - pre.length) pre.length = if b = true ∧ c = 46 then some pre.length else nextDot (pre ++ c :: r).toArray ((pre ++ c :: r).toArray.size + 1 - (pre.length + 1)) (pre.length + 1) := by
        rw [show (pre ++ c :: r).toArray.size + 1 - pre.length = ((pre ++ c :: r).toArray.size + 1 - (pre.length + 1)) + 1 by rw [hs]; omega]
        conv => lhs; unfold nextDot
        rw [hb, hg]
        by_cases q : b = true ∧ c = 46
        · rw [if_pos q, if_pos ⟨q.1, by rw [hs]; omega, q.2⟩]
        · rw [if_neg q, if_neg (fun z => q ⟨z.1, z.2.2⟩)]
      by_cases q : b = true ∧ c = 46
      · rw [if_pos q] at hstep
        have hfind : findDot (pre ++ c :: r).toArray pre.length = some (pre.length, pre.length + 1) := by
          unfold findDot; rw [hstep]; rfl
        rw [sub_hit hfind]
        conv => rhs; unfold dotL
        rw [if_pos q]
        show [46, 46] ++ _ = [46, 46] ++ _
        congr 1
        have hf := flag_next pre c r
        rw [q.2] at hf
        have := ih r (pre ++ [46]) n false (by simp at h1; omega) (by simp at h2; omega) hf
        rw [q.2]
        simpa using this
      · rw [if_neg q] at hstep
        rw [sub_skip (by rw [hs]; omega) (by unfold findDot; rw [hstep]) (fun p hp => (dot_f hp).1), hg]
        conv => rhs; unfold dotL
        rw [if_neg q]
        have := ih r (pre ++ [c]) (n + 1) _ (by simp at h1; omega) (by simp at h2; omega) (flag_next pre c r)
        rw [List.append_assoc, List.singleton_append, List.length_append, List.length_singleton] at this
        rw [this]
theorem eolT_eq (l : List Nat) : eolT l.toArray = (eolL (l.length + 1) l).toArray := by
  have := eol_sub l.length l [] (l.length + 1) (Nat.le_refl _) (Nat.le_refl _)
  unfold eolT subst
  simpa using this
theorem dotT_eq (l : List Nat) : dotT l.toArray = (dotL (l.length + 1) true l).toArray := by
  have := dot_sub l.length l [] (l.length + 1) true (Nat.le_refl _) (Nat.le_refl _) rfl
  unfold dotT subst
  simpa using this
/-- rows of dots, each with an end of a line -/
noncomputable def linesL (K : List Nat) (ds : List Nat) : List Nat := (ds.map fun d => List.replicate d 46 ++ K).flatten
theorem eolL_dots (d : Nat) : ∀ (n : Nat) (r : List Nat), eolL (n + d) (List.replicate d 46 ++ r) = List.replicate d 46 ++ eolL n r := by
  induction d with
  | zero => intro n r; rfl
  | succ d ih =>
    intro n r
    rw [List.replicate_succ, List.cons_append, List.cons_append, show n + (d + 1) = (n + d) + 1 by omega]
    conv => lhs; unfold eolL
    rw [if_neg (by decide), ih]
noncomputable def Kinds (K : List Nat) : Prop := K = [10] ∨ K = [13] ∨ K = [13, 10]
theorem linesL_head {K : List Nat} (_hK : Kinds K) : ∀ {ds : List Nat}, (∀ d ∈ ds, 1 ≤ d) → (linesL K ds).head? ≠ some 10
  | [], _ => by simp [linesL]
  | d :: r, h => by
    obtain ⟨e, rfl⟩ : ∃ e, d = e + 1 := ⟨d - 1, by have := h d (.head _); omega⟩
    simp [linesL, List.replicate_succ]
theorem eolL_lines {K : List Nat} (hK : Kinds K) : ∀ (ds : List Nat), (∀ d ∈ ds, 1 ≤ d) → ∀ n, (linesL K ds).length + 1 ≤ n → eolL n (linesL K ds) = linesL [13, 10] ds
  | [], _, n, hn => by
    obtain ⟨n, rfl⟩ : ∃ m, n = m + 1 := ⟨n - 1, by omega⟩
    rfl
  | d :: r, h, n, hn => by
    have e1 : linesL K (d :: r) = List.replicate d 46 ++ (K ++ linesL K r) := by simp [linesL]
    have e2 : linesL [13, 10] (d :: r) = List.replicate d 46 ++ ([13, 10] ++ linesL [13, 10] r) := by simp [linesL]
    rw [e1] at hn ⊢
    rw [e2]
    rw [List.length_append, List.length_replicate, List.length_append] at hn
    obtain ⟨m, rfl⟩ : ∃ m, n = m + d := ⟨n - d, by omega⟩
    rw [eolL_dots]
    congr 1
    have hh := linesL_head hK (fun d hd => h d (.tail _ hd))
    obtain ⟨m, rfl⟩ : ∃ q, m = q + 1 := ⟨m - 1, by omega⟩
    have ih := eolL_lines hK r (fun d hd => h d (.tail _ hd))
    rcases hK with rfl | rfl | rfl
    · show eolL (m + 1) (10 :: linesL [10] r) = _
      unfold eolL
      rw [if_pos (by decide), if_neg (fun q => absurd q.1 (by decide)), ih m (by simp at hn; omega)]
      rfl
    · show eolL (m + 1) (13 :: linesL [13] r) = _
      unfold eolL
      rw [if_pos (by decide), if_neg (fun q => hh q.2), ih m (by simp at hn; omega)]
      rfl
    · show eolL (m + 1) (13 :: 10 :: linesL [13, 10] r) = _
      unfold eolL
      rw [if_pos (by decide), if_pos ⟨rfl, rfl⟩]
      show 13 :: 10 :: eolL m (linesL [13, 10] r) = _
      rw [ih m (by simp at hn; omega)]
      rfl
theorem dotL_dots (d : Nat) : ∀ (n : Nat) (r : List Nat), dotL (n + d) false (List.replicate d 46 ++ r) = List.replicate d 46 ++ dotL n false r := by
  induction d with
  | zero => intro n r; rfl
  | succ d ih =>
    intro n r
    rw [List.replicate_succ, List.cons_append, List.cons_append, show n + (d + 1) = (n + d) + 1 by omega]
    conv => lhs; unfold dotL
    rw [if_neg (by simp), show ((46 : Nat) == 10) = false from rfl, ih]
theorem dotL_lines : ∀ (ds : List Nat), (∀ d ∈ ds, 1 ≤ d) → ∀ n, (linesL [13, 10] ds).length + 1 ≤ n → dotL n true (linesL [13, 10] ds) = linesL [13, 10] (ds.map (· + 1))
  | [], _, n, hn => by
    obtain ⟨n, rfl⟩ : ∃ m, n = m + 1 := ⟨n - 1, by omega⟩
    rfl
  | d :: r, h, n, hn => by
    obtain ⟨e, rfl⟩ : ∃ e, d = e + 1 := ⟨d - 1, by have := h d (.head _); omega⟩
    have e1 : linesL [13, 10] ((e + 1) :: r) = 46 :: (List.replicate e 46 ++ (13 :: 10 :: linesL [13, 10] r)) := by simp [linesL, List.replicate_succ]
    have e2 : linesL [13, 10] (((e + 1) :: r).map (· + 1)) = 46 :: 46 :: (List.replicate e 46 ++ (13 :: 10 :: linesL [13, 10] (r.map (· + 1)))) := by simp [linesL, List.replicate_succ]
    rw [e1] at hn ⊢
    rw [e2]
    simp at hn
    obtain ⟨m, rfl⟩ : ∃ m, n = (m + 2 + e) + 1 := ⟨n - e - 3, by omega⟩
    unfold dotL
    rw [if_pos ⟨rfl, rfl⟩, dotL_dots]
    congr 3
    show dotL (m + 1 + 1) false (13 :: 10 :: linesL [13, 10] r) = _
    unfold dotL
    rw [if_neg (by simp)]
    congr 1
    unfold dotL
    rw [if_neg (by simp)]
    congr 1
    show dotL m true _ = _
    exact dotL_lines r (fun d hd => h d (.tail _ hd)) m (by omega)
/-- quotedata over rows of dots: CRLF ends, a dot more in each row -/
theorem quote_lines {K : List Nat} (hK : Kinds K) {ds : List Nat} (h : ∀ d ∈ ds, 1 ≤ d) : dotT (eolT (linesL K ds).toArray) = (linesL [13, 10] (ds.map (· + 1))).toArray := by
  rw [eolT_eq, eolL_lines hK ds h _ (Nat.le_refl _), dotT_eq, dotL_lines ds h _ (Nat.le_refl _)]
theorem fix_lines {K : List Nat} (hK : Kinds K) {ds : List Nat} (h : ∀ d ∈ ds, 1 ≤ d) : eolT (linesL K ds).toArray = (linesL [13, 10] ds).toArray := by
  rw [eolT_eq, eolL_lines hK ds h _ (Nat.le_refl _)]
end Mine
/- part TxtLaw3 -/
namespace Mine
noncomputable def rowS (d : Nat) : Str := ⟨(List.replicate d 46).toArray⟩
noncomputable def linesS (K : List Nat) (ds : List Nat) : Str := ⟨(linesL K ds).toArray⟩
noncomputable def crlf : Str := ⟨#[13, 10]⟩
theorem linesL_cons (K : List Nat) (d : Nat) (ds : List Nat) : linesL K (d :: ds) = List.replicate d 46 ++ (K ++ linesL K ds) := by simp [linesL]
theorem at_iff (l : List Nat) (i : Nat) : StrLaws.At ⟨l.toArray⟩ crlf l.length i ↔ (l.drop i).take 2 = [13, 10] := by
  unfold StrLaws.At
  rw [StrLaws.subAt_eq]
  have e1 : crlf.length = 2 := rfl
  have e2 : crlf.cps.toList = [13, 10] := rfl
  rw [e1, e2]
  simp only [beq_iff_eq]
  constructor
  · exact fun h => h.2
  · intro h
    refine ⟨?_, h⟩
    have := congrArg List.length h
    simp at this
    omega
theorem not_at_dot {pre r : List Nat} {d k : Nat} (h1 : pre.length ≤ k) (h2 : k < pre.length + d) : ((pre ++ (List.replicate d 46 ++ r)).drop k).take 2 ≠ [13, 10] := by
  obtain ⟨j, rfl⟩ : ∃ j, k = pre.length + j := ⟨k - pre.length, by omega⟩
  rw [← List.drop_drop, List.drop_left]
  obtain ⟨e, rfl⟩ : ∃ e, d = j + (e + 1) := ⟨d - j - 1, by omega⟩
  rw [show List.replicate (j + (e + 1)) 46 = List.replicate j 46 ++ List.replicate (e + 1) 46 by rw [List.replicate_append_replicate], List.append_assoc]
  rw [List.drop_left' (by simp), List.replicate_succ]
  simp
theorem at_row {pre r : List Nat} {d : Nat} : ((pre ++ (List.replicate d 46 ++ ([13, 10] ++ r))).drop (pre.length + d)).take 2 = [13, 10] := by
  rw [← List.drop_drop, List.drop_left, List.drop_left' (by simp)]
  rfl
theorem sub_row (pre r : List Nat) (d : Nat) : Builtin.Str.strSub ⟨(pre ++ (List.replicate d 46 ++ r)).toArray⟩ pre.length (pre.length + d) = rowS d := by
  apply Str.ext'
  apply Array.toList_inj.mp
  rw [StrLaws.strSub_toList]
  simp only [List.toList_toArray, rowS]
  rw [List.drop_left, Nat.add_sub_cancel_left, List.take_left' (by simp)]
theorem parts_lines : ∀ (ds pre cuts : List Nat) (f : Nat), StrLaws.ChainG ⟨(pre ++ linesL [13, 10] ds).toArray⟩ crlf (pre ++ linesL [13, 10] ds).length pre.length cuts f →
    (∀ k, f ≤ k → ¬ StrLaws.At ⟨(pre ++ linesL [13, 10] ds).toArray⟩ crlf (pre ++ linesL [13, 10] ds).length k) →
    StrLaws.partsFrom ⟨(pre ++ linesL [13, 10] ds).toArray⟩ 2 pre.length cuts = ds.map rowS ++ [Str.empty]
  | [], pre, [], f, h, hn => by
    show [Builtin.Str.strSub _ _ _] = [Str.empty]
    congr 1
    apply Str.ext'
    apply Array.toList_inj.mp
    rw [StrLaws.strSub_toList]
    simp [linesL, Str.length, Str.empty]
  | [], pre, c :: r, f, h, hn => by
    exfalso
    have h1 := h.1
    have h2 := (at_iff _ _).mp h.2.1
    have := congrArg List.length h2
    simp [linesL] at this
    omega
  | d :: ds, pre, [], f, h, hn => by
    exfalso
    have e : f = pre.length := h
    subst e
    refine hn (pre.length + d) (by omega) ((at_iff _ _).mpr ?_)
    rw [linesL_cons]
    exact at_row
  | d :: ds, pre, c :: r, f, h, hn => by
    have h1 := h.1
    have h2 := (at_iff _ _).mp h.2.1
    have h3 := h.2.2.1
    have h4 := h.2.2.2
    rw [linesL_cons] at h2 h3 h4 hn ⊢
    have hc : c = pre.length + d := by
      rcases Nat.lt_trichotomy c (pre.length + d) with q | q | q
      · exact absurd h2 (not_at_dot h1 q)
      · exact q
      · exact absurd ((at_iff _ _).mpr at_row) (h3 _ (by omega) q)
    subst hc
    have e : pre ++ (List.replicate d 46 ++ ([13, 10] ++ linesL [13, 10] ds)) = (pre ++ (List.replicate d 46 ++ [13, 10])) ++ linesL [13, 10] ds := by simp
    have e2 : pre.length + d + crlf.length = (pre ++ (List.replicate d 46 ++ [13, 10])).length := by simp [crlf, Str.length]; omega
    rw [e2] at h4
    have ih := parts_lines ds (pre ++ (List.replicate d 46 ++ [13, 10])) r f (by rw [← e]; exact h4) (by rw [← e]; exact hn)
    show Builtin.Str.strSub _ _ _ :: StrLaws.partsFrom _ 2 (pre.length + d + 2) r = _
    rw [show pre.length + d + 2 = (pre ++ (List.replicate d 46 ++ [13, 10])).length by simp; omega, sub_row pre _ d]
    rw [← e] at ih
    rw [ih]
    rfl
theorem kind_small {l : List Nat} (h : ∀ c ∈ l, c < 256) : Builtin.Str.strKind ⟨l.toArray⟩ = 1 := by
  unfold Builtin.Str.strKind
  rw [if_pos]
  simp only [List.all_toArray, List.all_eq_true, decide_eq_true_eq]
  exact h
theorem mem_lines {K : List Nat} {ds : List Nat} {c : Nat} (h : c ∈ linesL K ds) : c = 46 ∨ c ∈ K := by
  simp only [linesL, List.mem_flatten, List.mem_map] at h
  obtain ⟨l, ⟨d, _, rfl⟩, hc⟩ := h
  rcases List.mem_append.mp hc with q | q
  · exact .inl (List.eq_of_mem_replicate q)
  · exact .inr q
theorem split_lines {ds : List Nat} (h : ds ≠ []) : Txt.split (linesS [13, 10] ds) crlf = ds.map rowS ++ [Str.empty] := by
  have hk : Builtin.Str.strKind (linesS [13, 10] ds) = 1 := kind_small fun c hc => by
    rcases mem_lines hc with rfl | q
    · decide
    · simp at q; omega
  have hlen : (linesS [13, 10] ds).length = (linesL [13, 10] ds).length := by simp [linesS, Str.length]
  obtain ⟨d, r, rfl⟩ := List.exists_cons_of_ne_nil h
  have h2 : 2 ≤ (linesL [13, 10] (d :: r)).length := by rw [linesL_cons]; simp; omega
  unfold Txt.split
  have hk2 : Builtin.Str.strKind crlf = 1 := kind_small (l := [13, 10]) fun c hc => by simp at hc; omega
  have hl2 : crlf.length = 2 := rfl
  rw [if_neg (by rw [hk, hk2, hlen, hl2]; simp; omega)]
  obtain ⟨f, h1, hn⟩ := StrLaws.occ_tight (linesS [13, 10] (d :: r)) crlf (by decide)
  rw [if_neg]
  · rw [StrLaws.partsBetween_eq]
    exact parts_lines (d :: r) [] _ f (by rw [hlen] at h1; exact h1) (by rw [hlen] at hn; exact hn)
  · intro q
    rw [List.isEmpty_iff] at q
    rw [q] at h1
    have e : f = 0 := h1
    subst e
    refine hn d (Nat.zero_le _) ?_
    rw [hlen]
    refine (at_iff _ _).mpr ?_
    have := at_row (pre := []) (r := linesL [13, 10] r) (d := d)
    rw [linesL_cons]
    simpa using this
theorem join_rows (K : List Nat) : ∀ ds : List Nat, Str.join ⟨K.toArray⟩ (ds.map rowS ++ [Str.empty]) = linesS K ds
  | [] => rfl
  | d :: ds => by
    have ih := join_rows K ds
    obtain ⟨p, q, e⟩ : ∃ p q, ds.map rowS ++ [Str.empty] = p :: q := by cases ds <;> exact ⟨_, _, rfl⟩
    rw [List.map_cons, List.cons_append, e]
    show rowS d ++ ⟨K.toArray⟩ ++ Str.join _ (p :: q) = _
    rw [← e, ih]
    apply Str.ext'
    apply Array.toList_inj.mp
    simp only [Str.cps_append, Array.toList_append, rowS, linesS, linesL_cons, List.append_assoc]
theorem join_lines (K : List Nat) (ds : List Nat) : Txt.join ⟨K.toArray⟩ (ds.map rowS ++ [Str.empty]) = linesS K ds := (StrLaws.glued_eq_join _ _).trans (join_rows K ds)
theorem lines_len (K : List Nat) : ∀ ds : List Nat, (linesS K ds).cps.size = ds.sum + ds.length * K.length
  | [] => by simp [linesS, linesL]
  | d :: ds => by
    have := lines_len K ds
    simp only [linesS, List.size_toArray] at this ⊢
    rw [linesL_cons, List.length_append, List.length_append, this, List.length_replicate, List.sum_cons, List.length_cons, Nat.succ_mul]
    omega
end Mine
/- part LawBase -/
namespace Mine
/-- the law's def, as the head names it -/
noncomputable def pick {q : Program} {loose : List Str} {XP : (Str → Option Value) → Heap → Prop} {YP : World → Heap → Prop} {r : RowW} {d : DefRec} {kwd : List (Str × PySem.Expr)} {run : Value → List Value → Sem Value} {C : Prop} (_ : WalkO q loose XP YP r d kwd run → C) : DefRec := d
noncomputable def lawD : DefRec := pick hd
noncomputable abbrev lawB : List Stmt := lawD.body
noncomputable abbrev lawE (L fa : Addr) (cd : Value) : Env := envOfC lawD.name lawD.scope L fa cd
section
variable {prog : Program} {w : World} {A : Around} {E : Value → Shared → Prop} {s : Shared} {h₀ : Heap} {L : Addr} {m : Str → Option Value} {news : List (Addr × Obj)}
theorem sliceAny {value slice : PySem.Expr} {l : Addr} {items : Array Value} {vl vu : Value} {lo hi : Option Int} {ops : List Value} {Q : Value → Shared → Prop}
    (F : Fr h₀ L s.heap m) (N : News h₀ L s.heap news) (hl : s.heap.IsList l items) (pl : IsPart vl lo) (pu : IsPart vu hi)
    (h : ∀ D h', Fr h₀ L h' m → News h₀ L h' ((D, listOf (slicePick items lo hi none) 0) :: news) → (∀ p ∈ news, p.1 < D) → Q (.ref D) { s with heap := h' })
    (hs : subscripted slice false (.ref l) (.ref s.heap.objs.size) = operate ops (getItem (.ref l) (.ref s.heap.objs.size)))
    (hsz : items.size ≤ sizeLine) :
    wpAny (model prog w) A (subscriptTail value slice (.ref l) (.ref s.heap.objs.size)) Q E { s with heap := s.heap.push { cls := .type "slice", data := .fields #[vl, vu, .none] } } := by
  refine tail_any (Heap.IsList.typeIs (s := { s with heap := s.heap.push { cls := .type "slice", data := .fields #[vl, vu, .none] } }) (hl.push _)) list_getitem_lookup
    (wpAny_getItem_list_slice (hl.push _) (Heap.IsSliceOf.new ..) pl pu .none (by simp) ?_ hsz) hs
  have N1 := News.push (F.push { cls := .type "slice", data := .fields #[vl, vu, .none] }) (N.grown fun _ _ e => Heap.get?_push_of_some _ e) { cls := .type "list", data := .seq (slicePick items lo hi none) }
  rw [Heap.size_push] at N1
  show Q (.ref (s.heap.push _).objs.size) _
  rw [Heap.size_push]
  exact h _ _ ((F.push _).push _) N1 fun p hp => Nat.lt_succ_of_lt (Heap.lt_size (N p hp).1)
end
end Mine
/- part L0 -/
namespace Mine
noncomputable def drawnOf (ns : List Int) : List Int := (if 4 < ns.length then ns.take 5 else ns ++ [5, 12, 2, 9].drop ns.length).map (Int.fmod · 720)
local macro_rules | `(tactic| walk_at "my:steps") => `(tactic| repeat' (first | (k_unfold; (try dsimp only)) | walk1 | (dsimp only; walk1)))
local macro_rules | `(tactic| walk_at "CompSrc") => `(tactic| refine hold ?_)
local macro_rules | `(tactic| walk_at "CT") => `(tactic| refine hold ?_)
local macro_rules | `(tactic| walk_at "subscriptTail") => `(tactic| refine hold ?_)
local macro_rules | `(tactic| walk_at "call builtin:len") => `(tactic| refine hold ?_)
local macro_rules | `(tactic| walk_at "binaryOp Add ref ref") => `(tactic| refine hold ?_)
set_option maxRecDepth 100000 in
set_option maxHeartbeats 8000000 in
theorem law_0 {w : World} {dp un : Nat} {fr : Option (List Env)} {gd : Option (List Code)} {s : Shared} {p : Program} {loose : List Str} {mean : ExcName → Option Value} {mg mb : Str → Option Value} {Q : Flow → Shared → Prop}
    {B : Heap} {L fa : Addr} {cd : Value} {m : Str → Option Value} {nx : List (Addr × Obj)} {a : Addr} {vs : List Value} {ns : List Int}
    (X : (hd.heap_39 w.params).In B) (T : Top p loose mean mg mb B) (hroom : dp + 60 < recursionLimit) (hu : un + 400 < cLine)
    (F : Fr B L s.heap m) (N : News B L s.heap nx) (hm : Has m [(Str.ofString "script", .ref a)]) (hl : B.IsList a vs.toArray) (hi : IntsAre vs ns) (hn : ns.length ≤ 63)
    (rest : ∀ h' tk' m' D dvs k, Fr B L h' m' → Has m' [(Str.ofString "script", .ref a), (Str.ofString "drawn", .ref D)] → News B L h' ((D, listOf dvs.toArray k) :: nx) → IntsAre dvs (drawnOf ns) →
      wpAny (model Challenge.rw_rw0101_01.row.prog w) (Am dp un fr gd) (execs (lawB.drop 1) (lawE L fa cd)) Q (fun _ _ => False) { s with heap := h', toks := tk' }) :
    wpAny (model Challenge.rw_rw0101_01.row.prog w) (Am dp un fr gd) (execs lawB (lawE L fa cd)) Q (fun _ _ => False) s := by
  dsimp only [lawB, lawE, lawD, pick, List.drop_succ_cons, List.drop_zero] at rest ⊢
  w_top off; revert X; k_fill; intro X
  replace F := frView F hm
  refine wpAny_execs_cons ?_
  refine LCg.Assign_ListComp_U F rfl (by rfl) (by rfl) (by decide) (by rfl) (by decide) (by rfl) (by rfl) (by rfl) ?_
  walk_at "my:steps"
  refine ⟨?_⟩
  refine lenL (n := (ns.length : Int)) (Grows.list F.keep hl) (by rw [hi.length]) (by omega) ?_
  walk_at "my:steps"
  · rename (4 < (ns.length : Int)) => h4
    refine ⟨?_⟩
    rename Fr _ _ _ _ => F1
    rename News _ _ _ _ => N1
    rename (IntsAre _ (List.take 5 ns)) => hi1
    refine LCg.CompSrc.ledger (by rfl) F1 N1 (.head _) (by rw [List.size_toArray, hi1.length, sizeLine_eq]; rw [List.length_take]; omega) ?_
    intro g
    refine compRest_inv (fun i ys => IntsAre ys (((ns.take 5).take i).map (Int.fmod · 720))) (.inr ⟨_, .head _, rfl, _, rfl⟩) (by simp; exact .nil) ?_ ?_
    · intro i v I oI C oC D m₂ ys h tk E' hi' hv hj hC hx F' N' off ne
      obtain ⟨n, tn, hn', rfl⟩ := intsAt hi1 (by simpa using hv)
      walk_at "my:steps"
      refine ⟨?_⟩
      refine CT.intro F' N' ?_
      rw [List.take_add_one, hn', Option.toList_some, List.map_append]
      exact ksk_snoc hj
    · intro ys hys
      rw [List.size_toArray, hi1.length, List.take_length] at hys
      intro D h tk F2 N2 o1
      refine rest h _ _ D ys _ F2 ⟨rfl, rfl, trivial⟩ (newsDrop2 N2) ?_
      unfold drawnOf
      rw [if_pos (by omega)]
      exact hys
  · rename (¬ 4 < (ns.length : Int)) => h4
    refine ⟨?_⟩
    rename Fr _ _ _ _ => F1
    rename News _ _ _ _ => N1
    refine lenL (n := (ns.length : Int)) (Grows.list F1.keep hl) (by rw [hi.length]) (by omega) ?_
    walk_at "my:steps"
    refine ⟨?_⟩
    have hq : ∀ t1 t2 t3 t4, IntsAre [Value.int 5 t1, .int 12 t2, .int 2 t3, .int 9 t4] [5, 12, 2, 9] := fun _ _ _ _ => .cons _ _ (.cons _ _ (.cons _ _ (.cons _ _ .nil)))
    refine sliceAny F1 N1 (News.isList N1 (.head _)) (.int _ _) .none ?_ (by with_unfolding_all rfl) (by simp [sizeLine_eq])
    intro D2 h2 F2 N2 l2
    generalize he : slicePick _ (some (ns.length : Int)) none none = its2 at N2
    have hi2 : IntsAre its2.toList (([5, 12, 2, 9] : List Int).drop ns.length) := by
      rw [← he]
      exact slice_ints_fromW (hq _ _ _ _) (x := (ns.length : Int)) (by omega)
    walk_at "my:steps"
    refine ⟨?_⟩
    have e12 : ([5, 12, 2, 9] : List Int).length = 4 := rfl
    refine add_lists_ints (vs := vs) (ws := its2.toList) F2 N2 (Grows.list F2.keep hl) (News.isList N2 (.head _)) hi hi2 ?_ (by rw [List.length_drop, e12, sizeLine_eq]; omega)
    intro h3 F3 N3 hi3
    replace N3 := newsSub (news' := (_, _) :: nx) N3 (by intro p hp; rcases List.mem_cons.mp hp with rfl | hp; exact .head _; exact .tail _ (.tail _ (.tail _ hp)))
    clear F1 N1 F2 N2 l2 hi2 hq
    rename Fr _ _ _ _ => F1
    rename News _ _ _ _ => N1
    walk_at "my:steps"
    refine ⟨?_⟩
    refine LCg.CompSrc.ledger (by rfl) F1 N1 (.head _) (by rw [List.size_toArray, hi3.length, sizeLine_eq]; rw [List.length_append, List.length_drop, e12]; omega) ?_
    intro g
    refine compRest_inv (fun i ys => IntsAre ys (((ns ++ ([5, 12, 2, 9] : List Int).drop ns.length).take i).map (Int.fmod · 720))) (.inr ⟨_, .head _, rfl, _, rfl⟩) (by simp; exact .nil) ?_ ?_
    · intro i v I oI C oC D m₂ ys h tk E' hi' hv hj hC hx F' N' off ne
      obtain ⟨n, tn, hn', rfl⟩ := intsAt hi3 (by simpa using hv)
      walk_at "my:steps"
      refine ⟨?_⟩
      refine CT.intro F' N' ?_
      rw [List.take_add_one, hn', Option.toList_some, List.map_append]
      exact ksk_snoc hj
    · intro ys hys
      rw [List.size_toArray, hi3.length, List.take_length] at hys
      intro D h tk F2 N2 o1
      refine rest h _ _ D ys _ F2 ⟨rfl, rfl, trivial⟩ (newsDrop2 N2) ?_
      unfold drawnOf
      rw [if_neg (by omega)]
      exact hys
end Mine
/- part L1 -/
namespace Mine
/-- an item laid into a list of numbers -/
noncomputable def insN (l : List Nat) (k x : Nat) : List Nat := l.take k ++ x :: l.drop k
noncomputable def seatOf (dl : List Int) (i : Nat) : Nat := (Int.fmod (dl.getD i 0) ((i : Int) + 2)).toNat
noncomputable def tr (dl : List Int) : Nat → List Nat
  | 0 => [1]
  | i + 1 => insN ((tr dl i).map (· + 1)) (seatOf dl i) 1
theorem insN_mem {l : List Nat} {k x d : Nat} (h : d ∈ insN l k x) : d = x ∨ d ∈ l := by
  rcases List.mem_append.mp h with q | q
  · exact .inr (List.mem_of_mem_take q)
  · rcases List.mem_cons.mp q with q | q
    · exact .inl q
    · exact .inr (List.mem_of_mem_drop q)
theorem insN_len (l : List Nat) (k x : Nat) : (insN l k x).length = l.length + 1 := by
  unfold insN
  rw [List.length_append, List.length_take, List.length_cons, List.length_drop]; omega
theorem tr_len (dl : List Int) : ∀ i, (tr dl i).length = i + 1
  | 0 => rfl
  | i + 1 => by rw [tr, insN_len, List.length_map, tr_len dl i]
theorem tr_in (dl : List Int) : ∀ i, ∀ d ∈ tr dl i, 1 ≤ d ∧ d ≤ i + 1
  | 0, d, h => by simp [tr] at h; omega
  | i + 1, d, h => by
    rcases insN_mem h with rfl | q
    · omega
    · obtain ⟨e, he, rfl⟩ := List.mem_map.mp q
      have := tr_in dl i e he
      omega
theorem sum_le_mul : ∀ (l : List Nat) (b : Nat), (∀ d ∈ l, d ≤ b) → l.sum ≤ l.length * b
  | [], _, _ => Nat.zero_le _
  | d :: r, b, h => by
    have := sum_le_mul r b fun e he => h e (.tail _ he)
    have := h d (.head _)
    rw [List.sum_cons, List.length_cons, Nat.succ_mul]; omega
theorem tr_size {K : List Nat} (hK : Kinds K) (dl : List Int) {i : Nat} (hi : i ≤ 5) : (linesS K (tr dl i)).cps.size ≤ 60 := by
  have h1 := sum_le_mul (tr dl i) (i + 1) fun d hd => (tr_in dl i d hd).2
  have h2 : K.length ≤ 2 := by rcases hK with rfl | rfl | rfl <;> decide
  rw [lines_len]
  rw [tr_len] at h1 ⊢
  have h3 : (i + 1) * (i + 1) ≤ 6 * 6 := Nat.mul_le_mul (by omega) (by omega)
  have h4 : (i + 1) * K.length ≤ 6 * 2 := Nat.mul_le_mul (by omega) h2
  omega
theorem toInts_ins (l : List Nat) (k x : Nat) (hk : k ≤ l.length) : insAt (toInts l) k (x : Int) = toInts (insN l k x) := by
  unfold insAt insN toInts
  rw [List.length_map, Nat.min_eq_left hk]
  simp
theorem rows_ins (l : List Nat) (k : Nat) (hk : k ≤ l.length) : (l.map rowS ++ [Str.empty]).take k ++ rowS 1 :: (l.map rowS ++ [Str.empty]).drop k = (insN l k 1).map rowS ++ [Str.empty] := by
  unfold insN
  rw [List.take_append_of_le_length (by simpa using hk), List.drop_append_of_le_length (by simpa using hk)]
  simp
theorem kinds_at (j : Nat) (hj : j < 3) (t1 t2 t3 : Tok) : ∃ K t, Kinds K ∧ ([Value.str (Str.ofString "\n") t1, .str (Str.ofString "\r") t2, .str (Str.ofString "\r\n") t3] : List Value)[j]? = some (.str ⟨K.toArray⟩ t) := by
  have e1 : Str.ofString "\n" = ⟨#[10]⟩ := by decide +kernel
  have e2 : Str.ofString "\r" = ⟨#[13]⟩ := by decide +kernel
  have e3 : Str.ofString "\r\n" = ⟨#[13, 10]⟩ := by decide +kernel
  rw [e1, e2, e3]
  have : j = 0 ∨ j = 1 ∨ j = 2 := by omega
  rcases this with rfl | rfl | rfl
  · exact ⟨[10], t1, .inl rfl, rfl⟩
  · exact ⟨[13], t2, .inr (.inl rfl), rfl⟩
  · exact ⟨[13, 10], t3, .inr (.inr rfl), rfl⟩
theorem strsTake : ∀ {vs : List Value} {ns : List Str} (k : Nat), StrsAre vs ns → StrsAre (vs.take k) (ns.take k)
  | _, _, 0, _ => by simp; exact .nil
  | _, _, k + 1, .nil => by simp; exact .nil
  | _, _, k + 1, .cons n t h => by simp; exact .cons n t (strsTake k h)
theorem strsDrop : ∀ {vs : List Value} {ns : List Str} (k : Nat), StrsAre vs ns → StrsAre (vs.drop k) (ns.drop k)
  | _, _, 0, h => by simpa using h
  | _, _, k + 1, .nil => by simp; exact .nil
  | _, _, k + 1, .cons n t h => by simp; exact strsDrop k h
theorem strsApp : ∀ {vs : List Value} {xs : List Str} {ws : List Value} {ys : List Str}, StrsAre vs xs → StrsAre ws ys → StrsAre (vs ++ ws) (xs ++ ys)
  | _, _, _, _, .nil, h => h
  | _, _, _, _, .cons n t h, h' => .cons n t (strsApp h h')
theorem strs_len : ∀ {vs : List Value} {ys : List Str}, StrsAre vs ys → vs.length = ys.length
  | _, _, .nil => rfl
  | _, _, .cons _ _ h => congrArg (· + 1) (strs_len h)
theorem strs_ins {vs : List Value} {ys : List Str} (h : StrsAre vs ys) (k : Nat) (x : Str) (t : Tok) (hk : k ≤ vs.length) : StrsAre (kl_ins vs (k : Int) (.str x t)) (ys.take k ++ x :: ys.drop k) := by
  unfold kl_ins
  rw [if_neg (by omega), Int.toNat_natCast, Nat.min_eq_left hk]
  exact strsApp (strsTake _ h) (.cons x t (strsDrop _ h))
theorem seat_le {dl : List Int} (hb : ∀ x ∈ dl, 0 ≤ x) (i : Nat) : seatOf dl i ≤ i + 1 := by
  unfold seatOf
  have h1 : 0 ≤ dl.getD i 0 := by
    rw [List.getD_eq_getElem?_getD]
    cases e : dl[i]? with
    | none => exact Int.le_refl _
    | some x => exact hb x (List.mem_of_getElem? e)
  rw [Int.fmod_eq_emod_of_nonneg _ (by omega)]
  have := Int.emod_lt_of_pos (dl.getD i 0) (b := (i : Int) + 2) (by omega)
  have := Int.emod_nonneg (dl.getD i 0) (b := (i : Int) + 2) (by omega)
  omega
theorem seat_eq {dl : List Int} (hb : ∀ x ∈ dl, 0 ≤ x) (i : Nat) : Int.fmod (dl.getD ((0 : Int) + (i : Int)).toNat 0) (0 + (i : Int) + 2) = ((seatOf dl i : Nat) : Int) := by
  rw [Int.zero_add, Int.toNat_natCast]
  unfold seatOf
  have h1 : 0 ≤ dl.getD i 0 := by
    rw [List.getD_eq_getElem?_getD]
    cases e : dl[i]? with
    | none => exact Int.le_refl _
    | some x => exact hb x (List.mem_of_getElem? e)
  rw [Int.toNat_of_nonneg]
  rw [Int.fmod_eq_emod_of_nonneg _ (by omega)]
  exact Int.emod_nonneg _ (by omega)
theorem fitsNat {k : Nat} (h : k ≤ 1000) : PySem.Builtin.List.listFitsIndex (k : Int) = true := by
  unfold PySem.Builtin.List.listFitsIndex
  have e1 : (decide (-(2 ^ 63 : Int) ≤ (k : Int))) = true := decide_eq_true (by omega)
  have e2 : (decide ((k : Int) < 2 ^ 63)) = true := decide_eq_true (by omega)
  rw [e1, e2]; rfl
theorem rows_sum : ∀ ds : List Nat, ((ds.map rowS ++ [Str.empty]).map (·.length)).sum = ds.sum
  | [] => rfl
  | d :: ds => by
    rw [List.map_cons, List.cons_append, List.map_cons, List.sum_cons, rows_sum ds, List.sum_cons]
    congr 1
    simp [rowS, Str.length]
theorem join_ok {K : List Nat} (hK : Kinds K) (dl : List Int) {i : Nat} (hi : i ≤ 5) : (((tr dl i).map rowS ++ [Str.empty]).map (·.length)).sum + ((tr dl i).map rowS ++ [Str.empty]).length * (⟨K.toArray⟩ : Str).length ≤ 16777216 := by
  have h1 := sum_le_mul (tr dl i) (i + 1) fun d hd => (tr_in dl i d hd).2
  have h2 : (⟨K.toArray⟩ : Str).length ≤ 2 := by rcases hK with rfl | rfl | rfl <;> decide
  rw [rows_sum, List.length_append, List.length_map, List.length_singleton]
  rw [tr_len] at h1 ⊢
  have h3 : (i + 1) * (i + 1) ≤ 6 * 6 := Nat.mul_le_mul (by omega) (by omega)
  have h4 : (i + 1 + 1) * (⟨K.toArray⟩ : Str).length ≤ 7 * 2 := Nat.mul_le_mul (by omega) h2
  omega
theorem toInts_succ (ds : List Nat) : (toInts ds).map (· + 1) = toInts (ds.map (· + 1)) := by
  unfold toInts
  rw [List.map_map, List.map_map]
  rfl
theorem train_ins {ys : List Value} {dl : List Int} (hb : ∀ x ∈ dl, 0 ≤ x) {i : Nat} (h : IntsAre ys ((toInts (tr dl i)).map (· + 1))) (t : Tok) : IntsAre (kl_ins ys ((seatOf dl i : Nat) : Int) (.int 1 t)) (toInts (tr dl (i + 1))) := by
  have q := ints_ins h (seatOf dl i) 1 t
  rw [toInts_succ] at q
  have e := toInts_ins ((tr dl i).map (· + 1)) (seatOf dl i) 1 (by rw [List.length_map, tr_len]; exact seat_le hb i)
  rw [show ((1 : Nat) : Int) = 1 from rfl] at e
  rw [e] at q
  exact q
theorem off1_all {D : Addr} : ∀ {l : List (Addr × Obj)}, LCg.Off1 D l → ∀ p ∈ l, p.1 ≠ D
  | [], _, _, h => nomatch h
  | q :: r, o, p, h => by
    rcases List.mem_cons.mp h with rfl | h
    · exact o.1
    · exact off1_all o.2 p h
theorem tr_size1 (dl : List Int) {i : Nat} (hi : i ≤ 5) : (linesS [13, 10] ((tr dl i).map (· + 1))).cps.size ≤ 60 := by
  have h1 := sum_le_mul ((tr dl i).map (· + 1)) (i + 2) fun d hd => by
    obtain ⟨e, he, rfl⟩ := List.mem_map.mp hd
    have := (tr_in dl i e he).2
    omega
  rw [lines_len]
  rw [List.length_map, tr_len] at h1 ⊢
  have h3 : (i + 1) * (i + 2) ≤ 6 * 7 := Nat.mul_le_mul (by omega) (by omega)
  have h4 : (i + 1) * [13, 10].length ≤ 6 * 2 := Nat.mul_le_mul (by omega) (by decide)
  omega
local macro_rules | `(tactic| walk_at "my:steps") => `(tactic| repeat' (first | (k_unfold; (try dsimp only)) | walk1 | (dsimp only; walk1)))
local macro_rules | `(tactic| walk_at "CompSrc") => `(tactic| refine hold ?_)
local macro_rules | `(tactic| walk_at "CT") => `(tactic| refine hold ?_)
local macro_rules | `(tactic| walk_at "subscriptTail") => `(tactic| refine hold ?_)
local macro_rules | `(tactic| walk_at "call builtin:len") => `(tactic| refine hold ?_)
local macro_rules | `(tactic| walk_at "call builtin:str.split") => `(tactic| refine hold ?_)
local macro_rules | `(tactic| walk_at "call builtin:str.join") => `(tactic| refine hold ?_)
local macro_rules | `(tactic| walk_at "call builtin:list.insert") => `(tactic| refine hold ?_)
local macro_rules | `(tactic| walk_at "call ref") => `(tactic| refine hold ?_)
local macro_rules | `(tactic| walk_at "pyIter ref") => `(tactic| refine hold ?_)
local macro_rules | `(tactic| walk_at "exec For Name Call cons nil") => `(tactic| refine hold ?_)
local macro_rules | `(tactic| walk_at "exec Assign cons ListComp") => `(tactic| refine hold ?_)
local macro_rules | `(tactic| walk_at "UnrEnd") => `(tactic| refine hold ?_)
set_option maxRecDepth 100000 in
set_option maxHeartbeats 8000000 in
theorem law_1 {w : World} {dp un : Nat} {fr : Option (List Env)} {gd : Option (List Code)} {s : Shared} {p : Program} {loose : List Str} {mean : ExcName → Option Value} {mg mb : Str → Option Value} {Q : Flow → Shared → Prop}
    {B : Heap} {L fa : Addr} {cd : Value} {m : Str → Option Value} {nx : List (Addr × Obj)} {a Dd : Addr} {dvs : List Value} {kd : Nat} {dl : List Int}
    (X : (hd.heap_39 w.params).In B) (T : Top p loose mean mg mb B) (hroom : dp + 60 < recursionLimit) (hu : un + 400 < cLine)
    (F : Fr B L s.heap m) (N : News B L s.heap ((Dd, listOf dvs.toArray kd) :: nx)) (hm : Has m [(Str.ofString "script", .ref a), (Str.ofString "drawn", .ref Dd)]) (hi : IntsAre dvs dl) (hn : dl.length = 4 ∨ dl.length = 5) (hb : ∀ x ∈ dl, 0 ≤ x)
    (rest : ∀ h' tk' m' Dt tvs kt K t tc, Fr B L h' m' → Has m' [(Str.ofString "script", .ref a), (Str.ofString "drawn", .ref Dd), (Str.ofString "count", .int ((dl.length : Int) + 1) tc), (Str.ofString "mail", .str (linesS K (tr dl dl.length)) t), (Str.ofString "train", .ref Dt)] →
      News B L h' ((Dt, listOf tvs.toArray kt) :: (Dd, listOf dvs.toArray kd) :: nx) → IntsAre tvs (toInts (tr dl dl.length)) → Kinds K →
      wpAny (model Challenge.rw_rw0101_01.row.prog w) (Am dp un fr gd) (execs (lawB.drop 6) (lawE L fa cd)) Q (fun _ _ => False) { s with heap := h', toks := tk' }) :
    wpAny (model Challenge.rw_rw0101_01.row.prog w) (Am dp un fr gd) (execs (lawB.drop 1) (lawE L fa cd)) Q (fun _ _ => False) s := by
  dsimp only [lawB, lawE, lawD, pick, List.drop_succ_cons, List.drop_zero] at rest ⊢
  w_top off; revert X; k_fill; intro X
  obtain ⟨hn4, hn5⟩ : 4 ≤ dl.length ∧ dl.length ≤ 5 := by omega
  clear hn
  replace F := frView F hm
  refine wpAny_execs_cons ?_
  walk_at "my:steps"
  refine ⟨?_⟩
  refine lenL (n := (dl.length : Int)) (News.isList N (.head _)) (by rw [hi.length]) (by omega) ?_
  walk_at "my:steps"
  refine ⟨?_⟩
  rename Fr _ _ _ _ => F1
  rename News _ _ _ _ => N1
  obtain ⟨kv, ⟨t1, t2, t3, hkv⟩, N1⟩ : ∃ kv : List Value, (∃ t1 t2 t3, kv = [Value.str (Str.ofString "\n") t1, .str (Str.ofString "\r") t2, .str (Str.ofString "\r\n") t3]) ∧ News B L _ ((_, listOf _ 0) :: (_, listOf kv.toArray 0) :: _) := ⟨_, ⟨_, _, _, rfl⟩, N1⟩
  refine For_turns F1 ?_
  walk_at "my:steps"
  refine ⟨?_⟩
  rename IsRange _ _ _ _ _ _ _ _ => R1
  rename Fr _ _ _ _ => F2
  rename News _ _ _ _ => N2
  refine turns_range (n := dl.length) (fun i m nx' => ∃ Dt Dk tvs kt K t tc, Has m [(Str.ofString "script", .ref a), (Str.ofString "drawn", .ref Dd), (Str.ofString "count", .int ((dl.length : Int) + 1) tc), (Str.ofString "kinds", .ref Dk), (Str.ofString "mail", .str (linesS K (tr dl i)) t), (Str.ofString "train", .ref Dt)] ∧
      nx' = (Dt, listOf tvs.toArray kt) :: (Dk, listOf kv.toArray 0) :: (Dd, listOf dvs.toArray kd) :: nx ∧ IntsAre tvs (toInts (tr dl i)) ∧ Kinds K) rfl R1 (small_one (by omega) (by omega) (by omega) (by omega)) (by rw [rangeSize_nat]; congr 2; omega) F2 N2 ?hJ ?turn ?done
  case hJ => 
    have hmail : Str.ofString ".\r" = linesS [13] (tr dl 0) := by
      rw [show linesS [13] (tr dl 0) = ⟨#[46, 13]⟩ from rfl]; decide +kernel
    exact ⟨_, _, _, _, [13], _, _, ⟨rfl, rfl, rfl, rfl, congrArg (fun x => some (Value.str x _)) hmail, rfl, trivial⟩, rfl, .cons _ _ .nil, .inr (.inl rfl)⟩
  case done =>
    rintro m nx' h tk ⟨Dt, Dk, tvs, kt, K, t, tc, hm, rfl, hI, hK⟩ F N
    dsimp only
    exact rest h _ m Dt tvs kt K t tc F ⟨hm.1, hm.2.1, hm.2.2.1, hm.2.2.2.2.1, hm.2.2.2.2.2.1, trivial⟩ (newsSub N (by intro p hp; rcases List.mem_cons.mp hp with rfl | hp; exact .head _; exact .tail _ (.tail _ hp))) hI hK
  case turn =>
    clear F2 N2 R1 N1
    rintro I i ti m nx' it h tk hin ⟨Dt, Dk, tvs, kt, K, t, tc, hm, rfl, hI, hK⟩ hit off F N
    replace F := frView F hm
    clear hm
    walk_at "my:steps"
    refine ⟨?_⟩
    clear F N
    rename Fr _ _ _ _ => F1
    rename News _ _ _ _ => N1
    have hin5 : i ≤ 5 := by omega
    have hpos : ∀ d ∈ tr dl i, 1 ≤ d := fun d hd => (tr_in dl i d hd).1
    have hpos2 : ∀ d ∈ (tr dl i).map (· + 1), 1 ≤ d := fun d hd => by obtain ⟨e, _, rfl⟩ := List.mem_map.mp hd; omega
    have hne : (tr dl i).map (· + 1) ≠ [] := by
      intro q
      have := congrArg List.length q
      rw [List.length_map, tr_len] at this
      cases this
    have hsz := tr_size hK dl hin5
    have hsz2 := tr_size (.inr (.inr rfl)) dl hin5 (K := [13, 10])
    have hq := quote_lines hK hpos
    have hf := fix_lines hK hpos
    refine c_quote (p := p) (loose := loose) (mean := mean) (mg := mg) (mb := mb) (X.keeps F1.keep) (T.keeps F1.keep) (by omega) (by omega) _ _ (by omega) (by show (eolT (linesL K (tr dl i)).toArray).size ≤ 1000; rw [hf]; exact Nat.le_trans hsz2 (by decide)) fun t' h' tk' g => ?_
    have F2 := F1.keeps g
    have N2 := N1.grown g
    clear F1 N1 g
    change wpAny _ _ (getMethod (Value.str ⟨dotT (eolT (linesL K (tr dl i)).toArray)⟩ t') _ _) _ _ _
    rw [hq]
    walk_at "my:steps"
    refine ⟨?_⟩
    have ecr : Str.ofString "\r\n" = crlf := by decide +kernel
    rw [ecr]
    refine KSpl.split1 F2 N2 (by decide) ?_ (by show (linesS [13, 10] ((tr dl i).map (· + 1))).cps.size + 2 ≤ sizeLine; have := tr_size1 dl hin5; rw [sizeLine_eq]; omega)
    intro R l h3 tk3 el sa F3 N3 l3
    rw [show Txt.split ⟨(linesL [13, 10] ((tr dl i).map (· + 1))).toArray⟩ crlf = _ from split_lines hne] at el
    rw [el] at sa
    generalize strValues l = rvs at sa N3
    clear el F2 N2
    walk_at "my:steps"
    refine ⟨?_⟩
    rename Fr _ _ _ _ => F4
    rename News _ _ _ _ => N4
    have hseat := seat_eq hb i
    have hsl := seat_le hb i
    rw [hseat]
    have hrl : rvs.length = i + 2 := by
      rw [strs_len sa, List.length_append, List.length_map, List.length_map, tr_len]; rfl
    have hml : ((tr dl i).map (· + 1)).length = i + 1 := by rw [List.length_map, tr_len]
    refine kl_insert F4 N4 (fitsNat (by omega)) rfl (Upd.head fun q hq => Nat.ne_of_lt (l3 q hq)) (by show rvs.length ≤ _; rw [sizeLine_eq]; omega) fun h5 F5 N5 => ?_
    have e1 : Str.ofString "." = rowS 1 := by
      rw [show rowS 1 = ⟨#[46]⟩ from rfl]; decide +kernel
    have sb : ∀ t, StrsAre (kl_ins rvs ((seatOf dl i : Nat) : Int) (.str (Str.ofString ".") t)) ((tr dl (i + 1)).map rowS ++ [Str.empty]) := fun t => by
      have := strs_ins sa (seatOf dl i) (Str.ofString ".") t (by omega)
      rw [e1, rows_ins _ _ (by omega)] at this
      rw [e1]; exact this
    dsimp only at F5 N5 ⊢
    clear F4 N4 sa
    walk_at "my:steps"
    refine ⟨?_⟩
    rename Fr _ _ _ _ => F6
    rename News _ _ _ _ => N6
    generalize hjj : Int.fmod (Int.fdiv (dl.getD _ 0) 5) 3 = jj
    have hj0 : 0 ≤ jj ∧ jj < 3 := by
      rw [← hjj, Int.fmod_eq_emod_of_nonneg _ (by decide)]
      exact ⟨Int.emod_nonneg _ (by decide), Int.emod_lt_of_pos _ (by decide)⟩
    clear hjj
    obtain ⟨K', tK, hK', hkj⟩ := kinds_at jj.toNat (by omega) t1 t2 t3
    rw [← hkv] at hkj
    refine itemL (vs := kv) (News.isList N6 (.tail _ (.tail _ (.tail _ (.head _))))) hj0.1 (by omega) hkj ?_
    walk_at "my:steps"
    refine ⟨?_⟩
    refine join_list (News.isList N6 (.head _)) (by simpa using sb _) (join_ok hK' dl (by omega)) ?_
    intro t9 tk9
    rw [join_lines]
    clear sb
    walk_at "my:steps"
    refine ⟨?_⟩
    rename Fr _ _ _ _ => F7
    rename News _ _ _ _ => N7
    refine LCg.Assign_ListComp_U F7 rfl (by rfl) (by rfl) (by decide) (by rfl) (by decide) (by rfl) (by rfl) (by rfl) ?_
    walk_at "my:steps"
    refine ⟨?_⟩
    refine LCg.CompSrc.ledger (by rfl) F7 N7 (.tail _ (.tail _ (.head _))) (by rw [List.size_toArray, hI.length, toInts, List.length_map, tr_len, sizeLine_eq]; omega) ?_
    intro g
    refine compRest_inv (fun i' ys => IntsAre ys (((toInts (tr dl i)).take i').map (· + 1))) (.inr ⟨_, .tail _ (.tail _ (.head _)), rfl, _, rfl⟩) (by simp; exact .nil) ?_ ?_
    · intro i' v I' oI C oC D m₂ ys h tk E' hi' hv hj hC hx F' N' off ne
      obtain ⟨n, tn, hn', rfl⟩ := intsAt hI (by simpa using hv)
      walk_at "my:steps"
      refine ⟨?_⟩
      refine CT.intro F' N' ?_
      rw [List.take_add_one, hn', Option.toList_some, List.map_append]
      exact ksk_snoc hj
    · intro ys hys
      rw [List.size_toArray, hI.length, List.take_length] at hys
      intro D h tk F8 N8 o1
      clear F7 N7
      dsimp only
      walk_at "my:steps"
      refine ⟨?_⟩
      rw [hseat]
      refine kl_insert F8 N8 (fitsNat (by omega)) rfl (Upd.head (off1_all o1)) (by show ys.length ≤ _; rw [hys.length, toInts, List.length_map, List.length_map, tr_len, sizeLine_eq]; omega) fun h9 F9 N9 => ?_
      walk_at "my:steps"
      refine ⟨?_⟩
      clear F8 N8
      rename Fr _ _ _ _ => F10
      rename News _ _ _ _ => N10
      exact UnrEnd.intro F10 N10 ((_, _) :: (Dk, listOf kv.toArray 0) :: (Dd, listOf dvs.toArray kd) :: nx) (List.forall_mem_cons.mpr ⟨.tail _ (.tail _ (.head _)), List.forall_mem_cons.mpr ⟨.head _, fun q hq => .tail _ (.tail _ (.tail _ (.tail _ hq)))⟩⟩)
        (List.forall_mem_cons.mpr ⟨Ne.symm o1.2.1, fun q hq => off q (.tail _ hq)⟩) ⟨_, _, _, _, _, _, _, ⟨rfl, rfl, rfl, rfl, rfl, rfl, trivial⟩, rfl, train_ins hb hys _, hK'⟩
end Mine
/- part L2 -/
namespace Mine
theorem dots_mul : ∀ d : Nat, d < 12 → Txt.mul (Str.ofString ".") (d : Int) = rowS d := by decide +kernel
theorem tabs_mul : ∀ d : Nat, d < 3 → Txt.mul (Str.ofString "\t") (d : Int) = ⟨(List.replicate d 9).toArray⟩ := by decide +kernel
theorem crlf_eq : Str.ofString "\r\n" = crlf := by decide +kernel
theorem toInts_at {ds : List Nat} {i : Nat} {x : Int} (h : (toInts ds)[i]? = some x) : ∃ d, ds[i]? = some d ∧ x = (d : Int) := by
  unfold toInts at h
  rw [List.getElem?_map] at h
  cases e : ds[i]? with
  | none => rw [e] at h; cases h
  | some d => rw [e] at h; exact ⟨d, rfl, (Option.some.inj h).symm⟩
theorem rows_sum2 : ∀ ds : List Nat, ((ds.map fun d => rowS d ++ crlf).map (·.length)).sum = ds.sum + ds.length * 2
  | [] => rfl
  | d :: ds => by
    have e : (rowS d ++ crlf).length = d + 2 := by
      rw [Str.length_append]
      congr 1
      simp [rowS, Str.length]
    rw [List.map_cons, List.map_cons, List.sum_cons, rows_sum2 ds, List.sum_cons, e, List.length_cons]
    omega
theorem join_ok2 (dl : List Int) {i : Nat} (hi : i ≤ 5) : (((tr dl i).map fun d => rowS d ++ crlf).map (·.length)).sum + ((tr dl i).map fun d => rowS d ++ crlf).length * (Str.ofString "").length ≤ 16777216 := by
  have h1 := sum_le_mul (tr dl i) (i + 1) fun d hd => (tr_in dl i d hd).2
  have h2 : (Str.ofString "").length = 0 := by decide +kernel
  rw [rows_sum2, h2]
  rw [tr_len] at h1 ⊢
  have h3 : (i + 1) * (i + 1) ≤ 6 * 6 := Nat.mul_le_mul (by omega) (by omega)
  omega
theorem join_empty : ∀ ds : List Nat, Txt.join (Str.ofString "") (ds.map fun d => rowS d ++ crlf) = linesS [13, 10] ds := by
  have e : Str.ofString "" = Str.empty := by decide +kernel
  intro ds
  rw [e]
  show Builtin.Str.glued _ _ = _
  rw [StrLaws.glued_eq_join]
  induction ds with
  | nil => rfl
  | cons d r ih =>
    cases r with
    | nil =>
      show rowS d ++ crlf = _
      apply Str.ext'
      apply Array.toList_inj.mp
      simp only [Str.cps_append, Array.toList_append, rowS, linesS, linesL_cons, crlf]
      rfl
    | cons d2 r2 =>
      show rowS d ++ crlf ++ Str.empty ++ Str.join _ _ = _
      rw [ih]
      apply Str.ext'
      apply Array.toList_inj.mp
      simp only [Str.cps_append, Array.toList_append, rowS, linesS, linesL_cons, crlf, Str.empty, List.append_assoc]
      rfl
local macro_rules | `(tactic| walk_at "my:steps") => `(tactic| repeat' (first | (k_unfold; (try dsimp only)) | walk1 | (dsimp only; walk1)))
local macro_rules | `(tactic| walk_at "CompSrc") => `(tactic| refine hold ?_)
local macro_rules | `(tactic| walk_at "execs cons Assign cons") => `(tactic| refine hold ?_)
local macro_rules | `(tactic| walk_at "CT") => `(tactic| refine hold ?_)
local macro_rules | `(tactic| walk_at "eval ListComp") => `(tactic| refine hold ?_)
local macro_rules | `(tactic| walk_at "call builtin:str.join") => `(tactic| refine hold ?_)
local macro_rules | `(tactic| walk_at "call ref") => `(tactic| refine hold ?_)
local macro_rules | `(tactic| walk_at "binaryOp Mult str int") => `(tactic| refine hold ?_)
local macro_rules | `(tactic| walk_at "compareOp NotEq str str") => `(tactic| refine hold ?_)
local macro_rules | `(tactic| walk_at "binaryOp Add str str") => `(tactic| refine hold ?_)
set_option maxRecDepth 100000 in
set_option maxHeartbeats 8000000 in
theorem law_2 {w : World} {dp un : Nat} {fr : Option (List Env)} {gd : Option (List Code)} {s : Shared} {p : Program} {loose : List Str} {mean : ExcName → Option Value} {mg mb : Str → Option Value} {Q : Flow → Shared → Prop}
    {B : Heap} {L fa : Addr} {cd : Value} {m : Str → Option Value} {nx : List (Addr × Obj)} {a Dd Dt : Addr} {tvs : List Value} {kt : Nat} {dl : List Int} {n : Nat} {K : List Nat} {t tc : Tok} {c : Int}
    (X : (hd.heap_39 w.params).In B) (T : Top p loose mean mg mb B) (hroom : dp + 60 < recursionLimit) (hu : un + 400 < cLine)
    (F : Fr B L s.heap m) (N : News B L s.heap ((Dt, listOf tvs.toArray kt) :: nx)) (hm : Has m [(Str.ofString "script", .ref a), (Str.ofString "drawn", .ref Dd), (Str.ofString "count", .int c tc), (Str.ofString "mail", .str (linesS K (tr dl n)) t), (Str.ofString "train", .ref Dt)])
    (hI : IntsAre tvs (toInts (tr dl n))) (hn : n ≤ 5) (hK : Kinds K)
    (rest : ∀ h' tk' m' t', Fr B L h' m' → Has m' [(Str.ofString "script", .ref a), (Str.ofString "drawn", .ref Dd), (Str.ofString "count", .int c tc), (Str.ofString "page", .str (linesS [13, 10] (tr dl n)) t'), (Str.ofString "train", .ref Dt)] →
      News B L h' ((Dt, listOf tvs.toArray kt) :: nx) → 
      wpAny (model Challenge.rw_rw0101_01.row.prog w) (Am dp un fr gd) (execs (lawB.drop 8) (lawE L fa cd)) Q (fun _ _ => False) { s with heap := h', toks := tk' }) :
    wpAny (model Challenge.rw_rw0101_01.row.prog w) (Am dp un fr gd) (execs (lawB.drop 6) (lawE L fa cd)) Q (fun _ _ => False) s := by
  dsimp only [lawB, lawE, lawD, pick, List.drop_succ_cons, List.drop_zero] at rest ⊢
  w_top off; revert X; k_fill; intro X
  replace F := frView F hm
  have hpos : ∀ d ∈ tr dl n, 1 ≤ d := fun d hd => (tr_in dl n d hd).1
  have hsz := tr_size hK dl hn
  refine wpAny_execs_cons ?_
  walk_at "my:steps"
  refine ⟨?_⟩
  refine c_fix (p := p) (loose := loose) (mean := mean) (mg := mg) (mb := mb) (X.keeps F.keep) (T.keeps F.keep) (by omega) (by omega) _ _ (by omega) fun t' h' tk' g => ?_
  have F2 := F.keeps g
  have N2 := N.grown g
  rw [show eolT (linesS K (tr dl n)).cps = _ from fix_lines hK hpos, show (⟨(linesL [13, 10] (tr dl n)).toArray⟩ : Str) = linesS [13, 10] (tr dl n) from rfl]
  clear F N g
  walk_at "my:steps"
  refine ⟨?_⟩
  rename Fr _ _ _ _ => F3
  rename News _ _ _ _ => N3
  refine LCg.ListComp_U (F₀ := F3) (by rfl) (by decide) (by rfl) (by decide) (by rfl) ?_
  walk_at "my:steps"
  refine ⟨?_⟩
  refine LCg.CompSrc.ledger (by rfl) F3 N3 (.head _) (by rw [List.size_toArray, hI.length, toInts, List.length_map, tr_len, sizeLine_eq]; omega) ?_
  intro g
  refine compRest_inv (fun i' ys => StrsAre ys (((tr dl n).take i').map fun d => rowS d ++ crlf)) (.inr ⟨_, .head _, rfl, _, rfl⟩) (by simp; exact .nil) ?_ ?_
  · intro i' v I' oI C oC D m₂ ys h tk E' hi' hv hj hC hx F' N' off ne
    obtain ⟨x, tx, hx', rfl⟩ := intsAt hI (by simpa using hv)
    walk_at "my:steps"
    refine ⟨?_⟩
    obtain ⟨d, hd, rfl⟩ := toInts_at hx'
    have hdb := tr_in dl n d (List.mem_of_getElem? hd)
    refine SB.mul (mulOk_of 1 100 (by decide) (by omega) (by omega) (by decide) (by decide)) ?_
    intro t1 k1
    rw [dots_mul d (by omega)]
    walk_at "my:steps"
    refine ⟨?_⟩
    rw [crlf_eq]
    refine PyProof.Rows.add_str (fun t2 k2 => ?_) (by simp [rowS, crlf, Str.length, sizeLine_eq]; omega)
    walk_at "my:steps"
    refine ⟨?_⟩
    refine CT.intro F' N' ?_
    rw [List.take_add_one, hd, Option.toList_some, List.map_append]
    exact strsAre_snoc hj
  · intro ys hys
    rw [List.size_toArray, hI.length, toInts, List.length_map, List.take_length] at hys
    intro D h tk F8 N8 o1
    clear F3 N3
    dsimp only
    walk_at "my:steps"
    refine ⟨?_⟩
    refine join_list (News.isList N8 (.head _)) (by simpa using hys) (join_ok2 dl hn) ?_
    intro t9 tk9
    rw [join_empty]
    walk_at "my:steps"
    refine ⟨?_⟩
    refine ne_str ?_
    rw [show (linesS [13, 10] (tr dl n) != linesS [13, 10] (tr dl n)) = false from bne_self_eq_false _]
    walk_at "my:steps"
    refine ⟨?_⟩
    rename Fr _ _ _ _ => F9
    rename News _ _ _ _ => N9
    exact rest _ _ _ t' F9 ⟨rfl, rfl, rfl, rfl, rfl, trivial⟩ (newsSub N9 fun q hq => .tail _ hq)
end Mine
/- part L3 -/
namespace Mine
/-- the law's ledger: its five cells, then the rest -/
noncomputable abbrev cellsL (L : Addr) (oF oT oLe oLo oH : Obj) (nl : List (Addr × Obj)) : List (Addr × Obj) :=
  (L + 1 + 1 + 1 + 1 + 1, oH) :: (L + 1 + 1 + 1 + 1, oLo) :: (L + 1 + 1 + 1, oLe) :: (L + 1 + 1, oT) :: (L + 1, oF) :: nl
noncomputable def NoCell (nl : List (Addr × Obj)) : Prop := ∀ p ∈ nl, ∀ v, p.2.data ≠ .cell v
theorem off_cell {h₀ h : Heap} {L c : Addr} {o : Obj} {v : Option Value} {all nl : List (Addr × Obj)} (N : News h₀ L h all) (hs : ∀ p ∈ nl, p ∈ all) (hc : (c, o) ∈ all) (hd : o.data = .cell v) (hn : NoCell nl) : ∀ p ∈ nl, p.1 ≠ c := by
  intro p hp e
  have h1 := (N _ (hs p hp)).1
  have h2 := (N _ hc).1
  rw [e] at h1
  rw [h1] at h2
  have := hn p hp v
  rw [Option.some.inj h2] at this
  exact this hd
theorem off_cells {h₀ h : Heap} {L : Addr} {oF oT oLe oLo oH : Obj} {nl : List (Addr × Obj)} {vF vT vLe vLo vH : Option Value} (N : News h₀ L h (cellsL L oF oT oLe oLo oH nl)) (hn : NoCell nl)
    (dF : oF.data = .cell vF) (dT : oT.data = .cell vT) (dLe : oLe.data = .cell vLe) (dLo : oLo.data = .cell vLo) (dH : oH.data = .cell vH) :
    (∀ p ∈ nl, p.1 ≠ L + 1) ∧ (∀ p ∈ nl, p.1 ≠ L + 1 + 1) ∧ (∀ p ∈ nl, p.1 ≠ L + 1 + 1 + 1) ∧ (∀ p ∈ nl, p.1 ≠ L + 1 + 1 + 1 + 1) ∧ ∀ p ∈ nl, p.1 ≠ L + 1 + 1 + 1 + 1 + 1 := by
  have hs : ∀ p ∈ nl, p ∈ cellsL L oF oT oLe oLo oH nl := fun p hp => .tail _ (.tail _ (.tail _ (.tail _ (.tail _ hp))))
  exact ⟨off_cell N hs (.tail _ (.tail _ (.tail _ (.tail _ (.head _))))) dF hn, off_cell N hs (.tail _ (.tail _ (.tail _ (.head _)))) dT hn, off_cell N hs (.tail _ (.tail _ (.head _))) dLe hn,
    off_cell N hs (.tail _ (.head _)) dLo hn, off_cell N hs (.head _) dH hn⟩
inductive LeadsIn (lo : List (Addr × Obj)) (j : Nat) : List Value → List Nat → Prop
  | nil : LeadsIn lo j [] []
  | cons {a : Addr} {d : Nat} {vs : List Value} {ds : List Nat} : LeadIn lo a j d → LeadsIn lo j vs ds → LeadsIn lo j (.ref a :: vs) (d :: ds)
theorem LeadsIn.mono {lo lo' : List (Addr × Obj)} {j : Nat} (g : ∀ p ∈ lo, p ∈ lo') : ∀ {vs : List Value} {ds : List Nat}, LeadsIn lo j vs ds → LeadsIn lo' j vs ds
  | _, _, .nil => .nil
  | _, _, .cons l r => .cons (l.mono g) (r.mono g)
theorem LeadsIn.snoc {lo : List (Addr × Obj)} {j : Nat} {a : Addr} {d : Nat} (h : LeadIn lo a j d) : ∀ {vs : List Value} {ds : List Nat}, LeadsIn lo j vs ds → LeadsIn lo j (vs ++ [.ref a]) (ds ++ [d])
  | _, _, .nil => .cons h .nil
  | _, _, .cons l r => .cons l (r.snoc h)
theorem newsMove {h₀ h : Heap} {L : Addr} {x : Addr × Obj} {oF oT oLe oLo oH : Obj} {nl : List (Addr × Obj)} (N : News h₀ L h (x :: cellsL L oF oT oLe oLo oH nl)) : News h₀ L h (cellsL L oF oT oLe oLo oH (x :: nl)) := newsSub N fun p hp => by
  simp only [cellsL, List.mem_cons] at hp ⊢
  rcases hp with h | h | h | h | h | h | h
  · exact .inr (.inl h)
  · exact .inr (.inr (.inl h))
  · exact .inr (.inr (.inr (.inl h)))
  · exact .inr (.inr (.inr (.inr (.inl h))))
  · exact .inr (.inr (.inr (.inr (.inr (.inl h)))))
  · exact .inl h
  · exact .inr (.inr (.inr (.inr (.inr (.inr h)))))
theorem NoCell.cons {x : Addr × Obj} {nl : List (Addr × Obj)} (h : ∀ v, x.2.data ≠ .cell v) (hn : NoCell nl) : NoCell (x :: nl) := fun p hp => by
  rcases List.mem_cons.mp hp with rfl | hp
  · exact h
  · exact hn p hp
theorem tabs_len (j : Nat) : (⟨(List.replicate j 9).toArray⟩ : Str).length = j := by simp [Str.length]
local macro_rules | `(tactic| k_all) => `(tactic| assumption)
local macro_rules | `(tactic| walk_at "my:steps") => `(tactic| repeat' (first | (k_unfold; (try dsimp only)) | walk1 | (dsimp only; walk1)))
local macro_rules | `(tactic| walk_at "CompSrc") => `(tactic| refine hold ?_)
local macro_rules | `(tactic| walk_at "CG") => `(tactic| refine hold ?_)
local macro_rules | `(tactic| walk_at "execs cons Assign cons") => `(tactic| ((with_reducible show wpAny _ _ (execs (Stmt.Assign _ (Expr.ListComp _ _ _ _) _ :: _) _) _ _ _); refine hold ?_))
local macro_rules | `(tactic| walk_at "call ref") => `(tactic| refine hold ?_)
local macro_rules | `(tactic| walk_at "call builtin:len") => `(tactic| refine hold ?_)
local macro_rules | `(tactic| walk_at "call builtin:str.split") => `(tactic| refine hold ?_)
local macro_rules | `(tactic| walk_at "call builtin:str.replace") => `(tactic| refine hold ?_)
local macro_rules | `(tactic| walk_at "binaryOp Mult str int") => `(tactic| refine hold ?_)
local macro_rules | `(tactic| walk_at "compareOp NotEq str str") => `(tactic| refine hold ?_)
local macro_rules | `(tactic| walk_at "binaryOp Add str str") => `(tactic| refine hold ?_)
set_option maxRecDepth 100000 in
set_option maxHeartbeats 8000000 in
theorem law_3a {w : World} {dp un : Nat} {fr : Option (List Env)} {gd : Option (List Code)} {s : Shared} {p : Program} {loose : List Str} {mean : ExcName → Option Value} {mg mb : Str → Option Value} {Q : Flow → Shared → Prop}
    {B : Heap} {L fa : Addr} {cd : Value} {m : Str → Option Value} {nl : List (Addr × Obj)} {oF oT oLe oLo oH : Obj} {vF vT vLe vLo vH : Option Value} {a Dd Dt : Addr} {vs : List Value} {ns : List Int} {pg : Str} {t tc : Tok} {c : Int}
    (X : (hd.heap_39 w.params).In B) (T : Top p loose mean mg mb B) (hroom : dp + 60 < recursionLimit) (hu : un + 400 < cLine)
    (F : Fr B L s.heap m) (N : News B L s.heap (cellsL L oF oT oLe oLo oH nl)) (hm : Has m [(Str.ofString "script", .ref a), (Str.ofString "drawn", .ref Dd), (Str.ofString "count", .int c tc), (Str.ofString "page", .str pg t), (Str.ofString "train", .ref Dt)])
    (hl : B.IsList a vs.toArray) (hi : IntsAre vs ns) (hn : ns.length ≤ 63) (hnc : NoCell nl)
    (dF : oF.data = .cell vF) (dT : oT.data = .cell vT) (dLe : oLe.data = .cell vLe) (dLo : oLo.data = .cell vLo) (dH : oH.data = .cell vH)
    (rest : ∀ h' tk' m' oF' oT' aT tv (j : Nat) tF, Fr B L h' m' → Has m' [(Str.ofString "drawn", .ref Dd), (Str.ofString "count", .int c tc), (Str.ofString "page", .str pg t), (Str.ofString "train", .ref Dt)] →
      News B L h' (cellsL L oF' oT' oLe oLo oH ((aT, ({ cls := .type "tuple", data := .seq tv } : Obj)) :: nl)) → j ≤ 2 → oF'.data = .cell (some (.str ⟨(List.replicate j 9).toArray⟩ tF)) → oT'.data = .cell (some (.ref aT)) → IntsAre tv.toList (if j = 0 then [] else [(j : Int)]) → 1 ≤ tk' →
      wpAny (model Challenge.rw_rw0101_01.row.prog w) (Am dp un fr gd) (execs (lawB.drop 10) (lawE L fa cd)) Q (fun _ _ => False) { s with heap := h', toks := tk' }) :
    wpAny (model Challenge.rw_rw0101_01.row.prog w) (Am dp un fr gd) (execs (lawB.drop 8) (lawE L fa cd)) Q (fun _ _ => False) s := by
  dsimp only [lawB, lawE, lawD, pick, List.drop_succ_cons, List.drop_zero] at rest ⊢
  w_top off; revert X; k_fill; intro X
  obtain ⟨f1, f2, f3, f4, f5⟩ := off_cells N hnc dF dT dLe dLo dH
  dsimp only [cellsL] at N
  replace F := frView F hm
  refine wpAny_execs_cons ?_
  walk_at "my:steps"
  refine ⟨?_⟩
  refine lenL (n := (ns.length : Int)) (Grows.list F.keep hl) (by rw [hi.length]) (by omega) ?_
  walk_at "my:steps"
  refine ⟨?_⟩
  obtain ⟨j, hj, hj3⟩ : ∃ j : Nat, Int.fmod (ns.length : Int) 3 = (j : Int) ∧ j < 3 := by
    refine ⟨ns.length % 3, ?_, Nat.mod_lt _ (by decide)⟩
    rw [Int.fmod_eq_emod_of_nonneg _ (by decide)]; rfl
  rw [hj]
  refine SB.mul (x := Str.ofString "\t") (n := (j : Int)) (mulOk_of 1 100 (by decide) (by omega) (by omega) (by decide) (by decide)) ?_
  intro t1 k1
  rw [tabs_mul j hj3]
  walk_at "my:steps"
  refine ⟨?_⟩
  refine ne_str ?_
  by_cases hj0 : j = 0
  · rw [show ((⟨(List.replicate j 9).toArray⟩ : Str) != Str.ofString "") = false by subst hj0; decide +kernel]
    walk_at "my:steps"
    refine ⟨?_⟩
    rename Fr _ _ _ _ => F9
    rename News _ _ _ _ => N9
    refine rest _ _ _ _ _ _ _ j t1 F9 ⟨rfl, rfl, rfl, rfl, trivial⟩ (newsMove N9) (by omega) (by assumption) (by assumption) (by rw [if_pos hj0]; exact .nil) ?_
    first | exact Nat.le_add_left 1 _ | (dsimp only; omega)
  · rw [show ((⟨(List.replicate j 9).toArray⟩ : Str) != Str.ofString "") = true by
      have : j = 1 ∨ j = 2 := by omega
      rcases this with rfl | rfl <;> decide +kernel]
    walk_at "my:steps"
    refine ⟨?_⟩
    refine SBL.len (by rw [tabs_len]; omega) ?_
    rw [tabs_len]
    walk_at "my:steps"
    refine ⟨?_⟩
    rename Fr _ _ _ _ => F9
    rename News _ _ _ _ => N9
    refine rest _ _ _ _ _ _ _ j t1 F9 ⟨rfl, rfl, rfl, rfl, trivial⟩ (newsMove N9) (by omega) (by assumption) (by assumption) (by rw [if_neg hj0]; exact .cons _ _ .nil) ?_
    first | exact Nat.le_add_left 1 _ | (dsimp only; omega)
end Mine
/- part Ctk -/
namespace Mine
/-- how a turn of a comprehension ends whose ledger may grow -/
structure CG (h₀ : Heap) (L : Addr) (m : Str → Option Value) (s₁ : Shared) (I : Addr) (oI : Obj) (C : Addr) (oC : Obj) (D : Addr) (oD : Obj) (J : Value → List (Addr × Obj) → Prop) (y : Value) (s₂ : Shared) : Prop where
  out : ∃ h' tk news', s₂ = { s₁ with heap := h', toks := tk } ∧ Fr h₀ L h' m ∧ News h₀ L h' ((I, oI) :: (C, oC) :: (D, oD) :: news') ∧ LCg.Off3 I C D news' ∧ J y news'
theorem noneAt {h : Heap} {a : Addr} (l : h.objs.size ≤ a) : h.get? a = none := Heap.get?_none_of_le l
section
variable {prog : Program} {w : World} {A : Around} {E : Value → Shared → Prop} {s : Shared} {h₀ : Heap} {L : Addr} {m : Str → Option Value} {env : Env}
theorem ctk_loop {elt iter : PySem.Expr} {x : Str} {px : Pos} {scope : Scope} {cl : List (Str × Addr)} {pos : Pos} {R : Result → Shared → Prop} {I C D ax : Addr} {its : Array Value} {k : Nat} {nw : List (Addr × Obj)} {m₂ : Str → Option Value} (J : Nat → List Value → List (Addr × Obj) → Prop)
    (hh : A.handled = none) (hx : scope.names.lookup x = some .local) (hkind : scope.kind = .function) (hsz : its.size ≤ sizeLine) (hCL : C ≠ L) (hDL : D ≠ L) (hIL : I ≠ L) (hC₀ : h₀.get? C = none) (hD₀ : h₀.get? D = none) (hI₀ : h₀.get? I = none)
    (ne : ((@Ne Nat I C) ∧ (@Ne Nat I D) ∧ (@Ne Nat C D))) (hsrc : ∀ i ys nw, J i ys nw → (ax, ({ cls := .type "list", data := .seq its k } : Obj)) ∈ nw)
    (turn : ∀ i v oI oC m₂ ys nw g tk (E' : Value → Shared → Prop), 1 ≤ tk → its[i]? = some v → J i ys nw → LCg.NsObj oC m₂ → m₂ x = some v → Fr h₀ L g m → News h₀ L g ((I, oI) :: (C, oC) :: (D, LCg.lst ys) :: nw) → LCg.Off3 I C D nw →
        wpAny (model prog w) A (eval elt (compEnvC scope cl C env)) (CG h₀ L m { s with heap := g, toks := tk } I oI C oC D (LCg.lst ys) (fun v' nw' => J (i + 1) (ys ++ [v']) nw')) E' { s with heap := g, toks := tk })
    (fin : ∀ ys nw g tk m', J its.size ys nw → Fr h₀ L g m → g.Ns C m' → News h₀ L g ((D, LCg.lst ys) :: nw) → LCg.Off3 I C D nw → R (.ok .next) { s with heap := g, toks := tk })
    (htk : 1 ≤ s.toks) (hit : s.heap.IsListIter I ax 0) (F : Fr h₀ L s.heap m) (hn : s.heap.Ns C m₂) (N : News h₀ L s.heap ((D, LCg.lst []) :: nw)) (off : LCg.Off3 I C D nw) (hJ : J 0 [] nw) :
    codeAny (model prog w) A (.compLoop (.ListComp elt [⟨.Name x px, iter, [], 0⟩] scope pos) 0 (.ref I) (.ref D) (compEnvC scope cl C env)) R s := by
  refine codeAny_compLoop_tests (fun n s' => ∃ g tk i ys m' nw, s' = { s with heap := g, toks := tk } ∧ 1 ≤ tk ∧ n + i = its.size + 1 ∧ i ≤ its.size ∧ ys.length = i ∧ g.IsListIter I ax i ∧ Fr h₀ L g m ∧ g.Ns C m' ∧ News h₀ L g ((D, LCg.lst ys) :: nw) ∧ LCg.Off3 I C D nw ∧ J i ys nw) ?_ (its.size + 1)
    ⟨s.heap, s.toks, 0, [], m₂, nw, rfl, htk, rfl, Nat.zero_le _, rfl, hit, F, hn, N, off, hJ⟩
  rintro n s' ⟨g, tk, i, ys, m', nw, rfl, htk, hni, hi, hy, hit, F, hn, N, off, hJ⟩
  have hax : ax ≠ I := (off.mem _ (hsrc _ _ _ hJ)).1
  have W := Walks.list (prog := prog) (w := w) hh I ax hax its
  have hl : ∀ {g' : Heap} {nw'}, News h₀ L g' nw' → (ax, ({ cls := .type "list", data := .seq its k } : Obj)) ∈ nw' → g'.IsList ax its := fun N' hm => ⟨_, (N' _ hm).1, rfl, k, rfl⟩
  have hl1 : g.IsList ax its := hl N (.tail _ (hsrc _ _ _ hJ))
  by_cases hlt : i < its.size
  · refine wpAny_with_toks (n := 1) htk (W.item i _ _ _ hlt ⟨hit, hl1⟩ fun v g1 tk1 hv st1 k1 htk1 => ?_)
    have at1 : ∀ b o, b ≠ I → g.get? b = some o → g1.get? b = some o := fun b o hb e => k1 b o (fun q => hb (List.mem_singleton.mp q)) e
    refine wpAny_assign_Name (wpAny_storeName_local (lookup_relabel_local hx) (hn.at' fun o e => at1 C o (Ne.symm ne.1) e) (fun g2 hn2 hs2 => ?_) (by simp [compEnvC, relabel, hkind]))
    refine wpAny_tests_nil ?_
    simp only [if_true]
    have at2 : ∀ b o, b ≠ I → b ≠ C → g.get? b = some o → g2.get? b = some o := fun b o hb hc e => hs2.extBut b o hc (at1 b o hb e)
    have F2 : Fr h₀ L g2 m := ⟨F.ns.at' fun o e => at2 L o (Ne.symm hIL) (Ne.symm hCL) e, fun b o e => at2 b o (fun q => by rw [q, hI₀] at e; cases e) (fun q => by rw [q, hC₀] at e; cases e) (F.keep b o e), F.above⟩
    obtain ⟨oC, heC, hoC⟩ := LCg.ns_obj hn2
    obtain ⟨oI, heI, hoI⟩ := st1.1
    have N2 : News h₀ L g2 ((I, oI) :: (C, oC) :: (D, LCg.lst ys) :: nw) := by
      intro q hq
      rcases List.mem_cons.mp hq with rfl | hq
      · exact ⟨hs2.extBut _ _ ne.1 heI, hIL, hI₀⟩
      · rcases List.mem_cons.mp hq with rfl | hq
        · exact ⟨heC, hCL, hC₀⟩
        · refine ⟨at2 _ _ ?_ ?_ (N q hq).1, (N q hq).2⟩
          · rcases List.mem_cons.mp hq with rfl | hq
            · exact Ne.symm ne.2.1
            · exact (off.mem q hq).1
          · rcases List.mem_cons.mp hq with rfl | hq
            · exact Ne.symm ne.2.2
            · exact (off.mem q hq).2.1
    refine wpAny_with_toks (n := 1) (Nat.le_succ_of_le htk1) (wpAny_mono (turn i v oI oC _ ys nw g2 _ _ (Nat.le_succ_of_le htk1) hv hJ hoC (by simp) F2 N2 off) (fun y' s4 hq htk4 => ?_) fun _ _ e _ => e)
    obtain ⟨g4, tk4, nw4, rfl, F4, N4, off4, hJ4⟩ := hq.out
    have zI := (N4 _ (.head _)).1
    have zC := (N4 _ (.tail _ (.head _))).1
    have zD := (N4 _ (.tail _ (.tail _ (.head _)))).1
    refine append_at (hsz := by show ys.toArray.size ≤ sizeLine; rw [List.size_toArray, hy]; omega) zD fun g5 hs5 hD5 => ?_
    refine ⟨n - 1, by omega, g5, tk4, i + 1, ys ++ [y'], _, nw4, rfl, htk4, by omega, hlt, by simp [hy], ⟨oI, hs5.extBut _ _ ne.2.1 zI, hoI⟩, F4.change hs5 hDL hD₀, (hoC.ns zC).sameBut hs5 ne.2.2, ?_, off4, hJ4⟩
    intro q hq
    rcases List.mem_cons.mp hq with rfl | hq
    · exact ⟨hD5.trans (congrArg some (LCg.lst_snoc ys y')), hDL, hD₀⟩
    · exact ⟨hs5.extBut _ _ (off4.mem q hq).2.2 (N4 q (.tail _ (.tail _ (.tail _ hq)))).1, (N4 q (.tail _ (.tail _ (.tail _ hq)))).2⟩
  · obtain rfl : i = its.size := by omega
    refine W.done _ _ _ ⟨hit, hl1⟩ fun g1 tk1 k1 => ?_
    have at1 : ∀ b o, b ≠ I → g.get? b = some o → g1.get? b = some o := fun b o hb e => k1 b o (fun q => hb (List.mem_singleton.mp q)) e
    refine fin ys nw g1 tk1 m' hJ ⟨F.ns.at' fun o e => at1 L o (Ne.symm hIL) e, fun b o e => at1 b o (fun q => by rw [q, hI₀] at e; cases e) (F.keep b o e), F.above⟩ (hn.at' fun o e => at1 C o (Ne.symm ne.1) e) (fun q hq => ⟨at1 _ _ ?_ (N q hq).1, (N q hq).2⟩) off
    rcases List.mem_cons.mp hq with rfl | hq
    · exact Ne.symm ne.2.1
    · exact (off.mem q hq).1
/-- a list comprehension over a list, its turns told beside how many tokens there are -/
theorem comp_tok {elt iter : PySem.Expr} {x y : Str} {px py : Pos} {scope : Scope} {cl : List (Str × Addr)} {pos spos : Pos} {Q : Flow → Shared → Prop} (hLe : env.locals = L)
    (hsw : swapsWith (.ListComp elt [⟨.Name x px, iter, [], 0⟩] scope pos) (some (.Name y py)) spos.line env = pure true)
    (hclos : closureFor scope env = pure cl) (hcell : ∀ z ∈ scope.names, z.2 ≠ .cell) (hkind : scope.kind = .function)
    (hnames : ∀ z ∈ scope.names, z.2 = .local → scope.names.lookup z.1 = some .local) (hx : scope.names.lookup x = some .local)
    (hy : env.kindOf y = some .local) (hp : (env.scope.kind == .class || (env.scope.kind == .module && env.locals != env.globals)) = false) (hh : A.handled = none)
    (h : wpAny (model prog w) A (eval iter env) (fun xv s₁ => ∃ ax its k news, ∃ J : Nat → List Value → List (Addr × Obj) → Prop, xv = .ref ax ∧ Fr h₀ L s₁.heap m ∧ News h₀ L s₁.heap news ∧ its.size ≤ sizeLine ∧ 1 ≤ s₁.toks ∧ J 0 [] news ∧
      (∀ i ys nw, J i ys nw → (ax, ({ cls := .type "list", data := .seq its k } : Obj)) ∈ nw) ∧
      (∀ i v I oI C oC D m₂ ys nw g tk (E' : Value → Shared → Prop), 1 ≤ tk → its[i]? = some v → J i ys nw → LCg.NsObj oC m₂ → m₂ x = some v → Fr h₀ L g m → News h₀ L g ((I, oI) :: (C, oC) :: (D, LCg.lst ys) :: nw) → LCg.Off3 I C D nw → ((@Ne Nat I C) ∧ (@Ne Nat I D) ∧ (@Ne Nat C D)) →
        wpAny (model prog w) A (eval elt (compEnvC scope cl C env)) (CG h₀ L m { s₁ with heap := g, toks := tk } I oI C oC D (LCg.lst ys) (fun v' nw' => J (i + 1) (ys ++ [v']) nw')) E' { s₁ with heap := g, toks := tk }) ∧
      (∀ ys nw D g tk, J its.size ys nw → Fr h₀ L g (fun z => if z = y then some (.ref D) else m z) → News h₀ L g ((D, LCg.lst ys) :: nw) → Q .next { s₁ with heap := g, toks := tk })) E s)
    (hs : ∀ x, foldedSetIterable iter env x = pure x := by intro _; rfl) :
    wpAny (model prog w) A (exec (.Assign [.Name y py] (.ListComp elt [⟨.Name x px, iter, [], 0⟩] scope pos) spos) env) Q E s := by
  subst hLe
  rw [exec_Assign_Name_used _ _ _ _ hsw]
  refine wpAny_bind (wpAny_standAt (wpAny_bind ?_))
  show wpAny _ A (do let _ ← comprehension (.ListComp elt [⟨.Name x px, iter, [], 0⟩] scope pos) scope env _ (newList []) false (eval iter env) (some (assign (.Name y py) env))) _ _ s
  refine wpAny_bind (wpAny_mono (wpAny_comprehension_free (use := some (assign (.Name y py) env)) (Q := fun _ s' => Q .next s') rfl hs hclos hkind hnames
    (wpAny_mono h (fun xv s₁ h₁ => ?_) fun _ _ e => e)) (fun _ s' hq => wpAny_pure (wpAny_pure hq)) fun _ _ e => e)
  obtain ⟨ax, its, k, news, J, rfl, F, N, hsz, htk, hJ, hsrc, turn, fin⟩ := h₁
  have hl : s₁.heap.IsList ax its := ⟨_, (N _ (hsrc _ _ _ hJ)).1, rfl, k, rfl⟩
  refine wpAny_pyIter_list hl ?_
  refine wpAny_newObj_type (wpAny_newFunctionEnv hcell (fun z hz => nomatch hz) (fun h₁ hns₁ hsb₁ => ?_) hkind)
  dsimp only at hns₁ hsb₁ ⊢
  generalize hH1 : s₁.heap.push { cls := .type "list_iterator", data := .fields #[.ref ax, .int 0 0] } = H1 at hns₁ hsb₁ ⊢
  generalize hH2 : H1.push { cls := .type "list", dict := none, data := .seq ([] : List Value).toArray } = H2 at hns₁ hsb₁ ⊢
  have lD : H1.objs.size = s₁.heap.objs.size + 1 := by rw [← hH1, Heap.size_push]
  have lC : H2.objs.size = H1.objs.size + 1 := by rw [← hH2, Heap.size_push]
  have nIC : @Ne Nat s₁.heap.objs.size H2.objs.size := by omega
  have nID : @Ne Nat s₁.heap.objs.size H1.objs.size := by omega
  have nCD : @Ne Nat H2.objs.size H1.objs.size := by omega
  have up1 : ∀ b o, s₁.heap.get? b = some o → H1.get? b = some o := fun b o e => hH1 ▸ Heap.get?_push_of_some _ e
  have up2 : ∀ b o, H1.get? b = some o → H2.get? b = some o := fun b o e => hH2 ▸ Heap.get?_push_of_some _ e
  have up3 : ∀ b o, H2.get? b = some o → h₁.get? b = some o := fun b o e => hsb₁.extBut b o (Nat.ne_of_lt (Heap.lt_size e)) (Heap.get?_push_of_some _ e)
  have up : ∀ b o, s₁.heap.get? b = some o → h₁.get? b = some o := fun b o e => up3 _ _ (up2 _ _ (up1 _ _ e))
  have lt1 : ∀ {b o}, s₁.heap.get? b = some o → (@LT.lt Nat instLTNat b s₁.heap.objs.size) := fun e => Heap.lt_size e
  have new0 : ∀ a, s₁.heap.objs.size ≤ a → h₀.get? a = none := fun a ha => noneAt (Nat.le_trans (Nat.le_of_lt (Nat.lt_of_le_of_lt F.above F.ns.lt)) ha)
  have hLlt : @LT.lt Nat instLTNat env.locals s₁.heap.objs.size := F.ns.lt
  have eI : h₁.get? s₁.heap.objs.size = some { cls := .type "list_iterator", data := .fields #[.ref ax, .int 0 0] } := up3 _ _ (up2 _ _ (hH1 ▸ Heap.get?_push_size _ rfl))
  have eDl : h₁.get? H1.objs.size = some (LCg.lst []) := up3 _ _ (hH2 ▸ Heap.get?_push_size _ rfl)
  have N1 : News h₀ env.locals h₁ ((H1.objs.size, LCg.lst []) :: news) := by
    intro q hq
    rcases List.mem_cons.mp hq with rfl | hq
    · exact ⟨eDl, by show @Ne Nat H1.objs.size env.locals; omega, new0 _ (by omega)⟩
    · exact ⟨up _ _ (N q hq).1, (N q hq).2⟩
  have off : LCg.Off3 s₁.heap.objs.size H2.objs.size H1.objs.size news := LCg.Off3.of fun q hq => by
    have := lt1 (N q hq).1
    exact ⟨Nat.ne_of_lt this, Nat.ne_of_lt (by omega), Nat.ne_of_lt (by omega)⟩
  have loop : codeAny (model prog w) A (.compLoop (.ListComp elt [⟨.Name x px, iter, [], 0⟩] scope pos) 0 (.ref s₁.heap.objs.size) (.ref H1.objs.size) (compEnvC scope cl H2.objs.size env))
      (compPost (model prog w) A E (some (assign (.Name y py) env)) (fun _ s' => Q .next s') (.ref H1.objs.size) H2.objs.size) { s₁ with heap := h₁, toks := s₁.toks + ([] : List (Str × Value)).length } := by
    refine ctk_loop (s := { s₁ with heap := h₁, toks := s₁.toks + ([] : List (Str × Value)).length }) (ax := ax) (its := its) (k := k) J hh hx hkind hsz ?_ ?_ ?_ (new0 _ (by omega)) (new0 _ (by omega)) (new0 _ (Nat.le_refl _)) ⟨nIC, nID, nCD⟩ hsrc ?_ ?_ htk ⟨_, eI, rfl, rfl⟩ (F.keeps up) hns₁ N1 off hJ
    · show @Ne Nat H2.objs.size env.locals; omega
    · show @Ne Nat H1.objs.size env.locals; omega
    · show @Ne Nat s₁.heap.objs.size env.locals; omega
    · intro i v oI oC m₂ ys nw g tk E' htk' hv hj hC hxm F' N' off'
      exact turn i v _ oI _ oC _ m₂ ys nw g tk E' htk' hv hj hC hxm F' N' off' ⟨nIC, nID, nCD⟩
    · intro ys nw g tk m' hj F' hn' N' off'
      show wpAny _ A (assign (.Name y py) env (.ref H1.objs.size)) _ _ _
      refine wpAny_assign_Name (wpAny_storeName_local hy F'.ns (fun h₂ hn₂ hs₂ => ?_) hp)
      have hL₀ : h₀.get? env.locals = none := noneAt F'.above
      have F₂ : Fr h₀ env.locals h₂ (fun z => if z = y then some (.ref H1.objs.size) else m z) := ⟨hn₂, fun b o e => hs₂.extBut b o (fun q => by rw [q, hL₀] at e; cases e) (F'.keep b o e), F'.above⟩
      have nCL : @Ne Nat H2.objs.size env.locals := by omega
      refine ⟨m', hn'.sameBut hs₂ nCL, fun h'' hs'' => fin ys nw H1.objs.size h'' _ hj (F₂.change hs'' nCL (new0 _ (by omega))) (fun q hq => ?_)⟩
      refine ⟨hs''.extBut _ _ ?_ (hs₂.extBut _ _ (N' q hq).2.1 (N' q hq).1), (N' q hq).2⟩
      rcases List.mem_cons.mp hq with rfl | hq
      · exact Ne.symm nCD
      · exact (off'.mem q hq).2.1
  refine codeAny_compStart_list loop ?_
  exact wpAny_pyIter_listiter ⟨_, eI, rfl, rfl⟩ loop
end
end Mine
/- part L3b -/
namespace Mine
theorem pick_but (vs : List Value) (v : Value) : slicePick (vs ++ [v]).toArray none (some (-1)) none = vs.toArray := by
  rw [kms_pick_eq]
  congr 1
  unfold kms_pick kms_lo kms_hi
  dsimp only
  simp
theorem newsAddL {h₀ h h' : Heap} {L : Addr} {m : Str → Option Value} {all lo : List (Addr × Obj)} (F : Fr h₀ L h m) (N : News h₀ L h all) (g : Grows h h') (hlo : ∀ p ∈ lo, h'.get? p.1 = some p.2 ∧ h.get? p.1 = none ∧ ∀ v, p.2.data ≠ .cell v) : News h₀ L h' (all ++ lo) := by
  intro p hp
  rcases List.mem_append.mp hp with hp | hp
  · exact ⟨g _ _ (N p hp).1, (N p hp).2⟩
  · obtain ⟨h1, h2, _⟩ := hlo p hp
    refine ⟨h1, fun e => ?_, ?_⟩
    · obtain ⟨oL, _, _, hL, _⟩ := F.ns
      rw [← e, h2] at hL; cases hL
    · cases q : h₀.get? p.1 with
      | none => rfl
      | some o' => have := F.keep _ _ q; rw [h2] at this; cases this
theorem rowAt {vs : List Value} {ys : List Str} (h : StrsAre vs ys) : ∀ {i : Nat} {v : Value}, vs[i]? = some v → ∃ y t, ys[i]? = some y ∧ v = .str y t := by
  induction h with
  | nil => intro i v e; cases e
  | cons y t h ih =>
    intro i v e
    cases i with
    | zero => exact ⟨y, t, rfl, (Option.some.inj e).symm⟩
    | succ i => exact ih e
theorem lead_text (j d : Nat) : ((⟨(List.replicate j 9).toArray⟩ : Str) ++ ⟨(List.replicate d 32).toArray⟩ ++ Str.ofString "x").cps.toList = List.replicate j 9 ++ (List.replicate d 32 ++ [120]) := by
  rw [show Str.ofString "x" = ⟨#[120]⟩ by decide +kernel]
  simp only [Str.cps_append, Array.toList_append, List.append_assoc]
theorem blanks : ∀ d : Nat, d < 8 → Txt.replace (rowS d) (Str.ofString ".") (Str.ofString " ") = ⟨(List.replicate d 32).toArray⟩ := by decide +kernel
local macro_rules | `(tactic| k_all) => `(tactic| assumption)
local macro_rules | `(tactic| walk_at "my:steps") => `(tactic| repeat' (first | (k_unfold; (try dsimp only)) | walk1 | (dsimp only; walk1)))
local macro_rules | `(tactic| walk_at "CompSrc") => `(tactic| refine hold ?_)
local macro_rules | `(tactic| walk_at "CG") => `(tactic| refine hold ?_)
local macro_rules | `(tactic| walk_at "call ref") => `(tactic| refine hold ?_)
local macro_rules | `(tactic| walk_at "subscriptTail") => `(tactic| refine hold ?_)
local macro_rules | `(tactic| walk_at "subscriptTail Name Slice ref ref") => `(tactic| refine hold ?_)
local macro_rules | `(tactic| walk_at "subscriptTail Call Slice ref ref") => `(tactic| refine hold ?_)
local macro_rules | `(tactic| walk_at "call builtin:str.split") => `(tactic| refine hold ?_)
local macro_rules | `(tactic| walk_at "call builtin:str.replace") => `(tactic| refine hold ?_)
local macro_rules | `(tactic| walk_at "binaryOp Add str str") => `(tactic| refine hold ?_)
set_option maxRecDepth 100000 in
set_option maxHeartbeats 8000000 in
theorem law_3b {w : World} {dp un : Nat} {fr : Option (List Env)} {gd : Option (List Code)} {s : Shared} {p : Program} {loose : List Str} {mean : ExcName → Option Value} {mg mb : Str → Option Value} {Q : Flow → Shared → Prop}
    {B : Heap} {L fa : Addr} {cd : Value} {m : Str → Option Value} {nl : List (Addr × Obj)} {oF oT oLe oLo oH : Obj} {vT vLe vLo vH : Option Value} {Dd Dt : Addr} {ds : List Nat} {t tc tF : Tok} {c : Int} {j : Nat}
    (X : (hd.heap_39 w.params).In B) (T : Top p loose mean mg mb B) (hroom : dp + 60 < recursionLimit) (hu : un + 400 < cLine)
    (F : Fr B L s.heap m) (N : News B L s.heap (cellsL L oF oT oLe oLo oH nl)) (hm : Has m [(Str.ofString "drawn", .ref Dd), (Str.ofString "count", .int c tc), (Str.ofString "page", .str (linesS [13, 10] ds) t), (Str.ofString "train", .ref Dt)])
    (hnc : NoCell nl) (hds : ∀ d ∈ ds, 1 ≤ d ∧ d ≤ 6) (hds1 : ds ≠ []) (hds2 : ds.length ≤ 6) (hj : j ≤ 2)
    (dF : oF.data = .cell (some (.str ⟨(List.replicate j 9).toArray⟩ tF))) (dT : oT.data = .cell vT) (dLe : oLe.data = .cell vLe) (dLo : oLo.data = .cell vLo) (dH : oH.data = .cell vH)
    (rest : ∀ h' tk' m' nl' lvs kl Dl, Fr B L h' m' → Has m' [(Str.ofString "drawn", .ref Dd), (Str.ofString "count", .int c tc), (Str.ofString "train", .ref Dt), (Str.ofString "leads", .ref Dl)] →
      News B L h' (cellsL L oF oT oLe oLo oH nl') → NoCell nl' → (∀ q ∈ nl, q ∈ nl') → (Dl, listOf lvs.toArray kl) ∈ nl' → LeadsIn nl' j lvs ds → 
      wpAny (model Challenge.rw_rw0101_01.row.prog w) (Am dp un fr gd) (execs (lawB.drop 11) (lawE L fa cd)) Q (fun _ _ => False) { s with heap := h', toks := tk' }) :
    wpAny (model Challenge.rw_rw0101_01.row.prog w) (Am dp un fr gd) (execs (lawB.drop 10) (lawE L fa cd)) Q (fun _ _ => False) s := by
  dsimp only [lawB, lawE, lawD, pick, List.drop_succ_cons, List.drop_zero] at rest ⊢
  w_top off; revert X; k_fill; intro X
  have hlen : (linesS [13, 10] ds).cps.size ≤ 60 := by
    have h1 := sum_le_mul ds 6 fun d hd => (hds d hd).2
    rw [lines_len]
    have : ds.length * 6 ≤ 6 * 6 := Nat.mul_le_mul_right _ hds2
    have : ds.length * [13, 10].length ≤ 6 * 2 := Nat.mul_le_mul_right _ hds2
    omega
  replace F := frView F hm
  refine wpAny_execs_cons ?_
  refine comp_tok (h₀ := B) (m := kstB m [(Str.ofString "drawn", .ref Dd), (Str.ofString "count", .int c tc), (Str.ofString "page", .str (linesS [13, 10] ds) t), (Str.ofString "train", .ref Dt)]) rfl (by rfl) (by rfl) (by decide) (by rfl) (by decide) (by rfl) (by rfl) (by rfl) (by rfl) ?_
  walk_at "my:steps"
  refine ⟨?_⟩
  rw [crlf_eq]
  refine KSpl.split1 F N (by decide) ?_ (by show (linesS [13, 10] ds).cps.size + 2 ≤ sizeLine; rw [sizeLine_eq]; omega)
  intro R l h3 tk3 el sa F3 N3 l3
  rw [split_lines hds1] at el
  rw [el] at sa
  obtain ⟨lm, te, e2, el3⟩ := str_mid el
  subst e2
  rw [strValues_app] at N3
  walk_at "my:steps"
  refine ⟨?_⟩
  have hrl : (strValues lm).length = ds.length := by
    rw [strValues, List.length_map]
    have := congrArg List.length el3
    simpa using this
  change News B L h3 ((R, listOf (strValues lm ++ [Value.str Str.empty te]).toArray 0) :: _) at N3
  refine sliceAny (lo := none) (hi := some (-1)) F3 N3 (News.isList N3 (.head _)) .none (.int _ _) ?_ (by with_unfolding_all rfl) (by rw [List.size_toArray, List.length_append, hrl, sizeLine_eq]; simp; omega)
  intro D2 h4 F4 N4 l4
  rw [pick_but] at N4
  have sv : StrsAre (strValues lm) (ds.map rowS) := by
    have := strsAre_of_values lm
    rw [el3] at this
    exact this
  replace N4 := newsSub (news' := (D2, listOf (strValues lm).toArray 0) :: cellsL L oF oT oLe oLo oH nl) N4 (List.forall_mem_cons.mpr ⟨.head _, fun q hq => .tail _ (.tail _ hq)⟩)
  generalize strValues lm = lvs at N4 sv hrl
  clear F3 N3 l3 F N el el3 sa l4
  refine ⟨D2, lvs.toArray, 0, _, fun i ys nw => ∃ nl', nw = (D2, listOf lvs.toArray 0) :: cellsL L oF oT oLe oLo oH nl' ∧ NoCell nl' ∧ (∀ q ∈ nl, q ∈ nl') ∧ LeadsIn nl' j ys (ds.take i), rfl, F4, N4, by rw [List.size_toArray, hrl, sizeLine_eq]; omega, ?_, ⟨nl, rfl, hnc, fun _ h => h, by simp; exact .nil⟩, ?_, ?_, ?_⟩
  · first | exact Nat.le_add_left 1 _ | (dsimp only; omega)
  · rintro i ys nw ⟨nl', rfl, _⟩
    exact .head _
  · rintro i v I oI C oC D m₂ ys nw h tk E' htk hv ⟨nl', rfl, hnc', hsub, hL⟩ hC hx F5 N5 off ne
    obtain ⟨y, tv, hy, rfl⟩ := rowAt sv (by simpa using hv)
    rw [List.getElem?_map] at hy
    obtain ⟨d, hd, rfl⟩ : ∃ d, ds[i]? = some d ∧ y = rowS d := by
      cases e : ds[i]? with
      | none => rw [e] at hy; cases hy
      | some d => rw [e] at hy; exact ⟨d, rfl, (Option.some.inj hy).symm⟩
    have hdb := hds d (List.mem_of_getElem? hd)
    have hrow : (rowS d).length ≤ 6 := by simp [rowS, Str.length]; omega
    have hoff := off
    dsimp only [cellsL] at N5 off
    walk_at "my:steps"
    refine ⟨?_⟩
    refine SC.replaceW (x := rowS d) ?hu ?hv ?huv (by decide +kernel) (by omega) (by decide +kernel) ?hq
    case hu => exact Nat.ne_of_gt htk
    case hv => exact Nat.succ_ne_zero _
    case huv => exact Nat.ne_of_lt (Nat.lt_succ_self _)
    intro t1 k1
    rw [blanks d (by omega)]
    walk_at "my:steps"
    refine ⟨?_⟩
    refine PyProof.Rows.add_str (fun t2 k2 => ?_) (by simp [Str.length, sizeLine_eq]; omega)
    walk_at "my:steps"
    refine ⟨?_⟩
    refine PyProof.Rows.add_str (fun t3 k3 => ?_) (by rw [show (Str.ofString "x").length = 1 by decide +kernel, Str.length_append, sizeLine_eq]; simp [Str.length]; omega)
    walk_at "my:steps"
    refine ⟨?_⟩
    refine c_ws (p := p) (loose := loose) (mean := mean) (mg := mg) (mb := mb) (X.keeps F5.keep) (T.keeps F5.keep) ?_ ?_ _ _ j d (lead_text j d) hj (by omega) fun b h' tk' g l => ?_
    · omega
    · omega
    refine ⟨?_⟩
    obtain ⟨lo, hlo, hlo2⟩ := l
    have N6 := newsAddL F5 N5 g hlo2
    have offlo : ∀ q ∈ lo, q.1 ≠ I ∧ q.1 ≠ C ∧ q.1 ≠ D := fun q hq => by
      have hq0 := (hlo2 q hq).2.1
      dsimp only at hq0
      refine ⟨fun e => ?_, fun e => ?_, fun e => ?_⟩
      · have := (N5 _ (.head _)).1; rw [← e, hq0] at this; cases this
      · have := (N5 _ (.tail _ (.head _))).1; rw [← e, hq0] at this; cases this
      · have := (N5 _ (.tail _ (.tail _ (.head _)))).1; rw [← e, hq0] at this; cases this
    refine ⟨h', _, (D2, listOf lvs.toArray 0) :: cellsL L oF oT oLe oLo oH (nl' ++ lo), rfl, F5.keeps g, N6, ?_, nl' ++ lo, rfl, ?_, ?_, ?_⟩
    · refine LCg.Off3.of fun q hq => ?_
      rcases List.mem_append.mp (show q ∈ ((D2, listOf lvs.toArray 0) :: cellsL L oF oT oLe oLo oH nl') ++ lo from hq) with hq | hq
      · exact hoff.mem q hq
      · exact offlo q hq
    · intro q hq
      rcases List.mem_append.mp hq with hq | hq
      · exact hnc' q hq
      · exact (hlo2 q hq).2.2
    · exact fun q hq => List.mem_append_left _ (hsub q hq)
    · rw [List.take_add_one, hd, Option.toList_some]
      exact (hL.mono fun q hq => List.mem_append_left _ hq).snoc (hlo.mono fun q hq => List.mem_append_right _ hq)
  · rintro ys nw D g tk ⟨nl', rfl, hnc', hsub, hL⟩ F6 N6
    rw [List.size_toArray, hrl, List.take_length] at hL
    refine rest g _ _ ((D, LCg.lst ys) :: nl') ys _ D F6 ⟨rfl, rfl, rfl, rfl, trivial⟩ (newsMove (newsDrop2 N6)) (hnc'.cons fun v e => by cases e) (fun q hq => .tail _ (hsub q hq)) (.head _) (hL.mono fun q hq => .tail _ hq)
end Mine
/- part L4 -/
namespace Mine
open PySem.SeqAt
section
variable {prog : Program} {w : World} {A : Around} {h₀ : Heap} {L : Addr} {m : Str → Option Value} {env : Env} {elt : PySem.Expr} {x : Str} {scope : Scope} {cl : List (Str × Addr)} {s : Shared} {S : List (Addr × Obj) → Prop} {P : Nat → Value → Prop} {Fin : List Value → List (Addr × Obj) → Prop} {news : List (Addr × Obj)}
theorem compRest_grow {n : Nat} (J : Nat → List Value → List (Addr × Obj) → Prop) (hS : ∀ i ys nw, J i ys nw → S nw) (h0 : J 0 [] news)
    (turn : ∀ i v I oI C oC D m₂ ys nw h tk (E' : Value → Shared → Prop), i < n → P i v → J i ys nw → LCg.NsObj oC m₂ → m₂ x = some v → Fr h₀ L h m → News h₀ L h ((I, oI) :: (C, oC) :: (D, LCg.lst ys) :: nw) → LCg.Off3 I C D nw → ((@Ne Nat I C) ∧ (@Ne Nat I D) ∧ (@Ne Nat C D)) →
      wpAny (model prog w) A (eval elt (compEnvC scope cl C env)) (CG h₀ L m { s with heap := h, toks := tk } I oI C oC D (LCg.lst ys) (fun y nw' => J (i + 1) (ys ++ [y]) nw')) E' { s with heap := h, toks := tk })
    (fin : ∀ ys nw, J n ys nw → Fin ys nw) : LCg.CompRest prog w A h₀ L m env elt x scope cl s S P Fin n 0 [] news := by
  have key : ∀ (j i : Nat) (ys : List Value) (nw : List (Addr × Obj)), i + j = n → J i ys nw → LCg.CompRest prog w A h₀ L m env elt x scope cl s S P Fin j i ys nw := by
    intro j
    induction j with
    | zero =>
      intro i ys nw hi hj
      have e : i = n := by omega
      subst e
      exact LCg.CompRest.zero (fin ys nw hj)
    | succ j ih =>
      intro i ys nw hi hj
      refine LCg.CompRest.succ ?_
      intro v I oI C oC D m₂ h tk E' hv hC hx F N off ne
      refine wpAny_mono (turn i v I oI C oC D m₂ ys nw h tk E' (by omega) hv hj hC hx F N off ne) (fun y s₂ hq => ?_) fun _ _ e => e
      obtain ⟨h', tk', nw', e, F', N', off', j'⟩ := hq.out
      exact ⟨h', tk', nw', e, F', N', off', hS _ _ _ j', ih (i + 1) _ nw' (by omega) j'⟩
  exact key n 0 [] news (by omega) h0
end
theorem cells_mono {L : Addr} {oF oT oLe oLo oH : Obj} {nl nl' : List (Addr × Obj)} (g : ∀ q ∈ nl, q ∈ nl') : ∀ q ∈ cellsL L oF oT oLe oLo oH nl, q ∈ cellsL L oF oT oLe oLo oH nl' := by
  intro q hq
  simp only [cellsL, List.mem_cons] at hq ⊢
  rcases hq with h | h | h | h | h | h
  · exact .inl h
  · exact .inr (.inl h)
  · exact .inr (.inr (.inl h))
  · exact .inr (.inr (.inr (.inl h)))
  · exact .inr (.inr (.inr (.inr (.inl h))))
  · exact .inr (.inr (.inr (.inr (.inr (g q h)))))
/-- a pair of a tuple of tabs and a number of blanks -/
noncomputable def NormIn (lo : List (Addr × Obj)) (a : Addr) (j d : Nat) : Prop := ∃ (c : Addr) (cv : Array Value) (t : Tok), (a, ({ cls := .type "tuple", data := .seq #[.ref c, .int (d : Int) t] } : Obj)) ∈ lo ∧ (c, ({ cls := .type "tuple", data := .seq cv } : Obj)) ∈ lo ∧ IntsAre cv.toList (if j = 0 then [] else [(j : Int)])
inductive NormsIn (lo : List (Addr × Obj)) (j : Nat) : List Value → List Nat → Prop
  | nil : NormsIn lo j [] []
  | cons {a : Addr} {d : Nat} {vs : List Value} {ds : List Nat} : NormIn lo a j d → NormsIn lo j vs ds → NormsIn lo j (.ref a :: vs) (d :: ds)
theorem NormIn.mono {lo lo' : List (Addr × Obj)} {a : Addr} {j d : Nat} (g : ∀ p ∈ lo, p ∈ lo') (x : NormIn lo a j d) : NormIn lo' a j d := let ⟨c, cv, t, h1, h2, h3⟩ := x; ⟨c, cv, t, g _ h1, g _ h2, h3⟩
theorem NormsIn.mono {lo lo' : List (Addr × Obj)} {j : Nat} (g : ∀ p ∈ lo, p ∈ lo') : ∀ {vs : List Value} {ds : List Nat}, NormsIn lo j vs ds → NormsIn lo' j vs ds
  | _, _, .nil => .nil
  | _, _, .cons l r => .cons (l.mono g) (r.mono g)
theorem NormsIn.snoc {lo : List (Addr × Obj)} {j : Nat} {a : Addr} {d : Nat} (h : NormIn lo a j d) : ∀ {vs : List Value} {ds : List Nat}, NormsIn lo j vs ds → NormsIn lo j (vs ++ [.ref a]) (ds ++ [d])
  | _, _, .nil => .cons h .nil
  | _, _, .cons l r => .cons l (r.snoc h)
theorem NormsIn.next {lo lo' : List (Addr × Obj)} {j i d : Nat} {a : Addr} {ys : List Value} {ds : List Nat} (g : ∀ p ∈ lo, p ∈ lo') (h : NormIn lo' a j d) (hd : ds[i]? = some d) (hj : NormsIn lo j ys (ds.take i)) : NormsIn lo' j (ys ++ [.ref a]) (ds.take (i + 1)) := by
  rw [List.take_add_one, hd, Option.toList_some]
  exact (hj.mono g).snoc h
theorem mem_end {α : Type} (a b : List α) (x : α) : x ∈ a ++ (b ++ [x]) := List.mem_append_right _ (List.mem_append_right _ (List.mem_singleton_self _))
noncomputable def normD (j d : Nat) : PyData := .tuple [.tuple ((if j = 0 then [] else [(j : Int)]).map .int), .int (d : Int)]
noncomputable def normsD (j : Nat) (ds : List Nat) : PyData := .list (ds.map (normD j))
theorem readsInts {h : Heap} : ∀ {vs : List Value} {ns : List Int}, IntsAre vs ns → ReadsAll h vs (ns.map .int) []
  | _, _, .nil => .nil
  | _, _, .cons n t r => ReadsAll.cons (as := []) (.int n t) (readsInts r)
theorem NormIn.reads {lo : List (Addr × Obj)} {h : Heap} {a : Addr} {j d : Nat} (g : ∀ p ∈ lo, h.get? p.1 = some p.2) (x : NormIn lo a j d) : Reads h (.ref a) (normD j d) [] := by
  obtain ⟨c, cv, t, h1, h2, h3⟩ := x
  refine .tuple (g _ h1) rfl rfl ?_
  exact ReadsAll.cons (as := []) (.tuple (g _ h2) rfl rfl (readsInts h3)) (ReadsAll.cons (as := []) (.int _ _) .nil)
theorem NormsIn.reads {lo : List (Addr × Obj)} {h : Heap} {j : Nat} (g : ∀ p ∈ lo, h.get? p.1 = some p.2) : ∀ {vs : List Value} {ds : List Nat}, NormsIn lo j vs ds → ReadsAll h vs (ds.map (normD j)) []
  | _, _, .nil => .nil
  | _, _, .cons l r => ReadsAll.cons (as := []) (l.reads g) (r.reads g)
theorem normD_lay (j d : Nat) : (normD j d).canLay0 = true := by
  unfold normD
  by_cases h : j = 0
  · rw [if_pos h]; rfl
  · rw [if_neg h]; rfl
theorem normD_depth (j d : Nat) : (normD j d).depth ≤ 2 := by
  unfold normD
  by_cases h : j = 0
  · rw [if_pos h]; exact Nat.le_of_eq (by rfl)
  · rw [if_neg h]; exact Nat.le_of_eq (by rfl)
theorem norms_shaped (j : Nat) (ds : List Nat) : shaped (normsD j ds) = true := by
  have h1 : ∀ ds : List Nat, PyData.canLayAll0 (ds.map (normD j)) = true := by
    intro ds
    induction ds with
    | nil => rfl
    | cons d r ih => show (_ && _) = true; rw [normD_lay, ih]; rfl
  have h2 : ∀ ds : List Nat, PyData.depthAll (ds.map (normD j)) ≤ 2 := by
    intro ds
    induction ds with
    | nil => exact Nat.zero_le _
    | cons d r ih => show max _ _ ≤ 2; exact Nat.max_le.mpr ⟨normD_depth j d, ih⟩
  unfold shaped
  refine Bool.and_eq_true_iff.mpr ⟨h1 ds, decide_eq_true ?_⟩
  show PyData.depthAll (ds.map (normD j)) + 1 ≤ 64
  have := h2 ds
  omega
theorem leadAtIn {lo : List (Addr × Obj)} {j : Nat} {v : Value} : ∀ {vs : List Value} {ds : List Nat}, LeadsIn lo j vs ds → ∀ {i : Nat}, vs[i]? = some v → ∃ a d, ds[i]? = some d ∧ v = .ref a ∧ LeadIn lo a j d
  | _, _, .cons (a := a) (d := d) l r, 0, e => ⟨a, d, rfl, (Option.some.inj e).symm, l⟩
  | _, _, .cons _ r, _ + 1, e => leadAtIn r e
theorem leadsLen {lo : List (Addr × Obj)} {j : Nat} : ∀ {vs : List Value} {ds : List Nat}, LeadsIn lo j vs ds → vs.length = ds.length
  | _, _, .nil => rfl
  | _, _, .cons _ r => congrArg (· + 1) (leadsLen r)
local macro_rules | `(tactic| k_all) => `(tactic| assumption)
local macro_rules | `(tactic| walk_at "my:steps") => `(tactic| repeat' (first | (k_unfold; (try dsimp only)) | walk1 | (dsimp only; walk1)))
local macro_rules | `(tactic| walk_at "execs cons Assign cons") => `(tactic| refine hold ?_)
local macro_rules | `(tactic| walk_at "CompSrc") => `(tactic| refine hold ?_)
local macro_rules | `(tactic| walk_at "CG") => `(tactic| refine hold ?_)
local macro_rules | `(tactic| walk_at "CT") => `(tactic| refine hold ?_)
local macro_rules | `(tactic| walk_at "getAttr ref") => `(tactic| refine hold ?_)
local macro_rules | `(tactic| walk_at "eval ListComp") => `(tactic| refine hold ?_)
local macro_rules | `(tactic| walk_at "compareOp NotEq ref ref") => `(tactic| refine hold ?_)
set_option maxRecDepth 100000 in
set_option maxHeartbeats 8000000 in
theorem law_4 {w : World} {dp un : Nat} {fr : Option (List Env)} {gd : Option (List Code)} {s : Shared} {p : Program} {loose : List Str} {mean : ExcName → Option Value} {mg mb : Str → Option Value} {Q : Flow → Shared → Prop}
    {B : Heap} {L fa : Addr} {cd : Value} {m : Str → Option Value} {nl : List (Addr × Obj)} {oF oT oLe oLo oH : Obj} {Dd Dt Dl aT : Addr} {ds : List Nat} {tc : Tok} {c : Int} {j : Nat} {tv : Array Value} {tvs lvs : List Value} {kt kl : Nat}
    (X : (hd.heap_39 w.params).In B) (T : Top p loose mean mg mb B) (hroom : dp + 60 < recursionLimit) (hu : un + 400 < cLine)
    (F : Fr B L s.heap m) (N : News B L s.heap (cellsL L oF oT oLe oLo oH nl)) (hm : Has m [(Str.ofString "drawn", .ref Dd), (Str.ofString "count", .int c tc), (Str.ofString "train", .ref Dt), (Str.ofString "leads", .ref Dl)])
    (hds2 : ds.length ≤ 6) (dT : oT.data = .cell (some (.ref aT))) (hT : (aT, ({ cls := .type "tuple", data := .seq tv } : Obj)) ∈ nl) (hTi : IntsAre tv.toList (if j = 0 then [] else [(j : Int)]))
    (hDl : (Dl, listOf lvs.toArray kl) ∈ nl) (hL : LeadsIn nl j lvs ds) (hDt : (Dt, listOf tvs.toArray kt) ∈ nl) (hI : IntsAre tvs (toInts ds))
    (rest : ∀ h' tk' m', Fr B L h' m' → Has m' [(Str.ofString "drawn", .ref Dd), (Str.ofString "count", .int c tc), (Str.ofString "train", .ref Dt), (Str.ofString "leads", .ref Dl)] → News B L h' (cellsL L oF oT oLe oLo oH nl) → 
      wpAny (model Challenge.rw_rw0101_01.row.prog w) (Am dp un fr gd) (execs (lawB.drop 12) (lawE L fa cd)) Q (fun _ _ => False) { s with heap := h', toks := tk' }) :
    wpAny (model Challenge.rw_rw0101_01.row.prog w) (Am dp un fr gd) (execs (lawB.drop 11) (lawE L fa cd)) Q (fun _ _ => False) s := by
  dsimp only [lawB, lawE, lawD, pick, List.drop_succ_cons, List.drop_zero] at rest ⊢
  w_top off; revert X; k_fill; intro X
  replace F := frView F hm
  refine wpAny_execs_cons ?_
  walk_at "my:steps"
  refine ⟨?_⟩
  refine LCg.ListComp_U (F₀ := F) (by rfl) (by decide) (by rfl) (by decide) (by rfl) ?_
  walk_at "my:steps"
  refine ⟨?_⟩
  have hll := leadsLen hL
  refine LCg.CompSrc.ledger (by rfl) F N (.tail _ (.tail _ (.tail _ (.tail _ (.tail _ hDl))))) (by rw [List.size_toArray, hll, sizeLine_eq]; omega) ?_
  intro g
  refine compRest_inv (fun i ys => NormsIn nl j ys (ds.take i)) (.inr ⟨_, .tail _ (.tail _ (.tail _ (.tail _ (.tail _ hDl)))), rfl, _, rfl⟩) (by simp; exact .nil) ?_ ?_
  · intro i v I oI C oC D m₂ ys h tk E' hi' hv hj hC hx F' N' off ne
    obtain ⟨b, d, hd, rfl, lb⟩ := leadAtIn hL (by simpa using hv)
    obtain ⟨dx, es, n, P, C', cv, t1, t2, t3, a1, a2, a3, a4, a5, a6, a7, a8, a9, a10⟩ := lb
    have up : ∀ q ∈ nl, h.get? q.1 = some q.2 := fun q hq => (N' q (.tail _ (.tail _ (.tail _ (.tail _ (.tail _ (.tail _ (.tail _ (.tail _ hq))))))))).1
    walk_at "my:steps"
    refine ⟨?_⟩
    refine get_own F' X ⟨up _ a1, rfl, rfl, up _ a2⟩ (by k_is) (by k_is) (by k_is) (by k_is) a5 rfl ?_
    walk_at "my:steps"
    refine ⟨?_⟩
    refine CT.intro F' N' ?_
    rw [List.take_add_one, hd, Option.toList_some]
    exact hj.snoc ⟨C', cv, t3, a8, a9, a10⟩
  · intro ys1 hys1
    rw [List.size_toArray, hll, List.take_length] at hys1
    intro D1 h1 tk1 F1 N1 o1
    clear F N
    dsimp only
    walk_at "my:steps"
    refine ⟨?_⟩
    refine LCg.ListComp_U (F₀ := F1) (by rfl) (by decide) (by rfl) (by decide) (by rfl) ?_
    walk_at "my:steps"
    refine ⟨?_⟩
    refine LCg.CompSrc.ledger (by rfl) F1 N1 (.tail _ (.tail _ (.tail _ (.tail _ (.tail _ (.tail _ hDt)))))) (by rw [List.size_toArray, hI.length, toInts, List.length_map, sizeLine_eq]; omega) ?_
    intro g
    refine compRest_grow (fun i ys nw => ∃ lo, nw = (D1, LCg.lst ys1) :: cellsL L oF oT oLe oLo oH (nl ++ lo) ∧ NormsIn (nl ++ lo) j ys (ds.take i)) ?_ ⟨[], by rw [List.append_nil], by simp; exact .nil⟩ ?_ ?_
    · rintro i ys nw ⟨lo, rfl, _⟩
      exact .inr ⟨_, .tail _ (.tail _ (.tail _ (.tail _ (.tail _ (.tail _ (List.mem_append_left _ hDt)))))), rfl, _, rfl⟩
    · rintro i v I oI C oC D m₂ ys nw h tk E' hi' hv ⟨lo, rfl, hj⟩ hC hx F' N' off ne
      obtain ⟨n, tn, hn', rfl⟩ := intsAt hI (by simpa using hv)
      obtain ⟨d, hd, rfl⟩ := toInts_at hn'
      have hoff := off
      dsimp only [cellsL] at N' off
      walk_at "my:steps"
      refine ⟨?_⟩
      rename Fr _ _ _ _ => F5
      rename News _ _ _ _ => N5
      rename (_ < _ ∧ _) => l5
      refine ⟨_, _, (D1, LCg.lst ys1) :: cellsL L oF oT oLe oLo oH (nl ++ (lo ++ [(_, _)])), rfl, F5, newsSub N5 ?s1, ?s2, lo ++ [(_, _)], rfl, NormsIn.next ?s3 ⟨aT, tv, tn, mem_end nl lo _, List.mem_append_left _ hT, hTi⟩ hd hj⟩
      case s1 =>
        intro q hq
        rw [← List.append_assoc] at hq
        rcases List.mem_append.mp (show q ∈ ((I, oI) :: (C, oC) :: (D, LCg.lst ys) :: (D1, LCg.lst ys1) :: cellsL L oF oT oLe oLo oH (nl ++ lo)) ++ [_] from hq) with hq | hq
        · exact .tail _ hq
        · rw [List.mem_singleton.mp hq]; exact .head _
      case s2 =>
        refine LCg.Off3.of fun q hq => ?_
        rw [← List.append_assoc] at hq
        rcases List.mem_append.mp (show q ∈ ((D1, LCg.lst ys1) :: cellsL L oF oT oLe oLo oH (nl ++ lo)) ++ [_] from hq) with hq | hq
        · exact hoff.mem q hq
        · rw [List.mem_singleton.mp hq]
          exact ⟨Ne.symm (Nat.ne_of_lt l5.1), Ne.symm (Nat.ne_of_lt l5.2.1), Ne.symm (Nat.ne_of_lt l5.2.2.1)⟩
      case s3 =>
        intro q hq
        rw [← List.append_assoc]
        exact List.mem_append_left _ hq
    · rintro ys nw ⟨lo, rfl, hj⟩
      rw [List.size_toArray, hI.length, toInts, List.length_map, List.take_length] at hj
      intro D2 h2 tk2 F2 N2 o2
      clear F1 N1
      dsimp only
      walk_at "my:steps"
      refine ⟨?_⟩
      have r1 : Reads h2 (.ref D1) (normsD j ds) (D1 :: []) := .list (N2 _ (.tail _ (.head _))).1 rfl rfl (hys1.reads fun q hq => (N2 q (.tail _ (.tail _ (.tail _ (.tail _ (.tail _ (.tail _ (.tail _ (List.mem_append_left _ hq))))))))).1)
      have r2 : Reads h2 (.ref D2) (normsD j ds) (D2 :: []) := .list (N2 _ (.head _)).1 rfl rfl (hj.reads fun q hq => (N2 q (.tail _ (.tail _ (.tail _ (.tail _ (.tail _ (.tail _ (.tail _ hq)))))))).1)
      refine ne_dataH r1 r2 (norms_shaped j ds) (norms_shaped j ds) (by show un + 64 < cLine; omega) ?_
      rw [eqv_refl _ (canLay_of_shaped (norms_shaped j ds))]
      walk_at "my:steps"
      refine ⟨?_⟩


      exact rest _ _ _ F2 ⟨rfl, rfl, rfl, rfl, trivial⟩ (newsSub N2 fun q hq => .tail _ (.tail _ (cells_mono (fun q hq => List.mem_append_left _ hq) q hq)))
end Mine
/- part L5 -/
namespace Mine
/-- the seats kept in order: of the car with the most dots, then of the k next ones -/
noncomputable def seatsN (T : List Int) (c : Int) : Nat → List Int
  | 0 => [((T.idxOf c : Nat) : Int)]
  | k + 1 => insAt (seatsN T c k) (bis (seatsN T c k) ((T.idxOf (c - 1 - (k : Int)) : Nat) : Int)) ((T.idxOf (c - 1 - (k : Int)) : Nat) : Int)
theorem seatsN_len (T : List Int) (c : Int) : ∀ k, (seatsN T c k).length = k + 1
  | 0 => rfl
  | k + 1 => by
    have := seatsN_len T c k
    unfold seatsN insAt
    rw [List.length_append, List.length_take, List.length_cons, List.length_drop]; omega
theorem grows_hide {B h : Heap} {l : List Addr} (g : Grows B h) (hn : ∀ a ∈ l, B.get? a = none) : Grows B (hideAll h l) := fun b o e => hideAll_get l (g b o e) fun q => by rw [hn b q] at e; cases e
theorem fr_but1 {B h h' : Heap} {L a : Addr} {m : Str → Option Value} (F : Fr B L h m) (k : ∀ b o, b ≠ a → h.get? b = some o → h'.get? b = some o) (hL : a ≠ L) (ha : B.get? a = none) : Fr B L h' m :=
  ⟨F.ns.at' fun o e => k L o (Ne.symm hL) e, fun b o e => k b o (fun q => by rw [q, ha] at e; cases e) (F.keep b o e), F.above⟩
theorem allLt_ne {d : Addr} : ∀ {l : List (Addr × Obj)}, AllLt d l → ∀ q ∈ l, q.1 ≠ d
  | [], _, _, h => nomatch h
  | p :: r, a, q, h => by
    rcases List.mem_cons.mp h with rfl | h
    · exact Nat.ne_of_lt a.1
    · exact allLt_ne a.2 q h
local macro_rules | `(tactic| k_ne) => `(tactic| first | (refine neN ?_; (try dsimp only); assumption) | (refine neN ?_; (try dsimp only); refine Ne.symm ?_; assumption))
local macro_rules | `(tactic| k_all) => `(tactic| assumption)
local macro_rules | `(tactic| walk_at "my:steps") => `(tactic| repeat' (first | (k_unfold; (try dsimp only)) | walk1 | (dsimp only; walk1)))
local macro_rules | `(tactic| walk_at "execs cons Assign cons") => `(tactic| ((with_reducible show wpAny _ _ (execs (Stmt.Assign _ (Expr.Call (Expr.Name _ _) _ _ _) _ :: _) _) _ _ _); refine hold ?_))
local macro_rules | `(tactic| walk_at "getMethod ref") => `(tactic| refine hold ?_)
local macro_rules | `(tactic| walk_at "call builtin:list.index") => `(tactic| refine hold ?_)
local macro_rules | `(tactic| walk_at "call ref") => `(tactic| refine hold ?_)
local macro_rules | `(tactic| walk_at "subscriptTail") => `(tactic| refine hold ?_)
local macro_rules | `(tactic| walk_at "subscriptTail Name Name ref int") => `(tactic| refine hold ?_)
local macro_rules | `(tactic| walk_at "pyIter ref") => `(tactic| refine hold ?_)
local macro_rules | `(tactic| walk_at "exec For Name Call cons nil") => `(tactic| refine hold ?_)
local macro_rules | `(tactic| walk_at "UnrEnd") => `(tactic| refine hold ?_)
set_option maxRecDepth 100000 in
set_option maxHeartbeats 8000000 in
theorem law_5 {w : World} {dp un : Nat} {fr : Option (List Env)} {gd : Option (List Code)} {s : Shared} {p : Program} {loose : List Str} {mean : ExcName → Option Value} {mg mb : Str → Option Value} {Q : Flow → Shared → Prop}
    {B : Heap} {L fa : Addr} {cd : Value} {m : Str → Option Value} {nl : List (Addr × Obj)} {oF oT oLe oLo oH : Obj} {Dd Dt Dl : Addr} {tc : Tok} {tvs dvs : List Value} {kt kd : Nat} {tl dl : List Int} {c : Int}
    (X : (hd.heap_39 w.params).In B) (T : Top p loose mean mg mb B) (hroom : dp + 60 < recursionLimit) (hu : un + 400 < cLine)
    (F : Fr B L s.heap m) (N : News B L s.heap (cellsL L oF oT oLe oLo oH nl)) (hm : Has m [(Str.ofString "drawn", .ref Dd), (Str.ofString "count", .int c tc), (Str.ofString "train", .ref Dt), (Str.ofString "leads", .ref Dl)])
    (hn : dl.length = 4 ∨ dl.length = 5) (hc : c = (dl.length : Int) + 1)
    (hDt : (Dt, listOf tvs.toArray kt) ∈ nl) (hI : IntsAre tvs tl) (hDd : (Dd, listOf dvs.toArray kd) ∈ nl) (hDi : IntsAre dvs dl) (htl : tl.length ≤ 6) (hall : ∀ v : Int, 1 ≤ v → v ≤ c → v ∈ tl)
    (hseat : ∀ k : Nat, k < dl.length → ((bis (seatsN tl c k) ((tl.idxOf (c - 1 - (k : Int)) : Nat) : Int) : Nat) : Int) = Int.fmod (dl.getD k 0) ((k : Int) + 2))
    (rest : ∀ h' tk' m', Fr B L h' m' → Has m' [(Str.ofString "count", .int c tc), (Str.ofString "train", .ref Dt), (Str.ofString "leads", .ref Dl)] → News B L h' (cellsL L oF oT oLe oLo oH nl) → 
      wpAny (model Challenge.rw_rw0101_01.row.prog w) (Am dp un fr gd) (execs (lawB.drop 14) (lawE L fa cd)) Q (fun _ _ => False) { s with heap := h', toks := tk' }) :
    wpAny (model Challenge.rw_rw0101_01.row.prog w) (Am dp un fr gd) (execs (lawB.drop 12) (lawE L fa cd)) Q (fun _ _ => False) s := by
  dsimp only [lawB, lawE, lawD, pick, List.drop_succ_cons, List.drop_zero] at rest ⊢
  w_top off; revert X; k_fill; intro X
  obtain ⟨hn4, hn5⟩ : 4 ≤ dl.length ∧ dl.length ≤ 5 := by omega
  clear hn
  have inn : ∀ {q : Addr × Obj}, q ∈ nl → q ∈ cellsL L oF oT oLe oLo oH nl := fun hq => .tail _ (.tail _ (.tail _ (.tail _ (.tail _ hq))))
  replace F := frView F hm
  refine wpAny_execs_cons ?_
  walk_at "my:steps"
  refine ⟨?_⟩
  refine listMeth (LstAt.news N (inn hDt)) PySem.F.slot_list_index PySem.F.type_list_index ?_
  walk_at "my:steps"
  refine ⟨?_⟩
  refine indexInts (LstAt.news N (inn hDt)) hI (by omega) (hall c (by omega) (Int.le_refl _)) ?_
  walk_at "my:steps"
  refine ⟨?_⟩
  rename Fr _ _ _ _ => F1
  refine For_turns F1 ?_
  walk_at "my:steps"
  refine ⟨?_⟩
  rename IsRange _ _ _ _ _ _ _ _ => R1
  rename Fr _ _ _ _ => F2
  rename News _ _ _ _ => N2
  rename (_ < _ ∧ _) => l2
  replace l2 := allLt_ne (show AllLt _ (cellsL L oF oT oLe oLo oH nl) from l2)
  obtain ⟨Ds, svs0, hF, N2, l2, hS0⟩ : ∃ (Ds : Addr) (svs0 : List Value), Fr B L _ (fun y => if y = Str.ofString "seats" then some (.ref Ds) else kstB m [(Str.ofString "drawn", .ref Dd), (Str.ofString "count", .int c tc), (Str.ofString "train", .ref Dt), (Str.ofString "leads", .ref Dl)] y) ∧ News B L _ ((Ds, listOf svs0.toArray 0) :: cellsL L oF oT oLe oLo oH nl) ∧ (∀ q ∈ cellsL L oF oT oLe oLo oH nl, q.1 ≠ Ds) ∧ IntsAre svs0 (seatsN tl c 0) := ⟨_, _, F2, N2, l2, .cons _ _ .nil⟩
  refine turns_range (n := dl.length) (fun i m nx => ∃ svs ks, Has m [(Str.ofString "drawn", .ref Dd), (Str.ofString "count", .int c tc), (Str.ofString "train", .ref Dt), (Str.ofString "leads", .ref Dl), (Str.ofString "seats", .ref Ds)] ∧ nx = (Ds, listOf svs.toArray ks) :: cellsL L oF oT oLe oLo oH nl ∧
      IntsAre svs (seatsN tl c i)) rfl R1 (small_one (by omega) (by omega) (by omega) (by omega)) (by rw [rangeSize_nat]; congr 2; omega) hF N2 ?hJ ?turn ?done
  case hJ => exact ⟨svs0, _, ⟨rfl, rfl, rfl, rfl, rfl, trivial⟩, rfl, hS0⟩
  case done =>
    rintro m nx h tk ⟨svs, ks, hm, rfl, hS⟩ F N
    dsimp only
    exact rest h _ m F ⟨hm.2.1, hm.2.2.1, hm.2.2.2.1, trivial⟩ (newsSub N fun q hq => .tail _ hq)
  case turn =>
    clear hF N2 R1
    rintro I i ti m nx it h tk hin ⟨svs, ks, hm, rfl, hS⟩ hit off F N
    replace F := frView F hm
    clear hm
    have oI : @Ne Nat Ds I := off _ (.head _)
    have off' : ∀ {o : Obj}, ∀ q ∈ (Ds, o) :: cellsL L oF oT oLe oLo oH nl, q.1 ≠ I := List.forall_mem_cons.mpr ⟨oI, fun q hq => off q (.tail _ hq)⟩
    have inn2 : ∀ {q : Addr × Obj}, q ∈ nl → q ∈ (I, it) :: (Ds, listOf svs.toArray ks) :: cellsL L oF oT oLe oLo oH nl := fun hq => .tail _ (.tail _ (inn hq))
    walk_at "my:steps"
    refine ⟨?_⟩
    (try clear F); (try clear N)
    rename Fr _ _ _ _ => F1
    rename News _ _ _ _ => N1
    refine listMeth (LstAt.news N1 (inn2 hDt)) PySem.F.slot_list_index PySem.F.type_list_index ?_
    walk_at "my:steps"
    refine ⟨?_⟩
    have ek : c - 1 - (0 + (i : Int)) = c - 1 - (i : Int) := by omega
    rw [ek]
    refine indexInts (LstAt.news N1 (inn2 hDt)) hI (by omega) (hall _ (by omega) (by omega)) ?_
    generalize hse : tl.idxOf (c - 1 - (i : Int)) = se
    have hq := hseat i hin
    rw [hse] at hq
    walk_at "my:steps"
    refine ⟨?_⟩
    (try clear F1); (try clear N1)
    rename Fr _ _ _ _ => F2
    rename News _ _ _ _ => N2
    refine c_bis (p := p) (loose := loose) (mean := mean) (mg := mg) (mb := mb) (X.keeps F2.keep) (T.keeps F2.keep) (by omega) (by omega) Ds svs (seatsN tl c i) (News.isList N2 (.tail _ (.head _))) hS (by rw [seatsN_len]; omega) (se : Int) _ fun t' h' tk' g => ?_
    have F3 := F2.keeps g
    have N3 := N2.grown g
    clear F2 N2 g
    walk_at "my:steps"
    refine ⟨?_⟩
    obtain ⟨td, hxd⟩ := hDi.get i (dl.getD i 0) (by rw [List.getD_eq_getElem?_getD, List.getElem?_eq_getElem hin]; rfl)
    refine itemL (vs := dvs) (k := 0 + (i : Int)) (v := .int (dl.getD i 0) td) (News.isList N3 (inn2 hDd)) (by omega) (by omega) (by rw [Int.zero_add, Int.toNat_natCast]; exact hxd) ?_
    have ek2 : (0 : Int) + (i : Int) + 2 = (i : Int) + 2 := by omega
    walk_at "my:steps"
    · exfalso
      rename (((bis _ _ : Nat) : Int) ≠ _) => hne
      rw [ek2] at hne
      exact hne hq
    · refine ⟨?_⟩

      rename Fr _ _ _ _ => F4
      rename News _ _ _ _ => N4
      have hD0 := (N4 _ (.tail _ (.head _))).2.2
      have hDL := (N4 _ (.tail _ (.head _))).2.1
      have gh := grows_hide (l := [Ds]) F4.keep (fun a ha => by rw [List.mem_singleton.mp ha]; exact hD0)
      refine c_ins (p := p) (loose := loose) (mean := mean) (mg := mg) (mb := mb) Ds (X.keeps F4.keep) (X.keeps gh) (T.keeps F4.keep) (T.keeps gh) (by omega) (by omega) svs ks (seatsN tl c i) (N4 _ (.tail _ (.head _))).1 hS (by rw [seatsN_len]; omega) (se : Int) _ fun vs' k' h5 tk5 hk hg hS' => ?_
      have F5 := fr_but1 F4 hk hDL hD0
      have N5 : News B L h5 ((I, it) :: (Ds, listOf vs'.toArray k') :: cellsL L oF oT oLe oLo oH nl) := by
        intro q hq
        rcases List.mem_cons.mp hq with rfl | hq
        · exact ⟨hk _ _ (Ne.symm oI) (N4 _ (.head _)).1, (N4 _ (.head _)).2⟩
        · rcases List.mem_cons.mp hq with rfl | hq
          · exact ⟨hg, hDL, hD0⟩
          · exact ⟨hk _ _ (l2 q hq) (N4 q (.tail _ (.tail _ hq))).1, (N4 q (.tail _ (.tail _ hq))).2⟩
      clear F4 N4 gh
      walk_at "my:steps"
      refine ⟨?_⟩

      rename Fr _ _ _ _ => F6
      rename News _ _ _ _ => N6
      refine UnrEnd.intro F6 N6 _ (fun q hq => hq) off' ⟨vs', k', ⟨rfl, rfl, rfl, rfl, rfl, trivial⟩, rfl, ?_⟩
      unfold seatsN
      rw [hse]
      exact hS'
end Mine
/- part L6a -/
namespace Mine
theorem Each.mono {P P' : Addr → Nat → Prop} (g : ∀ a d, P a d → P' a d) : ∀ {vs : List Value} {ds : List Nat}, Each P vs ds → Each P' vs ds
  | _, _, .nil => .nil
  | _, _, .cons l r => .cons (g _ _ l) (r.mono g)
theorem LeadsIn.each {lo : List (Addr × Obj)} {j : Nat} : ∀ {vs : List Value} {ds : List Nat}, LeadsIn lo j vs ds → Each (fun a d => LeadIn lo a j d) vs ds
  | _, _, .nil => .nil
  | _, _, .cons l r => .cons l r.each
theorem Each.leads {h : Heap} {j : Nat} {P : Addr → Nat → Prop} (g : ∀ a d, P a d → Lead h a j d) : ∀ {vs : List Value} {ds : List Nat}, Each P vs ds → LeadsAre h j vs ds
  | _, _, .nil => .nil
  | _, _, .cons l r => .cons (g _ _ l) (r.leads g)
/-- the table of the codes made in _law_run, told of the ledger -/
noncomputable def TabIn (B : Heap) (ps : Array Value) (nl : List (Addr × Obj)) : Prop := ps = #[] ∨ ∃ (c' : Addr) (oc : Obj) (fs : Array Value) (t : Tok), ps = #[rawInt 132, rawInt 45, .ref c'] ∧ (c', oc) ∈ nl ∧ oc.data = .fields fs ∧ fs[1]? = some (.str (Str.ofString "_law_run.<locals>.<lambda>") t) ∧ (@Ne Nat c' 155)
noncomputable def Off155 (nl : List (Addr × Obj)) : Prop := ∀ q ∈ nl, @Ne Nat q.1 155
theorem tabIn_mono {B : Heap} {ps : Array Value} {nl nl' : List (Addr × Obj)} (g : ∀ q ∈ nl, q ∈ nl') (x : TabIn B ps nl) : TabIn B ps nl' := by
  rcases x with h | ⟨c', oc, fs, t, h1, h2, h3⟩
  · exact .inl h
  · exact .inr ⟨c', oc, fs, t, h1, g _ h2, h3⟩
theorem tabB_of {B h : Heap} {L : Addr} {ps : Array Value} {all nl : List (Addr × Obj)} (N : News B L h all) (g : ∀ q ∈ nl, q ∈ all) (hp : (155, tabObj ps) ∈ all) (x : TabIn B ps nl) : TabB B h := by
  refine ⟨ps, (N _ hp).1, ?_⟩
  rcases x with h | ⟨c', oc, fs, t, h1, h2, h3, h4, h5⟩
  · exact .inl h
  · exact .inr ⟨c', oc, fs, t, h1, (N _ (g _ h2)).1, h3, h4, h5, (N _ (g _ h2)).2.2⟩
theorem LeadIn.off {lo lo' : List (Addr × Obj)} {h : Heap} {a : Addr} {j d : Nat} {ps : Array Value} (hall : ∀ q ∈ lo, h.get? q.1 = some q.2) (h155 : h.get? 155 = some (tabObj ps)) (g : ∀ q ∈ lo, (@Ne Nat q.1 155) → q ∈ lo') (x : LeadIn lo a j d) : LeadIn lo' a j d := by
  have key : ∀ (b : Addr) (o : Obj), (b, o) ∈ lo → o.cls ≠ .none → (b, o) ∈ lo' := fun b o hm hc => g _ hm fun e => by
    have h1 := hall _ hm
    dsimp only at e h1
    rw [e, h155] at h1
    exact hc (by rw [← Option.some.inj h1])
  obtain ⟨dx, es, n, P, C, cv, t1, t2, t3, a1, a2, c1, c2, c3, c4, c5, e, f, i⟩ := x
  exact ⟨dx, es, n, P, C, cv, t1, t2, t3, key _ _ a1 (by simp), key _ _ a2 (by simp), c1, c2, c3, c4, c5, key _ _ e (by simp), key _ _ f (by simp), i⟩
set_option maxRecDepth 100000 in
set_option maxHeartbeats 8000000 in
theorem run_step {w : World} {dp un : Nat} {fr : Option (List Env)} {gd : Option (List Code)} {s : Shared} {p : Program} {loose : List Str} {mean : ExcName → Option Value} {mg mb : Str → Option Value} {Q E : Value → Shared → Prop}
    {B : Heap} {L a : Addr} {m : Str → Option Value} {nl : List (Addr × Obj)} {oF oT oLe oLo oH : Obj} {ps : Array Value} {vs : List Value} {k j : Nat} {ds : List Nat}
    (X : (hd.heap_39 w.params).In B) (T : Top p loose mean mg mb B) (C : CodeHd B 159 155) (hroom : dp + 60 < recursionLimit) (hu : un + 400 < cLine)
    (F : Fr B L s.heap m) (N : News B L s.heap ((155, tabObj ps) :: cellsL L oF oT oLe oLo oH nl)) (hnc : NoCell nl) (ho : Off155 (cellsL L oF oT oLe oLo oH nl)) (ht : TabIn B ps nl)
    (ha : (a, listOf vs.toArray k) ∈ nl) (hL : Each (fun a d => LeadIn nl a j d) vs ds) (hds : ds.length ≤ 6)
    (ret : ∀ r vs' n' h' tk' ps' nl', Fr B L h' m → News B L h' ((155, tabObj ps') :: cellsL L oF oT oLe oLo oH nl') → NoCell nl' → Off155 (cellsL L oF oT oLe oLo oH nl') → TabIn B ps' nl' → (∀ q ∈ nl, q ∈ nl') → (r, listOf vs'.toArray n') ∈ nl' → Each (fun a d => LeadIn nl' a j d) vs' (runL ds) → Q (.ref r) { s with heap := h', toks := tk' }) :
    wpAny (model Challenge.rw_rw0101_01.row.prog w) (Am dp un fr gd) (call (.ref 160) [.ref a]) Q E s := by
  have inn : ∀ {q : Addr × Obj}, q ∈ nl → q ∈ (155, tabObj ps) :: cellsL L oF oT oLe oLo oH nl := fun hq => .tail _ (.tail _ (.tail _ (.tail _ (.tail _ (.tail _ hq)))))
  have h155 := N _ (.head _)
  have hna := N _ (inn ha)
  refine c_run (p := p) (loose := loose) (mean := mean) (mg := mg) (mb := mb) a F.keep X T C h155.2.2 hna.2.2 (by omega) (by omega) vs k j ds hna.1 (fun a d => LeadIn nl a j d) (fun b e x => x.lead fun q hq => (N _ (inn hq)).1) hL (by omega) (tabB_of N (fun q hq => inn hq) (.head _) ht) ?_
  intro r vs' n' h' tk' hk ht' hr hrn hL'
  have F' := fr_but1 F hk h155.2.1 h155.2.2
  have hr155 : @Ne Nat r 155 := fun e => by have := h155.1; dsimp only at this; rw [← e, hrn] at this; cases this
  obtain ⟨ps', hps', htab⟩ := ht'
  have hLd : ∀ {c' : Addr} {oc : Obj} {fs : Array Value}, h'.get? c' = some oc → oc.data = .fields fs → c' ≠ L := fun h1 h2 e => by
    obtain ⟨oL, es, ep, hL, hd, _⟩ := F'.ns
    rw [e, hL] at h1
    rw [← Option.some.inj h1, hd] at h2
    cases h2
  have new : ∀ {c' : Addr} {o : Obj}, h'.get? c' = some o → c' ≠ L → s.heap.get? c' = none → h'.get? c' = some o ∧ c' ≠ L ∧ B.get? c' = none := fun h1 h2 h3 => ⟨h1, h2, by
    cases q : B.get? _ with
    | none => rfl
    | some o' => have := F.keep _ _ q; rw [h3] at this; cases this⟩
  have hrL : r ≠ L := fun e => by
    obtain ⟨oL, es, ep, hL, hd, _⟩ := F.ns
    rw [← e, hrn] at hL; cases hL
  have base : ∀ q ∈ cellsL L oF oT oLe oLo oH nl, h'.get? q.1 = some q.2 ∧ q.1 ≠ L ∧ B.get? q.1 = none := fun q hq => ⟨hk _ _ (ho q hq) (N q (.tail _ hq)).1, (N q (.tail _ hq)).2⟩
  have fin : ∀ nl', News B L h' ((155, tabObj ps') :: cellsL L oF oT oLe oLo oH ((r, listOf vs'.toArray n') :: nl')) → NoCell nl' → Off155 nl' → TabIn B ps' nl' → (∀ q ∈ nl, q ∈ nl') → Q (.ref r) { s with heap := h', toks := tk' } := fun nl' N' hn' ho' ht'' hs => by
    refine ret r vs' n' h' tk' ps' ((r, listOf vs'.toArray n') :: nl') F' N' (hn'.cons fun v e => by cases e) ?_ (tabIn_mono (fun q hq => .tail _ hq) ht'') (fun q hq => .tail _ (hs q hq)) (.head _) (hL'.mono fun a d x => x.mono fun q hq => .tail _ (hs q hq))
    intro q hq
    simp only [cellsL, List.mem_cons] at hq
    rcases hq with rfl | rfl | rfl | rfl | rfl | rfl | hq
    · exact ho (_, oH) (.head _)
    · exact ho (_, oLo) (.tail _ (.head _))
    · exact ho (_, oLe) (.tail _ (.tail _ (.head _)))
    · exact ho (_, oT) (.tail _ (.tail _ (.tail _ (.head _))))
    · exact ho (_, oF) (.tail _ (.tail _ (.tail _ (.tail _ (.head _)))))
    · exact hr155
    · exact ho' q hq
  have mk : ∀ lo : List (Addr × Obj), (∀ q ∈ lo, h'.get? q.1 = some q.2 ∧ q.1 ≠ L ∧ B.get? q.1 = none) → News B L h' ((155, tabObj ps') :: cellsL L oF oT oLe oLo oH ((r, listOf vs'.toArray n') :: (lo ++ nl))) := fun lo hlo q hq => by
    simp only [cellsL, List.mem_cons, List.mem_append] at hq
    rcases hq with rfl | rfl | rfl | rfl | rfl | rfl | rfl | hq | hq
    · exact ⟨hps', h155.2⟩
    · exact base _ (.head _)
    · exact base _ (.tail _ (.head _))
    · exact base _ (.tail _ (.tail _ (.head _)))
    · exact base _ (.tail _ (.tail _ (.tail _ (.head _))))
    · exact base _ (.tail _ (.tail _ (.tail _ (.tail _ (.head _)))))
    · exact new hr hrL hrn
    · exact hlo q hq
    · exact base q (.tail _ (.tail _ (.tail _ (.tail _ (.tail _ hq)))))
  have honl : Off155 nl := fun q hq => ho q (.tail _ (.tail _ (.tail _ (.tail _ (.tail _ hq)))))
  rcases htab with rfl | ⟨c', oc, fs, t, rfl, hg, q1, q2, q3, hB⟩
  · exact fin nl (mk [] (fun _ h => nomatch h)) hnc honl (.inl rfl) fun _ h => h
  · refine fin ((c', oc) :: nl) (mk [(c', oc)] fun q hq => ?_) (hnc.cons fun v e => by rw [q1] at e; cases e) (fun q hq => ?_) (.inr ⟨c', oc, fs, t, rfl, .head _, q1, q2, q3⟩) fun _ h => .tail _ h
    · rw [List.mem_singleton.mp hq]
      exact ⟨hg, hLd hg q1, hB⟩
    · rcases List.mem_cons.mp hq with rfl | hq
      · exact q3
      · exact honl q hq
end Mine
/- part L6 -/
namespace Mine
theorem runL_len (ds : List Nat) : (runL ds).length = ds.length := by
  have := run_len ds ([], [])
  unfold runL
  rw [List.length_append, List.length_reverse]
  simp at this
  omega
theorem toInts_len (ds : List Nat) : (toInts ds).length = ds.length := by rw [toInts, List.length_map]
local macro_rules | `(tactic| k_all) => `(tactic| assumption)
local macro_rules | `(tactic| walk_at "my:steps") => `(tactic| repeat' (first | (k_unfold; (try dsimp only)) | walk1 | (dsimp only; walk1)))
local macro_rules | `(tactic| walk_at "call ref") => `(tactic| refine hold ?_)
local macro_rules | `(tactic| walk_at "compareOp NotEq ref ref") => `(tactic| refine hold ?_)
local macro_rules | `(tactic| walk_at "execs cons Assign cons") => `(tactic| ((with_reducible show wpAny _ _ (execs (Stmt.Assign _ (Expr.Call (Expr.Attribute _ _ _) _ _ _) _ :: _) _) _ _ _); refine hold ?_))
set_option maxRecDepth 100000 in
set_option maxHeartbeats 8000000 in
theorem law_6 {w : World} {dp un : Nat} {fr : Option (List Env)} {gd : Option (List Code)} {s : Shared} {p : Program} {loose : List Str} {mean : ExcName → Option Value} {mg mb : Str → Option Value} {Q : Flow → Shared → Prop}
    {B : Heap} {L fa : Addr} {cd : Value} {m : Str → Option Value} {nl : List (Addr × Obj)} {oF oT oLe oLo oH : Obj} {Dt Dl : Addr} {tc : Tok} {tvs lvs : List Value} {kt kl : Nat} {c : Int} {ps : Array Value} {j : Nat} {ds : List Nat}
    (X : (hd.heap_39 w.params).In B) (T : Top p loose mean mg mb B) (C : CodeHd B 159 155) (hroom : dp + 60 < recursionLimit) (hu : un + 400 < cLine)
    (F : Fr B L s.heap m) (N : News B L s.heap ((155, tabObj ps) :: cellsL L oF oT oLe oLo oH nl)) (hm : Has m [(Str.ofString "count", .int c tc), (Str.ofString "train", .ref Dt), (Str.ofString "leads", .ref Dl)])
    (hnc : NoCell nl) (ho : Off155 (cellsL L oF oT oLe oLo oH nl)) (ht : TabIn B ps nl)
    (hDt : (Dt, listOf tvs.toArray kt) ∈ nl) (hI : IntsAre tvs (toInts ds)) (hDl : (Dl, listOf lvs.toArray kl) ∈ nl) (hL : Each (fun a d => LeadIn nl a j d) lvs ds) (hds : ds.length ≤ 6)
    (hdue : toInts (runL ds) = dueN 7 (toInts ds)) (hdue2 : toInts (runL (runL ds)) = dueN 7 (dueN 7 (toInts ds)))
    (rest : ∀ h' tk' m' ps' nl' Dw wvs kw Do ovs ko, Fr B L h' m' → Has m' [(Str.ofString "count", .int c tc), (Str.ofString "train", .ref Dt), (Str.ofString "twice", .ref Dw), (Str.ofString "order", .ref Do)] → News B L h' ((155, tabObj ps') :: cellsL L oF oT oLe oLo oH nl') → 
      NoCell nl' → (∀ q ∈ nl, q ∈ nl') → (Dw, listOf wvs.toArray kw) ∈ nl' → Each (fun a d => LeadIn nl' a j d) wvs (runL (runL ds)) → (Do, listOf ovs.toArray ko) ∈ nl' → IntsAre ovs (toInts (runL ds)) →
      wpAny (model Challenge.rw_rw0101_01.row.prog w) (Am dp un fr gd) (execs (lawB.drop 18) (lawE L fa cd)) Q (fun _ _ => False) { s with heap := h', toks := tk' }) :
    wpAny (model Challenge.rw_rw0101_01.row.prog w) (Am dp un fr gd) (execs (lawB.drop 14) (lawE L fa cd)) Q (fun _ _ => False) s := by
  dsimp only [lawB, lawE, lawD, pick, List.drop_succ_cons, List.drop_zero] at rest ⊢
  w_top off; revert X; k_fill; intro X
  have hrl : (runL ds).length ≤ 6 := by rw [runL_len]; exact hds
  have hrl2 : (runL (runL ds)).length ≤ 6 := by rw [runL_len]; exact hrl
  replace F := frView F hm
  refine wpAny_execs_cons ?_
  walk_at "my:steps"
  refine ⟨?_⟩
  refine run_step X T C hroom hu F N hnc ho ht hDl hL hds ?_
  intro D1 vs1 n1 h1 tk1 ps1 nl1 F1 N1 hnc1 ho1 ht1 hs1 hD1 hL1
  clear F N
  walk_at "my:steps"
  refine ⟨?_⟩
  rename Fr _ _ _ _ => F1
  rename News _ _ _ _ => N1
  refine run_step X T C hroom hu F1 N1 hnc1 ho1 ht1 hD1 hL1 hrl ?_
  intro D2 vs2 n2 h2 tk2 ps2 nl2 F2 N2 hnc2 ho2 ht2 hs2 hD2 hL2
  clear F1 N1
  have inn : ∀ {q : Addr × Obj}, q ∈ nl2 → q ∈ (155, tabObj ps2) :: cellsL L oF oT oLe oLo oH nl2 := fun hq => .tail _ (.tail _ (.tail _ (.tail _ (.tail _ (.tail _ hq)))))
  walk_at "my:steps"
  refine ⟨?_⟩
  rename Fr _ _ _ _ => F3
  rename News _ _ _ _ => N3
  have ld : ∀ {h : Heap} {all : List (Addr × Obj)}, News B L h all → (∀ q ∈ nl2, q ∈ all) → ∀ a d, LeadIn nl2 a j d → Lead h a j d := fun N' g a d x => x.lead fun q hq => (N' _ (g q hq)).1
  have hL1' : Each (fun a d => LeadIn nl2 a j d) vs1 (runL ds) := hL1.mono fun a d x => x.mono hs2
  refine c_dots (p := p) (loose := loose) (mean := mean) (mg := mg) (mb := mb) (X.keeps F3.keep) (T.keeps F3.keep) (by omega) (by omega) D1 vs1 j (runL ds) (News.isList N3 (inn (hs2 _ hD1))) (hL1'.leads (ld N3 fun q hq => inn hq)) (by omega) fun r4 ovs n4 h4 tk4 g4 hr4 hf4 hI4 => ?_
  have N4 := newsAdd F3 N3 g4 hr4 hf4
  have F4 := F3.keeps g4
  clear F3 N3 g4
  walk_at "my:steps"
  refine ⟨?_⟩
  rename Fr _ _ _ _ => F5
  rename News _ _ _ _ => N5
  have inn5 : ∀ {q : Addr × Obj}, q ∈ nl2 → q ∈ (r4, listOf ovs.toArray n4) :: (155, tabObj ps2) :: cellsL L oF oT oLe oLo oH nl2 := fun hq => .tail _ (inn hq)
  have hDt2 := hs2 _ (hs1 _ hDt)
  refine c_due 7 (p := p) (loose := loose) (mean := mean) (mg := mg) (mb := mb) (X.keeps F5.keep) (T.keeps F5.keep) (by omega) (by omega) Dt tvs (toInts ds) (LstAt.news N5 (inn5 hDt2)) hI (by rw [toInts_len]; omega) (by omega) fun r6 us6 n6 h6 tk6 g6 hr6 hf6 hI6 => ?_
  have N6 := newsAdd F5 N5 g6 hr6 hf6
  have F6 := F5.keeps g6
  clear F5 N5 g6
  walk_at "my:steps"
  refine ⟨?_⟩
  rename Fr _ _ _ _ => F7
  rename News _ _ _ _ => N7
  refine ne_intsK (News.isList N7 (.tail _ (.head _))) hI4 (News.isList N7 (.head _)) hI6 (by show un + 64 < cLine; omega) ?_
  rw [hdue, decide_eq_true rfl]
  walk_at "my:steps"
  refine ⟨?_⟩
  have inn7 : ∀ {q : Addr × Obj}, q ∈ nl2 → q ∈ (r6, listOf us6.toArray n6) :: (r4, listOf ovs.toArray n4) :: (155, tabObj ps2) :: cellsL L oF oT oLe oLo oH nl2 := fun hq => .tail _ (.tail _ (inn hq))
  refine c_dots (p := p) (loose := loose) (mean := mean) (mg := mg) (mb := mb) (X.keeps F7.keep) (T.keeps F7.keep) (by omega) (by omega) D2 vs2 j (runL (runL ds)) (News.isList N7 (inn7 hD2)) (hL2.leads (ld N7 fun q hq => inn7 hq)) (by omega) fun r8 us8 n8 h8 tk8 g8 hr8 hf8 hI8 => ?_
  have N8 := newsAdd F7 N7 g8 hr8 hf8
  have F8 := F7.keeps g8
  clear F7 N7 g8
  walk_at "my:steps"
  refine ⟨?_⟩
  rename Fr _ _ _ _ => F9
  rename News _ _ _ _ => N9
  refine c_due 7 (p := p) (loose := loose) (mean := mean) (mg := mg) (mb := mb) (X.keeps F9.keep) (T.keeps F9.keep) (by omega) (by omega) Dt tvs (toInts ds) (LstAt.news N9 (.tail _ (inn7 hDt2))) hI (by rw [toInts_len]; omega) (by omega) fun r10 us10 n10 h10 tk10 g10 hr10 hf10 hI10 => ?_
  have N10 := newsAdd F9 N9 g10 hr10 hf10
  have F10 := F9.keeps g10
  clear F9 N9 g10
  walk_at "my:steps"
  refine ⟨?_⟩
  rename Fr _ _ _ _ => F11
  rename News _ _ _ _ => N11
  have hdl := dueN_len 7 (toInts ds)
  rw [toInts_len] at hdl
  refine c_due 7 (p := p) (loose := loose) (mean := mean) (mg := mg) (mb := mb) (X.keeps F11.keep) (T.keeps F11.keep) (by omega) (by omega) r10 us10 (dueN 7 (toInts ds)) (LstAt.news N11 (.head _)) hI10 (by omega) (by omega) fun r12 us12 n12 h12 tk12 g12 hr12 hf12 hI12 => ?_
  have N12 := newsAdd F11 N11 g12 hr12 hf12
  have F12 := F11.keeps g12
  clear F11 N11 g12
  walk_at "my:steps"
  refine ⟨?_⟩
  rename Fr _ _ _ _ => F13
  rename News _ _ _ _ => N13
  refine ne_intsK (News.isList N13 (.tail _ (.tail _ (.head _)))) hI8 (News.isList N13 (.head _)) hI12 (by show un + 64 < cLine; omega) ?_
  rw [hdue2, decide_eq_true rfl]
  walk_at "my:steps"
  refine ⟨?_⟩
  rename Fr _ _ _ _ => F14
  rename News _ _ _ _ => N14
  refine rest _ _ _ ps2 ((r4, listOf ovs.toArray n4) :: nl2) D2 vs2 n2 r4 ovs n4 F14 ⟨rfl, rfl, rfl, rfl, trivial⟩ (newsSub N14 ?_) (hnc2.cons fun v e => by cases e) (fun q hq => .tail _ (hs2 _ (hs1 _ hq))) (.tail _ hD2) (hL2.mono fun a d x => x.mono fun q hq => .tail _ hq) (.head _) hI4
  intro q hq
  simp only [cellsL, List.mem_cons] at hq ⊢
  rcases hq with h | h | h | h | h | h | h | h <;> simp only [h, true_or, or_true]
end Mine
/- part PL1 -/
namespace Mine
/-- does the word hold the signs, in their order? -/
noncomputable def subq : List Nat → List Nat → Bool
  | [], _ => true
  | _ :: _, [] => false
  | c :: cs, d :: ds => if c == d then subq cs ds else subq (c :: cs) ds
theorem subq_nil (l : List Nat) : subq [] l = true := by cases l <;> rw [subq]
theorem subq_cons (c d : Nat) (cs ds : List Nat) : subq (c :: cs) (d :: ds) = if c == d then subq cs ds else subq (c :: cs) ds := by rw [subq]
theorem subq_none {c : Nat} {cs : List Nat} : ∀ {l : List Nat}, c ∉ l → subq (c :: cs) l = false
  | [], _ => by rw [subq]
  | d :: ds, h => by
    rw [subq_cons, if_neg (by rw [beq_iff_eq]; exact fun e => h (e ▸ .head _))]
    exact subq_none fun q => h (.tail _ q)
theorem subq_skip {c : Nat} {cs : List Nat} {r : List Nat} : ∀ {pre : List Nat}, c ∉ pre → subq (c :: cs) (pre ++ c :: r) = subq cs r
  | [], _ => by
    rw [List.nil_append, subq_cons, if_pos (by simp)]
  | d :: ds, h => by
    rw [List.cons_append, subq_cons, if_neg (by rw [beq_iff_eq]; exact fun e => h (e ▸ .head _))]
    exact subq_skip fun q => h (.tail _ q)
theorem at_one (l : List Nat) (c i : Nat) : StrLaws.At ⟨l.toArray⟩ ⟨#[c]⟩ l.length i ↔ l[i]? = some c := by
  unfold StrLaws.At
  rw [StrLaws.subAt_eq]
  have e1 : (⟨#[c]⟩ : Str).length = 1 := rfl
  rw [e1]
  simp only [beq_iff_eq]
  constructor
  · rintro ⟨h1, h2⟩
    have h3 : (l.drop i).take 1 = [c] := h2
    have := congrArg (·[0]?) h3
    simpa [List.getElem?_take, List.getElem?_drop] using this
  · intro h
    have hlt := (List.getElem?_eq_some_iff.mp h).1
    refine ⟨hlt, ?_⟩
    show (l.drop i).take 1 = [c]
    rw [List.drop_eq_getElem_cons hlt, (List.getElem?_eq_some_iff.mp h).2]
    rfl
theorem len_mk (l : List Nat) : (⟨l.toArray⟩ : Str).length = l.length := by simp [Str.length]
theorem from_nat (n k : Nat) : fromIndex n (k : Int) = k := by
  unfold fromIndex
  rw [if_neg (by omega)]
  omega
theorem fnd_one (l : List Nat) (c k : Nat) (hk : k ≤ l.length) :
    (fnd ⟨l.toArray⟩ ⟨#[c]⟩ (k : Int) (l.length : Int) = -1 ∧ c ∉ l.drop k) ∨
    ∃ i : Nat, fnd ⟨l.toArray⟩ ⟨#[c]⟩ (k : Int) (l.length : Int) = (i : Int) ∧ i < l.length ∧ ∃ pre, l.drop k = pre ++ c :: l.drop (i + 1) ∧ c ∉ pre := by
  unfold fnd
  rw [len_mk, from_nat, from_nat, Nat.min_self]
  have key := StrLaws.occ_head_from ⟨l.toArray⟩ ⟨#[c]⟩ k 1 (Nat.le_refl _)
  rw [len_mk] at key
  rcases key with ⟨e, hn⟩ | ⟨i, r, e, hki, hat, hn⟩
  · rw [e]
    refine .inl ⟨rfl, fun hm => ?_⟩
    obtain ⟨j, hj⟩ := List.getElem?_of_mem hm
    rw [List.getElem?_drop] at hj
    exact hn (k + j) (by omega) ((at_one _ _ _).mpr hj)
  · rw [e]
    have hi := (at_one _ _ _).mp hat
    have hlt := (List.getElem?_eq_some_iff.mp hi).1
    refine .inr ⟨i, rfl, hlt, (l.drop k).take (i - k), ?_, fun hm => ?_⟩
    · conv => lhs; rw [← List.take_append_drop (i - k) (l.drop k)]
      congr 1
      rw [List.drop_drop, show k + (i - k) = i by omega, List.drop_eq_getElem_cons hlt, (List.getElem?_eq_some_iff.mp hi).2]
    · obtain ⟨j, hj⟩ := List.getElem?_of_mem hm
      have hjl : j < i - k := by
        have := (List.getElem?_eq_some_iff.mp hj).1
        rw [List.length_take] at this
        omega
      rw [List.getElem?_take_of_lt hjl, List.getElem?_drop] at hj
      exact hn (k + j) (by omega) (by omega) ((at_one _ _ _).mpr hj)
theorem fnd_empty (l : List Nat) (k : Nat) (hk : k ≤ l.length) : fnd ⟨l.toArray⟩ Str.empty (k : Int) (l.length : Int) = (k : Int) := by
  unfold fnd
  rw [len_mk, from_nat, from_nat, Nat.min_self]
  have hat : StrLaws.At ⟨l.toArray⟩ Str.empty l.length k := by
    refine ⟨hk, ?_⟩
    rw [StrLaws.subAt_eq]
    rfl
  have key := StrLaws.occ_head_from ⟨l.toArray⟩ Str.empty k 1 (Nat.le_refl _)
  rw [len_mk] at key
  rcases key with ⟨e, hn⟩ | ⟨i, r, e, hki, _, hn⟩
  · exact absurd hat (hn k (Nat.le_refl _))
  · rw [e]
    by_cases h : i = k
    · rw [h]
    · exact absurd hat (hn k (Nat.le_refl _) (by omega))
theorem chain_sub (l : List Nat) : ∀ (cs : List Nat) (k : Nat), k ≤ l.length → chain ⟨l.toArray⟩ (l.length : Int) (k : Int) (cs.map (fun c => (⟨#[c]⟩ : Str)) ++ [Str.empty]) = subq cs (l.drop k)
  | [], k, hk => by
    show chain _ _ _ [Str.empty] = _
    unfold chain
    rw [fnd_empty l k hk, if_neg (by omega), subq_nil]
    unfold chain
    rfl
  | c :: cs, k, hk => by
    rw [List.map_cons, List.cons_append]
    unfold chain
    rcases fnd_one l c k hk with ⟨e, hn⟩ | ⟨i, e, hi, pre, hp, hn⟩
    · rw [e, if_pos (by decide), subq_none hn]
    · rw [e, if_neg (by omega), hp, subq_skip hn]
      have := chain_sub l cs (i + 1) hi
      exact this
/-- the train as a word -/
noncomputable def lettersOf (ds : List Nat) : Str := ⟨(ds.map (96 + ·)).toArray⟩
noncomputable def codes (cars : List Int) : List Nat := cars.map fun c => (96 + c).toNat
theorem takes_sub (ds : List Nat) (cars : List Int) : takes (lettersOf ds) cars = subq (codes cars) (ds.map (96 + ·)) := by
  unfold takes lettersOf
  rw [len_mk]
  have hp : pieces cars = (codes cars).map fun c => (⟨#[c]⟩ : Str) := by
    unfold pieces codes
    rw [List.map_map]; rfl
  unfold chain
  have := fnd_empty (ds.map (96 + ·)) 0 (Nat.zero_le _)
  rw [show ((0 : Nat) : Int) = 0 from rfl] at this
  rw [this, if_neg (by decide), hp]
  have h2 := chain_sub (ds.map (96 + ·)) (codes cars) 0 (Nat.zero_le _)
  rw [List.drop_zero] at h2
  exact h2
end Mine
/- part L7 -/
namespace Mine
theorem join_letters (ds : List Nat) : Txt.join (Str.ofString "") (ds.map fun d : Nat => letter (d : Int)) = lettersOf ds := by
  have e : Str.ofString "" = Str.empty := by decide +kernel
  have e2 : ∀ d : Nat, letter (d : Int) = ⟨#[96 + d]⟩ := fun d => by
    unfold letter
    rw [show (96 + (d : Int)).toNat = 96 + d by omega]
  rw [e]
  show Builtin.Str.glued _ _ = _
  rw [StrLaws.glued_eq_join]
  induction ds with
  | nil => rfl
  | cons d r ih =>
    cases r with
    | nil =>
      show letter (d : Int) = _
      rw [e2]
      rfl
    | cons d2 r2 =>
      show letter (d : Int) ++ Str.empty ++ Str.join _ ((d2 :: r2).map fun d : Nat => letter (d : Int)) = _
      rw [ih, e2]
      apply Str.ext'
      apply Array.toList_inj.mp
      simp only [Str.cps_append, Array.toList_append, lettersOf, Str.empty, List.map_cons]
      rfl
theorem letters_sum (ds : List Nat) : ((ds.map fun d : Nat => letter (d : Int)).map (·.length)).sum = ds.length := by
  induction ds with
  | nil => rfl
  | cons d r ih =>
    rw [List.map_cons, List.map_cons, List.sum_cons, ih, List.length_cons]
    show 1 + r.length = _
    omega
local macro_rules | `(tactic| k_all) => `(tactic| assumption)
local macro_rules | `(tactic| walk_at "my:steps") => `(tactic| repeat' (first | (k_unfold; (try dsimp only)) | walk1 | (dsimp only; walk1)))
local macro_rules | `(tactic| walk_at "eval ListComp") => `(tactic| refine hold ?_)
local macro_rules | `(tactic| walk_at "CompSrc") => `(tactic| refine hold ?_)
local macro_rules | `(tactic| walk_at "CT") => `(tactic| refine hold ?_)
local macro_rules | `(tactic| walk_at "call builtin:str.join") => `(tactic| refine hold ?_)
local macro_rules | `(tactic| walk_at "subscriptTail") => `(tactic| refine hold ?_)
local macro_rules | `(tactic| walk_at "execs cons For") => `(tactic| refine hold ?_)
set_option maxRecDepth 100000 in
set_option maxHeartbeats 8000000 in
theorem law_7 {w : World} {dp un : Nat} {fr : Option (List Env)} {gd : Option (List Code)} {s : Shared} {p : Program} {loose : List Str} {mean : ExcName → Option Value} {mg mb : Str → Option Value} {Q : Flow → Shared → Prop}
    {B : Heap} {L fa : Addr} {cd : Value} {m : Str → Option Value} {nl : List (Addr × Obj)} {oF oT oLe oLo oH : Obj} {Dt Dw Do : Addr} {tc : Tok} {tvs : List Value} {kt : Nat} {c : Int} {ps : Array Value} {ds : List Nat} {vF vT vLe vLo vH : Option Value}
    (X : (hd.heap_39 w.params).In B) (T : Top p loose mean mg mb B) (hroom : dp + 60 < recursionLimit) (hu : un + 400 < cLine) (hL155 : @LT.lt Nat instLTNat 155 L)
    (F : Fr B L s.heap m) (N : News B L s.heap ((155, tabObj ps) :: cellsL L oF oT oLe oLo oH nl)) (hm : Has m [(Str.ofString "count", .int c tc), (Str.ofString "train", .ref Dt), (Str.ofString "twice", .ref Dw), (Str.ofString "order", .ref Do)])
    (hnc : NoCell nl) (dF : oF.data = .cell vF) (dT : oT.data = .cell vT) (dLe : oLe.data = .cell vLe) (dLo : oLo.data = .cell vLo) (dH : oH.data = .cell vH)
    (hDt : (Dt, listOf tvs.toArray kt) ∈ nl) (hI : IntsAre tvs (toInts ds)) (hds : ds.length ≤ 6) (hds1 : ∀ d ∈ ds, 1 ≤ d ∧ d ≤ 6)
    (rest : ∀ h' tk' m' oLe' t', Fr B L h' m' → Has m' [(Str.ofString "count", .int c tc), (Str.ofString "twice", .ref Dw), (Str.ofString "order", .ref Do)] → News B L h' ((155, tabObj ps) :: cellsL L oF oT oLe' oLo oH nl) → 
      oLe'.data = .cell (some (.str (lettersOf ds) t')) →
      wpAny (model Challenge.rw_rw0101_01.row.prog w) (Am dp un fr gd) (execs (lawB.drop 19) (lawE L fa cd)) Q (fun _ _ => False) { s with heap := h', toks := tk' }) :
    wpAny (model Challenge.rw_rw0101_01.row.prog w) (Am dp un fr gd) (execs (lawB.drop 18) (lawE L fa cd)) Q (fun _ _ => False) s := by
  dsimp only [lawB, lawE, lawD, pick, List.drop_succ_cons, List.drop_zero] at rest ⊢
  w_top off; revert X; k_fill; intro X
  obtain ⟨f1, f2, f3, f4, f5⟩ := off_cells (newsSub N fun q hq => .tail _ hq) hnc dF dT dLe dLo dH
  have inn : ∀ {q : Addr × Obj}, q ∈ nl → q ∈ (155, tabObj ps) :: cellsL L oF oT oLe oLo oH nl := fun hq => .tail _ (.tail _ (.tail _ (.tail _ (.tail _ (.tail _ hq)))))
  replace F := frView F hm
  refine wpAny_execs_cons ?_
  walk_at "my:steps"
  refine ⟨?_⟩
  refine LCg.ListComp_U (F₀ := F) (by rfl) (by decide) (by rfl) (by decide) (by rfl) ?_
  walk_at "my:steps"
  refine ⟨?_⟩
  refine LCg.CompSrc.ledger (by rfl) F N (inn hDt) (by rw [List.size_toArray, hI.length, toInts_len, sizeLine_eq]; omega) ?_
  intro g
  refine compRest_inv (fun i ys => StrsAre ys ((ds.take i).map fun d : Nat => letter (d : Int))) (.inr ⟨_, inn hDt, rfl, _, rfl⟩) (by simp; exact .nil) ?_ ?_
  · intro i v I oI C oC D m₂ ys h tk E' hi' hv hj hC hx F' N' off ne
    obtain ⟨n, tn, hn', rfl⟩ := intsAt hI (by simpa using hv)
    obtain ⟨d, hd, rfl⟩ := toInts_at hn'
    have hdb := hds1 d (List.mem_of_getElem? hd)
    walk_at "my:steps"
    refine ⟨?_⟩
    refine item_letter (by omega) ?_
    refine CT.intro F' N' ?_
    rw [List.take_add_one, hd, Option.toList_some, List.map_append]
    exact strsAre_snoc hj
  · intro ys hys
    rw [List.size_toArray, hI.length, toInts_len, List.take_length] at hys
    intro D1 h1 tk1 F1 N1 o1
    clear F N
    dsimp only
    walk_at "my:steps"
    refine ⟨?_⟩
    refine join_list (News.isList N1 (.head _)) (by simpa using hys) (by rw [letters_sum, List.length_map, show (Str.ofString "").length = 0 by decide +kernel]; omega) ?_
    intro t9 tk9
    rw [join_letters]
    replace N1 := newsSub (news' := (155, tabObj ps) :: cellsL L oF oT oLe oLo oH nl) N1 fun q hq => .tail _ hq
    dsimp only [cellsL] at N1
    walk_at "my:steps"
    refine ⟨?_⟩
    rename Fr _ _ _ _ => F2
    rename News _ _ _ _ => N2
    rename (Obj.data _ = Data.cell (some (Value.str _ _))) => d2
    exact rest _ _ _ _ t9 F2 ⟨rfl, rfl, rfl, trivial⟩ N2 d2
end Mine
/- part L8 -/
namespace Mine
noncomputable def toldBy (word : Str) (c high low : Int) : List Int := (rangeKs high (c + 1 - high).toNat).filter fun x => takes word [high, x, low]
theorem offs_all {L I : Addr} {oF oT oLe oLo oH oP : Obj} {nl : List (Addr × Obj)} (off : ∀ q ∈ (155, oP) :: cellsL L oF oT oLe oLo oH nl, q.1 ≠ I) :
    (@Ne Nat 155 I) ∧ (@Ne Nat (L + 1 + 1 + 1 + 1 + 1) I) ∧ (@Ne Nat (L + 1 + 1 + 1 + 1) I) ∧ (@Ne Nat (L + 1 + 1 + 1) I) ∧ (@Ne Nat (L + 1 + 1) I) ∧ (@Ne Nat (L + 1) I) ∧ (∀ q ∈ nl, q.1 ≠ I) :=
  ⟨off _ (.head _), off _ (.tail _ (.head _)), off _ (.tail _ (.tail _ (.head _))), off _ (.tail _ (.tail _ (.tail _ (.head _)))), off _ (.tail _ (.tail _ (.tail _ (.tail _ (.head _))))), off _ (.tail _ (.tail _ (.tail _ (.tail _ (.tail _ (.head _)))))),
    fun q hq => off q (.tail _ (.tail _ (.tail _ (.tail _ (.tail _ (.tail _ hq))))))⟩
theorem all_offs {L I : Addr} {oF oT oLe oLo oH oP : Obj} {nl : List (Addr × Obj)}
    (e : (@Ne Nat 155 I) ∧ (@Ne Nat (L + 1 + 1 + 1 + 1 + 1) I) ∧ (@Ne Nat (L + 1 + 1 + 1 + 1) I) ∧ (@Ne Nat (L + 1 + 1 + 1) I) ∧ (@Ne Nat (L + 1 + 1) I) ∧ (@Ne Nat (L + 1) I) ∧ (∀ q ∈ nl, q.1 ≠ I)) : ∀ q ∈ (155, oP) :: cellsL L oF oT oLe oLo oH nl, q.1 ≠ I :=
  List.forall_mem_cons.mpr ⟨e.1, List.forall_mem_cons.mpr ⟨e.2.1, List.forall_mem_cons.mpr ⟨e.2.2.1, List.forall_mem_cons.mpr ⟨e.2.2.2.1, List.forall_mem_cons.mpr ⟨e.2.2.2.2.1, List.forall_mem_cons.mpr ⟨e.2.2.2.2.2.1, e.2.2.2.2.2.2⟩⟩⟩⟩⟩⟩
local macro_rules | `(tactic| k_ne) => `(tactic| first | (refine neN ?_; (try dsimp only); assumption) | (refine neN ?_; (try dsimp only); refine Ne.symm ?_; assumption))
local macro_rules | `(tactic| k_all) => `(tactic| assumption)
local macro_rules | `(tactic| walk_at "CT") => `(tactic| refine hold ?_)
local macro_rules | `(tactic| walk_at "my:steps") => `(tactic| repeat' (first | (k_unfold; (try dsimp only)) | walk1 | (dsimp only; walk1)))
local macro_rules | `(tactic| walk_at "exec For Name Call cons nil") => `(tactic| refine hold ?_)
local macro_rules | `(tactic| walk_at "pyIter ref") => `(tactic| refine hold ?_)
local macro_rules | `(tactic| walk_at "getMethod ref") => `(tactic| refine hold ?_)
local macro_rules | `(tactic| walk_at "call builtin:list.index") => `(tactic| refine hold ?_)
local macro_rules | `(tactic| walk_at "compareOp NotEq ref ref") => `(tactic| refine hold ?_)
local macro_rules | `(tactic| walk_at "call ref") => `(tactic| refine hold ?_)
local macro_rules | `(tactic| walk_at "eval ListComp") => `(tactic| refine hold ?_)
local macro_rules | `(tactic| walk_at "CompSrcT") => `(tactic| refine hold ?_)
local macro_rules | `(tactic| walk_at "UnrEnd") => `(tactic| refine hold ?_)
local macro_rules | `(tactic| walk_at "execs cons Return") => `(tactic| ((with_reducible show wpAny _ _ (execs (Stmt.Return (some (Expr.Compare _ _ _ _)) _ :: _) _) _ _ _); refine hold ?_))
set_option maxRecDepth 100000 in
set_option maxHeartbeats 8000000 in
theorem law_8 {w : World} {dp un : Nat} {fr : Option (List Env)} {gd : Option (List Code)} {s : Shared} {p : Program} {loose : List Str} {mean : ExcName → Option Value} {mg mb : Str → Option Value} {Q : Flow → Shared → Prop}
    {B : Heap} {L fa : Addr} {cd : Value} {m : Str → Option Value} {nl : List (Addr × Obj)} {oF oT oLe oLo oH : Obj} {Dw Do : Addr} {tc tl : Tok} {ovs : List Value} {ko : Nat} {c : Int} {ps : Array Value} {os : List Int} {word : Str} {vF vT vLo vH : Option Value}
    (X : (hd.heap_39 w.params).In B) (T : Top p loose mean mg mb B) (hroom : dp + 60 < recursionLimit) (hu : un + 400 < cLine) (hL155 : @LT.lt Nat instLTNat 155 L)
    (F : Fr B L s.heap m) (N : News B L s.heap ((155, tabObj ps) :: cellsL L oF oT oLe oLo oH nl)) (hm : Has m [(Str.ofString "count", .int c tc), (Str.ofString "twice", .ref Dw), (Str.ofString "order", .ref Do)])
    (hnc : NoCell nl) (dF : oF.data = .cell vF) (dT : oT.data = .cell vT) (dLe : oLe.data = .cell (some (.str word tl))) (dLo : oLo.data = .cell vLo) (dH : oH.data = .cell vH) (hw : word.length ≤ 1000)
    (hDo : (Do, listOf ovs.toArray ko) ∈ nl) (hI : IntsAre ovs os) (hos : os.length ≤ 6) (hc : c = 5 ∨ c = 6) (hall : ∀ v : Int, 1 ≤ v → v ≤ c → v ∈ os)
    (htold : ∀ low high : Int, 1 ≤ low → low < high → high ≤ c → (!decide (toldBy word c high low = [])) = decide (((os.idxOf high : Nat) : Int) < ((os.idxOf low : Nat) : Int)))
    (rest : ∀ h' tk' m' oLo' oH', Fr B L h' m' → Has m' [(Str.ofString "count", .int c tc), (Str.ofString "twice", .ref Dw)] → News B L h' ((155, tabObj ps) :: cellsL L oF oT oLe oLo' oH' nl) → 
      wpAny (model Challenge.rw_rw0101_01.row.prog w) (Am dp un fr gd) (execs (lawB.drop 20) (lawE L fa cd)) Q (fun _ _ => False) { s with heap := h', toks := tk' }) :
    wpAny (model Challenge.rw_rw0101_01.row.prog w) (Am dp un fr gd) (execs (lawB.drop 19) (lawE L fa cd)) Q (fun _ _ => False) s := by
  dsimp only [lawB, lawE, lawD, pick, List.drop_succ_cons, List.drop_zero] at rest ⊢
  w_top off; revert X; k_fill; intro X
  obtain ⟨hc5, hc6⟩ : 5 ≤ c ∧ c ≤ 6 := by omega
  clear hc
  obtain ⟨f1, f2, f3, f4, f5⟩ := off_cells (newsSub N fun q hq => .tail _ hq) hnc dF dT dLe dLo dH
  replace F := frView F hm
  refine wpAny_execs_cons ?_
  refine For_turns F ?_
  walk_at "my:steps"
  refine ⟨?_⟩
  rename IsRange _ _ _ _ _ _ _ _ => R1
  rename Fr _ _ _ _ => F1
  rename News _ _ _ _ => N1
  refine turns_rangeV (n := (c - 1).toNat) (fun i m nx => Has m [(Str.ofString "count", .int c tc), (Str.ofString "twice", .ref Dw), (Str.ofString "order", .ref Do)] ∧ ∃ oLo oH vLo vH, nx = (155, tabObj ps) :: cellsL L oF oT oLe oLo oH nl ∧ oLo.data = .cell vLo ∧ oH.data = .cell vH)
    rfl R1 (small_one (by omega) (by omega) (by omega) (by omega)) (by rw [rangeSize_nat]) F1 N1 ?hJ ?turn ?done
  case hJ => exact ⟨⟨rfl, rfl, rfl, trivial⟩, oLo, oH, vLo, vH, rfl, dLo, dH⟩
  case done =>
    rintro m nx h tk' ⟨hm, oLo', oH', _, _, rfl, _, _⟩ F2 N2
    dsimp only
    exact rest h tk' m oLo' oH' F2 ⟨hm.1, hm.2.1, trivial⟩ N2
  case turn =>
    clear N1 F1 R1 dLo dH
    rintro I i low ti m nx it h tk' hle hi ⟨hm, oLo, oH, vLo, vH, rfl, dLo, dH⟩ hit off F2 N2
    have e := offs_all off
    obtain ⟨e1, e2, e3, e4, e5, e6, e7⟩ := e
    replace F2 := frView F2 hm
    dsimp only [cellsL] at N2
    walk_at "my:steps"
    refine ⟨?_⟩
    clear dLo F2 N2
    rename Fr _ _ _ _ => F2
    rename News _ _ _ _ => N2
    rename (Obj.data _ = Data.cell (some (Value.int _ _))) => dLo
    rename Obj => oLo
    have hlo : 1 ≤ low ∧ low < c := ⟨by omega, by omega⟩
    refine For_turns F2 ?_
    walk_at "my:steps"
    refine ⟨?_⟩
    (try clear F2); (try clear N2)
    rename IsRange _ _ _ _ _ _ _ _ => R1
    rename Fr _ _ _ _ => F1
    rename News _ _ _ _ => N1
    refine turns_rangeV (n := (c - low).toNat) (fun i m nx => Has m [(Str.ofString "count", .int c tc), (Str.ofString "twice", .ref Dw), (Str.ofString "order", .ref Do)] ∧ ∃ oH vH, nx = (I, it) :: (155, tabObj ps) :: cellsL L oF oT oLe oLo oH nl ∧ oH.data = .cell vH)
      rfl R1 (small_one (by omega) (by omega) (by omega) (by omega)) (by rw [rangeSize_nat]; congr 2; omega) F1 N1 ?hJ ?turn ?done
    case hJ => exact ⟨⟨rfl, rfl, rfl, trivial⟩, oH, vH, rfl, dH⟩
    case done =>
      rintro m nx h tk' ⟨hm, oH', vH', rfl, dH'⟩ F2 N2
      walk_at "my:steps"
      refine ⟨?_⟩
      exact UnrEnd.intro F2 N2 _ (fun q hq => hq) (all_offs ⟨e1, e2, e3, e4, e5, e6, e7⟩) ⟨hm, oLo, oH', _, _, rfl, dLo, dH'⟩
    case turn =>
      clear N1 F1 R1 dH
      rintro I1 i1 high t1 m nx it1 h tk' hhe hi1 ⟨hm, oH, vH, rfl, dH⟩ hit1 off1 F2 N2
      have b0 : @Ne Nat I I1 := off1 _ (.head _)
      obtain ⟨b1, b2, b3, b4, b5, b6, b7⟩ := offs_all fun q hq => off1 q (.tail _ hq)
      replace F2 := frView F2 hm
      dsimp only [cellsL] at N2
      walk_at "my:steps"
      refine ⟨?_⟩
      clear dH F2 N2
      rename Fr _ _ _ _ => F2
      rename News _ _ _ _ => N2
      rename (Obj.data _ = Data.cell (some (Value.int _ _))) => dH
      rename Obj => oH
      have hhi : low < high ∧ high ≤ c := ⟨by omega, by omega⟩
      refine LCt.ListComp_T (F₀ := F2) (by with_unfolding_all rfl) (by decide) (by rfl) (by decide) (by rfl) ?_
      walk_at "my:steps"
      refine ⟨?_⟩
      (try clear F2); (try clear N2)
      rename IsRange _ _ _ _ _ _ _ _ => R1
      rename Fr _ _ _ _ => F1
      rename News _ _ _ _ => N1
      refine LCt.CompSrcT.range (n := (c + 1 - high).toNat) rfl F1 N1 R1 (small_one (by omega) (by omega) (by omega) (by omega)) (by rw [rangeSize_nat]) (by rw [sizeLine_eq]; omega) ?_
      intro g
      refine compRestT_inv (fun i ys => IntsAre ys ((rangeKs high i).filter fun x => takes word [high, x, low])) trivial .nil ?_ ?_
      · clear F1 N1 R1
        rintro i5 v I5 oI C oC D m₂ ys h tk E' hi5 ⟨t5, rfl⟩ hj hC hx F1 N1 off5 ne5
        have hx5 : high ≤ high + (i5 : Int) ∧ high + (i5 : Int) ≤ 6 := ⟨by omega, by omega⟩
        have hsn := fun hp => filt_snoc (t := t5) hj hp
        have hsm := fun hp => filt_same hj hp
        clear hj
        generalize hxe : high + (i5 : Int) = x5 at hx hsn hsm hx5
        walk_at "my:steps"
        refine ⟨?_⟩
        (try clear F1); (try clear N1)
        rename Fr _ _ _ _ => F1
        rename News _ _ _ _ => N1
        refine c_takes (p := p) (loose := loose) (mean := mean) (mg := mg) (mb := mb) (X.keeps F1.keep) (T.keeps F1.keep) ?_ ?_ word tl hw _ _ [high, x5, low] (News.isList N1 (.head _)) (.cons _ _ (.cons _ _ (.cons _ _ .nil))) (wok_p hlo.1 hhi.1 hx5.1 hx5.2) ?_
        · omega
        · omega
        intro h4 tk4 g4
        replace F1 := F1.keeps g4
        replace N1 := N1.grown g4
        clear g4
        dsimp only
        walk_at "my:steps"
        · refine ⟨?_⟩
          rename ((_ != false) = true) => hb5
          exact CT.intro F1 (newsSub N1 fun p hp => .tail _ hp) (hsn (by simpa using hb5))
        · refine ⟨?_⟩
          rename ((_ != false) = false) => hb5
          exact CT.intro F1 (newsSub N1 fun p hp => .tail _ hp) (hsm (by simpa using hb5))
      · clear F1 N1 R1
        intro ys hj
        intro D h tk F2 N2 o5
        dsimp only
        walk_at "my:steps"
        refine ⟨?_⟩
        rename Fr _ _ _ _ => F2
        rename News _ _ _ _ => N2
        refine ne_intsK (News.isList N2 (.tail _ (.head _))) hj (News.isList N2 (.head _)) .nil (by show un + 64 < cLine; omega) ?_
        rw [show (!decide (List.filter (fun x => takes word [high, x, low]) (rangeKs high (c + 1 - high).toNat) = [])) = decide (((os.idxOf high : Nat) : Int) < ((os.idxOf low : Nat) : Int)) from htold low high hlo.1 hhi.1 hhi.2]
        replace N2 := newsSub N2 fun q hq => .tail _ (.tail _ hq)
        walk_at "my:steps"
        refine ⟨?_⟩
        rename Fr _ _ _ _ => F2
        rename News _ _ _ _ => N2
        have inn : (Do, listOf ovs.toArray ko) ∈ (I1, it1) :: (I, it) :: (155, tabObj ps) :: cellsL L oF oT oLe oLo oH nl := .tail _ (.tail _ (.tail _ (.tail _ (.tail _ (.tail _ (.tail _ (.tail _ hDo)))))))
        refine listMeth (LstAt.news N2 inn) PySem.F.slot_list_index PySem.F.type_list_index ?_
        walk_at "my:steps"
        refine ⟨?_⟩
        refine indexInts (LstAt.news N2 inn) hI (by omega) (hall high (by omega) (by omega)) ?_
        walk_at "my:steps"
        refine ⟨?_⟩
        refine listMeth (LstAt.news N2 inn) PySem.F.slot_list_index PySem.F.type_list_index ?_
        walk_at "my:steps"
        refine ⟨?_⟩
        refine indexInts (LstAt.news N2 inn) hI (by omega) (hall low (by omega) (by omega)) ?_
        walk_at "my:steps"
        · rename ((_ != _) = true) => hb5
          rw [bne_self_eq_false] at hb5
          exact absurd hb5 Bool.false_ne_true
        · refine ⟨?_⟩
          rename Fr _ _ _ _ => F3
          rename News _ _ _ _ => N3
          exact UnrEnd.intro F3 N3 _ (fun q hq => hq) (List.forall_mem_cons.mpr ⟨b0, all_offs ⟨b1, b2, b3, b4, b5, b6, b7⟩⟩) ⟨⟨rfl, rfl, rfl, trivial⟩, oH, _, rfl, dH⟩
end Mine
/- part L9 -/
namespace Mine
local macro_rules | `(tactic| k_all) => `(tactic| assumption)
local macro_rules | `(tactic| walk_at "CT") => `(tactic| refine hold ?_)
local macro_rules | `(tactic| walk_at "my:steps") => `(tactic| repeat' (first | (k_unfold; (try dsimp only)) | walk1 | (dsimp only; walk1)))
local macro_rules | `(tactic| walk_at "compareOp Eq ref ref") => `(tactic| refine hold ?_)
local macro_rules | `(tactic| walk_at "call ref") => `(tactic| refine hold ?_)
local macro_rules | `(tactic| walk_at "eval ListComp") => `(tactic| refine hold ?_)
local macro_rules | `(tactic| walk_at "CompSrc") => `(tactic| refine hold ?_)
set_option maxRecDepth 100000 in
set_option maxHeartbeats 8000000 in
theorem law_9 {w : World} {dp un : Nat} {fr : Option (List Env)} {gd : Option (List Code)} {s : Shared} {p : Program} {loose : List Str} {mean : ExcName → Option Value} {mg mb : Str → Option Value} {Q : Flow → Shared → Prop}
    {B : Heap} {L fa : Addr} {cd : Value} {m : Str → Option Value} {nl : List (Addr × Obj)} {oF oT oLe oLo oH : Obj} {Dw : Addr} {tc tl : Tok} {wvs : List Value} {kw : Nat} {c : Int} {ps : Array Value} {es : List Nat} {word : Str} {j : Nat}
    (X : (hd.heap_39 w.params).In B) (T : Top p loose mean mg mb B) (hroom : dp + 60 < recursionLimit) (hu : un + 400 < cLine)
    (F : Fr B L s.heap m) (N : News B L s.heap ((155, tabObj ps) :: cellsL L oF oT oLe oLo oH nl)) (hm : Has m [(Str.ofString "count", .int c tc), (Str.ofString "twice", .ref Dw)])
    (dLe : oLe.data = .cell (some (.str word tl))) (hw : word.length ≤ 1000)
    (hDw : (Dw, listOf wvs.toArray kw) ∈ nl) (hL : Each (fun a d => LeadIn nl a j d) wvs es) (hes : es.length ≤ 6) (hc : c = 5 ∨ c = 6)
    (hst : straight word c = decide (toInts es = (rangeKs 0 c.toNat).map (· + 1)))
    (ret : ∀ h' tk' , Fr B L h' m → (∃ ps', h'.get? 155 = some (tabObj ps')) → Q (.ret (.bool true)) { s with heap := h', toks := tk' }) :
    wpAny (model Challenge.rw_rw0101_01.row.prog w) (Am dp un fr gd) (execs (lawB.drop 20) (lawE L fa cd)) Q (fun _ _ => False) s := by
  dsimp only [lawB, lawE, lawD, pick, List.drop_succ_cons, List.drop_zero]
  w_top off; revert X; k_fill; intro X
  replace ret : ∀ h' tk' , Fr B L h' (kstB m [(Str.ofString "count", .int c tc), (Str.ofString "twice", .ref Dw)]) → (∃ ps', h'.get? 155 = some (tabObj ps')) → Q (.ret (.bool true)) { s with heap := h', toks := tk' } := fun h' tk' F' hp => ret h' tk' (by rw [hm.view] at F'; exact F') hp
  have inn : ∀ {q : Addr × Obj}, q ∈ nl → q ∈ (155, tabObj ps) :: cellsL L oF oT oLe oLo oH nl := fun hq => .tail _ (.tail _ (.tail _ (.tail _ (.tail _ (.tail _ hq)))))
  replace F := frView F hm
  dsimp only [cellsL] at N
  refine wpAny_execs_cons ?_
  walk_at "my:steps"
  refine ⟨?_⟩
  refine c_straight (p := p) (loose := loose) (mean := mean) (mg := mg) (mb := mb) (X.keeps F.keep) (T.keeps F.keep) (by omega) (by omega) word tl _ hw c hc fun h' tk' g => ?_
  have F2 := F.keeps g
  have N2 := N.grown g
  clear F N g
  walk_at "my:steps"
  refine ⟨?_⟩
  refine c_dots (p := p) (loose := loose) (mean := mean) (mg := mg) (mb := mb) (X.keeps F2.keep) (T.keeps F2.keep) (by omega) (by omega) Dw wvs j es (News.isList N2 (inn hDw)) (hL.leads fun a d x => x.lead fun q hq => (N2 _ (inn hq)).1) (by omega) fun r4 us4 n4 h4 tk4 g4 hr4 hf4 hI4 => ?_
  have N4 := newsAdd F2 N2 g4 hr4 hf4
  have F4 := F2.keeps g4
  clear F2 N2 g4
  walk_at "my:steps"
  refine ⟨?_⟩
  refine LCg.ListComp_U (F₀ := F4) (by rfl) (by decide) (by rfl) (by decide) (by rfl) ?_
  walk_at "my:steps"
  refine ⟨?_⟩
  rename IsRange _ _ _ _ _ _ _ _ => R1
  rename Fr _ _ _ _ => F5
  rename News _ _ _ _ => N5
  refine LCg.CompSrc.range (n := c.toNat) (by rfl) F5 N5 R1 (small_one (by omega) (by omega) (by omega) (by omega)) (by rw [rangeSize_nat]; congr 2; omega) (by rw [sizeLine_eq]; omega) ?_
  intro g
  refine compRest_inv (fun i ys => IntsAre ys ((rangeKs 0 i).map (· + 1))) trivial .nil ?_ ?_
  · rintro i v I oI C oC D m₂ ys h tk E' hi' ⟨ti, rfl⟩ hj hC hx F' N' off ne
    walk_at "my:steps"
    refine ⟨?_⟩
    refine CT.intro F' N' ?_
    rw [show rangeKs 0 (i + 1) = rangeKs 0 i ++ [0 + (i : Int)] by simp [rangeKs, List.range_succ], List.map_append]
    exact ksk_snoc hj
  · intro ys hys
    intro D1 h1 tk1 F6 N6 o1
    clear F5 N5
    dsimp only
    walk_at "my:steps"
    refine ⟨?_⟩
    refine eq_intsK (News.isList N6 (.tail _ (.head _))) hI4 (News.isList N6 (.head _)) hys (by show un + 64 < cLine; omega) ?_
    rw [← hst]
    walk_at "my:steps"
    rw [beq_self_eq_true]
    exact ret h1 tk1 F6 ⟨ps, (N6 _ (.tail _ (.tail _ (.head _)))).1⟩
end Mine
/- part PL2 -/
namespace Mine
/-- the train of the seats -/
noncomputable def trP (ps : List Nat) : List Nat := ps.foldl (fun l p => insN (l.map (· + 1)) p 1) [1]
theorem trP_eq (dl : List Int) (n : Nat) : tr dl n = trP ((List.range n).map (seatOf dl)) := by
  induction n with
  | zero => rfl
  | succ n ih =>
    rw [tr, ih, List.range_succ, List.map_append]
    unfold trP
    rw [List.foldl_append]
    rfl
/-- the same tests with any way of taking -/
noncomputable def quadF (f : List Int → Bool) (size fo th se o : Int) : Bool := !(f [se, th, fo, o]) && (!(f [th, se, fo, o]) || !((rangeKs (fo + 1) (size - fo).toNat).filter fun x => f [th, x, se, fo, o]).isEmpty)
noncomputable def straightF (f : List Int → Bool) (size : Int) : Bool :=
  (rangeKs 4 (size - 3).toNat).all fun fo => (rangeKs 3 (fo - 3).toNat).all fun th => (rangeKs 2 (th - 2).toNat).all fun se => (rangeKs 1 (se - 1).toNat).all fun o => quadF f size fo th se o
theorem straight_eq (word : Str) (size : Int) : straight word size = straightF (takes word) size := rfl
theorem mem_ks {a k : Int} {n : Nat} (h : k ∈ rangeKs a n) : a ≤ k ∧ k < a + n := by
  obtain ⟨i, hi, rfl⟩ := List.mem_map.mp h
  have := List.mem_range.mp hi
  omega
theorem all_congr {α : Type} {f g : α → Bool} : ∀ {l : List α}, (∀ x ∈ l, f x = g x) → l.all f = l.all g
  | [], _ => rfl
  | a :: r, h => by rw [List.all_cons, List.all_cons, h a (.head _), all_congr fun x hx => h x (.tail _ hx)]
theorem filter_congr {α : Type} {f g : α → Bool} : ∀ {l : List α}, (∀ x ∈ l, f x = g x) → l.filter f = l.filter g
  | [], _ => rfl
  | a :: r, h => by rw [List.filter_cons, List.filter_cons, h a (.head _), filter_congr fun x hx => h x (.tail _ hx)]
theorem straightF_congr {f g : List Int → Bool} {size : Int} (hs : size ≤ 6) (h : ∀ cars : List Int, (∀ c ∈ cars, 1 ≤ c ∧ c ≤ 6) → f cars = g cars) : straightF f size = straightF g size := by
  refine all_congr fun fo hfo => all_congr fun th hth => all_congr fun se hse => all_congr fun o ho => ?_
  have h1 := mem_ks hfo
  have h2 := mem_ks hth
  have h3 := mem_ks hse
  have h4 := mem_ks ho
  have b1 : 1 ≤ fo ∧ fo ≤ 6 := by omega
  have b2 : 1 ≤ th ∧ th ≤ 6 := by omega
  have b3 : 1 ≤ se ∧ se ≤ 6 := by omega
  have b4 : 1 ≤ o ∧ o ≤ 6 := by omega
  unfold quadF
  rw [h [se, th, fo, o] (by simp [b1, b2, b3, b4]), h [th, se, fo, o] (by simp [b1, b2, b3, b4]), filter_congr fun x hx => ?_]
  have h5 := mem_ks hx
  have b5 : 1 ≤ x ∧ x ≤ 6 := by omega
  exact h _ (by simp [b1, b2, b3, b4, b5])
/-- a word takes a pattern, told of its cars -/
noncomputable def takesI (ds : List Nat) (cars : List Int) : Bool := subq (cars.map Int.toNat) ds
theorem subq_map (ds : List Nat) : ∀ (cs : List Nat), subq (cs.map (96 + ·)) (ds.map (96 + ·)) = subq cs ds := by
  induction ds with
  | nil => intro cs; cases cs <;> rw [List.map_nil] <;> first | rw [List.map_nil] | (rw [List.map_cons, subq, subq])
  | cons d r ih =>
    intro cs
    cases cs with
    | nil => rw [List.map_nil, subq_nil, subq_nil]
    | cons c cs =>
      rw [List.map_cons, List.map_cons, subq_cons, subq_cons, ih cs]
      have := ih (c :: cs)
      rw [List.map_cons] at this
      rw [this]
      by_cases e : c = d
      · subst e; simp
      · rw [if_neg (by simp; omega), if_neg (by simp; omega)]
theorem takes_I {ds : List Nat} {cars : List Int} (h : ∀ c ∈ cars, 1 ≤ c ∧ c ≤ 6) : takes (lettersOf ds) cars = takesI ds cars := by
  rw [takes_sub]
  unfold takesI
  rw [← subq_map ds (cars.map Int.toNat)]
  congr 1
  unfold codes
  rw [List.map_map]
  refine List.map_congr_left fun c hc => ?_
  have := h c hc
  show (96 + c).toNat = 96 + c.toNat
  omega
noncomputable def toldI (ds : List Nat) (c high low : Int) : List Int := (rangeKs high (c + 1 - high).toNat).filter fun x => takesI ds [high, x, low]
theorem told_I {ds : List Nat} {c high low : Int} (h1 : 1 ≤ low) (h2 : low < high) (h3 : c ≤ 6) : toldBy (lettersOf ds) c high low = toldI ds c high low := by
  refine filter_congr fun x hx => takes_I ?_
  have := mem_ks hx
  have b1 : 1 ≤ low ∧ low ≤ 6 := by omega
  have b2 : 1 ≤ high ∧ high ≤ 6 := by omega
  have b3 : 1 ≤ x ∧ x ≤ 6 := by omega
  simp [b1, b2, b3]
/-- what the law asks, of a train told by its seats -/
noncomputable def good (ps : List Nat) : Bool :=
  let c : Int := (ps.length : Int) + 1
  let ds := trP ps
  let tl := toInts ds
  let o1 := runL ds
  let o2 := runL o1
  ((rangeKs 1 c.toNat).all fun v => decide (v ∈ tl)) &&
  ((List.range ps.length).all fun k => bis (seatsN tl c k) ((tl.idxOf (c - 1 - (k : Int)) : Nat) : Int) == ps.getD k 0) &&
  (toInts o1 == dueN 7 tl) && (toInts o2 == dueN 7 (dueN 7 tl)) &&
  ((rangeKs 1 c.toNat).all fun v => decide (v ∈ toInts o1)) &&
  ((rangeKs 1 c.toNat).all fun low => (rangeKs 1 c.toNat).all fun high => !decide (low < high) || ((!decide (toldI ds c high low = [])) == decide ((((toInts o1).idxOf high : Nat) : Int) < (((toInts o1).idxOf low : Nat) : Int)))) &&
  (straightF (takesI ds) c == decide (toInts o2 = (rangeKs 0 c.toNat).map (· + 1)))
set_option maxRecDepth 100000 in
theorem good4 : ∀ a ∈ List.range 2, ∀ b ∈ List.range 3, ∀ c ∈ List.range 4, ∀ d ∈ List.range 5, good [a, b, c, d] = true := by decide +kernel
end Mine
/- part PL3 -/
namespace Mine
set_option maxRecDepth 100000 in
theorem good5_0_0 : ∀ a ∈ List.range 2, ∀ c ∈ List.range 4, ∀ d ∈ List.range 5, good [a, 0, c, d, 0] = true := by decide +kernel
set_option maxRecDepth 100000 in
theorem good5_0_1 : ∀ a ∈ List.range 2, ∀ c ∈ List.range 4, ∀ d ∈ List.range 5, good [a, 1, c, d, 0] = true := by decide +kernel
set_option maxRecDepth 100000 in
theorem good5_0_2 : ∀ a ∈ List.range 2, ∀ c ∈ List.range 4, ∀ d ∈ List.range 5, good [a, 2, c, d, 0] = true := by decide +kernel
set_option maxRecDepth 100000 in
theorem good5_1_0 : ∀ a ∈ List.range 2, ∀ c ∈ List.range 4, ∀ d ∈ List.range 5, good [a, 0, c, d, 1] = true := by decide +kernel
set_option maxRecDepth 100000 in
theorem good5_1_1 : ∀ a ∈ List.range 2, ∀ c ∈ List.range 4, ∀ d ∈ List.range 5, good [a, 1, c, d, 1] = true := by decide +kernel
set_option maxRecDepth 100000 in
theorem good5_1_2 : ∀ a ∈ List.range 2, ∀ c ∈ List.range 4, ∀ d ∈ List.range 5, good [a, 2, c, d, 1] = true := by decide +kernel
set_option maxRecDepth 100000 in
theorem good5_2_0 : ∀ a ∈ List.range 2, ∀ c ∈ List.range 4, ∀ d ∈ List.range 5, good [a, 0, c, d, 2] = true := by decide +kernel
set_option maxRecDepth 100000 in
theorem good5_2_1 : ∀ a ∈ List.range 2, ∀ c ∈ List.range 4, ∀ d ∈ List.range 5, good [a, 1, c, d, 2] = true := by decide +kernel
set_option maxRecDepth 100000 in
theorem good5_2_2 : ∀ a ∈ List.range 2, ∀ c ∈ List.range 4, ∀ d ∈ List.range 5, good [a, 2, c, d, 2] = true := by decide +kernel
set_option maxRecDepth 100000 in
theorem good5_3_0 : ∀ a ∈ List.range 2, ∀ c ∈ List.range 4, ∀ d ∈ List.range 5, good [a, 0, c, d, 3] = true := by decide +kernel
set_option maxRecDepth 100000 in
theorem good5_3_1 : ∀ a ∈ List.range 2, ∀ c ∈ List.range 4, ∀ d ∈ List.range 5, good [a, 1, c, d, 3] = true := by decide +kernel
set_option maxRecDepth 100000 in
theorem good5_3_2 : ∀ a ∈ List.range 2, ∀ c ∈ List.range 4, ∀ d ∈ List.range 5, good [a, 2, c, d, 3] = true := by decide +kernel
set_option maxRecDepth 100000 in
theorem good5_4_0 : ∀ a ∈ List.range 2, ∀ c ∈ List.range 4, ∀ d ∈ List.range 5, good [a, 0, c, d, 4] = true := by decide +kernel
set_option maxRecDepth 100000 in
theorem good5_4_1 : ∀ a ∈ List.range 2, ∀ c ∈ List.range 4, ∀ d ∈ List.range 5, good [a, 1, c, d, 4] = true := by decide +kernel
set_option maxRecDepth 100000 in
theorem good5_4_2 : ∀ a ∈ List.range 2, ∀ c ∈ List.range 4, ∀ d ∈ List.range 5, good [a, 2, c, d, 4] = true := by decide +kernel
set_option maxRecDepth 100000 in
theorem good5_5_0 : ∀ a ∈ List.range 2, ∀ c ∈ List.range 4, ∀ d ∈ List.range 5, good [a, 0, c, d, 5] = true := by decide +kernel
set_option maxRecDepth 100000 in
theorem good5_5_1 : ∀ a ∈ List.range 2, ∀ c ∈ List.range 4, ∀ d ∈ List.range 5, good [a, 1, c, d, 5] = true := by decide +kernel
set_option maxRecDepth 100000 in
theorem good5_5_2 : ∀ a ∈ List.range 2, ∀ c ∈ List.range 4, ∀ d ∈ List.range 5, good [a, 2, c, d, 5] = true := by decide +kernel
end Mine
/- part PL4 -/
namespace Mine
theorem good5 : ∀ a b c d e : Nat, a < 2 → b < 3 → c < 4 → d < 5 → e < 6 → good [a, b, c, d, e] = true := by
  intro a b c d e ha hb hc hd he
  have A := List.mem_range.mpr ha
  have C := List.mem_range.mpr hc
  have D := List.mem_range.mpr hd
  have eb : b = 0 ∨ b = 1 ∨ b = 2 := by omega
  have ee : e = 0 ∨ e = 1 ∨ e = 2 ∨ e = 3 ∨ e = 4 ∨ e = 5 := by omega
  rcases ee with rfl | rfl | rfl | rfl | rfl | rfl <;> rcases eb with rfl | rfl | rfl
  · exact good5_0_0 a A c C d D
  · exact good5_0_1 a A c C d D
  · exact good5_0_2 a A c C d D
  · exact good5_1_0 a A c C d D
  · exact good5_1_1 a A c C d D
  · exact good5_1_2 a A c C d D
  · exact good5_2_0 a A c C d D
  · exact good5_2_1 a A c C d D
  · exact good5_2_2 a A c C d D
  · exact good5_3_0 a A c C d D
  · exact good5_3_1 a A c C d D
  · exact good5_3_2 a A c C d D
  · exact good5_4_0 a A c C d D
  · exact good5_4_1 a A c C d D
  · exact good5_4_2 a A c C d D
  · exact good5_5_0 a A c C d D
  · exact good5_5_1 a A c C d D
  · exact good5_5_2 a A c C d D
theorem good_seats {dl : List Int} (hn : dl.length = 4 ∨ dl.length = 5) (hb : ∀ x ∈ dl, 0 ≤ x) : good ((List.range dl.length).map (seatOf dl)) = true := by
  have s0 := seat_le hb 0
  have s1 := seat_le hb 1
  have s2 := seat_le hb 2
  have s3 := seat_le hb 3
  have s4 := seat_le hb 4
  rcases hn with h | h
  · rw [h]
    exact good4 (seatOf dl 0) (List.mem_range.mpr (by omega)) (seatOf dl 1) (List.mem_range.mpr (by omega)) (seatOf dl 2) (List.mem_range.mpr (by omega)) (seatOf dl 3) (List.mem_range.mpr (by omega))
  · rw [h]
    exact good5 (seatOf dl 0) (seatOf dl 1) (seatOf dl 2) (seatOf dl 3) (seatOf dl 4) (by omega) (by omega) (by omega) (by omega) (by omega)
theorem ks_mem {a v : Int} {n : Nat} (h1 : a ≤ v) (h2 : v < a + n) : v ∈ rangeKs a n := List.mem_map.mpr ⟨(v - a).toNat, List.mem_range.mpr (by omega), by omega⟩
theorem seat_int {dl : List Int} (hb : ∀ x ∈ dl, 0 ≤ x) (k : Nat) : ((seatOf dl k : Nat) : Int) = Int.fmod (dl.getD k 0) ((k : Int) + 2) := by
  have := seat_eq hb k
  rw [Int.zero_add, Int.toNat_natCast] at this
  exact this.symm
/-- all that the law's walk asks of the numbers -/
theorem law_facts {dl : List Int} {c : Int} {ds : List Nat} (hn : dl.length = 4 ∨ dl.length = 5) (hb : ∀ x ∈ dl, 0 ≤ x) (hc : c = (dl.length : Int) + 1) (hds : ds = tr dl dl.length) :
    (∀ v : Int, 1 ≤ v → v ≤ c → v ∈ toInts ds) ∧
    (∀ k : Nat, k < dl.length → ((bis (seatsN (toInts ds) c k) (((toInts ds).idxOf (c - 1 - (k : Int)) : Nat) : Int) : Nat) : Int) = Int.fmod (dl.getD k 0) ((k : Int) + 2)) ∧
    toInts (runL ds) = dueN 7 (toInts ds) ∧ toInts (runL (runL ds)) = dueN 7 (dueN 7 (toInts ds)) ∧
    (∀ v : Int, 1 ≤ v → v ≤ c → v ∈ toInts (runL ds)) ∧
    (∀ low high : Int, 1 ≤ low → low < high → high ≤ c → (!decide (toldBy (lettersOf ds) c high low = [])) = decide ((((toInts (runL ds)).idxOf high : Nat) : Int) < (((toInts (runL ds)).idxOf low : Nat) : Int))) ∧
    straight (lettersOf ds) c = decide (toInts (runL (runL ds)) = (rangeKs 0 c.toNat).map (· + 1)) := by
  have G := good_seats hn hb
  have hps : ((List.range dl.length).map (seatOf dl)).length = dl.length := by rw [List.length_map, List.length_range]
  unfold good at G
  dsimp only at G
  rw [hps, ← trP_eq, ← hds, ← hc] at G
  simp only [Bool.and_eq_true, List.all_eq_true, decide_eq_true_eq, beq_iff_eq] at G
  obtain ⟨⟨⟨⟨⟨⟨g1, g2⟩, g3⟩, g4⟩, g5⟩, g6⟩, g7⟩ := G
  have hc6 : c ≤ 6 := by omega
  refine ⟨fun v h1 h2 => g1 v (ks_mem h1 (by omega)), fun k hk => ?_, g3, g4, fun v h1 h2 => g5 v (ks_mem h1 (by omega)), fun low high h1 h2 h3 => ?_, ?_⟩
  · rw [g2 k (List.mem_range.mpr hk), ← seat_int hb k]
    congr 1
    rw [List.getD_eq_getElem?_getD, List.getElem?_map, List.getElem?_range hk]
    rfl
  · have := g6 low (ks_mem h1 (by omega)) high (ks_mem (by omega) (by omega))
    rw [told_I h1 h2 hc6]
    simp only [Bool.or_eq_true, Bool.not_eq_true', decide_eq_false_iff_not] at this
    rcases this with q | q
    · exact absurd h2 q
    · exact beq_iff_eq.mp q
  · rw [straight_eq, straightF_congr hc6 fun cars hcars => takes_I hcars, g7]
end Mine
/- part LMain -/
namespace Mine
theorem drawn_len (ns : List Int) : (drawnOf ns).length = 4 ∨ (drawnOf ns).length = 5 := by
  unfold drawnOf
  rw [List.length_map]
  split
  · rw [List.length_take]; omega
  · rw [List.length_append, List.length_drop, show ([5, 12, 2, 9] : List Int).length = 4 from rfl]; omega
theorem drawn_nonneg (ns : List Int) : ∀ x ∈ drawnOf ns, 0 ≤ x := by
  intro x hx
  unfold drawnOf at hx
  obtain ⟨y, _, rfl⟩ := List.mem_map.mp hx
  rw [Int.fmod_eq_emod_of_nonneg _ (by decide)]
  exact Int.emod_nonneg _ (by decide)
set_option maxRecDepth 100000 in
set_option maxHeartbeats 8000000 in
theorem law_body {w : World} {dp un : Nat} {fr : Option (List Env)} {gd : Option (List Code)} {s : Shared} {p : Program} {loose : List Str} {mean : ExcName → Option Value} {mg mb : Str → Option Value} {Q : Flow → Shared → Prop}
    {B : Heap} {L fa : Addr} {cd : Value} {m : Str → Option Value} {oF oT oLe oLo oH : Obj} {a : Addr} {vs : List Value} {ns : List Int} {vF vT vLe vLo vH : Option Value}
    (X : (hd.heap_39 w.params).In B) (T : Top p loose mean mg mb B) (C : CodeHd B 159 155) (hroom : dp + 60 < recursionLimit) (hu : un + 400 < cLine) (hL155 : @LT.lt Nat instLTNat 155 L)
    (F : Fr B L s.heap m) (N : News B L s.heap (cellsL L oF oT oLe oLo oH [(155, tabObj #[])])) (hm : Has m [(Str.ofString "script", .ref a)]) (hl : B.IsList a vs.toArray) (hi : IntsAre vs ns) (hn : ns.length ≤ 63)
    (dF : oF.data = .cell vF) (dT : oT.data = .cell vT) (dLe : oLe.data = .cell vLe) (dLo : oLo.data = .cell vLo) (dH : oH.data = .cell vH)
    (ret : ∀ h' tk' m', Fr B L h' m' → (∃ ps', h'.get? 155 = some (tabObj ps')) → Q (.ret (.bool true)) { s with heap := h', toks := tk' }) :
    wpAny (model Challenge.rw_rw0101_01.row.prog w) (Am dp un fr gd) (execs lawB (lawE L fa cd)) Q (fun _ _ => False) s := by
  have hdl := drawn_len ns
  have hdn := drawn_nonneg ns
  refine law_0 X T hroom hu F N hm hl hi hn fun h0 tk0 m0 D dvs kd F0 hm0 N0 hI0 => ?_
  generalize drawnOf ns = dl at *
  obtain ⟨c, hc⟩ : ∃ c : Int, c = (dl.length : Int) + 1 := ⟨_, rfl⟩
  obtain ⟨ds, hds⟩ : ∃ ds, ds = tr dl dl.length := ⟨_, rfl⟩
  obtain ⟨p1, p2, p3, p4, p5, p6, p7⟩ := law_facts hdl hdn hc hds
  have hlen : ds.length = dl.length + 1 := by rw [hds, tr_len]
  have hrng : ∀ d ∈ ds, 1 ≤ d ∧ d ≤ 6 := fun d hd => by
    have := tr_in dl dl.length d (hds ▸ hd)
    omega
  have hne : ds ≠ [] := fun q => by rw [q] at hlen; cases hlen
  refine law_1 (s := { s with heap := h0, toks := tk0 }) X T hroom hu F0 N0 hm0 hI0 hdl hdn fun h1 tk1 m1 Dt tvs kt K t tc F1 hm1 N1 hI1 hK => ?_
  refine law_2 (s := { s with heap := h1, toks := tk1 }) X T hroom hu F1 N1 hm1 hI1 (by omega) hK fun h2 tk2 m2 t2 F2 hm2 N2 => ?_
  rw [← hds] at hm2 hI1
  rw [← hc] at hm2
  have N2' : News B L h2 (cellsL L oF oT oLe oLo oH [(Dt, listOf tvs.toArray kt), (D, listOf dvs.toArray kd), (155, tabObj #[])]) := newsSub N2 fun q hq => by
    simp only [cellsL, List.mem_cons, List.not_mem_nil, or_false] at hq ⊢
    rcases hq with h | h | h | h | h | h | h | h <;> simp only [h, true_or, or_true]
  have hnc : NoCell [(Dt, listOf tvs.toArray kt), (D, listOf dvs.toArray kd), (155, tabObj #[])] := fun q hq v e => by
    simp only [List.mem_cons, List.not_mem_nil, or_false] at hq
    rcases hq with rfl | rfl | rfl <;> cases e
  have m1 : (Dt, listOf tvs.toArray kt) ∈ [(Dt, listOf tvs.toArray kt), (D, listOf dvs.toArray kd), (155, tabObj #[])] := .head _
  have m2' : (D, listOf dvs.toArray kd) ∈ [(Dt, listOf tvs.toArray kt), (D, listOf dvs.toArray kd), (155, tabObj #[])] := .tail _ (.head _)
  have m3 : ((155 : Addr), tabObj #[]) ∈ [(Dt, listOf tvs.toArray kt), (D, listOf dvs.toArray kd), (155, tabObj #[])] := .tail _ (.tail _ (.head _))
  generalize [(Dt, listOf tvs.toArray kt), (D, listOf dvs.toArray kd), ((155 : Addr), tabObj #[])] = nl0 at N2' hnc m1 m2' m3
  clear N N0 N1 N2
  refine law_3a (s := { s with heap := h2, toks := tk2 }) X T hroom hu F2 N2' hm2 hl hi hn hnc dF dT dLe dLo dH fun h3 tk3 m3' oF3 oT3 aT tv j tF F3 hm3 N3 hj dF3 dT3 hTi htk => ?_
  have hnc3 : NoCell ((aT, ({ cls := .type "tuple", data := .seq tv } : Obj)) :: nl0) := hnc.cons fun v e => by cases e
  refine law_3b (s := { s with heap := h3, toks := tk3 }) X T hroom hu F3 N3 hm3 hnc3 hrng hne (by omega) hj dF3 dT3 dLe dLo dH fun h4 tk4 m4 nl4 lvs kl Dl F4 hm4 N4 hnc4 hs4 hDl hL4 => ?_
  have g4 : ∀ q ∈ nl0, q ∈ nl4 := fun q hq => hs4 q (.tail _ hq)
  refine law_4 (s := { s with heap := h4, toks := tk4 }) X T hroom hu F4 N4 hm4 (by omega) dT3 (hs4 _ (.head _)) hTi hDl hL4 (g4 _ m1) hI1 fun h5 tk5 m5 F5 hm5 N5 => ?_
  refine law_5 (s := { s with heap := h5, toks := tk5 }) X T hroom hu F5 N5 hm5 hdl hc (g4 _ m1) hI1 (g4 _ m2') hI0 (by rw [toInts_len]; omega) p1 p2 fun h6 tk6 m6 F6 hm6 N6 => ?_
  have all6 : ∀ q ∈ nl4, h6.get? q.1 = some q.2 := fun q hq => (N6 q (.tail _ (.tail _ (.tail _ (.tail _ (.tail _ hq)))))).1
  have h155 := all6 _ (g4 _ m3)
  obtain ⟨nl6, hs6, ho6⟩ : ∃ nl6 : List (Addr × Obj), (∀ q, q ∈ nl6 ↔ q ∈ nl4 ∧ @Ne Nat q.1 155) ∧ Off155 nl6 := ⟨nl4.filter fun q => decide (@Ne Nat q.1 155), fun q => by rw [List.mem_filter, decide_eq_true_eq], fun q hq => by simpa using (List.mem_filter.mp hq).2⟩
  have keep6 : ∀ {b : Addr} {o : Obj}, (b, o) ∈ nl4 → o.cls ≠ .none → (b, o) ∈ nl6 := fun hm hc => (hs6 _).mpr ⟨hm, fun e => by
    have h1 := all6 _ hm
    dsimp only at e h1
    rw [e, h155] at h1
    exact hc (by rw [← Option.some.inj h1])⟩
  have N6' : News B L h6 ((155, tabObj #[]) :: cellsL L oF3 oT3 oLe oLo oH nl6) := newsSub N6 fun q hq => by
    rcases List.mem_cons.mp hq with rfl | hq
    · exact .tail _ (.tail _ (.tail _ (.tail _ (.tail _ (g4 _ m3)))))
    · exact cells_mono (fun q hq => ((hs6 q).mp hq).1) q hq
  have hnc6 : NoCell nl6 := fun q hq => hnc4 q ((hs6 q).mp hq).1
  have off6 : Off155 (cellsL L oF3 oT3 oLe oLo oH nl6) := fun q hq => by
    simp only [cellsL, List.mem_cons] at hq
    rcases hq with rfl | rfl | rfl | rfl | rfl | hq
    · show @Ne Nat _ 155; omega
    · show @Ne Nat _ 155; omega
    · show @Ne Nat _ 155; omega
    · show @Ne Nat _ 155; omega
    · show @Ne Nat _ 155; omega
    · exact ho6 q hq
  have hL6 : Each (fun a d => LeadIn nl6 a j d) lvs ds := hL4.each.mono fun a d x => x.off all6 h155 fun q hq hne => (hs6 q).mpr ⟨hq, hne⟩
  refine law_6 (s := { s with heap := h6, toks := tk6 }) X T C hroom hu F6 N6' hm6 hnc6 off6 (.inl rfl) (keep6 (g4 _ m1) (by simp)) hI1 (keep6 hDl (by simp)) hL6 (by omega) p3 p4 fun h7 tk7 m7 ps7 nl7 Dw wvs kw Do ovs ko F7 hm7 N7 hnc7 hs7 hDw hLw hDo hIo => ?_
  refine law_7 (s := { s with heap := h7, toks := tk7 }) X T hroom hu hL155 F7 N7 hm7 hnc7 dF3 dT3 dLe dLo dH (hs7 _ (keep6 (g4 _ m1) (by simp))) hI1 (by omega) hrng fun h8 tk8 m8 oLe8 t8 F8 hm8 N8 dLe8 => ?_
  have hw : (lettersOf ds).length ≤ 1000 := by
    unfold lettersOf
    rw [len_mk, List.length_map]; omega
  have hr1 : (runL ds).length ≤ 6 := by rw [runL_len]; omega
  refine law_8 (s := { s with heap := h8, toks := tk8 }) X T hroom hu hL155 F8 N8 hm8 hnc7 dF3 dT3 dLe8 dLo dH hw hDo hIo (by rw [toInts_len]; exact hr1) (by omega) p5 p6 fun h9 tk9 m9 oLo9 oH9 F9 hm9 N9 => ?_
  exact law_9 (s := { s with heap := h9, toks := tk9 }) X T hroom hu F9 N9 hm9 dLe8 hw hDw hLw (by rw [runL_len]; exact hr1) (by omega) p7 fun h' tk' F' hp => ret h' tk' m9 F' hp
end Mine
/- part LTop -/
namespace Mine
theorem post_true (args ds : List WData) : PySem.Challenge.rw_rw0101_01.row.claim.post args (.bool true) ds = true := by
  show (WShape.has [] (WData.bool true) .bool && WTm.holds [] (.eq .res (.lit (.bool true))) { args := args, res := some (.bool true), after := ds }) = true
  rw [holdsW_of_value (X := true) (by simp only [WTm.value]; exact congrArg (fun b => some (WData.bool b)) (PySem.W.same_self (.bool true)))]
  decide +kernel
set_option maxRecDepth 100000 in
set_option maxHeartbeats 8000000 in
theorem law_holds : PySem.Challenge.rw_rw0101_01.Holds := hd (by
  k_go0
  · rename Fr _ _ _ _ => F
    rename News _ _ _ _ => N
    rename Frag.In _ _ => X
    rename Top topProg _ _ _ _ _ => T
    rename IntsAre _ _ => hi
    rename (ghostOf _ _).IsList _ _ => hl
    refine wpAny_mono (law_body X T codeHd ?hroom ?hu ?hL F N ?hm hl hi ?hn (by assumption) (by assumption) (by assumption) (by assumption) (by assumption) ?ret) (fun _ _ x => x) (fun _ _ x => x.elim)
    case hroom => k_room
    case hu => decide
    case hL => assumption
    case hm => exact ⟨rfl, trivial⟩
    case hn => omega
    case ret =>
      intro h' tk' m' F' hp
      refine ⟨?_, hp, trivial⟩
      refine ⟨.inl ⟨.bool true, .bool true, [], rfl, fun _ => rfl, ?_, ?_, ?_⟩, F'.keep, rfl, by assumption⟩
      · exact .bool true
      · exact post_true _ _
      · exact fun _ => ⟨List.nodup_nil, fun _ h => nomatch h⟩)
end Mine
set_option maxRecDepth 100000 in
set_option maxHeartbeats 8000000 in
theorem PySem.Challenge.cw_rw0101_01_holds : PySem.Challenge.rw_rw0101_01.Holds :=
  Mine.law_holds

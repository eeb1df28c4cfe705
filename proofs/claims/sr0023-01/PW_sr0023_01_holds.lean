import PyProof.Rows.All
import Wide.All
import OpenK.AllK
import Wide.FinOn
import PySem.Challenge.RW_sr0023_01
set_option hygiene false
set_option Elab.async false
set_option linter.all false
set_option compiler.extract_closed false
local macro_rules | `(tactic| omega) => `(tactic| (first | (with_reducible assumption) | (with_reducible refine Ne.symm ?_; with_reducible assumption) | (omega -splitDisjunctions) | ((repeat (with_reducible rename _ ∧ _ => kcH; clear kcH)); (repeat (with_reducible rename _ ≠ _ => kcH; clear kcH)); omega +splitDisjunctions) | ((repeat (with_reducible rename _ ∧ _ => kcH; rcases kcH with ⟨_, _⟩)); first | (with_reducible assumption) | (with_reducible refine Ne.symm ?_; with_reducible assumption))))
section -- H1
open PySem PySem.W PyProof.Rows
set_option maxRecDepth 100000
set_option maxHeartbeats 8000000
namespace Mine
open_top hd for PySem.Challenge.rw_sr0023_01
end Mine
end
section -- P0
open PySem PySem.W PyProof.Rows PySem.Calls
set_option maxRecDepth 100000
set_option maxHeartbeats 8000000
namespace Mine

noncomputable abbrev Prg : Program := PySem.Challenge.rw_sr0023_01.row.prog

/-- everything that stood still stands -/
noncomputable def Ext (h h' : Heap) : Prop := ∀ b o, h.get? b = some o → h'.get? b = some o

theorem Ext.refl (h : Heap) : Ext h h := fun _ _ e => e
theorem Ext.trans {h₁ h₂ h₃ : Heap} (a : Ext h₁ h₂) (b : Ext h₂ h₃) : Ext h₁ h₃ := fun x o e => b x o (a x o e)

noncomputable abbrev wants' (Q E : Value → Shared → Prop) : Result → Shared → Prop := fun r s' => match r with | .ok (.ret v) => Q v s' | .ok _ => False | .error e => E e s'

/-- a plain def, entered at any heap: nothing is hidden -/
theorem enterX {K : Frag} {p : Program} {loose : List Str} {mean : ExcName → Option Value} {mg mb : Str → Option Value} {prog : Program} {w : World} {A : Around} {s : Shared}
    {R : Result → Shared → Prop} {name qual : Str} {params : Arguments} {body : List Stmt} {scope : Scope} {dV kV doc pm cdv ct oc : Value} {an od : Option Addr} {osl : Array (Option Value)} {f : Addr} {args : Args} {binds : List (Str × Value)}
    (X : K.In s.heap := by assumption) (T : Top p loose mean mg mb s.heap := by assumption)
    (ho : K.lookup f = some ⟨oc, od, .func (fnOf name qual params body scope dV kV doc pm an cdv ct), osl⟩ := by k_is) (hcd : codeIn K cdv qual = true := by k_is) (hroom : A.depth < recursionLimit := by ktr_room)
    (hbind : BindsTo s (fnOf name qual params body scope dV kV doc pm an cdv ct) args binds := by first | exact BindsTo.of_eq rfl | (refine' kp_binds (by assumption) (by exact fun _ => rfl))) (hloc : ∀ y ∈ binds, scope.names.lookup y.1 = some .local := by exact locs rfl)
    (h : ∀ L' h₁, Fr s.heap L' h₁ (fun y => binds.reverse.lookup y) → News s.heap L' h₁ [] →
      wpAny (model prog w) (A.deeper (envOf qual scope L' f cdv)) (execs body (envOf qual scope L' f cdv))
        (fun fl s' => R (.ok (.ret (match fl with | .ret v => v | _ => .none))) s')
        (fun _ _ => False)
        { s with heap := h₁, toks := s.toks + binds.length })
    (hco : scope.isCoroutine = false := by exact rfl) (hgen : scope.isGenerator = false := by exact rfl) (hk : scope.kind = .function := by exact rfl)
    (hcell : ∀ x ∈ scope.names, x.2 ≠ .cell := by decide) : codeAny (model prog w) A (.call (.ref f) args) R s :=
  codeAny_call_def (fd := fnOf name qual params body scope dV kV doc pm an cdv ct) (body := body) (binds := binds) hroom (X _ _ ho) rfl T.nolimit (codeRec_of X hcd) rfl hbind hcell hloc
    (fun h₁ hns hk₁ => wpAny_mono (h s.heap.objs.size h₁ ⟨hns, hk₁, Nat.le_refl _⟩ News.nil) (fun _ _ x => x) (fun _ _ x => x.elim)) hco hgen hk

/-- the same, with some objects that the body may change -/
theorem enterM {K : Frag} {p : Program} {loose : List Str} {mean : ExcName → Option Value} {mg mb : Str → Option Value} {prog : Program} {w : World} {A : Around} {s : Shared}
    {R : Result → Shared → Prop} {name qual : Str} {params : Arguments} {body : List Stmt} {scope : Scope} {dV kV doc pm cdv ct oc : Value} {an od : Option Addr} {osl : Array (Option Value)} {f : Addr} {args : Args} {binds : List (Str × Value)}
    (g : Heap) (news : List (Addr × Obj)) (hg : Ext g s.heap) (hgs : g.objs.size = s.heap.objs.size) (hN : ∀ q ∈ news, s.heap.get? q.1 = some q.2 ∧ g.get? q.1 = none)
    (X : K.In g) (T : Top p loose mean mg mb g)
    (ho : K.lookup f = some ⟨oc, od, .func (fnOf name qual params body scope dV kV doc pm an cdv ct), osl⟩) (hcd : codeIn K cdv qual = true) (hroom : A.depth < recursionLimit)
    (hbind : BindsTo s (fnOf name qual params body scope dV kV doc pm an cdv ct) args binds) (hloc : ∀ y ∈ binds, scope.names.lookup y.1 = some .local)
    (h : ∀ L' h₁, Fr g L' h₁ (fun y => binds.reverse.lookup y) → News g L' h₁ news →
      wpAny (model prog w) (A.deeper (envOf qual scope L' f cdv)) (execs body (envOf qual scope L' f cdv))
        (fun fl s' => R (.ok (.ret (match fl with | .ret v => v | _ => .none))) s')
        (fun _ _ => False)
        { s with heap := h₁, toks := s.toks + binds.length })
    (hco : scope.isCoroutine = false) (hgen : scope.isGenerator = false) (hk : scope.kind = .function)
    (hcell : ∀ x ∈ scope.names, x.2 ≠ .cell) : codeAny (model prog w) A (.call (.ref f) args) R s :=
  codeAny_call_def (fd := fnOf name qual params body scope dV kV doc pm an cdv ct) (body := body) (binds := binds) hroom (hg _ _ (X _ _ ho)) rfl (T.nolimit.keeps hg) (codeRec_of (X.keeps hg) hcd) rfl hbind hcell hloc
    (fun h₁ hns hk₁ => wpAny_mono (h s.heap.objs.size h₁ ⟨hns, fun b o e => hk₁ b o (hg b o e), Nat.le_of_eq hgs⟩
      (fun q hq => ⟨hk₁ _ _ (hN q hq).1, Nat.ne_of_lt (Heap.lt_size (hN q hq).1), (hN q hq).2⟩)) (fun _ _ x => x) (fun _ _ x => x.elim)) hco hgen hk
/-- the walker stops here -/
noncomputable def Hold (P : Prop) : Prop := P
theorem Hold.of {P : Prop} (h : P) : Hold P := h

noncomputable abbrev Inv := Nat → (Str → Option Value) → List (Addr × Obj) → Prop
/-- names the invariant of the next loop -/
structure UseW (J : Inv) : Prop where
structure UseF (J : Inv) (n : Nat) : Prop where

section
variable {prog : Program} {w : World} {A : Around} {E : Value → Shared → Prop} {Q : Flow → Shared → Prop} {s : Shared} {env : Env} {h₀ : Heap} {L : Addr}

theorem While_mark {J : Inv} {test : Expr} {body : List Stmt} {pos : Pos} {m : Str → Option Value} {news : List (Addr × Obj)} (_ : UseW J)
    (F : Fr h₀ L s.heap m) (N : News h₀ L s.heap news) (hE : PassesOwn (model prog w) A env E) (hJ : Hold (∃ n₀, J n₀ m news))
    (turn : Hold (∀ n m₁ news₁ h₁ tk₁, Fr h₀ L h₁ m₁ → News h₀ L h₁ news₁ → J n m₁ news₁ →
      wpAny (model prog w) A (isTrue test env (eval test env)) (fun b s₂ =>
        if b = true then wpAny (model prog w) A (execs body env) (WhileStep h₀ L s J n) E s₂ else Q .next s₂) E { s with heap := h₁, toks := tk₁ })) :
    wpAny (model prog w) A (exec (.While test body [] pos) env) Q E s := by
  obtain ⟨n₀, hJ⟩ := hJ
  exact While_inv J F N hJ turn hE

theorem for_range {J : Inv} {x : Str} {body : List Stmt} {r : Addr} {a₀ b₀ c : Int} {t₀ u₀ v₀ : Tok} {n : Nat} {m₀ : Str → Option Value} {news : List (Addr × Obj)} (_ : UseF J n)
    (hh : A.handled = none) (hr : IsRange s.heap r a₀ b₀ c t₀ u₀ v₀) (hsmall : Hold (Builtin.Range.small a₀ b₀ c = true)) (hn : Hold (Builtin.Range.rangeSize a₀ b₀ c = (n : Int))) (F : Fr h₀ env.locals s.heap m₀) (N : News h₀ env.locals s.heap news)
    (hJ : Hold (J 0 m₀ news))
    (turn : Hold (∀ i t m₁ news₁ h tk I it, i < n → J i m₁ news₁ → (∀ p ∈ news₁, p.1 ≠ I) → Fr h₀ env.locals h (fun y => if y = x then some (.int (a₀ + (i : Int) * c) t) else m₁ y) → News h₀ env.locals h ((I, it) :: news₁) →
      wpAny (model prog w) A (execs body env) (UnrPost h₀ env.locals { s with heap := h, toks := tk } I it (J (i + 1)) Q) E { s with heap := h, toks := tk }))
    (done : Hold (∀ m₁ news₁ h tk, J n m₁ news₁ → Fr h₀ env.locals h m₁ → News h₀ env.locals h news₁ → Q .next { s with heap := h, toks := tk })) :
    wpAny (model prog w) A (pyIter (.ref r)) (fun it s₂ => LoopAtV prog w A h₀ env x body Q E it s₂) E s := by
  refine wpAny_pyIter_range hr hsmall ?_
  have W : Walks prog w A s.heap.objs.size [s.heap.objs.size] [s.heap.objs.size] n (fun i v => i < n ∧ ∃ t, v = .int (a₀ + i * c) t)
      (fun i h => IsRangeIter h s.heap.objs.size (a₀ + (i : Nat) * c) ((n : Int) - (i : Nat)) c) := (Walks.range hh _ a₀ c n).bound
  have hnew := next_is_new F
  have hn' : Builtin.Range.rangeSize a₀ b₀ c = (n : Int) := hn
  refine ⟨_, _, _, n, _, _, m₀, news, J, rfl, W, ?_, ?_, ?_, (by show IsRangeIter _ _ _ _ _; rw [hn']; simpa using Heap.get?_push_size _ rfl), F.push _, (fun p hp => ⟨Heap.get?_push_of_some _ (N p hp).1, (N p hp).2⟩), hJ, ?_, ?_⟩
  · intro hm
    exact absurd F.ns.lt ((List.mem_singleton.mp hm) ▸ Nat.lt_irrefl _)
  · intro b hb
    rw [List.mem_singleton.mp hb]
    exact hnew
  · intro p hp hI
    exact absurd (Heap.lt_size (N p hp).1) ((List.mem_singleton.mp hI) ▸ Nat.lt_irrefl _)
  · rintro i v m₁ news₁ s₁ own ⟨hh', tk', rfl⟩ hin ⟨_, t, rfl⟩ hJ₁ hoff hown hget hall hst F₁ N₁
    have hst' : hh'.get? s.heap.objs.size = some (krsIt (a₀ + ((i + 1 : Nat) : Int) * c) ((n : Int) - ((i + 1 : Nat) : Int)) c) := hst
    have hmem := hall s.heap.objs.size (List.mem_singleton.mpr rfl) hnew _ hst'
    have N₂ : News h₀ env.locals hh' ((s.heap.objs.size, krsIt (a₀ + ((i + 1 : Nat) : Int) * c) ((n : Int) - ((i + 1 : Nat) : Int)) c) :: news₁) := fun p hp => by
      rcases List.mem_cons.mp hp with rfl | hp
      · exact N₁ _ (List.mem_append_left _ hmem)
      · exact N₁ _ (List.mem_append_right _ hp)
    have off1 : ∀ p ∈ news₁, p.1 ≠ s.heap.objs.size := fun p hp e => hoff p hp (List.mem_singleton.mpr e)
    refine wpAny_mono (turn i t m₁ news₁ hh' tk' _ _ hin hJ₁ off1 F₁ N₂) (fun f s₂ p => ?_) fun _ _ e => e
    have fin : UnrEnd h₀ env.locals { s with heap := hh', toks := tk' } s.heap.objs.size (krsIt (a₀ + ((i + 1 : Nat) : Int) * c) ((n : Int) - ((i + 1 : Nat) : Int)) c) (J (i + 1)) s₂ →
        LoopStepU h₀ env.locals [s.heap.objs.size] own (J (i + 1)) { s with heap := hh', toks := tk' } .next s₂ := by
      rintro ⟨h', tk, m', news', e, F', N', ho, r⟩
      refine ⟨rfl, h', tk, m', news', e, F', fun p hp => ?_, fun p hp hI => ho p hp (List.mem_singleton.mp hI), r⟩
      rcases List.mem_append.mp hp with hp | hp
      · have h1 : p.1 = s.heap.objs.size := List.mem_singleton.mp (hown p hp)
        have h2 : hh'.get? p.1 = some p.2 := hget p hp
        have h3 : p = (s.heap.objs.size, krsIt (a₀ + ((i + 1 : Nat) : Int) * c) ((n : Int) - ((i + 1 : Nat) : Int)) c) := by
          rw [h1, hst'] at h2
          exact Prod.ext h1 (Option.some.inj h2).symm
        rw [h3]; exact N' _ (List.mem_cons_self ..)
      · exact N' _ (List.mem_cons_of_mem _ hp)
    cases f with
    | ret v => exact .ret p
    | brk => exact .brk p
    | next => exact .next (fin p)
    | cont => exact .cont (fin p)
  · rintro h' tk m' news' F' N' _ hJ'
    exact done m' news' h' tk hJ' F' N'
end
noncomputable def seen : List (Str × Value) → (Str → Option Value) → Str → Option Value
  | [], m => m
  | p :: r, m => fun y => if y = p.1 then some p.2 else seen r m y
theorem seen_eq {m : Str → Option Value} : ∀ l : List (Str × Value), (∀ p ∈ l, m p.1 = some p.2) → seen l m = m
  | [], _ => rfl
  | p :: r, h => by
    funext y
    have ih := seen_eq (m := m) r fun q hq => h q (List.mem_cons_of_mem _ hq)
    show (if y = p.1 then some p.2 else seen r m y) = m y
    rw [ih]
    by_cases e : y = p.1
    · rw [if_pos e, e]; exact (h p List.mem_cons_self).symm
    · rw [if_neg e]
theorem frSeen {h₀ h : Heap} {L : Addr} {m : Str → Option Value} (F : Fr h₀ L h m) (l : List (Str × Value)) (hl : ∀ p ∈ l, m p.1 = some p.2) : Fr h₀ L h (seen l m) := by
  rw [seen_eq l hl]; exact F
theorem rg_down_size (a b : Int) (n : Nat) (h : a - b = (n : Int) ∨ (n = 0 ∧ a ≤ b)) : Builtin.Range.rangeSize a b (-1) = (n : Int) := by
  unfold Builtin.Range.rangeSize
  rw [if_neg (by decide)]
  rcases h with h | ⟨rfl, h⟩
  · by_cases q : a > b
    · rw [if_pos q]
      have : a - b - 1 = (n : Int) - 1 := by omega
      rw [this]
      show ((n : Int) - 1) / 1 + 1 = _
      rw [Int.ediv_one]; omega
    · rw [if_neg q]; omega
  · rw [if_neg (by omega)]; rfl
theorem rg_small (a b c : Int) (ha : -(2 ^ 62) ≤ a) (ha' : a < 2 ^ 62) (hb : -(2 ^ 62) ≤ b) (hb' : b < 2 ^ 62) (hc : c = 1 ∨ c = -1) : Builtin.Range.small a b c = true := by
  rcases hc with rfl | rfl
  · exact small_one ha ha' hb hb'
  · have hs : Builtin.Range.rangeSize a b (-1) = ((a - b).toNat : Int) := rg_down_size a b _ (by omega)
    unfold Builtin.Range.small
    rw [hs]
    simp only [Builtin.Range.rangeFitsLong, Bool.and_eq_true, Bool.or_eq_true, decide_eq_true_eq, beq_iff_eq, show ¬ ((-1 : Int) > 0) by decide, if_false]
    omega
/-- a def with cells, entered at any heap -/
theorem enterC {K : Frag} {p : Program} {loose : List Str} {mean : ExcName → Option Value} {mg mb : Str → Option Value} {prog : Program} {w : World} {A : Around} {s : Shared}
    {R : Result → Shared → Prop} {name qual : Str} {params : Arguments} {body : List Stmt} {scope : Scope} {dV kV doc pm cdv ct oc : Value} {an od : Option Addr} {osl : Array (Option Value)} {f : Addr} {args : Args} {binds : List (Str × Value)}
    (X : K.In s.heap := by assumption) (T : Top p loose mean mg mb s.heap := by assumption)
    (ho : K.lookup f = some ⟨oc, od, .func (fnOf name qual params body scope dV kV doc pm an cdv ct), osl⟩ := by k_is) (hcd : codeIn K cdv qual = true := by k_is) (hroom : A.depth < recursionLimit := by ktr_room)
    (hbind : BindsTo s (fnOf name qual params body scope dV kV doc pm an cdv ct) args binds := by first | exact BindsTo.of_eq rfl | (refine' kp_binds (by assumption) (by exact fun _ => rfl))) (hkind : (binds.all fun y => scope.names.lookup y.1 == some .local || scope.names.lookup y.1 == some .cell) = true := by exact rfl)
    (hnd : ((cellsFrom 0 scope.names []).map (·.1)).Nodup := by decide +kernel)
    (h : ∀ L' h₁ tk cells, Fr s.heap L' h₁ (bindL (envOfC qual scope L' f cdv).kindOf binds fun _ => none) → News s.heap L' h₁ (cells ++ []) →
      CellsAre (bindC (envOfC qual scope L' f cdv).kindOf binds fun _ => none) (cellsFrom (L' + 1) scope.names []) cells →
      wpAny (model prog w) (A.deeper (envOfC qual scope L' f cdv)) (execs body (envOfC qual scope L' f cdv))
        (fun fl s' => R (.ok (.ret (match fl with | .ret v => v | _ => .none))) s')
        (fun _ _ => False)
        { s with heap := h₁, toks := tk })
    (hco : scope.isCoroutine = false := by exact rfl) (hgen : scope.isGenerator = false := by exact rfl) (hk : scope.kind = .function := by exact rfl) : codeAny (model prog w) A (.call (.ref f) args) R s := by
  refine codeAny_call_function (fd := fnOf name qual params body scope dV kV doc pm an cdv ct) (body := body) hroom (X _ _ ho) rfl hco hgen rfl (codeRec_of X hcd) (hbind _ _ _ _ ?_)
  refine wpAny_newFunctionEnv_cells hk (kindsX hkind _) fun env' he s' x => ?_
  subst he
  refine ⟨T.nolimit.keeps x.toInCall.keep, codeAny_func ?_⟩
  obtain ⟨h₁, tk, rfl, _⟩ := x.done
  have hk₁ := x.toInCall.keep
  obtain ⟨cells, NC, Y⟩ := Cl.news (h₀ := s.heap) (Nat.le_refl _) fun n c hm => ⟨x.cell n c (lookup_of_mem_nodup (cellsFrom_names scope.names 0 (s.heap.objs.size + 1) [] [] rfl ▸ hnd) hm), x.above n c hm⟩
  refine wpAny_mono (h s.heap.objs.size h₁ tk cells ⟨x.toInCall.ns, hk₁, Nat.le_refl _⟩ (fun p hp => ?_) Y) (fun fl s' hl => hl) fun _ _ y => y.elim
  rw [List.append_nil] at hp
  exact NC p hp
theorem Hold.out {P : Prop} (h : Hold P) : P := h
/-- comprehensions stop at their turns -/
structure UseC : Prop where
structure UseA : Prop where
section
open LCg LCt
variable {prog : Program} {w : World} {A : Around} {s : Shared} {h₀ : Heap} {L : Addr} {m : Str → Option Value} {env : Env}
theorem compEnd_mono {s₁ : Shared} {I C D : Addr} {oI oC oD : Obj} {S : List (Addr × Obj) → Prop} {r r' : Value → List (Addr × Obj) → Prop} {y : Value} {s₂ : Shared} (hr : ∀ y n, r y n → r' y n)
    (h : CompEnd h₀ L m s₁ I oI C oC D oD S r y s₂) : CompEnd h₀ L m s₁ I oI C oC D oD S r' y s₂ := by
  obtain ⟨h', tk, news', e, F, N, o, hS, q⟩ := h
  exact ⟨h', tk, news', e, F, N, o, hS, hr _ _ q⟩
theorem compT_ind {ct elt : Expr} {x : Str} {scope : Scope} {cl : List (Str × Addr)} {S : List (Addr × Obj) → Prop} {P : Nat → Value → Prop} {Fin : List Value → List (Addr × Obj) → Prop} {n : Nat}
    (J : Nat → List Value → List (Addr × Obj) → Prop)
    (fin : ∀ ys news, J n ys news → Fin ys news)
    (step : ∀ i ys news v I oI C oC D m₂ h tk (E' : Value → Shared → Prop), i < n → J i ys news → P i v → NsObj oC m₂ → m₂ x = some v → Fr h₀ L h m → News h₀ L h ((I, oI) :: (C, oC) :: (D, lst ys) :: news) → Off3 I C D news → ((@Ne Nat I C) ∧ (@Ne Nat I D) ∧ (@Ne Nat C D)) →
      wpAny (model prog w) A (isTrue ct (compEnvC scope cl C env) (eval ct (compEnvC scope cl C env))) (fun ok s' => if ok = true then
        wpAny (model prog w) A (eval elt (compEnvC scope cl C env)) (CompEnd h₀ L m { s with heap := h, toks := tk } I oI C oC D (lst ys) S (fun y news' => J (i + 1) (ys ++ [y]) news')) E' s'
        else CompEnd h₀ L m { s with heap := h, toks := tk } I oI C oC D (lst ys) S (fun _ news' => J (i + 1) ys news') Value.none s') E' { s with heap := h, toks := tk }) :
    ∀ k i ys news, i + k = n → J i ys news → CompRestT prog w A h₀ L m env ct elt x scope cl s S P Fin k i ys news
  | 0, i, ys, news, e, hJ => CompRestT.zero (fin ys news (by rw [show n = i by omega]; exact hJ))
  | k + 1, i, ys, news, e, hJ => CompRestT.succ fun v I oI C oC D m₂ h tk E' hv hC hx F N off ne =>
    wpAny_mono (step i ys news v I oI C oC D m₂ h tk E' (by omega) hJ hv hC hx F N off ne) (fun ok s' q => by
      cases ok with
      | true =>
        simp only [if_true] at q ⊢
        exact wpAny_mono q (fun y s'' q' => compEnd_mono (fun y n' hj => compT_ind J fin step k (i + 1) _ n' (by omega) hj) q') fun _ _ e => e
      | false =>
        simp only [Bool.false_eq_true, if_false] at q ⊢
        exact compEnd_mono (fun y n' hj => compT_ind J fin step k (i + 1) _ n' (by omega) hj) q) fun _ _ e => e
theorem compU_ind {elt : Expr} {x : Str} {scope : Scope} {cl : List (Str × Addr)} {S : List (Addr × Obj) → Prop} {P : Nat → Value → Prop} {Fin : List Value → List (Addr × Obj) → Prop} {n : Nat}
    (J : Nat → List Value → List (Addr × Obj) → Prop)
    (fin : ∀ ys news, J n ys news → Fin ys news)
    (step : ∀ i ys news v I oI C oC D m₂ h tk (E' : Value → Shared → Prop), i < n → J i ys news → P i v → NsObj oC m₂ → m₂ x = some v → Fr h₀ L h m → News h₀ L h ((I, oI) :: (C, oC) :: (D, lst ys) :: news) → Off3 I C D news → ((@Ne Nat I C) ∧ (@Ne Nat I D) ∧ (@Ne Nat C D)) →
      wpAny (model prog w) A (eval elt (compEnvC scope cl C env)) (CompEnd h₀ L m { s with heap := h, toks := tk } I oI C oC D (lst ys) S (fun y news' => J (i + 1) (ys ++ [y]) news')) E' { s with heap := h, toks := tk }) :
    ∀ k i ys news, i + k = n → J i ys news → CompRest prog w A h₀ L m env elt x scope cl s S P Fin k i ys news
  | 0, i, ys, news, e, hJ => CompRest.zero (fin ys news (by rw [show n = i by omega]; exact hJ))
  | k + 1, i, ys, news, e, hJ => CompRest.succ fun v I oI C oC D m₂ h tk E' hv hC hx F N off ne =>
    wpAny_mono (step i ys news v I oI C oC D m₂ h tk E' (by omega) hJ hv hC hx F N off ne) (fun y s' q => compEnd_mono (fun y n' hj => compU_ind J fin step k (i + 1) _ n' (by omega) hj) q) fun _ _ e => e
end
section
open LCg LCt
variable {prog : Program} {w : World} {A : Around} {s : Shared} {h₀ : Heap} {L : Addr} {m : Str → Option Value} {env : Env}
theorem compT_c {ct elt : Expr} {x : Str} {scope : Scope} {cl : List (Str × Addr)} {S : List (Addr × Obj) → Prop} {P : Nat → Value → Prop} {Fin : List Value → List (Addr × Obj) → Prop} {n : Nat} {news : List (Addr × Obj)}
    (J : Nat → List Value → Prop) (h0 : J 0 [])
    (fin : ∀ ys, J n ys → Fin ys news)
    (step : ∀ i ys v I oI C oC D m₂ h tk (E' : Value → Shared → Prop), i < n → J i ys → P i v → NsObj oC m₂ → m₂ x = some v → Fr h₀ L h m → News h₀ L h ((I, oI) :: (C, oC) :: (D, lst ys) :: news) → Off3 I C D news → ((@Ne Nat I C) ∧ (@Ne Nat I D) ∧ (@Ne Nat C D)) →
      wpAny (model prog w) A (isTrue ct (compEnvC scope cl C env) (eval ct (compEnvC scope cl C env))) (fun ok s' => if ok = true then
        wpAny (model prog w) A (eval elt (compEnvC scope cl C env)) (CompEnd h₀ L m { s with heap := h, toks := tk } I oI C oC D (lst ys) S (fun y news' => news' = news ∧ J (i + 1) (ys ++ [y]))) E' s'
        else CompEnd h₀ L m { s with heap := h, toks := tk } I oI C oC D (lst ys) S (fun _ news' => news' = news ∧ J (i + 1) ys) Value.none s') E' { s with heap := h, toks := tk }) :
    CompRestT prog w A h₀ L m env ct elt x scope cl s S P Fin n 0 [] news :=
  compT_ind (fun i ys nw => nw = news ∧ J i ys) (fun ys nw ⟨e, hj⟩ => e ▸ fin ys hj)
    (fun i ys nw v I oI C oC D m₂ h tk E' hi ⟨e, hj⟩ hv hC hx F N off ne => by subst e; exact step i ys v I oI C oC D m₂ h tk E' hi hj hv hC hx F N off ne) n 0 [] news (by omega) ⟨rfl, h0⟩
theorem compU_c {elt : Expr} {x : Str} {scope : Scope} {cl : List (Str × Addr)} {S : List (Addr × Obj) → Prop} {P : Nat → Value → Prop} {Fin : List Value → List (Addr × Obj) → Prop} {n : Nat} {news : List (Addr × Obj)}
    (J : Nat → List Value → Prop) (h0 : J 0 [])
    (fin : ∀ ys, J n ys → Fin ys news)
    (step : ∀ i ys v I oI C oC D m₂ h tk (E' : Value → Shared → Prop), i < n → J i ys → P i v → NsObj oC m₂ → m₂ x = some v → Fr h₀ L h m → News h₀ L h ((I, oI) :: (C, oC) :: (D, lst ys) :: news) → Off3 I C D news → ((@Ne Nat I C) ∧ (@Ne Nat I D) ∧ (@Ne Nat C D)) →
      wpAny (model prog w) A (eval elt (compEnvC scope cl C env)) (CompEnd h₀ L m { s with heap := h, toks := tk } I oI C oC D (lst ys) S (fun y news' => news' = news ∧ J (i + 1) (ys ++ [y]))) E' { s with heap := h, toks := tk }) :
    CompRest prog w A h₀ L m env elt x scope cl s S P Fin n 0 [] news :=
  compU_ind (fun i ys nw => nw = news ∧ J i ys) (fun ys nw ⟨e, hj⟩ => e ▸ fin ys hj)
    (fun i ys nw v I oI C oC D m₂ h tk E' hi ⟨e, hj⟩ hv hC hx F N off ne => by subst e; exact step i ys v I oI C oC D m₂ h tk E' hi hj hv hC hx F N off ne) n 0 [] news (by omega) ⟨rfl, h0⟩
end
structure UseTu : Prop where
section
variable {prog : Program} {w : World} {A : Around} {E : Value → Shared → Prop} {Q : Flow → Shared → Prop} {s : Shared} {env : Env} {h₀ : Heap}
/-- a for over a list that stands below the frame; any target -/
theorem turns_base {J : Inv} {target : Expr} {body : List Stmt} {l : Addr} {vs : List Value} {m₀ : Str → Option Value} {news : List (Addr × Obj)} (_ : UseF J vs.length)
    (hh : A.handled = none) (hl : h₀.IsList l vs.toArray) (F : Fr h₀ env.locals s.heap m₀) (N : News h₀ env.locals s.heap news)
    (hJ : Hold (J 0 m₀ news))
    (turn : Hold (∀ i v m₁ news₁ h tk I it, vs[i]? = some v → J i m₁ news₁ → (∀ p ∈ news₁, p.1 ≠ I) → Fr h₀ env.locals h m₁ → News h₀ env.locals h ((I, it) :: news₁) →
      wpAny (model prog w) A (assign target env v) (fun _ s₂ => wpAny (model prog w) A (execs body env) (UnrPost h₀ env.locals { s with heap := h, toks := tk } I it (J (i + 1)) Q) E s₂) E { s with heap := h, toks := tk }))
    (done : Hold (∀ m₁ news₁ h tk, J vs.length m₁ news₁ → Fr h₀ env.locals h m₁ → News h₀ env.locals h news₁ → Q .next { s with heap := h, toks := tk })) :
    wpAny (model prog w) A (pyIter (.ref l)) (fun it s₂ => TurnsAt prog w A h₀ env target body Q E it s₂) E s := by
  have hls : s.heap.IsList l vs.toArray := hl.at fun o e => F.keep l o e
  obtain ⟨ol, hol, _⟩ := id hl
  have hlt : l < h₀.objs.size := Heap.lt_size hol
  have hne : l ≠ s.heap.objs.size := Nat.ne_of_lt (Nat.lt_trans (Nat.lt_of_lt_of_le hlt F.above) F.ns.lt)
  have hnew := next_is_new F
  refine wpAny_pyIter_list hls ?_
  have W := Walks.list (prog := prog) (w := w) hh s.heap.objs.size l hne vs.toArray
  have ez : vs.toArray.size = vs.length := by simp
  rw [ez] at W
  have KW := KTurns.ofWalks (target := target) W fun i v s Q E st q => letGo_listiter st.1 q
  refine ⟨s.heap.objs.size, [s.heap.objs.size, l], [s.heap.objs.size], vs.length, _, _, _, m₀, news, J, rfl, KW, ?_, ?_, ?_, ⟨⟨_, Heap.get?_push_size _ rfl, rfl, rfl⟩, hls.at fun o e => Heap.get?_push_of_some _ e⟩, F.push _, (fun p hp => ⟨Heap.get?_push_of_some _ (N p hp).1, (N p hp).2⟩), hJ, ?_, ?_⟩
  · intro hm
    rcases List.mem_cons.mp hm with e | hm
    · exact absurd F.ns.lt (e ▸ Nat.lt_irrefl _)
    · exact absurd (Nat.lt_of_lt_of_le hlt F.above) ((List.mem_singleton.mp hm) ▸ Nat.lt_irrefl _)
  · intro b hb
    rw [List.mem_singleton.mp hb]
    exact hnew
  · intro p hp hI
    exact absurd (Heap.lt_size (N p hp).1) ((List.mem_singleton.mp hI) ▸ Nat.lt_irrefl _)
  · intro i v m₁ news₁ h₁ tk₁ own hin hP hJ₁ hoff hown hget hall hst F₁ N₁
    obtain ⟨⟨it, hit, _⟩, _⟩ := hst
    have hmem := hall s.heap.objs.size List.mem_cons_self hnew _ hit
    have hv : vs[i]? = some v := by simpa using hP
    have N₂ : News h₀ env.locals h₁ ((s.heap.objs.size, it) :: news₁) := fun p hp => by
      rcases List.mem_cons.mp hp with rfl | hp
      · exact N₁ _ (List.mem_append_left _ hmem)
      · exact N₁ _ (List.mem_append_right _ hp)
    have off1 : ∀ p ∈ news₁, p.1 ≠ s.heap.objs.size := fun p hp e => hoff p hp (List.mem_singleton.mpr e)
    have fin : ∀ s₃, UnrEnd h₀ env.locals { s with heap := h₁, toks := tk₁ } s.heap.objs.size it (J (i + 1)) s₃ →
        LoopStepU h₀ env.locals [s.heap.objs.size] own (J (i + 1)) { s with heap := h₁, toks := tk₁ } .next s₃ := by
      rintro s₃ ⟨h', tk, m', news', e, F', N', ho, r⟩
      refine ⟨rfl, h', tk, m', news', e, F', fun p hp => ?_, fun p hp hI => ho p hp (List.mem_singleton.mp hI), r⟩
      rcases List.mem_append.mp hp with hp | hp
      · rcases List.mem_cons.mp (hown p hp) with h1 | h1
        · have h2 : h₁.get? p.1 = some p.2 := hget p hp
          have h3 : p = (s.heap.objs.size, it) := by
            rw [h1, hit] at h2
            exact Prod.ext h1 (Option.some.inj h2).symm
          rw [h3]; exact N' _ (List.mem_cons_self ..)
        · have h2 := (N₁ p (List.mem_append_left _ hp)).2.2
          rw [List.mem_singleton.mp h1, hol] at h2; cases h2
      · exact N' _ (List.mem_cons_of_mem _ hp)
    refine wpAny_mono (turn i v m₁ news₁ h₁ tk₁ _ it hv hJ₁ off1 F₁ N₂) (fun _ s₂ p => wpAny_mono p (fun f s₃ p => ?_) fun _ _ e => e) fun _ _ e => e
    cases f with
    | ret v => exact .ret p
    | brk => exact .brk p
    | next => exact .next (fin _ p)
    | cont => exact .cont (fin _ p)
  · intro h' tk m' news' F' N' _ hJ'
    exact done m' news' h' tk hJ' F' N'
end
theorem len1 {α : Type} {l : List α} {n : Nat} (h : l.length = n + 1) : ∃ a t, l = a :: t ∧ t.length = n := by
  cases l with
  | nil => cases h
  | cons a t => exact ⟨a, t, rfl, Nat.succ.inj h⟩
theorem len2 {α : Type} {l : List α} (h : l.length = 2) : ∃ a b, l = [a, b] := by
  obtain ⟨a, t, rfl, h1⟩ := len1 h
  obtain ⟨b, u, rfl, h2⟩ := len1 h1
  rw [List.length_eq_zero_iff.mp h2]; exact ⟨a, b, rfl⟩
theorem len3 {α : Type} {l : List α} (h : l.length = 3) : ∃ a b c, l = [a, b, c] := by
  obtain ⟨a, t, rfl, h1⟩ := len1 h
  obtain ⟨b, c, rfl⟩ := len2 h1
  exact ⟨a, b, c, rfl⟩
theorem len4 {α : Type} {l : List α} (h : l.length = 4) : ∃ a b c d, l = [a, b, c, d] := by
  obtain ⟨a, t, rfl, h1⟩ := len1 h
  obtain ⟨b, c, d, rfl⟩ := len3 h1
  exact ⟨a, b, c, d, rfl⟩
end Mine
end
section -- M0
namespace Mine
/-- rising -/
noncomputable def Rise (ns : List Int) : Prop := ns.Pairwise (· ≤ ·)
theorem rise_getD {ns : List Int} (h : Rise ns) (i j : Nat) (hij : i ≤ j) (hj : j < ns.length) : ns.getD i 0 ≤ ns.getD j 0 := by
  rcases Nat.lt_or_eq_of_le hij with q | rfl
  · have := (List.pairwise_iff_getElem.mp h) i j (by omega) hj q
    simpa [List.getD, hj, Nat.lt_trans q hj] using this
  · exact Int.le_refl _
theorem rise_ins {ns : List Int} (h : Rise ns) {x : Int} {r : Nat} (h1 : ∀ i : Nat, i < r → i < ns.length → ns.getD i 0 ≤ x) (h2 : ∀ i : Nat, r ≤ i → i < ns.length → x ≤ ns.getD i 0) : Rise (ns.take r ++ x :: ns.drop r) := by
  have a1 : ∀ a ∈ ns.take r, a ≤ x := by
    intro a ha
    obtain ⟨i, hi, rfl⟩ := List.mem_take_iff_getElem.mp ha
    have := h1 i (by omega) (by omega)
    have hl : i < ns.length := by omega
    simpa [List.getD, hl] using this
  have a2 : ∀ b ∈ ns.drop r, x ≤ b := by
    intro b hb
    obtain ⟨i, hi, rfl⟩ := List.mem_drop_iff_getElem.mp hb
    have hl : r + i < ns.length := by omega
    have := h2 (r + i) (by omega) hl
    simpa [List.getD, hl] using this
  unfold Rise at h ⊢
  refine List.pairwise_append.mpr ⟨h.sublist (List.take_sublist _ _), List.pairwise_cons.mpr ⟨a2, h.sublist (List.drop_sublist _ _)⟩, fun a ha b hb => ?_⟩
  rcases List.mem_cons.mp hb with rfl | hb
  · exact a1 a ha
  · exact Int.le_trans (a1 a ha) (a2 b hb)
theorem perm_ins (ns : List Int) (x : Int) (r : Nat) : (ns.take r ++ x :: ns.drop r).Perm (x :: ns) := by
  have := @List.perm_middle _ x (ns.take r) (ns.drop r)
  rwa [List.take_append_drop] at this
end Mine
end
section -- M1
namespace Mine
/-- one pass of Horner's rule, from the top down -/
noncomputable def hor (y : Int) : List Int → List Int
  | [] => []
  | c :: cs => match hor y cs with
    | [] => [c]
    | d :: ds => (c + y * d) :: d :: ds
theorem hor_length (y : Int) : ∀ cs, (hor y cs).length = cs.length
  | [] => rfl
  | c :: cs => by
    have ih := hor_length y cs
    unfold hor
    cases h : hor y cs with
    | nil => rw [h] at ih; show [c].length = cs.length + 1; rw [← ih]; rfl
    | cons d ds => rw [h] at ih; simp at ih ⊢; exact ih
noncomputable def shN (y : Int) : Nat → List Int → List Int
  | 0, _ => []
  | n + 1, cs => match hor y cs with
    | [] => []
    | r :: q => r :: shN y n q
/-- the coefficients in powers of x - y -/
noncomputable def sh (y : Int) (cs : List Int) : List Int := shN y cs.length cs
theorem sh_nil (y : Int) : sh y [] = [] := rfl
theorem sh_cons {y : Int} {cs q : List Int} {r : Int} (h : hor y cs = r :: q) : sh y cs = r :: sh y q := by
  have l := hor_length y cs
  rw [h] at l
  unfold sh
  rw [← l]
  show (match hor y cs with | [] => [] | r :: q' => r :: shN y q.length q') = _
  rw [h]
theorem sh_length (y : Int) : ∀ (n : Nat) (cs : List Int), cs.length = n → (sh y cs).length = n
  | 0, cs, h => by rw [List.length_eq_zero_iff.mp h]; rfl
  | n + 1, cs, h => by
    cases q : hor y cs with
    | nil => have := hor_length y cs; rw [q, h] at this; cases this
    | cons r t =>
      have := hor_length y cs
      rw [q, h, List.length_cons] at this
      rw [sh_cons q, List.length_cons, sh_length y n t (by omega)]
/-- a store of the inner loop -/
theorem hor_step {y : Int} {ms : List Int} {k : Nat} (h : k + 1 < ms.length) :
    (ms.take (k + 1) ++ hor y (ms.drop (k + 1))).set k ((ms.take (k + 1) ++ hor y (ms.drop (k + 1))).getD k 0 + y * (ms.take (k + 1) ++ hor y (ms.drop (k + 1))).getD (k + 1) 0) = ms.take k ++ hor y (ms.drop k) := by
  have hk : k < ms.length := by omega
  obtain ⟨d, ds, hd⟩ : ∃ d ds, hor y (ms.drop (k + 1)) = d :: ds := by
    cases q : hor y (ms.drop (k + 1)) with
    | nil => have := hor_length y (ms.drop (k + 1)); rw [q, List.length_drop] at this; simp at this; omega
    | cons d ds => exact ⟨d, ds, rfl⟩
  have e1 : ms.take (k + 1) = ms.take k ++ [ms[k]] := by rw [List.take_add_one, List.getElem?_eq_getElem hk]; rfl
  have e2 : ms.drop k = ms[k] :: ms.drop (k + 1) := List.drop_eq_getElem_cons hk
  have lt : (ms.take k).length = k := by rw [List.length_take]; omega
  rw [e2, hd, e1]
  have e3 : hor y (ms[k] :: ms.drop (k + 1)) = (ms[k] + y * d) :: d :: ds := by
    unfold hor; rw [hd]
  rw [e3]
  generalize ms.take k = a at lt
  generalize ms[k] = b
  have g1 : (a ++ [b] ++ d :: ds).getD k 0 = b := by simp [List.getD, ← lt]
  have g2 : (a ++ [b] ++ d :: ds).getD (k + 1) 0 = d := by simp [List.getD, ← lt]
  rw [g1, g2]
  simp [← lt]
/-- one pass of the outer loop -/
theorem sh_pass {y : Int} {cs ms ms' : List Int} {low : Nat} (h : low < ms.length) (hs : sh y cs = ms.take low ++ sh y (ms.drop low)) (hm : ms' = ms.take low ++ hor y (ms.drop low)) : sh y cs = ms'.take (low + 1) ++ sh y (ms'.drop (low + 1)) := by
  have lt : (ms.take low).length = low := by rw [List.length_take]; omega
  cases q : hor y (ms.drop low) with
  | nil => have := hor_length y (ms.drop low); rw [q, List.length_drop] at this; simp at this; omega
  | cons r t =>
    rw [hs, sh_cons q, hm, q]
    generalize ms.take low = a at lt
    have e1 : (a ++ r :: t).take (low + 1) = a ++ [r] := by rw [← lt]; simp [List.take_append, List.take_of_length_le]
    have e2 : (a ++ r :: t).drop (low + 1) = t := by rw [← lt]; simp [List.drop_append]
    rw [e1, e2]; simp
theorem hor_last (y : Int) (ms : List Int) : ms.take (ms.length - 1) ++ hor y (ms.drop (ms.length - 1)) = ms := by
  have e : hor y (ms.drop (ms.length - 1)) = ms.drop (ms.length - 1) := by
    cases h : ms.drop (ms.length - 1) with
    | nil => rfl
    | cons a r =>
      have := congrArg List.length h
      rw [List.length_drop, List.length_cons] at this
      have : r = [] := List.length_eq_zero_iff.mp (by omega)
      subst this; rfl
  rw [e, List.take_append_drop]
theorem hor_mix_length (y : Int) (ms : List Int) (k : Nat) : (ms.take k ++ hor y (ms.drop k)).length = ms.length := by
  rw [List.length_append, hor_length, List.length_take, List.length_drop]; omega
end Mine
end
section -- M2
namespace Mine
noncomputable def signsOf (cs : List Int) : List Bool := (cs.filter fun c => c != 0).map fun c => decide (c > 0)
/-- the turns among the first n pairs of neighbours -/
noncomputable def cnt (bs : List Bool) (n : Nat) : Nat := ((List.range n).filter fun j => bs.getD (j + 1) false != bs.getD j false).length
noncomputable def var (cs : List Int) : Nat := cnt (signsOf cs) ((signsOf cs).length - 1)
theorem signsOf_snoc (cs : List Int) (c : Int) : signsOf (cs ++ [c]) = if c ≠ 0 then signsOf cs ++ [decide (c > 0)] else signsOf cs := by
  unfold signsOf
  rw [List.filter_append, List.map_append]
  by_cases h : c = 0
  · subst h; simp
  · simp [h]
theorem cnt_succ (bs : List Bool) (n : Nat) : cnt bs (n + 1) = if bs.getD (n + 1) false ≠ bs.getD n false then cnt bs n + 1 else cnt bs n := by
  unfold cnt
  rw [List.range_succ, List.filter_append, List.length_append]
  by_cases h : bs.getD (n + 1) false = bs.getD n false
  · rw [if_neg (by simp only [ne_eq, h, not_true_eq_false, not_false_eq_true]), List.filter_cons_of_neg (by simp only [h, bne_self_eq_false, Bool.false_eq_true, not_false_eq_true])]; rfl
  · rw [if_pos h, List.filter_cons_of_pos (by rw [bne_iff_ne]; exact h)]; rfl
theorem signsOf_le (cs : List Int) : (signsOf cs).length ≤ cs.length := by
  unfold signsOf; rw [List.length_map]; exact List.length_filter_le _ _
end Mine
end
section -- M3
namespace Mine
/-- times (x - r) -/
noncomputable def lin (r : Int) (cs : List Int) : List Int := List.zipWith (fun a b => a - r * b) (0 :: cs) (cs ++ [0])
/-- one port of the product -/
noncomputable def linIf (cs : List Int) (p : Int) : List Int := if 0 < p then lin p cs else cs
noncomputable def prodc (ps : List Int) : List Int := ps.foldl linIf [1]
/-- times the last factor -/
noncomputable def mulq (h q : Int) (cs : List Int) : List Int := (List.zipWith (fun (ab : Int × Int) c => q * ab.1 - 2 * h * ab.2 + c) (List.zip (cs ++ [0, 0]) (0 :: cs ++ [0])) (0 :: 0 :: cs))
theorem lin_length (r : Int) (cs : List Int) : (lin r cs).length = cs.length + 1 := by simp [lin]
theorem linIf_length (cs : List Int) (p : Int) : (linIf cs p).length = cs.length + (if 0 < p then 1 else 0) := by unfold linIf; split <;> simp [lin_length, *]
theorem prodc_snoc (ps : List Int) (p : Int) : prodc (ps ++ [p]) = linIf (prodc ps) p := by simp [prodc]
theorem prodc_length_le (ps : List Int) : (prodc ps).length ≤ ps.length + 1 := by
  suffices h : ∀ (ps : List Int) (cs : List Int), (ps.foldl linIf cs).length ≤ cs.length + ps.length from by
    have := h ps [1]; simp at this; unfold prodc; omega
  intro ps
  induction ps with
  | nil => intro cs; simp
  | cons p ps ih => intro cs; have := ih (linIf cs p); have h2 := linIf_length cs p; simp only [List.foldl_cons, List.length_cons]; split at h2 <;> omega
theorem prodc_take (ps : List Int) (i : Nat) (p : Int) (h : ps[i]? = some p) : prodc (ps.take (i + 1)) = linIf (prodc (ps.take i)) p := by
  rw [List.take_add_one, h]; exact prodc_snoc _ _
theorem lin_take (r : Int) (cs : List Int) (i : Nat) (a b : Int) (h1 : (0 :: cs)[i]? = some a) (h2 : (cs ++ [0])[i]? = some b) : (lin r cs).take (i + 1) = (lin r cs).take i ++ [a - r * b] := by
  rw [List.take_add_one]; congr 1; unfold lin; simp [List.getElem?_zipWith, h1, h2]
theorem mulq_length (h q : Int) (cs : List Int) : (mulq h q cs).length = cs.length + 2 := by simp [mulq]
theorem mulq_take (h q : Int) (cs : List Int) (i : Nat) (a b c : Int) (h1 : (cs ++ [0, 0])[i]? = some a) (h2 : (0 :: cs ++ [0])[i]? = some b) (h3 : (0 :: 0 :: cs)[i]? = some c) :
    (mulq h q cs).take (i + 1) = (mulq h q cs).take i ++ [q * a - 2 * h * b + c] := by
  rw [List.take_add_one]; congr 1; unfold mulq; simp only [List.getElem?_zipWith, List.zip, h1, h2, h3]; rfl
end Mine
end
section -- P1
open PySem PySem.W PyProof.Rows PySem.Calls
open Sem (wp)
set_option maxRecDepth 100000
set_option maxHeartbeats 8000000
namespace Mine
open LCg LCp
noncomputable def RowEnd (s : Shared) (P : Value → Prop) (y : Value) (s' : Shared) : Prop := ∃ tk, s' = { s with toks := tk } ∧ P y
noncomputable def Names : List Str → List Value → (Str → Option Value) → Prop
  | [], [], _ => True
  | x :: xs, v :: vs, m => m x = some v ∧ Names xs vs m
  | _, _, _ => False

theorem off1_of {D : Addr} : ∀ {l : List (Addr × Obj)}, (∀ p ∈ l, p.1 ≠ D) → Off1 D l
  | [], _ => trivial
  | p :: r, h => ⟨h p List.mem_cons_self, off1_of fun q hq => h q (List.mem_cons_of_mem _ hq)⟩
section
variable {prog : Program} {w : World} {A : Around} {E : Value → Shared → Prop} {s : Shared} {h₀ : Heap} {L : Addr} {m : Str → Option Value} {env : Env}

/-- the target of the comprehension takes its names -/
noncomputable def Takes (prog : Program) (w : World) (A : Around) (env : Env) (scope : Scope) (cl : List (Str × Addr)) (elts : List Expr) (names : List Str) : Prop :=
  ∀ (C : Addr) (vals : List Value) (s : Shared) (m' : Str → Option Value) (Q : Unit → Shared → Prop) (E : Value → Shared → Prop), vals.length = names.length → s.heap.Ns C m' →
    (∀ h₃ tk m'', h₃.Ns C m'' → Names names vals m'' → (∀ b o, b ≠ C → s.heap.get? b = some o → h₃.get? b = some o) → Q () { s with heap := h₃, toks := tk }) →
    wpAny (model prog w) A (assignInOrder ((assignEach elts (compEnvC scope cl C env)).map (·.2)) vals) Q E s

theorem takes2 {x₁ x₂ : Str} {p₁ p₂ : Pos} {scope : Scope} {cl : List (Str × Addr)} (hkind : scope.kind = .function) (h1 : scope.names.lookup x₁ = some .local) (h2 : scope.names.lookup x₂ = some .local) (h12 : x₁ ≠ x₂) :
    Takes prog w A env scope cl [.Name x₁ p₁, .Name x₂ p₂] [x₁, x₂] := by
  intro C vals s m' Q E hl hn k
  · obtain ⟨v₁, v₂, rfl⟩ := len2 hl
    refine assignInOrder_cons (wpAny_assign_Name (wpAny_storeName_local (lookup_relabel_local h1) hn (fun h₆ hn₆ hs₆ => ?_) (by simp [compEnvC, relabel, hkind])))
    refine assignInOrder_cons (wpAny_assign_Name (wpAny_storeName_local (lookup_relabel_local h2) hn₆ (fun h₇ hn₇ hs₇ => ?_) (by simp [compEnvC, relabel, hkind])))
    refine assignInOrder_nil ?_
    exact k h₇ _ _ hn₇ ⟨by simp [h12], by simp, trivial⟩ fun b o hb e => hs₇.extBut b o hb (hs₆.extBut b o hb e)
theorem takes3 {x₁ x₂ x₃ : Str} {p₁ p₂ p₃ : Pos} {scope : Scope} {cl : List (Str × Addr)} (hkind : scope.kind = .function) (h1 : scope.names.lookup x₁ = some .local) (h2 : scope.names.lookup x₂ = some .local) (h3 : scope.names.lookup x₃ = some .local) (h12 : x₁ ≠ x₂) (h13 : x₁ ≠ x₃) (h23 : x₂ ≠ x₃) :
    Takes prog w A env scope cl [.Name x₁ p₁, .Name x₂ p₂, .Name x₃ p₃] [x₁, x₂, x₃] := by
  intro C vals s m' Q E hl hn k
  · obtain ⟨v₁, v₂, v₃, rfl⟩ := len3 hl
    refine assignInOrder_cons (wpAny_assign_Name (wpAny_storeName_local (lookup_relabel_local h1) hn (fun h₆ hn₆ hs₆ => ?_) (by simp [compEnvC, relabel, hkind])))
    refine assignInOrder_cons (wpAny_assign_Name (wpAny_storeName_local (lookup_relabel_local h2) hn₆ (fun h₇ hn₇ hs₇ => ?_) (by simp [compEnvC, relabel, hkind])))
    refine assignInOrder_cons (wpAny_assign_Name (wpAny_storeName_local (lookup_relabel_local h3) hn₇ (fun h₈ hn₈ hs₈ => ?_) (by simp [compEnvC, relabel, hkind])))
    refine assignInOrder_nil ?_
    exact k h₈ _ _ hn₈ ⟨by simp [h12, h13], by simp [h23], by simp, trivial⟩ fun b o hb e => hs₈.extBut b o hb (hs₇.extBut b o hb (hs₆.extBut b o hb e))

theorem rows_block {elt iter : Expr} {elts : List Expr} {names : List Str} {tp : Pos} {tk : Nat} {scope : Scope} {cl : List (Str × Addr)} {pos : Pos} {s₂ : Shared} {z : Addr} {fp wr : List Addr} {n : Nat} {Pt : Nat → Array Value → Prop} {St : Nat → Heap → Prop} {Mid : Nat → Addr → Heap → Prop} {news : List (Addr × Obj)}
    {J : Nat → List Value → Prop} {RR : Value → Addr → Result → Shared → Prop}
    (W : WalksU prog w A z fp wr n Pt St Mid) (hsz : n ≤ sizeLine)
    (hcell : ∀ y ∈ scope.names, y.2 ≠ .cell) (hkind : scope.kind = .function) (hh : A.handled = none)
    (hlen : ∀ C, (assignEach elts (compEnvC scope cl C env)).length = names.length) (hstar : ∀ C, (assignEach elts (compEnvC scope cl C env)).findIdx? (·.1) = none)
    (hT : Takes prog w A env scope cl elts names) (hPt : ∀ i vals, Pt i vals → vals.size = names.length)
    (hst : St 0 s₂.heap) (hfp : ∀ b ∈ fp, b < s₂.heap.objs.size) (hwr : ∀ b ∈ wr, h₀.get? b = none ∧ b ≠ L ∧ ∀ p ∈ news, p.1 ≠ b)
    (F : Fr h₀ L s₂.heap m) (N : News h₀ L s₂.heap news) (hJ : J 0 [])
    (step : ∀ i vals ys C oC D m₂ h tk (E' : Value → Shared → Prop), i < n → Pt i vals → J i ys → NsObj oC m₂ → Names names vals.toList m₂ → Fr h₀ L h m → News h₀ L h ((C, oC) :: (D, lst ys) :: news) → (@Ne Nat C D) →
      wpAny (model prog w) A (eval elt (compEnvC scope cl C env)) (RowEnd { s₂ with heap := h, toks := tk } (fun y => J (i + 1) (ys ++ [y]))) E' { s₂ with heap := h, toks := tk })
    (hRR : ∀ D C h tk m' ys, Fr h₀ L h m → News h₀ L h ((D, lst ys) :: news) → Off1 D news → h.Ns C m' → h₀.get? C = none → h₀.get? D = none → C ≠ L → D ≠ L → C ≠ D → (∀ p ∈ news, p.1 ≠ C) → J n ys → ys.length = n → RR (.ref D) C (.ok .next) { s₂ with heap := h, toks := tk }) :
    wpAny (model prog w) A (newList []) (fun acc s₃ => wpAny (model prog w) A (newFunctionEnv scope env.globals cl [] env.qual none .none (some env)) (fun cenv s₄ =>
      codeAny (model prog w) A (.compStart (.ListComp elt [⟨.Tuple elts tk tp, iter, [], 0⟩] scope pos) 0 (.ref z) acc { cenv with scope := relabel scope env }) (RR acc cenv.locals) s₄) E s₃) E s₂ := by
  refine wpAny_newObj_type (wpAny_newFunctionEnv hcell (by intro y hy; simp at hy) (fun h₁ hns₁ hsb₁ => ?_) hkind)
  dsimp only at hns₁ hsb₁ ⊢
  generalize hH2 : s₂.heap.push { cls := .type "list", dict := none, data := .seq ([] : List Value).toArray } = H2 at hns₁ hsb₁ ⊢
  have hC : H2.objs.size = s₂.heap.objs.size + 1 := by rw [← hH2, Heap.size_push]
  have hDC : s₂.heap.objs.size ≠ H2.objs.size := by rw [hC]; exact Nat.ne_of_lt (Nat.lt_succ_self _)
  have below : ∀ b, b < s₂.heap.objs.size → b ≠ H2.objs.size ∧ b ≠ s₂.heap.objs.size := fun b hb => ⟨by rw [hC]; exact Nat.ne_of_lt (Nat.lt_succ_of_lt hb), Nat.ne_of_lt hb⟩
  have hDf : s₂.heap.objs.size ∉ fp := fun hm => Nat.lt_irrefl _ (hfp _ hm)
  have hCf : H2.objs.size ∉ fp := fun hm => by have := hfp _ hm; rw [hC] at this; exact Nat.lt_irrefl _ (Nat.lt_of_succ_lt this)
  have hDw : s₂.heap.objs.size ∉ wr := fun hm => hDf (W.sub _ hm)
  have hCw : H2.objs.size ∉ wr := fun hm => hCf (W.sub _ hm)
  have old : ∀ b o, s₂.heap.get? b = some o → h₁.get? b = some o := fun b o e => hsb₁.extBut b o (below b (Heap.lt_size e)).1 (Heap.get?_push_of_some _ (hH2 ▸ Heap.get?_push_of_some _ e))
  have hacc : h₁.get? s₂.heap.objs.size = some (lst []) := hsb₁.extBut _ _ hDC (Heap.get?_push_of_some _ (hH2 ▸ Heap.get?_push_size _ rfl))
  have hst₁ : St 0 h₁ := W.frame _ _ _ hst fun b _ o e => old b o e
  have fresh : ∀ a, s₂.heap.objs.size ≤ a → s₂.heap.get? a = none := fun a ha => by
    cases e : s₂.heap.get? a with
    | none => rfl
    | some o' => exact absurd (Heap.lt_size e) (Nat.not_lt.mpr ha)
  have fresh₀ : ∀ a, s₂.heap.objs.size ≤ a → h₀.get? a = none := fun a ha => by
    cases e : h₀.get? a with
    | none => rfl
    | some o' => have := F.keep a o' e; rw [fresh a ha] at this; cases this
  have hD₀ : h₀.get? s₂.heap.objs.size = none := fresh₀ _ (Nat.le_refl _)
  have hC₀ : h₀.get? H2.objs.size = none := fresh₀ _ (by rw [hC]; exact Nat.le_succ _)
  have hLlt : L < s₂.heap.objs.size := F.ns.lt
  have hDL : s₂.heap.objs.size ≠ L := Ne.symm (below L hLlt).2
  have hCL : H2.objs.size ≠ L := Ne.symm (below L hLlt).1
  have offC : ∀ p ∈ news, p.1 ≠ H2.objs.size := fun p hp => (below _ (Heap.lt_size (N p hp).1)).1
  have offD : ∀ p ∈ news, p.1 ≠ s₂.heap.objs.size := fun p hp => (below _ (Heap.lt_size (N p hp).1)).2
  have frB : ∀ {h h' : Heap}, Fr h₀ L h m → (∀ b o, b ∉ wr → h.get? b = some o → h'.get? b = some o) → Fr h₀ L h' m := fun {h h'} F' hk =>
    ⟨F'.ns.at' fun o e => hk L o (fun hm => (hwr L hm).2.1 rfl) e, fun b o e => hk b o (fun hm => by rw [(hwr b hm).1] at e; cases e) (F'.keep b o e), F'.above⟩
  have newsB : ∀ {h h' : Heap} {ys : List Value}, News h₀ L h ((s₂.heap.objs.size, lst ys) :: news) → (∀ b o, b ∉ wr → h.get? b = some o → h'.get? b = some o) → News h₀ L h' ((s₂.heap.objs.size, lst ys) :: news) := fun {h h' ys} N' hk p hp => by
    refine ⟨hk _ _ (fun hm => ?_) (N' p hp).1, (N' p hp).2⟩
    rcases List.mem_cons.mp hp with rfl | hp
    · exact hDw hm
    · exact (hwr _ hm).2.2 p hp rfl
  have frC : ∀ {h h' : Heap}, Fr h₀ L h m → (∀ b o, b ≠ H2.objs.size → h.get? b = some o → h'.get? b = some o) → Fr h₀ L h' m := fun {h h'} F' hk =>
    ⟨F'.ns.at' fun o e => hk L o (Ne.symm hCL) e, fun b o e => hk b o (fun q => by rw [q, hC₀] at e; cases e) (F'.keep b o e), F'.above⟩
  have loop : ∀ s₃ : Shared, s₃ = { s₂ with heap := h₁, toks := s₂.toks + ([] : List (Str × Value)).length } →
      codeAny (model prog w) A (.compLoop (.ListComp elt [⟨.Tuple elts tk tp, iter, [], 0⟩] scope pos) 0 (.ref z) (.ref s₂.heap.objs.size) (compEnvC scope cl H2.objs.size env))
        (RR (.ref s₂.heap.objs.size) H2.objs.size) s₃ := by
    rintro s₃ rfl
    refine codeAny_compLoop_pair
      (fun k s' => ∃ h' tk i ys m', s' = { s₂ with heap := h', toks := tk } ∧ i ≤ n ∧ k = n + 1 - i ∧ ys.length = i ∧ St i h' ∧ Fr h₀ L h' m ∧ h'.Ns H2.objs.size m' ∧ News h₀ L h' ((s₂.heap.objs.size, lst ys) :: news) ∧ J i ys) ?_ (n + 1)
      ⟨h₁, _, 0, [], _, rfl, Nat.zero_le _, rfl, rfl, hst₁, F.keeps old, hns₁, fun p hp => ?_, hJ⟩
    · rintro k s' ⟨h', tk, i, ys, m', rfl, hi, rfl, hyl, hst', F', hn', N', hJ'⟩
      by_cases hlt : i < n
      · refine W.item i _ _ _ hlt hst' fun t vals h₂ tk₂ hPv hTup hMid hk₂ => ?_
        refine W.go _ _ _ i t _ _ _ hMid fun h₄ hst₄ hk₄ => ?_
        have hk₂' : ∀ b o, b ∉ wr → h'.get? b = some o → h₄.get? b = some o := fun b o hb e => hk₄ b o hb (hk₂ b o hb e)
        have hTup₄ : h₄.IsTuple t vals := by
          obtain ⟨o, e, hc⟩ := hTup
          exact ⟨o, hk₄ _ _ (W.apart _ _ _ hMid) e, hc⟩
        have N₂ := newsB N' hk₂'
        have F₂ := frB F' hk₂'
        have hn₂ : h₄.Ns H2.objs.size m' := hn'.at' fun o e => hk₂' _ o hCw e
        obtain ⟨ot, hot, hct, nt, hdt⟩ := hTup₄
        refine assign_Tuple_tuple hh ⟨ot, hot, hct, nt, hdt⟩ ((hlen _).trans (hPt _ _ hPv).symm) (hstar _) fun h₅ he => ?_
        have he' : ∀ b o, h₄.get? b = some o → h₅.get? b = some o := fun b o e => he b o (Nat.ne_of_lt (Heap.lt_size e)) e
        refine hT H2.objs.size vals.toList _ m' _ _ (by simpa using hPt _ _ hPv) (hn₂.at' fun o e => he' _ o e) fun h₃ tk₃ m'' hn₃ hNm hk₃ => ?_
        have hst₃ : St (i + 1) h₃ := W.frame _ _ _ hst₄ fun b hb o e => hk₃ b o (fun q => hCf (by rw [← q]; exact hb)) (he' b o e)
        obtain ⟨oC, heC, hoC⟩ := ns_obj hn₃
        have F₃ : Fr h₀ L h₃ m := frC (F₂.keeps he') hk₃
        have N₃' : News h₀ L h₃ ((s₂.heap.objs.size, lst ys) :: news) := fun p hp => by
          refine ⟨hk₃ _ _ ?_ (he' _ _ (N₂ p hp).1), (N₂ p hp).2⟩
          rcases List.mem_cons.mp hp with rfl | hp
          · exact hDC
          · exact offC p hp
        have N₃ : News h₀ L h₃ ((H2.objs.size, oC) :: (s₂.heap.objs.size, lst ys) :: news) := fun p hp => by
          rcases List.mem_cons.mp hp with rfl | hp
          · exact ⟨heC, hCL, hC₀⟩
          · exact N₃' p hp
        refine wpAny_mono (step i vals ys H2.objs.size oC s₂.heap.objs.size m'' h₃ _ _ hlt hPv hJ' hoC hNm F₃ N₃ (Ne.symm hDC)) (fun y s₄ h₄' => ?_) fun _ _ e => e
        obtain ⟨tk₄, rfl, hJ₄⟩ := h₄'
        have zD := (N₃' (s₂.heap.objs.size, lst ys) List.mem_cons_self).1
        refine append_at (hsz := by show ys.toArray.size ≤ sizeLine; rw [List.size_toArray, hyl]; exact Nat.le_trans hi hsz) zD fun h₆ hs₆ hD₆ => ?_
        refine ⟨n + 1 - (i + 1), by omega, h₆, tk₄, i + 1, ys ++ [y], _, rfl, hlt, rfl, by rw [List.length_append, List.length_singleton, hyl], W.frame _ _ _ hst₃ fun b hb o e => hs₆.extBut b o (fun q => hDf (q ▸ hb)) e, F₃.change hs₆ hDL hD₀,
          hn₃.sameBut hs₆ (Ne.symm hDC), fun p hp => ?_, hJ₄⟩
        rcases List.mem_cons.mp hp with rfl | hp
        · exact ⟨hD₆.trans (congrArg some (lst_snoc ys y)), hDL, hD₀⟩
        · exact ⟨hs₆.extBut _ _ (offD p hp) (N₃' p (List.mem_cons_of_mem _ hp)).1, (N₃' p (List.mem_cons_of_mem _ hp)).2⟩
      · obtain rfl : i = n := Nat.le_antisymm hi (Nat.not_lt.mp hlt)
        refine W.done _ _ _ hst' fun h₂ tk₂ hk₂ => ?_
        exact hRR _ _ h₂ tk₂ _ ys (frB F' hk₂) (newsB N' hk₂) (off1_of offD) (hn'.at' fun o e => hk₂ _ o hCw e) hC₀ hD₀ hCL hDL (Ne.symm hDC) offC hJ' hyl
    · rcases List.mem_cons.mp hp with rfl | hp
      · exact ⟨hacc, hDL, hD₀⟩
      · exact ⟨old _ _ (N p hp).1, (N p hp).2⟩
  exact codeAny_compStart_list (loop _ rfl) (W.self 0 _ _ _ hst₁ (loop _ rfl))

noncomputable def RowsSrc (prog : Program) (w : World) (A : Around) (h₀ : Heap) (L : Addr) (m : Str → Option Value) (env : Env) (elt : Expr) (names : List Str) (scope : Scope) (cl : List (Str × Addr)) (Fin : Shared → List Value → List (Addr × Obj) → Prop) (xv : Value) (s₁ : Shared) : Prop :=
  ∃ z fp wr n Pt St Mid news, ∃ J : Nat → List Value → Prop, xv = .ref z ∧ A.handled = none ∧ WalksU prog w A z fp wr n Pt St Mid ∧ n ≤ sizeLine ∧ (∀ i vals, Pt i vals → vals.size = names.length) ∧ St 0 s₁.heap ∧ (∀ b ∈ fp, b < s₁.heap.objs.size) ∧
    (∀ b ∈ wr, h₀.get? b = none ∧ b ≠ L ∧ ∀ p ∈ news, p.1 ≠ b) ∧ Fr h₀ L s₁.heap m ∧ News h₀ L s₁.heap news ∧ J 0 [] ∧
    (∀ i vals ys C oC D m₂ h tk (E' : Value → Shared → Prop), i < n → Pt i vals → J i ys → NsObj oC m₂ → Names names vals.toList m₂ → Fr h₀ L h m → News h₀ L h ((C, oC) :: (D, lst ys) :: news) → (@Ne Nat C D) →
      wpAny (model prog w) A (eval elt (compEnvC scope cl C env)) (RowEnd { s₁ with heap := h, toks := tk } (fun y => J (i + 1) (ys ++ [y]))) E' { s₁ with heap := h, toks := tk }) ∧
    (∀ ys, J n ys → ys.length = n → Fin s₁ ys news)

theorem ListComp_rows {elt iter : Expr} {elts : List Expr} {names : List Str} {tp : Pos} {tk} {scope : Scope} {cl : List (Str × Addr)} {pos : Pos} {Q : Value → Shared → Prop}
    (hclos : closureFor scope env = pure cl) (hcell : ∀ y ∈ scope.names, y.2 ≠ .cell) (hkind : scope.kind = .function)
    (hnames : ∀ y ∈ scope.names, y.2 = .local → scope.names.lookup y.1 = some .local)
    (hlen : ∀ C, (assignEach elts (compEnvC scope cl C env)).length = names.length) (hstar : ∀ C, (assignEach elts (compEnvC scope cl C env)).findIdx? (·.1) = none)
    (hT : Takes prog w A env scope cl elts names) (F₀ : Fr h₀ L s.heap m)
    (h : wpAny (model prog w) A (eval iter env) (RowsSrc prog w A h₀ L m env elt names scope cl (fun s₂ => FinE h₀ L m s₂ Q)) E s)
    (hs : ∀ x, foldedSetIterable iter env x = pure x := by intro _; rfl) :
    wpAny (model prog w) A (eval (.ListComp elt [⟨.Tuple elts tk tp, iter, [], 0⟩] scope pos) env) Q E s := by
  rw [eval_ListComp]
  refine wpAny_comprehension_free (use := none) rfl hs hclos hkind hnames (wpAny_mono h (fun xv s₁ h₁ => ?_) fun _ _ e => e)
  obtain ⟨z, fp, wr, n, Pt, St, Mid, news, J, rfl, hh, W, hsz, hPt, hst, hfp, hwr, F, N, hJ, step, fin⟩ := h₁
  refine W.self 0 _ _ _ hst ?_
  refine rows_block W hsz hcell hkind hh hlen hstar hT hPt hst hfp hwr F N hJ step ?_
  intro D C h tk m' ys F' N' o1 hn hC₀ hD₀ hCL hDL hCD offC hJ' hyl
  refine ⟨m', hn, fun h'' hs'' => fin ys hJ' hyl D h'' tk (F'.change hs'' hCL hC₀) (fun p hp => ?_) o1⟩
  refine ⟨hs''.extBut _ _ ?_ (N' p hp).1, (N' p hp).2⟩
  rcases List.mem_cons.mp hp with rfl | hp
  · exact Ne.symm hCD
  · exact offC p hp

theorem Assign_ListComp_rows {elt iter : Expr} {elts : List Expr} {names : List Str} {y : Str} {tp py : Pos} {tk} {scope : Scope} {cl : List (Str × Addr)} {pos spos : Pos} {Q : Flow → Shared → Prop} (hLe : env.locals = L)
    (hsw : swapsWith (.ListComp elt [⟨.Tuple elts tk tp, iter, [], 0⟩] scope pos) (some (.Name y py)) spos.line env = pure true)
    (hclos : closureFor scope env = pure cl) (hcell : ∀ y ∈ scope.names, y.2 ≠ .cell) (hkind : scope.kind = .function)
    (hnames : ∀ y ∈ scope.names, y.2 = .local → scope.names.lookup y.1 = some .local)
    (hlen : ∀ C, (assignEach elts (compEnvC scope cl C env)).length = names.length) (hstar : ∀ C, (assignEach elts (compEnvC scope cl C env)).findIdx? (·.1) = none)
    (hT : Takes prog w A env scope cl elts names) (F₀ : Fr h₀ L s.heap m)
    (hy : env.kindOf y = some .local) (hp : (env.scope.kind == .class || (env.scope.kind == .module && env.locals != env.globals)) = false)
    (h : wpAny (model prog w) A (eval iter env) (RowsSrc prog w A h₀ L m env elt names scope cl (fun s₂ => FinA h₀ L m s₂ y Q)) E s)
    (hs : ∀ x, foldedSetIterable iter env x = pure x := by intro _; rfl) :
    wpAny (model prog w) A (exec (.Assign [.Name y py] (.ListComp elt [⟨.Tuple elts tk tp, iter, [], 0⟩] scope pos) spos) env) Q E s := by
  subst hLe
  rw [exec_Assign_Name_used _ _ _ _ hsw]
  refine wpAny_bind (wpAny_standAt (wpAny_bind ?_))
  show wpAny _ A (do let _ ← comprehension (.ListComp elt [⟨.Tuple elts tk tp, iter, [], 0⟩] scope pos) scope env _ (newList []) false (eval iter env) (some (assign (.Name y py) env))) _ _ s
  refine wpAny_bind (wpAny_mono (wpAny_comprehension_free (use := some (assign (.Name y py) env)) (Q := fun _ s' => Q .next s') rfl hs hclos hkind hnames
    (wpAny_mono h (fun xv s₁ h₁ => ?_) fun _ _ e => e)) (fun _ s' hq => wpAny_pure (wpAny_pure hq)) fun _ _ e => e)
  obtain ⟨z, fp, wr, n, Pt, St, Mid, news, J, rfl, hh, W, hsz, hPt, hst, hfp, hwr, F, N, hJ, step, fin⟩ := h₁
  refine W.self 0 _ _ _ hst ?_
  refine rows_block W hsz hcell hkind hh hlen hstar hT hPt hst hfp hwr F N hJ step ?_
  intro D C h' tk m' ys F' N' o1 hn hC₀ hD₀ hCL hDL hCD offC hJ' hyl
  show wpAny _ A (assign (.Name y py) env (.ref D)) _ _ _
  refine wpAny_assign_Name (wpAny_storeName_local hy F'.ns (fun h₂ hn₂ hs₂ => ?_) hp)
  have hL₀ : h₀.get? env.locals = none := Heap.get?_none_of_le F'.above
  have F₂ : Fr h₀ env.locals h₂ (fun z => if z = y then some (.ref D) else m z) := ⟨hn₂, fun b o e => hs₂.extBut b o (fun q => by rw [q, hL₀] at e; cases e) (F'.keep b o e), F'.above⟩
  refine ⟨m', hn.sameBut hs₂ hCL, fun h'' hs'' => fin ys hJ' hyl D h'' _ (F₂.change hs'' hCL hC₀) (fun p hp => ?_) o1⟩
  have z : h₂.get? p.1 = some p.2 := hs₂.extBut _ _ (N' p hp).2.1 (N' p hp).1
  refine ⟨hs''.extBut _ _ ?_ z, (N' p hp).2⟩
  rcases List.mem_cons.mp hp with rfl | hp
  · exact Ne.symm hCD
  · exact offC p hp

/-- the turns of a zip of two -/
structure UseZ2 (J : Nat → List Value → Prop) : Prop where
theorem zip2_src {J : Nat → List Value → Prop} (_ : UseZ2 J) {elt : Expr} {x₁ x₂ : Str} {scope : Scope} {cl : List (Str × Addr)} {Fin : Shared → List Value → List (Addr × Obj) → Prop} {l₁ l₂ : Addr} {as bs : List Value} {n₁ n₂ : Nat} {news : List (Addr × Obj)}
    (hh : A.handled = none) (F : Fr h₀ L s.heap m) (N : News h₀ L s.heap news)
    (hl₁ : s.heap.get? l₁ = some (listOf as.toArray n₁)) (hl₂ : s.heap.get? l₂ = some (listOf bs.toArray n₂))
    (hsz : Hold (as.length = bs.length ∧ as.length ≤ sizeLine)) (hJ : Hold (J 0 []))
    (step : Hold (∀ i x y ys C oC D m₂ h tk (E' : Value → Shared → Prop), as[i]? = some x → bs[i]? = some y → J i ys → NsObj oC m₂ → m₂ x₁ = some x → m₂ x₂ = some y → Fr h₀ L h m → News h₀ L h ((C, oC) :: (D, lst ys) :: news) → (@Ne Nat C D) →
      wpAny (model prog w) A (eval elt (compEnvC scope cl C env)) (RowEnd { s with heap := h, toks := tk } (fun y => J (i + 1) (ys ++ [y]))) E' { s with heap := h, toks := tk }))
    (fin : Hold (∀ g ys, J as.length ys → ys.length = as.length → Fin { s with heap := g } ys news)) :
    wpAny (model prog w) A (call (.type "zip") [.ref l₁, .ref l₂]) (RowsSrc prog w A h₀ L m env elt [x₁, x₂] scope cl Fin) E s := by
  have a1 : l₁ < s.heap.objs.size := Heap.lt_size hl₁
  have a2 : l₂ < s.heap.objs.size := Heap.lt_size hl₂
  have e1 : s.heap.IsList l₁ as.toArray := ⟨_, hl₁, rfl, _, rfl⟩
  have e2 : s.heap.IsList l₂ bs.toArray := ⟨_, hl₂, rfl, _, rfl⟩
  refine call_zip_2 e1 e2 fun h' hz hTI hTO hi1 hi2 hs hk => ?_
  have W := (WalksT.zip2 (prog := prog) (w := w) hh _ _ _ _ _ _ _ (zipApart_new a1 a2) as.toArray bs.toArray).toU
  have hn : min as.toArray.size bs.toArray.size = as.length := by have hz : as.length = bs.length := hsz.1; simp [hz]
  rw [hn] at W
  have above : ∀ k : Nat, h₀.get? (s.heap.objs.size + k) = none := fun k => by
    cases e : h₀.get? (s.heap.objs.size + k) with
    | none => rfl
    | some o => exact absurd (Heap.lt_size (F.keep _ _ e)) (Nat.not_lt.mpr (Nat.le_add_right _ _))
  have hlt := F.ns.lt
  refine ⟨_, _, _, _, _, _, _, news, J, rfl, hh, W.bound, hsz.2, ?_, ⟨hz, hTI, ⟨_, _, hTO⟩, hi1, hi2, e1.at fun o e => hk _ o e, e2.at fun o e => hk _ o e⟩, ?_, ?_, F.keeps hk, N.grown hk, hJ, ?_, ?_⟩
  · rintro i vals ⟨_, x, y, _, _, rfl⟩; rfl
  · intro b hb
    rw [hs]
    simp only [List.mem_cons, List.not_mem_nil, or_false] at hb
    rcases hb with rfl | rfl | rfl | rfl | rfl | rfl | rfl
    · exact Nat.add_lt_add_left (by decide) _
    · exact Nat.add_lt_add_left (by decide) _
    · exact Nat.add_lt_add_left (by decide) _
    · exact Nat.lt_add_of_pos_right (by decide)
    · exact Nat.add_lt_add_left (by decide) _
    · exact Nat.lt_of_lt_of_le a1 (Nat.le_add_right _ _)
    · exact Nat.lt_of_lt_of_le a2 (Nat.le_add_right _ _)
  · intro b hb
    have hbs : s.heap.objs.size ≤ b ∧ h₀.get? b = none := by
      simp only [List.mem_cons, List.not_mem_nil, or_false] at hb
      rcases hb with rfl | rfl | rfl | rfl
      · exact ⟨Nat.le_add_right _ _, above 4⟩
      · exact ⟨Nat.le_add_right _ _, above 3⟩
      · exact ⟨Nat.le_refl _, above 0⟩
      · exact ⟨Nat.le_add_right _ _, above 1⟩
    exact ⟨hbs.2, Nat.ne_of_gt (Nat.lt_of_lt_of_le hlt hbs.1), fun p hp => Nat.ne_of_lt (Nat.lt_of_lt_of_le (Heap.lt_size (N p hp).1) hbs.1)⟩
  · rintro i vals ys C oC D m₂ h tk E' hi ⟨_, x, y, hx, hy, rfl⟩ hJ' hC hNm F' N' hne
    exact step i x y ys C oC D m₂ h tk E' (by simpa using hx) (by simpa using hy) hJ' hC hNm.1 hNm.2.1 F' N' hne
  · intro ys hJ' hl
    exact fin h' ys hJ' hl
noncomputable abbrev IsTrip (h : Heap) (T : Addr) (a b c : Value) : Prop := h.get? T = some { cls := .type "tuple", data := .seq #[a, b, c] }
theorem upd_trip {T : Addr} {a b c x : Value} {k : Nat} {Q : Unit → Shared → Prop} (hT : IsTrip s.heap T a b c)
    (h : ∀ h', h'.get? T = some { cls := .type "tuple", data := .seq ((#[a, b, c] : Array Value).setIfInBounds k x) } → Heap.SameBut T s.heap h' → Q () { s with heap := h' }) :
    wpAny (model prog w) A (updateSeq T (·.setIfInBounds k x)) Q E s := by
  refine wpAny_updateSeq hT rfl (h _ ?_ (Heap.SameBut.update ..))
  rw [Heap.get?_update_self _ hT rfl]
  simp [Obj.mapSeq]

/-- the places of a zip of three -/
structure Z3 (z TI TO i1 i2 i3 l1 l2 l3 : Nat) : Prop where
  a1 : l1 < i1
  a2 : l2 < i1
  a3 : l3 < i1
  e2 : i2 = i1 + 1
  e3 : i3 = i1 + 2
  eI : TI = i1 + 3
  eO : TO = i1 + 4
  ez : z = i1 + 5

theorem zip3_item {z TI TO i1 i2 i3 l1 l2 l3 : Addr} {k1 k2 k3 : Nat} {xs ys us : Array Value} {x y u a b c : Value} {Q : Value → Shared → Prop} (D : Z3 z TI TO i1 i2 i3 l1 l2 l3)
    (hz : IsZip s.heap z TI TO .none) (hTI : IsTrip s.heap TI (.ref i1) (.ref i2) (.ref i3)) (hTO : IsTrip s.heap TO a b c)
    (h1 : s.heap.IsListIter i1 l1 k1) (h2 : s.heap.IsListIter i2 l2 k2) (h3 : s.heap.IsListIter i3 l3 k3) (hl1 : s.heap.IsList l1 xs) (hl2 : s.heap.IsList l2 ys) (hl3 : s.heap.IsList l3 us) (hx : xs[k1]? = some x) (hy : ys[k2]? = some y) (hu : us[k3]? = some u)
    (hQ : ∀ h', IsZip h' z TI TO (rawInt s.heap.objs.size) → IsTrip h' TO x y u → h'.IsListIter i1 l1 (k1 + 1) → h'.IsListIter i2 l2 (k2 + 1) → h'.IsListIter i3 l3 (k3 + 1) → IsTrip h' s.heap.objs.size x y u →
      (∀ c o, c ≠ z → c ≠ TO → c ≠ i1 → c ≠ i2 → c ≠ i3 → s.heap.get? c = some o → h'.get? c = some o) → Q (.ref s.heap.objs.size) { s with heap := h' }) :
    wpAny (model prog w) A (Builtin.«zip.__next__» ⟨[.ref z], []⟩) (fun fin s' => ∃ v, fin = .done (.ret v) ∧ Q v s') E s := by
  obtain ⟨q1, q2, q3, q4, q5, q6, q7, q8⟩ := D
  have n1 : TI ≠ z := by rw [q6, q8]; exact Nat.ne_of_lt (Nat.add_lt_add_left (by decide) _)
  have n2 : TO ≠ z := by rw [q7, q8]; exact Nat.ne_of_lt (Nat.add_lt_add_left (by decide) _)
  have n3 : i1 ≠ z := by rw [q8]; exact Nat.ne_of_lt (Nat.lt_add_of_pos_right (by decide))
  have n4 : i2 ≠ z := by rw [q4, q8]; exact Nat.ne_of_lt (Nat.add_lt_add_left (by decide) _)
  have n5 : i3 ≠ z := by rw [q5, q8]; exact Nat.ne_of_lt (Nat.add_lt_add_left (by decide) _)
  have n6 : l1 ≠ z := by rw [q8]; exact Nat.ne_of_lt (Nat.lt_of_lt_of_le q1 (Nat.le_add_right _ _))
  have n7 : l2 ≠ z := by rw [q8]; exact Nat.ne_of_lt (Nat.lt_of_lt_of_le q2 (Nat.le_add_right _ _))
  have n8 : l3 ≠ z := by rw [q8]; exact Nat.ne_of_lt (Nat.lt_of_lt_of_le q3 (Nat.le_add_right _ _))
  have m1 : TO ≠ i1 := by rw [q7]; exact Nat.ne_of_gt (Nat.lt_add_of_pos_right (by decide))
  have m2 : TO ≠ i2 := by rw [q7, q4]; exact Nat.ne_of_gt (Nat.add_lt_add_left (by decide) _)
  have m3 : TO ≠ i3 := by rw [q7, q5]; exact Nat.ne_of_gt (Nat.add_lt_add_left (by decide) _)
  have m4 : l1 ≠ TO := by rw [q7]; exact Nat.ne_of_lt (Nat.lt_of_lt_of_le q1 (Nat.le_add_right _ _))
  have m5 : l2 ≠ TO := by rw [q7]; exact Nat.ne_of_lt (Nat.lt_of_lt_of_le q2 (Nat.le_add_right _ _))
  have m6 : l3 ≠ TO := by rw [q7]; exact Nat.ne_of_lt (Nat.lt_of_lt_of_le q3 (Nat.le_add_right _ _))
  have m7 : l1 ≠ i1 := Nat.ne_of_lt q1
  have m8 : l2 ≠ i1 := Nat.ne_of_lt q2
  have m9 : l3 ≠ i1 := Nat.ne_of_lt q3
  have p1 : i1 ≠ i2 := by rw [q4]; exact Nat.ne_of_lt (Nat.lt_add_of_pos_right (by decide))
  have p2 : i1 ≠ i3 := by rw [q5]; exact Nat.ne_of_lt (Nat.lt_add_of_pos_right (by decide))
  have p3 : i2 ≠ i3 := by rw [q4, q5]; exact Nat.ne_of_lt (Nat.add_lt_add_left (by decide) _)
  have p4 : l2 ≠ i2 := by rw [q4]; exact Nat.ne_of_lt (Nat.lt_of_lt_of_le q2 (Nat.le_add_right _ _))
  have p5 : l3 ≠ i2 := by rw [q4]; exact Nat.ne_of_lt (Nat.lt_of_lt_of_le q3 (Nat.le_add_right _ _))
  have p6 : l3 ≠ i3 := by rw [q5]; exact Nat.ne_of_lt (Nat.lt_of_lt_of_le q3 (Nat.le_add_right _ _))
  show wpAny _ _ (field (.ref z) 2 >>= _) _ _ _
  refine wpAny_bind (wpAny_field hz rfl (x := .bool false) rfl ?_)
  show wpAny _ _ (field (.ref z) 3 >>= _) _ _ _
  refine wpAny_bind (wpAny_field hz rfl (x := .ref TI) rfl ?_)
  refine wpAny_bind (wpAny_seqItems hTI rfl ?_)
  show wpAny _ _ (Builtin.SmallTypes.ownedTupleIsFree (.ref z) >>= _) _ _ _
  refine wpAny_bind ?_
  unfold Builtin.SmallTypes.ownedTupleIsFree
  refine wpAny_bind (wpAny_field hz rfl (x := .none) rfl (wpAny_pure ?_))
  simp only [if_true]
  refine wpAny_bind (wpAny_rule ?_)
  refine wpAny_bind (wpAny_field hz rfl (x := .ref TO) rfl ?_)
  refine wpAny_bind (wpAny_setField_rec hz (by simp) fun h₁ hz₁ hs₁ => ?_)
  replace hz₁ : IsZip h₁ z TI TO .ellipsis := hz₁
  refine wpAny_bind ?_
  simp only [List.zipIdx_cons, List.zipIdx_nil, List.forIn_cons, List.forIn_nil]

  refine wpAny_bind (wpAny_bind (wpAny_onRaise ?_))
  show wpAny _ _ (Builtin.SmallTypes.nextOf (.ref i1) >>= _) _ _ _
  refine wpAny_bind (wpAny_nextOf_list_item (h1.extBut hs₁.extBut n3) (hl1.extBut hs₁.extBut n6) hx fun h₂ h1₂ hs₂ => wpAny_pure ?_)
  have hTO₂ : IsTrip h₂ TO a b c := hs₂.extBut _ _ m1 (hs₁.extBut _ _ n2 hTO)
  refine wpAny_bind (wpAny_seqItems hTO₂ rfl ?_)
  refine wpAny_bind (upd_trip hTO₂ fun h₃ hTO₃ hs₃ => ?_)
  replace hTO₃ : IsTrip h₃ TO x b c := hTO₃
  refine wpAny_bind (wpAny_letGo (wpAny_pure ?_))

  refine wpAny_bind (wpAny_bind (wpAny_onRaise ?_))
  show wpAny _ _ (Builtin.SmallTypes.nextOf (.ref i2) >>= _) _ _ _
  refine wpAny_bind (wpAny_nextOf_list_item (((h2.extBut hs₁.extBut n4).extBut hs₂.extBut p1.symm).extBut hs₃.extBut m2.symm)
    (((hl2.extBut hs₁.extBut n7).extBut hs₂.extBut m8).extBut hs₃.extBut m5) hy fun h₄ h2₄ hs₄ => wpAny_pure ?_)
  have hTO₄ : IsTrip h₄ TO x b c := hs₄.extBut _ _ m2 hTO₃
  refine wpAny_bind (wpAny_seqItems hTO₄ rfl ?_)
  refine wpAny_bind (upd_trip hTO₄ fun h₅ hTO₅ hs₅ => ?_)
  replace hTO₅ : IsTrip h₅ TO x y c := hTO₅
  refine wpAny_bind (wpAny_letGo (wpAny_pure ?_))

  refine wpAny_bind (wpAny_bind (wpAny_onRaise ?_))
  show wpAny _ _ (Builtin.SmallTypes.nextOf (.ref i3) >>= _) _ _ _
  refine wpAny_bind (wpAny_nextOf_list_item (((((h3.extBut hs₁.extBut n5).extBut hs₂.extBut p2.symm).extBut hs₃.extBut m3.symm).extBut hs₄.extBut p3.symm).extBut hs₅.extBut m3.symm)
    (((((hl3.extBut hs₁.extBut n8).extBut hs₂.extBut m9).extBut hs₃.extBut m6).extBut hs₄.extBut p5).extBut hs₅.extBut m6) hu fun h₆ h3₆ hs₆ => wpAny_pure ?_)
  have hTO₆ : IsTrip h₆ TO x y c := hs₆.extBut _ _ m3 hTO₅
  refine wpAny_bind (wpAny_seqItems hTO₆ rfl ?_)
  refine wpAny_bind (upd_trip hTO₆ fun h₇ hTO₇ hs₇ => ?_)
  replace hTO₇ : IsTrip h₇ TO x y u := hTO₇
  refine wpAny_bind (wpAny_letGo (wpAny_pure (wpAny_pure ?_)))

  refine wpAny_bind (wpAny_seqItems hTO₇ rfl ?_)
  refine wpAny_bind (wpAny_newTuple ?_)
  have hsz : h₇.objs.size = s.heap.objs.size := by rw [hs₇.1, hs₆.1, hs₅.1, hs₄.1, hs₃.1, hs₂.1, hs₁.1]
  have hz₇ : IsZip h₇ z TI TO .ellipsis := hs₇.extBut _ _ n2.symm (hs₆.extBut _ _ n5.symm (hs₅.extBut _ _ n2.symm (hs₄.extBut _ _ n4.symm (hs₃.extBut _ _ n2.symm (hs₂.extBut _ _ n3.symm hz₁)))))
  have hk₇ : ∀ c o, c ≠ z → c ≠ TO → c ≠ i1 → c ≠ i2 → c ≠ i3 → s.heap.get? c = some o → h₇.get? c = some o := fun c o c1 c2 c3 c4 c5 e =>
    hs₇.extBut _ _ c2 (hs₆.extBut _ _ c5 (hs₅.extBut _ _ c2 (hs₄.extBut _ _ c4 (hs₃.extBut _ _ c2 (hs₂.extBut _ _ c3 (hs₁.extBut _ _ c1 e))))))
  have h1₇ : h₇.IsListIter i1 l1 (k1 + 1) := ((((h1₂.extBut hs₃.extBut m1.symm).extBut hs₄.extBut p1).extBut hs₅.extBut m1.symm).extBut hs₆.extBut p2).extBut hs₇.extBut m1.symm
  have h2₇ : h₇.IsListIter i2 l2 (k2 + 1) := ((h2₄.extBut hs₅.extBut m2.symm).extBut hs₆.extBut p3).extBut hs₇.extBut m2.symm
  have h3₇ : h₇.IsListIter i3 l3 (k3 + 1) := h3₆.extBut hs₇.extBut m3.symm
  have hzlt : z < h₇.objs.size := Heap.lt_size hz₇
  show wpAny _ _ (Builtin.SmallTypes.ownedTupleHandOut (.ref z) (.ref h₇.objs.size) >>= _) _ _ _
  refine wpAny_bind ?_
  unfold Builtin.SmallTypes.ownedTupleHandOut
  have hz₈ : IsZip (h₇.push { cls := .type "tuple", data := .seq #[x, y, u] }) z TI TO .ellipsis := Heap.get?_push_of_some _ hz₇
  refine wpAny_bind (wpAny_setField_rec hz₈ (by simp) fun h₉ hz₉ hs₉ => ?_)
  replace hz₉ : IsZip h₉ z TI TO (rawInt h₇.objs.size) := hz₉
  refine wpAny_setField_rec hz₉ (by simp) fun h₈ hz₈' hs₈ => ?_
  replace hz₈' : IsZip h₈ z TI TO (rawInt h₇.objs.size) := hz₈'
  have up : ∀ c o, c ≠ z → h₇.get? c = some o → h₈.get? c = some o := fun c o c1 e => hs₈.extBut _ _ c1 (hs₉.extBut _ _ c1 (Heap.get?_push_of_some _ e))
  have hT₈ : IsTrip h₈ h₇.objs.size x y u := hs₈.extBut _ _ (Nat.ne_of_gt hzlt) (hs₉.extBut _ _ (Nat.ne_of_gt hzlt) (Heap.get?_push_size _ rfl))
  rw [hsz] at hz₈' hT₈
  refine wpAny_pure ⟨_, rfl, ?_⟩
  show Q (.ref h₇.objs.size) _
  rw [hsz]
  exact hQ h₈ hz₈' (up _ _ n2 hTO₇) (h1₇.at fun o e => up _ o n3 e) (h2₇.at fun o e => up _ o n4 e) (h3₇.at fun o e => up _ o n5 e) hT₈ fun c o c1 c2 c3 c4 c5 e => up c o c1 (hk₇ c o c1 c2 c3 c4 c5 e)

theorem zip3_end {z TI TO i1 i2 i3 l1 l2 l3 : Addr} {k1 : Nat} {xs : Array Value} {a b c : Value} {Q : Fin → Shared → Prop} (hh : A.handled = none) (D : Z3 z TI TO i1 i2 i3 l1 l2 l3)
    (hz : IsZip s.heap z TI TO .none) (hTI : IsTrip s.heap TI (.ref i1) (.ref i2) (.ref i3)) (hTO : IsTrip s.heap TO a b c)
    (h1 : s.heap.IsListIter i1 l1 k1) (hl1 : s.heap.IsList l1 xs) (hx : xs[k1]? = none)
    (hE : ∀ h' e, (∀ c o, c ≠ z → c ≠ TO → c ≠ i1 → c ≠ i2 → c ≠ i3 → s.heap.get? c = some o → h'.get? c = some o) → (∃ o, h'.get? e = some o ∧ o.cls = .type "StopIteration") → E (.ref e) { s with heap := h' }) :
    wpAny (model prog w) A (Builtin.«zip.__next__» ⟨[.ref z], []⟩) Q E s := by
  obtain ⟨q1, q2, q3, q4, q5, q6, q7, q8⟩ := D
  have n3 : i1 ≠ z := by rw [q8]; exact Nat.ne_of_lt (Nat.lt_add_of_pos_right (by decide))
  have n6 : l1 ≠ z := by rw [q8]; exact Nat.ne_of_lt (Nat.lt_of_lt_of_le q1 (Nat.le_add_right _ _))
  show wpAny _ _ (field (.ref z) 2 >>= _) _ _ _
  refine wpAny_bind (wpAny_field hz rfl (x := .bool false) rfl ?_)
  show wpAny _ _ (field (.ref z) 3 >>= _) _ _ _
  refine wpAny_bind (wpAny_field hz rfl (x := .ref TI) rfl ?_)
  refine wpAny_bind (wpAny_seqItems hTI rfl ?_)
  show wpAny _ _ (Builtin.SmallTypes.ownedTupleIsFree (.ref z) >>= _) _ _ _
  refine wpAny_bind ?_
  unfold Builtin.SmallTypes.ownedTupleIsFree
  refine wpAny_bind (wpAny_field hz rfl (x := .none) rfl (wpAny_pure ?_))
  simp only [if_true]
  refine wpAny_bind (wpAny_rule ?_)
  refine wpAny_bind (wpAny_field hz rfl (x := .ref TO) rfl ?_)
  refine wpAny_bind (wpAny_setField_rec hz (by simp) fun h₁ hz₁ hs₁ => ?_)
  replace hz₁ : IsZip h₁ z TI TO .ellipsis := hz₁
  refine wpAny_bind ?_
  simp only [List.zipIdx_cons, List.zipIdx_nil, List.forIn_cons, List.forIn_nil]
  refine wpAny_bind (wpAny_bind (wpAny_onRaise ?_))
  show wpAny _ _ (Builtin.SmallTypes.nextOf (.ref i1) >>= _) _ _ _
  refine wpAny_bind (wpAny_nextOf_list_end hh (h1.extBut hs₁.extBut n3) (hl1.extBut hs₁.extBut n6) hx fun h₂ e hs₂ he => ?_)
  obtain ⟨oe, hoe, hce⟩ := he
  have hz₂ : IsZip h₂ z TI TO .ellipsis := hs₂ _ _ n3.symm hz₁
  have hez : e ≠ z := fun x => by subst x; rw [hz₂] at hoe; cases hoe; simp at hce
  refine wpAny_setField_rec hz₂ (by simp) fun h₃ _ hs₃ => hE h₃ e (fun c o c1 _ c3 _ _ x => hs₃.extBut _ _ c1 (hs₂ _ _ c3 (hs₁.extBut _ _ c1 x))) ⟨oe, hs₃.extBut _ _ hez hoe, hce⟩

noncomputable abbrev z3H1 (h : Heap) (l1 : Addr) : Heap := h.push { cls := .type "list_iterator", data := .fields #[.ref l1, .int 0 0] }
noncomputable abbrev z3H2 (h : Heap) (l1 l2 : Addr) : Heap := (z3H1 h l1).push { cls := .type "list_iterator", data := .fields #[.ref l2, .int 0 0] }
noncomputable abbrev z3H3 (h : Heap) (l1 l2 l3 : Addr) : Heap := (z3H2 h l1 l2).push { cls := .type "list_iterator", data := .fields #[.ref l3, .int 0 0] }
noncomputable abbrev z3H4 (h : Heap) (l1 l2 l3 : Addr) : Heap := (z3H3 h l1 l2 l3).push { cls := .type "tuple", data := .seq #[.ref h.objs.size, .ref (z3H1 h l1).objs.size, .ref (z3H2 h l1 l2).objs.size] }
noncomputable abbrev z3H5 (h : Heap) (l1 l2 l3 : Addr) : Heap := (z3H4 h l1 l2 l3).push { cls := .type "tuple", data := .seq #[.none, .none, .none] }
noncomputable abbrev z3H6 (h : Heap) (l1 l2 l3 : Addr) : Heap := (z3H5 h l1 l2 l3).push { cls := .type "zip", data := .fields #[.none, .bool false, .bool false, .ref (z3H3 h l1 l2 l3).objs.size, .ref (z3H4 h l1 l2 l3).objs.size] }

theorem meets_zip3 (l1 l2 l3 : Addr) (xs ys us : Array Value) :
    Meets (Builtin.«zip.__new__» ⟨[.type "zip", .ref l1, .ref l2, .ref l3], []⟩) (fun _ R s => s.heap.IsList l1 xs ∧ s.heap.IsList l2 ys ∧ s.heap.IsList l3 us ∧
      R (.ok (.ret (.ref (z3H5 s.heap l1 l2 l3).objs.size))) { s with heap := z3H6 s.heap l1 l2 l3 }) :=
  .of_wp fun prog w A R s h => by
    obtain ⟨hp, g, d, tk, os⟩ := s; obtain ⟨hl1, hl2, hl3, h⟩ := h
    have hsub := sub_zip
    have hL1 : Heap.IsList (Shared.heap ⟨hp, g, d, tk, os⟩) l1 xs := hl1
    have hL2 : Heap.IsList (Shared.heap ⟨hp.push { cls := .type "list_iterator", data := .fields #[.ref l1, .int 0 0] }, g, d, tk, os⟩) l2 ys := Heap.IsList.push hl2 _
    have hL3 : Heap.IsList (Shared.heap ⟨(hp.push { cls := .type "list_iterator", data := .fields #[.ref l1, .int 0 0] }).push { cls := .type "list_iterator", data := .fields #[.ref l2, .int 0 0] }, g, d, tk, os⟩) l3 us := Heap.IsList.push (Heap.IsList.push hl3 _) _
    wp_walk using wpAny_pyIter_list hL1, wpAny_pyIter_list hL2, wpAny_pyIter_list hL3
    exact ⟨_, rfl, h⟩
theorem args_init4 (a b c d : Value) : argsOk "object.__init__" ⟨[a, b, c, d], []⟩ := by
  unfold argsOk; rw [signature?_of (id := "object.__init__") (n := ['_', '_', 't', 'i', 'n', 'i', '_', '_']) (o := ['t', 'c', 'e', 'j', 'b', 'o']) (by kernel_rfl) PySem.F.owner_object]; kernel_rfl
theorem tcall3 (a b c : Value) : checkTypeCall "zip" ⟨[a, b, c], []⟩ = pure () := by kernel_rfl
theorem ncall3 (a b c : Value) : checkBuiltinCall "zip.__new__" ⟨[.type "zip", a, b, c], []⟩ = pure () := by kernel_rfl

theorem call_zip_3 {l1 l2 l3 : Addr} {xs ys us : Array Value} {Q : Value → Shared → Prop} (hl1 : s.heap.IsList l1 xs) (hl2 : s.heap.IsList l2 ys) (hl3 : s.heap.IsList l3 us)
    (h : ∀ h', IsZip h' (s.heap.objs.size + 5) (s.heap.objs.size + 3) (s.heap.objs.size + 4) .none → IsTrip h' (s.heap.objs.size + 3) (.ref s.heap.objs.size) (.ref (s.heap.objs.size + 1)) (.ref (s.heap.objs.size + 2)) →
      IsTrip h' (s.heap.objs.size + 4) .none .none .none → h'.IsListIter s.heap.objs.size l1 0 → h'.IsListIter (s.heap.objs.size + 1) l2 0 → h'.IsListIter (s.heap.objs.size + 2) l3 0 → h'.objs.size = s.heap.objs.size + 6 →
      (∀ c o, s.heap.get? c = some o → h'.get? c = some o) → Q (.ref (s.heap.objs.size + 5)) { s with heap := h' }) :
    wpAny (model prog w) A (call (.type "zip") [.ref l1, .ref l2, .ref l3]) Q E s := by
  refine callType_new F.called_zip (by decide) (tcall3 _ _ _) (ncall3 _ _ _) (fun obj => args_init4 obj _ _ _) F.entry_zip_new
    (meets_zip3 l1 l2 l3 xs ys us) ⟨hl1, hl2, hl3, ?_⟩
  have z1 : (z3H1 s.heap l1).objs.size = s.heap.objs.size + 1 := Heap.size_push ..
  have z2 : (z3H2 s.heap l1 l2).objs.size = s.heap.objs.size + 2 := by rw [Heap.size_push, z1]
  have z3 : (z3H3 s.heap l1 l2 l3).objs.size = s.heap.objs.size + 3 := by rw [Heap.size_push, z2]
  have z4 : (z3H4 s.heap l1 l2 l3).objs.size = s.heap.objs.size + 4 := by rw [Heap.size_push, z3]
  have z5 : (z3H5 s.heap l1 l2 l3).objs.size = s.heap.objs.size + 5 := by rw [Heap.size_push, z4]
  have z6 : (z3H6 s.heap l1 l2 l3).objs.size = s.heap.objs.size + 6 := by rw [Heap.size_push, z5]
  have u6 : ∀ {a o}, (z3H5 s.heap l1 l2 l3).get? a = some o → (z3H6 s.heap l1 l2 l3).get? a = some o := fun e => Heap.get?_push_of_some _ e
  have u5 : ∀ {a o}, (z3H4 s.heap l1 l2 l3).get? a = some o → (z3H6 s.heap l1 l2 l3).get? a = some o := fun e => u6 (Heap.get?_push_of_some _ e)
  have u4 : ∀ {a o}, (z3H3 s.heap l1 l2 l3).get? a = some o → (z3H6 s.heap l1 l2 l3).get? a = some o := fun e => u5 (Heap.get?_push_of_some _ e)
  have u3 : ∀ {a o}, (z3H2 s.heap l1 l2).get? a = some o → (z3H6 s.heap l1 l2 l3).get? a = some o := fun e => u4 (Heap.get?_push_of_some _ e)
  have u2 : ∀ {a o}, (z3H1 s.heap l1).get? a = some o → (z3H6 s.heap l1 l2 l3).get? a = some o := fun e => u3 (Heap.get?_push_of_some _ e)
  have u1 : ∀ {a o}, s.heap.get? a = some o → (z3H6 s.heap l1 l2 l3).get? a = some o := fun e => u2 (Heap.get?_push_of_some _ e)
  have g6 : (z3H6 s.heap l1 l2 l3).get? (z3H5 s.heap l1 l2 l3).objs.size = some _ := Heap.get?_push_size _ rfl
  have g5 : (z3H6 s.heap l1 l2 l3).get? (z3H4 s.heap l1 l2 l3).objs.size = some _ := u6 (Heap.get?_push_size _ rfl)
  have g4 : (z3H6 s.heap l1 l2 l3).get? (z3H3 s.heap l1 l2 l3).objs.size = some _ := u5 (Heap.get?_push_size _ rfl)
  have g3 : (z3H6 s.heap l1 l2 l3).get? (z3H2 s.heap l1 l2).objs.size = some _ := u4 (Heap.get?_push_size _ rfl)
  have g2 : (z3H6 s.heap l1 l2 l3).get? (z3H1 s.heap l1).objs.size = some _ := u3 (Heap.get?_push_size _ rfl)
  have g1 : (z3H6 s.heap l1 l2 l3).get? s.heap.objs.size = some _ := u2 (Heap.get?_push_size _ rfl)
  show _ ∧ _
  rw [z3, z4, z5] at g6
  rw [z4] at g5
  rw [z1, z2, z3] at g4
  rw [z2] at g3
  rw [z1] at g2
  rw [z5]
  exact ⟨⟨_, g6, rfl⟩, h _ g6 g4 g5 ⟨_, g1, rfl, rfl⟩ ⟨_, g2, rfl, rfl⟩ ⟨_, g3, rfl, rfl⟩ z6 fun c o x => u1 x⟩

theorem walks_zip3 (hh : A.handled = none) (z TI TO i1 i2 i3 l1 l2 l3 : Addr) (D : Z3 z TI TO i1 i2 i3 l1 l2 l3) (xs ys us : Array Value) (hxy : xs.size = ys.size) (hxu : xs.size = us.size) :
    WalksU prog w A z [z, TI, TO, i1, i2, i3, l1, l2, l3] [z, TO, i1, i2, i3] xs.size
      (fun i vals => ∃ x y u, xs[i]? = some x ∧ ys[i]? = some y ∧ us[i]? = some u ∧ vals = #[x, y, u])
      (fun i h => IsZip h z TI TO .none ∧ IsTrip h TI (.ref i1) (.ref i2) (.ref i3) ∧ (∃ a b c, IsTrip h TO a b c) ∧ h.IsListIter i1 l1 i ∧ h.IsListIter i2 l2 i ∧ h.IsListIter i3 l3 i ∧ h.IsList l1 xs ∧ h.IsList l2 ys ∧ h.IsList l3 us)
      (fun i T h => IsZip h z TI TO (rawInt T) ∧ IsTrip h TI (.ref i1) (.ref i2) (.ref i3) ∧ (∃ a b c, IsTrip h TO a b c) ∧ h.IsListIter i1 l1 (i + 1) ∧ h.IsListIter i2 l2 (i + 1) ∧ h.IsListIter i3 l3 (i + 1) ∧ h.IsList l1 xs ∧ h.IsList l2 ys ∧ h.IsList l3 us ∧
        T ≠ z ∧ T ≠ TO ∧ T ≠ i1 ∧ T ≠ i2 ∧ T ≠ i3) := by
  have D' := D
  obtain ⟨q1, q2, q3, q4, q5, q6, q7, q8⟩ := D
  have n1 : TI ≠ z := by rw [q6, q8]; exact Nat.ne_of_lt (Nat.add_lt_add_left (by decide) _)
  have n2 : TO ≠ z := by rw [q7, q8]; exact Nat.ne_of_lt (Nat.add_lt_add_left (by decide) _)
  have n3 : i1 ≠ z := by rw [q8]; exact Nat.ne_of_lt (Nat.lt_add_of_pos_right (by decide))
  have n4 : i2 ≠ z := by rw [q4, q8]; exact Nat.ne_of_lt (Nat.add_lt_add_left (by decide) _)
  have n5 : i3 ≠ z := by rw [q5, q8]; exact Nat.ne_of_lt (Nat.add_lt_add_left (by decide) _)
  have n6 : l1 ≠ z := by rw [q8]; exact Nat.ne_of_lt (Nat.lt_of_lt_of_le q1 (Nat.le_add_right _ _))
  have n7 : l2 ≠ z := by rw [q8]; exact Nat.ne_of_lt (Nat.lt_of_lt_of_le q2 (Nat.le_add_right _ _))
  have n8 : l3 ≠ z := by rw [q8]; exact Nat.ne_of_lt (Nat.lt_of_lt_of_le q3 (Nat.le_add_right _ _))
  have m0 : TI ≠ TO := by rw [q6, q7]; exact Nat.ne_of_lt (Nat.add_lt_add_left (by decide) _)
  have t1 : TI ≠ i1 := by rw [q6]; exact Nat.ne_of_gt (Nat.lt_add_of_pos_right (by decide))
  have t2 : TI ≠ i2 := by rw [q6, q4]; exact Nat.ne_of_gt (Nat.add_lt_add_left (by decide) _)
  have t3 : TI ≠ i3 := by rw [q6, q5]; exact Nat.ne_of_gt (Nat.add_lt_add_left (by decide) _)
  have m4 : l1 ≠ TO := by rw [q7]; exact Nat.ne_of_lt (Nat.lt_of_lt_of_le q1 (Nat.le_add_right _ _))
  have m5 : l2 ≠ TO := by rw [q7]; exact Nat.ne_of_lt (Nat.lt_of_lt_of_le q2 (Nat.le_add_right _ _))
  have m6 : l3 ≠ TO := by rw [q7]; exact Nat.ne_of_lt (Nat.lt_of_lt_of_le q3 (Nat.le_add_right _ _))
  have m7 : l1 ≠ i1 := Nat.ne_of_lt q1
  have m8 : l2 ≠ i1 := Nat.ne_of_lt q2
  have m9 : l3 ≠ i1 := Nat.ne_of_lt q3
  have r1 : l1 ≠ i2 := by rw [q4]; exact Nat.ne_of_lt (Nat.lt_of_lt_of_le q1 (Nat.le_add_right _ _))
  have r2 : l1 ≠ i3 := by rw [q5]; exact Nat.ne_of_lt (Nat.lt_of_lt_of_le q1 (Nat.le_add_right _ _))
  have p4 : l2 ≠ i2 := by rw [q4]; exact Nat.ne_of_lt (Nat.lt_of_lt_of_le q2 (Nat.le_add_right _ _))
  have r3 : l2 ≠ i3 := by rw [q5]; exact Nat.ne_of_lt (Nat.lt_of_lt_of_le q2 (Nat.le_add_right _ _))
  have p5 : l3 ≠ i2 := by rw [q4]; exact Nat.ne_of_lt (Nat.lt_of_lt_of_le q3 (Nat.le_add_right _ _))
  have p6 : l3 ≠ i3 := by rw [q5]; exact Nat.ne_of_lt (Nat.lt_of_lt_of_le q3 (Nat.le_add_right _ _))
  exact {
  sub := fun c hc => by simp at hc ⊢; rcases hc with rfl | rfl | rfl | rfl | rfl <;> simp
  frame := fun i h h' hst hk => by
    obtain ⟨hz, hTI, ⟨a, b, c, hTO⟩, h1, h2, h3, hl1, hl2, hl3⟩ := hst
    exact ⟨hk z (by simp) _ hz, hk TI (by simp) _ hTI, ⟨a, b, c, hk TO (by simp) _ hTO⟩, h1.at fun o e => hk i1 (by simp) o e, h2.at fun o e => hk i2 (by simp) o e, h3.at fun o e => hk i3 (by simp) o e,
      hl1.at fun o e => hk l1 (by simp) o e, hl2.at fun o e => hk l2 (by simp) o e, hl3.at fun o e => hk l3 (by simp) o e⟩
  item := fun i s Q E hi hst hQ => by
    obtain ⟨hz, hTI, ⟨a, b, c, hTO⟩, h1, h2, h3, hl1, hl2, hl3⟩ := hst
    have hiy : i < ys.size := hxy ▸ hi
    have hiu : i < us.size := hxu ▸ hi
    unfold pyNext
    have hT : s.TypeIs (.ref z) "zip" := ⟨_, hz, rfl⟩
    refine wpAny_bind (wpAny_attempt (wpAny_callSpecial?_slot (name := Str.ofString "__next__") hT F.slot_zip_next
      (wpAny_call_entry F.slot_zip_next hT F.entry_zip_next
        (zip3_item D' hz hTI hTO h1 h2 h3 hl1 hl2 hl3 (Array.getElem?_eq_getElem hi) (Array.getElem?_eq_getElem hiy) (Array.getElem?_eq_getElem hiu) fun h' a1 a2 a3 a4 a5 a6 hk => wpAny_pure ?_) (F.args_zip_next_1 _))))
    have lt : ∀ {c o}, s.heap.get? c = some o → s.heap.objs.size ≠ c := fun e => Nat.ne_of_gt (Heap.lt_size e)
    exact hQ s.heap.objs.size #[xs[i], ys[i], us[i]] h' s.toks ⟨_, _, _, Array.getElem?_eq_getElem hi, Array.getElem?_eq_getElem hiy, Array.getElem?_eq_getElem hiu, rfl⟩ ⟨_, a6, rfl, _, rfl⟩
      ⟨a1, hk _ _ n1 m0 t1 t2 t3 hTI, ⟨_, _, _, a2⟩, a3, a4, a5, hl1.at fun o e => hk _ o n6 m4 m7 r1 r2 e, hl2.at fun o e => hk _ o n7 m5 m8 p4 r3 e, hl3.at fun o e => hk _ o n8 m6 m9 p5 p6 e,
        lt hz, lt hTO, (by obtain ⟨_, e, _⟩ := h1; exact lt e), (by obtain ⟨_, e, _⟩ := h2; exact lt e), (by obtain ⟨_, e, _⟩ := h3; exact lt e)⟩
      fun c o hc e => hk c o (fun x => hc (by simp [x])) (fun x => hc (by simp [x])) (fun x => hc (by simp [x])) (fun x => hc (by simp [x])) (fun x => hc (by simp [x])) e
  go := fun elts k pos i T s Q E hm hQ => by
    obtain ⟨hz, hTI, ⟨a, b, c, hTO⟩, h1, h2, h3, hl1, hl2, hl3, _⟩ := hm
    refine wpAny_letOwnedTupleGo_zip hz fun h' hz' hs' => hQ h' ⟨hz', hs'.extBut _ _ n1 hTI, ⟨a, b, c, hs'.extBut _ _ n2 hTO⟩, h1.extBut hs'.extBut n3, h2.extBut hs'.extBut n4, h3.extBut hs'.extBut n5,
      hl1.extBut hs'.extBut n6, hl2.extBut hs'.extBut n7, hl3.extBut hs'.extBut n8⟩ fun c o hc e => hs'.extBut _ _ (fun x => hc (by simp [x])) e
  apart := fun i T h hm hT => by
    obtain ⟨_, _, _, _, _, _, _, _, _, t1, t2, t3, t4, t5⟩ := hm
    simp at hT
    rcases hT with rfl | rfl | rfl | rfl | rfl
    · exact t1 rfl
    · exact t2 rfl
    · exact t3 rfl
    · exact t4 rfl
    · exact t5 rfl
  done := fun s Q E hst hQ => by
    obtain ⟨hz, hTI, ⟨a, b, c, hTO⟩, h1, h2, h3, hl1, hl2, hl3⟩ := hst
    have hT : s.TypeIs (.ref z) "zip" := ⟨_, hz, rfl⟩
    unfold pyNext
    refine wpAny_bind (wpAny_attempt (wpAny_callSpecial?_slot (name := Str.ofString "__next__") hT F.slot_zip_next
      (wpAny_call_entry F.slot_zip_next hT F.entry_zip_next (zip3_end hh D' hz hTI hTO h1 hl1 (Array.getElem?_eq_none (Nat.le_refl _)) fun h' e hk he => ?_) (F.args_zip_next_1 _))))
    obtain ⟨o, ho, hc⟩ := he
    refine wpAny_bind (wpAny_isInstance (T := "StopIteration") (b := true) ⟨o, ho, hc⟩ isSubtype_stop ?_)
    exact wpAny_pure (hQ _ _ fun c o hc e =>
      hk c o (fun x => hc (by simp [x])) (fun x => hc (by simp [x])) (fun x => hc (by simp [x])) (fun x => hc (by simp [x])) (fun x => hc (by simp [x])) e)
  self := fun i s Q E hst hQ => wpAny_pyIter_zip hst.1 hQ }

structure UseZ3 (J : Nat → List Value → Prop) : Prop where
theorem zip3_src {J : Nat → List Value → Prop} (_ : UseZ3 J) {elt : Expr} {x₁ x₂ x₃ : Str} {scope : Scope} {cl : List (Str × Addr)} {Fin : Shared → List Value → List (Addr × Obj) → Prop} {l₁ l₂ l₃ : Addr} {as bs cs : List Value} {n₁ n₂ n₃ : Nat} {news : List (Addr × Obj)}
    (hh : A.handled = none) (F : Fr h₀ L s.heap m) (N : News h₀ L s.heap news)
    (hl₁ : s.heap.get? l₁ = some (listOf as.toArray n₁)) (hl₂ : s.heap.get? l₂ = some (listOf bs.toArray n₂)) (hl₃ : s.heap.get? l₃ = some (listOf cs.toArray n₃))
    (hsz : Hold (as.length = bs.length ∧ as.length = cs.length ∧ as.length ≤ sizeLine)) (hJ : Hold (J 0 []))
    (step : Hold (∀ i x y u ys C oC D m₂ h tk (E' : Value → Shared → Prop), as[i]? = some x → bs[i]? = some y → cs[i]? = some u → J i ys → NsObj oC m₂ → m₂ x₁ = some x → m₂ x₂ = some y → m₂ x₃ = some u → Fr h₀ L h m → News h₀ L h ((C, oC) :: (D, lst ys) :: news) → (@Ne Nat C D) →
      wpAny (model prog w) A (eval elt (compEnvC scope cl C env)) (RowEnd { s with heap := h, toks := tk } (fun y => J (i + 1) (ys ++ [y]))) E' { s with heap := h, toks := tk }))
    (fin : Hold (∀ g ys, J as.length ys → ys.length = as.length → Fin { s with heap := g } ys news)) :
    wpAny (model prog w) A (call (.type "zip") [.ref l₁, .ref l₂, .ref l₃]) (RowsSrc prog w A h₀ L m env elt [x₁, x₂, x₃] scope cl Fin) E s := by
  have a1 : l₁ < s.heap.objs.size := Heap.lt_size hl₁
  have a2 : l₂ < s.heap.objs.size := Heap.lt_size hl₂
  have a3 : l₃ < s.heap.objs.size := Heap.lt_size hl₃
  have e1 : s.heap.IsList l₁ as.toArray := ⟨_, hl₁, rfl, _, rfl⟩
  have e2 : s.heap.IsList l₂ bs.toArray := ⟨_, hl₂, rfl, _, rfl⟩
  have e3 : s.heap.IsList l₃ cs.toArray := ⟨_, hl₃, rfl, _, rfl⟩
  refine call_zip_3 e1 e2 e3 fun h' hz hTI hTO hi1 hi2 hi3 hs hk => ?_
  have W := walks_zip3 (prog := prog) (w := w) hh _ _ _ _ _ _ _ _ _ (Z3.mk a1 a2 a3 rfl rfl rfl rfl rfl) as.toArray bs.toArray cs.toArray (by have hz : as.length = bs.length := hsz.1; simp [hz]) (by have hz : as.length = cs.length := hsz.2.1; simp [hz])
  have hn : as.toArray.size = as.length := by simp
  rw [hn] at W
  have above : ∀ k : Nat, h₀.get? (s.heap.objs.size + k) = none := fun k => by
    cases e : h₀.get? (s.heap.objs.size + k) with
    | none => rfl
    | some o => exact absurd (Heap.lt_size (F.keep _ _ e)) (Nat.not_lt.mpr (Nat.le_add_right _ _))
  have hlt := F.ns.lt
  refine ⟨_, _, _, _, _, _, _, news, J, rfl, hh, W.bound, hsz.2.2, ?_, ⟨hz, hTI, ⟨_, _, _, hTO⟩, hi1, hi2, hi3, e1.at fun o e => hk _ o e, e2.at fun o e => hk _ o e, e3.at fun o e => hk _ o e⟩, ?_, ?_, F.keeps hk, N.grown hk, hJ, ?_, ?_⟩
  · rintro i vals ⟨_, x, y, u, _, _, _, rfl⟩; rfl
  · intro b hb
    rw [hs]
    simp only [List.mem_cons, List.not_mem_nil, or_false] at hb
    rcases hb with rfl | rfl | rfl | rfl | rfl | rfl | rfl | rfl | rfl
    · exact Nat.add_lt_add_left (by decide) _
    · exact Nat.add_lt_add_left (by decide) _
    · exact Nat.add_lt_add_left (by decide) _
    · exact Nat.lt_add_of_pos_right (by decide)
    · exact Nat.add_lt_add_left (by decide) _
    · exact Nat.add_lt_add_left (by decide) _
    · exact Nat.lt_of_lt_of_le a1 (Nat.le_add_right _ _)
    · exact Nat.lt_of_lt_of_le a2 (Nat.le_add_right _ _)
    · exact Nat.lt_of_lt_of_le a3 (Nat.le_add_right _ _)
  · intro b hb
    have hbs : s.heap.objs.size ≤ b ∧ h₀.get? b = none := by
      simp only [List.mem_cons, List.not_mem_nil, or_false] at hb
      rcases hb with rfl | rfl | rfl | rfl | rfl
      · exact ⟨Nat.le_add_right _ _, above 5⟩
      · exact ⟨Nat.le_add_right _ _, above 4⟩
      · exact ⟨Nat.le_refl _, above 0⟩
      · exact ⟨Nat.le_add_right _ _, above 1⟩
      · exact ⟨Nat.le_add_right _ _, above 2⟩
    exact ⟨hbs.2, Nat.ne_of_gt (Nat.lt_of_lt_of_le hlt hbs.1), fun p hp => Nat.ne_of_lt (Nat.lt_of_lt_of_le (Heap.lt_size (N p hp).1) hbs.1)⟩
  · rintro i vals ys C oC D m₂ h tk E' hi ⟨_, x, y, u, hx, hy, hu, rfl⟩ hJ' hC hNm F' N' hne
    exact step i x y u ys C oC D m₂ h tk E' (by simpa using hx) (by simpa using hy) (by simpa using hu) hJ' hC hNm.1 hNm.2.1 hNm.2.2.1 F' N' hne
  · intro ys hJ' hl
    exact fin h' ys hJ' hl
end
end Mine
end
section -- R1
set_option maxRecDepth 20000
set_option maxHeartbeats 2000000
namespace Mine
open PySem PySem.Sre

noncomputable def stepN : Nat → Sre.M → Sre.M
  | 0, m => m
  | n + 1, m => stepN n m.step
theorem step_done {m : Sre.M} (h : m.outcome.isSome = true) : m.step = m := by unfold M.step; rw [if_pos h]
theorem stepN_done {m : Sre.M} (h : m.outcome.isSome = true) : ∀ n, stepN n m = m
  | 0 => rfl
  | n + 1 => by show stepN n m.step = m; rw [step_done h]; exact stepN_done h n
theorem runFor_stepN : ∀ (n : Nat) (m : Sre.M), M.runFor n m = stepN n m
  | 0, m => rfl
  | n + 1, m => by
    unfold M.runFor
    by_cases h : m.outcome.isSome = true
    · rw [if_pos h, stepN_done h]
    · rw [if_neg h]; exact runFor_stepN n m.step
theorem stepN_add : ∀ (a b : Nat) (m : Sre.M), stepN (a + b) m = stepN b (stepN a m)
  | 0, b, m => by rw [Nat.zero_add]; rfl
  | a + 1, b, m => by rw [Nat.add_right_comm]; exact stepN_add a b m.step

noncomputable def C1 : Array Nat := #[14, 4, 0, 1, 1, 6, 1, 16, 46, 1]
noncomputable def A1 (text : Array Nat) (s : Nat) (must first : Bool) (seen : Seen) : Sre.M :=
  { code := C1, text, lim := text.size, start := s, lastStart := text.size, mustAdvance := must, pc := 5, pos := s, handed := s, outermost := first, marks := #[], frames := [{ wait := .nextStart, pc := 5, pos := s, outermost := first }], weight := 1, seen }
/-- at the beginning of a line -/
noncomputable abbrev Bol (text : Array Nat) (s : Nat) : Prop := s = 0 ∨ text[s - 1]?.getD 0 = 10
noncomputable def Ends (n : Nat) (m : Sre.M) (s e : Nat) : Prop := ∃ m', stepN n m = m' ∧ m'.outcome = some .matched ∧ m'.start = s ∧ m'.handed = e
theorem Ends.go {k n : Nat} {m m' : Sre.M} {s e : Nat} (h : stepN k m = m') (r : Ends n m' s e) : Ends (k + n) m s e := by
  obtain ⟨m'', e, r⟩ := r
  exact ⟨m'', by rw [stepN_add, h, e], r⟩
theorem lit_no {m miss hit : Sre.M} {text : Array Nat} {pos w : Nat} (h : m.step = if text.size ≤ pos then miss else cond (text.getD pos 0 == w) hit miss) (hn : pos < text.size → text[pos]?.getD 0 ≠ w) : stepN 1 m = miss := by
  show m.step = _
  rw [h]
  split
  · rfl
  · rename_i q
    rw [Array.getD_eq_getD_getElem?, beq_false_of_ne (hn (Nat.lt_of_not_le q))]; rfl
theorem lit_yes {m miss hit : Sre.M} {text : Array Nat} {pos w : Nat} (h : m.step = if text.size ≤ pos then miss else cond (text.getD pos 0 == w) hit miss) (hp : pos < text.size) (hw : text[pos]?.getD 0 = w) : stepN 1 m = hit := by
  show m.step = _
  rw [h, if_neg (Nat.not_le.mpr hp), Array.getD_eq_getD_getElem?, hw, beq_self_eq_true]; rfl
theorem step_exec {m : Sre.M} (h0 : m.outcome = none) (h1 : m.answer = none) (h2 : m.pc < m.code.size) : m.step = m.exec := by
  unfold M.step
  rw [h0, h1]
  exact if_pos h2
theorem lit_step {m : Sre.M} {w : Nat} (h0 : m.outcome = none) (h1 : m.answer = none) (h2 : m.pc < m.code.size) (ho : ops[m.word 0]? = some .LITERAL)
    (ha : ∀ c seen, accepts m.code m.pc c seen = .ok (c == w, seen)) (hw : itemWidth m.code m.pc = 2) :
    m.step = if m.lim ≤ m.pos then { m with seen := m.seen.add (m.word 0), answer := some false } else cond (m.text.getD m.pos 0 == w) { m with seen := m.seen.add (m.word 0), pc := m.pc + 2, pos := m.pos + 1 } { m with seen := m.seen.add (m.word 0), answer := some false } := by
  rw [step_exec h0 h1 h2]
  unfold M.exec
  rw [ho]
  dsimp only
  rw [ha, hw]
  split
  · rfl
  · cases m.text.getD m.pos 0 == w <;> rfl
theorem isAt_one (m : Sre.M) : m.isAt 1 = .ok (m.pos == 0 || m.text.getD (m.pos - 1) 0 == 10) := rfl
theorem at_step {m : Sre.M} (h0 : m.outcome = none) (h1 : m.answer = none) (h2 : m.pc < m.code.size) (ho : ops[m.word 0]? = some .AT) (hw : ∀ sn, ({ m with seen := sn } : Sre.M).word 1 = 1) :
    m.step = cond (m.pos == 0 || m.text.getD (m.pos - 1) 0 == 10) { m with seen := (m.seen.add (m.word 0)).add 44, pc := m.pc + 2 } { m with seen := (m.seen.add (m.word 0)).add 44, answer := some false } := by
  rw [step_exec h0 h1 h2]
  unfold M.exec
  rw [ho]
  dsimp only
  rw [hw, isAt_one]
  cases (m.pos == 0 || m.text.getD (m.pos - 1) 0 == 10) <;> rfl
noncomputable def frStart1 (s : Nat) (first : Bool) : Sre.Frame := { wait := .nextStart, pc := 5, pos := s, outermost := first }
noncomputable def St1 (text : Array Nat) (s : Nat) (must : Bool) (pc pos handed : Nat) (out : Bool) (frames : List Sre.Frame) (weight : Nat) (answer : Option Bool) (seen : Seen) : Sre.M :=
  { code := C1, text, lim := text.size, start := s, lastStart := text.size, mustAdvance := must, pc, pos, handed, outermost := out, marks := #[], frames, weight, answer, seen }
theorem one_step (m : Sre.M) : stepN 1 m = m.step := rfl
theorem st_at {text : Array Nat} {s q wt : Nat} {must out : Bool} {fr : List Sre.Frame} {seen : Seen} : (St1 text s must 5 s q out fr wt none seen).step = cond (s == 0 || text.getD (s - 1) 0 == 10) (St1 text s must 7 s q out fr wt none ((seen.add 6).add 44)) (St1 text s must 5 s q out fr wt (some false) ((seen.add 6).add 44)) :=
  at_step (m := St1 text s must 5 s q out fr wt none seen) rfl rfl (by show 5 < C1.size; decide) rfl (fun _ => rfl)
theorem st_lit7 {text : Array Nat} {s pos q wt : Nat} {must out : Bool} {fr : List Sre.Frame} {seen : Seen} : (St1 text s must 7 pos q out fr wt none seen).step = if text.size ≤ pos then St1 text s must 7 pos q out fr wt (some false) (seen.add 16) else cond (text.getD pos 0 == 46) (St1 text s must 9 (pos + 1) q out fr wt none (seen.add 16)) (St1 text s must 7 pos q out fr wt (some false) (seen.add 16)) :=
  lit_step (m := St1 text s must 7 pos q out fr wt none seen) (w := 46) rfl rfl (by show 7 < C1.size; decide) rfl (fun _ _ => rfl) rfl
theorem bol_bit {text : Array Nat} {s : Nat} : (s == 0 || text.getD (s - 1) 0 == 10) = true ↔ Bol text s := by
  rw [Array.getD_eq_getD_getElem?, Bool.or_eq_true, beq_iff_eq, beq_iff_eq]
theorem at_yes {text : Array Nat} {s q wt : Nat} {must out : Bool} {fr : List Sre.Frame} {seen : Seen} (h : Bol text s) : stepN 1 (St1 text s must 5 s q out fr wt none seen) = St1 text s must 7 s q out fr wt none ((seen.add 6).add 44) := by
  rw [one_step, st_at, bol_bit.mpr h]; rfl
theorem at_no {text : Array Nat} {s q wt : Nat} {must out : Bool} {fr : List Sre.Frame} {seen : Seen} (h : ¬ Bol text s) : stepN 1 (St1 text s must 5 s q out fr wt none seen) = St1 text s must 5 s q out fr wt (some false) ((seen.add 6).add 44) := by
  rw [one_step, st_at, Bool.eq_false_iff.mpr (fun e => h (bol_bit.mp e))]; rfl
theorem st_next {text : Array Nat} {s pc pos q : Nat} {must out first : Bool} {seen : Seen} : (St1 text s must pc pos q out [frStart1 s first] 1 (some false) seen).step = if s < text.size then A1 text (s + 1) false false seen else St1 text s must 5 s q first [] 0 (some false) seen := rfl
theorem next_yes {text : Array Nat} {s pc pos q : Nat} {must out first : Bool} {seen : Seen} (h : s < text.size) : stepN 1 (St1 text s must pc pos q out [frStart1 s first] 1 (some false) seen) = A1 text (s + 1) false false seen := by
  rw [one_step, st_next, if_pos h]
theorem next_no {text : Array Nat} {s pc pos q : Nat} {must out first : Bool} {seen : Seen} (h : text.size ≤ s) : (stepN 2 (St1 text s must pc pos q out [frStart1 s first] 1 (some false) seen)).outcome = some .failed := by
  show (stepN 1 (M.step _)).outcome = _
  rw [st_next, if_neg (Nat.not_lt.mpr h)]; rfl
theorem a1_miss {text : Array Nat} {s : Nat} {must first : Bool} {seen : Seen} (h : ¬ Bol text s) (hs : s < text.size) : stepN 2 (A1 text s must first seen) = A1 text (s + 1) false false ((seen.add 6).add 44) :=
  (stepN_add 1 1 _).trans ((congrArg (stepN 1) (at_no h)).trans (next_yes hs))
theorem a1_other {text : Array Nat} {s : Nat} {must first : Bool} {seen : Seen} (h : Bol text s) (hs : s < text.size) (hc : text[s]?.getD 0 ≠ 46) : stepN 3 (A1 text s must first seen) = A1 text (s + 1) false false (((seen.add 6).add 44).add 16) :=
  (stepN_add 1 2 _).trans ((congrArg (stepN 2) (at_yes h)).trans ((stepN_add 1 1 _).trans ((congrArg (stepN 1) (lit_no st_lit7 fun _ => hc)).trans (next_yes hs))))
theorem a1_fin {text : Array Nat} {s p q : Nat} {first : Bool} {seen : Seen} : Ends 3 (St1 text s false 9 p q first [frStart1 s first] 1 none seen) s p := by
  cases first <;> exact ⟨_, rfl, rfl, rfl, rfl⟩
theorem a1_hit {text : Array Nat} {s : Nat} {first : Bool} {seen : Seen} (h : Bol text s) (hs : s < text.size) (hc : text[s]?.getD 0 = 46) : Ends 5 (A1 text s false first seen) s (s + 1) :=
  .go (k := 1) (n := 4) (at_yes h) <| .go (k := 1) (n := 3) (lit_yes st_lit7 hs hc) a1_fin
theorem a1_end {text : Array Nat} {s : Nat} {must first : Bool} {seen : Seen} (hs : text.size ≤ s) : ∃ m', stepN 4 (A1 text s must first seen) = m' ∧ m'.outcome = some .failed := by
  refine ⟨_, rfl, ?_⟩
  by_cases h : Bol text s
  · have e1 := at_yes (q := s) (wt := 1) (must := must) (out := first) (fr := [frStart1 s first]) (seen := seen) h
    have e2 := lit_no (st_lit7 (s := s) (q := s) (wt := 1) (must := must) (out := first) (fr := [frStart1 s first]) (seen := (seen.add 6).add 44)) (fun q => absurd hs (Nat.not_le.mpr q))
    show (stepN 3 (stepN 1 (St1 text s must 5 s s first [frStart1 s first] 1 none seen))).outcome = _
    rw [e1, stepN_add 1 2, e2]
    exact next_no hs
  · have e1 := at_no (q := s) (wt := 1) (must := must) (out := first) (fr := [frStart1 s first]) (seen := seen) h
    show (stepN 3 (stepN 1 (St1 text s must 5 s s first [frStart1 s first] 1 none seen))).outcome = _
    rw [e1, stepN_add 2 1]
    have o := next_no (pc := 5) (pos := s) (q := s) (must := must) (out := first) (first := first) (seen := (seen.add 6).add 44) hs
    show (M.step _).outcome = _
    rw [step_done (by rw [o]; rfl)]
    exact o
/-- a dot at the beginning of a line -/
noncomputable def Hit1 (text : Array Nat) (s : Nat) : Prop := Bol text s ∧ text[s]?.getD 0 = 46
noncomputable def Srch (text : Array Nat) (H : Nat → Prop) (E : Nat → Nat) (s : Nat) (m' : Sre.M) : Prop :=
  (∃ b, s ≤ b ∧ b < text.size ∧ H b ∧ (∀ j, s ≤ j → j < b → ¬ H j) ∧ m'.outcome = some .matched ∧ m'.start = b ∧ m'.handed = E b) ∨ ((∀ j, s ≤ j → j < text.size → ¬ H j) ∧ m'.outcome = some .failed)
theorem a1_search {text : Array Nat} : ∀ (k s : Nat) (first : Bool) (seen : Seen), s + k = text.size → ∃ n m', n ≤ 3 * k + 5 ∧ stepN n (A1 text s false first seen) = m' ∧ Srch text (Hit1 text) (fun b => b + 1) s m'
  | 0, s, first, seen, h => by
    obtain ⟨m', e, o⟩ := a1_end (text := text) (s := s) (must := false) (first := first) (seen := seen) (by omega)
    exact ⟨4, m', by omega, e, .inr ⟨fun j h1 h2 => by omega, o⟩⟩
  | k + 1, s, first, seen, h => by
    have hs : s < text.size := by omega
    by_cases hb : Bol text s
    · by_cases hc : text[s]?.getD 0 = 46
      · obtain ⟨m', e, o⟩ := a1_hit (first := first) (seen := seen) hb hs hc
        exact ⟨5, m', by omega, e, .inl ⟨s, Nat.le_refl _, hs, ⟨hb, hc⟩, fun j h1 h2 => by omega, o⟩⟩
      · have e := a1_other (must := false) (first := first) (seen := seen) hb hs hc
        obtain ⟨n, m', hn, e', o⟩ := a1_search (text := text) k (s + 1) false (((seen.add 6).add 44).add 16) (by omega)
        refine ⟨3 + n, m', by omega, by rw [stepN_add, e]; exact e', ?_⟩
        rcases o with ⟨b, h1, h2, h3, h4, h5⟩ | ⟨h1, h2⟩
        · refine .inl ⟨b, by omega, h2, h3, fun j q1 q2 => ?_, h5⟩
          by_cases q : j = s
          · subst q; exact fun q => hc q.2
          · exact h4 j (by omega) q2
        · refine .inr ⟨fun j q1 q2 => ?_, h2⟩
          by_cases q : j = s
          · subst q; exact fun q => hc q.2
          · exact h1 j (by omega) q2
    · have e := a1_miss (must := false) (first := first) (seen := seen) hb hs
      obtain ⟨n, m', hn, e', o⟩ := a1_search (text := text) k (s + 1) false ((seen.add 6).add 44) (by omega)
      refine ⟨2 + n, m', by omega, by rw [stepN_add, e]; exact e', ?_⟩
      rcases o with ⟨b, h1, h2, h3, h4, h5⟩ | ⟨h1, h2⟩
      · refine .inl ⟨b, by omega, h2, h3, fun j q1 q2 => ?_, h5⟩
        by_cases q : j = s
        · subst q; exact fun q => hb q.1
        · exact h4 j (by omega) q2
      · refine .inr ⟨fun j q1 q2 => ?_, h2⟩
        by_cases q : j = s
        · subst q; exact fun q => hb q.1
        · exact h1 j (by omega) q2
theorem forSearch_eq (code text : Array Nat) (groups pos lim : Nat) (must : Bool) : forSearch code text groups pos lim must =
    (let m : Sre.M := { code, text, lim, start := pos, pc := (header code).2, pos, handed := pos, marks := Array.replicate (2 * groups) none, mustAdvance := must, seen := if (header code).2 == 0 then {} else ({} : Seen).add 14 }
     let least := (header code).1
     let hinted := (header code).2 != 0 && code.getD 2 0 &&& 5 != 0
     if pos > lim || lim - pos < least then m.say false
     else { m with lastStart := if least > 1 && !hinted then max pos (lim - (least - 1)) else lim }.attemptFrom pos true) := rfl
theorem search1 {text : Array Nat} {p : Nat} (hp : p ≤ text.size) : ∃ n m', n ≤ 3 * text.size + 5 ∧ stepN n (forSearch C1 text 0 p text.size false) = m' ∧ Srch text (Hit1 text) (fun b => b + 1) p m' := by
  by_cases h : p = text.size
  · subst h
    refine ⟨1, _, by omega, rfl, .inr ⟨fun j h1 h2 => by omega, ?_⟩⟩
    simp [forSearch_eq, header, C1, ops, stepN, M.step, M.say]
  · have e : forSearch C1 text 0 p text.size false = A1 text p false true (({} : Seen).add 14) := by
      have h1 : ¬ text.size < p := by omega
      have h2 : ¬ text.size - p = 0 := by omega
      simp [forSearch_eq, header, C1, ops, h1, h2, M.attemptFrom, M.hasFirstSet, M.attemptAt, M.attempt, A1]
    rw [e]
    obtain ⟨n, m', hn, r⟩ := a1_search (text := text) (text.size - p) p true (({} : Seen).add 14) (by omega)
    exact ⟨n, m', by omega, r⟩

noncomputable def C2 : Array Nat := #[14, 9, 4, 1, 2, 16, 10, 16, 13, 0, 7, 7, 16, 13, 16, 10, 15, 18, 5, 16, 10, 15, 13, 11, 16, 13, 5, 5, 0, 16, 10, 1, 15, 2, 0, 1]
noncomputable def A2 (text : Array Nat) (s : Nat) (first : Bool) (seen : Seen) : Sre.M :=
  { code := C2, text, lim := text.size, start := s, lastStart := text.size, mustAdvance := false, pc := 10, pos := s, handed := s, outermost := first, marks := #[], frames := [{ wait := .nextStart, pc := 10, pos := s, outermost := first }], weight := 1, seen }
noncomputable def frStart (s : Nat) (first : Bool) : Sre.Frame := { wait := .nextStart, pc := 10, pos := s, outermost := first }
noncomputable def frBranch (s : Nat) (first : Bool) (pc : Nat) : Sre.Frame := { wait := .nextBranch, pc, pos := s, outermost := first, kept := { lastmark := -1, lastindex := -1, whole := false, marks := #[] } }
noncomputable def frLook (s : Nat) (first : Bool) : Sre.Frame := { wait := .lookNot, pc := 26, pos := s + 1, outermost := first, kept := { lastmark := -1, lastindex := -1, whole := false, marks := #[] } }
noncomputable def St2 (text : Array Nat) (s : Nat) (pc pos handed : Nat) (out : Bool) (frames : List Sre.Frame) (weight : Nat) (answer : Option Bool) (seen : Seen) : Sre.M :=
  { code := C2, text, lim := text.size, start := s, lastStart := text.size, mustAdvance := false, pc, pos, handed, outermost := out, marks := #[], frames, weight, answer, seen }
theorem st_lit12 {text : Array Nat} {s pos q wt : Nat} {out : Bool} {fr : List Sre.Frame} {seen : Seen} : (St2 text s 12 pos q out fr wt none seen).step = if text.size ≤ pos then St2 text s 12 pos q out fr wt (some false) (seen.add 16) else cond (text.getD pos 0 == 13) (St2 text s 14 (pos + 1) q out fr wt none (seen.add 16)) (St2 text s 12 pos q out fr wt (some false) (seen.add 16)) :=
  lit_step (m := St2 text s 12 pos q out fr wt none seen) (w := 13) rfl rfl (by show 12 < C2.size; decide) rfl (fun _ _ => rfl) rfl
theorem st_lit14 {text : Array Nat} {s pos q wt : Nat} {out : Bool} {fr : List Sre.Frame} {seen : Seen} : (St2 text s 14 pos q out fr wt none seen).step = if text.size ≤ pos then St2 text s 14 pos q out fr wt (some false) (seen.add 16) else cond (text.getD pos 0 == 10) (St2 text s 16 (pos + 1) q out fr wt none (seen.add 16)) (St2 text s 14 pos q out fr wt (some false) (seen.add 16)) :=
  lit_step (m := St2 text s 14 pos q out fr wt none seen) (w := 10) rfl rfl (by show 14 < C2.size; decide) rfl (fun _ _ => rfl) rfl
theorem st_lit19 {text : Array Nat} {s pos q wt : Nat} {out : Bool} {fr : List Sre.Frame} {seen : Seen} : (St2 text s 19 pos q out fr wt none seen).step = if text.size ≤ pos then St2 text s 19 pos q out fr wt (some false) (seen.add 16) else cond (text.getD pos 0 == 10) (St2 text s 21 (pos + 1) q out fr wt none (seen.add 16)) (St2 text s 19 pos q out fr wt (some false) (seen.add 16)) :=
  lit_step (m := St2 text s 19 pos q out fr wt none seen) (w := 10) rfl rfl (by show 19 < C2.size; decide) rfl (fun _ _ => rfl) rfl
theorem st_lit24 {text : Array Nat} {s pos q wt : Nat} {out : Bool} {fr : List Sre.Frame} {seen : Seen} : (St2 text s 24 pos q out fr wt none seen).step = if text.size ≤ pos then St2 text s 24 pos q out fr wt (some false) (seen.add 16) else cond (text.getD pos 0 == 13) (St2 text s 26 (pos + 1) q out fr wt none (seen.add 16)) (St2 text s 24 pos q out fr wt (some false) (seen.add 16)) :=
  lit_step (m := St2 text s 24 pos q out fr wt none seen) (w := 13) rfl rfl (by show 24 < C2.size; decide) rfl (fun _ _ => rfl) rfl
theorem st_lit29 {text : Array Nat} {s pos q wt : Nat} {out : Bool} {fr : List Sre.Frame} {seen : Seen} : (St2 text s 29 pos q out fr wt none seen).step = if text.size ≤ pos then St2 text s 29 pos q out fr wt (some false) (seen.add 16) else cond (text.getD pos 0 == 10) (St2 text s 31 (pos + 1) q out fr wt none (seen.add 16)) (St2 text s 29 pos q out fr wt (some false) (seen.add 16)) :=
  lit_step (m := St2 text s 29 pos q out fr wt none seen) (w := 10) rfl rfl (by show 29 < C2.size; decide) rfl (fun _ _ => rfl) rfl
theorem a2_fin {text : Array Nat} {s p q k : Nat} {first : Bool} {seen : Seen} : Ends 4 (St2 text s 35 p q first [frBranch s first k, frStart s first] 2 none seen) s p := by
  cases first <;> exact ⟨_, rfl, rfl, rfl, rfl⟩
theorem a2_n {text : Array Nat} {s : Nat} {first : Bool} {seen : Seen} (hs : s < text.size) (hc : text[s]?.getD 0 = 10) : Ends 9 (A2 text s first seen) s (s + 1) :=
  .go (k := 1) (n := 8) (m' := St2 text s 12 s s first [frBranch s first 11, frStart s first] 2 none (seen.add 7)) rfl <|
  .go (k := 1) (n := 7) (lit_no st_lit12 (fun _ => by omega)) <|
  .go (k := 1) (n := 6) (m' := St2 text s 19 s s first [frBranch s first 18, frStart s first] 2 none ((seen.add 7).add 16)) rfl <|
  .go (k := 1) (n := 5) (lit_yes st_lit19 hs hc) <|
  .go (k := 1) (n := 4) (m' := St2 text s 35 (s + 1) s first [frBranch s first 18, frStart s first] 2 none ((((seen.add 7).add 16).add 16).add 15)) rfl a2_fin
theorem a2_rn {text : Array Nat} {s : Nat} {first : Bool} {seen : Seen} (hs : s + 1 < text.size) (hc : text[s]?.getD 0 = 13) (hd : text[s + 1]?.getD 0 = 10) : Ends 8 (A2 text s first seen) s (s + 2) :=
  .go (k := 1) (n := 7) (m' := St2 text s 12 s s first [frBranch s first 11, frStart s first] 2 none (seen.add 7)) rfl <|
  .go (k := 1) (n := 6) (lit_yes st_lit12 (Nat.lt_of_succ_lt hs) hc) <|
  .go (k := 1) (n := 5) (lit_yes st_lit14 hs hd) <|
  .go (k := 1) (n := 4) (m' := St2 text s 35 (s + 2) s first [frBranch s first 11, frStart s first] 2 none ((((seen.add 7).add 16).add 16).add 15)) rfl a2_fin
theorem a2_r' {text : Array Nat} {s q : Nat} {first : Bool} {seen : Seen} (hs : s < text.size) (hc : text[s]?.getD 0 = 13) (hd : s + 1 < text.size → text[s + 1]?.getD 0 ≠ 10) : Ends 12 (St2 text s 14 (s + 1) q first [frBranch s first 11, frStart s first] 2 (some false) seen) s (s + 1) :=
  .go (k := 1) (n := 11) (m' := St2 text s 19 s s first [frBranch s first 18, frStart s first] 2 none seen) rfl <|
  .go (k := 1) (n := 10) (lit_no st_lit19 (fun _ => by omega)) <|
  .go (k := 1) (n := 9) (m' := St2 text s 24 s s first [frBranch s first 23, frStart s first] 2 none (seen.add 16)) rfl <|
  .go (k := 1) (n := 8) (lit_yes st_lit24 hs hc) <|
  .go (k := 1) (n := 7) (m' := St2 text s 29 (s + 1) (s + 1) false [frLook s first, frBranch s first 23, frStart s first] 3 none (((seen.add 16).add 16).add 5)) rfl <|
  .go (k := 1) (n := 6) (lit_no st_lit29 hd) <|
  .go (k := 2) (n := 4) (m' := St2 text s 35 (s + 1) (s + 1) first [frBranch s first 23, frStart s first] 2 none (((((seen.add 16).add 16).add 5).add 16).add 15)) rfl a2_fin
theorem a2_r {text : Array Nat} {s : Nat} {first : Bool} {seen : Seen} (hs : s < text.size) (hc : text[s]?.getD 0 = 13) (hd : s + 1 < text.size → text[s + 1]?.getD 0 ≠ 10) : Ends 15 (A2 text s first seen) s (s + 1) :=
  .go (k := 1) (n := 14) (m' := St2 text s 12 s s first [frBranch s first 11, frStart s first] 2 none (seen.add 7)) rfl <|
  .go (k := 1) (n := 13) (lit_yes st_lit12 hs hc) <|
  .go (k := 1) (n := 12) (lit_no st_lit14 hd) <|
  a2_r' hs hc hd
/-- an end of line -/
noncomputable def Hit2 (text : Array Nat) (s : Nat) : Prop := text[s]?.getD 0 = 10 ∨ text[s]?.getD 0 = 13
/-- where the end of line at b ends -/
noncomputable def End2 (text : Array Nat) (b : Nat) : Nat := if text[b]?.getD 0 = 13 ∧ b + 1 < text.size ∧ text[b + 1]?.getD 0 = 10 then b + 2 else b + 1
theorem a2_all {text : Array Nat} {s : Nat} {first : Bool} {seen : Seen} (hs : s < text.size) (h : Hit2 text s) :
    ∃ n m', n ≤ 15 ∧ stepN n (A2 text s first seen) = m' ∧ m'.outcome = some .matched ∧ m'.start = s ∧ m'.handed = End2 text s := by
  rcases h with h | h
  · obtain ⟨m', e⟩ := a2_n (first := first) (seen := seen) hs h
    exact ⟨9, m', by omega, by rw [End2, if_neg (by omega)]; exact e⟩
  · by_cases h2 : s + 1 < text.size
    · by_cases h3 : text[s + 1]?.getD 0 = 10
      · obtain ⟨m', e⟩ := a2_rn (first := first) (seen := seen) h2 h h3
        exact ⟨8, m', by omega, by rw [End2, if_pos ⟨h, h2, h3⟩]; exact e⟩
      · obtain ⟨m', e⟩ := a2_r (first := first) (seen := seen) hs h (fun _ => h3)
        exact ⟨15, m', by omega, by rw [End2, if_neg (fun q => h3 q.2.2)]; exact e⟩
    · obtain ⟨m', e⟩ := a2_r (first := first) (seen := seen) hs h (fun q => absurd q h2)
      exact ⟨15, m', by omega, by rw [End2, if_neg (fun q => h2 q.2.1)]; exact e⟩
theorem inSet2 (c : Nat) (seen : Seen) : ∃ seen', inSet C2 c C2.size 5 true seen = .ok (decide (c = 10 ∨ c = 13), seen') := by
  by_cases h1 : c = 10
  · subst h1; exact ⟨_, rfl⟩
  · by_cases h2 : c = 13
    · subst h2; exact ⟨_, rfl⟩
    · refine ⟨((seen.add 16).add 16).add 0, ?_⟩
      have e1 : (c == 10) = false := by simpa using h1
      have e2 : (c == 13) = false := by simpa using h2
      simp [inSet, C2, ops, e1, e2, h1, h2]
noncomputable def admitted_is (m : Sre.M) (fuel s : Nat) (seen : Seen) (b : Option Nat) (seen' : Seen) : Prop := M.admitted m fuel s seen = .ok (b, seen')
theorem admitted2 {m : Sre.M} (hc : m.code = C2) (hl : m.lim = m.text.size) : ∀ (fuel s : Nat) (seen : Seen), m.text.size ≤ s + fuel →
    (∃ b seen', admitted_is m fuel s seen (some b) seen' ∧ s ≤ b ∧ b < m.text.size ∧ Hit2 m.text b ∧ (∀ j, s ≤ j → j < b → ¬ Hit2 m.text j)) ∨ (∃ seen', admitted_is m fuel s seen none seen' ∧ (∀ j, s ≤ j → j < m.text.size → ¬ Hit2 m.text j))
  | 0, s, seen, h => .inr ⟨seen, rfl, fun j h1 h2 => by omega⟩
  | fuel + 1, s, seen, h => by
    by_cases hs : m.text.size ≤ s
    · exact .inr ⟨seen, by unfold admitted_is M.admitted; rw [if_pos (by rw [hl]; exact hs)], fun j h1 h2 => by omega⟩
    · obtain ⟨seen', e⟩ := inSet2 (m.text.getD s 0) seen
      have hstep : M.admitted m (fuel + 1) s seen = if (m.text.getD s 0 = 10 ∨ m.text.getD s 0 = 13) then .ok (some s, seen') else M.admitted m fuel (s + 1) seen' := by
        rw [M.admitted, if_neg (by rw [hl]; exact hs), hc, e]
        by_cases q : m.text.getD s 0 = 10 ∨ m.text.getD s 0 = 13
        · rw [if_pos q, decide_eq_true q]
        · rw [if_neg q, decide_eq_false q]
      have hg : m.text.getD s 0 = m.text[s]?.getD 0 := by simp [Array.getD_eq_getD_getElem?]
      rw [hg] at hstep
      by_cases q : m.text[s]?.getD 0 = 10 ∨ m.text[s]?.getD 0 = 13
      · rw [if_pos q] at hstep
        exact .inl ⟨s, seen', hstep, Nat.le_refl _, by omega, q, fun j h1 h2 => by omega⟩
      · rw [if_neg q] at hstep
        rcases admitted2 hc hl fuel (s + 1) seen' (by omega) with ⟨b, se, h1, h2, h3, h4, h5⟩ | ⟨se, h1, h2⟩
        · refine .inl ⟨b, se, hstep.trans h1, by omega, h3, h4, fun j q1 q2 => ?_⟩
          by_cases qq : j = s
          · subst qq; exact q
          · exact h5 j (by omega) q2
        · refine .inr ⟨se, hstep.trans h1, fun j q1 q2 => ?_⟩
          by_cases qq : j = s
          · subst qq; exact q
          · exact h2 j (by omega) q2
theorem search2 {text : Array Nat} {p : Nat} (hp : p ≤ text.size) : ∃ n m', n ≤ 15 ∧ stepN n (forSearch C2 text 0 p text.size false) = m' ∧ Srch text (Hit2 text) (End2 text) p m' := by
  by_cases h : p = text.size
  · subst h
    refine ⟨1, _, by omega, rfl, .inr ⟨fun j h1 h2 => by omega, ?_⟩⟩
    simp [forSearch_eq, header, C2, ops, stepN, M.step, M.say]
  · have h1 : ¬ text.size < p := by omega
    have h2 : ¬ text.size - p = 0 := by omega
    obtain ⟨m, hm⟩ : ∃ m : Sre.M, m = { code := C2, text, lim := text.size, start := p, pc := 10, pos := p, handed := p, marks := #[], seen := ({} : Seen).add 14, lastStart := text.size } := ⟨_, rfl⟩
    have e : forSearch C2 text 0 p text.size false = m.attemptFrom p true := by
      rw [hm]
      simp [forSearch_eq, header, C2, ops, h1, h2]
    have hf : (!m.hasFirstSet) = false := by rw [hm]; rfl
    have e2 : m.attemptFrom p true = match M.admitted m (m.lim + 1 - p) p m.seen with
        | .ok (some s, seen) => ({ m with mustAdvance := false, seen } : Sre.M).attemptAt s true
        | .ok (none, seen) => ({ m with seen } : Sre.M).say false
        | .error why => m.stick why := by
      unfold M.attemptFrom
      rw [hf]; rfl
    rw [e, e2]
    have ht : m.text = text := by rw [hm]
    rcases admitted2 (m := m) (by rw [hm]) (by rw [hm]) (m.lim + 1 - p) p m.seen (by rw [hm]; show text.size ≤ p + (text.size + 1 - p); omega) with ⟨b, se, q1, q2, q3, q4, q5⟩ | ⟨se, q1, q2⟩
    · unfold admitted_is at q1
      rw [q1]
      rw [ht] at q3 q4 q5
      have e3 : ({ m with mustAdvance := false, seen := se } : Sre.M).attemptAt b true = A2 text b true se := by
        rw [hm]; simp [M.attemptAt, M.attempt, A2]
      show ∃ n m', n ≤ 15 ∧ stepN n (({ m with mustAdvance := false, seen := se } : Sre.M).attemptAt b true) = m' ∧ _
      rw [e3]
      obtain ⟨n, m', hn, r1, r2⟩ := a2_all (first := true) (seen := se) q3 q4
      exact ⟨n, m', hn, r1, .inl ⟨b, q2, q3, q4, q5, r2⟩⟩
    · unfold admitted_is at q1
      rw [q1]
      rw [ht] at q2
      refine ⟨1, _, by omega, rfl, .inr ⟨q2, ?_⟩⟩
      rw [hm]
      simp [stepN, M.step, M.say]
end Mine
end
section -- R2
open PySem PySem.W PyProof.Rows PySem.Calls
set_option maxRecDepth 20000
set_option maxHeartbeats 2000000
namespace Mine
open PySem.Builtin.Re
section
variable {prog : Program} {w : World} {A : Around} {E : Value → Shared → Prop} {s : Shared}
theorem drive_spec : ∀ (t n : Nat) (m : Sre.M) {Q : Sre.M → Shared → Prop}, n < 4 * t → (stepN n m).outcome.isSome = true → Q (stepN n m) s → wpAny (model prog w) A (reDrive t m) Q E s
  | 0, n, m, Q, hn, ho, hq => by
    omega
  | t + 1, n, m, Q, hn, ho, hq => by
    unfold reDrive
    show wpAny _ _ (if (m.runFor reTurnSteps).outcome.isSome then pure (m.runFor reTurnSteps) else do rule "sre.turn"; reDrive t (m.runFor reTurnSteps)) _ _ _
    have e4 : m.runFor reTurnSteps = stepN 4 m := runFor_stepN 4 m
    rw [e4]
    by_cases h : (stepN 4 m).outcome.isSome = true
    · rw [if_pos h]
      have e : stepN n m = stepN 4 m := by
        rcases Nat.le_total 4 n with q | q
        · obtain ⟨k, rfl⟩ := Nat.le.dest q
          rw [stepN_add, stepN_done h]
        · obtain ⟨k, hk⟩ := Nat.le.dest q
          rw [← hk, stepN_add, stepN_done ho]
      rw [e] at hq
      exact wpAny_pure hq
    · rw [if_neg h]
      have q : 4 ≤ n := by
        rcases Nat.le_total 4 n with q | q
        · exact q
        · obtain ⟨k, hk⟩ := Nat.le.dest q
          exact absurd (by rw [← hk, stepN_add, stepN_done ho]; exact ho) h
      obtain ⟨k, rfl⟩ := Nat.le.dest q
      rw [stepN_add] at ho hq
      exact wpAny_bind (wpAny_rule (drive_spec t k (stepN 4 m) (by omega) ho hq))
theorem rules_spec (c : Nat → Bool) (f : Nat → String) {Q : PUnit → Shared → Prop} (hq : Q PUnit.unit s) : ∀ l : List Nat, wpAny (model prog w) A (forIn l PUnit.unit fun i __s => if c i = true then do
              rule (f i)
              pure (ForInStep.yield PUnit.unit)
            else pure (ForInStep.yield PUnit.unit)) Q E s
  | [] => by
    simp only [List.forIn_nil]
    exact wpAny_pure hq
  | x :: r => by
    simp only [List.forIn_cons]
    have ih := rules_spec c f hq r
    by_cases h : c x = true
    · rw [if_pos h]
      exact wpAny_bind (wpAny_bind (wpAny_rule (wpAny_pure ih)))
    · rw [if_neg h]
      exact wpAny_bind (wpAny_pure ih)
/-- the machine's run as the builtins ask for it -/
theorem run_spec {m : Sre.M} {n : Nat} {Q : Option Sre.M → Shared → Prop} (hn : n < 1000000) (ho : (stepN n m).outcome = some .matched ∧ Q (some (stepN n m)) s ∨ (stepN n m).outcome = some .failed ∧ Q none s) :
    wpAny (model prog w) A (reRunToEnd m) Q E s := by
  unfold reRunToEnd
  have h64 : n < 4 * 2 ^ 64 := by omega
  have his : (stepN n m).outcome.isSome = true := by
    rcases ho with ⟨e, _⟩ | ⟨e, _⟩ <;> rw [e] <;> rfl
  refine wpAny_bind (drive_spec (2 ^ 64) n m h64 his ?_)
  refine wpAny_bind (rules_spec (fun i => (stepN n m).seen.has i) (fun i => Sre.names.getD i "") ?_ _)
  rcases ho with ⟨e, q⟩ | ⟨e, q⟩
  · rw [e]; exact wpAny_pure q
  · rw [e]; exact wpAny_pure q
end
end Mine
end
section -- R3
open PySem PySem.W PyProof.Rows PySem.Calls
set_option maxRecDepth 100000
set_option maxHeartbeats 2000000
namespace Mine
open PySem.Builtin.Re
theorem pat_attrs : PlainAttrs "re.Pattern" :=
  ⟨⟨"object.__getattribute__", by rw [typeLookup_type, builtinLookup_eq_fast]; kernel_rfl, by decide +kernel⟩, by rw [typeLookup_type, builtinLookup_eq_fast]; kernel_rfl⟩
theorem slot_sub : Slot "re.Pattern" "sub" "re.Pattern.sub" :=
  .of (owner := "re.Pattern") (n := "sub") (by rw [typeLookup_type, builtinLookup_eq_fast]; kernel_rfl) (by decide +kernel) (by decide +kernel) (by decide +kernel)
    (by first | exact .inl (by decide +kernel) | exact .inr (by decide +kernel)) (by rw [isSubtype_type]; kernel_rfl)
theorem type_sub : typeOf (.builtin "re.Pattern.sub") = pure (.type "method_descriptor") := by show builtinType _ = _; rw [builtinType_eq_fast]; kernel_rfl
theorem entry_sub : entryFor table "re.Pattern.sub" = some Builtin.«re.Pattern.sub» := entryFor_of_tree (by kernel_rfl)
theorem entry_sub_loop : entryFor table "re.Pattern.sub.loop" = some Builtin.«re.Pattern.sub.loop» := entryFor_of_tree (by kernel_rfl)
theorem owner_pat : Manifest.owners.lookup (String.ofList ['n', 'r', 'e', 't', 't', 'a', 'P', '.', 'e', 'r'].reverse) = some (Manifest.owners.lookup "re.Pattern").get! := by kernel_rfl
theorem args_sub (a b c : Value) : argsOk "re.Pattern.sub" ⟨[a, b, c], []⟩ := by
  unfold argsOk; rw [signature?_of (id := "re.Pattern.sub") (n := ['b', 'u', 's']) (o := ['n', 'r', 'e', 't', 't', 'a', 'P', '.', 'e', 'r']) (by kernel_rfl) owner_pat]; kernel_rfl

structure PatAt (h : Heap) (pa : Addr) (C : Array Nat) : Prop where
  at' : ∃ o fs ca oc items k, h.get? pa = some o ∧ o.cls = .type "re.Pattern" ∧ o.dict = none ∧ o.data = .fields fs ∧ fs.getD 5 .none = .ref ca ∧ fs.getD 6 .none = .int 0 0 ∧ fs.getD 2 .none = .int 0 0 ∧
    h.get? ca = some oc ∧ oc.data = .seq items k ∧ (items.map reRawOf).map (·.toNat) = C
theorem PatAt.keeps {h h' : Heap} {pa : Addr} {C : Array Nat} (x : PatAt h pa C) (k : ∀ b o, h.get? b = some o → h'.get? b = some o) : PatAt h' pa C := by
  obtain ⟨o, fs, ca, oc, items, n, e1, e2, e3, e4, e5, e6, e7, e8, e9⟩ := x.at'
  exact ⟨o, fs, ca, oc, items, n, k _ _ e1, e2, e3, e4, e5, e6, e7, k _ _ e8, e9⟩
section
variable {prog : Program} {w : World} {A : Around} {E : Value → Shared → Prop} {s : Shared}
theorem target_spec {pa : Addr} {C : Array Nat} {x : Str} {t : Tok} {Q : ReTarget → Shared → Prop} (P : PatAt s.heap pa C)
    (h : Q { pattern := .ref pa, string := .str x t, code := C, text := x.cps, kind := 0, groups := 0, pos := 0, lim := x.cps.size } s) : wpAny (model prog w) A (reWholeTarget (.ref pa) (.str x t)) Q E s := by
  obtain ⟨o, fs, ca, oc, items, n, e1, e2, e3, e4, e5, e6, e7, e8, e9, e10⟩ := P.at'
  unfold reWholeTarget
  refine wpAny_bind (wpAny_fieldsOf e1 e4 ?_)
  unfold reTextOf
  refine wpAny_bind (wpAny_bind ?_)
  unfold asStr?
  refine wpAny_pure ?_
  refine wpAny_pure ?_
  rw [e5, e6, e7]
  show wpAny _ _ (do
    reNoCollectionInside (Value.str x t) 0
    let it ← reRawItems (.ref ca)
    pure ({ pattern := Value.ref pa, string := Value.str x t, code := Array.map (fun x => x.toNat) it, text := x.cps, kind := 0, groups := 0, pos := 0, lim := x.cps.size } : ReTarget)) _ _ _
  have e : reNoCollectionInside (.str x t) 0 = pure () := rfl
  rw [e]
  refine wpAny_bind (wpAny_pure ?_)
  unfold reRawItems
  refine wpAny_bind (wpAny_bind (wpAny_seqItems e8 e9 (wpAny_pure (wpAny_pure ?_))))
  show Q { pattern := .ref pa, string := .str x t, code := Array.map (fun x => x.toNat) (Array.map reRawOf items), text := x.cps, kind := 0, groups := 0, pos := 0, lim := x.cps.size } s
  rw [e10]
  exact h
/-- what the sub makes of the text from p on -/
inductive SubTo (text : Array Nat) (H : Nat → Prop) (F : Nat → Nat) (r : List Nat) : Nat → List Nat → Prop
  | stop {p : Nat} : (∀ j, p ≤ j → j < text.size → ¬ H j) → SubTo text H F r p (text.extract p text.size).toList
  | hit {p b : Nat} {out : List Nat} : p ≤ b → b < text.size → H b → (∀ j, p ≤ j → j < b → ¬ H j) → SubTo text H F r (F b) out → SubTo text H F r p ((text.extract p b).toList ++ r ++ out)
noncomputable def cat (l : List Str) : List Nat := (l.map fun x => x.cps.toList).flatten
theorem den_builtin {id : String} {args : Args} {b : Builtin} (hb : entryFor table id = some b) : (model prog w).den (.builtin id args) = b args := by
  show (match entryFor table id with | some b => b args | none => unsupported ((withoutEnding? id "#data").getD id)) = _
  rw [hb]
theorem push_piece {li : Addr} {vs : List Value} {nn : Nat} {v : Value} {Q : Unit → Shared → Prop} (hli : s.heap.get? li = some (listOf (List.toArray vs) nn)) (hz : vs.length ≤ 5000)
    (h : ∀ h' nn', h'.get? li = some (listOf (List.toArray (vs ++ [v])) nn') → (∀ b o, b ≠ li → s.heap.get? b = some o → h'.get? b = some o) → Q () { s with heap := h' }) : wpAny (model prog w) A (updateSeq li (·.push v)) Q E s := by
  refine wpAny_updateSeq (hz := by rw [List.size_toArray, sizeLine_eq]; omega) (_hz' := by rw [Array.size_push, List.size_toArray, sizeLine_eq]; omega) hli rfl (h _ (nn + 1) ?_ fun b o hb e => (Heap.SameBut.update ..).extBut b o hb e)
  rw [Heap.get?_update_self _ hli (by rw [mapSeq_push]; rfl), mapSeq_push]
  simp
theorem slice0 {x : Array Nat} {a b : Nat} {Q : Value → Shared → Prop} (hx : x.size ≤ 1000) (h : Q (.str ⟨x.extract a b⟩ s.toks) { s with toks := s.toks + 1 }) : wpAny (model prog w) A (reSlice x 0 a b) Q E s := by
  show wpAny _ _ (mkStr ⟨x.extract a b⟩) _ _ _
  refine wpAny_mkStr h ?_
  show (x.extract a b).size ≤ sizeLine
  rw [sizeLine_eq, Array.size_extract]; omega
theorem strs_snoc : ∀ {vs : List Value} {ys : List Str} {y : Str} {t : Tok}, StrsAre vs ys → StrsAre (vs ++ [.str y t]) (ys ++ [y])
  | _, _, _, _, .nil => .cons _ _ .nil
  | _, _, _, _, .cons _ _ h => .cons _ _ (strs_snoc h)
theorem cat_snoc (ys : List Str) (y : Str) : cat (ys ++ [y]) = cat ys ++ y.cps.toList := by simp [cat]
theorem snoc_all {ys : List Str} {y : Str} (h : ∀ z ∈ ys, z.cps.size ≤ 1000) (hy : y.cps.size ≤ 1000) : ∀ z ∈ ys ++ [y], z.cps.size ≤ 1000 := by
  intro z hz
  rcases List.mem_append.mp hz with hz | hz
  · exact h z hz
  · rw [List.mem_singleton.mp hz]; exact hy
theorem quiet_loop {args : Args} : (Code.builtin "re.Pattern.sub.loop" args).quiet = true := plainId_quiet (by decide +kernel) args
theorem glue_go (g : Str) (hg : g.cps = #[]) : ∀ (l : List Str) (acc : Array Nat), (l.foldl (fun acc p => acc ++ g.cps ++ p.cps) acc).toList = acc.toList ++ cat l
  | [], acc => by simp [cat]
  | y :: r, acc => by
    rw [List.foldl_cons, glue_go g hg r, hg]
    simp [cat]
theorem join_cat {g : Str} {ys : List Str} (hg : g.cps = #[]) : (Txt.join g ys).cps.toList = cat ys := by
  show (((ys.drop 1).foldl (fun acc p => acc ++ g.cps ++ p.cps) (ys.headD Str.empty).cps)).toList = _
  rw [glue_go g hg]
  cases ys with
  | nil => rfl
  | cons y r => simp [cat]
theorem sum_le : ∀ (ys : List Str), (∀ y ∈ ys, y.cps.size ≤ 1000) → (ys.map (·.length)).sum ≤ ys.length * 1000
  | [], _ => by simp
  | y :: r, h => by
    have h1 := h y List.mem_cons_self
    have h2 := sum_le r fun z hz => h z (List.mem_cons_of_mem _ hz)
    have h3 : y.length = y.cps.size := rfl
    simp only [List.map_cons, List.sum_cons, List.length_cons]
    omega
theorem sub_loop {pa li : Addr} {C : Array Nat} {x r : Str} {t tr : Tok} {H : Nat → Prop} {F : Nat → Nat} {R : Result → Shared → Prop}
    (hs : ∀ p, p ≤ x.cps.size → ∃ n m', n < 1000000 ∧ stepN n (Sre.forSearch C x.cps 0 p x.cps.size false) = m' ∧ Srch x.cps H F p m')
    (hF : ∀ b, b < x.cps.size → H b → b < F b ∧ F b ≤ x.cps.size) (hx : x.cps.size ≤ 1000) (hr : r.cps.size ≤ 1000) :
    ∀ (k p cnt : Nat) (s : Shared) (vs : List Value) (ys : List Str) (nn : Nat), x.cps.size - p ≤ k → p ≤ x.cps.size → PatAt s.heap pa C → s.heap.get? li = some (listOf vs.toArray nn) → StrsAre vs ys → ys.length + 2 * (x.cps.size - p) ≤ 2 * x.cps.size → (∀ y ∈ ys, y.cps.size ≤ 1000) → (∀ o fs ca, s.heap.get? pa = some o → o.data = .fields fs → fs.getD 5 .none = .ref ca → ca ≠ li) →
      (∀ h' tk' t' z out, SubTo x.cps H F r.cps.toList p out → z.cps.toList = cat ys ++ out → (∀ b o, b ≠ li → s.heap.get? b = some o → h'.get? b = some o) → R (.ok (.ret (.str z t'))) { s with heap := h', toks := tk' }) →
      codeAny (model prog w) A (.builtin "re.Pattern.sub.loop" ⟨[.ref pa, .str x t, .str r tr, rawInt 0, rawInt 0, rawInt (cnt : Int), rawInt (p : Int), rawInt (p : Int), .bool false, .ref li, .bool false], []⟩) R s := by
    intro k
    induction k using Nat.strongRecOn with
    | _ k ih =>
    intro p cnt s vs ys nn hk hp P hli hst hyl hys hca ret
    refine codeAny_of_tree ?_
    rw [den_builtin entry_sub_loop]
    unfold Builtin.«re.Pattern.sub.loop»
    refine wpAny_bind (target_spec P ?_)
    dsimp only
    rw [if_pos (show ((0 : Int) == 0) = true from rfl)]
    have e0 : reLiteralCannotBeTurned (.str r tr) = (pure () : Sem Unit) := rfl
    rw [e0]
    refine wpAny_bind (wpAny_pure ?_)
    rw [if_neg (by simp)]
    refine wpAny_bind ?_
    unfold reNextFound
    obtain ⟨n, m', hn, hm, hS⟩ := hs p hp
    have hpn : ((p : Int)).toNat = p := Int.toNat_natCast p
    have hgo : ∀ {Q : Option Sre.M → Shared → Prop}, (∀ b, p ≤ b → b < x.cps.size → H b → (∀ j, p ≤ j → j < b → ¬ H j) → m'.start = b → m'.handed = F b → Q (some m') s) → ((∀ j, p ≤ j → j < x.cps.size → ¬ H j) → Q none s) →
        wpAny (model prog w) (A.under (Code.builtin "re.Pattern.sub.loop" ⟨[.ref pa, .str x t, .str r tr, rawInt 0, rawInt 0, rawInt (cnt : Int), rawInt (p : Int), rawInt (p : Int), .bool false, .ref li, .bool false], []⟩)) (reRunToEnd (Sre.forSearch C x.cps 0 ((p : Int)).toNat x.cps.size false)) Q (fun e s' => R (.error e) s') s := by
      intro Q h1 h2
      rw [hpn]
      refine run_spec hn ?_
      rw [hm]
      rcases hS with ⟨b, q1, q2, q3, q4, q5, q6, q7⟩ | ⟨q1, q2⟩
      · exact .inl ⟨q5, h1 b q1 q2 q3 q4 q6 q7⟩
      · exact .inr ⟨q2, h2 q1⟩
    refine hgo (fun b q1 q2 q3 q4 q6 q7 => ?_) (fun q1 => ?_)
    · dsimp only
      rw [q6, q7, hpn, if_pos (show ((0 : Int) == 0) = true from rfl)]
      have hFb := hF b q2 q3
      have hmf : (F b == b) = false := by
        cases q : F b == b with
        | false => rfl
        | true => have := eq_of_beq q; omega
      rw [hmf]
      have hitem : ((Value.str r tr) != Value.none) = true := rfl
      have go : ∀ (s₁ : Shared) (vs₁ : List Value) (ys₁ : List Str) (n₁ : Nat), (∃ h tk, s₁ = { s with heap := h, toks := tk }) → (∀ b o, b ≠ li → s.heap.get? b = some o → s₁.heap.get? b = some o) → s₁.heap.get? li = some (listOf vs₁.toArray n₁) → StrsAre vs₁ ys₁ → ys₁.length ≤ ys.length + 1 → (∀ y ∈ ys₁, y.cps.size ≤ 1000) → cat ys₁ = cat ys ++ (x.cps.extract p b).toList →
          wpAny (model prog w) (A.under (Code.builtin "re.Pattern.sub.loop" ⟨[.ref pa, .str x t, .str r tr, rawInt 0, rawInt 0, rawInt (cnt : Int), rawInt (p : Int), rawInt (p : Int), .bool false, .ref li, .bool false], []⟩))
            (do
              let item ← (pure (Value.str r tr) : Sem Value)
              if (item != Value.none) = true then do
                updateSeq li fun x => x.push item
                again (Code.builtin "re.Pattern.sub.loop" ⟨[.ref pa, .str x t, .str r tr, rawInt 0, rawInt 0, rawInt ((cnt : Int) + 1), rawInt (F b : Int), rawInt (F b : Int), .bool false, .ref li, .bool false], []⟩)
              else again (Code.builtin "re.Pattern.sub.loop" ⟨[.ref pa, .str x t, .str r tr, rawInt 0, rawInt 0, rawInt ((cnt : Int) + 1), rawInt (F b : Int), rawInt (F b : Int), .bool false, .ref li, .bool false], []⟩))
            (fun fin s' => match fin with
              | Fin.done f => R (Except.ok f) s'
              | Fin.again c' => c'.quiet = true ∧ codeAny (model prog w) A c' R s') (fun e s' => R (Except.error e) s') s₁ := by
        rintro s₁ vs₁ ys₁ n₁ ⟨h₁, tk₁, rfl⟩ k₁ l₁ st₁ len₁ all₁ cat₁
        refine wpAny_bind (wpAny_pure ?_)
        rw [if_pos hitem]
        refine wpAny_bind (push_piece l₁ (by rw [st₁.length]; omega) fun h₂ n₂ l₂ k₂ => wpAny_pure ⟨quiet_loop, ?_⟩)
        have ec : ((cnt : Int) + 1) = ((cnt + 1 : Nat) : Int) := by omega
        rw [ec]
        cases k with
        | zero => omega
        | succ k =>
          refine ih k (Nat.lt_succ_self k) (F b) (cnt + 1) { s with heap := h₂, toks := tk₁ } _ (ys₁ ++ [r]) n₂ (by omega) hFb.2 ⟨?_⟩ l₂ (strs_snoc st₁) (by rw [List.length_append, List.length_singleton]; omega) (snoc_all all₁ hr) ?_ ?_
          · obtain ⟨o, fs, ca, oc, items, n, e1, e2, e3, e4, e5, e6, e7, e8, e9, e10⟩ := P.at'
            have na : pa ≠ li := fun q => by rw [q, hli] at e1; cases e1; cases e4
            have nc : ca ≠ li := fun q => hca o fs ca e1 e4 e5 q
            exact ⟨o, fs, ca, oc, items, n, k₂ _ _ na (k₁ _ _ na e1), e2, e3, e4, e5, e6, e7, k₂ _ _ nc (k₁ _ _ nc e8), e9, e10⟩
          · intro o fs ca e1 e4 e5
            have na : pa ≠ li := fun q => by rw [q, l₂] at e1; cases e1; cases e4
            obtain ⟨o', fs', ca', oc, items, n, e1', e2, e3, e4', e5', e6, e7, e8, e9, e10⟩ := P.at'
            have e1'' := k₂ _ _ na (k₁ _ _ na e1')
            have : h₂.get? pa = some o := e1
            rw [this] at e1''; cases e1''
            exact hca o fs ca e1' e4 e5
          · intro h' tk' t' z out hsub hz hk'
            exact ret h' tk' t' z ((x.cps.extract p b).toList ++ r.cps.toList ++ out) (.hit q1 q2 q3 q4 hsub) (by rw [hz, cat_snoc, cat₁]; simp [List.append_assoc]) fun b o hb e => hk' b o hb (k₂ b o hb (k₁ b o hb e))
      by_cases hpb : p < b
      · rw [if_pos hpb]
        refine wpAny_bind (slice0 hx ?_)
        refine wpAny_bind (push_piece hli (by rw [hst.length]; omega) fun h₁ n₁ l₁ k₁ => ?_)
        exact go _ _ (ys ++ [⟨x.cps.extract p b⟩]) n₁ ⟨_, _, rfl⟩ k₁ l₁ (strs_snoc hst) (by rw [List.length_append, List.length_singleton]; omega) (snoc_all hys (by show (x.cps.extract p b).size ≤ 1000; rw [Array.size_extract]; omega)) (cat_snoc _ _)
      · rw [if_neg hpb]
        obtain rfl : p = b := by omega
        exact go s vs ys nn ⟨s.heap, s.toks, rfl⟩ (fun _ _ _ e => e) hli hst (by omega) hys (by simp)
    · dsimp only
      rw [hpn]
      have fin : ∀ (s₁ : Shared) (vs₁ : List Value) (ys₁ : List Str) (n₁ : Nat), (∃ h tk, s₁ = { s with heap := h, toks := tk }) → (∀ b o, b ≠ li → s.heap.get? b = some o → s₁.heap.get? b = some o) → s₁.heap.get? li = some (listOf vs₁.toArray n₁) → StrsAre vs₁ ys₁ → ys₁.length ≤ ys.length + 1 → (∀ y ∈ ys₁, y.cps.size ≤ 1000) → cat ys₁ = cat ys ++ (x.cps.extract p x.cps.size).toList →
          wpAny (model prog w) (A.under (Code.builtin "re.Pattern.sub.loop" ⟨[.ref pa, .str x t, .str r tr, rawInt 0, rawInt 0, rawInt (cnt : Int), rawInt (p : Int), rawInt (p : Int), .bool false, .ref li, .bool false], []⟩))
            (do
              let joiner ← reSlice x.cps 0 0 0
              let it ← seqItems? (Value.ref li)
              if (it.getD #[]).isEmpty = true then do
                let text ← (pure joiner : Sem Value)
                if false = true then do
                  let v ← holding [text] do
                    let c ← mkInt (cnt : Int)
                    newTuple [text, c]
                  PySem.ret v
                else PySem.ret text
              else do
                let text ← call (Value.builtin (if ((0 : Nat) == 0) = true then "str.join" else "bytes.join")) [joiner, Value.ref li]
                if false = true then do
                  let v ← holding [text] do
                    let c ← mkInt (cnt : Int)
                    newTuple [text, c]
                  PySem.ret v
                else PySem.ret text)
            (fun fin s' => match fin with
              | Fin.done f => R (Except.ok f) s'
              | Fin.again c' => c'.quiet = true ∧ codeAny (model prog w) A c' R s') (fun e s' => R (Except.error e) s') s₁ := by
        rintro s₁ vs₁ ys₁ n₁ ⟨h₁, tk₁, rfl⟩ k₁ l₁ st₁ len₁ all₁ cat₁
        refine wpAny_bind (slice0 hx ?_)
        refine wpAny_bind (wpAny_seqItems l₁ rfl ?_)
        have hend : ∀ h' tk' t' z, h' = h₁ → z.cps.toList = cat ys₁ → R (.ok (.ret (.str z t'))) { s with heap := h', toks := tk' } := fun h' tk' t' z e ez => by
          subst e
          exact ret h' tk' t' z _ (.stop q1) (by rw [ez, cat₁]) k₁
        by_cases hem : ((some vs₁.toArray).getD #[]).isEmpty = true
        · rw [if_pos hem]
          refine wpAny_bind (wpAny_pure ?_)
          rw [if_neg (by decide)]
          refine wpAny_pure (hend _ _ _ _ rfl ?_)
          have : vs₁ = [] := by simpa using hem
          subst this
          cases st₁
          simp [cat]
        · rw [if_neg hem, if_pos (by rfl)]
          obtain ⟨l, hv, ht⟩ := strsAre_values st₁
          refine wpAny_bind (SC.join (l := l) (texts := ys₁) (by rw [← hv]; exact ⟨_, l₁, rfl, _, rfl⟩) ht (joinOk_of ?_) fun t' k => ?_)
          · have h1 := sum_le ys₁ all₁
            have h2 : (Str.mk (x.cps.extract 0 0)).length = 0 := by show (x.cps.extract 0 0).size = 0; simp
            rw [h2]; omega
          · rw [if_neg (by decide)]
            exact wpAny_pure (hend _ _ _ _ rfl (join_cat (by simp)))
      by_cases hpb : p < x.cps.size
      · rw [if_pos hpb]
        refine wpAny_bind (slice0 hx ?_)
        refine wpAny_bind (push_piece hli (by rw [hst.length]; omega) fun h₁ n₁ l₁ k₁ => ?_)
        exact fin _ _ (ys ++ [⟨x.cps.extract p x.cps.size⟩]) n₁ ⟨_, _, rfl⟩ k₁ l₁ (strs_snoc hst) (by rw [List.length_append, List.length_singleton]; omega) (snoc_all hys (by show (x.cps.extract p x.cps.size).size ≤ 1000; rw [Array.size_extract]; omega)) (cat_snoc _ _)
      · rw [if_neg hpb]
        obtain rfl : p = x.cps.size := by omega
        exact fin s vs ys nn ⟨s.heap, s.toks, rfl⟩ (fun _ _ _ e => e) hli hst (by omega) hys (by simp)
end
end Mine
end
section -- R4
open PySem PySem.W PyProof.Rows PySem.Calls
set_option maxRecDepth 100000
set_option maxHeartbeats 2000000
namespace Mine
open PySem.Builtin.Re
section
variable {prog : Program} {w : World} {A : Around} {E : Value → Shared → Prop} {s : Shared}
theorem named_sub (a b : Value) : reNamed "re.Pattern.sub" "sub" ["repl", "string", "count"] 2 [a, b] [] = pure [some a, some b, none] := by rfl
theorem no_call : typeLookup (.type "str") "__call__" = pure none := by rw [typeLookup_type, builtinLookup_eq_fast]; kernel_rfl
theorem sub_call {pa : Addr} {C : Array Nat} {x r : Str} {t tr : Tok} {H : Nat → Prop} {F : Nat → Nat} {Q : Value → Shared → Prop}
    (hs : ∀ p, p ≤ x.cps.size → ∃ n m', n < 1000000 ∧ stepN n (Sre.forSearch C x.cps 0 p x.cps.size false) = m' ∧ Srch x.cps H F p m')
    (hF : ∀ b, b < x.cps.size → H b → b < F b ∧ F b ≤ x.cps.size) (hx : x.cps.size ≤ 1000) (hr : r.cps.size ≤ 1000) (hlit : r.cps.contains 92 = false) (P : PatAt s.heap pa C)
    (ret : ∀ h' tk' t' z, SubTo x.cps H F r.cps.toList 0 z.cps.toList → (∀ b o, s.heap.get? b = some o → h'.get? b = some o) → Q (.str z t') { s with heap := h', toks := tk' }) :
    wpAny (model prog w) A (call (.builtin "re.Pattern.sub") [.ref pa, .str r tr, .str x t]) Q E s := by
  have hT : s.TypeIs (.ref pa) "re.Pattern" := by
    obtain ⟨o, fs, ca, oc, items, n, e1, e2, _⟩ := P.at'
    exact ⟨o, e1, e2⟩
  refine wpAny_call (codeAny_call_builtin_at (plainId_quiet slot_sub.plain _) entry_sub (slot_sub.check _ _ _ _ _ _ _ _ hT (args_sub _ _ _) ?_))
  rw [Around.under_plainId slot_sub.plain]
  show wpAny _ _ (reSubstitute "re.Pattern.sub" "sub" false _) _ _ s
  unfold reSubstitute
  dsimp only
  rw [named_sub]
  refine wpAny_bind (wpAny_pure ?_)
  dsimp only
  refine wpAny_bind (wpAny_pure ?_)
  refine wpAny_bind (wpAny_specialOf (typeIs_str s r tr) no_call ?_)
  rw [if_neg (by decide)]
  refine wpAny_bind ?_
  show wpAny _ _ (asStr? (.str r tr) >>= _) _ _ s
  refine wpAny_bind ?_
  unfold asStr?
  refine wpAny_pure ?_
  refine wpAny_pure ?_
  refine wpAny_bind (wpAny_pure ?_)
  rw [if_neg (by decide), hlit]
  rw [if_pos (by rfl)]
  refine wpAny_bind (wpAny_pure ?_)
  dsimp only
  refine wpAny_bind (wpAny_holding (target_spec P ?_))
  rw [if_neg (by decide)]
  refine wpAny_bind ?_
  refine wpAny_newObj_type ?_
  refine wpAny_pure ⟨quiet_loop, ?_⟩
  have old : ∀ b o, s.heap.get? b = some o → (s.heap.push { cls := .type "list", dict := none, data := .seq ([] : List Value).toArray }).get? b = some o := fun b o e => Heap.get?_push_of_some _ e
  refine sub_loop hs hF hx hr (x.cps.size - 0) 0 0 { s with heap := _ } [] [] _ (Nat.le_refl _) (Nat.zero_le _) (P.keeps old) (Heap.get?_push_size _ rfl) .nil (by simp) (by simp) ?_ ?_
  · intro o fs ca e1 e4 e5
    obtain ⟨o', fs', ca', oc, items, n, e1', e2, e3, e4', e5', e6, e7, e8, e9, e10⟩ := P.at'
    have e1'' := old _ _ e1'
    rw [e1] at e1''; cases e1''
    rw [e4] at e4'; cases e4'
    rw [e5] at e5'; cases e5'
    exact Nat.ne_of_lt (Heap.lt_size e8)
  · intro h' tk' t' z out hsub hz hk
    have : z.cps.toList = out := by rw [hz]; rfl
    rw [← this] at hsub
    exact ret h' tk' t' z hsub fun b o e => hk b o (Nat.ne_of_lt (Heap.lt_size e)) (old b o e)
end
end Mine
end
section -- R5
open PySem
set_option maxRecDepth 100000
set_option maxHeartbeats 2000000
namespace Mine
noncomputable def crlf : List Nat → List Nat
  | [] => []
  | [c] => if c = 10 ∨ c = 13 then [13, 10] else [c]
  | c :: d :: r => if c = 13 ∧ d = 10 then 13 :: 10 :: crlf r else if c = 10 ∨ c = 13 then 13 :: 10 :: crlf (d :: r) else c :: crlf (d :: r)
theorem crlf_cons {c : Nat} {r : List Nat} (h : ¬ (c = 10 ∨ c = 13)) : crlf (c :: r) = c :: crlf r := by
  cases r with
  | nil => simp [crlf, h]
  | cons d r => rw [crlf, if_neg (by omega), if_neg h]
theorem crlf_rn {r : List Nat} : crlf (13 :: 10 :: r) = 13 :: 10 :: crlf r := by rw [crlf, if_pos ⟨rfl, rfl⟩]
theorem crlf_one {c : Nat} {r : List Nat} (h : c = 10 ∨ c = 13) (hr : c = 13 → ∀ d q, r = d :: q → d ≠ 10) : crlf (c :: r) = 13 :: 10 :: crlf r := by
  cases r with
  | nil => simp [crlf, h]
  | cons d r =>
    rw [crlf, if_neg (fun q => hr q.1 d r rfl q.2), if_pos h]
theorem crlf_app : ∀ {a r : List Nat}, (∀ c ∈ a, ¬ (c = 10 ∨ c = 13)) → crlf (a ++ r) = a ++ crlf r
  | [], r, _ => rfl
  | c :: a, r, h => by
    rw [List.cons_append, crlf_cons (h c List.mem_cons_self), crlf_app fun d hd => h d (List.mem_cons_of_mem _ hd)]; rfl
/-- dots at the beginning of a line are doubled -/
noncomputable def stuff : Bool → List Nat → List Nat
  | _, [] => []
  | f, c :: r => if f = true ∧ c = 46 then 46 :: 46 :: stuff false r else c :: stuff (c == 10) r

section
variable {text : Array Nat}
theorem drop_at {p : Nat} (h : p < text.size) : text.toList.drop p = text[p] :: text.toList.drop (p + 1) := by
  rw [List.drop_eq_getElem_cons (by simpa using h)]
  simp
theorem ext_nil {p : Nat} : (text.extract p p).toList = [] := by simp
theorem ext_cons {p b : Nat} (hpb : p < b) (hb : b ≤ text.size) : (text.extract p b).toList = text[p] :: (text.extract (p + 1) b).toList := by
  simp only [Array.toList_extract, List.extract_eq_drop_take]
  have hp : p < text.size := by omega
  rw [drop_at hp, show b - p = (b - (p + 1)) + 1 by omega, List.take_succ_cons]
theorem ext_drop {p b : Nat} (hpb : p ≤ b) (hb : b ≤ text.size) : text.toList.drop p = (text.extract p b).toList ++ text.toList.drop b := by
  simp only [Array.toList_extract, List.extract_eq_drop_take]
  conv => lhs; rw [← List.take_append_drop (b - p) (text.toList.drop p)]
  rw [List.drop_drop, show p + (b - p) = b by omega]
theorem opt_at {p : Nat} (h : p < text.size) : text[p]?.getD 0 = text[p] := by simp [h]
theorem ext_mem {p b c : Nat} (hb : b ≤ text.size) (h : c ∈ (text.extract p b).toList) : ∃ j, p ≤ j ∧ j < b ∧ text[j]?.getD 0 = c := by
  simp only [Array.toList_extract, List.extract_eq_drop_take] at h
  obtain ⟨k, hk, e⟩ := List.mem_iff_getElem.mp h
  rw [List.length_take, List.length_drop] at hk
  rw [List.getElem_take, List.getElem_drop] at e
  have hj : p + k < text.size := by have : text.toList.length = text.size := by simp
                                    omega
  exact ⟨p + k, by omega, by omega, by rw [opt_at hj, ← e]; simp⟩
theorem sub2_spec {p : Nat} {out : List Nat} (h : SubTo text (Hit2 text) (End2 text) [13, 10] p out) : p ≤ text.size → out = crlf (text.toList.drop p) := by
  induction h with
  | stop hn =>
    intro hp
    rw [ext_drop hp (Nat.le_refl _), crlf_app]
    · rw [List.drop_eq_nil_of_le (by simp)]; simp [crlf]
    · intro c hc q
      obtain ⟨j, h1, h2, h3⟩ := ext_mem (Nat.le_refl _) hc
      exact hn j h1 h2 (by unfold Hit2; rw [h3]; exact q)
  | @hit p b out h1 h2 h3 h4 h5 ih =>
    intro hp
    rw [ext_drop h1 (Nat.le_of_lt h2), crlf_app, List.append_assoc]
    · congr 1
      rw [drop_at h2]
      have hb := opt_at h2
      have hc : text[b] = 10 ∨ text[b] = 13 := by unfold Hit2 at h3; rw [hb] at h3; exact h3
      by_cases q : text[b]?.getD 0 = 13 ∧ b + 1 < text.size ∧ text[b + 1]?.getD 0 = 10
      · have e : End2 text b = b + 2 := by unfold End2; rw [if_pos q]
        rw [e] at ih
        have hd : text[b + 1]'(q.2.1) = 10 := by rw [← opt_at q.2.1]; exact q.2.2
        have hc1 : text[b] = 13 := by rw [← hb]; exact q.1
        rw [drop_at q.2.1, hd, hc1, crlf_rn, ← ih (by omega)]; rfl
      · have e : End2 text b = b + 1 := by unfold End2; rw [if_neg q]
        rw [e] at ih
        rw [crlf_one hc, ← ih (by omega)]; rfl
        intro hc1 d r hr hd
        by_cases hl : b + 1 < text.size
        · rw [drop_at hl] at hr
          have := (List.cons.inj hr).1
          exact q ⟨by rw [hb]; exact hc1, hl, by rw [opt_at hl, this]; exact hd⟩
        · rw [List.drop_eq_nil_of_le (by simp; omega)] at hr; cases hr
    · intro c hc q
      obtain ⟨j, j1, j2, j3⟩ := ext_mem (Nat.le_of_lt h2) hc
      exact h4 j j1 j2 (by unfold Hit2; rw [j3]; exact q)
theorem stuff_run : ∀ (k p b : Nat), b = p + k → b ≤ text.size → (∀ j, p ≤ j → j < b → ¬ Hit1 text j) → stuff (decide (Bol text p)) (text.toList.drop p) = (text.extract p b).toList ++ stuff (decide (Bol text b)) (text.toList.drop b)
  | 0, p, b, h, hb, hn => by
    obtain rfl : b = p := by omega
    rw [ext_nil]; rfl
  | k + 1, p, b, h, hb, hn => by
    have hp : p < text.size := by omega
    have h0 := hn p (Nat.le_refl _) (by omega)
    rw [drop_at hp, ext_cons (by omega) hb, stuff, if_neg (fun q => h0 ⟨of_decide_eq_true q.1, by rw [opt_at hp]; exact q.2⟩)]
    have e : (text[p] == 10) = decide (Bol text (p + 1)) := by
      have : Bol text (p + 1) ↔ text[p] = 10 := by unfold Bol; simp [hp]
      by_cases q : text[p] = 10
      · rw [decide_eq_true (this.mpr q), q]; rfl
      · rw [decide_eq_false (fun z => q (this.mp z))]; simpa using q
    rw [e, stuff_run k (p + 1) b (by omega) hb fun j j1 j2 => hn j (by omega) j2]
    rfl
theorem sub1_spec {p : Nat} {out : List Nat} (h : SubTo text (Hit1 text) (fun b => b + 1) [46, 46] p out) : p ≤ text.size → out = stuff (decide (Bol text p)) (text.toList.drop p) := by
  induction h with
  | @stop p hn =>
    intro hp
    rw [stuff_run (text.size - p) p text.size (by omega) (Nat.le_refl _) hn, List.drop_eq_nil_of_le (by simp)]
    simp [stuff]
  | @hit p b out h1 h2 h3 h4 h5 ih =>
    intro hp
    rw [stuff_run (b - p) p b (by omega) (by omega) h4, drop_at h2, List.append_assoc]
    have hc : text[b] = 46 := by rw [← opt_at h2]; exact h3.2
    rw [stuff, if_pos ⟨decide_eq_true h3.1, hc⟩, ih (by omega)]
    have e : decide (Bol text (b + 1)) = false := by
      have : Bol text (b + 1) ↔ text[b] = 10 := by unfold Bol; simp [h2]
      exact decide_eq_false fun z => by have := this.mp z; omega
    rw [e]; rfl
end
end Mine
end
section -- R6
open PySem
namespace Mine
noncomputable def row (k : Nat) : List Nat := List.replicate k 46
noncomputable def jn (sep : List Nat) : List Nat → List Nat
  | [] => []
  | [k] => row k
  | k :: l :: ks => row k ++ sep ++ jn sep (l :: ks)
noncomputable def dotk (k : Nat) : Nat := if k = 0 then 0 else k + 1
noncomputable def Sep (sep : List Nat) : Prop := sep = [10] ∨ sep = [13] ∨ sep = [13, 10]
theorem row_mem {k c : Nat} (h : c ∈ row k) : ¬ (c = 10 ∨ c = 13) := by
  have := List.eq_of_mem_replicate h
  omega
theorem jn_head {sep : List Nat} (hs : sep = [13]) : ∀ ks : List Nat, ∀ d q, jn sep ks = d :: q → d ≠ 10
  | [], d, q, h => by cases h
  | [k], d, q, h => by
    have : d ∈ row k := by
      have e : row k = d :: q := h
      rw [e]; exact List.mem_cons_self
    have := row_mem this
    omega
  | k :: l :: ks, d, q, h => by
    subst hs
    cases k with
    | zero =>
      have e : 13 :: jn [13] (l :: ks) = d :: q := h
      have := (List.cons.inj e).1
      omega
    | succ k =>
      have e : 46 :: (row k ++ [13] ++ jn [13] (l :: ks)) = d :: q := h
      have := (List.cons.inj e).1
      omega
theorem crlf_jn {sep : List Nat} (hs : Sep sep) : ∀ ks : List Nat, crlf (jn sep ks) = jn [13, 10] ks
  | [] => rfl
  | [k] => by
    have := crlf_app (a := row k) (r := []) fun c hc => row_mem hc
    simpa [jn, crlf] using this
  | k :: l :: ks => by
    have ih := crlf_jn hs (l :: ks)
    show crlf (row k ++ sep ++ jn sep (l :: ks)) = row k ++ [13, 10] ++ jn [13, 10] (l :: ks)
    rw [List.append_assoc, crlf_app fun c hc => row_mem hc, List.append_assoc]
    congr 1
    rcases hs with rfl | rfl | rfl
    · show crlf (10 :: jn [10] (l :: ks)) = _
      rw [crlf_one (.inl rfl) (by omega), ih]; rfl
    · show crlf (13 :: jn [13] (l :: ks)) = _
      rw [crlf_one (.inr rfl) (fun _ => jn_head rfl (l :: ks)), ih]; rfl
    · show crlf (13 :: 10 :: jn [13, 10] (l :: ks)) = _
      rw [crlf_rn, ih]; rfl
theorem stuff_false : ∀ (k : Nat) (r : List Nat), stuff false (row k ++ r) = row k ++ stuff (if k = 0 then false else false) r
  | 0, r => rfl
  | k + 1, r => by
    show stuff false (46 :: (row k ++ r)) = 46 :: (row k ++ _)
    rw [stuff, if_neg (by simp)]
    have := stuff_false k r
    simp only [ite_self] at this ⊢
    show 46 :: stuff ((46 : Nat) == 10) (row k ++ r) = _
    rw [show ((46 : Nat) == 10) = false from rfl, this]
theorem stuff_row (k : Nat) (r : List Nat) : stuff true (row k ++ r) = row (dotk k) ++ (if k = 0 then stuff true r else stuff false r) := by
  cases k with
  | zero => rfl
  | succ k =>
    show stuff true (46 :: (row k ++ r)) = _
    rw [stuff, if_pos ⟨rfl, rfl⟩, stuff_false]
    simp [dotk, row, List.replicate_succ]
theorem stuff_sep (f : Bool) (r : List Nat) : stuff f (13 :: 10 :: r) = 13 :: 10 :: stuff true r := by
  rw [stuff, if_neg (by omega)]
  show 13 :: stuff ((13 : Nat) == 10) (10 :: r) = _
  rw [stuff, if_neg (by omega)]; rfl
theorem stuff_jn : ∀ ks : List Nat, stuff true (jn [13, 10] ks) = jn [13, 10] (ks.map dotk)
  | [] => rfl
  | [k] => by
    have := stuff_row k []
    simpa [jn, stuff] using this
  | k :: l :: ks => by
    have ih := stuff_jn (l :: ks)
    show stuff true (row k ++ [13, 10] ++ jn [13, 10] (l :: ks)) = row (dotk k) ++ [13, 10] ++ jn [13, 10] ((l :: ks).map dotk)
    rw [List.append_assoc, stuff_row, List.append_assoc]
    congr 1
    show (if k = 0 then stuff true (13 :: 10 :: jn [13, 10] (l :: ks)) else stuff false (13 :: 10 :: jn [13, 10] (l :: ks))) = _
    rw [stuff_sep, stuff_sep, ite_self, ih]; rfl
theorem jn_length_le : ∀ (ks : List Nat) (sep : List Nat), sep.length ≤ 2 → (jn sep ks).length ≤ ks.sum + 2 * ks.length
  | [], _, _ => by simp [jn]
  | [k], _, _ => by simp [jn, row]
  | k :: l :: ks, sep, h => by
    have ih := jn_length_le (l :: ks) sep h
    simp only [jn, row, List.length_append, List.length_replicate, List.sum_cons, List.length_cons] at ih ⊢
    omega
end Mine
end
section -- S1
open PySem PySem.StrLaws PySem.Builtin PySem.Builtin.Str
namespace Mine
noncomputable def occ : Nat → List Nat → List Nat
  | _, [] => []
  | i, c :: r => if c = 13 ∧ r.head? = some 10 then i :: occ (i + 1) r else occ (i + 1) r
theorem occ_row (q : List Nat) : ∀ (k a : Nat), occ a (row k ++ q) = occ (a + k) q
  | 0, a => rfl
  | k + 1, a => by
    show occ a (46 :: (row k ++ q)) = _
    rw [occ, if_neg (by simp), occ_row q k (a + 1)]
    congr 1; omega
theorem crlf_cps : (Str.ofString "\r\n").cps = #[13, 10] := by decide +kernel
theorem occ_run {x y : Str} (hy : y.cps = #[13, 10]) : ∀ (r : List Nat) (i : Nat) (found : Array Nat) (free : Nat), x.cps.toList.drop i = r → i ≤ x.length → found.size ≤ i → (free ≤ i ∨ (free = i + 1 ∧ r.head? = some 10)) →
    (forIn (List.range' i (x.length + 1 - i)) (found, free) (occBody x y x.length (x.length + 1))).run.fst.toList = found.toList ++ occ i r := by
  have hn : x.cps.toList.length = x.length := by simp [Str.length]
  have hyl : y.length = 2 := by show y.cps.size = 2; rw [hy]; rfl
  have hyt : y.cps.toList = [13, 10] := by rw [hy]
  intro r
  induction r with
  | nil =>
    intro i found free hr hi hs hf
    have : x.length ≤ i := by rw [← hn]; exact List.drop_eq_nil_iff.mp hr
    have e : x.length + 1 - i = 1 := by omega
    rw [e]
    show (forIn [i] (found, free) (occBody x y x.length (x.length + 1)) : Id (Array Nat × Nat)).run.fst.toList = _
    rw [List.forIn_cons]
    unfold occBody
    rw [if_neg (fun h => by have := h.1.2; omega)]
    simp [occ]
  | cons c r ih =>
    intro i found free hr hi hs hf
    have hl : i < x.length := by
      rw [← hn]
      refine Nat.lt_of_not_le fun q => ?_
      rw [List.drop_eq_nil_of_le q] at hr; cases hr
    have hr2 : x.cps.toList.drop (i + 1) = r := by
      have := congrArg (List.drop 1) hr
      rw [List.drop_drop] at this
      exact this
    have e : x.length + 1 - i = (x.length + 1 - (i + 1)) + 1 := by omega
    rw [e, List.range'_succ, List.forIn_cons]
    have hsub : subAt x y i = ((c :: r).take 2 == [13, 10]) := by rw [subAt_eq, hr, hyl, hyt]
    by_cases hc : c = 13 ∧ r.head? = some 10
    · have hlen : i + 2 ≤ x.length := by
        have h1 := congrArg List.length hr2
        rw [List.length_drop, hn] at h1
        have : 1 ≤ r.length := by
          cases r with
          | nil => cases hc.2
          | cons => simp
        omega
      have hst : subAt x y i = true := by
        rw [hsub]
        cases r with
        | nil => cases hc.2
        | cons d r =>
          have h2 : d = 10 := by have := hc.2; simpa using this
          rw [hc.1, h2]; rfl
      have hfree : free ≤ i := by
        rcases hf with h | ⟨_, h⟩
        · exact h
        · have : c = 10 := by simpa using h
          omega
      have hb : occBody x y x.length (x.length + 1) i (found, free) = pure (ForInStep.yield (found.push i, i + 2)) := by
        unfold occBody
        rw [if_pos ⟨⟨⟨by show found.size < _; omega, hfree⟩, by omega⟩, hst⟩, hyl]
      rw [hb]
      show (forIn (List.range' (i + 1) _) (found.push i, i + 2) (occBody x y x.length (x.length + 1)) : Id (Array Nat × Nat)).run.fst.toList = _
      rw [ih (i + 1) (found.push i) (i + 2) hr2 (by omega) (by rw [Array.size_push]; omega) (.inr ⟨rfl, hc.2⟩), occ, if_pos hc]
      simp
    · have hst : subAt x y i = false := by
        rw [hsub]
        cases r with
        | nil => simp
        | cons d r =>
          have : ¬ (c = 13 ∧ d = 10) := by simpa using hc
          by_cases h1 : c = 13
          · have : d ≠ 10 := fun h => this ⟨h1, h⟩
            simp [this]
          · simp [h1]
      have hb : occBody x y x.length (x.length + 1) i (found, free) = pure (ForInStep.yield (found, free)) := by
        unfold occBody
        rw [if_neg fun h => by have := h.2; rw [hst] at this; cases this]
      rw [hb]
      show (forIn (List.range' (i + 1) _) (found, free) (occBody x y x.length (x.length + 1)) : Id (Array Nat × Nat)).run.fst.toList = _
      rw [ih (i + 1) found free hr2 (by omega) (by omega) (.inl (by rcases hf with h | h <;> omega)), occ, if_neg hc]
theorem occ_all {x y : Str} (hy : y.cps = #[13, 10]) : occurrences x y 0 x.length (x.length + 1) = occ 0 x.cps.toList := by
  rw [occ_eq]
  have := occ_run hy x.cps.toList 0 #[] 0 rfl (Nat.zero_le _) (Nat.le_refl _) (.inl (Nat.le_refl _))
  simpa using this
theorem parts_jn {x : Str} : ∀ (ks : List Nat) (a : Nat), ks ≠ [] → x.cps.toList.drop a = jn [13, 10] ks → partsFrom x 2 a (occ a (jn [13, 10] ks)) = ks.map fun k => (⟨(row k).toArray⟩ : Str)
  | [], _, h, _ => absurd rfl h
  | [k], a, _, h => by
    have e : occ a (row k) = [] := by
      have := occ_row [] k a
      simpa [occ] using this
    show partsFrom x 2 a (occ a (row k)) = _
    rw [e]
    show [strSub x a x.length] = _
    congr 1
    apply Str.ext'
    apply Array.toList_inj.mp
    rw [strSub_toList, h]
    show List.take _ (row k) = row k
    refine List.take_of_length_le ?_
    have h1 := congrArg List.length h
    rw [List.length_drop] at h1
    have hn : x.cps.toList.length = x.length := by simp [Str.length]
    rw [hn] at h1
    exact Nat.le_of_eq h1.symm
  | k :: k2 :: ks, a, _, h => by
    have hj : jn [13, 10] (k :: k2 :: ks) = row k ++ 13 :: 10 :: jn [13, 10] (k2 :: ks) := by
      show row k ++ [13, 10] ++ _ = _
      simp
    have hk : (row k).length = k := List.length_replicate
    rw [hj] at h ⊢
    have e : occ a (row k ++ 13 :: 10 :: jn [13, 10] (k2 :: ks)) = (a + k) :: occ (a + k + 2) (jn [13, 10] (k2 :: ks)) := by
      rw [occ_row, occ, if_pos ⟨rfl, rfl⟩, occ, if_neg (by simp)]
    have hd : x.cps.toList.drop (a + k + 2) = jn [13, 10] (k2 :: ks) := by
      have := congrArg (List.drop (k + 2)) h
      rw [List.drop_drop, ← Nat.add_assoc] at this
      rw [this]
      have e2 : k + 2 = (row k).length + 2 := by rw [hk]
      rw [e2, List.drop_append, List.drop_eq_nil_of_le (Nat.le_add_right _ _), Nat.add_sub_cancel_left]
      rfl
    rw [e]
    show strSub x a (a + k) :: partsFrom x 2 (a + k + 2) _ = _
    rw [parts_jn (k2 :: ks) (a + k + 2) (by simp) hd]
    rw [List.map_cons]
    congr 1
    apply Str.ext'
    apply Array.toList_inj.mp
    rw [strSub_toList, h]
    have e3 : a + k - a = (row k).length := by rw [hk]; omega
    rw [e3, List.take_left]
theorem kind_ge (x : Str) : 1 ≤ Builtin.Str.strKind x := by unfold Builtin.Str.strKind; split <;> (try split) <;> omega
theorem split_jn {z : Str} {ks : List Nat} (h0 : ks ≠ []) (h2 : 2 ≤ z.length) (h : z.cps.toList = jn [13, 10] ks) : Txt.split z (Str.ofString "\r\n") = ks.map fun k => (⟨(row k).toArray⟩ : Str) := by
  have hy := crlf_cps
  have hyl : (Str.ofString "\r\n").length = 2 := by show (Str.ofString "\r\n").cps.size = 2; rw [hy]; rfl
  have hyk : Builtin.Str.strKind (Str.ofString "\r\n") = 1 := by decide +kernel
  have hp := parts_jn (x := z) ks 0 h0 h
  unfold Txt.split
  rw [if_neg (by rw [hyl, hyk]; have := kind_ge z; simp; omega), occ_all hy, partsBetween_eq, hyl, h]
  split
  · rename_i he
    rw [List.isEmpty_iff.mp he] at hp
    rw [← hp]
    show [z] = [strSub z 0 z.length]
    rw [sub_whole]
  · exact hp
end Mine
end
section -- S2
open PySem PySem.W PySem.Calls PyProof.Rows PyProof.V PySem.Spec
namespace Mine
theorem carried_strs : ∀ {vs : List Value} {ys : List Str}, StrsAre vs ys → CarriedAll vs (ys.map PyData.str)
  | _, _, .nil => .nil
  | _, _, .cons _ _ r => .cons (.str _ _) (carried_strs r)
theorem canLay_strs : ∀ ys : List Str, (∀ y ∈ ys, PyData.strOk y = true) → PyData.canLayAll0 (ys.map PyData.str) = true
  | [], _ => rfl
  | y :: r, h => by simp [PyData.canLayAll0, PyData.canLay0, canLay_strs r fun z hz => h z (List.mem_cons_of_mem _ hz), h y List.mem_cons_self]
theorem depth_strs : ∀ ys : List Str, PyData.depthAll (ys.map PyData.str) = 0
  | [] => rfl
  | _ :: r => by simp [PyData.depthAll, PyData.depth, depth_strs r]
theorem shaped_strs (ys : List Str) (h : ∀ y ∈ ys, PyData.strOk y = true) : SeqAt.shaped (.list (ys.map PyData.str)) = true := by
  simp [SeqAt.shaped, PyData.canLay0, PyData.depth, canLay_strs _ h, depth_strs]
theorem same_strs : ∀ xs ys : List Str, PySem.Spec.sameAll (xs.map PyData.str) (ys.map PyData.str) = decide (xs = ys)
  | [], [] => by simp [PySem.Spec.sameAll]
  | [], _ :: _ => by simp [PySem.Spec.sameAll]
  | _ :: _, [] => by simp [PySem.Spec.sameAll]
  | a :: r, b :: t => by
    simp only [List.map_cons, PySem.Spec.sameAll, PySem.Spec.same, same_strs r t]
    by_cases h : a = b <;> by_cases h' : r = t <;> simp [h, h']
section
variable {prog : Program} {w : World} {A : Around} {E : Value → Shared → Prop} {s : Shared} {a b : Addr} {xs ys : List Value} {ns ms : List Str} {Q : Value → Shared → Prop}
theorem ne_strs (ha : s.heap.IsList a xs.toArray) (hb : s.heap.IsList b ys.toArray) (hi : StrsAre xs ns) (hj : StrsAre ys ms) (o1 : ∀ y ∈ ns, PyData.strOk y = true) (o2 : ∀ y ∈ ms, PyData.strOk y = true) (hu : A.units + 64 < cLine) (h : Q (.bool (!decide (ns = ms))) s) :
    wpAny (model prog w) A (compareOp .NotEq (.ref a) (.ref b)) Q E s :=
  ne_dataH_same (reads_newData ha (carried_strs hi)) (reads_newData hb (carried_strs hj)) (shaped_strs _ o1) (shaped_strs _ o2) hu (SeqAt.noMix_of_shape (.list .str) rfl _ _ (list_map_has fun _ => rfl) (list_map_has fun _ => rfl)) (by simp only [PySem.Spec.same]; rw [same_strs]; exact h)
end
end Mine
end
section -- M4
namespace Mine
/-- the worth at x -/
noncomputable def ev : List Int → Int → Int
  | [], _ => 0
  | c :: r, x => c + x * ev r x
theorem ev_append (l r : List Int) (x : Int) : ev (l ++ r) x = ev l x + x ^ l.length * ev r x := by
  induction l with
  | nil => simp [ev]
  | cons c l ih => simp only [List.cons_append, ev, List.length_cons, ih, Int.pow_succ]; grind
theorem ev_zeros (k : Nat) (r : List Int) (x : Int) : ev (List.replicate k 0 ++ r) x = x ^ k * ev r x := by
  induction k with
  | zero => simp
  | succ k ih => rw [List.replicate_succ, List.cons_append, ev, ih, Int.pow_succ]; grind
theorem ev_lin0 (r x : Int) : ∀ (cs : List Int) (p : Int), ev (List.zipWith (fun a b => a - r * b) (p :: cs) (cs ++ [0])) x = p + (x - r) * ev cs x
  | [], p => by simp [ev]
  | c :: cs, p => by
    show (p - r * c) + x * ev (List.zipWith (fun a b => a - r * b) (c :: cs) (cs ++ [0])) x = _
    rw [ev_lin0 r x cs c, ev]; grind
theorem ev_lin (r x : Int) (cs : List Int) : ev (lin r cs) x = (x - r) * ev cs x := by
  unfold lin; rw [ev_lin0]; simp
theorem ev_mulq0 (h q x : Int) : ∀ (cs : List Int) (p2 p1 : Int), ev (List.zipWith (fun (ab : Int × Int) c => q * ab.1 - 2 * h * ab.2 + c) (List.zip (cs ++ [0, 0]) (p1 :: cs ++ [0])) (p2 :: p1 :: cs)) x = (q - 2 * h * x + x * x) * ev cs x + p1 * (x - 2 * h) + p2
  | [], p2, p1 => by simp [ev]; grind
  | c :: cs, p2, p1 => by
    show (q * c - 2 * h * p1 + p2) + x * ev (List.zipWith (fun (ab : Int × Int) c => q * ab.1 - 2 * h * ab.2 + c) (List.zip (cs ++ [0, 0]) (c :: cs ++ [0])) (p1 :: c :: cs)) x = _
    rw [ev_mulq0 h q x cs p1 c, ev]; grind
theorem ev_mulq (h q x : Int) (cs : List Int) : ev (mulq h q cs) x = (q - 2 * h * x + x * x) * ev cs x := by
  unfold mulq
  have := ev_mulq0 h q x cs 0 0
  rw [this]; simp
theorem ev_hor (y x : Int) : ∀ cs : List Int, ev cs x = match hor y cs with | [] => 0 | r :: q => r + (x - y) * ev q x
  | [] => rfl
  | c :: cs => by
    have ih := ev_hor y x cs
    have hl := hor_length y cs
    unfold hor
    cases h : hor y cs with
    | nil =>
      rw [h] at hl
      have : cs = [] := List.length_eq_zero_iff.mp hl.symm
      subst this; simp [ev]
    | cons d ds =>
      rw [h] at ih
      have ih : ev cs x = d + (x - y) * ev ds x := ih
      show c + x * ev cs x = (c + y * d) + (x - y) * (d + x * ev ds x)
      rw [ih]; grind
theorem ev_sh (y x : Int) : ∀ (n : Nat) (cs : List Int), cs.length = n → ev (sh y cs) x = ev cs (x + y)
  | 0, cs, h => by rw [List.length_eq_zero_iff.mp h]; rfl
  | n + 1, cs, h => by
    cases q : hor y cs with
    | nil => have := hor_length y cs; rw [q, h] at this; cases this
    | cons r t =>
      have hl := hor_length y cs
      rw [q, h, List.length_cons] at hl
      have := ev_hor y (x + y) cs
      rw [q] at this
      have this : ev cs (x + y) = r + (x + y - y) * ev t (x + y) := this
      rw [sh_cons q, ev, ev_sh y x n t (by omega), this]
      grind
/-- two lists of one length and of one worth everywhere are one -/
theorem ev_zero : ∀ cs : List Int, (∀ x : Int, 0 < x → ev cs x = 0) → cs = List.replicate cs.length 0
  | [], _ => rfl
  | c :: r, h => by
    have hc : c = 0 := by
      refine Classical.byContradiction fun q => ?_
      have h1 := h (c.natAbs + 1) (by omega)
      rw [ev] at h1
      have hd : ((c.natAbs : Int) + 1) ∣ c := ⟨-ev r (c.natAbs + 1), by rw [Int.mul_neg]; omega⟩
      have := Int.le_of_dvd (b := (c.natAbs : Int)) (by omega) (by rw [Int.dvd_natAbs]; exact hd)
      omega
    subst hc
    have h2 : ∀ x : Int, 0 < x → ev r x = 0 := by
      intro x hx
      have h1 := h x hx
      rw [ev, Int.zero_add] at h1
      rcases Int.mul_eq_zero.mp h1 with q | q
      · omega
      · exact q
    rw [List.length_cons, List.replicate_succ, ← ev_zero r h2]
theorem ev_sub : ∀ (a b : List Int) (x : Int), a.length = b.length → ev (List.zipWith (· - ·) a b) x = ev a x - ev b x
  | [], [], x, _ => by simp [ev]
  | c :: a, d :: b, x, h => by
    show (c - d) + x * ev (List.zipWith (· - ·) a b) x = _
    rw [ev_sub a b x (by simpa using h), ev, ev]; grind
theorem zip_zero : ∀ (a b : List Int), a.length = b.length → List.zipWith (· - ·) a b = List.replicate (List.zipWith (fun x y : Int => x - y) a b).length 0 → a = b
  | [], [], _, _ => rfl
  | c :: a, d :: b, h, q => by
    have q : (c - d) :: List.zipWith (· - ·) a b = 0 :: List.replicate (List.zipWith (fun x y : Int => x - y) a b).length 0 := q
    have h1 := (List.cons.inj q).1
    have h2 := zip_zero a b (by simpa using h) (List.cons.inj q).2
    rw [h2, show c = d by omega]
theorem ev_inj {a b : List Int} (hl : a.length = b.length) (h : ∀ x : Int, ev a x = ev b x) : a = b := by
  refine zip_zero a b hl (ev_zero _ fun x _ => ?_)
  rw [ev_sub a b x hl, h x]; omega
end Mine
end
section -- M5
namespace Mine
noncomputable def quad (h g : Int) : List Int := [h * h + g, -2 * h, 1]
noncomputable def pol (rs : List Int) (h g : Int) : List Int := rs.foldr (fun r acc => lin r acc) (quad h g)
noncomputable def prd (rs : List Int) (x : Int) : Int := rs.foldr (fun r a => (x - r) * a) 1
theorem pol_cons (r : Int) (rs : List Int) (h g : Int) : pol (r :: rs) h g = lin r (pol rs h g) := rfl
theorem pol_length (rs : List Int) (h g : Int) : (pol rs h g).length = rs.length + 3 := by
  induction rs with
  | nil => rfl
  | cons r rs ih => rw [pol_cons, lin_length, ih, List.length_cons]
theorem ev_pol (rs : List Int) (h g x : Int) : ev (pol rs h g) x = prd rs x * ((x - h) * (x - h) + g) := by
  induction rs with
  | nil => show (h * h + g) + x * (-2 * h + x * (1 + x * 0)) = 1 * _; grind
  | cons r rs ih => rw [pol_cons, ev_lin, ih]; show _ = (x - r) * prd rs x * _; grind
theorem prd_perm {a b : List Int} (p : a.Perm b) (x : Int) : prd a x = prd b x := by
  induction p with
  | nil => rfl
  | cons r _ ih => show (x - r) * prd _ x = (x - r) * prd _ x; rw [ih]
  | swap r s l => show (x - s) * ((x - r) * prd l x) = (x - r) * ((x - s) * prd l x); grind
  | trans _ _ h1 h2 => rw [h1, h2]
theorem pol_perm {a b : List Int} (p : a.Perm b) (h g : Int) : pol a h g = pol b h g := by
  refine ev_inj ?_ fun x => ?_
  · rw [pol_length, pol_length, p.length_eq]
  · rw [ev_pol, ev_pol, prd_perm p]
theorem prd_map_sub (rs : List Int) (c x : Int) : prd (rs.map fun r => r - c) x = prd rs (x + c) := by
  induction rs with
  | nil => rfl
  | cons r rs ih => show (x - (r - c)) * prd _ x = (x + c - r) * prd rs (x + c); rw [ih]; grind
theorem sh_pol (rs : List Int) (h g c : Int) : sh c (pol rs h g) = pol (rs.map fun r => r - c) (h - c) g := by
  refine ev_inj ?_ fun x => ?_
  · rw [sh_length c _ _ rfl, pol_length, pol_length, List.length_map]
  · rw [ev_sh c x _ _ rfl, ev_pol, ev_pol, prd_map_sub]; grind
theorem ev_prodc (x : Int) : ∀ (ps cs : List Int), ev (ps.foldl linIf cs) x = prd (ps.filter fun p => decide (0 < p)) x * ev cs x
  | [], cs => by show ev cs x = 1 * _; grind
  | p :: ps, cs => by
    show ev (ps.foldl linIf (linIf cs p)) x = _
    rw [ev_prodc x ps]
    by_cases h : 0 < p
    · rw [List.filter_cons_of_pos (by simpa using h)]
      unfold linIf
      rw [if_pos h, ev_lin]
      show _ = (x - p) * prd _ x * _
      grind
    · rw [List.filter_cons_of_neg (by simpa using h)]
      unfold linIf
      rw [if_neg h]
theorem len_prodc : ∀ (ps cs : List Int), (ps.foldl linIf cs).length = cs.length + (ps.filter fun p => decide (0 < p)).length
  | [], cs => rfl
  | p :: ps, cs => by
    show (ps.foldl linIf (linIf cs p)).length = _
    rw [len_prodc ps, linIf_length]
    by_cases h : 0 < p
    · rw [List.filter_cons_of_pos (by simpa using h), if_pos h, List.length_cons]; omega
    · rw [List.filter_cons_of_neg (by simpa using h), if_neg h]; omega
/-- the root that a port stands for -/
noncomputable def rt (t p : Int) : Int := if p = 0 then 0 else p + t
theorem prd_roots (t x : Int) : ∀ ps : List Int, (∀ p ∈ ps, 0 ≤ p) → prd (ps.map (rt t)) x = x ^ (ps.count 0) * prd (ps.filter fun p => decide (0 < p)) (x - t)
  | [], _ => by show (1 : Int) = x ^ 0 * 1; simp
  | p :: ps, h => by
    have ih := prd_roots t x ps fun q hq => h q (List.mem_cons_of_mem _ hq)
    have hp := h p List.mem_cons_self
    show (x - rt t p) * prd (ps.map (rt t)) x = _
    rw [ih]
    by_cases q : p = 0
    · subst q
      rw [List.filter_cons_of_neg (by simp), List.count_cons_self, Int.pow_succ]
      unfold rt; rw [if_pos rfl]; grind
    · rw [List.filter_cons_of_pos (by simp; omega), List.count_cons_of_ne (fun e => q e)]
      unfold rt; rw [if_neg q]
      show _ = _ * ((x - t - p) * prd _ (x - t)); grind
theorem count_filter (ps : List Int) (h : ∀ p ∈ ps, 0 ≤ p) : ps.count 0 + (ps.filter fun p => decide (0 < p)).length = ps.length := by
  induction ps with
  | nil => rfl
  | cons p ps ih =>
    have ih := ih fun q hq => h q (List.mem_cons_of_mem _ hq)
    have hp := h p List.mem_cons_self
    by_cases q : p = 0
    · subst q; rw [List.filter_cons_of_neg (by simp), List.count_cons_self, List.length_cons]; omega
    · rw [List.filter_cons_of_pos (by simp; omega), List.count_cons_of_ne (fun e => q e), List.length_cons, List.length_cons]; omega
theorem prodAll_pol (ps : List Int) (t h g : Int) (hp : ∀ p ∈ ps, 0 ≤ p) : mulq h (h * h + g) (List.replicate (ps.count 0) 0 ++ sh (-t) (prodc ps)) = pol (ps.map (rt t)) h g := by
  refine ev_inj ?_ fun x => ?_
  · rw [mulq_length, pol_length, List.length_append, List.length_replicate, sh_length _ _ _ rfl, List.length_map]
    unfold prodc; rw [len_prodc]
    have := count_filter ps hp
    simp only [List.length_cons, List.length_nil]; omega
  · rw [ev_mulq, ev_zeros, ev_sh _ _ _ _ rfl, ev_pol, prd_roots t x ps hp]
    unfold prodc
    rw [ev_prodc]
    show _ * (_ * (prd _ (x + -t) * (1 + (x + -t) * 0))) = _
    rw [show x + -t = x - t by omega]; grind
end Mine
end
section -- M6
namespace Mine
/-- the sign of the first that isn't nought -/
noncomputable def sgn : List Int → Option Bool
  | [] => none
  | c :: r => if c = 0 then sgn r else some (decide (0 < c))
noncomputable def df (a : Option Bool) (b : Bool) : Nat := match a with | none => 0 | some x => if x = b then 0 else 1
noncomputable def vr : List Int → Nat
  | [] => 0
  | c :: r => if c = 0 then vr r else vr r + df (sgn r) (decide (0 < c))
noncomputable def dd (a b : Option Bool) : Nat := if a = b then 0 else 1
theorem vr_zero (r : List Int) : vr (0 :: r) = vr r := by simp [vr]
theorem sgn_zero (r : List Int) : sgn (0 :: r) = sgn r := by simp [sgn]
theorem vr_cons {c : Int} (h : c ≠ 0) (r : List Int) : vr (c :: r) = vr r + df (sgn r) (decide (0 < c)) := by simp [vr, h]
theorem sgn_cons {c : Int} (h : c ≠ 0) (r : List Int) : sgn (c :: r) = some (decide (0 < c)) := by simp [sgn, h]
/-- the turns of a list of signs -/
noncomputable def chg : List Bool → Nat
  | [] => 0
  | [_] => 0
  | b :: b2 :: r => chg (b2 :: r) + if b2 = b then 0 else 1
theorem cnt_cons (b b2 : Bool) (r : List Bool) (n : Nat) : cnt (b :: b2 :: r) (n + 1) = cnt (b2 :: r) n + if b2 = b then 0 else 1 := by
  unfold cnt
  rw [List.range_succ_eq_map, List.filter_cons]
  have e : (List.filter (fun j => (b :: b2 :: r).getD (j + 1) false != (b :: b2 :: r).getD j false) (List.map Nat.succ (List.range n))).length = ((List.range n).filter fun j => (b2 :: r).getD (j + 1) false != (b2 :: r).getD j false).length := by
    rw [List.filter_map, List.length_map]; rfl
  by_cases h : b2 = b
  · subst h
    rw [if_neg (by simp), e]; simp
  · have h0 : ((b :: b2 :: r).getD (0 + 1) false != (b :: b2 :: r).getD 0 false) = true := by
      show (b2 != b) = true
      simpa using h
    rw [if_pos h0, List.length_cons, e, if_neg h]
theorem cnt_chg : ∀ bs : List Bool, cnt bs (bs.length - 1) = chg bs
  | [] => rfl
  | [_] => rfl
  | b :: b2 :: r => by
    have ih := cnt_chg (b2 :: r)
    show cnt (b :: b2 :: r) (r.length + 1) = chg (b2 :: r) + _
    rw [cnt_cons, ← ih]; rfl
theorem signsOf_cons (c : Int) (r : List Int) : signsOf (c :: r) = if c = 0 then signsOf r else decide (0 < c) :: signsOf r := by
  unfold signsOf
  by_cases h : c = 0
  · subst h; simp
  · rw [List.filter_cons_of_pos (by simpa using h), if_neg h]; rfl
theorem sgn_head : ∀ cs : List Int, sgn cs = (signsOf cs).head?
  | [] => rfl
  | c :: r => by
    rw [signsOf_cons]
    by_cases h : c = 0
    · subst h; rw [sgn_zero, if_pos rfl]; exact sgn_head r
    · rw [sgn_cons h, if_neg h]; rfl
theorem chg_vr : ∀ cs : List Int, chg (signsOf cs) = vr cs
  | [] => rfl
  | c :: r => by
    have ih := chg_vr r
    rw [signsOf_cons]
    by_cases h : c = 0
    · subst h; rw [if_pos rfl, vr_zero]; exact ih
    · rw [if_neg h, vr_cons h, ← ih, sgn_head]
      cases signsOf r with
      | nil => rfl
      | cons b bs => rfl
theorem var_vr (cs : List Int) : var cs = vr cs := by unfold var; rw [cnt_chg, chg_vr]
/-- Horner's rule makes no turn -/
theorem hor_le {y : Int} (hy : 0 < y) : ∀ cs : List Int, vr (hor y cs) + dd (sgn (hor y cs)) (sgn cs) ≤ vr cs
  | [] => by simp [hor, vr, dd]
  | c :: cs => by
    have ih := hor_le hy cs
    have hl := hor_length y cs
    unfold hor
    cases h : hor y cs with
    | nil =>
      rw [h] at hl
      have : cs = [] := List.length_eq_zero_iff.mp hl.symm
      subst this
      simp [dd]
    | cons s t =>
      rw [h] at ih
      show vr ((c + y * s) :: s :: t) + dd (sgn ((c + y * s) :: s :: t)) (sgn (c :: cs)) ≤ vr (c :: cs)
      have z1 : 0 < s → 0 < y * s := fun q => Int.mul_pos hy q
      have z2 : s < 0 → y * s < 0 := fun q => Int.mul_neg_of_pos_of_neg hy q
      have z3 : s = 0 → y * s = 0 := fun q => by rw [q, Int.mul_zero]
      have hs : s ≠ 0 → sgn (s :: t) = some (decide (0 < s)) := fun q => sgn_cons q t
      generalize y * s = z at z1 z2 z3 ⊢
      generalize s :: t = A at ih hs ⊢
      by_cases hc : c = 0
      · subst hc
        rw [vr_zero, sgn_zero, Int.zero_add]
        by_cases hz : z = 0
        · subst hz; rw [vr_zero, sgn_zero]; exact ih
        · have hs0 : s ≠ 0 := fun q => hz (z3 q)
          have e : decide (0 < z) = decide (0 < s) := by
            rcases Int.lt_or_gt_of_ne hs0 with q | q
            · have := z2 q
              rw [decide_eq_false (by omega), decide_eq_false (by omega)]
            · have := z1 q
              rw [decide_eq_true (by omega), decide_eq_true (by omega)]
          rw [vr_cons hz, sgn_cons hz, e]
          rw [hs hs0] at ih ⊢
          simpa [df] using ih
      · rw [vr_cons hc, sgn_cons hc]
        by_cases he : c + z = 0
        · rw [he, vr_zero, sgn_zero]
          have hs0 : s ≠ 0 := fun q => by have := z3 q; omega
          have e : decide (0 < s) = !decide (0 < c) := by
            rcases Int.lt_or_gt_of_ne hs0 with q | q
            · have := z2 q
              rw [decide_eq_false (by omega), decide_eq_true (by omega)]; rfl
            · have := z1 q
              rw [decide_eq_true (by omega), decide_eq_false (by omega)]; rfl
          rw [hs hs0, e] at ih ⊢
          generalize decide (0 < c) = b at ih ⊢
          generalize sgn cs = f at ih ⊢
          cases b <;> rcases f with _ | f <;> (try cases f) <;> simp [dd, df] at ih ⊢ <;> omega
        · rw [vr_cons he, sgn_cons he]
          by_cases hsame : decide (0 < c + z) = decide (0 < c)
          · rw [hsame]
            generalize decide (0 < c) = b at ih ⊢
            generalize sgn cs = f at ih ⊢
            generalize sgn A = g at ih ⊢
            cases b <;> rcases f with _ | f <;> rcases g with _ | g <;> (try cases f) <;> (try cases g) <;> simp [dd, df] at ih ⊢ <;> omega
          · have hs0 : s ≠ 0 := fun q => by
              have := z3 q
              exact hsame (by rw [this, Int.add_zero])
            have e1 : decide (0 < c + z) = !decide (0 < c) := by
              cases q1 : decide (0 < c + z) <;> cases q2 : decide (0 < c) <;> simp_all
            have e : decide (0 < s) = !decide (0 < c) := by
              rcases Int.lt_or_gt_of_ne hs0 with q | q
              · have := z2 q
                by_cases hc0 : 0 < c
                · rw [decide_eq_false (by omega), decide_eq_true hc0]; rfl
                · exact absurd (by rw [decide_eq_false (by omega), decide_eq_false hc0]) hsame
              · have := z1 q
                by_cases hc0 : 0 < c
                · exact absurd (by rw [decide_eq_true (by omega), decide_eq_true hc0]) hsame
                · rw [decide_eq_true (by omega), decide_eq_false hc0]; rfl
            rw [e1]
            rw [hs hs0, e] at ih ⊢
            generalize decide (0 < c) = b at ih ⊢
            generalize sgn cs = f at ih ⊢
            cases b <;> rcases f with _ | f <;> (try cases f) <;> simp [dd, df] at ih ⊢ <;> omega
theorem dd_tri (a b c : Option Bool) : dd a c ≤ dd a b + dd b c := by
  unfold dd; split <;> split <;> split <;> simp_all
/-- Budan's step -/
theorem sh_le {y : Int} (hy : 0 < y) : ∀ (n : Nat) (cs : List Int), cs.length = n → vr (sh y cs) + dd (sgn (sh y cs)) (sgn cs) ≤ vr cs
  | 0, cs, h => by rw [List.length_eq_zero_iff.mp h]; simp [sh_nil, vr, dd]
  | n + 1, cs, h => by
    cases q : hor y cs with
    | nil => have := hor_length y cs; rw [q, h] at this; cases this
    | cons r t =>
      have hl := hor_length y cs
      rw [q, h, List.length_cons] at hl
      have ih := sh_le hy n t (by omega)
      have hh := hor_le hy cs
      rw [q] at hh
      rw [sh_cons q]
      have step : vr (r :: sh y t) + dd (sgn (r :: sh y t)) (sgn (r :: t)) ≤ vr (r :: t) := by
        by_cases hr : r = 0
        · subst hr; rw [vr_zero, vr_zero, sgn_zero, sgn_zero]; exact ih
        · rw [vr_cons hr, vr_cons hr, sgn_cons hr, sgn_cons hr]
          generalize decide (0 < r) = b
          generalize sgn (sh y t) = f at ih ⊢
          generalize sgn t = g at ih ⊢
          cases b <;> rcases f with _ | f <;> rcases g with _ | g <;> (try cases f) <;> (try cases g) <;> simp [dd, df] at ih ⊢ <;> omega
      have := dd_tri (sgn (r :: sh y t)) (sgn (r :: t)) (sgn cs)
      omega
theorem hor_lin0 (r : Int) : ∀ (cs : List Int) (p : Int), hor r (List.zipWith (fun a b => a - r * b) (p :: cs) (cs ++ [0])) = p :: cs
  | [], p => by simp [hor]
  | c :: cs, p => by
    show hor r ((p - r * c) :: List.zipWith (fun a b => a - r * b) (c :: cs) (cs ++ [0])) = _
    unfold hor
    rw [hor_lin0 r cs c]
    show (p - r * c + r * c) :: c :: cs = _
    rw [Int.sub_add_cancel]
theorem hor_lin (r : Int) (cs : List Int) : hor r (lin r cs) = 0 :: cs := hor_lin0 r cs 0
theorem lin_zero (cs : List Int) : lin 0 cs = 0 :: cs := by
  unfold lin
  suffices h : ∀ (cs : List Int) (p : Int), List.zipWith (fun a b => a - 0 * b) (p :: cs) (cs ++ [0]) = p :: cs from h cs 0
  intro cs
  induction cs with
  | nil => intro p; simp
  | cons c cs ih =>
    intro p
    show (p - 0 * c) :: List.zipWith (fun a b => a - 0 * b) (c :: cs) (cs ++ [0]) = _
    rw [ih c]; simp
theorem sgn_lin0 (r : Int) (hr : r ≠ 0) : ∀ cs : List Int, sgn (List.zipWith (fun a b => a - r * b) (0 :: cs) (cs ++ [0])) = (sgn cs).map fun b => if 0 < r then !b else b
  | [] => by simp [sgn]
  | c :: cs => by
    show sgn ((0 - r * c) :: List.zipWith (fun a b => a - r * b) (c :: cs) (cs ++ [0])) = _
    by_cases hc : c = 0
    · subst hc
      rw [Int.mul_zero, Int.sub_zero, sgn_zero, sgn_zero]
      exact sgn_lin0 r hr cs
    · have hz : 0 - r * c ≠ 0 := fun q => by
        have : r * c = 0 := by omega
        rcases Int.mul_eq_zero.mp this with q | q
        · exact hr q
        · exact hc q
      rw [sgn_cons hz, sgn_cons hc, Option.map_some]
      congr 1
      rcases Int.lt_or_gt_of_ne hr with q1 | q1 <;> rcases Int.lt_or_gt_of_ne hc with q2 | q2
      · have := Int.mul_pos_of_neg_of_neg q1 q2
        rw [if_neg (by omega), decide_eq_false (by omega), decide_eq_false (by omega)]
      · have := Int.mul_neg_of_neg_of_pos q1 q2
        rw [if_neg (by omega), decide_eq_true (by omega), decide_eq_true (by omega)]
      · have := Int.mul_neg_of_pos_of_neg q1 q2
        rw [if_pos q1, decide_eq_true (by omega), decide_eq_false (by omega)]; rfl
      · have := Int.mul_pos q1 q2
        rw [if_pos q1, decide_eq_false (by omega), decide_eq_true (by omega)]; rfl
theorem sgn_lin (r : Int) (cs : List Int) : sgn (lin r cs) = (sgn cs).map fun b => if 0 < r then !b else b := by
  by_cases hr : r = 0
  · subst hr
    rw [lin_zero, sgn_zero]
    cases sgn cs <;> simp
  · exact sgn_lin0 r hr cs
/-- Descartes: a positive root is a turn -/
theorem lin_up {r : Int} (hr : 0 < r) {cs : List Int} (h : sgn cs ≠ none) : vr cs + 1 ≤ vr (lin r cs) := by
  have := hor_le hr (lin r cs)
  rw [hor_lin, vr_zero, sgn_zero, sgn_lin] at this
  cases q : sgn cs with
  | none => exact absurd q h
  | some b =>
    rw [q] at this
    have e : dd (some b) ((some b).map fun b => if 0 < r then !b else b) = 1 := by
      rw [Option.map_some, if_pos hr]; cases b <;> rfl
    omega
end Mine
end
section -- M7
namespace Mine
noncomputable def polb (rs base : List Int) : List Int := rs.foldr (fun r acc => lin r acc) base
theorem polb_cons (r : Int) (rs base : List Int) : polb (r :: rs) base = lin r (polb rs base) := rfl
theorem polb_append (a b base : List Int) : polb (a ++ b) base = polb a (polb b base) := by unfold polb; rw [List.foldr_append]
theorem pol_polb (rs : List Int) (h g : Int) : pol rs h g = polb rs (quad h g) := rfl
theorem polb_length (rs base : List Int) : (polb rs base).length = rs.length + base.length := by
  induction rs with
  | nil => simp [polb]
  | cons r rs ih => rw [polb_cons, lin_length, ih, List.length_cons]; omega
theorem ev_polb (rs base : List Int) (x : Int) : ev (polb rs base) x = prd rs x * ev base x := by
  induction rs with
  | nil => show ev base x = 1 * _; grind
  | cons r rs ih => rw [polb_cons, ev_lin, ih]; show _ = (x - r) * prd rs x * _; grind
theorem polb_perm {a b : List Int} (p : a.Perm b) (base : List Int) : polb a base = polb b base := by
  refine ev_inj ?_ fun x => ?_
  · rw [polb_length, polb_length, p.length_eq]
  · rw [ev_polb, ev_polb, prd_perm p]
theorem sgn_polb {base : List Int} (h : sgn base ≠ none) : ∀ rs : List Int, sgn (polb rs base) ≠ none
  | [] => h
  | r :: rs => by
    rw [polb_cons, sgn_lin]
    cases q : sgn (polb rs base) with
    | none => exact absurd q (sgn_polb h rs)
    | some b => simp
theorem up_all {base : List Int} (h : sgn base ≠ none) : ∀ rs : List Int, (∀ r ∈ rs, 0 < r) → rs.length + vr base ≤ vr (polb rs base)
  | [], _ => by simp [polb]
  | r :: rs, hr => by
    have ih := up_all h rs fun q hq => hr q (List.mem_cons_of_mem _ hq)
    have := lin_up (hr r List.mem_cons_self) (sgn_polb h rs)
    rw [polb_cons, List.length_cons]; omega
theorem split_perm (p : Int → Bool) (l : List Int) : l.Perm (l.filter p ++ l.filter fun x => !p x) := by
  induction l with
  | nil => exact .nil
  | cons x l ih =>
    by_cases h : p x = true
    · rw [List.filter_cons_of_pos h, List.filter_cons_of_neg (by simp [h])]
      exact ih.cons x
    · rw [List.filter_cons_of_neg h, List.filter_cons_of_pos (by simpa using h)]
      exact (ih.cons x).trans List.perm_middle.symm
/-- no fewer turns than positive roots -/
theorem lower {base : List Int} (h : sgn base ≠ none) (rs : List Int) : (rs.filter fun r => decide (0 < r)).length ≤ vr (polb rs base) := by
  rw [polb_perm (split_perm (fun r => decide (0 < r)) rs), polb_append]
  have := up_all (sgn_polb h (rs.filter fun x => !decide (0 < x))) (rs.filter fun r => decide (0 < r)) fun r hr => by simpa using (List.mem_filter.mp hr).2
  omega
theorem polb_zeros (z : Nat) (base : List Int) : polb (List.replicate z 0) base = List.replicate z 0 ++ base := by
  induction z with
  | zero => rfl
  | succ z ih => rw [List.replicate_succ, polb_cons, ih, lin_zero]; rfl
theorem vr_zeros (z : Nat) (l : List Int) : vr (List.replicate z 0 ++ l) = vr l := by
  induction z with
  | zero => rfl
  | succ z ih => rw [List.replicate_succ, List.cons_append, vr_zero, ih]
/-- x turned about -/
noncomputable def neg (l : List Int) : List Int := l.map fun c => -c
noncomputable def alt : List Int → List Int
  | [] => []
  | c :: r => c :: neg (alt r)
theorem neg_length (l : List Int) : (neg l).length = l.length := by simp [neg]
theorem alt_length : ∀ l : List Int, (alt l).length = l.length
  | [] => rfl
  | c :: r => by rw [alt, List.length_cons, neg_length, alt_length r]; rfl
theorem ev_neg (x : Int) : ∀ l : List Int, ev (neg l) x = - ev l x
  | [] => rfl
  | c :: r => by
    show -c + x * ev (neg r) x = _
    rw [ev_neg x r, ev]; grind
theorem ev_alt (x : Int) : ∀ l : List Int, ev (alt l) x = ev l (-x)
  | [] => rfl
  | c :: r => by rw [alt, ev, ev_neg, ev_alt x r, ev]; grind
theorem sgn_neg : ∀ l : List Int, sgn (neg l) = (sgn l).map fun b => !b
  | [] => rfl
  | c :: r => by
    show sgn (-c :: neg r) = _
    by_cases h : c = 0
    · subst h; rw [Int.neg_zero, sgn_zero, sgn_zero]; exact sgn_neg r
    · rw [sgn_cons (by omega), sgn_cons h, Option.map_some]
      congr 1
      by_cases q : 0 < c
      · rw [decide_eq_true q, decide_eq_false (by omega)]; rfl
      · rw [decide_eq_false q, decide_eq_true (by omega)]; rfl
theorem vr_neg : ∀ l : List Int, vr (neg l) = vr l
  | [] => rfl
  | c :: r => by
    have ih := vr_neg r
    show vr (-c :: neg r) = _
    by_cases h : c = 0
    · subst h; rw [Int.neg_zero, vr_zero, vr_zero]; exact ih
    · rw [vr_cons (by omega), vr_cons h, ih, sgn_neg]
      congr 1
      by_cases q : 0 < c
      · rw [decide_eq_true q, decide_eq_false (by omega)]
        rcases sgn r with _ | b <;> (try cases b) <;> simp [df]
      · rw [decide_eq_false q, decide_eq_true (by omega)]
        rcases sgn r with _ | b <;> (try cases b) <;> simp [df]
theorem neg_neg' : ∀ l : List Int, neg (neg l) = l
  | [] => rfl
  | c :: r => by
    show (- -c) :: neg (neg r) = _
    rw [neg_neg' r, Int.neg_neg]
theorem alt_lin (r : Int) (l : List Int) : alt (lin r l) = neg (lin (-r) (alt l)) := by
  refine ev_inj ?_ fun x => ?_
  · rw [alt_length, lin_length, neg_length, lin_length, alt_length]
  · rw [ev_alt, ev_lin, ev_neg, ev_lin, ev_alt]; grind
theorem lin_neg (r : Int) (l : List Int) : lin r (neg l) = neg (lin r l) := by
  refine ev_inj ?_ fun x => ?_
  · rw [lin_length, neg_length, neg_length, lin_length]
  · rw [ev_lin, ev_neg, ev_neg, ev_lin]; grind
theorem alt_polb (base : List Int) : ∀ rs : List Int, alt (polb rs base) = polb (rs.map fun r => -r) (alt base) ∨ alt (polb rs base) = neg (polb (rs.map fun r => -r) (alt base))
  | [] => .inl rfl
  | r :: rs => by
    rw [polb_cons, alt_lin, List.map_cons, polb_cons]
    rcases alt_polb base rs with h | h
    · right; rw [h]
    · left; rw [h, lin_neg, neg_neg']
theorem vr_alt_polb (rs base : List Int) : vr (alt (polb rs base)) = vr (polb (rs.map fun r => -r) (alt base)) := by
  rcases alt_polb base rs with h | h
  · rw [h]
  · rw [h, vr_neg]
/-- noughts at the head -/
noncomputable def lead : List Int → Nat
  | [] => 0
  | c :: r => if c = 0 then lead r + 1 else 0
theorem alt_sgn_head {r : List Int} (h0 : lead r = 0) (h : sgn r ≠ none) : sgn (alt r) = sgn r := by
  cases r with
  | nil => rfl
  | cons c r =>
    by_cases hc : c = 0
    · subst hc; simp [lead] at h0
    · rw [alt, sgn_cons hc, sgn_cons hc]
theorem df_le (a : Option Bool) (b : Bool) : df a b ≤ 1 := by
  rcases a with _ | x
  · exact Nat.zero_le _
  · show (if x = b then 0 else 1) ≤ 1
    split <;> omega
theorem upper0 : ∀ l : List Int, (sgn l = none ∧ vr l = 0 ∧ vr (alt l) = 0 ∧ sgn (alt l) = none) ∨ (sgn l ≠ none ∧ vr l + vr (alt l) + lead l + 1 ≤ l.length)
  | [] => .inl ⟨rfl, rfl, rfl, rfl⟩
  | c :: r => by
    have ih := upper0 r
    by_cases hc : c = 0
    · subst hc
      rw [alt, vr_zero, vr_zero, sgn_zero, sgn_zero, vr_neg, sgn_neg]
      rcases ih with ⟨a, b, c, d⟩ | ⟨a, b⟩
      · exact .inl ⟨a, b, c, by rw [d]; rfl⟩
      · refine .inr ⟨a, ?_⟩
        have : lead (0 :: r) = lead r + 1 := by simp [lead]
        rw [this, List.length_cons]; omega
    · right
      refine ⟨by rw [sgn_cons hc]; simp, ?_⟩
      have hl : lead (c :: r) = 0 := by simp [lead, hc]
      rw [alt, vr_cons hc, vr_cons hc, vr_neg, sgn_neg, hl, List.length_cons]
      rcases ih with ⟨a1, b1, c1, d1⟩ | ⟨a1, b1⟩
      · rw [a1, b1, c1, d1]; simp [df]
      · have k1 := df_le (sgn r) (decide (0 < c))
        have k2 := df_le ((sgn (alt r)).map fun b => !b) (decide (0 < c))
        by_cases h0 : lead r = 0
        · have k3 : df (sgn r) (decide (0 < c)) + df ((sgn (alt r)).map fun b => !b) (decide (0 < c)) ≤ 1 := by
            rw [alt_sgn_head h0 a1]
            generalize decide (0 < c) = b
            rcases sgn r with _ | x <;> (try cases x) <;> cases b <;> simp [df]
          omega
        · omega
theorem upper {l : List Int} (h : sgn l ≠ none) : vr l + vr (alt l) + 1 ≤ l.length := by
  rcases upper0 l with ⟨a, _⟩ | ⟨_, b⟩
  · exact absurd a h
  · omega
/-- the last is positive -/
noncomputable def LastPos : List Int → Prop
  | [] => False
  | [c] => 0 < c
  | _ :: d :: r => LastPos (d :: r)
theorem last_lin0 (r : Int) : ∀ (cs : List Int) (p : Int), LastPos cs → LastPos (List.zipWith (fun a b => a - r * b) (p :: cs) (cs ++ [0]))
  | [], _, h => h.elim
  | [c], p, h => by
    show 0 < c - r * 0
    rw [Int.mul_zero, Int.sub_zero]; exact h
  | c :: d :: cs, p, h => last_lin0 r (d :: cs) c h
theorem last_lin (r : Int) {cs : List Int} (h : LastPos cs) : LastPos (lin r cs) := last_lin0 r cs 0 h
theorem last_polb {base : List Int} (h : LastPos base) : ∀ rs : List Int, LastPos (polb rs base)
  | [] => h
  | r :: rs => last_lin r (last_polb h rs)
theorem parity : ∀ cs : List Int, LastPos cs → ∃ b, sgn cs = some b ∧ vr cs % 2 = if b then 0 else 1
  | [], h => h.elim
  | [c], h => by
    have h : 0 < c := h
    exact ⟨true, by rw [sgn_cons (Int.ne_of_gt h), decide_eq_true h], by rw [vr_cons (Int.ne_of_gt h)]; rfl⟩
  | c :: d :: r, h => by
    obtain ⟨b, h1, h2⟩ := parity (d :: r) h
    by_cases hc : c = 0
    · subst hc; exact ⟨b, by rw [sgn_zero, h1], by rw [vr_zero, h2]⟩
    · refine ⟨decide (0 < c), sgn_cons hc _, ?_⟩
      rw [vr_cons hc, h1]
      generalize decide (0 < c) = e
      cases b <;> cases e <;> simp [df] at h2 ⊢ <;> omega
theorem sgn_polb_pos {base : List Int} (h : sgn base = some true) : ∀ rs : List Int, sgn (polb rs base) = some (decide ((rs.filter fun r => decide (0 < r)).length % 2 = 0))
  | [] => by rw [show polb [] base = base from rfl, h]; rfl
  | r :: rs => by
    rw [polb_cons, sgn_lin, sgn_polb_pos h rs, Option.map_some]
    congr 1
    by_cases q : 0 < r
    · rw [if_pos q, List.filter_cons_of_pos (by simpa using q), List.length_cons]
      generalize (rs.filter fun r => decide (0 < r)).length = n
      by_cases e : n % 2 = 0
      · rw [decide_eq_true e, decide_eq_false (by omega)]; rfl
      · rw [decide_eq_false e, decide_eq_true (by omega)]; rfl
    · rw [if_neg q, List.filter_cons_of_neg (by simpa using q)]
/-- the turns and the positive roots are of one parity -/
theorem par {base : List Int} (h : sgn base = some true) (hl : LastPos base) (rs : List Int) : vr (polb rs base) % 2 = (rs.filter fun r => decide (0 < r)).length % 2 := by
  obtain ⟨b, h1, h2⟩ := parity _ (last_polb hl rs)
  rw [sgn_polb_pos h rs] at h1
  have h1 := Option.some.inj h1
  rw [h2, ← h1]
  generalize (rs.filter fun r => decide (0 < r)).length = n
  by_cases e : n % 2 = 0
  · rw [decide_eq_true e, e]; rfl
  · rw [decide_eq_false e]
    show 1 = n % 2
    omega
end Mine
end
section -- M8
namespace Mine
theorem quad_sgn (h : Int) {g : Int} (hg : 0 ≤ g) : sgn (quad h g) = some true := by
  unfold quad
  by_cases hh : h = 0
  · subst hh
    by_cases q : g = 0
    · subst q; rfl
    · rw [show (0 : Int) * 0 + g = g by omega, sgn_cons q, decide_eq_true (by omega)]
  · have : 0 < h * h := by
      rcases Int.lt_or_gt_of_ne hh with q | q
      · exact Int.mul_pos_of_neg_of_neg q q
      · exact Int.mul_pos q q
    rw [sgn_cons (by omega), decide_eq_true (by omega)]
theorem quad_last (h g : Int) : LastPos (quad h g) := by show (0 : Int) < 1; decide
theorem quad_alt (h g : Int) : alt (quad h g) = quad (-h) g := by
  show [h * h + g, -(-2 * h), - -(1 : Int)] = [-h * -h + g, -2 * -h, 1]
  rw [Int.neg_mul_neg, show -(-2 * h) = -2 * -h by omega]; rfl
theorem quad_vr {h g : Int} (hh : 0 < h) (hg : 0 ≤ g) : vr (quad h g) = 2 := by
  have h2 : 0 < h * h := Int.mul_pos hh hh
  unfold quad
  rw [vr_cons (by omega), sgn_cons (by omega), vr_cons (by omega), sgn_cons (by omega), vr_cons (by omega)]
  rw [decide_eq_true (show 0 < h * h + g by omega), decide_eq_false (show ¬ (0 < -2 * h) by omega)]
  rfl
theorem len_pos_neg (l : List Int) (h : ∀ x ∈ l, x ≠ 0) : l.length = (l.filter fun r => decide (0 < r)).length + ((l.map fun r => -r).filter fun r => decide (0 < r)).length := by
  induction l with
  | nil => rfl
  | cons x l ih =>
    have ih := ih fun y hy => h y (List.mem_cons_of_mem _ hy)
    have hx := h x List.mem_cons_self
    rw [List.map_cons, List.length_cons]
    by_cases q : 0 < x
    · rw [List.filter_cons_of_pos (by simpa using q), List.filter_cons_of_neg (by simp; omega), List.length_cons]; omega
    · rw [List.filter_cons_of_neg (by simpa using q), List.filter_cons_of_pos (by simp; omega), List.length_cons]; omega
theorem zeros_out (l base : List Int) : vr (polb l base) = vr (polb (l.filter fun x => !decide (x = 0)) base) := by
  rw [polb_perm (split_perm (fun x => decide (x = 0)) l), polb_append]
  have e : (l.filter fun x => decide (x = 0)) = List.replicate (l.filter fun x => decide (x = 0)).length 0 := by
    rw [List.eq_replicate_iff]
    exact ⟨rfl, fun b hb => by simpa using (List.mem_filter.mp hb).2⟩
  rw [e, polb_zeros, vr_zeros]
theorem pos_nz (l : List Int) : ((l.filter fun x => !decide (x = 0)).filter fun r => decide (0 < r)).length = (l.filter fun r => decide (0 < r)).length := by
  induction l with
  | nil => rfl
  | cons x l ih =>
    by_cases q : x = 0
    · subst q
      rw [List.filter_cons_of_neg (by simp), List.filter_cons_of_neg (l := l) (by simp)]; exact ih
    · rw [List.filter_cons_of_pos (by simpa using q)]
      by_cases p : 0 < x
      · rw [List.filter_cons_of_pos (by simpa using p), List.filter_cons_of_pos (l := l) (by simpa using p), List.length_cons, List.length_cons, ih]
      · rw [List.filter_cons_of_neg (by simpa using p), List.filter_cons_of_neg (l := l) (by simpa using p), ih]
theorem upperB {base : List Int} (h1 : sgn base ≠ none) (h2 : sgn (alt base) ≠ none) (l : List Int) : vr (polb l base) + 1 ≤ (l.filter fun r => decide (0 < r)).length + base.length := by
  rw [zeros_out]
  have hu := upper (sgn_polb h1 (l.filter fun x => !decide (x = 0)))
  rw [vr_alt_polb, polb_length] at hu
  have hw := lower h2 ((l.filter fun x => !decide (x = 0)).map fun r => -r)
  have hn := len_pos_neg (l.filter fun x => !decide (x = 0)) fun x hx => by simpa using (List.mem_filter.mp hx).2
  rw [pos_nz] at hn
  omega
theorem upperC {base : List Int} (h1 : sgn base ≠ none) (h2 : sgn (alt base) ≠ none) (l : List Int) (hl : ∀ x ∈ l, x ≤ 0) : vr (polb l base) + vr (alt base) + 1 ≤ base.length := by
  rw [zeros_out]
  have hu := upper (sgn_polb h1 (l.filter fun x => !decide (x = 0)))
  rw [vr_alt_polb, polb_length] at hu
  have hw := up_all h2 ((l.filter fun x => !decide (x = 0)).map fun r => -r) fun r hr => by
    obtain ⟨x, hx, rfl⟩ := List.mem_map.mp hr
    have q := List.mem_filter.mp hx
    have := hl x q.1
    have : x ≠ 0 := by simpa using q.2
    omega
  rw [List.length_map] at hw
  omega
noncomputable def Vc (rs : List Int) (h g c : Int) : Nat := vr (pol (rs.map fun r => r - c) (h - c) g)
noncomputable def Mc (rs : List Int) (c : Int) : Nat := (rs.filter fun r => decide (c < r)).length
theorem pos_shift (rs : List Int) (c : Int) : ((rs.map fun r => r - c).filter fun r => decide (0 < r)).length = Mc rs c := by
  unfold Mc
  induction rs with
  | nil => rfl
  | cons r rs ih =>
    rw [List.map_cons]
    by_cases q : c < r
    · rw [List.filter_cons_of_pos (by simp; omega), List.filter_cons_of_pos (by simpa using q), List.length_cons, List.length_cons, ih]
    · rw [List.filter_cons_of_neg (by simp; omega), List.filter_cons_of_neg (by simpa using q), ih]
section
variable {rs : List Int} {h g : Int}
theorem vc_low (hg : 0 ≤ g) (c : Int) : Mc rs c ≤ Vc rs h g c := by
  rw [← pos_shift]
  exact lower (by rw [quad_sgn _ hg]; simp) _
theorem vc_par (hg : 0 ≤ g) (c : Int) : Vc rs h g c % 2 = Mc rs c % 2 := by
  rw [← pos_shift]
  exact par (quad_sgn _ hg) (quad_last _ _) _
theorem vc_up (hg : 0 ≤ g) (c : Int) : Vc rs h g c ≤ Mc rs c + 2 := by
  have := upperB (base := quad (h - c) g) (by rw [quad_sgn _ hg]; simp) (by rw [quad_alt, quad_sgn _ hg]; simp) (rs.map fun r => r - c)
  rw [pos_shift] at this
  have e : (quad (h - c) g).length = 3 := rfl
  unfold Vc; rw [pol_polb]; omega
theorem vc_all (hg : 0 ≤ g) {c : Int} (hr : ∀ r ∈ rs, c < r) (hh : c < h) : Mc rs c + 2 ≤ Vc rs h g c := by
  have := up_all (base := quad (h - c) g) (by rw [quad_sgn _ hg]; simp) (rs.map fun r => r - c) fun r hr' => by
    obtain ⟨x, hx, rfl⟩ := List.mem_map.mp hr'
    have := hr x hx
    omega
  rw [quad_vr (by omega) hg, List.length_map] at this
  have e : Mc rs c ≤ rs.length := List.length_filter_le _ _
  unfold Vc; rw [pol_polb]; omega
theorem vc_none (hg : 0 ≤ g) {c : Int} (hr : ∀ r ∈ rs, r ≤ c) (hh : h < c) : Vc rs h g c = 0 := by
  have := upperC (base := quad (h - c) g) (by rw [quad_sgn _ hg]; simp) (by rw [quad_alt, quad_sgn _ hg]; simp) (rs.map fun r => r - c) fun r hr' => by
    obtain ⟨x, hx, rfl⟩ := List.mem_map.mp hr'
    have := hr x hx
    omega
  rw [quad_alt, quad_vr (by omega) hg] at this
  have e : (quad (h - c) g).length = 3 := rfl
  unfold Vc; rw [pol_polb]; omega
theorem mc_step (rs : List Int) (c : Int) : Mc rs c = Mc rs (c + 1) + (rs.filter fun r => decide (r - c = 1)).length := by
  unfold Mc
  induction rs with
  | nil => rfl
  | cons r rs ih =>
    by_cases q1 : c + 1 < r
    · rw [List.filter_cons_of_pos (by simp; omega), List.filter_cons_of_pos (by simpa using q1), List.filter_cons_of_neg (by simp; omega), List.length_cons, List.length_cons, ih]; omega
    · by_cases q2 : r = c + 1
      · rw [List.filter_cons_of_pos (by simp; omega), List.filter_cons_of_neg (by simpa using q1), List.filter_cons_of_pos (by simp; omega), List.length_cons, List.length_cons, ih]; omega
      · rw [List.filter_cons_of_neg (by simp; omega), List.filter_cons_of_neg (by simpa using q1), List.filter_cons_of_neg (by simp; omega), ih]
/-- Budan: from c to c + 1 no fewer turns are lost than there are roots -/
theorem vc_step (c : Int) (hg : 0 ≤ g) : Vc rs h g (c + 1) + Mc rs c ≤ Vc rs h g c + Mc rs (c + 1) := by
  have hs := mc_step rs c
  suffices q : Vc rs h g (c + 1) + (rs.filter fun r => decide (r - c = 1)).length ≤ Vc rs h g c by omega
  have hp := split_perm (fun r => decide (r - c = 1)) rs
  generalize hA : (rs.filter fun r => decide (r - c = 1)) = A at hp ⊢
  generalize hB : (rs.filter fun x => !decide (x - c = 1)) = B at hp
  have hA1 : A.map (fun r => r - c) = List.replicate A.length 1 := by
    rw [List.eq_replicate_iff, List.length_map]
    refine ⟨rfl, fun b hb => ?_⟩
    obtain ⟨x, hx, rfl⟩ := List.mem_map.mp hb
    rw [← hA] at hx
    simpa using (List.mem_filter.mp hx).2
  have hA0 : A.map (fun r => r - (c + 1)) = List.replicate A.length 0 := by
    rw [List.eq_replicate_iff, List.length_map]
    refine ⟨rfl, fun b hb => ?_⟩
    obtain ⟨x, hx, rfl⟩ := List.mem_map.mp hb
    rw [← hA] at hx
    have : x - c = 1 := by simpa using (List.mem_filter.mp hx).2
    omega
  have e1 : Vc rs h g (c + 1) = vr (pol (B.map fun r => r - (c + 1)) (h - (c + 1)) g) := by
    unfold Vc
    rw [pol_perm (hp.map _), List.map_append, hA0, pol_polb, polb_append, polb_zeros, vr_zeros]; rfl
  have e2 : A.length + vr (pol (B.map fun r => r - c) (h - c) g) ≤ Vc rs h g c := by
    unfold Vc
    rw [pol_perm (hp.map _), List.map_append, hA1, pol_polb, pol_polb, polb_append]
    have := up_all (base := polb (B.map fun r => r - c) (quad (h - c) g)) (sgn_polb (by rw [quad_sgn _ hg]; simp) _) (List.replicate A.length 1) fun r hr => by
      rw [List.eq_of_mem_replicate hr]; decide
    rw [List.length_replicate] at this
    exact this
  have e3 : sh 1 (pol (B.map fun r => r - c) (h - c) g) = pol (B.map fun r => r - (c + 1)) (h - (c + 1)) g := by
    rw [sh_pol, List.map_map, show h - c - 1 = h - (c + 1) by omega]
    congr 1
    exact List.map_congr_left fun x _ => by show x - c - 1 = x - (c + 1); omega
  have e4 := sh_le (y := 1) (by decide) _ (pol (B.map fun r => r - c) (h - c) g) rfl
  rw [e3] at e4
  omega
theorem vc_exact (c : Int) : Vc rs h 0 c = Mc (h :: h :: rs) c := by
  have e : pol (rs.map fun r => r - c) (h - c) 0 = polb ((h :: h :: rs).map fun r => r - c) [1] := by
    refine ev_inj ?_ fun x => ?_
    · rw [pol_length, polb_length]; simp
    · rw [ev_pol, ev_polb]
      show _ = (x - (h - c)) * ((x - (h - c)) * prd _ x) * (1 + x * 0)
      grind
  have s1 : sgn [1] = some true := rfl
  unfold Vc
  rw [e]
  have h1 := lower (base := [1]) (by rw [s1]; simp) ((h :: h :: rs).map fun r => r - c)
  have h2 := upperB (base := [1]) (by rw [s1]; simp) (by show sgn [1] ≠ none; rw [s1]; simp) ((h :: h :: rs).map fun r => r - c)
  rw [pos_shift] at h1 h2
  have e3 : ([1] : List Int).length = 1 := rfl
  omega
end
/-- the place where a falling row of twos and noughts falls -/
theorem fall (E : Nat → Nat) (n : Nat) (h0 : E 0 = 2) (hn : E n = 0) (hE : ∀ i, i ≤ n → E i = 0 ∨ E i = 2) (hd : ∀ i, i < n → E (i + 1) ≤ E i) : ∃ k, 0 < k ∧ k ≤ n ∧ (∀ i, i < k → E i = 2) ∧ (∀ i, k ≤ i → i ≤ n → E i = 0) := by
  induction n with
  | zero => rw [h0] at hn; cases hn
  | succ n ih =>
    rcases hE n (by omega) with q | q
    · obtain ⟨k, a, b, c, d⟩ := ih q (fun i hi => hE i (by omega)) (fun i hi => hd i (by omega))
      refine ⟨k, a, by omega, c, fun i h1 h2 => ?_⟩
      rcases Nat.lt_or_ge n i with z | z
      · rw [show i = n + 1 by omega]; exact hn
      · exact d i h1 z
    · refine ⟨n + 1, by omega, Nat.le_refl _, fun i hi => ?_, fun i h1 h2 => by rw [show i = n + 1 by omega]; exact hn⟩
      have hmono : ∀ j, j ≤ n → E n ≤ E (n - j) := by
        intro j
        induction j with
        | zero => intro _; exact Nat.le_refl _
        | succ j ihj =>
          intro hj
          have h1 := ihj (by omega)
          have h2 := hd (n - (j + 1)) (by omega)
          rw [show n - (j + 1) + 1 = n - j by omega] at h2
          omega
      have h1 := hmono (n - i) (by omega)
      rw [show n - (n - i) = i by omega] at h1
      rcases hE i (by omega) with z | z
      · omega
      · exact z
theorem mc_cons (x : Int) (rs : List Int) (c : Int) : Mc (x :: rs) c = Mc rs c + if c < x then 1 else 0 := by
  unfold Mc
  by_cases q : c < x
  · rw [List.filter_cons_of_pos (by simpa using q), if_pos q, List.length_cons]
  · rw [List.filter_cons_of_neg (by simpa using q), if_neg q]; rfl
/-- the turns at c are the roots above c, one number counted twice beside them -/
theorem main_v {rs : List Int} {h g : Int} (hr : ∀ r ∈ rs, 0 ≤ r ∧ r ≤ 10) (hh : 0 ≤ h ∧ h ≤ 7) (hg : 0 ≤ g) :
    ∃ v, 0 ≤ v ∧ v ≤ 10 ∧ (g = 0 → v = h) ∧ ∀ c, -1 ≤ c → c ≤ 10 → Vc rs h g c = Mc (v :: v :: rs) c := by
  by_cases g0 : g = 0
  · subst g0
    exact ⟨h, hh.1, by omega, fun _ => rfl, fun c _ _ => vc_exact c⟩
  · have low := fun c => vc_low (rs := rs) (h := h) hg c
    have up := fun c => vc_up (rs := rs) (h := h) hg c
    have pr := fun c => vc_par (rs := rs) (h := h) hg c
    have st := fun c => vc_step (rs := rs) (h := h) c hg
    have b0 := vc_all (rs := rs) (h := h) hg (c := -1) (fun r hr' => by have := hr r hr'; omega) (by omega)
    have b1 := vc_none (rs := rs) (h := h) hg (c := 10) (fun r hr' => (hr r hr').2) (by omega)
    obtain ⟨k, k0, k1, k2, k3⟩ := fall (fun i => Vc rs h g (-1 + (i : Int)) - Mc rs (-1 + (i : Int))) 11
      (by
        have := up (-1)
        show Vc rs h g (-1 + ((0 : Nat) : Int)) - Mc rs (-1 + ((0 : Nat) : Int)) = 2
        rw [show (-1 : Int) + ((0 : Nat) : Int) = -1 by omega]; omega)
      (by
        have := low 10
        show Vc rs h g (-1 + ((11 : Nat) : Int)) - Mc rs (-1 + ((11 : Nat) : Int)) = 0
        rw [show (-1 : Int) + ((11 : Nat) : Int) = 10 by omega]; omega)
      (fun i _ => by
        have h1 := low (-1 + (i : Int))
        have h2 := up (-1 + (i : Int))
        have h3 := pr (-1 + (i : Int))
        show Vc rs h g (-1 + (i : Int)) - Mc rs (-1 + (i : Int)) = 0 ∨ Vc rs h g (-1 + (i : Int)) - Mc rs (-1 + (i : Int)) = 2
        omega)
      (fun i _ => by
        have h1 := low (-1 + (i : Int))
        have h2 := st (-1 + (i : Int))
        have h4 := low (-1 + (i : Int) + 1)
        have e : (-1 : Int) + ((i + 1 : Nat) : Int) = -1 + (i : Int) + 1 := by omega
        show Vc rs h g (-1 + ((i + 1 : Nat) : Int)) - Mc rs (-1 + ((i + 1 : Nat) : Int)) ≤ Vc rs h g (-1 + (i : Int)) - Mc rs (-1 + (i : Int))
        rw [e]; omega)
    refine ⟨-1 + (k : Int), by omega, by omega, fun q => absurd q g0, fun c c0 c1 => ?_⟩
    obtain ⟨i, rfl⟩ : ∃ i : Nat, c = -1 + (i : Int) := ⟨(c + 1).toNat, by omega⟩
    have h1 := low (-1 + (i : Int))
    rw [mc_cons, mc_cons]
    by_cases q : i < k
    · have h2 := k2 i q
      have h2 : Vc rs h g (-1 + (i : Int)) - Mc rs (-1 + (i : Int)) = 2 := h2
      rw [if_pos (by omega)]; omega
    · have h2 := k3 i (by omega) (by omega)
      have h2 : Vc rs h g (-1 + (i : Int)) - Mc rs (-1 + (i : Int)) = 0 := h2
      rw [if_neg (by omega)]; omega
end Mine
end
section -- M9
namespace Mine
theorem rise_eq : ∀ {a b : List Int}, Rise a → Rise b → a.Perm b → a = b
  | [], b, _, _, p => (List.Perm.nil_eq p)
  | x :: a, [], _, _, p => absurd p.length_eq (by simp)
  | x :: a, y :: b, ha, hb, p => by
    obtain ⟨a1, a2⟩ := List.pairwise_cons.mp ha
    obtain ⟨b1, b2⟩ := List.pairwise_cons.mp hb
    have e : x = y := by
      have h1 : y ≤ x := by
        rcases List.mem_cons.mp (p.mem_iff.mp List.mem_cons_self) with q | q
        · omega
        · exact b1 x q
      have h2 : x ≤ y := by
        rcases List.mem_cons.mp (p.mem_iff.mpr List.mem_cons_self) with q | q
        · omega
        · exact a1 y q
      omega
    subst e
    rw [rise_eq a2 b2 p.cons_inv]
theorem rise_sort (l : List Int) : ∃ U, Rise U ∧ U.Perm l := by
  refine ⟨l.mergeSort (fun a b => decide (a ≤ b)), ?_, List.mergeSort_perm _ _⟩
  have := List.pairwise_mergeSort (le := fun (a b : Int) => decide (a ≤ b)) (fun a b c h1 h2 => by simp at h1 h2 ⊢; omega) (fun a b => by simp; omega) l
  exact this.imp fun h => by simpa using h
theorem mc_perm {a b : List Int} (p : a.Perm b) (c : Int) : Mc a c = Mc b c := (p.filter _).length_eq
theorem mc_mono (l : List Int) {c e : Int} (h : c ≤ e) : Mc l e ≤ Mc l c := by
  induction l with
  | nil => exact Nat.le_refl _
  | cons x l ih =>
    rw [mc_cons, mc_cons]
    by_cases q : e < x
    · rw [if_pos q, if_pos (by omega)]; omega
    · rw [if_neg q]; omega
theorem mc_none {l : List Int} {c : Int} (h : ∀ x ∈ l, x ≤ c) : Mc l c = 0 := by
  unfold Mc
  rw [List.filter_eq_nil_iff.mpr fun x hx => by have := h x hx; simp; omega]; rfl
theorem mc_above {U : List Int} (hU : Rise U) {j : Nat} (hj : j < U.length) {c : Int} (h : c < U.getD j 0) : U.length - j ≤ Mc U c := by
  unfold Mc
  have e : U.filter (fun r => decide (c < r)) = (U.take j).filter (fun r => decide (c < r)) ++ (U.drop j).filter (fun r => decide (c < r)) := by
    rw [← List.filter_append, List.take_append_drop]
  have e2 : (U.drop j).filter (fun r => decide (c < r)) = U.drop j := by
    rw [List.filter_eq_self]
    intro x hx
    obtain ⟨i, hi, rfl⟩ := List.mem_drop_iff_getElem.mp hx
    have h1 := rise_getD hU j (j + i) (by omega) (by omega)
    have hi' : j + i < U.length := by omega
    have h2 : U.getD (j + i) 0 = U[j + i] := by simp [List.getD, hi']
    simp; omega
  rw [e, e2, List.length_append, List.length_drop]; omega
theorem mc_below {U : List Int} (hU : Rise U) {j : Nat} (hj : j < U.length) {c : Int} (h : U.getD j 0 ≤ c) : Mc U c + (j + 1) ≤ U.length := by
  unfold Mc
  have e : U.filter (fun r => decide (c < r)) = (U.take (j + 1)).filter (fun r => decide (c < r)) ++ (U.drop (j + 1)).filter (fun r => decide (c < r)) := by
    rw [← List.filter_append, List.take_append_drop]
  have e2 : (U.take (j + 1)).filter (fun r => decide (c < r)) = [] := by
    rw [List.filter_eq_nil_iff]
    intro x hx
    obtain ⟨i, hi, rfl⟩ := List.mem_take_iff_getElem.mp hx
    have h1 := rise_getD hU i j (by omega) hj
    have hl : i < U.length := by omega
    have h2 : U.getD i 0 = U[i] := by simp [List.getD, hl]
    simp; omega
  have := List.length_filter_le (fun r => decide (c < r)) (U.drop (j + 1))
  rw [e, e2, List.nil_append]
  rw [List.length_drop] at this
  omega
/-- the places found are the row in order -/
theorem found_row {U : List Int} (hU : Rise U) (hl : U.length = 6) (hb : ∀ u ∈ U, 0 ≤ u ∧ u ≤ 10) {ns fs : List Int} (hns : ∀ i : Nat, i < 12 → ns.getD i 0 = (Mc U (-1 + (i : Int)) : Nat)) (hfl : fs.length = 6)
    (hf : ∀ j : Nat, j < 6 → ∃ r : Nat, r < 12 ∧ fs.getD j 0 = -1 + (r : Int) ∧ (∀ i : Nat, i < r → -(ns.getD i 0) < -(5 - (j : Int))) ∧ (∀ i : Nat, r ≤ i → i < 12 → -(5 - (j : Int)) ≤ -(ns.getD i 0))) : fs = U := by
  refine List.ext_getElem (by omega) fun j h1 h2 => ?_
  obtain ⟨r, r1, r2, r3, r4⟩ := hf j (by omega)
  have e1 : fs.getD j 0 = fs[j] := by simp [List.getD, h1]
  have e2 : U.getD j 0 = U[j] := by simp [List.getD, h2]
  have hu := hb U[j] (List.getElem_mem h2)
  rw [← e1, ← e2, r2]
  rw [← e2] at hu
  by_cases q1 : -1 + (r : Int) < U.getD j 0
  · have h3 := mc_above hU h2 q1
    have h4 := r4 r (Nat.le_refl _) r1
    rw [hns r r1] at h4
    omega
  · by_cases q2 : U.getD j 0 < -1 + (r : Int)
    · obtain ⟨i, hi⟩ : ∃ i : Nat, U.getD j 0 = -1 + (i : Int) := ⟨(U.getD j 0 + 1).toNat, by omega⟩
      have h3 := mc_below hU h2 (c := -1 + (i : Int)) (by omega)
      have h4 := r3 i (by omega)
      rw [hns i (by omega)] at h4
      omega
    · omega
theorem twice_inj {ss : List Int} {c v : Int} (p : (c :: c :: ss).Perm (v :: v :: ss)) : c = v := by
  refine Classical.byContradiction fun q => ?_
  have := p.count_eq v
  rw [List.count_cons_of_ne q, List.count_cons_of_ne q, List.count_cons_self, List.count_cons_self] at this
  omega
theorem ports_roots {t : Int} (ht : 1 ≤ t) : ∀ ps : List Int, (∀ p ∈ ps, 0 ≤ p) → ((ps.map fun p => if p.toNat = 0 then 0 else p.toNat + t.toNat).map fun (k : Nat) => (k : Int)) = ps.map (rt t)
  | [], _ => rfl
  | p :: ps, h => by
    have hp := h p List.mem_cons_self
    rw [List.map_cons, List.map_cons, List.map_cons, ports_roots ht ps fun q hq => h q (List.mem_cons_of_mem _ hq)]
    congr 1
    unfold rt
    by_cases q : p = 0
    · subst q; rfl
    · rw [if_neg (by omega), if_neg q]; omega
end Mine
end
section
set_option hygiene false
open PySem PySem.W PyProof.Rows PySem.Calls
set_option maxRecDepth 100000
set_option maxHeartbeats 1000000
namespace Mine
local macro_rules | `(tactic| walk_at "enterX") => `(tactic| (
  refine wpAny_call ?_
  k_dflt (refine' enterX (K := hd.heap_39 _) (h := ?_); k_whole; intro L' h' F' N'; (try dsimp only); (try k_fold))))
local macro_rules | `(tactic| walk_at "exec While Compare cons nil") => `(tactic| (k_here; (rename UseW _ => mkX); (rename Fr _ _ _ _ => lF'); (rename News _ _ _ _ => lN'); (with_unfolding_all refine While_mark mkX lF' lN' (by passes_own) ?_ ?_); (all_goals clear lF' lN')))
local macro_rules | `(tactic| walk_at "exec For Name Call cons nil") => `(tactic| (k_here; (rename UseF _ _ => mkX); (rename Fr _ _ _ _ => lF'); (with_unfolding_all refine' For_invVF lF' (by exact rfl) (by exact rfl) ?_; k_whole)))
local macro_rules | `(tactic| walk_at "pyIter ref") => `(tactic| ((rename UseF _ _ => mkX); (rename Fr _ _ _ _ => lF'); (rename News _ _ _ _ => lN'); (rename IsRange _ _ _ _ _ _ _ _ => rgX); (with_unfolding_all refine for_range mkX (by rfl) rgX ?_ ?_ lF' lN' ?_ ?_ ?_); (all_goals clear lF' lN')))
local macro_rules | `(tactic| walk_at "enterC") => `(tactic| (
  refine wpAny_call ?_
  k_dflt (refine' enterC (K := hd.heap_39 _) (h := ?_); k_whole; intro L' h' tk' cells' F' N' Y'; k_cells Y'; (try simp only [List.cons_append, List.nil_append] at N'); (try dsimp only); (try k_fold))))
local macro_rules | `(tactic| walk_at "eval ListComp") => `(tactic| (k_here; (rename UseC => cX); k_dflt (refine LCt.ListComp_T (F₀ := by k_asm) (by with_unfolding_all rfl) (by decide) (by rfl) (by decide) (by rfl) ?_)))
local macro_rules | `(tactic| walk_at "exec Assign cons ListComp") => `(tactic| (k_here; (rename UseA => cX); k_dflt (refine LCt.Assign_ListComp_T (F₀ := by k_asm) (by rfl) (by with_unfolding_all rfl) (by with_unfolding_all rfl) (by decide) (by rfl) (by decide) (by rfl) (by rfl) (by rfl) ?_)))
local macro_rules | `(tactic| walk_at "CompSrcT") => `(tactic| (k_here; (rename UseC => cX); k_dflt (first
  | (refine LCt.CompSrcT.ledger (by rfl) (by k_asm) (by k_asm) (by k_mem) (by size_fits) ?_; intro g'; refine Hold.out ?_)
  | (refine LCt.CompSrcT.base (by rfl) (by k_asm) (by k_asm) (by assumption) (by size_fits) ?_; intro g'; refine Hold.out ?_)
  | (refine LCt.CompSrcT.range (by rfl) (by k_asm) (by k_asm) (by assumption) (Hold.out ?_) (rangeSize_nat _ _) (Hold.out ?_) ?_; rotate_right; intro g'; refine Hold.out ?_))))
local macro_rules | `(tactic| walk_at "CompSrc") => `(tactic| (k_here; (rename UseC => cX); k_dflt (refine LCg.CompSrc.ledger (by rfl) (by k_asm) (by k_asm) (by k_mem) (by size_fits) ?_; intro g'; refine Hold.out ?_)))
local macro_rules | `(tactic| walk_at "exec For Name Name cons nil") => `(tactic| (k_here; (rename UseTu => cX); (rename Fr _ _ _ _ => lF'); (with_unfolding_all refine' For_turns lF' ?_; k_whole)))
local macro_rules | `(tactic| walk_at "pyIter ref") => `(tactic| ((rename UseTu => cX); (rename UseF _ _ => mkX); (rename Fr _ _ _ _ => lF'); (rename News _ _ _ _ => lN'); (with_unfolding_all refine turns_base mkX (by rfl) (by assumption) lF' lN' ?_ ?_ ?_); (all_goals clear lF' lN')))
theorem fillit1 : PySem.Challenge.rw_sr0023_01 = PySem.Challenge.rw_sr0023_01 ∧ hd.heap_39 = hd.heap_39 := by
  k_fill
  exact ⟨rfl, rfl⟩
section -- B1
theorem resetB1 : True := by
  w_top off
  trivial
noncomputable def JBis (l : Addr) (x : Int) (tx : Tok) (len : Nat) (P : Int → Int → Prop) : Inv := fun n m news => news = [] ∧ m "a" = some (.ref l) ∧ m "x" = some (.int x tx) ∧ m "key" = some .none ∧
  ∃ lo hi t1 t2, m "lo" = some (.int lo t1) ∧ m "hi" = some (.int hi t2) ∧ 0 ≤ lo ∧ lo ≤ hi ∧ hi ≤ (len : Int) ∧ n = (hi - lo).toNat ∧ P lo hi
theorem mid_facts {lo hi : Int} (h0 : 0 ≤ lo) (h : lo < hi) : ∃ k : Nat, (lo + hi).fdiv 2 = (k : Int) ∧ lo ≤ (k : Int) ∧ (k : Int) < hi := by
  rw [Int.fdiv_eq_ediv_of_nonneg _ (by decide)]
  exact ⟨((lo + hi) / 2).toNat, by omega, by omega, by omega⟩
theorem c_bisect_right {w : World} {p : Program} {loose : List Str} {mean : ExcName → Option Value} {mg mb : Str → Option Value}
   {dp un : Nat} {gd : Option (List Code)} {fr : Option (List Env)} {s : Shared} {Q E : Value → Shared → Prop}
   {l : Addr} {vs : List Value} {ns : List Int} {x : Int} {tx t0 : Tok}
   (X : (hd.heap_39 w.params).In s.heap) (T : Top p loose mean mg mb s.heap)
   (hl : s.heap.IsList l vs.toArray) (hi : IntsAre vs ns) (hlen : ns.length < 1000) (hs : Rise ns)
   (hd1 : dp + 1 < recursionLimit) (hu : un + 8 < cLine)
   (ret : ∀ h' tk' (r : Nat) t, Ext s.heap h' → r ≤ ns.length → (∀ i : Nat, i < r → ns.getD i 0 ≤ x) → (∀ i : Nat, r ≤ i → i < ns.length → x < ns.getD i 0) → Q (.int r t) { s with heap := h', toks := tk' }) :
   wpAny (model Prg w) ⟨none, dp, fr, gd, un⟩ (call (.ref 49) [.ref l, .int x tx, .int 0 t0, .none]) Q E s := by
  have mkW : UseW (JBis l x tx ns.length (fun lo hi => (∀ i : Nat, (i : Int) < lo → ns.getD i 0 ≤ x) ∧ (∀ i : Nat, hi ≤ (i : Int) → i < ns.length → x < ns.getD i 0))) := ⟨⟩
  walk_at "enterX"
  k_steps
  · exact ⟨_, rfl, rfl, rfl, rfl, 0, _, _, _, rfl, rfl, by omega, by simp, by simp [hi.length], rfl, by intro i h; omega, by intro i h1 h2; simp [hi.length] at h1; omega⟩
  · intro n m₁ news₁ h₁ tk₁ F₁ N₁ hJ
    obtain ⟨rfl, ha, hx, hk, lo, hi', t1, t2, hlo, hhi, h0, h1, h2, rfl, hP1, hP2⟩ := hJ
    have F2 := frSeen F₁ [("lo", _), ("hi", _), ("a", _), ("x", _), ("key", _)] (by
      intro p hp
      simp only [List.mem_cons, List.not_mem_nil, or_false] at hp
      rcases hp with rfl | rfl | rfl | rfl | rfl <;> assumption)
    dsimp only [seen] at F2
    clear F₁
    k_steps
    · rename lo < hi' => hlt
      rename x < _ => hc
      rename Fr _ _ _ _ => F'
      rename News _ _ _ _ => N'
      obtain ⟨k, hk1, hk2, hk3⟩ := mid_facts h0 hlt
      rw [hk1] at hc F'
      simp only [Int.toNat_natCast] at hc
      refine WhileStep.intro F' N' (n' := ((k : Int) - lo).toNat) (by omega) ⟨rfl, rfl, rfl, rfl, lo, k, _, _, rfl, rfl, h0, hk2, by omega, rfl, hP1, fun i h1 h2 => ?_⟩
      have := rise_getD hs k i (by omega) h2
      omega
    · rename lo < hi' => hlt
      rename ¬ (x < _) => hc
      rename Fr _ _ _ _ => F'
      rename News _ _ _ _ => N'
      obtain ⟨k, hk1, hk2, hk3⟩ := mid_facts h0 hlt
      rw [hk1] at hc F'
      simp only [Int.toNat_natCast] at hc
      refine WhileStep.intro F' N' (n' := (hi' - ((k : Int) + 1)).toNat) (by omega) ⟨rfl, rfl, rfl, rfl, k + 1, hi', _, _, rfl, rfl, by omega, by omega, by omega, rfl, fun i h1 => ?_, hP2⟩
      have := rise_getD hs i k (by omega) (by omega)
      omega
    · obtain ⟨k, rfl⟩ := Int.eq_ofNat_of_zero_le h0
      show Q (.int (k : Int) _) _
      exact ret _ _ k _ F2.keep (by omega) (fun i h => hP1 i (by omega)) (fun i h1 h2 => hP2 i (by omega) h2)

theorem c_bisect_left {w : World} {p : Program} {loose : List Str} {mean : ExcName → Option Value} {mg mb : Str → Option Value}
   {dp un : Nat} {gd : Option (List Code)} {fr : Option (List Env)} {s : Shared} {Q E : Value → Shared → Prop}
   {l : Addr} {vs : List Value} {ns : List Int} {x : Int} {tx t0 : Tok}
   (X : (hd.heap_39 w.params).In s.heap) (T : Top p loose mean mg mb s.heap)
   (hl : s.heap.IsList l vs.toArray) (hi : IntsAre vs ns) (hlen : ns.length < 1000) (hs : Rise ns)
   (hd1 : dp + 1 < recursionLimit) (hu : un + 8 < cLine)
   (ret : ∀ h' tk' (r : Nat) t, Ext s.heap h' → r ≤ ns.length → (∀ i : Nat, i < r → ns.getD i 0 < x) → (∀ i : Nat, r ≤ i → i < ns.length → x ≤ ns.getD i 0) → Q (.int r t) { s with heap := h', toks := tk' }) :
   wpAny (model Prg w) ⟨none, dp, fr, gd, un⟩ (call (.ref 67) [.ref l, .int x tx, .int 0 t0, .none]) Q E s := by
  have mkW : UseW (JBis l x tx ns.length (fun lo hi => (∀ i : Nat, (i : Int) < lo → ns.getD i 0 < x) ∧ (∀ i : Nat, hi ≤ (i : Int) → i < ns.length → x ≤ ns.getD i 0))) := ⟨⟩
  walk_at "enterX"
  k_steps
  · exact ⟨_, rfl, rfl, rfl, rfl, 0, _, _, _, rfl, rfl, by omega, by simp, by simp [hi.length], rfl, by intro i h; omega, by intro i h1 h2; simp [hi.length] at h1; omega⟩
  · intro n m₁ news₁ h₁ tk₁ F₁ N₁ hJ
    obtain ⟨rfl, ha, hx, hk, lo, hi', t1, t2, hlo, hhi, h0, h1, h2, rfl, hP1, hP2⟩ := hJ
    have F2 := frSeen F₁ [("lo", _), ("hi", _), ("a", _), ("x", _), ("key", _)] (by
      intro p hp
      simp only [List.mem_cons, List.not_mem_nil, or_false] at hp
      rcases hp with rfl | rfl | rfl | rfl | rfl <;> assumption)
    dsimp only [seen] at F2
    clear F₁
    k_steps
    · rename lo < hi' => hlt
      rename _ < x => hc
      rename Fr _ _ _ _ => F'
      rename News _ _ _ _ => N'
      obtain ⟨k, hk1, hk2, hk3⟩ := mid_facts h0 hlt
      rw [hk1] at hc F'
      simp only [Int.toNat_natCast] at hc
      refine WhileStep.intro F' N' (n' := (hi' - ((k : Int) + 1)).toNat) (by omega) ⟨rfl, rfl, rfl, rfl, k + 1, hi', _, _, rfl, rfl, by omega, by omega, by omega, rfl, fun i h1 => ?_, hP2⟩
      have := rise_getD hs i k (by omega) (by omega)
      omega
    · rename lo < hi' => hlt
      rename ¬ (_ < x) => hc
      rename Fr _ _ _ _ => F'
      rename News _ _ _ _ => N'
      obtain ⟨k, hk1, hk2, hk3⟩ := mid_facts h0 hlt
      rw [hk1] at hc F'
      simp only [Int.toNat_natCast] at hc
      refine WhileStep.intro F' N' (n' := ((k : Int) - lo).toNat) (by omega) ⟨rfl, rfl, rfl, rfl, lo, k, _, _, rfl, rfl, h0, hk2, by omega, rfl, hP1, fun i h1 h2 => ?_⟩
      have := rise_getD hs k i (by omega) h2
      omega
    · obtain ⟨k, rfl⟩ := Int.eq_ofNat_of_zero_le h0
      show Q (.int (k : Int) _) _
      exact ret _ _ k _ F2.keep (by omega) (fun i h => hP1 i (by omega)) (fun i h1 h2 => hP2 i (by omega) h2)
end
section -- B2
theorem resetB2 : True := by
  w_top off
  trivial
theorem listAt_news {h₀ h : Heap} {L l : Addr} {vs : List Value} {n : Nat} {news : List (Addr × Obj)} (N : News h₀ L h news) (hm : (l, listOf vs.toArray n) ∈ news) : h.IsList l vs.toArray := ⟨_, (N _ hm).1, rfl, n, rfl⟩
theorem ints_ins {vs : List Value} {ns : List Int} (hi : IntsAre vs ns) {r : Nat} (hr : r ≤ ns.length) (x : Int) (t : Tok) : IntsAre (kl_ins vs (r : Int) (.int x t)) (ns.take r ++ x :: ns.drop r) := by
  unfold kl_ins
  have e : (if (r : Int) < 0 then ((r : Int) + (vs.length : Int)).toNat else min (r : Int).toNat vs.length) = r := by
    rw [if_neg (by omega), Int.toNat_natCast, hi.length]; omega
  rw [e]
  exact (hi.take r).append (.cons x t (hi.drop r))
local macro_rules | `(tactic| walk_at "call ref") => `(tactic| (k_here; k_dflt (refine' c_bisect_right (by k_in) (by exact Top.keeps (by assumption) (Fr.keep (by assumption))) (by exact listAt_news (by assumption) (by k_mem)) (by assumption) (by omega) (by assumption) (by ktr_room) (by ktr_units) ?_); intro h' tk' r' t' hx' hr' hlo' hhi'; (rename Fr _ _ _ _ => lF'); (rename News _ _ _ _ => lN'); (have F' := Fr.keeps lF' hx'); (have N' := News.grown lN' hx'); clear lF' lN'; (try dsimp only)))
local macro_rules | `(tactic| walk_at "call ref") => `(tactic| (k_here; k_dflt (refine' c_bisect_left (by k_in) (by exact Top.keeps (by assumption) (Fr.keep (by assumption))) (by exact listAt_news (by assumption) (by k_mem)) (by assumption) (by omega) (by assumption) (by ktr_room) (by ktr_units) ?_); intro h' tk' r' t' hx' hr' hlo' hhi'; (rename Fr _ _ _ _ => lF'); (rename News _ _ _ _ => lN'); (have F' := Fr.keeps lF' hx'); (have N' := News.grown lN' hx'); clear lF' lN'; (try dsimp only)))
local macro_rules | `(tactic| walk_at "call builtin:list.insert") => `(tactic| (k_here; (rename IntsAre _ _ => iX); (k_dflt (refine' kl_insert (by k_asm) (by k_asm) (by (simp only [Builtin.List.listFitsIndex, Bool.and_eq_true, decide_eq_true_eq]; omega)) rfl (by k_upd) (by (have := iX.length; simp only [sizeLine_eq, List.toList_toArray]; omega)) ?_)); intro h' F' N'))
theorem c_insort_right {w : World} {p : Program} {loose : List Str} {mean : ExcName → Option Value} {mg mb : Str → Option Value}
   {dp un : Nat} {gd : Option (List Code)} {fr : Option (List Env)} {s : Shared} {Q E : Value → Shared → Prop}
   {g : Heap} {l : Addr} {vs : List Value} {n : Nat} {ns : List Int} {x : Int} {tx : Tok}
   (hg : Ext g s.heap) (hgs : g.objs.size = s.heap.objs.size) (hgl : g.get? l = none)
   (X : (hd.heap_39 w.params).In g) (T : Top p loose mean mg mb g)
   (hl : s.heap.get? l = some (listOf vs.toArray n)) (hi : IntsAre vs ns) (hlen : ns.length < 900) (hs : Rise ns)
   (hd1 : dp + 2 < recursionLimit) (hu : un + 16 < cLine)
   (ret : ∀ h' tk' vs' ns' n', Ext g h' → h'.get? l = some (listOf vs'.toArray n') → IntsAre vs' ns' → Rise ns' → ns'.Perm (x :: ns) → Q .none { s with heap := h', toks := tk' }) :
   wpAny (model Prg w) ⟨none, dp, fr, gd, un⟩ (call (.ref 40) [.ref l, .int x tx]) Q E s := by
  refine wpAny_call ?_
  k_dflt (refine' enterM (K := hd.heap_39 _) g [(l, listOf vs.toArray n)] (by assumption) (by assumption) (by exact fun q hq => by rw [List.mem_singleton.mp hq]; exact ⟨hl, hgl⟩) (by assumption) (by assumption) (by k_is) (by k_is) (by ktr_room) (by refine' kp_binds (by exact X.keeps hg) (by exact fun _ => rfl)) (by exact locs rfl) ?_ (by exact rfl) (by exact rfl) (by exact rfl) (by decide); k_whole; intro L' h' F' N'; (try dsimp only); (try k_fold))
  k_steps
  rename Fr _ _ _ _ => F'
  rename News _ _ _ _ => N'
  rename ∀ i : Nat, i < _ → _ ≤ x => h1
  rename ∀ i : Nat, _ → _ → x < _ => h2
  rename _ ≤ ns.length => hr
  rename IntsAre _ _ => hi
  exact ret _ _ _ _ _ F'.keep (N' _ (.head _)).1 (ints_ins hi hr x tx) (rise_ins hs (fun i a _ => h1 i a) fun i a b => Int.le_of_lt (h2 i a b)) (perm_ins ns x _)
theorem c_insort_left {w : World} {p : Program} {loose : List Str} {mean : ExcName → Option Value} {mg mb : Str → Option Value}
   {dp un : Nat} {gd : Option (List Code)} {fr : Option (List Env)} {s : Shared} {Q E : Value → Shared → Prop}
   {g : Heap} {l : Addr} {vs : List Value} {n : Nat} {ns : List Int} {x : Int} {tx : Tok}
   (hg : Ext g s.heap) (hgs : g.objs.size = s.heap.objs.size) (hgl : g.get? l = none)
   (X : (hd.heap_39 w.params).In g) (T : Top p loose mean mg mb g)
   (hl : s.heap.get? l = some (listOf vs.toArray n)) (hi : IntsAre vs ns) (hlen : ns.length < 900) (hs : Rise ns)
   (hd1 : dp + 2 < recursionLimit) (hu : un + 16 < cLine)
   (ret : ∀ h' tk' vs' ns' n', Ext g h' → h'.get? l = some (listOf vs'.toArray n') → IntsAre vs' ns' → Rise ns' → ns'.Perm (x :: ns) → Q .none { s with heap := h', toks := tk' }) :
   wpAny (model Prg w) ⟨none, dp, fr, gd, un⟩ (call (.ref 58) [.ref l, .int x tx]) Q E s := by
  refine wpAny_call ?_
  k_dflt (refine' enterM (K := hd.heap_39 _) g [(l, listOf vs.toArray n)] (by assumption) (by assumption) (by exact fun q hq => by rw [List.mem_singleton.mp hq]; exact ⟨hl, hgl⟩) (by assumption) (by assumption) (by k_is) (by k_is) (by ktr_room) (by refine' kp_binds (by exact X.keeps hg) (by exact fun _ => rfl)) (by exact locs rfl) ?_ (by exact rfl) (by exact rfl) (by exact rfl) (by decide); k_whole; intro L' h' F' N'; (try dsimp only); (try k_fold))
  k_steps
  rename Fr _ _ _ _ => F'
  rename News _ _ _ _ => N'
  rename ∀ i : Nat, i < _ → _ < x => h1
  rename ∀ i : Nat, _ → _ → x ≤ _ => h2
  rename _ ≤ ns.length => hr
  rename IntsAre _ _ => hi
  exact ret _ _ _ _ _ F'.keep (N' _ (.head _)).1 (ints_ins hi hr x tx) (rise_ins hs (fun i a _ => Int.le_of_lt (h1 i a)) fun i a b => h2 i a b) (perm_ins ns x _)
end
section -- B3
theorem resetB3 : True := by
  w_top off
  trivial
/-- a call that changes one object of the ledger -/
theorem mut_use {K : Frag} {p : Program} {loose : List Str} {mean : ExcName → Option Value} {mg mb : Str → Option Value} {M : Model} {A : Around} {E Q : Value → Shared → Prop} {s : Shared} {t : Sem Value}
    {h₀ : Heap} {L l : Addr} {m : Str → Option Value} {news : List (Addr × Obj)} {o : Obj} {P : Obj → Prop} (f : Obj → List (Addr × Obj))
    (F : Fr h₀ L s.heap m) (N : News h₀ L s.heap news) (X : K.In h₀) (T : Top p loose mean mg mb h₀)
    (U : ∀ o', Upd l o o' news (f o'))
    (con : ∀ g, Ext g s.heap → g.objs.size = s.heap.objs.size → g.get? l = none → K.In g → Top p loose mean mg mb g → s.heap.get? l = some o →
      (∀ h' tk' o', Ext g h' → h'.get? l = some o' → P o' → Q .none { s with heap := h', toks := tk' }) → wpAny M A t Q E s)
    (h : ∀ h' tk' o', Fr h₀ L h' m → News h₀ L h' (f o') → P o' → Q .none { s with heap := h', toks := tk' }) : wpAny M A t Q E s := by
  obtain ⟨pre, post, hn, _, hp, hq⟩ := (U o).split
  have hm : (l, o) ∈ news := by rw [hn]; exact List.mem_append.mpr (.inr (.head _))
  have hl := N _ hm
  have k0 : ∀ b x, h₀.get? b = some x → (hideAll s.heap [l]).get? b = some x := fun b x e => hideAll_get _ (F.keep b x e) fun q => by
    rw [List.mem_singleton.mp q] at e; rw [hl.2.2] at e; cases e
  refine con (hideAll s.heap [l]) (fun b x e => of_hideAll _ e) (hideAll_size _ _) (hideAll_none _ (List.mem_singleton.mpr rfl)) (X.keeps k0) (T.keeps k0) hl.1 fun h' tk' o' e1 e2 hP => ?_
  have kb : ∀ b x, b ≠ l → s.heap.get? b = some x → h'.get? b = some x := fun b x hb e => e1 b x (hideAll_get _ e fun q => hb (List.mem_singleton.mp q))
  refine h h' tk' o' ⟨F.ns.at' fun x e => kb _ x (fun q => hl.2.1 q.symm) e, fun b x e => e1 b x (k0 b x e), F.above⟩ ?_ hP
  obtain ⟨pre', post', hn', hf, hp', hq'⟩ := (U o').split
  rw [hf]
  rw [hn'] at N
  intro q hq1
  rcases List.mem_append.mp hq1 with q1 | q1
  · have z := N q (List.mem_append_left _ q1); exact ⟨kb _ _ (hp' q q1) z.1, z.2⟩
  · rcases List.mem_cons.mp q1 with rfl | q1
    · exact ⟨e2, hl.2⟩
    · have z := N q (List.mem_append_right _ (.tail _ q1)); exact ⟨kb _ _ (hq' q q1) z.1, z.2⟩
noncomputable def Inserted (x : Int) (ns : List Int) (o : Obj) : Prop := ∃ vs' ns' n', o = listOf vs'.toArray n' ∧ IntsAre vs' ns' ∧ Rise ns' ∧ ns'.Perm (x :: ns)
section
variable {w : World} {p : Program} {loose : List Str} {mean : ExcName → Option Value} {mg mb : Str → Option Value}
   {dp un : Nat} {gd : Option (List Code)} {fr : Option (List Env)} {s : Shared} {Q E : Value → Shared → Prop}
   {h₀ : Heap} {L l : Addr} {m : Str → Option Value} {news : List (Addr × Obj)} {vs : List Value} {n : Nat} {ns : List Int} {x : Int} {tx : Tok}
theorem use_insort_right (f : Obj → List (Addr × Obj)) (F : Fr h₀ L s.heap m := by k_asm) (N : News h₀ L s.heap news := by k_asm) (X : (hd.heap_39 w.params).In h₀ := by k_asm) (T : Top p loose mean mg mb h₀ := by k_asm)
   (U : ∀ o', Upd l (listOf vs.toArray n) o' news (f o') := by (intro o'; k_upd)) (hi : IntsAre vs ns := by assumption) (hlen : ns.length < 900 := by omega) (hs : Rise ns := by assumption)
   (hd1 : dp + 2 < recursionLimit := by ktr_room) (hu : un + 16 < cLine := by ktr_units)
   (h : ∀ h' tk' vs' ns' n', Fr h₀ L h' m → News h₀ L h' (f (listOf vs'.toArray n')) → IntsAre vs' ns' → Rise ns' → ns'.Perm (x :: ns) → Q .none { s with heap := h', toks := tk' }) :
   wpAny (model Prg w) ⟨none, dp, fr, gd, un⟩ (call (.ref 40) [.ref l, .int x tx]) Q E s :=
  mut_use (P := Inserted x ns) f F N X T U
    (fun g a b c d e hl k => c_insort_right a b c d e hl hi hlen hs hd1 hu fun h' tk' vs' ns' n' e1 e2 e3 e4 e5 => k h' tk' _ e1 e2 ⟨vs', ns', n', rfl, e3, e4, e5⟩)
    (fun h' tk' o' F' N' hP => by obtain ⟨vs', ns', n', rfl, e3, e4, e5⟩ := hP; exact h h' tk' vs' ns' n' F' N' e3 e4 e5)
theorem use_insort_left (f : Obj → List (Addr × Obj)) (F : Fr h₀ L s.heap m := by k_asm) (N : News h₀ L s.heap news := by k_asm) (X : (hd.heap_39 w.params).In h₀ := by k_asm) (T : Top p loose mean mg mb h₀ := by k_asm)
   (U : ∀ o', Upd l (listOf vs.toArray n) o' news (f o') := by (intro o'; k_upd)) (hi : IntsAre vs ns := by assumption) (hlen : ns.length < 900 := by omega) (hs : Rise ns := by assumption)
   (hd1 : dp + 2 < recursionLimit := by ktr_room) (hu : un + 16 < cLine := by ktr_units)
   (h : ∀ h' tk' vs' ns' n', Fr h₀ L h' m → News h₀ L h' (f (listOf vs'.toArray n')) → IntsAre vs' ns' → Rise ns' → ns'.Perm (x :: ns) → Q .none { s with heap := h', toks := tk' }) :
   wpAny (model Prg w) ⟨none, dp, fr, gd, un⟩ (call (.ref 58) [.ref l, .int x tx]) Q E s :=
  mut_use (P := Inserted x ns) f F N X T U
    (fun g a b c d e hl k => c_insort_left a b c d e hl hi hlen hs hd1 hu fun h' tk' vs' ns' n' e1 e2 e3 e4 e5 => k h' tk' _ e1 e2 ⟨vs', ns', n', rfl, e3, e4, e5⟩)
    (fun h' tk' o' F' N' hP => by obtain ⟨vs', ns', n', rfl, e3, e4, e5⟩ := hP; exact h h' tk' vs' ns' n' F' N' e3 e4 e5)
end
local macro_rules | `(tactic| walk_at "call ref") => `(tactic| (k_here; k_dflt (refine' use_insort_right (f := _) (h := ?_)); intro h' tk' vs' ns' n' F' N' hi' hs' hp'; (have hl' := List.Perm.length_eq hp'); (simp only [List.length_cons] at hl'); (try dsimp only)))
local macro_rules | `(tactic| walk_at "call ref") => `(tactic| (k_here; k_dflt (refine' use_insort_left (f := _) (h := ?_)); intro h' tk' vs' ns' n' F' N' hi' hs' hp'; (have hl' := List.Perm.length_eq hp'); (simp only [List.length_cons] at hl'); (try dsimp only)))
theorem c_with {w : World} {p : Program} {loose : List Str} {mean : ExcName → Option Value} {mg mb : Str → Option Value}
   {dp un : Nat} {gd : Option (List Code)} {fr : Option (List Env)} {s : Shared} {Q E : Value → Shared → Prop}
   {l : Addr} {vs : List Value} {ns : List Int} {x : Int} {tx : Tok}
   (X : (hd.heap_39 w.params).In s.heap) (T : Top p loose mean mg mb s.heap)
   (hl : s.heap.IsList l vs.toArray) (hi : IntsAre vs ns) (hlen : ns.length < 800) (hs : Rise ns)
   (hd1 : dp + 3 < recursionLimit) (hu : un + 24 < cLine)
   (ret : ∀ D h' tk' vs' ns' n', Ext s.heap h' → h'.get? D = some (listOf vs'.toArray n') → s.heap.get? D = none → IntsAre vs' ns' → Rise ns' → ns'.Perm (x :: x :: ns) → Q (.ref D) { s with heap := h', toks := tk' }) :
   wpAny (model Prg w) ⟨none, dp, fr, gd, un⟩ (call (.ref 159) [.ref l, .int x tx]) Q E s := by
  have hz := hi.length
  walk_at "enterX"
  k_steps
  rename Fr _ _ _ _ => F'
  rename News _ _ _ _ => N'
  rename IntsAre _ _ => hi2
  rename Rise _ => hs2
  rename List.Perm _ (x :: ns) => hp1
  rename List.Perm _ (x :: _) => hp2
  exact ret _ _ _ _ _ _ F'.keep (N' _ (.head _)).1 (N' _ (.head _)).2.2 hi2 hs2 (hp2.trans (.cons x hp1))
end
section -- B4
theorem resetB4 : True := by
  w_top off
  trivial
/-- outer: low passes are done -/
noncomputable def JMovedO (y : Int) (ty : Tok) (cs : List Int) : Inv := fun low m news => ∃ D vs ms c, m "moved" = some (.ref D) ∧ m "by" = some (.int y ty) ∧
  news = [(D, listOf vs.toArray c)] ∧ IntsAre vs ms ∧ ms.length = cs.length ∧ sh y cs = ms.take low ++ sh y (ms.drop low)
/-- inner: i stores are done -/
noncomputable def JMovedI (y : Int) (ty : Tok) (D : Addr) (low : Int) (tl : Tok) (ms : List Int) (I : Addr) (it : Obj) : Inv := fun i m news => m "moved" = some (.ref D) ∧ m "by" = some (.int y ty) ∧ m "low" = some (.int low tl) ∧
  ∃ vs c, news = [(I, it), (D, listOf vs.toArray c)] ∧ IntsAre vs (ms.take (ms.length - 1 - i) ++ hor y (ms.drop (ms.length - 1 - i)))
theorem c_moved {w : World} {p : Program} {loose : List Str} {mean : ExcName → Option Value} {mg mb : Str → Option Value}
   {dp un : Nat} {gd : Option (List Code)} {fr : Option (List Env)} {s : Shared} {Q E : Value → Shared → Prop}
   {l : Addr} {vs : List Value} {cs : List Int} {y : Int} {ty : Tok}
   (X : (hd.heap_39 w.params).In s.heap) (T : Top p loose mean mg mb s.heap)
   (hl : s.heap.IsList l vs.toArray) (hi : IntsAre vs cs) (hlen : cs.length < 800) (hy1 : -20 ≤ y) (hy2 : y ≤ 20)
   (hd1 : dp + 1 < recursionLimit) (hu : un + 8 < cLine)
   (ret : ∀ D h' tk' vs' n', Ext s.heap h' → h'.get? D = some (listOf vs'.toArray n') → s.heap.get? D = none → IntsAre vs' (sh y cs) → Q (.ref D) { s with heap := h', toks := tk' }) :
   wpAny (model Prg w) ⟨none, dp, fr, gd, un⟩ (call (.ref 142) [.ref l, .int y ty]) Q E s := by
  have hz := hi.length
  have mkO : UseF (JMovedO y ty cs) cs.length := ⟨⟩
  walk_at "enterX"
  k_steps
  · exact rg_small _ _ _ (by omega) (by omega) (by omega) (by omega) (.inl rfl)
  · show Builtin.Range.rangeSize 0 (cs.length : Int) 1 = _
    rw [rangeSize_nat]; omega
  · exact ⟨_, vs, cs, _, rfl, rfl, rfl, hi, rfl, by simp⟩
  · intro i t m₁ news₁ h tk I it hi' hJ off F₁ N₁
    obtain ⟨D, vs', ms, c, hm, hb, rfl, hi2, hl2', hs2⟩ := hJ
    have F2 := frSeen F₁ [("low", _), ("moved", _), ("by", _)] (by
      intro p hp
      simp only [List.mem_cons, List.not_mem_nil, or_false] at hp
      rcases hp with rfl | rfl | rfl
      · rfl
      · exact hm
      · exact hb)
    dsimp only [seen] at F2
    clear F₁
    have hz2 := hi2.length
    have hi'' : i < ms.length := by omega
    have o1 : @Ne Nat D I := off _ (.head _)
    have mkI : UseF (JMovedI y ty D (0 + (i : Int) * 1) t ms I it) (ms.length - 1 - i) := ⟨⟩
    k_steps
    · exact rg_small _ _ _ (by omega) (by omega) (by omega) (by omega) (.inr rfl)
    · exact rg_down_size _ _ _ (by omega)
    · exact ⟨rfl, rfl, rfl, vs', c, rfl, by rw [Nat.sub_zero, hor_last]; exact hi2⟩
    · intro j t2 m₂ news₂ h2 tk2 I2 it2 hj hJ2 off2 F₂ N₂
      obtain ⟨hm2, hb2, hl2, vs2, c2, rfl, hi3⟩ := hJ2
      have F3 := frSeen F₂ [("k", _), ("low", _), ("moved", _), ("by", _)] (by
        intro p hp
        simp only [List.mem_cons, List.not_mem_nil, or_false] at hp
        rcases hp with rfl | rfl | rfl | rfl
        · rfl
        · exact hl2
        · exact hm2
        · exact hb2)
      dsimp only [seen] at F3
      clear F₂
      obtain ⟨ws, hws⟩ : ∃ ws, ws = ms.take (ms.length - 1 - j) ++ hor y (ms.drop (ms.length - 1 - j)) := ⟨_, rfl⟩
      rw [← hws] at hi3
      have hwl : ws.length = ms.length := by rw [hws, hor_mix_length]
      have hz3 := hi3.length
      have hk : (ms.length : Int) - 2 + (j : Int) * -1 = ((ms.length - 2 - j : Nat) : Int) := by omega
      rw [hk] at F3
      have o2 : @Ne Nat I I2 := off2 _ (.head _)
      have o3 : @Ne Nat D I2 := off2 _ (.tail _ (.head _))
      k_steps
      rename Fr _ _ _ _ => F'
      rename News _ _ _ _ => N'
      rename IntsAre (List.set _ _ _) _ => hi4
      have e := hor_step (y := y) (ms := ms) (k := ms.length - 2 - j) (by omega)
      have ek : (((ms.length - 2 - j : Nat) : Int) + 1).toNat = ms.length - 1 - j := by omega
      have ej : ms.length - 1 - (j + 1) = ms.length - 2 - j := by omega
      rw [show ms.length - 2 - j + 1 = ms.length - 1 - j by omega, ← hws] at e
      simp only [Int.toNat_natCast, ek] at hi4
      rw [e] at hi4
      refine UnrEnd.intro F' N' [(I, it), (D, _)] (fun p hp => hp) (fun p hp => ?_) ⟨rfl, rfl, rfl, _, _, rfl, by rw [ej]; simp only [Int.toNat_natCast, ek]; exact hi4⟩
      simp only [List.mem_cons, List.not_mem_nil, or_false] at hp
      rcases hp with rfl | rfl <;> assumption
    · intro m₂ news₂ h2 tk2 hJ2 F₂ N₂
      obtain ⟨hm2, hb2, hl2, vs2, c2, rfl, hi3⟩ := hJ2
      have F3 := frSeen F₂ [("low", _), ("moved", _), ("by", _)] (by
        intro p hp
        simp only [List.mem_cons, List.not_mem_nil, or_false] at hp
        rcases hp with rfl | rfl | rfl <;> assumption)
      dsimp only [seen] at F3
      clear F₂
      k_steps
      have e1 : ms.length - 1 - (ms.length - 1 - i) = i := by omega
      rw [e1] at hi3
      refine UnrEnd.intro F3 N₂ [(D, _)] (fun p hp => hp) (fun p hp => ?_) ⟨D, _, _, _, rfl, rfl, rfl, hi3, by rw [hor_mix_length]; exact hl2', sh_pass (by omega) hs2 rfl⟩
      simp only [List.mem_cons, List.not_mem_nil, or_false] at hp
      rcases hp with rfl; assumption
  · intro m₁ news₁ h tk hJ F₁ N₁
    obtain ⟨D, vs', ms, c, hm, hb, rfl, hi2, hl2', hs2⟩ := hJ
    have F2 := frSeen F₁ [("moved", _), ("by", _)] (by
      intro p hp
      simp only [List.mem_cons, List.not_mem_nil, or_false] at hp
      rcases hp with rfl | rfl <;> assumption)
    dsimp only [seen] at F2
    clear F₁
    k_steps
    rw [List.take_of_length_le (by omega), List.drop_eq_nil_of_le (by omega), sh_nil, List.append_nil] at hs2
    exact ret _ _ _ _ _ F2.keep (N₁ _ (.head _)).1 (N₁ _ (.head _)).2.2 (hs2 ▸ hi2)
end
local macro_rules | `(tactic| walk_at "no such node") => `(tactic| skip)
section -- B5
theorem resetB5 : True := by
  w_top off
  trivial
theorem c_changes {w : World} {p : Program} {loose : List Str} {mean : ExcName → Option Value} {mg mb : Str → Option Value}
   {dp un : Nat} {gd : Option (List Code)} {fr : Option (List Env)} {s : Shared} {Q E : Value → Shared → Prop}
   {l : Addr} {vs : List Value} {cs : List Int}
   (X : (hd.heap_39 w.params).In s.heap) (T : Top p loose mean mg mb s.heap)
   (hl : s.heap.IsList l vs.toArray) (hi : IntsAre vs cs) (hlen : cs.length < 800)
   (hd1 : dp + 1 < recursionLimit) (hu : un + 8 < cLine)
   (ret : ∀ h' tk' t, Ext s.heap h' → Q (.int (var cs : Nat) t) { s with heap := h', toks := tk' }) :
   wpAny (model Prg w) ⟨none, dp, fr, gd, un⟩ (call (.ref 152) [.ref l]) Q E s := by
  have hz := hi.length
  have hcU : UseC := ⟨⟩
  walk_at "enterC"
  k_steps
  refine compT_c (fun i ys => LSm.BoolsAre ys (signsOf (cs.take i))) .nil (fun ys hJ => ?_) (fun i ys v I oI C oC D m₂ h tk E' hi' hJ hv hC hx F N off ne => ?_)
  · have hJ1 : LSm.BoolsAre ys (signsOf cs) := by
      rw [List.size_toArray, hz, List.take_length] at hJ; exact hJ
    clear hJ
    have hbl := signsOf_le cs
    obtain ⟨bs, hbs⟩ : ∃ bs, bs = signsOf cs := ⟨_, rfl⟩
    rw [← hbs] at hJ1 hbl
    k_steps
    · refine compT_c (fun i ys' => ys'.length = cnt bs i) rfl (fun ys' hJ => ?_) (fun i ys' v I oI C oC D m₂ h tk E' hi' hJ hv hC hx F N off ne => ?_)
      · have hq : cnt bs ((bs.length : Int) - 1).toNat ≤ bs.length := by
          refine Nat.le_trans (List.length_filter_le _ _) ?_
          rw [List.length_range]; omega
        k_steps
        rename Fr _ _ _ _ => F'
        rename News _ _ _ _ => N'
        refine KM.len_K (n := cnt bs ((bs.length : Int) - 1).toNat) N' (by k_mem) (by rw [List.size_toArray]; exact hJ) (by omega) ?_
        have hv : cnt bs ((bs.length : Int) - 1).toNat = var cs := by
          unfold var
          rw [← hbs, show ((bs.length : Int) - 1).toNat = bs.length - 1 by omega]
        rw [hv]
        exact ret _ _ _ F'.keep
      · obtain ⟨t, rfl⟩ := hv
        simp only [LCg.Off3, and_true] at off
        have hi2 : (i : Int) + 1 < bs.length := by omega
        have e1 : ((1 : Int) + (i : Int)).toNat = i + 1 := by omega
        have e2 : ((1 : Int) + (i : Int) - 1).toNat = i := by omega
        k_steps
        · rename (_ != _) = true => hc
          rw [e1, e2, bne_iff_ne] at hc
          rw [List.length_append, hJ, cnt_succ, if_pos hc]; rfl
        · rename (_ != _) = false => hc
          rw [e1, e2, bne_eq_false_iff_eq] at hc
          rw [hJ, cnt_succ, if_neg (fun q => q hc)]
    · exact rg_small _ _ _ (by omega) (by omega) (by omega) (by omega) (.inl rfl)
    · show _ ≤ _
      rw [sizeLine_eq]; omega
  · obtain ⟨n, t, rfl, hn⟩ := hi.at i v (by simpa using hv)
    simp only [LCg.Off3, and_true] at off
    have ht : cs.take (i + 1) = cs.take i ++ [n] := by rw [List.take_add_one, hn]; rfl
    k_steps
    · rw [ht, signsOf_snoc, if_pos (by assumption)]
      exact kbo_app hJ (.cons _ .nil)
    · rw [ht, signsOf_snoc, if_neg (by omega)]
      exact hJ
end
section -- B6
theorem resetB6 : True := by
  w_top off
  trivial
noncomputable def FunAt (q : Addr) (h : Heap) : Prop := ∃ cls od fd sl, h.get? q = some ⟨cls, od, .func fd, sl⟩
theorem FunAt.keeps {q : Addr} {h h' : Heap} (f : FunAt q h) (k : ∀ b o, h.get? b = some o → h'.get? b = some o) : FunAt q h' := by
  obtain ⟨a, b, c, d, e⟩ := f
  exact ⟨a, b, c, d, k _ _ e⟩
theorem callWith_Q {M : Model} {A : Around} {E Q : Value → Shared → Prop} {s : Shared} {pos : Pos} {env : Env} {first : List Value} {e : Expr} {rest : List Expr} {q : Addr}
    (h : wpAny M A (spliced (backTo pos (starEach (e :: rest) env))) (fun vs s₁ => FunAt q s₁.heap ∧ wpAny M A (call (.ref q) (first ++ vs)) Q E s₁) E s)
    (he : starEach (e :: rest) env = (false, eval e env) :: starEach rest env := by rfl) (hplain : (backTo pos (starEach rest env)).any (·.1) = false := by rfl) :
    wpAny M A (callWith pos (.ref q) first (backTo pos (starEach (e :: rest) env)) []) Q E s := by
  rw [he] at h ⊢
  exact callWith_of (P := FunAt q) (by show ((false || (backTo pos (starEach rest env)).any (·.1)) || false) = false; rw [hplain]; rfl)
    (fun h hq => by obtain ⟨a, b, c, d, hq⟩ := hq; exact ⟨.frame, .inl rfl, (Looks.ld (part := none) hq).andThen .now⟩) (evalArgs_plain h)
/-- its calls give back the int turned about -/
noncomputable def KeyCalls (w : World) (dp un : Nat) (q : Addr) (h : Heap) : Prop :=
  ∀ (gd : Option (List Code)) (fr : Option (List Env)) (s : Shared) (v : Int) (t : Tok) (Q E : Value → Shared → Prop), Ext h s.heap →
    (∀ h' tk' t', Ext s.heap h' → Q (.int (-v) t') { s with heap := h', toks := tk' }) → wpAny (model Prg w) ⟨none, dp, fr, gd, un⟩ (call (.ref q) [.int v t]) Q E s
theorem key_use {w : World} {dp un : Nat} {q : Addr} {h : Heap} {gd : Option (List Code)} {fr : Option (List Env)} {s : Shared} {v : Int} {t : Tok} {Q E : Value → Shared → Prop} (k : KeyCalls w dp un q h) (hx : Ext h s.heap)
    (ret : ∀ h' tk' t', Ext s.heap h' → Q (.int (-v) t') { s with heap := h', toks := tk' }) : wpAny (model Prg w) ⟨none, dp, fr, gd, un⟩ (call (.ref q) [.int v t]) Q E s := k gd fr s v t Q E hx ret
theorem mid_facts' {lo hi : Int} (h0 : 0 ≤ lo) (h : lo < hi) : ∃ k : Nat, (lo + hi).fdiv 2 = (k : Int) ∧ lo ≤ (k : Int) ∧ (k : Int) < hi := by
  rw [Int.fdiv_eq_ediv_of_nonneg _ (by decide)]
  exact ⟨((lo + hi) / 2).toNat, by omega, by omega, by omega⟩
noncomputable def JBisK (l q : Addr) (x : Int) (tx : Tok) (len : Nat) (P : Int → Int → Prop) : Inv := fun n m news => news = [] ∧ m "a" = some (.ref l) ∧ m "x" = some (.int x tx) ∧ m "key" = some (.ref q) ∧
  ∃ lo hi t1 t2, m "lo" = some (.int lo t1) ∧ m "hi" = some (.int hi t2) ∧ 0 ≤ lo ∧ lo ≤ hi ∧ hi ≤ (len : Int) ∧ n = (hi - lo).toNat ∧ P lo hi
local macro_rules | `(tactic| walk_at "callWith ref") => `(tactic| (k_here; k_dflt (refine callWith_Q ?_)))
local macro_rules | `(tactic| walk_at "call ref") => `(tactic| (k_here; k_dflt (refine key_use (by assumption) (Fr.keep (by assumption)) ?_); intro h' tk' t' hx'; (rename Fr _ _ _ _ => lF'); (rename News _ _ _ _ => lN'); (have F' := Fr.keeps lF' hx'); (have N' := News.grown lN' hx'); clear lF' lN'; (try dsimp only)))
local macro_rules | `(tactic| walk_at "FunAt") => `(tactic| (exact FunAt.keeps (by assumption) (Fr.keep (by assumption))))
theorem c_bisect_key {w : World} {p : Program} {loose : List Str} {mean : ExcName → Option Value} {mg mb : Str → Option Value}
   {dp un : Nat} {gd : Option (List Code)} {fr : Option (List Env)} {s : Shared} {Q E : Value → Shared → Prop}
   {l q : Addr} {vs : List Value} {ns : List Int} {x : Int} {tx : Tok}
   (X : (hd.heap_39 w.params).In s.heap) (T : Top p loose mean mg mb s.heap)
   (hl : s.heap.IsList l vs.toArray) (hi : IntsAre vs ns) (hlen : ns.length < 1000) (hs : ∀ i j : Nat, i ≤ j → j < ns.length → ns.getD j 0 ≤ ns.getD i 0)
   (hqo : FunAt q s.heap) (hqc : KeyCalls w (dp + 1) (un + 3) q s.heap)
   (hd1 : dp + 1 < recursionLimit) (hu : un + 8 < cLine)
   (ret : ∀ h' tk' (r : Nat) t, Ext s.heap h' → r ≤ ns.length → (∀ i : Nat, i < r → -(ns.getD i 0) < x) → (∀ i : Nat, r ≤ i → i < ns.length → x ≤ -(ns.getD i 0)) → Q (.int r t) { s with heap := h', toks := tk' }) :
   wpAny (model Prg w) ⟨none, dp, fr, gd, un⟩ (call (.ref 67) [.ref l, .int x tx] [(Str.ofString "key", .ref q)]) Q E s := by
  have mkW : UseW (JBisK l q x tx ns.length (fun lo hi => (∀ i : Nat, (i : Int) < lo → -(ns.getD i 0) < x) ∧ (∀ i : Nat, hi ≤ (i : Int) → i < ns.length → x ≤ -(ns.getD i 0)))) := ⟨⟩
  walk_at "enterX"
  k_steps
  · exact ⟨_, rfl, rfl, rfl, rfl, 0, _, _, _, rfl, rfl, by omega, by simp, by simp [hi.length], rfl, by intro i h; omega, by intro i h1 h2; simp [hi.length] at h1; omega⟩
  · intro n m₁ news₁ h₁ tk₁ F₁ N₁ hJ
    obtain ⟨rfl, ha, hx, hk, lo, hi', t1, t2, hlo, hhi, h0, h1, h2, rfl, hP1, hP2⟩ := hJ
    have F2 := frSeen F₁ [("lo", _), ("hi", _), ("a", _), ("x", _), ("key", _)] (by
      intro p hp
      simp only [List.mem_cons, List.not_mem_nil, or_false] at hp
      rcases hp with rfl | rfl | rfl | rfl | rfl <;> assumption)
    dsimp only [seen] at F2
    clear F₁
    k_steps
    · rename lo < hi' => hlt
      rename _ < x => hc
      rename Fr _ _ _ _ => F'
      rename News _ _ _ _ => N'
      obtain ⟨k, hk1, hk2, hk3⟩ := mid_facts' h0 hlt
      rw [hk1] at hc F'
      simp only [Int.toNat_natCast] at hc
      refine WhileStep.intro F' N' (n' := (hi' - ((k : Int) + 1)).toNat) (by omega) ⟨rfl, rfl, rfl, rfl, k + 1, hi', _, _, rfl, rfl, by omega, by omega, by omega, rfl, fun i h1 => ?_, hP2⟩
      have := hs i k (by omega) (by omega)
      omega
    · rename lo < hi' => hlt
      rename ¬ (_ < x) => hc
      rename Fr _ _ _ _ => F'
      rename News _ _ _ _ => N'
      obtain ⟨k, hk1, hk2, hk3⟩ := mid_facts' h0 hlt
      rw [hk1] at hc F'
      simp only [Int.toNat_natCast] at hc
      refine WhileStep.intro F' N' (n' := ((k : Int) - lo).toNat) (by omega) ⟨rfl, rfl, rfl, rfl, lo, k, _, _, rfl, rfl, h0, hk2, by omega, rfl, hP1, fun i h1 h2 => ?_⟩
      have := hs k i (by omega) h2
      omega
    · obtain ⟨k, rfl⟩ := Int.eq_ofNat_of_zero_le h0
      show Q (.int (k : Int) _) _
      exact ret _ _ k _ F2.keep (by omega) (fun i h => hP1 i (by omega)) (fun i h1 h2 => hP2 i (by omega) h2)
end
section -- B7
theorem resetB7 : True := by
  w_top off
  trivial
structure UseR : Prop where
theorem method_base {prog : Program} {w : World} {A : Around} {E : Value → Shared → Prop} {s : Shared} {h₀ : Heap} {L : Addr} {m : Str → Option Value} {name : Str} {id : String} {pl : Sem Bool} {l : Addr} {vs : List Value} {n : Nat} {Q : Value × List Value → Shared → Prop} (F : Fr h₀ L s.heap m)
    (hl : h₀.get? l = some (listOf vs.toArray n)) (slot : Slot "list" name id) (hty : typeOf (.builtin id) = pure (.type "method_descriptor")) (h : Q (.builtin id, [.ref l]) s) :
    wpAny (model prog w) A (getMethod (.ref l) name pl) Q E s :=
  getMethod_list_of slot hty ⟨_, F.keep _ _ hl, rfl, _, rfl⟩ ⟨_, F.keep _ _ hl, rfl⟩ h
local macro_rules | `(tactic| walk_at "getMethod ref") => `(tactic| (k_here; (rename Fr _ _ _ _ => lF'); k_dflt (refine method_base lF' (by assumption) PySem.F.slot_list_count PySem.F.type_list_count ?_)))
local macro_rules | `(tactic| walk_at "call type:zip") => `(tactic| (k_here; (rename UseZ2 _ => cX); (rename Fr _ _ _ _ => lF'); (rename News _ _ _ _ => lN'); k_dflt (refine zip2_src cX (by rfl) lF' lN' (lN' (_, listOf (List.toArray _) _) (by k_mem)).1 (lN' (_, listOf (List.toArray _) _) (by k_mem)).1 ?_ ?_ ?_ ?_); (all_goals clear lF' lN')))
local macro_rules | `(tactic| walk_at "call type:zip") => `(tactic| (k_here; (rename UseZ3 _ => cX); (rename Fr _ _ _ _ => lF'); (rename News _ _ _ _ => lN'); k_dflt (refine zip3_src cX (by rfl) lF' lN' (lN' (_, listOf (List.toArray _) _) (by k_mem)).1 (lN' (_, listOf (List.toArray _) _) (by k_mem)).1 (lN' (_, listOf (List.toArray _) _) (by k_mem)).1 ?_ ?_ ?_ ?_); (all_goals clear lF' lN')))
local macro_rules | `(tactic| walk_at "exec Assign cons ListComp") => `(tactic| (k_here; (rename UseR => cX); k_dflt (refine Assign_ListComp_rows (names := [_, _]) (F₀ := by k_asm) (by rfl) (by with_unfolding_all rfl) (by with_unfolding_all rfl) (by decide) (by rfl) (by decide) (fun _ => by rfl) (fun _ => by rfl) (takes2 (by rfl) (by rfl) (by rfl) (by decide)) (by rfl) (by rfl) ?_)))
local macro_rules | `(tactic| walk_at "eval ListComp") => `(tactic| (k_here; (rename UseR => cX); k_dflt (refine ListComp_rows (names := [_, _, _]) (F₀ := by k_asm) (by with_unfolding_all rfl) (by decide) (by rfl) (by decide) (fun _ => by rfl) (fun _ => by rfl) (takes3 (by rfl) (by rfl) (by rfl) (by rfl) (by decide) (by decide) (by decide)) ?_)))
noncomputable def JProd (L l : Nat) (t g : Int) (tt tg : Tok) (o1 o3 : Obj) (ps : List Int) : Inv := fun i m news => ∃ D vs c ob x, m "ports" = some (.ref l) ∧ m "turns" = some (.int t tt) ∧ m "gap" = some (.int g tg) ∧ m "coefs" = some (.ref D) ∧
  news = [(D, listOf vs.toArray c), (L + 1 + 1 + 1, o1), (L + 1 + 1, ob), (L + 1, o3)] ∧ ob.data = .cell x ∧ IntsAre vs (prodc (ps.take i)) ∧ (@Ne Nat (L + 1 + 1 + 1) D) ∧ (@Ne Nat (L + 1 + 1) D) ∧ (@Ne Nat (L + 1) D)
theorem after_news {h₀ h h' : Heap} {L D : Addr} {m : Str → Option Value} {news : List (Addr × Obj)} {o : Obj} (F : Fr h₀ L h m) (N : News h₀ L h news) (e : Ext h h') (hD : h'.get? D = some o) (hn : h.get? D = none) :
    Fr h₀ L h' m ∧ News h₀ L h' ((D, o) :: news) ∧ LCg.Off1 D news := by
  refine ⟨F.keeps e, fun p hp => ?_, off1_of fun p hp q => by have := (N p hp).1; rw [q, hn] at this; cases this⟩
  rcases List.mem_cons.mp hp with rfl | hp
  · refine ⟨hD, fun q => ?_, ?_⟩
    · obtain ⟨x, hx, _⟩ := LCg.ns_obj F.ns
      have q' : D = L := q
      rw [q', hx] at hn; cases hn
    · cases z : h₀.get? D with
      | none => rfl
      | some x => have := F.keep _ _ z; rw [hn] at this; cases this
  · exact ⟨e _ _ (N p hp).1, (N p hp).2⟩
theorem use_moved {w : World} {p : Program} {loose : List Str} {mean : ExcName → Option Value} {mg mb : Str → Option Value}
   {dp un : Nat} {gd : Option (List Code)} {fr : Option (List Env)} {s : Shared} {Q E : Value → Shared → Prop} {h₀ : Heap} {L l : Addr} {m : Str → Option Value} {news : List (Addr × Obj)} {vs : List Value} {cs : List Int} {y : Int} {ty : Tok}
   (F : Fr h₀ L s.heap m) (N : News h₀ L s.heap news) (X : (hd.heap_39 w.params).In h₀) (T : Top p loose mean mg mb h₀)
   (hl : s.heap.IsList l vs.toArray) (hi : IntsAre vs cs) (hlen : cs.length < 800) (hy1 : -20 ≤ y) (hy2 : y ≤ 20)
   (hd1 : dp + 1 < recursionLimit) (hu : un + 8 < cLine)
   (h : ∀ D h' tk' vs' n', Fr h₀ L h' m → News h₀ L h' ((D, listOf (List.toArray vs') n') :: news) → LCg.Off1 D news → ∀ rs, rs = sh y cs → rs.length = cs.length → IntsAre vs' rs → Q (.ref D) { s with heap := h', toks := tk' }) :
   wpAny (model Prg w) ⟨none, dp, fr, gd, un⟩ (call (.ref 142) [.ref l, .int y ty]) Q E s :=
  c_moved (X.keeps F.keep) (T.keeps F.keep) hl hi hlen hy1 hy2 hd1 hu fun D h' tk' vs' n' e hD hn hi' => by
    obtain ⟨F', N', o⟩ := after_news F N e hD hn
    exact h D h' tk' vs' n' F' N' o _ rfl (sh_length _ _ _ rfl) hi'
local macro_rules | `(tactic| walk_at "call ref") => `(tactic| (k_here; k_dflt (refine' use_moved (by k_asm) (by k_asm) (by k_asm) (by k_asm) (by is_list) (by assumption) (by omega) (by omega) (by omega) (by ktr_room) (by ktr_units) ?_); intro D' h' tk' vs' n' F' N' off' rs' ers' hrs' hi'; (simp only [LCg.Off1, and_true] at off'); (have hl' := hi'.length); (try dsimp only)))
noncomputable def prodAll (ps : List Int) (t wh g : Int) : List Int := mulq wh (wh * wh + g) (List.replicate (ps.count 0) 0 ++ sh (-t) (prodc ps))
theorem c_product {w : World} {p : Program} {loose : List Str} {mean : ExcName → Option Value} {mg mb : Str → Option Value}
   {dp un : Nat} {gd : Option (List Code)} {fr : Option (List Env)} {s : Shared} {Q E : Value → Shared → Prop}
   {l : Addr} {nl : Nat} {vs : List Value} {ps : List Int} {t wh g : Int} {tt tw tg : Tok}
   (X : (hd.heap_39 w.params).In s.heap) (T : Top p loose mean mg mb s.heap)
   (hg : s.heap.get? l = some (listOf vs.toArray nl)) (hi : IntsAre vs ps) (hlen : ps.length < 100) (hp : ∀ x ∈ ps, 0 ≤ x ∧ x ≤ 7) (ht : 1 ≤ t ∧ t ≤ 3) (hw : 0 ≤ wh ∧ wh ≤ 7) (hgp : 0 ≤ g ∧ g ≤ 3)
   (hd1 : dp + 2 < recursionLimit) (hu : un + 16 < cLine)
   (ret : ∀ D h' tk' vs' n', Ext s.heap h' → h'.get? D = some (listOf vs'.toArray n') → s.heap.get? D = none → IntsAre vs' (prodAll ps t wh g) → Q (.ref D) { s with heap := h', toks := tk' }) :
   wpAny (model Prg w) ⟨none, dp, fr, gd, un⟩ (call (.ref 147) [.ref l, .int t tt, .int wh tw, .int g tg]) Q E s := by
  have hz := hi.length
  have hl : s.heap.IsList l vs.toArray := ⟨_, hg, rfl, _, rfl⟩
  have hcT : UseTu := ⟨⟩
  have hcR : UseR := ⟨⟩
  refine wpAny_call ?_
  k_dflt (refine' enterC (K := hd.heap_39 _) (h := ?_); k_whole; intro L' h' tk' cells' F' N' Y'; k_cells Y'; (try simp only [List.cons_append, List.nil_append] at N'); (try dsimp only); (try k_fold))
  rename_i o1 o2 o3 d1 d2 d3
  have mkF : UseF (JProd L' l t g tt tg o1 o3 ps) vs.length := ⟨⟩
  k_steps
  · rename (_ ∧ _ ∧ _) => hlt
    exact ⟨_, _, _, o2, _, by rfl, by rfl, by rfl, by rfl, rfl, d2, .cons _ _ .nil, by omega, by omega, by omega⟩
  · intro i v m₁ news₁ h tk I it hv hJ off F₁ N₁
    obtain ⟨D, vs', c, ob, x, hm1, hm2, hm3, hm4, rfl, hob, hi2, hd1', hd2', hd3'⟩ := hJ
    obtain ⟨n, tn, rfl, hn⟩ := hi.at i v hv
    have F2 := frSeen F₁ [("ports", _), ("turns", _), ("gap", _), ("coefs", _)] (by
      intro p hp
      simp only [List.mem_cons, List.not_mem_nil, or_false] at hp
      rcases hp with rfl | rfl | rfl | rfl <;> assumption)
    dsimp only [seen] at F2
    clear F₁
    have hnp := hp n (List.mem_of_getElem? hn)
    have ofs1 : @Ne Nat D I := off _ (.head _)
    have ofs2 : @Ne Nat (L' + 1 + 1 + 1) I := off _ (.tail _ (.head _))
    have ofs3 : @Ne Nat (L' + 1 + 1) I := off _ (.tail _ (.tail _ (.head _)))
    have ofs4 : @Ne Nat (L' + 1) I := off _ (.tail _ (.tail _ (.tail _ (.head _))))
    have hcl := prodc_length_le (ps.take i)
    have htl : (ps.take i).length ≤ ps.length := by rw [List.length_take]; omega
    have hst := prodc_take ps i n hn
    obtain ⟨cs, hcs⟩ : ∃ cs, cs = prodc (ps.take i) := ⟨_, rfl⟩
    rw [← hcs] at hi2 hcl hst
    have hcl2 : cs.length ≤ 101 := by omega
    clear hcs hcl htl
    have hz2 := hi2.length
    have mkZ : UseZ2 (fun i ys => IntsAre ys ((lin n cs).take i)) := ⟨⟩
    k_steps
    · rename IntsAre _ ([0] ++ cs) => hA
      rename IntsAre _ (cs ++ [0]) => hB
      have e1 := hA.length
      have e2 := hB.length
      simp only [List.length_append, List.length_cons, List.length_nil] at e1 e2
      refine ⟨by omega, ?_⟩
      rw [sizeLine_eq]; omega
    · exact .nil
    · rename IntsAre _ ([0] ++ cs) => hA
      rename IntsAre _ (cs ++ [0]) => hB
      intro j xa xb ys C oC D₂ m₂ h₂ tk₂ E₂ hx hy hJ₂ hC hm5 hm6 F₃ N₃ hne
      obtain ⟨a, ta, rfl, ha⟩ := hA.at j xa hx
      obtain ⟨b, tb, rfl, hb⟩ := hB.at j xb hy
      have ht := lin_take n cs j a b ha hb
      k_steps
      refine ⟨_, rfl, ?_⟩
      show IntsAre (ys ++ [_]) _
      rw [ht]
      exact IntsAre.append hJ₂ (.cons _ _ .nil)
    · rename IntsAre _ ([0] ++ cs) => hA
      have e1 := hA.length
      intro g₂ ys hJ₂ hyl D₂ h₂ tk₂ F₃ N₃ off₂
      simp only [List.length_append, List.length_cons, List.length_nil] at e1
      rw [List.take_of_length_le (by rw [lin_length]; omega)] at hJ₂
      simp only [LCg.Off1, and_true] at off₂
      obtain ⟨u1, u2, u3, u4, u5, u6, u7, u8, u9⟩ := off₂
      k_steps
      rename Obj => ob2
      rename ob2.data = _ => hob2
      refine UnrEnd.intro F₃ N₃ [(D₂, LCg.lst ys), (L' + 1 + 1 + 1, o1), (L' + 1 + 1, ob2), (L' + 1, o3)] (fun p hp => ?_) (fun p hp => ?_) ⟨D₂, ys, _, ob2, _, rfl, rfl, rfl, rfl, rfl, hob2, by rw [hst, linIf, if_pos (by assumption)]; exact hJ₂, u7, u8, u9⟩
      · simp only [List.mem_cons, List.not_mem_nil, or_false] at hp ⊢
        rcases hp with rfl | rfl | rfl | rfl | rfl <;> simp
      · simp only [List.mem_cons, List.not_mem_nil, or_false] at hp
        rcases hp with rfl | rfl | rfl | rfl
        · exact Ne.symm u5
        · exact ofs2
        · exact ofs3
        · exact ofs4
    · rename Fr _ _ _ _ => F'
      rename News _ _ _ _ => N'
      rename Obj => ob2
      rename ob2.data = _ => hob2
      refine UnrEnd.intro F' N' [(D, _), (L' + 1 + 1 + 1, o1), (L' + 1 + 1, ob2), (L' + 1, o3)] (fun p hp => hp) (fun p hp => ?_) ⟨D, vs', _, ob2, _, rfl, rfl, rfl, rfl, rfl, hob2, by rw [hst, linIf, if_neg (by assumption)]; exact hi2, hd1', hd2', hd3'⟩
      simp only [List.mem_cons, List.not_mem_nil, or_false] at hp
      rcases hp with rfl | rfl | rfl | rfl
      · exact ofs1
      · exact ofs2
      · exact ofs3
      · exact ofs4
  · intro m₁ news₁ h tk hJ F₁ N₁
    obtain ⟨D, vs', c, ob, x, hm1, hm2, hm3, hm4, rfl, hob, hi2, hd1', hd2', hd3'⟩ := hJ
    have F2 := frSeen F₁ [("ports", _), ("turns", _), ("gap", _), ("coefs", _)] (by
      intro p hp
      simp only [List.mem_cons, List.not_mem_nil, or_false] at hp
      rcases hp with rfl | rfl | rfl | rfl <;> assumption)
    dsimp only [seen] at F2
    clear F₁
    have hcl := prodc_length_le (ps.take vs.length)
    rw [hz, List.take_length] at hi2 hcl
    obtain ⟨cs, hcs⟩ : ∃ cs, cs = prodc ps := ⟨_, rfl⟩
    rw [← hcs] at hi2 hcl
    have hcl2 : cs.length ≤ 101 := by omega
    have hz2 := hi2.length
    have hcnt : ps.count 0 ≤ 100 := by have := List.count_le_length (a := (0 : Int)) (l := ps); omega
    have mkZ3 : UseZ3 (fun i ys => IntsAre ys ((mulq wh (wh * wh + g) ((List.replicate (Int.toNat (ps.count 0 : Int)) [0]).flatten ++ sh (-t) cs)).take i)) := ⟨⟩
    k_steps
    · rename IntsAre _ ([0, 0] ++ _) => hC
      rename IntsAre _ ([0] ++ (_ ++ _) ++ [0]) => hB
      rename IntsAre _ ((_ ++ _) ++ [0, 0]) => hA
      have e1 := hA.length
      have e2 := hB.length
      have e3 := hC.length
      simp only [List.length_append, List.length_cons, List.length_nil, List.length_flatten, List.map_replicate, List.sum_replicate_nat] at e1 e2 e3
      refine ⟨by omega, by omega, ?_⟩
      rw [sizeLine_eq]; omega
    · exact .nil
    · rename IntsAre _ ([0, 0] ++ _) => hC
      rename IntsAre _ ([0] ++ (_ ++ _) ++ [0]) => hB
      rename IntsAre _ ((_ ++ _) ++ [0, 0]) => hA
      rename _ = sh (-t) cs => ers
      subst ers
      intro j xa xb xc ys C oC D₂ m₂ h₂ tk₂ E₂ hx hy hu hJ₂ hC' hm5 hm6 hm7 F₃ N₃ hne
      obtain ⟨a, ta, rfl, ha⟩ := hA.at j xa hx
      obtain ⟨b, tb, rfl, hb⟩ := hB.at j xb hy
      obtain ⟨c', tc, rfl, hc⟩ := hC.at j xc hu
      have hsq : 0 ≤ wh * wh ∧ wh * wh ≤ 49 := by
        have q1 := Int.mul_nonneg hw.1 hw.1
        have q2 := Int.mul_le_mul hw.2 hw.2 hw.1 (by decide)
        omega
      have hsb : 0 ≤ wh * wh + g ∧ wh * wh + g ≤ 52 := by omega
      have ht' := mulq_take wh (wh * wh + g) _ j a b c' ha hb hc
      k_steps
      refine ⟨_, rfl, ?_⟩
      show IntsAre (ys ++ [_]) _
      rw [ht']
      refine IntsAre.append ?_ (.cons _ _ .nil)
      first | exact hJ₂ | exact IntsAre.append hJ₂ (.cons _ _ .nil)
    · rename IntsAre _ ((_ ++ _) ++ [0, 0]) => hA
      have e1 := hA.length
      rename _ = sh (-t) cs => ers
      subst ers
      intro g₂ ys hJ₂ hyl D₂ h₂ tk₂ F₃ N₃ off₂
      simp only [List.length_append, List.length_cons, List.length_nil] at e1
      rw [List.take_of_length_le (by rw [mulq_length, List.length_append]; omega)] at hJ₂
      k_steps
      have z := N₃ _ (.head _)
      refine ret D₂ h₂ tk₂ ys _ F₃.keep z.1 z.2.2 ?_
      have er : (List.replicate (Int.toNat (ps.count 0 : Int)) [(0 : Int)]).flatten = List.replicate (ps.count 0) 0 := by simp
      rw [er, hcs] at hJ₂
      exact hJ₂
end
section -- B8
theorem resetB8 : True := by
  w_top off
  trivial
theorem find_as {prog : Program} {w : World} {A : Around} {E : Value → Shared → Prop} {s : Shared} {Q : Value → Shared → Prop} {x y : Str} {t u : Tok} {i : Int} (e : Txt.find x y = i)
    (h : ∀ t k, Q (.int i t) { s with toks := k }) : wpAny (model prog w) A (call (.builtin "str.find") [.str x t, .str y u]) Q E s := SC.find (by rw [e]; exact h _ _)
theorem find3_as {prog : Program} {w : World} {A : Around} {E : Value → Shared → Prop} {s : Shared} {Q : Value → Shared → Prop} {x y : Str} {t u v : Tok} {a i : Int} (e : Txt.find3 x y a = i)
    (h : ∀ t k, Q (.int i t) { s with toks := k }) : wpAny (model prog w) A (call (.builtin "str.find") [.str x t, .str y u, .int a v]) Q E s := SC.find3 (by rw [e]; exact h _ _)
theorem split5 {prog : Program} {w : World} {A : Around} {E : Value → Shared → Prop} {s : Shared} {h₀ : Heap} {L : Addr} {m : PySem.Str → Option Value} {news : List (Addr × Obj)} {x y x0 x1 x2 x3 x4 : PySem.Str} {t u : Tok} {Q : Value → Shared → Prop}
    (hF : Fr h₀ L s.heap m) (hN : News h₀ L s.heap news) (hy : (y.length == 0) = false) (e : Txt.split x y = [x0, x1, x2, x3, x4]) (hsz : x.length ≤ 19)
    (h : ∀ D t0 t1 t2 t3 t4 h' k, Fr h₀ L h' m → News h₀ L h' ((D, listOf #[.str x0 t0, .str x1 t1, .str x2 t2, .str x3 t3, .str x4 t4] 0) :: news) → (∀ p ∈ news, p.1 < D) → Q (.ref D) { s with heap := h', toks := k }) :
    wpAny (model prog w) A (call (.builtin "str.split") [.str x t, .str y u]) Q E s :=
  KSpl.split1 hF hN hy (fun D l h' k el _ F N lt => by
    rw [e] at el
    obtain ⟨t0, _, rfl, e0⟩ := KSpl.cons_of el
    obtain ⟨t1, _, rfl, e1⟩ := KSpl.cons_of e0
    obtain ⟨t2, _, rfl, e2⟩ := KSpl.cons_of e1
    obtain ⟨t3, _, rfl, e3⟩ := KSpl.cons_of e2
    obtain ⟨t4, _, rfl, e4⟩ := KSpl.cons_of e3
    have := KSpl.nil_of e4
    subst this
    exact h D t0 t1 t2 t3 t4 h' k F N lt) (by rw [sizeLine_eq]; omega)
local macro_rules | `(tactic| walk_at "call builtin:str.split") => `(tactic| (k_here; k_dflt (refine split5 (by k_asm) (by k_asm) (by assumption) (by assumption) (by assumption) ?_); intro D' t0 t1 t2 t3 t4 h' k' F' N' l1; (try k_lt l1)))
local macro_rules | `(tactic| walk_at "call builtin:str.find") => `(tactic| (k_here; first | refine find_as (by assumption) ?_ | refine find3_as (by assumption) ?_))
structure UseTup : Prop where
local macro_rules | `(tactic| walk_at "subscriptTail") => `(tactic| (k_here; (rename UseTup => uT); (with_reducible show wpAny _ _ (subscriptTail _ _ (Value.ref _) (Value.int 0 _)) _ _ _); (rename Fr _ _ _ _ => lF'); refine item_tuple (items := #[_, _]) ⟨_, Fr.keep lF' _ _ (by assumption), rfl, _, rfl⟩ (by decide) (by decide) (by rfl) (by rfl) ?_))
theorem c_parse229 {w : World} {p : Program} {loose : List Str} {mean : ExcName → Option Value} {mg mb : Str → Option Value}
   {dp un : Nat} {gd : Option (List Code)} {fr : Option (List Env)} {s : Shared} {Q E : Value → Shared → Prop}
   {r x0 x1 x2 x3 x4 : Str} {tr : Tok} {pt : Addr} {h k : Value} {nt : Nat} {port : Int}
   (X : (hd.heap_39 w.params).In s.heap) (T : Top p loose mean mg mb s.heap)
   (hp : s.heap.get? pt = some { cls := .type "tuple", data := .seq #[h, k] nt })
   (hlen : r.length = 19) (h1 : Txt.slice r none (some 3) = Str.ofString "229") (h2 : Txt.find r (Str.ofString "(") = 10) (h3 : Txt.find3 r (Str.ofString ")") (10 + 1) = 18)
   (h4 : Txt.item r (10 + 1) = Txt.item r (18 - 1)) (h7 : Txt.split (Txt.slice r (some (10 + 1)) (some 18)) (Txt.item r (10 + 1)) = [x0, x1, x2, x3, x4])
   (h8 : PySem.intText? x3 = some port) (h9 : x3.length ≤ 640) (h10 : (Txt.slice r (some (10 + 1)) (some 18)).length ≤ 19) (h11 : ((Txt.item r (10 + 1)).length == 0) = false)
   (hd1 : dp + 1 < recursionLimit) (hu : un + 8 < cLine)
   (ret : ∀ D h' tk' n' t', Ext s.heap h' → h'.get? D = some { cls := .type "tuple", data := .seq #[h, .int port t'] n' } → s.heap.get? D = none → Q (.ref D) { s with heap := h', toks := tk' }) :
   wpAny (model Prg w) ⟨none, dp, fr, gd, un⟩ (call (.ref 111) [.str r tr, .ref pt]) Q E s := by
  have uT : UseTup := ⟨⟩
  walk_at "enterX"
  k_steps
  rename Fr _ _ _ _ => F'
  rename News _ _ _ _ => N'
  have z := N' _ (.head _)
  exact ret _ _ _ _ _ F'.keep z.1 z.2.2
end
section -- B9
theorem resetB9 : True := by
  w_top off
  trivial
theorem getm_sub {prog : Program} {w : World} {A : Around} {E : Value → Shared → Prop} {s : Shared} {pa : Addr} {C : Array Nat} {pl : Sem Bool} {Q : Value × List Value → Shared → Prop} (P : PatAt s.heap pa C) (h : Q (.builtin "re.Pattern.sub", [.ref pa]) s) :
    wpAny (model prog w) A (getMethod (.ref pa) (Str.ofString "sub") pl) Q E s := by
  obtain ⟨o, fs, ca, oc, items, n, e1, e2, e3, _⟩ := P.at'
  exact getMethod_builtin ⟨o, e1, e2⟩ pat_attrs slot_sub type_sub (fun a e => by cases e; exact ⟨o, e1, e3⟩) h
theorem sub_text1 {prog : Program} {w : World} {A : Around} {E : Value → Shared → Prop} {s : Shared} {pa : Addr} {x : Str} {t tr : Tok} {Q : Value → Shared → Prop} (P : PatAt s.heap pa C1) (hx : Hold (x.cps.size ≤ 1000))
    (h : ∀ h' tk' t' z, z.cps.toList = stuff true x.cps.toList → Ext s.heap h' → Q (.str z t') { s with heap := h', toks := tk' }) :
    wpAny (model prog w) A (call (.builtin "re.Pattern.sub") [.ref pa, .str (Str.ofString "..") tr, .str x t]) Q E s :=
  sub_call (H := Hit1 x.cps) (F := fun b => b + 1) (fun p hp => by
      obtain ⟨n, m', hn, r⟩ := search1 hp
      have hx' : x.cps.size ≤ 1000 := hx
      exact ⟨n, m', by omega, r⟩) (fun b hb _ => ⟨by omega, hb⟩) hx (by decide +kernel) (by decide +kernel) P fun h' tk' t' z hz hk => h h' tk' t' z (by
      have e : (Str.ofString "..").cps.toList = [46, 46] := by decide +kernel
      rw [e] at hz
      have := sub1_spec hz (Nat.zero_le _)
      rw [this]
      rw [decide_eq_true (show Bol x.cps 0 from .inl rfl)]; rfl) hk
theorem sub_text2 {prog : Program} {w : World} {A : Around} {E : Value → Shared → Prop} {s : Shared} {pa : Addr} {x : Str} {t tr : Tok} {Q : Value → Shared → Prop} (P : PatAt s.heap pa C2) (hx : Hold (x.cps.size ≤ 1000))
    (h : ∀ h' tk' t' z, z.cps.toList = crlf x.cps.toList → Ext s.heap h' → Q (.str z t') { s with heap := h', toks := tk' }) :
    wpAny (model prog w) A (call (.builtin "re.Pattern.sub") [.ref pa, .str (Str.ofString "\r\n") tr, .str x t]) Q E s :=
  sub_call (H := Hit2 x.cps) (F := End2 x.cps) (fun p hp => by
      obtain ⟨n, m', hn, r⟩ := search2 hp
      exact ⟨n, m', by omega, r⟩) (fun b hb _ => by unfold End2; split <;> omega) hx (by decide +kernel) (by decide +kernel) P fun h' tk' t' z hz hk => h h' tk' t' z (by
      have e : (Str.ofString "\r\n").cps.toList = [13, 10] := by decide +kernel
      rw [e] at hz
      exact sub2_spec hz (Nat.zero_le _)) hk
structure UseP1 (h : Heap) : Prop where
  p1 : PatAt h 116 C1
  p2 : PatAt h 121 C2
theorem pats {w : World} {h : Heap} (X : (hd.heap_39 w.params).In h) : UseP1 h := by
  refine ⟨⟨⟨_, _, 115, _, _, _, X 116 _ (by k_is), rfl, rfl, rfl, rfl, rfl, rfl, X 115 _ (by k_is), rfl, ?_⟩⟩, ⟨⟨_, _, 120, _, _, _, X 121 _ (by k_is), rfl, rfl, rfl, rfl, rfl, rfl, X 120 _ (by k_is), rfl, ?_⟩⟩⟩
  · decide +kernel
  · decide +kernel
local macro_rules | `(tactic| walk_at "getMethod ref") => `(tactic| (k_here; (rename UseP1 _ => uP); (rename Fr _ _ _ _ => lF'); first | refine getm_sub (uP.p1.keeps lF'.keep) ?_ | refine getm_sub (uP.p2.keeps lF'.keep) ?_))
local macro_rules | `(tactic| walk_at "call builtin:re.Pattern.sub") => `(tactic| (k_here; (rename UseP1 _ => uP); (rename Fr _ _ _ _ => lF'); (first | refine sub_text1 (uP.p1.keeps lF'.keep) ?_ ?_ | refine sub_text2 (uP.p2.keeps lF'.keep) ?_ ?_); rotate_left; intro h' tk' t' z hz hx'; (rename News _ _ _ _ => lN'); (have F' := Fr.keeps lF' hx'); (have N' := News.grown lN' hx'); clear lF' lN'; (try dsimp only)))
theorem c_quotedata {w : World} {p : Program} {loose : List Str} {mean : ExcName → Option Value} {mg mb : Str → Option Value}
   {dp un : Nat} {gd : Option (List Code)} {fr : Option (List Env)} {s : Shared} {Q E : Value → Shared → Prop}
   {d : Str} {td : Tok} {sep ks : List Nat}
   (X : (hd.heap_39 w.params).In s.heap) (T : Top p loose mean mg mb s.heap)
   (hsep : Sep sep) (hk : ks.sum + 2 * ks.length ≤ 900) (hd0 : d.cps.toList = jn sep ks)
   (hd1 : dp + 1 < recursionLimit) (hu : un + 8 < cLine)
   (ret : ∀ h' tk' z t, Ext s.heap h' → z.cps.toList = jn [13, 10] (ks.map dotk) → Q (.str z t) { s with heap := h', toks := tk' }) :
   wpAny (model Prg w) ⟨none, dp, fr, gd, un⟩ (call (.ref 128) [.str d td]) Q E s := by
  have uP := pats X
  walk_at "enterX"
  have hjl := jn_length_le ks sep (by rcases hsep with rfl | rfl | rfl <;> decide)
  have hjl2 := jn_length_le ks [13, 10] (by decide)
  have hsz1 : d.cps.size ≤ 1000 := by rw [← Array.length_toList, hd0]; omega
  k_steps
  · rename Fr _ _ _ _ => F'
    rename _ = stuff true _ => hz1
    rename _ = crlf _ => hz2
    refine ret _ _ _ _ F'.keep ?_
    rw [hz1, hz2, hd0, crlf_jn hsep, stuff_jn]
  · rename _ = crlf _ => hz2
    show _ ≤ 1000
    rw [← Array.length_toList, hz2, hd0, crlf_jn hsep]; omega
  · exact hsz1
end
section -- B10
theorem resetB10 : True := by
  w_top off
  trivial
structure UseGd : Prop where
structure UsePt (port : Int) : Prop where
structure UseQu (sep ks : List Nat) (i : Nat) : Prop where
theorem join_now {prog : Program} {w : World} {A : Around} {E : Value → Shared → Prop} {s : Shared} {h₀ : Heap} {L D : Addr} {news : List (Addr × Obj)} {x : Str} {t : Tok} {vs : List Value} {ys : List Str} {n : Nat} {Q : Value → Shared → Prop}
    (N : News h₀ L s.heap news) (hm : (D, listOf (List.toArray vs) n) ∈ news) (hst : StrsAre vs ys) (hok : Hold ((ys.map (·.length)).sum + ys.length * x.length ≤ 60))
    (h : ∀ y t' k, y = Txt.join x ys → y.length ≤ 60 → Q (.str y t') { s with toks := k }) : wpAny (model prog w) A (call (.builtin "str.join") [.str x t, .ref D]) Q E s := by
  obtain ⟨l, hv, ht⟩ := strsAre_values hst
  have hok' : (ys.map (·.length)).sum + ys.length * x.length ≤ 60 := hok
  exact SC.join (l := l) (texts := ys) (by rw [← hv]; exact ⟨_, (N _ hm).1, rfl, _, rfl⟩) ht (joinOk_of (by omega)) fun t' k => h _ t' k rfl (Nat.le_trans (by show (Builtin.Str.glued x ys).length ≤ _; rw [StrLaws.glued_eq_join]; exact StrLaws.join_length_le x ys) hok')
noncomputable def chk229 (r : Str) (port : Int) : Bool :=
  r.length == 19 && Txt.slice r none (some 3) == Str.ofString "229" && Txt.find r (Str.ofString "(") == 10 && Txt.find3 r (Str.ofString ")") (10 + 1) == 18 && Txt.item r (10 + 1) == Txt.item r (18 - 1) &&
  decide ((Txt.slice r (some (10 + 1)) (some 18)).length ≤ 19) && ((Txt.item r (10 + 1)).length == 0) == false &&
  match Txt.split (Txt.slice r (some (10 + 1)) (some 18)) (Txt.item r (10 + 1)) with
  | [_, _, _, x3, _] => PySem.intText? x3 == some port && decide (x3.length ≤ 640)
  | _ => false
noncomputable def resp (k a b : Int) : Str := Str.ofString "229 ready (" ++ Txt.join (Txt.item (Str.ofString "|.!") (Int.fmod k 3)) [Str.ofString "", Str.ofString (toString a), Str.ofString (toString k), Str.ofString (toString b), Str.ofString ""] ++ Str.ofString ")"
/-- the reply, by code points -/
noncomputable def rx (s k a b : Nat) : Str := ⟨#[50,50,57,32,114,101,97,100,121,32,40,s,a + 48,s,k + 48,s,b + 48,s,41]⟩
theorem dig_str : ∀ a ∈ List.range 8, Str.ofString (toString (a : Int)) = ⟨#[a + 48]⟩ := by decide +kernel
theorem dig_int : ∀ a ∈ List.range 8, PySem.intText? ⟨#[a + 48]⟩ = some (a : Int) := by decide +kernel
theorem rx_join (s k a b : Nat) : Str.ofString "229 ready (" ++ Txt.join ⟨#[s]⟩ [Str.ofString "", ⟨#[a+48]⟩, ⟨#[k+48]⟩, ⟨#[b+48]⟩, Str.ofString ""] ++ Str.ofString ")" = rx s k a b := by kernel_rfl
theorem rx_item (s k a b : Nat) : Txt.item (rx s k a b) (10 + 1) = ⟨#[s]⟩ := by kernel_rfl
theorem rx_slice (s k a b : Nat) : Txt.slice (rx s k a b) (some (10 + 1)) (some 18) = ⟨#[s,a + 48,s,k + 48,s,b + 48,s]⟩ := by kernel_rfl
theorem rx_head (s k a b : Nat) (hs : s = 124 ∨ s = 46 ∨ s = 33) : ((rx s k a b).length == 19 && Txt.slice (rx s k a b) none (some 3) == Str.ofString "229" && Txt.find (rx s k a b) (Str.ofString "(") == 10 && Txt.find3 (rx s k a b) (Str.ofString ")") (10 + 1) == 18) = true := by
  rcases hs with rfl | rfl | rfl <;> kernel_rfl
theorem split7 {s d1 d2 d3 : Nat} (h1 : d1 ≠ s) (h2 : d2 ≠ s) (h3 : d3 ≠ s) (hk : Builtin.Str.strKind ⟨#[s]⟩ = 1) : Txt.split ⟨#[s,d1,s,d2,s,d3,s]⟩ ⟨#[s]⟩ = [⟨#[]⟩, ⟨#[d1]⟩, ⟨#[d2]⟩, ⟨#[d3]⟩, ⟨#[]⟩] := by
  have ho : Builtin.Str.occurrences ⟨#[s,d1,s,d2,s,d3,s]⟩ ⟨#[s]⟩ 0 7 8 = [0,2,4,6] := by
    rw [StrLaws.occ_eq]
    simp [StrLaws.occBody, Builtin.Str.subAt, List.range', Str.length, h1, h2, h3]
  unfold Txt.split
  rw [if_neg (by rw [hk]; have := kind_ge ⟨#[s,d1,s,d2,s,d3,s]⟩; simp [Str.length]; omega)]
  show (if (Builtin.Str.occurrences ⟨#[s,d1,s,d2,s,d3,s]⟩ ⟨#[s]⟩ 0 7 8).isEmpty then _ else Builtin.Str.partsBetween _ (Builtin.Str.occurrences ⟨#[s,d1,s,d2,s,d3,s]⟩ ⟨#[s]⟩ 0 7 8) _) = _
  rw [ho]
  kernel_rfl
theorem rx_item2 (s k a b : Nat) : Txt.item (rx s k a b) (18 - 1) = ⟨#[s]⟩ := by kernel_rfl
theorem rx_ok {s k a b : Nat} (hs : s = 124 ∨ s = 46 ∨ s = 33) (hk : k < 8) (ha : a < 8) (hb : b < 8) : chk229 (rx s k a b) (b : Int) = true := by
  have hq : Builtin.Str.strKind ⟨#[s]⟩ = 1 := by rcases hs with rfl | rfl | rfl <;> kernel_rfl
  have hsp := split7 (s := s) (d1 := a + 48) (d2 := k + 48) (d3 := b + 48) (by omega) (by omega) (by omega) hq
  have hi := dig_int b (List.mem_range.mpr hb)
  unfold chk229
  rw [rx_head s k a b hs, rx_item2, rx_item, rx_slice, hsp]
  dsimp only
  rw [hi, beq_self_eq_true, beq_self_eq_true]
  rfl
theorem sep_of : ∀ k ∈ List.range 4, ∃ s, (s = 124 ∨ s = 46 ∨ s = 33) ∧ Txt.item (Str.ofString "|.!") (Int.fmod (k : Nat) 3) = ⟨#[s]⟩ := by
  intro k hk
  have := List.mem_range.mp hk
  rcases (show k = 0 ∨ k = 1 ∨ k = 2 ∨ k = 3 by omega) with rfl | rfl | rfl | rfl
  · exact ⟨124, .inl rfl, by decide +kernel⟩
  · exact ⟨46, .inr (.inl rfl), by decide +kernel⟩
  · exact ⟨33, .inr (.inr rfl), by decide +kernel⟩
  · exact ⟨124, .inl rfl, by decide +kernel⟩
theorem resp_ok : ∀ k ∈ List.range 4, ∀ a ∈ List.range 8, ∀ b ∈ List.range 8, chk229 (resp k a b) b = true := by
  intro k hk a ha b hb
  obtain ⟨s, hs, e⟩ := sep_of k hk
  have hk' := List.mem_range.mp hk
  have h : resp k a b = rx s k a b := by
    unfold resp
    rw [e, dig_str a ha, dig_str k (List.mem_range.mpr (by omega)), dig_str b hb, rx_join]
  rw [h]
  exact rx_ok hs (by omega) (List.mem_range.mp ha) (List.mem_range.mp hb)
theorem resp_ok' {k a b : Int} (hk : 0 ≤ k ∧ k ≤ 3) (ha : 0 ≤ a ∧ a ≤ 7) (hb : 0 ≤ b ∧ b ≤ 7) : chk229 (resp k a b) b = true := by
  obtain ⟨k, rfl⟩ := Int.eq_ofNat_of_zero_le hk.1
  obtain ⟨a, rfl⟩ := Int.eq_ofNat_of_zero_le ha.1
  obtain ⟨b, rfl⟩ := Int.eq_ofNat_of_zero_le hb.1
  exact resp_ok k (List.mem_range.mpr (by omega)) a (List.mem_range.mpr (by omega)) b (List.mem_range.mpr (by omega))
theorem len_em : (Str.ofString "").length = 0 := by decide +kernel
theorem len_k {k : Int} (hk : 0 ≤ k ∧ k ≤ 3) : (Str.ofString (toString k)).length ≤ 10 := KT.len_num hk.1 (by omega)
theorem mul_row0 : ∀ b ∈ List.range 8, (Txt.mul (Str.ofString ".") (b : Nat)).cps.toList = row b := by decide +kernel
theorem mul_row {b : Int} (hb : 0 ≤ b ∧ b ≤ 7) : (Txt.mul (Str.ofString ".") b).cps.toList = row b.toNat := by
  obtain ⟨b, rfl⟩ := Int.eq_ofNat_of_zero_le hb.1
  exact mul_row0 b (List.mem_range.mpr (by omega))
theorem use_parse {w : World} {p : Program} {loose : List Str} {mean : ExcName → Option Value} {mg mb : Str → Option Value}
   {dp un : Nat} {gd : Option (List Code)} {fr : Option (List Env)} {s : Shared} {Q E : Value → Shared → Prop} {h₀ : Heap} {L pt : Addr} {m : Str → Option Value} {news : List (Addr × Obj)}
   {r : Str} {tr : Tok} {h k : Value} {nt : Nat} {port : Int} (_ : UsePt port)
   (F : Fr h₀ L s.heap m := by k_asm) (N : News h₀ L s.heap news := by k_asm) (X : (hd.heap_39 w.params).In h₀ := by k_asm) (T : Top p loose mean mg mb h₀ := by k_asm)
   (hp : (pt, ({ cls := .type "tuple", data := .seq #[h, k] nt } : Obj)) ∈ news := by k_mem) (hc : Hold (chk229 r port = true))
   (hd1 : dp + 1 < recursionLimit := by ktr_room) (hu : un + 8 < cLine := by ktr_units)
   (ret : ∀ D h' tk' n' t', Fr h₀ L h' m → News h₀ L h' ((D, { cls := .type "tuple", data := .seq #[h, .int port t'] n' }) :: news) → LCg.Off1 D news → Q (.ref D) { s with heap := h', toks := tk' }) :
   wpAny (model Prg w) ⟨none, dp, fr, gd, un⟩ (call (.ref 111) [.str r tr, .ref pt]) Q E s := by
  have hc' : chk229 r port = true := hc
  unfold chk229 at hc'
  simp only [Bool.and_eq_true, beq_iff_eq, decide_eq_true_eq] at hc'
  obtain ⟨⟨⟨⟨⟨⟨⟨h1, h2⟩, h3⟩, h4⟩, h5⟩, h6⟩, h7⟩, h8⟩ := hc'
  split at h8
  · rename_i x0 x1 x2 x3 x4 hsp
    simp only [Bool.and_eq_true, beq_iff_eq, decide_eq_true_eq] at h8
    exact c_parse229 (X.keeps F.keep) (T.keeps F.keep) (N _ hp).1 h1 h2 h3 h4 h5 hsp h8.1 h8.2 h6 h7 hd1 hu fun D h' tk' n' t' e hD hn => by
      obtain ⟨F', N', o⟩ := after_news F N e hD hn
      exact ret D h' tk' n' t' F' N' o
  · cases h8
theorem num_short {n : Int} (h0 : 0 ≤ n) (h1 : n ≤ 7) : (Str.ofString (toString n)).length ≤ 10 := KT.len_num h0 (by omega)
local macro_rules | `(tactic| walk_at "call builtin:str.join") => `(tactic| (k_here; (rename UseGd => uG); (rename News _ _ _ _ => lN'); k_dflt (refine join_now lN' (by k_mem) (by first | assumption | kct_strs) ?_ ?_); rotate_left; intro y' t' k' hy' hyl'))
local macro_rules | `(tactic| walk_at "call ref") => `(tactic| (k_here; (rename UsePt _ => uP); k_dflt (refine' use_parse uP (hc := ?_) (ret := ?_)); rotate_left; intro D' h' tk' n' t' F' N' off'; (simp only [LCg.Off1, and_true] at off'); (try dsimp only)))
theorem fld_short {x : Str} {k a b : Int} (hk : 0 ≤ k ∧ k ≤ 3) (ha : 0 ≤ a ∧ a ≤ 7) (hb : 0 ≤ b ∧ b ≤ 7) (hx : x.length = 1) :
    Hold (([Str.ofString "", Str.ofString (toString a), Str.ofString (toString k), Str.ofString (toString b), Str.ofString ""].map (·.length)).sum + [Str.ofString "", Str.ofString (toString a), Str.ofString (toString k), Str.ofString (toString b), Str.ofString ""].length * x.length ≤ 60) := by
  have z1 := len_em
  have z2 := len_k hk
  have z3 := num_short ha.1 ha.2
  have z4 := num_short hb.1 hb.2
  show (List.map _ _).sum + _ * _ ≤ 60
  simp only [List.map_cons, List.map_nil, List.sum_cons, List.sum_nil, List.length_cons, List.length_nil]
  omega
noncomputable def dots (i k : Nat) : Nat := if k = 0 then 0 else k + i
theorem dots_zero (k : Nat) : dots 0 k = k := by unfold dots; split <;> omega
theorem dotk_dots (i k : Nat) : dotk (dots i k) = dots (i + 1) k := by unfold dotk dots; split <;> simp_all <;> omega
/-- the mail after i turns -/
noncomputable def mailAt (sep ks : List Nat) (i : Nat) : List Nat := jn (if i = 0 then sep else [13, 10]) (ks.map (dots i))
noncomputable def JTurn (sep ks : List Nat) : Inv := fun i m news => ∃ D o z tz, news = [(D, o)] ∧ m "mail" = some (.str z tz) ∧ z.cps.toList = mailAt sep ks i
theorem use_quote {w : World} {p : Program} {loose : List Str} {mean : ExcName → Option Value} {mg mb : Str → Option Value}
   {dp un : Nat} {gd : Option (List Code)} {fr : Option (List Env)} {s : Shared} {Q E : Value → Shared → Prop} {h₀ : Heap} {L : Addr} {m : Str → Option Value} {news : List (Addr × Obj)}
   {d : Str} {td : Tok} {sep ks : List Nat} {i : Nat} (_ : UseQu sep ks i)
   (F : Fr h₀ L s.heap m := by k_asm) (N : News h₀ L s.heap news := by k_asm) (X : (hd.heap_39 w.params).In h₀ := by k_asm) (T : Top p loose mean mg mb h₀ := by k_asm)
   (hc : Hold (Sep sep ∧ d.cps.toList = mailAt sep ks i ∧ (ks.map (dots i)).sum + 2 * ks.length ≤ 900))
   (hd1 : dp + 1 < recursionLimit := by ktr_room) (hu : un + 8 < cLine := by ktr_units)
   (ret : ∀ h' tk' z t', Fr h₀ L h' m → News h₀ L h' news → z.cps.toList = mailAt sep ks (i + 1) → Q (.str z t') { s with heap := h', toks := tk' }) :
   wpAny (model Prg w) ⟨none, dp, fr, gd, un⟩ (call (.ref 128) [.str d td]) Q E s := by
  obtain ⟨h1, h2, h3⟩ := hc
  refine c_quotedata (sep := if i = 0 then sep else [13, 10]) (ks := ks.map (dots i)) (X.keeps F.keep) (T.keeps F.keep) ?_ (by rw [List.length_map]; exact h3) h2 hd1 hu fun h' tk' z t' e hz => ret h' tk' z t' (F.keeps e) (N.grown e) ?_
  · split
    · exact h1
    · exact .inr (.inr rfl)
  · rw [hz, List.map_map]
    unfold mailAt
    rw [if_neg (by omega)]
    congr 2
    funext k; exact dotk_dots i k
local macro_rules | `(tactic| walk_at "call ref") => `(tactic| (k_here; (rename UseQu _ _ _ => uQ); k_dflt (refine' use_quote uQ (hc := ?_) (ret := ?_)); rotate_left; intro h' tk' z' t' F' N' hz'; (try dsimp only)))
noncomputable def JSent (l : Nat) (t : Int) (tt : Tok) (e : Str) (te : Tok) (ks : List Nat) : Inv := fun i m news => ∃ D vs ys c, m "ports" = some (.ref l) ∧ m "turns" = some (.int t tt) ∧ m "end" = some (.str e te) ∧ m "rows" = some (.ref D) ∧
  news = [(D, listOf vs.toArray c)] ∧ StrsAre vs ys ∧ ys.map (·.cps.toList) = (ks.take i).map row
theorem sent_end {h₀ h' : Heap} {L I D : Addr} {it : Obj} {m' : Str → Option Value} {s₁ : Shared} {J : (Str → Option Value) → List (Addr × Obj) → Prop} {X1 X2 X3 : Addr × Obj} {vs : List Value} {v : Value} {c tk : Nat}
    (F : Fr h₀ L h' m') (N : News h₀ L h' [X1, X2, X3, (I, it), (D, listOf ((List.toArray vs).push v) c)]) (o1 : @Ne Nat D I) (r : J m' [(D, listOf (List.toArray (vs ++ [v])) c)]) : UnrEnd h₀ L s₁ I it J { s₁ with heap := h', toks := tk } := by
  have ep : (List.toArray vs).push v = List.toArray (vs ++ [v]) := by simp
  rw [ep] at N
  refine UnrEnd.intro F N [(D, _)] (fun p hp => ?_) (fun p hp => ?_) r
  · exact .tail _ (.tail _ (.tail _ hp))
  · rcases List.mem_cons.mp hp with rfl | hp
    · exact o1
    · cases hp
theorem join_jn {e : Str} {ys : List Str} {ks : List Nat} (h : ys.map (·.cps.toList) = ks.map row) : (Txt.join e ys).cps.toList = jn e.cps.toList ks := by
  show (Builtin.Str.glued e ys).cps.toList = _
  rw [StrLaws.glued_eq_join]
  induction ys generalizing ks with
  | nil => cases ks with
    | nil => rfl
    | cons k ks => cases h
  | cons y ys ih => cases ks with
    | nil => cases h
    | cons k ks =>
      have h1 : y.cps.toList = row k := (List.cons.inj h).1
      have h2 := (List.cons.inj h).2
      have ih := ih h2
      cases ys with
      | nil => cases ks with
        | nil => exact h1
        | cons k' ks => cases h2
      | cons y' ys => cases ks with
        | nil => cases h2
        | cons k' ks =>
          show (y.cps ++ e.cps ++ (Str.join e (y' :: ys)).cps).toList = row k ++ e.cps.toList ++ jn e.cps.toList (k' :: ks)
          rw [Array.toList_append, Array.toList_append, ih, h1]
theorem sum_rows {ys : List Str} {ks : List Nat} (h : ys.map (·.cps.toList) = ks.map row) : (ys.map (·.length)).sum = ks.sum := by
  have e : (ys.map (·.cps.toList)).map List.length = ks := by rw [h, List.map_map]; simp [Function.comp_def, row]
  rw [← e, List.map_map]; rfl
theorem dots0 (ks : List Nat) : ks.map (dots 0) = ks := by
  rw [List.map_congr_left (g := id) fun k _ => dots_zero k, List.map_id]
theorem sep_len {sep : List Nat} (h : Sep sep) : sep.length ≤ 2 := by rcases h with rfl | rfl | rfl <;> decide
theorem dots_le (i k : Nat) : dots i k ≤ k + i := by unfold dots; split <;> omega
theorem c_sent {w : World} {p : Program} {loose : List Str} {mean : ExcName → Option Value} {mg mb : Str → Option Value}
   {dp un : Nat} {gd : Option (List Code)} {fr : Option (List Env)} {s : Shared} {Q E : Value → Shared → Prop}
   {l : Addr} {nl : Nat} {vs0 : List Value} {ps : List Int} {a b c d t : Int} {tt te : Tok} {e : Str} {sep : List Nat}
   (X : (hd.heap_39 w.params).In s.heap) (T : Top p loose mean mg mb s.heap)
   (hg : s.heap.get? l = some (listOf vs0.toArray nl)) (hi0 : IntsAre vs0 ps) (hps : ps = [a, b, c, d]) (ha : 0 ≤ a ∧ a ≤ 7) (hb : 0 ≤ b ∧ b ≤ 7) (hc : 0 ≤ c ∧ c ≤ 7) (hdd : 0 ≤ d ∧ d ≤ 7) (ht : 1 ≤ t ∧ t ≤ 3)
   (hsep : Sep sep) (he : e.cps.toList = sep)
   (hd1 : dp + 2 < recursionLimit) (hu : un + 16 < cLine)
   (ret : ∀ h' tk' z tz, Ext s.heap h' → z.cps.toList = jn [13, 10] ([a.toNat, b.toNat, c.toNat, d.toNat].map fun k => if k = 0 then 0 else k + t.toNat) → Q (.str z tz) { s with heap := h', toks := tk' }) :
   wpAny (model Prg w) ⟨none, dp, fr, gd, un⟩ (call (.ref 135) [.ref l, .int t tt, .str e te]) Q E s := by
  have hl : s.heap.IsList l vs0.toArray := ⟨_, hg, rfl, _, rfl⟩
  have hz := hi0.length
  have hlen : ps.length < 800 := by rw [hps]; show 4 < 800; decide
  have hps' : Hold (ps = [a, b, c, d]) := hps
  clear hps
  have mkF : UseF (JSent l t tt e te [a.toNat, b.toNat, c.toNat, d.toNat]) 4 := ⟨⟩
  walk_at "enterX"
  k_steps
  · exact rg_small _ _ _ (by omega) (by omega) (by omega) (by omega) (.inl rfl)
  · show Builtin.Range.rangeSize 0 (ps.length : Int) 1 = _
    rw [hps']; show Builtin.Range.rangeSize 0 4 1 = 4; decide
  · exact ⟨_, [], [], _, rfl, rfl, rfl, rfl, rfl, .nil, rfl⟩
  · intro i tk m₁ news₁ h tk₂ I it hi hJ off F₁ N₁
    obtain ⟨D, vs, ys, c', hm1, hm2, hm3, hm4, rfl, hst, hys⟩ := hJ
    have o1 : @Ne Nat D I := off _ (.head _)
    have hps : ps = [a, b, c, d] := hps'
    clear hps'
    have hvl : vs.length ≤ 4 := by
      have := congrArg List.length hys
      rw [List.length_map, List.length_map, List.length_take] at this
      rw [hst.length]; omega
    have hz4 : ps.length = 4 := by rw [hps]; rfl
    have hx : ∀ j, 0 ≤ ps.getD j 0 ∧ ps.getD j 0 ≤ 7 := by
      intro j
      rw [hps]
      rcases j with _ | _ | _ | _ | j
      · exact ha
      · exact hb
      · exact hc
      · exact hdd
      · show (0 : Int) ≤ 0 ∧ (0 : Int) ≤ 7
        decide
    obtain ⟨k, hk⟩ : ∃ k : Int, k = 0 + (i : Int) * 1 := ⟨_, rfl⟩
    rw [← hk] at F₁
    have hrow : ([a.toNat, b.toNat, c.toNat, d.toNat].take (i + 1)).map row = ys.map (·.cps.toList) ++ [row (ps.getD (Int.toNat k) 0).toNat] := by
      rw [hys, hps, show Int.toNat k = i by omega]
      rcases (show i = 0 ∨ i = 1 ∨ i = 2 ∨ i = 3 by omega) with rfl | rfl | rfl | rfl <;> rfl
    have F2 := frSeen F₁ [("k", .int k tk), ("ports", _), ("turns", _), ("end", _), ("rows", _)] (by
        intro p hp
        simp only [List.mem_cons, List.not_mem_nil, or_false] at hp
        rcases hp with rfl | rfl | rfl | rfl | rfl
        · rfl
        · exact hm1
        · exact hm2
        · exact hm3
        · exact hm4)
    dsimp only [seen] at F2
    clear F₁ hps ha hb hc hdd hys hlen
    have uG : UseGd := ⟨⟩
    have hx2 := hx (Int.toNat k)
    rcases (show k = 0 ∨ 0 < k by omega) with rfl | hi0
    · have hx1 := hx (Int.toNat (0 - 1 + ps.length))
      clear hx
      have uPt : UsePt (ps.getD (Int.toNat 0) 0) := ⟨⟩
      k_steps
      · rename Fr _ _ _ _ => F'
        rename News _ _ _ _ => N'
        refine sent_end F' N' o1 ⟨D, _, ys ++ [Txt.mul (Str.ofString ".") _], _, rfl, rfl, rfl, rfl, rfl, strs_snoc hst, ?_⟩
        rw [List.map_append, hrow]
        show _ ++ [(Txt.mul (Str.ofString ".") _).cps.toList] = _
        rw [mul_row hx2]
      · rename _ = Txt.join _ _ => hy
        rw [hy]
        exact resp_ok' (k := 0) (by decide) hx1 hx2
      · exact fld_short (k := 0) (by decide) hx1 hx2 (by assumption)
    · have hx1 := hx (Int.toNat (k - 1))
      clear hx
      have uPt : UsePt (ps.getD (Int.toNat k) 0) := ⟨⟩
      k_steps
      · rename Fr _ _ _ _ => F'
        rename News _ _ _ _ => N'
        refine sent_end F' N' o1 ⟨D, _, ys ++ [Txt.mul (Str.ofString ".") _], _, rfl, rfl, rfl, rfl, rfl, strs_snoc hst, ?_⟩
        rw [List.map_append, hrow]
        show _ ++ [(Txt.mul (Str.ofString ".") _).cps.toList] = _
        rw [mul_row hx2]
      · rename _ = Txt.join _ _ => hy
        rw [hy]
        exact resp_ok' (by omega) hx1 hx2
      · exact fld_short (by omega) hx1 hx2 (by assumption)
  · intro m₁ news₁ h tk hJ F₁ N₁
    obtain ⟨D, vs, ys, c', hm1, hm2, hm3, hm4, rfl, hst, hys⟩ := hJ
    have F2 := frSeen F₁ [("ports", _), ("turns", _), ("end", _), ("rows", _)] (by
      intro p hp
      simp only [List.mem_cons, List.not_mem_nil, or_false] at hp
      rcases hp with rfl | rfl | rfl | rfl
      · exact hm1
      · exact hm2
      · exact hm3
      · exact hm4)
    dsimp only [seen] at F2
    clear F₁
    have uG : UseGd := ⟨⟩
    have hlk : ∀ k : Int, 0 ≤ k ∧ k ≤ 7 → k.toNat ≤ 7 := fun k h => by omega
    have la := hlk a ha
    have lb := hlk b hb
    have lc := hlk c hc
    have ld := hlk d hdd
    have h4 : ys.length = 4 := by
      have := congrArg List.length hys
      simpa using this
    have hjo : Hold ((ys.map (·.length)).sum + ys.length * e.length ≤ 60) := by
      show _ ≤ _
      rw [sum_rows hys, h4]
      have hsl := sep_len hsep
      have hel : e.length = sep.length := by rw [← he]; exact Array.length_toList.symm
      rw [hel]
      simp only [List.take_succ_cons, List.take_zero, List.sum_cons, List.sum_nil]
      omega
    have hjt := join_jn (e := e) hys
    rw [he] at hjt
    have hk4 : List.take 4 [a.toNat, b.toNat, c.toNat, d.toNat] = [a.toNat, b.toNat, c.toNat, d.toNat] := rfl
    rw [hk4] at hjt
    have hks : ∀ i, i < t.toNat → (([a.toNat, b.toNat, c.toNat, d.toNat].map (dots i)).sum + 2 * [a.toNat, b.toNat, c.toNat, d.toNat].length ≤ 900) := by
      intro i hi
      have := dots_le i a.toNat
      have := dots_le i b.toNat
      have := dots_le i c.toNat
      have := dots_le i d.toNat
      simp only [List.map_cons, List.map_nil, List.sum_cons, List.sum_nil, List.length_cons, List.length_nil]
      omega
    have hret : ∀ z : Str, z.cps.toList = mailAt sep [a.toNat, b.toNat, c.toNat, d.toNat] t.toNat → z.cps.toList = jn [13, 10] ([a.toNat, b.toNat, c.toNat, d.toNat].map fun k => if k = 0 then 0 else k + t.toNat) := by
      intro z hz
      rw [hz]; unfold mailAt; rw [if_neg (by omega)]; rfl
    clear la lb lc ld hlk hk4
    obtain ⟨ks, hkse⟩ : ∃ ks, ks = [a.toNat, b.toNat, c.toNat, d.toNat] := ⟨_, rfl⟩
    rw [← hkse] at hks hjt
    have hret : ∀ z : Str, z.cps.toList = mailAt sep ks t.toNat → z.cps.toList = jn [13, 10] ([a.toNat, b.toNat, c.toNat, d.toNat].map fun k => if k = 0 then 0 else k + t.toNat) := by rw [hkse]; exact hret
    clear hkse
    have mkT : UseF (JTurn sep ks) t.toNat := ⟨⟩
    k_steps
    · exact rg_small _ _ _ (by omega) (by omega) (by omega) (by omega) (.inl rfl)
    · show Builtin.Range.rangeSize 0 t 1 = _
      rw [rangeSize_nat, Int.sub_zero]
    · rename _ = Txt.join _ _ => hy
      exact ⟨D, _, _, _, rfl, rfl, by rw [hy, hjt]; unfold mailAt; rw [if_pos rfl, dots0]⟩
    · intro i tk m₁ news₁ h tk₂ I it hi hJ off F₁ N₁
      obtain ⟨D1, o, z, tz, rfl, hm1, hz1⟩ := hJ
      have o1 : @Ne Nat D1 I := off _ (.head _)
      have F3 := frSeen F₁ [("turn", .int i tk), ("mail", .str z tz)] (by
        intro p hp
        simp only [List.mem_cons, List.not_mem_nil, or_false] at hp
        rcases hp with rfl | rfl
        · show some (Value.int (0 + (i : Int) * 1) tk) = _
          rw [Int.mul_one, Int.zero_add]
        · exact hm1)
      dsimp only [seen] at F3
      clear F₁
      have uQ : UseQu sep ks i := ⟨⟩
      k_steps
      · rename Fr _ _ _ _ => F'
        rename News _ _ _ _ => N'
        rename _ = mailAt _ _ (_ + 1) => hz2
        refine UnrEnd.intro F' N' [(D1, o)] (fun p hp => ?_) (fun p hp => ?_) ⟨D1, o, _, _, rfl, rfl, hz2⟩
        · exact hp
        · rcases List.mem_cons.mp hp with rfl | hp
          · exact o1
          · cases hp
      · exact ⟨hsep, hz1, hks _ hi⟩
    · intro m₁ news₁ h tk hJ F₁ N₁
      obtain ⟨D1, o, z, tz, rfl, hm1, hz1⟩ := hJ
      have F3 := frSeen F₁ [("mail", .str z tz)] (by
        intro p hp
        simp only [List.mem_cons, List.not_mem_nil, or_false] at hp
        rcases hp with rfl
        exact hm1)
      dsimp only [seen] at F3
      clear F₁
      k_steps
      exact ret _ _ _ _ F3.keep (hret _ hz1)
    · exact hjo
end
section -- S3
theorem resetS3 : True := by
  w_top off
  trivial
section
open LCg
variable {prog : Program} {w : World} {A : Around} {s : Shared} {E : Value → Shared → Prop} {h₀ : Heap} {L : Addr} {m : Str → Option Value} {env : Env}
noncomputable def RgSrc (prog : Program) (w : World) (A : Around) (h₀ : Heap) (L : Addr) (m : Str → Option Value) (env : Env) (elt : Expr) (x : Str) (scope : Scope) (cl : List (Str × Addr)) (Q : Value → Shared → Prop) (xv : Value) (s₁ : Shared) : Prop :=
  ∃ r a b c t u v, ∃ (n : Nat) (news : List (Addr × Obj)), xv = .ref r ∧ A.handled = none ∧ Fr h₀ L s₁.heap m ∧ News h₀ L s₁.heap news ∧ IsRange s₁.heap r a b c t u v ∧ Builtin.Range.small a b c = true ∧ Builtin.Range.rangeSize a b c = (n : Int) ∧ n ≤ sizeLine ∧
    ∀ s₂ : Shared, (∃ h, s₂ = { s₁ with heap := h }) → CompRest prog w A h₀ L m env elt x scope cl s₂ (fun _ => True) (fun i v => ∃ t, v = .int (a + (i : Int) * c) t) (FinE h₀ L m s₂ Q) n 0 [] news
theorem ListComp_R {elt iter : Expr} {x : Str} {px : Pos} {scope : Scope} {cl : List (Str × Addr)} {pos : Pos} {Q : Value → Shared → Prop} (F₀ : Fr h₀ L s.heap m)
    (hclos : closureFor scope env = pure cl) (hcell : ∀ y ∈ scope.names, y.2 ≠ .cell) (hkind : scope.kind = .function)
    (hnames : ∀ y ∈ scope.names, y.2 = .local → scope.names.lookup y.1 = some .local) (hx : scope.names.lookup x = some .local)
    (h : wpAny (model prog w) A (eval iter env) (RgSrc prog w A h₀ L m env elt x scope cl Q) E s)
    (hs : ∀ x, foldedSetIterable iter env x = pure x := by intro _; rfl) :
    wpAny (model prog w) A (eval (.ListComp elt [⟨.Name x px, iter, [], 0⟩] scope pos) env) Q E s := by
  rw [eval_ListComp]
  refine wpAny_comprehension_free (use := none) rfl hs hclos hkind hnames (wpAny_mono h (fun xv s₁ h₁ => ?_) fun _ _ e => e)
  obtain ⟨r, a, b, c, t, u, v, n, news, rfl, hh, F, N, hr, hsm, hn, hsz, R⟩ := h₁
  refine wpAny_pyIter_range hr hsm ?_
  have W := Walks.range (prog := prog) (w := w) hh s₁.heap.objs.size a c n
  refine block_U W hsz (fun i h st => ⟨_, st⟩) (fun i h h' o nw st e e' _ _ _ => e'.trans (e.symm.trans st)) hcell hkind hx (by show IsRangeIter _ _ _ _ _; rw [hn]; simpa using Heap.get?_push_size _ rfl) (fun b hb => ?_)
    (F.keeps fun _ _ e => Heap.get?_push_of_some _ e) (N.grown fun _ _ e => Heap.get?_push_of_some _ e) (Nat.ne_of_lt F.ns.lt) (next_is_new F) (fun p hp => Nat.ne_of_lt (Heap.lt_size (N p hp).1)) trivial (R _ ⟨_, rfl⟩) ?_
  · rw [List.mem_singleton.mp hb]
    show s₁.heap.objs.size < (s₁.heap.push _).objs.size
    rw [Heap.size_push]; exact Nat.lt_succ_self _
  · intro D C h tk m' ys news' F' N' o1 hn hC₀ hD₀ hCL hDL hCD offC fin
    refine ⟨m', hn, fun h'' hs'' => fin D h'' tk (F'.change hs'' hCL hC₀) (fun p hp => ?_) o1⟩
    refine ⟨hs''.extBut _ _ ?_ (N' p hp).1, (N' p hp).2⟩
    rcases List.mem_cons.mp hp with rfl | hp
    · exact Ne.symm hCD
    · exact offC p hp
structure UseRg (n : Nat) (J : Nat → List Value → List (Addr × Obj) → Prop) : Prop where
theorem RgSrc.intro {n : Nat} {J : Nat → List Value → List (Addr × Obj) → Prop} (_ : UseRg n J) {elt : Expr} {x : Str} {scope : Scope} {cl : List (Str × Addr)} {Q : Value → Shared → Prop} {r : Addr} {a b c : Int} {t u v : Tok} {s₁ : Shared} {news : List (Addr × Obj)}
    (hh : A.handled = none) (F : Fr h₀ L s₁.heap m) (N : News h₀ L s₁.heap news) (hr : IsRange s₁.heap r a b c t u v) (hsm : Builtin.Range.small a b c = true) (hn : Builtin.Range.rangeSize a b c = (n : Int)) (hsz : n ≤ sizeLine)
    (h0 : Hold (J 0 [] news))
    (fin : Hold (∀ g ys news', J n ys news' → FinE h₀ L m { s₁ with heap := g } Q ys news'))
    (step : Hold (∀ g i ys news v I oI C oC D m₂ h tk (E' : Value → Shared → Prop), i < n → J i ys news → (∃ t, v = .int (a + (i : Int) * c) t) → NsObj oC m₂ → m₂ x = some v → Fr h₀ L h m → News h₀ L h ((I, oI) :: (C, oC) :: (D, lst ys) :: news) → Off3 I C D news → ((@Ne Nat I C) ∧ (@Ne Nat I D) ∧ (@Ne Nat C D)) →
      wpAny (model prog w) A (eval elt (compEnvC scope cl C env)) (fun y s' => Hold (CompEnd h₀ L m { ({ s₁ with heap := g } : Shared) with heap := h, toks := tk } I oI C oC D (lst ys) (fun _ => True) (fun y news' => J (i + 1) (ys ++ [y]) news') y s')) E' { s₁ with heap := h, toks := tk })) :
    RgSrc prog w A h₀ L m env elt x scope cl Q (.ref r) s₁ :=
  ⟨r, a, b, c, t, u, v, n, news, rfl, hh, F, N, hr, hsm, hn, hsz, fun s₂ ⟨g, e⟩ => by
    subst e
    exact compU_ind J (fun ys news' hj => fin g ys news' hj) (fun i ys news v I oI C oC D m₂ h tk E' hi hj hv hC hx F N off ne => step g i ys news v I oI C oC D m₂ h tk E' hi hj hv hC hx F N off ne) n 0 [] news (by omega) h0⟩
end
section
variable {M : Model} {A : Around} {E : Value → Shared → Prop} {s : Shared} {h₀ : Heap} {L c P : Addr} {m mg mb : Str → Option Value} {news : List (Addr × Obj)} {g : Obj → List (Addr × Obj)}
  {p : Program} {loose : List Str} {mean : ExcName → Option Value} {name qual : Str} {params : Arguments} {body : Expr} {scope : Scope} {ps : Array Value} {pos : Pos} {firstLine : Nat} {clos : List (Str × Addr)} {env : Env}
/-- what the making of a lambda asks of the ground -/
theorem lam_ground (F : Fr h₀ L s.heap m) (N : News h₀ L s.heap news) (T : Top p loose mean mg mb h₀) (hm : (P, tabObj ps) ∈ news) :
    mainGlobals ≠ P ∧ s.heap.BuiltinsAt mg P := by
  have hq := N _ hm
  obtain ⟨bm, ob, b1, b2, b3, b4, b5, b6⟩ := T.bmain
  have hgs := T.g.keeps F.keep
  have n1 : mainGlobals ≠ P := fun q => by
    obtain ⟨o, es, ep, e, hd, _⟩ := hgs
    rw [q, hq.1] at e; cases e; cases hd
  have n2 : bm ≠ P := fun q => by
    have e := F.keep _ _ b3
    rw [q, hq.1] at e; cases e; cases b4
  have n3 : bm ≠ mainGlobals := fun q => by
    obtain ⟨o, es, ep, e, hd, _⟩ := T.g
    rw [q, e] at b3; cases b3; rw [hd] at b6; cases b6
  exact ⟨n1, ⟨bm, ob, b1, b2, n3, n2, F.keep _ _ b3, b4, b5, b6⟩⟩
/-- a lambda made at any env: the first time -/
theorem lam_new {Q : Value → Shared → Prop} (F : Fr h₀ L s.heap m := by k_asm) (N : News h₀ L s.heap news := by k_asm) (T : Top p loose mean mg mb h₀ := by k_asm) (C : CodeHd h₀ c P := by k_asm) (hcd : env.code = .ref c := by exact rfl) (hg0 : env.globals = mainGlobals := by exact rfl) (U : UpdF P (tabObj ps) news g := by k_updF) (ht : TriplesOk ps.toList := by kn_triples) (hnf : codeAmong pos ps.toList = none := by kn_among)
    (hcl : closureFor scope env = pure clos := by exact rfl)
    (h : ∀ f c' oc vs t ctv h' tk, Fr h₀ L h' m →
      News h₀ L h' ((f, kla_obj name qual params body scope clos ((mg "__name__").getD .none) c' ctv) :: (c', oc) :: g (tabObj (ps ++ #[rawInt pos.line, rawInt pos.col, .ref c']))) →
      oc.data = .fields vs → vs[1]? = some (.str qual t) → (∀ q ∈ news, q.1 < c') → c' < f → Q (.ref f) { s with heap := h', toks := tk }) :
    wpAny M A (makeFunction name qual params (.expr body) scope env [] [] [] pos firstLine) Q E s := by
  obtain ⟨own, rest, rfl, hgr, h1, h2⟩ := U.split
  have hmem : (P, tabObj ps) ∈ own ++ (P, tabObj ps) :: rest := List.mem_append_right _ (.head _)
  have hm := N _ hmem
  obtain ⟨hgP, hB⟩ := lam_ground F N T hmem
  refine kla_makeFunction (mg := mg) hcl hg0 (T.g.keeps F.keep) hcd (C.keeps F.keep) hm.1 ht hnf hgP hB fun c' ctv h' tk hx hge hlt hrec htb => ?_
  obtain ⟨c₂, oc, vs, t, e2, hoc, hd, hv⟩ := hrec
  cases e2
  have hLc : L < c' := Nat.lt_of_lt_of_le F.ns.lt hge
  have keep' : ∀ b o, h₀.get? b = some o → h'.get? b = some o := fun b o e => hx b o (fun q => by rw [q, hm.2.2] at e; cases e) (F.keep b o e)
  have fresh : ∀ b, L < b → h₀.get? b = none := fun b hb => Heap.get?_none_of_le (Nat.le_trans F.above (Nat.le_of_lt hb))
  refine h h'.objs.size c' oc vs t ctv _ tk ⟨(F.ns.extBut hx hm.2.1.symm).push _, fun b o e => Heap.get?_push_of_some _ (keep' b o e), F.above⟩ (fun q hq => ?_) hd hv
    (fun q hq => Nat.lt_of_lt_of_le (Heap.lt_size (N q hq).1) hge) hlt
  rcases List.mem_cons.mp hq with rfl | hq
  · exact ⟨Heap.get?_push_size _ rfl, Nat.ne_of_gt (Nat.lt_trans hLc hlt), fresh _ (Nat.lt_trans hLc hlt)⟩
  rcases List.mem_cons.mp hq with rfl | hq
  · exact ⟨Heap.get?_push_of_some _ hoc, Nat.ne_of_gt hLc, fresh _ hLc⟩
  rw [hgr] at hq
  rcases List.mem_append.mp hq with hq | hq
  · have n := N q (List.mem_append_left _ hq)
    exact ⟨Heap.get?_push_of_some _ (hx _ _ (h1 q hq) n.1), n.2⟩
  rcases List.mem_cons.mp hq with rfl | hq
  · exact ⟨Heap.get?_push_of_some _ htb, hm.2⟩
  · have n := N q (List.mem_append_right _ (.tail _ hq))
    exact ⟨Heap.get?_push_of_some _ (hx _ _ (h2 q hq) n.1), n.2⟩
/-- a lambda made at any env: its code stands already -/
theorem lam_hit {Q : Value → Shared → Prop} {c' : Addr} (F : Fr h₀ L s.heap m := by k_asm) (N : News h₀ L s.heap news := by k_asm) (T : Top p loose mean mg mb h₀ := by k_asm) (C : CodeHd h₀ c P := by k_asm) (hcd : env.code = .ref c := by exact rfl) (hg0 : env.globals = mainGlobals := by exact rfl) (hmem : (P, tabObj ps) ∈ news := by k_mem) (ht : TriplesOk ps.toList := by kn_triples) (hf : codeAmong pos ps.toList = some (.ref c') := by kn_hit)
    (hcl : closureFor scope env = pure clos := by exact rfl)
    (h : ∀ f ctv h' tk, Fr h₀ L h' m → News h₀ L h' ((f, kla_obj name qual params body scope clos ((mg "__name__").getD .none) c' ctv) :: news) → (∀ q ∈ news, q.1 < f) → Q (.ref f) { s with heap := h', toks := tk }) :
    wpAny M A (makeFunction name qual params (.expr body) scope env [] [] [] pos firstLine) Q E s := by
  have hm := N _ hmem
  obtain ⟨hgP, hB⟩ := lam_ground F N T hmem
  refine kla_makeFunctionHit (mg := mg) hcl hg0 (T.g.keeps F.keep) hcd (C.keeps F.keep) hm.1 ht hf hB fun ctv h' tk hk hsz => ?_
  have hLs : L < h'.objs.size := Nat.lt_of_lt_of_le F.ns.lt hsz
  have fresh : ∀ b, L < b → h₀.get? b = none := fun b hb => Heap.get?_none_of_le (Nat.le_trans F.above (Nat.le_of_lt hb))
  refine h h'.objs.size ctv _ tk ⟨(F.ns.keeps hk).push _, fun b o e => Heap.get?_push_of_some _ (hk b o (F.keep b o e)), F.above⟩ (fun q hq => ?_) (fun q hq => Nat.lt_of_lt_of_le (Heap.lt_size (N q hq).1) hsz)
  rcases List.mem_cons.mp hq with rfl | hq
  · exact ⟨Heap.get?_push_size _ rfl, Nat.ne_of_gt hLs, fresh _ hLs⟩
  · exact ⟨Heap.get?_push_of_some _ (hk _ _ (N q hq).1), (N q hq).2⟩
end
/-- a lambda, entered at any heap: nothing is hidden -/
theorem enterL {p : Program} {loose : List Str} {mean : ExcName → Option Value} {mg mb : Str → Option Value} {prog : Program} {w : World} {A : Around} {s : Shared}
    {R : Result → Shared → Prop} {name qual : Str} {params : Arguments} {body : Expr} {scope : Scope} {cl : List (Str × Addr)} {pm ctv : Value} {c' : Addr} {f : Addr} {args : Args} {binds : List (Str × Value)}
    (T : Top p loose mean mg mb s.heap)
    (ho : s.heap.get? f = some (kla_obj name qual params body scope cl pm c' ctv)) (hcd : s.heap.CodeRec (.ref c') qual) (hroom : A.depth < recursionLimit)
    (hbind : bindArgs (kla_fn name qual params body scope cl pm (.ref c') ctv) args = pure binds) (hloc : ∀ y ∈ binds, scope.names.lookup y.1 = some .local)
    (h : ∀ L' h₁, Fr s.heap L' h₁ (fun y => binds.reverse.lookup y) → News s.heap L' h₁ [] →
      wpAny (model prog w) (A.deeper (envX qual scope L' f (.ref c') cl)) (eval body (envX qual scope L' f (.ref c') cl)) (fun v s' => R (.ok (.ret v)) s')
        (fun _ _ => False) { s with heap := h₁, toks := s.toks + binds.length })
    (hco : scope.isCoroutine = false) (hgen : scope.isGenerator = false) (hk : scope.kind = .function)
    (hcell : ∀ x ∈ scope.names, x.2 ≠ .cell) : codeAny (model prog w) A (.call (.ref f) args) R s := by
  refine kla_callFunE hroom ho rfl hco hgen rfl hcd ?_
  rw [hbind]
  refine wpAny_pure (wpAny_newFunctionEnv hcell hloc (fun h₁ hns hsb => ⟨T.nolimit.fresh _ hsb, ?_⟩) hk)
  have hk₁ : ∀ b o, s.heap.get? b = some o → h₁.get? b = some o := fun b o e => hsb.extBut b o (Nat.ne_of_lt (Heap.lt_size e)) (Heap.get?_push_of_some _ e)
  exact kla_codeExpr (wpAny_mono (h s.heap.objs.size h₁ ⟨hns, hk₁, Nat.le_refl _⟩ News.nil) (fun _ _ x => x) fun _ _ y => y.elim)
end
section -- B11
theorem resetB11 : True := by
  w_top off
  trivial
noncomputable def lawParts : List Stmt × Scope := match PySem.Challenge.pw_sr0023_01.main.body.getLast? with
  | some (.FunctionDef _ _ body _ _ _ scope _ _ _) => (body, scope)
  | _ => ([], default)
noncomputable def lawTail (n : Nat) : List Stmt := lawParts.1.drop n
noncomputable def lawScope : Scope := lawParts.2
noncomputable abbrev lawEnv (L fa : Addr) : Env := envOfC (Str.ofString "law") lawScope L fa (.ref 163)
structure UseStop (x : Str) : Prop where
theorem stop_assign {x : Str} (_ : UseStop x) {M : Model} {A : Around} {env : Env} {Q : Flow → Shared → Prop} {E : Value → Shared → Prop} {s : Shared} {p pos : Pos} {v : Expr} {rest : List Stmt}
   (h : Hold (wpAny M A (execs (.Assign [.Name x p] v pos :: rest) env) Q E s)) : wpAny M A (execs (.Assign [.Name x p] v pos :: rest) env) Q E s := h
structure UseStopIf : Prop where
theorem stop_if (_ : UseStopIf) {M : Model} {A : Around} {env : Env} {Q : Flow → Shared → Prop} {E : Value → Shared → Prop} {s : Shared} {pos : Pos} {v : Expr} {b e rest : List Stmt}
   (h : Hold (wpAny M A (execs (.If v b e pos :: rest) env) Q E s)) : wpAny M A (execs (.If v b e pos :: rest) env) Q E s := h
structure UseCU : Prop where
structure UseCT : Prop where
structure UseEnd : Prop where
section
variable {prog : Program} {w : World} {A : Around} {E : Value → Shared → Prop} {Q : Flow → Shared → Prop} {s : Shared} {env : Env} {h₀ : Heap}
theorem turns_ledger {J : Inv} {target : Expr} {body : List Stmt} {l : Addr} {nl : Nat} {vs : List Value} {m₀ : Str → Option Value} {news : List (Addr × Obj)} (_ : UseF J vs.length)
    (hh : A.handled = none) (hl : (l, listOf vs.toArray nl) ∈ news) (F : Fr h₀ env.locals s.heap m₀) (N : News h₀ env.locals s.heap news)
    (hJ : Hold (J 0 m₀ news)) (hJl : Hold (∀ i m₁ news₁, J i m₁ news₁ → (l, listOf vs.toArray nl) ∈ news₁))
    (turn : Hold (∀ i v m₁ news₁ h tk I it, vs[i]? = some v → J i m₁ news₁ → (∀ p ∈ news₁, p.1 ≠ I) → Fr h₀ env.locals h m₁ → News h₀ env.locals h ((I, it) :: news₁) →
      wpAny (model prog w) A (assign target env v) (fun _ s₂ => wpAny (model prog w) A (execs body env) (UnrPost h₀ env.locals { s with heap := h, toks := tk } I it (J (i + 1)) Q) E s₂) E { s with heap := h, toks := tk }))
    (done : Hold (∀ m₁ news₁ h tk, J vs.length m₁ news₁ → Fr h₀ env.locals h m₁ → News h₀ env.locals h news₁ → Q .next { s with heap := h, toks := tk })) :
    wpAny (model prog w) A (pyIter (.ref l)) (fun it s₂ => TurnsAt prog w A h₀ env target body Q E it s₂) E s := by
  have hls : s.heap.IsList l vs.toArray := ⟨_, (N _ hl).1, rfl, _, rfl⟩
  have hne : l ≠ s.heap.objs.size := Nat.ne_of_lt (Heap.lt_size (N _ hl).1)
  have hnew := next_is_new F
  refine wpAny_pyIter_list hls ?_
  have W := Walks.list (prog := prog) (w := w) hh s.heap.objs.size l hne vs.toArray
  have ez : vs.toArray.size = vs.length := by simp
  rw [ez] at W
  have KW := KTurns.ofWalks (target := target) W fun i v s Q E st q => letGo_listiter st.1 q
  refine ⟨s.heap.objs.size, [s.heap.objs.size, l], [s.heap.objs.size], vs.length, _, _, _, m₀, news, J, rfl, KW, ?_, ?_, ?_, ⟨⟨_, Heap.get?_push_size _ rfl, rfl, rfl⟩, hls.at fun o e => Heap.get?_push_of_some _ e⟩, F.push _, (fun p hp => ⟨Heap.get?_push_of_some _ (N p hp).1, (N p hp).2⟩), hJ, ?_, ?_⟩
  · intro hm
    rcases List.mem_cons.mp hm with e | hm
    · exact absurd F.ns.lt (e ▸ Nat.lt_irrefl _)
    · exact (N _ hl).2.1 (List.mem_singleton.mp hm).symm
  · intro b hb
    rw [List.mem_singleton.mp hb]
    exact hnew
  · intro p hp hI
    exact absurd (Heap.lt_size (N p hp).1) ((List.mem_singleton.mp hI) ▸ Nat.lt_irrefl _)
  · intro i v m₁ news₁ h₁ tk₁ own hin hP hJ₁ hoff hown hget hall hst F₁ N₁
    obtain ⟨⟨it, hit, _⟩, _⟩ := hst
    have hmem := hall s.heap.objs.size List.mem_cons_self hnew _ hit
    have hv : vs[i]? = some v := by simpa using hP
    have N₂ : News h₀ env.locals h₁ ((s.heap.objs.size, it) :: news₁) := fun p hp => by
      rcases List.mem_cons.mp hp with rfl | hp
      · exact N₁ _ (List.mem_append_left _ hmem)
      · exact N₁ _ (List.mem_append_right _ hp)
    have off1 : ∀ p ∈ news₁, p.1 ≠ s.heap.objs.size := fun p hp e => hoff p hp (List.mem_singleton.mpr e)
    have fin : ∀ s₃, UnrEnd h₀ env.locals { s with heap := h₁, toks := tk₁ } s.heap.objs.size it (J (i + 1)) s₃ →
        LoopStepU h₀ env.locals [s.heap.objs.size] own (J (i + 1)) { s with heap := h₁, toks := tk₁ } .next s₃ := by
      rintro s₃ ⟨h', tk, m', news', e, F', N', ho, r⟩
      refine ⟨rfl, h', tk, m', news', e, F', fun p hp => ?_, fun p hp hI => ho p hp (List.mem_singleton.mp hI), r⟩
      rcases List.mem_append.mp hp with hp | hp
      · rcases List.mem_cons.mp (hown p hp) with h1 | h1
        · have h2 : h₁.get? p.1 = some p.2 := hget p hp
          have h3 : p = (s.heap.objs.size, it) := by
            rw [h1, hit] at h2
            exact Prod.ext h1 (Option.some.inj h2).symm
          rw [h3]; exact N' _ (List.mem_cons_self ..)
        · have h2 : h₁.get? p.1 = some p.2 := hget p hp
          have h4 := (N₁ _ (List.mem_append_right _ (hJl _ _ _ hJ₁))).1
          have h3 : p = (l, listOf vs.toArray nl) := by
            rw [List.mem_singleton.mp h1] at h2
            exact Prod.ext (List.mem_singleton.mp h1) (Option.some.inj (h2.symm.trans h4))
          rw [h3]; exact N' _ (List.mem_cons_of_mem _ (hJl _ _ _ r))
      · exact N' _ (List.mem_cons_of_mem _ hp)
    refine wpAny_mono (turn i v m₁ news₁ h₁ tk₁ _ it hv hJ₁ off1 F₁ N₂) (fun _ s₂ p => wpAny_mono p (fun f s₃ p => ?_) fun _ _ e => e) fun _ _ e => e
    cases f with
    | ret v => exact .ret p
    | brk => exact .brk p
    | next => exact .next (fin _ p)
    | cont => exact .cont (fin _ p)
  · intro h' tk m' news' F' N' _ hJ'
    exact done m' news' h' tk hJ' F' N'
end
structure UseLd : Prop where
structure UseStopFor : Prop where
theorem stop_for (_ : UseStopFor) {M : Model} {A : Around} {env : Env} {Q : Flow → Shared → Prop} {E : Value → Shared → Prop} {s : Shared} {pos : Pos} {tg v : Expr} {b e rest : List Stmt}
   (h : Hold (wpAny M A (execs (.For tg v b e pos :: rest) env) Q E s)) : wpAny M A (execs (.For tg v b e pos :: rest) env) Q E s := h
end
section
local macro_rules | `(tactic| walk_at "subscriptTail List") => `(tactic| (k_here; k_dflt (refine kba_turn (value' := PySem.Expr.Name (PySem.Str.ofString "_") ⟨0, 0, 0, 0⟩) (fun _ => rfl) ?_)))
local macro_rules | `(tactic| walk_at "execs cons") => `(tactic| ((rename UseStop _ => uS); refine stop_assign uS ?_; clear uS))
local macro_rules | `(tactic| walk_at "execs cons Assign cons") => `(tactic| ((rename UseStop _ => uS); refine stop_assign uS ?_; clear uS))
local macro_rules | `(tactic| walk_at "execs cons") => `(tactic| ((rename UseStopIf => uS); refine stop_if uS ?_; clear uS))
local macro_rules | `(tactic| walk_at "eval ListComp") => `(tactic| (k_here; (rename UseCU => cX); k_dflt (refine LCg.ListComp_U (F₀ := by k_asm) (by with_unfolding_all rfl) (by decide) (by rfl) (by decide) (by rfl) ?_); clear cX))
local macro_rules | `(tactic| walk_at "eval ListComp") => `(tactic| (k_here; (rename UseCT => cX); k_dflt (refine LCt.ListComp_T (F₀ := by k_asm) (by with_unfolding_all rfl) (by decide) (by rfl) (by decide) (by rfl) ?_); clear cX))
local macro_rules | `(tactic| walk_at "exec Assign cons ListComp") => `(tactic| (k_here; (rename UseCU => cX); k_dflt (refine LCg.Assign_ListComp_U (F₀ := by k_asm) (by rfl) (by with_unfolding_all rfl) (by with_unfolding_all rfl) (by decide) (by rfl) (by decide) (by rfl) (by rfl) (by rfl) ?_); clear cX))
local macro_rules | `(tactic| walk_at "exec Assign cons ListComp") => `(tactic| (k_here; (rename UseCT => cX); k_dflt (refine LCt.Assign_ListComp_T (F₀ := by k_asm) (by rfl) (by with_unfolding_all rfl) (by with_unfolding_all rfl) (by decide) (by rfl) (by decide) (by rfl) (by rfl) (by rfl) ?_); clear cX))
local macro_rules | `(tactic| walk_at "CompEnd") => `(tactic| ((rename UseEnd => uE); (rename Hold (LCg.Off3 _ _ _ _) => oH); (rename News _ _ _ _ => lN); first | refine LCg.CompEnd.intro (by assumption) lN _ (fun p hp => hp) oH (by lcg_src) ?_ | refine LCg.CompEnd.intro (by assumption) lN _ (fun p hp => List.mem_cons_of_mem _ hp) oH (by lcg_src) ?_))
local macro_rules | `(tactic| walk_at "exec For Name Name cons nil") => `(tactic| (k_here; (rename UseLd => cX); (rename Fr _ _ _ _ => lF'); (with_unfolding_all refine' For_turns lF' ?_ (hE := by assumption); k_whole)))
local macro_rules | `(tactic| walk_at "pyIter ref") => `(tactic| ((rename UseLd => cX); (rename UseF _ _ => mkX); (rename Fr _ _ _ _ => lF'); (rename News _ _ _ _ => lN'); (with_unfolding_all refine turns_ledger mkX (by rfl) (by k_mem) lF' lN' ?_ ?_ ?_ ?_); (all_goals clear lF' lN')))
local macro_rules | `(tactic| walk_at "execs cons") => `(tactic| ((rename UseStopFor => uS); refine stop_for uS ?_; clear uS))
local macro_rules | `(tactic| walk_at "execs cons For") => `(tactic| ((rename UseStopFor => uS); refine stop_for uS ?_; clear uS))
local macro_rules | `(tactic| k_ne) => `(tactic| (refine neN ?_; (try dsimp only); first | with_reducible assumption | (refine Ne.symm ?_; with_reducible assumption)))
local macro_rules | `(tactic| walk_at "FinE") => `(tactic| ((unfold LCg.FinE); intro D' h' tk' F' N' o1'; (try simp only [LCg.Off1, and_true] at o1'); (repeat (rcases o1' with ⟨_, o1'⟩)); (try simp only [List.nil_append, List.cons_append] at N'); (try dsimp only)))
section -- B12
theorem resetB12 : True := by
  w_top off
  trivial
structure UseDr : Prop where
local macro_rules | `(tactic| walk_at "subscriptTail Name Slice ref ref") => `(tactic| (k_here; (rename UseDr => uD); k_dflt (refine' kmk_slice_ints (by k_asm) (by k_asm) (by kmk_list) (by kmk_part) (by kmk_part) (by l_ints) (by exact kmk_from (by l_ints) (by omega)) (by exact List.length_drop ..) ?_ (by with_unfolding_all rfl) (by kmk_pure) (by exact Nat.le_of_ble_eq_true rfl)); intro D' ws' h' F' N' l1 hI' hC' hL'; clear uD; (try k_lt l1)))
set_option maxHeartbeats 16000000 in
theorem law1 {w : World} {loose : List Str} {mean : ExcName → Option Value} {mg mb : Str → Option Value} {p : Program}
   {L fa : Nat} {Q : Flow → Shared → Prop} {E : Value → Shared → Prop} {s : Shared} {h₀ : Heap} {m : Str → Option Value} {D : Nat} {vs : List Value} {ds : List Int} {n : Nat} {w0 w1 w2 w3 w4 w5 : Obj}
   (X : (hd.heap_39 w.params).In h₀) (T : Top p loose mean mg mb h₀) (C : CodeHd h₀ 163 161) (h161 : 161 < L) (hlen : ds.length ≤ 8) (hI : IntsAre vs ds)
   (F : Fr h₀ L s.heap fun y => if y = Str.ofString "draws" then some (.ref D) else m y)
   (N : News h₀ L s.heap [(D, listOf vs.toArray n), (L + 1 + 1 + 1 + 1 + 1 + 1, w5), (L + 1 + 1 + 1 + 1 + 1, w4), (L + 1 + 1 + 1 + 1, w3), (L + 1 + 1 + 1, w2), (L + 1 + 1, w1), (L + 1, w0), (161, tabObj #[])])
   (next : ∀ h' tk' (D' : Nat) ws n' (m' : Str → Option Value) ds', Fr h₀ L h' (fun y => if y = Str.ofString "drawn" then some (.ref D') else m' y) → News h₀ L h' [(D', listOf ws.toArray n'), (L + 1 + 1 + 1 + 1 + 1 + 1, w5), (L + 1 + 1 + 1 + 1 + 1, w4), (L + 1 + 1 + 1 + 1, w3), (L + 1 + 1 + 1, w2), (L + 1 + 1, w1), (L + 1, w0), (161, tabObj #[])] →
     IntsAre ws ds' → ds'.length = 8 → L + 1 + 1 + 1 + 1 + 1 + 1 < D' → wpAny (model Prg w) (callerA.deeper (lawEnv L fa)) (execs (lawTail 2) (lawEnv L fa)) Q E { s with heap := h', toks := tk' }) :
   wpAny (model Prg w) (callerA.deeper (lawEnv L fa)) (execs (lawTail 1) (lawEnv L fa)) Q E s := by
  have hz := hI.length
  have next' : Hold _ := next
  clear next
  conv in lawTail _ => unfold lawTail; arg 2; whnf
  dsimp only [lawEnv]
  obtain ⟨sc, hsc⟩ : ∃ sc, sc = lawScope := ⟨_, rfl⟩
  rw [← hsc]
  conv at hsc => rhs; whnf
  subst hsc
  dsimp only [List.drop]
  have uD : UseDr := ⟨⟩
  have uS : UseStop (Str.ofString "ports") := ⟨⟩
  k_steps
  rename Fr _ _ _ _ => F'
  rename News _ _ _ _ => N'
  rename IntsAre _ (ds ++ _) => hI2
  refine next' _ _ _ _ 0 _ _ F' (fun q hq => ?_) hI2 ?_ (by omega)
  · rcases List.mem_cons.mp hq with rfl | hq
    · exact N' _ (.head _)
    · exact N' _ (.tail _ (.tail _ (.tail _ (.tail _ hq))))
  · rw [List.length_append, List.length_drop, Int.toNat_natCast]
    simp only [List.length_cons, List.length_nil]; omega
noncomputable def Cells (L a : Nat) : Prop := a ≠ 161 ∧ a ≠ L + 1 ∧ a ≠ L + 1 + 1 ∧ a ≠ L + 1 + 1 + 1 ∧ a ≠ L + 1 + 1 + 1 + 1 ∧ a ≠ L + 1 + 1 + 1 + 1 + 1 ∧ a ≠ L + 1 + 1 + 1 + 1 + 1 + 1
theorem fm_lt (a : Int) {b : Int} (h : 0 < b) : 0 ≤ Int.fmod a b ∧ Int.fmod a b < b := ⟨Int.fmod_nonneg_of_pos a h, Int.fmod_lt_of_pos a h⟩
set_option maxHeartbeats 16000000 in
theorem law2 {w : World} {loose : List Str} {mean : ExcName → Option Value} {mg mb : Str → Option Value} {p : Program}
   {L fa : Nat} {Q : Flow → Shared → Prop} {E : Value → Shared → Prop} {s : Shared} {h₀ : Heap} {m : Str → Option Value} {D : Nat} {vs : List Value} {ds : List Int} {n : Nat} {w0 w1 w2 w3 w4 w5 : Obj} {u0 : Option Value}
   (X : (hd.heap_39 w.params).In h₀) (T : Top p loose mean mg mb h₀) (C : CodeHd h₀ 163 161) (h161 : 161 < L) (hlt : L + 1 + 1 + 1 + 1 + 1 + 1 < D) (hlen : ds.length = 8) (hI : IntsAre vs ds)
   (F : Fr h₀ L s.heap fun y => if y = Str.ofString "drawn" then some (.ref D) else m y)
   (N : News h₀ L s.heap [(D, listOf vs.toArray n), (L + 1 + 1 + 1 + 1 + 1 + 1, w5), (L + 1 + 1 + 1 + 1 + 1, w4), (L + 1 + 1 + 1 + 1, w3), (L + 1 + 1 + 1, w2), (L + 1 + 1, w1), (L + 1, w0), (161, tabObj #[])])
   (d0 : w0.data = .cell u0)
   (next : ∀ h' tk' (Dp : Nat) ps pv np wh tw g tg t tt n0 (m' : Str → Option Value), Fr h₀ L h' (fun y => if y = Str.ofString "gap" then some (.int g tg) else if y = Str.ofString "where" then some (.int wh tw) else if y = Str.ofString "ports" then some (.ref Dp) else if y = Str.ofString "drawn" then some (.ref D) else m' y) →
     News h₀ L h' [(Dp, listOf pv.toArray np), (D, listOf vs.toArray n), (L + 1 + 1 + 1 + 1 + 1 + 1, w5), (L + 1 + 1 + 1 + 1 + 1, w4), (L + 1 + 1 + 1 + 1, w3), (L + 1 + 1 + 1, w2), (L + 1 + 1, w1), (L + 1, n0), (161, tabObj #[])] →
     n0.data = .cell (some (.int t tt)) → IntsAre pv ps → ps.length = 4 → (∀ p ∈ ps, 0 ≤ p ∧ p ≤ 7) → 0 ≤ wh ∧ wh ≤ 7 → 0 ≤ g ∧ g ≤ 3 → 1 ≤ t ∧ t ≤ 3 → Cells L Dp → D ≠ Dp →
     wpAny (model Prg w) (callerA.deeper (lawEnv L fa)) (execs (lawTail 6) (lawEnv L fa)) Q E { s with heap := h', toks := tk' }) :
   wpAny (model Prg w) (callerA.deeper (lawEnv L fa)) (execs (lawTail 2) (lawEnv L fa)) Q E s := by
  have hz := hI.length
  have next' : Hold _ := next
  clear next
  conv in lawTail _ => unfold lawTail; arg 2; whnf
  dsimp only [lawEnv]
  obtain ⟨sc, hsc⟩ : ∃ sc, sc = lawScope := ⟨_, rfl⟩
  rw [← hsc]
  conv at hsc => rhs; whnf
  subst hsc
  dsimp only [List.drop]
  have uS : UseStop (Str.ofString "rows") := ⟨⟩
  k_steps
  rename Fr _ _ _ _ => F'
  rename News _ _ _ _ => N'
  rename IntsAre _ (List.map _ _) => hI2
  rename _ = Data.cell (some _) => d1
  have q1 := fm_lt (ds.getD (Int.toNat 4) 0) (b := 8) (by decide)
  have q2 := fm_lt (ds.getD (Int.toNat 5) 0) (b := 4) (by decide)
  have q3 := fm_lt (ds.getD (Int.toNat 6) 0) (b := 3) (by decide)
  refine next' _ _ _ _ _ ys.length _ _ _ _ _ _ _ _ F' (fun q hq => ?_) d1 hI2 ?_ ?_ (by omega) (by omega) (by omega) ?_ ?_
  · rcases List.mem_cons.mp hq with rfl | hq
    · exact N' _ (.head _)
    · exact N' _ (.tail _ (.tail _ hq))
  · rw [List.length_map, List.length_take]; omega
  · intro p hp
    obtain ⟨k, _, rfl⟩ := List.mem_map.mp hp
    have := fm_lt k (b := 8) (by decide)
    omega
  · unfold Cells; refine ⟨?_, ?_, ?_, ?_, ?_, ?_, ?_⟩ <;> omega
  · omega
end
section -- B13
theorem resetB13 : True := by
  w_top off
  trivial
structure UseSent (ps : List Int) : Prop where
theorem use_sent {w : World} {p : Program} {loose : List Str} {mean : ExcName → Option Value} {mg mb : Str → Option Value}
   {dp un : Nat} {gd : Option (List Code)} {fr : Option (List Env)} {s : Shared} {Q E : Value → Shared → Prop} {h₀ : Heap} {L : Addr} {m : Str → Option Value} {news : List (Addr × Obj)}
   {l : Addr} {nl : Nat} {vs0 : List Value} {a b c d t : Int} {tt te : Tok} {e : Str} (_ : UseSent [a, b, c, d])
   (F : Fr h₀ L s.heap m := by k_asm) (N : News h₀ L s.heap news := by k_asm) (X : (hd.heap_39 w.params).In h₀ := by k_asm) (T : Top p loose mean mg mb h₀ := by k_asm)
   (hp : (l, listOf vs0.toArray nl) ∈ news := by k_mem) (hi0 : IntsAre vs0 [a, b, c, d] := by assumption) (hb : (0 ≤ a ∧ a ≤ 7) ∧ (0 ≤ b ∧ b ≤ 7) ∧ (0 ≤ c ∧ c ≤ 7) ∧ (0 ≤ d ∧ d ≤ 7) := by assumption) (ht : 1 ≤ t ∧ t ≤ 3 := by assumption)
   (hsep : Sep e.cps.toList := by first | exact .inl (by decide +kernel) | exact .inr (.inl (by decide +kernel)) | exact .inr (.inr (by decide +kernel)))
   (hd1 : dp + 2 < recursionLimit := by ktr_room) (hu : un + 16 < cLine := by ktr_units)
   (ret : ∀ h' tk' z tz, Fr h₀ L h' m → News h₀ L h' news → z.cps.toList = jn [13, 10] ([a.toNat, b.toNat, c.toNat, d.toNat].map fun k => if k = 0 then 0 else k + t.toNat) → Q (.str z tz) { s with heap := h', toks := tk' }) :
   wpAny (model Prg w) ⟨none, dp, fr, gd, un⟩ (call (.ref 135) [.ref l, .int t tt, .str e te]) Q E s :=
  c_sent (X.keeps F.keep) (T.keeps F.keep) (N _ hp).1 hi0 rfl hb.1 hb.2.1 hb.2.2.1 hb.2.2.2 ht hsep rfl hd1 hu fun h' tk' z tz e hz => ret h' tk' z tz (F.keeps e) (N.grown e) hz
local macro_rules | `(tactic| walk_at "call ref") => `(tactic| (k_here; (rename UseSent _ => uP); k_dflt (refine' use_sent uP (ret := ?_)); intro h' tk' z' t' F' N' hz'; clear uP; (try dsimp only)))
structure UseSpl : Prop where
noncomputable def rowS (k : Nat) : Str := ⟨(row k).toArray⟩
theorem split_rows {prog : Program} {w : World} {A : Around} {E : Value → Shared → Prop} {s : Shared} {h₀ : Heap} {L : Addr} {m : PySem.Str → Option Value} {news : List (Addr × Obj)} {z : Str} {ks : List Nat} {t u : Tok} {Q : Value → Shared → Prop} (_ : UseSpl)
    (hF : Fr h₀ L s.heap m) (hN : News h₀ L s.heap news) (hz : z.cps.toList = jn [13, 10] ks) (h4 : ks.length = 4) (hk : ∀ k ∈ ks, k ≤ 10)
    (h : ∀ D vs h' k, Fr h₀ L h' m → News h₀ L h' ((D, listOf (List.toArray vs) 0) :: news) → (∀ p ∈ news, p.1 < D) → StrsAre vs (ks.map rowS) → Q (.ref D) { s with heap := h', toks := k }) :
    wpAny (model prog w) A (call (.builtin "str.split") [.str z t, .str (Str.ofString "\r\n") u]) Q E s := by
  have hzl : z.length = (jn [13, 10] ks).length := by rw [← hz]; exact Array.length_toList.symm
  obtain ⟨k1, k2, k3, k4, rfl⟩ := len4 h4
  have b1 := hk k1 (by simp)
  have b2 := hk k2 (by simp)
  have b3 := hk k3 (by simp)
  have b4 := hk k4 (by simp)
  have hl : z.length = k1 + 2 + (k2 + 2 + (k3 + 2 + k4)) := by
    rw [hzl]; simp [jn, row]; omega
  refine KSpl.split1 hF hN (by decide +kernel) (fun D l h' k el a F N lt => ?_) (by rw [sizeLine_eq]; omega)
  rw [split_jn (by simp) (by omega) hz] at el
  rw [el] at a
  exact h D _ h' k F N lt a
local macro_rules | `(tactic| walk_at "call builtin:str.split") => `(tactic| (k_here; (rename UseSpl => uZ); k_dflt (refine split_rows uZ (by k_asm) (by k_asm) (by assumption) (by rfl) (by assumption) ?_); intro D' vs' h' k' F' N' l1 hst'; (try k_lt l1); clear uZ))
set_option maxHeartbeats 16000000 in
theorem law3 {w : World} {loose : List Str} {mean : ExcName → Option Value} {mg mb : Str → Option Value} {p : Program}
   {L fa : Nat} {Q : Flow → Shared → Prop} {E : Value → Shared → Prop} {s : Shared} {h₀ : Heap} {m : Str → Option Value} {D : Nat} {vs pv : List Value} {ds : List Int} {n np : Nat} {Dp : Nat} {a b c d wh g t : Int} {wg tg tt : Tok} {w0 w1 w2 w3 w4 w5 : Obj}
   (X : (hd.heap_39 w.params).In h₀) (T : Top p loose mean mg mb h₀) (C : CodeHd h₀ 163 161) (h161 : 161 < L) (hlt : L + 1 + 1 + 1 + 1 + 1 + 1 < D) (hlen : ds.length = 8) (hI : IntsAre vs ds)
   (F : Fr h₀ L s.heap fun y => if y = Str.ofString "gap" then some (.int g tg) else if y = Str.ofString "where" then some (.int wh wg) else if y = Str.ofString "ports" then some (.ref Dp) else if y = Str.ofString "drawn" then some (.ref D) else m y)
   (N : News h₀ L s.heap [(Dp, listOf pv.toArray np), (D, listOf vs.toArray n), (L + 1 + 1 + 1 + 1 + 1 + 1, w5), (L + 1 + 1 + 1 + 1 + 1, w4), (L + 1 + 1 + 1 + 1, w3), (L + 1 + 1 + 1, w2), (L + 1 + 1, w1), (L + 1, w0), (161, tabObj #[])])
   (d0 : w0.data = .cell (some (.int t tt))) (hI2 : IntsAre pv [a, b, c, d]) (hb : (0 ≤ a ∧ a ≤ 7) ∧ (0 ≤ b ∧ b ≤ 7) ∧ (0 ≤ c ∧ c ≤ 7) ∧ (0 ≤ d ∧ d ≤ 7)) (ht : 1 ≤ t ∧ t ≤ 3) (hDp : Cells L Dp) (hDD : D ≠ Dp)
   (next : ∀ h' tk' (Dr : Nat) rv nr (m' : Str → Option Value), Fr h₀ L h' (fun y => if y = Str.ofString "rows" then some (.ref Dr) else if y = Str.ofString "gap" then some (.int g tg) else if y = Str.ofString "where" then some (.int wh wg) else if y = Str.ofString "ports" then some (.ref Dp) else m' y) →
     News h₀ L h' [(Dr, listOf (List.toArray rv) nr), (Dp, listOf pv.toArray np), (L + 1 + 1 + 1 + 1 + 1 + 1, w5), (L + 1 + 1 + 1 + 1 + 1, w4), (L + 1 + 1 + 1 + 1, w3), (L + 1 + 1 + 1, w2), (L + 1 + 1, w1), (L + 1, w0), (161, tabObj #[])] →
     StrsAre rv (([a.toNat, b.toNat, c.toNat, d.toNat].map fun k => if k = 0 then 0 else k + t.toNat).map rowS) → Cells L Dr → Dr ≠ Dp →
     wpAny (model Prg w) (callerA.deeper (lawEnv L fa)) (execs (lawTail 7) (lawEnv L fa)) Q E { s with heap := h', toks := tk' }) :
   wpAny (model Prg w) (callerA.deeper (lawEnv L fa)) (execs (lawTail 6) (lawEnv L fa)) Q E s := by
  have hz := hI.length
  have next' : Hold _ := next
  clear next
  conv in lawTail _ => unfold lawTail; arg 2; whnf
  dsimp only [lawEnv]
  obtain ⟨sc, hsc⟩ : ∃ sc, sc = lawScope := ⟨_, rfl⟩
  rw [← hsc]
  conv at hsc => rhs; whnf
  subst hsc
  dsimp only [List.drop]
  have hk10 : ∀ k ∈ [a.toNat, b.toNat, c.toNat, d.toNat].map (fun k => if k = 0 then 0 else k + t.toNat), k ≤ 10 := by
    intro k hk
    obtain ⟨j, hj, rfl⟩ := List.mem_map.mp hk
    simp only [List.mem_cons, List.not_mem_nil, or_false] at hj
    split <;> omega
  have uSp : UseSpl := ⟨⟩
  have uP : UseSent [a, b, c, d] := ⟨⟩
  have uS : UseStopIf := ⟨⟩
  k_steps
  all_goals
    rename Fr _ _ _ _ => F'
    rename News _ _ _ _ => N'
    rename StrsAre _ _ => hst2
    refine next' _ _ _ _ 0 _ F' (fun q hq => ?_) hst2 ?_ ?_
  all_goals first
    | (rcases List.mem_cons.mp hq with rfl | hq
       · exact N' _ (.head _)
       · rcases List.mem_cons.mp hq with rfl | hq
         · exact N' _ (.tail _ (.tail _ (.head _)))
         · exact N' _ (.tail _ (.tail _ (.tail _ (.tail _ hq)))))
    | (unfold Cells; refine ⟨?_, ?_, ?_, ?_, ?_, ?_, ?_⟩ <;> omega)
    | omega
end
section -- B14
theorem resetB14 : True := by
  w_top off
  trivial
noncomputable def gS (t : Int) (p : Int) : Str := if 0 < p then Txt.mul (Str.ofString ".") (p + t) else Str.ofString ""
noncomputable def rowSx (k : Nat) : Str := rowS k
theorem row_ok0 : ∀ k ∈ List.range 11, PyData.strOk (rowS k) = true := by decide +kernel
theorem rows_ok {ks : List Nat} (h : ∀ k ∈ ks, k ≤ 10) : ∀ y ∈ ks.map rowS, PyData.strOk y = true := by
  intro y hy
  obtain ⟨k, hk, rfl⟩ := List.mem_map.mp hy
  exact row_ok0 k (List.mem_range.mpr (by have := h k hk; omega))
theorem mul_rowS0 : ∀ b ∈ List.range 11, Txt.mul (Str.ofString ".") (b : Nat) = rowS b := by decide +kernel
theorem empty_rowS : Str.ofString "" = rowS 0 := by decide +kernel
theorem gS_row {t p : Int} (ht : 1 ≤ t ∧ t ≤ 3) (hp : 0 ≤ p ∧ p ≤ 7) : gS t p = rowS (if p.toNat = 0 then 0 else p.toNat + t.toNat) := by
  obtain ⟨p, rfl⟩ := Int.eq_ofNat_of_zero_le hp.1
  obtain ⟨t, rfl⟩ := Int.eq_ofNat_of_zero_le (show 0 ≤ t by omega)
  unfold gS
  rw [Int.toNat_natCast, Int.toNat_natCast]
  by_cases h : p = 0
  · subst h; exact empty_rowS
  · rw [if_pos (by omega), if_neg h, ← Int.natCast_add]
    exact mul_rowS0 _ (List.mem_range.mpr (by omega))
structure UseNs : Prop where
theorem ne_strs_same {prog : Program} {w : World} {A : Around} {E : Value → Shared → Prop} {s : Shared} {a b : Addr} {xs ys : List Value} {ns ms : List Str} {Q : Value → Shared → Prop} (_ : UseNs) (ha : s.heap.IsList a xs.toArray) (hb : s.heap.IsList b ys.toArray) (hi : StrsAre xs ns) (hj : StrsAre ys ms)
    (o1 : ∀ y ∈ ns, PyData.strOk y = true) (he : ns = ms) (hu : A.units + 64 < cLine) (h : Q (.bool false) s) :
    wpAny (model prog w) A (compareOp .NotEq (.ref a) (.ref b)) Q E s := ne_strs ha hb hi hj o1 (he ▸ o1) hu (by subst he; simpa using h)
local macro_rules | `(tactic| walk_at "compareOp NotEq ref ref") => `(tactic| (k_here; (rename UseNs => uN); k_dflt (refine' ne_strs_same uN (by is_list) (by is_list) (by assumption) (by assumption) (by assumption) (by assumption) (by units_room) ?_); clear uN))
theorem strs_app {vs : List Value} {ys : List Str} {y : Str} {t : Tok} (h : StrsAre vs ys) : StrsAre (vs ++ [.str y t]) (ys ++ [y]) := strs_snoc h
theorem take_snoc {α : Type} {l : List α} {i : Nat} {p : α} (h : l[i]? = some p) : l.take (i + 1) = l.take i ++ [p] := by rw [List.take_add_one, h]; rfl
set_option maxHeartbeats 4000000 in
theorem law4 {w : World} {loose : List Str} {mean : ExcName → Option Value} {mg mb : Str → Option Value} {p : Program}
   {L fa : Nat} {Q : Flow → Shared → Prop} {E : Value → Shared → Prop} {s : Shared} {h₀ : Heap} {m : Str → Option Value} {Dr : Nat} {rv pv : List Value} {nr np : Nat} {Dp : Nat} {a b c d wh g t : Int} {wg tg tt : Tok} {w0 w1 w2 w3 w4 w5 : Obj}
   (X : (hd.heap_39 w.params).In h₀) (T : Top p loose mean mg mb h₀) (C : CodeHd h₀ 163 161) (h161 : 161 < L)
   (F : Fr h₀ L s.heap fun y => if y = Str.ofString "rows" then some (.ref Dr) else if y = Str.ofString "gap" then some (.int g tg) else if y = Str.ofString "where" then some (.int wh wg) else if y = Str.ofString "ports" then some (.ref Dp) else m y)
   (N : News h₀ L s.heap [(Dr, listOf rv.toArray nr), (Dp, listOf pv.toArray np), (L + 1 + 1 + 1 + 1 + 1 + 1, w5), (L + 1 + 1 + 1 + 1 + 1, w4), (L + 1 + 1 + 1 + 1, w3), (L + 1 + 1 + 1, w2), (L + 1 + 1, w1), (L + 1, w0), (161, tabObj #[])])
   (hst : StrsAre rv (([a.toNat, b.toNat, c.toNat, d.toNat].map fun k => if k = 0 then 0 else k + t.toNat).map rowS))
   (d0 : w0.data = .cell (some (.int t tt))) (hI2 : IntsAre pv [a, b, c, d]) (hb : (0 ≤ a ∧ a ≤ 7) ∧ (0 ≤ b ∧ b ≤ 7) ∧ (0 ≤ c ∧ c ≤ 7) ∧ (0 ≤ d ∧ d ≤ 7)) (ht : 1 ≤ t ∧ t ≤ 3) (hDp : Cells L Dp) (hDr : Cells L Dr) (hDD : Dr ≠ Dp)
   (next : ∀ h' tk' (m' : Str → Option Value), Fr h₀ L h' (fun y => if y = Str.ofString "rows" then some (.ref Dr) else if y = Str.ofString "gap" then some (.int g tg) else if y = Str.ofString "where" then some (.int wh wg) else if y = Str.ofString "ports" then some (.ref Dp) else m' y) →
     News h₀ L h' [(Dr, listOf rv.toArray nr), (Dp, listOf pv.toArray np), (L + 1 + 1 + 1 + 1 + 1 + 1, w5), (L + 1 + 1 + 1 + 1 + 1, w4), (L + 1 + 1 + 1 + 1, w3), (L + 1 + 1 + 1, w2), (L + 1 + 1, w1), (L + 1, w0), (161, tabObj #[])] →
     wpAny (model Prg w) (callerA.deeper (lawEnv L fa)) (execs (lawTail 8) (lawEnv L fa)) Q E { s with heap := h', toks := tk' }) :
   wpAny (model Prg w) (callerA.deeper (lawEnv L fa)) (execs (lawTail 7) (lawEnv L fa)) Q E s := by
  have hz := hI2.length
  have next' : Hold _ := next
  clear next
  conv in lawTail _ => unfold lawTail; arg 2; whnf
  dsimp only [lawEnv]
  obtain ⟨sc, hsc⟩ : ∃ sc, sc = lawScope := ⟨_, rfl⟩
  rw [← hsc]
  conv at hsc => rhs; whnf
  subst hsc
  dsimp only [List.drop]
  have uS : UseStop (Str.ofString "shelf") := ⟨⟩
  have uC : UseC := ⟨⟩
  have uCU : UseCU := ⟨⟩
  have hbp : ∀ p ∈ [a, b, c, d], 0 ≤ p ∧ p ≤ 7 := by
    intro p hp
    simp only [List.mem_cons, List.not_mem_nil, or_false] at hp
    rcases hp with rfl | rfl | rfl | rfl <;> omega
  have hk10 : ∀ k ∈ [a.toNat, b.toNat, c.toNat, d.toNat].map (fun k => if k = 0 then 0 else k + t.toNat), k ≤ 10 := by
    intro k hk
    obtain ⟨j, hj, rfl⟩ := List.mem_map.mp hk
    simp only [List.mem_cons, List.not_mem_nil, or_false] at hj
    split <;> omega
  have hok := rows_ok hk10
  have heq : (([a.toNat, b.toNat, c.toNat, d.toNat].map fun k => if k = 0 then 0 else k + t.toNat).map rowS) = [a, b, c, d].map (gS t) := by
    simp only [List.map_cons, List.map_nil]
    rw [gS_row ht hb.1, gS_row ht hb.2.1, gS_row ht hb.2.2.1, gS_row ht hb.2.2.2]
  obtain ⟨rs, hrs⟩ : ∃ rs, rs = (([a.toNat, b.toNat, c.toNat, d.toNat].map fun k => if k = 0 then 0 else k + t.toNat).map rowS) := ⟨_, rfl⟩
  have hrs' : Hold (rs = (([a.toNat, b.toNat, c.toNat, d.toNat].map fun k => if k = 0 then 0 else k + t.toNat).map rowS)) := hrs
  rw [← hrs] at hst hok heq
  clear hrs hk10
  obtain ⟨ps, hps⟩ : ∃ ps, ps = [a, b, c, d] := ⟨_, rfl⟩
  rw [← hps] at hI2 hz hbp heq
  have hpl : ps.length = 4 := by rw [hps]; rfl
  have hps' : Hold (ps = [a, b, c, d]) := hps
  clear hps
  k_steps
  have ez : pv.toArray.size = ps.length := by rw [List.size_toArray]; exact hz
  rw [ez]
  refine compU_c (fun i ys => Hold (StrsAre ys ((ps.take i).map (gS t)))) StrsAre.nil (fun ys hJ => ?_) (fun i ys v I oI C' oC D m₂ h tk E' hi' hJ hv hC hx F N off ne => ?_)
  · have hJ : StrsAre ys ((ps.take ps.length).map (gS t)) := hJ
    rw [List.take_length] at hJ
    simp only [Cells] at hDr hDp
    have uN : UseNs := ⟨⟩
    k_steps
    rename Fr _ _ _ _ => F'
    rename News _ _ _ _ => N'
    exact next' _ _ _ F' (fun q hq => N' _ (.tail _ hq))
  · obtain ⟨n, tn, rfl, hn⟩ := hI2.at i v (by simpa using hv)
    have hn2 := hbp n (List.mem_of_getElem? hn)
    have offH : Hold (LCg.Off3 I C' D _) := off
    simp only [LCg.Off3, and_true] at off
    have uE : UseEnd := ⟨⟩
    clear heq hok hst hps' hrs'
    k_steps
    · show StrsAre _ _
      rw [take_snoc hn, List.map_append]
      have e : gS t n = Txt.mul (Str.ofString ".") (n + t) := if_pos (by assumption)
      rw [List.map_singleton, e]
      exact strs_snoc hJ
    · show StrsAre _ _
      rw [take_snoc hn, List.map_append]
      have e : gS t n = Str.ofString "" := if_neg (by assumption)
      rw [List.map_singleton, e]
      exact strs_snoc hJ
end
section -- B15
theorem resetB15 : True := by
  w_top off
  trivial
noncomputable def JSh (S : Nat) (rest : List (Addr × Obj)) (kr : List Nat) (Dp : Nat) (wh g : Int) (wg tg : Tok) : Inv := fun i m news => ∃ sv ss n, news = (S, listOf (List.toArray sv) n) :: rest ∧ IntsAre sv ss ∧ Rise ss ∧ ss.Perm ((kr.take i).map (fun (k : Nat) => (k : Int))) ∧ ss.length = i ∧
  m (Str.ofString "ports") = some (.ref Dp) ∧ m (Str.ofString "where") = some (.int wh wg) ∧ m (Str.ofString "gap") = some (.int g tg)
theorem strs_at : ∀ {vs : List Value} {ys : List Str}, StrsAre vs ys → ∀ (i : Nat) (v : Value), vs[i]? = some v → ∃ y t, v = .str y t ∧ ys[i]? = some y
  | _, _, .nil, i, v, h => by simp at h
  | _, _, .cons y t r, 0, v, h => by
    simp at h; exact ⟨y, t, h.symm, rfl⟩
  | _, _, .cons y t r, i + 1, v, h => by
    have := strs_at r i v (by simpa using h)
    simpa using this
theorem rowS_len (k : Nat) : (rowS k).length = k := by show (List.toArray (row k)).size = k; rw [List.size_toArray]; exact List.length_replicate
local macro_rules | `(tactic| walk_at "call ref") => `(tactic| (k_here; k_dflt (refine' use_insort_right (f := _) (h := ?_)); intro h' tk' vs' ns' n' F' N' hi' hs' hp'; (have hl' := List.Perm.length_eq hp'); (simp only [List.length_cons] at hl'); (try dsimp only)))
theorem len_row {prog : Program} {w : World} {A : Around} {E : Value → Shared → Prop} {s : Shared} {k : Nat} {t : Tok} {Q : Value → Shared → Prop} (hk : k ≤ 10) (h : ∀ t' tk, Q (.int (k : Int) t') { s with toks := tk }) :
    wpAny (model prog w) A (call (.builtin "len") [.str (rowS k) t]) Q E s := SBL.len (by rw [rowS_len]; omega) (by rw [rowS_len]; exact h _ _)
local macro_rules | `(tactic| walk_at "call builtin:len") => `(tactic| (k_here; k_dflt (refine len_row (by assumption) ?_); intro t' tk'))
set_option maxHeartbeats 4000000 in
theorem law5 {w : World} {loose : List Str} {mean : ExcName → Option Value} {mg mb : Str → Option Value} {p : Program}
   {L fa : Nat} {Q : Flow → Shared → Prop} {E : Value → Shared → Prop} {s : Shared} {h₀ : Heap} {m : Str → Option Value} {Dr : Nat} {rv pv : List Value} {nr np : Nat} {Dp : Nat} {a b c d wh g t : Int} {wg tg tt : Tok} {w0 w1 w2 w3 w4 w5 : Obj} {u1 : Option Value}
   (X : (hd.heap_39 w.params).In h₀) (T : Top p loose mean mg mb h₀) (C : CodeHd h₀ 163 161) (h161 : 161 < L)
   (F : Fr h₀ L s.heap fun y => if y = Str.ofString "rows" then some (.ref Dr) else if y = Str.ofString "gap" then some (.int g tg) else if y = Str.ofString "where" then some (.int wh wg) else if y = Str.ofString "ports" then some (.ref Dp) else m y)
   (N : News h₀ L s.heap [(Dr, listOf rv.toArray nr), (Dp, listOf pv.toArray np), (L + 1 + 1 + 1 + 1 + 1 + 1, w5), (L + 1 + 1 + 1 + 1 + 1, w4), (L + 1 + 1 + 1 + 1, w3), (L + 1 + 1 + 1, w2), (L + 1 + 1, w1), (L + 1, w0), (161, tabObj #[])])
   (hst : StrsAre rv (([a.toNat, b.toNat, c.toNat, d.toNat].map fun k => if k = 0 then 0 else k + t.toNat).map rowS))
   (d0 : w0.data = .cell (some (.int t tt))) (hI2 : IntsAre pv [a, b, c, d]) (hb : (0 ≤ a ∧ a ≤ 7) ∧ (0 ≤ b ∧ b ≤ 7) ∧ (0 ≤ c ∧ c ≤ 7) ∧ (0 ≤ d ∧ d ≤ 7)) (ht : 1 ≤ t ∧ t ≤ 3) (hDp : Cells L Dp) (hDr : Cells L Dr) (hDD : Dr ≠ Dp)
   (d1 : w1.data = .cell u1) (hE : PassesOwn (model Prg w) (callerA.deeper (lawEnv L fa)) (lawEnv L fa) E)
   (next : ∀ h' tk' (S : Nat) sv ss ns o1 (m' : Str → Option Value), Fr h₀ L h' (fun y => if y = Str.ofString "gap" then some (.int g tg) else if y = Str.ofString "where" then some (.int wh wg) else if y = Str.ofString "ports" then some (.ref Dp) else m' y) →
     News h₀ L h' [(S, listOf (List.toArray sv) ns), (Dp, listOf pv.toArray np), (L + 1 + 1 + 1 + 1 + 1 + 1, w5), (L + 1 + 1 + 1 + 1 + 1, w4), (L + 1 + 1 + 1 + 1, w3), (L + 1 + 1 + 1, w2), (L + 1 + 1, o1), (L + 1, w0), (161, tabObj #[])] →
     o1.data = .cell (some (.ref S)) → IntsAre sv ss → Rise ss → ss.Perm (([a.toNat, b.toNat, c.toNat, d.toNat].map fun k => if k = 0 then 0 else k + t.toNat).map (fun (k : Nat) => (k : Int))) → Cells L S → S ≠ Dp →
     wpAny (model Prg w) (callerA.deeper (lawEnv L fa)) (execs (lawTail 10) (lawEnv L fa)) Q E { s with heap := h', toks := tk' }) :
   wpAny (model Prg w) (callerA.deeper (lawEnv L fa)) (execs (lawTail 8) (lawEnv L fa)) Q E s := by
  have hz := hI2.length
  have next' : Hold _ := next
  clear next
  conv in lawTail _ => unfold lawTail; arg 2; whnf
  dsimp only [lawEnv]
  obtain ⟨sc, hsc⟩ : ∃ sc, sc = lawScope := ⟨_, rfl⟩
  rw [← hsc]
  conv at hsc => rhs; whnf
  subst hsc
  dsimp only [List.drop]
  simp only [Cells] at hDr hDp
  obtain ⟨kr, hkr⟩ : ∃ kr, kr = ([a.toNat, b.toNat, c.toNat, d.toNat].map fun k => if k = 0 then 0 else k + t.toNat) := ⟨_, rfl⟩
  have hkl : kr.length = 4 := by rw [hkr]; rfl
  rw [← hkr] at hst
  have hkr' : Hold (kr = ([a.toNat, b.toNat, c.toNat, d.toNat].map fun k => if k = 0 then 0 else k + t.toNat)) := hkr
  clear hkr
  have hk10 : ∀ k ∈ kr, k ≤ 10 := by
    rw [hkr']
    intro k hk
    obtain ⟨j, hj, rfl⟩ := List.mem_map.mp hk
    simp only [List.mem_cons, List.not_mem_nil, or_false] at hj
    split <;> omega
  obtain ⟨ps, hps⟩ : ∃ ps, ps = [a, b, c, d] := ⟨_, rfl⟩
  rw [← hps] at hI2 hz
  have hpl : ps.length = 4 := by rw [hps]; rfl
  clear hps
  have hst' : Hold (StrsAre rv (kr.map rowS)) := hst
  have hrl : rv.length = 4 := by rw [hst.length, List.length_map, hkl]
  clear hst
  have uS : UseStopFor := ⟨⟩
  k_steps
  rename Fr _ _ _ _ => F1
  rename News _ _ _ _ => N1
  rename _ = Data.cell (some _) => e1
  rename Obj => o1
  rename_i S h1 l1 h2
  unfold Hold
  have uL : UseLd := ⟨⟩
  have hS : Cells L S := by unfold Cells; refine ⟨?_, ?_, ?_, ?_, ?_, ?_, ?_⟩ <;> omega
  have hSD : @Ne Nat S Dp := by omega
  have hSR : @Ne Nat S Dr := by omega
  have hS' := hS
  simp only [Cells] at hS'
  obtain ⟨rest, hrest⟩ : ∃ rest, rest = [(Dr, listOf rv.toArray nr), (Dp, listOf pv.toArray np), (L + 1 + 1 + 1 + 1 + 1 + 1, w5), (L + 1 + 1 + 1 + 1 + 1, w4), (L + 1 + 1 + 1 + 1, w3), (L + 1 + 1 + 1, w2), (L + 1 + 1, o1), (L + 1, w0), (161, tabObj #[])] := ⟨_, rfl⟩
  have mkF : UseF (JSh S rest kr Dp wh g wg tg) rv.length := ⟨⟩
  k_steps
  · subst hrest
    exact ⟨_, [], 0, rfl, .nil, .nil, .nil, rfl, rfl, rfl, rfl⟩
  · rintro i m news ⟨sv, ss, n, rfl, _⟩
    rw [hrest]; exact .tail _ (.head _)
  · intro i v m₁ news₁ h tk I it hv hJ off F₁ N₁
    obtain ⟨sv, ss, n, rfl, hi, hri, hpe, hle, q1, q2, q3⟩ := hJ
    have hst : StrsAre rv (kr.map rowS) := hst'
    obtain ⟨y, ty, rfl, hy⟩ := strs_at hst i v hv
    obtain ⟨k, hk, rfl⟩ : ∃ k, kr[i]? = some k ∧ y = rowS k := by
      rw [List.getElem?_map] at hy
      cases hq : kr[i]? with
      | none => rw [hq] at hy; cases hy
      | some k => rw [hq] at hy; exact ⟨k, rfl, (Option.some.inj hy).symm⟩
    clear hst hy
    have hkk : k ≤ 10 := hk10 k (List.mem_of_getElem? hk)
    have o0 : @Ne Nat S I := off _ (.head _)
    have offr : ∀ p ∈ rest, p.1 ≠ I := fun p hp => off p (.tail _ hp)
    rw [hrest] at N₁ offr
    simp only [List.mem_cons, List.not_mem_nil, or_false, forall_eq_or_imp, forall_eq] at offr
    have hil : i < 4 := by
      obtain ⟨this, _⟩ := List.getElem?_eq_some_iff.mp hv
      omega
    k_steps
    rename Fr _ _ _ _ => F'
    rename News _ _ _ _ => N'
    rename Rise _ => hri'
    rename List.Perm _ (_ :: ss) => hpe'
    rename IntsAre _ _ => hi'
    rename Nat => n2
    refine UnrEnd.intro F' N' ((S, listOf (List.toArray _) n2) :: rest) (fun p hp => ?_) (fun p hp => ?_) ⟨_, _, n2, rfl, hi', hri', ?_, ?_, q1, q2, q3⟩
    · rw [hrest] at hp; exact hp
    · rcases List.mem_cons.mp hp with rfl | hp
      · exact o0
      · exact off p (.tail _ hp)
    · rw [take_snoc hk, List.map_append]
      exact hpe'.trans ((hpe.cons _).trans (List.perm_append_comm (l₁ := [_])))
    · rw [hpe'.length_eq, List.length_cons, hle]
  · intro m₁ news₁ h tk hJ F₁ N₁
    obtain ⟨sv, ss, n, rfl, hi, hri, hpe, hle, q1, q2, q3⟩ := hJ
    rw [hrl, List.take_of_length_le (by omega)] at hpe
    have F2 := frSeen F₁ [(Str.ofString "gap", _), (Str.ofString "where", _), (Str.ofString "ports", _)] (by
      intro p hp
      simp only [List.mem_cons, List.not_mem_nil, or_false] at hp
      rcases hp with rfl | rfl | rfl
      · exact q3
      · exact q2
      · exact q1)
    rw [hrest] at N₁
    refine next' _ _ S sv ss n o1 _ F2 (fun q hq => ?_) e1 hi hri (by rw [← hkr']; exact hpe) hS hSD
    rcases List.mem_cons.mp hq with rfl | hq
    · exact N₁ _ (.head _)
    · exact N₁ _ (.tail _ (.tail _ hq))
end
local macro_rules | `(tactic| walk_at "no such node") => `(tactic| skip)
section -- B16
theorem resetB16 : True := by
  w_top off
  trivial
structure UsePr : Prop where
theorem use_product {w : World} {p : Program} {loose : List Str} {mean : ExcName → Option Value} {mg mb : Str → Option Value}
   {dp un : Nat} {gd : Option (List Code)} {fr : Option (List Env)} {s : Shared} {Q E : Value → Shared → Prop} {h₀ : Heap} {L : Addr} {m : Str → Option Value} {news : List (Addr × Obj)}
   {l : Addr} {nl : Nat} {vs : List Value} {ps : List Int} {t wh g : Int} {tt tw tg : Tok} (_ : UsePr)
   (F : Fr h₀ L s.heap m := by k_asm) (N : News h₀ L s.heap news := by k_asm) (X : (hd.heap_39 w.params).In h₀ := by k_asm) (T : Top p loose mean mg mb h₀ := by k_asm)
   (hp : (l, listOf vs.toArray nl) ∈ news := by k_mem) (hi : IntsAre vs ps := by assumption) (hlen : ps.length < 100 := by omega) (hb : ∀ x ∈ ps, 0 ≤ x ∧ x ≤ 7 := by assumption) (ht : 1 ≤ t ∧ t ≤ 3 := by assumption) (hw : 0 ≤ wh ∧ wh ≤ 7 := by assumption) (hgp : 0 ≤ g ∧ g ≤ 3 := by assumption)
   (hd1 : dp + 2 < recursionLimit := by ktr_room) (hu : un + 16 < cLine := by ktr_units)
   (ret : ∀ D h' tk' vs' n', Fr h₀ L h' m → News h₀ L h' ((D, listOf (List.toArray vs') n') :: news) → LCg.Off1 D news → IntsAre vs' (prodAll ps t wh g) → Q (.ref D) { s with heap := h', toks := tk' }) :
   wpAny (model Prg w) ⟨none, dp, fr, gd, un⟩ (call (.ref 147) [.ref l, .int t tt, .int wh tw, .int g tg]) Q E s :=
  c_product (X.keeps F.keep) (T.keeps F.keep) (N _ hp).1 hi hlen hb ht hw hgp hd1 hu fun D h' tk' vs' n' e hD hn hi' => by
    obtain ⟨F', N', o⟩ := after_news F N e hD hn
    exact ret D h' tk' vs' n' F' N' o hi'
local macro_rules | `(tactic| walk_at "call ref") => `(tactic| (k_here; (rename UsePr => uP); k_dflt (refine' use_product uP (ret := ?_)); intro D' h' tk' vs' n' F' N' off' hi'; (simp only [LCg.Off1, and_true] at off'); clear uP; (try dsimp only)))
structure UseLr : Prop where
local macro_rules | `(tactic| walk_at "call type:list") => `(tactic| (k_here; (rename UseLr => uL); (rename IsRange _ _ _ _ _ _ _ _ => rgX); (with_unfolding_all refine' kll_range (n := 12) (by rfl) (by k_asm) (by k_asm) (by exact rgX) (by decide) (by decide) (by decide) ?_); intro D' vs' c' h' tk' F' N' l1 hI'; clear uL; (try k_lt l1)))
set_option maxHeartbeats 4000000 in
theorem law6 {w : World} {loose : List Str} {mean : ExcName → Option Value} {mg mb : Str → Option Value} {p : Program}
   {L fa : Nat} {Q : Flow → Shared → Prop} {E : Value → Shared → Prop} {s : Shared} {h₀ : Heap} {m : Str → Option Value} {S Dp : Nat} {sv pv : List Value} {ns np : Nat} {ps : List Int} {wh g t : Int} {wg tg tt : Tok} {w0 w1 w2 w3 w4 w5 : Obj} {u2 u3 : Option Value}
   (X : (hd.heap_39 w.params).In h₀) (T : Top p loose mean mg mb h₀) (C : CodeHd h₀ 163 161) (h161 : 161 < L)
   (F : Fr h₀ L s.heap fun y => if y = Str.ofString "gap" then some (.int g tg) else if y = Str.ofString "where" then some (.int wh wg) else if y = Str.ofString "ports" then some (.ref Dp) else m y)
   (N : News h₀ L s.heap [(S, listOf (List.toArray sv) ns), (Dp, listOf pv.toArray np), (L + 1 + 1 + 1 + 1 + 1 + 1, w5), (L + 1 + 1 + 1 + 1 + 1, w4), (L + 1 + 1 + 1 + 1, w3), (L + 1 + 1 + 1, w2), (L + 1 + 1, w1), (L + 1, w0), (161, tabObj #[])])
   (d0 : w0.data = .cell (some (.int t tt))) (d1 : w1.data = .cell (some (.ref S))) (d2 : w2.data = .cell u2) (d3 : w3.data = .cell u3)
   (hI2 : IntsAre pv ps) (hpl : ps.length = 4) (hb : ∀ x ∈ ps, 0 ≤ x ∧ x ≤ 7) (ht : 1 ≤ t ∧ t ≤ 3) (hw : 0 ≤ wh ∧ wh ≤ 7) (hg : 0 ≤ g ∧ g ≤ 3) (hDp : Cells L Dp) (hS : Cells L S) (hSD : S ≠ Dp)
   (next : ∀ h' tk' (P Cf : Nat) (plv cv : List Value) npl nc (o2 o3 : Obj) (m' : Str → Option Value), Fr h₀ L h' (fun y => if y = Str.ofString "gap" then some (.int g tg) else if y = Str.ofString "where" then some (.int wh wg) else m' y) →
     News h₀ L h' [(P, listOf (List.toArray plv) npl), (Cf, listOf (List.toArray cv) nc), (S, listOf (List.toArray sv) ns), (L + 1 + 1 + 1 + 1 + 1 + 1, w5), (L + 1 + 1 + 1 + 1 + 1, w4), (L + 1 + 1 + 1 + 1, o3), (L + 1 + 1 + 1, o2), (L + 1 + 1, w1), (L + 1, w0), (161, tabObj #[])] →
     o2.data = .cell (some (.ref Cf)) → o3.data = .cell (some (.ref P)) → IntsAre plv (rangeKs (-1) 12) → IntsAre cv (prodAll ps t wh g) → Cells L P → Cells L Cf → P ≠ Cf → P ≠ S → Cf ≠ S →
     wpAny (model Prg w) (callerA.deeper (lawEnv L fa)) (execs (lawTail 12) (lawEnv L fa)) Q E { s with heap := h', toks := tk' }) :
   wpAny (model Prg w) (callerA.deeper (lawEnv L fa)) (execs (lawTail 10) (lawEnv L fa)) Q E s := by
  have hz := hI2.length
  have next' : Hold _ := next
  clear next
  conv in lawTail _ => unfold lawTail; arg 2; whnf
  dsimp only [lawEnv]
  obtain ⟨sc, hsc⟩ : ∃ sc, sc = lawScope := ⟨_, rfl⟩
  rw [← hsc]
  conv at hsc => rhs; whnf
  subst hsc
  dsimp only [List.drop]
  simp only [Cells] at hDp hS
  have uP : UsePr := ⟨⟩
  have uL : UseLr := ⟨⟩
  have uS : UseStop (Str.ofString "changes") := ⟨⟩
  k_steps
  rename Fr _ _ _ _ => F1
  rename News _ _ _ _ => N1
  rename IntsAre _ (rangeKs _ _) => hP1
  rename IntsAre _ (prodAll _ _ _ _) => hC1
  rename_i Cf h4 tk1 vs1 h3 o2 e2 h2 tk2 t1 u1 v1 a1 hh o3 e3
  refine next' _ _ D' Cf vs' vs1 c' n' o2 o3 _ F1 (fun q hq => ?_) e2 e3 hP1 hC1 ?_ ?_ ?_ ?_ ?_
  · rcases List.mem_cons.mp hq with rfl | hq
    · exact N1 _ (.head _)
    · rcases List.mem_cons.mp hq with rfl | hq
      · exact N1 _ (.tail _ (.head _))
      · rcases List.mem_cons.mp hq with rfl | hq
        · exact N1 _ (.tail _ (.tail _ (.head _)))
        · exact N1 _ (.tail _ (.tail _ (.tail _ (.tail _ hq))))
  · unfold Cells; refine ⟨?_, ?_, ?_, ?_, ?_, ?_, ?_⟩ <;> omega
  · unfold Cells; refine ⟨?_, ?_, ?_, ?_, ?_, ?_, ?_⟩ <;> omega
  · show @Ne Nat _ _; omega
  · show @Ne Nat _ _; omega
  · show @Ne Nat _ _; omega
end
local macro_rules | `(tactic| walk_at "no such node") => `(tactic| skip)
section -- B17
theorem resetB17 : True := by
  w_top off
  trivial
local macro_rules | `(tactic| walk_at "call ref") => `(tactic| (k_here; k_dflt (refine' use_moved (by k_asm) (by k_asm) (by k_asm) (by k_asm) (by is_list) (by assumption) (by assumption) (by omega) (by omega) (by ktr_room) (by ktr_units) ?_); intro D' h' tk' vs' n' F' N' off' rs' ers' hrs' hi'; (simp only [LCg.Off1, and_true] at off'); (have hl' := hi'.length); (try dsimp only)))
theorem use_changes {w : World} {p : Program} {loose : List Str} {mean : ExcName → Option Value} {mg mb : Str → Option Value}
   {dp un : Nat} {gd : Option (List Code)} {fr : Option (List Env)} {s : Shared} {Q E : Value → Shared → Prop} {h₀ : Heap} {L : Addr} {m : Str → Option Value} {news : List (Addr × Obj)}
   {l : Addr} {vs : List Value} {cs : List Int}
   (F : Fr h₀ L s.heap m) (N : News h₀ L s.heap news) (X : (hd.heap_39 w.params).In h₀) (T : Top p loose mean mg mb h₀)
   (hl : s.heap.IsList l vs.toArray) (hi : IntsAre vs cs) (hlen : cs.length < 800)
   (hd1 : dp + 1 < recursionLimit) (hu : un + 8 < cLine)
   (ret : ∀ h' tk' t, Fr h₀ L h' m → News h₀ L h' news → Q (.int (var cs : Nat) t) { s with heap := h', toks := tk' }) :
   wpAny (model Prg w) ⟨none, dp, fr, gd, un⟩ (call (.ref 152) [.ref l]) Q E s :=
  c_changes (X.keeps F.keep) (T.keeps F.keep) hl hi hlen hd1 hu fun h' tk' t e => ret h' tk' t (F.keeps e) (N.grown e)
local macro_rules | `(tactic| walk_at "call ref") => `(tactic| (k_here; k_dflt (refine' use_changes (by k_asm) (by k_asm) (by k_asm) (by k_asm) (by is_list) (by assumption) (by omega) (by ktr_room) (by ktr_units) ?_); intro h' tk' t' F' N'; (try dsimp only)))
theorem rangeKs_at {i : Nat} {n a : Int} {m : Nat} (h : (rangeKs a m)[i]? = some n) : n = a + i ∧ i < m := by
  have hl : i < (rangeKs a m).length := (List.getElem?_eq_some_iff.mp h).1
  rw [rangeKs_length] at hl
  refine ⟨?_, hl⟩
  unfold rangeKs at h
  rw [List.getElem?_map, List.getElem?_range hl] at h
  exact (Option.some.inj h).symm
set_option maxHeartbeats 4000000 in
theorem law7 {w : World} {loose : List Str} {mean : ExcName → Option Value} {mg mb : Str → Option Value} {p : Program}
   {L fa : Nat} {Q : Flow → Shared → Prop} {E : Value → Shared → Prop} {s : Shared} {h₀ : Heap} {m : Str → Option Value} {S P Cf : Nat} {sv plv cv : List Value} {ns npl nc : Nat} {cs : List Int} {wh g t : Int} {wg tg tt : Tok} {w0 w1 w2 w3 w4 w5 : Obj} {u4 : Option Value}
   (X : (hd.heap_39 w.params).In h₀) (T : Top p loose mean mg mb h₀) (C : CodeHd h₀ 163 161) (h161 : 161 < L)
   (F : Fr h₀ L s.heap fun y => if y = Str.ofString "gap" then some (.int g tg) else if y = Str.ofString "where" then some (.int wh wg) else m y)
   (N : News h₀ L s.heap [(P, listOf (List.toArray plv) npl), (Cf, listOf (List.toArray cv) nc), (S, listOf (List.toArray sv) ns), (L + 1 + 1 + 1 + 1 + 1 + 1, w5), (L + 1 + 1 + 1 + 1 + 1, w4), (L + 1 + 1 + 1 + 1, w3), (L + 1 + 1 + 1, w2), (L + 1 + 1, w1), (L + 1, w0), (161, tabObj #[])])
   (d1 : w1.data = .cell (some (.ref S))) (d2 : w2.data = .cell (some (.ref Cf))) (d3 : w3.data = .cell (some (.ref P))) (d4 : w4.data = .cell u4)
   (hP : IntsAre plv (rangeKs (-1) 12)) (hC : IntsAre cv cs) (hcl : cs.length < 800) (hPc : Cells L P) (hCc : Cells L Cf) (hS : Cells L S) (hPC : P ≠ Cf) (hPS : P ≠ S) (hCS : Cf ≠ S)
   (next : ∀ h' tk' (G : Nat) (gv : List Value) ng (o4 : Obj) (m' : Str → Option Value), Fr h₀ L h' (fun y => if y = Str.ofString "gap" then some (.int g tg) else if y = Str.ofString "where" then some (.int wh wg) else m' y) →
     News h₀ L h' [(G, listOf (List.toArray gv) ng), (P, listOf (List.toArray plv) npl), (S, listOf (List.toArray sv) ns), (L + 1 + 1 + 1 + 1 + 1 + 1, w5), (L + 1 + 1 + 1 + 1 + 1, o4), (L + 1 + 1 + 1 + 1, w3), (L + 1 + 1 + 1, w2), (L + 1 + 1, w1), (L + 1, w0), (161, tabObj #[])] →
     o4.data = .cell (some (.ref G)) → IntsAre gv ((rangeKs (-1) 12).map fun c => ((var (sh c cs) : Nat) : Int)) → Cells L G → G ≠ P → G ≠ S →
     wpAny (model Prg w) (callerA.deeper (lawEnv L fa)) (execs (lawTail 13) (lawEnv L fa)) Q E { s with heap := h', toks := tk' }) :
   wpAny (model Prg w) (callerA.deeper (lawEnv L fa)) (execs (lawTail 12) (lawEnv L fa)) Q E s := by
  have next' : Hold _ := next
  clear next
  conv in lawTail _ => unfold lawTail; arg 2; whnf
  dsimp only [lawEnv]
  obtain ⟨sc, hsc⟩ : ∃ sc, sc = lawScope := ⟨_, rfl⟩
  rw [← hsc]
  conv at hsc => rhs; whnf
  subst hsc
  dsimp only [List.drop]
  simp only [Cells] at hPc hCc hS
  have uS : UseStop (Str.ofString "found") := ⟨⟩
  have uC : UseC := ⟨⟩
  have uCU : UseCU := ⟨⟩
  have hpl : plv.length = 12 := by rw [hP.length, rangeKs_length]
  k_steps
  have ez : plv.toArray.size = 12 := by rw [List.size_toArray]; exact hpl
  rw [ez]
  refine compU_c (fun i ys => Hold (IntsAre ys (((rangeKs (-1) 12).take i).map fun c => ((var (sh c cs) : Nat) : Int)))) IntsAre.nil (fun ys hJ => ?_) (fun i ys v I oI C' oC D m₂ h tk E' hi' hJ hv hCo hx F N off ne => ?_)
  · have hJ : IntsAre ys (((rangeKs (-1) 12).take 12).map fun c => ((var (sh c cs) : Nat) : Int)) := hJ
    rw [List.take_of_length_le (by rw [rangeKs_length]; exact Nat.le_refl _)] at hJ
    k_steps
    rename Fr _ _ _ _ => F'
    rename News _ _ _ _ => N'
    rename_i hh o4 e4
    refine next' _ _ D' ys ys.length o4 _ F' (fun q hq => ?_) e4 hJ ?_ ?_ ?_
    · rcases List.mem_cons.mp hq with rfl | hq
      · exact N' _ (.head _)
      · rcases List.mem_cons.mp hq with rfl | hq
        · exact N' _ (.tail _ (.head _))
        · exact N' _ (.tail _ (.tail _ (.tail _ hq)))
    · unfold Cells; refine ⟨?_, ?_, ?_, ?_, ?_, ?_, ?_⟩ <;> omega
    · show @Ne Nat _ _; omega
    · show @Ne Nat _ _; omega
  · obtain ⟨n, tn, rfl, hn⟩ := hP.at i v (by simpa using hv)
    obtain ⟨hn1, hn2⟩ := rangeKs_at hn
    have offH : Hold (LCg.Off3 I C' D _) := off
    simp only [LCg.Off3, and_true] at off
    have hsl : (sh n cs).length < 800 := by rw [sh_length n _ cs rfl]; exact hcl
    have uE : UseEnd := ⟨⟩
    k_steps
    show IntsAre _ _
    rename _ = sh n cs => hrs
    subst hrs
    rw [take_snoc hn, List.map_append]
    exact IntsAre.append hJ (.cons _ _ .nil)
end
section -- B18
theorem resetB18 : True := by
  w_top off
  trivial
local macro_rules | `(tactic| walk_at "eval ListComp") => `(tactic| (k_here; (rename UseRg _ _ => cX); k_dflt (refine ListComp_R (F₀ := by k_asm) (by with_unfolding_all rfl) (by decide) (by rfl) (by decide) (by rfl) ?_)))
local macro_rules | `(tactic| walk_at "RgSrc") => `(tactic| (k_here; (rename UseRg _ _ => cX); (rename Fr _ _ _ _ => lF'); (rename News _ _ _ _ => lN'); k_dflt (refine RgSrc.intro cX (by rfl) lF' lN' (by assumption) (by decide) (by decide) (by rw [sizeLine_eq]; decide) ?_ ?_ ?_)))
local macro_rules | `(tactic| walk_at "eval Lambda") => `(tactic| (k_here; k_dflt (refine' kla_eval (by exact rfl) ?_); (first | (k_dflt (refine' lam_new (h := ?_); k_whole); intro f' c' oc' vs' t' ct' h' tk' F' N' d1' d2' l1 l2; (try dsimp only at N'); (try k_lt l1); (try k_lt2 l2)) | (k_dflt (refine' lam_hit (h := ?_); k_whole); intro f' ct' h' tk' F' N' l1; (try dsimp only at N'); (try k_lt l1)))))
structure UseBk : Prop where
theorem use_bis {w : World} {p : Program} {loose : List Str} {mean : ExcName → Option Value} {mg mb : Str → Option Value}
   {dp un : Nat} {gd : Option (List Code)} {fr : Option (List Env)} {s : Shared} {Q E : Value → Shared → Prop} {h₀ : Heap} {L : Addr} {m : Str → Option Value} {news : List (Addr × Obj)}
   {l q : Addr} {vs : List Value} {ns : List Int} {x : Int} {tx : Tok} {o : Obj} (_ : UseBk)
   (F : Fr h₀ L s.heap m) (N : News h₀ L s.heap news) (X : (hd.heap_39 w.params).In h₀) (T : Top p loose mean mg mb h₀)
   (hl : s.heap.IsList l vs.toArray) (hi : IntsAre vs ns) (hlen : ns.length = 12) (hs : ∀ i j : Nat, i ≤ j → j < ns.length → ns.getD j 0 ≤ ns.getD i 0) (hlast : ns.getD 11 0 = 0) (hx : x ≤ 0)
   (hq : (q, o) ∈ news) (hqf : ∃ cls od fd sl, o = ⟨cls, od, .func fd, sl⟩)
   (key : Hold (KeyCalls w (dp + 1) (un + 3) q s.heap))
   (hd1 : dp + 1 < recursionLimit) (hu : un + 8 < cLine)
   (ret : ∀ h' tk' (r : Nat) t, Fr h₀ L h' m → News h₀ L h' news → r < 12 → (∀ i : Nat, i < r → -(ns.getD i 0) < x) → (∀ i : Nat, r ≤ i → i < 12 → x ≤ -(ns.getD i 0)) → Q (.int r t) { s with heap := h', toks := tk' }) :
   wpAny (model Prg w) ⟨none, dp, fr, gd, un⟩ (call (.ref 67) [.ref l, .int x tx] [(Str.ofString "key", .ref q)]) Q E s := by
  obtain ⟨a1, a2, a3, a4, rfl⟩ := hqf
  refine c_bisect_key (X.keeps F.keep) (T.keeps F.keep) hl hi (by omega) hs ⟨_, _, _, _, (N _ hq).1⟩ key hd1 hu fun h' tk' r t e h1 h2 h3 => ?_
  have hr : r < 12 := by
    refine Nat.lt_of_not_le fun q => ?_
    have := h2 11 (by omega)
    omega
  exact ret h' tk' r t (F.keeps e) (N.grown e) hr h2 fun i a b => h3 i a (by omega)
local macro_rules | `(tactic| walk_at "call ref") => `(tactic| (k_here; (rename UseBk => uB); k_dflt (refine' use_bis uB (by k_asm) (by k_asm) (by k_asm) (by k_asm) (by is_list) (by assumption) (by assumption) (by assumption) (by assumption) (by omega) (by k_mem) (by exact ⟨_, _, _, _, rfl⟩) ?_ (by ktr_room) (by ktr_units) ?_); rotate_left; intro h' tk' r' t' F' N' hr1 hr2 hr3; (try dsimp only)))
noncomputable def IsFound (ns : List Int) (x : Int) (f : Int) : Prop := ∃ r : Nat, r < 12 ∧ f = -1 + (r : Int) ∧ (∀ i : Nat, i < r → -(ns.getD i 0) < x) ∧ (∀ i : Nat, r ≤ i → i < 12 → x ≤ -(ns.getD i 0))
noncomputable def JFound (L : Nat) (G P S : Nat) (ns : List Int) (qual : Str) (base : Obj → List (Addr × Obj)) (line col : Int) : Nat → List Value → List (Addr × Obj) → Prop := fun i ys nw =>
  (i = 0 ∧ ys = [] ∧ nw = base (tabObj #[])) ∨ (0 < i ∧ ∃ c' : Nat, ∃ oc vs t fs, nw = (c', oc) :: base (tabObj #[rawInt line, rawInt col, .ref c']) ∧ oc.data = .fields vs ∧ vs[1]? = some (.str qual t) ∧ Cells L c' ∧ c' ≠ G ∧ c' ≠ P ∧ c' ≠ S ∧
    IntsAre ys fs ∧ fs.length = i ∧ ∀ j, j < i → IsFound ns (-(5 - (j : Int))) (fs.getD j 0))
set_option maxHeartbeats 4000000 in
theorem law8 {w : World} {loose : List Str} {mean : ExcName → Option Value} {mg mb : Str → Option Value} {p : Program}
   {L fa : Nat} {Q : Flow → Shared → Prop} {E : Value → Shared → Prop} {s : Shared} {h₀ : Heap} {m : Str → Option Value} {S P G : Nat} {sv plv gv : List Value} {n1 npl ng : Nat} {ns : List Int} {wh g t : Int} {wg tg tt : Tok} {w0 w1 w2 w3 w4 w5 : Obj} {u5 : Option Value}
   (X : (hd.heap_39 w.params).In h₀) (T : Top p loose mean mg mb h₀) (C : CodeHd h₀ 163 161) (h161 : 161 < L)
   (F : Fr h₀ L s.heap fun y => if y = Str.ofString "gap" then some (.int g tg) else if y = Str.ofString "where" then some (.int wh wg) else m y)
   (N : News h₀ L s.heap [(G, listOf (List.toArray gv) ng), (P, listOf (List.toArray plv) npl), (S, listOf (List.toArray sv) n1), (L + 1 + 1 + 1 + 1 + 1 + 1, w5), (L + 1 + 1 + 1 + 1 + 1, w4), (L + 1 + 1 + 1 + 1, w3), (L + 1 + 1 + 1, w2), (L + 1 + 1, w1), (L + 1, w0), (161, tabObj #[])])
   (d1 : w1.data = .cell (some (.ref S))) (d3 : w3.data = .cell (some (.ref P))) (d4 : w4.data = .cell (some (.ref G))) (d5 : w5.data = .cell u5)
   (hP : IntsAre plv (rangeKs (-1) 12)) (hG : IntsAre gv ns) (hnl : ns.length = 12) (hs : ∀ i j : Nat, i ≤ j → j < ns.length → ns.getD j 0 ≤ ns.getD i 0) (hlast : ns.getD 11 0 = 0)
   (hPc : Cells L P) (hGc : Cells L G) (hS : Cells L S) (hGP : G ≠ P) (hGS : G ≠ S) (hPS : P ≠ S)
   (next : ∀ h' tk' (Fd : Nat) fv nf fs (o5 : Obj) ps (m' : Str → Option Value), Fr h₀ L h' (fun y => if y = Str.ofString "gap" then some (.int g tg) else if y = Str.ofString "where" then some (.int wh wg) else m' y) →
     News h₀ L h' [(Fd, listOf (List.toArray fv) nf), (P, listOf (List.toArray plv) npl), (S, listOf (List.toArray sv) n1), (L + 1 + 1 + 1 + 1 + 1 + 1, o5), (L + 1 + 1 + 1 + 1 + 1, w4), (L + 1 + 1 + 1 + 1, w3), (L + 1 + 1 + 1, w2), (L + 1 + 1, w1), (L + 1, w0), (161, tabObj ps)] →
     o5.data = .cell (some (.ref Fd)) → IntsAre fv fs → fs.length = 6 → (∀ j : Nat, j < 6 → IsFound ns (-(5 - (j : Int))) (fs.getD j 0)) → Cells L Fd → Fd ≠ P → Fd ≠ S →
     wpAny (model Prg w) (callerA.deeper (lawEnv L fa)) (execs (lawTail 14) (lawEnv L fa)) Q E { s with heap := h', toks := tk' }) :
   wpAny (model Prg w) (callerA.deeper (lawEnv L fa)) (execs (lawTail 13) (lawEnv L fa)) Q E s := by
  have next' : Hold _ := next
  clear next
  conv in lawTail _ => unfold lawTail; arg 2; whnf
  dsimp only [lawEnv]
  obtain ⟨sc, hsc⟩ : ∃ sc, sc = lawScope := ⟨_, rfl⟩
  rw [← hsc]
  conv at hsc => rhs; whnf
  subst hsc
  dsimp only [List.drop]
  simp only [Cells] at hPc hGc hS
  obtain ⟨pc0, pc1, pc2, pc3, pc4, pc5, pc6⟩ := hPc
  obtain ⟨gc0, gc1, gc2, gc3, gc4, gc5, gc6⟩ := hGc
  obtain ⟨sc0, sc1, sc2, sc3, sc4, sc5, sc6⟩ := hS
  have hL161 : L ≠ 161 := by omega
  have uS : UseStop (Str.ofString "twins") := ⟨⟩
  have hpl : plv.length = 12 := by rw [hP.length, rangeKs_length]
  have uB : UseBk := ⟨⟩
  have uR : UseRg 6 (JFound L G P S ns (Str.ofString "law" ++ Str.ofString ".<locals>." ++ Str.ofString "<lambda>") (fun o => [(G, listOf (List.toArray gv) ng), (P, listOf (List.toArray plv) npl), (S, listOf (List.toArray sv) n1), (L + 1 + 1 + 1 + 1 + 1 + 1, w5), (L + 1 + 1 + 1 + 1 + 1, w4), (L + 1 + 1 + 1 + 1, w3), (L + 1 + 1 + 1, w2), (L + 1 + 1, w1), (L + 1, w0), (161, o)]) 134 52) := ⟨⟩
  k_steps
  · exact .inl ⟨rfl, rfl, rfl⟩
  · intro g1 ys news' hJ
    rcases hJ with ⟨h0, _⟩ | ⟨_, c', oc, vs, tq, fs, rfl, hoc, hvs, hcc, hcG, hcP, hcS, hfs, hfl, hff⟩
    · exact absurd h0 (by decide)
    · simp only [Cells] at hcc
      obtain ⟨cc0, cc1, cc2, cc3, cc4, cc5, cc6⟩ := hcc
      rename UseRg _ _ => uR; clear uR
      dsimp only
      k_steps
      rename Fr _ _ _ _ => F'
      rename News _ _ _ _ => N'
      rename_i u1 u2 u3 u4 u5 u6 u7 u8 u9 u10 hh2 o5 e5
      refine next' _ _ D' ys ys.length fs o5 #[rawInt 134, rawInt 52, .ref c'] _ F' (fun q hq => ?_) e5 hfs hfl hff ?_ ?_ ?_
      · rcases List.mem_cons.mp hq with rfl | hq
        · exact N' _ (.head _)
        · exact N' _ (.tail _ (.tail _ (.tail _ hq)))
      · exact ⟨o1'.symm, u10.symm, u9.symm, u8.symm, u7.symm, u6.symm, u5.symm⟩
      · exact u3.symm
      · exact u4.symm
  · intro g1 i ys news v I oI C' oC D m₂ h tk E' hi' hJ hv hCo hx F N off ne
    obtain ⟨tv, rfl⟩ := hv
    rcases hJ with ⟨rfl, rfl, rfl⟩ | ⟨hi0, c', oc, vs, tq, fs, rfl, hoc, hvs, hcc, hcG, hcP, hcS, hfs, hfl, hff⟩
    · have offH : Hold (LCg.Off3 I C' D _) := off
      dsimp only at N
      obtain ⟨_, _, _⟩ := LCg.Off3.mem off (161, _) (by repeat (first | exact .head _ | apply List.Mem.tail))
      clear off
      rename UseRg _ _ => uR; clear uR
      k_steps
      any_goals
        show Hold (KeyCalls _ _ _ _ _)
        rename News _ _ _ _ => N'
        intro gd fr s2 v2 t2 Q2 E2 hx2 ret2
        refine wpAny_call (enterL (T := T.keeps fun b o e => hx2 b o (Fr.keep (by assumption) b o e)) (hx2 _ _ (N' _ (.head _)).1) ⟨_, _, _, _, rfl, hx2 _ _ (N' _ (.tail _ (.head _))).1, (by assumption), (by assumption)⟩ (by show callerA.depth + 1 + 1 < recursionLimit; decide) (binds := [(Str.ofString "one", .int v2 t2)]) rfl ?_ ?_ rfl rfl rfl ?_)
        · intro y hy; rw [List.mem_singleton.mp hy]; rfl
        · intro L2 h2 F2 N2
          k_steps
          rename Fr _ _ _ _ => F3
          exact ret2 _ _ _ F3.keep
        · decide
      · rename Fr _ _ _ _ => F'
        rename News _ _ _ _ => N'
        have e0 : -(5 + ((0 : Nat) : Int) * -1) = -(5 - ((0 : Nat) : Int)) := by omega
        rw [e0] at hr2 hr3
        refine LCg.CompEnd.intro F' N' ((c', oc') :: [(G, listOf (List.toArray gv) ng), (P, listOf (List.toArray plv) npl), (S, listOf (List.toArray sv) n1), (L + 1 + 1 + 1 + 1 + 1 + 1, w5), (L + 1 + 1 + 1 + 1 + 1, w4), (L + 1 + 1 + 1 + 1, w3), (L + 1 + 1 + 1, w2), (L + 1 + 1, w1), (L + 1, w0), (161, tabObj #[rawInt 134, rawInt 52, .ref c'])]) (fun p hp => ?_) ⟨⟨Nat.ne_of_gt l1.1, Nat.ne_of_gt l1.2.1, Nat.ne_of_gt l1.2.2.1⟩, offH⟩ trivial
          (.inr ⟨by omega, c', oc', vs', _, [-1 + (r' : Int)], rfl, d1', d2', ?_, Nat.ne_of_gt l1.2.2.2.1, Nat.ne_of_gt l1.2.2.2.2.1, Nat.ne_of_gt l1.2.2.2.2.2.1, .cons _ _ .nil, rfl, fun j hj => ?_⟩)
        · rcases List.mem_cons.mp hp with rfl | hp
          · exact .tail _ (.tail _ (.head _))
          rcases List.mem_cons.mp hp with rfl | hp
          · exact .tail _ (.tail _ (.tail _ (.head _)))
          rcases List.mem_cons.mp hp with rfl | hp
          · exact .tail _ (.tail _ (.tail _ (.tail _ (.head _))))
          rcases List.mem_cons.mp hp with rfl | hp
          · exact .tail _ (.head _)
          · exact .tail _ (.tail _ (.tail _ (.tail _ (.tail _ hp))))
        · clear hr2 hr3
          unfold Cells; refine ⟨?_, ?_, ?_, ?_, ?_, ?_, ?_⟩ <;> omega
        · obtain rfl : j = 0 := by omega
          exact ⟨r', hr1, rfl, hr2, hr3⟩
    · have offH : Hold (LCg.Off3 I C' D _) := off
      dsimp only at N
      obtain ⟨_, _, _⟩ := LCg.Off3.mem off (161, _) (by repeat (first | exact .head _ | apply List.Mem.tail))
      clear off
      simp only [Cells] at hcc
      obtain ⟨cc0, cc1, cc2, cc3, cc4, cc5, cc6⟩ := hcc
      rename UseRg _ _ => uR; clear uR
      k_steps
      any_goals
        show Hold (KeyCalls _ _ _ _ _)
        rename News _ _ _ _ => N'
        intro gd fr s2 v2 t2 Q2 E2 hx2 ret2
        refine wpAny_call (enterL (T := T.keeps fun b o e => hx2 b o (Fr.keep (by assumption) b o e)) (hx2 _ _ (N' _ (.head _)).1) ⟨_, _, _, _, rfl, hx2 _ _ (N' _ (.tail _ (.tail _ (.tail _ (.tail _ (.head _)))))).1, hoc, hvs⟩ (by show callerA.depth + 1 + 1 < recursionLimit; decide) (binds := [(Str.ofString "one", .int v2 t2)]) rfl ?_ ?_ rfl rfl rfl ?_)
        · intro y hy; rw [List.mem_singleton.mp hy]; rfl
        · intro L2 h2 F2 N2
          k_steps
          rename Fr _ _ _ _ => F3
          exact ret2 _ _ _ F3.keep
        · decide
      · rename Fr _ _ _ _ => F'
        rename News _ _ _ _ => N'
        have e0 : -(5 + (i : Int) * -1) = -(5 - (i : Int)) := by omega
        rw [e0] at hr2 hr3
        refine LCg.CompEnd.intro F' N' ((c', oc) :: [(G, listOf (List.toArray gv) ng), (P, listOf (List.toArray plv) npl), (S, listOf (List.toArray sv) n1), (L + 1 + 1 + 1 + 1 + 1 + 1, w5), (L + 1 + 1 + 1 + 1 + 1, w4), (L + 1 + 1 + 1 + 1, w3), (L + 1 + 1 + 1, w2), (L + 1 + 1, w1), (L + 1, w0), (161, tabObj #[rawInt 134, rawInt 52, .ref c'])]) (fun p hp => .tail _ hp) offH trivial
          (.inr ⟨by omega, c', oc, vs, tq, fs ++ [-1 + (r' : Int)], rfl, hoc, hvs, ⟨cc0, cc1, cc2, cc3, cc4, cc5, cc6⟩, hcG, hcP, hcS, IntsAre.append hfs (.cons _ _ .nil), by rw [List.length_append, hfl]; rfl, fun j hj => ?_⟩)
        rcases Nat.lt_or_ge j i with hji | hji
        · have e1 : (fs ++ [-1 + (r' : Int)]).getD j 0 = fs.getD j 0 := by
            rw [List.getD_eq_getElem?_getD, List.getD_eq_getElem?_getD, List.getElem?_append_left (by omega)]
          rw [e1]; exact hff j hji
        · obtain rfl : j = i := by omega
          have e1 : (fs ++ [-1 + (r' : Int)]).getD j 0 = -1 + (r' : Int) := by
            rw [List.getD_eq_getElem?_getD, List.getElem?_append_right (by omega), hfl, Nat.sub_self]; rfl
          rw [e1]; exact ⟨r', hr1, rfl, hr2, hr3⟩
end
section -- B19
theorem resetB19 : True := by
  w_top off
  trivial
theorem use_with {w : World} {p : Program} {loose : List Str} {mean : ExcName → Option Value} {mg mb : Str → Option Value}
   {dp un : Nat} {gd : Option (List Code)} {fr : Option (List Env)} {s : Shared} {Q E : Value → Shared → Prop} {h₀ : Heap} {L : Addr} {m : Str → Option Value} {news : List (Addr × Obj)}
   {l : Addr} {vs : List Value} {ns : List Int} {x : Int} {tx : Tok}
   (F : Fr h₀ L s.heap m) (N : News h₀ L s.heap news) (X : (hd.heap_39 w.params).In h₀) (T : Top p loose mean mg mb h₀)
   (hl : s.heap.IsList l vs.toArray) (hi : IntsAre vs ns) (hlen : ns.length < 800) (hs : Rise ns)
   (hd1 : dp + 3 < recursionLimit) (hu : un + 24 < cLine)
   (ret : ∀ D h' tk' vs' ns' n', Fr h₀ L h' m → News h₀ L h' ((D, listOf (List.toArray vs') n') :: news) → LCg.Off1 D news → IntsAre vs' ns' → Rise ns' → ns'.Perm (x :: x :: ns) → Q (.ref D) { s with heap := h', toks := tk' }) :
   wpAny (model Prg w) ⟨none, dp, fr, gd, un⟩ (call (.ref 159) [.ref l, .int x tx]) Q E s :=
  c_with (X.keeps F.keep) (T.keeps F.keep) hl hi hlen hs hd1 hu fun D h' tk' vs' ns' n' e hD hn hi' hr hp => by
    obtain ⟨F', N', o⟩ := after_news F N e hD hn
    exact ret D h' tk' vs' ns' n' F' N' o hi' hr hp
local macro_rules | `(tactic| walk_at "call ref") => `(tactic| (k_here; k_dflt (refine' use_with (by k_asm) (by k_asm) (by k_asm) (by k_asm) (by is_list) (by assumption) (by omega) (by assumption) (by ktr_room) (by ktr_units) ?_); intro D' h' tk' vs' ns' n' F' N' off' hi' hri' hpe'; clear off'; (try dsimp only)))
structure UseEq : Prop where
local macro_rules | `(tactic| walk_at "compareOp Eq ref ref") => `(tactic| (k_here; (rename UseEq => uE); k_dflt (refine' ke_eq_ints (by is_list) (by is_list) (by assumption) (by assumption) (by units_room) ?_)))
theorem twin_list : ∀ k ∈ List.range 12, (rangeKs (-1) 12).filter (fun c => decide (c = -1 + ((k : Nat) : Int))) = [-1 + ((k : Nat) : Int)] := by decide +kernel
theorem twin_one {v : Int} (h1 : -1 ≤ v) (h2 : v ≤ 10) : (rangeKs (-1) 12).filter (fun c => decide (c = v)) = [v] := by
  have h := twin_list (v + 1).toNat (List.mem_range.mpr (by omega))
  rw [show -1 + (((v + 1).toNat : Nat) : Int) = v by omega] at h
  exact h
noncomputable def Twin (ss fs : List Int) (g wh v : Int) : Prop := (∀ c ns' : _, Rise ns' → ns'.Perm (c :: c :: ss) → -1 ≤ c → c ≤ 10 → (ns' = fs ↔ c = v)) ∧ -1 ≤ v ∧ v ≤ 10 ∧ (g = 0 → v = wh)
set_option maxHeartbeats 1000000 in
theorem law9 {w : World} {loose : List Str} {mean : ExcName → Option Value} {mg mb : Str → Option Value} {p : Program}
   {L fa : Nat} {Q : Flow → Shared → Prop} {E : Value → Shared → Prop} {s : Shared} {h₀ : Heap} {m : Str → Option Value} {S P Fd : Nat} {sv plv fv : List Value} {n1 npl nf : Nat} {ss fs : List Int} {wh g t v : Int} {wg tg tt : Tok} {w0 w1 w2 w3 w4 w5 : Obj} {ps : Array Value}
   (X : (hd.heap_39 w.params).In h₀) (T : Top p loose mean mg mb h₀) (C : CodeHd h₀ 163 161) (h161 : 161 < L)
   (F : Fr h₀ L s.heap fun y => if y = Str.ofString "gap" then some (.int g tg) else if y = Str.ofString "where" then some (.int wh wg) else m y)
   (N : News h₀ L s.heap [(Fd, listOf (List.toArray fv) nf), (P, listOf (List.toArray plv) npl), (S, listOf (List.toArray sv) n1), (L + 1 + 1 + 1 + 1 + 1 + 1, w5), (L + 1 + 1 + 1 + 1 + 1, w4), (L + 1 + 1 + 1 + 1, w3), (L + 1 + 1 + 1, w2), (L + 1 + 1, w1), (L + 1, w0), (161, tabObj ps)])
   (d1 : w1.data = .cell (some (.ref S))) (d3 : w3.data = .cell (some (.ref P))) (d5 : w5.data = .cell (some (.ref Fd)))
   (hP : IntsAre plv (rangeKs (-1) 12)) (hF : IntsAre fv fs) (hSs : IntsAre sv ss) (hsl : ss.length = 4) (hsr : Rise ss) (hg : 0 ≤ g ∧ g ≤ 3)
   (hm : Twin ss fs g wh v)
   (hPc : Cells L P) (hFc : Cells L Fd) (hSc : Cells L S) (hFP : Fd ≠ P) (hFS : Fd ≠ S) (hPS : P ≠ S)
   (ret : ∀ h' tk' news m', Fr h₀ L h' m' → News h₀ L h' news → (161, tabObj ps) ∈ news → Q (.ret (.bool true)) { s with heap := h', toks := tk' }) :
   wpAny (model Prg w) (callerA.deeper (lawEnv L fa)) (execs (lawTail 14) (lawEnv L fa)) Q E s := by
  have ret' : Hold _ := ret
  clear ret
  have hm' : Hold _ := hm
  clear hm
  conv in lawTail _ => unfold lawTail; arg 2; whnf
  dsimp only [lawEnv]
  obtain ⟨sc, hsc⟩ : ∃ sc, sc = lawScope := ⟨_, rfl⟩
  rw [← hsc]
  conv at hsc => rhs; whnf
  subst hsc
  dsimp only [List.drop]
  simp only [Cells] at hPc hFc hSc
  obtain ⟨pc0, pc1, pc2, pc3, pc4, pc5, pc6⟩ := hPc
  obtain ⟨gc0, gc1, gc2, gc3, gc4, gc5, gc6⟩ := hFc
  obtain ⟨sc0, sc1, sc2, sc3, sc4, sc5, sc6⟩ := hSc
  have hpl : plv.length = 12 := by rw [hP.length, rangeKs_length]
  have uC : UseC := ⟨⟩
  have uCT : UseCT := ⟨⟩
  k_steps
  have ez : plv.toArray.size = 12 := by rw [List.size_toArray]; exact hpl
  rw [ez]
  refine compT_c (fun i ys => Hold (IntsAre ys (((rangeKs (-1) 12).take i).filter (fun c => decide (c = v))))) IntsAre.nil (fun ys hJ => ?_) (fun i ys pv I oI C' oC D m₂ h tk E' hi' hJ hv hCo hx F N off ne => ?_)
  · have hJ : IntsAre ys (((rangeKs (-1) 12).take 12).filter (fun c => decide (c = v))) := hJ
    rw [List.take_of_length_le (by rw [rangeKs_length]; exact Nat.le_refl _), twin_one hm'.2.1 hm'.2.2.1] at hJ
    obtain ⟨tv, ys', rfl, hJ'⟩ := hJ.cons_inv
    obtain rfl := hJ'.nil_inv
    have hgv := hm'.2.2.2
    have uE : UseEq := ⟨⟩
    k_steps
    · rename Fr _ _ _ _ => F'
      rename News _ _ _ _ => N'
      rename 0 < g => hg0
      rw [decide_eq_true hg0]
      exact ret' _ _ _ _ F' N' (by repeat (first | exact .head _ | apply List.Mem.tail))
    · rename Fr _ _ _ _ => F'
      rename News _ _ _ _ => N'
      rename ¬ 0 < g => hg0
      have hvw : v = wh := hgv (by omega)
      rw [decide_eq_true (show [v] = [wh] by rw [hvw])]
      exact ret' _ _ _ _ F' N' (by repeat (first | exact .head _ | apply List.Mem.tail))
  · obtain ⟨n, tn, rfl, hn⟩ := hP.at i pv (by simpa using hv)
    obtain ⟨hn1, hn2⟩ := rangeKs_at hn
    have offH : Hold (LCg.Off3 I C' D _) := off
    clear off ne
    have uE : UseEnd := ⟨⟩
    have uQ : UseEq := ⟨⟩
    k_steps
    · show IntsAre _ _
      rename List.Perm _ (n :: n :: ss) => hpe
      rename Rise _ => hri
      rename _ = fs => hc
      have hnv : n = v := (hm'.1 n _ hri hpe (by omega) (by omega)).mp hc
      rw [take_snoc hn, List.filter_append, List.filter_cons_of_pos (by rw [hnv]; exact decide_eq_true rfl)]
      exact IntsAre.append hJ (.cons _ _ .nil)
    · show IntsAre _ _
      rename List.Perm _ (n :: n :: ss) => hpe
      rename Rise _ => hri
      rename ¬ _ = fs => hc
      have hnv : ¬ n = v := fun q => hc ((hm'.1 n _ hri hpe (by omega) (by omega)).mpr q)
      rw [take_snoc hn, List.filter_append, List.filter_cons_of_neg (by simpa using hnv), List.filter_nil, List.append_nil]
      exact hJ
end
section -- B20
theorem resetB20 : True := by
  w_top off
  trivial
noncomputable def Vs (cs : List Int) : List Int := (rangeKs (-1) 12).map fun c => ((var (sh c cs) : Nat) : Int)
noncomputable def Plain (ps : List Int) (t wh g : Int) : Prop :=
  (prodAll ps t wh g).length < 800 ∧ (∀ i j : Nat, i ≤ j → j < (Vs (prodAll ps t wh g)).length → (Vs (prodAll ps t wh g)).getD j 0 ≤ (Vs (prodAll ps t wh g)).getD i 0) ∧ (Vs (prodAll ps t wh g)).getD 11 0 = 0 ∧
  ∀ ss fs, Rise ss → ss.Perm ((ps.map fun p => if p.toNat = 0 then 0 else p.toNat + t.toNat).map fun (k : Nat) => (k : Int)) → fs.length = 6 → (∀ j : Nat, j < 6 → IsFound (Vs (prodAll ps t wh g)) (-(5 - (j : Int))) (fs.getD j 0)) → ∃ v, Twin ss fs g wh v
theorem prodAll_is {ps : List Int} (t wh g : Int) (hp : ∀ p ∈ ps, 0 ≤ p) : prodAll ps t wh g = pol (ps.map (rt t)) wh g := prodAll_pol ps t wh g hp
theorem vs_at (rs : List Int) (wh g : Int) {i : Nat} (hi : i < 12) : (Vs (pol rs wh g)).getD i 0 = (Vc rs wh g (-1 + (i : Int)) : Nat) := by
  unfold Vs Vc rangeKs
  rw [List.map_map, List.getD_eq_getElem?_getD, List.getElem?_map, List.getElem?_range hi]
  show (((var (sh (-1 + (i : Int)) (pol rs wh g))) : Nat) : Int) = _
  rw [var_vr, sh_pol]
theorem plain_law {a b c d t wh g : Int} (ha : 0 ≤ a ∧ a ≤ 7) (hb : 0 ≤ b ∧ b ≤ 7) (hc : 0 ≤ c ∧ c ≤ 7) (hdd : 0 ≤ d ∧ d ≤ 7) (ht : 1 ≤ t ∧ t ≤ 3) (hw : 0 ≤ wh ∧ wh ≤ 7) (hg : 0 ≤ g ∧ g ≤ 3) : Plain [a, b, c, d] t wh g := by
  have hp7 : ∀ p ∈ [a, b, c, d], 0 ≤ p ∧ p ≤ 7 := by
    intro p hp
    simp only [List.mem_cons, List.not_mem_nil, or_false] at hp
    rcases hp with rfl | rfl | rfl | rfl <;> assumption
  have hpl : [a, b, c, d].length = 4 := rfl
  generalize [a, b, c, d] = ps at hp7 hpl
  have hp : ∀ p ∈ ps, 0 ≤ p := fun p q => (hp7 p q).1
  have hr : ∀ r ∈ ps.map (rt t), 0 ≤ r ∧ r ≤ 10 := by
    intro r hr
    obtain ⟨p, q, rfl⟩ := List.mem_map.mp hr
    have := hp7 p q
    unfold rt; split <;> omega
  obtain ⟨v, v0, v1, vg, hv⟩ := main_v (h := wh) (g := g) hr hw hg.1
  obtain ⟨U, hU, hUp⟩ := rise_sort (v :: v :: ps.map (rt t))
  have hUl : U.length = 6 := by rw [hUp.length_eq, List.length_cons, List.length_cons, List.length_map, hpl]
  have hUb : ∀ u ∈ U, 0 ≤ u ∧ u ≤ 10 := by
    intro u hu
    rcases List.mem_cons.mp (hUp.mem_iff.mp hu) with rfl | q
    · exact ⟨v0, v1⟩
    rcases List.mem_cons.mp q with rfl | q
    · exact ⟨v0, v1⟩
    · exact hr u q
  have hns : ∀ i : Nat, i < 12 → (Vs (prodAll ps t wh g)).getD i 0 = (Mc U (-1 + (i : Int)) : Nat) := by
    intro i hi
    rw [prodAll_is t wh g hp, vs_at _ _ _ hi, hv _ (by omega) (by omega), mc_perm hUp]
  have hVl : (Vs (prodAll ps t wh g)).length = 12 := by unfold Vs; rw [List.length_map, rangeKs_length]
  refine ⟨?_, fun i j hij hj => ?_, ?_, fun ss fs hs hsp hfl hf => ?_⟩
  · rw [prodAll_is t wh g hp, pol_length, List.length_map, hpl]; decide
  · rw [hns i (by omega), hns j (by omega)]
    have := mc_mono U (c := -1 + (i : Int)) (e := -1 + (j : Int)) (by omega)
    omega
  · rw [hns 11 (by decide), mc_none (l := U) fun x hx => by have := hUb x hx; omega]; rfl
  · rw [ports_roots ht.1 ps hp] at hsp
    have hfs : fs = U := found_row hU hUl hUb hns hfl hf
    have hvs : (v :: v :: ss).Perm U := ((hsp.cons v).cons v).trans hUp.symm
    refine ⟨v, fun c ns' hr' hp' _ _ => ⟨fun q => ?_, fun q => ?_⟩, by omega, v1, vg⟩
    · refine twice_inj (hp'.symm.trans (?_ : ns'.Perm _))
      rw [q, hfs]; exact hvs.symm
    · subst q
      rw [hfs]
      exact rise_eq hr' hU (hp'.trans hvs)
theorem law_tail {w : World} {loose : List Str} {mean : ExcName → Option Value} {mg mb : Str → Option Value} {p : Program}
   {L fa : Nat} {Q : Flow → Shared → Prop} {E : Value → Shared → Prop} {s : Shared} {h₀ : Heap} {m : Str → Option Value} {D : Nat} {vs : List Value} {ds : List Int} {n : Nat} {w0 w1 w2 w3 w4 w5 : Obj} {u0 u1 u2 u3 u4 u5 : Option Value}
   (X : (hd.heap_39 w.params).In h₀) (T : Top p loose mean mg mb h₀) (C : CodeHd h₀ 163 161) (h161 : 161 < L) (hlen : ds.length ≤ 8) (hI : IntsAre vs ds)
   (F : Fr h₀ L s.heap fun y => if y = Str.ofString "draws" then some (.ref D) else m y)
   (N : News h₀ L s.heap [(D, listOf vs.toArray n), (L + 1 + 1 + 1 + 1 + 1 + 1, w5), (L + 1 + 1 + 1 + 1 + 1, w4), (L + 1 + 1 + 1 + 1, w3), (L + 1 + 1 + 1, w2), (L + 1 + 1, w1), (L + 1, w0), (161, tabObj #[])])
   (d0 : w0.data = .cell u0) (d1 : w1.data = .cell u1) (d2 : w2.data = .cell u2) (d3 : w3.data = .cell u3) (d4 : w4.data = .cell u4) (d5 : w5.data = .cell u5)
   (hE : PassesOwn (model Prg w) (callerA.deeper (lawEnv L fa)) (lawEnv L fa) E)
   (ret : ∀ h' tk' news m' ps, Fr h₀ L h' m' → News h₀ L h' news → (161, tabObj ps) ∈ news → Q (.ret (.bool true)) { s with heap := h', toks := tk' }) :
   wpAny (model Prg w) (callerA.deeper (lawEnv L fa)) (execs (lawTail 1) (lawEnv L fa)) Q E s := by
  refine law1 X T C h161 hlen hI F N fun h1 tk1 D1 ws n1 m1 ds1 F1 N1 hI1 hl1 hlt1 => ?_
  refine law2 (s := { s with heap := h1, toks := tk1 }) X T C h161 hlt1 hl1 hI1 F1 N1 d0 fun h2 tk2 Dp ps pv np wh tw g tg t tt o0 m2 F2 N2 e0 hI2 hpl hb hw hg ht hDp hDD => ?_
  obtain ⟨a, b, c, d, rfl⟩ := len4 hpl
  have ha := hb a (by simp)
  have hb' := hb b (by simp)
  have hc := hb c (by simp)
  have hdd := hb d (by simp)
  obtain ⟨M1, M2, M3, M4⟩ := plain_law ha hb' hc hdd ht hw hg
  refine law3 (s := { s with heap := h2, toks := tk2 }) X T C h161 hlt1 hl1 hI1 F2 N2 e0 hI2 ⟨ha, hb', hc, hdd⟩ ht hDp hDD fun h3 tk3 Dr rv nr m3 F3 N3 hst hDr hDrD => ?_
  refine law4 (s := { s with heap := h3, toks := tk3 }) X T C h161 F3 N3 hst e0 hI2 ⟨ha, hb', hc, hdd⟩ ht hDp hDr hDrD fun h4 tk4 m4 F4 N4 => ?_
  refine law5 (s := { s with heap := h4, toks := tk4 }) X T C h161 F4 N4 hst e0 hI2 ⟨ha, hb', hc, hdd⟩ ht hDp hDr hDrD d1 hE fun h5 tk5 S sv ss ns o1 m5 F5 N5 e1 hSs hsr hsp hS hSD => ?_
  refine law6 (s := { s with heap := h5, toks := tk5 }) X T C h161 F5 N5 e0 e1 d2 d3 hI2 rfl hb ht hw hg hDp hS hSD fun h6 tk6 P Cf plv cv npl nc o2 o3 m6 F6 N6 e2 e3 hP hC hPc hCc hPC hPS hCS => ?_
  refine law7 (s := { s with heap := h6, toks := tk6 }) (t := t) (tt := tt) X T C h161 F6 N6 e1 e2 e3 d4 hP hC M1 hPc hCc hS hPC hPS hCS fun h7 tk7 G gv ng o4 m7 F7 N7 e4 hG hGc hGP hGS => ?_
  refine law8 (s := { s with heap := h7, toks := tk7 }) (t := t) (tt := tt) X T C h161 F7 N7 e1 e3 e4 d5 hP hG (by rw [List.length_map, rangeKs_length]) M2 M3 hPc hGc hS hGP hGS hPS fun h8 tk8 Fd fv nf fs o5 ps8 m8 F8 N8 e5 hF hfl hff hFc hFP hFS => ?_
  obtain ⟨v, hv⟩ := M4 ss fs hsr hsp hfl hff
  refine law9 (s := { s with heap := h8, toks := tk8 }) (t := t) (tt := tt) X T C h161 F8 N8 e1 e3 e5 hP hF hSs (by rw [hsp.length_eq]; rfl) hsr hg hv hPc hFc hS hFP hFS hPS fun h9 tk9 news m9 F9 N9 hm => ?_
  exact ret h9 tk9 news m9 ps8 F9 N9 hm
set_option maxHeartbeats 4000000 in
theorem law_whole : PySem.Challenge.rw_sr0023_01.Holds := hd (by
  k_go0
  (all_goals try k_fold)
  have uS : UseStop (Str.ofString "drawn") := ⟨⟩
  k_steps
  unfold Hold
  rename Frag.In _ _ => X1
  rename CodeHd _ _ _ => C1
  rename Top topProg _ _ _ _ _ => T1
  rename News _ _ _ _ => N1
  rename Fr _ _ _ _ => F1
  rename 161 < _ => h1
  rename IntsAre _ (List.map _ _) => I1
  rename_i a5 a4 a3 a2 a1 a0
  refine' law_tail (n := ys.length) X1 T1 C1 h1 ?ql I1 F1 ?qn ?q0 ?q1 ?q2 ?q3 ?q4 ?q5 ?qe ?qr
  case qn =>
    intro q hq
    rcases List.mem_cons.mp hq with rfl | hq
    · exact N1 _ (.head _)
    · exact N1 _ (.tail _ (.tail _ hq))
  case ql => rw [List.length_map, List.length_take]; omega
  case q0 => assumption
  case q1 => assumption
  case q2 => assumption
  case q3 => assumption
  case q4 => assumption
  case q5 => assumption
  case qe => passes_own
  case qr =>
    intro h' tk' news m' ps F' N' hm
    refine ⟨?_, ⟨ps, (N' _ hm).1⟩, True.intro⟩
    k_steps)
end
end
end Mine
end
theorem PySem.Challenge.cw_sr0023_01_holds : PySem.Challenge.rw_sr0023_01.Holds :=
  Mine.law_whole

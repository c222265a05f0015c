import PyProof.Rows.All
import Wide.All
import OpenK.AllK
import Wide.FinOn
import KE.KLcPair
import KE.KEqSeq
import Lean
import PySem.Challenge.RW_tv0036_01
open PySem PySem.W PyProof.Rows
set_option Elab.async false
set_option maxRecDepth 100000
set_option maxHeartbeats 8000000
namespace Mine
section
local macro_rules | `(tactic| o_head $_) => `(tactic| assumption)
theorem hd : PySem.Challenge.rw_tv0036_01.row.Holds → PySem.Challenge.rw_tv0036_01.row.Holds := by
  intro h
  k_head
end
end Mine
section
open PySem PySem.W PyProof.Rows PySem.Calls PySem.Spec
namespace Mine

noncomputable def pins (l : List (Str × Value)) (u : Str → Option Value) : Str → Option Value := fun y => match l.lookup y with | some v => some v | none => u y
theorem pins_eq {l : List (Str × Value)} {m : Str → Option Value} (h : ∀ p ∈ l, m p.1 = some p.2) : m = pins l m := by
  funext y
  unfold pins
  cases e : l.lookup y with
  | none => rfl
  | some v =>
    have key : ∀ l : List (Str × Value), l.lookup y = some v → (y, v) ∈ l := by
      intro l
      induction l with
      | nil => intro e; cases e
      | cons p r ih =>
        obtain ⟨a, b⟩ := p
        intro e
        rw [List.lookup_cons] at e
        by_cases q : (y == a) = true
        · rw [q] at e; simp only at e; cases e; rw [eq_of_beq q]; exact List.mem_cons_self
        · have q' : (y == a) = false := by simpa using q
          rw [q'] at e; exact List.mem_cons_of_mem _ (ih e)
    exact h _ (key l e)
theorem all1 {α : Type} {P : α → Prop} {a : α} {l : List α} (h : P a) (r : ∀ p ∈ l, P p) : ∀ p ∈ a :: l, P p := fun p hp => by
  rcases List.mem_cons.mp hp with rfl | hp
  · exact h
  · exact r p hp
theorem all0 {α : Type} {P : α → Prop} : ∀ p ∈ ([] : List α), P p := fun _ h => nomatch h
noncomputable abbrev Kept (h h' : Heap) : Prop := ∀ b o, h.get? b = some o → h'.get? b = some o

noncomputable def LeaveP (h : Heap) (R : Value → Heap → Prop) (Q : Value → Shared → Prop) (s : Shared) (v : Value) (s' : Shared) : Prop :=
  ∃ L' m' h' tk', s' = { s with heap := h', toks := tk' } ∧ Fr h L' h' m' ∧ R v h'

section
variable {prog : Program} {w : World} {A₀ A : Around} {s : Shared} {base h₀ : Heap} {outer : List Env} {L : Addr} {m mg mb : Str → Option Value} {env : Env} {K : Frag} {p : Program} {loose : List Str} {mean : ExcName → Option Value}
  {name qual : Str} {params : Arguments} {body : List Stmt} {scope : Scope} {dV kV doc pm cdv ct oc : Value} {an od : Option Addr} {osl : Array (Option Value)} {f : Addr} {vs : List Value} {kw : List (Str × Value)} {binds : List (Str × Value)} {Q E : Value → Shared → Prop}

theorem call_pure (R : Value → Heap → Prop) (B : Below A₀ base outer h₀) (F : Fr h₀ L s.heap m) (X₀ : K.In h₀) (T : Top p loose mean mg mb h₀) (hA : A.frames = some (env :: outer)) (hf : env.frame = some L) (hke : env.scope.kind = .function)
    (ho : K.lookup f = some ⟨oc, od, .func (fnOf name qual params body scope dV kV doc pm an cdv ct), osl⟩) (hcd : codeIn K cdv qual = true) (hroom : A.depth < recursionLimit)
    (hbind : BindsTo s (fnOf name qual params body scope dV kV doc pm an cdv ct) ⟨vs, kw⟩ binds.reverse) (hloc : ∀ y ∈ binds, scope.names.lookup y.1 = some .local)
    (hcell : ∀ x ∈ scope.names, x.2 ≠ .cell) (hco : scope.isCoroutine = false) (hgen : scope.isGenerator = false) (hk : scope.kind = .function)
    (ret : ∀ v h' tk', Kept s.heap h' → R v h' → Q v { s with heap := h', toks := tk' })
    (h : ∀ L' h₁ tk, Fr s.heap L' h₁ (pins binds fun _ => none) → News s.heap L' h₁ [] → Below A base (env :: outer) s.heap → K.In s.heap → Top p loose mean mg mb s.heap →
      wpAny (model prog w) (A.deeper (envOf qual scope L' f cdv)) (execs body (envOf qual scope L' f cdv))
        (fun fl s' => LeaveP s.heap R Q s (match fl with | .ret v => v | _ => .none) s')
        (fun _ _ => False)
        { s with heap := h₁, toks := tk }) :
    wpAny (model prog w) A (call (.ref f) vs kw) Q E s := by
  refine wpAny_call ?_
  refine codeAny_call_def (fd := fnOf name qual params body scope dV kV doc pm an cdv ct) (body := body) (binds := binds.reverse) hroom ((X₀.keeps F.keep) _ _ ho) rfl (T.nolimit.keeps F.keep) (codeRec_of (X₀.keeps F.keep) hcd) rfl hbind hcell (fun y hy => hloc y (List.mem_reverse.mp hy)) (fun h₁ hns hk₁ => ?_) hco hgen hk
  have e : (fun x => binds.reverse.reverse.lookup x) = pins binds fun _ => none := by
    funext y; rw [List.reverse_reverse]; unfold pins; cases binds.lookup y <;> rfl
  rw [e] at hns
  have B₁ := pushX B F hf hke
  refine wpAny_mono (h s.heap.objs.size h₁ _ ⟨hns, fun b o e => hk₁ b o e, Nat.le_refl _⟩ News.nil ⟨hA, fun b o e => F.keep b o (B.stays b o e), B₁.frames⟩ (X₀.keeps F.keep) (T.keeps F.keep)) (fun fl s' hl => ?_) fun _ _ y => y.elim
  obtain ⟨L', m', h', tk', rfl, F', r⟩ := hl
  exact ret _ h' tk' F'.keep r
end

section
variable {prog : Program} {w : World} {A₀ A : Around} {s : Shared} {base h₀ : Heap} {outer : List Env} {L : Addr} {m mg mb : Str → Option Value} {env : Env} {K : Frag} {p : Program} {loose : List Str} {mean : ExcName → Option Value}
  {name qual : Str} {params : Arguments} {body : List Stmt} {scope : Scope} {dV kV doc pm cdv ct oc : Value} {an od : Option Addr} {osl : Array (Option Value)} {f : Addr} {vs : List Value} {kw : List (Str × Value)} {binds : List (Str × Value)} {Q E : Value → Shared → Prop}

theorem call_pureC (R : Value → Heap → Prop) (ml : Str → Option Value) (cn : Str) (cv : Option Value) (B : Below A₀ base outer h₀) (F : Fr h₀ L s.heap m) (X₀ : K.In h₀) (T : Top p loose mean mg mb h₀) (hA : A.frames = some (env :: outer)) (hf : env.frame = some L) (hke : env.scope.kind = .function)
    (ho : K.lookup f = some ⟨oc, od, .func (fnOf name qual params body scope dV kV doc pm an cdv ct), osl⟩) (hcd : codeIn K cdv qual = true) (hroom : A.depth < recursionLimit)
    (hbind : BindsTo s (fnOf name qual params body scope dV kV doc pm an cdv ct) ⟨vs, kw⟩ binds)
    (hkind : (binds.all fun y => scope.names.lookup y.1 == some .local || scope.names.lookup y.1 == some .cell) = true)
    (hone : ∀ n, cellsFrom n scope.names [] = [(cn, n)])
    (hml : ∀ L', bindL (envOfC qual scope L' f cdv).kindOf binds (fun _ => none) = ml) (hcv : ∀ L', bindC (envOfC qual scope L' f cdv).kindOf binds (fun _ => none) cn = cv)
    (hco : scope.isCoroutine = false) (hgen : scope.isGenerator = false) (hk : scope.kind = .function)
    (ret : ∀ v h' tk', Kept s.heap h' → R v h' → Q v { s with heap := h', toks := tk' })
    (h : ∀ L' h₁ tk o, Fr s.heap L' h₁ ml → News s.heap L' h₁ [(L' + 1, o)] → o.data = .cell cv → Below A base (env :: outer) s.heap → K.In s.heap → Top p loose mean mg mb s.heap →
      wpAny (model prog w) (A.deeper (envX qual scope L' f cdv [(cn, L' + 1)])) (execs body (envX qual scope L' f cdv [(cn, L' + 1)]))
        (fun fl s' => LeaveP s.heap R Q s (match fl with | .ret v => v | _ => .none) s')
        (fun _ _ => False)
        { s with heap := h₁, toks := tk }) :
    wpAny (model prog w) A (call (.ref f) vs kw) Q E s := by
  refine wpAny_call ?_
  have B₁ := pushX B F hf hke
  have hX := X₀.keeps F.keep
  refine codeAny_call_function hroom (hX _ _ ho) rfl hco hgen rfl (codeRec_of hX hcd) (hbind _ _ _ _ ?_)
  refine wpAny_newFunctionEnv_cells hk (kindsX hkind _) fun env' he s' x => ?_
  subst he
  refine ⟨(T.nolimit.keeps F.keep).keeps x.toInCall.keep, codeAny_func ?_⟩
  obtain ⟨h₁, tk, rfl, _⟩ := x.done
  have hk₁ := x.toInCall.keep
  have hnd : ((cellsFrom 0 scope.names []).map (·.1)).Nodup := by rw [hone 0]; simp
  obtain ⟨cells, NC, Y⟩ := Cl.news (h₀ := s.heap) (Nat.le_refl _) fun n c hm => ⟨x.cell n c (lookup_of_mem_nodup (cellsFrom_names scope.names 0 (s.heap.objs.size + 1) [] [] rfl ▸ hnd) hm), x.above n c hm⟩
  have Y' : CellsAre (bindC (envOfC qual scope s.heap.objs.size f cdv).kindOf binds fun _ => none) [(cn, s.heap.objs.size + 1)] cells := by
    have := Y
    have e : (envOfC qual scope s.heap.objs.size f cdv).cells = [(cn, s.heap.objs.size + 1)] := hone _
    rw [← e]; exact this
  obtain ⟨o, rfl, ho'⟩ := Y'.one
  have key := h s.heap.objs.size h₁ tk o ⟨hml s.heap.objs.size ▸ x.toInCall.ns, fun b o e => hk₁ b o e, Nat.le_refl _⟩ (fun p hp => ⟨(NC p hp).1, (NC p hp).2.1, (NC p hp).2.2⟩) (ho'.trans (by rw [hcv])) ⟨hA, fun b o e => F.keep b o (B.stays b o e), B₁.frames⟩ hX (T.keeps F.keep)
  have e : envX qual scope s.heap.objs.size f cdv [(cn, s.heap.objs.size + 1)] = envOfC qual scope s.heap.objs.size f cdv := by
    unfold envOfC; rw [hone]
  rw [e] at key
  refine wpAny_mono key (fun fl s' hl => ?_) fun _ _ y => y.elim
  obtain ⟨L', m', h', tk', rfl, F', r⟩ := hl
  exact ret _ h' tk' F'.keep r
end

noncomputable def SeqC (M : Model) (A : Around) (h₀ : Heap) (L : Addr) (s₀ : Shared) (rest : List Stmt) (env : Env) (Q : Flow → Shared → Prop) (E : Value → Shared → Prop) (f : Flow) (s' : Shared) : Prop :=
  match f with
  | .next => ∃ h tk m' news', s' = { s₀ with heap := h, toks := tk } ∧ Fr h₀ L h m' ∧ News h₀ L h news' ∧
      (∀ h tk, Fr h₀ L h m' → News h₀ L h news' → wpAny M A (execs rest env) Q E { s₀ with heap := h, toks := tk })
  | f => Q f s'
section
variable {M : Model} {A : Around} {E : Value → Shared → Prop} {s₀ : Shared} {h₀ h : Heap} {L : Addr} {tk : Nat} {st : Stmt} {rest : List Stmt} {env : Env} {Q : Flow → Shared → Prop} {m : Str → Option Value} {news : List (Addr × Obj)}
theorem seqC (_F : Fr h₀ L h m) (hx : wpAny M A (exec st env) (SeqC M A h₀ L s₀ rest env Q E) E { s₀ with heap := h, toks := tk }) :
    wpAny M A (execs (st :: rest) env) Q E { s₀ with heap := h, toks := tk } := by
  refine wpAny_execs_cons (wpAny_mono hx (fun f s' q => ?_) fun _ _ e => e)
  cases f with
  | next =>
    obtain ⟨h', tk', m', news', rfl, F', N', k⟩ := q
    exact k h' tk' F' N'
  | ret v => exact q
  | brk => exact q
  | cont => exact q
theorem SeqC.next {m' : Str → Option Value} {news' : List (Addr × Obj)} {h' : Heap} {tk' : Nat} (F : Fr h₀ L h' m') (N : News h₀ L h' news')
    (k : ∀ h tk, Fr h₀ L h m' → News h₀ L h news' → wpAny M A (execs rest env) Q E { s₀ with heap := h, toks := tk }) : SeqC M A h₀ L s₀ rest env Q E .next { s₀ with heap := h', toks := tk' } :=
  ⟨h', tk', m', news', rfl, F, N, k⟩
end

noncomputable def TurnEnd (h₀ : Heap) (L : Addr) (s : Shared) (its : List (Addr × Obj)) (J : (Str → Option Value) → List (Addr × Obj) → Prop) (Q : Flow → Shared → Prop) (f : Flow) (s₂ : Shared) : Prop :=
  match f with
  | .ret v => Q (.ret v) s₂
  | .brk => Q .next s₂
  | _ => ∃ h' tk m' news', s₂ = { s with heap := h', toks := tk } ∧ Fr h₀ L h' m' ∧ News h₀ L h' (its ++ news') ∧ (∀ p ∈ news', ∀ q ∈ its, p.1 ≠ q.1) ∧ J m' news'
theorem TurnEnd.next {h₀ : Heap} {L : Addr} {s : Shared} {its all : List (Addr × Obj)} {J : (Str → Option Value) → List (Addr × Obj) → Prop} {Q : Flow → Shared → Prop} {h' : Heap} {tk : Nat} {m' : Str → Option Value} (news' : List (Addr × Obj))
    (F : Fr h₀ L h' m') (N : News h₀ L h' all) (hs : ∀ p ∈ its ++ news', p ∈ all) (ho : ∀ p ∈ news', ∀ q ∈ its, p.1 ≠ q.1) (j : J m' news') : TurnEnd h₀ L s its J Q .next { s with heap := h', toks := tk } :=
  ⟨h', tk, m', news', rfl, F, fun p hp => N p (hs p hp), ho, j⟩

section
variable {prog : Program} {w : World} {A : Around} {E : Value → Shared → Prop} {s : Shared} {env : Env} {h₀ : Heap} {x : Str} {target : Expr} {body : List Stmt} {Q : Flow → Shared → Prop} {m₀ : Str → Option Value} {news : List (Addr × Obj)}

theorem forRange {r : Addr} {a b : Int} {t₀ u₀ v₀ : Tok} {n : Nat} (J : Nat → (Str → Option Value) → List (Addr × Obj) → Prop)
    (hh : A.handled = none) (hr : IsRange s.heap r a b 1 t₀ u₀ v₀) (hsmall : Builtin.Range.small a b 1 = true) (hn : Builtin.Range.rangeSize a b 1 = (n : Int)) (F : Fr h₀ env.locals s.heap m₀) (N : News h₀ env.locals s.heap news) (hj : J 0 m₀ news)
    (turn : ∀ (i : Nat) t I it m₁ news₁ h tk, i < n → J i m₁ news₁ → (∀ p ∈ news₁, p.1 ≠ I) → Fr h₀ env.locals h (fun y => if y = x then some (.int (a + (i : Int)) t) else m₁ y) → News h₀ env.locals h ((I, it) :: news₁) →
      wpAny (model prog w) A (execs body env) (TurnEnd h₀ env.locals s [(I, it)] (J (i + 1)) Q) E { s with heap := h, toks := tk })
    (done : ∀ m₁ news₁ h tk, J n m₁ news₁ → Fr h₀ env.locals h m₁ → News h₀ env.locals h news₁ → Q .next { s with heap := h, toks := tk }) :
    wpAny (model prog w) A (pyIter (.ref r)) (fun it s₂ => LoopAtV prog w A h₀ env x body Q E it s₂) E s := by
  refine iter_rangeUnr hh hr hsmall hn F N fun I hI => ?_
  have key : ∀ (k i : Nat) m₁ news₁, i + k = n → J i m₁ news₁ → (∀ p ∈ news₁, p.1 ≠ I) → RangeRest prog w A E h₀ env x body Q s I a n k i m₁ news₁ := by
    intro k
    induction k with
    | zero =>
      intro i m₁ news₁ hi hJ _
      have e : i = n := by omega
      subst e
      exact RangeRest.zero fun h tk F₁ N₁ => done _ _ _ _ hJ F₁ N₁
    | succ k ih =>
      intro i m₁ news₁ hi hJ hoff
      refine RangeRest.succ fun t h tk F₁ N₁ => ?_
      refine wpAny_mono (turn i t I _ m₁ news₁ h tk (by omega) hJ hoff F₁ N₁) (fun f s₂ q => ?_) fun _ _ e => e
      have fin : (∃ h' tk m' news', s₂ = { s with heap := h', toks := tk } ∧ Fr h₀ env.locals h' m' ∧ News h₀ env.locals h' ([(I, itR (a + ((i + 1 : Nat) : Int)) ((n : Int) - ((i + 1 : Nat) : Int)))] ++ news') ∧ (∀ p ∈ news', ∀ q ∈ [(I, itR (a + ((i + 1 : Nat) : Int)) ((n : Int) - ((i + 1 : Nat) : Int)))], p.1 ≠ q.1) ∧ J (i + 1) m' news') →
          UnrEnd h₀ env.locals { s with heap := h, toks := tk } I (itR (a + ((i + 1 : Nat) : Int)) ((n : Int) - ((i + 1 : Nat) : Int))) (RangeRest prog w A E h₀ env x body Q s I a n k (i + 1)) s₂ := by
        rintro ⟨h', tk', m', news', rfl, F', N', ho, hJ'⟩
        have ho' : ∀ p ∈ news', p.1 ≠ I := fun p hp => ho p hp _ (List.mem_singleton.mpr rfl)
        exact ⟨h', tk', m', news', rfl, F', N', ho', ih (i + 1) m' news' (by omega) hJ' ho'⟩
      cases f with
      | ret v => exact q
      | brk => exact q
      | next => exact fin q
      | cont => exact fin q
  exact key n 0 m₀ news (by omega) hj fun p hp => Nat.ne_of_lt (hI p hp)

theorem itemsInv {ws : List (Addr × String)} {keep : List (Addr × Obj)} (J : List Itm → (Str → Option Value) → List (Addr × Obj) → Prop)
    (turn : ∀ a r v its m₁ news₁ h tk, J (a :: r) m₁ news₁ → a.Is v h → Objs ws its → SubL keep news₁ → (∀ p ∈ news₁, ∀ q ∈ its, p.1 ≠ q.1) → Fr h₀ env.locals h m₁ → News h₀ env.locals h (its ++ news₁) →
      wpAny (model prog w) A (assign target env v) (fun _ s₂ => wpAny (model prog w) A (execs body env) (TurnEnd h₀ env.locals s its (fun m' n' => SubL keep n' ∧ J r m' n') Q) E s₂) E { s with heap := h, toks := tk })
    (done : ∀ m₁ news₁ h tk, J [] m₁ news₁ → SubL keep news₁ → Fr h₀ env.locals h m₁ → News h₀ env.locals h news₁ → Q .next { s with heap := h, toks := tk }) :
    ∀ (xs : List Itm) (m₁ : Str → Option Value) (news₁ : List (Addr × Obj)), J xs m₁ news₁ → SubL keep news₁ → (∀ p ∈ news₁, ∀ q ∈ ws, p.1 ≠ q.1) → ItemsRest prog w A E h₀ env target body Q s ws keep xs m₁ news₁
  | [], m₁, news₁, hJ, hk, _ => fun h tk F N => done m₁ news₁ h tk hJ hk F N
  | a :: r, m₁, news₁, hJ, hk, hoff => by
    intro v h tk ha F
    have key : ∀ (us : List (Addr × String)) (P : List (Addr × Obj) → Prop), (∀ its, Objs us its → P its) → AllObj us P := by
      intro us
      induction us with
      | nil => intro P hP; exact hP [] trivial
      | cons u us ih =>
        intro P hP
        intro o ho
        exact ih _ fun its hi => hP _ ⟨⟨rfl, ho⟩, hi⟩
    refine key ws _ fun its hits => ?_
    intro N
    have hmap := hits.map
    have hoff' : ∀ p ∈ news₁, ∀ q ∈ its, p.1 ≠ q.1 := fun p hp q hq => by
      have h1 : q.1 ∈ ws.map (·.1) := by rw [← hmap]; exact List.mem_map.mpr ⟨q, hq, rfl⟩
      obtain ⟨q', hq', e⟩ := List.mem_map.mp h1
      rw [← e]; exact hoff p hp q' hq'
    refine wpAny_mono (turn a r v its m₁ news₁ h tk hJ ha hits hk hoff' F N) (fun _ s₂ h₂ => wpAny_mono h₂ (fun f s₃ q => ?_) fun _ _ e => e) fun _ _ e => e
    have fin : (∃ h' tk m' news', s₃ = { s with heap := h', toks := tk } ∧ Fr h₀ env.locals h' m' ∧ News h₀ env.locals h' (its ++ news') ∧ (∀ p ∈ news', ∀ q ∈ its, p.1 ≠ q.1) ∧ SubL keep news' ∧ J r m' news') →
        UnrEndW h₀ env.locals { s with heap := h, toks := tk } its (fun m' n' => SubL keep n' ∧ ItemsRest prog w A E h₀ env target body Q s ws keep r m' n') s₃ := by
      rintro ⟨h', tk', m', news', rfl, F', N', ho, hk', hJ'⟩
      refine ⟨h', tk', m', news', rfl, F', N', ho, hk', itemsInv J turn done r m' news' hJ' hk' fun p hp q hq => ?_⟩
      have h1 : q.1 ∈ its.map (·.1) := by rw [hmap]; exact List.mem_map.mpr ⟨q, hq, rfl⟩
      obtain ⟨q', hq', e⟩ := List.mem_map.mp h1
      rw [← e]; exact ho p hp q' hq'
    cases f with
    | ret v => exact q
    | brk => exact q
    | next => exact fin q
    | cont => exact fin q
end

section
variable {prog : Program} {w : World} {A : Around} {h₀ : Heap} {L : Addr} {m : Str → Option Value} {env : Env} {elt : Expr} {x : Str} {scope : Scope} {cl : List (Str × Addr)} {s : Shared} {S : List (Addr × Obj) → Prop} {P : Nat → Value → Prop} {Fin : List Value → List (Addr × Obj) → Prop}

noncomputable def EltEnd (h₀ : Heap) (L : Addr) (m : Str → Option Value) (s : Shared) (its : List (Addr × Obj)) (J : Value → List (Addr × Obj) → Prop) (y : Value) (s₂ : Shared) : Prop :=
  ∃ h' tk news', s₂ = { s with heap := h', toks := tk } ∧ Fr h₀ L h' m ∧ News h₀ L h' (its ++ news') ∧ (∀ p ∈ news', ∀ q ∈ its, p.1 ≠ q.1) ∧ J y news'
theorem EltEnd.intro {its all : List (Addr × Obj)} {J : Value → List (Addr × Obj) → Prop} {y : Value} {h' : Heap} {tk : Nat} (news' : List (Addr × Obj)) (F : Fr h₀ L h' m) (N : News h₀ L h' all) (hs : ∀ p ∈ its ++ news', p ∈ all)
    (ho : ∀ p ∈ news', ∀ q ∈ its, p.1 ≠ q.1) (j : J y news') : EltEnd h₀ L m s its J y { s with heap := h', toks := tk } := ⟨h', tk, news', rfl, F, fun p hp => N p (hs p hp), ho, j⟩

theorem compInv {n : Nat} {news : List (Addr × Obj)} (J : Nat → List Value → List (Addr × Obj) → Prop) (h0 : J 0 [] news)
    (turn : ∀ (i : Nat) v ys news₁ I oI C oC D m₂ h tk (E' : Value → Shared → Prop), i < n → P i v → J i ys news₁ → LCg.NsObj oC m₂ → m₂ x = some v → (∀ p ∈ news₁, p.1 ≠ I ∧ p.1 ≠ C ∧ p.1 ≠ D) → Fr h₀ L h m → News h₀ L h ((I, oI) :: (C, oC) :: (D, LCg.lst ys) :: news₁) →
      wpAny (model prog w) A (eval elt (compEnvC scope cl C env)) (EltEnd h₀ L m s [(I, oI), (C, oC), (D, LCg.lst ys)] (fun y news' => S news' ∧ J (i + 1) (ys ++ [y]) news')) E' { s with heap := h, toks := tk })
    (fin : ∀ ys news', J n ys news' → Fin ys news') : LCg.CompRest prog w A h₀ L m env elt x scope cl s S P Fin n 0 [] news := by
  have key : ∀ (k i : Nat) ys news₁, i + k = n → J i ys news₁ → LCg.CompRest prog w A h₀ L m env elt x scope cl s S P Fin k i ys news₁ := by
    intro k
    induction k with
    | zero =>
      intro i ys news₁ hi hJ
      have e : i = n := by omega
      subst e
      exact LCg.CompRest.zero (fin _ _ hJ)
    | succ k ih =>
      intro i ys news₁ hi hJ
      refine LCg.CompRest.succ fun v I oI C oC D m₂ h tk E' hP hC hx F N off ne => ?_
      refine wpAny_mono (turn i v ys news₁ I oI C oC D m₂ h tk E' (by omega) hP hJ hC hx off.mem F N) (fun y s₂ q => ?_) fun _ _ e => e
      obtain ⟨h', tk', news', rfl, F', N', ho, hS, hJ'⟩ := q
      refine ⟨h', tk', news', rfl, F', N', LCg.Off3.of fun p hp => ⟨ho p hp (I, oI) (by simp), ho p hp (C, oC) (by simp), ho p hp (D, LCg.lst ys) (by simp)⟩, hS, ih (i + 1) _ _ (by omega) hJ'⟩
  exact key n 0 [] news (by omega) h0
end

theorem lt_off {news : List (Addr × Obj)} {I : Addr} {k : String} (h : ∀ p ∈ news, p.1 < I) : ∀ p ∈ news, ∀ q ∈ [(I, k)], p.1 ≠ q.1 := fun p hp q hq => by
  rw [List.mem_singleton.mp hq]; exact Nat.ne_of_lt (h p hp)
theorem itm_ints_cons {a : Itm} {r : List Itm} {vs : List Value} {ns : List Int} (h : a :: r = vs.map Itm.val) (hi : IntsAre vs ns) :
    ∃ n t vs' ns', a = .val (.int n t) ∧ r = vs'.map Itm.val ∧ ns = n :: ns' ∧ IntsAre vs' ns' := by
  cases hi with
  | nil => cases h
  | cons n t hi' => cases h; exact ⟨n, t, _, _, rfl, rfl, rfl, hi'⟩
theorem itm_ints_nil {vs : List Value} {ns : List Int} (h : [] = vs.map Itm.val) (hi : IntsAre vs ns) : ns = [] := by
  cases hi with
  | nil => rfl
  | cons n t hi' => cases h
theorem powDen {b : Int} (h0 : 0 < b) (h1 : b ≤ 16) {e : Nat} (he : e ≤ 1000) : b ^ e ≠ 0 ∧ (b ^ e).natAbs.log2 < 9000 := by
  obtain ⟨k, rfl⟩ : ∃ k : Nat, b = (k : Int) := ⟨b.toNat, by omega⟩
  have hp : 0 < k ^ e := Nat.pow_pos (by omega)
  have e1 : ((k : Int) ^ e) = ((k ^ e : Nat) : Int) := by norm_cast
  rw [e1]
  refine ⟨by omega, ?_⟩
  rw [Int.natAbs_natCast]
  refine (Nat.log2_lt (by omega)).mpr ?_
  calc k ^ e ≤ 16 ^ e := Nat.pow_le_pow_left (by omega) _
    _ ≤ 16 ^ 1000 := Nat.pow_le_pow_right (by decide) he
    _ < 2 ^ 9000 := by
      rw [show (16 : Nat) = 2 ^ 4 from rfl, ← Nat.pow_mul]
      exact Nat.pow_lt_pow_right (by decide) (by decide)
theorem expBd (x y : Int) : 0 ≤ 3 * (x.fmod 2) + y.fmod 2 - 2 * (x.fmod 2) * (y.fmod 2) ∧ 3 * (x.fmod 2) + y.fmod 2 - 2 * (x.fmod 2) * (y.fmod 2) ≤ 1000000 := by
  have h1 := Int.fmod_nonneg_of_pos x (b := 2) (by decide)
  have h2 := Int.fmod_lt_of_pos x (b := 2) (by decide)
  have h3 := Int.fmod_nonneg_of_pos y (b := 2) (by decide)
  have h4 := Int.fmod_lt_of_pos y (b := 2) (by decide)
  generalize x.fmod 2 = r at *
  generalize y.fmod 2 = q at *
  have h5 : r = 0 ∨ r = 1 := by omega
  rcases h5 with rfl | rfl <;> omega
theorem LeaveP.mk' {h : Heap} {R : Value → Heap → Prop} {Q : Value → Shared → Prop} {s : Shared} {v : Value} {L' : Addr} {m' : Str → Option Value} {h' : Heap} {tk' : Nat} (F : Fr h L' h' m') (r : R v h') : LeaveP h R Q s v { s with heap := h', toks := tk' } := ⟨L', m', h', tk', rfl, F, r⟩
theorem objs_one {I : Addr} {k : String} : ∀ {its : List (Addr × Obj)}, Objs [(I, k)] its → ∃ o, its = [(I, o)] ∧ o.cls = .type k
  | [], h => (show False from h).elim
  | [(a, o)], h => ⟨o, congrArg (fun z => [(z, o)]) h.1.1, h.1.2⟩
  | _ :: _ :: _, h => (show False from h.2).elim
theorem itm_strs_cons {a : Itm} {r : List Itm} {vs : List Value} {ns : List Str} (h : a :: r = vs.map Itm.val) (hi : StrsAre vs ns) :
    ∃ n t vs' ns', a = .val (.str n t) ∧ r = vs'.map Itm.val ∧ ns = n :: ns' ∧ StrsAre vs' ns' := by
  cases hi with
  | nil => cases h
  | cons n t hi' => cases h; exact ⟨n, t, _, _, rfl, rfl, rfl, hi'⟩
theorem itm_strs_nil {vs : List Value} {ns : List Str} (h : [] = vs.map Itm.val) (hi : StrsAre vs ns) : ns = [] := by
  cases hi with
  | nil => rfl
  | cons n t hi' => cases h
theorem strs_push {arr : Array Value} {ss : List Str} (h : StrsAre arr.toList ss) (x : Str) (t : Tok) : StrsAre (arr.push (.str x t)).toList (ss ++ [x]) := by
  rw [Array.toList_push]
  generalize arr.toList = l at h
  induction h with
  | nil => exact .cons x t .nil
  | cons y u _ ih => exact .cons y u ih
theorem ints_push {arr : Array Value} {ss : List Int} (h : IntsAre arr.toList ss) (x : Int) (t : Tok) : IntsAre (arr.push (.int x t)).toList (ss ++ [x]) := by
  rw [Array.toList_push]
  generalize arr.toList = l at h
  induction h with
  | nil => exact .cons x t .nil
  | cons y u _ ih => exact .cons y u ih
theorem keep_head {h₀ h : Heap} {L a : Addr} {o o' : Obj} {its r r' : List (Addr × Obj)} (hk : SubL [(a, o)] ((a, o') :: r)) (N : News h₀ L h (its ++ (a, o') :: r)) : SubL [(a, o)] ((a, o') :: r') := by
  have h1 := (N _ (List.mem_append_right _ hk.1)).1
  have h2 := (N _ (List.mem_append_right _ (List.Mem.head _))).1
  rw [h1] at h2
  cases h2
  exact ⟨List.Mem.head _, trivial⟩
theorem subset_of {α : Type} {l r : List α} (h : ∀ p, p ∈ l → p ∈ r) : ∀ p ∈ l, p ∈ r := h
theorem strs_rev {vs : List Value} {ss : List Str} (h : StrsAre vs ss) : StrsAre vs.reverse ss.reverse := by
  have app : ∀ {a b : List Value} {x y : List Str}, StrsAre a x → StrsAre b y → StrsAre (a ++ b) (x ++ y) := by
    intro a b x y h1 h2
    induction h1 with
    | nil => exact h2
    | cons s t _ ih => exact .cons s t ih
  induction h with
  | nil => exact .nil
  | cons s t _ ih =>
    rw [List.reverse_cons, List.reverse_cons]
    exact app ih (.cons s t .nil)
theorem all_snoc {α : Type} {P : α → Prop} {l : List α} {a : α} (h : ∀ x ∈ l, P x) (ha : P a) : ∀ x ∈ l ++ [a], P x := fun x hx => by
  rcases List.mem_append.mp hx with hx | hx
  · exact h x hx
  · rw [List.mem_singleton.mp hx]; exact ha
theorem all_rev {α : Type} {P : α → Prop} {l : List α} (h : ∀ x ∈ l, P x) : ∀ x ∈ l.reverse, P x := fun x hx => h x (List.mem_reverse.mp hx)
section
variable {prog : Program} {w : World} {A : Around} {E : Value → Shared → Prop} {s : Shared} {x : Str} {t : Tok}
theorem join_ones {D : Addr} {items : Array Value} {ys : List Str} {Q : Value → Shared → Prop} (hl : s.heap.IsList D items) (hi : StrsAre items.toList ys) (hsep : x.length ≤ 16) (h1 : ∀ y ∈ ys, y.length = 1) (hn : ys.length ≤ 1000)
    (h : ∀ t' k, Q (.str (Txt.join x ys) t') { s with toks := k }) : wpAny (model prog w) A (call (.builtin "str.join") [.str x t, .ref D]) Q E s :=
  join_listW hl hi hsep (by rw [sumLen_of_ones _ h1]; omega) h
end
theorem TurnEnd.next1 {h₀ : Heap} {L : Addr} {s : Shared} {I : Addr} {it : Obj} {J : (Str → Option Value) → List (Addr × Obj) → Prop} {Q : Flow → Shared → Prop} {h' : Heap} {tk : Nat} {m' : Str → Option Value} {news' : List (Addr × Obj)}
    (F : Fr h₀ L h' m') (N : News h₀ L h' ((I, it) :: news')) (ho : ∀ p ∈ news', p.1 ≠ I) (j : J m' news') : TurnEnd h₀ L s [(I, it)] J Q .next { s with heap := h', toks := tk } :=
  ⟨h', tk, m', news', rfl, F, N, fun p hp q hq => by rw [List.mem_singleton.mp hq]; exact ho p hp, j⟩
theorem take_snoc {α : Type} {l r : List α} {i : Nat} {c : α} (h : l[i]? = some c) (e : r = l.take i) : r ++ [c] = l.take (i + 1) := by
  rw [e, List.take_add_one, h]; rfl
theorem off3 {news : List (Addr × Obj)} {I C D : Addr} {oI oC oD : Obj} (h : ∀ p ∈ news, p.1 ≠ I ∧ p.1 ≠ C ∧ p.1 ≠ D) : ∀ p ∈ news, ∀ q ∈ [(I, oI), (C, oC), (D, oD)], p.1 ≠ q.1 := fun p hp =>
  all1 (h p hp).1 (all1 (h p hp).2.1 (all1 (h p hp).2.2 all0))
theorem ints_snoc {ys : List Value} {ns : List Int} (h : IntsAre ys ns) (x : Int) (t : Tok) : IntsAre (ys ++ [.int x t]) (ns ++ [x]) := h.append (.cons x t .nil)
theorem map_snoc {β : Type} (f : Nat → β) (i : Nat) : (List.range (i + 1)).map f = (List.range i).map f ++ [f i] := by rw [List.range_succ, List.map_append]; rfl
theorem news_two {h₀ h : Heap} {L : Addr} {a b : Addr × Obj} {r : List (Addr × Obj)} (N : News h₀ L h (a :: b :: r)) : News h₀ L h [a, b] := fun p hp => N p (by
  rcases List.mem_cons.mp hp with rfl | hp
  · exact List.Mem.head _
  · rw [List.mem_singleton.mp hp]; exact List.Mem.tail _ (List.Mem.head _))
end Mine
end
section
open PySem PySem.W PyProof.Rows PySem.Calls PySem.Spec
namespace Mine
section
variable {prog : Program} {w : World} {A : Around} {E : Value → Shared → Prop} {s : Shared}
theorem tup_draw {it l : Addr} {i : Nat} {items : Array Value} {Q : Value → Shared → Prop} (hh : A.handled = none) (hit : s.heap.IsTupleIter it l i) (hl : s.heap.IsTuple l items)
    (more : ∀ x h', items[i]? = some x → h'.IsTupleIter it l (i + 1) → Heap.SameBut it s.heap h' → Q x { s with heap := h' })
    (stop : ∀ h' e oe, items[i]? = none → Heap.ExtBut it s.heap h' → h'.get? e = some oe → oe.cls = .type "StopIteration" → E (.ref e) { s with heap := h' }) :
    wpAny (model prog w) A (PySem.Builtin.SmallTypes.nextOf (.ref it)) Q E s := by
  have hT := hit.typeIs
  obtain ⟨o, ho, hc, hd⟩ := hit
  obtain ⟨ol, hol, _, nl, hdl⟩ := hl
  refine wpAny_bind (wpAny_callSpecial?_slot (name := Str.ofString "__next__") hT F.slot_tuple_iterator_next (wpAny_call_entry F.slot_tuple_iterator_next hT F.entry_tuple_iterator_next ?_ (F.args_tuple_iterator_next_1 _)))
  show wpAny _ _ (field (.ref it) 0 >>= _) _ _ _
  refine wpAny_bind (wpAny_field ho hd (x := .ref l) rfl ?_)
  show wpAny _ _ (field (.ref it) 1 >>= _) _ _ _
  refine wpAny_bind (wpAny_field ho hd (x := .int i 0) rfl ?_)
  show wpAny _ _ (seqItems? (.ref l) >>= _) _ _ _
  refine wpAny_bind (wpAny_seqItems hol hdl ?_)
  cases hx : items[i]? with
  | some x =>
    simp only [Int.toNat_natCast, hx]
    refine wpAny_bind (wpAny_setField ho hd (by simp) (wpAny_pure ⟨x, rfl, wpAny_pure (more _ _ hx ?_ (Heap.SameBut.update ..))⟩))
    refine ⟨_, Heap.get?_update_self _ ho (Obj.isFreed_of_fields (Obj.data_mapFields hd _)), (Obj.cls_mapFields ..).trans hc, ?_⟩
    rw [Obj.data_mapFields hd]; simp [rawInt]
  | none =>
    simp only [Int.toNat_natCast, hx]
    refine wpAny_bind (wpAny_rule (wpAny_bind (wpAny_setField ho hd (by simp) ?_)))
    show wpAny _ _ (newExc (.type "StopIteration") [] >>= _) _ _ _
    refine wpAny_bind ?_
    simp only [newExc, newTuple]
    refine wpAny_bind (wpAny_newObj_type (wpAny_bind (m := firstArgMember _ _) (wpAny_of_eq (a := Value.none) (by first | rfl | (simp only [firstArgMember]; rfl)) (wpAny_newObj_type ?_ (by size_fits)))) (by size_fits))
    simp only [raiseNew]
    refine wpAny_bind (wpAny_handled ?_)
    rw [show A.in1.handled = none from hh]
    exact wpAny_bind (wpAny_pure (wpAny_throw (stop _ _ _ hx (((Heap.SameBut.update ..).extBut.push _).push _) (Heap.get?_push_size _ rfl) rfl)))
end
theorem draws_tup {prog : Program} {w : World} {A : Around} (hh : A.handled = none) (it l : Addr) (hne : l ≠ it) (items : Array Value) :
    Draws prog w A it [it, l] items.size (fun i v => items[i]? = some v) (fun i h => h.IsTupleIter it l i ∧ h.IsTuple l items) :=
  { live := fun _ _ st => st.1.imp fun _ x => x.1
    frame := fun _ _ _ st hk => ⟨st.1.imp fun o x => ⟨hk it (List.mem_cons_self ..) o x.1, x.2⟩, st.2.at fun o => hk l (List.mem_cons_of_mem _ (List.mem_cons_self ..)) o⟩
    item := fun i s Q E hi st hQ => tup_draw hh st.1 st.2 (fun x h' hx hit' hs' => hQ x h' s.toks hx ⟨hit', st.2.extBut hs'.extBut hne⟩ hs')
      fun _ _ _ hx _ _ _ => absurd hx (by rw [Array.getElem?_eq_getElem hi]; exact nofun)
    done := fun s Q E st hE => tup_draw hh st.1 st.2 (fun x _ hx _ _ => absurd hx (by rw [Array.getElem?_eq_none (Nat.le_refl _)]; exact nofun))
      fun h' e oe _ x ho hc => hE h' e x ⟨oe, ho, hc⟩ }

noncomputable abbrev enumOver (it : Addr) : Obj := { cls := .type "enumerate", data := .fields #[.none, .bool false, .ref it, rawInt 0, .none, .none] }
section
variable {prog : Program} {w : World} {A : Around} {E : Value → Shared → Prop} {s : Shared} {env : Env} {h₀ : Heap} {body : List Stmt} {Q : Flow → Shared → Prop} {K : Frag}
open PySem.AutoSeq1 (wpAny_loadPart')
theorem enum_call {l : Addr} {lo : Obj} {items : Array Value} {n : Nat} {Q : Value → Shared → Prop} (hl : s.heap.get? l = some lo) (hc : lo.cls = .type "tuple") (hd : lo.data = .seq items n)
    (h : ∀ h₁ : Heap, h₁ = s.heap.push { cls := .type "tuple_iterator", data := .fields #[.ref l, .int 0 0] } → Q (.ref (s.heap.objs.size + 1)) { s with heap := h₁.push (enumOver s.heap.objs.size) }) :
    wpAny (model prog w) A (call (.type "enumerate") [.ref l]) Q E s := by
  obtain ⟨c, dct, dt, sl⟩ := lo
  simp only at hc hd
  subst hc hd
  have hz : (s.heap.push { cls := .type "tuple_iterator", data := .fields #[.ref l, .int 0 0] }).objs.size = s.heap.objs.size + 1 := Heap.size_push ..
  have new : Meets (PySem.Builtin.«enumerate.__new__» ⟨[.type "enumerate", .ref l], []⟩) (fun _ R s' => s'.heap.get? l = some { cls := .type "tuple", dict := dct, data := .seq items n, slots := sl } ∧ ∀ h₁ : Heap,
      h₁ = s'.heap.push { cls := .type "tuple_iterator", data := .fields #[.ref l, .int 0 0] } → R (.ok (.ret (.ref h₁.objs.size))) { s' with heap := h₁.push (enumOver s'.heap.objs.size) }) :=
    .of_wp fun prog w A R s' hs => by
      obtain ⟨g, _, _, _, _⟩ := s'
      obtain ⟨hg, k⟩ := hs
      have hsub := sub_enumerate
      have hL : g.IsTuple l items := ⟨_, hg, rfl, n, rfl⟩
      wp_walk using wpAny_loadPart' hg
      refine wpAny_stack_any fun st => wpAny_pure ?_
      split
      · rename_i c _ _ _ _ _
        cases (c == Value.type "enumerate") <;> (wp_walk using wpAny_loadPart' hg, wpAny_pyIter_tuple hL; exact ⟨_, rfl, k _ rfl⟩)
      · wp_walk using wpAny_loadPart' hg, wpAny_pyIter_tuple hL
        exact ⟨_, rfl, k _ rfl⟩
  refine callType_new F.called_enumerate (by decide) (F.typeCall_enumerate_1 _) (F.newCall_enumerate_1 _) (fun obj => F.args_object_init_2 obj _) F.entry_enumerate_new new ⟨hl, ?_⟩
  rintro h₁ rfl
  refine ⟨⟨enumOver s.heap.objs.size, ?_, rfl⟩, ?_⟩
  · exact Heap.get?_push_size _ rfl
  · rw [hz]; exact h _ rfl
theorem two_up {h : Heap} {a b : Obj} {x : Addr} {o : Obj} (e : h.get? x = some o) : ((h.push a).push b).get? x = some o := Heap.get?_push_of_some _ (Heap.get?_push_of_some _ e)
theorem enumK {elts : List Expr} {k : Nat} {pos : Pos} {l : Addr} {lo : Obj} {vs : List Value} {n : Nat} {m₀ : Str → Option Value} {news : List (Addr × Obj)}
    (hh : A.handled = none) (F : Fr h₀ env.locals s.heap m₀) (N : News h₀ env.locals s.heap news) (X₀ : K.In h₀) (hk : K.lookup l = some lo) (hc : lo.cls = .type "tuple") (hd : lo.data = .seq vs.toArray n)
    (rest₀ : ∀ I : Addr, (∀ p ∈ news, p.1 < I) → ItemsRest prog w A E h₀ env (.Tuple elts k pos) body Q s [(I + 1, "enumerate"), (I, "tuple_iterator")] [] (enumItems 0 vs) m₀ news) :
    wpAny (model prog w) A (call (.type "enumerate") [.ref l]) (fun xv s₁ => wpAny (model prog w) A (pyIter xv) (fun it s₂ => TurnsAt prog w A h₀ env (.Tuple elts k pos) body Q E it s₂) E s₁) E s := by
  have hg : h₀.get? l = some lo := X₀ _ _ hk
  obtain ⟨I, hI⟩ : ∃ I, I = s.heap.objs.size := ⟨_, rfl⟩
  have below : ∀ {b : Addr}, b < s.heap.objs.size → b ≠ I + 1 ∧ b ≠ I := fun h => ⟨Nat.ne_of_lt (Nat.lt_succ_of_lt (hI ▸ h)), Nat.ne_of_lt (hI ▸ h)⟩
  have hl := below (Heap.lt_size (F.keep _ _ hg))
  have two : ∀ {b : Addr}, b ∈ [I + 1, I] → b = I + 1 ∨ b = I := fun h => by simpa using h
  refine enum_call (F.keep _ _ hg) hc hd fun h₁ e₁ => ?_
  rw [← hI]
  have hit : h₁.get? I = some { cls := .type "tuple_iterator", data := .fields #[.ref l, .int 0 0] } := by rw [e₁, hI]; exact Heap.get?_push_size _ rfl
  have hen : (h₁.push (enumOver I)).get? (I + 1) = some (enumOver I) := by
    have := Heap.get?_push_size h₁ (o := enumOver I) rfl
    rwa [e₁, Heap.size_push, ← hI, ← e₁] at this
  have up : ∀ b o, s.heap.get? b = some o → (h₁.push (enumOver I)).get? b = some o := fun b o e => e₁ ▸ two_up e
  have W := WalksT.enumerateD (prog := prog) (w := w) (A := A) (draws_tup (A := A.in1) hh I l hl.2 vs.toArray) (I + 1) (Nat.succ_ne_self I) (by simp [Ne.symm hl.1]) (List.mem_cons_self ..)
  refine wpAny_pyIter_enum hen (ktg_core (tk0 := s.toks) (keep := []) (KTurns.ofWalksU W.toU) (by simp [enumItems_length]) ?val ?objs ?new (fun b hb => by simpa using hb) ?foot ?loc ?off
    ⟨⟨.none, hen⟩, ⟨_, Heap.get?_push_of_some _ hit, rfl, rfl⟩, ⟨lo, up _ _ (F.keep _ _ hg), hc, n, hd⟩⟩ (F.keeps up) (N.grown up) trivial (rest₀ I fun p hp => hI ▸ Heap.lt_size (N p hp).1))
  case val =>
    rintro i v h ⟨T, vals, rfl, ⟨t, x, hx, rfl⟩, hT⟩
    exact ⟨_, enumItems_get vs 0 i (v := x) (by simpa using hx), T, t, rfl, by rw [Nat.zero_add]; exact hT⟩
  case objs =>
    rintro i h ⟨⟨old, he⟩, ⟨oi, hoi, hic, _⟩, _⟩
    exact ⟨[(I + 1, _), (I, oi)], ⟨⟨rfl, rfl⟩, ⟨rfl, hic⟩, trivial⟩, all1 he (all1 hoi all0)⟩
  case new => exact all1 ⟨by simp, ktu_new F (hI ▸ Nat.le_add_right _ _)⟩ (all1 ⟨by simp, ktu_new F (Nat.le_of_eq hI.symm)⟩ all0)
  case foot => exact all1 (.inl (by simp)) (all1 (.inl (by simp)) (all1 (.inr (.inr ⟨lo, hg⟩)) all0))
  case loc =>
    intro h
    rcases List.mem_cons.mp h with e | h
    · exact (below F.ns.lt).1 e
    · rcases List.mem_cons.mp h with e | h
      · exact (below F.ns.lt).2 e
      · exact absurd (Heap.lt_size hg) (Nat.not_lt.mpr (List.mem_singleton.mp h ▸ F.above))
  case off =>
    intro p hp h
    have := below (Heap.lt_size (N p hp).1)
    rcases two h with e | e
    · exact this.1 e
    · exact this.2 e
end

theorem fr_ext {h₀ h h' : Heap} {L I : Addr} {m : Str → Option Value} (F : Fr h₀ L h m) (x : Heap.ExtBut I h h') (hL : L ≠ I) (hI : h₀.get? I = none) : Fr h₀ L h' m :=
  ⟨F.ns.at fun o e => x L o hL e, fun b o e => x b o (fun q => by rw [q, hI] at e; cases e) (F.keep b o e), F.above⟩
section
variable {prog : Program} {w : World} {A : Around} {s : Shared} {env : Env} {h₀ : Heap} {target : Expr} {body orelse : List Stmt} {Q : Flow → Shared → Prop}
noncomputable def ElseRest (prog : Program) (w : World) (A : Around) (h₀ : Heap) (env : Env) (target : Expr) (body orelse : List Stmt) (Q : Flow → Shared → Prop) (s : Shared) (I : Addr) : List Value → (Str → Option Value) → List (Addr × Obj) → Prop
  | [], m, news => ∀ h tk, Fr h₀ env.locals h m → News h₀ env.locals h news → wpAny (model prog w) A (execs orelse env) Q (fun _ _ => False) { s with heap := h, toks := tk }
  | v :: r, m, news => ∀ it h tk, Fr h₀ env.locals h m → News h₀ env.locals h ((I, it) :: news) → (∀ p ∈ news, p.1 ≠ I) →
      wpAny (model prog w) A (assign target env v) (fun _ s₂ => wpAny (model prog w) A (execs body env) (TurnEnd h₀ env.locals s [(I, it)] (ElseRest prog w A h₀ env target body orelse Q s I r) Q) (fun _ _ => False) s₂) (fun _ _ => False) { s with heap := h, toks := tk }
theorem ElseRest.zero {I : Addr} {m : Str → Option Value} {news : List (Addr × Obj)} (h : ∀ h tk, Fr h₀ env.locals h m → News h₀ env.locals h news → wpAny (model prog w) A (execs orelse env) Q (fun _ _ => False) { s with heap := h, toks := tk }) :
    ElseRest prog w A h₀ env target body orelse Q s I [] m news := h
theorem ElseRest.succ {I : Addr} {v : Value} {r : List Value} {m : Str → Option Value} {news : List (Addr × Obj)} (h : ∀ it h tk, Fr h₀ env.locals h m → News h₀ env.locals h ((I, it) :: news) → (∀ p ∈ news, p.1 ≠ I) →
      wpAny (model prog w) A (assign target env v) (fun _ s₂ => wpAny (model prog w) A (execs body env) (TurnEnd h₀ env.locals s [(I, it)] (ElseRest prog w A h₀ env target body orelse Q s I r) Q) (fun _ _ => False) s₂) (fun _ _ => False) { s with heap := h, toks := tk }) :
    ElseRest prog w A h₀ env target body orelse Q s I (v :: r) m news := h

noncomputable def ElseSrc (prog : Program) (w : World) (A : Around) (h₀ : Heap) (env : Env) (target : Expr) (body orelse : List Stmt) (Q : Flow → Shared → Prop) (xv : Value) (s₁ : Shared) : Prop :=
  ∃ ax lo vs n m news, xv = .ref ax ∧ h₀.get? ax = some lo ∧ lo.cls = .type "tuple" ∧ lo.data = .seq (List.toArray vs) n ∧ Fr h₀ env.locals s₁.heap m ∧ News h₀ env.locals s₁.heap news ∧
      ∀ I : Addr, (∀ p ∈ news, p.1 < I) → ElseRest prog w A h₀ env target body orelse Q s₁ I vs m news
theorem ElseSrc.intro {ax : Addr} {lo : Obj} {vs : List Value} {n : Nat} {m : Str → Option Value} {news : List (Addr × Obj)} (hg : h₀.get? ax = some lo) (hc : lo.cls = .type "tuple") (hd : lo.data = .seq (List.toArray vs) n) (F : Fr h₀ env.locals s.heap m) (N : News h₀ env.locals s.heap news)
    (h : ∀ I : Addr, (∀ p ∈ news, p.1 < I) → ElseRest prog w A h₀ env target body orelse Q s I vs m news) : ElseSrc prog w A h₀ env target body orelse Q (.ref ax) s := ⟨ax, lo, vs, n, m, news, rfl, hg, hc, hd, F, N, h⟩
theorem forElse {iter : Expr} {pos : Pos} (hh : A.handled = none)
    (h : wpAny (model prog w) A (eval iter env) (ElseSrc prog w A h₀ env target body orelse Q) (fun _ _ => False) s)
    (hs : ∀ x, foldedSetIterable iter env x = pure x := by intro _; rfl) :
    wpAny (model prog w) A (exec (.For target iter body orelse pos) env) Q (fun _ _ => False) s := by
  refine wpAny_For (wpAny_mono h (fun xv s₁ h₁ => ?_) fun _ _ e => e) hs
  obtain ⟨ax, lo, vs, n, m, news, rfl, hg, hc, hd, F, N, rest₀⟩ := h₁
  have hl : s₁.heap.IsTuple ax vs.toArray := ⟨lo, F.keep _ _ hg, hc, n, hd⟩
  have hlt : ax < s₁.heap.objs.size := Heap.lt_size (F.keep _ _ hg)
  have rest := rest₀ s₁.heap.objs.size fun p hp => Heap.lt_size (N p hp).1
  refine wpAny_pyIter_tuple hl ?_
  have hI₀ : h₀.get? s₁.heap.objs.size = none := next_is_new F
  have hLI : env.locals ≠ s₁.heap.objs.size := Nat.ne_of_lt F.ns.lt
  refine codeAny_forLoop_any
    (fun k s' => ∃ h' tk m' news' i, s' = { s₁ with heap := h', toks := tk } ∧ h'.IsTupleIter s₁.heap.objs.size ax i ∧ Fr h₀ env.locals h' m' ∧ News h₀ env.locals h' news' ∧ (∀ p ∈ news', p.1 ≠ s₁.heap.objs.size) ∧ i ≤ vs.length ∧ k = vs.length + 1 - i ∧
      ElseRest prog w A h₀ env target body orelse Q s₁ s₁.heap.objs.size (vs.drop i) m' news') ?_ (vs.length + 1)
    ⟨_, s₁.toks, m, news, 0, rfl, ⟨_, Heap.get?_push_size _ rfl, rfl, rfl⟩, F.push _, (fun p hp => ⟨Heap.get?_push_of_some _ (N p hp).1, (N p hp).2⟩), (fun p hp => Nat.ne_of_lt (Heap.lt_size (N p hp).1)), Nat.zero_le _, rfl, by rw [List.drop_zero]; exact rest⟩
  rintro k s' ⟨h', tk, m', news', i, rfl, hit, F', N', hoff, hi, rfl, R'⟩
  have hl' : h'.IsTuple ax vs.toArray := ⟨lo, F'.keep _ _ hg, hc, n, hd⟩
  by_cases hin : i < vs.length
  · have hx : vs.toArray[i]? = some vs[i] := by simp [hin]
    refine wpAny_pyNext_tuple_item hit hl' hx fun h₁ hit₁ hs₁ => ?_
    refine letGo_tupleiter hit₁ ?_
    have hs₁' : Heap.SameBut s₁.heap.objs.size h' h₁ := hs₁
    have F₁ : Fr h₀ env.locals h₁ m' := F'.change hs₁' (Ne.symm hLI) hI₀
    obtain ⟨o, ho, hoc, hod⟩ := id hit₁
    have N₁ : News h₀ env.locals h₁ ((s₁.heap.objs.size, o) :: news') := fun p hp => by
      rcases List.mem_cons.mp hp with rfl | hp
      · exact ⟨ho, Ne.symm hLI, hI₀⟩
      · exact ⟨hs₁'.extBut _ _ (hoff p hp) (N' p hp).1, (N' p hp).2⟩
    rw [List.drop_eq_getElem_cons hin] at R'
    refine wpAny_mono (R' o h₁ tk F₁ N₁ hoff) (fun _ s₂ h₂ => wpAny_mono h₂ (fun f s₃ h₃ => ?_) fun _ _ e => e.elim) fun _ _ e => e.elim
    have fin : (∃ h' tk m' news', s₃ = { s₁ with heap := h', toks := tk } ∧ Fr h₀ env.locals h' m' ∧ News h₀ env.locals h' ([(s₁.heap.objs.size, o)] ++ news') ∧ (∀ p ∈ news', ∀ q ∈ [(s₁.heap.objs.size, o)], p.1 ≠ q.1) ∧ ElseRest prog w A h₀ env target body orelse Q s₁ s₁.heap.objs.size (vs.drop (i + 1)) m' news') →
        ∃ m, m < vs.length + 1 - i ∧ ∃ h' tk m' news' i, s₃ = { s₁ with heap := h', toks := tk } ∧ h'.IsTupleIter s₁.heap.objs.size ax i ∧ Fr h₀ env.locals h' m' ∧ News h₀ env.locals h' news' ∧ (∀ p ∈ news', p.1 ≠ s₁.heap.objs.size) ∧ i ≤ vs.length ∧ m = vs.length + 1 - i ∧
          ElseRest prog w A h₀ env target body orelse Q s₁ s₁.heap.objs.size (vs.drop i) m' news' := by
      rintro ⟨g₃, tk₃, m₃, news₃, rfl, F₃, N₃, ho₃, R₃⟩
      exact ⟨vs.length + 1 - (i + 1), by omega, g₃, tk₃, m₃, news₃, i + 1, rfl, ⟨o, (N₃ _ (List.Mem.head _)).1, hoc, hod⟩, F₃, fun p hp => N₃ p (List.mem_append_right _ hp), fun p hp => ho₃ p hp _ (List.Mem.head _), hin, rfl, R₃⟩
    cases f with
    | ret v => exact h₃
    | brk => exact h₃
    | next => exact fin h₃
    | cont => exact fin h₃
  · have e : i = vs.length := by omega
    subst e
    refine wpAny_pyNext_tuple_end hh hit hl' (by simp) fun h₁ he₁ => ?_
    have he₁' : Heap.ExtBut s₁.heap.objs.size h' h₁ := he₁
    rw [List.drop_length] at R'
    have F₁ : Fr h₀ env.locals h₁ m' := fr_ext F' he₁' hLI hI₀
    refine wpAny_mono (R' h₁ tk F₁ fun p hp => ⟨he₁' _ _ (hoff p hp) (N' p hp).1, (N' p hp).2⟩) (fun f s₃ h₃ => h₃) fun _ _ e => e.elim
end
end Mine
end
section
open PySem PySem.W PyProof.Rows PySem.Calls PySem.Spec
namespace Mine
open PyProof.Rows.LCg
section
variable {prog : Program} {w : World} {A : Around} {E : Value → Shared → Prop} {s : Shared} {h₀ : Heap} {L : Addr} {m : Str → Option Value} {env : Env}
noncomputable def SrcStep (prog : Program) (w : World) (A : Around) (h₀ : Heap) (L : Addr) (m : Str → Option Value) (env : Env) (elt : Expr) (x : Str) (scope : Scope) (cl : List (Str × Addr)) (Fin : Shared → List Value → List (Addr × Obj) → Prop) (xv : Value) (s₁ : Shared) : Prop :=
  ∃ r a b c t u v n news, xv = .ref r ∧ A.handled = none ∧ Fr h₀ L s₁.heap m ∧ News h₀ L s₁.heap news ∧ IsRange s₁.heap r a b c t u v ∧ Builtin.Range.small a b c = true ∧ Builtin.Range.rangeSize a b c = ((n : Nat) : Int) ∧ n ≤ sizeLine ∧
    ∀ g, CompRest prog w A h₀ L m env elt x scope cl { s₁ with heap := g } (fun _ => True) (fun i v => ∃ t, v = .int (a + (i : Int) * c) t) (Fin { s₁ with heap := g }) n 0 [] news
theorem SrcStep.intro {elt : Expr} {x : Str} {scope : Scope} {cl : List (Str × Addr)} {Fin : Shared → List Value → List (Addr × Obj) → Prop} {r : Addr} {a b c : Int} {t u v : Tok} {n : Nat} {news : List (Addr × Obj)}
    (hh : A.handled = none) (F : Fr h₀ L s.heap m) (N : News h₀ L s.heap news) (hr : IsRange s.heap r a b c t u v) (hsm : Builtin.Range.small a b c = true) (hn : Builtin.Range.rangeSize a b c = ((n : Nat) : Int)) (hsz : n ≤ sizeLine)
    (h : ∀ g, CompRest prog w A h₀ L m env elt x scope cl { s with heap := g } (fun _ => True) (fun i v => ∃ t, v = .int (a + (i : Int) * c) t) (Fin { s with heap := g }) n 0 [] news) :
    SrcStep prog w A h₀ L m env elt x scope cl Fin (.ref r) s := ⟨r, a, b, c, t, u, v, n, news, rfl, hh, F, N, hr, hsm, hn, hsz, h⟩
theorem rangeStep_st {I : Addr} {a c : Int} {n : Nat} : ∀ i (h h' : Heap) (o : Obj) (nw : List (Addr × Obj)), IsRangeIter h I (a + (i : Nat) * c) ((n : Int) - (i : Nat)) c → h.get? I = some o → h'.get? I = some o → (∀ b o, h₀.get? b = some o → h'.get? b = some o) → News h₀ L h' nw → True → IsRangeIter h' I (a + (i : Nat) * c) ((n : Int) - (i : Nat)) c :=
  fun i h h' o nw st e e' _ _ _ => by
    have st' : h.get? I = some _ := st
    show h'.get? I = some _
    rw [e', ← e]; exact st'

theorem assignCompStep {elt iter : Expr} {x y : Str} {px py : Pos} {scope : Scope} {cl : List (Str × Addr)} {pos spos : Pos} {Q : Flow → Shared → Prop} (_F₀ : Fr h₀ L s.heap m) (hLe : env.locals = L)
    (hsw : swapsWith (.ListComp elt [⟨.Name x px, iter, [], 0⟩] scope pos) (some (.Name y py)) spos.line env = pure true)
    (hclos : closureFor scope env = pure cl) (hcell : ∀ z ∈ scope.names, z.2 ≠ .cell) (hkind : scope.kind = .function)
    (hnames : ∀ z ∈ scope.names, z.2 = .local → scope.names.lookup z.1 = some .local) (hx : scope.names.lookup x = some .local)
    (hy : env.kindOf y = some .local) (hp : (env.scope.kind == .class || (env.scope.kind == .module && env.locals != env.globals)) = false)
    (h : wpAny (model prog w) A (eval iter env) (SrcStep prog w A h₀ L m env elt x scope cl (fun s₂ => FinA h₀ L m s₂ y Q)) E s)
    (hs : ∀ x, foldedSetIterable iter env x = pure x := by intro _; rfl) :
    wpAny (model prog w) A (exec (.Assign [.Name y py] (.ListComp elt [⟨.Name x px, iter, [], 0⟩] scope pos) spos) env) Q E s := by
  subst hLe
  rw [exec_Assign_Name_used _ _ _ _ hsw]
  refine wpAny_bind (wpAny_standAt (wpAny_bind ?_))
  show wpAny _ A (do let _ ← comprehension (.ListComp elt [⟨.Name x px, iter, [], 0⟩] scope pos) scope env _ (newList []) false (eval iter env) (some (assign (.Name y py) env))) _ _ s
  refine wpAny_bind (wpAny_mono (wpAny_comprehension_free (use := some (assign (.Name y py) env)) (Q := fun _ s' => Q .next s') rfl hs hclos hkind hnames
    (wpAny_mono h (fun xv s₁ h₁ => ?_) fun _ _ e => e)) (fun _ s' hq => wpAny_pure (wpAny_pure hq)) fun _ _ e => e)
  obtain ⟨r, a, b, c, t, u, v, n, news, rfl, hh, F, N, hr, hsm, hn, hsz, R⟩ := h₁
  refine wpAny_pyIter_range hr hsm ?_
  have hI₀ := next_is_new F
  refine block_U (Walks.range hh s₁.heap.objs.size a c n) hsz (fun i h st => ⟨_, st⟩) rangeStep_st hcell hkind hx (by show IsRangeIter _ _ _ _ _; rw [hn]; simpa using Heap.get?_push_size _ rfl) (fun b' hb => ?_)
    (F.keeps fun _ _ e => Heap.get?_push_of_some _ e) (N.grown fun _ _ e => Heap.get?_push_of_some _ e) (Nat.ne_of_lt F.ns.lt) hI₀ (fun p hp => Nat.ne_of_lt (Heap.lt_size (N p hp).1)) trivial (R _) ?_
  · rw [List.mem_singleton.mp hb]
    show s₁.heap.objs.size < (s₁.heap.push _).objs.size
    rw [Heap.size_push]; exact Nat.lt_succ_self _
  · intro D C h' tk m' ys news' F' N' o1 hn' hC₀ hD₀ hCL hDL hCD offC fin
    show wpAny _ A (assign (.Name y py) env (.ref D)) _ _ _
    refine wpAny_assign_Name (wpAny_storeName_local hy F'.ns (fun h₂ hn₂ hs₂ => ?_) hp)
    have hL₀ : h₀.get? env.locals = none := Heap.get?_none_of_le F'.above
    have F₂ : Fr h₀ env.locals h₂ (fun z => if z = y then some (.ref D) else m z) := ⟨hn₂, fun b o e => hs₂.extBut b o (fun q => by rw [q, hL₀] at e; cases e) (F'.keep b o e), F'.above⟩
    refine ⟨m', hn'.sameBut hs₂ hCL, fun h'' hs'' => fin D h'' _ (F₂.change hs'' hCL hC₀) (fun p hp => ?_) o1⟩
    have z : h₂.get? p.1 = some p.2 := hs₂.extBut _ _ (N' p hp).2.1 (N' p hp).1
    refine ⟨hs''.extBut _ _ ?_ z, (N' p hp).2⟩
    rcases List.mem_cons.mp hp with rfl | hp
    · exact Ne.symm hCD
    · exact offC p hp
end
end Mine
end
section
open PySem PySem.W PyProof.Rows PySem.Calls PySem.Spec
namespace Mine
open PyProof.Rows.LCg
structure Gd (h₀ : Heap) (L I D C : Addr) (news : List (Addr × Obj)) : Prop where
  li : L ≠ I
  i0 : h₀.get? I = none
  dl : D ≠ L
  d0 : h₀.get? D = none
  cl : C ≠ L
  c0 : h₀.get? C = none
  dc : D ≠ C
  id : I ≠ D
  ic : I ≠ C
  off : ∀ p ∈ news, p.1 ≠ I ∧ p.1 ≠ C ∧ p.1 ≠ D
section
variable {h₀ h h' : Heap} {L I D C : Addr} {m m' : Str → Option Value} {news news' : List (Addr × Obj)} {o oI oC : Obj}
theorem Gd.turn (g : Gd h₀ L I D C news) (k : ∀ p ∈ news', p.1 ≠ I ∧ p.1 ≠ C ∧ p.1 ≠ D) : Gd h₀ L I D C news' := { g with off := k }
theorem same_led {c : Addr} (hs : Heap.SameBut c h h') (N : News h₀ L h news) (k : ∀ p ∈ news, p.1 ≠ c) : News h₀ L h' news := fun p hp => ⟨hs.extBut _ _ (k p hp) (N p hp).1, (N p hp).2⟩
theorem Gd.draw (g : Gd h₀ L I D C news) (F : Fr h₀ L h m) (n : h.Ns C m') (N : News h₀ L h ((D, o) :: news)) (k : ∀ b x, b ∉ [I] → h.get? b = some x → h'.get? b = some x) :
    Fr h₀ L h' m ∧ h'.Ns C m' ∧ News h₀ L h' ((D, o) :: news) :=
  ⟨fr_but F k g.li g.i0, n.at' fun o e => k _ o (fun q => g.ic (List.mem_singleton.mp q).symm) e, news_but N k (List.forall_mem_cons.mpr ⟨Ne.symm g.id, fun p hp => (g.off p hp).1⟩)⟩
theorem Gd.store (g : Gd h₀ L I D C news) (F : Fr h₀ L h m) (N : News h₀ L h ((D, o) :: news)) (hs : Heap.SameBut C h h') : Fr h₀ L h' m ∧ News h₀ L h' ((D, o) :: news) :=
  ⟨F.change hs g.cl g.c0, same_led hs N (List.forall_mem_cons.mpr ⟨g.dc, fun p hp => (g.off p hp).2.1⟩)⟩
theorem Gd.grow (g : Gd h₀ L I D C news) (F : Fr h₀ L h m) (n : h.Ns C m') (N : News h₀ L h news) (hs : Heap.SameBut D h h') (hD : h'.get? D = some o) : Fr h₀ L h' m ∧ h'.Ns C m' ∧ News h₀ L h' ((D, o) :: news) :=
  ⟨F.change hs g.dl g.d0, n.sameBut hs (Ne.symm g.dc), List.forall_mem_cons.mpr ⟨⟨hD, g.dl, g.d0⟩, same_led hs N fun p hp => (g.off p hp).2.2⟩⟩
theorem Gd.three (g : Gd h₀ L I D C news) (N : News h₀ L h ((D, o) :: news)) (eI : h.get? I = some oI) (eC : h.get? C = some oC) : News h₀ L h ((I, oI) :: (C, oC) :: (D, o) :: news) :=
  List.forall_mem_cons.mpr ⟨⟨eI, Ne.symm g.li, g.i0⟩, List.forall_mem_cons.mpr ⟨⟨eC, g.cl, g.c0⟩, N⟩⟩
end
section
variable {prog : Program} {w : World} {A : Around} {E : Value → Shared → Prop} {s : Shared} {h₀ : Heap} {L : Addr} {m : Str → Option Value} {env : Env}
noncomputable def Ground (prog : Program) (w : World) (A : Around) (h₀ : Heap) (L : Addr) (m : Str → Option Value) (env : Env) (e : Expr) (scope : Scope) (cl : List (Str × Addr)) (Q : Value → Shared → Prop) (it : Value) (s : Shared) : Prop :=
  ∃ (I : Addr) (news : List (Addr × Obj)), it = .ref I ∧ Fr h₀ L s.heap m ∧ News h₀ L s.heap news ∧ I < s.heap.objs.size ∧ L ≠ I ∧ h₀.get? I = none ∧ (∀ p ∈ news, p.1 ≠ I) ∧
    ∀ D C h₁ tk m₁ (R : Result → Shared → Prop), Gd h₀ L I D C news → (∀ b, b < s.heap.objs.size → b ≠ D ∧ b ≠ C) → Fr h₀ L h₁ m → h₁.Ns C m₁ → News h₀ L h₁ ((D, lst []) :: news) → (∀ b o, s.heap.get? b = some o → h₁.get? b = some o) →
      (∀ h tk m' ys news', Gd h₀ L I D C news' → Fr h₀ L h m → h.Ns C m' → News h₀ L h ((D, lst ys) :: news') → (∀ h₂, Fr h₀ L h₂ m → News h₀ L h₂ ((D, lst ys) :: news') → Q (.ref D) { s with heap := h₂, toks := tk }) → R (.ok .next) { s with heap := h, toks := tk }) →
      codeAny (model prog w) A (.compStart e 0 (.ref I) (.ref D) (compEnvC scope cl C env)) R { s with heap := h₁, toks := tk }
theorem comp_own {elt target iter : Expr} {ifs : List Expr} {gs : List Comprehension} {scope : Scope} {cl : List (Str × Addr)} {pos : Pos} {Q : Value → Shared → Prop}
    (hclos : closureFor scope env = pure cl) (hcell : ∀ y ∈ scope.names, y.2 ≠ .cell) (hkind : scope.kind = .function) (hnames : ∀ y ∈ scope.names, y.2 = .local → scope.names.lookup y.1 = some .local)
    (h : wpAny (model prog w) A (eval iter env) (fun xv s₁ => wpAny (model prog w) A (pyIter xv) (Ground prog w A h₀ L m env (.ListComp elt (⟨target, iter, ifs, 0⟩ :: gs) scope pos) scope cl Q) E s₁) E s)
    (hs : ∀ x, foldedSetIterable iter env x = pure x) : wpAny (model prog w) A (eval (.ListComp elt (⟨target, iter, ifs, 0⟩ :: gs) scope pos) env) Q E s := by
  rw [eval_ListComp]
  refine wpAny_comprehension_free (e := .ListComp elt (⟨target, iter, ifs, 0⟩ :: gs) scope pos) (g := ⟨target, iter, ifs, 0⟩) (gs := gs) (use := none) rfl hs hclos hkind hnames (wpAny_mono h (fun xv s₁ h₁ => wpAny_mono h₁ (fun it s₂ h₂ => ?_) fun _ _ e => e) fun _ _ e => e)
  obtain ⟨I, news, rfl, F, N, hI, hLI, hI₀, off, loop⟩ := h₂
  refine wpAny_newObj_type (wpAny_newFunctionEnv hcell (fun _ hy => absurd hy (List.not_mem_nil)) (fun h₁ hn hsb => ?_) hkind)
  obtain ⟨D, hD⟩ : ∃ D, D = s₂.heap.objs.size := ⟨_, rfl⟩
  have lay : ∀ hp : Heap, hp = s₂.heap.push (lst []) → hp.objs.size = D + 1 ∧ hp.get? D = some (lst []) ∧ ∀ b o, s₂.heap.get? b = some o → hp.get? b = some o := by
    rintro hp rfl
    exact ⟨by rw [Heap.size_push, hD], hD ▸ Heap.get?_push_size _ rfl, fun b o e => Heap.get?_push_of_some _ e⟩
  obtain ⟨z, zD, up⟩ := lay (s₂.heap.push { cls := .type "list", dict := none, data := .seq ([] : List Value).toArray }) rfl
  dsimp only at hn hsb ⊢
  rw [z] at hn hsb ⊢
  rw [← hD]
  have lt : ∀ b, b < s₂.heap.objs.size → b ≠ D ∧ b ≠ D + 1 := fun b hb => ⟨hD ▸ Nat.ne_of_lt hb, Nat.ne_of_lt (Nat.lt_succ_of_lt (hD ▸ hb))⟩
  have old : ∀ b o, b ≠ D + 1 → (s₂.heap.push { cls := .type "list", dict := none, data := .seq ([] : List Value).toArray }).get? b = some o → h₁.get? b = some o := fun b o hb e => hsb.extBut b o hb (Heap.get?_push_of_some _ e)
  have old' : ∀ b o, s₂.heap.get? b = some o → h₁.get? b = some o := fun b o e => old b o (lt b (Heap.lt_size e)).2 (up b o e)
  have G : Gd h₀ L I D (D + 1) news :=
    { li := hLI, i0 := hI₀, dl := Ne.symm (lt L F.ns.lt).1, d0 := ktu_new F (Nat.le_of_eq hD.symm), cl := Ne.symm (lt L F.ns.lt).2, c0 := ktu_new F (hD ▸ Nat.le_succ _), dc := Nat.ne_of_lt (Nat.lt_succ_self D),
      id := (lt I hI).1, ic := (lt I hI).2, off := fun p hp => ⟨off p hp, (lt _ (Heap.lt_size (N p hp).1)).2, (lt _ (Heap.lt_size (N p hp).1)).1⟩ }
  refine loop D (D + 1) h₁ _ _ _ G lt (F.keeps old') hn (List.forall_mem_cons.mpr ⟨⟨old D _ G.dc zD, G.dl, G.d0⟩, N.grown old'⟩) old' fun h₃ tk m' ys news' G' F' n' N' fin => ?_
  exact ⟨m', n', fun h₄ hs₄ => fin h₄ (G'.store F' N' hs₄).1 (G'.store F' N' hs₄).2⟩
theorem ground_list {elt target iter : Expr} {ifs : List Expr} {gs : List Comprehension} {scope : Scope} {cl : List (Str × Addr)} {pos : Pos} {Q : Value → Shared → Prop} {ax : Addr} {its : Array Value} {news : List (Addr × Obj)}
    (hh : A.handled = none) (F : Fr h₀ L s.heap m) (N : News h₀ L s.heap news) (S : SrcAt h₀ ax its news)
    (body : ∀ I D C h₁ tk m₁ (R : Result → Shared → Prop), Gd h₀ L I D C news → ax ≠ I → ax ≠ D → ax ≠ C → h₁.IsListIter I ax 0 ∧ h₁.IsList ax its → Fr h₀ L h₁ m → h₁.Ns C m₁ → News h₀ L h₁ ((D, lst []) :: news) →
      (∀ h tk m' ys news', Gd h₀ L I D C news' → Fr h₀ L h m → h.Ns C m' → News h₀ L h ((D, lst ys) :: news') → (∀ h₂, Fr h₀ L h₂ m → News h₀ L h₂ ((D, lst ys) :: news') → Q (.ref D) { s with heap := h₂, toks := tk }) → R (.ok .next) { s with heap := h, toks := tk }) →
      codeAny (model prog w) A (.compLoop (.ListComp elt (⟨target, iter, ifs, 0⟩ :: gs) scope pos) 0 (.ref I) (.ref D) (compEnvC scope cl C env)) R { s with heap := h₁, toks := tk }) :
    wpAny (model prog w) A (pyIter (.ref ax)) (Ground prog w A h₀ L m env (.ListComp elt (⟨target, iter, ifs, 0⟩ :: gs) scope pos) scope cl Q) E s := by
  have hl := S.list F.keep N
  have hlt : ax < s.heap.objs.size := by obtain ⟨_, e, _⟩ := hl; exact Heap.lt_size e
  refine wpAny_pyIter_list hl ⟨_, news, rfl, F.push _, N.grown fun _ _ e => Heap.get?_push_of_some _ e, ?_, Nat.ne_of_lt F.ns.lt, next_is_new F, fun p hp => Nat.ne_of_lt (Heap.lt_size (N p hp).1), fun D C h₁ tk m₁ R g lt F₁ n₁ N₁ old fin => ?_⟩
  · show _ < (Heap.push _ _).objs.size
    rw [Heap.size_push]; exact Nat.lt_succ_self _
  · have W := Walks.list (prog := prog) (w := w) (A := A) hh s.heap.objs.size ax (Nat.ne_of_lt hlt) its
    have st : h₁.IsListIter s.heap.objs.size ax 0 ∧ h₁.IsList ax its := W.frame 0 _ _ ⟨⟨_, Heap.get?_push_size _ rfl, rfl, rfl⟩, hl.push _⟩ fun b _ o e => old b o e
    have q := lt ax (by show _ < (Heap.push _ _).objs.size; rw [Heap.size_push]; exact Nat.lt_succ_of_lt hlt)
    have loop := body _ D C h₁ tk m₁ R g (Nat.ne_of_lt hlt) q.1 q.2 st F₁ n₁ N₁ fin
    exact codeAny_compStart_list loop (W.self 0 _ _ _ st loop)
theorem comp_name {I D C : Addr} {x : Str} {p : Pos} {v : Value} {scope : Scope} {cl : List (Str × Addr)} {m' : Str → Option Value} {news : List (Addr × Obj)} {o : Obj} {Q : Unit → Shared → Prop} (hkind : scope.kind = .function) (hx : scope.names.lookup x = some .local)
    (G : Gd h₀ L I D C news) (F : Fr h₀ L s.heap m) (n : s.heap.Ns C m') (N : News h₀ L s.heap ((D, o) :: news))
    (k : ∀ h tk, Fr h₀ L h m → h.Ns C (fun z => if z = x then some v else m' z) → News h₀ L h ((D, o) :: news) → (∀ b y, b ≠ C → s.heap.get? b = some y → h.get? b = some y) → Q () { s with heap := h, toks := tk }) :
    wpAny (model prog w) A (assign (.Name x p) (compEnvC scope cl C env) v) Q E s :=
  wpAny_assign_Name (wpAny_storeName_local (lookup_relabel_local hx) n (fun h' hn hs => k h' _ (G.store F N hs).1 hn (G.store F N hs).2 hs.extBut) (by simp [compEnvC, relabel, hkind]))
end
end Mine
end
section
open PySem PySem.W PyProof.Rows PySem.Calls PySem.Spec
namespace Mine
open PyProof.Rows.LCg
section
variable {prog : Program} {w : World} {A : Around} {E : Value → Shared → Prop} {s : Shared} {h₀ : Heap} {L : Addr} {m : Str → Option Value} {env : Env}
noncomputable def Turn3 (prog : Program) (w : World) (A : Around) (h₀ : Heap) (L : Addr) (m : Str → Option Value) (env : Env) (elt : Expr) (x₁ x₂ x₃ : Str) (scope : Scope) (cl : List (Str × Addr)) (ax : Addr) (its : Array Value) (J : Nat → List Value → List (Addr × Obj) → Prop) (s : Shared) : Prop :=
  ∀ (i : Nat) v ys news₁, its[i]? = some v → J i ys news₁ → SrcAt h₀ ax its news₁ → ∃ (t : Addr) (ot : Obj) (v₁ v₂ v₃ : Value) (nt : Nat), v = .ref t ∧ (t, ot) ∈ news₁ ∧ ot.cls = .type "tuple" ∧ ot.data = .seq #[v₁, v₂, v₃] nt ∧
    ∀ I oI C oC D m₂ h tk (E' : Value → Shared → Prop), NsObj oC m₂ → m₂ x₁ = some v₁ → m₂ x₂ = some v₂ → m₂ x₃ = some v₃ → (∀ p ∈ news₁, p.1 ≠ I ∧ p.1 ≠ C ∧ p.1 ≠ D) → Fr h₀ L h m → News h₀ L h ((I, oI) :: (C, oC) :: (D, lst ys) :: news₁) →
      wpAny (model prog w) A (eval elt (compEnvC scope cl C env)) (EltEnd h₀ L m s [(I, oI), (C, oC), (D, lst ys)] (fun y news' => SrcAt h₀ ax its news' ∧ J (i + 1) (ys ++ [y]) news')) E' { s with heap := h, toks := tk }
noncomputable def Src3 (prog : Program) (w : World) (A : Around) (h₀ : Heap) (L : Addr) (m : Str → Option Value) (env : Env) (elt : Expr) (x₁ x₂ x₃ : Str) (scope : Scope) (cl : List (Str × Addr)) (Fin : Shared → List Value → List (Addr × Obj) → Prop) (xv : Value) (s₁ : Shared) : Prop :=
  ∃ ax its news J, xv = .ref ax ∧ A.handled = none ∧ Fr h₀ L s₁.heap m ∧ News h₀ L s₁.heap news ∧ SrcAt h₀ ax its news ∧ its.size ≤ sizeLine ∧ J 0 [] news ∧ Turn3 prog w A h₀ L m env elt x₁ x₂ x₃ scope cl ax its J s₁ ∧
    ∀ g ys news', J its.size ys news' → SrcAt h₀ ax its news' → Fin { s₁ with heap := g } ys news'
theorem Src3.intro {elt : Expr} {x₁ x₂ x₃ : Str} {scope : Scope} {cl : List (Str × Addr)} {Fin : Shared → List Value → List (Addr × Obj) → Prop} {ax : Addr} {its : Array Value} {k : Nat} {news : List (Addr × Obj)}
    (J : Nat → List Value → List (Addr × Obj) → Prop) (hh : A.handled = none) (F : Fr h₀ L s.heap m) (N : News h₀ L s.heap news) (hm : (ax, ({ cls := .type "list", data := .seq its k } : Obj)) ∈ news) (hsz : its.size ≤ sizeLine) (h0 : J 0 [] news)
    (turn : Turn3 prog w A h₀ L m env elt x₁ x₂ x₃ scope cl ax its J s) (fin : ∀ g ys news', J its.size ys news' → SrcAt h₀ ax its news' → Fin { s with heap := g } ys news') :
    Src3 prog w A h₀ L m env elt x₁ x₂ x₃ scope cl Fin (.ref ax) s := ⟨ax, its, news, J, rfl, hh, F, N, .inr ⟨_, hm, rfl, _, rfl⟩, hsz, h0, turn, fin⟩

theorem ListComp_3 {elt iter : Expr} {x₁ x₂ x₃ : Str} {p₁ p₂ p₃ tp : Pos} {tk} {scope : Scope} {cl : List (Str × Addr)} {pos : Pos} {Q : Value → Shared → Prop} (_F₀ : Fr h₀ L s.heap m)
    (hclos : closureFor scope env = pure cl) (hcell : ∀ y ∈ scope.names, y.2 ≠ .cell) (hkind : scope.kind = .function)
    (hnames : ∀ y ∈ scope.names, y.2 = .local → scope.names.lookup y.1 = some .local) (hx₁ : scope.names.lookup x₁ = some .local) (hx₂ : scope.names.lookup x₂ = some .local) (hx₃ : scope.names.lookup x₃ = some .local) (n12 : x₁ ≠ x₂) (n13 : x₁ ≠ x₃) (n23 : x₂ ≠ x₃)
    (h : wpAny (model prog w) A (eval iter env) (Src3 prog w A h₀ L m env elt x₁ x₂ x₃ scope cl (fun s₂ => FinE h₀ L m s₂ Q)) E s)
    (hs : ∀ x, foldedSetIterable iter env x = pure x := by intro _; rfl) :
    wpAny (model prog w) A (eval (.ListComp elt [⟨.Tuple [.Name x₁ p₁, .Name x₂ p₂, .Name x₃ p₃] tk tp, iter, [], 0⟩] scope pos) env) Q E s := by
  refine comp_own (h₀ := h₀) (L := L) (m := m) hclos hcell hkind hnames (wpAny_mono h (fun xv s₁ h₁ => ?_) fun _ _ e => e) hs
  obtain ⟨ax, its, news, J, rfl, hh, F, N, S, hsz, h0, turn, fin₀⟩ := h₁
  refine ground_list hh F N S fun I D C h₁ tk m₁ R g axI axD axC st F₁ n₁ N₁ fin => ?_
  have W := Walks.list (prog := prog) (w := w) (A := A) hh I ax axI its
  refine LCp.codeAny_compLoop_pair
    (fun k s' => ∃ h' tk i ys m' news', s' = { s₁ with heap := h', toks := tk } ∧ i ≤ its.size ∧ k = its.size + 1 - i ∧ ys.length = i ∧ (h'.IsListIter I ax i ∧ h'.IsList ax its) ∧ Gd h₀ L I D C news' ∧ Fr h₀ L h' m ∧ h'.Ns C m' ∧ News h₀ L h' ((D, lst ys) :: news') ∧ SrcAt h₀ ax its news' ∧ J i ys news')
    ?_ (its.size + 1) ⟨h₁, tk, 0, [], m₁, news, rfl, Nat.zero_le _, rfl, rfl, st, g, F₁, n₁, N₁, S, h0⟩
  rintro k s' ⟨h', tk', i, ys, m', news', rfl, hi, rfl, hyl, st', g', F', n', N', S', J'⟩
  rcases Nat.lt_or_eq_of_le hi with hlt | rfl
  · refine W.item i _ _ _ hlt st' fun v h₂ tk₂ hPv st₂ hk₂ => ?_
    obtain ⟨t, ot, v₁, v₂, v₃, nt, rfl, hmt, hct, hdt, go⟩ := turn i v ys news' hPv J' S'
    obtain ⟨F₂, n₂, N₂⟩ := g'.draw F' n' N' hk₂
    refine wpAny_letOwnedTupleGo_listiter st₂.1 (assign_Tuple_tuple hh ⟨ot, (N₂ _ (List.mem_cons_of_mem _ hmt)).1, hct, nt, hdt⟩ rfl rfl fun h₃ he => ?_)
    have up : ∀ b o, h₂.get? b = some o → h₃.get? b = some o := fun b o e => he b o (Nat.ne_of_lt (Heap.lt_size e)) e
    refine assignInOrder_cons (comp_name hkind hx₁ g' (F₂.keeps up) (n₂.at' fun o e => up _ o e) (N₂.grown up) fun h₄ tk₄ F₄ n₄ N₄ k₄ => ?_)
    refine assignInOrder_cons (comp_name hkind hx₂ g' F₄ n₄ N₄ fun h₅ tk₅ F₅ n₅ N₅ k₅ => ?_)
    refine assignInOrder_cons (comp_name hkind hx₃ g' F₅ n₅ N₅ fun h₆ tk₆ F₆ n₆ N₆ k₆ => assignInOrder_nil ?_)
    have st₆ := W.frame _ _ _ st₂ fun b hb o e => by
      have q : b ≠ C := by
        rcases List.mem_cons.mp hb with rfl | hb
        · exact g'.ic
        · exact List.mem_singleton.mp hb ▸ axC
      exact k₆ b o q (k₅ b o q (k₄ b o q (up b o e)))
    obtain ⟨oI, eI, cI⟩ := st₆.1
    obtain ⟨oC, eC, hC⟩ := ns_obj n₆
    refine wpAny_mono (go I oI C oC D _ h₆ _ _ hC (by simp [n12, n13]) (by simp [n23]) (by simp) g'.off F₆ (g'.three N₆ eI eC)) (fun y s₇ h₇ => ?_) fun _ _ e => e
    obtain ⟨h₇, tk₇, news₇, rfl, F₇, N₇, off₇, S₇, J₇⟩ := h₇
    have g₇ := g'.turn fun p hp => ⟨off₇ p hp (I, oI) (by simp), off₇ p hp (C, oC) (by simp), off₇ p hp (D, lst ys) (by simp)⟩
    have M₇ : News h₀ L h₇ news₇ := fun p hp => N₇ p (List.mem_append_right _ hp)
    refine append_at (hsz := by show ys.toArray.size ≤ sizeLine; rw [List.size_toArray, hyl]; exact Nat.le_trans hi hsz) (N₇ (D, lst ys) (by simp)).1 fun h₈ hs₈ hD₈ => ?_
    obtain ⟨F₈, n₈, N₈⟩ := g₇.grow F₇ (hC.ns (N₇ (C, oC) (by simp)).1) M₇ hs₈ (hD₈.trans (congrArg some (lst_snoc ys y)))
    refine ⟨its.size + 1 - (i + 1), by omega, h₈, tk₇, i + 1, ys ++ [y], _, news₇, rfl, hlt, rfl, by rw [List.length_append, List.length_singleton, hyl], ⟨⟨oI, hs₈.extBut _ _ g'.id (N₇ (I, oI) (by simp)).1, cI⟩, S₇.list F₈.keep fun p hp => N₈ p (List.mem_cons_of_mem _ hp)⟩, g₇, F₈, n₈, N₈, S₇, J₇⟩
  · refine W.done _ _ _ st' fun h₂ tk₂ hk₂ => ?_
    obtain ⟨F₂, n₂, N₂⟩ := g'.draw F' n' N' hk₂
    exact fin h₂ tk₂ m' ys news' g' F₂ n₂ N₂ fun h₃ F₃ N₃ => fin₀ _ ys news' J' S' D h₃ tk₂ F₃ N₃ (Off3.one (Off3.of g'.off))
end
section
variable {prog : Program} {w : World} {A : Around} {E : Value → Shared → Prop} {s : Shared} {h₀ : Heap} {env : Env} {target : Expr} {body : List Stmt} {Q : Flow → Shared → Prop}
theorem iter_listBase {ax : Addr} {vs : List Value} {m₀ : Str → Option Value} {news : List (Addr × Obj)}
    (hh : A.handled = none) (F : Fr h₀ env.locals s.heap m₀) (N : News h₀ env.locals s.heap news) (hl₀ : h₀.IsList ax vs.toArray)
    (rest₀ : ∀ I : Addr, (∀ p ∈ news, p.1 < I) → ItemsRest prog w A E h₀ env target body Q s [(I, "list_iterator")] [] (vs.map .val) m₀ news) :
    wpAny (model prog w) A (pyIter (.ref ax)) (fun it s₂ => TurnsAt prog w A h₀ env target body Q E it s₂) E s := by
  obtain ⟨lo, hg, hc, n, hd⟩ := hl₀
  have hl : s.heap.IsList ax vs.toArray := ⟨lo, F.keep _ _ hg, hc, n, hd⟩
  have hlt : ax < s.heap.objs.size := Heap.lt_size (F.keep _ _ hg)
  have hne : ax ≠ s.heap.objs.size := Nat.ne_of_lt hlt
  refine wpAny_pyIter_list hl ?_
  refine ktg_core (tk0 := s.toks) (keep := []) (KTurns.ofWalks (Walks.list hh s.heap.objs.size ax hne vs.toArray) fun i v s Q E st q => letGo_listiter st.1 q) (by simp) (fun i v h hp => ⟨.val v, ?_, rfl⟩) (fun i h st => ?_) (fun b hb => ?_) (fun b hb => by simpa using hb) (fun b hb => ?_) ?_ (fun p hp hI => ?_) ?_ (F.push _) (fun p hp => ⟨Heap.get?_push_of_some _ (N p hp).1, (N p hp).2⟩) trivial (rest₀ _ fun p hp => Heap.lt_size (N p hp).1)
  · have hp' : vs.toArray[i]? = some v := hp
    simpa using hp'
  · obtain ⟨it, hit, hic, _⟩ := st.1
    exact ⟨[(s.heap.objs.size, it)], ⟨⟨rfl, hic⟩, trivial⟩, fun p hp => by rw [List.mem_singleton.mp hp]; exact hit⟩
  · have hb' : b = s.heap.objs.size := by simpa using hb
    rw [hb']
    exact ⟨List.mem_cons_self .., next_is_new F⟩
  · have hb' : b = s.heap.objs.size ∨ b = ax := by simpa using hb
    rcases hb' with e | e
    · exact .inl (by simp [e])
    · exact .inr (.inr ⟨lo, e ▸ hg⟩)
  · intro hI
    have hI' : env.locals = s.heap.objs.size ∨ env.locals = ax := by simpa using hI
    rcases hI' with e | e
    · exact absurd F.ns.lt (e ▸ Nat.lt_irrefl _)
    · have h1 := Heap.lt_size hg
      have h2 := F.above
      rw [← e] at h1
      exact absurd h1 (Nat.not_lt.mpr h2)
  · exact absurd (Heap.lt_size (N p hp).1) ((List.mem_singleton.mp hI) ▸ Nat.lt_irrefl _)
  · exact ⟨⟨_, Heap.get?_push_size _ rfl, rfl, rfl⟩, hl.at fun o e => Heap.get?_push_of_some _ e⟩
end
theorem objs_two {I J : Addr} {k k' : String} : ∀ {its : List (Addr × Obj)}, Objs [(I, k), (J, k')] its → ∃ o o', its = [(I, o), (J, o')]
  | [], h => (show False from h).elim
  | [_], h => (show False from h.2).elim
  | [(a, o), (b, o')], h => ⟨o, o', by rw [show a = I from h.1.1, show b = J from h.2.1.1]⟩
  | _ :: _ :: _ :: _, h => (show False from h.2.2).elim
theorem lt_off2 {news : List (Addr × Obj)} {I : Addr} {k k' : String} (h : ∀ p ∈ news, p.1 < I) : ∀ p ∈ news, ∀ q ∈ [(I + 1, k), (I, k')], p.1 ≠ q.1 := fun p hp q hq => by
  rcases List.mem_cons.mp hq with rfl | hq
  · exact Nat.ne_of_lt (Nat.lt_succ_of_lt (h p hp))
  · rw [List.mem_singleton.mp hq]; exact Nat.ne_of_lt (h p hp)
theorem news_fresh {h₀ h h' : Heap} {L lr : Addr} {m : Str → Option Value} {news : List (Addr × Obj)} {o : Obj} (F : Fr h₀ L h m) (N : News h₀ L h news) (hkp : Kept h h') (hfr : h.get? lr = none) (ho : h'.get? lr = some o) :
    News h₀ L h' ((lr, o) :: news) ∧ ∀ p ∈ news, p.1 ≠ lr := by
  refine ⟨fun p hp => ?_, fun p hp q => ?_⟩
  · rcases List.mem_cons.mp hp with rfl | hp
    · refine ⟨ho, fun q => ?_, ?_⟩
      · obtain ⟨oL, _, _, e, _⟩ := F.ns
        rw [← q, hfr] at e
        cases e
      · cases e : h₀.get? lr with
        | none => rfl
        | some o' => have := F.keep _ _ e; rw [hfr] at this; cases this
    · exact ⟨hkp _ _ (N p hp).1, (N p hp).2⟩
  · have := (N p hp).1
    rw [q, hfr] at this
    cases this
end Mine
end
section
namespace Mine
theorem fillK : (hd.heap_1 = hd.heap_1) ∧ (PySem.Challenge.rw_tv0036_01 = PySem.Challenge.rw_tv0036_01) := by
  k_fill
  exact ⟨rfl, rfl⟩
end Mine
end
section
open PySem PySem.W PyProof.Rows PySem.Calls PySem.Spec
namespace Mine
local macro_rules | `(tactic| walk_at $s:str) => `(tactic| k_extra $s)
local macro_rules | `(tactic| tb_rel) => `(tactic| k_extra "tb_rel")
local macro_rules | `(tactic| k_all) => `(tactic| k_extra "k_all")
local macro_rules | `(tactic| tb_start) => `(tactic| k_extra "tb_start")
theorem word1 : True := by
  k_with "mine enter" => (((case kA => exact rfl); (case kF => exact rfl); (case kK => assumption); (case k1 => k_asm); (case k2 => k_asm); (case k3 => k_asm); (case k5 => k_asm); (case k6 => k_is); (case k7 => k_is); (case k8 => ktr_room); (case k9 => exact BindsTo.of_eq rfl); (case kC => decide); (case kB => exact locs rfl); (case c2 => exact rfl); (case c3 => exact rfl); (case c4 => exact rfl)))
  trivial
theorem word2 : True := by
  k_with "tb_rel" => (first
      | (with_reducible show wpAny _ _ (exec (PySem.Stmt.For _ _ _ _ _) _) _ _ _)
      | (with_reducible show wpAny _ _ (pyIter _) _ _ _)
      | (with_reducible show SeqC _ _ _ _ _ _ _ _ _ _ _)
      | (with_reducible show wpAny _ _ (call (Value.builtin "str.join") _) _ _ _)
      | (with_reducible show wpAny _ _ (call (Value.builtin "list.reverse") _) _ _ _))
  trivial
local macro_rules | `(tactic| tb_start) => `(tactic| ((with_reducible show SeqC _ _ _ _ _ _ _ _ _ PySem.Flow.next _); refine SeqC.next (by k_asm) (by k_asm) ?_; intro h' tk' F' N'; (try dsimp only at F'); (try dsimp only at N'); k_sweep))
theorem word3 : True := by
  k_with "tb_start" => (((with_reducible show SeqC _ _ _ _ _ _ _ _ _ (PySem.Flow.ret _) _); unfold SeqC; (try dsimp only)))
  trivial
theorem word4 : True := by
  k_with "tb_start" => (first
      | ((with_reducible show SeqC _ _ _ _ _ _ _ _ _ PySem.Flow.brk _); unfold SeqC; (try dsimp only))
      | ((with_reducible show TurnEnd _ _ _ _ _ _ PySem.Flow.brk _); unfold TurnEnd; (try dsimp only)))
  trivial
theorem word5 : True := by
  k_with "mine steps" => (repeat' (first | (k_unfold; (try dsimp only)) | tb_start | ((fail_if_success tb_rel); first | walk1 | (dsimp only; walk1))))
  trivial
theorem word6 : True := by
  k_with "execs cons" => ((refine seqC (by k_asm) ?_; (try k_fold)))
  trivial
theorem word7 : True := by
  k_with "binaryOp FloorDiv int int" => (((with_reducible show wpAny _ _ (binaryOp _ _ (Value.int (_ ^ _) _)) _ _ _); refine floordiv_int (powDen (by decide) (by decide) (by first | decide | omega)).1 ?_ (Or.inl (PyProof.noPylong_of_log2 (powDen (by decide) (by decide) (by first | decide | omega)).2))))
  trivial
theorem word8 : True := by
  k_with "binaryOp Pow int int" => ((refine pow_int_small (by first | decide | omega | exact (expBd _ _).1) (by first | decide | omega | exact (expBd _ _).2) (by decide) ?_))
  trivial
theorem word9 : True := by
  k_with "mine enterC" => (((case kA => exact rfl); (case kF => exact rfl); (case kK => assumption); (case k1 => k_asm); (case k2 => k_asm); (case k3 => k_asm); (case k5 => k_asm); (case k6 => k_is); (case k7 => k_is); (case k8 => ktr_room); (case k9 => exact BindsTo.of_eq rfl); (case kB => exact rfl); (case kC => exact fun _ => rfl); (case kD => exact fun _ => rfl); (case kE => exact fun _ => rfl); (case c2 => exact rfl); (case c3 => exact rfl); (case c4 => exact rfl)))
  trivial
theorem word10 : True := by
  k_with "call builtin:list.append" => (((with_reducible show wpAny _ _ (call (Value.builtin _) [Value.ref _, _]) _ _ _); k_dflt (refine' append_K (by k_asm) (by k_asm) (by k_upd) ?_ (by first | size_fits | ((rw [PySem.sizeLine_eq]); (try simp only [Array.size_push, List.size_toArray]); omega)); k_whole); intro _ _ _; (try k_sweep)))
  trivial
theorem word11 : True := by
  k_with "exec If" => ((refine wpAny_If ?_))
  trivial
theorem word12 : True := by
  k_with "execs nil" => ((refine wpAny_execs_nil ?_))
  trivial
theorem word13 : True := by
  k_with "call type:range" => (first | (refine range1_rows (by k_asm) (by k_asm) ?_; intro _ _ _ _ _ _ _ _ _) | (refine range2_rows (by k_asm) (by k_asm) ?_; intro _ _ _ _ _ _ _ _ _))
  trivial
theorem word14 : True := by
  k_with "loadName" => ((k_dflt (refine wpAny_loadName_local (by rfl) (by rfl) (Fr.ns (by k_asm)) (by rfl) ?_)))
  trivial
section


noncomputable abbrev kindAt (bits : Int) : Int := Txt.find (Str.ofString "-?bcdlps") (Txt.item (Str.ofString "?pc?d?b?-?l?s???") ((bits.fdiv 4096).fmod 16))
noncomputable def turnF (bits code turn : Int) : Int :=
  let figure := Int.fmod (Int.fdiv bits (8 ^ turn.toNat)) 8
  let run := Int.fmod figure 2
  let above := Int.fmod (Int.fdiv bits (2 ^ (9 + turn).toNat)) 2
  (code * 4 + Int.fdiv figure 2) * 8 + 2 ^ (3 * run + above - 2 * run * above).toNat - 1
noncomputable def codeF (bits : Int) : Int := [2, 1, 0].foldl (turnF bits) (2 ^ (kindAt bits).toNat - 1)
theorem kindAt_bd (bits : Int) : 0 ≤ kindAt bits ∧ kindAt bits ≤ 7 := by
  unfold kindAt
  have h1 := Int.fmod_nonneg_of_pos (bits.fdiv 4096) (b := 16) (by decide)
  have h2 := Int.fmod_lt_of_pos (bits.fdiv 4096) (b := 16) (by decide)
  generalize (bits.fdiv 4096).fmod 16 = k at *
  have h3 : k = 0 ∨ k = 1 ∨ k = 2 ∨ k = 3 ∨ k = 4 ∨ k = 5 ∨ k = 6 ∨ k = 7 ∨ k = 8 ∨ k = 9 ∨ k = 10 ∨ k = 11 ∨ k = 12 ∨ k = 13 ∨ k = 14 ∨ k = 15 := by omega
  rcases h3 with rfl | rfl | rfl | rfl | rfl | rfl | rfl | rfl | rfl | rfl | rfl | rfl | rfl | rfl | rfl | rfl <;> decide +kernel
theorem code_ct {w : World} {q : Program} {lo : List Str} {mean : ExcName → Option Value} {mg mb : Str → Option Value} {dp un : Nat} {gd : Option (List Code)} {cn : Str} {cs : Scope} {a : Addr} {ccd : Value} {cl : List (Str × Addr)} {outer : List Env} {A₀ : Around} {base h₀ : Heap} {L : Addr} {m : Str → Option Value} {s : Shared} {Q E : Value → Shared → Prop}
  (B : Below A₀ base outer h₀) (F : Fr h₀ L s.heap m) (X : (hd.heap_1 w.params).In h₀)
  (T : Top q lo mean mg mb h₀) (hk : cs.kind = .function) (hd : dp + 4 < recursionLimit) (hu : un + 30 < cLine)
  (bits : Int) (tk : Tok)
  (ret : ∀ v h' tk', Kept s.heap h' → (fun v _ => ∃ t, v = .int (codeF bits) t) v h' → Q v {s with heap := h', toks := tk'}) :
  wpAny (model PySem.Challenge.rw_tv0036_01.row.prog w) (ktrTop dp un gd cn cs L a ccd cl outer) (call (.ref 115) [.int bits tk]) Q E s := by
  k_dflt (refine' call_pure (binds := [(Str.ofString "bits", .int bits tk)]) _ ?k1 ?k2 ?k3 ?k5 ?kA ?kF ?kK ?k6 ?k7 ?k8 ?k9 ?kB ?kC ?c2 ?c3 ?c4 ret ?_; walk_at "mine enter")
  clear ret B F X T
  intro Lc hc0 tkc F N B X T
  try dsimp only
  have hk0 := (kindAt_bd bits).1
  have hk7 := (kindAt_bd bits).2
  dsimp only [kindAt] at hk0 hk7
  walk_at "mine steps"
  (rename Fr _ _ _ _ => F)
  refine For_turns F ?_
  walk_at "mine steps"
  (rename Fr _ _ _ _ => F)
  (rename News _ _ _ _ => N)
  refine iter_tupTurns rfl F N (List.Mem.head _) rfl rfl (fun I hI => ?_)
  clear F N
  refine itemsInv (fun xs m₁ news₁ => ∃ vs turns c t u, xs = List.map Itm.val vs ∧ IntsAre vs turns ∧ m₁ = pins [(Str.ofString "code", .int c t), (Str.ofString "bits", .int bits tk)] u ∧ (∀ x ∈ turns, 0 ≤ x ∧ x ≤ 2) ∧ turns.foldl (turnF bits) c = codeF bits) ?_ ?_ _ _ _ ?_ ⟨List.Mem.head _, trivial⟩ (lt_off hI)
  · rintro a r v its m₁ news₁ h tk1 ⟨vs, turns, c, t, u, hxs, hi, rfl, hb, hc⟩ hv hits hkeep hoff F N
    obtain ⟨n, tn, vs', turns', rfl, rfl, rfl, hi'⟩ := itm_ints_cons hxs hi
    cases hv
    have hn := hb n List.mem_cons_self
    walk_at "mine steps"
    (rename Fr _ _ _ _ => F)
    (rename News _ _ _ _ => N)
    exact TurnEnd.next news₁ F N (fun _ h => h) hoff ⟨hkeep, vs', turns', _, _, _, rfl, hi', pins_eq (all1 rfl (all1 rfl all0)), fun x hx => hb x (List.mem_cons_of_mem _ hx), hc⟩
  · rintro m₁ news₁ h tk1 ⟨vs, turns, c, t, u, hxs, hi, rfl, hb, hc⟩ hkeep F N
    obtain rfl := itm_ints_nil hxs hi
    walk_at "mine steps"
    (rename Fr _ _ _ _ => F)
    change LeaveP _ _ _ _ _ _
    exact LeaveP.mk' F ⟨t, congrArg (fun z => Value.int z t) hc⟩
  · exact ⟨_, _, _, _, _, rfl, .cons _ _ (.cons _ _ (.cons _ _ .nil)), pins_eq (all1 rfl (all1 rfl all0)), by decide, rfl⟩

end
section


noncomputable def rowStep (p : Int × List Str) (last : Str) : Int × List Str :=
  (p.1.fdiv 32, p.2 ++ [Txt.item last (p.1.fmod 2 + (p.1.fdiv 2).fmod 2 + (p.1.fdiv 4).fmod 2), Txt.item (Str.ofString "-w") ((p.1.fdiv 8).fmod 2), Txt.item (Str.ofString "-r") ((p.1.fdiv 16).fmod 2)])
noncomputable def rowSigns (code : Int) : Int × List Str := [Str.ofString "-Ttx", Str.ofString "-Ssx", Str.ofString "-Ssx"].foldl rowStep (code, [])
noncomputable abbrev kindOf7 (c : Int) : Int := (List.map (fun k' : Int => (c.fdiv (2 ^ k'.toNat)).fmod 2) (rangeKs 0 (7 - 0 : Int).toNat)).sum
theorem kindOf7_bd (c : Int) : 0 ≤ kindOf7 c ∧ kindOf7 c < 8 := by
  have e : rangeKs 0 (7 - 0 : Int).toNat = [0, 1, 2, 3, 4, 5, 6] := by decide
  unfold kindOf7
  rw [e]
  have h := fun k : Int => And.intro (Int.fmod_nonneg_of_pos (c.fdiv (2 ^ k.toNat)) (b := 2) (by decide)) (Int.fmod_lt_of_pos (c.fdiv (2 ^ k.toNat)) (b := 2) (by decide))
  simp only [List.map_cons, List.map_nil, List.sum_cons, List.sum_nil]
  have h0 := h 0; have h1 := h 1; have h2 := h 2; have h3 := h 3; have h4 := h 4; have h5 := h 5; have h6 := h 6
  clear h
  omega
noncomputable def rowJ (code : Int) (Tp C : Addr) (xs : List Itm) (m₁ : Str → Option Value) (news₁ : List (Addr × Obj)) : Prop :=
  ∃ oT D vs lasts c t arr ss k oC u, xs = List.map Itm.val vs ∧ StrsAre vs lasts ∧ (∀ x ∈ lasts, x = Str.ofString "-Ttx" ∨ x = Str.ofString "-Ssx") ∧ m₁ = pins [(Str.ofString "signs", .ref D)] u ∧
    news₁ = [(Tp, oT), (D, W.listOf arr k), (C, oC)] ∧ @LT.lt Nat _ C D ∧ @LT.lt Nat _ D Tp ∧ oC.data = .cell (some (.int c t)) ∧ StrsAre arr.toList ss ∧ (∀ x ∈ ss, x.length = 1) ∧ ss.length = arr.size ∧ arr.size + 3 * lasts.length = 9 ∧ lasts.foldl rowStep (c, ss) = rowSigns code
noncomputable def rowG (code : Int) : Str := Txt.join (Str.ofString "") ((rowSigns code).2 ++ [Txt.item (Str.ofString "-?bcdlps") (kindOf7 (rowSigns code).1)]).reverse
theorem row_ct {w : World} {q : Program} {lo : List Str} {mean : ExcName → Option Value} {mg mb : Str → Option Value} {dp un : Nat} {gd : Option (List Code)} {cn : Str} {cs : Scope} {a : Addr} {ccd : Value} {cl : List (Str × Addr)} {outer : List Env} {A₀ : Around} {base h₀ : Heap} {L : Addr} {m : Str → Option Value} {s : Shared} {Q E : Value → Shared → Prop}
  (B : Below A₀ base outer h₀) (F : Fr h₀ L s.heap m) (X : (hd.heap_1 w.params).In h₀)
  (T : Top q lo mean mg mb h₀) (hk : cs.kind = .function) (hd : dp + 4 < recursionLimit) (hu : un + 30 < cLine)
  (code : Int) (tk : Tok)
  (ret : ∀ v h' tk', Kept s.heap h' → (fun v _ => ∃ t, v = .str (rowG code) t) v h' → Q v {s with heap := h', toks := tk'}) :
  wpAny (model PySem.Challenge.rw_tv0036_01.row.prog w) (ktrTop dp un gd cn cs L a ccd cl outer) (call (.ref 120) [.int code tk]) Q E s := by
  k_dflt (refine' call_pureC (binds := [(Str.ofString "code", .int code tk)]) _ (fun _ => none) (Str.ofString "code") (some (.int code tk)) ?k1 ?k2 ?k3 ?k5 ?kA ?kF ?kK ?k6 ?k7 ?k8 ?k9 ?kB ?kC ?kD ?kE ?c2 ?c3 ?c4 ret ?_; walk_at "mine enterC")
  clear ret B F X T
  intro Lc hc0 tkc oc0 F N hcell B X T
  try dsimp only
  walk_at "mine steps"
  (rename Fr _ _ _ _ => F)
  refine For_turns F ?_
  walk_at "mine steps"
  (rename Fr _ _ _ _ => F)
  (rename News _ _ _ _ => N)
  rename_i DT hT lT
  refine iter_tupTurns rfl F N (List.Mem.head _) rfl rfl (fun I hI => ?_)
  have hI' := allLt_of hI
  simp only [AllLt, and_true] at hI'
  clear F N
  refine' itemsInv (rowJ code DT (Lc + 1)) ?turn ?done _ _ _ ?init ⟨List.Mem.head _, trivial⟩ (lt_off hI)
  (case init => refine ⟨_, _, _, _, _, _, _, _, _, _, _, rfl, .cons _ _ (.cons _ _ (.cons _ _ .nil)), by simp, pins_eq (all1 rfl all0), rfl, ?_, ?_, hcell, .nil, all0, rfl, rfl, rfl⟩ <;> omega)
  · rintro a r v its m₁ news₁ h tk1 ⟨oT, D, vs, lasts, c, t, arr, ss, k, oC, u, hxs, hi, hb, rfl, rfl, hCD, hDT, hoC, hss, hs1, hsl, hsz, hf⟩ hv hits hkeep hoff F N
    obtain ⟨n, tn, vs', lasts', rfl, rfl, rfl, hi'⟩ := itm_strs_cons hxs hi
    obtain ⟨it, rfl, hit⟩ := objs_one hits
    cases hv
    simp only [List.length_cons] at hsz
    have hn := hb n List.mem_cons_self
    simp only [List.cons_append, List.nil_append] at N
    have o1 : @Ne Nat DT I := hoff _ (List.Mem.head _) _ (List.Mem.head _)
    have o2 : @Ne Nat D I := hoff _ (List.Mem.tail _ (List.Mem.head _)) _ (List.Mem.head _)
    have o3 : @Ne Nat (Lc + 1) I := hoff _ (List.Mem.tail _ (List.Mem.tail _ (List.Mem.head _))) _ (List.Mem.head _)
    have hkp := fun r' => keep_head (its := [(I, it)]) (r' := r') hkeep N
    clear hkeep
    rcases hn with rfl | rfl
    all_goals
      walk_at "mine steps"
      (rename Fr _ _ _ _ => F)
      (rename News _ _ _ _ => N)
      rename_i oC' hoC' _ _
      refine TurnEnd.next (its := [(I, it)]) [(DT, oT), (D, _), (Lc + 1, oC')] F N (fun _ h => h) ?_ ⟨hkp _, oT, D, vs', lasts', _, _, _, _, _, oC', _, rfl, hi', fun x hx => hb x (List.mem_cons_of_mem _ hx), pins_eq (all1 rfl all0), rfl, hCD, hDT, hoC', strs_push (strs_push (strs_push hss _ _) _ _) _ _, all_snoc (all_snoc (all_snoc hs1 (by assumption)) (by assumption)) (by assumption), ?_, ?_, ?_⟩
      · exact all1 (all1 o1 all0) (all1 (all1 o2 all0) (all1 (all1 o3 all0) all0))
      · simp only [Array.size_push, List.length_append, List.length_cons, List.length_nil]; omega
      · simp only [Array.size_push]; omega
      · rw [← hf]; simp only [List.foldl_cons, rowStep, List.append_assoc, List.cons_append, List.nil_append]
  · rintro m₁ news₁ h tk1 ⟨oT, D, vs, lasts, c, t, arr, ss, k, oC, u, hxs, hi, hb, rfl, rfl, hCD, hDT, hoC, hss, hs1, hsl, hsz, hf⟩ hkeep F N
    obtain rfl := itm_strs_nil hxs hi
    simp only [List.length_nil] at hsz
    have hb0 := (kindOf7_bd c).1
    have hb7 := (kindOf7_bd c).2
    dsimp only [kindOf7] at hb0 hb7
    walk_at "mine steps"
    dsimp only
    (rename Fr _ _ _ _ => F)
    (rename News _ _ _ _ => N)
    refine kl_reverse F N rfl (by k_upd) (by rw [PySem.sizeLine_eq]; simp only [Array.toList_push, List.length_append, Array.length_toList, List.length_cons, List.length_nil]; omega) ?_
    intro h7 F N
    walk_at "mine steps"
    refine join_ones (News.isList (by k_asm) (by k_mem)) (strs_rev (strs_push hss _ _)) (by decide +kernel) (all_rev (all_snoc hs1 (by assumption))) (by simp only [List.length_reverse, List.length_append, List.length_cons, List.length_nil]; omega) ?_
    intro t9 k9
    walk_at "mine steps"
    (rename Fr _ _ _ _ => F)
    change LeaveP _ _ _ _ _ _
    refine LeaveP.mk' F ⟨t9, congrArg (fun z => Value.str z t9) ?_⟩
    unfold rowG
    rw [← hf]
    rfl

end
section


noncomputable def facAt (k : Int) : Nat → Int
  | 0 => 1
  | i + 1 => (-(facAt k i) * (k + (i : Int))).fdiv (k + (i : Int) - k + 1)
noncomputable def reachAt (ns : List Int) (k : Int) : Nat → Int
  | 0 => 0
  | i + 1 => reachAt ns k i + facAt k i * ns.getD (k + (i : Int)).toNat 0
noncomputable def reachedF (ns : List Int) (k : Int) : Int := reachAt ns k ((ns.length : Int) - k).toNat
noncomputable def reachJ (ns : List Int) (k : Int) (l : Addr) (tk : Tok) (i : Nat) (m₁ : Str → Option Value) (news₁ : List (Addr × Obj)) : Prop :=
  ∃ t1 t2 u, m₁ = pins [(Str.ofString "total", .int (reachAt ns k i) t1), (Str.ofString "factor", .int (facAt k i) t2), (Str.ofString "sums", .ref l), (Str.ofString "k", .int k tk)] u ∧ news₁ = []
theorem facAt_bd {k : Int} {i : Nat} (h1 : 1 ≤ k) (h2 : k ≤ 6) (h3 : i ≤ 6) : -10000 ≤ facAt k i ∧ facAt k i ≤ 10000 := by
  have h4 : k = 1 ∨ k = 2 ∨ k = 3 ∨ k = 4 ∨ k = 5 ∨ k = 6 := by omega
  have h5 : i = 0 ∨ i = 1 ∨ i = 2 ∨ i = 3 ∨ i = 4 ∨ i = 5 ∨ i = 6 := by omega
  rcases h4 with rfl | rfl | rfl | rfl | rfl | rfl <;> rcases h5 with rfl | rfl | rfl | rfl | rfl | rfl | rfl <;> decide
theorem reached_ct {w : World} {q : Program} {lo : List Str} {mean : ExcName → Option Value} {mg mb : Str → Option Value} {dp un : Nat} {gd : Option (List Code)} {cn : Str} {cs : Scope} {a : Addr} {ccd : Value} {cl : List (Str × Addr)} {outer : List Env} {A₀ : Around} {base h₀ : Heap} {L : Addr} {m : Str → Option Value} {s : Shared} {Q E : Value → Shared → Prop}
  (B : Below A₀ base outer h₀) (F : Fr h₀ L s.heap m) (X : (hd.heap_1 w.params).In h₀)
  (T : Top q lo mean mg mb h₀) (hk : cs.kind = .function) (hd : dp + 4 < recursionLimit) (hu : un + 30 < cLine)
  (l : Addr) (vs : List Value) (ns : List Int) (k : Int) (tk : Tok) (hl : s.heap.IsList l vs.toArray) (hi : IntsAre vs ns) (hn : ns.length ≤ 6) (hb : ∀ n ∈ ns, -(2 ^ 40) ≤ n ∧ n ≤ 2 ^ 40) (h1 : 1 ≤ k) (h2 : k ≤ ns.length)
  (ret : ∀ v h' tk', Kept s.heap h' → (fun v _ => ∃ t, v = .int (reachedF ns k) t) v h' → Q v {s with heap := h', toks := tk'}) :
  wpAny (model PySem.Challenge.rw_tv0036_01.row.prog w) (ktrTop dp un gd cn cs L a ccd cl outer) (call (.ref 132) [.ref l, .int k tk]) Q E s := by
  k_dflt (refine' call_pure (binds := [(Str.ofString "k", .int k tk), (Str.ofString "sums", .ref l)]) _ ?k1 ?k2 ?k3 ?k5 ?kA ?kF ?kK ?k6 ?k7 ?k8 ?k9 ?kB ?kC ?c2 ?c3 ?c4 ret ?_; walk_at "mine enter")
  clear ret B F X T
  intro Lc hc0 tkc F N B X T
  try dsimp only
  have hlen : ns.length < 2 ^ 62 := by omega
  walk_at "mine steps"
  (rename Fr _ _ _ _ => F)
  refine For_invVF F rfl rfl ?_
  walk_at "mine steps"
  (rename Fr _ _ _ _ => F)
  (rename News _ _ _ _ => N)
  (rename IsRange _ _ _ _ _ _ _ _ => R)
  refine forRange (reachJ ns k l tk) rfl R (small_one (by omega) (by omega) (by omega) (by omega)) (rangeSize_nat _ _) F N ⟨_, _, _, pins_eq (all1 rfl (all1 rfl (all1 rfl (all1 rfl all0)))), rfl⟩ ?_ ?_
  · clear F N R
    rintro i t I it m₁ news₁ h tk1 hin ⟨t1, t2, u, rfl, rfl⟩ hoff F N
    have hfb := facAt_bd (k := k) (i := i) h1 (by omega) (by omega)
    have hi0 : 0 ≤ k + (i : Int) := by omega
    have hi1 : k + (i : Int) < ns.length := by omega
    walk_at "mine steps"
    (rename Fr _ _ _ _ => F)
    (rename News _ _ _ _ => N)
    exact TurnEnd.next [] F N (fun _ h => h) all0 ⟨_, _, _, pins_eq (all1 rfl (all1 rfl (all1 rfl (all1 rfl all0)))), rfl⟩
  · clear F N R
    rintro m₁ news₁ h tk1 ⟨t1, t2, u, rfl, rfl⟩ F N
    walk_at "mine steps"
    (rename Fr _ _ _ _ => F)
    change LeaveP _ _ _ _ _ _
    exact LeaveP.mk' F ⟨t1, rfl⟩

theorem reached_ct_use {w : World} {q : Program} {lo : List Str} {mean : ExcName → Option Value} {mg mb : Str → Option Value} {dp un : Nat} {gd : Option (List Code)} {cn : Str} {cs : Scope} {a : Addr} {ccd : Value} {cl : List (Str × Addr)} {outer : List Env} {A₀ : Around} {base h₀ : Heap} {L : Addr} {m : Str → Option Value} {s : Shared} {Q E : Value → Shared → Prop}
  (B : Below A₀ base outer h₀) (F : Fr h₀ L s.heap m) (X : (hd.heap_1 w.params).In h₀)
  (T : Top q lo mean mg mb h₀) (hk : cs.kind = .function) (hd : dp + 4 < recursionLimit) (hu : un + 30 < cLine)
  {news : List (Addr × Obj)} (N : News h₀ L s.heap news) (l : Addr) (vs : List Value) (ns : List Int) (k : Int) (tk : Tok) (hl : s.heap.IsList l vs.toArray) (hi : IntsAre vs ns) (hn : ns.length ≤ 6) (hb : ∀ n ∈ ns, -(2 ^ 40) ≤ n ∧ n ≤ 2 ^ 40) (h1 : 1 ≤ k) (h2 : k ≤ ns.length)
  (ret : ∀ t h' tk', Fr h₀ L h' m → News h₀ L h' news → Q (.int (reachedF ns k) t) {s with heap := h', toks := tk'}) :
  wpAny (model PySem.Challenge.rw_tv0036_01.row.prog w) (ktrTop dp un gd cn cs L a ccd cl outer) (call (.ref 132) [.ref l, .int k tk]) Q E s :=
  reached_ct B F X T hk hd hu l vs ns k tk hl hi hn hb h1 h2 fun v h' tk' hkp r => by
    obtain ⟨t, rfl⟩ := r
    exact ret t h' tk' (F.keeps hkp) (N.grown hkp)
end
section

theorem ifmt_ct {w : World} {q : Program} {lo : List Str} {mean : ExcName → Option Value} {mg mb : Str → Option Value} {dp un : Nat} {gd : Option (List Code)} {cn : Str} {cs : Scope} {a : Addr} {ccd : Value} {cl : List (Str × Addr)} {outer : List Env} {A₀ : Around} {base h₀ : Heap} {L : Addr} {m : Str → Option Value} {s : Shared} {Q E : Value → Shared → Prop}
  (B : Below A₀ base outer h₀) (F : Fr h₀ L s.heap m) (X : (hd.heap_1 w.params).In h₀)
  (T : Top q lo mean mg mb h₀) (hk : cs.kind = .function) (hd : dp + 4 < recursionLimit) (hu : un + 30 < cLine)
  (bits : Int) (tk : Tok)
  (ret : ∀ v h' tk', Kept s.heap h' → (fun v _ => ∃ t, v = .int (PySem.Builtin.bitAnd bits 61440) t) v h' → Q v {s with heap := h', toks := tk'}) :
  wpAny (model PySem.Challenge.rw_tv0036_01.row.prog w) (ktrTop dp un gd cn cs L a ccd cl outer) (call (.ref 63) [.int bits tk]) Q E s := by
  k_dflt (refine' call_pure (binds := [(Str.ofString "mode", .int bits tk)]) _ ?k1 ?k2 ?k3 ?k5 ?kA ?kF ?kK ?k6 ?k7 ?k8 ?k9 ?kB ?kC ?c2 ?c3 ?c4 ret ?_; walk_at "mine enter")
  clear ret B F X T
  intro Lc hc0 tkc F N B X T
  try dsimp only
  walk_at "mine steps"
  (rename Fr _ _ _ _ => F)
  change LeaveP _ _ _ _ _ _
  exact LeaveP.mk' F ⟨_, rfl⟩

theorem imode_ct {w : World} {q : Program} {lo : List Str} {mean : ExcName → Option Value} {mg mb : Str → Option Value} {dp un : Nat} {gd : Option (List Code)} {cn : Str} {cs : Scope} {a : Addr} {ccd : Value} {cl : List (Str × Addr)} {outer : List Env} {A₀ : Around} {base h₀ : Heap} {L : Addr} {m : Str → Option Value} {s : Shared} {Q E : Value → Shared → Prop}
  (B : Below A₀ base outer h₀) (F : Fr h₀ L s.heap m) (X : (hd.heap_1 w.params).In h₀)
  (T : Top q lo mean mg mb h₀) (hk : cs.kind = .function) (hd : dp + 4 < recursionLimit) (hu : un + 30 < cLine)
  (bits : Int) (tk : Tok)
  (ret : ∀ v h' tk', Kept s.heap h' → (fun v _ => ∃ t, v = .int (PySem.Builtin.bitAnd bits 4095) t) v h' → Q v {s with heap := h', toks := tk'}) :
  wpAny (model PySem.Challenge.rw_tv0036_01.row.prog w) (ktrTop dp un gd cn cs L a ccd cl outer) (call (.ref 56) [.int bits tk]) Q E s := by
  k_dflt (refine' call_pure (binds := [(Str.ofString "mode", .int bits tk)]) _ ?k1 ?k2 ?k3 ?k5 ?kA ?kF ?kK ?k6 ?k7 ?k8 ?k9 ?kB ?kC ?c2 ?c3 ?c4 ret ?_; walk_at "mine enter")
  clear ret B F X T
  intro Lc hc0 tkc F N B X T
  try dsimp only
  walk_at "mine steps"
  (rename Fr _ _ _ _ => F)
  change LeaveP _ _ _ _ _ _
  exact LeaveP.mk' F ⟨_, rfl⟩

theorem ifmt_ct_use {w : World} {q : Program} {lo : List Str} {mean : ExcName → Option Value} {mg mb : Str → Option Value} {dp un : Nat} {gd : Option (List Code)} {cn : Str} {cs : Scope} {a : Addr} {ccd : Value} {cl : List (Str × Addr)} {outer : List Env} {A₀ : Around} {base h₀ : Heap} {L : Addr} {m : Str → Option Value} {s : Shared} {Q E : Value → Shared → Prop}
  (B : Below A₀ base outer h₀) (F : Fr h₀ L s.heap m) (X : (hd.heap_1 w.params).In h₀)
  (T : Top q lo mean mg mb h₀) (hk : cs.kind = .function) (hd : dp + 4 < recursionLimit) (hu : un + 30 < cLine)
  {news : List (Addr × Obj)} (N : News h₀ L s.heap news) (bits : Int) (tk : Tok)
  (ret : ∀ t h' tk', Fr h₀ L h' m → News h₀ L h' news → Q (.int (PySem.Builtin.bitAnd bits 61440) t) {s with heap := h', toks := tk'}) :
  wpAny (model PySem.Challenge.rw_tv0036_01.row.prog w) (ktrTop dp un gd cn cs L a ccd cl outer) (call (.ref 63) [.int bits tk]) Q E s :=
  ifmt_ct B F X T hk hd hu bits tk fun v h' tk' hkp r => by
    obtain ⟨t, rfl⟩ := r
    exact ret t h' tk' (F.keeps hkp) (N.grown hkp)
theorem imode_ct_use {w : World} {q : Program} {lo : List Str} {mean : ExcName → Option Value} {mg mb : Str → Option Value} {dp un : Nat} {gd : Option (List Code)} {cn : Str} {cs : Scope} {a : Addr} {ccd : Value} {cl : List (Str × Addr)} {outer : List Env} {A₀ : Around} {base h₀ : Heap} {L : Addr} {m : Str → Option Value} {s : Shared} {Q E : Value → Shared → Prop}
  (B : Below A₀ base outer h₀) (F : Fr h₀ L s.heap m) (X : (hd.heap_1 w.params).In h₀)
  (T : Top q lo mean mg mb h₀) (hk : cs.kind = .function) (hd : dp + 4 < recursionLimit) (hu : un + 30 < cLine)
  {news : List (Addr × Obj)} (N : News h₀ L s.heap news) (bits : Int) (tk : Tok)
  (ret : ∀ t h' tk', Fr h₀ L h' m → News h₀ L h' news → Q (.int (PySem.Builtin.bitAnd bits 4095) t) {s with heap := h', toks := tk'}) :
  wpAny (model PySem.Challenge.rw_tv0036_01.row.prog w) (ktrTop dp un gd cn cs L a ccd cl outer) (call (.ref 56) [.int bits tk]) Q E s :=
  imode_ct B F X T hk hd hu bits tk fun v h' tk' hkp r => by
    obtain ⟨t, rfl⟩ := r
    exact ret t h' tk' (F.keeps hkp) (N.grown hkp)
end
section


noncomputable def kindS (b : Int) : Str :=
  if PySem.Builtin.bitAnd b 61440 = 40960 then Str.ofString "l" else if PySem.Builtin.bitAnd b 61440 = 49152 then Str.ofString "s" else if PySem.Builtin.bitAnd b 61440 = 32768 then Str.ofString "-" else if PySem.Builtin.bitAnd b 61440 = 24576 then Str.ofString "b" else
  if PySem.Builtin.bitAnd b 61440 = 16384 then Str.ofString "d" else if PySem.Builtin.bitAnd b 61440 = 8192 then Str.ofString "c" else if PySem.Builtin.bitAnd b 61440 = 4096 then Str.ofString "p" else Str.ofString "?"
noncomputable def oneS (b m : Int) (c : Str) : Str := if PySem.Builtin.bitAnd b m = m then c else Str.ofString "-"
noncomputable def runS (b m1 m2 m3 : Int) (c1 c2 : Str) : Str := if PySem.Builtin.bitAnd b m1 = m1 then c1 else if PySem.Builtin.bitAnd b m2 = m2 then c2 else if PySem.Builtin.bitAnd b m3 = m3 then Str.ofString "x" else Str.ofString "-"
noncomputable def signsF (b : Int) : List Str :=
  [kindS b, oneS b 256 (Str.ofString "r"), oneS b 128 (Str.ofString "w"), runS b 2112 2048 64 (Str.ofString "s") (Str.ofString "S"), oneS b 32 (Str.ofString "r"), oneS b 16 (Str.ofString "w"), runS b 1032 1024 8 (Str.ofString "s") (Str.ofString "S"),
   oneS b 4 (Str.ofString "r"), oneS b 2 (Str.ofString "w"), runS b 513 512 1 (Str.ofString "t") (Str.ofString "T")]
noncomputable def rowF (b : Int) : Str := Txt.join (Str.ofString "") (signsF b)
noncomputable def tabs : List Value := [.ref 71, .ref 73, .ref 75, .ref 79, .ref 81, .ref 83, .ref 87, .ref 89, .ref 91, .ref 95]
noncomputable def modeJ (bits : Int) (tk : Tok) (xs : List Itm) (m₁ : Str → Option Value) (news₁ : List (Addr × Obj)) : Prop :=
  ∃ (i : Nat) (D : Addr) (arr : Array Value) (ss : List Str) (k : Nat) (u : Str → Option Value), i ≤ 10 ∧ xs = enumItems i (tabs.drop i) ∧ m₁ = pins [(Str.ofString "perm", .ref D), (Str.ofString "mode", .int bits tk)] u ∧
    news₁ = [(D, W.listOf arr k)] ∧ StrsAre arr.toList ss ∧ ss = (signsF bits).take i ∧ arr.size = i
theorem signs_ones (b : Int) : ∀ x ∈ signsF b, x.length = 1 := by
  have h1 : ∀ m c, c.length = 1 → (oneS b m c).length = 1 := fun m c h => by unfold oneS; split; exact h; decide +kernel
  have h2 : ∀ m1 m2 m3 c1 c2, c1.length = 1 → c2.length = 1 → (runS b m1 m2 m3 c1 c2).length = 1 := fun m1 m2 m3 c1 c2 a1 a2 => by
    unfold runS
    split
    · exact a1
    · split
      · exact a2
      · split <;> decide +kernel
  have h3 : (kindS b).length = 1 := by unfold kindS; (repeat' split) <;> decide +kernel
  unfold signsF
  exact all1 h3 (all1 (h1 _ _ (by decide +kernel)) (all1 (h1 _ _ (by decide +kernel)) (all1 (h2 _ _ _ _ _ (by decide +kernel) (by decide +kernel)) (all1 (h1 _ _ (by decide +kernel)) (all1 (h1 _ _ (by decide +kernel)) (all1 (h2 _ _ _ _ _ (by decide +kernel) (by decide +kernel)) (all1 (h1 _ _ (by decide +kernel)) (all1 (h1 _ _ (by decide +kernel)) (all1 (h2 _ _ _ _ _ (by decide +kernel) (by decide +kernel)) all0)))))))))

noncomputable abbrev Ent := Addr × Int × Str
noncomputable def tabsE : List (Addr × List Ent) :=
  [(71, [(64, 40960, Str.ofString "l"), (65, 49152, Str.ofString "s"), (66, 32768, Str.ofString "-"), (67, 24576, Str.ofString "b"), (68, 16384, Str.ofString "d"), (69, 8192, Str.ofString "c"), (70, 4096, Str.ofString "p")]),
   (73, [(72, 256, Str.ofString "r")]), (75, [(74, 128, Str.ofString "w")]), (79, [(76, 2112, Str.ofString "s"), (77, 2048, Str.ofString "S"), (78, 64, Str.ofString "x")]),
   (81, [(80, 32, Str.ofString "r")]), (83, [(82, 16, Str.ofString "w")]), (87, [(84, 1032, Str.ofString "s"), (85, 1024, Str.ofString "S"), (86, 8, Str.ofString "x")]),
   (89, [(88, 4, Str.ofString "r")]), (91, [(90, 2, Str.ofString "w")]), (95, [(92, 513, Str.ofString "t"), (93, 512, Str.ofString "T"), (94, 1, Str.ofString "x")])]
noncomputable def EntAt (h : Heap) (e : Ent) : Prop := ∃ tb tc, h.get? e.1 = some { cls := .type "tuple", data := .seq #[.int e.2.1 tb, .str e.2.2 tc] }
noncomputable def TabAt (h : Heap) (p : Addr × List Ent) : Prop := h.get? p.1 = some { cls := .type "tuple", data := .seq (p.2.map fun e => Value.ref e.1).toArray } ∧ ∀ e ∈ p.2, EntAt h e
theorem tabs_at {w : World} {h : Heap} (X : (hd.heap_1 w.params).In h) : ∀ p ∈ tabsE, TabAt h p := by
  have t : ∀ {a : Addr} {es : List Ent}, h.get? a = some { cls := .type "tuple", data := .seq (es.map fun e => Value.ref e.1).toArray } → (∀ e ∈ es, EntAt h e) → TabAt h (a, es) := fun a b => ⟨a, b⟩
  have e1 : ∀ {a : Addr} {b : Int} {c : Str} (tb tc : Tok), h.get? a = some { cls := .type "tuple", data := .seq #[.int b tb, .str c tc] } → EntAt h (a, b, c) := fun tb tc x => ⟨tb, tc, x⟩
  exact all1 (t (X _ _ rfl) (all1 (e1 _ _ (X _ _ rfl)) (all1 (e1 _ _ (X _ _ rfl)) (all1 (e1 _ _ (X _ _ rfl)) (all1 (e1 _ _ (X _ _ rfl)) (all1 (e1 _ _ (X _ _ rfl)) (all1 (e1 _ _ (X _ _ rfl)) (all1 (e1 _ _ (X _ _ rfl)) all0))))))))
    (all1 (t (X _ _ rfl) (all1 (e1 _ _ (X _ _ rfl)) all0)) (all1 (t (X _ _ rfl) (all1 (e1 _ _ (X _ _ rfl)) all0)) (all1 (t (X _ _ rfl) (all1 (e1 _ _ (X _ _ rfl)) (all1 (e1 _ _ (X _ _ rfl)) (all1 (e1 _ _ (X _ _ rfl)) all0))))
    (all1 (t (X _ _ rfl) (all1 (e1 _ _ (X _ _ rfl)) all0)) (all1 (t (X _ _ rfl) (all1 (e1 _ _ (X _ _ rfl)) all0)) (all1 (t (X _ _ rfl) (all1 (e1 _ _ (X _ _ rfl)) (all1 (e1 _ _ (X _ _ rfl)) (all1 (e1 _ _ (X _ _ rfl)) all0))))
    (all1 (t (X _ _ rfl) (all1 (e1 _ _ (X _ _ rfl)) all0)) (all1 (t (X _ _ rfl) (all1 (e1 _ _ (X _ _ rfl)) all0)) (all1 (t (X _ _ rfl) (all1 (e1 _ _ (X _ _ rfl)) (all1 (e1 _ _ (X _ _ rfl)) (all1 (e1 _ _ (X _ _ rfl)) all0)))) all0)))))))))
noncomputable def pickK (bits : Int) : List Ent → Str
  | [] => Str.ofString "?"
  | e :: r => if PySem.Builtin.bitAnd bits 61440 = e.2.1 then e.2.2 else pickK bits r
noncomputable def pickB (bits : Int) : List Ent → Str
  | [] => Str.ofString "-"
  | e :: r => if PySem.Builtin.bitAnd bits e.2.1 = e.2.1 then e.2.2 else pickB bits r
theorem tab_first (bits : Int) : (71, (tabsE.headD (0, [])).2) ∈ tabsE ∧ (signsF bits)[0]? = some (pickK bits (tabsE.headD (0, [])).2) := ⟨List.Mem.head _, rfl⟩
theorem tab_next (bits : Int) : ∀ i : Nat, i < 9 → ∃ p, p ∈ tabsE ∧ tabs.drop (i + 1) = .ref p.1 :: tabs.drop (i + 2) ∧ (signsF bits)[i + 1]? = some (pickB bits p.2)
  | 0, _ => ⟨_, List.Mem.tail _ (List.Mem.head _), rfl, rfl⟩
  | 1, _ => ⟨_, List.Mem.tail _ (List.Mem.tail _ (List.Mem.head _)), rfl, rfl⟩
  | 2, _ => ⟨_, List.Mem.tail _ (List.Mem.tail _ (List.Mem.tail _ (List.Mem.head _))), rfl, rfl⟩
  | 3, _ => ⟨_, List.Mem.tail _ (List.Mem.tail _ (List.Mem.tail _ (List.Mem.tail _ (List.Mem.head _)))), rfl, rfl⟩
  | 4, _ => ⟨_, List.Mem.tail _ (List.Mem.tail _ (List.Mem.tail _ (List.Mem.tail _ (List.Mem.tail _ (List.Mem.head _))))), rfl, rfl⟩
  | 5, _ => ⟨_, List.Mem.tail _ (List.Mem.tail _ (List.Mem.tail _ (List.Mem.tail _ (List.Mem.tail _ (List.Mem.tail _ (List.Mem.head _)))))), rfl, rfl⟩
  | 6, _ => ⟨_, List.Mem.tail _ (List.Mem.tail _ (List.Mem.tail _ (List.Mem.tail _ (List.Mem.tail _ (List.Mem.tail _ (List.Mem.tail _ (List.Mem.head _))))))), rfl, rfl⟩
  | 7, _ => ⟨_, List.Mem.tail _ (List.Mem.tail _ (List.Mem.tail _ (List.Mem.tail _ (List.Mem.tail _ (List.Mem.tail _ (List.Mem.tail _ (List.Mem.tail _ (List.Mem.head _)))))))), rfl, rfl⟩
  | 8, _ => ⟨_, List.Mem.tail _ (List.Mem.tail _ (List.Mem.tail _ (List.Mem.tail _ (List.Mem.tail _ (List.Mem.tail _ (List.Mem.tail _ (List.Mem.tail _ (List.Mem.tail _ (List.Mem.head _))))))))), rfl, rfl⟩
  | _ + 9, h => absurd h (by omega)
section
variable {prog : Program} {w : World} {A : Around} {h₀ : Heap} {env : Env} {target : PySem.Expr} {body orelse : List Stmt} {Q : Flow → Shared → Prop} {s : Shared} {I : Addr} {news : List (Addr × Obj)}
theorem TurnEnd.mono {L : Addr} {its : List (Addr × Obj)} {J J' : (Str → Option Value) → List (Addr × Obj) → Prop} (h : ∀ m n, J m n → J' m n) : ∀ {f : Flow} {s₂ : Shared}, TurnEnd h₀ L s its J Q f s₂ → TurnEnd h₀ L s its J' Q f s₂
  | .ret _, _, x => x
  | .brk, _, x => x
  | .next, _, ⟨a, b, c, d, e, f, g, i, j⟩ => ⟨a, b, c, d, e, f, g, i, h _ _ j⟩
  | .cont, _, ⟨a, b, c, d, e, f, g, i, j⟩ => ⟨a, b, c, d, e, f, g, i, h _ _ j⟩
theorem ElseRest.inv {α : Type} {f : α → Value} (P : List α → Prop) (Jm : (Str → Option Value) → Prop)
    (turn : ∀ e r m it h tk, P (e :: r) → Jm m → Fr h₀ env.locals h m → News h₀ env.locals h ((I, it) :: news) →
      wpAny (model prog w) A (assign target env (f e)) (fun _ s₂ => wpAny (model prog w) A (execs body env) (TurnEnd h₀ env.locals s [(I, it)] (fun m' n' => n' = news ∧ Jm m' ∧ P r) Q) (fun _ _ => False) s₂) (fun _ _ => False) { s with heap := h, toks := tk })
    (done : ∀ m h tk, P [] → Jm m → Fr h₀ env.locals h m → News h₀ env.locals h news → wpAny (model prog w) A (execs orelse env) Q (fun _ _ => False) { s with heap := h, toks := tk }) :
    ∀ (l : List α) (m : Str → Option Value), P l → Jm m → ElseRest prog w A h₀ env target body orelse Q s I (l.map f) m news := by
  intro l
  induction l with
  | nil => exact fun m hP hJ => ElseRest.zero fun h tk F N => done m h tk hP hJ F N
  | cons e r ih =>
    refine fun m hP hJ => ElseRest.succ fun it h tk F N _ => wpAny_mono (turn e r m it h tk hP hJ F N) (fun _ _ x => wpAny_mono x (fun _ _ y => TurnEnd.mono (fun m' n' z => ?_) y) fun _ _ z => z) fun _ _ z => z
    obtain ⟨rfl, z1, z2⟩ := z
    exact ih m' z2 z1
end
theorem word15 : True := by
  k_with "call ref" => (((with_reducible show wpAny _ _ (call (Value.ref 63) [Value.int _ _]) _ _ _); k_dflt (refine' ifmt_ct_use (by k_asm) (by k_asm) (by k_asm) (by k_asm) (by first | exact rfl | assumption) (by ktr_room) (by ktr_units) (by k_asm) _ _ ?_); intro _ _ _ _ _; (try dsimp only)))
  trivial
theorem mode_ct {w : World} {q : Program} {lo : List Str} {mean : ExcName → Option Value} {mg mb : Str → Option Value} {dp un : Nat} {gd : Option (List Code)} {cn : Str} {cs : Scope} {a : Addr} {ccd : Value} {cl : List (Str × Addr)} {outer : List Env} {A₀ : Around} {base h₀ : Heap} {L : Addr} {m : Str → Option Value} {s : Shared} {Q E : Value → Shared → Prop}
  (B : Below A₀ base outer h₀) (F : Fr h₀ L s.heap m) (X : (hd.heap_1 w.params).In h₀)
  (T : Top q lo mean mg mb h₀) (hk : cs.kind = .function) (hd : dp + 8 < recursionLimit) (hu : un + 60 < cLine)
  (bits : Int) (tk : Tok)
  (ret : ∀ v h' tk', Kept s.heap h' → (fun v _ => ∃ t, v = .str (rowF bits) t) v h' → Q v {s with heap := h', toks := tk'}) :
  wpAny (model PySem.Challenge.rw_tv0036_01.row.prog w) (ktrTop dp un gd cn cs L a ccd cl outer) (call (.ref 103) [.int bits tk]) Q E s := by
  k_dflt (refine' call_pure (binds := [(Str.ofString "mode", .int bits tk)]) _ ?k1 ?k2 ?k3 ?k5 ?kA ?kF ?kK ?k6 ?k7 ?k8 ?k9 ?kB ?kC ?c2 ?c3 ?c4 ret ?_; walk_at "mine enter")
  clear ret B F X T
  intro Lc hc0 tkc F N B X T
  try dsimp only
  walk_at "mine steps"
  (rename Fr _ _ _ _ => F)
  refine For_turns F ?_
  walk_at "mine steps"
  (rename Fr _ _ _ _ => F)
  (rename News _ _ _ _ => N)
  refine enumK rfl F N X (by k_dflt k_is) rfl rfl (fun I hI => ?_)
  clear F N
  refine' itemsInv (modeJ bits tk) ?turn ?done _ _ _ ?init trivial (lt_off2 hI)
  (case init => exact ⟨0, _, _, _, _, _, by decide, rfl, pins_eq (all1 rfl (all1 rfl all0)), rfl, .nil, rfl, rfl⟩)
  · rintro a r v its m₁ news₁ h tk1 ⟨i, D, arr, ss, k, u, hi, hxs, rfl, rfl, hss, hs, hsz⟩ hv hits hkeep hoff F N
    obtain ⟨it, it', rfl⟩ := objs_two hits
    simp only [List.cons_append, List.nil_append] at N
    have o1 : @Ne Nat D (I + 1) := hoff _ (List.Mem.head _) _ (List.Mem.head _)
    have o2 : @Ne Nat D I := hoff _ (List.Mem.head _) _ (List.Mem.tail _ (List.Mem.head _))
    have hTabs := tabs_at X
    cases i with
    | zero =>
      cases hxs
      have hTab := hTabs _ (tab_first bits).1
      obtain ⟨ES, hES⟩ : ∃ ES, ES = (tabsE.headD (0, [])).2 := ⟨_, rfl⟩
      rw [← hES] at hTab
      obtain ⟨T1, t1, rfl, hT⟩ := hv
      walk_at "mine steps"
      refine forElse (h₀ := s.heap) rfl ?_
      walk_at "mine steps"
      (rename Fr _ _ _ _ => F)
      (rename News _ _ _ _ => N)
      refine ElseSrc.intro hTab.1 rfl rfl F N (fun I2 hI2 => ?_)
      have hI2' := allLt_of hI2
      simp only [AllLt, and_true] at hI2'
      clear hI2
      refine ElseRest.inv (f := fun e : Ent => Value.ref e.1) (fun es => pickK bits es = pickK bits ES ∧ ∀ e ∈ es, EntAt s.heap e) (fun m => ∃ u, m = pins [(Str.ofString "perm", .ref D), (Str.ofString "mode", .int bits tk), (Str.ofString "index", .int 0 t1)] u) ?_ ?_ _ _ ⟨rfl, hTab.2⟩ ⟨_, pins_eq (all1 rfl (all1 rfl (all1 rfl all0)))⟩
      · clear F N
        rintro ⟨ea, eb, ec⟩ r' m it2 h2 tk2 ⟨hp, he⟩ ⟨u2, rfl⟩ F N
        obtain ⟨⟨tb, tc, hx⟩, he'⟩ := List.forall_mem_cons.mp he
        have hx2 : IsTup h2 ea #[.int eb tb, .str ec tc] := ⟨_, F.keep _ _ hx, rfl, _, rfl⟩
        clear he
        walk_at "mine steps"
        skip
        all_goals
          (rename Fr _ _ _ _ => F)
          (rename News _ _ _ _ => N)
          first
            | (refine TurnEnd.next1 F N (all1 (Nat.ne_of_lt hI2'.1) (all1 (Nat.ne_of_lt hI2'.2.1) (all1 (Nat.ne_of_lt hI2'.2.2) all0))) ⟨rfl, ⟨_, pins_eq (all1 rfl (all1 rfl (all1 rfl all0)))⟩, ?_, he'⟩
               rw [pickK, if_neg (by assumption)] at hp; exact hp)
            | (refine TurnEnd.next [(D, _)] F N (all1 (by k_mem) (all1 (by k_mem) (all1 (by k_mem) all0))) (all1 (all1 o1 (all1 o2 all0)) all0) ⟨trivial, _, D, _, _, _, _, by decide, rfl, pins_eq (all1 rfl (all1 rfl all0)), rfl, strs_push hss _ _, take_snoc ?_ hs, by rw [Array.size_push, hsz]⟩
               rw [pickK, if_pos (by assumption)] at hp; rw [(tab_first bits).2, ← hES]; exact congrArg some hp.symm)
      · clear F N
        rintro m h2 tk2 ⟨hp, he⟩ ⟨u2, rfl⟩ F N
        clear he
        walk_at "mine steps"
        skip
        (rename Fr _ _ _ _ => F)
        (rename News _ _ _ _ => N)
        refine TurnEnd.next [(D, _)] F N (all1 (by k_mem) (all1 (by k_mem) (all1 (by k_mem) all0))) (all1 (all1 o1 (all1 o2 all0)) all0) ⟨trivial, _, D, _, _, _, _, by decide, rfl, pins_eq (all1 rfl (all1 rfl all0)), rfl, strs_push hss _ _, take_snoc ?_ hs, by rw [Array.size_push, hsz]⟩
        rw [(tab_first bits).2, ← hES, ← hp]; rfl
    | succ j =>
      have hj9 : j < 9 := by
        by_cases q : j < 9
        · exact q
        · rw [List.drop_eq_nil_of_le (by show 10 ≤ j + 1; omega)] at hxs; cases hxs
      obtain ⟨⟨pa, ES⟩, hmem, hdrop, hsg⟩ := tab_next bits j hj9
      have hTab := hTabs _ hmem
      rw [hdrop] at hxs
      clear hdrop hmem
      cases hxs
      have hne : ((j + 1 : Nat) : Int) ≠ 0 := by omega
      obtain ⟨T1, t1, rfl, hT⟩ := hv
      walk_at "mine steps"
      refine forElse (h₀ := s.heap) rfl ?_
      walk_at "mine steps"
      (rename Fr _ _ _ _ => F)
      (rename News _ _ _ _ => N)
      refine ElseSrc.intro hTab.1 rfl rfl F N (fun I2 hI2 => ?_)
      have hI2' := allLt_of hI2
      simp only [AllLt, and_true] at hI2'
      clear hI2
      refine ElseRest.inv (f := fun e : Ent => Value.ref e.1) (fun es => pickB bits es = pickB bits ES ∧ ∀ e ∈ es, EntAt s.heap e) (fun m => ∃ u, m = pins [(Str.ofString "perm", .ref D), (Str.ofString "mode", .int bits tk), (Str.ofString "index", .int ((j + 1 : Nat) : Int) t1)] u) ?_ ?_ _ _ ⟨rfl, hTab.2⟩ ⟨_, pins_eq (all1 rfl (all1 rfl (all1 rfl all0)))⟩
      · clear F N
        rintro ⟨ea, eb, ec⟩ r' m it2 h2 tk2 ⟨hp, he⟩ ⟨u2, rfl⟩ F N
        obtain ⟨⟨tb, tc, hx⟩, he'⟩ := List.forall_mem_cons.mp he
        have hx2 : IsTup h2 ea #[.int eb tb, .str ec tc] := ⟨_, F.keep _ _ hx, rfl, _, rfl⟩
        clear he
        walk_at "mine steps"
        any_goals (rename (@Eq Int _ 0) => hz; exact absurd hz hne)
        all_goals
          (rename Fr _ _ _ _ => F)
          (rename News _ _ _ _ => N)
          first
            | (refine TurnEnd.next1 F N (all1 (Nat.ne_of_lt hI2'.1) (all1 (Nat.ne_of_lt hI2'.2.1) (all1 (Nat.ne_of_lt hI2'.2.2) all0))) ⟨rfl, ⟨_, pins_eq (all1 rfl (all1 rfl (all1 rfl all0)))⟩, ?_, he'⟩
               rw [pickB, if_neg (by assumption)] at hp; exact hp)
            | (refine TurnEnd.next [(D, _)] F N (all1 (by k_mem) (all1 (by k_mem) (all1 (by k_mem) all0))) (all1 (all1 o1 (all1 o2 all0)) all0) ⟨trivial, _, D, _, _, _, _, by omega, rfl, pins_eq (all1 rfl (all1 rfl all0)), rfl, strs_push hss _ _, take_snoc ?_ hs, by rw [Array.size_push, hsz]⟩
               rw [pickB, if_pos (by assumption)] at hp; rw [hsg]; exact congrArg some hp.symm)
      · clear F N
        rintro m h2 tk2 ⟨hp, he⟩ ⟨u2, rfl⟩ F N
        clear he
        walk_at "mine steps"
        any_goals (rename (@Eq Int _ 0) => hz; exact absurd hz hne)
        (rename Fr _ _ _ _ => F)
        (rename News _ _ _ _ => N)
        refine TurnEnd.next [(D, _)] F N (all1 (by k_mem) (all1 (by k_mem) (all1 (by k_mem) all0))) (all1 (all1 o1 (all1 o2 all0)) all0) ⟨trivial, _, D, _, _, _, _, by omega, rfl, pins_eq (all1 rfl (all1 rfl all0)), rfl, strs_push hss _ _, take_snoc ?_ hs, by rw [Array.size_push, hsz]⟩
        rw [hsg, ← hp]; rfl
  · rintro m₁ news₁ h tk1 ⟨i, D, arr, ss, k, u, hi, hxs, rfl, rfl, hss, hs, hsz⟩ hkeep F N
    have hi10 : i = 10 := by
      by_cases q : i < 10
      · have hl : (enumItems i (tabs.drop i)).length = 10 - i := by rw [enumItems_length, List.length_drop]; rfl
        rw [← hxs] at hl
        simp at hl
        omega
      · omega
    subst hi10
    have hs' : ss = signsF bits := hs
    clear hs hxs
    subst hs'
    walk_at "mine steps"
    refine join_ones (News.isList (by k_asm) (by k_mem)) hss (by decide +kernel) (signs_ones bits) (by show 10 ≤ 1000; decide) ?_
    intro t9 k9
    walk_at "mine steps"
    (rename Fr _ _ _ _ => F)
    change LeaveP _ _ _ _ _ _
    exact LeaveP.mk' F ⟨t9, rfl⟩

end
section


noncomputable def modesJ (Dsl : Addr) (xs : List Itm) (m₁ : Str → Option Value) (news₁ : List (Addr × Obj)) : Prop :=
  ∃ (i : Nat) (vs' : List Value) (ns' : List Int) (lo : Obj) (C : Addr) (arr : Array Value) (cs : List Int) (k : Nat) (u : Str → Option Value), xs = enumItems i vs' ∧ IntsAre vs' ns' ∧ m₁ = pins [(Str.ofString "cells", .ref C)] u ∧
    news₁ = [(Dsl, lo), (C, W.listOf arr k)] ∧ @LT.lt Nat _ C Dsl ∧ IntsAre arr.toList cs ∧ 3 ≤ cs.length ∧ cs.length ≤ 5
theorem enum_ints_cons {i : Nat} {a : Itm} {r : List Itm} {vs : List Value} {ns : List Int} (h : a :: r = enumItems i vs) (hi : IntsAre vs ns) :
    ∃ n t vs' ns', a = .pair (fun t => .int (i : Int) t) (.int n t) ∧ r = enumItems (i + 1) vs' ∧ ns = n :: ns' ∧ IntsAre vs' ns' := by
  cases hi with
  | nil => cases h
  | cons n t hi' => cases h; exact ⟨n, t, _, _, rfl, rfl, rfl, hi'⟩
theorem word16 : True := by
  k_with "tb_rel" => (first
      | (with_reducible show wpAny _ _ (call (Value.type "enumerate") _) _ _ _))
  trivial
theorem modes_ct {w : World} {q : Program} {lo : List Str} {mean : ExcName → Option Value} {mg mb : Str → Option Value} {dp un : Nat} {gd : Option (List Code)} {cn : Str} {cs : Scope} {a : Addr} {ccd : Value} {cl : List (Str × Addr)} {outer : List Env} {A₀ : Around} {base h₀ : Heap} {L : Addr} {m : Str → Option Value} {s : Shared} {Q E : Value → Shared → Prop}
  (B : Below A₀ base outer h₀) (F : Fr h₀ L s.heap m) (X : (hd.heap_1 w.params).In h₀)
  (T : Top q lo mean mg mb h₀) (hk : cs.kind = .function) (hd : dp + 4 < recursionLimit) (hu : un + 30 < cLine)
  (l : Addr) (vs : List Value) (ns : List Int) (hl : s.heap.IsList l vs.toArray) (hi : IntsAre vs ns) (hn : ns.length ≤ 63)
  (ret : ∀ v h' tk', Kept s.heap h' → (fun v h' => ∃ lr vr ms, v = .ref lr ∧ s.heap.get? lr = none ∧ h'.IsList lr vr.toArray ∧ IntsAre vr ms ∧ 3 ≤ ms.length ∧ ms.length ≤ 5 ∧ ∀ b ∈ ms, 0 ≤ b ∧ b < 2 ^ 32) v h' → Q v {s with heap := h', toks := tk'}) :
  wpAny (model PySem.Challenge.rw_tv0036_01.row.prog w) (ktrTop dp un gd cn cs L a ccd cl outer) (call (.ref 108) [.ref l]) Q E s := by
  k_dflt (refine' call_pure (binds := [(Str.ofString "script", .ref l)]) _ ?k1 ?k2 ?k3 ?k5 ?kA ?kF ?kK ?k6 ?k7 ?k8 ?k9 ?kB ?kC ?c2 ?c3 ?c4 ret ?_; walk_at "mine enter")
  clear ret B F X T
  intro Lc hc0 tkc F N B X T
  try dsimp only
  have hlen := IntsAre.length hi
  have hlen2 : ns.length < 2 ^ 62 := by omega
  walk_at "mine steps"
  (rename Fr _ _ _ _ => F)
  refine For_turns F ?_
  walk_at "mine steps"
  (rename Fr _ _ _ _ => F)
  (rename News _ _ _ _ => N)
  rename_i C wsC hC1 hIC hCC hLC lC hC2 hC3 tkC Dsl wsD hD1 hID hCD hLD lD
  replace N := News.perm N (news' := [(Dsl, W.listOf wsD.toArray 0), (C, W.listOf wsC.toArray 0)]) (all1 (by k_mem) (all1 (by k_mem) all0))
  have hfm := (Int.fmod_nonneg_of_pos (ns.length : Int) (b := 3) (by decide))
  have hfm' := (Int.fmod_lt_of_pos (ns.length : Int) (b := 3) (by decide))
  simp only [List.length_cons, List.length_nil] at hCC
  refine ktu_enum rfl F N (List.Mem.head _) rfl rfl rfl (fun I hI => ?_)
  clear F N
  refine' itemsInv (modesJ Dsl) ?turn ?done _ _ _ ?init ⟨List.Mem.head _, trivial⟩ (lt_off2 hI)
  (case init => refine ⟨0, _, _, _, C, _, _, _, _, rfl, hID, pins_eq (all1 rfl all0), rfl, lD.1, hIC, ?_, ?_⟩ <;> omega)
  · rintro a r v its m₁ news₁ h tk1 ⟨i, vs', ns', lo, C, arr, cs, k, u, hxs, hi', rfl, rfl, hCD, hcs, hc3, hc5⟩ hv hits hkeep hoff F N
    obtain ⟨it, it', rfl⟩ := objs_two hits
    obtain ⟨n, tn, vs2, ns2, rfl, rfl, rfl, hi2⟩ := enum_ints_cons hxs hi'
    obtain ⟨T1, t1, rfl, hT⟩ := hv
    have hkp := fun r' => keep_head (its := [(I + 1, it), (I, it')]) (r' := r') hkeep N
    clear hkeep
    simp only [List.cons_append, List.nil_append] at N
    have o1 : @Ne Nat Dsl (I + 1) := hoff _ (List.Mem.head _) _ (List.Mem.head _)
    have o2 : @Ne Nat Dsl I := hoff _ (List.Mem.head _) _ (List.Mem.tail _ (List.Mem.head _))
    have o3 : @Ne Nat C (I + 1) := hoff _ (List.Mem.tail _ (List.Mem.head _)) _ (List.Mem.head _)
    have o4 : @Ne Nat C I := hoff _ (List.Mem.tail _ (List.Mem.head _)) _ (List.Mem.tail _ (List.Mem.head _))
    have hal := IntsAre.length hcs
    walk_at "mine steps"
    (rename Fr _ _ _ _ => F)
    (rename News _ _ _ _ => N)
    (rename IntsAre _ _ => hq)
    (rename (List.length (List.set _ _ _) = _) => hls)
    refine TurnEnd.next [(Dsl, lo), (C, _)] F N (all1 (by k_mem) (all1 (by k_mem) (all1 (by k_mem) (all1 (by k_mem) all0)))) (all1 (all1 o1 (all1 o2 all0)) (all1 (all1 o3 (all1 o4 all0)) all0))
      ⟨hkp _, i + 1, vs2, ns2, lo, C, _, _, _, _, rfl, hi2, pins_eq (all1 rfl all0), rfl, hCD, hq, ?_, ?_⟩ <;> omega
  · rintro m₁ news₁ h tk1 ⟨i, vs', ns', lo, C, arr, cs, k, u, hxs, hi', rfl, rfl, hCD, hcs, hc3, hc5⟩ hkeep F N
    have hal := IntsAre.length hcs
    walk_at "mine steps"
    (rename Fr _ _ _ _ => F)
    (rename (s.heap.get? _ = none) => hfr)
    (rename Heap.IsList _ _ _ => hls)
    (rename CarriedAll _ _ => hca)
    rename_i D _ _ _ _
    change LeaveP _ _ _ _ _ _
    refine LeaveP.mk' F ⟨_, _, List.map (fun a => Int.fmod a (2 ^ Int.toNat 32)) (List.filter (fun _ => true) cs), rfl, hfr, hls, CarriedAll.intsOf hca, ?_, ?_, ?_⟩
    · rw [List.length_map, List.filter_eq_self.mpr (fun _ _ => rfl)]; exact hc3
    · rw [List.length_map, List.filter_eq_self.mpr (fun _ _ => rfl)]; exact hc5
    · intro b hb
      obtain ⟨c, _, rfl⟩ := List.mem_map.mp hb
      exact ⟨Int.fmod_nonneg_of_pos _ (by decide), Int.fmod_lt_of_pos _ (by decide)⟩

end
section


theorem down_range {n : Nat} (h1 : 1 ≤ n) (h2 : n ≤ 6) : Builtin.Range.small ((n : Int) - 1) 0 (-1) = true ∧ Builtin.Range.rangeSize ((n : Int) - 1) 0 (-1) = ((n - 1 : Nat) : Int) := by
  have h : n = 1 ∨ n = 2 ∨ n = 3 ∨ n = 4 ∨ n = 5 ∨ n = 6 := by omega
  rcases h with rfl | rfl | rfl | rfl | rfl | rfl <;> decide
theorem reachAt_bd {ns : List Int} {k : Int} (hb : ∀ n ∈ ns, -(2 ^ 40) ≤ n ∧ n ≤ 2 ^ 40) (h1 : 1 ≤ k) (h2 : k ≤ 6) : ∀ {i : Nat}, i ≤ 6 → -((i : Int) * (10000 * 2 ^ 40)) ≤ reachAt ns k i ∧ reachAt ns k i ≤ (i : Int) * (10000 * 2 ^ 40)
  | 0, _ => by simp [reachAt]
  | i + 1, hi => by
    have ih := reachAt_bd hb h1 h2 (i := i) (by omega)
    have hf := facAt_bd (k := k) (i := i) h1 h2 (by omega)
    have hx : -(2 ^ 40) ≤ ns.getD (k + (i : Int)).toNat 0 ∧ ns.getD (k + (i : Int)).toNat 0 ≤ 2 ^ 40 := by
      rw [List.getD_eq_getElem?_getD]
      cases e : ns[(k + (i : Int)).toNat]? with
      | none => decide
      | some x => exact hb x (List.mem_of_getElem? e)
    have key : ∀ f x : Int, -10000 ≤ f → f ≤ 10000 → -(2 ^ 40) ≤ x → x ≤ 2 ^ 40 → -(10000 * 2 ^ 40) ≤ f * x ∧ f * x ≤ 10000 * 2 ^ 40 := by
      intro f x a1 a2 a3 a4
      have h := Int.natAbs_mul f x
      have b1 : f.natAbs ≤ 10000 := by omega
      have b2 : x.natAbs ≤ 2 ^ 40 := by omega
      have b3 := Nat.mul_le_mul b1 b2
      omega
    have hm := key _ _ hf.1 hf.2 hx.1 hx.2
    show -(((i + 1 : Nat) : Int) * (10000 * 2 ^ 40)) ≤ reachAt ns k i + facAt k i * ns.getD (k + (i : Int)).toNat 0 ∧ _
    constructor
    · push_cast; omega
    · show reachAt ns k i + facAt k i * ns.getD (k + (i : Int)).toNat 0 ≤ _
      push_cast; omega
theorem reachedF_bd {ns : List Int} {k : Int} (hb : ∀ n ∈ ns, -(2 ^ 40) ≤ n ∧ n ≤ 2 ^ 40) (hn : ns.length ≤ 6) (h1 : 1 ≤ k) (h2 : k ≤ ns.length) : -(2 ^ 60) ≤ reachedF ns k ∧ reachedF ns k ≤ 2 ^ 60 := by
  have h := reachAt_bd hb h1 (by omega) (i := ((ns.length : Int) - k).toNat) (by omega)
  unfold reachedF
  omega
inductive FltsAre : List Value → List UInt64 → Prop
  | nil : FltsAre [] []
  | cons (x : UInt64) (t : Tok) {vs : List Value} {xs : List UInt64} (ht : @Ne Nat t 0) : FltsAre vs xs → FltsAre (.float x t :: vs) (x :: xs)
theorem FltsAre.length {vs : List Value} {xs : List UInt64} (h : FltsAre vs xs) : vs.length = xs.length := by
  induction h with
  | nil => rfl
  | cons x t _ _ ih => simp [ih]
theorem flts_push {arr : Array Value} {ss : List UInt64} (h : FltsAre arr.toList ss) (x : UInt64) (t : Tok) (ht : @Ne Nat t 0) : FltsAre (arr.push (.float x t)).toList (ss ++ [x]) := by
  rw [Array.toList_push]
  generalize arr.toList = l at h
  induction h with
  | nil => exact .cons x t ht .nil
  | cons y u hu _ ih => exact .cons y u hu ih
noncomputable def divF (a b : Int) : UInt64 := Float64.ofFrac (decide (a < 0) != decide (b < 0)) a.natAbs b.natAbs
noncomputable def wayAt (P : List Int) (i j : Nat) : Int := 4 * P.getD i 0 + (j : Int) * (P.getD (i + 1) 0 - P.getD i 0)
noncomputable def cutsPre (P : List Int) : Nat → List Int
  | 0 => []
  | i + 1 => cutsPre P i ++ [wayAt P i 1, wayAt P i 2, wayAt P i 3, wayAt P i 4]
noncomputable def extF (pts : List Int) : List Int := [2 * pts.getD (Int.toNat 0) 0 - pts.getD (Int.toNat 1) 0] ++ pts ++ [2 * pts.getD (-1 + (pts.length : Int)).toNat 0 - pts.getD (-2 + (pts.length : Int)).toNat 0]
theorem flts_take {vs : List Value} {xs : List UInt64} (h : FltsAre vs xs) (n : Nat) : FltsAre (vs.take n) (xs.take n) := by
  induction h generalizing n with
  | nil => simp; exact .nil
  | cons x t ht _ ih =>
    cases n with
    | zero => exact .nil
    | succ n => exact .cons x t ht (ih n)
theorem pick_init (arr : Array Value) (h : 1 ≤ arr.size) : (slicePick arr none (some (-1)) none) = (arr.toList.take (arr.size - 1)).toArray := by
  rw [kmk_pick_nat (lo := none) (hi := some (-1)) arr (a := 0) (b := arr.size - 1) (by
    rw [kms_bounds]
    simp only [kms_lo, kms_hi]
    congr 2
    all_goals (try split) <;> omega)]
  rw [List.drop_zero, Nat.sub_zero]
noncomputable def cutsJ (P : List Int) (i : Nat) (m₁ : Str → Option Value) (news₁ : List (Addr × Obj)) : Prop :=
  ∃ DP DC wp arr k t u, IntsAre wp P ∧ m₁ = pins [(Str.ofString "way", .int (4 * P.getD i 0) t), (Str.ofString "points", .ref DP), (Str.ofString "cuts", .ref DC)] u ∧ news₁ = [(DC, W.listOf arr k), (DP, W.listOf (List.toArray wp) 0)] ∧ @LT.lt Nat _ DP DC ∧
    FltsAre arr.toList ((cutsPre P i).map fun w => divF w 4) ∧ arr.size = 4 * i
noncomputable def cutsI (P : List Int) (i : Nat) (I : Addr) (it : Obj) (DP DC : Addr) (wp : List Value) (tk : Tok) (j : Nat) (m₁ : Str → Option Value) (news₁ : List (Addr × Obj)) : Prop :=
  ∃ arr k t u, m₁ = pins [(Str.ofString "way", .int (wayAt P i j) t), (Str.ofString "k", .int (1 + (i : Int)) tk), (Str.ofString "points", .ref DP), (Str.ofString "cuts", .ref DC)] u ∧ news₁ = [(I, it), (DC, W.listOf arr k), (DP, W.listOf (List.toArray wp) 0)] ∧
    FltsAre arr.toList ((cutsPre P i ++ (List.range j).map fun b => wayAt P i (b + 1)).map fun w => divF w 4) ∧ arr.size = 4 * i + j
theorem wayAt_0 (P : List Int) (i : Nat) : wayAt P i 0 = 4 * P.getD i 0 := by simp [wayAt]
theorem wayAt_s (P : List Int) (i j : Nat) : wayAt P i j + (P.getD (1 + (i : Int)).toNat 0 - P.getD (1 + (i : Int) - 1).toNat 0) = wayAt P i (j + 1) := by
  unfold wayAt
  rw [show (1 + (i : Int)).toNat = i + 1 by omega, show (1 + (i : Int) - 1).toNat = i by omega]
  push_cast
  rw [Int.add_mul]
  omega
theorem wayAt_4 (P : List Int) (i : Nat) : wayAt P i 4 = 4 * P.getD (i + 1) 0 := by
  unfold wayAt
  push_cast
  omega
theorem getD_bd {P : List Int} {b : Int} (hb : 0 ≤ b) (h : ∀ x ∈ P, -b ≤ x ∧ x ≤ b) (n : Nat) : -b ≤ P.getD n 0 ∧ P.getD n 0 ≤ b := by
  rw [List.getD_eq_getElem?_getD]
  cases e : P[n]? with
  | none => exact ⟨by simpa using hb, by simpa using hb⟩
  | some x => exact h x (List.mem_of_getElem? e)
theorem extF_bd {pts : List Int} (h : ∀ x ∈ pts, -(2 ^ 60) ≤ x ∧ x ≤ 2 ^ 60) : ∀ x ∈ extF pts, -(2 ^ 62) ≤ x ∧ x ≤ 2 ^ 62 := by
  have g := getD_bd (b := 2 ^ 60) (by decide) h
  intro x hx
  unfold extF at hx
  rcases List.mem_append.mp hx with hx | hx
  · rcases List.mem_append.mp hx with hx | hx
    · rw [List.mem_singleton.mp hx]
      have h1 := g (Int.toNat 0); have h2 := g (Int.toNat 1)
      omega
    · have := h x hx; omega
  · rw [List.mem_singleton.mp hx]
    have h1 := g (-1 + (pts.length : Int)).toNat; have h2 := g (-2 + (pts.length : Int)).toNat
    omega
theorem way_fits {P : List Int} (h : ∀ x ∈ P, -(2 ^ 62) ≤ x ∧ x ≤ 2 ^ 62) (i : Nat) {j : Nat} (hj : j ≤ 4) : (wayAt P i j).natAbs < 2 ^ 1023 := by
  have h1 := getD_bd (b := 2 ^ 62) (by decide) h i
  have h2 := getD_bd (b := 2 ^ 62) (by decide) h (i + 1)
  have h4 : j = 0 ∨ j = 1 ∨ j = 2 ∨ j = 3 ∨ j = 4 := by omega
  have key : (wayAt P i j).natAbs < 2 ^ 70 := by
    unfold wayAt
    rcases h4 with rfl | rfl | rfl | rfl | rfl <;> (push_cast; omega)
  exact Nat.lt_trans key (Nat.pow_lt_pow_right (by decide) (by decide))
noncomputable def pointsF (ns : List Int) : List Int := (List.range (ns.length - 1)).map fun j : Nat => reachedF ns ((ns.length : Int) - 1 - (j : Int))
noncomputable def cutsF (pts : List Int) : List UInt64 := ((cutsPre (extF pts) (pts.length + 1)).map fun w => divF w 4).take (4 * (pts.length + 1) - 1)
theorem word17 : True := by
  k_with "tb_rel" => (first
      | (with_reducible show wpAny _ _ (exec (PySem.Stmt.Assign _ (PySem.Expr.ListComp _ _ _ _) _) _) _ _ _))
  trivial
theorem word18 : True := by
  k_with "call ref" => (((with_reducible show wpAny _ _ (call (Value.ref 132) [Value.ref _, Value.int _ _]) _ _ _); k_dflt (refine' reached_ct_use (by k_asm) (by k_asm) (by k_asm) (by k_asm) (by first | exact rfl | assumption) (by ktr_room) (by ktr_units) (by k_asm) _ _ _ _ _ (by first | assumption | exact Heap.IsList.at (by assumption) fun o e => Fr.keep (by k_asm) _ o e) (by assumption) (by omega) (by assumption) (by omega) (by omega) ?_); intro _ _ _ _ _; (try dsimp only)))
  trivial
theorem cuts_ct {w : World} {q : Program} {lo : List Str} {mean : ExcName → Option Value} {mg mb : Str → Option Value} {dp un : Nat} {gd : Option (List Code)} {cn : Str} {cs : Scope} {a : Addr} {ccd : Value} {cl : List (Str × Addr)} {outer : List Env} {A₀ : Around} {base h₀ : Heap} {L : Addr} {m : Str → Option Value} {s : Shared} {Q E : Value → Shared → Prop}
  (B : Below A₀ base outer h₀) (F : Fr h₀ L s.heap m) (X : (hd.heap_1 w.params).In h₀)
  (T : Top q lo mean mg mb h₀) (hk : cs.kind = .function) (hd : dp + 8 < recursionLimit) (hu : un + 60 < cLine)
  (l : Addr) (vs : List Value) (ns : List Int) (hl : s.heap.IsList l vs.toArray) (hi : IntsAre vs ns) (h3 : 3 ≤ ns.length) (hn : ns.length ≤ 6) (hb : ∀ n ∈ ns, -(2 ^ 40) ≤ n ∧ n ≤ 2 ^ 40)
  (ret : ∀ v h' tk', Kept s.heap h' → (fun v h' => ∃ lr vr, v = .ref lr ∧ s.heap.get? lr = none ∧ h'.IsList lr (List.toArray vr) ∧ FltsAre vr (cutsF (pointsF ns))) v h' → Q v {s with heap := h', toks := tk'}) :
  wpAny (model PySem.Challenge.rw_tv0036_01.row.prog w) (ktrTop dp un gd cn cs L a ccd cl outer) (call (.ref 137) [.ref l]) Q E s := by
  k_dflt (refine' call_pureC (binds := [(Str.ofString "sums", .ref l)]) _ (fun _ => none) (Str.ofString "sums") (some (.ref l)) ?k1 ?k2 ?k3 ?k5 ?kA ?kF ?kK ?k6 ?k7 ?k8 ?k9 ?kB ?kC ?kD ?kE ?c2 ?c3 ?c4 ret ?_; walk_at "mine enterC")
  clear ret B F X T
  intro Lc hc0 tkc oc0 F N hcell B X T
  try dsimp only
  have hlen := IntsAre.length hi
  walk_at "mine steps"
  k_dflt (refine assignCompStep F rfl (by with_unfolding_all rfl) (by with_unfolding_all rfl) (by decide) (by rfl) (by decide) (by rfl) (by rfl) (by rfl) ?_)
  walk_at "mine steps"
  (rename Fr _ _ _ _ => F)
  (rename News _ _ _ _ => N)
  (rename IsRange _ _ _ _ _ _ _ _ => R)
  refine SrcStep.intro rfl F N R (down_range (by omega) hn).1 (down_range (by omega) hn).2 (by rw [PySem.sizeLine_eq]; omega) (fun g => ?_)
  clear F N R
  refine compInv (fun i ys news₁ => IntsAre ys ((List.range i).map fun j : Nat => reachedF ns ((ns.length : Int) - 1 - (j : Int))) ∧ news₁ = [(Lc + 1, oc0)]) ⟨.nil, rfl⟩ ?_ ?_
  · rintro i v ys news₁ I oI C oC D m₂ h tk E' hin ⟨t, rfl⟩ ⟨hys, rfl⟩ hC hx off F N
    walk_at "mine steps"
    (rename Fr _ _ _ _ => F)
    (rename News _ _ _ _ => N)
    refine EltEnd.intro [(Lc + 1, oc0)] F N (fun _ h => h) (off3 off) ⟨trivial, ?_, rfl⟩
    rw [map_snoc, show (ns.length : Int) - 1 - (i : Int) = (ns.length : Int) - 1 + (i : Int) * -1 by omega]
    exact ints_snoc hys _ _
  · rintro ys news' ⟨hys, rfl⟩
    replace hys : IntsAre ys (pointsF ns) := hys
    have hpl : (pointsF ns).length = ns.length - 1 := by unfold pointsF; rw [List.length_map, List.length_range]
    have hpb : ∀ x ∈ pointsF ns, -(2 ^ 60) ≤ x ∧ x ≤ 2 ^ 60 := by
      intro x hx
      obtain ⟨j, hj, rfl⟩ := List.mem_map.mp hx
      have hj' := List.mem_range.mp hj
      exact reachedF_bd hb hn (by omega) (by omega)
    obtain ⟨pts, hpts⟩ : ∃ pts, pts = pointsF ns := ⟨_, rfl⟩
    rw [← hpts] at hys hpl hpb
    have hyl := IntsAre.length hys
    walk_at "mine steps"
    (rename Fr _ _ _ _ => F)
    (rename News _ _ _ _ => N)
    (rename IntsAre _ _ => hP)
    refine For_invVF F rfl rfl ?_
    walk_at "mine steps"
    (rename Fr _ _ _ _ => F)
    (rename News _ _ _ _ => N)
    (rename IsRange _ _ _ _ _ _ _ _ => R)
    have N2 := news_two N
    clear N
    replace hP : IntsAre _ (extF pts) := hP
    have hPb := extF_bd hpb
    have hel : (extF pts).length = pts.length + 2 := by unfold extF; simp
    refine forRange (cutsJ (extF pts)) rfl R (small_one (by omega) (by omega) (by omega) (by omega)) (rangeSize_nat _ _) F N2 ?_ ?_ ?_
    · refine ⟨_, _, _, _, _, _, _, hP, pins_eq (all1 rfl (all1 rfl (all1 rfl all0))), rfl, ?_, .nil, rfl⟩
      omega
    · clear F N2 R hP
      rintro i t I it m₁ news₁ h tk1 hin ⟨DP, DC, wp, arr, k, tw, u, hP, rfl, rfl, hD, hfl, hsz⟩ hoff F N
      have o1 : @Ne Nat DC I := hoff _ (List.Mem.head _)
      have o2 : @Ne Nat DP I := hoff _ (List.Mem.tail _ (List.Mem.head _))
      have hi0 : i < pts.length + 1 := by omega
      generalize extF pts = P at hP hel hfl F hPb
      walk_at "mine steps"
      (rename Fr _ _ _ _ => F)
      refine For_invVF F rfl rfl ?_
      walk_at "mine steps"
      (rename Fr _ _ _ _ => F)
      (rename News _ _ _ _ => N)
      (rename IsRange _ _ _ _ _ _ _ _ => R)
      rw [← wayAt_0] at F
      refine forRange (cutsI P i I it DP DC wp t) rfl R (small_one (by omega) (by omega) (by omega) (by omega)) (rangeSize_nat _ _) F N ?_ ?_ ?_
      · exact ⟨arr, k, _, _, pins_eq (all1 rfl (all1 rfl (all1 rfl (all1 rfl all0)))), rfl, by simpa using hfl, hsz⟩
      · clear F N R hfl hsz
        rintro j t2 I2 it2 m₁ news₁ h2 tk2 hj ⟨arr, k, tw, u, rfl, rfl, hfl, hsz⟩ hoff2 F N
        have hj4 : j < 4 := hj
        have p1 : @Ne Nat I I2 := hoff2 _ (List.Mem.head _)
        have p2 : @Ne Nat DC I2 := hoff2 _ (List.Mem.tail _ (List.Mem.head _))
        have p3 : @Ne Nat DP I2 := hoff2 _ (List.Mem.tail _ (List.Mem.tail _ (List.Mem.head _)))
        walk_at "mine steps"
        · (rename (Float64.isInf _ = true) => hinf)
          rw [wayAt_s] at hinf
          exact absurd hinf (Flt.quot_fits (by decide) (way_fits hPb i hj4))
        · (rename Fr _ _ _ _ => F)
          (rename News _ _ _ _ => N)
          rw [wayAt_s] at F N
          refine TurnEnd.next1 F N (all1 p1 (all1 p2 (all1 p3 all0))) ⟨_, _, _, _, pins_eq (all1 rfl (all1 rfl (all1 rfl (all1 rfl all0)))), rfl, ?_, by rw [Array.size_push, hsz]; rfl⟩
          rw [map_snoc, ← List.append_assoc, List.map_append]
          exact flts_push hfl _ _ (Nat.succ_ne_zero _)
      · clear F N R hfl hsz
        rintro m₁ news₁ h2 tk2 ⟨arr, k, tw, u, rfl, rfl, hfl, hsz⟩ F N
        walk_at "mine steps"
        (rename Fr _ _ _ _ => F)
        (rename News _ _ _ _ => N)
        rw [show (4 - 0 : Int).toNat = 4 from rfl, wayAt_4] at F
        exact TurnEnd.next1 F N (all1 o1 (all1 o2 all0)) ⟨_, _, _, _, _, _, _, hP, pins_eq (all1 rfl (all1 rfl (all1 rfl all0))), rfl, hD, hfl, hsz⟩
    · clear F N2 R hP
      rintro m₁ news₁ h tk1 ⟨DP, DC, wp, arr, k, tw, u, hP, rfl, rfl, hD, hfl, hsz⟩ F N
      walk_at "mine steps"
      (rename Fr _ _ _ _ => F)
      (rename News _ _ _ _ => N)
      have hn1 : ((((1 + pts.length + 1 : Nat) : Int) - 1).toNat) = pts.length + 1 := by omega
      rw [hn1] at hfl hsz
      rw [pick_init _ (by omega)] at N
      change LeaveP _ _ _ _ _ _
      refine LeaveP.mk' F ⟨_, arr.toList.take (arr.size - 1), rfl, (N _ (List.Mem.head _)).2.2, News.isList N (List.Mem.head _), ?_⟩
      rw [← hpts]
      unfold cutsF
      rw [hsz]
      exact flts_take hfl _

end
section


theorem word19 : True := by
  k_with "mine enterK" => (((case kA => exact rfl); (case kF => exact rfl); (case kK => assumption); (case k1 => k_asm); (case k2 => k_asm); (case k3 => k_asm); (case k5 => k_asm); (case k6 => k_is); (case k7 => k_is); (case k8 => ktr_room); (case k9 => exact kp_binds (by k_in) (fun _ => rfl)); (case kC => decide); (case kB => exact locs rfl); (case c2 => exact rfl); (case c3 => exact rfl); (case c4 => exact rfl)))
  trivial
theorem word20 : True := by
  k_with "tb_rel" => (first
      | (with_reducible show wpAny _ _ (call (Value.builtin "sorted") _) _ _ _))
  trivial
noncomputable def exj (ld i : Int) : Int := if (i * (ld + 1)).fdiv (4 * ld + 4) < 1 then 1 else if (i * (ld + 1)).fdiv (4 * ld + 4) > ld - 1 then ld - 1 else (i * (ld + 1)).fdiv (4 * ld + 4)
noncomputable def exNum (ss : List Int) (ld i : Int) : Int :=
  ss.getD (exj ld i - 1).toNat 0 * (4 * ld + 4 - (i * (ld + 1) - exj ld i * (4 * ld + 4))) + ss.getD (exj ld i).toNat 0 * (i * (ld + 1) - exj ld i * (4 * ld + 4))
noncomputable def exAt (ss : List Int) (i : Int) : UInt64 := divF (exNum ss ss.length i) (4 * (ss.length : Int) + 4)
theorem ex_quot (ld i : Int) (h : 0 ≤ ld) : (i * (ld + 1)).fdiv (4 * ld + 4) = i / 4 := by
  rw [Int.fdiv_eq_ediv_of_nonneg _ (by omega), show 4 * ld + 4 = 4 * (ld + 1) by omega]
  exact Int.mul_ediv_mul_of_pos_left i 4 (by omega)
theorem mulOkD {P : List Int} (h : ∀ x ∈ P, -(2 ^ 40) ≤ x ∧ x ≤ 2 ^ 40) (n : Nat) (b : Int) : IntMulOk (P.getD n 0) b :=
  have g := getD_bd (b := 2 ^ 40) (by decide) h n
  IntMulOk.of_left (PySem.intBits_le_64 (by omega) (by omega))
theorem word21 : True := by
  k_with "binaryOp Mult int int" => (((with_reducible show wpAny _ _ (binaryOp _ (Value.int (List.getD _ _ _) _) (Value.int _ _)) _ _ _); refine PyProof.Rows.mul_int (hm := mulOkD (by assumption) _ _) ?_))
  trivial
theorem prod_abs {a b : Int} {m n : Nat} (ha : a.natAbs ≤ m) (hb : b.natAbs ≤ n) : (a * b).natAbs ≤ m * n := by rw [Int.natAbs_mul]; exact Nat.mul_le_mul ha hb
theorem exj_bd {ld i : Int} (h : 3 ≤ ld) : 1 ≤ exj ld i ∧ exj ld i ≤ ld - 1 := by
  unfold exj
  split
  · omega
  · split <;> omega
theorem exNum_fits {ss : List Int} (h : ∀ x ∈ ss, -(2 ^ 40) ≤ x ∧ x ≤ 2 ^ 40) {ld i : Int} (h1 : 3 ≤ ld) (h2 : ld ≤ 5) (h3 : 0 ≤ i) (h4 : i ≤ 30) : (exNum ss ld i).natAbs < 2 ^ 1023 := by
  have hj := exj_bd (ld := ld) (i := i) h1
  have g1 := getD_bd (b := 2 ^ 40) (by decide) h (exj ld i - 1).toNat
  have g2 := getD_bd (b := 2 ^ 40) (by decide) h (exj ld i).toNat
  unfold exNum
  generalize exj ld i = j at *
  have key : (i * (ld + 1) - j * (4 * ld + 4)).natAbs ≤ 1000 := by
    have h5 : ld = 3 ∨ ld = 4 ∨ ld = 5 := by omega
    rcases h5 with rfl | rfl | rfl <;> omega
  have key2 : (4 * ld + 4 - (i * (ld + 1) - j * (4 * ld + 4))).natAbs ≤ 2000 := by omega
  have p1 := prod_abs (a := ss.getD (j - 1).toNat 0) (b := 4 * ld + 4 - (i * (ld + 1) - j * (4 * ld + 4))) (m := 2 ^ 40) (n := 2000) (by omega) key2
  have p2 := prod_abs (a := ss.getD j.toNat 0) (b := i * (ld + 1) - j * (4 * ld + 4)) (m := 2 ^ 40) (n := 1000) (by omega) key
  have fin : (ss.getD (j - 1).toNat 0 * (4 * ld + 4 - (i * (ld + 1) - j * (4 * ld + 4))) + ss.getD j.toNat 0 * (i * (ld + 1) - j * (4 * ld + 4))).natAbs < 2 ^ 60 := by omega
  exact Nat.lt_trans fin (Nat.pow_lt_pow_right (by decide) (by decide))
noncomputable def exJ (ss : List Int) (i : Nat) (m₁ : Str → Option Value) (news₁ : List (Addr × Obj)) : Prop :=
  ∃ DS DR wp e arr k tn tld tm u, IntsAre wp ss ∧ m₁ = pins [(Str.ofString "result", .ref DR), (Str.ofString "data", .ref DS), (Str.ofString "n", .int (4 * (ss.length : Int) + 4) tn), (Str.ofString "ld", .int (ss.length : Int) tld), (Str.ofString "m", .int ((ss.length : Int) + 1) tm)] u ∧
    news₁ = [(DR, W.listOf arr k), (DS, seqObj "list" (List.toArray wp) e)] ∧ @LT.lt Nat _ DS DR ∧ FltsAre arr.toList ((List.range i).map fun a : Nat => exAt ss (1 + (a : Int))) ∧ arr.size = i
theorem quant_ex {w : World} {q : Program} {lo : List Str} {mean : ExcName → Option Value} {mg mb : Str → Option Value} {dp un : Nat} {gd : Option (List Code)} {cn : Str} {cs : Scope} {a : Addr} {ccd : Value} {cl : List (Str × Addr)} {outer : List Env} {A₀ : Around} {base h₀ : Heap} {L : Addr} {m : Str → Option Value} {s : Shared} {Q E : Value → Shared → Prop}
  (B : Below A₀ base outer h₀) (F : Fr h₀ L s.heap m) (X : (hd.heap_1 w.params).In h₀)
  (T : Top q lo mean mg mb h₀) (hk : cs.kind = .function) (hd : dp + 4 < recursionLimit) (hu : un + 30 < cLine)
  (l : Addr) (vs : List Value) (ns : List Int) (N : Int) (tk : Tok) (hN : N = 4 * (ns.length : Int) + 4) (hl : s.heap.IsList l vs.toArray) (hi : IntsAre vs ns) (h3 : 3 ≤ ns.length) (hn : ns.length ≤ 5) (hb : ∀ n ∈ ns, -(2 ^ 40) ≤ n ∧ n ≤ 2 ^ 40)
  (ret : ∀ v h' tk', Kept s.heap h' → (fun v h' => ∃ lr vr ss, v = .ref lr ∧ s.heap.get? lr = none ∧ h'.IsList lr (List.toArray vr) ∧ ss.Perm ns ∧ ss.Pairwise (· ≤ ·) ∧ FltsAre vr ((List.range (4 * ss.length + 3)).map fun a : Nat => exAt ss (1 + (a : Int)))) v h' → Q v {s with heap := h', toks := tk'}) :
  wpAny (model PySem.Challenge.rw_tv0036_01.row.prog w) (ktrTop dp un gd cn cs L a ccd cl outer) (call (.ref 49) [.ref l] [(Str.ofString "n", .int N tk)]) Q E s := by
  k_dflt (refine' call_pure (binds := [(Str.ofString "method", .str (Str.ofString "exclusive") 224), (Str.ofString "n", .int N tk), (Str.ofString "data", .ref l)]) _ ?k1 ?k2 ?k3 ?k5 ?kA ?kF ?kK ?k6 ?k7 ?k8 ?k9 ?kB ?kC ?c2 ?c3 ?c4 ret ?_; walk_at "mine enterK")
  clear ret B F X T
  intro Lc hc0 tkc F N B X T
  try dsimp only
  have hlen := IntsAre.length hi
  subst hN
  walk_at "mine steps"
  (rename Fr _ _ _ _ => F)
  (rename News _ _ _ _ => N)
  refine sorted_N F N (hl.at fun o e => F.keep l o e) hi (by omega) ?_
  intro h9 wp ss e9 F N hss hp hsort
  have hpl := hp.length_eq
  have hwl := IntsAre.length hss
  have hne : ¬ ((ss.length : Nat) : Int) < 2 := by omega
  have hbs : ∀ x ∈ ss, -(2 ^ 40) ≤ x ∧ x ≤ 2 ^ 40 := fun x hx => hb x (hp.mem_iff.mp hx)
  rw [← hpl] at F
  have hss2 : IntsAre wp ss ∧ True := ⟨hss, trivial⟩
  dsimp only
  walk_at "mine steps"
  (rename Fr _ _ _ _ => F)
  refine For_invVF F rfl rfl ?_
  walk_at "mine steps"
  (rename Fr _ _ _ _ => F)
  (rename News _ _ _ _ => N)
  (rename IsRange _ _ _ _ _ _ _ _ => R)
  refine' forRange (exJ ss) rfl R (small_one (by omega) (by omega) (by omega) (by omega)) (rangeSize_nat _ _) F N ?init ?turn ?done
  (case init => refine ⟨_, _, _, _, _, _, _, _, _, _, hss2.1, pins_eq (all1 rfl (all1 rfl (all1 rfl (all1 rfl (all1 rfl all0))))), rfl, ?_, .nil, rfl⟩; omega)
  · clear F N R hss2
    rintro i t I it m₁ news₁ h tk1 hin ⟨DS, DR, wp, e, arr, k, tn, tld, tm, u, hss, rfl, rfl, hD, hfl, hsz⟩ hoff F N
    have o1 : @Ne Nat DR I := hoff _ (List.Mem.head _)
    have o2 : @Ne Nat DS I := hoff _ (List.Mem.tail _ (List.Mem.head _))
    have hq := ex_quot (ss.length : Int) (1 + (i : Int)) (by omega)
    have hi' : i < 4 * ss.length + 3 := by omega
    have hfit := exNum_fits hbs (ld := (ss.length : Int)) (i := 1 + (i : Int)) (by omega) (by omega) (by omega) (by omega)
    have he : exAt ss (1 + (i : Int)) = divF (exNum ss ss.length (1 + (i : Int))) (4 * (ss.length : Int) + 4) := rfl
    unfold exNum at hfit he
    walk_at "mine steps"
    iterate 2
      have hj : exj (ss.length : Int) (1 + (i : Int)) = 1 := by unfold exj; rw [if_pos (by omega)]
      rotate_left 1
    iterate 2
      have hj : exj (ss.length : Int) (1 + (i : Int)) = (ss.length : Int) - 1 := by unfold exj; rw [if_neg (by omega), if_pos (by omega)]
      rotate_left 1
    iterate 2
      have hj : exj (ss.length : Int) (1 + (i : Int)) = ((1 + (i : Int)) * ((ss.length : Int) + 1)).fdiv (4 * (ss.length : Int) + 4) := by unfold exj; rw [if_neg (by omega), if_neg (by omega)]
      rotate_left 1
    all_goals
      rw [hj] at hfit he
      first
        | ((rename (Float64.isInf _ = true) => hinf); exact absurd hinf (Flt.quot_fits (by omega) hfit))
        | ((rename Fr _ _ _ _ => F); (rename News _ _ _ _ => N); refine TurnEnd.next1 F N (all1 o1 (all1 o2 all0)) ⟨DS, DR, wp, e, _, _, _, _, _, _, hss, pins_eq (all1 rfl (all1 rfl (all1 rfl (all1 rfl (all1 rfl all0))))), rfl, hD, ?_, by rw [Array.size_push, hsz]⟩; rw [map_snoc, he]; exact flts_push hfl _ _ (Nat.succ_ne_zero _))
  · clear F N R hss2
    rintro m₁ news₁ h tk1 ⟨DS, DR, wp, e, arr, k, tn, tld, tm, u, hss, rfl, rfl, hD, hfl, hsz⟩ F N
    walk_at "mine steps"
    (rename Fr _ _ _ _ => F)
    (rename News _ _ _ _ => N)
    have hN : ((4 * (ss.length : Int) + 4 - 1).toNat) = 4 * ss.length + 3 := by omega
    rw [hN] at hfl
    change LeaveP _ _ _ _ _ _
    exact LeaveP.mk' F ⟨DR, arr.toList, ss, rfl, (N _ (List.Mem.head _)).2.2, News.isList N (List.Mem.head _), hp, hsort, hfl⟩

end
section


noncomputable def inNum (ss : List Int) (ld i : Int) : Int :=
  ss.getD ((i * (ld - 1)).fdiv (4 * ld - 4)).toNat 0 * (4 * ld - 4 - (i * (ld - 1)).fmod (4 * ld - 4)) + ss.getD ((i * (ld - 1)).fdiv (4 * ld - 4) + 1).toNat 0 * (i * (ld - 1)).fmod (4 * ld - 4)
noncomputable def inAt (ss : List Int) (i : Int) : UInt64 := divF (inNum ss ss.length i) (4 * (ss.length : Int) - 4)
theorem in_quot (ld i : Int) (h : 2 ≤ ld) : (i * (ld - 1)).fdiv (4 * ld - 4) = i / 4 := by
  rw [Int.fdiv_eq_ediv_of_nonneg _ (by omega), show 4 * ld - 4 = 4 * (ld - 1) by omega]
  exact Int.mul_ediv_mul_of_pos_left i 4 (by omega)
theorem in_rest (ld i : Int) (h : 2 ≤ ld) : 0 ≤ (i * (ld - 1)).fmod (4 * ld - 4) ∧ (i * (ld - 1)).fmod (4 * ld - 4) < 4 * ld - 4 :=
  ⟨Int.fmod_nonneg_of_pos _ (by omega), Int.fmod_lt_of_pos _ (by omega)⟩
theorem inNum_fits {ss : List Int} (h : ∀ x ∈ ss, -(2 ^ 40) ≤ x ∧ x ≤ 2 ^ 40) {ld i : Int} (h1 : 3 ≤ ld) (h2 : ld ≤ 5) : (inNum ss ld i).natAbs < 2 ^ 1023 := by
  have g1 := getD_bd (b := 2 ^ 40) (by decide) h ((i * (ld - 1)).fdiv (4 * ld - 4)).toNat
  have g2 := getD_bd (b := 2 ^ 40) (by decide) h ((i * (ld - 1)).fdiv (4 * ld - 4) + 1).toNat
  have hr := in_rest ld i (by omega)
  unfold inNum
  generalize (i * (ld - 1)).fmod (4 * ld - 4) = r at *
  generalize (i * (ld - 1)).fdiv (4 * ld - 4) = j at *
  have p1 := prod_abs (a := ss.getD j.toNat 0) (b := 4 * ld - 4 - r) (m := 2 ^ 40) (n := 100) (by omega) (by omega)
  have p2 := prod_abs (a := ss.getD (j + 1).toNat 0) (b := r) (m := 2 ^ 40) (n := 100) (by omega) (by omega)
  have fin : (ss.getD j.toNat 0 * (4 * ld - 4 - r) + ss.getD (j + 1).toNat 0 * r).natAbs < 2 ^ 60 := by omega
  exact Nat.lt_trans fin (Nat.pow_lt_pow_right (by decide) (by decide))
noncomputable def inJ (ss : List Int) (i : Nat) (m₁ : Str → Option Value) (news₁ : List (Addr × Obj)) : Prop :=
  ∃ DS DR wp e arr k tn tm u, IntsAre wp ss ∧ m₁ = pins [(Str.ofString "result", .ref DR), (Str.ofString "data", .ref DS), (Str.ofString "n", .int (4 * (ss.length : Int) - 4) tn), (Str.ofString "m", .int ((ss.length : Int) - 1) tm)] u ∧
    news₁ = [(DR, W.listOf arr k), (DS, seqObj "list" (List.toArray wp) e)] ∧ @LT.lt Nat _ DS DR ∧ FltsAre arr.toList ((List.range i).map fun a : Nat => inAt ss (1 + (a : Int))) ∧ arr.size = i
theorem quant_in {w : World} {q : Program} {lo : List Str} {mean : ExcName → Option Value} {mg mb : Str → Option Value} {dp un : Nat} {gd : Option (List Code)} {cn : Str} {cs : Scope} {a : Addr} {ccd : Value} {cl : List (Str × Addr)} {outer : List Env} {A₀ : Around} {base h₀ : Heap} {L : Addr} {m : Str → Option Value} {s : Shared} {Q E : Value → Shared → Prop}
  (B : Below A₀ base outer h₀) (F : Fr h₀ L s.heap m) (X : (hd.heap_1 w.params).In h₀)
  (T : Top q lo mean mg mb h₀) (hk : cs.kind = .function) (hd : dp + 4 < recursionLimit) (hu : un + 30 < cLine)
  (l : Addr) (vs : List Value) (ns : List Int) (N : Int) (tk : Tok) (tk2 : Tok) (hN : N = 4 * (ns.length : Int) - 4) (hl : s.heap.IsList l vs.toArray) (hi : IntsAre vs ns) (h3 : 3 ≤ ns.length) (hn : ns.length ≤ 5) (hb : ∀ n ∈ ns, -(2 ^ 40) ≤ n ∧ n ≤ 2 ^ 40)
  (ret : ∀ v h' tk', Kept s.heap h' → (fun v h' => ∃ lr vr ss, v = .ref lr ∧ s.heap.get? lr = none ∧ h'.IsList lr (List.toArray vr) ∧ ss.Perm ns ∧ ss.Pairwise (· ≤ ·) ∧ FltsAre vr ((List.range (4 * ss.length - 5)).map fun a : Nat => inAt ss (1 + (a : Int)))) v h' → Q v {s with heap := h', toks := tk'}) :
  wpAny (model PySem.Challenge.rw_tv0036_01.row.prog w) (ktrTop dp un gd cn cs L a ccd cl outer) (call (.ref 49) [.ref l] [(Str.ofString "n", .int N tk), (Str.ofString "method", .str (Str.ofString "inclusive") tk2)]) Q E s := by
  k_dflt (refine' call_pure (binds := [(Str.ofString "method", .str (Str.ofString "inclusive") tk2), (Str.ofString "n", .int N tk), (Str.ofString "data", .ref l)]) _ ?k1 ?k2 ?k3 ?k5 ?kA ?kF ?kK ?k6 ?k7 ?k8 ?k9 ?kB ?kC ?c2 ?c3 ?c4 ret ?_; walk_at "mine enterK")
  clear ret B F X T
  intro Lc hc0 tkc F N B X T
  try dsimp only
  have hlen := IntsAre.length hi
  subst hN
  have hN1 : ¬ 4 * (ns.length : Int) - 4 < 1 := by omega
  walk_at "mine steps"
  (rename Fr _ _ _ _ => F)
  (rename News _ _ _ _ => N)
  refine sorted_N F N (hl.at fun o e => F.keep l o e) hi (by omega) ?_
  intro h9 wp ss e9 F N hss hp hsort
  have hpl := hp.length_eq
  have hwl := IntsAre.length hss
  have hne : ¬ ((ss.length : Nat) : Int) < 2 := by omega
  have hbs : ∀ x ∈ ss, -(2 ^ 40) ≤ x ∧ x ≤ 2 ^ 40 := fun x hx => hb x (hp.mem_iff.mp hx)
  rw [← hpl] at F
  have hss2 : IntsAre wp ss ∧ True := ⟨hss, trivial⟩
  dsimp only
  walk_at "mine steps"
  (rename Fr _ _ _ _ => F)
  refine For_invVF F rfl rfl ?_
  walk_at "mine steps"
  (rename Fr _ _ _ _ => F)
  (rename News _ _ _ _ => N)
  (rename IsRange _ _ _ _ _ _ _ _ => R)
  refine' forRange (inJ ss) rfl R (small_one (by omega) (by omega) (by omega) (by omega)) (rangeSize_nat _ _) F N ?init ?turn ?done
  (case init => refine ⟨_, _, _, _, _, _, _, _, _, hss2.1, pins_eq (all1 rfl (all1 rfl (all1 rfl (all1 rfl all0)))), rfl, ?_, .nil, rfl⟩; omega)
  · clear F N R hss2
    rintro i t I it m₁ news₁ h tk1 hin ⟨DS, DR, wp, e, arr, k, tn, tm, u, hss, rfl, rfl, hD, hfl, hsz⟩ hoff F N
    have o1 : @Ne Nat DR I := hoff _ (List.Mem.head _)
    have o2 : @Ne Nat DS I := hoff _ (List.Mem.tail _ (List.Mem.head _))
    have hq := in_quot (ss.length : Int) (1 + (i : Int)) (by omega)
    have hr := in_rest (ss.length : Int) (1 + (i : Int)) (by omega)
    have hi' : i < 4 * ss.length - 5 := by omega
    have hfit := inNum_fits hbs (ld := (ss.length : Int)) (i := 1 + (i : Int)) (by omega) (by omega)
    have he : inAt ss (1 + (i : Int)) = divF (inNum ss ss.length (1 + (i : Int))) (4 * (ss.length : Int) - 4) := rfl
    unfold inNum at hfit he
    have z1 : @LT.lt Nat _ DR h.objs.size := Heap.lt_size (N _ (List.Mem.tail _ (List.Mem.head _))).1
    have z2 : @LT.lt Nat _ DS h.objs.size := Heap.lt_size (N _ (List.Mem.tail _ (List.Mem.tail _ (List.Mem.head _)))).1
    have z3 : @LT.lt Nat _ I h.objs.size := Heap.lt_size (N _ (List.Mem.head _)).1
    walk_at "mine steps"
    all_goals first
      | ((rename (Float64.isInf _ = true) => hinf); exact absurd hinf (Flt.quot_fits (by omega) hfit))
      | ((rename Fr _ _ _ _ => F); (rename News _ _ _ _ => N); refine TurnEnd.next1 F (fun p hp => N p (List.Mem.tail _ hp)) (all1 o1 (all1 o2 all0)) ⟨DS, DR, wp, e, _, _, _, _, _, hss, pins_eq (all1 rfl (all1 rfl (all1 rfl (all1 rfl all0)))), rfl, hD, ?_, by rw [Array.size_push, hsz]⟩; rw [map_snoc, he]; exact flts_push hfl _ _ (Nat.succ_ne_zero _))
  · clear F N R hss2
    rintro m₁ news₁ h tk1 ⟨DS, DR, wp, e, arr, k, tn, tm, u, hss, rfl, rfl, hD, hfl, hsz⟩ F N
    walk_at "mine steps"
    (rename Fr _ _ _ _ => F)
    (rename News _ _ _ _ => N)
    have hN : ((4 * (ss.length : Int) - 4 - 1).toNat) = 4 * ss.length - 5 := by omega
    rw [hN] at hfl
    change LeaveP _ _ _ _ _ _
    exact LeaveP.mk' F ⟨DR, arr.toList, ss, rfl, (N _ (List.Mem.head _)).2.2, News.isList N (List.Mem.head _), hp, hsort, hfl⟩

end
section


noncomputable abbrev Trip := Int × Int × Int
noncomputable abbrev tup3 (a b c : Value) : Obj := { cls := .type "tuple", data := .seq #[a, b, c] }
inductive TripAt (news : List (Addr × Obj)) : Value → Trip → Prop
  | mk (t : Addr) (a b c : Int) (ta tb tc : Tok) (h : (t, tup3 (.int a ta) (.int b tb) (.int c tc)) ∈ news) : TripAt news (.ref t) (a, b, c)
inductive TripsAre (news : List (Addr × Obj)) : List Value → List Trip → Prop
  | nil : TripsAre news [] []
  | cons {v : Value} {c : Trip} {vs : List Value} {cs : List Trip} (h : TripAt news v c) (r : TripsAre news vs cs) : TripsAre news (v :: vs) (c :: cs)
theorem TripAt.mono {a b : List (Addr × Obj)} (h : ∀ p ∈ a, p ∈ b) {v : Value} {c : Trip} : TripAt a v c → TripAt b v c
  | .mk t x y z ta tb tc m => .mk t x y z ta tb tc (h _ m)
theorem TripsAre.mono {a b : List (Addr × Obj)} (h : ∀ p ∈ a, p ∈ b) {vs : List Value} {cs : List Trip} (x : TripsAre a vs cs) : TripsAre b vs cs := by
  induction x with
  | nil => exact .nil
  | cons t _ ih => exact .cons (t.mono h) ih
theorem TripsAre.append {news : List (Addr × Obj)} {vs vs' : List Value} {cs cs' : List Trip} (x : TripsAre news vs cs) (y : TripsAre news vs' cs') : TripsAre news (vs ++ vs') (cs ++ cs') := by
  induction x with
  | nil => exact y
  | cons t _ ih => exact .cons t ih
theorem TripsAre.length {news : List (Addr × Obj)} {vs : List Value} {cs : List Trip} (x : TripsAre news vs cs) : vs.length = cs.length := by
  induction x with
  | nil => rfl
  | cons t _ ih => simp [ih]
theorem TripsAre.at {news : List (Addr × Obj)} {vs : List Value} {cs : List Trip} (x : TripsAre news vs cs) {i : Nat} {v : Value} (h : vs[i]? = some v) : ∃ c, cs[i]? = some c ∧ TripAt news v c := by
  induction x generalizing i with
  | nil => simp at h
  | cons t _ ih =>
    cases i with
    | zero => simp at h; subst h; exact ⟨_, by simp, t⟩
    | succ i => simpa using ih (i := i) (by simpa using h)
noncomputable def stepT (v : Int) (c : Trip) : Trip := (c.1 + 1, Builtin.bitAnd c.2.1 v, if v < c.2.2 then v else c.2.2)
noncomputable def growT (cs : List Trip) (v : Int) : List Trip := cs ++ cs.map (stepT v)
noncomputable def choicesT (ns : List Int) (top : Int) : List Trip := ns.foldl growT [(0, top, top)]
noncomputable def sumBy (sel : Trip → Int) (l : List Int) (cs : List Trip) : List Int := cs.foldl (fun l c => l.set c.1.toNat (l.getD c.1.toNat 0 + sel c)) l
noncomputable def byAnd (ns : List Int) (top : Int) : List Int := sumBy (fun c => c.2.1) (List.replicate (ns.length + 1) 0) (choicesT ns top)
noncomputable def byLeast (ns : List Int) (top : Int) : List Int := sumBy (fun c => c.2.2) (List.replicate (ns.length + 1) 0) (choicesT ns top)
noncomputable def addsJ (n : Nat) (fa fl : List Int) (DC A B : Addr) (lo : Obj) (tups : List (Addr × Obj)) (xs : List Itm) (m₁ : Str → Option Value) (news₁ : List (Addr × Obj)) : Prop :=
  ∃ ws cs as ls va vl ka kl u, xs = ws.map Itm.val ∧ TripsAre tups ws cs ∧ (∀ c ∈ cs, 0 ≤ c.1 ∧ c.1 ≤ (n : Int)) ∧ as.length = n + 1 ∧ ls.length = n + 1 ∧ IntsAre va as ∧ IntsAre vl ls ∧ sumBy (fun c => c.2.1) as cs = fa ∧ sumBy (fun c => c.2.2) ls cs = fl ∧
    m₁ = pins [(Str.ofString "by_and", .ref A), (Str.ofString "by_least", .ref B), (Str.ofString "choices", .ref DC)] u ∧ news₁ = (DC, lo) :: (A, W.listOf (List.toArray va) ka) :: (B, W.listOf (List.toArray vl) kl) :: tups
theorem rep_ints {vs : List Value} {n : Nat} (h : IntsAre vs (List.replicate ((n : Int) + 1).toNat [(0 : Int)]).flatten) : IntsAre vs (List.replicate (n + 1) 0) := by
  rw [List.flatten_replicate_singleton, show ((n : Int) + 1).toNat = n + 1 by omega] at h
  exact h
noncomputable def sumsJ (Lc : Addr) (ns : List Int) (l : Addr) (top : Int) (tkt : Tok) (xs : List Itm) (m₁ : Str → Option Value) (news₁ : List (Addr × Obj)) : Prop :=
  ∃ vs' ns' cs DC ws k oc tups u, xs = vs'.map Itm.val ∧ IntsAre vs' ns' ∧ ns'.foldl growT cs = choicesT ns top ∧ m₁ = pins [(Str.ofString "values", .ref l), (Str.ofString "top", .int top tkt), (Str.ofString "choices", .ref DC)] u ∧
    news₁ = (DC, W.listOf (List.toArray ws) k) :: (Lc + 1, oc) :: tups ∧ (∃ x, oc.data = .cell x) ∧ @Ne Nat DC (Lc + 1) ∧ (∀ p ∈ tups, p.1 ≠ Lc + 1) ∧ TripsAre tups ws cs ∧ cs.length * 2 ^ ns'.length ≤ 64 ∧ (∀ c ∈ cs, 0 ≤ c.1 ∧ c.1 + ns'.length ≤ ns.length)
theorem word22 : True := by
  k_with "k_all" => (assumption)
  trivial
theorem word23 : True := by
  k_with "tb_rel" => (first
      | (with_reducible show wpAny _ _ (eval (PySem.Expr.ListComp _ _ _ _) _) _ _ _)
      | (with_reducible show Src3 _ _ _ _ _ _ _ _ _ _ _ _ _ _ _ _))
  trivial
theorem sums_ct {w : World} {q : Program} {lo : List Str} {mean : ExcName → Option Value} {mg mb : Str → Option Value} {dp un : Nat} {gd : Option (List Code)} {cn : Str} {cs : Scope} {a : Addr} {ccd : Value} {cl : List (Str × Addr)} {outer : List Env} {A₀ : Around} {base h₀ : Heap} {L : Addr} {m : Str → Option Value} {s : Shared} {Q E : Value → Shared → Prop}
  (B : Below A₀ base outer h₀) (F : Fr h₀ L s.heap m) (X : (hd.heap_1 w.params).In h₀)
  (T : Top q lo mean mg mb h₀) (hk : cs.kind = .function) (hd : dp + 4 < recursionLimit) (hu : un + 30 < cLine)
  (l : Addr) (vs : List Value) (ns : List Int) (top : Int) (tkt : Tok) (hl : s.heap.IsList l vs.toArray) (hi : IntsAre vs ns) (hn : ns.length ≤ 6)
  (ret : ∀ v h' tk', Kept s.heap h' → (fun v h' => ∃ tr A B va vl ka kl, v = .ref tr ∧ s.heap.get? tr = none ∧ s.heap.get? A = none ∧ s.heap.get? B = none ∧ h'.get? tr = some { cls := .type "tuple", data := .seq #[.ref A, .ref B] } ∧ h'.get? A = some (W.listOf (List.toArray va) ka) ∧ h'.get? B = some (W.listOf (List.toArray vl) kl) ∧ IntsAre va (byAnd ns top) ∧ IntsAre vl (byLeast ns top)) v h' → Q v {s with heap := h', toks := tk'}) :
  wpAny (model PySem.Challenge.rw_tv0036_01.row.prog w) (ktrTop dp un gd cn cs L a ccd cl outer) (call (.ref 125) [.ref l, .int top tkt]) Q E s := by
  k_dflt (refine' call_pureC (binds := [(Str.ofString "values", .ref l), (Str.ofString "top", .int top tkt)]) _ (fun y => if y = Str.ofString "top" then some (.int top tkt) else if y = Str.ofString "values" then some (.ref l) else none) (Str.ofString "value") (none) ?k1 ?k2 ?k3 ?k5 ?kA ?kF ?kK ?k6 ?k7 ?k8 ?k9 ?kB ?kC ?kD ?kE ?c2 ?c3 ?c4 ret ?_; walk_at "mine enterC")
  clear ret B F X T
  intro Lc hc0 tkc oc0 F N hcell B X T
  try dsimp only
  have hlen := IntsAre.length hi
  walk_at "mine steps"
  (rename Fr _ _ _ _ => F)
  refine For_turns F ?_
  walk_at "mine steps"
  (rename Fr _ _ _ _ => F)
  (rename News _ _ _ _ => N)
  rename_i D1 _ lD l2 _ lD2 _ _ _
  replace N := News.perm N (news' := [(l2, W.listOf [Value.ref D1].toArray 0), (Lc + 1, oc0), (D1, tup3 (.int 0 tkc) (.int top tkt) (.int top tkt))]) (all1 (by k_mem) (all1 (by k_mem) (all1 (by k_mem) all0)))
  refine iter_listBase rfl F N hl (fun I hI => ?_)
  clear F N
  refine' itemsInv (sumsJ Lc ns l top tkt) ?turn ?done _ _ _ ?init trivial (lt_off hI)
  case init =>
    refine ⟨_, _, [(0, top, top)], _, _, _, _, _, _, rfl, hi, rfl, pins_eq (all1 rfl (all1 rfl (all1 rfl all0))), rfl, ⟨_, hcell⟩, ?_, ?_, .cons (.mk _ _ _ _ _ _ _ (List.Mem.head _)) .nil, Nat.le_trans (by simp) (Nat.le_trans (Nat.pow_le_pow_right (by decide) hn) (by decide : 2 ^ 6 ≤ 64)), all1 (by simp) all0⟩
    · exact Nat.ne_of_gt lD2.2
    · exact all1 (Nat.ne_of_gt lD) all0
  · rintro a r v its m₁ news₁ h tk1 ⟨vs', ns', cs, DC, ws, k, oc, tups, u, hxs, hi', hgr, rfl, rfl, ⟨x, hx⟩, d1, d2, htr, hcl, hsz⟩ hv hits hkeep hoff F N
    obtain ⟨it, rfl, hitc⟩ := objs_one hits
    obtain ⟨n, tn, vs2, ns2, rfl, rfl, rfl, hi2⟩ := itm_ints_cons hxs hi'
    cases hv
    simp only [List.cons_append, List.nil_append] at N
    have o1 : @Ne Nat DC I := hoff _ (List.Mem.head _) _ (List.Mem.head _)
    have o2 : @Ne Nat (Lc + 1) I := hoff _ (List.Mem.tail _ (List.Mem.head _)) _ (List.Mem.head _)
    walk_at "mine steps"
    (rename Fr _ _ _ _ => F)
    (rename News _ _ _ _ => N)
    (rename Obj.data _ = _ => hx2)
    rename_i oc2
    k_dflt (refine ListComp_3 F (by with_unfolding_all rfl) (by decide) (by rfl) (by decide) (by rfl) (by rfl) (by rfl) (by decide) (by decide) (by decide) ?_)
    walk_at "mine steps"
    refine Src3.intro (fun i ys news₁ => ∃ tups', news₁ = (I, it) :: (DC, W.listOf (List.toArray ws) k) :: (Lc + 1, oc2) :: tups' ∧ (∀ p ∈ tups, p ∈ tups') ∧ (∀ p ∈ tups', p.1 ≠ Lc + 1 ∧ p.1 ≠ I) ∧ TripsAre tups' ys ((cs.take i).map (stepT n))) rfl F N (by k_mem) ?_ ⟨tups, rfl, fun _ h => h, fun p hp => ⟨d2 p hp, hoff p (List.mem_cons_of_mem _ (List.mem_cons_of_mem _ hp)) _ (List.Mem.head _)⟩, .nil⟩ ?_ ?_
    · rw [PySem.sizeLine_eq]
      have := htr.length
      have hp : 0 < 2 ^ (n :: ns2).length := Nat.pow_pos (by decide)
      have h2 := Nat.le_trans (Nat.le_mul_of_pos_right cs.length hp) hcl
      simp only [List.size_toArray]
      omega
    · rintro i v ys news₁ hin ⟨tups', rfl, hsub, hof, htr'⟩ hS
      obtain ⟨⟨a1, a2, a3⟩, hc, ht⟩ := htr.at (i := i) (v := v) (by simpa using hin)
      cases ht with
      | mk t _ _ _ ta tb tc hm =>
        refine ⟨t, _, _, _, _, _, rfl, List.mem_cons_of_mem _ (List.mem_cons_of_mem _ (List.mem_cons_of_mem _ (hsub _ hm))), rfl, rfl, ?_⟩
        clear F N
        intro I' oI C oC D m₂ h3 tk3 E' hC hm1 hm2 hm3 off F N
        walk_at "mine steps"
        (rename Fr _ _ _ _ => F)
        (rename News _ _ _ _ => N)
        (rename _ ∧ _ ∧ _ ∧ _ => hlt)
        refine EltEnd.intro ((I, it) :: (DC, W.listOf (List.toArray ws) k) :: (Lc + 1, oc2) :: (_, tup3 (.int (a1 + 1) (tk3 + 1)) (.int (Builtin.bitAnd a2 n) (tk3 + 1 + 1)) (.int (if n < a3 then n else a3) (if n < a3 then tn else tc))) :: tups') F N (fun p hp => ?_) (off3 (all1 (off _ (List.Mem.head _)) (all1 (off _ (List.Mem.tail _ (List.Mem.head _))) (all1 (off _ (List.Mem.tail _ (List.Mem.tail _ (List.Mem.head _)))) (all1 ⟨Nat.ne_of_gt hlt.1, Nat.ne_of_gt hlt.2.1, Nat.ne_of_gt hlt.2.2.1⟩ fun p hp => off p (List.mem_cons_of_mem _ (List.mem_cons_of_mem _ (List.mem_cons_of_mem _ hp)))))))) ⟨.inr ⟨_, List.Mem.tail _ (List.Mem.head _), rfl, _, rfl⟩, _, rfl, fun p hp => List.mem_cons_of_mem _ (hsub p hp), all1 ⟨Nat.ne_of_gt hlt.2.2.2.2.2.1, Nat.ne_of_gt hlt.2.2.2.1⟩ hof, ?_⟩
        · simp only [List.cons_append, List.nil_append, List.mem_cons] at hp ⊢
          rcases hp with h | h | h | h | h | h | h | h <;> simp [h]
        · rw [List.take_add_one, hc, List.map_append]
          exact (htr'.mono fun p hp => List.mem_cons_of_mem _ hp).append (.cons (.mk _ _ _ _ _ _ _ (List.Mem.head _)) .nil)
    · clear F N
      rintro g ys news' ⟨tups', rfl, hsub, hof, htr'⟩ hS D h3 tk3 F N o1
      rw [List.take_of_length_le (by simp [htr.length])] at htr'
      have hl1 := htr.length
      have hl2 := htr'.length
      rw [List.length_map] at hl2
      have hp : 0 < 2 ^ (n :: ns2).length := Nat.pow_pos (by decide)
      have h2 := Nat.le_trans (Nat.le_mul_of_pos_right cs.length hp) hcl
      refine kmk_add_lit (zs := ws ++ ys) F N (News.isList N (by k_mem)) (News.isList N (by k_mem)) (by simp) (fun D2 h4 F N l1 => ?_) (by rw [PySem.sizeLine_eq]; simp only [List.toList_toArray]; omega)
      have q1 := l1 _ (List.Mem.tail _ (List.Mem.head _))
      have q2 := l1 _ (List.Mem.tail _ (List.Mem.tail _ (List.Mem.tail _ (List.Mem.head _))))
      walk_at "mine steps"
      (rename Fr _ _ _ _ => F)
      (rename News _ _ _ _ => N)
      refine TurnEnd.next ((D2, W.listOf (ws ++ ys).toArray 0) :: (Lc + 1, oc2) :: tups') F N (fun p hp => ?_) (all1 (all1 (Nat.ne_of_gt q1) all0) (all1 (all1 o2 all0) fun p hp => all1 (hof p hp).2 all0)) ⟨trivial, vs2, ns2, growT cs n, D2, ws ++ ys, 0, oc2, tups', _, rfl, hi2, hgr, pins_eq (all1 rfl (all1 rfl (all1 rfl all0))), rfl, ⟨_, hx2⟩, Nat.ne_of_gt q2, fun p hp => (hof p hp).1, (htr.mono hsub).append htr', ?_, ?_⟩
      · simp only [List.cons_append, List.nil_append, List.mem_cons] at hp ⊢
        rcases hp with h | h | h | h <;> simp [h]
      · unfold growT
        rw [List.length_append, List.length_map]
        rw [List.length_cons, Nat.pow_succ] at hcl
        rw [show (cs.length + cs.length) * 2 ^ ns2.length = cs.length * (2 ^ ns2.length * 2) by rw [Nat.add_mul, Nat.mul_comm _ 2, Nat.mul_left_comm]; omega]
        exact hcl
      · intro c hc
        unfold growT at hc
        rcases List.mem_append.mp hc with hc | hc
        · have := hsz c hc
          simp only [List.length_cons] at this
          push_cast at this
          omega
        · obtain ⟨c', hc', rfl⟩ := List.mem_map.mp hc
          have := hsz c' hc'
          simp only [List.length_cons] at this
          push_cast at this
          unfold stepT
          dsimp only
          omega
  · clear hI
    rintro m₁ news₁ h tk1 ⟨vs', ns', cs, DC, ws, k, oc, tups, u, hxs, hi', hgr, rfl, rfl, ⟨x, hx⟩, d1, d2, htr, hcl, hsz⟩ hkeep F N
    have hns' : ns' = [] := itm_ints_nil hxs hi'
    subst hns'
    replace hgr : cs = choicesT ns top := hgr
    subst hgr
    walk_at "mine steps"
    (rename Fr _ _ _ _ => F)
    refine For_turns F ?_
    walk_at "mine steps"
    (rename Fr _ _ _ _ => F)
    (rename News _ _ _ _ => N)
    rename_i lA h7 l13 A h6 iA nA sA eA1 eA2 eA3 lA2 h5 h4 tkA qk5 ek5 lB5 h3 l11 B h2 iB nB sB eB1 eB2 eB3 lB2 h1 h0 tk0
    replace iA := rep_ints iA
    replace iB := rep_ints iB
    have offA := tbn_neAll lA2.2.2.2
    have offB := tbn_neAll lB2.2.2.2.2.2
    have hAB : @Ne Nat A B := Nat.ne_of_lt lB2.2.1
    have hDA : @Ne Nat DC A := Nat.ne_of_lt lA2.2.1
    have hDB : @Ne Nat DC B := Nat.ne_of_lt lB2.2.2.2.1
    replace N := News.perm N (news' := (DC, W.listOf (List.toArray ws) k) :: (A, W.listOf _ 0) :: (B, W.listOf _ 0) :: tups) (all1 (by k_mem) (all1 (by k_mem) (all1 (by k_mem) fun p hp => by simp [hp])))
    refine iter_listTurns rfl F N (List.Mem.head _) rfl rfl (fun I hI => ?_)
    clear F N
    refine' itemsInv (addsJ ns.length (byAnd ns top) (byLeast ns top) DC A B (W.listOf (List.toArray ws) k) tups) ?turn2 ?done2 _ _ _ ?init2 ⟨List.Mem.head _, trivial⟩ (lt_off hI)
    case init2 => exact ⟨ws, _, _, _, _, _, _, _, _, rfl, htr, fun c hc => by have := hsz c hc; simp only [List.length_nil] at this; omega, List.length_replicate, List.length_replicate, iA, iB, rfl, rfl, pins_eq (all1 rfl (all1 rfl (all1 rfl all0))), rfl⟩
    · rintro a r v its m₁ news₁ h tk1 ⟨ws', cs', as, ls, va, vl, ka, kl, u, hxs, htr', hsz', hla, hll, hva, hvl, hfa, hfl, rfl, rfl⟩ hv hits hkeep hoff F N
      obtain ⟨it, rfl, hitc⟩ := objs_one hits
      have hkp := fun r' => keep_head (its := [(I, it)]) (r' := r') hkeep N
      cases htr' with
      | nil => cases hxs
      | cons ht htr' =>
        cases hxs
        cases hv
        cases ht with
        | mk t a1 a2 a3 ta tb tc hm =>
          have hA2 : @Ne Nat t A := offA _ hm
          have hB2 : @Ne Nat t B := offB _ hm
          have hc0 := hsz' _ List.mem_cons_self
          dsimp only at hc0
          have o1 : @Ne Nat DC I := hoff _ (List.Mem.head _) _ (List.Mem.head _)
          have o2 : @Ne Nat A I := hoff _ (List.Mem.tail _ (List.Mem.head _)) _ (List.Mem.head _)
          have o3 : @Ne Nat B I := hoff _ (List.Mem.tail _ (List.Mem.tail _ (List.Mem.head _))) _ (List.Mem.head _)
          simp only [List.cons_append, List.nil_append] at N
          have N0 := N
          replace N := News.perm N (news' := (t, tup3 (.int a1 ta) (.int a2 tb) (.int a3 tc)) :: (I, it) :: (DC, W.listOf (List.toArray ws) k) :: (A, W.listOf (List.toArray va) ka) :: (B, W.listOf (List.toArray vl) kl) :: tups) (all1 (by simp [hm]) fun p hp => hp)
          clear N0
          have hal := IntsAre.length hva
          have hbl := IntsAre.length hvl
          walk_at "mine steps"
          (rename Fr _ _ _ _ => F)
          (rename News _ _ _ _ => N)
          (rename IntsAre (vl.set _ _) _ => hB)
          (rename IntsAre (va.set _ _) _ => hA)
          refine TurnEnd.next ((DC, W.listOf (List.toArray ws) k) :: (A, W.listOf (List.toArray (va.set _ _)) ka) :: (B, W.listOf (List.toArray (vl.set _ _)) kl) :: tups) F N (fun p hp => List.mem_cons_of_mem _ hp) (all1 (all1 o1 all0) (all1 (all1 o2 all0) (all1 (all1 o3 all0) fun p hp => hoff p (List.mem_cons_of_mem _ (List.mem_cons_of_mem _ (List.mem_cons_of_mem _ hp))))))
            ⟨hkp _, _, _, _, _, _, _, ka, kl, _, rfl, htr', fun c hc => hsz' c (List.mem_cons_of_mem _ hc), ?_, ?_, hA, hB, hfa, hfl, pins_eq (all1 rfl (all1 rfl (all1 rfl all0))), rfl⟩
          · rw [List.length_set]; exact hla
          · rw [List.length_set]; exact hll
    · clear hI
      rintro m₁ news₁ h tk1 ⟨ws', cs', as, ls, va, vl, ka, kl, u, hxs, htr', hsz', hla, hll, hva, hvl, hfa, hfl, rfl, rfl⟩ hkeep F N
      cases htr' with
      | cons ht htr' => cases hxs
      | nil =>
        replace hfa : as = byAnd ns top := hfa
        replace hfl : ls = byLeast ns top := hfl
        walk_at "mine steps"
        (rename Fr _ _ _ _ => F)
        (rename News _ _ _ _ => N)
        change LeaveP _ _ _ _ _ _
        have z1 := N _ (List.Mem.head _)
        have z2 := N _ (List.Mem.tail _ (List.Mem.tail _ (List.Mem.head _)))
        have z3 := N _ (List.Mem.tail _ (List.Mem.tail _ (List.Mem.tail _ (List.Mem.head _))))
        exact LeaveP.mk' F ⟨_, A, B, va, vl, ka, kl, rfl, z1.2.2, z2.2.2, z3.2.2, z1.1, z2.1, z3.1, hfa ▸ hva, hfl ▸ hvl⟩

end
section


theorem item_atN {prog : Program} {w : World} {A : Around} {E : Value → Shared → Prop} {s : Shared} {value slice : PySem.Expr} {l : Addr} {vs : List Value} {k : Int} {u : Tok} {v : Value} {Q : Value → Shared → Prop} (i : Nat) (hk : k = (i : Int)) (hi : i < 2 ^ 62)
    (hl : s.heap.IsList l vs.toArray) (hx : vs[i]? = some v) (h : Q v s)
    (hs : subscripted slice false (.ref l) (.int k u) = operate [.ref l, .int k u] (getItem (.ref l) (.int k u)) := by with_unfolding_all rfl) :
    wpAny (model prog w) A (subscriptTail value slice (.ref l) (.int k u)) Q E s := by
  subst hk
  exact item_litK hl (by omega) (by omega) (by rw [Int.toNat_natCast]; exact hx) h hs
theorem strs_at {vs : List Value} {ss : List Str} (h : StrsAre vs ss) {i : Nat} (hi : i < ss.length) : ∃ t, vs[i]? = some (.str (ss.getD i ⟨#[]⟩) t) := by
  induction h generalizing i with
  | nil => simp at hi
  | cons x t _ ih =>
    cases i with
    | zero => exact ⟨t, by simp⟩
    | succ i => simpa using ih (i := i) (by simpa using hi)
theorem half_nat (n : Nat) : Int.fdiv (n : Int) 2 = ((n / 2 : Nat) : Int) ∧ Int.fmod (n : Int) 2 = ((n % 2 : Nat) : Int) := by
  constructor
  · rw [Int.fdiv_eq_ediv_of_nonneg _ (by decide)]; rfl
  · rw [Int.fmod_eq_emod_of_nonneg _ (by decide)]; rfl
theorem word24 : True := by
  k_with "tb_rel" => (first
      | (with_reducible show wpAny _ _ (call (Value.builtin "sorted") _) _ _ _)
      | (with_reducible show wpAny _ _ (subscriptTail _ _ _ _) _ _ _))
  trivial
theorem low_ct {w : World} {q : Program} {lo : List Str} {mean : ExcName → Option Value} {mg mb : Str → Option Value} {dp un : Nat} {gd : Option (List Code)} {cn : Str} {cs : Scope} {a : Addr} {ccd : Value} {cl : List (Str × Addr)} {outer : List Env} {A₀ : Around} {base h₀ : Heap} {L : Addr} {m : Str → Option Value} {s : Shared} {Q E : Value → Shared → Prop}
  (B : Below A₀ base outer h₀) (F : Fr h₀ L s.heap m) (X : (hd.heap_1 w.params).In h₀)
  (T : Top q lo mean mg mb h₀) (hk : cs.kind = .function) (hd : dp + 4 < recursionLimit) (hu : un + 30 < cLine)
  (l : Addr) (vs : List Value) (ss : List Str) (hl : s.heap.IsList l vs.toArray) (hi : StrsAre vs ss) (hn : ss.length < 64) (h1 : 1 ≤ ss.length)
  (ret : ∀ v h' tk', Kept s.heap h' → (fun v _ => ∃ ss' t, ss'.Perm ss ∧ sortedS ss' = true ∧ v = .str (ss'.getD ((ss.length - 1) / 2) ⟨#[]⟩) t) v h' → Q v {s with heap := h', toks := tk'}) :
  wpAny (model PySem.Challenge.rw_tv0036_01.row.prog w) (ktrTop dp un gd cn cs L a ccd cl outer) (call (.ref 34) [.ref l]) Q E s := by
  k_dflt (refine' call_pure (binds := [(Str.ofString "data", .ref l)]) _ ?k1 ?k2 ?k3 ?k5 ?kA ?kF ?kK ?k6 ?k7 ?k8 ?k9 ?kB ?kC ?c2 ?c3 ?c4 ret ?_; walk_at "mine enter")
  clear ret B F X T
  intro Lc hc0 tkc F N B X T
  try dsimp only
  have hlen := StrsAre.length hi
  walk_at "mine steps"
  (rename Fr _ _ _ _ => F)
  (rename News _ _ _ _ => N)
  refine sorted_N_str F N (hl.at fun o e => F.keep l o e) hi (by omega) ?_
  intro h9 vs' ss' e9 F N hss hp hsort
  have hlen' := StrsAre.length hss
  have hpl := hp.length_eq
  have hne : ((ss'.length : Nat) : Int) ≠ 0 := by omega
  have hss2 : StrsAre vs' ss' ∧ True := ⟨hss, trivial⟩
  have hhalf := half_nat ss'.length
  dsimp only
  walk_at "mine steps"
  all_goals
    (rename Fr _ _ _ _ => F)
    (rename News _ _ _ _ => N)
    obtain ⟨t, ht⟩ := strs_at hss2.1 (i := (ss.length - 1) / 2) (by omega)
    refine item_atN ((ss.length - 1) / 2) (by omega) (by omega) (News.isList N (by k_mem)) ht ?_
    walk_at "mine steps"
    (rename Fr _ _ _ _ => F)
    change LeaveP _ _ _ _ _ _
    exact LeaveP.mk' F ⟨ss', t, hp, hsort, rfl⟩

theorem high_ct {w : World} {q : Program} {lo : List Str} {mean : ExcName → Option Value} {mg mb : Str → Option Value} {dp un : Nat} {gd : Option (List Code)} {cn : Str} {cs : Scope} {a : Addr} {ccd : Value} {cl : List (Str × Addr)} {outer : List Env} {A₀ : Around} {base h₀ : Heap} {L : Addr} {m : Str → Option Value} {s : Shared} {Q E : Value → Shared → Prop}
  (B : Below A₀ base outer h₀) (F : Fr h₀ L s.heap m) (X : (hd.heap_1 w.params).In h₀)
  (T : Top q lo mean mg mb h₀) (hk : cs.kind = .function) (hd : dp + 4 < recursionLimit) (hu : un + 30 < cLine)
  (l : Addr) (vs : List Value) (ss : List Str) (hl : s.heap.IsList l vs.toArray) (hi : StrsAre vs ss) (hn : ss.length < 64) (h1 : 1 ≤ ss.length)
  (ret : ∀ v h' tk', Kept s.heap h' → (fun v _ => ∃ ss' t, ss'.Perm ss ∧ sortedS ss' = true ∧ v = .str (ss'.getD (ss.length / 2) ⟨#[]⟩) t) v h' → Q v {s with heap := h', toks := tk'}) :
  wpAny (model PySem.Challenge.rw_tv0036_01.row.prog w) (ktrTop dp un gd cn cs L a ccd cl outer) (call (.ref 41) [.ref l]) Q E s := by
  k_dflt (refine' call_pure (binds := [(Str.ofString "data", .ref l)]) _ ?k1 ?k2 ?k3 ?k5 ?kA ?kF ?kK ?k6 ?k7 ?k8 ?k9 ?kB ?kC ?c2 ?c3 ?c4 ret ?_; walk_at "mine enter")
  clear ret B F X T
  intro Lc hc0 tkc F N B X T
  try dsimp only
  have hlen := StrsAre.length hi
  walk_at "mine steps"
  (rename Fr _ _ _ _ => F)
  (rename News _ _ _ _ => N)
  refine sorted_N_str F N (hl.at fun o e => F.keep l o e) hi (by omega) ?_
  intro h9 vs' ss' e9 F N hss hp hsort
  have hlen' := StrsAre.length hss
  have hpl := hp.length_eq
  have hne : ((ss'.length : Nat) : Int) ≠ 0 := by omega
  have hss2 : StrsAre vs' ss' ∧ True := ⟨hss, trivial⟩
  have hhalf := half_nat ss'.length
  dsimp only
  walk_at "mine steps"
  all_goals
    (rename Fr _ _ _ _ => F)
    (rename News _ _ _ _ => N)
    obtain ⟨t, ht⟩ := strs_at hss2.1 (i := ss.length / 2) (by omega)
    refine item_atN (ss.length / 2) (by omega) (by omega) (News.isList N (by k_mem)) ht ?_
    walk_at "mine steps"
    (rename Fr _ _ _ _ => F)
    change LeaveP _ _ _ _ _ _
    exact LeaveP.mk' F ⟨ss', t, hp, hsort, rfl⟩

end
section
open PySem PySem.W PyProof.Rows PySem.Calls PySem.Spec
theorem code_ct_use {w : World} {q : Program} {lo : List Str} {mean : ExcName → Option Value} {mg mb : Str → Option Value} {dp un : Nat} {gd : Option (List Code)} {cn : Str} {cs : Scope} {a : Addr} {ccd : Value} {cl : List (Str × Addr)} {outer : List Env} {A₀ : Around} {base h₀ : Heap} {L : Addr} {m : Str → Option Value} {s : Shared} {Q E : Value → Shared → Prop}
  (B : Below A₀ base outer h₀) (F : Fr h₀ L s.heap m) (X : (hd.heap_1 w.params).In h₀)
  (T : Top q lo mean mg mb h₀) (hk : cs.kind = .function) (hd : dp + 4 < recursionLimit) (hu : un + 30 < cLine)
  {news : List (Addr × Obj)} (N : News h₀ L s.heap news) (bits : Int) (tk : Tok)
  (ret : ∀ t h' tk', Fr h₀ L h' m → News h₀ L h' news → Q (.int (codeF bits) t) {s with heap := h', toks := tk'}) :
  wpAny (model PySem.Challenge.rw_tv0036_01.row.prog w) (ktrTop dp un gd cn cs L a ccd cl outer) (call (.ref 115) [.int bits tk]) Q E s :=
  code_ct B F X T hk hd hu bits tk fun v h' tk' hkp r => by
    obtain ⟨t, rfl⟩ := r
    exact ret t h' tk' (F.keeps hkp) (N.grown hkp)
theorem row_ct_use {w : World} {q : Program} {lo : List Str} {mean : ExcName → Option Value} {mg mb : Str → Option Value} {dp un : Nat} {gd : Option (List Code)} {cn : Str} {cs : Scope} {a : Addr} {ccd : Value} {cl : List (Str × Addr)} {outer : List Env} {A₀ : Around} {base h₀ : Heap} {L : Addr} {m : Str → Option Value} {s : Shared} {Q E : Value → Shared → Prop}
  (B : Below A₀ base outer h₀) (F : Fr h₀ L s.heap m) (X : (hd.heap_1 w.params).In h₀)
  (T : Top q lo mean mg mb h₀) (hk : cs.kind = .function) (hd : dp + 4 < recursionLimit) (hu : un + 30 < cLine)
  {news : List (Addr × Obj)} (N : News h₀ L s.heap news) (code : Int) (tk : Tok)
  (ret : ∀ t h' tk', Fr h₀ L h' m → News h₀ L h' news → Q (.str (rowG code) t) {s with heap := h', toks := tk'}) :
  wpAny (model PySem.Challenge.rw_tv0036_01.row.prog w) (ktrTop dp un gd cn cs L a ccd cl outer) (call (.ref 120) [.int code tk]) Q E s :=
  row_ct B F X T hk hd hu code tk fun v h' tk' hkp r => by
    obtain ⟨t, rfl⟩ := r
    exact ret t h' tk' (F.keeps hkp) (N.grown hkp)
theorem mode_ct_use {w : World} {q : Program} {lo : List Str} {mean : ExcName → Option Value} {mg mb : Str → Option Value} {dp un : Nat} {gd : Option (List Code)} {cn : Str} {cs : Scope} {a : Addr} {ccd : Value} {cl : List (Str × Addr)} {outer : List Env} {A₀ : Around} {base h₀ : Heap} {L : Addr} {m : Str → Option Value} {s : Shared} {Q E : Value → Shared → Prop}
  (B : Below A₀ base outer h₀) (F : Fr h₀ L s.heap m) (X : (hd.heap_1 w.params).In h₀)
  (T : Top q lo mean mg mb h₀) (hk : cs.kind = .function) (hd : dp + 8 < recursionLimit) (hu : un + 60 < cLine)
  {news : List (Addr × Obj)} (N : News h₀ L s.heap news) (bits : Int) (tk : Tok)
  (ret : ∀ t h' tk', Fr h₀ L h' m → News h₀ L h' news → Q (.str (rowF bits) t) {s with heap := h', toks := tk'}) :
  wpAny (model PySem.Challenge.rw_tv0036_01.row.prog w) (ktrTop dp un gd cn cs L a ccd cl outer) (call (.ref 103) [.int bits tk]) Q E s :=
  mode_ct B F X T hk hd hu bits tk fun v h' tk' hkp r => by
    obtain ⟨t, rfl⟩ := r
    exact ret t h' tk' (F.keeps hkp) (N.grown hkp)
theorem modes_ct_use {w : World} {q : Program} {lo : List Str} {mean : ExcName → Option Value} {mg mb : Str → Option Value} {dp un : Nat} {gd : Option (List Code)} {cn : Str} {cs : Scope} {a : Addr} {ccd : Value} {cl : List (Str × Addr)} {outer : List Env} {A₀ : Around} {base h₀ : Heap} {L : Addr} {m : Str → Option Value} {s : Shared} {Q E : Value → Shared → Prop}
  (B : Below A₀ base outer h₀) (F : Fr h₀ L s.heap m) (X : (hd.heap_1 w.params).In h₀)
  (T : Top q lo mean mg mb h₀) (hk : cs.kind = .function) (hd : dp + 4 < recursionLimit) (hu : un + 30 < cLine)
  {news : List (Addr × Obj)} (N : News h₀ L s.heap news) (l : Addr) (vs : List Value) (ns : List Int) (hl : s.heap.IsList l vs.toArray) (hi : IntsAre vs ns) (hn : ns.length ≤ 63)
  (ret : ∀ lr vr ms o n h' tk', Fr h₀ L h' m → News h₀ L h' ((lr, o) :: news) → (∀ p ∈ news, p.1 ≠ lr) → o.cls = .type "list" → o.data = .seq (List.toArray vr) n → (IntsAre vr ms ∧ 3 ≤ ms.length ∧ ms.length ≤ 5 ∧ ∀ b ∈ ms, 0 ≤ b ∧ b < 2 ^ 32) → Q (.ref lr) {s with heap := h', toks := tk'}) :
  wpAny (model PySem.Challenge.rw_tv0036_01.row.prog w) (ktrTop dp un gd cn cs L a ccd cl outer) (call (.ref 108) [.ref l]) Q E s :=
  modes_ct B F X T hk hd hu l vs ns hl hi hn fun v h' tk' hkp r => by
    obtain ⟨lr, vr, ms, rfl, hfr, ⟨o, ho, hc, n, hd⟩, h1, h2, h3, h4⟩ := r
    have hN := news_fresh F N hkp hfr ho
    exact ret lr vr ms o n h' tk' (F.keeps hkp) hN.1 hN.2 hc hd ⟨h1, h2, h3, h4⟩
theorem cuts_ct_use {w : World} {q : Program} {lo : List Str} {mean : ExcName → Option Value} {mg mb : Str → Option Value} {dp un : Nat} {gd : Option (List Code)} {cn : Str} {cs : Scope} {a : Addr} {ccd : Value} {cl : List (Str × Addr)} {outer : List Env} {A₀ : Around} {base h₀ : Heap} {L : Addr} {m : Str → Option Value} {s : Shared} {Q E : Value → Shared → Prop}
  (B : Below A₀ base outer h₀) (F : Fr h₀ L s.heap m) (X : (hd.heap_1 w.params).In h₀)
  (T : Top q lo mean mg mb h₀) (hk : cs.kind = .function) (hd : dp + 8 < recursionLimit) (hu : un + 60 < cLine)
  {news : List (Addr × Obj)} (N : News h₀ L s.heap news) (l : Addr) (vs : List Value) (ns : List Int) (hl : s.heap.IsList l vs.toArray) (hi : IntsAre vs ns) (h3 : 3 ≤ ns.length) (hn : ns.length ≤ 6) (hb : ∀ n ∈ ns, -(2 ^ 40) ≤ n ∧ n ≤ 2 ^ 40)
  (ret : ∀ lr vr  o n h' tk', Fr h₀ L h' m → News h₀ L h' ((lr, o) :: news) → (∀ p ∈ news, p.1 ≠ lr) → o.cls = .type "list" → o.data = .seq (List.toArray vr) n → FltsAre vr (cutsF (pointsF ns)) → Q (.ref lr) {s with heap := h', toks := tk'}) :
  wpAny (model PySem.Challenge.rw_tv0036_01.row.prog w) (ktrTop dp un gd cn cs L a ccd cl outer) (call (.ref 137) [.ref l]) Q E s :=
  cuts_ct B F X T hk hd hu l vs ns hl hi h3 hn hb fun v h' tk' hkp r => by
    obtain ⟨lr, vr, rfl, hfr, ⟨o, ho, hc, n, hd⟩, hv⟩ := r
    have hN := news_fresh F N hkp hfr ho
    exact ret lr vr  o n h' tk' (F.keeps hkp) hN.1 hN.2 hc hd hv
theorem low_ct_use {w : World} {q : Program} {lo : List Str} {mean : ExcName → Option Value} {mg mb : Str → Option Value} {dp un : Nat} {gd : Option (List Code)} {cn : Str} {cs : Scope} {a : Addr} {ccd : Value} {cl : List (Str × Addr)} {outer : List Env} {A₀ : Around} {base h₀ : Heap} {L : Addr} {m : Str → Option Value} {s : Shared} {Q E : Value → Shared → Prop}
  (B : Below A₀ base outer h₀) (F : Fr h₀ L s.heap m) (X : (hd.heap_1 w.params).In h₀)
  (T : Top q lo mean mg mb h₀) (hk : cs.kind = .function) (hd : dp + 4 < recursionLimit) (hu : un + 30 < cLine)
  {news : List (Addr × Obj)} (N : News h₀ L s.heap news) (l : Addr) (vs : List Value) (ss : List Str) (hl : s.heap.IsList l vs.toArray) (hi : StrsAre vs ss) (hn : ss.length < 64) (h1 : 1 ≤ ss.length)
  (ret : ∀ ss' t h' tk', Fr h₀ L h' m → News h₀ L h' news → ss'.Perm ss → sortedS ss' = true → Q (.str (ss'.getD ((ss.length - 1) / 2) ⟨#[]⟩) t) {s with heap := h', toks := tk'}) :
  wpAny (model PySem.Challenge.rw_tv0036_01.row.prog w) (ktrTop dp un gd cn cs L a ccd cl outer) (call (.ref 34) [.ref l]) Q E s :=
  low_ct B F X T hk hd hu l vs ss hl hi hn h1 fun v h' tk' hkp r => by
    obtain ⟨ss', t, hp, hs, rfl⟩ := r
    exact ret ss' t h' tk' (F.keeps hkp) (N.grown hkp) hp hs
theorem high_ct_use {w : World} {q : Program} {lo : List Str} {mean : ExcName → Option Value} {mg mb : Str → Option Value} {dp un : Nat} {gd : Option (List Code)} {cn : Str} {cs : Scope} {a : Addr} {ccd : Value} {cl : List (Str × Addr)} {outer : List Env} {A₀ : Around} {base h₀ : Heap} {L : Addr} {m : Str → Option Value} {s : Shared} {Q E : Value → Shared → Prop}
  (B : Below A₀ base outer h₀) (F : Fr h₀ L s.heap m) (X : (hd.heap_1 w.params).In h₀)
  (T : Top q lo mean mg mb h₀) (hk : cs.kind = .function) (hd : dp + 4 < recursionLimit) (hu : un + 30 < cLine)
  {news : List (Addr × Obj)} (N : News h₀ L s.heap news) (l : Addr) (vs : List Value) (ss : List Str) (hl : s.heap.IsList l vs.toArray) (hi : StrsAre vs ss) (hn : ss.length < 64) (h1 : 1 ≤ ss.length)
  (ret : ∀ ss' t h' tk', Fr h₀ L h' m → News h₀ L h' news → ss'.Perm ss → sortedS ss' = true → Q (.str (ss'.getD (ss.length / 2) ⟨#[]⟩) t) {s with heap := h', toks := tk'}) :
  wpAny (model PySem.Challenge.rw_tv0036_01.row.prog w) (ktrTop dp un gd cn cs L a ccd cl outer) (call (.ref 41) [.ref l]) Q E s :=
  high_ct B F X T hk hd hu l vs ss hl hi hn h1 fun v h' tk' hkp r => by
    obtain ⟨ss', t, hp, hs, rfl⟩ := r
    exact ret ss' t h' tk' (F.keeps hkp) (N.grown hkp) hp hs
theorem sums_ct_use {w : World} {q : Program} {lo : List Str} {mean : ExcName → Option Value} {mg mb : Str → Option Value} {dp un : Nat} {gd : Option (List Code)} {cn : Str} {cs : Scope} {a : Addr} {ccd : Value} {cl : List (Str × Addr)} {outer : List Env} {A₀ : Around} {base h₀ : Heap} {L : Addr} {m : Str → Option Value} {s : Shared} {Q E : Value → Shared → Prop}
  (B : Below A₀ base outer h₀) (F : Fr h₀ L s.heap m) (X : (hd.heap_1 w.params).In h₀)
  (T : Top q lo mean mg mb h₀) (hk : cs.kind = .function) (hd : dp + 4 < recursionLimit) (hu : un + 30 < cLine)
  {news : List (Addr × Obj)} (N : News h₀ L s.heap news) (l : Addr) (vs : List Value) (ns : List Int) (top : Int) (tkt : Tok) (hl : s.heap.IsList l vs.toArray) (hi : IntsAre vs ns) (hn : ns.length ≤ 6)
  (ret : ∀ tr A B va vl ka kl h' tk', Fr h₀ L h' m → News h₀ L h' ((tr, ({ cls := .type "tuple", data := .seq #[.ref A, .ref B] } : Obj)) :: (A, W.listOf (List.toArray va) ka) :: (B, W.listOf (List.toArray vl) kl) :: news) → (∀ p ∈ news, p.1 ≠ tr ∧ p.1 ≠ A ∧ p.1 ≠ B) →
    IntsAre va (byAnd ns top) → IntsAre vl (byLeast ns top) → Q (.ref tr) {s with heap := h', toks := tk'}) :
  wpAny (model PySem.Challenge.rw_tv0036_01.row.prog w) (ktrTop dp un gd cn cs L a ccd cl outer) (call (.ref 125) [.ref l, .int top tkt]) Q E s :=
  sums_ct B F X T hk hd hu l vs ns top tkt hl hi hn fun v h' tk' hkp r => by
    obtain ⟨tr, A, B', va, vl, ka, kl, rfl, f1, f2, f3, e1, e2, e3, i1, i2⟩ := r
    have n1 := news_fresh F N hkp f1 e1
    have n2 := news_fresh F N hkp f2 e2
    have n3 := news_fresh F N hkp f3 e3
    refine ret tr A B' va vl ka kl h' tk' (F.keeps hkp) (fun p hp => ?_) (fun p hp => ⟨n1.2 p hp, n2.2 p hp, n3.2 p hp⟩) i1 i2
    rcases List.mem_cons.mp hp with rfl | hp
    · exact n1.1 _ (List.Mem.head _)
    · rcases List.mem_cons.mp hp with rfl | hp
      · exact n2.1 _ (List.Mem.head _)
      · rcases List.mem_cons.mp hp with rfl | hp
        · exact n3.1 _ (List.Mem.head _)
        · exact n1.1 _ (List.Mem.tail _ hp)
theorem quant_ex_use {w : World} {q : Program} {lo : List Str} {mean : ExcName → Option Value} {mg mb : Str → Option Value} {dp un : Nat} {gd : Option (List Code)} {cn : Str} {cs : Scope} {a : Addr} {ccd : Value} {cl : List (Str × Addr)} {outer : List Env} {A₀ : Around} {base h₀ : Heap} {L : Addr} {m : Str → Option Value} {s : Shared} {Q E : Value → Shared → Prop}
  (B : Below A₀ base outer h₀) (F : Fr h₀ L s.heap m) (X : (hd.heap_1 w.params).In h₀)
  (T : Top q lo mean mg mb h₀) (hk : cs.kind = .function) (hdp : dp + 4 < recursionLimit) (hu : un + 30 < cLine)
  {news : List (Addr × Obj)} (N : News h₀ L s.heap news) (l : Addr) (vs : List Value) (ns : List Int) (M : Int) (tk : Tok) (hM : M = 4 * (ns.length : Int) + 4) (hl : s.heap.IsList l vs.toArray) (hi : IntsAre vs ns) (h3 : 3 ≤ ns.length) (hn : ns.length ≤ 5) (hb : ∀ n ∈ ns, -(2 ^ 40) ≤ n ∧ n ≤ 2 ^ 40)
  (ret : ∀ lr vr ss o n h' tk', Fr h₀ L h' m → News h₀ L h' ((lr, o) :: news) → (∀ p ∈ news, p.1 ≠ lr) → o.cls = .type "list" → o.data = .seq (List.toArray vr) n → ss.Perm ns ∧ ss.Pairwise (· ≤ ·) ∧ FltsAre vr ((List.range (4 * ss.length + 3)).map fun a : Nat => exAt ss (1 + (a : Int))) → Q (.ref lr) {s with heap := h', toks := tk'}) :
  wpAny (model PySem.Challenge.rw_tv0036_01.row.prog w) (ktrTop dp un gd cn cs L a ccd cl outer) (call (.ref 49) [.ref l] [(Str.ofString "n", .int M tk)]) Q E s :=
  quant_ex B F X T hk hdp hu l vs ns M tk hM hl hi h3 hn hb fun v h' tk' hkp r => by
    obtain ⟨lr, vr, ss, rfl, hfr, ⟨o, ho, hc, n, hd⟩, hf⟩ := r
    have hN := news_fresh F N hkp hfr ho
    exact ret lr vr ss o n h' tk' (F.keeps hkp) hN.1 hN.2 hc hd hf
theorem quant_in_use {w : World} {q : Program} {lo : List Str} {mean : ExcName → Option Value} {mg mb : Str → Option Value} {dp un : Nat} {gd : Option (List Code)} {cn : Str} {cs : Scope} {a : Addr} {ccd : Value} {cl : List (Str × Addr)} {outer : List Env} {A₀ : Around} {base h₀ : Heap} {L : Addr} {m : Str → Option Value} {s : Shared} {Q E : Value → Shared → Prop}
  (B : Below A₀ base outer h₀) (F : Fr h₀ L s.heap m) (X : (hd.heap_1 w.params).In h₀)
  (T : Top q lo mean mg mb h₀) (hk : cs.kind = .function) (hdp : dp + 4 < recursionLimit) (hu : un + 30 < cLine)
  {news : List (Addr × Obj)} (N : News h₀ L s.heap news) (l : Addr) (vs : List Value) (ns : List Int) (M : Int) (tk : Tok) (tk2 : Tok) (hM : M = 4 * (ns.length : Int) - 4) (hl : s.heap.IsList l vs.toArray) (hi : IntsAre vs ns) (h3 : 3 ≤ ns.length) (hn : ns.length ≤ 5) (hb : ∀ n ∈ ns, -(2 ^ 40) ≤ n ∧ n ≤ 2 ^ 40)
  (ret : ∀ lr vr ss o n h' tk', Fr h₀ L h' m → News h₀ L h' ((lr, o) :: news) → (∀ p ∈ news, p.1 ≠ lr) → o.cls = .type "list" → o.data = .seq (List.toArray vr) n → ss.Perm ns ∧ ss.Pairwise (· ≤ ·) ∧ FltsAre vr ((List.range (4 * ss.length - 5)).map fun a : Nat => inAt ss (1 + (a : Int))) → Q (.ref lr) {s with heap := h', toks := tk'}) :
  wpAny (model PySem.Challenge.rw_tv0036_01.row.prog w) (ktrTop dp un gd cn cs L a ccd cl outer) (call (.ref 49) [.ref l] [(Str.ofString "n", .int M tk), (Str.ofString "method", .str (Str.ofString "inclusive") tk2)]) Q E s :=
  quant_in B F X T hk hdp hu l vs ns M tk tk2 hM hl hi h3 hn hb fun v h' tk' hkp r => by
    obtain ⟨lr, vr, ss, rfl, hfr, ⟨o, ho, hc, n, hd⟩, hf⟩ := r
    have hN := news_fresh F N hkp hfr ho
    exact ret lr vr ss o n h' tk' (F.keeps hkp) hN.1 hN.2 hc hd hf
end
section
open PySem PySem.W PyProof.Rows PySem.Calls PySem.Spec
open PyProof.Rows.LCg
theorem fr_pins {h₀ h : Heap} {L : Addr} {m : Str → Option Value} (F : Fr h₀ L h m) (l : List (Str × Value)) (hl : ∀ p ∈ l, m p.1 = some p.2) : ∃ u, Fr h₀ L h (pins l u) := ⟨m, by rw [← pins_eq hl]; exact F⟩
section
variable {prog : Program} {w : World} {A : Around} {h₀ : Heap} {L : Addr} {m : Str → Option Value} {env : Env} {elt : Expr} {x : Str} {scope : Scope} {cl : List (Str × Addr)} {s : Shared} {Fin : Shared → List Value → List (Addr × Obj) → Prop}
theorem comp_led {ax : Addr} {o : Obj} {vs : List Value} {n : Nat} {news : List (Addr × Obj)} (J : Nat → List Value → Prop) (hh : A.handled = none) (F : Fr h₀ L s.heap m) (N : News h₀ L s.heap news)
    (hm : (ax, o) ∈ news) (hc : o.cls = .type "list") (hd : o.data = .seq vs.toArray n) (hsz : vs.length ≤ 64) (h0 : J 0 [])
    (turn : ∀ (i : Nat) v ys I oI C oC D m₂ h tk (E' : Value → Shared → Prop), vs[i]? = some v → J i ys → NsObj oC m₂ → m₂ x = some v → (∀ p ∈ news, p.1 ≠ I ∧ p.1 ≠ C ∧ p.1 ≠ D) → Fr h₀ L h m → News h₀ L h ((I, oI) :: (C, oC) :: (D, lst ys) :: news) →
      wpAny (model prog w) A (eval elt (compEnvC scope cl C env)) (EltEnd h₀ L m s [(I, oI), (C, oC), (D, lst ys)] (fun y news' => news' = news ∧ J (i + 1) (ys ++ [y]))) E' { s with heap := h, toks := tk })
    (fin : ∀ g ys, J vs.length ys → Fin { s with heap := g } ys news) : CompSrc prog w A h₀ L m env elt x scope cl Fin (.ref ax) s := by
  have hS : SrcAt h₀ ax vs.toArray news := .inr ⟨o, hm, hc, n, hd⟩
  refine .inl ⟨ax, vs.toArray, news, rfl, hh, F, N, hS, by rw [sizeLine_eq, List.size_toArray]; omega, ?_⟩
  rintro s₂ ⟨g, rfl⟩
  refine compInv (fun i ys news₁ => news₁ = news ∧ J i ys) ⟨rfl, h0⟩ ?_ ?_
  · rintro i v ys news₁ I oI C oC D m₂ h tk E' hin hv ⟨rfl, hJ⟩ hC hx off F' N'
    refine wpAny_mono (turn i v ys I oI C oC D m₂ h tk E' (by simpa using hv) hJ hC hx off F' N') (fun y s₃ q => ?_) fun _ _ e => e
    obtain ⟨h', tk', news', rfl, F₃, N₃, ho, rfl, hJ'⟩ := q
    exact ⟨h', tk', news', rfl, F₃, N₃, ho, hS, rfl, hJ'⟩
  · rintro ys news' ⟨rfl, hJ⟩
    exact fin g ys (by simpa using hJ)
end
theorem ints_take {α : Type} {ys : List Value} {ms : List α} {i : Nat} {f : α → Int} (h : IntsAre ys ((ms.take i).map f)) {n : α} (hn : ms[i]? = some n) (t : Tok) : IntsAre (ys ++ [.int (f n) t]) ((ms.take (i + 1)).map f) := by
  rw [List.take_add_one, hn, List.map_append]
  exact h.append (.cons _ _ .nil)
theorem strs_take {α : Type} {ys : List Value} {ms : List α} {i : Nat} {f : α → Str} (h : StrsAre ys ((ms.take i).map f)) {n : α} (hn : ms[i]? = some n) (t : Tok) : StrsAre (ys ++ [.str (f n) t]) ((ms.take (i + 1)).map f) := by
  rw [List.take_add_one, hn, List.map_append]
  exact StrsAre.append' h (.cons _ _ .nil)
theorem ints_full {α : Type} {ys : List Value} {ms : List α} {i : Nat} {f : α → Int} (h : IntsAre ys ((ms.take i).map f)) (hi : i = ms.length) : IntsAre ys (ms.map f) := by
  rw [hi, List.take_length] at h; exact h
theorem strs_full {α : Type} {ys : List Value} {ms : List α} {i : Nat} {f : α → Str} (h : StrsAre ys ((ms.take i).map f)) (hi : i = ms.length) : StrsAre ys (ms.map f) := by
  rw [hi, List.take_length] at h; exact h
end
section
open PySem PySem.W PyProof.Rows PySem.Calls PySem.Spec PyProof.V
theorem strs_lay : ∀ ss : List Str, (∀ x ∈ ss, PyData.strOk x = true) → PyData.canLayAll0 (ss.map PyData.str) = true
  | [], _ => rfl
  | x :: r, h => by simp [PyData.canLayAll0, PyData.canLay0, h x List.mem_cons_self, strs_lay r fun y hy => h y (List.mem_cons_of_mem _ hy)]
theorem strs_shaped {ss : List Str} (h : ∀ x ∈ ss, PyData.strOk x = true) : SeqAt.shaped (.list (ss.map PyData.str)) = true := by
  simp [SeqAt.shaped, PyData.canLay0, PyData.depth, strs_lay ss h, depthAll_strs']
theorem strs_sameAll : ∀ ss : List Str, PySem.Spec.sameAll (ss.map PyData.str) (ss.map PyData.str) = true
  | [] => by simp [PySem.Spec.sameAll]
  | a :: r => by simp [PySem.Spec.sameAll, PySem.Spec.same, strs_sameAll r]
section
variable {prog : Program} {w : World} {A : Around} {E : Value → Shared → Prop} {s : Shared} {a b : Addr} {xs ys : List Value} {ss : List Str} {Q : Value → Shared → Prop}
theorem ne_strs (ha : s.heap.IsList a xs.toArray) (hb : s.heap.IsList b ys.toArray) (hi : StrsAre xs ss) (hj : StrsAre ys ss) (hok : ∀ x ∈ ss, PyData.strOk x = true) (hu : A.units + 64 < cLine) (h : Q (.bool false) s) :
    wpAny (model prog w) A (compareOp .NotEq (.ref a) (.ref b)) Q E s :=
  ne_dataH_same (reads_newData ha (lm_carried_strs hi)) (reads_newData hb (lm_carried_strs hj)) (strs_shaped hok) (strs_shaped hok) hu (SeqAt.noMix_of_shape (.list .str) rfl _ _ (list_map_has fun _ => rfl) (list_map_has fun _ => rfl)) (by
    rw [show PySem.Spec.same (.list (ss.map PyData.str)) (.list (ss.map PyData.str)) = true by simp only [PySem.Spec.same]; exact strs_sameAll ss]; exact h)
end
end
section
open PySem PySem.W PyProof.Rows PySem.Calls PySem.Spec
open PyProof.Rows.LCg
section
variable {prog : Program} {w : World} {A : Around} {E : Value → Shared → Prop} {s : Shared} {h₀ : Heap} {L : Addr} {m : Str → Option Value} {env : Env}
theorem newCompEnv_cell {scope : Scope} {cl : List (Str × Addr)} {x : Str} {globals : Addr} {qual : Str} {outer : Env} {builtins : Addr} {M : Model} {Q : Env → Shared → Prop} (hone : ∀ n, cellsFrom n scope.names cl = (x, n) :: cl)
    (hpush : ∀ h : Heap, pushCells h scope.names = h.push { cls := .type "cell", data := .cell none })
    (h : Q { scope, locals := s.heap.objs.size, globals, cells := (x, s.heap.objs.size + 1) :: cl, qual, func := none, code := outer.code, frame := outer.frame, builtins := outer.builtins }
      { s with heap := (s.heap.push { cls := .type "dict", data := .dict #[] }).push { cls := .type "cell", data := .cell none } }) :
    wpAny M A (newFunctionEnv scope globals cl [] qual none .none (some outer) builtins) Q E s := by
  simp only [newFunctionEnv, Option.isSome_some, if_true]
  refine wpAny_bind (wpAny_alloc ?_)
  refine wpAny_bind (wpAny_layCells _ (fun name kind cells => by cases hkc : kind == NameKind.cell <;> simp [hkc]) _ _ _ _ ?_)
  rw [hpush, hone]
  rw [List.forIn_nil]
  refine wpAny_bind (wpAny_pure (wpAny_pure ?_))
  rw [show (Heap.push s.heap { cls := .type "dict", data := .dict #[] }).objs.size = s.heap.objs.size + 1 from Heap.size_push ..]
  exact h

noncomputable def TurnC (prog : Program) (w : World) (A : Around) (h₀ : Heap) (L : Addr) (m : Str → Option Value) (env : Env) (elt : Expr) (x : Str) (scope : Scope) (cl : List (Str × Addr)) (news : List (Addr × Obj)) (a : Int) (n : Nat) (J : Nat → List Value → Prop) (s : Shared) : Prop :=
  ∀ (i : Nat) t ys I oI C oC K oK D h tk (E' : Value → Shared → Prop), i < n → J i ys → oK.data = .cell (some (.int (a + (i : Int)) t)) → (∀ p ∈ news, p.1 ≠ I ∧ p.1 ≠ C ∧ p.1 ≠ K ∧ p.1 ≠ D) → @Ne Nat K I → @Ne Nat K C → @Ne Nat K D → Fr h₀ L h m → News h₀ L h ((I, oI) :: (C, oC) :: (K, oK) :: (D, lst ys) :: news) →
    wpAny (model prog w) A (eval elt (compEnvC scope ((x, K) :: cl) C env)) (EltEnd h₀ L m s [(I, oI), (C, oC), (K, oK), (D, lst ys)] (fun y news' => news' = news ∧ J (i + 1) (ys ++ [y]))) E' { s with heap := h, toks := tk }
noncomputable def SrcC (prog : Program) (w : World) (A : Around) (h₀ : Heap) (L : Addr) (m : Str → Option Value) (env : Env) (elt : Expr) (x : Str) (scope : Scope) (cl : List (Str × Addr)) (Q : Value → Shared → Prop) (xv : Value) (s₁ : Shared) : Prop :=
  ∃ r a b t u v n news J, xv = .ref r ∧ A.handled = none ∧ Fr h₀ L s₁.heap m ∧ News h₀ L s₁.heap news ∧ IsRange s₁.heap r a b 1 t u v ∧ Builtin.Range.small a b 1 = true ∧ Builtin.Range.rangeSize a b 1 = ((n : Nat) : Int) ∧ n ≤ sizeLine ∧ J 0 [] ∧
    TurnC prog w A h₀ L m env elt x scope cl news a n J s₁ ∧ ∀ D h tk ys, J n ys → Fr h₀ L h m → News h₀ L h ((D, lst ys) :: news) → (∀ p ∈ news, p.1 ≠ D) → Q (.ref D) { s₁ with heap := h, toks := tk }
theorem SrcC.intro {elt : Expr} {x : Str} {scope : Scope} {cl : List (Str × Addr)} {Q : Value → Shared → Prop} {r : Addr} {a b : Int} {t u v : Tok} {n : Nat} {news : List (Addr × Obj)} (J : Nat → List Value → Prop)
    (hh : A.handled = none) (F : Fr h₀ L s.heap m) (N : News h₀ L s.heap news) (hr : IsRange s.heap r a b 1 t u v) (hsm : Builtin.Range.small a b 1 = true) (hn : Builtin.Range.rangeSize a b 1 = ((n : Nat) : Int)) (hsz : n ≤ sizeLine) (h0 : J 0 [])
    (turn : TurnC prog w A h₀ L m env elt x scope cl news a n J s) (fin : ∀ D h tk ys, J n ys → Fr h₀ L h m → News h₀ L h ((D, lst ys) :: news) → (∀ p ∈ news, p.1 ≠ D) → Q (.ref D) { s with heap := h, toks := tk }) :
    SrcC prog w A h₀ L m env elt x scope cl Q (.ref r) s := ⟨r, a, b, t, u, v, n, news, J, rfl, hh, F, N, hr, hsm, hn, hsz, h0, turn, fin⟩

theorem block_C {elt iter : Expr} {x : Str} {px : Pos} {scope : Scope} {cl : List (Str × Addr)} {pos : Pos} {s₂ : Shared} {I : Addr} {a : Int} {n : Nat} {J : Nat → List Value → Prop} {news : List (Addr × Obj)}
    {RR : Value → Addr → Result → Shared → Prop} (hh : A.handled = none) (hsz : n ≤ sizeLine) (hone : ∀ n, cellsFrom n scope.names cl = (x, n) :: cl) (hpush : ∀ h : Heap, pushCells h scope.names = h.push { cls := .type "cell", data := .cell none })
    (hkind : scope.kind = .function) (hx : (relabel scope env).names.lookup x = some .cell)
    (hst : IsRangeIter s₂.heap I (a + ((0 : Nat) : Nat) * 1) ((n : Int) - ((0 : Nat) : Nat)) 1) (hIlt : I < s₂.heap.objs.size)
    (F : Fr h₀ L s₂.heap m) (N : News h₀ L s₂.heap news) (hIL : L ≠ I) (hI₀ : h₀.get? I = none) (off : ∀ p ∈ news, p.1 ≠ I) (h0 : J 0 [])
    (turn : TurnC prog w A h₀ L m env elt x scope cl news a n J s₂)
    (hRR : ∀ D C h tk m' ys, Fr h₀ L h m → News h₀ L h ((D, lst ys) :: news) → (∀ p ∈ news, p.1 ≠ D) → h.Ns C m' → h₀.get? C = none → h₀.get? D = none → C ≠ L → D ≠ L → C ≠ D → (∀ p ∈ news, p.1 ≠ C) → J n ys → RR (.ref D) C (.ok .next) { s₂ with heap := h, toks := tk }) :
    wpAny (model prog w) A (newList []) (fun acc s₃ => wpAny (model prog w) A (newFunctionEnv scope env.globals cl [] env.qual none .none (some env)) (fun cenv s₄ =>
      codeAny (model prog w) A (.compStart (.ListComp elt [⟨.Name x px, iter, [], 0⟩] scope pos) 0 (.ref I) acc { cenv with scope := relabel scope env }) (RR acc cenv.locals) s₄) E s₃) E s₂ := by
  have W := range_walks (prog := prog) (w := w) (A := A) (I := I) hh a n
  refine wpAny_newObj_type (newCompEnv_cell hone hpush ?_)
  generalize hH2 : s₂.heap.push { cls := .type "list", dict := none, data := .seq ([] : List Value).toArray } = H2
  dsimp only
  have hC : H2.objs.size = s₂.heap.objs.size + 1 := by rw [← hH2, Heap.size_push]
  generalize hH3 : H2.push { cls := .type "dict", data := .dict #[] } = H3
  have hK : H3.objs.size = H2.objs.size + 1 := by rw [← hH3, Heap.size_push]
  generalize hh₁ : H3.push { cls := .type "cell", data := .cell none } = h₁
  obtain ⟨D, hD⟩ : ∃ D, D = s₂.heap.objs.size := ⟨_, rfl⟩
  obtain ⟨C, hCe⟩ : ∃ C, C = H2.objs.size := ⟨_, rfl⟩
  obtain ⟨K, hKe⟩ : ∃ K, K = H2.objs.size + 1 := ⟨_, rfl⟩
  rw [← hD, ← hCe, show C + 1 = K by omega]
  rw [← hCe] at hC hK
  have hDC : @Ne Nat D C := by omega
  have hDK : @Ne Nat D K := by omega
  have hCK : @Ne Nat C K := by omega
  have old : ∀ b o, s₂.heap.get? b = some o → h₁.get? b = some o := fun b o e => by
    rw [← hh₁]; exact Heap.get?_push_of_some _ (by rw [← hH3]; exact Heap.get?_push_of_some _ (by rw [← hH2]; exact Heap.get?_push_of_some _ e))
  have hacc : h₁.get? D = some (lst []) := by
    rw [← hh₁]; exact Heap.get?_push_of_some _ (by rw [← hH3]; exact Heap.get?_push_of_some _ (by rw [← hH2, hD]; exact Heap.get?_push_size _ rfl))
  have hnsC : h₁.Ns C fun _ => none := by
    have := (Heap.Ns.new H2 (.type "dict"))
    rw [hH3, ← hCe] at this
    exact this.at' fun o e => by rw [← hh₁]; exact Heap.get?_push_of_some _ e
  have hcell : h₁.get? K = some { cls := .type "cell", data := .cell none } := by
    rw [← hh₁]
    have : K = H3.objs.size := by omega
    rw [this]; exact Heap.get?_push_size _ rfl
  have blt : ∀ b, b < s₂.heap.objs.size → b ≠ D ∧ b ≠ C ∧ b ≠ K := fun b hb => by
    have hb' : @LT.lt Nat _ b s₂.heap.objs.size := hb
    exact ⟨(by omega : @Ne Nat b D), (by omega : @Ne Nat b C), (by omega : @Ne Nat b K)⟩
  have fresh : ∀ c, s₂.heap.objs.size ≤ c → s₂.heap.get? c = none := fun c hc => by
    cases e : s₂.heap.get? c with
    | none => rfl
    | some o' => exact absurd (Heap.lt_size e) (Nat.not_lt.mpr hc)
  have fresh₀ : ∀ c, s₂.heap.objs.size ≤ c → h₀.get? c = none := fun c hc => by
    cases e : h₀.get? c with
    | none => rfl
    | some o' => have := F.keep c o' e; rw [fresh c hc] at this; cases this
  have hD₀ : h₀.get? D = none := fresh₀ _ (by show @LE.le Nat _ _ _; omega)
  have hC₀ : h₀.get? C = none := fresh₀ _ (by show @LE.le Nat _ _ _; omega)
  have hK₀ : h₀.get? K = none := fresh₀ _ (by show @LE.le Nat _ _ _; omega)
  have hLb := blt L F.ns.lt
  have hIb := blt I hIlt
  have off₀ : ∀ p ∈ news, p.1 ≠ I ∧ p.1 ≠ C ∧ p.1 ≠ K ∧ p.1 ≠ D := fun p hp => by
    have := blt _ (Heap.lt_size (N p hp).1)
    exact ⟨off p hp, this.2.1, this.2.2, this.1⟩
  have hst₁ : IsRangeIter h₁ I (a + ((0 : Nat) : Nat) * 1) ((n : Int) - ((0 : Nat) : Nat)) 1 := W.frame _ _ _ hst fun b _ o e => old b o e
  have loop : ∀ s₃ : Shared, s₃ = { s₂ with heap := h₁ } →
      codeAny (model prog w) A (.compLoop (.ListComp elt [⟨.Name x px, iter, [], 0⟩] scope pos) 0 (.ref I) (.ref D) (compEnvC scope ((x, K) :: cl) C env)) (RR (.ref D) C) s₃ := by
    rintro s₃ rfl
    refine codeAny_compLoop_list
      (fun k s' => ∃ h' tk i ys m' oK x', s' = { s₂ with heap := h', toks := tk } ∧ i ≤ n ∧ k = n + 1 - i ∧ ys.length = i ∧ IsRangeIter h' I (a + (i : Nat) * 1) ((n : Int) - (i : Nat)) 1 ∧ Fr h₀ L h' m ∧ h'.Ns C m' ∧ oK.data = .cell x' ∧ News h₀ L h' ((K, oK) :: (D, lst ys) :: news) ∧ J i ys) ?_ (n + 1)
      ⟨h₁, _, 0, [], _, { cls := .type "cell", data := .cell none }, none, rfl, Nat.zero_le _, rfl, rfl, hst₁, F.keeps old, hnsC, rfl, fun p hp => ?_, h0⟩
    · rintro k s' ⟨h', tk, i, ys, m', oK, x', rfl, hi, rfl, hyl, hst', F', hn', hoK, N', hJ⟩
      by_cases hlt : i < n
      · refine W.item i _ _ _ hlt hst' fun v h₂ tk₂ hPv hst₂ hk₂ => ?_
        obtain ⟨t, rfl⟩ := hPv
        have N₂ : News h₀ L h₂ ((K, oK) :: (D, lst ys) :: news) := news_but N' hk₂ fun p hp => by
          rcases List.mem_cons.mp hp with rfl | hp
          · exact Ne.symm hIb.2.2
          · rcases List.mem_cons.mp hp with rfl | hp
            · exact Ne.symm hIb.1
            · exact off p hp
        have zK := (N₂ _ (List.Mem.head _)).1
        refine wpAny_assign_Name (wpAny_storeName_cell (c := K) hkind hx (by simp [compEnvC]) ⟨oK, zK, hoK⟩ (fun h₃ hc₃ hs₃ => ?_))
        obtain ⟨oK', zK', hoK'⟩ := hc₃
        have hst₃ := W.frame _ _ _ hst₂ fun b hb o e => hs₃.extBut b o (fun q => hIb.2.2 ((List.mem_singleton.mp hb).symm.trans q)) e
        have hst₃' : IsRangeIter h₃ I (a + ((i + 1 : Nat) : Nat) * 1) ((n : Int) - ((i + 1 : Nat) : Nat)) 1 := hst₃
        have heI : ∃ oI, h₃.get? I = some oI := ⟨_, hst₃'⟩
        obtain ⟨oI, heI⟩ := heI
        have hn₃ : h₃.Ns C m' := (hn'.at' fun o e => hk₂ _ o (by simpa using Ne.symm hIb.2.1) e).sameBut hs₃ (fun q => hCK q)
        obtain ⟨oC, heC, hoC⟩ := ns_obj hn₃
        have F₃ : Fr h₀ L h₃ m := (fr_but F' hk₂ hIL hI₀).change hs₃ (Ne.symm hLb.2.2) hK₀
        have N₃ : News h₀ L h₃ ((I, oI) :: (C, oC) :: (K, oK') :: (D, lst ys) :: news) := fun p hp => by
          rcases List.mem_cons.mp hp with rfl | hp
          · exact ⟨heI, Ne.symm hIL, hI₀⟩
          · rcases List.mem_cons.mp hp with rfl | hp
            · exact ⟨heC, Ne.symm hLb.2.1, hC₀⟩
            · rcases List.mem_cons.mp hp with rfl | hp
              · exact ⟨zK', Ne.symm hLb.2.2, hK₀⟩
              · have z := N₂ p (List.mem_cons_of_mem _ hp)
                refine ⟨hs₃.extBut _ _ ?_ z.1, z.2⟩
                rcases List.mem_cons.mp hp with rfl | hp
                · exact hDK
                · exact (off₀ p hp).2.2.1
        refine wpAny_mono (turn i t ys I oI C oC K oK' D h₃ _ _ hlt hJ hoK' off₀ (Ne.symm hIb.2.2) (Ne.symm hCK) (Ne.symm hDK) F₃ N₃) (fun y s₄ h₄ => ?_) fun _ _ e => e
        obtain ⟨h₄, tk₄, news₄, rfl, F₄, N₄, _, hnw, J₄⟩ := h₄
        rw [hnw] at N₄
        have zI := (N₄ _ (List.Mem.head _)).1
        have zC := (N₄ _ (List.Mem.tail _ (List.Mem.head _))).1
        have zK₄ := N₄ _ (List.Mem.tail _ (List.Mem.tail _ (List.Mem.head _)))
        have zD := (N₄ _ (List.Mem.tail _ (List.Mem.tail _ (List.Mem.tail _ (List.Mem.head _))))).1
        have hst₄ : IsRangeIter h₄ I (a + ((i + 1 : Nat) : Nat) * 1) ((n : Int) - ((i + 1 : Nat) : Nat)) 1 := range_st (i + 1) h₃ h₄ oI news hst₃' heI zI F₄.keep (fun p hp => N₄ p (by simp [hp])) trivial
        refine append_at (hsz := by show ys.toArray.size ≤ sizeLine; rw [List.size_toArray, hyl]; exact Nat.le_trans hi hsz) zD fun h₅ hs₅ hD₅ => ?_
        refine ⟨n + 1 - (i + 1), by omega, h₅, tk₄, i + 1, ys ++ [y], _, oK', _, rfl, hlt, rfl, by rw [List.length_append, List.length_singleton, hyl], W.frame _ _ _ hst₄ fun b hb o e => hs₅.extBut b o (fun q => hIb.1 ((List.mem_singleton.mp hb).symm.trans q)) e, F₄.change hs₅ (Ne.symm hLb.1) hD₀,
          (hoC.ns zC).sameBut hs₅ (fun q => hDC q.symm), hoK', fun p hp => ?_, J₄⟩
        rcases List.mem_cons.mp hp with rfl | hp
        · exact ⟨hs₅.extBut _ _ (fun q => hDK q.symm) zK₄.1, zK₄.2⟩
        · rcases List.mem_cons.mp hp with rfl | hp
          · exact ⟨hD₅.trans (congrArg some (lst_snoc ys y)), Ne.symm hLb.1, hD₀⟩
          · have z := N₄ p (by simp [hp])
            exact ⟨hs₅.extBut _ _ (off₀ p hp).2.2.2 z.1, z.2⟩
      · obtain rfl : i = n := Nat.le_antisymm hi (Nat.not_lt.mp hlt)
        refine W.done _ _ _ hst' fun h₂ tk₂ hk₂ => ?_
        exact hRR D C h₂ tk₂ _ ys (fr_but F' hk₂ hIL hI₀) (news_but (fun p hp => N' p (List.mem_cons_of_mem _ hp)) hk₂ fun p hp => by
          rcases List.mem_cons.mp hp with rfl | hp
          · exact Ne.symm hIb.1
          · exact off p hp) (fun p hp => (off₀ p hp).2.2.2) (hn'.at' fun o e => hk₂ _ o (by simpa using Ne.symm hIb.2.1) e) hC₀ hD₀ (Ne.symm hLb.2.1) (Ne.symm hLb.1) (Ne.symm hDC) (fun p hp => (off₀ p hp).2.1) hJ
    · rcases List.mem_cons.mp hp with rfl | hp
      · exact ⟨hcell, Ne.symm hLb.2.2, hK₀⟩
      · rcases List.mem_cons.mp hp with rfl | hp
        · exact ⟨hacc, Ne.symm hLb.1, hD₀⟩
        · exact ⟨old _ _ (N p hp).1, (N p hp).2⟩
  exact codeAny_compStart_list (loop _ rfl) (W.self 0 _ _ _ hst₁ (loop _ rfl))

theorem ListComp_C {elt iter : Expr} {x : Str} {px : Pos} {scope : Scope} {cl : List (Str × Addr)} {pos : Pos} {Q : Value → Shared → Prop} (_F₀ : Fr h₀ L s.heap m)
    (hclos : closureFor scope env = pure cl) (hone : ∀ n, cellsFrom n scope.names cl = (x, n) :: cl) (hpush : ∀ h : Heap, pushCells h scope.names = h.push { cls := .type "cell", data := .cell none }) (hkind : scope.kind = .function)
    (hnames : ∀ y ∈ scope.names, y.2 = .local → scope.names.lookup y.1 = some .local) (hx : (relabel scope env).names.lookup x = some .cell)
    (h : wpAny (model prog w) A (eval iter env) (SrcC prog w A h₀ L m env elt x scope cl Q) E s)
    (hs : ∀ x, foldedSetIterable iter env x = pure x := by intro _; rfl) :
    wpAny (model prog w) A (eval (.ListComp elt [⟨.Name x px, iter, [], 0⟩] scope pos) env) Q E s := by
  rw [eval_ListComp]
  refine wpAny_comprehension_free (use := none) rfl hs hclos hkind hnames (wpAny_mono h (fun xv s₁ h₁ => ?_) fun _ _ e => e)
  obtain ⟨r, a, b, t, u, v, n, news, J, rfl, hh, F, N, hr, hsm, hn, hsz, h0, turn, fin⟩ := h₁
  refine wpAny_pyIter_range hr hsm ?_
  refine block_C hh hsz hone hpush hkind hx (by show IsRangeIter _ _ _ _ _; rw [hn]; simpa using Heap.get?_push_size _ rfl) ?_
    (F.keeps fun _ _ e => Heap.get?_push_of_some _ e) (N.grown fun _ _ e => Heap.get?_push_of_some _ e) (Nat.ne_of_lt F.ns.lt) (next_is_new F) (fun p hp => Nat.ne_of_lt (Heap.lt_size (N p hp).1)) h0 turn ?_
  · show s₁.heap.objs.size < (s₁.heap.push _).objs.size
    rw [Heap.size_push]; exact Nat.lt_succ_self _
  · intro D C h' tk m' ys F' N' o1 hn' hC₀ hD₀ hCL hDL hCD offC hJ
    refine ⟨m', hn', fun h'' hs'' => fin D h'' tk ys hJ (F'.change hs'' hCL hC₀) (fun p hp => ?_) o1⟩
    refine ⟨hs''.extBut _ _ ?_ (N' p hp).1, (N' p hp).2⟩
    rcases List.mem_cons.mp hp with rfl | hp
    · exact Ne.symm hCD
    · exact offC p hp
end
end
section
open PySem PySem.W PyProof.Rows PySem.Calls PySem.Spec PyProof.V
noncomputable def signAt (x : Str) (i : Nat) : Str := ⟨#[x.cps.getD i 0]⟩
section
variable {prog : Program} {w : World} {A : Around} {E : Value → Shared → Prop} {s : Shared} {x : Str} {t : Tok}
theorem char_at {value slice : PySem.Expr} {k : Int} {u : Tok} {Q : Value → Shared → Prop} (i : Nat) (hk : k = (i : Int)) (hi : i < x.length) (hi' : i < 2 ^ 62)
    (h : Q (.str (signAt x i) s.toks) { s with toks := s.toks + 1 })
    (hs : subscripted slice false (.str x t) (.int k u) = operate [.str x t, .int k u] (getItem (.str x t) (.int k u)) := by with_unfolding_all rfl) :
    wpAny (model prog w) A (subscriptTail value slice (.str x t) (.int k u)) Q E s := by
  subst hk
  refine tail_any (typeIs_str s x t) slot_str_getitem.lookup (getItem_str ?_ ?_ h) hs
  · simp; omega
  · have h1 : ¬ ((i : Int) < 0) := by omega
    have h2 : i < x.cps.size := hi
    have h3 : (i : Int) < (x.length : Int) := by omega
    simp [seqIndex?, h1, h3, h2, Array.getD, Str.length]
end

noncomputable def Mid (l : List Str) (idx : Nat) (c : Str) : Prop := ∃ ss', ss'.Perm l ∧ sortedS ss' = true ∧ c = ss'.getD idx ⟨#[]⟩
noncomputable def ColsAre (P : Nat → Str → Prop) (i : Nat) (ys : List Value) : Prop := ∃ cs, StrsAre ys cs ∧ cs.length = i ∧ ∀ j c, cs[j]? = some c → P j c
theorem ColsAre.nil {P : Nat → Str → Prop} : ColsAre P 0 [] := ⟨[], .nil, rfl, fun j c h => by simp at h⟩
theorem ColsAre.snoc {P : Nat → Str → Prop} {i : Nat} {ys : List Value} {c : Str} (h : ColsAre P i ys) (t : Tok) (hc : P i c) : ColsAre P (i + 1) (ys ++ [.str c t]) := by
  obtain ⟨cs, h1, h2, h3⟩ := h
  refine ⟨cs ++ [c], StrsAre.append' h1 (.cons _ _ .nil), by simp [h2], fun j d hj => ?_⟩
  by_cases hlt : j < cs.length
  · rw [List.getElem?_append_left hlt] at hj; exact h3 j d hj
  · rw [List.getElem?_append_right (Nat.not_lt.mp hlt)] at hj
    have e : j - cs.length = 0 := by
      cases e : j - cs.length with
      | zero => rfl
      | succ k => rw [e] at hj; simp at hj
    rw [e] at hj
    simp at hj
    have : j = i := by omega
    rw [this, ← hj]; exact hc
theorem off4 {news : List (Addr × Obj)} {I C K D : Addr} {oI oC oK oD : Obj} (h : ∀ p ∈ news, p.1 ≠ I ∧ p.1 ≠ C ∧ p.1 ≠ K ∧ p.1 ≠ D) : ∀ p ∈ news, ∀ q ∈ [(I, oI), (C, oC), (K, oK), (D, oD)], p.1 ≠ q.1 := fun p hp =>
  all1 (h p hp).1 (all1 (h p hp).2.1 (all1 (h p hp).2.2.1 (all1 (h p hp).2.2.2 all0)))
theorem Mid.len {l : List Str} {idx : Nat} {c : Str} (h : Mid l idx c) (hi : idx < l.length) (h1 : ∀ x ∈ l, x.length = 1) : c.length = 1 := by
  obtain ⟨ss', hp, _, rfl⟩ := h
  have hi' : idx < ss'.length := by rw [hp.length_eq]; exact hi
  rw [List.getD_eq_getElem?_getD, List.getElem?_eq_getElem hi', Option.getD_some]
  exact h1 _ (hp.mem_iff.mp (List.getElem_mem hi'))
theorem cols_len {rowF' : Int → Str} {ms : List Int} {idx : Nat} {cs : List Str} (hi : idx < ms.length) (h : ∀ j c, cs[j]? = some c → Mid (ms.map fun b => signAt (rowF' b) j) idx c) : ∀ y ∈ cs, y.length = 1 := fun y hy => by
  obtain ⟨j, hj, rfl⟩ := List.getElem_of_mem hy
  refine (h j _ (List.getElem?_eq_getElem hj)).len (by rw [List.length_map]; exact hi) fun x hx => ?_
  obtain ⟨b, _, rfl⟩ := List.mem_map.mp hx
  rfl
section
variable {prog : Program} {w : World} {A : Around} {E : Value → Shared → Prop} {s : Shared} {h₀ : Heap} {L : Addr} {news : List (Addr × Obj)}
theorem tup_snd {value slice : PySem.Expr} {t : Addr} {a b : Value} {u : Tok} {Q : Value → Shared → Prop} (N : News h₀ L s.heap news) (hm : (t, ({ cls := .type "tuple", data := .seq #[a, b] } : Obj)) ∈ news) (_ht : True = True) (h : Q b s)
    (hs : subscripted slice false (.ref t) (.int 1 u) = operate [.ref t, .int 1 u] (getItem (.ref t) (.int 1 u)) := by with_unfolding_all rfl) :
    wpAny (model prog w) A (subscriptTail value slice (.ref t) (.int 1 u)) Q E s :=
  item_tupleT (j := 1) (l := [a, b]) ⟨_, (N _ hm).1, rfl, _, rfl⟩ (by decide) (by decide) (by simp [seqIndex?]) rfl h hs
end
open PyProof.Rows.LCg in
section
variable {prog : Program} {w : World} {A : Around} {h₀ : Heap} {L : Addr} {m : Str → Option Value} {env : Env} {elt : Expr} {x : Str} {scope : Scope} {cl : List (Str × Addr)} {s : Shared} {Fin : Shared → List Value → List (Addr × Obj) → Prop}
theorem comp_two {ax : Addr} {o : Obj} {v1 v2 : Value} {n : Nat} {news : List (Addr × Obj)} (R1 R2 : Addr × Obj → Prop) (hh : A.handled = none) (F : Fr h₀ L s.heap m) (N : News h₀ L s.heap news)
    (hm : (ax, o) ∈ news) (hc : o.cls = .type "list") (hd : o.data = .seq #[v1, v2] n)
    (turn1 : ∀ I oI C oC D m₂ h tk (E' : Value → Shared → Prop), NsObj oC m₂ → m₂ x = some v1 → (∀ p ∈ news, p.1 ≠ I ∧ p.1 ≠ C ∧ p.1 ≠ D) → Fr h₀ L h m → News h₀ L h ((I, oI) :: (C, oC) :: (D, lst []) :: news) →
      wpAny (model prog w) A (eval elt (compEnvC scope cl C env)) (EltEnd h₀ L m s [(I, oI), (C, oC), (D, lst [])] (fun y news' => ∃ q, y = .ref q.1 ∧ R1 q ∧ news' = q :: news)) E' { s with heap := h, toks := tk })
    (turn2 : ∀ q, R1 q → ∀ I oI C oC D m₂ h tk (E' : Value → Shared → Prop), NsObj oC m₂ → m₂ x = some v2 → (∀ p ∈ q :: news, p.1 ≠ I ∧ p.1 ≠ C ∧ p.1 ≠ D) → Fr h₀ L h m → News h₀ L h ((I, oI) :: (C, oC) :: (D, lst [.ref q.1]) :: q :: news) →
      wpAny (model prog w) A (eval elt (compEnvC scope cl C env)) (EltEnd h₀ L m s [(I, oI), (C, oC), (D, lst [.ref q.1])] (fun y news' => ∃ r, y = .ref r.1 ∧ R2 r ∧ news' = r :: q :: news)) E' { s with heap := h, toks := tk })
    (fin : ∀ g q r, R1 q → R2 r → Fin { s with heap := g } [.ref q.1, .ref r.1] (r :: q :: news)) : CompSrc prog w A h₀ L m env elt x scope cl Fin (.ref ax) s := by
  have hS : SrcAt h₀ ax #[v1, v2] news := .inr ⟨o, hm, hc, n, hd⟩
  refine .inl ⟨ax, #[v1, v2], news, rfl, hh, F, N, hS, by rw [sizeLine_eq]; exact Nat.le_of_ble_eq_true rfl, ?_⟩
  rintro s₂ ⟨g, rfl⟩
  refine compInv (fun i ys news₁ => (i = 0 ∧ ys = [] ∧ news₁ = news) ∨ (i = 1 ∧ ∃ q, R1 q ∧ ys = [.ref q.1] ∧ news₁ = q :: news) ∨ (i = 2 ∧ ∃ q r, R1 q ∧ R2 r ∧ ys = [.ref q.1, .ref r.1] ∧ news₁ = r :: q :: news)) (.inl ⟨rfl, rfl, rfl⟩) ?_ ?_
  · rintro i v ys news₁ I oI C oC D m₂ h tk E' hin hv (⟨rfl, rfl, rfl⟩ | ⟨rfl, q, hq, rfl, rfl⟩ | ⟨rfl, _⟩) hC hx off F' N'
    · have e : v = v1 := by simpa using hv.symm
      subst e
      refine wpAny_mono (turn1 I oI C oC D m₂ h tk E' hC hx off F' N') (fun y s₃ z => ?_) fun _ _ e => e
      obtain ⟨h', tk', news', rfl, F₃, N₃, ho, q, rfl, hq, rfl⟩ := z
      exact ⟨h', tk', _, rfl, F₃, N₃, ho, .inr ⟨o, List.Mem.tail _ hm, hc, n, hd⟩, .inr (.inl ⟨rfl, q, hq, rfl, rfl⟩)⟩
    · have e : v = v2 := by simpa using hv.symm
      subst e
      refine wpAny_mono (turn2 q hq I oI C oC D m₂ h tk E' hC hx off F' N') (fun y s₃ z => ?_) fun _ _ e => e
      obtain ⟨h', tk', news', rfl, F₃, N₃, ho, r, rfl, hr, rfl⟩ := z
      exact ⟨h', tk', _, rfl, F₃, N₃, ho, .inr ⟨o, List.Mem.tail _ (List.Mem.tail _ hm), hc, n, hd⟩, .inr (.inr ⟨rfl, q, r, hq, hr, rfl, rfl⟩)⟩
    · exact absurd hin (by simp)
  · rintro ys news' (⟨h, _⟩ | ⟨h, _⟩ | ⟨_, q, r, hq, hr, rfl, rfl⟩)
    · exact absurd h (by simp)
    · exact absurd h (by simp)
    · exact fin g q r hq hr
end
theorem EltEnd.one {h₀ : Heap} {L : Addr} {m : Str → Option Value} {s : Shared} {its news : List (Addr × Obj)} {J : Value → List (Addr × Obj) → Prop} {y : Value} {h' : Heap} {tk : Nat} {q : Addr × Obj} (F : Fr h₀ L h' m) (N : News h₀ L h' (q :: (its ++ news)))
    (ho : ∀ p ∈ news, ∀ r ∈ its, p.1 ≠ r.1) (hq : ∀ p ∈ its ++ news, p.1 ≠ q.1) (j : J y (q :: news)) : EltEnd h₀ L m s its J y { s with heap := h', toks := tk } :=
  EltEnd.intro (q :: news) F N (fun p hp => by
    rcases List.mem_append.mp hp with hp | hp
    · exact List.mem_cons_of_mem _ (List.mem_append_left _ hp)
    · rcases List.mem_cons.mp hp with rfl | hp
      · exact List.mem_cons_self
      · exact List.mem_cons_of_mem _ (List.mem_append_right _ hp)) (fun p hp r hr => by
    rcases List.mem_cons.mp hp with rfl | hp
    · exact Ne.symm (hq r (List.mem_append_left _ hr))
    · exact ho p hp r hr) j
end
section
open PySem PySem.W PyProof.Rows PySem.Calls PySem.Spec
open PyProof.Rows.LCg
section
variable {prog : Program} {w : World} {A : Around} {E : Value → Shared → Prop} {R : Result → Shared → Prop} {s : Shared}
theorem turn2_0 (elt t0 it0 t1 it1 : PySem.Expr) (ifs : List PySem.Expr) (scope : Scope) (pos : Pos) (it acc : Value) (env : Env) :
    compTurn (.ListComp elt [⟨t0, it0, [], 0⟩, ⟨t1, it1, ifs, 0⟩] scope pos) 0 it acc env = (do
      standAt it0.pos
      match ← pyNext it with
      | none => pure (.done .next)
      | some v =>
        letOwnedTupleGo t0 it v
        assign t0 env v
        let x ← eval it1 env
        standAt it1.pos
        let x ← foldedSetIterable it1 env x
        let _ ← runOwn (.compStart (.ListComp elt [⟨t0, it0, [], 0⟩, ⟨t1, it1, ifs, 0⟩] scope pos) 1 (← holding [x] (pyIter x)) acc env) env
        again (.compLoop (.ListComp elt [⟨t0, it0, [], 0⟩, ⟨t1, it1, ifs, 0⟩] scope pos) 0 it acc env)) := by rfl
theorem turn2_1 (elt t0 it0 t1 it1 : PySem.Expr) (ifs : List PySem.Expr) (scope : Scope) (pos : Pos) (it acc : Value) (env : Env) :
    compTurn (.ListComp elt [⟨t0, it0, [], 0⟩, ⟨t1, it1, ifs, 0⟩] scope pos) 1 it acc env = (do
      standAt it1.pos
      match ← pyNext it with
      | none => pure (.done .next)
      | some v =>
        letOwnedTupleGo t1 it v
        assign t1 env v
        let mut ok := true
        for c in ifs do
          if ok then ok ← isTrue c env (eval c env)
        if ok then
          (do let _ ← call (.builtin "list.append") [acc, ← eval elt env])
        again (.compLoop (.ListComp elt [⟨t0, it0, [], 0⟩, ⟨t1, it1, ifs, 0⟩] scope pos) 1 it acc env)) := by rfl
theorem loop2_0 {elt t0 it0 t1 it1 : PySem.Expr} {ifs : List PySem.Expr} {scope : Scope} {pos : Pos} {it acc : Value} {env : Env} (I : Nat → Shared → Prop)
    (turn : ∀ n s, I n s → wpAny (model prog w) A (pyNext it) (fun r s₁ => match r with
      | none => R (.ok .next) s₁
      | some v => wpAny (model prog w) A (assign t0 env v) (fun _ s₂ => wpAny (model prog w) A (eval it1 env) (fun y s₃ => wpAny (model prog w) A (pyIter y) (fun it' s₄ =>
          codeAny (model prog w) A (.compStart (.ListComp elt [⟨t0, it0, [], 0⟩, ⟨t1, it1, ifs, 0⟩] scope pos) 1 it' acc env) (fun r s₅ => match r with | .ok _ => ∃ m, m < n ∧ I m s₅ | .error _ => False) s₄)
          (notedBy (model prog w) A env fun e s' => R (.error e) s') s₃) (notedBy (model prog w) A env fun e s' => R (.error e) s') s₂) (notedBy (model prog w) A env fun e s' => R (.error e) s') s₁) (notedBy (model prog w) A env fun e s' => R (.error e) s') s)
    (n : Nat) (h : I n s) (ht : ∀ v, letOwnedTupleGo t0 it v = pure () := by intro _; rfl) (hs : ∀ x, foldedSetIterable it1 env x = pure x := by intro _; rfl) :
    codeAny (model prog w) A (.compLoop (.ListComp elt [⟨t0, it0, [], 0⟩, ⟨t1, it1, ifs, 0⟩] scope pos) 0 it acc env) R s := by
  refine codeAny_loop rfl I (fun n s hI => ?_) n h
  show wpAny _ A ((compTurn (.ListComp elt [⟨t0, it0, [], 0⟩, ⟨t1, it1, ifs, 0⟩] scope pos) 0 it acc env).onRaise (fun x => do noteFrame x env; theTreesLotGoes x)) _ _ s
  refine wpAny_noted ?_
  rw [turn2_0]
  refine wpAny_bind (wpAny_standAt (wpAny_bind (wpAny_mono (turn n s hI) (fun r s₁ h₁ => ?_) fun _ _ h' => h')))
  cases r with
  | none => exact wpAny_pure h₁
  | some v =>
    refine wpAny_bind (wpAny_of_eq (ht v) ?_)
    refine wpAny_bind (wpAny_mono h₁ (fun _ s₂ h₂ => wpAny_bind (wpAny_mono h₂ (fun y s₃ h₃ => wpAny_bind (wpAny_standAt (wpAny_bind (wpAny_of_eq (hs y) (wpAny_bind (wpAny_holding (wpAny_mono h₃ (fun it' s₄ h₄ => ?_) fun _ _ h' => h')))))))
      fun _ _ h' => h')) fun _ _ h' => h')
    refine wpAny_bind (wpAny_runOwn ?_)
    rw [Around.mark_none]
    refine codeAny_mono h₄ fun r s₅ h₅ => ?_
    cases r with
    | ok f => exact wpAny_pure ⟨rfl, h₅⟩
    | error e => exact h₅.elim
theorem loop2_1 {elt t0 it0 t1 it1 : PySem.Expr} {ifs : List PySem.Expr} {scope : Scope} {pos : Pos} {it acc : Value} {env : Env} (I : Nat → Shared → Prop)
    (turn : ∀ n s, I n s → wpAny (model prog w) A (pyNext it) (fun r s₁ => match r with
      | none => R (.ok .next) s₁
      | some v => wpAny (model prog w) A (assign t1 env v) (fun _ s₂ =>
          wpAny (model prog w) A (forIn ifs true fun c r => if r = true then do let ok ← isTrue c env (eval c env); pure (ForInStep.yield ok) else pure (ForInStep.yield r)) (fun ok s₃ =>
            ok = false ∧ ∃ m, m < n ∧ I m s₃) (notedBy (model prog w) A env fun e s' => R (.error e) s') s₂) (notedBy (model prog w) A env fun e s' => R (.error e) s') s₁) (notedBy (model prog w) A env fun e s' => R (.error e) s') s)
    (n : Nat) (h : I n s) (ht : ∀ v, letOwnedTupleGo t1 it v = pure () := by intro _; rfl) :
    codeAny (model prog w) A (.compLoop (.ListComp elt [⟨t0, it0, [], 0⟩, ⟨t1, it1, ifs, 0⟩] scope pos) 1 it acc env) R s := by
  refine codeAny_loop rfl I (fun n s hI => ?_) n h
  show wpAny _ A ((compTurn (.ListComp elt [⟨t0, it0, [], 0⟩, ⟨t1, it1, ifs, 0⟩] scope pos) 1 it acc env).onRaise (fun x => do noteFrame x env; theTreesLotGoes x)) _ _ s
  refine wpAny_noted ?_
  rw [turn2_1]
  refine wpAny_bind (wpAny_standAt (wpAny_bind (wpAny_mono (turn n s hI) (fun r s₁ h₁ => ?_) fun _ _ h' => h')))
  cases r with
  | none => exact wpAny_pure h₁
  | some v =>
    refine wpAny_bind (wpAny_of_eq (ht v) ?_)
    refine wpAny_bind (wpAny_mono h₁ (fun _ s₂ h₂ => wpAny_bind (wpAny_mono h₂ (fun ok s₃ h₃ => ?_) fun _ _ h' => h')) fun _ _ h' => h')
    obtain ⟨rfl, h₃⟩ := h₃
    exact wpAny_pure ⟨rfl, h₃⟩
theorem start2_1 {elt t0 it0 t1 it1 : PySem.Expr} {ifs : List PySem.Expr} {scope : Scope} {pos : Pos} {it acc : Value} {env : Env}
    (h0 : codeAny (model prog w) A (.compLoop (.ListComp elt [⟨t0, it0, [], 0⟩, ⟨t1, it1, ifs, 0⟩] scope pos) 1 it acc env) R s)
    (h : wpAny (model prog w) A (pyIter it) (fun it' s' => codeAny (model prog w) A (.compLoop (.ListComp elt [⟨t0, it0, [], 0⟩, ⟨t1, it1, ifs, 0⟩] scope pos) 1 it' acc env) R s')
      (notedBy (model prog w) A env fun x s' => R (.error x) s') s) :
    codeAny (model prog w) A (.compStart (.ListComp elt [⟨t0, it0, [], 0⟩, ⟨t1, it1, ifs, 0⟩] scope pos) 1 it acc env) R s := by
  refine codeAny_of_tree ?_
  show wpAny _ _ ((compStart (.ListComp elt [⟨t0, it0, [], 0⟩, ⟨t1, it1, ifs, 0⟩] scope pos) 1 it acc env).onRaise (fun x => do noteFrame x env; standAt theWindowsPlace)) _ _ s
  refine wpAny_notedAt ?_
  unfold compStart
  show wpAny _ _ (ask >>= _) _ _ s
  refine wpAny_bind (wpAny_askSetting (wpAny_ite ?_))
  split
  · first
      | exact wpAny_bind (wpAny_pure (wpAny_pure (And.intro rfl h0)))
      | exact wpAny_pure (And.intro rfl h0)
  · first
      | exact wpAny_bind (wpAny_rule (wpAny_bind (wpAny_standAt (wpAny_bind (wpAny_mono h (fun it' s' h' => wpAny_pure (And.intro rfl h')) fun _ _ x => x)))))
      | (refine wpAny_bind (wpAny_rule ?_); show wpAny _ _ (standAt it1.pos >>= _) _ _ s; exact wpAny_bind (wpAny_standAt (wpAny_bind (wpAny_mono h (fun it' s' h' => wpAny_pure (And.intro rfl h')) fun _ _ x => x))))
end
section
variable {prog : Program} {w : World} {A : Around} {E : Value → Shared → Prop} {s : Shared} {h₀ : Heap} {L : Addr} {m : Str → Option Value} {env : Env}
noncomputable def TestEnd (h₀ : Heap) (L : Addr) (m : Str → Option Value) (s : Shared) (all : List (Addr × Obj)) (ok : Bool) (s' : Shared) : Prop := ok = false ∧ ∃ h' tk', s' = { s with heap := h', toks := tk' } ∧ Fr h₀ L h' m ∧ News h₀ L h' all
noncomputable def TestOff (prog : Program) (w : World) (A : Around) (h₀ : Heap) (L : Addr) (m : Str → Option Value) (env : Env) (ct : PySem.Expr) (x2 : Str) (scope : Scope) (cl : List (Str × Addr)) (news : List (Addr × Obj)) (G : Value → Prop) (s : Shared) : Prop :=
  ∀ y, G y → ∀ I oI I2 oI2 C oC D m₂ h tk (E' : Value → Shared → Prop), NsObj oC m₂ → m₂ x2 = some y → Fr h₀ L h m → News h₀ L h ((I2, oI2) :: (I, oI) :: (C, oC) :: (D, lst []) :: news) →
    wpAny (model prog w) A (isTrue ct (compEnvC scope cl C env) (eval ct (compEnvC scope cl C env))) (TestEnd h₀ L m s ((I2, oI2) :: (I, oI) :: (C, oC) :: (D, lst []) :: news)) E' { s with heap := h, toks := tk }
noncomputable def Src2 (prog : Program) (w : World) (A : Around) (h₀ : Heap) (L : Addr) (m : Str → Option Value) (env : Env) (ct : PySem.Expr) (x2 : Str) (scope : Scope) (cl : List (Str × Addr)) (Q : Value → Shared → Prop) (xv : Value) (s₁ : Shared) : Prop :=
  ∃ ax its news G, xv = .ref ax ∧ A.handled = none ∧ Fr h₀ L s₁.heap m ∧ News h₀ L s₁.heap news ∧ SrcAt h₀ ax its news ∧
    (∀ (i : Nat) (v : Value), its[i]? = some v → ∃ (a : Addr) (xs : Array Value), v = .ref a ∧ SrcAt h₀ a xs news ∧ ∀ (j : Nat) (y : Value), xs[j]? = some y → G y) ∧
    TestOff prog w A h₀ L m env ct x2 scope cl news G s₁ ∧ ∀ D h tk, Fr h₀ L h m → News h₀ L h ((D, lst []) :: news) → (∀ p ∈ news, p.1 ≠ D) → Q (.ref D) { s₁ with heap := h, toks := tk }
theorem ListComp_2 {ct elt iter : PySem.Expr} {x x2 : Str} {px px2 pq : Pos} {scope : Scope} {cl : List (Str × Addr)} {pos : Pos} {Q : Value → Shared → Prop} (_F₀ : Fr h₀ L s.heap m)
    (hclos : closureFor scope env = pure cl) (hcell : ∀ y ∈ scope.names, y.2 ≠ .cell) (hkind : scope.kind = .function)
    (hnames : ∀ y ∈ scope.names, y.2 = .local → scope.names.lookup y.1 = some .local) (hx : scope.names.lookup x = some .local) (hx2 : scope.names.lookup x2 = some .local) (hdbg : (x == ("__debug__" : Str)) = false)
    (h : wpAny (model prog w) A (eval iter env) (Src2 prog w A h₀ L m env ct x2 scope cl Q) E s)
    (hs : ∀ x, foldedSetIterable iter env x = pure x := by intro _; rfl) :
    wpAny (model prog w) A (eval (.ListComp elt [⟨.Name x px, iter, [], 0⟩, ⟨.Name x2 px2, .Name x pq, [ct], 0⟩] scope pos) env) Q E s := by
  refine comp_own (h₀ := h₀) (L := L) (m := m) hclos hcell hkind hnames (wpAny_mono h (fun xv s₁ h₁ => ?_) fun _ _ e => e) hs
  obtain ⟨ax, its, news, G, rfl, hh, F, N, S, hits, test, fin₀⟩ := h₁
  refine ground_list hh F N S fun I D C h₁ tk m₁ R g axI axD axC st F₁ n₁ N₁ fin => ?_
  have W := Walks.list (prog := prog) (w := w) (A := A) hh I ax axI its
  have offC : ∀ b ∈ [I, ax], b ≠ C := fun b hb => by
    rcases List.mem_cons.mp hb with rfl | hb
    · exact g.ic
    · exact List.mem_singleton.mp hb ▸ axC
  refine loop2_0
    (fun k s' => ∃ h' tk i m', s' = { s₁ with heap := h', toks := tk } ∧ i ≤ its.size ∧ k = its.size + 1 - i ∧ (h'.IsListIter I ax i ∧ h'.IsList ax its) ∧ Fr h₀ L h' m ∧ h'.Ns C m' ∧ News h₀ L h' ((D, lst []) :: news))
    ?_ (its.size + 1) ⟨h₁, tk, 0, m₁, rfl, Nat.zero_le _, rfl, st, F₁, n₁, N₁⟩
  rintro k s' ⟨h', tk', i, m', rfl, hi, rfl, st', F', n', N'⟩
  rcases Nat.lt_or_eq_of_le hi with hlt | rfl
  · refine W.item i _ _ _ hlt st' fun v h₂ tk₂ hPv st₂ hk₂ => ?_
    obtain ⟨a, xs, rfl, hSa, hG⟩ := hits i v hPv
    obtain ⟨F₂, n₂, N₂⟩ := g.draw F' n' N' hk₂
    refine comp_name hkind hx g F₂ n₂ N₂ fun h₃ tk₃ F₃ n₃ N₃ k₃ => ?_
    have st₃ := W.frame _ _ _ st₂ fun b hb o e => k₃ b o (offC b hb) e
    obtain ⟨oI, eI, rI⟩ := st₃.1
    obtain ⟨oC, eC, hC⟩ := ns_obj n₃
    refine LCgL.ld_own (List.forall_mem_cons.mpr ⟨⟨eC, g.cl, g.c0⟩, N₃⟩) (List.Mem.head _) hC (v := .ref a) (by simp) ?_ (by simp [compEnvC, relabel, hkind]) (lookup_relabel_local hx) hdbg
    have hla : h₃.IsList a xs := hSa.list F₃.keep fun p hp => N₃ p (List.mem_cons_of_mem _ hp)
    refine wpAny_pyIter_list hla ?_
    dsimp only
    obtain ⟨J, hJ⟩ : ∃ J, J = h₃.objs.size := ⟨_, rfl⟩
    have jn : ∀ {b o}, h₃.get? b = some o → b ≠ J := fun e => hJ ▸ Nat.ne_of_lt (Heap.lt_size e)
    have g₂ : Gd h₀ L J D C ((I, oI) :: news) :=
      { g with
        li := hJ ▸ Nat.ne_of_lt F₃.ns.lt
        i0 := hJ ▸ next_is_new F₃
        id := Ne.symm (jn (N₃ (D, lst []) (List.Mem.head _)).1)
        ic := Ne.symm (jn eC)
        off := List.forall_mem_cons.mpr ⟨⟨jn eI, g.ic, g.id⟩, fun p hp => ⟨jn (N₃ p (List.mem_cons_of_mem _ hp)).1, (g.off p hp).2⟩⟩ }
    have aJ : a ≠ J := by obtain ⟨o, e, _⟩ := hla; exact jn e
    have W₂ := Walks.list (prog := prog) (w := w) (A := A) hh J a aJ xs
    have led : ∀ h : Heap, News h₀ L h ((D, lst []) :: news) → h.get? I = some oI → News h₀ L h ((D, lst []) :: (I, oI) :: news) := fun h N e =>
      List.forall_mem_cons.mpr ⟨N _ (List.Mem.head _), List.forall_mem_cons.mpr ⟨⟨e, Ne.symm g.li, g.i0⟩, fun p hp => N p (List.mem_cons_of_mem _ hp)⟩⟩
    have back : ∀ h : Heap, Fr h₀ L h m → News h₀ L h ((D, lst []) :: (I, oI) :: news) → (h.IsListIter I ax (i + 1) ∧ h.IsList ax its) ∧ News h₀ L h ((D, lst []) :: news) := fun h F N =>
      have z : News h₀ L h news := fun p hp => N p (List.mem_cons_of_mem _ (List.mem_cons_of_mem _ hp))
      ⟨⟨⟨oI, (N (I, oI) (List.mem_cons_of_mem _ (List.Mem.head _))).1, rI⟩, S.list F.keep z⟩, List.forall_mem_cons.mpr ⟨N _ (List.Mem.head _), z⟩⟩
    obtain ⟨h₄, e₄⟩ : ∃ h₄, h₄ = h₃.push { cls := .type "list_iterator", data := .fields #[.ref a, .int 0 0] } := ⟨_, rfl⟩
    have up : ∀ b o, h₃.get? b = some o → h₄.get? b = some o := fun b o e => e₄ ▸ Heap.get?_push_of_some _ e
    have st₄ : h₄.IsListIter J a 0 ∧ h₄.IsList a xs := ⟨⟨_, by rw [e₄, hJ]; exact Heap.get?_push_size _ rfl, rfl, rfl⟩, hla.at fun o e => up _ o e⟩
    rw [← e₄, ← hJ]
    have inner : codeAny (model prog w) A (.compLoop (.ListComp elt [⟨.Name x px, iter, [], 0⟩, ⟨.Name x2 px2, .Name x pq, [ct], 0⟩] scope pos) 1 (.ref J) (.ref D) (compEnvC scope cl C env))
        (fun r s₅ => match r with
          | .ok _ => ∃ k, k < its.size + 1 - i ∧ ∃ h' tk i m', s₅ = { s₁ with heap := h', toks := tk } ∧ i ≤ its.size ∧ k = its.size + 1 - i ∧ (h'.IsListIter I ax i ∧ h'.IsList ax its) ∧ Fr h₀ L h' m ∧ h'.Ns C m' ∧ News h₀ L h' ((D, lst []) :: news)
          | .error _ => False) { s₁ with heap := h₄, toks := tk₃ } := by
      refine loop2_1
        (fun k s' => ∃ h' tk j m', s' = { s₁ with heap := h', toks := tk } ∧ j ≤ xs.size ∧ k = xs.size + 1 - j ∧ (h'.IsListIter J a j ∧ h'.IsList a xs) ∧ Fr h₀ L h' m ∧ h'.Ns C m' ∧ News h₀ L h' ((D, lst []) :: (I, oI) :: news))
        ?_ (xs.size + 1) ⟨h₄, tk₃, 0, _, rfl, Nat.zero_le _, rfl, st₄, F₃.keeps up, n₃.at' fun o e => up _ o e, (led h₃ N₃ eI).grown up⟩
      rintro k s' ⟨h', tk', j, m', rfl, hj, rfl, st', F', n', N'⟩
      rcases Nat.lt_or_eq_of_le hj with hlt₂ | rfl
      · refine W₂.item j _ _ _ hlt₂ st' fun y h₅ tk₅ hPy st₅ hk₅ => ?_
        obtain ⟨F₅, n₅, N₅⟩ := g₂.draw F' n' N' hk₅
        refine comp_name hkind hx2 g₂ F₅ n₅ N₅ fun h₆ tk₆ F₆ n₆ N₆ k₆ => wpAny_tests_one ?_
        obtain ⟨oJ, eJ, rJ⟩ := st₅.1
        obtain ⟨oC', eC', hC'⟩ := ns_obj n₆
        have all : News h₀ L h₆ ((J, oJ) :: (I, oI) :: (C, oC') :: (D, lst []) :: news) :=
          List.forall_mem_cons.mpr ⟨⟨k₆ _ _ g₂.ic eJ, Ne.symm g₂.li, g₂.i0⟩, List.forall_mem_cons.mpr ⟨N₆ _ (List.mem_cons_of_mem _ (List.Mem.head _)), List.forall_mem_cons.mpr ⟨⟨eC', g.cl, g.c0⟩, (back h₆ F₆ N₆).2⟩⟩⟩
        refine wpAny_mono (test y (hG j y hPy) I oI J oJ C oC' D _ h₆ _ _ hC' (by simp) F₆ all) (fun ok s₇ h₇ => ?_) fun _ _ e => e
        obtain ⟨rfl, h₇, tk₇, rfl, F₇, N₇⟩ := h₇
        have M₇ : News h₀ L h₇ ((D, lst []) :: news) := fun p hp => N₇ p (List.mem_cons_of_mem _ (List.mem_cons_of_mem _ (List.mem_cons_of_mem _ hp)))
        exact ⟨rfl, xs.size + 1 - (j + 1), by omega, h₇, tk₇, j + 1, _, rfl, hlt₂, rfl, ⟨⟨oJ, (N₇ (J, oJ) (List.Mem.head _)).1, rJ⟩, hSa.list F₇.keep fun p hp => M₇ p (List.mem_cons_of_mem _ hp)⟩, F₇,
          hC'.ns (N₇ (C, oC') (by simp)).1, led h₇ M₇ (N₇ (I, oI) (by simp)).1⟩
      · refine W₂.done _ _ _ st' fun h₅ tk₅ hk₅ => ?_
        obtain ⟨F₅, n₅, N₅⟩ := g₂.draw F' n' N' hk₅
        exact ⟨its.size + 1 - (i + 1), by omega, h₅, tk₅, i + 1, m', rfl, hlt, rfl, (back h₅ F₅ N₅).1, F₅, n₅, (back h₅ F₅ N₅).2⟩
    exact start2_1 inner (W₂.self 0 _ _ _ st₄ inner)
  · refine W.done _ _ _ st' fun h₂ tk₂ hk₂ => ?_
    obtain ⟨F₂, n₂, N₂⟩ := g.draw F' n' N' hk₂
    exact fin h₂ tk₂ m' [] news g F₂ n₂ N₂ fun h₃ F₃ N₃ => fin₀ D h₃ tk₂ F₃ N₃ fun p hp => (g.off p hp).2.2
theorem Src2.intro {ct : PySem.Expr} {x2 : Str} {scope : Scope} {cl : List (Str × Addr)} {Q : Value → Shared → Prop} {ax : Addr} {o : Obj} {its : Array Value} {n : Nat} {news : List (Addr × Obj)} (G : Value → Prop) (hh : A.handled = none) (F : Fr h₀ L s.heap m) (N : News h₀ L s.heap news)
    (hm : (ax, o) ∈ news) (hc : o.cls = .type "list") (hd : o.data = .seq its n)
    (hits : ∀ (i : Nat) (v : Value), its[i]? = some v → ∃ (a : Addr) (xs : Array Value), v = .ref a ∧ SrcAt h₀ a xs news ∧ ∀ (j : Nat) (y : Value), xs[j]? = some y → G y)
    (test : TestOff prog w A h₀ L m env ct x2 scope cl news G s) (fin : ∀ D h tk, Fr h₀ L h m → News h₀ L h ((D, lst []) :: news) → (∀ p ∈ news, p.1 ≠ D) → Q (.ref D) { s with heap := h, toks := tk }) :
    Src2 prog w A h₀ L m env ct x2 scope cl Q (.ref ax) s := ⟨ax, its, news, G, rfl, hh, F, N, .inr ⟨o, hm, hc, n, hd⟩, hits, test, fin⟩
end
end
section
open PySem PySem.W PyProof.Rows PySem.Calls PySem.Spec
open PyProof.Rows.LCg
section
variable {prog : Program} {w : World} {A : Around} {E : Value → Shared → Prop} {h₀ : Heap} {L : Addr} {m : Str → Option Value} {env : Env} {s : Shared}
noncomputable def SrcTup (h₀ : Heap) (ax : Addr) (its : Array Value) (news : List (Addr × Obj)) : Prop := ∃ o, (ax, o) ∈ news ∧ o.cls = .type "tuple" ∧ ∃ n, o.data = .seq its n
theorem SrcTup.tup {h : Heap} {ax : Addr} {its : Array Value} {news : List (Addr × Obj)} (x : SrcTup h₀ ax its news) (N : News h₀ L h news) : h.IsTuple ax its := by
  obtain ⟨o, hm, r⟩ := x
  exact ⟨o, (N _ hm).1, r⟩
theorem tup_st {ax I : Addr} {its : Array Value} : ∀ i (h h' : Heap) (o : Obj) (nw : List (Addr × Obj)), (h.IsTupleIter I ax i ∧ h.IsTuple ax its) → h.get? I = some o → h'.get? I = some o → (∀ b o, h₀.get? b = some o → h'.get? b = some o) → News h₀ L h' nw → SrcTup h₀ ax its nw → (h'.IsTupleIter I ax i ∧ h'.IsTuple ax its) :=
  fun i h h' o nw st e e' _ N S => ⟨by obtain ⟨o', q, r⟩ := st.1; rw [e] at q; cases q; exact ⟨o, e', r⟩, S.tup N⟩
noncomputable def SrcU (prog : Program) (w : World) (A : Around) (h₀ : Heap) (L : Addr) (m : Str → Option Value) (env : Env) (elt : PySem.Expr) (x : Str) (scope : Scope) (cl : List (Str × Addr)) (Fin : Shared → List Value → List (Addr × Obj) → Prop) (xv : Value) (s₁ : Shared) : Prop :=
  ∃ ax its news, xv = .ref ax ∧ A.handled = none ∧ Fr h₀ L s₁.heap m ∧ News h₀ L s₁.heap news ∧ SrcTup h₀ ax its news ∧ its.size ≤ sizeLine ∧
    ∀ s₂ : Shared, (∃ h, s₂ = { s₁ with heap := h }) → CompRest prog w A h₀ L m env elt x scope cl s₂ (SrcTup h₀ ax its) (fun i v => its[i]? = some v) (Fin s₂) its.size 0 [] news
theorem ListComp_Tu {elt iter : PySem.Expr} {x : Str} {px : Pos} {scope : Scope} {cl : List (Str × Addr)} {pos : Pos} {Q : Value → Shared → Prop} (_F₀ : Fr h₀ L s.heap m)
    (hclos : closureFor scope env = pure cl) (hcell : ∀ y ∈ scope.names, y.2 ≠ .cell) (hkind : scope.kind = .function)
    (hnames : ∀ y ∈ scope.names, y.2 = .local → scope.names.lookup y.1 = some .local) (hx : scope.names.lookup x = some .local)
    (h : wpAny (model prog w) A (eval iter env) (SrcU prog w A h₀ L m env elt x scope cl (fun s₂ => FinE h₀ L m s₂ Q)) E s)
    (hs : ∀ x, foldedSetIterable iter env x = pure x := by intro _; rfl) :
    wpAny (model prog w) A (eval (.ListComp elt [⟨.Name x px, iter, [], 0⟩] scope pos) env) Q E s := by
  rw [eval_ListComp]
  refine wpAny_comprehension_free (use := none) rfl hs hclos hkind hnames (wpAny_mono h (fun xv s₁ h₁ => ?_) fun _ _ e => e)
  obtain ⟨ax, its, news, rfl, hh, F, N, S, hsz, R⟩ := h₁
  have hl := S.tup N
  have hlt : ax < s₁.heap.objs.size := by obtain ⟨_, e, _⟩ := hl; exact Heap.lt_size e
  refine wpAny_pyIter_tuple hl ?_
  have up : ∀ b o, s₁.heap.get? b = some o → (s₁.heap.push { cls := .type "tuple_iterator", data := .fields #[.ref ax, .int 0 0] }).get? b = some o := fun b o e => Heap.get?_push_of_some _ e
  refine block_U (Walks.tuple hh s₁.heap.objs.size ax (Nat.ne_of_lt hlt) its) hsz (fun i h st => by obtain ⟨o, e, _⟩ := st.1; exact ⟨o, e⟩) tup_st hcell hkind hx ⟨⟨_, Heap.get?_push_size _ rfl, rfl, rfl⟩, hl.push _⟩ (fun b hb => ?_)
    (F.keeps up) (N.grown up) (Nat.ne_of_lt F.ns.lt) (next_is_new F) (fun p hp => Nat.ne_of_lt (Heap.lt_size (N p hp).1)) S (R _ ⟨_, rfl⟩) ?_
  · show b < (s₁.heap.push _).objs.size
    rw [Heap.size_push]
    rcases List.mem_cons.mp hb with rfl | hb
    · exact Nat.lt_succ_self _
    · rw [List.mem_singleton.mp hb]; exact Nat.lt_succ_of_lt hlt
  · intro D C h tk m' ys news' F' N' o1 hn hC₀ hD₀ hCL hDL hCD offC fin
    refine ⟨m', hn, fun h'' hs'' => fin D h'' tk (F'.change hs'' hCL hC₀) (fun p hp => ?_) o1⟩
    refine ⟨hs''.extBut _ _ ?_ (N' p hp).1, (N' p hp).2⟩
    rcases List.mem_cons.mp hp with rfl | hp
    · exact Ne.symm hCD
    · exact offC p hp
theorem tup_two {elt : PySem.Expr} {x : Str} {scope : Scope} {cl : List (Str × Addr)} {Fin : Shared → List Value → List (Addr × Obj) → Prop} {ax : Addr} {o : Obj} {v1 v2 : Value} {n : Nat} {news : List (Addr × Obj)} (R1 R2 : Addr × Obj → Prop) (hh : A.handled = none) (F : Fr h₀ L s.heap m) (N : News h₀ L s.heap news)
    (hm : (ax, o) ∈ news) (hc : o.cls = .type "tuple") (hd : o.data = .seq #[v1, v2] n)
    (turn1 : ∀ I oI C oC D m₂ h tk (E' : Value → Shared → Prop), NsObj oC m₂ → m₂ x = some v1 → (∀ p ∈ news, p.1 ≠ I ∧ p.1 ≠ C ∧ p.1 ≠ D) → Fr h₀ L h m → News h₀ L h ((I, oI) :: (C, oC) :: (D, lst []) :: news) →
      wpAny (model prog w) A (eval elt (compEnvC scope cl C env)) (EltEnd h₀ L m s [(I, oI), (C, oC), (D, lst [])] (fun y news' => ∃ q, y = .ref q.1 ∧ R1 q ∧ news' = q :: news)) E' { s with heap := h, toks := tk })
    (turn2 : ∀ q, R1 q → ∀ I oI C oC D m₂ h tk (E' : Value → Shared → Prop), NsObj oC m₂ → m₂ x = some v2 → (∀ p ∈ q :: news, p.1 ≠ I ∧ p.1 ≠ C ∧ p.1 ≠ D) → Fr h₀ L h m → News h₀ L h ((I, oI) :: (C, oC) :: (D, lst [.ref q.1]) :: q :: news) →
      wpAny (model prog w) A (eval elt (compEnvC scope cl C env)) (EltEnd h₀ L m s [(I, oI), (C, oC), (D, lst [.ref q.1])] (fun y news' => ∃ r, y = .ref r.1 ∧ R2 r ∧ news' = r :: q :: news)) E' { s with heap := h, toks := tk })
    (fin : ∀ g q r, R1 q → R2 r → Fin { s with heap := g } [.ref q.1, .ref r.1] (r :: q :: news)) : SrcU prog w A h₀ L m env elt x scope cl Fin (.ref ax) s := by
  have hS : SrcTup h₀ ax #[v1, v2] news := ⟨o, hm, hc, n, hd⟩
  refine ⟨ax, #[v1, v2], news, rfl, hh, F, N, hS, by rw [sizeLine_eq]; exact Nat.le_of_ble_eq_true rfl, ?_⟩
  rintro s₂ ⟨g, rfl⟩
  refine compInv (fun i ys news₁ => (i = 0 ∧ ys = [] ∧ news₁ = news) ∨ (i = 1 ∧ ∃ q, R1 q ∧ ys = [.ref q.1] ∧ news₁ = q :: news) ∨ (i = 2 ∧ ∃ q r, R1 q ∧ R2 r ∧ ys = [.ref q.1, .ref r.1] ∧ news₁ = r :: q :: news)) (.inl ⟨rfl, rfl, rfl⟩) ?_ ?_
  · rintro i v ys news₁ I oI C oC D m₂ h tk E' hin hv (⟨rfl, rfl, rfl⟩ | ⟨rfl, q, hq, rfl, rfl⟩ | ⟨rfl, _⟩) hC hx off F' N'
    · have e : v = v1 := by simpa using hv.symm
      subst e
      refine wpAny_mono (turn1 I oI C oC D m₂ h tk E' hC hx off F' N') (fun y s₃ z => ?_) fun _ _ e => e
      obtain ⟨h', tk', news', rfl, F₃, N₃, ho, q, rfl, hq, rfl⟩ := z
      exact ⟨h', tk', _, rfl, F₃, N₃, ho, ⟨o, List.Mem.tail _ hm, hc, n, hd⟩, .inr (.inl ⟨rfl, q, hq, rfl, rfl⟩)⟩
    · have e : v = v2 := by simpa using hv.symm
      subst e
      refine wpAny_mono (turn2 q hq I oI C oC D m₂ h tk E' hC hx off F' N') (fun y s₃ z => ?_) fun _ _ e => e
      obtain ⟨h', tk', news', rfl, F₃, N₃, ho, r, rfl, hr, rfl⟩ := z
      exact ⟨h', tk', _, rfl, F₃, N₃, ho, ⟨o, List.Mem.tail _ (List.Mem.tail _ hm), hc, n, hd⟩, .inr (.inr ⟨rfl, q, r, hq, hr, rfl, rfl⟩)⟩
    · exact absurd hin (by simp)
  · rintro ys news' (⟨h, _⟩ | ⟨h, _⟩ | ⟨_, q, r, hq, hr, rfl, rfl⟩)
    · exact absurd h (by simp)
    · exact absurd h (by simp)
    · exact fin g q r hq hr
end
end
section
open PySem PySem.W PyProof.Rows PySem.Calls PySem.Spec
noncomputable def cof (k i : Int) : Int := if i < k then 0 else facAt k (i - k).toNat
theorem sumBy_len (sel : Trip → Int) : ∀ (cs : List Trip) (l : List Int), (sumBy sel l cs).length = l.length
  | [], _ => rfl
  | c :: cs, l => by
    show (sumBy sel _ cs).length = _
    rw [sumBy_len sel cs, List.length_set]
theorem getD_set_eq (l : List Int) (j i : Nat) (v : Int) (hj : j < l.length) : (l.set j v).getD i 0 = if i = j then v else l.getD i 0 := by
  rw [List.getD_eq_getElem?_getD, List.getD_eq_getElem?_getD, List.getElem?_set]
  by_cases h : j = i
  · subst h; simp [hj]
  · simp [h, Ne.symm h]
theorem reachAt_set {l : List Int} {k : Int} (hk : 1 ≤ k) {j : Nat} (hj : j < l.length) (v : Int) : ∀ m : Nat,
    reachAt (l.set j (l.getD j 0 + v)) k m = reachAt l k m + (if k ≤ (j : Int) ∧ (j : Int) < k + (m : Int) then facAt k ((j : Int) - k).toNat * v else 0)
  | 0 => by simp [reachAt]; omega
  | m + 1 => by
    rw [reachAt, reachAt, reachAt_set hk hj v m, getD_set_eq _ _ _ _ hj]
    by_cases h : (k + (m : Int)).toNat = j
    · have e1 : ((j : Int) - k).toNat = m := by omega
      have e2 : ¬ (k ≤ (j : Int) ∧ (j : Int) < k + (m : Int)) := by omega
      have e3 : k ≤ (j : Int) ∧ (j : Int) < k + ((m + 1 : Nat) : Int) := by omega
      rw [if_pos h, if_neg e2, if_pos e3, e1, h, Int.mul_add]; omega
    · rw [if_neg h]
      by_cases h2 : k ≤ (j : Int) ∧ (j : Int) < k + (m : Int)
      · rw [if_pos h2, if_pos (by omega)]; omega
      · rw [if_neg h2, if_neg (by omega)]; omega
theorem reached_sumBy (sel : Trip → Int) {n : Nat} {k : Int} (hk : 1 ≤ k) : ∀ (cs : List Trip) (l : List Int), l.length = n + 1 → (∀ c ∈ cs, 0 ≤ c.1 ∧ c.1 ≤ (n : Int)) →
    reachedF (sumBy sel l cs) k = reachedF l k + (cs.map fun c => cof k c.1 * sel c).sum
  | [], l, _, _ => by simp [sumBy]
  | c :: cs, l, hl, hc => by
    have h1 := hc c List.mem_cons_self
    show reachedF (sumBy sel _ cs) k = _
    rw [reached_sumBy sel hk cs _ (by rw [List.length_set]; exact hl) fun d hd => hc d (List.mem_cons_of_mem _ hd), List.map_cons, List.sum_cons]
    unfold reachedF
    rw [List.length_set, reachAt_set hk (by omega)]
    have e : ((c.1.toNat : Nat) : Int) = c.1 := by omega
    rw [e]
    unfold cof
    by_cases h : c.1 < k
    · rw [if_neg (by omega), if_pos h]; omega
    · rw [if_pos (by omega), if_neg h]; omega
theorem reachAt_zero (n : Nat) (k : Int) : ∀ m, reachAt (List.replicate n 0) k m = 0
  | 0 => rfl
  | m + 1 => by
    rw [reachAt, reachAt_zero n k m]
    have : (List.replicate n (0 : Int)).getD (k + (m : Int)).toNat 0 = 0 := by
      rw [List.getD_eq_getElem?_getD, List.getElem?_replicate]; split <;> rfl
    rw [this]; omega
theorem choices_size : ∀ (ns : List Int) (n : Nat) (cs : List Trip), (∀ c ∈ cs, 0 ≤ c.1 ∧ c.1 + (ns.length : Int) ≤ n) → ∀ c ∈ ns.foldl growT cs, 0 ≤ c.1 ∧ c.1 ≤ (n : Int)
  | [], n, cs, h, c, hc => by have := h c hc; simp at this; exact this
  | v :: ns, n, cs, h, c, hc => by
    refine choices_size ns n (growT cs v) (fun d hd => ?_) c hc
    rcases List.mem_append.mp hd with hd | hd
    · have := h d hd; rw [List.length_cons] at this; omega
    · obtain ⟨e, he, rfl⟩ := List.mem_map.mp hd
      have := h e he; rw [List.length_cons] at this
      show 0 ≤ e.1 + 1 ∧ e.1 + 1 + _ ≤ _
      omega
noncomputable def subS (F : Int → Int → Int) (op : Int → Int → Int) : List Int → Int → Int → Int
  | [], s, l => F s l
  | v :: ns, s, l => subS F op ns s l + subS F op ns (s + 1) (op l v)
theorem choices_sum (F op : Int → Int → Int) (sel : Trip → Int) (hop : ∀ v c, sel (stepT v c) = op (sel c) v) : ∀ (ns : List Int) (cs : List Trip),
    ((ns.foldl growT cs).map fun c => F c.1 (sel c)).sum = (cs.map fun c => subS F op ns c.1 (sel c)).sum
  | [], cs => rfl
  | v :: ns, cs => by
    show ((ns.foldl growT (growT cs v)).map _).sum = _
    rw [choices_sum F op sel hop ns (growT cs v)]
    unfold growT
    rw [List.map_append, List.sum_append, List.map_map]
    have key : ∀ (g h : Trip → Int) (f : Trip → Int), (∀ c, f c = g c + h c) → ∀ cs : List Trip, (cs.map g).sum + (cs.map h).sum = (cs.map f).sum := by
      intro g h f hf cs
      induction cs with
      | nil => rfl
      | cons c cs ih => simp only [List.map_cons, List.sum_cons, hf]; omega
    refine key _ _ _ (fun c => ?_) cs
    show _ = _ + (fun c => _) (stepT v c)
    simp only [subS, hop, Function.comp]
    rfl
noncomputable def mn (l v : Int) : Int := if v < l then v else l
noncomputable def cofF (k s l : Int) : Int := cof k s * l
theorem reached_least {ns : List Int} {top k : Int} (hk : 1 ≤ k) : reachedF (byLeast ns top) k = subS (cofF k) mn ns 0 top := by
  unfold byLeast choicesT
  rw [reached_sumBy _ hk _ _ (by rw [List.length_replicate]) (choices_size ns ns.length _ (by simp)), show (fun c : Trip => cof k c.1 * c.2.2) = (fun c : Trip => cofF k c.1 c.2.2) from rfl, choices_sum (cofF k) mn (fun c => c.2.2) (fun v c => rfl)]
  unfold reachedF
  rw [reachAt_zero]
  simp
theorem reached_and {ns : List Int} {top k : Int} (hk : 1 ≤ k) : reachedF (byAnd ns top) k = subS (cofF k) Builtin.bitAnd ns 0 top := by
  unfold byAnd choicesT
  rw [reached_sumBy _ hk _ _ (by rw [List.length_replicate]) (choices_size ns ns.length _ (by simp)), show (fun c : Trip => cof k c.1 * c.2.1) = (fun c : Trip => cofF k c.1 c.2.1) from rfl, choices_sum (cofF k) Builtin.bitAnd (fun c => c.2.1) (fun v c => rfl)]
  unfold reachedF
  rw [reachAt_zero]
  simp
theorem mn_comm (l a b : Int) : mn (mn l a) b = mn (mn l b) a := by unfold mn; (repeat' split) <;> omega
theorem subS_perm {F op : Int → Int → Int} (hop : ∀ l a b, op (op l a) b = op (op l b) a) {xs ys : List Int} (h : xs.Perm ys) : ∀ s l, subS F op xs s l = subS F op ys s l := by
  induction h with
  | nil => intro _ _; rfl
  | cons a _ ih => intro s l; simp only [subS, ih]
  | swap a b xs => intro s l; simp only [subS, hop l a b]; omega
  | trans _ _ ih1 ih2 => intro s l; rw [ih1, ih2]
noncomputable def binS (F : Int → Int → Int) : Nat → Int → Int → Int
  | 0, s, l => F s l
  | n + 1, s, l => binS F n s l + binS F n (s + 1) l
theorem subS_low {F : Int → Int → Int} : ∀ (xs : List Int) (s l : Int), (∀ x ∈ xs, l ≤ x) → subS F mn xs s l = binS F xs.length s l
  | [], _, _, _ => rfl
  | x :: xs, s, l, h => by
    have h1 : mn l x = l := by have := h x List.mem_cons_self; unfold mn; split <;> omega
    have h2 := fun y hy => h y (List.mem_cons_of_mem x hy)
    show subS F mn xs s l + subS F mn xs (s + 1) (mn l x) = binS F xs.length s l + binS F xs.length (s + 1) l
    rw [h1, subS_low xs s l h2, subS_low xs (s + 1) l h2]
theorem subS_head {F : Int → Int → Int} {x : Int} {xs : List Int} {s l : Int} (h : ∀ y ∈ xs, x ≤ y) (hl : x ≤ l) : subS F mn (x :: xs) s l = subS F mn xs s l + binS F xs.length (s + 1) x := by
  have h1 : mn l x = x := by unfold mn; split <;> omega
  show _ + subS F mn xs (s + 1) (mn l x) = _
  rw [h1, subS_low xs _ _ h]
theorem binS_mul (k : Int) : ∀ (m : Nat) (s x : Int), binS (cofF k) m s x = binS (fun s _ => cof k s) m s 0 * x
  | 0, s, x => rfl
  | m + 1, s, x => by
    show binS (cofF k) m s x + binS (cofF k) m (s + 1) x = (binS (fun s _ => cof k s) m s 0 + binS (fun s _ => cof k s) m (s + 1) 0) * x
    rw [binS_mul k m, binS_mul k m, Int.add_mul]
theorem beta_tab : ∀ k : Nat, k < 5 → ∀ m : Nat, m < 5 → binS (fun s _ => cof ((k + 1 : Nat) : Int) s) m 1 0 = if m = k then 1 else 0 := by decide
theorem cof_zero : ∀ k : Nat, k < 5 → cof ((k + 1 : Nat) : Int) 0 = 0 := by decide
noncomputable def valK (k : Nat) : List Int → Int
  | [] => 0
  | x :: xs => (if xs.length = k then x else 0) + valK k xs
theorem subS_val {k : Nat} (hk : k < 5) {top : Int} : ∀ l : List Int, l.Pairwise (· ≤ ·) → (∀ x ∈ l, x ≤ top) → l.length ≤ 5 → subS (cofF ((k + 1 : Nat) : Int)) mn l 0 top = valK k l
  | [], _, _, _ => by
    show cof ((k + 1 : Nat) : Int) 0 * top = 0
    rw [cof_zero k hk, Int.zero_mul]
  | x :: xs, hs, ht, hl => by
    have hs' := List.pairwise_cons.mp hs
    rw [List.length_cons] at hl
    rw [subS_head hs'.1 (ht x List.mem_cons_self), subS_val hk xs hs'.2 (fun y hy => ht y (List.mem_cons_of_mem _ hy)) (Nat.le_of_succ_le hl), binS_mul, show (0 : Int) + 1 = 1 from rfl, beta_tab k hk xs.length hl, valK]
    split
    · rw [Int.one_mul, Int.add_comm]
    · rw [Int.zero_mul, Int.add_comm]
theorem valK_high {k : Nat} : ∀ l : List Int, l.length ≤ k → valK k l = 0
  | [], _ => rfl
  | x :: xs, h => by
    have h' : xs.length < k := h
    rw [valK, if_neg (Nat.ne_of_lt h'), valK_high xs (Nat.le_of_lt h'), Int.zero_add]
theorem valK_getD {k : Nat} : ∀ (l : List Int) (idx : Nat), idx + k + 1 = l.length → valK k l = l.getD idx 0
  | [], idx, h => nomatch h
  | x :: xs, 0, h => by
    have h' : xs.length = k := by rw [List.length_cons] at h; omega
    rw [valK, if_pos h', valK_high xs (Nat.le_of_eq h')]
    exact Int.add_zero x
  | x :: xs, idx + 1, h => by
    have h' : idx + k + 1 = xs.length := by rw [List.length_cons] at h; omega
    rw [valK, if_neg (by omega), valK_getD xs idx h', Int.zero_add]; rfl
theorem kth {xs xs' : List Int} {top : Int} (hp : xs'.Perm xs) (hs : xs'.Pairwise (· ≤ ·)) (_h3 : 3 ≤ xs.length) (h5 : xs.length ≤ 5) (ht : ∀ x ∈ xs, x ≤ top) {idx k : Nat} (hk : idx + k = xs.length) (h1 : 1 ≤ k) :
    reachedF (byLeast xs top) (k : Int) = xs'.getD idx 0 := by
  obtain ⟨k, rfl⟩ : ∃ k', k = k' + 1 := ⟨k - 1, by omega⟩
  rw [reached_least (by omega), ← subS_perm mn_comm hp]
  rw [← hp.length_eq] at h5 hk
  rw [subS_val (by omega) xs' hs (fun x hx => ht x (hp.mem_iff.mp hx)) h5, valK_getD xs' idx hk]
end
section
open PySem PySem.W PyProof.Rows PySem.Calls PySem.Spec
noncomputable def subN (F : Int → Int → Int) (op : Nat → Nat → Nat) : List Nat → Int → Nat → Int
  | [], s, l => F s (l : Int)
  | v :: ns, s, l => subN F op ns s l + subN F op ns (s + 1) (op l v)
theorem band_nat (a b : Nat) : Builtin.bitAnd (a : Int) (b : Int) = ((a &&& b : Nat) : Int) := by
  unfold Builtin.bitAnd
  simp
theorem subS_and (F : Int → Int → Int) : ∀ (ns : List Nat) (s : Int) (l : Nat), subS F Builtin.bitAnd (ns.map fun n : Nat => (n : Int)) s (l : Int) = subN F (· &&& ·) ns s l
  | [], _, _ => rfl
  | v :: ns, s, l => by
    simp only [List.map_cons, subS, subN, band_nat]
    rw [subS_and F ns, subS_and F ns]
theorem subS_mn (F : Int → Int → Int) : ∀ (ns : List Nat) (s : Int) (l : Nat), subS F mn (ns.map fun n : Nat => (n : Int)) s (l : Int) = subN F min ns s l
  | [], _, _ => rfl
  | v :: ns, s, l => by
    have e : mn (l : Int) (v : Int) = ((min l v : Nat) : Int) := by unfold mn; split <;> omega
    simp only [List.map_cons, subS, subN, e]
    rw [subS_mn F ns, subS_mn F ns]
theorem land_split (c d x y w : Nat) (hx : x < 2 ^ w) (hy : y < 2 ^ w) : (c * 2 ^ w + x) &&& (d * 2 ^ w + y) = (c &&& d) * 2 ^ w + (x &&& y) := by
  apply Nat.eq_of_testBit_eq
  intro i
  rw [Nat.testBit_and, Nat.mul_comm c, Nat.mul_comm d, Nat.mul_comm (c &&& d), Nat.testBit_two_pow_mul_add _ hx, Nat.testBit_two_pow_mul_add _ hy, Nat.testBit_two_pow_mul_add _ (Nat.and_lt_two_pow _ hy)]
  split <;> simp [Nat.testBit_and]
theorem subN_split {α : Type} {k : Int} {w : Nat} (f g : α → Nat) : ∀ (ps : List α) (s : Int) (T t : Nat), (∀ p ∈ ps, g p < 2 ^ w) → t < 2 ^ w →
    subN (cofF k) (· &&& ·) (ps.map fun p => f p * 2 ^ w + g p) s (T * 2 ^ w + t) = subN (cofF k) (· &&& ·) (ps.map f) s T * 2 ^ w + subN (cofF k) (· &&& ·) (ps.map g) s t
  | [], s, T, t, _, _ => by
    simp only [List.map_nil, subN, cofF, Int.natCast_add, Int.natCast_mul, Int.mul_add, Int.natCast_pow]
    rw [Int.mul_assoc]; rfl
  | p :: ps, s, T, t, hp, ht => by
    have h1 := hp p List.mem_cons_self
    have h2 := fun q hq => hp q (List.mem_cons_of_mem p hq)
    simp only [List.map_cons, subN]
    rw [land_split _ _ _ _ _ ht h1, subN_split f g ps s T t h2 ht, subN_split f g ps (s + 1) _ _ h2 (Nat.and_lt_two_pow _ h1), Int.add_mul]
    omega
theorem land_unary (u v : Nat) : (2 ^ u - 1) &&& (2 ^ v - 1) = 2 ^ (min u v) - 1 := by
  apply Nat.eq_of_testBit_eq
  intro i
  rw [Nat.testBit_and, Nat.testBit_two_pow_sub_one, Nat.testBit_two_pow_sub_one, Nat.testBit_two_pow_sub_one]
  by_cases h1 : i < u <;> by_cases h2 : i < v <;> simp [h1, h2] <;> omega
theorem min_unary (u v : Nat) : min (2 ^ u - 1) (2 ^ v - 1) = 2 ^ (min u v) - 1 := by
  rcases Nat.le_total u v with h | h
  · have := Nat.pow_le_pow_right (n := 2) (by decide) h
    rw [Nat.min_eq_left h]; omega
  · have := Nat.pow_le_pow_right (n := 2) (by decide) h
    rw [Nat.min_eq_right h]; omega
theorem subN_unary (F : Int → Int → Int) : ∀ (us : List Nat) (s : Int) (v : Nat), subN F (· &&& ·) (us.map fun u => 2 ^ u - 1) s (2 ^ v - 1) = subN F min (us.map fun u => 2 ^ u - 1) s (2 ^ v - 1)
  | [], _, _ => rfl
  | u :: us, s, v => by
    simp only [List.map_cons, subN, land_unary, min_unary]
    rw [subN_unary F us, subN_unary F us]
noncomputable def KthAt (l : List Nat) (idx u : Nat) : Prop := ∃ l', List.Perm l' l ∧ l'.Pairwise (· ≤ ·) ∧ u = l'.getD idx 0
theorem unary_kth {us : List Nat} {idx k u w : Nat} (h : KthAt us idx u) (h3 : 3 ≤ us.length) (h5 : us.length ≤ 5) (hw : ∀ x ∈ us, x ≤ w) (hk : idx + k = us.length) (h1 : 1 ≤ k) :
    subN (cofF (k : Int)) (· &&& ·) (us.map fun u => 2 ^ u - 1) 0 (2 ^ w - 1) = ((2 ^ u - 1 : Nat) : Int) := by
  obtain ⟨l', hp, hs, rfl⟩ := h
  rw [subN_unary, ← subS_mn, ← reached_least (by omega), List.map_map]
  rw [kth (xs' := l'.map ((fun n : Nat => (n : Int)) ∘ fun u => 2 ^ u - 1)) (hp.map _) ?_ (by simpa using h3) (by simpa using h5) ?_ (by simpa using hk) h1]
  · have hi : idx < l'.length := by rw [hp.length_eq]; omega
    rw [List.getD_eq_getElem?_getD, List.getD_eq_getElem?_getD, List.getElem?_map, List.getElem?_eq_getElem hi]
    rfl
  · rw [List.pairwise_map]
    refine hs.imp fun {a b} hab => ?_
    have := Nat.pow_le_pow_right (n := 2) (by decide) hab
    simp only [Function.comp]
    omega
  · intro x hx
    obtain ⟨u, hu, rfl⟩ := List.mem_map.mp hx
    have := Nat.pow_le_pow_right (n := 2) (by decide) (hw u hu)
    simp only [Function.comp]
    omega
noncomputable def enc : List (Nat × List Nat) → Nat → List Nat → Nat
  | (w, _) :: sp, c, u :: us => enc sp (c * 2 ^ w + (2 ^ u - 1)) us
  | _, c, _ => c
noncomputable def encI : List (Nat × List Nat) → Int → List Nat → Int
  | (w, _) :: sp, c, u :: us => encI sp (c * 2 ^ w + ((2 ^ u - 1 : Nat) : Int)) us
  | _, c, _ => c
theorem encI_nat : ∀ (sp : List (Nat × List Nat)) (c : Nat) (us : List Nat), encI sp (c : Int) us = ((enc sp c us : Nat) : Int)
  | [], _, _ => by simp [encI, enc]
  | _ :: _, _, [] => by simp [encI, enc]
  | (w, a) :: sp, c, u :: us => by
    simp only [encI, enc]
    rw [← encI_nat sp]
    simp only [Int.natCast_add, Int.natCast_mul, Int.natCast_pow]
    rfl
noncomputable def topOf : List (Nat × List Nat) → Nat → Nat
  | [], c => c
  | (w, _) :: sp, c => topOf sp (c * 2 ^ w + (2 ^ w - 1))
noncomputable def okU : List (Nat × List Nat) → List Nat → Prop
  | [], us => us = []
  | p :: sp, us => ∃ u r, us = u :: r ∧ u ≤ p.1 ∧ okU sp r
noncomputable def colsOK (idx : Nat) : List (List Nat) → List Nat → Prop
  | _, [] => True
  | uss, u :: us => KthAt (uss.map fun l => l.headD 0) idx u ∧ colsOK idx (uss.map List.tail) us
theorem and_fields {idx k : Nat} (h1 : 1 ≤ k) : ∀ (sp : List (Nat × List Nat)) (ps : List (Nat × List Nat)) (T : Nat) (us : List Nat), 3 ≤ ps.length → ps.length ≤ 5 → idx + k = ps.length →
    (∀ p ∈ ps, okU sp p.2) → us.length = sp.length → colsOK idx (ps.map (·.2)) us →
    subN (cofF (k : Int)) (· &&& ·) (ps.map fun p => enc sp p.1 p.2) 0 (topOf sp T) = encI sp (subN (cofF (k : Int)) (· &&& ·) (ps.map (·.1)) 0 T) us
  | [], ps, T, us, _, _, _, _, hl, _ => by
    simp only [enc, topOf, encI]
  | (w, a) :: sp, ps, T, [], _, _, _, _, hl, _ => by simp at hl
  | (w, a) :: sp, ps, T, u :: us, h3, h5, hk, ho, hl, hc => by
    obtain ⟨hc1, hc2⟩ := hc
    have key := and_fields h1 sp (ps.map fun p => (p.1 * 2 ^ w + (2 ^ (p.2.headD 0) - 1), p.2.tail)) (T * 2 ^ w + (2 ^ w - 1)) us (by simpa using h3) (by simpa using h5) (by simpa using hk) (fun p hp => by
      obtain ⟨q, hq, rfl⟩ := List.mem_map.mp hp
      obtain ⟨v, r, e, _, hr⟩ := ho q hq
      show okU sp q.2.tail
      rw [e]; exact hr) (by simpa using hl) (by
      rw [List.map_map] at hc2 ⊢
      exact hc2)
    simp only [topOf, encI]
    rw [List.map_map] at key
    have e : (ps.map fun p => enc ((w, a) :: sp) p.1 p.2) = ps.map ((fun p : Nat × List Nat => enc sp p.1 p.2) ∘ fun p => (p.1 * 2 ^ w + (2 ^ (p.2.headD 0) - 1), p.2.tail)) := List.map_congr_left fun p hp => by
      obtain ⟨v, r, e, _, _⟩ := ho p hp
      simp only [Function.comp, e, enc, List.headD_cons, List.tail_cons]
    have hpos : 0 < 2 ^ w := Nat.pow_pos (by decide)
    have hle : ∀ p ∈ ps, p.2.headD 0 ≤ w := fun p hp => by
      obtain ⟨v, r, e, hv, _⟩ := ho p hp
      rw [e]; exact hv
    rw [e, key, List.map_map, show ((·.1) ∘ fun p : Nat × List Nat => (p.1 * 2 ^ w + (2 ^ (p.2.headD 0) - 1), p.2.tail)) = fun p : Nat × List Nat => p.1 * 2 ^ w + (2 ^ (p.2.headD 0) - 1) from rfl,
      subN_split (fun p : Nat × List Nat => p.1) (fun p : Nat × List Nat => 2 ^ (p.2.headD 0) - 1) ps 0 T (2 ^ w - 1) (fun p hp => by
        have := Nat.pow_le_pow_right (n := 2) (by decide) (hle p hp)
        omega) (by omega)]
    have hu := unary_kth (w := w) (k := k) hc1 (by simpa using h3) (by simpa using h5) (fun x hx => by
      rw [List.map_map] at hx
      obtain ⟨p, hp, rfl⟩ := List.mem_map.mp hx
      exact hle p hp) (by simpa using hk) h1
    rw [List.map_map, List.map_map] at hu
    have hu2 : subN (cofF (k : Int)) (· &&& ·) (ps.map fun p : Nat × List Nat => 2 ^ (p.2.headD 0) - 1) 0 (2 ^ w - 1) = ((2 ^ u - 1 : Nat) : Int) := hu
    rw [hu2]
theorem subN_zero {α : Type} {k : Int} : ∀ (ps : List α) (s : Int), subN (cofF k) (· &&& ·) (ps.map fun _ => 0) s 0 = 0
  | [], s => by simp [subN, cofF]
  | p :: ps, s => by
    simp only [List.map_cons, subN]
    rw [show (0 : Nat) &&& 0 = 0 from rfl, subN_zero ps s, subN_zero ps (s + 1)]; rfl
theorem and_rows {idx k : Nat} {sp : List (Nat × List Nat)} {uss : List (List Nat)} {us : List Nat} (h1 : 1 ≤ k) (h3 : 3 ≤ uss.length) (h5 : uss.length ≤ 5) (hk : idx + k = uss.length) (ho : ∀ l ∈ uss, okU sp l) (hl : us.length = sp.length) (hc : colsOK idx uss us) :
    reachedF (byAnd (uss.map fun l => ((enc sp 0 l : Nat) : Int)) ((topOf sp 0 : Nat) : Int)) (k : Int) = ((enc sp 0 us : Nat) : Int) := by
  have key := and_fields h1 sp (uss.map fun l => (0, l)) 0 us (by simpa using h3) (by simpa using h5) (by simpa using hk) (fun p hp => by
    obtain ⟨l, hl, rfl⟩ := List.mem_map.mp hp
    exact ho l hl) hl (by rw [List.map_map]; simpa [Function.comp_def] using hc)
  rw [List.map_map, List.map_map] at key
  rw [show ((fun p : Nat × List Nat => p.1) ∘ fun l : List Nat => ((0 : Nat), l)) = fun _ => 0 from rfl, subN_zero] at key
  rw [reached_and (by omega), ← encI_nat sp 0 us]
  refine Eq.trans ?_ key
  rw [← subS_and, List.map_map]
  rfl
end
section
open PySem PySem.W PyProof.Rows PySem.Calls PySem.Spec
noncomputable def kdA : List Nat := [45, 63, 98, 99, 100, 108, 112, 115]
noncomputable def rdA : List Nat := [45, 114]
noncomputable def wrA : List Nat := [45, 119]
noncomputable def sxA : List Nat := [45, 83, 115, 120]
noncomputable def txA : List Nat := [45, 84, 116, 120]
noncomputable def spec : List (Nat × List Nat) := [(7, kdA), (1, rdA), (1, wrA), (3, sxA), (1, rdA), (1, wrA), (3, sxA), (1, rdA), (1, wrA), (3, txA)]
noncomputable def chs : List (Nat × List Nat) → List Nat → List Nat
  | (_, a) :: sp, u :: us => a.getD u 0 :: chs sp us
  | _, _ => []
noncomputable def bitN (n i : Nat) : Nat := n / 2 ^ i % 2
noncomputable def runN (r a : Nat) : Nat := if r = 0 then a else 3 - a
noncomputable def kindQ (q : Nat) : Nat := [1, 6, 3, 1, 4, 1, 2, 1, 0, 1, 5, 1, 7, 1, 1, 1].getD q 0
noncomputable def usN (n : Nat) : List Nat := [kindQ (n / 4096 % 16), bitN n 8, bitN n 7, runN (bitN n 6) (bitN n 11), bitN n 5, bitN n 4, runN (bitN n 3) (bitN n 10), bitN n 2, bitN n 1, runN (bitN n 0) (bitN n 9)]
theorem bitN_lt (n i : Nat) : bitN n i = 0 ∨ bitN n i = 1 := by unfold bitN; omega
theorem runN_lt {r a : Nat} (hr : r = 0 ∨ r = 1) (ha : a = 0 ∨ a = 1) : runN r a ≤ 3 := by
  rcases hr with rfl | rfl <;> rcases ha with rfl | rfl <;> decide
theorem kindQ_le : ∀ q, q < 16 → kindQ q ≤ 7 := by decide
theorem us_ok (n : Nat) : okU spec (usN n) := by
  have b := bitN_lt n
  have h1 : ∀ i, bitN n i ≤ 1 := fun i => by have := b i; omega
  exact ⟨_, _, rfl, kindQ_le _ (Nat.mod_lt _ (by decide)), _, _, rfl, h1 8, _, _, rfl, h1 7, _, _, rfl, runN_lt (b 6) (b 11), _, _, rfl, h1 5, _, _, rfl, h1 4, _, _, rfl, runN_lt (b 3) (b 10), _, _, rfl, h1 2, _, _, rfl, h1 1, _, _, rfl, runN_lt (b 0) (b 9), rfl⟩
theorem fdiv_nat (a b : Nat) : Int.fdiv (a : Int) (b : Int) = ((a / b : Nat) : Int) := by
  rw [Int.fdiv_eq_ediv_of_nonneg _ (by omega)]; rfl
theorem fmod_nat (a b : Nat) : Int.fmod (a : Int) (b : Int) = ((a % b : Nat) : Int) := by
  rw [Int.fmod_eq_emod_of_nonneg _ (by omega)]; rfl
theorem kindAt_q : ∀ q : Nat, q < 16 → Txt.find (Str.ofString "-?bcdlps") (Txt.item (Str.ofString "?pc?d?b?-?l?s???") (q : Int)) = (kindQ q : Int) := by decide +kernel
theorem kindAt_nat (n : Nat) : kindAt (n : Int) = (kindQ (n / 4096 % 16) : Int) := by
  unfold kindAt
  rw [show (4096 : Int) = ((4096 : Nat) : Int) from rfl, fdiv_nat, show (16 : Int) = ((16 : Nat) : Int) from rfl, fmod_nat]
  exact kindAt_q _ (Nat.mod_lt _ (by decide))
theorem turn_nat (n c t : Nat) (ht : t ≤ 2) : turnF (n : Int) (c : Int) (t : Int) = (((((c * 2 + (2 ^ bitN n (3 * t + 2) - 1)) * 2 + (2 ^ bitN n (3 * t + 1) - 1)) * 8 + (2 ^ runN (bitN n (3 * t)) (bitN n (9 + t)) - 1) : Nat)) : Int) := by
  have e1 : (8 : Int) ^ ((t : Int)).toNat = ((8 ^ t : Nat) : Int) := by rw [Int.toNat_natCast]; norm_cast
  have e2 : (2 : Int) ^ ((9 : Int) + (t : Int)).toNat = ((2 ^ (9 + t) : Nat) : Int) := by
    rw [show ((9 : Int) + (t : Int)).toNat = 9 + t by omega]; norm_cast
  unfold turnF
  dsimp only
  rw [e1, e2, fdiv_nat, show (8 : Int) = ((8 : Nat) : Int) from rfl, fmod_nat, fdiv_nat, show (2 : Int) = ((2 : Nat) : Int) from rfl, fmod_nat, fmod_nat, fdiv_nat]
  have h1 : n / 8 ^ t % 8 % 2 = bitN n (3 * t) := by
    have : t = 0 ∨ t = 1 ∨ t = 2 := by omega
    rcases this with rfl | rfl | rfl <;> simp [bitN] <;> omega
  have h2 : n / 8 ^ t % 8 / 2 = bitN n (3 * t + 2) * 2 + bitN n (3 * t + 1) := by
    have : t = 0 ∨ t = 1 ∨ t = 2 := by omega
    rcases this with rfl | rfl | rfl <;> simp [bitN] <;> omega
  have h3 : n / 2 ^ (9 + t) % 2 = bitN n (9 + t) := rfl
  rw [h1, h2, h3]
  have f1 : ∀ x : Nat, x = 0 ∨ x = 1 → 2 ^ x - 1 = x := fun x h => by rcases h with rfl | rfl <;> rfl
  have f3 : ∀ a b : Nat, a = 0 ∨ a = 1 → b = 0 ∨ b = 1 → (3 * (a : Int) + (b : Int) - ((2 : Nat) : Int) * (a : Int) * (b : Int)).toNat = runN a b := fun a b h1 h2 => by rcases h1 with rfl | rfl <;> rcases h2 with rfl | rfl <;> rfl
  rw [f1 _ (bitN_lt n (3 * t + 2)), f1 _ (bitN_lt n (3 * t + 1)), f3 _ _ (bitN_lt n (3 * t)) (bitN_lt n (9 + t))]
  have hp : 0 < 2 ^ runN (bitN n (3 * t)) (bitN n (9 + t)) := Nat.pow_pos (by decide)
  have hc : (((2 : Nat) : Int) ^ runN (bitN n (3 * t)) (bitN n (9 + t))) = ((2 ^ runN (bitN n (3 * t)) (bitN n (9 + t)) : Nat) : Int) := by norm_cast
  rw [hc]
  generalize 2 ^ runN (bitN n (3 * t)) (bitN n (9 + t)) = P at *
  generalize bitN n (3 * t + 2) = x
  generalize bitN n (3 * t + 1) = y
  clear hc f1 f3 h1 h2 h3 e1 e2 ht
  omega
theorem code_enc (n : Nat) : codeF (n : Int) = ((enc spec 0 (usN n) : Nat) : Int) := by
  unfold codeF
  rw [kindAt_nat, Int.toNat_natCast]
  have e0 : (2 : Int) ^ kindQ (n / 4096 % 16) - 1 = ((2 ^ kindQ (n / 4096 % 16) - 1 : Nat) : Int) := by
    have : 0 < 2 ^ kindQ (n / 4096 % 16) := Nat.pow_pos (by decide)
    rw [Int.natCast_sub (by omega), Int.natCast_pow]; rfl
  rw [e0]
  simp only [List.foldl_cons, List.foldl_nil]
  have t2 := turn_nat n (2 ^ kindQ (n / 4096 % 16) - 1) 2 (by decide)
  rw [show ((2 : Nat) : Int) = 2 from rfl] at t2
  rw [t2]
  have t1 := turn_nat n (((2 ^ kindQ (n / 4096 % 16) - 1) * 2 + (2 ^ bitN n (3 * 2 + 2) - 1)) * 2 + (2 ^ bitN n (3 * 2 + 1) - 1) |> (· * 8 + (2 ^ runN (bitN n (3 * 2)) (bitN n (9 + 2)) - 1))) 1 (by decide)
  rw [show ((1 : Nat) : Int) = 1 from rfl] at t1
  dsimp only at t1
  rw [t1]
  have t0 := fun c => turn_nat n c 0 (by decide)
  rw [show ((0 : Nat) : Int) = 0 from rfl] at t0
  rw [t0]
  simp only [spec, usN, enc, Nat.zero_mul, Nat.zero_add]
theorem join10 (a b c d e f g h i j : Nat) : Txt.join (Str.ofString "") [⟨#[a]⟩, ⟨#[b]⟩, ⟨#[c]⟩, ⟨#[d]⟩, ⟨#[e]⟩, ⟨#[f]⟩, ⟨#[g]⟩, ⟨#[h]⟩, ⟨#[i]⟩, ⟨#[j]⟩] = ⟨[a, b, c, d, e, f, g, h, i, j].toArray⟩ := by
  have : (Str.ofString "").cps = #[] := by decide
  simp [Txt.join, Builtin.Str.glued, this]
theorem and_pow (n i : Nat) : n &&& 2 ^ i = bitN n i * 2 ^ i := by
  apply Nat.eq_of_testBit_eq
  intro j
  rw [Nat.testBit_and, Nat.testBit_two_pow]
  have h : n.testBit i = decide (bitN n i = 1) := Nat.testBit_eq_decide_div_mod_eq
  by_cases e : i = j
  · subst e
    rw [h]
    rcases bitN_lt n i with a | a <;> rw [a] <;> simp
  · rcases bitN_lt n i with a | a <;> rw [a] <;> simp [e, Nat.testBit_two_pow]
theorem one_sign (n i c : Nat) : oneS (n : Int) ((2 ^ i : Nat) : Int) ⟨#[c]⟩ = ⟨#[[45, c].getD (bitN n i) 0]⟩ := by
  unfold oneS
  have hp : 0 < 2 ^ i := Nat.pow_pos (by decide)
  rw [band_nat, and_pow]
  have hd : Str.ofString "-" = ⟨#[45]⟩ := by decide
  rcases bitN_lt n i with h | h
  · rw [h, if_neg (by omega), hd]; rfl
  · rw [h, if_pos (by omega)]; rfl
theorem and_two (n i j : Nat) (h : i < j) : n &&& (2 ^ j + 2 ^ i) = bitN n j * 2 ^ j + bitN n i * 2 ^ i := by
  have hp : 0 < 2 ^ j := Nat.pow_pos (by decide)
  have h1 := land_split (n / 2 ^ j) 1 (n % 2 ^ j) (2 ^ i) j (Nat.mod_lt _ hp) (Nat.pow_lt_pow_right (by decide) h)
  rw [Nat.mul_comm (n / 2 ^ j), Nat.div_add_mod, Nat.one_mul, Nat.and_one_is_mod, and_pow] at h1
  rw [h1]
  have : bitN (n % 2 ^ j) i = bitN n i := by
    unfold bitN
    rw [← Nat.toNat_testBit, ← Nat.toNat_testBit, Nat.testBit_mod_two_pow]
    simp [h]
  rw [this]; rfl
theorem run_sign (n i j c d : Nat) (h : i < j) : runS (n : Int) ((2 ^ j + 2 ^ i : Nat) : Int) ((2 ^ j : Nat) : Int) ((2 ^ i : Nat) : Int) ⟨#[c]⟩ ⟨#[d]⟩ = ⟨#[[45, d, c, 120].getD (runN (bitN n i) (bitN n j)) 0]⟩ := by
  unfold runS
  have hp : 0 < 2 ^ i := Nat.pow_pos (by decide)
  have hq : 0 < 2 ^ j := Nat.pow_pos (by decide)
  have hd : Str.ofString "-" = ⟨#[45]⟩ := by decide
  have hx : Str.ofString "x" = ⟨#[120]⟩ := by decide
  rw [band_nat, band_nat, band_nat, and_pow, and_pow, and_two n i j h, hd, hx]
  rcases bitN_lt n i with a | a <;> rcases bitN_lt n j with b | b <;> rw [a, b]
  · rw [if_neg (by omega), if_neg (by omega), if_neg (by omega)]; rfl
  · rw [if_neg (by omega), if_pos (by omega)]; rfl
  · rw [if_neg (by omega), if_neg (by omega), if_pos (by omega)]; rfl
  · rw [if_pos (by omega)]; rfl
theorem kind_and (n : Nat) : n &&& 61440 = n / 4096 % 16 * 4096 := by
  have h1 := land_split (n / 2 ^ 12) 15 (n % 2 ^ 12) 0 12 (Nat.mod_lt _ (by decide)) (by decide)
  rw [Nat.mul_comm (n / 2 ^ 12), Nat.div_add_mod, Nat.and_zero] at h1
  have h2 := Nat.and_two_pow_sub_one_eq_mod (n / 2 ^ 12) 4
  rw [show (2 ^ 4 - 1 : Nat) = 15 from rfl] at h2
  rw [h2] at h1
  simpa using h1
theorem kind_sign (n : Nat) : kindS (n : Int) = ⟨#[kdA.getD (kindQ (n / 4096 % 16)) 0]⟩ := by
  unfold kindS
  rw [show (61440 : Int) = ((61440 : Nat) : Int) from rfl, band_nat, kind_and]
  have : n / 4096 % 16 < 16 := Nat.mod_lt _ (by decide)
  generalize n / 4096 % 16 = q at *
  have key : ∀ q : Nat, q < 16 → (if ((q * 4096 : Nat) : Int) = 40960 then Str.ofString "l" else if ((q * 4096 : Nat) : Int) = 49152 then Str.ofString "s" else if ((q * 4096 : Nat) : Int) = 32768 then Str.ofString "-" else if ((q * 4096 : Nat) : Int) = 24576 then Str.ofString "b" else
  if ((q * 4096 : Nat) : Int) = 16384 then Str.ofString "d" else if ((q * 4096 : Nat) : Int) = 8192 then Str.ofString "c" else if ((q * 4096 : Nat) : Int) = 4096 then Str.ofString "p" else Str.ofString "?") = ⟨#[kdA.getD (kindQ q) 0]⟩ := by decide
  exact key q this
theorem row_chs (n : Nat) : rowF (n : Int) = ⟨(chs spec (usN n)).toArray⟩ := by
  unfold rowF signsF
  have o := fun i c => one_sign n i c
  have o8 := o 8 114; have o7 := o 7 119; have o5 := o 5 114; have o4 := o 4 119; have o2 := o 2 114; have o1 := o 1 119
  have r6 := run_sign n 6 11 115 83 (by decide)
  have r3 := run_sign n 3 10 115 83 (by decide)
  have r0 := run_sign n 0 9 116 84 (by decide)
  simp only [show ((2 ^ 8 : Nat) : Int) = 256 from rfl, show ((2 ^ 7 : Nat) : Int) = 128 from rfl, show ((2 ^ 5 : Nat) : Int) = 32 from rfl, show ((2 ^ 4 : Nat) : Int) = 16 from rfl, show ((2 ^ 2 : Nat) : Int) = 4 from rfl, show ((2 ^ 1 : Nat) : Int) = 2 from rfl,
    show ((2 ^ 11 + 2 ^ 6 : Nat) : Int) = 2112 from rfl, show ((2 ^ 11 : Nat) : Int) = 2048 from rfl, show ((2 ^ 6 : Nat) : Int) = 64 from rfl, show ((2 ^ 10 + 2 ^ 3 : Nat) : Int) = 1032 from rfl, show ((2 ^ 10 : Nat) : Int) = 1024 from rfl, show ((2 ^ 3 : Nat) : Int) = 8 from rfl,
    show ((2 ^ 9 + 2 ^ 0 : Nat) : Int) = 513 from rfl, show ((2 ^ 9 : Nat) : Int) = 512 from rfl, show ((2 ^ 0 : Nat) : Int) = 1 from rfl] at o8 o7 o5 o4 o2 o1 r6 r3 r0
  rw [show Str.ofString "r" = ⟨#[114]⟩ by decide, show Str.ofString "w" = ⟨#[119]⟩ by decide, show Str.ofString "s" = ⟨#[115]⟩ by decide, show Str.ofString "S" = ⟨#[83]⟩ by decide, show Str.ofString "t" = ⟨#[116]⟩ by decide, show Str.ofString "T" = ⟨#[84]⟩ by decide,
    kind_sign, o8, o7, o5, o4, o2, o1, r6, r3, r0, join10]
  rfl
end
section
open PySem PySem.W PyProof.Rows PySem.Calls PySem.Spec
theorem fld (c r w x : Nat) (hr : r ≤ 1) (hw : w ≤ 1) (hx : x ≤ 3) (e : Nat) (he : e = ((c * 2 ^ 1 + (2 ^ r - 1)) * 2 ^ 1 + (2 ^ w - 1)) * 2 ^ 3 + (2 ^ x - 1)) :
    e / 32 = c ∧ e % 2 + e / 2 % 2 + e / 4 % 2 = x ∧ e / 8 % 2 = w ∧ e / 16 % 2 = r := by
  have key : ∀ r, r < 2 → ∀ w, w < 2 → ∀ x, x < 4 → ((2 ^ r - 1) * 2 + (2 ^ w - 1)) * 8 + (2 ^ x - 1) < 32 ∧
      (((2 ^ r - 1) * 2 + (2 ^ w - 1)) * 8 + (2 ^ x - 1)) % 2 + (((2 ^ r - 1) * 2 + (2 ^ w - 1)) * 8 + (2 ^ x - 1)) / 2 % 2 + (((2 ^ r - 1) * 2 + (2 ^ w - 1)) * 8 + (2 ^ x - 1)) / 4 % 2 = x ∧
      (((2 ^ r - 1) * 2 + (2 ^ w - 1)) * 8 + (2 ^ x - 1)) / 8 % 2 = w ∧ (((2 ^ r - 1) * 2 + (2 ^ w - 1)) * 8 + (2 ^ x - 1)) / 16 % 2 = r := by decide
  obtain ⟨g1, g2, g3, g4⟩ := key r (Nat.lt_succ_of_le hr) w (Nat.lt_succ_of_le hw) x (Nat.lt_succ_of_le hx)
  have he' : e = 32 * c + (((2 ^ r - 1) * 2 + (2 ^ w - 1)) * 8 + (2 ^ x - 1)) := by
    rw [he]
    generalize 2 ^ r - 1 = R
    generalize 2 ^ w - 1 = W
    generalize 2 ^ x - 1 = X
    clear he g1 g2 g3 g4 key hr hw hx
    omega
  rw [he']
  clear he' he key hr hw hx
  generalize ((2 ^ r - 1) * 2 + (2 ^ w - 1)) * 8 + (2 ^ x - 1) = g at *
  have e2 : (32 * c + g) / 2 = 16 * c + g / 2 := by rw [show 32 * c = 2 * (16 * c) by rw [← Nat.mul_assoc], Nat.mul_add_div (by decide)]
  have e4 : (32 * c + g) / 4 = 8 * c + g / 4 := by rw [show 32 * c = 4 * (8 * c) by rw [← Nat.mul_assoc], Nat.mul_add_div (by decide)]
  have e8 : (32 * c + g) / 8 = 4 * c + g / 8 := by rw [show 32 * c = 8 * (4 * c) by rw [← Nat.mul_assoc], Nat.mul_add_div (by decide)]
  have e16 : (32 * c + g) / 16 = 2 * c + g / 16 := by rw [show 32 * c = 16 * (2 * c) by rw [← Nat.mul_assoc], Nat.mul_add_div (by decide)]
  have e32 : (32 * c + g) / 32 = c := by rw [Nat.mul_add_div (by decide), Nat.div_eq_of_lt g1, Nat.add_zero]
  rw [e2, e4, e8, e16, e32, show 32 * c = 2 * (16 * c) by rw [← Nat.mul_assoc], show 16 * c = 2 * (8 * c) by rw [← Nat.mul_assoc], show 8 * c = 2 * (4 * c) by rw [← Nat.mul_assoc], show 4 * c = 2 * (2 * c) by rw [← Nat.mul_assoc]]
  rw [Nat.mul_add_mod, Nat.mul_add_mod, Nat.mul_add_mod, Nat.mul_add_mod, Nat.mul_add_mod]
  exact ⟨rfl, g2, g3, g4⟩
theorem item_wr : ∀ w : Nat, w < 2 → Txt.item (Str.ofString "-w") (w : Int) = ⟨#[wrA.getD w 0]⟩ := by decide +kernel
theorem item_rd : ∀ w : Nat, w < 2 → Txt.item (Str.ofString "-r") (w : Int) = ⟨#[rdA.getD w 0]⟩ := by decide +kernel
theorem item_tx : ∀ w : Nat, w < 4 → Txt.item (Str.ofString "-Ttx") (w : Int) = ⟨#[txA.getD w 0]⟩ := by decide +kernel
theorem item_sx : ∀ w : Nat, w < 4 → Txt.item (Str.ofString "-Ssx") (w : Int) = ⟨#[sxA.getD w 0]⟩ := by decide +kernel
theorem item_kd : ∀ w : Nat, w < 8 → Txt.item (Str.ofString "-?bcdlps") (kindOf7 (((0 * 2 ^ 7 + (2 ^ w - 1) : Nat)) : Int)) = ⟨#[kdA.getD w 0]⟩ := by decide +kernel
theorem rowStep_nat (c r w x : Nat) (hr : r ≤ 1) (hw : w ≤ 1) (hx : x ≤ 3) (l : List Str) (last : Str) (a : List Nat) (ha : ∀ x : Nat, x < 4 → Txt.item last (x : Int) = ⟨#[a.getD x 0]⟩) :
    rowStep (((((c * 2 ^ 1 + (2 ^ r - 1)) * 2 ^ 1 + (2 ^ w - 1)) * 2 ^ 3 + (2 ^ x - 1) : Nat) : Int), l) last = ((c : Int), l ++ [⟨#[a.getD x 0]⟩, ⟨#[wrA.getD w 0]⟩, ⟨#[rdA.getD r 0]⟩]) := by
  obtain ⟨e, he⟩ : ∃ e, e = ((c * 2 ^ 1 + (2 ^ r - 1)) * 2 ^ 1 + (2 ^ w - 1)) * 2 ^ 3 + (2 ^ x - 1) := ⟨_, rfl⟩
  obtain ⟨e1, e2, e3, e4⟩ := fld c r w x hr hw hx e he
  rw [← he]
  unfold rowStep
  have d : ∀ k : Nat, Int.fdiv (e : Int) (k : Int) = ((e / k : Nat) : Int) := fdiv_nat e
  have d32 := d 32; have d2 := d 2; have d4 := d 4; have d8 := d 8; have d16 := d 16
  have m : ∀ e : Nat, Int.fmod (e : Int) 2 = ((e % 2 : Nat) : Int) := fun e => fmod_nat e 2
  simp only [show ((32 : Nat) : Int) = 32 from rfl, show ((2 : Nat) : Int) = 2 from rfl, show ((4 : Nat) : Int) = 4 from rfl, show ((8 : Nat) : Int) = 8 from rfl, show ((16 : Nat) : Int) = 16 from rfl] at d32 d2 d4 d8 d16
  dsimp only
  rw [d32, d2, d4, d8, d16, m, m, m, m, m, e1, e3, e4, item_wr w (by omega), item_rd r (by omega), ← Int.natCast_add, ← Int.natCast_add, e2, ha x (by omega)]
theorem rowG_enc {us : List Nat} (h : okU spec us) : rowG ((enc spec 0 us : Nat) : Int) = ⟨(chs spec us).toArray⟩ := by
  obtain ⟨k, _, rfl, hk, r2, _, rfl, h2, w2, _, rfl, h3, x2, _, rfl, h4, r1, _, rfl, h5, w1, _, rfl, h6, x1, _, rfl, h7, r0, _, rfl, h8, w0, _, rfl, h9, x0, _, rfl, h10, rfl⟩ := h
  dsimp only [spec] at hk h2 h3 h4 h5 h6 h7 h8 h9 h10
  have e : enc spec 0 [k, r2, w2, x2, r1, w1, x1, r0, w0, x0] = ((((((((((0 * 2 ^ 7 + (2 ^ k - 1)) * 2 ^ 1 + (2 ^ r2 - 1)) * 2 ^ 1 + (2 ^ w2 - 1)) * 2 ^ 3 + (2 ^ x2 - 1)) * 2 ^ 1 + (2 ^ r1 - 1)) * 2 ^ 1 + (2 ^ w1 - 1)) * 2 ^ 3 + (2 ^ x1 - 1)) * 2 ^ 1 + (2 ^ r0 - 1)) * 2 ^ 1 + (2 ^ w0 - 1)) * 2 ^ 3 + (2 ^ x0 - 1)) := rfl
  rw [e]
  simp only [rowG, rowSigns, List.foldl_cons, List.foldl_nil]
  rw [rowStep_nat _ r0 w0 x0 h8 h9 h10 _ _ txA item_tx, rowStep_nat _ r1 w1 x1 h5 h6 h7 _ _ sxA item_sx, rowStep_nat _ r2 w2 x2 h2 h3 h4 _ _ sxA item_sx]
  dsimp only
  rw [item_kd k (by omega)]
  exact join10 _ _ _ _ _ _ _ _ _ _
theorem enc_lt : ∀ (sp : List (Nat × List Nat)) (c d : Nat) (us vs : List Nat), okU sp us → okU sp vs → c < d → enc sp c us < enc sp d vs
  | [], c, d, us, vs, _, _, h => by simpa [enc] using h
  | (w, a) :: sp, c, d, us, vs, ⟨u, r, eu, hu, hr⟩, ⟨v, t, ev, hv, ht⟩, h => by
    subst eu ev
    simp only [enc]
    refine enc_lt sp _ _ r t hr ht ?_
    have h1 := Nat.pow_le_pow_right (n := 2) (by decide) (show u ≤ w from hu)
    have h2 : 0 < 2 ^ u := Nat.pow_pos (by decide)
    have h3 : (c + 1) * 2 ^ w ≤ d * 2 ^ w := Nat.mul_le_mul_right _ h
    rw [Nat.add_mul] at h3
    omega
theorem chs_lt : ∀ (sp : List (Nat × List Nat)) (c : Nat) (us vs : List Nat), (∀ p ∈ sp, ∀ u v, u < v → v ≤ p.1 → p.2.getD u 0 < p.2.getD v 0) → okU sp us → okU sp vs → enc sp c us < enc sp c vs → ltCps (chs sp us) (chs sp vs) = true
  | [], c, us, vs, _, _, _, h => by simp [enc] at h
  | (w, a) :: sp, c, us, vs, ha, ⟨u, r, eu, hu, hr⟩, ⟨v, t, ev, hv, ht⟩, h => by
    subst eu ev
    simp only [chs, ltCps]
    have ha' := fun p hp => ha p (List.mem_cons_of_mem _ hp)
    have h0 := ha (w, a) List.mem_cons_self
    rcases Nat.lt_trichotomy u v with l | l | l
    · have := h0 u v l hv
      rw [Bool.or_eq_true]
      left
      exact decide_eq_true this
    · subst l
      simp only [enc] at h
      have := chs_lt sp _ r t ha' hr ht h
      rw [Bool.or_eq_true, Bool.and_eq_true]
      right
      exact ⟨beq_self_eq_true _, this⟩
    · exfalso
      have h1 := Nat.pow_lt_pow_right (a := 2) (by decide) l
      have h2 : 0 < 2 ^ v := Nat.pow_pos (by decide)
      simp only [enc] at h
      have := enc_lt sp (c * 2 ^ w + (2 ^ v - 1)) (c * 2 ^ w + (2 ^ u - 1)) t r ht hr (by omega)
      omega
theorem spec_rises : ∀ p ∈ spec, ∀ u v, u < v → v ≤ p.1 → p.2.getD u 0 < p.2.getD v 0 := by
  have key : ∀ p ∈ spec, ∀ v, v < 8 → ∀ u, u < v → v ≤ p.1 → p.2.getD u 0 < p.2.getD v 0 := by decide
  intro p hp u v h1 h2
  have h7 : p.1 ≤ 7 := by
    have : ∀ p ∈ spec, p.1 ≤ 7 := by decide
    exact this p hp
  exact key p hp v (by omega) u h1 h2
theorem chs_order {us vs : List Nat} (hu : okU spec us) (hv : okU spec vs) (h : ltCps (chs spec vs) (chs spec us) = false) : ((enc spec 0 us : Nat) : Int) ≤ ((enc spec 0 vs : Nat) : Int) := by
  by_cases hlt : enc spec 0 vs < enc spec 0 us
  · rw [chs_lt spec 0 vs us spec_rises hv hu hlt] at h; cases h
  · omega
theorem perm_map {α : Type} {f : α → Str} : ∀ {l : List Str} {l' : List Str}, List.Perm l l' → ∀ xs : List α, l = xs.map f → ∃ ys : List α, List.Perm xs ys ∧ l' = ys.map f := by
  intro l l' h
  induction h with
  | nil => intro xs hx; exact ⟨xs, .refl _, hx⟩
  | cons a _ ih =>
    intro xs hx
    cases xs with
    | nil => simp at hx
    | cons x xs =>
      simp only [List.map_cons, List.cons.injEq] at hx
      obtain ⟨ys, hy, e⟩ := ih xs hx.2
      exact ⟨x :: ys, hy.cons x, by rw [List.map_cons, ← e, hx.1]⟩
  | swap a b l =>
    intro xs hx
    match xs, hx with
    | [], hx => simp at hx
    | [_], hx => simp at hx
    | x :: y :: xs, hx =>
      simp only [List.map_cons, List.cons.injEq] at hx
      exact ⟨y :: x :: xs, .swap y x xs, by rw [List.map_cons, List.map_cons, ← hx.1, ← hx.2.1, ← hx.2.2]⟩
  | trans _ _ ih1 ih2 =>
    intro xs hx
    obtain ⟨ys, hy, e⟩ := ih1 xs hx
    obtain ⟨zs, hz, e'⟩ := ih2 ys e
    exact ⟨zs, hy.trans hz, e'⟩
theorem rising_pair {α : Type} {f : α → Str} {val : α → Int} : ∀ (l : List α) (x : α), (∀ a ∈ x :: l, ∀ b ∈ x :: l, ltCps (f b).cps.toList (f a).cps.toList = false → val a ≤ val b) → risingS (f x) (l.map f) = true → (∀ y ∈ l, val x ≤ val y) ∧ (l.map val).Pairwise (· ≤ ·)
  | [], x, _, _ => ⟨fun y hy => by simp at hy, by simp⟩
  | y :: l, x, hS, h => by
    simp only [List.map_cons, risingS, Bool.and_eq_true, Bool.not_eq_true'] at h
    obtain ⟨h1, h2⟩ := rising_pair l y (fun a ha b hb => hS a (List.mem_cons_of_mem _ ha) b (List.mem_cons_of_mem _ hb)) h.2
    have h3 := hS x List.mem_cons_self y (by simp) h.1
    refine ⟨fun z hz => ?_, List.pairwise_cons.mpr ⟨fun v hv => ?_, h2⟩⟩
    · rcases List.mem_cons.mp hz with rfl | hz
      · exact h3
      · exact Int.le_trans h3 (h1 z hz)
    · obtain ⟨z, hz, rfl⟩ := List.mem_map.mp hv
      exact h1 z hz
theorem mid_gen {α : Type} {f : α → Str} {val : α → Int} {l : List α} {idx : Nat} {c : Str} (hS : ∀ a ∈ l, ∀ b ∈ l, ltCps (f b).cps.toList (f a).cps.toList = false → val a ≤ val b) (h : Mid (l.map f) idx c) (hi : idx < l.length) :
    ∃ l' : List α, l'.Perm l ∧ (l'.map val).Pairwise (· ≤ ·) ∧ ∃ x ∈ l, l'[idx]? = some x ∧ c = f x := by
  obtain ⟨ss, hp, hs, rfl⟩ := h
  obtain ⟨l', hp', rfl⟩ := perm_map hp.symm l rfl
  have hi' : idx < l'.length := by rw [← hp'.length_eq]; exact hi
  have hx : l'[idx]? = some l'[idx] := List.getElem?_eq_getElem hi'
  refine ⟨l', hp'.symm, ?_, l'[idx], hp'.mem_iff.mpr (List.getElem_mem hi'), hx, by rw [List.getD_eq_getElem?_getD, List.getElem?_map, hx]; rfl⟩
  cases l' with
  | nil => simp
  | cons x r =>
    have := rising_pair (f := f) (val := val) r x (fun a ha b hb => hS a (hp'.mem_iff.mpr ha) b (hp'.mem_iff.mpr hb)) hs
    rw [List.map_cons, List.pairwise_cons]
    refine ⟨fun v hv => ?_, this.2⟩
    obtain ⟨z, hz, rfl⟩ := List.mem_map.mp hv
    exact this.1 z hz
noncomputable def OneSign (x : Str) : Prop := ∃ c, c < 200 ∧ x = ⟨#[c]⟩
theorem kindS_one (b : Int) : OneSign (kindS b) := by
  unfold kindS
  (repeat' split) <;> first | exact ⟨108, by decide, by decide⟩ | exact ⟨115, by decide, by decide⟩ | exact ⟨45, by decide, by decide⟩ | exact ⟨98, by decide, by decide⟩ | exact ⟨100, by decide, by decide⟩ | exact ⟨99, by decide, by decide⟩ | exact ⟨112, by decide, by decide⟩ | exact ⟨63, by decide, by decide⟩
theorem oneS_one {b m : Int} {c : Str} (h : OneSign c) : OneSign (oneS b m c) := by
  unfold oneS
  split
  · exact h
  · exact ⟨45, by decide, by decide⟩
theorem runS_one {b m1 m2 m3 : Int} {c1 c2 : Str} (h1 : OneSign c1) (h2 : OneSign c2) : OneSign (runS b m1 m2 m3 c1 c2) := by
  unfold runS
  (repeat' split) <;> first | assumption | exact ⟨120, by decide, by decide⟩ | exact ⟨45, by decide, by decide⟩
theorem rowF_ten (b : Int) : ∃ l : List Nat, l.length = 10 ∧ (∀ c ∈ l, c < 200) ∧ rowF b = ⟨l.toArray⟩ := by
  have hr : OneSign (Str.ofString "r") := ⟨114, by decide, by decide⟩
  have hw : OneSign (Str.ofString "w") := ⟨119, by decide, by decide⟩
  have hs : OneSign (Str.ofString "s") := ⟨115, by decide, by decide⟩
  have hS : OneSign (Str.ofString "S") := ⟨83, by decide, by decide⟩
  have ht : OneSign (Str.ofString "t") := ⟨116, by decide, by decide⟩
  have hT : OneSign (Str.ofString "T") := ⟨84, by decide, by decide⟩
  obtain ⟨a, ha, ea⟩ := kindS_one b
  obtain ⟨c, hc, ec⟩ := oneS_one (b := b) (m := 256) hr
  obtain ⟨d, hd, ed⟩ := oneS_one (b := b) (m := 128) hw
  obtain ⟨e, he, ee⟩ := runS_one (b := b) (m1 := 2112) (m2 := 2048) (m3 := 64) hs hS
  obtain ⟨f, hf, ef⟩ := oneS_one (b := b) (m := 32) hr
  obtain ⟨g, hg, eg⟩ := oneS_one (b := b) (m := 16) hw
  obtain ⟨h, hh, eh⟩ := runS_one (b := b) (m1 := 1032) (m2 := 1024) (m3 := 8) hs hS
  obtain ⟨i, hi, ei⟩ := oneS_one (b := b) (m := 4) hr
  obtain ⟨j, hj, ej⟩ := oneS_one (b := b) (m := 2) hw
  obtain ⟨k, hk, ek⟩ := runS_one (b := b) (m1 := 513) (m2 := 512) (m3 := 1) ht hT
  refine ⟨[a, c, d, e, f, g, h, i, j, k], rfl, all1 ha (all1 hc (all1 hd (all1 he (all1 hf (all1 hg (all1 hh (all1 hi (all1 hj (all1 hk all0))))))))), ?_⟩
  unfold rowF signsF
  rw [ea, ec, ed, ee, ef, eg, eh, ei, ej, ek, join10]
theorem rowF_ok (b : Int) : PyData.strOk (rowF b) = true := by
  obtain ⟨l, _, h, e⟩ := rowF_ten b
  rw [e]
  unfold PyData.strOk
  rw [← Array.all_toList, List.all_eq_true]
  intro c hc
  have := h c hc
  exact decide_eq_true (by omega)
theorem rowF_len (b : Int) : (rowF b).length = 10 := by
  obtain ⟨l, h, _, e⟩ := rowF_ten b
  rw [e]
  show l.toArray.size = 10
  rw [List.size_toArray, h]
theorem row_code {b : Int} (h0 : 0 ≤ b) (_h1 : b < 2 ^ 32) : rowG (codeF b) = rowF b := by
  obtain ⟨n, rfl⟩ := Int.eq_ofNat_of_zero_le h0
  rw [code_enc, rowG_enc (us_ok n), row_chs]
theorem turnF_bd {b c t : Int} {M : Int} (h0 : 0 ≤ c) (h1 : c < M) : 0 ≤ turnF b c t ∧ turnF b c t < M * 32 := by
  unfold turnF
  dsimp only
  have f1 := Int.fmod_nonneg_of_pos (Int.fdiv b (8 ^ t.toNat)) (b := 8) (by decide)
  have f2 := Int.fmod_lt_of_pos (Int.fdiv b (8 ^ t.toNat)) (b := 8) (by decide)
  generalize Int.fmod (Int.fdiv b (8 ^ t.toNat)) 8 = f at *
  have r1 := Int.fmod_nonneg_of_pos f (b := 2) (by decide)
  have r2 := Int.fmod_lt_of_pos f (b := 2) (by decide)
  have r3 := Int.fmod_add_mul_fdiv f 2
  generalize Int.fmod f 2 = r at *
  have q1 := Int.fmod_nonneg_of_pos (Int.fdiv b (2 ^ (9 + t).toNat)) (b := 2) (by decide)
  have q2 := Int.fmod_lt_of_pos (Int.fdiv b (2 ^ (9 + t).toNat)) (b := 2) (by decide)
  generalize Int.fmod (Int.fdiv b (2 ^ (9 + t).toNat)) 2 = q at *
  have hr : r = 0 ∨ r = 1 := by omega
  have hq : q = 0 ∨ q = 1 := by omega
  rcases hr with rfl | rfl <;> rcases hq with rfl | rfl <;> simp <;> omega
theorem codeF_bd (b : Int) : 0 ≤ codeF b ∧ codeF b < 2 ^ 22 := by
  have hk := kindAt_bd b
  unfold codeF
  simp only [List.foldl_cons, List.foldl_nil]
  have h1 : (1 : Int) ≤ 2 ^ (kindAt b).toNat := by
    have : 0 < 2 ^ (kindAt b).toNat := Nat.pow_pos (by decide)
    have e : ((2 ^ (kindAt b).toNat : Nat) : Int) = 2 ^ (kindAt b).toNat := by norm_cast
    omega
  have h2 : (2 : Int) ^ (kindAt b).toNat ≤ 128 := by
    have : 2 ^ (kindAt b).toNat ≤ 2 ^ 7 := Nat.pow_le_pow_right (by decide) (by omega)
    have e : ((2 ^ (kindAt b).toNat : Nat) : Int) = 2 ^ (kindAt b).toNat := by norm_cast
    omega
  generalize (2 : Int) ^ (kindAt b).toNat = p at *
  have a := turnF_bd (b := b) (t := 2) (c := p - 1) (M := 128) (by omega) (by omega)
  have a' := turnF_bd (b := b) (t := 1) a.1 a.2
  have a'' := turnF_bd (b := b) (t := 0) a'.1 a'.2
  exact ⟨a''.1, by have := a''.2; omega⟩
theorem rows_order {a b : Int} (ha : 0 ≤ a) (hb : 0 ≤ b) (h : ltCps (rowF b).cps.toList (rowF a).cps.toList = false) : codeF a ≤ codeF b := by
  obtain ⟨n, rfl⟩ := Int.eq_ofNat_of_zero_le ha
  obtain ⟨m, rfl⟩ := Int.eq_ofNat_of_zero_le hb
  rw [row_chs, row_chs] at h
  rw [code_enc, code_enc]
  exact chs_order (us_ok n) (us_ok m) h
theorem rows_mid {ms : List Int} (h3 : 3 ≤ ms.length) (h5 : ms.length ≤ 5) (hb : ∀ b ∈ ms, 0 ≤ b ∧ b < 2 ^ 32) {c : Str} {idx k : Nat} (hk : idx + k = ms.length) (h1 : 1 ≤ k)
    (h : Mid (ms.map rowF) idx c) : c = rowG (reachedF (byLeast (ms.map codeF) 4194303) (k : Int)) := by
  obtain ⟨l', hp, hs, x, hx, hi, rfl⟩ := mid_gen (f := rowF) (val := codeF) (fun a ha b hb' e => rows_order (hb a ha).1 (hb b hb').1 e) h (by omega)
  rw [kth (hp.map codeF) hs (by simpa using h3) (by simpa using h5) (fun y hy => by
    obtain ⟨b, _, rfl⟩ := List.mem_map.mp hy
    have := codeF_bd b
    omega) (idx := idx) (by simpa using hk) h1, List.getD_eq_getElem?_getD, List.getElem?_map, hi]
  exact (row_code (hb x hx).1 (hb x hx).2).symm
end
section
open PySem PySem.W PyProof.Rows PySem.Calls PySem.Spec
theorem chs_getD : ∀ (sp : List (Nat × List Nat)) (us : List Nat) (j : Nat), okU sp us → j < sp.length → (chs sp us).getD j 0 = ((sp.getD j (0, [])).2).getD (us.getD j 0) 0
  | [], _, _, _, h => by simp at h
  | (w, a) :: sp, us, j, ⟨u, r, e, hu, hr⟩, h => by
    subst e
    cases j with
    | zero => rfl
    | succ j =>
      have := chs_getD sp r j hr (by simpa using h)
      simpa [chs] using this
theorem okU_le : ∀ (sp : List (Nat × List Nat)) (us : List Nat) (j : Nat), okU sp us → us.getD j 0 ≤ (sp.getD j (0, [])).1
  | [], us, j, h => by rw [show us = [] from h]; simp
  | (w, a) :: sp, us, j, ⟨u, r, e, hu, hr⟩ => by
    subst e
    cases j with
    | zero => exact hu
    | succ j => exact okU_le sp r j hr
theorem okU_of : ∀ (sp : List (Nat × List Nat)) (us : List Nat), us.length = sp.length → (∀ j, j < sp.length → us.getD j 0 ≤ (sp.getD j (0, [])).1) → okU sp us
  | [], us, h, _ => List.length_eq_zero_iff.mp h
  | (w, a) :: sp, [], h, _ => by simp at h
  | (w, a) :: sp, u :: us, h, hb => ⟨u, us, rfl, hb 0 (by simp), okU_of sp us (by simpa using h) fun j hj => hb (j + 1) (by simpa using hj)⟩
theorem okU_len : ∀ (sp : List (Nat × List Nat)) (us : List Nat), okU sp us → us.length = sp.length ∧ (chs sp us).length = sp.length
  | [], us, h => by rw [show us = [] from h]; simp [chs]
  | (w, a) :: sp, us, ⟨u, r, e, hu, hr⟩ => by
    subst e
    have := okU_len sp r hr
    simp [chs, this.1, this.2]
theorem colsOK_of {idx : Nat} : ∀ (us : List Nat) (uss : List (List Nat)), (∀ j, j < us.length → KthAt (uss.map fun l => l.getD j 0) idx (us.getD j 0)) → colsOK idx uss us
  | [], _, _ => trivial
  | u :: us, uss, h => by
    refine ⟨?_, colsOK_of us _ fun j hj => ?_⟩
    · have := h 0 (by simp)
      have e : (uss.map fun l => l.headD 0) = uss.map fun l => l.getD 0 0 := List.map_congr_left fun l _ => by cases l <;> rfl
      rw [e]; exact this
    · have := h (j + 1) (by simpa using hj)
      rw [List.map_map]
      have e : (uss.map ((fun l : List Nat => l.getD j 0) ∘ List.tail)) = uss.map fun l => l.getD (j + 1) 0 := List.map_congr_left fun l _ => by cases l <;> simp
      rw [e]; exact this
theorem choose_list {P : Nat → Nat → Prop} : ∀ n, (∀ j, j < n → ∃ u, P j u) → ∃ us : List Nat, us.length = n ∧ ∀ j, j < n → P j (us.getD j 0)
  | 0, _ => ⟨[], rfl, fun j hj => absurd hj (Nat.not_lt_zero _)⟩
  | n + 1, h => by
    obtain ⟨us, hl, hu⟩ := choose_list n fun j hj => h j (Nat.lt_succ_of_lt hj)
    obtain ⟨u, hn⟩ := h n (Nat.lt_succ_self _)
    refine ⟨us ++ [u], by simp [hl], fun j hj => ?_⟩
    by_cases e : j < n
    · have := hu j e
      rw [List.getD_eq_getElem?_getD, List.getElem?_append_left (by omega), ← List.getD_eq_getElem?_getD]; exact this
    · have : j = n := by omega
      subst this
      rw [List.getD_eq_getElem?_getD, List.getElem?_append_right (by omega), hl]
      simpa using hn
theorem join_singles (l : List Nat) : Txt.join (Str.ofString "") (l.map fun c => (⟨#[c]⟩ : Str)) = ⟨l.toArray⟩ := by
  have h0 : (Str.ofString "").cps = #[] := by decide
  have key : ∀ (l : List Nat) (acc : Array Nat), (l.map fun c => (⟨#[c]⟩ : Str)).foldl (fun acc p => acc ++ (Str.ofString "").cps ++ p.cps) acc = acc ++ l.toArray := by
    intro l
    induction l with
    | nil => intro acc; simp
    | cons c l ih => intro acc; rw [List.map_cons, List.foldl_cons, ih, h0]; simp
  unfold Txt.join Builtin.Str.glued
  cases l with
  | nil => rfl
  | cons c l =>
    simp only [List.map_cons, List.drop_one, List.tail_cons, List.headD_cons]
    rw [key]; simp
theorem sign_at {n j : Nat} (hj : j < 10) : signAt (rowF (n : Int)) j = ⟨#[((spec.getD j (0, [])).2).getD ((usN n).getD j 0) 0]⟩ := by
  unfold signAt
  rw [row_chs, ← chs_getD spec (usN n) j (us_ok n) hj]
  simp [Array.getD_eq_getD_getElem?]
theorem col_kth {ms : List Int} (hb : ∀ b ∈ ms, 0 ≤ b ∧ b < 2 ^ 32) {c : Str} {idx j : Nat} (hj : j < 10) (hi : idx < ms.length) (h : Mid (ms.map fun b => signAt (rowF b) j) idx c) :
    ∃ u, KthAt ((ms.map fun b => usN b.toNat).map fun l => l.getD j 0) idx u ∧ u ≤ (spec.getD j (0, [])).1 ∧ c = ⟨#[((spec.getD j (0, [])).2).getD u 0]⟩ := by
  have sg : ∀ b ∈ ms, signAt (rowF b) j = ⟨#[((spec.getD j (0, [])).2).getD ((usN b.toNat).getD j 0) 0]⟩ := fun b hb' => by
    have := sign_at (n := b.toNat) hj
    rw [show ((b.toNat : Nat) : Int) = b by have := (hb b hb').1; omega] at this
    exact this
  have hle : ∀ b : Int, (usN b.toNat).getD j 0 ≤ (spec.getD j (0, [])).1 := fun b => okU_le spec _ j (us_ok _)
  have hmem : spec.getD j (0, []) ∈ spec := by
    rw [List.getD_eq_getElem?_getD, List.getElem?_eq_getElem (show j < spec.length from hj), Option.getD_some]
    exact List.getElem_mem _
  obtain ⟨l', hp, hs, x, hx, hxi, rfl⟩ := mid_gen (f := fun b => signAt (rowF b) j) (val := fun b => (((usN b.toNat).getD j 0 : Nat) : Int)) (fun a ha b hb' e => by
    rw [sg a ha, sg b hb'] at e
    by_cases hlt : (usN b.toNat).getD j 0 < (usN a.toNat).getD j 0
    · have := spec_rises _ hmem _ _ hlt (hle a)
      simp [ltCps] at e
      simp only [List.getD_eq_getElem?_getD] at this
      omega
    · omega) h hi
  refine ⟨(usN x.toNat).getD j 0, ⟨l'.map fun b => (usN b.toNat).getD j 0, ?_, ?_, ?_⟩, hle x, sg x hx⟩
  · rw [List.map_map]; exact hp.map _
  · rw [List.pairwise_map] at hs ⊢
    exact hs.imp fun {a b} h => by omega
  · rw [List.getD_eq_getElem?_getD (l := l'.map _), List.getElem?_map, hxi]; rfl
theorem cols_row {ms : List Int} (h3 : 3 ≤ ms.length) (h5 : ms.length ≤ 5) (hb : ∀ b ∈ ms, 0 ≤ b ∧ b < 2 ^ 32) {cs : List Str} (hc : cs.length = 10) {idx k : Nat} (hk : idx + k = ms.length) (h1 : 1 ≤ k)
    (h : ∀ j c, cs[j]? = some c → Mid (ms.map fun b => signAt (rowF b) j) idx c) : Txt.join (Str.ofString "") cs = rowG (reachedF (byAnd (ms.map codeF) 4194303) (k : Int)) := by
  obtain ⟨us, hl, hu⟩ := choose_list (P := fun j u => KthAt ((ms.map fun b => usN b.toNat).map fun l => l.getD j 0) idx u ∧ u ≤ (spec.getD j (0, [])).1 ∧ cs[j]? = some ⟨#[((spec.getD j (0, [])).2).getD u 0]⟩) 10 fun j hj => by
    obtain ⟨c, e⟩ : ∃ c, cs[j]? = some c := ⟨_, List.getElem?_eq_getElem (by omega)⟩
    obtain ⟨u, k1, k2, k3⟩ := col_kth hb hj (by omega) (h j c e)
    exact ⟨u, k1, k2, by rw [e, k3]⟩
  have ok : okU spec us := okU_of spec us hl fun j hj => (hu j hj).2.1
  have hcs : cs = (chs spec us).map fun c => (⟨#[c]⟩ : Str) := by
    apply List.ext_getElem?
    intro j
    by_cases hj : j < 10
    · have e := chs_getD spec us j ok hj
      have hlt : j < (chs spec us).length := by rw [(okU_len spec us ok).2]; exact hj
      rw [List.getD_eq_getElem?_getD, List.getElem?_eq_getElem hlt, Option.getD_some] at e
      rw [(hu j hj).2.2, List.getElem?_map, List.getElem?_eq_getElem hlt, Option.map_some, e]
    · rw [List.getElem?_eq_none (by omega), List.getElem?_eq_none (by rw [List.length_map, (okU_len spec us ok).2]; exact Nat.not_lt.mp hj)]
  have hcode : ms.map codeF = (ms.map fun b => usN b.toNat).map fun l => ((enc spec 0 l : Nat) : Int) := by
    rw [List.map_map]
    exact List.map_congr_left fun b hb' => by
      have := code_enc b.toNat
      rw [show ((b.toNat : Nat) : Int) = b by have := (hb b hb').1; omega] at this
      exact this
  have key := and_rows (sp := spec) (uss := ms.map fun b => usN b.toNat) (us := us) (idx := idx) h1 (by simpa using h3) (by simpa using h5) (by simpa using hk) (fun l hl' => by
    obtain ⟨b, _, rfl⟩ := List.mem_map.mp hl'
    exact us_ok _) hl (colsOK_of us _ fun j hj => (hu j (by omega)).1)
  rw [show ((topOf spec 0 : Nat) : Int) = 4194303 by decide] at key
  rw [hcode, key, rowG_enc ok, hcs, join_singles]
theorem byAnd_len (ns : List Int) (top : Int) : (byAnd ns top).length = ns.length + 1 := by
  unfold byAnd; rw [sumBy_len, List.length_replicate]
theorem byLeast_len (ns : List Int) (top : Int) : (byLeast ns top).length = ns.length + 1 := by
  unfold byLeast; rw [sumBy_len, List.length_replicate]
theorem sumBy_bd {sel : Trip → Int} : ∀ (cs : List Trip) (l : List Int) (M : Int), 0 ≤ M → (∀ c ∈ cs, 0 ≤ sel c ∧ sel c ≤ 2 ^ 22) → (∀ x ∈ l, 0 ≤ x ∧ x ≤ M) → ∀ x ∈ sumBy sel l cs, 0 ≤ x ∧ x ≤ M + cs.length * 2 ^ 22
  | [], l, M, _, _, h, x, hx => by have := h x hx; simp; omega
  | c :: cs, l, M, hM, hc, h, x, hx => by
    have h1 := hc c List.mem_cons_self
    have := sumBy_bd cs (l.set c.1.toNat (l.getD c.1.toNat 0 + sel c)) (M + 2 ^ 22) (by omega) (fun d hd => hc d (List.mem_cons_of_mem _ hd)) (fun y hy => by
      rcases List.mem_or_eq_of_mem_set hy with hy | rfl
      · have := h y hy; omega
      · rw [List.getD_eq_getElem?_getD]
        cases e : l[c.1.toNat]? with
        | none => simp; omega
        | some z =>
          have := h z (List.mem_of_getElem? e)
          simp; omega) x hx
    rw [List.length_cons, Int.natCast_add]
    omega
theorem choices_len : ∀ (ns : List Int) (cs : List Trip), (ns.foldl growT cs).length = cs.length * 2 ^ ns.length
  | [], cs => by simp
  | v :: ns, cs => by
    rw [List.foldl_cons, choices_len ns (growT cs v)]
    unfold growT
    rw [List.length_append, List.length_map, List.length_cons, Nat.pow_succ]
    have : (cs.length + cs.length) * 2 ^ ns.length = cs.length * 2 ^ ns.length + cs.length * 2 ^ ns.length := Nat.add_mul _ _ _
    rw [this, ← Nat.mul_assoc, Nat.mul_two]
theorem choices_bd : ∀ (ns : List Int) (cs : List Trip), (∀ x ∈ ns, 0 ≤ x ∧ x ≤ 2 ^ 22) → (∀ c ∈ cs, (0 ≤ c.2.1 ∧ c.2.1 ≤ 2 ^ 22) ∧ 0 ≤ c.2.2 ∧ c.2.2 ≤ 2 ^ 22) → ∀ c ∈ ns.foldl growT cs, (0 ≤ c.2.1 ∧ c.2.1 ≤ 2 ^ 22) ∧ 0 ≤ c.2.2 ∧ c.2.2 ≤ 2 ^ 22
  | [], _, _, h => h
  | v :: ns, cs, hn, h => by
    have hv := hn v List.mem_cons_self
    refine choices_bd ns (growT cs v) (fun x hx => hn x (List.mem_cons_of_mem _ hx)) fun c hc => ?_
    rcases List.mem_append.mp hc with hc | hc
    · exact h c hc
    · obtain ⟨d, hd, rfl⟩ := List.mem_map.mp hc
      have := h d hd
      unfold stepT
      refine ⟨?_, ?_⟩
      · obtain ⟨a, ha⟩ := Int.eq_ofNat_of_zero_le this.1.1
        obtain ⟨b, hb⟩ := Int.eq_ofNat_of_zero_le hv.1
        dsimp only
        rw [ha, hb, band_nat]
        have h1 : a &&& b ≤ a := Nat.and_le_left
        omega
      · dsimp only
        split <;> omega
theorem by_bd {ns : List Int} {top : Int} {sel : Trip → Int} (hn : ns.length ≤ 5) (ht : 0 ≤ top) (ht' : top ≤ 2 ^ 22) (h : ∀ x ∈ ns, 0 ≤ x ∧ x ≤ 2 ^ 22) (hs : ∀ c : Trip, ((0 ≤ c.2.1 ∧ c.2.1 ≤ 2 ^ 22) ∧ 0 ≤ c.2.2 ∧ c.2.2 ≤ 2 ^ 22) → 0 ≤ sel c ∧ sel c ≤ 2 ^ 22) :
    ∀ x ∈ sumBy sel (List.replicate (ns.length + 1) 0) (choicesT ns top), -(2 ^ 40) ≤ x ∧ x ≤ 2 ^ 40 := fun x hx => by
  have hl := choices_len ns [(0, top, top)]
  have hp : 2 ^ ns.length ≤ 2 ^ 5 := Nat.pow_le_pow_right (by decide) hn
  have := sumBy_bd (sel := sel) (choicesT ns top) (List.replicate (ns.length + 1) 0) 0 (by decide) (fun c hc => hs c (choices_bd ns [(0, top, top)] h (by simp; omega) c hc)) (fun y hy => by
    rw [(List.mem_replicate.mp hy).2]; decide) x hx
  rw [show (choicesT ns top).length = 1 * 2 ^ ns.length from hl] at this
  omega
theorem byAnd_bd {ns : List Int} {top : Int} (hn : ns.length ≤ 5) (ht : 0 ≤ top) (ht' : top ≤ 2 ^ 22) (h : ∀ x ∈ ns, 0 ≤ x ∧ x ≤ 2 ^ 22) : ∀ x ∈ byAnd ns top, -(2 ^ 40) ≤ x ∧ x ≤ 2 ^ 40 :=
  by_bd hn ht ht' h fun _ hc => hc.1
theorem byLeast_bd {ns : List Int} {top : Int} (hn : ns.length ≤ 5) (ht : 0 ≤ top) (ht' : top ≤ 2 ^ 22) (h : ∀ x ∈ ns, 0 ≤ x ∧ x ≤ 2 ^ 22) : ∀ x ∈ byLeast ns top, -(2 ^ 40) ≤ x ∧ x ≤ 2 ^ 40 :=
  by_bd hn ht ht' h fun _ hc => hc.2
theorem imode_map {ms : List Int} (hb : ∀ b ∈ ms, 0 ≤ b ∧ b < 2 ^ 32) : (ms.map fun b => Builtin.bitAnd b 4095) = ms.map fun b => b.fmod 4096 :=
  List.map_congr_left fun b hb' => by
    obtain ⟨n, rfl⟩ := Int.eq_ofNat_of_zero_le (hb b hb').1
    rw [show (4095 : Int) = ((4095 : Nat) : Int) from rfl, band_nat, show (4096 : Int) = ((4096 : Nat) : Int) from rfl, fmod_nat]
    have := Nat.and_two_pow_sub_one_eq_mod n 12
    rw [show (2 ^ 12 - 1 : Nat) = 4095 from rfl] at this
    rw [this]
theorem ifmt_map {ms : List Int} (hb : ∀ b ∈ ms, 0 ≤ b ∧ b < 2 ^ 32) : (ms.map fun b => Builtin.bitAnd b 61440) = ms.map fun b => (b.fdiv 4096).fmod 16 * 4096 :=
  List.map_congr_left fun b hb' => by
    obtain ⟨n, rfl⟩ := Int.eq_ofNat_of_zero_le (hb b hb').1
    rw [show (61440 : Int) = ((61440 : Nat) : Int) from rfl, band_nat, kind_and, show (4096 : Int) = ((4096 : Nat) : Int) from rfl, fdiv_nat, show (16 : Int) = ((16 : Nat) : Int) from rfl, fmod_nat]
    omega
end
section
open PySem PySem.W PyProof.Rows PySem.Calls PySem.Spec
open PySem.Float64 in
theorem right_unique {r r' : UInt64} {neg : Bool} {W D : Nat} (hD : 0 < D) (h : Right r neg W D) (h' : Right r' neg W D) : r = r' := by
  have half : ∀ t t' : Nat, t < infMag → t' < infMag → (t < infMag → ∀ t', dist W (D * V t) ≤ dist W (D * V t') ∧ (V t' ≠ V t → dist W (D * V t) = dist W (D * V t') → t % 2 = 0)) →
      (t' < infMag → ∀ t, dist W (D * V t') ≤ dist W (D * V t) ∧ (V t ≠ V t' → dist W (D * V t') = dist W (D * V t) → t' % 2 = 0)) → t < t' → False := by
    intro t t' h1 h2 k k' hlt
    have k1 := k h1 t'
    have k2 := k' h2 t
    have hV := V_lt hlt
    have e : dist W (D * V t) = dist W (D * V t') := by omega
    have p1 := k1.2 (by omega) e
    have p2 := k2.2 (by omega) e.symm
    have hb : t + 1 < t' := by omega
    have a1 := Nat.mul_lt_mul_of_pos_left (V_succ t) hD
    have a2 := Nat.mul_lt_mul_of_pos_left (V_lt hb) hD
    have k3 := (k h1 (t + 1)).1
    unfold dist at e k3
    omega
  obtain ⟨t, rfl, ht, hi, hk⟩ := h
  obtain ⟨t', rfl, ht', hi', hk'⟩ := h'
  by_cases c : D * ((2 ^ 54 - 1) * 2 ^ 2045) ≤ 2 * W
  · rw [hi.mpr c, hi'.mpr c]
  · have h1 : t ≠ infMag := fun e => c (hi.mp e)
    have h2 : t' ≠ infMag := fun e => c (hi'.mp e)
    have h3 : t < infMag := by omega
    have h4 : t' < infMag := by omega
    rcases Nat.lt_trichotomy t t' with l | l | l
    · exact (half t t' h3 h4 hk hk' l).elim
    · rw [l]
    · exact (half t' t h4 h3 hk' hk l).elim
theorem ofFrac_scale {neg : Bool} {n d k : Nat} (hd : 0 < d) (hk : 0 < k) : Float64.ofFrac neg (k * n) (k * d) = Float64.ofFrac neg n d := by
  have hkd : 0 < k * d := Nat.mul_pos hk hd
  refine right_unique (W := n * 2 ^ 1074 * k) (D := k * d) hkd (Float64.ofFrac_right hkd ?_ hkd) (Float64.ofFrac_right hd ?_ hkd)
  · rw [show k * n * 2 ^ 1074 = n * 2 ^ 1074 * k by rw [Nat.mul_comm k n, Nat.mul_right_comm]]
  · exact (Nat.mul_assoc _ _ _).symm
theorem divF_scale {w m k : Int} (hm : 0 < m) (hk : 0 < k) : divF (m * w) (m * k) = divF w k := by
  unfold divF
  rw [Int.natAbs_mul, Int.natAbs_mul, ofFrac_scale (by omega) (by omega)]
  have e1 : decide (m * w < 0) = decide (w < 0) := by
    have : m * w < 0 ↔ w < 0 := by
      constructor
      · intro h
        by_cases hw : w < 0
        · exact hw
        · have := Int.mul_nonneg (Int.le_of_lt hm) (Int.not_lt.mp hw); omega
      · intro h; exact Int.mul_neg_of_pos_of_neg hm h
    simp [this]
  have e2 : decide (m * k < 0) = decide (k < 0) := by
    have := Int.mul_pos hm hk
    simp; omega
  rw [e1, e2]
end
section
open PySem PySem.W PyProof.Rows PySem.Calls PySem.Spec
theorem points_eq {ns ss : List Int} {top : Int} (h3 : 3 ≤ ns.length) (h5 : ns.length ≤ 5) (ht : ∀ x ∈ ns, x ≤ top) (hp : ss.Perm ns) (hs : ss.Pairwise (· ≤ ·)) : pointsF (byLeast ns top) = ss := by
  apply List.ext_getElem?
  intro j
  unfold pointsF
  rw [byLeast_len, List.getElem?_map]
  by_cases hj : j < ns.length
  · have hj' : j < ss.length := by rw [hp.length_eq]; exact hj
    rw [List.getElem?_range (by (first | lia | omega)), Option.map_some, List.getElem?_eq_getElem hj']
    have he : (((ns.length + 1 : Nat) : Int) - 1 - (j : Int)) = ((ns.length - j : Nat) : Int) := by (first | lia | omega)
    rw [he, kth hp hs h3 h5 ht (idx := j) (by (first | lia | omega)) (by (first | lia | omega)), List.getD_eq_getElem?_getD, List.getElem?_eq_getElem hj', Option.getD_some]
  · rw [List.getElem?_eq_none (by rw [List.length_range]; (first | lia | omega)), List.getElem?_eq_none (by rw [hp.length_eq]; (first | lia | omega))]
    rfl
theorem ex3_1 {a b c : Int} : exAt [a, b, c] 1 = divF (wayAt (extF [a, b, c]) 0 1) 4 := by
  have hj : exj 3 1 = 1 := by decide
  have he : exNum [a, b, c] 3 1 = 4 * wayAt (extF [a, b, c]) 0 1 := by
    unfold exNum
    rw [hj]
    simp [wayAt, extF]
    (first | lia | omega)
  show divF (exNum [a, b, c] 3 1) (4 * 4) = _
  rw [he]
  exact divF_scale (by decide) (by decide)
theorem ex3_2 {a b c : Int} : exAt [a, b, c] 2 = divF (wayAt (extF [a, b, c]) 0 2) 4 := by
  have hj : exj 3 2 = 1 := by decide
  have he : exNum [a, b, c] 3 2 = 4 * wayAt (extF [a, b, c]) 0 2 := by
    unfold exNum
    rw [hj]
    simp [wayAt, extF]
    (first | lia | omega)
  show divF (exNum [a, b, c] 3 2) (4 * 4) = _
  rw [he]
  exact divF_scale (by decide) (by decide)
theorem ex3_3 {a b c : Int} : exAt [a, b, c] 3 = divF (wayAt (extF [a, b, c]) 0 3) 4 := by
  have hj : exj 3 3 = 1 := by decide
  have he : exNum [a, b, c] 3 3 = 4 * wayAt (extF [a, b, c]) 0 3 := by
    unfold exNum
    rw [hj]
    simp [wayAt, extF]
    (first | lia | omega)
  show divF (exNum [a, b, c] 3 3) (4 * 4) = _
  rw [he]
  exact divF_scale (by decide) (by decide)
theorem ex3_4 {a b c : Int} : exAt [a, b, c] 4 = divF (wayAt (extF [a, b, c]) 0 4) 4 := by
  have hj : exj 3 4 = 1 := by decide
  have he : exNum [a, b, c] 3 4 = 4 * wayAt (extF [a, b, c]) 0 4 := by
    unfold exNum
    rw [hj]
    simp [wayAt, extF]
    (first | lia | omega)
  show divF (exNum [a, b, c] 3 4) (4 * 4) = _
  rw [he]
  exact divF_scale (by decide) (by decide)
theorem ex3_5 {a b c : Int} : exAt [a, b, c] 5 = divF (wayAt (extF [a, b, c]) 1 1) 4 := by
  have hj : exj 3 5 = 1 := by decide
  have he : exNum [a, b, c] 3 5 = 4 * wayAt (extF [a, b, c]) 1 1 := by
    unfold exNum
    rw [hj]
    simp [wayAt, extF]
    (first | lia | omega)
  show divF (exNum [a, b, c] 3 5) (4 * 4) = _
  rw [he]
  exact divF_scale (by decide) (by decide)
theorem ex3_6 {a b c : Int} : exAt [a, b, c] 6 = divF (wayAt (extF [a, b, c]) 1 2) 4 := by
  have hj : exj 3 6 = 1 := by decide
  have he : exNum [a, b, c] 3 6 = 4 * wayAt (extF [a, b, c]) 1 2 := by
    unfold exNum
    rw [hj]
    simp [wayAt, extF]
    (first | lia | omega)
  show divF (exNum [a, b, c] 3 6) (4 * 4) = _
  rw [he]
  exact divF_scale (by decide) (by decide)
theorem ex3_7 {a b c : Int} : exAt [a, b, c] 7 = divF (wayAt (extF [a, b, c]) 1 3) 4 := by
  have hj : exj 3 7 = 1 := by decide
  have he : exNum [a, b, c] 3 7 = 4 * wayAt (extF [a, b, c]) 1 3 := by
    unfold exNum
    rw [hj]
    simp [wayAt, extF]
    (first | lia | omega)
  show divF (exNum [a, b, c] 3 7) (4 * 4) = _
  rw [he]
  exact divF_scale (by decide) (by decide)
theorem ex3_8 {a b c : Int} : exAt [a, b, c] 8 = divF (wayAt (extF [a, b, c]) 1 4) 4 := by
  have hj : exj 3 8 = 2 := by decide
  have he : exNum [a, b, c] 3 8 = 4 * wayAt (extF [a, b, c]) 1 4 := by
    unfold exNum
    rw [hj]
    simp [wayAt, extF]
    (first | lia | omega)
  show divF (exNum [a, b, c] 3 8) (4 * 4) = _
  rw [he]
  exact divF_scale (by decide) (by decide)
theorem ex3_9 {a b c : Int} : exAt [a, b, c] 9 = divF (wayAt (extF [a, b, c]) 2 1) 4 := by
  have hj : exj 3 9 = 2 := by decide
  have he : exNum [a, b, c] 3 9 = 4 * wayAt (extF [a, b, c]) 2 1 := by
    unfold exNum
    rw [hj]
    simp [wayAt, extF]
    (first | lia | omega)
  show divF (exNum [a, b, c] 3 9) (4 * 4) = _
  rw [he]
  exact divF_scale (by decide) (by decide)
theorem ex3_10 {a b c : Int} : exAt [a, b, c] 10 = divF (wayAt (extF [a, b, c]) 2 2) 4 := by
  have hj : exj 3 10 = 2 := by decide
  have he : exNum [a, b, c] 3 10 = 4 * wayAt (extF [a, b, c]) 2 2 := by
    unfold exNum
    rw [hj]
    simp [wayAt, extF]
    (first | lia | omega)
  show divF (exNum [a, b, c] 3 10) (4 * 4) = _
  rw [he]
  exact divF_scale (by decide) (by decide)
theorem ex3_11 {a b c : Int} : exAt [a, b, c] 11 = divF (wayAt (extF [a, b, c]) 2 3) 4 := by
  have hj : exj 3 11 = 2 := by decide
  have he : exNum [a, b, c] 3 11 = 4 * wayAt (extF [a, b, c]) 2 3 := by
    unfold exNum
    rw [hj]
    simp [wayAt, extF]
    (first | lia | omega)
  show divF (exNum [a, b, c] 3 11) (4 * 4) = _
  rw [he]
  exact divF_scale (by decide) (by decide)
theorem ex3_12 {a b c : Int} : exAt [a, b, c] 12 = divF (wayAt (extF [a, b, c]) 2 4) 4 := by
  have hj : exj 3 12 = 2 := by decide
  have he : exNum [a, b, c] 3 12 = 4 * wayAt (extF [a, b, c]) 2 4 := by
    unfold exNum
    rw [hj]
    simp [wayAt, extF]
    (first | lia | omega)
  show divF (exNum [a, b, c] 3 12) (4 * 4) = _
  rw [he]
  exact divF_scale (by decide) (by decide)
theorem ex3_13 {a b c : Int} : exAt [a, b, c] 13 = divF (wayAt (extF [a, b, c]) 3 1) 4 := by
  have hj : exj 3 13 = 2 := by decide
  have he : exNum [a, b, c] 3 13 = 4 * wayAt (extF [a, b, c]) 3 1 := by
    unfold exNum
    rw [hj]
    simp [wayAt, extF]
    (first | lia | omega)
  show divF (exNum [a, b, c] 3 13) (4 * 4) = _
  rw [he]
  exact divF_scale (by decide) (by decide)
theorem ex3_14 {a b c : Int} : exAt [a, b, c] 14 = divF (wayAt (extF [a, b, c]) 3 2) 4 := by
  have hj : exj 3 14 = 2 := by decide
  have he : exNum [a, b, c] 3 14 = 4 * wayAt (extF [a, b, c]) 3 2 := by
    unfold exNum
    rw [hj]
    simp [wayAt, extF]
    (first | lia | omega)
  show divF (exNum [a, b, c] 3 14) (4 * 4) = _
  rw [he]
  exact divF_scale (by decide) (by decide)
theorem ex3_15 {a b c : Int} : exAt [a, b, c] 15 = divF (wayAt (extF [a, b, c]) 3 3) 4 := by
  have hj : exj 3 15 = 2 := by decide
  have he : exNum [a, b, c] 3 15 = 4 * wayAt (extF [a, b, c]) 3 3 := by
    unfold exNum
    rw [hj]
    simp [wayAt, extF]
    (first | lia | omega)
  show divF (exNum [a, b, c] 3 15) (4 * 4) = _
  rw [he]
  exact divF_scale (by decide) (by decide)
theorem in3_1 {a b c : Int} : inAt [a, b, c] 1 = divF (wayAt (extF [a, b, c]) 1 1) 4 := by
  have h1 : (((1 : Int) * (3 - 1)).fdiv (4 * 3 - 4)) = 0 := by decide
  have h2 : (((1 : Int) * (3 - 1)).fmod (4 * 3 - 4)) = 2 := by decide
  have he : inNum [a, b, c] 3 1 = 2 * wayAt (extF [a, b, c]) 1 1 := by
    unfold inNum
    rw [h1, h2]
    simp [wayAt, extF]
    (first | lia | omega)
  show divF (inNum [a, b, c] 3 1) (2 * 4) = _
  rw [he]
  exact divF_scale (by decide) (by decide)
theorem in3_2 {a b c : Int} : inAt [a, b, c] 2 = divF (wayAt (extF [a, b, c]) 1 2) 4 := by
  have h1 : (((2 : Int) * (3 - 1)).fdiv (4 * 3 - 4)) = 0 := by decide
  have h2 : (((2 : Int) * (3 - 1)).fmod (4 * 3 - 4)) = 4 := by decide
  have he : inNum [a, b, c] 3 2 = 2 * wayAt (extF [a, b, c]) 1 2 := by
    unfold inNum
    rw [h1, h2]
    simp [wayAt, extF]
    (first | lia | omega)
  show divF (inNum [a, b, c] 3 2) (2 * 4) = _
  rw [he]
  exact divF_scale (by decide) (by decide)
theorem in3_3 {a b c : Int} : inAt [a, b, c] 3 = divF (wayAt (extF [a, b, c]) 1 3) 4 := by
  have h1 : (((3 : Int) * (3 - 1)).fdiv (4 * 3 - 4)) = 0 := by decide
  have h2 : (((3 : Int) * (3 - 1)).fmod (4 * 3 - 4)) = 6 := by decide
  have he : inNum [a, b, c] 3 3 = 2 * wayAt (extF [a, b, c]) 1 3 := by
    unfold inNum
    rw [h1, h2]
    simp [wayAt, extF]
    (first | lia | omega)
  show divF (inNum [a, b, c] 3 3) (2 * 4) = _
  rw [he]
  exact divF_scale (by decide) (by decide)
theorem in3_4 {a b c : Int} : inAt [a, b, c] 4 = divF (wayAt (extF [a, b, c]) 1 4) 4 := by
  have h1 : (((4 : Int) * (3 - 1)).fdiv (4 * 3 - 4)) = 1 := by decide
  have h2 : (((4 : Int) * (3 - 1)).fmod (4 * 3 - 4)) = 0 := by decide
  have he : inNum [a, b, c] 3 4 = 2 * wayAt (extF [a, b, c]) 1 4 := by
    unfold inNum
    rw [h1, h2]
    simp [wayAt, extF]
    (first | lia | omega)
  show divF (inNum [a, b, c] 3 4) (2 * 4) = _
  rw [he]
  exact divF_scale (by decide) (by decide)
theorem in3_5 {a b c : Int} : inAt [a, b, c] 5 = divF (wayAt (extF [a, b, c]) 2 1) 4 := by
  have h1 : (((5 : Int) * (3 - 1)).fdiv (4 * 3 - 4)) = 1 := by decide
  have h2 : (((5 : Int) * (3 - 1)).fmod (4 * 3 - 4)) = 2 := by decide
  have he : inNum [a, b, c] 3 5 = 2 * wayAt (extF [a, b, c]) 2 1 := by
    unfold inNum
    rw [h1, h2]
    simp [wayAt, extF]
    (first | lia | omega)
  show divF (inNum [a, b, c] 3 5) (2 * 4) = _
  rw [he]
  exact divF_scale (by decide) (by decide)
theorem in3_6 {a b c : Int} : inAt [a, b, c] 6 = divF (wayAt (extF [a, b, c]) 2 2) 4 := by
  have h1 : (((6 : Int) * (3 - 1)).fdiv (4 * 3 - 4)) = 1 := by decide
  have h2 : (((6 : Int) * (3 - 1)).fmod (4 * 3 - 4)) = 4 := by decide
  have he : inNum [a, b, c] 3 6 = 2 * wayAt (extF [a, b, c]) 2 2 := by
    unfold inNum
    rw [h1, h2]
    simp [wayAt, extF]
    (first | lia | omega)
  show divF (inNum [a, b, c] 3 6) (2 * 4) = _
  rw [he]
  exact divF_scale (by decide) (by decide)
theorem in3_7 {a b c : Int} : inAt [a, b, c] 7 = divF (wayAt (extF [a, b, c]) 2 3) 4 := by
  have h1 : (((7 : Int) * (3 - 1)).fdiv (4 * 3 - 4)) = 1 := by decide
  have h2 : (((7 : Int) * (3 - 1)).fmod (4 * 3 - 4)) = 6 := by decide
  have he : inNum [a, b, c] 3 7 = 2 * wayAt (extF [a, b, c]) 2 3 := by
    unfold inNum
    rw [h1, h2]
    simp [wayAt, extF]
    (first | lia | omega)
  show divF (inNum [a, b, c] 3 7) (2 * 4) = _
  rw [he]
  exact divF_scale (by decide) (by decide)
theorem out3 {a b c : Int} : ((List.range (4 * [a, b, c].length + 3)).map fun x : Nat => exAt [a, b, c] (1 + (x : Int))) = cutsF [a, b, c] := by
  show [exAt [a, b, c] 1, exAt [a, b, c] 2, exAt [a, b, c] 3, exAt [a, b, c] 4, exAt [a, b, c] 5, exAt [a, b, c] 6, exAt [a, b, c] 7, exAt [a, b, c] 8, exAt [a, b, c] 9, exAt [a, b, c] 10, exAt [a, b, c] 11, exAt [a, b, c] 12, exAt [a, b, c] 13, exAt [a, b, c] 14, exAt [a, b, c] 15] = [divF (wayAt (extF [a, b, c]) 0 1) 4, divF (wayAt (extF [a, b, c]) 0 2) 4, divF (wayAt (extF [a, b, c]) 0 3) 4, divF (wayAt (extF [a, b, c]) 0 4) 4, divF (wayAt (extF [a, b, c]) 1 1) 4, divF (wayAt (extF [a, b, c]) 1 2) 4, divF (wayAt (extF [a, b, c]) 1 3) 4, divF (wayAt (extF [a, b, c]) 1 4) 4, divF (wayAt (extF [a, b, c]) 2 1) 4, divF (wayAt (extF [a, b, c]) 2 2) 4, divF (wayAt (extF [a, b, c]) 2 3) 4, divF (wayAt (extF [a, b, c]) 2 4) 4, divF (wayAt (extF [a, b, c]) 3 1) 4, divF (wayAt (extF [a, b, c]) 3 2) 4, divF (wayAt (extF [a, b, c]) 3 3) 4]
  rw [ex3_1, ex3_2, ex3_3, ex3_4, ex3_5, ex3_6, ex3_7, ex3_8, ex3_9, ex3_10, ex3_11, ex3_12, ex3_13, ex3_14, ex3_15]
theorem inn3 {a b c : Int} : ((List.range (4 * [a, b, c].length - 5)).map fun x : Nat => inAt [a, b, c] (1 + (x : Int))) = ((cutsF [a, b, c]).drop 4).take (4 * [a, b, c].length - 5) := by
  show [inAt [a, b, c] 1, inAt [a, b, c] 2, inAt [a, b, c] 3, inAt [a, b, c] 4, inAt [a, b, c] 5, inAt [a, b, c] 6, inAt [a, b, c] 7] = [divF (wayAt (extF [a, b, c]) 1 1) 4, divF (wayAt (extF [a, b, c]) 1 2) 4, divF (wayAt (extF [a, b, c]) 1 3) 4, divF (wayAt (extF [a, b, c]) 1 4) 4, divF (wayAt (extF [a, b, c]) 2 1) 4, divF (wayAt (extF [a, b, c]) 2 2) 4, divF (wayAt (extF [a, b, c]) 2 3) 4]
  rw [in3_1, in3_2, in3_3, in3_4, in3_5, in3_6, in3_7]
theorem ex4_1 {a b c d : Int} : exAt [a, b, c, d] 1 = divF (wayAt (extF [a, b, c, d]) 0 1) 4 := by
  have hj : exj 4 1 = 1 := by decide
  have he : exNum [a, b, c, d] 4 1 = 5 * wayAt (extF [a, b, c, d]) 0 1 := by
    unfold exNum
    rw [hj]
    simp [wayAt, extF]
    (first | lia | omega)
  show divF (exNum [a, b, c, d] 4 1) (5 * 4) = _
  rw [he]
  exact divF_scale (by decide) (by decide)
theorem ex4_2 {a b c d : Int} : exAt [a, b, c, d] 2 = divF (wayAt (extF [a, b, c, d]) 0 2) 4 := by
  have hj : exj 4 2 = 1 := by decide
  have he : exNum [a, b, c, d] 4 2 = 5 * wayAt (extF [a, b, c, d]) 0 2 := by
    unfold exNum
    rw [hj]
    simp [wayAt, extF]
    (first | lia | omega)
  show divF (exNum [a, b, c, d] 4 2) (5 * 4) = _
  rw [he]
  exact divF_scale (by decide) (by decide)
theorem ex4_3 {a b c d : Int} : exAt [a, b, c, d] 3 = divF (wayAt (extF [a, b, c, d]) 0 3) 4 := by
  have hj : exj 4 3 = 1 := by decide
  have he : exNum [a, b, c, d] 4 3 = 5 * wayAt (extF [a, b, c, d]) 0 3 := by
    unfold exNum
    rw [hj]
    simp [wayAt, extF]
    (first | lia | omega)
  show divF (exNum [a, b, c, d] 4 3) (5 * 4) = _
  rw [he]
  exact divF_scale (by decide) (by decide)
theorem ex4_4 {a b c d : Int} : exAt [a, b, c, d] 4 = divF (wayAt (extF [a, b, c, d]) 0 4) 4 := by
  have hj : exj 4 4 = 1 := by decide
  have he : exNum [a, b, c, d] 4 4 = 5 * wayAt (extF [a, b, c, d]) 0 4 := by
    unfold exNum
    rw [hj]
    simp [wayAt, extF]
    (first | lia | omega)
  show divF (exNum [a, b, c, d] 4 4) (5 * 4) = _
  rw [he]
  exact divF_scale (by decide) (by decide)
theorem ex4_5 {a b c d : Int} : exAt [a, b, c, d] 5 = divF (wayAt (extF [a, b, c, d]) 1 1) 4 := by
  have hj : exj 4 5 = 1 := by decide
  have he : exNum [a, b, c, d] 4 5 = 5 * wayAt (extF [a, b, c, d]) 1 1 := by
    unfold exNum
    rw [hj]
    simp [wayAt, extF]
    (first | lia | omega)
  show divF (exNum [a, b, c, d] 4 5) (5 * 4) = _
  rw [he]
  exact divF_scale (by decide) (by decide)
theorem ex4_6 {a b c d : Int} : exAt [a, b, c, d] 6 = divF (wayAt (extF [a, b, c, d]) 1 2) 4 := by
  have hj : exj 4 6 = 1 := by decide
  have he : exNum [a, b, c, d] 4 6 = 5 * wayAt (extF [a, b, c, d]) 1 2 := by
    unfold exNum
    rw [hj]
    simp [wayAt, extF]
    (first | lia | omega)
  show divF (exNum [a, b, c, d] 4 6) (5 * 4) = _
  rw [he]
  exact divF_scale (by decide) (by decide)
theorem ex4_7 {a b c d : Int} : exAt [a, b, c, d] 7 = divF (wayAt (extF [a, b, c, d]) 1 3) 4 := by
  have hj : exj 4 7 = 1 := by decide
  have he : exNum [a, b, c, d] 4 7 = 5 * wayAt (extF [a, b, c, d]) 1 3 := by
    unfold exNum
    rw [hj]
    simp [wayAt, extF]
    (first | lia | omega)
  show divF (exNum [a, b, c, d] 4 7) (5 * 4) = _
  rw [he]
  exact divF_scale (by decide) (by decide)
theorem ex4_8 {a b c d : Int} : exAt [a, b, c, d] 8 = divF (wayAt (extF [a, b, c, d]) 1 4) 4 := by
  have hj : exj 4 8 = 2 := by decide
  have he : exNum [a, b, c, d] 4 8 = 5 * wayAt (extF [a, b, c, d]) 1 4 := by
    unfold exNum
    rw [hj]
    simp [wayAt, extF]
    (first | lia | omega)
  show divF (exNum [a, b, c, d] 4 8) (5 * 4) = _
  rw [he]
  exact divF_scale (by decide) (by decide)
theorem ex4_9 {a b c d : Int} : exAt [a, b, c, d] 9 = divF (wayAt (extF [a, b, c, d]) 2 1) 4 := by
  have hj : exj 4 9 = 2 := by decide
  have he : exNum [a, b, c, d] 4 9 = 5 * wayAt (extF [a, b, c, d]) 2 1 := by
    unfold exNum
    rw [hj]
    simp [wayAt, extF]
    (first | lia | omega)
  show divF (exNum [a, b, c, d] 4 9) (5 * 4) = _
  rw [he]
  exact divF_scale (by decide) (by decide)
theorem ex4_10 {a b c d : Int} : exAt [a, b, c, d] 10 = divF (wayAt (extF [a, b, c, d]) 2 2) 4 := by
  have hj : exj 4 10 = 2 := by decide
  have he : exNum [a, b, c, d] 4 10 = 5 * wayAt (extF [a, b, c, d]) 2 2 := by
    unfold exNum
    rw [hj]
    simp [wayAt, extF]
    (first | lia | omega)
  show divF (exNum [a, b, c, d] 4 10) (5 * 4) = _
  rw [he]
  exact divF_scale (by decide) (by decide)
theorem ex4_11 {a b c d : Int} : exAt [a, b, c, d] 11 = divF (wayAt (extF [a, b, c, d]) 2 3) 4 := by
  have hj : exj 4 11 = 2 := by decide
  have he : exNum [a, b, c, d] 4 11 = 5 * wayAt (extF [a, b, c, d]) 2 3 := by
    unfold exNum
    rw [hj]
    simp [wayAt, extF]
    (first | lia | omega)
  show divF (exNum [a, b, c, d] 4 11) (5 * 4) = _
  rw [he]
  exact divF_scale (by decide) (by decide)
theorem ex4_12 {a b c d : Int} : exAt [a, b, c, d] 12 = divF (wayAt (extF [a, b, c, d]) 2 4) 4 := by
  have hj : exj 4 12 = 3 := by decide
  have he : exNum [a, b, c, d] 4 12 = 5 * wayAt (extF [a, b, c, d]) 2 4 := by
    unfold exNum
    rw [hj]
    simp [wayAt, extF]
    (first | lia | omega)
  show divF (exNum [a, b, c, d] 4 12) (5 * 4) = _
  rw [he]
  exact divF_scale (by decide) (by decide)
theorem ex4_13 {a b c d : Int} : exAt [a, b, c, d] 13 = divF (wayAt (extF [a, b, c, d]) 3 1) 4 := by
  have hj : exj 4 13 = 3 := by decide
  have he : exNum [a, b, c, d] 4 13 = 5 * wayAt (extF [a, b, c, d]) 3 1 := by
    unfold exNum
    rw [hj]
    simp [wayAt, extF]
    (first | lia | omega)
  show divF (exNum [a, b, c, d] 4 13) (5 * 4) = _
  rw [he]
  exact divF_scale (by decide) (by decide)
theorem ex4_14 {a b c d : Int} : exAt [a, b, c, d] 14 = divF (wayAt (extF [a, b, c, d]) 3 2) 4 := by
  have hj : exj 4 14 = 3 := by decide
  have he : exNum [a, b, c, d] 4 14 = 5 * wayAt (extF [a, b, c, d]) 3 2 := by
    unfold exNum
    rw [hj]
    simp [wayAt, extF]
    (first | lia | omega)
  show divF (exNum [a, b, c, d] 4 14) (5 * 4) = _
  rw [he]
  exact divF_scale (by decide) (by decide)
theorem ex4_15 {a b c d : Int} : exAt [a, b, c, d] 15 = divF (wayAt (extF [a, b, c, d]) 3 3) 4 := by
  have hj : exj 4 15 = 3 := by decide
  have he : exNum [a, b, c, d] 4 15 = 5 * wayAt (extF [a, b, c, d]) 3 3 := by
    unfold exNum
    rw [hj]
    simp [wayAt, extF]
    (first | lia | omega)
  show divF (exNum [a, b, c, d] 4 15) (5 * 4) = _
  rw [he]
  exact divF_scale (by decide) (by decide)
theorem ex4_16 {a b c d : Int} : exAt [a, b, c, d] 16 = divF (wayAt (extF [a, b, c, d]) 3 4) 4 := by
  have hj : exj 4 16 = 3 := by decide
  have he : exNum [a, b, c, d] 4 16 = 5 * wayAt (extF [a, b, c, d]) 3 4 := by
    unfold exNum
    rw [hj]
    simp [wayAt, extF]
    (first | lia | omega)
  show divF (exNum [a, b, c, d] 4 16) (5 * 4) = _
  rw [he]
  exact divF_scale (by decide) (by decide)
theorem ex4_17 {a b c d : Int} : exAt [a, b, c, d] 17 = divF (wayAt (extF [a, b, c, d]) 4 1) 4 := by
  have hj : exj 4 17 = 3 := by decide
  have he : exNum [a, b, c, d] 4 17 = 5 * wayAt (extF [a, b, c, d]) 4 1 := by
    unfold exNum
    rw [hj]
    simp [wayAt, extF]
    (first | lia | omega)
  show divF (exNum [a, b, c, d] 4 17) (5 * 4) = _
  rw [he]
  exact divF_scale (by decide) (by decide)
theorem ex4_18 {a b c d : Int} : exAt [a, b, c, d] 18 = divF (wayAt (extF [a, b, c, d]) 4 2) 4 := by
  have hj : exj 4 18 = 3 := by decide
  have he : exNum [a, b, c, d] 4 18 = 5 * wayAt (extF [a, b, c, d]) 4 2 := by
    unfold exNum
    rw [hj]
    simp [wayAt, extF]
    (first | lia | omega)
  show divF (exNum [a, b, c, d] 4 18) (5 * 4) = _
  rw [he]
  exact divF_scale (by decide) (by decide)
theorem ex4_19 {a b c d : Int} : exAt [a, b, c, d] 19 = divF (wayAt (extF [a, b, c, d]) 4 3) 4 := by
  have hj : exj 4 19 = 3 := by decide
  have he : exNum [a, b, c, d] 4 19 = 5 * wayAt (extF [a, b, c, d]) 4 3 := by
    unfold exNum
    rw [hj]
    simp [wayAt, extF]
    (first | lia | omega)
  show divF (exNum [a, b, c, d] 4 19) (5 * 4) = _
  rw [he]
  exact divF_scale (by decide) (by decide)
theorem in4_1 {a b c d : Int} : inAt [a, b, c, d] 1 = divF (wayAt (extF [a, b, c, d]) 1 1) 4 := by
  have h1 : (((1 : Int) * (4 - 1)).fdiv (4 * 4 - 4)) = 0 := by decide
  have h2 : (((1 : Int) * (4 - 1)).fmod (4 * 4 - 4)) = 3 := by decide
  have he : inNum [a, b, c, d] 4 1 = 3 * wayAt (extF [a, b, c, d]) 1 1 := by
    unfold inNum
    rw [h1, h2]
    simp [wayAt, extF]
    (first | lia | omega)
  show divF (inNum [a, b, c, d] 4 1) (3 * 4) = _
  rw [he]
  exact divF_scale (by decide) (by decide)
theorem in4_2 {a b c d : Int} : inAt [a, b, c, d] 2 = divF (wayAt (extF [a, b, c, d]) 1 2) 4 := by
  have h1 : (((2 : Int) * (4 - 1)).fdiv (4 * 4 - 4)) = 0 := by decide
  have h2 : (((2 : Int) * (4 - 1)).fmod (4 * 4 - 4)) = 6 := by decide
  have he : inNum [a, b, c, d] 4 2 = 3 * wayAt (extF [a, b, c, d]) 1 2 := by
    unfold inNum
    rw [h1, h2]
    simp [wayAt, extF]
    (first | lia | omega)
  show divF (inNum [a, b, c, d] 4 2) (3 * 4) = _
  rw [he]
  exact divF_scale (by decide) (by decide)
theorem in4_3 {a b c d : Int} : inAt [a, b, c, d] 3 = divF (wayAt (extF [a, b, c, d]) 1 3) 4 := by
  have h1 : (((3 : Int) * (4 - 1)).fdiv (4 * 4 - 4)) = 0 := by decide
  have h2 : (((3 : Int) * (4 - 1)).fmod (4 * 4 - 4)) = 9 := by decide
  have he : inNum [a, b, c, d] 4 3 = 3 * wayAt (extF [a, b, c, d]) 1 3 := by
    unfold inNum
    rw [h1, h2]
    simp [wayAt, extF]
    (first | lia | omega)
  show divF (inNum [a, b, c, d] 4 3) (3 * 4) = _
  rw [he]
  exact divF_scale (by decide) (by decide)
theorem in4_4 {a b c d : Int} : inAt [a, b, c, d] 4 = divF (wayAt (extF [a, b, c, d]) 1 4) 4 := by
  have h1 : (((4 : Int) * (4 - 1)).fdiv (4 * 4 - 4)) = 1 := by decide
  have h2 : (((4 : Int) * (4 - 1)).fmod (4 * 4 - 4)) = 0 := by decide
  have he : inNum [a, b, c, d] 4 4 = 3 * wayAt (extF [a, b, c, d]) 1 4 := by
    unfold inNum
    rw [h1, h2]
    simp [wayAt, extF]
    (first | lia | omega)
  show divF (inNum [a, b, c, d] 4 4) (3 * 4) = _
  rw [he]
  exact divF_scale (by decide) (by decide)
theorem in4_5 {a b c d : Int} : inAt [a, b, c, d] 5 = divF (wayAt (extF [a, b, c, d]) 2 1) 4 := by
  have h1 : (((5 : Int) * (4 - 1)).fdiv (4 * 4 - 4)) = 1 := by decide
  have h2 : (((5 : Int) * (4 - 1)).fmod (4 * 4 - 4)) = 3 := by decide
  have he : inNum [a, b, c, d] 4 5 = 3 * wayAt (extF [a, b, c, d]) 2 1 := by
    unfold inNum
    rw [h1, h2]
    simp [wayAt, extF]
    (first | lia | omega)
  show divF (inNum [a, b, c, d] 4 5) (3 * 4) = _
  rw [he]
  exact divF_scale (by decide) (by decide)
theorem in4_6 {a b c d : Int} : inAt [a, b, c, d] 6 = divF (wayAt (extF [a, b, c, d]) 2 2) 4 := by
  have h1 : (((6 : Int) * (4 - 1)).fdiv (4 * 4 - 4)) = 1 := by decide
  have h2 : (((6 : Int) * (4 - 1)).fmod (4 * 4 - 4)) = 6 := by decide
  have he : inNum [a, b, c, d] 4 6 = 3 * wayAt (extF [a, b, c, d]) 2 2 := by
    unfold inNum
    rw [h1, h2]
    simp [wayAt, extF]
    (first | lia | omega)
  show divF (inNum [a, b, c, d] 4 6) (3 * 4) = _
  rw [he]
  exact divF_scale (by decide) (by decide)
theorem in4_7 {a b c d : Int} : inAt [a, b, c, d] 7 = divF (wayAt (extF [a, b, c, d]) 2 3) 4 := by
  have h1 : (((7 : Int) * (4 - 1)).fdiv (4 * 4 - 4)) = 1 := by decide
  have h2 : (((7 : Int) * (4 - 1)).fmod (4 * 4 - 4)) = 9 := by decide
  have he : inNum [a, b, c, d] 4 7 = 3 * wayAt (extF [a, b, c, d]) 2 3 := by
    unfold inNum
    rw [h1, h2]
    simp [wayAt, extF]
    (first | lia | omega)
  show divF (inNum [a, b, c, d] 4 7) (3 * 4) = _
  rw [he]
  exact divF_scale (by decide) (by decide)
theorem in4_8 {a b c d : Int} : inAt [a, b, c, d] 8 = divF (wayAt (extF [a, b, c, d]) 2 4) 4 := by
  have h1 : (((8 : Int) * (4 - 1)).fdiv (4 * 4 - 4)) = 2 := by decide
  have h2 : (((8 : Int) * (4 - 1)).fmod (4 * 4 - 4)) = 0 := by decide
  have he : inNum [a, b, c, d] 4 8 = 3 * wayAt (extF [a, b, c, d]) 2 4 := by
    unfold inNum
    rw [h1, h2]
    simp [wayAt, extF]
    (first | lia | omega)
  show divF (inNum [a, b, c, d] 4 8) (3 * 4) = _
  rw [he]
  exact divF_scale (by decide) (by decide)
theorem in4_9 {a b c d : Int} : inAt [a, b, c, d] 9 = divF (wayAt (extF [a, b, c, d]) 3 1) 4 := by
  have h1 : (((9 : Int) * (4 - 1)).fdiv (4 * 4 - 4)) = 2 := by decide
  have h2 : (((9 : Int) * (4 - 1)).fmod (4 * 4 - 4)) = 3 := by decide
  have he : inNum [a, b, c, d] 4 9 = 3 * wayAt (extF [a, b, c, d]) 3 1 := by
    unfold inNum
    rw [h1, h2]
    simp [wayAt, extF]
    (first | lia | omega)
  show divF (inNum [a, b, c, d] 4 9) (3 * 4) = _
  rw [he]
  exact divF_scale (by decide) (by decide)
theorem in4_10 {a b c d : Int} : inAt [a, b, c, d] 10 = divF (wayAt (extF [a, b, c, d]) 3 2) 4 := by
  have h1 : (((10 : Int) * (4 - 1)).fdiv (4 * 4 - 4)) = 2 := by decide
  have h2 : (((10 : Int) * (4 - 1)).fmod (4 * 4 - 4)) = 6 := by decide
  have he : inNum [a, b, c, d] 4 10 = 3 * wayAt (extF [a, b, c, d]) 3 2 := by
    unfold inNum
    rw [h1, h2]
    simp [wayAt, extF]
    (first | lia | omega)
  show divF (inNum [a, b, c, d] 4 10) (3 * 4) = _
  rw [he]
  exact divF_scale (by decide) (by decide)
theorem in4_11 {a b c d : Int} : inAt [a, b, c, d] 11 = divF (wayAt (extF [a, b, c, d]) 3 3) 4 := by
  have h1 : (((11 : Int) * (4 - 1)).fdiv (4 * 4 - 4)) = 2 := by decide
  have h2 : (((11 : Int) * (4 - 1)).fmod (4 * 4 - 4)) = 9 := by decide
  have he : inNum [a, b, c, d] 4 11 = 3 * wayAt (extF [a, b, c, d]) 3 3 := by
    unfold inNum
    rw [h1, h2]
    simp [wayAt, extF]
    (first | lia | omega)
  show divF (inNum [a, b, c, d] 4 11) (3 * 4) = _
  rw [he]
  exact divF_scale (by decide) (by decide)
theorem out4 {a b c d : Int} : ((List.range (4 * [a, b, c, d].length + 3)).map fun x : Nat => exAt [a, b, c, d] (1 + (x : Int))) = cutsF [a, b, c, d] := by
  show [exAt [a, b, c, d] 1, exAt [a, b, c, d] 2, exAt [a, b, c, d] 3, exAt [a, b, c, d] 4, exAt [a, b, c, d] 5, exAt [a, b, c, d] 6, exAt [a, b, c, d] 7, exAt [a, b, c, d] 8, exAt [a, b, c, d] 9, exAt [a, b, c, d] 10, exAt [a, b, c, d] 11, exAt [a, b, c, d] 12, exAt [a, b, c, d] 13, exAt [a, b, c, d] 14, exAt [a, b, c, d] 15, exAt [a, b, c, d] 16, exAt [a, b, c, d] 17, exAt [a, b, c, d] 18, exAt [a, b, c, d] 19] = [divF (wayAt (extF [a, b, c, d]) 0 1) 4, divF (wayAt (extF [a, b, c, d]) 0 2) 4, divF (wayAt (extF [a, b, c, d]) 0 3) 4, divF (wayAt (extF [a, b, c, d]) 0 4) 4, divF (wayAt (extF [a, b, c, d]) 1 1) 4, divF (wayAt (extF [a, b, c, d]) 1 2) 4, divF (wayAt (extF [a, b, c, d]) 1 3) 4, divF (wayAt (extF [a, b, c, d]) 1 4) 4, divF (wayAt (extF [a, b, c, d]) 2 1) 4, divF (wayAt (extF [a, b, c, d]) 2 2) 4, divF (wayAt (extF [a, b, c, d]) 2 3) 4, divF (wayAt (extF [a, b, c, d]) 2 4) 4, divF (wayAt (extF [a, b, c, d]) 3 1) 4, divF (wayAt (extF [a, b, c, d]) 3 2) 4, divF (wayAt (extF [a, b, c, d]) 3 3) 4, divF (wayAt (extF [a, b, c, d]) 3 4) 4, divF (wayAt (extF [a, b, c, d]) 4 1) 4, divF (wayAt (extF [a, b, c, d]) 4 2) 4, divF (wayAt (extF [a, b, c, d]) 4 3) 4]
  rw [ex4_1, ex4_2, ex4_3, ex4_4, ex4_5, ex4_6, ex4_7, ex4_8, ex4_9, ex4_10, ex4_11, ex4_12, ex4_13, ex4_14, ex4_15, ex4_16, ex4_17, ex4_18, ex4_19]
theorem inn4 {a b c d : Int} : ((List.range (4 * [a, b, c, d].length - 5)).map fun x : Nat => inAt [a, b, c, d] (1 + (x : Int))) = ((cutsF [a, b, c, d]).drop 4).take (4 * [a, b, c, d].length - 5) := by
  show [inAt [a, b, c, d] 1, inAt [a, b, c, d] 2, inAt [a, b, c, d] 3, inAt [a, b, c, d] 4, inAt [a, b, c, d] 5, inAt [a, b, c, d] 6, inAt [a, b, c, d] 7, inAt [a, b, c, d] 8, inAt [a, b, c, d] 9, inAt [a, b, c, d] 10, inAt [a, b, c, d] 11] = [divF (wayAt (extF [a, b, c, d]) 1 1) 4, divF (wayAt (extF [a, b, c, d]) 1 2) 4, divF (wayAt (extF [a, b, c, d]) 1 3) 4, divF (wayAt (extF [a, b, c, d]) 1 4) 4, divF (wayAt (extF [a, b, c, d]) 2 1) 4, divF (wayAt (extF [a, b, c, d]) 2 2) 4, divF (wayAt (extF [a, b, c, d]) 2 3) 4, divF (wayAt (extF [a, b, c, d]) 2 4) 4, divF (wayAt (extF [a, b, c, d]) 3 1) 4, divF (wayAt (extF [a, b, c, d]) 3 2) 4, divF (wayAt (extF [a, b, c, d]) 3 3) 4]
  rw [in4_1, in4_2, in4_3, in4_4, in4_5, in4_6, in4_7, in4_8, in4_9, in4_10, in4_11]
theorem ex5_1 {a b c d e : Int} : exAt [a, b, c, d, e] 1 = divF (wayAt (extF [a, b, c, d, e]) 0 1) 4 := by
  have hj : exj 5 1 = 1 := by decide
  have he : exNum [a, b, c, d, e] 5 1 = 6 * wayAt (extF [a, b, c, d, e]) 0 1 := by
    unfold exNum
    rw [hj]
    simp [wayAt, extF]
    (first | lia | omega)
  show divF (exNum [a, b, c, d, e] 5 1) (6 * 4) = _
  rw [he]
  exact divF_scale (by decide) (by decide)
theorem ex5_2 {a b c d e : Int} : exAt [a, b, c, d, e] 2 = divF (wayAt (extF [a, b, c, d, e]) 0 2) 4 := by
  have hj : exj 5 2 = 1 := by decide
  have he : exNum [a, b, c, d, e] 5 2 = 6 * wayAt (extF [a, b, c, d, e]) 0 2 := by
    unfold exNum
    rw [hj]
    simp [wayAt, extF]
    (first | lia | omega)
  show divF (exNum [a, b, c, d, e] 5 2) (6 * 4) = _
  rw [he]
  exact divF_scale (by decide) (by decide)
theorem ex5_3 {a b c d e : Int} : exAt [a, b, c, d, e] 3 = divF (wayAt (extF [a, b, c, d, e]) 0 3) 4 := by
  have hj : exj 5 3 = 1 := by decide
  have he : exNum [a, b, c, d, e] 5 3 = 6 * wayAt (extF [a, b, c, d, e]) 0 3 := by
    unfold exNum
    rw [hj]
    simp [wayAt, extF]
    (first | lia | omega)
  show divF (exNum [a, b, c, d, e] 5 3) (6 * 4) = _
  rw [he]
  exact divF_scale (by decide) (by decide)
theorem ex5_4 {a b c d e : Int} : exAt [a, b, c, d, e] 4 = divF (wayAt (extF [a, b, c, d, e]) 0 4) 4 := by
  have hj : exj 5 4 = 1 := by decide
  have he : exNum [a, b, c, d, e] 5 4 = 6 * wayAt (extF [a, b, c, d, e]) 0 4 := by
    unfold exNum
    rw [hj]
    simp [wayAt, extF]
    (first | lia | omega)
  show divF (exNum [a, b, c, d, e] 5 4) (6 * 4) = _
  rw [he]
  exact divF_scale (by decide) (by decide)
theorem ex5_5 {a b c d e : Int} : exAt [a, b, c, d, e] 5 = divF (wayAt (extF [a, b, c, d, e]) 1 1) 4 := by
  have hj : exj 5 5 = 1 := by decide
  have he : exNum [a, b, c, d, e] 5 5 = 6 * wayAt (extF [a, b, c, d, e]) 1 1 := by
    unfold exNum
    rw [hj]
    simp [wayAt, extF]
    (first | lia | omega)
  show divF (exNum [a, b, c, d, e] 5 5) (6 * 4) = _
  rw [he]
  exact divF_scale (by decide) (by decide)
theorem ex5_6 {a b c d e : Int} : exAt [a, b, c, d, e] 6 = divF (wayAt (extF [a, b, c, d, e]) 1 2) 4 := by
  have hj : exj 5 6 = 1 := by decide
  have he : exNum [a, b, c, d, e] 5 6 = 6 * wayAt (extF [a, b, c, d, e]) 1 2 := by
    unfold exNum
    rw [hj]
    simp [wayAt, extF]
    (first | lia | omega)
  show divF (exNum [a, b, c, d, e] 5 6) (6 * 4) = _
  rw [he]
  exact divF_scale (by decide) (by decide)
theorem ex5_7 {a b c d e : Int} : exAt [a, b, c, d, e] 7 = divF (wayAt (extF [a, b, c, d, e]) 1 3) 4 := by
  have hj : exj 5 7 = 1 := by decide
  have he : exNum [a, b, c, d, e] 5 7 = 6 * wayAt (extF [a, b, c, d, e]) 1 3 := by
    unfold exNum
    rw [hj]
    simp [wayAt, extF]
    (first | lia | omega)
  show divF (exNum [a, b, c, d, e] 5 7) (6 * 4) = _
  rw [he]
  exact divF_scale (by decide) (by decide)
theorem ex5_8 {a b c d e : Int} : exAt [a, b, c, d, e] 8 = divF (wayAt (extF [a, b, c, d, e]) 1 4) 4 := by
  have hj : exj 5 8 = 2 := by decide
  have he : exNum [a, b, c, d, e] 5 8 = 6 * wayAt (extF [a, b, c, d, e]) 1 4 := by
    unfold exNum
    rw [hj]
    simp [wayAt, extF]
    (first | lia | omega)
  show divF (exNum [a, b, c, d, e] 5 8) (6 * 4) = _
  rw [he]
  exact divF_scale (by decide) (by decide)
theorem ex5_9 {a b c d e : Int} : exAt [a, b, c, d, e] 9 = divF (wayAt (extF [a, b, c, d, e]) 2 1) 4 := by
  have hj : exj 5 9 = 2 := by decide
  have he : exNum [a, b, c, d, e] 5 9 = 6 * wayAt (extF [a, b, c, d, e]) 2 1 := by
    unfold exNum
    rw [hj]
    simp [wayAt, extF]
    (first | lia | omega)
  show divF (exNum [a, b, c, d, e] 5 9) (6 * 4) = _
  rw [he]
  exact divF_scale (by decide) (by decide)
theorem ex5_10 {a b c d e : Int} : exAt [a, b, c, d, e] 10 = divF (wayAt (extF [a, b, c, d, e]) 2 2) 4 := by
  have hj : exj 5 10 = 2 := by decide
  have he : exNum [a, b, c, d, e] 5 10 = 6 * wayAt (extF [a, b, c, d, e]) 2 2 := by
    unfold exNum
    rw [hj]
    simp [wayAt, extF]
    (first | lia | omega)
  show divF (exNum [a, b, c, d, e] 5 10) (6 * 4) = _
  rw [he]
  exact divF_scale (by decide) (by decide)
theorem ex5_11 {a b c d e : Int} : exAt [a, b, c, d, e] 11 = divF (wayAt (extF [a, b, c, d, e]) 2 3) 4 := by
  have hj : exj 5 11 = 2 := by decide
  have he : exNum [a, b, c, d, e] 5 11 = 6 * wayAt (extF [a, b, c, d, e]) 2 3 := by
    unfold exNum
    rw [hj]
    simp [wayAt, extF]
    (first | lia | omega)
  show divF (exNum [a, b, c, d, e] 5 11) (6 * 4) = _
  rw [he]
  exact divF_scale (by decide) (by decide)
theorem ex5_12 {a b c d e : Int} : exAt [a, b, c, d, e] 12 = divF (wayAt (extF [a, b, c, d, e]) 2 4) 4 := by
  have hj : exj 5 12 = 3 := by decide
  have he : exNum [a, b, c, d, e] 5 12 = 6 * wayAt (extF [a, b, c, d, e]) 2 4 := by
    unfold exNum
    rw [hj]
    simp [wayAt, extF]
    (first | lia | omega)
  show divF (exNum [a, b, c, d, e] 5 12) (6 * 4) = _
  rw [he]
  exact divF_scale (by decide) (by decide)
theorem ex5_13 {a b c d e : Int} : exAt [a, b, c, d, e] 13 = divF (wayAt (extF [a, b, c, d, e]) 3 1) 4 := by
  have hj : exj 5 13 = 3 := by decide
  have he : exNum [a, b, c, d, e] 5 13 = 6 * wayAt (extF [a, b, c, d, e]) 3 1 := by
    unfold exNum
    rw [hj]
    simp [wayAt, extF]
    (first | lia | omega)
  show divF (exNum [a, b, c, d, e] 5 13) (6 * 4) = _
  rw [he]
  exact divF_scale (by decide) (by decide)
theorem ex5_14 {a b c d e : Int} : exAt [a, b, c, d, e] 14 = divF (wayAt (extF [a, b, c, d, e]) 3 2) 4 := by
  have hj : exj 5 14 = 3 := by decide
  have he : exNum [a, b, c, d, e] 5 14 = 6 * wayAt (extF [a, b, c, d, e]) 3 2 := by
    unfold exNum
    rw [hj]
    simp [wayAt, extF]
    (first | lia | omega)
  show divF (exNum [a, b, c, d, e] 5 14) (6 * 4) = _
  rw [he]
  exact divF_scale (by decide) (by decide)
theorem ex5_15 {a b c d e : Int} : exAt [a, b, c, d, e] 15 = divF (wayAt (extF [a, b, c, d, e]) 3 3) 4 := by
  have hj : exj 5 15 = 3 := by decide
  have he : exNum [a, b, c, d, e] 5 15 = 6 * wayAt (extF [a, b, c, d, e]) 3 3 := by
    unfold exNum
    rw [hj]
    simp [wayAt, extF]
    (first | lia | omega)
  show divF (exNum [a, b, c, d, e] 5 15) (6 * 4) = _
  rw [he]
  exact divF_scale (by decide) (by decide)
theorem ex5_16 {a b c d e : Int} : exAt [a, b, c, d, e] 16 = divF (wayAt (extF [a, b, c, d, e]) 3 4) 4 := by
  have hj : exj 5 16 = 4 := by decide
  have he : exNum [a, b, c, d, e] 5 16 = 6 * wayAt (extF [a, b, c, d, e]) 3 4 := by
    unfold exNum
    rw [hj]
    simp [wayAt, extF]
    (first | lia | omega)
  show divF (exNum [a, b, c, d, e] 5 16) (6 * 4) = _
  rw [he]
  exact divF_scale (by decide) (by decide)
theorem ex5_17 {a b c d e : Int} : exAt [a, b, c, d, e] 17 = divF (wayAt (extF [a, b, c, d, e]) 4 1) 4 := by
  have hj : exj 5 17 = 4 := by decide
  have he : exNum [a, b, c, d, e] 5 17 = 6 * wayAt (extF [a, b, c, d, e]) 4 1 := by
    unfold exNum
    rw [hj]
    simp [wayAt, extF]
    (first | lia | omega)
  show divF (exNum [a, b, c, d, e] 5 17) (6 * 4) = _
  rw [he]
  exact divF_scale (by decide) (by decide)
theorem ex5_18 {a b c d e : Int} : exAt [a, b, c, d, e] 18 = divF (wayAt (extF [a, b, c, d, e]) 4 2) 4 := by
  have hj : exj 5 18 = 4 := by decide
  have he : exNum [a, b, c, d, e] 5 18 = 6 * wayAt (extF [a, b, c, d, e]) 4 2 := by
    unfold exNum
    rw [hj]
    simp [wayAt, extF]
    (first | lia | omega)
  show divF (exNum [a, b, c, d, e] 5 18) (6 * 4) = _
  rw [he]
  exact divF_scale (by decide) (by decide)
theorem ex5_19 {a b c d e : Int} : exAt [a, b, c, d, e] 19 = divF (wayAt (extF [a, b, c, d, e]) 4 3) 4 := by
  have hj : exj 5 19 = 4 := by decide
  have he : exNum [a, b, c, d, e] 5 19 = 6 * wayAt (extF [a, b, c, d, e]) 4 3 := by
    unfold exNum
    rw [hj]
    simp [wayAt, extF]
    (first | lia | omega)
  show divF (exNum [a, b, c, d, e] 5 19) (6 * 4) = _
  rw [he]
  exact divF_scale (by decide) (by decide)
theorem ex5_20 {a b c d e : Int} : exAt [a, b, c, d, e] 20 = divF (wayAt (extF [a, b, c, d, e]) 4 4) 4 := by
  have hj : exj 5 20 = 4 := by decide
  have he : exNum [a, b, c, d, e] 5 20 = 6 * wayAt (extF [a, b, c, d, e]) 4 4 := by
    unfold exNum
    rw [hj]
    simp [wayAt, extF]
    (first | lia | omega)
  show divF (exNum [a, b, c, d, e] 5 20) (6 * 4) = _
  rw [he]
  exact divF_scale (by decide) (by decide)
theorem ex5_21 {a b c d e : Int} : exAt [a, b, c, d, e] 21 = divF (wayAt (extF [a, b, c, d, e]) 5 1) 4 := by
  have hj : exj 5 21 = 4 := by decide
  have he : exNum [a, b, c, d, e] 5 21 = 6 * wayAt (extF [a, b, c, d, e]) 5 1 := by
    unfold exNum
    rw [hj]
    simp [wayAt, extF]
    (first | lia | omega)
  show divF (exNum [a, b, c, d, e] 5 21) (6 * 4) = _
  rw [he]
  exact divF_scale (by decide) (by decide)
theorem ex5_22 {a b c d e : Int} : exAt [a, b, c, d, e] 22 = divF (wayAt (extF [a, b, c, d, e]) 5 2) 4 := by
  have hj : exj 5 22 = 4 := by decide
  have he : exNum [a, b, c, d, e] 5 22 = 6 * wayAt (extF [a, b, c, d, e]) 5 2 := by
    unfold exNum
    rw [hj]
    simp [wayAt, extF]
    (first | lia | omega)
  show divF (exNum [a, b, c, d, e] 5 22) (6 * 4) = _
  rw [he]
  exact divF_scale (by decide) (by decide)
theorem ex5_23 {a b c d e : Int} : exAt [a, b, c, d, e] 23 = divF (wayAt (extF [a, b, c, d, e]) 5 3) 4 := by
  have hj : exj 5 23 = 4 := by decide
  have he : exNum [a, b, c, d, e] 5 23 = 6 * wayAt (extF [a, b, c, d, e]) 5 3 := by
    unfold exNum
    rw [hj]
    simp [wayAt, extF]
    (first | lia | omega)
  show divF (exNum [a, b, c, d, e] 5 23) (6 * 4) = _
  rw [he]
  exact divF_scale (by decide) (by decide)
theorem in5_1 {a b c d e : Int} : inAt [a, b, c, d, e] 1 = divF (wayAt (extF [a, b, c, d, e]) 1 1) 4 := by
  have h1 : (((1 : Int) * (5 - 1)).fdiv (4 * 5 - 4)) = 0 := by decide
  have h2 : (((1 : Int) * (5 - 1)).fmod (4 * 5 - 4)) = 4 := by decide
  have he : inNum [a, b, c, d, e] 5 1 = 4 * wayAt (extF [a, b, c, d, e]) 1 1 := by
    unfold inNum
    rw [h1, h2]
    simp [wayAt, extF]
    (first | lia | omega)
  show divF (inNum [a, b, c, d, e] 5 1) (4 * 4) = _
  rw [he]
  exact divF_scale (by decide) (by decide)
theorem in5_2 {a b c d e : Int} : inAt [a, b, c, d, e] 2 = divF (wayAt (extF [a, b, c, d, e]) 1 2) 4 := by
  have h1 : (((2 : Int) * (5 - 1)).fdiv (4 * 5 - 4)) = 0 := by decide
  have h2 : (((2 : Int) * (5 - 1)).fmod (4 * 5 - 4)) = 8 := by decide
  have he : inNum [a, b, c, d, e] 5 2 = 4 * wayAt (extF [a, b, c, d, e]) 1 2 := by
    unfold inNum
    rw [h1, h2]
    simp [wayAt, extF]
    (first | lia | omega)
  show divF (inNum [a, b, c, d, e] 5 2) (4 * 4) = _
  rw [he]
  exact divF_scale (by decide) (by decide)
theorem in5_3 {a b c d e : Int} : inAt [a, b, c, d, e] 3 = divF (wayAt (extF [a, b, c, d, e]) 1 3) 4 := by
  have h1 : (((3 : Int) * (5 - 1)).fdiv (4 * 5 - 4)) = 0 := by decide
  have h2 : (((3 : Int) * (5 - 1)).fmod (4 * 5 - 4)) = 12 := by decide
  have he : inNum [a, b, c, d, e] 5 3 = 4 * wayAt (extF [a, b, c, d, e]) 1 3 := by
    unfold inNum
    rw [h1, h2]
    simp [wayAt, extF]
    (first | lia | omega)
  show divF (inNum [a, b, c, d, e] 5 3) (4 * 4) = _
  rw [he]
  exact divF_scale (by decide) (by decide)
theorem in5_4 {a b c d e : Int} : inAt [a, b, c, d, e] 4 = divF (wayAt (extF [a, b, c, d, e]) 1 4) 4 := by
  have h1 : (((4 : Int) * (5 - 1)).fdiv (4 * 5 - 4)) = 1 := by decide
  have h2 : (((4 : Int) * (5 - 1)).fmod (4 * 5 - 4)) = 0 := by decide
  have he : inNum [a, b, c, d, e] 5 4 = 4 * wayAt (extF [a, b, c, d, e]) 1 4 := by
    unfold inNum
    rw [h1, h2]
    simp [wayAt, extF]
    (first | lia | omega)
  show divF (inNum [a, b, c, d, e] 5 4) (4 * 4) = _
  rw [he]
  exact divF_scale (by decide) (by decide)
theorem in5_5 {a b c d e : Int} : inAt [a, b, c, d, e] 5 = divF (wayAt (extF [a, b, c, d, e]) 2 1) 4 := by
  have h1 : (((5 : Int) * (5 - 1)).fdiv (4 * 5 - 4)) = 1 := by decide
  have h2 : (((5 : Int) * (5 - 1)).fmod (4 * 5 - 4)) = 4 := by decide
  have he : inNum [a, b, c, d, e] 5 5 = 4 * wayAt (extF [a, b, c, d, e]) 2 1 := by
    unfold inNum
    rw [h1, h2]
    simp [wayAt, extF]
    (first | lia | omega)
  show divF (inNum [a, b, c, d, e] 5 5) (4 * 4) = _
  rw [he]
  exact divF_scale (by decide) (by decide)
theorem in5_6 {a b c d e : Int} : inAt [a, b, c, d, e] 6 = divF (wayAt (extF [a, b, c, d, e]) 2 2) 4 := by
  have h1 : (((6 : Int) * (5 - 1)).fdiv (4 * 5 - 4)) = 1 := by decide
  have h2 : (((6 : Int) * (5 - 1)).fmod (4 * 5 - 4)) = 8 := by decide
  have he : inNum [a, b, c, d, e] 5 6 = 4 * wayAt (extF [a, b, c, d, e]) 2 2 := by
    unfold inNum
    rw [h1, h2]
    simp [wayAt, extF]
    (first | lia | omega)
  show divF (inNum [a, b, c, d, e] 5 6) (4 * 4) = _
  rw [he]
  exact divF_scale (by decide) (by decide)
theorem in5_7 {a b c d e : Int} : inAt [a, b, c, d, e] 7 = divF (wayAt (extF [a, b, c, d, e]) 2 3) 4 := by
  have h1 : (((7 : Int) * (5 - 1)).fdiv (4 * 5 - 4)) = 1 := by decide
  have h2 : (((7 : Int) * (5 - 1)).fmod (4 * 5 - 4)) = 12 := by decide
  have he : inNum [a, b, c, d, e] 5 7 = 4 * wayAt (extF [a, b, c, d, e]) 2 3 := by
    unfold inNum
    rw [h1, h2]
    simp [wayAt, extF]
    (first | lia | omega)
  show divF (inNum [a, b, c, d, e] 5 7) (4 * 4) = _
  rw [he]
  exact divF_scale (by decide) (by decide)
theorem in5_8 {a b c d e : Int} : inAt [a, b, c, d, e] 8 = divF (wayAt (extF [a, b, c, d, e]) 2 4) 4 := by
  have h1 : (((8 : Int) * (5 - 1)).fdiv (4 * 5 - 4)) = 2 := by decide
  have h2 : (((8 : Int) * (5 - 1)).fmod (4 * 5 - 4)) = 0 := by decide
  have he : inNum [a, b, c, d, e] 5 8 = 4 * wayAt (extF [a, b, c, d, e]) 2 4 := by
    unfold inNum
    rw [h1, h2]
    simp [wayAt, extF]
    (first | lia | omega)
  show divF (inNum [a, b, c, d, e] 5 8) (4 * 4) = _
  rw [he]
  exact divF_scale (by decide) (by decide)
theorem in5_9 {a b c d e : Int} : inAt [a, b, c, d, e] 9 = divF (wayAt (extF [a, b, c, d, e]) 3 1) 4 := by
  have h1 : (((9 : Int) * (5 - 1)).fdiv (4 * 5 - 4)) = 2 := by decide
  have h2 : (((9 : Int) * (5 - 1)).fmod (4 * 5 - 4)) = 4 := by decide
  have he : inNum [a, b, c, d, e] 5 9 = 4 * wayAt (extF [a, b, c, d, e]) 3 1 := by
    unfold inNum
    rw [h1, h2]
    simp [wayAt, extF]
    (first | lia | omega)
  show divF (inNum [a, b, c, d, e] 5 9) (4 * 4) = _
  rw [he]
  exact divF_scale (by decide) (by decide)
theorem in5_10 {a b c d e : Int} : inAt [a, b, c, d, e] 10 = divF (wayAt (extF [a, b, c, d, e]) 3 2) 4 := by
  have h1 : (((10 : Int) * (5 - 1)).fdiv (4 * 5 - 4)) = 2 := by decide
  have h2 : (((10 : Int) * (5 - 1)).fmod (4 * 5 - 4)) = 8 := by decide
  have he : inNum [a, b, c, d, e] 5 10 = 4 * wayAt (extF [a, b, c, d, e]) 3 2 := by
    unfold inNum
    rw [h1, h2]
    simp [wayAt, extF]
    (first | lia | omega)
  show divF (inNum [a, b, c, d, e] 5 10) (4 * 4) = _
  rw [he]
  exact divF_scale (by decide) (by decide)
theorem in5_11 {a b c d e : Int} : inAt [a, b, c, d, e] 11 = divF (wayAt (extF [a, b, c, d, e]) 3 3) 4 := by
  have h1 : (((11 : Int) * (5 - 1)).fdiv (4 * 5 - 4)) = 2 := by decide
  have h2 : (((11 : Int) * (5 - 1)).fmod (4 * 5 - 4)) = 12 := by decide
  have he : inNum [a, b, c, d, e] 5 11 = 4 * wayAt (extF [a, b, c, d, e]) 3 3 := by
    unfold inNum
    rw [h1, h2]
    simp [wayAt, extF]
    (first | lia | omega)
  show divF (inNum [a, b, c, d, e] 5 11) (4 * 4) = _
  rw [he]
  exact divF_scale (by decide) (by decide)
theorem in5_12 {a b c d e : Int} : inAt [a, b, c, d, e] 12 = divF (wayAt (extF [a, b, c, d, e]) 3 4) 4 := by
  have h1 : (((12 : Int) * (5 - 1)).fdiv (4 * 5 - 4)) = 3 := by decide
  have h2 : (((12 : Int) * (5 - 1)).fmod (4 * 5 - 4)) = 0 := by decide
  have he : inNum [a, b, c, d, e] 5 12 = 4 * wayAt (extF [a, b, c, d, e]) 3 4 := by
    unfold inNum
    rw [h1, h2]
    simp [wayAt, extF]
    (first | lia | omega)
  show divF (inNum [a, b, c, d, e] 5 12) (4 * 4) = _
  rw [he]
  exact divF_scale (by decide) (by decide)
theorem in5_13 {a b c d e : Int} : inAt [a, b, c, d, e] 13 = divF (wayAt (extF [a, b, c, d, e]) 4 1) 4 := by
  have h1 : (((13 : Int) * (5 - 1)).fdiv (4 * 5 - 4)) = 3 := by decide
  have h2 : (((13 : Int) * (5 - 1)).fmod (4 * 5 - 4)) = 4 := by decide
  have he : inNum [a, b, c, d, e] 5 13 = 4 * wayAt (extF [a, b, c, d, e]) 4 1 := by
    unfold inNum
    rw [h1, h2]
    simp [wayAt, extF]
    (first | lia | omega)
  show divF (inNum [a, b, c, d, e] 5 13) (4 * 4) = _
  rw [he]
  exact divF_scale (by decide) (by decide)
theorem in5_14 {a b c d e : Int} : inAt [a, b, c, d, e] 14 = divF (wayAt (extF [a, b, c, d, e]) 4 2) 4 := by
  have h1 : (((14 : Int) * (5 - 1)).fdiv (4 * 5 - 4)) = 3 := by decide
  have h2 : (((14 : Int) * (5 - 1)).fmod (4 * 5 - 4)) = 8 := by decide
  have he : inNum [a, b, c, d, e] 5 14 = 4 * wayAt (extF [a, b, c, d, e]) 4 2 := by
    unfold inNum
    rw [h1, h2]
    simp [wayAt, extF]
    (first | lia | omega)
  show divF (inNum [a, b, c, d, e] 5 14) (4 * 4) = _
  rw [he]
  exact divF_scale (by decide) (by decide)
theorem in5_15 {a b c d e : Int} : inAt [a, b, c, d, e] 15 = divF (wayAt (extF [a, b, c, d, e]) 4 3) 4 := by
  have h1 : (((15 : Int) * (5 - 1)).fdiv (4 * 5 - 4)) = 3 := by decide
  have h2 : (((15 : Int) * (5 - 1)).fmod (4 * 5 - 4)) = 12 := by decide
  have he : inNum [a, b, c, d, e] 5 15 = 4 * wayAt (extF [a, b, c, d, e]) 4 3 := by
    unfold inNum
    rw [h1, h2]
    simp [wayAt, extF]
    (first | lia | omega)
  show divF (inNum [a, b, c, d, e] 5 15) (4 * 4) = _
  rw [he]
  exact divF_scale (by decide) (by decide)
theorem out5 {a b c d e : Int} : ((List.range (4 * [a, b, c, d, e].length + 3)).map fun x : Nat => exAt [a, b, c, d, e] (1 + (x : Int))) = cutsF [a, b, c, d, e] := by
  show [exAt [a, b, c, d, e] 1, exAt [a, b, c, d, e] 2, exAt [a, b, c, d, e] 3, exAt [a, b, c, d, e] 4, exAt [a, b, c, d, e] 5, exAt [a, b, c, d, e] 6, exAt [a, b, c, d, e] 7, exAt [a, b, c, d, e] 8, exAt [a, b, c, d, e] 9, exAt [a, b, c, d, e] 10, exAt [a, b, c, d, e] 11, exAt [a, b, c, d, e] 12, exAt [a, b, c, d, e] 13, exAt [a, b, c, d, e] 14, exAt [a, b, c, d, e] 15, exAt [a, b, c, d, e] 16, exAt [a, b, c, d, e] 17, exAt [a, b, c, d, e] 18, exAt [a, b, c, d, e] 19, exAt [a, b, c, d, e] 20, exAt [a, b, c, d, e] 21, exAt [a, b, c, d, e] 22, exAt [a, b, c, d, e] 23] = [divF (wayAt (extF [a, b, c, d, e]) 0 1) 4, divF (wayAt (extF [a, b, c, d, e]) 0 2) 4, divF (wayAt (extF [a, b, c, d, e]) 0 3) 4, divF (wayAt (extF [a, b, c, d, e]) 0 4) 4, divF (wayAt (extF [a, b, c, d, e]) 1 1) 4, divF (wayAt (extF [a, b, c, d, e]) 1 2) 4, divF (wayAt (extF [a, b, c, d, e]) 1 3) 4, divF (wayAt (extF [a, b, c, d, e]) 1 4) 4, divF (wayAt (extF [a, b, c, d, e]) 2 1) 4, divF (wayAt (extF [a, b, c, d, e]) 2 2) 4, divF (wayAt (extF [a, b, c, d, e]) 2 3) 4, divF (wayAt (extF [a, b, c, d, e]) 2 4) 4, divF (wayAt (extF [a, b, c, d, e]) 3 1) 4, divF (wayAt (extF [a, b, c, d, e]) 3 2) 4, divF (wayAt (extF [a, b, c, d, e]) 3 3) 4, divF (wayAt (extF [a, b, c, d, e]) 3 4) 4, divF (wayAt (extF [a, b, c, d, e]) 4 1) 4, divF (wayAt (extF [a, b, c, d, e]) 4 2) 4, divF (wayAt (extF [a, b, c, d, e]) 4 3) 4, divF (wayAt (extF [a, b, c, d, e]) 4 4) 4, divF (wayAt (extF [a, b, c, d, e]) 5 1) 4, divF (wayAt (extF [a, b, c, d, e]) 5 2) 4, divF (wayAt (extF [a, b, c, d, e]) 5 3) 4]
  rw [ex5_1, ex5_2, ex5_3, ex5_4, ex5_5, ex5_6, ex5_7, ex5_8, ex5_9, ex5_10, ex5_11, ex5_12, ex5_13, ex5_14, ex5_15, ex5_16, ex5_17, ex5_18, ex5_19, ex5_20, ex5_21, ex5_22, ex5_23]
theorem inn5 {a b c d e : Int} : ((List.range (4 * [a, b, c, d, e].length - 5)).map fun x : Nat => inAt [a, b, c, d, e] (1 + (x : Int))) = ((cutsF [a, b, c, d, e]).drop 4).take (4 * [a, b, c, d, e].length - 5) := by
  show [inAt [a, b, c, d, e] 1, inAt [a, b, c, d, e] 2, inAt [a, b, c, d, e] 3, inAt [a, b, c, d, e] 4, inAt [a, b, c, d, e] 5, inAt [a, b, c, d, e] 6, inAt [a, b, c, d, e] 7, inAt [a, b, c, d, e] 8, inAt [a, b, c, d, e] 9, inAt [a, b, c, d, e] 10, inAt [a, b, c, d, e] 11, inAt [a, b, c, d, e] 12, inAt [a, b, c, d, e] 13, inAt [a, b, c, d, e] 14, inAt [a, b, c, d, e] 15] = [divF (wayAt (extF [a, b, c, d, e]) 1 1) 4, divF (wayAt (extF [a, b, c, d, e]) 1 2) 4, divF (wayAt (extF [a, b, c, d, e]) 1 3) 4, divF (wayAt (extF [a, b, c, d, e]) 1 4) 4, divF (wayAt (extF [a, b, c, d, e]) 2 1) 4, divF (wayAt (extF [a, b, c, d, e]) 2 2) 4, divF (wayAt (extF [a, b, c, d, e]) 2 3) 4, divF (wayAt (extF [a, b, c, d, e]) 2 4) 4, divF (wayAt (extF [a, b, c, d, e]) 3 1) 4, divF (wayAt (extF [a, b, c, d, e]) 3 2) 4, divF (wayAt (extF [a, b, c, d, e]) 3 3) 4, divF (wayAt (extF [a, b, c, d, e]) 3 4) 4, divF (wayAt (extF [a, b, c, d, e]) 4 1) 4, divF (wayAt (extF [a, b, c, d, e]) 4 2) 4, divF (wayAt (extF [a, b, c, d, e]) 4 3) 4]
  rw [in5_1, in5_2, in5_3, in5_4, in5_5, in5_6, in5_7, in5_8, in5_9, in5_10, in5_11, in5_12, in5_13, in5_14, in5_15]
theorem outer_eq {ns ss : List Int} {top : Int} (h3 : 3 ≤ ns.length) (h5 : ns.length ≤ 5) (ht : ∀ x ∈ ns, x ≤ top) (hp : ss.Perm ns) (hs : ss.Pairwise (· ≤ ·)) :
    ((List.range (4 * ss.length + 3)).map fun a : Nat => exAt ss (1 + (a : Int))) = cutsF (pointsF (byLeast ns top)) := by
  rw [points_eq h3 h5 ht hp hs]
  rw [← hp.length_eq] at h3 h5
  clear hp hs ht
  match ss, h3, h5 with
  | [a, b, c], _, _ => exact out3
  | [a, b, c, d], _, _ => exact out4
  | [a, b, c, d, e], _, _ => exact out5
  | [], h3, _ => simp at h3
  | [_], h3, _ => simp at h3
  | [_, _], h3, _ => simp at h3
  | _ :: _ :: _ :: _ :: _ :: _ :: _, _, h5 => simp at h5
theorem inner_eq {ns ss : List Int} {top : Int} (h3 : 3 ≤ ns.length) (h5 : ns.length ≤ 5) (ht : ∀ x ∈ ns, x ≤ top) (hp : ss.Perm ns) (hs : ss.Pairwise (· ≤ ·)) :
    ((List.range (4 * ss.length - 5)).map fun a : Nat => inAt ss (1 + (a : Int))) = ((cutsF (pointsF (byLeast ns top))).drop 4).take (4 * ns.length - 5) := by
  rw [points_eq h3 h5 ht hp hs, ← hp.length_eq]
  rw [← hp.length_eq] at h3 h5
  clear hp hs ht
  match ss, h3, h5 with
  | [a, b, c], _, _ => exact inn3
  | [a, b, c, d], _, _ => exact inn4
  | [a, b, c, d, e], _, _ => exact inn5
  | [], h3, _ => simp at h3
  | [_], h3, _ => simp at h3
  | [_, _], h3, _ => simp at h3
  | _ :: _ :: _ :: _ :: _ :: _ :: _, _, h5 => simp at h5
end
section
open PySem PySem.W PyProof.Rows PySem.Calls PySem.Spec PyProof.V
theorem mod_bd (ms : List Int) : ∀ x ∈ ms.map fun b => b.fmod 4096, 0 ≤ x ∧ x ≤ 2 ^ 22 := fun x hx => by
  obtain ⟨b, _, rfl⟩ := List.mem_map.mp hx
  have h1 := Int.fmod_nonneg_of_pos b (b := 4096) (by decide)
  have h2 := Int.fmod_lt_of_pos b (b := 4096) (by decide)
  omega
theorem kind_bd (ms : List Int) : ∀ x ∈ ms.map fun b => (b.fdiv 4096).fmod 16 * 4096, 0 ≤ x ∧ x ≤ 2 ^ 22 := fun x hx => by
  obtain ⟨b, _, rfl⟩ := List.mem_map.mp hx
  have h1 := Int.fmod_nonneg_of_pos (b.fdiv 4096) (b := 16) (by decide)
  have h2 := Int.fmod_lt_of_pos (b.fdiv 4096) (b := 16) (by decide)
  omega
theorem mod_le (ms : List Int) : ∀ x ∈ ms.map fun b => b.fmod 4096, x ≤ 4095 := fun x hx => by
  obtain ⟨b, _, rfl⟩ := List.mem_map.mp hx
  have h2 := Int.fmod_lt_of_pos b (b := 4096) (by decide)
  omega
theorem kind_le (ms : List Int) : ∀ x ∈ ms.map fun b => (b.fdiv 4096).fmod 16 * 4096, x ≤ 61440 := fun x hx => by
  obtain ⟨b, _, rfl⟩ := List.mem_map.mp hx
  have h2 := Int.fmod_lt_of_pos (b.fdiv 4096) (b := 16) (by decide)
  omega
theorem wide_bd {l : List Int} (h : ∀ x ∈ l, 0 ≤ x ∧ x ≤ 2 ^ 22) : ∀ x ∈ l, -(2 ^ 40) ≤ x ∧ x ≤ 2 ^ 40 := fun x hx => by have := h x hx; omega
noncomputable abbrev cutP (ms : List Int) : List UInt64 := cutsF (pointsF (byLeast (ms.map fun b => b.fmod 4096) 4095))
noncomputable abbrev cutQ (ms : List Int) : List UInt64 := cutsF (pointsF (byLeast (ms.map fun b => (b.fdiv 4096).fmod 16 * 4096) 61440))
noncomputable abbrev sliceF (n : Nat) (l : List UInt64) : List UInt64 := (l.drop 4).take (4 * n - 5)
section
variable {ms ss : List Int} {vr : List Value} (h3 : 3 ≤ ms.length) (h5 : ms.length ≤ 5)
include h3 h5
theorem quP (hp : ss.Perm (ms.map fun b => b.fmod 4096)) (hs : ss.Pairwise (· ≤ ·)) (h : FltsAre vr ((List.range (4 * ss.length + 3)).map fun a : Nat => exAt ss (1 + (a : Int)))) : FltsAre vr (cutP ms) := by
  rw [outer_eq (by rw [List.length_map]; exact h3) (by rw [List.length_map]; exact h5) (mod_le ms) hp hs] at h; exact h
theorem quQ (hp : ss.Perm (ms.map fun b => (b.fdiv 4096).fmod 16 * 4096)) (hs : ss.Pairwise (· ≤ ·)) (h : FltsAre vr ((List.range (4 * ss.length + 3)).map fun a : Nat => exAt ss (1 + (a : Int)))) : FltsAre vr (cutQ ms) := by
  rw [outer_eq (by rw [List.length_map]; exact h3) (by rw [List.length_map]; exact h5) (kind_le ms) hp hs] at h; exact h
theorem qiP (hp : ss.Perm (ms.map fun b => b.fmod 4096)) (hs : ss.Pairwise (· ≤ ·)) (h : FltsAre vr ((List.range (4 * ss.length - 5)).map fun a : Nat => inAt ss (1 + (a : Int)))) : FltsAre vr (sliceF ms.length (cutP ms)) := by
  rw [inner_eq (by rw [List.length_map]; exact h3) (by rw [List.length_map]; exact h5) (mod_le ms) hp hs, List.length_map] at h; exact h
theorem qiQ (hp : ss.Perm (ms.map fun b => (b.fdiv 4096).fmod 16 * 4096)) (hs : ss.Pairwise (· ≤ ·)) (h : FltsAre vr ((List.range (4 * ss.length - 5)).map fun a : Nat => inAt ss (1 + (a : Int)))) : FltsAre vr (sliceF ms.length (cutQ ms)) := by
  rw [inner_eq (by rw [List.length_map]; exact h3) (by rw [List.length_map]; exact h5) (kind_le ms) hp hs, List.length_map] at h; exact h
end
noncomputable def IsFl (fl : List UInt64) (q : Addr × Obj) : Prop := q.2.cls = .type "list" ∧ ∃ vr n, q.2.data = .seq (List.toArray vr) n ∧ FltsAre vr fl
end
section
open PySem PySem.W PyProof.Rows PySem.Calls PySem.Spec
open PySem.SeqAt
theorem cmp_same {x : UInt64} (h : Float64.isNaN x = false) : (Float64.cmp x x == some Ordering.eq) = true := by
  unfold Float64.isNaN at h
  unfold Float64.cmp
  cases e : Float64.decode x with
  | nan => rw [e] at h; cases h
  | inf a => simp
  | fin a m e => simp [Float64.align]
noncomputable def NoNan (fl : List UInt64) : Prop := ∀ x ∈ fl, Float64.isNaN x = false
theorem cuts_ok (pts : List Int) : NoNan (cutsF pts) := fun x hx => by
  obtain ⟨w, _, rfl⟩ := List.mem_map.mp (List.mem_of_mem_take hx)
  unfold divF Float64.ofFrac
  exact isNaN_pack _ (roundMag_le _ _)
theorem slice_ok {n : Nat} {l : List UInt64} (h : NoNan l) : NoNan (sliceF n l) := fun x hx => h x (List.mem_of_mem_drop (List.mem_of_mem_take hx))
theorem flts_at {vs : List Value} {fl : List UInt64} (h : FltsAre vs fl) : ∀ {j : Nat} {v : Value}, vs[j]? = some v → ∃ x t, v = .float x t ∧ @Ne Nat t 0 ∧ fl[j]? = some x := by
  induction h with
  | nil => intro j v e; simp at e
  | cons x t ht _ ih =>
    intro j v e
    cases j with
    | zero => simp at e; exact ⟨x, t, e.symm, ht, by simp⟩
    | succ j => simpa using ih (j := j) (by simpa using e)
theorem flts_len {vs : List Value} {fl : List UInt64} (h : FltsAre vs fl) : vs.length = fl.length := by
  induction h with
  | nil => rfl
  | cons x t _ _ ih => simp [ih]
section
variable {prog : Program} {w : World} {A : Around} {E : Value → Shared → Prop} {s : Shared} {Q : Value → Shared → Prop}
theorem isSame_float {y z : UInt64} {u v : Tok} {Q : Bool → Shared → Prop} (hu : @Ne Nat u 0) (hv : @Ne Nat v 0) (hb : NoneBooked s.heap) (hq : ∀ b, Q b s) : wpAny (model prog w) A (isSame (.float y u) (.float z v)) Q E s := by
  have h0 : (u == 0 || v == 0) = false := by
    rw [Bool.or_eq_false_iff]
    exact ⟨beq_eq_false_iff_ne.mpr hu, beq_eq_false_iff_ne.mpr hv⟩
  show wpAny _ A (isSame.created (y == z && !Float64.isNaN y) u v) Q E s
  unfold isSame.created
  refine wpAny_ite ?_
  split
  · rename_i h; rw [h0] at h; exact absurd h Bool.false_ne_true
  refine wpAny_ite ?_
  split
  · exact wpAny_pure (hq _)
  refine wpAny_ite ?_
  split
  · exact wpAny_pure (hq _)
  refine wpAny_bind (wpAny_sharingNotTold_none hb ?_)
  first | rw [if_neg Bool.false_ne_true] | simp only [Bool.false_eq_true, if_false]
  refine wpAny_bind (wpAny_sharingNotTold_none hb ?_)
  first | rw [if_neg Bool.false_ne_true] | simp only [Bool.false_eq_true, if_false]
  exact wpAny_bind (wpAny_rule (wpAny_bind (wpAny_askSetting (wpAny_pure (hq _)))))
theorem eqAt_float {x : UInt64} {t u : Tok} (h : Float64.isNaN x = false) (ht : @Ne Nat t 0) (hu : @Ne Nat u 0) (hb : NoneBooked s.heap) : EqAt A s (.float x t) (.float x u) true := fun prog w E Q hq => by
  unfold eqBool
  refine wpAny_holding ?_
  refine wpAny_ite_split (fun _ => wpAny_bind (wpAny_rule (wpAny_pure hq))) (fun _ => ?_)
  refine wpAny_bind (isSame_float ht hu hb fun b => ?_)
  cases b with
  | true => exact wpAny_pure hq
  | false =>
    rw [if_neg Bool.false_ne_true]
    refine wpAny_bind (AutoFloatOps.eq_0 (Q := fun v s' => wpAny (model prog w) A (truthOfDropped v) Q E s') ?_)
    rw [cmp_same h]
    exact wpAny_truthy_bool hq
theorem eqAt_floats {l b : Addr} {xs ys : List Value} {fl : List UInt64} (hl : s.heap.IsList l xs.toArray) (hb : s.heap.IsList b ys.toArray) (hx : FltsAre xs fl) (hy : FltsAre ys fl) (ok : NoNan fl) (hu : A.units < cLine) (hk : NoneBooked s.heap) :
    EqAt A s (.ref l) (.ref b) true := by
  by_cases e : l = b
  · subst e; exact EqAt.same _
  · refine EqAt.of_refs e ?_
    have key := RcAt.lists (A := A) (e := fun _ => true) hl hb (by rw [List.size_toArray, List.size_toArray, flts_len hx, flts_len hy]) hu fun j h1 h2 => by
      rw [List.size_toArray] at h1 h2
      obtain ⟨x, t, e1, ht, f1⟩ := flts_at hx (List.getElem?_eq_getElem h1)
      obtain ⟨y, u, e2, hu', f2⟩ := flts_at hy (List.getElem?_eq_getElem h2)
      have : x = y := by rw [f1] at f2; exact Option.some.inj f2
      subst this
      rw [List.getElem_toArray, List.getElem_toArray, e1, e2]
      exact eqAt_float (ok x (List.mem_of_getElem? f1)) ht hu' hk
    have : ((List.range xs.toArray.size).all fun _ => true) = true := by simp
    rw [this] at key
    exact key
theorem pair_each {a1 a2 b1 b2 : Addr} (h1 : EqAt A.in1 s (.ref a1) (.ref b1) true) (h2 : EqAt A.in1 s (.ref a2) (.ref b2) true) :
    ∀ j (k1 : j < (#[Value.ref a1, Value.ref a2] : Array Value).size) (k2 : j < (#[Value.ref b1, Value.ref b2] : Array Value).size), EqAt A.in1 s (#[Value.ref a1, Value.ref a2] : Array Value)[j] (#[Value.ref b1, Value.ref b2] : Array Value)[j] true := by
  intro j k1 k2
  match j, k1, k2 with
  | 0, _, _ => exact h1
  | 1, _, _ => exact h2
  | j + 2, k1, _ => simp at k1; omega
theorem ne_pairs {l b a1 a2 b1 b2 : Addr} (hl : s.heap.IsList l #[.ref a1, .ref a2]) (hb : s.heap.IsList b #[.ref b1, .ref b2]) (hu : A.units + 64 < cLine) (h1 : EqAt A.in1 s (.ref a1) (.ref b1) true) (h2 : EqAt A.in1 s (.ref a2) (.ref b2) true)
    (h : Q (.bool false) s) : wpAny (model prog w) A (compareOp .NotEq (.ref l) (.ref b)) Q E s :=
  RcNeAt.lists (e := fun _ => true) hl hb rfl (by omega) (pair_each h1 h2) prog w E Q h
theorem eq_pairs {l b a1 a2 b1 b2 : Addr} (hl : s.heap.IsList l #[.ref a1, .ref a2]) (hb : s.heap.IsList b #[.ref b1, .ref b2]) (hu : A.units + 64 < cLine) (h1 : EqAt A.in1 s (.ref a1) (.ref b1) true) (h2 : EqAt A.in1 s (.ref a2) (.ref b2) true)
    (h : Q (.bool true) s) : wpAny (model prog w) A (compareOp .Eq (.ref l) (.ref b)) Q E s :=
  eq_listAt (e := fun _ => true) hl hb rfl (by omega) (pair_each h1 h2) h
theorem fl_alike {h₀ : Heap} {L : Addr} {news : List (Addr × Obj)} (N : News h₀ L s.heap news) {q r : Addr × Obj} {fl : List UInt64} (hq : q ∈ news) (hr : r ∈ news) (fq : IsFl fl q) (fr : IsFl fl r) (ok : NoNan fl) (hu : A.units + 64 < cLine) (hk : NoneBooked s.heap) : EqAt A.in1 s (.ref q.1) (.ref r.1) true := by
  obtain ⟨c1, xs, n1, d1, f1⟩ := fq
  obtain ⟨c2, ys, n2, d2, f2⟩ := fr
  exact eqAt_floats ⟨_, (N _ hq).1, c1, _, d1⟩ ⟨_, (N _ hr).1, c2, _, d2⟩ f1 f2 ok (show A.units + 1 < cLine by omega) hk
end
theorem none_booked {w : World} {h : Heap} {mean : ExcName → Option Value} {mg mb : Str → Option Value} {p : Program} {loose : List Str} (X : (hd.heap_1 w.params).In h) (T : Top p loose mean mg mb h) : NoneBooked h := by
  obtain ⟨mc, hn, _⟩ := T.nolimit
  exact ⟨mc, hn, ns_none_of X hn (by k_is)⟩
noncomputable def IsFloat (y : Value) : Prop := ∃ x t, y = .float x t
theorem src_fl {h₀ : Heap} {news : List (Addr × Obj)} {q : Addr × Obj} {fl : List UInt64} (hq : q ∈ news) (f : IsFl fl q) : ∃ (a : Addr) (xs : Array Value), Value.ref q.1 = .ref a ∧ LCg.SrcAt h₀ a xs news ∧ ∀ (j : Nat) (y : Value), xs[j]? = some y → IsFloat y := by
  obtain ⟨c, xs, n, d, f⟩ := f
  refine ⟨q.1, xs.toArray, rfl, .inr ⟨q.2, hq, c, n, d⟩, fun j y e => ?_⟩
  obtain ⟨x, t, e1, _, _⟩ := flts_at f (j := j) (v := y) (by simpa using e)
  exact ⟨x, t, e1⟩
theorem src_four {h₀ : Heap} {news : List (Addr × Obj)} {q1 q2 q3 q4 : Addr × Obj} {f1 f2 f3 f4 : List UInt64} (m1 : q1 ∈ news) (m2 : q2 ∈ news) (m3 : q3 ∈ news) (m4 : q4 ∈ news) (i1 : IsFl f1 q1) (i2 : IsFl f2 q2) (i3 : IsFl f3 q3) (i4 : IsFl f4 q4) :
    ∀ (i : Nat) (v : Value), (#[Value.ref q1.1, Value.ref q2.1, Value.ref q3.1, Value.ref q4.1] : Array Value)[i]? = some v → ∃ (a : Addr) (xs : Array Value), v = .ref a ∧ LCg.SrcAt h₀ a xs news ∧ ∀ (j : Nat) (y : Value), xs[j]? = some y → IsFloat y := by
  intro i v e
  match i, e with
  | 0, e => cases e; exact src_fl m1 i1
  | 1, e => cases e; exact src_fl m2 i2
  | 2, e => cases e; exact src_fl m3 i3
  | 3, e => cases e; exact src_fl m4 i4
  | j + 4, e => simp at e
theorem flts_drop {vs : List Value} {xs : List UInt64} (h : FltsAre vs xs) (n : Nat) : FltsAre (vs.drop n) (xs.drop n) := by
  induction h generalizing n with
  | nil => simp; exact .nil
  | cons x t ht r ih =>
    cases n with
    | zero => exact .cons x t ht r
    | succ n => exact ih n
theorem take_mid {α : Type} (l : List α) {a b : Nat} : (l.drop (min a l.length)).take (min b l.length - min a l.length) = (l.drop a).take (b - a) := by
  rw [kmk_drop_min]
  by_cases h : a ≤ l.length
  · rw [Nat.min_eq_left h]
    by_cases h2 : b ≤ l.length
    · rw [Nat.min_eq_left h2]
    · rw [List.take_of_length_le (by rw [List.length_drop]; omega), List.take_of_length_le (by rw [List.length_drop]; omega)]
  · rw [List.drop_eq_nil_of_le (by omega)]; simp
theorem pick_mid (arr : Array Value) {n : Nat} (h : 1 ≤ n) : slicePick arr (some 4) (some (4 * (n : Int) - 1)) none = ((arr.toList.drop 4).take (4 * n - 5)).toArray := by
  rw [kmk_pick_nat (lo := some 4) (hi := some (4 * (n : Int) - 1)) arr (a := min 4 arr.toList.length) (b := min (4 * n - 1) arr.toList.length) (by
    rw [kms_bounds, Array.length_toList]
    simp only [kms_lo, kms_hi]
    rw [if_neg (by decide), if_neg (by omega)]
    congr 2
    · congr 1
      congr 1
      omega), take_mid, show 4 * n - 1 - 4 = 4 * n - 5 by omega]
theorem fl_slice {vs : List Value} {fl : List UInt64} {n : Nat} (h : FltsAre vs fl) (h1 : 1 ≤ n) (D : Addr) : IsFl (sliceF n fl) (D, W.listOf (slicePick vs.toArray (some 4) (some (4 * (n : Int) - 1)) none) 0) := by
  refine ⟨rfl, (vs.drop 4).take (4 * n - 5), 0, ?_, flts_take (flts_drop h 4) _⟩
  rw [pick_mid _ h1]
theorem cuts_len (ns : List Int) (top : Int) : (cutsF (pointsF (byLeast ns top))).length ≤ 4 * (ns.length + 1) - 1 := by
  unfold cutsF
  have : (pointsF (byLeast ns top)).length = ns.length := by
    unfold pointsF
    rw [List.length_map, List.length_range, byLeast_len]; omega
  rw [this, List.length_take]
  exact Nat.min_le_left _ _
theorem cuts_size {vs : List Value} {ns : List Int} {top : Int} (h : FltsAre vs (cutsF (pointsF (byLeast ns top)))) (h5 : ns.length ≤ 5) : vs.toArray.size ≤ sizeLine := by
  have := cuts_len ns top
  rw [List.size_toArray, flts_len h, sizeLine_eq]; omega
theorem off_lt {D : Addr} {l : List (Addr × Obj)} (h : ∀ p ∈ l, p.1 < D) : ∀ p ∈ l, p.1 ≠ D := fun p hp => Nat.ne_of_lt (h p hp)
end
section

theorem word25 : True := by
  k_with "mine sides" => (((case kK => first | exact rfl | assumption); (case kd => ktr_room); (case ku => ktr_units)))
  trivial
theorem word26 : True := by
  k_with "tb_rel" => (first
      | (with_reducible show wpAny _ _ (eval (PySem.Expr.ListComp _ _ _ _) _) _ _ _)
      | (with_reducible show wpAny _ _ (exec (PySem.Stmt.Assign _ (PySem.Expr.ListComp _ _ _ _) _) _) _ _ _)
      | (with_reducible show LCg.CompSrc _ _ _ _ _ _ _ _ _ _ _ _ _ _)
      | (with_reducible show wpAny _ _ (call (Value.builtin "len") [Value.ref _]) _ _ _)
      | (with_reducible show wpAny _ _ (call (Value.ref 108) _) _ _ _)
      | (with_reducible show wpAny _ _ (call (Value.ref 125) _) _ _ _)
      | (with_reducible show wpAny _ _ (call (Value.ref 132) _) _ _ _)
      | (with_reducible show wpAny _ _ (call (Value.ref 49) _ _) _ _ _)
      | (with_reducible show wpAny _ _ (newList _) _ _ _)
      | (with_reducible show wpAny _ _ (compareOp _ (Value.ref _) (Value.ref _)) _ _ _)
      | (with_reducible show wpAny _ _ (binaryOp _ (Value.ref _) (Value.ref _)) _ _ _)
      | (with_reducible show Src2 _ _ _ _ _ _ _ _ _ _ _ _ _ _)
      | (with_reducible show SrcU _ _ _ _ _ _ _ _ _ _ _ _ _ _)
      | (with_reducible show wpAny _ _ (call (Value.ref 137) _) _ _ _)
      | (with_reducible show wpAny _ _ (call (Value.ref 34) _) _ _ _)
      | (with_reducible show wpAny _ _ (call (Value.ref 41) _) _ _ _)
      | (with_reducible show SrcC _ _ _ _ _ _ _ _ _ _ _ _ _ _)
      | (with_reducible show wpAny _ _ (subscriptTail _ _ _ _) _ _ _))
  trivial
theorem word27 : True := by
  k_with "eval Name" => (((with_reducible show wpAny _ _ (eval (Expr.Name (Str.ofString "isinstance") _) (compEnvC _ _ _ _)) _ _ _); k_dflt (refine LCgL.ld_built (by k_asm) (by k_asm) (by k_asm) (by k_is) (by boot_by_name) (by decide) ?_)))
  trivial
theorem word28 : True := by
  k_with "eval Name" => (((with_reducible show wpAny _ _ (eval (Expr.Name (Str.ofString "float") _) (compEnvC _ _ _ _)) _ _ _); k_dflt (refine LCgL.ld_built (by k_asm) (by k_asm) (by k_asm) (by k_is) (by boot_by_name) (by decide) ?_)))
  trivial
theorem word29 : True := by
  k_with "eval Name" => (((with_reducible show wpAny _ _ (eval (Expr.Name (Str.ofString "quantiles") _) (compEnvC _ _ _ _)) _ _ _); k_dflt (refine LCgL.ld_global (by k_asm) (by k_asm) (by k_asm) (by k_is) ?_)))
  trivial
theorem word30 : True := by
  k_with "eval Name" => (((with_reducible show wpAny _ _ (eval (Expr.Name (Str.ofString "S_IMODE") _) (compEnvC _ _ _ _)) _ _ _); k_dflt (refine LCgL.ld_global (by k_asm) (by k_asm) (by k_asm) (by k_is) ?_)))
  trivial
theorem word31 : True := by
  k_with "eval Name" => (((with_reducible show wpAny _ _ (eval (Expr.Name (Str.ofString "S_IFMT") _) (compEnvC _ _ _ _)) _ _ _); k_dflt (refine LCgL.ld_global (by k_asm) (by k_asm) (by k_asm) (by k_is) ?_)))
  trivial
theorem word32 : True := by
  k_with "call ref" => (((with_reducible show wpAny _ _ (call (Value.ref 115) [Value.int _ _]) _ _ _); k_dflt (refine' code_ct_use (by k_asm) (by k_asm) (by k_asm) (by k_asm) (by first | exact rfl | assumption) (by ktr_room) (by ktr_units) (by k_asm) _ _ ?_); intro _ _ _ _ _; (try dsimp only)))
  trivial
theorem word33 : True := by
  k_with "call ref" => (((with_reducible show wpAny _ _ (call (Value.ref 103) [Value.int _ _]) _ _ _); k_dflt (refine' mode_ct_use (by k_asm) (by k_asm) (by k_asm) (by k_asm) (by first | exact rfl | assumption) (by ktr_room) (by ktr_units) (by k_asm) _ _ ?_); intro _ _ _ _ _; (try dsimp only)))
  trivial
theorem word34 : True := by
  k_with "call ref" => (((with_reducible show wpAny _ _ (call (Value.ref 120) [Value.int _ _]) _ _ _); k_dflt (refine' row_ct_use (by k_asm) (by k_asm) (by k_asm) (by k_asm) (by first | exact rfl | assumption) (by ktr_room) (by ktr_units) (by k_asm) _ _ ?_); intro _ _ _ _ _; (try dsimp only)))
  trivial
theorem word35 : True := by
  k_with "call ref" => (((with_reducible show wpAny _ _ (call (Value.ref 56) [Value.int _ _]) _ _ _); k_dflt (refine' imode_ct_use (by k_asm) (by k_asm) (by k_asm) (by k_asm) (by first | exact rfl | assumption) (by ktr_room) (by ktr_units) (by k_asm) _ _ ?_); intro _ _ _ _ _; (try dsimp only)))
  trivial
local macro_rules | `(tactic| o_head (kHook $_ $as $_)) => `(tactic| o_head (@kHook hd.heap_1 $as (fun _ => by kernel_rfl)))
theorem law_walk.tw16646288214163064809 : True := trivial
theorem law_walk.tw15887692210645656175 : True := trivial
theorem law_walk.tw13096375179878589728 : True := trivial
theorem law_walk.tw17198738416183832381 : True := trivial
theorem law_walk.tw1970862119063250865 : True := trivial
theorem law_walk.tw16736113708867630118 : True := trivial
theorem law_walk.tw13332525281781289467 : True := trivial
theorem law_walk.tw17191069843504769711 : True := trivial
theorem law_walk.tw12406459003152409609 : True := trivial
theorem law_walk.tw5202491880151908442 : True := trivial
theorem law_walk.tw5849464907602556482 : True := trivial
theorem law_walk.tw18335874846033304908 : True := trivial
theorem law_walk.tw16288356565122131320 : True := trivial
theorem law_walk.tw296180040996304996 : True := trivial
theorem law_walk.tw12736812855728395017 : True := trivial
theorem law_walk.tw10618763033596195338 : True := trivial
theorem law_walk.tw3004964013433161768 : True := trivial
theorem law_walk.tw3072583708981276997 : True := trivial
theorem law_walk.tw4562229481737148886 : True := trivial
theorem law_walk.tw3248996168741035358 : True := trivial
theorem law_walk.tw4657591597472639979 : True := trivial
theorem law_walk.tw13641380642171206868 : True := trivial
theorem law_walk.tw16452647876230661981 : True := trivial
theorem law_walk.tw16314443678151020817 : True := trivial
theorem law_walk.tw8911797091718074820 : True := trivial
theorem law_walk.tw3901379447191726684 : True := trivial
theorem law_walk.tw13714257558657638190 : True := trivial
theorem law_walk.tw10575778595181894031 : True := trivial
theorem law_walk.tw14240879651608825115 : True := trivial
theorem law_walk.tw4715142628854536148 : True := trivial
theorem law_walk.tw6049634886937883345 : True := trivial
theorem law_walk.tw11982992778822352237 : True := trivial
theorem law_walk.tw1680266527557545993 : True := trivial
theorem law_walk.tw17260160985915537885 : True := trivial
theorem law_walk.tw15670682840938126767 : True := trivial
theorem law_walk.tw13887795260824410890 : True := trivial
theorem law_walk.tw14971813819131637940 : True := trivial
theorem law_walk.tw14327785045594728570 : True := trivial
theorem law_walk.tw3229189241546203836 : True := trivial
theorem law_walk.tw17503048201020566150 : True := trivial
theorem law_walk.tw17238711329945602061 : True := trivial
theorem law_walk.tw12101466091422677741 : True := trivial
theorem law_walk.tw18894516972011198 : True := trivial
theorem law_walk.tw1407156338458783363 : True := trivial
theorem law_walk.tw7100947392080961120 : True := trivial
theorem law_walk.tw5285187710974808773 : True := trivial
theorem law_walk.tw18224671212723825918 : True := trivial
theorem law_walk.tw9774065109101459460 : True := trivial
theorem law_walk.tw3708943436980083059 : True := trivial
theorem law_walk.tw12701836608600397022 : True := trivial
theorem law_walk.tw17823697356111105316 : True := trivial
theorem law_walk.tw1324468810271576928 : True := trivial
theorem law_walk.tw15637905503817521475 : True := trivial
theorem law_walk.tw1420760975202630414 : True := trivial
theorem law_walk.tw5734418796060860671 : True := trivial
theorem law_walk.tw12627331199131324555 : True := trivial
theorem law_walk.tw6451171169170823791 : True := trivial
theorem law_walk.tw583991755219690200 : True := trivial
theorem law_walk.tw5678853151643781460 : True := trivial
theorem law_walk.tw13088496971643157351 : True := trivial
theorem law_walk.tw5132826270825761451 : True := trivial
theorem law_walk.tw3328707826287525414 : True := trivial
theorem law_walk.tw13012963976651126157 : True := trivial
theorem law_walk.tw1962610487425886148 : True := trivial
theorem law_walk.tw357486453476387696 : True := trivial
set_option Elab.async true in
theorem law_walk : PySem.Challenge.rw_tv0036_01.Holds := by
  w_on
  o_law
  k_head
  (case hw => w_witness2)
  k_go0
  (all_goals try k_fold)
  rename_i w s₀ s₁ mg mb gG gY fa o pm doc ho hg X gX gV gGL T gB gTE gTW wA wO gM wC wD hcd ns hs hlay gL gr1 gl2 as1 as2 lS vs as3 hl ra w1 r0 hi hr hcond hc2 B hD h1 tk1 F oc2 oc1 hoc2 hoc1 N gX0
  refine wpAny_mono (Q := fun f s' => ∃ h tk L m, f = .ret (.bool true) ∧ s' = { s₁ with heap := h, toks := tk } ∧ Fr s₁.heap L h m) (E := fun _ _ => False) ?_ (fun f s' hf => ?_) (fun _ _ h => h.elim)
  rotate_left
  · obtain ⟨h, tk, L, m, rfl, rfl, F⟩ := hf
    k_steps
  clear qk ek
  have F9 := fr_pins F [(Str.ofString "script", .ref _)] (all1 rfl all0)
  clear F
  obtain ⟨u0, F⟩ := F9
  replace hoc2 : oc2.data = .cell none := hoc2
  replace hoc1 : oc1.data = .cell none := hoc1
  replace B : Below callerA s₁.heap [] s₁.heap := B
  clear gX0 hD hc2 hr r0 w1 ra as1 as2 as3 gl2 gr1 gL hlay hs hcd gM wA wO gTE gTW gB gGL gV gX hg ho gY gG
  replace hcond : ns.length ≤ 63 := by omega
  refine seqC F ?_
  walk_at "mine steps"
  k_dflt (refine' modes_ct_use B F X T ?kK ?kd ?ku N lS vs ns (hl.at fun o e => F.keep _ o e) hi hcond ?_; walk_at "mine sides")
  clear F N
  rintro lm vm ms om nm h2 tk2 F N offm hmc hmd ⟨him, hm3, hm5, hmb⟩
  walk_at "mine steps"
  (rename Fr _ _ _ _ => F)
  (rename News _ _ _ _ => N)
  have hml := him.length
  have F9 := fr_pins F [(Str.ofString "modes", .ref lm)] (all1 rfl all0)
  clear F
  obtain ⟨u1, F⟩ := F9
  have dm2 : @Ne Nat (s₁.heap.objs.size + 1 + 1) lm := offm _ (List.Mem.head _)
  have dm1 : @Ne Nat (s₁.heap.objs.size + 1) lm := offm _ (List.Mem.tail _ (List.Mem.head _))
  clear offm
  k_dflt (refine LCg.Assign_ListComp_U F rfl (by with_unfolding_all rfl) (by with_unfolding_all rfl) (by decide) (by rfl) (by decide) (by rfl) (by rfl) (by rfl) ?_)
  walk_at "mine steps"
  refine comp_led (fun i ys => IntsAre ys ((ms.take i).map codeF)) rfl F N (List.Mem.head _) hmc hmd (by omega) .nil ?_ ?_
  · intro i v ys I oI C oC D m₂ h tk E' hv hJ hC hx off F N
    obtain ⟨b, t, rfl, hb⟩ := IntsAre.at him _ _ hv
    walk_at "mine steps"
    (rename Fr _ _ _ _ => F)
    (rename News _ _ _ _ => N)
    exact EltEnd.intro _ F N (fun _ h => h) (off3 off) ⟨rfl, ints_take hJ hb _⟩
  · intro g yc hyc D h tk F N o1
    replace hyc := ints_full hyc hml
    obtain ⟨nc, hnc⟩ : ∃ k, k = yc.length := ⟨_, rfl⟩
    have dc : (@Ne Nat lm D) ∧ (@Ne Nat (s₁.heap.objs.size + 1 + 1) D) ∧ (@Ne Nat (s₁.heap.objs.size + 1) D) := ⟨o1.1, o1.2.1, o1.2.2.1⟩
    have F9 := fr_pins F [(Str.ofString "modes", .ref lm), (Str.ofString "codes", .ref D)] (all1 rfl (all1 rfl all0))
    clear F
    obtain ⟨u2, F⟩ := F9
    walk_at "mine steps"
    (rename Fr _ _ _ _ => F)
    (rename News _ _ _ _ => N)
    refine wpAny_Assign_Name ?_
    k_dflt (refine LCg.ListComp_U F (by with_unfolding_all rfl) (by decide) (by rfl) (by decide) (by rfl) ?_)
    walk_at "mine steps"
    refine comp_led (fun i ys => StrsAre ys ((ms.take i).map rowF)) rfl F N (List.Mem.tail _ (List.Mem.head _)) hmc hmd (by omega) .nil ?_ ?_
    · intro i v ys I oI C oC D m₂ h tk E' hv hJ hC hx off F N
      obtain ⟨b, t, rfl, hb⟩ := IntsAre.at him _ _ hv
      walk_at "mine steps"
      (rename Fr _ _ _ _ => F)
      (rename News _ _ _ _ => N)
      exact EltEnd.intro _ F N (fun _ h => h) (off3 off) ⟨rfl, strs_take hJ hb _⟩
    clear F N
    intro g yr hyr R h tk F N o1
    replace hyr := strs_full hyr hml
    have dr : (@Ne Nat D R) ∧ (@Ne Nat lm R) ∧ (@Ne Nat (s₁.heap.objs.size + 1 + 1) R) ∧ (@Ne Nat (s₁.heap.objs.size + 1) R) := ⟨o1.1, o1.2.1, o1.2.2.1, o1.2.2.2.1⟩
    walk_at "mine steps"
    (rename Fr _ _ _ _ => F)
    (rename News _ _ _ _ => N)
    (rename Obj.data _ = _ => hdr)
    rename_i ocr _ _
    have hcl := hyc.length
    rw [List.length_map] at hcl
    k_dflt (refine LCg.ListComp_U F (by with_unfolding_all rfl) (by decide) (by rfl) (by decide) (by rfl) ?_)
    walk_at "mine steps"
    refine comp_led (fun i ys => StrsAre ys (((ms.map codeF).take i).map rowG)) rfl F N (List.Mem.tail _ (List.Mem.head _)) rfl rfl (by omega) .nil ?_ ?_
    · intro i v ys I oI C oC D m₂ h tk E' hv hJ hC hx off F N
      obtain ⟨b, t, rfl, hb⟩ := IntsAre.at hyc _ _ hv
      walk_at "mine steps"
      (rename Fr _ _ _ _ => F)
      (rename News _ _ _ _ => N)
      exact EltEnd.intro _ F N (fun _ h => h) (off3 off) ⟨rfl, strs_take hJ hb _⟩
    clear F N
    intro g yq hyq R2 h tk F N o2
    replace hyq := strs_full hyq (by rw [List.length_map]; exact hcl)
    have hrr : (ms.map codeF).map rowG = ms.map rowF := by
      rw [List.map_map]
      exact List.map_congr_left fun b hb => row_code (hmb b hb).1 (hmb b hb).2
    rw [hrr] at hyq
    have hla : h.IsList R yr.toArray := News.isList N (List.Mem.tail _ (List.Mem.head _))
    have hlb : h.IsList R2 yq.toArray := News.isList N (List.Mem.head _)
    have hok : ∀ x ∈ ms.map rowF, PyData.strOk x = true := fun x hx => by obtain ⟨b, _, rfl⟩ := List.mem_map.mp hx; exact rowF_ok b
    refine ne_strs hla hlb hyr hyq hok ?_ ?_
    · exact Nat.le_of_ble_eq_true rfl
    have N9 := News.perm N (news' := [(R, LCg.lst yr), (D, LCg.lst yc), (lm, om), (s₁.heap.objs.size + 1 + 1, oc2), (s₁.heap.objs.size + 1, ocr)]) (fun p hp => List.mem_cons_of_mem _ hp)
    clear N hyq o2
    have N := N9
    clear N9
    walk_at "mine steps"
    (rename Fr _ _ _ _ => F)
    (rename News _ _ _ _ => N)
    have hlm : ∀ {h' : Heap}, h'.get? lm = some om → h'.IsList lm vm.toArray := fun e => ⟨om, e, hmc, nm, hmd⟩
    refine call_len_list (hlm (N _ (List.Mem.tail _ (List.Mem.tail _ (List.Mem.head _)))).1) (by rw [List.size_toArray]; omega) ?_
    rw [show ((vm.toArray.size : Nat) : Int) = (ms.length : Int) by rw [List.size_toArray, hml]]
    dsimp only
    walk_at "mine steps"
    (rename Fr _ _ _ _ => F)
    (rename News _ _ _ _ => N)
    (rename Obj.data _ = Data.cell (some (Value.int _ _)) => hdf)
    rename_i ocf _ _
    rw [show (2 : Int) ^ Int.toNat 22 - 1 = 4194303 by decide]
    clear hla hlb hok hrr yq
    k_dflt (refine' sums_ct_use B F X T ?kK ?kd ?ku N D yc (ms.map codeF) 4194303 _ (News.isList N (List.Mem.tail _ (List.Mem.head _))) hyc (by rw [List.length_map]; omega) ?_; walk_at "mine sides")
    clear F N
    intro tr SA SB vA vB kA kB h9 tk9 F N offs hvA hvB
    walk_at "mine steps"
    (rename Fr _ _ _ _ => F)
    (rename News _ _ _ _ => N)
    have ds : (@Ne Nat R SA) ∧ (@Ne Nat R SB) ∧ (@Ne Nat (s₁.heap.objs.size + 1) SA) ∧ (@Ne Nat (s₁.heap.objs.size + 1) SB) := ⟨(offs _ (List.Mem.head _)).2.1, (offs _ (List.Mem.head _)).2.2, (offs (s₁.heap.objs.size + 1, ocr) (by simp)).2.1, (offs (s₁.heap.objs.size + 1, ocr) (by simp)).2.2⟩
    have F9 := fr_pins F [(Str.ofString "modes", .ref lm), (Str.ofString "codes", .ref D), (Str.ofString "by_and", .ref SA), (Str.ofString "by_least", .ref SB)] (all1 rfl (all1 rfl (all1 rfl (all1 rfl all0))))
    clear F
    obtain ⟨u3, F⟩ := F9
    have hrl := hyr.length
    rw [List.length_map] at hrl
    clear offs hi hcond
    have hcb : ∀ x ∈ ms.map codeF, 0 ≤ x ∧ x ≤ 2 ^ 22 := fun x hx => by
      obtain ⟨b, hb, rfl⟩ := List.mem_map.mp hx
      have := codeF_bd b
      exact ⟨this.1, by omega⟩
    have hAb := byAnd_bd (ns := ms.map codeF) (top := 4194303) (by rw [List.length_map]; omega) (by decide) (by decide) hcb
    have hBb := byLeast_bd (ns := ms.map codeF) (top := 4194303) (by rw [List.length_map]; omega) (by decide) (by decide) hcb
    have hAl := byAnd_len (ms.map codeF) 4194303
    have hBl := byLeast_len (ms.map codeF) 4194303
    rw [List.length_map] at hAl hBl
    clear hcb
    dsimp only

    k_dflt (refine ListComp_C (x := Str.ofString "place") F (by with_unfolding_all rfl) (fun n => rfl) (fun _ => rfl) rfl (by decide) (by rfl) ?_)
    walk_at "mine steps"
    (rename Fr _ _ _ _ => F)
    (rename News _ _ _ _ => N)
    (rename IsRange _ _ _ _ _ _ _ _ => hran)
    refine SrcC.intro (ColsAre fun p c => Mid (ms.map fun b => signAt (rowF b) p) ((ms.length - 1) / 2) c) rfl F N hran (by decide) (n := 10) (by decide) (by decide) .nil ?_ ?_
    · intro i t ys I oI C oC K oK D9 h tk E' hi10 hJ hoK off nKI nKC nKD F N
      walk_at "mine steps"
      have dK : (@Ne Nat (s₁.heap.objs.size + 1) I) ∧ (@Ne Nat (s₁.heap.objs.size + 1) C) ∧ (@Ne Nat (s₁.heap.objs.size + 1) K) ∧ (@Ne Nat (s₁.heap.objs.size + 1) D9) := off (s₁.heap.objs.size + 1, ocr) (by simp)
      have dR : (@Ne Nat R I) ∧ (@Ne Nat R C) ∧ (@Ne Nat R K) ∧ (@Ne Nat R D9) := off (R, LCg.lst yr) (by simp)
      k_dflt (refine LCg.ListComp_U F (by with_unfolding_all rfl) (by decide) (by rfl) (by decide) (by rfl) ?_)
      walk_at "mine steps"
      refine comp_led (ax := R) (o := LCg.lst yr) (fun i' ys' => StrsAre ys' ((ms.take i').map fun b => signAt (rowF b) i)) rfl F N (by simp) rfl rfl (by omega) .nil ?_ ?_
      · intro i' v ys' I2 oI2 C2 oC2 D2 m₂ h tk E'' hv hJ' hC2 hx2 off2 F N
        have dK2 := off2 (K, oK) (by simp)
        obtain ⟨r, t', rfl, hr⟩ := StrsAre.item hyr _ _ hv
        rw [List.getElem?_map] at hr
        obtain ⟨b, hb, rfl⟩ := Option.map_eq_some_iff.mp hr
        walk_at "mine steps"
        refine char_at i (by omega) (by rw [rowF_len]; exact hi10) (by omega) ?_
        walk_at "mine steps"
        exact EltEnd.intro _ F N (fun _ h => h) (off3 off2) ⟨rfl, strs_take (f := fun b => signAt (rowF b) i) hJ' hb _⟩
      clear F N
      intro g yq hyq R2 h tk F N o2
      replace hyq := strs_full hyq (by omega)
      walk_at "mine steps"
      k_dflt (refine' low_ct_use B F X T ?kK ?kd ?ku N R2 yq (ms.map fun b => signAt (rowF b) i) (News.isList N (List.Mem.head _)) hyq (by rw [List.length_map]; omega) (by rw [List.length_map]; omega) ?_; walk_at "mine sides")
      clear F N
      intro ss' t9 h9 tk9 F N hps hss
      exact EltEnd.intro _ F N (by simp) (off4 off) ⟨rfl, hJ.snoc _ ⟨ss', hps, hss, by rw [List.length_map]⟩⟩
    clear F N hran
    intro D9 h tk ys hys F N oD
    obtain ⟨csa, hcs, hcla, hcolsa⟩ := hys
    walk_at "mine steps"
    refine join_ones (News.isList N (List.Mem.head _)) hcs (by decide) (cols_len (idx := ((ms.length - 1) / 2)) (by omega) hcolsa) (by omega) ?_
    intro tja kja
    rw [cols_row hm3 hm5 hmb hcla (idx := ((ms.length - 1) / 2)) (k := ms.length / 2 + 1) (by omega) (by omega) hcolsa]
    have N9 := News.perm N (news' := [(tr, { cls := Value.type "tuple", data := Data.seq #[Value.ref SA, Value.ref SB] }), (SA, W.listOf vA.toArray kA), (SB, W.listOf vB.toArray kB), (R, LCg.lst yr), (D, LCg.lst yc), (lm, om), (s₁.heap.objs.size + 1 + 1, ocf), (s₁.heap.objs.size + 1, ocr)]) (fun p hp => List.mem_cons_of_mem _ hp)
    clear N oD
    have N := N9
    clear N9
    walk_at "mine steps"
    (rename Fr _ _ _ _ => F)
    (rename News _ _ _ _ => N)
    have F9 := fr_pins F [(Str.ofString "modes", .ref lm), (Str.ofString "codes", .ref D), (Str.ofString "by_and", .ref SA), (Str.ofString "by_least", .ref SB)] (all1 rfl (all1 rfl (all1 rfl (all1 rfl all0))))
    clear F
    obtain ⟨u4, F⟩ := F9
    rw [show ((ms.length : Int).fdiv 2 + 1) = ((ms.length / 2 + 1 : Nat) : Int) by have := half_nat ms.length; omega]
    k_dflt (refine' reached_ct_use B F X T ?kK ?kd ?ku N SA vA (byAnd (ms.map codeF) 4194303) ((ms.length / 2 + 1 : Nat) : Int) _ (News.isList N (List.Mem.tail _ (List.Mem.head _))) hvA (by omega) hAb (by omega) (by omega) ?_; walk_at "mine sides")
    clear F N
    intro t9 h9 tk9 F N
    walk_at "mine steps"
    any_goals (rename (@bne Str _ _ _ = true) => hbad; exact absurd hbad (by simp))
    (rename Fr _ _ _ _ => F)
    (rename News _ _ _ _ => N)

    k_dflt (refine ListComp_C (x := Str.ofString "place") F (by with_unfolding_all rfl) (fun n => rfl) (fun _ => rfl) rfl (by decide) (by rfl) ?_)
    walk_at "mine steps"
    (rename Fr _ _ _ _ => F)
    (rename News _ _ _ _ => N)
    (rename IsRange _ _ _ _ _ _ _ _ => hran)
    refine SrcC.intro (ColsAre fun p c => Mid (ms.map fun b => signAt (rowF b) p) (ms.length / 2) c) rfl F N hran (by decide) (n := 10) (by decide) (by decide) .nil ?_ ?_
    · intro i t ys I oI C oC K oK D9 h tk E' hi10 hJ hoK off nKI nKC nKD F N
      walk_at "mine steps"
      have dK : (@Ne Nat (s₁.heap.objs.size + 1) I) ∧ (@Ne Nat (s₁.heap.objs.size + 1) C) ∧ (@Ne Nat (s₁.heap.objs.size + 1) K) ∧ (@Ne Nat (s₁.heap.objs.size + 1) D9) := off (s₁.heap.objs.size + 1, ocr) (by simp)
      have dR : (@Ne Nat R I) ∧ (@Ne Nat R C) ∧ (@Ne Nat R K) ∧ (@Ne Nat R D9) := off (R, LCg.lst yr) (by simp)
      k_dflt (refine LCg.ListComp_U F (by with_unfolding_all rfl) (by decide) (by rfl) (by decide) (by rfl) ?_)
      walk_at "mine steps"
      refine comp_led (ax := R) (o := LCg.lst yr) (fun i' ys' => StrsAre ys' ((ms.take i').map fun b => signAt (rowF b) i)) rfl F N (by simp) rfl rfl (by omega) .nil ?_ ?_
      · intro i' v ys' I2 oI2 C2 oC2 D2 m₂ h tk E'' hv hJ' hC2 hx2 off2 F N
        have dK2 := off2 (K, oK) (by simp)
        obtain ⟨r, t', rfl, hr⟩ := StrsAre.item hyr _ _ hv
        rw [List.getElem?_map] at hr
        obtain ⟨b, hb, rfl⟩ := Option.map_eq_some_iff.mp hr
        walk_at "mine steps"
        refine char_at i (by omega) (by rw [rowF_len]; exact hi10) (by omega) ?_
        walk_at "mine steps"
        exact EltEnd.intro _ F N (fun _ h => h) (off3 off2) ⟨rfl, strs_take (f := fun b => signAt (rowF b) i) hJ' hb _⟩
      clear F N
      intro g yq hyq R2 h tk F N o2
      replace hyq := strs_full hyq (by omega)
      walk_at "mine steps"
      k_dflt (refine' high_ct_use B F X T ?kK ?kd ?ku N R2 yq (ms.map fun b => signAt (rowF b) i) (News.isList N (List.Mem.head _)) hyq (by rw [List.length_map]; omega) (by rw [List.length_map]; omega) ?_; walk_at "mine sides")
      clear F N
      intro ss' t9 h9 tk9 F N hps hss
      exact EltEnd.intro _ F N (by simp) (off4 off) ⟨rfl, hJ.snoc _ ⟨ss', hps, hss, by rw [List.length_map]⟩⟩
    clear F N hran
    intro D9 h tk ys hys F N oD
    obtain ⟨csb, hcs, hclb, hcolsb⟩ := hys
    walk_at "mine steps"
    refine join_ones (News.isList N (List.Mem.head _)) hcs (by decide) (cols_len (idx := (ms.length / 2)) (by omega) hcolsb) (by omega) ?_
    intro tjb kjb
    rw [cols_row hm3 hm5 hmb hclb (idx := (ms.length / 2)) (k := (ms.length + 1) / 2) (by omega) (by omega) hcolsb]
    have N9 := News.perm N (news' := [(tr, { cls := Value.type "tuple", data := Data.seq #[Value.ref SA, Value.ref SB] }), (SA, W.listOf vA.toArray kA), (SB, W.listOf vB.toArray kB), (R, LCg.lst yr), (D, LCg.lst yc), (lm, om), (s₁.heap.objs.size + 1 + 1, ocf), (s₁.heap.objs.size + 1, ocr)]) (fun p hp => List.mem_cons_of_mem _ hp)
    clear N oD
    have N := N9
    clear N9
    walk_at "mine steps"
    (rename Fr _ _ _ _ => F)
    (rename News _ _ _ _ => N)
    have F9 := fr_pins F [(Str.ofString "modes", .ref lm), (Str.ofString "codes", .ref D), (Str.ofString "by_and", .ref SA), (Str.ofString "by_least", .ref SB)] (all1 rfl (all1 rfl (all1 rfl (all1 rfl all0))))
    clear F
    obtain ⟨u4, F⟩ := F9
    rw [show ((ms.length : Int) + 1).fdiv 2 = (((ms.length + 1) / 2 : Nat) : Int) by have h := (half_nat (ms.length + 1)).1; rw [Int.natCast_add] at h; exact h]
    k_dflt (refine' reached_ct_use B F X T ?kK ?kd ?ku N SA vA (byAnd (ms.map codeF) 4194303) (((ms.length + 1) / 2 : Nat) : Int) _ (News.isList N (List.Mem.tail _ (List.Mem.head _))) hvA (by omega) hAb (by omega) (by omega) ?_; walk_at "mine sides")
    clear F N
    intro t9 h9 tk9 F N
    walk_at "mine steps"
    any_goals (rename (@bne Str _ _ _ = true) => hbad; exact absurd hbad (by simp))
    (rename Fr _ _ _ _ => F)
    (rename News _ _ _ _ => N)
    clear hAb hAl
    w_top off
    (rename Fr _ _ _ _ => F)
    (rename News _ _ _ _ => N)
    k_dflt (refine' low_ct_use B F X T ?kK ?kd ?ku N R yr (ms.map rowF) (News.isList N (List.Mem.tail _ (List.Mem.tail _ (List.Mem.tail _ (List.Mem.head _))))) hyr (by rw [List.length_map]; omega) (by rw [List.length_map]; omega) ?_; walk_at "mine sides")
    clear F N
    intro ss' t9 h9 tk9 F N hps hss
    rw [rows_mid hm3 hm5 hmb (idx := ((ms.map rowF).length - 1) / 2) (k := ms.length / 2 + 1) (by rw [List.length_map]; omega) (by omega) ⟨ss', hps, hss, rfl⟩]
    clear hps hss ss'
    walk_at "mine steps"
    (rename Fr _ _ _ _ => F)
    (rename News _ _ _ _ => N)
    rw [show ((ms.length : Int).fdiv 2 + 1) = ((ms.length / 2 + 1 : Nat) : Int) by have := half_nat ms.length; omega]
    k_dflt (refine' reached_ct_use B F X T ?kK ?kd ?ku N SB vB (byLeast (ms.map codeF) 4194303) ((ms.length / 2 + 1 : Nat) : Int) _ (News.isList N (List.Mem.tail _ (List.Mem.tail _ (List.Mem.head _)))) hvB (by omega) hBb (by omega) (by omega) ?_; walk_at "mine sides")
    clear F N
    intro t9 h9 tk9 F N
    walk_at "mine steps"
    any_goals (rename (@bne Str _ _ _ = true) => hbad; exact absurd hbad (by simp))
    (rename Fr _ _ _ _ => F)
    (rename News _ _ _ _ => N)
    k_dflt (refine' high_ct_use B F X T ?kK ?kd ?ku N R yr (ms.map rowF) (News.isList N (List.Mem.tail _ (List.Mem.tail _ (List.Mem.tail _ (List.Mem.head _))))) hyr (by rw [List.length_map]; omega) (by rw [List.length_map]; omega) ?_; walk_at "mine sides")
    clear F N
    intro ss' t9 h9 tk9 F N hps hss
    rw [rows_mid hm3 hm5 hmb (idx := (ms.map rowF).length / 2) (k := (ms.length + 1) / 2) (by rw [List.length_map]; omega) (by omega) ⟨ss', hps, hss, rfl⟩]
    clear hps hss ss'
    walk_at "mine steps"
    (rename Fr _ _ _ _ => F)
    (rename News _ _ _ _ => N)
    rw [show ((ms.length : Int) + 1).fdiv 2 = (((ms.length + 1) / 2 : Nat) : Int) by have h := (half_nat (ms.length + 1)).1; rw [Int.natCast_add] at h; exact h]
    k_dflt (refine' reached_ct_use B F X T ?kK ?kd ?ku N SB vB (byLeast (ms.map codeF) 4194303) (((ms.length + 1) / 2 : Nat) : Int) _ (News.isList N (List.Mem.tail _ (List.Mem.tail _ (List.Mem.head _)))) hvB (by omega) hBb (by omega) (by omega) ?_; walk_at "mine sides")
    clear F N
    intro t9 h9 tk9 F N
    walk_at "mine steps"
    any_goals (rename (@bne Str _ _ _ = true) => hbad; exact absurd hbad (by simp))
    (rename Fr _ _ _ _ => F)
    (rename News _ _ _ _ => N)

    have N9 := News.perm N (news' := [(lm, om), (s₁.heap.objs.size + 1 + 1, ocf), (s₁.heap.objs.size + 1, ocr)]) (all1 (List.Mem.tail _ (List.Mem.tail _ (List.Mem.tail _ (List.Mem.tail _ (List.Mem.tail _ (List.Mem.head _)))))) (all1 (List.Mem.tail _ (List.Mem.tail _ (List.Mem.tail _ (List.Mem.tail _ (List.Mem.tail _ (List.Mem.tail _ (List.Mem.head _))))))) (all1 (List.Mem.tail _ (List.Mem.tail _ (List.Mem.tail _ (List.Mem.tail _ (List.Mem.tail _ (List.Mem.tail _ (List.Mem.tail _ (List.Mem.head _)))))))) all0)))
    clear N
    have N := N9
    clear N9
    have F9 := fr_pins F [(Str.ofString "modes", .ref lm)] (all1 rfl all0)
    clear F
    obtain ⟨u5, F⟩ := F9

    k_dflt (refine LCg.ListComp_U F (by with_unfolding_all rfl) (by decide) (by rfl) (by decide) (by rfl) ?_)
    walk_at "mine steps"
    refine comp_led (fun i ys => IntsAre ys ((ms.take i).map (fun b => b.fmod 4096))) rfl F N (List.Mem.head _) hmc hmd (by omega) .nil ?_ ?_
    · intro i v ys I oI C oC D9 m₂ h tk E' hv hJ hC hx off F N
      obtain ⟨b, t, rfl, hb⟩ := IntsAre.at him _ _ hv
      walk_at "mine steps"
      (rename Fr _ _ _ _ => F)
      (rename News _ _ _ _ => N)
      exact EltEnd.intro _ F N (fun _ h => h) (off3 off) ⟨rfl, ints_take (f := (fun b => b.fmod 4096)) hJ hb _⟩
    clear F N
    intro g yp hyp Dp h tk F N op
    replace hyp := ints_full hyp hml

    walk_at "mine steps"
    k_dflt (refine' sums_ct_use B F X T ?kK ?kd ?ku N Dp yp (ms.map (fun b => b.fmod 4096)) 4095 _ (News.isList N (List.Mem.head _)) hyp (by rw [List.length_map]; omega) ?_; walk_at "mine sides")
    clear F N
    intro Tp Ap Bp vap vbp kap kbp h9 tk9 F N ofp hvap hvbp
    walk_at "mine steps"
    refine tup_snd N (List.Mem.head _) rfl ?_
    walk_at "mine steps"
    (rename Fr _ _ _ _ => F)
    (rename News _ _ _ _ => N)
    have hbp := byLeast_bd (ns := ms.map (fun b => b.fmod 4096)) (top := 4095) (by rw [List.length_map]; omega) (by decide) (by decide) (mod_bd ms)
    have hlp := byLeast_len (ms.map (fun b => b.fmod 4096)) 4095
    rw [List.length_map] at hlp
    k_dflt (refine' cuts_ct_use B F X T ?kK ?kd ?ku N Bp vbp (byLeast (ms.map (fun b => b.fmod 4096)) 4095) (News.isList N (List.Mem.tail _ (List.Mem.tail _ (List.Mem.head _)))) hvbp (by omega) (by omega) hbp ?_; walk_at "mine sides")
    clear F N
    intro Lp vlp obp np h9 tk9 F N olp hcp hdp hvp
    walk_at "mine steps"
    (rename Fr _ _ _ _ => F)
    (rename News _ _ _ _ => N)

    have dp : @Ne Nat lm Lp := olp (lm, om) (List.Mem.tail _ (List.Mem.tail _ (List.Mem.tail _ (List.Mem.tail _ (List.Mem.head _)))))
    have N9 := News.perm N (news' := [(Lp, obp), (lm, om), (s₁.heap.objs.size + 1 + 1, ocf), (s₁.heap.objs.size + 1, ocr)]) (all1 (List.Mem.head _) (all1 (List.Mem.tail _ (List.Mem.tail _ (List.Mem.tail _ (List.Mem.tail _ (List.Mem.tail _ (List.Mem.head _)))))) (all1 (List.Mem.tail _ (List.Mem.tail _ (List.Mem.tail _ (List.Mem.tail _ (List.Mem.tail _ (List.Mem.tail _ (List.Mem.head _))))))) (all1 (List.Mem.tail _ (List.Mem.tail _ (List.Mem.tail _ (List.Mem.tail _ (List.Mem.tail _ (List.Mem.tail _ (List.Mem.tail _ (List.Mem.head _)))))))) all0))))
    clear N olp ofp op
    have N := N9
    clear N9
    have F9 := fr_pins F [(Str.ofString "modes", .ref lm), (Str.ofString "rights", .ref Lp)] (all1 rfl (all1 rfl all0))
    clear F
    obtain ⟨u6, F⟩ := F9


    k_dflt (refine LCg.ListComp_U F (by with_unfolding_all rfl) (by decide) (by rfl) (by decide) (by rfl) ?_)
    walk_at "mine steps"
    refine comp_led (fun i ys => IntsAre ys ((ms.take i).map (fun b => (b.fdiv 4096).fmod 16 * 4096))) rfl F N (List.Mem.tail _ (List.Mem.head _)) hmc hmd (by omega) .nil ?_ ?_
    · intro i v ys I oI C oC D9 m₂ h tk E' hv hJ hC hx off F N
      obtain ⟨b, t, rfl, hb⟩ := IntsAre.at him _ _ hv
      walk_at "mine steps"
      (rename Fr _ _ _ _ => F)
      (rename News _ _ _ _ => N)
      exact EltEnd.intro _ F N (fun _ h => h) (off3 off) ⟨rfl, ints_take (f := (fun b => (b.fdiv 4096).fmod 16 * 4096)) hJ hb _⟩
    clear F N
    intro g yq hyq Dq h tk F N oq
    replace hyq := ints_full hyq hml

    walk_at "mine steps"
    k_dflt (refine' sums_ct_use B F X T ?kK ?kd ?ku N Dq yq (ms.map (fun b => (b.fdiv 4096).fmod 16 * 4096)) 61440 _ (News.isList N (List.Mem.head _)) hyq (by rw [List.length_map]; omega) ?_; walk_at "mine sides")
    clear F N
    intro Tq Aq Bq vaq vbq kaq kbq h9 tk9 F N ofq hvaq hvbq
    walk_at "mine steps"
    refine tup_snd N (List.Mem.head _) rfl ?_
    walk_at "mine steps"
    (rename Fr _ _ _ _ => F)
    (rename News _ _ _ _ => N)
    have hbq := byLeast_bd (ns := ms.map (fun b => (b.fdiv 4096).fmod 16 * 4096)) (top := 61440) (by rw [List.length_map]; omega) (by decide) (by decide) (kind_bd ms)
    have hlq := byLeast_len (ms.map (fun b => (b.fdiv 4096).fmod 16 * 4096)) 61440
    rw [List.length_map] at hlq
    k_dflt (refine' cuts_ct_use B F X T ?kK ?kd ?ku N Bq vbq (byLeast (ms.map (fun b => (b.fdiv 4096).fmod 16 * 4096)) 61440) (News.isList N (List.Mem.tail _ (List.Mem.tail _ (List.Mem.head _)))) hvbq (by omega) (by omega) hbq ?_; walk_at "mine sides")
    clear F N
    intro Lq vlq obq nq h9 tk9 F N olq hcq hdq hvq
    walk_at "mine steps"
    (rename Fr _ _ _ _ => F)
    (rename News _ _ _ _ => N)
    have dq : (@Ne Nat Lp Lq) ∧ (@Ne Nat lm Lq) := ⟨olq (Lp, obp) (List.Mem.tail _ (List.Mem.tail _ (List.Mem.tail _ (List.Mem.tail _ (List.Mem.head _))))), olq (lm, om) (List.Mem.tail _ (List.Mem.tail _ (List.Mem.tail _ (List.Mem.tail _ (List.Mem.tail _ (List.Mem.head _))))))⟩
    clear olq ofq oq

    have N9 := News.perm N (news' := [(Lq, obq), (Lp, obp), (lm, om), (s₁.heap.objs.size + 1 + 1, ocf), (s₁.heap.objs.size + 1, ocr)]) (all1 (List.Mem.head _) (all1 (List.Mem.tail _ (List.Mem.tail _ (List.Mem.tail _ (List.Mem.tail _ (List.Mem.tail _ (List.Mem.head _)))))) (all1 (List.Mem.tail _ (List.Mem.tail _ (List.Mem.tail _ (List.Mem.tail _ (List.Mem.tail _ (List.Mem.tail _ (List.Mem.head _))))))) (all1 (List.Mem.tail _ (List.Mem.tail _ (List.Mem.tail _ (List.Mem.tail _ (List.Mem.tail _ (List.Mem.tail _ (List.Mem.tail _ (List.Mem.head _)))))))) (all1 (List.Mem.tail _ (List.Mem.tail _ (List.Mem.tail _ (List.Mem.tail _ (List.Mem.tail _ (List.Mem.tail _ (List.Mem.tail _ (List.Mem.tail _ (List.Mem.head _))))))))) all0)))))
    clear N
    have N := N9
    clear N9
    have F9 := fr_pins F [(Str.ofString "modes", .ref lm), (Str.ofString "rights", .ref Lp), (Str.ofString "kinds", .ref Lq)] (all1 rfl (all1 rfl (all1 rfl all0)))
    clear F
    obtain ⟨u7, F⟩ := F9

    k_dflt (refine LCg.ListComp_U F (by with_unfolding_all rfl) (by decide) (by rfl) (by decide) (by rfl) ?_)
    walk_at "mine steps"
    refine comp_led (fun i ys => IntsAre ys ((ms.take i).map (fun b => Builtin.bitAnd b 4095))) rfl F N (List.Mem.tail _ (List.Mem.tail _ (List.Mem.head _))) hmc hmd (by omega) .nil ?_ ?_
    · intro i v ys I oI C oC D9 m₂ h tk E' hv hJ hC hx off F N
      obtain ⟨b, t, rfl, hb⟩ := IntsAre.at him _ _ hv
      walk_at "mine steps"
      (rename Fr _ _ _ _ => F)
      (rename News _ _ _ _ => N)
      exact EltEnd.intro _ F N (fun _ h => h) (off3 off) ⟨rfl, ints_take (f := (fun b => Builtin.bitAnd b 4095)) hJ hb _⟩
    clear F N
    intro g yx hyx Dx h tk F N ox
    replace hyx := ints_full hyx hml
    rw [imode_map hmb] at hyx
    walk_at "mine steps"
    (rename Fr _ _ _ _ => F)
    (rename News _ _ _ _ => N)

    k_dflt (refine LCg.ListComp_U F (by with_unfolding_all rfl) (by decide) (by rfl) (by decide) (by rfl) ?_)
    walk_at "mine steps"
    refine comp_led (fun i ys => IntsAre ys ((ms.take i).map (fun b => Builtin.bitAnd b 61440))) rfl F N (List.Mem.tail _ (List.Mem.tail _ (List.Mem.tail _ (List.Mem.head _)))) hmc hmd (by omega) .nil ?_ ?_
    · intro i v ys I oI C oC D9 m₂ h tk E' hv hJ hC hx off F N
      obtain ⟨b, t, rfl, hb⟩ := IntsAre.at him _ _ hv
      walk_at "mine steps"
      (rename Fr _ _ _ _ => F)
      (rename News _ _ _ _ => N)
      exact EltEnd.intro _ F N (fun _ h => h) (off3 off) ⟨rfl, ints_take (f := (fun b => Builtin.bitAnd b 61440)) hJ hb _⟩
    clear F N
    intro g yy hyy Dy h tk F N oy
    replace hyy := ints_full hyy hml
    rw [ifmt_map hmb] at hyy
    walk_at "mine steps"
    (rename Fr _ _ _ _ => F)
    (rename News _ _ _ _ => N)
    refine newList_K F N ?_ (by rw [sizeLine_eq]; exact Nat.le_of_ble_eq_true rfl)
    clear F N
    intro LP h9 F N lLP
    walk_at "mine steps"
    (rename Fr _ _ _ _ => F)
    (rename News _ _ _ _ => N)
    have dz : (@Ne Nat Dx LP) ∧ (@Ne Nat Dy LP) := ⟨Nat.ne_of_lt (lLP (Dx, LCg.lst yx) (List.Mem.tail _ (List.Mem.head _))), Nat.ne_of_lt (lLP (Dy, LCg.lst yy) (List.Mem.head _))⟩
    have hbx := wide_bd (mod_bd ms)
    have hby := wide_bd (kind_bd ms)

    have N9 := News.perm N (news' := [(LP, W.listOf [Value.ref Dx, Value.ref Dy].toArray 0), (Dy, LCg.lst yy), (Dx, LCg.lst yx), (Lq, obq), (Lp, obp), (lm, om), (s₁.heap.objs.size + 1 + 1, ocf), (s₁.heap.objs.size + 1, ocr)]) (all1 (List.Mem.head _) (all1 (List.Mem.tail _ (List.Mem.head _)) (all1 (List.Mem.tail _ (List.Mem.tail _ (List.Mem.head _))) (all1 (List.Mem.tail _ (List.Mem.tail _ (List.Mem.tail _ (List.Mem.head _)))) (all1 (List.Mem.tail _ (List.Mem.tail _ (List.Mem.tail _ (List.Mem.tail _ (List.Mem.head _))))) (all1 (List.Mem.tail _ (List.Mem.tail _ (List.Mem.tail _ (List.Mem.tail _ (List.Mem.tail _ (List.Mem.head _)))))) (all1 (List.Mem.tail _ (List.Mem.tail _ (List.Mem.tail _ (List.Mem.tail _ (List.Mem.tail _ (List.Mem.tail _ (List.Mem.head _))))))) (all1 (List.Mem.tail _ (List.Mem.tail _ (List.Mem.tail _ (List.Mem.tail _ (List.Mem.tail _ (List.Mem.tail _ (List.Mem.tail _ (List.Mem.head _)))))))) all0))))))))
    clear N
    have N := N9
    clear N9
    have F9 := fr_pins F [(Str.ofString "rights", .ref Lp), (Str.ofString "kinds", .ref Lq), (Str.ofString "parts", .ref LP)] (all1 rfl (all1 rfl (all1 rfl all0)))
    clear F
    obtain ⟨u8, F⟩ := F9

    k_dflt (refine LCg.Assign_ListComp_U F rfl (by with_unfolding_all rfl) (by with_unfolding_all rfl) (by decide) (by rfl) (by decide) (by rfl) (by rfl) (by rfl) ?_)
    walk_at "mine steps"
    refine comp_two (IsFl (cutP ms)) (IsFl (cutQ ms)) rfl F N (List.Mem.head _) rfl rfl ?_ ?_ ?_
    · intro I oI C oC D9 m₂ h tk E' hC hx off F N
      walk_at "mine steps"
      (rename Fr _ _ _ _ => F)
      (rename News _ _ _ _ => N)
      k_dflt (refine' quant_ex_use B F X T ?kK ?kd ?ku N Dx yx (ms.map fun b => b.fmod 4096) (4 * (ms.length : Int) + 4) _  (by first | (rw [List.length_map]; done) | (rw [List.length_map]; omega)) (News.isList N (List.Mem.tail _ (List.Mem.tail _ (List.Mem.tail _ (List.Mem.tail _ (List.Mem.tail _ (List.Mem.head _))))))) hyx (by rw [List.length_map]; omega) (by rw [List.length_map]; omega) hbx ?_; walk_at "mine sides")
      clear F N
      intro lr vr ss o n h9 tk9 F N ofr hcr hdr hfr
      exact EltEnd.one (q := (lr, o)) (its := [(I, oI), (C, oC), (D9, LCg.lst [])]) F N (off3 off) ofr ⟨(lr, o), rfl, ⟨hcr, vr, n, hdr, quP hm3 hm5 hfr.1 hfr.2.1 hfr.2.2⟩, rfl⟩
    · intro q hq I oI C oC D9 m₂ h tk E' hC hx off F N
      walk_at "mine steps"
      (rename Fr _ _ _ _ => F)
      (rename News _ _ _ _ => N)
      k_dflt (refine' quant_ex_use B F X T ?kK ?kd ?ku N Dy yy (ms.map fun b => (b.fdiv 4096).fmod 16 * 4096) (4 * (ms.length : Int) + 4) _  (by first | (rw [List.length_map]; done) | (rw [List.length_map]; omega)) (News.isList N (List.Mem.tail _ (List.Mem.tail _ (List.Mem.tail _ (List.Mem.tail _ (List.Mem.tail _ (List.Mem.head _))))))) hyy (by rw [List.length_map]; omega) (by rw [List.length_map]; omega) hby ?_; walk_at "mine sides")
      clear F N
      intro lr vr ss o n h9 tk9 F N ofr hcr hdr hfr
      exact EltEnd.one (q := (lr, o)) (its := [(I, oI), (C, oC), (D9, LCg.lst [.ref q.1])]) F N (off3 off) ofr ⟨(lr, o), rfl, ⟨hcr, vr, n, hdr, quQ hm3 hm5 hfr.1 hfr.2.1 hfr.2.2⟩, rfl⟩
    clear F N
    intro g q1 q2 hq1 hq2 D1 h tk F N o1
    walk_at "mine steps"
    (rename Fr _ _ _ _ => F)
    (rename News _ _ _ _ => N)
    have F9 := fr_pins F [(Str.ofString "rights", .ref Lp), (Str.ofString "kinds", .ref Lq), (Str.ofString "parts", .ref LP), (Str.ofString "outer", .ref D1)] (all1 rfl (all1 rfl (all1 rfl (all1 rfl all0))))
    clear F
    obtain ⟨u9, F⟩ := F9

    k_dflt (refine LCg.Assign_ListComp_U F rfl (by with_unfolding_all rfl) (by with_unfolding_all rfl) (by decide) (by rfl) (by decide) (by rfl) (by rfl) (by rfl) ?_)
    walk_at "mine steps"
    refine comp_two (IsFl (sliceF ms.length (cutP ms))) (IsFl (sliceF ms.length (cutQ ms))) rfl F N (List.Mem.tail _ (List.Mem.tail _ (List.Mem.tail _ (List.Mem.head _)))) rfl rfl ?_ ?_ ?_
    · intro I oI C oC D9 m₂ h tk E' hC hx off F N
      walk_at "mine steps"
      (rename Fr _ _ _ _ => F)
      (rename News _ _ _ _ => N)
      k_dflt (refine' quant_in_use B F X T ?kK ?kd ?ku N Dx yx (ms.map fun b => b.fmod 4096) (4 * (ms.length : Int) - 4) _ _ (by first | (rw [List.length_map]; done) | (rw [List.length_map]; omega)) (News.isList N (List.Mem.tail _ (List.Mem.tail _ (List.Mem.tail _ (List.Mem.tail _ (List.Mem.tail _ (List.Mem.tail _ (List.Mem.tail _ (List.Mem.tail _ (List.Mem.head _)))))))))) hyx (by rw [List.length_map]; omega) (by rw [List.length_map]; omega) hbx ?_; walk_at "mine sides")
      clear F N
      intro lr vr ss o n h9 tk9 F N ofr hcr hdr hfr
      exact EltEnd.one (q := (lr, o)) (its := [(I, oI), (C, oC), (D9, LCg.lst [])]) F N (off3 off) ofr ⟨(lr, o), rfl, ⟨hcr, vr, n, hdr, qiP hm3 hm5 hfr.1 hfr.2.1 hfr.2.2⟩, rfl⟩
    · intro q hq I oI C oC D9 m₂ h tk E' hC hx off F N
      walk_at "mine steps"
      (rename Fr _ _ _ _ => F)
      (rename News _ _ _ _ => N)
      k_dflt (refine' quant_in_use B F X T ?kK ?kd ?ku N Dy yy (ms.map fun b => (b.fdiv 4096).fmod 16 * 4096) (4 * (ms.length : Int) - 4) _ _ (by first | (rw [List.length_map]; done) | (rw [List.length_map]; omega)) (News.isList N (List.Mem.tail _ (List.Mem.tail _ (List.Mem.tail _ (List.Mem.tail _ (List.Mem.tail _ (List.Mem.tail _ (List.Mem.tail _ (List.Mem.tail _ (List.Mem.head _)))))))))) hyy (by rw [List.length_map]; omega) (by rw [List.length_map]; omega) hby ?_; walk_at "mine sides")
      clear F N
      intro lr vr ss o n h9 tk9 F N ofr hcr hdr hfr
      exact EltEnd.one (q := (lr, o)) (its := [(I, oI), (C, oC), (D9, LCg.lst [.ref q.1])]) F N (off3 off) ofr ⟨(lr, o), rfl, ⟨hcr, vr, n, hdr, qiQ hm3 hm5 hfr.1 hfr.2.1 hfr.2.2⟩, rfl⟩
    clear F N
    intro g q3 q4 hq3 hq4 D2 h tk F N o2
    walk_at "mine steps"
    (rename Fr _ _ _ _ => F)
    (rename News _ _ _ _ => N)

    have N9 := News.perm N (news' := [(D2, LCg.lst [.ref q3.1, .ref q4.1]), q4, q3, (D1, LCg.lst [.ref q1.1, .ref q2.1]), q2, q1, (Lq, obq), (Lp, obp), (lm, om), (s₁.heap.objs.size + 1 + 1, ocf), (s₁.heap.objs.size + 1, ocr)]) (all1 (List.Mem.head _) (all1 (List.Mem.tail _ (List.Mem.head _)) (all1 (List.Mem.tail _ (List.Mem.tail _ (List.Mem.head _))) (all1 (List.Mem.tail _ (List.Mem.tail _ (List.Mem.tail _ (List.Mem.head _)))) (all1 (List.Mem.tail _ (List.Mem.tail _ (List.Mem.tail _ (List.Mem.tail _ (List.Mem.head _))))) (all1 (List.Mem.tail _ (List.Mem.tail _ (List.Mem.tail _ (List.Mem.tail _ (List.Mem.tail _ (List.Mem.head _)))))) (all1 (List.Mem.tail _ (List.Mem.tail _ (List.Mem.tail _ (List.Mem.tail _ (List.Mem.tail _ (List.Mem.tail _ (List.Mem.tail _ (List.Mem.tail _ (List.Mem.tail _ (List.Mem.head _)))))))))) (all1 (List.Mem.tail _ (List.Mem.tail _ (List.Mem.tail _ (List.Mem.tail _ (List.Mem.tail _ (List.Mem.tail _ (List.Mem.tail _ (List.Mem.tail _ (List.Mem.tail _ (List.Mem.tail _ (List.Mem.head _))))))))))) (all1 (List.Mem.tail _ (List.Mem.tail _ (List.Mem.tail _ (List.Mem.tail _ (List.Mem.tail _ (List.Mem.tail _ (List.Mem.tail _ (List.Mem.tail _ (List.Mem.tail _ (List.Mem.tail _ (List.Mem.tail _ (List.Mem.head _)))))))))))) (all1 (List.Mem.tail _ (List.Mem.tail _ (List.Mem.tail _ (List.Mem.tail _ (List.Mem.tail _ (List.Mem.tail _ (List.Mem.tail _ (List.Mem.tail _ (List.Mem.tail _ (List.Mem.tail _ (List.Mem.tail _ (List.Mem.tail _ (List.Mem.head _))))))))))))) (all1 (List.Mem.tail _ (List.Mem.tail _ (List.Mem.tail _ (List.Mem.tail _ (List.Mem.tail _ (List.Mem.tail _ (List.Mem.tail _ (List.Mem.tail _ (List.Mem.tail _ (List.Mem.tail _ (List.Mem.tail _ (List.Mem.tail _ (List.Mem.tail _ (List.Mem.head _)))))))))))))) all0)))))))))))
    clear N
    have N := N9
    clear N9
    have F9 := fr_pins F [(Str.ofString "rights", .ref Lp), (Str.ofString "kinds", .ref Lq), (Str.ofString "outer", .ref D1), (Str.ofString "inner", .ref D2)] (all1 rfl (all1 rfl (all1 rfl (all1 rfl all0))))
    clear F
    obtain ⟨u10, F⟩ := F9

    clear lLP dz hbx hby hl hvA hvB

    have hNB := none_booked X T
    have dpq : Lp ≠ Lq := dq.1
    walk_at "mine steps"
    k_dflt (refine ListComp_2 F (by with_unfolding_all rfl) (by decide) (by rfl) (by decide) (by rfl) (by rfl) (by decide) ?_)
    walk_at "mine steps"
    refine kmk_add_lit (zs := [.ref q1.1, .ref q2.1, .ref q3.1, .ref q4.1]) F N (News.isList N (List.Mem.tail _ (List.Mem.tail _ (List.Mem.tail _ (List.Mem.head _))))) (News.isList N (List.Mem.head _)) rfl ?_ (by rw [sizeLine_eq]; exact Nat.le_of_ble_eq_true rfl)
    clear F N
    intro DZ h9 F N lDZ
    refine Src2.intro IsFloat rfl F N (List.Mem.head _) rfl rfl (src_four (List.Mem.tail _ (List.Mem.tail _ (List.Mem.tail _ (List.Mem.tail _ (List.Mem.tail _ (List.Mem.tail _ (List.Mem.head _))))))) (List.Mem.tail _ (List.Mem.tail _ (List.Mem.tail _ (List.Mem.tail _ (List.Mem.tail _ (List.Mem.head _)))))) (List.Mem.tail _ (List.Mem.tail _ (List.Mem.tail _ (List.Mem.head _)))) (List.Mem.tail _ (List.Mem.tail _ (List.Mem.head _))) hq1 hq2 hq3 hq4) ?_ ?_
    · rintro y ⟨x, t, rfl⟩ I oI I2 oI2 C oC D m₂ h tk E' hC hx F N
      walk_at "mine steps"
      exact ⟨rfl, _, _, rfl, F, N⟩
    clear F N lDZ
    intro D3 h tk F N oD3
    walk_at "mine steps"
    (rename Fr _ _ _ _ => F)
    (rename News _ _ _ _ => N)
    refine newList_K F N ?_ (by rw [sizeLine_eq]; exact Nat.le_of_ble_eq_true rfl)
    clear F N
    intro LE h9 F N lLE
    walk_at "mine steps"
    refine ne_strs (xs := []) (ys := []) (ss := []) (News.isList N (List.Mem.tail _ (List.Mem.head _))) (News.isList N (List.Mem.head _)) .nil .nil (by simp) (Nat.le_of_ble_eq_true rfl) ?_
    clear lLE oD3
    walk_at "mine steps"
    (rename Fr _ _ _ _ => F)
    (rename News _ _ _ _ => N)

    have N9 := News.perm N (news' := [(D2, LCg.lst [.ref q3.1, .ref q4.1]), q4, q3, (D1, LCg.lst [.ref q1.1, .ref q2.1]), q2, q1, (Lq, obq), (Lp, obp), (s₁.heap.objs.size + 1 + 1, ocf), (s₁.heap.objs.size + 1, ocr)]) (all1 (List.Mem.tail _ (List.Mem.tail _ (List.Mem.tail _ (List.Mem.head _)))) (all1 (List.Mem.tail _ (List.Mem.tail _ (List.Mem.tail _ (List.Mem.tail _ (List.Mem.head _))))) (all1 (List.Mem.tail _ (List.Mem.tail _ (List.Mem.tail _ (List.Mem.tail _ (List.Mem.tail _ (List.Mem.head _)))))) (all1 (List.Mem.tail _ (List.Mem.tail _ (List.Mem.tail _ (List.Mem.tail _ (List.Mem.tail _ (List.Mem.tail _ (List.Mem.head _))))))) (all1 (List.Mem.tail _ (List.Mem.tail _ (List.Mem.tail _ (List.Mem.tail _ (List.Mem.tail _ (List.Mem.tail _ (List.Mem.tail _ (List.Mem.head _)))))))) (all1 (List.Mem.tail _ (List.Mem.tail _ (List.Mem.tail _ (List.Mem.tail _ (List.Mem.tail _ (List.Mem.tail _ (List.Mem.tail _ (List.Mem.tail _ (List.Mem.head _))))))))) (all1 (List.Mem.tail _ (List.Mem.tail _ (List.Mem.tail _ (List.Mem.tail _ (List.Mem.tail _ (List.Mem.tail _ (List.Mem.tail _ (List.Mem.tail _ (List.Mem.tail _ (List.Mem.head _)))))))))) (all1 (List.Mem.tail _ (List.Mem.tail _ (List.Mem.tail _ (List.Mem.tail _ (List.Mem.tail _ (List.Mem.tail _ (List.Mem.tail _ (List.Mem.tail _ (List.Mem.tail _ (List.Mem.tail _ (List.Mem.head _))))))))))) (all1 (List.Mem.tail _ (List.Mem.tail _ (List.Mem.tail _ (List.Mem.tail _ (List.Mem.tail _ (List.Mem.tail _ (List.Mem.tail _ (List.Mem.tail _ (List.Mem.tail _ (List.Mem.tail _ (List.Mem.tail _ (List.Mem.tail _ (List.Mem.head _))))))))))))) (all1 (List.Mem.tail _ (List.Mem.tail _ (List.Mem.tail _ (List.Mem.tail _ (List.Mem.tail _ (List.Mem.tail _ (List.Mem.tail _ (List.Mem.tail _ (List.Mem.tail _ (List.Mem.tail _ (List.Mem.tail _ (List.Mem.tail _ (List.Mem.tail _ (List.Mem.head _)))))))))))))) all0))))))))))
    clear N
    have N := N9
    clear N9
    have F9 := fr_pins F [(Str.ofString "rights", .ref Lp), (Str.ofString "kinds", .ref Lq), (Str.ofString "outer", .ref D1), (Str.ofString "inner", .ref D2)] (all1 rfl (all1 rfl (all1 rfl (all1 rfl all0))))
    clear F
    obtain ⟨u11, F⟩ := F9

    refine newList_K F N ?_ (by rw [sizeLine_eq]; exact Nat.le_of_ble_eq_true rfl)
    clear F N
    intro LF h9 F N lLF
    walk_at "mine steps"
    refine ne_pairs (News.isList N (List.Mem.tail _ (List.Mem.tail _ (List.Mem.tail _ (List.Mem.tail _ (List.Mem.head _)))))) (News.isList N (List.Mem.head _)) (Nat.le_of_ble_eq_true rfl) (fl_alike (q := q1) (r := (Lp, obp)) N (List.Mem.tail _ (List.Mem.tail _ (List.Mem.tail _ (List.Mem.tail _ (List.Mem.tail _ (List.Mem.tail _ (List.Mem.head _))))))) (List.Mem.tail _ (List.Mem.tail _ (List.Mem.tail _ (List.Mem.tail _ (List.Mem.tail _ (List.Mem.tail _ (List.Mem.tail _ (List.Mem.tail _ (List.Mem.head _))))))))) hq1 ⟨hcp, vlp, np, hdp, hvp⟩ (cuts_ok _) (Nat.le_of_ble_eq_true rfl) (none_booked (X.keeps F.keep) (T.keeps F.keep)))
      (fl_alike (q := q2) (r := (Lq, obq)) N (List.Mem.tail _ (List.Mem.tail _ (List.Mem.tail _ (List.Mem.tail _ (List.Mem.tail _ (List.Mem.head _)))))) (List.Mem.tail _ (List.Mem.tail _ (List.Mem.tail _ (List.Mem.tail _ (List.Mem.tail _ (List.Mem.tail _ (List.Mem.tail _ (List.Mem.head _)))))))) hq2 ⟨hcq, vlq, nq, hdq, hvq⟩ (cuts_ok _) (Nat.le_of_ble_eq_true rfl) (none_booked (X.keeps F.keep) (T.keeps F.keep))) ?_
    clear lLF
    walk_at "mine steps"
    (rename Fr _ _ _ _ => F)
    (rename News _ _ _ _ => N)

    k_dflt (refine ListComp_Tu F (by with_unfolding_all rfl) (by decide) (by rfl) (by decide) (by rfl) ?_)
    walk_at "mine steps"
    (rename Fr _ _ _ _ => F)
    (rename News _ _ _ _ => N)
    rename_i DT _ lDT
    refine tup_two (IsFl (sliceF ms.length (cutP ms))) (IsFl (sliceF ms.length (cutQ ms))) rfl F N (List.Mem.head _) rfl rfl ?_ ?_ ?_
    · clear F N lDT
      intro I oI C oC D9 m₂ h tk E' hC hx off F N
      walk_at "mine steps"
      k_dflt (refine' kmk_slice (its := vlp.toArray) ?F1 ?N1 ?l1 ?pa1 ?qa1 ?_ ?sa1 ?ta1 ?za1; (case F1 => exact F); (case N1 => exact N); (case l1 => exact ⟨obp, (N (Lp, obp) (List.Mem.tail _ (List.Mem.tail _ (List.Mem.tail _ (List.Mem.tail _ (List.Mem.tail _ (List.Mem.tail _ (List.Mem.tail _ (List.Mem.tail _ (List.Mem.tail _ (List.Mem.tail _ (List.Mem.tail _ (List.Mem.tail _ (List.Mem.head _)))))))))))))).1, hcp, np, hdp⟩); (case pa1 => kmk_part); (case qa1 => kmk_part); (case sa1 => with_unfolding_all rfl); (case ta1 => kmk_pure); (case za1 => exact cuts_size hvp (by rw [List.length_map]; exact hm5)))
      intro DS h9 F N lDS
      exact EltEnd.one (q := (DS, _)) (its := [(I, oI), (C, oC), (D9, LCg.lst [])]) F N (off3 off) (off_lt lDS) ⟨_, rfl, fl_slice hvp (by omega) DS, rfl⟩
    · clear F N lDT
      intro q hq I oI C oC D9 m₂ h tk E' hC hx off F N
      walk_at "mine steps"
      k_dflt (refine' kmk_slice (its := vlq.toArray) ?F2 ?N2 ?l2 ?p2 ?q2 ?_ ?s2 ?t2 ?z2; (case F2 => exact F); (case N2 => exact N); (case l2 => exact ⟨obq, (N (Lq, obq) (List.Mem.tail _ (List.Mem.tail _ (List.Mem.tail _ (List.Mem.tail _ (List.Mem.tail _ (List.Mem.tail _ (List.Mem.tail _ (List.Mem.tail _ (List.Mem.tail _ (List.Mem.tail _ (List.Mem.tail _ (List.Mem.tail _ (List.Mem.head _)))))))))))))).1, hcq, nq, hdq⟩); (case p2 => kmk_part); (case q2 => kmk_part); (case s2 => with_unfolding_all rfl); (case t2 => kmk_pure); (case z2 => exact cuts_size hvq (by rw [List.length_map]; exact hm5)))
      intro DS h9 F N lDS
      exact EltEnd.one (q := (DS, _)) (its := [(I, oI), (C, oC), (D9, LCg.lst [.ref q.1])]) F N (off3 off) (off_lt lDS) ⟨_, rfl, fl_slice hvq (by omega) DS, rfl⟩
    clear F N lDT
    intro g q5 q6 hq5 hq6 D5 h tk F N o5
    walk_at "mine steps"
    refine eq_pairs (News.isList N (List.Mem.tail _ (List.Mem.tail _ (List.Mem.tail _ (List.Mem.tail _ (List.Mem.tail _ (List.Mem.head _))))))) (News.isList N (List.Mem.head _)) (Nat.le_of_ble_eq_true rfl) (fl_alike (q := q3) (r := q5) N (List.Mem.tail _ (List.Mem.tail _ (List.Mem.tail _ (List.Mem.tail _ (List.Mem.tail _ (List.Mem.tail _ (List.Mem.tail _ (List.Mem.head _)))))))) (List.Mem.tail _ (List.Mem.tail _ (List.Mem.head _))) hq3 hq5 (slice_ok (cuts_ok _)) (Nat.le_of_ble_eq_true rfl) (none_booked (X.keeps F.keep) (T.keeps F.keep)))
      (fl_alike (q := q4) (r := q6) N (List.Mem.tail _ (List.Mem.tail _ (List.Mem.tail _ (List.Mem.tail _ (List.Mem.tail _ (List.Mem.tail _ (List.Mem.head _))))))) (List.Mem.tail _ (List.Mem.head _)) hq4 hq6 (slice_ok (cuts_ok _)) (Nat.le_of_ble_eq_true rfl) (none_booked (X.keeps F.keep) (T.keeps F.keep))) ?_
    show SeqC _ _ _ _ _ _ _ _ _ _ _
    unfold SeqC
    exact ⟨h, _, _, _, rfl, rfl, F⟩
end
end Mine
end
theorem PySem.Challenge.cw_tv0036_01_holds : PySem.Challenge.rw_tv0036_01.Holds :=
  Mine.law_walk

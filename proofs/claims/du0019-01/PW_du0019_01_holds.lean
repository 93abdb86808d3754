import PyProof.Rows.All
import Wide.All
import OpenK.AllK
import Wide.FinOn
import PySem.Challenge.RW_du0019_01
open PySem PySem.W PySem.Calls PyProof.Rows
set_option Elab.async false
set_option maxRecDepth 100000
set_option rowWalk.seconds 0
set_option linter.all false
namespace Mine
set_option maxHeartbeats 8000000 in
open_top hd for PySem.Challenge.rw_du0019_01

/- all that stood stands -/
noncomputable def Sub (h h' : Heap) : Prop := ∀ b o, h.get? b = some o → h'.get? b = some o
theorem Sub.refl (h : Heap) : Sub h h := fun _ _ e => e
theorem Sub.trans {h h' h'' : Heap} (a : Sub h h') (b : Sub h' h'') : Sub h h'' := fun x o e => b x o (a x o e)

/- the surroundings of a call, nothing known of the frames below -/
noncomputable abbrev ar (d u : Nat) : Around := { handled := none, depth := d, frames := none, guards := none, units := u }

theorem wk {α : Type} {M : Model} {A : Around} {t : Sem α} {Q : α → Shared → Prop} {E : Value → Shared → Prop} {s : Shared} {d u : Nat}
    (h : wpAny M (ar d u) t Q E s) (h1 : A.handled = none) (h2 : A.depth ≤ d) (h3 : A.units ≤ u) : wpAny M A t Q E s :=
  fun Γ p hΓ => h Γ p ⟨hΓ.1.trans h1, Nat.le_trans hΓ.2.1 h2, (fun _ e => by cases e), (fun _ e => by cases e), Nat.le_trans hΓ.2.2.2.2 h3⟩

/- the text's own objects stand in the heap -/
structure Gd (P : Params) (h : Heap) : Prop where
  k : (hd.heap_39 P).In h
  t : ∃ p loose mg mb, TopRead p loose mg mb h
theorem Gd.keeps {P : Params} {h h' : Heap} (g : Gd P h) (k : Sub h h') : Gd P h' :=
  ⟨g.k.keeps k, let ⟨a, b, c, d, T⟩ := g.t; ⟨a, b, c, d, T.keeps k⟩⟩
theorem Gd.lim {P : Params} {h : Heap} (g : Gd P h) : h.NoLimit := let ⟨_, _, _, _, T⟩ := g.t; T.nolimit

theorem Keeps.refl (s : Shared) : Keeps s s := ⟨s.heap, s.toks, rfl, fun _ _ e => e⟩
theorem Keeps.trans {a b c : Shared} (x : Keeps a b) (y : Keeps b c) : Keeps a c := by
  obtain ⟨h, tk, rfl, k⟩ := x
  obtain ⟨h', tk', rfl, k'⟩ := y
  exact ⟨h', tk', rfl, fun b o e => k' b o (k b o e)⟩
theorem Keeps.sub {a b : Shared} (x : Keeps a b) : Sub a.heap b.heap := by
  obtain ⟨h, tk, rfl, k⟩ := x
  exact k

section
variable {prog : Program} {w : World} {A : Around} {E : Value → Shared → Prop} {s : Shared}
theorem enterK {Q : Value → Shared → Prop} {name qual : Str} {params : Arguments} {body : List Stmt} {scope : Scope} {dV kV doc pm cdv ct oc : Value} {an od : Option Addr} {osl : Array (Option Value)} {f : Addr} {args : List Value} {binds : List (Str × Value)}
    (G : Gd w.params s.heap) (ho : (hd.heap_39 w.params).lookup f = some ⟨oc, od, .func (fnOf name qual params body scope dV kV doc pm an cdv ct), osl⟩) (hcd : codeIn (hd.heap_39 w.params) cdv qual = true) (hroom : A.depth < recursionLimit)
    (hbind : BindsTo s (fnOf name qual params body scope dV kV doc pm an cdv ct) ⟨args, []⟩ binds) (hloc : ∀ y ∈ binds, scope.names.lookup y.1 = some .local)
    (h : ∀ L h₁, s.heap.objs.size ≤ L → Fr s.heap L h₁ (fun y => binds.reverse.lookup y) → News s.heap L h₁ [] →
      wpAny (model prog w) (A.deeper (envOf qual scope L f cdv)) (execs body (envOf qual scope L f cdv))
        (fun fl s' => Q (match fl with | .ret v => v | _ => .none) s') (fun _ _ => False)
        { s with heap := h₁, toks := s.toks + binds.length })
    (hco : scope.isCoroutine = false) (hgen : scope.isGenerator = false) (hk : scope.kind = .function)
    (hcell : ∀ x ∈ scope.names, x.2 ≠ .cell) : wpAny (model prog w) A (call (.ref f) args) Q E s := by
  refine wpAny_call (codeAny_call_def (fd := fnOf name qual params body scope dV kV doc pm an cdv ct) (body := body) (binds := binds) hroom (G.k _ _ ho) rfl G.lim (codeRec_of G.k hcd) rfl hbind hcell hloc (fun h₁ hns hk₁ => ?_) hco hgen hk)
  exact wpAny_mono (h s.heap.objs.size h₁ (Nat.le_refl _) ⟨hns, hk₁, Nat.le_refl _⟩ News.nil) (fun _ _ x => x) fun _ _ x => x.elim
end
section
variable {prog : Program} {w : World} {A : Around} {E : Value → Shared → Prop} {s : Shared}
theorem enterC {Q : Value → Shared → Prop} {name qual : Str} {params : Arguments} {body : List Stmt} {scope : Scope} {dV kV doc pm cdv ct oc : Value} {an od : Option Addr} {osl : Array (Option Value)} {f : Addr} {args : List Value} {binds : List (Str × Value)}
    (G : Gd w.params s.heap) (ho : (hd.heap_39 w.params).lookup f = some ⟨oc, od, .func (fnOf name qual params body scope dV kV doc pm an cdv ct), osl⟩) (hcd : codeIn (hd.heap_39 w.params) cdv qual = true) (hroom : A.depth < recursionLimit)
    (hbind : BindsTo s (fnOf name qual params body scope dV kV doc pm an cdv ct) ⟨args, []⟩ binds) (hkind : (binds.all fun y => scope.names.lookup y.1 == some .local || scope.names.lookup y.1 == some .cell) = true)
    (hnd : ((cellsFrom 0 scope.names []).map (·.1)).Nodup)
    (h : ∀ L h₁ tk cells, s.heap.objs.size ≤ L → Fr s.heap L h₁ (bindL (envOfC qual scope L f cdv).kindOf binds fun _ => none) → News s.heap L h₁ cells →
      CellsAre (bindC (envOfC qual scope L f cdv).kindOf binds fun _ => none) (cellsFrom (L + 1) scope.names []) cells →
      wpAny (model prog w) (A.deeper (envOfC qual scope L f cdv)) (execs body (envOfC qual scope L f cdv))
        (fun fl s' => Q (match fl with | .ret v => v | _ => .none) s') (fun _ _ => False)
        { s with heap := h₁, toks := tk })
    (hco : scope.isCoroutine = false) (hgen : scope.isGenerator = false) (hk : scope.kind = .function) : wpAny (model prog w) A (call (.ref f) args) Q E s := by
  refine wpAny_call (codeAny_call_function (fd := fnOf name qual params body scope dV kV doc pm an cdv ct) hroom (G.k _ _ ho) rfl hco hgen rfl (codeRec_of G.k hcd) (hbind _ _ _ _ ?_))
  refine wpAny_newFunctionEnv_cells hk (kindsX hkind _) fun env' he s' x => ?_
  subst he
  refine ⟨G.lim.keeps x.toInCall.keep, codeAny_func ?_⟩
  obtain ⟨h₁, tk, rfl, _⟩ := x.done
  have hk₁ := x.toInCall.keep
  obtain ⟨cells, NC, Y⟩ := Cl.news (h₀ := s.heap) (Nat.le_refl _) fun n c hm => ⟨x.cell n c (lookup_of_mem_nodup (cellsFrom_names scope.names 0 (s.heap.objs.size + 1) [] [] rfl ▸ hnd) hm), x.above n c hm⟩
  exact wpAny_mono (h s.heap.objs.size h₁ tk cells (Nat.le_refl _) ⟨x.toInCall.ns, hk₁, Nat.le_refl _⟩ NC Y) (fun _ _ x => x) fun _ _ x => x.elim
end
/- a Whitespace at x -/
inductive WS (h : Heap) (x : Addr) (raw : Str) (n nt : Int) (cs : List Int) (b : Int) (sm : Bool) : Prop
  | mk (dx tn tc : Addr) (k : Nat) (h1 h2 h3 h4 h5 : Int) (k1 k2 k3 k4 k5 t1 t2 t3 t4 : Tok) (vs : List Value) :
    h.get? x = some (instObj 76 dx) →
    h.get? dx = some (dictOf [⟨h1, .str (Str.ofString "raw") k1, .str raw t1⟩, ⟨h2, .str (Str.ofString "n") k2, .int n t2⟩, ⟨h3, .str (Str.ofString "nt") k3, .int nt t3⟩, ⟨h4, .str (Str.ofString "norm") k4, .ref tn⟩, ⟨h5, .str (Str.ofString "is_simple") k5, .bool sm⟩] k) →
    IsTup h tn #[.ref tc, .int b t4] → IsTup h tc vs.toArray → IntsAre vs cs → cs.length ≤ 1000 → (∀ c ∈ cs, 0 ≤ c ∧ c ≤ 1000) → 0 ≤ nt → nt ≤ 1000 → 0 ≤ b → b ≤ 1000 → WS h x raw n nt cs b sm
theorem WS.keeps {h h' : Heap} {x : Addr} {raw : Str} {n nt : Int} {cs : List Int} {b : Int} {sm : Bool} (W : WS h x raw n nt cs b sm) (k : Sub h h') : WS h' x raw n nt cs b sm := by
  obtain ⟨dx, tn, tc, kk, h1, h2, h3, h4, h5, k1, k2, k3, k4, k5, t1, t2, t3, t4, vs, a, b', c, d, e1, e2, e3, e4, e5, e6, e7⟩ := W
  exact ⟨dx, tn, tc, kk, h1, h2, h3, h4, h5, k1, k2, k3, k4, k5, t1, t2, t3, t4, vs, k _ _ a, k _ _ b', c.keeps k, d.keeps k, e1, e2, e3, e4, e5, e6, e7⟩
theorem instFr {h₀ h : Heap} {L : Addr} {m : Str → Option Value} {x dx : Addr} {od : Obj} (F : Fr h₀ L h m) (h1 : h₀.get? x = some (instObj 76 dx)) (h2 : h₀.get? dx = some od) : InstAt h x (instObj 76 dx) 76 (some od) := ⟨F.keep _ _ h1, rfl, rfl, F.keep _ _ h2⟩
theorem instAt {h : Heap} {x dx : Addr} {od : Obj} (h1 : h.get? x = some (instObj 76 dx)) (h2 : h.get? dx = some od) : InstAt h x (instObj 76 dx) 76 (some od) := ⟨h1, rfl, rfl, h2⟩
section
variable {prog : Program} {w : World} {A : Around} {E : Value → Shared → Prop} {s : Shared}
theorem len_tup_ints {t : Addr} {vs : List Value} {cs : List Int} {Q : Value → Shared → Prop} (ht : IsTup s.heap t vs.toArray) (hi : IntsAre vs cs) (hb : cs.length ≤ 1000)
    (h : Q (.int cs.length (s.toks + 1)) { s with toks := s.toks + 1 + 1 }) : wpAny (model prog w) A (call (.builtin "len") [.ref t]) Q E s := by
  have e : vs.toArray.size = cs.length := by simp [hi.length]
  exact len_tuple ht (by rw [e]; omega) (by rw [e]; exact h)
end
theorem Qint {s s' : Shared} {Q : Value → Shared → Prop} {a b : Int} {t : Tok} (h : ∀ t s', Keeps s s' → Q (.int a t) s') (e : b = a) (k : Keeps s s') : Q (.int b t) s' := by
  subst e; exact h t s' k
theorem Qbool {s s' : Shared} {Q : Value → Shared → Prop} {a b : Bool} (h : ∀ s', Keeps s s' → Q (.bool a) s') (e : b = a) (k : Keeps s s') : Q (.bool b) s' := by
  subst e; exact h s' k
theorem Qstr {s s' : Shared} {Q : Value → Shared → Prop} {a b : Str} {t : Tok} (h : ∀ t s', Keeps s s' → Q (.str a t) s') (e : b = a) (k : Keeps s s') : Q (.str b t) s' := by
  subst e; exact h t s' k
section
variable {prog : Program} {w : World} {A : Around} {E : Value → Shared → Prop} {s : Shared} {env : Env} {h₀ : Heap} {x : Str} {body : List Stmt} {Q : Flow → Shared → Prop}
theorem range_none {r : Addr} {a₀ b₀ : Int} {t₀ u₀ v₀ : Tok} {m₀ : Str → Option Value} {news : List (Addr × Obj)}
    (hh : A.handled = none) (hr : IsRange s.heap r a₀ b₀ 1 t₀ u₀ v₀) (hab : b₀ ≤ a₀) (F : Fr h₀ env.locals s.heap m₀) (N : News h₀ env.locals s.heap news)
    (done : ∀ h tk, Fr h₀ env.locals h m₀ → News h₀ env.locals h news → Q .next { s with heap := h, toks := tk }) :
    wpAny (model prog w) A (pyIter (.ref r)) (fun it s₂ => LoopAtV prog w A h₀ env x body Q E it s₂) E s := by
  have hn : Builtin.Range.rangeSize a₀ b₀ 1 = ((0 : Nat) : Int) := by rw [rangeSize_nat]; omega
  have no : ∀ {P : Nat → Value → Prop} {St : Nat → Heap → Prop} {o : Obj}, Walks prog w A s.heap.objs.size [s.heap.objs.size] [s.heap.objs.size] 0 P St → St 0 (s.heap.push o) →
      LoopAtV prog w A h₀ env x body Q E (.ref s.heap.objs.size) { s with heap := s.heap.push o } := fun {P St o} W hst => by
    refine loop_invN (fun _ m nx => m = m₀ ∧ nx = news) W ?_ ?_ ?_ ?_ hst (F.push _) (fun p hp => ⟨Heap.get?_push_of_some _ (N p hp).1, (N p hp).2⟩) ⟨rfl, rfl⟩ ?_ ?_
    · intro hm
      exact absurd F.ns.lt ((List.mem_singleton.mp hm) ▸ Nat.lt_irrefl _)
    · intro b hb
      rw [List.mem_singleton.mp hb]
      exact next_is_new F
    · intro p hp hI
      exact absurd (Heap.lt_size (N p hp).1) ((List.mem_singleton.mp hI) ▸ Nat.lt_irrefl _)
    · intro p hp hI
      exact absurd (Heap.lt_size (N p hp).1) ((List.mem_singleton.mp hI) ▸ Nat.lt_irrefl _)
    · intro i v m₁ nx h tk own hi
      exact absurd hi (Nat.not_lt_zero _)
    · rintro m₁ nx h tk ⟨rfl, rfl⟩ F₁ N₁
      exact done h tk F₁ N₁
  by_cases hs : Builtin.Range.small a₀ b₀ 1 = true
  · refine wpAny_pyIter_range hr hs (no (Walks.range hh _ a₀ 1 0) ?_)
    show IsRangeIter _ _ _ _ _; rw [hn]; simpa using Heap.get?_push_size _ rfl
  · refine wpAny_pyIter_longrange hr (by simpa using hs) (no (Walks.longrange hh _ a₀ 1 0) ?_)
    show IsLongIter _ _ _ _ _; rw [hn]; simpa using Heap.get?_push_size _ rfl
end
/- the addresses that are taken in a heap -/
noncomputable def olds (h₀ : Heap) : List Addr := (List.range h₀.objs.size).filter fun b => (h₀.get? b).isSome
theorem mem_olds {h₀ : Heap} {b : Addr} : b ∈ olds h₀ ↔ (h₀.get? b).isSome = true := by
  unfold olds
  rw [List.mem_filter, List.mem_range]
  refine ⟨fun h => h.2, fun h => ⟨?_, h⟩⟩
  obtain ⟨o, ho⟩ := Option.isSome_iff_exists.mp h
  exact Heap.lt_size ho
/- the part of h that is neither in X nor of h₀ -/
noncomputable def nw (h₀ : Heap) (X : List Addr) (h : Heap) : Heap := hideAll h (X ++ olds h₀)
theorem nw_get {h₀ h : Heap} {X : List Addr} {b : Addr} {o : Obj} : (nw h₀ X h).get? b = some o ↔ h.get? b = some o ∧ b ∉ X ∧ h₀.get? b = none := by
  unfold nw
  constructor
  · intro e
    have hn : b ∉ X ++ olds h₀ := fun hm => by rw [hideAll_none _ hm] at e; cases e
    refine ⟨of_hideAll _ e, fun q => hn (List.mem_append_left _ q), ?_⟩
    cases q : h₀.get? b with
    | none => rfl
    | some o' => exact absurd (List.mem_append_right _ (mem_olds.mpr (by rw [q]; rfl))) hn
  · rintro ⟨e, h1, h2⟩
    refine hideAll_get _ e fun hm => ?_
    rcases List.mem_append.mp hm with q | q
    · exact h1 q
    · have := mem_olds.mp q; rw [h2] at this; cases this
theorem nw_sub {h₀ h : Heap} {X : List Addr} : Sub (nw h₀ X h) h := fun _ _ e => (nw_get.mp e).1
/- all that is neither in X nor of h₀ -/
noncomputable def others (h₀ h : Heap) (X : List Addr) : List (Addr × Obj) := (List.range h.objs.size).filterMap fun b => ((nw h₀ X h).get? b).map fun o => (b, o)
theorem mem_others {h₀ h : Heap} {X : List Addr} {b : Addr} {o : Obj} : (b, o) ∈ others h₀ h X ↔ (nw h₀ X h).get? b = some o := by
  unfold others
  rw [List.mem_filterMap]
  constructor
  · rintro ⟨c, _, e⟩
    obtain ⟨o', h1, h2⟩ := Option.map_eq_some_iff.mp e
    cases h2; exact h1
  · intro e
    exact ⟨b, List.mem_range.mpr (Heap.lt_size (nw_get.mp e).1), by rw [e]; rfl⟩

section
variable {prog : Program} {w : World} {A : Around} {s : Shared} {env : Env} {h₀ : Heap} {x : Str} {px : Pos} {body : List Stmt} {Q : Flow → Shared → Prop}

/- a loop over an iterator, ahead of its first turn -/
noncomputable def ForAt (prog : Program) (w : World) (A : Around) (env : Env) (x : Str) (px : Pos) (body : List Stmt) (Q : Flow → Shared → Prop) (it : Value) (s₂ : Shared) : Prop :=
  codeAny (model prog w) A (.forLoop (.Name x px) it body [] env) (fun r s' => match r with | .ok f => Q f s' | .error e => cameBackBy (model prog w) A env (fun _ _ => False) e s') s₂
theorem For_d {iter : Expr} {pos : Pos}
    (h : wpAny (model prog w) A (eval iter env) (fun xv s₁ => wpAny (model prog w) A (pyIter xv) (fun it s₂ => ForAt prog w A env x px body Q it s₂) (fun _ _ => False) s₁) (fun _ _ => False) s)
    (hs : ∀ x, foldedSetIterable iter env x = pure x) :
    wpAny (model prog w) A (exec (.For (.Name x px) iter body [] pos) env) Q (fun _ _ => False) s := wpAny_For h hs

/- what a turn must leave behind -/
inductive TurnD {σ : Type} (h₀ : Heap) (L : Addr) (x : Str) (m₀ : Str → Option Value) (Led : σ → List (Addr × Obj)) (ps : σ → List (Str × Value)) (stored : List Str) (P : σ → Heap → Prop) (s : Shared) (fp adr : List Addr) (rest : List (Addr × Obj)) (s₂ : Shared) : Prop
  | mk (c' : σ) (h' : Heap) (tk' : Nat) (m' : Str → Option Value) (nws : List (Addr × Obj)) : s₂ = { s with heap := h', toks := tk' } → Fr h₀ L h' m' → News h₀ L h' nws → (∀ p ∈ Led c', p ∈ nws) → (∀ p ∈ rest, p ∈ nws) → (∀ p ∈ Led c', p.1 ∈ adr ∨ ∀ q ∈ rest, q.1 ≠ p.1) →
    (∀ p ∈ ps c', m' p.1 = some p.2) → (∀ z, z ≠ x → (∀ p ∈ ps c', z ≠ p.1) → stored.contains z = false → m' z = m₀ z) → P c' (nw h₀ (L :: (fp ++ (Led c').map (·.1))) h') → TurnD h₀ L x m₀ Led ps stored P s fp adr rest s₂
noncomputable def TurnE {σ : Type} (h₀ : Heap) (L : Addr) (x : Str) (m₀ : Str → Option Value) (Led : σ → List (Addr × Obj)) (ps : σ → List (Str × Value)) (stored : List Str) (P : σ → Heap → Prop) (s : Shared) (Q : Flow → Shared → Prop) (fp adr : List Addr) (rest : List (Addr × Obj)) (f : Flow) (s₂ : Shared) : Prop :=
  match f with
  | .ret v => Q (.ret v) s₂
  | .brk => Q .next s₂
  | _ => TurnD h₀ L x m₀ Led ps stored P s fp adr rest s₂

theorem TurnE.shift {σ : Type} {h₀ : Heap} {L : Addr} {x : Str} {m₀ : Str → Option Value} {Led : σ → List (Addr × Obj)} {ps : σ → List (Str × Value)} {stored : List Str} {P : σ → Heap → Prop} {s : Shared} {Q : Flow → Shared → Prop} {fp adr : List Addr} {rest : List (Addr × Obj)} {f : Flow} {s₂ : Shared} {H : Heap}
    (q : TurnE h₀ L x m₀ Led ps stored P s Q fp adr rest f s₂) : TurnE h₀ L x m₀ Led ps stored P { s with heap := H } Q fp adr rest f s₂ := by
  have go : TurnD h₀ L x m₀ Led ps stored P s fp adr rest s₂ → TurnD h₀ L x m₀ Led ps stored P { s with heap := H } fp adr rest s₂ := fun ⟨c, h, t, m, n, e, a1, a2, a3, a4, a5, a6, a7, a8⟩ => ⟨c, h, t, m, n, e, a1, a2, a3, a4, a5, a6, a7, a8⟩
  cases f with
  | ret v => exact q
  | brk => exact q
  | cont => exact go q
  | next => exact go q
/- between two turns -/
inductive ForI {σ : Type} (h₀ : Heap) (L : Addr) (x : Str) (fp : List Addr) (n : Nat) (St : Nat → Heap → Prop) (m₀ : Str → Option Value) (Led : σ → List (Addr × Obj)) (ps : σ → List (Str × Value)) (stored : List Str) (P : Nat → σ → Heap → Prop) (s : Shared) (k : Nat) (s' : Shared) : Prop
  | mk (h' : Heap) (tk : Nat) (m' : Str → Option Value) (c : σ) (i : Nat) : s' = { s with heap := h', toks := tk } → St i h' → Fr h₀ L h' m' → News h₀ L h' (Led c) → (∀ p ∈ Led c, p.1 ∉ fp) → (∀ p ∈ ps c, m' p.1 = some p.2) → (∀ z, z ≠ x → (∀ p ∈ ps c, z ≠ p.1) → stored.contains z = false → m' z = m₀ z) →
    P i c (nw h₀ (L :: (fp ++ (Led c).map (·.1))) h') → i ≤ n → k = n + 1 - i → ForI h₀ L x fp n St m₀ Led ps stored P s k s'
set_option maxHeartbeats 1000000 in
theorem forD {σ : Type} {I : Addr} {fp wr : List Addr} {n : Nat} {Pi : Nat → Value → Prop} {St : Nat → Heap → Prop} {m₀ : Str → Option Value}
    (Led : σ → List (Addr × Obj)) (ps : σ → List (Str × Value)) (stored : List Str) (P : Nat → σ → Heap → Prop) (c₀ : σ)
    (W : Walks prog w A I fp wr n Pi St) (hal : ∀ i h, St i h → ∀ b ∈ fp, ∃ o, h.get? b = some o) (hx : env.kindOf x = some .local)
    (hpk : (env.scope.kind == .class || (env.scope.kind == .module && env.locals != env.globals)) = false) (hLf : env.locals ∉ fp) (hwr : ∀ b ∈ wr, h₀.get? b = none)
    (hmf : ∀ p ∈ Led c₀, p.1 ∉ fp) (hst : St 0 s.heap) (F : Fr h₀ env.locals s.heap m₀) (N : News h₀ env.locals s.heap (Led c₀)) (hk : ∀ p ∈ ps c₀, m₀ p.1 = some p.2)
    (mono : ∀ i c d d', P i c d → Sub d d' → P i c d')
    (h0 : P 0 c₀ (nw h₀ (env.locals :: (fp ++ (Led c₀).map (·.1))) s.heap))
    (turn : ∀ (c : σ) i v (u : Str → Option Value) h tk rest, i < n → Pi i v → OwnOff rest ((Led c).map (·.1)) → P i c (nw h₀ (env.locals :: (fp ++ (Led c).map (·.1))) h) →
      (∀ b o, (nw h₀ (env.locals :: (Led c).map (·.1)) h).get? b = some o → (b, o) ∈ rest) → (∀ b ∈ fp, h₀.get? b = none → ∃ o, (b, o) ∈ rest) →
      Fr h₀ env.locals h (fun y => if y = x then some v else kstB (fun z => if stored.contains z then u z else m₀ z) (ps c) y) → News h₀ env.locals h (Led c ++ rest) →
      wpAny (model prog w) A (execs body env) (TurnE h₀ env.locals x m₀ Led ps stored (P (i + 1)) s Q fp ((Led c).map (·.1)) rest) (fun _ _ => False) { s with heap := h, toks := tk })
    (done : ∀ (c : σ) (u : Str → Option Value) h tk, P n c (nw h₀ (env.locals :: (fp ++ (Led c).map (·.1))) h) → Fr h₀ env.locals h (fun y => if y = x then u y else kstB (fun z => if stored.contains z then u z else m₀ z) (ps c) y) → News h₀ env.locals h (Led c) →
      Q .next { s with heap := h, toks := tk }) : ForAt prog w A env x px body Q (.ref I) s := by
  have hLw : env.locals ∉ wr := fun h => hLf (W.sub _ h)
  have old : ∀ b o, h₀.get? b = some o → b ∉ wr := fun b o e hb => by rw [hwr b hb] at e; cases e
  unfold ForAt
  refine codeAny_forLoop
    (ForI h₀ env.locals x fp n St m₀ Led ps stored P s) ?_ (n + 1)
    ⟨s.heap, s.toks, m₀, c₀, 0, rfl, hst, F, N, hmf, hk, fun _ _ _ _ => rfl, h0, Nat.zero_le _, rfl⟩
  rintro k s' ⟨h', tk, m', c, i, rfl, hst', F', N', hnw', hk', hr', hP, hi, rfl⟩
  have next : ∀ h₁ : Heap, (∀ b o, b ∉ wr → h'.get? b = some o → h₁.get? b = some o) → Fr h₀ env.locals h₁ m' ∧ News h₀ env.locals h₁ (Led c) := fun h₁ hk₁ =>
    ⟨⟨F'.ns.at' fun o e => hk₁ _ o hLw e, fun b o e => hk₁ b o (old b o e) (F'.keep b o e), F'.above⟩, fun p hp => ⟨hk₁ _ _ (fun q => hnw' p hp (W.sub _ q)) (N' p hp).1, (N' p hp).2⟩⟩
  have mono₁ : ∀ h₁ : Heap, (∀ b o, b ∉ wr → h'.get? b = some o → h₁.get? b = some o) → P i c (nw h₀ (env.locals :: (fp ++ (Led c).map (·.1))) h₁) := fun h₁ hk₁ =>
    mono _ _ _ _ hP fun b o e => nw_get.mpr ⟨hk₁ b o (fun q => (nw_get.mp e).2.1 (List.mem_cons_of_mem _ (List.mem_append_left _ (W.sub _ q)))) (nw_get.mp e).1, (nw_get.mp e).2⟩
  by_cases hlt : i < n
  · refine W.item i _ _ _ hlt hst' fun v h₁ tk₁ hPi hst₁ hk₁ => ?_
    obtain ⟨F₁, N₁⟩ := next h₁ hk₁
    refine wpAny_assign_Name (wpAny_storeName_local hx F₁.ns (fun h₂ hn₂ hs₂ => ?_) hpk)
    have F₂ := F₁.set hn₂ hs₂
    have N₂ := N₁.set hs₂
    have hst₂ : St (i + 1) h₂ := W.frame _ _ _ hst₁ fun b hb o e => (hs₂.2 b fun q => hLf (q ▸ hb)).trans e
    have P₂ : P i c (nw h₀ (env.locals :: (fp ++ (Led c).map (·.1))) h₂) := mono _ _ _ _ (mono₁ h₁ hk₁) fun b o e => nw_get.mpr ⟨(hs₂.2 b fun q => (nw_get.mp e).2.1 (q ▸ List.mem_cons_self)).trans (nw_get.mp e).1, (nw_get.mp e).2⟩
    have NO : News h₀ env.locals h₂ (Led c ++ others h₀ h₂ (env.locals :: (Led c).map (·.1))) := fun p hp => by
      rcases List.mem_append.mp hp with q | q
      · exact N₂ p q
      · have e := nw_get.mp (mem_others.mp q)
        exact ⟨e.1, fun z => e.2.1 (z ▸ List.mem_cons_self), e.2.2⟩
    have off : OwnOff (others h₀ h₂ (env.locals :: (Led c).map (·.1))) ((Led c).map (·.1)) := fun p hp b hb e => (nw_get.mp (mem_others.mp hp)).2.1 (List.mem_cons_of_mem _ (e ▸ hb))
    have inr : ∀ b ∈ fp, h₀.get? b = none → ∃ o, (b, o) ∈ others h₀ h₂ (env.locals :: (Led c).map (·.1)) := fun b hb hn => by
      obtain ⟨o, ho⟩ := hal _ _ hst₂ b hb
      refine ⟨o, mem_others.mpr (nw_get.mpr ⟨ho, fun hm => ?_, hn⟩)⟩
      rcases List.mem_cons.mp hm with q | q
      · exact hLf (q ▸ hb)
      · obtain ⟨p, hp, rfl⟩ := List.mem_map.mp q
        exact hnw' p hp hb
    have F₂' := kst_fr hk' hr' F₂
    have T1 := turn c i v m' h₂ (tk₁ + 1) (others h₀ h₂ (env.locals :: (Led c).map (·.1))) hlt hPi off P₂ (fun b o e => mem_others.mpr e) inr F₂'
    have T := T1 NO
    refine wpAny_mono T (fun f s₃ h₃ => ?_) fun _ _ e => e.elim
    have fin : TurnD h₀ env.locals x m₀ Led ps stored (P (i + 1)) s fp ((Led c).map (·.1)) (others h₀ h₂ (env.locals :: (Led c).map (·.1))) s₃ → ∃ m, m < n + 1 - i ∧ ForI h₀ env.locals x fp n St m₀ Led ps stored P s m s₃ := by
      rintro ⟨c', h₃', tk₃, m₃, nws, rfl, F₃, N₃, i1, i2, i3, i4, i5, i6⟩
      refine ⟨n + 1 - (i + 1), by omega, h₃', tk₃, m₃, c', i + 1, rfl, ?_, F₃, fun p hp => N₃ p (i1 p hp), ?_, i4, i5, i6, hlt, rfl⟩
      · refine W.frame _ _ _ hst₂ fun b hb o e => ?_
        cases hn : h₀.get? b with
        | some o₀ =>
          have : o₀ = o := by have := F₂.keep b o₀ hn; rw [e] at this; exact (Option.some.inj this).symm
          exact this ▸ F₃.keep b o₀ hn
        | none =>
          refine (N₃ (b, o) (i2 _ (mem_others.mpr (nw_get.mpr ⟨e, fun hm => ?_, hn⟩)))).1
          rcases List.mem_cons.mp hm with q | q
          · exact hLf (q ▸ hb)
          · obtain ⟨p, hp, rfl⟩ := List.mem_map.mp q
            exact hnw' p hp hb
      · intro p hp hb
        rcases i3 p hp with q | q
        · obtain ⟨p', hp', e⟩ := List.mem_map.mp q
          exact hnw' p' hp' (e ▸ hb)
        · obtain ⟨o, ho⟩ := hal _ _ hst₂ p.1 hb
          refine q (p.1, o) (mem_others.mpr (nw_get.mpr ⟨ho, fun hm => ?_, (N₃ p (i1 p hp)).2.2⟩)) rfl
          rcases List.mem_cons.mp hm with z | z
          · exact hLf (z ▸ hb)
          · obtain ⟨p', hp', e⟩ := List.mem_map.mp z
            exact hnw' p' hp' (e ▸ hb)
    cases f with
    | ret v => exact h₃
    | brk => exact h₃
    | cont => exact fin h₃
    | next => exact fin h₃
  · have hin : i = n := by omega
    subst hin
    refine W.done _ _ _ hst' fun h₁ tk₁ hk₁ => wpAny_execs_nil ?_
    obtain ⟨F₁, N₁⟩ := next h₁ hk₁
    exact done c m' h₁ tk₁ (mono₁ h₁ hk₁) (kst_frOut hk' hr' F₁) N₁

/- a for over an iterator just made -/
theorem forOne {σ : Type} {n : Nat} {Pi : Nat → Value → Prop} {St : Nat → Heap → Prop} {o : Obj} {m₀ : Str → Option Value} (Led : σ → List (Addr × Obj)) (ps : σ → List (Str × Value)) (stored : List Str) (P : Nat → σ → Heap → Prop) (c₀ : σ)
    (hx : env.kindOf x = some .local)
    (hpk : (env.scope.kind == .class || (env.scope.kind == .module && env.locals != env.globals)) = false)
    (F : Fr h₀ env.locals s.heap m₀) (N : News h₀ env.locals s.heap (Led c₀)) (hk : ∀ p ∈ ps c₀, m₀ p.1 = some p.2)
    (mono : ∀ i c d d', P i c d → Sub d d' → P i c d')
    (h0 : P 0 c₀ (nw h₀ (env.locals :: (Led c₀).map (·.1)) s.heap))
    (turn : ∀ (c : σ) (i : Nat) I v (u : Str → Option Value) h tk rest, i < n → Pi i v → OwnOff rest ((Led c).map (·.1)) → P i c (nw h₀ (env.locals :: ([I] ++ (Led c).map (·.1))) h) →
      (∀ b o, (nw h₀ (env.locals :: (Led c).map (·.1)) h).get? b = some o → (b, o) ∈ rest) → (∃ o, (I, o) ∈ rest) →
      Fr h₀ env.locals h (fun y => if y = x then some v else kstB (fun z => if stored.contains z then u z else m₀ z) (ps c) y) → News h₀ env.locals h (Led c ++ rest) →
      wpAny (model prog w) A (execs body env) (TurnE h₀ env.locals x m₀ Led ps stored (P (i + 1)) s Q [I] ((Led c).map (·.1)) rest) (fun _ _ => False) { s with heap := h, toks := tk })
    (done : ∀ (c : σ) (u : Str → Option Value) I h tk, P n c (nw h₀ (env.locals :: ([I] ++ (Led c).map (·.1))) h) → Fr h₀ env.locals h (fun y => if y = x then u y else kstB (fun z => if stored.contains z then u z else m₀ z) (ps c) y) → News h₀ env.locals h (Led c) →
      Q .next { s with heap := h, toks := tk })
    (W : Walks prog w A s.heap.objs.size [s.heap.objs.size] [s.heap.objs.size] n Pi St) (hst : St 0 (s.heap.push o)) (hal : ∀ i h, St i h → ∃ o, h.get? s.heap.objs.size = some o) :
    ForAt prog w A env x px body Q (.ref s.heap.objs.size) { s with heap := s.heap.push o } := by
  refine forD Led ps stored P c₀ W (fun i h q b hb => by rw [List.mem_singleton.mp hb]; exact hal i h q) hx hpk ?_ ?_ ?_ hst (F.push _) (fun p hp => ⟨Heap.get?_push_of_some _ (N p hp).1, (N p hp).2⟩) hk mono ?_ ?_ (fun c u h tk => done c u _ h tk)
  · intro hm
    exact absurd F.ns.lt ((List.mem_singleton.mp hm) ▸ Nat.lt_irrefl _)
  · intro b hb
    rw [List.mem_singleton.mp hb]
    exact next_is_new F
  · intro p hp hI
    exact absurd (Heap.lt_size (N p hp).1) ((List.mem_singleton.mp hI) ▸ Nat.lt_irrefl _)
  · refine mono _ _ _ _ h0 fun b o e => ?_
    obtain ⟨e1, e2, e3⟩ := nw_get.mp e
    refine nw_get.mpr ⟨Heap.get?_push_of_some _ e1, fun hm => ?_, e3⟩
    rcases List.mem_cons.mp hm with q | q
    · exact e2 (q ▸ List.mem_cons_self)
    · rcases List.mem_append.mp q with q | q
      · exact absurd (Heap.lt_size e1) ((List.mem_singleton.mp q) ▸ Nat.lt_irrefl _)
      · exact e2 (List.mem_cons_of_mem _ q)
  · intro c i v u h tk rest hi hv ho hP hall hI F' N'
    exact wpAny_mono (turn c i _ v u h tk rest hi hv ho hP hall (hI _ List.mem_cons_self (next_is_new F)) F' N') (fun _ _ q => q.shift) fun _ _ e => e

/- a for over a range by ones -/
theorem forRange {σ : Type} {r : Addr} {a₀ b₀ : Int} {t₀ u₀ v₀ : Tok} {m₀ : Str → Option Value} (Led : σ → List (Addr × Obj)) (ps : σ → List (Str × Value)) (stored : List Str) (P : Nat → σ → Heap → Prop) (c₀ : σ)
    (hh : A.handled = none) (hr : IsRange s.heap r a₀ b₀ 1 t₀ u₀ v₀) (hx : env.kindOf x = some .local)
    (hpk : (env.scope.kind == .class || (env.scope.kind == .module && env.locals != env.globals)) = false)
    (F : Fr h₀ env.locals s.heap m₀) (N : News h₀ env.locals s.heap (Led c₀)) (hk : ∀ p ∈ ps c₀, m₀ p.1 = some p.2)
    (mono : ∀ i c d d', P i c d → Sub d d' → P i c d')
    (h0 : P 0 c₀ (nw h₀ (env.locals :: (Led c₀).map (·.1)) s.heap))
    (turn : ∀ (c : σ) (i : Nat) I t (u : Str → Option Value) h tk rest, (i : Int) < b₀ - a₀ → OwnOff rest ((Led c).map (·.1)) → P i c (nw h₀ (env.locals :: ([I] ++ (Led c).map (·.1))) h) →
      (∀ b o, (nw h₀ (env.locals :: (Led c).map (·.1)) h).get? b = some o → (b, o) ∈ rest) → (∃ o, (I, o) ∈ rest) →
      Fr h₀ env.locals h (fun y => if y = x then some (.int (a₀ + i) t) else kstB (fun z => if stored.contains z then u z else m₀ z) (ps c) y) → News h₀ env.locals h (Led c ++ rest) →
      wpAny (model prog w) A (execs body env) (TurnE h₀ env.locals x m₀ Led ps stored (P (i + 1)) s Q [I] ((Led c).map (·.1)) rest) (fun _ _ => False) { s with heap := h, toks := tk })
    (done : ∀ (c : σ) (u : Str → Option Value) I h tk, P (b₀ - a₀).toNat c (nw h₀ (env.locals :: ([I] ++ (Led c).map (·.1))) h) → Fr h₀ env.locals h (fun y => if y = x then u y else kstB (fun z => if stored.contains z then u z else m₀ z) (ps c) y) → News h₀ env.locals h (Led c) →
      Q .next { s with heap := h, toks := tk }) :
    wpAny (model prog w) A (pyIter (.ref r)) (fun it s₂ => ForAt prog w A env x px body Q it s₂) (fun _ _ => False) s := by
  have hn : Builtin.Range.rangeSize a₀ b₀ 1 = (((b₀ - a₀).toNat : Nat) : Int) := rangeSize_nat _ _
  have go := fun {St : Nat → Heap → Prop} {o : Obj} => forOne (prog := prog) (w := w) (A := A) (px := px) (body := body) (Q := Q) (Pi := fun i v => ∃ t, v = .int (a₀ + i * 1) t) (St := St) (o := o) Led ps stored P c₀ hx hpk F N hk mono h0 (fun c i I v u h tk rest hi hv ho hP hall hI F' N' => by
    obtain ⟨t, rfl⟩ := hv
    rw [Int.mul_one] at F'
    exact turn c i I t u h tk rest (by omega) ho hP hall hI F' N') done
  by_cases hs : Builtin.Range.small a₀ b₀ 1 = true
  · refine wpAny_pyIter_range hr hs (go (Walks.range hh _ a₀ 1 _) ?_ fun i h q => ⟨_, q⟩)
    show IsRangeIter _ _ _ _ _; rw [hn]; simpa using Heap.get?_push_size _ rfl
  · refine wpAny_pyIter_longrange hr (by simpa using hs) (go (Walks.longrange hh _ a₀ 1 _) ?_ fun i h q => ⟨_, q⟩)
    show IsLongIter _ _ _ _ _; rw [hn]; simpa using Heap.get?_push_size _ rfl
/- a for over a text -/
theorem forText {σ : Type} {xt : Str} {tx : Tok} {m₀ : Str → Option Value} (Led : σ → List (Addr × Obj)) (ps : σ → List (Str × Value)) (stored : List Str) (P : Nat → σ → Heap → Prop) (c₀ : σ)
    (hh : A.handled = none) (hx : env.kindOf x = some .local)
    (hpk : (env.scope.kind == .class || (env.scope.kind == .module && env.locals != env.globals)) = false)
    (F : Fr h₀ env.locals s.heap m₀) (N : News h₀ env.locals s.heap (Led c₀)) (hk : ∀ p ∈ ps c₀, m₀ p.1 = some p.2)
    (mono : ∀ i c d d', P i c d → Sub d d' → P i c d')
    (h0 : P 0 c₀ (nw h₀ (env.locals :: (Led c₀).map (·.1)) s.heap))
    (turn : ∀ (c : σ) (i k : Nat) I t (u : Str → Option Value) h tk rest, xt.cps.toList[i]? = some k → OwnOff rest ((Led c).map (·.1)) → P i c (nw h₀ (env.locals :: ([I] ++ (Led c).map (·.1))) h) →
      (∀ b o, (nw h₀ (env.locals :: (Led c).map (·.1)) h).get? b = some o → (b, o) ∈ rest) → (∃ o, (I, o) ∈ rest) →
      Fr h₀ env.locals h (fun y => if y = x then some (.str ⟨#[k]⟩ t) else kstB (fun z => if stored.contains z then u z else m₀ z) (ps c) y) → News h₀ env.locals h (Led c ++ rest) →
      wpAny (model prog w) A (execs body env) (TurnE h₀ env.locals x m₀ Led ps stored (P (i + 1)) s Q [I] ((Led c).map (·.1)) rest) (fun _ _ => False) { s with heap := h, toks := tk })
    (done : ∀ (c : σ) (u : Str → Option Value) I h tk, P xt.cps.toList.length c (nw h₀ (env.locals :: ([I] ++ (Led c).map (·.1))) h) → Fr h₀ env.locals h (fun y => if y = x then u y else kstB (fun z => if stored.contains z then u z else m₀ z) (ps c) y) → News h₀ env.locals h (Led c) →
      Q .next { s with heap := h, toks := tk }) :
    wpAny (model prog w) A (pyIter (.str xt tx)) (fun it s₂ => ForAt prog w A env x px body Q it s₂) (fun _ _ => False) s := by
  have go := fun {St : Nat → Heap → Prop} {o : Obj} => forOne (prog := prog) (w := w) (A := A) (px := px) (body := body) (Q := Q) (n := xt.cps.size) (Pi := SignAt xt) (St := St) (o := o) Led ps stored P c₀ hx hpk F N hk mono h0 (fun c i I v u h tk rest hi hv ho hP hall hI F' N' => by
    obtain ⟨k, t, hk', rfl⟩ := hv
    exact turn c i k I t u h tk rest (by simpa using hk') ho hP hall hI F' N') (by simpa using done)
  cases ha : xt.cps.all (· < 128)
  · exact wpAny_pyIter_wide ha (go (Walks.strWide hh _ xt tx) ⟨_, Heap.get?_push_size _ rfl, rfl, rfl⟩ fun i h q => ⟨_, q.choose_spec.1⟩)
  · exact wpAny_pyIter_ascii ha (go (Walks.strAscii hh _ xt tx) ⟨_, Heap.get?_push_size _ rfl, rfl, rfl⟩ fun i h q => ⟨_, q.choose_spec.1⟩)
end
theorem turnD0 {σ : Type} {h₀ : Heap} {L : Addr} {x : Str} {m₀ m' : Str → Option Value} {Led : σ → List (Addr × Obj)} {ps : σ → List (Str × Value)} {stored : List Str} {P : σ → Heap → Prop} {s : Shared} {fp adr : List Addr} {rest : List (Addr × Obj)} {h' : Heap} {tk' : Nat} (c' : σ)
    (F : Fr h₀ L h' m') (N : News h₀ L h' rest) (hl : Led c' = []) (hps : ∀ p ∈ ps c', m' p.1 = some p.2) (same : ∀ z, z ≠ x → (∀ p ∈ ps c', z ≠ p.1) → stored.contains z = false → m' z = m₀ z)
    (hP : P c' (nw h₀ (L :: (fp ++ (Led c').map (·.1))) h')) : TurnD h₀ L x m₀ Led ps stored P s fp adr rest { s with heap := h', toks := tk' } :=
  ⟨c', h', tk', m', rest, rfl, F, N, (fun p hp => by rw [hl] at hp; cases hp), fun _ h => h, (fun p hp => by rw [hl] at hp; cases hp), hps, same, hP⟩
section
variable {prog : Program} {w : World} {A : Around} {E : Value → Shared → Prop} {s : Shared} {h₀ : Heap} {L : Addr} {m : Str → Option Value} {news : List (Addr × Obj)}
theorem newTuple_L {vs : List Value} {Q : Value → Shared → Prop} (F : Fr h₀ L s.heap m) (N : News h₀ L s.heap news)
    (h : ∀ a h', Fr h₀ L h' m → News h₀ L h' ((a, { cls := .type "tuple", data := .seq vs.toArray }) :: news) → (∀ p ∈ news, p.1 ≠ a) → Sub s.heap h' → Q (.ref a) { s with heap := h' }) (hsz : vs.length ≤ sizeLine) :
    wpAny (model prog w) A (newTuple vs) Q E s :=
  wpAny_newObj_type (h _ _ (F.push _) (N.push F _) (fun p hp => Nat.ne_of_lt (Heap.lt_size (N p hp).1)) fun b o e => Heap.get?_push_of_some _ e) (by show vs.toArray.size ≤ sizeLine; rw [List.size_toArray]; exact hsz)
theorem upd_fr {l : Addr} {h h' : Heap} (F : Fr h₀ L h m) (hs : Heap.SameBut l h h') (hl : l ≠ L) (h0 : h₀.get? l = none) : Fr h₀ L h' m :=
  ⟨F.ns.sameBut hs (Ne.symm hl), fun b o e => hs.extBut b o (fun q => by rw [q, h0] at e; cases e) (F.keep b o e), F.above⟩
theorem upd_news {l : Addr} {h h' : Heap} (N : News h₀ L h news) (hs : Heap.SameBut l h h') (hne : ∀ p ∈ news, p.1 ≠ l) : News h₀ L h' news :=
  fun p hp => ⟨hs.extBut _ _ (hne p hp) (N p hp).1, (N p hp).2⟩
end
theorem sub_rest {h₀ h h' : Heap} {L : Addr} {fp adr : List Addr} {rest nws : List (Addr × Obj)} (hall : ∀ b o, (nw h₀ (L :: adr) h).get? b = some o → (b, o) ∈ rest) (N : News h₀ L h' nws) (hr : ∀ p ∈ rest, p ∈ nws) :
    Sub (nw h₀ (L :: (fp ++ adr)) h) (nw h₀ (L :: (fp ++ adr)) h') := fun b o e => by
  obtain ⟨e1, e2, e3⟩ := nw_get.mp e
  refine nw_get.mpr ⟨(N _ (hr _ (hall b o (nw_get.mpr ⟨e1, fun hm => e2 ?_, e3⟩)))).1, e2, e3⟩
  rcases List.mem_cons.mp hm with q | q
  · exact q ▸ List.mem_cons_self
  · exact List.mem_cons_of_mem _ (List.mem_append_right _ q)
section
variable {prog : Program} {w : World} {A : Around} {E : Value → Shared → Prop} {s : Shared} {h₀ : Heap} {L l a : Addr} {m : Str → Option Value} {rest : List (Addr × Obj)} {oa : Obj} {items : List Value} {n : Nat}
theorem append_L {Q : Value → Shared → Prop} (F : Fr h₀ L s.heap m) (N : News h₀ L s.heap ((a, oa) :: ([(l, W.listOf items.toArray n)] ++ rest))) (ho : OwnOff rest [l]) (hal : l ≠ a) (hsz : items.length ≤ 100000)
    (h : ∀ h' n', Fr h₀ L h' m → News h₀ L h' ((a, oa) :: ([(l, W.listOf (items ++ [Value.ref a]).toArray n')] ++ rest)) → Q .none { s with heap := h' }) :
    wpAny (model prog w) A (call (.builtin "list.append") [.ref l, .ref a]) Q E s := by
  have hl := N (l, W.listOf items.toArray n) (by simp)
  refine wpAny_list_append_plain ⟨n, hl.1⟩ (fun h' hp hs => ?_) (by rw [List.size_toArray, sizeLine_eq]; omega)
  obtain ⟨n', hp⟩ := hp
  rw [List.push_toArray] at hp
  refine h h' n' (upd_fr F hs hl.2.1 hl.2.2) fun p hp' => ?_
  rcases List.mem_cons.mp hp' with rfl | q
  · exact ⟨hs.extBut _ _ (Ne.symm hal) (N (a, oa) (by simp)).1, (N (a, oa) (by simp)).2⟩
  · rcases List.mem_append.mp q with q | q
    · rw [List.mem_singleton.mp q]; exact ⟨hp, hl.2⟩
    · have := N p (List.mem_cons_of_mem _ (List.mem_append_right _ q))
      exact ⟨hs.extBut _ _ (ho p q l List.mem_cons_self) this.1, this.2⟩
end
theorem turnD1 {h₀ : Heap} {L l : Addr} {x : Str} {m₀ m' : Str → Option Value} {P : List Value × Nat → Heap → Prop} {s : Shared} {fp : List Addr} {rest nws : List (Addr × Obj)} {h' : Heap} {tk' : Nat} (c' : List Value × Nat) {c : List Value × Nat}
    (F : Fr h₀ L h' m') (N : News h₀ L h' nws) (hl : (l, W.listOf c'.1.toArray c'.2) ∈ nws) (hr : ∀ p ∈ rest, p ∈ nws) (same : ∀ z, z ≠ x → m' z = m₀ z)
    (hP : P c' (nw h₀ (L :: (fp ++ [l])) h')) : TurnD h₀ L x m₀ (fun c : List Value × Nat => [(l, W.listOf c.1.toArray c.2)]) (fun _ => []) [] P s fp (List.map (fun x => x.1) [(l, W.listOf c.1.toArray c.2)]) rest { s with heap := h', toks := tk' } :=
  ⟨c', h', tk', m', nws, rfl, F, N, (fun p hp => by rw [List.mem_singleton.mp hp]; exact hl), hr, (fun p hp => .inl (by rw [List.mem_singleton.mp hp]; exact List.mem_cons_self)), (fun _ h => nomatch h), fun z hz _ _ => same z hz, hP⟩
theorem nw_mono {h₀ h : Heap} {X Y : List Addr} (hxy : ∀ b ∈ Y, b ∈ X) : Sub (nw h₀ X h) (nw h₀ Y h) := fun b o e => by
  obtain ⟨e1, e2, e3⟩ := nw_get.mp e
  exact nw_get.mpr ⟨e1, fun q => e2 (hxy b q), e3⟩
mutual
/- a value stands for a datum in a heap -/
inductive Rd (h : Heap) : Value → Dat → Prop
  | bool (b : Bool) : Rd h (.bool b) (.bool b)
  | int (i : Int) (t : Tok) : Rd h (.int i t) (.int i)
  | str (x : Str) (t : Tok) : Rd h (.str x t) (.str x)
  | tuple {a : Addr} {vs : List Value} {ds : List Dat} : IsTup h a vs.toArray → RdAll h vs ds → Rd h (.ref a) (.tuple ds)
  | list {a : Addr} {vs : List Value} {ds : List Dat} : h.IsList a vs.toArray → RdAll h vs ds → Rd h (.ref a) (.list ds)
inductive RdAll (h : Heap) : List Value → List Dat → Prop
  | nil : RdAll h [] []
  | cons {v : Value} {d : Dat} {vs : List Value} {ds : List Dat} : Rd h v d → RdAll h vs ds → RdAll h (v :: vs) (d :: ds)
end
theorem isList_keeps {h h' : Heap} {a : Addr} {items : Array Value} (x : h.IsList a items) (k : Sub h h') : h'.IsList a items := let ⟨o, ho, r⟩ := x; ⟨o, k a o ho, r⟩
mutual
theorem Rd.keeps {h h' : Heap} (k : Sub h h') : ∀ {v : Value} {d : Dat}, Rd h v d → Rd h' v d
  | _, _, .bool b => .bool b
  | _, _, .int i t => .int i t
  | _, _, .str x t => .str x t
  | _, _, .tuple a r => .tuple (a.keeps k) (RdAll.keeps k r)
  | _, _, .list a r => .list (isList_keeps a k) (RdAll.keeps k r)
theorem RdAll.keeps {h h' : Heap} (k : Sub h h') : ∀ {vs : List Value} {ds : List Dat}, RdAll h vs ds → RdAll h' vs ds
  | _, _, .nil => .nil
  | _, _, .cons a r => .cons (Rd.keeps k a) (RdAll.keeps k r)
end
mutual
theorem Rd.reads {h : Heap} : ∀ {v : Value} {d : Dat}, Rd h v d → ∃ as, Reads h v (kqdP d) as
  | _, _, .bool b => ⟨_, .bool b⟩
  | _, _, .int i t => ⟨_, .int i t⟩
  | _, _, .str x t => ⟨_, .str x t⟩
  | _, _, .tuple ⟨_, ho, hc, _, hd⟩ r => let ⟨as, q⟩ := RdAll.reads r; ⟨as, by rw [kqdP]; exact .tuple ho hc hd (by simpa using q)⟩
  | _, _, .list ⟨_, ho, hc, _, hd⟩ r => let ⟨as, q⟩ := RdAll.reads r; ⟨_ :: as, by rw [kqdP]; exact .list ho hc hd (by simpa using q)⟩
theorem RdAll.reads {h : Heap} : ∀ {vs : List Value} {ds : List Dat}, RdAll h vs ds → ∃ as, ReadsAll h vs (kqdPs ds) as
  | _, _, .nil => ⟨_, by rw [kqdPs]; exact .nil⟩
  | _, _, .cons a r => let ⟨as, p⟩ := Rd.reads a; let ⟨bs, q⟩ := RdAll.reads r; ⟨as ++ bs, by rw [kqdPs]; exact .cons p q⟩
end
theorem RdAll.snoc {h : Heap} {v : Value} {d : Dat} (a : Rd h v d) : ∀ {vs : List Value} {ds : List Dat}, RdAll h vs ds → RdAll h (vs ++ [v]) (ds ++ [d])
  | _, _, .nil => .cons a .nil
  | _, _, .cons b r => .cons b (RdAll.snoc a r)
theorem RdAll.append {h : Heap} {vs' : List Value} {ds' : List Dat} (a : RdAll h vs' ds') : ∀ {vs : List Value} {ds : List Dat}, RdAll h vs ds → RdAll h (vs ++ vs') (ds ++ ds')
  | _, _, .nil => a
  | _, _, .cons b r => .cons b (RdAll.append a r)
theorem RdAll.length {h : Heap} : ∀ {vs : List Value} {ds : List Dat}, RdAll h vs ds → vs.length = ds.length
  | _, _, .nil => rfl
  | _, _, .cons _ r => by rw [List.length_cons, List.length_cons, RdAll.length r]
theorem RdAll.ofInts {h : Heap} : ∀ {vs : List Value} {ns : List Int}, IntsAre vs ns → RdAll h vs (ns.map .int)
  | _, _, .nil => .nil
  | _, _, .cons n t r => .cons (.int n t) (RdAll.ofInts r)
theorem RdAll.ints {h : Heap} : ∀ {vs : List Value} {ns : List Int}, RdAll h vs (ns.map .int) → IntsAre vs ns
  | _, [], .nil => .nil
  | _, _ :: _, .cons (.int n t) r => .cons n t (RdAll.ints r)
theorem RdAll.get {h : Heap} : ∀ {vs : List Value} {ds : List Dat} {i : Nat} {d : Dat}, RdAll h vs ds → ds[i]? = some d → ∃ v, vs[i]? = some v ∧ Rd h v d
  | _, _, 0, _, .cons a _, e => ⟨_, rfl, by simp at e; exact e ▸ a⟩
  | _, _, i + 1, _, .cons _ r, e => by simpa using RdAll.get r (by simpa using e)
theorem RdAll.mapRd {h : Heap} {α : Type} {f : α → Dat} : ∀ {vs : List Value} {as : List α}, RdAll h vs (as.map f) → ∀ (i : Nat) (v : Value), vs[i]? = some v → ∃ a, as[i]? = some a ∧ Rd h v (f a)
  | _, [], .nil, i, v, e => by simp at e
  | _, a :: _, .cons r _, 0, v, e => ⟨a, rfl, by simp at e; exact e ▸ r⟩
  | _, _ :: _, .cons _ r, i + 1, v, e => by simpa using RdAll.mapRd r i v (by simpa using e)
section
variable {prog : Program} {w : World} {A : Around} {E : Value → Shared → Prop} {s : Shared} {a b : Value} {d e : Dat} {Q : Value → Shared → Prop}
theorem cmp_eq {n : Nat} (ra : Rd s.heap a d) (rb : Rd s.heap b e) (hd : kqdOk n d = true) (he : kqdOk n e = true) (hu : A.units + n < cLine) (h : ∀ q : Bool, (q = true ↔ d = e) → Q (.bool q) s) :
    wpAny (model prog w) A (compareOp .Eq a b) Q E s := by
  obtain ⟨as, ra⟩ := ra.reads
  obtain ⟨bs, rb⟩ := rb.reads
  have la := kqd_lay n d hd
  have lb := kqd_lay n e he
  refine SeqAt.compareEq_reads ra rb la.1 lb.1 ?_ (h _ (kqd_eqv n d e n hd he))
  have := la.2
  omega
theorem cmp_ne {n : Nat} (ra : Rd s.heap a d) (rb : Rd s.heap b e) (hd : kqdOk n d = true) (he : kqdOk n e = true) (hu : A.units + n < cLine) (h : ∀ q : Bool, (q = false ↔ d = e) → Q (.bool q) s) :
    wpAny (model prog w) A (compareOp .NotEq a b) Q E s := by
  obtain ⟨as, ra⟩ := ra.reads
  obtain ⟨bs, rb⟩ := rb.reads
  have la := kqd_lay n d hd
  have lb := kqd_lay n e he
  refine SeqAt.compareNe_reads ra rb la.1 lb.1 ?_ (h _ (by rw [Bool.not_eq_false']; exact kqd_eqv n d e n hd he))
  have := la.2
  omega
end
theorem kqdOk_ints (n : Nat) (cs : List Int) : (cs.map Dat.int).all (kqdOk n) = true := by
  rw [List.all_eq_true]
  intro d hd
  obtain ⟨i, _, rfl⟩ := List.mem_map.mp hd
  cases n <;> rfl
/- the datum that norm is -/
noncomputable def normD (cs : List Int) (b : Int) : Dat := .tuple [.tuple (cs.map .int), .int b]
theorem normD_ok (cs : List Int) (b : Int) : kqdOk 8 (normD cs b) = true := by
  simp [normD, kqdOk]
theorem map_int_inj {a b : List Int} (h : a.map Dat.int = b.map Dat.int) : a = b := by
  induction a generalizing b with
  | nil => cases b <;> simp_all
  | cons x r ih => cases b with
    | nil => simp at h
    | cons y t => simp at h; rw [h.1, ih (by simpa using h.2)]
theorem normD_inj {a b : List Int} {x y : Int} : normD a x = normD b y ↔ a = b ∧ x = y := by
  constructor
  · intro h
    simp only [normD, Dat.tuple.injEq, List.cons.injEq, Dat.int.injEq, and_true] at h
    exact ⟨map_int_inj h.1, h.2⟩
  · rintro ⟨rfl, rfl⟩; rfl
section
variable {prog : Program} {w : World} {A : Around} {E : Value → Shared → Prop} {env : Env}
/- what a comprehension's turn must show: its tests, then its element -/
noncomputable def LcTurn (prog : Program) (w : World) (A : Around) (env : Env) (scope : Scope) (cl : List (Str × Addr)) (x : Str) (ifs : List Expr) (elt : Expr) (s₁ : Shared) (n : Nat) (P : Nat → Value → Prop) (R : Nat → List Value → Heap → Prop) : Prop :=
  ∀ C X i v ys s₃ m₃ (E' : Value → Shared → Prop), s₁.heap.objs.size ≤ C → (∀ b ∈ X, ∃ o, s₃.heap.get? b = some o) → i < n → P i v → ys.length ≤ i → R i ys (nw s₁.heap X s₃.heap) → s₃.heap.Ns C m₃ → m₃ x = some v → Sub s₁.heap s₃.heap →
    wpAny (model prog w) A (forIn ifs true fun c r => if r = true then do let ok ← isTrue c (compEnvC scope cl C env) (eval c (compEnvC scope cl C env)); pure (ForInStep.yield ok) else pure (ForInStep.yield r))
      (fun ok s₄ => Keeps s₃ s₄ ∧ if ok = true then wpAny (model prog w) A (eval elt (compEnvC scope cl C env)) (fun y s₅ => Keeps s₄ s₅ ∧ R (i + 1) (ys ++ [y]) (nw s₁.heap X s₅.heap)) E' s₄ else R (i + 1) ys (nw s₁.heap X s₄.heap)) E' s₃

theorem nw_keep {h₀ h h' : Heap} {X : List Addr} (k : ∀ b o, b ∉ X → h.get? b = some o → h'.get? b = some o) : Sub (nw h₀ X h) (nw h₀ X h') := fun b o e => by
  obtain ⟨e1, e2, e3⟩ := nw_get.mp e
  exact nw_get.mpr ⟨k b o e2 e1, e2, e3⟩

inductive CmpI (s₁ s : Shared) (D C : Addr) (wr : List Addr) (n : Nat) (St : Nat → Heap → Prop) (R : Nat → List Value → Heap → Prop) (k : Nat) (s' : Shared) : Prop
  | mk (h' : Heap) (tk : Nat) (m' : Str → Option Value) (ys : List Value) (i : Nat) : s' = { s with heap := h', toks := tk } → St i h' → h'.PlainList D ys.toArray → h'.Ns C m' → R i ys (nw s₁.heap (D :: C :: wr) h') → ys.length ≤ i → i ≤ n → k = n + 1 - i → Sub s₁.heap h' → CmpI s₁ s D C wr n St R k s'
set_option maxHeartbeats 1000000 in
theorem compLoopH {R' : Result → Shared → Prop} {elt iter : Expr} {x : Str} {px : Pos} {ifs : List Expr} {scope : Scope} {cl : List (Str × Addr)} {pos : Pos} {s₁ s : Shared} {I D C : Addr} {fp wr : List Addr} {n : Nat} {P : Nat → Value → Prop} {St : Nat → Heap → Prop} {m : Str → Option Value}
    (R : Nat → List Value → Heap → Prop) (W : Walks prog w A I fp wr n P St) (hal : ∀ i h, St i h → ∀ b ∈ wr, ∃ o, h.get? b = some o)
    (hx : (compEnvC scope cl C env).kindOf x = some .local) (hp : ((compEnvC scope cl C env).scope.kind == .class || ((compEnvC scope cl C env).scope.kind == .module && (compEnvC scope cl C env).locals != (compEnvC scope cl C env).globals)) = false)
    (hDC : D ≠ C) (hDf : D ∉ fp) (hCf : C ∉ fp) (hC : s₁.heap.objs.size ≤ C) (hD : s₁.heap.get? D = none) (hwr : ∀ b ∈ wr, s₁.heap.get? b = none)
    (hst : St 0 s.heap) (hacc : s.heap.PlainList D #[]) (hn : s.heap.Ns C m) (hk₀ : Sub s₁.heap s.heap)
    (mono : ∀ i ys d d', R i ys d → Sub d d' → R i ys d') (R0 : ∀ d, R 0 [] d) (turn : LcTurn prog w A env scope cl x ifs elt s₁ n P R)
    (hR : ∀ h' tk m' ys, h'.Ns C m' → h'.PlainList D (ys : List Value).toArray → R n ys (nw s₁.heap (D :: C :: wr) h') → Sub s₁.heap h' → R' (.ok .next) { s with heap := h', toks := tk })
    (hsz : n ≤ 100000) :
    codeAny (model prog w) A (.compLoop (.ListComp elt [⟨.Name x px, iter, ifs, 0⟩] scope pos) 0 (.ref I) (.ref D) (compEnvC scope cl C env)) R' s := by
  have hCw : C ∉ wr := fun h => hCf (W.sub _ h)
  have hDw : D ∉ wr := fun h => hDf (W.sub _ h)
  have hC0 : s₁.heap.get? C = none := Heap.get?_none_of_le hC
  refine codeAny_compLoop_tests
    (CmpI s₁ s D C wr n St R) ?_ (n + 1)
    ⟨s.heap, s.toks, m, [], 0, rfl, hst, hacc, hn, R0 _, Nat.zero_le _, Nat.zero_le _, rfl, hk₀⟩
  rintro k s' ⟨H, tk, m', ys, i, rfl, hst', hacc', hn', hRi, hyi, hi, rfl, hk⟩
  by_cases hlt : i < n
  · refine W.item i _ _ _ hlt hst' fun v h₁ tk₁ hPv hst₁ hk₁ => ?_
    refine wpAny_assign_Name (wpAny_storeName_local hx (hn'.at' fun o e => hk₁ _ o hCw e) (fun h₂ hn₂ hs₂ => ?_) hp)
    have hs₂' : ∀ b o, b ≠ C → h₁.get? b = some o → h₂.get? b = some o := fun b o hb e => hs₂.extBut b o hb e
    have up₂ : ∀ b o, b ≠ C → b ∉ wr → H.get? b = some o → h₂.get? b = some o := fun b o hbC hbf e => hs₂' b o hbC (hk₁ b o hbf e)
    have hst₂ : St (i + 1) h₂ := W.frame _ _ _ hst₁ fun b hb o e => hs₂' b o (fun h => hCf (h ▸ hb)) e
    have hacc₂ : h₂.PlainList D ys.toArray := hacc'.at fun o e => up₂ D o hDC hDw e
    have hR₂ := mono _ _ _ _ hRi (nw_keep (h' := h₂) fun b o hb e => up₂ b o (fun q => hb (q ▸ .tail _ (.head _))) (fun q => hb (.tail _ (.tail _ q))) e)
    have hk₂ : Sub s₁.heap h₂ := fun b o e => up₂ b o (fun q => by rw [q, hC0] at e; cases e) (fun q => by rw [hwr b q] at e; cases e) (hk b o e)
    have hX : ∀ b ∈ D :: C :: wr, ∃ o, h₂.get? b = some o := fun b hb => by
      rcases List.mem_cons.mp hb with rfl | hb
      · obtain ⟨n, ho⟩ := hacc₂; exact ⟨_, ho⟩
      · rcases List.mem_cons.mp hb with rfl | hb
        · obtain ⟨o, _, _, ho, _⟩ := hn₂; exact ⟨o, ho⟩
        · exact hal _ _ hst₂ b hb
    refine wpAny_mono (turn C (D :: C :: wr) i v ys { s with heap := h₂, toks := tk₁ + 1 } _ _ hC hX hlt hPv hyi hR₂ hn₂ (by simp) hk₂) (fun ok s₃ h₃ => ?_) fun _ _ e => e
    obtain ⟨⟨h₃, tk₃, rfl, hk₃⟩, hnext⟩ := h₃
    have hst₃ : St (i + 1) h₃ := W.frame _ _ _ hst₂ fun b _ o e => hk₃ b o e
    have hacc₃ : h₃.PlainList D ys.toArray := hacc₂.at fun o e => hk₃ _ o e
    have hn₃ := hn₂.keeps hk₃
    have hk₃' : Sub s₁.heap h₃ := fun b o e => hk₃ b o (hk₂ b o e)
    cases ok with
    | false =>
      simp only [Bool.false_eq_true, if_false] at hnext ⊢
      exact ⟨n + 1 - (i + 1), by omega, h₃, tk₃, _, ys, i + 1, rfl, hst₃, hacc₃, hn₃, hnext, Nat.le_succ_of_le hyi, hlt, rfl, hk₃'⟩
    | true =>
      simp only [if_true] at hnext ⊢
      refine wpAny_mono hnext (fun y s₄ h₄ => ?_) fun _ _ e => e
      obtain ⟨⟨h₄, tk₄, rfl, hk₄⟩, hRy⟩ := h₄
      refine wpAny_list_append_plain (hsz := by rw [List.size_toArray, sizeLine_eq]; omega) (hacc₃.at fun o e => hk₄ _ o e) fun h₅ hl₅ hs₅ => ?_
      have hs₅' : ∀ b o, b ≠ D → h₄.get? b = some o → h₅.get? b = some o := fun b o hb e => hs₅.extBut b o hb e
      refine ⟨n + 1 - (i + 1), by omega, h₅, tk₄, _, ys ++ [y], i + 1, rfl, ?_, (by rw [List.push_toArray] at hl₅; exact hl₅), (hn₃.keeps hk₄).sameBut hs₅ (Ne.symm hDC), mono _ _ _ _ hRy (nw_keep fun b o hb e => hs₅' b o (fun q => hb (q ▸ .head _)) e), (by rw [List.length_append, List.length_singleton]; omega), hlt, rfl, ?_⟩
      · exact W.frame _ _ h₅ hst₃ fun b hb o e => hs₅' b o (fun h => hDf (h ▸ hb)) (hk₄ b o e)
      · intro b o e
        exact hs₅' b o (fun q => by rw [q, hD] at e; cases e) (hk₄ b o (hk₃' b o e))
  · have hin : i = n := by omega
    subst hin
    refine W.done _ _ _ hst' fun h₁ tk₁ hk₁ => ?_
    exact hR h₁ tk₁ m' ys (hn'.at' fun o e => hk₁ _ o hCw e) (hacc'.at fun o e => hk₁ _ o hDw e) (mono _ _ _ _ hRi (nw_keep fun b o hb e => hk₁ b o (fun q => hb (.tail _ (.tail _ q))) e))
      fun b o e => hk₁ b o (fun q => by rw [hwr b q] at e; cases e) (hk b o e)

theorem compBlock {elt iter : Expr} {x : Str} {px : Pos} {ifs : List Expr} {scope : Scope} {cl : List (Str × Addr)} {pos : Pos} {s₁ s₂ : Shared} {I : Addr} {fp wr : List Addr} {n : Nat} {P : Nat → Value → Prop} {St : Nat → Heap → Prop}
    (R : Nat → List Value → Heap → Prop) {RR : Value → Addr → Result → Shared → Prop} (W : Walks prog w A I fp wr n P St) (hal : ∀ i h, St i h → ∀ b ∈ wr, ∃ o, h.get? b = some o) (hsz : n ≤ 100000)
    (hcell : ∀ y ∈ scope.names, y.2 ≠ .cell) (hkind : scope.kind = .function) (hx : scope.names.lookup x = some .local) (hst : St 0 s₂.heap) (hfp : ∀ b ∈ fp, b < s₂.heap.objs.size)
    (hk : Sub s₁.heap s₂.heap) (hs : s₁.heap.objs.size ≤ s₂.heap.objs.size) (hwr : ∀ b ∈ wr, s₁.heap.get? b = none)
    (mono : ∀ i ys d d', R i ys d → Sub d d' → R i ys d') (R0 : ∀ d, R 0 [] d) (turn : LcTurn prog w A env scope cl x ifs elt s₁ n P R)
    (hRR : ∀ D C h' tk m' ys, s₁.heap.get? D = none → s₁.heap.get? C = none → D ≠ C → h'.Ns C m' → h'.PlainList D (ys : List Value).toArray → R n ys (nw s₁.heap (D :: C :: wr) h') → Sub s₁.heap h' → RR (.ref D) C (.ok .next) { s₂ with heap := h', toks := tk }) :
    wpAny (model prog w) A (newList []) (fun acc s₃ => wpAny (model prog w) A (newFunctionEnv scope env.globals cl [] env.qual none .none (some env)) (fun cenv s₄ =>
      codeAny (model prog w) A (.compStart (.ListComp elt [⟨.Name x px, iter, ifs, 0⟩] scope pos) 0 (.ref I) acc { cenv with scope := relabel scope env }) (RR acc cenv.locals) s₄) E s₃) E s₂ := by
  refine wpAny_newObj_type (wpAny_newFunctionEnv hcell (by intro y hy; simp at hy) (fun h₁ hns₁ hsb₁ => ?_) hkind)
  dsimp only at hns₁ hsb₁ ⊢
  generalize hH2 : s₂.heap.push { cls := .type "list", dict := none, data := .seq ([] : List Value).toArray } = H2 at hns₁ hsb₁ ⊢
  have hC : H2.objs.size = s₂.heap.objs.size + 1 := by rw [← hH2, Heap.size_push]
  have hDC : s₂.heap.objs.size ≠ H2.objs.size := by rw [hC]; exact Nat.ne_of_lt (Nat.lt_succ_self _)
  have below : ∀ b, b < s₂.heap.objs.size → b ≠ H2.objs.size ∧ b ≠ s₂.heap.objs.size := fun b hb => ⟨by rw [hC]; exact Nat.ne_of_lt (Nat.lt_succ_of_lt hb), Nat.ne_of_lt hb⟩
  have hDf : s₂.heap.objs.size ∉ fp := fun hm => Nat.lt_irrefl _ (hfp _ hm)
  have hCf : H2.objs.size ∉ fp := fun hm => by have := hfp _ hm; rw [hC] at this; exact Nat.lt_irrefl _ (Nat.lt_of_succ_lt this)
  have old : ∀ b o, s₂.heap.get? b = some o → h₁.get? b = some o := fun b o e => hsb₁.extBut b o (below b (Heap.lt_size e)).1 (Heap.get?_push_of_some _ (hH2 ▸ Heap.get?_push_of_some _ e))
  have hacc : h₁.PlainList s₂.heap.objs.size #[] := ⟨_, hsb₁.extBut _ _ hDC (Heap.get?_push_of_some _ (hH2 ▸ Heap.get?_push_size _ rfl))⟩
  have hst₁ : St 0 h₁ := W.frame _ _ _ hst fun b _ o e => old b o e
  have loop : ∀ s₃ : Shared, s₃ = { s₂ with heap := h₁, toks := s₂.toks + ([] : List (Str × Value)).length } →
      codeAny (model prog w) A (.compLoop (.ListComp elt [⟨.Name x px, iter, ifs, 0⟩] scope pos) 0 (.ref I) (.ref s₂.heap.objs.size) (compEnvC scope cl H2.objs.size env))
        (RR (.ref s₂.heap.objs.size) H2.objs.size) s₃ := by
    rintro s₃ rfl
    refine compLoopH R W hal (lookup_relabel_local hx) (by simp [compEnvC, relabel, hkind]) hDC hDf hCf (by rw [hC]; omega) (Heap.get?_none_of_le hs) hwr hst₁ hacc hns₁ (fun b o e => old b o (hk b o e)) mono R0 turn (fun h' tk m' ys hn ha hR hk' => ?_) hsz
    exact hRR _ _ h' tk m' ys (Heap.get?_none_of_le hs) (Heap.get?_none_of_le (by rw [hC]; omega)) hDC hn ha hR hk'
  exact codeAny_compStart_list (loop _ rfl) (W.self 0 _ _ _ hst₁ (loop _ rfl))

/- a source that a comprehension walks -/
inductive Src (prog : Program) (w : World) (A : Around) (s₁ s₂ : Shared) (it : Value) (n : Nat) (P : Nat → Value → Prop) : Prop
  | mk (I : Addr) (fp wr : List Addr) (St : Nat → Heap → Prop) : it = .ref I → Walks prog w A I fp wr n P St → (∀ i h, St i h → ∀ b ∈ wr, ∃ o, h.get? b = some o) → St 0 s₂.heap → (∀ b ∈ fp, b < s₂.heap.objs.size) → Sub s₁.heap s₂.heap → s₁.heap.objs.size ≤ s₂.heap.objs.size → (∀ b ∈ wr, s₁.heap.get? b = none) → (∃ h tk, s₂ = { s₁ with heap := h, toks := tk }) → Src prog w A s₁ s₂ it n P

theorem src_list {s : Shared} {ax : Addr} {vs : List Value} {Q : Value → Shared → Prop} (hh : A.handled = none) (hl : s.heap.IsList ax vs.toArray) (h : ∀ it s₂, Src prog w A s s₂ it vs.length (fun i v => vs[i]? = some v) → Q it s₂) :
    wpAny (model prog w) A (pyIter (.ref ax)) Q E s := by
  have hlt : ax < s.heap.objs.size := by obtain ⟨_, e, _⟩ := hl; exact Heap.lt_size e
  have W : Walks prog w A s.heap.objs.size [s.heap.objs.size, ax] [s.heap.objs.size] vs.length (fun i v => vs[i]? = some v) (fun i h => h.IsListIter s.heap.objs.size ax i ∧ h.IsList ax vs.toArray) := by
    simpa using Walks.list (prog := prog) (w := w) hh s.heap.objs.size ax (Nat.ne_of_lt hlt) vs.toArray
  refine wpAny_pyIter_list hl (h _ _ ⟨s.heap.objs.size, [s.heap.objs.size, ax], [s.heap.objs.size], _, rfl, W, ?_, ⟨⟨_, Heap.get?_push_size _ rfl, rfl, rfl⟩, hl.push _⟩, ?_, fun b o e => Heap.get?_push_of_some _ e, ?_, ?_, ⟨_, _, rfl⟩⟩)
  · rintro i h ⟨⟨o, ho, _⟩, _⟩ b hb
    rw [List.mem_singleton.mp hb]; exact ⟨o, ho⟩
  · intro b hb
    show b < (s.heap.push _).objs.size
    rw [Heap.size_push]
    rcases List.mem_cons.mp hb with rfl | hb
    · exact Nat.lt_succ_self _
    · rw [List.mem_singleton.mp hb]; exact Nat.lt_succ_of_lt hlt
  · show _ ≤ (s.heap.push _).objs.size
    rw [Heap.size_push]; exact Nat.le_succ _
  · intro b hb
    rw [List.mem_singleton.mp hb]; exact Heap.get?_none_of_le (Nat.le_refl _)
theorem src_range {s : Shared} {r : Addr} {a₀ b₀ : Int} {t₀ u₀ v₀ : Tok} {Q : Value → Shared → Prop} (hh : A.handled = none) (hr : IsRange s.heap r a₀ b₀ 1 t₀ u₀ v₀) (hsm : Builtin.Range.small a₀ b₀ 1 = true)
    (h : ∀ it s₂, Src prog w A s s₂ it (b₀ - a₀).toNat (fun i v => ∃ t, v = .int (a₀ + i * 1) t) → Q it s₂) : wpAny (model prog w) A (pyIter (.ref r)) Q E s := by
  refine wpAny_pyIter_range hr hsm (h _ _ ⟨s.heap.objs.size, [s.heap.objs.size], [s.heap.objs.size], _, rfl, Walks.range hh _ a₀ 1 _, ?_, ?_, ?_, fun b o e => Heap.get?_push_of_some _ e, ?_, ?_, ⟨_, _, rfl⟩⟩)
  · rintro i h q b hb
    rw [List.mem_singleton.mp hb]; exact ⟨_, q⟩
  · show IsRangeIter _ _ _ _ _
    rw [rangeSize_nat]; simpa using Heap.get?_push_size _ rfl
  · intro b hb
    show b < (s.heap.push _).objs.size
    rw [Heap.size_push, List.mem_singleton.mp hb]; exact Nat.lt_succ_self _
  · show _ ≤ (s.heap.push _).objs.size
    rw [Heap.size_push]; exact Nat.le_succ _
  · intro b hb
    rw [List.mem_singleton.mp hb]; exact Heap.get?_none_of_le (Nat.le_refl _)

/- what is asked behind a comprehension's source -/
inductive LcE (prog : Program) (w : World) (A : Around) (env : Env) (scope : Scope) (cl : List (Str × Addr)) (x : Str) (ifs : List Expr) (elt : Expr) (Q : Value → Shared → Prop) (it : Value) (s₂ : Shared) : Prop
  | mk (s₀ : Shared) (n : Nat) (P : Nat → Value → Prop) (R : Nat → List Value → Heap → Prop) : Src prog w A s₀ s₂ it n P → n ≤ 100000 → (∀ i ys d d', R i ys d → Sub d d' → R i ys d') → (∀ d, R 0 [] d) → LcTurn prog w A env scope cl x ifs elt s₀ n P R →
    (∀ D h' tk ys, s₀.heap.get? D = none → h'.PlainList D (ys : List Value).toArray → R n ys (nw s₀.heap [D] h') → Sub s₀.heap h' → Q (.ref D) { s₀ with heap := h', toks := tk }) → LcE prog w A env scope cl x ifs elt Q it s₂
inductive LcA (prog : Program) (w : World) (A : Around) (env : Env) (scope : Scope) (cl : List (Str × Addr)) (x y : Str) (ifs : List Expr) (elt : Expr) (Q : Flow → Shared → Prop) (it : Value) (s₂ : Shared) : Prop
  | mk (s₀ : Shared) (n : Nat) (P : Nat → Value → Prop) (R : Nat → List Value → Heap → Prop) (m : Str → Option Value) : Src prog w A s₀ s₂ it n P → n ≤ 100000 → s₀.heap.Ns env.locals m → (∀ i ys d d', R i ys d → Sub d d' → R i ys d') → (∀ d, R 0 [] d) → LcTurn prog w A env scope cl x ifs elt s₀ n P R →
    (∀ D h' tk ys, s₀.heap.get? D = none → h'.PlainList D (ys : List Value).toArray → R n ys (nw s₀.heap [D] h') → h'.Ns env.locals (fun z => if z = y then some (.ref D) else m z) → (∀ b o, b ≠ env.locals → s₀.heap.get? b = some o → h'.get? b = some o) → Q .next { s₀ with heap := h', toks := tk }) → LcA prog w A env scope cl x y ifs elt Q it s₂
/- a list comprehension, evaluated -/
theorem lcEval {s : Shared} {elt iter : Expr} {x : Str} {px : Pos} {ifs : List Expr} {scope : Scope} {cl : List (Str × Addr)} {pos : Pos} {Q : Value → Shared → Prop}
    (hclos : closureFor scope env = pure cl) (hcell : ∀ y ∈ scope.names, y.2 ≠ .cell) (hkind : scope.kind = .function)
    (hnames : ∀ y ∈ scope.names, y.2 = .local → scope.names.lookup y.1 = some .local) (hx : scope.names.lookup x = some .local)
    (h : wpAny (model prog w) A (eval iter env) (fun xv s₁ => wpAny (model prog w) A (pyIter xv) (LcE prog w A env scope cl x ifs elt Q) E s₁) E s)
    (hs : ∀ x, foldedSetIterable iter env x = pure x) :
    wpAny (model prog w) A (eval (.ListComp elt [⟨.Name x px, iter, ifs, 0⟩] scope pos) env) Q E s := by
  rw [eval_ListComp]
  refine wpAny_comprehension_free (use := none) rfl hs hclos hkind hnames (wpAny_mono h (fun xv s₁ h₁ => wpAny_mono h₁ (fun it s₂ h₂ => ?_) fun _ _ e => e) fun _ _ e => e)
  obtain ⟨s₀, n, P, R, ⟨I, fp, wr, St, rfl, W, hal, hst, hfp, hk, hsz', hwr, ⟨h2, tk2, rfl⟩⟩, hsz, mono, R0, turn, hQ⟩ := h₂
  refine compBlock R (RR := fun acc C => compPost (model prog w) A E none Q acc C) W hal hsz hcell hkind hx hst hfp hk hsz' hwr mono R0 turn ?_
  intro D C h' tk m' ys hD hC hDC hn hl hR hk'
  refine ⟨m', hn, fun h'' hs'' => ?_⟩
  have hs3 : ∀ b o, b ≠ C → h'.get? b = some o → h''.get? b = some o := fun b o hb e => hs''.extBut b o hb e
  exact hQ D h'' tk ys hD (hl.extBut hs''.extBut hDC) (mono _ _ _ _ hR fun b o e => by
    obtain ⟨e1, e2, e3⟩ := nw_get.mp e
    exact nw_get.mpr ⟨hs3 b o (fun q => e2 (q ▸ .tail _ (.head _))) e1, fun q => e2 (List.mem_singleton.mp q ▸ .head _), e3⟩) fun b o e => hs3 b o (fun q => by rw [q, hC] at e; cases e) (hk' b o e)

/- a list comprehension, bound to a name -/
theorem lcAssign {s : Shared} {elt iter : Expr} {x y : Str} {px py : Pos} {ifs : List Expr} {scope : Scope} {cl : List (Str × Addr)} {pos spos : Pos} {Q : Flow → Shared → Prop}
    (hsw : swapsWith (.ListComp elt [⟨.Name x px, iter, ifs, 0⟩] scope pos) (some (.Name y py)) spos.line env = pure true)
    (hclos : closureFor scope env = pure cl) (hcell : ∀ y ∈ scope.names, y.2 ≠ .cell) (hkind : scope.kind = .function)
    (hnames : ∀ y ∈ scope.names, y.2 = .local → scope.names.lookup y.1 = some .local) (hx : scope.names.lookup x = some .local)
    (hy : env.kindOf y = some .local) (hp : (env.scope.kind == .class || (env.scope.kind == .module && env.locals != env.globals)) = false)
    (h : wpAny (model prog w) A (eval iter env) (fun xv s₁ => wpAny (model prog w) A (pyIter xv) (LcA prog w A env scope cl x y ifs elt Q) E s₁) E s)
    (hs : ∀ x, foldedSetIterable iter env x = pure x) :
    wpAny (model prog w) A (exec (.Assign [.Name y py] (.ListComp elt [⟨.Name x px, iter, ifs, 0⟩] scope pos) spos) env) Q E s := by
  rw [exec_Assign_Name_used _ _ _ _ hsw]
  refine wpAny_bind (wpAny_standAt (wpAny_bind ?_))
  show wpAny _ A (do let _ ← comprehension (.ListComp elt [⟨.Name x px, iter, ifs, 0⟩] scope pos) scope env _ (newList []) false (eval iter env) (some (assign (.Name y py) env))) _ _ s
  refine wpAny_bind (wpAny_mono (wpAny_comprehension_free (use := some (assign (.Name y py) env)) (Q := fun _ s' => Q .next s') rfl hs hclos hkind hnames
    (wpAny_mono h (fun xv s₁ h₁ => wpAny_mono h₁ (fun it s₂ h₂ => ?_) fun _ _ e => e) fun _ _ e => e)) (fun _ s' hq => wpAny_pure (wpAny_pure hq)) fun _ _ e => e)
  obtain ⟨s₀, n, P, R, m, ⟨I, fp, wr, St, rfl, W, hal, hst, hfp, hk, hsz', hwr, ⟨h2, tk2, rfl⟩⟩, hsz, hn0, mono, R0, turn, hQ⟩ := h₂
  refine compBlock R (RR := fun acc C => compPost (model prog w) A E (some (assign (.Name y py) env)) (fun _ s' => Q .next s') acc C) W hal hsz hcell hkind hx hst hfp hk hsz' hwr mono R0 turn ?_
  intro D C h' tk m' ys hD hC hDC hnC hl hR hk'
  have hLC : env.locals ≠ C := by rintro rfl; obtain ⟨o, _, _, ho, _⟩ := hn0; rw [hC] at ho; cases ho
  have hLD : env.locals ≠ D := by rintro rfl; obtain ⟨o, _, _, ho, _⟩ := hn0; rw [hD] at ho; cases ho
  show wpAny _ A (assign (.Name y py) env (.ref D)) _ _ _
  refine wpAny_assign_Name (wpAny_storeName_local hy (hn0.at' fun o e => hk' _ o e) (fun h₂ hn₂ hs₂ => ?_) hp)
  refine ⟨m', hnC.sameBut hs₂ (Ne.symm hLC), fun h₃ hs₃ => ?_⟩
  have k3 : ∀ b o, b ≠ env.locals → b ≠ C → h'.get? b = some o → h₃.get? b = some o := fun b o hL hc e => hs₃.extBut b o hc (hs₂.extBut b o hL e)
  refine hQ D h₃ _ ys hD ((hl.extBut hs₂.extBut (Ne.symm hLD)).extBut hs₃.extBut hDC) (mono _ _ _ _ hR fun b o e => ?_) (hn₂.sameBut hs₃ hLC) fun b o hbL e => k3 b o hbL (fun q => by rw [q, hC] at e; cases e) (hk' b o e)
  obtain ⟨e1, e2, e3⟩ := nw_get.mp e
  refine nw_get.mpr ⟨k3 b o (fun q => ?_) (fun q => e2 (q ▸ .tail _ (.head _))) e1, fun q => e2 (List.mem_singleton.mp q ▸ .head _), e3⟩
  obtain ⟨o', _, _, ho, _⟩ := hn0
  rw [q, ho] at e3; cases e3
end
theorem LcTurn.plain {prog : Program} {w : World} {A : Around} {env : Env} {scope : Scope} {cl : List (Str × Addr)} {x : Str} {elt : Expr} {s₁ : Shared} {n : Nat} {P : Nat → Value → Prop} {R : Nat → List Value → Heap → Prop}
    (h : ∀ C X i v ys s₃ (m₃ : Str → Option Value) (E' : Value → Shared → Prop), (∀ b ∈ X, ∃ o, s₃.heap.get? b = some o) → i < n → P i v → ys.length ≤ i → R i ys (nw s₁.heap X s₃.heap) → Fr s₁.heap (compEnvC scope cl C env).locals s₃.heap (fun z => if z = x then some v else m₃ z) → News s₁.heap (compEnvC scope cl C env).locals s₃.heap [] →
      wpAny (model prog w) A (eval elt (compEnvC scope cl C env)) (fun y s₅ => Keeps s₃ s₅ ∧ R (i + 1) (ys ++ [y]) (nw s₁.heap X s₅.heap)) E' s₃) : LcTurn prog w A env scope cl x [] elt s₁ n P R := by
  intro C X i v ys s₃ m₃ E' hC hX hi hv hy hR hn hm hk
  show wpAny _ _ (pure true) _ _ s₃
  refine wpAny_pure ⟨⟨_, _, rfl, fun _ _ e => e⟩, ?_⟩
  rw [if_pos rfl]
  have e : m₃ = fun z => if z = x then some v else m₃ z := by
    funext z
    by_cases q : z = x
    · rw [if_pos q, q, hm]
    · rw [if_neg q]
  rw [e] at hn
  exact h C X i v ys s₃ m₃ E' hX hi hv hy hR ⟨hn, hk, hC⟩ News.nil
theorem Keeps.toks (s : Shared) (tk : Nat) : Keeps s { s with toks := tk } := ⟨_, _, rfl, fun _ _ e => e⟩
section
variable {prog : Program} {w : World} {A : Around} {E : Value → Shared → Prop} {s : Shared} {env : Env} {h₀ : Heap} {m : Str → Option Value} {x : Str} {pos : Pos} {v : Value} {Q : Value → Shared → Prop}
theorem nmL (F : Fr h₀ env.locals s.heap m) (hv : m x = some v) (h : Q v s) (hk : env.scope.kind = .function) (hx : env.kindOf x = some .local) (hd : (x == ("__debug__" : Str)) = false) :
    wpAny (model prog w) A (eval (.Name x pos) env) Q E s := wpAny_Name (wpAny_loadName_local hk hx F.ns hv h) hd
theorem nmC {c : Addr} {o : Obj} (ho : s.heap.get? c = some o) (hd : o.data = .cell (some v)) (hc : env.cells.lookup x = some c) (h : Q v s) (hk : env.scope.kind = .function) (hx : env.kindOf x = some .cell) (hb : (x == ("__debug__" : Str)) = false) :
    wpAny (model prog w) A (eval (.Name x pos) env) Q E s := wpAny_Name (wpAny_loadName_cell hk hx hc ⟨o, ho, hd⟩ h) hb
theorem nmG (G : Gd w.params s.heap) (e : nsIn (hd.heap_39 w.params) mainGlobals x = some (some v)) (h : Q v s) (hg : env.globals = mainGlobals) (hk : env.scope.kind = .function) (hx : env.kindOf x = some .globalImplicit) (hd : (x == ("__debug__" : Str)) = false) :
    wpAny (model prog w) A (eval (.Name x pos) env) Q E s := by
  obtain ⟨_, _, mg, _, T⟩ := G.t
  exact Name_function_global hk hx (loadGlobal_global (env := env) (by rw [hg]; exact T.g) (mg_of G.k T.g e) h) hd
theorem nmB (G : Gd w.params s.heap) (e : nsIn (hd.heap_39 w.params) mainGlobals x = some none) (hv : bootBuiltins x = some v) (hn : x ≠ "__name__") (h : Q v s) (hg : env.globals = mainGlobals) (hb : env.builtins = builtinsNs) (hk : env.scope.kind = .function) (hx : env.kindOf x = some .globalImplicit) (hd : (x == ("__debug__" : Str)) = false) :
    wpAny (model prog w) A (eval (.Name x pos) env) Q E s := by
  obtain ⟨_, _, mg, mb, T⟩ := G.t
  exact Name_function_global hk hx (loadGlobal_builtin (env := env) (by rw [hg]; exact T.g) (mg_none_of G.k T.g e) (by rw [hb]; exact T.b) ((T.builtins x hn).trans hv) h) hd
end
theorem after_assign {h₀ h h' : Heap} {L : Addr} {m m' : Str → Option Value} {news : List (Addr × Obj)} (F : Fr h₀ L h m) (N : News h₀ L h news) (ns : h'.Ns L m') (k : ∀ b o, b ≠ L → h.get? b = some o → h'.get? b = some o) : Fr h₀ L h' m' ∧ News h₀ L h' news :=
  ⟨⟨ns, fun b o e => k b o (Nat.ne_of_lt (Nat.lt_of_lt_of_le (Heap.lt_size e) F.above)) (F.keep b o e), F.above⟩, fun p hp => ⟨k _ _ (N p hp).2.1 (N p hp).1, (N p hp).2⟩⟩
theorem add_news {h₀ h h' : Heap} {L D : Addr} {m : Str → Option Value} {news : List (Addr × Obj)} {o : Obj} (F : Fr h₀ L h m) (N : News h₀ L h' news) (hD : h.get? D = none) (ho : h'.get? D = some o) : News h₀ L h' ((D, o) :: news) := fun p hp => by
  rcases List.mem_cons.mp hp with rfl | hp
  · refine ⟨ho, ?_, ?_⟩
    · rintro rfl
      obtain ⟨oL, _, _, hL, _⟩ := F.ns
      rw [hL] at hD; cases hD
    · cases q : h₀.get? D with
      | none => rfl
      | some o' => rw [F.keep _ _ q] at hD; cases hD
  · exact N p hp
/- a text by its signs -/
noncomputable def T (l : List Nat) : Str := ⟨l.toArray⟩
theorem T_cps (l : List Nat) : (T l).cps.toList = l := by simp [T]
theorem T_of (x : Str) : T x.cps.toList = x := by cases x; simp [T]
theorem T_app (a b : List Nat) : T a ++ T b = T (a ++ b) := by
  refine Str.ext' (Array.toList_inj.mp ?_)
  rw [Str.cps_append, Array.toList_append]; simp [T]
theorem app_T (x y : Str) : x ++ y = T (x.cps.toList ++ y.cps.toList) := by rw [← T_app, T_of, T_of]
theorem T_len (l : List Nat) : (T l).length = l.length := by simp [T, Str.length]
theorem len_cps (x : Str) : x.length = x.cps.toList.length := by simp [Str.length]
theorem T_inj {a b : List Nat} (h : T a = T b) : a = b := by have := congrArg (fun x : Str => x.cps.toList) h; simpa [T_cps] using this
theorem foldl_rep (c : Nat) : ∀ (k : Nat) (acc : Array Nat), ((List.replicate k #[c]).foldl (· ++ ·) acc).toList = acc.toList ++ List.replicate k c
  | 0, acc => by simp
  | k + 1, acc => by rw [List.replicate_succ, List.foldl_cons, foldl_rep c k]; simp [List.replicate_succ]
theorem mul_T {x : Str} {c : Nat} (hx : x.cps = #[c]) (n : Int) : Txt.mul x n = T (List.replicate n.toNat c) := by
  unfold Txt.mul
  by_cases h1 : n < 1
  · rw [if_pos h1, show n.toNat = 0 by omega]; rfl
  · rw [if_neg h1]
    split
    · rename_i hc
      rw [Bool.or_eq_true, beq_iff_eq, beq_iff_eq] at hc
      rcases hc with h | h
      · subst h; cases x; simp at hx; subst hx; rfl
      · rw [Str.length, hx] at h; simp at h
    · rw [hx]
      refine Str.ext' (Array.toList_inj.mp ?_)
      rw [foldl_rep]; simp [T]
theorem join_nil : ∀ (ls : List (List Nat)), Str.join (T []) (ls.map T) = T ls.flatten
  | [] => rfl
  | [a] => by simp [Str.join]
  | a :: b :: r => by
    have ih := join_nil (b :: r)
    rw [List.map_cons] at ih
    rw [List.map_cons, List.map_cons]
    show T a ++ T [] ++ Str.join (T []) (T b :: r.map T) = _
    rw [ih, T_app, T_app]; simp
theorem strs_of {vs : List Value} {xs : List Str} (h : StrsAre vs xs) : ∃ l : List (Str × Tok), vs = strValues l ∧ l.map (·.1) = xs := by
  induction h with
  | nil => exact ⟨[], rfl, rfl⟩
  | cons y t _ ih => obtain ⟨l, e1, e2⟩ := ih; exact ⟨(y, t) :: l, by rw [e1]; rfl, by rw [← e2]; rfl⟩
theorem strs_snoc {vs : List Value} {xs : List Str} {y : Str} {t : Tok} (h : StrsAre vs xs) : StrsAre (vs ++ [.str y t]) (xs ++ [y]) := by
  induction h with
  | nil => exact .cons _ _ .nil
  | cons z u _ ih => exact .cons _ _ ih
theorem ints_snoc {vs : List Value} {xs : List Int} {y : Int} {t : Tok} (h : IntsAre vs xs) : IntsAre (vs ++ [.int y t]) (xs ++ [y]) := by
  induction h with
  | nil => exact .cons _ _ .nil
  | cons z u _ ih => exact .cons _ _ ih
section
variable {prog : Program} {w : World} {A : Around} {E : Value → Shared → Prop} {s : Shared} {x y : Str} {t u : Tok} {n : Int} {Q : Value → Shared → Prop}
theorem mul_S {c : Nat} (hx : x.cps = #[c]) (h0 : 0 ≤ n) (h1 : n ≤ 1000) (h : ∀ t k, Q (.str (T (List.replicate n.toNat c)) t) { s with toks := k }) : wpAny (model prog w) A (binaryOp .Mult (.str x t) (.int n u)) Q E s :=
  SB.mul (mulOk_of 1 1000 (by rw [Str.length, hx]; exact Nat.le_refl _) (by omega) (by omega) (by decide) (by decide)) fun t' k => by rw [mul_T hx]; exact h t' k
theorem add_S (hsz : x.cps.toList.length + y.cps.toList.length ≤ 100000) (h : ∀ t k, Q (.str (T (x.cps.toList ++ y.cps.toList)) t) { s with toks := k }) : wpAny (model prog w) A (binaryOp .Add (.str x t) (.str y u)) Q E s :=
  add_str (fun t' k => by rw [app_T]; exact h t' k) (by rw [len_cps, len_cps, sizeLine_eq]; omega)
theorem join_S {D : Addr} {vs : List Value} {xs : List Str} (hl : s.heap.IsList D vs.toArray) (hi : StrsAre vs xs) (hsz : (xs.map (·.length)).sum + xs.length * x.length ≤ 100000)
    (h : ∀ t k, Q (.str (Str.join x xs) t) { s with toks := k }) : wpAny (model prog w) A (call (.builtin "str.join") [.str x t, .ref D]) Q E s := by
  obtain ⟨l, rfl, e⟩ := strs_of hi
  refine SC.join hl e ?_ fun t' k => ?_
  · unfold JoinOk
    rw [StrLaws.joinTotal, short24 (by omega)]; rfl
  · have := h t' k
    rw [← StrLaws.glued_eq_join] at this
    exact this
end
theorem lit_none : (Str.ofString "").cps.toList = [] := by decide +kernel
theorem lit_sp : (Str.ofString " ").cps.toList = [32] := by decide +kernel
theorem lit_tab : (Str.ofString "\t").cps.toList = [9] := by decide +kernel
noncomputable def blankTab (c : Nat) : Bool := c == 32 || c == 9
/- the signs ahead of the first that is neither a blank nor a tab -/
noncomputable def leadOf (l : List Nat) : List Nat := l.takeWhile blankTab
/- cut at the tabs -/
noncomputable def splitL : List Nat → List (List Nat)
  | [] => [[]]
  | c :: r => if c = 9 then [] :: splitL r else match splitL r with
    | p :: ps => (c :: p) :: ps
    | [] => [[c]]
theorem splitL_ne : ∀ l, splitL l ≠ []
  | [] => by simp [splitL]
  | c :: r => by
    unfold splitL
    split
    · simp
    · split <;> simp
noncomputable def joinL : List (List Nat) → List Nat
  | [] => []
  | [x] => x
  | x :: r => x ++ 9 :: joinL r
theorem splitL_free : ∀ (x : List Nat), 9 ∉ x → splitL x = [x]
  | [], _ => rfl
  | c :: r, h => by
    have h1 : c ≠ 9 := fun e => h (e ▸ List.mem_cons_self)
    rw [splitL, if_neg h1, splitL_free r fun q => h (List.mem_cons_of_mem _ q)]
theorem splitL_cut (rest : List Nat) : ∀ (x : List Nat), 9 ∉ x → splitL (x ++ 9 :: rest) = x :: splitL rest
  | [], _ => by simp [splitL]
  | c :: r, h => by
    have h1 : c ≠ 9 := fun e => h (e ▸ List.mem_cons_self)
    rw [List.cons_append, splitL, if_neg h1, splitL_cut rest r fun q => h (List.mem_cons_of_mem _ q)]
theorem split_join : ∀ (ps : List (List Nat)), ps ≠ [] → (∀ p ∈ ps, 9 ∉ p) → splitL (joinL ps) = ps
  | [], h, _ => absurd rfl h
  | [x], _, hf => splitL_free x (hf x List.mem_cons_self)
  | x :: y :: r, _, hf => by
    show splitL (x ++ 9 :: joinL (y :: r)) = _
    rw [splitL_cut _ x (hf x List.mem_cons_self), split_join (y :: r) (by simp) fun p hp => hf p (List.mem_cons_of_mem _ hp)]
theorem join_nine : ∀ (ps : List (List Nat)), Str.join ⟨#[9]⟩ (ps.map T) = T (joinL ps)
  | [] => rfl
  | [a] => by simp [Str.join, joinL]
  | a :: b :: r => by
    have ih := join_nine (b :: r)
    rw [List.map_cons] at ih
    rw [List.map_cons, List.map_cons]
    show T a ++ ⟨#[9]⟩ ++ Str.join ⟨#[9]⟩ (T b :: r.map T) = T (a ++ 9 :: joinL (b :: r))
    rw [ih, show (⟨#[9]⟩ : Str) = T [9] from rfl, T_app, T_app]; simp
theorem split_ne (x y : Str) : Txt.split x y ≠ [] := by
  unfold Txt.split
  split
  · simp
  · split
    · simp
    · rw [StrLaws.partsBetween_eq]
      obtain ⟨p, q, e⟩ := StrLaws.partsFrom_ne x y.length 0 (Builtin.Str.occurrences x y 0 x.length (x.length + 1))
      rw [e]; simp
theorem split_T (l : List Nat) : Txt.split (T l) ⟨#[9]⟩ = (splitL l).map T := by
  have h1 := StrLaws.join_split (T l) ⟨#[9]⟩
  have h2 := StrLaws.split_free (T l) 9
  have h3 := split_ne (T l) ⟨#[9]⟩
  generalize Txt.split (T l) ⟨#[9]⟩ = ps at h1 h2 h3
  have e : ps = (ps.map fun p : Str => p.cps.toList).map T := by
    rw [List.map_map]
    exact (List.map_id ps).symm.trans (List.map_congr_left fun p _ => (T_of p).symm)
  rw [e, join_nine] at h1
  have h4 := T_inj h1
  rw [e, ← h4, split_join]
  · simpa using h3
  · intro p hp
    obtain ⟨q, hq, rfl⟩ := List.mem_map.mp hp
    exact h2 q hq
theorem lstrip_T (l : List Nat) : Txt.lstripChars (T l) (Str.ofString " \t") = T (l.dropWhile blankTab) := by
  have hg : (Str.ofString " \t").cps.contains = blankTab := by
    rw [show Str.ofString " \t" = ⟨#[32, 9]⟩ from by decide +kernel]
    funext c
    rw [Bool.eq_iff_iff]
    simp [blankTab]
  have key : ∀ l : List Nat, l.drop (l.takeWhile blankTab).length = l.dropWhile blankTab := fun l => by
    induction l with
    | nil => rfl
    | cons c r ih =>
      by_cases h : blankTab c = true
      · rw [List.takeWhile_cons_of_pos h, List.dropWhile_cons_of_pos h]; simpa using ih
      · rw [List.takeWhile_cons_of_neg h, List.dropWhile_cons_of_neg h]; rfl
  unfold Txt.lstripChars Txt.stripBy
  rw [hg]
  have e1 : stripLo blankTab true (T l) = (l.takeWhile blankTab).length := by unfold stripLo; rw [if_pos rfl, T_cps]
  split
  · rename_i h
    unfold stripSame at h
    rw [Bool.and_eq_true, beq_iff_eq, e1] at h
    congr 1
    rw [← key l, h.1, List.drop_zero]
  · unfold PySem.stripped
    rw [e1]
    refine Str.ext' (Array.toList_inj.mp ?_)
    rw [StrLaws.strSub_toList, T_cps, T_cps]
    unfold stripHi
    rw [if_neg (by simp), T_len, List.take_of_length_le (by simp), key]
section
variable {prog : Program} {w : World} {A : Around} {E : Value → Shared → Prop} {s : Shared} {l : List Nat} {t u : Tok} {Q : Value → Shared → Prop}
theorem len_T (hb : l.length ≤ 100000) (h : Q (.int l.length (s.toks + 1)) { s with toks := s.toks + 1 + 1 }) : wpAny (model prog w) A (call (.builtin "len") [.str (T l) t]) Q E s :=
  len_str (by rw [T_len]; (first | lia | omega)) (by rw [T_len]; exact h)
theorem lstrip_S (hb : l.length ≤ 100000) (h : ∀ t k, Q (.str (T (l.dropWhile blankTab)) t) { s with toks := k }) : wpAny (model prog w) A (call (.builtin "str.lstrip") [.str (T l) t, .str (Str.ofString " \t") u]) Q E s :=
  SC.lstripChars (fun t k => by rw [lstrip_T]; exact h t k) (by rw [T_len, sizeLine_eq]; (first | lia | omega))
theorem split_S (hb : l.length ≤ 100000) (h : ∀ D vs s', StrsAre vs ((splitL l).map T) → Keeps s s' → s'.heap.IsList D vs.toArray → Q (.ref D) s') : wpAny (model prog w) A (call (.builtin "str.split") [.str (T l) t, .str (Str.ofString "\t") u]) Q E s := by
  rw [show Str.ofString "\t" = ⟨#[9]⟩ from by decide +kernel]
  refine SCG.split1 (Fm := fun s' => Keeps s s') ?_ (Keeps.refl s) (by decide) (fun D l' s' e k hl => ?_) (by rw [T_len, sizeLine_eq]; (first | lia | omega)) ?_
  · intro s' ob k ⟨h', tk', e, k'⟩
    subst e
    exact ⟨_, _, rfl, fun b o q => Heap.get?_push_of_some _ (k' b o q)⟩
  · refine h D _ s' ?_ k hl
    rw [← split_T, ← e]
    clear e hl
    induction l' with
    | nil => exact .nil
    | cons a r ih => exact .cons a.1 a.2 ih
  · rw [len_partsBetween, sizeLine_eq]
    have h1 := StrLaws.occ_length_le (T l) ⟨#[9]⟩ 0 (T l).length ((T l).length + 1)
    rw [T_len] at h1 ⊢
    (first | lia | omega)
end
theorem slice_T {l : List Nat} {j : Int} (h0 : 0 ≤ j) (h1 : j ≤ l.length) : Txt.slice (T l) none (some j) = T (l.take j.toNat) := by
  have e : Txt.slice (T l) none (some j) = StrLaws.sliceText (T l) none (some j) := rfl
  rw [e, StrLaws.sliceText_to (by rw [T_cps]; exact ⟨h0, h1⟩), T_cps, List.drop_zero, Int.sub_zero]; rfl
theorem lead_take (l : List Nat) : l.take (l.length - (l.dropWhile blankTab).length) = leadOf l := by
  unfold leadOf
  have h := congrArg List.length (List.takeWhile_append_dropWhile (p := blankTab) (l := l))
  rw [List.length_append] at h
  rw [show l.length - (l.dropWhile blankTab).length = (l.takeWhile blankTab).length by (first | lia | omega)]
  exact (List.prefix_iff_eq_take.mp (List.takeWhile_prefix blankTab)).symm
theorem drop_le (l : List Nat) : (l.dropWhile blankTab).length ≤ l.length := by
  have h := congrArg List.length (List.takeWhile_append_dropWhile (p := blankTab) (l := l))
  rw [List.length_append] at h; (first | lia | omega)
theorem lead_le (l : List Nat) : (leadOf l).length ≤ l.length := by
  have h := congrArg List.length (List.takeWhile_append_dropWhile (p := blankTab) (l := l))
  rw [List.length_append] at h; unfold leadOf; (first | lia | omega)
theorem splitL_len : ∀ (l : List Nat) (p : List Nat), p ∈ splitL l → p.length ≤ l.length
  | [], p, h => by simp [splitL] at h; simp [h]
  | c :: r, p, h => by
    have ih := splitL_len r
    unfold splitL at h
    split at h
    · rcases List.mem_cons.mp h with rfl | h
      · simp
      · exact Nat.le_succ_of_le (ih p h)
    · split at h
      · rename_i q qs e
        rcases List.mem_cons.mp h with rfl | h
        · have := ih q (by rw [e]; exact List.mem_cons_self)
          simp; (first | lia | omega)
        · exact Nat.le_succ_of_le (ih p (by rw [e]; exact List.mem_cons_of_mem _ h))
      · rename_i e
        exact absurd e (splitL_ne r)
theorem splitL_count (l : List Nat) : (splitL l).length ≤ l.length + 1 := by
  induction l with
  | nil => simp [splitL]
  | cons c r ih =>
    unfold splitL
    split
    · simp; (first | lia | omega)
    · split
      · rename_i q qs e
        rw [e] at ih
        simp at ih ⊢; (first | lia | omega)
      · simp
theorem strs_at {vs : List Value} {xs : List Str} (h : StrsAre vs xs) {i : Nat} {v : Value} (e : vs[i]? = some v) : ∃ x t, xs[i]? = some x ∧ v = .str x t := by
  induction h generalizing i with
  | nil => simp at e
  | cons x t _ ih => cases i with
    | zero => simp at e; exact ⟨x, t, rfl, e.symm⟩
    | succ i => simpa using ih (by simpa using e)
theorem strs_len {vs : List Value} {xs : List Str} (h : StrsAre vs xs) : vs.length = xs.length := by
  induction h with
  | nil => rfl
  | cons _ _ _ ih => simp [ih]
/- the lengths of the runs -/
noncomputable def runsOf (l : List Nat) : List Int := (splitL (leadOf l)).map fun p => (p.length : Int)
theorem clip_min (z : Int) (n : Nat) : (max 0 (min z n)).toNat = min z.toNat n := by
  rcases Int.le_total 0 z with h | h
  · obtain ⟨m, rfl⟩ := Int.eq_ofNat_of_zero_le h
    rw [Int.max_eq_right (Int.le_min.mpr ⟨h, Int.natCast_nonneg n⟩)]
    rcases Nat.le_total m n with q | q
    · rw [Nat.min_eq_left (by exact q), Int.min_eq_left (Int.ofNat_le.mpr q)]
    · rw [Nat.min_eq_right (by exact q), Int.min_eq_right (Int.ofNat_le.mpr q)]; rfl
  · rw [Int.max_eq_left (Int.le_trans (Int.min_le_left _ _) h), Int.toNat_of_nonpos h, Nat.zero_min]; rfl
theorem pick_upto (vs : List Value) (k : Int) : slicePick vs.toArray none (some k) none = (vs.take (if k < 0 then k + vs.length else k).toNat).toArray := by
  rw [slicePick_plain]
  show ((vs.drop 0).take (clipAt vs.length k - 0)).toArray = _
  rw [List.drop_zero, Nat.sub_zero, clipAt, clip_min, ← List.take_eq_take_min]
section
variable {prog : Program} {w : World} {A : Around} {E : Value → Shared → Prop} {s : Shared}
theorem slice_K {value slice : Expr} {l : Addr} {vs : List Value} {vl vu vk : Value} {lo hi st : Option Int} {ops : List Value} {Q : Value → Shared → Prop}
    (hl : s.heap.IsList l vs.toArray) (pl : IsPart vl lo) (pu : IsPart vu hi) (pk : IsPart vk st) (h0 : st ≠ some 0)
    (h : ∀ a h', Sub s.heap h' → s.heap.get? a = none → h'.get? a = some (W.listOf (slicePick vs.toArray lo hi st) 0) → Q (.ref a) { s with heap := h' })
    (hs : subscripted slice false (.ref l) (.ref s.heap.objs.size) = operate ops (getItem (.ref l) (.ref s.heap.objs.size)))
    (ht : ∀ r, letTemporaryGo value (.ref l) r = pure ()) (hsz : vs.length ≤ 100000) :
    wpAny (model prog w) A (subscriptTail value slice (.ref l) (.ref s.heap.objs.size)) Q E { s with heap := s.heap.push { cls := .type "slice", data := .fields #[vl, vu, vk] } } := by
  refine subscriptTail_ops (Heap.IsList.typeIs (s := { s with heap := s.heap.push { cls := .type "slice", data := .fields #[vl, vu, vk] } }) (hl.push _)) list_getitem_lookup
    (wpAny_getItem_list_slice (hl.push _) (Heap.IsSliceOf.new ..) pl pu pk h0 ?_ (by rw [List.size_toArray, sizeLine_eq]; (first | lia | omega))) hs ht
  refine h _ _ (fun b o e => Heap.get?_push_of_some _ (Heap.get?_push_of_some _ e)) (Heap.get?_none_of_le ?_) (Heap.get?_push_size _ rfl)
  show _ ≤ (s.heap.push _).objs.size
  rw [Heap.size_push]; exact Nat.le_succ _
end
example : PySem.Challenge.rw_du0019_01 = PySem.Challenge.rw_du0019_01 ∧ hd.heap_39 = hd.heap_39 := by k_fill; exact ⟨rfl, rfl⟩
section
local macro_rules | `(tactic| k_inst) => `(tactic| exact instFr (by k_asm) (by assumption) (by assumption))
section
section
variable {prog : Program} {w : World} {E : Value → Shared → Prop} {s : Shared}
set_option maxHeartbeats 4000000 in
theorem longest_spec {x : Addr} {raw : Str} {n nt : Int} {cs : List Int} {b : Int} {sm : Bool} (G : Gd w.params s.heap) (W : WS s.heap x raw n nt cs b sm) {Q : Value → Shared → Prop}
    (hQ : ∀ t s', Keeps s s' → Q (.int (max ((cs.length : Int) - 1) b) t) s') :
    wpAny (model prog w) (ar 600 600) (call (.ref 38) [.ref x]) Q E s := by
  have X := G.k
  obtain ⟨p, loose, mg, mb, T⟩ := G.t
  obtain ⟨dx, tn, tc, kk, h1, h2, h3, h4, h5, k1, k2, k3, k4, k5, t1, t2, t3, t4, vs, a1, a2, a3, a4, a5, a6, a7, a8, a9, aA, aB⟩ := W
  refine' enterK (binds := [(Str.ofString "self", .ref x)]) G ?k6 ?k7 ?k8 ?k9 ?kB ?_ ?c2 ?c3 ?c4 ?c5
  (((case k6 => k_dflt k_is); (case k7 => k_dflt k_is); (case k8 => decide); (case k9 => exact BindsTo.of_eq rfl); (case kB => exact locs rfl); (case c2 => exact rfl); (case c3 => exact rfl); (case c4 => exact rfl); (case c5 => decide)))
  intro L h₁ hL F N
  k_fold
  repeat' (first | (k_unfold; (try dsimp only)) | ((with_reducible show wpAny _ _ (eval (Expr.Name _ _) (compEnvC _ _ _ _)) _ _ _); k_dflt (first | (refine' nmL ?qk1Z ?qk2Z ?_ ?qk3Z ?qk4Z ?qk5Z; (case qk3Z => rfl); (case qk4Z => rfl); (case qk5Z => decide); (case qk1Z => k_asm); (case qk2Z => rfl); k_whole) | (refine' nmC ?qk1Z ?qk2Z ?qk6Z ?_ ?qk3Z ?qk4Z ?qk5Z; (case qk3Z => rfl); (case qk4Z => rfl); (case qk5Z => decide); (case qk6Z => rfl); (case qk1Z => assumption); (case qk2Z => assumption); k_whole) | (refine' nmG ?qk1Z ?qk2Z ?_ ?qk6Z ?qk3Z ?qk4Z ?qk5Z; (case qk3Z => rfl); (case qk4Z => rfl); (case qk5Z => decide); (case qk6Z => rfl); (case qk1Z => assumption); (case qk2Z => k_is); k_whole) | (refine' nmB ?qk1Z ?qk2Z ?qk7Z ?qk8Z ?_ ?qk6Z ?qk9Z ?qk3Z ?qk4Z ?qk5Z; (case qk3Z => rfl); (case qk4Z => rfl); (case qk5Z => decide); (case qk6Z => rfl); (case qk9Z => rfl); (case qk1Z => assumption); (case qk2Z => k_is); (case qk7Z => boot_fast); (case qk8Z => decide); k_whole))) | (with_reducible (((with_reducible show wpAny _ _ (newTuple _) _ _ _); (k_here; refine newTuple_L (by k_asm) (by k_asm) ?_ (Nat.le_of_ble_eq_true rfl); intro a9 h9 F9 N9 f9 k9; (try dsimp only))))) | (with_reducible (((with_reducible show wpAny _ _ (execs (Stmt.Assign _ _ _ :: _) _) _ _ _); refine wpAny_execs_cons ?_))) | (with_reducible (((with_reducible show TurnE _ _ _ _ _ _ _ _ _ _ _ _ _ _ _); dsimp only [TurnE]))) | (with_reducible ((k_here; (with_reducible show wpAny _ _ (call (Value.builtin "len") [Value.ref _]) _ _ _); refine len_tup_ints (IsTup.keeps (by assumption) (Fr.keep (by k_asm))) (by assumption) (by assumption) ?_))) | walk1 | dsimp only)
  exact Qint hQ (by split <;> omega) ⟨_, _, rfl, Fr.keep (by k_asm)⟩
end
/- what indent_level adds up -/
noncomputable def ilOf (cs : List Int) (ts : Int) (k : Nat) : Int := ((rangeKs ts k).map fun i => i / ts * cs.getD i.toNat 0).sum
theorem fdiv_small {a b c : Int} (hb : 1 ≤ b) (ha : 0 ≤ a) (hc : a ≤ c) : a.fdiv b = a / b ∧ 0 ≤ a.fdiv b ∧ a.fdiv b ≤ c := by
  have e : a.fdiv b = a / b := Int.fdiv_eq_ediv_of_nonneg a (by (first | lia | omega))
  have h1 : 0 ≤ a / b := Int.ediv_nonneg ha (by (first | lia | omega))
  have h2 : a / b ≤ a := Int.ediv_le_self b ha
  rw [e]
  (first | lia | omega)
/- the level at a tab size -/
noncomputable def lvl (cs : List Int) (b nt ts : Int) : Int := b + ts * (ilOf cs ts ((cs.length : Int) - ts).toNat + nt)
theorem rangeKs_succ (a : Int) (n : Nat) : rangeKs a (n + 1) = rangeKs a n ++ [a + (n : Int)] := by simp [rangeKs, List.range_succ]
theorem ilOf_succ (cs : List Int) (ts : Int) (k : Nat) : ilOf cs ts (k + 1) = ilOf cs ts k + (ts + k) / ts * cs.getD (ts + (k : Int)).toNat 0 := by
  simp [ilOf, rangeKs_succ]
theorem getD_small {cs : List Int} (h : ∀ c ∈ cs, 0 ≤ c ∧ c ≤ 1000) (i : Nat) : 0 ≤ cs.getD i 0 ∧ cs.getD i 0 ≤ 1000 := by
  by_cases hi : i < cs.length
  · rw [List.getD_eq_getElem?_getD, List.getElem?_eq_getElem hi]; exact h _ (List.getElem_mem hi)
  · rw [List.getD_eq_getElem?_getD, List.getElem?_eq_none (by (first | lia | omega))]; simp
theorem il_step {cs pre : List Int} {ts k il : Int} (hts : 1 ≤ ts) (hl : cs.length ≤ 1000) (hc : ∀ c ∈ cs, 0 ≤ c ∧ c ≤ 1000) (e : k = ts + (pre.length : Int)) (hk : pre.length < ((cs.length : Int) - ts).toNat)
    (h1 : il = ilOf cs ts pre.length) (h2 : 0 ≤ il) (h3 : il ≤ 1000000 * pre.length) :
    il + k.fdiv ts * cs.getD k.toNat 0 = ilOf cs ts (pre ++ [k]).length ∧ 0 ≤ il + k.fdiv ts * cs.getD k.toNat 0 ∧ il + k.fdiv ts * cs.getD k.toNat 0 ≤ 1000000 * (pre ++ [k]).length := by
  obtain ⟨f1, f2, f3⟩ := fdiv_small hts (by (first | lia | omega) : 0 ≤ k) (by (first | lia | omega) : k ≤ 1000)
  obtain ⟨g1, g2⟩ := getD_small hc k.toNat
  have p1 : 0 ≤ k.fdiv ts * cs.getD k.toNat 0 := Int.mul_nonneg f2 g1
  have p2 : k.fdiv ts * cs.getD k.toNat 0 ≤ 1000 * 1000 := Int.mul_le_mul f3 g2 g1 (by (first | lia | omega))
  have q : ilOf cs ts (pre ++ [k]).length = ilOf cs ts pre.length + k.fdiv ts * cs.getD k.toNat 0 := by
    rw [List.length_append, List.length_singleton, ilOf_succ, f1, ← e]
  rw [q, List.length_append, List.length_singleton]
  (first | lia | omega)
section
variable {prog : Program} {w : World} {E : Value → Shared → Prop} {s : Shared}
set_option maxHeartbeats 4000000 in
theorem indent_spec {x : Addr} {raw : Str} {n nt : Int} {cs : List Int} {b : Int} {sm : Bool} {ts : Int} {u : Tok} (G : Gd w.params s.heap) (W : WS s.heap x raw n nt cs b sm) (hts : 1 ≤ ts) {Q : Value → Shared → Prop}
    (hQ : ∀ t s', Keeps s s' → Q (.int (lvl cs b nt ts) t) s') :
    wpAny (model prog w) (ar 600 600) (call (.ref 45) [.ref x, .int ts u]) Q E s := by
  k_with "state" => exact il_step hts a6 a7 (by assumption) (by assumption) (by assumption) (by assumption) (by assumption)
  have X := G.k
  obtain ⟨p, loose, mg, mb, T⟩ := G.t
  obtain ⟨dx, tn, tc, kk, h1, h2, h3, h4, h5, k1, k2, k3, k4, k5, t1, t2, t3, t4, vs, a1, a2, a3, a4, a5, a6, a7, a8, a9, aA, aB⟩ := W
  refine' enterK (binds := [(Str.ofString "self", .ref x), (Str.ofString "tabsize", .int ts u)]) G ?k6 ?k7 ?k8 ?k9 ?kB ?_ ?c2 ?c3 ?c4 ?c5
  (((case k6 => k_dflt k_is); (case k7 => k_dflt k_is); (case k8 => decide); (case k9 => exact BindsTo.of_eq rfl); (case kB => exact locs rfl); (case c2 => exact rfl); (case c3 => exact rfl); (case c4 => exact rfl); (case c5 => decide)))
  intro L h₁ hL F N
  k_fold
  (repeat' (first | (k_unfold; (try dsimp only)) | ((fail_if_success (with_reducible show wpAny _ _ (pyIter _) _ _ _)); (fail_if_success (with_reducible show wpAny _ _ (call (Value.builtin "list.append") _) _ _ _)); (fail_if_success (with_reducible show wpAny _ _ (compareOp _ (Value.ref _) (Value.ref _)) _ _ _)); (fail_if_success (with_reducible show wpAny _ _ (eval (Expr.ListComp _ _ _ _) _) _ _ _)); (fail_if_success (with_reducible show wpAny _ _ (exec (Stmt.Assign _ (Expr.ListComp _ _ _ _) _) _) _ _ _)); (first | ((with_reducible show wpAny _ _ (eval (Expr.Name _ _) (compEnvC _ _ _ _)) _ _ _); k_dflt (first | (refine' nmL ?qk1Z ?qk2Z ?_ ?qk3Z ?qk4Z ?qk5Z; (case qk3Z => rfl); (case qk4Z => rfl); (case qk5Z => decide); (case qk1Z => k_asm); (case qk2Z => rfl); k_whole) | (refine' nmC ?qk1Z ?qk2Z ?qk6Z ?_ ?qk3Z ?qk4Z ?qk5Z; (case qk3Z => rfl); (case qk4Z => rfl); (case qk5Z => decide); (case qk6Z => rfl); (case qk1Z => assumption); (case qk2Z => assumption); k_whole) | (refine' nmG ?qk1Z ?qk2Z ?_ ?qk6Z ?qk3Z ?qk4Z ?qk5Z; (case qk3Z => rfl); (case qk4Z => rfl); (case qk5Z => decide); (case qk6Z => rfl); (case qk1Z => assumption); (case qk2Z => k_is); k_whole) | (refine' nmB ?qk1Z ?qk2Z ?qk7Z ?qk8Z ?_ ?qk6Z ?qk9Z ?qk3Z ?qk4Z ?qk5Z; (case qk3Z => rfl); (case qk4Z => rfl); (case qk5Z => decide); (case qk6Z => rfl); (case qk9Z => rfl); (case qk1Z => assumption); (case qk2Z => k_is); (case qk7Z => boot_fast); (case qk8Z => decide); k_whole))) | (with_reducible (((with_reducible show wpAny _ _ (newTuple _) _ _ _); (k_here; refine newTuple_L (by k_asm) (by k_asm) ?_ (Nat.le_of_ble_eq_true rfl); intro a9 h9 F9 N9 f9 k9; (try dsimp only))))) | (with_reducible (((with_reducible show wpAny _ _ (execs (Stmt.Assign _ _ _ :: _) _) _ _ _); refine wpAny_execs_cons ?_))) | (with_reducible (((with_reducible show TurnE _ _ _ _ _ _ _ _ _ _ _ _ _ _ _); dsimp only [TurnE]))) | (with_reducible ((k_here; (with_reducible show wpAny _ _ (call (Value.builtin "len") [Value.ref _]) _ _ _); refine len_tup_ints (IsTup.keeps (by assumption) (Fr.keep (by k_asm))) (by assumption) (by assumption) ?_))) | walk1); all_goals (try dsimp only)) | dsimp only))
  by_cases hbig : (cs.length : Int) ≤ ts
  · refine range_none rfl (by assumption) hbig (by k_asm) (by k_asm) ?_
    intro h9 tk9 F9 N9
    (repeat' (first | (k_unfold; (try dsimp only)) | ((fail_if_success (with_reducible show wpAny _ _ (pyIter _) _ _ _)); (fail_if_success (with_reducible show wpAny _ _ (call (Value.builtin "list.append") _) _ _ _)); (fail_if_success (with_reducible show wpAny _ _ (compareOp _ (Value.ref _) (Value.ref _)) _ _ _)); (fail_if_success (with_reducible show wpAny _ _ (eval (Expr.ListComp _ _ _ _) _) _ _ _)); (fail_if_success (with_reducible show wpAny _ _ (exec (Stmt.Assign _ (Expr.ListComp _ _ _ _) _) _) _ _ _)); (first | ((with_reducible show wpAny _ _ (eval (Expr.Name _ _) (compEnvC _ _ _ _)) _ _ _); k_dflt (first | (refine' nmL ?qk1Z ?qk2Z ?_ ?qk3Z ?qk4Z ?qk5Z; (case qk3Z => rfl); (case qk4Z => rfl); (case qk5Z => decide); (case qk1Z => k_asm); (case qk2Z => rfl); k_whole) | (refine' nmC ?qk1Z ?qk2Z ?qk6Z ?_ ?qk3Z ?qk4Z ?qk5Z; (case qk3Z => rfl); (case qk4Z => rfl); (case qk5Z => decide); (case qk6Z => rfl); (case qk1Z => assumption); (case qk2Z => assumption); k_whole) | (refine' nmG ?qk1Z ?qk2Z ?_ ?qk6Z ?qk3Z ?qk4Z ?qk5Z; (case qk3Z => rfl); (case qk4Z => rfl); (case qk5Z => decide); (case qk6Z => rfl); (case qk1Z => assumption); (case qk2Z => k_is); k_whole) | (refine' nmB ?qk1Z ?qk2Z ?qk7Z ?qk8Z ?_ ?qk6Z ?qk9Z ?qk3Z ?qk4Z ?qk5Z; (case qk3Z => rfl); (case qk4Z => rfl); (case qk5Z => decide); (case qk6Z => rfl); (case qk9Z => rfl); (case qk1Z => assumption); (case qk2Z => k_is); (case qk7Z => boot_fast); (case qk8Z => decide); k_whole))) | (with_reducible (((with_reducible show wpAny _ _ (newTuple _) _ _ _); (k_here; refine newTuple_L (by k_asm) (by k_asm) ?_ (Nat.le_of_ble_eq_true rfl); intro a9 h9 F9 N9 f9 k9; (try dsimp only))))) | (with_reducible (((with_reducible show wpAny _ _ (execs (Stmt.Assign _ _ _ :: _) _) _ _ _); refine wpAny_execs_cons ?_))) | (with_reducible (((with_reducible show TurnE _ _ _ _ _ _ _ _ _ _ _ _ _ _ _); dsimp only [TurnE]))) | (with_reducible ((k_here; (with_reducible show wpAny _ _ (call (Value.builtin "len") [Value.ref _]) _ _ _); refine len_tup_ints (IsTup.keeps (by assumption) (Fr.keep (by k_asm))) (by assumption) (by assumption) ?_))) | walk1); all_goals (try dsimp only)) | dsimp only))
    exact Qint hQ (by unfold lvl; rw [show ((cs.length : Int) - ts).toNat = 0 by omega]; rfl) ⟨_, _, rfl, Fr.keep (by k_asm)⟩
  · k_state (fun pre il => il = ilOf cs ts pre.length ∧ 0 ≤ il ∧ il ≤ 1000000 * pre.length) "il"
    · have hq := fdiv_small hts (by omega : 0 ≤ kN) (by omega : kN ≤ 1000)
      (repeat' (first | (k_unfold; (try dsimp only)) | ((fail_if_success (with_reducible show wpAny _ _ (pyIter _) _ _ _)); (fail_if_success (with_reducible show wpAny _ _ (call (Value.builtin "list.append") _) _ _ _)); (fail_if_success (with_reducible show wpAny _ _ (compareOp _ (Value.ref _) (Value.ref _)) _ _ _)); (fail_if_success (with_reducible show wpAny _ _ (eval (Expr.ListComp _ _ _ _) _) _ _ _)); (fail_if_success (with_reducible show wpAny _ _ (exec (Stmt.Assign _ (Expr.ListComp _ _ _ _) _) _) _ _ _)); (first | ((with_reducible show wpAny _ _ (eval (Expr.Name _ _) (compEnvC _ _ _ _)) _ _ _); k_dflt (first | (refine' nmL ?qk1Z ?qk2Z ?_ ?qk3Z ?qk4Z ?qk5Z; (case qk3Z => rfl); (case qk4Z => rfl); (case qk5Z => decide); (case qk1Z => k_asm); (case qk2Z => rfl); k_whole) | (refine' nmC ?qk1Z ?qk2Z ?qk6Z ?_ ?qk3Z ?qk4Z ?qk5Z; (case qk3Z => rfl); (case qk4Z => rfl); (case qk5Z => decide); (case qk6Z => rfl); (case qk1Z => assumption); (case qk2Z => assumption); k_whole) | (refine' nmG ?qk1Z ?qk2Z ?_ ?qk6Z ?qk3Z ?qk4Z ?qk5Z; (case qk3Z => rfl); (case qk4Z => rfl); (case qk5Z => decide); (case qk6Z => rfl); (case qk1Z => assumption); (case qk2Z => k_is); k_whole) | (refine' nmB ?qk1Z ?qk2Z ?qk7Z ?qk8Z ?_ ?qk6Z ?qk9Z ?qk3Z ?qk4Z ?qk5Z; (case qk3Z => rfl); (case qk4Z => rfl); (case qk5Z => decide); (case qk6Z => rfl); (case qk9Z => rfl); (case qk1Z => assumption); (case qk2Z => k_is); (case qk7Z => boot_fast); (case qk8Z => decide); k_whole))) | (with_reducible (((with_reducible show wpAny _ _ (newTuple _) _ _ _); (k_here; refine newTuple_L (by k_asm) (by k_asm) ?_ (Nat.le_of_ble_eq_true rfl); intro a9 h9 F9 N9 f9 k9; (try dsimp only))))) | (with_reducible (((with_reducible show wpAny _ _ (execs (Stmt.Assign _ _ _ :: _) _) _ _ _); refine wpAny_execs_cons ?_))) | (with_reducible (((with_reducible show TurnE _ _ _ _ _ _ _ _ _ _ _ _ _ _ _); dsimp only [TurnE]))) | (with_reducible ((k_here; (with_reducible show wpAny _ _ (call (Value.builtin "len") [Value.ref _]) _ _ _); refine len_tup_ints (IsTup.keeps (by assumption) (Fr.keep (by k_asm))) (by assumption) (by assumption) ?_))) | walk1); all_goals (try dsimp only)) | dsimp only))
    · (repeat' (first | (k_unfold; (try dsimp only)) | ((fail_if_success (with_reducible show wpAny _ _ (pyIter _) _ _ _)); (fail_if_success (with_reducible show wpAny _ _ (call (Value.builtin "list.append") _) _ _ _)); (fail_if_success (with_reducible show wpAny _ _ (compareOp _ (Value.ref _) (Value.ref _)) _ _ _)); (fail_if_success (with_reducible show wpAny _ _ (eval (Expr.ListComp _ _ _ _) _) _ _ _)); (fail_if_success (with_reducible show wpAny _ _ (exec (Stmt.Assign _ (Expr.ListComp _ _ _ _) _) _) _ _ _)); (first | ((with_reducible show wpAny _ _ (eval (Expr.Name _ _) (compEnvC _ _ _ _)) _ _ _); k_dflt (first | (refine' nmL ?qk1Z ?qk2Z ?_ ?qk3Z ?qk4Z ?qk5Z; (case qk3Z => rfl); (case qk4Z => rfl); (case qk5Z => decide); (case qk1Z => k_asm); (case qk2Z => rfl); k_whole) | (refine' nmC ?qk1Z ?qk2Z ?qk6Z ?_ ?qk3Z ?qk4Z ?qk5Z; (case qk3Z => rfl); (case qk4Z => rfl); (case qk5Z => decide); (case qk6Z => rfl); (case qk1Z => assumption); (case qk2Z => assumption); k_whole) | (refine' nmG ?qk1Z ?qk2Z ?_ ?qk6Z ?qk3Z ?qk4Z ?qk5Z; (case qk3Z => rfl); (case qk4Z => rfl); (case qk5Z => decide); (case qk6Z => rfl); (case qk1Z => assumption); (case qk2Z => k_is); k_whole) | (refine' nmB ?qk1Z ?qk2Z ?qk7Z ?qk8Z ?_ ?qk6Z ?qk9Z ?qk3Z ?qk4Z ?qk5Z; (case qk3Z => rfl); (case qk4Z => rfl); (case qk5Z => decide); (case qk6Z => rfl); (case qk9Z => rfl); (case qk1Z => assumption); (case qk2Z => k_is); (case qk7Z => boot_fast); (case qk8Z => decide); k_whole))) | (with_reducible (((with_reducible show wpAny _ _ (newTuple _) _ _ _); (k_here; refine newTuple_L (by k_asm) (by k_asm) ?_ (Nat.le_of_ble_eq_true rfl); intro a9 h9 F9 N9 f9 k9; (try dsimp only))))) | (with_reducible (((with_reducible show wpAny _ _ (execs (Stmt.Assign _ _ _ :: _) _) _ _ _); refine wpAny_execs_cons ?_))) | (with_reducible (((with_reducible show TurnE _ _ _ _ _ _ _ _ _ _ _ _ _ _ _); dsimp only [TurnE]))) | (with_reducible ((k_here; (with_reducible show wpAny _ _ (call (Value.builtin "len") [Value.ref _]) _ _ _); refine len_tup_ints (IsTup.keeps (by assumption) (Fr.keep (by k_asm))) (by assumption) (by assumption) ?_))) | walk1); all_goals (try dsimp only)) | dsimp only))
      rename _ = ilOf _ _ _ => e9
      rw [rangeKs_length] at e9
      exact Qint hQ (by rw [e9]; rfl) ⟨_, _, rfl, Fr.keep (by k_asm)⟩
end
/- the column that a walk sign by sign comes to -/
noncomputable def colOf (ts : Int) : List Nat → Int → Int
  | [], c => c
  | k :: r, c => if k = 32 then colOf ts r (c + 1) else if k = 9 then colOf ts r (c + (ts - c % ts)) else c
theorem sp_eq {k : Nat} {b : Bool} (h : (({ cps := #[k] } : Str) == Str.ofString " ") = b) : decide (k = 32) = b := by
  rw [← h, show Str.ofString " " = ({ cps := #[32] } : Str) from by decide +kernel]
  by_cases e : k = 32
  · subst e; decide +kernel
  · rw [decide_eq_false e]; symm; rw [beq_eq_false_iff_ne]; intro q; injection q with q; injection q with q; injection q with q; exact e q
theorem tb_eq {k : Nat} {b : Bool} (h : (({ cps := #[k] } : Str) == Str.ofString "\t") = b) : decide (k = 9) = b := by
  rw [← h, show Str.ofString "\t" = ({ cps := #[9] } : Str) from by decide +kernel]
  by_cases e : k = 9
  · subst e; decide +kernel
  · rw [decide_eq_false e]; symm; rw [beq_eq_false_iff_ne]; intro q; injection q with q; injection q with q; injection q with q; exact e q
theorem drop_at {l : List Nat} {i k : Nat} (h : l[i]? = some k) : l.drop i = k :: l.drop (i + 1) := by
  obtain ⟨hi, e⟩ := List.getElem?_eq_some_iff.mp h
  rw [List.drop_eq_getElem_cons hi, e]
section
variable {prog : Program} {w : World} {E : Value → Shared → Prop} {s : Shared}
set_option maxHeartbeats 4000000 in
theorem column_spec {x : Str} {ts : Int} {t u : Tok} (G : Gd w.params s.heap) (hts : 1 ≤ ts) {Q : Value → Shared → Prop}
    (hQ : ∀ t s', Keeps s s' → Q (.int (colOf ts x.cps.toList 0) t) s') :
    wpAny (model prog w) (ar 600 600) (call (.ref 94) [.str x t, .int ts u]) Q E s := by
  have X := G.k
  obtain ⟨p, loose, mg, mb, T⟩ := G.t
  refine' enterK (binds := [(Str.ofString "text", .str x t), (Str.ofString "size", .int ts u)]) G ?k6 ?k7 ?k8 ?k9 ?kB ?_ ?c2 ?c3 ?c4 ?c5
  (((case k6 => k_dflt k_is); (case k7 => k_dflt k_is); (case k8 => decide); (case k9 => exact BindsTo.of_eq rfl); (case kB => exact locs rfl); (case c2 => exact rfl); (case c3 => exact rfl); (case c4 => exact rfl); (case c5 => decide)))
  intro L h₁ hL F N
  k_fold
  (repeat' (first | (k_unfold; (try dsimp only)) | ((fail_if_success (with_reducible show wpAny _ _ (pyIter _) _ _ _)); (fail_if_success (with_reducible show wpAny _ _ (call (Value.builtin "list.append") _) _ _ _)); (fail_if_success (with_reducible show wpAny _ _ (compareOp _ (Value.ref _) (Value.ref _)) _ _ _)); (fail_if_success (with_reducible show wpAny _ _ (eval (Expr.ListComp _ _ _ _) _) _ _ _)); (fail_if_success (with_reducible show wpAny _ _ (exec (Stmt.Assign _ (Expr.ListComp _ _ _ _) _) _) _ _ _)); (first | ((with_reducible show wpAny _ _ (exec (Stmt.For _ _ _ _ _) _) _ _ _); k_dflt (refine For_d ?_ (fun _ => rfl))) | ((with_reducible show wpAny _ _ (eval (Expr.Name _ _) (compEnvC _ _ _ _)) _ _ _); k_dflt (first | (refine' nmL ?qk1Z ?qk2Z ?_ ?qk3Z ?qk4Z ?qk5Z; (case qk3Z => rfl); (case qk4Z => rfl); (case qk5Z => decide); (case qk1Z => k_asm); (case qk2Z => rfl); k_whole) | (refine' nmC ?qk1Z ?qk2Z ?qk6Z ?_ ?qk3Z ?qk4Z ?qk5Z; (case qk3Z => rfl); (case qk4Z => rfl); (case qk5Z => decide); (case qk6Z => rfl); (case qk1Z => assumption); (case qk2Z => assumption); k_whole) | (refine' nmG ?qk1Z ?qk2Z ?_ ?qk6Z ?qk3Z ?qk4Z ?qk5Z; (case qk3Z => rfl); (case qk4Z => rfl); (case qk5Z => decide); (case qk6Z => rfl); (case qk1Z => assumption); (case qk2Z => k_is); k_whole) | (refine' nmB ?qk1Z ?qk2Z ?qk7Z ?qk8Z ?_ ?qk6Z ?qk9Z ?qk3Z ?qk4Z ?qk5Z; (case qk3Z => rfl); (case qk4Z => rfl); (case qk5Z => decide); (case qk6Z => rfl); (case qk9Z => rfl); (case qk1Z => assumption); (case qk2Z => k_is); (case qk7Z => boot_fast); (case qk8Z => decide); k_whole))) | (with_reducible (((with_reducible show wpAny _ _ (newTuple _) _ _ _); (k_here; refine newTuple_L (by k_asm) (by k_asm) ?_ (Nat.le_of_ble_eq_true rfl); intro a9 h9 F9 N9 f9 k9; (try dsimp only))))) | (with_reducible (((with_reducible show wpAny _ _ (execs (Stmt.Assign _ _ _ :: _) _) _ _ _); refine wpAny_execs_cons ?_))) | (with_reducible (((with_reducible show TurnE _ _ _ _ _ _ _ _ _ _ _ _ _ _ _); dsimp only [TurnE]))) | (with_reducible ((k_here; (with_reducible show wpAny _ _ (call (Value.builtin "len") [Value.ref _]) _ _ _); refine len_tup_ints (IsTup.keeps (by assumption) (Fr.keep (by k_asm))) (by assumption) (by assumption) ?_))) | walk1); all_goals (try dsimp only)) | dsimp only))
  refine' forText (σ := Int × Tok) (fun _ => []) (fun c => [(Str.ofString "column", .int c.1 c.2)]) [] (fun i c _ => colOf ts x.cps.toList 0 = colOf ts (x.cps.toList.drop i) c.1 ∧ 0 ≤ c.1) (0, _) rfl rfl rfl (by k_asm) (by k_asm) ?hk (fun _ _ _ _ h _ => h) ⟨rfl, Int.le_refl _⟩ ?turn ?done
  case hk =>
    intro p hp
    rw [List.mem_singleton.mp hp]
    exact rfl
  case turn =>
    intro c i k I t' u' h tk rest hk ho hP hall hI F' N'
    obtain ⟨hP1, hP2⟩ := hP
    rw [drop_at hk, colOf] at hP1
    (repeat' (first | (k_unfold; (try dsimp only)) | ((fail_if_success (with_reducible show wpAny _ _ (pyIter _) _ _ _)); (fail_if_success (with_reducible show wpAny _ _ (call (Value.builtin "list.append") _) _ _ _)); (fail_if_success (with_reducible show wpAny _ _ (compareOp _ (Value.ref _) (Value.ref _)) _ _ _)); (fail_if_success (with_reducible show wpAny _ _ (eval (Expr.ListComp _ _ _ _) _) _ _ _)); (fail_if_success (with_reducible show wpAny _ _ (exec (Stmt.Assign _ (Expr.ListComp _ _ _ _) _) _) _ _ _)); (first | ((with_reducible show wpAny _ _ (exec (Stmt.For _ _ _ _ _) _) _ _ _); k_dflt (refine For_d ?_ (fun _ => rfl))) | ((with_reducible show wpAny _ _ (eval (Expr.Name _ _) (compEnvC _ _ _ _)) _ _ _); k_dflt (first | (refine' nmL ?qk1Z ?qk2Z ?_ ?qk3Z ?qk4Z ?qk5Z; (case qk3Z => rfl); (case qk4Z => rfl); (case qk5Z => decide); (case qk1Z => k_asm); (case qk2Z => rfl); k_whole) | (refine' nmC ?qk1Z ?qk2Z ?qk6Z ?_ ?qk3Z ?qk4Z ?qk5Z; (case qk3Z => rfl); (case qk4Z => rfl); (case qk5Z => decide); (case qk6Z => rfl); (case qk1Z => assumption); (case qk2Z => assumption); k_whole) | (refine' nmG ?qk1Z ?qk2Z ?_ ?qk6Z ?qk3Z ?qk4Z ?qk5Z; (case qk3Z => rfl); (case qk4Z => rfl); (case qk5Z => decide); (case qk6Z => rfl); (case qk1Z => assumption); (case qk2Z => k_is); k_whole) | (refine' nmB ?qk1Z ?qk2Z ?qk7Z ?qk8Z ?_ ?qk6Z ?qk9Z ?qk3Z ?qk4Z ?qk5Z; (case qk3Z => rfl); (case qk4Z => rfl); (case qk5Z => decide); (case qk6Z => rfl); (case qk9Z => rfl); (case qk1Z => assumption); (case qk2Z => k_is); (case qk7Z => boot_fast); (case qk8Z => decide); k_whole))) | (with_reducible (((with_reducible show wpAny _ _ (newTuple _) _ _ _); (k_here; refine newTuple_L (by k_asm) (by k_asm) ?_ (Nat.le_of_ble_eq_true rfl); intro a9 h9 F9 N9 f9 k9; (try dsimp only))))) | (with_reducible (((with_reducible show wpAny _ _ (execs (Stmt.Assign _ _ _ :: _) _) _ _ _); refine wpAny_execs_cons ?_))) | (with_reducible (((with_reducible show TurnE _ _ _ _ _ _ _ _ _ _ _ _ _ _ _); dsimp only [TurnE]))) | (with_reducible ((k_here; (with_reducible show wpAny _ _ (call (Value.builtin "len") [Value.ref _]) _ _ _); refine len_tup_ints (IsTup.keeps (by assumption) (Fr.keep (by k_asm))) (by assumption) (by assumption) ?_))) | walk1); all_goals (try dsimp only)) | dsimp only))
    · rename (_ == _) = true => e1
      have e1 := sp_eq e1
      rw [if_pos (by simpa using e1)] at hP1
      exact turnD0 (c.1 + 1, _) (by k_asm) (by k_asm) rfl (by intro p hp; rw [List.mem_singleton.mp hp]; exact rfl) (by intro z h1 h2 h3; have h4 := h2 _ (List.mem_singleton_self _); simp [h1, h4, kstB]) ⟨hP1, by show (0 : Int) ≤ c.1 + 1; omega⟩
    · rename (_ == Str.ofString "\t") = true => e2
      rename (_ == Str.ofString " ") = false => e1
      have e1 := sp_eq e1
      have e2 := tb_eq e2
      rw [if_neg (by simpa using e1), if_pos (by simpa using e2)] at hP1
      have e3 : c.1.fmod ts = c.1 % ts := Int.fmod_eq_emod_of_nonneg _ (by omega)
      rw [← e3] at hP1
      have e4 := Int.emod_lt_of_pos c.1 (show 0 < ts by omega)
      refine turnD0 (_, _) (by k_asm) (by k_asm) rfl (by intro p hp; rw [List.mem_singleton.mp hp]; exact rfl) (by intro z h1 h2 h3; have h4 := h2 _ (List.mem_singleton_self _); simp [h1, h4, kstB]) ⟨hP1, ?_⟩
      show (0 : Int) ≤ c.1 + (ts - c.1.fmod ts)
      omega
    · rename (_ == Str.ofString "\t") = false => e2
      rename (_ == Str.ofString " ") = false => e1
      have e1 := sp_eq e1
      have e2 := tb_eq e2
      rw [if_neg (by simpa using e1), if_neg (by simpa using e2)] at hP1
      exact Qint hQ hP1.symm ⟨_, _, rfl, Fr.keep (by k_asm)⟩
  case done =>
    intro c u' I h tk hP F' N'
    (repeat' (first | (k_unfold; (try dsimp only)) | ((fail_if_success (with_reducible show wpAny _ _ (pyIter _) _ _ _)); (fail_if_success (with_reducible show wpAny _ _ (call (Value.builtin "list.append") _) _ _ _)); (fail_if_success (with_reducible show wpAny _ _ (compareOp _ (Value.ref _) (Value.ref _)) _ _ _)); (fail_if_success (with_reducible show wpAny _ _ (eval (Expr.ListComp _ _ _ _) _) _ _ _)); (fail_if_success (with_reducible show wpAny _ _ (exec (Stmt.Assign _ (Expr.ListComp _ _ _ _) _) _) _ _ _)); (first | ((with_reducible show wpAny _ _ (exec (Stmt.For _ _ _ _ _) _) _ _ _); k_dflt (refine For_d ?_ (fun _ => rfl))) | ((with_reducible show wpAny _ _ (eval (Expr.Name _ _) (compEnvC _ _ _ _)) _ _ _); k_dflt (first | (refine' nmL ?qk1Z ?qk2Z ?_ ?qk3Z ?qk4Z ?qk5Z; (case qk3Z => rfl); (case qk4Z => rfl); (case qk5Z => decide); (case qk1Z => k_asm); (case qk2Z => rfl); k_whole) | (refine' nmC ?qk1Z ?qk2Z ?qk6Z ?_ ?qk3Z ?qk4Z ?qk5Z; (case qk3Z => rfl); (case qk4Z => rfl); (case qk5Z => decide); (case qk6Z => rfl); (case qk1Z => assumption); (case qk2Z => assumption); k_whole) | (refine' nmG ?qk1Z ?qk2Z ?_ ?qk6Z ?qk3Z ?qk4Z ?qk5Z; (case qk3Z => rfl); (case qk4Z => rfl); (case qk5Z => decide); (case qk6Z => rfl); (case qk1Z => assumption); (case qk2Z => k_is); k_whole) | (refine' nmB ?qk1Z ?qk2Z ?qk7Z ?qk8Z ?_ ?qk6Z ?qk9Z ?qk3Z ?qk4Z ?qk5Z; (case qk3Z => rfl); (case qk4Z => rfl); (case qk5Z => decide); (case qk6Z => rfl); (case qk9Z => rfl); (case qk1Z => assumption); (case qk2Z => k_is); (case qk7Z => boot_fast); (case qk8Z => decide); k_whole))) | (with_reducible (((with_reducible show wpAny _ _ (newTuple _) _ _ _); (k_here; refine newTuple_L (by k_asm) (by k_asm) ?_ (Nat.le_of_ble_eq_true rfl); intro a9 h9 F9 N9 f9 k9; (try dsimp only))))) | (with_reducible (((with_reducible show wpAny _ _ (execs (Stmt.Assign _ _ _ :: _) _) _ _ _); refine wpAny_execs_cons ?_))) | (with_reducible (((with_reducible show TurnE _ _ _ _ _ _ _ _ _ _ _ _ _ _ _); dsimp only [TurnE]))) | (with_reducible ((k_here; (with_reducible show wpAny _ _ (call (Value.builtin "len") [Value.ref _]) _ _ _); refine len_tup_ints (IsTup.keeps (by assumption) (Fr.keep (by k_asm))) (by assumption) (by assumption) ?_))) | walk1); all_goals (try dsimp only)) | dsimp only))
    exact Qint hQ (by rw [hP.1, List.drop_length, colOf]) ⟨_, _, rfl, Fr.keep (by k_asm)⟩
end
section
variable {prog : Program} {w : World} {E : Value → Shared → Prop} {s : Shared}
theorem WS.norm {h : Heap} {tn tc : Addr} {b : Int} {t4 : Tok} {vs : List Value} {cs : List Int} (a3 : IsTup h tn #[.ref tc, .int b t4]) (a4 : IsTup h tc vs.toArray) (a5 : IntsAre vs cs) : Rd h (.ref tn) (normD cs b) :=
  .tuple (vs := [.ref tc, .int b t4]) a3 (.cons (.tuple a4 (.ofInts a5)) (.cons (.int b t4) .nil))
set_option maxHeartbeats 4000000 in
theorem equal_spec {x y : Addr} {raw raw' : Str} {n nt n' nt' : Int} {cs cs' : List Int} {b b' : Int} {sm sm' : Bool} (G : Gd w.params s.heap) (W : WS s.heap x raw n nt cs b sm) (W' : WS s.heap y raw' n' nt' cs' b' sm') {Q : Value → Shared → Prop}
    (hQ : ∀ q s', (q = true ↔ cs = cs' ∧ b = b') → Keeps s s' → Q (.bool q) s') :
    wpAny (model prog w) (ar 500 500) (call (.ref 52) [.ref x, .ref y]) Q E s := by
  have X := G.k
  obtain ⟨p, loose, mg, mb, T⟩ := G.t
  obtain ⟨dx, tn, tc, kk, h1, h2, h3, h4, h5, k1, k2, k3, k4, k5, t1, t2, t3, t4, vs, a1, a2, a3, a4, a5, a6, a7, a8, a9, aA, aB⟩ := W
  obtain ⟨dx', tn', tc', kk', h1', h2', h3', h4', h5', k1', k2', k3', k4', k5', t1', t2', t3', t4', vs', b1, b2, b3, b4, b5, b6, b7, b8, b9, bA, bB⟩ := W'
  refine' enterK (binds := [(Str.ofString "self", .ref x), (Str.ofString "other", .ref y)]) G ?k6 ?k7 ?k8 ?k9 ?kB ?_ ?c2 ?c3 ?c4 ?c5
  (((case k6 => k_dflt k_is); (case k7 => k_dflt k_is); (case k8 => decide); (case k9 => exact BindsTo.of_eq rfl); (case kB => exact locs rfl); (case c2 => exact rfl); (case c3 => exact rfl); (case c4 => exact rfl); (case c5 => decide)))
  intro L h₁ hL F N
  k_fold
  (repeat' (first | (k_unfold; (try dsimp only)) | ((fail_if_success (with_reducible show wpAny _ _ (pyIter _) _ _ _)); (fail_if_success (with_reducible show wpAny _ _ (call (Value.builtin "list.append") _) _ _ _)); (fail_if_success (with_reducible show wpAny _ _ (compareOp _ (Value.ref _) (Value.ref _)) _ _ _)); (fail_if_success (with_reducible show wpAny _ _ (eval (Expr.ListComp _ _ _ _) _) _ _ _)); (fail_if_success (with_reducible show wpAny _ _ (exec (Stmt.Assign _ (Expr.ListComp _ _ _ _) _) _) _ _ _)); (first | ((with_reducible show wpAny _ _ (eval (Expr.Name _ _) (compEnvC _ _ _ _)) _ _ _); k_dflt (first | (refine' nmL ?qk1Z ?qk2Z ?_ ?qk3Z ?qk4Z ?qk5Z; (case qk3Z => rfl); (case qk4Z => rfl); (case qk5Z => decide); (case qk1Z => k_asm); (case qk2Z => rfl); k_whole) | (refine' nmC ?qk1Z ?qk2Z ?qk6Z ?_ ?qk3Z ?qk4Z ?qk5Z; (case qk3Z => rfl); (case qk4Z => rfl); (case qk5Z => decide); (case qk6Z => rfl); (case qk1Z => assumption); (case qk2Z => assumption); k_whole) | (refine' nmG ?qk1Z ?qk2Z ?_ ?qk6Z ?qk3Z ?qk4Z ?qk5Z; (case qk3Z => rfl); (case qk4Z => rfl); (case qk5Z => decide); (case qk6Z => rfl); (case qk1Z => assumption); (case qk2Z => k_is); k_whole) | (refine' nmB ?qk1Z ?qk2Z ?qk7Z ?qk8Z ?_ ?qk6Z ?qk9Z ?qk3Z ?qk4Z ?qk5Z; (case qk3Z => rfl); (case qk4Z => rfl); (case qk5Z => decide); (case qk6Z => rfl); (case qk9Z => rfl); (case qk1Z => assumption); (case qk2Z => k_is); (case qk7Z => boot_fast); (case qk8Z => decide); k_whole))) | (with_reducible (((with_reducible show wpAny _ _ (newTuple _) _ _ _); (k_here; refine newTuple_L (by k_asm) (by k_asm) ?_ (Nat.le_of_ble_eq_true rfl); intro a9 h9 F9 N9 f9 k9; (try dsimp only))))) | (with_reducible (((with_reducible show wpAny _ _ (execs (Stmt.Assign _ _ _ :: _) _) _ _ _); refine wpAny_execs_cons ?_))) | (with_reducible (((with_reducible show TurnE _ _ _ _ _ _ _ _ _ _ _ _ _ _ _); dsimp only [TurnE]))) | (with_reducible ((k_here; (with_reducible show wpAny _ _ (call (Value.builtin "len") [Value.ref _]) _ _ _); refine len_tup_ints (IsTup.keeps (by assumption) (Fr.keep (by k_asm))) (by assumption) (by assumption) ?_))) | walk1); all_goals (try dsimp only)) | dsimp only))
  refine cmp_eq (n := 8) (Rd.keeps (Fr.keep (by k_asm)) (WS.norm a3 a4 a5)) (Rd.keeps (Fr.keep (by k_asm)) (WS.norm b3 b4 b5)) (normD_ok _ _) (normD_ok _ _) (Nat.le_of_ble_eq_true rfl) ?_
  intro q hq
  (repeat' (first | (k_unfold; (try dsimp only)) | ((fail_if_success (with_reducible show wpAny _ _ (pyIter _) _ _ _)); (fail_if_success (with_reducible show wpAny _ _ (call (Value.builtin "list.append") _) _ _ _)); (fail_if_success (with_reducible show wpAny _ _ (compareOp _ (Value.ref _) (Value.ref _)) _ _ _)); (fail_if_success (with_reducible show wpAny _ _ (eval (Expr.ListComp _ _ _ _) _) _ _ _)); (fail_if_success (with_reducible show wpAny _ _ (exec (Stmt.Assign _ (Expr.ListComp _ _ _ _) _) _) _ _ _)); (first | ((with_reducible show wpAny _ _ (eval (Expr.Name _ _) (compEnvC _ _ _ _)) _ _ _); k_dflt (first | (refine' nmL ?qk1Z ?qk2Z ?_ ?qk3Z ?qk4Z ?qk5Z; (case qk3Z => rfl); (case qk4Z => rfl); (case qk5Z => decide); (case qk1Z => k_asm); (case qk2Z => rfl); k_whole) | (refine' nmC ?qk1Z ?qk2Z ?qk6Z ?_ ?qk3Z ?qk4Z ?qk5Z; (case qk3Z => rfl); (case qk4Z => rfl); (case qk5Z => decide); (case qk6Z => rfl); (case qk1Z => assumption); (case qk2Z => assumption); k_whole) | (refine' nmG ?qk1Z ?qk2Z ?_ ?qk6Z ?qk3Z ?qk4Z ?qk5Z; (case qk3Z => rfl); (case qk4Z => rfl); (case qk5Z => decide); (case qk6Z => rfl); (case qk1Z => assumption); (case qk2Z => k_is); k_whole) | (refine' nmB ?qk1Z ?qk2Z ?qk7Z ?qk8Z ?_ ?qk6Z ?qk9Z ?qk3Z ?qk4Z ?qk5Z; (case qk3Z => rfl); (case qk4Z => rfl); (case qk5Z => decide); (case qk6Z => rfl); (case qk9Z => rfl); (case qk1Z => assumption); (case qk2Z => k_is); (case qk7Z => boot_fast); (case qk8Z => decide); k_whole))) | (with_reducible (((with_reducible show wpAny _ _ (newTuple _) _ _ _); (k_here; refine newTuple_L (by k_asm) (by k_asm) ?_ (Nat.le_of_ble_eq_true rfl); intro a9 h9 F9 N9 f9 k9; (try dsimp only))))) | (with_reducible (((with_reducible show wpAny _ _ (execs (Stmt.Assign _ _ _ :: _) _) _ _ _); refine wpAny_execs_cons ?_))) | (with_reducible (((with_reducible show TurnE _ _ _ _ _ _ _ _ _ _ _ _ _ _ _); dsimp only [TurnE]))) | (with_reducible ((k_here; (with_reducible show wpAny _ _ (call (Value.builtin "len") [Value.ref _]) _ _ _); refine len_tup_ints (IsTup.keeps (by assumption) (Fr.keep (by k_asm))) (by assumption) (by assumption) ?_))) | walk1); all_goals (try dsimp only)) | dsimp only))
  exact hQ q _ (hq.trans normD_inj) ⟨_, _, rfl, Fr.keep (by k_asm)⟩
end
end
section
/- the witnesses up to a size -/
noncomputable def wit (f g : Int → Int) (rel : Int → Int → Bool) (n : Nat) : List Dat := ((rangeKs 1 n).filter fun ts => rel (f ts) (g ts)).map fun ts => .tuple [.int ts, .int (f ts), .int (g ts)]
theorem wit_succ (f g : Int → Int) (rel : Int → Int → Bool) (n : Nat) : wit f g rel (n + 1) = wit f g rel n ++ if rel (f (1 + n)) (g (1 + n)) then [.tuple [.int (1 + n), .int (f (1 + n)), .int (g (1 + n))]] else [] := by
  unfold wit
  rw [rangeKs_succ, List.filter_append, List.map_append]
  by_cases h : rel (f (1 + n)) (g (1 + n)) = true
  · simp [h]
  · simp [h]
theorem wit_length (f g : Int → Int) (rel : Int → Int → Bool) (n : Nat) : (wit f g rel n).length ≤ n := by
  unfold wit
  rw [List.length_map]
  exact Nat.le_trans (List.length_filter_le _ _) (Nat.le_of_eq (rangeKs_length _ _))
section
variable {prog : Program} {w : World} {E : Value → Shared → Prop} {s : Shared}
set_option maxHeartbeats 8000000 in
theorem notequal_spec {x y : Addr} {raw raw' : Str} {n nt n' nt' : Int} {cs cs' : List Int} {b b' : Int} {sm sm' : Bool} (G : Gd w.params s.heap) (W : WS s.heap x raw n nt cs b sm) (W' : WS s.heap y raw' n' nt' cs' b' sm') {Q : Value → Shared → Prop}
    (hQ : ∀ v s', Rd (nw s.heap [] s'.heap) v (.list (wit (lvl cs b nt) (lvl cs' b' nt') (fun p q => p != q) (max (max ((cs.length : Int) - 1) b) (max ((cs'.length : Int) - 1) b') + 1).toNat)) → Keeps s s' → Q v s') :
    wpAny (model prog w) (ar 500 500) (call (.ref 59) [.ref x, .ref y]) Q E s := by
  have X := G.k
  obtain ⟨p, loose, mg, mb, T⟩ := G.t
  have WA := W
  have WB := W'
  obtain ⟨dx, tn, tc, kk, h1, h2, h3, h4, h5, k1, k2, k3, k4, k5, t1, t2, t3, t4, vs, a1, a2, a3, a4, a5, a6, a7, a8, a9, aA, aB⟩ := W
  obtain ⟨dx', tn', tc', kk', h1', h2', h3', h4', h5', k1', k2', k3', k4', k5', t1', t2', t3', t4', vs', b1, b2, b3, b4, b5, b6, b7, b8, b9, bA, bB⟩ := W'
  refine' enterK (binds := [(Str.ofString "self", .ref x), (Str.ofString "other", .ref y)]) G ?k6 ?k7 ?k8 ?k9 ?kB ?_ ?c2 ?c3 ?c4 ?c5
  (((case k6 => k_dflt k_is); (case k7 => k_dflt k_is); (case k8 => decide); (case k9 => exact BindsTo.of_eq rfl); (case kB => exact locs rfl); (case c2 => exact rfl); (case c3 => exact rfl); (case c4 => exact rfl); (case c5 => decide)))
  intro L h₁ hL F N
  k_fold
  (repeat' (first | (k_unfold; (try dsimp only)) | ((fail_if_success (with_reducible show wpAny _ _ (pyIter _) _ _ _)); (fail_if_success (with_reducible show wpAny _ _ (call (Value.builtin "list.append") _) _ _ _)); (fail_if_success (with_reducible show wpAny _ _ (compareOp _ (Value.ref _) (Value.ref _)) _ _ _)); (fail_if_success (with_reducible show wpAny _ _ (eval (Expr.ListComp _ _ _ _) _) _ _ _)); (fail_if_success (with_reducible show wpAny _ _ (exec (Stmt.Assign _ (Expr.ListComp _ _ _ _) _) _) _ _ _)); (first | ((with_reducible show wpAny _ _ (exec (Stmt.For _ _ _ _ _) _) _ _ _); k_dflt (refine For_d ?_ (fun _ => rfl))) | ((with_reducible show wpAny _ _ (call (Value.ref 45) _) _ _ _); (try simp only [List.cons_append, List.nil_append]); (rename Fr _ _ _ _ => cF); (rename News _ _ _ _ => cN); refine' wk (indent_spec ?qgZ ?qwZ ?qlZ ?_) rfl (Nat.le_of_ble_eq_true rfl) (Nat.le_of_ble_eq_true rfl); (case qgZ => exact Gd.keeps (by assumption) (Fr.keep cF)); (case qwZ => exact WS.keeps (by assumption) (Fr.keep cF)); (case qlZ => omega); (intro t9 s9 k9; obtain ⟨h9, tk9, e9, k9⟩ := k9; subst e9; have F9 := Fr.keeps cF k9; have N9 := News.grown cN k9; clear cF cN; try dsimp only)) | ((with_reducible show wpAny _ _ (call (Value.ref 38) _) _ _ _); (try simp only [List.cons_append, List.nil_append]); (rename Fr _ _ _ _ => cF); (rename News _ _ _ _ => cN); refine' wk (longest_spec ?qgZ ?qwZ ?_) rfl (Nat.le_of_ble_eq_true rfl) (Nat.le_of_ble_eq_true rfl); (case qgZ => exact Gd.keeps (by assumption) (Fr.keep cF)); (case qwZ => exact WS.keeps (by assumption) (Fr.keep cF)); (intro t9 s9 k9; obtain ⟨h9, tk9, e9, k9⟩ := k9; subst e9; have F9 := Fr.keeps cF k9; have N9 := News.grown cN k9; clear cF cN; try dsimp only)) | ((with_reducible show wpAny _ _ (eval (Expr.Name _ _) (compEnvC _ _ _ _)) _ _ _); k_dflt (first | (refine' nmL ?qk1Z ?qk2Z ?_ ?qk3Z ?qk4Z ?qk5Z; (case qk3Z => rfl); (case qk4Z => rfl); (case qk5Z => decide); (case qk1Z => k_asm); (case qk2Z => rfl); k_whole) | (refine' nmC ?qk1Z ?qk2Z ?qk6Z ?_ ?qk3Z ?qk4Z ?qk5Z; (case qk3Z => rfl); (case qk4Z => rfl); (case qk5Z => decide); (case qk6Z => rfl); (case qk1Z => assumption); (case qk2Z => assumption); k_whole) | (refine' nmG ?qk1Z ?qk2Z ?_ ?qk6Z ?qk3Z ?qk4Z ?qk5Z; (case qk3Z => rfl); (case qk4Z => rfl); (case qk5Z => decide); (case qk6Z => rfl); (case qk1Z => assumption); (case qk2Z => k_is); k_whole) | (refine' nmB ?qk1Z ?qk2Z ?qk7Z ?qk8Z ?_ ?qk6Z ?qk9Z ?qk3Z ?qk4Z ?qk5Z; (case qk3Z => rfl); (case qk4Z => rfl); (case qk5Z => decide); (case qk6Z => rfl); (case qk9Z => rfl); (case qk1Z => assumption); (case qk2Z => k_is); (case qk7Z => boot_fast); (case qk8Z => decide); k_whole))) | (with_reducible (((with_reducible show wpAny _ _ (newTuple _) _ _ _); (k_here; refine newTuple_L (by k_asm) (by k_asm) ?_ (Nat.le_of_ble_eq_true rfl); intro a9 h9 F9 N9 f9 k9; (try dsimp only))))) | (with_reducible (((with_reducible show wpAny _ _ (execs (Stmt.Assign _ _ _ :: _) _) _ _ _); refine wpAny_execs_cons ?_))) | (with_reducible (((with_reducible show TurnE _ _ _ _ _ _ _ _ _ _ _ _ _ _ _); dsimp only [TurnE]))) | (with_reducible ((k_here; (with_reducible show wpAny _ _ (call (Value.builtin "len") [Value.ref _]) _ _ _); refine len_tup_ints (IsTup.keeps (by assumption) (Fr.keep (by k_asm))) (by assumption) (by assumption) ?_))) | walk1); all_goals (try dsimp only)) | dsimp only))
  refine' forRange (σ := List Value × Nat) (fun c => [(_, W.listOf c.1.toArray c.2)]) (fun _ => []) [] (fun i c d => RdAll d c.1 (wit (lvl cs b nt) (lvl cs' b' nt') (fun p q => p != q) i)) ([], 0) rfl (by assumption) rfl rfl (by k_asm) (by k_asm) ?hk (fun _ _ _ _ h k => RdAll.keeps k h) ?h0 ?turn ?done
  case hk => exact fun _ h => nomatch h
  case h0 => exact .nil
  case turn =>
    intro c i I t' u' h tk rest hk ho hP hall hI F' N'
    obtain ⟨oI, hI⟩ := hI
    (repeat' (first | (k_unfold; (try dsimp only)) | ((fail_if_success (with_reducible show wpAny _ _ (pyIter _) _ _ _)); (fail_if_success (with_reducible show wpAny _ _ (call (Value.builtin "list.append") _) _ _ _)); (fail_if_success (with_reducible show wpAny _ _ (compareOp _ (Value.ref _) (Value.ref _)) _ _ _)); (fail_if_success (with_reducible show wpAny _ _ (eval (Expr.ListComp _ _ _ _) _) _ _ _)); (fail_if_success (with_reducible show wpAny _ _ (exec (Stmt.Assign _ (Expr.ListComp _ _ _ _) _) _) _ _ _)); (first | ((with_reducible show wpAny _ _ (exec (Stmt.For _ _ _ _ _) _) _ _ _); k_dflt (refine For_d ?_ (fun _ => rfl))) | ((with_reducible show wpAny _ _ (call (Value.ref 45) _) _ _ _); (try simp only [List.cons_append, List.nil_append]); (rename Fr _ _ _ _ => cF); (rename News _ _ _ _ => cN); refine' wk (indent_spec ?qgZ ?qwZ ?qlZ ?_) rfl (Nat.le_of_ble_eq_true rfl) (Nat.le_of_ble_eq_true rfl); (case qgZ => exact Gd.keeps (by assumption) (Fr.keep cF)); (case qwZ => exact WS.keeps (by assumption) (Fr.keep cF)); (case qlZ => omega); (intro t9 s9 k9; obtain ⟨h9, tk9, e9, k9⟩ := k9; subst e9; have F9 := Fr.keeps cF k9; have N9 := News.grown cN k9; clear cF cN; try dsimp only)) | ((with_reducible show wpAny _ _ (call (Value.ref 38) _) _ _ _); (try simp only [List.cons_append, List.nil_append]); (rename Fr _ _ _ _ => cF); (rename News _ _ _ _ => cN); refine' wk (longest_spec ?qgZ ?qwZ ?_) rfl (Nat.le_of_ble_eq_true rfl) (Nat.le_of_ble_eq_true rfl); (case qgZ => exact Gd.keeps (by assumption) (Fr.keep cF)); (case qwZ => exact WS.keeps (by assumption) (Fr.keep cF)); (intro t9 s9 k9; obtain ⟨h9, tk9, e9, k9⟩ := k9; subst e9; have F9 := Fr.keeps cF k9; have N9 := News.grown cN k9; clear cF cN; try dsimp only)) | ((with_reducible show wpAny _ _ (eval (Expr.Name _ _) (compEnvC _ _ _ _)) _ _ _); k_dflt (first | (refine' nmL ?qk1Z ?qk2Z ?_ ?qk3Z ?qk4Z ?qk5Z; (case qk3Z => rfl); (case qk4Z => rfl); (case qk5Z => decide); (case qk1Z => k_asm); (case qk2Z => rfl); k_whole) | (refine' nmC ?qk1Z ?qk2Z ?qk6Z ?_ ?qk3Z ?qk4Z ?qk5Z; (case qk3Z => rfl); (case qk4Z => rfl); (case qk5Z => decide); (case qk6Z => rfl); (case qk1Z => assumption); (case qk2Z => assumption); k_whole) | (refine' nmG ?qk1Z ?qk2Z ?_ ?qk6Z ?qk3Z ?qk4Z ?qk5Z; (case qk3Z => rfl); (case qk4Z => rfl); (case qk5Z => decide); (case qk6Z => rfl); (case qk1Z => assumption); (case qk2Z => k_is); k_whole) | (refine' nmB ?qk1Z ?qk2Z ?qk7Z ?qk8Z ?_ ?qk6Z ?qk9Z ?qk3Z ?qk4Z ?qk5Z; (case qk3Z => rfl); (case qk4Z => rfl); (case qk5Z => decide); (case qk6Z => rfl); (case qk9Z => rfl); (case qk1Z => assumption); (case qk2Z => k_is); (case qk7Z => boot_fast); (case qk8Z => decide); k_whole))) | (with_reducible (((with_reducible show wpAny _ _ (newTuple _) _ _ _); (k_here; refine newTuple_L (by k_asm) (by k_asm) ?_ (Nat.le_of_ble_eq_true rfl); intro a9 h9 F9 N9 f9 k9; (try dsimp only))))) | (with_reducible (((with_reducible show wpAny _ _ (execs (Stmt.Assign _ _ _ :: _) _) _ _ _); refine wpAny_execs_cons ?_))) | (with_reducible (((with_reducible show TurnE _ _ _ _ _ _ _ _ _ _ _ _ _ _ _); dsimp only [TurnE]))) | (with_reducible ((k_here; (with_reducible show wpAny _ _ (call (Value.builtin "len") [Value.ref _]) _ _ _); refine len_tup_ints (IsTup.keeps (by assumption) (Fr.keep (by k_asm))) (by assumption) (by assumption) ?_))) | walk1); all_goals (try dsimp only)) | dsimp only))
    · rename ∀ p : Addr × Obj, p ∈ _ → p.1 ≠ _ => f9
      rename News _ _ _ _ => N9
      have hlen := hP.length
      have hlen2 := wit_length (lvl cs b nt) (lvl cs' b' nt') (fun p q => p != q) i
      refine append_L (by k_asm) N9 ho (f9 _ (.head _)) (by (repeat' split at hk) <;> omega) ?_
      intro h' n' F' N'
      (repeat' (first | (k_unfold; (try dsimp only)) | ((fail_if_success (with_reducible show wpAny _ _ (pyIter _) _ _ _)); (fail_if_success (with_reducible show wpAny _ _ (call (Value.builtin "list.append") _) _ _ _)); (fail_if_success (with_reducible show wpAny _ _ (compareOp _ (Value.ref _) (Value.ref _)) _ _ _)); (fail_if_success (with_reducible show wpAny _ _ (eval (Expr.ListComp _ _ _ _) _) _ _ _)); (fail_if_success (with_reducible show wpAny _ _ (exec (Stmt.Assign _ (Expr.ListComp _ _ _ _) _) _) _ _ _)); (first | ((with_reducible show wpAny _ _ (exec (Stmt.For _ _ _ _ _) _) _ _ _); k_dflt (refine For_d ?_ (fun _ => rfl))) | ((with_reducible show wpAny _ _ (call (Value.ref 45) _) _ _ _); (try simp only [List.cons_append, List.nil_append]); (rename Fr _ _ _ _ => cF); (rename News _ _ _ _ => cN); refine' wk (indent_spec ?qgZ ?qwZ ?qlZ ?_) rfl (Nat.le_of_ble_eq_true rfl) (Nat.le_of_ble_eq_true rfl); (case qgZ => exact Gd.keeps (by assumption) (Fr.keep cF)); (case qwZ => exact WS.keeps (by assumption) (Fr.keep cF)); (case qlZ => omega); (intro t9 s9 k9; obtain ⟨h9, tk9, e9, k9⟩ := k9; subst e9; have F9 := Fr.keeps cF k9; have N9 := News.grown cN k9; clear cF cN; try dsimp only)) | ((with_reducible show wpAny _ _ (call (Value.ref 38) _) _ _ _); (try simp only [List.cons_append, List.nil_append]); (rename Fr _ _ _ _ => cF); (rename News _ _ _ _ => cN); refine' wk (longest_spec ?qgZ ?qwZ ?_) rfl (Nat.le_of_ble_eq_true rfl) (Nat.le_of_ble_eq_true rfl); (case qgZ => exact Gd.keeps (by assumption) (Fr.keep cF)); (case qwZ => exact WS.keeps (by assumption) (Fr.keep cF)); (intro t9 s9 k9; obtain ⟨h9, tk9, e9, k9⟩ := k9; subst e9; have F9 := Fr.keeps cF k9; have N9 := News.grown cN k9; clear cF cN; try dsimp only)) | ((with_reducible show wpAny _ _ (eval (Expr.Name _ _) (compEnvC _ _ _ _)) _ _ _); k_dflt (first | (refine' nmL ?qk1Z ?qk2Z ?_ ?qk3Z ?qk4Z ?qk5Z; (case qk3Z => rfl); (case qk4Z => rfl); (case qk5Z => decide); (case qk1Z => k_asm); (case qk2Z => rfl); k_whole) | (refine' nmC ?qk1Z ?qk2Z ?qk6Z ?_ ?qk3Z ?qk4Z ?qk5Z; (case qk3Z => rfl); (case qk4Z => rfl); (case qk5Z => decide); (case qk6Z => rfl); (case qk1Z => assumption); (case qk2Z => assumption); k_whole) | (refine' nmG ?qk1Z ?qk2Z ?_ ?qk6Z ?qk3Z ?qk4Z ?qk5Z; (case qk3Z => rfl); (case qk4Z => rfl); (case qk5Z => decide); (case qk6Z => rfl); (case qk1Z => assumption); (case qk2Z => k_is); k_whole) | (refine' nmB ?qk1Z ?qk2Z ?qk7Z ?qk8Z ?_ ?qk6Z ?qk9Z ?qk3Z ?qk4Z ?qk5Z; (case qk3Z => rfl); (case qk4Z => rfl); (case qk5Z => decide); (case qk6Z => rfl); (case qk9Z => rfl); (case qk1Z => assumption); (case qk2Z => k_is); (case qk7Z => boot_fast); (case qk8Z => decide); k_whole))) | (with_reducible (((with_reducible show wpAny _ _ (newTuple _) _ _ _); (k_here; refine newTuple_L (by k_asm) (by k_asm) ?_ (Nat.le_of_ble_eq_true rfl); intro a9 h9 F9 N9 f9 k9; (try dsimp only))))) | (with_reducible (((with_reducible show wpAny _ _ (execs (Stmt.Assign _ _ _ :: _) _) _ _ _); refine wpAny_execs_cons ?_))) | (with_reducible (((with_reducible show TurnE _ _ _ _ _ _ _ _ _ _ _ _ _ _ _); dsimp only [TurnE]))) | (with_reducible ((k_here; (with_reducible show wpAny _ _ (call (Value.builtin "len") [Value.ref _]) _ _ _); refine len_tup_ints (IsTup.keeps (by assumption) (Fr.keep (by k_asm))) (by assumption) (by assumption) ?_))) | walk1); all_goals (try dsimp only)) | dsimp only))
      refine turnD1 (_, _) F' N' (.tail _ (.head _)) (fun p hp => .tail _ (.tail _ hp)) (by intro z h1; simp [h1, kstB]) ?_
      show RdAll _ (_ ++ [_]) (wit _ _ _ (i + 1))
      rw [wit_succ, if_pos (by simp_all)]
      have hN := N' _ (.head _)
      refine RdAll.snoc (.tuple (vs := [_, _, _]) ⟨_, nw_get.mpr ⟨hN.1, ?_, hN.2.2⟩, rfl, _, rfl⟩ (.cons (.int _ _) (.cons (.int _ _) (.cons (.int _ _) .nil)))) (hP.keeps (sub_rest hall N' fun p hp => .tail _ (.tail _ hp)))
      intro hm
      rcases List.mem_cons.mp hm with q | q
      · exact hN.2.1 q
      · rcases List.mem_cons.mp q with q | q
        · exact f9 _ (.tail _ hI) q.symm
        · exact f9 _ (.head _) (List.mem_singleton.mp q).symm
    · rename News _ _ _ _ => N9
      refine turnD1 c (by k_asm) N9 (.head _) (fun p hp => .tail _ hp) (by intro z h1; simp [h1, kstB]) ?_
      show RdAll _ _ (wit _ _ _ (i + 1))
      rw [wit_succ, if_neg (by simp_all), List.append_nil]
      exact hP.keeps (sub_rest hall N9 fun p hp => .tail _ hp)
  case done =>
    intro c u' I h tk hP F' N'
    (repeat' (first | (k_unfold; (try dsimp only)) | ((fail_if_success (with_reducible show wpAny _ _ (pyIter _) _ _ _)); (fail_if_success (with_reducible show wpAny _ _ (call (Value.builtin "list.append") _) _ _ _)); (fail_if_success (with_reducible show wpAny _ _ (compareOp _ (Value.ref _) (Value.ref _)) _ _ _)); (fail_if_success (with_reducible show wpAny _ _ (eval (Expr.ListComp _ _ _ _) _) _ _ _)); (fail_if_success (with_reducible show wpAny _ _ (exec (Stmt.Assign _ (Expr.ListComp _ _ _ _) _) _) _ _ _)); (first | ((with_reducible show wpAny _ _ (exec (Stmt.For _ _ _ _ _) _) _ _ _); k_dflt (refine For_d ?_ (fun _ => rfl))) | ((with_reducible show wpAny _ _ (call (Value.ref 45) _) _ _ _); (try simp only [List.cons_append, List.nil_append]); (rename Fr _ _ _ _ => cF); (rename News _ _ _ _ => cN); refine' wk (indent_spec ?qgZ ?qwZ ?qlZ ?_) rfl (Nat.le_of_ble_eq_true rfl) (Nat.le_of_ble_eq_true rfl); (case qgZ => exact Gd.keeps (by assumption) (Fr.keep cF)); (case qwZ => exact WS.keeps (by assumption) (Fr.keep cF)); (case qlZ => omega); (intro t9 s9 k9; obtain ⟨h9, tk9, e9, k9⟩ := k9; subst e9; have F9 := Fr.keeps cF k9; have N9 := News.grown cN k9; clear cF cN; try dsimp only)) | ((with_reducible show wpAny _ _ (call (Value.ref 38) _) _ _ _); (try simp only [List.cons_append, List.nil_append]); (rename Fr _ _ _ _ => cF); (rename News _ _ _ _ => cN); refine' wk (longest_spec ?qgZ ?qwZ ?_) rfl (Nat.le_of_ble_eq_true rfl) (Nat.le_of_ble_eq_true rfl); (case qgZ => exact Gd.keeps (by assumption) (Fr.keep cF)); (case qwZ => exact WS.keeps (by assumption) (Fr.keep cF)); (intro t9 s9 k9; obtain ⟨h9, tk9, e9, k9⟩ := k9; subst e9; have F9 := Fr.keeps cF k9; have N9 := News.grown cN k9; clear cF cN; try dsimp only)) | ((with_reducible show wpAny _ _ (eval (Expr.Name _ _) (compEnvC _ _ _ _)) _ _ _); k_dflt (first | (refine' nmL ?qk1Z ?qk2Z ?_ ?qk3Z ?qk4Z ?qk5Z; (case qk3Z => rfl); (case qk4Z => rfl); (case qk5Z => decide); (case qk1Z => k_asm); (case qk2Z => rfl); k_whole) | (refine' nmC ?qk1Z ?qk2Z ?qk6Z ?_ ?qk3Z ?qk4Z ?qk5Z; (case qk3Z => rfl); (case qk4Z => rfl); (case qk5Z => decide); (case qk6Z => rfl); (case qk1Z => assumption); (case qk2Z => assumption); k_whole) | (refine' nmG ?qk1Z ?qk2Z ?_ ?qk6Z ?qk3Z ?qk4Z ?qk5Z; (case qk3Z => rfl); (case qk4Z => rfl); (case qk5Z => decide); (case qk6Z => rfl); (case qk1Z => assumption); (case qk2Z => k_is); k_whole) | (refine' nmB ?qk1Z ?qk2Z ?qk7Z ?qk8Z ?_ ?qk6Z ?qk9Z ?qk3Z ?qk4Z ?qk5Z; (case qk3Z => rfl); (case qk4Z => rfl); (case qk5Z => decide); (case qk6Z => rfl); (case qk9Z => rfl); (case qk1Z => assumption); (case qk2Z => k_is); (case qk7Z => boot_fast); (case qk8Z => decide); k_whole))) | (with_reducible (((with_reducible show wpAny _ _ (newTuple _) _ _ _); (k_here; refine newTuple_L (by k_asm) (by k_asm) ?_ (Nat.le_of_ble_eq_true rfl); intro a9 h9 F9 N9 f9 k9; (try dsimp only))))) | (with_reducible (((with_reducible show wpAny _ _ (execs (Stmt.Assign _ _ _ :: _) _) _ _ _); refine wpAny_execs_cons ?_))) | (with_reducible (((with_reducible show TurnE _ _ _ _ _ _ _ _ _ _ _ _ _ _ _); dsimp only [TurnE]))) | (with_reducible ((k_here; (with_reducible show wpAny _ _ (call (Value.builtin "len") [Value.ref _]) _ _ _); refine len_tup_ints (IsTup.keeps (by assumption) (Fr.keep (by k_asm))) (by assumption) (by assumption) ?_))) | walk1); all_goals (try dsimp only)) | dsimp only))
    have hN := N' _ (.head _)
    refine hQ _ _ (.list ⟨_, nw_get.mpr ⟨hN.1, List.not_mem_nil, hN.2.2⟩, rfl, _, rfl⟩ ?_) ⟨_, _, rfl, Fr.keep (by k_asm)⟩
    have e := hP.keeps (nw_mono (Y := []) fun _ q => nomatch q)
    rw [show ((if max ((cs'.length : Int) - 1) b' > max ((cs.length : Int) - 1) b then max ((cs'.length : Int) - 1) b' else max ((cs.length : Int) - 1) b) + 1 + 1 - 1) = max (max ((cs.length : Int) - 1) b) (max ((cs'.length : Int) - 1) b') + 1 by split <;> omega] at e
    exact e
end
section
variable {prog : Program} {w : World} {E : Value → Shared → Prop} {s : Shared}
set_option maxHeartbeats 8000000 in
theorem notless_spec {x y : Addr} {raw raw' : Str} {n nt n' nt' : Int} {cs cs' : List Int} {b b' : Int} {sm sm' : Bool} (G : Gd w.params s.heap) (W : WS s.heap x raw n nt cs b sm) (W' : WS s.heap y raw' n' nt' cs' b' sm') {Q : Value → Shared → Prop}
    (hQ : ∀ v s', Rd (nw s.heap [] s'.heap) v (.list (wit (lvl cs b nt) (lvl cs' b' nt') (fun p q => decide (p ≥ q)) (max (max ((cs.length : Int) - 1) b) (max ((cs'.length : Int) - 1) b') + 1).toNat)) → Keeps s s' → Q v s') :
    wpAny (model prog w) (ar 500 500) (call (.ref 73) [.ref x, .ref y]) Q E s := by
  have X := G.k
  obtain ⟨p, loose, mg, mb, T⟩ := G.t
  have WA := W
  have WB := W'
  obtain ⟨dx, tn, tc, kk, h1, h2, h3, h4, h5, k1, k2, k3, k4, k5, t1, t2, t3, t4, vs, a1, a2, a3, a4, a5, a6, a7, a8, a9, aA, aB⟩ := W
  obtain ⟨dx', tn', tc', kk', h1', h2', h3', h4', h5', k1', k2', k3', k4', k5', t1', t2', t3', t4', vs', b1, b2, b3, b4, b5, b6, b7, b8, b9, bA, bB⟩ := W'
  refine' enterK (binds := [(Str.ofString "self", .ref x), (Str.ofString "other", .ref y)]) G ?k6 ?k7 ?k8 ?k9 ?kB ?_ ?c2 ?c3 ?c4 ?c5
  (((case k6 => k_dflt k_is); (case k7 => k_dflt k_is); (case k8 => decide); (case k9 => exact BindsTo.of_eq rfl); (case kB => exact locs rfl); (case c2 => exact rfl); (case c3 => exact rfl); (case c4 => exact rfl); (case c5 => decide)))
  intro L h₁ hL F N
  k_fold
  (repeat' (first | (k_unfold; (try dsimp only)) | ((fail_if_success (with_reducible show wpAny _ _ (pyIter _) _ _ _)); (fail_if_success (with_reducible show wpAny _ _ (call (Value.builtin "list.append") _) _ _ _)); (fail_if_success (with_reducible show wpAny _ _ (compareOp _ (Value.ref _) (Value.ref _)) _ _ _)); (fail_if_success (with_reducible show wpAny _ _ (eval (Expr.ListComp _ _ _ _) _) _ _ _)); (fail_if_success (with_reducible show wpAny _ _ (exec (Stmt.Assign _ (Expr.ListComp _ _ _ _) _) _) _ _ _)); (first | ((with_reducible show wpAny _ _ (exec (Stmt.For _ _ _ _ _) _) _ _ _); k_dflt (refine For_d ?_ (fun _ => rfl))) | ((with_reducible show wpAny _ _ (call (Value.ref 45) _) _ _ _); (try simp only [List.cons_append, List.nil_append]); (rename Fr _ _ _ _ => cF); (rename News _ _ _ _ => cN); refine' wk (indent_spec ?qgZ ?qwZ ?qlZ ?_) rfl (Nat.le_of_ble_eq_true rfl) (Nat.le_of_ble_eq_true rfl); (case qgZ => exact Gd.keeps (by assumption) (Fr.keep cF)); (case qwZ => exact WS.keeps (by assumption) (Fr.keep cF)); (case qlZ => omega); (intro t9 s9 k9; obtain ⟨h9, tk9, e9, k9⟩ := k9; subst e9; have F9 := Fr.keeps cF k9; have N9 := News.grown cN k9; clear cF cN; try dsimp only)) | ((with_reducible show wpAny _ _ (call (Value.ref 38) _) _ _ _); (try simp only [List.cons_append, List.nil_append]); (rename Fr _ _ _ _ => cF); (rename News _ _ _ _ => cN); refine' wk (longest_spec ?qgZ ?qwZ ?_) rfl (Nat.le_of_ble_eq_true rfl) (Nat.le_of_ble_eq_true rfl); (case qgZ => exact Gd.keeps (by assumption) (Fr.keep cF)); (case qwZ => exact WS.keeps (by assumption) (Fr.keep cF)); (intro t9 s9 k9; obtain ⟨h9, tk9, e9, k9⟩ := k9; subst e9; have F9 := Fr.keeps cF k9; have N9 := News.grown cN k9; clear cF cN; try dsimp only)) | ((with_reducible show wpAny _ _ (eval (Expr.Name _ _) (compEnvC _ _ _ _)) _ _ _); k_dflt (first | (refine' nmL ?qk1Z ?qk2Z ?_ ?qk3Z ?qk4Z ?qk5Z; (case qk3Z => rfl); (case qk4Z => rfl); (case qk5Z => decide); (case qk1Z => k_asm); (case qk2Z => rfl); k_whole) | (refine' nmC ?qk1Z ?qk2Z ?qk6Z ?_ ?qk3Z ?qk4Z ?qk5Z; (case qk3Z => rfl); (case qk4Z => rfl); (case qk5Z => decide); (case qk6Z => rfl); (case qk1Z => assumption); (case qk2Z => assumption); k_whole) | (refine' nmG ?qk1Z ?qk2Z ?_ ?qk6Z ?qk3Z ?qk4Z ?qk5Z; (case qk3Z => rfl); (case qk4Z => rfl); (case qk5Z => decide); (case qk6Z => rfl); (case qk1Z => assumption); (case qk2Z => k_is); k_whole) | (refine' nmB ?qk1Z ?qk2Z ?qk7Z ?qk8Z ?_ ?qk6Z ?qk9Z ?qk3Z ?qk4Z ?qk5Z; (case qk3Z => rfl); (case qk4Z => rfl); (case qk5Z => decide); (case qk6Z => rfl); (case qk9Z => rfl); (case qk1Z => assumption); (case qk2Z => k_is); (case qk7Z => boot_fast); (case qk8Z => decide); k_whole))) | (with_reducible (((with_reducible show wpAny _ _ (newTuple _) _ _ _); (k_here; refine newTuple_L (by k_asm) (by k_asm) ?_ (Nat.le_of_ble_eq_true rfl); intro a9 h9 F9 N9 f9 k9; (try dsimp only))))) | (with_reducible (((with_reducible show wpAny _ _ (execs (Stmt.Assign _ _ _ :: _) _) _ _ _); refine wpAny_execs_cons ?_))) | (with_reducible (((with_reducible show TurnE _ _ _ _ _ _ _ _ _ _ _ _ _ _ _); dsimp only [TurnE]))) | (with_reducible ((k_here; (with_reducible show wpAny _ _ (call (Value.builtin "len") [Value.ref _]) _ _ _); refine len_tup_ints (IsTup.keeps (by assumption) (Fr.keep (by k_asm))) (by assumption) (by assumption) ?_))) | walk1); all_goals (try dsimp only)) | dsimp only))
  refine' forRange (σ := List Value × Nat) (fun c => [(_, W.listOf c.1.toArray c.2)]) (fun _ => []) [] (fun i c d => RdAll d c.1 (wit (lvl cs b nt) (lvl cs' b' nt') (fun p q => decide (p ≥ q)) i)) ([], 0) rfl (by assumption) rfl rfl (by k_asm) (by k_asm) ?hk (fun _ _ _ _ h k => RdAll.keeps k h) ?h0 ?turn ?done
  case hk => exact fun _ h => nomatch h
  case h0 => exact .nil
  case turn =>
    intro c i I t' u' h tk rest hk ho hP hall hI F' N'
    obtain ⟨oI, hI⟩ := hI
    (repeat' (first | (k_unfold; (try dsimp only)) | ((fail_if_success (with_reducible show wpAny _ _ (pyIter _) _ _ _)); (fail_if_success (with_reducible show wpAny _ _ (call (Value.builtin "list.append") _) _ _ _)); (fail_if_success (with_reducible show wpAny _ _ (compareOp _ (Value.ref _) (Value.ref _)) _ _ _)); (fail_if_success (with_reducible show wpAny _ _ (eval (Expr.ListComp _ _ _ _) _) _ _ _)); (fail_if_success (with_reducible show wpAny _ _ (exec (Stmt.Assign _ (Expr.ListComp _ _ _ _) _) _) _ _ _)); (first | ((with_reducible show wpAny _ _ (exec (Stmt.For _ _ _ _ _) _) _ _ _); k_dflt (refine For_d ?_ (fun _ => rfl))) | ((with_reducible show wpAny _ _ (call (Value.ref 45) _) _ _ _); (try simp only [List.cons_append, List.nil_append]); (rename Fr _ _ _ _ => cF); (rename News _ _ _ _ => cN); refine' wk (indent_spec ?qgZ ?qwZ ?qlZ ?_) rfl (Nat.le_of_ble_eq_true rfl) (Nat.le_of_ble_eq_true rfl); (case qgZ => exact Gd.keeps (by assumption) (Fr.keep cF)); (case qwZ => exact WS.keeps (by assumption) (Fr.keep cF)); (case qlZ => omega); (intro t9 s9 k9; obtain ⟨h9, tk9, e9, k9⟩ := k9; subst e9; have F9 := Fr.keeps cF k9; have N9 := News.grown cN k9; clear cF cN; try dsimp only)) | ((with_reducible show wpAny _ _ (call (Value.ref 38) _) _ _ _); (try simp only [List.cons_append, List.nil_append]); (rename Fr _ _ _ _ => cF); (rename News _ _ _ _ => cN); refine' wk (longest_spec ?qgZ ?qwZ ?_) rfl (Nat.le_of_ble_eq_true rfl) (Nat.le_of_ble_eq_true rfl); (case qgZ => exact Gd.keeps (by assumption) (Fr.keep cF)); (case qwZ => exact WS.keeps (by assumption) (Fr.keep cF)); (intro t9 s9 k9; obtain ⟨h9, tk9, e9, k9⟩ := k9; subst e9; have F9 := Fr.keeps cF k9; have N9 := News.grown cN k9; clear cF cN; try dsimp only)) | ((with_reducible show wpAny _ _ (eval (Expr.Name _ _) (compEnvC _ _ _ _)) _ _ _); k_dflt (first | (refine' nmL ?qk1Z ?qk2Z ?_ ?qk3Z ?qk4Z ?qk5Z; (case qk3Z => rfl); (case qk4Z => rfl); (case qk5Z => decide); (case qk1Z => k_asm); (case qk2Z => rfl); k_whole) | (refine' nmC ?qk1Z ?qk2Z ?qk6Z ?_ ?qk3Z ?qk4Z ?qk5Z; (case qk3Z => rfl); (case qk4Z => rfl); (case qk5Z => decide); (case qk6Z => rfl); (case qk1Z => assumption); (case qk2Z => assumption); k_whole) | (refine' nmG ?qk1Z ?qk2Z ?_ ?qk6Z ?qk3Z ?qk4Z ?qk5Z; (case qk3Z => rfl); (case qk4Z => rfl); (case qk5Z => decide); (case qk6Z => rfl); (case qk1Z => assumption); (case qk2Z => k_is); k_whole) | (refine' nmB ?qk1Z ?qk2Z ?qk7Z ?qk8Z ?_ ?qk6Z ?qk9Z ?qk3Z ?qk4Z ?qk5Z; (case qk3Z => rfl); (case qk4Z => rfl); (case qk5Z => decide); (case qk6Z => rfl); (case qk9Z => rfl); (case qk1Z => assumption); (case qk2Z => k_is); (case qk7Z => boot_fast); (case qk8Z => decide); k_whole))) | (with_reducible (((with_reducible show wpAny _ _ (newTuple _) _ _ _); (k_here; refine newTuple_L (by k_asm) (by k_asm) ?_ (Nat.le_of_ble_eq_true rfl); intro a9 h9 F9 N9 f9 k9; (try dsimp only))))) | (with_reducible (((with_reducible show wpAny _ _ (execs (Stmt.Assign _ _ _ :: _) _) _ _ _); refine wpAny_execs_cons ?_))) | (with_reducible (((with_reducible show TurnE _ _ _ _ _ _ _ _ _ _ _ _ _ _ _); dsimp only [TurnE]))) | (with_reducible ((k_here; (with_reducible show wpAny _ _ (call (Value.builtin "len") [Value.ref _]) _ _ _); refine len_tup_ints (IsTup.keeps (by assumption) (Fr.keep (by k_asm))) (by assumption) (by assumption) ?_))) | walk1); all_goals (try dsimp only)) | dsimp only))
    · rename ∀ p : Addr × Obj, p ∈ _ → p.1 ≠ _ => f9
      rename News _ _ _ _ => N9
      have hlen := hP.length
      have hlen2 := wit_length (lvl cs b nt) (lvl cs' b' nt') (fun p q => decide (p ≥ q)) i
      refine append_L (by k_asm) N9 ho (f9 _ (.head _)) (by (repeat' split at hk) <;> omega) ?_
      intro h' n' F' N'
      (repeat' (first | (k_unfold; (try dsimp only)) | ((fail_if_success (with_reducible show wpAny _ _ (pyIter _) _ _ _)); (fail_if_success (with_reducible show wpAny _ _ (call (Value.builtin "list.append") _) _ _ _)); (fail_if_success (with_reducible show wpAny _ _ (compareOp _ (Value.ref _) (Value.ref _)) _ _ _)); (fail_if_success (with_reducible show wpAny _ _ (eval (Expr.ListComp _ _ _ _) _) _ _ _)); (fail_if_success (with_reducible show wpAny _ _ (exec (Stmt.Assign _ (Expr.ListComp _ _ _ _) _) _) _ _ _)); (first | ((with_reducible show wpAny _ _ (exec (Stmt.For _ _ _ _ _) _) _ _ _); k_dflt (refine For_d ?_ (fun _ => rfl))) | ((with_reducible show wpAny _ _ (call (Value.ref 45) _) _ _ _); (try simp only [List.cons_append, List.nil_append]); (rename Fr _ _ _ _ => cF); (rename News _ _ _ _ => cN); refine' wk (indent_spec ?qgZ ?qwZ ?qlZ ?_) rfl (Nat.le_of_ble_eq_true rfl) (Nat.le_of_ble_eq_true rfl); (case qgZ => exact Gd.keeps (by assumption) (Fr.keep cF)); (case qwZ => exact WS.keeps (by assumption) (Fr.keep cF)); (case qlZ => omega); (intro t9 s9 k9; obtain ⟨h9, tk9, e9, k9⟩ := k9; subst e9; have F9 := Fr.keeps cF k9; have N9 := News.grown cN k9; clear cF cN; try dsimp only)) | ((with_reducible show wpAny _ _ (call (Value.ref 38) _) _ _ _); (try simp only [List.cons_append, List.nil_append]); (rename Fr _ _ _ _ => cF); (rename News _ _ _ _ => cN); refine' wk (longest_spec ?qgZ ?qwZ ?_) rfl (Nat.le_of_ble_eq_true rfl) (Nat.le_of_ble_eq_true rfl); (case qgZ => exact Gd.keeps (by assumption) (Fr.keep cF)); (case qwZ => exact WS.keeps (by assumption) (Fr.keep cF)); (intro t9 s9 k9; obtain ⟨h9, tk9, e9, k9⟩ := k9; subst e9; have F9 := Fr.keeps cF k9; have N9 := News.grown cN k9; clear cF cN; try dsimp only)) | ((with_reducible show wpAny _ _ (eval (Expr.Name _ _) (compEnvC _ _ _ _)) _ _ _); k_dflt (first | (refine' nmL ?qk1Z ?qk2Z ?_ ?qk3Z ?qk4Z ?qk5Z; (case qk3Z => rfl); (case qk4Z => rfl); (case qk5Z => decide); (case qk1Z => k_asm); (case qk2Z => rfl); k_whole) | (refine' nmC ?qk1Z ?qk2Z ?qk6Z ?_ ?qk3Z ?qk4Z ?qk5Z; (case qk3Z => rfl); (case qk4Z => rfl); (case qk5Z => decide); (case qk6Z => rfl); (case qk1Z => assumption); (case qk2Z => assumption); k_whole) | (refine' nmG ?qk1Z ?qk2Z ?_ ?qk6Z ?qk3Z ?qk4Z ?qk5Z; (case qk3Z => rfl); (case qk4Z => rfl); (case qk5Z => decide); (case qk6Z => rfl); (case qk1Z => assumption); (case qk2Z => k_is); k_whole) | (refine' nmB ?qk1Z ?qk2Z ?qk7Z ?qk8Z ?_ ?qk6Z ?qk9Z ?qk3Z ?qk4Z ?qk5Z; (case qk3Z => rfl); (case qk4Z => rfl); (case qk5Z => decide); (case qk6Z => rfl); (case qk9Z => rfl); (case qk1Z => assumption); (case qk2Z => k_is); (case qk7Z => boot_fast); (case qk8Z => decide); k_whole))) | (with_reducible (((with_reducible show wpAny _ _ (newTuple _) _ _ _); (k_here; refine newTuple_L (by k_asm) (by k_asm) ?_ (Nat.le_of_ble_eq_true rfl); intro a9 h9 F9 N9 f9 k9; (try dsimp only))))) | (with_reducible (((with_reducible show wpAny _ _ (execs (Stmt.Assign _ _ _ :: _) _) _ _ _); refine wpAny_execs_cons ?_))) | (with_reducible (((with_reducible show TurnE _ _ _ _ _ _ _ _ _ _ _ _ _ _ _); dsimp only [TurnE]))) | (with_reducible ((k_here; (with_reducible show wpAny _ _ (call (Value.builtin "len") [Value.ref _]) _ _ _); refine len_tup_ints (IsTup.keeps (by assumption) (Fr.keep (by k_asm))) (by assumption) (by assumption) ?_))) | walk1); all_goals (try dsimp only)) | dsimp only))
      refine turnD1 (_, _) F' N' (.tail _ (.head _)) (fun p hp => .tail _ (.tail _ hp)) (by intro z h1; simp [h1, kstB]) ?_
      show RdAll _ (_ ++ [_]) (wit _ _ _ (i + 1))
      rw [wit_succ, if_pos (by simp_all)]
      have hN := N' _ (.head _)
      refine RdAll.snoc (.tuple (vs := [_, _, _]) ⟨_, nw_get.mpr ⟨hN.1, ?_, hN.2.2⟩, rfl, _, rfl⟩ (.cons (.int _ _) (.cons (.int _ _) (.cons (.int _ _) .nil)))) (hP.keeps (sub_rest hall N' fun p hp => .tail _ (.tail _ hp)))
      intro hm
      rcases List.mem_cons.mp hm with q | q
      · exact hN.2.1 q
      · rcases List.mem_cons.mp q with q | q
        · exact f9 _ (.tail _ hI) q.symm
        · exact f9 _ (.head _) (List.mem_singleton.mp q).symm
    · rename News _ _ _ _ => N9
      refine turnD1 c (by k_asm) N9 (.head _) (fun p hp => .tail _ hp) (by intro z h1; simp [h1, kstB]) ?_
      show RdAll _ _ (wit _ _ _ (i + 1))
      rw [wit_succ, if_neg (by simp_all), List.append_nil]
      exact hP.keeps (sub_rest hall N9 fun p hp => .tail _ hp)
  case done =>
    intro c u' I h tk hP F' N'
    (repeat' (first | (k_unfold; (try dsimp only)) | ((fail_if_success (with_reducible show wpAny _ _ (pyIter _) _ _ _)); (fail_if_success (with_reducible show wpAny _ _ (call (Value.builtin "list.append") _) _ _ _)); (fail_if_success (with_reducible show wpAny _ _ (compareOp _ (Value.ref _) (Value.ref _)) _ _ _)); (fail_if_success (with_reducible show wpAny _ _ (eval (Expr.ListComp _ _ _ _) _) _ _ _)); (fail_if_success (with_reducible show wpAny _ _ (exec (Stmt.Assign _ (Expr.ListComp _ _ _ _) _) _) _ _ _)); (first | ((with_reducible show wpAny _ _ (exec (Stmt.For _ _ _ _ _) _) _ _ _); k_dflt (refine For_d ?_ (fun _ => rfl))) | ((with_reducible show wpAny _ _ (call (Value.ref 45) _) _ _ _); (try simp only [List.cons_append, List.nil_append]); (rename Fr _ _ _ _ => cF); (rename News _ _ _ _ => cN); refine' wk (indent_spec ?qgZ ?qwZ ?qlZ ?_) rfl (Nat.le_of_ble_eq_true rfl) (Nat.le_of_ble_eq_true rfl); (case qgZ => exact Gd.keeps (by assumption) (Fr.keep cF)); (case qwZ => exact WS.keeps (by assumption) (Fr.keep cF)); (case qlZ => omega); (intro t9 s9 k9; obtain ⟨h9, tk9, e9, k9⟩ := k9; subst e9; have F9 := Fr.keeps cF k9; have N9 := News.grown cN k9; clear cF cN; try dsimp only)) | ((with_reducible show wpAny _ _ (call (Value.ref 38) _) _ _ _); (try simp only [List.cons_append, List.nil_append]); (rename Fr _ _ _ _ => cF); (rename News _ _ _ _ => cN); refine' wk (longest_spec ?qgZ ?qwZ ?_) rfl (Nat.le_of_ble_eq_true rfl) (Nat.le_of_ble_eq_true rfl); (case qgZ => exact Gd.keeps (by assumption) (Fr.keep cF)); (case qwZ => exact WS.keeps (by assumption) (Fr.keep cF)); (intro t9 s9 k9; obtain ⟨h9, tk9, e9, k9⟩ := k9; subst e9; have F9 := Fr.keeps cF k9; have N9 := News.grown cN k9; clear cF cN; try dsimp only)) | ((with_reducible show wpAny _ _ (eval (Expr.Name _ _) (compEnvC _ _ _ _)) _ _ _); k_dflt (first | (refine' nmL ?qk1Z ?qk2Z ?_ ?qk3Z ?qk4Z ?qk5Z; (case qk3Z => rfl); (case qk4Z => rfl); (case qk5Z => decide); (case qk1Z => k_asm); (case qk2Z => rfl); k_whole) | (refine' nmC ?qk1Z ?qk2Z ?qk6Z ?_ ?qk3Z ?qk4Z ?qk5Z; (case qk3Z => rfl); (case qk4Z => rfl); (case qk5Z => decide); (case qk6Z => rfl); (case qk1Z => assumption); (case qk2Z => assumption); k_whole) | (refine' nmG ?qk1Z ?qk2Z ?_ ?qk6Z ?qk3Z ?qk4Z ?qk5Z; (case qk3Z => rfl); (case qk4Z => rfl); (case qk5Z => decide); (case qk6Z => rfl); (case qk1Z => assumption); (case qk2Z => k_is); k_whole) | (refine' nmB ?qk1Z ?qk2Z ?qk7Z ?qk8Z ?_ ?qk6Z ?qk9Z ?qk3Z ?qk4Z ?qk5Z; (case qk3Z => rfl); (case qk4Z => rfl); (case qk5Z => decide); (case qk6Z => rfl); (case qk9Z => rfl); (case qk1Z => assumption); (case qk2Z => k_is); (case qk7Z => boot_fast); (case qk8Z => decide); k_whole))) | (with_reducible (((with_reducible show wpAny _ _ (newTuple _) _ _ _); (k_here; refine newTuple_L (by k_asm) (by k_asm) ?_ (Nat.le_of_ble_eq_true rfl); intro a9 h9 F9 N9 f9 k9; (try dsimp only))))) | (with_reducible (((with_reducible show wpAny _ _ (execs (Stmt.Assign _ _ _ :: _) _) _ _ _); refine wpAny_execs_cons ?_))) | (with_reducible (((with_reducible show TurnE _ _ _ _ _ _ _ _ _ _ _ _ _ _ _); dsimp only [TurnE]))) | (with_reducible ((k_here; (with_reducible show wpAny _ _ (call (Value.builtin "len") [Value.ref _]) _ _ _); refine len_tup_ints (IsTup.keeps (by assumption) (Fr.keep (by k_asm))) (by assumption) (by assumption) ?_))) | walk1); all_goals (try dsimp only)) | dsimp only))
    have hN := N' _ (.head _)
    refine hQ _ _ (.list ⟨_, nw_get.mpr ⟨hN.1, List.not_mem_nil, hN.2.2⟩, rfl, _, rfl⟩ ?_) ⟨_, _, rfl, Fr.keep (by k_asm)⟩
    have e := hP.keeps (nw_mono (Y := []) fun _ q => nomatch q)
    rw [show ((if max ((cs'.length : Int) - 1) b' > max ((cs.length : Int) - 1) b then max ((cs'.length : Int) - 1) b' else max ((cs.length : Int) - 1) b) + 1 + 1 - 1) = max (max ((cs.length : Int) - 1) b) (max ((cs'.length : Int) - 1) b') + 1 by split <;> omega] at e
    exact e
end
section
variable {prog : Program} {w : World} {E : Value → Shared → Prop} {s : Shared}
set_option maxHeartbeats 8000000 in
theorem less_spec {x y : Addr} {raw raw' : Str} {n nt n' nt' : Int} {cs cs' : List Int} {b b' : Int} {sm sm' : Bool} (G : Gd w.params s.heap) (W : WS s.heap x raw n nt cs b sm) (W' : WS s.heap y raw' n' nt' cs' b' sm') {Q : Value → Shared → Prop}
    (hQ : ∀ (q : Bool) s', (q = true ↔ n < n' ∧ ((sm = true ∧ sm' = true ∧ nt ≤ nt') ∨ (¬ (sm = true ∧ sm' = true) ∧ ∀ ts : Int, 2 ≤ ts → ts ≤ max (max ((cs.length : Int) - 1) b) (max ((cs'.length : Int) - 1) b') + 1 → lvl cs b nt ts < lvl cs' b' nt' ts))) → Keeps s s' → Q (.bool q) s') :
    wpAny (model prog w) (ar 500 500) (call (.ref 66) [.ref x, .ref y]) Q E s := by
  have X := G.k
  obtain ⟨p, loose, mg, mb, T⟩ := G.t
  have WA := W
  have WB := W'
  obtain ⟨dx, tn, tc, kk, h1, h2, h3, h4, h5, k1, k2, k3, k4, k5, t1, t2, t3, t4, vs, a1, a2, a3, a4, a5, a6, a7, a8, a9, aA, aB⟩ := W
  obtain ⟨dx', tn', tc', kk', h1', h2', h3', h4', h5', k1', k2', k3', k4', k5', t1', t2', t3', t4', vs', b1, b2, b3, b4, b5, b6, b7, b8, b9, bA, bB⟩ := W'
  refine' enterK (binds := [(Str.ofString "self", .ref x), (Str.ofString "other", .ref y)]) G ?k6 ?k7 ?k8 ?k9 ?kB ?_ ?c2 ?c3 ?c4 ?c5
  (((case k6 => k_dflt k_is); (case k7 => k_dflt k_is); (case k8 => decide); (case k9 => exact BindsTo.of_eq rfl); (case kB => exact locs rfl); (case c2 => exact rfl); (case c3 => exact rfl); (case c4 => exact rfl); (case c5 => decide)))
  intro L h₁ hL F N
  k_fold
  (repeat' (first | (k_unfold; (try dsimp only)) | ((fail_if_success (with_reducible show wpAny _ _ (pyIter _) _ _ _)); (fail_if_success (with_reducible show wpAny _ _ (call (Value.builtin "list.append") _) _ _ _)); (fail_if_success (with_reducible show wpAny _ _ (compareOp _ (Value.ref _) (Value.ref _)) _ _ _)); (fail_if_success (with_reducible show wpAny _ _ (eval (Expr.ListComp _ _ _ _) _) _ _ _)); (fail_if_success (with_reducible show wpAny _ _ (exec (Stmt.Assign _ (Expr.ListComp _ _ _ _) _) _) _ _ _)); (first | ((with_reducible show wpAny _ _ (exec (Stmt.For _ _ _ _ _) _) _ _ _); k_dflt (refine For_d ?_ (fun _ => rfl))) | ((with_reducible show wpAny _ _ (call (Value.ref 45) _) _ _ _); (try simp only [List.cons_append, List.nil_append]); (rename Fr _ _ _ _ => cF); (rename News _ _ _ _ => cN); refine' wk (indent_spec ?qgZ ?qwZ ?qlZ ?_) rfl (Nat.le_of_ble_eq_true rfl) (Nat.le_of_ble_eq_true rfl); (case qgZ => exact Gd.keeps (by assumption) (Fr.keep cF)); (case qwZ => exact WS.keeps (by assumption) (Fr.keep cF)); (case qlZ => omega); (intro t9 s9 k9; obtain ⟨h9, tk9, e9, k9⟩ := k9; subst e9; have F9 := Fr.keeps cF k9; have N9 := News.grown cN k9; clear cF cN; try dsimp only)) | ((with_reducible show wpAny _ _ (call (Value.ref 38) _) _ _ _); (try simp only [List.cons_append, List.nil_append]); (rename Fr _ _ _ _ => cF); (rename News _ _ _ _ => cN); refine' wk (longest_spec ?qgZ ?qwZ ?_) rfl (Nat.le_of_ble_eq_true rfl) (Nat.le_of_ble_eq_true rfl); (case qgZ => exact Gd.keeps (by assumption) (Fr.keep cF)); (case qwZ => exact WS.keeps (by assumption) (Fr.keep cF)); (intro t9 s9 k9; obtain ⟨h9, tk9, e9, k9⟩ := k9; subst e9; have F9 := Fr.keeps cF k9; have N9 := News.grown cN k9; clear cF cN; try dsimp only)) | ((with_reducible show wpAny _ _ (eval (Expr.Name _ _) (compEnvC _ _ _ _)) _ _ _); k_dflt (first | (refine' nmL ?qk1Z ?qk2Z ?_ ?qk3Z ?qk4Z ?qk5Z; (case qk3Z => rfl); (case qk4Z => rfl); (case qk5Z => decide); (case qk1Z => k_asm); (case qk2Z => rfl); k_whole) | (refine' nmC ?qk1Z ?qk2Z ?qk6Z ?_ ?qk3Z ?qk4Z ?qk5Z; (case qk3Z => rfl); (case qk4Z => rfl); (case qk5Z => decide); (case qk6Z => rfl); (case qk1Z => assumption); (case qk2Z => assumption); k_whole) | (refine' nmG ?qk1Z ?qk2Z ?_ ?qk6Z ?qk3Z ?qk4Z ?qk5Z; (case qk3Z => rfl); (case qk4Z => rfl); (case qk5Z => decide); (case qk6Z => rfl); (case qk1Z => assumption); (case qk2Z => k_is); k_whole) | (refine' nmB ?qk1Z ?qk2Z ?qk7Z ?qk8Z ?_ ?qk6Z ?qk9Z ?qk3Z ?qk4Z ?qk5Z; (case qk3Z => rfl); (case qk4Z => rfl); (case qk5Z => decide); (case qk6Z => rfl); (case qk9Z => rfl); (case qk1Z => assumption); (case qk2Z => k_is); (case qk7Z => boot_fast); (case qk8Z => decide); k_whole))) | (with_reducible (((with_reducible show wpAny _ _ (newTuple _) _ _ _); (k_here; refine newTuple_L (by k_asm) (by k_asm) ?_ (Nat.le_of_ble_eq_true rfl); intro a9 h9 F9 N9 f9 k9; (try dsimp only))))) | (with_reducible (((with_reducible show wpAny _ _ (execs (Stmt.Assign _ _ _ :: _) _) _ _ _); refine wpAny_execs_cons ?_))) | (with_reducible (((with_reducible show TurnE _ _ _ _ _ _ _ _ _ _ _ _ _ _ _); dsimp only [TurnE]))) | (with_reducible ((k_here; (with_reducible show wpAny _ _ (call (Value.builtin "len") [Value.ref _]) _ _ _); refine len_tup_ints (IsTup.keeps (by assumption) (Fr.keep (by k_asm))) (by assumption) (by assumption) ?_))) | walk1); all_goals (try dsimp only)) | dsimp only))
  · exact hQ false _ ⟨fun h => (nomatch h), fun h => absurd h.1 (by omega)⟩ ⟨_, _, rfl, Fr.keep (by k_asm)⟩
  · exact hQ _ _ ⟨fun h => ⟨by omega, .inl ⟨by assumption, by assumption, by simpa using h⟩⟩, fun h => by
      rcases h.2 with q | q
      · simpa using q.2.2
      · exact absurd ⟨by assumption, by assumption⟩ q.1⟩ ⟨_, _, rfl, Fr.keep (by k_asm)⟩
  all_goals (
    have hns : ¬ (sm = true ∧ sm' = true) := by simp_all
    refine' forRange (σ := Unit) (fun _ => []) (fun _ => []) [] (fun i _ _ => ∀ j : Nat, j < i → lvl cs b nt (2 + j) < lvl cs' b' nt' (2 + j)) () rfl (by assumption) rfl rfl (by k_asm) (by k_asm) ?hk (fun _ _ _ _ h _ => h) ?h0 ?turn ?done
    case hk => exact fun _ h => nomatch h
    case h0 => exact fun _ h => absurd h (Nat.not_lt_zero _)
    case turn =>
      intro c i I t' u' h tk rest hk ho hP hall hI F' N'
      (repeat' (first | (k_unfold; (try dsimp only)) | ((fail_if_success (with_reducible show wpAny _ _ (pyIter _) _ _ _)); (fail_if_success (with_reducible show wpAny _ _ (call (Value.builtin "list.append") _) _ _ _)); (fail_if_success (with_reducible show wpAny _ _ (compareOp _ (Value.ref _) (Value.ref _)) _ _ _)); (fail_if_success (with_reducible show wpAny _ _ (eval (Expr.ListComp _ _ _ _) _) _ _ _)); (fail_if_success (with_reducible show wpAny _ _ (exec (Stmt.Assign _ (Expr.ListComp _ _ _ _) _) _) _ _ _)); (first | ((with_reducible show wpAny _ _ (exec (Stmt.For _ _ _ _ _) _) _ _ _); k_dflt (refine For_d ?_ (fun _ => rfl))) | ((with_reducible show wpAny _ _ (call (Value.ref 45) _) _ _ _); (try simp only [List.cons_append, List.nil_append]); (rename Fr _ _ _ _ => cF); (rename News _ _ _ _ => cN); refine' wk (indent_spec ?qgZ ?qwZ ?qlZ ?_) rfl (Nat.le_of_ble_eq_true rfl) (Nat.le_of_ble_eq_true rfl); (case qgZ => exact Gd.keeps (by assumption) (Fr.keep cF)); (case qwZ => exact WS.keeps (by assumption) (Fr.keep cF)); (case qlZ => omega); (intro t9 s9 k9; obtain ⟨h9, tk9, e9, k9⟩ := k9; subst e9; have F9 := Fr.keeps cF k9; have N9 := News.grown cN k9; clear cF cN; try dsimp only)) | ((with_reducible show wpAny _ _ (call (Value.ref 38) _) _ _ _); (try simp only [List.cons_append, List.nil_append]); (rename Fr _ _ _ _ => cF); (rename News _ _ _ _ => cN); refine' wk (longest_spec ?qgZ ?qwZ ?_) rfl (Nat.le_of_ble_eq_true rfl) (Nat.le_of_ble_eq_true rfl); (case qgZ => exact Gd.keeps (by assumption) (Fr.keep cF)); (case qwZ => exact WS.keeps (by assumption) (Fr.keep cF)); (intro t9 s9 k9; obtain ⟨h9, tk9, e9, k9⟩ := k9; subst e9; have F9 := Fr.keeps cF k9; have N9 := News.grown cN k9; clear cF cN; try dsimp only)) | ((with_reducible show wpAny _ _ (eval (Expr.Name _ _) (compEnvC _ _ _ _)) _ _ _); k_dflt (first | (refine' nmL ?qk1Z ?qk2Z ?_ ?qk3Z ?qk4Z ?qk5Z; (case qk3Z => rfl); (case qk4Z => rfl); (case qk5Z => decide); (case qk1Z => k_asm); (case qk2Z => rfl); k_whole) | (refine' nmC ?qk1Z ?qk2Z ?qk6Z ?_ ?qk3Z ?qk4Z ?qk5Z; (case qk3Z => rfl); (case qk4Z => rfl); (case qk5Z => decide); (case qk6Z => rfl); (case qk1Z => assumption); (case qk2Z => assumption); k_whole) | (refine' nmG ?qk1Z ?qk2Z ?_ ?qk6Z ?qk3Z ?qk4Z ?qk5Z; (case qk3Z => rfl); (case qk4Z => rfl); (case qk5Z => decide); (case qk6Z => rfl); (case qk1Z => assumption); (case qk2Z => k_is); k_whole) | (refine' nmB ?qk1Z ?qk2Z ?qk7Z ?qk8Z ?_ ?qk6Z ?qk9Z ?qk3Z ?qk4Z ?qk5Z; (case qk3Z => rfl); (case qk4Z => rfl); (case qk5Z => decide); (case qk6Z => rfl); (case qk9Z => rfl); (case qk1Z => assumption); (case qk2Z => k_is); (case qk7Z => boot_fast); (case qk8Z => decide); k_whole))) | (with_reducible (((with_reducible show wpAny _ _ (newTuple _) _ _ _); (k_here; refine newTuple_L (by k_asm) (by k_asm) ?_ (Nat.le_of_ble_eq_true rfl); intro a9 h9 F9 N9 f9 k9; (try dsimp only))))) | (with_reducible (((with_reducible show wpAny _ _ (execs (Stmt.Assign _ _ _ :: _) _) _ _ _); refine wpAny_execs_cons ?_))) | (with_reducible (((with_reducible show TurnE _ _ _ _ _ _ _ _ _ _ _ _ _ _ _); dsimp only [TurnE]))) | (with_reducible ((k_here; (with_reducible show wpAny _ _ (call (Value.builtin "len") [Value.ref _]) _ _ _); refine len_tup_ints (IsTup.keeps (by assumption) (Fr.keep (by k_asm))) (by assumption) (by assumption) ?_))) | walk1); all_goals (try dsimp only)) | dsimp only))
      · refine hQ false _ ⟨fun h => (nomatch h), fun h => ?_⟩ ⟨_, _, rfl, Fr.keep (by k_asm)⟩
        rcases h.2 with q | q
        · exact absurd ⟨q.1, q.2.1⟩ hns
        · have := q.2 (2 + (i : Int)) (by omega) (by (repeat' split at hk) <;> omega)
          exact absurd this (by omega)
      · refine turnD0 () (by k_asm) (by k_asm) rfl (fun _ h => (nomatch h)) (by intro z h1 _ _; simp [h1, kstB]) ?_
        intro j hj
        by_cases e : j = i
        · subst e; omega
        · exact hP j (by omega)
    case done =>
      intro c u' I h tk hP F' N'
      (repeat' (first | (k_unfold; (try dsimp only)) | ((fail_if_success (with_reducible show wpAny _ _ (pyIter _) _ _ _)); (fail_if_success (with_reducible show wpAny _ _ (call (Value.builtin "list.append") _) _ _ _)); (fail_if_success (with_reducible show wpAny _ _ (compareOp _ (Value.ref _) (Value.ref _)) _ _ _)); (fail_if_success (with_reducible show wpAny _ _ (eval (Expr.ListComp _ _ _ _) _) _ _ _)); (fail_if_success (with_reducible show wpAny _ _ (exec (Stmt.Assign _ (Expr.ListComp _ _ _ _) _) _) _ _ _)); (first | ((with_reducible show wpAny _ _ (exec (Stmt.For _ _ _ _ _) _) _ _ _); k_dflt (refine For_d ?_ (fun _ => rfl))) | ((with_reducible show wpAny _ _ (call (Value.ref 45) _) _ _ _); (try simp only [List.cons_append, List.nil_append]); (rename Fr _ _ _ _ => cF); (rename News _ _ _ _ => cN); refine' wk (indent_spec ?qgZ ?qwZ ?qlZ ?_) rfl (Nat.le_of_ble_eq_true rfl) (Nat.le_of_ble_eq_true rfl); (case qgZ => exact Gd.keeps (by assumption) (Fr.keep cF)); (case qwZ => exact WS.keeps (by assumption) (Fr.keep cF)); (case qlZ => omega); (intro t9 s9 k9; obtain ⟨h9, tk9, e9, k9⟩ := k9; subst e9; have F9 := Fr.keeps cF k9; have N9 := News.grown cN k9; clear cF cN; try dsimp only)) | ((with_reducible show wpAny _ _ (call (Value.ref 38) _) _ _ _); (try simp only [List.cons_append, List.nil_append]); (rename Fr _ _ _ _ => cF); (rename News _ _ _ _ => cN); refine' wk (longest_spec ?qgZ ?qwZ ?_) rfl (Nat.le_of_ble_eq_true rfl) (Nat.le_of_ble_eq_true rfl); (case qgZ => exact Gd.keeps (by assumption) (Fr.keep cF)); (case qwZ => exact WS.keeps (by assumption) (Fr.keep cF)); (intro t9 s9 k9; obtain ⟨h9, tk9, e9, k9⟩ := k9; subst e9; have F9 := Fr.keeps cF k9; have N9 := News.grown cN k9; clear cF cN; try dsimp only)) | ((with_reducible show wpAny _ _ (eval (Expr.Name _ _) (compEnvC _ _ _ _)) _ _ _); k_dflt (first | (refine' nmL ?qk1Z ?qk2Z ?_ ?qk3Z ?qk4Z ?qk5Z; (case qk3Z => rfl); (case qk4Z => rfl); (case qk5Z => decide); (case qk1Z => k_asm); (case qk2Z => rfl); k_whole) | (refine' nmC ?qk1Z ?qk2Z ?qk6Z ?_ ?qk3Z ?qk4Z ?qk5Z; (case qk3Z => rfl); (case qk4Z => rfl); (case qk5Z => decide); (case qk6Z => rfl); (case qk1Z => assumption); (case qk2Z => assumption); k_whole) | (refine' nmG ?qk1Z ?qk2Z ?_ ?qk6Z ?qk3Z ?qk4Z ?qk5Z; (case qk3Z => rfl); (case qk4Z => rfl); (case qk5Z => decide); (case qk6Z => rfl); (case qk1Z => assumption); (case qk2Z => k_is); k_whole) | (refine' nmB ?qk1Z ?qk2Z ?qk7Z ?qk8Z ?_ ?qk6Z ?qk9Z ?qk3Z ?qk4Z ?qk5Z; (case qk3Z => rfl); (case qk4Z => rfl); (case qk5Z => decide); (case qk6Z => rfl); (case qk9Z => rfl); (case qk1Z => assumption); (case qk2Z => k_is); (case qk7Z => boot_fast); (case qk8Z => decide); k_whole))) | (with_reducible (((with_reducible show wpAny _ _ (newTuple _) _ _ _); (k_here; refine newTuple_L (by k_asm) (by k_asm) ?_ (Nat.le_of_ble_eq_true rfl); intro a9 h9 F9 N9 f9 k9; (try dsimp only))))) | (with_reducible (((with_reducible show wpAny _ _ (execs (Stmt.Assign _ _ _ :: _) _) _ _ _); refine wpAny_execs_cons ?_))) | (with_reducible (((with_reducible show TurnE _ _ _ _ _ _ _ _ _ _ _ _ _ _ _); dsimp only [TurnE]))) | (with_reducible ((k_here; (with_reducible show wpAny _ _ (call (Value.builtin "len") [Value.ref _]) _ _ _); refine len_tup_ints (IsTup.keeps (by assumption) (Fr.keep (by k_asm))) (by assumption) (by assumption) ?_))) | walk1); all_goals (try dsimp only)) | dsimp only))
      refine hQ true _ ⟨fun _ => ⟨by omega, .inr ⟨hns, fun ts h1 h2 => ?_⟩⟩, fun _ => rfl⟩ ⟨_, _, rfl, Fr.keep (by k_asm)⟩
      have := hP (ts - 2).toNat (by (repeat' split at hP) <;> omega)
      rw [show (2 : Int) + ((ts - 2).toNat : Nat) = ts by omega] at this
      exact this)
end
end
section
/- the signs of runs of blanks, each ahead of a tab, and a last run -/
noncomputable def leadL (ns : List Int) (last : Int) : List Nat := (ns.map fun n => List.replicate n.toNat 32 ++ [9]).flatten ++ List.replicate last.toNat 32
theorem sum_le {l : List Nat} {B : Nat} (h : ∀ n ∈ l, n ≤ B) : l.sum ≤ l.length * B := by
  induction l with
  | nil => simp
  | cons a r ih =>
    have h1 := h a (.head _)
    have h2 := ih fun n hn => h n (.tail _ hn)
    rw [List.sum_cons, List.length_cons, Nat.succ_mul]; omega
theorem take_snoc {α : Type} {l : List α} {i : Nat} {a : α} (h : l[i]? = some a) : l.take (i + 1) = l.take i ++ [a] := by simp [List.take_add_one, h]
theorem ints_at {vs : List Value} {ns : List Int} (h : IntsAre vs ns) {i : Nat} {v : Value} (e : vs[i]? = some v) : ∃ n t, ns[i]? = some n ∧ v = .int n t := by
  induction h generalizing i with
  | nil => simp at e
  | cons n t _ ih => cases i with
    | zero => simp at e; exact ⟨n, t, rfl, e.symm⟩
    | succ i => simpa using ih (by simpa using e)
theorem strs_snoc' {vs : List Value} {xs : List Str} {y z : Str} {t : Tok} (h : StrsAre vs xs) (e : y = z) : StrsAre (vs ++ [.str y t]) (xs ++ [z]) := e ▸ strs_snoc h
theorem lead_len {ns : List Int} (h : ∀ n ∈ ns, 0 ≤ n ∧ n ≤ 100) : (ns.map fun n => List.replicate n.toNat 32 ++ [9]).flatten.length ≤ ns.length * 101 := by
  rw [List.length_flatten, List.map_map]
  refine Nat.le_trans (sum_le (B := 101) fun k hk => ?_) (by rw [List.length_map]; exact Nat.le_refl _)
  obtain ⟨n, hn, rfl⟩ := List.mem_map.mp hk
  have := h n hn
  simp
  omega
section
variable {prog : Program} {w : World} {E : Value → Shared → Prop} {s : Shared}
set_option maxHeartbeats 1000000 in
theorem lead_spec {l : Addr} {vs : List Value} {ns : List Int} {last : Int} {u : Tok} (G : Gd w.params s.heap) (hl : s.heap.IsList l vs.toArray) (hi : IntsAre vs ns) (hlen : ns.length ≤ 100) (hns : ∀ n ∈ ns, 0 ≤ n ∧ n ≤ 100) (h0 : 0 ≤ last) (h1 : last ≤ 100) {Q : Value → Shared → Prop}
    (hQ : ∀ t s', Keeps s s' → Q (.str (T (leadL ns last)) t) s') :
    wpAny (model prog w) (ar 600 600) (call (.ref 104) [.ref l, .int last u]) Q E s := by
  have X := G.k
  obtain ⟨p, loose, mg, mb, T⟩ := G.t
  refine' enterK (binds := [(Str.ofString "runs", .ref l), (Str.ofString "last", .int last u)]) G ?k6 ?k7 ?k8 ?k9 ?kB ?_ ?c2 ?c3 ?c4 ?c5
  (((case k6 => k_dflt k_is); (case k7 => k_dflt k_is); (case k8 => decide); (case k9 => exact BindsTo.of_eq rfl); (case kB => exact locs rfl); (case c2 => exact rfl); (case c3 => exact rfl); (case c4 => exact rfl); (case c5 => decide)))
  intro L h₁ hL F N
  k_fold
  (repeat' (first | (k_unfold; (try dsimp only)) | ((fail_if_success (with_reducible show wpAny _ _ (pyIter _) _ _ _)); (fail_if_success (with_reducible show wpAny _ _ (call (Value.builtin "list.append") _) _ _ _)); (fail_if_success (with_reducible show wpAny _ _ (compareOp _ (Value.ref _) (Value.ref _)) _ _ _)); (fail_if_success (with_reducible show wpAny _ _ (eval (Expr.ListComp _ _ _ _) _) _ _ _)); (fail_if_success (with_reducible show wpAny _ _ (exec (Stmt.Assign _ (Expr.ListComp _ _ _ _) _) _) _ _ _)); (first | (with_reducible (((with_reducible show wpAny _ _ (binaryOp _ (Value.str _ _) (Value.str _ _)) _ _ _); (refine add_S ?_ ?_; (case _ => (simp only [T_cps, lit_sp, lit_tab, List.length_append, List.length_replicate, List.length_cons, List.length_nil]; omega)); intro t9 k9; simp only [T_cps, lit_sp, lit_tab])))) | ((with_reducible show wpAny _ _ (binaryOp _ (Value.str _ _) (Value.str _ _)) _ _ _); (refine add_S ?_ ?_; (case _ => (simp only [T_cps, lit_sp, lit_tab, List.length_append, List.length_replicate, List.length_cons, List.length_nil]; omega)); intro t9 k9; simp only [T_cps, lit_sp, lit_tab])) | (with_reducible (((with_reducible show wpAny _ _ (binaryOp _ (Value.str _ _) (Value.int _ _)) _ _ _); (refine mul_S (by decide +kernel) (by omega) (by omega) ?_; intro t9 k9; try dsimp only)))) | ((with_reducible show wpAny _ _ (binaryOp _ (Value.str _ _) (Value.int _ _)) _ _ _); (refine mul_S (by decide +kernel) (by omega) (by omega) ?_; intro t9 k9; try dsimp only)) | ((with_reducible show wpAny _ _ (eval (Expr.Name _ _) (compEnvC _ _ _ _)) _ _ _); k_dflt (first | (refine' nmL ?qk1Z ?qk2Z ?_ ?qk3Z ?qk4Z ?qk5Z; (case qk3Z => rfl); (case qk4Z => rfl); (case qk5Z => decide); (case qk1Z => k_asm); (case qk2Z => rfl); k_whole) | (refine' nmC ?qk1Z ?qk2Z ?qk6Z ?_ ?qk3Z ?qk4Z ?qk5Z; (case qk3Z => rfl); (case qk4Z => rfl); (case qk5Z => decide); (case qk6Z => rfl); (case qk1Z => assumption); (case qk2Z => assumption); k_whole) | (refine' nmG ?qk1Z ?qk2Z ?_ ?qk6Z ?qk3Z ?qk4Z ?qk5Z; (case qk3Z => rfl); (case qk4Z => rfl); (case qk5Z => decide); (case qk6Z => rfl); (case qk1Z => assumption); (case qk2Z => k_is); k_whole) | (refine' nmB ?qk1Z ?qk2Z ?qk7Z ?qk8Z ?_ ?qk6Z ?qk9Z ?qk3Z ?qk4Z ?qk5Z; (case qk3Z => rfl); (case qk4Z => rfl); (case qk5Z => decide); (case qk6Z => rfl); (case qk9Z => rfl); (case qk1Z => assumption); (case qk2Z => k_is); (case qk7Z => boot_fast); (case qk8Z => decide); k_whole))) | (with_reducible (((with_reducible show wpAny _ _ (newTuple _) _ _ _); (k_here; refine newTuple_L (by k_asm) (by k_asm) ?_ (Nat.le_of_ble_eq_true rfl); intro a9 h9 F9 N9 f9 k9; (try dsimp only))))) | (with_reducible (((with_reducible show wpAny _ _ (execs (Stmt.Assign _ _ _ :: _) _) _ _ _); refine wpAny_execs_cons ?_))) | (with_reducible (((with_reducible show TurnE _ _ _ _ _ _ _ _ _ _ _ _ _ _ _); dsimp only [TurnE]))) | (with_reducible ((k_here; (with_reducible show wpAny _ _ (call (Value.builtin "len") [Value.ref _]) _ _ _); refine len_tup_ints (IsTup.keeps (by assumption) (Fr.keep (by k_asm))) (by assumption) (by assumption) ?_))) | walk1); all_goals (try dsimp only)) | dsimp only))
  refine' lcEval (cl := []) ?clos ?cell ?kind ?names ?hx ?h ?hs
  case clos => with_unfolding_all rfl
  case cell => decide
  case kind => rfl
  case names => decide
  case hx => rfl
  case hs => intro _; with_unfolding_all rfl
  (repeat' (first | (k_unfold; (try dsimp only)) | ((fail_if_success (with_reducible show wpAny _ _ (pyIter _) _ _ _)); (fail_if_success (with_reducible show wpAny _ _ (call (Value.builtin "list.append") _) _ _ _)); (fail_if_success (with_reducible show wpAny _ _ (compareOp _ (Value.ref _) (Value.ref _)) _ _ _)); (fail_if_success (with_reducible show wpAny _ _ (eval (Expr.ListComp _ _ _ _) _) _ _ _)); (fail_if_success (with_reducible show wpAny _ _ (exec (Stmt.Assign _ (Expr.ListComp _ _ _ _) _) _) _ _ _)); (first | (with_reducible (((with_reducible show wpAny _ _ (binaryOp _ (Value.str _ _) (Value.str _ _)) _ _ _); (refine add_S ?_ ?_; (case _ => (simp only [T_cps, lit_sp, lit_tab, List.length_append, List.length_replicate, List.length_cons, List.length_nil]; omega)); intro t9 k9; simp only [T_cps, lit_sp, lit_tab])))) | ((with_reducible show wpAny _ _ (binaryOp _ (Value.str _ _) (Value.str _ _)) _ _ _); (refine add_S ?_ ?_; (case _ => (simp only [T_cps, lit_sp, lit_tab, List.length_append, List.length_replicate, List.length_cons, List.length_nil]; omega)); intro t9 k9; simp only [T_cps, lit_sp, lit_tab])) | (with_reducible (((with_reducible show wpAny _ _ (binaryOp _ (Value.str _ _) (Value.int _ _)) _ _ _); (refine mul_S (by decide +kernel) (by omega) (by omega) ?_; intro t9 k9; try dsimp only)))) | ((with_reducible show wpAny _ _ (binaryOp _ (Value.str _ _) (Value.int _ _)) _ _ _); (refine mul_S (by decide +kernel) (by omega) (by omega) ?_; intro t9 k9; try dsimp only)) | ((with_reducible show wpAny _ _ (eval (Expr.Name _ _) (compEnvC _ _ _ _)) _ _ _); k_dflt (first | (refine' nmL ?qk1Z ?qk2Z ?_ ?qk3Z ?qk4Z ?qk5Z; (case qk3Z => rfl); (case qk4Z => rfl); (case qk5Z => decide); (case qk1Z => k_asm); (case qk2Z => rfl); k_whole) | (refine' nmC ?qk1Z ?qk2Z ?qk6Z ?_ ?qk3Z ?qk4Z ?qk5Z; (case qk3Z => rfl); (case qk4Z => rfl); (case qk5Z => decide); (case qk6Z => rfl); (case qk1Z => assumption); (case qk2Z => assumption); k_whole) | (refine' nmG ?qk1Z ?qk2Z ?_ ?qk6Z ?qk3Z ?qk4Z ?qk5Z; (case qk3Z => rfl); (case qk4Z => rfl); (case qk5Z => decide); (case qk6Z => rfl); (case qk1Z => assumption); (case qk2Z => k_is); k_whole) | (refine' nmB ?qk1Z ?qk2Z ?qk7Z ?qk8Z ?_ ?qk6Z ?qk9Z ?qk3Z ?qk4Z ?qk5Z; (case qk3Z => rfl); (case qk4Z => rfl); (case qk5Z => decide); (case qk6Z => rfl); (case qk9Z => rfl); (case qk1Z => assumption); (case qk2Z => k_is); (case qk7Z => boot_fast); (case qk8Z => decide); k_whole))) | (with_reducible (((with_reducible show wpAny _ _ (newTuple _) _ _ _); (k_here; refine newTuple_L (by k_asm) (by k_asm) ?_ (Nat.le_of_ble_eq_true rfl); intro a9 h9 F9 N9 f9 k9; (try dsimp only))))) | (with_reducible (((with_reducible show wpAny _ _ (execs (Stmt.Assign _ _ _ :: _) _) _ _ _); refine wpAny_execs_cons ?_))) | (with_reducible (((with_reducible show TurnE _ _ _ _ _ _ _ _ _ _ _ _ _ _ _); dsimp only [TurnE]))) | (with_reducible ((k_here; (with_reducible show wpAny _ _ (call (Value.builtin "len") [Value.ref _]) _ _ _); refine len_tup_ints (IsTup.keeps (by assumption) (Fr.keep (by k_asm))) (by assumption) (by assumption) ?_))) | walk1); all_goals (try dsimp only)) | dsimp only))
  refine src_list rfl (isList_keeps hl (Fr.keep (by k_asm))) ?_
  intro it s₂ hsrc
  refine ⟨_, _, _, fun i ys _ => StrsAre ys ((ns.take i).map fun n => Mine.T (List.replicate n.toNat 32 ++ [9])), hsrc, (by rw [hi.length]; omega), (fun _ _ _ _ h _ => h), (fun _ => .nil), LcTurn.plain ?turn, ?done⟩
  case turn =>
    intro C X i v ys s₃ m₃ E' hX hi' hv hy hR F' N'
    obtain ⟨n, t, hn, rfl⟩ := ints_at hi hv
    have hb := hns n (List.mem_of_getElem? hn)
    have hb2 : n.toNat ≤ 100 := by omega
    (repeat' (first | (k_unfold; (try dsimp only)) | ((fail_if_success (with_reducible show wpAny _ _ (pyIter _) _ _ _)); (fail_if_success (with_reducible show wpAny _ _ (call (Value.builtin "list.append") _) _ _ _)); (fail_if_success (with_reducible show wpAny _ _ (compareOp _ (Value.ref _) (Value.ref _)) _ _ _)); (fail_if_success (with_reducible show wpAny _ _ (eval (Expr.ListComp _ _ _ _) _) _ _ _)); (fail_if_success (with_reducible show wpAny _ _ (exec (Stmt.Assign _ (Expr.ListComp _ _ _ _) _) _) _ _ _)); (first | (with_reducible (((with_reducible show wpAny _ _ (binaryOp _ (Value.str _ _) (Value.str _ _)) _ _ _); (refine add_S ?_ ?_; (case _ => (simp only [T_cps, lit_sp, lit_tab, List.length_append, List.length_replicate, List.length_cons, List.length_nil]; omega)); intro t9 k9; simp only [T_cps, lit_sp, lit_tab])))) | ((with_reducible show wpAny _ _ (binaryOp _ (Value.str _ _) (Value.str _ _)) _ _ _); (refine add_S ?_ ?_; (case _ => (simp only [T_cps, lit_sp, lit_tab, List.length_append, List.length_replicate, List.length_cons, List.length_nil]; omega)); intro t9 k9; simp only [T_cps, lit_sp, lit_tab])) | (with_reducible (((with_reducible show wpAny _ _ (binaryOp _ (Value.str _ _) (Value.int _ _)) _ _ _); (refine mul_S (by decide +kernel) (by omega) (by omega) ?_; intro t9 k9; try dsimp only)))) | ((with_reducible show wpAny _ _ (binaryOp _ (Value.str _ _) (Value.int _ _)) _ _ _); (refine mul_S (by decide +kernel) (by omega) (by omega) ?_; intro t9 k9; try dsimp only)) | ((with_reducible show wpAny _ _ (eval (Expr.Name _ _) (compEnvC _ _ _ _)) _ _ _); k_dflt (first | (refine' nmL ?qk1Z ?qk2Z ?_ ?qk3Z ?qk4Z ?qk5Z; (case qk3Z => rfl); (case qk4Z => rfl); (case qk5Z => decide); (case qk1Z => k_asm); (case qk2Z => rfl); k_whole) | (refine' nmC ?qk1Z ?qk2Z ?qk6Z ?_ ?qk3Z ?qk4Z ?qk5Z; (case qk3Z => rfl); (case qk4Z => rfl); (case qk5Z => decide); (case qk6Z => rfl); (case qk1Z => assumption); (case qk2Z => assumption); k_whole) | (refine' nmG ?qk1Z ?qk2Z ?_ ?qk6Z ?qk3Z ?qk4Z ?qk5Z; (case qk3Z => rfl); (case qk4Z => rfl); (case qk5Z => decide); (case qk6Z => rfl); (case qk1Z => assumption); (case qk2Z => k_is); k_whole) | (refine' nmB ?qk1Z ?qk2Z ?qk7Z ?qk8Z ?_ ?qk6Z ?qk9Z ?qk3Z ?qk4Z ?qk5Z; (case qk3Z => rfl); (case qk4Z => rfl); (case qk5Z => decide); (case qk6Z => rfl); (case qk9Z => rfl); (case qk1Z => assumption); (case qk2Z => k_is); (case qk7Z => boot_fast); (case qk8Z => decide); k_whole))) | (with_reducible (((with_reducible show wpAny _ _ (newTuple _) _ _ _); (k_here; refine newTuple_L (by k_asm) (by k_asm) ?_ (Nat.le_of_ble_eq_true rfl); intro a9 h9 F9 N9 f9 k9; (try dsimp only))))) | (with_reducible (((with_reducible show wpAny _ _ (execs (Stmt.Assign _ _ _ :: _) _) _ _ _); refine wpAny_execs_cons ?_))) | (with_reducible (((with_reducible show TurnE _ _ _ _ _ _ _ _ _ _ _ _ _ _ _); dsimp only [TurnE]))) | (with_reducible ((k_here; (with_reducible show wpAny _ _ (call (Value.builtin "len") [Value.ref _]) _ _ _); refine len_tup_ints (IsTup.keeps (by assumption) (Fr.keep (by k_asm))) (by assumption) (by assumption) ?_))) | walk1); all_goals (try dsimp only)) | dsimp only))
    · exact ⟨_, _, rfl, fun _ _ e => e⟩
    · rw [take_snoc hn, List.map_append]
      refine strs_snoc' hR ?_
      rw [app_T, mul_T (c := 32) (by decide +kernel), T_cps, lit_tab]
  case done =>
    intro D h' tk ys hD hl' hR hk
    (repeat' (first | (k_unfold; (try dsimp only)) | ((fail_if_success (with_reducible show wpAny _ _ (pyIter _) _ _ _)); (fail_if_success (with_reducible show wpAny _ _ (call (Value.builtin "list.append") _) _ _ _)); (fail_if_success (with_reducible show wpAny _ _ (compareOp _ (Value.ref _) (Value.ref _)) _ _ _)); (fail_if_success (with_reducible show wpAny _ _ (eval (Expr.ListComp _ _ _ _) _) _ _ _)); (fail_if_success (with_reducible show wpAny _ _ (exec (Stmt.Assign _ (Expr.ListComp _ _ _ _) _) _) _ _ _)); (first | (with_reducible (((with_reducible show wpAny _ _ (binaryOp _ (Value.str _ _) (Value.str _ _)) _ _ _); (refine add_S ?_ ?_; (case _ => (simp only [T_cps, lit_sp, lit_tab, List.length_append, List.length_replicate, List.length_cons, List.length_nil]; omega)); intro t9 k9; simp only [T_cps, lit_sp, lit_tab])))) | ((with_reducible show wpAny _ _ (binaryOp _ (Value.str _ _) (Value.str _ _)) _ _ _); (refine add_S ?_ ?_; (case _ => (simp only [T_cps, lit_sp, lit_tab, List.length_append, List.length_replicate, List.length_cons, List.length_nil]; omega)); intro t9 k9; simp only [T_cps, lit_sp, lit_tab])) | (with_reducible (((with_reducible show wpAny _ _ (binaryOp _ (Value.str _ _) (Value.int _ _)) _ _ _); (refine mul_S (by decide +kernel) (by omega) (by omega) ?_; intro t9 k9; try dsimp only)))) | ((with_reducible show wpAny _ _ (binaryOp _ (Value.str _ _) (Value.int _ _)) _ _ _); (refine mul_S (by decide +kernel) (by omega) (by omega) ?_; intro t9 k9; try dsimp only)) | ((with_reducible show wpAny _ _ (eval (Expr.Name _ _) (compEnvC _ _ _ _)) _ _ _); k_dflt (first | (refine' nmL ?qk1Z ?qk2Z ?_ ?qk3Z ?qk4Z ?qk5Z; (case qk3Z => rfl); (case qk4Z => rfl); (case qk5Z => decide); (case qk1Z => k_asm); (case qk2Z => rfl); k_whole) | (refine' nmC ?qk1Z ?qk2Z ?qk6Z ?_ ?qk3Z ?qk4Z ?qk5Z; (case qk3Z => rfl); (case qk4Z => rfl); (case qk5Z => decide); (case qk6Z => rfl); (case qk1Z => assumption); (case qk2Z => assumption); k_whole) | (refine' nmG ?qk1Z ?qk2Z ?_ ?qk6Z ?qk3Z ?qk4Z ?qk5Z; (case qk3Z => rfl); (case qk4Z => rfl); (case qk5Z => decide); (case qk6Z => rfl); (case qk1Z => assumption); (case qk2Z => k_is); k_whole) | (refine' nmB ?qk1Z ?qk2Z ?qk7Z ?qk8Z ?_ ?qk6Z ?qk9Z ?qk3Z ?qk4Z ?qk5Z; (case qk3Z => rfl); (case qk4Z => rfl); (case qk5Z => decide); (case qk6Z => rfl); (case qk9Z => rfl); (case qk1Z => assumption); (case qk2Z => k_is); (case qk7Z => boot_fast); (case qk8Z => decide); k_whole))) | (with_reducible (((with_reducible show wpAny _ _ (newTuple _) _ _ _); (k_here; refine newTuple_L (by k_asm) (by k_asm) ?_ (Nat.le_of_ble_eq_true rfl); intro a9 h9 F9 N9 f9 k9; (try dsimp only))))) | (with_reducible (((with_reducible show wpAny _ _ (execs (Stmt.Assign _ _ _ :: _) _) _ _ _); refine wpAny_execs_cons ?_))) | (with_reducible (((with_reducible show TurnE _ _ _ _ _ _ _ _ _ _ _ _ _ _ _); dsimp only [TurnE]))) | (with_reducible ((k_here; (with_reducible show wpAny _ _ (call (Value.builtin "len") [Value.ref _]) _ _ _); refine len_tup_ints (IsTup.keeps (by assumption) (Fr.keep (by k_asm))) (by assumption) (by assumption) ?_))) | walk1); all_goals (try dsimp only)) | dsimp only))
    obtain ⟨nn, hl'⟩ := hl'
    rw [List.take_of_length_le (by rw [hi.length]; exact Nat.le_refl _)] at hR
    have hR2 : StrsAre ys ((ns.map fun n => List.replicate n.toNat 32 ++ [9]).map Mine.T) := by rw [List.map_map]; exact hR
    have hf := lead_len hns
    refine join_S ⟨_, hl', rfl, _, rfl⟩ hR2 ?_ ?_
    · rw [show (Str.ofString "").length = 0 from by decide +kernel, Nat.mul_zero, Nat.add_zero, List.map_map]
      have e : (fun x : Str => x.length) ∘ Mine.T = List.length := by funext l; exact T_len l
      rw [e, ← List.length_flatten]
      omega
    intro t9 k9
    rw [show Str.ofString "" = Mine.T [] from by decide +kernel, join_nil]
    have F := Fr.keeps F hk
    have N := News.grown N hk
    (repeat' (first | (k_unfold; (try dsimp only)) | ((fail_if_success (with_reducible show wpAny _ _ (pyIter _) _ _ _)); (fail_if_success (with_reducible show wpAny _ _ (call (Value.builtin "list.append") _) _ _ _)); (fail_if_success (with_reducible show wpAny _ _ (compareOp _ (Value.ref _) (Value.ref _)) _ _ _)); (fail_if_success (with_reducible show wpAny _ _ (eval (Expr.ListComp _ _ _ _) _) _ _ _)); (fail_if_success (with_reducible show wpAny _ _ (exec (Stmt.Assign _ (Expr.ListComp _ _ _ _) _) _) _ _ _)); (first | (with_reducible (((with_reducible show wpAny _ _ (binaryOp _ (Value.str _ _) (Value.str _ _)) _ _ _); (refine add_S ?_ ?_; (case _ => (simp only [T_cps, lit_sp, lit_tab, List.length_append, List.length_replicate, List.length_cons, List.length_nil]; omega)); intro t9 k9; simp only [T_cps, lit_sp, lit_tab])))) | ((with_reducible show wpAny _ _ (binaryOp _ (Value.str _ _) (Value.str _ _)) _ _ _); (refine add_S ?_ ?_; (case _ => (simp only [T_cps, lit_sp, lit_tab, List.length_append, List.length_replicate, List.length_cons, List.length_nil]; omega)); intro t9 k9; simp only [T_cps, lit_sp, lit_tab])) | (with_reducible (((with_reducible show wpAny _ _ (binaryOp _ (Value.str _ _) (Value.int _ _)) _ _ _); (refine mul_S (by decide +kernel) (by omega) (by omega) ?_; intro t9 k9; try dsimp only)))) | ((with_reducible show wpAny _ _ (binaryOp _ (Value.str _ _) (Value.int _ _)) _ _ _); (refine mul_S (by decide +kernel) (by omega) (by omega) ?_; intro t9 k9; try dsimp only)) | ((with_reducible show wpAny _ _ (eval (Expr.Name _ _) (compEnvC _ _ _ _)) _ _ _); k_dflt (first | (refine' nmL ?qk1Z ?qk2Z ?_ ?qk3Z ?qk4Z ?qk5Z; (case qk3Z => rfl); (case qk4Z => rfl); (case qk5Z => decide); (case qk1Z => k_asm); (case qk2Z => rfl); k_whole) | (refine' nmC ?qk1Z ?qk2Z ?qk6Z ?_ ?qk3Z ?qk4Z ?qk5Z; (case qk3Z => rfl); (case qk4Z => rfl); (case qk5Z => decide); (case qk6Z => rfl); (case qk1Z => assumption); (case qk2Z => assumption); k_whole) | (refine' nmG ?qk1Z ?qk2Z ?_ ?qk6Z ?qk3Z ?qk4Z ?qk5Z; (case qk3Z => rfl); (case qk4Z => rfl); (case qk5Z => decide); (case qk6Z => rfl); (case qk1Z => assumption); (case qk2Z => k_is); k_whole) | (refine' nmB ?qk1Z ?qk2Z ?qk7Z ?qk8Z ?_ ?qk6Z ?qk9Z ?qk3Z ?qk4Z ?qk5Z; (case qk3Z => rfl); (case qk4Z => rfl); (case qk5Z => decide); (case qk6Z => rfl); (case qk9Z => rfl); (case qk1Z => assumption); (case qk2Z => k_is); (case qk7Z => boot_fast); (case qk8Z => decide); k_whole))) | (with_reducible (((with_reducible show wpAny _ _ (newTuple _) _ _ _); (k_here; refine newTuple_L (by k_asm) (by k_asm) ?_ (Nat.le_of_ble_eq_true rfl); intro a9 h9 F9 N9 f9 k9; (try dsimp only))))) | (with_reducible (((with_reducible show wpAny _ _ (execs (Stmt.Assign _ _ _ :: _) _) _ _ _); refine wpAny_execs_cons ?_))) | (with_reducible (((with_reducible show TurnE _ _ _ _ _ _ _ _ _ _ _ _ _ _ _); dsimp only [TurnE]))) | (with_reducible ((k_here; (with_reducible show wpAny _ _ (call (Value.builtin "len") [Value.ref _]) _ _ _); refine len_tup_ints (IsTup.keeps (by assumption) (Fr.keep (by k_asm))) (by assumption) (by assumption) ?_))) | walk1); all_goals (try dsimp only)) | dsimp only))
    refine add_S ?_ ?_
    · rw [mul_T (c := 32) (by decide +kernel), T_cps, T_cps, List.length_replicate]
      omega
    intro t8 k8
    rw [mul_T (c := 32) (by decide +kernel), T_cps, T_cps]
    (repeat' (first | (k_unfold; (try dsimp only)) | ((fail_if_success (with_reducible show wpAny _ _ (pyIter _) _ _ _)); (fail_if_success (with_reducible show wpAny _ _ (call (Value.builtin "list.append") _) _ _ _)); (fail_if_success (with_reducible show wpAny _ _ (compareOp _ (Value.ref _) (Value.ref _)) _ _ _)); (fail_if_success (with_reducible show wpAny _ _ (eval (Expr.ListComp _ _ _ _) _) _ _ _)); (fail_if_success (with_reducible show wpAny _ _ (exec (Stmt.Assign _ (Expr.ListComp _ _ _ _) _) _) _ _ _)); (first | (with_reducible (((with_reducible show wpAny _ _ (binaryOp _ (Value.str _ _) (Value.str _ _)) _ _ _); (refine add_S ?_ ?_; (case _ => (simp only [T_cps, lit_sp, lit_tab, List.length_append, List.length_replicate, List.length_cons, List.length_nil]; omega)); intro t9 k9; simp only [T_cps, lit_sp, lit_tab])))) | ((with_reducible show wpAny _ _ (binaryOp _ (Value.str _ _) (Value.str _ _)) _ _ _); (refine add_S ?_ ?_; (case _ => (simp only [T_cps, lit_sp, lit_tab, List.length_append, List.length_replicate, List.length_cons, List.length_nil]; omega)); intro t9 k9; simp only [T_cps, lit_sp, lit_tab])) | (with_reducible (((with_reducible show wpAny _ _ (binaryOp _ (Value.str _ _) (Value.int _ _)) _ _ _); (refine mul_S (by decide +kernel) (by omega) (by omega) ?_; intro t9 k9; try dsimp only)))) | ((with_reducible show wpAny _ _ (binaryOp _ (Value.str _ _) (Value.int _ _)) _ _ _); (refine mul_S (by decide +kernel) (by omega) (by omega) ?_; intro t9 k9; try dsimp only)) | ((with_reducible show wpAny _ _ (eval (Expr.Name _ _) (compEnvC _ _ _ _)) _ _ _); k_dflt (first | (refine' nmL ?qk1Z ?qk2Z ?_ ?qk3Z ?qk4Z ?qk5Z; (case qk3Z => rfl); (case qk4Z => rfl); (case qk5Z => decide); (case qk1Z => k_asm); (case qk2Z => rfl); k_whole) | (refine' nmC ?qk1Z ?qk2Z ?qk6Z ?_ ?qk3Z ?qk4Z ?qk5Z; (case qk3Z => rfl); (case qk4Z => rfl); (case qk5Z => decide); (case qk6Z => rfl); (case qk1Z => assumption); (case qk2Z => assumption); k_whole) | (refine' nmG ?qk1Z ?qk2Z ?_ ?qk6Z ?qk3Z ?qk4Z ?qk5Z; (case qk3Z => rfl); (case qk4Z => rfl); (case qk5Z => decide); (case qk6Z => rfl); (case qk1Z => assumption); (case qk2Z => k_is); k_whole) | (refine' nmB ?qk1Z ?qk2Z ?qk7Z ?qk8Z ?_ ?qk6Z ?qk9Z ?qk3Z ?qk4Z ?qk5Z; (case qk3Z => rfl); (case qk4Z => rfl); (case qk5Z => decide); (case qk6Z => rfl); (case qk9Z => rfl); (case qk1Z => assumption); (case qk2Z => k_is); (case qk7Z => boot_fast); (case qk8Z => decide); k_whole))) | (with_reducible (((with_reducible show wpAny _ _ (newTuple _) _ _ _); (k_here; refine newTuple_L (by k_asm) (by k_asm) ?_ (Nat.le_of_ble_eq_true rfl); intro a9 h9 F9 N9 f9 k9; (try dsimp only))))) | (with_reducible (((with_reducible show wpAny _ _ (execs (Stmt.Assign _ _ _ :: _) _) _ _ _); refine wpAny_execs_cons ?_))) | (with_reducible (((with_reducible show TurnE _ _ _ _ _ _ _ _ _ _ _ _ _ _ _); dsimp only [TurnE]))) | (with_reducible ((k_here; (with_reducible show wpAny _ _ (call (Value.builtin "len") [Value.ref _]) _ _ _); refine len_tup_ints (IsTup.keeps (by assumption) (Fr.keep (by k_asm))) (by assumption) (by assumption) ?_))) | walk1); all_goals (try dsimp only)) | dsimp only))
    exact hQ _ _ ⟨_, _, rfl, Fr.keep (by k_asm)⟩
end
end
section
noncomputable def topOf (rs : List Int) : Int := rs.foldr max (-1)
theorem top_le : ∀ (rs : List Int) (x : Int), x ∈ rs → x ≤ topOf rs
  | r :: rs, x, h => by
    rcases List.mem_cons.mp h with rfl | h
    · exact Int.le_max_left _ _
    · exact Int.le_trans (top_le rs x h) (Int.le_max_right _ _)
theorem top_mem : ∀ (rs : List Int), topOf rs = -1 ∨ topOf rs ∈ rs
  | [] => .inl rfl
  | r :: rs => by
    show max r (topOf rs) = -1 ∨ max r (topOf rs) ∈ _
    rcases Int.le_total r (topOf rs) with h | h
    · rw [Int.max_eq_right h]
      rcases top_mem rs with q | q
      · exact .inl q
      · exact .inr (List.mem_cons_of_mem _ q)
    · rw [Int.max_eq_left h]; exact .inr List.mem_cons_self
theorem top_ge : ∀ (rs : List Int), -1 ≤ topOf rs
  | [] => Int.le_refl _
  | _ :: rs => Int.le_trans (top_ge rs) (Int.le_max_right _ _)
theorem top_eq {rs : List Int} {M : Int} (h1 : M ∈ rs ++ [-1]) (h2 : ∀ a, a ∈ rs ++ [-1] → a ≤ M) : M = topOf rs := by
  refine Int.le_antisymm ?_ ?_
  · rcases List.mem_append.mp h1 with q | q
    · exact top_le rs M q
    · rw [List.mem_singleton.mp q]; exact top_ge rs
  · rcases top_mem rs with q | q
    · rw [q]; exact h2 _ (List.mem_append_right _ (List.mem_singleton.mpr rfl))
    · exact h2 _ (List.mem_append_left _ q)
/- how many runs ahead of a tab have each length -/
noncomputable def cntOf (rs : List Int) : List Int := (List.range (topOf rs + 1).toNat).map fun i : Nat => ((rs.count (i : Int) : Nat) : Int)
theorem runs_bound (l : List Nat) : ∀ r ∈ runsOf l, 0 ≤ r ∧ r ≤ l.length := by
  intro r hr
  obtain ⟨p, hp, rfl⟩ := List.mem_map.mp hr
  have := splitL_len _ p hp
  have := lead_le l
  exact ⟨by (first | lia | omega), by (first | lia | omega)⟩
theorem runs_len (l : List Nat) : (runsOf l).length ≤ l.length + 1 ∧ 0 < (runsOf l).length := by
  have h1 := splitL_count (leadOf l)
  have h2 := lead_le l
  have h3 : 0 < (splitL (leadOf l)).length := List.length_pos_iff.mpr (splitL_ne _)
  rw [runsOf, List.length_map]
  (first | lia | omega)
theorem seqIndex_neg {n : Nat} (h : 0 < n) : seqIndex? (-1) n = some (n - 1) := by
  unfold seqIndex?
  simp
  (first | lia | omega)
noncomputable def aheadOf (l : List Nat) : List Int := (runsOf l).take ((runsOf l).length - 1)
noncomputable def lastOf (l : List Nat) : Int := (runsOf l).getD ((runsOf l).length - 1) 0
noncomputable def toldD (l : List Nat) : Dat := .tuple [.tuple [.int (leadOf l).length, .int (aheadOf l).length, normD (cntOf (aheadOf l)) (lastOf l), .int (topOf (runsOf l))], .bool (!Txt.contains (Mine.T (leadOf l)) (Str.ofString " \t"))]
theorem tupN {h₀ h : Heap} {L a : Addr} {news : List (Addr × Obj)} {vs : List Value} {n : Nat} {ds : List Dat} (N : News h₀ L h news) (hm : (a, ({ cls := .type "tuple", data := .seq vs.toArray n } : Obj)) ∈ news) (r : RdAll (nw h₀ [] h) vs ds) : Rd (nw h₀ [] h) (.ref a) (.tuple ds) :=
  .tuple ⟨_, nw_get.mpr ⟨(N _ hm).1, List.not_mem_nil, (N _ hm).2.2⟩, rfl, n, rfl⟩ r
section
variable {prog : Program} {w : World} {E : Value → Shared → Prop} {s : Shared}
set_option maxHeartbeats 1000000 in
theorem told_spec {l : List Nat} {u : Tok} (G : Gd w.params s.heap) (hlen : l.length ≤ 10000) {Q : Value → Shared → Prop}
    (hQ : ∀ v s', Keeps s s' → Rd (nw s.heap [] s'.heap) v (toldD l) → Q v s') :
    wpAny (model prog w) (ar 600 600) (call (.ref 99) [.str (Mine.T l) u]) Q E s := by
  have X := G.k
  have hl1 := drop_le l
  have hl2 := lead_le l
  obtain ⟨p, loose, mg, mb, TT⟩ := G.t
  refine' enterC (binds := [(Str.ofString "text", .str (Mine.T l) u)]) G ?k6 ?k7 ?k8 ?k9 ?kB ?kD ?_ ?c2 ?c3 ?c4
  case k6 => k_dflt k_is
  case k7 => k_dflt k_is
  case k8 => decide
  case k9 => exact BindsTo.of_eq rfl
  case kB => exact rfl
  case kD => decide +kernel
  case c2 => exact rfl
  case c3 => exact rfl
  case c4 => exact rfl
  intro L h₁ tk cells hL F N Y
  k_cells Y
  k_unmd
  k_fold
  (repeat' (first | (k_unfold; (try dsimp only)) | ((fail_if_success (with_reducible show wpAny _ _ (pyIter _) _ _ _)); (fail_if_success (with_reducible show wpAny _ _ (subscriptTail _ (Expr.Slice _ _ _ _) _ _) _ _ _));  (fail_if_success (with_reducible show wpAny _ _ (compareOp _ (Value.ref _) (Value.ref _)) _ _ _)); (fail_if_success (with_reducible show wpAny _ _ (eval (Expr.ListComp _ _ _ _) _) _ _ _)); (fail_if_success (with_reducible show wpAny _ _ (exec (Stmt.Assign _ (Expr.ListComp _ _ _ _) _) _) _ _ _)); (first | (with_reducible (((with_reducible show wpAny _ _ (call (Value.builtin "str.lstrip") _) _ _ _); (k_dflt (refine lstrip_S (by omega) ?_); intro t9 k9; (try dsimp only))))) | ((with_reducible show wpAny _ _ (call (Value.builtin "str.lstrip") _) _ _ _); (k_dflt (refine lstrip_S (by omega) ?_); intro t9 k9; (try dsimp only))) | (with_reducible (((with_reducible show wpAny _ _ (call (Value.builtin "str.split") _) _ _ _); ((rename Fr _ _ _ _ => cF); (rename News _ _ _ _ => cN); k_dflt (refine split_S (by omega) ?_); intro D9 vs9 s9 e9 k9 i9; obtain ⟨h9, tk9, q9, k9⟩ := k9; subst q9; have F9 := Fr.keeps cF k9; have N9 := News.grown cN k9; clear cF cN; (try dsimp only))))) | ((with_reducible show wpAny _ _ (call (Value.builtin "str.split") _) _ _ _); ((rename Fr _ _ _ _ => cF); (rename News _ _ _ _ => cN); k_dflt (refine split_S (by omega) ?_); intro D9 vs9 s9 e9 k9 i9; obtain ⟨h9, tk9, q9, k9⟩ := k9; subst q9; have F9 := Fr.keeps cF k9; have N9 := News.grown cN k9; clear cF cN; (try dsimp only))) | (with_reducible (((with_reducible show wpAny _ _ (call (Value.builtin "len") [Value.str (Mine.T _) _]) _ _ _); refine len_T (by omega) ?_))) | ((with_reducible show wpAny _ _ (eval (Expr.Name _ _) (compEnvC _ _ _ _)) _ _ _); k_dflt (first | (refine' nmL ?qk1Z ?qk2Z ?_ ?qk3Z ?qk4Z ?qk5Z; (case qk3Z => rfl); (case qk4Z => rfl); (case qk5Z => decide); (case qk1Z => k_asm); (case qk2Z => rfl); k_whole) | (refine' nmC ?qk1Z ?qk2Z ?qk6Z ?_ ?qk3Z ?qk4Z ?qk5Z; (case qk3Z => rfl); (case qk4Z => rfl); (case qk5Z => decide); (case qk6Z => rfl); (case qk1Z => assumption); (case qk2Z => assumption); k_whole) | (refine' nmG ?qk1Z ?qk2Z ?_ ?qk6Z ?qk3Z ?qk4Z ?qk5Z; (case qk3Z => rfl); (case qk4Z => rfl); (case qk5Z => decide); (case qk6Z => rfl); (case qk1Z => assumption); (case qk2Z => k_is); k_whole) | (refine' nmB ?qk1Z ?qk2Z ?qk7Z ?qk8Z ?_ ?qk6Z ?qk9Z ?qk3Z ?qk4Z ?qk5Z; (case qk3Z => rfl); (case qk4Z => rfl); (case qk5Z => decide); (case qk6Z => rfl); (case qk9Z => rfl); (case qk1Z => assumption); (case qk2Z => k_is); (case qk7Z => boot_fast); (case qk8Z => decide); k_whole))) | (with_reducible (((with_reducible show wpAny _ _ (newTuple _) _ _ _); (k_here; refine newTuple_L (by k_asm) (by k_asm) ?_ (Nat.le_of_ble_eq_true rfl); intro a9 h9 F9 N9 f9 k9; (try dsimp only))))) | (with_reducible (((with_reducible show wpAny _ _ (execs (Stmt.Assign _ _ _ :: _) _) _ _ _); refine wpAny_execs_cons ?_))) | (with_reducible (((with_reducible show TurnE _ _ _ _ _ _ _ _ _ _ _ _ _ _ _); dsimp only [TurnE]))) | (with_reducible ((k_here; (with_reducible show wpAny _ _ (call (Value.builtin "len") [Value.ref _]) _ _ _); refine len_tup_ints (IsTup.keeps (by assumption) (Fr.keep (by k_asm))) (by assumption) (by assumption) ?_))) | walk1); all_goals (try dsimp only)) | dsimp only))
  refine' slice_strN_ns (s := Shared.mk _ _ _ _ _) (by k_asm) (by k_asm) ?_ ?hs ?ht ?hz
  case hs => with_unfolding_all rfl
  case ht => intro _; with_unfolding_all rfl
  case hz => rw [T_len, sizeLine_eq]; omega
  intro h2 t2 k2 F2 N2
  rw [slice_T (by omega) (by omega), show ((l.length : Int) - ((l.dropWhile blankTab).length : Int)).toNat = l.length - (l.dropWhile blankTab).length by omega, lead_take]
  dsimp only
  (repeat' (first | (k_unfold; (try dsimp only)) | ((fail_if_success (with_reducible show wpAny _ _ (pyIter _) _ _ _)); (fail_if_success (with_reducible show wpAny _ _ (subscriptTail _ (Expr.Slice _ _ _ _) _ _) _ _ _));  (fail_if_success (with_reducible show wpAny _ _ (compareOp _ (Value.ref _) (Value.ref _)) _ _ _)); (fail_if_success (with_reducible show wpAny _ _ (eval (Expr.ListComp _ _ _ _) _) _ _ _)); (fail_if_success (with_reducible show wpAny _ _ (exec (Stmt.Assign _ (Expr.ListComp _ _ _ _) _) _) _ _ _)); (first | (with_reducible (((with_reducible show wpAny _ _ (call (Value.builtin "str.lstrip") _) _ _ _); (k_dflt (refine lstrip_S (by omega) ?_); intro t9 k9; (try dsimp only))))) | ((with_reducible show wpAny _ _ (call (Value.builtin "str.lstrip") _) _ _ _); (k_dflt (refine lstrip_S (by omega) ?_); intro t9 k9; (try dsimp only))) | (with_reducible (((with_reducible show wpAny _ _ (call (Value.builtin "str.split") _) _ _ _); ((rename Fr _ _ _ _ => cF); (rename News _ _ _ _ => cN); k_dflt (refine split_S (by omega) ?_); intro D9 vs9 s9 e9 k9 i9; obtain ⟨h9, tk9, q9, k9⟩ := k9; subst q9; have F9 := Fr.keeps cF k9; have N9 := News.grown cN k9; clear cF cN; (try dsimp only))))) | ((with_reducible show wpAny _ _ (call (Value.builtin "str.split") _) _ _ _); ((rename Fr _ _ _ _ => cF); (rename News _ _ _ _ => cN); k_dflt (refine split_S (by omega) ?_); intro D9 vs9 s9 e9 k9 i9; obtain ⟨h9, tk9, q9, k9⟩ := k9; subst q9; have F9 := Fr.keeps cF k9; have N9 := News.grown cN k9; clear cF cN; (try dsimp only))) | (with_reducible (((with_reducible show wpAny _ _ (call (Value.builtin "len") [Value.str (Mine.T _) _]) _ _ _); refine len_T (by omega) ?_))) | ((with_reducible show wpAny _ _ (eval (Expr.Name _ _) (compEnvC _ _ _ _)) _ _ _); k_dflt (first | (refine' nmL ?qk1Z ?qk2Z ?_ ?qk3Z ?qk4Z ?qk5Z; (case qk3Z => rfl); (case qk4Z => rfl); (case qk5Z => decide); (case qk1Z => k_asm); (case qk2Z => rfl); k_whole) | (refine' nmC ?qk1Z ?qk2Z ?qk6Z ?_ ?qk3Z ?qk4Z ?qk5Z; (case qk3Z => rfl); (case qk4Z => rfl); (case qk5Z => decide); (case qk6Z => rfl); (case qk1Z => assumption); (case qk2Z => assumption); k_whole) | (refine' nmG ?qk1Z ?qk2Z ?_ ?qk6Z ?qk3Z ?qk4Z ?qk5Z; (case qk3Z => rfl); (case qk4Z => rfl); (case qk5Z => decide); (case qk6Z => rfl); (case qk1Z => assumption); (case qk2Z => k_is); k_whole) | (refine' nmB ?qk1Z ?qk2Z ?qk7Z ?qk8Z ?_ ?qk6Z ?qk9Z ?qk3Z ?qk4Z ?qk5Z; (case qk3Z => rfl); (case qk4Z => rfl); (case qk5Z => decide); (case qk6Z => rfl); (case qk9Z => rfl); (case qk1Z => assumption); (case qk2Z => k_is); (case qk7Z => boot_fast); (case qk8Z => decide); k_whole))) | (with_reducible (((with_reducible show wpAny _ _ (newTuple _) _ _ _); (k_here; refine newTuple_L (by k_asm) (by k_asm) ?_ (Nat.le_of_ble_eq_true rfl); intro a9 h9 F9 N9 f9 k9; (try dsimp only))))) | (with_reducible (((with_reducible show wpAny _ _ (execs (Stmt.Assign _ _ _ :: _) _) _ _ _); refine wpAny_execs_cons ?_))) | (with_reducible (((with_reducible show TurnE _ _ _ _ _ _ _ _ _ _ _ _ _ _ _); dsimp only [TurnE]))) | (with_reducible ((k_here; (with_reducible show wpAny _ _ (call (Value.builtin "len") [Value.ref _]) _ _ _); refine len_tup_ints (IsTup.keeps (by assumption) (Fr.keep (by k_asm))) (by assumption) (by assumption) ?_))) | walk1); all_goals (try dsimp only)) | dsimp only))
  refine' lcAssign (cl := []) ?sw ?clos ?cell ?kind ?names ?hx ?hy ?hp ?h ?hs
  case sw => with_unfolding_all rfl
  case clos => with_unfolding_all rfl
  case cell => decide
  case kind => rfl
  case names => decide
  case hx => rfl
  case hy => rfl
  case hp => rfl
  case hs => intro _; with_unfolding_all rfl
  (repeat' (first | (k_unfold; (try dsimp only)) | ((fail_if_success (with_reducible show wpAny _ _ (pyIter _) _ _ _)); (fail_if_success (with_reducible show wpAny _ _ (subscriptTail _ (Expr.Slice _ _ _ _) _ _) _ _ _));  (fail_if_success (with_reducible show wpAny _ _ (compareOp _ (Value.ref _) (Value.ref _)) _ _ _)); (fail_if_success (with_reducible show wpAny _ _ (eval (Expr.ListComp _ _ _ _) _) _ _ _)); (fail_if_success (with_reducible show wpAny _ _ (exec (Stmt.Assign _ (Expr.ListComp _ _ _ _) _) _) _ _ _)); (first | (with_reducible (((with_reducible show wpAny _ _ (call (Value.builtin "str.lstrip") _) _ _ _); (k_dflt (refine lstrip_S (by omega) ?_); intro t9 k9; (try dsimp only))))) | ((with_reducible show wpAny _ _ (call (Value.builtin "str.lstrip") _) _ _ _); (k_dflt (refine lstrip_S (by omega) ?_); intro t9 k9; (try dsimp only))) | (with_reducible (((with_reducible show wpAny _ _ (call (Value.builtin "str.split") _) _ _ _); ((rename Fr _ _ _ _ => cF); (rename News _ _ _ _ => cN); k_dflt (refine split_S (by omega) ?_); intro D9 vs9 s9 e9 k9 i9; obtain ⟨h9, tk9, q9, k9⟩ := k9; subst q9; have F9 := Fr.keeps cF k9; have N9 := News.grown cN k9; clear cF cN; (try dsimp only))))) | ((with_reducible show wpAny _ _ (call (Value.builtin "str.split") _) _ _ _); ((rename Fr _ _ _ _ => cF); (rename News _ _ _ _ => cN); k_dflt (refine split_S (by omega) ?_); intro D9 vs9 s9 e9 k9 i9; obtain ⟨h9, tk9, q9, k9⟩ := k9; subst q9; have F9 := Fr.keeps cF k9; have N9 := News.grown cN k9; clear cF cN; (try dsimp only))) | (with_reducible (((with_reducible show wpAny _ _ (call (Value.builtin "len") [Value.str (Mine.T _) _]) _ _ _); refine len_T (by omega) ?_))) | ((with_reducible show wpAny _ _ (eval (Expr.Name _ _) (compEnvC _ _ _ _)) _ _ _); k_dflt (first | (refine' nmL ?qk1Z ?qk2Z ?_ ?qk3Z ?qk4Z ?qk5Z; (case qk3Z => rfl); (case qk4Z => rfl); (case qk5Z => decide); (case qk1Z => k_asm); (case qk2Z => rfl); k_whole) | (refine' nmC ?qk1Z ?qk2Z ?qk6Z ?_ ?qk3Z ?qk4Z ?qk5Z; (case qk3Z => rfl); (case qk4Z => rfl); (case qk5Z => decide); (case qk6Z => rfl); (case qk1Z => assumption); (case qk2Z => assumption); k_whole) | (refine' nmG ?qk1Z ?qk2Z ?_ ?qk6Z ?qk3Z ?qk4Z ?qk5Z; (case qk3Z => rfl); (case qk4Z => rfl); (case qk5Z => decide); (case qk6Z => rfl); (case qk1Z => assumption); (case qk2Z => k_is); k_whole) | (refine' nmB ?qk1Z ?qk2Z ?qk7Z ?qk8Z ?_ ?qk6Z ?qk9Z ?qk3Z ?qk4Z ?qk5Z; (case qk3Z => rfl); (case qk4Z => rfl); (case qk5Z => decide); (case qk6Z => rfl); (case qk9Z => rfl); (case qk1Z => assumption); (case qk2Z => k_is); (case qk7Z => boot_fast); (case qk8Z => decide); k_whole))) | (with_reducible (((with_reducible show wpAny _ _ (newTuple _) _ _ _); (k_here; refine newTuple_L (by k_asm) (by k_asm) ?_ (Nat.le_of_ble_eq_true rfl); intro a9 h9 F9 N9 f9 k9; (try dsimp only))))) | (with_reducible (((with_reducible show wpAny _ _ (execs (Stmt.Assign _ _ _ :: _) _) _ _ _); refine wpAny_execs_cons ?_))) | (with_reducible (((with_reducible show TurnE _ _ _ _ _ _ _ _ _ _ _ _ _ _ _); dsimp only [TurnE]))) | (with_reducible ((k_here; (with_reducible show wpAny _ _ (call (Value.builtin "len") [Value.ref _]) _ _ _); refine len_tup_ints (IsTup.keeps (by assumption) (Fr.keep (by k_asm))) (by assumption) (by assumption) ?_))) | walk1); all_goals (try dsimp only)) | dsimp only))
  rename StrsAre _ _ => hS
  rename Heap.IsList _ _ _ => hI9
  rename Fr _ _ _ _ => F9
  rename News _ _ _ _ => N9
  refine src_list rfl hI9 ?_
  intro it s₂ hsrc
  have hvl := strs_len hS
  have hcnt := splitL_count (leadOf l)
  rw [List.length_map] at hvl
  refine ⟨_, _, _, fun i ys _ => IntsAre ys ((runsOf l).take i), _, hsrc, (by omega), F9.ns, (fun _ _ _ _ h _ => h), (fun _ => .nil), LcTurn.plain ?turn, ?done⟩
  case turn =>
    intro C X' i v ys s₃ m₃ E' hX hi' hv hy hR F' N'
    obtain ⟨x, t, hx, rfl⟩ := strs_at hS hv
    rw [List.getElem?_map] at hx
    obtain ⟨q, hq, rfl⟩ := Option.map_eq_some_iff.mp hx
    have hql := splitL_len _ q (List.mem_of_getElem? hq)
    have G3 : Gd w.params s₃.heap := G.keeps fun b o e => F'.keep b o (F9.keep b o e)
    (repeat' (first | (k_unfold; (try dsimp only)) | ((fail_if_success (with_reducible show wpAny _ _ (pyIter _) _ _ _)); (fail_if_success (with_reducible show wpAny _ _ (subscriptTail _ (Expr.Slice _ _ _ _) _ _) _ _ _));  (fail_if_success (with_reducible show wpAny _ _ (compareOp _ (Value.ref _) (Value.ref _)) _ _ _)); (fail_if_success (with_reducible show wpAny _ _ (eval (Expr.ListComp _ _ _ _) _) _ _ _)); (fail_if_success (with_reducible show wpAny _ _ (exec (Stmt.Assign _ (Expr.ListComp _ _ _ _) _) _) _ _ _)); (first | (with_reducible (((with_reducible show wpAny _ _ (call (Value.builtin "str.lstrip") _) _ _ _); (k_dflt (refine lstrip_S (by omega) ?_); intro t9 k9; (try dsimp only))))) | ((with_reducible show wpAny _ _ (call (Value.builtin "str.lstrip") _) _ _ _); (k_dflt (refine lstrip_S (by omega) ?_); intro t9 k9; (try dsimp only))) | (with_reducible (((with_reducible show wpAny _ _ (call (Value.builtin "str.split") _) _ _ _); ((rename Fr _ _ _ _ => cF); (rename News _ _ _ _ => cN); k_dflt (refine split_S (by omega) ?_); intro D9 vs9 s9 e9 k9 i9; obtain ⟨h9, tk9, q9, k9⟩ := k9; subst q9; have F9 := Fr.keeps cF k9; have N9 := News.grown cN k9; clear cF cN; (try dsimp only))))) | ((with_reducible show wpAny _ _ (call (Value.builtin "str.split") _) _ _ _); ((rename Fr _ _ _ _ => cF); (rename News _ _ _ _ => cN); k_dflt (refine split_S (by omega) ?_); intro D9 vs9 s9 e9 k9 i9; obtain ⟨h9, tk9, q9, k9⟩ := k9; subst q9; have F9 := Fr.keeps cF k9; have N9 := News.grown cN k9; clear cF cN; (try dsimp only))) | (with_reducible (((with_reducible show wpAny _ _ (call (Value.builtin "len") [Value.str (Mine.T _) _]) _ _ _); refine len_T (by omega) ?_))) | ((with_reducible show wpAny _ _ (eval (Expr.Name _ _) (compEnvC _ _ _ _)) _ _ _); k_dflt (first | (refine' nmL ?qk1Z ?qk2Z ?_ ?qk3Z ?qk4Z ?qk5Z; (case qk3Z => rfl); (case qk4Z => rfl); (case qk5Z => decide); (case qk1Z => k_asm); (case qk2Z => rfl); k_whole) | (refine' nmC ?qk1Z ?qk2Z ?qk6Z ?_ ?qk3Z ?qk4Z ?qk5Z; (case qk3Z => rfl); (case qk4Z => rfl); (case qk5Z => decide); (case qk6Z => rfl); (case qk1Z => assumption); (case qk2Z => assumption); k_whole) | (refine' nmG ?qk1Z ?qk2Z ?_ ?qk6Z ?qk3Z ?qk4Z ?qk5Z; (case qk3Z => rfl); (case qk4Z => rfl); (case qk5Z => decide); (case qk6Z => rfl); (case qk1Z => assumption); (case qk2Z => k_is); k_whole) | (refine' nmB ?qk1Z ?qk2Z ?qk7Z ?qk8Z ?_ ?qk6Z ?qk9Z ?qk3Z ?qk4Z ?qk5Z; (case qk3Z => rfl); (case qk4Z => rfl); (case qk5Z => decide); (case qk6Z => rfl); (case qk9Z => rfl); (case qk1Z => assumption); (case qk2Z => k_is); (case qk7Z => boot_fast); (case qk8Z => decide); k_whole))) | (with_reducible (((with_reducible show wpAny _ _ (newTuple _) _ _ _); (k_here; refine newTuple_L (by k_asm) (by k_asm) ?_ (Nat.le_of_ble_eq_true rfl); intro a9 h9 F9 N9 f9 k9; (try dsimp only))))) | (with_reducible (((with_reducible show wpAny _ _ (execs (Stmt.Assign _ _ _ :: _) _) _ _ _); refine wpAny_execs_cons ?_))) | (with_reducible (((with_reducible show TurnE _ _ _ _ _ _ _ _ _ _ _ _ _ _ _); dsimp only [TurnE]))) | (with_reducible ((k_here; (with_reducible show wpAny _ _ (call (Value.builtin "len") [Value.ref _]) _ _ _); refine len_tup_ints (IsTup.keeps (by assumption) (Fr.keep (by k_asm))) (by assumption) (by assumption) ?_))) | walk1); all_goals (try dsimp only)) | dsimp only))
    · exact ⟨_, _, rfl, fun _ _ e => e⟩
    · show IntsAre (ys ++ [_]) ((runsOf l).take (i + 1))
      rw [take_snoc (a := (q.length : Int)) (by rw [runsOf, List.getElem?_map, hq]; rfl)]
      exact ints_snoc hR
  case done =>
    intro D h3 tk3 ys hD hl3 hR3 ns3 k3
    obtain ⟨nn, hl3⟩ := hl3
    obtain ⟨F3, N3⟩ := after_assign F9 N9 ns3 k3
    have N3 := add_news F9 N3 hD hl3
    clear F9 N9
    have hR3 : IntsAre ys (runsOf l) := by
      rw [List.take_of_length_le (by rw [runsOf, List.length_map]; omega)] at hR3; exact hR3
    (repeat' (first | (k_unfold; (try dsimp only)) | ((fail_if_success (with_reducible show wpAny _ _ (pyIter _) _ _ _)); (fail_if_success (with_reducible show wpAny _ _ (subscriptTail _ (Expr.Slice _ _ _ _) _ _) _ _ _));  (fail_if_success (with_reducible show wpAny _ _ (compareOp _ (Value.ref _) (Value.ref _)) _ _ _)); (fail_if_success (with_reducible show wpAny _ _ (eval (Expr.ListComp _ _ _ _) _) _ _ _)); (fail_if_success (with_reducible show wpAny _ _ (exec (Stmt.Assign _ (Expr.ListComp _ _ _ _) _) _) _ _ _)); (first | (with_reducible (((with_reducible show wpAny _ _ (call (Value.builtin "str.lstrip") _) _ _ _); (k_dflt (refine lstrip_S (by omega) ?_); intro t9 k9; (try dsimp only))))) | ((with_reducible show wpAny _ _ (call (Value.builtin "str.lstrip") _) _ _ _); (k_dflt (refine lstrip_S (by omega) ?_); intro t9 k9; (try dsimp only))) | (with_reducible (((with_reducible show wpAny _ _ (call (Value.builtin "str.split") _) _ _ _); ((rename Fr _ _ _ _ => cF); (rename News _ _ _ _ => cN); k_dflt (refine split_S (by omega) ?_); intro D9 vs9 s9 e9 k9 i9; obtain ⟨h9, tk9, q9, k9⟩ := k9; subst q9; have F9 := Fr.keeps cF k9; have N9 := News.grown cN k9; clear cF cN; (try dsimp only))))) | ((with_reducible show wpAny _ _ (call (Value.builtin "str.split") _) _ _ _); ((rename Fr _ _ _ _ => cF); (rename News _ _ _ _ => cN); k_dflt (refine split_S (by omega) ?_); intro D9 vs9 s9 e9 k9 i9; obtain ⟨h9, tk9, q9, k9⟩ := k9; subst q9; have F9 := Fr.keeps cF k9; have N9 := News.grown cN k9; clear cF cN; (try dsimp only))) | (with_reducible (((with_reducible show wpAny _ _ (call (Value.builtin "len") [Value.str (Mine.T _) _]) _ _ _); refine len_T (by omega) ?_))) | ((with_reducible show wpAny _ _ (eval (Expr.Name _ _) (compEnvC _ _ _ _)) _ _ _); k_dflt (first | (refine' nmL ?qk1Z ?qk2Z ?_ ?qk3Z ?qk4Z ?qk5Z; (case qk3Z => rfl); (case qk4Z => rfl); (case qk5Z => decide); (case qk1Z => k_asm); (case qk2Z => rfl); k_whole) | (refine' nmC ?qk1Z ?qk2Z ?qk6Z ?_ ?qk3Z ?qk4Z ?qk5Z; (case qk3Z => rfl); (case qk4Z => rfl); (case qk5Z => decide); (case qk6Z => rfl); (case qk1Z => assumption); (case qk2Z => assumption); k_whole) | (refine' nmG ?qk1Z ?qk2Z ?_ ?qk6Z ?qk3Z ?qk4Z ?qk5Z; (case qk3Z => rfl); (case qk4Z => rfl); (case qk5Z => decide); (case qk6Z => rfl); (case qk1Z => assumption); (case qk2Z => k_is); k_whole) | (refine' nmB ?qk1Z ?qk2Z ?qk7Z ?qk8Z ?_ ?qk6Z ?qk9Z ?qk3Z ?qk4Z ?qk5Z; (case qk3Z => rfl); (case qk4Z => rfl); (case qk5Z => decide); (case qk6Z => rfl); (case qk9Z => rfl); (case qk1Z => assumption); (case qk2Z => k_is); (case qk7Z => boot_fast); (case qk8Z => decide); k_whole))) | (with_reducible (((with_reducible show wpAny _ _ (newTuple _) _ _ _); (k_here; refine newTuple_L (by k_asm) (by k_asm) ?_ (Nat.le_of_ble_eq_true rfl); intro a9 h9 F9 N9 f9 k9; (try dsimp only))))) | (with_reducible (((with_reducible show wpAny _ _ (execs (Stmt.Assign _ _ _ :: _) _) _ _ _); refine wpAny_execs_cons ?_))) | (with_reducible (((with_reducible show TurnE _ _ _ _ _ _ _ _ _ _ _ _ _ _ _); dsimp only [TurnE]))) | (with_reducible ((k_here; (with_reducible show wpAny _ _ (call (Value.builtin "len") [Value.ref _]) _ _ _); refine len_tup_ints (IsTup.keeps (by assumption) (Fr.keep (by k_asm))) (by assumption) (by assumption) ?_))) | walk1); all_goals (try dsimp only)) | dsimp only))
    rename Fr _ _ _ _ => F4
    rename News _ _ _ _ => N4
    refine' slice_K (s := Shared.mk _ _ _ _ _) ⟨_, (N4 (D, _) (by k_mem)).1, rfl, _, rfl⟩ .none (.int _ _) .none (by decide) ?_ ?hs ?ht ?hz
    case hs => with_unfolding_all rfl
    case ht => intro _; with_unfolding_all rfl
    case hz =>
      have := hR3.length
      rw [runsOf, List.length_map] at this
      omega
    intro a4 h4 k4 hn4 hl4
    rw [pick_upto] at hl4
    have F5 := Fr.keeps F4 k4
    have N5 := add_news F4 (News.grown N4 k4) hn4 hl4
    clear F4 N4
    dsimp only
    (repeat' (first | (k_unfold; (try dsimp only)) | ((fail_if_success (with_reducible show wpAny _ _ (pyIter _) _ _ _)); (fail_if_success (with_reducible show wpAny _ _ (subscriptTail _ (Expr.Slice _ _ _ _) _ _) _ _ _));  (fail_if_success (with_reducible show wpAny _ _ (compareOp _ (Value.ref _) (Value.ref _)) _ _ _)); (fail_if_success (with_reducible show wpAny _ _ (eval (Expr.ListComp _ _ _ _) _) _ _ _)); (fail_if_success (with_reducible show wpAny _ _ (exec (Stmt.Assign _ (Expr.ListComp _ _ _ _) _) _) _ _ _)); (first | (with_reducible (((with_reducible show wpAny _ _ (call (Value.builtin "str.lstrip") _) _ _ _); (k_dflt (refine lstrip_S (by omega) ?_); intro t9 k9; (try dsimp only))))) | ((with_reducible show wpAny _ _ (call (Value.builtin "str.lstrip") _) _ _ _); (k_dflt (refine lstrip_S (by omega) ?_); intro t9 k9; (try dsimp only))) | (with_reducible (((with_reducible show wpAny _ _ (call (Value.builtin "str.split") _) _ _ _); ((rename Fr _ _ _ _ => cF); (rename News _ _ _ _ => cN); k_dflt (refine split_S (by omega) ?_); intro D9 vs9 s9 e9 k9 i9; obtain ⟨h9, tk9, q9, k9⟩ := k9; subst q9; have F9 := Fr.keeps cF k9; have N9 := News.grown cN k9; clear cF cN; (try dsimp only))))) | ((with_reducible show wpAny _ _ (call (Value.builtin "str.split") _) _ _ _); ((rename Fr _ _ _ _ => cF); (rename News _ _ _ _ => cN); k_dflt (refine split_S (by omega) ?_); intro D9 vs9 s9 e9 k9 i9; obtain ⟨h9, tk9, q9, k9⟩ := k9; subst q9; have F9 := Fr.keeps cF k9; have N9 := News.grown cN k9; clear cF cN; (try dsimp only))) | (with_reducible (((with_reducible show wpAny _ _ (call (Value.builtin "len") [Value.str (Mine.T _) _]) _ _ _); refine len_T (by omega) ?_))) | ((with_reducible show wpAny _ _ (eval (Expr.Name _ _) (compEnvC _ _ _ _)) _ _ _); k_dflt (first | (refine' nmL ?qk1Z ?qk2Z ?_ ?qk3Z ?qk4Z ?qk5Z; (case qk3Z => rfl); (case qk4Z => rfl); (case qk5Z => decide); (case qk1Z => k_asm); (case qk2Z => rfl); k_whole) | (refine' nmC ?qk1Z ?qk2Z ?qk6Z ?_ ?qk3Z ?qk4Z ?qk5Z; (case qk3Z => rfl); (case qk4Z => rfl); (case qk5Z => decide); (case qk6Z => rfl); (case qk1Z => assumption); (case qk2Z => assumption); k_whole) | (refine' nmG ?qk1Z ?qk2Z ?_ ?qk6Z ?qk3Z ?qk4Z ?qk5Z; (case qk3Z => rfl); (case qk4Z => rfl); (case qk5Z => decide); (case qk6Z => rfl); (case qk1Z => assumption); (case qk2Z => k_is); k_whole) | (refine' nmB ?qk1Z ?qk2Z ?qk7Z ?qk8Z ?_ ?qk6Z ?qk9Z ?qk3Z ?qk4Z ?qk5Z; (case qk3Z => rfl); (case qk4Z => rfl); (case qk5Z => decide); (case qk6Z => rfl); (case qk9Z => rfl); (case qk1Z => assumption); (case qk2Z => k_is); (case qk7Z => boot_fast); (case qk8Z => decide); k_whole))) | (with_reducible (((with_reducible show wpAny _ _ (newTuple _) _ _ _); (k_here; refine newTuple_L (by k_asm) (by k_asm) ?_ (Nat.le_of_ble_eq_true rfl); intro a9 h9 F9 N9 f9 k9; (try dsimp only))))) | (with_reducible (((with_reducible show wpAny _ _ (execs (Stmt.Assign _ _ _ :: _) _) _ _ _); refine wpAny_execs_cons ?_))) | (with_reducible (((with_reducible show TurnE _ _ _ _ _ _ _ _ _ _ _ _ _ _ _); dsimp only [TurnE]))) | (with_reducible ((k_here; (with_reducible show wpAny _ _ (call (Value.builtin "len") [Value.ref _]) _ _ _); refine len_tup_ints (IsTup.keeps (by assumption) (Fr.keep (by k_asm))) (by assumption) (by assumption) ?_))) | walk1); all_goals (try dsimp only)) | dsimp only))
    have hR4 := IntsAre.take hR3 (if (-1 : Int) < 0 then (-1 : Int) + ys.length else -1).toNat
    refine' lcEval (cl := [(Str.ofString "ahead", L + 1)]) ?clos ?cell ?kind ?names ?hx ?h ?hs
    case clos => with_unfolding_all rfl
    case cell => decide
    case kind => rfl
    case names => decide
    case hx => rfl
    case hs => intro _; with_unfolding_all rfl
    (repeat' (first | (k_unfold; (try dsimp only)) | ((fail_if_success (with_reducible show wpAny _ _ (pyIter _) _ _ _)); (fail_if_success (with_reducible show wpAny _ _ (subscriptTail _ (Expr.Slice _ _ _ _) _ _) _ _ _));  (fail_if_success (with_reducible show wpAny _ _ (compareOp _ (Value.ref _) (Value.ref _)) _ _ _)); (fail_if_success (with_reducible show wpAny _ _ (eval (Expr.ListComp _ _ _ _) _) _ _ _)); (fail_if_success (with_reducible show wpAny _ _ (exec (Stmt.Assign _ (Expr.ListComp _ _ _ _) _) _) _ _ _)); (first | (with_reducible (((with_reducible show wpAny _ _ (call (Value.builtin "str.lstrip") _) _ _ _); (k_dflt (refine lstrip_S (by omega) ?_); intro t9 k9; (try dsimp only))))) | ((with_reducible show wpAny _ _ (call (Value.builtin "str.lstrip") _) _ _ _); (k_dflt (refine lstrip_S (by omega) ?_); intro t9 k9; (try dsimp only))) | (with_reducible (((with_reducible show wpAny _ _ (call (Value.builtin "str.split") _) _ _ _); ((rename Fr _ _ _ _ => cF); (rename News _ _ _ _ => cN); k_dflt (refine split_S (by omega) ?_); intro D9 vs9 s9 e9 k9 i9; obtain ⟨h9, tk9, q9, k9⟩ := k9; subst q9; have F9 := Fr.keeps cF k9; have N9 := News.grown cN k9; clear cF cN; (try dsimp only))))) | ((with_reducible show wpAny _ _ (call (Value.builtin "str.split") _) _ _ _); ((rename Fr _ _ _ _ => cF); (rename News _ _ _ _ => cN); k_dflt (refine split_S (by omega) ?_); intro D9 vs9 s9 e9 k9 i9; obtain ⟨h9, tk9, q9, k9⟩ := k9; subst q9; have F9 := Fr.keeps cF k9; have N9 := News.grown cN k9; clear cF cN; (try dsimp only))) | (with_reducible (((with_reducible show wpAny _ _ (call (Value.builtin "len") [Value.str (Mine.T _) _]) _ _ _); refine len_T (by omega) ?_))) | ((with_reducible show wpAny _ _ (eval (Expr.Name _ _) (compEnvC _ _ _ _)) _ _ _); k_dflt (first | (refine' nmL ?qk1Z ?qk2Z ?_ ?qk3Z ?qk4Z ?qk5Z; (case qk3Z => rfl); (case qk4Z => rfl); (case qk5Z => decide); (case qk1Z => k_asm); (case qk2Z => rfl); k_whole) | (refine' nmC ?qk1Z ?qk2Z ?qk6Z ?_ ?qk3Z ?qk4Z ?qk5Z; (case qk3Z => rfl); (case qk4Z => rfl); (case qk5Z => decide); (case qk6Z => rfl); (case qk1Z => assumption); (case qk2Z => assumption); k_whole) | (refine' nmG ?qk1Z ?qk2Z ?_ ?qk6Z ?qk3Z ?qk4Z ?qk5Z; (case qk3Z => rfl); (case qk4Z => rfl); (case qk5Z => decide); (case qk6Z => rfl); (case qk1Z => assumption); (case qk2Z => k_is); k_whole) | (refine' nmB ?qk1Z ?qk2Z ?qk7Z ?qk8Z ?_ ?qk6Z ?qk9Z ?qk3Z ?qk4Z ?qk5Z; (case qk3Z => rfl); (case qk4Z => rfl); (case qk5Z => decide); (case qk6Z => rfl); (case qk9Z => rfl); (case qk1Z => assumption); (case qk2Z => k_is); (case qk7Z => boot_fast); (case qk8Z => decide); k_whole))) | (with_reducible (((with_reducible show wpAny _ _ (newTuple _) _ _ _); (k_here; refine newTuple_L (by k_asm) (by k_asm) ?_ (Nat.le_of_ble_eq_true rfl); intro a9 h9 F9 N9 f9 k9; (try dsimp only))))) | (with_reducible (((with_reducible show wpAny _ _ (execs (Stmt.Assign _ _ _ :: _) _) _ _ _); refine wpAny_execs_cons ?_))) | (with_reducible (((with_reducible show TurnE _ _ _ _ _ _ _ _ _ _ _ _ _ _ _); dsimp only [TurnE]))) | (with_reducible ((k_here; (with_reducible show wpAny _ _ (call (Value.builtin "len") [Value.ref _]) _ _ _); refine len_tup_ints (IsTup.keeps (by assumption) (Fr.keep (by k_asm))) (by assumption) (by assumption) ?_))) | walk1); all_goals (try dsimp only)) | dsimp only))
    rename Fr _ _ _ _ => F6
    rename News _ _ _ _ => N6
    refine' add_lists (ws := [.int (-1) _]) F6 N6 ⟨_, (N6 (a4, _) (by k_mem)).1, rfl, _, rfl⟩ ⟨_, (N6 _ List.mem_cons_self).1, rfl, _, rfl⟩ ?_ ?hz
    case hz =>
      have := hR3.length
      have := (runs_len l).1
      rw [List.length_take, List.length_singleton, sizeLine_eq]
      omega
    intro h7 F7 N7
    clear F6 N6
    dsimp only
    (repeat' (first | (k_unfold; (try dsimp only)) | ((fail_if_success (with_reducible show wpAny _ _ (pyIter _) _ _ _)); (fail_if_success (with_reducible show wpAny _ _ (subscriptTail _ (Expr.Slice _ _ _ _) _ _) _ _ _));  (fail_if_success (with_reducible show wpAny _ _ (compareOp _ (Value.ref _) (Value.ref _)) _ _ _)); (fail_if_success (with_reducible show wpAny _ _ (eval (Expr.ListComp _ _ _ _) _) _ _ _)); (fail_if_success (with_reducible show wpAny _ _ (exec (Stmt.Assign _ (Expr.ListComp _ _ _ _) _) _) _ _ _)); (first | (with_reducible (((with_reducible show wpAny _ _ (call (Value.builtin "str.lstrip") _) _ _ _); (k_dflt (refine lstrip_S (by omega) ?_); intro t9 k9; (try dsimp only))))) | ((with_reducible show wpAny _ _ (call (Value.builtin "str.lstrip") _) _ _ _); (k_dflt (refine lstrip_S (by omega) ?_); intro t9 k9; (try dsimp only))) | (with_reducible (((with_reducible show wpAny _ _ (call (Value.builtin "str.split") _) _ _ _); ((rename Fr _ _ _ _ => cF); (rename News _ _ _ _ => cN); k_dflt (refine split_S (by omega) ?_); intro D9 vs9 s9 e9 k9 i9; obtain ⟨h9, tk9, q9, k9⟩ := k9; subst q9; have F9 := Fr.keeps cF k9; have N9 := News.grown cN k9; clear cF cN; (try dsimp only))))) | ((with_reducible show wpAny _ _ (call (Value.builtin "str.split") _) _ _ _); ((rename Fr _ _ _ _ => cF); (rename News _ _ _ _ => cN); k_dflt (refine split_S (by omega) ?_); intro D9 vs9 s9 e9 k9 i9; obtain ⟨h9, tk9, q9, k9⟩ := k9; subst q9; have F9 := Fr.keeps cF k9; have N9 := News.grown cN k9; clear cF cN; (try dsimp only))) | (with_reducible (((with_reducible show wpAny _ _ (call (Value.builtin "len") [Value.str (Mine.T _) _]) _ _ _); refine len_T (by omega) ?_))) | ((with_reducible show wpAny _ _ (eval (Expr.Name _ _) (compEnvC _ _ _ _)) _ _ _); k_dflt (first | (refine' nmL ?qk1Z ?qk2Z ?_ ?qk3Z ?qk4Z ?qk5Z; (case qk3Z => rfl); (case qk4Z => rfl); (case qk5Z => decide); (case qk1Z => k_asm); (case qk2Z => rfl); k_whole) | (refine' nmC ?qk1Z ?qk2Z ?qk6Z ?_ ?qk3Z ?qk4Z ?qk5Z; (case qk3Z => rfl); (case qk4Z => rfl); (case qk5Z => decide); (case qk6Z => rfl); (case qk1Z => assumption); (case qk2Z => assumption); k_whole) | (refine' nmG ?qk1Z ?qk2Z ?_ ?qk6Z ?qk3Z ?qk4Z ?qk5Z; (case qk3Z => rfl); (case qk4Z => rfl); (case qk5Z => decide); (case qk6Z => rfl); (case qk1Z => assumption); (case qk2Z => k_is); k_whole) | (refine' nmB ?qk1Z ?qk2Z ?qk7Z ?qk8Z ?_ ?qk6Z ?qk9Z ?qk3Z ?qk4Z ?qk5Z; (case qk3Z => rfl); (case qk4Z => rfl); (case qk5Z => decide); (case qk6Z => rfl); (case qk9Z => rfl); (case qk1Z => assumption); (case qk2Z => k_is); (case qk7Z => boot_fast); (case qk8Z => decide); k_whole))) | (with_reducible (((with_reducible show wpAny _ _ (newTuple _) _ _ _); (k_here; refine newTuple_L (by k_asm) (by k_asm) ?_ (Nat.le_of_ble_eq_true rfl); intro a9 h9 F9 N9 f9 k9; (try dsimp only))))) | (with_reducible (((with_reducible show wpAny _ _ (execs (Stmt.Assign _ _ _ :: _) _) _ _ _); refine wpAny_execs_cons ?_))) | (with_reducible (((with_reducible show TurnE _ _ _ _ _ _ _ _ _ _ _ _ _ _ _); dsimp only [TurnE]))) | (with_reducible ((k_here; (with_reducible show wpAny _ _ (call (Value.builtin "len") [Value.ref _]) _ _ _); refine len_tup_ints (IsTup.keeps (by assumption) (Fr.keep (by k_asm))) (by assumption) (by assumption) ?_))) | walk1); all_goals (try dsimp only)) | dsimp only))
    have ha : (runsOf l).take (if (-1 : Int) < 0 then (-1 : Int) + ys.length else -1).toNat = aheadOf l := by
      rw [aheadOf, hR3.length, if_pos (by decide), show ((-1 : Int) + ((runsOf l).length : Nat)).toNat = (runsOf l).length - 1 by omega]
    rw [ha] at hR4
    rename _ ∈ _ ++ [(-1 : Int)] => q1
    rename ∀ a : Int, a ∈ _ ++ [(-1 : Int)] → _ => q2
    rw [ha] at q1 q2
    have q3 := top_eq q1 q2
    clear q1 q2
    have q4 : topOf (aheadOf l) ≤ l.length := by
      rcases top_mem (aheadOf l) with q | q
      · rw [q]; omega
      · exact (runs_bound l _ (List.mem_of_mem_take q)).2
    have q5 := top_ge (aheadOf l)
    subst q3
    rename Fr _ _ _ _ => F8
    rename News _ _ _ _ => N8
    rename IsRange _ _ _ _ _ _ _ _ => hr8
    have hsm : Builtin.Range.small 0 (topOf (aheadOf l) + 1) 1 = true := small_one (by omega) (by omega) (by omega) (by omega)
    refine src_range rfl hr8 hsm ?_
    intro it s₂ hsrc
    refine ⟨_, _, _, fun i ys _ => IntsAre ys ((cntOf (aheadOf l)).take i), hsrc, ?z1, ?z2, ?z3, ?z4, ?done⟩
    case z1 => omega
    case z2 => intro _ _ _ _ h _; exact h
    case z3 => intro _; show IntsAre [] _; rw [List.take_zero]; exact .nil
    case z4 =>
      refine LcTurn.plain ?_
      intro C X' i v zs s₃ m₃ E' hX hi' hv hy hR F' N'
      obtain ⟨t, rfl⟩ := hv
      have G3 : Gd w.params s₃.heap := G.keeps fun b o e => F'.keep b o (F8.keep b o e)
      have hc3 := F'.keep _ _ (N8 (L + 1, _) (by k_mem)).1
      have hl9 : s₃.heap.IsList a4 _ := ⟨_, F'.keep _ _ (N8 (a4, _) (by k_mem)).1, rfl, _, rfl⟩
      have hd9 : s₃.heap.NoDictAt (.ref a4) := ⟨_, F'.keep _ _ (N8 (a4, _) (by k_mem)).1, rfl⟩
      have hi9 := hR4
      iterate 2 first | k_unfold | (with_reducible (((with_reducible show wpAny _ _ (call (Value.builtin "str.lstrip") _) _ _ _); (k_dflt (refine lstrip_S (by omega) ?_); intro t9 k9; (try dsimp only))))) | ((with_reducible show wpAny _ _ (call (Value.builtin "str.lstrip") _) _ _ _); (k_dflt (refine lstrip_S (by omega) ?_); intro t9 k9; (try dsimp only))) | (with_reducible (((with_reducible show wpAny _ _ (call (Value.builtin "str.split") _) _ _ _); ((rename Fr _ _ _ _ => cF); (rename News _ _ _ _ => cN); k_dflt (refine split_S (by omega) ?_); intro D9 vs9 s9 e9 k9 i9; obtain ⟨h9, tk9, q9, k9⟩ := k9; subst q9; have F9 := Fr.keeps cF k9; have N9 := News.grown cN k9; clear cF cN; (try dsimp only))))) | ((with_reducible show wpAny _ _ (call (Value.builtin "str.split") _) _ _ _); ((rename Fr _ _ _ _ => cF); (rename News _ _ _ _ => cN); k_dflt (refine split_S (by omega) ?_); intro D9 vs9 s9 e9 k9 i9; obtain ⟨h9, tk9, q9, k9⟩ := k9; subst q9; have F9 := Fr.keeps cF k9; have N9 := News.grown cN k9; clear cF cN; (try dsimp only))) | (with_reducible (((with_reducible show wpAny _ _ (call (Value.builtin "len") [Value.str (Mine.T _) _]) _ _ _); refine len_T (by omega) ?_))) | ((with_reducible show wpAny _ _ (eval (Expr.Name _ _) (compEnvC _ _ _ _)) _ _ _); k_dflt (first | (refine' nmL ?qk1Z ?qk2Z ?_ ?qk3Z ?qk4Z ?qk5Z; (case qk3Z => rfl); (case qk4Z => rfl); (case qk5Z => decide); (case qk1Z => k_asm); (case qk2Z => rfl); k_whole) | (refine' nmC ?qk1Z ?qk2Z ?qk6Z ?_ ?qk3Z ?qk4Z ?qk5Z; (case qk3Z => rfl); (case qk4Z => rfl); (case qk5Z => decide); (case qk6Z => rfl); (case qk1Z => assumption); (case qk2Z => assumption); k_whole) | (refine' nmG ?qk1Z ?qk2Z ?_ ?qk6Z ?qk3Z ?qk4Z ?qk5Z; (case qk3Z => rfl); (case qk4Z => rfl); (case qk5Z => decide); (case qk6Z => rfl); (case qk1Z => assumption); (case qk2Z => k_is); k_whole) | (refine' nmB ?qk1Z ?qk2Z ?qk7Z ?qk8Z ?_ ?qk6Z ?qk9Z ?qk3Z ?qk4Z ?qk5Z; (case qk3Z => rfl); (case qk4Z => rfl); (case qk5Z => decide); (case qk6Z => rfl); (case qk9Z => rfl); (case qk1Z => assumption); (case qk2Z => k_is); (case qk7Z => boot_fast); (case qk8Z => decide); k_whole))) | (with_reducible (((with_reducible show wpAny _ _ (newTuple _) _ _ _); (k_here; refine newTuple_L (by k_asm) (by k_asm) ?_ (Nat.le_of_ble_eq_true rfl); intro a9 h9 F9 N9 f9 k9; (try dsimp only))))) | (with_reducible (((with_reducible show wpAny _ _ (execs (Stmt.Assign _ _ _ :: _) _) _ _ _); refine wpAny_execs_cons ?_))) | (with_reducible (((with_reducible show TurnE _ _ _ _ _ _ _ _ _ _ _ _ _ _ _); dsimp only [TurnE]))) | (with_reducible ((k_here; (with_reducible show wpAny _ _ (call (Value.builtin "len") [Value.ref _]) _ _ _); refine len_tup_ints (IsTup.keeps (by assumption) (Fr.keep (by k_asm))) (by assumption) (by assumption) ?_))) | walk1 | (dsimp only; walk1)
      refine getMethod_list_of PySem.F.slot_list_count PySem.F.type_list_count hl9 hd9 ?_
      dsimp only
      iterate 4 first | k_unfold | (with_reducible (((with_reducible show wpAny _ _ (call (Value.builtin "str.lstrip") _) _ _ _); (k_dflt (refine lstrip_S (by omega) ?_); intro t9 k9; (try dsimp only))))) | ((with_reducible show wpAny _ _ (call (Value.builtin "str.lstrip") _) _ _ _); (k_dflt (refine lstrip_S (by omega) ?_); intro t9 k9; (try dsimp only))) | (with_reducible (((with_reducible show wpAny _ _ (call (Value.builtin "str.split") _) _ _ _); ((rename Fr _ _ _ _ => cF); (rename News _ _ _ _ => cN); k_dflt (refine split_S (by omega) ?_); intro D9 vs9 s9 e9 k9 i9; obtain ⟨h9, tk9, q9, k9⟩ := k9; subst q9; have F9 := Fr.keeps cF k9; have N9 := News.grown cN k9; clear cF cN; (try dsimp only))))) | ((with_reducible show wpAny _ _ (call (Value.builtin "str.split") _) _ _ _); ((rename Fr _ _ _ _ => cF); (rename News _ _ _ _ => cN); k_dflt (refine split_S (by omega) ?_); intro D9 vs9 s9 e9 k9 i9; obtain ⟨h9, tk9, q9, k9⟩ := k9; subst q9; have F9 := Fr.keeps cF k9; have N9 := News.grown cN k9; clear cF cN; (try dsimp only))) | (with_reducible (((with_reducible show wpAny _ _ (call (Value.builtin "len") [Value.str (Mine.T _) _]) _ _ _); refine len_T (by omega) ?_))) | ((with_reducible show wpAny _ _ (eval (Expr.Name _ _) (compEnvC _ _ _ _)) _ _ _); k_dflt (first | (refine' nmL ?qk1Z ?qk2Z ?_ ?qk3Z ?qk4Z ?qk5Z; (case qk3Z => rfl); (case qk4Z => rfl); (case qk5Z => decide); (case qk1Z => k_asm); (case qk2Z => rfl); k_whole) | (refine' nmC ?qk1Z ?qk2Z ?qk6Z ?_ ?qk3Z ?qk4Z ?qk5Z; (case qk3Z => rfl); (case qk4Z => rfl); (case qk5Z => decide); (case qk6Z => rfl); (case qk1Z => assumption); (case qk2Z => assumption); k_whole) | (refine' nmG ?qk1Z ?qk2Z ?_ ?qk6Z ?qk3Z ?qk4Z ?qk5Z; (case qk3Z => rfl); (case qk4Z => rfl); (case qk5Z => decide); (case qk6Z => rfl); (case qk1Z => assumption); (case qk2Z => k_is); k_whole) | (refine' nmB ?qk1Z ?qk2Z ?qk7Z ?qk8Z ?_ ?qk6Z ?qk9Z ?qk3Z ?qk4Z ?qk5Z; (case qk3Z => rfl); (case qk4Z => rfl); (case qk5Z => decide); (case qk6Z => rfl); (case qk9Z => rfl); (case qk1Z => assumption); (case qk2Z => k_is); (case qk7Z => boot_fast); (case qk8Z => decide); k_whole))) | (with_reducible (((with_reducible show wpAny _ _ (newTuple _) _ _ _); (k_here; refine newTuple_L (by k_asm) (by k_asm) ?_ (Nat.le_of_ble_eq_true rfl); intro a9 h9 F9 N9 f9 k9; (try dsimp only))))) | (with_reducible (((with_reducible show wpAny _ _ (execs (Stmt.Assign _ _ _ :: _) _) _ _ _); refine wpAny_execs_cons ?_))) | (with_reducible (((with_reducible show TurnE _ _ _ _ _ _ _ _ _ _ _ _ _ _ _); dsimp only [TurnE]))) | (with_reducible ((k_here; (with_reducible show wpAny _ _ (call (Value.builtin "len") [Value.ref _]) _ _ _); refine len_tup_ints (IsTup.keeps (by assumption) (Fr.keep (by k_asm))) (by assumption) (by assumption) ?_))) | walk1 | (dsimp only; walk1)
      refine count_list_ints hl9 hR4 ?_
      refine ⟨Keeps.toks _ _, ?_⟩
      have hi8 : i < (topOf (aheadOf l) + 1).toNat := by omega
      have e8 : (cntOf (aheadOf l))[i]? = some (((aheadOf l).count (0 + (i : Int) * 1) : Nat) : Int) := by
        unfold cntOf
        rw [List.getElem?_map, List.getElem?_range hi8, Int.mul_one, Int.zero_add]; rfl
      show IntsAre (zs ++ [_]) (List.take (i + 1) _)
      rw [take_snoc e8]
      exact ints_snoc hR
    case done =>
      intro D2 h10 tk10 zs hD2 hl10 hR10 k10
      obtain ⟨nn2, hl10⟩ := hl10
      have hR10 : IntsAre zs (cntOf (aheadOf l)) := by
        rw [List.take_of_length_le (by rw [cntOf, List.length_map, List.length_range]; omega)] at hR10; exact hR10
      have hzl : zs.length ≤ 10001 := by rw [hR10.length, cntOf, List.length_map, List.length_range]; omega
      have F10 := Fr.keeps F8 k10
      have N10 := add_news F8 (News.grown N8 k10) hD2 hl10
      clear F8 N8
      dsimp only
      iterate 1 first | k_unfold | (with_reducible (((with_reducible show wpAny _ _ (call (Value.builtin "str.lstrip") _) _ _ _); (k_dflt (refine lstrip_S (by omega) ?_); intro t9 k9; (try dsimp only))))) | ((with_reducible show wpAny _ _ (call (Value.builtin "str.lstrip") _) _ _ _); (k_dflt (refine lstrip_S (by omega) ?_); intro t9 k9; (try dsimp only))) | (with_reducible (((with_reducible show wpAny _ _ (call (Value.builtin "str.split") _) _ _ _); ((rename Fr _ _ _ _ => cF); (rename News _ _ _ _ => cN); k_dflt (refine split_S (by omega) ?_); intro D9 vs9 s9 e9 k9 i9; obtain ⟨h9, tk9, q9, k9⟩ := k9; subst q9; have F9 := Fr.keeps cF k9; have N9 := News.grown cN k9; clear cF cN; (try dsimp only))))) | ((with_reducible show wpAny _ _ (call (Value.builtin "str.split") _) _ _ _); ((rename Fr _ _ _ _ => cF); (rename News _ _ _ _ => cN); k_dflt (refine split_S (by omega) ?_); intro D9 vs9 s9 e9 k9 i9; obtain ⟨h9, tk9, q9, k9⟩ := k9; subst q9; have F9 := Fr.keeps cF k9; have N9 := News.grown cN k9; clear cF cN; (try dsimp only))) | (with_reducible (((with_reducible show wpAny _ _ (call (Value.builtin "len") [Value.str (Mine.T _) _]) _ _ _); refine len_T (by omega) ?_))) | ((with_reducible show wpAny _ _ (eval (Expr.Name _ _) (compEnvC _ _ _ _)) _ _ _); k_dflt (first | (refine' nmL ?qk1Z ?qk2Z ?_ ?qk3Z ?qk4Z ?qk5Z; (case qk3Z => rfl); (case qk4Z => rfl); (case qk5Z => decide); (case qk1Z => k_asm); (case qk2Z => rfl); k_whole) | (refine' nmC ?qk1Z ?qk2Z ?qk6Z ?_ ?qk3Z ?qk4Z ?qk5Z; (case qk3Z => rfl); (case qk4Z => rfl); (case qk5Z => decide); (case qk6Z => rfl); (case qk1Z => assumption); (case qk2Z => assumption); k_whole) | (refine' nmG ?qk1Z ?qk2Z ?_ ?qk6Z ?qk3Z ?qk4Z ?qk5Z; (case qk3Z => rfl); (case qk4Z => rfl); (case qk5Z => decide); (case qk6Z => rfl); (case qk1Z => assumption); (case qk2Z => k_is); k_whole) | (refine' nmB ?qk1Z ?qk2Z ?qk7Z ?qk8Z ?_ ?qk6Z ?qk9Z ?qk3Z ?qk4Z ?qk5Z; (case qk3Z => rfl); (case qk4Z => rfl); (case qk5Z => decide); (case qk6Z => rfl); (case qk9Z => rfl); (case qk1Z => assumption); (case qk2Z => k_is); (case qk7Z => boot_fast); (case qk8Z => decide); k_whole))) | (with_reducible (((with_reducible show wpAny _ _ (newTuple _) _ _ _); (k_here; refine newTuple_L (by k_asm) (by k_asm) ?_ (Nat.le_of_ble_eq_true rfl); intro a9 h9 F9 N9 f9 k9; (try dsimp only))))) | (with_reducible (((with_reducible show wpAny _ _ (execs (Stmt.Assign _ _ _ :: _) _) _ _ _); refine wpAny_execs_cons ?_))) | (with_reducible (((with_reducible show TurnE _ _ _ _ _ _ _ _ _ _ _ _ _ _ _); dsimp only [TurnE]))) | (with_reducible ((k_here; (with_reducible show wpAny _ _ (call (Value.builtin "len") [Value.ref _]) _ _ _); refine len_tup_ints (IsTup.keeps (by assumption) (Fr.keep (by k_asm))) (by assumption) (by assumption) ?_))) | walk1 | (dsimp only; walk1)
      refine' kde_tupleOf F10 N10 ⟨_, hl10, rfl, _, rfl⟩ ?_ rfl ?_
      · rw [List.size_toArray]; omega
      intro D3 h11 F11 N11 _
      clear F10 N10
      dsimp only
      iterate 22 first | k_unfold | (with_reducible (((with_reducible show wpAny _ _ (call (Value.builtin "str.lstrip") _) _ _ _); (k_dflt (refine lstrip_S (by omega) ?_); intro t9 k9; (try dsimp only))))) | ((with_reducible show wpAny _ _ (call (Value.builtin "str.lstrip") _) _ _ _); (k_dflt (refine lstrip_S (by omega) ?_); intro t9 k9; (try dsimp only))) | (with_reducible (((with_reducible show wpAny _ _ (call (Value.builtin "str.split") _) _ _ _); ((rename Fr _ _ _ _ => cF); (rename News _ _ _ _ => cN); k_dflt (refine split_S (by omega) ?_); intro D9 vs9 s9 e9 k9 i9; obtain ⟨h9, tk9, q9, k9⟩ := k9; subst q9; have F9 := Fr.keeps cF k9; have N9 := News.grown cN k9; clear cF cN; (try dsimp only))))) | ((with_reducible show wpAny _ _ (call (Value.builtin "str.split") _) _ _ _); ((rename Fr _ _ _ _ => cF); (rename News _ _ _ _ => cN); k_dflt (refine split_S (by omega) ?_); intro D9 vs9 s9 e9 k9 i9; obtain ⟨h9, tk9, q9, k9⟩ := k9; subst q9; have F9 := Fr.keeps cF k9; have N9 := News.grown cN k9; clear cF cN; (try dsimp only))) | (with_reducible (((with_reducible show wpAny _ _ (call (Value.builtin "len") [Value.str (Mine.T _) _]) _ _ _); refine len_T (by omega) ?_))) | ((with_reducible show wpAny _ _ (eval (Expr.Name _ _) (compEnvC _ _ _ _)) _ _ _); k_dflt (first | (refine' nmL ?qk1Z ?qk2Z ?_ ?qk3Z ?qk4Z ?qk5Z; (case qk3Z => rfl); (case qk4Z => rfl); (case qk5Z => decide); (case qk1Z => k_asm); (case qk2Z => rfl); k_whole) | (refine' nmC ?qk1Z ?qk2Z ?qk6Z ?_ ?qk3Z ?qk4Z ?qk5Z; (case qk3Z => rfl); (case qk4Z => rfl); (case qk5Z => decide); (case qk6Z => rfl); (case qk1Z => assumption); (case qk2Z => assumption); k_whole) | (refine' nmG ?qk1Z ?qk2Z ?_ ?qk6Z ?qk3Z ?qk4Z ?qk5Z; (case qk3Z => rfl); (case qk4Z => rfl); (case qk5Z => decide); (case qk6Z => rfl); (case qk1Z => assumption); (case qk2Z => k_is); k_whole) | (refine' nmB ?qk1Z ?qk2Z ?qk7Z ?qk8Z ?_ ?qk6Z ?qk9Z ?qk3Z ?qk4Z ?qk5Z; (case qk3Z => rfl); (case qk4Z => rfl); (case qk5Z => decide); (case qk6Z => rfl); (case qk9Z => rfl); (case qk1Z => assumption); (case qk2Z => k_is); (case qk7Z => boot_fast); (case qk8Z => decide); k_whole))) | (with_reducible (((with_reducible show wpAny _ _ (newTuple _) _ _ _); (k_here; refine newTuple_L (by k_asm) (by k_asm) ?_ (Nat.le_of_ble_eq_true rfl); intro a9 h9 F9 N9 f9 k9; (try dsimp only))))) | (with_reducible (((with_reducible show wpAny _ _ (execs (Stmt.Assign _ _ _ :: _) _) _ _ _); refine wpAny_execs_cons ?_))) | (with_reducible (((with_reducible show TurnE _ _ _ _ _ _ _ _ _ _ _ _ _ _ _); dsimp only [TurnE]))) | (with_reducible ((k_here; (with_reducible show wpAny _ _ (call (Value.builtin "len") [Value.ref _]) _ _ _); refine len_tup_ints (IsTup.keeps (by assumption) (Fr.keep (by k_asm))) (by assumption) (by assumption) ?_))) | walk1 | (dsimp only; walk1)
      rename Fr _ _ _ _ => F12
      rename News _ _ _ _ => N12
      have hyl : ys.length ≤ 10001 := by have := hR3.length; have := (runs_len l).1; omega
      have hyp : 0 < ys.length := by have := hR3.length; have := (runs_len l).2; omega
      refine' Calls.call_len_list (s := Shared.mk _ _ _ _ _) ⟨_, (N12 (a4, _) (by k_mem)).1, rfl, _, rfl⟩ ?_ ?_
      · rw [List.size_toArray, List.length_take]; omega
      dsimp only
      iterate 10 first | k_unfold | (with_reducible (((with_reducible show wpAny _ _ (call (Value.builtin "str.lstrip") _) _ _ _); (k_dflt (refine lstrip_S (by omega) ?_); intro t9 k9; (try dsimp only))))) | ((with_reducible show wpAny _ _ (call (Value.builtin "str.lstrip") _) _ _ _); (k_dflt (refine lstrip_S (by omega) ?_); intro t9 k9; (try dsimp only))) | (with_reducible (((with_reducible show wpAny _ _ (call (Value.builtin "str.split") _) _ _ _); ((rename Fr _ _ _ _ => cF); (rename News _ _ _ _ => cN); k_dflt (refine split_S (by omega) ?_); intro D9 vs9 s9 e9 k9 i9; obtain ⟨h9, tk9, q9, k9⟩ := k9; subst q9; have F9 := Fr.keeps cF k9; have N9 := News.grown cN k9; clear cF cN; (try dsimp only))))) | ((with_reducible show wpAny _ _ (call (Value.builtin "str.split") _) _ _ _); ((rename Fr _ _ _ _ => cF); (rename News _ _ _ _ => cN); k_dflt (refine split_S (by omega) ?_); intro D9 vs9 s9 e9 k9 i9; obtain ⟨h9, tk9, q9, k9⟩ := k9; subst q9; have F9 := Fr.keeps cF k9; have N9 := News.grown cN k9; clear cF cN; (try dsimp only))) | (with_reducible (((with_reducible show wpAny _ _ (call (Value.builtin "len") [Value.str (Mine.T _) _]) _ _ _); refine len_T (by omega) ?_))) | ((with_reducible show wpAny _ _ (eval (Expr.Name _ _) (compEnvC _ _ _ _)) _ _ _); k_dflt (first | (refine' nmL ?qk1Z ?qk2Z ?_ ?qk3Z ?qk4Z ?qk5Z; (case qk3Z => rfl); (case qk4Z => rfl); (case qk5Z => decide); (case qk1Z => k_asm); (case qk2Z => rfl); k_whole) | (refine' nmC ?qk1Z ?qk2Z ?qk6Z ?_ ?qk3Z ?qk4Z ?qk5Z; (case qk3Z => rfl); (case qk4Z => rfl); (case qk5Z => decide); (case qk6Z => rfl); (case qk1Z => assumption); (case qk2Z => assumption); k_whole) | (refine' nmG ?qk1Z ?qk2Z ?_ ?qk6Z ?qk3Z ?qk4Z ?qk5Z; (case qk3Z => rfl); (case qk4Z => rfl); (case qk5Z => decide); (case qk6Z => rfl); (case qk1Z => assumption); (case qk2Z => k_is); k_whole) | (refine' nmB ?qk1Z ?qk2Z ?qk7Z ?qk8Z ?_ ?qk6Z ?qk9Z ?qk3Z ?qk4Z ?qk5Z; (case qk3Z => rfl); (case qk4Z => rfl); (case qk5Z => decide); (case qk6Z => rfl); (case qk9Z => rfl); (case qk1Z => assumption); (case qk2Z => k_is); (case qk7Z => boot_fast); (case qk8Z => decide); k_whole))) | (with_reducible (((with_reducible show wpAny _ _ (newTuple _) _ _ _); (k_here; refine newTuple_L (by k_asm) (by k_asm) ?_ (Nat.le_of_ble_eq_true rfl); intro a9 h9 F9 N9 f9 k9; (try dsimp only))))) | (with_reducible (((with_reducible show wpAny _ _ (execs (Stmt.Assign _ _ _ :: _) _) _ _ _); refine wpAny_execs_cons ?_))) | (with_reducible (((with_reducible show TurnE _ _ _ _ _ _ _ _ _ _ _ _ _ _ _); dsimp only [TurnE]))) | (with_reducible ((k_here; (with_reducible show wpAny _ _ (call (Value.builtin "len") [Value.ref _]) _ _ _); refine len_tup_ints (IsTup.keeps (by assumption) (Fr.keep (by k_asm))) (by assumption) (by assumption) ?_))) | walk1 | (dsimp only; walk1)
      have hlast : ∃ t', ys[ys.length - 1]? = some (.int (lastOf l) t') := by
        obtain ⟨v, hv⟩ : ∃ v, ys[ys.length - 1]? = some v := ⟨_, List.getElem?_eq_getElem (by omega)⟩
        obtain ⟨n', t', rfl, hn'⟩ := IntsAre.at hR3 _ _ hv
        rw [hR3.length] at hn'
        refine ⟨t', ?_⟩
        rw [hv, lastOf, List.getD_eq_getElem?_getD, hn']; rfl
      obtain ⟨t13, hlast⟩ := hlast
      refine' kde_neg ⟨_, (N12 (D, _) (by k_mem)).1, rfl, _, rfl⟩ (by decide) (by decide) (seqIndex_neg hyp) hlast ?_ ?hs
      case hs => with_unfolding_all rfl
      iterate 9 first | k_unfold | (with_reducible (((with_reducible show wpAny _ _ (call (Value.builtin "str.lstrip") _) _ _ _); (k_dflt (refine lstrip_S (by omega) ?_); intro t9 k9; (try dsimp only))))) | ((with_reducible show wpAny _ _ (call (Value.builtin "str.lstrip") _) _ _ _); (k_dflt (refine lstrip_S (by omega) ?_); intro t9 k9; (try dsimp only))) | (with_reducible (((with_reducible show wpAny _ _ (call (Value.builtin "str.split") _) _ _ _); ((rename Fr _ _ _ _ => cF); (rename News _ _ _ _ => cN); k_dflt (refine split_S (by omega) ?_); intro D9 vs9 s9 e9 k9 i9; obtain ⟨h9, tk9, q9, k9⟩ := k9; subst q9; have F9 := Fr.keeps cF k9; have N9 := News.grown cN k9; clear cF cN; (try dsimp only))))) | ((with_reducible show wpAny _ _ (call (Value.builtin "str.split") _) _ _ _); ((rename Fr _ _ _ _ => cF); (rename News _ _ _ _ => cN); k_dflt (refine split_S (by omega) ?_); intro D9 vs9 s9 e9 k9 i9; obtain ⟨h9, tk9, q9, k9⟩ := k9; subst q9; have F9 := Fr.keeps cF k9; have N9 := News.grown cN k9; clear cF cN; (try dsimp only))) | (with_reducible (((with_reducible show wpAny _ _ (call (Value.builtin "len") [Value.str (Mine.T _) _]) _ _ _); refine len_T (by omega) ?_))) | ((with_reducible show wpAny _ _ (eval (Expr.Name _ _) (compEnvC _ _ _ _)) _ _ _); k_dflt (first | (refine' nmL ?qk1Z ?qk2Z ?_ ?qk3Z ?qk4Z ?qk5Z; (case qk3Z => rfl); (case qk4Z => rfl); (case qk5Z => decide); (case qk1Z => k_asm); (case qk2Z => rfl); k_whole) | (refine' nmC ?qk1Z ?qk2Z ?qk6Z ?_ ?qk3Z ?qk4Z ?qk5Z; (case qk3Z => rfl); (case qk4Z => rfl); (case qk5Z => decide); (case qk6Z => rfl); (case qk1Z => assumption); (case qk2Z => assumption); k_whole) | (refine' nmG ?qk1Z ?qk2Z ?_ ?qk6Z ?qk3Z ?qk4Z ?qk5Z; (case qk3Z => rfl); (case qk4Z => rfl); (case qk5Z => decide); (case qk6Z => rfl); (case qk1Z => assumption); (case qk2Z => k_is); k_whole) | (refine' nmB ?qk1Z ?qk2Z ?qk7Z ?qk8Z ?_ ?qk6Z ?qk9Z ?qk3Z ?qk4Z ?qk5Z; (case qk3Z => rfl); (case qk4Z => rfl); (case qk5Z => decide); (case qk6Z => rfl); (case qk9Z => rfl); (case qk1Z => assumption); (case qk2Z => k_is); (case qk7Z => boot_fast); (case qk8Z => decide); k_whole))) | (with_reducible (((with_reducible show wpAny _ _ (newTuple _) _ _ _); (k_here; refine newTuple_L (by k_asm) (by k_asm) ?_ (Nat.le_of_ble_eq_true rfl); intro a9 h9 F9 N9 f9 k9; (try dsimp only))))) | (with_reducible (((with_reducible show wpAny _ _ (execs (Stmt.Assign _ _ _ :: _) _) _ _ _); refine wpAny_execs_cons ?_))) | (with_reducible (((with_reducible show TurnE _ _ _ _ _ _ _ _ _ _ _ _ _ _ _); dsimp only [TurnE]))) | (with_reducible ((k_here; (with_reducible show wpAny _ _ (call (Value.builtin "len") [Value.ref _]) _ _ _); refine len_tup_ints (IsTup.keeps (by assumption) (Fr.keep (by k_asm))) (by assumption) (by assumption) ?_))) | walk1 | (dsimp only; walk1)
      rename Fr _ _ _ _ => F14
      rename News _ _ _ _ => N14
      refine' kso_max (s := Shared.mk _ _ _ _ _) F14 N14 ⟨_, (N14 (D, _) (by k_mem)).1, rfl, _, rfl⟩ hR3 (runs_len l).2 rfl ?_
      intro h15 M15 t15 tk15 F15 N15 m15 b15
      have e15 : M15 = topOf (runsOf l) := top_eq (List.mem_append_left _ m15) (fun a ha => by
        rcases List.mem_append.mp ha with q | q
        · exact b15 a q
        · rw [List.mem_singleton.mp q]
          have := (runs_bound l _ m15).1
          omega)
      subst e15
      clear F14 N14 m15 b15
      dsimp only
      (repeat' (first | (k_unfold; (try dsimp only)) | ((fail_if_success (with_reducible show wpAny _ _ (pyIter _) _ _ _)); (fail_if_success (with_reducible show wpAny _ _ (subscriptTail _ (Expr.Slice _ _ _ _) _ _) _ _ _));  (fail_if_success (with_reducible show wpAny _ _ (compareOp _ (Value.ref _) (Value.ref _)) _ _ _)); (fail_if_success (with_reducible show wpAny _ _ (eval (Expr.ListComp _ _ _ _) _) _ _ _)); (fail_if_success (with_reducible show wpAny _ _ (exec (Stmt.Assign _ (Expr.ListComp _ _ _ _) _) _) _ _ _)); (first | (with_reducible (((with_reducible show wpAny _ _ (call (Value.builtin "str.lstrip") _) _ _ _); (k_dflt (refine lstrip_S (by omega) ?_); intro t9 k9; (try dsimp only))))) | ((with_reducible show wpAny _ _ (call (Value.builtin "str.lstrip") _) _ _ _); (k_dflt (refine lstrip_S (by omega) ?_); intro t9 k9; (try dsimp only))) | (with_reducible (((with_reducible show wpAny _ _ (call (Value.builtin "str.split") _) _ _ _); ((rename Fr _ _ _ _ => cF); (rename News _ _ _ _ => cN); k_dflt (refine split_S (by omega) ?_); intro D9 vs9 s9 e9 k9 i9; obtain ⟨h9, tk9, q9, k9⟩ := k9; subst q9; have F9 := Fr.keeps cF k9; have N9 := News.grown cN k9; clear cF cN; (try dsimp only))))) | ((with_reducible show wpAny _ _ (call (Value.builtin "str.split") _) _ _ _); ((rename Fr _ _ _ _ => cF); (rename News _ _ _ _ => cN); k_dflt (refine split_S (by omega) ?_); intro D9 vs9 s9 e9 k9 i9; obtain ⟨h9, tk9, q9, k9⟩ := k9; subst q9; have F9 := Fr.keeps cF k9; have N9 := News.grown cN k9; clear cF cN; (try dsimp only))) | (with_reducible (((with_reducible show wpAny _ _ (call (Value.builtin "len") [Value.str (Mine.T _) _]) _ _ _); refine len_T (by omega) ?_))) | ((with_reducible show wpAny _ _ (eval (Expr.Name _ _) (compEnvC _ _ _ _)) _ _ _); k_dflt (first | (refine' nmL ?qk1Z ?qk2Z ?_ ?qk3Z ?qk4Z ?qk5Z; (case qk3Z => rfl); (case qk4Z => rfl); (case qk5Z => decide); (case qk1Z => k_asm); (case qk2Z => rfl); k_whole) | (refine' nmC ?qk1Z ?qk2Z ?qk6Z ?_ ?qk3Z ?qk4Z ?qk5Z; (case qk3Z => rfl); (case qk4Z => rfl); (case qk5Z => decide); (case qk6Z => rfl); (case qk1Z => assumption); (case qk2Z => assumption); k_whole) | (refine' nmG ?qk1Z ?qk2Z ?_ ?qk6Z ?qk3Z ?qk4Z ?qk5Z; (case qk3Z => rfl); (case qk4Z => rfl); (case qk5Z => decide); (case qk6Z => rfl); (case qk1Z => assumption); (case qk2Z => k_is); k_whole) | (refine' nmB ?qk1Z ?qk2Z ?qk7Z ?qk8Z ?_ ?qk6Z ?qk9Z ?qk3Z ?qk4Z ?qk5Z; (case qk3Z => rfl); (case qk4Z => rfl); (case qk5Z => decide); (case qk6Z => rfl); (case qk9Z => rfl); (case qk1Z => assumption); (case qk2Z => k_is); (case qk7Z => boot_fast); (case qk8Z => decide); k_whole))) | (with_reducible (((with_reducible show wpAny _ _ (newTuple _) _ _ _); (k_here; refine newTuple_L (by k_asm) (by k_asm) ?_ (Nat.le_of_ble_eq_true rfl); intro a9 h9 F9 N9 f9 k9; (try dsimp only))))) | (with_reducible (((with_reducible show wpAny _ _ (execs (Stmt.Assign _ _ _ :: _) _) _ _ _); refine wpAny_execs_cons ?_))) | (with_reducible (((with_reducible show TurnE _ _ _ _ _ _ _ _ _ _ _ _ _ _ _); dsimp only [TurnE]))) | (with_reducible ((k_here; (with_reducible show wpAny _ _ (call (Value.builtin "len") [Value.ref _]) _ _ _); refine len_tup_ints (IsTup.keeps (by assumption) (Fr.keep (by k_asm))) (by assumption) (by assumption) ?_))) | walk1); all_goals (try dsimp only)) | dsimp only))
      rename News _ _ _ _ => N16
      rename Fr _ _ _ _ => F16
      refine hQ _ _ ⟨_, _, rfl, F16.keep⟩ ?_
      have hal : (List.take (if (-1 : Int) < 0 then (-1 : Int) + ys.length else -1).toNat ys).length = (aheadOf l).length := hR4.length
      refine tupN N16 (by k_mem) (.cons (tupN N16 (by k_mem) (.cons (.int _ _) (.cons ?_ (.cons (tupN N16 (by k_mem) (.cons (tupN N16 (by k_mem) (RdAll.ofInts hR10)) (.cons (.int _ _) .nil))) (.cons (.int _ _) .nil))))) (.cons (.bool _) .nil))
      rw [List.size_toArray, hal]
      exact .int _ _
end
end
section
noncomputable def addHead (b : Int) : List Int → List Int
  | [] => []
  | r :: t => (b + r) :: t
theorem addHead_add (a b : Int) (x : List Int) : addHead a (addHead b x) = addHead (a + b) x := by
  cases x with
  | nil => rfl
  | cons r t => simp [addHead, Int.add_assoc]
theorem addHead_zero (x : List Int) : addHead 0 x = x := by
  cases x with
  | nil => rfl
  | cons r t => simp [addHead]
theorem lead_nil : leadOf [] = [] := rfl
theorem lead_sp (r : List Nat) : leadOf (32 :: r) = 32 :: leadOf r := rfl
theorem lead_tab (r : List Nat) : leadOf (9 :: r) = 9 :: leadOf r := rfl
theorem lead_other {k : Nat} (r : List Nat) (h1 : k ≠ 32) (h2 : k ≠ 9) : leadOf (k :: r) = [] := by
  have e : blankTab k = false := by
    unfold blankTab
    rw [Bool.or_eq_false_iff]
    exact ⟨beq_eq_false_iff_ne.mpr h1, beq_eq_false_iff_ne.mpr h2⟩
  unfold leadOf
  rw [List.takeWhile_cons_of_neg (by rw [e]; decide)]
theorem split_ne9 {k : Nat} (h : k ≠ 9) (r : List Nat) : splitL (k :: r) = match splitL r with | p :: t => (k :: p) :: t | [] => [[k]] := by
  rw [splitL, if_neg h] <;> (cases splitL r <;> rfl)
theorem runs_nil : runsOf [] = [0] := rfl
theorem runs_sp (r : List Nat) : runsOf (32 :: r) = addHead 1 (runsOf r) := by
  unfold runsOf
  rw [lead_sp, split_ne9 (by decide)]
  cases h : splitL (leadOf r) with
  | nil => exact absurd h (splitL_ne _)
  | cons p t => simp [addHead]; (first | lia | omega)
theorem runs_tab (r : List Nat) : runsOf (9 :: r) = 0 :: runsOf r := by
  unfold runsOf
  rw [lead_tab, show splitL (9 :: leadOf r) = [] :: splitL (leadOf r) by rw [splitL]; simp]
  rfl
theorem runs_other {k : Nat} (r : List Nat) (h1 : k ≠ 32) (h2 : k ≠ 9) : runsOf (k :: r) = [0] := by
  unfold runsOf; rw [lead_other r h1 h2]; rfl
theorem runs_cons (l : List Nat) : ∃ r t, runsOf l = r :: t ∧ 0 ≤ r := by
  cases h : runsOf l with
  | nil => have := (runs_len l).2; rw [h] at this; simp at this
  | cons r t => exact ⟨r, t, rfl, (runs_bound l r (by rw [h]; exact List.mem_cons_self)).1⟩
/- what the walk has met: runs ahead of tabs, and blanks since -/
structure Met (l : List Nat) (i : Nat) (rs : List Int) (b : Int) : Prop where
  runs : runsOf l = rs ++ addHead b (runsOf (l.drop i))
  lead : (leadOf l).length = i + (leadOf (l.drop i)).length
  pos : 0 ≤ b
theorem Met.start (l : List Nat) : Met l 0 [] 0 := ⟨by rw [List.drop_zero, addHead_zero]; rfl, by rw [List.drop_zero]; (first | lia | omega), Int.le_refl _⟩
theorem Met.sp {l : List Nat} {i : Nat} {rs : List Int} {b : Int} (M : Met l i rs b) (h : l[i]? = some 32) : Met l (i + 1) rs (b + 1) := by
  have e := drop_at h
  refine ⟨?_, ?_, by have := M.pos; (first | lia | omega)⟩
  · rw [M.runs, e, runs_sp, addHead_add]
  · rw [M.lead, e, lead_sp, List.length_cons]; (first | lia | omega)
theorem Met.tab {l : List Nat} {i : Nat} {rs : List Int} {b : Int} (M : Met l i rs b) (h : l[i]? = some 9) : Met l (i + 1) (rs ++ [b]) 0 := by
  have e := drop_at h
  refine ⟨?_, ?_, Int.le_refl _⟩
  · rw [M.runs, e, runs_tab, addHead, addHead_zero, Int.add_zero, List.append_assoc]; rfl
  · rw [M.lead, e, lead_tab, List.length_cons]; (first | lia | omega)
theorem Met.bound {l : List Nat} {i : Nat} {rs : List Int} {b : Int} (M : Met l i rs b) : b ≤ l.length ∧ rs.length ≤ l.length ∧ ∀ r ∈ rs, 0 ≤ r ∧ r ≤ l.length := by
  obtain ⟨r, t, e, hr⟩ := runs_cons (l.drop i)
  have hM := M.runs
  rw [e, addHead] at hM
  have h1 := runs_bound l
  have h2 := (runs_len l).1
  rw [hM] at h1 h2
  refine ⟨?_, ?_, fun r hr => h1 r (List.mem_append_left _ hr)⟩
  · have := (h1 (b + r) (List.mem_append_right _ List.mem_cons_self)).2; (first | lia | omega)
  · rw [List.length_append, List.length_cons] at h2; (first | lia | omega)
theorem Met.out {l : List Nat} {i : Nat} {rs : List Int} {b : Int} (M : Met l i rs b) (h : runsOf (l.drop i) = [0]) : aheadOf l = rs ∧ lastOf l = b := by
  have hM := M.runs
  rw [h, addHead, Int.add_zero] at hM
  constructor
  · rw [aheadOf, hM]; simp
  · rw [lastOf, hM]; simp
theorem cnt_len (rs : List Int) : (cntOf rs).length = (topOf rs + 1).toNat := by rw [cntOf, List.length_map, List.length_range]
theorem cnt_get (rs : List Int) {i : Nat} (h : i < (topOf rs + 1).toNat) : (cntOf rs)[i]? = some ((rs.count (i : Int) : Nat) : Int) := by
  unfold cntOf
  rw [List.getElem?_map, List.getElem?_range h]; rfl
theorem top_snoc (rs : List Int) (b : Int) (_hb : -1 ≤ b) : topOf (rs ++ [b]) = max (topOf rs) b := by
  induction rs with
  | nil => exact Int.max_comm b (-1)
  | cons r t ih =>
    show max r (topOf (t ++ [b])) = max (max r (topOf t)) b
    rw [ih, Int.max_assoc]
theorem count_off (rs : List Int) {b i : Nat} (e : b ≠ i) : (rs ++ [(b : Int)]).count (i : Int) = rs.count (i : Int) := by
  rw [List.count_append, List.count_singleton, if_neg (by intro q; have q := beq_iff_eq.mp q; (first | lia | omega)), Nat.add_zero]
theorem cnt_in (rs : List Int) (b : Nat) (h : b < (cntOf rs).length) : cntOf (rs ++ [(b : Int)]) = (cntOf rs).set b (((rs.count (b : Int) : Nat) : Int) + 1) := by
  rw [cnt_len] at h
  have ht := top_snoc rs b (by (first | lia | omega))
  have ht' : topOf (rs ++ [(b : Int)]) = topOf rs := by rw [ht]; (first | lia | omega)
  apply List.ext_getElem?
  intro i
  by_cases hi : i < (topOf rs + 1).toNat
  · rw [cnt_get _ (by rw [ht']; exact hi), List.getElem?_set, cnt_len]
    by_cases e : b = i
    · subst e; simp [h, List.count_append]
    · rw [if_neg e, cnt_get _ hi, count_off rs e]
  · rw [List.getElem?_eq_none (by rw [cnt_len, ht']; (first | lia | omega)), List.getElem?_eq_none (by rw [List.length_set, cnt_len]; (first | lia | omega))]
theorem cnt_over (rs : List Int) (b : Nat) (h : (cntOf rs).length ≤ b) : cntOf (rs ++ [(b : Int)]) = (cntOf rs ++ List.replicate (b - (cntOf rs).length + 1) 0).set b 1 := by
  have hl := cnt_len rs
  rw [cnt_len] at h
  have hge := top_ge rs
  have ht := top_snoc rs b (by (first | lia | omega))
  have ht' : topOf (rs ++ [(b : Int)]) = b := by rw [ht]; (first | lia | omega)
  have h0 : rs.count (b : Int) = 0 := List.count_eq_zero.mpr fun hm => by have := top_le rs _ hm; (first | lia | omega)
  apply List.ext_getElem?
  intro i
  by_cases hi : i < b + 1
  · rw [cnt_get _ (by rw [ht']; (first | lia | omega)), List.getElem?_set]
    by_cases e : b = i
    · subst e
      rw [if_pos rfl, if_pos (by rw [List.length_append, List.length_replicate, hl]; (first | lia | omega))]
      simp [List.count_append, h0]
    · rw [if_neg e]
      by_cases hj : i < (topOf rs + 1).toNat
      · rw [List.getElem?_append_left (by rw [hl]; exact hj), cnt_get _ hj, count_off rs e]
      · rw [List.getElem?_append_right (by rw [hl]; (first | lia | omega)), List.getElem?_replicate, if_pos (by rw [hl]; (first | lia | omega))]
        have h1 : rs.count (i : Int) = 0 := List.count_eq_zero.mpr fun hm => by have := top_le rs _ hm; (first | lia | omega)
        rw [count_off rs e, h1]; rfl
  · rw [List.getElem?_eq_none (by rw [cnt_len, ht']; (first | lia | omega)), List.getElem?_eq_none (by rw [List.length_set, List.length_append, List.length_replicate, hl]; (first | lia | omega))]
theorem cnt_bound (rs : List Int) (n : Nat) (h1 : rs.length ≤ n) (h2 : ∀ r ∈ rs, r ≤ n) : (cntOf rs).length ≤ n + 1 ∧ ∀ c ∈ cntOf rs, 0 ≤ c ∧ c ≤ n := by
  constructor
  · rw [cnt_len]
    rcases top_mem rs with q | q
    · rw [q]; (first | lia | omega)
    · have := h2 _ q; (first | lia | omega)
  · intro c hc
    obtain ⟨i, _, rfl⟩ := List.mem_map.mp hc
    have := List.count_le_length (a := (i : Int)) (l := rs)
    (first | lia | omega)
theorem cnt_in2 {rs : List Int} {b : Int} (h0 : 0 ≤ b) (h : b < (cntOf rs).length) : cntOf (rs ++ [b]) = (cntOf rs).set b.toNat ((cntOf rs).getD b.toNat 0 + 1) := by
  obtain ⟨n, rfl⟩ := Int.eq_ofNat_of_zero_le h0
  have hn : n < (cntOf rs).length := by (first | lia | omega)
  have e := cnt_get rs (i := n) (by rw [← cnt_len]; exact hn)
  rw [cnt_in rs n hn, Int.toNat_natCast, List.getD_eq_getElem?_getD, e]; rfl
theorem rep_zero (k : Nat) : (List.replicate k [(0 : Int)]).flatten = List.replicate k 0 := by
  induction k with
  | zero => rfl
  | succ k ih => rw [List.replicate_succ, List.flatten_cons, ih]; rfl
theorem cnt_over2 {rs : List Int} {b : Int} (h : ((cntOf rs).length : Int) ≤ b) : cntOf (rs ++ [b]) = (cntOf rs ++ (List.replicate (b - ((cntOf rs).length : Nat) + 1).toNat [(0 : Int)]).flatten).set b.toNat ((cntOf rs ++ (List.replicate (b - ((cntOf rs).length : Nat) + 1).toNat [(0 : Int)]).flatten).getD b.toNat 0 + 1) := by
  obtain ⟨n, rfl⟩ := Int.eq_ofNat_of_zero_le (show 0 ≤ b by (first | lia | omega))
  have hn : (cntOf rs).length ≤ n := by (first | lia | omega)
  rw [rep_zero, cnt_over rs n hn, Int.toNat_natCast, show ((n : Int) - ((cntOf rs).length : Nat) + 1).toNat = n - (cntOf rs).length + 1 by (first | lia | omega), List.getD_eq_getElem?_getD, List.getElem?_append_right hn, List.getElem?_replicate, if_pos (by (first | lia | omega))]
  rfl
structure Sc where
  l : Addr
  vs : List Value
  nn : Nat
  rs : List Int
  b : Int
  n : Int
  tb : Tok
  tn : Tok
  tt : Tok
noncomputable def scLed (x dx : Addr) (D : Obj) (c : Sc) : List (Addr × Obj) := [(x, instObj 76 dx), (dx, D), (c.l, W.listOf c.vs.toArray c.nn)]
noncomputable def scPs (c : Sc) : List (Str × Value) := [(Str.ofString "count", .ref c.l), (Str.ofString "b", .int c.b c.tb), (Str.ofString "n", .int c.n c.tn), (Str.ofString "nt", .int c.rs.length c.tt)]
section
variable {prog : Program} {w : World} {A : Around} {E : Value → Shared → Prop} {s : Shared}
theorem enterInit {Q : Value → Shared → Prop} {name qual : Str} {params : Arguments} {body : List Stmt} {scope : Scope} {dV kV doc pm cdv ct oc : Value} {an od : Option Addr} {osl : Array (Option Value)} {C f : Addr} {args : List Value} {binds : Addr → List (Str × Value)}
    (G : Gd w.params s.heap) (hm : makesIn (hd.heap_39 w.params) C = true) (hi : findIn (hd.heap_39 w.params) (.ref C) "__init__" = some (some (.ref f))) (hf : typeIn (hd.heap_39 w.params) (.ref f) = some (.type "function"))
    (ho : (hd.heap_39 w.params).lookup f = some ⟨oc, od, .func (fnOf name qual params body scope dV kV doc pm an cdv ct), osl⟩) (hcd : codeIn (hd.heap_39 w.params) cdv qual = true) (hroom : (A.under (.builtin "type.__call__" ⟨.ref C :: args, []⟩)).depth < recursionLimit)
    (hbind : ∀ x s', BindsTo s' (fnOf name qual params body scope dV kV doc pm an cdv ct) ⟨.ref x :: args, []⟩ (binds x)) (hloc : ∀ x, ∀ y ∈ binds x, scope.names.lookup y.1 = some .local)
    (h : ∀ x dx L h₁, Fr s.heap L h₁ (fun y => (binds x).reverse.lookup y) → News s.heap L h₁ [(x, instObj C dx), (dx, dictOf [] 0)] → dx < x →
      wpAny (model prog w) ((A.under (.builtin "type.__call__" ⟨.ref C :: args, []⟩)).deeper (envOf qual scope L f cdv)) (execs body (envOf qual scope L f cdv))
        (fun fl s' => (match fl with | .ret v => v | _ => .none) = .none ∧ Q (.ref x) s') (fun _ _ => False)
        { s with heap := h₁, toks := s.toks + (binds x).length })
    (hco : scope.isCoroutine = false) (hgen : scope.isGenerator = false) (hk : scope.kind = .function)
    (hcell : ∀ x ∈ scope.names, x.2 ≠ .cell) : wpAny (model prog w) A (call (.ref C) args) Q E s := by
  obtain ⟨hp, g, d, t, os⟩ := s
  refine wpAny_call (make_core (makes_of G.k hm) (looks_findIn G.k hi) (fun self => bind_fn G.k self hf) (.inl rfl) ?_)
  have k : Sub hp ((hp.push emptyDict).push (instObj C hp.objs.size)) := fun b o e => Heap.get?_push_of_some _ (Heap.get?_push_of_some _ e)
  have G' := G.keeps k
  refine codeAny_call_def (fd := fnOf name qual params body scope dV kV doc pm an cdv ct) (body := body) (binds := binds (hp.objs.size + 1)) hroom (G'.k _ _ ho) rfl G'.lim (codeRec_of G'.k hcd) rfl (hbind _ _) hcell (hloc _) (fun h₁ hns hk₁ => ?_) hco hgen hk
  have sz : ((hp.push emptyDict).push (instObj C hp.objs.size)).objs.size = hp.objs.size + 2 := by rw [Heap.size_push, Heap.size_push]
  refine wpAny_mono (h (hp.objs.size + 1) hp.objs.size ((hp.push emptyDict).push (instObj C hp.objs.size)).objs.size h₁ ⟨hns, fun b o e => hk₁ b o (k b o e), by show hp.objs.size ≤ _; rw [sz]; omega⟩ ?_ (Nat.lt_succ_self _)) (fun fl s' z => z) fun _ _ x => x.elim
  intro p hp'
  rcases List.mem_cons.mp hp' with rfl | hp'
  · refine ⟨hk₁ _ _ (by heap_get), by rw [sz]; simp, Heap.get?_none_of_le (Nat.le_succ _)⟩
  · rw [List.mem_singleton.mp hp']
    exact ⟨hk₁ _ _ (by heap_get), by rw [sz]; simp, Heap.get?_none_of_le (Nat.le_refl _)⟩
end
noncomputable def ScanOut (s : Shared) (L x dx : Addr) (D : Obj) (m₀ : Str → Option Value) (l : List Nat) (f : Flow) (s' : Shared) : Prop :=
  f = .next ∧ ∃ (c : Sc) (u' : Str → Option Value) (h : Heap) (tk : Nat), s' = { s with heap := h, toks := tk } ∧ (aheadOf l = c.rs ∧ lastOf l = c.b ∧ c.n = (leadOf l).length ∧ IntsAre c.vs (cntOf c.rs)) ∧ Fr s.heap L h (fun y => if y = Str.ofString "ch" then u' y else kstB m₀ (scPs c) y) ∧ News s.heap L h (scLed x dx D c)
theorem same_if {P : Prop} [Decidable P] {α : Type} {a b c : α} (h : ¬ P) (e : b = c) : (if P then a else b) = c := (if_neg h).trans e
theorem scanMono {prog : Program} {w : World} {A : Around} {E : Value → Shared → Prop} {s s1 : Shared} {L x dx l' : Addr} {q : Addr × Obj} {r : List (Addr × Obj)} {D : Obj} {m₀ : Str → Option Value} {l : List Nat} {h : Heap} {t : Sem Flow} {Q : Flow → Shared → Prop}
    (_ : Fr s.heap L h m₀) (_ : News s.heap L h ((l', W.listOf #[] 0) :: q :: (x, instObj 76 dx) :: (dx, D) :: r)) (loop : wpAny (model prog w) A t (ScanOut s L x dx D m₀ l) (fun _ _ => False) s1) (fin : ∀ f s', ScanOut s L x dx D m₀ l f s' → Q f s') : wpAny (model prog w) A t Q E s1 :=
  wpAny_mono loop fin fun _ _ e => e.elim
theorem news_ne {h₀ h : Heap} {L a b : Addr} {news : List (Addr × Obj)} {o o' : Obj} (N : News h₀ L h news) (h1 : (a, o) ∈ news) (h2 : (b, o') ∈ news) (hc : o.cls ≠ o'.cls) : (a : Nat) ≠ b := by
  intro q
  have e1 := (N _ h1).1
  have e2 := (N _ h2).1
  have q : a = b := q
  subst q
  rw [e1] at e2
  exact hc (congrArg Obj.cls (Option.some.inj e2))
theorem turnSc {h₀ : Heap} {L x dx : Addr} {D : Obj} {m₀ m' : Str → Option Value} {P : Sc → Heap → Prop} {s : Shared} {fp : List Addr} {rest nws : List (Addr × Obj)} {h' : Heap} {tk' : Nat} {c : Sc} (c' : Sc)
    (F : Fr h₀ L h' m') (N : News h₀ L h' nws) (hled : ∀ p ∈ scLed x dx D c', p ∈ nws) (hr : ∀ p ∈ rest, p ∈ nws) (hl : c'.l = c.l ∨ ∀ q ∈ rest, q.1 ≠ c'.l)
    (hps : ∀ p ∈ scPs c', m' p.1 = some p.2) (same : ∀ z, z ≠ Str.ofString "ch" → (∀ p ∈ scPs c', z ≠ p.1) → m' z = m₀ z)
    (hP : P c' (nw h₀ (L :: (fp ++ (scLed x dx D c').map (·.1))) h')) : TurnD h₀ L (Str.ofString "ch") m₀ (scLed x dx D) scPs [] P s fp ((scLed x dx D c).map (·.1)) rest { s with heap := h', toks := tk' } := by
  have h3 : ∀ p ∈ scLed x dx D c', p.1 ∈ (scLed x dx D c).map (·.1) ∨ ∀ q ∈ rest, q.1 ≠ p.1 := by
    intro p hp
    rw [scLed] at hp
    rcases List.mem_cons.mp hp with rfl | hp
    · left; show x ∈ [x, dx, c.l]; simp
    rcases List.mem_cons.mp hp with rfl | hp
    · left; show dx ∈ [x, dx, c.l]; simp
    rw [List.mem_singleton.mp hp]
    rcases hl with q | q
    · left; show c'.l ∈ [x, dx, c.l]; simp [q]
    · exact .inr q
  exact ⟨c', h', tk', m', nws, rfl, F, N, hled, hr, h3, hps, fun z h1 h2 _ => same z h1 h2, hP⟩
theorem scPs_all {c : Sc} {P : Str × Value → Prop} (h1 : P (Str.ofString "count", .ref c.l)) (h2 : P (Str.ofString "b", .int c.b c.tb)) (h3 : P (Str.ofString "n", .int c.n c.tn)) (h4 : P (Str.ofString "nt", .int c.rs.length c.tt)) : ∀ p ∈ scPs c, P p := by
  intro p hp
  rw [scPs] at hp
  rcases List.mem_cons.mp hp with rfl | hp
  · exact h1
  rcases List.mem_cons.mp hp with rfl | hp
  · exact h2
  rcases List.mem_cons.mp hp with rfl | hp
  · exact h3
  rw [List.mem_singleton.mp hp]; exact h4
theorem scLed_all {x dx : Addr} {D : Obj} {c : Sc} {P : Addr × Obj → Prop} (h1 : P (x, instObj 76 dx)) (h2 : P (dx, D)) (h3 : P (c.l, W.listOf c.vs.toArray c.nn)) : ∀ p ∈ scLed x dx D c, P p := by
  intro p hp
  rw [scLed] at hp
  rcases List.mem_cons.mp hp with rfl | hp
  · exact h1
  rcases List.mem_cons.mp hp with rfl | hp
  · exact h2
  rw [List.mem_singleton.mp hp]; exact h3
theorem rest3 {a b c : Addr × Obj} {rest : List (Addr × Obj)} : ∀ p ∈ rest, p ∈ a :: b :: c :: rest := fun _ hp => List.mem_cons_of_mem _ (List.mem_cons_of_mem _ (List.mem_cons_of_mem _ hp))
theorem rest6 {a b c d e f : Addr × Obj} {rest : List (Addr × Obj)} : ∀ p ∈ rest, p ∈ a :: b :: c :: d :: e :: f :: rest := fun p hp => rest3 p (rest3 p hp)
theorem allLt_mem {d : Nat} {l : List (Addr × Obj)} (h : AllLt d l) : ∀ p ∈ l, p.1 ≠ d := by
  induction l with
  | nil => intro p hp; exact absurd hp List.not_mem_nil
  | cons a r ih =>
    intro p hp
    rcases List.mem_cons.mp hp with q | q
    · rw [q]; exact Nat.ne_of_lt h.1
    · exact ih h.2 p q
section
variable {prog : Program} {w : World} {E : Value → Shared → Prop} {s : Shared}
set_option maxHeartbeats 1000000 in
theorem init_spec {l : List Nat} {u : Tok} (G : Gd w.params s.heap) (hlen : l.length ≤ 500) {Q : Value → Shared → Prop}
    (hQ : ∀ x s', Keeps s s' → WS (nw s.heap [] s'.heap) x (Mine.T l) (leadOf l).length (aheadOf l).length (cntOf (aheadOf l)) (lastOf l) (decide ((cntOf (aheadOf l)).length ≤ 1)) → Q (.ref x) s') :
    wpAny (model prog w) (ar 500 500) (call (.ref 76) [.str (Mine.T l) u]) Q E s := by
  have X := G.k
  obtain ⟨p, loose, mg, mb, TT⟩ := G.t
  refine' enterInit (binds := fun x => [(Str.ofString "self", .ref x), (Str.ofString "ws", .str (Mine.T l) u)]) G ?k1 ?k2 ?k3 ?k6 ?k7 ?k8 ?k9 ?kB ?_ ?c2 ?c3 ?c4 ?c5
  case k1 => k_dflt k_is
  case k2 => k_dflt k_is
  case k3 => k_dflt k_is
  case k6 => k_dflt k_is
  case k7 => k_dflt k_is
  case k8 => exact Nat.le_of_ble_eq_true rfl
  case k9 => intro _ _; exact BindsTo.of_eq rfl
  case kB => intro _; exact locs rfl
  case c2 => exact rfl
  case c3 => exact rfl
  case c4 => exact rfl
  case c5 => decide
  intro x dx L h₁ F N hxd
  k_fold
  replace hxd := ltN hxd
  (repeat' (first | (k_unfold; (try dsimp only)) | ((fail_if_success (with_reducible show wpAny _ _ (pyIter _) _ _ _)); (fail_if_success (with_reducible show wpAny _ _ (exec (Stmt.For _ _ _ _ _) _) _ _ _)); (first | ((with_reducible show wpAny _ _ (eval (Expr.Name _ _) (compEnvC _ _ _ _)) _ _ _); k_dflt (first | (refine' nmL ?qk1Z ?qk2Z ?_ ?qk3Z ?qk4Z ?qk5Z; (case qk3Z => rfl); (case qk4Z => rfl); (case qk5Z => decide); (case qk1Z => k_asm); (case qk2Z => rfl); k_whole) | (refine' nmC ?qk1Z ?qk2Z ?qk6Z ?_ ?qk3Z ?qk4Z ?qk5Z; (case qk3Z => rfl); (case qk4Z => rfl); (case qk5Z => decide); (case qk6Z => rfl); (case qk1Z => assumption); (case qk2Z => assumption); k_whole) | (refine' nmG ?qk1Z ?qk2Z ?_ ?qk6Z ?qk3Z ?qk4Z ?qk5Z; (case qk3Z => rfl); (case qk4Z => rfl); (case qk5Z => decide); (case qk6Z => rfl); (case qk1Z => assumption); (case qk2Z => k_is); k_whole) | (refine' nmB ?qk1Z ?qk2Z ?qk7Z ?qk8Z ?_ ?qk6Z ?qk9Z ?qk3Z ?qk4Z ?qk5Z; (case qk3Z => rfl); (case qk4Z => rfl); (case qk5Z => decide); (case qk6Z => rfl); (case qk9Z => rfl); (case qk1Z => assumption); (case qk2Z => k_is); (case qk7Z => boot_fast); (case qk8Z => decide); k_whole))) | (with_reducible (((with_reducible show wpAny _ _ (newTuple _) _ _ _); (k_here; refine newTuple_L (by k_asm) (by k_asm) ?_ (Nat.le_of_ble_eq_true rfl); intro a9 h9 F9 N9 f9 k9; (try dsimp only))))) | (with_reducible (((with_reducible show wpAny _ _ (execs (Stmt.Assign _ _ _ :: _) _) _ _ _); refine wpAny_execs_cons ?_))) | (with_reducible (((with_reducible show TurnE _ _ _ _ _ _ _ _ _ _ _ _ _ _ _); dsimp only [TurnE]))) | (with_reducible ((k_here; (with_reducible show wpAny _ _ (call (Value.builtin "len") [Value.ref _]) _ _ _); refine len_tup_ints (IsTup.keeps (by assumption) (Fr.keep (by k_asm))) (by assumption) (by assumption) ?_))) | walk1); all_goals (try dsimp only)) | dsimp only))
  rename News _ _ _ _ => N1
  rename Fr _ _ _ _ => F1
  rename _ ∧ _ < _ ∧ _ < _ => l1
  refine' scanMono (l := l) F1 N1 ?loop ?fin
  case fin =>
    rintro _ _ ⟨rfl, c, u', h, tk, rfl, ⟨p1, p2, p3, p4⟩, F2, N2⟩
    replace N2 : News s.heap L h [(x, instObj 76 dx), (dx, _), (c.l, W.listOf c.vs.toArray c.nn)] := N2
    have hne1 := neN (news_ne N2 (a := x) (b := c.l) (by k_mem) (.tail _ (.tail _ (.head _))) (by intro q; cases q))
    have hne2 := neN (news_ne N2 (a := dx) (b := c.l) (.tail _ (.head _)) (.tail _ (.tail _ (.head _))) (by intro q; injection q with q; exact absurd q (by decide)))
    have hb1 := runs_bound l
    have hb2 := (runs_len l).1
    have hb3 : (aheadOf l).length ≤ l.length := by rw [aheadOf, List.length_take]; omega
    have hcb := cnt_bound (aheadOf l) l.length hb3 (fun r hr => (hb1 r (List.mem_of_mem_take hr)).2)
    have hlb : 0 ≤ lastOf l ∧ lastOf l ≤ l.length := by
      rw [lastOf, List.getD_eq_getElem?_getD]
      have h3 := (runs_len l).2
      rw [List.getElem?_eq_getElem (by omega)]
      exact hb1 _ (List.getElem_mem _)
    rw [← p1] at p4
    have hvl := p4.length
    have hcl := hcb.1
    clear F1 N1 l1
    dsimp only
    (repeat' (first | (k_unfold; (try dsimp only)) | ((fail_if_success (with_reducible show wpAny _ _ (pyIter _) _ _ _)); (fail_if_success (with_reducible show wpAny _ _ (exec (Stmt.For _ _ _ _ _) _) _ _ _)); (first | ((with_reducible show wpAny _ _ (eval (Expr.Name _ _) (compEnvC _ _ _ _)) _ _ _); k_dflt (first | (refine' nmL ?qk1Z ?qk2Z ?_ ?qk3Z ?qk4Z ?qk5Z; (case qk3Z => rfl); (case qk4Z => rfl); (case qk5Z => decide); (case qk1Z => k_asm); (case qk2Z => rfl); k_whole) | (refine' nmC ?qk1Z ?qk2Z ?qk6Z ?_ ?qk3Z ?qk4Z ?qk5Z; (case qk3Z => rfl); (case qk4Z => rfl); (case qk5Z => decide); (case qk6Z => rfl); (case qk1Z => assumption); (case qk2Z => assumption); k_whole) | (refine' nmG ?qk1Z ?qk2Z ?_ ?qk6Z ?qk3Z ?qk4Z ?qk5Z; (case qk3Z => rfl); (case qk4Z => rfl); (case qk5Z => decide); (case qk6Z => rfl); (case qk1Z => assumption); (case qk2Z => k_is); k_whole) | (refine' nmB ?qk1Z ?qk2Z ?qk7Z ?qk8Z ?_ ?qk6Z ?qk9Z ?qk3Z ?qk4Z ?qk5Z; (case qk3Z => rfl); (case qk4Z => rfl); (case qk5Z => decide); (case qk6Z => rfl); (case qk9Z => rfl); (case qk1Z => assumption); (case qk2Z => k_is); (case qk7Z => boot_fast); (case qk8Z => decide); k_whole))) | (with_reducible (((with_reducible show wpAny _ _ (newTuple _) _ _ _); (k_here; refine newTuple_L (by k_asm) (by k_asm) ?_ (Nat.le_of_ble_eq_true rfl); intro a9 h9 F9 N9 f9 k9; (try dsimp only))))) | (with_reducible (((with_reducible show wpAny _ _ (execs (Stmt.Assign _ _ _ :: _) _) _ _ _); refine wpAny_execs_cons ?_))) | (with_reducible (((with_reducible show TurnE _ _ _ _ _ _ _ _ _ _ _ _ _ _ _); dsimp only [TurnE]))) | (with_reducible ((k_here; (with_reducible show wpAny _ _ (call (Value.builtin "len") [Value.ref _]) _ _ _); refine len_tup_ints (IsTup.keeps (by assumption) (Fr.keep (by k_asm))) (by assumption) (by assumption) ?_))) | walk1); all_goals (try dsimp only)) | dsimp only))
    rename News _ _ _ _ => N3
    have hne3 := neN (news_ne N3 (.head _) (.tail _ (.tail _ (.tail _ (.head _)))) (by intro q; injection q with q; exact absurd q (by decide)))
    have hne4 := neN (news_ne N3 (.tail _ (.head _)) (.tail _ (.tail _ (.tail _ (.head _)))) (by intro q; injection q with q; exact absurd q (by decide)))
    (repeat' (first | (k_unfold; (try dsimp only)) | ((fail_if_success (with_reducible show wpAny _ _ (pyIter _) _ _ _)); (fail_if_success (with_reducible show wpAny _ _ (exec (Stmt.For _ _ _ _ _) _) _ _ _)); (first | ((with_reducible show wpAny _ _ (eval (Expr.Name _ _) (compEnvC _ _ _ _)) _ _ _); k_dflt (first | (refine' nmL ?qk1Z ?qk2Z ?_ ?qk3Z ?qk4Z ?qk5Z; (case qk3Z => rfl); (case qk4Z => rfl); (case qk5Z => decide); (case qk1Z => k_asm); (case qk2Z => rfl); k_whole) | (refine' nmC ?qk1Z ?qk2Z ?qk6Z ?_ ?qk3Z ?qk4Z ?qk5Z; (case qk3Z => rfl); (case qk4Z => rfl); (case qk5Z => decide); (case qk6Z => rfl); (case qk1Z => assumption); (case qk2Z => assumption); k_whole) | (refine' nmG ?qk1Z ?qk2Z ?_ ?qk6Z ?qk3Z ?qk4Z ?qk5Z; (case qk3Z => rfl); (case qk4Z => rfl); (case qk5Z => decide); (case qk6Z => rfl); (case qk1Z => assumption); (case qk2Z => k_is); k_whole) | (refine' nmB ?qk1Z ?qk2Z ?qk7Z ?qk8Z ?_ ?qk6Z ?qk9Z ?qk3Z ?qk4Z ?qk5Z; (case qk3Z => rfl); (case qk4Z => rfl); (case qk5Z => decide); (case qk6Z => rfl); (case qk9Z => rfl); (case qk1Z => assumption); (case qk2Z => k_is); (case qk7Z => boot_fast); (case qk8Z => decide); k_whole))) | (with_reducible (((with_reducible show wpAny _ _ (newTuple _) _ _ _); (k_here; refine newTuple_L (by k_asm) (by k_asm) ?_ (Nat.le_of_ble_eq_true rfl); intro a9 h9 F9 N9 f9 k9; (try dsimp only))))) | (with_reducible (((with_reducible show wpAny _ _ (execs (Stmt.Assign _ _ _ :: _) _) _ _ _); refine wpAny_execs_cons ?_))) | (with_reducible (((with_reducible show TurnE _ _ _ _ _ _ _ _ _ _ _ _ _ _ _); dsimp only [TurnE]))) | (with_reducible ((k_here; (with_reducible show wpAny _ _ (call (Value.builtin "len") [Value.ref _]) _ _ _); refine len_tup_ints (IsTup.keeps (by assumption) (Fr.keep (by k_asm))) (by assumption) (by assumption) ?_))) | walk1); all_goals (try dsimp only)) | dsimp only))
    rename News _ _ _ _ => N4
    rename Fr _ _ _ _ => F4
    refine' Calls.call_len_list (s := Shared.mk _ _ _ _ _) ⟨_, (N4 (c.l, _) (by k_mem)).1, rfl, _, rfl⟩ ?_ ?_
    · rw [List.size_toArray]; omega
    rw [List.size_toArray, hvl]
    (repeat' (first | (k_unfold; (try dsimp only)) | ((fail_if_success (with_reducible show wpAny _ _ (pyIter _) _ _ _)); (fail_if_success (with_reducible show wpAny _ _ (exec (Stmt.For _ _ _ _ _) _) _ _ _)); (first | ((with_reducible show wpAny _ _ (eval (Expr.Name _ _) (compEnvC _ _ _ _)) _ _ _); k_dflt (first | (refine' nmL ?qk1Z ?qk2Z ?_ ?qk3Z ?qk4Z ?qk5Z; (case qk3Z => rfl); (case qk4Z => rfl); (case qk5Z => decide); (case qk1Z => k_asm); (case qk2Z => rfl); k_whole) | (refine' nmC ?qk1Z ?qk2Z ?qk6Z ?_ ?qk3Z ?qk4Z ?qk5Z; (case qk3Z => rfl); (case qk4Z => rfl); (case qk5Z => decide); (case qk6Z => rfl); (case qk1Z => assumption); (case qk2Z => assumption); k_whole) | (refine' nmG ?qk1Z ?qk2Z ?_ ?qk6Z ?qk3Z ?qk4Z ?qk5Z; (case qk3Z => rfl); (case qk4Z => rfl); (case qk5Z => decide); (case qk6Z => rfl); (case qk1Z => assumption); (case qk2Z => k_is); k_whole) | (refine' nmB ?qk1Z ?qk2Z ?qk7Z ?qk8Z ?_ ?qk6Z ?qk9Z ?qk3Z ?qk4Z ?qk5Z; (case qk3Z => rfl); (case qk4Z => rfl); (case qk5Z => decide); (case qk6Z => rfl); (case qk9Z => rfl); (case qk1Z => assumption); (case qk2Z => k_is); (case qk7Z => boot_fast); (case qk8Z => decide); k_whole))) | (with_reducible (((with_reducible show wpAny _ _ (newTuple _) _ _ _); (k_here; refine newTuple_L (by k_asm) (by k_asm) ?_ (Nat.le_of_ble_eq_true rfl); intro a9 h9 F9 N9 f9 k9; (try dsimp only))))) | (with_reducible (((with_reducible show wpAny _ _ (execs (Stmt.Assign _ _ _ :: _) _) _ _ _); refine wpAny_execs_cons ?_))) | (with_reducible (((with_reducible show TurnE _ _ _ _ _ _ _ _ _ _ _ _ _ _ _); dsimp only [TurnE]))) | (with_reducible ((k_here; (with_reducible show wpAny _ _ (call (Value.builtin "len") [Value.ref _]) _ _ _); refine len_tup_ints (IsTup.keeps (by assumption) (Fr.keep (by k_asm))) (by assumption) (by assumption) ?_))) | walk1); all_goals (try dsimp only)) | dsimp only))
    rename News _ _ _ _ => N5
    rename Fr _ _ _ _ => F5
    have nwg : ∀ a o, (a, o) ∈ _ → (nw s.heap [] _).get? a = some o := fun a o hm => nw_get.mpr ⟨(N5 (a, o) hm).1, List.not_mem_nil, (N5 (a, o) hm).2.2⟩
    refine hQ x _ ⟨_, _, rfl, F5.keep⟩ ?_
    rw [← p3, p2, ← decide_eq_decide.mpr (show (((cntOf (aheadOf l)).length : Int) ≤ 1) ↔ (cntOf (aheadOf l)).length ≤ 1 by omega)]
    refine' ⟨dx, _, _, _, _, _, _, _, _, _, _, _, _, _, _, _, _, _, c.vs, nwg _ _ (by k_mem), ?w2, ⟨_, nwg _ _ (by k_mem), rfl, _, rfl⟩, ⟨_, nwg _ _ (by k_mem), rfl, _, rfl⟩, p4, ?w3, ?w4, ?w5, ?w6, ?w7, ?w8⟩
    case w2 => rw [show ((aheadOf l).length : Int) = c.rs.length by rw [p1]]; exact nwg _ _ (by k_mem)
    case w3 => omega
    case w4 => intro z hz; have := hcb.2 z hz; omega
    case w5 => omega
    case w6 => omega
    case w7 => omega
    case w8 => omega
  case loop =>
    refine For_d ?_ ?_
    · (repeat' (first | (k_unfold; (try dsimp only)) | ((fail_if_success (with_reducible show wpAny _ _ (pyIter _) _ _ _)); (fail_if_success (with_reducible show wpAny _ _ (exec (Stmt.For _ _ _ _ _) _) _ _ _)); (first | ((with_reducible show wpAny _ _ (eval (Expr.Name _ _) (compEnvC _ _ _ _)) _ _ _); k_dflt (first | (refine' nmL ?qk1Z ?qk2Z ?_ ?qk3Z ?qk4Z ?qk5Z; (case qk3Z => rfl); (case qk4Z => rfl); (case qk5Z => decide); (case qk1Z => k_asm); (case qk2Z => rfl); k_whole) | (refine' nmC ?qk1Z ?qk2Z ?qk6Z ?_ ?qk3Z ?qk4Z ?qk5Z; (case qk3Z => rfl); (case qk4Z => rfl); (case qk5Z => decide); (case qk6Z => rfl); (case qk1Z => assumption); (case qk2Z => assumption); k_whole) | (refine' nmG ?qk1Z ?qk2Z ?_ ?qk6Z ?qk3Z ?qk4Z ?qk5Z; (case qk3Z => rfl); (case qk4Z => rfl); (case qk5Z => decide); (case qk6Z => rfl); (case qk1Z => assumption); (case qk2Z => k_is); k_whole) | (refine' nmB ?qk1Z ?qk2Z ?qk7Z ?qk8Z ?_ ?qk6Z ?qk9Z ?qk3Z ?qk4Z ?qk5Z; (case qk3Z => rfl); (case qk4Z => rfl); (case qk5Z => decide); (case qk6Z => rfl); (case qk9Z => rfl); (case qk1Z => assumption); (case qk2Z => k_is); (case qk7Z => boot_fast); (case qk8Z => decide); k_whole))) | (with_reducible (((with_reducible show wpAny _ _ (newTuple _) _ _ _); (k_here; refine newTuple_L (by k_asm) (by k_asm) ?_ (Nat.le_of_ble_eq_true rfl); intro a9 h9 F9 N9 f9 k9; (try dsimp only))))) | (with_reducible (((with_reducible show wpAny _ _ (execs (Stmt.Assign _ _ _ :: _) _) _ _ _); refine wpAny_execs_cons ?_))) | (with_reducible (((with_reducible show TurnE _ _ _ _ _ _ _ _ _ _ _ _ _ _ _); dsimp only [TurnE]))) | (with_reducible ((k_here; (with_reducible show wpAny _ _ (call (Value.builtin "len") [Value.ref _]) _ _ _); refine len_tup_ints (IsTup.keeps (by assumption) (Fr.keep (by k_asm))) (by assumption) (by assumption) ?_))) | walk1); all_goals (try dsimp only)) | dsimp only))
      rename News _ _ _ [(_, _), _, _, _] => N1
      rename Fr _ _ _ _ => F1
      refine' forText (σ := Sc) (scLed x dx _) scPs [] (fun i c _ => Met l i c.rs c.b ∧ c.n = i ∧ IntsAre c.vs (cntOf c.rs)) ⟨_, [], 0, [], 0, 0, _, _, _⟩ rfl rfl rfl F1 (fun p hp => N1 p ?hn) ?hk (fun _ _ _ _ h _ => h) ⟨Met.start l, rfl, .nil⟩ ?turn ?done
      case hn =>
        rcases List.mem_cons.mp hp with rfl | hp
        · k_mem
        rcases List.mem_cons.mp hp with rfl | hp
        · k_mem
        rw [List.mem_singleton.mp hp]; k_mem
      case hk =>
        intro p hp
        rcases List.mem_cons.mp hp with rfl | hp
        · exact rfl
        rcases List.mem_cons.mp hp with rfl | hp
        · exact rfl
        rcases List.mem_cons.mp hp with rfl | hp
        · exact rfl
        rw [List.mem_singleton.mp hp]; exact rfl
      case turn =>
        intro c i k I t' u' h tk rest hk ho hP hall hI F' N'
        obtain ⟨M, hn, hi⟩ := hP
        rw [T_cps] at hk
        have hb := M.bound
        have hb0 := M.pos
        have N2 : News s.heap L h ((x, instObj 76 dx) :: (dx, _) :: (c.l, W.listOf c.vs.toArray c.nn) :: rest) := N'
        have hne1 := neN (news_ne N2 (a := x) (b := c.l) (by k_mem) (.tail _ (.tail _ (.head _))) (by intro q; cases q))
        have hne2 := neN (news_ne N2 (a := dx) (b := c.l) (.tail _ (.head _)) (.tail _ (.tail _ (.head _))) (by intro q; injection q with q; exact absurd q (by decide)))
        have hoff : ∀ p ∈ rest, p.1 ≠ c.l := fun p hp => ho p hp _ (by k_mem)
        have hcb := cnt_bound c.rs l.length hb.2.1 (fun r hr => (hb.2.2 r hr).2)
        have hvl := hi.length
        have hcl := hcb.1
        have hbl := hb.1
        (repeat' (first | (k_unfold; (try dsimp only)) | ((fail_if_success (with_reducible show wpAny _ _ (pyIter _) _ _ _)); (fail_if_success (with_reducible show wpAny _ _ (exec (Stmt.For _ _ _ _ _) _) _ _ _)); (first | ((with_reducible show wpAny _ _ (eval (Expr.Name _ _) (compEnvC _ _ _ _)) _ _ _); k_dflt (first | (refine' nmL ?qk1Z ?qk2Z ?_ ?qk3Z ?qk4Z ?qk5Z; (case qk3Z => rfl); (case qk4Z => rfl); (case qk5Z => decide); (case qk1Z => k_asm); (case qk2Z => rfl); k_whole) | (refine' nmC ?qk1Z ?qk2Z ?qk6Z ?_ ?qk3Z ?qk4Z ?qk5Z; (case qk3Z => rfl); (case qk4Z => rfl); (case qk5Z => decide); (case qk6Z => rfl); (case qk1Z => assumption); (case qk2Z => assumption); k_whole) | (refine' nmG ?qk1Z ?qk2Z ?_ ?qk6Z ?qk3Z ?qk4Z ?qk5Z; (case qk3Z => rfl); (case qk4Z => rfl); (case qk5Z => decide); (case qk6Z => rfl); (case qk1Z => assumption); (case qk2Z => k_is); k_whole) | (refine' nmB ?qk1Z ?qk2Z ?qk7Z ?qk8Z ?_ ?qk6Z ?qk9Z ?qk3Z ?qk4Z ?qk5Z; (case qk3Z => rfl); (case qk4Z => rfl); (case qk5Z => decide); (case qk6Z => rfl); (case qk9Z => rfl); (case qk1Z => assumption); (case qk2Z => k_is); (case qk7Z => boot_fast); (case qk8Z => decide); k_whole))) | (with_reducible (((with_reducible show wpAny _ _ (newTuple _) _ _ _); (k_here; refine newTuple_L (by k_asm) (by k_asm) ?_ (Nat.le_of_ble_eq_true rfl); intro a9 h9 F9 N9 f9 k9; (try dsimp only))))) | (with_reducible (((with_reducible show wpAny _ _ (execs (Stmt.Assign _ _ _ :: _) _) _ _ _); refine wpAny_execs_cons ?_))) | (with_reducible (((with_reducible show TurnE _ _ _ _ _ _ _ _ _ _ _ _ _ _ _); dsimp only [TurnE]))) | (with_reducible ((k_here; (with_reducible show wpAny _ _ (call (Value.builtin "len") [Value.ref _]) _ _ _); refine len_tup_ints (IsTup.keeps (by assumption) (Fr.keep (by k_asm))) (by assumption) (by assumption) ?_))) | walk1); all_goals (try dsimp only)) | dsimp only))
        · rename (_ == _) = true => e1
          have e1 := sp_eq e1
          rw [of_decide_eq_true e1] at hk
          rename Fr _ _ _ _ => F3
          rename News _ _ _ _ => N3
          refine' turnSc (c := c) ⟨c.l, c.vs, c.nn, c.rs, c.b + 1, c.n + 1, _, _, _⟩ F3 N3 ?hled ?hr ?hl ?hps ?same ⟨M.sp hk, ?p2, hi⟩
          case hled => refine' scLed_all ?_ ?_ ?_ <;> k_mem
          case hr => first | exact rest6 | exact rest3
          case hl => exact .inl rfl
          case hps =>
            refine' scPs_all ?_ ?_ ?_ ?_
            · exact rfl
            · exact rfl
            · exact rfl
            · dsimp only
              exact rfl
          case same =>
            intro z h1 h2
            have g1 := h2 _ (.head _)
            have g2 := h2 _ (.tail _ (.head _))
            have g3 := h2 _ (.tail _ (.tail _ (.head _)))
            have g4 := h2 _ (.tail _ (.tail _ (.tail _ (.head _))))
            repeat (first | refine same_if h1 ?_ | refine same_if g1 ?_ | refine same_if g2 ?_ | refine same_if g3 ?_ | refine same_if g4 ?_)
            refine Eq.symm ?_
            repeat (first | refine same_if h1 ?_ | refine same_if g1 ?_ | refine same_if g2 ?_ | refine same_if g3 ?_ | refine same_if g4 ?_)
            exact rfl
          case p2 => show c.n + 1 = _; omega
        · rename (_ == Str.ofString "\t") = true => e2
          have e2 := tb_eq e2
          rw [of_decide_eq_true e2] at hk
          rename Fr _ _ _ _ => F3
          rename News _ _ _ _ => N3
          rename IntsAre (List.set _ _ _) _ => hi3
          rename ((cntOf c.rs).length : Int) ≤ c.b => hle
          rename _ ∧ _ ∧ _ ∧ _ ∧ _ ∧ AllLt _ rest => l9
          refine' turnSc (c := c) ⟨_, _, _, c.rs ++ [c.b], 0, c.n + 1, _, _, _⟩ F3 N3 ?hled ?hr ?hl ?hps ?same ⟨M.tab hk, ?p2, ?p3⟩
          case hled => refine' scLed_all ?_ ?_ ?_ <;> k_mem
          case hr => first | exact rest6 | exact rest3
          case hl => exact .inr (allLt_mem l9.2.2.2.2.2)
          case hps =>
            refine' scPs_all ?_ ?_ ?_ ?_
            · exact rfl
            · exact rfl
            · exact rfl
            · dsimp only
              rw [show ((c.rs ++ [c.b]).length : Int) = c.rs.length + 1 by rw [List.length_append]; rfl]
              exact rfl
          case same =>
            intro z h1 h2
            have g1 := h2 _ (.head _)
            have g2 := h2 _ (.tail _ (.head _))
            have g3 := h2 _ (.tail _ (.tail _ (.head _)))
            have g4 := h2 _ (.tail _ (.tail _ (.tail _ (.head _))))
            repeat (first | refine same_if h1 ?_ | refine same_if g1 ?_ | refine same_if g2 ?_ | refine same_if g3 ?_ | refine same_if g4 ?_)
            refine Eq.symm ?_
            repeat (first | refine same_if h1 ?_ | refine same_if g1 ?_ | refine same_if g2 ?_ | refine same_if g3 ?_ | refine same_if g4 ?_)
            exact rfl
          case p2 => show c.n + 1 = _; omega
          case p3 => show IntsAre _ (cntOf (c.rs ++ [c.b])); rw [cnt_over2 hle]; exact hi3
        · rename (_ == Str.ofString "\t") = true => e2
          have e2 := tb_eq e2
          rw [of_decide_eq_true e2] at hk
          rename Fr _ _ _ _ => F3
          rename News _ _ _ _ => N3
          rename IntsAre (List.set _ _ _) _ => hi3
          rename ¬ ((cntOf c.rs).length : Int) ≤ c.b => hle
          refine' turnSc (c := c) ⟨_, _, _, c.rs ++ [c.b], 0, c.n + 1, _, _, _⟩ F3 N3 ?hled ?hr ?hl ?hps ?same ⟨M.tab hk, ?p2, ?p3⟩
          case hled => refine' scLed_all ?_ ?_ ?_ <;> k_mem
          case hr => first | exact rest6 | exact rest3
          case hl => exact .inl rfl
          case hps =>
            refine' scPs_all ?_ ?_ ?_ ?_
            · exact rfl
            · exact rfl
            · exact rfl
            · dsimp only
              rw [show ((c.rs ++ [c.b]).length : Int) = c.rs.length + 1 by rw [List.length_append]; rfl]
              exact rfl
          case same =>
            intro z h1 h2
            have g1 := h2 _ (.head _)
            have g2 := h2 _ (.tail _ (.head _))
            have g3 := h2 _ (.tail _ (.tail _ (.head _)))
            have g4 := h2 _ (.tail _ (.tail _ (.tail _ (.head _))))
            repeat (first | refine same_if h1 ?_ | refine same_if g1 ?_ | refine same_if g2 ?_ | refine same_if g3 ?_ | refine same_if g4 ?_)
            refine Eq.symm ?_
            repeat (first | refine same_if h1 ?_ | refine same_if g1 ?_ | refine same_if g2 ?_ | refine same_if g3 ?_ | refine same_if g4 ?_)
            exact rfl
          case p2 => show c.n + 1 = _; omega
          case p3 => show IntsAre _ (cntOf (c.rs ++ [c.b])); rw [cnt_in2 hb0 (by omega)]; exact hi3
        · rename (_ == Str.ofString "\t") = false => e2
          rename (_ == Str.ofString " ") = false => e1
          have e1 := sp_eq e1
          have e2 := tb_eq e2
          have hr : runsOf (l.drop i) = [0] := by rw [drop_at hk, runs_other _ (of_decide_eq_false e1) (of_decide_eq_false e2)]
          have hl0 : (leadOf (l.drop i)).length = 0 := by rw [drop_at hk, lead_other _ (of_decide_eq_false e1) (of_decide_eq_false e2)]; rfl
          have hM := M.out hr
          have hlead := M.lead
          exact ⟨rfl, c, fun _ => some _, _, _, rfl, ⟨hM.1, hM.2, by rw [hn]; omega, hi⟩, F', fun p hp => N' p (List.mem_append_left _ hp)⟩
      case done =>
        intro c u' I h tk hP F' N'
        obtain ⟨M, hn, hi⟩ := hP
        rw [T_cps] at M hn
        have hr : runsOf (l.drop l.length) = [0] := by rw [List.drop_length]; rfl
        have hl0 : (leadOf (l.drop l.length)).length = 0 := by rw [List.drop_length]; rfl
        have hM := M.out hr
        have hlead := M.lead
        exact ⟨rfl, c, u', _, _, rfl, ⟨hM.1, hM.2, by rw [hn]; omega, hi⟩, F', N'⟩
    · intro _; with_unfolding_all rfl
end
end
section
theorem passing_all (n j i : Nat) : (passing (fun _ => true) n 0)[j]? = some i ↔ j < n ∧ i = j := by
  unfold passing
  rw [List.drop_zero, List.filter_eq_self.mpr (fun _ _ => rfl)]
  constructor
  · intro e
    obtain ⟨h, e⟩ := List.getElem?_eq_some_iff.mp e
    rw [List.length_range] at h
    rw [List.getElem_range] at e
    exact ⟨h, e.symm⟩
  · rintro ⟨h, rfl⟩
    exact List.getElem?_range h
theorem passing_len (n : Nat) : (passing (fun _ => true) n 0).length = n := by
  unfold passing
  rw [List.drop_zero, List.filter_eq_self.mpr (fun _ _ => rfl), List.length_range]
section
variable {prog : Program} {w : World} {A : Around} {E : Value → Shared → Prop} {s : Shared} {mg : Str → Option Value} {bm : Addr} {ob : Obj}
theorem genCode {M : Model} {env : Env} {c P : Addr} {ps : Array Value} {pos : Pos} {qualname : Str} {scope : Scope} {Q : Value → Shared → Prop} (hc : env.code = .ref c) (hok : s.heap.IsCode c P ps) (htab : s.heap.TableAt c P ps)
    (hQ : ∀ code h' tk ps', Heap.ExtBut P s.heap h' → h'.IsCode c P ps' → h'.TableAt c P ps' → Q code { s with heap := h', toks := tk }) :
    wpAny M A (genexprCode env pos qualname scope) Q E s := by
  cases hnf : codeAmong pos ps.toList with
  | some cv => exact wpAny_genexprCode_hit hc hok hnf (hQ cv s.heap s.toks ps (Heap.ExtBut.refl _ _) hok htab)
  | none => exact wpAny_genexprCodeX hc hok htab hnf fun c' h' tk hx _ _ hok' _ htab' _ => hQ _ h' tk _ hx hok' htab'
/- a generator that stands ready -/
noncomputable def GenReady (prog : Program) (w : World) (A : Around) (h₀ : Heap) (L P a : Addr) (n : Nat) (F : Nat → Value → Prop) (s₅ : Shared) : Prop :=
  ∃ C I fp g, WalksS prog w A.in4 a (a :: C :: fp) [C, I] (GenOnlyQ g) n F (GenAt prog w A.in4 a g C fp [I] (fun _ => true) n F) ∧
    GenAt prog w A.in4 a g C fp [I] (fun _ => true) n F 0 s₅ ∧ L ∉ (a :: C :: fp) ∧ P ∉ (a :: C :: fp) ∧ (∀ b ∈ (a :: C :: fp), ∃ o, s₅.heap.get? b = some o) ∧ ∀ b ∈ [C, I], h₀.get? b = none
theorem genExp {env : Env} {elt : Expr} {x y : Str} {px py : Pos} {scope : Scope} {pos : Pos} {L l c P : Addr} {ps : Array Value} {vs : List Value} {Q : Value → Shared → Prop} (F : Nat → Value → Prop)
    (hh : A.handled = none) (hco : scope.isCoroutine = false) (hclos : closureFor scope env = pure []) (hcell : ∀ y ∈ scope.names, y.2 ≠ .cell) (h0 : scope.names.lookup (".0" : Str) = some NameKind.local)
    (hx : scope.names.lookup x = some .local) (hkind : scope.kind = .function) (hroom : A.depth < recursionLimit) (hcode : env.code = .ref c)
    (hl : s.heap.IsList l vs.toArray) (hok : s.heap.IsCode c P ps) (htab : s.heap.TableAt c P ps) (hlim : s.heap.NoLimit) (M : BMod s.heap env.globals mg bm ob) (hPb : bm ≠ P) (hLb : bm ≠ L) (hLl : l ≠ L) (hL1 : cStatics ≠ L) (hLn : L < s.heap.objs.size)
    (hit : ∀ (Q : Value → Shared → Prop), Q (.ref l) s → wpAny (model prog w) A (eval (.Name y py) env) Q E s)
    (hq : ∀ (C : Addr) (code : Value) (A' : Around) (E' : Value → Shared → Prop) (i : Nat) (v : Value) (t : Shared) (m₂ : Str → Option Value), s.heap.objs.size ≤ C → A'.handled = none → A'.depth ≤ A.depth + 1 → A'.units ≤ A.units + 8 → vs[i]? = some v → t.heap.Ns C m₂ → m₂ x = some v → (∀ b o, b ≠ L → b ≠ P → s.heap.get? b = some o → t.heap.get? b = some o) →
      wpAny (model prog w) A' (eval elt (genEnv scope [] C code builtinsNs env)) (fun z s₃ => F i z ∧ Keeps t s₃) E' t)
    (hQ : ∀ a h gs tk ps', gs.bare = true → Heap.ExtBut P s.heap h → h.IsCode c P ps' → h.TableAt c P ps' → GenReady prog w A s.heap L P a vs.length F { s with heap := h, gens := s.gens.push gs, toks := tk } → Q (.ref a) { s with heap := h, gens := s.gens.push gs, toks := tk })
    (hs : ∀ x, genFold (.Name y py) env x = pure x) :
    wpAny (model prog w) A (eval (.GeneratorExp elt [⟨.Name x px, .Name y py, [], 0⟩] scope pos) env) Q E s := by
  have hP : ∃ o, s.heap.get? P = some o ∧ o.cls = .none := ⟨_, htab.2, rfl⟩
  have hlt : l < s.heap.objs.size := by obtain ⟨_, e, _⟩ := hl; exact Heap.lt_size e
  have hlP : l ≠ P := fun e => by
    obtain ⟨o, ho, hc, _⟩ := hl
    obtain ⟨o', ho', hc'⟩ := hP
    rw [e, ho'] at ho; cases ho; rw [hc'] at hc; cases hc
  have hcP : cStatics ≠ P := fun e => by
    obtain ⟨_, hns, _⟩ := hlim
    obtain ⟨o, es, ep, ho, hd, _⟩ := hns
    obtain ⟨_, _, _, _, _, _, _, _, _, op, _, _, _, _, _, _, _, hop, hpd, _⟩ := hok
    rw [e, hop] at ho; cases ho; rw [hpd] at hd; cases hd
  have hgP : env.globals ≠ P := fun e => by
    obtain ⟨o, es, ep, ho, hd, _⟩ := M.ns
    obtain ⟨_, _, _, _, _, _, _, _, _, op, _, _, _, _, _, _, _, hop, hpd, _⟩ := hok
    rw [e, hop] at ho; cases ho; rw [hpd] at hd; cases hd
  refine wpAny_GeneratorExp_make hco hclos hcell h0 hkind hroom (hit _ (wpAny_pyIter_list hl ⟨hlim.push _, ?_⟩)) hs
  refine genCode hcode (hok.push _) (htab.push _) fun code h₃ tk₃ ps₃ hx₃ hok₃ htab₃ => ?_
  have hx₃' : Heap.ExtBut P s.heap h₃ := fun b o hb e => hx₃ b o hb (Heap.get?_push_of_some _ e)
  have M₃ : BMod h₃ env.globals mg bm ob := by
    obtain ⟨o, es, ep, ho, r⟩ := M.ns
    exact ⟨⟨o, es, ep, hx₃' _ _ hgP ho, r⟩, M.name, M.ne, hx₃' _ _ hPb M.obj, M.cls, M.dict, M.data⟩
  refine wpAny_builtinsFor M₃.ns M₃.name M₃.ne M₃.obj M₃.cls M₃.dict M₃.data ?_
  dsimp only
  intro h' hn' hs'
  have hI : ∃ o, h₃.get? s.heap.objs.size = some o := ⟨_, hx₃ _ _ (fun e => by obtain ⟨o, ho, _⟩ := hP; exact absurd (Heap.lt_size ho) (e ▸ Nat.lt_irrefl _)) (Heap.get?_push_size _ rfl)⟩
  have hPn : P < s.heap.objs.size := by obtain ⟨o, ho, _⟩ := hP; exact Heap.lt_size ho
  have hIn : s.heap.objs.size < h₃.objs.size := by obtain ⟨o, ho⟩ := hI; exact Heap.lt_size ho
  have hsz : h'.objs.size = h₃.objs.size + 1 := by rw [hs'.1, Heap.size_push]
  have keep' : ∀ b o, h₃.get? b = some o → h'.get? b = some o := fun b o e => hs'.extBut b o (Nat.ne_of_lt (Heap.lt_size e)) (Heap.get?_push_of_some _ e)
  have mem : ∀ b, (∃ o, h₃.get? b = some o) → b ≠ L → b ≠ P → b ∈ (List.range h₃.objs.size).filter (fun b => decide (b ≠ L) && decide (b ≠ P) && (h₃.get? b).isSome) := fun b h1 h2 h3 => by
    obtain ⟨o, ho⟩ := h1
    exact List.mem_filter.mpr ⟨List.mem_range.mpr (Heap.lt_size ho), by simp [h2, h3, ho]⟩
  have mem' : ∀ b, b ∈ (List.range h₃.objs.size).filter (fun b => decide (b ≠ L) && decide (b ≠ P) && (h₃.get? b).isSome) → (∃ o, h₃.get? b = some o) ∧ b ≠ L ∧ b ≠ P := fun b hb => by
    obtain ⟨h1, h2⟩ := List.mem_filter.mp hb
    simp only [Bool.and_eq_true, decide_eq_true_eq, Option.isSome_iff_exists] at h2
    exact ⟨h2.2, h2.1⟩
  have lt' : ∀ b, (∃ o, h₃.get? b = some o) → b < h₃.objs.size := fun b ⟨o, ho⟩ => Heap.lt_size ho
  have hl3 : ∃ o, h₃.get? l = some o := let ⟨o, ho, _⟩ := hl; ⟨o, hx₃' _ _ hlP ho⟩
  have hc33 : ∃ o, h₃.get? cStatics = some o := by
    obtain ⟨_, hns, _⟩ := hlim
    obtain ⟨o, _, _, ho, _⟩ := hns
    exact ⟨o, hx₃' _ _ hcP ho⟩
  generalize hfp : (List.range h₃.objs.size).filter (fun b => decide (b ≠ L) && decide (b ≠ P) && (h₃.get? b).isSome) = fp at mem mem'
  have W₀ : ∀ A' : Around, A'.handled = none → Walks prog w A' s.heap.objs.size fp [s.heap.objs.size] vs.length (fun i v => vs[i]? = some v) (fun i h => h.IsListIter s.heap.objs.size l i ∧ h.IsList l vs.toArray) := fun A' hA => by
    have W := Walks.list (prog := prog) (w := w) hA s.heap.objs.size l (Nat.ne_of_lt hlt) vs.toArray
    refine (by simpa using W : Walks prog w A' s.heap.objs.size [s.heap.objs.size, l] [s.heap.objs.size] vs.length (fun i v => vs[i]? = some v) _).mono_fp fun b hb => ?_
    rcases List.mem_cons.mp hb with rfl | hb
    · exact mem _ hI (Ne.symm (Nat.ne_of_lt hLn)) (Ne.symm (Nat.ne_of_lt hPn))
    · rw [List.mem_singleton.mp hb]
      exact mem _ hl3 hLl hlP
  have hc3 : cStatics < s.heap.objs.size := let ⟨_, hn, _⟩ := hlim; hn.lt
  have hgenv : (genEnv scope [] h₃.objs.size code builtinsNs env).locals = h₃.objs.size := rfl
  refine hQ _ _ _ _ ps₃ rfl (fun b o hb e => Heap.get?_push_of_some _ (keep' b o (hx₃' b o hb e))) ((hok₃.keeps keep').push _) ((htab₃.keeps keep').push _) ⟨h₃.objs.size, s.heap.objs.size, fp, s.gens.size, ?_, ?_, ?_, ?_, ?_, ?_⟩
  · have W := WalksS.genexpQ (prog := prog) (w := w) (A := A.in4) hh h'.objs.size s.gens.size h₃.objs.size fp [s.heap.objs.size] (fun _ => true) vs.length F (by rw [hsz]; exact Nat.succ_ne_self _) (fun hm => absurd (lt' _ (mem' _ hm).1) (by rw [hsz]; exact Nat.not_lt.mpr (Nat.le_succ _)))
      (fun b hb => by rw [List.mem_singleton.mp hb]; exact mem _ hI (Ne.symm (Nat.ne_of_lt hLn)) (Ne.symm (Nat.ne_of_lt hPn))) hroom (mem _ hc33 hL1 hcP) (Nat.ne_of_lt (Nat.lt_trans hc3 hIn)) (fun hm => by
        have e := List.mem_singleton.mp hm
        exact absurd hc3 (e ▸ Nat.lt_irrefl _))
    rw [passing_len] at W
    exact W.imp fun j y hj => by
      obtain ⟨i, e, hF⟩ := hj
      obtain ⟨_, rfl⟩ := (passing_all _ _ _).mp e
      exact hF
  · refine GenAt.freshD (A := A.in4) (cenv := genEnv scope [] h₃.objs.size code builtinsNs env) (m := fun y => if y = ".0" then some (.ref s.heap.objs.size) else none) hh W₀ (fun _ => true) F hx (by simp [genEnv, hkind]) hco
      (fun hm => Nat.lt_irrefl _ (lt' _ (mem' _ hm).1)) ⟨?_, ?_⟩ ⟨_, _, _, Heap.get?_push_size _ rfl, rfl, rfl, rfl⟩ (Array.getElem?_push_size ..) ?_ (hn'.push _) ?_
    · intro A' E' i v s₂ m₂ _ _ _ _ _ _ _
      exact wpAny_pure ⟨rfl, Keeps.refl _⟩
    · intro A' E' i v t m₂ hA hD hU hv _ hn hm hkp
      refine hq _ _ A' E' i v t m₂ (Nat.le_of_lt hIn) hA hD hU hv hn hm fun b o hbL hbP e => ?_
      refine hkp b (mem _ ⟨o, hx₃' b o hbP e⟩ hbL hbP) (fun hm => ?_) o (Heap.get?_push_of_some _ (keep' b o (hx₃' b o hbP e)))
      exact absurd (Heap.lt_size e) ((List.mem_singleton.mp hm) ▸ Nat.lt_irrefl _)
    · refine (W₀ A hh).frame 0 (s.heap.push { cls := .type "list_iterator", data := .fields #[.ref l, .int 0 0] }) _ ⟨⟨_, Heap.get?_push_size _ rfl, rfl, rfl⟩, hl.push _⟩ fun b hb o e => ?_
      exact Heap.get?_push_of_some _ (keep' b o (hx₃ b o (mem' b hb).2.2 e))
    · exact ((hlim.extBut hx₃' hcP).keeps keep').push _
  · intro hm
    rcases List.mem_cons.mp hm with e | hm
    · exact absurd (Nat.lt_trans hLn hIn) (by rw [e.trans hsz]; exact Nat.not_lt.mpr (Nat.le_succ _))
    · rcases List.mem_cons.mp hm with e | hm
      · exact absurd (Nat.lt_trans hLn hIn) (by rw [e]; exact Nat.lt_irrefl _)
      · exact (mem' _ hm).2.1 rfl
  · intro hm
    rcases List.mem_cons.mp hm with e | hm
    · exact absurd (Nat.lt_trans hPn hIn) (by rw [e.trans hsz]; exact Nat.not_lt.mpr (Nat.le_succ _))
    · rcases List.mem_cons.mp hm with e | hm
      · exact absurd (Nat.lt_trans hPn hIn) (by rw [e]; exact Nat.lt_irrefl _)
      · exact (mem' _ hm).2.2 rfl
  · intro b hb
    rcases List.mem_cons.mp hb with e | hb
    · exact ⟨_, by rw [e]; exact Heap.get?_push_size _ rfl⟩
    · rcases List.mem_cons.mp hb with e | hb
      · obtain ⟨o, _, _, ho, _⟩ := hn'
        exact ⟨o, by rw [e]; exact Heap.get?_push_of_some _ ho⟩
      · obtain ⟨o, ho⟩ := (mem' _ hb).1
        exact ⟨o, Heap.get?_push_of_some _ (keep' b o ho)⟩
  · intro b hb
    rcases List.mem_cons.mp hb with e | hb
    · rw [e]; exact Heap.get?_none_of_le (Nat.le_of_lt hIn)
    · rw [List.mem_singleton.mp hb]; exact Heap.get?_none_of_le (Nat.le_refl _)
end
end
section
section
variable {prog : Program} {w : World} {A : Around} {E : Value → Shared → Prop} {s : Shared}
theorem itemT {value slice : Expr} {v : Value} {ds : List Dat} {d : Dat} {k : Int} {u : Tok} {Q : Value → Shared → Prop} (r : Rd s.heap v (.tuple ds)) (h0 : 0 ≤ k) (hhi : k < 2 ^ 63) (hd : ds[k.toNat]? = some d) (h : ∀ v', Rd s.heap v' d → Q v' s)
    (hs : ∀ a, subscripted slice false (.ref a) (.int k u) = operate [.ref a, .int k u] (getItem (.ref a) (.int k u))) : wpAny (model prog w) A (subscriptTail value slice v (.int k u)) Q E s := by
  cases r with
  | tuple ht hr =>
    obtain ⟨v', hv, rv⟩ := RdAll.get hr hd
    refine item_tupleT (j := k.toNat) ht (by omega) hhi ?_ hv (h v' rv) (hs _)
    have hl : k.toNat < ds.length := by
      rcases Nat.lt_or_ge k.toNat ds.length with q | q
      · exact q
      · rw [List.getElem?_eq_none q] at hd; cases hd
    rw [hr.length]
    unfold seqIndex?
    simp
    omega
theorem itemL {value slice : Expr} {v : Value} {ds : List Dat} {d : Dat} {k : Int} {u : Tok} {Q : Value → Shared → Prop} (r : Rd s.heap v (.list ds)) (h0 : 0 ≤ k) (hhi : k < 2 ^ 63) (hd : ds[k.toNat]? = some d) (h : ∀ v', Rd s.heap v' d → Q v' s)
    (hs : ∀ a, subscripted slice false (.ref a) (.int k u) = operate [.ref a, .int k u] (getItem (.ref a) (.int k u))) : wpAny (model prog w) A (subscriptTail value slice v (.int k u)) Q E s := by
  cases r with
  | list ht hr =>
    obtain ⟨v', hv, rv⟩ := RdAll.get hr hd
    exact item_litK ht h0 hhi hv (h v' rv) (hs _)
theorem str_S {a : Int} {t : Tok} {Q : Value → Shared → Prop} (h0 : -1000000 ≤ a) (h1 : a ≤ 1000000) (h : ∀ t k, Q (.str (Str.ofString (toString a)) t) { s with toks := k }) : wpAny (model prog w) A (call (.type "str") [.int a t]) Q E s :=
  P.str_of_int (shown (N := 1000001) (by omega) (by omega) (by decide +kernel)) (h _ _)
end
/- every other new object, as a ledger -/
theorem news_others {H h : Heap} {L : Addr} (X : List Addr) : News H L h (others H h (L :: X)) := fun p hp => by
  obtain ⟨e1, e2, e3⟩ := nw_get.mp (mem_others.mp hp)
  exact ⟨e1, fun q => e2 (q ▸ List.mem_cons_self), e3⟩
theorem off_L {H h h' : Heap} {L b : Addr} {m m' : Str → Option Value} {o : Obj} (F : Fr H L h m) (F' : Fr H L h' m') (N' : News H L h' (others H h [L])) (hb : b ≠ L) (e : h.get? b = some o) : h'.get? b = some o := by
  cases q : H.get? b with
  | some o' =>
    have := F.keep b o' q
    rw [e] at this; cases this
    exact F'.keep b o q
  | none => exact (N' _ (mem_others.mpr (nw_get.mpr ⟨e, by simpa using hb, q⟩))).1
/- the places table of format_witnesses -/
noncomputable def PT (h : Heap) : Prop := ∃ ps, h.IsCode 86 82 ps ∧ h.TableAt 86 82 ps
/- all that format_witnesses leans on -/
structure Gw (P : Params) (h : Heap) : Prop where
  g : Gd P h
  pt : PT h
  bm : ∃ mg bm ob, BMod h mainGlobals mg bm ob
theorem In.hide {K : Frag} {h : Heap} {P : Addr} (X : K.In h) (e : K.lookup P = none) : K.In (h.hide P) := fun a o q => by
  rw [Heap.hide_ne _ (fun z => by rw [z, e] at q; cases q)]
  exact X a o q
theorem ns_hide {h : Heap} {P a : Addr} {m : Str → Option Value} {op : Obj} {ps : Array Value} (hop : h.get? P = some op) (hd : op.data = .fields ps) (N : h.Ns a m) : (h.hide P).Ns a m := by
  obtain ⟨o, es, ep, ho, hd', r⟩ := N
  refine ⟨o, es, ep, ?_, hd', r⟩
  rw [Heap.hide_ne _ (fun z => by rw [z, hop] at ho; cases ho; rw [hd] at hd'; cases hd')]
  exact ho
theorem Gd.hide {P : Params} {h : Heap} {op : Obj} {ps : Array Value} (G : Gd P h) (hop : h.get? 82 = some op) (hf : op.data = .fields ps) (e : (hd.heap_39 P).lookup 82 = none) : Gd P (h.hide 82) := by
  obtain ⟨p, loose, mg, mb, T⟩ := G.t
  obtain ⟨mc, h1, h2⟩ := T.nolimit
  exact ⟨In.hide G.k e, p, loose, mg, mb, ⟨ns_hide hop hf T.g, ns_hide hop hf T.b, ⟨mc, ns_hide hop hf h1, h2⟩, T.builtins, T.free⟩⟩
theorem hide_sub {h : Heap} {P : Addr} : Sub (h.hide P) h := fun b o e => by
  by_cases z : b = P
  · rw [z, Heap.hide_self] at e; cases e
  · rwa [Heap.hide_ne _ z] at e
theorem Fr.hide {h h' : Heap} {L P : Addr} {m : Str → Option Value} (F : Fr h L h' m) : Fr (h.hide P) L h' m :=
  ⟨F.ns, fun b o e => F.keep b o (by
    by_cases z : b = P
    · rw [z, Heap.hide_self] at e; cases e
    · rwa [Heap.hide_ne _ z] at e), by rw [Heap.hide_size]; exact F.above⟩
/- a witness, as data -/
noncomputable def tri (x : Int × Int × Int) : Dat := .tuple [.int x.1, .int x.2.1, .int x.2.2]
noncomputable def fmtOf (xs : List (Int × Int × Int)) : Str := T ((if xs.length > 1 then Str.ofString "at tab sizes " else Str.ofString "at tab size ").cps.toList ++ (Str.join (Str.ofString ", ") (xs.map fun x => Str.ofString (toString x.1))).cps.toList)
theorem genAt_frame {prog : Program} {w : World} {A : Around} {a C : Addr} {g n₀ j tk : Nat} {fp wr : List Addr} {pz : Nat → Bool} {F : Nat → Value → Prop} {s : Shared} {h' : Heap} (x : GenAt prog w A a g C fp wr pz n₀ F j s)
    (hk : ∀ b ∈ a :: C :: fp, ∀ o, s.heap.get? b = some o → h'.get? b = some o) (hl : h'.NoLimit) : GenAt prog w A a g C fp wr pz n₀ F j { s with heap := h', toks := tk } := by
  obtain ⟨⟨o, nm, qn, ho, r⟩, _, gs, e, f⟩ := x
  exact ⟨⟨o, nm, qn, hk a (.head _) o ho, r⟩, hl, gs, e, fun s'' k => f s'' fun b hb o e => k b hb o (hk b (.tail _ hb) o e)⟩
theorem str_len_le {a : Int} (h0 : 0 ≤ a) (h1 : a ≤ 100) : (Str.ofString (toString a)).length ≤ 102 := by
  have := len_str_of_int a
  omega
theorem join_len (sep : Str) : ∀ ys : List Str, (Str.join sep ys).cps.toList.length ≤ (ys.map (·.length)).sum + ys.length * sep.length
  | [] => by simp [Str.join]; rfl
  | [a] => by simp [Str.join, len_cps]
  | a :: b :: r => by
    have ih := join_len sep (b :: r)
    have e : Str.join sep (a :: b :: r) = a ++ sep ++ Str.join sep (b :: r) := rfl
    rw [e, app_T, app_T, T_cps, T_cps]
    simp only [List.length_append, List.map_cons, List.sum_cons, List.length_cons, len_cps, Nat.succ_mul] at ih ⊢
    omega
theorem fmt_len {xs : List (Int × Int × Int)} (hsz : xs.length ≤ 20) (hx : ∀ x ∈ xs, 0 ≤ x.1 ∧ x.1 ≤ 100) : (Str.join (Str.ofString ", ") (xs.map fun x => Str.ofString (toString x.1))).cps.toList.length ≤ 3000 := by
  refine Nat.le_trans (join_len _ _) ?_
  have h1 := sum_le (l := (xs.map fun x => Str.ofString (toString x.1)).map (·.length)) (B := 102) fun k hk => by
    obtain ⟨y, hy, rfl⟩ := List.mem_map.mp hk
    obtain ⟨x, hx', rfl⟩ := List.mem_map.mp hy
    exact str_len_le (hx x hx').1 (hx x hx').2
  simp only [List.length_map] at h1 ⊢
  rw [show (Str.ofString ", ").length = 2 from by decide +kernel]
  omega
theorem join_gen {prog : Program} {w : World} {A : Around} {E : Value → Shared → Prop} {s : Shared} {a C I : Addr} {g n : Nat} {fp : List Addr} {xs : List (Int × Int × Int)} {t : Tok} {Q : Value → Shared → Prop}
    (W : WalksS prog w A.in4 a (a :: C :: fp) [C, I] (GenOnlyQ g) n (fun i z => ∃ x t, xs[i]? = some x ∧ z = .str (Str.ofString (toString x.1)) t) (GenAt prog w A.in4 a g C fp [I] (fun _ => true) n (fun i z => ∃ x t, xs[i]? = some x ∧ z = .str (Str.ofString (toString x.1)) t)))
    (hat : GenAt prog w A.in4 a g C fp [I] (fun _ => true) n (fun i z => ∃ x t, xs[i]? = some x ∧ z = .str (Str.ofString (toString x.1)) t) 0 s) (hfp : ∀ b ∈ (a :: C :: fp), b < s.heap.objs.size) (hn : n = xs.length) (hb : AllBare s.gens)
    (hsz : xs.length ≤ 20) (hx : ∀ x ∈ xs, 0 ≤ x.1 ∧ x.1 ≤ 100)
    (hQ : ∀ t' k h' g', (∀ b o, b ∉ [C, I] → s.heap.get? b = some o → h'.get? b = some o) → AllBare g' → Q (.str (Str.join (Str.ofString ", ") (xs.map fun x => Str.ofString (toString x.1))) t') { s with heap := h', gens := g', toks := k }) :
    wpAny (model prog w) A (call (.builtin "str.join") [.str (Str.ofString ", ") t, .ref a]) Q E s := by
  refine SC.joinGen (A := A) W.of_in1.of_in1 ?_ hat hfp List.mem_cons_self ?_ ?_ (by rw [hn, sizeLine_eq]; omega)
  · rintro i s' ⟨⟨o, nm, qn, ho, hc, _⟩, _⟩
    exact ⟨o, ho, hc⟩
  · rintro i v ⟨x, t, _, rfl⟩
    exact ⟨_, _, rfl⟩
  · intro s' l hm hi
    have e : l.map (·.1) = xs.map fun x => Str.ofString (toString x.1) := by
      refine List.ext_getElem? fun i => ?_
      rw [List.getElem?_map, List.getElem?_map]
      have hl : l.length = xs.length := by have := hi.1; simp [strValues] at this; omega
      rcases Nat.lt_or_ge i l.length with q | q
      · have e1 : l[i]? = some l[i] := List.getElem?_eq_getElem q
        obtain ⟨x, t', h1, h2⟩ := hi.2 i (.str l[i].1 l[i].2) (by simp [strValues, e1])
        rw [e1, h1]
        simp at h2
        simp [h2.1]
      · rw [List.getElem?_eq_none q, List.getElem?_eq_none (by omega)]; rfl
    rw [e]
    refine ⟨?_, fun t' k => ?_⟩
    · refine joinOk_of_weight (Nat.le_trans (Nat.add_le_add_right (sum_le (B := 102) fun k hk => ?_) _) ?_) (by decide +kernel)
      · obtain ⟨y, hy, rfl⟩ := List.mem_map.mp hk
        obtain ⟨x, hx', rfl⟩ := List.mem_map.mp hy
        exact str_len_le (hx x hx').1 (hx x hx').2
      · simp only [List.length_map]; omega
    · obtain ⟨h', g', d', tk', os'⟩ := s'
      have e1 := hm.drawn
      have e2 := hm.os
      dsimp only at e1 e2
      subst e1 e2
      have := hQ t' k h' g' hm.heap (hb.moved hm.gens)
      rw [← StrLaws.glued_eq_join] at this
      exact this
section
variable {prog : Program} {w : World} {E : Value → Shared → Prop} {s : Shared}
set_option maxHeartbeats 1000000 in
theorem format_spec {l : Addr} {vs : List Value} {xs : List (Int × Int × Int)} (G : Gw w.params s.heap) (hb : AllBare s.gens) (hl' : (s.heap.hide 82).IsList l vs.toArray) (hr : RdAll (s.heap.hide 82) vs (xs.map tri)) (hsz : xs.length ≤ 20) (hx : ∀ x ∈ xs, 0 ≤ x.1 ∧ x.1 ≤ 100) {Q : Value → Shared → Prop}
    (hQ : ∀ t h' g' tk, Heap.ExtBut 82 s.heap h' → PT h' → AllBare g' → Q (.str (fmtOf xs) t) { s with heap := h', gens := g', toks := tk }) :
    wpAny (model prog w) (ar 600 600) (call (.ref 87) [.ref l]) Q E s := by
  have hl := isList_keeps hl' hide_sub
  obtain ⟨ps, hok, htab⟩ := G.pt
  have hop := htab.2
  have GH := Gd.hide G.g hop rfl rfl
  refine' enterK (binds := [(Str.ofString "w", .ref l)]) G.g ?k6 ?k7 ?k8 ?k9 ?kB ?_ ?c2 ?c3 ?c4 ?c5
  (((case k6 => k_dflt k_is); (case k7 => k_dflt k_is); (case k8 => decide); (case k9 => exact BindsTo.of_eq rfl); (case kB => exact locs rfl); (case c2 => exact rfl); (case c3 => exact rfl); (case c4 => exact rfl); (case c5 => decide)))
  intro L h₁ hL F N
  k_fold
  have X := GH.k
  obtain ⟨p, loose, mg, mb, TT⟩ := GH.t
  have F1 := Fr.hide (P := 82) F
  clear N
  have N1 : News (s.heap.hide 82) L h₁ [] := News.nil
  (repeat' (first | (k_unfold; (try dsimp only)) | ((fail_if_success (with_reducible show wpAny _ _ (pyIter _) _ _ _)); (fail_if_success (with_reducible show wpAny _ _ (call (Value.builtin "list.append") _) _ _ _)); (fail_if_success (with_reducible show wpAny _ _ (compareOp _ (Value.ref _) (Value.ref _)) _ _ _)); (fail_if_success (with_reducible show wpAny _ _ (eval (Expr.ListComp _ _ _ _) _) _ _ _)); (fail_if_success (with_reducible show wpAny _ _ (exec (Stmt.Assign _ (Expr.ListComp _ _ _ _) _) _) _ _ _)); (first | ((with_reducible show wpAny _ _ (eval (Expr.Name _ _) (genEnv _ _ _ _ _ _)) _ _ _); k_dflt (first | (refine' nmL ?qk1Z ?qk2Z ?_ ?qk3Z ?qk4Z ?qk5Z; (case qk3Z => rfl); (case qk4Z => rfl); (case qk5Z => decide); (case qk1Z => assumption); (case qk2Z => assumption); k_whole) | (refine' nmB ?qk1Z ?qk2Z ?qk7Z ?qk8Z ?_ ?qk6Z ?qk9Z ?qk3Z ?qk4Z ?qk5Z; (case qk3Z => rfl); (case qk4Z => rfl); (case qk5Z => decide); (case qk6Z => rfl); (case qk9Z => rfl); (case qk1Z => assumption); (case qk2Z => k_is); (case qk7Z => boot_fast); (case qk8Z => decide); k_whole))) | ((with_reducible show wpAny _ _ (eval (Expr.Name _ _) (compEnvC _ _ _ _)) _ _ _); k_dflt (first | (refine' nmL ?qk1Z ?qk2Z ?_ ?qk3Z ?qk4Z ?qk5Z; (case qk3Z => rfl); (case qk4Z => rfl); (case qk5Z => decide); (case qk1Z => k_asm); (case qk2Z => rfl); k_whole) | (refine' nmC ?qk1Z ?qk2Z ?qk6Z ?_ ?qk3Z ?qk4Z ?qk5Z; (case qk3Z => rfl); (case qk4Z => rfl); (case qk5Z => decide); (case qk6Z => rfl); (case qk1Z => assumption); (case qk2Z => assumption); k_whole) | (refine' nmG ?qk1Z ?qk2Z ?_ ?qk6Z ?qk3Z ?qk4Z ?qk5Z; (case qk3Z => rfl); (case qk4Z => rfl); (case qk5Z => decide); (case qk6Z => rfl); (case qk1Z => assumption); (case qk2Z => k_is); k_whole) | (refine' nmB ?qk1Z ?qk2Z ?qk7Z ?qk8Z ?_ ?qk6Z ?qk9Z ?qk3Z ?qk4Z ?qk5Z; (case qk3Z => rfl); (case qk4Z => rfl); (case qk5Z => decide); (case qk6Z => rfl); (case qk9Z => rfl); (case qk1Z => assumption); (case qk2Z => k_is); (case qk7Z => boot_fast); (case qk8Z => decide); k_whole))) | (with_reducible (((with_reducible show wpAny _ _ (newTuple _) _ _ _); (k_here; refine newTuple_L (by k_asm) (by k_asm) ?_ (Nat.le_of_ble_eq_true rfl); intro a9 h9 F9 N9 f9 k9; (try dsimp only))))) | (with_reducible (((with_reducible show wpAny _ _ (execs (Stmt.Assign _ _ _ :: _) _) _ _ _); refine wpAny_execs_cons ?_))) | (with_reducible (((with_reducible show TurnE _ _ _ _ _ _ _ _ _ _ _ _ _ _ _); dsimp only [TurnE]))) | (with_reducible ((k_here; (with_reducible show wpAny _ _ (call (Value.builtin "len") [Value.ref _]) _ _ _); refine len_tup_ints (IsTup.keeps (by assumption) (Fr.keep (by k_asm))) (by assumption) (by assumption) ?_))) | walk1); all_goals (try dsimp only)) | dsimp only))
  have ext : Sub s.heap h₁ := F.keep
  have hnl : l ≠ L := fun z => by
    obtain ⟨o, ho, _⟩ := hl
    exact absurd (Heap.lt_size ho) (by rw [z]; exact Nat.not_lt.mpr hL)
  obtain ⟨mgB, bm, ob, MB⟩ := G.bm
  have hbm : bm < s.heap.objs.size := Heap.lt_size MB.obj
  refine' genExp (L := L) (s := Shared.mk _ _ _ _ _) (vs := vs) (P := 82) (fun i z => ∃ x t, xs[i]? = some x ∧ z = .str (Str.ofString (toString x.1)) t) rfl rfl ?g1 ?g2 rfl rfl rfl ?g3 rfl (isList_keeps hl ext) (hok.keeps ext) (htab.keeps ext) (G.g.lim.keeps ext) (MB.keeps ext) ?g4 ?g5 hnl ?g6 F.ns.lt ?g7 ?g8 ?g9 ?g10
  case g1 => with_unfolding_all rfl
  case g2 => decide
  case g3 => show 601 < recursionLimit; decide
  case g4 => intro z; have e := MB.data; have ho := MB.obj; rw [z, hop] at ho; cases ho; cases e
  case g5 => intro z; exact absurd hbm (by rw [z]; exact Nat.not_lt.mpr hL)
  case g6 => intro z; obtain ⟨_, hns, _⟩ := G.g.lim; exact absurd hns.lt (by rw [z]; exact Nat.not_lt.mpr hL)
  case g7 => intro Q' hq'; (repeat' (first | (k_unfold; (try dsimp only)) | ((fail_if_success (with_reducible show wpAny _ _ (pyIter _) _ _ _)); (fail_if_success (with_reducible show wpAny _ _ (call (Value.builtin "list.append") _) _ _ _)); (fail_if_success (with_reducible show wpAny _ _ (compareOp _ (Value.ref _) (Value.ref _)) _ _ _)); (fail_if_success (with_reducible show wpAny _ _ (eval (Expr.ListComp _ _ _ _) _) _ _ _)); (fail_if_success (with_reducible show wpAny _ _ (exec (Stmt.Assign _ (Expr.ListComp _ _ _ _) _) _) _ _ _)); (first | ((with_reducible show wpAny _ _ (eval (Expr.Name _ _) (genEnv _ _ _ _ _ _)) _ _ _); k_dflt (first | (refine' nmL ?qk1Z ?qk2Z ?_ ?qk3Z ?qk4Z ?qk5Z; (case qk3Z => rfl); (case qk4Z => rfl); (case qk5Z => decide); (case qk1Z => assumption); (case qk2Z => assumption); k_whole) | (refine' nmB ?qk1Z ?qk2Z ?qk7Z ?qk8Z ?_ ?qk6Z ?qk9Z ?qk3Z ?qk4Z ?qk5Z; (case qk3Z => rfl); (case qk4Z => rfl); (case qk5Z => decide); (case qk6Z => rfl); (case qk9Z => rfl); (case qk1Z => assumption); (case qk2Z => k_is); (case qk7Z => boot_fast); (case qk8Z => decide); k_whole))) | ((with_reducible show wpAny _ _ (eval (Expr.Name _ _) (compEnvC _ _ _ _)) _ _ _); k_dflt (first | (refine' nmL ?qk1Z ?qk2Z ?_ ?qk3Z ?qk4Z ?qk5Z; (case qk3Z => rfl); (case qk4Z => rfl); (case qk5Z => decide); (case qk1Z => k_asm); (case qk2Z => rfl); k_whole) | (refine' nmC ?qk1Z ?qk2Z ?qk6Z ?_ ?qk3Z ?qk4Z ?qk5Z; (case qk3Z => rfl); (case qk4Z => rfl); (case qk5Z => decide); (case qk6Z => rfl); (case qk1Z => assumption); (case qk2Z => assumption); k_whole) | (refine' nmG ?qk1Z ?qk2Z ?_ ?qk6Z ?qk3Z ?qk4Z ?qk5Z; (case qk3Z => rfl); (case qk4Z => rfl); (case qk5Z => decide); (case qk6Z => rfl); (case qk1Z => assumption); (case qk2Z => k_is); k_whole) | (refine' nmB ?qk1Z ?qk2Z ?qk7Z ?qk8Z ?_ ?qk6Z ?qk9Z ?qk3Z ?qk4Z ?qk5Z; (case qk3Z => rfl); (case qk4Z => rfl); (case qk5Z => decide); (case qk6Z => rfl); (case qk9Z => rfl); (case qk1Z => assumption); (case qk2Z => k_is); (case qk7Z => boot_fast); (case qk8Z => decide); k_whole))) | (with_reducible (((with_reducible show wpAny _ _ (newTuple _) _ _ _); (k_here; refine newTuple_L (by k_asm) (by k_asm) ?_ (Nat.le_of_ble_eq_true rfl); intro a9 h9 F9 N9 f9 k9; (try dsimp only))))) | (with_reducible (((with_reducible show wpAny _ _ (execs (Stmt.Assign _ _ _ :: _) _) _ _ _); refine wpAny_execs_cons ?_))) | (with_reducible (((with_reducible show TurnE _ _ _ _ _ _ _ _ _ _ _ _ _ _ _); dsimp only [TurnE]))) | (with_reducible ((k_here; (with_reducible show wpAny _ _ (call (Value.builtin "len") [Value.ref _]) _ _ _); refine len_tup_ints (IsTup.keeps (by assumption) (Fr.keep (by k_asm))) (by assumption) (by assumption) ?_))) | walk1); all_goals (try dsimp only)) | dsimp only)); exact hq'
  case g10 => intro _; with_unfolding_all rfl
  case g8 =>
    intro C code A' E' i v t m₂ hC hA hD hU hv hn hm hkp
    obtain ⟨ht, gt, dt, tt, ot⟩ := t
    obtain ⟨x, hxi, hrx⟩ := RdAll.mapRd hr i v hv
    have hbx := hx x (List.mem_of_getElem? hxi)
    have hkp' : Sub (s.heap.hide 82) ht := fun b o e => by
      have hb2 : b ≠ 82 := fun z => by rw [z, Heap.hide_self] at e; cases e
      rw [Heap.hide_ne _ hb2] at e
      exact hkp b o (fun z => absurd (Heap.lt_size e) (by rw [z]; exact Nat.not_lt.mpr hL)) hb2 (ext b o e)
    have hsL : (s.heap.hide 82).objs.size ≤ C := by rw [Heap.hide_size]; exact Nat.le_trans (Nat.le_trans hL (Nat.le_of_lt F.ns.lt)) hC
    have F2 : Fr (s.heap.hide 82) C ht m₂ := ⟨hn, hkp', hsL⟩
    have N2 : News (s.heap.hide 82) C ht [] := News.nil
    have G2 : Gd w.params ht := GH.keeps hkp'
    clear F1 N1 F
    (repeat' (first | (k_unfold; (try dsimp only)) | ((fail_if_success (with_reducible show wpAny _ _ (pyIter _) _ _ _)); (fail_if_success (with_reducible show wpAny _ _ (call (Value.builtin "list.append") _) _ _ _)); (fail_if_success (with_reducible show wpAny _ _ (compareOp _ (Value.ref _) (Value.ref _)) _ _ _)); (fail_if_success (with_reducible show wpAny _ _ (eval (Expr.ListComp _ _ _ _) _) _ _ _)); (fail_if_success (with_reducible show wpAny _ _ (exec (Stmt.Assign _ (Expr.ListComp _ _ _ _) _) _) _ _ _)); (first | ((with_reducible show wpAny _ _ (eval (Expr.Name _ _) (genEnv _ _ _ _ _ _)) _ _ _); k_dflt (first | (refine' nmL ?qk1Z ?qk2Z ?_ ?qk3Z ?qk4Z ?qk5Z; (case qk3Z => rfl); (case qk4Z => rfl); (case qk5Z => decide); (case qk1Z => assumption); (case qk2Z => assumption); k_whole) | (refine' nmB ?qk1Z ?qk2Z ?qk7Z ?qk8Z ?_ ?qk6Z ?qk9Z ?qk3Z ?qk4Z ?qk5Z; (case qk3Z => rfl); (case qk4Z => rfl); (case qk5Z => decide); (case qk6Z => rfl); (case qk9Z => rfl); (case qk1Z => assumption); (case qk2Z => k_is); (case qk7Z => boot_fast); (case qk8Z => decide); k_whole))) | ((with_reducible show wpAny _ _ (eval (Expr.Name _ _) (compEnvC _ _ _ _)) _ _ _); k_dflt (first | (refine' nmL ?qk1Z ?qk2Z ?_ ?qk3Z ?qk4Z ?qk5Z; (case qk3Z => rfl); (case qk4Z => rfl); (case qk5Z => decide); (case qk1Z => k_asm); (case qk2Z => rfl); k_whole) | (refine' nmC ?qk1Z ?qk2Z ?qk6Z ?_ ?qk3Z ?qk4Z ?qk5Z; (case qk3Z => rfl); (case qk4Z => rfl); (case qk5Z => decide); (case qk6Z => rfl); (case qk1Z => assumption); (case qk2Z => assumption); k_whole) | (refine' nmG ?qk1Z ?qk2Z ?_ ?qk6Z ?qk3Z ?qk4Z ?qk5Z; (case qk3Z => rfl); (case qk4Z => rfl); (case qk5Z => decide); (case qk6Z => rfl); (case qk1Z => assumption); (case qk2Z => k_is); k_whole) | (refine' nmB ?qk1Z ?qk2Z ?qk7Z ?qk8Z ?_ ?qk6Z ?qk9Z ?qk3Z ?qk4Z ?qk5Z; (case qk3Z => rfl); (case qk4Z => rfl); (case qk5Z => decide); (case qk6Z => rfl); (case qk9Z => rfl); (case qk1Z => assumption); (case qk2Z => k_is); (case qk7Z => boot_fast); (case qk8Z => decide); k_whole))) | (with_reducible (((with_reducible show wpAny _ _ (newTuple _) _ _ _); (k_here; refine newTuple_L (by k_asm) (by k_asm) ?_ (Nat.le_of_ble_eq_true rfl); intro a9 h9 F9 N9 f9 k9; (try dsimp only))))) | (with_reducible (((with_reducible show wpAny _ _ (execs (Stmt.Assign _ _ _ :: _) _) _ _ _); refine wpAny_execs_cons ?_))) | (with_reducible (((with_reducible show TurnE _ _ _ _ _ _ _ _ _ _ _ _ _ _ _); dsimp only [TurnE]))) | (with_reducible ((k_here; (with_reducible show wpAny _ _ (call (Value.builtin "len") [Value.ref _]) _ _ _); refine len_tup_ints (IsTup.keeps (by assumption) (Fr.keep (by k_asm))) (by assumption) (by assumption) ?_))) | walk1); all_goals (try dsimp only)) | dsimp only))
    have hrx2 : Rd ht v (tri x) := hrx.keeps hkp'
    refine itemT (s := Shared.mk _ _ _ _ _) hrx2 (by decide) (by decide) rfl ?_ (fun a => by with_unfolding_all rfl)
    intro v' hv'
    cases hv'
    (repeat' (first | (k_unfold; (try dsimp only)) | ((fail_if_success (with_reducible show wpAny _ _ (pyIter _) _ _ _)); (fail_if_success (with_reducible show wpAny _ _ (call (Value.builtin "list.append") _) _ _ _)); (fail_if_success (with_reducible show wpAny _ _ (compareOp _ (Value.ref _) (Value.ref _)) _ _ _)); (fail_if_success (with_reducible show wpAny _ _ (eval (Expr.ListComp _ _ _ _) _) _ _ _)); (fail_if_success (with_reducible show wpAny _ _ (exec (Stmt.Assign _ (Expr.ListComp _ _ _ _) _) _) _ _ _)); (first | ((with_reducible show wpAny _ _ (eval (Expr.Name _ _) (genEnv _ _ _ _ _ _)) _ _ _); k_dflt (first | (refine' nmL ?qk1Z ?qk2Z ?_ ?qk3Z ?qk4Z ?qk5Z; (case qk3Z => rfl); (case qk4Z => rfl); (case qk5Z => decide); (case qk1Z => assumption); (case qk2Z => assumption); k_whole) | (refine' nmB ?qk1Z ?qk2Z ?qk7Z ?qk8Z ?_ ?qk6Z ?qk9Z ?qk3Z ?qk4Z ?qk5Z; (case qk3Z => rfl); (case qk4Z => rfl); (case qk5Z => decide); (case qk6Z => rfl); (case qk9Z => rfl); (case qk1Z => assumption); (case qk2Z => k_is); (case qk7Z => boot_fast); (case qk8Z => decide); k_whole))) | ((with_reducible show wpAny _ _ (eval (Expr.Name _ _) (compEnvC _ _ _ _)) _ _ _); k_dflt (first | (refine' nmL ?qk1Z ?qk2Z ?_ ?qk3Z ?qk4Z ?qk5Z; (case qk3Z => rfl); (case qk4Z => rfl); (case qk5Z => decide); (case qk1Z => k_asm); (case qk2Z => rfl); k_whole) | (refine' nmC ?qk1Z ?qk2Z ?qk6Z ?_ ?qk3Z ?qk4Z ?qk5Z; (case qk3Z => rfl); (case qk4Z => rfl); (case qk5Z => decide); (case qk6Z => rfl); (case qk1Z => assumption); (case qk2Z => assumption); k_whole) | (refine' nmG ?qk1Z ?qk2Z ?_ ?qk6Z ?qk3Z ?qk4Z ?qk5Z; (case qk3Z => rfl); (case qk4Z => rfl); (case qk5Z => decide); (case qk6Z => rfl); (case qk1Z => assumption); (case qk2Z => k_is); k_whole) | (refine' nmB ?qk1Z ?qk2Z ?qk7Z ?qk8Z ?_ ?qk6Z ?qk9Z ?qk3Z ?qk4Z ?qk5Z; (case qk3Z => rfl); (case qk4Z => rfl); (case qk5Z => decide); (case qk6Z => rfl); (case qk9Z => rfl); (case qk1Z => assumption); (case qk2Z => k_is); (case qk7Z => boot_fast); (case qk8Z => decide); k_whole))) | (with_reducible (((with_reducible show wpAny _ _ (newTuple _) _ _ _); (k_here; refine newTuple_L (by k_asm) (by k_asm) ?_ (Nat.le_of_ble_eq_true rfl); intro a9 h9 F9 N9 f9 k9; (try dsimp only))))) | (with_reducible (((with_reducible show wpAny _ _ (execs (Stmt.Assign _ _ _ :: _) _) _ _ _); refine wpAny_execs_cons ?_))) | (with_reducible (((with_reducible show TurnE _ _ _ _ _ _ _ _ _ _ _ _ _ _ _); dsimp only [TurnE]))) | (with_reducible ((k_here; (with_reducible show wpAny _ _ (call (Value.builtin "len") [Value.ref _]) _ _ _); refine len_tup_ints (IsTup.keeps (by assumption) (Fr.keep (by k_asm))) (by assumption) (by assumption) ?_))) | walk1); all_goals (try dsimp only)) | dsimp only))
    exact Keeps.toks _ _
  case g9 =>
    intro a h₅ gs tk ps₅ hgs hext hok₅ htab₅ hready
    obtain ⟨C, I, fp, g, W, hat, hLn, hPn, hfp, hCI⟩ := hready
    dsimp only
    have hne : L ≠ 82 := fun z => absurd (Heap.lt_size hop) (by rw [← z]; exact Nat.not_lt.mpr hL)
    have F5 : Fr (s.heap.hide 82) L h₅ _ := ⟨F.ns.extBut hext hne, fun b o e => hext b o (fun z => by rw [z, Heap.hide_self] at e; cases e) (F1.keep b o e), F1.above⟩
    have N5 : News (s.heap.hide 82) L h₅ (others (s.heap.hide 82) h₅ [L]) := news_others []
    have off : ∀ {h' : Heap} {m' : Str → Option Value} {b : Addr} {o : Obj}, Fr (s.heap.hide 82) L h' m' → News (s.heap.hide 82) L h' (others (s.heap.hide 82) h₅ [L]) → b ≠ L → h₅.get? b = some o → h'.get? b = some o := fun F' N' hb e => off_L F5 F' N' hb e
    clear F1 N1 F
    (repeat' (first | (k_unfold; (try dsimp only)) | ((fail_if_success (with_reducible show wpAny _ _ (pyIter _) _ _ _)); (fail_if_success (with_reducible show wpAny _ _ (call (Value.builtin "list.append") _) _ _ _)); (fail_if_success (with_reducible show wpAny _ _ (compareOp _ (Value.ref _) (Value.ref _)) _ _ _)); (fail_if_success (with_reducible show wpAny _ _ (eval (Expr.ListComp _ _ _ _) _) _ _ _)); (fail_if_success (with_reducible show wpAny _ _ (exec (Stmt.Assign _ (Expr.ListComp _ _ _ _) _) _) _ _ _)); (first | ((with_reducible show wpAny _ _ (eval (Expr.Name _ _) (genEnv _ _ _ _ _ _)) _ _ _); k_dflt (first | (refine' nmL ?qk1Z ?qk2Z ?_ ?qk3Z ?qk4Z ?qk5Z; (case qk3Z => rfl); (case qk4Z => rfl); (case qk5Z => decide); (case qk1Z => assumption); (case qk2Z => assumption); k_whole) | (refine' nmB ?qk1Z ?qk2Z ?qk7Z ?qk8Z ?_ ?qk6Z ?qk9Z ?qk3Z ?qk4Z ?qk5Z; (case qk3Z => rfl); (case qk4Z => rfl); (case qk5Z => decide); (case qk6Z => rfl); (case qk9Z => rfl); (case qk1Z => assumption); (case qk2Z => k_is); (case qk7Z => boot_fast); (case qk8Z => decide); k_whole))) | ((with_reducible show wpAny _ _ (eval (Expr.Name _ _) (compEnvC _ _ _ _)) _ _ _); k_dflt (first | (refine' nmL ?qk1Z ?qk2Z ?_ ?qk3Z ?qk4Z ?qk5Z; (case qk3Z => rfl); (case qk4Z => rfl); (case qk5Z => decide); (case qk1Z => k_asm); (case qk2Z => rfl); k_whole) | (refine' nmC ?qk1Z ?qk2Z ?qk6Z ?_ ?qk3Z ?qk4Z ?qk5Z; (case qk3Z => rfl); (case qk4Z => rfl); (case qk5Z => decide); (case qk6Z => rfl); (case qk1Z => assumption); (case qk2Z => assumption); k_whole) | (refine' nmG ?qk1Z ?qk2Z ?_ ?qk6Z ?qk3Z ?qk4Z ?qk5Z; (case qk3Z => rfl); (case qk4Z => rfl); (case qk5Z => decide); (case qk6Z => rfl); (case qk1Z => assumption); (case qk2Z => k_is); k_whole) | (refine' nmB ?qk1Z ?qk2Z ?qk7Z ?qk8Z ?_ ?qk6Z ?qk9Z ?qk3Z ?qk4Z ?qk5Z; (case qk3Z => rfl); (case qk4Z => rfl); (case qk5Z => decide); (case qk6Z => rfl); (case qk9Z => rfl); (case qk1Z => assumption); (case qk2Z => k_is); (case qk7Z => boot_fast); (case qk8Z => decide); k_whole))) | (with_reducible (((with_reducible show wpAny _ _ (newTuple _) _ _ _); (k_here; refine newTuple_L (by k_asm) (by k_asm) ?_ (Nat.le_of_ble_eq_true rfl); intro a9 h9 F9 N9 f9 k9; (try dsimp only))))) | (with_reducible (((with_reducible show wpAny _ _ (execs (Stmt.Assign _ _ _ :: _) _) _ _ _); refine wpAny_execs_cons ?_))) | (with_reducible (((with_reducible show TurnE _ _ _ _ _ _ _ _ _ _ _ _ _ _ _); dsimp only [TurnE]))) | (with_reducible ((k_here; (with_reducible show wpAny _ _ (call (Value.builtin "len") [Value.ref _]) _ _ _); refine len_tup_ints (IsTup.keeps (by assumption) (Fr.keep (by k_asm))) (by assumption) (by assumption) ?_))) | walk1); all_goals (try dsimp only)) | dsimp only))
    rename Fr _ _ _ _ => F6
    have hvl : vs.length = xs.length := by have := hr.length; rw [List.length_map] at this; exact this
    refine Calls.call_len_list (s := Shared.mk _ _ _ _ _) (isList_keeps hl' F6.keep) (by rw [List.size_toArray]; omega) ?_
    dsimp only
    rw [List.size_toArray, hvl]
    (repeat' (first | (k_unfold; (try dsimp only)) | ((fail_if_success (with_reducible show wpAny _ _ (pyIter _) _ _ _)); (fail_if_success (with_reducible show wpAny _ _ (call (Value.builtin "list.append") _) _ _ _)); (fail_if_success (with_reducible show wpAny _ _ (compareOp _ (Value.ref _) (Value.ref _)) _ _ _)); (fail_if_success (with_reducible show wpAny _ _ (eval (Expr.ListComp _ _ _ _) _) _ _ _)); (fail_if_success (with_reducible show wpAny _ _ (exec (Stmt.Assign _ (Expr.ListComp _ _ _ _) _) _) _ _ _)); (first | ((with_reducible show wpAny _ _ (eval (Expr.Name _ _) (genEnv _ _ _ _ _ _)) _ _ _); k_dflt (first | (refine' nmL ?qk1Z ?qk2Z ?_ ?qk3Z ?qk4Z ?qk5Z; (case qk3Z => rfl); (case qk4Z => rfl); (case qk5Z => decide); (case qk1Z => assumption); (case qk2Z => assumption); k_whole) | (refine' nmB ?qk1Z ?qk2Z ?qk7Z ?qk8Z ?_ ?qk6Z ?qk9Z ?qk3Z ?qk4Z ?qk5Z; (case qk3Z => rfl); (case qk4Z => rfl); (case qk5Z => decide); (case qk6Z => rfl); (case qk9Z => rfl); (case qk1Z => assumption); (case qk2Z => k_is); (case qk7Z => boot_fast); (case qk8Z => decide); k_whole))) | ((with_reducible show wpAny _ _ (eval (Expr.Name _ _) (compEnvC _ _ _ _)) _ _ _); k_dflt (first | (refine' nmL ?qk1Z ?qk2Z ?_ ?qk3Z ?qk4Z ?qk5Z; (case qk3Z => rfl); (case qk4Z => rfl); (case qk5Z => decide); (case qk1Z => k_asm); (case qk2Z => rfl); k_whole) | (refine' nmC ?qk1Z ?qk2Z ?qk6Z ?_ ?qk3Z ?qk4Z ?qk5Z; (case qk3Z => rfl); (case qk4Z => rfl); (case qk5Z => decide); (case qk6Z => rfl); (case qk1Z => assumption); (case qk2Z => assumption); k_whole) | (refine' nmG ?qk1Z ?qk2Z ?_ ?qk6Z ?qk3Z ?qk4Z ?qk5Z; (case qk3Z => rfl); (case qk4Z => rfl); (case qk5Z => decide); (case qk6Z => rfl); (case qk1Z => assumption); (case qk2Z => k_is); k_whole) | (refine' nmB ?qk1Z ?qk2Z ?qk7Z ?qk8Z ?_ ?qk6Z ?qk9Z ?qk3Z ?qk4Z ?qk5Z; (case qk3Z => rfl); (case qk4Z => rfl); (case qk5Z => decide); (case qk6Z => rfl); (case qk9Z => rfl); (case qk1Z => assumption); (case qk2Z => k_is); (case qk7Z => boot_fast); (case qk8Z => decide); k_whole))) | (with_reducible (((with_reducible show wpAny _ _ (newTuple _) _ _ _); (k_here; refine newTuple_L (by k_asm) (by k_asm) ?_ (Nat.le_of_ble_eq_true rfl); intro a9 h9 F9 N9 f9 k9; (try dsimp only))))) | (with_reducible (((with_reducible show wpAny _ _ (execs (Stmt.Assign _ _ _ :: _) _) _ _ _); refine wpAny_execs_cons ?_))) | (with_reducible (((with_reducible show TurnE _ _ _ _ _ _ _ _ _ _ _ _ _ _ _); dsimp only [TurnE]))) | (with_reducible ((k_here; (with_reducible show wpAny _ _ (call (Value.builtin "len") [Value.ref _]) _ _ _); refine len_tup_ints (IsTup.keeps (by assumption) (Fr.keep (by k_asm))) (by assumption) (by assumption) ?_))) | walk1); all_goals (try dsimp only)) | dsimp only))
    all_goals (
      rename Fr _ _ _ _ => F7
      rename News _ _ _ _ => N7
      refine join_gen (s := Shared.mk _ _ _ _ _) W (genAt_frame hat (fun b hb o e => off F7 N7 (fun z => hLn (z ▸ hb)) e) (GH.keeps F7.keep).lim) ?_ hvl (hb.push hgs) hsz hx ?_
      · intro b hb
        obtain ⟨o, ho⟩ := hfp b hb
        exact Heap.lt_size (off F7 N7 (fun z => hLn (z ▸ hb)) ho)
      · intro t' k h' g' hk' hg'
        have old : ∀ b o, h₁.get? b = some o → b ∉ [C, I] := fun b o e q => by have := hCI b q; dsimp only at this; rw [e] at this; cases this
        have keep : ∀ b o, (∃ o', h₁.get? b = some o') → b ≠ L → h₅.get? b = some o → h'.get? b = some o := fun b o ⟨o', e'⟩ hb e => hk' b o (old b o' e') (off F7 N7 hb e)
        have hfl := fmt_len hsz hx
        refine add_S ?_ ?_
        · refine Nat.le_trans (Nat.add_le_add_left hfl _) ?_
          first | exact Nat.le_of_ble_eq_true (by decide +kernel) | decide +kernel
        · intro t9 k9
          dsimp only
          have hpt : PT h' := by
            have h82 : ∃ o', h₁.get? 82 = some o' := ⟨_, ext _ _ hop⟩
            obtain ⟨⟨oc, vc, c1, c2, c3, c4⟩, c5⟩ := htab
            have h86 : ∃ o', h₁.get? 86 = some o' := ⟨_, ext _ _ c1⟩
            have n86 : 86 ≠ L := fun z => absurd (Heap.lt_size c1) (by rw [z]; exact Nat.not_lt.mpr hL)
            obtain ⟨o, vs, file, tf, flags, tg, inF, text, tt, op, q1, r1, r2, r3, r4, r5, r6, q2, r⟩ := hok₅
            obtain ⟨⟨o3, v3, e1, e2, e3, e4⟩, e5⟩ := htab₅
            exact ⟨_, ⟨o, vs, file, tf, flags, tg, inF, text, tt, op, keep _ _ h86 n86 q1, r1, r2, r3, r4, r5, r6, keep _ _ h82 (Ne.symm hne) q2, r⟩, ⟨⟨o3, v3, keep _ _ h86 n86 e1, e2, e3, e4⟩, keep _ _ h82 (Ne.symm hne) e5⟩⟩
          have hx82 : Heap.ExtBut 82 s.heap h' := fun b o hb e => keep b o ⟨o, ext b o e⟩ (fun z => absurd (Heap.lt_size e) (by rw [z]; exact Nat.not_lt.mpr hL)) (hext b o hb (ext b o e))
          have hfin := hQ t9 h' g' k9 hx82 hpt hg'
          unfold fmtOf at hfin
          first
            | (rw [if_pos (by omega)] at hfin; rw [show Str.ofString "at tab sizes " = Str.ofString "at tab sizes" ++ Str.ofString " " from by decide +kernel] at hfin; exact hfin)
            | (rw [if_neg (by omega)] at hfin; rw [show Str.ofString "at tab size " = Str.ofString "at tab size" ++ Str.ofString " " from by decide +kernel] at hfin; exact hfin))
end
end
section
/- the law's own def, as it stands in the program -/
noncomputable def lawDef : Stmt := (PySem.Challenge.pw_du0019_01.main.body.getLast?).getD (.Pass ⟨0, 0, 0, 0⟩)
noncomputable def lawBody : List Stmt := match lawDef with
  | .FunctionDef _ _ b .. => b
  | _ => []
noncomputable def lawScope : Scope := match lawDef with
  | .FunctionDef (scope := sc) .. => sc
  | _ => default
noncomputable abbrev lawEnv (L fa : Addr) (cd : Value) : Env := envOfC (Str.ofString "law") lawScope L fa cd
section
variable {prog : Program} {w : World} {A : Around} {E : Value → Shared → Prop} {env : Env}
noncomputable def IsI (d : Int) (z : Value) : Prop := ∃ t, z = .int d t
/- what a pair comprehension with int elements needs of its source -/
inductive PSrc (prog : Program) (w : World) (A : Around) (env : Env) (scope : Scope) (cl : List (Str × Addr)) (xa xb : Str) (elt : Expr) (s₀ s₂ : Shared) (it : Value) (ds : List Int) : Prop
  | mk (I : Addr) (fp wr : List Addr) (Pt : Nat → Array Value → Prop) (St : Nat → Heap → Prop) (Mid : Nat → Addr → Heap → Prop) : it = .ref I → WalksU prog w A I fp wr ds.length Pt St Mid → St 0 s₂.heap → (∀ b ∈ fp, b < s₂.heap.objs.size) → Sub s₀.heap s₂.heap → s₀.heap.objs.size ≤ s₂.heap.objs.size → (∀ b ∈ wr, s₀.heap.get? b = none) → (∃ h tk, s₂ = { s₀ with heap := h, toks := tk }) →
    (∀ i d vals, ds[i]? = some d → Pt i vals → ∃ va vb, vals = #[va, vb] ∧ ∀ C (s₃ : Shared) m₃ (E' : Value → Shared → Prop), s₀.heap.objs.size ≤ C → s₃.heap.Ns C m₃ → m₃ xa = some va → m₃ xb = some vb → Sub s₀.heap s₃.heap →
      wpAny (model prog w) A (eval elt (compEnvC scope cl C env)) (fun z s₄ => Keeps s₃ s₄ ∧ IsI d z) E' s₃) → PSrc prog w A env scope cl xa xb elt s₀ s₂ it ds
inductive PairI (s₀ : Shared) (D C : Addr) (ds : List Int) (St : Nat → Heap → Prop) (k : Nat) (s' : Shared) : Prop
  | mk (h' : Heap) (tk : Nat) (m' : Str → Option Value) (ys : List Value) (i : Nat) : s' = { s₀ with heap := h', toks := tk } → St i h' → h'.PlainList D ys.toArray → h'.Ns C m' → IntsAre ys (ds.take i) → i ≤ ds.length → k = ds.length + 1 - i → Sub s₀.heap h' → PairI s₀ D C ds St k s'
set_option maxHeartbeats 2000000 in
theorem lcPairAssign {s : Shared} {elt iter : Expr} {xa xb y : Str} {pa pb pt py : Pos} {kt : Nat} {scope : Scope} {cl : List (Str × Addr)} {pos spos : Pos} {Q : Flow → Shared → Prop} (hh : A.handled = none)
    (hsw : swapsWith (.ListComp elt [⟨.Tuple [.Name xa pa, .Name xb pb] kt pt, iter, [], 0⟩] scope pos) (some (.Name y py)) spos.line env = pure true)
    (hclos : closureFor scope env = pure cl) (hcell : ∀ y ∈ scope.names, y.2 ≠ .cell) (hkind : scope.kind = .function)
    (hnames : ∀ y ∈ scope.names, y.2 = .local → scope.names.lookup y.1 = some .local) (hxa : scope.names.lookup xa = some .local) (hxb : scope.names.lookup xb = some .local) (hab : xa ≠ xb)
    (hy : env.kindOf y = some .local) (hp : (env.scope.kind == .class || (env.scope.kind == .module && env.locals != env.globals)) = false)
    (h : wpAny (model prog w) A (eval iter env) (fun xv s₁ => wpAny (model prog w) A (pyIter xv) (fun it s₂ => ∃ (s₀ : Shared) (ds : List Int) (m : Str → Option Value), PSrc prog w A env scope cl xa xb elt s₀ s₂ it ds ∧ ds.length ≤ 100000 ∧ s₀.heap.Ns env.locals m ∧
      (∀ D h' tk ys, s₀.heap.get? D = none → h'.PlainList D (ys : List Value).toArray → IntsAre ys ds → h'.Ns env.locals (fun z => if z = y then some (.ref D) else m z) → (∀ b o, b ≠ env.locals → s₀.heap.get? b = some o → h'.get? b = some o) → Q .next { s₀ with heap := h', toks := tk })) E s₁) E s)
    (hs : ∀ x, foldedSetIterable iter env x = pure x) :
    wpAny (model prog w) A (exec (.Assign [.Name y py] (.ListComp elt [⟨.Tuple [.Name xa pa, .Name xb pb] kt pt, iter, [], 0⟩] scope pos) spos) env) Q E s := by
  rw [exec_Assign_Name_used _ _ _ _ hsw]
  refine wpAny_bind (wpAny_standAt (wpAny_bind ?_))
  show wpAny _ A (do let _ ← comprehension (.ListComp elt [⟨.Tuple [.Name xa pa, .Name xb pb] kt pt, iter, [], 0⟩] scope pos) scope env _ (newList []) false (eval iter env) (some (assign (.Name y py) env))) _ _ s
  refine wpAny_bind (wpAny_mono (wpAny_comprehension_free (use := some (assign (.Name y py) env)) (Q := fun _ s' => Q .next s') rfl hs hclos hkind hnames
    (wpAny_mono h (fun xv s₁ h₁ => wpAny_mono h₁ (fun it s₂ h₂ => ?_) fun _ _ e => e) fun _ _ e => e)) (fun _ s' hq => wpAny_pure (wpAny_pure hq)) fun _ _ e => e)
  obtain ⟨s₀, ds, m, ⟨I, fp, wr, Pt, St, Mid, rfl, W, hst, hfp, hk, hsz', hwr, ⟨h2, tk2, rfl⟩, turn⟩, hsz, hn0, hQ⟩ := h₂
  refine wpAny_newObj_type (wpAny_newFunctionEnv hcell (by intro y hy; simp at hy) (fun h₁ hns₁ hsb₁ => ?_) hkind)
  dsimp only at hns₁ hsb₁ hst hfp hk hsz' ⊢
  generalize hH2 : h2.push { cls := .type "list", dict := none, data := .seq ([] : List Value).toArray } = H2 at hns₁ hsb₁ ⊢
  have hC : H2.objs.size = h2.objs.size + 1 := by rw [← hH2, Heap.size_push]
  have hDC : h2.objs.size ≠ H2.objs.size := by rw [hC]; exact Nat.ne_of_lt (Nat.lt_succ_self _)
  have below : ∀ b, b < h2.objs.size → b ≠ H2.objs.size ∧ b ≠ h2.objs.size := fun b hb => ⟨by rw [hC]; exact Nat.ne_of_lt (Nat.lt_succ_of_lt hb), Nat.ne_of_lt hb⟩
  have hDf : h2.objs.size ∉ fp := fun hm => Nat.lt_irrefl _ (hfp _ hm)
  have hCf : H2.objs.size ∉ fp := fun hm => by have := hfp _ hm; rw [hC] at this; exact Nat.lt_irrefl _ (Nat.lt_of_succ_lt this)
  have hCw : H2.objs.size ∉ wr := fun h => hCf (W.sub _ h)
  have hDw : h2.objs.size ∉ wr := fun h => hDf (W.sub _ h)
  have hD0 : s₀.heap.get? h2.objs.size = none := Heap.get?_none_of_le hsz'
  have hC0 : s₀.heap.get? H2.objs.size = none := Heap.get?_none_of_le (by rw [hC]; omega)
  have old : ∀ b o, h2.get? b = some o → h₁.get? b = some o := fun b o e => hsb₁.extBut b o (below b (Heap.lt_size e)).1 (Heap.get?_push_of_some _ (hH2 ▸ Heap.get?_push_of_some _ e))
  have hacc : h₁.PlainList h2.objs.size #[] := ⟨_, hsb₁.extBut _ _ hDC (Heap.get?_push_of_some _ (hH2 ▸ Heap.get?_push_size _ rfl))⟩
  have hst₁ : St 0 h₁ := W.frame _ _ _ hst fun b _ o e => old b o e
  have loop : ∀ s₃ : Shared, s₃ = { s₀ with heap := h₁, toks := tk2 + ([] : List (Str × Value)).length } →
      codeAny (model prog w) A (.compLoop (.ListComp elt [⟨.Tuple [.Name xa pa, .Name xb pb] kt pt, iter, [], 0⟩] scope pos) 0 (.ref I) (.ref h2.objs.size) (compEnvC scope cl H2.objs.size env))
        (compPost (model prog w) A E (some (assign (.Name y py) env)) (fun _ s' => Q .next s') (.ref h2.objs.size) H2.objs.size) s₃ := by
    rintro s₃ rfl
    refine LCp.codeAny_compLoop_pair
      (PairI s₀ h2.objs.size H2.objs.size ds St) ?_ (ds.length + 1)
      ⟨h₁, _, _, [], 0, rfl, hst₁, hacc, hns₁, (by rw [List.take_zero]; exact .nil), Nat.zero_le _, rfl, fun b o e => old b o (hk b o e)⟩
    rintro k s' ⟨h', tk, m', ys, i, rfl, hst', hacc', hn', hR, hi, rfl, hk'⟩
    by_cases hlt : i < ds.length
    · refine W.item i _ _ _ hlt hst' fun T vals h₃ tk₃ hPt hT hMid hk₃ => ?_
      obtain ⟨va, vb, rfl, tn⟩ := turn i ds[i] vals (List.getElem?_eq_getElem hlt) hPt
      refine W.go _ _ _ i T _ _ _ hMid fun h₄ hst₄ hk₄ => ?_
      have hT4 : IsTup h₄ T #[va, vb] := by obtain ⟨o, ho, r⟩ := hT; exact ⟨o, hk₄ _ _ (W.apart _ _ _ hMid) ho, r⟩
      refine assign_Tuple_tuple hh hT4 rfl rfl fun h₅ he => ?_
      have he' : ∀ b o, h₄.get? b = some o → h₅.get? b = some o := fun b o e => he b o (Nat.ne_of_lt (Heap.lt_size e)) e
      have hn5 := ((hn'.at' fun o e => hk₃ _ o hCw e).at' fun o e => hk₄ _ o hCw e).at' fun o e => he' _ o e
      refine assignInOrder_cons (wpAny_assign_Name (wpAny_storeName_local (lookup_relabel_local hxa) hn5 (fun h₆ hn₆ hs₆ => ?_) (by simp [compEnvC, relabel, hkind])))
      refine assignInOrder_cons (wpAny_assign_Name (wpAny_storeName_local (lookup_relabel_local hxb) hn₆ (fun h₇ hn₇ hs₇ => ?_) (by simp [compEnvC, relabel, hkind])))
      refine assignInOrder_nil ?_
      have up : ∀ b o, b ≠ H2.objs.size → b ∉ wr → h'.get? b = some o → h₇.get? b = some o := fun b o hb hw e => hs₇.extBut b o hb (hs₆.extBut b o hb (he' b o (hk₄ b o hw (hk₃ b o hw e))))
      have hst₇ : St (i + 1) h₇ := W.frame _ _ _ hst₄ fun b hb o e => hs₇.extBut b o (fun q => hCf (by rw [← (show b = H2.objs.size from q)]; exact hb)) (hs₆.extBut b o (fun q => hCf (by rw [← (show b = H2.objs.size from q)]; exact hb)) (he' b o e))
      have hk7 : Sub s₀.heap h₇ := fun b o e => up b o (fun q => by rw [q, hC0] at e; cases e) (fun q => by rw [hwr b q] at e; cases e) (hk' b o e)
      have hacc₇ : h₇.PlainList h2.objs.size ys.toArray := hacc'.at fun o e => up _ o hDC hDw e
      refine wpAny_mono (tn H2.objs.size _ _ _ (by rw [hC]; omega) hn₇ (by simp [hab]) (by simp) hk7) (fun z s₈ h₈ => ?_) fun _ _ e => e
      obtain ⟨⟨h₈, tk₈, rfl, hk₈⟩, t, rfl⟩ := h₈
      refine wpAny_list_append_plain (hsz := by have := hR.length; rw [List.length_take] at this; rw [List.size_toArray, sizeLine_eq]; omega) (hacc₇.at fun o e => hk₈ _ o e) fun h₉ hl₉ hs₉ => ?_
      have hs₉' : ∀ b o, b ≠ h2.objs.size → h₈.get? b = some o → h₉.get? b = some o := fun b o hb e => hs₉.extBut b o hb e
      refine ⟨ds.length + 1 - (i + 1), by omega, h₉, tk₈, _, ys ++ [.int ds[i] t], i + 1, rfl, ?_, (by rw [List.push_toArray] at hl₉; exact hl₉), (hn₇.keeps hk₈).sameBut hs₉ (Ne.symm hDC), ?_, hlt, rfl, ?_⟩
      · exact W.frame _ _ h₉ hst₇ fun b hb o e => hs₉' b o (fun h => hDf (h ▸ hb)) (hk₈ b o e)
      · rw [take_snoc (List.getElem?_eq_getElem hlt)]; exact ints_snoc hR
      · intro b o e
        exact hs₉' b o (fun q => by rw [q, hD0] at e; cases e) (hk₈ b o (hk7 b o e))
    · have hin : i = ds.length := by omega
      subst hin
      refine W.done _ _ _ hst' fun h₃ tk₃ hk₃ => ?_
      rw [List.take_length] at hR
      have hk3 : Sub s₀.heap h₃ := fun b o e => hk₃ b o (fun q => by rw [hwr b q] at e; cases e) (hk' b o e)
      have hl3 : h₃.PlainList h2.objs.size ys.toArray := hacc'.at fun o e => hk₃ _ o hDw e
      have hn3 := hn'.at' fun o e => hk₃ _ o hCw e
      have hLC : env.locals ≠ H2.objs.size := by intro q; obtain ⟨o, _, _, ho, _⟩ := hn0; rw [q, hC0] at ho; cases ho
      have hLD : env.locals ≠ h2.objs.size := by intro q; obtain ⟨o, _, _, ho, _⟩ := hn0; rw [q, hD0] at ho; cases ho
      show wpAny _ A (assign (.Name y py) env (.ref h2.objs.size)) _ _ _
      refine wpAny_assign_Name (wpAny_storeName_local hy (hn0.at' fun o e => hk3 _ o e) (fun h₄ hn₄ hs₄ => ?_) hp)
      refine ⟨m', hn3.sameBut hs₄ (Ne.symm hLC), fun h₅ hs₅ => ?_⟩
      have k5 : ∀ b o, b ≠ env.locals → b ≠ H2.objs.size → h₃.get? b = some o → h₅.get? b = some o := fun b o hL hc e => hs₅.extBut b o hc (hs₄.extBut b o hL e)
      exact hQ _ h₅ _ ys hD0 ((hl3.extBut hs₄.extBut (Ne.symm hLD)).extBut hs₅.extBut hDC) hR (hn₄.sameBut hs₅ hLC) fun b o hbL e => k5 b o hbL (fun q => by rw [q, hC0] at e; cases e) (hk3 b o e)
  exact codeAny_compStart_list (loop _ rfl) (W.self 0 _ _ _ hst₁ (loop _ rfl))
end
theorem kst_fr {H h : Heap} {L : Addr} {m : Str → Option Value} (ps : List (Str × Value)) (F : Fr H L h m) (hk : ∀ p ∈ ps, m p.1 = some p.2) : Fr H L h (kstB m ps) := by
  have e : kstB m ps = m := funext fun z => kstB_eq hk fun _ => rfl
  rw [e]; exact F
theorem News.pick {H h : Heap} {L : Addr} {p : Addr × Obj} {big small : List (Addr × Obj)} (N : News H L h big) (hm : p ∈ big) (N' : News H L h small) : News H L h (p :: small) := fun q hq => by
  rcases List.mem_cons.mp hq with rfl | hq
  · exact N _ hm
  · exact N' q hq
section
variable {prog : Program} {w : World} {A : Around} {E : Value → Shared → Prop} {s : Shared}
/- a store into a cell, the ledger's other entries kept -/
theorem stCell {name : Str} {scope : Scope} {L a c : Addr} {cd v : Value} {H : Heap} {m : Str → Option Value} {x : Str} {o : Obj} {v₀ : Option Value} {rest : List (Addr × Obj)} {Q : Unit → Shared → Prop} (F : Fr H L s.heap m) (N : News H L s.heap ((c, o) :: rest))
    (hc : (cellsFrom (L + 1) scope.names []).lookup x = some c) (hd : o.data = .cell v₀) (h1 : ∀ p ∈ rest, p.1 ≠ c ∨ ∀ v, p.2.data ≠ .cell v)
    (h : ∀ h' o', Fr H L h' m → News H L h' ((c, o') :: rest) → o'.data = .cell (some v) → Q () { s with heap := h' })
    (hk : scope.kind = .function) (hl : (envOfC name scope L a cd).kindOf x = some .cell) :
    wpAny (model prog w) A (storeName (envOfC name scope L a cd) x v) Q E s := by
  have ap : ∀ l : List (Addr × Obj), (∀ p ∈ l, p.1 ≠ c ∨ ∀ v, p.2.data ≠ .cell v) → ApartOr c l := fun l => by
    induction l with
    | nil => exact fun _ => trivial
    | cons p r ih => exact fun k => ⟨k p (.head _), ih fun q hq => k q (.tail _ hq)⟩
  exact stCNk (own := []) (rest := rest) F N hc hd trivial (ap _ h1) h hk hl
end
section
variable {prog : Program} {w : World} {A : Around} {E : Value → Shared → Prop} {env : Env} {s : Shared}
theorem psrc_enum {scope : Scope} {cl : List (Str × Addr)} {xa xb : Str} {elt : Expr} {l : Addr} {vs : List Value} {ds : List Int} {R : Shared → List Int → (Str → Option Value) → Prop} {m : Str → Option Value} (hh : A.handled = none) (_ : s.heap.Ns env.locals m) (hl : s.heap.IsList l vs.toArray) (hlen : vs.length = ds.length)
    (turn : ∀ (i : Nat) (d : Int) (x : Value) (t : Tok), ds[i]? = some d → vs[i]? = some x → ∀ C (s₃ : Shared) (m₃ : Str → Option Value) (E' : Value → Shared → Prop), s.heap.objs.size ≤ C → s₃.heap.Ns C m₃ → m₃ xa = some (.int i t) → m₃ xb = some x → Sub s.heap s₃.heap →
      wpAny (model prog w) A (eval elt (compEnvC scope cl C env)) (fun z s₄ => Keeps s₃ s₄ ∧ IsI d z) E' s₃)
    (h : R s ds m) :
    wpAny (model prog w) A (call (.type "enumerate") [.ref l]) (fun xv s₁ => wpAny (model prog w) A (pyIter xv) (fun it s₂ => ∃ (s₀ : Shared) (ds : List Int) (m : Str → Option Value), PSrc prog w A env scope cl xa xb elt s₀ s₂ it ds ∧ R s₀ ds m) E s₁) E s := by
  have hlt : l < s.heap.objs.size := by obtain ⟨_, e, _⟩ := hl; exact Heap.lt_size e
  refine call_enumerate_list hl fun h7 he hit hsz7 hk7 => ?_
  refine wpAny_pyIter_enum he ?_
  have W := (WalksT.enumerate (prog := prog) (w := w) (A := A) hh (s.heap.objs.size + 1) s.heap.objs.size l (Nat.succ_ne_self _) (Nat.ne_of_lt (Nat.lt_succ_of_lt hlt)) (Nat.ne_of_lt hlt) vs.toArray).toU
  rw [show vs.toArray.size = ds.length by rw [List.size_toArray, hlen]] at W
  refine ⟨s, ds, m, ⟨_, _, _, _, _, _, rfl, W, ⟨⟨.none, he⟩, hit, hl.at fun o e => hk7 _ o e⟩, ?_, hk7, ?_, ?_, ⟨_, _, rfl⟩, ?_⟩, h⟩
  · intro b hb
    show b < h7.objs.size
    rw [hsz7]
    rcases List.mem_cons.mp hb with rfl | hb
    · exact Nat.lt_succ_self _
    rcases List.mem_cons.mp hb with rfl | hb
    · exact Nat.lt_succ_of_lt (Nat.lt_succ_self _)
    rw [List.mem_singleton.mp hb]
    exact Nat.lt_succ_of_lt (Nat.lt_succ_of_lt hlt)
  · show _ ≤ h7.objs.size
    omega
  · intro b hb
    rcases List.mem_cons.mp hb with rfl | hb
    · exact Heap.get?_none_of_le (Nat.le_succ _)
    rw [List.mem_singleton.mp hb]
    exact Heap.get?_none_of_le (Nat.le_refl _)
  · rintro i d vals hd ⟨t, x, hx, rfl⟩
    exact ⟨_, _, rfl, turn i d x t hd (by simpa using hx)⟩
end
end
section
-- steps: plain
noncomputable def lTold (ns : List Int) : Int := (ns.take 20).sum
noncomputable def lRuns (ns : List Int) : List Int := (ns.take 6).map (· % 8)
noncomputable def lLast (ns : List Int) : Int := lTold ns % 8
noncomputable def lPlace (ns : List Int) : Int := lTold ns / 8 % ((lRuns ns).length + 1)
noncomputable abbrev lawA (L fa : Addr) (cd : Value) : Around := callerA.deeper (lawEnv L fa cd)
section
variable {prog : Program} {w : World} {s : Shared} {H : Heap} {L fa : Addr} {cd : Value}
set_option maxHeartbeats 4000000 in
theorem law_a1 {l : Addr} {vs : List Value} {ns : List Int} {ps : Array Value} {o1 o2 o3 : Obj} {u : Str → Option Value} {Q : Flow → Shared → Prop} (G : Gd w.params H) (hl : H.IsList l vs.toArray) (hi : IntsAre vs ns) (hn : ns.length ≤ 63)
    (F : Fr H L s.heap (kstB u [(Str.ofString "script", .ref l)])) (N : News H L s.heap [(L + 1, o1), (L + 1 + 1, o2), (L + 1 + 1 + 1, o3), (82, tabObj ps)]) (h1 : o1.data = .cell none)
    (next : ∀ h tk r rvs nn o1' u t1 t2 t3, Fr H L h (kstB u [(Str.ofString "script", .ref l), (Str.ofString "told", .int (lTold ns) t1), (Str.ofString "runs", .ref r), (Str.ofString "last", .int (lLast ns) t2)]) →
      News H L h [(L + 1, o1'), (L + 1 + 1, o2), (L + 1 + 1 + 1, o3), (82, tabObj ps), (r, W.listOf (rvs : List Value).toArray nn)] → o1'.data = .cell (some (.int (lPlace ns) t3)) → IntsAre rvs (lRuns ns) →
      wpAny (model prog w) (lawA L fa cd) (execs (lawBody.drop 4) (lawEnv L fa cd)) Q (fun _ _ => False) { s with heap := h, toks := tk }) :
    wpAny (model prog w) (lawA L fa cd) (execs (lawBody.drop 0) (lawEnv L fa cd)) Q (fun _ _ => False) s := by
  have X := G.k
  obtain ⟨p, loose, mg, mb, T⟩ := G.t
  obtain ⟨h, gs, dr, tk, os⟩ := s
  dsimp only at F N next
  change wpAny _ _ (execs (_ :: _) _) _ _ _
  (repeat' (first | (k_unfold; (try dsimp only)) | ((fail_if_success (with_reducible show wpAny _ _ (pyIter _) _ _ _)); (fail_if_success (with_reducible show wpAny _ _ (call (Value.builtin "list.append") _) _ _ _)); (fail_if_success (with_reducible show wpAny _ _ (compareOp _ (Value.ref _) (Value.ref _)) _ _ _)); (fail_if_success (with_reducible show wpAny _ _ (eval (Expr.ListComp _ _ _ _) _) _ _ _)); (fail_if_success (with_reducible show wpAny _ _ (exec (Stmt.Assign _ (Expr.ListComp _ _ _ _) _) _) _ _ _)); first | ((with_reducible show wpAny _ _ (eval (Expr.Name _ _) (compEnvC _ _ _ _)) _ _ _); k_dflt (first | (refine' nmL ?qk1Z ?qk2Z ?_ ?qk3Z ?qk4Z ?qk5Z; (case qk3Z => rfl); (case qk4Z => rfl); (case qk5Z => decide); (case qk1Z => k_asm); (case qk2Z => rfl); k_whole) | (refine' nmC ?qk1Z ?qk2Z ?qk6Z ?_ ?qk3Z ?qk4Z ?qk5Z; (case qk3Z => rfl); (case qk4Z => rfl); (case qk5Z => decide); (case qk6Z => rfl); (case qk1Z => assumption); (case qk2Z => assumption); k_whole) | (refine' nmG ?qk1Z ?qk2Z ?_ ?qk6Z ?qk3Z ?qk4Z ?qk5Z; (case qk3Z => rfl); (case qk4Z => rfl); (case qk5Z => decide); (case qk6Z => rfl); (case qk1Z => assumption); (case qk2Z => k_is); k_whole) | (refine' nmB ?qk1Z ?qk2Z ?qk7Z ?qk8Z ?_ ?qk6Z ?qk9Z ?qk3Z ?qk4Z ?qk5Z; (case qk3Z => rfl); (case qk4Z => rfl); (case qk5Z => decide); (case qk6Z => rfl); (case qk9Z => rfl); (case qk1Z => assumption); (case qk2Z => k_is); (case qk7Z => boot_fast); (case qk8Z => decide); k_whole))) | (with_reducible (((with_reducible show wpAny _ _ (newTuple _) _ _ _); (k_here; refine newTuple_L (by k_asm) (by k_asm) ?_ (Nat.le_of_ble_eq_true rfl); intro a9 h9 F9 N9 f9 k9; (try dsimp only))))) | (with_reducible (((with_reducible show wpAny _ _ (execs (Stmt.Assign _ _ _ :: _) _) _ _ _); refine wpAny_execs_cons ?_))) | (with_reducible (((with_reducible show TurnE _ _ _ _ _ _ _ _ _ _ _ _ _ _ _); dsimp only [TurnE]))) | (with_reducible ((k_here; (with_reducible show wpAny _ _ (call (Value.builtin "len") [Value.ref _]) _ _ _); refine len_tup_ints (IsTup.keeps (by assumption) (Fr.keep (by k_asm))) (by assumption) (by assumption) ?_))) | walk1) | dsimp only))
  refine' lcAssign (cl := []) ?sw ?clos ?cell ?kind ?names ?hx ?hy ?hp ?h ?hs
  case sw => with_unfolding_all rfl
  case clos => with_unfolding_all rfl
  case cell => decide
  case kind => rfl
  case names => decide
  case hx => rfl
  case hy => rfl
  case hp => rfl
  case hs => intro _; with_unfolding_all rfl
  (repeat' (first | (k_unfold; (try dsimp only)) | ((fail_if_success (with_reducible show wpAny _ _ (pyIter _) _ _ _)); (fail_if_success (with_reducible show wpAny _ _ (call (Value.builtin "list.append") _) _ _ _)); (fail_if_success (with_reducible show wpAny _ _ (compareOp _ (Value.ref _) (Value.ref _)) _ _ _)); (fail_if_success (with_reducible show wpAny _ _ (eval (Expr.ListComp _ _ _ _) _) _ _ _)); (fail_if_success (with_reducible show wpAny _ _ (exec (Stmt.Assign _ (Expr.ListComp _ _ _ _) _) _) _ _ _)); first | ((with_reducible show wpAny _ _ (eval (Expr.Name _ _) (compEnvC _ _ _ _)) _ _ _); k_dflt (first | (refine' nmL ?qk1Z ?qk2Z ?_ ?qk3Z ?qk4Z ?qk5Z; (case qk3Z => rfl); (case qk4Z => rfl); (case qk5Z => decide); (case qk1Z => k_asm); (case qk2Z => rfl); k_whole) | (refine' nmC ?qk1Z ?qk2Z ?qk6Z ?_ ?qk3Z ?qk4Z ?qk5Z; (case qk3Z => rfl); (case qk4Z => rfl); (case qk5Z => decide); (case qk6Z => rfl); (case qk1Z => assumption); (case qk2Z => assumption); k_whole) | (refine' nmG ?qk1Z ?qk2Z ?_ ?qk6Z ?qk3Z ?qk4Z ?qk5Z; (case qk3Z => rfl); (case qk4Z => rfl); (case qk5Z => decide); (case qk6Z => rfl); (case qk1Z => assumption); (case qk2Z => k_is); k_whole) | (refine' nmB ?qk1Z ?qk2Z ?qk7Z ?qk8Z ?_ ?qk6Z ?qk9Z ?qk3Z ?qk4Z ?qk5Z; (case qk3Z => rfl); (case qk4Z => rfl); (case qk5Z => decide); (case qk6Z => rfl); (case qk9Z => rfl); (case qk1Z => assumption); (case qk2Z => k_is); (case qk7Z => boot_fast); (case qk8Z => decide); k_whole))) | (with_reducible (((with_reducible show wpAny _ _ (newTuple _) _ _ _); (k_here; refine newTuple_L (by k_asm) (by k_asm) ?_ (Nat.le_of_ble_eq_true rfl); intro a9 h9 F9 N9 f9 k9; (try dsimp only))))) | (with_reducible (((with_reducible show wpAny _ _ (execs (Stmt.Assign _ _ _ :: _) _) _ _ _); refine wpAny_execs_cons ?_))) | (with_reducible (((with_reducible show TurnE _ _ _ _ _ _ _ _ _ _ _ _ _ _ _); dsimp only [TurnE]))) | (with_reducible ((k_here; (with_reducible show wpAny _ _ (call (Value.builtin "len") [Value.ref _]) _ _ _); refine len_tup_ints (IsTup.keeps (by assumption) (Fr.keep (by k_asm))) (by assumption) (by assumption) ?_))) | walk1) | dsimp only))
  rename IntsAre _ (List.take 6 ns) => hI6
  rename Fr _ _ _ _ => F6
  rename News _ _ _ _ => N6
  refine src_list rfl ⟨_, (N6 _ (.head _)).1, rfl, _, rfl⟩ ?_
  intro it s₂ hsrc
  have hvl := hI6.length
  rw [List.length_take] at hvl
  refine ⟨_, _, _, fun i ys _ => IntsAre ys ((lRuns ns).take i), _, hsrc, (by omega), F6.ns, (fun _ _ _ _ h _ => h), (fun _ => .nil), LcTurn.plain ?turn, ?done⟩
  case turn =>
    intro C X' i v ys s₃ m₃ E' hX hi' hv hy hR F' N'
    obtain ⟨n, t, hn, rfl⟩ := ints_at hI6 hv
    have G3 : Gd w.params s₃.heap := G.keeps fun b o e => F'.keep b o (F6.keep b o e)
    (repeat' (first | (k_unfold; (try dsimp only)) | ((fail_if_success (with_reducible show wpAny _ _ (pyIter _) _ _ _)); (fail_if_success (with_reducible show wpAny _ _ (call (Value.builtin "list.append") _) _ _ _)); (fail_if_success (with_reducible show wpAny _ _ (compareOp _ (Value.ref _) (Value.ref _)) _ _ _)); (fail_if_success (with_reducible show wpAny _ _ (eval (Expr.ListComp _ _ _ _) _) _ _ _)); (fail_if_success (with_reducible show wpAny _ _ (exec (Stmt.Assign _ (Expr.ListComp _ _ _ _) _) _) _ _ _)); first | ((with_reducible show wpAny _ _ (eval (Expr.Name _ _) (compEnvC _ _ _ _)) _ _ _); k_dflt (first | (refine' nmL ?qk1Z ?qk2Z ?_ ?qk3Z ?qk4Z ?qk5Z; (case qk3Z => rfl); (case qk4Z => rfl); (case qk5Z => decide); (case qk1Z => k_asm); (case qk2Z => rfl); k_whole) | (refine' nmC ?qk1Z ?qk2Z ?qk6Z ?_ ?qk3Z ?qk4Z ?qk5Z; (case qk3Z => rfl); (case qk4Z => rfl); (case qk5Z => decide); (case qk6Z => rfl); (case qk1Z => assumption); (case qk2Z => assumption); k_whole) | (refine' nmG ?qk1Z ?qk2Z ?_ ?qk6Z ?qk3Z ?qk4Z ?qk5Z; (case qk3Z => rfl); (case qk4Z => rfl); (case qk5Z => decide); (case qk6Z => rfl); (case qk1Z => assumption); (case qk2Z => k_is); k_whole) | (refine' nmB ?qk1Z ?qk2Z ?qk7Z ?qk8Z ?_ ?qk6Z ?qk9Z ?qk3Z ?qk4Z ?qk5Z; (case qk3Z => rfl); (case qk4Z => rfl); (case qk5Z => decide); (case qk6Z => rfl); (case qk9Z => rfl); (case qk1Z => assumption); (case qk2Z => k_is); (case qk7Z => boot_fast); (case qk8Z => decide); k_whole))) | (with_reducible (((with_reducible show wpAny _ _ (newTuple _) _ _ _); (k_here; refine newTuple_L (by k_asm) (by k_asm) ?_ (Nat.le_of_ble_eq_true rfl); intro a9 h9 F9 N9 f9 k9; (try dsimp only))))) | (with_reducible (((with_reducible show wpAny _ _ (execs (Stmt.Assign _ _ _ :: _) _) _ _ _); refine wpAny_execs_cons ?_))) | (with_reducible (((with_reducible show TurnE _ _ _ _ _ _ _ _ _ _ _ _ _ _ _); dsimp only [TurnE]))) | (with_reducible ((k_here; (with_reducible show wpAny _ _ (call (Value.builtin "len") [Value.ref _]) _ _ _); refine len_tup_ints (IsTup.keeps (by assumption) (Fr.keep (by k_asm))) (by assumption) (by assumption) ?_))) | walk1) | dsimp only))
    · exact Keeps.toks _ _
    · rw [take_snoc (a := n % 8) (by rw [lRuns, List.getElem?_map, hn]; rfl), Int.fmod_eq_emod_of_nonneg n (by decide)]
      exact ints_snoc hR
  case done =>
    intro D h3 tk3 ys hD hl3 hR3 ns3 k3
    obtain ⟨nn, hl3⟩ := hl3
    obtain ⟨F3, N3⟩ := after_assign F6 N6 ns3 k3
    have N3 := add_news F6 N3 hD hl3
    clear F6 N6
    rw [List.take_of_length_le (by rw [lRuns, List.length_map, List.length_take]; omega)] at hR3
    have N4 := News.pick N3 (p := (L + 1, o1)) (by k_mem) (News.pick N3 (p := (L + 1 + 1, o2)) (by k_mem) (News.pick N3 (p := (L + 1 + 1 + 1, o3)) (by k_mem) (News.pick N3 (p := (82, tabObj ps)) (by k_mem) (News.pick N3 (p := (D, _)) (by k_mem) News.nil))))
    clear N3
    have hlr := hR3.length
    have hlr6 : (lRuns ns).length ≤ 6 := by rw [lRuns, List.length_map, List.length_take]; omega
    (repeat' (first | (k_unfold; (try dsimp only)) | ((fail_if_success (with_reducible show wpAny _ _ (pyIter _) _ _ _)); (fail_if_success (with_reducible show wpAny _ _ (call (Value.builtin "list.append") _) _ _ _)); (fail_if_success (with_reducible show wpAny _ _ (compareOp _ (Value.ref _) (Value.ref _)) _ _ _)); (fail_if_success (with_reducible show wpAny _ _ (eval (Expr.ListComp _ _ _ _) _) _ _ _)); (fail_if_success (with_reducible show wpAny _ _ (exec (Stmt.Assign _ (Expr.ListComp _ _ _ _) _) _) _ _ _)); first | ((with_reducible show wpAny _ _ (eval (Expr.Name _ _) (compEnvC _ _ _ _)) _ _ _); k_dflt (first | (refine' nmL ?qk1Z ?qk2Z ?_ ?qk3Z ?qk4Z ?qk5Z; (case qk3Z => rfl); (case qk4Z => rfl); (case qk5Z => decide); (case qk1Z => k_asm); (case qk2Z => rfl); k_whole) | (refine' nmC ?qk1Z ?qk2Z ?qk6Z ?_ ?qk3Z ?qk4Z ?qk5Z; (case qk3Z => rfl); (case qk4Z => rfl); (case qk5Z => decide); (case qk6Z => rfl); (case qk1Z => assumption); (case qk2Z => assumption); k_whole) | (refine' nmG ?qk1Z ?qk2Z ?_ ?qk6Z ?qk3Z ?qk4Z ?qk5Z; (case qk3Z => rfl); (case qk4Z => rfl); (case qk5Z => decide); (case qk6Z => rfl); (case qk1Z => assumption); (case qk2Z => k_is); k_whole) | (refine' nmB ?qk1Z ?qk2Z ?qk7Z ?qk8Z ?_ ?qk6Z ?qk9Z ?qk3Z ?qk4Z ?qk5Z; (case qk3Z => rfl); (case qk4Z => rfl); (case qk5Z => decide); (case qk6Z => rfl); (case qk9Z => rfl); (case qk1Z => assumption); (case qk2Z => k_is); (case qk7Z => boot_fast); (case qk8Z => decide); k_whole))) | (with_reducible (((with_reducible show wpAny _ _ (newTuple _) _ _ _); (k_here; refine newTuple_L (by k_asm) (by k_asm) ?_ (Nat.le_of_ble_eq_true rfl); intro a9 h9 F9 N9 f9 k9; (try dsimp only))))) | (with_reducible (((with_reducible show wpAny _ _ (execs (Stmt.Assign _ _ _ :: _) _) _ _ _); refine wpAny_execs_cons ?_))) | (with_reducible (((with_reducible show TurnE _ _ _ _ _ _ _ _ _ _ _ _ _ _ _); dsimp only [TurnE]))) | (with_reducible ((k_here; (with_reducible show wpAny _ _ (call (Value.builtin "len") [Value.ref _]) _ _ _); refine len_tup_ints (IsTup.keeps (by assumption) (Fr.keep (by k_asm))) (by assumption) (by assumption) ?_))) | walk1) | dsimp only))
    rename Fr _ _ _ _ => F5
    rename News _ _ _ _ => N5
    refine' stCell (s := Shared.mk _ _ _ _ _) F5 N5 ?hc h1 ?ap ?_ ?hk ?hl
    case hc => rfl
    case hk => rfl
    case hl => rfl
    case ap =>
      intro p hp
      rcases List.mem_cons.mp hp with rfl | hp
      · exact .inl (Nat.succ_ne_self _)
      rcases List.mem_cons.mp hp with rfl | hp
      · exact .inl (Nat.ne_of_gt (Nat.lt_succ_of_lt (Nat.lt_succ_self _)))
      rcases List.mem_cons.mp hp with rfl | hp
      · exact .inr fun _ e => nomatch e
      rcases List.mem_cons.mp hp with rfl | hp
      · exact .inr fun _ e => nomatch e
      cases hp
    intro h6 o1' F6 N6 hd6
    dsimp only
    rw [Int.fdiv_eq_ediv_of_nonneg _ (by decide), Int.fmod_eq_emod_of_nonneg _ (by omega)] at hd6
    rw [Int.fmod_eq_emod_of_nonneg (List.take 20 ns).sum (by decide : (0 : Int) ≤ 8)] at F6
    exact next h6 _ D ys nn o1' _ _ _ _ (kst_fr _ F6 (List.forall_mem_cons.mpr ⟨rfl, List.forall_mem_cons.mpr ⟨rfl, List.forall_mem_cons.mpr ⟨rfl, List.forall_mem_cons.mpr ⟨rfl, List.forall_mem_nil _⟩⟩⟩⟩)) N6 hd6 hR3
end
noncomputable def lMore (ns : List Int) : List Int := (lRuns ns ++ [lLast ns]).mapIdx fun k r => if (k : Int) = lPlace ns then r + 1 else r
section
variable {prog : Program} {w : World} {s : Shared} {H : Heap} {L fa : Addr} {cd : Value}
set_option maxHeartbeats 4000000 in
theorem law_a2 {l r : Addr} {rvs : List Value} {nn : Nat} {ns : List Int} {ps : Array Value} {o1 o2 o3 : Obj} {u : Str → Option Value} {t1 t2 t3 : Tok} {Q : Flow → Shared → Prop} (G : Gd w.params H)
    (F : Fr H L s.heap (kstB u [(Str.ofString "script", .ref l), (Str.ofString "told", .int (lTold ns) t1), (Str.ofString "runs", .ref r), (Str.ofString "last", .int (lLast ns) t2)]))
    (N : News H L s.heap [(L + 1, o1), (L + 1 + 1, o2), (L + 1 + 1 + 1, o3), (82, tabObj ps), (r, W.listOf rvs.toArray nn)]) (h1 : o1.data = .cell (some (.int (lPlace ns) t3))) (hr : IntsAre rvs (lRuns ns))
    (next : ∀ h tk mo mvs mn u, Fr H L h (kstB u [(Str.ofString "script", .ref l), (Str.ofString "told", .int (lTold ns) t1), (Str.ofString "runs", .ref r), (Str.ofString "last", .int (lLast ns) t2), (Str.ofString "more", .ref mo)]) →
      News H L h [(L + 1, o1), (L + 1 + 1, o2), (L + 1 + 1 + 1, o3), (82, tabObj ps), (r, W.listOf rvs.toArray nn), (mo, W.listOf (mvs : List Value).toArray mn)] → IntsAre mvs (lMore ns) →
      wpAny (model prog w) (lawA L fa cd) (execs (lawBody.drop 5) (lawEnv L fa cd)) Q (fun _ _ => False) { s with heap := h, toks := tk }) :
    wpAny (model prog w) (lawA L fa cd) (execs (lawBody.drop 4) (lawEnv L fa cd)) Q (fun _ _ => False) s := by
  have X := G.k
  obtain ⟨p, loose, mg, mb, T⟩ := G.t
  obtain ⟨h, gs, dr, tk, os⟩ := s
  dsimp only at F N next
  have hlr := hr.length
  have hlr6 : (lRuns ns).length ≤ 6 := by rw [lRuns, List.length_map, List.length_take]; omega
  change wpAny _ _ (execs (_ :: _) _) _ _ _
  refine wpAny_execs_cons ?_
  refine' lcPairAssign (cl := [(Str.ofString "place", L + 1)]) rfl ?sw ?clos ?cell ?kind ?names ?hxa ?hxb ?hab ?hy ?hp ?h ?hs
  case sw => with_unfolding_all rfl
  case clos => with_unfolding_all rfl
  case cell => decide
  case kind => rfl
  case names => decide
  case hxa => rfl
  case hxb => rfl
  case hab => decide
  case hy => rfl
  case hp => rfl
  case hs => intro _; with_unfolding_all rfl
  (repeat' (first | (k_unfold; (try dsimp only)) | ((fail_if_success (with_reducible show wpAny _ _ (pyIter _) _ _ _)); (fail_if_success (with_reducible show wpAny _ _ (call (Value.builtin "list.append") _) _ _ _)); (fail_if_success (with_reducible show wpAny _ _ (compareOp _ (Value.ref _) (Value.ref _)) _ _ _)); (fail_if_success (with_reducible show wpAny _ _ (eval (Expr.ListComp _ _ _ _) _) _ _ _)); (fail_if_success (with_reducible show wpAny _ _ (exec (Stmt.Assign _ (Expr.ListComp _ _ _ _) _) _) _ _ _)); first | ((with_reducible show wpAny _ _ (eval (Expr.Name _ _) (compEnvC _ _ _ _)) _ _ _); k_dflt (first | (refine' nmL ?qk1Z ?qk2Z ?_ ?qk3Z ?qk4Z ?qk5Z; (case qk3Z => rfl); (case qk4Z => rfl); (case qk5Z => decide); (case qk1Z => k_asm); (case qk2Z => rfl); k_whole) | (refine' nmC ?qk1Z ?qk2Z ?qk6Z ?_ ?qk3Z ?qk4Z ?qk5Z; (case qk3Z => rfl); (case qk4Z => rfl); (case qk5Z => decide); (case qk6Z => rfl); (case qk1Z => assumption); (case qk2Z => assumption); k_whole) | (refine' nmG ?qk1Z ?qk2Z ?_ ?qk6Z ?qk3Z ?qk4Z ?qk5Z; (case qk3Z => rfl); (case qk4Z => rfl); (case qk5Z => decide); (case qk6Z => rfl); (case qk1Z => assumption); (case qk2Z => k_is); k_whole) | (refine' nmB ?qk1Z ?qk2Z ?qk7Z ?qk8Z ?_ ?qk6Z ?qk9Z ?qk3Z ?qk4Z ?qk5Z; (case qk3Z => rfl); (case qk4Z => rfl); (case qk5Z => decide); (case qk6Z => rfl); (case qk9Z => rfl); (case qk1Z => assumption); (case qk2Z => k_is); (case qk7Z => boot_fast); (case qk8Z => decide); k_whole))) | (with_reducible (((with_reducible show wpAny _ _ (newTuple _) _ _ _); (k_here; refine newTuple_L (by k_asm) (by k_asm) ?_ (Nat.le_of_ble_eq_true rfl); intro a9 h9 F9 N9 f9 k9; (try dsimp only))))) | (with_reducible (((with_reducible show wpAny _ _ (execs (Stmt.Assign _ _ _ :: _) _) _ _ _); refine wpAny_execs_cons ?_))) | (with_reducible (((with_reducible show TurnE _ _ _ _ _ _ _ _ _ _ _ _ _ _ _); dsimp only [TurnE]))) | (with_reducible ((k_here; (with_reducible show wpAny _ _ (call (Value.builtin "len") [Value.ref _]) _ _ _); refine len_tup_ints (IsTup.keeps (by assumption) (Fr.keep (by k_asm))) (by assumption) (by assumption) ?_))) | walk1) | dsimp only))
  rename Fr _ _ _ _ => F6
  rename News _ _ _ _ => N6
  rename IntsAre _ (lRuns ns ++ [lLast ns]) => hI6
  have hls := (N6 _ (.head _)).1
  have hvl := hI6.length
  rw [List.length_append, List.length_singleton] at hvl
  have hlm : (lMore ns).length = (lRuns ns).length + 1 := by rw [lMore, List.length_mapIdx, List.length_append, List.length_singleton]
  refine psrc_enum (s := Shared.mk _ _ _ _ _) (ds := lMore ns) rfl F6.ns ⟨_, hls, rfl, _, rfl⟩ (by omega) ?turn ?src
  case turn =>
    intro i d x t hd hx C s₃ m₃ E' hC hn3 hma hmb hk3
    obtain ⟨n, t', hn, rfl⟩ := ints_at hI6 hx
    have F3 : Fr H C s₃.heap m₃ := ⟨hn3, fun b o e => hk3 b o (F6.keep b o e), Nat.le_trans (Nat.le_trans F6.above (Nat.le_of_lt F6.ns.lt)) hC⟩
    have N3 : News H C s₃.heap [] := News.nil
    have G3 : Gd w.params s₃.heap := G.keeps F3.keep
    have hc3 := hk3 _ _ (N6 (L + 1, _) (by k_mem)).1
    have hd' : d = if (i : Int) = lPlace ns then n + 1 else n := by
      rw [lMore, List.getElem?_mapIdx, hn] at hd
      simpa using hd.symm
    clear F6 N6
    obtain ⟨h3, g3, d3, k3, o3'⟩ := s₃
    have F4 : Fr H (compEnvC { kind := .function, names := [(Str.ofString ".0", .local), (Str.ofString "k", .local), (Str.ofString "run", .local), (Str.ofString "place", .free)], isGenerator := false, isCoroutine := false } [(Str.ofString "place", L + 1)] C (lawEnv L fa cd)).locals h3 (kstB m₃ [(Str.ofString "k", .int i t), (Str.ofString "run", .int n t')]) := kst_fr _ F3 (List.forall_mem_cons.mpr ⟨hma, List.forall_mem_cons.mpr ⟨hmb, List.forall_mem_nil _⟩⟩)
    clear F3
    (repeat' (first | (k_unfold; (try dsimp only)) | ((fail_if_success (with_reducible show wpAny _ _ (pyIter _) _ _ _)); (fail_if_success (with_reducible show wpAny _ _ (call (Value.builtin "list.append") _) _ _ _)); (fail_if_success (with_reducible show wpAny _ _ (compareOp _ (Value.ref _) (Value.ref _)) _ _ _)); (fail_if_success (with_reducible show wpAny _ _ (eval (Expr.ListComp _ _ _ _) _) _ _ _)); (fail_if_success (with_reducible show wpAny _ _ (exec (Stmt.Assign _ (Expr.ListComp _ _ _ _) _) _) _ _ _)); first | ((with_reducible show wpAny _ _ (eval (Expr.Name _ _) (compEnvC _ _ _ _)) _ _ _); k_dflt (first | (refine' nmL ?qk1Z ?qk2Z ?_ ?qk3Z ?qk4Z ?qk5Z; (case qk3Z => rfl); (case qk4Z => rfl); (case qk5Z => decide); (case qk1Z => k_asm); (case qk2Z => rfl); k_whole) | (refine' nmC ?qk1Z ?qk2Z ?qk6Z ?_ ?qk3Z ?qk4Z ?qk5Z; (case qk3Z => rfl); (case qk4Z => rfl); (case qk5Z => decide); (case qk6Z => rfl); (case qk1Z => assumption); (case qk2Z => assumption); k_whole) | (refine' nmG ?qk1Z ?qk2Z ?_ ?qk6Z ?qk3Z ?qk4Z ?qk5Z; (case qk3Z => rfl); (case qk4Z => rfl); (case qk5Z => decide); (case qk6Z => rfl); (case qk1Z => assumption); (case qk2Z => k_is); k_whole) | (refine' nmB ?qk1Z ?qk2Z ?qk7Z ?qk8Z ?_ ?qk6Z ?qk9Z ?qk3Z ?qk4Z ?qk5Z; (case qk3Z => rfl); (case qk4Z => rfl); (case qk5Z => decide); (case qk6Z => rfl); (case qk9Z => rfl); (case qk1Z => assumption); (case qk2Z => k_is); (case qk7Z => boot_fast); (case qk8Z => decide); k_whole))) | (with_reducible (((with_reducible show wpAny _ _ (newTuple _) _ _ _); (k_here; refine newTuple_L (by k_asm) (by k_asm) ?_ (Nat.le_of_ble_eq_true rfl); intro a9 h9 F9 N9 f9 k9; (try dsimp only))))) | (with_reducible (((with_reducible show wpAny _ _ (execs (Stmt.Assign _ _ _ :: _) _) _ _ _); refine wpAny_execs_cons ?_))) | (with_reducible (((with_reducible show TurnE _ _ _ _ _ _ _ _ _ _ _ _ _ _ _); dsimp only [TurnE]))) | (with_reducible ((k_here; (with_reducible show wpAny _ _ (call (Value.builtin "len") [Value.ref _]) _ _ _); refine len_tup_ints (IsTup.keeps (by assumption) (Fr.keep (by k_asm))) (by assumption) (by assumption) ?_))) | walk1) | dsimp only))
    · exact Keeps.toks _ _
    · exact ⟨_, by rw [hd', if_pos (by simp_all)]⟩
    · exact Keeps.toks _ _
    · exact ⟨_, by rw [hd', if_neg (by simp_all)]⟩
  case src =>
    refine ⟨by omega, F6.ns, ?_⟩
    intro D h8 tk8 ys hD hl8 hR8 ns8 k8
    obtain ⟨n8, hl8⟩ := hl8
    obtain ⟨F8, N8⟩ := after_assign F6 N6 ns8 k8
    have N8 := add_news F6 N8 hD hl8
    dsimp only
    exact next h8 tk8 D ys n8 _ (kst_fr _ F8 (List.forall_mem_cons.mpr ⟨rfl, List.forall_mem_cons.mpr ⟨rfl, List.forall_mem_cons.mpr ⟨rfl, List.forall_mem_cons.mpr ⟨rfl, List.forall_mem_cons.mpr ⟨rfl, List.forall_mem_nil _⟩⟩⟩⟩⟩))
      (News.pick N8 (by k_mem) (News.pick N8 (by k_mem) (News.pick N8 (by k_mem) (News.pick N8 (by k_mem) (News.pick N8 (by k_mem) (News.pick N8 (by k_mem) News.nil)))))) hR8
end
end
section
-- steps: plain
noncomputable def lTabs (ns : List Int) : Int := lTold ns / 56 % 5
noncomputable def lBlanks (ns : List Int) : Int := lTold ns / 280 % 9
/- the seven texts, as signs -/
noncomputable def lTexts (ns : List Int) : List (List Nat) :=
  [leadL (lRuns ns) (lLast ns) ++ [120], leadL (lRuns ns).reverse (lLast ns), leadL ((lMore ns).take ((lMore ns).length - 1)) ((lMore ns).getD ((lMore ns).length - 1) 0) ++ [10, 9],
   leadL ([1, 1] ++ lRuns ns) (lLast ns) ++ [35, 32, 9], leadL ([0, 2] ++ lRuns ns) (lLast ns) ++ [13],
   List.replicate (lRuns ns).length 9 ++ List.replicate (lLast ns).toNat 32 ++ [12, 9, 32], List.replicate (lTabs ns).toNat 9 ++ List.replicate (lBlanks ns).toNat 32 ++ [112, 97, 115, 115]]
theorem lit_x : (Str.ofString "x").cps.toList = [120] := by decide +kernel
theorem lit_nl : (Str.ofString "\n\t").cps.toList = [10, 9] := by decide +kernel
theorem lit_hash : (Str.ofString "# \t").cps.toList = [35, 32, 9] := by decide +kernel
theorem lit_cr : (Str.ofString "\u000d").cps.toList = [13] := by decide +kernel
theorem lit_ff : (Str.ofString "\u000c\t ").cps.toList = [12, 9, 32] := by decide +kernel
theorem lit_pass : (Str.ofString "pass").cps.toList = [112, 97, 115, 115] := by decide +kernel
theorem leadL_len {ns : List Int} {last : Int} (hlen : ns.length ≤ 10) (h : ∀ n ∈ ns, 0 ≤ n ∧ n ≤ 10) (h1 : last ≤ 10) : (leadL ns last).length ≤ 200 := by
  have e : (ns.map fun n => List.replicate n.toNat 32 ++ [9]).flatten.length ≤ ns.length * 11 := by
    rw [List.length_flatten, List.map_map]
    refine Nat.le_trans (sum_le (B := 11) fun k hk => ?_) (by rw [List.length_map]; exact Nat.le_refl _)
    obtain ⟨n, hn, rfl⟩ := List.mem_map.mp hk
    have := h n hn
    simp
    omega
  rw [leadL, List.length_append, List.length_replicate]
  omega
theorem bl_lead {a : List Int} {b : Int} (h : (leadL a b).length ≤ 200) : (leadL a b).length ≤ 4000 := Nat.le_trans h (by decide)
theorem bl_rep {n : Int} {c : Nat} (h : n ≤ 1000) : (List.replicate n.toNat c).length ≤ 4000 := by rw [List.length_replicate]; omega
theorem bl_rep2 {n m : Int} {c d : Nat} (h : n ≤ 1000) (h' : m ≤ 1000) : (List.replicate n.toNat c ++ List.replicate m.toNat d).length ≤ 4000 := by rw [List.length_append, List.length_replicate, List.length_replicate]; omega
theorem add_T {prog : Program} {w : World} {A : Around} {E : Value → Shared → Prop} {s : Shared} {l : List Nat} {y : Str} {t u : Tok} {Q : Value → Shared → Prop} (hl : l.length ≤ 4000) (hy : y.cps.toList.length ≤ 4000) (h : ∀ t k, Q (.str (T (l ++ y.cps.toList)) t) { s with toks := k }) :
    wpAny (model prog w) A (binaryOp .Add (.str (T l) t) (.str y u)) Q E s := add_S (by rw [T_cps]; omega) fun t k => by rw [T_cps]; exact h t k
theorem getD_10 {cs : List Int} (h : ∀ c ∈ cs, 0 ≤ c ∧ c ≤ 10) (i : Nat) : 0 ≤ cs.getD i 0 ∧ cs.getD i 0 ≤ 10 := by
  by_cases hi : i < cs.length
  · rw [List.getD_eq_getElem?_getD, List.getElem?_eq_getElem hi]; exact h _ (List.getElem_mem hi)
  · rw [List.getD_eq_getElem?_getD, List.getElem?_eq_none (by omega)]; simp
section
variable {prog : Program} {w : World} {A : Around} {E : Value → Shared → Prop} {H h : Heap} {L r : Addr} {m : Str → Option Value} {news : List (Addr × Obj)} {gs : Array GenState} {dr : Drawn} {tk : Nat} {os : OsState}
theorem lead_call {vs : List Value} {n : Nat} {ns : List Int} {last : Int} {u : Tok} {Q : Value → Shared → Prop} (G : Gd w.params H) (F : Fr H L h m) (N : News H L h news) (hm : (r, W.listOf vs.toArray n) ∈ news) (hi : IntsAre vs ns)
    (hA : A.handled = none) (hD : A.depth ≤ 600) (hU : A.units ≤ 600) (hlen : ns.length ≤ 10) (hns : ∀ n ∈ ns, 0 ≤ n ∧ n ≤ 10) (h0 : 0 ≤ last) (h1 : last ≤ 10)
    (next : ∀ t h' tk', Fr H L h' m → News H L h' news → (leadL ns last).length ≤ 200 → Q (.str (T (leadL ns last)) t) ⟨h', gs, dr, tk', os⟩) :
    wpAny (model prog w) A (call (.ref 104) [.ref r, .int last u]) Q E ⟨h, gs, dr, tk, os⟩ := by
  refine wk (lead_spec (s := ⟨h, gs, dr, tk, os⟩) (G.keeps F.keep) ⟨_, (N _ hm).1, rfl, _, rfl⟩ hi (by omega) (fun n hn => ⟨(hns n hn).1, by have := (hns n hn).2; omega⟩) h0 (by omega) ?_) hA hD hU
  rintro t s' ⟨h', tk', rfl, k⟩
  exact next t h' tk' (F.keeps k) (N.grown k) (leadL_len hlen hns h1)
end
section
variable {prog : Program} {w : World} {s : Shared} {H : Heap} {L fa : Addr} {cd : Value}
set_option maxHeartbeats 4000000 in
theorem law_a3 {l r mo : Addr} {rvs mvs : List Value} {nn mn : Nat} {ns : List Int} {ps : Array Value} {o1 o2 o3 : Obj} {u : Str → Option Value} {t1 t2 : Tok} {Q : Flow → Shared → Prop} (G : Gd w.params H)
    (F : Fr H L s.heap (kstB u [(Str.ofString "script", .ref l), (Str.ofString "told", .int (lTold ns) t1), (Str.ofString "runs", .ref r), (Str.ofString "last", .int (lLast ns) t2), (Str.ofString "more", .ref mo)]))
    (N : News H L s.heap [(L + 1, o1), (L + 1 + 1, o2), (L + 1 + 1 + 1, o3), (82, tabObj ps), (r, W.listOf rvs.toArray nn), (mo, W.listOf mvs.toArray mn)]) (hr : IntsAre rvs (lRuns ns)) (hm : IntsAre mvs (lMore ns))
    (next : ∀ h tk tx tvs tn u, Fr H L h (kstB u [(Str.ofString "script", .ref l), (Str.ofString "texts", .ref tx)]) →
      News H L h [(L + 1, o1), (L + 1 + 1, o2), (L + 1 + 1 + 1, o3), (82, tabObj ps), (tx, W.listOf (tvs : List Value).toArray tn)] → StrsAre tvs ((lTexts ns).map Mine.T) →
      wpAny (model prog w) (lawA L fa cd) (execs (lawBody.drop 8) (lawEnv L fa cd)) Q (fun _ _ => False) { s with heap := h, toks := tk }) :
    wpAny (model prog w) (lawA L fa cd) (execs (lawBody.drop 5) (lawEnv L fa cd)) Q (fun _ _ => False) s := by
  have X := G.k
  obtain ⟨p, loose, mg, mb, TT⟩ := G.t
  obtain ⟨h, gs, dr, tk, os⟩ := s
  dsimp only at F N next
  have hlr := hr.length
  have hlr6 : (lRuns ns).length ≤ 6 := by rw [lRuns, List.length_map, List.length_take]; omega
  have hrb : ∀ n ∈ lRuns ns, 0 ≤ n ∧ n ≤ 10 := fun n hn => by
    obtain ⟨x, _, rfl⟩ := List.mem_map.mp hn
    have h1 := Int.emod_nonneg x (by decide : (8 : Int) ≠ 0)
    have h2 := Int.emod_lt_of_pos x (by decide : (0 : Int) < 8)
    exact ⟨h1, by omega⟩
  have hla := Int.emod_nonneg (lTold ns) (by decide : (8 : Int) ≠ 0)
  have hlb := Int.emod_lt_of_pos (lTold ns) (by decide : (0 : Int) < 8)
  change 0 ≤ lLast ns at hla
  change lLast ns < 8 at hlb
  have hlm : (lMore ns).length = (lRuns ns).length + 1 := by rw [lMore, List.length_mapIdx, List.length_append, List.length_singleton]
  have hml := hm.length
  have hmb : ∀ n ∈ lMore ns, 0 ≤ n ∧ n ≤ 10 := fun n hn => by
    obtain ⟨i, hi⟩ := List.mem_iff_getElem?.mp hn
    rw [lMore, List.getElem?_mapIdx] at hi
    obtain ⟨x, hx, rfl⟩ := Option.map_eq_some_iff.mp hi
    have hx' : 0 ≤ x ∧ x < 8 := by
      rcases List.mem_append.mp (List.mem_of_getElem? hx) with q | q
      · obtain ⟨y, _, rfl⟩ := List.mem_map.mp q
        exact ⟨Int.emod_nonneg y (by decide), Int.emod_lt_of_pos y (by decide)⟩
      · rw [List.mem_singleton.mp q]; exact ⟨hla, hlb⟩
    split <;> omega
  have hta := Int.emod_nonneg (lTold ns / 56) (by decide : (5 : Int) ≠ 0)
  have htb := Int.emod_lt_of_pos (lTold ns / 56) (by decide : (0 : Int) < 5)
  have hba := Int.emod_nonneg (lTold ns / 280) (by decide : (9 : Int) ≠ 0)
  have hbb := Int.emod_lt_of_pos (lTold ns / 280) (by decide : (0 : Int) < 9)
  change 0 ≤ lTabs ns at hta
  change lTabs ns < 5 at htb
  change 0 ≤ lBlanks ns at hba
  change lBlanks ns < 9 at hbb
  have r10 : (lRuns ns).length ≤ 10 := Nat.le_trans hlr6 (by decide)
  have la10 : lLast ns ≤ 10 := Int.le_of_lt (Int.lt_of_lt_of_le hlb (by decide))
  have r2 : ∀ {a b : Int}, ([a, b] ++ lRuns ns).length ≤ 10 := fun {a b} => by rw [List.length_append]; exact Nat.le_trans (Nat.add_le_add (Nat.le_refl 2) hlr6) (by decide)
  have r2b : ∀ xs : List Int, (∀ n ∈ xs, 0 ≤ n ∧ n ≤ 10) → ∀ n ∈ xs ++ lRuns ns, 0 ≤ n ∧ n ≤ 10 := fun xs h n hn => (List.mem_append.mp hn).elim (h n) (hrb n)
  have q1 : (0 : Int) ≤ ((lRuns ns).length : Int) := Int.natCast_nonneg _
  have q2 : ((lRuns ns).length : Int) ≤ 1000 := Int.ofNat_le.mpr (Nat.le_trans hlr6 (by decide))
  have q3 : lLast ns ≤ 1000 := Int.le_trans la10 (by decide)
  have q4 : lTabs ns ≤ 1000 := Int.le_of_lt (Int.lt_of_lt_of_le htb (by decide))
  have q5 : lBlanks ns ≤ 1000 := Int.le_of_lt (Int.lt_of_lt_of_le hbb (by decide))
  change wpAny _ _ (execs (_ :: _) _) _ _ _
  iterate 20 first | k_unfold | (with_reducible (((with_reducible show wpAny _ _ (binaryOp _ (Value.str _ _) (Value.str _ _)) _ _ _); (refine add_T (by first | exact bl_lead (by assumption) | exact bl_rep (by assumption) | exact bl_rep2 (by assumption) (by assumption)) (by first | decide +kernel | (rw [T_cps]; exact bl_rep (by assumption))) ?_; intro t9 k9; simp only [T_cps, lit_x, lit_nl, lit_hash, lit_cr, lit_ff, lit_pass])))) | ((with_reducible show wpAny _ _ (binaryOp _ (Value.str _ _) (Value.str _ _)) _ _ _); (refine add_T (by first | exact bl_lead (by assumption) | exact bl_rep (by assumption) | exact bl_rep2 (by assumption) (by assumption)) (by first | decide +kernel | (rw [T_cps]; exact bl_rep (by assumption))) ?_; intro t9 k9; simp only [T_cps, lit_x, lit_nl, lit_hash, lit_cr, lit_ff, lit_pass])) | (with_reducible (((with_reducible show wpAny _ _ (binaryOp _ (Value.str _ _) (Value.int _ _)) _ _ _); ((first | refine mul_S (c := 32) (by decide +kernel) (by assumption) (by assumption) ?_ | refine mul_S (c := 9) (by decide +kernel) (by assumption) (by assumption) ?_); intro t9 k9; try dsimp only)))) | ((with_reducible show wpAny _ _ (binaryOp _ (Value.str _ _) (Value.int _ _)) _ _ _); ((first | refine mul_S (c := 32) (by decide +kernel) (by assumption) (by assumption) ?_ | refine mul_S (c := 9) (by decide +kernel) (by assumption) (by assumption) ?_); intro t9 k9; try dsimp only)) | ((with_reducible show wpAny _ _ (eval (Expr.Name _ _) (compEnvC _ _ _ _)) _ _ _); k_dflt (first | (refine' nmL ?qk1Z ?qk2Z ?_ ?qk3Z ?qk4Z ?qk5Z; (case qk3Z => rfl); (case qk4Z => rfl); (case qk5Z => decide); (case qk1Z => k_asm); (case qk2Z => rfl); k_whole) | (refine' nmC ?qk1Z ?qk2Z ?qk6Z ?_ ?qk3Z ?qk4Z ?qk5Z; (case qk3Z => rfl); (case qk4Z => rfl); (case qk5Z => decide); (case qk6Z => rfl); (case qk1Z => assumption); (case qk2Z => assumption); k_whole) | (refine' nmG ?qk1Z ?qk2Z ?_ ?qk6Z ?qk3Z ?qk4Z ?qk5Z; (case qk3Z => rfl); (case qk4Z => rfl); (case qk5Z => decide); (case qk6Z => rfl); (case qk1Z => assumption); (case qk2Z => k_is); k_whole) | (refine' nmB ?qk1Z ?qk2Z ?qk7Z ?qk8Z ?_ ?qk6Z ?qk9Z ?qk3Z ?qk4Z ?qk5Z; (case qk3Z => rfl); (case qk4Z => rfl); (case qk5Z => decide); (case qk6Z => rfl); (case qk9Z => rfl); (case qk1Z => assumption); (case qk2Z => k_is); (case qk7Z => boot_fast); (case qk8Z => decide); k_whole))) | (with_reducible (((with_reducible show wpAny _ _ (newTuple _) _ _ _); (k_here; refine newTuple_L (by k_asm) (by k_asm) ?_ (Nat.le_of_ble_eq_true rfl); intro a9 h9 F9 N9 f9 k9; (try dsimp only))))) | (with_reducible (((with_reducible show wpAny _ _ (execs (Stmt.Assign _ _ _ :: _) _) _ _ _); refine wpAny_execs_cons ?_))) | (with_reducible (((with_reducible show TurnE _ _ _ _ _ _ _ _ _ _ _ _ _ _ _); dsimp only [TurnE]))) | (with_reducible ((k_here; (with_reducible show wpAny _ _ (call (Value.builtin "len") [Value.ref _]) _ _ _); refine len_tup_ints (IsTup.keeps (by assumption) (Fr.keep (by k_asm))) (by assumption) (by assumption) ?_))) | walk1 | (dsimp only; walk1)
  rename Fr _ _ _ _ => cF
  rw [Int.fdiv_eq_ediv_of_nonneg (lTold ns) (by decide : (0 : Int) ≤ 280), Int.fmod_eq_emod_of_nonneg _ (by decide : (0 : Int) ≤ 9), Int.fdiv_eq_ediv_of_nonneg (lTold ns) (by decide : (0 : Int) ≤ 56), Int.fmod_eq_emod_of_nonneg _ (by decide : (0 : Int) ≤ 5)] at cF
  obtain ⟨u1, t3, t4, cF1⟩ : ∃ u1 t3 t4, Fr H L _ (kstB u1 [(Str.ofString "script", .ref l), (Str.ofString "runs", .ref r), (Str.ofString "last", .int (lLast ns) t2), (Str.ofString "more", .ref mo), (Str.ofString "tabs", .int (lTabs ns) t3), (Str.ofString "blanks", .int (lBlanks ns) t4)]) :=
    ⟨_, _, _, kst_fr _ cF (List.forall_mem_cons.mpr ⟨rfl, List.forall_mem_cons.mpr ⟨rfl, List.forall_mem_cons.mpr ⟨rfl, List.forall_mem_cons.mpr ⟨rfl, List.forall_mem_cons.mpr ⟨rfl, List.forall_mem_cons.mpr ⟨rfl, List.forall_mem_nil _⟩⟩⟩⟩⟩⟩)⟩
  clear cF
  (repeat' (first | (k_unfold; (try dsimp only)) | ((fail_if_success (with_reducible show wpAny _ _ (pyIter _) _ _ _)); (fail_if_success (with_reducible show wpAny _ _ (call (Value.builtin "list.append") _) _ _ _)); (fail_if_success (with_reducible show wpAny _ _ (compareOp _ (Value.ref _) (Value.ref _)) _ _ _)); (fail_if_success (with_reducible show wpAny _ _ (eval (Expr.ListComp _ _ _ _) _) _ _ _)); (fail_if_success (with_reducible show wpAny _ _ (exec (Stmt.Assign _ (Expr.ListComp _ _ _ _) _) _) _ _ _)); first | (with_reducible (((with_reducible show wpAny _ _ (binaryOp _ (Value.str _ _) (Value.str _ _)) _ _ _); (refine add_T (by first | exact bl_lead (by assumption) | exact bl_rep (by assumption) | exact bl_rep2 (by assumption) (by assumption)) (by first | decide +kernel | (rw [T_cps]; exact bl_rep (by assumption))) ?_; intro t9 k9; simp only [T_cps, lit_x, lit_nl, lit_hash, lit_cr, lit_ff, lit_pass])))) | ((with_reducible show wpAny _ _ (binaryOp _ (Value.str _ _) (Value.str _ _)) _ _ _); (refine add_T (by first | exact bl_lead (by assumption) | exact bl_rep (by assumption) | exact bl_rep2 (by assumption) (by assumption)) (by first | decide +kernel | (rw [T_cps]; exact bl_rep (by assumption))) ?_; intro t9 k9; simp only [T_cps, lit_x, lit_nl, lit_hash, lit_cr, lit_ff, lit_pass])) | (with_reducible (((with_reducible show wpAny _ _ (binaryOp _ (Value.str _ _) (Value.int _ _)) _ _ _); ((first | refine mul_S (c := 32) (by decide +kernel) (by assumption) (by assumption) ?_ | refine mul_S (c := 9) (by decide +kernel) (by assumption) (by assumption) ?_); intro t9 k9; try dsimp only)))) | ((with_reducible show wpAny _ _ (binaryOp _ (Value.str _ _) (Value.int _ _)) _ _ _); ((first | refine mul_S (c := 32) (by decide +kernel) (by assumption) (by assumption) ?_ | refine mul_S (c := 9) (by decide +kernel) (by assumption) (by assumption) ?_); intro t9 k9; try dsimp only)) | ((with_reducible show wpAny _ _ (eval (Expr.Name _ _) (compEnvC _ _ _ _)) _ _ _); k_dflt (first | (refine' nmL ?qk1Z ?qk2Z ?_ ?qk3Z ?qk4Z ?qk5Z; (case qk3Z => rfl); (case qk4Z => rfl); (case qk5Z => decide); (case qk1Z => k_asm); (case qk2Z => rfl); k_whole) | (refine' nmC ?qk1Z ?qk2Z ?qk6Z ?_ ?qk3Z ?qk4Z ?qk5Z; (case qk3Z => rfl); (case qk4Z => rfl); (case qk5Z => decide); (case qk6Z => rfl); (case qk1Z => assumption); (case qk2Z => assumption); k_whole) | (refine' nmG ?qk1Z ?qk2Z ?_ ?qk6Z ?qk3Z ?qk4Z ?qk5Z; (case qk3Z => rfl); (case qk4Z => rfl); (case qk5Z => decide); (case qk6Z => rfl); (case qk1Z => assumption); (case qk2Z => k_is); k_whole) | (refine' nmB ?qk1Z ?qk2Z ?qk7Z ?qk8Z ?_ ?qk6Z ?qk9Z ?qk3Z ?qk4Z ?qk5Z; (case qk3Z => rfl); (case qk4Z => rfl); (case qk5Z => decide); (case qk6Z => rfl); (case qk9Z => rfl); (case qk1Z => assumption); (case qk2Z => k_is); (case qk7Z => boot_fast); (case qk8Z => decide); k_whole))) | (with_reducible (((with_reducible show wpAny _ _ (newTuple _) _ _ _); (k_here; refine newTuple_L (by k_asm) (by k_asm) ?_ (Nat.le_of_ble_eq_true rfl); intro a9 h9 F9 N9 f9 k9; (try dsimp only))))) | (with_reducible (((with_reducible show wpAny _ _ (execs (Stmt.Assign _ _ _ :: _) _) _ _ _); refine wpAny_execs_cons ?_))) | (with_reducible (((with_reducible show TurnE _ _ _ _ _ _ _ _ _ _ _ _ _ _ _); dsimp only [TurnE]))) | (with_reducible ((k_here; (with_reducible show wpAny _ _ (call (Value.builtin "len") [Value.ref _]) _ _ _); refine len_tup_ints (IsTup.keeps (by assumption) (Fr.keep (by k_asm))) (by assumption) (by assumption) ?_))) | walk1) | dsimp only))
  rename Fr _ _ _ _ => cF
  rename News _ _ _ _ => cN
  refine lead_call G cF cN (r := r) (by k_mem) hr rfl (Nat.le_of_ble_eq_true rfl) (Nat.le_of_ble_eq_true rfl) r10 hrb hla la10 ?_
  intro t9 h9 tk9 F9 N9 hl9
  clear cF cN
  (repeat' (first | (k_unfold; (try dsimp only)) | ((fail_if_success (with_reducible show wpAny _ _ (pyIter _) _ _ _)); (fail_if_success (with_reducible show wpAny _ _ (call (Value.builtin "list.append") _) _ _ _)); (fail_if_success (with_reducible show wpAny _ _ (compareOp _ (Value.ref _) (Value.ref _)) _ _ _)); (fail_if_success (with_reducible show wpAny _ _ (eval (Expr.ListComp _ _ _ _) _) _ _ _)); (fail_if_success (with_reducible show wpAny _ _ (exec (Stmt.Assign _ (Expr.ListComp _ _ _ _) _) _) _ _ _)); first | (with_reducible (((with_reducible show wpAny _ _ (binaryOp _ (Value.str _ _) (Value.str _ _)) _ _ _); (refine add_T (by first | exact bl_lead (by assumption) | exact bl_rep (by assumption) | exact bl_rep2 (by assumption) (by assumption)) (by first | decide +kernel | (rw [T_cps]; exact bl_rep (by assumption))) ?_; intro t9 k9; simp only [T_cps, lit_x, lit_nl, lit_hash, lit_cr, lit_ff, lit_pass])))) | ((with_reducible show wpAny _ _ (binaryOp _ (Value.str _ _) (Value.str _ _)) _ _ _); (refine add_T (by first | exact bl_lead (by assumption) | exact bl_rep (by assumption) | exact bl_rep2 (by assumption) (by assumption)) (by first | decide +kernel | (rw [T_cps]; exact bl_rep (by assumption))) ?_; intro t9 k9; simp only [T_cps, lit_x, lit_nl, lit_hash, lit_cr, lit_ff, lit_pass])) | (with_reducible (((with_reducible show wpAny _ _ (binaryOp _ (Value.str _ _) (Value.int _ _)) _ _ _); ((first | refine mul_S (c := 32) (by decide +kernel) (by assumption) (by assumption) ?_ | refine mul_S (c := 9) (by decide +kernel) (by assumption) (by assumption) ?_); intro t9 k9; try dsimp only)))) | ((with_reducible show wpAny _ _ (binaryOp _ (Value.str _ _) (Value.int _ _)) _ _ _); ((first | refine mul_S (c := 32) (by decide +kernel) (by assumption) (by assumption) ?_ | refine mul_S (c := 9) (by decide +kernel) (by assumption) (by assumption) ?_); intro t9 k9; try dsimp only)) | ((with_reducible show wpAny _ _ (eval (Expr.Name _ _) (compEnvC _ _ _ _)) _ _ _); k_dflt (first | (refine' nmL ?qk1Z ?qk2Z ?_ ?qk3Z ?qk4Z ?qk5Z; (case qk3Z => rfl); (case qk4Z => rfl); (case qk5Z => decide); (case qk1Z => k_asm); (case qk2Z => rfl); k_whole) | (refine' nmC ?qk1Z ?qk2Z ?qk6Z ?_ ?qk3Z ?qk4Z ?qk5Z; (case qk3Z => rfl); (case qk4Z => rfl); (case qk5Z => decide); (case qk6Z => rfl); (case qk1Z => assumption); (case qk2Z => assumption); k_whole) | (refine' nmG ?qk1Z ?qk2Z ?_ ?qk6Z ?qk3Z ?qk4Z ?qk5Z; (case qk3Z => rfl); (case qk4Z => rfl); (case qk5Z => decide); (case qk6Z => rfl); (case qk1Z => assumption); (case qk2Z => k_is); k_whole) | (refine' nmB ?qk1Z ?qk2Z ?qk7Z ?qk8Z ?_ ?qk6Z ?qk9Z ?qk3Z ?qk4Z ?qk5Z; (case qk3Z => rfl); (case qk4Z => rfl); (case qk5Z => decide); (case qk6Z => rfl); (case qk9Z => rfl); (case qk1Z => assumption); (case qk2Z => k_is); (case qk7Z => boot_fast); (case qk8Z => decide); k_whole))) | (with_reducible (((with_reducible show wpAny _ _ (newTuple _) _ _ _); (k_here; refine newTuple_L (by k_asm) (by k_asm) ?_ (Nat.le_of_ble_eq_true rfl); intro a9 h9 F9 N9 f9 k9; (try dsimp only))))) | (with_reducible (((with_reducible show wpAny _ _ (execs (Stmt.Assign _ _ _ :: _) _) _ _ _); refine wpAny_execs_cons ?_))) | (with_reducible (((with_reducible show TurnE _ _ _ _ _ _ _ _ _ _ _ _ _ _ _); dsimp only [TurnE]))) | (with_reducible ((k_here; (with_reducible show wpAny _ _ (call (Value.builtin "len") [Value.ref _]) _ _ _); refine len_tup_ints (IsTup.keeps (by assumption) (Fr.keep (by k_asm))) (by assumption) (by assumption) ?_))) | walk1) | dsimp only))
  rename Fr _ _ _ _ => cF
  rename News _ _ _ _ => cN
  rename IntsAre _ (lRuns ns).reverse => hI1
  refine lead_call G cF cN (by k_mem) hI1 rfl (Nat.le_of_ble_eq_true rfl) (Nat.le_of_ble_eq_true rfl) (by rw [List.length_reverse]; exact r10) (fun n hn => hrb n (List.mem_reverse.mp hn)) hla la10 ?_
  intro t9 h9 tk9 F9 N9 hl9
  clear cF cN
  (repeat' (first | (k_unfold; (try dsimp only)) | ((fail_if_success (with_reducible show wpAny _ _ (pyIter _) _ _ _)); (fail_if_success (with_reducible show wpAny _ _ (call (Value.builtin "list.append") _) _ _ _)); (fail_if_success (with_reducible show wpAny _ _ (compareOp _ (Value.ref _) (Value.ref _)) _ _ _)); (fail_if_success (with_reducible show wpAny _ _ (eval (Expr.ListComp _ _ _ _) _) _ _ _)); (fail_if_success (with_reducible show wpAny _ _ (exec (Stmt.Assign _ (Expr.ListComp _ _ _ _) _) _) _ _ _)); first | (with_reducible (((with_reducible show wpAny _ _ (binaryOp _ (Value.str _ _) (Value.str _ _)) _ _ _); (refine add_T (by first | exact bl_lead (by assumption) | exact bl_rep (by assumption) | exact bl_rep2 (by assumption) (by assumption)) (by first | decide +kernel | (rw [T_cps]; exact bl_rep (by assumption))) ?_; intro t9 k9; simp only [T_cps, lit_x, lit_nl, lit_hash, lit_cr, lit_ff, lit_pass])))) | ((with_reducible show wpAny _ _ (binaryOp _ (Value.str _ _) (Value.str _ _)) _ _ _); (refine add_T (by first | exact bl_lead (by assumption) | exact bl_rep (by assumption) | exact bl_rep2 (by assumption) (by assumption)) (by first | decide +kernel | (rw [T_cps]; exact bl_rep (by assumption))) ?_; intro t9 k9; simp only [T_cps, lit_x, lit_nl, lit_hash, lit_cr, lit_ff, lit_pass])) | (with_reducible (((with_reducible show wpAny _ _ (binaryOp _ (Value.str _ _) (Value.int _ _)) _ _ _); ((first | refine mul_S (c := 32) (by decide +kernel) (by assumption) (by assumption) ?_ | refine mul_S (c := 9) (by decide +kernel) (by assumption) (by assumption) ?_); intro t9 k9; try dsimp only)))) | ((with_reducible show wpAny _ _ (binaryOp _ (Value.str _ _) (Value.int _ _)) _ _ _); ((first | refine mul_S (c := 32) (by decide +kernel) (by assumption) (by assumption) ?_ | refine mul_S (c := 9) (by decide +kernel) (by assumption) (by assumption) ?_); intro t9 k9; try dsimp only)) | ((with_reducible show wpAny _ _ (eval (Expr.Name _ _) (compEnvC _ _ _ _)) _ _ _); k_dflt (first | (refine' nmL ?qk1Z ?qk2Z ?_ ?qk3Z ?qk4Z ?qk5Z; (case qk3Z => rfl); (case qk4Z => rfl); (case qk5Z => decide); (case qk1Z => k_asm); (case qk2Z => rfl); k_whole) | (refine' nmC ?qk1Z ?qk2Z ?qk6Z ?_ ?qk3Z ?qk4Z ?qk5Z; (case qk3Z => rfl); (case qk4Z => rfl); (case qk5Z => decide); (case qk6Z => rfl); (case qk1Z => assumption); (case qk2Z => assumption); k_whole) | (refine' nmG ?qk1Z ?qk2Z ?_ ?qk6Z ?qk3Z ?qk4Z ?qk5Z; (case qk3Z => rfl); (case qk4Z => rfl); (case qk5Z => decide); (case qk6Z => rfl); (case qk1Z => assumption); (case qk2Z => k_is); k_whole) | (refine' nmB ?qk1Z ?qk2Z ?qk7Z ?qk8Z ?_ ?qk6Z ?qk9Z ?qk3Z ?qk4Z ?qk5Z; (case qk3Z => rfl); (case qk4Z => rfl); (case qk5Z => decide); (case qk6Z => rfl); (case qk9Z => rfl); (case qk1Z => assumption); (case qk2Z => k_is); (case qk7Z => boot_fast); (case qk8Z => decide); k_whole))) | (with_reducible (((with_reducible show wpAny _ _ (newTuple _) _ _ _); (k_here; refine newTuple_L (by k_asm) (by k_asm) ?_ (Nat.le_of_ble_eq_true rfl); intro a9 h9 F9 N9 f9 k9; (try dsimp only))))) | (with_reducible (((with_reducible show wpAny _ _ (execs (Stmt.Assign _ _ _ :: _) _) _ _ _); refine wpAny_execs_cons ?_))) | (with_reducible (((with_reducible show TurnE _ _ _ _ _ _ _ _ _ _ _ _ _ _ _); dsimp only [TurnE]))) | (with_reducible ((k_here; (with_reducible show wpAny _ _ (call (Value.builtin "len") [Value.ref _]) _ _ _); refine len_tup_ints (IsTup.keeps (by assumption) (Fr.keep (by k_asm))) (by assumption) (by assumption) ?_))) | walk1) | dsimp only))
  rename Fr _ _ _ _ => cF
  rename News _ _ _ _ => cN
  rename IntsAre _ (List.take _ (lMore ns)) => hI2
  refine lead_call G cF cN (by k_mem) hI2 rfl (Nat.le_of_ble_eq_true rfl) (Nat.le_of_ble_eq_true rfl) (by rw [List.length_take]; omega) (fun n hn => hmb n (List.mem_of_mem_take hn)) (getD_10 hmb _).1 (getD_10 hmb _).2 ?_
  intro t9 h9 tk9 F9 N9 hl9
  clear cF cN
  (repeat' (first | (k_unfold; (try dsimp only)) | ((fail_if_success (with_reducible show wpAny _ _ (pyIter _) _ _ _)); (fail_if_success (with_reducible show wpAny _ _ (call (Value.builtin "list.append") _) _ _ _)); (fail_if_success (with_reducible show wpAny _ _ (compareOp _ (Value.ref _) (Value.ref _)) _ _ _)); (fail_if_success (with_reducible show wpAny _ _ (eval (Expr.ListComp _ _ _ _) _) _ _ _)); (fail_if_success (with_reducible show wpAny _ _ (exec (Stmt.Assign _ (Expr.ListComp _ _ _ _) _) _) _ _ _)); first | (with_reducible (((with_reducible show wpAny _ _ (binaryOp _ (Value.str _ _) (Value.str _ _)) _ _ _); (refine add_T (by first | exact bl_lead (by assumption) | exact bl_rep (by assumption) | exact bl_rep2 (by assumption) (by assumption)) (by first | decide +kernel | (rw [T_cps]; exact bl_rep (by assumption))) ?_; intro t9 k9; simp only [T_cps, lit_x, lit_nl, lit_hash, lit_cr, lit_ff, lit_pass])))) | ((with_reducible show wpAny _ _ (binaryOp _ (Value.str _ _) (Value.str _ _)) _ _ _); (refine add_T (by first | exact bl_lead (by assumption) | exact bl_rep (by assumption) | exact bl_rep2 (by assumption) (by assumption)) (by first | decide +kernel | (rw [T_cps]; exact bl_rep (by assumption))) ?_; intro t9 k9; simp only [T_cps, lit_x, lit_nl, lit_hash, lit_cr, lit_ff, lit_pass])) | (with_reducible (((with_reducible show wpAny _ _ (binaryOp _ (Value.str _ _) (Value.int _ _)) _ _ _); ((first | refine mul_S (c := 32) (by decide +kernel) (by assumption) (by assumption) ?_ | refine mul_S (c := 9) (by decide +kernel) (by assumption) (by assumption) ?_); intro t9 k9; try dsimp only)))) | ((with_reducible show wpAny _ _ (binaryOp _ (Value.str _ _) (Value.int _ _)) _ _ _); ((first | refine mul_S (c := 32) (by decide +kernel) (by assumption) (by assumption) ?_ | refine mul_S (c := 9) (by decide +kernel) (by assumption) (by assumption) ?_); intro t9 k9; try dsimp only)) | ((with_reducible show wpAny _ _ (eval (Expr.Name _ _) (compEnvC _ _ _ _)) _ _ _); k_dflt (first | (refine' nmL ?qk1Z ?qk2Z ?_ ?qk3Z ?qk4Z ?qk5Z; (case qk3Z => rfl); (case qk4Z => rfl); (case qk5Z => decide); (case qk1Z => k_asm); (case qk2Z => rfl); k_whole) | (refine' nmC ?qk1Z ?qk2Z ?qk6Z ?_ ?qk3Z ?qk4Z ?qk5Z; (case qk3Z => rfl); (case qk4Z => rfl); (case qk5Z => decide); (case qk6Z => rfl); (case qk1Z => assumption); (case qk2Z => assumption); k_whole) | (refine' nmG ?qk1Z ?qk2Z ?_ ?qk6Z ?qk3Z ?qk4Z ?qk5Z; (case qk3Z => rfl); (case qk4Z => rfl); (case qk5Z => decide); (case qk6Z => rfl); (case qk1Z => assumption); (case qk2Z => k_is); k_whole) | (refine' nmB ?qk1Z ?qk2Z ?qk7Z ?qk8Z ?_ ?qk6Z ?qk9Z ?qk3Z ?qk4Z ?qk5Z; (case qk3Z => rfl); (case qk4Z => rfl); (case qk5Z => decide); (case qk6Z => rfl); (case qk9Z => rfl); (case qk1Z => assumption); (case qk2Z => k_is); (case qk7Z => boot_fast); (case qk8Z => decide); k_whole))) | (with_reducible (((with_reducible show wpAny _ _ (newTuple _) _ _ _); (k_here; refine newTuple_L (by k_asm) (by k_asm) ?_ (Nat.le_of_ble_eq_true rfl); intro a9 h9 F9 N9 f9 k9; (try dsimp only))))) | (with_reducible (((with_reducible show wpAny _ _ (execs (Stmt.Assign _ _ _ :: _) _) _ _ _); refine wpAny_execs_cons ?_))) | (with_reducible (((with_reducible show TurnE _ _ _ _ _ _ _ _ _ _ _ _ _ _ _); dsimp only [TurnE]))) | (with_reducible ((k_here; (with_reducible show wpAny _ _ (call (Value.builtin "len") [Value.ref _]) _ _ _); refine len_tup_ints (IsTup.keeps (by assumption) (Fr.keep (by k_asm))) (by assumption) (by assumption) ?_))) | walk1) | dsimp only))
  rename Fr _ _ _ _ => cF
  rename News _ _ _ _ => cN
  rename IntsAre _ ([1, 1] ++ lRuns ns) => hI3
  refine lead_call G cF cN (by k_mem) hI3 rfl (Nat.le_of_ble_eq_true rfl) (Nat.le_of_ble_eq_true rfl) r2 (r2b _ (by decide)) hla la10 ?_
  intro t9 h9 tk9 F9 N9 hl9
  clear cF cN
  (repeat' (first | (k_unfold; (try dsimp only)) | ((fail_if_success (with_reducible show wpAny _ _ (pyIter _) _ _ _)); (fail_if_success (with_reducible show wpAny _ _ (call (Value.builtin "list.append") _) _ _ _)); (fail_if_success (with_reducible show wpAny _ _ (compareOp _ (Value.ref _) (Value.ref _)) _ _ _)); (fail_if_success (with_reducible show wpAny _ _ (eval (Expr.ListComp _ _ _ _) _) _ _ _)); (fail_if_success (with_reducible show wpAny _ _ (exec (Stmt.Assign _ (Expr.ListComp _ _ _ _) _) _) _ _ _)); first | (with_reducible (((with_reducible show wpAny _ _ (binaryOp _ (Value.str _ _) (Value.str _ _)) _ _ _); (refine add_T (by first | exact bl_lead (by assumption) | exact bl_rep (by assumption) | exact bl_rep2 (by assumption) (by assumption)) (by first | decide +kernel | (rw [T_cps]; exact bl_rep (by assumption))) ?_; intro t9 k9; simp only [T_cps, lit_x, lit_nl, lit_hash, lit_cr, lit_ff, lit_pass])))) | ((with_reducible show wpAny _ _ (binaryOp _ (Value.str _ _) (Value.str _ _)) _ _ _); (refine add_T (by first | exact bl_lead (by assumption) | exact bl_rep (by assumption) | exact bl_rep2 (by assumption) (by assumption)) (by first | decide +kernel | (rw [T_cps]; exact bl_rep (by assumption))) ?_; intro t9 k9; simp only [T_cps, lit_x, lit_nl, lit_hash, lit_cr, lit_ff, lit_pass])) | (with_reducible (((with_reducible show wpAny _ _ (binaryOp _ (Value.str _ _) (Value.int _ _)) _ _ _); ((first | refine mul_S (c := 32) (by decide +kernel) (by assumption) (by assumption) ?_ | refine mul_S (c := 9) (by decide +kernel) (by assumption) (by assumption) ?_); intro t9 k9; try dsimp only)))) | ((with_reducible show wpAny _ _ (binaryOp _ (Value.str _ _) (Value.int _ _)) _ _ _); ((first | refine mul_S (c := 32) (by decide +kernel) (by assumption) (by assumption) ?_ | refine mul_S (c := 9) (by decide +kernel) (by assumption) (by assumption) ?_); intro t9 k9; try dsimp only)) | ((with_reducible show wpAny _ _ (eval (Expr.Name _ _) (compEnvC _ _ _ _)) _ _ _); k_dflt (first | (refine' nmL ?qk1Z ?qk2Z ?_ ?qk3Z ?qk4Z ?qk5Z; (case qk3Z => rfl); (case qk4Z => rfl); (case qk5Z => decide); (case qk1Z => k_asm); (case qk2Z => rfl); k_whole) | (refine' nmC ?qk1Z ?qk2Z ?qk6Z ?_ ?qk3Z ?qk4Z ?qk5Z; (case qk3Z => rfl); (case qk4Z => rfl); (case qk5Z => decide); (case qk6Z => rfl); (case qk1Z => assumption); (case qk2Z => assumption); k_whole) | (refine' nmG ?qk1Z ?qk2Z ?_ ?qk6Z ?qk3Z ?qk4Z ?qk5Z; (case qk3Z => rfl); (case qk4Z => rfl); (case qk5Z => decide); (case qk6Z => rfl); (case qk1Z => assumption); (case qk2Z => k_is); k_whole) | (refine' nmB ?qk1Z ?qk2Z ?qk7Z ?qk8Z ?_ ?qk6Z ?qk9Z ?qk3Z ?qk4Z ?qk5Z; (case qk3Z => rfl); (case qk4Z => rfl); (case qk5Z => decide); (case qk6Z => rfl); (case qk9Z => rfl); (case qk1Z => assumption); (case qk2Z => k_is); (case qk7Z => boot_fast); (case qk8Z => decide); k_whole))) | (with_reducible (((with_reducible show wpAny _ _ (newTuple _) _ _ _); (k_here; refine newTuple_L (by k_asm) (by k_asm) ?_ (Nat.le_of_ble_eq_true rfl); intro a9 h9 F9 N9 f9 k9; (try dsimp only))))) | (with_reducible (((with_reducible show wpAny _ _ (execs (Stmt.Assign _ _ _ :: _) _) _ _ _); refine wpAny_execs_cons ?_))) | (with_reducible (((with_reducible show TurnE _ _ _ _ _ _ _ _ _ _ _ _ _ _ _); dsimp only [TurnE]))) | (with_reducible ((k_here; (with_reducible show wpAny _ _ (call (Value.builtin "len") [Value.ref _]) _ _ _); refine len_tup_ints (IsTup.keeps (by assumption) (Fr.keep (by k_asm))) (by assumption) (by assumption) ?_))) | walk1) | dsimp only))
  rename Fr _ _ _ _ => cF
  rename News _ _ _ _ => cN
  rename IntsAre _ ([0, 2] ++ lRuns ns) => hI4
  refine lead_call G cF cN (by k_mem) hI4 rfl (Nat.le_of_ble_eq_true rfl) (Nat.le_of_ble_eq_true rfl) r2 (r2b _ (by decide)) hla la10 ?_
  intro t9 h9 tk9 F9 N9 hl9
  clear cF cN
  iterate 39 first | k_unfold | (with_reducible (((with_reducible show wpAny _ _ (binaryOp _ (Value.str _ _) (Value.str _ _)) _ _ _); (refine add_T (by first | exact bl_lead (by assumption) | exact bl_rep (by assumption) | exact bl_rep2 (by assumption) (by assumption)) (by first | decide +kernel | (rw [T_cps]; exact bl_rep (by assumption))) ?_; intro t9 k9; simp only [T_cps, lit_x, lit_nl, lit_hash, lit_cr, lit_ff, lit_pass])))) | ((with_reducible show wpAny _ _ (binaryOp _ (Value.str _ _) (Value.str _ _)) _ _ _); (refine add_T (by first | exact bl_lead (by assumption) | exact bl_rep (by assumption) | exact bl_rep2 (by assumption) (by assumption)) (by first | decide +kernel | (rw [T_cps]; exact bl_rep (by assumption))) ?_; intro t9 k9; simp only [T_cps, lit_x, lit_nl, lit_hash, lit_cr, lit_ff, lit_pass])) | (with_reducible (((with_reducible show wpAny _ _ (binaryOp _ (Value.str _ _) (Value.int _ _)) _ _ _); ((first | refine mul_S (c := 32) (by decide +kernel) (by assumption) (by assumption) ?_ | refine mul_S (c := 9) (by decide +kernel) (by assumption) (by assumption) ?_); intro t9 k9; try dsimp only)))) | ((with_reducible show wpAny _ _ (binaryOp _ (Value.str _ _) (Value.int _ _)) _ _ _); ((first | refine mul_S (c := 32) (by decide +kernel) (by assumption) (by assumption) ?_ | refine mul_S (c := 9) (by decide +kernel) (by assumption) (by assumption) ?_); intro t9 k9; try dsimp only)) | ((with_reducible show wpAny _ _ (eval (Expr.Name _ _) (compEnvC _ _ _ _)) _ _ _); k_dflt (first | (refine' nmL ?qk1Z ?qk2Z ?_ ?qk3Z ?qk4Z ?qk5Z; (case qk3Z => rfl); (case qk4Z => rfl); (case qk5Z => decide); (case qk1Z => k_asm); (case qk2Z => rfl); k_whole) | (refine' nmC ?qk1Z ?qk2Z ?qk6Z ?_ ?qk3Z ?qk4Z ?qk5Z; (case qk3Z => rfl); (case qk4Z => rfl); (case qk5Z => decide); (case qk6Z => rfl); (case qk1Z => assumption); (case qk2Z => assumption); k_whole) | (refine' nmG ?qk1Z ?qk2Z ?_ ?qk6Z ?qk3Z ?qk4Z ?qk5Z; (case qk3Z => rfl); (case qk4Z => rfl); (case qk5Z => decide); (case qk6Z => rfl); (case qk1Z => assumption); (case qk2Z => k_is); k_whole) | (refine' nmB ?qk1Z ?qk2Z ?qk7Z ?qk8Z ?_ ?qk6Z ?qk9Z ?qk3Z ?qk4Z ?qk5Z; (case qk3Z => rfl); (case qk4Z => rfl); (case qk5Z => decide); (case qk6Z => rfl); (case qk9Z => rfl); (case qk1Z => assumption); (case qk2Z => k_is); (case qk7Z => boot_fast); (case qk8Z => decide); k_whole))) | (with_reducible (((with_reducible show wpAny _ _ (newTuple _) _ _ _); (k_here; refine newTuple_L (by k_asm) (by k_asm) ?_ (Nat.le_of_ble_eq_true rfl); intro a9 h9 F9 N9 f9 k9; (try dsimp only))))) | (with_reducible (((with_reducible show wpAny _ _ (execs (Stmt.Assign _ _ _ :: _) _) _ _ _); refine wpAny_execs_cons ?_))) | (with_reducible (((with_reducible show TurnE _ _ _ _ _ _ _ _ _ _ _ _ _ _ _); dsimp only [TurnE]))) | (with_reducible ((k_here; (with_reducible show wpAny _ _ (call (Value.builtin "len") [Value.ref _]) _ _ _); refine len_tup_ints (IsTup.keeps (by assumption) (Fr.keep (by k_asm))) (by assumption) (by assumption) ?_))) | walk1 | (dsimp only; walk1)
  rename Fr _ _ _ _ => F8
  rename News _ _ _ _ => N8
  have e8 : ((-1 : Int) + ((lMore ns).length : Nat)).toNat = (lMore ns).length - 1 := by omega
  refine next _ _ _ _ _ _ (kst_fr _ F8 (List.forall_mem_cons.mpr ⟨rfl, List.forall_mem_cons.mpr ⟨rfl, List.forall_mem_nil _⟩⟩))
    (News.pick N8 (by k_mem) (News.pick N8 (by k_mem) (News.pick N8 (by k_mem) (News.pick N8 (by k_mem) (News.pick N8 (.head _) News.nil))))) ?_
  rw [e8]
  exact .cons _ _ (.cons _ _ (.cons _ _ (.cons _ _ (.cons _ _ (.cons _ _ (.cons _ _ .nil))))))
end
noncomputable def lSizes (ns : List Int) : List Int := [1, 2, 3, 4, 5, 6, 7, 8, 9] ++ (ns.take 6).map fun x => (x.natAbs : Int) + 1
theorem News.one {H h : Heap} {L D : Addr} {news : List (Addr × Obj)} {o : Obj} (N : News H L h news) (hH : H.get? D = none) (ho : h.get? D = some o) (hL : D ≠ L) : News H L h ((D, o) :: news) := fun p hp => by
  rcases List.mem_cons.mp hp with rfl | hp
  · exact ⟨ho, hL, hH⟩
  · exact N p hp
section
variable {prog : Program} {w : World} {s : Shared} {H : Heap} {L fa : Addr} {cd : Value}
set_option maxHeartbeats 4000000 in
theorem law_a4 {l tx : Addr} {vs tvs : List Value} {tn : Nat} {ns : List Int} {ps : Array Value} {o1 o2 o3 : Obj} {u : Str → Option Value} {Q : Flow → Shared → Prop} (G : Gd w.params H) (hl : H.IsList l vs.toArray) (hi : IntsAre vs ns) (hn : ns.length ≤ 63)
    (F : Fr H L s.heap (kstB u [(Str.ofString "script", .ref l), (Str.ofString "texts", .ref tx)]))
    (N : News H L s.heap [(L + 1, o1), (L + 1 + 1, o2), (L + 1 + 1 + 1, o3), (82, tabObj ps), (tx, W.listOf tvs.toArray tn)]) (h2 : o2.data = .cell none)
    (next : ∀ h tk sz svs sn o2' u, Fr H L h (kstB u [(Str.ofString "texts", .ref tx)]) →
      News H L h [(L + 1, o1), (L + 1 + 1, o2'), (L + 1 + 1 + 1, o3), (82, tabObj ps), (tx, W.listOf tvs.toArray tn), (sz, W.listOf (svs : List Value).toArray sn)] → o2'.data = .cell (some (.ref sz)) → IntsAre svs (lSizes ns) →
      wpAny (model prog w) (lawA L fa cd) (execs (lawBody.drop 9) (lawEnv L fa cd)) Q (fun _ _ => False) { s with heap := h, toks := tk }) :
    wpAny (model prog w) (lawA L fa cd) (execs (lawBody.drop 8) (lawEnv L fa cd)) Q (fun _ _ => False) s := by
  have X := G.k
  obtain ⟨p, loose, mg, mb, TT⟩ := G.t
  obtain ⟨h, gs, dr, tk, os⟩ := s
  dsimp only at F N next
  change wpAny _ _ (execs (_ :: _) _) _ _ _
  (repeat' (first | (k_unfold; (try dsimp only)) | ((fail_if_success (with_reducible show wpAny _ _ (pyIter _) _ _ _)); (fail_if_success (with_reducible show wpAny _ _ (call (Value.builtin "list.append") _) _ _ _)); (fail_if_success (with_reducible show wpAny _ _ (compareOp _ (Value.ref _) (Value.ref _)) _ _ _)); (fail_if_success (with_reducible show wpAny _ _ (eval (Expr.ListComp _ _ _ _) _) _ _ _)); (fail_if_success (with_reducible show wpAny _ _ (exec (Stmt.Assign _ (Expr.ListComp _ _ _ _) _) _) _ _ _)); first | ((with_reducible show wpAny _ _ (eval (Expr.Name _ _) (compEnvC _ _ _ _)) _ _ _); k_dflt (first | (refine' nmL ?qk1Z ?qk2Z ?_ ?qk3Z ?qk4Z ?qk5Z; (case qk3Z => rfl); (case qk4Z => rfl); (case qk5Z => decide); (case qk1Z => k_asm); (case qk2Z => rfl); k_whole) | (refine' nmC ?qk1Z ?qk2Z ?qk6Z ?_ ?qk3Z ?qk4Z ?qk5Z; (case qk3Z => rfl); (case qk4Z => rfl); (case qk5Z => decide); (case qk6Z => rfl); (case qk1Z => assumption); (case qk2Z => assumption); k_whole) | (refine' nmG ?qk1Z ?qk2Z ?_ ?qk6Z ?qk3Z ?qk4Z ?qk5Z; (case qk3Z => rfl); (case qk4Z => rfl); (case qk5Z => decide); (case qk6Z => rfl); (case qk1Z => assumption); (case qk2Z => k_is); k_whole) | (refine' nmB ?qk1Z ?qk2Z ?qk7Z ?qk8Z ?_ ?qk6Z ?qk9Z ?qk3Z ?qk4Z ?qk5Z; (case qk3Z => rfl); (case qk4Z => rfl); (case qk5Z => decide); (case qk6Z => rfl); (case qk9Z => rfl); (case qk1Z => assumption); (case qk2Z => k_is); (case qk7Z => boot_fast); (case qk8Z => decide); k_whole))) | (with_reducible (((with_reducible show wpAny _ _ (newTuple _) _ _ _); (k_here; refine newTuple_L (by k_asm) (by k_asm) ?_ (Nat.le_of_ble_eq_true rfl); intro a9 h9 F9 N9 f9 k9; (try dsimp only))))) | (with_reducible (((with_reducible show wpAny _ _ (execs (Stmt.Assign _ _ _ :: _) _) _ _ _); refine wpAny_execs_cons ?_))) | (with_reducible (((with_reducible show TurnE _ _ _ _ _ _ _ _ _ _ _ _ _ _ _); dsimp only [TurnE]))) | (with_reducible ((k_here; (with_reducible show wpAny _ _ (call (Value.builtin "len") [Value.ref _]) _ _ _); refine len_tup_ints (IsTup.keeps (by assumption) (Fr.keep (by k_asm))) (by assumption) (by assumption) ?_))) | walk1) | dsimp only))
  rename Heap.IsList _ _ _ => hl1
  rename CarriedAll _ _ => hc1
  rename NewPlain _ _ _ _ => hp1
  rename Heap.get? H _ = none => hn1
  have hI1 := IntsAre.ofCarried hc1
  rw [show rangeInts 1 1 _ = [1, 2, 3, 4, 5, 6, 7, 8, 9] from by decide] at hI1
  rename Fr _ _ _ _ => F1
  rename News _ _ _ _ => N1
  have hL1 := hp1.ne_locals F1
  obtain ⟨⟨n1, hp1⟩, _⟩ := hp1
  have N1 := News.one N1 hn1 hp1 hL1
  clear hc1 hl1 hp1 hn1
  refine' lcEval (cl := []) ?clos ?cell ?kind ?names ?hx ?h ?hs
  case clos => with_unfolding_all rfl
  case cell => decide
  case kind => rfl
  case names => decide
  case hx => rfl
  case hs => intro _; with_unfolding_all rfl
  (repeat' (first | (k_unfold; (try dsimp only)) | ((fail_if_success (with_reducible show wpAny _ _ (pyIter _) _ _ _)); (fail_if_success (with_reducible show wpAny _ _ (call (Value.builtin "list.append") _) _ _ _)); (fail_if_success (with_reducible show wpAny _ _ (compareOp _ (Value.ref _) (Value.ref _)) _ _ _)); (fail_if_success (with_reducible show wpAny _ _ (eval (Expr.ListComp _ _ _ _) _) _ _ _)); (fail_if_success (with_reducible show wpAny _ _ (exec (Stmt.Assign _ (Expr.ListComp _ _ _ _) _) _) _ _ _)); first | ((with_reducible show wpAny _ _ (eval (Expr.Name _ _) (compEnvC _ _ _ _)) _ _ _); k_dflt (first | (refine' nmL ?qk1Z ?qk2Z ?_ ?qk3Z ?qk4Z ?qk5Z; (case qk3Z => rfl); (case qk4Z => rfl); (case qk5Z => decide); (case qk1Z => k_asm); (case qk2Z => rfl); k_whole) | (refine' nmC ?qk1Z ?qk2Z ?qk6Z ?_ ?qk3Z ?qk4Z ?qk5Z; (case qk3Z => rfl); (case qk4Z => rfl); (case qk5Z => decide); (case qk6Z => rfl); (case qk1Z => assumption); (case qk2Z => assumption); k_whole) | (refine' nmG ?qk1Z ?qk2Z ?_ ?qk6Z ?qk3Z ?qk4Z ?qk5Z; (case qk3Z => rfl); (case qk4Z => rfl); (case qk5Z => decide); (case qk6Z => rfl); (case qk1Z => assumption); (case qk2Z => k_is); k_whole) | (refine' nmB ?qk1Z ?qk2Z ?qk7Z ?qk8Z ?_ ?qk6Z ?qk9Z ?qk3Z ?qk4Z ?qk5Z; (case qk3Z => rfl); (case qk4Z => rfl); (case qk5Z => decide); (case qk6Z => rfl); (case qk9Z => rfl); (case qk1Z => assumption); (case qk2Z => k_is); (case qk7Z => boot_fast); (case qk8Z => decide); k_whole))) | (with_reducible (((with_reducible show wpAny _ _ (newTuple _) _ _ _); (k_here; refine newTuple_L (by k_asm) (by k_asm) ?_ (Nat.le_of_ble_eq_true rfl); intro a9 h9 F9 N9 f9 k9; (try dsimp only))))) | (with_reducible (((with_reducible show wpAny _ _ (execs (Stmt.Assign _ _ _ :: _) _) _ _ _); refine wpAny_execs_cons ?_))) | (with_reducible (((with_reducible show TurnE _ _ _ _ _ _ _ _ _ _ _ _ _ _ _); dsimp only [TurnE]))) | (with_reducible ((k_here; (with_reducible show wpAny _ _ (call (Value.builtin "len") [Value.ref _]) _ _ _); refine len_tup_ints (IsTup.keeps (by assumption) (Fr.keep (by k_asm))) (by assumption) (by assumption) ?_))) | walk1) | dsimp only))
  rename IntsAre _ (List.take 6 ns) => hI6
  rename Fr _ _ _ _ => F6
  rename News _ _ _ _ => N6
  refine src_list rfl ⟨_, (N6 _ (.head _)).1, rfl, _, rfl⟩ ?_
  intro it s₂ hsrc
  have hvl := hI6.length
  rw [List.length_take] at hvl
  refine ⟨_, _, _, fun i ys _ => IntsAre ys (((ns.take 6).map fun x => (x.natAbs : Int) + 1).take i), hsrc, (by omega), (fun _ _ _ _ h _ => h), (fun _ => .nil), LcTurn.plain ?turn, ?done⟩
  case turn =>
    intro C X' i v ys s₃ m₃ E' hX hi' hv hy hR F' N'
    obtain ⟨n, t, hn, rfl⟩ := ints_at hI6 hv
    have G3 : Gd w.params s₃.heap := G.keeps fun b o e => F'.keep b o (F6.keep b o e)
    (repeat' (first | (k_unfold; (try dsimp only)) | ((fail_if_success (with_reducible show wpAny _ _ (pyIter _) _ _ _)); (fail_if_success (with_reducible show wpAny _ _ (call (Value.builtin "list.append") _) _ _ _)); (fail_if_success (with_reducible show wpAny _ _ (compareOp _ (Value.ref _) (Value.ref _)) _ _ _)); (fail_if_success (with_reducible show wpAny _ _ (eval (Expr.ListComp _ _ _ _) _) _ _ _)); (fail_if_success (with_reducible show wpAny _ _ (exec (Stmt.Assign _ (Expr.ListComp _ _ _ _) _) _) _ _ _)); first | ((with_reducible show wpAny _ _ (eval (Expr.Name _ _) (compEnvC _ _ _ _)) _ _ _); k_dflt (first | (refine' nmL ?qk1Z ?qk2Z ?_ ?qk3Z ?qk4Z ?qk5Z; (case qk3Z => rfl); (case qk4Z => rfl); (case qk5Z => decide); (case qk1Z => k_asm); (case qk2Z => rfl); k_whole) | (refine' nmC ?qk1Z ?qk2Z ?qk6Z ?_ ?qk3Z ?qk4Z ?qk5Z; (case qk3Z => rfl); (case qk4Z => rfl); (case qk5Z => decide); (case qk6Z => rfl); (case qk1Z => assumption); (case qk2Z => assumption); k_whole) | (refine' nmG ?qk1Z ?qk2Z ?_ ?qk6Z ?qk3Z ?qk4Z ?qk5Z; (case qk3Z => rfl); (case qk4Z => rfl); (case qk5Z => decide); (case qk6Z => rfl); (case qk1Z => assumption); (case qk2Z => k_is); k_whole) | (refine' nmB ?qk1Z ?qk2Z ?qk7Z ?qk8Z ?_ ?qk6Z ?qk9Z ?qk3Z ?qk4Z ?qk5Z; (case qk3Z => rfl); (case qk4Z => rfl); (case qk5Z => decide); (case qk6Z => rfl); (case qk9Z => rfl); (case qk1Z => assumption); (case qk2Z => k_is); (case qk7Z => boot_fast); (case qk8Z => decide); k_whole))) | (with_reducible (((with_reducible show wpAny _ _ (newTuple _) _ _ _); (k_here; refine newTuple_L (by k_asm) (by k_asm) ?_ (Nat.le_of_ble_eq_true rfl); intro a9 h9 F9 N9 f9 k9; (try dsimp only))))) | (with_reducible (((with_reducible show wpAny _ _ (execs (Stmt.Assign _ _ _ :: _) _) _ _ _); refine wpAny_execs_cons ?_))) | (with_reducible (((with_reducible show TurnE _ _ _ _ _ _ _ _ _ _ _ _ _ _ _); dsimp only [TurnE]))) | (with_reducible ((k_here; (with_reducible show wpAny _ _ (call (Value.builtin "len") [Value.ref _]) _ _ _); refine len_tup_ints (IsTup.keeps (by assumption) (Fr.keep (by k_asm))) (by assumption) (by assumption) ?_))) | walk1) | dsimp only))
    · exact Keeps.toks _ _
    · rw [take_snoc (a := (n.natAbs : Int) + 1) (by rw [List.getElem?_map, hn]; rfl), show (if n < 0 then -n else n) + 1 = (n.natAbs : Int) + 1 by split <;> omega]
      exact ints_snoc hR
  case done =>
    intro D h3 tk3 ys hD hl3 hR3 k3
    obtain ⟨nn, hl3⟩ := hl3
    have F3 := Fr.keeps F6 k3
    have N3 := add_news F6 (News.grown N6 k3) hD hl3
    clear F6 N6
    rw [List.take_of_length_le (by rw [List.length_map, List.length_take]; omega)] at hR3
    dsimp only
    refine add_lists_ints (s := Shared.mk _ _ _ _ _) F3 N3 ⟨_, (N3 _ (.tail _ (.tail _ (.head _)))).1, rfl, _, rfl⟩ ⟨_, hl3, rfl, _, rfl⟩ hI1 hR3 ?_ ?_
    · intro h4 F4 N4 hI4
      dsimp only
      have N5 := News.pick N4 (p := (L + 1 + 1, o2)) (by k_mem) (News.pick N4 (p := (L + 1, o1)) (by k_mem) (News.pick N4 (p := (L + 1 + 1 + 1, o3)) (by k_mem) (News.pick N4 (p := (82, tabObj ps)) (by k_mem) (News.pick N4 (p := (tx, _)) (by k_mem) (News.pick N4 (.head _) News.nil)))))
      clear N3 N4
      refine' stCell (s := Shared.mk _ _ _ _ _) F4 N5 ?hc h2 ?ap ?_ ?hk ?hl
      case hc => rfl
      case hk => rfl
      case hl => rfl
      case ap =>
        refine List.forall_mem_cons.mpr ⟨.inl (Nat.ne_of_lt (Nat.lt_succ_self _)), List.forall_mem_cons.mpr ⟨.inl (Nat.succ_ne_self _), List.forall_mem_cons.mpr ⟨.inr fun _ e => (nomatch e), List.forall_mem_cons.mpr ⟨.inr fun _ e => (nomatch e), List.forall_mem_cons.mpr ⟨.inr fun _ e => (nomatch e), List.forall_mem_nil _⟩⟩⟩⟩⟩
      intro h6 o2' F6 N6 hd6
      dsimp only
      exact next h6 _ _ _ _ o2' _ (kst_fr _ F6 (List.forall_mem_cons.mpr ⟨rfl, List.forall_mem_nil _⟩)) (News.pick N6 (by k_mem) (News.pick N6 (by k_mem) (News.pick N6 (by k_mem) (News.pick N6 (by k_mem) (News.pick N6 (by k_mem) (News.pick N6 (by k_mem) News.nil)))))) hd6 hI4
    · rw [List.length_map, List.length_take, sizeLine_eq]; show 9 + _ ≤ _; omega
end
end
section
/- the part of a heap that the law only adds to -/
noncomputable def Dp (H : Heap) (L : Addr) (h : Heap) : Heap := nw H [L, L + 1, L + 1 + 1, L + 1 + 1 + 1, 82] h
theorem dp_keep {H h h' : Heap} {L : Addr} (k : ∀ b o, b ≠ L → h.get? b = some o → h'.get? b = some o) : Sub (Dp H L h) (Dp H L h') :=
  nw_keep fun b o hb e => k b o (fun q => hb (q ▸ .head _)) e
theorem dp_new {H h h' : Heap} {L : Addr} {X : List Addr} {m : Str → Option Value} {o1 o2 o3 o4 : Obj} {news : List (Addr × Obj)} (F : Fr H L h m) (N : News H L h ((L + 1, o1) :: (L + 1 + 1, o2) :: (L + 1 + 1 + 1, o3) :: (82, o4) :: news)) : Sub (nw h X h') (Dp H L h') := fun b o e => by
  obtain ⟨e1, _, e3⟩ := nw_get.mp e
  refine nw_get.mpr ⟨e1, fun hm => ?_, ?_⟩
  · rcases List.mem_cons.mp hm with rfl | hm
    · obtain ⟨oL, _, _, hL, _⟩ := F.ns
      rw [hL] at e3; cases e3
    rcases List.mem_cons.mp hm with rfl | hm
    · rw [(N (_, o1) (.head _)).1] at e3; cases e3
    rcases List.mem_cons.mp hm with rfl | hm
    · rw [(N (_, o2) (.tail _ (.head _))).1] at e3; cases e3
    rcases List.mem_cons.mp hm with rfl | hm
    · rw [(N (_, o3) (.tail _ (.tail _ (.head _)))).1] at e3; cases e3
    rw [List.mem_singleton.mp hm, (N (_, o4) (.tail _ (.tail _ (.tail _ (.head _))))).1] at e3; cases e3
  · cases q : H.get? b with
    | none => rfl
    | some o' => rw [F.keep b o' q] at e3; cases e3
theorem nw_new {h1 h3 h5 : Heap} {X : List Addr} (hX : ∀ b ∈ X, ∃ o, h3.get? b = some o) (k : Sub h1 h3) : Sub (nw h3 [] h5) (nw h1 X h5) := fun b o e => by
  obtain ⟨e1, _, e3⟩ := nw_get.mp e
  refine nw_get.mpr ⟨e1, fun hm => ?_, ?_⟩
  · obtain ⟨o', ho⟩ := hX b hm
    rw [e3] at ho; cases ho
  · cases q : h1.get? b with
    | none => rfl
    | some o' => rw [k b o' q] at e3; cases e3
/- a mark of a text -/
noncomputable def WSof (g : Heap) (v : Value) (l : List Nat) : Prop := ∃ x, v = .ref x ∧ WS g x (T l) (leadOf l).length (aheadOf l).length (cntOf (aheadOf l)) (lastOf l) (decide ((cntOf (aheadOf l)).length ≤ 1))
inductive WSAll (g : Heap) : List Value → List (List Nat) → Prop
  | nil : WSAll g [] []
  | cons {v : Value} {l : List Nat} {vs : List Value} {ls : List (List Nat)} : WSof g v l → WSAll g vs ls → WSAll g (v :: vs) (l :: ls)
theorem WSof.keeps {g g' : Heap} {v : Value} {l : List Nat} (x : WSof g v l) (k : Sub g g') : WSof g' v l := let ⟨a, e, W⟩ := x; ⟨a, e, W.keeps k⟩
theorem WSAll.keeps {g g' : Heap} {vs : List Value} {ls : List (List Nat)} (x : WSAll g vs ls) (k : Sub g g') : WSAll g' vs ls := by
  induction x with
  | nil => exact .nil
  | cons a _ ih => exact .cons (a.keeps k) ih
theorem WSAll.snoc {g : Heap} {vs : List Value} {ls : List (List Nat)} {v : Value} {l : List Nat} (x : WSAll g vs ls) (a : WSof g v l) : WSAll g (vs ++ [v]) (ls ++ [l]) := by
  induction x with
  | nil => exact .cons a .nil
  | cons b _ ih => exact .cons b ih
theorem WSAll.length {g : Heap} {vs : List Value} {ls : List (List Nat)} (x : WSAll g vs ls) : vs.length = ls.length := by
  induction x with
  | nil => rfl
  | cons _ _ ih => simp [ih]
theorem WSAll.get {g : Heap} {vs : List Value} {ls : List (List Nat)} (x : WSAll g vs ls) {i : Nat} {l : List Nat} (e : ls[i]? = some l) : ∃ v, vs[i]? = some v ∧ WSof g v l := by
  induction x generalizing i with
  | nil => simp at e
  | cons a _ ih => cases i with
    | zero => simp at e; exact ⟨_, rfl, e ▸ a⟩
    | succ i => simpa using ih (by simpa using e)
theorem txt_at {tvs : List Value} {ts : List (List Nat)} (h : StrsAre tvs (ts.map Mine.T)) {i : Nat} {v : Value} (e : tvs[i]? = some v) : ∃ l t, ts[i]? = some l ∧ v = .str (Mine.T l) t := by
  obtain ⟨x, t, hx, rfl⟩ := strs_at h e
  rw [List.getElem?_map] at hx
  obtain ⟨l, hl, rfl⟩ := Option.map_eq_some_iff.mp hx
  exact ⟨l, t, hl, rfl⟩
section
variable {prog : Program} {w : World} {s : Shared} {H : Heap} {L fa : Addr} {cd : Value}
set_option maxHeartbeats 4000000 in
theorem law_b1 {tx sz : Addr} {tvs svs : List Value} {tn sn : Nat} {ts : List (List Nat)} {ps : Array Value} {o1 o2 o3 : Obj} {u : Str → Option Value} {Q : Flow → Shared → Prop} (G : Gd w.params H) (ht : StrsAre tvs (ts.map Mine.T)) (htl : ts.length ≤ 10) (hts : ∀ l ∈ ts, l.length ≤ 500)
    (F : Fr H L s.heap (kstB u [(Str.ofString "texts", .ref tx)]))
    (N : News H L s.heap [(L + 1, o1), (L + 1 + 1, o2), (L + 1 + 1 + 1, o3), (82, tabObj ps), (tx, W.listOf tvs.toArray tn), (sz, W.listOf svs.toArray sn)])
    (next : ∀ h tk mk mvs mn u, Fr H L h (kstB u [(Str.ofString "texts", .ref tx), (Str.ofString "marks", .ref mk)]) →
      News H L h [(L + 1, o1), (L + 1 + 1, o2), (L + 1 + 1 + 1, o3), (82, tabObj ps), (tx, W.listOf tvs.toArray tn), (sz, W.listOf svs.toArray sn), (mk, W.listOf (mvs : List Value).toArray mn)] → WSAll (Dp H L h) mvs ts →
      wpAny (model prog w) (lawA L fa cd) (execs (lawBody.drop 10) (lawEnv L fa cd)) Q (fun _ _ => False) { s with heap := h, toks := tk }) :
    wpAny (model prog w) (lawA L fa cd) (execs (lawBody.drop 9) (lawEnv L fa cd)) Q (fun _ _ => False) s := by
  have X := G.k
  obtain ⟨p, loose, mg, mb, TT⟩ := G.t
  obtain ⟨h, gs, dr, tk, os⟩ := s
  dsimp only at F N next
  have htv := strs_len ht
  rw [List.length_map] at htv
  change wpAny _ _ (execs (_ :: _) _) _ _ _
  refine wpAny_execs_cons ?_
  refine' lcAssign (cl := []) ?sw ?clos ?cell ?kind ?names ?hx ?hy ?hp ?h ?hs
  case sw => with_unfolding_all rfl
  case clos => with_unfolding_all rfl
  case cell => decide
  case kind => rfl
  case names => decide
  case hx => rfl
  case hy => rfl
  case hp => rfl
  case hs => intro _; with_unfolding_all rfl
  (repeat' (first | (k_unfold; (try dsimp only)) | ((fail_if_success (with_reducible show wpAny _ _ (pyIter _) _ _ _)); (fail_if_success (with_reducible show wpAny _ _ (call (Value.builtin "list.append") _) _ _ _)); (fail_if_success (with_reducible show wpAny _ _ (compareOp _ (Value.ref _) (Value.ref _)) _ _ _)); (fail_if_success (with_reducible show wpAny _ _ (eval (Expr.ListComp _ _ _ _) _) _ _ _)); (fail_if_success (with_reducible show wpAny _ _ (exec (Stmt.Assign _ (Expr.ListComp _ _ _ _) _) _) _ _ _)); (first | ((with_reducible show wpAny _ _ (eval (Expr.Name _ _) (compEnvC _ _ _ _)) _ _ _); k_dflt (first | (refine' nmL ?qk1Z ?qk2Z ?_ ?qk3Z ?qk4Z ?qk5Z; (case qk3Z => rfl); (case qk4Z => rfl); (case qk5Z => decide); (case qk1Z => k_asm); (case qk2Z => rfl); k_whole) | (refine' nmC ?qk1Z ?qk2Z ?qk6Z ?_ ?qk3Z ?qk4Z ?qk5Z; (case qk3Z => rfl); (case qk4Z => rfl); (case qk5Z => decide); (case qk6Z => rfl); (case qk1Z => assumption); (case qk2Z => assumption); k_whole) | (refine' nmG ?qk1Z ?qk2Z ?_ ?qk6Z ?qk3Z ?qk4Z ?qk5Z; (case qk3Z => rfl); (case qk4Z => rfl); (case qk5Z => decide); (case qk6Z => rfl); (case qk1Z => assumption); (case qk2Z => k_is); k_whole) | (refine' nmB ?qk1Z ?qk2Z ?qk7Z ?qk8Z ?_ ?qk6Z ?qk9Z ?qk3Z ?qk4Z ?qk5Z; (case qk3Z => rfl); (case qk4Z => rfl); (case qk5Z => decide); (case qk6Z => rfl); (case qk9Z => rfl); (case qk1Z => assumption); (case qk2Z => k_is); (case qk7Z => boot_fast); (case qk8Z => decide); k_whole))) | (with_reducible (((with_reducible show wpAny _ _ (newTuple _) _ _ _); (k_here; refine newTuple_L (by k_asm) (by k_asm) ?_ (Nat.le_of_ble_eq_true rfl); intro a9 h9 F9 N9 f9 k9; (try dsimp only))))) | (with_reducible (((with_reducible show wpAny _ _ (execs (Stmt.Assign _ _ _ :: _) _) _ _ _); refine wpAny_execs_cons ?_))) | (with_reducible (((with_reducible show TurnE _ _ _ _ _ _ _ _ _ _ _ _ _ _ _); dsimp only [TurnE]))) | (with_reducible ((k_here; (with_reducible show wpAny _ _ (call (Value.builtin "len") [Value.ref _]) _ _ _); refine len_tup_ints (IsTup.keeps (by assumption) (Fr.keep (by k_asm))) (by assumption) (by assumption) ?_))) | walk1); all_goals (try dsimp only)) | dsimp only))
  rename Fr _ _ _ _ => F6
  rename News _ _ _ _ => N6
  refine src_list rfl ⟨_, (N6 (tx, _) (by k_mem)).1, rfl, _, rfl⟩ ?_
  intro it s₂ hsrc
  refine ⟨_, _, _, fun i ys d => WSAll d ys (ts.take i), _, hsrc, (by omega), F6.ns, (fun _ _ _ _ h k => WSAll.keeps h k), (fun _ => .nil), LcTurn.plain ?turn, ?done⟩
  case turn =>
    intro C X' i v ys s₃ m₃ E' hX hi' hv hy hR F' N'
    obtain ⟨l, t, hl, rfl⟩ := txt_at ht hv
    have hll := hts l (List.mem_of_getElem? hl)
    have G3 : Gd w.params s₃.heap := G.keeps fun b o e => F'.keep b o (F6.keep b o e)
    (repeat' (first | (k_unfold; (try dsimp only)) | ((fail_if_success (with_reducible show wpAny _ _ (pyIter _) _ _ _)); (fail_if_success (with_reducible show wpAny _ _ (call (Value.builtin "list.append") _) _ _ _)); (fail_if_success (with_reducible show wpAny _ _ (compareOp _ (Value.ref _) (Value.ref _)) _ _ _)); (fail_if_success (with_reducible show wpAny _ _ (eval (Expr.ListComp _ _ _ _) _) _ _ _)); (fail_if_success (with_reducible show wpAny _ _ (exec (Stmt.Assign _ (Expr.ListComp _ _ _ _) _) _) _ _ _)); (first | ((with_reducible show wpAny _ _ (eval (Expr.Name _ _) (compEnvC _ _ _ _)) _ _ _); k_dflt (first | (refine' nmL ?qk1Z ?qk2Z ?_ ?qk3Z ?qk4Z ?qk5Z; (case qk3Z => rfl); (case qk4Z => rfl); (case qk5Z => decide); (case qk1Z => k_asm); (case qk2Z => rfl); k_whole) | (refine' nmC ?qk1Z ?qk2Z ?qk6Z ?_ ?qk3Z ?qk4Z ?qk5Z; (case qk3Z => rfl); (case qk4Z => rfl); (case qk5Z => decide); (case qk6Z => rfl); (case qk1Z => assumption); (case qk2Z => assumption); k_whole) | (refine' nmG ?qk1Z ?qk2Z ?_ ?qk6Z ?qk3Z ?qk4Z ?qk5Z; (case qk3Z => rfl); (case qk4Z => rfl); (case qk5Z => decide); (case qk6Z => rfl); (case qk1Z => assumption); (case qk2Z => k_is); k_whole) | (refine' nmB ?qk1Z ?qk2Z ?qk7Z ?qk8Z ?_ ?qk6Z ?qk9Z ?qk3Z ?qk4Z ?qk5Z; (case qk3Z => rfl); (case qk4Z => rfl); (case qk5Z => decide); (case qk6Z => rfl); (case qk9Z => rfl); (case qk1Z => assumption); (case qk2Z => k_is); (case qk7Z => boot_fast); (case qk8Z => decide); k_whole))) | (with_reducible (((with_reducible show wpAny _ _ (newTuple _) _ _ _); (k_here; refine newTuple_L (by k_asm) (by k_asm) ?_ (Nat.le_of_ble_eq_true rfl); intro a9 h9 F9 N9 f9 k9; (try dsimp only))))) | (with_reducible (((with_reducible show wpAny _ _ (execs (Stmt.Assign _ _ _ :: _) _) _ _ _); refine wpAny_execs_cons ?_))) | (with_reducible (((with_reducible show TurnE _ _ _ _ _ _ _ _ _ _ _ _ _ _ _); dsimp only [TurnE]))) | (with_reducible ((k_here; (with_reducible show wpAny _ _ (call (Value.builtin "len") [Value.ref _]) _ _ _); refine len_tup_ints (IsTup.keeps (by assumption) (Fr.keep (by k_asm))) (by assumption) (by assumption) ?_))) | walk1); all_goals (try dsimp only)) | dsimp only))
    · exact G3.k
    · refine wk (init_spec G3 hll ?_) rfl (Nat.le_of_ble_eq_true rfl) (Nat.le_of_ble_eq_true rfl)
      intro x s' k W
      refine ⟨k, ?_⟩
      rw [take_snoc hl]
      exact (hR.keeps (nw_keep fun b o _ e => Keeps.sub k b o e)).snoc ⟨x, rfl, W.keeps (nw_new hX F'.keep)⟩
  case done =>
    intro D h3 tk3 ys hD hl3 hR3 ns3 k3
    obtain ⟨nn, hl3⟩ := hl3
    obtain ⟨F3, N3⟩ := after_assign F6 N6 ns3 k3
    have N3 := add_news F6 N3 hD hl3
    rw [List.take_of_length_le (by omega)] at hR3
    have hR4 := hR3.keeps (dp_new F6 N6)
    dsimp only
    exact next h3 tk3 D ys nn _ (kst_fr _ F3 (List.forall_mem_cons.mpr ⟨rfl, List.forall_mem_cons.mpr ⟨rfl, List.forall_mem_nil _⟩⟩))
      (News.pick N3 (by k_mem) (News.pick N3 (by k_mem) (News.pick N3 (by k_mem) (News.pick N3 (by k_mem) (News.pick N3 (by k_mem) (News.pick N3 (by k_mem) (News.pick N3 (by k_mem) News.nil))))))) hR4
end
section
variable {prog : Program} {w : World} {s : Shared} {H : Heap} {L fa : Addr} {cd : Value}
set_option maxHeartbeats 4000000 in
theorem law_b3 {tx sz mk co : Addr} {tvs svs mvs cvs : List Value} {tn sn mn cn : Nat} {ts : List (List Nat)} {ps : Array Value} {o1 o2 o3 : Obj} {u : Str → Option Value} {Q : Flow → Shared → Prop} (G : Gd w.params H) (ht : StrsAre tvs (ts.map Mine.T)) (htl : ts.length ≤ 10) (hts : ∀ l ∈ ts, l.length ≤ 500)
    (F : Fr H L s.heap (kstB u [(Str.ofString "texts", .ref tx), (Str.ofString "marks", .ref mk), (Str.ofString "columns", .ref co)]))
    (N : News H L s.heap [(L + 1, o1), (L + 1 + 1, o2), (L + 1 + 1 + 1, o3), (82, tabObj ps), (tx, W.listOf tvs.toArray tn), (sz, W.listOf svs.toArray sn), (mk, W.listOf mvs.toArray mn), (co, W.listOf cvs.toArray cn)])
    (next : ∀ h tk te evs en u, Fr H L h (kstB u [(Str.ofString "texts", .ref tx), (Str.ofString "marks", .ref mk), (Str.ofString "columns", .ref co), (Str.ofString "tells", .ref te)]) →
      News H L h [(L + 1, o1), (L + 1 + 1, o2), (L + 1 + 1 + 1, o3), (82, tabObj ps), (tx, W.listOf tvs.toArray tn), (sz, W.listOf svs.toArray sn), (mk, W.listOf mvs.toArray mn), (co, W.listOf cvs.toArray cn), (te, W.listOf (evs : List Value).toArray en)] →
      RdAll (Dp H L h) evs (ts.map toldD) → Sub (Dp H L s.heap) (Dp H L h) →
      wpAny (model prog w) (lawA L fa cd) (execs (lawBody.drop 12) (lawEnv L fa cd)) Q (fun _ _ => False) { s with heap := h, toks := tk }) :
    wpAny (model prog w) (lawA L fa cd) (execs (lawBody.drop 11) (lawEnv L fa cd)) Q (fun _ _ => False) s := by
  have X := G.k
  obtain ⟨p, loose, mg, mb, TT⟩ := G.t
  obtain ⟨h, gs, dr, tk, os⟩ := s
  dsimp only at F N next
  have htv := strs_len ht
  rw [List.length_map] at htv
  change wpAny _ _ (execs (_ :: _) _) _ _ _
  refine wpAny_execs_cons ?_
  refine' lcAssign (cl := []) ?sw ?clos ?cell ?kind ?names ?hx ?hy ?hp ?h ?hs
  case sw => with_unfolding_all rfl
  case clos => with_unfolding_all rfl
  case cell => decide
  case kind => rfl
  case names => decide
  case hx => rfl
  case hy => rfl
  case hp => rfl
  case hs => intro _; with_unfolding_all rfl
  (repeat' (first | (k_unfold; (try dsimp only)) | ((fail_if_success (with_reducible show wpAny _ _ (pyIter _) _ _ _)); (fail_if_success (with_reducible show wpAny _ _ (call (Value.builtin "list.append") _) _ _ _)); (fail_if_success (with_reducible show wpAny _ _ (compareOp _ (Value.ref _) (Value.ref _)) _ _ _)); (fail_if_success (with_reducible show wpAny _ _ (eval (Expr.ListComp _ _ _ _) _) _ _ _)); (fail_if_success (with_reducible show wpAny _ _ (exec (Stmt.Assign _ (Expr.ListComp _ _ _ _) _) _) _ _ _)); (first | ((with_reducible show wpAny _ _ (eval (Expr.Name _ _) (compEnvC _ _ _ _)) _ _ _); k_dflt (first | (refine' nmL ?qk1Z ?qk2Z ?_ ?qk3Z ?qk4Z ?qk5Z; (case qk3Z => rfl); (case qk4Z => rfl); (case qk5Z => decide); (case qk1Z => k_asm); (case qk2Z => rfl); k_whole) | (refine' nmC ?qk1Z ?qk2Z ?qk6Z ?_ ?qk3Z ?qk4Z ?qk5Z; (case qk3Z => rfl); (case qk4Z => rfl); (case qk5Z => decide); (case qk6Z => rfl); (case qk1Z => assumption); (case qk2Z => assumption); k_whole) | (refine' nmG ?qk1Z ?qk2Z ?_ ?qk6Z ?qk3Z ?qk4Z ?qk5Z; (case qk3Z => rfl); (case qk4Z => rfl); (case qk5Z => decide); (case qk6Z => rfl); (case qk1Z => assumption); (case qk2Z => k_is); k_whole) | (refine' nmB ?qk1Z ?qk2Z ?qk7Z ?qk8Z ?_ ?qk6Z ?qk9Z ?qk3Z ?qk4Z ?qk5Z; (case qk3Z => rfl); (case qk4Z => rfl); (case qk5Z => decide); (case qk6Z => rfl); (case qk9Z => rfl); (case qk1Z => assumption); (case qk2Z => k_is); (case qk7Z => boot_fast); (case qk8Z => decide); k_whole))) | (with_reducible (((with_reducible show wpAny _ _ (newTuple _) _ _ _); (k_here; refine newTuple_L (by k_asm) (by k_asm) ?_ (Nat.le_of_ble_eq_true rfl); intro a9 h9 F9 N9 f9 k9; (try dsimp only))))) | (with_reducible (((with_reducible show wpAny _ _ (execs (Stmt.Assign _ _ _ :: _) _) _ _ _); refine wpAny_execs_cons ?_))) | (with_reducible (((with_reducible show TurnE _ _ _ _ _ _ _ _ _ _ _ _ _ _ _); dsimp only [TurnE]))) | (with_reducible ((k_here; (with_reducible show wpAny _ _ (call (Value.builtin "len") [Value.ref _]) _ _ _); refine len_tup_ints (IsTup.keeps (by assumption) (Fr.keep (by k_asm))) (by assumption) (by assumption) ?_))) | walk1); all_goals (try dsimp only)) | dsimp only))
  rename Fr _ _ _ _ => F6
  rename News _ _ _ _ => N6
  refine src_list rfl ⟨_, (N6 (tx, _) (by k_mem)).1, rfl, _, rfl⟩ ?_
  intro it s₂ hsrc
  refine ⟨_, _, _, fun i ys d => RdAll d ys ((ts.map toldD).take i), _, hsrc, (by omega), F6.ns, (fun _ _ _ _ h k => RdAll.keeps k h), (fun _ => .nil), LcTurn.plain ?turn, ?done⟩
  case turn =>
    intro C X' i v ys s₃ m₃ E' hX hi' hv hy hR F' N'
    obtain ⟨l, t, hl, rfl⟩ := txt_at ht hv
    have hll := hts l (List.mem_of_getElem? hl)
    have G3 : Gd w.params s₃.heap := G.keeps fun b o e => F'.keep b o (F6.keep b o e)
    (repeat' (first | (k_unfold; (try dsimp only)) | ((fail_if_success (with_reducible show wpAny _ _ (pyIter _) _ _ _)); (fail_if_success (with_reducible show wpAny _ _ (call (Value.builtin "list.append") _) _ _ _)); (fail_if_success (with_reducible show wpAny _ _ (compareOp _ (Value.ref _) (Value.ref _)) _ _ _)); (fail_if_success (with_reducible show wpAny _ _ (eval (Expr.ListComp _ _ _ _) _) _ _ _)); (fail_if_success (with_reducible show wpAny _ _ (exec (Stmt.Assign _ (Expr.ListComp _ _ _ _) _) _) _ _ _)); (first | ((with_reducible show wpAny _ _ (eval (Expr.Name _ _) (compEnvC _ _ _ _)) _ _ _); k_dflt (first | (refine' nmL ?qk1Z ?qk2Z ?_ ?qk3Z ?qk4Z ?qk5Z; (case qk3Z => rfl); (case qk4Z => rfl); (case qk5Z => decide); (case qk1Z => k_asm); (case qk2Z => rfl); k_whole) | (refine' nmC ?qk1Z ?qk2Z ?qk6Z ?_ ?qk3Z ?qk4Z ?qk5Z; (case qk3Z => rfl); (case qk4Z => rfl); (case qk5Z => decide); (case qk6Z => rfl); (case qk1Z => assumption); (case qk2Z => assumption); k_whole) | (refine' nmG ?qk1Z ?qk2Z ?_ ?qk6Z ?qk3Z ?qk4Z ?qk5Z; (case qk3Z => rfl); (case qk4Z => rfl); (case qk5Z => decide); (case qk6Z => rfl); (case qk1Z => assumption); (case qk2Z => k_is); k_whole) | (refine' nmB ?qk1Z ?qk2Z ?qk7Z ?qk8Z ?_ ?qk6Z ?qk9Z ?qk3Z ?qk4Z ?qk5Z; (case qk3Z => rfl); (case qk4Z => rfl); (case qk5Z => decide); (case qk6Z => rfl); (case qk9Z => rfl); (case qk1Z => assumption); (case qk2Z => k_is); (case qk7Z => boot_fast); (case qk8Z => decide); k_whole))) | (with_reducible (((with_reducible show wpAny _ _ (newTuple _) _ _ _); (k_here; refine newTuple_L (by k_asm) (by k_asm) ?_ (Nat.le_of_ble_eq_true rfl); intro a9 h9 F9 N9 f9 k9; (try dsimp only))))) | (with_reducible (((with_reducible show wpAny _ _ (execs (Stmt.Assign _ _ _ :: _) _) _ _ _); refine wpAny_execs_cons ?_))) | (with_reducible (((with_reducible show TurnE _ _ _ _ _ _ _ _ _ _ _ _ _ _ _); dsimp only [TurnE]))) | (with_reducible ((k_here; (with_reducible show wpAny _ _ (call (Value.builtin "len") [Value.ref _]) _ _ _); refine len_tup_ints (IsTup.keeps (by assumption) (Fr.keep (by k_asm))) (by assumption) (by assumption) ?_))) | walk1); all_goals (try dsimp only)) | dsimp only))
    · exact G3.k
    · refine wk (told_spec G3 (by omega) ?_) rfl (Nat.le_of_ble_eq_true rfl) (Nat.le_of_ble_eq_true rfl)
      intro x s' k W
      refine ⟨k, ?_⟩
      rw [take_snoc (a := toldD l) (by rw [List.getElem?_map, hl]; rfl)]
      exact RdAll.snoc (W.keeps (nw_new hX F'.keep)) (hR.keeps (nw_keep fun b o _ e => Keeps.sub k b o e))
  case done =>
    intro D h3 tk3 ys hD hl3 hR3 ns3 k3
    obtain ⟨nn, hl3⟩ := hl3
    obtain ⟨F3, N3⟩ := after_assign F6 N6 ns3 k3
    have N3 := add_news F6 N3 hD hl3
    rw [List.take_of_length_le (by rw [List.length_map]; omega)] at hR3
    have hR4 := hR3.keeps (dp_new F6 N6)
    dsimp only
    exact next h3 tk3 D ys nn _ (kst_fr _ F3 (List.forall_mem_cons.mpr ⟨rfl, List.forall_mem_cons.mpr ⟨rfl, List.forall_mem_cons.mpr ⟨rfl, List.forall_mem_cons.mpr ⟨rfl, List.forall_mem_nil _⟩⟩⟩⟩))
      (News.pick N3 (by k_mem) (News.pick N3 (by k_mem) (News.pick N3 (by k_mem) (News.pick N3 (by k_mem) (News.pick N3 (by k_mem) (News.pick N3 (by k_mem) (News.pick N3 (by k_mem) (News.pick N3 (by k_mem) (News.pick N3 (by k_mem) News.nil))))))))) hR4 (dp_keep k3)
end
section
variable {prog : Program} {w : World} {A : Around} {E : Value → Shared → Prop} {env : Env}
theorem newEnv_cell {M : Model} {scope : Scope} {globals : Addr} {cl : List (Str × Addr)} {qual : Str} {x : Str} {outer : Env} {s : Shared} {Q : Env → Shared → Prop}
    (hcf : ∀ k, cellsFrom k scope.names cl = (x, k) :: cl) (hpc : ∀ h, pushCells h scope.names = h.push { cls := .type "cell", data := .cell none })
    (hQ : Q (newEnv scope s.heap.objs.size globals ((x, s.heap.objs.size + 1) :: cl) qual none .none (some outer) builtinsNs) { s with heap := (s.heap.push { cls := .type "dict", data := .dict #[] }).push { cls := .type "cell", data := .cell none } }) :
    wpAny M A (newFunctionEnv scope globals cl [] qual none .none (some outer)) Q E s := by
  simp only [newFunctionEnv, Option.isSome_some, if_true]
  refine wpAny_bind (wpAny_alloc ?_)
  refine wpAny_bind (wpAny_layCells _ (fun name kind cells => by cases hkc : kind == NameKind.cell <;> simp [hkc]) _ _ _ _ ?_)
  rw [hcf, hpc, show ({ s with heap := s.heap.push { cls := .type "dict", data := .dict #[] } } : Shared).heap.objs.size = s.heap.objs.size + 1 from Heap.size_push ..]
  exact wpAny_bind (wpAny_pure (wpAny_pure hQ))
inductive CelI (s₀ : Shared) (D C : Addr) (wr : List Addr) (n : Nat) (St : Nat → Heap → Prop) (R : Nat → List Value → Heap → Prop) (k : Nat) (s' : Shared) : Prop
  | mk (h' : Heap) (tk : Nat) (m' : Str → Option Value) (ys : List Value) (i : Nat) (v₀ : Option Value) : s' = { s₀ with heap := h', toks := tk } → St i h' → h'.PlainList D ys.toArray → h'.Ns C m' → h'.IsCell (C + 1) v₀ → R i ys (nw s₀.heap (D :: C :: (C + 1) :: wr) h') → ys.length ≤ i → i ≤ n → k = n + 1 - i → Sub s₀.heap h' → CelI s₀ D C wr n St R k s'
inductive LcC (prog : Program) (w : World) (A : Around) (env : Env) (scope : Scope) (cl : List (Str × Addr)) (x y : Str) (elt : Expr) (Q : Flow → Shared → Prop) (it : Value) (s₂ : Shared) : Prop
  | mk (s₀ : Shared) (n : Nat) (P : Nat → Value → Prop) (R : Nat → List Value → Heap → Prop) (m : Str → Option Value) : Src prog w A s₀ s₂ it n P → n ≤ 100000 → s₀.heap.Ns env.locals m →
      (∀ i ys d d', R i ys d → Sub d d' → R i ys d') → (∀ d, R 0 [] d) →
      (∀ C K X i v ys s₃ (m₃ : Str → Option Value) (E' : Value → Shared → Prop), s₀.heap.objs.size ≤ C → (∀ b ∈ X, ∃ o, s₃.heap.get? b = some o) → i < n → P i v → ys.length ≤ i → R i ys (nw s₀.heap X s₃.heap) → s₃.heap.Ns C m₃ → s₃.heap.IsCell K (some v) → Sub s₀.heap s₃.heap →
        wpAny (model prog w) A (eval elt (compEnvC scope ((x, K) :: cl) C env)) (fun y s₅ => Keeps s₃ s₅ ∧ R (i + 1) (ys ++ [y]) (nw s₀.heap X s₅.heap)) E' s₃) →
      (∀ D h' tk ys, s₀.heap.get? D = none → h'.PlainList D (ys : List Value).toArray → R n ys (nw s₀.heap [D] h') → h'.Ns env.locals (fun z => if z = y then some (.ref D) else m z) → (∀ b o, b ≠ env.locals → s₀.heap.get? b = some o → h'.get? b = some o) → Q .next { s₀ with heap := h', toks := tk }) → LcC prog w A env scope cl x y elt Q it s₂
set_option maxHeartbeats 2000000 in
/- a list comprehension whose target is a cell, bound to a name -/
theorem lcCellAssign {s : Shared} {elt iter : Expr} {x y : Str} {px py : Pos} {scope : Scope} {cl : List (Str × Addr)} {pos spos : Pos} {Q : Flow → Shared → Prop}
    (hcf : ∀ k, cellsFrom k scope.names cl = (x, k) :: cl) (hpc : ∀ h, pushCells h scope.names = h.push { cls := .type "cell", data := .cell none })
    (hsw : swapsWith (.ListComp elt [⟨.Name x px, iter, [], 0⟩] scope pos) (some (.Name y py)) spos.line env = pure true)
    (hclos : closureFor scope env = pure cl) (hkind : scope.kind = .function)
    (hnames : ∀ y ∈ scope.names, y.2 = .local → scope.names.lookup y.1 = some .local) (hx : ∀ C K, (compEnvC scope ((x, K) :: cl) C env).kindOf x = some .cell)
    (hy : env.kindOf y = some .local) (hp : (env.scope.kind == .class || (env.scope.kind == .module && env.locals != env.globals)) = false)
    (h : wpAny (model prog w) A (eval iter env) (fun xv s₁ => wpAny (model prog w) A (pyIter xv) (LcC prog w A env scope cl x y elt Q) E s₁) E s)
    (hs : ∀ x, foldedSetIterable iter env x = pure x) :
    wpAny (model prog w) A (exec (.Assign [.Name y py] (.ListComp elt [⟨.Name x px, iter, [], 0⟩] scope pos) spos) env) Q E s := by
  rw [exec_Assign_Name_used _ _ _ _ hsw]
  refine wpAny_bind (wpAny_standAt (wpAny_bind ?_))
  show wpAny _ A (do let _ ← comprehension (.ListComp elt [⟨.Name x px, iter, [], 0⟩] scope pos) scope env _ (newList []) false (eval iter env) (some (assign (.Name y py) env))) _ _ s
  refine wpAny_bind (wpAny_mono (wpAny_comprehension_free (use := some (assign (.Name y py) env)) (Q := fun _ s' => Q .next s') rfl hs hclos hkind hnames
    (wpAny_mono h (fun xv s₁ h₁ => wpAny_mono h₁ (fun it s₂ h₂ => ?_) fun _ _ e => e) fun _ _ e => e)) (fun _ s' hq => wpAny_pure (wpAny_pure hq)) fun _ _ e => e)
  obtain ⟨s₀, n, P, R, m, ⟨I, fp, wr, St, rfl, W, hal, hst, hfp, hk, hsz', hwr, ⟨h2, tk2, rfl⟩⟩, hsz, hn0, mono, R0, turn, hQ⟩ := h₂
  refine wpAny_newObj_type (newEnv_cell hcf hpc ?_)
  dsimp only at hst hfp hk hsz' ⊢
  have e1 : (h2.push { cls := .type "list", dict := none, data := .seq ([] : List Value).toArray }).objs.size = h2.objs.size + 1 := Heap.size_push ..
  generalize hD : h2.objs.size = D at *
  generalize hC : (h2.push { cls := .type "list", dict := none, data := .seq ([] : List Value).toArray }).objs.size = C at *
  generalize hh1 : ((h2.push { cls := .type "list", dict := none, data := .seq ([] : List Value).toArray }).push { cls := .type "dict", data := .dict #[] }).push { cls := .type "cell", data := .cell none } = h₁
  have old : ∀ b o, h2.get? b = some o → h₁.get? b = some o := fun b o e => by rw [← hh1]; exact Heap.get?_push_of_some _ (Heap.get?_push_of_some _ (Heap.get?_push_of_some _ e))
  have hacc : h₁.PlainList D #[] := ⟨_, by rw [← hh1, ← hD]; exact Heap.get?_push_of_some _ (Heap.get?_push_of_some _ (Heap.get?_push_size _ rfl))⟩
  have hns₁ : h₁.Ns C (fun _ => none) := by rw [← hh1, ← hC]; exact (Heap.Ns.new _ (.type "dict")).push _
  have hK1 : h₁.IsCell (C + 1) none := ⟨_, by
    have e : ((h2.push { cls := .type "list", dict := none, data := .seq ([] : List Value).toArray }).push { cls := .type "dict", data := .dict #[] }).objs.size = C + 1 := by rw [Heap.size_push, hC]
    rw [← hh1, ← e]; exact Heap.get?_push_size _ rfl, rfl⟩
  have hDf : D ∉ fp := fun hm => Nat.lt_irrefl _ (hfp _ hm)
  have hCf : C ∉ fp := fun hm => by have := hfp _ hm; rw [e1] at this; exact Nat.lt_irrefl _ (Nat.lt_of_succ_lt this)
  have hKf : C + 1 ∉ fp := fun hm => by have := hfp _ hm; rw [e1] at this; exact absurd this (Nat.not_lt.mpr (Nat.le_add_right _ 2))
  have hCw : C ∉ wr := fun h => hCf (W.sub _ h)
  have hDw : D ∉ wr := fun h => hDf (W.sub _ h)
  have hKw : C + 1 ∉ wr := fun h => hKf (W.sub _ h)
  have hDC : D ≠ C := by rw [e1]; exact Nat.ne_of_lt (Nat.lt_succ_self _)
  have hDK : D ≠ C + 1 := by rw [e1]; exact Nat.ne_of_lt (Nat.lt_succ_of_lt (Nat.lt_succ_self _))
  have hCK : C ≠ C + 1 := Nat.ne_of_lt (Nat.lt_succ_self _)
  have hD0 : s₀.heap.get? D = none := Heap.get?_none_of_le hsz'
  have hC0 : s₀.heap.get? C = none := Heap.get?_none_of_le (by rw [e1]; exact Nat.le_succ_of_le hsz')
  have hK0 : s₀.heap.get? (C + 1) = none := Heap.get?_none_of_le (by rw [e1]; exact Nat.le_succ_of_le (Nat.le_succ_of_le hsz'))
  have hst₁ : St 0 h₁ := W.frame _ _ _ hst fun b _ o e => old b o e
  have loop : ∀ s₃ : Shared, s₃ = { s₀ with heap := h₁, toks := tk2 } →
      codeAny (model prog w) A (.compLoop (.ListComp elt [⟨.Name x px, iter, [], 0⟩] scope pos) 0 (.ref I) (.ref D) (compEnvC scope ((x, C + 1) :: cl) C env))
        (compPost (model prog w) A E (some (assign (.Name y py) env)) (fun _ s' => Q .next s') (.ref D) C) s₃ := by
    rintro s₃ rfl
    refine codeAny_compLoop_tests
      (CelI s₀ D C wr n St R) ?_ (n + 1)
      ⟨h₁, tk2, _, [], 0, none, rfl, hst₁, hacc, hns₁, hK1, R0 _, Nat.zero_le _, Nat.zero_le _, rfl, fun b o e => old b o (hk b o e)⟩
    rintro k s' ⟨H, tk, m', ys, i, v₀, rfl, hst', hacc', hn', hK', hRi, hyi, hi, rfl, hk'⟩
    by_cases hlt : i < n
    · refine W.item i _ _ _ hlt hst' fun v h₃ tk₃ hPv hst₃ hk₃ => ?_
      have hK3 : h₃.IsCell (C + 1) v₀ := let ⟨o, ho, hd⟩ := hK'; ⟨o, hk₃ _ _ hKw ho, hd⟩
      refine wpAny_assign_Name (wpAny_storeName_cell (c := C + 1) (by exact hkind) (hx C (C + 1)) (by simp [compEnvC]) hK3 fun h₄ hK₄ hs₄ => ?_)
      have hs₄' : ∀ b o, b ≠ C + 1 → h₃.get? b = some o → h₄.get? b = some o := fun b o hb e => hs₄.extBut b o hb e
      have up₄ : ∀ b o, b ≠ C + 1 → b ∉ wr → H.get? b = some o → h₄.get? b = some o := fun b o hb hw e => hs₄' b o hb (hk₃ b o hw e)
      have hst₄ : St (i + 1) h₄ := W.frame _ _ _ hst₃ fun b hb o e => hs₄' b o (fun h => hKf (h ▸ hb)) e
      have hacc₄ : h₄.PlainList D ys.toArray := hacc'.at fun o e => up₄ D o hDK hDw e
      have hn₄ := hn'.at' fun o e => up₄ C o hCK hCw e
      have hR₄ := mono _ _ _ _ hRi (nw_keep (h' := h₄) fun b o hb e => up₄ b o (fun q => hb (q ▸ .tail _ (.tail _ (.head _)))) (fun q => hb (.tail _ (.tail _ (.tail _ q)))) e)
      have hk₄ : Sub s₀.heap h₄ := fun b o e => up₄ b o (fun q => by rw [q, hK0] at e; cases e) (fun q => by rw [hwr b q] at e; cases e) (hk' b o e)
      have hX : ∀ b ∈ D :: C :: (C + 1) :: wr, ∃ o, h₄.get? b = some o := fun b hb => by
        rcases List.mem_cons.mp hb with rfl | hb
        · obtain ⟨n, ho⟩ := hacc₄; exact ⟨_, ho⟩
        rcases List.mem_cons.mp hb with rfl | hb
        · obtain ⟨o, _, _, ho, _⟩ := hn₄; exact ⟨o, ho⟩
        rcases List.mem_cons.mp hb with rfl | hb
        · obtain ⟨o, ho, _⟩ := hK₄; exact ⟨o, ho⟩
        · exact hal _ _ hst₄ b hb
      refine wpAny_pure ?_
      simp only [if_true]
      refine wpAny_mono (turn C (C + 1) (D :: C :: (C + 1) :: wr) i v ys { s₀ with heap := h₄, toks := tk₃ } _ _ (by rw [e1]; exact Nat.le_succ_of_le hsz') hX hlt hPv hyi hR₄ hn₄ hK₄ hk₄) (fun z s₅ h₅ => ?_) fun _ _ e => e
      obtain ⟨⟨h₅, tk₅, rfl, hk₅⟩, hRy⟩ := h₅
      refine wpAny_list_append_plain (hsz := by rw [List.size_toArray, sizeLine_eq]; omega) (hacc₄.at fun o e => hk₅ _ o e) fun h₆ hl₆ hs₆ => ?_
      have hs₆' : ∀ b o, b ≠ D → h₅.get? b = some o → h₆.get? b = some o := fun b o hb e => hs₆.extBut b o hb e
      refine ⟨n + 1 - (i + 1), by omega, h₆, tk₅, _, ys ++ [z], i + 1, some v, rfl, ?_, (by rw [List.push_toArray] at hl₆; exact hl₆), (hn₄.keeps hk₅).sameBut hs₆ (Ne.symm hDC), (hK₄.keeps hk₅).sameBut hs₆ (Ne.symm hDK), mono _ _ _ _ hRy (nw_keep fun b o hb e => hs₆' b o (fun q => hb (q ▸ .head _)) e), (by rw [List.length_append, List.length_singleton]; omega), hlt, rfl, ?_⟩
      · exact W.frame _ _ h₆ hst₄ fun b hb o e => hs₆' b o (fun h => hDf (h ▸ hb)) (hk₅ b o e)
      · intro b o e
        exact hs₆' b o (fun q => by rw [q, hD0] at e; cases e) (hk₅ b o (hk₄ b o e))
    · have hin : i = n := by omega
      subst hin
      refine W.done _ _ _ hst' fun h₃ tk₃ hk₃ => ?_
      have hk3 : Sub s₀.heap h₃ := fun b o e => hk₃ b o (fun q => by rw [hwr b q] at e; cases e) (hk' b o e)
      have hl3 : h₃.PlainList D ys.toArray := hacc'.at fun o e => hk₃ _ o hDw e
      have hn3 := hn'.at' fun o e => hk₃ _ o hCw e
      have hR3 := mono _ _ _ _ hRi (nw_keep (h' := h₃) fun b o hb e => hk₃ b o (fun q => hb (.tail _ (.tail _ (.tail _ q)))) e)
      have hLC : env.locals ≠ C := by intro q; obtain ⟨o, _, _, ho, _⟩ := hn0; rw [q, hC0] at ho; cases ho
      have hLD : env.locals ≠ D := by intro q; obtain ⟨o, _, _, ho, _⟩ := hn0; rw [q, hD0] at ho; cases ho
      show wpAny _ A (assign (.Name y py) env (.ref D)) _ _ _
      refine wpAny_assign_Name (wpAny_storeName_local hy (hn0.at' fun o e => hk3 _ o e) (fun h₄ hn₄ hs₄ => ?_) hp)
      refine ⟨m', hn3.sameBut hs₄ (Ne.symm hLC), fun h₅ hs₅ => ?_⟩
      have k5 : ∀ b o, b ≠ env.locals → b ≠ C → h₃.get? b = some o → h₅.get? b = some o := fun b o hL hc e => hs₅.extBut b o hc (hs₄.extBut b o hL e)
      refine hQ D h₅ _ ys hD0 ((hl3.extBut hs₄.extBut (Ne.symm hLD)).extBut hs₅.extBut hDC) (mono _ _ _ _ hR3 fun b o e => ?_) (hn₄.sameBut hs₅ hLC) fun b o hbL e => k5 b o hbL (fun q => by rw [q, hC0] at e; cases e) (hk3 b o e)
      obtain ⟨e1, e2, e3⟩ := nw_get.mp e
      refine nw_get.mpr ⟨k5 b o (fun q => ?_) (fun q => e2 (q ▸ .tail _ (.head _))) e1, fun q => e2 (List.mem_singleton.mp q ▸ .head _), e3⟩
      obtain ⟨o', _, _, ho, _⟩ := hn0
      rw [q, ho] at e3; cases e3
  exact codeAny_compStart_list (loop _ rfl) (W.self 0 _ _ _ hst₁ (loop _ rfl))
end
/- the columns of a text at some sizes, as data -/
noncomputable def colD (zs : List Int) (l : List Nat) : Dat := .list ((zs.map fun s => colOf s l 0).map .int)
section
variable {prog : Program} {w : World} {s : Shared} {H : Heap} {L fa : Addr} {cd : Value}
set_option maxHeartbeats 4000000 in
theorem law_b2 {tx sz mk : Addr} {tvs svs mvs : List Value} {tn sn mn : Nat} {ts : List (List Nat)} {zs : List Int} {ps : Array Value} {o1 o2 o3 : Obj} {u : Str → Option Value} {Q : Flow → Shared → Prop} (G : Gd w.params H) (ht : StrsAre tvs (ts.map Mine.T)) (htl : ts.length ≤ 10)
    (hz : IntsAre svs zs) (hzl : zs.length ≤ 100) (hz1 : ∀ z ∈ zs, 1 ≤ z)
    (F : Fr H L s.heap (kstB u [(Str.ofString "texts", .ref tx), (Str.ofString "marks", .ref mk)]))
    (N : News H L s.heap [(L + 1, o1), (L + 1 + 1, o2), (L + 1 + 1 + 1, o3), (82, tabObj ps), (tx, W.listOf tvs.toArray tn), (sz, W.listOf svs.toArray sn), (mk, W.listOf mvs.toArray mn)]) (h2 : o2.data = .cell (some (.ref sz)))
    (next : ∀ h tk co cvs cn u, Fr H L h (kstB u [(Str.ofString "texts", .ref tx), (Str.ofString "marks", .ref mk), (Str.ofString "columns", .ref co)]) →
      News H L h [(L + 1, o1), (L + 1 + 1, o2), (L + 1 + 1 + 1, o3), (82, tabObj ps), (tx, W.listOf tvs.toArray tn), (sz, W.listOf svs.toArray sn), (mk, W.listOf mvs.toArray mn), (co, W.listOf (cvs : List Value).toArray cn)] →
      RdAll (Dp H L h) cvs (ts.map (colD zs)) → Sub (Dp H L s.heap) (Dp H L h) →
      wpAny (model prog w) (lawA L fa cd) (execs (lawBody.drop 11) (lawEnv L fa cd)) Q (fun _ _ => False) { s with heap := h, toks := tk }) :
    wpAny (model prog w) (lawA L fa cd) (execs (lawBody.drop 10) (lawEnv L fa cd)) Q (fun _ _ => False) s := by
  have X := G.k
  obtain ⟨p, loose, mg, mb, TT⟩ := G.t
  obtain ⟨h, gs, dr, tk, os⟩ := s
  dsimp only at F N next
  have htv := strs_len ht
  rw [List.length_map] at htv
  have hzv := hz.length
  change wpAny _ _ (execs (_ :: _) _) _ _ _
  refine wpAny_execs_cons ?_
  refine' lcCellAssign (cl := [(Str.ofString "sizes", L + 1 + 1)]) ?cf ?pc ?sw ?clos ?kind ?names ?hx ?hy ?hp ?h ?hs
  case cf => intro _; rfl
  case pc => intro _; rfl
  case sw => with_unfolding_all rfl
  case clos => with_unfolding_all rfl
  case kind => rfl
  case names => decide
  case hx => intro _ _; rfl
  case hy => rfl
  case hp => rfl
  case hs => intro _; with_unfolding_all rfl
  (repeat' (first | (k_unfold; (try dsimp only)) | ((fail_if_success (with_reducible show wpAny _ _ (pyIter _) _ _ _)); (fail_if_success (with_reducible show wpAny _ _ (call (Value.builtin "list.append") _) _ _ _)); (fail_if_success (with_reducible show wpAny _ _ (compareOp _ (Value.ref _) (Value.ref _)) _ _ _)); (fail_if_success (with_reducible show wpAny _ _ (eval (Expr.ListComp _ _ _ _) _) _ _ _)); (fail_if_success (with_reducible show wpAny _ _ (exec (Stmt.Assign _ (Expr.ListComp _ _ _ _) _) _) _ _ _)); (first | ((with_reducible show wpAny _ _ (eval (Expr.Name _ _) (compEnvC _ _ _ _)) _ _ _); k_dflt (first | (refine' nmL ?qk1Z ?qk2Z ?_ ?qk3Z ?qk4Z ?qk5Z; (case qk3Z => rfl); (case qk4Z => rfl); (case qk5Z => decide); (case qk1Z => k_asm); (case qk2Z => rfl); k_whole) | (refine' nmC ?qk1Z ?qk2Z ?qk6Z ?_ ?qk3Z ?qk4Z ?qk5Z; (case qk3Z => rfl); (case qk4Z => rfl); (case qk5Z => decide); (case qk6Z => rfl); (case qk1Z => assumption); (case qk2Z => assumption); k_whole) | (refine' nmG ?qk1Z ?qk2Z ?_ ?qk6Z ?qk3Z ?qk4Z ?qk5Z; (case qk3Z => rfl); (case qk4Z => rfl); (case qk5Z => decide); (case qk6Z => rfl); (case qk1Z => assumption); (case qk2Z => k_is); k_whole) | (refine' nmB ?qk1Z ?qk2Z ?qk7Z ?qk8Z ?_ ?qk6Z ?qk9Z ?qk3Z ?qk4Z ?qk5Z; (case qk3Z => rfl); (case qk4Z => rfl); (case qk5Z => decide); (case qk6Z => rfl); (case qk9Z => rfl); (case qk1Z => assumption); (case qk2Z => k_is); (case qk7Z => boot_fast); (case qk8Z => decide); k_whole))) | (with_reducible (((with_reducible show wpAny _ _ (newTuple _) _ _ _); (k_here; refine newTuple_L (by k_asm) (by k_asm) ?_ (Nat.le_of_ble_eq_true rfl); intro a9 h9 F9 N9 f9 k9; (try dsimp only))))) | (with_reducible (((with_reducible show wpAny _ _ (execs (Stmt.Assign _ _ _ :: _) _) _ _ _); refine wpAny_execs_cons ?_))) | (with_reducible (((with_reducible show TurnE _ _ _ _ _ _ _ _ _ _ _ _ _ _ _); dsimp only [TurnE]))) | (with_reducible ((k_here; (with_reducible show wpAny _ _ (call (Value.builtin "len") [Value.ref _]) _ _ _); refine len_tup_ints (IsTup.keeps (by assumption) (Fr.keep (by k_asm))) (by assumption) (by assumption) ?_))) | walk1); all_goals (try dsimp only)) | dsimp only))
  rename Fr _ _ _ _ => F6
  rename News _ _ _ _ => N6
  refine src_list rfl ⟨_, (N6 (tx, _) (by k_mem)).1, rfl, _, rfl⟩ ?_
  intro it s₂ hsrc
  refine ⟨_, _, _, fun i ys d => RdAll d ys ((ts.map (colD zs)).take i), _, hsrc, (by omega), F6.ns, (fun _ _ _ _ h k => RdAll.keeps k h), (fun _ => .nil), ?turn, ?done⟩
  case turn =>
    intro C K X' i v ys s₃ m₃ E' hC hX hi' hv hy hR hn3 hK3 hk3
    obtain ⟨l, t, hl, rfl⟩ := txt_at ht hv
    have F' : Fr H (compEnvC { kind := .function, names := [(Str.ofString ".0", .local), (Str.ofString "text", .cell), (Str.ofString "sizes", .free)], isGenerator := false, isCoroutine := false } [(Str.ofString "text", K), (Str.ofString "sizes", L + 1 + 1)] C (lawEnv L fa cd)).locals s₃.heap m₃ := ⟨hn3, fun b o e => hk3 b o (F6.keep b o e), Nat.le_trans (Nat.le_trans F6.above (Nat.le_of_lt F6.ns.lt)) hC⟩
    have N' : News H C s₃.heap [] := News.nil
    have G3 : Gd w.params s₃.heap := G.keeps F'.keep
    have hc2 := hk3 _ _ (N6 (L + 1 + 1, o2) (by k_mem)).1
    have hsz := hk3 _ _ (N6 (sz, _) (by k_mem)).1
    clear F6 N6
    obtain ⟨h3, g3, d3, k3, o3'⟩ := s₃
    refine' lcEval (cl := [(Str.ofString "text", K)]) ?clos ?cell ?kind ?names ?hx ?h ?hs
    case clos => with_unfolding_all rfl
    case cell => decide
    case kind => rfl
    case names => decide
    case hx => rfl
    case hs => intro _; with_unfolding_all rfl
    (repeat' (first | (k_unfold; (try dsimp only)) | ((fail_if_success (with_reducible show wpAny _ _ (pyIter _) _ _ _)); (fail_if_success (with_reducible show wpAny _ _ (call (Value.builtin "list.append") _) _ _ _)); (fail_if_success (with_reducible show wpAny _ _ (compareOp _ (Value.ref _) (Value.ref _)) _ _ _)); (fail_if_success (with_reducible show wpAny _ _ (eval (Expr.ListComp _ _ _ _) _) _ _ _)); (fail_if_success (with_reducible show wpAny _ _ (exec (Stmt.Assign _ (Expr.ListComp _ _ _ _) _) _) _ _ _)); (first | ((with_reducible show wpAny _ _ (eval (Expr.Name _ _) (compEnvC _ _ _ _)) _ _ _); k_dflt (first | (refine' nmL ?qk1Z ?qk2Z ?_ ?qk3Z ?qk4Z ?qk5Z; (case qk3Z => rfl); (case qk4Z => rfl); (case qk5Z => decide); (case qk1Z => k_asm); (case qk2Z => rfl); k_whole) | (refine' nmC ?qk1Z ?qk2Z ?qk6Z ?_ ?qk3Z ?qk4Z ?qk5Z; (case qk3Z => rfl); (case qk4Z => rfl); (case qk5Z => decide); (case qk6Z => rfl); (case qk1Z => assumption); (case qk2Z => assumption); k_whole) | (refine' nmG ?qk1Z ?qk2Z ?_ ?qk6Z ?qk3Z ?qk4Z ?qk5Z; (case qk3Z => rfl); (case qk4Z => rfl); (case qk5Z => decide); (case qk6Z => rfl); (case qk1Z => assumption); (case qk2Z => k_is); k_whole) | (refine' nmB ?qk1Z ?qk2Z ?qk7Z ?qk8Z ?_ ?qk6Z ?qk9Z ?qk3Z ?qk4Z ?qk5Z; (case qk3Z => rfl); (case qk4Z => rfl); (case qk5Z => decide); (case qk6Z => rfl); (case qk9Z => rfl); (case qk1Z => assumption); (case qk2Z => k_is); (case qk7Z => boot_fast); (case qk8Z => decide); k_whole))) | (with_reducible (((with_reducible show wpAny _ _ (newTuple _) _ _ _); (k_here; refine newTuple_L (by k_asm) (by k_asm) ?_ (Nat.le_of_ble_eq_true rfl); intro a9 h9 F9 N9 f9 k9; (try dsimp only))))) | (with_reducible (((with_reducible show wpAny _ _ (execs (Stmt.Assign _ _ _ :: _) _) _ _ _); refine wpAny_execs_cons ?_))) | (with_reducible (((with_reducible show TurnE _ _ _ _ _ _ _ _ _ _ _ _ _ _ _); dsimp only [TurnE]))) | (with_reducible ((k_here; (with_reducible show wpAny _ _ (call (Value.builtin "len") [Value.ref _]) _ _ _); refine len_tup_ints (IsTup.keeps (by assumption) (Fr.keep (by k_asm))) (by assumption) (by assumption) ?_))) | walk1); all_goals (try dsimp only)) | dsimp only))
    refine src_list rfl ⟨_, hsz, rfl, _, rfl⟩ ?_
    intro it2 s₄ hsrc2
    obtain ⟨oK, hoK, hdK⟩ := hK3
    refine ⟨_, _, _, fun i ys _ => IntsAre ys ((zs.map fun s => colOf s l 0).take i), hsrc2, (by omega), (fun _ _ _ _ h _ => h), (fun _ => .nil), LcTurn.plain ?turn2, ?done2⟩
    case turn2 =>
      intro C2 X2 j v2 ys2 s₅ m₅ E5 hX2 hj hv2 hy2 hR2 F5 N5
      obtain ⟨n, t', hn, rfl⟩ := ints_at hz hv2
      have hn1 := hz1 n (List.mem_of_getElem? hn)
      have G5 : Gd w.params s₅.heap := G3.keeps F5.keep
      have hc5 := F5.keep _ _ hoK
      clear F' N' hc2 hsz
      (repeat' (first | (k_unfold; (try dsimp only)) | ((fail_if_success (with_reducible show wpAny _ _ (pyIter _) _ _ _)); (fail_if_success (with_reducible show wpAny _ _ (call (Value.builtin "list.append") _) _ _ _)); (fail_if_success (with_reducible show wpAny _ _ (compareOp _ (Value.ref _) (Value.ref _)) _ _ _)); (fail_if_success (with_reducible show wpAny _ _ (eval (Expr.ListComp _ _ _ _) _) _ _ _)); (fail_if_success (with_reducible show wpAny _ _ (exec (Stmt.Assign _ (Expr.ListComp _ _ _ _) _) _) _ _ _)); (first | ((with_reducible show wpAny _ _ (eval (Expr.Name _ _) (compEnvC _ _ _ _)) _ _ _); k_dflt (first | (refine' nmL ?qk1Z ?qk2Z ?_ ?qk3Z ?qk4Z ?qk5Z; (case qk3Z => rfl); (case qk4Z => rfl); (case qk5Z => decide); (case qk1Z => k_asm); (case qk2Z => rfl); k_whole) | (refine' nmC ?qk1Z ?qk2Z ?qk6Z ?_ ?qk3Z ?qk4Z ?qk5Z; (case qk3Z => rfl); (case qk4Z => rfl); (case qk5Z => decide); (case qk6Z => rfl); (case qk1Z => assumption); (case qk2Z => assumption); k_whole) | (refine' nmG ?qk1Z ?qk2Z ?_ ?qk6Z ?qk3Z ?qk4Z ?qk5Z; (case qk3Z => rfl); (case qk4Z => rfl); (case qk5Z => decide); (case qk6Z => rfl); (case qk1Z => assumption); (case qk2Z => k_is); k_whole) | (refine' nmB ?qk1Z ?qk2Z ?qk7Z ?qk8Z ?_ ?qk6Z ?qk9Z ?qk3Z ?qk4Z ?qk5Z; (case qk3Z => rfl); (case qk4Z => rfl); (case qk5Z => decide); (case qk6Z => rfl); (case qk9Z => rfl); (case qk1Z => assumption); (case qk2Z => k_is); (case qk7Z => boot_fast); (case qk8Z => decide); k_whole))) | (with_reducible (((with_reducible show wpAny _ _ (newTuple _) _ _ _); (k_here; refine newTuple_L (by k_asm) (by k_asm) ?_ (Nat.le_of_ble_eq_true rfl); intro a9 h9 F9 N9 f9 k9; (try dsimp only))))) | (with_reducible (((with_reducible show wpAny _ _ (execs (Stmt.Assign _ _ _ :: _) _) _ _ _); refine wpAny_execs_cons ?_))) | (with_reducible (((with_reducible show TurnE _ _ _ _ _ _ _ _ _ _ _ _ _ _ _); dsimp only [TurnE]))) | (with_reducible ((k_here; (with_reducible show wpAny _ _ (call (Value.builtin "len") [Value.ref _]) _ _ _); refine len_tup_ints (IsTup.keeps (by assumption) (Fr.keep (by k_asm))) (by assumption) (by assumption) ?_))) | walk1); all_goals (try dsimp only)) | dsimp only))
      · exact G5.k
      · refine wk (column_spec G5 hn1 ?_) rfl (Nat.le_of_ble_eq_true rfl) (Nat.le_of_ble_eq_true rfl)
        intro t6 s6 k6
        refine ⟨k6, ?_⟩
        rw [take_snoc (a := colOf n l 0) (by rw [List.getElem?_map, hn]; rfl), T_cps]
        exact ints_snoc hR2
    case done2 =>
      intro D2 h7 tk7 ys7 hD7 hl7 hR7 k7
      obtain ⟨n7, hl7⟩ := hl7
      rw [List.take_of_length_le (by rw [List.length_map]; omega)] at hR7
      refine ⟨⟨_, _, rfl, k7⟩, ?_⟩
      rw [take_snoc (a := colD zs l) (by rw [List.getElem?_map, hl]; rfl)]
      refine RdAll.snoc (.list ⟨_, nw_new hX hk3 _ _ (nw_get.mpr ⟨hl7, List.not_mem_nil, hD7⟩), rfl, _, rfl⟩ (RdAll.ofInts hR7)) (hR.keeps (nw_keep fun b o _ e => k7 b o e))
  case done =>
    intro D h3 tk3 ys hD hl3 hR3 ns3 k3
    obtain ⟨nn, hl3⟩ := hl3
    obtain ⟨F3, N3⟩ := after_assign F6 N6 ns3 k3
    have N3 := add_news F6 N3 hD hl3
    rw [List.take_of_length_le (by rw [List.length_map]; omega)] at hR3
    have hR4 := hR3.keeps (dp_new F6 N6)
    dsimp only
    exact next h3 tk3 D ys nn _ (kst_fr _ F3 (List.forall_mem_cons.mpr ⟨rfl, List.forall_mem_cons.mpr ⟨rfl, List.forall_mem_cons.mpr ⟨rfl, List.forall_mem_nil _⟩⟩⟩))
      (News.pick N3 (by k_mem) (News.pick N3 (by k_mem) (News.pick N3 (by k_mem) (News.pick N3 (by k_mem) (News.pick N3 (by k_mem) (News.pick N3 (by k_mem) (News.pick N3 (by k_mem) (News.pick N3 (by k_mem) News.nil)))))))) hR4 (dp_keep k3)
end
end
section
section
variable {prog : Program} {w : World} {A : Around} {s : Shared} {env : Env} {h₀ : Heap} {x : Str} {px : Pos} {body : List Stmt} {Q : Flow → Shared → Prop}
/- what a turn must leave behind, the generators changed -/
inductive TurnG {σ : Type} (h₀ : Heap) (L : Addr) (Led : σ → List (Addr × Obj)) (ks : List (Str × Value)) (P : σ → Heap → Prop) (s : Shared) (fp adr : List Addr) (rest : List (Addr × Obj)) (s₂ : Shared) : Prop
  | mk (c' : σ) (h' : Heap) (g' : Array GenState) (tk' : Nat) (m' : Str → Option Value) (nws : List (Addr × Obj)) : s₂ = { s with heap := h', gens := g', toks := tk' } → AllBare g' → Fr h₀ L h' m' → News h₀ L h' nws → (∀ p ∈ Led c', p ∈ nws) → (∀ p ∈ rest, p ∈ nws) → (∀ p ∈ Led c', p.1 ∈ adr) →
    (∀ p ∈ ks, m' p.1 = some p.2) → P c' (nw h₀ (L :: (fp ++ (Led c').map (·.1))) h') → TurnG h₀ L Led ks P s fp adr rest s₂
noncomputable def TurnEG {σ : Type} (h₀ : Heap) (L : Addr) (Led : σ → List (Addr × Obj)) (ks : List (Str × Value)) (P : σ → Heap → Prop) (s : Shared) (Q : Flow → Shared → Prop) (fp adr : List Addr) (rest : List (Addr × Obj)) (f : Flow) (s₂ : Shared) : Prop :=
  match f with
  | .ret v => Q (.ret v) s₂
  | .brk => Q .next s₂
  | _ => TurnG h₀ L Led ks P s fp adr rest s₂
theorem TurnEG.shift {σ : Type} {h₀ : Heap} {L : Addr} {Led : σ → List (Addr × Obj)} {ks : List (Str × Value)} {P : σ → Heap → Prop} {s : Shared} {Q : Flow → Shared → Prop} {fp adr : List Addr} {rest : List (Addr × Obj)} {f : Flow} {s₂ : Shared} {H : Heap}
    (q : TurnEG h₀ L Led ks P s Q fp adr rest f s₂) : TurnEG h₀ L Led ks P { s with heap := H } Q fp adr rest f s₂ := by
  have go : TurnG h₀ L Led ks P s fp adr rest s₂ → TurnG h₀ L Led ks P { s with heap := H } fp adr rest s₂ := fun ⟨c, h, g, t, m, n, e, a0, a1, a2, a3, a4, a5, a6, a8⟩ => ⟨c, h, g, t, m, n, e, a0, a1, a2, a3, a4, a5, a6, a8⟩
  cases f with
  | ret v => exact q
  | brk => exact q
  | cont => exact go q
  | next => exact go q
inductive ForJ {σ : Type} (h₀ : Heap) (L I : Addr) (n : Nat) (St : Nat → Heap → Prop) (Led : σ → List (Addr × Obj)) (ks : List (Str × Value)) (P : σ → Heap → Prop) (s : Shared) (k : Nat) (s' : Shared) : Prop
  | mk (h' : Heap) (g' : Array GenState) (tk : Nat) (m' : Str → Option Value) (c : σ) (i : Nat) : s' = { s with heap := h', gens := g', toks := tk } → AllBare g' → St i h' → Fr h₀ L h' m' → News h₀ L h' (Led c) → (∀ p ∈ Led c, p.1 ≠ I) → (∀ p ∈ ks, m' p.1 = some p.2) →
    P c (nw h₀ (L :: ([I] ++ (Led c).map (·.1))) h') → i ≤ n → k = n + 1 - i → ForJ h₀ L I n St Led ks P s k s'
set_option maxHeartbeats 1000000 in
theorem forG {σ : Type} {I : Addr} {n : Nat} {Pi : Nat → Value → Prop} {St : Nat → Heap → Prop} {m₀ : Str → Option Value}
    (Led : σ → List (Addr × Obj)) (ks : List (Str × Value)) (P : σ → Heap → Prop) (c₀ : σ) (hks : ∀ p ∈ ks, m₀ p.1 = some p.2)
    (W : Walks prog w A I [I] [I] n Pi St) (hal : ∀ i h, St i h → ∃ o, h.get? I = some o) (hx : env.kindOf x = some .local)
    (hpk : (env.scope.kind == .class || (env.scope.kind == .module && env.locals != env.globals)) = false) (hLI : env.locals ≠ I) (hI0 : h₀.get? I = none)
    (hmf : ∀ p ∈ Led c₀, p.1 ≠ I) (hb : AllBare s.gens) (hst : St 0 s.heap) (F : Fr h₀ env.locals s.heap m₀) (N : News h₀ env.locals s.heap (Led c₀))
    (mono : ∀ c d d', P c d → Sub d d' → P c d')
    (h0 : P c₀ (nw h₀ (env.locals :: ([I] ++ (Led c₀).map (·.1))) s.heap))
    (turn : ∀ (c : σ) i v (u : Str → Option Value) h g tk rest, i < n → Pi i v → AllBare g → OwnOff rest ((Led c).map (·.1)) → P c (nw h₀ (env.locals :: ([I] ++ (Led c).map (·.1))) h) →
      (∀ b o, (nw h₀ (env.locals :: (Led c).map (·.1)) h).get? b = some o → (b, o) ∈ rest) → (∃ o, (I, o) ∈ rest) →
      (∀ p ∈ ks, u p.1 = some p.2) → Fr h₀ env.locals h (fun y => if y = x then some v else u y) → News h₀ env.locals h (Led c ++ rest) →
      wpAny (model prog w) A (execs body env) (TurnEG h₀ env.locals Led ks P s Q [I] ((Led c).map (·.1)) rest) (fun _ _ => False) { s with heap := h, gens := g, toks := tk })
    (done : ∀ (c : σ) (u : Str → Option Value) h g tk, AllBare g → P c (nw h₀ (env.locals :: ([I] ++ (Led c).map (·.1))) h) → (∀ p ∈ ks, u p.1 = some p.2) → Fr h₀ env.locals h u → News h₀ env.locals h (Led c) →
      Q .next { s with heap := h, gens := g, toks := tk }) : ForAt prog w A env x px body Q (.ref I) s := by
  have old : ∀ b o, h₀.get? b = some o → b ∉ [I] := fun b o e hb => by rw [List.mem_singleton.mp hb, hI0] at e; cases e
  unfold ForAt
  refine codeAny_forLoop
    (ForJ h₀ env.locals I n St Led ks P s) ?_ (n + 1)
    ⟨s.heap, s.gens, s.toks, m₀, c₀, 0, rfl, hb, hst, F, N, hmf, hks, h0, Nat.zero_le _, rfl⟩
  rintro k s' ⟨h', g', tk, m', c, i, rfl, hg', hst', F', N', hnw', hr', hP, hi, rfl⟩
  have next : ∀ h₁ : Heap, (∀ b o, b ∉ [I] → h'.get? b = some o → h₁.get? b = some o) → Fr h₀ env.locals h₁ m' ∧ News h₀ env.locals h₁ (Led c) := fun h₁ hk₁ =>
    ⟨⟨F'.ns.at' fun o e => hk₁ _ o (fun q => hLI (List.mem_singleton.mp q)) e, fun b o e => hk₁ b o (old b o e) (F'.keep b o e), F'.above⟩, fun p hp => ⟨hk₁ _ _ (fun q => hnw' p hp (List.mem_singleton.mp q)) (N' p hp).1, (N' p hp).2⟩⟩
  have mono₁ : ∀ h₁ : Heap, (∀ b o, b ∉ [I] → h'.get? b = some o → h₁.get? b = some o) → P c (nw h₀ (env.locals :: ([I] ++ (Led c).map (·.1))) h₁) := fun h₁ hk₁ =>
    mono _ _ _ hP fun b o e => nw_get.mpr ⟨hk₁ b o (fun q => (nw_get.mp e).2.1 (List.mem_cons_of_mem _ (List.mem_append_left _ q))) (nw_get.mp e).1, (nw_get.mp e).2⟩
  by_cases hlt : i < n
  · refine W.item i _ _ _ hlt hst' fun v h₁ tk₁ hPi hst₁ hk₁ => ?_
    obtain ⟨F₁, N₁⟩ := next h₁ hk₁
    refine wpAny_assign_Name (wpAny_storeName_local hx F₁.ns (fun h₂ hn₂ hs₂ => ?_) hpk)
    have F₂ := F₁.set hn₂ hs₂
    have N₂ := N₁.set hs₂
    have hst₂ : St (i + 1) h₂ := W.frame _ _ _ hst₁ fun b hb o e => (hs₂.2 b fun q => hLI (q ▸ List.mem_singleton.mp hb)).trans e
    have P₂ : P c (nw h₀ (env.locals :: ([I] ++ (Led c).map (·.1))) h₂) := mono _ _ _ (mono₁ h₁ hk₁) fun b o e => nw_get.mpr ⟨(hs₂.2 b fun q => (nw_get.mp e).2.1 (q ▸ List.mem_cons_self)).trans (nw_get.mp e).1, (nw_get.mp e).2⟩
    have NO : News h₀ env.locals h₂ (Led c ++ others h₀ h₂ (env.locals :: (Led c).map (·.1))) := fun p hp => by
      rcases List.mem_append.mp hp with q | q
      · exact N₂ p q
      · have e := nw_get.mp (mem_others.mp q)
        exact ⟨e.1, fun z => e.2.1 (z ▸ List.mem_cons_self), e.2.2⟩
    have off : OwnOff (others h₀ h₂ (env.locals :: (Led c).map (·.1))) ((Led c).map (·.1)) := fun p hp b hb e => (nw_get.mp (mem_others.mp hp)).2.1 (List.mem_cons_of_mem _ (e ▸ hb))
    have inr : ∃ o, (I, o) ∈ others h₀ h₂ (env.locals :: (Led c).map (·.1)) := by
      obtain ⟨o, ho⟩ := hal _ _ hst₂
      refine ⟨o, mem_others.mpr (nw_get.mpr ⟨ho, fun hm => ?_, hI0⟩)⟩
      rcases List.mem_cons.mp hm with q | q
      · exact hLI q.symm
      · obtain ⟨p, hp, q⟩ := List.mem_map.mp q
        exact hnw' p hp q
    have T1 := turn c i v m' h₂ g' (tk₁ + 1) (others h₀ h₂ (env.locals :: (Led c).map (·.1))) hlt hPi hg' off P₂ (fun b o e => mem_others.mpr e) inr hr' F₂
    have T := T1 NO
    refine wpAny_mono T (fun f s₃ h₃ => ?_) fun _ _ e => e.elim
    have fin : TurnG h₀ env.locals Led ks P s [I] ((Led c).map (·.1)) (others h₀ h₂ (env.locals :: (Led c).map (·.1))) s₃ → ∃ m, m < n + 1 - i ∧ ForJ h₀ env.locals I n St Led ks P s m s₃ := by
      rintro ⟨c', h₃', g₃, tk₃, m₃, nws, rfl, hg₃, F₃, N₃, i1, i2, i3, i5, i6⟩
      refine ⟨n + 1 - (i + 1), by omega, h₃', g₃, tk₃, m₃, c', i + 1, rfl, hg₃, ?_, F₃, fun p hp => N₃ p (i1 p hp), ?_, i5, i6, hlt, rfl⟩
      · refine W.frame _ _ _ hst₂ fun b hb o e => ?_
        obtain ⟨o', ho'⟩ := inr
        have e2 := (nw_get.mp (mem_others.mp ho')).1
        rw [List.mem_singleton.mp hb] at e ⊢
        rw [e2] at e; cases e
        exact (N₃ (I, o) (i2 _ ho')).1
      · intro p hp hb
        obtain ⟨p', hp', e⟩ := List.mem_map.mp (i3 p hp)
        exact hnw' p' hp' (e.trans hb)
    cases f with
    | ret v => exact h₃
    | brk => exact h₃
    | cont => exact fin h₃
    | next => exact fin h₃
  · have hin : i = n := by omega
    subst hin
    refine W.done _ _ _ hst' fun h₁ tk₁ hk₁ => wpAny_execs_nil ?_
    obtain ⟨F₁, N₁⟩ := next h₁ hk₁
    exact done c m' h₁ g' tk₁ hg' (mono₁ h₁ hk₁) hr' F₁ N₁
/- a for over a range by ones, the generators changed -/
theorem forRangeG {σ : Type} {r : Addr} {a₀ b₀ : Int} {t₀ u₀ v₀ : Tok} {m₀ : Str → Option Value} (Led : σ → List (Addr × Obj)) (ks : List (Str × Value)) (P : σ → Heap → Prop) (c₀ : σ) (hks : ∀ p ∈ ks, m₀ p.1 = some p.2)
    (hh : A.handled = none) (hr : IsRange s.heap r a₀ b₀ 1 t₀ u₀ v₀) (hsm : Builtin.Range.small a₀ b₀ 1 = true) (hx : env.kindOf x = some .local)
    (hpk : (env.scope.kind == .class || (env.scope.kind == .module && env.locals != env.globals)) = false) (hb : AllBare s.gens)
    (F : Fr h₀ env.locals s.heap m₀) (N : News h₀ env.locals s.heap (Led c₀))
    (mono : ∀ c d d', P c d → Sub d d' → P c d')
    (h0 : P c₀ (nw h₀ (env.locals :: (Led c₀).map (·.1)) s.heap))
    (turn : ∀ (c : σ) (i : Nat) I t (u : Str → Option Value) h g tk rest, (i : Int) < b₀ - a₀ → AllBare g → OwnOff rest ((Led c).map (·.1)) → P c (nw h₀ (env.locals :: ([I] ++ (Led c).map (·.1))) h) →
      (∀ b o, (nw h₀ (env.locals :: (Led c).map (·.1)) h).get? b = some o → (b, o) ∈ rest) → (∃ o, (I, o) ∈ rest) →
      (∀ p ∈ ks, u p.1 = some p.2) → Fr h₀ env.locals h (fun y => if y = x then some (.int (a₀ + i) t) else u y) → News h₀ env.locals h (Led c ++ rest) →
      wpAny (model prog w) A (execs body env) (TurnEG h₀ env.locals Led ks P s Q [I] ((Led c).map (·.1)) rest) (fun _ _ => False) { s with heap := h, gens := g, toks := tk })
    (done : ∀ (c : σ) (u : Str → Option Value) I h g tk, AllBare g → P c (nw h₀ (env.locals :: ([I] ++ (Led c).map (·.1))) h) → (∀ p ∈ ks, u p.1 = some p.2) → Fr h₀ env.locals h u → News h₀ env.locals h (Led c) →
      Q .next { s with heap := h, gens := g, toks := tk }) :
    wpAny (model prog w) A (pyIter (.ref r)) (fun it s₂ => ForAt prog w A env x px body Q it s₂) (fun _ _ => False) s := by
  have hn : Builtin.Range.rangeSize a₀ b₀ 1 = (((b₀ - a₀).toNat : Nat) : Int) := rangeSize_nat _ _
  refine wpAny_pyIter_range hr hsm (forG Led ks P c₀ hks (Walks.range hh _ a₀ 1 (b₀ - a₀).toNat) (fun i h q => ⟨_, q⟩) hx hpk (Nat.ne_of_lt F.ns.lt) (next_is_new F) (fun p hp => Nat.ne_of_lt (Heap.lt_size (N p hp).1)) hb ?_ (F.push _) (fun p hp => ⟨Heap.get?_push_of_some _ (N p hp).1, (N p hp).2⟩) mono ?_ ?_ (fun c u h g tk => done c u _ h g tk))
  · show IsRangeIter _ _ _ _ _; rw [hn]; simpa using Heap.get?_push_size _ rfl
  · refine mono _ _ _ h0 fun b o e => ?_
    obtain ⟨e1, e2, e3⟩ := nw_get.mp e
    refine nw_get.mpr ⟨Heap.get?_push_of_some _ e1, fun hm => ?_, e3⟩
    rcases List.mem_cons.mp hm with q | q
    · exact e2 (q ▸ List.mem_cons_self)
    · rcases List.mem_append.mp q with q | q
      · exact absurd (Heap.lt_size e1) ((List.mem_singleton.mp q) ▸ Nat.lt_irrefl _)
      · exact e2 (List.mem_cons_of_mem _ q)
  · intro c i v u h g tk rest hi hv hg ho hP hall hI hu F' N'
    obtain ⟨t, rfl⟩ := hv
    rw [Int.mul_one] at F'
    exact wpAny_mono (turn c i _ t u h g tk rest (by omega) hg ho hP hall hI hu F' N') (fun _ _ q => q.shift) fun _ _ e => e
end
theorem ne_add {B i j : Nat} (h : i ≠ j) : B + i ≠ B + j := fun e => h (Nat.add_left_cancel e)
theorem lt_ne {l B : Nat} (k : Nat) (h : l < B) : l ≠ B + k := Nat.ne_of_lt (Nat.lt_of_lt_of_le h (Nat.le_add_right _ _))
theorem off5 {c B : Nat} (i : Nat) (hi : i ≤ 5) (hc : c < B ∨ B + 5 < c) : c ≠ B + i := fun e => by subst e; omega
theorem above6 {a B : Nat} (i : Nat) (hi : i ≤ 6) (h : B + 6 < a) : a ≠ B + i := fun e => by subst e; omega
section
theorem typeCall_zip_3 (a b c : Value) : checkTypeCall "zip" ⟨[a, b, c], []⟩ = pure () := by kernel_rfl
theorem newCall_zip_3 (a b c : Value) : checkBuiltinCall "zip.__new__" ⟨[.type "zip", a, b, c], []⟩ = pure () := by kernel_rfl
theorem args_object_init_4 (a b c d : Value) : argsOk "object.__init__" ⟨[a, b, c, d], []⟩ := by
  unfold argsOk; rw [signature?_of (id := "object.__init__") (n := ['_', '_', 't', 'i', 'n', 'i', '_', '_']) (o := ['t', 'c', 'e', 'j', 'b', 'o']) (by kernel_rfl) PySem.F.owner_object]; kernel_rfl
theorem zip_no_len : typeLookup (.type "zip") "__len__" = pure none := by rw [typeLookup_type, builtinLookup_eq_fast]; kernel_rfl
theorem zip_no_hint : typeLookup (.type "zip") "__length_hint__" = pure none := by rw [typeLookup_type, builtinLookup_eq_fast]; kernel_rfl
noncomputable abbrev IsZip3 (h : Heap) (z TI TO : Addr) (f0 : Value) (f : Bool) : Prop :=
  h.get? z = some { cls := .type "zip", dict := none, data := .fields #[f0, .bool f, .bool false, .ref TI, .ref TO], slots := #[] }
noncomputable abbrev IsTri (h : Heap) (T : Addr) (a b c : Value) : Prop := h.get? T = some { cls := .type "tuple", data := .seq #[a, b, c] }
noncomputable abbrev z3H1 (h : Heap) (l : Addr) : Heap := h.push { cls := .type "list_iterator", data := .fields #[.ref l, .int 0 0] }
noncomputable abbrev z3H3 (h : Heap) (l1 l2 l3 : Addr) : Heap := z3H1 (z3H1 (z3H1 h l1) l2) l3
noncomputable abbrev z3H4 (h : Heap) (l1 l2 l3 : Addr) : Heap := (z3H3 h l1 l2 l3).push { cls := .type "tuple", data := .seq #[.ref h.objs.size, .ref (z3H1 h l1).objs.size, .ref (z3H1 (z3H1 h l1) l2).objs.size] }
noncomputable abbrev z3H5 (h : Heap) (l1 l2 l3 : Addr) : Heap := (z3H4 h l1 l2 l3).push { cls := .type "tuple", data := .seq #[.none, .none, .none] }
noncomputable abbrev z3H6 (h : Heap) (l1 l2 l3 : Addr) : Heap := (z3H5 h l1 l2 l3).push { cls := .type "zip", data := .fields #[.none, .bool false, .bool false, .ref (z3H3 h l1 l2 l3).objs.size, .ref (z3H4 h l1 l2 l3).objs.size] }
set_option maxHeartbeats 4000000 in
theorem meets_zip_new3 (l1 l2 l3 : Addr) (xs ys zs : Array Value) :
    Meets (Builtin.«zip.__new__» ⟨[.type "zip", .ref l1, .ref l2, .ref l3], []⟩) (fun _ R s => s.heap.IsList l1 xs ∧ s.heap.IsList l2 ys ∧ s.heap.IsList l3 zs ∧
      R (.ok (.ret (.ref (z3H5 s.heap l1 l2 l3).objs.size))) { s with heap := z3H6 s.heap l1 l2 l3 }) :=
  .of_wp fun prog w A R s h => by
    obtain ⟨hp, g, d, tk, os⟩ := s; obtain ⟨hl1, hl2, hl3, h⟩ := h
    have hsub := sub_zip
    have hL1 : Heap.IsList (Shared.heap ⟨hp, g, d, tk, os⟩) l1 xs := hl1
    have hL2 : Heap.IsList (Shared.heap ⟨z3H1 hp l1, g, d, tk, os⟩) l2 ys := Heap.IsList.push hl2 _
    have hL3 : Heap.IsList (Shared.heap ⟨z3H1 (z3H1 hp l1) l2, g, d, tk, os⟩) l3 zs := Heap.IsList.push (Heap.IsList.push hl3 _) _
    wp_walk using wpAny_pyIter_list hL1, wpAny_pyIter_list hL2, wpAny_pyIter_list hL3
    exact ⟨_, rfl, h⟩
end
section
variable {prog : Program} {w : World} {A : Around} {E : Value → Shared → Prop} {s : Shared}
theorem call_zip_3 {l1 l2 l3 : Addr} {xs ys zs : Array Value} {Q : Value → Shared → Prop} (hl1 : s.heap.IsList l1 xs) (hl2 : s.heap.IsList l2 ys) (hl3 : s.heap.IsList l3 zs)
    (h : ∀ h', IsZip3 h' (s.heap.objs.size + 5) (s.heap.objs.size + 3) (s.heap.objs.size + 4) .none false → IsTri h' (s.heap.objs.size + 3) (.ref s.heap.objs.size) (.ref (s.heap.objs.size + 1)) (.ref (s.heap.objs.size + 2)) →
      IsTri h' (s.heap.objs.size + 4) .none .none .none → h'.IsListIter s.heap.objs.size l1 0 → h'.IsListIter (s.heap.objs.size + 1) l2 0 → h'.IsListIter (s.heap.objs.size + 2) l3 0 → h'.objs.size = s.heap.objs.size + 6 →
      Sub s.heap h' → Q (.ref (s.heap.objs.size + 5)) { s with heap := h' }) :
    wpAny (model prog w) A (call (.type "zip") [.ref l1, .ref l2, .ref l3]) Q E s := by
  refine callType_new PySem.F.called_zip (by decide) (typeCall_zip_3 _ _ _) (newCall_zip_3 _ _ _) (fun obj => args_object_init_4 obj _ _ _) PySem.F.entry_zip_new
    (meets_zip_new3 l1 l2 l3 xs ys zs) ⟨hl1, hl2, hl3, ?_⟩
  have z1 : (z3H1 s.heap l1).objs.size = s.heap.objs.size + 1 := Heap.size_push ..
  have z2 : (z3H1 (z3H1 s.heap l1) l2).objs.size = s.heap.objs.size + 2 := by rw [Heap.size_push, z1]
  have z3 : (z3H3 s.heap l1 l2 l3).objs.size = s.heap.objs.size + 3 := by rw [Heap.size_push, z2]
  have z4 : (z3H4 s.heap l1 l2 l3).objs.size = s.heap.objs.size + 4 := by rw [Heap.size_push, z3]
  have z5 : (z3H5 s.heap l1 l2 l3).objs.size = s.heap.objs.size + 5 := by rw [Heap.size_push, z4]
  have z6 : (z3H6 s.heap l1 l2 l3).objs.size = s.heap.objs.size + 6 := by rw [Heap.size_push, z5]
  have g6 : (z3H6 s.heap l1 l2 l3).get? (z3H5 s.heap l1 l2 l3).objs.size = some _ := Heap.get?_push_size _ rfl
  have g5 : (z3H6 s.heap l1 l2 l3).get? (z3H4 s.heap l1 l2 l3).objs.size = some _ := Heap.get?_push_of_some _ (Heap.get?_push_size _ rfl)
  have g4 : (z3H6 s.heap l1 l2 l3).get? (z3H3 s.heap l1 l2 l3).objs.size = some _ := Heap.get?_push_of_some _ (Heap.get?_push_of_some _ (Heap.get?_push_size _ rfl))
  have g3 : (z3H6 s.heap l1 l2 l3).get? (z3H1 (z3H1 s.heap l1) l2).objs.size = some _ := Heap.get?_push_of_some _ (Heap.get?_push_of_some _ (Heap.get?_push_of_some _ (Heap.get?_push_size _ rfl)))
  have g2 : (z3H6 s.heap l1 l2 l3).get? (z3H1 s.heap l1).objs.size = some _ := Heap.get?_push_of_some _ (Heap.get?_push_of_some _ (Heap.get?_push_of_some _ (Heap.get?_push_of_some _ (Heap.get?_push_size _ rfl))))
  have g1 : (z3H6 s.heap l1 l2 l3).get? s.heap.objs.size = some _ := Heap.get?_push_of_some _ (Heap.get?_push_of_some _ (Heap.get?_push_of_some _ (Heap.get?_push_of_some _ (Heap.get?_push_of_some _ (Heap.get?_push_size _ rfl)))))
  show _ ∧ _
  rw [z3, z4, z5] at g6
  rw [z1, z2, z3] at g4
  rw [z4] at g5
  rw [z2] at g3
  rw [z1] at g2
  rw [z5]
  exact ⟨⟨_, g6, rfl⟩, h _ g6 g4 g5 ⟨_, g1, rfl, rfl⟩ ⟨_, g2, rfl, rfl⟩ ⟨_, g3, rfl, rfl⟩ z6 fun c o x =>
    Heap.get?_push_of_some _ (Heap.get?_push_of_some _ (Heap.get?_push_of_some _ (Heap.get?_push_of_some _ (Heap.get?_push_of_some _ (Heap.get?_push_of_some _ x)))))⟩
/- a zip over three lists, its first item handed out -/
theorem zip3_out {B l1 l2 l3 T : Nat} {oT : Obj} {f : Bool} {k : Nat} {xs ys zs : Array Value} {x y v : Value} {Q : Option Value → Shared → Prop} (b1 : l1 < B) (b2 : l2 < B) (b3 : l3 < B) (bT : B + 5 < T)
    (hz : IsZip3 s.heap (B + 5) (B + 3) (B + 4) (rawInt T) f) (hT : s.heap.get? T = some oT) (hTI : IsTri s.heap (B + 3) (.ref B) (.ref (B + 1)) (.ref (B + 2)))
    (h1 : s.heap.IsListIter B l1 k) (h2 : s.heap.IsListIter (B + 1) l2 k) (h3 : s.heap.IsListIter (B + 2) l3 k) (hl1 : s.heap.IsList l1 xs) (hl2 : s.heap.IsList l2 ys) (hl3 : s.heap.IsList l3 zs) (hx : xs[k]? = some x) (hy : ys[k]? = some y) (hv : zs[k]? = some v)
    (hQ : ∀ h', IsZip3 h' (B + 5) (B + 3) (B + 4) (rawInt T) true → h'.IsListIter B l1 (k + 1) → h'.IsListIter (B + 1) l2 (k + 1) → h'.IsListIter (B + 2) l3 (k + 1) → IsTri h' s.heap.objs.size x y v → h'.objs.size = s.heap.objs.size + 1 →
      (∀ c o, c ≠ B → c ≠ B + 1 → c ≠ B + 2 → c ≠ B + 5 → s.heap.get? c = some o → h'.get? c = some o) → Q (some (.ref s.heap.objs.size)) { s with heap := h' }) :
    wpAny (model prog w) A (pyNext (.ref (B + 5))) Q E s := by
  have hTy : s.TypeIs (.ref (B + 5)) "zip" := ⟨_, hz, rfl⟩
  unfold pyNext
  refine wpAny_bind (wpAny_attempt (wpAny_callSpecial?_slot (name := Str.ofString "__next__") hTy PySem.F.slot_zip_next
    (wpAny_call_entry PySem.F.slot_zip_next hTy PySem.F.entry_zip_next ?_ (PySem.F.args_zip_next_1 _))))
  show wpAny _ _ (field (.ref (B + 5)) 2 >>= _) _ _ _
  refine wpAny_bind (wpAny_field hz rfl (x := .bool false) rfl ?_)
  show wpAny _ _ (field (.ref (B + 5)) 3 >>= _) _ _ _
  refine wpAny_bind (wpAny_field hz rfl (x := .ref (B + 3)) rfl ?_)
  refine wpAny_bind (wpAny_seqItems hTI rfl ?_)
  show wpAny _ _ (Builtin.SmallTypes.ownedTupleIsFree (.ref (B + 5)) >>= _) _ _ _
  have n1 : (B : Nat) ≠ B + 5 := ne_add (B := B) (i := 0) (j := 5) (by decide)
  have n2 : (B + 1 : Nat) ≠ B + 5 := ne_add (B := B) (i := 1) (j := 5) (by decide)
  have n3 : (B + 2 : Nat) ≠ B + 5 := ne_add (B := B) (i := 2) (j := 5) (by decide)
  have n4 : l1 ≠ B + 5 := lt_ne 5 b1
  have n5 : l2 ≠ B + 5 := lt_ne 5 b2
  have n6 : l3 ≠ B + 5 := lt_ne 5 b3
  have m1 : (B + 1 : Nat) ≠ B := ne_add (B := B) (i := 1) (j := 0) (by decide)
  have m2 : (B + 2 : Nat) ≠ B := ne_add (B := B) (i := 2) (j := 0) (by decide)
  have m3 : (B + 2 : Nat) ≠ B + 1 := ne_add (B := B) (i := 2) (j := 1) (by decide)
  have m4 : l3 ≠ B + 1 := lt_ne 1 b3
  refine wpAny_bind ?_
  unfold Builtin.SmallTypes.ownedTupleIsFree
  refine wpAny_bind (wpAny_field hz rfl (x := rawInt T) rfl ?_)
  show wpAny _ _ (loadIfAlive ((T : Int).toNat) >>= _) _ _ _
  rw [Int.toNat_natCast]
  refine wpAny_bind (kdx_alive hT ?_)
  simp only [Option.isNone_some, Bool.false_eq_true, if_false]
  refine wpAny_bind (wpAny_field hz rfl (x := .bool f) rfl ?_)
  cases f with
  | true =>
    rw [if_neg (show ¬ ((Value.bool true != Value.bool true) = true) from Bool.false_ne_true)]
    refine wpAny_pure ?_
    simp only [Bool.false_eq_true, if_false]
    have hz₁ : IsZip3 s.heap (B + 5) (B + 3) (B + 4) (rawInt T) true := hz
    have hs₁ : Heap.SameBut (B + 5) s.heap s.heap := Heap.SameBut.refl _ _
    refine wpAny_bind ?_
    rw [← Array.forIn_toList]
    simp only [List.forIn_cons, List.forIn_nil]
    refine wpAny_bind (wpAny_bind (wpAny_holding ?_))
    show wpAny _ _ (Builtin.SmallTypes.nextOf (.ref B) >>= _) _ _ _
    refine wpAny_bind (wpAny_nextOf_list_item (h1.extBut hs₁.extBut n1) (hl1.extBut hs₁.extBut n4) hx fun h₂ h1₂ hs₂ => wpAny_pure (wpAny_pure ?_))
    refine wpAny_bind (wpAny_bind (wpAny_holding ?_))
    show wpAny _ _ (Builtin.SmallTypes.nextOf (.ref (B + 1)) >>= _) _ _ _
    refine wpAny_bind (wpAny_nextOf_list_item ((h2.extBut hs₁.extBut n2).extBut hs₂.extBut m1) ((hl2.extBut hs₁.extBut n5).extBut hs₂.extBut (Nat.ne_of_lt b2)) hy fun h₃ h2₃ hs₃ => wpAny_pure (wpAny_pure ?_))
    refine wpAny_bind (wpAny_bind (wpAny_holding ?_))
    show wpAny _ _ (Builtin.SmallTypes.nextOf (.ref (B + 2)) >>= _) _ _ _
    refine wpAny_bind (wpAny_nextOf_list_item (((h3.extBut hs₁.extBut n3).extBut hs₂.extBut m2).extBut hs₃.extBut m3) (((hl3.extBut hs₁.extBut n6).extBut hs₂.extBut (Nat.ne_of_lt b3)).extBut hs₃.extBut m4) hv fun h₄ h3₄ hs₄ => wpAny_pure (wpAny_pure (wpAny_pure ?_)))
    refine wpAny_bind (wpAny_newTuple ?_ (by rw [sizeLine_eq]; exact Nat.le_of_ble_eq_true rfl))
    have hsz : h₄.objs.size = s.heap.objs.size := by rw [hs₄.1, hs₃.1, hs₂.1, hs₁.1]
    have up : ∀ c o, c ≠ B → c ≠ B + 1 → c ≠ B + 2 → c ≠ B + 5 → s.heap.get? c = some o → h₄.get? c = some o := fun c o c1 c2 c3 c4 e => hs₄.extBut _ _ c3 (hs₃.extBut _ _ c2 (hs₂.extBut _ _ c1 (hs₁.extBut _ _ c4 e)))
    refine wpAny_pure ⟨_, rfl, wpAny_pure ?_⟩
    show Q (some (.ref h₄.objs.size)) _
    rw [hsz]
    refine hQ _ (Heap.get?_push_of_some _ (hs₄.extBut _ _ (Ne.symm n3) (hs₃.extBut _ _ (Ne.symm n2) (hs₂.extBut _ _ (Ne.symm n1) hz₁)))) ?_ ?_ (h3₄.at fun o e => Heap.get?_push_of_some _ e) (by rw [← hsz]; exact Heap.get?_push_size _ rfl) (by rw [Heap.size_push, hsz]) fun c o c1 c2 c3 c4 e => Heap.get?_push_of_some _ (up c o c1 c2 c3 c4 e)
    · exact ((h1₂.extBut hs₃.extBut (Ne.symm m1)).extBut hs₄.extBut (Ne.symm m2)).at fun o e => Heap.get?_push_of_some _ e
    · exact (h2₃.extBut hs₄.extBut (Ne.symm m3)).at fun o e => Heap.get?_push_of_some _ e
  | false =>
    rw [if_pos (show (Value.bool false != Value.bool true) = true from rfl)]
    refine wpAny_bind (wpAny_setField_rec hz (by simp) fun h₁ hz₁ hs₁ => ?_)
    replace hs₁ : Heap.SameBut (B + 5) s.heap h₁ := hs₁
    replace hz₁ : IsZip3 h₁ (B + 5) (B + 3) (B + 4) (rawInt T) true := hz₁
    refine wpAny_pure ?_
    simp only [Bool.false_eq_true, if_false]
    refine wpAny_bind ?_
    rw [← Array.forIn_toList]
    simp only [List.forIn_cons, List.forIn_nil]
    refine wpAny_bind (wpAny_bind (wpAny_holding ?_))
    show wpAny _ _ (Builtin.SmallTypes.nextOf (.ref B) >>= _) _ _ _
    refine wpAny_bind (wpAny_nextOf_list_item (h1.extBut hs₁.extBut n1) (hl1.extBut hs₁.extBut n4) hx fun h₂ h1₂ hs₂ => wpAny_pure (wpAny_pure ?_))
    refine wpAny_bind (wpAny_bind (wpAny_holding ?_))
    show wpAny _ _ (Builtin.SmallTypes.nextOf (.ref (B + 1)) >>= _) _ _ _
    refine wpAny_bind (wpAny_nextOf_list_item ((h2.extBut hs₁.extBut n2).extBut hs₂.extBut m1) ((hl2.extBut hs₁.extBut n5).extBut hs₂.extBut (Nat.ne_of_lt b2)) hy fun h₃ h2₃ hs₃ => wpAny_pure (wpAny_pure ?_))
    refine wpAny_bind (wpAny_bind (wpAny_holding ?_))
    show wpAny _ _ (Builtin.SmallTypes.nextOf (.ref (B + 2)) >>= _) _ _ _
    refine wpAny_bind (wpAny_nextOf_list_item (((h3.extBut hs₁.extBut n3).extBut hs₂.extBut m2).extBut hs₃.extBut m3) (((hl3.extBut hs₁.extBut n6).extBut hs₂.extBut (Nat.ne_of_lt b3)).extBut hs₃.extBut m4) hv fun h₄ h3₄ hs₄ => wpAny_pure (wpAny_pure (wpAny_pure ?_)))
    refine wpAny_bind (wpAny_newTuple ?_ (by rw [sizeLine_eq]; exact Nat.le_of_ble_eq_true rfl))
    have hsz : h₄.objs.size = s.heap.objs.size := by rw [hs₄.1, hs₃.1, hs₂.1, hs₁.1]
    have up : ∀ c o, c ≠ B → c ≠ B + 1 → c ≠ B + 2 → c ≠ B + 5 → s.heap.get? c = some o → h₄.get? c = some o := fun c o c1 c2 c3 c4 e => hs₄.extBut _ _ c3 (hs₃.extBut _ _ c2 (hs₂.extBut _ _ c1 (hs₁.extBut _ _ c4 e)))
    refine wpAny_pure ⟨_, rfl, wpAny_pure ?_⟩
    show Q (some (.ref h₄.objs.size)) _
    rw [hsz]
    refine hQ _ (Heap.get?_push_of_some _ (hs₄.extBut _ _ (Ne.symm n3) (hs₃.extBut _ _ (Ne.symm n2) (hs₂.extBut _ _ (Ne.symm n1) hz₁)))) ?_ ?_ (h3₄.at fun o e => Heap.get?_push_of_some _ e) (by rw [← hsz]; exact Heap.get?_push_size _ rfl) (by rw [Heap.size_push, hsz]) fun c o c1 c2 c3 c4 e => Heap.get?_push_of_some _ (up c o c1 c2 c3 c4 e)
    · exact ((h1₂.extBut hs₃.extBut (Ne.symm m1)).extBut hs₄.extBut (Ne.symm m2)).at fun o e => Heap.get?_push_of_some _ e
    · exact (h2₃.extBut hs₄.extBut (Ne.symm m3)).at fun o e => Heap.get?_push_of_some _ e
end
section
variable {prog : Program} {w : World} {A : Around} {E : Value → Shared → Prop} {s : Shared}
theorem updateSeq_tri {T : Addr} {a b c x : Value} {k : Nat} {Q : Unit → Shared → Prop} (hT : IsTri s.heap T a b c)
    (h : ∀ h', h'.get? T = some { cls := .type "tuple", data := .seq ((#[a, b, c] : Array Value).setIfInBounds k x) } → Heap.SameBut T s.heap h' → Q () { s with heap := h' }) :
    wpAny (model prog w) A (updateSeq T (·.setIfInBounds k x)) Q E s := by
  refine wpAny_updateSeq hT rfl (h _ ?_ (Heap.SameBut.update ..))
  rw [Heap.get?_update_self _ hT rfl]
  simp [Obj.mapSeq]
/- a zip over three lists, its first item -/
theorem zip3_first {B l1 l2 l3 : Nat} {k : Nat} {xs ys zs : Array Value} {x y v a b c : Value} {Q : Option Value → Shared → Prop} (b1 : l1 < B) (b2 : l2 < B) (b3 : l3 < B)
    (hz : IsZip3 s.heap (B + 5) (B + 3) (B + 4) .none false) (hTI : IsTri s.heap (B + 3) (.ref B) (.ref (B + 1)) (.ref (B + 2))) (hTO : IsTri s.heap (B + 4) a b c)
    (h1 : s.heap.IsListIter B l1 k) (h2 : s.heap.IsListIter (B + 1) l2 k) (h3 : s.heap.IsListIter (B + 2) l3 k) (hl1 : s.heap.IsList l1 xs) (hl2 : s.heap.IsList l2 ys) (hl3 : s.heap.IsList l3 zs) (hx : xs[k]? = some x) (hy : ys[k]? = some y) (hv : zs[k]? = some v)
    (hQ : ∀ h', IsZip3 h' (B + 5) (B + 3) (B + 4) (rawInt s.heap.objs.size) false → h'.IsListIter B l1 (k + 1) → h'.IsListIter (B + 1) l2 (k + 1) → h'.IsListIter (B + 2) l3 (k + 1) → IsTri h' s.heap.objs.size x y v → h'.objs.size = s.heap.objs.size + 1 →
      (∀ c o, c ≠ B → c ≠ B + 1 → c ≠ B + 2 → c ≠ B + 4 → c ≠ B + 5 → s.heap.get? c = some o → h'.get? c = some o) → Q (some (.ref s.heap.objs.size)) { s with heap := h' }) :
    wpAny (model prog w) A (pyNext (.ref (B + 5))) Q E s := by
  have hTy : s.TypeIs (.ref (B + 5)) "zip" := ⟨_, hz, rfl⟩
  unfold pyNext
  refine wpAny_bind (wpAny_attempt (wpAny_callSpecial?_slot (name := Str.ofString "__next__") hTy PySem.F.slot_zip_next
    (wpAny_call_entry PySem.F.slot_zip_next hTy PySem.F.entry_zip_next ?_ (PySem.F.args_zip_next_1 _))))
  show wpAny _ _ (field (.ref (B + 5)) 2 >>= _) _ _ _
  refine wpAny_bind (wpAny_field hz rfl (x := .bool false) rfl ?_)
  show wpAny _ _ (field (.ref (B + 5)) 3 >>= _) _ _ _
  refine wpAny_bind (wpAny_field hz rfl (x := .ref (B + 3)) rfl ?_)
  refine wpAny_bind (wpAny_seqItems hTI rfl ?_)
  show wpAny _ _ (Builtin.SmallTypes.ownedTupleIsFree (.ref (B + 5)) >>= _) _ _ _
  have n1 : (B : Nat) ≠ B + 5 := ne_add (B := B) (i := 0) (j := 5) (by decide)
  have n2 : (B + 1 : Nat) ≠ B + 5 := ne_add (B := B) (i := 1) (j := 5) (by decide)
  have n3 : (B + 2 : Nat) ≠ B + 5 := ne_add (B := B) (i := 2) (j := 5) (by decide)
  have n4 : l1 ≠ B + 5 := lt_ne 5 b1
  have n5 : l2 ≠ B + 5 := lt_ne 5 b2
  have n6 : l3 ≠ B + 5 := lt_ne 5 b3
  have n7 : (B + 4 : Nat) ≠ B + 5 := ne_add (B := B) (i := 4) (j := 5) (by decide)
  have m1 : (B + 1 : Nat) ≠ B := ne_add (B := B) (i := 1) (j := 0) (by decide)
  have m2 : (B + 2 : Nat) ≠ B := ne_add (B := B) (i := 2) (j := 0) (by decide)
  have m3 : (B + 2 : Nat) ≠ B + 1 := ne_add (B := B) (i := 2) (j := 1) (by decide)
  have m4 : l3 ≠ B + 1 := lt_ne 1 b3
  have t1 : (B + 4 : Nat) ≠ B := ne_add (B := B) (i := 4) (j := 0) (by decide)
  have t2 : (B + 4 : Nat) ≠ B + 1 := ne_add (B := B) (i := 4) (j := 1) (by decide)
  have t3 : (B + 4 : Nat) ≠ B + 2 := ne_add (B := B) (i := 4) (j := 2) (by decide)
  have t5 : l2 ≠ B + 4 := lt_ne 4 b2
  have t6 : l3 ≠ B + 4 := lt_ne 4 b3
  refine wpAny_bind ?_
  unfold Builtin.SmallTypes.ownedTupleIsFree
  refine wpAny_bind (wpAny_field hz rfl (x := .none) rfl (wpAny_pure ?_))
  simp only [if_true]
  refine wpAny_bind (wpAny_rule ?_)
  refine wpAny_bind (wpAny_field hz rfl (x := .ref (B + 4)) rfl ?_)
  refine wpAny_bind (wpAny_setField_rec hz (by simp) fun h₁ hz₁ hs₁ => ?_)
  replace hz₁ : IsZip3 h₁ (B + 5) (B + 3) (B + 4) .ellipsis false := hz₁
  refine wpAny_bind ?_
  simp only [List.zipIdx_cons, List.zipIdx_nil, List.forIn_cons, List.forIn_nil]
  refine wpAny_bind (wpAny_bind (wpAny_onRaise ?_))
  show wpAny _ _ (Builtin.SmallTypes.nextOf (.ref B) >>= _) _ _ _
  refine wpAny_bind (wpAny_nextOf_list_item (h1.extBut hs₁.extBut n1) (hl1.extBut hs₁.extBut n4) hx fun h₂ h1₂ hs₂ => wpAny_pure ?_)
  have hTO₂ : IsTri h₂ (B + 4) a b c := hs₂.extBut _ _ t1 (hs₁.extBut _ _ n7 hTO)
  refine wpAny_bind (wpAny_seqItems hTO₂ rfl ?_)
  refine wpAny_bind (updateSeq_tri hTO₂ fun h₃ hTO₃ hs₃ => ?_)
  replace hTO₃ : IsTri h₃ (B + 4) x b c := hTO₃
  refine wpAny_bind (wpAny_letGo (wpAny_pure ?_))
  refine wpAny_bind (wpAny_bind (wpAny_onRaise ?_))
  show wpAny _ _ (Builtin.SmallTypes.nextOf (.ref (B + 1)) >>= _) _ _ _
  refine wpAny_bind (wpAny_nextOf_list_item (((h2.extBut hs₁.extBut n2).extBut hs₂.extBut m1).extBut hs₃.extBut (Ne.symm t2)) (((hl2.extBut hs₁.extBut n5).extBut hs₂.extBut (Nat.ne_of_lt b2)).extBut hs₃.extBut t5) hy fun h₄ h2₄ hs₄ => wpAny_pure ?_)
  have hTO₄ : IsTri h₄ (B + 4) x b c := hs₄.extBut _ _ t2 hTO₃
  refine wpAny_bind (wpAny_seqItems hTO₄ rfl ?_)
  refine wpAny_bind (updateSeq_tri hTO₄ fun h₅ hTO₅ hs₅ => ?_)
  replace hTO₅ : IsTri h₅ (B + 4) x y c := hTO₅
  refine wpAny_bind (wpAny_letGo (wpAny_pure ?_))
  refine wpAny_bind (wpAny_bind (wpAny_onRaise ?_))
  show wpAny _ _ (Builtin.SmallTypes.nextOf (.ref (B + 2)) >>= _) _ _ _
  refine wpAny_bind (wpAny_nextOf_list_item (((((h3.extBut hs₁.extBut n3).extBut hs₂.extBut m2).extBut hs₃.extBut (Ne.symm t3)).extBut hs₄.extBut m3).extBut hs₅.extBut (Ne.symm t3)) (((((hl3.extBut hs₁.extBut n6).extBut hs₂.extBut (Nat.ne_of_lt b3)).extBut hs₃.extBut t6).extBut hs₄.extBut m4).extBut hs₅.extBut t6) hv fun h₆ h3₆ hs₆ => wpAny_pure ?_)
  have hTO₆ : IsTri h₆ (B + 4) x y c := hs₆.extBut _ _ t3 hTO₅
  refine wpAny_bind (wpAny_seqItems hTO₆ rfl ?_)
  refine wpAny_bind (updateSeq_tri hTO₆ fun h₇ hTO₇ hs₇ => ?_)
  replace hTO₇ : IsTri h₇ (B + 4) x y v := hTO₇
  refine wpAny_bind (wpAny_letGo (wpAny_pure (wpAny_pure ?_)))
  refine wpAny_bind (wpAny_seqItems hTO₇ rfl ?_)
  refine wpAny_bind (wpAny_newTuple ?_ (by rw [sizeLine_eq]; exact Nat.le_of_ble_eq_true rfl))
  have hsz : h₇.objs.size = s.heap.objs.size := by rw [hs₇.1, hs₆.1, hs₅.1, hs₄.1, hs₃.1, hs₂.1, hs₁.1]
  have hz₇ : IsZip3 h₇ (B + 5) (B + 3) (B + 4) .ellipsis false := hs₇.extBut _ _ (Ne.symm n7) (hs₆.extBut _ _ (Ne.symm n3) (hs₅.extBut _ _ (Ne.symm n7) (hs₄.extBut _ _ (Ne.symm n2) (hs₃.extBut _ _ (Ne.symm n7) (hs₂.extBut _ _ (Ne.symm n1) hz₁)))))
  have hk₇ : ∀ c o, c ≠ B → c ≠ B + 1 → c ≠ B + 2 → c ≠ B + 4 → c ≠ B + 5 → s.heap.get? c = some o → h₇.get? c = some o := fun c o c1 c2 c3 c4 c5 e =>
    hs₇.extBut _ _ c4 (hs₆.extBut _ _ c3 (hs₅.extBut _ _ c4 (hs₄.extBut _ _ c2 (hs₃.extBut _ _ c4 (hs₂.extBut _ _ c1 (hs₁.extBut _ _ c5 e))))))
  have h1₇ : h₇.IsListIter B l1 (k + 1) := ((((h1₂.extBut hs₃.extBut (Ne.symm t1)).extBut hs₄.extBut (Ne.symm m1)).extBut hs₅.extBut (Ne.symm t1)).extBut hs₆.extBut (Ne.symm m2)).extBut hs₇.extBut (Ne.symm t1)
  have h2₇ : h₇.IsListIter (B + 1) l2 (k + 1) := ((h2₄.extBut hs₅.extBut (Ne.symm t2)).extBut hs₆.extBut (Ne.symm m3)).extBut hs₇.extBut (Ne.symm t2)
  have h3₇ : h₇.IsListIter (B + 2) l3 (k + 1) := h3₆.extBut hs₇.extBut (Ne.symm t3)
  have hzlt : B + 5 < h₇.objs.size := Heap.lt_size hz₇
  show wpAny _ _ (Builtin.SmallTypes.ownedTupleHandOut (.ref (B + 5)) (.ref h₇.objs.size) >>= _) _ _ _
  refine wpAny_bind ?_
  unfold Builtin.SmallTypes.ownedTupleHandOut
  have hz₈ : IsZip3 (h₇.push { cls := .type "tuple", data := .seq #[x, y, v] }) (B + 5) (B + 3) (B + 4) .ellipsis false := Heap.get?_push_of_some _ hz₇
  refine wpAny_bind (wpAny_setField_rec hz₈ (by simp) fun h₉ hz₉ hs₉ => ?_)
  replace hz₉ : IsZip3 h₉ (B + 5) (B + 3) (B + 4) (rawInt h₇.objs.size) false := hz₉
  refine wpAny_setField_rec hz₉ (by simp) fun hA hzA hsA => ?_
  replace hzA : IsZip3 hA (B + 5) (B + 3) (B + 4) (rawInt h₇.objs.size) false := hzA
  have up : ∀ c o, c ≠ B + 5 → h₇.get? c = some o → hA.get? c = some o := fun c o c1 e => hsA.extBut _ _ c1 (hs₉.extBut _ _ c1 (Heap.get?_push_of_some _ e))
  have hTA : IsTri hA h₇.objs.size x y v := hsA.extBut _ _ (Nat.ne_of_gt hzlt) (hs₉.extBut _ _ (Nat.ne_of_gt hzlt) (Heap.get?_push_size _ rfl))
  have hzAs : hA.objs.size = h₇.objs.size + 1 := by rw [hsA.1, hs₉.1, Heap.size_push]
  rw [hsz] at hzA hTA hzAs
  refine wpAny_pure ⟨_, rfl, wpAny_pure ?_⟩
  show Q (some (.ref h₇.objs.size)) _
  rw [hsz]
  exact hQ hA hzA (h1₇.at fun o e => up _ o n1 e) (h2₇.at fun o e => up _ o n2 e) (h3₇.at fun o e => up _ o n3 e) hTA hzAs fun c o c1 c2 c3 c4 c5 e => up c o c5 (hk₇ c o c1 c2 c3 c4 c5 e)
/- a zip over three lists, at its end -/
theorem zip3_end {B l1 T : Nat} {oT : Obj} {f : Bool} {k : Nat} {xs : Array Value} {Q : Option Value → Shared → Prop} (hh : A.handled = none) (b1 : l1 < B)
    (hz : IsZip3 s.heap (B + 5) (B + 3) (B + 4) (rawInt T) f) (hT : s.heap.get? T = some oT) (hTI : IsTri s.heap (B + 3) (.ref B) (.ref (B + 1)) (.ref (B + 2)))
    (h1 : s.heap.IsListIter B l1 k) (hl1 : s.heap.IsList l1 xs) (hx : xs[k]? = none)
    (hQ : ∀ h', (∀ c o, c ≠ B → c ≠ B + 5 → s.heap.get? c = some o → h'.get? c = some o) → Q none { s with heap := h' }) :
    wpAny (model prog w) A (pyNext (.ref (B + 5))) Q E s := by
  have hTy : s.TypeIs (.ref (B + 5)) "zip" := ⟨_, hz, rfl⟩
  unfold pyNext
  refine wpAny_bind (wpAny_attempt (wpAny_callSpecial?_slot (name := Str.ofString "__next__") hTy PySem.F.slot_zip_next
    (wpAny_call_entry PySem.F.slot_zip_next hTy PySem.F.entry_zip_next ?_ (PySem.F.args_zip_next_1 _))))
  show wpAny _ _ (field (.ref (B + 5)) 2 >>= _) _ _ _
  refine wpAny_bind (wpAny_field hz rfl (x := .bool false) rfl ?_)
  show wpAny _ _ (field (.ref (B + 5)) 3 >>= _) _ _ _
  refine wpAny_bind (wpAny_field hz rfl (x := .ref (B + 3)) rfl ?_)
  refine wpAny_bind (wpAny_seqItems hTI rfl ?_)
  show wpAny _ _ (Builtin.SmallTypes.ownedTupleIsFree (.ref (B + 5)) >>= _) _ _ _
  have n1 : (B : Nat) ≠ B + 5 := ne_add (B := B) (i := 0) (j := 5) (by decide)
  have n4 : l1 ≠ B + 5 := lt_ne 5 b1
  refine wpAny_bind ?_
  unfold Builtin.SmallTypes.ownedTupleIsFree
  refine wpAny_bind (wpAny_field hz rfl (x := rawInt T) rfl ?_)
  show wpAny _ _ (loadIfAlive ((T : Int).toNat) >>= _) _ _ _
  rw [Int.toNat_natCast]
  refine wpAny_bind (kdx_alive hT ?_)
  simp only [Option.isNone_some, Bool.false_eq_true, if_false]
  refine wpAny_bind (wpAny_field hz rfl (x := .bool f) rfl ?_)
  cases f with
  | true =>
    rw [if_neg (show ¬ ((Value.bool true != Value.bool true) = true) from Bool.false_ne_true)]
    refine wpAny_pure ?_
    simp only [Bool.false_eq_true, if_false]
    refine wpAny_bind ?_
    rw [← Array.forIn_toList]
    simp only [List.forIn_cons, List.forIn_nil]
    refine wpAny_bind (wpAny_bind (wpAny_holding ?_))
    show wpAny _ _ (Builtin.SmallTypes.nextOf (.ref B) >>= _) _ _ _
    refine wpAny_bind (wpAny_nextOf_list_end hh h1 hl1 hx fun h₂ e hs₂ he => ?_)
    obtain ⟨o, ho, hc⟩ := he
    refine wpAny_bind (wpAny_isInstance (T := "StopIteration") (b := true) ⟨o, ho, hc⟩ isSubtype_stop ?_)
    exact wpAny_pure (hQ _ fun c o c1 _ e => hs₂ _ _ c1 e)
  | false =>
    rw [if_pos (show (Value.bool false != Value.bool true) = true from rfl)]
    refine wpAny_bind (wpAny_setField_rec hz (by simp) fun h₁ hz₁ hs₁ => ?_)
    refine wpAny_pure ?_
    simp only [Bool.false_eq_true, if_false]
    refine wpAny_bind ?_
    rw [← Array.forIn_toList]
    simp only [List.forIn_cons, List.forIn_nil]
    refine wpAny_bind (wpAny_bind (wpAny_holding ?_))
    show wpAny _ _ (Builtin.SmallTypes.nextOf (.ref B) >>= _) _ _ _
    refine wpAny_bind (wpAny_nextOf_list_end hh (h1.extBut hs₁.extBut n1) (hl1.extBut hs₁.extBut n4) hx fun h₂ e hs₂ he => ?_)
    obtain ⟨o, ho, hc⟩ := he
    refine wpAny_bind (wpAny_isInstance (T := "StopIteration") (b := true) ⟨o, ho, hc⟩ isSubtype_stop ?_)
    exact wpAny_pure (hQ _ fun c o c1 c5 e => hs₂ _ _ c1 (hs₁.extBut _ _ c5 e))
end
structure ZSt (h : Heap) (B l1 l2 l3 : Nat) (xs ys zs : Array Value) (i : Nat) : Prop where
  ti : IsTri h (B + 3) (.ref B) (.ref (B + 1)) (.ref (B + 2))
  h1 : h.IsListIter B l1 i
  h2 : h.IsListIter (B + 1) l2 i
  h3 : h.IsListIter (B + 2) l3 i
  l1 : h.IsList l1 xs
  l2 : h.IsList l2 ys
  l3 : h.IsList l3 zs
  z : (i = 0 ∧ IsZip3 h (B + 5) (B + 3) (B + 4) .none false ∧ ∃ a b c, IsTri h (B + 4) a b c) ∨ ∃ T oT f, IsZip3 h (B + 5) (B + 3) (B + 4) (rawInt (T : Nat)) f ∧ h.get? T = some oT ∧ B + 6 < T
theorem ZSt.keep {h h' : Heap} {B l1 l2 l3 : Nat} {xs ys zs : Array Value} {i : Nat} (x : ZSt h B l1 l2 l3 xs ys zs i) (b1 : l1 < B) (b2 : l2 < B) (b3 : l3 < B) (hk : ∀ (b : Nat) o, b ≠ B + 6 → h.get? b = some o → h'.get? b = some o) : ZSt h' B l1 l2 l3 xs ys zs i where
  ti := hk _ _ (ne_add (i := 3) (j := 6) (by decide)) x.ti
  h1 := x.h1.at fun o e => hk _ o (ne_add (B := B) (i := 0) (j := 6) (by decide)) e
  h2 := x.h2.at fun o e => hk _ o (ne_add (B := B) (i := 1) (j := 6) (by decide)) e
  h3 := x.h3.at fun o e => hk _ o (ne_add (B := B) (i := 2) (j := 6) (by decide)) e
  l1 := x.l1.at fun o e => hk _ o (lt_ne 6 b1) e
  l2 := x.l2.at fun o e => hk _ o (lt_ne 6 b2) e
  l3 := x.l3.at fun o e => hk _ o (lt_ne 6 b3) e
  z := by
    rcases x.z with ⟨e, hz, a, b, c, ht⟩ | ⟨T, oT, f, hz, hT, bT⟩
    · exact .inl ⟨e, hk _ _ (ne_add (i := 5) (j := 6) (by decide)) hz, a, b, c, hk _ _ (ne_add (i := 4) (j := 6) (by decide)) ht⟩
    · exact .inr ⟨T, oT, f, hk _ _ (ne_add (i := 5) (j := 6) (by decide)) hz, hk _ _ (above6 6 (by decide) bT) hT, bT⟩
section
variable {prog : Program} {w : World} {A : Around} {E : Value → Shared → Prop} {s : Shared} {B l1 l2 l3 : Nat} {xs ys zs : Array Value}
theorem zst_item {i : Nat} {x y v : Value} {Q : Option Value → Shared → Prop} (b1 : l1 < B) (b2 : l2 < B) (b3 : l3 < B) (st : ZSt s.heap B l1 l2 l3 xs ys zs i) (hS : B + 6 < s.heap.objs.size) (hx : xs[i]? = some x) (hy : ys[i]? = some y) (hv : zs[i]? = some v)
    (hQ : ∀ h', ZSt h' B l1 l2 l3 xs ys zs (i + 1) → IsTri h' s.heap.objs.size x y v → h'.objs.size = s.heap.objs.size + 1 → (∀ (c : Nat) o, c < B ∨ B + 5 < c → s.heap.get? c = some o → h'.get? c = some o) → Q (some (.ref s.heap.objs.size)) { s with heap := h' }) :
    wpAny (model prog w) A (pyNext (.ref (B + 5))) Q E s := by
  rcases st.z with ⟨rfl, hz, a, b, c, hTO⟩ | ⟨T, oT, f, hz, hT, bT⟩
  · refine zip3_first b1 b2 b3 hz st.ti hTO st.h1 st.h2 st.h3 st.l1 st.l2 st.l3 hx hy hv fun h' z' i1 i2 i3 tt sz k => ?_
    have k' : ∀ (c : Nat) o, c < B ∨ B + 5 < c → s.heap.get? c = some o → h'.get? c = some o := fun c o hc e => k c o (off5 0 (by decide) hc) (off5 1 (by decide) hc) (off5 2 (by decide) hc) (off5 4 (by decide) hc) (off5 5 (by decide) hc) e
    exact hQ h' ⟨k _ _ (ne_add (B := B) (i := 3) (j := 0) (by decide)) (ne_add (i := 3) (j := 1) (by decide)) (ne_add (i := 3) (j := 2) (by decide)) (ne_add (i := 3) (j := 4) (by decide)) (ne_add (i := 3) (j := 5) (by decide)) st.ti, i1, i2, i3, st.l1.at fun o e => k' _ o (.inl b1) e, st.l2.at fun o e => k' _ o (.inl b2) e, st.l3.at fun o e => k' _ o (.inl b3) e, .inr ⟨_, _, false, z', tt, hS⟩⟩ tt sz k'
  · refine zip3_out b1 b2 b3 (Nat.lt_of_succ_lt bT) hz hT st.ti st.h1 st.h2 st.h3 st.l1 st.l2 st.l3 hx hy hv fun h' z' i1 i2 i3 tt sz k => ?_
    have k' : ∀ (c : Nat) o, c < B ∨ B + 5 < c → s.heap.get? c = some o → h'.get? c = some o := fun c o hc e => k c o (off5 0 (by decide) hc) (off5 1 (by decide) hc) (off5 2 (by decide) hc) (off5 5 (by decide) hc) e
    exact hQ h' ⟨k _ _ (ne_add (B := B) (i := 3) (j := 0) (by decide)) (ne_add (i := 3) (j := 1) (by decide)) (ne_add (i := 3) (j := 2) (by decide)) (ne_add (i := 3) (j := 5) (by decide)) st.ti, i1, i2, i3, st.l1.at fun o e => k' _ o (.inl b1) e, st.l2.at fun o e => k' _ o (.inl b2) e, st.l3.at fun o e => k' _ o (.inl b3) e, .inr ⟨T, oT, true, z', k' _ _ (.inr (Nat.lt_of_succ_lt bT)) hT, bT⟩⟩ tt sz k'
/- the tuples that a zip has given -/
structure ZG (xs ys zs : Array Value) (lo : Nat) (h : Heap) (as : List Addr) : Prop where
  above : ∀ a ∈ as, lo < a
  tris : ∀ (j : Nat) (a : Addr), as[j]? = some a → ∃ x y v, xs[j]? = some x ∧ ys[j]? = some y ∧ zs[j]? = some v ∧ IsTri h a x y v
theorem z3_loop {R : Result → Shared → Prop} (hh : A.handled = none) (b1 : l1 < B) (b2 : l2 < B) (b3 : l3 < B) {n : Nat} (n0 : 1 ≤ n) (n1 : n ≤ 1000) (sx : xs.size = n) (sy : ys.size = n) (sz : zs.size = n) (res : Value) {h₁ : Heap}
    (hR : ∀ h' acc c as, (∀ (b : Nat) o, b < B → h₁.get? b = some o → h'.get? b = some o) → h'.get? (B + 6) = some { cls := .type "list", dict := none, data := .seq acc c, slots := #[] } → as.length = n → ZG xs ys zs (B + 6) h' as →
      acc.toList = as.map Value.ref → R (.ok (.ret res)) { s with heap := h' }) :
    ∀ (k i : Nat) (h : Heap) (c : Nat) (acc : Array Value) (as : List Addr), n - i = k → i ≤ n → ZSt h B l1 l2 l3 xs ys zs i → (∀ (b : Nat) o, b < B → h₁.get? b = some o → h.get? b = some o) →
      h.get? (B + 6) = some { cls := .type "list", dict := none, data := .seq acc c, slots := #[] } → acc.toList = as.map Value.ref → as.length = i → ZG xs ys zs (B + 6) h as →
      codeAny (model prog w) A (.builtin "list.extend.loop" ⟨[.ref (B + 6), .ref (B + 5), res], []⟩) R { s with heap := h } := by
  intro k
  induction k with
  | zero =>
    intro i h c acc as hk hi st hkeep hS hacc hal hG
    have hin : i = n := by omega
    refine codeAny_builtin PySem.F.entry_extend_loop ?_
    rw [Around.under_plainId PySem.F.plain_extend_loop _]
    show wpAny _ A.in1 (pyNext (.ref (B + 5)) >>= _) _ _ _
    rcases st.z with ⟨e0, _⟩ | ⟨T, oT, f, hz, hT, bT⟩
    · exact absurd (hin.symm.trans e0) (Nat.ne_of_gt n0)
    refine wpAny_bind (zip3_end (s := { s with heap := h }) (A := A.in1) hh b1 hz hT st.ti st.h1 st.l1 (Array.getElem?_eq_none (by rw [sx, hin]; exact Nat.le_refl _)) fun h' he => ?_)
    refine wpAny_pure (hR h' acc c as (fun b o hb e => he b o (Nat.ne_of_lt hb) (lt_ne 5 hb) (hkeep b o hb e)) (he _ _ (ne_add (B := B) (i := 6) (j := 0) (by decide)) (ne_add (i := 6) (j := 5) (by decide)) hS) (hal.trans hin) ⟨hG.above, fun j a hj => ?_⟩ hacc)
    obtain ⟨x, y, v, e1, e2, e3, e4⟩ := hG.tris j a hj
    have ha := hG.above a (List.mem_of_getElem? hj)
    exact ⟨x, y, v, e1, e2, e3, he a _ (above6 0 (by decide) ha) (above6 5 (by decide) ha) e4⟩
  | succ k ih =>
    intro i h c acc as hk hi st hkeep hS hacc hal hG
    have hlt : i < n := by omega
    obtain ⟨x, hx⟩ : ∃ x, xs[i]? = some x := ⟨_, Array.getElem?_eq_getElem (by rw [sx]; exact hlt)⟩
    obtain ⟨y, hy⟩ : ∃ x, ys[i]? = some x := ⟨_, Array.getElem?_eq_getElem (by rw [sy]; exact hlt)⟩
    obtain ⟨v, hv⟩ : ∃ x, zs[i]? = some x := ⟨_, Array.getElem?_eq_getElem (by rw [sz]; exact hlt)⟩
    have hsz : acc.size = i := by rw [← Array.length_toList, hacc, List.length_map, hal]
    have hSl : B + 6 < h.objs.size := Heap.lt_size hS
    refine codeAny_builtin PySem.F.entry_extend_loop ?_
    rw [Around.under_plainId PySem.F.plain_extend_loop _]
    show wpAny _ A.in1 (pyNext (.ref (B + 5)) >>= _) _ _ _
    refine wpAny_bind (zst_item (s := { s with heap := h }) b1 b2 b3 st hSl hx hy hv fun h' st' ht hz hkp => ?_)
    dsimp only at ht hz hkp ⊢
    have hS' := hkp (B + 6) _ (.inr (Nat.lt_succ_self _)) hS
    have up : ∀ (b : Nat) o, b ≠ B + 6 → h'.get? b = some o → (h'.update (B + 6) (Obj.mapSeq (·.push (Value.ref h.objs.size)))).get? b = some o := fun b o hb e => (Heap.get?_update_other _ _ (Ne.symm hb)).trans e
    show wpAny _ A.in1 (updateSeq (B + 6) (·.push (Value.ref h.objs.size)) >>= _) _ _ _
    refine wpAny_bind ?_
    refine wpAny_updateSeq hS' rfl (wpAny_pure ⟨plainId_quiet PySem.F.plain_extend_loop _, ih (i + 1) _ _ (acc.push (Value.ref h.objs.size)) (as ++ [h.objs.size]) (by omega) hlt (st'.keep b1 b2 b3 up)
      (fun b o hb e => up b o (lt_ne 6 hb) (hkp b o (.inl hb) (hkeep b o hb e))) (Heap.get?_update_self _ hS' rfl) (by rw [Array.toList_push, hacc, List.map_append]; rfl) (by rw [List.length_append, hal]; rfl) ⟨?_, ?_⟩⟩) (by rw [hsz, sizeLine_eq]; omega) (by show (acc.push (Value.ref h.objs.size)).size ≤ sizeLine + 1; rw [Array.size_push, hsz, sizeLine_eq]; omega)
    · intro a ha
      rcases List.mem_append.mp ha with ha | ha
      · exact hG.above a ha
      · rw [List.mem_singleton.mp ha]; exact hSl
    · intro j b hj
      rcases Nat.lt_trichotomy j as.length with h1 | h1 | h1
      · rw [List.getElem?_append_left h1] at hj
        obtain ⟨x', y', v', e1, e2, e3, e4⟩ := hG.tris j b hj
        have hb := hG.above b (List.mem_of_getElem? hj)
        exact ⟨x', y', v', e1, e2, e3, up b _ (Nat.ne_of_gt hb) (hkp b _ (.inr (Nat.lt_of_succ_lt hb)) e4)⟩
      · subst h1
        have hb : h.objs.size = b := by simpa using hj
        subst hb
        exact ⟨x, y, v, by rw [hal]; exact hx, by rw [hal]; exact hy, by rw [hal]; exact hv, up _ _ (Nat.ne_of_gt hSl) ht⟩
      · have hnone : (as ++ [h.objs.size])[j]? = none := List.getElem?_eq_none (by rw [List.length_append, List.length_singleton]; omega)
        rw [hnone] at hj; cases hj
end
section
variable {prog : Program} {w : World} {A : Around} {E : Value → Shared → Prop} {s : Shared} {B l1 l2 l3 : Nat} {xs ys zs : Array Value}
theorem z3_extend {R : Result → Shared → Prop} (hh : A.handled = none) (b1 : l1 < B) (b2 : l2 < B) (b3 : l3 < B) {n : Nat} (n0 : 1 ≤ n) (n1 : n ≤ 1000) (sx : xs.size = n) (sy : ys.size = n) (sz : zs.size = n) (res : Value) (st : ZSt s.heap B l1 l2 l3 xs ys zs 0) (hz : IsZip3 s.heap (B + 5) (B + 3) (B + 4) .none false) (c₀ : Nat) (hS : s.heap.get? (B + 6) = some { cls := .type "list", data := .seq #[] c₀ })
    (hR : ∀ h' acc c as, (∀ (b : Nat) o, b < B → s.heap.get? b = some o → h'.get? b = some o) → h'.get? (B + 6) = some { cls := .type "list", dict := none, data := .seq acc c, slots := #[] } → as.length = n → ZG xs ys zs (B + 6) h' as →
      acc.toList = as.map Value.ref → R (.ok (.ret res)) { s with heap := h' }) :
    wpAny (model prog w) A.in1 (Builtin.List.listExtendWith (.ref (B + 6)) (.ref (B + 5)) res)
      (fun fin s' => match fin with | .done f => R (.ok f) s' | .again c' => c'.quiet = true ∧ codeAny (model prog w) A c' R s') (fun e s' => R (.error e) s') s := by
  have hTy : s.TypeIs (.ref (B + 5)) "zip" := ⟨_, hz, rfl⟩
  have key : ∀ (h : Heap) (c₁ : Nat), (∀ (b : Nat) o, b ≠ B + 6 → s.heap.get? b = some o → h.get? b = some o) →
      h.get? (B + 6) = some { cls := .type "list", data := .seq #[] c₁ } → codeAny (model prog w) A (.builtin "list.extend.loop" ⟨[.ref (B + 6), .ref (B + 5), res], []⟩) R { s with heap := h } := by
    intro h c₁ hk hS₁
    exact z3_loop (s := s) (h₁ := s.heap) hh b1 b2 b3 n0 n1 sx sy sz res hR n 0 h c₁ #[] [] (Nat.sub_zero _) (Nat.zero_le _) (st.keep b1 b2 b3 hk) (fun b o hb e => hk b o (lt_ne 6 hb) e) hS₁ rfl rfl ⟨(fun _ ha => nomatch ha), fun j a hj => by simp at hj⟩
  unfold Builtin.List.listExtendWith
  refine wpAny_bind (wpAny_typeOf hTy ?_)
  have e1 : Builtin.List.listSameRef (.ref (B + 6)) (.ref (B + 5)) = false := by simp [Builtin.List.listSameRef]
  have e2 : (Value.type "zip" == Value.type "list") = false := by decide
  have e3 : (Value.type "zip" == Value.type "tuple") = false := by decide
  simp only [e1, e2, e3, Bool.or_false, Bool.false_eq_true, if_false]
  refine wpAny_bind (wpAny_pyIter_zip hz ?_)
  refine wpAny_bind (wpAny_holding ?_)
  unfold Builtin.List.listLengthHint
  refine wpAny_bind (wpAny_specialOf hTy zip_no_len ?_)
  show wpAny _ A.in1 (specialOf (Value.ref (B + 5)) (Str.ofString "__length_hint__") >>= _) _ _ _
  refine wpAny_bind (wpAny_specialOf hTy zip_no_hint ?_)
  refine wpAny_pure ?_
  refine wpAny_ite_split (fun _ => ?_) (fun _ => wpAny_pure ⟨plainId_quiet PySem.F.plain_extend_loop _, key _ c₀ (fun b o _ e => e) hS⟩)
  refine wpAny_bind (wpAny_rule ?_)
  refine wpAny_bind ?_
  show wpAny _ _ (updateSeq (B + 6) (·.push .none) >>= fun _ => updateSeq (B + 6) (·.pop)) _ _ _
  refine wpAny_bind (wpAny_updateSeq hS rfl ?_)
  have hS₂ := Heap.get?_update_self (Obj.mapSeq (·.push Value.none)) hS rfl
  refine wpAny_updateSeq (hz := by seq_fits) hS₂ rfl ?_
  have hS₃ := Heap.get?_update_self (Obj.mapSeq (·.pop)) hS₂ rfl
  refine wpAny_pure ⟨plainId_quiet PySem.F.plain_extend_loop _, key _ _ (fun b o hb e => ?_) hS₃⟩
  exact (Heap.get?_update_other _ _ (Ne.symm hb)).trans ((Heap.get?_update_other _ _ (Ne.symm hb)).trans e)
theorem z3_init {R : Result → Shared → Prop} (hh : A.handled = none) (b1 : l1 < B) (b2 : l2 < B) (b3 : l3 < B) {n : Nat} (n0 : 1 ≤ n) (n1 : n ≤ 1000) (sx : xs.size = n) (sy : ys.size = n) (sz : zs.size = n) (st : ZSt s.heap B l1 l2 l3 xs ys zs 0) (hz : IsZip3 s.heap (B + 5) (B + 3) (B + 4) .none false) (hS : s.heap.get? (B + 6) = some { cls := .type "list", data := .seq #[] })
    (hR : ∀ h' acc c as, (∀ (b : Nat) o, b < B → s.heap.get? b = some o → h'.get? b = some o) → h'.get? (B + 6) = some { cls := .type "list", dict := none, data := .seq acc c, slots := #[] } → as.length = n → ZG xs ys zs (B + 6) h' as →
      acc.toList = as.map Value.ref → R (.ok (.ret .none)) { s with heap := h' }) :
    wpAny (model prog w) A.in1 (Builtin.«list.__init__» ⟨[.ref (B + 6), .ref (B + 5)], []⟩)
      (fun fin s' => match fin with | .done f => R (.ok f) s' | .again c' => c'.quiet = true ∧ codeAny (model prog w) A c' R s') (fun e s' => R (.error e) s') s := by
  show wpAny _ _ (do let old ← Builtin.List.listItems (.ref (B + 6)); Builtin.List.listUpdate (.ref (B + 6)) (fun _ => #[]); letGo old.toList.reverse; Builtin.List.listExtendWith (.ref (B + 6)) (.ref (B + 5)) .none) _ _ s
  refine wpAny_bind ?_
  unfold Builtin.List.listItems
  refine wpAny_bind (wpAny_seqItems hS rfl (wpAny_pure ?_))
  show wpAny _ _ (updateSeq (B + 6) (fun _ => #[]) >>= fun _ => letGo (#[] : Array Value).toList.reverse >>= fun _ => Builtin.List.listExtendWith (.ref (B + 6)) (.ref (B + 5)) .none) _ _ s
  refine wpAny_bind (wpAny_updateSeq hS rfl ?_)
  have hS₂ := Heap.get?_update_self (Obj.mapSeq (fun _ => (#[] : Array Value))) hS rfl
  have oth : ∀ (b : Nat) o, b ≠ B + 6 → s.heap.get? b = some o → (s.heap.update (B + 6) (Obj.mapSeq (fun _ => (#[] : Array Value)))).get? b = some o :=
    fun b o hb e => (Heap.get?_update_other _ _ (Ne.symm hb)).trans e
  refine wpAny_bind (wpAny_letGo ?_)
  exact z3_extend hh b1 b2 b3 n0 n1 sx sy sz .none (st.keep b1 b2 b3 oth) (oth _ _ (ne_add (i := 5) (j := 6) (by decide)) hz) _ hS₂ fun h' acc c as hk hS' hl hG hacc => hR h' acc c as (fun b o hb e => hk b o hb (oth b o (lt_ne 6 hb) e)) hS' hl hG hacc
theorem z3_list {Q : Value → Shared → Prop} (hh : A.handled = none) (b1 : l1 < B) (b2 : l2 < B) (b3 : l3 < B) {n : Nat} (n0 : 1 ≤ n) (n1 : n ≤ 1000) (sx : xs.size = n) (sy : ys.size = n) (sz : zs.size = n) (st : ZSt s.heap B l1 l2 l3 xs ys zs 0) (hz : IsZip3 s.heap (B + 5) (B + 3) (B + 4) .none false) (hsz : s.heap.objs.size = B + 6)
    (hQ : ∀ h' acc c as, (∀ (b : Nat) o, b < B → s.heap.get? b = some o → h'.get? b = some o) → h'.get? (B + 6) = some { cls := .type "list", dict := none, data := .seq acc c, slots := #[] } → as.length = n → ZG xs ys zs (B + 6) h' as →
      acc.toList = as.map Value.ref → Q (.ref (B + 6)) { s with heap := h' }) :
    wpAny (model prog w) A (call (.type "list") [.ref (B + 5)]) Q E s := by
  refine callType_codes (Q₁ := fun obj s₁ => obj = .ref s.heap.objs.size ∧ s₁ = { s with heap := s.heap.push { cls := .type "list", data := .seq #[] } }) PySem.F.called_list (PySem.F.typeCall_list_1 _) PySem.F.entry_list_init
    (code_list_new _ ⟨rfl, rfl⟩) fun obj s₁ h₁ => ?_
  obtain ⟨rfl, rfl⟩ := h₁
  have hS : (s.heap.push { cls := .type "list", data := .seq #[] }).get? (B + 6) = some { cls := .type "list", data := .seq #[] } := by rw [← hsz]; exact Heap.get?_push_size _ rfl
  rw [hsz]
  refine ⟨⟨_, hS, rfl⟩, PySem.F.args_list_init_2 _ _, z3_init (A := A.in1) hh b1 b2 b3 n0 n1 sx sy sz (st.keep b1 b2 b3 fun b o _ e => Heap.get?_push_of_some _ e) (Heap.get?_push_of_some _ hz) hS fun h' acc c as hk hS' hl hG hacc => ?_⟩
  exact ⟨rfl, hQ h' acc c as (fun b o hb e => hk b o hb (Heap.get?_push_of_some _ e)) hS' hl hG hacc⟩
end
end
theorem memI {p : Addr × Obj} {l : List (Addr × Obj)} (h : p ∈ l) : List.Mem p l := h
/- a part of the heap that a ledger holds whole -/
structure RestIn (g : Heap) (rest : List (Addr × Obj)) : Prop where
  mem : ∀ b o, g.get? b = some o → (b, o) ∈ rest
theorem RestIn.sub {g H h : Heap} {L : Addr} {rest news : List (Addr × Obj)} (R : RestIn g rest) (N : News H L h news) (hr : ∀ p ∈ rest, p ∈ news) : Sub g h := fun b o e => (N _ (hr _ (R.mem b o e))).1
/- what the law has made, as it stands in a heap -/
structure Made (g : Heap) (L tx sz mk co te : Addr) (ts : List (List Nat)) (zs : List Int) : Prop where
  txt : ∃ vs n, g.get? tx = some (W.listOf (vs : List Value).toArray n) ∧ StrsAre vs (ts.map Mine.T)
  szs : ∃ vs n, g.get? sz = some (W.listOf (vs : List Value).toArray n) ∧ IntsAre vs zs
  mks : ∃ vs n, g.get? mk = some (W.listOf (vs : List Value).toArray n) ∧ WSAll g vs ts
  cos : ∃ vs n, g.get? co = some (W.listOf (vs : List Value).toArray n) ∧ RdAll g vs (ts.map (colD zs))
  tes : ∃ vs n, g.get? te = some (W.listOf (vs : List Value).toArray n) ∧ RdAll g vs (ts.map toldD)
  cel : ∃ o, g.get? (L + 1 + 1) = some o ∧ o.data = .cell (some (.ref sz))
theorem Made.keeps {g g' : Heap} {L tx sz mk co te : Addr} {ts : List (List Nat)} {zs : List Int} (M : Made g L tx sz mk co te ts zs) (k : Sub g g') : Made g' L tx sz mk co te ts zs where
  txt := let ⟨vs, n, e, r⟩ := M.txt; ⟨vs, n, k _ _ e, r⟩
  szs := let ⟨vs, n, e, r⟩ := M.szs; ⟨vs, n, k _ _ e, r⟩
  mks := let ⟨vs, n, e, r⟩ := M.mks; ⟨vs, n, k _ _ e, r.keeps k⟩
  cos := let ⟨vs, n, e, r⟩ := M.cos; ⟨vs, n, k _ _ e, r.keeps k⟩
  tes := let ⟨vs, n, e, r⟩ := M.tes; ⟨vs, n, k _ _ e, r.keeps k⟩
  cel := let ⟨o, e, r⟩ := M.cel; ⟨o, k _ _ e, r⟩
/- what is asked of a text -/
structure Fits (l : List Nat) (zs : List Int) : Prop where
  len : l.length ≤ 500
  one : ∀ z ∈ zs, 1 ≤ z ∧ lvl (cntOf (aheadOf l)) (lastOf l) (aheadOf l).length z = colOf z l 0
  top : max (((cntOf (aheadOf l)).length : Int) - 1) (lastOf l) = topOf (runsOf l)
  simple : decide ((cntOf (aheadOf l)).length ≤ 1) = !Txt.contains (Mine.T (leadOf l)) (Str.ofString " \t")
theorem strs_get {vs : List Value} {xs : List Str} (h : StrsAre vs xs) {i : Nat} {x : Str} (e : xs[i]? = some x) : ∃ t, vs[i]? = some (.str x t) := by
  induction h generalizing i with
  | nil => simp at e
  | cons y t _ ih => cases i with
    | zero => simp at e; exact ⟨t, by rw [e]; rfl⟩
    | succ i => simpa using ih (by simpa using e)
theorem colD_ok (zs : List Int) (l : List Nat) : kqdOk 9 (colD zs l) = true := by
  simp [colD, kqdOk]
theorem fourD_ok (a b c d : Int) (cs : List Int) : kqdOk 9 (.tuple [.int a, .int b, normD cs c, .int d]) = true := by
  simp [normD, kqdOk]
local macro_rules | `(tactic| k_mem) => `(tactic| (refine memI ?_; with_reducible first | assumption | exact RestIn.mem (by assumption) _ _ (by assumption)))
local macro_rules | `(tactic| k_inst) => `(tactic| (refine InstAt.of_news (by k_asm) ?_ ?_ <;> k_mem))
section
section
variable {prog : Program} {w : World} {s : Shared} {H : Heap} {L fa : Addr} {cd : Value}
set_option maxHeartbeats 4000000 in
theorem law_c {tx sz mk co te : Addr} {ts : List (List Nat)} {zs : List Int} {ps : Array Value} {o3 : Obj} {v3 : Option Value} {u : Str → Option Value} {Q : Flow → Shared → Prop} (G : Gd w.params H) (htl : ts.length = 7) (hzl : zs.length ≤ 100) (hfit : ∀ l ∈ ts, Fits l zs)
    (F : Fr H L s.heap (kstB u [(Str.ofString "texts", .ref tx), (Str.ofString "marks", .ref mk), (Str.ofString "columns", .ref co), (Str.ofString "tells", .ref te)]))
    (N : News H L s.heap [(L + 1 + 1 + 1, o3), (82, tabObj ps)]) (h3 : o3.data = .cell v3) (M : Made (nw H [L, L + 1 + 1 + 1, 82] s.heap) L tx sz mk co te ts zs)
    (next : ∀ h tk o3' u, Fr H L h (kstB u [(Str.ofString "texts", .ref tx), (Str.ofString "marks", .ref mk), (Str.ofString "columns", .ref co), (Str.ofString "tells", .ref te)]) →
      News H L h [(L + 1 + 1 + 1, o3'), (82, tabObj ps)] → Made (nw H [L, L + 1 + 1 + 1, 82] h) L tx sz mk co te ts zs →
      wpAny (model prog w) (lawA L fa cd) (execs (lawBody.drop 13) (lawEnv L fa cd)) Q (fun _ _ => False) { s with heap := h, toks := tk }) :
    wpAny (model prog w) (lawA L fa cd) (execs (lawBody.drop 12) (lawEnv L fa cd)) Q (fun _ _ => False) s := by
  have X := G.k
  obtain ⟨p, loose, mg, mb, TT⟩ := G.t
  obtain ⟨h, gs, dr, tk, os⟩ := s
  dsimp only at F N next M
  change wpAny _ _ (execs (_ :: _) _) _ _ _
  (repeat' (first | (k_unfold; (try dsimp only)) | ((fail_if_success (with_reducible show wpAny _ _ (pyIter _) _ _ _)); (fail_if_success (with_reducible show wpAny _ _ (subscriptTail _ _ _ _) _ _ _)); (fail_if_success (with_reducible show wpAny _ _ (compareOp _ (Value.ref _) _) _ _ _)); (fail_if_success (with_reducible show wpAny _ _ (eval (Expr.ListComp _ _ _ _) _) _ _ _)); (fail_if_success (with_reducible show wpAny _ _ (exec (Stmt.Assign _ (Expr.ListComp _ _ _ _) _) _) _ _ _)); (first | ((with_reducible show wpAny _ _ (exec (Stmt.For _ _ _ _ _) _) _ _ _); k_dflt (refine For_d ?_ (fun _ => rfl))) | ((with_reducible show wpAny _ _ (call (Value.ref 38) _) _ _ _); (try simp only [List.cons_append, List.nil_append]); (rename Fr _ _ _ _ => cF); (rename News _ _ _ _ => cN); refine' wk (longest_spec ?qgZ ?qwZ ?_) rfl (Nat.le_of_ble_eq_true rfl) (Nat.le_of_ble_eq_true rfl); (case qgZ => exact Gd.keeps (by assumption) (Fr.keep cF)); (case qwZ => exact WS.keeps (by assumption) (RestIn.sub (by assumption) cN (by intro p hp; k_mem))); (intro t9 s9 k9; obtain ⟨h9, tk9, e9, k9⟩ := k9; subst e9; have F9 := Fr.keeps cF k9; have N9 := News.grown cN k9; clear cF cN; try dsimp only)) | ((with_reducible show wpAny _ _ (eval (Expr.Name _ _) (compEnvC _ _ _ _)) _ _ _); k_dflt (first | (refine' nmL ?qk1Z ?qk2Z ?_ ?qk3Z ?qk4Z ?qk5Z; (case qk3Z => rfl); (case qk4Z => rfl); (case qk5Z => decide); (case qk1Z => k_asm); (case qk2Z => rfl); k_whole) | (refine' nmC ?qk1Z ?qk2Z ?qk6Z ?_ ?qk3Z ?qk4Z ?qk5Z; (case qk3Z => rfl); (case qk4Z => rfl); (case qk5Z => decide); (case qk6Z => rfl); (case qk1Z => assumption); (case qk2Z => assumption); k_whole) | (refine' nmG ?qk1Z ?qk2Z ?_ ?qk6Z ?qk3Z ?qk4Z ?qk5Z; (case qk3Z => rfl); (case qk4Z => rfl); (case qk5Z => decide); (case qk6Z => rfl); (case qk1Z => assumption); (case qk2Z => k_is); k_whole) | (refine' nmB ?qk1Z ?qk2Z ?qk7Z ?qk8Z ?_ ?qk6Z ?qk9Z ?qk3Z ?qk4Z ?qk5Z; (case qk3Z => rfl); (case qk4Z => rfl); (case qk5Z => decide); (case qk6Z => rfl); (case qk9Z => rfl); (case qk1Z => assumption); (case qk2Z => k_is); (case qk7Z => boot_fast); (case qk8Z => decide); k_whole))) | (with_reducible (((with_reducible show wpAny _ _ (newTuple _) _ _ _); (k_here; refine newTuple_L (by k_asm) (by k_asm) ?_ (Nat.le_of_ble_eq_true rfl); intro a9 h9 F9 N9 f9 k9; (try dsimp only))))) | (with_reducible (((with_reducible show wpAny _ _ (execs (Stmt.Assign _ _ _ :: _) _) _ _ _); refine wpAny_execs_cons ?_))) | (with_reducible (((with_reducible show TurnE _ _ _ _ _ _ _ _ _ _ _ _ _ _ _); dsimp only [TurnE]))) | (with_reducible ((k_here; (with_reducible show wpAny _ _ (call (Value.builtin "len") [Value.ref _]) _ _ _); refine len_tup_ints (IsTup.keeps (by assumption) (Fr.keep (by k_asm))) (by assumption) (by assumption) ?_))) | walk1); all_goals (try dsimp only)) | dsimp only))
  rename Fr _ _ _ _ => F1
  rename News _ _ _ _ => N1
  rename IsRange _ _ _ _ _ _ _ _ => r1
  rename (∀ b o, h.get? b = some o → _) => k1
  have hM1 := M.keeps (nw_keep (X := [L, L + 1 + 1 + 1, 82]) fun b o _ e => k1 b o e)
  refine' forRange (σ := Obj) (fun c => [(L + 1 + 1 + 1, c), (82, tabObj ps)]) (fun _ => []) [] (fun i c d => Made d L tx sz mk co te ts zs ∧ ∃ v, c.data = .cell v) o3 rfl r1 rfl rfl F1 N1 ?hk (fun _ _ _ _ h k => ⟨h.1.keeps k, h.2⟩) ⟨hM1, v3, h3⟩ ?turn ?done
  case hk => exact fun _ h => nomatch h
  case turn =>
    intro c i I t' u' h' tk' rest hk ho hP hall hI F' N'
    obtain ⟨oI, hI⟩ := hI
    replace N' : News H L h' ((L + 1 + 1 + 1, c) :: (82, tabObj ps) :: rest) := N'
    obtain ⟨hM, v, hv⟩ := hP
    have hi7 : i < 7 := by omega
    have R : RestIn (nw H (L :: ([I] ++ [L + 1 + 1 + 1, 82])) h') rest := ⟨fun b o e => hall b o (nw_mono (fun b hb => by
      rcases List.mem_cons.mp hb with q | q
      · exact q ▸ List.mem_cons_self
      · exact List.mem_cons_of_mem _ (List.mem_append_right _ q)) b o e)⟩
    have hM : Made (nw H (L :: ([I] ++ [L + 1 + 1 + 1, 82])) h') L tx sz mk co te ts zs := hM
    have hend : ∀ h'' nws, News H L h'' nws → (∀ p ∈ rest, p ∈ nws) → Made (nw H (L :: ([I] ++ [L + 1 + 1 + 1, 82])) h'') L tx sz mk co te ts zs := fun h'' nws N'' hr => hM.keeps (sub_rest hall N'' hr)
    generalize nw H (L :: ([I] ++ [L + 1 + 1 + 1, 82])) h' = g at hM R
    obtain ⟨⟨tvs, tn, t1, t2⟩, ⟨svs, sn, s1, s2⟩, ⟨mvs, mn, m1, m2⟩, ⟨cvs, cn, c1, c2⟩, ⟨evs, en, e1, e2⟩, ⟨o2, q1, q2⟩⟩ := hM
    obtain ⟨l, hl⟩ : ∃ l, ts[i]? = some l := ⟨_, List.getElem?_eq_getElem (by omega)⟩
    have hfl := hfit l (List.mem_of_getElem? hl)
    rw [Int.zero_add] at F'
    obtain ⟨mv, hmv, x, rfl, Wx⟩ := m2.get hl
    (repeat' (first | (k_unfold; (try dsimp only)) | ((fail_if_success (with_reducible show wpAny _ _ (pyIter _) _ _ _)); (fail_if_success (with_reducible show wpAny _ _ (subscriptTail _ _ _ _) _ _ _)); (fail_if_success (with_reducible show wpAny _ _ (compareOp _ (Value.ref _) _) _ _ _)); (fail_if_success (with_reducible show wpAny _ _ (eval (Expr.ListComp _ _ _ _) _) _ _ _)); (fail_if_success (with_reducible show wpAny _ _ (exec (Stmt.Assign _ (Expr.ListComp _ _ _ _) _) _) _ _ _)); (first | ((with_reducible show wpAny _ _ (exec (Stmt.For _ _ _ _ _) _) _ _ _); k_dflt (refine For_d ?_ (fun _ => rfl))) | ((with_reducible show wpAny _ _ (call (Value.ref 38) _) _ _ _); (try simp only [List.cons_append, List.nil_append]); (rename Fr _ _ _ _ => cF); (rename News _ _ _ _ => cN); refine' wk (longest_spec ?qgZ ?qwZ ?_) rfl (Nat.le_of_ble_eq_true rfl) (Nat.le_of_ble_eq_true rfl); (case qgZ => exact Gd.keeps (by assumption) (Fr.keep cF)); (case qwZ => exact WS.keeps (by assumption) (RestIn.sub (by assumption) cN (by intro p hp; k_mem))); (intro t9 s9 k9; obtain ⟨h9, tk9, e9, k9⟩ := k9; subst e9; have F9 := Fr.keeps cF k9; have N9 := News.grown cN k9; clear cF cN; try dsimp only)) | ((with_reducible show wpAny _ _ (eval (Expr.Name _ _) (compEnvC _ _ _ _)) _ _ _); k_dflt (first | (refine' nmL ?qk1Z ?qk2Z ?_ ?qk3Z ?qk4Z ?qk5Z; (case qk3Z => rfl); (case qk4Z => rfl); (case qk5Z => decide); (case qk1Z => k_asm); (case qk2Z => rfl); k_whole) | (refine' nmC ?qk1Z ?qk2Z ?qk6Z ?_ ?qk3Z ?qk4Z ?qk5Z; (case qk3Z => rfl); (case qk4Z => rfl); (case qk5Z => decide); (case qk6Z => rfl); (case qk1Z => assumption); (case qk2Z => assumption); k_whole) | (refine' nmG ?qk1Z ?qk2Z ?_ ?qk6Z ?qk3Z ?qk4Z ?qk5Z; (case qk3Z => rfl); (case qk4Z => rfl); (case qk5Z => decide); (case qk6Z => rfl); (case qk1Z => assumption); (case qk2Z => k_is); k_whole) | (refine' nmB ?qk1Z ?qk2Z ?qk7Z ?qk8Z ?_ ?qk6Z ?qk9Z ?qk3Z ?qk4Z ?qk5Z; (case qk3Z => rfl); (case qk4Z => rfl); (case qk5Z => decide); (case qk6Z => rfl); (case qk9Z => rfl); (case qk1Z => assumption); (case qk2Z => k_is); (case qk7Z => boot_fast); (case qk8Z => decide); k_whole))) | (with_reducible (((with_reducible show wpAny _ _ (newTuple _) _ _ _); (k_here; refine newTuple_L (by k_asm) (by k_asm) ?_ (Nat.le_of_ble_eq_true rfl); intro a9 h9 F9 N9 f9 k9; (try dsimp only))))) | (with_reducible (((with_reducible show wpAny _ _ (execs (Stmt.Assign _ _ _ :: _) _) _ _ _); refine wpAny_execs_cons ?_))) | (with_reducible (((with_reducible show TurnE _ _ _ _ _ _ _ _ _ _ _ _ _ _ _); dsimp only [TurnE]))) | (with_reducible ((k_here; (with_reducible show wpAny _ _ (call (Value.builtin "len") [Value.ref _]) _ _ _); refine len_tup_ints (IsTup.keeps (by assumption) (Fr.keep (by k_asm))) (by assumption) (by assumption) ?_))) | walk1); all_goals (try dsimp only)) | dsimp only))
    refine item_litK (s := Shared.mk _ _ _ _ _) ⟨_, (N' _ (.tail _ (.tail _ (R.mem _ _ m1)))).1, rfl, _, rfl⟩ (Int.natCast_nonneg i) (by omega) (by rw [Int.toNat_natCast]; exact hmv) ?_ (by with_unfolding_all rfl)
    refine' stCell (s := Shared.mk _ _ _ _ _) F' N' ?hc hv ?ap ?_ ?hk ?hl
    case hc => rfl
    case hk => rfl
    case hl => rfl
    case ap => exact List.forall_mem_cons.mpr ⟨.inr fun _ e => (nomatch e), fun p hp => .inl (ho p hp _ (.head _))⟩
    intro h6 c6 F6 N6 hd6
    clear F' N' hall hI
    have WA := Wx
    obtain ⟨dx, xn, xc, kk, x1, x2, x3, x4, x5, k1', k2', k3', k4', k5', y1, y2, y3, y4, vs', a1, a2, a3, a4, a5, a6, a7, a8, a9, aA, aB⟩ := Wx
    dsimp only
    (repeat' (first | (k_unfold; (try dsimp only)) | ((fail_if_success (with_reducible show wpAny _ _ (pyIter _) _ _ _)); (fail_if_success (with_reducible show wpAny _ _ (subscriptTail _ _ _ _) _ _ _)); (fail_if_success (with_reducible show wpAny _ _ (compareOp _ (Value.ref _) _) _ _ _)); (fail_if_success (with_reducible show wpAny _ _ (eval (Expr.ListComp _ _ _ _) _) _ _ _)); (fail_if_success (with_reducible show wpAny _ _ (exec (Stmt.Assign _ (Expr.ListComp _ _ _ _) _) _) _ _ _)); (first | ((with_reducible show wpAny _ _ (exec (Stmt.For _ _ _ _ _) _) _ _ _); k_dflt (refine For_d ?_ (fun _ => rfl))) | ((with_reducible show wpAny _ _ (call (Value.ref 38) _) _ _ _); (try simp only [List.cons_append, List.nil_append]); (rename Fr _ _ _ _ => cF); (rename News _ _ _ _ => cN); refine' wk (longest_spec ?qgZ ?qwZ ?_) rfl (Nat.le_of_ble_eq_true rfl) (Nat.le_of_ble_eq_true rfl); (case qgZ => exact Gd.keeps (by assumption) (Fr.keep cF)); (case qwZ => exact WS.keeps (by assumption) (RestIn.sub (by assumption) cN (by intro p hp; k_mem))); (intro t9 s9 k9; obtain ⟨h9, tk9, e9, k9⟩ := k9; subst e9; have F9 := Fr.keeps cF k9; have N9 := News.grown cN k9; clear cF cN; try dsimp only)) | ((with_reducible show wpAny _ _ (eval (Expr.Name _ _) (compEnvC _ _ _ _)) _ _ _); k_dflt (first | (refine' nmL ?qk1Z ?qk2Z ?_ ?qk3Z ?qk4Z ?qk5Z; (case qk3Z => rfl); (case qk4Z => rfl); (case qk5Z => decide); (case qk1Z => k_asm); (case qk2Z => rfl); k_whole) | (refine' nmC ?qk1Z ?qk2Z ?qk6Z ?_ ?qk3Z ?qk4Z ?qk5Z; (case qk3Z => rfl); (case qk4Z => rfl); (case qk5Z => decide); (case qk6Z => rfl); (case qk1Z => assumption); (case qk2Z => assumption); k_whole) | (refine' nmG ?qk1Z ?qk2Z ?_ ?qk6Z ?qk3Z ?qk4Z ?qk5Z; (case qk3Z => rfl); (case qk4Z => rfl); (case qk5Z => decide); (case qk6Z => rfl); (case qk1Z => assumption); (case qk2Z => k_is); k_whole) | (refine' nmB ?qk1Z ?qk2Z ?qk7Z ?qk8Z ?_ ?qk6Z ?qk9Z ?qk3Z ?qk4Z ?qk5Z; (case qk3Z => rfl); (case qk4Z => rfl); (case qk5Z => decide); (case qk6Z => rfl); (case qk9Z => rfl); (case qk1Z => assumption); (case qk2Z => k_is); (case qk7Z => boot_fast); (case qk8Z => decide); k_whole))) | (with_reducible (((with_reducible show wpAny _ _ (newTuple _) _ _ _); (k_here; refine newTuple_L (by k_asm) (by k_asm) ?_ (Nat.le_of_ble_eq_true rfl); intro a9 h9 F9 N9 f9 k9; (try dsimp only))))) | (with_reducible (((with_reducible show wpAny _ _ (execs (Stmt.Assign _ _ _ :: _) _) _ _ _); refine wpAny_execs_cons ?_))) | (with_reducible (((with_reducible show TurnE _ _ _ _ _ _ _ _ _ _ _ _ _ _ _); dsimp only [TurnE]))) | (with_reducible ((k_here; (with_reducible show wpAny _ _ (call (Value.builtin "len") [Value.ref _]) _ _ _); refine len_tup_ints (IsTup.keeps (by assumption) (Fr.keep (by k_asm))) (by assumption) (by assumption) ?_))) | walk1); all_goals (try dsimp only)) | dsimp only))
    rename Fr _ _ _ _ => F7
    rename News _ _ _ _ => N7
    have hg7 := R.sub N7 (by intro p hp; k_mem)
    obtain ⟨ev, hev, rev⟩ := e2.get (i := i) (d := toldD l) (by rw [List.getElem?_map, hl]; rfl)
    refine item_litK (s := Shared.mk _ _ _ _ _) ⟨_, hg7 _ _ e1, rfl, _, rfl⟩ (Int.natCast_nonneg i) (by omega) (by rw [Int.toNat_natCast]; exact hev) ?_ (by with_unfolding_all rfl)
    (repeat' (first | (k_unfold; (try dsimp only)) | ((fail_if_success (with_reducible show wpAny _ _ (pyIter _) _ _ _)); (fail_if_success (with_reducible show wpAny _ _ (subscriptTail _ _ _ _) _ _ _)); (fail_if_success (with_reducible show wpAny _ _ (compareOp _ (Value.ref _) _) _ _ _)); (fail_if_success (with_reducible show wpAny _ _ (eval (Expr.ListComp _ _ _ _) _) _ _ _)); (fail_if_success (with_reducible show wpAny _ _ (exec (Stmt.Assign _ (Expr.ListComp _ _ _ _) _) _) _ _ _)); (first | ((with_reducible show wpAny _ _ (exec (Stmt.For _ _ _ _ _) _) _ _ _); k_dflt (refine For_d ?_ (fun _ => rfl))) | ((with_reducible show wpAny _ _ (call (Value.ref 38) _) _ _ _); (try simp only [List.cons_append, List.nil_append]); (rename Fr _ _ _ _ => cF); (rename News _ _ _ _ => cN); refine' wk (longest_spec ?qgZ ?qwZ ?_) rfl (Nat.le_of_ble_eq_true rfl) (Nat.le_of_ble_eq_true rfl); (case qgZ => exact Gd.keeps (by assumption) (Fr.keep cF)); (case qwZ => exact WS.keeps (by assumption) (RestIn.sub (by assumption) cN (by intro p hp; k_mem))); (intro t9 s9 k9; obtain ⟨h9, tk9, e9, k9⟩ := k9; subst e9; have F9 := Fr.keeps cF k9; have N9 := News.grown cN k9; clear cF cN; try dsimp only)) | ((with_reducible show wpAny _ _ (eval (Expr.Name _ _) (compEnvC _ _ _ _)) _ _ _); k_dflt (first | (refine' nmL ?qk1Z ?qk2Z ?_ ?qk3Z ?qk4Z ?qk5Z; (case qk3Z => rfl); (case qk4Z => rfl); (case qk5Z => decide); (case qk1Z => k_asm); (case qk2Z => rfl); k_whole) | (refine' nmC ?qk1Z ?qk2Z ?qk6Z ?_ ?qk3Z ?qk4Z ?qk5Z; (case qk3Z => rfl); (case qk4Z => rfl); (case qk5Z => decide); (case qk6Z => rfl); (case qk1Z => assumption); (case qk2Z => assumption); k_whole) | (refine' nmG ?qk1Z ?qk2Z ?_ ?qk6Z ?qk3Z ?qk4Z ?qk5Z; (case qk3Z => rfl); (case qk4Z => rfl); (case qk5Z => decide); (case qk6Z => rfl); (case qk1Z => assumption); (case qk2Z => k_is); k_whole) | (refine' nmB ?qk1Z ?qk2Z ?qk7Z ?qk8Z ?_ ?qk6Z ?qk9Z ?qk3Z ?qk4Z ?qk5Z; (case qk3Z => rfl); (case qk4Z => rfl); (case qk5Z => decide); (case qk6Z => rfl); (case qk9Z => rfl); (case qk1Z => assumption); (case qk2Z => k_is); (case qk7Z => boot_fast); (case qk8Z => decide); k_whole))) | (with_reducible (((with_reducible show wpAny _ _ (newTuple _) _ _ _); (k_here; refine newTuple_L (by k_asm) (by k_asm) ?_ (Nat.le_of_ble_eq_true rfl); intro a9 h9 F9 N9 f9 k9; (try dsimp only))))) | (with_reducible (((with_reducible show wpAny _ _ (execs (Stmt.Assign _ _ _ :: _) _) _ _ _); refine wpAny_execs_cons ?_))) | (with_reducible (((with_reducible show TurnE _ _ _ _ _ _ _ _ _ _ _ _ _ _ _); dsimp only [TurnE]))) | (with_reducible ((k_here; (with_reducible show wpAny _ _ (call (Value.builtin "len") [Value.ref _]) _ _ _); refine len_tup_ints (IsTup.keeps (by assumption) (Fr.keep (by k_asm))) (by assumption) (by assumption) ?_))) | walk1); all_goals (try dsimp only)) | dsimp only))
    refine itemT (s := Shared.mk _ _ _ _ _) (rev.keeps hg7) (by decide) (by decide) rfl ?_ (fun a => by with_unfolding_all rfl)
    intro v' hv'
    refine cmp_ne (s := Shared.mk _ _ _ _ _) (n := 9) (.tuple (vs := [_, _, _, _]) ⟨_, (N7 _ (.head _)).1, rfl, _, rfl⟩ (.cons (.int _ _) (.cons (.int _ _) (.cons (Rd.keeps hg7 (WS.norm a3 a4 a5)) (.cons (.int _ _) .nil))))) hv' ?ok1 ?ok2 (Nat.le_of_ble_eq_true rfl) ?_
    case ok1 => exact fourD_ok _ _ _ _ _
    case ok2 => exact fourD_ok _ _ _ _ _
    intro q hq
    obtain rfl : q = false := hq.mpr (by rw [hfl.top])
    clear hq
    (repeat' (first | (k_unfold; (try dsimp only)) | ((fail_if_success (with_reducible show wpAny _ _ (pyIter _) _ _ _)); (fail_if_success (with_reducible show wpAny _ _ (subscriptTail _ _ _ _) _ _ _)); (fail_if_success (with_reducible show wpAny _ _ (compareOp _ (Value.ref _) _) _ _ _)); (fail_if_success (with_reducible show wpAny _ _ (eval (Expr.ListComp _ _ _ _) _) _ _ _)); (fail_if_success (with_reducible show wpAny _ _ (exec (Stmt.Assign _ (Expr.ListComp _ _ _ _) _) _) _ _ _)); (first | ((with_reducible show wpAny _ _ (exec (Stmt.For _ _ _ _ _) _) _ _ _); k_dflt (refine For_d ?_ (fun _ => rfl))) | ((with_reducible show wpAny _ _ (call (Value.ref 38) _) _ _ _); (try simp only [List.cons_append, List.nil_append]); (rename Fr _ _ _ _ => cF); (rename News _ _ _ _ => cN); refine' wk (longest_spec ?qgZ ?qwZ ?_) rfl (Nat.le_of_ble_eq_true rfl) (Nat.le_of_ble_eq_true rfl); (case qgZ => exact Gd.keeps (by assumption) (Fr.keep cF)); (case qwZ => exact WS.keeps (by assumption) (RestIn.sub (by assumption) cN (by intro p hp; k_mem))); (intro t9 s9 k9; obtain ⟨h9, tk9, e9, k9⟩ := k9; subst e9; have F9 := Fr.keeps cF k9; have N9 := News.grown cN k9; clear cF cN; try dsimp only)) | ((with_reducible show wpAny _ _ (eval (Expr.Name _ _) (compEnvC _ _ _ _)) _ _ _); k_dflt (first | (refine' nmL ?qk1Z ?qk2Z ?_ ?qk3Z ?qk4Z ?qk5Z; (case qk3Z => rfl); (case qk4Z => rfl); (case qk5Z => decide); (case qk1Z => k_asm); (case qk2Z => rfl); k_whole) | (refine' nmC ?qk1Z ?qk2Z ?qk6Z ?_ ?qk3Z ?qk4Z ?qk5Z; (case qk3Z => rfl); (case qk4Z => rfl); (case qk5Z => decide); (case qk6Z => rfl); (case qk1Z => assumption); (case qk2Z => assumption); k_whole) | (refine' nmG ?qk1Z ?qk2Z ?_ ?qk6Z ?qk3Z ?qk4Z ?qk5Z; (case qk3Z => rfl); (case qk4Z => rfl); (case qk5Z => decide); (case qk6Z => rfl); (case qk1Z => assumption); (case qk2Z => k_is); k_whole) | (refine' nmB ?qk1Z ?qk2Z ?qk7Z ?qk8Z ?_ ?qk6Z ?qk9Z ?qk3Z ?qk4Z ?qk5Z; (case qk3Z => rfl); (case qk4Z => rfl); (case qk5Z => decide); (case qk6Z => rfl); (case qk9Z => rfl); (case qk1Z => assumption); (case qk2Z => k_is); (case qk7Z => boot_fast); (case qk8Z => decide); k_whole))) | (with_reducible (((with_reducible show wpAny _ _ (newTuple _) _ _ _); (k_here; refine newTuple_L (by k_asm) (by k_asm) ?_ (Nat.le_of_ble_eq_true rfl); intro a9 h9 F9 N9 f9 k9; (try dsimp only))))) | (with_reducible (((with_reducible show wpAny _ _ (execs (Stmt.Assign _ _ _ :: _) _) _ _ _); refine wpAny_execs_cons ?_))) | (with_reducible (((with_reducible show TurnE _ _ _ _ _ _ _ _ _ _ _ _ _ _ _); dsimp only [TurnE]))) | (with_reducible ((k_here; (with_reducible show wpAny _ _ (call (Value.builtin "len") [Value.ref _]) _ _ _); refine len_tup_ints (IsTup.keeps (by assumption) (Fr.keep (by k_asm))) (by assumption) (by assumption) ?_))) | walk1); all_goals (try dsimp only)) | dsimp only))
    obtain ⟨tt, htt⟩ := strs_get t2 (i := i) (x := Mine.T l) (by rw [List.getElem?_map, hl]; rfl)
    refine item_litK (s := Shared.mk _ _ _ _ _) ⟨_, hg7 _ _ t1, rfl, _, rfl⟩ (Int.natCast_nonneg i) (by omega) (by rw [Int.toNat_natCast]; exact htt) ?_ (by with_unfolding_all rfl)
    (repeat' (first | (k_unfold; (try dsimp only)) | ((fail_if_success (with_reducible show wpAny _ _ (pyIter _) _ _ _)); (fail_if_success (with_reducible show wpAny _ _ (subscriptTail _ _ _ _) _ _ _)); (fail_if_success (with_reducible show wpAny _ _ (compareOp _ (Value.ref _) _) _ _ _)); (fail_if_success (with_reducible show wpAny _ _ (eval (Expr.ListComp _ _ _ _) _) _ _ _)); (fail_if_success (with_reducible show wpAny _ _ (exec (Stmt.Assign _ (Expr.ListComp _ _ _ _) _) _) _ _ _)); (first | ((with_reducible show wpAny _ _ (exec (Stmt.For _ _ _ _ _) _) _ _ _); k_dflt (refine For_d ?_ (fun _ => rfl))) | ((with_reducible show wpAny _ _ (call (Value.ref 38) _) _ _ _); (try simp only [List.cons_append, List.nil_append]); (rename Fr _ _ _ _ => cF); (rename News _ _ _ _ => cN); refine' wk (longest_spec ?qgZ ?qwZ ?_) rfl (Nat.le_of_ble_eq_true rfl) (Nat.le_of_ble_eq_true rfl); (case qgZ => exact Gd.keeps (by assumption) (Fr.keep cF)); (case qwZ => exact WS.keeps (by assumption) (RestIn.sub (by assumption) cN (by intro p hp; k_mem))); (intro t9 s9 k9; obtain ⟨h9, tk9, e9, k9⟩ := k9; subst e9; have F9 := Fr.keeps cF k9; have N9 := News.grown cN k9; clear cF cN; try dsimp only)) | ((with_reducible show wpAny _ _ (eval (Expr.Name _ _) (compEnvC _ _ _ _)) _ _ _); k_dflt (first | (refine' nmL ?qk1Z ?qk2Z ?_ ?qk3Z ?qk4Z ?qk5Z; (case qk3Z => rfl); (case qk4Z => rfl); (case qk5Z => decide); (case qk1Z => k_asm); (case qk2Z => rfl); k_whole) | (refine' nmC ?qk1Z ?qk2Z ?qk6Z ?_ ?qk3Z ?qk4Z ?qk5Z; (case qk3Z => rfl); (case qk4Z => rfl); (case qk5Z => decide); (case qk6Z => rfl); (case qk1Z => assumption); (case qk2Z => assumption); k_whole) | (refine' nmG ?qk1Z ?qk2Z ?_ ?qk6Z ?qk3Z ?qk4Z ?qk5Z; (case qk3Z => rfl); (case qk4Z => rfl); (case qk5Z => decide); (case qk6Z => rfl); (case qk1Z => assumption); (case qk2Z => k_is); k_whole) | (refine' nmB ?qk1Z ?qk2Z ?qk7Z ?qk8Z ?_ ?qk6Z ?qk9Z ?qk3Z ?qk4Z ?qk5Z; (case qk3Z => rfl); (case qk4Z => rfl); (case qk5Z => decide); (case qk6Z => rfl); (case qk9Z => rfl); (case qk1Z => assumption); (case qk2Z => k_is); (case qk7Z => boot_fast); (case qk8Z => decide); k_whole))) | (with_reducible (((with_reducible show wpAny _ _ (newTuple _) _ _ _); (k_here; refine newTuple_L (by k_asm) (by k_asm) ?_ (Nat.le_of_ble_eq_true rfl); intro a9 h9 F9 N9 f9 k9; (try dsimp only))))) | (with_reducible (((with_reducible show wpAny _ _ (execs (Stmt.Assign _ _ _ :: _) _) _ _ _); refine wpAny_execs_cons ?_))) | (with_reducible (((with_reducible show TurnE _ _ _ _ _ _ _ _ _ _ _ _ _ _ _); dsimp only [TurnE]))) | (with_reducible ((k_here; (with_reducible show wpAny _ _ (call (Value.builtin "len") [Value.ref _]) _ _ _); refine len_tup_ints (IsTup.keeps (by assumption) (Fr.keep (by k_asm))) (by assumption) (by assumption) ?_))) | walk1); all_goals (try dsimp only)) | dsimp only))
    · rename (_ != _) = true => e9
      exact absurd e9 (by simp)
    refine item_litK (s := Shared.mk _ _ _ _ _) ⟨_, hg7 _ _ e1, rfl, _, rfl⟩ (Int.natCast_nonneg i) (by omega) (by rw [Int.toNat_natCast]; exact hev) ?_ (by with_unfolding_all rfl)
    (repeat' (first | (k_unfold; (try dsimp only)) | ((fail_if_success (with_reducible show wpAny _ _ (pyIter _) _ _ _)); (fail_if_success (with_reducible show wpAny _ _ (subscriptTail _ _ _ _) _ _ _)); (fail_if_success (with_reducible show wpAny _ _ (compareOp _ (Value.ref _) _) _ _ _)); (fail_if_success (with_reducible show wpAny _ _ (eval (Expr.ListComp _ _ _ _) _) _ _ _)); (fail_if_success (with_reducible show wpAny _ _ (exec (Stmt.Assign _ (Expr.ListComp _ _ _ _) _) _) _ _ _)); (first | ((with_reducible show wpAny _ _ (exec (Stmt.For _ _ _ _ _) _) _ _ _); k_dflt (refine For_d ?_ (fun _ => rfl))) | ((with_reducible show wpAny _ _ (call (Value.ref 38) _) _ _ _); (try simp only [List.cons_append, List.nil_append]); (rename Fr _ _ _ _ => cF); (rename News _ _ _ _ => cN); refine' wk (longest_spec ?qgZ ?qwZ ?_) rfl (Nat.le_of_ble_eq_true rfl) (Nat.le_of_ble_eq_true rfl); (case qgZ => exact Gd.keeps (by assumption) (Fr.keep cF)); (case qwZ => exact WS.keeps (by assumption) (RestIn.sub (by assumption) cN (by intro p hp; k_mem))); (intro t9 s9 k9; obtain ⟨h9, tk9, e9, k9⟩ := k9; subst e9; have F9 := Fr.keeps cF k9; have N9 := News.grown cN k9; clear cF cN; try dsimp only)) | ((with_reducible show wpAny _ _ (eval (Expr.Name _ _) (compEnvC _ _ _ _)) _ _ _); k_dflt (first | (refine' nmL ?qk1Z ?qk2Z ?_ ?qk3Z ?qk4Z ?qk5Z; (case qk3Z => rfl); (case qk4Z => rfl); (case qk5Z => decide); (case qk1Z => k_asm); (case qk2Z => rfl); k_whole) | (refine' nmC ?qk1Z ?qk2Z ?qk6Z ?_ ?qk3Z ?qk4Z ?qk5Z; (case qk3Z => rfl); (case qk4Z => rfl); (case qk5Z => decide); (case qk6Z => rfl); (case qk1Z => assumption); (case qk2Z => assumption); k_whole) | (refine' nmG ?qk1Z ?qk2Z ?_ ?qk6Z ?qk3Z ?qk4Z ?qk5Z; (case qk3Z => rfl); (case qk4Z => rfl); (case qk5Z => decide); (case qk6Z => rfl); (case qk1Z => assumption); (case qk2Z => k_is); k_whole) | (refine' nmB ?qk1Z ?qk2Z ?qk7Z ?qk8Z ?_ ?qk6Z ?qk9Z ?qk3Z ?qk4Z ?qk5Z; (case qk3Z => rfl); (case qk4Z => rfl); (case qk5Z => decide); (case qk6Z => rfl); (case qk9Z => rfl); (case qk1Z => assumption); (case qk2Z => k_is); (case qk7Z => boot_fast); (case qk8Z => decide); k_whole))) | (with_reducible (((with_reducible show wpAny _ _ (newTuple _) _ _ _); (k_here; refine newTuple_L (by k_asm) (by k_asm) ?_ (Nat.le_of_ble_eq_true rfl); intro a9 h9 F9 N9 f9 k9; (try dsimp only))))) | (with_reducible (((with_reducible show wpAny _ _ (execs (Stmt.Assign _ _ _ :: _) _) _ _ _); refine wpAny_execs_cons ?_))) | (with_reducible (((with_reducible show TurnE _ _ _ _ _ _ _ _ _ _ _ _ _ _ _); dsimp only [TurnE]))) | (with_reducible ((k_here; (with_reducible show wpAny _ _ (call (Value.builtin "len") [Value.ref _]) _ _ _); refine len_tup_ints (IsTup.keeps (by assumption) (Fr.keep (by k_asm))) (by assumption) (by assumption) ?_))) | walk1); all_goals (try dsimp only)) | dsimp only))
    refine itemT (s := Shared.mk _ _ _ _ _) (rev.keeps hg7) (by decide) (by decide) rfl ?_ (fun a => by with_unfolding_all rfl)
    intro v2 hv2
    cases hv2
    rw [hfl.simple]
    (repeat' (first | (k_unfold; (try dsimp only)) | ((fail_if_success (with_reducible show wpAny _ _ (pyIter _) _ _ _)); (fail_if_success (with_reducible show wpAny _ _ (subscriptTail _ _ _ _) _ _ _)); (fail_if_success (with_reducible show wpAny _ _ (compareOp _ (Value.ref _) _) _ _ _)); (fail_if_success (with_reducible show wpAny _ _ (eval (Expr.ListComp _ _ _ _) _) _ _ _)); (fail_if_success (with_reducible show wpAny _ _ (exec (Stmt.Assign _ (Expr.ListComp _ _ _ _) _) _) _ _ _)); (first | ((with_reducible show wpAny _ _ (exec (Stmt.For _ _ _ _ _) _) _ _ _); k_dflt (refine For_d ?_ (fun _ => rfl))) | ((with_reducible show wpAny _ _ (call (Value.ref 38) _) _ _ _); (try simp only [List.cons_append, List.nil_append]); (rename Fr _ _ _ _ => cF); (rename News _ _ _ _ => cN); refine' wk (longest_spec ?qgZ ?qwZ ?_) rfl (Nat.le_of_ble_eq_true rfl) (Nat.le_of_ble_eq_true rfl); (case qgZ => exact Gd.keeps (by assumption) (Fr.keep cF)); (case qwZ => exact WS.keeps (by assumption) (RestIn.sub (by assumption) cN (by intro p hp; k_mem))); (intro t9 s9 k9; obtain ⟨h9, tk9, e9, k9⟩ := k9; subst e9; have F9 := Fr.keeps cF k9; have N9 := News.grown cN k9; clear cF cN; try dsimp only)) | ((with_reducible show wpAny _ _ (eval (Expr.Name _ _) (compEnvC _ _ _ _)) _ _ _); k_dflt (first | (refine' nmL ?qk1Z ?qk2Z ?_ ?qk3Z ?qk4Z ?qk5Z; (case qk3Z => rfl); (case qk4Z => rfl); (case qk5Z => decide); (case qk1Z => k_asm); (case qk2Z => rfl); k_whole) | (refine' nmC ?qk1Z ?qk2Z ?qk6Z ?_ ?qk3Z ?qk4Z ?qk5Z; (case qk3Z => rfl); (case qk4Z => rfl); (case qk5Z => decide); (case qk6Z => rfl); (case qk1Z => assumption); (case qk2Z => assumption); k_whole) | (refine' nmG ?qk1Z ?qk2Z ?_ ?qk6Z ?qk3Z ?qk4Z ?qk5Z; (case qk3Z => rfl); (case qk4Z => rfl); (case qk5Z => decide); (case qk6Z => rfl); (case qk1Z => assumption); (case qk2Z => k_is); k_whole) | (refine' nmB ?qk1Z ?qk2Z ?qk7Z ?qk8Z ?_ ?qk6Z ?qk9Z ?qk3Z ?qk4Z ?qk5Z; (case qk3Z => rfl); (case qk4Z => rfl); (case qk5Z => decide); (case qk6Z => rfl); (case qk9Z => rfl); (case qk1Z => assumption); (case qk2Z => k_is); (case qk7Z => boot_fast); (case qk8Z => decide); k_whole))) | (with_reducible (((with_reducible show wpAny _ _ (newTuple _) _ _ _); (k_here; refine newTuple_L (by k_asm) (by k_asm) ?_ (Nat.le_of_ble_eq_true rfl); intro a9 h9 F9 N9 f9 k9; (try dsimp only))))) | (with_reducible (((with_reducible show wpAny _ _ (execs (Stmt.Assign _ _ _ :: _) _) _ _ _); refine wpAny_execs_cons ?_))) | (with_reducible (((with_reducible show TurnE _ _ _ _ _ _ _ _ _ _ _ _ _ _ _); dsimp only [TurnE]))) | (with_reducible ((k_here; (with_reducible show wpAny _ _ (call (Value.builtin "len") [Value.ref _]) _ _ _); refine len_tup_ints (IsTup.keeps (by assumption) (Fr.keep (by k_asm))) (by assumption) (by assumption) ?_))) | walk1); all_goals (try dsimp only)) | dsimp only))
    · rename (_ != _) = true => e9
      exact absurd e9 (by simp)
    refine' lcEval (cl := [(Str.ofString "mark", L + 1 + 1 + 1)]) ?clos ?cell ?kind ?names ?hx ?h ?hs
    case clos => with_unfolding_all rfl
    case cell => decide
    case kind => rfl
    case names => decide
    case hx => rfl
    case hs => intro _; with_unfolding_all rfl
    (repeat' (first | (k_unfold; (try dsimp only)) | ((fail_if_success (with_reducible show wpAny _ _ (pyIter _) _ _ _)); (fail_if_success (with_reducible show wpAny _ _ (subscriptTail _ _ _ _) _ _ _)); (fail_if_success (with_reducible show wpAny _ _ (compareOp _ (Value.ref _) _) _ _ _)); (fail_if_success (with_reducible show wpAny _ _ (eval (Expr.ListComp _ _ _ _) _) _ _ _)); (fail_if_success (with_reducible show wpAny _ _ (exec (Stmt.Assign _ (Expr.ListComp _ _ _ _) _) _) _ _ _)); (first | ((with_reducible show wpAny _ _ (exec (Stmt.For _ _ _ _ _) _) _ _ _); k_dflt (refine For_d ?_ (fun _ => rfl))) | ((with_reducible show wpAny _ _ (call (Value.ref 38) _) _ _ _); (try simp only [List.cons_append, List.nil_append]); (rename Fr _ _ _ _ => cF); (rename News _ _ _ _ => cN); refine' wk (longest_spec ?qgZ ?qwZ ?_) rfl (Nat.le_of_ble_eq_true rfl) (Nat.le_of_ble_eq_true rfl); (case qgZ => exact Gd.keeps (by assumption) (Fr.keep cF)); (case qwZ => exact WS.keeps (by assumption) (RestIn.sub (by assumption) cN (by intro p hp; k_mem))); (intro t9 s9 k9; obtain ⟨h9, tk9, e9, k9⟩ := k9; subst e9; have F9 := Fr.keeps cF k9; have N9 := News.grown cN k9; clear cF cN; try dsimp only)) | ((with_reducible show wpAny _ _ (eval (Expr.Name _ _) (compEnvC _ _ _ _)) _ _ _); k_dflt (first | (refine' nmL ?qk1Z ?qk2Z ?_ ?qk3Z ?qk4Z ?qk5Z; (case qk3Z => rfl); (case qk4Z => rfl); (case qk5Z => decide); (case qk1Z => k_asm); (case qk2Z => rfl); k_whole) | (refine' nmC ?qk1Z ?qk2Z ?qk6Z ?_ ?qk3Z ?qk4Z ?qk5Z; (case qk3Z => rfl); (case qk4Z => rfl); (case qk5Z => decide); (case qk6Z => rfl); (case qk1Z => assumption); (case qk2Z => assumption); k_whole) | (refine' nmG ?qk1Z ?qk2Z ?_ ?qk6Z ?qk3Z ?qk4Z ?qk5Z; (case qk3Z => rfl); (case qk4Z => rfl); (case qk5Z => decide); (case qk6Z => rfl); (case qk1Z => assumption); (case qk2Z => k_is); k_whole) | (refine' nmB ?qk1Z ?qk2Z ?qk7Z ?qk8Z ?_ ?qk6Z ?qk9Z ?qk3Z ?qk4Z ?qk5Z; (case qk3Z => rfl); (case qk4Z => rfl); (case qk5Z => decide); (case qk6Z => rfl); (case qk9Z => rfl); (case qk1Z => assumption); (case qk2Z => k_is); (case qk7Z => boot_fast); (case qk8Z => decide); k_whole))) | (with_reducible (((with_reducible show wpAny _ _ (newTuple _) _ _ _); (k_here; refine newTuple_L (by k_asm) (by k_asm) ?_ (Nat.le_of_ble_eq_true rfl); intro a9 h9 F9 N9 f9 k9; (try dsimp only))))) | (with_reducible (((with_reducible show wpAny _ _ (execs (Stmt.Assign _ _ _ :: _) _) _ _ _); refine wpAny_execs_cons ?_))) | (with_reducible (((with_reducible show TurnE _ _ _ _ _ _ _ _ _ _ _ _ _ _ _); dsimp only [TurnE]))) | (with_reducible ((k_here; (with_reducible show wpAny _ _ (call (Value.builtin "len") [Value.ref _]) _ _ _); refine len_tup_ints (IsTup.keeps (by assumption) (Fr.keep (by k_asm))) (by assumption) (by assumption) ?_))) | walk1); all_goals (try dsimp only)) | dsimp only))
    refine src_list rfl ⟨_, hg7 _ _ s1, rfl, _, rfl⟩ ?_
    intro it2 s₄ hsrc2
    have hzv := s2.length
    refine ⟨_, _, _, fun i ys _ => IntsAre ys ((zs.map fun s => colOf s l 0).take i), hsrc2, (by omega), (fun _ _ _ _ h _ => h), (fun _ => .nil), LcTurn.plain ?turn2, ?done2⟩
    case turn2 =>
      intro C2 X2 j v2 ys2 s₅ m₅ E5 hX2 hj hv2 hy2 hR2 F5 N5
      obtain ⟨n, t6, hn, rfl⟩ := ints_at s2 hv2
      obtain ⟨hn1, hn2⟩ := hfl.one n (List.mem_of_getElem? hn)
      have G5 : Gd w.params s₅.heap := G.keeps fun b o e => F5.keep b o (F7.keep b o e)
      have hc5 := F5.keep _ _ (N7 (L + 1 + 1 + 1, c6) (by k_mem)).1
      have X9 := (G.keeps F7.keep).k
      have b1 := hg7 _ _ a1
      have b2 := hg7 _ _ a2
      have W5 := WA.keeps fun b o e => F5.keep b o (hg7 b o e)
      clear F7 N7 a1 a2
      (repeat' (first | (k_unfold; (try dsimp only)) | ((fail_if_success (with_reducible show wpAny _ _ (pyIter _) _ _ _)); (fail_if_success (with_reducible show wpAny _ _ (subscriptTail _ _ _ _) _ _ _)); (fail_if_success (with_reducible show wpAny _ _ (compareOp _ (Value.ref _) _) _ _ _)); (fail_if_success (with_reducible show wpAny _ _ (eval (Expr.ListComp _ _ _ _) _) _ _ _)); (fail_if_success (with_reducible show wpAny _ _ (exec (Stmt.Assign _ (Expr.ListComp _ _ _ _) _) _) _ _ _)); (first | ((with_reducible show wpAny _ _ (exec (Stmt.For _ _ _ _ _) _) _ _ _); k_dflt (refine For_d ?_ (fun _ => rfl))) | ((with_reducible show wpAny _ _ (call (Value.ref 38) _) _ _ _); (try simp only [List.cons_append, List.nil_append]); (rename Fr _ _ _ _ => cF); (rename News _ _ _ _ => cN); refine' wk (longest_spec ?qgZ ?qwZ ?_) rfl (Nat.le_of_ble_eq_true rfl) (Nat.le_of_ble_eq_true rfl); (case qgZ => exact Gd.keeps (by assumption) (Fr.keep cF)); (case qwZ => exact WS.keeps (by assumption) (RestIn.sub (by assumption) cN (by intro p hp; k_mem))); (intro t9 s9 k9; obtain ⟨h9, tk9, e9, k9⟩ := k9; subst e9; have F9 := Fr.keeps cF k9; have N9 := News.grown cN k9; clear cF cN; try dsimp only)) | ((with_reducible show wpAny _ _ (eval (Expr.Name _ _) (compEnvC _ _ _ _)) _ _ _); k_dflt (first | (refine' nmL ?qk1Z ?qk2Z ?_ ?qk3Z ?qk4Z ?qk5Z; (case qk3Z => rfl); (case qk4Z => rfl); (case qk5Z => decide); (case qk1Z => k_asm); (case qk2Z => rfl); k_whole) | (refine' nmC ?qk1Z ?qk2Z ?qk6Z ?_ ?qk3Z ?qk4Z ?qk5Z; (case qk3Z => rfl); (case qk4Z => rfl); (case qk5Z => decide); (case qk6Z => rfl); (case qk1Z => assumption); (case qk2Z => assumption); k_whole) | (refine' nmG ?qk1Z ?qk2Z ?_ ?qk6Z ?qk3Z ?qk4Z ?qk5Z; (case qk3Z => rfl); (case qk4Z => rfl); (case qk5Z => decide); (case qk6Z => rfl); (case qk1Z => assumption); (case qk2Z => k_is); k_whole) | (refine' nmB ?qk1Z ?qk2Z ?qk7Z ?qk8Z ?_ ?qk6Z ?qk9Z ?qk3Z ?qk4Z ?qk5Z; (case qk3Z => rfl); (case qk4Z => rfl); (case qk5Z => decide); (case qk6Z => rfl); (case qk9Z => rfl); (case qk1Z => assumption); (case qk2Z => k_is); (case qk7Z => boot_fast); (case qk8Z => decide); k_whole))) | (with_reducible (((with_reducible show wpAny _ _ (newTuple _) _ _ _); (k_here; refine newTuple_L (by k_asm) (by k_asm) ?_ (Nat.le_of_ble_eq_true rfl); intro a9 h9 F9 N9 f9 k9; (try dsimp only))))) | (with_reducible (((with_reducible show wpAny _ _ (execs (Stmt.Assign _ _ _ :: _) _) _ _ _); refine wpAny_execs_cons ?_))) | (with_reducible (((with_reducible show TurnE _ _ _ _ _ _ _ _ _ _ _ _ _ _ _); dsimp only [TurnE]))) | (with_reducible ((k_here; (with_reducible show wpAny _ _ (call (Value.builtin "len") [Value.ref _]) _ _ _); refine len_tup_ints (IsTup.keeps (by assumption) (Fr.keep (by k_asm))) (by assumption) (by assumption) ?_))) | walk1); all_goals (try dsimp only)) | dsimp only))
      refine wk (indent_spec G5 W5 hn1 ?_) rfl (Nat.le_of_ble_eq_true rfl) (Nat.le_of_ble_eq_true rfl)
      intro t7 s7 k7
      refine ⟨k7, ?_⟩
      rw [take_snoc (a := colOf n l 0) (by rw [List.getElem?_map, hn]; rfl), hn2]
      exact ints_snoc hR2
    case done2 =>
      intro D2 h8 tk8 ys8 hD8 hl8 hR8 k8
      obtain ⟨n8, hl8⟩ := hl8
      rw [List.take_of_length_le (by rw [List.length_map]; omega)] at hR8
      have F8 := Fr.keeps F7 k8
      have N8 := add_news F7 (News.grown N7 k8) hD8 hl8
      have hg8 := R.sub N8 (by intro p hp; k_mem)
      clear F7 N7 hg7
      dsimp only
      (repeat' (first | (k_unfold; (try dsimp only)) | ((fail_if_success (with_reducible show wpAny _ _ (pyIter _) _ _ _)); (fail_if_success (with_reducible show wpAny _ _ (subscriptTail _ _ _ _) _ _ _)); (fail_if_success (with_reducible show wpAny _ _ (compareOp _ (Value.ref _) _) _ _ _)); (fail_if_success (with_reducible show wpAny _ _ (eval (Expr.ListComp _ _ _ _) _) _ _ _)); (fail_if_success (with_reducible show wpAny _ _ (exec (Stmt.Assign _ (Expr.ListComp _ _ _ _) _) _) _ _ _)); (first | ((with_reducible show wpAny _ _ (exec (Stmt.For _ _ _ _ _) _) _ _ _); k_dflt (refine For_d ?_ (fun _ => rfl))) | ((with_reducible show wpAny _ _ (call (Value.ref 38) _) _ _ _); (try simp only [List.cons_append, List.nil_append]); (rename Fr _ _ _ _ => cF); (rename News _ _ _ _ => cN); refine' wk (longest_spec ?qgZ ?qwZ ?_) rfl (Nat.le_of_ble_eq_true rfl) (Nat.le_of_ble_eq_true rfl); (case qgZ => exact Gd.keeps (by assumption) (Fr.keep cF)); (case qwZ => exact WS.keeps (by assumption) (RestIn.sub (by assumption) cN (by intro p hp; k_mem))); (intro t9 s9 k9; obtain ⟨h9, tk9, e9, k9⟩ := k9; subst e9; have F9 := Fr.keeps cF k9; have N9 := News.grown cN k9; clear cF cN; try dsimp only)) | ((with_reducible show wpAny _ _ (eval (Expr.Name _ _) (compEnvC _ _ _ _)) _ _ _); k_dflt (first | (refine' nmL ?qk1Z ?qk2Z ?_ ?qk3Z ?qk4Z ?qk5Z; (case qk3Z => rfl); (case qk4Z => rfl); (case qk5Z => decide); (case qk1Z => k_asm); (case qk2Z => rfl); k_whole) | (refine' nmC ?qk1Z ?qk2Z ?qk6Z ?_ ?qk3Z ?qk4Z ?qk5Z; (case qk3Z => rfl); (case qk4Z => rfl); (case qk5Z => decide); (case qk6Z => rfl); (case qk1Z => assumption); (case qk2Z => assumption); k_whole) | (refine' nmG ?qk1Z ?qk2Z ?_ ?qk6Z ?qk3Z ?qk4Z ?qk5Z; (case qk3Z => rfl); (case qk4Z => rfl); (case qk5Z => decide); (case qk6Z => rfl); (case qk1Z => assumption); (case qk2Z => k_is); k_whole) | (refine' nmB ?qk1Z ?qk2Z ?qk7Z ?qk8Z ?_ ?qk6Z ?qk9Z ?qk3Z ?qk4Z ?qk5Z; (case qk3Z => rfl); (case qk4Z => rfl); (case qk5Z => decide); (case qk6Z => rfl); (case qk9Z => rfl); (case qk1Z => assumption); (case qk2Z => k_is); (case qk7Z => boot_fast); (case qk8Z => decide); k_whole))) | (with_reducible (((with_reducible show wpAny _ _ (newTuple _) _ _ _); (k_here; refine newTuple_L (by k_asm) (by k_asm) ?_ (Nat.le_of_ble_eq_true rfl); intro a9 h9 F9 N9 f9 k9; (try dsimp only))))) | (with_reducible (((with_reducible show wpAny _ _ (execs (Stmt.Assign _ _ _ :: _) _) _ _ _); refine wpAny_execs_cons ?_))) | (with_reducible (((with_reducible show TurnE _ _ _ _ _ _ _ _ _ _ _ _ _ _ _); dsimp only [TurnE]))) | (with_reducible ((k_here; (with_reducible show wpAny _ _ (call (Value.builtin "len") [Value.ref _]) _ _ _); refine len_tup_ints (IsTup.keeps (by assumption) (Fr.keep (by k_asm))) (by assumption) (by assumption) ?_))) | walk1); all_goals (try dsimp only)) | dsimp only))
      obtain ⟨cv, hcv, rcv⟩ := c2.get (i := i) (d := colD zs l) (by rw [List.getElem?_map, hl]; rfl)
      refine item_litK (s := Shared.mk _ _ _ _ _) ⟨_, hg8 _ _ c1, rfl, _, rfl⟩ (Int.natCast_nonneg i) (by omega) (by rw [Int.toNat_natCast]; exact hcv) ?_ (by with_unfolding_all rfl)
      refine cmp_ne (s := Shared.mk _ _ _ _ _) (n := 9) (.list (vs := ys8) ⟨_, hl8, rfl, _, rfl⟩ (RdAll.ofInts hR8)) (rcv.keeps hg8) (colD_ok _ _) (colD_ok _ _) (Nat.le_of_ble_eq_true rfl) ?_
      intro q hq
      obtain rfl : q = false := hq.mpr rfl
      clear hq
      (repeat' (first | (k_unfold; (try dsimp only)) | ((fail_if_success (with_reducible show wpAny _ _ (pyIter _) _ _ _)); (fail_if_success (with_reducible show wpAny _ _ (subscriptTail _ _ _ _) _ _ _)); (fail_if_success (with_reducible show wpAny _ _ (compareOp _ (Value.ref _) _) _ _ _)); (fail_if_success (with_reducible show wpAny _ _ (eval (Expr.ListComp _ _ _ _) _) _ _ _)); (fail_if_success (with_reducible show wpAny _ _ (exec (Stmt.Assign _ (Expr.ListComp _ _ _ _) _) _) _ _ _)); (first | ((with_reducible show wpAny _ _ (exec (Stmt.For _ _ _ _ _) _) _ _ _); k_dflt (refine For_d ?_ (fun _ => rfl))) | ((with_reducible show wpAny _ _ (call (Value.ref 38) _) _ _ _); (try simp only [List.cons_append, List.nil_append]); (rename Fr _ _ _ _ => cF); (rename News _ _ _ _ => cN); refine' wk (longest_spec ?qgZ ?qwZ ?_) rfl (Nat.le_of_ble_eq_true rfl) (Nat.le_of_ble_eq_true rfl); (case qgZ => exact Gd.keeps (by assumption) (Fr.keep cF)); (case qwZ => exact WS.keeps (by assumption) (RestIn.sub (by assumption) cN (by intro p hp; k_mem))); (intro t9 s9 k9; obtain ⟨h9, tk9, e9, k9⟩ := k9; subst e9; have F9 := Fr.keeps cF k9; have N9 := News.grown cN k9; clear cF cN; try dsimp only)) | ((with_reducible show wpAny _ _ (eval (Expr.Name _ _) (compEnvC _ _ _ _)) _ _ _); k_dflt (first | (refine' nmL ?qk1Z ?qk2Z ?_ ?qk3Z ?qk4Z ?qk5Z; (case qk3Z => rfl); (case qk4Z => rfl); (case qk5Z => decide); (case qk1Z => k_asm); (case qk2Z => rfl); k_whole) | (refine' nmC ?qk1Z ?qk2Z ?qk6Z ?_ ?qk3Z ?qk4Z ?qk5Z; (case qk3Z => rfl); (case qk4Z => rfl); (case qk5Z => decide); (case qk6Z => rfl); (case qk1Z => assumption); (case qk2Z => assumption); k_whole) | (refine' nmG ?qk1Z ?qk2Z ?_ ?qk6Z ?qk3Z ?qk4Z ?qk5Z; (case qk3Z => rfl); (case qk4Z => rfl); (case qk5Z => decide); (case qk6Z => rfl); (case qk1Z => assumption); (case qk2Z => k_is); k_whole) | (refine' nmB ?qk1Z ?qk2Z ?qk7Z ?qk8Z ?_ ?qk6Z ?qk9Z ?qk3Z ?qk4Z ?qk5Z; (case qk3Z => rfl); (case qk4Z => rfl); (case qk5Z => decide); (case qk6Z => rfl); (case qk9Z => rfl); (case qk1Z => assumption); (case qk2Z => k_is); (case qk7Z => boot_fast); (case qk8Z => decide); k_whole))) | (with_reducible (((with_reducible show wpAny _ _ (newTuple _) _ _ _); (k_here; refine newTuple_L (by k_asm) (by k_asm) ?_ (Nat.le_of_ble_eq_true rfl); intro a9 h9 F9 N9 f9 k9; (try dsimp only))))) | (with_reducible (((with_reducible show wpAny _ _ (execs (Stmt.Assign _ _ _ :: _) _) _ _ _); refine wpAny_execs_cons ?_))) | (with_reducible (((with_reducible show TurnE _ _ _ _ _ _ _ _ _ _ _ _ _ _ _); dsimp only [TurnE]))) | (with_reducible ((k_here; (with_reducible show wpAny _ _ (call (Value.builtin "len") [Value.ref _]) _ _ _); refine len_tup_ints (IsTup.keeps (by assumption) (Fr.keep (by k_asm))) (by assumption) (by assumption) ?_))) | walk1); all_goals (try dsimp only)) | dsimp only))
      refine ⟨c6, _, _, _, _, rfl, F8, N8, List.forall_mem_cons.mpr ⟨by k_mem, List.forall_mem_cons.mpr ⟨by k_mem, List.forall_mem_nil _⟩⟩, (by intro p hp; k_mem), List.forall_mem_cons.mpr ⟨.inl (.head _), List.forall_mem_cons.mpr ⟨.inl (.tail _ (.head _)), List.forall_mem_nil _⟩⟩, (fun _ h => (nomatch h)), ?_, hend _ _ N8 (by intro p hp; k_mem), _, hd6⟩
      intro z h1 _ _
      simp [h1, kstB]
  case done =>
    intro c u' I h' tk' hP F' N'
    exact next h' tk' c _ (kst_fr _ F' (List.forall_mem_cons.mpr ⟨rfl, List.forall_mem_cons.mpr ⟨rfl, List.forall_mem_cons.mpr ⟨rfl, List.forall_mem_cons.mpr ⟨rfl, List.forall_mem_nil _⟩⟩⟩⟩)) N' (hP.1.keeps (nw_mono fun b hb => by
      rcases List.mem_cons.mp hb with q | q
      · exact q ▸ List.mem_cons_self
      · exact List.mem_cons_of_mem _ (List.mem_append_right _ q)))
end
end
section
noncomputable def outBody : List Stmt := match lawBody.drop 13 with
  | (.For _ _ b _ _) :: _ => b
  | _ => []
noncomputable def inBody : List Stmt := match outBody with
  | (.For _ _ b _ _) :: _ => b
  | _ => []
/- the part of a heap that the second loop only adds to -/
noncomputable def Dg (H : Heap) (L : Addr) (h : Heap) : Heap := nw H [L, 82] h
theorem open_rest {H h : Heap} {L : Addr} {ps : Array Value} (N : News H L h [(82, tabObj ps)]) : ∃ rest, News H L h ((82, tabObj ps) :: rest) ∧ RestIn (Dg H L h) rest := by
  refine ⟨others H h [L, 82], fun p hp => ?_, ⟨fun b o e => mem_others.mpr e⟩⟩
  rcases List.mem_cons.mp hp with rfl | hp
  · exact N _ (.head _)
  · exact news_others [82] p hp
theorem rest_sub {H h h' : Heap} {L : Addr} {rest nws : List (Addr × Obj)} (R : RestIn (Dg H L h) rest) (N : News H L h' nws) (hr : ∀ p ∈ rest, p ∈ nws) : Sub (Dg H L h) (Dg H L h') := fun b o e => by
  obtain ⟨_, e2, e3⟩ := nw_get.mp e
  exact nw_get.mpr ⟨(N _ (hr _ (R.mem b o e))).1, e2, e3⟩
theorem new_in {H h : Heap} {L a : Addr} {o : Obj} {ps : Array Value} {nws : List (Addr × Obj)} (N : News H L h nws) (h82 : (82, tabObj ps) ∈ nws) (hm : (a, o) ∈ nws) (hc : o.cls ≠ .none) : (Dg H L h).get? a = some o := by
  refine nw_get.mpr ⟨(N _ hm).1, fun q => ?_, (N _ hm).2.2⟩
  rcases List.mem_cons.mp q with q | q
  · exact (N _ hm).2.1 q
  · have q : a = 82 := List.mem_singleton.mp q
    subst q
    have e1 := (N _ h82).1
    have e2 := (N _ hm).1
    dsimp only at e1 e2
    rw [e1] at e2; cases e2
    exact hc rfl
theorem dg_new {H h h' : Heap} {L : Addr} {X : List Addr} {m : Str → Option Value} {ps : Array Value} {nws : List (Addr × Obj)} (F : Fr H L h m) (N : News H L h nws) (h82 : (82, tabObj ps) ∈ nws) : Sub (nw h X h') (Dg H L h') := fun b o e => by
  obtain ⟨e1, _, e3⟩ := nw_get.mp e
  refine nw_get.mpr ⟨e1, fun hm => ?_, ?_⟩
  · rcases List.mem_cons.mp hm with q | q
    · obtain ⟨oL, _, _, hL, _⟩ := F.ns
      rw [q, hL] at e3; cases e3
    · have e4 := (N _ h82).1
      rw [List.mem_singleton.mp q, e4] at e3; cases e3
  · cases q : H.get? b with
    | none => rfl
    | some o' => rw [F.keep b o' q] at e3; cases e3
theorem RdAll.of_get {h : Heap} : ∀ {vs : List Value} {ds : List Dat}, vs.length = ds.length → (∀ (j : Nat) (v : Value) (d : Dat), vs[j]? = some v → ds[j]? = some d → Rd h v d) → RdAll h vs ds
  | [], [], _, _ => .nil
  | v :: vs, d :: ds, hl, hr => .cons (hr 0 v d rfl rfl) (RdAll.of_get (by simpa using hl) fun j v' d' e1 e2 => hr (j + 1) v' d' (by simpa using e1) (by simpa using e2))
  | [], _ :: _, hl, _ => by simp at hl
  | _ :: _, [], hl, _ => by simp at hl
noncomputable def mostOf (l l' : List Nat) : Int := max (topOf (runsOf l)) (topOf (runsOf l')) + 1
noncomputable def metOf (zs : List Int) (l l' : List Nat) : List (Int × Int × Int) := zs.map fun z => (z, colOf z l 0, colOf z l' 0)
theorem stLocal {prog : Program} {w : World} {A : Around} {E : Value → Shared → Prop} {s : Shared} {env : Env} {H : Heap} {x : Str} {v : Value} {m : Str → Option Value} {news : List (Addr × Obj)} {Q : Unit → Shared → Prop} (F : Fr H env.locals s.heap m) (N : News H env.locals s.heap news)
    (h : ∀ h' tk', Fr H env.locals h' (fun y => if y = x then some v else m y) → News H env.locals h' news → Sub (Dg H env.locals s.heap) (Dg H env.locals h') → Q () { s with heap := h', toks := tk' })
    (hx : env.kindOf x = some .local) (hpk : (env.scope.kind == .class || (env.scope.kind == .module && env.locals != env.globals)) = false) : wpAny (model prog w) A (storeName env x v) Q E s :=
  wpAny_storeName_local hx F.ns (fun h₂ hn₂ hs₂ => h h₂ _ (F.set hn₂ hs₂) (N.set hs₂) (nw_keep fun b o hb e => (hs₂.2 b fun q => hb (q ▸ List.mem_cons_self)).trans e)) hpk
theorem met_data {H h1 h3 : Heap} {L : Addr} {m : Str → Option Value} {rest : List (Addr × Obj)} {ps : Array Value} {svs va vb : List Value} {zs : List Int} {l l' : List Nat} {as : List Addr} (F1 : Fr H L h1 m) (N1 : News H L h1 ((82, tabObj ps) :: rest))
    (s2 : IntsAre svs zs) (ra : IntsAre va (zs.map fun z => colOf z l 0)) (rb : IntsAre vb (zs.map fun z => colOf z l' 0)) (hal : as.length = zs.length) (hG : ZG svs.toArray va.toArray vb.toArray (h1.objs.size + 6) h3 as) : RdAll (Dg H L h3) (as.map Value.ref) ((metOf zs l l').map tri) := by
  refine RdAll.of_get (by simp [metOf, hal]) fun j v d e1 e2 => ?_
  rw [List.getElem?_map] at e1 e2
  obtain ⟨a, ha, rfl⟩ := Option.map_eq_some_iff.mp e1
  obtain ⟨q, hq, rfl⟩ := Option.map_eq_some_iff.mp e2
  rw [metOf, List.getElem?_map] at hq
  obtain ⟨z, hz, rfl⟩ := Option.map_eq_some_iff.mp hq
  obtain ⟨x, y, v, g1, g2, g3, g4⟩ := hG.tris j a ha
  have hlo := hG.above a (List.mem_of_getElem? ha)
  simp only [List.getElem?_toArray] at g1 g2 g3
  obtain ⟨n1, u1, f1, rfl⟩ := ints_at s2 g1
  obtain ⟨n2, u2, f2, rfl⟩ := ints_at ra g2
  obtain ⟨n3, u3, f3, rfl⟩ := ints_at rb g3
  rw [List.getElem?_map, hz] at f2 f3
  rw [hz] at f1
  cases f1; cases f2; cases f3
  have hLa : L < h1.objs.size := F1.ns.lt
  have h82 : 82 < h1.objs.size := Heap.lt_size (N1 _ (.head _)).1
  have hHL := F1.above
  refine .tuple (vs := [_, _, _]) ⟨_, nw_get.mpr ⟨g4, fun hm => ?_, Heap.get?_none_of_le (Nat.le_trans hHL (Nat.le_of_lt (Nat.lt_trans hLa (Nat.lt_of_le_of_lt (Nat.le_add_right _ 6) hlo))))⟩, rfl, _, rfl⟩ (.cons (.int _ _) (.cons (.int _ _) (.cons (.int _ _) .nil)))
  have hlo' : h1.objs.size + 6 < a := hlo
  rcases List.mem_cons.mp hm with q | q
  · rw [q] at hlo'; exact absurd hLa (Nat.not_lt.mpr (Nat.le_of_lt (Nat.lt_of_le_of_lt (Nat.le_add_right _ 6) hlo')))
  · rw [List.mem_singleton.mp q] at hlo'; exact absurd h82 (Nat.not_lt.mpr (Nat.le_of_lt (Nat.lt_of_le_of_lt (Nat.le_add_right _ 6) hlo')))
section
variable {prog : Program} {w : World} {s : Shared} {H : Heap} {L fa : Addr} {cd : Value} {tx sz mk co te : Addr} {ts : List (List Nat)} {zs : List Int} {ps : Array Value} {u : Str → Option Value} {Q : Flow → Shared → Prop} {i jj : Nat} {l l' : List Nat} {t1 t2 : Tok}
set_option maxHeartbeats 4000000 in
theorem in_0 (G : Gd w.params H) (hz1 : 1 ≤ zs.length) (hzl : zs.length ≤ 100) (hi : i < 7) (hj : jj < 7) (hl : ts[i]? = some l) (hl' : ts[jj]? = some l') (htop : -1 ≤ topOf (runsOf l) ∧ topOf (runsOf l) ≤ 1000 ∧ -1 ≤ topOf (runsOf l') ∧ topOf (runsOf l') ≤ 1000)
    (F : Fr H L s.heap (kstB u [(Str.ofString "k", .int i t1), (Str.ofString "j", .int jj t2), (Str.ofString "marks", .ref mk), (Str.ofString "columns", .ref co), (Str.ofString "tells", .ref te)]))
    (N : News H L s.heap [(82, tabObj ps)]) (M : Made (Dg H L s.heap) L tx sz mk co te ts zs)
    (next : ∀ h tk me t3 u, Fr H L h (kstB u [(Str.ofString "k", .int i t1), (Str.ofString "j", .int jj t2), (Str.ofString "marks", .ref mk), (Str.ofString "columns", .ref co), (Str.ofString "tells", .ref te), (Str.ofString "most", .int (mostOf l l') t3), (Str.ofString "met", .ref me)]) →
      News H L h [(82, tabObj ps)] → Sub (Dg H L s.heap) (Dg H L h) → Rd (Dg H L h) (.ref me) (.list ((metOf zs l l').map tri)) →
      wpAny (model prog w) (lawA L fa cd) (execs (inBody.drop 2) (lawEnv L fa cd)) Q (fun _ _ => False) { s with heap := h, toks := tk }) :
    wpAny (model prog w) (lawA L fa cd) (execs (inBody.drop 0) (lawEnv L fa cd)) Q (fun _ _ => False) s := by
  have X := G.k
  obtain ⟨p, loose, mg, mb, TT⟩ := G.t
  obtain ⟨h, gs, dr, tk, os⟩ := s
  dsimp only at F N next M
  obtain ⟨rest, N, R⟩ := open_rest N
  obtain ⟨⟨tvs, tn, t1', t2'⟩, ⟨svs, sn, s1, s2⟩, ⟨mvs, mn, m1, m2⟩, ⟨cvs, cn, c1, c2⟩, ⟨evs, en, e1, e2⟩, ⟨o2, q1, q2⟩⟩ := M
  obtain ⟨ev, hev, rev⟩ := e2.get (i := i) (d := toldD l) (by rw [List.getElem?_map, hl]; rfl)
  obtain ⟨fv, hfv, rfv⟩ := e2.get (i := jj) (d := toldD l') (by rw [List.getElem?_map, hl']; rfl)
  have hg := R.sub N (by intro p hp; k_mem)
  change wpAny _ _ (execs (_ :: _) _) _ _ _
  (repeat' (first | (k_unfold; (try dsimp only)) | ((fail_if_success (with_reducible show wpAny _ _ (pyIter _) _ _ _)); (fail_if_success (with_reducible show wpAny _ _ (subscriptTail _ _ _ _) _ _ _)); (fail_if_success (with_reducible show wpAny _ _ (call (Value.ref _) _) _ _ _)); (fail_if_success (with_reducible show wpAny _ _ (call (Value.type _) _) _ _ _)); (fail_if_success (with_reducible show wpAny _ _ (compareOp _ (Value.ref _) _) _ _ _)); (fail_if_success (with_reducible show wpAny _ _ (eval (Expr.ListComp _ _ _ _) _) _ _ _)); (fail_if_success (with_reducible show wpAny _ _ (exec (Stmt.Assign _ (Expr.ListComp _ _ _ _) _) _) _ _ _)); (first | ((with_reducible show wpAny _ _ (eval (Expr.Name _ _) (compEnvC _ _ _ _)) _ _ _); k_dflt (first | (refine' nmL ?qk1Z ?qk2Z ?_ ?qk3Z ?qk4Z ?qk5Z; (case qk3Z => rfl); (case qk4Z => rfl); (case qk5Z => decide); (case qk1Z => k_asm); (case qk2Z => rfl); k_whole) | (refine' nmC ?qk1Z ?qk2Z ?qk6Z ?_ ?qk3Z ?qk4Z ?qk5Z; (case qk3Z => rfl); (case qk4Z => rfl); (case qk5Z => decide); (case qk6Z => rfl); (case qk1Z => assumption); (case qk2Z => assumption); k_whole) | (refine' nmG ?qk1Z ?qk2Z ?_ ?qk6Z ?qk3Z ?qk4Z ?qk5Z; (case qk3Z => rfl); (case qk4Z => rfl); (case qk5Z => decide); (case qk6Z => rfl); (case qk1Z => assumption); (case qk2Z => k_is); k_whole) | (refine' nmB ?qk1Z ?qk2Z ?qk7Z ?qk8Z ?_ ?qk6Z ?qk9Z ?qk3Z ?qk4Z ?qk5Z; (case qk3Z => rfl); (case qk4Z => rfl); (case qk5Z => decide); (case qk6Z => rfl); (case qk9Z => rfl); (case qk1Z => assumption); (case qk2Z => k_is); (case qk7Z => boot_fast); (case qk8Z => decide); k_whole))) | (with_reducible (((with_reducible show wpAny _ _ (newTuple _) _ _ _); (k_here; refine newTuple_L (by k_asm) (by k_asm) ?_ (Nat.le_of_ble_eq_true rfl); intro a9 h9 F9 N9 f9 k9; (try dsimp only))))) | (with_reducible (((with_reducible show wpAny _ _ (execs (Stmt.Assign _ _ _ :: _) _) _ _ _); refine wpAny_execs_cons ?_))) | (with_reducible (((with_reducible show TurnE _ _ _ _ _ _ _ _ _ _ _ _ _ _ _); dsimp only [TurnE]))) | (with_reducible ((k_here; (with_reducible show wpAny _ _ (call (Value.builtin "len") [Value.ref _]) _ _ _); refine len_tup_ints (IsTup.keeps (by assumption) (Fr.keep (by k_asm))) (by assumption) (by assumption) ?_))) | walk1); all_goals (try dsimp only)) | dsimp only))
  refine item_litK (s := Shared.mk _ _ _ _ _) ⟨_, hg _ _ e1, rfl, _, rfl⟩ (Int.natCast_nonneg i) (by omega) (by rw [Int.toNat_natCast]; exact hev) ?_ (by with_unfolding_all rfl)
  (repeat' (first | (k_unfold; (try dsimp only)) | ((fail_if_success (with_reducible show wpAny _ _ (pyIter _) _ _ _)); (fail_if_success (with_reducible show wpAny _ _ (subscriptTail _ _ _ _) _ _ _)); (fail_if_success (with_reducible show wpAny _ _ (call (Value.ref _) _) _ _ _)); (fail_if_success (with_reducible show wpAny _ _ (call (Value.type _) _) _ _ _)); (fail_if_success (with_reducible show wpAny _ _ (compareOp _ (Value.ref _) _) _ _ _)); (fail_if_success (with_reducible show wpAny _ _ (eval (Expr.ListComp _ _ _ _) _) _ _ _)); (fail_if_success (with_reducible show wpAny _ _ (exec (Stmt.Assign _ (Expr.ListComp _ _ _ _) _) _) _ _ _)); (first | ((with_reducible show wpAny _ _ (eval (Expr.Name _ _) (compEnvC _ _ _ _)) _ _ _); k_dflt (first | (refine' nmL ?qk1Z ?qk2Z ?_ ?qk3Z ?qk4Z ?qk5Z; (case qk3Z => rfl); (case qk4Z => rfl); (case qk5Z => decide); (case qk1Z => k_asm); (case qk2Z => rfl); k_whole) | (refine' nmC ?qk1Z ?qk2Z ?qk6Z ?_ ?qk3Z ?qk4Z ?qk5Z; (case qk3Z => rfl); (case qk4Z => rfl); (case qk5Z => decide); (case qk6Z => rfl); (case qk1Z => assumption); (case qk2Z => assumption); k_whole) | (refine' nmG ?qk1Z ?qk2Z ?_ ?qk6Z ?qk3Z ?qk4Z ?qk5Z; (case qk3Z => rfl); (case qk4Z => rfl); (case qk5Z => decide); (case qk6Z => rfl); (case qk1Z => assumption); (case qk2Z => k_is); k_whole) | (refine' nmB ?qk1Z ?qk2Z ?qk7Z ?qk8Z ?_ ?qk6Z ?qk9Z ?qk3Z ?qk4Z ?qk5Z; (case qk3Z => rfl); (case qk4Z => rfl); (case qk5Z => decide); (case qk6Z => rfl); (case qk9Z => rfl); (case qk1Z => assumption); (case qk2Z => k_is); (case qk7Z => boot_fast); (case qk8Z => decide); k_whole))) | (with_reducible (((with_reducible show wpAny _ _ (newTuple _) _ _ _); (k_here; refine newTuple_L (by k_asm) (by k_asm) ?_ (Nat.le_of_ble_eq_true rfl); intro a9 h9 F9 N9 f9 k9; (try dsimp only))))) | (with_reducible (((with_reducible show wpAny _ _ (execs (Stmt.Assign _ _ _ :: _) _) _ _ _); refine wpAny_execs_cons ?_))) | (with_reducible (((with_reducible show TurnE _ _ _ _ _ _ _ _ _ _ _ _ _ _ _); dsimp only [TurnE]))) | (with_reducible ((k_here; (with_reducible show wpAny _ _ (call (Value.builtin "len") [Value.ref _]) _ _ _); refine len_tup_ints (IsTup.keeps (by assumption) (Fr.keep (by k_asm))) (by assumption) (by assumption) ?_))) | walk1); all_goals (try dsimp only)) | dsimp only))
  refine itemT (s := Shared.mk _ _ _ _ _) (rev.keeps hg) (by decide) (by decide) rfl ?_ (fun a => by with_unfolding_all rfl)
  intro v1 r1
  (repeat' (first | (k_unfold; (try dsimp only)) | ((fail_if_success (with_reducible show wpAny _ _ (pyIter _) _ _ _)); (fail_if_success (with_reducible show wpAny _ _ (subscriptTail _ _ _ _) _ _ _)); (fail_if_success (with_reducible show wpAny _ _ (call (Value.ref _) _) _ _ _)); (fail_if_success (with_reducible show wpAny _ _ (call (Value.type _) _) _ _ _)); (fail_if_success (with_reducible show wpAny _ _ (compareOp _ (Value.ref _) _) _ _ _)); (fail_if_success (with_reducible show wpAny _ _ (eval (Expr.ListComp _ _ _ _) _) _ _ _)); (fail_if_success (with_reducible show wpAny _ _ (exec (Stmt.Assign _ (Expr.ListComp _ _ _ _) _) _) _ _ _)); (first | ((with_reducible show wpAny _ _ (eval (Expr.Name _ _) (compEnvC _ _ _ _)) _ _ _); k_dflt (first | (refine' nmL ?qk1Z ?qk2Z ?_ ?qk3Z ?qk4Z ?qk5Z; (case qk3Z => rfl); (case qk4Z => rfl); (case qk5Z => decide); (case qk1Z => k_asm); (case qk2Z => rfl); k_whole) | (refine' nmC ?qk1Z ?qk2Z ?qk6Z ?_ ?qk3Z ?qk4Z ?qk5Z; (case qk3Z => rfl); (case qk4Z => rfl); (case qk5Z => decide); (case qk6Z => rfl); (case qk1Z => assumption); (case qk2Z => assumption); k_whole) | (refine' nmG ?qk1Z ?qk2Z ?_ ?qk6Z ?qk3Z ?qk4Z ?qk5Z; (case qk3Z => rfl); (case qk4Z => rfl); (case qk5Z => decide); (case qk6Z => rfl); (case qk1Z => assumption); (case qk2Z => k_is); k_whole) | (refine' nmB ?qk1Z ?qk2Z ?qk7Z ?qk8Z ?_ ?qk6Z ?qk9Z ?qk3Z ?qk4Z ?qk5Z; (case qk3Z => rfl); (case qk4Z => rfl); (case qk5Z => decide); (case qk6Z => rfl); (case qk9Z => rfl); (case qk1Z => assumption); (case qk2Z => k_is); (case qk7Z => boot_fast); (case qk8Z => decide); k_whole))) | (with_reducible (((with_reducible show wpAny _ _ (newTuple _) _ _ _); (k_here; refine newTuple_L (by k_asm) (by k_asm) ?_ (Nat.le_of_ble_eq_true rfl); intro a9 h9 F9 N9 f9 k9; (try dsimp only))))) | (with_reducible (((with_reducible show wpAny _ _ (execs (Stmt.Assign _ _ _ :: _) _) _ _ _); refine wpAny_execs_cons ?_))) | (with_reducible (((with_reducible show TurnE _ _ _ _ _ _ _ _ _ _ _ _ _ _ _); dsimp only [TurnE]))) | (with_reducible ((k_here; (with_reducible show wpAny _ _ (call (Value.builtin "len") [Value.ref _]) _ _ _); refine len_tup_ints (IsTup.keeps (by assumption) (Fr.keep (by k_asm))) (by assumption) (by assumption) ?_))) | walk1); all_goals (try dsimp only)) | dsimp only))
  refine itemT (s := Shared.mk _ _ _ _ _) r1 (by decide) (by decide) rfl ?_ (fun a => by with_unfolding_all rfl)
  intro v2 r2
  cases r2
  (repeat' (first | (k_unfold; (try dsimp only)) | ((fail_if_success (with_reducible show wpAny _ _ (pyIter _) _ _ _)); (fail_if_success (with_reducible show wpAny _ _ (subscriptTail _ _ _ _) _ _ _)); (fail_if_success (with_reducible show wpAny _ _ (call (Value.ref _) _) _ _ _)); (fail_if_success (with_reducible show wpAny _ _ (call (Value.type _) _) _ _ _)); (fail_if_success (with_reducible show wpAny _ _ (compareOp _ (Value.ref _) _) _ _ _)); (fail_if_success (with_reducible show wpAny _ _ (eval (Expr.ListComp _ _ _ _) _) _ _ _)); (fail_if_success (with_reducible show wpAny _ _ (exec (Stmt.Assign _ (Expr.ListComp _ _ _ _) _) _) _ _ _)); (first | ((with_reducible show wpAny _ _ (eval (Expr.Name _ _) (compEnvC _ _ _ _)) _ _ _); k_dflt (first | (refine' nmL ?qk1Z ?qk2Z ?_ ?qk3Z ?qk4Z ?qk5Z; (case qk3Z => rfl); (case qk4Z => rfl); (case qk5Z => decide); (case qk1Z => k_asm); (case qk2Z => rfl); k_whole) | (refine' nmC ?qk1Z ?qk2Z ?qk6Z ?_ ?qk3Z ?qk4Z ?qk5Z; (case qk3Z => rfl); (case qk4Z => rfl); (case qk5Z => decide); (case qk6Z => rfl); (case qk1Z => assumption); (case qk2Z => assumption); k_whole) | (refine' nmG ?qk1Z ?qk2Z ?_ ?qk6Z ?qk3Z ?qk4Z ?qk5Z; (case qk3Z => rfl); (case qk4Z => rfl); (case qk5Z => decide); (case qk6Z => rfl); (case qk1Z => assumption); (case qk2Z => k_is); k_whole) | (refine' nmB ?qk1Z ?qk2Z ?qk7Z ?qk8Z ?_ ?qk6Z ?qk9Z ?qk3Z ?qk4Z ?qk5Z; (case qk3Z => rfl); (case qk4Z => rfl); (case qk5Z => decide); (case qk6Z => rfl); (case qk9Z => rfl); (case qk1Z => assumption); (case qk2Z => k_is); (case qk7Z => boot_fast); (case qk8Z => decide); k_whole))) | (with_reducible (((with_reducible show wpAny _ _ (newTuple _) _ _ _); (k_here; refine newTuple_L (by k_asm) (by k_asm) ?_ (Nat.le_of_ble_eq_true rfl); intro a9 h9 F9 N9 f9 k9; (try dsimp only))))) | (with_reducible (((with_reducible show wpAny _ _ (execs (Stmt.Assign _ _ _ :: _) _) _ _ _); refine wpAny_execs_cons ?_))) | (with_reducible (((with_reducible show TurnE _ _ _ _ _ _ _ _ _ _ _ _ _ _ _); dsimp only [TurnE]))) | (with_reducible ((k_here; (with_reducible show wpAny _ _ (call (Value.builtin "len") [Value.ref _]) _ _ _); refine len_tup_ints (IsTup.keeps (by assumption) (Fr.keep (by k_asm))) (by assumption) (by assumption) ?_))) | walk1); all_goals (try dsimp only)) | dsimp only))
  refine item_litK (s := Shared.mk _ _ _ _ _) ⟨_, hg _ _ e1, rfl, _, rfl⟩ (Int.natCast_nonneg jj) (by omega) (by rw [Int.toNat_natCast]; exact hfv) ?_ (by with_unfolding_all rfl)
  (repeat' (first | (k_unfold; (try dsimp only)) | ((fail_if_success (with_reducible show wpAny _ _ (pyIter _) _ _ _)); (fail_if_success (with_reducible show wpAny _ _ (subscriptTail _ _ _ _) _ _ _)); (fail_if_success (with_reducible show wpAny _ _ (call (Value.ref _) _) _ _ _)); (fail_if_success (with_reducible show wpAny _ _ (call (Value.type _) _) _ _ _)); (fail_if_success (with_reducible show wpAny _ _ (compareOp _ (Value.ref _) _) _ _ _)); (fail_if_success (with_reducible show wpAny _ _ (eval (Expr.ListComp _ _ _ _) _) _ _ _)); (fail_if_success (with_reducible show wpAny _ _ (exec (Stmt.Assign _ (Expr.ListComp _ _ _ _) _) _) _ _ _)); (first | ((with_reducible show wpAny _ _ (eval (Expr.Name _ _) (compEnvC _ _ _ _)) _ _ _); k_dflt (first | (refine' nmL ?qk1Z ?qk2Z ?_ ?qk3Z ?qk4Z ?qk5Z; (case qk3Z => rfl); (case qk4Z => rfl); (case qk5Z => decide); (case qk1Z => k_asm); (case qk2Z => rfl); k_whole) | (refine' nmC ?qk1Z ?qk2Z ?qk6Z ?_ ?qk3Z ?qk4Z ?qk5Z; (case qk3Z => rfl); (case qk4Z => rfl); (case qk5Z => decide); (case qk6Z => rfl); (case qk1Z => assumption); (case qk2Z => assumption); k_whole) | (refine' nmG ?qk1Z ?qk2Z ?_ ?qk6Z ?qk3Z ?qk4Z ?qk5Z; (case qk3Z => rfl); (case qk4Z => rfl); (case qk5Z => decide); (case qk6Z => rfl); (case qk1Z => assumption); (case qk2Z => k_is); k_whole) | (refine' nmB ?qk1Z ?qk2Z ?qk7Z ?qk8Z ?_ ?qk6Z ?qk9Z ?qk3Z ?qk4Z ?qk5Z; (case qk3Z => rfl); (case qk4Z => rfl); (case qk5Z => decide); (case qk6Z => rfl); (case qk9Z => rfl); (case qk1Z => assumption); (case qk2Z => k_is); (case qk7Z => boot_fast); (case qk8Z => decide); k_whole))) | (with_reducible (((with_reducible show wpAny _ _ (newTuple _) _ _ _); (k_here; refine newTuple_L (by k_asm) (by k_asm) ?_ (Nat.le_of_ble_eq_true rfl); intro a9 h9 F9 N9 f9 k9; (try dsimp only))))) | (with_reducible (((with_reducible show wpAny _ _ (execs (Stmt.Assign _ _ _ :: _) _) _ _ _); refine wpAny_execs_cons ?_))) | (with_reducible (((with_reducible show TurnE _ _ _ _ _ _ _ _ _ _ _ _ _ _ _); dsimp only [TurnE]))) | (with_reducible ((k_here; (with_reducible show wpAny _ _ (call (Value.builtin "len") [Value.ref _]) _ _ _); refine len_tup_ints (IsTup.keeps (by assumption) (Fr.keep (by k_asm))) (by assumption) (by assumption) ?_))) | walk1); all_goals (try dsimp only)) | dsimp only))
  refine itemT (s := Shared.mk _ _ _ _ _) (rfv.keeps hg) (by decide) (by decide) rfl ?_ (fun a => by with_unfolding_all rfl)
  intro v3 r3
  (repeat' (first | (k_unfold; (try dsimp only)) | ((fail_if_success (with_reducible show wpAny _ _ (pyIter _) _ _ _)); (fail_if_success (with_reducible show wpAny _ _ (subscriptTail _ _ _ _) _ _ _)); (fail_if_success (with_reducible show wpAny _ _ (call (Value.ref _) _) _ _ _)); (fail_if_success (with_reducible show wpAny _ _ (call (Value.type _) _) _ _ _)); (fail_if_success (with_reducible show wpAny _ _ (compareOp _ (Value.ref _) _) _ _ _)); (fail_if_success (with_reducible show wpAny _ _ (eval (Expr.ListComp _ _ _ _) _) _ _ _)); (fail_if_success (with_reducible show wpAny _ _ (exec (Stmt.Assign _ (Expr.ListComp _ _ _ _) _) _) _ _ _)); (first | ((with_reducible show wpAny _ _ (eval (Expr.Name _ _) (compEnvC _ _ _ _)) _ _ _); k_dflt (first | (refine' nmL ?qk1Z ?qk2Z ?_ ?qk3Z ?qk4Z ?qk5Z; (case qk3Z => rfl); (case qk4Z => rfl); (case qk5Z => decide); (case qk1Z => k_asm); (case qk2Z => rfl); k_whole) | (refine' nmC ?qk1Z ?qk2Z ?qk6Z ?_ ?qk3Z ?qk4Z ?qk5Z; (case qk3Z => rfl); (case qk4Z => rfl); (case qk5Z => decide); (case qk6Z => rfl); (case qk1Z => assumption); (case qk2Z => assumption); k_whole) | (refine' nmG ?qk1Z ?qk2Z ?_ ?qk6Z ?qk3Z ?qk4Z ?qk5Z; (case qk3Z => rfl); (case qk4Z => rfl); (case qk5Z => decide); (case qk6Z => rfl); (case qk1Z => assumption); (case qk2Z => k_is); k_whole) | (refine' nmB ?qk1Z ?qk2Z ?qk7Z ?qk8Z ?_ ?qk6Z ?qk9Z ?qk3Z ?qk4Z ?qk5Z; (case qk3Z => rfl); (case qk4Z => rfl); (case qk5Z => decide); (case qk6Z => rfl); (case qk9Z => rfl); (case qk1Z => assumption); (case qk2Z => k_is); (case qk7Z => boot_fast); (case qk8Z => decide); k_whole))) | (with_reducible (((with_reducible show wpAny _ _ (newTuple _) _ _ _); (k_here; refine newTuple_L (by k_asm) (by k_asm) ?_ (Nat.le_of_ble_eq_true rfl); intro a9 h9 F9 N9 f9 k9; (try dsimp only))))) | (with_reducible (((with_reducible show wpAny _ _ (execs (Stmt.Assign _ _ _ :: _) _) _ _ _); refine wpAny_execs_cons ?_))) | (with_reducible (((with_reducible show TurnE _ _ _ _ _ _ _ _ _ _ _ _ _ _ _); dsimp only [TurnE]))) | (with_reducible ((k_here; (with_reducible show wpAny _ _ (call (Value.builtin "len") [Value.ref _]) _ _ _); refine len_tup_ints (IsTup.keeps (by assumption) (Fr.keep (by k_asm))) (by assumption) (by assumption) ?_))) | walk1); all_goals (try dsimp only)) | dsimp only))
  refine itemT (s := Shared.mk _ _ _ _ _) r3 (by decide) (by decide) rfl ?_ (fun a => by with_unfolding_all rfl)
  intro v4 r4
  cases r4
  (repeat' (first | (k_unfold; (try dsimp only)) | ((fail_if_success (with_reducible show wpAny _ _ (pyIter _) _ _ _)); (fail_if_success (with_reducible show wpAny _ _ (subscriptTail _ _ _ _) _ _ _)); (fail_if_success (with_reducible show wpAny _ _ (call (Value.ref _) _) _ _ _)); (fail_if_success (with_reducible show wpAny _ _ (call (Value.type _) _) _ _ _)); (fail_if_success (with_reducible show wpAny _ _ (compareOp _ (Value.ref _) _) _ _ _)); (fail_if_success (with_reducible show wpAny _ _ (eval (Expr.ListComp _ _ _ _) _) _ _ _)); (fail_if_success (with_reducible show wpAny _ _ (exec (Stmt.Assign _ (Expr.ListComp _ _ _ _) _) _) _ _ _)); (first | ((with_reducible show wpAny _ _ (eval (Expr.Name _ _) (compEnvC _ _ _ _)) _ _ _); k_dflt (first | (refine' nmL ?qk1Z ?qk2Z ?_ ?qk3Z ?qk4Z ?qk5Z; (case qk3Z => rfl); (case qk4Z => rfl); (case qk5Z => decide); (case qk1Z => k_asm); (case qk2Z => rfl); k_whole) | (refine' nmC ?qk1Z ?qk2Z ?qk6Z ?_ ?qk3Z ?qk4Z ?qk5Z; (case qk3Z => rfl); (case qk4Z => rfl); (case qk5Z => decide); (case qk6Z => rfl); (case qk1Z => assumption); (case qk2Z => assumption); k_whole) | (refine' nmG ?qk1Z ?qk2Z ?_ ?qk6Z ?qk3Z ?qk4Z ?qk5Z; (case qk3Z => rfl); (case qk4Z => rfl); (case qk5Z => decide); (case qk6Z => rfl); (case qk1Z => assumption); (case qk2Z => k_is); k_whole) | (refine' nmB ?qk1Z ?qk2Z ?qk7Z ?qk8Z ?_ ?qk6Z ?qk9Z ?qk3Z ?qk4Z ?qk5Z; (case qk3Z => rfl); (case qk4Z => rfl); (case qk5Z => decide); (case qk6Z => rfl); (case qk9Z => rfl); (case qk1Z => assumption); (case qk2Z => k_is); (case qk7Z => boot_fast); (case qk8Z => decide); k_whole))) | (with_reducible (((with_reducible show wpAny _ _ (newTuple _) _ _ _); (k_here; refine newTuple_L (by k_asm) (by k_asm) ?_ (Nat.le_of_ble_eq_true rfl); intro a9 h9 F9 N9 f9 k9; (try dsimp only))))) | (with_reducible (((with_reducible show wpAny _ _ (execs (Stmt.Assign _ _ _ :: _) _) _ _ _); refine wpAny_execs_cons ?_))) | (with_reducible (((with_reducible show TurnE _ _ _ _ _ _ _ _ _ _ _ _ _ _ _); dsimp only [TurnE]))) | (with_reducible ((k_here; (with_reducible show wpAny _ _ (call (Value.builtin "len") [Value.ref _]) _ _ _); refine len_tup_ints (IsTup.keeps (by assumption) (Fr.keep (by k_asm))) (by assumption) (by assumption) ?_))) | walk1); all_goals (try dsimp only)) | dsimp only))
  rename Fr _ _ _ _ => F1
  rename News _ _ _ _ => N1
  have hg1 := R.sub N1 (by intro p hp; k_mem)
  obtain ⟨cv, hcv, rcv⟩ := c2.get (i := i) (d := colD zs l) (by rw [List.getElem?_map, hl]; rfl)
  obtain ⟨dv, hdv, rdv⟩ := c2.get (i := jj) (d := colD zs l') (by rw [List.getElem?_map, hl']; rfl)
  refine item_litK (s := Shared.mk _ _ _ _ _) ⟨_, hg1 _ _ c1, rfl, _, rfl⟩ (Int.natCast_nonneg i) (by omega) (by rw [Int.toNat_natCast]; exact hcv) ?_ (by with_unfolding_all rfl)
  (repeat' (first | (k_unfold; (try dsimp only)) | ((fail_if_success (with_reducible show wpAny _ _ (pyIter _) _ _ _)); (fail_if_success (with_reducible show wpAny _ _ (subscriptTail _ _ _ _) _ _ _)); (fail_if_success (with_reducible show wpAny _ _ (call (Value.ref _) _) _ _ _)); (fail_if_success (with_reducible show wpAny _ _ (call (Value.type _) _) _ _ _)); (fail_if_success (with_reducible show wpAny _ _ (compareOp _ (Value.ref _) _) _ _ _)); (fail_if_success (with_reducible show wpAny _ _ (eval (Expr.ListComp _ _ _ _) _) _ _ _)); (fail_if_success (with_reducible show wpAny _ _ (exec (Stmt.Assign _ (Expr.ListComp _ _ _ _) _) _) _ _ _)); (first | ((with_reducible show wpAny _ _ (eval (Expr.Name _ _) (compEnvC _ _ _ _)) _ _ _); k_dflt (first | (refine' nmL ?qk1Z ?qk2Z ?_ ?qk3Z ?qk4Z ?qk5Z; (case qk3Z => rfl); (case qk4Z => rfl); (case qk5Z => decide); (case qk1Z => k_asm); (case qk2Z => rfl); k_whole) | (refine' nmC ?qk1Z ?qk2Z ?qk6Z ?_ ?qk3Z ?qk4Z ?qk5Z; (case qk3Z => rfl); (case qk4Z => rfl); (case qk5Z => decide); (case qk6Z => rfl); (case qk1Z => assumption); (case qk2Z => assumption); k_whole) | (refine' nmG ?qk1Z ?qk2Z ?_ ?qk6Z ?qk3Z ?qk4Z ?qk5Z; (case qk3Z => rfl); (case qk4Z => rfl); (case qk5Z => decide); (case qk6Z => rfl); (case qk1Z => assumption); (case qk2Z => k_is); k_whole) | (refine' nmB ?qk1Z ?qk2Z ?qk7Z ?qk8Z ?_ ?qk6Z ?qk9Z ?qk3Z ?qk4Z ?qk5Z; (case qk3Z => rfl); (case qk4Z => rfl); (case qk5Z => decide); (case qk6Z => rfl); (case qk9Z => rfl); (case qk1Z => assumption); (case qk2Z => k_is); (case qk7Z => boot_fast); (case qk8Z => decide); k_whole))) | (with_reducible (((with_reducible show wpAny _ _ (newTuple _) _ _ _); (k_here; refine newTuple_L (by k_asm) (by k_asm) ?_ (Nat.le_of_ble_eq_true rfl); intro a9 h9 F9 N9 f9 k9; (try dsimp only))))) | (with_reducible (((with_reducible show wpAny _ _ (execs (Stmt.Assign _ _ _ :: _) _) _ _ _); refine wpAny_execs_cons ?_))) | (with_reducible (((with_reducible show TurnE _ _ _ _ _ _ _ _ _ _ _ _ _ _ _); dsimp only [TurnE]))) | (with_reducible ((k_here; (with_reducible show wpAny _ _ (call (Value.builtin "len") [Value.ref _]) _ _ _); refine len_tup_ints (IsTup.keeps (by assumption) (Fr.keep (by k_asm))) (by assumption) (by assumption) ?_))) | walk1); all_goals (try dsimp only)) | dsimp only))
  refine item_litK (s := Shared.mk _ _ _ _ _) ⟨_, hg1 _ _ c1, rfl, _, rfl⟩ (Int.natCast_nonneg jj) (by omega) (by rw [Int.toNat_natCast]; exact hdv) ?_ (by with_unfolding_all rfl)
  have rcv1 := rcv.keeps hg1
  have rdv1 := rdv.keeps hg1
  cases rcv1 with | list la ra => ?_
  cases rdv1 with | list lb rb => ?_
  (repeat' (first | (k_unfold; (try dsimp only)) | ((fail_if_success (with_reducible show wpAny _ _ (pyIter _) _ _ _)); (fail_if_success (with_reducible show wpAny _ _ (subscriptTail _ _ _ _) _ _ _)); (fail_if_success (with_reducible show wpAny _ _ (call (Value.ref _) _) _ _ _)); (fail_if_success (with_reducible show wpAny _ _ (call (Value.type _) _) _ _ _)); (fail_if_success (with_reducible show wpAny _ _ (compareOp _ (Value.ref _) _) _ _ _)); (fail_if_success (with_reducible show wpAny _ _ (eval (Expr.ListComp _ _ _ _) _) _ _ _)); (fail_if_success (with_reducible show wpAny _ _ (exec (Stmt.Assign _ (Expr.ListComp _ _ _ _) _) _) _ _ _)); (first | ((with_reducible show wpAny _ _ (eval (Expr.Name _ _) (compEnvC _ _ _ _)) _ _ _); k_dflt (first | (refine' nmL ?qk1Z ?qk2Z ?_ ?qk3Z ?qk4Z ?qk5Z; (case qk3Z => rfl); (case qk4Z => rfl); (case qk5Z => decide); (case qk1Z => k_asm); (case qk2Z => rfl); k_whole) | (refine' nmC ?qk1Z ?qk2Z ?qk6Z ?_ ?qk3Z ?qk4Z ?qk5Z; (case qk3Z => rfl); (case qk4Z => rfl); (case qk5Z => decide); (case qk6Z => rfl); (case qk1Z => assumption); (case qk2Z => assumption); k_whole) | (refine' nmG ?qk1Z ?qk2Z ?_ ?qk6Z ?qk3Z ?qk4Z ?qk5Z; (case qk3Z => rfl); (case qk4Z => rfl); (case qk5Z => decide); (case qk6Z => rfl); (case qk1Z => assumption); (case qk2Z => k_is); k_whole) | (refine' nmB ?qk1Z ?qk2Z ?qk7Z ?qk8Z ?_ ?qk6Z ?qk9Z ?qk3Z ?qk4Z ?qk5Z; (case qk3Z => rfl); (case qk4Z => rfl); (case qk5Z => decide); (case qk6Z => rfl); (case qk9Z => rfl); (case qk1Z => assumption); (case qk2Z => k_is); (case qk7Z => boot_fast); (case qk8Z => decide); k_whole))) | (with_reducible (((with_reducible show wpAny _ _ (newTuple _) _ _ _); (k_here; refine newTuple_L (by k_asm) (by k_asm) ?_ (Nat.le_of_ble_eq_true rfl); intro a9 h9 F9 N9 f9 k9; (try dsimp only))))) | (with_reducible (((with_reducible show wpAny _ _ (execs (Stmt.Assign _ _ _ :: _) _) _ _ _); refine wpAny_execs_cons ?_))) | (with_reducible (((with_reducible show TurnE _ _ _ _ _ _ _ _ _ _ _ _ _ _ _); dsimp only [TurnE]))) | (with_reducible ((k_here; (with_reducible show wpAny _ _ (call (Value.builtin "len") [Value.ref _]) _ _ _); refine len_tup_ints (IsTup.keeps (by assumption) (Fr.keep (by k_asm))) (by assumption) (by assumption) ?_))) | walk1); all_goals (try dsimp only)) | dsimp only))
  have hsv := s2.length
  have hav := ra.length
  have hbv := rb.length
  rw [List.length_map, List.length_map] at hav hbv
  have is1 := isList_keeps (h := Dg H L h) ⟨_, s1, rfl, _, rfl⟩ hg1
  have lt1 : ∀ {a : Addr} {its : Array Value} {hh : Heap}, hh.IsList a its → a < hh.objs.size := fun x => by obtain ⟨_, e, _⟩ := x; exact Heap.lt_size e
  refine call_zip_3 (s := Shared.mk _ _ _ _ _) is1 la lb ?_
  intro h2 z1 z2 z3 i1 i2 i3 hsz k2
  dsimp only at z1 z2 z3 i1 i2 i3 hsz k2 ⊢
  have F2 := Fr.keeps F1 k2
  have N2 := News.grown N1 k2
  (repeat' (first | (k_unfold; (try dsimp only)) | ((fail_if_success (with_reducible show wpAny _ _ (pyIter _) _ _ _)); (fail_if_success (with_reducible show wpAny _ _ (subscriptTail _ _ _ _) _ _ _)); (fail_if_success (with_reducible show wpAny _ _ (call (Value.ref _) _) _ _ _)); (fail_if_success (with_reducible show wpAny _ _ (call (Value.type _) _) _ _ _)); (fail_if_success (with_reducible show wpAny _ _ (compareOp _ (Value.ref _) _) _ _ _)); (fail_if_success (with_reducible show wpAny _ _ (eval (Expr.ListComp _ _ _ _) _) _ _ _)); (fail_if_success (with_reducible show wpAny _ _ (exec (Stmt.Assign _ (Expr.ListComp _ _ _ _) _) _) _ _ _)); (first | ((with_reducible show wpAny _ _ (eval (Expr.Name _ _) (compEnvC _ _ _ _)) _ _ _); k_dflt (first | (refine' nmL ?qk1Z ?qk2Z ?_ ?qk3Z ?qk4Z ?qk5Z; (case qk3Z => rfl); (case qk4Z => rfl); (case qk5Z => decide); (case qk1Z => k_asm); (case qk2Z => rfl); k_whole) | (refine' nmC ?qk1Z ?qk2Z ?qk6Z ?_ ?qk3Z ?qk4Z ?qk5Z; (case qk3Z => rfl); (case qk4Z => rfl); (case qk5Z => decide); (case qk6Z => rfl); (case qk1Z => assumption); (case qk2Z => assumption); k_whole) | (refine' nmG ?qk1Z ?qk2Z ?_ ?qk6Z ?qk3Z ?qk4Z ?qk5Z; (case qk3Z => rfl); (case qk4Z => rfl); (case qk5Z => decide); (case qk6Z => rfl); (case qk1Z => assumption); (case qk2Z => k_is); k_whole) | (refine' nmB ?qk1Z ?qk2Z ?qk7Z ?qk8Z ?_ ?qk6Z ?qk9Z ?qk3Z ?qk4Z ?qk5Z; (case qk3Z => rfl); (case qk4Z => rfl); (case qk5Z => decide); (case qk6Z => rfl); (case qk9Z => rfl); (case qk1Z => assumption); (case qk2Z => k_is); (case qk7Z => boot_fast); (case qk8Z => decide); k_whole))) | (with_reducible (((with_reducible show wpAny _ _ (newTuple _) _ _ _); (k_here; refine newTuple_L (by k_asm) (by k_asm) ?_ (Nat.le_of_ble_eq_true rfl); intro a9 h9 F9 N9 f9 k9; (try dsimp only))))) | (with_reducible (((with_reducible show wpAny _ _ (execs (Stmt.Assign _ _ _ :: _) _) _ _ _); refine wpAny_execs_cons ?_))) | (with_reducible (((with_reducible show TurnE _ _ _ _ _ _ _ _ _ _ _ _ _ _ _); dsimp only [TurnE]))) | (with_reducible ((k_here; (with_reducible show wpAny _ _ (call (Value.builtin "len") [Value.ref _]) _ _ _); refine len_tup_ints (IsTup.keeps (by assumption) (Fr.keep (by k_asm))) (by assumption) (by assumption) ?_))) | walk1); all_goals (try dsimp only)) | dsimp only))
  refine z3_list (s := Shared.mk _ _ _ _ _) (n := zs.length) rfl (lt1 is1) (lt1 la) (lt1 lb) hz1 (by omega) (by rw [List.size_toArray]; omega) (by rw [List.size_toArray]; omega) (by rw [List.size_toArray]; omega) ⟨z2, i1, i2, i3, isList_keeps is1 k2, isList_keeps la k2, isList_keeps lb k2, .inl ⟨rfl, z1, _, _, _, z3⟩⟩ z1 hsz ?_
  intro h3 acc c as k3 hl3 hal hG hacc
  have kk : Sub _ h3 := fun b o e => k3 b o (Heap.lt_size e) (k2 b o e)
  have F3 := Fr.keeps F1 kk
  have N3 := add_news F1 (News.grown N1 kk) (Heap.get?_none_of_le (Nat.le_add_right _ 6)) hl3
  have hmet := met_data F1 N1 s2 (RdAll.ints ra) (RdAll.ints rb) hal hG
  rw [← hacc] at hmet
  clear F1 N1 F2 N2 z1 z2 z3 i1 i2 i3 la lb ra rb hG is1
  dsimp only
  refine stLocal (s := Shared.mk _ _ _ _ _) (env := lawEnv L fa cd) F3 N3 ?_ rfl rfl
  intro h4 tk4 F4 N4 k4
  dsimp only at k4 ⊢
  have hR := hmet.keeps k4
  rw [show (if topOf (runsOf l') > topOf (runsOf l) then topOf (runsOf l') else topOf (runsOf l)) + 1 = mostOf l l' by unfold mostOf; split <;> omega] at F4
  exact next h4 tk4 _ _ _ (kst_fr _ F4 (List.forall_mem_cons.mpr ⟨rfl, List.forall_mem_cons.mpr ⟨rfl, List.forall_mem_cons.mpr ⟨rfl, List.forall_mem_cons.mpr ⟨rfl, List.forall_mem_cons.mpr ⟨rfl, List.forall_mem_cons.mpr ⟨rfl, List.forall_mem_cons.mpr ⟨rfl, List.forall_mem_nil _⟩⟩⟩⟩⟩⟩⟩))
    (News.pick N4 (.tail _ (.head _)) News.nil) (rest_sub R N4 fun p hp => .tail _ (.tail _ hp)) (.list (vs := acc.toList) ⟨_, new_in N4 (.tail _ (.head _)) (.head _) (by intro q; cases q), rfl, _, rfl⟩ hR)
end
noncomputable def uneq (e : Int × Int × Int) : Bool := e.2.1 != e.2.2
noncomputable def geq (e : Int × Int × Int) : Bool := decide (e.2.1 ≥ e.2.2)
theorem filter_take_succ {α : Type} {p : α → Bool} {l : List α} {j : Nat} {e : α} (h : l[j]? = some e) : (l.take (j + 1)).filter p = (l.take j).filter p ++ if p e then [e] else [] := by
  rw [take_snoc h, List.filter_append]
  by_cases q : p e = true
  · simp [q]
  · simp [q]
theorem LcTurn.test {prog : Program} {w : World} {A : Around} {env : Env} {scope : Scope} {cl : List (Str × Addr)} {x : Str} {c elt : Expr} {s₁ : Shared} {n : Nat} {P : Nat → Value → Prop} {R : Nat → List Value → Heap → Prop}
    (h : ∀ C X i v ys s₃ (m₃ : Str → Option Value) (E' : Value → Shared → Prop), (∀ b ∈ X, ∃ o, s₃.heap.get? b = some o) → i < n → P i v → ys.length ≤ i → R i ys (nw s₁.heap X s₃.heap) → Fr s₁.heap (compEnvC scope cl C env).locals s₃.heap (fun z => if z = x then some v else m₃ z) → News s₁.heap (compEnvC scope cl C env).locals s₃.heap [] →
      wpAny (model prog w) A (isTrue c (compEnvC scope cl C env) (eval c (compEnvC scope cl C env))) (fun ok s₄ => Keeps s₃ s₄ ∧ if ok = true then wpAny (model prog w) A (eval elt (compEnvC scope cl C env)) (fun y s₅ => Keeps s₄ s₅ ∧ R (i + 1) (ys ++ [y]) (nw s₁.heap X s₅.heap)) E' s₄ else R (i + 1) ys (nw s₁.heap X s₄.heap)) E' s₃) : LcTurn prog w A env scope cl x [c] elt s₁ n P R := by
  intro C X i v ys s₃ m₃ E' hC hX hi hv hy hR hn hm hk
  simp only [List.forIn_cons, List.forIn_nil, if_true]
  have e : m₃ = fun z => if z = x then some v else m₃ z := by
    funext z
    by_cases q : z = x
    · rw [if_pos q, q, hm]
    · rw [if_neg q]
  rw [e] at hn
  exact wpAny_bind (wpAny_bind (wpAny_mono (h C X i v ys s₃ m₃ E' hX hi hv hy hR ⟨hn, hk, hC⟩ News.nil) (fun ok s₄ hq => wpAny_pure (wpAny_pure hq)) fun _ _ e => e))
section
variable {prog : Program} {w : World} {s : Shared} {H : Heap} {L fa : Addr} {cd : Value} {mk co te me : Addr} {ps : Array Value} {u : Str → Option Value} {Q : Flow → Shared → Prop} {i jj : Nat} {t1 t2 t3 : Tok} {mo : Int} {mets : List (Int × Int × Int)}
set_option maxHeartbeats 4000000 in
theorem in_2 (G : Gd w.params H) (hml : mets.length ≤ 100) (hmo : 0 ≤ mo)
    (F : Fr H L s.heap (kstB u [(Str.ofString "k", .int i t1), (Str.ofString "j", .int jj t2), (Str.ofString "marks", .ref mk), (Str.ofString "columns", .ref co), (Str.ofString "tells", .ref te), (Str.ofString "most", .int mo t3), (Str.ofString "met", .ref me)]))
    (N : News H L s.heap [(82, tabObj ps)]) (hme : Rd (Dg H L s.heap) (.ref me) (.list (mets.map tri)))
    (next : ∀ h tk un u, Fr H L h (kstB u [(Str.ofString "k", .int i t1), (Str.ofString "j", .int jj t2), (Str.ofString "marks", .ref mk), (Str.ofString "columns", .ref co), (Str.ofString "tells", .ref te), (Str.ofString "most", .int mo t3), (Str.ofString "met", .ref me), (Str.ofString "unlike", .ref un)]) →
      News H L h [(82, tabObj ps)] → Sub (Dg H L s.heap) (Dg H L h) → Rd (Dg H L h) (.ref un) (.list (((mets.take mo.toNat).filter uneq).map tri)) →
      wpAny (model prog w) (lawA L fa cd) (execs (inBody.drop 3) (lawEnv L fa cd)) Q (fun _ _ => False) { s with heap := h, toks := tk }) :
    wpAny (model prog w) (lawA L fa cd) (execs (inBody.drop 2) (lawEnv L fa cd)) Q (fun _ _ => False) s := by
  have X := G.k
  obtain ⟨p, loose, mg, mb, TT⟩ := G.t
  obtain ⟨h, gs, dr, tk, os⟩ := s
  dsimp only at F N next hme
  obtain ⟨rest, N, R⟩ := open_rest N
  have hg := R.sub N (by intro p hp; k_mem)
  cases hme with | list la ra => ?_
  have hav := ra.length
  rw [List.length_map] at hav
  have la1 := isList_keeps la hg
  change wpAny _ _ (execs (_ :: _) _) _ _ _
  refine wpAny_execs_cons ?_
  refine' lcAssign (cl := []) ?sw ?clos ?cell ?kind ?names ?hx ?hy ?hp ?h ?hs
  case sw => with_unfolding_all rfl
  case clos => with_unfolding_all rfl
  case cell => decide
  case kind => rfl
  case names => decide
  case hx => rfl
  case hy => rfl
  case hp => rfl
  case hs => intro _; with_unfolding_all rfl
  (repeat' (first | (k_unfold; (try dsimp only)) | ((fail_if_success (with_reducible show wpAny _ _ (pyIter _) _ _ _)); (fail_if_success (with_reducible show wpAny _ _ (subscriptTail _ _ _ _) _ _ _)); (fail_if_success (with_reducible show wpAny _ _ (call (Value.ref _) _) _ _ _)); (fail_if_success (with_reducible show wpAny _ _ (call (Value.type _) _) _ _ _)); (fail_if_success (with_reducible show wpAny _ _ (compareOp _ (Value.ref _) _) _ _ _)); (fail_if_success (with_reducible show wpAny _ _ (eval (Expr.ListComp _ _ _ _) _) _ _ _)); (fail_if_success (with_reducible show wpAny _ _ (exec (Stmt.Assign _ (Expr.ListComp _ _ _ _) _) _) _ _ _)); (first | ((with_reducible show wpAny _ _ (eval (Expr.Name _ _) (compEnvC _ _ _ _)) _ _ _); k_dflt (first | (refine' nmL ?qk1Z ?qk2Z ?_ ?qk3Z ?qk4Z ?qk5Z; (case qk3Z => rfl); (case qk4Z => rfl); (case qk5Z => decide); (case qk1Z => k_asm); (case qk2Z => rfl); k_whole) | (refine' nmC ?qk1Z ?qk2Z ?qk6Z ?_ ?qk3Z ?qk4Z ?qk5Z; (case qk3Z => rfl); (case qk4Z => rfl); (case qk5Z => decide); (case qk6Z => rfl); (case qk1Z => assumption); (case qk2Z => assumption); k_whole) | (refine' nmG ?qk1Z ?qk2Z ?_ ?qk6Z ?qk3Z ?qk4Z ?qk5Z; (case qk3Z => rfl); (case qk4Z => rfl); (case qk5Z => decide); (case qk6Z => rfl); (case qk1Z => assumption); (case qk2Z => k_is); k_whole) | (refine' nmB ?qk1Z ?qk2Z ?qk7Z ?qk8Z ?_ ?qk6Z ?qk9Z ?qk3Z ?qk4Z ?qk5Z; (case qk3Z => rfl); (case qk4Z => rfl); (case qk5Z => decide); (case qk6Z => rfl); (case qk9Z => rfl); (case qk1Z => assumption); (case qk2Z => k_is); (case qk7Z => boot_fast); (case qk8Z => decide); k_whole))) | (with_reducible (((with_reducible show wpAny _ _ (newTuple _) _ _ _); (k_here; refine newTuple_L (by k_asm) (by k_asm) ?_ (Nat.le_of_ble_eq_true rfl); intro a9 h9 F9 N9 f9 k9; (try dsimp only))))) | (with_reducible (((with_reducible show wpAny _ _ (execs (Stmt.Assign _ _ _ :: _) _) _ _ _); refine wpAny_execs_cons ?_))) | (with_reducible (((with_reducible show TurnE _ _ _ _ _ _ _ _ _ _ _ _ _ _ _); dsimp only [TurnE]))) | (with_reducible ((k_here; (with_reducible show wpAny _ _ (call (Value.builtin "len") [Value.ref _]) _ _ _); refine len_tup_ints (IsTup.keeps (by assumption) (Fr.keep (by k_asm))) (by assumption) (by assumption) ?_))) | walk1); all_goals (try dsimp only)) | dsimp only))
  refine' slice_K (s := Shared.mk _ _ _ _ _) la1 .none (.int _ _) .none (by decide) ?_ ?hs ?ht ?hz
  case hs => with_unfolding_all rfl
  case ht => intro _; with_unfolding_all rfl
  case hz => omega
  intro a4 h4 k4 hn4 hl4
  rw [pick_upto, if_neg (by omega)] at hl4
  dsimp only at k4 hn4 ⊢
  have F4 := Fr.keeps F k4
  have N4 := add_news F (News.grown N k4) hn4 hl4
  refine src_list (s := Shared.mk _ _ _ _ _) rfl ⟨_, hl4, rfl, _, rfl⟩ ?_
  intro it s₂ hsrc
  have hsub := rest_sub R N4 fun p hp => .tail _ (.tail _ hp)
  have hsv : (List.take mo.toNat _).length ≤ 100 := Nat.le_trans (List.length_take_le' mo.toNat _) (by rw [hav]; exact hml)
  refine ⟨_, _, _, fun i ys _ => RdAll (Dg H L h4) ys ((((mets.take mo.toNat).take i).filter uneq).map tri), _, hsrc, Nat.le_trans hsv (by omega), F4.ns, (fun _ _ _ _ h _ => h), (fun _ => .nil), LcTurn.test ?turn, ?done⟩
  case turn =>
    intro C X' j v ys s₃ m₃ E' hX hi' hv hy hR F' N'
    have hjm : j < mo.toNat := by rw [List.length_take] at hi'; omega
    rw [List.getElem?_take_of_lt hjm] at hv
    obtain ⟨e, he, re⟩ := RdAll.mapRd (ra.keeps hsub) j v hv
    have he' : (mets.take mo.toNat)[j]? = some e := by rw [List.getElem?_take_of_lt hjm]; exact he
    have re3 : Rd s₃.heap v (tri e) := re.keeps fun b o q => F'.keep b o (nw_sub b o q)
    have G3 : Gd w.params s₃.heap := G.keeps fun b o q => F'.keep b o (F4.keep b o q)
    clear F N F4 N4
    (repeat' (first | (k_unfold; (try dsimp only)) | ((fail_if_success (with_reducible show wpAny _ _ (pyIter _) _ _ _)); (fail_if_success (with_reducible show wpAny _ _ (subscriptTail _ _ _ _) _ _ _)); (fail_if_success (with_reducible show wpAny _ _ (call (Value.ref _) _) _ _ _)); (fail_if_success (with_reducible show wpAny _ _ (call (Value.type _) _) _ _ _)); (fail_if_success (with_reducible show wpAny _ _ (compareOp _ (Value.ref _) _) _ _ _)); (fail_if_success (with_reducible show wpAny _ _ (eval (Expr.ListComp _ _ _ _) _) _ _ _)); (fail_if_success (with_reducible show wpAny _ _ (exec (Stmt.Assign _ (Expr.ListComp _ _ _ _) _) _) _ _ _)); (first | ((with_reducible show wpAny _ _ (eval (Expr.Name _ _) (compEnvC _ _ _ _)) _ _ _); k_dflt (first | (refine' nmL ?qk1Z ?qk2Z ?_ ?qk3Z ?qk4Z ?qk5Z; (case qk3Z => rfl); (case qk4Z => rfl); (case qk5Z => decide); (case qk1Z => k_asm); (case qk2Z => rfl); k_whole) | (refine' nmC ?qk1Z ?qk2Z ?qk6Z ?_ ?qk3Z ?qk4Z ?qk5Z; (case qk3Z => rfl); (case qk4Z => rfl); (case qk5Z => decide); (case qk6Z => rfl); (case qk1Z => assumption); (case qk2Z => assumption); k_whole) | (refine' nmG ?qk1Z ?qk2Z ?_ ?qk6Z ?qk3Z ?qk4Z ?qk5Z; (case qk3Z => rfl); (case qk4Z => rfl); (case qk5Z => decide); (case qk6Z => rfl); (case qk1Z => assumption); (case qk2Z => k_is); k_whole) | (refine' nmB ?qk1Z ?qk2Z ?qk7Z ?qk8Z ?_ ?qk6Z ?qk9Z ?qk3Z ?qk4Z ?qk5Z; (case qk3Z => rfl); (case qk4Z => rfl); (case qk5Z => decide); (case qk6Z => rfl); (case qk9Z => rfl); (case qk1Z => assumption); (case qk2Z => k_is); (case qk7Z => boot_fast); (case qk8Z => decide); k_whole))) | (with_reducible (((with_reducible show wpAny _ _ (newTuple _) _ _ _); (k_here; refine newTuple_L (by k_asm) (by k_asm) ?_ (Nat.le_of_ble_eq_true rfl); intro a9 h9 F9 N9 f9 k9; (try dsimp only))))) | (with_reducible (((with_reducible show wpAny _ _ (execs (Stmt.Assign _ _ _ :: _) _) _ _ _); refine wpAny_execs_cons ?_))) | (with_reducible (((with_reducible show TurnE _ _ _ _ _ _ _ _ _ _ _ _ _ _ _); dsimp only [TurnE]))) | (with_reducible ((k_here; (with_reducible show wpAny _ _ (call (Value.builtin "len") [Value.ref _]) _ _ _); refine len_tup_ints (IsTup.keeps (by assumption) (Fr.keep (by k_asm))) (by assumption) (by assumption) ?_))) | walk1); all_goals (try dsimp only)) | dsimp only))
    refine itemT re3 (by decide) (by decide) rfl ?_ (fun a => by with_unfolding_all rfl)
    intro v1 r1
    cases r1
    (repeat' (first | (k_unfold; (try dsimp only)) | ((fail_if_success (with_reducible show wpAny _ _ (pyIter _) _ _ _)); (fail_if_success (with_reducible show wpAny _ _ (subscriptTail _ _ _ _) _ _ _)); (fail_if_success (with_reducible show wpAny _ _ (call (Value.ref _) _) _ _ _)); (fail_if_success (with_reducible show wpAny _ _ (call (Value.type _) _) _ _ _)); (fail_if_success (with_reducible show wpAny _ _ (compareOp _ (Value.ref _) _) _ _ _)); (fail_if_success (with_reducible show wpAny _ _ (eval (Expr.ListComp _ _ _ _) _) _ _ _)); (fail_if_success (with_reducible show wpAny _ _ (exec (Stmt.Assign _ (Expr.ListComp _ _ _ _) _) _) _ _ _)); (first | ((with_reducible show wpAny _ _ (eval (Expr.Name _ _) (compEnvC _ _ _ _)) _ _ _); k_dflt (first | (refine' nmL ?qk1Z ?qk2Z ?_ ?qk3Z ?qk4Z ?qk5Z; (case qk3Z => rfl); (case qk4Z => rfl); (case qk5Z => decide); (case qk1Z => k_asm); (case qk2Z => rfl); k_whole) | (refine' nmC ?qk1Z ?qk2Z ?qk6Z ?_ ?qk3Z ?qk4Z ?qk5Z; (case qk3Z => rfl); (case qk4Z => rfl); (case qk5Z => decide); (case qk6Z => rfl); (case qk1Z => assumption); (case qk2Z => assumption); k_whole) | (refine' nmG ?qk1Z ?qk2Z ?_ ?qk6Z ?qk3Z ?qk4Z ?qk5Z; (case qk3Z => rfl); (case qk4Z => rfl); (case qk5Z => decide); (case qk6Z => rfl); (case qk1Z => assumption); (case qk2Z => k_is); k_whole) | (refine' nmB ?qk1Z ?qk2Z ?qk7Z ?qk8Z ?_ ?qk6Z ?qk9Z ?qk3Z ?qk4Z ?qk5Z; (case qk3Z => rfl); (case qk4Z => rfl); (case qk5Z => decide); (case qk6Z => rfl); (case qk9Z => rfl); (case qk1Z => assumption); (case qk2Z => k_is); (case qk7Z => boot_fast); (case qk8Z => decide); k_whole))) | (with_reducible (((with_reducible show wpAny _ _ (newTuple _) _ _ _); (k_here; refine newTuple_L (by k_asm) (by k_asm) ?_ (Nat.le_of_ble_eq_true rfl); intro a9 h9 F9 N9 f9 k9; (try dsimp only))))) | (with_reducible (((with_reducible show wpAny _ _ (execs (Stmt.Assign _ _ _ :: _) _) _ _ _); refine wpAny_execs_cons ?_))) | (with_reducible (((with_reducible show TurnE _ _ _ _ _ _ _ _ _ _ _ _ _ _ _); dsimp only [TurnE]))) | (with_reducible ((k_here; (with_reducible show wpAny _ _ (call (Value.builtin "len") [Value.ref _]) _ _ _); refine len_tup_ints (IsTup.keeps (by assumption) (Fr.keep (by k_asm))) (by assumption) (by assumption) ?_))) | walk1); all_goals (try dsimp only)) | dsimp only))
    refine itemT (s := Shared.mk _ _ _ _ _) re3 (by decide) (by decide) rfl ?_ (fun a => by with_unfolding_all rfl)
    intro v2 r2
    cases r2
    (repeat' (first | (k_unfold; (try dsimp only)) | ((fail_if_success (with_reducible show wpAny _ _ (pyIter _) _ _ _)); (fail_if_success (with_reducible show wpAny _ _ (subscriptTail _ _ _ _) _ _ _)); (fail_if_success (with_reducible show wpAny _ _ (call (Value.ref _) _) _ _ _)); (fail_if_success (with_reducible show wpAny _ _ (call (Value.type _) _) _ _ _)); (fail_if_success (with_reducible show wpAny _ _ (compareOp _ (Value.ref _) _) _ _ _)); (fail_if_success (with_reducible show wpAny _ _ (eval (Expr.ListComp _ _ _ _) _) _ _ _)); (fail_if_success (with_reducible show wpAny _ _ (exec (Stmt.Assign _ (Expr.ListComp _ _ _ _) _) _) _ _ _)); (first | ((with_reducible show wpAny _ _ (eval (Expr.Name _ _) (compEnvC _ _ _ _)) _ _ _); k_dflt (first | (refine' nmL ?qk1Z ?qk2Z ?_ ?qk3Z ?qk4Z ?qk5Z; (case qk3Z => rfl); (case qk4Z => rfl); (case qk5Z => decide); (case qk1Z => k_asm); (case qk2Z => rfl); k_whole) | (refine' nmC ?qk1Z ?qk2Z ?qk6Z ?_ ?qk3Z ?qk4Z ?qk5Z; (case qk3Z => rfl); (case qk4Z => rfl); (case qk5Z => decide); (case qk6Z => rfl); (case qk1Z => assumption); (case qk2Z => assumption); k_whole) | (refine' nmG ?qk1Z ?qk2Z ?_ ?qk6Z ?qk3Z ?qk4Z ?qk5Z; (case qk3Z => rfl); (case qk4Z => rfl); (case qk5Z => decide); (case qk6Z => rfl); (case qk1Z => assumption); (case qk2Z => k_is); k_whole) | (refine' nmB ?qk1Z ?qk2Z ?qk7Z ?qk8Z ?_ ?qk6Z ?qk9Z ?qk3Z ?qk4Z ?qk5Z; (case qk3Z => rfl); (case qk4Z => rfl); (case qk5Z => decide); (case qk6Z => rfl); (case qk9Z => rfl); (case qk1Z => assumption); (case qk2Z => k_is); (case qk7Z => boot_fast); (case qk8Z => decide); k_whole))) | (with_reducible (((with_reducible show wpAny _ _ (newTuple _) _ _ _); (k_here; refine newTuple_L (by k_asm) (by k_asm) ?_ (Nat.le_of_ble_eq_true rfl); intro a9 h9 F9 N9 f9 k9; (try dsimp only))))) | (with_reducible (((with_reducible show wpAny _ _ (execs (Stmt.Assign _ _ _ :: _) _) _ _ _); refine wpAny_execs_cons ?_))) | (with_reducible (((with_reducible show TurnE _ _ _ _ _ _ _ _ _ _ _ _ _ _ _); dsimp only [TurnE]))) | (with_reducible ((k_here; (with_reducible show wpAny _ _ (call (Value.builtin "len") [Value.ref _]) _ _ _); refine len_tup_ints (IsTup.keeps (by assumption) (Fr.keep (by k_asm))) (by assumption) (by assumption) ?_))) | walk1); all_goals (try dsimp only)) | dsimp only))
    · exact Keeps.toks _ _
    · exact Keeps.refl _
    · rw [filter_take_succ he', if_pos (by unfold uneq; simp_all), List.map_append]
      exact RdAll.snoc re hR
    · rw [filter_take_succ he', if_neg (by unfold uneq; simp_all), List.append_nil]
      exact hR
  case done =>
    intro D h5 tk5 ys hD hl5 hR5 ns5 k5
    obtain ⟨n5, hl5⟩ := hl5
    obtain ⟨F5, N5⟩ := after_assign F4 N4 ns5 k5
    have N5 := add_news F4 N5 hD hl5
    rw [List.take_of_length_le (by simp only [List.length_take]; omega)] at hR5
    have k45 : Sub (Dg H L h4) (Dg H L h5) := nw_keep fun b o hb e => k5 b o (fun q => hb (q ▸ List.mem_cons_self)) e
    dsimp only
    exact next h5 tk5 D _ (kst_fr _ F5 (List.forall_mem_cons.mpr ⟨rfl, List.forall_mem_cons.mpr ⟨rfl, List.forall_mem_cons.mpr ⟨rfl, List.forall_mem_cons.mpr ⟨rfl, List.forall_mem_cons.mpr ⟨rfl, List.forall_mem_cons.mpr ⟨rfl, List.forall_mem_cons.mpr ⟨rfl, List.forall_mem_cons.mpr ⟨rfl, List.forall_mem_nil _⟩⟩⟩⟩⟩⟩⟩⟩))
      (News.pick N5 (.tail _ (.tail _ (.head _))) News.nil) (fun b o e => k45 b o (hsub b o e)) (.list ⟨_, new_in N5 (.tail _ (.tail _ (.head _))) (.head _) (by intro q; cases q), rfl, _, rfl⟩ (hR5.keeps k45))
end
section
variable {prog : Program} {w : World} {s : Shared} {H : Heap} {L fa : Addr} {cd : Value} {mk co te me un : Addr} {ps : Array Value} {u : Str → Option Value} {Q : Flow → Shared → Prop} {i jj : Nat} {t1 t2 t3 : Tok} {mo : Int} {mets : List (Int × Int × Int)}
set_option maxHeartbeats 4000000 in
theorem in_3 (G : Gd w.params H) (hml : mets.length ≤ 100) (hmo : 0 ≤ mo)
    (F : Fr H L s.heap (kstB u [(Str.ofString "k", .int i t1), (Str.ofString "j", .int jj t2), (Str.ofString "marks", .ref mk), (Str.ofString "columns", .ref co), (Str.ofString "tells", .ref te), (Str.ofString "most", .int mo t3), (Str.ofString "met", .ref me), (Str.ofString "unlike", .ref un)]))
    (N : News H L s.heap [(82, tabObj ps)]) (hme : Rd (Dg H L s.heap) (.ref me) (.list (mets.map tri)))
    (next : ∀ h tk ab u, Fr H L h (kstB u [(Str.ofString "k", .int i t1), (Str.ofString "j", .int jj t2), (Str.ofString "marks", .ref mk), (Str.ofString "columns", .ref co), (Str.ofString "tells", .ref te), (Str.ofString "met", .ref me), (Str.ofString "unlike", .ref un), (Str.ofString "above", .ref ab)]) →
      News H L h [(82, tabObj ps)] → Sub (Dg H L s.heap) (Dg H L h) → Rd (Dg H L h) (.ref ab) (.list (((mets.take mo.toNat).filter geq).map tri)) →
      wpAny (model prog w) (lawA L fa cd) (execs (inBody.drop 4) (lawEnv L fa cd)) Q (fun _ _ => False) { s with heap := h, toks := tk }) :
    wpAny (model prog w) (lawA L fa cd) (execs (inBody.drop 3) (lawEnv L fa cd)) Q (fun _ _ => False) s := by
  have X := G.k
  obtain ⟨p, loose, mg, mb, TT⟩ := G.t
  obtain ⟨h, gs, dr, tk, os⟩ := s
  dsimp only at F N next hme
  obtain ⟨rest, N, R⟩ := open_rest N
  have hg := R.sub N (by intro p hp; k_mem)
  cases hme with | list la ra => ?_
  have hav := ra.length
  rw [List.length_map] at hav
  have la1 := isList_keeps la hg
  change wpAny _ _ (execs (_ :: _) _) _ _ _
  refine wpAny_execs_cons ?_
  refine' lcAssign (cl := []) ?sw ?clos ?cell ?kind ?names ?hx ?hy ?hp ?h ?hs
  case sw => with_unfolding_all rfl
  case clos => with_unfolding_all rfl
  case cell => decide
  case kind => rfl
  case names => decide
  case hx => rfl
  case hy => rfl
  case hp => rfl
  case hs => intro _; with_unfolding_all rfl
  (repeat' (first | (k_unfold; (try dsimp only)) | ((fail_if_success (with_reducible show wpAny _ _ (pyIter _) _ _ _)); (fail_if_success (with_reducible show wpAny _ _ (subscriptTail _ _ _ _) _ _ _)); (fail_if_success (with_reducible show wpAny _ _ (call (Value.ref _) _) _ _ _)); (fail_if_success (with_reducible show wpAny _ _ (call (Value.type _) _) _ _ _)); (fail_if_success (with_reducible show wpAny _ _ (compareOp _ (Value.ref _) _) _ _ _)); (fail_if_success (with_reducible show wpAny _ _ (eval (Expr.ListComp _ _ _ _) _) _ _ _)); (fail_if_success (with_reducible show wpAny _ _ (exec (Stmt.Assign _ (Expr.ListComp _ _ _ _) _) _) _ _ _)); (first | ((with_reducible show wpAny _ _ (eval (Expr.Name _ _) (compEnvC _ _ _ _)) _ _ _); k_dflt (first | (refine' nmL ?qk1Z ?qk2Z ?_ ?qk3Z ?qk4Z ?qk5Z; (case qk3Z => rfl); (case qk4Z => rfl); (case qk5Z => decide); (case qk1Z => k_asm); (case qk2Z => rfl); k_whole) | (refine' nmC ?qk1Z ?qk2Z ?qk6Z ?_ ?qk3Z ?qk4Z ?qk5Z; (case qk3Z => rfl); (case qk4Z => rfl); (case qk5Z => decide); (case qk6Z => rfl); (case qk1Z => assumption); (case qk2Z => assumption); k_whole) | (refine' nmG ?qk1Z ?qk2Z ?_ ?qk6Z ?qk3Z ?qk4Z ?qk5Z; (case qk3Z => rfl); (case qk4Z => rfl); (case qk5Z => decide); (case qk6Z => rfl); (case qk1Z => assumption); (case qk2Z => k_is); k_whole) | (refine' nmB ?qk1Z ?qk2Z ?qk7Z ?qk8Z ?_ ?qk6Z ?qk9Z ?qk3Z ?qk4Z ?qk5Z; (case qk3Z => rfl); (case qk4Z => rfl); (case qk5Z => decide); (case qk6Z => rfl); (case qk9Z => rfl); (case qk1Z => assumption); (case qk2Z => k_is); (case qk7Z => boot_fast); (case qk8Z => decide); k_whole))) | (with_reducible (((with_reducible show wpAny _ _ (newTuple _) _ _ _); (k_here; refine newTuple_L (by k_asm) (by k_asm) ?_ (Nat.le_of_ble_eq_true rfl); intro a9 h9 F9 N9 f9 k9; (try dsimp only))))) | (with_reducible (((with_reducible show wpAny _ _ (execs (Stmt.Assign _ _ _ :: _) _) _ _ _); refine wpAny_execs_cons ?_))) | (with_reducible (((with_reducible show TurnE _ _ _ _ _ _ _ _ _ _ _ _ _ _ _); dsimp only [TurnE]))) | (with_reducible ((k_here; (with_reducible show wpAny _ _ (call (Value.builtin "len") [Value.ref _]) _ _ _); refine len_tup_ints (IsTup.keeps (by assumption) (Fr.keep (by k_asm))) (by assumption) (by assumption) ?_))) | walk1); all_goals (try dsimp only)) | dsimp only))
  refine' slice_K (s := Shared.mk _ _ _ _ _) la1 .none (.int _ _) .none (by decide) ?_ ?hs ?ht ?hz
  case hs => with_unfolding_all rfl
  case ht => intro _; with_unfolding_all rfl
  case hz => omega
  intro a4 h4 k4 hn4 hl4
  rw [pick_upto, if_neg (by omega)] at hl4
  dsimp only at k4 hn4 ⊢
  have F4 := Fr.keeps F k4
  have N4 := add_news F (News.grown N k4) hn4 hl4
  refine src_list (s := Shared.mk _ _ _ _ _) rfl ⟨_, hl4, rfl, _, rfl⟩ ?_
  intro it s₂ hsrc
  have hsub := rest_sub R N4 fun p hp => .tail _ (.tail _ hp)
  have hsv : (List.take mo.toNat _).length ≤ 100 := Nat.le_trans (List.length_take_le' mo.toNat _) (by rw [hav]; exact hml)
  refine ⟨_, _, _, fun i ys _ => RdAll (Dg H L h4) ys ((((mets.take mo.toNat).take i).filter geq).map tri), _, hsrc, Nat.le_trans hsv (by omega), F4.ns, (fun _ _ _ _ h _ => h), (fun _ => .nil), LcTurn.test ?turn, ?done⟩
  case turn =>
    intro C X' j v ys s₃ m₃ E' hX hi' hv hy hR F' N'
    have hjm : j < mo.toNat := by rw [List.length_take] at hi'; omega
    rw [List.getElem?_take_of_lt hjm] at hv
    obtain ⟨e, he, re⟩ := RdAll.mapRd (ra.keeps hsub) j v hv
    have he' : (mets.take mo.toNat)[j]? = some e := by rw [List.getElem?_take_of_lt hjm]; exact he
    have re3 : Rd s₃.heap v (tri e) := re.keeps fun b o q => F'.keep b o (nw_sub b o q)
    have G3 : Gd w.params s₃.heap := G.keeps fun b o q => F'.keep b o (F4.keep b o q)
    clear F N F4 N4
    (repeat' (first | (k_unfold; (try dsimp only)) | ((fail_if_success (with_reducible show wpAny _ _ (pyIter _) _ _ _)); (fail_if_success (with_reducible show wpAny _ _ (subscriptTail _ _ _ _) _ _ _)); (fail_if_success (with_reducible show wpAny _ _ (call (Value.ref _) _) _ _ _)); (fail_if_success (with_reducible show wpAny _ _ (call (Value.type _) _) _ _ _)); (fail_if_success (with_reducible show wpAny _ _ (compareOp _ (Value.ref _) _) _ _ _)); (fail_if_success (with_reducible show wpAny _ _ (eval (Expr.ListComp _ _ _ _) _) _ _ _)); (fail_if_success (with_reducible show wpAny _ _ (exec (Stmt.Assign _ (Expr.ListComp _ _ _ _) _) _) _ _ _)); (first | ((with_reducible show wpAny _ _ (eval (Expr.Name _ _) (compEnvC _ _ _ _)) _ _ _); k_dflt (first | (refine' nmL ?qk1Z ?qk2Z ?_ ?qk3Z ?qk4Z ?qk5Z; (case qk3Z => rfl); (case qk4Z => rfl); (case qk5Z => decide); (case qk1Z => k_asm); (case qk2Z => rfl); k_whole) | (refine' nmC ?qk1Z ?qk2Z ?qk6Z ?_ ?qk3Z ?qk4Z ?qk5Z; (case qk3Z => rfl); (case qk4Z => rfl); (case qk5Z => decide); (case qk6Z => rfl); (case qk1Z => assumption); (case qk2Z => assumption); k_whole) | (refine' nmG ?qk1Z ?qk2Z ?_ ?qk6Z ?qk3Z ?qk4Z ?qk5Z; (case qk3Z => rfl); (case qk4Z => rfl); (case qk5Z => decide); (case qk6Z => rfl); (case qk1Z => assumption); (case qk2Z => k_is); k_whole) | (refine' nmB ?qk1Z ?qk2Z ?qk7Z ?qk8Z ?_ ?qk6Z ?qk9Z ?qk3Z ?qk4Z ?qk5Z; (case qk3Z => rfl); (case qk4Z => rfl); (case qk5Z => decide); (case qk6Z => rfl); (case qk9Z => rfl); (case qk1Z => assumption); (case qk2Z => k_is); (case qk7Z => boot_fast); (case qk8Z => decide); k_whole))) | (with_reducible (((with_reducible show wpAny _ _ (newTuple _) _ _ _); (k_here; refine newTuple_L (by k_asm) (by k_asm) ?_ (Nat.le_of_ble_eq_true rfl); intro a9 h9 F9 N9 f9 k9; (try dsimp only))))) | (with_reducible (((with_reducible show wpAny _ _ (execs (Stmt.Assign _ _ _ :: _) _) _ _ _); refine wpAny_execs_cons ?_))) | (with_reducible (((with_reducible show TurnE _ _ _ _ _ _ _ _ _ _ _ _ _ _ _); dsimp only [TurnE]))) | (with_reducible ((k_here; (with_reducible show wpAny _ _ (call (Value.builtin "len") [Value.ref _]) _ _ _); refine len_tup_ints (IsTup.keeps (by assumption) (Fr.keep (by k_asm))) (by assumption) (by assumption) ?_))) | walk1); all_goals (try dsimp only)) | dsimp only))
    refine itemT re3 (by decide) (by decide) rfl ?_ (fun a => by with_unfolding_all rfl)
    intro v1 r1
    cases r1
    (repeat' (first | (k_unfold; (try dsimp only)) | ((fail_if_success (with_reducible show wpAny _ _ (pyIter _) _ _ _)); (fail_if_success (with_reducible show wpAny _ _ (subscriptTail _ _ _ _) _ _ _)); (fail_if_success (with_reducible show wpAny _ _ (call (Value.ref _) _) _ _ _)); (fail_if_success (with_reducible show wpAny _ _ (call (Value.type _) _) _ _ _)); (fail_if_success (with_reducible show wpAny _ _ (compareOp _ (Value.ref _) _) _ _ _)); (fail_if_success (with_reducible show wpAny _ _ (eval (Expr.ListComp _ _ _ _) _) _ _ _)); (fail_if_success (with_reducible show wpAny _ _ (exec (Stmt.Assign _ (Expr.ListComp _ _ _ _) _) _) _ _ _)); (first | ((with_reducible show wpAny _ _ (eval (Expr.Name _ _) (compEnvC _ _ _ _)) _ _ _); k_dflt (first | (refine' nmL ?qk1Z ?qk2Z ?_ ?qk3Z ?qk4Z ?qk5Z; (case qk3Z => rfl); (case qk4Z => rfl); (case qk5Z => decide); (case qk1Z => k_asm); (case qk2Z => rfl); k_whole) | (refine' nmC ?qk1Z ?qk2Z ?qk6Z ?_ ?qk3Z ?qk4Z ?qk5Z; (case qk3Z => rfl); (case qk4Z => rfl); (case qk5Z => decide); (case qk6Z => rfl); (case qk1Z => assumption); (case qk2Z => assumption); k_whole) | (refine' nmG ?qk1Z ?qk2Z ?_ ?qk6Z ?qk3Z ?qk4Z ?qk5Z; (case qk3Z => rfl); (case qk4Z => rfl); (case qk5Z => decide); (case qk6Z => rfl); (case qk1Z => assumption); (case qk2Z => k_is); k_whole) | (refine' nmB ?qk1Z ?qk2Z ?qk7Z ?qk8Z ?_ ?qk6Z ?qk9Z ?qk3Z ?qk4Z ?qk5Z; (case qk3Z => rfl); (case qk4Z => rfl); (case qk5Z => decide); (case qk6Z => rfl); (case qk9Z => rfl); (case qk1Z => assumption); (case qk2Z => k_is); (case qk7Z => boot_fast); (case qk8Z => decide); k_whole))) | (with_reducible (((with_reducible show wpAny _ _ (newTuple _) _ _ _); (k_here; refine newTuple_L (by k_asm) (by k_asm) ?_ (Nat.le_of_ble_eq_true rfl); intro a9 h9 F9 N9 f9 k9; (try dsimp only))))) | (with_reducible (((with_reducible show wpAny _ _ (execs (Stmt.Assign _ _ _ :: _) _) _ _ _); refine wpAny_execs_cons ?_))) | (with_reducible (((with_reducible show TurnE _ _ _ _ _ _ _ _ _ _ _ _ _ _ _); dsimp only [TurnE]))) | (with_reducible ((k_here; (with_reducible show wpAny _ _ (call (Value.builtin "len") [Value.ref _]) _ _ _); refine len_tup_ints (IsTup.keeps (by assumption) (Fr.keep (by k_asm))) (by assumption) (by assumption) ?_))) | walk1); all_goals (try dsimp only)) | dsimp only))
    refine itemT (s := Shared.mk _ _ _ _ _) re3 (by decide) (by decide) rfl ?_ (fun a => by with_unfolding_all rfl)
    intro v2 r2
    cases r2
    (repeat' (first | (k_unfold; (try dsimp only)) | ((fail_if_success (with_reducible show wpAny _ _ (pyIter _) _ _ _)); (fail_if_success (with_reducible show wpAny _ _ (subscriptTail _ _ _ _) _ _ _)); (fail_if_success (with_reducible show wpAny _ _ (call (Value.ref _) _) _ _ _)); (fail_if_success (with_reducible show wpAny _ _ (call (Value.type _) _) _ _ _)); (fail_if_success (with_reducible show wpAny _ _ (compareOp _ (Value.ref _) _) _ _ _)); (fail_if_success (with_reducible show wpAny _ _ (eval (Expr.ListComp _ _ _ _) _) _ _ _)); (fail_if_success (with_reducible show wpAny _ _ (exec (Stmt.Assign _ (Expr.ListComp _ _ _ _) _) _) _ _ _)); (first | ((with_reducible show wpAny _ _ (eval (Expr.Name _ _) (compEnvC _ _ _ _)) _ _ _); k_dflt (first | (refine' nmL ?qk1Z ?qk2Z ?_ ?qk3Z ?qk4Z ?qk5Z; (case qk3Z => rfl); (case qk4Z => rfl); (case qk5Z => decide); (case qk1Z => k_asm); (case qk2Z => rfl); k_whole) | (refine' nmC ?qk1Z ?qk2Z ?qk6Z ?_ ?qk3Z ?qk4Z ?qk5Z; (case qk3Z => rfl); (case qk4Z => rfl); (case qk5Z => decide); (case qk6Z => rfl); (case qk1Z => assumption); (case qk2Z => assumption); k_whole) | (refine' nmG ?qk1Z ?qk2Z ?_ ?qk6Z ?qk3Z ?qk4Z ?qk5Z; (case qk3Z => rfl); (case qk4Z => rfl); (case qk5Z => decide); (case qk6Z => rfl); (case qk1Z => assumption); (case qk2Z => k_is); k_whole) | (refine' nmB ?qk1Z ?qk2Z ?qk7Z ?qk8Z ?_ ?qk6Z ?qk9Z ?qk3Z ?qk4Z ?qk5Z; (case qk3Z => rfl); (case qk4Z => rfl); (case qk5Z => decide); (case qk6Z => rfl); (case qk9Z => rfl); (case qk1Z => assumption); (case qk2Z => k_is); (case qk7Z => boot_fast); (case qk8Z => decide); k_whole))) | (with_reducible (((with_reducible show wpAny _ _ (newTuple _) _ _ _); (k_here; refine newTuple_L (by k_asm) (by k_asm) ?_ (Nat.le_of_ble_eq_true rfl); intro a9 h9 F9 N9 f9 k9; (try dsimp only))))) | (with_reducible (((with_reducible show wpAny _ _ (execs (Stmt.Assign _ _ _ :: _) _) _ _ _); refine wpAny_execs_cons ?_))) | (with_reducible (((with_reducible show TurnE _ _ _ _ _ _ _ _ _ _ _ _ _ _ _); dsimp only [TurnE]))) | (with_reducible ((k_here; (with_reducible show wpAny _ _ (call (Value.builtin "len") [Value.ref _]) _ _ _); refine len_tup_ints (IsTup.keeps (by assumption) (Fr.keep (by k_asm))) (by assumption) (by assumption) ?_))) | walk1); all_goals (try dsimp only)) | dsimp only))
    · exact Keeps.toks _ _
    · exact Keeps.refl _
    · rw [filter_take_succ he', if_pos (by unfold geq; simp_all), List.map_append]
      exact RdAll.snoc re hR
    · rw [filter_take_succ he', if_neg (by unfold geq; simp_all), List.append_nil]
      exact hR
  case done =>
    intro D h5 tk5 ys hD hl5 hR5 ns5 k5
    obtain ⟨n5, hl5⟩ := hl5
    obtain ⟨F5, N5⟩ := after_assign F4 N4 ns5 k5
    have N5 := add_news F4 N5 hD hl5
    rw [List.take_of_length_le (by simp only [List.length_take]; omega)] at hR5
    have k45 : Sub (Dg H L h4) (Dg H L h5) := nw_keep fun b o hb e => k5 b o (fun q => hb (q ▸ List.mem_cons_self)) e
    dsimp only
    exact next h5 tk5 D _ (kst_fr _ F5 (List.forall_mem_cons.mpr ⟨rfl, List.forall_mem_cons.mpr ⟨rfl, List.forall_mem_cons.mpr ⟨rfl, List.forall_mem_cons.mpr ⟨rfl, List.forall_mem_cons.mpr ⟨rfl, List.forall_mem_cons.mpr ⟨rfl, List.forall_mem_cons.mpr ⟨rfl, List.forall_mem_cons.mpr ⟨rfl, List.forall_mem_nil _⟩⟩⟩⟩⟩⟩⟩⟩))
      (News.pick N5 (.tail _ (.tail _ (.head _))) News.nil) (fun b o e => k45 b o (hsub b o e)) (.list ⟨_, new_in N5 (.tail _ (.tail _ (.head _))) (.head _) (by intro q; cases q), rfl, _, rfl⟩ (hR5.keeps k45))
end
end
section
section
variable {prog : Program} {w : World} {s : Shared} {H : Heap} {L fa : Addr} {cd : Value} {tx sz mk co te me un ab : Addr} {ts : List (List Nat)} {zs : List Int} {ps : Array Value} {u : Str → Option Value} {Q : Flow → Shared → Prop} {i jj : Nat} {l l' : List Nat} {t1 t2 : Tok}
set_option maxHeartbeats 4000000 in
theorem in_4 (G : Gd w.params H) (hi : i < 7) (hj : jj < 7) (hl : ts[i]? = some l) (hl' : ts[jj]? = some l')
    (heq : (cntOf (aheadOf l) = cntOf (aheadOf l') ∧ lastOf l = lastOf l') ↔ colD zs l = colD zs l')
    (F : Fr H L s.heap (kstB u [(Str.ofString "k", .int i t1), (Str.ofString "j", .int jj t2), (Str.ofString "marks", .ref mk), (Str.ofString "columns", .ref co), (Str.ofString "tells", .ref te), (Str.ofString "met", .ref me), (Str.ofString "unlike", .ref un), (Str.ofString "above", .ref ab)]))
    (N : News H L s.heap [(82, tabObj ps)]) (M : Made (Dg H L s.heap) L tx sz mk co te ts zs)
    (next : ∀ h tk, Fr H L h (kstB u [(Str.ofString "k", .int i t1), (Str.ofString "j", .int jj t2), (Str.ofString "marks", .ref mk), (Str.ofString "columns", .ref co), (Str.ofString "tells", .ref te), (Str.ofString "met", .ref me), (Str.ofString "unlike", .ref un), (Str.ofString "above", .ref ab)]) →
      News H L h [(82, tabObj ps)] → Sub (Dg H L s.heap) (Dg H L h) →
      wpAny (model prog w) (lawA L fa cd) (execs (inBody.drop 5) (lawEnv L fa cd)) Q (fun _ _ => False) { s with heap := h, toks := tk }) :
    wpAny (model prog w) (lawA L fa cd) (execs (inBody.drop 4) (lawEnv L fa cd)) Q (fun _ _ => False) s := by
  have X := G.k
  obtain ⟨p, loose, mg, mb, TT⟩ := G.t
  obtain ⟨h, gs, dr, tk, os⟩ := s
  dsimp only at F N next M
  obtain ⟨rest, N, R⟩ := open_rest N
  obtain ⟨⟨tvs, tn, t1', t2'⟩, ⟨svs, sn, s1, s2⟩, ⟨mvs, mn, m1, m2⟩, ⟨cvs, cn, c1, c2⟩, ⟨evs, en, e1, e2⟩, ⟨o2, q1, q2⟩⟩ := M
  obtain ⟨mv, hmv, x, rfl, Wx⟩ := m2.get hl
  obtain ⟨mv', hmv', y, rfl, Wy⟩ := m2.get hl'
  obtain ⟨cv, hcv, rcv⟩ := c2.get (i := i) (d := colD zs l) (by rw [List.getElem?_map, hl]; rfl)
  obtain ⟨dv, hdv, rdv⟩ := c2.get (i := jj) (d := colD zs l') (by rw [List.getElem?_map, hl']; rfl)
  have WA := Wx
  obtain ⟨dx, xn, xc, kk, x1, x2, x3, x4, x5, k1', k2', k3', k4', k5', y1, y2, y3, y4, vs', a1, a2, _, _, _, _, _, _, _, _, _⟩ := Wx
  have hg := R.sub N (by intro p hp; k_mem)
  clear t1' t2' s1 s2 e1 e2 q1 q2 m2 c2
  change wpAny _ _ (execs (_ :: _) _) _ _ _
  refine wpAny_execs_cons ?_
  (repeat' (first | (k_unfold; (try dsimp only)) | ((fail_if_success (with_reducible show wpAny _ _ (pyIter _) _ _ _)); (fail_if_success (with_reducible show wpAny _ _ (execs (Stmt.If _ _ _ _ :: _) _) _ _ _)); (fail_if_success (with_reducible show wpAny _ _ (execs (Stmt.Assign _ _ _ :: _) _) _ _ _)); (fail_if_success (with_reducible show wpAny _ _ (subscriptTail _ _ _ _) _ _ _)); (fail_if_success (with_reducible show wpAny _ _ (call (Value.ref _) _) _ _ _)); (fail_if_success (with_reducible show wpAny _ _ (call (Value.type _) _) _ _ _)); (fail_if_success (with_reducible show wpAny _ _ (compareOp _ (Value.ref _) _) _ _ _)); (fail_if_success (with_reducible show wpAny _ _ (eval (Expr.ListComp _ _ _ _) _) _ _ _)); (fail_if_success (with_reducible show wpAny _ _ (exec (Stmt.Assign _ (Expr.ListComp _ _ _ _) _) _) _ _ _)); (first | ((with_reducible show wpAny _ _ (eval (Expr.Name _ _) (compEnvC _ _ _ _)) _ _ _); k_dflt (first | (refine' nmL ?qk1Z ?qk2Z ?_ ?qk3Z ?qk4Z ?qk5Z; (case qk3Z => rfl); (case qk4Z => rfl); (case qk5Z => decide); (case qk1Z => k_asm); (case qk2Z => rfl); k_whole) | (refine' nmC ?qk1Z ?qk2Z ?qk6Z ?_ ?qk3Z ?qk4Z ?qk5Z; (case qk3Z => rfl); (case qk4Z => rfl); (case qk5Z => decide); (case qk6Z => rfl); (case qk1Z => assumption); (case qk2Z => assumption); k_whole) | (refine' nmG ?qk1Z ?qk2Z ?_ ?qk6Z ?qk3Z ?qk4Z ?qk5Z; (case qk3Z => rfl); (case qk4Z => rfl); (case qk5Z => decide); (case qk6Z => rfl); (case qk1Z => assumption); (case qk2Z => k_is); k_whole) | (refine' nmB ?qk1Z ?qk2Z ?qk7Z ?qk8Z ?_ ?qk6Z ?qk9Z ?qk3Z ?qk4Z ?qk5Z; (case qk3Z => rfl); (case qk4Z => rfl); (case qk5Z => decide); (case qk6Z => rfl); (case qk9Z => rfl); (case qk1Z => assumption); (case qk2Z => k_is); (case qk7Z => boot_fast); (case qk8Z => decide); k_whole))) | (with_reducible (((with_reducible show wpAny _ _ (newTuple _) _ _ _); (k_here; refine newTuple_L (by k_asm) (by k_asm) ?_ (Nat.le_of_ble_eq_true rfl); intro a9 h9 F9 N9 f9 k9; (try dsimp only))))) | (with_reducible (((with_reducible show wpAny _ _ (execs (Stmt.Assign _ _ _ :: _) _) _ _ _); refine wpAny_execs_cons ?_))) | (with_reducible (((with_reducible show TurnE _ _ _ _ _ _ _ _ _ _ _ _ _ _ _); dsimp only [TurnE]))) | (with_reducible ((k_here; (with_reducible show wpAny _ _ (call (Value.builtin "len") [Value.ref _]) _ _ _); refine len_tup_ints (IsTup.keeps (by assumption) (Fr.keep (by k_asm))) (by assumption) (by assumption) ?_))) | walk1); all_goals (try dsimp only)) | dsimp only))
  refine item_litK (s := Shared.mk _ _ _ _ _) ⟨_, hg _ _ m1, rfl, _, rfl⟩ (Int.natCast_nonneg i) (by omega) (by rw [Int.toNat_natCast]; exact hmv) ?_ (by with_unfolding_all rfl)
  (repeat' (first | (k_unfold; (try dsimp only)) | ((fail_if_success (with_reducible show wpAny _ _ (pyIter _) _ _ _)); (fail_if_success (with_reducible show wpAny _ _ (execs (Stmt.If _ _ _ _ :: _) _) _ _ _)); (fail_if_success (with_reducible show wpAny _ _ (execs (Stmt.Assign _ _ _ :: _) _) _ _ _)); (fail_if_success (with_reducible show wpAny _ _ (subscriptTail _ _ _ _) _ _ _)); (fail_if_success (with_reducible show wpAny _ _ (call (Value.ref _) _) _ _ _)); (fail_if_success (with_reducible show wpAny _ _ (call (Value.type _) _) _ _ _)); (fail_if_success (with_reducible show wpAny _ _ (compareOp _ (Value.ref _) _) _ _ _)); (fail_if_success (with_reducible show wpAny _ _ (eval (Expr.ListComp _ _ _ _) _) _ _ _)); (fail_if_success (with_reducible show wpAny _ _ (exec (Stmt.Assign _ (Expr.ListComp _ _ _ _) _) _) _ _ _)); (first | ((with_reducible show wpAny _ _ (eval (Expr.Name _ _) (compEnvC _ _ _ _)) _ _ _); k_dflt (first | (refine' nmL ?qk1Z ?qk2Z ?_ ?qk3Z ?qk4Z ?qk5Z; (case qk3Z => rfl); (case qk4Z => rfl); (case qk5Z => decide); (case qk1Z => k_asm); (case qk2Z => rfl); k_whole) | (refine' nmC ?qk1Z ?qk2Z ?qk6Z ?_ ?qk3Z ?qk4Z ?qk5Z; (case qk3Z => rfl); (case qk4Z => rfl); (case qk5Z => decide); (case qk6Z => rfl); (case qk1Z => assumption); (case qk2Z => assumption); k_whole) | (refine' nmG ?qk1Z ?qk2Z ?_ ?qk6Z ?qk3Z ?qk4Z ?qk5Z; (case qk3Z => rfl); (case qk4Z => rfl); (case qk5Z => decide); (case qk6Z => rfl); (case qk1Z => assumption); (case qk2Z => k_is); k_whole) | (refine' nmB ?qk1Z ?qk2Z ?qk7Z ?qk8Z ?_ ?qk6Z ?qk9Z ?qk3Z ?qk4Z ?qk5Z; (case qk3Z => rfl); (case qk4Z => rfl); (case qk5Z => decide); (case qk6Z => rfl); (case qk9Z => rfl); (case qk1Z => assumption); (case qk2Z => k_is); (case qk7Z => boot_fast); (case qk8Z => decide); k_whole))) | (with_reducible (((with_reducible show wpAny _ _ (newTuple _) _ _ _); (k_here; refine newTuple_L (by k_asm) (by k_asm) ?_ (Nat.le_of_ble_eq_true rfl); intro a9 h9 F9 N9 f9 k9; (try dsimp only))))) | (with_reducible (((with_reducible show wpAny _ _ (execs (Stmt.Assign _ _ _ :: _) _) _ _ _); refine wpAny_execs_cons ?_))) | (with_reducible (((with_reducible show TurnE _ _ _ _ _ _ _ _ _ _ _ _ _ _ _); dsimp only [TurnE]))) | (with_reducible ((k_here; (with_reducible show wpAny _ _ (call (Value.builtin "len") [Value.ref _]) _ _ _); refine len_tup_ints (IsTup.keeps (by assumption) (Fr.keep (by k_asm))) (by assumption) (by assumption) ?_))) | walk1); all_goals (try dsimp only)) | dsimp only))
  refine item_litK (s := Shared.mk _ _ _ _ _) ⟨_, hg _ _ m1, rfl, _, rfl⟩ (Int.natCast_nonneg jj) (by omega) (by rw [Int.toNat_natCast]; exact hmv') ?_ (by with_unfolding_all rfl)
  (repeat' (first | (k_unfold; (try dsimp only)) | ((fail_if_success (with_reducible show wpAny _ _ (pyIter _) _ _ _)); (fail_if_success (with_reducible show wpAny _ _ (execs (Stmt.If _ _ _ _ :: _) _) _ _ _)); (fail_if_success (with_reducible show wpAny _ _ (execs (Stmt.Assign _ _ _ :: _) _) _ _ _)); (fail_if_success (with_reducible show wpAny _ _ (subscriptTail _ _ _ _) _ _ _)); (fail_if_success (with_reducible show wpAny _ _ (call (Value.ref _) _) _ _ _)); (fail_if_success (with_reducible show wpAny _ _ (call (Value.type _) _) _ _ _)); (fail_if_success (with_reducible show wpAny _ _ (compareOp _ (Value.ref _) _) _ _ _)); (fail_if_success (with_reducible show wpAny _ _ (eval (Expr.ListComp _ _ _ _) _) _ _ _)); (fail_if_success (with_reducible show wpAny _ _ (exec (Stmt.Assign _ (Expr.ListComp _ _ _ _) _) _) _ _ _)); (first | ((with_reducible show wpAny _ _ (eval (Expr.Name _ _) (compEnvC _ _ _ _)) _ _ _); k_dflt (first | (refine' nmL ?qk1Z ?qk2Z ?_ ?qk3Z ?qk4Z ?qk5Z; (case qk3Z => rfl); (case qk4Z => rfl); (case qk5Z => decide); (case qk1Z => k_asm); (case qk2Z => rfl); k_whole) | (refine' nmC ?qk1Z ?qk2Z ?qk6Z ?_ ?qk3Z ?qk4Z ?qk5Z; (case qk3Z => rfl); (case qk4Z => rfl); (case qk5Z => decide); (case qk6Z => rfl); (case qk1Z => assumption); (case qk2Z => assumption); k_whole) | (refine' nmG ?qk1Z ?qk2Z ?_ ?qk6Z ?qk3Z ?qk4Z ?qk5Z; (case qk3Z => rfl); (case qk4Z => rfl); (case qk5Z => decide); (case qk6Z => rfl); (case qk1Z => assumption); (case qk2Z => k_is); k_whole) | (refine' nmB ?qk1Z ?qk2Z ?qk7Z ?qk8Z ?_ ?qk6Z ?qk9Z ?qk3Z ?qk4Z ?qk5Z; (case qk3Z => rfl); (case qk4Z => rfl); (case qk5Z => decide); (case qk6Z => rfl); (case qk9Z => rfl); (case qk1Z => assumption); (case qk2Z => k_is); (case qk7Z => boot_fast); (case qk8Z => decide); k_whole))) | (with_reducible (((with_reducible show wpAny _ _ (newTuple _) _ _ _); (k_here; refine newTuple_L (by k_asm) (by k_asm) ?_ (Nat.le_of_ble_eq_true rfl); intro a9 h9 F9 N9 f9 k9; (try dsimp only))))) | (with_reducible (((with_reducible show wpAny _ _ (execs (Stmt.Assign _ _ _ :: _) _) _ _ _); refine wpAny_execs_cons ?_))) | (with_reducible (((with_reducible show TurnE _ _ _ _ _ _ _ _ _ _ _ _ _ _ _); dsimp only [TurnE]))) | (with_reducible ((k_here; (with_reducible show wpAny _ _ (call (Value.builtin "len") [Value.ref _]) _ _ _); refine len_tup_ints (IsTup.keeps (by assumption) (Fr.keep (by k_asm))) (by assumption) (by assumption) ?_))) | walk1); all_goals (try dsimp only)) | dsimp only))
  refine wk (equal_spec (s := Shared.mk _ _ _ _ _) (G.keeps F.keep) (WA.keeps hg) (Wy.keeps hg) ?_) rfl (Nat.le_of_ble_eq_true rfl) (Nat.le_of_ble_eq_true rfl)
  rintro q _ hq ⟨h1, tk1, rfl, k1⟩
  dsimp only at k1 ⊢
  have F1 := Fr.keeps F k1
  have N1 := News.grown N k1
  have hg1 : Sub (Dg H L h) h1 := fun b o e => k1 b o (hg b o e)
  clear F N hg
  (repeat' (first | (k_unfold; (try dsimp only)) | ((fail_if_success (with_reducible show wpAny _ _ (pyIter _) _ _ _)); (fail_if_success (with_reducible show wpAny _ _ (execs (Stmt.If _ _ _ _ :: _) _) _ _ _)); (fail_if_success (with_reducible show wpAny _ _ (execs (Stmt.Assign _ _ _ :: _) _) _ _ _)); (fail_if_success (with_reducible show wpAny _ _ (subscriptTail _ _ _ _) _ _ _)); (fail_if_success (with_reducible show wpAny _ _ (call (Value.ref _) _) _ _ _)); (fail_if_success (with_reducible show wpAny _ _ (call (Value.type _) _) _ _ _)); (fail_if_success (with_reducible show wpAny _ _ (compareOp _ (Value.ref _) _) _ _ _)); (fail_if_success (with_reducible show wpAny _ _ (eval (Expr.ListComp _ _ _ _) _) _ _ _)); (fail_if_success (with_reducible show wpAny _ _ (exec (Stmt.Assign _ (Expr.ListComp _ _ _ _) _) _) _ _ _)); (first | ((with_reducible show wpAny _ _ (eval (Expr.Name _ _) (compEnvC _ _ _ _)) _ _ _); k_dflt (first | (refine' nmL ?qk1Z ?qk2Z ?_ ?qk3Z ?qk4Z ?qk5Z; (case qk3Z => rfl); (case qk4Z => rfl); (case qk5Z => decide); (case qk1Z => k_asm); (case qk2Z => rfl); k_whole) | (refine' nmC ?qk1Z ?qk2Z ?qk6Z ?_ ?qk3Z ?qk4Z ?qk5Z; (case qk3Z => rfl); (case qk4Z => rfl); (case qk5Z => decide); (case qk6Z => rfl); (case qk1Z => assumption); (case qk2Z => assumption); k_whole) | (refine' nmG ?qk1Z ?qk2Z ?_ ?qk6Z ?qk3Z ?qk4Z ?qk5Z; (case qk3Z => rfl); (case qk4Z => rfl); (case qk5Z => decide); (case qk6Z => rfl); (case qk1Z => assumption); (case qk2Z => k_is); k_whole) | (refine' nmB ?qk1Z ?qk2Z ?qk7Z ?qk8Z ?_ ?qk6Z ?qk9Z ?qk3Z ?qk4Z ?qk5Z; (case qk3Z => rfl); (case qk4Z => rfl); (case qk5Z => decide); (case qk6Z => rfl); (case qk9Z => rfl); (case qk1Z => assumption); (case qk2Z => k_is); (case qk7Z => boot_fast); (case qk8Z => decide); k_whole))) | (with_reducible (((with_reducible show wpAny _ _ (newTuple _) _ _ _); (k_here; refine newTuple_L (by k_asm) (by k_asm) ?_ (Nat.le_of_ble_eq_true rfl); intro a9 h9 F9 N9 f9 k9; (try dsimp only))))) | (with_reducible (((with_reducible show wpAny _ _ (execs (Stmt.Assign _ _ _ :: _) _) _ _ _); refine wpAny_execs_cons ?_))) | (with_reducible (((with_reducible show TurnE _ _ _ _ _ _ _ _ _ _ _ _ _ _ _); dsimp only [TurnE]))) | (with_reducible ((k_here; (with_reducible show wpAny _ _ (call (Value.builtin "len") [Value.ref _]) _ _ _); refine len_tup_ints (IsTup.keeps (by assumption) (Fr.keep (by k_asm))) (by assumption) (by assumption) ?_))) | walk1); all_goals (try dsimp only)) | dsimp only))
  refine item_litK (s := Shared.mk _ _ _ _ _) ⟨_, hg1 _ _ c1, rfl, _, rfl⟩ (Int.natCast_nonneg i) (by omega) (by rw [Int.toNat_natCast]; exact hcv) ?_ (by with_unfolding_all rfl)
  (repeat' (first | (k_unfold; (try dsimp only)) | ((fail_if_success (with_reducible show wpAny _ _ (pyIter _) _ _ _)); (fail_if_success (with_reducible show wpAny _ _ (execs (Stmt.If _ _ _ _ :: _) _) _ _ _)); (fail_if_success (with_reducible show wpAny _ _ (execs (Stmt.Assign _ _ _ :: _) _) _ _ _)); (fail_if_success (with_reducible show wpAny _ _ (subscriptTail _ _ _ _) _ _ _)); (fail_if_success (with_reducible show wpAny _ _ (call (Value.ref _) _) _ _ _)); (fail_if_success (with_reducible show wpAny _ _ (call (Value.type _) _) _ _ _)); (fail_if_success (with_reducible show wpAny _ _ (compareOp _ (Value.ref _) _) _ _ _)); (fail_if_success (with_reducible show wpAny _ _ (eval (Expr.ListComp _ _ _ _) _) _ _ _)); (fail_if_success (with_reducible show wpAny _ _ (exec (Stmt.Assign _ (Expr.ListComp _ _ _ _) _) _) _ _ _)); (first | ((with_reducible show wpAny _ _ (eval (Expr.Name _ _) (compEnvC _ _ _ _)) _ _ _); k_dflt (first | (refine' nmL ?qk1Z ?qk2Z ?_ ?qk3Z ?qk4Z ?qk5Z; (case qk3Z => rfl); (case qk4Z => rfl); (case qk5Z => decide); (case qk1Z => k_asm); (case qk2Z => rfl); k_whole) | (refine' nmC ?qk1Z ?qk2Z ?qk6Z ?_ ?qk3Z ?qk4Z ?qk5Z; (case qk3Z => rfl); (case qk4Z => rfl); (case qk5Z => decide); (case qk6Z => rfl); (case qk1Z => assumption); (case qk2Z => assumption); k_whole) | (refine' nmG ?qk1Z ?qk2Z ?_ ?qk6Z ?qk3Z ?qk4Z ?qk5Z; (case qk3Z => rfl); (case qk4Z => rfl); (case qk5Z => decide); (case qk6Z => rfl); (case qk1Z => assumption); (case qk2Z => k_is); k_whole) | (refine' nmB ?qk1Z ?qk2Z ?qk7Z ?qk8Z ?_ ?qk6Z ?qk9Z ?qk3Z ?qk4Z ?qk5Z; (case qk3Z => rfl); (case qk4Z => rfl); (case qk5Z => decide); (case qk6Z => rfl); (case qk9Z => rfl); (case qk1Z => assumption); (case qk2Z => k_is); (case qk7Z => boot_fast); (case qk8Z => decide); k_whole))) | (with_reducible (((with_reducible show wpAny _ _ (newTuple _) _ _ _); (k_here; refine newTuple_L (by k_asm) (by k_asm) ?_ (Nat.le_of_ble_eq_true rfl); intro a9 h9 F9 N9 f9 k9; (try dsimp only))))) | (with_reducible (((with_reducible show wpAny _ _ (execs (Stmt.Assign _ _ _ :: _) _) _ _ _); refine wpAny_execs_cons ?_))) | (with_reducible (((with_reducible show TurnE _ _ _ _ _ _ _ _ _ _ _ _ _ _ _); dsimp only [TurnE]))) | (with_reducible ((k_here; (with_reducible show wpAny _ _ (call (Value.builtin "len") [Value.ref _]) _ _ _); refine len_tup_ints (IsTup.keeps (by assumption) (Fr.keep (by k_asm))) (by assumption) (by assumption) ?_))) | walk1); all_goals (try dsimp only)) | dsimp only))
  refine item_litK (s := Shared.mk _ _ _ _ _) ⟨_, hg1 _ _ c1, rfl, _, rfl⟩ (Int.natCast_nonneg jj) (by omega) (by rw [Int.toNat_natCast]; exact hdv) ?_ (by with_unfolding_all rfl)
  refine cmp_eq (s := Shared.mk _ _ _ _ _) (n := 9) (rcv.keeps hg1) (rdv.keeps hg1) (colD_ok _ _) (colD_ok _ _) (Nat.le_of_ble_eq_true rfl) ?_
  intro r hr
  obtain rfl : q = r := Bool.eq_iff_iff.mpr (hq.trans (heq.trans hr.symm))
  (repeat' (first | (k_unfold; (try dsimp only)) | ((fail_if_success (with_reducible show wpAny _ _ (pyIter _) _ _ _)); (fail_if_success (with_reducible show wpAny _ _ (execs (Stmt.If _ _ _ _ :: _) _) _ _ _)); (fail_if_success (with_reducible show wpAny _ _ (execs (Stmt.Assign _ _ _ :: _) _) _ _ _)); (fail_if_success (with_reducible show wpAny _ _ (subscriptTail _ _ _ _) _ _ _)); (fail_if_success (with_reducible show wpAny _ _ (call (Value.ref _) _) _ _ _)); (fail_if_success (with_reducible show wpAny _ _ (call (Value.type _) _) _ _ _)); (fail_if_success (with_reducible show wpAny _ _ (compareOp _ (Value.ref _) _) _ _ _)); (fail_if_success (with_reducible show wpAny _ _ (eval (Expr.ListComp _ _ _ _) _) _ _ _)); (fail_if_success (with_reducible show wpAny _ _ (exec (Stmt.Assign _ (Expr.ListComp _ _ _ _) _) _) _ _ _)); (first | ((with_reducible show wpAny _ _ (eval (Expr.Name _ _) (compEnvC _ _ _ _)) _ _ _); k_dflt (first | (refine' nmL ?qk1Z ?qk2Z ?_ ?qk3Z ?qk4Z ?qk5Z; (case qk3Z => rfl); (case qk4Z => rfl); (case qk5Z => decide); (case qk1Z => k_asm); (case qk2Z => rfl); k_whole) | (refine' nmC ?qk1Z ?qk2Z ?qk6Z ?_ ?qk3Z ?qk4Z ?qk5Z; (case qk3Z => rfl); (case qk4Z => rfl); (case qk5Z => decide); (case qk6Z => rfl); (case qk1Z => assumption); (case qk2Z => assumption); k_whole) | (refine' nmG ?qk1Z ?qk2Z ?_ ?qk6Z ?qk3Z ?qk4Z ?qk5Z; (case qk3Z => rfl); (case qk4Z => rfl); (case qk5Z => decide); (case qk6Z => rfl); (case qk1Z => assumption); (case qk2Z => k_is); k_whole) | (refine' nmB ?qk1Z ?qk2Z ?qk7Z ?qk8Z ?_ ?qk6Z ?qk9Z ?qk3Z ?qk4Z ?qk5Z; (case qk3Z => rfl); (case qk4Z => rfl); (case qk5Z => decide); (case qk6Z => rfl); (case qk9Z => rfl); (case qk1Z => assumption); (case qk2Z => k_is); (case qk7Z => boot_fast); (case qk8Z => decide); k_whole))) | (with_reducible (((with_reducible show wpAny _ _ (newTuple _) _ _ _); (k_here; refine newTuple_L (by k_asm) (by k_asm) ?_ (Nat.le_of_ble_eq_true rfl); intro a9 h9 F9 N9 f9 k9; (try dsimp only))))) | (with_reducible (((with_reducible show wpAny _ _ (execs (Stmt.Assign _ _ _ :: _) _) _ _ _); refine wpAny_execs_cons ?_))) | (with_reducible (((with_reducible show TurnE _ _ _ _ _ _ _ _ _ _ _ _ _ _ _); dsimp only [TurnE]))) | (with_reducible ((k_here; (with_reducible show wpAny _ _ (call (Value.builtin "len") [Value.ref _]) _ _ _); refine len_tup_ints (IsTup.keeps (by assumption) (Fr.keep (by k_asm))) (by assumption) (by assumption) ?_))) | walk1); all_goals (try dsimp only)) | dsimp only))
  · rename (_ != _) = true => e9
    exact absurd e9 (by simp)
  exact next _ _ F1 (News.pick N1 (.head _) News.nil) (rest_sub R N1 fun p hp => .tail _ hp)
end
noncomputable def lss (e : Int × Int × Int) : Bool := decide (e.2.1 < e.2.2)
/- what less says -/
noncomputable def LessC (l l' : List Nat) : Prop :=
  ((leadOf l).length : Int) < (leadOf l').length ∧ ((decide ((cntOf (aheadOf l)).length ≤ 1) = true ∧ decide ((cntOf (aheadOf l')).length ≤ 1) = true ∧ ((aheadOf l).length : Int) ≤ (aheadOf l').length) ∨
    (¬ (decide ((cntOf (aheadOf l)).length ≤ 1) = true ∧ decide ((cntOf (aheadOf l')).length ≤ 1) = true) ∧ ∀ ts : Int, 2 ≤ ts → ts ≤ max (max (((cntOf (aheadOf l)).length : Int) - 1) (lastOf l)) (max (((cntOf (aheadOf l')).length : Int) - 1) (lastOf l')) + 1 →
      lvl (cntOf (aheadOf l)) (lastOf l) (aheadOf l).length ts < lvl (cntOf (aheadOf l')) (lastOf l') (aheadOf l').length ts))
theorem bools_snoc {vs : List Value} {bs : List Bool} {b : Bool} (h : LSm.BoolsAre vs bs) : LSm.BoolsAre (vs ++ [.bool b]) (bs ++ [b]) := by
  induction h with
  | nil => exact .cons _ .nil
  | cons c _ ih => exact .cons _ ih
section
variable {prog : Program} {w : World} {s : Shared} {H : Heap} {L fa : Addr} {cd : Value} {tx sz mk co te me un ab : Addr} {ts : List (List Nat)} {zs : List Int} {ps : Array Value} {u : Str → Option Value} {Q : Flow → Shared → Prop} {i jj : Nat} {l l' : List Nat} {t1 t2 : Tok} {mets : List (Int × Int × Int)}
set_option maxHeartbeats 4000000 in
theorem in_5 (G : Gd w.params H) (hi : i < 7) (hj : jj < 7) (hl : ts[i]? = some l) (hl' : ts[jj]? = some l')
    (hml : mets.length ≤ 100) (hls : LessC l l' ↔ (mets.map lss).all id = true)
    (F : Fr H L s.heap (kstB u [(Str.ofString "k", .int i t1), (Str.ofString "j", .int jj t2), (Str.ofString "marks", .ref mk), (Str.ofString "columns", .ref co), (Str.ofString "tells", .ref te), (Str.ofString "met", .ref me), (Str.ofString "unlike", .ref un), (Str.ofString "above", .ref ab)]))
    (N : News H L s.heap [(82, tabObj ps)]) (M : Made (Dg H L s.heap) L tx sz mk co te ts zs) (hme : Rd (Dg H L s.heap) (.ref me) (.list (mets.map tri)))
    (next : ∀ h tk, Fr H L h (kstB u [(Str.ofString "k", .int i t1), (Str.ofString "j", .int jj t2), (Str.ofString "marks", .ref mk), (Str.ofString "columns", .ref co), (Str.ofString "tells", .ref te), (Str.ofString "met", .ref me), (Str.ofString "unlike", .ref un), (Str.ofString "above", .ref ab)]) →
      News H L h [(82, tabObj ps)] → Sub (Dg H L s.heap) (Dg H L h) →
      wpAny (model prog w) (lawA L fa cd) (execs (inBody.drop 6) (lawEnv L fa cd)) Q (fun _ _ => False) { s with heap := h, toks := tk }) :
    wpAny (model prog w) (lawA L fa cd) (execs (inBody.drop 5) (lawEnv L fa cd)) Q (fun _ _ => False) s := by
  have X := G.k
  obtain ⟨p, loose, mg, mb, TT⟩ := G.t
  obtain ⟨h, gs, dr, tk, os⟩ := s
  dsimp only at F N next M hme
  obtain ⟨rest, N, R⟩ := open_rest N
  obtain ⟨⟨tvs, tn, t1', t2'⟩, ⟨svs, sn, s1, s2⟩, ⟨mvs, mn, m1, m2⟩, ⟨cvs, cn, c1, c2⟩, ⟨evs, en, e1, e2⟩, ⟨o2, q1, q2⟩⟩ := M
  obtain ⟨mv, hmv, x, rfl, Wx⟩ := m2.get hl
  obtain ⟨mv', hmv', y, rfl, Wy⟩ := m2.get hl'
  cases hme with | list la ra => ?_
  have hav := ra.length
  rw [List.length_map] at hav
  have WA := Wx
  obtain ⟨dx, xn, xc, kk, x1, x2, x3, x4, x5, k1', k2', k3', k4', k5', y1, y2, y3, y4, vs', a1, a2, _, _, _, _, _, _, _, _, _⟩ := Wx
  have hg := R.sub N (by intro p hp; k_mem)
  clear t1' t2' s1 s2 e1 e2 q1 q2 m2 c2
  change wpAny _ _ (execs (_ :: _) _) _ _ _
  refine wpAny_execs_cons ?_
  (repeat' (first | (k_unfold; (try dsimp only)) | ((fail_if_success (with_reducible show wpAny _ _ (pyIter _) _ _ _)); (fail_if_success (with_reducible show wpAny _ _ (execs (Stmt.If _ _ _ _ :: _) _) _ _ _)); (fail_if_success (with_reducible show wpAny _ _ (execs (Stmt.Assign _ _ _ :: _) _) _ _ _)); (fail_if_success (with_reducible show wpAny _ _ (subscriptTail _ _ _ _) _ _ _)); (fail_if_success (with_reducible show wpAny _ _ (call (Value.ref _) _) _ _ _)); (fail_if_success (with_reducible show wpAny _ _ (call (Value.type _) _) _ _ _)); (fail_if_success (with_reducible show wpAny _ _ (compareOp _ (Value.ref _) _) _ _ _)); (fail_if_success (with_reducible show wpAny _ _ (eval (Expr.ListComp _ _ _ _) _) _ _ _)); (fail_if_success (with_reducible show wpAny _ _ (exec (Stmt.Assign _ (Expr.ListComp _ _ _ _) _) _) _ _ _)); (first | ((with_reducible show wpAny _ _ (eval (Expr.Name _ _) (compEnvC _ _ _ _)) _ _ _); k_dflt (first | (refine' nmL ?qk1Z ?qk2Z ?_ ?qk3Z ?qk4Z ?qk5Z; (case qk3Z => rfl); (case qk4Z => rfl); (case qk5Z => decide); (case qk1Z => k_asm); (case qk2Z => rfl); k_whole) | (refine' nmC ?qk1Z ?qk2Z ?qk6Z ?_ ?qk3Z ?qk4Z ?qk5Z; (case qk3Z => rfl); (case qk4Z => rfl); (case qk5Z => decide); (case qk6Z => rfl); (case qk1Z => assumption); (case qk2Z => assumption); k_whole) | (refine' nmG ?qk1Z ?qk2Z ?_ ?qk6Z ?qk3Z ?qk4Z ?qk5Z; (case qk3Z => rfl); (case qk4Z => rfl); (case qk5Z => decide); (case qk6Z => rfl); (case qk1Z => assumption); (case qk2Z => k_is); k_whole) | (refine' nmB ?qk1Z ?qk2Z ?qk7Z ?qk8Z ?_ ?qk6Z ?qk9Z ?qk3Z ?qk4Z ?qk5Z; (case qk3Z => rfl); (case qk4Z => rfl); (case qk5Z => decide); (case qk6Z => rfl); (case qk9Z => rfl); (case qk1Z => assumption); (case qk2Z => k_is); (case qk7Z => boot_fast); (case qk8Z => decide); k_whole))) | (with_reducible (((with_reducible show wpAny _ _ (newTuple _) _ _ _); (k_here; refine newTuple_L (by k_asm) (by k_asm) ?_ (Nat.le_of_ble_eq_true rfl); intro a9 h9 F9 N9 f9 k9; (try dsimp only))))) | (with_reducible (((with_reducible show wpAny _ _ (execs (Stmt.Assign _ _ _ :: _) _) _ _ _); refine wpAny_execs_cons ?_))) | (with_reducible (((with_reducible show TurnE _ _ _ _ _ _ _ _ _ _ _ _ _ _ _); dsimp only [TurnE]))) | (with_reducible ((k_here; (with_reducible show wpAny _ _ (call (Value.builtin "len") [Value.ref _]) _ _ _); refine len_tup_ints (IsTup.keeps (by assumption) (Fr.keep (by k_asm))) (by assumption) (by assumption) ?_))) | walk1); all_goals (try dsimp only)) | dsimp only))
  refine item_litK (s := Shared.mk _ _ _ _ _) ⟨_, hg _ _ m1, rfl, _, rfl⟩ (Int.natCast_nonneg i) (by omega) (by rw [Int.toNat_natCast]; exact hmv) ?_ (by with_unfolding_all rfl)
  (repeat' (first | (k_unfold; (try dsimp only)) | ((fail_if_success (with_reducible show wpAny _ _ (pyIter _) _ _ _)); (fail_if_success (with_reducible show wpAny _ _ (execs (Stmt.If _ _ _ _ :: _) _) _ _ _)); (fail_if_success (with_reducible show wpAny _ _ (execs (Stmt.Assign _ _ _ :: _) _) _ _ _)); (fail_if_success (with_reducible show wpAny _ _ (subscriptTail _ _ _ _) _ _ _)); (fail_if_success (with_reducible show wpAny _ _ (call (Value.ref _) _) _ _ _)); (fail_if_success (with_reducible show wpAny _ _ (call (Value.type _) _) _ _ _)); (fail_if_success (with_reducible show wpAny _ _ (compareOp _ (Value.ref _) _) _ _ _)); (fail_if_success (with_reducible show wpAny _ _ (eval (Expr.ListComp _ _ _ _) _) _ _ _)); (fail_if_success (with_reducible show wpAny _ _ (exec (Stmt.Assign _ (Expr.ListComp _ _ _ _) _) _) _ _ _)); (first | ((with_reducible show wpAny _ _ (eval (Expr.Name _ _) (compEnvC _ _ _ _)) _ _ _); k_dflt (first | (refine' nmL ?qk1Z ?qk2Z ?_ ?qk3Z ?qk4Z ?qk5Z; (case qk3Z => rfl); (case qk4Z => rfl); (case qk5Z => decide); (case qk1Z => k_asm); (case qk2Z => rfl); k_whole) | (refine' nmC ?qk1Z ?qk2Z ?qk6Z ?_ ?qk3Z ?qk4Z ?qk5Z; (case qk3Z => rfl); (case qk4Z => rfl); (case qk5Z => decide); (case qk6Z => rfl); (case qk1Z => assumption); (case qk2Z => assumption); k_whole) | (refine' nmG ?qk1Z ?qk2Z ?_ ?qk6Z ?qk3Z ?qk4Z ?qk5Z; (case qk3Z => rfl); (case qk4Z => rfl); (case qk5Z => decide); (case qk6Z => rfl); (case qk1Z => assumption); (case qk2Z => k_is); k_whole) | (refine' nmB ?qk1Z ?qk2Z ?qk7Z ?qk8Z ?_ ?qk6Z ?qk9Z ?qk3Z ?qk4Z ?qk5Z; (case qk3Z => rfl); (case qk4Z => rfl); (case qk5Z => decide); (case qk6Z => rfl); (case qk9Z => rfl); (case qk1Z => assumption); (case qk2Z => k_is); (case qk7Z => boot_fast); (case qk8Z => decide); k_whole))) | (with_reducible (((with_reducible show wpAny _ _ (newTuple _) _ _ _); (k_here; refine newTuple_L (by k_asm) (by k_asm) ?_ (Nat.le_of_ble_eq_true rfl); intro a9 h9 F9 N9 f9 k9; (try dsimp only))))) | (with_reducible (((with_reducible show wpAny _ _ (execs (Stmt.Assign _ _ _ :: _) _) _ _ _); refine wpAny_execs_cons ?_))) | (with_reducible (((with_reducible show TurnE _ _ _ _ _ _ _ _ _ _ _ _ _ _ _); dsimp only [TurnE]))) | (with_reducible ((k_here; (with_reducible show wpAny _ _ (call (Value.builtin "len") [Value.ref _]) _ _ _); refine len_tup_ints (IsTup.keeps (by assumption) (Fr.keep (by k_asm))) (by assumption) (by assumption) ?_))) | walk1); all_goals (try dsimp only)) | dsimp only))
  refine item_litK (s := Shared.mk _ _ _ _ _) ⟨_, hg _ _ m1, rfl, _, rfl⟩ (Int.natCast_nonneg jj) (by omega) (by rw [Int.toNat_natCast]; exact hmv') ?_ (by with_unfolding_all rfl)
  (repeat' (first | (k_unfold; (try dsimp only)) | ((fail_if_success (with_reducible show wpAny _ _ (pyIter _) _ _ _)); (fail_if_success (with_reducible show wpAny _ _ (execs (Stmt.If _ _ _ _ :: _) _) _ _ _)); (fail_if_success (with_reducible show wpAny _ _ (execs (Stmt.Assign _ _ _ :: _) _) _ _ _)); (fail_if_success (with_reducible show wpAny _ _ (subscriptTail _ _ _ _) _ _ _)); (fail_if_success (with_reducible show wpAny _ _ (call (Value.ref _) _) _ _ _)); (fail_if_success (with_reducible show wpAny _ _ (call (Value.type _) _) _ _ _)); (fail_if_success (with_reducible show wpAny _ _ (compareOp _ (Value.ref _) _) _ _ _)); (fail_if_success (with_reducible show wpAny _ _ (eval (Expr.ListComp _ _ _ _) _) _ _ _)); (fail_if_success (with_reducible show wpAny _ _ (exec (Stmt.Assign _ (Expr.ListComp _ _ _ _) _) _) _ _ _)); (first | ((with_reducible show wpAny _ _ (eval (Expr.Name _ _) (compEnvC _ _ _ _)) _ _ _); k_dflt (first | (refine' nmL ?qk1Z ?qk2Z ?_ ?qk3Z ?qk4Z ?qk5Z; (case qk3Z => rfl); (case qk4Z => rfl); (case qk5Z => decide); (case qk1Z => k_asm); (case qk2Z => rfl); k_whole) | (refine' nmC ?qk1Z ?qk2Z ?qk6Z ?_ ?qk3Z ?qk4Z ?qk5Z; (case qk3Z => rfl); (case qk4Z => rfl); (case qk5Z => decide); (case qk6Z => rfl); (case qk1Z => assumption); (case qk2Z => assumption); k_whole) | (refine' nmG ?qk1Z ?qk2Z ?_ ?qk6Z ?qk3Z ?qk4Z ?qk5Z; (case qk3Z => rfl); (case qk4Z => rfl); (case qk5Z => decide); (case qk6Z => rfl); (case qk1Z => assumption); (case qk2Z => k_is); k_whole) | (refine' nmB ?qk1Z ?qk2Z ?qk7Z ?qk8Z ?_ ?qk6Z ?qk9Z ?qk3Z ?qk4Z ?qk5Z; (case qk3Z => rfl); (case qk4Z => rfl); (case qk5Z => decide); (case qk6Z => rfl); (case qk9Z => rfl); (case qk1Z => assumption); (case qk2Z => k_is); (case qk7Z => boot_fast); (case qk8Z => decide); k_whole))) | (with_reducible (((with_reducible show wpAny _ _ (newTuple _) _ _ _); (k_here; refine newTuple_L (by k_asm) (by k_asm) ?_ (Nat.le_of_ble_eq_true rfl); intro a9 h9 F9 N9 f9 k9; (try dsimp only))))) | (with_reducible (((with_reducible show wpAny _ _ (execs (Stmt.Assign _ _ _ :: _) _) _ _ _); refine wpAny_execs_cons ?_))) | (with_reducible (((with_reducible show TurnE _ _ _ _ _ _ _ _ _ _ _ _ _ _ _); dsimp only [TurnE]))) | (with_reducible ((k_here; (with_reducible show wpAny _ _ (call (Value.builtin "len") [Value.ref _]) _ _ _); refine len_tup_ints (IsTup.keeps (by assumption) (Fr.keep (by k_asm))) (by assumption) (by assumption) ?_))) | walk1); all_goals (try dsimp only)) | dsimp only))
  refine wk (less_spec (s := Shared.mk _ _ _ _ _) (G.keeps F.keep) (WA.keeps hg) (Wy.keeps hg) ?_) rfl (Nat.le_of_ble_eq_true rfl) (Nat.le_of_ble_eq_true rfl)
  rintro q _ hq ⟨h1, tk1, rfl, k1⟩
  dsimp only at k1 ⊢
  have F1 := Fr.keeps F k1
  have N1 := News.grown N k1
  have hg1 : Sub (Dg H L h) h1 := fun b o e => k1 b o (hg b o e)
  clear F N hg
  (repeat' (first | (k_unfold; (try dsimp only)) | ((fail_if_success (with_reducible show wpAny _ _ (pyIter _) _ _ _)); (fail_if_success (with_reducible show wpAny _ _ (execs (Stmt.If _ _ _ _ :: _) _) _ _ _)); (fail_if_success (with_reducible show wpAny _ _ (execs (Stmt.Assign _ _ _ :: _) _) _ _ _)); (fail_if_success (with_reducible show wpAny _ _ (subscriptTail _ _ _ _) _ _ _)); (fail_if_success (with_reducible show wpAny _ _ (call (Value.ref _) _) _ _ _)); (fail_if_success (with_reducible show wpAny _ _ (call (Value.type _) _) _ _ _)); (fail_if_success (with_reducible show wpAny _ _ (compareOp _ (Value.ref _) _) _ _ _)); (fail_if_success (with_reducible show wpAny _ _ (eval (Expr.ListComp _ _ _ _) _) _ _ _)); (fail_if_success (with_reducible show wpAny _ _ (exec (Stmt.Assign _ (Expr.ListComp _ _ _ _) _) _) _ _ _)); (first | ((with_reducible show wpAny _ _ (eval (Expr.Name _ _) (compEnvC _ _ _ _)) _ _ _); k_dflt (first | (refine' nmL ?qk1Z ?qk2Z ?_ ?qk3Z ?qk4Z ?qk5Z; (case qk3Z => rfl); (case qk4Z => rfl); (case qk5Z => decide); (case qk1Z => k_asm); (case qk2Z => rfl); k_whole) | (refine' nmC ?qk1Z ?qk2Z ?qk6Z ?_ ?qk3Z ?qk4Z ?qk5Z; (case qk3Z => rfl); (case qk4Z => rfl); (case qk5Z => decide); (case qk6Z => rfl); (case qk1Z => assumption); (case qk2Z => assumption); k_whole) | (refine' nmG ?qk1Z ?qk2Z ?_ ?qk6Z ?qk3Z ?qk4Z ?qk5Z; (case qk3Z => rfl); (case qk4Z => rfl); (case qk5Z => decide); (case qk6Z => rfl); (case qk1Z => assumption); (case qk2Z => k_is); k_whole) | (refine' nmB ?qk1Z ?qk2Z ?qk7Z ?qk8Z ?_ ?qk6Z ?qk9Z ?qk3Z ?qk4Z ?qk5Z; (case qk3Z => rfl); (case qk4Z => rfl); (case qk5Z => decide); (case qk6Z => rfl); (case qk9Z => rfl); (case qk1Z => assumption); (case qk2Z => k_is); (case qk7Z => boot_fast); (case qk8Z => decide); k_whole))) | (with_reducible (((with_reducible show wpAny _ _ (newTuple _) _ _ _); (k_here; refine newTuple_L (by k_asm) (by k_asm) ?_ (Nat.le_of_ble_eq_true rfl); intro a9 h9 F9 N9 f9 k9; (try dsimp only))))) | (with_reducible (((with_reducible show wpAny _ _ (execs (Stmt.Assign _ _ _ :: _) _) _ _ _); refine wpAny_execs_cons ?_))) | (with_reducible (((with_reducible show TurnE _ _ _ _ _ _ _ _ _ _ _ _ _ _ _); dsimp only [TurnE]))) | (with_reducible ((k_here; (with_reducible show wpAny _ _ (call (Value.builtin "len") [Value.ref _]) _ _ _); refine len_tup_ints (IsTup.keeps (by assumption) (Fr.keep (by k_asm))) (by assumption) (by assumption) ?_))) | walk1); all_goals (try dsimp only)) | dsimp only))
  refine' lcEval (cl := []) ?clos ?cell ?kind ?names ?hx ?h ?hs
  case clos => with_unfolding_all rfl
  case cell => decide
  case kind => rfl
  case names => decide
  case hx => rfl
  case hs => intro _; with_unfolding_all rfl
  (repeat' (first | (k_unfold; (try dsimp only)) | ((fail_if_success (with_reducible show wpAny _ _ (pyIter _) _ _ _)); (fail_if_success (with_reducible show wpAny _ _ (execs (Stmt.If _ _ _ _ :: _) _) _ _ _)); (fail_if_success (with_reducible show wpAny _ _ (execs (Stmt.Assign _ _ _ :: _) _) _ _ _)); (fail_if_success (with_reducible show wpAny _ _ (subscriptTail _ _ _ _) _ _ _)); (fail_if_success (with_reducible show wpAny _ _ (call (Value.ref _) _) _ _ _)); (fail_if_success (with_reducible show wpAny _ _ (call (Value.type _) _) _ _ _)); (fail_if_success (with_reducible show wpAny _ _ (compareOp _ (Value.ref _) _) _ _ _)); (fail_if_success (with_reducible show wpAny _ _ (eval (Expr.ListComp _ _ _ _) _) _ _ _)); (fail_if_success (with_reducible show wpAny _ _ (exec (Stmt.Assign _ (Expr.ListComp _ _ _ _) _) _) _ _ _)); (first | ((with_reducible show wpAny _ _ (eval (Expr.Name _ _) (compEnvC _ _ _ _)) _ _ _); k_dflt (first | (refine' nmL ?qk1Z ?qk2Z ?_ ?qk3Z ?qk4Z ?qk5Z; (case qk3Z => rfl); (case qk4Z => rfl); (case qk5Z => decide); (case qk1Z => k_asm); (case qk2Z => rfl); k_whole) | (refine' nmC ?qk1Z ?qk2Z ?qk6Z ?_ ?qk3Z ?qk4Z ?qk5Z; (case qk3Z => rfl); (case qk4Z => rfl); (case qk5Z => decide); (case qk6Z => rfl); (case qk1Z => assumption); (case qk2Z => assumption); k_whole) | (refine' nmG ?qk1Z ?qk2Z ?_ ?qk6Z ?qk3Z ?qk4Z ?qk5Z; (case qk3Z => rfl); (case qk4Z => rfl); (case qk5Z => decide); (case qk6Z => rfl); (case qk1Z => assumption); (case qk2Z => k_is); k_whole) | (refine' nmB ?qk1Z ?qk2Z ?qk7Z ?qk8Z ?_ ?qk6Z ?qk9Z ?qk3Z ?qk4Z ?qk5Z; (case qk3Z => rfl); (case qk4Z => rfl); (case qk5Z => decide); (case qk6Z => rfl); (case qk9Z => rfl); (case qk1Z => assumption); (case qk2Z => k_is); (case qk7Z => boot_fast); (case qk8Z => decide); k_whole))) | (with_reducible (((with_reducible show wpAny _ _ (newTuple _) _ _ _); (k_here; refine newTuple_L (by k_asm) (by k_asm) ?_ (Nat.le_of_ble_eq_true rfl); intro a9 h9 F9 N9 f9 k9; (try dsimp only))))) | (with_reducible (((with_reducible show wpAny _ _ (execs (Stmt.Assign _ _ _ :: _) _) _ _ _); refine wpAny_execs_cons ?_))) | (with_reducible (((with_reducible show TurnE _ _ _ _ _ _ _ _ _ _ _ _ _ _ _); dsimp only [TurnE]))) | (with_reducible ((k_here; (with_reducible show wpAny _ _ (call (Value.builtin "len") [Value.ref _]) _ _ _); refine len_tup_ints (IsTup.keeps (by assumption) (Fr.keep (by k_asm))) (by assumption) (by assumption) ?_))) | walk1); all_goals (try dsimp only)) | dsimp only))
  refine src_list rfl (isList_keeps la hg1) ?_
  intro it s₂ hsrc
  refine ⟨_, _, _, fun i ys _ => LSm.BoolsAre ys ((mets.map lss).take i), hsrc, (by omega), (fun _ _ _ _ h _ => h), (fun _ => .nil), LcTurn.plain ?turn, ?done⟩
  case turn =>
    intro C X' j v ys s₃ m₃ E' hX hi' hv hy hR F' N'
    obtain ⟨e, he, re⟩ := RdAll.mapRd ra j v hv
    have re3 : Rd s₃.heap v (tri e) := re.keeps fun b o z => F'.keep b o (hg1 b o z)
    have G3 : Gd w.params s₃.heap := G.keeps fun b o z => F'.keep b o (F1.keep b o z)
    clear F1 N1
    (repeat' (first | (k_unfold; (try dsimp only)) | ((fail_if_success (with_reducible show wpAny _ _ (pyIter _) _ _ _)); (fail_if_success (with_reducible show wpAny _ _ (execs (Stmt.If _ _ _ _ :: _) _) _ _ _)); (fail_if_success (with_reducible show wpAny _ _ (execs (Stmt.Assign _ _ _ :: _) _) _ _ _)); (fail_if_success (with_reducible show wpAny _ _ (subscriptTail _ _ _ _) _ _ _)); (fail_if_success (with_reducible show wpAny _ _ (call (Value.ref _) _) _ _ _)); (fail_if_success (with_reducible show wpAny _ _ (call (Value.type _) _) _ _ _)); (fail_if_success (with_reducible show wpAny _ _ (compareOp _ (Value.ref _) _) _ _ _)); (fail_if_success (with_reducible show wpAny _ _ (eval (Expr.ListComp _ _ _ _) _) _ _ _)); (fail_if_success (with_reducible show wpAny _ _ (exec (Stmt.Assign _ (Expr.ListComp _ _ _ _) _) _) _ _ _)); (first | ((with_reducible show wpAny _ _ (eval (Expr.Name _ _) (compEnvC _ _ _ _)) _ _ _); k_dflt (first | (refine' nmL ?qk1Z ?qk2Z ?_ ?qk3Z ?qk4Z ?qk5Z; (case qk3Z => rfl); (case qk4Z => rfl); (case qk5Z => decide); (case qk1Z => k_asm); (case qk2Z => rfl); k_whole) | (refine' nmC ?qk1Z ?qk2Z ?qk6Z ?_ ?qk3Z ?qk4Z ?qk5Z; (case qk3Z => rfl); (case qk4Z => rfl); (case qk5Z => decide); (case qk6Z => rfl); (case qk1Z => assumption); (case qk2Z => assumption); k_whole) | (refine' nmG ?qk1Z ?qk2Z ?_ ?qk6Z ?qk3Z ?qk4Z ?qk5Z; (case qk3Z => rfl); (case qk4Z => rfl); (case qk5Z => decide); (case qk6Z => rfl); (case qk1Z => assumption); (case qk2Z => k_is); k_whole) | (refine' nmB ?qk1Z ?qk2Z ?qk7Z ?qk8Z ?_ ?qk6Z ?qk9Z ?qk3Z ?qk4Z ?qk5Z; (case qk3Z => rfl); (case qk4Z => rfl); (case qk5Z => decide); (case qk6Z => rfl); (case qk9Z => rfl); (case qk1Z => assumption); (case qk2Z => k_is); (case qk7Z => boot_fast); (case qk8Z => decide); k_whole))) | (with_reducible (((with_reducible show wpAny _ _ (newTuple _) _ _ _); (k_here; refine newTuple_L (by k_asm) (by k_asm) ?_ (Nat.le_of_ble_eq_true rfl); intro a9 h9 F9 N9 f9 k9; (try dsimp only))))) | (with_reducible (((with_reducible show wpAny _ _ (execs (Stmt.Assign _ _ _ :: _) _) _ _ _); refine wpAny_execs_cons ?_))) | (with_reducible (((with_reducible show TurnE _ _ _ _ _ _ _ _ _ _ _ _ _ _ _); dsimp only [TurnE]))) | (with_reducible ((k_here; (with_reducible show wpAny _ _ (call (Value.builtin "len") [Value.ref _]) _ _ _); refine len_tup_ints (IsTup.keeps (by assumption) (Fr.keep (by k_asm))) (by assumption) (by assumption) ?_))) | walk1); all_goals (try dsimp only)) | dsimp only))
    refine itemT re3 (by decide) (by decide) rfl ?_ (fun a => by with_unfolding_all rfl)
    intro v1 r1
    cases r1
    (repeat' (first | (k_unfold; (try dsimp only)) | ((fail_if_success (with_reducible show wpAny _ _ (pyIter _) _ _ _)); (fail_if_success (with_reducible show wpAny _ _ (execs (Stmt.If _ _ _ _ :: _) _) _ _ _)); (fail_if_success (with_reducible show wpAny _ _ (execs (Stmt.Assign _ _ _ :: _) _) _ _ _)); (fail_if_success (with_reducible show wpAny _ _ (subscriptTail _ _ _ _) _ _ _)); (fail_if_success (with_reducible show wpAny _ _ (call (Value.ref _) _) _ _ _)); (fail_if_success (with_reducible show wpAny _ _ (call (Value.type _) _) _ _ _)); (fail_if_success (with_reducible show wpAny _ _ (compareOp _ (Value.ref _) _) _ _ _)); (fail_if_success (with_reducible show wpAny _ _ (eval (Expr.ListComp _ _ _ _) _) _ _ _)); (fail_if_success (with_reducible show wpAny _ _ (exec (Stmt.Assign _ (Expr.ListComp _ _ _ _) _) _) _ _ _)); (first | ((with_reducible show wpAny _ _ (eval (Expr.Name _ _) (compEnvC _ _ _ _)) _ _ _); k_dflt (first | (refine' nmL ?qk1Z ?qk2Z ?_ ?qk3Z ?qk4Z ?qk5Z; (case qk3Z => rfl); (case qk4Z => rfl); (case qk5Z => decide); (case qk1Z => k_asm); (case qk2Z => rfl); k_whole) | (refine' nmC ?qk1Z ?qk2Z ?qk6Z ?_ ?qk3Z ?qk4Z ?qk5Z; (case qk3Z => rfl); (case qk4Z => rfl); (case qk5Z => decide); (case qk6Z => rfl); (case qk1Z => assumption); (case qk2Z => assumption); k_whole) | (refine' nmG ?qk1Z ?qk2Z ?_ ?qk6Z ?qk3Z ?qk4Z ?qk5Z; (case qk3Z => rfl); (case qk4Z => rfl); (case qk5Z => decide); (case qk6Z => rfl); (case qk1Z => assumption); (case qk2Z => k_is); k_whole) | (refine' nmB ?qk1Z ?qk2Z ?qk7Z ?qk8Z ?_ ?qk6Z ?qk9Z ?qk3Z ?qk4Z ?qk5Z; (case qk3Z => rfl); (case qk4Z => rfl); (case qk5Z => decide); (case qk6Z => rfl); (case qk9Z => rfl); (case qk1Z => assumption); (case qk2Z => k_is); (case qk7Z => boot_fast); (case qk8Z => decide); k_whole))) | (with_reducible (((with_reducible show wpAny _ _ (newTuple _) _ _ _); (k_here; refine newTuple_L (by k_asm) (by k_asm) ?_ (Nat.le_of_ble_eq_true rfl); intro a9 h9 F9 N9 f9 k9; (try dsimp only))))) | (with_reducible (((with_reducible show wpAny _ _ (execs (Stmt.Assign _ _ _ :: _) _) _ _ _); refine wpAny_execs_cons ?_))) | (with_reducible (((with_reducible show TurnE _ _ _ _ _ _ _ _ _ _ _ _ _ _ _); dsimp only [TurnE]))) | (with_reducible ((k_here; (with_reducible show wpAny _ _ (call (Value.builtin "len") [Value.ref _]) _ _ _); refine len_tup_ints (IsTup.keeps (by assumption) (Fr.keep (by k_asm))) (by assumption) (by assumption) ?_))) | walk1); all_goals (try dsimp only)) | dsimp only))
    refine itemT (s := Shared.mk _ _ _ _ _) re3 (by decide) (by decide) rfl ?_ (fun a => by with_unfolding_all rfl)
    intro v2 r2
    cases r2
    (repeat' (first | (k_unfold; (try dsimp only)) | ((fail_if_success (with_reducible show wpAny _ _ (pyIter _) _ _ _)); (fail_if_success (with_reducible show wpAny _ _ (execs (Stmt.If _ _ _ _ :: _) _) _ _ _)); (fail_if_success (with_reducible show wpAny _ _ (execs (Stmt.Assign _ _ _ :: _) _) _ _ _)); (fail_if_success (with_reducible show wpAny _ _ (subscriptTail _ _ _ _) _ _ _)); (fail_if_success (with_reducible show wpAny _ _ (call (Value.ref _) _) _ _ _)); (fail_if_success (with_reducible show wpAny _ _ (call (Value.type _) _) _ _ _)); (fail_if_success (with_reducible show wpAny _ _ (compareOp _ (Value.ref _) _) _ _ _)); (fail_if_success (with_reducible show wpAny _ _ (eval (Expr.ListComp _ _ _ _) _) _ _ _)); (fail_if_success (with_reducible show wpAny _ _ (exec (Stmt.Assign _ (Expr.ListComp _ _ _ _) _) _) _ _ _)); (first | ((with_reducible show wpAny _ _ (eval (Expr.Name _ _) (compEnvC _ _ _ _)) _ _ _); k_dflt (first | (refine' nmL ?qk1Z ?qk2Z ?_ ?qk3Z ?qk4Z ?qk5Z; (case qk3Z => rfl); (case qk4Z => rfl); (case qk5Z => decide); (case qk1Z => k_asm); (case qk2Z => rfl); k_whole) | (refine' nmC ?qk1Z ?qk2Z ?qk6Z ?_ ?qk3Z ?qk4Z ?qk5Z; (case qk3Z => rfl); (case qk4Z => rfl); (case qk5Z => decide); (case qk6Z => rfl); (case qk1Z => assumption); (case qk2Z => assumption); k_whole) | (refine' nmG ?qk1Z ?qk2Z ?_ ?qk6Z ?qk3Z ?qk4Z ?qk5Z; (case qk3Z => rfl); (case qk4Z => rfl); (case qk5Z => decide); (case qk6Z => rfl); (case qk1Z => assumption); (case qk2Z => k_is); k_whole) | (refine' nmB ?qk1Z ?qk2Z ?qk7Z ?qk8Z ?_ ?qk6Z ?qk9Z ?qk3Z ?qk4Z ?qk5Z; (case qk3Z => rfl); (case qk4Z => rfl); (case qk5Z => decide); (case qk6Z => rfl); (case qk9Z => rfl); (case qk1Z => assumption); (case qk2Z => k_is); (case qk7Z => boot_fast); (case qk8Z => decide); k_whole))) | (with_reducible (((with_reducible show wpAny _ _ (newTuple _) _ _ _); (k_here; refine newTuple_L (by k_asm) (by k_asm) ?_ (Nat.le_of_ble_eq_true rfl); intro a9 h9 F9 N9 f9 k9; (try dsimp only))))) | (with_reducible (((with_reducible show wpAny _ _ (execs (Stmt.Assign _ _ _ :: _) _) _ _ _); refine wpAny_execs_cons ?_))) | (with_reducible (((with_reducible show TurnE _ _ _ _ _ _ _ _ _ _ _ _ _ _ _); dsimp only [TurnE]))) | (with_reducible ((k_here; (with_reducible show wpAny _ _ (call (Value.builtin "len") [Value.ref _]) _ _ _); refine len_tup_ints (IsTup.keeps (by assumption) (Fr.keep (by k_asm))) (by assumption) (by assumption) ?_))) | walk1); all_goals (try dsimp only)) | dsimp only))
    · exact Keeps.toks _ _
    · rw [take_snoc (a := lss e) (by rw [List.getElem?_map, he]; rfl)]
      exact bools_snoc hR
  case done =>
    intro D h3 tk3 ys hD hl3 hR3 k3
    obtain ⟨nn, hl3⟩ := hl3
    have F3 := Fr.keeps F1 k3
    have N3 := add_news F1 (News.grown N1 k3) hD hl3
    clear F1 N1
    rw [List.take_of_length_le (by rw [List.length_map]; omega)] at hR3
    dsimp only
    (repeat' (first | (k_unfold; (try dsimp only)) | ((fail_if_success (with_reducible show wpAny _ _ (pyIter _) _ _ _)); (fail_if_success (with_reducible show wpAny _ _ (execs (Stmt.If _ _ _ _ :: _) _) _ _ _)); (fail_if_success (with_reducible show wpAny _ _ (execs (Stmt.Assign _ _ _ :: _) _) _ _ _)); (fail_if_success (with_reducible show wpAny _ _ (subscriptTail _ _ _ _) _ _ _)); (fail_if_success (with_reducible show wpAny _ _ (call (Value.ref _) _) _ _ _)); (fail_if_success (with_reducible show wpAny _ _ (call (Value.type _) _) _ _ _)); (fail_if_success (with_reducible show wpAny _ _ (compareOp _ (Value.ref _) _) _ _ _)); (fail_if_success (with_reducible show wpAny _ _ (eval (Expr.ListComp _ _ _ _) _) _ _ _)); (fail_if_success (with_reducible show wpAny _ _ (exec (Stmt.Assign _ (Expr.ListComp _ _ _ _) _) _) _ _ _)); (first | ((with_reducible show wpAny _ _ (eval (Expr.Name _ _) (compEnvC _ _ _ _)) _ _ _); k_dflt (first | (refine' nmL ?qk1Z ?qk2Z ?_ ?qk3Z ?qk4Z ?qk5Z; (case qk3Z => rfl); (case qk4Z => rfl); (case qk5Z => decide); (case qk1Z => k_asm); (case qk2Z => rfl); k_whole) | (refine' nmC ?qk1Z ?qk2Z ?qk6Z ?_ ?qk3Z ?qk4Z ?qk5Z; (case qk3Z => rfl); (case qk4Z => rfl); (case qk5Z => decide); (case qk6Z => rfl); (case qk1Z => assumption); (case qk2Z => assumption); k_whole) | (refine' nmG ?qk1Z ?qk2Z ?_ ?qk6Z ?qk3Z ?qk4Z ?qk5Z; (case qk3Z => rfl); (case qk4Z => rfl); (case qk5Z => decide); (case qk6Z => rfl); (case qk1Z => assumption); (case qk2Z => k_is); k_whole) | (refine' nmB ?qk1Z ?qk2Z ?qk7Z ?qk8Z ?_ ?qk6Z ?qk9Z ?qk3Z ?qk4Z ?qk5Z; (case qk3Z => rfl); (case qk4Z => rfl); (case qk5Z => decide); (case qk6Z => rfl); (case qk9Z => rfl); (case qk1Z => assumption); (case qk2Z => k_is); (case qk7Z => boot_fast); (case qk8Z => decide); k_whole))) | (with_reducible (((with_reducible show wpAny _ _ (newTuple _) _ _ _); (k_here; refine newTuple_L (by k_asm) (by k_asm) ?_ (Nat.le_of_ble_eq_true rfl); intro a9 h9 F9 N9 f9 k9; (try dsimp only))))) | (with_reducible (((with_reducible show wpAny _ _ (execs (Stmt.Assign _ _ _ :: _) _) _ _ _); refine wpAny_execs_cons ?_))) | (with_reducible (((with_reducible show TurnE _ _ _ _ _ _ _ _ _ _ _ _ _ _ _); dsimp only [TurnE]))) | (with_reducible ((k_here; (with_reducible show wpAny _ _ (call (Value.builtin "len") [Value.ref _]) _ _ _); refine len_tup_ints (IsTup.keeps (by assumption) (Fr.keep (by k_asm))) (by assumption) (by assumption) ?_))) | walk1); all_goals (try dsimp only)) | dsimp only))
    refine LSm.all_bools (s := Shared.mk _ _ _ _ _) F3 N3 rfl ⟨_, hl3, rfl, _, rfl⟩ hR3 ?_
    intro h4 tk4 F4 N4
    obtain rfl : q = (mets.map lss).all id := Bool.eq_iff_iff.mpr (hq.trans hls)
    dsimp only
    (repeat' (first | (k_unfold; (try dsimp only)) | ((fail_if_success (with_reducible show wpAny _ _ (pyIter _) _ _ _)); (fail_if_success (with_reducible show wpAny _ _ (execs (Stmt.If _ _ _ _ :: _) _) _ _ _)); (fail_if_success (with_reducible show wpAny _ _ (execs (Stmt.Assign _ _ _ :: _) _) _ _ _)); (fail_if_success (with_reducible show wpAny _ _ (subscriptTail _ _ _ _) _ _ _)); (fail_if_success (with_reducible show wpAny _ _ (call (Value.ref _) _) _ _ _)); (fail_if_success (with_reducible show wpAny _ _ (call (Value.type _) _) _ _ _)); (fail_if_success (with_reducible show wpAny _ _ (compareOp _ (Value.ref _) _) _ _ _)); (fail_if_success (with_reducible show wpAny _ _ (eval (Expr.ListComp _ _ _ _) _) _ _ _)); (fail_if_success (with_reducible show wpAny _ _ (exec (Stmt.Assign _ (Expr.ListComp _ _ _ _) _) _) _ _ _)); (first | ((with_reducible show wpAny _ _ (eval (Expr.Name _ _) (compEnvC _ _ _ _)) _ _ _); k_dflt (first | (refine' nmL ?qk1Z ?qk2Z ?_ ?qk3Z ?qk4Z ?qk5Z; (case qk3Z => rfl); (case qk4Z => rfl); (case qk5Z => decide); (case qk1Z => k_asm); (case qk2Z => rfl); k_whole) | (refine' nmC ?qk1Z ?qk2Z ?qk6Z ?_ ?qk3Z ?qk4Z ?qk5Z; (case qk3Z => rfl); (case qk4Z => rfl); (case qk5Z => decide); (case qk6Z => rfl); (case qk1Z => assumption); (case qk2Z => assumption); k_whole) | (refine' nmG ?qk1Z ?qk2Z ?_ ?qk6Z ?qk3Z ?qk4Z ?qk5Z; (case qk3Z => rfl); (case qk4Z => rfl); (case qk5Z => decide); (case qk6Z => rfl); (case qk1Z => assumption); (case qk2Z => k_is); k_whole) | (refine' nmB ?qk1Z ?qk2Z ?qk7Z ?qk8Z ?_ ?qk6Z ?qk9Z ?qk3Z ?qk4Z ?qk5Z; (case qk3Z => rfl); (case qk4Z => rfl); (case qk5Z => decide); (case qk6Z => rfl); (case qk9Z => rfl); (case qk1Z => assumption); (case qk2Z => k_is); (case qk7Z => boot_fast); (case qk8Z => decide); k_whole))) | (with_reducible (((with_reducible show wpAny _ _ (newTuple _) _ _ _); (k_here; refine newTuple_L (by k_asm) (by k_asm) ?_ (Nat.le_of_ble_eq_true rfl); intro a9 h9 F9 N9 f9 k9; (try dsimp only))))) | (with_reducible (((with_reducible show wpAny _ _ (execs (Stmt.Assign _ _ _ :: _) _) _ _ _); refine wpAny_execs_cons ?_))) | (with_reducible (((with_reducible show TurnE _ _ _ _ _ _ _ _ _ _ _ _ _ _ _); dsimp only [TurnE]))) | (with_reducible ((k_here; (with_reducible show wpAny _ _ (call (Value.builtin "len") [Value.ref _]) _ _ _); refine len_tup_ints (IsTup.keeps (by assumption) (Fr.keep (by k_asm))) (by assumption) (by assumption) ?_))) | walk1); all_goals (try dsimp only)) | dsimp only))
    · rename (_ != _) = true => e9
      exact absurd e9 (by simp)
    exact next _ _ F4 (News.pick N4 (.tail _ (.head _)) News.nil) (rest_sub R N4 fun p hp => .tail _ (.tail _ hp))
end
theorem trisD_ok (es : List (Int × Int × Int)) : kqdOk 9 (.list (es.map tri)) = true := by
  simp [kqdOk, tri]
/- up to where the witnesses are sought -/
noncomputable def upTo (l l' : List Nat) : Nat := (max (max (((cntOf (aheadOf l)).length : Int) - 1) (lastOf l)) (max (((cntOf (aheadOf l')).length : Int) - 1) (lastOf l')) + 1).toNat
section
variable {prog : Program} {w : World} {s : Shared} {H : Heap} {L fa : Addr} {cd : Value} {tx sz mk co te me un ab : Addr} {ts : List (List Nat)} {zs : List Int} {ps : Array Value} {u : Str → Option Value} {Q : Flow → Shared → Prop} {i jj : Nat} {l l' : List Nat} {t1 t2 : Tok} {us vs : List (Int × Int × Int)}
set_option maxHeartbeats 4000000 in
theorem in_6 (G : Gd w.params H) (hi : i < 7) (hj : jj < 7) (hl : ts[i]? = some l) (hl' : ts[jj]? = some l')
    (hus : wit (lvl (cntOf (aheadOf l)) (lastOf l) (aheadOf l).length) (lvl (cntOf (aheadOf l')) (lastOf l') (aheadOf l').length) (fun p q => p != q) (upTo l l') = us.map tri)
    (hvs : wit (lvl (cntOf (aheadOf l)) (lastOf l) (aheadOf l).length) (lvl (cntOf (aheadOf l')) (lastOf l') (aheadOf l').length) (fun p q => decide (p ≥ q)) (upTo l l') = vs.map tri)
    (F : Fr H L s.heap (kstB u [(Str.ofString "k", .int i t1), (Str.ofString "j", .int jj t2), (Str.ofString "marks", .ref mk), (Str.ofString "columns", .ref co), (Str.ofString "tells", .ref te), (Str.ofString "met", .ref me), (Str.ofString "unlike", .ref un), (Str.ofString "above", .ref ab)]))
    (N : News H L s.heap [(82, tabObj ps)]) (M : Made (Dg H L s.heap) L tx sz mk co te ts zs) (hun : Rd (Dg H L s.heap) (.ref un) (.list (us.map tri))) (hab : Rd (Dg H L s.heap) (.ref ab) (.list (vs.map tri)))
    (next : ∀ h tk, Fr H L h (kstB u [(Str.ofString "k", .int i t1), (Str.ofString "j", .int jj t2), (Str.ofString "marks", .ref mk), (Str.ofString "columns", .ref co), (Str.ofString "tells", .ref te), (Str.ofString "met", .ref me), (Str.ofString "unlike", .ref un), (Str.ofString "above", .ref ab)]) →
      News H L h [(82, tabObj ps)] → Sub (Dg H L s.heap) (Dg H L h) →
      wpAny (model prog w) (lawA L fa cd) (execs (inBody.drop 7) (lawEnv L fa cd)) Q (fun _ _ => False) { s with heap := h, toks := tk }) :
    wpAny (model prog w) (lawA L fa cd) (execs (inBody.drop 6) (lawEnv L fa cd)) Q (fun _ _ => False) s := by
  have X := G.k
  obtain ⟨p, loose, mg, mb, TT⟩ := G.t
  obtain ⟨h, gs, dr, tk, os⟩ := s
  dsimp only at F N next M hun hab
  obtain ⟨rest, N, R⟩ := open_rest N
  obtain ⟨⟨tvs, tn, t1', t2'⟩, ⟨svs, sn, s1, s2⟩, ⟨mvs, mn, m1, m2⟩, ⟨cvs, cn, c1, c2⟩, ⟨evs, en, e1, e2⟩, ⟨o2, q1, q2⟩⟩ := M
  obtain ⟨mv, hmv, x, rfl, Wx⟩ := m2.get hl
  obtain ⟨mv', hmv', y, rfl, Wy⟩ := m2.get hl'
  have WA := Wx
  obtain ⟨dx, xn, xc, kk, x1, x2, x3, x4, x5, k1', k2', k3', k4', k5', y1, y2, y3, y4, vs', a1, a2, _, _, _, _, _, _, _, _, _⟩ := Wx
  have hg := R.sub N (by intro p hp; k_mem)
  clear t1' t2' s1 s2 e1 e2 q1 q2 m2 c2
  change wpAny _ _ (execs (_ :: _) _) _ _ _
  refine wpAny_execs_cons ?_
  (repeat' (first | (k_unfold; (try dsimp only)) | ((fail_if_success (with_reducible show wpAny _ _ (pyIter _) _ _ _)); (fail_if_success (with_reducible show wpAny _ _ (execs (Stmt.If _ _ _ _ :: _) _) _ _ _)); (fail_if_success (with_reducible show wpAny _ _ (execs (Stmt.Assign _ _ _ :: _) _) _ _ _)); (fail_if_success (with_reducible show wpAny _ _ (subscriptTail _ _ _ _) _ _ _)); (fail_if_success (with_reducible show wpAny _ _ (call (Value.ref _) _) _ _ _)); (fail_if_success (with_reducible show wpAny _ _ (call (Value.type _) _) _ _ _)); (fail_if_success (with_reducible show wpAny _ _ (compareOp _ (Value.ref _) _) _ _ _)); (fail_if_success (with_reducible show wpAny _ _ (eval (Expr.ListComp _ _ _ _) _) _ _ _)); (fail_if_success (with_reducible show wpAny _ _ (exec (Stmt.Assign _ (Expr.ListComp _ _ _ _) _) _) _ _ _)); (first | ((with_reducible show wpAny _ _ (eval (Expr.Name _ _) (compEnvC _ _ _ _)) _ _ _); k_dflt (first | (refine' nmL ?qk1Z ?qk2Z ?_ ?qk3Z ?qk4Z ?qk5Z; (case qk3Z => rfl); (case qk4Z => rfl); (case qk5Z => decide); (case qk1Z => k_asm); (case qk2Z => rfl); k_whole) | (refine' nmC ?qk1Z ?qk2Z ?qk6Z ?_ ?qk3Z ?qk4Z ?qk5Z; (case qk3Z => rfl); (case qk4Z => rfl); (case qk5Z => decide); (case qk6Z => rfl); (case qk1Z => assumption); (case qk2Z => assumption); k_whole) | (refine' nmG ?qk1Z ?qk2Z ?_ ?qk6Z ?qk3Z ?qk4Z ?qk5Z; (case qk3Z => rfl); (case qk4Z => rfl); (case qk5Z => decide); (case qk6Z => rfl); (case qk1Z => assumption); (case qk2Z => k_is); k_whole) | (refine' nmB ?qk1Z ?qk2Z ?qk7Z ?qk8Z ?_ ?qk6Z ?qk9Z ?qk3Z ?qk4Z ?qk5Z; (case qk3Z => rfl); (case qk4Z => rfl); (case qk5Z => decide); (case qk6Z => rfl); (case qk9Z => rfl); (case qk1Z => assumption); (case qk2Z => k_is); (case qk7Z => boot_fast); (case qk8Z => decide); k_whole))) | (with_reducible (((with_reducible show wpAny _ _ (newTuple _) _ _ _); (k_here; refine newTuple_L (by k_asm) (by k_asm) ?_ (Nat.le_of_ble_eq_true rfl); intro a9 h9 F9 N9 f9 k9; (try dsimp only))))) | (with_reducible (((with_reducible show wpAny _ _ (execs (Stmt.Assign _ _ _ :: _) _) _ _ _); refine wpAny_execs_cons ?_))) | (with_reducible (((with_reducible show TurnE _ _ _ _ _ _ _ _ _ _ _ _ _ _ _); dsimp only [TurnE]))) | (with_reducible ((k_here; (with_reducible show wpAny _ _ (call (Value.builtin "len") [Value.ref _]) _ _ _); refine len_tup_ints (IsTup.keeps (by assumption) (Fr.keep (by k_asm))) (by assumption) (by assumption) ?_))) | walk1); all_goals (try dsimp only)) | dsimp only))
  refine item_litK (s := Shared.mk _ _ _ _ _) ⟨_, hg _ _ m1, rfl, _, rfl⟩ (Int.natCast_nonneg i) (by omega) (by rw [Int.toNat_natCast]; exact hmv) ?_ (by with_unfolding_all rfl)
  (repeat' (first | (k_unfold; (try dsimp only)) | ((fail_if_success (with_reducible show wpAny _ _ (pyIter _) _ _ _)); (fail_if_success (with_reducible show wpAny _ _ (execs (Stmt.If _ _ _ _ :: _) _) _ _ _)); (fail_if_success (with_reducible show wpAny _ _ (execs (Stmt.Assign _ _ _ :: _) _) _ _ _)); (fail_if_success (with_reducible show wpAny _ _ (subscriptTail _ _ _ _) _ _ _)); (fail_if_success (with_reducible show wpAny _ _ (call (Value.ref _) _) _ _ _)); (fail_if_success (with_reducible show wpAny _ _ (call (Value.type _) _) _ _ _)); (fail_if_success (with_reducible show wpAny _ _ (compareOp _ (Value.ref _) _) _ _ _)); (fail_if_success (with_reducible show wpAny _ _ (eval (Expr.ListComp _ _ _ _) _) _ _ _)); (fail_if_success (with_reducible show wpAny _ _ (exec (Stmt.Assign _ (Expr.ListComp _ _ _ _) _) _) _ _ _)); (first | ((with_reducible show wpAny _ _ (eval (Expr.Name _ _) (compEnvC _ _ _ _)) _ _ _); k_dflt (first | (refine' nmL ?qk1Z ?qk2Z ?_ ?qk3Z ?qk4Z ?qk5Z; (case qk3Z => rfl); (case qk4Z => rfl); (case qk5Z => decide); (case qk1Z => k_asm); (case qk2Z => rfl); k_whole) | (refine' nmC ?qk1Z ?qk2Z ?qk6Z ?_ ?qk3Z ?qk4Z ?qk5Z; (case qk3Z => rfl); (case qk4Z => rfl); (case qk5Z => decide); (case qk6Z => rfl); (case qk1Z => assumption); (case qk2Z => assumption); k_whole) | (refine' nmG ?qk1Z ?qk2Z ?_ ?qk6Z ?qk3Z ?qk4Z ?qk5Z; (case qk3Z => rfl); (case qk4Z => rfl); (case qk5Z => decide); (case qk6Z => rfl); (case qk1Z => assumption); (case qk2Z => k_is); k_whole) | (refine' nmB ?qk1Z ?qk2Z ?qk7Z ?qk8Z ?_ ?qk6Z ?qk9Z ?qk3Z ?qk4Z ?qk5Z; (case qk3Z => rfl); (case qk4Z => rfl); (case qk5Z => decide); (case qk6Z => rfl); (case qk9Z => rfl); (case qk1Z => assumption); (case qk2Z => k_is); (case qk7Z => boot_fast); (case qk8Z => decide); k_whole))) | (with_reducible (((with_reducible show wpAny _ _ (newTuple _) _ _ _); (k_here; refine newTuple_L (by k_asm) (by k_asm) ?_ (Nat.le_of_ble_eq_true rfl); intro a9 h9 F9 N9 f9 k9; (try dsimp only))))) | (with_reducible (((with_reducible show wpAny _ _ (execs (Stmt.Assign _ _ _ :: _) _) _ _ _); refine wpAny_execs_cons ?_))) | (with_reducible (((with_reducible show TurnE _ _ _ _ _ _ _ _ _ _ _ _ _ _ _); dsimp only [TurnE]))) | (with_reducible ((k_here; (with_reducible show wpAny _ _ (call (Value.builtin "len") [Value.ref _]) _ _ _); refine len_tup_ints (IsTup.keeps (by assumption) (Fr.keep (by k_asm))) (by assumption) (by assumption) ?_))) | walk1); all_goals (try dsimp only)) | dsimp only))
  refine item_litK (s := Shared.mk _ _ _ _ _) ⟨_, hg _ _ m1, rfl, _, rfl⟩ (Int.natCast_nonneg jj) (by omega) (by rw [Int.toNat_natCast]; exact hmv') ?_ (by with_unfolding_all rfl)
  (repeat' (first | (k_unfold; (try dsimp only)) | ((fail_if_success (with_reducible show wpAny _ _ (pyIter _) _ _ _)); (fail_if_success (with_reducible show wpAny _ _ (execs (Stmt.If _ _ _ _ :: _) _) _ _ _)); (fail_if_success (with_reducible show wpAny _ _ (execs (Stmt.Assign _ _ _ :: _) _) _ _ _)); (fail_if_success (with_reducible show wpAny _ _ (subscriptTail _ _ _ _) _ _ _)); (fail_if_success (with_reducible show wpAny _ _ (call (Value.ref _) _) _ _ _)); (fail_if_success (with_reducible show wpAny _ _ (call (Value.type _) _) _ _ _)); (fail_if_success (with_reducible show wpAny _ _ (compareOp _ (Value.ref _) _) _ _ _)); (fail_if_success (with_reducible show wpAny _ _ (eval (Expr.ListComp _ _ _ _) _) _ _ _)); (fail_if_success (with_reducible show wpAny _ _ (exec (Stmt.Assign _ (Expr.ListComp _ _ _ _) _) _) _ _ _)); (first | ((with_reducible show wpAny _ _ (eval (Expr.Name _ _) (compEnvC _ _ _ _)) _ _ _); k_dflt (first | (refine' nmL ?qk1Z ?qk2Z ?_ ?qk3Z ?qk4Z ?qk5Z; (case qk3Z => rfl); (case qk4Z => rfl); (case qk5Z => decide); (case qk1Z => k_asm); (case qk2Z => rfl); k_whole) | (refine' nmC ?qk1Z ?qk2Z ?qk6Z ?_ ?qk3Z ?qk4Z ?qk5Z; (case qk3Z => rfl); (case qk4Z => rfl); (case qk5Z => decide); (case qk6Z => rfl); (case qk1Z => assumption); (case qk2Z => assumption); k_whole) | (refine' nmG ?qk1Z ?qk2Z ?_ ?qk6Z ?qk3Z ?qk4Z ?qk5Z; (case qk3Z => rfl); (case qk4Z => rfl); (case qk5Z => decide); (case qk6Z => rfl); (case qk1Z => assumption); (case qk2Z => k_is); k_whole) | (refine' nmB ?qk1Z ?qk2Z ?qk7Z ?qk8Z ?_ ?qk6Z ?qk9Z ?qk3Z ?qk4Z ?qk5Z; (case qk3Z => rfl); (case qk4Z => rfl); (case qk5Z => decide); (case qk6Z => rfl); (case qk9Z => rfl); (case qk1Z => assumption); (case qk2Z => k_is); (case qk7Z => boot_fast); (case qk8Z => decide); k_whole))) | (with_reducible (((with_reducible show wpAny _ _ (newTuple _) _ _ _); (k_here; refine newTuple_L (by k_asm) (by k_asm) ?_ (Nat.le_of_ble_eq_true rfl); intro a9 h9 F9 N9 f9 k9; (try dsimp only))))) | (with_reducible (((with_reducible show wpAny _ _ (execs (Stmt.Assign _ _ _ :: _) _) _ _ _); refine wpAny_execs_cons ?_))) | (with_reducible (((with_reducible show TurnE _ _ _ _ _ _ _ _ _ _ _ _ _ _ _); dsimp only [TurnE]))) | (with_reducible ((k_here; (with_reducible show wpAny _ _ (call (Value.builtin "len") [Value.ref _]) _ _ _); refine len_tup_ints (IsTup.keeps (by assumption) (Fr.keep (by k_asm))) (by assumption) (by assumption) ?_))) | walk1); all_goals (try dsimp only)) | dsimp only))
  refine wk (notequal_spec (s := Shared.mk _ _ _ _ _) (G.keeps F.keep) (WA.keeps hg) (Wy.keeps hg) ?_) rfl (Nat.le_of_ble_eq_true rfl) (Nat.le_of_ble_eq_true rfl)
  rintro v1 _ r1 ⟨h1, tk1, rfl, k1⟩
  dsimp only at k1 r1 ⊢
  have F1 := Fr.keeps F k1
  have N1 := News.grown N k1
  have hg1 : Sub (Dg H L h) h1 := fun b o e => k1 b o (hg b o e)
  clear F N hg
  change Rd _ _ (.list (wit _ _ _ (upTo l l'))) at r1
  rw [hus] at r1
  iterate 1 first | k_unfold | ((with_reducible show wpAny _ _ (eval (Expr.Name _ _) (compEnvC _ _ _ _)) _ _ _); k_dflt (first | (refine' nmL ?qk1Z ?qk2Z ?_ ?qk3Z ?qk4Z ?qk5Z; (case qk3Z => rfl); (case qk4Z => rfl); (case qk5Z => decide); (case qk1Z => k_asm); (case qk2Z => rfl); k_whole) | (refine' nmC ?qk1Z ?qk2Z ?qk6Z ?_ ?qk3Z ?qk4Z ?qk5Z; (case qk3Z => rfl); (case qk4Z => rfl); (case qk5Z => decide); (case qk6Z => rfl); (case qk1Z => assumption); (case qk2Z => assumption); k_whole) | (refine' nmG ?qk1Z ?qk2Z ?_ ?qk6Z ?qk3Z ?qk4Z ?qk5Z; (case qk3Z => rfl); (case qk4Z => rfl); (case qk5Z => decide); (case qk6Z => rfl); (case qk1Z => assumption); (case qk2Z => k_is); k_whole) | (refine' nmB ?qk1Z ?qk2Z ?qk7Z ?qk8Z ?_ ?qk6Z ?qk9Z ?qk3Z ?qk4Z ?qk5Z; (case qk3Z => rfl); (case qk4Z => rfl); (case qk5Z => decide); (case qk6Z => rfl); (case qk9Z => rfl); (case qk1Z => assumption); (case qk2Z => k_is); (case qk7Z => boot_fast); (case qk8Z => decide); k_whole))) | (with_reducible (((with_reducible show wpAny _ _ (newTuple _) _ _ _); (k_here; refine newTuple_L (by k_asm) (by k_asm) ?_ (Nat.le_of_ble_eq_true rfl); intro a9 h9 F9 N9 f9 k9; (try dsimp only))))) | (with_reducible (((with_reducible show wpAny _ _ (execs (Stmt.Assign _ _ _ :: _) _) _ _ _); refine wpAny_execs_cons ?_))) | (with_reducible (((with_reducible show TurnE _ _ _ _ _ _ _ _ _ _ _ _ _ _ _); dsimp only [TurnE]))) | (with_reducible ((k_here; (with_reducible show wpAny _ _ (call (Value.builtin "len") [Value.ref _]) _ _ _); refine len_tup_ints (IsTup.keeps (by assumption) (Fr.keep (by k_asm))) (by assumption) (by assumption) ?_))) | walk1 | (dsimp only; walk1)
  refine cmp_ne (s := Shared.mk _ _ _ _ _) (n := 9) (r1.keeps nw_sub) (hun.keeps hg1) (trisD_ok _) (trisD_ok _) (Nat.le_of_ble_eq_true rfl) ?_
  intro q hq
  obtain rfl : q = false := hq.mpr rfl
  clear hq
  (repeat' (first | (k_unfold; (try dsimp only)) | ((fail_if_success (with_reducible show wpAny _ _ (pyIter _) _ _ _)); (fail_if_success (with_reducible show wpAny _ _ (execs (Stmt.If _ _ _ _ :: _) _) _ _ _)); (fail_if_success (with_reducible show wpAny _ _ (execs (Stmt.Assign _ _ _ :: _) _) _ _ _)); (fail_if_success (with_reducible show wpAny _ _ (subscriptTail _ _ _ _) _ _ _)); (fail_if_success (with_reducible show wpAny _ _ (call (Value.ref _) _) _ _ _)); (fail_if_success (with_reducible show wpAny _ _ (call (Value.type _) _) _ _ _)); (fail_if_success (with_reducible show wpAny _ _ (compareOp _ (Value.ref _) _) _ _ _)); (fail_if_success (with_reducible show wpAny _ _ (eval (Expr.ListComp _ _ _ _) _) _ _ _)); (fail_if_success (with_reducible show wpAny _ _ (exec (Stmt.Assign _ (Expr.ListComp _ _ _ _) _) _) _ _ _)); (first | ((with_reducible show wpAny _ _ (eval (Expr.Name _ _) (compEnvC _ _ _ _)) _ _ _); k_dflt (first | (refine' nmL ?qk1Z ?qk2Z ?_ ?qk3Z ?qk4Z ?qk5Z; (case qk3Z => rfl); (case qk4Z => rfl); (case qk5Z => decide); (case qk1Z => k_asm); (case qk2Z => rfl); k_whole) | (refine' nmC ?qk1Z ?qk2Z ?qk6Z ?_ ?qk3Z ?qk4Z ?qk5Z; (case qk3Z => rfl); (case qk4Z => rfl); (case qk5Z => decide); (case qk6Z => rfl); (case qk1Z => assumption); (case qk2Z => assumption); k_whole) | (refine' nmG ?qk1Z ?qk2Z ?_ ?qk6Z ?qk3Z ?qk4Z ?qk5Z; (case qk3Z => rfl); (case qk4Z => rfl); (case qk5Z => decide); (case qk6Z => rfl); (case qk1Z => assumption); (case qk2Z => k_is); k_whole) | (refine' nmB ?qk1Z ?qk2Z ?qk7Z ?qk8Z ?_ ?qk6Z ?qk9Z ?qk3Z ?qk4Z ?qk5Z; (case qk3Z => rfl); (case qk4Z => rfl); (case qk5Z => decide); (case qk6Z => rfl); (case qk9Z => rfl); (case qk1Z => assumption); (case qk2Z => k_is); (case qk7Z => boot_fast); (case qk8Z => decide); k_whole))) | (with_reducible (((with_reducible show wpAny _ _ (newTuple _) _ _ _); (k_here; refine newTuple_L (by k_asm) (by k_asm) ?_ (Nat.le_of_ble_eq_true rfl); intro a9 h9 F9 N9 f9 k9; (try dsimp only))))) | (with_reducible (((with_reducible show wpAny _ _ (execs (Stmt.Assign _ _ _ :: _) _) _ _ _); refine wpAny_execs_cons ?_))) | (with_reducible (((with_reducible show TurnE _ _ _ _ _ _ _ _ _ _ _ _ _ _ _); dsimp only [TurnE]))) | (with_reducible ((k_here; (with_reducible show wpAny _ _ (call (Value.builtin "len") [Value.ref _]) _ _ _); refine len_tup_ints (IsTup.keeps (by assumption) (Fr.keep (by k_asm))) (by assumption) (by assumption) ?_))) | walk1); all_goals (try dsimp only)) | dsimp only))
  refine item_litK (s := Shared.mk _ _ _ _ _) ⟨_, hg1 _ _ m1, rfl, _, rfl⟩ (Int.natCast_nonneg i) (by omega) (by rw [Int.toNat_natCast]; exact hmv) ?_ (by with_unfolding_all rfl)
  (repeat' (first | (k_unfold; (try dsimp only)) | ((fail_if_success (with_reducible show wpAny _ _ (pyIter _) _ _ _)); (fail_if_success (with_reducible show wpAny _ _ (execs (Stmt.If _ _ _ _ :: _) _) _ _ _)); (fail_if_success (with_reducible show wpAny _ _ (execs (Stmt.Assign _ _ _ :: _) _) _ _ _)); (fail_if_success (with_reducible show wpAny _ _ (subscriptTail _ _ _ _) _ _ _)); (fail_if_success (with_reducible show wpAny _ _ (call (Value.ref _) _) _ _ _)); (fail_if_success (with_reducible show wpAny _ _ (call (Value.type _) _) _ _ _)); (fail_if_success (with_reducible show wpAny _ _ (compareOp _ (Value.ref _) _) _ _ _)); (fail_if_success (with_reducible show wpAny _ _ (eval (Expr.ListComp _ _ _ _) _) _ _ _)); (fail_if_success (with_reducible show wpAny _ _ (exec (Stmt.Assign _ (Expr.ListComp _ _ _ _) _) _) _ _ _)); (first | ((with_reducible show wpAny _ _ (eval (Expr.Name _ _) (compEnvC _ _ _ _)) _ _ _); k_dflt (first | (refine' nmL ?qk1Z ?qk2Z ?_ ?qk3Z ?qk4Z ?qk5Z; (case qk3Z => rfl); (case qk4Z => rfl); (case qk5Z => decide); (case qk1Z => k_asm); (case qk2Z => rfl); k_whole) | (refine' nmC ?qk1Z ?qk2Z ?qk6Z ?_ ?qk3Z ?qk4Z ?qk5Z; (case qk3Z => rfl); (case qk4Z => rfl); (case qk5Z => decide); (case qk6Z => rfl); (case qk1Z => assumption); (case qk2Z => assumption); k_whole) | (refine' nmG ?qk1Z ?qk2Z ?_ ?qk6Z ?qk3Z ?qk4Z ?qk5Z; (case qk3Z => rfl); (case qk4Z => rfl); (case qk5Z => decide); (case qk6Z => rfl); (case qk1Z => assumption); (case qk2Z => k_is); k_whole) | (refine' nmB ?qk1Z ?qk2Z ?qk7Z ?qk8Z ?_ ?qk6Z ?qk9Z ?qk3Z ?qk4Z ?qk5Z; (case qk3Z => rfl); (case qk4Z => rfl); (case qk5Z => decide); (case qk6Z => rfl); (case qk9Z => rfl); (case qk1Z => assumption); (case qk2Z => k_is); (case qk7Z => boot_fast); (case qk8Z => decide); k_whole))) | (with_reducible (((with_reducible show wpAny _ _ (newTuple _) _ _ _); (k_here; refine newTuple_L (by k_asm) (by k_asm) ?_ (Nat.le_of_ble_eq_true rfl); intro a9 h9 F9 N9 f9 k9; (try dsimp only))))) | (with_reducible (((with_reducible show wpAny _ _ (execs (Stmt.Assign _ _ _ :: _) _) _ _ _); refine wpAny_execs_cons ?_))) | (with_reducible (((with_reducible show TurnE _ _ _ _ _ _ _ _ _ _ _ _ _ _ _); dsimp only [TurnE]))) | (with_reducible ((k_here; (with_reducible show wpAny _ _ (call (Value.builtin "len") [Value.ref _]) _ _ _); refine len_tup_ints (IsTup.keeps (by assumption) (Fr.keep (by k_asm))) (by assumption) (by assumption) ?_))) | walk1); all_goals (try dsimp only)) | dsimp only))
  refine item_litK (s := Shared.mk _ _ _ _ _) ⟨_, hg1 _ _ m1, rfl, _, rfl⟩ (Int.natCast_nonneg jj) (by omega) (by rw [Int.toNat_natCast]; exact hmv') ?_ (by with_unfolding_all rfl)
  (repeat' (first | (k_unfold; (try dsimp only)) | ((fail_if_success (with_reducible show wpAny _ _ (pyIter _) _ _ _)); (fail_if_success (with_reducible show wpAny _ _ (execs (Stmt.If _ _ _ _ :: _) _) _ _ _)); (fail_if_success (with_reducible show wpAny _ _ (execs (Stmt.Assign _ _ _ :: _) _) _ _ _)); (fail_if_success (with_reducible show wpAny _ _ (subscriptTail _ _ _ _) _ _ _)); (fail_if_success (with_reducible show wpAny _ _ (call (Value.ref _) _) _ _ _)); (fail_if_success (with_reducible show wpAny _ _ (call (Value.type _) _) _ _ _)); (fail_if_success (with_reducible show wpAny _ _ (compareOp _ (Value.ref _) _) _ _ _)); (fail_if_success (with_reducible show wpAny _ _ (eval (Expr.ListComp _ _ _ _) _) _ _ _)); (fail_if_success (with_reducible show wpAny _ _ (exec (Stmt.Assign _ (Expr.ListComp _ _ _ _) _) _) _ _ _)); (first | ((with_reducible show wpAny _ _ (eval (Expr.Name _ _) (compEnvC _ _ _ _)) _ _ _); k_dflt (first | (refine' nmL ?qk1Z ?qk2Z ?_ ?qk3Z ?qk4Z ?qk5Z; (case qk3Z => rfl); (case qk4Z => rfl); (case qk5Z => decide); (case qk1Z => k_asm); (case qk2Z => rfl); k_whole) | (refine' nmC ?qk1Z ?qk2Z ?qk6Z ?_ ?qk3Z ?qk4Z ?qk5Z; (case qk3Z => rfl); (case qk4Z => rfl); (case qk5Z => decide); (case qk6Z => rfl); (case qk1Z => assumption); (case qk2Z => assumption); k_whole) | (refine' nmG ?qk1Z ?qk2Z ?_ ?qk6Z ?qk3Z ?qk4Z ?qk5Z; (case qk3Z => rfl); (case qk4Z => rfl); (case qk5Z => decide); (case qk6Z => rfl); (case qk1Z => assumption); (case qk2Z => k_is); k_whole) | (refine' nmB ?qk1Z ?qk2Z ?qk7Z ?qk8Z ?_ ?qk6Z ?qk9Z ?qk3Z ?qk4Z ?qk5Z; (case qk3Z => rfl); (case qk4Z => rfl); (case qk5Z => decide); (case qk6Z => rfl); (case qk9Z => rfl); (case qk1Z => assumption); (case qk2Z => k_is); (case qk7Z => boot_fast); (case qk8Z => decide); k_whole))) | (with_reducible (((with_reducible show wpAny _ _ (newTuple _) _ _ _); (k_here; refine newTuple_L (by k_asm) (by k_asm) ?_ (Nat.le_of_ble_eq_true rfl); intro a9 h9 F9 N9 f9 k9; (try dsimp only))))) | (with_reducible (((with_reducible show wpAny _ _ (execs (Stmt.Assign _ _ _ :: _) _) _ _ _); refine wpAny_execs_cons ?_))) | (with_reducible (((with_reducible show TurnE _ _ _ _ _ _ _ _ _ _ _ _ _ _ _); dsimp only [TurnE]))) | (with_reducible ((k_here; (with_reducible show wpAny _ _ (call (Value.builtin "len") [Value.ref _]) _ _ _); refine len_tup_ints (IsTup.keeps (by assumption) (Fr.keep (by k_asm))) (by assumption) (by assumption) ?_))) | walk1); all_goals (try dsimp only)) | dsimp only))
  refine wk (notless_spec (s := Shared.mk _ _ _ _ _) (G.keeps F1.keep) (WA.keeps hg1) (Wy.keeps hg1) ?_) rfl (Nat.le_of_ble_eq_true rfl) (Nat.le_of_ble_eq_true rfl)
  rintro v2 _ r2 ⟨h2, tk2, rfl, k2⟩
  dsimp only at k2 r2 ⊢
  have F2 := Fr.keeps F1 k2
  have N2 := News.grown N1 k2
  have hg2 : Sub (Dg H L h) h2 := fun b o e => k2 b o (hg1 b o e)
  clear F1 N1 hg1
  change Rd _ _ (.list (wit _ _ _ (upTo l l'))) at r2
  rw [hvs] at r2
  iterate 1 first | k_unfold | ((with_reducible show wpAny _ _ (eval (Expr.Name _ _) (compEnvC _ _ _ _)) _ _ _); k_dflt (first | (refine' nmL ?qk1Z ?qk2Z ?_ ?qk3Z ?qk4Z ?qk5Z; (case qk3Z => rfl); (case qk4Z => rfl); (case qk5Z => decide); (case qk1Z => k_asm); (case qk2Z => rfl); k_whole) | (refine' nmC ?qk1Z ?qk2Z ?qk6Z ?_ ?qk3Z ?qk4Z ?qk5Z; (case qk3Z => rfl); (case qk4Z => rfl); (case qk5Z => decide); (case qk6Z => rfl); (case qk1Z => assumption); (case qk2Z => assumption); k_whole) | (refine' nmG ?qk1Z ?qk2Z ?_ ?qk6Z ?qk3Z ?qk4Z ?qk5Z; (case qk3Z => rfl); (case qk4Z => rfl); (case qk5Z => decide); (case qk6Z => rfl); (case qk1Z => assumption); (case qk2Z => k_is); k_whole) | (refine' nmB ?qk1Z ?qk2Z ?qk7Z ?qk8Z ?_ ?qk6Z ?qk9Z ?qk3Z ?qk4Z ?qk5Z; (case qk3Z => rfl); (case qk4Z => rfl); (case qk5Z => decide); (case qk6Z => rfl); (case qk9Z => rfl); (case qk1Z => assumption); (case qk2Z => k_is); (case qk7Z => boot_fast); (case qk8Z => decide); k_whole))) | (with_reducible (((with_reducible show wpAny _ _ (newTuple _) _ _ _); (k_here; refine newTuple_L (by k_asm) (by k_asm) ?_ (Nat.le_of_ble_eq_true rfl); intro a9 h9 F9 N9 f9 k9; (try dsimp only))))) | (with_reducible (((with_reducible show wpAny _ _ (execs (Stmt.Assign _ _ _ :: _) _) _ _ _); refine wpAny_execs_cons ?_))) | (with_reducible (((with_reducible show TurnE _ _ _ _ _ _ _ _ _ _ _ _ _ _ _); dsimp only [TurnE]))) | (with_reducible ((k_here; (with_reducible show wpAny _ _ (call (Value.builtin "len") [Value.ref _]) _ _ _); refine len_tup_ints (IsTup.keeps (by assumption) (Fr.keep (by k_asm))) (by assumption) (by assumption) ?_))) | walk1 | (dsimp only; walk1)
  refine cmp_ne (s := Shared.mk _ _ _ _ _) (n := 9) (r2.keeps nw_sub) (hab.keeps hg2) (trisD_ok _) (trisD_ok _) (Nat.le_of_ble_eq_true rfl) ?_
  intro q hq
  obtain rfl : q = false := hq.mpr rfl
  clear hq
  (repeat' (first | (k_unfold; (try dsimp only)) | ((fail_if_success (with_reducible show wpAny _ _ (pyIter _) _ _ _)); (fail_if_success (with_reducible show wpAny _ _ (execs (Stmt.If _ _ _ _ :: _) _) _ _ _)); (fail_if_success (with_reducible show wpAny _ _ (execs (Stmt.Assign _ _ _ :: _) _) _ _ _)); (fail_if_success (with_reducible show wpAny _ _ (subscriptTail _ _ _ _) _ _ _)); (fail_if_success (with_reducible show wpAny _ _ (call (Value.ref _) _) _ _ _)); (fail_if_success (with_reducible show wpAny _ _ (call (Value.type _) _) _ _ _)); (fail_if_success (with_reducible show wpAny _ _ (compareOp _ (Value.ref _) _) _ _ _)); (fail_if_success (with_reducible show wpAny _ _ (eval (Expr.ListComp _ _ _ _) _) _ _ _)); (fail_if_success (with_reducible show wpAny _ _ (exec (Stmt.Assign _ (Expr.ListComp _ _ _ _) _) _) _ _ _)); (first | ((with_reducible show wpAny _ _ (eval (Expr.Name _ _) (compEnvC _ _ _ _)) _ _ _); k_dflt (first | (refine' nmL ?qk1Z ?qk2Z ?_ ?qk3Z ?qk4Z ?qk5Z; (case qk3Z => rfl); (case qk4Z => rfl); (case qk5Z => decide); (case qk1Z => k_asm); (case qk2Z => rfl); k_whole) | (refine' nmC ?qk1Z ?qk2Z ?qk6Z ?_ ?qk3Z ?qk4Z ?qk5Z; (case qk3Z => rfl); (case qk4Z => rfl); (case qk5Z => decide); (case qk6Z => rfl); (case qk1Z => assumption); (case qk2Z => assumption); k_whole) | (refine' nmG ?qk1Z ?qk2Z ?_ ?qk6Z ?qk3Z ?qk4Z ?qk5Z; (case qk3Z => rfl); (case qk4Z => rfl); (case qk5Z => decide); (case qk6Z => rfl); (case qk1Z => assumption); (case qk2Z => k_is); k_whole) | (refine' nmB ?qk1Z ?qk2Z ?qk7Z ?qk8Z ?_ ?qk6Z ?qk9Z ?qk3Z ?qk4Z ?qk5Z; (case qk3Z => rfl); (case qk4Z => rfl); (case qk5Z => decide); (case qk6Z => rfl); (case qk9Z => rfl); (case qk1Z => assumption); (case qk2Z => k_is); (case qk7Z => boot_fast); (case qk8Z => decide); k_whole))) | (with_reducible (((with_reducible show wpAny _ _ (newTuple _) _ _ _); (k_here; refine newTuple_L (by k_asm) (by k_asm) ?_ (Nat.le_of_ble_eq_true rfl); intro a9 h9 F9 N9 f9 k9; (try dsimp only))))) | (with_reducible (((with_reducible show wpAny _ _ (execs (Stmt.Assign _ _ _ :: _) _) _ _ _); refine wpAny_execs_cons ?_))) | (with_reducible (((with_reducible show TurnE _ _ _ _ _ _ _ _ _ _ _ _ _ _ _); dsimp only [TurnE]))) | (with_reducible ((k_here; (with_reducible show wpAny _ _ (call (Value.builtin "len") [Value.ref _]) _ _ _); refine len_tup_ints (IsTup.keeps (by assumption) (Fr.keep (by k_asm))) (by assumption) (by assumption) ?_))) | walk1); all_goals (try dsimp only)) | dsimp only))
  exact next _ _ F2 (News.pick N2 (.head _) News.nil) (rest_sub R N2 fun p hp => .tail _ hp)
end
theorem open_rest2 {H h : Heap} {L : Addr} {ps : Array Value} (N : News H L h [(82, tabObj ps)]) : ∃ rest, News H L h ((82, tabObj ps) :: rest) ∧ RestIn (Dg H L h) rest ∧ ∀ p ∈ rest, p.1 ≠ 82 := by
  refine ⟨others H h [L, 82], fun p hp => ?_, ⟨fun b o e => mem_others.mpr e⟩, fun p hp q => ?_⟩
  · rcases List.mem_cons.mp hp with rfl | hp
    · exact N _ (.head _)
    · exact news_others [82] p hp
  · exact (nw_get.mp (mem_others.mp hp)).2.1 (q ▸ .tail _ (.head _))
theorem dg_hide {H h : Heap} {L : Addr} : Sub (Dg H L h) (h.hide 82) := fun b o e => by
  obtain ⟨e1, e2, _⟩ := nw_get.mp e
  have hb : b ≠ 82 := fun q => e2 (by rw [q]; exact .tail _ (.head _))
  rw [Heap.hide_ne _ hb]
  exact e1
noncomputable def wordsOf (vs : List (Int × Int × Int)) : Str := if vs.length > 1 then Str.ofString "at tab sizes " else Str.ofString "at tab size "
section
variable {prog : Program} {w : World} {s : Shared} {H : Heap} {L fa : Addr} {cd : Value} {ab : Addr} {ps : Array Value} {u : Str → Option Value} {Q : Flow → Shared → Prop} {i jj : Nat} {t1 t2 : Tok} {mk co te : Addr} {vs : List (Int × Int × Int)}
set_option maxHeartbeats 4000000 in
theorem in_7 (G : Gd w.params H) (hsz : vs.length ≤ 20)
    (F : Fr H L s.heap (kstB u [(Str.ofString "k", .int i t1), (Str.ofString "j", .int jj t2), (Str.ofString "marks", .ref mk), (Str.ofString "columns", .ref co), (Str.ofString "tells", .ref te), (Str.ofString "above", .ref ab)]))
    (N : News H L s.heap [(82, tabObj ps)]) (hab : Rd (Dg H L s.heap) (.ref ab) (.list (vs.map tri)))
    (next : ∀ h tk t3 u, Fr H L h (kstB u [(Str.ofString "k", .int i t1), (Str.ofString "j", .int jj t2), (Str.ofString "marks", .ref mk), (Str.ofString "columns", .ref co), (Str.ofString "tells", .ref te), (Str.ofString "above", .ref ab), (Str.ofString "words", .str (wordsOf vs) t3)]) →
      News H L h [(82, tabObj ps)] → Sub (Dg H L s.heap) (Dg H L h) →
      wpAny (model prog w) (lawA L fa cd) (execs (inBody.drop 8) (lawEnv L fa cd)) Q (fun _ _ => False) { s with heap := h, toks := tk }) :
    wpAny (model prog w) (lawA L fa cd) (execs (inBody.drop 7) (lawEnv L fa cd)) Q (fun _ _ => False) s := by
  have X := G.k
  obtain ⟨p, loose, mg, mb, TT⟩ := G.t
  obtain ⟨h, gs, dr, tk, os⟩ := s
  dsimp only at F N next hab
  obtain ⟨rest, N, R⟩ := open_rest N
  have hg := R.sub N (fun p hp => .tail _ hp)
  cases hab with | list la ra => ?_
  have hav := ra.length
  rw [List.length_map] at hav
  have la0 := isList_keeps la hg
  change wpAny _ _ (execs (_ :: _) _) _ _ _
  refine wpAny_execs_cons ?_
  iterate 9 first | k_unfold | ((with_reducible show wpAny _ _ (eval (Expr.Name _ _) (compEnvC _ _ _ _)) _ _ _); k_dflt (first | (refine' nmL ?qk1Z ?qk2Z ?_ ?qk3Z ?qk4Z ?qk5Z; (case qk3Z => rfl); (case qk4Z => rfl); (case qk5Z => decide); (case qk1Z => k_asm); (case qk2Z => rfl); k_whole) | (refine' nmC ?qk1Z ?qk2Z ?qk6Z ?_ ?qk3Z ?qk4Z ?qk5Z; (case qk3Z => rfl); (case qk4Z => rfl); (case qk5Z => decide); (case qk6Z => rfl); (case qk1Z => assumption); (case qk2Z => assumption); k_whole) | (refine' nmG ?qk1Z ?qk2Z ?_ ?qk6Z ?qk3Z ?qk4Z ?qk5Z; (case qk3Z => rfl); (case qk4Z => rfl); (case qk5Z => decide); (case qk6Z => rfl); (case qk1Z => assumption); (case qk2Z => k_is); k_whole) | (refine' nmB ?qk1Z ?qk2Z ?qk7Z ?qk8Z ?_ ?qk6Z ?qk9Z ?qk3Z ?qk4Z ?qk5Z; (case qk3Z => rfl); (case qk4Z => rfl); (case qk5Z => decide); (case qk6Z => rfl); (case qk9Z => rfl); (case qk1Z => assumption); (case qk2Z => k_is); (case qk7Z => boot_fast); (case qk8Z => decide); k_whole))) | (with_reducible (((with_reducible show wpAny _ _ (newTuple _) _ _ _); (k_here; refine newTuple_L (by k_asm) (by k_asm) ?_ (Nat.le_of_ble_eq_true rfl); intro a9 h9 F9 N9 f9 k9; (try dsimp only))))) | (with_reducible (((with_reducible show wpAny _ _ (execs (Stmt.Assign _ _ _ :: _) _) _ _ _); refine wpAny_execs_cons ?_))) | (with_reducible (((with_reducible show TurnE _ _ _ _ _ _ _ _ _ _ _ _ _ _ _); dsimp only [TurnE]))) | (with_reducible ((k_here; (with_reducible show wpAny _ _ (call (Value.builtin "len") [Value.ref _]) _ _ _); refine len_tup_ints (IsTup.keeps (by assumption) (Fr.keep (by k_asm))) (by assumption) (by assumption) ?_))) | walk1 | (dsimp only; walk1)
  refine Calls.call_len_list (s := Shared.mk _ _ _ _ _) la0 (by rw [List.size_toArray]; omega) ?_
  dsimp only
  rw [List.size_toArray, hav]
  (repeat' (first | (k_unfold; (try dsimp only)) | ((fail_if_success (with_reducible show wpAny _ _ (pyIter _) _ _ _)); (fail_if_success (with_reducible show wpAny _ _ (execs (Stmt.If _ _ _ _ :: _) _) _ _ _)); (fail_if_success (with_reducible show wpAny _ _ (execs (Stmt.Assign _ _ _ :: _) _) _ _ _)); (fail_if_success (with_reducible show wpAny _ _ (subscriptTail _ _ _ _) _ _ _)); (fail_if_success (with_reducible show wpAny _ _ (call (Value.ref _) _) _ _ _)); (fail_if_success (with_reducible show wpAny _ _ (call (Value.type _) _) _ _ _)); (fail_if_success (with_reducible show wpAny _ _ (compareOp _ (Value.ref _) _) _ _ _)); (fail_if_success (with_reducible show wpAny _ _ (eval (Expr.ListComp _ _ _ _) _) _ _ _)); (fail_if_success (with_reducible show wpAny _ _ (exec (Stmt.Assign _ (Expr.ListComp _ _ _ _) _) _) _ _ _)); (first | ((with_reducible show wpAny _ _ (eval (Expr.Name _ _) (compEnvC _ _ _ _)) _ _ _); k_dflt (first | (refine' nmL ?qk1Z ?qk2Z ?_ ?qk3Z ?qk4Z ?qk5Z; (case qk3Z => rfl); (case qk4Z => rfl); (case qk5Z => decide); (case qk1Z => k_asm); (case qk2Z => rfl); k_whole) | (refine' nmC ?qk1Z ?qk2Z ?qk6Z ?_ ?qk3Z ?qk4Z ?qk5Z; (case qk3Z => rfl); (case qk4Z => rfl); (case qk5Z => decide); (case qk6Z => rfl); (case qk1Z => assumption); (case qk2Z => assumption); k_whole) | (refine' nmG ?qk1Z ?qk2Z ?_ ?qk6Z ?qk3Z ?qk4Z ?qk5Z; (case qk3Z => rfl); (case qk4Z => rfl); (case qk5Z => decide); (case qk6Z => rfl); (case qk1Z => assumption); (case qk2Z => k_is); k_whole) | (refine' nmB ?qk1Z ?qk2Z ?qk7Z ?qk8Z ?_ ?qk6Z ?qk9Z ?qk3Z ?qk4Z ?qk5Z; (case qk3Z => rfl); (case qk4Z => rfl); (case qk5Z => decide); (case qk6Z => rfl); (case qk9Z => rfl); (case qk1Z => assumption); (case qk2Z => k_is); (case qk7Z => boot_fast); (case qk8Z => decide); k_whole))) | (with_reducible (((with_reducible show wpAny _ _ (newTuple _) _ _ _); (k_here; refine newTuple_L (by k_asm) (by k_asm) ?_ (Nat.le_of_ble_eq_true rfl); intro a9 h9 F9 N9 f9 k9; (try dsimp only))))) | (with_reducible (((with_reducible show wpAny _ _ (execs (Stmt.Assign _ _ _ :: _) _) _ _ _); refine wpAny_execs_cons ?_))) | (with_reducible (((with_reducible show TurnE _ _ _ _ _ _ _ _ _ _ _ _ _ _ _); dsimp only [TurnE]))) | (with_reducible ((k_here; (with_reducible show wpAny _ _ (call (Value.builtin "len") [Value.ref _]) _ _ _); refine len_tup_ints (IsTup.keeps (by assumption) (Fr.keep (by k_asm))) (by assumption) (by assumption) ?_))) | walk1); all_goals (try dsimp only)) | dsimp only))
  all_goals (
    rename Fr _ _ _ _ => F1
    rename News _ _ _ _ => N1
    first
      | rw [show Str.ofString "at tab sizes " = wordsOf vs from (if_pos (by omega)).symm] at F1
      | rw [show Str.ofString "at tab size " = wordsOf vs from (if_neg (by omega)).symm] at F1
    exact next _ _ _ _ (kst_fr _ F1 (List.forall_mem_cons.mpr ⟨rfl, List.forall_mem_cons.mpr ⟨rfl, List.forall_mem_cons.mpr ⟨rfl, List.forall_mem_cons.mpr ⟨rfl, List.forall_mem_cons.mpr ⟨rfl, List.forall_mem_cons.mpr ⟨rfl, List.forall_mem_cons.mpr ⟨rfl, List.forall_mem_nil _⟩⟩⟩⟩⟩⟩⟩)) (News.pick N1 (.head _) News.nil) (rest_sub R N1 fun p hp => .tail _ hp))
set_option maxHeartbeats 4000000 in
theorem in_8 {t3 : Tok} (G : Gd w.params H) (CH : CodeHd H 86 82) (BM : ∃ mg bm ob, BMod H mainGlobals mg bm ob) (htr : TriplesOk ps.toList) (hb : AllBare s.gens) (hsz : vs.length ≤ 20) (hx : ∀ x ∈ vs, 0 ≤ x.1 ∧ x.1 ≤ 100)
    (F : Fr H L s.heap (kstB u [(Str.ofString "k", .int i t1), (Str.ofString "j", .int jj t2), (Str.ofString "marks", .ref mk), (Str.ofString "columns", .ref co), (Str.ofString "tells", .ref te), (Str.ofString "above", .ref ab), (Str.ofString "words", .str (wordsOf vs) t3)]))
    (N : News H L s.heap [(82, tabObj ps)]) (hab : Rd (Dg H L s.heap) (.ref ab) (.list (vs.map tri)))
    (next : ∀ h g tk ps', AllBare g → TriplesOk ps'.toList → Fr H L h (kstB u [(Str.ofString "k", .int i t1), (Str.ofString "j", .int jj t2), (Str.ofString "marks", .ref mk), (Str.ofString "columns", .ref co), (Str.ofString "tells", .ref te), (Str.ofString "above", .ref ab), (Str.ofString "words", .str (wordsOf vs) t3)]) →
      News H L h [(82, tabObj ps')] → Sub (Dg H L s.heap) (Dg H L h) → Q .next { s with heap := h, gens := g, toks := tk }) :
    wpAny (model prog w) (lawA L fa cd) (execs (inBody.drop 8) (lawEnv L fa cd)) Q (fun _ _ => False) s := by
  have X := G.k
  obtain ⟨p, loose, mg, mb, TT⟩ := G.t
  obtain ⟨h, gs, dr, tk, os⟩ := s
  dsimp only at F N next hab hb
  obtain ⟨rest, N, R, off⟩ := open_rest2 N
  have hg := R.sub N (fun p hp => .tail _ hp)
  cases hab with | list la ra => ?_
  have hav := ra.length
  rw [List.length_map] at hav
  have h82 := (N _ (.head _)).1
  have hne : (82 : Addr) ≠ L := (N _ (.head _)).2.1
  have hH82 := (N _ (.head _)).2.2
  dsimp only at h82 hH82
  obtain ⟨mgB, bm, ob, MB⟩ := BM
  change wpAny _ _ (execs (_ :: _) _) _ _ _
  refine wpAny_execs_cons ?_
  (repeat' (first | (k_unfold; (try dsimp only)) | ((fail_if_success (with_reducible show wpAny _ _ (pyIter _) _ _ _)); (fail_if_success (with_reducible show wpAny _ _ (execs (Stmt.If _ _ _ _ :: _) _) _ _ _)); (fail_if_success (with_reducible show wpAny _ _ (execs (Stmt.Assign _ _ _ :: _) _) _ _ _)); (fail_if_success (with_reducible show wpAny _ _ (subscriptTail _ _ _ _) _ _ _)); (fail_if_success (with_reducible show wpAny _ _ (call (Value.ref _) _) _ _ _)); (fail_if_success (with_reducible show wpAny _ _ (call (Value.type _) _) _ _ _)); (fail_if_success (with_reducible show wpAny _ _ (compareOp _ (Value.ref _) _) _ _ _)); (fail_if_success (with_reducible show wpAny _ _ (eval (Expr.ListComp _ _ _ _) _) _ _ _)); (fail_if_success (with_reducible show wpAny _ _ (exec (Stmt.Assign _ (Expr.ListComp _ _ _ _) _) _) _ _ _)); (first | ((with_reducible show wpAny _ _ (eval (Expr.Name _ _) (compEnvC _ _ _ _)) _ _ _); k_dflt (first | (refine' nmL ?qk1Z ?qk2Z ?_ ?qk3Z ?qk4Z ?qk5Z; (case qk3Z => rfl); (case qk4Z => rfl); (case qk5Z => decide); (case qk1Z => k_asm); (case qk2Z => rfl); k_whole) | (refine' nmC ?qk1Z ?qk2Z ?qk6Z ?_ ?qk3Z ?qk4Z ?qk5Z; (case qk3Z => rfl); (case qk4Z => rfl); (case qk5Z => decide); (case qk6Z => rfl); (case qk1Z => assumption); (case qk2Z => assumption); k_whole) | (refine' nmG ?qk1Z ?qk2Z ?_ ?qk6Z ?qk3Z ?qk4Z ?qk5Z; (case qk3Z => rfl); (case qk4Z => rfl); (case qk5Z => decide); (case qk6Z => rfl); (case qk1Z => assumption); (case qk2Z => k_is); k_whole) | (refine' nmB ?qk1Z ?qk2Z ?qk7Z ?qk8Z ?_ ?qk6Z ?qk9Z ?qk3Z ?qk4Z ?qk5Z; (case qk3Z => rfl); (case qk4Z => rfl); (case qk5Z => decide); (case qk6Z => rfl); (case qk9Z => rfl); (case qk1Z => assumption); (case qk2Z => k_is); (case qk7Z => boot_fast); (case qk8Z => decide); k_whole))) | (with_reducible (((with_reducible show wpAny _ _ (newTuple _) _ _ _); (k_here; refine newTuple_L (by k_asm) (by k_asm) ?_ (Nat.le_of_ble_eq_true rfl); intro a9 h9 F9 N9 f9 k9; (try dsimp only))))) | (with_reducible (((with_reducible show wpAny _ _ (execs (Stmt.Assign _ _ _ :: _) _) _ _ _); refine wpAny_execs_cons ?_))) | (with_reducible (((with_reducible show TurnE _ _ _ _ _ _ _ _ _ _ _ _ _ _ _); dsimp only [TurnE]))) | (with_reducible ((k_here; (with_reducible show wpAny _ _ (call (Value.builtin "len") [Value.ref _]) _ _ _); refine len_tup_ints (IsTup.keeps (by assumption) (Fr.keep (by k_asm))) (by assumption) (by assumption) ?_))) | walk1); all_goals (try dsimp only)) | dsimp only))
  refine wk (format_spec (s := Shared.mk _ _ _ _ _) ⟨G.keeps F.keep, ⟨ps, (CH.keeps F.keep).code h82 htr, (CH.keeps F.keep).tab h82⟩, ⟨mgB, bm, ob, MB.keeps F.keep⟩⟩ hb (isList_keeps la dg_hide) (ra.keeps dg_hide) hsz hx ?_) rfl (Nat.le_of_ble_eq_true rfl) (Nat.le_of_ble_eq_true rfl)
  intro t4 h1 g1 tk1 ext pt hb1
  dsimp only at ext ⊢
  obtain ⟨ps1, hok1, htab1⟩ := pt
  have F1 : Fr H L h1 _ := ⟨F.ns.extBut ext (Ne.symm hne), fun b o e => ext b o (fun z => by rw [z, hH82] at e; cases e) (F.keep b o e), F.above⟩
  have N1 : News H L h1 ((82, tabObj ps1) :: rest) := fun p hp => by
    rcases List.mem_cons.mp hp with rfl | hp
    · exact ⟨htab1.2, hne, hH82⟩
    · exact ⟨ext _ _ (off p hp) (N p (.tail _ hp)).1, (N p (.tail _ hp)).2⟩
  have htr1 : TriplesOk ps1.toList := by
    obtain ⟨o, vs, file, tf, flags, tg, inF, text, tt, op, q1, r1, r2, r3, r4, r5, r6, q2, r7, r8, r9⟩ := hok1
    exact r8
  have hsub1 := rest_sub R N1 fun p hp => .tail _ hp
  have hg1 := R.sub N1 (fun p hp => .tail _ hp)
  clear F N hg
  (repeat' (first | (k_unfold; (try dsimp only)) | ((fail_if_success (with_reducible show wpAny _ _ (pyIter _) _ _ _)); (fail_if_success (with_reducible show wpAny _ _ (execs (Stmt.If _ _ _ _ :: _) _) _ _ _)); (fail_if_success (with_reducible show wpAny _ _ (execs (Stmt.Assign _ _ _ :: _) _) _ _ _)); (fail_if_success (with_reducible show wpAny _ _ (subscriptTail _ _ _ _) _ _ _)); (fail_if_success (with_reducible show wpAny _ _ (call (Value.ref _) _) _ _ _)); (fail_if_success (with_reducible show wpAny _ _ (call (Value.type _) _) _ _ _)); (fail_if_success (with_reducible show wpAny _ _ (compareOp _ (Value.ref _) _) _ _ _)); (fail_if_success (with_reducible show wpAny _ _ (eval (Expr.ListComp _ _ _ _) _) _ _ _)); (fail_if_success (with_reducible show wpAny _ _ (exec (Stmt.Assign _ (Expr.ListComp _ _ _ _) _) _) _ _ _)); (first | ((with_reducible show wpAny _ _ (eval (Expr.Name _ _) (compEnvC _ _ _ _)) _ _ _); k_dflt (first | (refine' nmL ?qk1Z ?qk2Z ?_ ?qk3Z ?qk4Z ?qk5Z; (case qk3Z => rfl); (case qk4Z => rfl); (case qk5Z => decide); (case qk1Z => k_asm); (case qk2Z => rfl); k_whole) | (refine' nmC ?qk1Z ?qk2Z ?qk6Z ?_ ?qk3Z ?qk4Z ?qk5Z; (case qk3Z => rfl); (case qk4Z => rfl); (case qk5Z => decide); (case qk6Z => rfl); (case qk1Z => assumption); (case qk2Z => assumption); k_whole) | (refine' nmG ?qk1Z ?qk2Z ?_ ?qk6Z ?qk3Z ?qk4Z ?qk5Z; (case qk3Z => rfl); (case qk4Z => rfl); (case qk5Z => decide); (case qk6Z => rfl); (case qk1Z => assumption); (case qk2Z => k_is); k_whole) | (refine' nmB ?qk1Z ?qk2Z ?qk7Z ?qk8Z ?_ ?qk6Z ?qk9Z ?qk3Z ?qk4Z ?qk5Z; (case qk3Z => rfl); (case qk4Z => rfl); (case qk5Z => decide); (case qk6Z => rfl); (case qk9Z => rfl); (case qk1Z => assumption); (case qk2Z => k_is); (case qk7Z => boot_fast); (case qk8Z => decide); k_whole))) | (with_reducible (((with_reducible show wpAny _ _ (newTuple _) _ _ _); (k_here; refine newTuple_L (by k_asm) (by k_asm) ?_ (Nat.le_of_ble_eq_true rfl); intro a9 h9 F9 N9 f9 k9; (try dsimp only))))) | (with_reducible (((with_reducible show wpAny _ _ (execs (Stmt.Assign _ _ _ :: _) _) _ _ _); refine wpAny_execs_cons ?_))) | (with_reducible (((with_reducible show TurnE _ _ _ _ _ _ _ _ _ _ _ _ _ _ _); dsimp only [TurnE]))) | (with_reducible ((k_here; (with_reducible show wpAny _ _ (call (Value.builtin "len") [Value.ref _]) _ _ _); refine len_tup_ints (IsTup.keeps (by assumption) (Fr.keep (by k_asm))) (by assumption) (by assumption) ?_))) | walk1); all_goals (try dsimp only)) | dsimp only))
  refine' lcEval (cl := []) ?clos ?cell ?kind ?names ?hx ?h ?hs
  case clos => with_unfolding_all rfl
  case cell => decide
  case kind => rfl
  case names => decide
  case hx => rfl
  case hs => intro _; with_unfolding_all rfl
  (repeat' (first | (k_unfold; (try dsimp only)) | ((fail_if_success (with_reducible show wpAny _ _ (pyIter _) _ _ _)); (fail_if_success (with_reducible show wpAny _ _ (execs (Stmt.If _ _ _ _ :: _) _) _ _ _)); (fail_if_success (with_reducible show wpAny _ _ (execs (Stmt.Assign _ _ _ :: _) _) _ _ _)); (fail_if_success (with_reducible show wpAny _ _ (subscriptTail _ _ _ _) _ _ _)); (fail_if_success (with_reducible show wpAny _ _ (call (Value.ref _) _) _ _ _)); (fail_if_success (with_reducible show wpAny _ _ (call (Value.type _) _) _ _ _)); (fail_if_success (with_reducible show wpAny _ _ (compareOp _ (Value.ref _) _) _ _ _)); (fail_if_success (with_reducible show wpAny _ _ (eval (Expr.ListComp _ _ _ _) _) _ _ _)); (fail_if_success (with_reducible show wpAny _ _ (exec (Stmt.Assign _ (Expr.ListComp _ _ _ _) _) _) _ _ _)); (first | ((with_reducible show wpAny _ _ (eval (Expr.Name _ _) (compEnvC _ _ _ _)) _ _ _); k_dflt (first | (refine' nmL ?qk1Z ?qk2Z ?_ ?qk3Z ?qk4Z ?qk5Z; (case qk3Z => rfl); (case qk4Z => rfl); (case qk5Z => decide); (case qk1Z => k_asm); (case qk2Z => rfl); k_whole) | (refine' nmC ?qk1Z ?qk2Z ?qk6Z ?_ ?qk3Z ?qk4Z ?qk5Z; (case qk3Z => rfl); (case qk4Z => rfl); (case qk5Z => decide); (case qk6Z => rfl); (case qk1Z => assumption); (case qk2Z => assumption); k_whole) | (refine' nmG ?qk1Z ?qk2Z ?_ ?qk6Z ?qk3Z ?qk4Z ?qk5Z; (case qk3Z => rfl); (case qk4Z => rfl); (case qk5Z => decide); (case qk6Z => rfl); (case qk1Z => assumption); (case qk2Z => k_is); k_whole) | (refine' nmB ?qk1Z ?qk2Z ?qk7Z ?qk8Z ?_ ?qk6Z ?qk9Z ?qk3Z ?qk4Z ?qk5Z; (case qk3Z => rfl); (case qk4Z => rfl); (case qk5Z => decide); (case qk6Z => rfl); (case qk9Z => rfl); (case qk1Z => assumption); (case qk2Z => k_is); (case qk7Z => boot_fast); (case qk8Z => decide); k_whole))) | (with_reducible (((with_reducible show wpAny _ _ (newTuple _) _ _ _); (k_here; refine newTuple_L (by k_asm) (by k_asm) ?_ (Nat.le_of_ble_eq_true rfl); intro a9 h9 F9 N9 f9 k9; (try dsimp only))))) | (with_reducible (((with_reducible show wpAny _ _ (execs (Stmt.Assign _ _ _ :: _) _) _ _ _); refine wpAny_execs_cons ?_))) | (with_reducible (((with_reducible show TurnE _ _ _ _ _ _ _ _ _ _ _ _ _ _ _); dsimp only [TurnE]))) | (with_reducible ((k_here; (with_reducible show wpAny _ _ (call (Value.builtin "len") [Value.ref _]) _ _ _); refine len_tup_ints (IsTup.keeps (by assumption) (Fr.keep (by k_asm))) (by assumption) (by assumption) ?_))) | walk1); all_goals (try dsimp only)) | dsimp only))
  refine src_list rfl (isList_keeps la hg1) ?_
  intro it s₂ hsrc
  refine ⟨_, _, _, fun i ys _ => StrsAre ys ((vs.map fun x => Str.ofString (toString x.1)).take i), hsrc, (by omega), (fun _ _ _ _ h _ => h), (fun _ => .nil), LcTurn.plain ?turn, ?done⟩
  case turn =>
    intro C X' j v ys s₃ m₃ E' hX hi' hv hy hR F' N'
    obtain ⟨e, he, re⟩ := RdAll.mapRd ra j v hv
    have hxe := hx e (List.mem_of_getElem? he)
    have re3 : Rd s₃.heap v (tri e) := re.keeps fun b o z => F'.keep b o (hg1 b o z)
    have G3 : Gd w.params s₃.heap := G.keeps fun b o z => F'.keep b o (F1.keep b o z)
    clear F1 N1
    (repeat' (first | (k_unfold; (try dsimp only)) | ((fail_if_success (with_reducible show wpAny _ _ (pyIter _) _ _ _)); (fail_if_success (with_reducible show wpAny _ _ (execs (Stmt.If _ _ _ _ :: _) _) _ _ _)); (fail_if_success (with_reducible show wpAny _ _ (execs (Stmt.Assign _ _ _ :: _) _) _ _ _)); (fail_if_success (with_reducible show wpAny _ _ (subscriptTail _ _ _ _) _ _ _)); (fail_if_success (with_reducible show wpAny _ _ (call (Value.ref _) _) _ _ _)); (fail_if_success (with_reducible show wpAny _ _ (call (Value.type _) _) _ _ _)); (fail_if_success (with_reducible show wpAny _ _ (compareOp _ (Value.ref _) _) _ _ _)); (fail_if_success (with_reducible show wpAny _ _ (eval (Expr.ListComp _ _ _ _) _) _ _ _)); (fail_if_success (with_reducible show wpAny _ _ (exec (Stmt.Assign _ (Expr.ListComp _ _ _ _) _) _) _ _ _)); (first | ((with_reducible show wpAny _ _ (eval (Expr.Name _ _) (compEnvC _ _ _ _)) _ _ _); k_dflt (first | (refine' nmL ?qk1Z ?qk2Z ?_ ?qk3Z ?qk4Z ?qk5Z; (case qk3Z => rfl); (case qk4Z => rfl); (case qk5Z => decide); (case qk1Z => k_asm); (case qk2Z => rfl); k_whole) | (refine' nmC ?qk1Z ?qk2Z ?qk6Z ?_ ?qk3Z ?qk4Z ?qk5Z; (case qk3Z => rfl); (case qk4Z => rfl); (case qk5Z => decide); (case qk6Z => rfl); (case qk1Z => assumption); (case qk2Z => assumption); k_whole) | (refine' nmG ?qk1Z ?qk2Z ?_ ?qk6Z ?qk3Z ?qk4Z ?qk5Z; (case qk3Z => rfl); (case qk4Z => rfl); (case qk5Z => decide); (case qk6Z => rfl); (case qk1Z => assumption); (case qk2Z => k_is); k_whole) | (refine' nmB ?qk1Z ?qk2Z ?qk7Z ?qk8Z ?_ ?qk6Z ?qk9Z ?qk3Z ?qk4Z ?qk5Z; (case qk3Z => rfl); (case qk4Z => rfl); (case qk5Z => decide); (case qk6Z => rfl); (case qk9Z => rfl); (case qk1Z => assumption); (case qk2Z => k_is); (case qk7Z => boot_fast); (case qk8Z => decide); k_whole))) | (with_reducible (((with_reducible show wpAny _ _ (newTuple _) _ _ _); (k_here; refine newTuple_L (by k_asm) (by k_asm) ?_ (Nat.le_of_ble_eq_true rfl); intro a9 h9 F9 N9 f9 k9; (try dsimp only))))) | (with_reducible (((with_reducible show wpAny _ _ (execs (Stmt.Assign _ _ _ :: _) _) _ _ _); refine wpAny_execs_cons ?_))) | (with_reducible (((with_reducible show TurnE _ _ _ _ _ _ _ _ _ _ _ _ _ _ _); dsimp only [TurnE]))) | (with_reducible ((k_here; (with_reducible show wpAny _ _ (call (Value.builtin "len") [Value.ref _]) _ _ _); refine len_tup_ints (IsTup.keeps (by assumption) (Fr.keep (by k_asm))) (by assumption) (by assumption) ?_))) | walk1); all_goals (try dsimp only)) | dsimp only))
    refine itemT re3 (by decide) (by decide) rfl ?_ (fun a => by with_unfolding_all rfl)
    intro v1 r1
    cases r1
    (repeat' (first | (k_unfold; (try dsimp only)) | ((fail_if_success (with_reducible show wpAny _ _ (pyIter _) _ _ _)); (fail_if_success (with_reducible show wpAny _ _ (execs (Stmt.If _ _ _ _ :: _) _) _ _ _)); (fail_if_success (with_reducible show wpAny _ _ (execs (Stmt.Assign _ _ _ :: _) _) _ _ _)); (fail_if_success (with_reducible show wpAny _ _ (subscriptTail _ _ _ _) _ _ _)); (fail_if_success (with_reducible show wpAny _ _ (call (Value.ref _) _) _ _ _)); (fail_if_success (with_reducible show wpAny _ _ (call (Value.type _) _) _ _ _)); (fail_if_success (with_reducible show wpAny _ _ (compareOp _ (Value.ref _) _) _ _ _)); (fail_if_success (with_reducible show wpAny _ _ (eval (Expr.ListComp _ _ _ _) _) _ _ _)); (fail_if_success (with_reducible show wpAny _ _ (exec (Stmt.Assign _ (Expr.ListComp _ _ _ _) _) _) _ _ _)); (first | ((with_reducible show wpAny _ _ (eval (Expr.Name _ _) (compEnvC _ _ _ _)) _ _ _); k_dflt (first | (refine' nmL ?qk1Z ?qk2Z ?_ ?qk3Z ?qk4Z ?qk5Z; (case qk3Z => rfl); (case qk4Z => rfl); (case qk5Z => decide); (case qk1Z => k_asm); (case qk2Z => rfl); k_whole) | (refine' nmC ?qk1Z ?qk2Z ?qk6Z ?_ ?qk3Z ?qk4Z ?qk5Z; (case qk3Z => rfl); (case qk4Z => rfl); (case qk5Z => decide); (case qk6Z => rfl); (case qk1Z => assumption); (case qk2Z => assumption); k_whole) | (refine' nmG ?qk1Z ?qk2Z ?_ ?qk6Z ?qk3Z ?qk4Z ?qk5Z; (case qk3Z => rfl); (case qk4Z => rfl); (case qk5Z => decide); (case qk6Z => rfl); (case qk1Z => assumption); (case qk2Z => k_is); k_whole) | (refine' nmB ?qk1Z ?qk2Z ?qk7Z ?qk8Z ?_ ?qk6Z ?qk9Z ?qk3Z ?qk4Z ?qk5Z; (case qk3Z => rfl); (case qk4Z => rfl); (case qk5Z => decide); (case qk6Z => rfl); (case qk9Z => rfl); (case qk1Z => assumption); (case qk2Z => k_is); (case qk7Z => boot_fast); (case qk8Z => decide); k_whole))) | (with_reducible (((with_reducible show wpAny _ _ (newTuple _) _ _ _); (k_here; refine newTuple_L (by k_asm) (by k_asm) ?_ (Nat.le_of_ble_eq_true rfl); intro a9 h9 F9 N9 f9 k9; (try dsimp only))))) | (with_reducible (((with_reducible show wpAny _ _ (execs (Stmt.Assign _ _ _ :: _) _) _ _ _); refine wpAny_execs_cons ?_))) | (with_reducible (((with_reducible show TurnE _ _ _ _ _ _ _ _ _ _ _ _ _ _ _); dsimp only [TurnE]))) | (with_reducible ((k_here; (with_reducible show wpAny _ _ (call (Value.builtin "len") [Value.ref _]) _ _ _); refine len_tup_ints (IsTup.keeps (by assumption) (Fr.keep (by k_asm))) (by assumption) (by assumption) ?_))) | walk1); all_goals (try dsimp only)) | dsimp only))
    refine str_S (s := Shared.mk _ _ _ _ _) (by omega) (by omega) ?_
    intro t5 k5
    refine ⟨⟨_, _, rfl, fun _ _ e => e⟩, ?_⟩
    rw [take_snoc (a := Str.ofString (toString e.1)) (by rw [List.getElem?_map, he]; rfl)]
    exact strs_snoc hR
  case done =>
    intro D h3 tk3 ys hD hl3 hR3 k3
    obtain ⟨nn, hl3⟩ := hl3
    have F3 := Fr.keeps F1 k3
    have N3 := add_news F1 (News.grown N1 k3) hD hl3
    clear F1 N1
    rw [List.take_of_length_le (by rw [List.length_map]; omega)] at hR3
    dsimp only
    (repeat' (first | (k_unfold; (try dsimp only)) | ((fail_if_success (with_reducible show wpAny _ _ (pyIter _) _ _ _)); (fail_if_success (with_reducible show wpAny _ _ (execs (Stmt.If _ _ _ _ :: _) _) _ _ _)); (fail_if_success (with_reducible show wpAny _ _ (execs (Stmt.Assign _ _ _ :: _) _) _ _ _)); (fail_if_success (with_reducible show wpAny _ _ (subscriptTail _ _ _ _) _ _ _)); (fail_if_success (with_reducible show wpAny _ _ (call (Value.ref _) _) _ _ _)); (fail_if_success (with_reducible show wpAny _ _ (call (Value.type _) _) _ _ _)); (fail_if_success (with_reducible show wpAny _ _ (compareOp _ (Value.ref _) _) _ _ _)); (fail_if_success (with_reducible show wpAny _ _ (eval (Expr.ListComp _ _ _ _) _) _ _ _)); (fail_if_success (with_reducible show wpAny _ _ (exec (Stmt.Assign _ (Expr.ListComp _ _ _ _) _) _) _ _ _)); (first | ((with_reducible show wpAny _ _ (eval (Expr.Name _ _) (compEnvC _ _ _ _)) _ _ _); k_dflt (first | (refine' nmL ?qk1Z ?qk2Z ?_ ?qk3Z ?qk4Z ?qk5Z; (case qk3Z => rfl); (case qk4Z => rfl); (case qk5Z => decide); (case qk1Z => k_asm); (case qk2Z => rfl); k_whole) | (refine' nmC ?qk1Z ?qk2Z ?qk6Z ?_ ?qk3Z ?qk4Z ?qk5Z; (case qk3Z => rfl); (case qk4Z => rfl); (case qk5Z => decide); (case qk6Z => rfl); (case qk1Z => assumption); (case qk2Z => assumption); k_whole) | (refine' nmG ?qk1Z ?qk2Z ?_ ?qk6Z ?qk3Z ?qk4Z ?qk5Z; (case qk3Z => rfl); (case qk4Z => rfl); (case qk5Z => decide); (case qk6Z => rfl); (case qk1Z => assumption); (case qk2Z => k_is); k_whole) | (refine' nmB ?qk1Z ?qk2Z ?qk7Z ?qk8Z ?_ ?qk6Z ?qk9Z ?qk3Z ?qk4Z ?qk5Z; (case qk3Z => rfl); (case qk4Z => rfl); (case qk5Z => decide); (case qk6Z => rfl); (case qk9Z => rfl); (case qk1Z => assumption); (case qk2Z => k_is); (case qk7Z => boot_fast); (case qk8Z => decide); k_whole))) | (with_reducible (((with_reducible show wpAny _ _ (newTuple _) _ _ _); (k_here; refine newTuple_L (by k_asm) (by k_asm) ?_ (Nat.le_of_ble_eq_true rfl); intro a9 h9 F9 N9 f9 k9; (try dsimp only))))) | (with_reducible (((with_reducible show wpAny _ _ (execs (Stmt.Assign _ _ _ :: _) _) _ _ _); refine wpAny_execs_cons ?_))) | (with_reducible (((with_reducible show TurnE _ _ _ _ _ _ _ _ _ _ _ _ _ _ _); dsimp only [TurnE]))) | (with_reducible ((k_here; (with_reducible show wpAny _ _ (call (Value.builtin "len") [Value.ref _]) _ _ _); refine len_tup_ints (IsTup.keeps (by assumption) (Fr.keep (by k_asm))) (by assumption) (by assumption) ?_))) | walk1); all_goals (try dsimp only)) | dsimp only))
    refine join_S (s := Shared.mk _ _ _ _ _) ⟨_, hl3, rfl, _, rfl⟩ hR3 ?_ ?_
    · have h1 := sum_le (l := (vs.map fun x => Str.ofString (toString x.1)).map (·.length)) (B := 102) fun k hk => by
        obtain ⟨y, hy, rfl⟩ := List.mem_map.mp hk
        obtain ⟨x, hx', rfl⟩ := List.mem_map.mp hy
        exact str_len_le (hx x hx').1 (hx x hx').2
      simp only [List.length_map] at h1 ⊢
      rw [show (Str.ofString ", ").length = 2 from by decide +kernel]
      omega
    intro t5 k5
    have hfl := fmt_len hsz hx
    have hwl : (wordsOf vs).cps.toList.length ≤ 100 := by
      unfold wordsOf
      split
      · exact Nat.le_of_ble_eq_true (by decide +kernel)
      · exact Nat.le_of_ble_eq_true (by decide +kernel)
    refine add_S (by omega) ?_
    intro t6 k6
    have e : fmtOf vs = Mine.T ((wordsOf vs).cps.toList ++ (Str.join (Str.ofString ", ") (vs.map fun x => Str.ofString (toString x.1))).cps.toList) := rfl
    rw [← e]
    dsimp only
    (repeat' (first | (k_unfold; (try dsimp only)) | ((fail_if_success (with_reducible show wpAny _ _ (pyIter _) _ _ _)); (fail_if_success (with_reducible show wpAny _ _ (execs (Stmt.If _ _ _ _ :: _) _) _ _ _)); (fail_if_success (with_reducible show wpAny _ _ (execs (Stmt.Assign _ _ _ :: _) _) _ _ _)); (fail_if_success (with_reducible show wpAny _ _ (subscriptTail _ _ _ _) _ _ _)); (fail_if_success (with_reducible show wpAny _ _ (call (Value.ref _) _) _ _ _)); (fail_if_success (with_reducible show wpAny _ _ (call (Value.type _) _) _ _ _)); (fail_if_success (with_reducible show wpAny _ _ (compareOp _ (Value.ref _) _) _ _ _)); (fail_if_success (with_reducible show wpAny _ _ (eval (Expr.ListComp _ _ _ _) _) _ _ _)); (fail_if_success (with_reducible show wpAny _ _ (exec (Stmt.Assign _ (Expr.ListComp _ _ _ _) _) _) _ _ _)); (first | ((with_reducible show wpAny _ _ (eval (Expr.Name _ _) (compEnvC _ _ _ _)) _ _ _); k_dflt (first | (refine' nmL ?qk1Z ?qk2Z ?_ ?qk3Z ?qk4Z ?qk5Z; (case qk3Z => rfl); (case qk4Z => rfl); (case qk5Z => decide); (case qk1Z => k_asm); (case qk2Z => rfl); k_whole) | (refine' nmC ?qk1Z ?qk2Z ?qk6Z ?_ ?qk3Z ?qk4Z ?qk5Z; (case qk3Z => rfl); (case qk4Z => rfl); (case qk5Z => decide); (case qk6Z => rfl); (case qk1Z => assumption); (case qk2Z => assumption); k_whole) | (refine' nmG ?qk1Z ?qk2Z ?_ ?qk6Z ?qk3Z ?qk4Z ?qk5Z; (case qk3Z => rfl); (case qk4Z => rfl); (case qk5Z => decide); (case qk6Z => rfl); (case qk1Z => assumption); (case qk2Z => k_is); k_whole) | (refine' nmB ?qk1Z ?qk2Z ?qk7Z ?qk8Z ?_ ?qk6Z ?qk9Z ?qk3Z ?qk4Z ?qk5Z; (case qk3Z => rfl); (case qk4Z => rfl); (case qk5Z => decide); (case qk6Z => rfl); (case qk9Z => rfl); (case qk1Z => assumption); (case qk2Z => k_is); (case qk7Z => boot_fast); (case qk8Z => decide); k_whole))) | (with_reducible (((with_reducible show wpAny _ _ (newTuple _) _ _ _); (k_here; refine newTuple_L (by k_asm) (by k_asm) ?_ (Nat.le_of_ble_eq_true rfl); intro a9 h9 F9 N9 f9 k9; (try dsimp only))))) | (with_reducible (((with_reducible show wpAny _ _ (execs (Stmt.Assign _ _ _ :: _) _) _ _ _); refine wpAny_execs_cons ?_))) | (with_reducible (((with_reducible show TurnE _ _ _ _ _ _ _ _ _ _ _ _ _ _ _); dsimp only [TurnE]))) | (with_reducible ((k_here; (with_reducible show wpAny _ _ (call (Value.builtin "len") [Value.ref _]) _ _ _); refine len_tup_ints (IsTup.keeps (by assumption) (Fr.keep (by k_asm))) (by assumption) (by assumption) ?_))) | walk1); all_goals (try dsimp only)) | dsimp only))
    · rename (_ != _) = true => e9
      exact absurd e9 (by simp)
    · exact next _ _ _ _ hb1 htr1 F3 (News.pick N3 (.tail _ (.head _)) News.nil) (rest_sub R N3 fun p hp => .tail _ (.tail _ hp))
end
/- what is asked of two texts -/
structure Pair (l l' : List Nat) (zs : List Int) : Prop where
  top : -1 ≤ topOf (runsOf l) ∧ topOf (runsOf l) ≤ 1000 ∧ -1 ≤ topOf (runsOf l') ∧ topOf (runsOf l') ≤ 1000
  eq : (cntOf (aheadOf l) = cntOf (aheadOf l') ∧ lastOf l = lastOf l') ↔ colD zs l = colD zs l'
  less : LessC l l' ↔ ((metOf zs l l').map lss).all id = true
  un : wit (lvl (cntOf (aheadOf l)) (lastOf l) (aheadOf l).length) (lvl (cntOf (aheadOf l')) (lastOf l') (aheadOf l').length) (fun p q => p != q) (upTo l l') = (((metOf zs l l').take (mostOf l l').toNat).filter uneq).map tri
  ab : wit (lvl (cntOf (aheadOf l)) (lastOf l) (aheadOf l).length) (lvl (cntOf (aheadOf l')) (lastOf l') (aheadOf l').length) (fun p q => decide (p ≥ q)) (upTo l l') = (((metOf zs l l').take (mostOf l l').toNat).filter geq).map tri
  few : (((metOf zs l l').take (mostOf l l').toNat).filter geq).length ≤ 20
  small : ∀ x ∈ ((metOf zs l l').take (mostOf l l').toNat).filter geq, 0 ≤ x.1 ∧ x.1 ≤ 100
section
variable {prog : Program} {w : World} {s : Shared} {H : Heap} {L fa : Addr} {cd : Value} {tx sz mk co te : Addr} {ts : List (List Nat)} {zs : List Int} {ps : Array Value} {u : Str → Option Value} {Q : Flow → Shared → Prop} {i jj : Nat} {l l' : List Nat} {t1 t2 : Tok}
theorem in_all (G : Gd w.params H) (CH : CodeHd H 86 82) (BM : ∃ mg bm ob, BMod H mainGlobals mg bm ob) (htr : TriplesOk ps.toList) (hb : AllBare s.gens) (hz1 : 1 ≤ zs.length) (hzl : zs.length ≤ 100) (hi : i < 7) (hj : jj < 7) (hl : ts[i]? = some l) (hl' : ts[jj]? = some l') (P : Pair l l' zs)
    (F : Fr H L s.heap (kstB u [(Str.ofString "k", .int i t1), (Str.ofString "j", .int jj t2), (Str.ofString "marks", .ref mk), (Str.ofString "columns", .ref co), (Str.ofString "tells", .ref te)]))
    (N : News H L s.heap [(82, tabObj ps)]) (M : Made (Dg H L s.heap) L tx sz mk co te ts zs)
    (next : ∀ h g tk ps' m, AllBare g → TriplesOk ps'.toList → Fr H L h m → (∀ p ∈ [(Str.ofString "k", Value.int i t1), (Str.ofString "marks", .ref mk), (Str.ofString "columns", .ref co), (Str.ofString "tells", .ref te)], m p.1 = some p.2) →
      News H L h [(82, tabObj ps')] → Sub (Dg H L s.heap) (Dg H L h) → Q .next { s with heap := h, gens := g, toks := tk }) :
    wpAny (model prog w) (lawA L fa cd) (execs inBody (lawEnv L fa cd)) Q (fun _ _ => False) s := by
  have hml : (metOf zs l l').length ≤ 100 := by rw [metOf, List.length_map]; exact hzl
  have hmo : 0 ≤ mostOf l l' := by have := P.top; unfold mostOf; omega
  refine in_0 G hz1 hzl hi hj hl hl' P.top F N M fun h1 tk1 me t3 u1 F1 N1 k1 r1 => ?_
  refine in_2 (s := { s with heap := h1, toks := tk1 }) G hml hmo F1 N1 r1 fun h2 tk2 un u2 F2 N2 k2 r2 => ?_
  have r1 := r1.keeps k2
  refine in_3 (s := { s with heap := h2, toks := tk2 }) G hml hmo F2 N2 r1 fun h3 tk3 ab u3 F3 N3 k3 r3 => ?_
  have k13 : Sub (Dg H L s.heap) (Dg H L h3) := (k1.trans k2).trans k3
  refine in_4 (s := { s with heap := h3, toks := tk3 }) G hi hj hl hl' P.eq F3 N3 (M.keeps k13) fun h4 tk4 F4 N4 k4 => ?_
  refine in_5 (s := { s with heap := h4, toks := tk4 }) G hi hj hl hl' hml P.less F4 N4 (M.keeps (k13.trans k4)) (r1.keeps (k3.trans k4)) fun h5 tk5 F5 N5 k5 => ?_
  have k35 : Sub (Dg H L h3) (Dg H L h5) := k4.trans k5
  refine in_6 (s := { s with heap := h5, toks := tk5 }) G hi hj hl hl' P.un P.ab F5 N5 (M.keeps (k13.trans k35)) (r2.keeps (k3.trans k35)) (r3.keeps k35) fun h6 tk6 F6 N6 k6 => ?_
  have F6' := kst_fr [(Str.ofString "k", .int i t1), (Str.ofString "j", .int jj t2), (Str.ofString "marks", .ref mk), (Str.ofString "columns", .ref co), (Str.ofString "tells", .ref te), (Str.ofString "above", .ref ab)] F6 (List.forall_mem_cons.mpr ⟨rfl, List.forall_mem_cons.mpr ⟨rfl, List.forall_mem_cons.mpr ⟨rfl, List.forall_mem_cons.mpr ⟨rfl, List.forall_mem_cons.mpr ⟨rfl, List.forall_mem_cons.mpr ⟨rfl, List.forall_mem_nil _⟩⟩⟩⟩⟩⟩)
  have k36 := k35.trans k6
  refine in_7 (s := { s with heap := h6, toks := tk6 }) G P.few F6' N6 (r3.keeps k36) fun h7 tk7 t7 u7 F7 N7 k7 => ?_
  refine in_8 (s := { s with heap := h7, toks := tk7 }) G CH BM htr hb P.few P.small F7 N7 (r3.keeps (k36.trans k7)) fun h8 g8 tk8 ps8 hb8 htr8 F8 N8 k8 => ?_
  exact next h8 g8 tk8 ps8 _ hb8 htr8 F8 (List.forall_mem_cons.mpr ⟨rfl, List.forall_mem_cons.mpr ⟨rfl, List.forall_mem_cons.mpr ⟨rfl, List.forall_mem_cons.mpr ⟨rfl, List.forall_mem_nil _⟩⟩⟩⟩) N8 (((k13.trans k36).trans k7).trans k8)
end
end
section
theorem news_of_sub {H h h' : Heap} {L : Addr} {o o' : Obj} {rest : List (Addr × Obj)} (N : News H L h ((82, o) :: rest)) (ho : ∀ p ∈ rest, p.1 ≠ 82) (k : Sub (Dg H L h) (Dg H L h')) (N' : News H L h' [(82, o')]) : News H L h' ((82, o') :: rest) := fun p hp => by
  rcases List.mem_cons.mp hp with rfl | hp
  · exact N' _ (.head _)
  · have e := N p (.tail _ hp)
    have q := nw_get.mp (k p.1 p.2 (nw_get.mpr ⟨e.1, fun hm => by
      rcases List.mem_cons.mp hm with z | z
      · exact e.2.1 z
      · exact ho p hp (List.mem_singleton.mp z), e.2.2⟩))
    exact ⟨q.1, e.2⟩
section
variable {prog : Program} {w : World} {s : Shared} {H : Heap} {L fa : Addr} {cd : Value} {tx sz mk co te : Addr} {ts : List (List Nat)} {zs : List Int} {ps : Array Value} {u : Str → Option Value} {Q : Flow → Shared → Prop} {i : Nat} {l : List Nat} {t1 : Tok}
set_option maxHeartbeats 4000000 in
/- the inner loop -/
theorem law_in (G : Gd w.params H) (CH : CodeHd H 86 82) (BM : ∃ mg bm ob, BMod H mainGlobals mg bm ob) (htr : TriplesOk ps.toList) (hb : AllBare s.gens) (htl : ts.length = 7) (hz1 : 1 ≤ zs.length) (hzl : zs.length ≤ 100) (hi : i < 7) (hl : ts[i]? = some l) (hpair : ∀ l' ∈ ts, Pair l l' zs)
    (F : Fr H L s.heap (kstB u [(Str.ofString "k", .int i t1), (Str.ofString "marks", .ref mk), (Str.ofString "columns", .ref co), (Str.ofString "tells", .ref te)]))
    (N : News H L s.heap [(82, tabObj ps)]) (M : Made (Dg H L s.heap) L tx sz mk co te ts zs)
    (next : ∀ h g tk ps' m, AllBare g → TriplesOk ps'.toList → Fr H L h m → (∀ p ∈ [(Str.ofString "marks", Value.ref mk), (Str.ofString "columns", .ref co), (Str.ofString "tells", .ref te)], m p.1 = some p.2) →
      News H L h [(82, tabObj ps')] → Sub (Dg H L s.heap) (Dg H L h) → Q .next { s with heap := h, gens := g, toks := tk }) :
    wpAny (model prog w) (lawA L fa cd) (execs outBody (lawEnv L fa cd)) Q (fun _ _ => False) s := by
  have X := G.k
  obtain ⟨p, loose, mg, mb, TT⟩ := G.t
  obtain ⟨h, gs, dr, tk, os⟩ := s
  dsimp only at F N next M hb
  obtain ⟨rest, N, R, off⟩ := open_rest2 N
  change wpAny _ _ (execs (_ :: _) _) _ _ _
  (repeat' (first | (k_unfold; (try dsimp only)) | ((fail_if_success (with_reducible show wpAny _ _ (pyIter _) _ _ _)); (fail_if_success (with_reducible show wpAny _ _ (execs (Stmt.If _ _ _ _ :: _) _) _ _ _)); (fail_if_success (with_reducible show wpAny _ _ (execs (Stmt.Assign _ _ _ :: _) _) _ _ _)); (fail_if_success (with_reducible show wpAny _ _ (subscriptTail _ _ _ _) _ _ _)); (fail_if_success (with_reducible show wpAny _ _ (call (Value.ref _) _) _ _ _)); (fail_if_success (with_reducible show wpAny _ _ (call (Value.type _) _) _ _ _)); (fail_if_success (with_reducible show wpAny _ _ (compareOp _ (Value.ref _) _) _ _ _)); (fail_if_success (with_reducible show wpAny _ _ (eval (Expr.ListComp _ _ _ _) _) _ _ _)); (fail_if_success (with_reducible show wpAny _ _ (exec (Stmt.Assign _ (Expr.ListComp _ _ _ _) _) _) _ _ _)); (first | (with_reducible (((with_reducible show TurnEG _ _ _ _ _ _ _ _ _ _ _ _); dsimp only [TurnEG]))) | ((with_reducible show wpAny _ _ (exec (Stmt.For _ _ _ _ _) _) _ _ _); k_dflt (refine For_d ?_ (fun _ => rfl))) | ((with_reducible show wpAny _ _ (eval (Expr.Name _ _) (compEnvC _ _ _ _)) _ _ _); k_dflt (first | (refine' nmL ?qk1Z ?qk2Z ?_ ?qk3Z ?qk4Z ?qk5Z; (case qk3Z => rfl); (case qk4Z => rfl); (case qk5Z => decide); (case qk1Z => k_asm); (case qk2Z => rfl); k_whole) | (refine' nmC ?qk1Z ?qk2Z ?qk6Z ?_ ?qk3Z ?qk4Z ?qk5Z; (case qk3Z => rfl); (case qk4Z => rfl); (case qk5Z => decide); (case qk6Z => rfl); (case qk1Z => assumption); (case qk2Z => assumption); k_whole) | (refine' nmG ?qk1Z ?qk2Z ?_ ?qk6Z ?qk3Z ?qk4Z ?qk5Z; (case qk3Z => rfl); (case qk4Z => rfl); (case qk5Z => decide); (case qk6Z => rfl); (case qk1Z => assumption); (case qk2Z => k_is); k_whole) | (refine' nmB ?qk1Z ?qk2Z ?qk7Z ?qk8Z ?_ ?qk6Z ?qk9Z ?qk3Z ?qk4Z ?qk5Z; (case qk3Z => rfl); (case qk4Z => rfl); (case qk5Z => decide); (case qk6Z => rfl); (case qk9Z => rfl); (case qk1Z => assumption); (case qk2Z => k_is); (case qk7Z => boot_fast); (case qk8Z => decide); k_whole))) | (with_reducible (((with_reducible show wpAny _ _ (newTuple _) _ _ _); (k_here; refine newTuple_L (by k_asm) (by k_asm) ?_ (Nat.le_of_ble_eq_true rfl); intro a9 h9 F9 N9 f9 k9; (try dsimp only))))) | (with_reducible (((with_reducible show wpAny _ _ (execs (Stmt.Assign _ _ _ :: _) _) _ _ _); refine wpAny_execs_cons ?_))) | (with_reducible (((with_reducible show TurnE _ _ _ _ _ _ _ _ _ _ _ _ _ _ _); dsimp only [TurnE]))) | (with_reducible ((k_here; (with_reducible show wpAny _ _ (call (Value.builtin "len") [Value.ref _]) _ _ _); refine len_tup_ints (IsTup.keeps (by assumption) (Fr.keep (by k_asm))) (by assumption) (by assumption) ?_))) | walk1); all_goals (try dsimp only)) | dsimp only))
  iterate 1 first | (with_reducible (((with_reducible show TurnEG _ _ _ _ _ _ _ _ _ _ _ _); dsimp only [TurnEG]))) | ((with_reducible show wpAny _ _ (exec (Stmt.For _ _ _ _ _) _) _ _ _); k_dflt (refine For_d ?_ (fun _ => rfl))) | ((with_reducible show wpAny _ _ (eval (Expr.Name _ _) (compEnvC _ _ _ _)) _ _ _); k_dflt (first | (refine' nmL ?qk1Z ?qk2Z ?_ ?qk3Z ?qk4Z ?qk5Z; (case qk3Z => rfl); (case qk4Z => rfl); (case qk5Z => decide); (case qk1Z => k_asm); (case qk2Z => rfl); k_whole) | (refine' nmC ?qk1Z ?qk2Z ?qk6Z ?_ ?qk3Z ?qk4Z ?qk5Z; (case qk3Z => rfl); (case qk4Z => rfl); (case qk5Z => decide); (case qk6Z => rfl); (case qk1Z => assumption); (case qk2Z => assumption); k_whole) | (refine' nmG ?qk1Z ?qk2Z ?_ ?qk6Z ?qk3Z ?qk4Z ?qk5Z; (case qk3Z => rfl); (case qk4Z => rfl); (case qk5Z => decide); (case qk6Z => rfl); (case qk1Z => assumption); (case qk2Z => k_is); k_whole) | (refine' nmB ?qk1Z ?qk2Z ?qk7Z ?qk8Z ?_ ?qk6Z ?qk9Z ?qk3Z ?qk4Z ?qk5Z; (case qk3Z => rfl); (case qk4Z => rfl); (case qk5Z => decide); (case qk6Z => rfl); (case qk9Z => rfl); (case qk1Z => assumption); (case qk2Z => k_is); (case qk7Z => boot_fast); (case qk8Z => decide); k_whole))) | (with_reducible (((with_reducible show wpAny _ _ (newTuple _) _ _ _); (k_here; refine newTuple_L (by k_asm) (by k_asm) ?_ (Nat.le_of_ble_eq_true rfl); intro a9 h9 F9 N9 f9 k9; (try dsimp only))))) | (with_reducible (((with_reducible show wpAny _ _ (execs (Stmt.Assign _ _ _ :: _) _) _ _ _); refine wpAny_execs_cons ?_))) | (with_reducible (((with_reducible show TurnE _ _ _ _ _ _ _ _ _ _ _ _ _ _ _); dsimp only [TurnE]))) | (with_reducible ((k_here; (with_reducible show wpAny _ _ (call (Value.builtin "len") [Value.ref _]) _ _ _); refine len_tup_ints (IsTup.keeps (by assumption) (Fr.keep (by k_asm))) (by assumption) (by assumption) ?_))) | walk1 | (dsimp only; walk1)
  rename Fr _ _ _ _ => F1
  rename News _ _ _ _ => N1
  rename IsRange _ _ _ _ _ _ _ _ => r1
  have k1 := rest_sub R N1 fun p hp => .tail _ hp
  have hM1 := M.keeps k1
  refine' forRangeG (s := Shared.mk _ _ _ _ _) (σ := Array Value) (fun c => [(82, tabObj c)]) [(Str.ofString "k", .int i t1), (Str.ofString "marks", .ref mk), (Str.ofString "columns", .ref co), (Str.ofString "tells", .ref te)] (fun c d => Sub (Dg H L _) d ∧ TriplesOk c.toList) ps ?hks rfl r1 ?sm rfl rfl hb F1 (News.pick N1 (.head _) News.nil) (fun _ _ _ h k => ⟨h.1.trans k, h.2⟩) ⟨Sub.refl _, htr⟩ ?turn ?done
  case hks => exact List.forall_mem_cons.mpr ⟨rfl, List.forall_mem_cons.mpr ⟨rfl, List.forall_mem_cons.mpr ⟨rfl, List.forall_mem_cons.mpr ⟨rfl, List.forall_mem_nil _⟩⟩⟩⟩
  case sm => decide
  case turn =>
    intro c j I t v h2 g2 tk2 rest2 hj hg2 ho hP hall hI hu F2 N2
    have hj7 : j < 7 := by omega
    rw [Int.zero_add] at F2
    obtain ⟨l', hl'⟩ : ∃ l', ts[j]? = some l' := ⟨_, List.getElem?_eq_getElem (by omega)⟩
    have hup : Sub (nw H (L :: ([I] ++ [82])) h2) (Dg H L h2) := nw_mono fun b hb => by
      rcases List.mem_cons.mp hb with q | q
      · exact q ▸ List.mem_cons_self
      · exact List.mem_cons_of_mem _ (List.mem_append_right _ q)
    have hk2 := hu _ (.head _)
    have hm2 := hu _ (.tail _ (.head _))
    have hc2 := hu _ (.tail _ (.tail _ (.head _)))
    have ht2 := hu _ (.tail _ (.tail _ (.tail _ (.head _))))
    have F3 := kst_fr [(Str.ofString "k", .int i t1), (Str.ofString "j", .int j t), (Str.ofString "marks", .ref mk), (Str.ofString "columns", .ref co), (Str.ofString "tells", .ref te)] F2 (List.forall_mem_cons.mpr ⟨(if_neg (show ¬ Str.ofString "k" = Str.ofString "j" by decide)).trans hk2, List.forall_mem_cons.mpr ⟨rfl, List.forall_mem_cons.mpr ⟨(if_neg (show ¬ Str.ofString "marks" = Str.ofString "j" by decide)).trans hm2, List.forall_mem_cons.mpr ⟨(if_neg (show ¬ Str.ofString "columns" = Str.ofString "j" by decide)).trans hc2, List.forall_mem_cons.mpr ⟨(if_neg (show ¬ Str.ofString "tells" = Str.ofString "j" by decide)).trans ht2, List.forall_mem_nil _⟩⟩⟩⟩⟩)
    have N3 := News.pick N2 (p := (82, tabObj c)) (.head _) News.nil
    refine in_all (s := Shared.mk _ _ _ _ _) G CH BM hP.2 hg2 hz1 hzl hi hj7 hl hl' (hpair l' (List.mem_of_getElem? hl')) F3 N3 (hM1.keeps (hP.1.trans hup)) ?_
    intro h4 g4 tk4 ps4 m4 hb4 htr4 F4 hm4 N4 k4
    refine ⟨ps4, h4, g4, tk4, m4, (82, tabObj ps4) :: rest2, rfl, hb4, F4, news_of_sub N2 (fun p hp => ho p hp _ (.head _)) k4 N4, List.forall_mem_cons.mpr ⟨.head _, List.forall_mem_nil _⟩, (fun p hp => .tail _ hp), List.forall_mem_cons.mpr ⟨.head _, List.forall_mem_nil _⟩, hm4, fun b o e => ?_, htr4⟩
    have e2 := hP.1 b o e
    exact nw_get.mpr ⟨(nw_get.mp (k4 b o (hup b o e2))).1, (nw_get.mp e2).2⟩
  case done =>
    intro c v I h2 g2 tk2 hg2 hP hu F2 N2
    (repeat' (first | (k_unfold; (try dsimp only)) | ((fail_if_success (with_reducible show wpAny _ _ (pyIter _) _ _ _)); (fail_if_success (with_reducible show wpAny _ _ (execs (Stmt.If _ _ _ _ :: _) _) _ _ _)); (fail_if_success (with_reducible show wpAny _ _ (execs (Stmt.Assign _ _ _ :: _) _) _ _ _)); (fail_if_success (with_reducible show wpAny _ _ (subscriptTail _ _ _ _) _ _ _)); (fail_if_success (with_reducible show wpAny _ _ (call (Value.ref _) _) _ _ _)); (fail_if_success (with_reducible show wpAny _ _ (call (Value.type _) _) _ _ _)); (fail_if_success (with_reducible show wpAny _ _ (compareOp _ (Value.ref _) _) _ _ _)); (fail_if_success (with_reducible show wpAny _ _ (eval (Expr.ListComp _ _ _ _) _) _ _ _)); (fail_if_success (with_reducible show wpAny _ _ (exec (Stmt.Assign _ (Expr.ListComp _ _ _ _) _) _) _ _ _)); (first | (with_reducible (((with_reducible show TurnEG _ _ _ _ _ _ _ _ _ _ _ _); dsimp only [TurnEG]))) | ((with_reducible show wpAny _ _ (exec (Stmt.For _ _ _ _ _) _) _ _ _); k_dflt (refine For_d ?_ (fun _ => rfl))) | ((with_reducible show wpAny _ _ (eval (Expr.Name _ _) (compEnvC _ _ _ _)) _ _ _); k_dflt (first | (refine' nmL ?qk1Z ?qk2Z ?_ ?qk3Z ?qk4Z ?qk5Z; (case qk3Z => rfl); (case qk4Z => rfl); (case qk5Z => decide); (case qk1Z => k_asm); (case qk2Z => rfl); k_whole) | (refine' nmC ?qk1Z ?qk2Z ?qk6Z ?_ ?qk3Z ?qk4Z ?qk5Z; (case qk3Z => rfl); (case qk4Z => rfl); (case qk5Z => decide); (case qk6Z => rfl); (case qk1Z => assumption); (case qk2Z => assumption); k_whole) | (refine' nmG ?qk1Z ?qk2Z ?_ ?qk6Z ?qk3Z ?qk4Z ?qk5Z; (case qk3Z => rfl); (case qk4Z => rfl); (case qk5Z => decide); (case qk6Z => rfl); (case qk1Z => assumption); (case qk2Z => k_is); k_whole) | (refine' nmB ?qk1Z ?qk2Z ?qk7Z ?qk8Z ?_ ?qk6Z ?qk9Z ?qk3Z ?qk4Z ?qk5Z; (case qk3Z => rfl); (case qk4Z => rfl); (case qk5Z => decide); (case qk6Z => rfl); (case qk9Z => rfl); (case qk1Z => assumption); (case qk2Z => k_is); (case qk7Z => boot_fast); (case qk8Z => decide); k_whole))) | (with_reducible (((with_reducible show wpAny _ _ (newTuple _) _ _ _); (k_here; refine newTuple_L (by k_asm) (by k_asm) ?_ (Nat.le_of_ble_eq_true rfl); intro a9 h9 F9 N9 f9 k9; (try dsimp only))))) | (with_reducible (((with_reducible show wpAny _ _ (execs (Stmt.Assign _ _ _ :: _) _) _ _ _); refine wpAny_execs_cons ?_))) | (with_reducible (((with_reducible show TurnE _ _ _ _ _ _ _ _ _ _ _ _ _ _ _); dsimp only [TurnE]))) | (with_reducible ((k_here; (with_reducible show wpAny _ _ (call (Value.builtin "len") [Value.ref _]) _ _ _); refine len_tup_ints (IsTup.keeps (by assumption) (Fr.keep (by k_asm))) (by assumption) (by assumption) ?_))) | walk1); all_goals (try dsimp only)) | dsimp only))
    refine next h2 g2 tk2 c v hg2 hP.2 F2 (fun p hp => hu p (.tail _ hp)) N2 (k1.trans (hP.1.trans (nw_mono fun b hb => ?_)))
    rcases List.mem_cons.mp hb with q | q
    · exact q ▸ List.mem_cons_self
    · exact List.mem_cons_of_mem _ (List.mem_append_right _ q)
set_option maxHeartbeats 4000000 in
/- the second loop, and the end -/
theorem law_d (G : Gd w.params H) (CH : CodeHd H 86 82) (BM : ∃ mg bm ob, BMod H mainGlobals mg bm ob) (htr : TriplesOk ps.toList) (hb : AllBare s.gens) (htl : ts.length = 7) (hz1 : 1 ≤ zs.length) (hzl : zs.length ≤ 100) (hpair : ∀ l ∈ ts, ∀ l' ∈ ts, Pair l l' zs)
    (F : Fr H L s.heap (kstB u [(Str.ofString "texts", .ref tx), (Str.ofString "marks", .ref mk), (Str.ofString "columns", .ref co), (Str.ofString "tells", .ref te)]))
    (N : News H L s.heap [(82, tabObj ps)]) (M : Made (Dg H L s.heap) L tx sz mk co te ts zs)
    (fin : ∀ h g tk ps' m, AllBare g → Fr H L h m → News H L h [(82, tabObj ps')] → Q (.ret (.bool true)) { s with heap := h, gens := g, toks := tk }) :
    wpAny (model prog w) (lawA L fa cd) (execs (lawBody.drop 13) (lawEnv L fa cd)) Q (fun _ _ => False) s := by
  have X := G.k
  obtain ⟨p, loose, mg, mb, TT⟩ := G.t
  obtain ⟨h, gs, dr, tk, os⟩ := s
  dsimp only at F N fin M hb
  obtain ⟨rest, N, R, off⟩ := open_rest2 N
  change wpAny _ _ (execs (_ :: _) _) _ _ _
  (repeat' (first | (k_unfold; (try dsimp only)) | ((fail_if_success (with_reducible show wpAny _ _ (pyIter _) _ _ _)); (fail_if_success (with_reducible show wpAny _ _ (execs (Stmt.If _ _ _ _ :: _) _) _ _ _)); (fail_if_success (with_reducible show wpAny _ _ (execs (Stmt.Assign _ _ _ :: _) _) _ _ _)); (fail_if_success (with_reducible show wpAny _ _ (subscriptTail _ _ _ _) _ _ _)); (fail_if_success (with_reducible show wpAny _ _ (call (Value.ref _) _) _ _ _)); (fail_if_success (with_reducible show wpAny _ _ (call (Value.type _) _) _ _ _)); (fail_if_success (with_reducible show wpAny _ _ (compareOp _ (Value.ref _) _) _ _ _)); (fail_if_success (with_reducible show wpAny _ _ (eval (Expr.ListComp _ _ _ _) _) _ _ _)); (fail_if_success (with_reducible show wpAny _ _ (exec (Stmt.Assign _ (Expr.ListComp _ _ _ _) _) _) _ _ _)); (first | (with_reducible (((with_reducible show TurnEG _ _ _ _ _ _ _ _ _ _ _ _); dsimp only [TurnEG]))) | ((with_reducible show wpAny _ _ (exec (Stmt.For _ _ _ _ _) _) _ _ _); k_dflt (refine For_d ?_ (fun _ => rfl))) | ((with_reducible show wpAny _ _ (eval (Expr.Name _ _) (compEnvC _ _ _ _)) _ _ _); k_dflt (first | (refine' nmL ?qk1Z ?qk2Z ?_ ?qk3Z ?qk4Z ?qk5Z; (case qk3Z => rfl); (case qk4Z => rfl); (case qk5Z => decide); (case qk1Z => k_asm); (case qk2Z => rfl); k_whole) | (refine' nmC ?qk1Z ?qk2Z ?qk6Z ?_ ?qk3Z ?qk4Z ?qk5Z; (case qk3Z => rfl); (case qk4Z => rfl); (case qk5Z => decide); (case qk6Z => rfl); (case qk1Z => assumption); (case qk2Z => assumption); k_whole) | (refine' nmG ?qk1Z ?qk2Z ?_ ?qk6Z ?qk3Z ?qk4Z ?qk5Z; (case qk3Z => rfl); (case qk4Z => rfl); (case qk5Z => decide); (case qk6Z => rfl); (case qk1Z => assumption); (case qk2Z => k_is); k_whole) | (refine' nmB ?qk1Z ?qk2Z ?qk7Z ?qk8Z ?_ ?qk6Z ?qk9Z ?qk3Z ?qk4Z ?qk5Z; (case qk3Z => rfl); (case qk4Z => rfl); (case qk5Z => decide); (case qk6Z => rfl); (case qk9Z => rfl); (case qk1Z => assumption); (case qk2Z => k_is); (case qk7Z => boot_fast); (case qk8Z => decide); k_whole))) | (with_reducible (((with_reducible show wpAny _ _ (newTuple _) _ _ _); (k_here; refine newTuple_L (by k_asm) (by k_asm) ?_ (Nat.le_of_ble_eq_true rfl); intro a9 h9 F9 N9 f9 k9; (try dsimp only))))) | (with_reducible (((with_reducible show wpAny _ _ (execs (Stmt.Assign _ _ _ :: _) _) _ _ _); refine wpAny_execs_cons ?_))) | (with_reducible (((with_reducible show TurnE _ _ _ _ _ _ _ _ _ _ _ _ _ _ _); dsimp only [TurnE]))) | (with_reducible ((k_here; (with_reducible show wpAny _ _ (call (Value.builtin "len") [Value.ref _]) _ _ _); refine len_tup_ints (IsTup.keeps (by assumption) (Fr.keep (by k_asm))) (by assumption) (by assumption) ?_))) | walk1); all_goals (try dsimp only)) | dsimp only))
  iterate 1 first | (with_reducible (((with_reducible show TurnEG _ _ _ _ _ _ _ _ _ _ _ _); dsimp only [TurnEG]))) | ((with_reducible show wpAny _ _ (exec (Stmt.For _ _ _ _ _) _) _ _ _); k_dflt (refine For_d ?_ (fun _ => rfl))) | ((with_reducible show wpAny _ _ (eval (Expr.Name _ _) (compEnvC _ _ _ _)) _ _ _); k_dflt (first | (refine' nmL ?qk1Z ?qk2Z ?_ ?qk3Z ?qk4Z ?qk5Z; (case qk3Z => rfl); (case qk4Z => rfl); (case qk5Z => decide); (case qk1Z => k_asm); (case qk2Z => rfl); k_whole) | (refine' nmC ?qk1Z ?qk2Z ?qk6Z ?_ ?qk3Z ?qk4Z ?qk5Z; (case qk3Z => rfl); (case qk4Z => rfl); (case qk5Z => decide); (case qk6Z => rfl); (case qk1Z => assumption); (case qk2Z => assumption); k_whole) | (refine' nmG ?qk1Z ?qk2Z ?_ ?qk6Z ?qk3Z ?qk4Z ?qk5Z; (case qk3Z => rfl); (case qk4Z => rfl); (case qk5Z => decide); (case qk6Z => rfl); (case qk1Z => assumption); (case qk2Z => k_is); k_whole) | (refine' nmB ?qk1Z ?qk2Z ?qk7Z ?qk8Z ?_ ?qk6Z ?qk9Z ?qk3Z ?qk4Z ?qk5Z; (case qk3Z => rfl); (case qk4Z => rfl); (case qk5Z => decide); (case qk6Z => rfl); (case qk9Z => rfl); (case qk1Z => assumption); (case qk2Z => k_is); (case qk7Z => boot_fast); (case qk8Z => decide); k_whole))) | (with_reducible (((with_reducible show wpAny _ _ (newTuple _) _ _ _); (k_here; refine newTuple_L (by k_asm) (by k_asm) ?_ (Nat.le_of_ble_eq_true rfl); intro a9 h9 F9 N9 f9 k9; (try dsimp only))))) | (with_reducible (((with_reducible show wpAny _ _ (execs (Stmt.Assign _ _ _ :: _) _) _ _ _); refine wpAny_execs_cons ?_))) | (with_reducible (((with_reducible show TurnE _ _ _ _ _ _ _ _ _ _ _ _ _ _ _); dsimp only [TurnE]))) | (with_reducible ((k_here; (with_reducible show wpAny _ _ (call (Value.builtin "len") [Value.ref _]) _ _ _); refine len_tup_ints (IsTup.keeps (by assumption) (Fr.keep (by k_asm))) (by assumption) (by assumption) ?_))) | walk1 | (dsimp only; walk1)
  rename Fr _ _ _ _ => F1
  rename News _ _ _ _ => N1
  rename IsRange _ _ _ _ _ _ _ _ => r1
  have k1 := rest_sub R N1 fun p hp => .tail _ hp
  have hM1 := M.keeps k1
  refine' forRangeG (s := Shared.mk _ _ _ _ _) (σ := Array Value) (fun c => [(82, tabObj c)]) [(Str.ofString "marks", .ref mk), (Str.ofString "columns", .ref co), (Str.ofString "tells", .ref te)] (fun c d => Sub (Dg H L _) d ∧ TriplesOk c.toList) ps ?hks rfl r1 ?sm rfl rfl hb F1 (News.pick N1 (.head _) News.nil) (fun _ _ _ h k => ⟨h.1.trans k, h.2⟩) ⟨Sub.refl _, htr⟩ ?turn ?done
  case hks => exact List.forall_mem_cons.mpr ⟨rfl, List.forall_mem_cons.mpr ⟨rfl, List.forall_mem_cons.mpr ⟨rfl, List.forall_mem_nil _⟩⟩⟩
  case sm => decide
  case turn =>
    intro c j I t v h2 g2 tk2 rest2 hj hg2 ho hP hall hI hu F2 N2
    have hj7 : j < 7 := by omega
    rw [Int.zero_add] at F2
    obtain ⟨l', hl'⟩ : ∃ l', ts[j]? = some l' := ⟨_, List.getElem?_eq_getElem (by omega)⟩
    have hup : Sub (nw H (L :: ([I] ++ [82])) h2) (Dg H L h2) := nw_mono fun b hb => by
      rcases List.mem_cons.mp hb with q | q
      · exact q ▸ List.mem_cons_self
      · exact List.mem_cons_of_mem _ (List.mem_append_right _ q)
    have hm2 := hu _ (.head _)
    have hc2 := hu _ (.tail _ (.head _))
    have ht2 := hu _ (.tail _ (.tail _ (.head _)))
    have F3 := kst_fr [(Str.ofString "k", .int j t), (Str.ofString "marks", .ref mk), (Str.ofString "columns", .ref co), (Str.ofString "tells", .ref te)] F2 (List.forall_mem_cons.mpr ⟨rfl, List.forall_mem_cons.mpr ⟨(if_neg (show ¬ Str.ofString "marks" = Str.ofString "k" by decide)).trans hm2, List.forall_mem_cons.mpr ⟨(if_neg (show ¬ Str.ofString "columns" = Str.ofString "k" by decide)).trans hc2, List.forall_mem_cons.mpr ⟨(if_neg (show ¬ Str.ofString "tells" = Str.ofString "k" by decide)).trans ht2, List.forall_mem_nil _⟩⟩⟩⟩)
    have N3 := News.pick N2 (p := (82, tabObj c)) (.head _) News.nil
    refine law_in (s := Shared.mk _ _ _ _ _) G CH BM hP.2 hg2 htl hz1 hzl hj7 hl' (hpair l' (List.mem_of_getElem? hl')) F3 N3 (hM1.keeps (hP.1.trans hup)) ?_
    intro h4 g4 tk4 ps4 m4 hb4 htr4 F4 hm4 N4 k4
    refine ⟨ps4, h4, g4, tk4, m4, (82, tabObj ps4) :: rest2, rfl, hb4, F4, news_of_sub N2 (fun p hp => ho p hp _ (.head _)) k4 N4, List.forall_mem_cons.mpr ⟨.head _, List.forall_mem_nil _⟩, (fun p hp => .tail _ hp), List.forall_mem_cons.mpr ⟨.head _, List.forall_mem_nil _⟩, hm4, fun b o e => ?_, htr4⟩
    have e2 := hP.1 b o e
    exact nw_get.mpr ⟨(nw_get.mp (k4 b o (hup b o e2))).1, (nw_get.mp e2).2⟩
  case done =>
    intro c v I h2 g2 tk2 hg2 hP hu F2 N2
    (repeat' (first | (k_unfold; (try dsimp only)) | ((fail_if_success (with_reducible show wpAny _ _ (pyIter _) _ _ _)); (fail_if_success (with_reducible show wpAny _ _ (execs (Stmt.If _ _ _ _ :: _) _) _ _ _)); (fail_if_success (with_reducible show wpAny _ _ (execs (Stmt.Assign _ _ _ :: _) _) _ _ _)); (fail_if_success (with_reducible show wpAny _ _ (subscriptTail _ _ _ _) _ _ _)); (fail_if_success (with_reducible show wpAny _ _ (call (Value.ref _) _) _ _ _)); (fail_if_success (with_reducible show wpAny _ _ (call (Value.type _) _) _ _ _)); (fail_if_success (with_reducible show wpAny _ _ (compareOp _ (Value.ref _) _) _ _ _)); (fail_if_success (with_reducible show wpAny _ _ (eval (Expr.ListComp _ _ _ _) _) _ _ _)); (fail_if_success (with_reducible show wpAny _ _ (exec (Stmt.Assign _ (Expr.ListComp _ _ _ _) _) _) _ _ _)); (first | (with_reducible (((with_reducible show TurnEG _ _ _ _ _ _ _ _ _ _ _ _); dsimp only [TurnEG]))) | ((with_reducible show wpAny _ _ (exec (Stmt.For _ _ _ _ _) _) _ _ _); k_dflt (refine For_d ?_ (fun _ => rfl))) | ((with_reducible show wpAny _ _ (eval (Expr.Name _ _) (compEnvC _ _ _ _)) _ _ _); k_dflt (first | (refine' nmL ?qk1Z ?qk2Z ?_ ?qk3Z ?qk4Z ?qk5Z; (case qk3Z => rfl); (case qk4Z => rfl); (case qk5Z => decide); (case qk1Z => k_asm); (case qk2Z => rfl); k_whole) | (refine' nmC ?qk1Z ?qk2Z ?qk6Z ?_ ?qk3Z ?qk4Z ?qk5Z; (case qk3Z => rfl); (case qk4Z => rfl); (case qk5Z => decide); (case qk6Z => rfl); (case qk1Z => assumption); (case qk2Z => assumption); k_whole) | (refine' nmG ?qk1Z ?qk2Z ?_ ?qk6Z ?qk3Z ?qk4Z ?qk5Z; (case qk3Z => rfl); (case qk4Z => rfl); (case qk5Z => decide); (case qk6Z => rfl); (case qk1Z => assumption); (case qk2Z => k_is); k_whole) | (refine' nmB ?qk1Z ?qk2Z ?qk7Z ?qk8Z ?_ ?qk6Z ?qk9Z ?qk3Z ?qk4Z ?qk5Z; (case qk3Z => rfl); (case qk4Z => rfl); (case qk5Z => decide); (case qk6Z => rfl); (case qk9Z => rfl); (case qk1Z => assumption); (case qk2Z => k_is); (case qk7Z => boot_fast); (case qk8Z => decide); k_whole))) | (with_reducible (((with_reducible show wpAny _ _ (newTuple _) _ _ _); (k_here; refine newTuple_L (by k_asm) (by k_asm) ?_ (Nat.le_of_ble_eq_true rfl); intro a9 h9 F9 N9 f9 k9; (try dsimp only))))) | (with_reducible (((with_reducible show wpAny _ _ (execs (Stmt.Assign _ _ _ :: _) _) _ _ _); refine wpAny_execs_cons ?_))) | (with_reducible (((with_reducible show TurnE _ _ _ _ _ _ _ _ _ _ _ _ _ _ _); dsimp only [TurnE]))) | (with_reducible ((k_here; (with_reducible show wpAny _ _ (call (Value.builtin "len") [Value.ref _]) _ _ _); refine len_tup_ints (IsTup.keeps (by assumption) (Fr.keep (by k_asm))) (by assumption) (by assumption) ?_))) | walk1); all_goals (try dsimp only)) | dsimp only))
    all_goals exact fin _ _ _ _ _ hg2 F2 N2
end
end
end
/- a sum over the first numbers -/
noncomputable def sumTo (f : Nat → Int) : Nat → Int
  | 0 => 0
  | n + 1 => sumTo f n + f n
theorem sumTo_add (f : Nat → Int) (a : Nat) : ∀ b, sumTo f (a + b) = sumTo f a + sumTo (fun k => f (a + k)) b
  | 0 => by simp [sumTo]
  | b + 1 => by rw [← Nat.add_assoc, sumTo, sumTo_add f a b, sumTo, Int.add_assoc]
theorem sumTo_congr {f g : Nat → Int} : ∀ {n}, (∀ i, i < n → f i = g i) → sumTo f n = sumTo g n
  | 0, _ => rfl
  | n + 1, h => by rw [sumTo, sumTo, sumTo_congr fun i hi => h i (Nat.lt_succ_of_lt hi), h n (Nat.lt_succ_self _)]
theorem sumTo_zero {f : Nat → Int} : ∀ {n}, (∀ i, i < n → f i = 0) → sumTo f n = 0
  | 0, _ => rfl
  | n + 1, h => by rw [sumTo, sumTo_zero fun i hi => h i (Nat.lt_succ_of_lt hi), h n (Nat.lt_succ_self _)]; rfl
theorem sumTo_plus (f g : Nat → Int) : ∀ n, sumTo (fun i => f i + g i) n = sumTo f n + sumTo g n
  | 0 => rfl
  | n + 1 => by rw [sumTo, sumTo_plus f g n, sumTo, sumTo]; (first | lia | omega)
theorem sumTo_one (c : Int) (r : Nat) : ∀ n, sumTo (fun i => if i = r then c else 0) n = if r < n then c else 0
  | 0 => by simp [sumTo]
  | n + 1 => by
    rw [sumTo, sumTo_one c r n]
    by_cases h1 : r < n
    · rw [if_pos h1, if_neg (by (first | lia | omega)), if_pos (by (first | lia | omega))]; (first | lia | omega)
    · by_cases h2 : n = r
      · rw [if_neg h1, if_pos h2, if_pos (by (first | lia | omega))]; (first | lia | omega)
      · rw [if_neg h1, if_neg h2, if_neg (by (first | lia | omega))]; rfl
/- a sum over a list, by how often each number stands in it -/
theorem sum_count (f : Nat → Int) : ∀ (rs : List Int) (n : Nat), (∀ r ∈ rs, 0 ≤ r ∧ r < n) → (rs.map fun r => f r.toNat).sum = sumTo (fun i => f i * ((rs.count (i : Int) : Nat) : Int)) n
  | [], n, _ => by
    rw [sumTo_zero fun i _ => by simp]; rfl
  | r :: rs, n, h => by
    obtain ⟨h1, h2⟩ := h r (.head _)
    rw [List.map_cons, List.sum_cons, sum_count f rs n fun x hx => h x (.tail _ hx)]
    have e : sumTo (fun i => f i * (((r :: rs).count (i : Int) : Nat) : Int)) n = sumTo (fun i => f i * ((rs.count (i : Int) : Nat) : Int) + if i = r.toNat then f r.toNat else 0) n := sumTo_congr fun i _ => by
      rw [List.count_cons]
      by_cases q : i = r.toNat
      · subst q
        rw [if_pos (by rw [beq_iff_eq]; (first | lia | omega)), if_pos rfl, Int.natCast_add, Int.mul_add]; simp
      · rw [if_neg (by rw [beq_iff_eq]; (first | lia | omega)), if_neg q]; simp
    rw [e, sumTo_plus, sumTo_one, if_pos (by (first | lia | omega))]; (first | lia | omega)
theorem cnt_getD (rs : List Int) (i : Nat) : (cntOf rs).getD i 0 = ((rs.count (i : Int) : Nat) : Int) := by
  rw [List.getD_eq_getElem?_getD]
  by_cases h : i < (topOf rs + 1).toNat
  · rw [cnt_get rs h]; rfl
  · rw [List.getElem?_eq_none (by rw [cnt_len]; (first | lia | omega))]
    have : rs.count (i : Int) = 0 := List.count_eq_zero.mpr fun hm => by have := top_le rs _ hm; (first | lia | omega)
    rw [this]; rfl
theorem ilOf_sumTo (cs : List Int) (ts : Nat) : ∀ k, ilOf cs ts k = sumTo (fun i => (((ts + i : Nat) : Int) / ts) * cs.getD (ts + i) 0) k
  | 0 => rfl
  | k + 1 => by
    rw [ilOf_succ, ilOf_sumTo cs ts k, sumTo]
    congr 1
theorem il_sum (rs : List Int) (ts : Nat) (h0 : ∀ r ∈ rs, 0 ≤ r) (hts : 1 ≤ ts) : ilOf (cntOf rs) ts (((cntOf rs).length : Int) - ts).toNat = (rs.map fun r => r / (ts : Int)).sum := by
  have hb : ∀ r ∈ rs, 0 ≤ r ∧ r < ((cntOf rs).length : Nat) := fun r hr => by
    have h1 := h0 r hr
    have h2 := top_le rs r hr
    rw [cnt_len]; (first | lia | omega)
  have e0 : (rs.map fun r => r / (ts : Int)) = rs.map fun r => (fun i : Nat => (i : Int) / ts) r.toNat := List.map_congr_left fun r hr => by
    have := h0 r hr
    show r / (ts : Int) = ((r.toNat : Nat) : Int) / ts
    rw [show ((r.toNat : Nat) : Int) = r by (first | lia | omega)]
  rw [e0, sum_count (fun i : Nat => (i : Int) / ts) rs _ hb, ilOf_sumTo]
  have small : ∀ i : Nat, i < ts → (i : Int) / ts = 0 := fun i hi => Int.ediv_eq_zero_of_lt (by (first | lia | omega)) (by (first | lia | omega))
  by_cases hl : ts ≤ (cntOf rs).length
  · obtain ⟨k, hk⟩ := Nat.le.dest hl
    rw [← hk, show (((ts + k : Nat) : Int) - ts).toNat = k by (first | lia | omega), sumTo_add, sumTo_zero (n := ts) fun i hi => by rw [small i hi, Int.zero_mul], Int.zero_add]
    exact sumTo_congr fun i _ => by rw [cnt_getD]
  · rw [show (((cntOf rs).length : Int) - ts).toNat = 0 by (first | lia | omega)]
    exact (sumTo_zero (n := (cntOf rs).length) fun i hi => by rw [small i (by (first | lia | omega)), Int.zero_mul]).symm
/- the column, run by run -/
noncomputable def colRuns (ts : Int) : List Int → Int → Int
  | [], c => c
  | [b], c => c + b
  | r :: t, c => colRuns ts t (c + r + (ts - (c + r) % ts))
theorem colRuns_cons (ts : Int) (r : Int) {t : List Int} (h : t ≠ []) (c : Int) : colRuns ts (r :: t) c = colRuns ts t (c + r + (ts - (c + r) % ts)) := by
  cases t with
  | nil => exact absurd rfl h
  | cons a b => rfl
theorem colRuns_add (ts a : Int) : ∀ (x : List Int), x ≠ [] → ∀ c, colRuns ts (addHead a x) c = colRuns ts x (c + a)
  | [], h, _ => absurd rfl h
  | [b], _, c => by show c + (a + b) = c + a + b; (first | lia | omega)
  | r :: s :: t, _, c => by
    show colRuns ts ((a + r) :: s :: t) c = _
    show colRuns ts (s :: t) (c + (a + r) + (ts - (c + (a + r)) % ts)) = colRuns ts (s :: t) (c + a + r + (ts - (c + a + r) % ts))
    rw [Int.add_assoc c a r]
theorem runs_ne (l : List Nat) : runsOf l ≠ [] := fun h => by have := (runs_len l).2; rw [h] at this; simp at this
theorem col_runs (ts : Int) : ∀ (l : List Nat) (c : Int), colOf ts l c = colRuns ts (runsOf l) c
  | [], c => by rw [runs_nil, colOf, colRuns, Int.add_zero]
  | k :: r, c => by
    rw [colOf]
    by_cases h1 : k = 32
    · rw [if_pos h1, h1, runs_sp, colRuns_add _ _ _ (runs_ne r), col_runs ts r]
    · rw [if_neg h1]
      by_cases h2 : k = 9
      · rw [if_pos h2, h2, runs_tab, colRuns_cons _ _ (runs_ne r), col_runs ts r, Int.add_zero]
      · rw [if_neg h2, runs_other r h1 h2, colRuns, Int.add_zero]
theorem colRuns_eq {ts : Int} (hts : 1 ≤ ts) (b : Int) : ∀ (rs : List Int) (q : Int), (∀ r ∈ rs, 0 ≤ r) → colRuns ts (rs ++ [b]) (ts * q) = b + ts * (q + (rs.map fun r => r / ts).sum + rs.length)
  | [], q, _ => by
    show ts * q + b = b + ts * (q + 0 + ((0 : Nat) : Int))
    rw [Int.add_zero, Int.natCast_zero, Int.add_zero, Int.add_comm]
  | r :: rs, q, h => by
    have h1 := Int.emod_add_mul_ediv r ts
    rw [List.cons_append, colRuns_cons _ _ (by simp), Int.mul_add_emod_self_left,
      show ts * q + r + (ts - r % ts) = ts * (q + r / ts + 1) by rw [Int.mul_add, Int.mul_add, Int.mul_one]; (first | lia | omega), colRuns_eq hts b rs _ fun x hx => h x (.tail _ hx), List.map_cons, List.sum_cons, List.length_cons]
    congr 2
    rw [Int.natCast_add]; (first | lia | omega)
theorem runs_eq (l : List Nat) : runsOf l = aheadOf l ++ [lastOf l] := by
  have h := (runs_len l).2
  rw [aheadOf, lastOf, List.getD_eq_getElem?_getD, List.getElem?_eq_getElem (by (first | lia | omega)), Option.getD_some]
  rw [← take_snoc (List.getElem?_eq_getElem (by (first | lia | omega) : (runsOf l).length - 1 < (runsOf l).length)), List.take_of_length_le (by (first | lia | omega))]
theorem ahead_pos (l : List Nat) : ∀ r ∈ aheadOf l, 0 ≤ r := fun r hr => (runs_bound l r (by rw [runs_eq]; exact List.mem_append_left _ hr)).1
theorem last_pos (l : List Nat) : 0 ≤ lastOf l := (runs_bound l _ (by rw [runs_eq]; simp)).1
/- the level of a text -/
noncomputable def lev (l : List Nat) (ts : Int) : Int := lvl (cntOf (aheadOf l)) (lastOf l) (aheadOf l).length ts
theorem lev_eq (l : List Nat) {ts : Int} (hts : 1 ≤ ts) : lev l ts = lastOf l + ts * (((aheadOf l).map fun r => r / ts).sum + (aheadOf l).length) := by
  obtain ⟨n, rfl⟩ := Int.eq_ofNat_of_zero_le (show 0 ≤ ts by (first | lia | omega))
  unfold lev lvl
  rw [il_sum _ n (ahead_pos l) (by (first | lia | omega))]
theorem col_lev (l : List Nat) {ts : Int} (hts : 1 ≤ ts) : colOf ts l 0 = lev l ts := by
  have h := colRuns_eq hts (lastOf l) (aheadOf l) 0 (ahead_pos l)
  rw [Int.mul_zero, Int.zero_add, ← runs_eq] at h
  rw [col_runs, h, lev_eq l hts]
theorem top_runs (l : List Nat) : topOf (runsOf l) = max (((cntOf (aheadOf l)).length : Int) - 1) (lastOf l) := by
  rw [runs_eq, top_snoc _ _ (Int.le_trans (by decide) (last_pos l)), cnt_len, Int.toNat_of_nonneg (Int.add_le_add_right (top_ge (aheadOf l)) 1), Int.add_sub_cancel]
/- a blank and a tab somewhere -/
noncomputable def hasST : List Nat → Bool
  | [] => false
  | [_] => false
  | a :: b :: r => (a == 32 && b == 9) || hasST (b :: r)
theorem hasST_iff (x : List Nat) : hasST x = true ↔ ∃ i, i + 2 ≤ x.length ∧ (x.drop i).take 2 = [32, 9] := by
  induction x with
  | nil => simp [hasST]
  | cons a r ih =>
    cases r with
    | nil =>
      simp only [hasST, Bool.false_eq_true, false_iff]
      rintro ⟨i, hi, _⟩
      rw [List.length_singleton] at hi; (first | lia | omega)
    | cons b r =>
      rw [hasST, Bool.or_eq_true, ih]
      constructor
      · rintro (h | ⟨i, hi, h⟩)
        · simp only [Bool.and_eq_true, beq_iff_eq] at h
          exact ⟨0, by simp, by simp [h.1, h.2]⟩
        · exact ⟨i + 1, by simp at hi ⊢; (first | lia | omega), by simpa using h⟩
      · rintro ⟨i, hi, h⟩
        cases i with
        | zero => left; simp at h; simp [h.1, h.2]
        | succ i => right; exact ⟨i, by simp at hi ⊢; (first | lia | omega), by simpa using h⟩
theorem contains_ST (x : List Nat) : Txt.contains (T x) (Str.ofString " \t") = hasST x := by
  have e : Str.ofString " \t" = T [32, 9] := by decide +kernel
  rw [Bool.eq_iff_iff, hasST_iff, e]
  unfold Txt.contains
  rw [StrLaws.found_iff]
  simp only [StrLaws.subAt_eq, T_len, T_cps, beq_iff_eq]
  rfl
theorem ahead_of {l : List Nat} {a : List Int} {b : Int} (h : runsOf l = a ++ [b]) : aheadOf l = a ∧ lastOf l = b := by
  constructor
  · rw [aheadOf, h]; simp
  · rw [lastOf, h]; simp
theorem ahead_sp (r : List Nat) : aheadOf (32 :: r) = addHead 1 (aheadOf r) := by
  have h := runs_sp r
  rw [runs_eq r] at h
  cases q : aheadOf r with
  | nil => rw [q] at h; exact (ahead_of (a := []) (b := 1 + lastOf r) h).1
  | cons x t => rw [q] at h; exact (ahead_of (a := (1 + x) :: t) (b := lastOf r) h).1
theorem ahead_tab (r : List Nat) : aheadOf (9 :: r) = 0 :: aheadOf r := by
  have h := runs_tab r
  rw [runs_eq r] at h
  exact (ahead_of (a := 0 :: aheadOf r) (b := lastOf r) h).1
theorem ahead_other {k : Nat} (r : List Nat) (h1 : k ≠ 32) (h2 : k ≠ 9) : aheadOf (k :: r) = [] := (ahead_of (a := []) (b := 0) (runs_other r h1 h2)).1
theorem hasST_sp (x : List Nat) : hasST (32 :: x) = true ↔ x.head? = some 9 ∨ hasST x = true := by
  cases x with
  | nil => simp [hasST]
  | cons b r => simp [hasST]
theorem hasST_tab (x : List Nat) : hasST (9 :: x) = hasST x := by
  cases x with
  | nil => simp [hasST]
  | cons b r => simp [hasST]
theorem simple_both : ∀ (l : List Nat), (aheadOf l = [] ↔ (hasST (leadOf l) = false ∧ (leadOf l).head? ≠ some 9)) ∧ ((∀ r ∈ aheadOf l, r = 0) ↔ hasST (leadOf l) = false)
  | [] => by
    have e : aheadOf [] = [] := (ahead_of (a := []) (b := 0) runs_nil).1
    rw [e, lead_nil]; simp [hasST]
  | k :: r => by
    obtain ⟨ih1, ih2⟩ := simple_both r
    by_cases h1 : k = 32
    · subst h1
      rw [ahead_sp, lead_sp]
      have e0 : (addHead 1 (aheadOf r) = [] ↔ aheadOf r = []) := by cases aheadOf r <;> simp [addHead]
      have e1 : (∀ x ∈ addHead 1 (aheadOf r), x = 0) ↔ aheadOf r = [] := by
        have hp := ahead_pos r
        cases q : aheadOf r with
        | nil => simp [addHead]
        | cons x t =>
          rw [q] at hp
          have := hp x (.head _)
          simp [addHead]; (first | lia | omega)
      have e2 : hasST (32 :: leadOf r) = false ↔ (hasST (leadOf r) = false ∧ (leadOf r).head? ≠ some 9) := by
        rw [← Bool.not_eq_true, hasST_sp]
        simp only [not_or, Bool.not_eq_true]
        exact ⟨fun h => ⟨h.2, h.1⟩, fun h => ⟨h.2, h.1⟩⟩
      refine ⟨?_, ?_⟩
      · rw [e0, ih1, e2]; simp
      · rw [e1, ih1, e2]
    · by_cases h2 : k = 9
      · subst h2
        rw [ahead_tab, lead_tab, hasST_tab]
        refine ⟨by simp, ?_⟩
        rw [← ih2]; simp
      · rw [ahead_other r h1 h2, lead_other r h1 h2]; simp [hasST]
theorem simple_eq (l : List Nat) : decide ((cntOf (aheadOf l)).length ≤ 1) = !Txt.contains (T (leadOf l)) (Str.ofString " \t") := by
  rw [contains_ST, Bool.eq_iff_iff, decide_eq_true_eq, Bool.not_eq_true', ← (simple_both l).2, cnt_len]
  have hp := ahead_pos l
  constructor
  · intro h r hr
    have h1 := hp r hr
    have h2 := top_le _ r hr
    (first | lia | omega)
  · intro h
    rcases top_mem (aheadOf l) with q | q
    · rw [q]; decide
    · rw [h _ q]; decide
/- what the lead's length is -/
theorem lead_sum : ∀ (l : List Nat), ((leadOf l).length : Int) + 1 = (runsOf l).sum + (runsOf l).length
  | [] => by rw [lead_nil, runs_nil]; rfl
  | k :: r => by
    have ih := lead_sum r
    by_cases h1 : k = 32
    · subst h1
      rw [lead_sp, runs_sp]
      obtain ⟨x, t, e, _⟩ := runs_cons r
      rw [e] at ih ⊢
      simp [addHead] at ih ⊢; (first | lia | omega)
    · by_cases h2 : k = 9
      · subst h2
        rw [lead_tab, runs_tab]
        simp; (first | lia | omega)
      · rw [lead_other r h1 h2, runs_other r h1 h2]; rfl
theorem lev_one (l : List Nat) : lev l 1 = (leadOf l).length := by
  have h := lead_sum l
  rw [runs_eq] at h
  simp only [List.sum_append, List.length_append, List.sum_cons, List.sum_nil, List.length_cons, List.length_nil] at h
  rw [lev_eq l (by decide), show (aheadOf l).map (fun r => r / (1 : Int)) = aheadOf l from by simp]
  (first | lia | omega)
/- the level at a size beyond all runs -/
theorem lev_big (l : List Nat) {ts : Int} (h : ∀ r ∈ aheadOf l, r < ts) (h1 : 1 ≤ ts) : lev l ts = lastOf l + ts * (aheadOf l).length := by
  have e : (aheadOf l).map (fun r => r / ts) = (aheadOf l).map fun _ => (0 : Int) := List.map_congr_left fun r hr => Int.ediv_eq_zero_of_lt (ahead_pos l r hr) (h r hr)
  rw [lev_eq l h1, e]
  have e2 : ((aheadOf l).map fun _ => (0 : Int)).sum = 0 := by
    generalize aheadOf l = a
    induction a with
    | nil => rfl
    | cons x t ih => rw [List.map_cons, List.sum_cons, ih]; rfl
  rw [e2, Int.zero_add]
noncomputable def Small (l : List Nat) : Prop := ∀ r ∈ runsOf l, r ≤ 8
theorem Small.ahead {l : List Nat} (h : Small l) : ∀ r ∈ aheadOf l, 0 ≤ r ∧ r ≤ 8 := fun r hr => ⟨ahead_pos l r hr, h r (by rw [runs_eq]; exact List.mem_append_left _ hr)⟩
theorem Small.last {l : List Nat} (h : Small l) : 0 ≤ lastOf l ∧ lastOf l ≤ 8 := ⟨last_pos l, h _ (by rw [runs_eq]; simp)⟩
/- how many runs have a length -/
noncomputable def cn (l : List Nat) (i : Nat) : Int := (((aheadOf l).count (i : Int) : Nat) : Int)
theorem Small.sum {l : List Nat} (h : Small l) (f : Nat → Int) : ((aheadOf l).map fun r => f r.toNat).sum = f 0 * cn l 0 + f 1 * cn l 1 + f 2 * cn l 2 + f 3 * cn l 3 + f 4 * cn l 4 + f 5 * cn l 5 + f 6 * cn l 6 + f 7 * cn l 7 + f 8 * cn l 8 := by
  rw [sum_count f (aheadOf l) 9 fun r hr => by have := h.ahead r hr; (first | lia | omega)]
  simp only [sumTo, cn]
  (first | lia | omega)
theorem Small.len {l : List Nat} (h : Small l) : ((aheadOf l).length : Int) = cn l 0 + cn l 1 + cn l 2 + cn l 3 + cn l 4 + cn l 5 + cn l 6 + cn l 7 + cn l 8 := by
  have e := h.sum fun _ => 1
  have e2 : ((aheadOf l).map fun _ => (1 : Int)).sum = (aheadOf l).length := by
    generalize aheadOf l = a
    induction a with
    | nil => rfl
    | cons x t ih => simp only [List.map_cons, List.sum_cons, List.length_cons, ih]; (first | lia | omega)
  rw [e2] at e
  rw [e]; (first | lia | omega)
theorem Small.div {l : List Nat} (h : Small l) (ts : Nat) : ((aheadOf l).map fun r => r / (ts : Int)).sum = ((0 / ts : Nat) : Int) * cn l 0 + ((1 / ts : Nat) : Int) * cn l 1 + ((2 / ts : Nat) : Int) * cn l 2 + ((3 / ts : Nat) : Int) * cn l 3 + ((4 / ts : Nat) : Int) * cn l 4 + ((5 / ts : Nat) : Int) * cn l 5 + ((6 / ts : Nat) : Int) * cn l 6 + ((7 / ts : Nat) : Int) * cn l 7 + ((8 / ts : Nat) : Int) * cn l 8 := by
  rw [← h.sum fun i => ((i / ts : Nat) : Int)]
  congr 1
  refine List.map_congr_left fun r hr => ?_
  obtain ⟨n, rfl⟩ := Int.eq_ofNat_of_zero_le (h.ahead r hr).1
  rw [Int.toNat_natCast]; rfl
theorem Small.d8 {l : List Nat} (h : Small l) : ((aheadOf l).map fun r => r / (8 : Int)).sum = cn l 8 := by have := h.div 8; simpa using this
theorem Small.d7 {l : List Nat} (h : Small l) : ((aheadOf l).map fun r => r / (7 : Int)).sum = cn l 7 + cn l 8 := by have := h.div 7; simpa using this
theorem Small.d6 {l : List Nat} (h : Small l) : ((aheadOf l).map fun r => r / (6 : Int)).sum = cn l 6 + cn l 7 + cn l 8 := by have := h.div 6; simpa using this
theorem Small.d5 {l : List Nat} (h : Small l) : ((aheadOf l).map fun r => r / (5 : Int)).sum = cn l 5 + cn l 6 + cn l 7 + cn l 8 := by have := h.div 5; simpa using this
theorem Small.d4 {l : List Nat} (h : Small l) : ((aheadOf l).map fun r => r / (4 : Int)).sum = cn l 4 + cn l 5 + cn l 6 + cn l 7 + 2 * cn l 8 := by have := h.div 4; simpa using this
theorem Small.d3 {l : List Nat} (h : Small l) : ((aheadOf l).map fun r => r / (3 : Int)).sum = cn l 3 + cn l 4 + cn l 5 + 2 * cn l 6 + 2 * cn l 7 + 2 * cn l 8 := by have := h.div 3; simpa using this
theorem Small.d2 {l : List Nat} (h : Small l) : ((aheadOf l).map fun r => r / (2 : Int)).sum = cn l 2 + cn l 3 + 2 * cn l 4 + 2 * cn l 5 + 3 * cn l 6 + 3 * cn l 7 + 4 * cn l 8 := by have := h.div 2; simpa using this
theorem Small.d1 {l : List Nat} (h : Small l) : ((aheadOf l).map fun r => r / (1 : Int)).sum = cn l 1 + 2 * cn l 2 + 3 * cn l 3 + 4 * cn l 4 + 5 * cn l 5 + 6 * cn l 6 + 7 * cn l 7 + 8 * cn l 8 := by have := h.div 1; simpa using this
theorem cn_none {l : List Nat} (h : Small l) {i : Nat} (hi : 8 < i) : cn l i = 0 := by
  have : (aheadOf l).count (i : Int) = 0 := List.count_eq_zero.mpr fun hm => by have := (h.ahead _ hm).2; (first | lia | omega)
  rw [cn, this]; rfl
theorem cnt_of_cn {l l' : List Nat} (e : ∀ i, cn l i = cn l' i) : cntOf (aheadOf l) = cntOf (aheadOf l') := by
  have half : ∀ {l l' : List Nat}, (∀ i, cn l i = cn l' i) → topOf (aheadOf l) ≤ topOf (aheadOf l') := fun {l l'} e => by
    rcases top_mem (aheadOf l) with q | q
    · rw [q]; exact top_ge _
    · obtain ⟨n, hn⟩ := Int.eq_ofNat_of_zero_le (ahead_pos l _ q)
      rw [hn] at q ⊢
      have e' := e n
      unfold cn at e'
      have h1 : 0 < (aheadOf l).count (n : Int) := List.count_pos_iff.mpr q
      have h2 : 0 < (aheadOf l').count (n : Int) := by (first | lia | omega)
      exact top_le _ _ (List.count_pos_iff.mp h2)
  have et : topOf (aheadOf l) = topOf (aheadOf l') := Int.le_antisymm (half e) (half fun i => (e i).symm)
  unfold cntOf
  rw [et]
  exact List.map_congr_left fun i _ => e i
theorem cn_of_cnt {l l' : List Nat} (e : cntOf (aheadOf l) = cntOf (aheadOf l')) (i : Nat) : cn l i = cn l' i := by
  unfold cn
  rw [← cnt_getD, ← cnt_getD, e]
theorem cancel {b n s t k : Int} (hk : k ≠ 0) (e : b + k * (s + n) = b + k * (t + n)) : s = t := by
  have h1 : k * (s + n) = k * (t + n) := by (first | lia | omega)
  have h2 := Int.eq_of_mul_eq_mul_left hk h1
  (first | lia | omega)
theorem lin9 {a0 a1 a2 a3 a4 a5 a6 a7 a8 b0 b1 b2 b3 b4 b5 b6 b7 b8 : Int} (g8 : a8 = b8) (g7 : a7 + a8 = b7 + b8) (g6 : a6 + a7 + a8 = b6 + b7 + b8) (g5 : a5 + a6 + a7 + a8 = b5 + b6 + b7 + b8)
    (g4 : a4 + a5 + a6 + a7 + 2 * a8 = b4 + b5 + b6 + b7 + 2 * b8) (g3 : a3 + a4 + a5 + 2 * a6 + 2 * a7 + 2 * a8 = b3 + b4 + b5 + 2 * b6 + 2 * b7 + 2 * b8)
    (g2 : a2 + a3 + 2 * a4 + 2 * a5 + 3 * a6 + 3 * a7 + 4 * a8 = b2 + b3 + 2 * b4 + 2 * b5 + 3 * b6 + 3 * b7 + 4 * b8)
    (g1 : a1 + 2 * a2 + 3 * a3 + 4 * a4 + 5 * a5 + 6 * a6 + 7 * a7 + 8 * a8 = b1 + 2 * b2 + 3 * b3 + 4 * b4 + 5 * b5 + 6 * b6 + 7 * b7 + 8 * b8)
    (g0 : a0 + a1 + a2 + a3 + a4 + a5 + a6 + a7 + a8 = b0 + b1 + b2 + b3 + b4 + b5 + b6 + b7 + b8) :
    a0 = b0 ∧ a1 = b1 ∧ a2 = b2 ∧ a3 = b3 ∧ a4 = b4 ∧ a5 = b5 ∧ a6 = b6 ∧ a7 = b7 ∧ a8 = b8 := by
  subst g8
  obtain rfl : a7 = b7 := by (first | lia | omega)
  obtain rfl : a6 = b6 := by (first | lia | omega)
  obtain rfl : a5 = b5 := by (first | lia | omega)
  obtain rfl : a4 = b4 := by (first | lia | omega)
  obtain rfl : a3 = b3 := by (first | lia | omega)
  obtain rfl : a2 = b2 := by (first | lia | omega)
  obtain rfl : a1 = b1 := by (first | lia | omega)
  obtain rfl : a0 = b0 := by (first | lia | omega)
  exact ⟨rfl, rfl, rfl, rfl, rfl, rfl, rfl, rfl, rfl⟩
theorem near9 {b m b' m' : Int} (h0 : 0 ≤ b) (h1 : b ≤ 8) (h2 : 0 ≤ b') (h3 : b' ≤ 8) (e : b + 9 * m = b' + 9 * m') : b = b' ∧ m = m' := by (first | lia | omega)
theorem eq_of_lev {l l' : List Nat} (h : Small l) (h' : Small l') (e : ∀ z : Int, 1 ≤ z → z ≤ 9 → lev l z = lev l' z) : cntOf (aheadOf l) = cntOf (aheadOf l') ∧ lastOf l = lastOf l' := by
  have e9 := e 9 (by decide) (by decide)
  rw [lev_big l (fun r hr => by have := h.ahead r hr; (first | lia | omega)) (by decide), lev_big l' (fun r hr => by have := h'.ahead r hr; (first | lia | omega)) (by decide)] at e9
  obtain ⟨f1, f2⟩ := near9 h.last.1 h.last.2 h'.last.1 h'.last.2 e9
  have ek : ∀ k : Int, 1 ≤ k → k ≤ 9 → ((aheadOf l).map fun r => r / k).sum = ((aheadOf l').map fun r => r / k).sum := fun k k1 k2 => by
    have q := e k k1 k2
    rw [lev_eq l k1, lev_eq l' k1, f1, f2] at q
    exact cancel (by (first | lia | omega)) q
  have n := h.len
  rw [f2, h'.len] at n
  have e8 := ek 8 (by decide) (by decide)
  have e7 := ek 7 (by decide) (by decide)
  have e6 := ek 6 (by decide) (by decide)
  have e5 := ek 5 (by decide) (by decide)
  have e4 := ek 4 (by decide) (by decide)
  have e3 := ek 3 (by decide) (by decide)
  have e2 := ek 2 (by decide) (by decide)
  have e1 := ek 1 (by decide) (by decide)
  rw [h.d8, h'.d8] at e8
  rw [h.d7, h'.d7] at e7
  rw [h.d6, h'.d6] at e6
  rw [h.d5, h'.d5] at e5
  rw [h.d4, h'.d4] at e4
  rw [h.d3, h'.d3] at e3
  rw [h.d2, h'.d2] at e2
  rw [h.d1, h'.d1] at e1
  obtain ⟨c0, c1, c2, c3, c4, c5, c6, c7, c8⟩ := lin9 e8 e7 e6 e5 e4 e3 e2 e1 n.symm
  refine ⟨cnt_of_cn fun i => ?_, f1⟩
  match i with
  | 0 => exact c0
  | 1 => exact c1
  | 2 => exact c2
  | 3 => exact c3
  | 4 => exact c4
  | 5 => exact c5
  | 6 => exact c6
  | 7 => exact c7
  | 8 => exact c8
  | i + 9 => rw [cn_none h (by (first | lia | omega)), cn_none h' (by (first | lia | omega))]
theorem lev_of_eq {l l' : List Nat} (h : Small l) (h' : Small l') (e : cntOf (aheadOf l) = cntOf (aheadOf l') ∧ lastOf l = lastOf l') (z : Int) : lev l z = lev l' z := by
  have n := h.len
  have n' := h'.len
  have f2 : ((aheadOf l).length : Int) = (aheadOf l').length := by
    rw [n, n']
    simp only [cn_of_cnt e.1]
  unfold lev
  rw [e.1, e.2, f2]
theorem mul_up {z m m' : Int} (hz : 0 ≤ z) (h : m ≤ m') : z * m ≤ z * m' := Int.mul_le_mul_of_nonneg_left h hz
theorem far {b m b' m' w z : Int} (h : b + w * m < b' + w * m') (hm : m ≤ m') (hz : w ≤ z) : b + z * m < b' + z * m' := by
  have e1 : z * m = w * m + (z - w) * m := by rw [← Int.add_mul]; congr 1; (first | lia | omega)
  have e2 : z * m' = w * m' + (z - w) * m' := by rw [← Int.add_mul]; congr 1; (first | lia | omega)
  have := mul_up (show 0 ≤ z - w by (first | lia | omega)) hm
  (first | lia | omega)
theorem le_of_near {b m b' m' w : Int} (h : b + w * m < b' + w * m') (hw : b' < w) (hb : 0 ≤ b) (hb' : 0 ≤ b') : m ≤ m' := by
  by_cases q : m' < m
  · have := mul_up (show 0 ≤ w by (first | lia | omega)) (show m' + 1 ≤ m by (first | lia | omega))
    rw [Int.mul_add, Int.mul_one] at this
    (first | lia | omega)
  · (first | lia | omega)
theorem top_ahead {l : List Nat} {r : Int} (hr : r ∈ aheadOf l) : r ≤ topOf (runsOf l) := top_le _ r (by rw [runs_eq]; exact List.mem_append_left _ hr)
theorem top_small {l : List Nat} (h : Small l) : 0 ≤ topOf (runsOf l) ∧ topOf (runsOf l) ≤ 8 := by
  have h1 := top_le (runsOf l) (lastOf l) (by rw [runs_eq]; exact List.mem_append_right _ List.mem_cons_self)
  have h2 := Int.le_trans (last_pos l) h1
  rcases top_mem (runsOf l) with q | q
  · rw [q] at h2; exact absurd h2 (by decide)
  · exact ⟨h2, h _ q⟩
theorem nat_le_one {k : Int} (h : (k + 1).toNat ≤ 1) : k ≤ 0 := by omega
theorem runs_simple {l : List Nat} (hc : (cntOf (aheadOf l)).length ≤ 1) : ∀ r ∈ aheadOf l, r = 0 := fun r hr => by
  rw [cnt_len] at hc
  exact Int.le_antisymm (Int.le_trans (top_le _ r hr) (nat_le_one hc)) (ahead_pos l r hr)
theorem near_lev {l l' : List Nat} {w : Int} (hA : ∀ r ∈ aheadOf l, r < w) (hA' : ∀ r ∈ aheadOf l', r < w) (hw : 1 ≤ w) (hb : lastOf l' < w) (h : lev l w < lev l' w) :
    ((aheadOf l).length : Int) ≤ (aheadOf l').length ∧ ∀ z, w ≤ z → lev l z < lev l' z := by
  rw [lev_big l hA hw, lev_big l' hA' hw] at h
  have g := le_of_near h hb (last_pos l) (last_pos l')
  refine ⟨g, fun z hz => ?_⟩
  have hz1 := Int.le_trans hw hz
  rw [lev_big l (fun r hr => Int.lt_of_lt_of_le (hA r hr) hz) hz1, lev_big l' (fun r hr => Int.lt_of_lt_of_le (hA' r hr) hz) hz1]
  exact far h g hz
theorem less_fwd {l l' : List Nat} {M : Int} (h0 : 0 ≤ M) (g : topOf (runsOf l) ≤ M) (g' : topOf (runsOf l') ≤ M) (hn : lev l 1 < lev l' 1) (hts : ∀ ts : Int, 2 ≤ ts → ts ≤ M + 1 → lev l ts < lev l' ts) {z : Int} (hz1 : 1 ≤ z) : lev l z < lev l' z := by
  have near : ∀ ts : Int, 1 ≤ ts → ts ≤ M + 1 → lev l ts < lev l' ts := fun ts t1 t2 => by
    by_cases q : ts = 1
    · rw [q]; exact hn
    · exact hts ts (Int.add_one_le_of_lt (Int.lt_iff_le_and_ne.mpr ⟨t1, fun e => q e.symm⟩)) t2
  rcases Int.le_total z (M + 1) with q | q
  · exact near z hz1 q
  · have s := Int.add_le_add_right h0 1
    exact (near_lev (fun r hr => Int.lt_add_one_of_le (Int.le_trans (top_ahead hr) g)) (fun r hr => Int.lt_add_one_of_le (Int.le_trans (top_ahead hr) g')) s
      (Int.lt_add_one_of_le (Int.le_trans (top_le _ _ (by rw [runs_eq]; exact List.mem_append_right _ List.mem_cons_self)) g')) (near (M + 1) s (Int.le_refl _))).2 z q
theorem less_iff {l l' : List Nat} (h : Small l) (h' : Small l') {zs : List Int} (z9 : ∀ z : Int, 1 ≤ z → z ≤ 9 → z ∈ zs) (z1 : ∀ z ∈ zs, 1 ≤ z) : LessC l l' ↔ ∀ z ∈ zs, lev l z < lev l' z := by
  have t := top_small h
  have t' := top_small h'
  unfold LessC
  rw [← top_runs, ← top_runs, ← lev_one, ← lev_one]
  constructor
  · rintro ⟨hn, hh⟩ z hz
    have hz1 := z1 z hz
    rcases hh with ⟨s1, s2, hm⟩ | ⟨_, hts⟩
    · have g1 := runs_simple (of_decide_eq_true s1)
      have g2 := runs_simple (of_decide_eq_true s2)
      rw [lev_big l (fun r hr => by rw [g1 r hr]; decide) (by decide), lev_big l' (fun r hr => by rw [g2 r hr]; decide) (by decide)] at hn
      rw [lev_big l (fun r hr => by rw [g1 r hr]; exact hz1) hz1, lev_big l' (fun r hr => by rw [g2 r hr]; exact hz1) hz1]
      exact far hn hm hz1
    · exact less_fwd (Int.le_trans t.1 (Int.le_max_left _ _)) (Int.le_max_left _ _) (Int.le_max_right _ _) hn hts hz1
  · intro hall
    have near : ∀ ts : Int, 1 ≤ ts → ts ≤ 9 → lev l ts < lev l' ts := fun ts t1 t2 => hall ts (z9 ts t1 t2)
    refine ⟨near 1 (by decide) (by decide), ?_⟩
    by_cases hs : decide ((cntOf (aheadOf l)).length ≤ 1) = true ∧ decide ((cntOf (aheadOf l')).length ≤ 1) = true
    · exact .inl ⟨hs.1, hs.2, (near_lev (fun r hr => Int.lt_add_one_of_le (h.ahead r hr).2) (fun r hr => Int.lt_add_one_of_le (h'.ahead r hr).2) (by decide) (Int.lt_add_one_of_le h'.last.2) (near 9 (by decide) (by decide))).1⟩
    · exact .inr ⟨hs, fun ts t1 t2 => near ts (Int.le_trans (by decide) t1) (Int.le_trans t2 (Int.add_le_add_right (Int.max_le.mpr ⟨t.2, t'.2⟩) 1))⟩
theorem take_range (rest : List Int) {n : Nat} (h : n ≤ 9) : ([1, 2, 3, 4, 5, 6, 7, 8, 9] ++ rest : List Int).take n = rangeKs 1 n := by
  rw [List.take_append_of_le_length (by simpa using h)]
  have key : ∀ n : Fin 10, ([1, 2, 3, 4, 5, 6, 7, 8, 9] : List Int).take n.val = rangeKs 1 n.val := by decide
  exact key ⟨n, by (first | lia | omega)⟩
theorem mem_rangeKs {n : Nat} {z : Int} (h : z ∈ rangeKs 1 n) : 1 ≤ z ∧ z ≤ n := by
  induction n with
  | zero => simp [rangeKs] at h
  | succ n ih =>
    rw [rangeKs_succ] at h
    rcases List.mem_append.mp h with q | q
    · have := ih q; (first | lia | omega)
    · rw [List.mem_singleton.mp q]; (first | lia | omega)
theorem upTo_most (l l' : List Nat) : upTo l l' = (mostOf l l').toNat := by
  unfold upTo mostOf
  rw [top_runs, top_runs]
theorem most_small {l l' : List Nat} (h : Small l) (h' : Small l') : (mostOf l l').toNat ≤ 9 := by
  have := top_small h
  have := top_small h'
  unfold mostOf; (first | lia | omega)
theorem met_wit {l l' : List Nat} (h : Small l) (h' : Small l') (rest : List Int) (rel : Int → Int → Bool) (p : Int × Int × Int → Bool) (hp : ∀ e, p e = rel e.2.1 e.2.2) :
    wit (lvl (cntOf (aheadOf l)) (lastOf l) (aheadOf l).length) (lvl (cntOf (aheadOf l')) (lastOf l') (aheadOf l').length) rel (upTo l l') = (((metOf ([1, 2, 3, 4, 5, 6, 7, 8, 9] ++ rest) l l').take (mostOf l l').toNat).filter p).map tri := by
  rw [upTo_most, metOf, ← List.map_take, take_range rest (most_small h h'), List.filter_map, List.map_map]
  unfold wit
  have e1 : (rangeKs 1 (mostOf l l').toNat).filter (p ∘ fun z => (z, colOf z l 0, colOf z l' 0)) = (rangeKs 1 (mostOf l l').toNat).filter fun ts => rel (lvl (cntOf (aheadOf l)) (lastOf l) (aheadOf l).length ts) (lvl (cntOf (aheadOf l')) (lastOf l') (aheadOf l').length ts) := by
    refine List.filter_congr fun z hz => ?_
    have hz1 := (mem_rangeKs hz).1
    show p (z, colOf z l 0, colOf z l' 0) = _
    rw [hp, col_lev l hz1, col_lev l' hz1]; rfl
  rw [e1]
  refine List.map_congr_left fun z hz => ?_
  have hz1 := (mem_rangeKs (List.mem_filter.mp hz).1).1
  show _ = tri (z, colOf z l 0, colOf z l' 0)
  rw [col_lev l hz1, col_lev l' hz1]; rfl
theorem colD_iff {l l' : List Nat} {zs : List Int} (z1 : ∀ z ∈ zs, 1 ≤ z) : colD zs l = colD zs l' ↔ ∀ z ∈ zs, lev l z = lev l' z := by
  unfold colD
  constructor
  · intro h z hz
    rw [← col_lev l (z1 z hz), ← col_lev l' (z1 z hz)]
    injection h with h
    have h := map_int_inj h
    exact (List.map_inj_left.mp h) z hz
  · intro h
    rw [List.map_congr_left fun z hz => show colOf z l 0 = colOf z l' 0 by rw [col_lev l (z1 z hz), col_lev l' (z1 z hz)]; exact h z hz]
theorem pair_of {l l' : List Nat} (h : Small l) (h' : Small l') (rest : List Int) (z1 : ∀ z ∈ rest, 1 ≤ z) : Pair l l' ([1, 2, 3, 4, 5, 6, 7, 8, 9] ++ rest) := by
  have zz : ∀ z ∈ ([1, 2, 3, 4, 5, 6, 7, 8, 9] ++ rest : List Int), 1 ≤ z := fun z hz => by
    rcases List.mem_append.mp hz with q | q
    · simp at q; (first | lia | omega)
    · exact z1 z q
  have z9 : ∀ z : Int, 1 ≤ z → z ≤ 9 → z ∈ ([1, 2, 3, 4, 5, 6, 7, 8, 9] ++ rest : List Int) := fun z h1 h2 => by
    refine List.mem_append_left _ ?_
    simp; (first | lia | omega)
  have t := top_small h
  have t' := top_small h'
  have hmem : ∀ x ∈ ((metOf ([1, 2, 3, 4, 5, 6, 7, 8, 9] ++ rest) l l').take (mostOf l l').toNat).filter geq, x.1 ∈ rangeKs 1 (mostOf l l').toNat := fun x hx => by
    have q := (List.mem_filter.mp hx).1
    rw [metOf, ← List.map_take, take_range rest (most_small h h')] at q
    obtain ⟨z, hz, rfl⟩ := List.mem_map.mp q
    exact hz
  have hm9 := most_small h h'
  refine ⟨by (first | lia | omega), ?_, ?_, met_wit h h' rest _ _ fun _ => rfl, met_wit h h' rest _ _ fun _ => rfl, ?_, fun x hx => ?_⟩
  · rw [colD_iff zz]
    exact ⟨fun e z _ => lev_of_eq h h' e z, fun e => eq_of_lev h h' fun z h1 h2 => e z (z9 z h1 h2)⟩
  · rw [less_iff h h' z9 zz, metOf, List.map_map, List.all_map, List.all_eq_true]
    constructor
    · intro e z hz
      show decide (colOf z l 0 < colOf z l' 0) = true
      rw [col_lev l (zz z hz), col_lev l' (zz z hz)]
      exact decide_eq_true (e z hz)
    · intro e z hz
      have q : decide (colOf z l 0 < colOf z l' 0) = true := e z hz
      rw [col_lev l (zz z hz), col_lev l' (zz z hz)] at q
      exact of_decide_eq_true q
  · exact Nat.le_trans (List.length_filter_le _ _) (Nat.le_trans (List.length_take_le _ _) (by (first | lia | omega)))
  · have := mem_rangeKs (hmem x hx); (first | lia | omega)
theorem fits_of {l : List Nat} (hlen : l.length ≤ 500) {zs : List Int} (z1 : ∀ z ∈ zs, 1 ≤ z) : Fits l zs :=
  ⟨hlen, fun z hz => ⟨z1 z hz, (col_lev l (z1 z hz)).symm⟩, (top_runs l).symm, simple_eq l⟩
theorem runs_blanks (x : List Nat) : ∀ n : Nat, runsOf (List.replicate n 32 ++ x) = addHead n (runsOf x)
  | 0 => by rw [List.replicate_zero, List.nil_append]; exact (addHead_zero _).symm
  | n + 1 => by rw [List.replicate_succ, List.cons_append, runs_sp, runs_blanks x n, addHead_add]; congr 1; (first | lia | omega)
theorem runs_lead {ns : List Int} {last : Int} {tail : List Nat} (hn : ∀ n ∈ ns, 0 ≤ n) (h0 : 0 ≤ last) (ht : runsOf tail = [0]) : runsOf (leadL ns last ++ tail) = ns ++ [last] := by
  induction ns with
  | nil =>
    show runsOf (List.replicate last.toNat 32 ++ tail) = [last]
    rw [runs_blanks, ht, addHead, Int.add_zero, show ((last.toNat : Nat) : Int) = last by (first | lia | omega)]
  | cons n ns ih =>
    have e : leadL (n :: ns) last ++ tail = List.replicate n.toNat 32 ++ 9 :: (leadL ns last ++ tail) := by simp [leadL]
    have h1 := hn n (.head _)
    rw [e, runs_blanks, runs_tab, ih fun m hm => hn m (.tail _ hm), addHead, Int.add_zero, show ((n.toNat : Nat) : Int) = n by (first | lia | omega)]; rfl
theorem runs_tabs (x : List Nat) : ∀ n : Nat, runsOf (List.replicate n 9 ++ x) = List.replicate n 0 ++ runsOf x
  | 0 => rfl
  | n + 1 => by rw [List.replicate_succ, List.cons_append, runs_tab, runs_tabs x n]; rfl
theorem small_lead {ns : List Int} {last : Int} {tail : List Nat} (hn : ∀ n ∈ ns, 0 ≤ n ∧ n ≤ 8) (h0 : 0 ≤ last ∧ last ≤ 8) (ht : runsOf tail = [0]) : Small (leadL ns last ++ tail) := fun r hr => by
  rw [runs_lead (fun n h => (hn n h).1) h0.1 ht] at hr
  rcases List.mem_append.mp hr with q | q
  · exact (hn r q).2
  · rw [List.mem_singleton.mp q]; exact h0.2
theorem small_tabs {a b : Nat} {tail : List Nat} (hb : b ≤ 8) (ht : runsOf tail = [0]) : Small (List.replicate a 9 ++ List.replicate b 32 ++ tail) := fun r hr => by
  rw [List.append_assoc, runs_tabs, runs_blanks, ht] at hr
  rcases List.mem_append.mp hr with q | q
  · rw [List.eq_of_mem_replicate q]; decide
  · have q : r ∈ [(b : Int) + 0] := q
    rw [List.mem_singleton.mp q]; (first | lia | omega)
theorem texts_ok (ns : List Int) : ∀ l ∈ lTexts ns, l.length ≤ 500 ∧ Small l := by
  have hr : ∀ n ∈ lRuns ns, 0 ≤ n ∧ n < 8 := fun n hn => by
    obtain ⟨x, _, rfl⟩ := List.mem_map.mp hn
    exact ⟨Int.emod_nonneg x (by decide), Int.emod_lt_of_pos x (by decide)⟩
  have hl : 0 ≤ lLast ns ∧ lLast ns < 8 := ⟨Int.emod_nonneg _ (by decide), Int.emod_lt_of_pos _ (by decide)⟩
  have hm : ∀ n ∈ lMore ns, 0 ≤ n ∧ n ≤ 8 := fun n hn => by
    obtain ⟨i, hi⟩ := List.mem_iff_getElem?.mp hn
    rw [lMore, List.getElem?_mapIdx] at hi
    obtain ⟨x, hx, rfl⟩ := Option.map_eq_some_iff.mp hi
    have hx' : 0 ≤ x ∧ x < 8 := by
      rcases List.mem_append.mp (List.mem_of_getElem? hx) with q | q
      · exact hr x q
      · rw [List.mem_singleton.mp q]; exact hl
    split <;> (first | lia | omega)
  have hlr6 : (lRuns ns).length ≤ 6 := by rw [lRuns, List.length_map, List.length_take]; (first | lia | omega)
  have hlm : (lMore ns).length = (lRuns ns).length + 1 := by rw [lMore, List.length_mapIdx, List.length_append, List.length_singleton]
  have ht : 0 ≤ lTabs ns ∧ lTabs ns < 5 := ⟨Int.emod_nonneg _ (by decide), Int.emod_lt_of_pos _ (by decide)⟩
  have hb : 0 ≤ lBlanks ns ∧ lBlanks ns < 9 := ⟨Int.emod_nonneg _ (by decide), Int.emod_lt_of_pos _ (by decide)⟩
  have lead : ∀ {rs : List Int} {last : Int} {tail : List Nat}, rs.length ≤ 10 → (∀ n ∈ rs, 0 ≤ n ∧ n ≤ 8) → 0 ≤ last ∧ last ≤ 8 → runsOf tail = [0] → tail.length ≤ 4 → (leadL rs last ++ tail).length ≤ 500 ∧ Small (leadL rs last ++ tail) := fun {rs last tail} h1 h2 h3 h4 h5 => by
    refine ⟨?_, small_lead h2 h3 h4⟩
    have := leadL_len h1 (fun n hn => ⟨(h2 n hn).1, by have := (h2 n hn).2; (first | lia | omega)⟩) (show last ≤ 10 by (first | lia | omega))
    rw [List.length_append]; (first | lia | omega)
  have hr8 : ∀ n ∈ lRuns ns, 0 ≤ n ∧ n ≤ 8 := fun n hn => ⟨(hr n hn).1, by have := (hr n hn).2; (first | lia | omega)⟩
  have hl8 : 0 ≤ lLast ns ∧ lLast ns ≤ 8 := ⟨hl.1, by (first | lia | omega)⟩
  have hg : 0 ≤ (lMore ns).getD ((lMore ns).length - 1) 0 ∧ (lMore ns).getD ((lMore ns).length - 1) 0 ≤ 8 := by
    rw [List.getD_eq_getElem?_getD, List.getElem?_eq_getElem (by (first | lia | omega))]
    exact hm _ (List.getElem_mem _)
  unfold lTexts
  refine List.forall_mem_cons.mpr ⟨lead (by (first | lia | omega)) hr8 hl8 (runs_other _ (by decide) (by decide)) (by decide), ?_⟩
  refine List.forall_mem_cons.mpr ⟨by have := lead (tail := []) (rs := (lRuns ns).reverse) (by rw [List.length_reverse]; (first | lia | omega)) (fun n hn => hr8 n (List.mem_reverse.mp hn)) hl8 runs_nil (by decide); rwa [List.append_nil] at this, ?_⟩
  refine List.forall_mem_cons.mpr ⟨lead (by rw [List.length_take]; (first | lia | omega)) (fun n hn => hm n (List.mem_of_mem_take hn)) hg (runs_other _ (by decide) (by decide)) (by decide), ?_⟩
  refine List.forall_mem_cons.mpr ⟨lead (by rw [List.length_append]; show 2 + _ ≤ 10; (first | lia | omega)) (fun n hn => by
    rcases List.mem_append.mp hn with q | q
    · simp at q; (first | lia | omega)
    · exact hr8 n q) hl8 (runs_other _ (by decide) (by decide)) (by decide), ?_⟩
  refine List.forall_mem_cons.mpr ⟨lead (by rw [List.length_append]; show 2 + _ ≤ 10; (first | lia | omega)) (fun n hn => by
    rcases List.mem_append.mp hn with q | q
    · simp at q; (first | lia | omega)
    · exact hr8 n q) hl8 (runs_other _ (by decide) (by decide)) (by decide), ?_⟩
  refine List.forall_mem_cons.mpr ⟨⟨?_, small_tabs (by (first | lia | omega)) (runs_other _ (by decide) (by decide))⟩, ?_⟩
  · simp only [List.length_append, List.length_replicate, List.length_cons, List.length_nil]; (first | lia | omega)
  refine List.forall_mem_cons.mpr ⟨⟨?_, small_tabs (by (first | lia | omega)) (runs_other _ (by decide) (by decide))⟩, List.forall_mem_nil _⟩
  simp only [List.length_append, List.length_replicate, List.length_cons, List.length_nil]; (first | lia | omega)
theorem sizes_ok (ns : List Int) : (∀ z ∈ lSizes ns, 1 ≤ z) ∧ 1 ≤ (lSizes ns).length ∧ (lSizes ns).length ≤ 100 := by
  unfold lSizes
  refine ⟨fun z hz => ?_, ?_, ?_⟩
  · rcases List.mem_append.mp hz with q | q
    · simp at q; (first | lia | omega)
    · obtain ⟨x, _, rfl⟩ := List.mem_map.mp q; (first | lia | omega)
  · simp
  · rw [List.length_append, List.length_map, List.length_take]; show 9 + _ ≤ 100; (first | lia | omega)
theorem pairs_ok (ns : List Int) : ∀ l ∈ lTexts ns, ∀ l' ∈ lTexts ns, Pair l l' (lSizes ns) := fun l hl l' hl' =>
  pair_of (texts_ok ns l hl).2 (texts_ok ns l' hl').2 _ fun z hz => by obtain ⟨x, _, rfl⟩ := List.mem_map.mp hz; (first | lia | omega)
theorem BMod.hide {h : Heap} {mg : Str → Option Value} {bm : Addr} {ob : Obj} {ps : Array Value} (M : BMod h mainGlobals mg bm ob) (h82 : h.get? 82 = some (tabObj ps)) : BMod (h.hide 82) mainGlobals mg bm ob :=
  ⟨ns_hide h82 rfl M.ns, M.name, M.ne, by
    have hb : bm ≠ 82 := fun q => by
      have e := M.obj
      rw [q, h82] at e
      cases e
      have := M.data
      cases this
    rw [Heap.hide_ne _ hb]; exact M.obj, M.cls, M.dict, M.data⟩
theorem CodeHd.hide {h : Heap} (C : CodeHd h 86 82) : CodeHd (h.hide 82) 86 82 := by
  obtain ⟨o, vs, file, tf, flags, tg, inF, text, tt, e, r⟩ := C
  exact ⟨o, vs, file, tf, flags, tg, inF, text, tt, by rw [Heap.hide_ne _ (by decide)]; exact e, r⟩
theorem isList_hide {h : Heap} {l : Addr} {its : Array Value} {ps : Array Value} (hl : h.IsList l its) (h82 : h.get? 82 = some (tabObj ps)) : (h.hide 82).IsList l its := by
  obtain ⟨o, e, hc, r⟩ := hl
  have hb : l ≠ 82 := fun q => by rw [q, h82] at e; cases e; cases hc
  exact ⟨o, by rw [Heap.hide_ne _ hb]; exact e, hc, r⟩
theorem none_hide {h : Heap} {b : Addr} (e : h.get? b = none) : (h.hide 82).get? b = none := by
  cases q : (h.hide 82).get? b with
  | none => rfl
  | some o => rw [hide_sub b o q] at e; cases e
theorem oldK_of {h0 h : Heap} {L : Addr} {m : Str → Option Value} {ps : Array Value} (C : CodeHd h0 86 82) (h82 : h0.get? 82 = some (tabObj #[])) (F : Fr (h0.hide 82) L h m) (N : News (h0.hide 82) L h [(82, tabObj ps)]) : OldK h0 h := by
  have e82 := (N _ (.head _)).1
  dsimp only at e82
  refine ⟨fun b o e => ?_, fun b o e => ?_⟩
  · by_cases q : b = 82
    · subst q
      rw [h82] at e; cases e
      exact .inr (.inl ⟨(C.tab h82).isCodeTable, rfl, #[], ps, rfl, by rw [e82, Array.empty_append]⟩)
    · exact .inl (F.keep b o (by rw [Heap.hide_ne _ q]; exact e))
  · by_cases q : b = 82
    · subst q; exact ⟨_, e82⟩
    · exact ⟨o, F.keep b o (by rw [Heap.hide_ne _ q]; exact e)⟩
theorem news_nd {H h : Heap} {L a b : Addr} {o o' : Obj} {nws : List (Addr × Obj)} (N : News H L h nws) (h1 : (a, o) ∈ nws) (h2 : (b, o') ∈ nws) (hd : o.data ≠ o'.data) : a ≠ b := fun q => by
  subst q
  have e1 := (N _ h1).1
  have e2 := (N _ h2).1
  dsimp only at e1 e2
  rw [e1] at e2; cases e2
  exact hd rfl
section
variable {prog : Program} {w : World} {fa : Addr} {cd : Value} {h0 h : Heap} {L l : Addr} {vs : List Value} {ns : List Int} {gs : Array GenState} {dr : Drawn} {tk : Nat} {os : OsState} {m : Str → Option Value} {o1 o2 o3 : Obj} {Q : Flow → Shared → Prop}
theorem law_all (G : Gd w.params h0) (C : CodeHd h0 86 82) (h82 : h0.get? 82 = some (tabObj #[])) (BM : ∃ mg bm ob, BMod h0 mainGlobals mg bm ob) (hl : h0.IsList l vs.toArray) (hi : IntsAre vs ns) (hn : ns.length ≤ 63) (hb : AllBare gs)
    (F : Fr h0 L h m) (hm : m (Str.ofString "script") = some (.ref l)) (N : News h0 L h [(L + 1 + 1 + 1, o3), (L + 1 + 1, o2), (L + 1, o1)]) (h1 : o1.data = .cell none) (h2 : o2.data = .cell none) (h3 : o3.data = .cell none)
    (fin : ∀ h' g' tk' ps m', AllBare g' → Fr (h0.hide 82) L h' m' → News (h0.hide 82) L h' [(82, tabObj ps)] → Q (.ret (.bool true)) ⟨h', g', dr, tk', os⟩) :
    wpAny (model prog w) (lawA L fa cd) (execs lawBody (lawEnv L fa cd)) Q (fun _ _ => False) ⟨h, gs, dr, tk, os⟩ := by
  have G' := Gd.hide G h82 rfl rfl
  have C' := CodeHd.hide C
  have hl' := isList_hide hl h82
  have BM' : ∃ mg bm ob, BMod (h0.hide 82) mainGlobals mg bm ob := let ⟨mg, bm, ob, x⟩ := BM; ⟨mg, bm, ob, BMod.hide x h82⟩
  have F' := kst_fr [(Str.ofString "script", .ref l)] (Fr.hide (P := 82) F) (List.forall_mem_cons.mpr ⟨hm, List.forall_mem_nil _⟩)
  have hL : (82 : Addr) ≠ L := Nat.ne_of_lt (Nat.lt_of_lt_of_le (Heap.lt_size h82) F.above)
  have up : ∀ p, p ∈ [(L + 1 + 1 + 1, o3), (L + 1 + 1, o2), (L + 1, o1)] → h.get? p.1 = some p.2 ∧ p.1 ≠ L ∧ (h0.hide 82).get? p.1 = none := fun p hp => ⟨(N p hp).1, (N p hp).2.1, none_hide (N p hp).2.2⟩
  have N' : News (h0.hide 82) L h [(L + 1, o1), (L + 1 + 1, o2), (L + 1 + 1 + 1, o3), (82, tabObj #[])] := List.forall_mem_cons.mpr ⟨up _ (.tail _ (.tail _ (.head _))), List.forall_mem_cons.mpr ⟨up _ (.tail _ (.head _)), List.forall_mem_cons.mpr ⟨up _ (.head _), List.forall_mem_cons.mpr ⟨⟨F.keep _ _ h82, hL, Heap.hide_self ..⟩, List.forall_mem_nil _⟩⟩⟩⟩
  obtain ⟨zs1, zs2, zs3⟩ := sizes_ok ns
  have tok := texts_ok ns
  have tl : (lTexts ns).length = 7 := rfl
  refine law_a1 (s := ⟨h, gs, dr, tk, os⟩) G' hl' hi hn F' N' h1 fun ha tka r rvs nn oa ua t1 t2 t3 Fa Na da ra => ?_
  refine law_a2 (s := ⟨ha, gs, dr, tka, os⟩) G' Fa Na da ra fun hb' tkb mo mvs mn ub Fb Nb rb => ?_
  refine law_a3 (s := ⟨hb', gs, dr, tkb, os⟩) G' Fb Nb ra rb fun hc tkc tx tvs tn uc Fc Nc rc => ?_
  refine law_a4 (s := ⟨hc, gs, dr, tkc, os⟩) G' hl' hi hn Fc Nc h2 fun hd' tkd sz svs sn od ud Fd Nd dd rd => ?_
  refine law_b1 (s := ⟨hd', gs, dr, tkd, os⟩) G' rc (by rw [tl]; decide) (fun l hl => (tok l hl).1) Fd Nd fun he tke mk mvs mn ue Fe Ne re => ?_
  refine law_b2 (s := ⟨he, gs, dr, tke, os⟩) G' rc (by rw [tl]; decide) rd zs3 zs1 Fe Ne dd fun hf tkf co cvs cn uf Ff Nf rf kf => ?_
  refine law_b3 (s := ⟨hf, gs, dr, tkf, os⟩) G' rc (by rw [tl]; decide) (fun l hl => (tok l hl).1) Ff Nf fun hg tkg te evs en ug Fg Ng rg kg => ?_
  have hx : ∀ {a : Addr} {o : Obj}, (a, o) ∈ [(L + 1, oa), (L + 1 + 1, od), (L + 1 + 1 + 1, o3), (82, tabObj #[]), (tx, W.listOf tvs.toArray tn), (sz, W.listOf svs.toArray sn), (mk, W.listOf mvs.toArray mn), (co, W.listOf cvs.toArray cn), (te, W.listOf evs.toArray en)] →
      (∃ its n, o.data = .seq its n) → (nw (h0.hide 82) [L, L + 1 + 1 + 1, 82] hg).get? a = some o := fun {a o} hm ⟨its, n, hd⟩ => nw_get.mpr ⟨(Ng _ hm).1, fun q => by
    rcases List.mem_cons.mp q with q | q
    · exact (Ng _ hm).2.1 q
    rcases List.mem_cons.mp q with q | q
    · exact news_nd Ng hm (.tail _ (.tail _ (.head _))) (by rw [hd, h3]; intro z; cases z) q
    · exact news_nd Ng hm (.tail _ (.tail _ (.tail _ (.head _)))) (by rw [hd]; intro z; cases z) (List.mem_singleton.mp q), (Ng _ hm).2.2⟩
  have up3 : Sub (Dp (h0.hide 82) L hg) (nw (h0.hide 82) [L, L + 1 + 1 + 1, 82] hg) := nw_mono fun b hb => by
    rcases List.mem_cons.mp hb with q | q
    · rw [q]; exact .head _
    rcases List.mem_cons.mp q with q | q
    · rw [q]; exact .tail _ (.tail _ (.tail _ (.head _)))
    · rw [List.mem_singleton.mp q]; exact .tail _ (.tail _ (.tail _ (.tail _ (.head _))))
  have M : Made (nw (h0.hide 82) [L, L + 1 + 1 + 1, 82] hg) L tx sz mk co te (lTexts ns) (lSizes ns) :=
    ⟨⟨tvs, tn, hx (.tail _ (.tail _ (.tail _ (.tail _ (.head _))))) ⟨_, _, rfl⟩, rc⟩, ⟨svs, sn, hx (.tail _ (.tail _ (.tail _ (.tail _ (.tail _ (.head _)))))) ⟨_, _, rfl⟩, rd⟩,
     ⟨mvs, mn, hx (.tail _ (.tail _ (.tail _ (.tail _ (.tail _ (.tail _ (.head _))))))) ⟨_, _, rfl⟩, re.keeps ((kf.trans kg).trans up3)⟩, ⟨cvs, cn, hx (.tail _ (.tail _ (.tail _ (.tail _ (.tail _ (.tail _ (.tail _ (.head _)))))))) ⟨_, _, rfl⟩, rf.keeps (kg.trans up3)⟩,
     ⟨evs, en, hx (.tail _ (.tail _ (.tail _ (.tail _ (.tail _ (.tail _ (.tail _ (.tail _ (.head _))))))))) ⟨_, _, rfl⟩, rg.keeps up3⟩,
     ⟨od, nw_get.mpr ⟨(Ng _ (.tail _ (.head _))).1, fun q => by
        rcases List.mem_cons.mp q with q | q
        · exact (Ng _ (.tail _ (.head _))).2.1 q
        rcases List.mem_cons.mp q with q | q
        · exact absurd q (Nat.ne_of_lt (Nat.lt_succ_self _))
        · exact news_nd Ng (.tail _ (.head _)) (.tail _ (.tail _ (.tail _ (.head _)))) (by rw [dd]; intro z; cases z) (List.mem_singleton.mp q), (Ng _ (.tail _ (.head _))).2.2⟩, dd⟩⟩
  refine law_c (s := ⟨hg, gs, dr, tkg, os⟩) G' tl zs3 (fun l hl => fits_of (tok l hl).1 zs1) Fg (News.pick Ng (.tail _ (.tail _ (.head _))) (News.pick Ng (.tail _ (.tail _ (.tail _ (.head _)))) News.nil)) h3 M fun hi' tki o3' ui Fi Ni Mi => ?_
  refine law_d (s := ⟨hi', gs, dr, tki, os⟩) G' C' BM' (ps := #[]) (by show TriplesOk []; simp [TriplesOk]) hb tl zs2 zs3 (pairs_ok ns) Fi (News.pick Ni (.tail _ (.head _)) News.nil) (Mi.keeps (nw_mono fun b hb => ?_)) fun hj gj tkj psj mj hbj Fj Nj => fin _ _ _ _ _ hbj Fj Nj
  rcases List.mem_cons.mp hb with q | q
  · rw [q]; exact .head _
  · rw [List.mem_singleton.mp q]; exact .tail _ (.tail _ (.head _))
end
end Mine
open Mine in
set_option maxHeartbeats 4000000 in
theorem PySem.Challenge.cw_du0019_01_holds : PySem.Challenge.rw_du0019_01.Holds := by
  refine hd ?_
  lge_go0
  rename Top _ _ _ _ _ _ => T
  rename Frag.In _ _ => KX
  rename BMod _ _ _ _ _ => M
  rename Heap.IsList _ _ _ => hL
  rename IntsAre _ _ => hI
  rename Fr _ _ _ _ => F
  rename News _ _ _ _ => N0
  rename CellsAre _ _ _ => X0
  rename ¬ (_ < _) => hc
  rename _ = #[] => hg
  obtain ⟨C, h82⟩ := tab_of (x := Str.ofString "format_witnesses") (c := 86) (P := 82) T KX (by with_unfolding_all rfl) (by with_unfolding_all rfl)
  show wpAny _ (lawA _ _ _) (execs lawBody (lawEnv _ _ _)) _ _ _
  refine wpAny_mono (law_all (fa := _) (cd := _) ⟨KX, _, _, _, _, topRead_of T⟩ C h82 ⟨_, _, _, M⟩ hL hI (by omega) (AllBare.of_eq hg) F ?m N0 ?c1 ?c2 ?c3 ?fin) (fun _ _ x => x) (fun _ _ x => x.elim)
  case m => with_unfolding_all rfl
  case c1 => with_unfolding_all assumption
  case c2 => with_unfolding_all assumption
  case c3 => with_unfolding_all assumption
  case fin =>
    intro h' g' tk' ps m' hb' F' N'
    refine ⟨.inl ⟨.bool true, .bool true, [], rfl, ?r1, .bool true, ?r2, fun _ => ⟨List.nodup_nil, fun _ h => nomatch h⟩⟩, oldK_of C h82 F' N', rfl, hb'⟩
    case r1 => intro cls; rfl
    case r2 => first | exact postW_of rfl (w_eq_bool (w_res rfl) w_lit) rfl | exact postW_of (by with_unfolding_all rfl) (w_eq_bool (w_res (by with_unfolding_all rfl)) w_lit) rfl | (with_unfolding_all exact postW_of rfl (w_eq_bool (w_res rfl) w_lit) rfl)

import PyProof.Rows.All
import Wide.All
import OpenK.AllK
import Wide.FinOn
import Lean
import PySem.Challenge.RW_gw0001_01
set_option Elab.async false
set_option maxRecDepth 100000
set_option linter.unusedVariables false
set_option linter.unusedSimpArgs false

namespace Mine
open PySem PySem.W PyProof.Rows
set_option maxHeartbeats 8000000 in
open_top hd for PySem.Challenge.rw_gw0001_01
end Mine

namespace Mine
open PySem PySem.W PySem.Calls PyProof.Rows PySem.Spec
theorem resetB1 : True := by
  w_top off
  exact trivial

/-- addresses of a ledger lie off one address -/
def AllNe (d : Addr) : List (Addr × Obj) → Prop
  | [] => True
  | p :: r => @Ne Nat p.1 d ∧ AllNe d r
theorem allNe_of {d : Addr} : ∀ {l : List (Addr × Obj)}, (∀ p ∈ l, p.1 ≠ d) → AllNe d l
  | [], _ => trivial
  | p :: _, h => ⟨h p (.head _), allNe_of fun q hq => h q (.tail _ hq)⟩
theorem AllNe.get {d : Addr} : ∀ {l : List (Addr × Obj)}, AllNe d l → ∀ p ∈ l, p.1 ≠ d
  | [], _, _, hp => (List.not_mem_nil hp).elim
  | q :: r, h, p, hp => (List.mem_cons.mp hp).elim (fun e => e ▸ h.1) fun hp => AllNe.get h.2 p hp
/-- every entry of the first list lies off the second -/
def Off (rest : List (Addr × Obj)) : List (Addr × Obj) → Prop
  | [] => True
  | q :: r => AllNe q.1 rest ∧ Off rest r
theorem off_of {rest : List (Addr × Obj)} : ∀ {l : List (Addr × Obj)}, (∀ q ∈ l, ∀ p ∈ rest, p.1 ≠ q.1) → Off rest l
  | [], _ => trivial
  | q :: _, h => ⟨allNe_of (h q (.head _)), off_of fun p hp => h p (.tail _ hp)⟩
theorem Off.get {rest : List (Addr × Obj)} : ∀ {l : List (Addr × Obj)}, Off rest l → ∀ q ∈ l, ∀ p ∈ rest, p.1 ≠ q.1
  | [], _, _, hp => (List.not_mem_nil hp).elim
  | q :: r, h, p, hp => (List.mem_cons.mp hp).elim (fun e => e ▸ h.1.get) fun hp => Off.get h.2 p hp

/-- the ledger less a tail -/
inductive Split (T : List (Addr × Obj)) : List (Addr × Obj) → List (Addr × Obj) → Prop
  | nil : Split T T []
  | cons {x all rest} : Split T all rest → Split T (x :: all) (x :: rest)
theorem Split.eq {T all rest : List (Addr × Obj)} (h : Split T all rest) : all = rest ++ T := by
  induction h with
  | nil => rfl
  | cons _ ih => rw [ih]; rfl

abbrev PG : Program := Challenge.rw_gw0001_01.row.prog

/-- what a body's end must show -/
def EndT (g : Heap) (post : Value → List (Addr × Obj) → Prop) (s₁ : Shared) (fl : Flow) (s' : Shared) : Prop :=
  ∃ v news' L' m' h tk, (fl = .ret v ∨ (fl = .next ∧ v = .none)) ∧ post v news' ∧ Fr g L' h m' ∧ News g L' h news' ∧ s' = { s₁ with heap := h, toks := tk }
theorem EndT.intro {g h : Heap} {post : Value → List (Addr × Obj) → Prop} {s₁ : Shared} {v : Value} {L' : Addr} {m' : Str → Option Value} {news' : List (Addr × Obj)} {tk : Nat}
    (hp : post v news') (F : Fr g L' h m') (N : News g L' h news') : EndT g post s₁ (.ret v) { s₁ with heap := h, toks := tk } :=
  ⟨v, news', L', m', h, tk, .inl rfl, hp, F, N, rfl⟩
theorem EndT.next {g h : Heap} {post : Value → List (Addr × Obj) → Prop} {s₁ : Shared} {L' : Addr} {m' : Str → Option Value} {news' : List (Addr × Obj)} {tk : Nat}
    (hp : post .none news') (F : Fr g L' h m') (N : News g L' h news') : EndT g post s₁ .next { s₁ with heap := h, toks := tk } :=
  ⟨.none, news', L', m', h, tk, .inr ⟨rfl, rfl⟩, hp, F, N, rfl⟩

section
variable {w : World} {A₀ A : Around} {s : Shared} {base h₀ : Heap} {outer : List Env} {L : Addr} {m : Str → Option Value} {env : Env} {news rest : List (Addr × Obj)} {K : Frag}
  {loose : List Str} {mean : ExcName → Option Value} {mg mb : Str → Option Value} {p : Program}

/-- the frame rule: what of the ledger the callee does not see stands as it stood -/
theorem frame_back {E : Value → Shared → Prop} {Q : Value → Shared → Prop} {post : Value → List (Addr × Obj) → Prop} {s₁ : Shared} {L' : Addr}
    (F : Fr h₀ L s.heap m) (N : News h₀ L s.heap news) (NR : News h₀ L s.heap rest) (hap : Off rest news)
    (lv : ∀ (R : Result → Shared → Prop) v s', LeaveK h₀ L m (hideAll s.heap (news.map (·.1))) R v s' → R (.ok (.ret v)) s')
    (hQ : ∀ v news' h' tk', post v news' → Fr h₀ L h' m → News h₀ L h' (news' ++ rest) → Off rest news' → Q v { s with heap := h', toks := tk' })
    {fl : Flow} {s' : Shared} {h₁ : Heap} {tk₁ : Nat} (he : EndT (hideAll s.heap (news.map (·.1))) post { s with heap := h₁, toks := tk₁ } fl s') :
    (match (generalizing := false) (Except.ok (.ret (match (generalizing := false) fl with | .ret v => v | _ => .none)) : Result) with | .ok (.ret v) => Q v s' | .ok _ => False | .error e => E e s') := by
  obtain ⟨v, news', L₂, m₂, h, tk, hv, hp, F', N', rfl⟩ := he
  have hv' : (match (generalizing := false) fl with | .ret v => v | _ => .none) = v := by
    rcases hv with rfl | ⟨rfl, rfl⟩ <;> rfl
  rw [hv']
  refine lv (fun r s' => match r with | .ok (.ret v) => Q v s' | .ok _ => False | .error e => E e s') v _ ⟨L₂, m₂, news', F', N', fun FH NH => ?_⟩
  have rg : ∀ q ∈ rest, (hideAll s.heap (news.map (·.1))).get? q.1 = some q.2 := fun q hq => hideAll_get _ (NR q hq).1 fun hm => by
    obtain ⟨r, hr, e⟩ := List.mem_map.mp hm
    exact hap.get r hr q hq e.symm
  refine hQ v news' h tk hp FH (fun q hq => ?_) (off_of fun q hq r hr e => ?_)
  · rcases List.mem_append.mp hq with hq | hq
    · exact NH q hq
    · exact ⟨F'.keep _ _ (rg q hq), (NR q hq).2⟩
  · have h1 := rg r hr
    have h2 := (N' q hq).2.2
    rw [← e, h1] at h2
    cases h2

theorem enterT {E : Value → Shared → Prop} {Q : Value → Shared → Prop} {post : Value → List (Addr × Obj) → Prop} {name qual : Str} {params : Arguments} {body : List Stmt} {scope : Scope} {cl : List (Str × Addr)} {dV kV doc pm cdv ct : Value} {an : Option Addr} {fo : Obj} {f : Addr} {vs : List Value} {binds : List (Str × Value)}
    (B : Below A₀ base outer h₀) (F : Fr h₀ L s.heap m) (X₀ : K.In h₀) (N : News h₀ L s.heap news) (NR : News h₀ L s.heap rest) (hap : Off rest news) (T : Top p loose mean mg mb h₀)
    (hA : A.frames = some (env :: outer)) (hf : env.frame = some L) (hke : env.scope.kind = .function)
    (ho : s.heap.get? f = some fo) (hd : fo.data = .func (fnX name qual params body scope cl dV kV doc pm an cdv ct)) (hcd : s.heap.CodeRec cdv qual) (hroom : A.depth < recursionLimit)
    (hbind : BindsTo s (fnX name qual params body scope cl dV kV doc pm an cdv ct) ⟨vs, []⟩ binds) (hloc : ∀ y ∈ binds, scope.names.lookup y.1 = some .local)
    (h : ∀ g L' h₁ tk₁, Fr g L' h₁ (fun y => binds.reverse.lookup y) → News g L' h₁ news → Below A base (env :: outer) g → K.In g → Top p loose mean mg mb g → (∀ q ∈ news, q.1 < L') →
      wpAny (model PG w) (A.deeper (envX qual scope L' f cdv cl)) (execs body (envX qual scope L' f cdv cl)) (EndT g post { s with heap := h₁, toks := tk₁ }) (fun _ _ => False) { s with heap := h₁, toks := tk₁ })
    (hQ : ∀ v news' h' tk', post v news' → Fr h₀ L h' m → News h₀ L h' (news' ++ rest) → Off rest news' → Q v { s with heap := h', toks := tk' })
    (hcell : ∀ x ∈ scope.names, x.2 ≠ .cell) (hco : scope.isCoroutine = false) (hgen : scope.isGenerator = false) (hk : scope.kind = .function) :
    wpAny (model PG w) A (call (.ref f) vs) Q E s := by
  refine wpAny_call ?_
  have G := fun R => groundX (R := R) B F N hA hf hke
  obtain ⟨FG, BG, st, _⟩ := G (fun _ _ => True)
  refine codeAny_call_def (fd := fnX name qual params body scope cl dV kV doc pm an cdv ct) (body := body) (binds := binds) hroom ho hd (T.nolimit.keeps F.keep) hcd rfl hbind hcell hloc (fun h₁ hns hk₁ => ?_) hco hgen hk
  refine wpAny_mono (h _ s.heap.objs.size h₁ _ ⟨hns, fun b o e => hk₁ b o (of_hideAll _ e), Nat.le_of_eq (hideAll_size _ _)⟩
    (fun q hq => ⟨hk₁ _ _ (N q hq).1, Nat.ne_of_lt (Heap.lt_size (N q hq).1), hideAll_none _ (List.mem_map_of_mem hq)⟩) BG (X₀.keeps st) (T.keeps st) (fun q hq => Heap.lt_size (N q hq).1)) (fun fl s' he => ?_) fun _ _ y => y.elim
  exact frame_back (E := E) (L' := s.heap.objs.size) (s₁ := s) F N NR hap (fun R => (G R).2.2.2) hQ he

theorem enterC {E : Value → Shared → Prop} {Q : Value → Shared → Prop} {post : Value → List (Addr × Obj) → Prop} {name qual : Str} {params : Arguments} {body : List Stmt} {scope : Scope} {dV kV doc pm cdv ct : Value} {an : Option Addr} {fo : Obj} {f : Addr} {vs : List Value} {binds : List (Str × Value)}
    (B : Below A₀ base outer h₀) (F : Fr h₀ L s.heap m) (X₀ : K.In h₀) (N : News h₀ L s.heap news) (NR : News h₀ L s.heap rest) (hap : Off rest news) (T : Top p loose mean mg mb h₀)
    (hA : A.frames = some (env :: outer)) (hf : env.frame = some L) (hke : env.scope.kind = .function)
    (ho : s.heap.get? f = some fo) (hd : fo.data = .func (fnX name qual params body scope [] dV kV doc pm an cdv ct)) (hcd : s.heap.CodeRec cdv qual) (hroom : A.depth < recursionLimit)
    (hbind : BindsTo s (fnX name qual params body scope [] dV kV doc pm an cdv ct) ⟨vs, []⟩ binds) (hkind : (binds.all fun y => scope.names.lookup y.1 == some .local || scope.names.lookup y.1 == some .cell) = true)
    (hnd : ((cellsFrom 0 scope.names []).map (·.1)).Nodup)
    (h : ∀ g L' h₁ tk₁ cells, Fr g L' h₁ (bindL (envOfC qual scope L' f cdv).kindOf binds fun _ => none) → News g L' h₁ (cells ++ news) →
      CellsAre (bindC (envOfC qual scope L' f cdv).kindOf binds fun _ => none) (cellsFrom (L' + 1) scope.names []) cells → Below A base (env :: outer) g → K.In g → Top p loose mean mg mb g → (∀ q ∈ news, q.1 < L') →
      wpAny (model PG w) (A.deeper (envOfC qual scope L' f cdv)) (execs body (envOfC qual scope L' f cdv)) (EndT g post { s with heap := h₁, toks := tk₁ }) (fun _ _ => False) { s with heap := h₁, toks := tk₁ })
    (hQ : ∀ v news' h' tk', post v news' → Fr h₀ L h' m → News h₀ L h' (news' ++ rest) → Off rest news' → Q v { s with heap := h', toks := tk' })
    (hco : scope.isCoroutine = false) (hgen : scope.isGenerator = false) (hk : scope.kind = .function) :
    wpAny (model PG w) A (call (.ref f) vs) Q E s := by
  refine wpAny_call ?_
  have G := fun R => groundX (R := R) B F N hA hf hke
  obtain ⟨FG, BG, st, _⟩ := G (fun _ _ => True)
  refine codeAny_call_function hroom ho hd hco hgen rfl hcd (hbind _ _ _ _ ?_)
  refine wpAny_newFunctionEnv_cells hk (kindsX hkind _) fun env' he s' x => ?_
  subst he
  refine ⟨(T.nolimit.keeps F.keep).keeps x.toInCall.keep, codeAny_func ?_⟩
  obtain ⟨h₁, tk, rfl, _⟩ := x.done
  have hk₁ := x.toInCall.keep
  obtain ⟨cells, NC, Y⟩ := Cl.news (h₀ := s.heap) (Nat.le_refl _) fun n c hm => ⟨x.cell n c (lookup_of_mem_nodup (cellsFrom_names scope.names 0 (s.heap.objs.size + 1) [] [] rfl ▸ hnd) hm), x.above n c hm⟩
  refine wpAny_mono (h _ s.heap.objs.size h₁ tk cells ⟨x.toInCall.ns, fun b o e => hk₁ b o (of_hideAll _ e), Nat.le_of_eq (hideAll_size _ _)⟩ (fun q hq => ?_) Y BG (X₀.keeps st) (T.keeps st) (fun q hq => Heap.lt_size (N q hq).1)) (fun fl s' he => ?_) fun _ _ y => y.elim
  · rcases List.mem_append.mp hq with hq | hq
    · refine ⟨(NC q hq).1, (NC q hq).2.1, ?_⟩
      cases z : (hideAll s.heap (news.map (·.1))).get? q.1 with
      | none => rfl
      | some o => have := of_hideAll _ z; rw [(NC q hq).2.2] at this; cases this
    · exact ⟨hk₁ _ _ (N q hq).1, Nat.ne_of_lt (Heap.lt_size (N q hq).1), hideAll_none _ (List.mem_map_of_mem hq)⟩
  · exact frame_back (E := E) (L' := s.heap.objs.size) (s₁ := s) F N NR hap (fun R => (G R).2.2.2) hQ he
end

section
variable {w : World} {A₀ A : Around} {s : Shared} {base h₀ : Heap} {outer : List Env} {L : Addr} {m : Str → Option Value} {env : Env} {news rest : List (Addr × Obj)} {K : Frag}
  {loose : List Str} {mean : ExcName → Option Value} {mg mb : Str → Option Value} {p : Program}
theorem enterK {E : Value → Shared → Prop} {Q : Value → Shared → Prop} {post : Value → List (Addr × Obj) → Prop} {name qual : Str} {params : Arguments} {body : List Stmt} {scope : Scope} {dV kV doc pm cdv ct oc : Value} {an od : Option Addr} {osl : Array (Option Value)} {f : Addr} {vs : List Value} {binds : List (Str × Value)}
    (B : Below A₀ base outer h₀) (F : Fr h₀ L s.heap m) (X₀ : K.In h₀) (N : News h₀ L s.heap news) (NR : News h₀ L s.heap rest) (hap : Off rest news) (T : Top p loose mean mg mb h₀)
    (hA : A.frames = some (env :: outer)) (hf : env.frame = some L) (hke : env.scope.kind = .function)
    (hQ : ∀ v news' h' tk', post v news' → Fr h₀ L h' m → News h₀ L h' (news' ++ rest) → Off rest news' → Q v { s with heap := h', toks := tk' })
    (ho : K.lookup f = some ⟨oc, od, .func (fnX name qual params body scope [] dV kV doc pm an cdv ct), osl⟩) (hcd : codeIn K cdv qual = true) (hroom : A.depth < recursionLimit)
    (hbind : BindsTo s (fnX name qual params body scope [] dV kV doc pm an cdv ct) ⟨vs, []⟩ binds) (hloc : ∀ y ∈ binds, scope.names.lookup y.1 = some .local)
    (h : ∀ g L' h₁ tk₁, Fr g L' h₁ (fun y => binds.reverse.lookup y) → News g L' h₁ news → Below A base (env :: outer) g → K.In g → Top p loose mean mg mb g → (∀ q ∈ news, q.1 < L') →
      wpAny (model PG w) (A.deeper (envOf qual scope L' f cdv)) (execs body (envOf qual scope L' f cdv)) (EndT g post { s with heap := h₁, toks := tk₁ }) (fun _ _ => False) { s with heap := h₁, toks := tk₁ })
    (hcell : ∀ x ∈ scope.names, x.2 ≠ .cell) (hco : scope.isCoroutine = false) (hgen : scope.isGenerator = false) (hk : scope.kind = .function) :
    wpAny (model PG w) A (call (.ref f) vs) Q E s :=
  enterT (cl := []) B F X₀ N NR hap T hA hf hke (F.keep _ _ (X₀ _ _ ho)) rfl (codeRec_of (X₀.keeps F.keep) hcd) hroom hbind hloc h hQ hcell hco hgen hk
theorem enterKC {E : Value → Shared → Prop} {Q : Value → Shared → Prop} {post : Value → List (Addr × Obj) → Prop} {name qual : Str} {params : Arguments} {body : List Stmt} {scope : Scope} {dV kV doc pm cdv ct oc : Value} {an od : Option Addr} {osl : Array (Option Value)} {f : Addr} {vs : List Value} {binds : List (Str × Value)}
    (B : Below A₀ base outer h₀) (F : Fr h₀ L s.heap m) (X₀ : K.In h₀) (N : News h₀ L s.heap news) (NR : News h₀ L s.heap rest) (hap : Off rest news) (T : Top p loose mean mg mb h₀)
    (hA : A.frames = some (env :: outer)) (hf : env.frame = some L) (hke : env.scope.kind = .function)
    (hQ : ∀ v news' h' tk', post v news' → Fr h₀ L h' m → News h₀ L h' (news' ++ rest) → Off rest news' → Q v { s with heap := h', toks := tk' })
    (ho : K.lookup f = some ⟨oc, od, .func (fnX name qual params body scope [] dV kV doc pm an cdv ct), osl⟩) (hcd : codeIn K cdv qual = true) (hroom : A.depth < recursionLimit)
    (hbind : BindsTo s (fnX name qual params body scope [] dV kV doc pm an cdv ct) ⟨vs, []⟩ binds) (hkind : (binds.all fun y => scope.names.lookup y.1 == some .local || scope.names.lookup y.1 == some .cell) = true)
    (hnd : ((cellsFrom 0 scope.names []).map (·.1)).Nodup)
    (h : ∀ g L' h₁ tk₁ cells, Fr g L' h₁ (bindL (envOfC qual scope L' f cdv).kindOf binds fun _ => none) → News g L' h₁ (cells ++ news) →
      CellsAre (bindC (envOfC qual scope L' f cdv).kindOf binds fun _ => none) (cellsFrom (L' + 1) scope.names []) cells → Below A base (env :: outer) g → K.In g → Top p loose mean mg mb g → (∀ q ∈ news, q.1 < L') →
      wpAny (model PG w) (A.deeper (envOfC qual scope L' f cdv)) (execs body (envOfC qual scope L' f cdv)) (EndT g post { s with heap := h₁, toks := tk₁ }) (fun _ _ => False) { s with heap := h₁, toks := tk₁ })
    (hco : scope.isCoroutine = false) (hgen : scope.isGenerator = false) (hk : scope.kind = .function) :
    wpAny (model PG w) A (call (.ref f) vs) Q E s :=
  enterC B F X₀ N NR hap T hA hf hke (F.keep _ _ (X₀ _ _ ho)) rfl (codeRec_of (X₀.keeps F.keep) hcd) hroom hbind hkind hnd h hQ hco hgen hk
end

/-- the contract of a call: the ledger's part that it needs, what it leaves -/
def Ct (w : World) (f : Addr) (vs : List Value) (news : List (Addr × Obj)) (dk uk : Nat) (post : Value → List (Addr × Obj) → Prop) : Prop :=
  ∀ (loose : List Str) (mean : ExcName → Option Value) (mg mb : Str → Option Value) (dp un : Nat) (gd : Option (List Code)) (cn : Str) (cs : Scope) (a : Addr) (ccd : Value) (cl : List (Str × Addr)) (outer : List Env) (A₀ : Around) (base h₀ : Heap) (L : Addr) (m : Str → Option Value) (s : Shared) (Q E : Value → Shared → Prop) (rest : List (Addr × Obj)),
    Below A₀ base outer h₀ → Fr h₀ L s.heap m → (hd.heap_39 w.params).In h₀ → News h₀ L s.heap news → News h₀ L s.heap rest → Off rest news → Top topProg loose mean mg mb h₀ → cs.kind = .function → dp + dk < recursionLimit → un + uk < cLine →
    (∀ v news' h' tk', post v news' → Fr h₀ L h' m → News h₀ L h' (news' ++ rest) → Off rest news' → Q v { s with heap := h', toks := tk' }) →
    wpAny (model PG w) (ktrTop dp un gd cn cs L a ccd cl outer) (call (.ref f) vs) Q E s
theorem Ct.use {w : World} {f : Addr} {vs : List Value} {news all rest : List (Addr × Obj)} {dk uk : Nat} {post : Value → List (Addr × Obj) → Prop} (C : Ct w f vs news dk uk post)
    {loose : List Str} {mean : ExcName → Option Value} {mg mb : Str → Option Value} {dp un : Nat} {gd : Option (List Code)} {cn : Str} {cs : Scope} {a : Addr} {ccd : Value} {cl : List (Str × Addr)} {outer : List Env} {A₀ : Around} {base h₀ : Heap} {L : Addr} {m : Str → Option Value} {s : Shared} {Q E : Value → Shared → Prop}
    (B : Below A₀ base outer h₀) (F : Fr h₀ L s.heap m) (X : (hd.heap_39 w.params).In h₀) (N : News h₀ L s.heap all) (S : Split news all rest) (O : Off rest news) (T : Top topProg loose mean mg mb h₀) (hk : cs.kind = .function) (hd : dp + dk < recursionLimit) (hu : un + uk < cLine)
    (hQ : ∀ v news' h' tk', post v news' → Fr h₀ L h' m → News h₀ L h' (news' ++ rest) → Off rest news' → Q v { s with heap := h', toks := tk' }) :
    wpAny (model PG w) (ktrTop dp un gd cn cs L a ccd cl outer) (call (.ref f) vs) Q E s :=
  C loose mean mg mb dp un gd cn cs a ccd cl outer A₀ base h₀ L m s Q E rest B F X (fun p hp => N p (S.eq ▸ List.mem_append_right _ hp)) (fun p hp => N p (S.eq ▸ List.mem_append_left _ hp)) O T hk hd hu hQ
def Stop (P : Prop) : Prop := P
theorem stop_of {P : Prop} (h : Stop P) : P := h
theorem Stop.go {P : Prop} (h : P) : Stop P := h
end Mine

namespace Mine
open PySem PySem.W PySem.Calls PyProof.Rows PySem.Spec
theorem resetD1 : True := by
  w_top off
  exact trivial

theorem bits_le {a : Int} {k : Nat} (h0 : 0 ≤ a) (h : a < 2 ^ k) : Builtin.Int.intBits a ≤ k := by
  unfold Builtin.Int.intBits
  split
  · omega
  · rename_i hz
    have hz' : a ≠ 0 := by simpa using hz
    have : a.natAbs.log2 < k := (Nat.log2_lt (by omega)).mpr (by
      have : ((2 ^ k : Nat) : Int) = (2 : Int) ^ k := by simp
      omega)
    omega

theorem fill (w : World) : (hd.heap_39 w.params).In default → Challenge.rw_gw0001_01 = Challenge.rw_gw0001_01 := by
  k_fill
  intro _; rfl
abbrev tup2 (D : Addr) (x y : Int) (t u : Tok) (c : Nat) : Addr × Obj := (D, { cls := .type "tuple", data := .seq #[.int x t, .int y u] c })

set_option maxHeartbeats 8000000 in
theorem div2_ct (w : World) (a b n : Int) (ta tb tn : Tok) (ha : 0 ≤ a) (ha' : a < 2 ^ 70) (hb : 0 < b) (hb' : b < 64) (hn : 0 ≤ n) :
    Ct w 21 [.int a ta, .int b tb, .int n tn] [] 2 16 (fun v news' => ∃ D t1 t2 c, v = .ref D ∧ news' = [tup2 D (a / b) (a % b) t1 t2 c]) := by
  intro loose mean mg mb dp un gd cn cs aA ccd cl outer A₀ base h₀ L m s Q E rest B F X N NR hap T hk hd hu hQ
  refine' enterK B F X N NR hap T rfl rfl hk hQ ?k6 ?k7 ?k8 ?k9 ?kB ?_ ?c5 ?c2 ?c3 ?c4
  (case k6 => k_is); (case k7 => k_is); (case k8 => first | assumption | (dsimp only [ktrTop]; omega)); (case k9 => exact BindsTo.of_eq rfl); (case c5 => decide); (case kB => exact locs rfl); (case c2 => exact rfl); (case c3 => exact rfl); (case c4 => exact rfl)
  clear hQ NR hap B F X N T hu
  intro g' L' h' tk' F' N' B' X' T' l'; (try dsimp only); (try k_lt l')
  show wpAny _ _ _ _ _ _
  k_fold
  have hbl : ((Builtin.Int.intBits a : Nat) : Int) - n ≤ 4000 := by have := bits_le ha ha'; omega
  clear ha'
  k_steps
  rw [Int.fdiv_eq_ediv_of_nonneg _ (by omega), Int.fmod_eq_emod_of_nonneg _ (by omega)] at *
  exact EndT.intro ⟨_, _, _, _, rfl, rfl⟩ (by assumption) (by assumption)
end Mine

namespace Mine
/-- the figures of a number, the lowest first -/
def digs (B : Int) : Nat → Int → List Int
  | 0, _ => []
  | k + 1, x => x % B :: digs B k (x / B)
theorem digs_length (B : Int) : ∀ (k : Nat) (x : Int), (digs B k x).length = k
  | 0, _ => rfl
  | k + 1, x => by rw [digs, List.length_cons, digs_length B k]
theorem digs_split {B : Int} (hB : 0 < B) (q : Nat) : ∀ (p : Nat) (x : Int), digs B (p + q) x = digs B p (x % B ^ p) ++ digs B q (x / B ^ p)
  | 0, x => by simp [digs]
  | p + 1, x => by
    have e1 : p + 1 + q = (p + q) + 1 := by omega
    rw [e1, digs, digs, digs_split hB q p]
    have h1 : x % B ^ (p + 1) % B = x % B := Int.emod_emod_of_dvd x ⟨B ^ p, by rw [Int.pow_succ, Int.mul_comm]⟩
    have hp : 0 < B ^ p := Int.pow_pos hB
    have h2 : x / B ^ (p + 1) = x / B / B ^ p := by
      rw [Int.pow_succ, Int.mul_comm (B ^ p) B, Int.ediv_ediv_of_nonneg (by omega)]
    have h3 : x % B ^ (p + 1) / B = x / B % B ^ p := by
      rw [Int.pow_succ, Int.mul_comm (B ^ p) B, Int.emod_def, Int.emod_def, ← Int.ediv_ediv_of_nonneg (by omega), Int.mul_assoc]
      rw [Int.sub_eq_add_neg, ← Int.mul_neg, Int.add_mul_ediv_left _ _ (by omega)]
      omega
    rw [h1, h2, h3]; rfl
def fillD (ns : List Int) (B x : Int) (lo hi : Nat) : List Int := ns.take lo ++ digs B (hi - lo) x ++ ns.drop hi
theorem fillD_length {ns : List Int} {B x : Int} {lo hi : Nat} (h : lo ≤ hi) (hh : hi ≤ ns.length) : (fillD ns B x lo hi).length = ns.length := by
  simp [fillD, digs_length]; omega
theorem fillD_leaf {ns : List Int} {B x : Int} {lo : Nat} (h : lo < ns.length) (h0 : 0 ≤ x) (h1 : x < B) : ns.set lo x = fillD ns B x lo (lo + 1) := by
  unfold fillD
  have e : lo + 1 - lo = 1 := by omega
  rw [e, digs, digs, Int.emod_eq_of_lt h0 h1, List.set_eq_take_append_cons_drop, if_pos h]
  simp
theorem fillD_join {ns : List Int} {B x : Int} {lo mid hi : Nat} (hB : 0 < B) (h1 : lo ≤ mid) (h2 : mid ≤ hi) (h3 : hi ≤ ns.length) :
    fillD (fillD ns B (x % B ^ (mid - lo)) lo mid) B (x / B ^ (mid - lo)) mid hi = fillD ns B x lo hi := by
  have el : (ns.take lo ++ digs B (mid - lo) (x % B ^ (mid - lo))).length = mid := by simp [digs_length]; omega
  unfold fillD
  rw [List.take_append_of_le_length (by omega), List.take_of_length_le (by omega), List.drop_append]
  rw [List.drop_of_length_le (by omega), el, List.drop_drop]
  have e1 : hi - lo = (mid - lo) + (hi - mid) := by omega
  have e2 : mid + (hi - mid) = hi := by omega
  rw [e1, digs_split hB, e2]
  simp
theorem fillD_whole {ns : List Int} {B x : Int} {k : Nat} (h : ns.length = k) : fillD ns B x 0 k = digs B k x := by
  unfold fillD
  subst h
  simp
end Mine
namespace Mine
/-- the number that figures make, the lowest first -/
def und (B : Int) : List Int → Int
  | [] => 0
  | d :: r => d + B * und B r
theorem und_append (B : Int) : ∀ p q : List Int, und B (p ++ q) = und B p + B ^ p.length * und B q
  | [], q => by simp [und]
  | d :: p, q => by
    rw [List.cons_append, und, und_append B p q, und, List.length_cons, Int.pow_succ, Int.mul_add, ← Int.mul_assoc, Int.mul_comm B (B ^ p.length)]
    omega
theorem und_bounds {B : Int} (hB : 0 < B) : ∀ l : List Int, (∀ d ∈ l, 0 ≤ d ∧ d < B) → 0 ≤ und B l ∧ und B l < B ^ l.length
  | [], _ => by simp [und]
  | d :: l, h => by
    obtain ⟨h0, h1⟩ := und_bounds hB l fun x hx => h x (.tail _ hx)
    obtain ⟨h2, h3⟩ := h d (.head _)
    rw [und, List.length_cons, Int.pow_succ, Int.mul_comm (B ^ l.length) B]
    have h4 := Int.mul_nonneg (Int.le_of_lt hB) h0
    have h5 : B * (und B l + 1) ≤ B * B ^ l.length := Int.mul_le_mul_of_nonneg_left h1 (Int.le_of_lt hB)
    rw [Int.mul_add] at h5
    omega
def part (ns : List Int) (lo hi : Nat) : List Int := (ns.drop lo).take (hi - lo)
theorem part_length {ns : List Int} {lo hi : Nat} (h : hi ≤ ns.length) : (part ns lo hi).length = hi - lo := by simp [part]; omega
theorem part_mem {ns : List Int} {lo hi : Nat} {d : Int} (h : d ∈ part ns lo hi) : d ∈ ns := List.mem_of_mem_drop (List.mem_of_mem_take h)
theorem part_join {ns : List Int} {lo mid hi : Nat} (h1 : lo ≤ mid) (h2 : mid ≤ hi) : part ns lo hi = part ns lo mid ++ part ns mid hi := by
  unfold part
  have e : hi - lo = (mid - lo) + (hi - mid) := by omega
  rw [e, List.take_add, List.drop_drop]
  have e2 : lo + (mid - lo) = mid := by omega
  rw [e2]
theorem part_leaf {ns : List Int} {lo : Nat} (h : lo < ns.length) (B : Int) : und B (part ns lo (lo + 1)) = ns.getD lo 0 := by
  unfold part
  have e : lo + 1 - lo = 1 := by omega
  rw [e, List.drop_eq_getElem_cons h, List.take_succ_cons, List.take_zero, und, und]
  simp [List.getD_eq_getElem?_getD, h]
theorem part_whole (ns : List Int) : part ns 0 ns.length = ns := by simp [part]
end Mine
namespace Mine
theorem digs_mem {B : Int} (hB : 0 < B) : ∀ (k : Nat) (x : Int), ∀ d ∈ digs B k x, 0 ≤ d ∧ d < B
  | 0, _, _, h => by simp [digs] at h
  | k + 1, x, d, h => by
    rw [digs] at h
    rcases List.mem_cons.mp h with rfl | h
    · exact ⟨Int.emod_nonneg _ (by omega), Int.emod_lt_of_pos _ hB⟩
    · exact digs_mem hB k _ d h
theorem und_digs {B : Int} (hB : 0 < B) : ∀ (k : Nat) (x : Int), und B (digs B k x) = x % B ^ k
  | 0, x => by simp [digs, und, Int.emod_one]
  | k + 1, x => by
    rw [digs, und, und_digs hB k, Int.pow_succ, Int.mul_comm (B ^ k) B, Int.emod_def x (B * B ^ k), Int.emod_def (x / B), Int.emod_def x B, Int.ediv_ediv_of_nonneg (by omega), Int.mul_sub, Int.mul_assoc]
    omega
/-- one step of the long division -/
theorem ld_step {B b V d : Int} (hb : 0 < b) (hbB : b ≤ 64) (hB : b < B) (hB' : B ≤ 64) (hV : 0 ≤ V) (hd : 0 ≤ d) (hd' : d < B) :
    0 ≤ V % b * B + d ∧ V % b * B + d < 2 ^ 70 ∧ 0 ≤ (V % b * B + d) / b ∧ (V % b * B + d) / b < B ∧ (V * B + d) % b = (V % b * B + d) % b ∧ (V * B + d) / b = V / b * B + (V % b * B + d) / b := by
  have h0 := Int.emod_nonneg V (show b ≠ 0 by omega)
  have h1 := Int.emod_lt_of_pos V hb
  have h2 : V % b * B ≤ (b - 1) * B := Int.mul_le_mul_of_nonneg_right (by omega) (by omega)
  have h2' := Int.mul_nonneg h0 (show 0 ≤ B by omega)
  have h3 : b * B ≤ 64 * 64 := Int.mul_le_mul hbB hB' (by omega) (by omega)
  have h4 : (b - 1) * B = b * B - B := by rw [Int.sub_mul, Int.one_mul]
  have hV' := Int.mul_ediv_add_emod V b
  have e : V * B + d = (V % b * B + d) + b * (V / b * B) := by
    have : V * B = b * (V / b) * B + V % b * B := by rw [← Int.add_mul, hV']
    rw [this, Int.mul_assoc]; omega
  refine ⟨by omega, by omega, Int.ediv_nonneg (by omega) (by omega), Int.ediv_lt_of_lt_mul hb (by have := Int.mul_comm B b; omega), ?_, ?_⟩
  · rw [e, Int.add_mul_emod_self_left]
  · rw [e, Int.add_mul_ediv_left _ _ (by omega)]
    omega
theorem ld_inv {B V d : Int} {ds : List Int} : V * B ^ (d :: ds).length + und B (d :: ds).reverse = (V * B + d) * B ^ ds.length + und B ds.reverse := by
  rw [List.reverse_cons, und_append, List.length_reverse, List.length_cons, Int.pow_succ, und, und, Int.add_mul, Int.mul_assoc, Int.mul_comm B (B ^ ds.length), Int.mul_comm (B ^ ds.length) (d + B * 0)]
  simp; omega
end Mine

namespace Mine
open PySem PySem.W PyProof.Rows
theorem resetL2 : True := by
  w_top off
  exact trivial
theorem and_low (x : Int) : ∀ k : Nat, Builtin.bitAnd x (x / 2 ^ k * 2 ^ k) = x / 2 ^ k * 2 ^ k
  | 0 => by
    have := bitXor_self x
    rw [bitXor_and] at this
    simp; omega
  | k + 1 => by
    have h2 : (2 : Int) ^ (k + 1) = 2 * 2 ^ k := by rw [Int.pow_succ, Int.mul_comm]
    have e1 : x / 2 ^ (k + 1) = x / 2 / 2 ^ k := by rw [h2, Int.ediv_ediv_of_nonneg (by omega)]
    have e2 : x / 2 ^ (k + 1) * 2 ^ (k + 1) = 2 * (x / 2 / 2 ^ k * 2 ^ k) := by rw [e1, h2]; simp [Int.mul_left_comm]
    have e3 : (2 * (x / 2 / 2 ^ k * 2 ^ k)) / 2 = x / 2 / 2 ^ k * 2 ^ k := by omega
    have e4 : ¬ (2 * (x / 2 / 2 ^ k * 2 ^ k)) % 2 = 1 := by omega
    rw [e2, kbt_halves, e3, and_low (x / 2) k, if_neg (fun h => e4 h.2)]
    omega
theorem xor_low (x : Int) (k : Nat) : Builtin.bitXor x (x / 2 ^ k * 2 ^ k) = x % 2 ^ k := by
  rw [bitXor_and, and_low, Int.emod_def, Int.mul_comm]
  omega
end Mine
namespace Mine
open PySem PySem.W PyProof.Rows
theorem split_facts {x n Lo mid Hi : Int} (hn : 1 ≤ n) (hn' : n ≤ 6) (hL : 0 ≤ Lo) (h1 : Lo ≤ mid) (h2 : mid ≤ Hi) (h3 : Hi - Lo ≤ 100) (hx : 0 ≤ x) (hx2 : x < (2 ^ n.toNat) ^ (Hi - Lo).toNat) (hx3 : x < 2 ^ 64) :
    (0 ≤ (mid - Lo) * n ∧ (mid - Lo) * n ≤ 1000000) ∧ (x.fdiv (2 ^ ((mid - Lo) * n).toNat)).natAbs < 2 ^ 64 ∧
    Builtin.bitXor x (x.fdiv (2 ^ ((mid - Lo) * n).toNat) * 2 ^ ((mid - Lo) * n).toNat) = x % (2 ^ n.toNat) ^ (mid.toNat - Lo.toNat) ∧
    x.fdiv (2 ^ ((mid - Lo) * n).toNat) = x / (2 ^ n.toNat) ^ (mid.toNat - Lo.toNat) ∧
    (0 ≤ x % (2 ^ n.toNat) ^ (mid.toNat - Lo.toNat) ∧ x % (2 ^ n.toNat) ^ (mid.toNat - Lo.toNat) < (2 ^ n.toNat) ^ (mid - Lo).toNat ∧ x % (2 ^ n.toNat) ^ (mid.toNat - Lo.toNat) < 2 ^ 64) ∧
    (0 ≤ x / (2 ^ n.toNat) ^ (mid.toNat - Lo.toNat) ∧ x / (2 ^ n.toNat) ^ (mid.toNat - Lo.toNat) < (2 ^ n.toNat) ^ (Hi - mid).toNat ∧ x / (2 ^ n.toNat) ^ (mid.toNat - Lo.toNat) < 2 ^ 64) := by
  have hBp : (0 : Int) < 2 ^ n.toNat := Int.pow_pos (by omega)
  have ep : (mid - Lo).toNat = mid.toNat - Lo.toNat := by omega
  have e2 : (2 : Int) ^ ((mid - Lo) * n).toNat = (2 ^ n.toNat) ^ (mid.toNat - Lo.toNat) := by
    rw [← ep]
    obtain ⟨p, hp⟩ := Int.eq_ofNat_of_zero_le (show 0 ≤ mid - Lo by omega)
    obtain ⟨q, hq⟩ := Int.eq_ofNat_of_zero_le (show 0 ≤ n by omega)
    rw [hp]; subst hq
    rw [← Int.natCast_mul, Int.toNat_natCast, Int.toNat_natCast, Int.toNat_natCast, ← Int.pow_mul, Nat.mul_comm]
  have hP : (0 : Int) < (2 ^ n.toNat) ^ (mid.toNat - Lo.toNat) := Int.pow_pos hBp
  have e3 : x.fdiv (2 ^ ((mid - Lo) * n).toNat) = x / (2 ^ n.toNat) ^ (mid.toNat - Lo.toNat) := by
    rw [e2, Int.fdiv_eq_ediv_of_nonneg _ (by omega)]
  have hm0 := Int.emod_nonneg x (Int.ne_of_gt hP)
  have hm1 := Int.emod_lt_of_pos x hP
  have hd0 := Int.ediv_nonneg hx (Int.le_of_lt hP)
  have hdx : x / (2 ^ n.toNat) ^ (mid.toNat - Lo.toNat) ≤ x := Int.ediv_le_self _ hx
  have hmx : x % (2 ^ n.toNat) ^ (mid.toNat - Lo.toNat) ≤ x := by
    rw [Int.emod_def]
    have := Int.mul_nonneg (Int.le_of_lt hP) hd0
    omega
  refine ⟨⟨Int.mul_nonneg (by omega) (by omega), ?_⟩, ?_, ?_, e3, ⟨hm0, by rw [ep]; exact hm1, by omega⟩, hd0, ?_, by omega⟩
  · have : (mid - Lo) * n ≤ 100 * 6 := Int.mul_le_mul (by omega) hn' (by omega) (by omega)
    omega
  · rw [e3]; omega
  · rw [e3, e2]
    have := xor_low x ((mid - Lo) * n).toNat
    rw [e2] at this
    exact this
  · refine Int.ediv_lt_of_lt_mul hP ?_
    rw [← Int.pow_add]
    have : (Hi - mid).toNat + (mid.toNat - Lo.toNat) = (Hi - Lo).toNat := by omega
    rw [this]; exact hx2
end Mine
namespace Mine
open PySem PySem.W PyProof.Rows
theorem und_shift {n Lo mid Hi : Int} {ns : List Int} (hn : 1 ≤ n) (hn' : n ≤ 6) (hL : 0 ≤ Lo) (h1 : Lo ≤ mid) (h2 : mid ≤ Hi) (h3 : Hi ≤ ns.length) (h4 : ns.length ≤ 100) (hd : ∀ d ∈ ns, 0 ≤ d ∧ d < (2 : Int) ^ n.toNat) :
    0 ≤ (mid - Lo) * n ∧ (Builtin.Int.intBits (und (2 ^ n.toNat) (part ns mid.toNat Hi.toNat)) : Int) + (mid - Lo) * n ≤ 2 ^ 27 ∧
    und (2 ^ n.toNat) (part ns mid.toNat Hi.toNat) * 2 ^ ((mid - Lo) * n).toNat + und (2 ^ n.toNat) (part ns Lo.toNat mid.toNat) = und (2 ^ n.toNat) (part ns Lo.toNat Hi.toNat) := by
  have hBp : (0 : Int) < 2 ^ n.toNat := Int.pow_pos (by omega)
  have e2 : (2 : Int) ^ ((mid - Lo) * n).toNat = (2 ^ n.toNat) ^ (mid.toNat - Lo.toNat) := by
    have ep : (mid - Lo).toNat = mid.toNat - Lo.toNat := by omega
    rw [← ep]
    obtain ⟨p, hp⟩ := Int.eq_ofNat_of_zero_le (show 0 ≤ mid - Lo by omega)
    obtain ⟨q, hq⟩ := Int.eq_ofNat_of_zero_le (show 0 ≤ n by omega)
    rw [hp]; subst hq
    rw [← Int.natCast_mul, Int.toNat_natCast, Int.toNat_natCast, Int.toNat_natCast, ← Int.pow_mul, Nat.mul_comm]
  have hs : (mid - Lo) * n ≤ 100 * 6 := Int.mul_le_mul (by omega) hn' (by omega) (by omega)
  refine ⟨Int.mul_nonneg (by omega) (by omega), ?_, ?_⟩
  · obtain ⟨b0, b1⟩ := und_bounds hBp (part ns mid.toNat Hi.toNat) fun d hd' => hd d (part_mem hd')
    rw [part_length (by omega), ← Int.pow_mul] at b1
    have h5 : n.toNat * (Hi.toNat - mid.toNat) ≤ 6 * 100 := Nat.mul_le_mul (by omega) (by omega)
    have h6 : Builtin.Int.intBits (und (2 ^ n.toNat) (part ns mid.toNat Hi.toNat)) ≤ n.toNat * (Hi.toNat - mid.toNat) := by
      unfold Builtin.Int.intBits
      split
      · omega
      · rename_i hz
        have hz' : und (2 ^ n.toNat) (part ns mid.toNat Hi.toNat) ≠ 0 := by simpa using hz
        generalize und (2 ^ n.toNat) (part ns mid.toNat Hi.toNat) = u at b0 b1 hz'
        generalize n.toNat * (Hi.toNat - mid.toNat) = k at b1
        have : u.natAbs.log2 < k := (Nat.log2_lt (by omega)).mpr (by
          have : ((2 ^ k : Nat) : Int) = (2 : Int) ^ k := by simp
          omega)
        omega
    omega
  · rw [part_join (lo := Lo.toNat) (mid := mid.toNat) (hi := Hi.toNat) (by omega) (by omega), und_append, part_length (by omega), e2, Int.mul_comm, Int.add_comm]
end Mine

namespace Mine
/-- the ways to choose, made step by step -/
def cw (m : Nat) : Nat → Nat
  | 0 => 1
  | k + 1 => cw m k * (m - k) / (k + 1)
def wOk (m : Nat) : Nat → Nat → Nat → Bool
  | 0, _, _ => true
  | n + 1, k, c => Nat.beq (c * (m - k) % (k + 1)) 0 && Nat.blt (c * (m - k)) 18446744073709551616 && (Nat.ble k m || Nat.beq c 0) && wOk m n (k + 1) (c * (m - k) / (k + 1))
theorem wOk_at {m : Nat} : ∀ (n k : Nat), wOk m n k (cw m k) = true → ∀ j, j < n → cw m (k + j) * (m - (k + j)) % (k + j + 1) = 0 ∧ cw m (k + j) * (m - (k + j)) < 2 ^ 64 ∧ (k + j ≤ m ∨ cw m (k + j) = 0)
  | 0, _, _, _, h => absurd h (Nat.not_lt_zero _)
  | n + 1, k, e, j, h => by
    simp only [wOk, Bool.and_eq_true, Bool.or_eq_true] at e
    obtain ⟨⟨⟨e1, e2⟩, e3⟩, e4⟩ := e
    cases j with
    | zero =>
      rw [Nat.add_zero]
      refine ⟨Nat.eq_of_beq_eq_true e1, ?_, ?_⟩
      · have : Nat.ble (cw m k * (m - k) + 1) 18446744073709551616 = true := e2
        have := Nat.le_of_ble_eq_true this
        omega
      · rcases e3 with e3 | e3
        · exact .inl (Nat.le_of_ble_eq_true e3)
        · exact .inr (Nat.eq_of_beq_eq_true e3)
    | succ j =>
      have := wOk_at n (k + 1) e4 j (by omega)
      have e5 : k + 1 + j = k + (j + 1) := by omega
      rw [e5] at this
      exact this
set_option maxRecDepth 100000 in
theorem wOk_all : (List.range 61).all (fun m => wOk m 60 0 1) = true := by decide +kernel
theorem cw_facts {m k : Nat} (hm : m ≤ 60) (hk : k < 60) : cw m k * (m - k) % (k + 1) = 0 ∧ cw m k * (m - k) < 2 ^ 64 ∧ (k ≤ m ∨ cw m k = 0) := by
  have h := List.all_eq_true.mp wOk_all m (List.mem_range.mpr (by omega))
  have := wOk_at 60 0 h k hk
  rwa [Nat.zero_add] at this
/-- the same, as the program reckons it -/
theorem cw_int {m k : Nat} (hm : m ≤ 60) (hk : k < 60) : (0 : Int) ≤ (cw m k : Int) * ((m : Int) - (k : Int)) ∧ (cw m k : Int) * ((m : Int) - (k : Int)) < 2 ^ 64 ∧
    (cw m k : Int) * ((m : Int) - (k : Int)) % ((k : Int) + 1) = 0 ∧ (cw m k : Int) * ((m : Int) - (k : Int)) / ((k : Int) + 1) = (cw m (k + 1) : Int) := by
  obtain ⟨h1, h2, h3⟩ := cw_facts hm hk
  have e : (cw m k : Int) * ((m : Int) - (k : Int)) = ((cw m k * (m - k) : Nat) : Int) := by
    rcases h3 with h3 | h3
    · rw [Int.natCast_mul, Int.ofNat_sub h3]
    · rw [h3]; simp
  rw [e]
  have e2 : ((k : Int) + 1) = ((k + 1 : Nat) : Int) := by simp
  rw [e2, ← Int.natCast_emod, ← Int.natCast_ediv, h1]
  refine ⟨by omega, by omega, rfl, rfl⟩
end Mine

namespace Mine
/-- the figure of a number at a place -/
def fg (N p j : Nat) : Nat := N / p ^ j % p
/-- the sum of a number's six figures -/
def sm (N p : Nat) : Nat := fg N p 0 + (fg N p 1 + (fg N p 2 + (fg N p 3 + (fg N p 4 + (fg N p 5 + 0)))))
/-- what the figures' ways make, multiplied -/
def lw (m f p : Nat) : Nat := 1 * cw (fg m p 0) (fg f p 0) * cw (fg m p 1) (fg f p 1) * cw (fg m p 2) (fg f p 2) * cw (fg m p 3) (fg f p 3) * cw (fg m p 4) (fg f p 4) * cw (fg m p 5) (fg f p 5)
/-- how often a prime goes into a number, nine times at most -/
def od (p : Nat) : Nat → Nat → Nat
  | 0, _ => 0
  | n + 1, h => bif Nat.beq (h % p) 0 then od p n (h / p) + 1 else 0
def chk (p m : Nat) : Nat → Nat → Nat → Bool
  | 0, _, _ => true
  | n + 1, f, c => (Nat.blt m f || (Nat.beq (c % p) (lw m f p % p) && Nat.beq (sm f p + sm (m - f) p) (sm m p + od p 9 c * (p - 1)))) && chk p m n (f + 1) (c * (m - f) / (f + 1))
theorem chk_at {p m : Nat} : ∀ (n k : Nat), chk p m n k (cw m k) = true → ∀ j, j < n → k + j ≤ m → cw m (k + j) % p = lw m (k + j) p % p ∧ sm (k + j) p + sm (m - (k + j)) p = sm m p + od p 9 (cw m (k + j)) * (p - 1)
  | 0, _, _, _, h, _ => absurd h (Nat.not_lt_zero _)
  | n + 1, k, e, j, h, hm => by
    simp only [chk, Bool.and_eq_true, Bool.or_eq_true] at e
    obtain ⟨e1, e2⟩ := e
    cases j with
    | zero =>
      rw [Nat.add_zero] at hm ⊢
      rcases e1 with e1 | ⟨e1, e3⟩
      · have := Nat.le_of_ble_eq_true (show Nat.ble (m + 1) k = true from e1)
        omega
      · exact ⟨Nat.eq_of_beq_eq_true e1, Nat.eq_of_beq_eq_true e3⟩
    | succ j =>
      have := chk_at n (k + 1) e2 j (by omega) (by omega)
      have e5 : k + 1 + j = k + (j + 1) := by omega
      rw [e5] at this
      exact this
def rows (p : Nat) : Bool := (List.range 61).all fun m => chk p m 61 0 1
set_option maxRecDepth 100000 in
theorem rows3 : rows 3 = true := by decide +kernel
set_option maxRecDepth 100000 in
theorem rows5 : rows 5 = true := by decide +kernel
set_option maxRecDepth 100000 in
theorem rows7 : rows 7 = true := by decide +kernel
set_option maxRecDepth 100000 in
theorem rows11 : rows 11 = true := by decide +kernel
theorem lucas_kummer {p m f : Nat} (hp : p = 3 ∨ p = 5 ∨ p = 7 ∨ p = 11) (hm : m ≤ 60) (hf : f ≤ m) : cw m f % p = lw m f p % p ∧ sm f p + sm (m - f) p = sm m p + od p 9 (cw m f) * (p - 1) := by
  have h : rows p = true := by
    rcases hp with rfl | rfl | rfl | rfl
    · exact rows3
    · exact rows5
    · exact rows7
    · exact rows11
  have h2 := List.all_eq_true.mp h m (List.mem_range.mpr (by omega))
  have := chk_at 61 0 h2 f (by omega) (by omega)
  rwa [Nat.zero_add] at this
/-- how many of the first ways of a row don't go by a number -/
def cn (p m : Nat) : Nat → Nat
  | 0 => 0
  | k + 1 => cn p m k + bif Nat.beq (cw m k % p) 0 then 0 else 1
def cnt (p m : Nat) : Nat → Nat → Nat → Nat → Nat
  | 0, _, _, a => a
  | n + 1, k, c, a => cnt p m n (k + 1) (c * (m - k) / (k + 1)) (a + bif Nat.beq (c % p) 0 then 0 else 1)
theorem cnt_is {p m : Nat} : ∀ (n k : Nat), cnt p m n k (cw m k) (cn p m k) = cn p m (k + n)
  | 0, _ => rfl
  | n + 1, k => by
    have := cnt_is (p := p) (m := m) n (k + 1)
    have e5 : k + 1 + n = k + (n + 1) := by omega
    rw [e5] at this
    exact this
/-- each figure and one, multiplied -/
def fr (m p : Nat) : Nat := 1 * (fg m p 0 + 1) * (fg m p 1 + 1) * (fg m p 2 + 1) * (fg m p 3 + 1) * (fg m p 4 + 1) * (fg m p 5 + 1)
def rowsC (p : Nat) : Bool := (List.range 61).all fun m => Nat.beq (cnt p m (m + 1) 0 1 0) (fr m p)
set_option maxRecDepth 100000 in
theorem rowsC3 : rowsC 3 = true := by decide +kernel
set_option maxRecDepth 100000 in
theorem rowsC5 : rowsC 5 = true := by decide +kernel
set_option maxRecDepth 100000 in
theorem rowsC7 : rowsC 7 = true := by decide +kernel
set_option maxRecDepth 100000 in
theorem rowsC11 : rowsC 11 = true := by decide +kernel
theorem count_row {p m : Nat} (hp : p = 3 ∨ p = 5 ∨ p = 7 ∨ p = 11) (hm : m ≤ 60) : cn p m (m + 1) = fr m p := by
  have h : rowsC p = true := by
    rcases hp with rfl | rfl | rfl | rfl
    · exact rowsC3
    · exact rowsC5
    · exact rowsC7
    · exact rowsC11
  have h2 := Nat.eq_of_beq_eq_true (List.all_eq_true.mp h m (List.mem_range.mpr (by omega)))
  have h3 := cnt_is (p := p) (m := m) (m + 1) 0
  rw [Nat.zero_add] at h3
  rw [← h3]
  exact h2
def clt (m : Nat) : Nat → Nat → Nat → Bool
  | 0, _, _ => true
  | n + 1, k, c => Nat.blt c 18446744073709551616 && (Nat.blt m k || Nat.blt 0 c) && clt m n (k + 1) (c * (m - k) / (k + 1))
theorem clt_at {m : Nat} : ∀ (n k : Nat), clt m n k (cw m k) = true → ∀ j, j < n → cw m (k + j) < 2 ^ 64 ∧ (k + j ≤ m → 0 < cw m (k + j))
  | 0, _, _, _, h => absurd h (Nat.not_lt_zero _)
  | n + 1, k, e, j, h => by
    simp only [clt, Bool.and_eq_true, Bool.or_eq_true] at e
    obtain ⟨⟨e1, e3⟩, e2⟩ := e
    cases j with
    | zero =>
      rw [Nat.add_zero]
      have := Nat.le_of_ble_eq_true (show Nat.ble (cw m k + 1) 18446744073709551616 = true from e1)
      refine ⟨by omega, fun h => ?_⟩
      rcases e3 with e3 | e3
      · have := Nat.le_of_ble_eq_true (show Nat.ble (m + 1) k = true from e3)
        omega
      · exact Nat.le_of_ble_eq_true (show Nat.ble (0 + 1) (cw m k) = true from e3)
    | succ j =>
      have := clt_at n (k + 1) e2 j (by omega)
      have e5 : k + 1 + j = k + (j + 1) := by omega
      rw [e5] at this
      exact this
set_option maxRecDepth 100000 in
theorem clt_all : (List.range 61).all (fun m => clt m 61 0 1) = true := by decide +kernel
theorem cw_lt {m k : Nat} (hm : m ≤ 60) (hk : k ≤ 60) : cw m k < 2 ^ 64 ∧ (k ≤ m → 0 < cw m k) := by
  have h := List.all_eq_true.mp clt_all m (List.mem_range.mpr (by omega))
  have := clt_at 61 0 h k (by omega)
  rwa [Nat.zero_add] at this
theorem fg_lt {N p j : Nat} (hp : 0 < p) : fg N p j < p := Nat.mod_lt _ hp
set_option maxRecDepth 100000 in
theorem wols : (cw 10 5 % 125 = 2 ∧ cw 14 7 % 343 = 2) ∧ cw 22 11 % 1331 = 2 := by decide +kernel
end Mine

namespace Mine
open PySem PySem.W PySem.Calls PyProof.Rows PySem.Spec
theorem resetI1 : True := by
  w_top off
  exact trivial

def fbody : Stmt → List Stmt
  | .FunctionDef _ _ b .. => b
  | _ => []
def fargs : Stmt → Arguments
  | .FunctionDef _ a .. => a
  | _ => ⟨[], [], none, [], [], none, []⟩
def fscope : Stmt → Scope
  | .FunctionDef _ _ _ _ _ _ s .. => s
  | _ => default
def topS (i : Nat) : Stmt := PG.main.body.getD i (.Pass ⟨0, 0, 0, 0⟩)
def i2dInner : Stmt := (fbody (topS 4)).getD 1 (.Pass ⟨0, 0, 0, 0⟩)
def d2iInner : Stmt := (fbody (topS 5)).getD 0 (.Pass ⟨0, 0, 0, 0⟩)


abbrev QI : Str := (PySem.Str.ofString "_int2digits" ++ (".<locals>." : Str)) ++ (PySem.Str.ofString "inner")
/-- the function object of a nested def -/
abbrev fnI (st : Stmt) (qual : Str) (cl : List (Str × Addr)) (doc pm : Value) (c' : Addr) (ctv : Value) : Obj :=
  fnMade (PySem.Str.ofString "inner") qual (fargs st) (fbody st) (fscope st) cl doc pm c' ctv
abbrev clI (cn ca ci : Addr) : List (Str × Addr) := [(PySem.Str.ofString "n", cn), (PySem.Str.ofString "inner", ci), (PySem.Str.ofString "a_digits", ca)]
def innerL (f c' ci ca cn D : Addr) (fo oc oi oa on : Obj) (xs : List Value) (ep : Nat) : List (Addr × Obj) :=
  [(D, listOf xs.toArray ep), (f, fo), (c', oc), (ci, oi), (ca, oa), (cn, on)]

theorem mid_of (Lo Hi : Int) : (Lo + Hi).fdiv (2 ^ Int.toNat 1) = (Lo + Hi) / 2 := by
  have e : (2 : Int) ^ Int.toNat 1 = 2 := by decide
  rw [e, Int.fdiv_eq_ediv_of_nonneg _ (by omega)]
theorem off_nil {l : List (Addr × Obj)} : Off [] l := by
  induction l with
  | nil => trivial
  | cons _ _ ih => exact ⟨trivial, ih⟩

local macro_rules | `(tactic| walk_at "call ref") => `(tactic| refine stop_of ?_)

set_option maxHeartbeats 8000000 in
theorem inner_ct (w : World) (n : Int) (hn : 1 ≤ n) (hn' : n ≤ 6) (f c' ci ca cn D : Addr) (oc oi oa on : Obj) (vs : Array Value) (t tn : Tok) (doc pm ctv : Value) (ep : Nat)
    (hoi : oi.data = .cell (some (.ref f))) (hoa : oa.data = .cell (some (.ref D))) (hon : on.data = .cell (some (.int n tn))) (hoc : oc.data = .fields vs) (hvs : vs[1]? = some (.str QI t))
    (h1 : @Ne Nat f D) (h2 : @Ne Nat c' D) (h3 : @Ne Nat ci D) (h4 : @Ne Nat ca D) (h5 : @Ne Nat cn D) :
    ∀ (k : Nat) (x Lo Hi : Int) (tx tl th : Tok) (xs : List Value) (ns : List Int), IntsAre xs ns → 0 ≤ Lo → Lo < Hi → Hi ≤ ns.length → Hi - Lo ≤ 2 ^ k → ns.length ≤ 100 → 0 ≤ x → x < (2 ^ n.toNat) ^ (Hi - Lo).toNat → x < 2 ^ 64 →
      Ct w f [.int x tx, .int Lo tl, .int Hi th] (innerL f c' ci ca cn D (fnI i2dInner QI (clI cn ca ci) doc pm c' ctv) oc oi oa on xs ep) (k + 2) (16 * (k + 1))
        (fun v news' => v = .none ∧ ∃ xs', news' = innerL f c' ci ca cn D (fnI i2dInner QI (clI cn ca ci) doc pm c' ctv) oc oi oa on xs' ep ∧ IntsAre xs' (fillD ns (2 ^ n.toNat) x Lo.toNat Hi.toNat)) := by
  have eb : fbody i2dInner = fbody i2dInner := rfl
  have ea : fargs i2dInner = fargs i2dInner := rfl
  have es : fscope i2dInner = fscope i2dInner := rfl
  conv at eb => rhs; whnf
  conv at ea => rhs; whnf
  conv at es => rhs; whnf
  simp only [fnI, eb, ea, es]
  clear eb ea es
  have hBp : (0 : Int) < 2 ^ n.toNat := Int.pow_pos (by omega)
  intro k
  induction k using Nat.strongRecOn with
  | ind k ih =>
  intro x Lo Hi tx tl th xs ns hI hL hLH hH hk2 hx1 hx hx2 hx3
  intro loose mean mg mb dp un gd cn' cs aA ccd cl outer A₀ base h₀ L m s Q E rest B F X N NR hap T hk hd hu hQ
  have hcd : s.heap.CodeRec (.ref c') QI := codeRec_news N (List.mem_cons_of_mem _ (List.mem_cons_of_mem _ (List.mem_cons_self ..))) hoc hvs
  refine' enterT (cl := clI cn ca ci) B F X N NR hap T rfl rfl hk (N.get (List.mem_cons_of_mem _ (List.mem_cons_self ..))) rfl hcd ?k8 ?k9 ?kB ?_ hQ ?c5 ?c2 ?c3 ?c4
  (case k8 => first | assumption | (dsimp only [ktrTop]; omega)); (case k9 => exact BindsTo.of_eq rfl); (case c5 => decide); (case kB => exact locs rfl); (case c2 => exact rfl); (case c3 => exact rfl); (case c4 => exact rfl)
  clear hQ NR hap B F X N T hcd
  intro g' L' h' tk' F' N' B' X' T' l'; (try dsimp only); (try k_lt l')
  unfold innerL at N'
  clear l'
  show wpAny _ _ _ _ _ _
  k_fold
  have hC : CodeHd g' 34 30 := codeHd_of_K X' (by kernel_rfl)
  by_cases hc : Lo + 1 = Hi
  · clear ih
    have hcb : (Lo + 1 == Hi) = true := by simpa using hc
    k_steps
    have hx2' : x < 2 ^ n.toNat := by
      have e : (Hi - Lo).toNat = 1 := by omega
      rw [e, Int.pow_one] at hx2; exact hx2
    refine EndT.intro ⟨rfl, _, rfl, ?_⟩ (by assumption) (by assumption)
    have e : Hi.toNat = Lo.toNat + 1 := by omega
    rw [e, ← fillD_leaf (by omega) hx hx2']
    assumption
  · have hcb : (Lo + 1 == Hi) = false := by simpa using hc
    obtain ⟨j, rfl⟩ : ∃ j, k = j + 1 := by
      cases k with
      | zero => rw [Int.pow_zero] at hk2; omega
      | succ j => exact ⟨j, rfl⟩
    replace ih := ih j (Nat.lt_succ_self j)
    have hm := mid_of Lo Hi
    have hmid : Lo < (Lo + Hi).fdiv (2 ^ Int.toNat 1) ∧ (Lo + Hi).fdiv (2 ^ Int.toNat 1) < Hi := by rw [hm]; omega
    obtain ⟨⟨hs0, hs1⟩, hup, hlo, hhi, ⟨hl0, hl1, hl2⟩, hh0, hh1, hh2⟩ := split_facts (mid := (Lo + Hi).fdiv (2 ^ Int.toNat 1)) hn hn' hL (by omega) (by omega) (by omega) hx hx2 hx3
    k_steps
    refine Stop.go ?_
    rw [hlo]
    refine' Ct.use (ih _ _ _ _ _ _ _ _ hI ?a1 ?a2 ?a3 ?a4 hx1 hl0 hl1 hl2) ?B ?F ?X ?N ?S ?O ?T ?k ?d ?u ?_
    (case B => assumption); (case F => assumption); (case X => assumption); (case N => assumption); (case S => exact Split.nil); (case O => exact off_nil); (case T => assumption); (case k => rfl)
    (case a1 => omega); (case a2 => omega); (case a3 => omega); (case a4 => rw [Int.pow_succ] at hk2; omega)
    (case d => dsimp only [ktrTop, Around.deeper] at *; omega); (case u => dsimp only [ktrTop, Around.deeper] at *; omega)
    rintro v news1 h1 tk1 ⟨rfl, xs1, rfl, hI1⟩ F1 N1 _
    rw [List.append_nil] at N1
    unfold innerL at N1
    k_sweep
    k_steps
    refine Stop.go ?_
    rw [hhi]
    have hl1 := fillD_length (ns := ns) (B := 2 ^ n.toNat) (x := x % (2 ^ n.toNat) ^ (((Lo + Hi).fdiv (2 ^ Int.toNat 1)).toNat - Lo.toNat)) (lo := Lo.toNat) (hi := ((Lo + Hi).fdiv (2 ^ Int.toNat 1)).toNat) (by omega) (by omega)
    refine' Ct.use (ih _ _ _ _ _ _ _ _ hI1 ?a1 ?a2 ?a3 ?a4 ?a5 hh0 hh1 hh2) ?B ?F ?X ?N ?S ?O ?T ?k ?d ?u ?_
    (case B => assumption); (case F => assumption); (case X => assumption); (case N => assumption); (case S => exact Split.nil); (case O => exact off_nil); (case T => assumption); (case k => rfl)
    (case a1 => omega); (case a2 => omega); (case a3 => omega); (case a4 => rw [Int.pow_succ] at hk2; omega); (case a5 => omega)
    (case d => dsimp only [ktrTop, Around.deeper] at *; omega); (case u => dsimp only [ktrTop, Around.deeper] at *; omega)
    rintro v news2 h2 tk2 ⟨rfl, xs2, rfl, hI2⟩ F2 N2 _
    rw [List.append_nil] at N2
    rw [fillD_join hBp (by omega) (by omega) (by omega)] at hI2
    k_steps

    exact EndT.next ⟨rfl, _, rfl, hI2⟩ F2 N2
end Mine

namespace Mine
open PySem PySem.W PySem.Calls PyProof.Rows PySem.Spec
theorem resetI2 : True := by
  w_top off
  exact trivial
def fposS : Stmt → Pos
  | .FunctionDef _ _ _ _ _ _ _ _ _ p => p
  | _ => ⟨0, 0, 0, 0⟩

/-- a code table that is empty, or holds the one nested def's code -/
def Tb (P : Addr) (pos : Pos) (qual : Str) (p : Array Value) (c : Addr) (o : Obj) : Prop :=
  (p = #[] ∧ c = P ∧ o = tabObj #[]) ∨ (p = #[rawInt pos.line, rawInt pos.col, .ref c] ∧ @Ne Nat c P ∧ ∃ vs t, o.data = .fields vs ∧ vs[1]? = some (.str qual t))
theorem updF_mid {P : Addr} {o : Obj} {own rest : List (Addr × Obj)} (h1 : ∀ q ∈ own, q.1 ≠ P) (h2 : ∀ q ∈ rest, q.1 ≠ P) : UpdF P o (own ++ (P, o) :: rest) (fun o' => own ++ (P, o') :: rest) := by
  induction own with
  | nil => exact UpdF.head h2
  | cons q r ih => exact UpdF.tail (h1 q (.head _)) (ih fun x hx => h1 x (.tail _ hx))

section
variable {M : Model} {A : Around} {E : Value → Shared → Prop} {s : Shared} {h₀ : Heap} {L a cc P c : Addr} {m mg mb : Str → Option Value} {cn : Str} {cs : Scope} {ccd : Value} {cl : List (Str × Addr)} {own : List (Addr × Obj)} {o : Obj}
  {pr : Program} {loose : List Str} {mean : ExcName → Option Value} {name qual : Str} {params : Arguments} {body : List Stmt} {scope : Scope} {p : Array Value} {pos : Pos} {firstLine : Nat} {clos : List (Str × Addr)}
theorem nestT {Q : Value → Shared → Prop} (F : Fr h₀ L s.heap m) (N : News h₀ L s.heap (own ++ [(P, tabObj p), (c, o)])) (T : Top pr loose mean mg mb h₀) (C : CodeHd h₀ cc P) (hcd : ccd = .ref cc) (hT : Tb P pos qual p c o)
    (hP : AllNe P own) (hc : AllNe c own)
    (hcl : closureFor scope (envX cn cs L a ccd cl) = pure clos)
    (h : ∀ f c' oc vs t ctv doc h' tk, Fr h₀ L h' m →
      News h₀ L h' ((f, fnMade name qual params body scope clos doc ((mg "__name__").getD .none) c' ctv) :: (own ++ [(P, tabObj #[rawInt pos.line, rawInt pos.col, .ref c']), (c', oc)])) →
      oc.data = .fields vs → vs[1]? = some (.str qual t) → @Ne Nat c' P → AllNe c' own → AllNe f own → @Ne Nat P f → @Ne Nat c' f → Q (.ref f) { s with heap := h', toks := tk }) :
    wpAny M A (makeFunction name qual params (.stmts body) scope (envX cn cs L a ccd cl) [] [] [] pos firstLine) Q E s := by
  rcases hT with ⟨rfl, rfl, rfl⟩ | ⟨rfl, hne, vs, t, hd, hv⟩
  · have N1 : News h₀ L s.heap (own ++ [(c, tabObj #[])]) := fun q hq => N q (by
      rcases List.mem_append.mp hq with hq | hq
      · exact List.mem_append_left _ hq
      · exact List.mem_append_right _ (by simp at hq; simp [hq]))
    refine nest_K F N1 T C hcd (updF_mid hP.get (fun _ h => nomatch h)) (by exact True.intro) rfl hcl fun f c' oc vs t ctv doc h' tk F' N' hd hv l1 l2 => ?_
    refine h f c' oc vs t ctv doc h' tk F' (fun q hq => N' q ?_) hd hv ?_ ?_ ?_ ?_ ?_
    · rcases List.mem_cons.mp hq with rfl | hq
      · exact .head _
      · refine .tail _ ?_
        rcases List.mem_append.mp hq with hq | hq
        · exact .tail _ (List.mem_append_left _ hq)
        · rcases List.mem_cons.mp hq with rfl | hq
          · exact .tail _ (List.mem_append_right _ (.head _))
          · rcases List.mem_cons.mp hq with rfl | hq
            · exact .head _
            · nomatch hq
    · have := l1 (c, tabObj #[]) (by simp)
      exact Nat.ne_of_gt this
    · exact allNe_of fun q hq => Nat.ne_of_lt (l1 q (List.mem_append_left _ hq))
    · exact allNe_of fun q hq => Nat.ne_of_lt (Nat.lt_trans (l1 q (List.mem_append_left _ hq)) l2)
    · have := l1 (c, tabObj #[]) (by simp)
      exact Nat.ne_of_lt (Nat.lt_trans this l2)
    · exact Nat.ne_of_lt l2
  · refine nestHit_K (c' := c) F N T C hcd (List.mem_append_right _ (.head _)) ?_ ?_ hcl fun f ctv doc h' tk F' N' l1 => ?_
    · simp [TriplesOk, rawInt]
    · simp [codeAmong, rawInt]
    · refine h f c o vs t ctv doc h' tk F' N' hd hv hne hc ?_ ?_ ?_
      · exact allNe_of fun q hq => Nat.ne_of_lt (l1 q (List.mem_append_left _ hq))
      · have := l1 (P, _) (List.mem_append_right _ (.head _))
        exact Nat.ne_of_lt this
      · have := l1 (c, o) (List.mem_append_right _ (.tail _ (.head _)))
        exact Nat.ne_of_lt this
end

theorem flat_rep (v : Value) : ∀ k : Nat, List.foldl (fun x1 x2 => x1 ++ x2) (#[] : Array Value) (List.replicate k #[v]) = (List.replicate k v).toArray := by
  have h : ∀ (k : Nat) (a : Array Value), List.foldl (fun x1 x2 => x1 ++ x2) a (List.replicate k #[v]) = a ++ (List.replicate k v).toArray := by
    intro k
    induction k with
    | zero => intro a; simp
    | succ k ih => intro a; rw [List.replicate_succ, List.foldl_cons, ih, List.replicate_succ]; apply Array.toList_inj.mp; simp
  intro k
  rw [h]; simp
theorem ints_rep (z : Int) (t : Tok) : ∀ k : Nat, IntsAre (List.replicate k (Value.int z t)) (List.replicate k z)
  | 0 => .nil
  | k + 1 => .cons _ _ (ints_rep z t k)
theorem rep0 {w : World} {A : Around} {E : Value → Shared → Prop} {s : Shared} {h₀ : Heap} {L l : Addr} {m : Str → Option Value} {news : List (Addr × Obj)} {x z : Int} {u tz : Tok} {k : Nat} {Q : Value → Shared → Prop}
    (F : Fr h₀ L s.heap m) (N : News h₀ L s.heap ((l, listOf #[.int z tz] k) :: news)) (hx : 0 ≤ x) (hx' : x ≤ 100)
    (h : ∀ D xs h', Fr h₀ L h' m → News h₀ L h' ((D, listOf xs.toArray 0) :: news) → IntsAre xs (List.replicate x.toNat z) → AllNe D news → Q (.ref D) { s with heap := h' }) :
    wpAny (model PG w) A (binaryOp .Mult (.ref l) (.int x u)) Q E s := by
  refine mul_list F N (N.get (List.mem_cons_self ..)) (by omega) (by omega) (by show 1 * x.toNat ≤ 2 ^ 24; omega) fun h' F' N' => ?_
  refine h s.heap.objs.size (List.replicate x.toNat (.int z tz)) h' F' (fun q hq => ?_) (ints_rep z tz _) ?_
  · rcases List.mem_cons.mp hq with rfl | hq
    · have := N' _ (List.mem_cons_self ..)
      rw [show (if (#[Value.int z tz] : Array Value).isEmpty = true then 0 else x.toNat) = x.toNat from rfl, flat_rep] at this
      exact this
    · exact N' q (.tail _ (.tail _ hq))
  · exact allNe_of fun q hq => Nat.ne_of_lt (Heap.lt_size (N q (.tail _ hq)).1)
theorem len_of {a n : Int} (hb : Builtin.Int.intBits a ≤ 64) (hn : 1 ≤ n) (hn' : n ≤ 6) : ((Builtin.Int.intBits a : Int) + n - 1).fdiv n = (Builtin.Int.intBits a + n - 1) / n ∧ 0 ≤ ((Builtin.Int.intBits a : Int) + n - 1) / n ∧ ((Builtin.Int.intBits a : Int) + n - 1) / n ≤ 100 := by
  have h1 : 0 ≤ (Builtin.Int.intBits a : Int) + n - 1 := by omega
  refine ⟨Int.fdiv_eq_ediv_of_nonneg _ (by omega), Int.ediv_nonneg h1 (by omega), ?_⟩
  have := Int.ediv_le_self n h1
  omega

theorem lenI {w : World} {A : Around} {E : Value → Shared → Prop} {s : Shared} {h₀ : Heap} {L D : Addr} {news : List (Addr × Obj)} {xs : List Value} {ns : List Int} {ep : Nat} {Q : Value → Shared → Prop}
    (N : News h₀ L s.heap news) (hm : (D, W.listOf xs.toArray ep) ∈ news) (hI : IntsAre xs ns) (hl : ns.length ≤ 1000) (h : Q (.int ns.length (s.toks + 1)) { s with toks := s.toks + 1 + 1 }) :
    wpAny (model PG w) A (call (.builtin "len") [.ref D]) Q E s := by
  have e : xs.toArray.size = ns.length := by simp [hI.length]
  refine len_list (items := xs.toArray) (N.isList hm) (by rw [e]; omega) ?_
  rw [e]; exact h
theorem lt_bits {a : Int} (ha : 0 ≤ a) : a < 2 ^ Builtin.Int.intBits a := by
  unfold Builtin.Int.intBits
  split
  · rename_i h; simp at h; subst h; decide
  · rename_i h
    have h' : a ≠ 0 := by simpa using h
    have h1 := Nat.lt_log2_self (n := a.natAbs)
    have h2 : ((2 ^ (a.natAbs.log2 + 1) : Nat) : Int) = (2 : Int) ^ (a.natAbs.log2 + 1) := by simp
    omega
theorem len_pow {a n : Int} (ha : 0 ≤ a) (hn : 1 ≤ n) : a < (2 ^ n.toNat) ^ ((Builtin.Int.intBits a + n - 1) / n).toNat := by
  refine Int.lt_of_lt_of_le (lt_bits ha) ?_
  rw [← Int.pow_mul]
  obtain ⟨q, hq⟩ := Int.eq_ofNat_of_zero_le (show 0 ≤ n by omega)
  subst hq
  generalize Builtin.Int.intBits a = b
  have h1 : (b : Int) + (q : Int) - 1 = ((b + q - 1 : Nat) : Int) := by omega
  rw [h1, ← Int.natCast_ediv, Int.toNat_natCast, Int.toNat_natCast]
  have h2 : b ≤ q * ((b + q - 1) / q) := by
    have h3 := Nat.div_add_mod (b + q - 1) q
    have h4 := Nat.mod_lt (b + q - 1) (show 0 < q by omega)
    omega
  have h5 := Nat.pow_le_pow_right (show 0 < 2 by decide) h2
  exact_mod_cast h5

local macro_rules | `(tactic| walk_at "call ref") => `(tactic| refine stop_of ?_)
local macro_rules | `(tactic| walk_at "exec FunctionDef") => `(tactic| refine stop_of ?_)

set_option maxHeartbeats 8000000 in
theorem i2d_ct (w : World) (a n : Int) (ta tn : Tok) (p : Array Value) (c : Addr) (o : Obj) (ha : 0 ≤ a) (ha' : a < 2 ^ 64) (hn : 1 ≤ n) (hn' : n ≤ 6) (hT : Tb 30 (fposS i2dInner) QI p c o) :
    Ct w 35 [.int a ta, .int n tn] [(30, tabObj p), (c, o)] 12 200 (fun v news' => ∃ D xs ep p' c' o', v = .ref D ∧ news' = [(D, listOf xs.toArray ep), (30, tabObj p'), (c', o')] ∧
      IntsAre xs (digs (2 ^ n.toNat) ((Builtin.Int.intBits a + n - 1) / n).toNat a) ∧ Tb 30 (fposS i2dInner) QI p' c' o' ∧ @Ne Nat D 30 ∧ @Ne Nat D c') := by
  intro loose mean mg mb dp un gd cn cs aA ccd cl outer A₀ base h₀ L m s Q E rest B F X N NR hap T hk hd hu hQ
  refine' enterKC B F X N NR hap T rfl rfl hk hQ ?k6 ?k7 ?k8 ?k9 ?kB ?kD ?_ ?c2 ?c3 ?c4
  (case k6 => k_is); (case k7 => k_is); (case k8 => first | assumption | (dsimp only [ktrTop]; omega)); (case k9 => exact BindsTo.of_eq rfl); (case kB => exact rfl); (case kD => decide +kernel); (case c2 => exact rfl); (case c3 => exact rfl); (case c4 => exact rfl)
  clear hQ NR hap B F X N T
  intro g' L' h' tk' cells' F' N' Y' B' X' T' l'
  k_lt l'
  k_cells Y'
  rename_i oi oa on di da dn
  have dn : on.data = .cell (some (.int n tn)) := dn
  simp only [List.cons_append, List.nil_append] at N'
  (try dsimp only)
  show wpAny _ _ _ _ _ _
  k_fold
  have hC : CodeHd g' 34 30 := codeHd_of_K X' (by kernel_rfl)
  have hbl := bits_le ha ha'
  obtain ⟨hq, hq0, hq1⟩ := len_of (a := a) hbl hn hn'
  k_steps
  rename_i D h1 hI0 n1 s1 e1 e2 e3 l1 h2 oA F1 N1 dA
  have hI : IntsAre (List.replicate ((Builtin.Int.intBits a + n - 1).fdiv n).toNat [Value.int 0 tk']).flatten (List.replicate ((Builtin.Int.intBits a + n - 1).fdiv n).toNat 0) := by
    have e : (List.replicate ((Builtin.Int.intBits a + n - 1).fdiv n).toNat [(0 : Int)]).flatten = List.replicate ((Builtin.Int.intBits a + n - 1).fdiv n).toNat 0 := by simp
    rw [← e]; exact hI0
  clear hI0 s1 e1 e2 e3
  generalize (List.replicate ((Builtin.Int.intBits a + n - 1).fdiv n).toNat [Value.int 0 tk']).flatten = xs0 at hI N1
  rw [hq] at hI
  refine Stop.go ?_
  refine nestDef_K rfl rfl rfl ?_
  have N2 : News g' L' h2 [(D, W.listOf xs0.toArray 0), (L' + 1 + 1 + 1, oi), (L' + 1 + 1, oA), (L' + 1, on), (30, tabObj p), (c, o)] := cb_drop N1 (by kcj_all)
  refine nestT (own := [_, _, _, _]) F1 N2 T' hC rfl hT ?hP ?hc rfl fun f c' oc vs t ctv doc h3 tk3 F3 N3 hoc hvs m1 m2 m3 m4 m5 => ?_
  (case hP => (simp only [AllNe, and_true]; omega))
  (case hc => (simp only [AllNe, and_true]; omega))
  simp only [AllNe, and_true] at m2 m3
  simp only [List.cons_append, List.nil_append] at N3
  clear N1 N2 F1
  k_steps
  · rename_i h4 oI F4 N4 dI ha0
    have hl : (List.replicate ((Builtin.Int.intBits a + n - 1) / n).toNat (0 : Int)).length = ((Builtin.Int.intBits a + n - 1) / n).toNat := List.length_replicate ..
    have hb1 : 1 ≤ Builtin.Int.intBits a := by
      unfold Builtin.Int.intBits
      rw [if_neg (by simpa using ha0)]; omega
    have hK : 0 < (Builtin.Int.intBits a + n - 1) / n := by
      have : 1 ≤ (Builtin.Int.intBits a + n - 1) / n := (Int.le_ediv_iff_mul_le (by omega)).mpr (by omega)
      omega
    refine lenI N4 (by k_mem) hI (by rw [hl]; omega) ?_
    k_steps
    refine Stop.go ?_
    rw [hl]
    have hoc' : vs[1]? = some (.str QI t) := hvs
    have N5 : News g' L' h4 ((30, tabObj #[rawInt (fposS i2dInner).line, rawInt (fposS i2dInner).col, .ref c']) :: innerL f c' (L' + 1 + 1 + 1) (L' + 1 + 1) (L' + 1) D (fnI i2dInner QI (clI (L' + 1) (L' + 1 + 1) (L' + 1 + 1 + 1)) doc ((mg "__name__").getD .none) c' ctv) oc oI oA on xs0 0) := cb_drop N4 (by kcj_all)
    have C := inner_ct w n hn hn' f c' (L' + 1 + 1 + 1) (L' + 1 + 1) (L' + 1) D oc oI oA on vs t tn doc ((mg "__name__").getD .none) ctv 0 dI dA dn hoc hoc' (by omega) (by omega) (by omega) (by omega) (by omega) 7 a 0 (((Builtin.Int.intBits a + n - 1) / n).toNat : Nat) ta tk3 (tk3 + 1 + 1) xs0 _ hI (by omega) (by omega) (by omega) (by omega) (by omega) ha (by
      rw [Int.sub_zero, Int.toNat_natCast]; exact len_pow ha hn) ha'
    refine Ct.use C B' F4 X' N5 (Split.cons Split.nil) ?O T' rfl ?d ?u ?_
    (case O => (simp only [innerL, Off, AllNe, and_true]; omega))
    (case d => dsimp only [ktrTop, Around.deeper] at *; omega)
    (case u => dsimp only [ktrTop, Around.deeper] at *; omega)
    rintro v news5 h5 tk5 ⟨rfl, xs5, rfl, hI5⟩ F5 N6 _
    rw [Int.toNat_natCast, show (0 : Int).toNat = 0 from rfl, fillD_whole hl] at hI5
    clear C N5 F4 N4
    unfold innerL at N6
    simp only [List.cons_append, List.nil_append] at N6
    k_steps
    refine EndT.intro ⟨D, xs5, 0, _, c', oc, rfl, rfl, hI5, .inr ⟨rfl, m1, vs, t, hoc, hvs⟩, ?_, ?_⟩ (by assumption) (cb_drop N6 (by kcj_all))
    · omega
    · omega
  · rename_i h4 oI F4 N4 dI ha0
    subst ha0
    have e0 : ((Builtin.Int.intBits 0 : Int) + n - 1) / n = 0 := by
      show ((0 : Int) + n - 1) / n = 0
      exact Int.ediv_eq_zero_of_lt (by omega) (by omega)
    rw [e0] at hI
    refine EndT.intro ⟨D, xs0, 0, _, c', oc, rfl, rfl, ?_, .inr ⟨rfl, m1, vs, t, hoc, hvs⟩, ?_, ?_⟩ F4 (cb_drop N4 (by kcj_all))
    · rw [e0]; exact hI
    · omega
    · omega
end Mine

namespace Mine
open PySem PySem.W PySem.Calls PyProof.Rows PySem.Spec
theorem resetJ1 : True := by
  w_top off
  exact trivial
abbrev QJ : Str := (PySem.Str.ofString "_digits2int" ++ (".<locals>." : Str)) ++ (PySem.Str.ofString "inner")
abbrev clJ (cn ci cd : Addr) : List (Str × Addr) := [(PySem.Str.ofString "n", cn), (PySem.Str.ofString "inner", ci), (PySem.Str.ofString "digits", cd)]
def innerJ (f c' ci cd cn D : Addr) (fo oc oi od on : Obj) (xs : List Value) (ep : Nat) : List (Addr × Obj) :=
  [(f, fo), (c', oc), (ci, oi), (cd, od), (cn, on), (D, listOf xs.toArray ep)]
local macro_rules | `(tactic| walk_at "zz none") => `(tactic| fail "none")
local macro_rules | `(tactic| walk_at "call ref") => `(tactic| refine stop_of ?_)
local macro_rules | `(tactic| walk_at "binaryOp LShift int int") => `(tactic| refine stop_of ?_)

set_option maxHeartbeats 8000000 in
theorem innerJ_ct (w : World) (n : Int) (hn : 1 ≤ n) (hn' : n ≤ 6) (f c' ci cd cn D : Addr) (oc oi od on : Obj) (vs : Array Value) (t tn : Tok) (doc pm ctv : Value) (ep : Nat) (xs : List Value) (ns : List Int)
    (hI : IntsAre xs ns) (hd : ∀ d ∈ ns, 0 ≤ d ∧ d < (2 : Int) ^ n.toNat) (hx1 : ns.length ≤ 100)
    (hoi : oi.data = .cell (some (.ref f))) (hod : od.data = .cell (some (.ref D))) (hon : on.data = .cell (some (.int n tn))) (hoc : oc.data = .fields vs) (hvs : vs[1]? = some (.str QJ t)) :
    ∀ (k : Nat) (Lo Hi : Int) (tl th : Tok), 0 ≤ Lo → Lo < Hi → Hi ≤ ns.length → Hi - Lo ≤ 2 ^ k →
      Ct w f [.int Lo tl, .int Hi th] (innerJ f c' ci cd cn D (fnI d2iInner QJ (clJ cn ci cd) doc pm c' ctv) oc oi od on xs ep) (k + 2) (16 * (k + 1))
        (fun v news' => (∃ tv, v = .int (und (2 ^ n.toNat) (part ns Lo.toNat Hi.toNat)) tv) ∧ news' = innerJ f c' ci cd cn D (fnI d2iInner QJ (clJ cn ci cd) doc pm c' ctv) oc oi od on xs ep) := by
  have eb : fbody d2iInner = fbody d2iInner := rfl
  have ea : fargs d2iInner = fargs d2iInner := rfl
  have es : fscope d2iInner = fscope d2iInner := rfl
  conv at eb => rhs; whnf
  conv at ea => rhs; whnf
  conv at es => rhs; whnf
  simp only [fnI, eb, ea, es]
  clear eb ea es
  have hBp : (0 : Int) < 2 ^ n.toNat := Int.pow_pos (by omega)
  intro k
  induction k using Nat.strongRecOn with
  | ind k ih =>
  intro Lo Hi tl th hL hLH hH hk2
  intro loose mean mg mb dp un gd cn' cs aA ccd cl outer A₀ base h₀ L m s Q E rest B F X N NR hap T hk hdp hu hQ
  have hcd : s.heap.CodeRec (.ref c') QJ := codeRec_news N (List.mem_cons_of_mem _ (List.mem_cons_self ..)) hoc hvs
  refine' enterT (cl := clJ cn ci cd) B F X N NR hap T rfl rfl hk (N.get (List.mem_cons_self ..)) rfl hcd ?k8 ?k9 ?kB ?_ hQ ?c5 ?c2 ?c3 ?c4
  (case k8 => first | assumption | (dsimp only [ktrTop]; omega)); (case k9 => exact BindsTo.of_eq rfl); (case c5 => decide); (case kB => exact locs rfl); (case c2 => exact rfl); (case c3 => exact rfl); (case c4 => exact rfl)
  clear hQ NR hap B F X N T hcd
  intro g' L' h' tk' F' N' B' X' T' l'; (try dsimp only); (try k_lt l')
  unfold innerJ at N'
  clear l'
  show wpAny _ _ _ _ _ _
  k_fold
  have hC : CodeHd g' 41 37 := codeHd_of_K X' (by kernel_rfl)
  by_cases hc : Lo + 1 = Hi
  · clear ih
    have hcb : (Lo + 1 == Hi) = true := by simpa using hc
    k_steps
    refine EndT.intro ⟨ktn_int ?_, rfl⟩ (by assumption) (by assumption)
    have e : Hi.toNat = Lo.toNat + 1 := by omega
    rw [e, part_leaf (by omega)]
  · have hcb : (Lo + 1 == Hi) = false := by simpa using hc
    obtain ⟨j, rfl⟩ : ∃ j, k = j + 1 := by
      cases k with
      | zero => rw [Int.pow_zero] at hk2; omega
      | succ j => exact ⟨j, rfl⟩
    replace ih := ih j (Nat.lt_succ_self j)
    have hm := mid_of Lo Hi
    have hmid : Lo < (Lo + Hi).fdiv (2 ^ Int.toNat 1) ∧ (Lo + Hi).fdiv (2 ^ Int.toNat 1) < Hi := by rw [hm]; omega
    obtain ⟨hs0, hs1, hs2⟩ := und_shift (mid := (Lo + Hi).fdiv (2 ^ Int.toNat 1)) (Hi := Hi) hn hn' hL (by omega) (by omega) hH hx1 hd
    k_steps
    refine Stop.go ?_
    refine' Ct.use (ih _ _ _ _ ?a1 ?a2 ?a3 ?a4) ?B ?F ?X ?N ?S ?O ?T ?k ?d ?u ?_
    (case B => assumption); (case F => assumption); (case X => assumption); (case N => assumption); (case S => exact Split.nil); (case O => exact off_nil); (case T => assumption); (case k => rfl)
    (case a1 => omega); (case a2 => omega); (case a3 => omega); (case a4 => rw [Int.pow_succ] at hk2; omega)
    (case d => dsimp only [ktrTop, Around.deeper] at *; omega); (case u => dsimp only [ktrTop, Around.deeper] at *; omega)
    rintro v news1 h1 tk1 ⟨⟨tv, rfl⟩, rfl⟩ F1 N1 _
    rw [List.append_nil] at N1
    unfold innerJ at N1
    k_sweep
    k_steps
    refine Stop.go ?_
    refine lshift_int hs0 hs1 ?_
    k_steps
    refine Stop.go ?_
    refine' Ct.use (ih _ _ _ _ ?a1 ?a2 ?a3 ?a4) ?B ?F ?X ?N ?S ?O ?T ?k ?d ?u ?_
    (case B => assumption); (case F => assumption); (case X => assumption); (case N => assumption); (case S => exact Split.nil); (case O => exact off_nil); (case T => assumption); (case k => rfl)
    (case a1 => omega); (case a2 => omega); (case a3 => omega); (case a4 => rw [Int.pow_succ] at hk2; omega)
    (case d => dsimp only [ktrTop, Around.deeper] at *; omega); (case u => dsimp only [ktrTop, Around.deeper] at *; omega)
    rintro v news2 h2 tk2 ⟨⟨tv2, rfl⟩, rfl⟩ F2 N2 _
    rw [List.append_nil] at N2
    k_steps
    refine EndT.intro ⟨ktn_int ?_, rfl⟩ F2 N2
    rw [hs2]
end Mine

namespace Mine
open PySem PySem.W PySem.Calls PyProof.Rows PySem.Spec
theorem resetJ2 : True := by
  w_top off
  exact trivial
local macro_rules | `(tactic| walk_at "call ref") => `(tactic| refine stop_of ?_)
local macro_rules | `(tactic| walk_at "exec FunctionDef") => `(tactic| refine stop_of ?_)

set_option maxHeartbeats 8000000 in
theorem d2i_ct (w : World) (n : Int) (D : Addr) (xs : List Value) (ns : List Int) (ep : Nat) (tn : Tok) (p : Array Value) (c : Addr) (o : Obj) (hI : IntsAre xs ns) (hdg : ∀ d ∈ ns, 0 ≤ d ∧ d < (2 : Int) ^ n.toNat) (hx1 : ns.length ≤ 100) (hn : 1 ≤ n) (hn' : n ≤ 6)
    (hT : Tb 37 (fposS d2iInner) QJ p c o) (hDP : @Ne Nat D 37) (hDc : @Ne Nat D c) :
    Ct w 42 [.ref D, .int n tn] [(D, listOf xs.toArray ep), (37, tabObj p), (c, o)] 12 200 (fun v news' => (∃ tv, v = .int (und (2 ^ n.toNat) ns) tv) ∧ ∃ p' c' o', news' = [(D, listOf xs.toArray ep), (37, tabObj p'), (c', o')] ∧
      Tb 37 (fposS d2iInner) QJ p' c' o' ∧ @Ne Nat D c') := by
  intro loose mean mg mb dp un gd cn cs aA ccd cl outer A₀ base h₀ L m s Q E rest B F X N NR hap T hk hd hu hQ
  refine' enterKC B F X N NR hap T rfl rfl hk hQ ?k6 ?k7 ?k8 ?k9 ?kB ?kD ?_ ?c2 ?c3 ?c4
  (case k6 => k_is); (case k7 => k_is); (case k8 => first | assumption | (dsimp only [ktrTop]; omega)); (case k9 => exact BindsTo.of_eq rfl); (case kB => exact rfl); (case kD => decide +kernel); (case c2 => exact rfl); (case c3 => exact rfl); (case c4 => exact rfl)
  clear hQ NR hap B F X N T
  intro g' L' h' tk' cells' F' N' Y' B' X' T' l'
  k_lt l'
  k_cells Y'
  rename_i oi on od di dn dd
  have dn : on.data = .cell (some (.int n tn)) := dn
  have dd : od.data = .cell (some (.ref D)) := dd
  simp only [List.cons_append, List.nil_append] at N'
  (try dsimp only)
  show wpAny _ _ _ _ _ _
  k_fold
  have hC : CodeHd g' 41 37 := codeHd_of_K X' (by kernel_rfl)
  k_steps
  refine Stop.go ?_
  refine nestDef_K rfl rfl rfl ?_
  refine nestT (own := [_, _, _, _]) F' N' T' hC rfl hT ?hP ?hc rfl fun f c' oc vs t ctv doc h3 tk3 F3 N3 hoc hvs m1 m2 m3 m4 m5 => ?_
  (case hP => (simp only [AllNe, and_true]; omega))
  (case hc => (simp only [AllNe, and_true]; omega))
  simp only [AllNe, and_true] at m2 m3
  simp only [List.cons_append, List.nil_append] at N3
  clear N' F'
  k_steps
  · rename_i h4 oI F4 N4 dI ha0
    refine Stop.go ?_
    have hoc' : vs[1]? = some (.str QJ t) := hvs
    have N5 : News g' L' h4 ((37, tabObj #[rawInt (fposS d2iInner).line, rawInt (fposS d2iInner).col, .ref c']) :: innerJ f c' (L' + 1 + 1 + 1) (L' + 1) (L' + 1 + 1) D (fnI d2iInner QJ (clJ (L' + 1 + 1) (L' + 1 + 1 + 1) (L' + 1)) doc ((mg "__name__").getD .none) c' ctv) oc oI od on xs ep) := cb_drop N4 (by kcj_all)
    have C := innerJ_ct w n hn hn' f c' (L' + 1 + 1 + 1) (L' + 1) (L' + 1 + 1) D oc oI od on vs t tn doc ((mg "__name__").getD .none) ctv ep xs ns hI hdg hx1 dI dd dn hoc hoc' 7 0 (ns.length : Int) (tk3 + 1 + 1) (tk3 + 1 + 1 + 1 + 1) (by omega) (by omega) (by omega) (by omega)
    refine Ct.use C B' F4 X' N5 (Split.cons Split.nil) ?O T' rfl ?d ?u ?_
    (case O => (simp only [innerJ, Off, AllNe, and_true]; omega))
    (case d => dsimp only [ktrTop, Around.deeper] at *; omega)
    (case u => dsimp only [ktrTop, Around.deeper] at *; omega)
    rintro v news5 h5 tk5 ⟨⟨tv, rfl⟩, rfl⟩ F5 N6 _
    rw [Int.toNat_natCast, show (0 : Int).toNat = 0 from rfl, part_whole]
    clear C N5 F4 N4
    unfold innerJ at N6
    simp only [List.cons_append, List.nil_append] at N6
    k_steps
    exact EndT.intro ⟨⟨tv, rfl⟩, _, c', oc, rfl, .inr ⟨rfl, m1, vs, t, hoc, hvs⟩, m2.2.2.2⟩ (by assumption) (cb_drop N6 (by kcj_all))
  · rename_i h4 oI F4 N4 dI ha0
    have e0 : ns = [] := List.eq_nil_of_length_eq_zero (by omega)
    subst e0
    exact EndT.intro ⟨⟨_, rfl⟩, _, c', oc, rfl, .inr ⟨rfl, m1, vs, t, hoc, hvs⟩, m2.2.2.2⟩ F4 (cb_drop N4 (by kcj_all))
end Mine

namespace Mine
open PySem PySem.W PySem.Calls PyProof.Rows PySem.Spec
theorem resetK1 : True := by
  w_top off
  exact trivial
local macro_rules | `(tactic| walk_at "call ref") => `(tactic| refine stop_of ?_)
local macro_rules | `(tactic| walk_at "pyIter ref") => `(tactic| refine stop_of ?_)
local macro_rules | `(tactic| walk_at "UnrPost") => `(tactic| refine stop_of ?_)
theorem ints_snoc {ys : List Value} {qs : List Int} (h : IntsAre ys qs) (q : Int) (t : Tok) : IntsAre (ys ++ [.int q t]) (qs ++ [q]) := h.append (.cons q t .nil)
theorem map3 {a q r : Str} {v1 v2 v3 v4 v5 v6 : Option Value} {m : Str → Option Value} : (fun y => if y = r then v3 else if y = q then v2 else if y = a then v1 else if y = a then v4 else if y = q then v5 else if y = r then v6 else m y) =
    (fun y => if y = a then (if a = r then v3 else if a = q then v2 else v1) else if y = q then (if q = r then v3 else v2) else if y = r then v3 else m y) := by
  funext y
  by_cases h1 : y = r
  · subst h1
    by_cases h2 : y = a
    · subst h2; simp
    · by_cases h3 : y = q
      · subst h3; simp [h2]
      · simp [h2, h3]
  · by_cases h2 : y = q
    · subst h2
      by_cases h3 : y = a
      · subst h3; simp [h1]
      · simp [h1, h3]
    · by_cases h3 : y = a
      · subst h3; simp [h1, h2]
      · simp [h1, h2, h3]

/-- both code tables, and what stands apart -/
structure TOk (p1 : Array Value) (c1 : Addr) (o1 : Obj) (p2 : Array Value) (c2 : Addr) (o2 : Obj) : Prop where
  t1 : Tb 37 (fposS d2iInner) QJ p1 c1 o1
  t2 : Tb 30 (fposS i2dInner) QI p2 c2 o2
  n1 : @Ne Nat c1 30
  n2 : @Ne Nat c2 37
  n3 : @Ne Nat c1 c2
def TL (p1 : Array Value) (c1 : Addr) (o1 : Obj) (p2 : Array Value) (c2 : Addr) (o2 : Obj) : List (Addr × Obj) := [(37, tabObj p1), (c1, o1), (30, tabObj p2), (c2, o2)]

section
variable {prog : Program} {w : World} {A : Around} {E : Value → Shared → Prop} {s : Shared} {env : Env} {h₀ : Heap} {x : Str} {body : List Stmt} {Q : Flow → Shared → Prop} {I : Addr} {lp : Addr × Obj}
theorem UnrPost.mono {L : Addr} {s₁ : Shared} {it : Obj} {R R' : (Str → Option Value) → List (Addr × Obj) → Prop} {f : Flow} {s₂ : Shared} (h : UnrPost h₀ L s₁ I it R Q f s₂) (hR : ∀ m n, R m n → R' m n) : UnrPost h₀ L s₁ I it R' Q f s₂ := by
  cases f with
  | ret v => exact h
  | brk => exact h
  | next => obtain ⟨h', tk, m', n', e, F, N, o, r⟩ := h; exact ⟨h', tk, m', n', e, F, N, o, hR _ _ r⟩
  | cont => obtain ⟨h', tk, m', n', e, F, N, o, r⟩ := h; exact ⟨h', tk, m', n', e, F, N, o, hR _ _ r⟩
theorem revRest_ind (J : List Value → (Str → Option Value) → List (Addr × Obj) → Prop)
    (zero : ∀ m news, J [] m news → ∀ h tk, Fr h₀ env.locals h m → News h₀ env.locals h news → Q .next { s with heap := h, toks := tk })
    (succ : ∀ v r m news, J (v :: r) m news → ∀ (it : Obj) h tk, it.cls = .type "list_reverseiterator" → Fr h₀ env.locals h (fun y => if y = x then some v else m y) → News h₀ env.locals h ((I, it) :: news) → AllNe I news →
      wpAny (model prog w) A (execs body env) (UnrPost h₀ env.locals { s with heap := h, toks := tk } I it (fun m' n' => lp ∈ n' ∧ AllNe I n' ∧ J r m' n') Q) E { s with heap := h, toks := tk }) :
    ∀ l m news, AllNe I news → J l m news → RevRest prog w A E h₀ env x body Q s I lp l m news
  | [], m, news, _, hj => zero m news hj
  | v :: r, m, news, ho, hj => fun it h tk hc F N => wpAny_mono (succ v r m news hj it h tk hc F N ho) (fun _ _ p => UnrPost.mono p fun _ _ q => ⟨q.1, revRest_ind J zero succ r _ _ q.2.1 q.2.2⟩) fun _ _ e => e
end
theorem offI_of {I : Addr} {it : Obj} : ∀ {l : List (Addr × Obj)}, AllNe I l → OffI I it l
  | [], _ => trivial
  | _ :: _, h => ⟨.inl h.1, offI_of h.2⟩

set_option maxHeartbeats 8000000 in
theorem dpos_ct (w : World) (a b : Int) (ta tb : Tok) (p1 : Array Value) (c1 : Addr) (o1 : Obj) (p2 : Array Value) (c2 : Addr) (o2 : Obj) (hT : TOk p1 c1 o1 p2 c2 o2) (ha : 0 ≤ a) (ha' : a < 2 ^ 64) (hb : 0 < b) (hb' : b < 64) :
    Ct w 49 [.int a ta, .int b tb] (TL p1 c1 o1 p2 c2 o2) 14 220 (fun v news' => ∃ D t u c p1' c1' o1' p2' c2' o2', v = .ref D ∧ news' = tup2 D (a / b) (a % b) t u c :: TL p1' c1' o1' p2' c2' o2' ∧ TOk p1' c1' o1' p2' c2' o2' ∧ AllNe D (TL p1' c1' o1' p2' c2' o2')) := by
  intro loose mean mg mb dp un gd cn cs aA ccd cl outer A₀ base h₀ L m s Q E rest B F X N NR hap T hk hd hu hQ
  refine' enterK B F X N NR hap T rfl rfl hk hQ ?k6 ?k7 ?k8 ?k9 ?kB ?_ ?c5 ?c2 ?c3 ?c4
  (case k6 => k_is); (case k7 => k_is); (case k8 => first | assumption | (dsimp only [ktrTop]; omega)); (case k9 => exact BindsTo.of_eq rfl); (case c5 => decide); (case kB => exact locs rfl); (case c2 => exact rfl); (case c3 => exact rfl); (case c4 => exact rfl)
  clear hQ NR hap B F X N T
  intro g' L' h' tk' F' N' B' X' T' l'; (try dsimp only)
  unfold TL at N' l'
  k_lt l'
  show wpAny _ _ _ _ _ _
  k_fold
  have hn0 : 1 ≤ ((Builtin.Int.intBits b : Nat) : Int) ∧ ((Builtin.Int.intBits b : Nat) : Int) ≤ 6 := by
    have h1 := bits_le (a := b) (k := 6) (by omega) hb'
    have h2 : 1 ≤ Builtin.Int.intBits b := by
      unfold Builtin.Int.intBits
      rw [if_neg (by simpa using (show b ≠ 0 by omega))]; omega
    omega
  have hbB : b < 2 ^ Builtin.Int.intBits b := lt_bits (by omega)
  have hB64 : (2 : Int) ^ Builtin.Int.intBits b ≤ 64 := by
    have : 2 ^ Builtin.Int.intBits b ≤ 2 ^ 6 := Nat.pow_le_pow_right (by decide) (by omega)
    exact_mod_cast this
  k_steps
  rename_i h1 F1 N1
  refine Stop.go ?_
  have l0 := hT.n1
  have l1 := hT.n2
  have l2 := hT.n3
  refine Ct.use (i2d_ct w a _ ta tk' p2 c2 o2 ha ha' hn0.1 hn0.2 hT.t2) B' F1 X' N1 (Split.cons (Split.cons Split.nil)) ?O T' rfl ?d ?u ?_
  (case O => (simp only [Off, AllNe, and_true]; omega))
  (case d => dsimp only [ktrTop, Around.deeper] at *; omega)
  (case u => dsimp only [ktrTop, Around.deeper] at *; omega)
  rintro v news2 h2 tk2 ⟨D, xs, ep, p2', c2', o2', rfl, rfl, hI, hT2, m1, m2⟩ F2 N2 O2
  simp only [Off, AllNe, and_true] at O2
  simp only [List.cons_append, List.nil_append] at N2
  clear N1 F1
  k_steps
  rename_i h3 QD h4 l3 h5 I h6 F3 N3 l4
  refine Stop.go ?_
  obtain ⟨m0, hm0, F3⟩ : ∃ m0, m0 = _ ∧ Fr g' L' h6 m0 := ⟨_, rfl, F3⟩
  refine iter_revUnr (lo := W.listOf xs.toArray ep) (vs := xs) rfl F3 N3 (offI_of ?of) (by k_mem) rfl rfl ?rest
  (case of => (simp only [AllNe, and_true]; omega))
  refine revRest_ind (fun l m news => ∃ ds V va vq r tr ys qs, IntsAre l ds ∧ (∀ d ∈ ds, 0 ≤ d ∧ d < (2 : Int) ^ (Builtin.Int.intBits b)) ∧ 0 ≤ V ∧ a = V * (2 ^ (Builtin.Int.intBits b)) ^ ds.length + und (2 ^ (Builtin.Int.intBits b)) ds.reverse ∧
      r = V % b ∧ und (2 ^ (Builtin.Int.intBits b)) qs.reverse = V / b ∧ (∀ d ∈ qs, 0 ≤ d ∧ d < (2 : Int) ^ (Builtin.Int.intBits b)) ∧ qs.length + ds.length ≤ 100 ∧ IntsAre ys qs ∧
      m = (fun y => if y = PySem.Str.ofString "a_digit" then va else if y = PySem.Str.ofString "q_digit" then vq else if y = PySem.Str.ofString "r" then some (.int r tr) else m0 y) ∧
      news = [(QD, W.listOf ys.toArray ys.length), (D, W.listOf xs.toArray ep), (30, tabObj p2'), (c2', o2'), (37, tabObj p1), (c1, o1)]) ?_ ?_ _ _ _ ?_ ?_
  · rintro m news ⟨ds, V, va, vq, r, tr, ys, qs, hId, hds, hV, hav, rfl, hq, hqs, hlen, hIq, rfl, rfl⟩ h tk F4 N4
    cases hId
    have hVa : V = a := by rw [hav]; simp [und]
    subst hVa
    rw [hm0] at F4
    (try dsimp only)
    k_steps
    have htn : (2 : Int) ^ ((Builtin.Int.intBits b : Nat) : Int).toNat = 2 ^ Builtin.Int.intBits b := by rw [Int.toNat_natCast]
    refine reverse_head_ints (its := ys.toArray) (ns := qs) F4 N4 ?ap hIq (fun h5 F5 N5 hI5 => ?_) ?sz
    (case ap => exact AllNe.get (by simp only [AllNe, and_true]; omega))
    (case sz => (rw [sizeLine_eq]; simp at hlen; omega))
    clear F4 N4
    k_steps
    refine Stop.go ?_
    have N6 : News g' L' h5 [(30, tabObj p2'), (c2', o2'), (QD, W.listOf ys.reverse.toArray ys.length), (37, tabObj p1), (c1, o1)] := cb_drop N5 (by kcj_all)
    refine Ct.use (d2i_ct w (Builtin.Int.intBits b) QD ys.reverse qs.reverse ys.length _ p1 c1 o1 hI5 (fun d hd => ?dg) ?ln hn0.1 hn0.2 hT.t1 ?e1 ?e2) B' (by assumption) X' N6 (Split.cons (Split.cons Split.nil)) ?O T' rfl ?d ?u ?_
    (case dg => (rw [htn]; exact hqs d (List.mem_reverse.mp hd)))
    (case ln => (rw [List.length_reverse]; simp at hlen; omega))
    (case e1 => omega)
    (case e2 => omega)
    (case O => (simp only [Off, AllNe, and_true]; omega))
    (case d => dsimp only [ktrTop, Around.deeper] at *; omega)
    (case u => dsimp only [ktrTop, Around.deeper] at *; omega)
    rintro v news7 h7 tk7 ⟨⟨tv, rfl⟩, p1', c1', o1', rfl, hT1, m3⟩ F7 N7 O7
    rw [htn, hq]
    simp only [Off, AllNe, and_true] at O7
    simp only [List.cons_append, List.nil_append] at N7
    clear N5 N6
    k_steps
    rename_i h8 h9 F8 N8 l8
    exact EndT.intro ⟨_, tv, tr, 0, p1', c1', o1', p2', c2', o2', rfl, rfl, ⟨hT1, hT2, by omega, by omega, by omega⟩, by simp only [TL, AllNe, and_true]; omega⟩ F8 (cb_drop N8 (by unfold TL; kcj_all))
  · rintro v l m news ⟨ds, V, va, vq, r, tr, ys, qs, hId, hds, hV, hav, hr, hq, hqs, hlen, hIq, rfl, rfl⟩ it h tk hcls F4 N4 hof
    simp only [AllNe, and_true] at hof
    cases hId with
    | @cons d td l' ds' hId' =>
    rw [hm0] at F4
    obtain ⟨hd0, hd1⟩ := hds d (.head _)
    obtain ⟨q1, q2, q3, q4, q5, q6⟩ := ld_step (V := V) (d := d) hb (by omega) hbB hB64 hV hd0 hd1
    have hr0 := Int.emod_nonneg V (show b ≠ 0 by omega)
    have hr1 := Int.emod_lt_of_pos V hb
    rw [← hr] at q1 q2 q3 q4 q5 q6 hr0 hr1
    have hrn : r.natAbs < 2 ^ 64 := by omega
    have hnn : ((Builtin.Int.intBits b : Nat) : Int) ≤ 1000000 := by omega
    have htn : (2 : Int) ^ ((Builtin.Int.intBits b : Nat) : Int).toNat = 2 ^ Builtin.Int.intBits b := by rw [Int.toNat_natCast]
    show wpAny _ _ _ _ _ _
    k_fold
    k_steps
    refine Stop.go ?_
    rw [htn]
    refine Ct.use (div2_ct w (r * 2 ^ Builtin.Int.intBits b + d) b (Builtin.Int.intBits b) _ _ _ q1 q2 hb hb' (by omega)) B' F4 X' N4 (Split.cons (Split.cons (Split.cons (Split.cons (Split.cons (Split.cons (Split.cons Split.nil))))))) ?O T' rfl ?d ?u ?_
    (case O => trivial)
    (case d => dsimp only [ktrTop, Around.deeper] at *; omega)
    (case u => dsimp only [ktrTop, Around.deeper] at *; omega)
    rintro v news5 h5 tk5 ⟨D5, t5, u5, c5, rfl, rfl⟩ F5 N5 O5
    simp only [Off, AllNe, and_true] at O5
    simp only [List.cons_append, List.nil_append] at N5
    clear N4 F4
    k_steps
    rename_i h7 h8 h9 h10 F6 N6
    refine Stop.go ?_
    rw [List.push_toArray] at N6
    refine UnrEnd.intro F6 N6 [(QD, W.listOf (ys ++ [Value.int ((r * 2 ^ Builtin.Int.intBits b + d) / b) t5]).toArray (ys.length + 1)), (D, W.listOf xs.toArray ep), (30, tabObj p2'), (c2', o2'), (37, tabObj p1), (c1, o1)] (fun _ hp => .tail _ hp) ?_ ⟨by k_mem, ?_, ds', V * 2 ^ Builtin.Int.intBits b + d, (if PySem.Str.ofString "a_digit" = PySem.Str.ofString "r" then some (Value.int ((r * 2 ^ Builtin.Int.intBits b + d) % b) u5) else if PySem.Str.ofString "a_digit" = PySem.Str.ofString "q_digit" then some (Value.int ((r * 2 ^ Builtin.Int.intBits b + d) / b) t5) else some (Value.int d td)), (if PySem.Str.ofString "q_digit" = PySem.Str.ofString "r" then some (Value.int ((r * 2 ^ Builtin.Int.intBits b + d) % b) u5) else some (Value.int ((r * 2 ^ Builtin.Int.intBits b + d) / b) t5)), (r * 2 ^ Builtin.Int.intBits b + d) % b, u5, ys ++ [Value.int ((r * 2 ^ Builtin.Int.intBits b + d) / b) t5], qs ++ [(r * 2 ^ Builtin.Int.intBits b + d) / b], hId', (fun x hx => hds x (.tail _ hx)), ?_, ?_, q5.symm, ?_, ?_, ?_, ints_snoc hIq _ t5, ?_, ?_⟩
    · exact AllNe.get (by simp only [AllNe, and_true]; omega)
    · simp only [AllNe, and_true]; omega
    · have := Int.mul_nonneg hV (show (0 : Int) ≤ 2 ^ Builtin.Int.intBits b by omega)
      omega
    · rw [hav, ld_inv]
    · rw [List.reverse_append, List.reverse_cons, List.reverse_nil, List.nil_append, List.cons_append, List.nil_append, und, hq, q6]
      have := Int.mul_comm ((2 : Int) ^ Builtin.Int.intBits b) (V / b)
      omega
    · intro x hx
      rcases List.mem_append.mp hx with hx | hx
      · exact hqs x hx
      · rw [List.mem_singleton.mp hx]; exact ⟨q3, q4⟩
    · rw [List.length_append, List.length_cons] at *; simp; omega
    · rw [hm0]; exact map3
    · simp
  · simp only [AllNe, and_true]; omega
  · obtain ⟨k1, k2, k3⟩ := len_of (a := a) (n := Builtin.Int.intBits b) (bits_le ha ha') hn0.1 hn0.2
    have htn : (2 : Int) ^ ((Builtin.Int.intBits b : Nat) : Int).toNat = 2 ^ Builtin.Int.intBits b := by rw [Int.toNat_natCast]
    have hBp : (0 : Int) < 2 ^ Builtin.Int.intBits b := Int.pow_pos (by omega)
    rw [htn] at hI
    obtain ⟨tr0, htr0⟩ : ∃ t, m0 (PySem.Str.ofString "r") = some (.int 0 t) := ⟨_, by rw [hm0]; rfl⟩
    refine ⟨_, 0, m0 (PySem.Str.ofString "a_digit"), m0 (PySem.Str.ofString "q_digit"), 0, tr0, [], [], hI.reverse, ?_, Int.le_refl _, ?_, by simp, by simp [und], fun _ h => (nomatch h), ?_, .nil, ?_, rfl⟩
    · intro d hd; exact digs_mem hBp _ _ d (List.mem_reverse.mp hd)
    · rw [Int.zero_mul, Int.zero_add, List.reverse_reverse, und_digs hBp]
      have := len_pow (a := a) (n := Builtin.Int.intBits b) ha hn0.1
      rw [htn] at this
      exact (Int.emod_eq_of_lt ha this).symm
    · rw [List.length_reverse, digs_length]; simp; omega
    · funext y
      by_cases h1 : y = PySem.Str.ofString "a_digit"
      · rw [if_pos h1, h1]
      · rw [if_neg h1]
        by_cases h2 : y = PySem.Str.ofString "q_digit"
        · rw [if_pos h2, h2]
        · rw [if_neg h2]
          by_cases h3 : y = PySem.Str.ofString "r"
          · rw [if_pos h3, h3]; exact htr0
          · rw [if_neg h3]
end Mine

namespace Mine
open PySem PySem.W PySem.Calls PyProof.Rows PySem.Spec
theorem resetK2 : True := by
  w_top off
  exact trivial
local macro_rules | `(tactic| walk_at "call ref") => `(tactic| refine stop_of ?_)
set_option maxHeartbeats 8000000 in
theorem dm_ct (w : World) (a b : Int) (ta tb : Tok) (p1 : Array Value) (c1 : Addr) (o1 : Obj) (p2 : Array Value) (c2 : Addr) (o2 : Obj) (hT : TOk p1 c1 o1 p2 c2 o2) (ha : 0 ≤ a) (ha' : a < 2 ^ 64) (hb : 0 < b) (hb' : b < 64) :
    Ct w 56 [.int a ta, .int b tb] (TL p1 c1 o1 p2 c2 o2) 15 230 (fun v news' => ∃ D t u c p1' c1' o1' p2' c2' o2', v = .ref D ∧ news' = tup2 D (a / b) (a % b) t u c :: TL p1' c1' o1' p2' c2' o2' ∧ TOk p1' c1' o1' p2' c2' o2' ∧ AllNe D (TL p1' c1' o1' p2' c2' o2')) := by
  intro loose mean mg mb dp un gd cn cs aA ccd cl outer A₀ base h₀ L m s Q E rest B F X N NR hap T hk hd hu hQ
  refine' enterK B F X N NR hap T rfl rfl hk hQ ?k6 ?k7 ?k8 ?k9 ?kB ?_ ?c5 ?c2 ?c3 ?c4
  (case k6 => k_is); (case k7 => k_is); (case k8 => first | assumption | (dsimp only [ktrTop]; omega)); (case k9 => exact BindsTo.of_eq rfl); (case c5 => decide); (case kB => exact locs rfl); (case c2 => exact rfl); (case c3 => exact rfl); (case c4 => exact rfl)
  clear hQ NR hap B F X N T
  intro g' L' h' tk' F' N' B' X' T' l'; (try dsimp only)
  clear l'
  show wpAny _ _ _ _ _ _
  k_fold
  have z1 : (b == 0) = false := by simpa using (show b ≠ 0 by omega)
  have z2 : decide (b < 0) = false := by simpa using (show 0 ≤ b by omega)
  have z3 : decide (a < 0) = false := by simpa using ha
  k_steps
  refine Stop.go ?_
  refine Ct.use (dpos_ct w a b ta tb p1 c1 o1 p2 c2 o2 hT ha ha' hb hb') B' F' X' N' Split.nil off_nil T' rfl ?d ?u ?_
  (case d => dsimp only [ktrTop, Around.deeper] at *; omega)
  (case u => dsimp only [ktrTop, Around.deeper] at *; omega)
  rintro v news7 h7 tk7 ⟨D, t, u, c, p1', c1', o1', p2', c2', o2', rfl, rfl, hT', hD⟩ F7 N7 _
  rw [List.append_nil] at N7
  k_steps
  exact EndT.intro ⟨D, t, u, c, p1', c1', o1', p2', c2', o2', rfl, rfl, hT', hD⟩ F7 N7
end Mine

namespace Mine
open PySem PySem.W PySem.Calls PyProof.Rows PySem.Spec
theorem resetW2 : True := by
  w_top off
  exact trivial
local macro_rules | `(tactic| walk_at "call ref") => `(tactic| refine stop_of ?_)
local macro_rules | `(tactic| walk_at "pyIter ref") => `(tactic| refine stop_of ?_)
local macro_rules | `(tactic| walk_at "UnrPost") => `(tactic| refine stop_of ?_)

section
variable {prog : Program} {w : World} {A : Around} {E : Value → Shared → Prop} {s : Shared} {env : Env} {h₀ : Heap} {x : Str} {body : List Stmt} {Q : Flow → Shared → Prop}
/-- a loop over a range, by an invariant over its frame and its ledger -/
theorem for_range {r : Addr} {a₀ b₀ c : Int} {t₀ u₀ v₀ : Tok} {n : Nat} {m₀ : Str → Option Value} {news : List (Addr × Obj)} (J : Nat → (Str → Option Value) → List (Addr × Obj) → Prop)
    (hh : A.handled = none) (hr : IsRange s.heap r a₀ b₀ c t₀ u₀ v₀) (hsmall : Builtin.Range.small a₀ b₀ c = true) (hn : Builtin.Range.rangeSize a₀ b₀ c = (n : Int)) (F : Fr h₀ env.locals s.heap m₀) (N : News h₀ env.locals s.heap news) (hJ : J 0 m₀ news)
    (turn : ∀ i t m₁ news₁ h tk I it, i < n → J i m₁ news₁ → AllNe I news₁ → Fr h₀ env.locals h (fun y => if y = x then some (.int (a₀ + (i : Int) * c) t) else m₁ y) → News h₀ env.locals h ((I, it) :: news₁) →
      wpAny (model prog w) A (execs body env) (UnrPost h₀ env.locals { s with heap := h, toks := tk } I it (J (i + 1)) Q) E { s with heap := h, toks := tk })
    (done : ∀ m₁ news₁ h tk, J n m₁ news₁ → Fr h₀ env.locals h m₁ → News h₀ env.locals h news₁ → Q .next { s with heap := h, toks := tk }) :
    wpAny (model prog w) A (pyIter (.ref r)) (fun it s₂ => LoopAtV prog w A h₀ env x body Q E it s₂) E s := by
  refine wpAny_pyIter_range hr hsmall ?_
  have W := Walks.range (prog := prog) (w := w) hh s.heap.objs.size a₀ c n
  refine ⟨_, _, _, n, _, _, m₀, news, J, rfl, W, ?_, ?_, ?_, ?_, F.push _, (fun p hp => ⟨Heap.get?_push_of_some _ (N p hp).1, (N p hp).2⟩), hJ, ?_, ?_⟩
  · intro hm
    exact absurd F.ns.lt ((List.mem_singleton.mp hm) ▸ Nat.lt_irrefl _)
  · intro b hb
    rw [List.mem_singleton.mp hb]
    exact next_is_new F
  · intro p hp hI
    exact absurd (Heap.lt_size (N p hp).1) ((List.mem_singleton.mp hI) ▸ Nat.lt_irrefl _)
  · show IsRangeIter _ _ _ _ _
    rw [hn]; simpa using Heap.get?_push_size _ rfl
  · rintro i v m₁ news₁ s₁ own ⟨hh', tk', rfl⟩ hin ⟨t, rfl⟩ hj hoff hown hget hall hst F₁ N₁
    obtain ⟨it, hit⟩ : ∃ it, hh'.get? s.heap.objs.size = some it := ⟨_, hst⟩
    have hio := hall s.heap.objs.size (List.mem_singleton.mpr rfl) (next_is_new F) it hit
    have hone : ∀ p ∈ own, p = (s.heap.objs.size, it) := own_one hown (fun b hb => .inl (List.mem_singleton.mp hb)) hit N₁
    refine wpAny_mono (turn i t m₁ news₁ hh' tk' s.heap.objs.size it hin hj (allNe_of fun p hp e => hoff p hp (List.mem_singleton.mpr e)) F₁ (news_one hio N₁)) (fun f s₂ p => ?_) fun _ _ e => e
    have fin : ∀ {R}, UnrEnd h₀ env.locals { s with heap := hh', toks := tk' } s.heap.objs.size it R s₂ → LoopStepU h₀ env.locals [s.heap.objs.size] own R { s with heap := hh', toks := tk' } .next s₂ := by
      rintro R ⟨h', tk, m', news', e, F', N', ho, hr'⟩
      refine ⟨rfl, h', tk, m', news', e, F', fun p hp => ?_, fun p hp hI => ho p hp (List.mem_singleton.mp hI), hr'⟩
      rcases List.mem_append.mp hp with hp | hp
      · rw [hone p hp]; exact N' _ (List.mem_cons_self ..)
      · exact N' _ (List.mem_cons_of_mem _ hp)
    cases f with
    | ret v => exact .ret p
    | brk => exact .brk p
    | next => exact .next (fin p)
    | cont => exact .cont (fin p)
  · rintro h' tk m' news' F' N' _ hj
    exact done m' news' h' tk hj F' N'
end

/-- a frame with three of its names set -/
abbrev M3 (r q a : Str) (v3 v2 v1 : Option Value) (m : Str → Option Value) : Str → Option Value := fun y => if y = r then v3 else if y = q then v2 else if y = a then v1 else m y
theorem M3_again {r q a : Str} {v3 v2 v1 w3 w2 w1 : Option Value} {m : Str → Option Value} : M3 r q a v3 v2 v1 (M3 r q a w3 w2 w1 m) = M3 r q a v3 v2 v1 m := by
  funext y
  unfold M3
  by_cases h1 : y = r
  · simp [h1]
  · by_cases h2 : y = q
    · simp [h2]
    · by_cases h3 : y = a
      · simp [h3]
      · simp [h1, h2, h3]
theorem M3_self {r q a : Str} {m : Str → Option Value} : m = M3 r q a (m r) (m q) (m a) m := by
  funext y
  unfold M3
  by_cases h1 : y = r
  · simp [h1]
  · by_cases h2 : y = q
    · subst h2; simp [h1]
    · by_cases h3 : y = a
      · subst h3; simp [h1, h2]
      · simp [h1, h2, h3]

set_option maxHeartbeats 8000000 in
theorem ways_ct (w : World) (m f : Nat) (tm tf : Tok) (p1 : Array Value) (c1 : Addr) (o1 : Obj) (p2 : Array Value) (c2 : Addr) (o2 : Obj) (hT : TOk p1 c1 o1 p2 c2 o2) (hm : m ≤ 60) (hf : f ≤ 60) :
    Ct w 77 [.int (m : Int) tm, .int (f : Int) tf] (TL p1 c1 o1 p2 c2 o2) 17 250 (fun v news' => ∃ t p1' c1' o1' p2' c2' o2', v = .int (cw m f : Nat) t ∧ news' = TL p1' c1' o1' p2' c2' o2' ∧ TOk p1' c1' o1' p2' c2' o2') := by
  intro loose mean mg mb dp un gd cn cs aA ccd cl outer A₀ base h₀ L mm s Q E rest B F X N NR hap T hk hd hu hQ
  refine' enterK B F X N NR hap T rfl rfl hk hQ ?k6 ?k7 ?k8 ?k9 ?kB ?_ ?c5 ?c2 ?c3 ?c4
  (case k6 => k_is); (case k7 => k_is); (case k8 => first | assumption | (dsimp only [ktrTop]; omega)); (case k9 => exact BindsTo.of_eq rfl); (case c5 => decide); (case kB => exact locs rfl); (case c2 => exact rfl); (case c3 => exact rfl); (case c4 => exact rfl)
  clear hQ NR hap B F X N T
  intro g' L' h' tk' F' N' B' X' T' l'; (try dsimp only)
  unfold TL at N' l'
  k_lt l'
  show wpAny _ _ _ _ _ _
  k_fold
  k_steps
  rename_i h1 F1 N1 h2 tk2 t2 u2 v2 hR F2 N2 hkeep
  refine Stop.go ?_
  obtain ⟨m0, hm0, F2⟩ : ∃ m0, m0 = _ ∧ Fr g' L' h2 m0 := ⟨_, rfl, F2⟩
  obtain ⟨tr0, htr0⟩ : ∃ t, m0 (PySem.Str.ofString "found") = some (.int 1 t) := ⟨_, by rw [hm0]; rfl⟩
  refine for_range (n := f) (fun i m1 news1 => ∃ vr vk t p1' c1' o1' p2' c2' o2', m1 = M3 (PySem.Str.ofString "rest") (PySem.Str.ofString "found") (PySem.Str.ofString "k") vr (some (.int (cw m i : Nat) t)) vk m0 ∧ news1 = TL p1' c1' o1' p2' c2' o2' ∧ TOk p1' c1' o1' p2' c2' o2')
    rfl hR ?small ?size F2 N2 ⟨m0 (PySem.Str.ofString "rest"), m0 (PySem.Str.ofString "k"), tr0, p1, c1, o1, p2, c2, o2, ?z, rfl, hT⟩ ?_ ?_
  (case small => exact small_one (by omega) (by omega) (by omega) (by omega))
  (case size => (unfold Builtin.Range.rangeSize; simp only [show ((1 : Int) > 0) = True from by simp, if_true, Int.ediv_one]; split <;> omega))
  (case z => (have := M3_self (m := m0) (r := PySem.Str.ofString "rest") (q := PySem.Str.ofString "found") (a := PySem.Str.ofString "k"); rw [htr0] at this; exact this))
  · rintro i t m1 news1 h tk I it hi ⟨vr, vk, tf', p1', c1', o1', p2', c2', o2', rfl, rfl, hT'⟩ hof F3 N3
    obtain ⟨q1, q2, q3, q4⟩ := cw_int (m := m) (k := i) hm (by omega)
    have ei : (0 : Int) + (i : Int) * 1 = i := by omega
    rw [ei] at F3
    rw [hm0] at F3
    have hO : Off [(I, it)] (TL p1' c1' o1' p2' c2' o2') := by
      refine off_of fun q hq r hr => ?_
      rw [List.mem_singleton.mp hr]
      exact Ne.symm (hof.get q hq)
    clear hof
    unfold TL at N3
    show wpAny _ _ _ _ _ _
    k_fold
    k_steps
    refine Stop.go ?_
    refine Ct.use (dm_ct w _ _ _ _ p1' c1' o1' p2' c2' o2' hT' q1 q2 (by omega) (by omega)) B' F3 X' N3 (Split.cons Split.nil) hO T' rfl ?d ?u ?_
    (case d => dsimp only [ktrTop, Around.deeper] at *; omega)
    (case u => dsimp only [ktrTop, Around.deeper] at *; omega)
    clear hO
    rintro v news7 h7 tk7 ⟨D, t7, u7, c7, p1'', c1'', o1'', p2'', c2'', o2'', rfl, rfl, hT'', hD⟩ F7 N7 O7
    rw [q3, q4] at N7
    unfold TL at N7
    simp only [List.cons_append, List.nil_append] at N7
    clear N3 F3
    k_steps
    rename_i h8 h9 h10 F8 N8 tk8
    refine Stop.go ?_
    refine UnrEnd.intro F8 N8 (TL p1'' c1'' o1'' p2'' c2'' o2'') ?_ ?_ ⟨some (.int 0 u7), some (.int i t), t7, p1'', c1'', o1'', p2'', c2'', o2'', ?_, rfl, hT''⟩
    · unfold TL; intro q hq; simp only [List.mem_cons, List.not_mem_nil, or_false] at hq ⊢; rcases hq with h | h | h | h | h <;> simp [h]
    · exact fun q hq => Ne.symm (O7.get q (.tail _ hq) _ (.head _))
    · rw [hm0]; exact M3_again
  · rintro m1 news1 h tk ⟨vr, vk, tf', p1', c1', o1', p2', c2', o2', rfl, rfl, hT'⟩ F3 N3
    rw [hm0] at F3
    (try dsimp only)
    k_steps
    exact EndT.intro ⟨tf', p1', c1', o1', p2', c2', o2', rfl, rfl, hT'⟩ F3 N3
end Mine

namespace Mine
open PySem PySem.W PySem.Calls PyProof.Rows PySem.Spec
theorem resetF1 : True := by
  w_top off
  exact trivial
local macro_rules | `(tactic| walk_at "call ref") => `(tactic| refine stop_of ?_)
local macro_rules | `(tactic| walk_at "pyIter ref") => `(tactic| refine stop_of ?_)
local macro_rules | `(tactic| walk_at "UnrPost") => `(tactic| refine stop_of ?_)
theorem fg_step {N p i : Nat} (hp : 1 < p) : ((N / p ^ i : Nat) : Int) % (p : Int) = (fg N p i : Int) ∧ ((N / p ^ i : Nat) : Int) / (p : Int) = ((N / p ^ (i + 1) : Nat) : Int) := by
  refine ⟨by unfold fg; rw [← Int.natCast_emod], ?_⟩
  rw [← Int.natCast_ediv, Nat.div_div_eq_div_mul, ← Nat.pow_succ]

theorem ints6 {xs : List Value} {a b c d e f : Int} (h : IntsAre xs [a, b, c, d, e, f]) : ∃ t0 t1 t2 t3 t4 t5, xs = [.int a t0, .int b t1, .int c t2, .int d t3, .int e t4, .int f t5] := by
  cases h with | cons _ t0 h =>
  cases h with | cons _ t1 h =>
  cases h with | cons _ t2 h =>
  cases h with | cons _ t3 h =>
  cases h with | cons _ t4 h =>
  cases h with | cons _ t5 h =>
  cases h
  exact ⟨t0, t1, t2, t3, t4, t5, rfl⟩

set_option maxHeartbeats 8000000 in
theorem figs_ct (w : World) (N p : Nat) (tm tf : Tok) (p1 : Array Value) (c1 : Addr) (o1 : Obj) (p2 : Array Value) (c2 : Addr) (o2 : Obj) (hT : TOk p1 c1 o1 p2 c2 o2) (hm : N ≤ 60) (hp : 1 < p) (hp' : p ≤ 11) :
    Ct w 84 [.int (N : Int) tm, .int (p : Int) tf] (TL p1 c1 o1 p2 c2 o2) 17 250 (fun v news' => ∃ D t0 t1 t2 t3 t4 t5 ep p1' c1' o1' p2' c2' o2', v = .ref D ∧
      news' = (D, W.listOf #[.int (fg N p 0 : Int) t0, .int (fg N p 1 : Int) t1, .int (fg N p 2 : Int) t2, .int (fg N p 3 : Int) t3, .int (fg N p 4 : Int) t4, .int (fg N p 5 : Int) t5] ep) :: TL p1' c1' o1' p2' c2' o2' ∧ TOk p1' c1' o1' p2' c2' o2' ∧ AllNe D (TL p1' c1' o1' p2' c2' o2')) := by
  intro loose mean mg mb dp un gd cn cs aA ccd cl outer A₀ base h₀ L mm s Q E rest B F X N0 NR hap T hk hd hu hQ
  refine' enterK B F X N0 NR hap T rfl rfl hk hQ ?k6 ?k7 ?k8 ?k9 ?kB ?_ ?c5 ?c2 ?c3 ?c4
  (case k6 => k_is); (case k7 => k_is); (case k8 => first | assumption | (dsimp only [ktrTop]; omega)); (case k9 => exact BindsTo.of_eq rfl); (case c5 => decide); (case kB => exact locs rfl); (case c2 => exact rfl); (case c3 => exact rfl); (case c4 => exact rfl)
  clear hQ NR hap B F X N0 T
  intro g' L' h' tk' F' N' B' X' T' l'; (try dsimp only)
  unfold TL at N' l'
  k_lt l'
  show wpAny _ _ _ _ _ _
  k_fold
  k_steps
  rename_i QD h0 l1 h1 F1 N1 h2 tk2 t2 u2 v2 hR F2 N2 hkeep
  refine Stop.go ?_
  obtain ⟨m0, hm0, F2⟩ : ∃ m0, m0 = _ ∧ Fr g' L' h2 m0 := ⟨_, rfl, F2⟩
  obtain ⟨tr0, htr0⟩ : ∃ t, m0 (PySem.Str.ofString "number") = some (.int N t) := ⟨_, by rw [hm0]; rfl⟩
  refine for_range (n := 6) (fun i m1 news1 => ∃ vr vk t xs p1' c1' o1' p2' c2' o2', m1 = M3 (PySem.Str.ofString "rest") (PySem.Str.ofString "number") (PySem.Str.ofString "turn") vr (some (.int (N / p ^ i : Nat) t)) vk m0 ∧ news1 = (QD, W.listOf xs.toArray xs.length) :: TL p1' c1' o1' p2' c2' o2' ∧
      IntsAre xs ((List.range i).map fun j => (fg N p j : Int)) ∧ TOk p1' c1' o1' p2' c2' o2' ∧ AllNe QD (TL p1' c1' o1' p2' c2' o2'))
    rfl hR ?small ?size F2 N2 ⟨m0 (PySem.Str.ofString "rest"), m0 (PySem.Str.ofString "turn"), tr0, [], p1, c1, o1, p2, c2, o2, ?z, rfl, .nil, hT, ?nz⟩ ?_ ?_
  (case small => decide)
  (case size => decide)
  (case z => (have := M3_self (m := m0) (r := PySem.Str.ofString "rest") (q := PySem.Str.ofString "number") (a := PySem.Str.ofString "turn"); rw [htr0] at this; rw [Nat.pow_zero, Nat.div_one]; exact this))
  (case nz => (simp only [TL, AllNe, and_true]; omega))
  · rintro i t m1 news1 h tk I it hi ⟨vr, vk, tf', xs, p1', c1', o1', p2', c2', o2', rfl, rfl, hI, hT', hQD⟩ hof F3 N3
    obtain ⟨q1, q2⟩ := fg_step (N := N) (i := i) hp
    have q3 : ((N / p ^ i : Nat) : Int) < 2 ^ 64 := Int.lt_of_le_of_lt (Int.ofNat_le.mpr (Nat.le_trans (Nat.div_le_self ..) hm)) (by decide)
    have q4 : (0 : Int) ≤ ((N / p ^ i : Nat) : Int) := Int.natCast_nonneg _
    have hxl : xs.length ≤ 100 := by rw [hI.length]; simp; omega
    have hxl2 : ((List.range i).map fun j => (fg N p j : Int)).length ≤ 100 := by simp; omega
    rw [hm0] at F3
    unfold TL at N3
    show wpAny _ _ _ _ _ _
    k_fold
    k_steps
    refine Stop.go ?_
    have hO : Off [(I, it), (QD, W.listOf xs.toArray xs.length)] (TL p1' c1' o1' p2' c2' o2') := by
      refine off_of fun q hq r hr => ?_
      rcases List.mem_cons.mp hr with rfl | hr
      · exact Ne.symm (hof.get q (.tail _ hq))
      rw [List.mem_singleton.mp hr]
      exact Ne.symm (hQD.get q hq)
    have hQI := hof.1
    clear hof hQD
    refine Ct.use (dm_ct w _ _ _ _ p1' c1' o1' p2' c2' o2' hT' q4 q3 (by omega) (by omega)) B' F3 X' N3 (Split.cons (Split.cons Split.nil)) hO T' rfl ?d ?u ?_
    (case d => dsimp only [ktrTop, Around.deeper] at *; omega)
    (case u => dsimp only [ktrTop, Around.deeper] at *; omega)
    clear hO
    rintro v news7 h7 tk7 ⟨D, t7, u7, c7, p1'', c1'', o1'', p2'', c2'', o2'', rfl, rfl, hT'', hD⟩ F7 N7 O7
    rw [q1, q2] at N7
    have hQ7 : @Ne Nat QD D ∧ @Ne Nat QD 37 ∧ @Ne Nat QD c1'' ∧ @Ne Nat QD 30 ∧ @Ne Nat QD c2'' ∧ @Ne Nat QD I :=
      ⟨O7.get _ (.head _) _ (.tail _ (.head _)), O7.get _ (.tail _ (.head _)) _ (.tail _ (.head _)), O7.get _ (.tail _ (.tail _ (.head _))) _ (.tail _ (.head _)), O7.get _ (.tail _ (.tail _ (.tail _ (.head _)))) _ (.tail _ (.head _)), O7.get _ (.tail _ (.tail _ (.tail _ (.tail _ (.head _))))) _ (.tail _ (.head _)), hQI⟩
    unfold TL at N7
    simp only [List.cons_append, List.nil_append] at N7
    clear N3 F3
    k_steps
    (rename Fr _ _ _ _ => F8); (rename News _ _ _ _ => N8)
    refine Stop.go ?_
    rw [List.push_toArray] at N8
    refine UnrEnd.intro F8 N8 ((QD, W.listOf (xs ++ [Value.int (fg N p i : Int) u7]).toArray (xs.length + 1)) :: TL p1'' c1'' o1'' p2'' c2'' o2'') ?_ ?_ ⟨some (.int (fg N p i : Int) u7), some (.int (0 + (i : Int) * 1) t), t7, xs ++ [Value.int (fg N p i : Int) u7], p1'', c1'', o1'', p2'', c2'', o2'', ?_, ?_, ?_, hT'', ?_⟩
    · unfold TL; intro q hq; simp only [List.mem_cons, List.not_mem_nil, or_false] at hq ⊢; rcases hq with h | h | h | h | h | h <;> simp [h]
    · intro q hq
      rcases List.mem_cons.mp hq with rfl | hq
      · exact hQI
      · exact Ne.symm (O7.get q (.tail _ hq) _ (.head _))
    · rw [hm0]; exact M3_again
    · simp
    · rw [List.range_succ, List.map_append]
      exact hI.append (.cons _ u7 .nil)
    · exact allNe_of fun q hq => Ne.symm (O7.get q (.tail _ hq) _ (.tail _ (.head _)))
  · rintro m1 news1 h tk ⟨vr, vk, tf', xs, p1', c1', o1', p2', c2', o2', rfl, rfl, hI, hT', hQD⟩ F3 N3
    rw [hm0] at F3
    (try dsimp only)
    have hI6 : IntsAre xs [(fg N p 0 : Int), (fg N p 1 : Int), (fg N p 2 : Int), (fg N p 3 : Int), (fg N p 4 : Int), (fg N p 5 : Int)] := hI
    clear hI
    obtain ⟨t0, t1, t2, t3, t4, t5, rfl⟩ := ints6 hI6
    k_steps
    exact EndT.intro ⟨QD, t0, t1, t2, t3, t4, t5, _, p1', c1', o1', p2', c2', o2', rfl, rfl, hT', hQD⟩ F3 N3
end Mine

namespace Mine
open PySem PySem.W PySem.Calls PyProof.Rows PySem.Spec
theorem resetF2 : True := by
  w_top off
  exact trivial
local macro_rules | `(tactic| walk_at "call ref") => `(tactic| refine stop_of ?_)

/-- an empty dict of the call's own -/
structure EmptyD (w : World) (E : Addr) (o : Obj) : Prop where
  lo : (E == sysModules) = false
  hs : Obj.IsDictOf (PySem.strKind PG w) o []
  hi : Obj.IsDictOf (intKind PG w) o []
abbrev tup5 (D : Addr) (x y z u : Int) (E : Addr) (t1 t2 t3 t4 : Tok) (c : Nat) : Addr × Obj := (D, { cls := .type "tuple", data := .seq #[.int x t1, .int y t2, .int z t3, .int u t4, .ref E] c })

set_option maxHeartbeats 8000000 in
theorem sums_ct (w : World) (N p : Nat) (tm tf : Tok) (p1 : Array Value) (c1 : Addr) (o1 : Obj) (p2 : Array Value) (c2 : Addr) (o2 : Obj) (hT : TOk p1 c1 o1 p2 c2 o2) (hm : N ≤ 60) (hp : 1 < p) (hp' : p ≤ 11) :
    Ct w 91 [.int (N : Int) tm, .int (p : Int) tf] (TL p1 c1 o1 p2 c2 o2) 19 270 (fun v news' => ∃ D E oe t1 t2 t3 t4 c p1' c1' o1' p2' c2' o2', v = .ref D ∧ news' = tup5 D (sm N p : Nat) 1 N 0 E t1 t2 t3 t4 c :: (E, oe) :: TL p1' c1' o1' p2' c2' o2' ∧ EmptyD w E oe ∧ TOk p1' c1' o1' p2' c2' o2' ∧ AllNe D ((E, oe) :: TL p1' c1' o1' p2' c2' o2') ∧ AllNe E (TL p1' c1' o1' p2' c2' o2')) := by
  intro loose mean mg mb dp un gd cn cs aA ccd cl outer A₀ base h₀ L mm s Q E rest B F X N0 NR hap T hk hd hu hQ
  refine' enterK B F X N0 NR hap T rfl rfl hk hQ ?k6 ?k7 ?k8 ?k9 ?kB ?_ ?c5 ?c2 ?c3 ?c4
  (case k6 => k_is); (case k7 => k_is); (case k8 => first | assumption | (dsimp only [ktrTop]; omega)); (case k9 => exact BindsTo.of_eq rfl); (case c5 => decide); (case kB => exact locs rfl); (case c2 => exact rfl); (case c3 => exact rfl); (case c4 => exact rfl)
  clear hQ NR hap B F X N0 T
  intro g' L' h' tk' F' N' B' X' T' l'; (try dsimp only)
  unfold TL at l'
  k_lt l'
  show wpAny _ _ _ _ _ _
  k_fold
  k_steps
  refine Stop.go ?_
  refine Ct.use (figs_ct w N p _ _ p1 c1 o1 p2 c2 o2 hT hm hp hp') B' F' X' N' Split.nil off_nil T' rfl ?d ?u ?_
  (case d => dsimp only [ktrTop, Around.deeper] at *; omega)
  (case u => dsimp only [ktrTop, Around.deeper] at *; omega)
  rintro v news7 h7 tk7 ⟨D, t0, t1, t2, t3, t4, t5, ep, p1', c1', o1', p2', c2', o2', rfl, rfl, hT', hD⟩ F7 N7 _
  rw [List.append_nil] at N7
  unfold TL at N7 hD
  simp only [AllNe, and_true] at hD
  clear N' F'
  k_steps
  rename_i h8 h9 tk8 t8 d8 h10 o8 lo8 hs8 fs8 hi8 fi8 l8 D8 h11 F8 N8 l9
  have es : (fg N p 0 : Int) + ((fg N p 1 : Int) + ((fg N p 2 : Int) + ((fg N p 3 : Int) + ((fg N p 4 : Int) + ((fg N p 5 : Int) + 0))))) = ((sm N p : Nat) : Int) := by
    unfold sm; omega
  rw [es] at N8
  exact EndT.intro ⟨D8, d8, o8, _, _, _, _, _, p1', c1', o1', p2', c2', o2', rfl, rfl, ⟨lo8, hs8, hi8⟩, hT', by simp only [TL, AllNe, and_true]; omega, by simp only [TL, AllNe, and_true]; omega⟩ F8 (cb_drop N8 (by unfold TL; kcj_all))
end Mine

namespace Mine
open PySem PySem.W PySem.Calls PyProof.Rows PySem.Spec
theorem resetA1 : True := by
  w_top off
  exact trivial
local macro_rules | `(tactic| walk_at "call ref") => `(tactic| refine stop_of ?_)

set_option maxHeartbeats 8000000 in
theorem callers_ct (w : World) (E1 E2 : Addr) (oe1 oe2 : Obj) (hE1 : EmptyD w E1 oe1) (hE2 : EmptyD w E2 oe2) :
    Ct w 70 [.ref E1, .ref E2] [(E1, oe1), (E2, oe2)] 2 40 (fun v news' => ∃ E, v = .ref E ∧ news' = []) := by
  intro loose mean mg mb dp un gd cn cs aA ccd cl outer A₀ base h₀ L mm s Q E rest B F X N0 NR hap T hk hd hu hQ
  refine' enterK B F X N0 NR hap T rfl rfl hk hQ ?k6 ?k7 ?k8 ?k9 ?kB ?_ ?c5 ?c2 ?c3 ?c4
  (case k6 => k_is); (case k7 => k_is); (case k8 => first | assumption | (dsimp only [ktrTop]; omega)); (case k9 => exact BindsTo.of_eq rfl); (case c5 => decide); (case kB => exact locs rfl); (case c2 => exact rfl); (case c3 => exact rfl); (case c4 => exact rfl)
  clear hQ NR hap B F X N0 T
  intro g' L' h' tk' F' N' B' X' T' l'; (try dsimp only)
  k_lt l'
  show wpAny _ _ _ _ _ _
  k_fold
  have a1 := hE1.lo
  have a2 := hE1.hs
  have a3 := hE1.hi
  have b1 := hE2.lo
  have b2 := hE2.hs
  have b3 := hE2.hi
  have ff := PyProof.V.FlatPairs.nil (enc := PyData.str)
  have fi := PyProof.V.FlatPairs.nil (enc := PyData.int)
  k_steps
  (rename Fr _ _ _ _ => F8)
  exact EndT.intro ⟨_, rfl, rfl⟩ F8 News.nil

set_option maxHeartbeats 8000000 in
theorem stats_ct (w : World) (A1 A2 E1 E2 : Addr) (oe1 oe2 : Obj) (hE1 : EmptyD w E1 oe1) (hE2 : EmptyD w E2 oe2) (x1 y1 z1 u1 x2 y2 z2 u2 : Int) (a1 a2 a3 a4 b1 b2 b3 b4 : Tok) (ca cb : Nat)
    (h1 : AllNe E1 [tup5 A1 x1 y1 z1 u1 E1 a1 a2 a3 a4 ca, tup5 A2 x2 y2 z2 u2 E2 b1 b2 b3 b4 cb]) (h2 : AllNe E2 [tup5 A1 x1 y1 z1 u1 E1 a1 a2 a3 a4 ca, tup5 A2 x2 y2 z2 u2 E2 b1 b2 b3 b4 cb]) :
    Ct w 63 [.ref A1, .ref A2] [tup5 A1 x1 y1 z1 u1 E1 a1 a2 a3 a4 ca, tup5 A2 x2 y2 z2 u2 E2 b1 b2 b3 b4 cb, (E1, oe1), (E2, oe2)] 4 60
      (fun v news' => ∃ D E t1 t2 t3 t4 c, v = .ref D ∧ news' = [tup5 D (x2 + x1) (y2 + y1) (z2 + z1) (u2 + u1) E t1 t2 t3 t4 c]) := by
  intro loose mean mg mb dp un gd cn cs aA ccd cl outer A₀ base h₀ L mm s Q E rest B F X N0 NR hap T hk hd hu hQ
  refine' enterK B F X N0 NR hap T rfl rfl hk hQ ?k6 ?k7 ?k8 ?k9 ?kB ?_ ?c5 ?c2 ?c3 ?c4
  (case k6 => k_is); (case k7 => k_is); (case k8 => first | assumption | (dsimp only [ktrTop]; omega)); (case k9 => exact BindsTo.of_eq rfl); (case c5 => decide); (case kB => exact locs rfl); (case c2 => exact rfl); (case c3 => exact rfl); (case c4 => exact rfl)
  clear hQ NR hap B F X N0 T
  intro g' L' h' tk' F' N' B' X' T' l'; (try dsimp only)
  k_lt l'
  show wpAny _ _ _ _ _ _
  k_fold
  simp only [AllNe, and_true] at h1 h2
  k_steps
  (rename Fr _ _ _ _ => F1); (rename News _ _ _ _ => N1)
  refine Stop.go ?_
  refine Ct.use (callers_ct w E1 E2 oe1 oe2 hE1 hE2) B' F1 X' N1 (Split.cons (Split.cons Split.nil)) ?O T' rfl ?d ?u ?_
  (case O => (simp only [Off, AllNe, and_true]; omega))
  (case d => dsimp only [ktrTop, Around.deeper] at *; omega)
  (case u => dsimp only [ktrTop, Around.deeper] at *; omega)
  rintro v news7 h7 tk7 ⟨E0, rfl, rfl⟩ F7 N7 _
  simp only [List.nil_append] at N7
  clear N1 F1
  k_steps
  (rename Fr _ _ _ _ => F8); (rename News _ _ _ _ => N8)
  exact EndT.intro ⟨_, E0, _, _, _, _, _, rfl, rfl⟩ F8 (cb_drop N8 (by kcj_all))
end Mine

namespace Mine
open PySem PySem.W PySem.Calls PyProof.Rows PySem.Spec
theorem resetT0 : True := by
  w_top off
  exact trivial
def lawS : Stmt := topS 15
def lawFor : Stmt := (fbody lawS).getD 1 (.Pass ⟨0, 0, 0, 0⟩)
def forBody : Stmt → List Stmt
  | .For _ _ b _ _ => b
  | _ => []
def turnS (i : Nat) : Stmt := (forBody lawFor).getD i (.Pass ⟨0, 0, 0, 0⟩)
def envL (L fa : Addr) (cd : Value) : Env := envOfC (PySem.Str.ofString "law") (fscope lawS) L fa cd
abbrev AL (dp un : Nat) (gd : Option (List Code)) (L fa : Addr) (cd : Value) (outer : List Env) : Around := { handled := none, depth := dp, frames := some (envL L fa cd :: outer), guards := gd, units := un }

/-- a remainder, as a natural number -/
theorem mod_nat {w : World} {A : Around} {E : Value → Shared → Prop} {s : Shared} {a b : Int} {t u : Tok} {Q : Value → Shared → Prop} (hb : 0 < b) (h : ∀ r : Nat, (r : Int) = a % b → (r : Int) < b → Q (.int (r : Int) s.toks) { s with toks := s.toks + 1 }) :
    wpAny (model PG w) A (binaryOp .Mod (.int a t) (.int b u)) Q E s := by
  refine mod_int' (by omega) ?_
  rw [Int.fmod_eq_emod_of_nonneg _ (by omega)]
  obtain ⟨r, hr⟩ := Int.eq_ofNat_of_zero_le (Int.emod_nonneg a (show b ≠ 0 by omega))
  rw [hr]
  exact h r hr.symm (by rw [← hr]; exact Int.emod_lt_of_pos _ hb)
theorem Fr.m3 {g h : Heap} {L : Addr} {m : Str → Option Value} {r q a : Str} {v3 v2 v1 : Option Value} (F : Fr g L h m) (h3 : m r = v3) (h2 : m q = v2) (h1 : m a = v1) : Fr g L h (M3 r q a v3 v2 v1 m) := by
  subst h3 h2 h1
  rw [← M3_self]
  exact F
/-- the ledger less a run of it -/
inductive Cut (T : List (Addr × Obj)) : List (Addr × Obj) → List (Addr × Obj) → Prop
  | nil {B} : Cut T (T ++ B) B
  | cons {x all rest} : Cut T all rest → Cut T (x :: all) (x :: rest)
theorem Cut.sub {T all rest : List (Addr × Obj)} (h : Cut T all rest) : (∀ q ∈ T, q ∈ all) ∧ ∀ q ∈ rest, q ∈ all := by
  induction h with
  | nil => exact ⟨fun _ h => List.mem_append_left _ h, fun _ h => List.mem_append_right _ h⟩
  | cons _ ih =>
    refine ⟨fun q h => .tail _ (ih.1 q h), fun q h => ?_⟩
    rcases List.mem_cons.mp h with rfl | h
    · exact .head _
    · exact .tail _ (ih.2 q h)
theorem Ct.use2 {w : World} {f : Addr} {vs : List Value} {news all rest : List (Addr × Obj)} {dk uk : Nat} {post : Value → List (Addr × Obj) → Prop} (C : Ct w f vs news dk uk post)
    {loose : List Str} {mean : ExcName → Option Value} {mg mb : Str → Option Value} {dp un : Nat} {gd : Option (List Code)} {cn : Str} {cs : Scope} {a : Addr} {ccd : Value} {cl : List (Str × Addr)} {outer : List Env} {A₀ : Around} {base h₀ : Heap} {L : Addr} {m : Str → Option Value} {s : Shared} {Q E : Value → Shared → Prop}
    (B : Below A₀ base outer h₀) (F : Fr h₀ L s.heap m) (X : (hd.heap_39 w.params).In h₀) (N : News h₀ L s.heap all) (S : Cut news all rest) (O : Off rest news) (T : Top topProg loose mean mg mb h₀) (hk : cs.kind = .function) (hd : dp + dk < recursionLimit) (hu : un + uk < cLine)
    (hQ : ∀ v news' h' tk', post v news' → Fr h₀ L h' m → News h₀ L h' (news' ++ rest) → Off rest news' → Q v { s with heap := h', toks := tk' }) :
    wpAny (model PG w) (ktrTop dp un gd cn cs L a ccd cl outer) (call (.ref f) vs) Q E s :=
  C loose mean mg mb dp un gd cn cs a ccd cl outer A₀ base h₀ L m s Q E rest B F X (fun p hp => N p (S.sub.1 p hp)) (fun p hp => N p (S.sub.2 p hp)) O T hk hd hu hQ
theorem mul_nat {w : World} {A : Around} {E : Value → Shared → Prop} {s : Shared} {a b : Nat} {t u : Tok} {Q : Value → Shared → Prop} (hb : b < 2 ^ 64) (h : Q (.int ((a * b : Nat) : Int) s.toks) { s with toks := s.toks + 1 }) :
    wpAny (model PG w) A (binaryOp .Mult (.int (a : Int) t) (.int (b : Int) u)) Q E s := by
  refine mul_int ?_ (IntMulOk.of_right (bits_le (by omega) (by omega)))
  rw [← Int.natCast_mul]
  exact h
theorem Off.sub {rest rest' T : List (Addr × Obj)} (h : Off rest T) (hs : ∀ q ∈ rest', q ∈ rest) : Off rest' T := off_of fun q hq p hp => h.get q hq p (hs p hp)
/-- a frame with four of its names set -/
abbrev M4 (d r q a : Str) (v4 v3 v2 v1 : Option Value) (m : Str → Option Value) : Str → Option Value := fun y => if y = d then v4 else if y = r then v3 else if y = q then v2 else if y = a then v1 else m y
theorem M4_again {d r q a : Str} {v4 v3 v2 v1 w4 w3 w2 w1 : Option Value} {m : Str → Option Value} : M4 d r q a v4 v3 v2 v1 (M4 d r q a w4 w3 w2 w1 m) = M4 d r q a v4 v3 v2 v1 m := by
  funext y
  unfold M4
  by_cases h0 : y = d
  · simp [h0]
  · by_cases h1 : y = r
    · simp [h1]
    · by_cases h2 : y = q
      · simp [h2]
      · by_cases h3 : y = a
        · simp [h3]
        · simp [h0, h1, h2, h3]
theorem Fr.m4 {g h : Heap} {L : Addr} {d r q a : Str} {v4 v3 v2 v1 w4 w3 w2 w1 : Option Value} {m : Str → Option Value} (F : Fr g L h (M4 d r q a v4 v3 v2 v1 (M4 d r q a w4 w3 w2 w1 m))) : Fr g L h (M4 d r q a v4 v3 v2 v1 m) := M4_again ▸ F
/-- the six figures of a number, as a list of the heap -/
abbrev six (D : Addr) (N p : Nat) (t0 t1 t2 t3 t4 t5 : Tok) (ep : Nat) : Addr × Obj :=
  (D, W.listOf #[.int (fg N p 0 : Int) t0, .int (fg N p 1 : Int) t1, .int (fg N p 2 : Int) t2, .int (fg N p 3 : Int) t3, .int (fg N p 4 : Int) t4, .int (fg N p 5 : Int) t5] ep)
end Mine

namespace Mine
open PySem PySem.W PySem.Calls PyProof.Rows PySem.Spec
theorem resetZ0 : True := by
  w_top off
  exact trivial
local macro_rules | `(tactic| walk_at "call ref") => `(tactic| refine stop_of ?_)
local macro_rules | `(tactic| walk_at "binaryOp Mult int int") => `(tactic| refine stop_of ?_)
local macro_rules | `(tactic| walk_at "UnrPostW") => `(tactic| refine stop_of ?_)
theorem endW {h₀ : Heap} {L : Addr} {rest : (Str → Option Value) → List (Addr × Obj) → Prop} {Q : Flow → Shared → Prop} {s₁ : Shared} {h' : Heap} {tk : Nat} {m' : Str → Option Value} (its T rest0 : List (Addr × Obj)) (F : Fr h₀ L h' m') (N : News h₀ L h' (T ++ (its ++ rest0)))
    (O : Off (its ++ rest0) T) (hr : Off rest0 its) (r : rest m' (T ++ rest0)) : UnrPostW h₀ L s₁ its rest Q .next { s₁ with heap := h', toks := tk } := by
  refine ⟨h', tk, m', T ++ rest0, rfl, F, fun p hp => ?_, fun p hp q hq => ?_, r⟩
  · refine N p ?_
    rcases List.mem_append.mp hp with hp | hp
    · exact List.mem_append_right _ (List.mem_append_left _ hp)
    · rcases List.mem_append.mp hp with hp | hp
      · exact List.mem_append_left _ hp
      · exact List.mem_append_right _ (List.mem_append_right _ hp)
  · rcases List.mem_append.mp hp with hp | hp
    · exact fun e => O.get p hp q (List.mem_append_left _ hq) e.symm
    · exact hr.get q hq p hp

def zipBody : List Stmt :=
  match turnS 5 with
  | .For _ _ b _ _ => b
  | _ => []
theorem M4_due {d r q a : Str} {v4 v3 v2 v1 vd : Option Value} {m : Str → Option Value} : M4 d r q a v4 v3 v2 v1 (fun y => if y = d then vd else m y) = M4 d r q a v4 v3 v2 v1 m := by
  funext y
  unfold M4
  by_cases h0 : y = d
  · simp [h0]
  · simp [h0]
theorem Fr.due {g h : Heap} {L : Addr} {d r q a : Str} {v4 v3 v2 v1 vd : Option Value} {m : Str → Option Value} (F : Fr g L h (M4 d r q a v4 v3 v2 v1 (fun y => if y = d then vd else m y))) : Fr g L h (M4 d r q a v4 v3 v2 v1 m) := by
  rw [← M4_due (vd := vd)]
  exact F
set_option maxHeartbeats 8000000 in
theorem zturn_ct (w : World) (loose : List Str) (mean : ExcName → Option Value) (mg mb : Str → Option Value) (dp un : Nat) (gd : Option (List Code)) (L fa : Addr) (cd : Value) (outer : List Env) (A₀ : Around) (base g : Heap) (s : Shared) (P : Flow → Shared → Prop)
    (a b d : Nat) (ta tb td : Tok) (ha : a ≤ 60) (hb : b ≤ 60) (m : Str → Option Value) (all rest : List (Addr × Obj)) (p1 : Array Value) (c1 : Addr) (o1 : Obj) (p2 : Array Value) (c2 : Addr) (o2 : Obj) (hT : TOk p1 c1 o1 p2 c2 o2)
    (B : Below A₀ base outer g) (X : (hd.heap_39 w.params).In g) (T : Top topProg loose mean mg mb g) (hdp : dp + 30 < recursionLimit) (hun : un + 400 < cLine)
    (F : Fr g L s.heap (fun y => if y = PySem.Str.ofString "other" then some (.int (b : Int) tb) else if y = PySem.Str.ofString "one" then some (.int (a : Int) ta) else m y)) (hm : m (PySem.Str.ofString "due") = some (.int (d : Int) td))
    (N : News g L s.heap all) (S : Cut (TL p1 c1 o1 p2 c2 o2) all rest) (O : Off rest (TL p1 c1 o1 p2 c2 o2))
    (hQ : ∀ h' tk' vp t p1' c1' o1' p2' c2' o2', Fr g L h' (M4 (PySem.Str.ofString "due") (PySem.Str.ofString "part") (PySem.Str.ofString "other") (PySem.Str.ofString "one") (some (.int ((d * cw a b : Nat) : Int) t)) vp (some (.int (b : Int) tb)) (some (.int (a : Int) ta)) m) →
      News g L h' (TL p1' c1' o1' p2' c2' o2' ++ rest) → TOk p1' c1' o1' p2' c2' o2' → Off rest (TL p1' c1' o1' p2' c2' o2') → P .next { s with heap := h', toks := tk' }) :
    wpAny (model PG w) (AL dp un gd L fa cd outer) (execs zipBody (envL L fa cd)) P (fun _ _ => False) s := by
  have eb : zipBody = zipBody := rfl
  have es : fscope lawS = fscope lawS := rfl
  conv at eb => rhs; whnf
  conv at es => rhs; whnf
  unfold AL envL
  rw [eb, es]
  clear eb es
  have em : m = fun y => if y = PySem.Str.ofString "due" then some (.int (d : Int) td) else m y := by
    funext y
    by_cases h : y = PySem.Str.ofString "due"
    · subst h; simp [hm]
    · simp [h]
  rw [em] at F
  (try k_fold)
  k_steps
  refine Stop.go ?_
  refine' Ct.use2 (ways_ct w a b _ _ p1 c1 o1 p2 c2 o2 hT ha hb) B F X N S O T rfl ?d ?u ?_
  (case d => omega)
  (case u => omega)
  clear hT O F N S
  rintro v news2 h3 tk3 ⟨t3, p1, c1, o1, p2, c2, o2, rfl, rfl, hT⟩ F1 N1 O1
  k_steps
  refine Stop.go ?_
  refine mul_nat (cw_lt ha hb).1 ?_
  k_steps
  (rename Fr _ _ _ _ => F2); (rename News _ _ _ _ => N2)
  replace F2 : Fr g L _ (M4 (PySem.Str.ofString "due") (PySem.Str.ofString "part") (PySem.Str.ofString "other") (PySem.Str.ofString "one") _ _ _ _ (fun y => if y = PySem.Str.ofString "due" then some (.int (d : Int) td) else m y)) := F2
  exact hQ _ _ _ _ p1 c1 o1 p2 c2 o2 (Fr.due F2) N2 hT O1
local macro_rules | `(tactic| walk_at "execs cons") => `(tactic| refine stop_of ?_)
set_option maxHeartbeats 8000000 in
theorem zip_ct (w : World) (loose : List Str) (mean : ExcName → Option Value) (mg mb : Str → Option Value) (dp un : Nat) (gd : Option (List Code)) (L fa : Addr) (cd : Value) (outer : List Env) (A₀ : Around) (base g : Heap) (s : Shared) (Q : Flow → Shared → Prop)
    (p mn fn : Nat) (hp : 1 < p) (hp' : p ≤ 11) (m : Str → Option Value) (DL DR I : Addr) (it op om : Obj) (a0 a1 a2 a3 a4 a5 b0 b1 b2 b3 b4 b5 td : Tok) (epl epr : Nat)
    (p1 : Array Value) (c1 : Addr) (o1 : Obj) (p2 : Array Value) (c2 : Addr) (o2 : Obj) (hT : TOk p1 c1 o1 p2 c2 o2)
    (B : Below A₀ base outer g) (X : (hd.heap_39 w.params).In g) (T : Top topProg loose mean mg mb g) (hdp : dp + 30 < recursionLimit) (hun : un + 400 < cLine)
    (hO : Off [six DL mn p a0 a1 a2 a3 a4 a5 epl, six DR fn p b0 b1 b2 b3 b4 b5 epr, (I, it), (L + 1 + 1, om), (L + 1, op)] (TL p1 c1 o1 p2 c2 o2))
    (F : Fr g L s.heap (M3 (PySem.Str.ofString "left") (PySem.Str.ofString "right") (PySem.Str.ofString "due") (some (.ref DL)) (some (.ref DR)) (some (.int 1 td)) m))
    (N : News g L s.heap ([six DL mn p a0 a1 a2 a3 a4 a5 epl, six DR fn p b0 b1 b2 b3 b4 b5 epr, (I, it), (L + 1 + 1, om), (L + 1, op)] ++ TL p1 c1 o1 p2 c2 o2)) 
    (hQ : ∀ h' tk' v1 v2 v3 t p1' c1' o1' p2' c2' o2', Fr g L h' (M4 (PySem.Str.ofString "due") (PySem.Str.ofString "part") (PySem.Str.ofString "other") (PySem.Str.ofString "one") (some (.int (lw mn fn p : Nat) t)) v1 v2 v3 (M3 (PySem.Str.ofString "left") (PySem.Str.ofString "right") (PySem.Str.ofString "due") (some (.ref DL)) (some (.ref DR)) (some (.int 1 td)) m)) →
      News g L h' ([six DL mn p a0 a1 a2 a3 a4 a5 epl, six DR fn p b0 b1 b2 b3 b4 b5 epr, (I, it), (L + 1 + 1, om), (L + 1, op)] ++ TL p1' c1' o1' p2' c2' o2') → TOk p1' c1' o1' p2' c2' o2' →
      Off [six DL mn p a0 a1 a2 a3 a4 a5 epl, six DR fn p b0 b1 b2 b3 b4 b5 epr, (I, it), (L + 1 + 1, om), (L + 1, op)] (TL p1' c1' o1' p2' c2' o2') → Q .next { s with heap := h', toks := tk' }) :
    wpAny (model PG w) (AL dp un gd L fa cd outer) (exec (turnS 5) (envL L fa cd)) Q (fun _ _ => False) s := by
  have eb : turnS 5 = turnS 5 := rfl
  have es : fscope lawS = fscope lawS := rfl
  conv at eb => rhs; whnf
  conv at es => rhs; whnf
  unfold AL envL
  rw [eb, es]
  clear eb es
  unfold TL at N
  simp only [List.cons_append, List.nil_append] at N
  (try k_fold)
  have f0 : ∀ N j, fg N p j ≤ 60 := fun N j => by have := fg_lt (N := N) (p := p) (j := j) (by omega); omega
  k_steps
  (rename Fr _ _ _ _ => F1); (rename News _ _ _ _ => N1)
  refine Stop.go ?_
  refine' zturn_ct w loose mean mg mb dp un gd L fa cd outer A₀ base g _ _ _ _ 1 _ _ _ (f0 ..) (f0 ..) _ _ _ p1 c1 o1 p2 c2 o2 hT B X T hdp hun F1 rfl N1 ?S ?O ?_
  (case S => first | exact Cut.nil | exact Cut.cons Cut.nil | exact Cut.cons (Cut.cons Cut.nil) | exact Cut.cons (Cut.cons (Cut.cons Cut.nil)) | exact Cut.cons (Cut.cons (Cut.cons (Cut.cons Cut.nil))) | exact Cut.cons (Cut.cons (Cut.cons (Cut.cons (Cut.cons Cut.nil)))) | exact Cut.cons (Cut.cons (Cut.cons (Cut.cons (Cut.cons (Cut.cons Cut.nil))))) | exact Cut.cons (Cut.cons (Cut.cons (Cut.cons (Cut.cons (Cut.cons (Cut.cons Cut.nil)))))) | exact Cut.cons (Cut.cons (Cut.cons (Cut.cons (Cut.cons (Cut.cons (Cut.cons (Cut.cons Cut.nil))))))) | exact Cut.cons (Cut.cons (Cut.cons (Cut.cons (Cut.cons (Cut.cons (Cut.cons (Cut.cons (Cut.cons Cut.nil)))))))) | exact Cut.cons (Cut.cons (Cut.cons (Cut.cons (Cut.cons (Cut.cons (Cut.cons (Cut.cons (Cut.cons (Cut.cons Cut.nil))))))))) | exact Cut.cons (Cut.cons (Cut.cons (Cut.cons (Cut.cons (Cut.cons (Cut.cons (Cut.cons (Cut.cons (Cut.cons (Cut.cons Cut.nil)))))))))))
  (case O => (have hO' := hO; clear hO; simp only [TL, Off, AllNe, and_true, ne_eq] at hO' ⊢; simp only [hO', not_false_eq_true, and_true]; clear hO'; omega))
  clear hT hO F1 N1
  intro h3 tk3 vp t3 p1 c1 o1 p2 c2 o2 F1 N1 hT O1
  unfold TL at N1
  simp only [List.cons_append, List.nil_append] at N1
  refine endW [_, _, _, _, _] [_, _, _, _] [_, _, _, _, _] F1 N1 O1 (by simp only [Off, AllNe, and_true]; omega) ⟨by k_subL, ?_⟩
  clear F1 N1
  k_steps
  (rename Fr _ _ _ _ => F1); (rename News _ _ _ _ => N1)
  refine Stop.go ?_
  refine' zturn_ct w loose mean mg mb dp un gd L fa cd outer A₀ base g _ _ _ _ _ _ _ _ (f0 ..) (f0 ..) _ _ _ p1 c1 o1 p2 c2 o2 hT B X T hdp hun F1 rfl N1 ?S ?O ?_
  (case S => first | exact Cut.nil | exact Cut.cons Cut.nil | exact Cut.cons (Cut.cons Cut.nil) | exact Cut.cons (Cut.cons (Cut.cons Cut.nil)) | exact Cut.cons (Cut.cons (Cut.cons (Cut.cons Cut.nil))) | exact Cut.cons (Cut.cons (Cut.cons (Cut.cons (Cut.cons Cut.nil)))) | exact Cut.cons (Cut.cons (Cut.cons (Cut.cons (Cut.cons (Cut.cons Cut.nil))))) | exact Cut.cons (Cut.cons (Cut.cons (Cut.cons (Cut.cons (Cut.cons (Cut.cons Cut.nil)))))) | exact Cut.cons (Cut.cons (Cut.cons (Cut.cons (Cut.cons (Cut.cons (Cut.cons (Cut.cons Cut.nil))))))) | exact Cut.cons (Cut.cons (Cut.cons (Cut.cons (Cut.cons (Cut.cons (Cut.cons (Cut.cons (Cut.cons Cut.nil)))))))) | exact Cut.cons (Cut.cons (Cut.cons (Cut.cons (Cut.cons (Cut.cons (Cut.cons (Cut.cons (Cut.cons (Cut.cons Cut.nil))))))))) | exact Cut.cons (Cut.cons (Cut.cons (Cut.cons (Cut.cons (Cut.cons (Cut.cons (Cut.cons (Cut.cons (Cut.cons (Cut.cons Cut.nil)))))))))))
  (case O => exact O1)
  clear hT O1 F1 N1
  intro h3 tk3 vp t3 p1 c1 o1 p2 c2 o2 F1 N1 hT O1
  unfold TL at N1
  simp only [List.cons_append, List.nil_append] at N1
  replace F1 : Fr g L _ (M4 (PySem.Str.ofString "due") (PySem.Str.ofString "part") (PySem.Str.ofString "other") (PySem.Str.ofString "one") _ _ _ _ (M4 (PySem.Str.ofString "due") (PySem.Str.ofString "part") (PySem.Str.ofString "other") (PySem.Str.ofString "one") _ _ _ _ _)) := F1
  replace F1 := Fr.m4 F1
  refine endW [_, _, _, _, _] [_, _, _, _] [_, _, _, _, _] F1 N1 O1 (by simp only [Off, AllNe, and_true]; omega) ⟨by k_subL, ?_⟩
  clear F1 N1
  k_steps
  (rename Fr _ _ _ _ => F1); (rename News _ _ _ _ => N1)
  refine Stop.go ?_
  refine' zturn_ct w loose mean mg mb dp un gd L fa cd outer A₀ base g _ _ _ _ _ _ _ _ (f0 ..) (f0 ..) _ _ _ p1 c1 o1 p2 c2 o2 hT B X T hdp hun F1 rfl N1 ?S ?O ?_
  (case S => first | exact Cut.nil | exact Cut.cons Cut.nil | exact Cut.cons (Cut.cons Cut.nil) | exact Cut.cons (Cut.cons (Cut.cons Cut.nil)) | exact Cut.cons (Cut.cons (Cut.cons (Cut.cons Cut.nil))) | exact Cut.cons (Cut.cons (Cut.cons (Cut.cons (Cut.cons Cut.nil)))) | exact Cut.cons (Cut.cons (Cut.cons (Cut.cons (Cut.cons (Cut.cons Cut.nil))))) | exact Cut.cons (Cut.cons (Cut.cons (Cut.cons (Cut.cons (Cut.cons (Cut.cons Cut.nil)))))) | exact Cut.cons (Cut.cons (Cut.cons (Cut.cons (Cut.cons (Cut.cons (Cut.cons (Cut.cons Cut.nil))))))) | exact Cut.cons (Cut.cons (Cut.cons (Cut.cons (Cut.cons (Cut.cons (Cut.cons (Cut.cons (Cut.cons Cut.nil)))))))) | exact Cut.cons (Cut.cons (Cut.cons (Cut.cons (Cut.cons (Cut.cons (Cut.cons (Cut.cons (Cut.cons (Cut.cons Cut.nil))))))))) | exact Cut.cons (Cut.cons (Cut.cons (Cut.cons (Cut.cons (Cut.cons (Cut.cons (Cut.cons (Cut.cons (Cut.cons (Cut.cons Cut.nil)))))))))))
  (case O => exact O1)
  clear hT O1 F1 N1
  intro h3 tk3 vp t3 p1 c1 o1 p2 c2 o2 F1 N1 hT O1
  unfold TL at N1
  simp only [List.cons_append, List.nil_append] at N1
  replace F1 : Fr g L _ (M4 (PySem.Str.ofString "due") (PySem.Str.ofString "part") (PySem.Str.ofString "other") (PySem.Str.ofString "one") _ _ _ _ (M4 (PySem.Str.ofString "due") (PySem.Str.ofString "part") (PySem.Str.ofString "other") (PySem.Str.ofString "one") _ _ _ _ _)) := F1
  replace F1 := Fr.m4 F1
  refine endW [_, _, _, _, _] [_, _, _, _] [_, _, _, _, _] F1 N1 O1 (by simp only [Off, AllNe, and_true]; omega) ⟨by k_subL, ?_⟩
  clear F1 N1
  k_steps
  (rename Fr _ _ _ _ => F1); (rename News _ _ _ _ => N1)
  refine Stop.go ?_
  refine' zturn_ct w loose mean mg mb dp un gd L fa cd outer A₀ base g _ _ _ _ _ _ _ _ (f0 ..) (f0 ..) _ _ _ p1 c1 o1 p2 c2 o2 hT B X T hdp hun F1 rfl N1 ?S ?O ?_
  (case S => first | exact Cut.nil | exact Cut.cons Cut.nil | exact Cut.cons (Cut.cons Cut.nil) | exact Cut.cons (Cut.cons (Cut.cons Cut.nil)) | exact Cut.cons (Cut.cons (Cut.cons (Cut.cons Cut.nil))) | exact Cut.cons (Cut.cons (Cut.cons (Cut.cons (Cut.cons Cut.nil)))) | exact Cut.cons (Cut.cons (Cut.cons (Cut.cons (Cut.cons (Cut.cons Cut.nil))))) | exact Cut.cons (Cut.cons (Cut.cons (Cut.cons (Cut.cons (Cut.cons (Cut.cons Cut.nil)))))) | exact Cut.cons (Cut.cons (Cut.cons (Cut.cons (Cut.cons (Cut.cons (Cut.cons (Cut.cons Cut.nil))))))) | exact Cut.cons (Cut.cons (Cut.cons (Cut.cons (Cut.cons (Cut.cons (Cut.cons (Cut.cons (Cut.cons Cut.nil)))))))) | exact Cut.cons (Cut.cons (Cut.cons (Cut.cons (Cut.cons (Cut.cons (Cut.cons (Cut.cons (Cut.cons (Cut.cons Cut.nil))))))))) | exact Cut.cons (Cut.cons (Cut.cons (Cut.cons (Cut.cons (Cut.cons (Cut.cons (Cut.cons (Cut.cons (Cut.cons (Cut.cons Cut.nil)))))))))))
  (case O => exact O1)
  clear hT O1 F1 N1
  intro h3 tk3 vp t3 p1 c1 o1 p2 c2 o2 F1 N1 hT O1
  unfold TL at N1
  simp only [List.cons_append, List.nil_append] at N1
  replace F1 : Fr g L _ (M4 (PySem.Str.ofString "due") (PySem.Str.ofString "part") (PySem.Str.ofString "other") (PySem.Str.ofString "one") _ _ _ _ (M4 (PySem.Str.ofString "due") (PySem.Str.ofString "part") (PySem.Str.ofString "other") (PySem.Str.ofString "one") _ _ _ _ _)) := F1
  replace F1 := Fr.m4 F1
  refine endW [_, _, _, _, _] [_, _, _, _] [_, _, _, _, _] F1 N1 O1 (by simp only [Off, AllNe, and_true]; omega) ⟨by k_subL, ?_⟩
  clear F1 N1
  k_steps
  (rename Fr _ _ _ _ => F1); (rename News _ _ _ _ => N1)
  refine Stop.go ?_
  refine' zturn_ct w loose mean mg mb dp un gd L fa cd outer A₀ base g _ _ _ _ _ _ _ _ (f0 ..) (f0 ..) _ _ _ p1 c1 o1 p2 c2 o2 hT B X T hdp hun F1 rfl N1 ?S ?O ?_
  (case S => first | exact Cut.nil | exact Cut.cons Cut.nil | exact Cut.cons (Cut.cons Cut.nil) | exact Cut.cons (Cut.cons (Cut.cons Cut.nil)) | exact Cut.cons (Cut.cons (Cut.cons (Cut.cons Cut.nil))) | exact Cut.cons (Cut.cons (Cut.cons (Cut.cons (Cut.cons Cut.nil)))) | exact Cut.cons (Cut.cons (Cut.cons (Cut.cons (Cut.cons (Cut.cons Cut.nil))))) | exact Cut.cons (Cut.cons (Cut.cons (Cut.cons (Cut.cons (Cut.cons (Cut.cons Cut.nil)))))) | exact Cut.cons (Cut.cons (Cut.cons (Cut.cons (Cut.cons (Cut.cons (Cut.cons (Cut.cons Cut.nil))))))) | exact Cut.cons (Cut.cons (Cut.cons (Cut.cons (Cut.cons (Cut.cons (Cut.cons (Cut.cons (Cut.cons Cut.nil)))))))) | exact Cut.cons (Cut.cons (Cut.cons (Cut.cons (Cut.cons (Cut.cons (Cut.cons (Cut.cons (Cut.cons (Cut.cons Cut.nil))))))))) | exact Cut.cons (Cut.cons (Cut.cons (Cut.cons (Cut.cons (Cut.cons (Cut.cons (Cut.cons (Cut.cons (Cut.cons (Cut.cons Cut.nil)))))))))))
  (case O => exact O1)
  clear hT O1 F1 N1
  intro h3 tk3 vp t3 p1 c1 o1 p2 c2 o2 F1 N1 hT O1
  unfold TL at N1
  simp only [List.cons_append, List.nil_append] at N1
  replace F1 : Fr g L _ (M4 (PySem.Str.ofString "due") (PySem.Str.ofString "part") (PySem.Str.ofString "other") (PySem.Str.ofString "one") _ _ _ _ (M4 (PySem.Str.ofString "due") (PySem.Str.ofString "part") (PySem.Str.ofString "other") (PySem.Str.ofString "one") _ _ _ _ _)) := F1
  replace F1 := Fr.m4 F1
  refine endW [_, _, _, _, _] [_, _, _, _] [_, _, _, _, _] F1 N1 O1 (by simp only [Off, AllNe, and_true]; omega) ⟨by k_subL, ?_⟩
  clear F1 N1
  k_steps
  (rename Fr _ _ _ _ => F1); (rename News _ _ _ _ => N1)
  refine Stop.go ?_
  refine' zturn_ct w loose mean mg mb dp un gd L fa cd outer A₀ base g _ _ _ _ _ _ _ _ (f0 ..) (f0 ..) _ _ _ p1 c1 o1 p2 c2 o2 hT B X T hdp hun F1 rfl N1 ?S ?O ?_
  (case S => first | exact Cut.nil | exact Cut.cons Cut.nil | exact Cut.cons (Cut.cons Cut.nil) | exact Cut.cons (Cut.cons (Cut.cons Cut.nil)) | exact Cut.cons (Cut.cons (Cut.cons (Cut.cons Cut.nil))) | exact Cut.cons (Cut.cons (Cut.cons (Cut.cons (Cut.cons Cut.nil)))) | exact Cut.cons (Cut.cons (Cut.cons (Cut.cons (Cut.cons (Cut.cons Cut.nil))))) | exact Cut.cons (Cut.cons (Cut.cons (Cut.cons (Cut.cons (Cut.cons (Cut.cons Cut.nil)))))) | exact Cut.cons (Cut.cons (Cut.cons (Cut.cons (Cut.cons (Cut.cons (Cut.cons (Cut.cons Cut.nil))))))) | exact Cut.cons (Cut.cons (Cut.cons (Cut.cons (Cut.cons (Cut.cons (Cut.cons (Cut.cons (Cut.cons Cut.nil)))))))) | exact Cut.cons (Cut.cons (Cut.cons (Cut.cons (Cut.cons (Cut.cons (Cut.cons (Cut.cons (Cut.cons (Cut.cons Cut.nil))))))))) | exact Cut.cons (Cut.cons (Cut.cons (Cut.cons (Cut.cons (Cut.cons (Cut.cons (Cut.cons (Cut.cons (Cut.cons (Cut.cons Cut.nil)))))))))))
  (case O => exact O1)
  clear hT O1 F1 N1
  intro h3 tk3 vp t3 p1 c1 o1 p2 c2 o2 F1 N1 hT O1
  unfold TL at N1
  simp only [List.cons_append, List.nil_append] at N1
  replace F1 : Fr g L _ (M4 (PySem.Str.ofString "due") (PySem.Str.ofString "part") (PySem.Str.ofString "other") (PySem.Str.ofString "one") _ _ _ _ (M4 (PySem.Str.ofString "due") (PySem.Str.ofString "part") (PySem.Str.ofString "other") (PySem.Str.ofString "one") _ _ _ _ _)) := F1
  replace F1 := Fr.m4 F1
  refine endW [_, _, _, _, _] [_, _, _, _] [_, _, _, _, _] F1 N1 O1 (by simp only [Off, AllNe, and_true]; omega) ⟨by k_subL, ?_⟩
  clear F1 N1
  k_steps
  (rename Fr _ _ _ _ => F1); (rename News _ _ _ _ => N1)
  exact hQ _ _ _ _ _ _ p1 c1 o1 p2 c2 o2 F1 (fun q hq => N1 q ((List.mem_append.mp hq).elim (fun h => List.mem_append_right _ h) fun h => List.mem_append_left _ h)) hT (O1.sub fun q hq => List.mem_append_right [_, _, _, _, _] hq)
end Mine

namespace Mine
open PySem PySem.W PySem.Calls PyProof.Rows PySem.Spec
theorem resetWh : True := by
  w_top off
  exact trivial
/-- a turn's end of a while loop -/
def WhEnd (g : Heap) (L : Addr) (news : List (Addr × Obj)) (s : Shared) (n : Nat) (J : Nat → (Str → Option Value) → Prop) (f : Flow) (s' : Shared) : Prop :=
  f = .next ∧ ∃ h' tk' m' n', s' = { s with heap := h', toks := tk' } ∧ Fr g L h' m' ∧ News g L h' news ∧ n = n' + 1 ∧ J n' m'
theorem WhEnd.intro {g : Heap} {L : Addr} {news : List (Addr × Obj)} {s : Shared} {n : Nat} {J : Nat → (Str → Option Value) → Prop} {h' : Heap} {tk' : Nat} {m' : Str → Option Value} (F : Fr g L h' m') (N : News g L h' news) (hj : J n m') : WhEnd g L news s (n + 1) J .next { s with heap := h', toks := tk' } :=
  ⟨rfl, h', tk', m', n, rfl, F, N, rfl, hj⟩
theorem whl_ind {w : World} {A : Around} {E : Value → Shared → Prop} {s : Shared} {env : Env} {test : PySem.Expr} {body : List Stmt} {Q : Flow → Shared → Prop} {g : Heap} {L : Addr} {news : List (Addr × Obj)} (J : Nat → (Str → Option Value) → Prop) (hE : PassesOwn (model PG w) A env E)
    (step : ∀ n m h tk, J n m → Fr g L h m → News g L h news → wpAny (model PG w) A (isTrue test env (eval test env)) (fun b s₂ => WhlIf b (wpAny (model PG w) A (execs body env) (WhEnd g L news s n J) E s₂) (wpAny (model PG w) A (execs [] env) Q E s₂)) E { s with heap := h, toks := tk }) :
    ∀ k n m h tk, n < k → J n m → Fr g L h m → News g L h news → WhlRest PG w A E env test body [] Q n { s with heap := h, toks := tk } := by
  intro k
  induction k with
  | zero => intro n m h tk hn; exact absurd hn (Nat.not_lt_zero _)
  | succ k ih =>
    intro n m h tk hn hj F N
    have e : ∀ a b : Nat, WhlRest PG w A E env test body [] Q a { s with heap := h, toks := tk } → WhlRest PG w A E env test body [] Q b { s with heap := h, toks := tk } := fun _ _ x => x
    refine e (n + 1) n (whl_turn hE (wpAny_mono (step n m h tk hj F N) (fun b s₂ hb => ?_) fun _ _ x => x))
    cases b with
    | false => exact hb
    | true =>
      refine WhlIf.yes rfl ?_
      have hb' : wpAny (model PG w) A (execs body env) (WhEnd g L news s n J) E s₂ := hb
      refine wpAny_mono hb' (fun f s₃ hf => ?_) fun _ _ x => x
      obtain ⟨rfl, h', tk', m', n', rfl, F', N', rfl, hj'⟩ := hf
      exact ih n' m' h' tk' (by omega) hj' F' N'

/-- a frame with two of its names set -/
abbrev M2 (r q : Str) (v2 v1 : Option Value) (m : Str → Option Value) : Str → Option Value := fun y => if y = r then v2 else if y = q then v1 else m y
theorem M2_again {r q : Str} {v2 v1 w2 w1 : Option Value} {m : Str → Option Value} : M2 r q v2 v1 (M2 r q w2 w1 m) = M2 r q v2 v1 m := by
  funext y
  unfold M2
  by_cases h1 : y = r
  · simp [h1]
  · by_cases h2 : y = q
    · simp [h2]
    · simp [h1, h2]
theorem M2_swap {r q : Str} {v2 v1 : Option Value} {m : Str → Option Value} (h : r ≠ q) : M2 r q v2 v1 m = M2 q r v1 v2 m := by
  funext y
  unfold M2
  by_cases h1 : y = r
  · subst h1; simp [h]
  · simp [h1]

theorem mod_nn {w : World} {A : Around} {E : Value → Shared → Prop} {s : Shared} {a b : Nat} {t u : Tok} {Q : Value → Shared → Prop} (hb : 0 < b) (h : Q (.int ((a % b : Nat) : Int) s.toks) { s with toks := s.toks + 1 }) :
    wpAny (model PG w) A (binaryOp .Mod (.int (a : Int) t) (.int (b : Int) u)) Q E s := by
  refine mod_int' (by omega) ?_
  rw [Int.fmod_eq_emod_of_nonneg _ (by omega), ← Int.natCast_emod]
  exact h
theorem div_nn {w : World} {A : Around} {E : Value → Shared → Prop} {s : Shared} {a b : Nat} {t u : Tok} {Q : Value → Shared → Prop} (hb : 0 < b) (hb' : b < 1000) (h : Q (.int ((a / b : Nat) : Int) s.toks) { s with toks := s.toks + 1 }) :
    wpAny (model PG w) A (binaryOp .FloorDiv (.int (a : Int) t) (.int (b : Int) u)) Q E s := by
  refine floordiv_int (by omega) ?_ (.inl (PyProof.noPylong_small (by omega)))
  rw [Int.fdiv_eq_ediv_of_nonneg _ (by omega), ← Int.natCast_ediv]
  exact h
theorem od_stop {p n x : Nat} (h : x % p ≠ 0) : od p n x = 0 := by
  cases n with
  | zero => rfl
  | succ n => rw [od, Bool.cond_eq_ite, if_neg (fun e => h (Nat.eq_of_beq_eq_true e))]
theorem od_go {p n x : Nat} (h : x % p = 0) : od p (n + 1) x = od p n (x / p) + 1 := by
  rw [od, h]; rfl

local macro_rules | `(tactic| walk_at "zz none") => `(tactic| fail "none")
local macro_rules | `(tactic| walk_at "binaryOp Mod int int") => `(tactic| refine stop_of ?_)
local macro_rules | `(tactic| walk_at "binaryOp FloorDiv int int") => `(tactic| refine stop_of ?_)
local macro_rules | `(tactic| walk_at "WhlIf") => `(tactic| refine stop_of ?_)
local macro_rules | `(tactic| walk_at "WhEnd") => `(tactic| refine stop_of ?_)

set_option maxHeartbeats 8000000 in
theorem while_ct (w : World) (loose : List Str) (mean : ExcName → Option Value) (mg mb : Str → Option Value) (dp un : Nat) (gd : Option (List Code)) (L fa : Addr) (cd : Value) (outer : List Env) (A₀ : Around) (base g : Heap) (s : Shared) (Q : Flow → Shared → Prop)
    (p c : Nat) (hp : 1 < p) (hp' : p ≤ 11) (m : Str → Option Value) (news : List (Addr × Obj)) (op : Obj) (tp tc to : Tok)
    (B : Below A₀ base outer g) (X : (hd.heap_39 w.params).In g) (T : Top topProg loose mean mg mb g) (hop : op.data = .cell (some (.int (p : Int) tp))) (hmem : (L + 1, op) ∈ news)
    (F : Fr g L s.heap (M2 (PySem.Str.ofString "here") (PySem.Str.ofString "often") (some (.int (c : Int) tc)) (some (.int 0 to)) m))
    (N : News g L s.heap news)
    (hQ : ∀ h' tk' v1 t, Fr g L h' (M2 (PySem.Str.ofString "here") (PySem.Str.ofString "often") v1 (some (.int (od p 9 c : Nat) t)) m) → News g L h' news → Q .next { s with heap := h', toks := tk' }) :
    wpAny (model PG w) (AL dp un gd L fa cd outer) (exec (turnS 8) (envL L fa cd)) Q (fun _ _ => False) s := by
  have eb : turnS 8 = turnS 8 := rfl
  have es : fscope lawS = fscope lawS := rfl
  conv at eb => rhs; whnf
  conv at es => rhs; whnf
  unfold AL envL
  rw [eb, es]
  clear eb es
  refine whl_start 9 (whl_ind (g := g) (L := L) (news := news) (s := s) (fun n m' => ∃ o x t1 t2, o + n = 9 ∧ o + od p n x = od p 9 c ∧ m' = M2 (PySem.Str.ofString "here") (PySem.Str.ofString "often") (some (.int (x : Nat) t1)) (some (.int (o : Nat) t2)) m) (by passes_own) ?_ 10 9 _ s.heap s.toks (by omega) ⟨0, c, tc, to, rfl, Nat.zero_add _, rfl⟩ F N)
  rintro n m' h tk ⟨o, x, t1, t2, hon, hod, rfl⟩ F1 N1
  clear F N
  (try k_fold)
  k_steps
  refine Stop.go ?_
  refine mod_nn (by omega) ?_
  by_cases hx : x % p = 0
  · rw [hx]
    cases n with
    | zero =>
      have ho : o = 9 := by omega
      subst ho
      k_steps
      refine Stop.go (WhlIf.no ?_ ?_)
      · rfl
      rw [show od p 9 c = 9 by rw [← hod]; rfl] at hQ
      k_steps
      exact hQ _ _ _ _ F1 N1
    | succ n =>
      have ho : decide (((o : Nat) : Int) < 9) = true := by simp; omega
      k_steps
      refine Stop.go (WhlIf.yes rfl ?_)
      k_steps
      refine Stop.go ?_
      refine div_nn (by omega) (by omega) ?_
      k_steps
      (rename Fr _ _ _ _ => F2); (rename News _ _ _ _ => N2)
      refine Stop.go ?_
      replace F2 : Fr g L _ (M2 (PySem.Str.ofString "often") (PySem.Str.ofString "here") (some (.int ((o + 1 : Nat) : Int) _)) (some (.int ((x / p : Nat) : Int) _)) (M2 (PySem.Str.ofString "here") (PySem.Str.ofString "often") _ _ m)) := F2
      rw [M2_swap (r := PySem.Str.ofString "often") (by decide), M2_again] at F2
      refine WhEnd.intro F2 (fun q hq => N2 q (.tail _ hq)) ⟨o + 1, x / p, _, _, by omega, ?_, rfl⟩
      rw [← hod, od_go hx]; omega
  · have hz : (((x % p : Nat) : Int) == 0) = false := by simpa using (show ((x % p : Nat) : Int) ≠ 0 by omega)
    k_steps
    refine Stop.go (WhlIf.no rfl ?_)
    rw [od_stop hx, Nat.add_zero] at hod
    rw [← hod] at hQ
    k_steps
    exact hQ _ _ _ _ F1 N1
end Mine

namespace Mine
open PySem PySem.W PySem.Calls PyProof.Rows PySem.Spec
theorem resetC0 : True := by
  w_top off
  exact trivial
theorem M2_self {r q : Str} {m : Str → Option Value} : m = M2 r q (m r) (m q) m := by
  funext y
  unfold M2
  by_cases h1 : y = r
  · simp [h1]
  · by_cases h2 : y = q
    · subst h2; simp [h1]
    · simp [h1, h2]
theorem Fr.m2 {g h : Heap} {L : Addr} {m : Str → Option Value} {r q : Str} {v2 v1 : Option Value} (F : Fr g L h m) (h2 : m r = v2) (h1 : m q = v1) : Fr g L h (M2 r q v2 v1 m) := by
  subst h2 h1
  rw [← M2_self]
  exact F
theorem cn_le {p m : Nat} : ∀ {k : Nat}, cn p m k ≤ k
  | 0 => Nat.le_refl _
  | k + 1 => by
    have := cn_le (p := p) (m := m) (k := k)
    show cn p m k + (bif Nat.beq (cw m k % p) 0 then 0 else 1) ≤ k + 1
    cases Nat.beq (cw m k % p) 0 <;> simp <;> omega
/-- a list comprehension with one test, by an invariant over its yield and its ledger -/
theorem crt_ind {prog : Program} {w : World} {A : Around} {s : Shared} {h₀ : Heap} {L : Addr} {m : Str → Option Value} {env : Env} {ct elt : Expr} {x : Str} {scope : Scope} {cl : List (Str × Addr)} {S : List (Addr × Obj) → Prop} {P : Nat → Value → Prop} {Fin : List Value → List (Addr × Obj) → Prop} {n : Nat} (J : Nat → List Value → List (Addr × Obj) → Prop)
    (step : ∀ i ys news, i < n → J i ys news → ∀ v I oI C oC D m₂ h tk (E' : Value → Shared → Prop), P i v → LCg.NsObj oC m₂ → m₂ x = some v → Fr h₀ L h m → News h₀ L h ((I, oI) :: (C, oC) :: (D, LCg.lst ys) :: news) → LCg.Off3 I C D news → ((@Ne Nat I C) ∧ (@Ne Nat I D) ∧ (@Ne Nat C D)) →
      wpAny (model prog w) A (PySem.isTrue ct (compEnvC scope cl C env) (eval ct (compEnvC scope cl C env))) (fun ok s' => if ok = true then
        wpAny (model prog w) A (eval elt (compEnvC scope cl C env)) (LCg.CompEnd h₀ L m { s with heap := h, toks := tk } I oI C oC D (LCg.lst ys) S (fun y news' => J (i + 1) (ys ++ [y]) news')) E' s'
        else LCg.CompEnd h₀ L m { s with heap := h, toks := tk } I oI C oC D (LCg.lst ys) S (fun _ news' => J (i + 1) ys news') Value.none s') E' { s with heap := h, toks := tk })
    (fin : ∀ ys news, J n ys news → Fin ys news) : ∀ k i ys news, i + k = n → J i ys news → LCt.CompRestT prog w A h₀ L m env ct elt x scope cl s S P Fin k i ys news := by
  intro k
  induction k with
  | zero => intro i ys news hn hj; exact .zero (fin _ _ (by rwa [← hn]))
  | succ k ih =>
    intro i ys news hn hj
    refine .succ fun v I oI C oC D m₂ h tk E' hv hC hx F N o ne => ?_
    refine wpAny_mono (step i ys news (by omega) hj v I oI C oC D m₂ h tk E' hv hC hx F N o ne) (fun ok s₁ hok => ?_) fun _ _ e => e
    cases ok with
    | true =>
      simp only [if_true] at hok ⊢
      refine wpAny_mono hok (fun y s₂ hy => ?_) fun _ _ e => e
      obtain ⟨h', tk', news', e, F', N', o', hS, r⟩ := hy
      exact ⟨h', tk', news', e, F', N', o', hS, ih _ _ _ (by omega) r⟩
    | false =>
      simp only [Bool.false_eq_true, if_false] at hok ⊢
      obtain ⟨h', tk', news', e, F', N', o', hS, r⟩ := hok
      exact ⟨h', tk', news', e, F', N', o', hS, ih _ _ _ (by omega) r⟩
local macro_rules | `(tactic| walk_at "call ref") => `(tactic| refine stop_of ?_)
local macro_rules | `(tactic| walk_at "CompSrcT") => `(tactic| refine stop_of ?_)
local macro_rules | `(tactic| walk_at "CompRestT") => `(tactic| refine stop_of ?_)
local macro_rules | `(tactic| walk_at "CompEnd") => `(tactic| refine stop_of ?_)
local macro_rules | `(tactic| walk_at "FinE") => `(tactic| refine stop_of ?_)
local macro_rules | `(tactic| walk_at "binaryOp Mod int int") => `(tactic| refine stop_of ?_)

set_option maxHeartbeats 8000000 in
theorem comp_ct (w : World) (loose : List Str) (mean : ExcName → Option Value) (mg mb : Str → Option Value) (dp un : Nat) (gd : Option (List Code)) (L fa : Addr) (cd : Value) (outer : List Env) (A₀ : Around) (base g : Heap) (s : Shared) (Q : Flow → Shared → Prop)
    (p mn : Nat) (k : Int) (hp : p = 3 ∨ p = 5 ∨ p = 7 ∨ p = 11) (hmn : mn ≤ 60) (m : Str → Option Value) (I : Addr) (it op om : Obj) (tp tm tk tf : Tok)
    (p1 : Array Value) (c1 : Addr) (o1 : Obj) (p2 : Array Value) (c2 : Addr) (o2 : Obj) (hT : TOk p1 c1 o1 p2 c2 o2)
    (B : Below A₀ base outer g) (X : (hd.heap_39 w.params).In g) (T : Top topProg loose mean mg mb g) (hdp : dp + 30 < recursionLimit) (hun : un + 400 < cLine)
    (hop : op.data = .cell (some (.int (p : Int) tp))) (hom : om.data = .cell (some (.int (mn : Int) tm)))
    (hO : Off [(I, it), (L + 1 + 1, om), (L + 1, op)] (TL p1 c1 o1 p2 c2 o2))
    (F : Fr g L s.heap (M2 (PySem.Str.ofString "k") (PySem.Str.ofString "free") (some (.int k tk)) (some (.int (fr mn p : Nat) tf)) m))
    (N : News g L s.heap ([(I, it), (L + 1 + 1, om), (L + 1, op)] ++ TL p1 c1 o1 p2 c2 o2))
    (hQ : ∀ h' tk' p1' c1' o1' p2' c2' o2', Fr g L h' (M2 (PySem.Str.ofString "k") (PySem.Str.ofString "free") (some (.int k tk)) (some (.int (fr mn p : Nat) tf)) m) →
      News g L h' ([(I, it), (L + 1 + 1, om), (L + 1, op)] ++ TL p1' c1' o1' p2' c2' o2') → TOk p1' c1' o1' p2' c2' o2' →
      Off [(I, it), (L + 1 + 1, om), (L + 1, op)] (TL p1' c1' o1' p2' c2' o2') → Q .next { s with heap := h', toks := tk' }) :
    wpAny (model PG w) (AL dp un gd L fa cd outer) (exec (turnS 13) (envL L fa cd)) Q (fun _ _ => False) s := by
  have eb : turnS 13 = turnS 13 := rfl
  have es : fscope lawS = fscope lawS := rfl
  conv at eb => rhs; whnf
  conv at es => rhs; whnf
  unfold AL envL
  rw [eb, es]
  clear eb es
  unfold TL at N
  simp only [List.cons_append, List.nil_append] at N
  (try k_fold)
  by_cases hk : k = 0
  · subst hk
    k_steps
    (rename Fr _ _ _ _ => F1); (rename News _ _ _ _ => N1); (rename IsRange _ _ _ _ _ _ _ _ => R1)
    refine Stop.go (LCt.CompSrcT.range (n := mn + 1) rfl F1 N1 R1 ?small ?size (by first | size_fits | omega | (unfold sizeLine; omega)) fun g' => ?_)
    (case small => exact small_one (by omega) (by omega) (by omega) (by omega))
    (case size => (unfold Builtin.Range.rangeSize; simp only [show ((1 : Int) > 0) = True from by simp, if_true, Int.ediv_one]; split <;> omega))
    clear F1 N1 R1
    refine crt_ind (n := mn + 1) (fun i ys news => ys.length = cn p mn i ∧ ∃ p1 c1 o1 p2 c2 o2, news = [(I, it), (L + 1 + 1, om), (L + 1, op)] ++ TL p1 c1 o1 p2 c2 o2 ∧ TOk p1 c1 o1 p2 c2 o2 ∧ Off [(I, it), (L + 1 + 1, om), (L + 1, op)] (TL p1 c1 o1 p2 c2 o2)) ?_ ?_ (mn + 1) 0 [] _ (Nat.zero_add _) ⟨rfl, p1, c1, o1, p2, c2, o2, rfl, hT, hO⟩
    · clear hT hO hQ
      rintro i ys news hi ⟨hys, p1, c1, o1, p2, c2, o2, rfl, hT, hO⟩ v I1 oI C oC D m₂ h tk E' ⟨t9, rfl⟩ hC hx F1 N1 o3 ne
      have e0 : (0 : Int) + (i : Int) = i := by omega
      rw [e0] at hx
      unfold TL at N1
      simp only [List.cons_append, List.nil_append] at N1
      k_steps
      refine Stop.go ?_
      refine' Ct.use2 (ways_ct w mn i _ _ p1 c1 o1 p2 c2 o2 hT hmn (by omega)) B F1 X N1 (Cut.cons (Cut.cons (Cut.cons (Cut.cons (Cut.cons (Cut.cons Cut.nil)))))) ?O T rfl ?d ?u ?_
      (case O =>
        have o3' := o3.mem
        refine off_of fun q hq r hr => ?_
        rcases List.mem_cons.mp hr with rfl | hr
        · exact Ne.symm (o3' q (List.mem_append_right _ hq)).1
        rcases List.mem_cons.mp hr with rfl | hr
        · exact Ne.symm (o3' q (List.mem_append_right _ hq)).2.1
        rcases List.mem_cons.mp hr with rfl | hr
        · exact Ne.symm (o3' q (List.mem_append_right _ hq)).2.2
        exact hO.get q hq r hr)
      (case d => omega)
      (case u => omega)
      have o4 : LCg.Off3 I1 C D [(I, it), (L + 1 + 1, om), (L + 1, op)] := ⟨o3.1, o3.2.1, o3.2.2.1, trivial⟩
      clear hT hO F1 N1 o3
      rintro v news2 h3 tk3 ⟨t3, p1, c1, o1, p2, c2, o2, rfl, rfl, hT⟩ F1 N1 O1
      have o5 : LCg.Off3 I1 C D ([(I, it), (L + 1 + 1, om), (L + 1, op)] ++ TL p1 c1 o1 p2 c2 o2) :=
        ⟨o4.1, o4.2.1, o4.2.2.1, LCg.Off3.of fun q hq => ⟨Ne.symm (O1.get q hq _ (.head _)), Ne.symm (O1.get q hq _ (.tail _ (.head _))), Ne.symm (O1.get q hq _ (.tail _ (.tail _ (.head _))))⟩⟩
      have o6 : Off [(I, it), (L + 1 + 1, om), (L + 1, op)] (TL p1 c1 o1 p2 c2 o2) := O1.sub fun q hq => .tail _ (.tail _ (.tail _ hq))
      have e1 : cn p mn (i + 1) = cn p mn i + bif Nat.beq (cw mn i % p) 0 then 0 else 1 := rfl
      k_steps
      refine Stop.go ?_
      refine mod_nn (by omega) ?_
      unfold TL at N1
      simp only [List.cons_append, List.nil_append] at N1
      by_cases hz : cw mn i % p = 0
      · rw [hz] at e1 ⊢
        k_steps
        refine Stop.go (LCg.CompEnd.intro F1 N1 ([(I, it), (L + 1 + 1, om), (L + 1, op)] ++ TL p1 c1 o1 p2 c2 o2) ?_ o5 trivial ⟨by rw [hys, e1]; rfl, p1, c1, o1, p2, c2, o2, rfl, hT, o6⟩)
        unfold TL; kcj_all
      · have hb : (((cw mn i % p : Nat) : Int) == 0) = false := by simpa using (show ((cw mn i % p : Nat) : Int) ≠ 0 by omega)
        rw [show Nat.beq (cw mn i % p) 0 = false from Bool.eq_false_iff.mpr fun e => hz (Nat.eq_of_beq_eq_true e)] at e1
        k_steps
        rotate_left
        · exfalso; omega
        refine Stop.go (LCg.CompEnd.intro F1 N1 ([(I, it), (L + 1 + 1, om), (L + 1, op)] ++ TL p1 c1 o1 p2 c2 o2) ?_ o5 trivial ⟨by rw [List.length_append, hys, e1]; rfl, p1, c1, o1, p2, c2, o2, rfl, hT, o6⟩)
        unfold TL; kcj_all
    · clear hT hO
      rintro ys news ⟨hys, p1, c1, o1, p2, c2, o2, rfl, hT, hO⟩
      have hle : ys.length ≤ mn + 1 := hys ▸ cn_le
      rw [count_row hp hmn] at hys
      refine fun D h tk F1 N1 o1' => ?_
      unfold TL at N1
      simp only [List.cons_append, List.nil_append] at N1
      have hl : Heap.IsList h D ys.toArray := News.isList N1 (.head _)
      k_steps
      refine len_list (l := D) (items := ys.toArray) ?hl ?hz ?_
      (case hl => exact hl)
      (case hz => simp only [List.size_toArray]; omega)
      rw [show (ys.toArray.size : Int) = ((fr mn p : Nat) : Int) from by rw [List.size_toArray, hys]]
      have hb : (((fr mn p : Nat) : Int) == ((fr mn p : Nat) : Int)) = true := beq_self_eq_true _
      k_steps
      · exact absurd rfl (by assumption)
      · exact hQ _ _ p1 c1 o1 p2 c2 o2 F1 (fun q hq => N1 q (.tail _ hq)) hT hO
  · have hz : (k == 0) = false := by simpa using hk
    k_steps
    exact hQ _ _ _ _ _ _ _ _ F N hT hO
end Mine

namespace Mine
open PySem PySem.W PySem.Calls PyProof.Rows PySem.Spec
theorem resetT3 : True := by
  w_top off
  exact trivial
local macro_rules | `(tactic| walk_at "call ref") => `(tactic| refine stop_of ?_)
local macro_rules | `(tactic| walk_at "binaryOp Mult int int") => `(tactic| refine stop_of ?_)
local macro_rules | `(tactic| walk_at "pyIter ref") => `(tactic| refine stop_of ?_)
local macro_rules | `(tactic| walk_at "UnrPost") => `(tactic| refine stop_of ?_)

set_option maxHeartbeats 8000000 in
theorem free_ct (w : World) (loose : List Str) (mean : ExcName → Option Value) (mg mb : Str → Option Value) (dp un : Nat) (gd : Option (List Code)) (L fa : Addr) (cd : Value) (outer : List Env) (A₀ : Around) (base g : Heap) (s : Shared) (Q : Flow → Shared → Prop)
    (p mn : Nat) (hp : 1 < p) (hp' : p ≤ 11) (DL I : Addr) (it op om : Obj) (a0 a1 a2 a3 a4 a5 t1 : Tok) (epl : Nat) (m : Str → Option Value)
    (p1 : Array Value) (c1 : Addr) (o1 : Obj) (p2 : Array Value) (c2 : Addr) (o2 : Obj)
    (B : Below A₀ base outer g) (X : (hd.heap_39 w.params).In g) (T : Top topProg loose mean mg mb g) (hdp : dp + 30 < recursionLimit) (hun : un + 400 < cLine)
    (F : Fr g L s.heap (M2 (PySem.Str.ofString "free") (PySem.Str.ofString "left") (some (.int 1 t1)) (some (.ref DL)) m))
    (N : News g L s.heap [six DL mn p a0 a1 a2 a3 a4 a5 epl, (I, it), (L + 1 + 1, om), (L + 1, op), (37, tabObj p1), (c1, o1), (30, tabObj p2), (c2, o2)])
    (hQ : ∀ h' tk' (u : Str → Option Value) t, Fr g L h' (fun z => if z = PySem.Str.ofString "figure" then u z else if z = PySem.Str.ofString "free" then some (.int (fr mn p : Nat) t) else M2 (PySem.Str.ofString "free") (PySem.Str.ofString "left") (some (.int 1 t1)) (some (.ref DL)) m z) →
      News g L h' [six DL mn p a0 a1 a2 a3 a4 a5 epl, (I, it), (L + 1 + 1, om), (L + 1, op), (37, tabObj p1), (c1, o1), (30, tabObj p2), (c2, o2)] → Q .next { s with heap := h', toks := tk' }) :
    wpAny (model PG w) (AL dp un gd L fa cd outer) (exec (turnS 12) (envL L fa cd)) Q (fun _ _ => False) s := by
  have eb : turnS 12 = turnS 12 := rfl
  have es : fscope lawS = fscope lawS := rfl
  conv at eb => rhs; whnf
  conv at es => rhs; whnf
  unfold AL envL
  rw [eb, es]
  clear eb es
  (try k_fold)
  have f0 : ∀ j, fg mn p j < 11 := fun j => by have := fg_lt (N := mn) (p := p) (j := j) (by omega); omega
  k_steps
  (rename Fr _ _ _ _ => F1); (rename News _ _ _ _ => N1)
  refine Stop.go ?_
  with_unfolding_all refine' iter_acc1L (y := PySem.Str.ofString "free") (fun a n => a * (n + 1)) (by decide) (by rfl) (by k_mem) (by first | assumption | l_ints) F1 N1 ⟨_, by rfl⟩ (fun n9 t9 a9 ta9 h9 tk9 own9 hmem hoff F2 N2 => ?_) (fun u9 t9 h9 tk9 F2 N2 => ?_)
  · clear F1 N1
    simp only [List.nil_append, List.cons_append, List.append_nil] at N2
    (try k_fold)
    have hn : 0 ≤ n9 ∧ n9 < 11 := by
      have := f0 0; have := f0 1; have := f0 2; have := f0 3; have := f0 4; have := f0 5
      simp only [List.mem_cons, List.not_mem_nil, or_false] at hmem
      omega
    k_steps
    refine Stop.go (mul_int ?_ (IntMulOk.of_right (bits_le (by omega) (by omega))))
    k_steps
  · clear F1 N1
    have e : List.foldl (fun a n => a * (n + 1)) (1 : Int) [(fg mn p 0 : Int), (fg mn p 1 : Int), (fg mn p 2 : Int), (fg mn p 3 : Int), (fg mn p 4 : Int), (fg mn p 5 : Int)] = ((fr mn p : Nat) : Int) := by
      simp only [List.foldl, fr, Int.natCast_mul, Int.natCast_add]; rfl
    rw [e] at F2
    exact hQ _ _ u9 t9 F2 N2
end Mine

namespace Mine
open PySem PySem.W PySem.Calls PyProof.Rows PySem.Spec
theorem resetT2 : True := by
  w_top off
  exact trivial
def tailS : List Stmt :=
  match forBody lawFor with
  | _ :: _ :: _ :: _ :: _ :: _ :: r => r
  | _ => []
local macro_rules | `(tactic| walk_at "call ref") => `(tactic| refine stop_of ?_)
local macro_rules | `(tactic| walk_at "binaryOp Mod int int") => `(tactic| refine stop_of ?_)
local macro_rules | `(tactic| walk_at "binaryOp Mult int int") => `(tactic| refine stop_of ?_)
local macro_rules | `(tactic| walk_at "exec For Name Name cons nil") => `(tactic| refine stop_of ?_)
local macro_rules | `(tactic| walk_at "UnrPost") => `(tactic| refine stop_of ?_)
local macro_rules | `(tactic| walk_at "exec While BoolOp") => `(tactic| refine stop_of ?_)

set_option maxHeartbeats 8000000 in
theorem turnB_ct (w : World) (loose : List Str) (mean : ExcName → Option Value) (mg mb : Str → Option Value) (dp un : Nat) (gd : Option (List Code)) (L fa : Addr) (cd : Value) (outer : List Env) (A₀ : Around) (base g : Heap) (s : Shared) (Q : Flow → Shared → Prop)
    (p mn fn : Nat) (hp : p = 3 ∨ p = 5 ∨ p = 7 ∨ p = 11) (hmn : mn ≤ 60) (hfn : fn ≤ mn) (k : Int) (l DL I : Addr) (it op om : Obj) (a0 a1 a2 a3 a4 a5 tp tm tk td tw tf : Tok) (epl : Nat) (m : Str → Option Value)
    (p1 : Array Value) (c1 : Addr) (o1 : Obj) (p2 : Array Value) (c2 : Addr) (o2 : Obj) (hT : TOk p1 c1 o1 p2 c2 o2)
    (B : Below A₀ base outer g) (X : (hd.heap_39 w.params).In g) (T : Top topProg loose mean mg mb g) (hdp : dp + 30 < recursionLimit) (hun : un + 400 < cLine)
    (hop : op.data = .cell (some (.int (p : Int) tp))) (hom : om.data = .cell (some (.int (mn : Int) tm)))
    (hI1 : (L + 1 + 1, om).1 ≠ I) (hI2 : (L + 1, op).1 ≠ I) (hO : Off [six DL mn p a0 a1 a2 a3 a4 a5 epl, (I, it), (L + 1 + 1, om), (L + 1, op)] (TL p1 c1 o1 p2 c2 o2))
    (F : Fr g L s.heap (M4 (PySem.Str.ofString "due") (PySem.Str.ofString "left") (PySem.Str.ofString "ways") (PySem.Str.ofString "few") (some (.int (lw mn fn p : Nat) td)) (some (.ref DL)) (some (.int (cw mn fn : Nat) tw)) (some (.int (fn : Int) tf)) (M2 (PySem.Str.ofString "k") (PySem.Str.ofString "script") (some (.int k tk)) (some (.ref l)) m)))
    (N : News g L s.heap ([six DL mn p a0 a1 a2 a3 a4 a5 epl, (I, it), (L + 1 + 1, om), (L + 1, op)] ++ TL p1 c1 o1 p2 c2 o2)) :
    wpAny (model PG w) (AL dp un gd L fa cd outer) (execs tailS (envL L fa cd))
      (UnrPost g L s I it (fun m' news' => m' (PySem.Str.ofString "script") = some (.ref l) ∧ ∃ om' ov' p1' c1' o1' p2' c2' o2', news' = (L + 1 + 1, om') :: (L + 1, op) :: TL p1' c1' o1' p2' c2' o2' ∧ om'.data = .cell ov' ∧ TOk p1' c1' o1' p2' c2' o2' ∧ AllNe (L + 1) (TL p1' c1' o1' p2' c2' o2') ∧ AllNe (L + 1 + 1) (TL p1' c1' o1' p2' c2' o2')) Q) (fun _ _ => False) s := by
  have eb : tailS = tailS := rfl
  have es : fscope lawS = fscope lawS := rfl
  conv at eb => rhs; whnf
  conv at es => rhs; whnf
  unfold AL envL
  rw [eb, es]
  clear eb es
  unfold TL at N
  simp only [List.cons_append, List.nil_append] at N
  show wpAny _ _ _ _ _ _
  (try k_fold)
  k_steps
  refine Stop.go ?_
  refine mod_nn (by omega) ?_
  rw [(lucas_kummer hp hmn hfn).1]
  k_steps
  refine Stop.go ?_
  refine mod_nn (by omega) ?_
  generalize lw mn fn p % p = r
  iterate 3 (first | (k_unfold; (try dsimp only)) | (k_end; wrow_close) | walk1 | (dsimp only; walk1) | (leave1; walk_say "STEP leave1"; try dsimp only) | fail "no step")
  · exact absurd rfl (by assumption)
  k_steps
  (rename Fr _ _ _ _ => F1); (rename News _ _ _ _ => N1)
  have hpp : 1 < p ∧ p ≤ 11 := by omega
  have N2 : News g L _ [six DL mn p a0 a1 a2 a3 a4 a5 epl, (I, it), (L + 1 + 1, om), (L + 1, op), (37, tabObj p1), (c1, o1), (30, tabObj p2), (c2, o2)] := fun q hq => N1 q (.tail _ hq)
  clear N1
  refine Stop.go ?_
  refine while_ct w loose mean mg mb dp un gd L fa cd outer A₀ base g _ _ p (cw mn fn) hpp.1 hpp.2 _ _ op tp _ _ B X T hop ?mem (Fr.m2 F1 rfl rfl) N2 fun h3 tk3 v3 t3 F3 N3 => ?_
  (case mem => exact .tail _ (.tail _ (.tail _ (.head _))))
  clear F1 N2
  k_steps
  refine Stop.go ?_
  refine' Ct.use2 (sums_ct w fn p _ _ p1 c1 o1 p2 c2 o2 hT (by omega) hpp.1 hpp.2) B F3 X N3 (Cut.cons (Cut.cons (Cut.cons (Cut.cons Cut.nil)))) hO T rfl ?d ?u ?_
  (case d => omega)
  (case u => omega)
  clear hT hO N3
  rintro v news4 h4 tk4 ⟨A1, E1, oe1, x1, y1, z1, u1, e1, p1, c1, o1, p2, c2, o2, rfl, rfl, hE1, hT, hA1, hEE1⟩ F4 N4 O1
  unfold TL at N4
  simp only [List.cons_append, List.nil_append] at N4
  clear F3
  k_steps
  (rename Fr _ _ _ _ => F4); (rename News _ _ _ _ => N4)
  refine Stop.go ?_
  rw [show ((mn : Int) - (fn : Int)) = ((mn - fn : Nat) : Int) by omega]
  refine' Ct.use2 (sums_ct w (mn - fn) p _ _ p1 c1 o1 p2 c2 o2 hT (by omega) hpp.1 hpp.2) B F4 X N4 (Cut.cons (Cut.cons Cut.nil)) ?O T rfl ?d ?u ?_
  (case O =>
    refine off_of fun q hq r hr => ?_
    rcases List.mem_cons.mp hr with rfl | hr
    · exact Ne.symm (hA1.get q (.tail _ hq))
    rcases List.mem_cons.mp hr with rfl | hr
    · exact Ne.symm (hEE1.get q hq)
    exact O1.get q (.tail _ (.tail _ hq)) r hr)
  (case d => omega)
  (case u => omega)
  clear hT N4 hEE1
  rintro v news5 h5 tk5 ⟨A2, E2, oe2, x2, y2, z2, u2, e2, p1, c1, o1, p2, c2, o2, rfl, rfl, hE2, hT, hA2, hEE2⟩ F5 N5 O2
  clear F4
  unfold TL at N5
  simp only [List.cons_append, List.nil_append] at N5
  k_steps
  (rename Fr _ _ _ _ => F5); (rename News _ _ _ _ => N5)
  refine Stop.go ?_
  have N6 : News g L _ ([tup5 A1 _ _ _ _ _ _ _ _ _ _, tup5 A2 _ _ _ _ _ _ _ _ _ _, (E1, oe1), (E2, oe2)] ++ (TL p1 c1 o1 p2 c2 o2 ++ [six DL mn p a0 a1 a2 a3 a4 a5 epl, (I, it), (L + 1 + 1, om), (L + 1, op)])) := cb_drop N5 (by unfold TL; kcj_all)
  clear N5
  have O3 : Off (TL p1 c1 o1 p2 c2 o2 ++ [six DL mn p a0 a1 a2 a3 a4 a5 epl, (I, it), (L + 1 + 1, om), (L + 1, op)]) [tup5 A1 (sm fn p : Nat) 1 fn 0 E1 x1 y1 z1 u1 e1, tup5 A2 (sm (mn - fn) p : Nat) 1 (mn - fn : Nat) 0 E2 x2 y2 z2 u2 e2, (E1, oe1), (E2, oe2)] := by
    refine off_of fun q hq r hr => ?_
    rcases List.mem_append.mp hr with hr | hr
    · rcases List.mem_cons.mp hq with rfl | hq
      · exact Ne.symm (O2.get r (.tail _ (.tail _ hr)) _ (.head _))
      rcases List.mem_cons.mp hq with rfl | hq
      · exact hA2.get r (.tail _ hr)
      rcases List.mem_cons.mp hq with rfl | hq
      · exact Ne.symm (O2.get r (.tail _ (.tail _ hr)) _ (.tail _ (.head _)))
      rw [List.mem_singleton.mp hq]
      exact hEE2.get r hr
    · rcases List.mem_cons.mp hq with rfl | hq
      · exact O1.get _ (.head _) r hr
      rcases List.mem_cons.mp hq with rfl | hq
      · exact O2.get _ (.head _) r (.tail _ (.tail _ hr))
      rcases List.mem_cons.mp hq with rfl | hq
      · exact O1.get _ (.tail _ (.head _)) r hr
      rw [List.mem_singleton.mp hq]
      exact O2.get _ (.tail _ (.head _)) r (.tail _ (.tail _ hr))
  have O4 : Off [six DL mn p a0 a1 a2 a3 a4 a5 epl, (I, it), (L + 1 + 1, om), (L + 1, op)] (TL p1 c1 o1 p2 c2 o2) := off_of fun q hq r hr => O2.get q (.tail _ (.tail _ hq)) r (.tail _ (.tail _ hr))
  refine' Ct.use2 (stats_ct w A1 A2 E1 E2 oe1 oe2 hE1 hE2 _ _ _ _ _ _ _ _ _ _ _ _ _ _ _ _ _ _ ⟨Ne.symm (hA1.get _ (.head _)), Ne.symm (O2.get _ (.head _) _ (.tail _ (.head _))), trivial⟩ ⟨O2.get _ (.tail _ (.head _)) _ (.head _), Ne.symm (hA2.get _ (.head _)), trivial⟩) B F5 X N6 Cut.nil O3 T rfl ?d ?u ?_
  (case d => omega)
  (case u => omega)
  clear O1 O2 O3 N6 hA1 hA2 hEE2 hE1 hE2
  rintro v news6 h6 tk6 ⟨D3, E3, x3, y3, z3, u3, e3, rfl, rfl⟩ F6 N6 O1
  clear F5
  unfold TL at N6
  simp only [List.cons_append, List.nil_append] at N6
  k_steps
  · exfalso; omega
  (rename Fr _ _ _ _ => F6); (rename News _ _ _ _ => N6)
  refine Stop.go ?_
  refine' Ct.use2 (sums_ct w mn p _ _ p1 c1 o1 p2 c2 o2 hT (by omega) hpp.1 hpp.2) B F6 X N6 (Cut.cons Cut.nil) ?O T rfl ?d ?u ?_
  (case O =>
    refine off_of fun q hq r hr => ?_
    rcases List.mem_cons.mp hr with rfl | hr
    · exact Ne.symm (O1.get _ (.head _) q (List.mem_append_left _ hq))
    exact O4.get q hq r hr)
  (case d => omega)
  (case u => omega)
  clear hT N6 O4 O1
  rintro v news7 h7 tk7 ⟨D4, E4, oe4, x4, y4, z4, u4, e4, p1, c1, o1, p2, c2, o2, rfl, rfl, hE4, hT, hA4, hEE4⟩ F7 N7 O2
  clear F6
  unfold TL at N7
  simp only [List.cons_append, List.nil_append] at N7
  k_steps
  (rename Fr _ _ _ _ => F7)
  refine Stop.go ?_
  rw [show ((p : Int) - 1) = ((p - 1 : Nat) : Int) by omega]
  refine mul_nat (by omega) ?_
  have hk := (lucas_kummer hp hmn hfn).2
  generalize od p 9 (cw mn fn) * (p - 1) = z at hk ⊢
  rw [show ((sm (mn - fn) p : Nat) : Int) + (sm fn p : Nat) - (sm mn p : Nat) = (z : Int) by omega]
  clear hk
  k_steps
  · exact absurd rfl (by assumption)
  (rename Fr _ _ _ _ => F8); (rename News _ _ _ _ => N8)
  have O5 : Off [six DL mn p a0 a1 a2 a3 a4 a5 epl, (I, it), (L + 1 + 1, om), (L + 1, op)] (TL p1 c1 o1 p2 c2 o2) := off_of fun q hq r hr => O2.get q (.tail _ (.tail _ hq)) r (.tail _ hr)
  clear O2 hA4 hEE4 hE4
  refine Stop.go ?_
  refine free_ct w loose mean mg mb dp un gd L fa cd outer A₀ base g _ _ p mn hpp.1 hpp.2 DL I it op om _ _ _ _ _ _ _ epl _ p1 c1 o1 p2 c2 o2 B X T hdp hun (Fr.m2 F8 rfl rfl) (cb_drop N8 (by kcj_all)) fun h9 tk9 u9 t9 F9 N9 => ?_
  clear F8 N8
  (try dsimp only)
  (first | (k_unfold; (try dsimp only)) | (k_end; wrow_close) | walk1 | (dsimp only; walk1) | (leave1; walk_say "STEP leave1"; try dsimp only) | fail "no step")
  refine comp_ct w loose mean mg mb dp un gd L fa cd outer A₀ base g _ _ p mn k hp hmn _ I it op om tp tm _ _ p1 c1 o1 p2 c2 o2 hT B X T hdp hun hop hom (O5.sub fun q hq => .tail _ hq) (Fr.m2 F9 rfl rfl) (cb_drop N9 (by unfold TL; kcj_all)) ?_
  clear hT O5 N9
  intro h10 tk10 p1 c1 o1 p2 c2 o2 F10 N10 hT O6
  (try dsimp only)
  k_steps
  refine Stop.go ?_
  refine UnrEnd.intro F10 N10 ((L + 1 + 1, om) :: (L + 1, op) :: TL p1 c1 o1 p2 c2 o2) (fun q hq => hq) ?_ ⟨rfl, om, _, p1, c1, o1, p2, c2, o2, rfl, hom, hT, allNe_of fun q hq => Ne.symm (O6.get q hq _ (.tail _ (.tail _ (.head _)))), allNe_of fun q hq => Ne.symm (O6.get q hq _ (.tail _ (.head _)))⟩
  intro q hq
  rcases List.mem_cons.mp hq with rfl | hq
  · exact hI1
  rcases List.mem_cons.mp hq with rfl | hq
  · exact hI2
  exact Ne.symm (O6.get q hq _ (.head _))
end Mine

namespace Mine
open PySem PySem.W PySem.Calls PyProof.Rows PySem.Spec
theorem resetT1 : True := by
  w_top off
  exact trivial
theorem M4_self {d r q a : Str} {m : Str → Option Value} : m = M4 d r q a (m d) (m r) (m q) (m a) m := by
  funext y
  unfold M4
  by_cases h0 : y = d
  · subst h0; simp
  · by_cases h1 : y = r
    · subst h1; simp [h0]
    · by_cases h2 : y = q
      · subst h2; simp [h0, h1]
      · by_cases h3 : y = a
        · subst h3; simp [h0, h1, h2]
        · simp [h0, h1, h2, h3]
theorem Fr.m4s {g h : Heap} {L : Addr} {m : Str → Option Value} {d r q a : Str} {v4 v3 v2 v1 : Option Value} (F : Fr g L h m) (h4 : m d = v4) (h3 : m r = v3) (h2 : m q = v2) (h1 : m a = v1) : Fr g L h (M4 d r q a v4 v3 v2 v1 m) := by
  subst h4 h3 h2 h1
  rw [← M4_self]
  exact F
local macro_rules | `(tactic| walk_at "zz none") => `(tactic| fail "none")
local macro_rules | `(tactic| walk_at "call ref") => `(tactic| refine stop_of ?_)
local macro_rules | `(tactic| walk_at "pyIter ref") => `(tactic| refine stop_of ?_)
local macro_rules | `(tactic| walk_at "UnrPost") => `(tactic| refine stop_of ?_)
local macro_rules | `(tactic| walk_at "binaryOp Mod int int") => `(tactic| refine stop_of ?_)
local macro_rules | `(tactic| walk_at "exec For Tuple Call cons nil") => `(tactic| refine stop_of ?_)
local macro_rules | `(tactic| walk_at "exec While Compare cons nil") => `(tactic| refine stop_of ?_)

set_option maxHeartbeats 8000000 in
theorem turn_ct (w : World) (loose : List Str) (mean : ExcName → Option Value) (mg mb : Str → Option Value) (dp un : Nat) (gd : Option (List Code)) (L fa : Addr) (cd : Value) (outer : List Env) (A₀ : Around) (base g : Heap) (s : Shared) (Q : Flow → Shared → Prop) 
    (p : Nat) (hp : p = 3 ∨ p = 5 ∨ p = 7 ∨ p = 11) (l : Addr) (vs : List Value) (ns : List Int) (i : Nat) (tk0 tp : Tok) (m : Str → Option Value) (I : Addr) (it op om : Obj) (ov : Option Value) (p1 : Array Value) (c1 : Addr) (o1 : Obj) (p2 : Array Value) (c2 : Addr) (o2 : Obj) (hT : TOk p1 c1 o1 p2 c2 o2)
    (B : Below A₀ base outer g) (X : (hd.heap_39 w.params).In g) (T : Top topProg loose mean mg mb g) (hdp : dp + 30 < recursionLimit) (hun : un + 400 < cLine)
    (hL : g.IsList l vs.toArray) (hI : IntsAre vs ns) (hlen : ns.length ≤ 63) (hi : 2 * i + 1 < ns.length) (hop : op.data = .cell (some (.int (p : Int) tp))) (hom : om.data = .cell ov)
    (hof : AllNe I ((L + 1 + 1, om) :: (L + 1, op) :: TL p1 c1 o1 p2 c2 o2)) (hL1 : AllNe (L + 1) (TL p1 c1 o1 p2 c2 o2)) (hL2 : AllNe (L + 1 + 1) (TL p1 c1 o1 p2 c2 o2))
    (F : Fr g L s.heap (fun y => if y = PySem.Str.ofString "k" then some (.int (0 + (i : Int) * 2) tk0) else if y = PySem.Str.ofString "script" then some (.ref l) else m y))
    (N : News g L s.heap ((I, it) :: (L + 1 + 1, om) :: (L + 1, op) :: TL p1 c1 o1 p2 c2 o2)) :
    wpAny (model PG w) (AL dp un gd L fa cd outer) (execs (forBody lawFor) (envL L fa cd))
      (UnrPost g L s I it (fun m' news' => m' (PySem.Str.ofString "script") = some (.ref l) ∧ ∃ om' ov' p1' c1' o1' p2' c2' o2', news' = (L + 1 + 1, om') :: (L + 1, op) :: TL p1' c1' o1' p2' c2' o2' ∧ om'.data = .cell ov' ∧ TOk p1' c1' o1' p2' c2' o2' ∧ AllNe (L + 1) (TL p1' c1' o1' p2' c2' o2') ∧ AllNe (L + 1 + 1) (TL p1' c1' o1' p2' c2' o2')) Q) (fun _ _ => False) s := by
  have eb : forBody lawFor = forBody lawFor := rfl
  have es : fscope lawS = fscope lawS := rfl
  conv at eb => rhs; whnf
  conv at es => rhs; whnf
  unfold AL envL
  rw [eb, es]
  clear eb es
  have hI1 := hof.1
  have hI2 := hof.2.1
  have O0 : Off [(I, it), (L + 1 + 1, om), (L + 1, op)] (TL p1 c1 o1 p2 c2 o2) := by
    refine off_of fun q hq r hr => ?_
    rcases List.mem_cons.mp hr with rfl | hr
    · exact Ne.symm (hof.get q (.tail _ (.tail _ hq)))
    rcases List.mem_cons.mp hr with rfl | hr
    · exact Ne.symm (hL2.get q hq)
    rw [List.mem_singleton.mp hr]
    exact Ne.symm (hL1.get q hq)
  clear hof hL1
  unfold TL at N hL2
  simp only [AllNe, and_true] at hL2
  show wpAny _ _ _ _ _ _
  k_fold
  k_steps
  refine Stop.go ?_
  refine mod_nat (by decide) fun mn hmn hmn' => ?_
  clear hmn
  k_steps
  refine Stop.go ?_
  refine mod_nat (b := (mn : Int) + 1) (by omega) fun fn hfn hfn' => ?_
  clear hfn
  k_steps
  (rename Fr _ _ _ _ => F1); (rename News _ _ _ _ => N1)
  rename_i h1 om1 dm1 t1 h2
  refine Stop.go ?_
  refine Ct.use (ways_ct w mn fn _ _ p1 c1 o1 p2 c2 o2 hT (by omega) (by omega)) B F1 X N1 (Split.cons (Split.cons (Split.cons Split.nil))) O0 T rfl ?d ?u ?_
  (case d => omega)
  (case u => omega)
  clear hT hL2 N1 F1 O0
  rintro v news2 h3 tk3 ⟨t3, p1', c1', o1', p2', c2', o2', rfl, rfl, hT⟩ F1 N1 O1
  unfold TL at N1
  simp only [List.cons_append, List.nil_append] at N1
  k_steps
  (rename Fr _ _ _ _ => F2); (rename News _ _ _ _ => N2)
  (try clear N1); (try clear F1)
  have hpp : 1 < p ∧ p ≤ 11 := by omega
  have N3 : News g L _ ([(I, it), (L + 1 + 1, om1), (L + 1, op)] ++ TL p1' c1' o1' p2' c2' o2') := cb_drop N2 (by unfold TL; kcj_all)
  (try clear N2)
  refine Stop.go ?_
  refine Ct.use (figs_ct w mn p _ _ p1' c1' o1' p2' c2' o2' hT (by omega) hpp.1 hpp.2) B F2 X N3 (Split.cons (Split.cons (Split.cons Split.nil))) O1 T rfl ?d ?u ?_
  (case d => omega)
  (case u => omega)
  clear hT O1 N3
  rintro v news2 h4 tk4 ⟨DL, a0, a1, a2, a3, a4, a5, epl, p1, c1, o1, p2, c2, o2, rfl, rfl, hT, hDL⟩ F3 N3 O1
  (try clear F2)
  have O3 : Off [six DL mn p a0 a1 a2 a3 a4 a5 epl, (I, it), (L + 1 + 1, om1), (L + 1, op)] (TL p1 c1 o1 p2 c2 o2) := by
    refine off_of fun q hq r hr => ?_
    rcases List.mem_cons.mp hr with rfl | hr
    · exact Ne.symm (hDL.get q hq)
    exact O1.get q (.tail _ hq) r hr
  clear O1 hDL
  unfold TL at N3
  simp only [List.cons_append, List.nil_append] at N3
  k_steps
  (rename News _ _ _ _ => N4)
  have N5 : News g L _ ([(DL, W.listOf #[.int (fg mn p 0 : Int) a0, .int (fg mn p 1 : Int) a1, .int (fg mn p 2 : Int) a2, .int (fg mn p 3 : Int) a3, .int (fg mn p 4 : Int) a4, .int (fg mn p 5 : Int) a5] epl), (I, it), (L + 1 + 1, om1), (L + 1, op)] ++ TL p1 c1 o1 p2 c2 o2) := cb_drop N4 (by unfold TL; kcj_all)
  (try clear N4)
  refine Stop.go ?_
  refine Ct.use (figs_ct w fn p _ _ p1 c1 o1 p2 c2 o2 hT (by omega) hpp.1 hpp.2) B F3 X N5 (Split.cons (Split.cons (Split.cons (Split.cons Split.nil)))) O3 T rfl ?d ?u ?_
  (case d => omega)
  (case u => omega)
  clear hT N5 O3
  rintro v news2 h5 tk5 ⟨DR, b0, b1, b2, b3, b4, b5, epr, p1', c1', o1', p2', c2', o2', rfl, rfl, hT, hDR⟩ F4 N5 O2
  (try clear F3)
  unfold TL at N5
  simp only [List.cons_append, List.nil_append] at N5
  k_steps
  (rename Fr _ _ _ _ => F5); (rename News _ _ _ _ => N6)
  have O7 : Off [six DL mn p a0 a1 a2 a3 a4 a5 epl, six DR fn p b0 b1 b2 b3 b4 b5 epr, (I, it), (L + 1 + 1, om1), (L + 1, op)] (TL p1' c1' o1' p2' c2' o2') := by
    refine off_of fun q hq r hr => ?_
    rcases List.mem_cons.mp hr with rfl | hr
    · exact O2.get q (.tail _ hq) _ (.head _)
    rcases List.mem_cons.mp hr with rfl | hr
    · exact Ne.symm (hDR.get q hq)
    exact O2.get q (.tail _ hq) r (.tail _ hr)
  have N7 : News g L _ ([six DL mn p a0 a1 a2 a3 a4 a5 epl, six DR fn p b0 b1 b2 b3 b4 b5 epr, (I, it), (L + 1 + 1, om1), (L + 1, op)] ++ TL p1' c1' o1' p2' c2' o2') := cb_drop N6 (by unfold TL; kcj_all)
  clear N6 O2 hDR
  refine Stop.go ?_
  refine zip_ct w loose mean mg mb dp un gd L fa cd outer A₀ base g _ _ p mn fn hpp.1 hpp.2 _ DL DR I it op om1 a0 a1 a2 a3 a4 a5 b0 b1 b2 b3 b4 b5 _ epl epr p1' c1' o1' p2' c2' o2' hT B X T hdp hun O7 (Fr.m3 F5 rfl rfl rfl) N7 ?_
  clear N7 F5 O7 hT
  intro h8 tk8 v1 v2 v3 t8 p1 c1 o1 p2 c2 o2 F8 N8 hT O8
  (try dsimp only)
  have O9 : Off [six DL mn p a0 a1 a2 a3 a4 a5 epl, (I, it), (L + 1 + 1, om1), (L + 1, op)] (TL p1 c1 o1 p2 c2 o2) := O8.sub fun q hq => by
    rcases List.mem_cons.mp hq with rfl | hq
    · exact .head _
    · exact .tail _ (.tail _ hq)
  have N9 : News g L _ ([six DL mn p a0 a1 a2 a3 a4 a5 epl, (I, it), (L + 1 + 1, om1), (L + 1, op)] ++ TL p1 c1 o1 p2 c2 o2) := cb_drop N8 (by unfold TL; kcj_all)
  clear N8 O8
  refine wpAny_mono (turnB_ct w loose mean mg mb dp un gd L fa cd outer A₀ base g _ Q p mn fn hp (by omega) (by omega) _ l DL I it op om1 a0 a1 a2 a3 a4 a5 tp _ _ _ _ _ epl _ p1 c1 o1 p2 c2 o2 hT B X T hdp hun hop (by assumption) hI1 hI2 O9 (Fr.m4s (Fr.m2 F8 rfl rfl) rfl rfl rfl rfl) N9) (fun f s₂ h => ?_) fun _ _ e => e
  cases f <;> exact h
end Mine

namespace Mine
open PySem PySem.W PySem.Calls PyProof.Rows PySem.Spec
theorem resetR0 : True := by
  w_top off
  exact trivial
theorem small_two {b : Int} (hb : -1 ≤ b) (hb' : b < 100) : Builtin.Range.small 0 b 2 = true := by
  unfold Builtin.Range.small Builtin.Range.rangeSize
  simp only [Builtin.Range.rangeFitsLong, Bool.and_eq_true, Bool.or_eq_true, decide_eq_true_eq, beq_iff_eq, show (2 : Int) > 0 by decide, if_true]
  split <;> omega
theorem size_two {n : Nat} : Builtin.Range.rangeSize 0 ((if (n : Int) < 6 then (n : Int) else 6) - 1) 2 = ((min 6 n / 2 : Nat) : Int) := by
  unfold Builtin.Range.rangeSize
  simp only [show ((2 : Int) > 0) = True from by simp, if_true]
  split <;> split <;> omega

set_option maxHeartbeats 8000000 in
theorem loop_ct (w : World) (loose : List Str) (mean : ExcName → Option Value) (mg mb : Str → Option Value) (dp un : Nat) (gd : Option (List Code)) (L fa : Addr) (cd : Value) (outer : List Env) (A₀ : Around) (base g : Heap) (s : Shared) (Q : Flow → Shared → Prop) (E : Value → Shared → Prop)
    (p : Nat) (hp : p = 3 ∨ p = 5 ∨ p = 7 ∨ p = 11) (l r : Addr) (vs : List Value) (ns : List Int) (tp t u v : Tok) (m : Str → Option Value) (op om : Obj) (ov : Option Value) (p1 : Array Value) (c1 : Addr) (o1 : Obj) (p2 : Array Value) (c2 : Addr) (o2 : Obj) (hT : TOk p1 c1 o1 p2 c2 o2)
    (B : Below A₀ base outer g) (X : (hd.heap_39 w.params).In g) (T : Top topProg loose mean mg mb g) (hdp : dp + 30 < recursionLimit) (hun : un + 400 < cLine)
    (hL : g.IsList l vs.toArray) (hI : IntsAre vs ns) (hlen : ns.length ≤ 63) (hop : op.data = .cell (some (.int (p : Int) tp))) (hom : om.data = .cell ov)
    (hL1 : AllNe (L + 1) (TL p1 c1 o1 p2 c2 o2)) (hL2 : AllNe (L + 1 + 1) (TL p1 c1 o1 p2 c2 o2))
    (hR : IsRange s.heap r 0 ((if (ns.length : Int) < 6 then (ns.length : Int) else 6) - 1) 2 t u v) (hm : m (PySem.Str.ofString "script") = some (.ref l))
    (F : Fr g L s.heap m) (N : News g L s.heap ((L + 1 + 1, om) :: (L + 1, op) :: TL p1 c1 o1 p2 c2 o2))
    (done : ∀ h tk m' om' p1' c1' o1' p2' c2' o2', Fr g L h m' → News g L h ((L + 1 + 1, om') :: (L + 1, op) :: TL p1' c1' o1' p2' c2' o2') → TOk p1' c1' o1' p2' c2' o2' → AllNe (L + 1) (TL p1' c1' o1' p2' c2' o2') → AllNe (L + 1 + 1) (TL p1' c1' o1' p2' c2' o2') → Q .next { s with heap := h, toks := tk }) :
    wpAny (model PG w) (AL dp un gd L fa cd outer) (pyIter (.ref r)) (fun it s₂ => LoopAtV PG w (AL dp un gd L fa cd outer) g (envL L fa cd) (PySem.Str.ofString "k") (forBody lawFor) Q E it s₂) E s := by
  refine for_range (n := min 6 ns.length / 2) (fun i m₁ news₁ => m₁ (PySem.Str.ofString "script") = some (.ref l) ∧ ∃ om' ov' p1' c1' o1' p2' c2' o2', news₁ = (L + 1 + 1, om') :: (L + 1, op) :: TL p1' c1' o1' p2' c2' o2' ∧ om'.data = .cell ov' ∧ TOk p1' c1' o1' p2' c2' o2' ∧ AllNe (L + 1) (TL p1' c1' o1' p2' c2' o2') ∧ AllNe (L + 1 + 1) (TL p1' c1' o1' p2' c2' o2'))
    rfl hR (small_two ?a ?b) size_two F N ⟨hm, om, ov, p1, c1, o1, p2, c2, o2, rfl, hom, hT, hL1, hL2⟩ ?_ ?_
  (case a => split <;> omega)
  (case b => split <;> omega)
  · rintro i t m₁ news₁ h tk I it hi ⟨hm, om, ov, p1, c1, o1, p2, c2, o2, rfl, hom, hT, hL1, hL2⟩ hof F N
    have e : (fun y => if y = PySem.Str.ofString "k" then some (.int (0 + (i : Int) * 2) t) else m₁ y) = (fun y => if y = PySem.Str.ofString "k" then some (.int (0 + (i : Int) * 2) t) else if y = PySem.Str.ofString "script" then some (.ref l) else m₁ y) := by
      funext y
      by_cases h1 : y = PySem.Str.ofString "k"
      · simp only [h1, if_true]
      · by_cases h2 : y = PySem.Str.ofString "script"
        · subst h2; simp only [if_true, hm]
        · simp only [h1, h2, if_false]
    rw [e] at F
    exact wpAny_mono (turn_ct w loose mean mg mb dp un gd L fa cd outer A₀ base g _ Q p hp l vs ns i t tp m₁ I it op om ov p1 c1 o1 p2 c2 o2 hT B X T hdp hun hL hI hlen (by omega) hop hom hof hL1 hL2 F N) (fun f s₂ h => h) fun _ _ e => e.elim
  · rintro m₁ news₁ h tk ⟨hm, om, ov, p1, c1, o1, p2, c2, o2, rfl, hom, hT, hL1, hL2⟩ F N
    exact done h tk m₁ om p1 c1 o1 p2 c2 o2 F N hT hL1 hL2
end Mine

namespace Mine
open PySem PySem.W PySem.Calls PyProof.Rows PySem.Spec
theorem resetR1 : True := by
  w_top off
  exact trivial
theorem item4 {prog : Program} {w : World} {A : Around} {E : Value → Shared → Prop} {s : Shared} {value slice : Expr} {l : Addr} {S : Int} {u t0 t1 t2 t3 : Tok} {Q : Value → Shared → Prop} (hl : s.heap.IsList l #[.int 3 t0, .int 5 t1, .int 7 t2, .int 11 t3])
    (hs : ∀ k u, subscripted slice false (.ref l) (.int k u) = operate [.ref l, .int k u] (getItem (.ref l) (.int k u))) (hg : ∀ r, letTemporaryGo value (.ref l) r = pure ())
    (h : ∀ (p : Nat) t, (p = 3 ∨ p = 5 ∨ p = 7 ∨ p = 11) → Q (.int (p : Int) t) s) :
    wpAny (model prog w) A (subscriptTail value slice (.ref l) (.int (S.fmod 4) u)) Q E s := by
  have h0 : 0 ≤ S.fmod 4 := Int.fmod_nonneg_of_pos _ (by decide)
  have h4 : S.fmod 4 < 4 := Int.fmod_lt_of_pos _ (by decide)
  generalize S.fmod 4 = k at h0 h4 ⊢
  have hk : k = 0 ∨ k = 1 ∨ k = 2 ∨ k = 3 := by omega
  rcases hk with rfl | rfl | rfl | rfl
  · exact item_list hl (by decide) (by decide) rfl (h 3 t0 (by decide)) (hs _ _) hg
  · exact item_list hl (by decide) (by decide) rfl (h 5 t1 (by decide)) (hs _ _) hg
  · exact item_list hl (by decide) (by decide) rfl (h 7 t2 (by decide)) (hs _ _) hg
  · exact item_list hl (by decide) (by decide) rfl (h 11 t3 (by decide)) (hs _ _) hg
theorem dup6 {α : Type} {a b x y c q : α} (h : q ∈ [a, b, x, x, y, y]) : q ∈ [c, a, b, x, y] := by
  simp only [List.mem_cons, List.not_mem_nil, or_false] at h ⊢
  rcases h with h | h | h | h | h | h <;> simp [h]
theorem news6 {g h : Heap} {L : Addr} {x a b p q : Addr × Obj} (N : News g L h [x, a, b, p, q]) : News g L h [a, b, p, p, q, q] := fun r hr => N r (dup6 hr)
local macro_rules | `(tactic| walk_at "call ref") => `(tactic| refine stop_of ?_)
local macro_rules | `(tactic| walk_at "pyIter ref") => `(tactic| refine stop_of ?_)
local macro_rules | `(tactic| walk_at "binaryOp Mod int int") => `(tactic| (refine stop_of ?_))
local macro_rules | `(tactic| walk_at "subscriptTail") => `(tactic| refine stop_of ?_)

set_option maxHeartbeats 8000000 in
theorem t : PySem.Challenge.rw_gw0001_01.Holds := Mine.hd (by
  k_go0
  (all_goals try k_fold)
  k_steps
  refine Stop.go ?_
  refine mod_int' (by decide) ?_
  k_steps
  (rename Fr _ _ _ _ => F1); (rename News _ _ _ _ => N1)
  have hl := News.isList N1 (.head _)
  refine Stop.go (kba_turn (value' := PySem.Expr.Name (PySem.Str.ofString "_") ⟨0, 0, 0, 0⟩) (fun _ => rfl) ?_)
  refine item4 hl (by intro _ _; with_unfolding_all rfl) (by intro _; rfl) fun p tp hp => ?_
  clear hl
  k_steps
  (rename Fr _ _ _ _ => F2); (rename News _ _ _ _ => N2); (rename IsRange _ _ _ _ _ _ _ _ => R2)
  refine Stop.go ?_
  have N3 := news6 N2
  refine loop_ct _ _ _ _ _ (1 + claimMargin + 1) (4 + 3) (some []) _ _ _ [] callerA _ _ _ _ _ p hp _ _ _ _ tp _ _ _ _ _ _ _ #[] 37 (tabObj #[]) #[] 30 (tabObj #[]) ⟨.inl ⟨rfl, rfl, rfl⟩, .inl ⟨rfl, rfl, rfl⟩, by decide, by decide, by decide⟩ (by assumption) (by assumption) (by assumption) (by decide) (by decide) (by assumption) (by assumption) (by omega) (by assumption) (by assumption) ?L1 ?L2 R2 rfl F2 N3 ?_
  (case L1 => simp only [TL, AllNe, and_true]; omega)
  (case L2 => simp only [TL, AllNe, and_true]; omega)
  clear N2 N3 F2 R2
  intro h9 tk9 m9 om9 p1 c1 o1 p2 c2 o2 F9 N9 hT hL1 hL2
  (try dsimp only)
  by_cases h3 : p = 3
  · subst h3
    unfold TL at N9
    have hb : (((3 : Nat) : Int) == 3) = true := rfl
    k_steps
  · have hz : ((p : Int) == 3) = false := by simpa using (show (p : Int) ≠ 3 by omega)
    unfold TL at N9
    k_steps
    (rename Fr _ _ _ _ => F8); (rename News _ _ _ _ => N8)
    refine Stop.go ?_
    rw [show (2 * (p : Int)) = ((2 * p : Nat) : Int) by omega]
    refine' Ct.use2 (ways_ct _ (2 * p) p _ _ p1 c1 o1 p2 c2 o2 hT (by omega) (by omega)) (by assumption) F8 (by assumption) N8 (Cut.cons (Cut.cons Cut.nil)) ?Oz (by assumption) rfl ?dz ?uz ?_
    case Oz =>
      refine off_of fun q hq r hr => ?_
      rcases List.mem_cons.mp hr with rfl | hr
      · exact Ne.symm (hL2.get q hq)
      rw [List.mem_singleton.mp hr]
      exact Ne.symm (hL1.get q hq)
    (case dz => decide)
    (case uz => decide)
    clear hT F8 N8 hL1 hL2
    rintro v news2 h3 tk3 ⟨t3, p1, c1, o1, p2, c2, o2, rfl, rfl, hT⟩ F8 N8 O1
    unfold TL at N8
    simp only [List.cons_append, List.nil_append] at N8
    k_steps
    refine Stop.go ?_
    obtain ⟨q, hq, hq0, hq2⟩ : ∃ q : Nat, (p : Int) ^ Int.toNat 3 = (q : Int) ∧ 0 < q ∧ cw (2 * p) p % q = 2 := by
      rcases hp with rfl | rfl | rfl | rfl
      · exact absurd rfl h3
      · exact ⟨125, by decide, by decide, wols.1.1⟩
      · exact ⟨343, by decide, by decide, wols.1.2⟩
      · exact ⟨1331, by decide, by decide, wols.2⟩
    rw [hq]
    refine mod_nn hq0 ?_
    rw [hq2]
    clear hq hq0 hq2
    k_steps)
end Mine

set_option maxHeartbeats 8000000 in
theorem PySem.Challenge.cw_gw0001_01_holds : PySem.Challenge.rw_gw0001_01.Holds :=
  Mine.t

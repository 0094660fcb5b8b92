import PyProof.Rows.All
import Wide.All
import OpenK.AllK
import Wide.FinOn
import PySem.Challenge.RW_wn0041_01

set_option Elab.async false
set_option rowWalk.seconds 1700
set_option maxRecDepth 100000
set_option maxHeartbeats 8000000
set_option genInjectivity false
set_option genSizeOf false
set_option compiler.extract_closed false
section
open PySem PySem.W PyProof.Rows
set_option Elab.async false
set_option maxRecDepth 100000
set_option maxHeartbeats 8000000
set_option compiler.extract_closed false
namespace Mine
/-- the n-th statement of the row's text -/
def stAt (n : Nat) : Stmt := PySem.Challenge.pw_wn0041_01.main.body.getD n (PySem.Challenge.pw_wn0041_01.main.body.headD (.Pass default))
/-- the row again, its statements named one by one: the head's twins stay small so -/
def rx : OpenLaw := { PySem.Challenge.rw_wn0041_01 with prog := { PySem.Challenge.pw_wn0041_01 with main := { PySem.Challenge.pw_wn0041_01.main with body := [stAt 0, stAt 1, stAt 2, stAt 3, stAt 4, stAt 5, stAt 6, stAt 7, stAt 8, stAt 9, stAt 10, stAt 11, stAt 12, stAt 13, stAt 14, stAt 15, stAt 16, stAt 17, stAt 18, stAt 19] } } }
theorem rx_eq : rx = PySem.Challenge.rw_wn0041_01 := by rfl
def Box (_ : Frag) : Prop := True
theorem box (v : Frag) : Box v := trivial
local macro_rules | `(tactic| o_head (kHook $K $_ $_)) => `(tactic| exact (‹Box _ → _›) (box _ : type_of% (by { have h : Box ($K ‹Params›) := box _; (conv at h => arg 1; whnf); exact h })))
/-- the head's heap, written out, with a remark that no twin of it can pass: none is made (none is used) -/
noncomputable def Kq : Params → Frag := by
  intro P
  refine' (fun {x : Frag} (_ : (Box x → rx.row.Holds) → rx.row.Holds) (_ : stAt 0 = PySem.Challenge.pw_wn0041_01.main.body.getD 0 (.Pass default)) => x) ?b rfl
  rotate_left
  intro hb
  k_head
local macro_rules | `(tactic| o_head (kHook $_ $a $p)) => `(tactic| o_head (@kHook Kq $a $p))
open_top hd for rx
end Mine

end
section
open PySem PySem.W PyProof.Rows PySem.Calls PySem.Spec
set_option Elab.async false
set_option maxRecDepth 100000
set_option maxHeartbeats 8000000
namespace Mine
theorem freshWBase : True := by w_top off; trivial
abbrev Led := List (Addr × Obj)
abbrev topA (dp un : Nat) (gd : Option (List Code)) (env : Env) (outer : List Env) : Around := { handled := none, depth := dp, frames := some (env :: outer), guards := gd, units := un }

/-- what a def's body hands back: a value, and what it made that stays -/
noncomputable def Leave (g : Heap) (needed : Led) (R : Value → Led → Prop) (s₀ : Shared) (v : Value) (s' : Shared) : Prop :=
  ∃ L' m' tl h' tk', s' = { s₀ with heap := h', toks := tk' } ∧ Fr g L' h' m' ∧ News g L' h' (tl ++ needed) ∧ (∀ p ∈ tl, ∀ q ∈ needed, q.1 < p.1) ∧ R v tl

theorem leave_in {g : Heap} {needed : Led} {R : Value → Led → Prop} {s₀ : Shared} {v : Value} {L' : Addr} {m' : Str → Option Value} {h' : Heap} {tk' : Nat} {all : Led} (tl : Led)
    (F : Fr g L' h' m') (N : News g L' h' all) (hs : ∀ p ∈ tl ++ needed, p ∈ all) (ho : ∀ p ∈ tl, ∀ q ∈ needed, q.1 < p.1) (hR : R v tl) :
    Leave g needed R s₀ v { s₀ with heap := h', toks := tk' } := ⟨L', m', tl, h', tk', rfl, F, fun p hp => N p (hs p hp), ho, hR⟩

abbrev Rets (h₀ : Heap) (L : Addr) (m : Str → Option Value) (needed news : Led) (R : Value → Led → Prop) (s : Shared) (Q : Value → Shared → Prop) : Prop :=
  ∀ r tl h' tk', Fr h₀ L h' m → News h₀ L h' (tl ++ news) → (∀ p ∈ tl, ∀ q ∈ news, q.1 ≠ p.1) → (∀ p ∈ tl, ∀ q ∈ needed, q.1 < p.1) → R r tl → Q r { s with heap := h', toks := tk' }

theorem back {h₀ g h' : Heap} {L L' : Addr} {s : Shared} {m' : Str → Option Value} {needed news tl : Led}
    (N : News h₀ L s.heap news) (hsub : ∀ p ∈ needed, p ∈ news) (G : ∀ b o, s.heap.get? b = some o → b ∉ needed.map (·.1) → g.get? b = some o)
    (F' : Fr g L' h' m') (N' : News g L' h' (tl ++ needed)) (ho : ∀ p ∈ tl, ∀ q ∈ needed, q.1 < p.1) (N₀ : News h₀ L h' (tl ++ needed)) :
    News h₀ L h' (tl ++ news) ∧ ∀ p ∈ tl, ∀ q ∈ news, q.1 ≠ p.1 := by
  constructor
  · intro p hp
    rcases List.mem_append.mp hp with hp | hp
    · exact N₀ p (List.mem_append.mpr (.inl hp))
    · by_cases hb : p.1 ∈ needed.map (·.1)
      · obtain ⟨q, hq, e⟩ := List.mem_map.mp hb
        have h1 := (N q (hsub q hq)).1
        rw [e, (N p hp).1] at h1
        have : p = q := Prod.ext e.symm (Option.some.inj h1)
        rw [this]
        exact N₀ q (List.mem_append.mpr (.inr hq))
      · exact ⟨F'.keep _ _ (G _ _ (N p hp).1 hb), (N p hp).2⟩
  · intro p hp q hq e
    by_cases hb : q.1 ∈ needed.map (·.1)
    · obtain ⟨q', hq', e'⟩ := List.mem_map.mp hb
      have := ho p hp q' hq'
      rw [e', e] at this
      exact Nat.lt_irrefl _ this
    · have h1 := G _ _ (N q hq).1 hb
      have h2 := (N' p (List.mem_append.mpr (.inl hp))).2.2
      rw [← e, h1] at h2
      cases h2

section
variable {prog : Program} {w : World} {A₀ : Around} {E : Value → Shared → Prop} {s : Shared} {K : Frag} {L : Addr} {h₀ base : Heap} {m mg mb : Str → Option Value} {news : Led} {p : Program} {loose : List Str} {mean : ExcName → Option Value} {Q : Value → Shared → Prop}
  {dp un : Nat} {gd : Option (List Code)} {env : Env} {outer : List Env} {needed : Led} {R : Value → Led → Prop}
  {name qual : Str} {params : Arguments} {body : List Stmt} {scope : Scope} {dV kV doc pm cdv ct oc : Value} {an od : Option Addr} {osl : Array (Option Value)} {f : Addr} {args : List Value} {binds : List (Str × Value)}

theorem my_def
    (B : Below A₀ base outer h₀) (F : Fr h₀ L s.heap m) (X₀ : K.In h₀) (N : News h₀ L s.heap news) (hsub : ∀ p ∈ needed, p ∈ news) (T : Top p loose mean mg mb h₀) (hf : env.frame = some L) (hke : env.scope.kind = .function)
    (ho : K.lookup f = some ⟨oc, od, .func (fnOf name qual params body scope dV kV doc pm an cdv ct), osl⟩) (hcd : codeIn K cdv qual = true) (hroom : dp < recursionLimit)
    (hbind : BindsTo s (fnOf name qual params body scope dV kV doc pm an cdv ct) ⟨args, []⟩ binds) (hloc : ∀ y ∈ binds, scope.names.lookup y.1 = some .local)
    (hret : Rets h₀ L m needed news R s Q)
    (h : ∀ g L' h₁, Fr g L' h₁ (fun y => binds.reverse.lookup y) → News g L' h₁ needed → Below (topA dp un gd env outer) base (env :: outer) g → K.In g → Top p loose mean mg mb g →
      wpAny (model prog w) (topA (dp + 1) (un + 3) gd (envOf qual scope L' f cdv) (env :: outer)) (execs body (envOf qual scope L' f cdv))
        (fun fl s' => Leave g needed R s (match fl with | .ret v => v | _ => .none) s') (fun _ _ => False)
        { s with heap := h₁, toks := s.toks + binds.length })
    (hco : scope.isCoroutine = false) (hgen : scope.isGenerator = false) (hk : scope.kind = .function)
    (hcell : ∀ x ∈ scope.names, x.2 ≠ .cell) : wpAny (model prog w) (topA dp un gd env outer) (call (.ref f) args) Q E s := by
  refine wpAny_call (code_defG (A := topA dp un gd env outer) B F X₀ (fun p hp => N p (hsub p hp)) T rfl hf hke ho hcd hroom hbind hloc (fun g L' h₁ _ F' N' B' X' T' G => ?_) hco hgen hk hcell)
  refine wpAny_mono (h g L' h₁ F' N' B' X' T') (fun fl s' hl => ?_) fun _ _ e => e.elim
  obtain ⟨L₂, m₂, tl, h₂, tk₂, rfl, F₂, N₂, hlt, hR⟩ := hl
  refine ⟨L₂, m₂, _, F₂, N₂, fun F₃ N₃ => ?_⟩
  obtain ⟨N₄, hne⟩ := back N hsub G F₂ N₂ hlt N₃
  exact hret _ tl h₂ tk₂ F₃ N₄ hne hlt hR

theorem my_defC
    (B : Below A₀ base outer h₀) (F : Fr h₀ L s.heap m) (X₀ : K.In h₀) (N : News h₀ L s.heap news) (hsub : ∀ p ∈ needed, p ∈ news) (T : Top p loose mean mg mb h₀) (hf : env.frame = some L) (hke : env.scope.kind = .function)
    (ho : K.lookup f = some ⟨oc, od, .func (fnOf name qual params body scope dV kV doc pm an cdv ct), osl⟩) (hcd : codeIn K cdv qual = true) (hroom : dp < recursionLimit)
    (hbind : BindsTo s (fnOf name qual params body scope dV kV doc pm an cdv ct) ⟨args, []⟩ binds) (hkind : (binds.all fun y => scope.names.lookup y.1 == some .local || scope.names.lookup y.1 == some .cell) = true)
    (hnd : ((cellsFrom 0 scope.names []).map (·.1)).Nodup)
    (hret : Rets h₀ L m needed news R s Q)
    (h : ∀ g L' h₁ tk cells, Fr g L' h₁ (bindL (envOfC qual scope L' f cdv).kindOf binds fun _ => none) → News g L' h₁ (cells ++ needed) →
      CellsAre (bindC (envOfC qual scope L' f cdv).kindOf binds fun _ => none) (cellsFrom (L' + 1) scope.names []) cells → Below (topA dp un gd env outer) base (env :: outer) g → K.In g → Top p loose mean mg mb g → (∀ q ∈ needed, q.1 < L') →
      wpAny (model prog w) (topA (dp + 1) (un + 3) gd (envOfC qual scope L' f cdv) (env :: outer)) (execs body (envOfC qual scope L' f cdv))
        (fun fl s' => Leave g needed R s (match fl with | .ret v => v | _ => .none) s') (fun _ _ => False)
        { s with heap := h₁, toks := tk })
    (hco : scope.isCoroutine = false) (hgen : scope.isGenerator = false) (hk : scope.kind = .function) : wpAny (model prog w) (topA dp un gd env outer) (call (.ref f) args) Q E s := by
  have Nn : News h₀ L s.heap needed := fun p hp => N p (hsub p hp)
  obtain ⟨_, BG, st, lv⟩ := groundX (A := topA dp un gd env outer) (R := fun r s' => match r with | .ok (.ret v) => Q v s' | .ok _ => False | .error e => E e s') B F Nn rfl hf hke
  refine wpAny_call (codeAny_call_function (fd := fnX name qual params body scope [] dV kV doc pm an cdv ct) hroom ((X₀.keeps F.keep) _ _ ho) rfl hco hgen rfl (codeRec_of (X₀.keeps F.keep) hcd) (hbind _ _ _ _ ?_))
  refine wpAny_newFunctionEnv_cells hk (kindsX hkind _) fun env' he s' x => ?_
  subst he
  refine ⟨(T.nolimit.keeps F.keep).keeps x.toInCall.keep, codeAny_func ?_⟩
  obtain ⟨h₁, tk, rfl, _⟩ := x.done
  have hk₁ := x.toInCall.keep
  obtain ⟨cells, NC, Y⟩ := Cl.news (h₀ := s.heap) (Nat.le_refl _) fun n c hm => ⟨x.cell n c (lookup_of_mem_nodup (cellsFrom_names scope.names 0 (s.heap.objs.size + 1) [] [] rfl ▸ hnd) hm), x.above n c hm⟩
  have NN : News (hideAll s.heap (needed.map (·.1))) s.heap.objs.size h₁ (cells ++ needed) := by
    intro p hp
    rcases List.mem_append.mp hp with hp | hp
    · refine ⟨(NC p hp).1, (NC p hp).2.1, ?_⟩
      cases q : (hideAll s.heap (needed.map (·.1))).get? p.1 with
      | none => rfl
      | some o => have := of_hideAll _ q; rw [(NC p hp).2.2] at this; cases this
    · exact ⟨hk₁ _ _ (Nn p hp).1, Nat.ne_of_lt (Heap.lt_size (Nn p hp).1), hideAll_none _ (List.mem_map_of_mem hp)⟩
  refine wpAny_mono (h _ s.heap.objs.size h₁ tk cells ⟨x.toInCall.ns, fun b o e => hk₁ b o (of_hideAll _ e), Nat.le_of_eq (hideAll_size _ _)⟩ NN Y BG (X₀.keeps st) (T.keeps st) (fun q hq => Heap.lt_size (Nn q hq).1)) (fun fl s' hl => lv _ _ ?_) fun _ _ y => y.elim
  obtain ⟨L₂, m₂, tl, h₂, tk₂, rfl, F₂, N₂, hlt, hR⟩ := hl
  refine ⟨L₂, m₂, _, F₂, N₂, fun F₃ N₃ => ?_⟩
  obtain ⟨N₄, hne⟩ := back N hsub (fun b o e n => hideAll_get _ e n) F₂ N₂ hlt N₃
  exact hret _ tl h₂ tk₂ F₃ N₄ hne hlt hR
end

/-- the contract of a def of the text: called over any ledger that holds needed, it hands back what R says -/
noncomputable def Ctr (w : World) (f : Addr) (sz : Nat) (needed : Led) (vs : List Value) (R : Value → Led → Prop) : Prop :=
  ∀ (dp un : Nat) (gd : Option (List Code)) (env : Env) (outer : List Env) (A₀ : Around) (base h₀ : Heap) (L : Addr) (m : Str → Option Value) (mean : ExcName → Option Value) (mg mb : Str → Option Value) (news : Led) (s : Shared) (Q E : Value → Shared → Prop),
    Below A₀ base outer h₀ → Fr h₀ L s.heap m → (Kq w.params).In h₀ → News h₀ L s.heap news → (∀ p ∈ needed, p ∈ news) → Top hd.view_39 (looseW hd.view_39 []) mean mg mb h₀ → env.frame = some L → env.scope.kind = .function →
    dp + sz < recursionLimit → un + 40 * sz < cLine → Rets h₀ L m needed news R s Q →
    wpAny (model rx.row.prog w) (topA dp un gd env outer) (call (.ref f) vs) Q E s

theorem ctr_use {w : World} {f : Addr} {sz : Nat} {needed : Led} {vs : List Value} {R : Value → Led → Prop} {dp un : Nat} {gd : Option (List Code)} {env : Env} {outer : List Env} {A₀ : Around} {base h₀ : Heap} {L : Addr} {m : Str → Option Value} {mean : ExcName → Option Value} {mg mb : Str → Option Value} {news : Led} {s : Shared} {Q E : Value → Shared → Prop}
    (C : Ctr w f sz needed vs R) (B : Below A₀ base outer h₀) (F : Fr h₀ L s.heap m) (X : (Kq w.params).In h₀) (N : News h₀ L s.heap news) (hsub : ∀ p ∈ needed, p ∈ news) (T : Top hd.view_39 (looseW hd.view_39 []) mean mg mb h₀) (hf : env.frame = some L) (hke : env.scope.kind = .function)
    (hd : dp + sz < recursionLimit) (hu : un + 40 * sz < cLine) (hret : Rets h₀ L m needed news R s Q) :
    wpAny (model rx.row.prog w) (topA dp un gd env outer) (call (.ref f) vs) Q E s := C _ _ _ _ _ _ _ _ _ _ _ _ _ _ _ _ _ B F X N hsub T hf hke hd hu hret
end Mine

end
section
open PySem PySem.W PyProof.Rows PySem.Calls PySem.Spec
set_option Elab.async false
set_option maxRecDepth 100000
set_option maxHeartbeats 8000000
namespace Mine
theorem freshWLoop : True := by w_top off; trivial
section
variable {prog : Program} {w : World} {A : Around} {E : Value → Shared → Prop} {s : Shared} {env : Env} {h₀ : Heap} {x : Str} {body : List Stmt} {Q : Flow → Shared → Prop}

noncomputable def TurnE (h₀ : Heap) (L : Addr) (I : Addr) (oI : Obj) (J : (Str → Option Value) → Led → Prop) (s₁ s₂ : Shared) : Prop :=
  ∃ h' tk m' all nx, s₂ = { s₁ with heap := h', toks := tk } ∧ Fr h₀ L h' m' ∧ News h₀ L h' all ∧ (I, oI) ∈ all ∧ (∀ p ∈ nx, p ∈ all) ∧ (∀ p ∈ nx, p.1 ≠ I) ∧ J m' nx
noncomputable def TurnP (h₀ : Heap) (L : Addr) (I : Addr) (oI : Obj) (J : (Str → Option Value) → Led → Prop) (s₁ : Shared) (Q : Flow → Shared → Prop) (f : Flow) (s₂ : Shared) : Prop :=
  match f with
  | .ret v => Q (.ret v) s₂
  | .brk => Q .next s₂
  | _ => TurnE h₀ L I oI J s₁ s₂
theorem turn_in {L I : Addr} {oI : Obj} {J : (Str → Option Value) → Led → Prop} {s₁ : Shared} {Q : Flow → Shared → Prop} {h' : Heap} {tk : Nat} {m' : Str → Option Value} {all : Led} (nx : Led)
    (F : Fr h₀ L h' m') (N : News h₀ L h' all) (hI : (I, oI) ∈ all) (hs : ∀ p ∈ nx, p ∈ all) (hne : ∀ p ∈ nx, p.1 ≠ I) (hJ : J m' nx) :
    TurnP h₀ L I oI J s₁ Q .next { s₁ with heap := h', toks := tk } := ⟨h', tk, m', all, nx, rfl, F, N, hI, hs, hne, hJ⟩

theorem turn_step {L I : Addr} {oI : Obj} {wr : List Addr} {own : Led} {J : (Str → Option Value) → Led → Prop} {s₁ s₂ : Shared} {f : Flow}
    (hwr : wr = [I]) (hown : ∀ all nx : Led, (I, oI) ∈ all → (∀ p ∈ nx, p ∈ all) → (∃ m', J m' nx) → ∀ p ∈ own, p ∈ all) (h : TurnP h₀ L I oI J s₁ Q f s₂) : LoopStepV h₀ L wr own J s₁ (fun v s' => Q (.ret v) s') (fun s' => Q .next s') f s₂ := by
  subst hwr
  have fin : TurnE h₀ L I oI J s₁ s₂ → LoopStepU h₀ L [I] own J s₁ .next s₂ := by
    rintro ⟨h', tk, m', all, nx, e, F', N', hI, hs, hne, hJ⟩
    refine ⟨rfl, h', tk, m', nx, e, F', fun p hp => N' p ?_, fun p hp hq => hne p hp (List.mem_singleton.mp hq), hJ⟩
    rcases List.mem_append.mp hp with hp | hp
    · exact hown all nx hI hs ⟨m', hJ⟩ p hp
    · exact hs p hp
  cases f with
  | ret v => exact .ret h
  | brk => exact .brk h
  | next => exact .next (fin h)
  | cont => exact .cont (fin h)

theorem loop_range {r : Addr} {a₀ b₀ : Int} {t₀ u₀ v₀ : Tok} {n : Nat} {m₀ : Str → Option Value} {news : Led} (J : Nat → (Str → Option Value) → Led → Prop)
    (hh : A.handled = none) (hr : IsRange s.heap r a₀ b₀ 1 t₀ u₀ v₀) (hsmall : Builtin.Range.small a₀ b₀ 1 = true) (hn : Builtin.Range.rangeSize a₀ b₀ 1 = (n : Int)) (F : Fr h₀ env.locals s.heap m₀) (N : News h₀ env.locals s.heap news) (hj : J 0 m₀ news)
    (turn : ∀ i t m₁ nx I oI h tk, i < n → J i m₁ nx → (∀ p ∈ nx, p.1 ≠ I) → (∀ p ∈ news, p.1 < I) → Fr h₀ env.locals h (fun y => if y = x then some (.int (a₀ + (i : Int)) t) else m₁ y) → News h₀ env.locals h ((I, oI) :: nx) →
      wpAny (model prog w) A (execs body env) (TurnP h₀ env.locals I oI (J (i + 1)) { s with heap := h, toks := tk } Q) E { s with heap := h, toks := tk })
    (done : ∀ m₁ nx h tk, J n m₁ nx → Fr h₀ env.locals h m₁ → News h₀ env.locals h nx → Q .next { s with heap := h, toks := tk }) :
    wpAny (model prog w) A (pyIter (.ref r)) (fun it s₂ => LoopAtV prog w A h₀ env x body Q E it s₂) E s := by
  refine wpAny_pyIter_range hr hsmall ?_
  have W : Walks prog w A s.heap.objs.size [s.heap.objs.size] [s.heap.objs.size] n (fun i v => ∃ t, v = .int (a₀ + i * 1) t)
      (fun i h => IsRangeIter h s.heap.objs.size (a₀ + (i : Nat) * 1) ((n : Int) - (i : Nat)) 1) := Walks.range hh _ a₀ 1 n
  refine ⟨_, _, _, n, _, _, m₀, news, J, rfl, W, ?_, ?_, ?_, by show IsRangeIter _ _ _ _ _; rw [hn]; simpa using Heap.get?_push_size _ rfl, F.push _, (fun p hp => ⟨Heap.get?_push_of_some _ (N p hp).1, (N p hp).2⟩), hj, ?_, ?_⟩
  · intro hm
    exact absurd F.ns.lt ((List.mem_singleton.mp hm) ▸ Nat.lt_irrefl _)
  · intro b hb
    rw [List.mem_singleton.mp hb]
    exact next_is_new F
  · intro p hp hI
    exact absurd (Heap.lt_size (N p hp).1) ((List.mem_singleton.mp hI) ▸ Nat.lt_irrefl _)
  · rintro i v m₁ nx s₁ own ⟨h, tk, rfl⟩ hi ⟨t, rfl⟩ hJ hoff hown _ hall hst F₁ N₁
    obtain ⟨o, ho⟩ : ∃ o, h.get? s.heap.objs.size = some o := ⟨_, hst⟩
    have hio : (s.heap.objs.size, o) ∈ own := hall _ (List.mem_singleton.mpr rfl) (next_is_new F) o ho
    have hone : ∀ p ∈ own, p = (s.heap.objs.size, o) := by
      intro p hp
      have h1 := List.mem_singleton.mp (hown p hp)
      have h2 := (N₁ p (List.mem_append_left _ hp)).1
      rw [h1, ho] at h2
      exact Prod.ext h1 (Option.some.inj h2).symm
    rw [Int.mul_one] at F₁
    refine wpAny_mono (turn i t m₁ nx s.heap.objs.size o h tk hi hJ (fun p hp e => hoff p hp (List.mem_singleton.mpr e)) (fun p hp => Heap.lt_size (N p hp).1) F₁ (fun p hp => ?_)) (fun f s₂ q => turn_step rfl (fun all nx hI _ _ p hp => hone p hp ▸ hI) q) fun _ _ e => e
    rcases List.mem_cons.mp hp with rfl | hp
    · exact N₁ _ (List.mem_append_left _ hio)
    · exact N₁ _ (List.mem_append_right _ hp)
  · rintro h' tk m' nx F' N' _ hJ
    exact done m' nx h' tk hJ F' N'

theorem loop_list {ax : Addr} {oax : Obj} {vs : List Value} {k : Nat} {m₀ : Str → Option Value} {news : Led} (J : Nat → (Str → Option Value) → Led → Prop)
    (hh : A.handled = none) (hm : (ax, oax) ∈ news) (hc : oax.cls = .type "list") (hd : oax.data = .seq vs.toArray k) (F : Fr h₀ env.locals s.heap m₀) (N : News h₀ env.locals s.heap news) (hj : J 0 m₀ news) (hkeep : ∀ i m nx, J i m nx → (ax, oax) ∈ nx)
    (turn : ∀ i v m₁ nx I oI h tk, vs[i]? = some v → J i m₁ nx → (∀ p ∈ nx, p.1 ≠ I) → (∀ p ∈ news, p.1 < I) → Fr h₀ env.locals h (fun y => if y = x then some v else m₁ y) → News h₀ env.locals h ((I, oI) :: nx) →
      wpAny (model prog w) A (execs body env) (TurnP h₀ env.locals I oI (J (i + 1)) { s with heap := h, toks := tk } Q) E { s with heap := h, toks := tk })
    (done : ∀ m₁ nx h tk, J vs.length m₁ nx → Fr h₀ env.locals h m₁ → News h₀ env.locals h nx → Q .next { s with heap := h, toks := tk }) :
    wpAny (model prog w) A (pyIter (.ref ax)) (fun it s₂ => LoopAtV prog w A h₀ env x body Q E it s₂) E s := by
  have hls : s.heap.IsList ax vs.toArray := ⟨oax, (N _ hm).1, hc, k, hd⟩
  have hlt : ax < s.heap.objs.size := Heap.lt_size (N _ hm).1
  have hne : ax ≠ s.heap.objs.size := Nat.ne_of_lt hlt
  refine wpAny_pyIter_list hls ?_
  have W := Walks.list (prog := prog) (w := w) hh s.heap.objs.size ax hne vs.toArray
  have hlen : vs.toArray.size = vs.length := by simp
  rw [hlen] at W
  refine ⟨_, _, _, vs.length, _, _, m₀, news, J, rfl, W, ?_, ?_, ?_, ⟨⟨_, Heap.get?_push_size _ rfl, rfl, rfl⟩, hls.at fun o e => Heap.get?_push_of_some _ e⟩, F.push _, (fun p hp => ⟨Heap.get?_push_of_some _ (N p hp).1, (N p hp).2⟩), hj, ?_, ?_⟩
  · intro hm'
    rcases List.mem_cons.mp hm' with e | hm'
    · exact absurd F.ns.lt (e ▸ Nat.lt_irrefl _)
    · exact (N _ hm).2.1 (List.mem_singleton.mp hm').symm
  · intro b hb
    rw [List.mem_singleton.mp hb]
    exact next_is_new F
  · intro p hp hI
    exact absurd (Heap.lt_size (N p hp).1) ((List.mem_singleton.mp hI) ▸ Nat.lt_irrefl _)
  · rintro i v m₁ nx s₁ own ⟨h, tk, rfl⟩ hi hP hJ hoff hown _ hall hst F₁ N₁
    obtain ⟨⟨o, ho, _⟩, _⟩ := hst
    have hio : (s.heap.objs.size, o) ∈ own := hall _ (List.mem_cons_self) (next_is_new F) o ho
    have hone : ∀ p ∈ own, p = (s.heap.objs.size, o) ∨ p = (ax, oax) := by
      intro p hp
      have h2 := (N₁ p (List.mem_append_left _ hp)).1
      rcases List.mem_cons.mp (hown p hp) with h1 | h1
      · rw [h1, ho] at h2
        exact .inl (Prod.ext h1 (Option.some.inj h2).symm)
      · have h1 := List.mem_singleton.mp h1
        rw [h1, (N₁ (ax, oax) (List.mem_append_right _ (hkeep _ _ _ hJ))).1] at h2
        exact .inr (Prod.ext h1 (Option.some.inj h2).symm)
    refine wpAny_mono (turn i v m₁ nx s.heap.objs.size o h tk (by simpa using hP) hJ (fun p hp e => hoff p hp (List.mem_singleton.mpr e)) (fun p hp => Heap.lt_size (N p hp).1) F₁ (fun p hp => ?_)) (fun f s₂ q => turn_step rfl (fun all nx hI hs hJ' p hp => ?_) q) fun _ _ e => e
    · rcases List.mem_cons.mp hp with rfl | hp
      · exact N₁ _ (List.mem_append_left _ hio)
      · exact N₁ _ (List.mem_append_right _ hp)
    · rcases hone p hp with rfl | rfl
      · exact hI
      · obtain ⟨m', hJ'⟩ := hJ'
        exact hs _ (hkeep _ _ _ hJ')
  · rintro h' tk m' nx F' N' _ hJ
    exact done m' nx h' tk hJ F' N'

abbrev Rest (stored : List Str) (u m₀ : Str → Option Value) : Str → Option Value := fun z => if stored.contains z then u z else m₀ z
noncomputable def SJ {σ : Type} (Le : σ → Led) (ps : σ → List (Str × Value)) (stored : List Str) (m₀ : Str → Option Value) (P : σ → Prop) (m : Str → Option Value) (nx : Led) : Prop :=
  ∃ c : σ, nx = Le c ∧ P c ∧ (∀ p ∈ ps c, m p.1 = some p.2) ∧ (∀ z, (∀ p ∈ ps c, z ≠ p.1) → stored.contains z = false → m z = m₀ z)
theorem sj_fr {σ : Type} {ps : σ → List (Str × Value)} {stored : List Str} {m₀ m₁ : Str → Option Value} {c : σ} (h1 : ∀ p ∈ ps c, m₁ p.1 = some p.2) (h2 : ∀ z, (∀ p ∈ ps c, z ≠ p.1) → stored.contains z = false → m₁ z = m₀ z) :
    m₁ = kstB (Rest stored m₁ m₀) (ps c) := by
  funext y
  refine (kstB_eq h1 fun hn => ?_).symm
  show (if stored.contains y = true then m₁ y else m₀ y) = m₁ y
  cases h3 : stored.contains y with
  | true => simp
  | false => simp only [Bool.false_eq_true, if_false]; exact (h2 y hn h3).symm

theorem sloop_range {σ : Type} {r : Addr} {a₀ b₀ : Int} {t₀ u₀ v₀ : Tok} {n : Nat} {m₀ : Str → Option Value} {news : Led} (Le : σ → Led) (ps : σ → List (Str × Value)) (stored : List Str) (P : Nat → σ → Prop)
    (hh : A.handled = none) (hr : IsRange s.heap r a₀ b₀ 1 t₀ u₀ v₀) (hsmall : Builtin.Range.small a₀ b₀ 1 = true) (hn : Builtin.Range.rangeSize a₀ b₀ 1 = (n : Int)) (F : Fr h₀ env.locals s.heap m₀) (N : News h₀ env.locals s.heap news) (h0 : SJ Le ps stored m₀ (P 0) m₀ news)
    (turn : ∀ i c t u I oI h tk, i < n → P i c → (∀ p ∈ Le c, p.1 ≠ I) → (∀ p ∈ news, p.1 < I) → Fr h₀ env.locals h (fun y => if y = x then some (.int (a₀ + (i : Int)) t) else kstB (Rest stored u m₀) (ps c) y) → News h₀ env.locals h ((I, oI) :: Le c) →
      wpAny (model prog w) A (execs body env) (TurnP h₀ env.locals I oI (SJ Le ps stored m₀ (P (i + 1))) { s with heap := h, toks := tk } Q) E { s with heap := h, toks := tk })
    (done : ∀ c u h tk, P n c → Fr h₀ env.locals h (kstB (Rest stored u m₀) (ps c)) → News h₀ env.locals h (Le c) → Q .next { s with heap := h, toks := tk }) :
    wpAny (model prog w) A (pyIter (.ref r)) (fun it s₂ => LoopAtV prog w A h₀ env x body Q E it s₂) E s := by
  refine loop_range (fun i => SJ Le ps stored m₀ (P i)) hh hr hsmall hn F N h0 ?_ ?_
  · rintro i t m₁ nx I oI h tk hi ⟨c, rfl, hc, h1, h2⟩ hne hlt F₁ N₁
    have e := sj_fr h1 h2
    have F₂ : Fr h₀ env.locals h (fun y => if y = x then some (.int (a₀ + (i : Int)) t) else kstB (Rest stored m₁ m₀) (ps c) y) := e ▸ F₁
    exact turn i c t m₁ I oI h tk hi hc hne hlt F₂ N₁
  · rintro m₁ nx h tk ⟨c, rfl, hc, h1, h2⟩ F₁ N₁
    have e := sj_fr h1 h2
    exact done c m₁ h tk hc (e ▸ F₁) N₁

theorem sloop_list {σ : Type} {ax : Addr} {oax : Obj} {vs : List Value} {k : Nat} {m₀ : Str → Option Value} {news : Led} (Le : σ → Led) (ps : σ → List (Str × Value)) (stored : List Str) (P : Nat → σ → Prop)
    (hh : A.handled = none) (hkeep : ∀ c, (ax, oax) ∈ Le c) (hc : oax.cls = .type "list") (hd : oax.data = .seq vs.toArray k) (F : Fr h₀ env.locals s.heap m₀) (N : News h₀ env.locals s.heap news) (h0 : SJ Le ps stored m₀ (P 0) m₀ news)
    (turn : ∀ i c v u I oI h tk, vs[i]? = some v → P i c → (∀ p ∈ Le c, p.1 ≠ I) → (∀ p ∈ news, p.1 < I) → Fr h₀ env.locals h (fun y => if y = x then some v else kstB (Rest stored u m₀) (ps c) y) → News h₀ env.locals h ((I, oI) :: Le c) →
      wpAny (model prog w) A (execs body env) (TurnP h₀ env.locals I oI (SJ Le ps stored m₀ (P (i + 1))) { s with heap := h, toks := tk } Q) E { s with heap := h, toks := tk })
    (done : ∀ c u h tk, P vs.length c → Fr h₀ env.locals h (kstB (Rest stored u m₀) (ps c)) → News h₀ env.locals h (Le c) → Q .next { s with heap := h, toks := tk }) :
    wpAny (model prog w) A (pyIter (.ref ax)) (fun it s₂ => LoopAtV prog w A h₀ env x body Q E it s₂) E s := by
  refine loop_list (fun i => SJ Le ps stored m₀ (P i)) hh (by obtain ⟨c, rfl, _⟩ := h0; exact hkeep c) hc hd F N h0 ?_ ?_ ?_
  · rintro i m nx ⟨c, rfl, _⟩
    exact hkeep c
  · rintro i v m₁ nx I oI h tk hi ⟨c, rfl, hc, h1, h2⟩ hne hlt F₁ N₁
    have e := sj_fr h1 h2
    have F₂ : Fr h₀ env.locals h (fun y => if y = x then some v else kstB (Rest stored m₁ m₀) (ps c) y) := e ▸ F₁
    exact turn i c v m₁ I oI h tk hi hc hne hlt F₂ N₁
  · rintro m₁ nx h tk ⟨c, rfl, hc, h1, h2⟩ F₁ N₁
    have e := sj_fr h1 h2
    exact done c m₁ h tk hc (e ▸ F₁) N₁
theorem sturn_in {σ : Type} {L I : Addr} {oI : Obj} {s₁ : Shared} {Q : Flow → Shared → Prop} {h' : Heap} {tk : Nat} {m' m₀ : Str → Option Value} {all : Led} {Le : σ → Led} {ps : σ → List (Str × Value)} {stored : List Str} {P : σ → Prop} (c : σ)
    (F : Fr h₀ L h' m') (N : News h₀ L h' all) (hI : (I, oI) ∈ all) (hs : ∀ p ∈ Le c, p ∈ all) (hne : ∀ p ∈ Le c, p.1 ≠ I) (hP : P c) (h1 : ∀ p ∈ ps c, m' p.1 = some p.2) (h2 : ∀ z, (∀ p ∈ ps c, z ≠ p.1) → stored.contains z = false → m' z = m₀ z) :
    TurnP h₀ L I oI (SJ Le ps stored m₀ P) s₁ Q .next { s₁ with heap := h', toks := tk } := turn_in (Le c) F N hI hs hne ⟨c, rfl, hP, h1, h2⟩
end
section
variable {prog : Program} {w : World} {A : Around} {h₀ : Heap} {L : Addr} {m : Str → Option Value} {env : Env} {elt : Expr} {x : Str} {scope : Scope} {cl : List (Str × Addr)} {s : Shared} {S : Led → Prop} {P : Nat → Value → Prop} {Fin : List Value → Led → Prop} {news : Led}
theorem comp_inv {n : Nat} (K : Nat → List Value → Led → Prop) (h0 : K 0 [] news)
    (turn : ∀ i v ys nw I oI C oC D m₂ h tk (E' : Value → Shared → Prop), i < n → P i v → K i ys nw → LCg.NsObj oC m₂ → m₂ x = some v → Fr h₀ L h m → News h₀ L h ((I, oI) :: (C, oC) :: (D, LCg.lst ys) :: nw) → LCg.Off3 I C D nw → ((@Ne Nat I C) ∧ (@Ne Nat I D) ∧ (@Ne Nat C D)) →
      wpAny (model prog w) A (eval elt (compEnvC scope cl C env)) (LCg.CompEnd h₀ L m { s with heap := h, toks := tk } I oI C oC D (LCg.lst ys) S (fun y nw' => K (i + 1) (ys ++ [y]) nw')) E' { s with heap := h, toks := tk })
    (fin : ∀ ys nw, K n ys nw → Fin ys nw) : LCg.CompRest prog w A h₀ L m env elt x scope cl s S P Fin n 0 [] news := by
  have key : ∀ (j i : Nat) (ys : List Value) (nw : Led), i + j = n → K i ys nw → LCg.CompRest prog w A h₀ L m env elt x scope cl s S P Fin j i ys nw := by
    intro j
    induction j with
    | zero =>
      intro i ys nw hi hy
      have e : i = n := by omega
      subst e
      exact LCg.CompRest.zero (fin ys nw hy)
    | succ j ih =>
      intro i ys nw hi hy
      refine LCg.CompRest.succ ?_
      intro v I oI C oC D m₂ h tk E' hv hC hx F N off ne
      refine wpAny_mono (turn i v ys nw I oI C oC D m₂ h tk E' (by omega) hv hy hC hx F N off ne) (fun y s₂ hq => ?_) fun _ _ e => e
      obtain ⟨h', tk', nw', e, F', N', off', hS, hk⟩ := hq
      exact ⟨h', tk', nw', e, F', N', off', hS, ih (i + 1) _ _ (by omega) hk⟩
  exact key n 0 [] news (by omega) h0
theorem comp_end {L I C D : Addr} {s₁ : Shared} {oI oC oD : Obj} {rest : Value → Led → Prop} {y : Value} {h' : Heap} {tk : Nat} {all : Led} (nw' : Led)
    (F : Fr h₀ L h' m) (N : News h₀ L h' all) (sub : ∀ p ∈ (I, oI) :: (C, oC) :: (D, oD) :: nw', p ∈ all) (off : LCg.Off3 I C D nw') (hS : S nw') (r : rest y nw') :
    LCg.CompEnd h₀ L m s₁ I oI C oC D oD S rest y { s₁ with heap := h', toks := tk } := ⟨h', tk, nw', rfl, F, fun p hp => N p (sub p hp), off, hS, r⟩
end
theorem strs_snoc {y : Str} {t : Tok} : ∀ {vs : List Value} {ys : List Str}, StrsAre vs ys → StrsAre (vs ++ [.str y t]) (ys ++ [y])
  | _, _, .nil => .cons y t .nil
  | _, _, .cons z u r => .cons z u (strs_snoc r)
theorem ints_snoc {y : Int} {t : Tok} {vs : List Value} {ys : List Int} (h : IntsAre vs ys) : IntsAre (vs ++ [.int y t]) (ys ++ [y]) := IntsAre.append h (.cons y t .nil)
theorem map_next {α : Type} {g : Int → α} {a₀ : Int} {i : Nat} : (rangeKs a₀ (i + 1)).map g = (rangeKs a₀ i).map g ++ [g (a₀ + (i : Int))] := by
  rw [rangeKs, rangeKs, List.range_succ, List.map_append, List.map_append]; rfl
theorem fmod3 (x : Int) : 0 ≤ x.fmod 3 ∧ x.fmod 3 < 3 := ⟨Int.fmod_nonneg_of_pos x (by decide), Int.fmod_lt_of_pos x (by decide)⟩
theorem rangeKs_succ (a : Int) (n : Nat) : rangeKs a (n + 1) = rangeKs a n ++ [a + (n : Int)] := by simp [rangeKs, List.range_succ]
theorem range_n {a b : Int} {n : Nat} (h : b = a + (n : Int)) : Builtin.Range.rangeSize a b 1 = (n : Int) := by
  rw [PyProof.Rows.rangeSize_nat]; omega
theorem fold_next {f : Int → Int → Int} {a₀ z a v : Int} {i : Nat} (h : a = (rangeKs a₀ i).foldl f z) (e : v = f a (a₀ + (i : Int))) : v = (rangeKs a₀ (i + 1)).foldl f z := by
  rw [e, h, rangeKs, rangeKs, List.range_succ, List.map_append, List.foldl_append]; rfl

section
variable {prog : Program} {w : World} {A : Around} {E : Value → Shared → Prop} {s : Shared} {env : Env} {h₀ : Heap} {L : Addr} {body : List Stmt} {Q : Flow → Shared → Prop}
noncomputable def WhlE (h₀ : Heap) (L : Addr) (J : (Str → Option Value) → Led → Prop) (s₁ s₂ : Shared) : Prop :=
  ∃ h' tk m' all nx, s₂ = { s₁ with heap := h', toks := tk } ∧ Fr h₀ L h' m' ∧ News h₀ L h' all ∧ (∀ p ∈ nx, p ∈ all) ∧ J m' nx
noncomputable def WhlP (h₀ : Heap) (L : Addr) (J : (Str → Option Value) → Led → Prop) (s₁ : Shared) (Q : Flow → Shared → Prop) (f : Flow) (s₂ : Shared) : Prop :=
  match f with
  | .ret v => Q (.ret v) s₂
  | .brk => Q .next s₂
  | _ => WhlE h₀ L J s₁ s₂
theorem whl_in {J : (Str → Option Value) → Led → Prop} {s₁ : Shared} {h' : Heap} {tk : Nat} {m' : Str → Option Value} {all : Led} (nx : Led)
    (F : Fr h₀ L h' m') (N : News h₀ L h' all) (hs : ∀ p ∈ nx, p ∈ all) (hJ : J m' nx) :
    WhlP h₀ L J s₁ Q .next { s₁ with heap := h', toks := tk } := ⟨h', tk, m', all, nx, rfl, F, N, hs, hJ⟩
theorem swhile {σ : Type} {test : Expr} {pos : Pos} {m₀ : Str → Option Value} {news : Led} (Le : σ → Led) (ps : σ → List (Str × Value)) (stored : List Str) (P : σ → Prop) (μ : σ → Nat)
    (F : Fr h₀ L s.heap m₀) (N : News h₀ L s.heap news) (h0 : SJ Le ps stored m₀ P m₀ news)
    (turn : ∀ c u h tk, P c → Fr h₀ L h (kstB (Rest stored u m₀) (ps c)) → News h₀ L h (Le c) →
      wpAny (model prog w) A (isTrue test env (eval test env)) (fun b s₂ =>
        if b = true then wpAny (model prog w) A (execs body env) (WhlP h₀ L (SJ Le ps stored m₀ (fun c' => P c' ∧ μ c' < μ c)) { s with heap := h, toks := tk } Q) E s₂ else Q .next s₂) E { s with heap := h, toks := tk })
    (hE : PassesOwn (model prog w) A env E) :
    wpAny (model prog w) A (exec (.While test body [] pos) env) Q E s := by
  obtain ⟨c₀, hn, hp, hk, hr⟩ := h0
  refine While_inv2 (fun n m nx => ∃ c : σ, μ c = n ∧ nx = Le c ∧ P c ∧ (∀ p ∈ ps c, m p.1 = some p.2) ∧ (∀ z, (∀ p ∈ ps c, z ≠ p.1) → stored.contains z = false → m z = m₀ z)) F N ⟨c₀, rfl, hn, hp, hk, hr⟩ ?_ hE
  rintro n m₁ nx h tk F₁ N₁ ⟨c, rfl, rfl, hp', h1, h2⟩
  have e := sj_fr h1 h2
  refine wpAny_mono (turn c m₁ h tk hp' (e ▸ F₁) N₁) (fun b s₂ p => ?_) fun _ _ x => x
  cases b with
  | false => simpa using p
  | true =>
    simp only [if_true] at p ⊢
    refine wpAny_mono p (fun f s₃ q => ?_) fun _ _ x => x
    have fin : WhlE h₀ L (SJ Le ps stored m₀ (fun c' => P c' ∧ μ c' < μ c)) { s with heap := h, toks := tk } s₃ → WhileStep2 h₀ L s (fun n m nx => ∃ c : σ, μ c = n ∧ nx = Le c ∧ P c ∧ (∀ p ∈ ps c, m p.1 = some p.2) ∧ (∀ z, (∀ p ∈ ps c, z ≠ p.1) → stored.contains z = false → m z = m₀ z)) Q (μ c) .next s₃ := by
      rintro ⟨h', tk', m', all, nx, rfl, F', N', hs, c', rfl, ⟨hp9, hm9⟩, hk9, hr9⟩
      exact ⟨h', tk', m', Le c', μ c', rfl, F', fun p hp => N' p (hs p hp), hm9, c', rfl, rfl, hp9, hk9, hr9⟩
    cases f with
    | ret v => exact q
    | brk => exact q
    | next => exact fin q
    | cont => exact fin q
end

section
variable {prog : Program} {w : World} {A : Around} {s : Shared} {env : Env} {h₀ : Heap} {L : Addr} {target : Expr} {body : List Stmt} {Q : Flow → Shared → Prop}
abbrev NoE : Value → Shared → Prop := fun _ _ => False
noncomputable def LoopG (prog : Program) (w : World) (A : Around) (env : Env) (target : Expr) (body : List Stmt) (Q : Flow → Shared → Prop) (it : Value) (s : Shared) : Prop :=
  codeAny (model prog w) A (.forLoop target it body [] env) (fun r s' => match r with | .ok f => Q f s' | .error e => cameBackBy (model prog w) A env NoE e s') s
theorem gfor {iter : Expr} {pos : Pos}
    (h : wpAny (model prog w) A (eval iter env) (fun xv s₁ => wpAny (model prog w) A (pyIter xv) (fun it s₂ => LoopG prog w A env target body Q it s₂) NoE s₁) NoE s)
    (hs : ∀ x, foldedSetIterable iter env x = pure x) :
    wpAny (model prog w) A (exec (.For target iter body [] pos) env) Q NoE s := wpAny_For h hs
theorem gloop {I : Addr} {fp : List Addr} {n : Nat} {P : Nat → Value → Prop} {St : Nat → Heap → Prop} {m : Str → Option Value} {news src : Led} (J : Nat → (Str → Option Value) → Led → Prop)
    (W : Walks prog w A I fp [I] n P St) (hob : ∀ i h, St i h → ∃ o, h.get? I = some o) (hLf : env.locals ∉ fp) (hI0 : h₀.get? I = none)
    (hfp : ∀ b ∈ fp, b = I ∨ (∃ q, h₀.get? b = some q) ∨ ∃ o, (b, o) ∈ src) (hsrc : ∀ i m nx, J i m nx → ∀ p ∈ src, p ∈ nx)
    (hst : St 0 s.heap) (F : Fr h₀ env.locals s.heap m) (N : News h₀ env.locals s.heap news) (hne : ∀ p ∈ news, p.1 ≠ I) (hj : J 0 m news)
    (ht : ∀ v, letOwnedTupleGo target (.ref I) v = pure ())
    (turn : ∀ i v m₁ nx oI h tk, i < n → P i v → J i m₁ nx → (∀ p ∈ nx, p.1 ≠ I) → Fr h₀ env.locals h m₁ → News h₀ env.locals h ((I, oI) :: nx) →
      wpAny (model prog w) A (assign target env v) (fun _ s₂ => wpAny (model prog w) A (execs body env) (TurnP h₀ env.locals I oI (J (i + 1)) { s with heap := h, toks := tk } Q) NoE s₂) NoE { s with heap := h, toks := tk })
    (done : ∀ m₁ nx h tk, J n m₁ nx → Fr h₀ env.locals h m₁ → News h₀ env.locals h nx → Q .next { s with heap := h, toks := tk }) :
    LoopG prog w A env target body Q (.ref I) s := by
  have hIL : env.locals ≠ I := fun e => by obtain ⟨o, ho⟩ := hob _ _ hst; exact hLf (e ▸ W.sub _ (List.mem_singleton.mpr rfl))
  have hE := PassesOwn.never (M := model prog w) (A := A) (env := env)
  refine codeAny_forLoop
    (fun k s' => ∃ h' tk m' nx i, s' = { s with heap := h', toks := tk } ∧ St i h' ∧ Fr h₀ env.locals h' m' ∧ News h₀ env.locals h' nx ∧ (∀ p ∈ nx, p.1 ≠ I) ∧ J i m' nx ∧ i ≤ n ∧ k = n + 1 - i) ?_ (n + 1)
    ⟨s.heap, s.toks, m, news, 0, rfl, hst, F, N, hne, hj, Nat.zero_le _, rfl⟩ ht
  rintro k s' ⟨h', tk, m', nx, i, rfl, hst', F', N', hne', hJ, hi, rfl⟩
  have next : ∀ h₁ : Heap, (∀ b o, b ∉ [I] → h'.get? b = some o → h₁.get? b = some o) → Fr h₀ env.locals h₁ m' ∧ News h₀ env.locals h₁ nx := fun h₁ hk₁ =>
    ⟨⟨F'.ns.at' fun o e => hk₁ _ o (fun hm => hIL (List.mem_singleton.mp hm)) e, fun b o e => hk₁ b o (fun hm => by rw [List.mem_singleton.mp hm, hI0] at e; cases e) (F'.keep b o e), F'.above⟩,
      fun p hp => ⟨hk₁ _ _ (fun hm => hne' p hp (List.mem_singleton.mp hm)) (N' p hp).1, (N' p hp).2⟩⟩
  by_cases hlt : i < n
  · refine W.item i _ _ _ hlt hst' fun v h₁ tk₁ hP hst₁ hk₁ => ?_
    obtain ⟨F₁, N₁⟩ := next h₁ hk₁
    obtain ⟨oI, hoI⟩ := hob _ _ hst₁
    have N₂ : News h₀ env.locals h₁ ((I, oI) :: nx) := by
      intro p hp
      rcases List.mem_cons.mp hp with rfl | hp
      · exact ⟨hoI, fun e => hIL e.symm, hI0⟩
      · exact N₁ p hp
    refine wpAny_mono (turn i v m' nx oI h₁ tk₁ hlt hP hJ hne' F₁ N₂) (fun _ s₂ h₂ => wpAny_mono h₂ (fun f s₃ h₃ => ?_) fun _ _ e => e.elim) fun _ _ e => e.elim
    have fin : TurnE h₀ env.locals I oI (J (i + 1)) { s with heap := h₁, toks := tk₁ } s₃ → ∃ m_1, m_1 < n + 1 - i ∧ ∃ h' tk m' nx j, s₃ = { s with heap := h', toks := tk } ∧ St j h' ∧ Fr h₀ env.locals h' m' ∧ News h₀ env.locals h' nx ∧ (∀ p ∈ nx, p.1 ≠ I) ∧ J j m' nx ∧ j ≤ n ∧ m_1 = n + 1 - j := by
      rintro ⟨h₃', tk₃, m₃, all, nx₃, rfl, F₃, N₃, hI, hs, hne₃, hJ₃⟩
      refine ⟨n + 1 - (i + 1), by omega, h₃', tk₃, m₃, nx₃, i + 1, rfl, ?_, F₃, fun p hp => N₃ p (hs p hp), hne₃, hJ₃, hlt, rfl⟩
      refine W.frame _ _ _ hst₁ fun b hb o e => ?_
      rcases hfp b hb with rfl | ⟨q, hq⟩ | ⟨o', ho'⟩
      · rw [hoI] at e; cases e; exact (N₃ _ hI).1
      · have : q = o := by have := F₁.keep b q hq; rw [e] at this; exact (Option.some.inj this).symm
        exact this ▸ F₃.keep b q hq
      · have h1 := (N₁ _ (hsrc _ _ _ hJ _ ho')).1
        rw [e] at h1; cases h1
        exact (N₃ _ (hs _ (hsrc _ _ _ hJ₃ _ ho'))).1
    cases f with
    | ret v => exact h₃
    | brk => exact h₃
    | cont => exact fin h₃
    | next => exact fin h₃
  · have hin : i = n := by omega
    subst hin
    refine W.done _ _ _ hst' fun h₁ tk₁ hk₁ => wpAny_execs_nil ?_
    obtain ⟨F₁, N₁⟩ := next h₁ hk₁
    exact done m' nx h₁ tk₁ hJ F₁ N₁

theorem gloop_range {σ : Type} {r : Addr} {a₀ b₀ : Int} {t₀ u₀ v₀ : Tok} {n : Nat} {m₀ : Str → Option Value} {news : Led} (Le : σ → Led) (ps : σ → List (Str × Value)) (stored : List Str) (P : Nat → σ → Prop)
    (hh : A.handled = none) (hr : IsRange s.heap r a₀ b₀ 1 t₀ u₀ v₀) (hsmall : Builtin.Range.small a₀ b₀ 1 = true) (hn : Builtin.Range.rangeSize a₀ b₀ 1 = (n : Int)) (F : Fr h₀ env.locals s.heap m₀) (N : News h₀ env.locals s.heap news) (h0 : SJ Le ps stored m₀ (P 0) m₀ news)
    (ht : ∀ I v, letOwnedTupleGo target (.ref I) v = pure ())
    (turn : ∀ i c t u I oI h tk, i < n → P i c → (∀ p ∈ Le c, p.1 ≠ I) → (∀ p ∈ news, p.1 < I) → Fr h₀ env.locals h (kstB (Rest stored u m₀) (ps c)) → News h₀ env.locals h ((I, oI) :: Le c) →
      wpAny (model prog w) A (assign target env (.int (a₀ + (i : Int)) t)) (fun _ s₂ => wpAny (model prog w) A (execs body env) (TurnP h₀ env.locals I oI (SJ Le ps stored m₀ (P (i + 1))) { s with heap := h, toks := tk } Q) NoE s₂) NoE { s with heap := h, toks := tk })
    (done : ∀ c u h tk, P n c → Fr h₀ env.locals h (kstB (Rest stored u m₀) (ps c)) → News h₀ env.locals h (Le c) → Q .next { s with heap := h, toks := tk }) :
    wpAny (model prog w) A (pyIter (.ref r)) (fun it s₂ => LoopG prog w A env target body Q it s₂) NoE s := by
  refine wpAny_pyIter_range hr hsmall ?_
  have W : Walks prog w A s.heap.objs.size [s.heap.objs.size] [s.heap.objs.size] n (fun i v => ∃ t, v = .int (a₀ + i * 1) t)
      (fun i h => IsRangeIter h s.heap.objs.size (a₀ + (i : Nat) * 1) ((n : Int) - (i : Nat)) 1) := Walks.range hh _ a₀ 1 n
  refine gloop (src := []) (news := news) (fun i => SJ Le ps stored m₀ (P i)) W (fun i h st => ⟨_, st⟩) ?_ (next_is_new F) (fun b hb => .inl (List.mem_singleton.mp hb)) (fun _ _ _ _ p hp => nomatch hp) (by show IsRangeIter _ _ _ _ _; rw [hn]; simpa using Heap.get?_push_size _ rfl)
    (F.push _) (fun p hp => ⟨Heap.get?_push_of_some _ (N p hp).1, (N p hp).2⟩) (fun p hp => Nat.ne_of_lt (Heap.lt_size (N p hp).1)) h0 (ht _) ?_ ?_
  · intro hm
    exact absurd F.ns.lt ((List.mem_singleton.mp hm) ▸ Nat.lt_irrefl _)
  · rintro i v m₁ nx oI h tk hi ⟨t, rfl⟩ ⟨c, rfl, hc, h1, h2⟩ hne F₁ N₁
    rw [Int.mul_one]
    exact turn i c t m₁ _ oI h tk hi hc hne (fun p hp => Heap.lt_size (N p hp).1) (sj_fr h1 h2 ▸ F₁) N₁
  · rintro m₁ nx h tk ⟨c, rfl, hc, h1, h2⟩ F₁ N₁
    exact done c m₁ h tk hc (sj_fr h1 h2 ▸ F₁) N₁

theorem gloop_list {σ : Type} {ax : Addr} {oax : Obj} {vs : List Value} {k : Nat} {m₀ : Str → Option Value} {news : Led} (Le : σ → Led) (ps : σ → List (Str × Value)) (stored : List Str) (P : Nat → σ → Prop)
    (hh : A.handled = none) (hkeep : ∀ c, (ax, oax) ∈ Le c) (hc : oax.cls = .type "list") (hd : oax.data = .seq vs.toArray k) (F : Fr h₀ env.locals s.heap m₀) (N : News h₀ env.locals s.heap news) (h0 : SJ Le ps stored m₀ (P 0) m₀ news)
    (ht : ∀ I v, letOwnedTupleGo target (.ref I) v = pure ())
    (turn : ∀ i c v u I oI h tk, vs[i]? = some v → P i c → (∀ p ∈ Le c, p.1 ≠ I) → (∀ p ∈ news, p.1 < I) → Fr h₀ env.locals h (kstB (Rest stored u m₀) (ps c)) → News h₀ env.locals h ((I, oI) :: Le c) →
      wpAny (model prog w) A (assign target env v) (fun _ s₂ => wpAny (model prog w) A (execs body env) (TurnP h₀ env.locals I oI (SJ Le ps stored m₀ (P (i + 1))) { s with heap := h, toks := tk } Q) NoE s₂) NoE { s with heap := h, toks := tk })
    (done : ∀ c u h tk, P vs.length c → Fr h₀ env.locals h (kstB (Rest stored u m₀) (ps c)) → News h₀ env.locals h (Le c) → Q .next { s with heap := h, toks := tk }) :
    wpAny (model prog w) A (pyIter (.ref ax)) (fun it s₂ => LoopG prog w A env target body Q it s₂) NoE s := by
  have hm : (ax, oax) ∈ news := by obtain ⟨c, rfl, _⟩ := h0; exact hkeep c
  have hls : s.heap.IsList ax vs.toArray := ⟨oax, (N _ hm).1, hc, k, hd⟩
  have hlt : ax < s.heap.objs.size := Heap.lt_size (N _ hm).1
  have hne : ax ≠ s.heap.objs.size := Nat.ne_of_lt hlt
  refine wpAny_pyIter_list hls ?_
  have W := Walks.list (prog := prog) (w := w) hh s.heap.objs.size ax hne vs.toArray
  have hlen : vs.toArray.size = vs.length := by simp
  rw [hlen] at W
  refine gloop (src := [(ax, oax)]) (news := news) (fun i => SJ Le ps stored m₀ (P i)) W (fun i h st => by obtain ⟨⟨o, ho, _⟩, _⟩ := st; exact ⟨o, ho⟩) ?_ (next_is_new F) (fun b hb => ?_) ?_ ⟨⟨_, Heap.get?_push_size _ rfl, rfl, rfl⟩, hls.at fun o e => Heap.get?_push_of_some _ e⟩
    (F.push _) (fun p hp => ⟨Heap.get?_push_of_some _ (N p hp).1, (N p hp).2⟩) (fun p hp => Nat.ne_of_lt (Heap.lt_size (N p hp).1)) h0 (ht _) ?_ ?_
  · intro hm'
    rcases List.mem_cons.mp hm' with e | hm'
    · exact absurd F.ns.lt (e ▸ Nat.lt_irrefl _)
    · exact (N _ hm).2.1 (List.mem_singleton.mp hm').symm
  · rcases List.mem_cons.mp hb with e | hb
    · exact .inl e
    · exact .inr (.inr ⟨oax, by rw [List.mem_singleton.mp hb]; exact List.mem_singleton.mpr rfl⟩)
  · rintro i m nx ⟨c, rfl, _⟩ p hp
    rw [List.mem_singleton.mp hp]; exact hkeep c
  · rintro i v m₁ nx oI h tk hi hP ⟨c, rfl, hc, h1, h2⟩ hne F₁ N₁
    exact turn i c v m₁ _ oI h tk (by simpa using hP) hc hne (fun p hp => Heap.lt_size (N p hp).1) (sj_fr h1 h2 ▸ F₁) N₁
  · rintro m₁ nx h tk ⟨c, rfl, hc, h1, h2⟩ F₁ N₁
    exact done c m₁ h tk hc (sj_fr h1 h2 ▸ F₁) N₁
end

section
variable {prog : Program} {w : World} {A : Around} {s : Shared} {env : Env} {h₀ : Heap} {L : Addr} {Q : Flow → Shared → Prop}
noncomputable def CutE (h₀ : Heap) (L : Addr) (J : (Str → Option Value) → Led → Prop) (s₁ : Shared) (f : Flow) (s₂ : Shared) : Prop := f = .next ∧ WhlE h₀ L J s₁ s₂
theorem cut_in {J : (Str → Option Value) → Led → Prop} {s₁ : Shared} {h' : Heap} {tk : Nat} {m' : Str → Option Value} {all : Led} (nx : Led)
    (F : Fr h₀ L h' m') (N : News h₀ L h' all) (hs : ∀ p ∈ nx, p ∈ all) (hJ : J m' nx) : CutE h₀ L J s₁ .next { s₁ with heap := h', toks := tk } := ⟨rfl, h', tk, m', all, nx, rfl, F, N, hs, hJ⟩
theorem cut {σ : Type} {st : Stmt} {m₀ : Str → Option Value} (Le : σ → Led) (ps : σ → List (Str × Value)) (stored : List Str) (P : σ → Prop) (_F : Fr h₀ L s.heap m₀)
    (h : wpAny (model prog w) A (exec st env) (CutE h₀ L (SJ Le ps stored m₀ P) s) NoE s)
    (k : ∀ c u h tk, P c → Fr h₀ L h (kstB (Rest stored u m₀) (ps c)) → News h₀ L h (Le c) → Q .next { s with heap := h, toks := tk }) :
    wpAny (model prog w) A (exec st env) Q NoE s :=
  wpAny_mono h (fun f s₂ q => by
    obtain ⟨rfl, h', tk, m', all, nx, rfl, F', N', hs, c, rfl, hc, h1, h2⟩ := q
    exact k c m' h' tk hc (sj_fr h1 h2 ▸ F') fun p hp => N' p (hs p hp)) fun _ _ e => e.elim
end

theorem isL {h₀ h : Heap} {L l : Addr} {news : Led} {its : Array Value} {n : Nat} (N : News h₀ L h news) (hm : (l, listOf its n) ∈ news) : h.IsList l its := ⟨_, (N _ hm).1, rfl, _, rfl⟩

section
variable {prog : Program} {w : World} {A : Around} {E : Value → Shared → Prop} {s : Shared} {h₀ : Heap} {L : Addr} {m : Str → Option Value} {Q : Value → Shared → Prop} {news : Led}
theorem ints_of_carried : ∀ {ys : List Value} {ns : List Int}, CarriedAll ys (ns.map .int) → IntsAre ys ns
  | [], [], _ => .nil
  | _ :: _, n :: ns, .cons h r => by cases h; exact .cons n _ (ints_of_carried r)
theorem list_range_ints {r : Addr} {a b c : Int} {t u v : Tok} {n : Nat} (hh : A.handled = none) (F : Fr h₀ L s.heap m) (N : News h₀ L s.heap news)
    (hr : IsRange s.heap r a b c t u v) (hsmall : Builtin.Range.small a b c = true) (hn : Builtin.Range.rangeSize a b c = (n : Int)) (hlen : n ≤ 2 ^ 24)
    (hQ : ∀ D h' tk (ys : List Value) k, Fr h₀ L h' m → News h₀ L h' ((D, listOf ys.toArray k) :: news) → (∀ p ∈ news, p.1 < D) → IntsAre ys (rangeInts a c n) → Q (.ref D) { s with heap := h', toks := tk }) :
    wpAny (model prog w) A (call (.type "list") [.ref r]) Q E s := by
  refine list_rangeD hh F N hr hsmall hn hlen fun h' tk ys F' N' hk hn0 hl hp hc => ?_
  obtain ⟨⟨k, hS⟩, _⟩ := hp
  refine hQ _ h' tk ys k F' (fun p hp => ?_) (fun p hp => Heap.lt_size (N p hp).1) (ints_of_carried hc)
  rcases List.mem_cons.mp hp with rfl | hp
  · exact ⟨hS, Nat.ne_of_gt F.ns.lt, hn0⟩
  · exact N' p hp
end

section
variable {prog : Program} {w : World} {A : Around} {h₀ : Heap} {L : Addr} {m : Str → Option Value} {env : Env} {ct elt : Expr} {x : Str} {scope : Scope} {cl : List (Str × Addr)} {s : Shared} {S : Led → Prop} {P : Nat → Value → Prop} {Fin : List Value → Led → Prop} {news : Led}
theorem comp_invT {n : Nat} (K : Nat → List Value → Led → Prop) (h0 : K 0 [] news)
    (turn : ∀ i v ys nw I oI C oC D m₂ h tk (E' : Value → Shared → Prop), i < n → P i v → K i ys nw → LCg.NsObj oC m₂ → m₂ x = some v → Fr h₀ L h m → News h₀ L h ((I, oI) :: (C, oC) :: (D, LCg.lst ys) :: nw) → LCg.Off3 I C D nw → ((@Ne Nat I C) ∧ (@Ne Nat I D) ∧ (@Ne Nat C D)) →
      wpAny (model prog w) A (isTrue ct (compEnvC scope cl C env) (eval ct (compEnvC scope cl C env))) (fun b s' => if b = true then
        wpAny (model prog w) A (eval elt (compEnvC scope cl C env)) (LCg.CompEnd h₀ L m { s with heap := h, toks := tk } I oI C oC D (LCg.lst ys) S (fun y nw' => K (i + 1) (ys ++ [y]) nw')) E' s'
        else LCg.CompEnd h₀ L m { s with heap := h, toks := tk } I oI C oC D (LCg.lst ys) S (fun _ nw' => K (i + 1) ys nw') Value.none s') E' { s with heap := h, toks := tk })
    (fin : ∀ ys nw, K n ys nw → Fin ys nw) : LCt.CompRestT prog w A h₀ L m env ct elt x scope cl s S P Fin n 0 [] news := by
  have key : ∀ (j i : Nat) (ys : List Value) (nw : Led), i + j = n → K i ys nw → LCt.CompRestT prog w A h₀ L m env ct elt x scope cl s S P Fin j i ys nw := by
    intro j
    induction j with
    | zero =>
      intro i ys nw hi hy
      have e : i = n := by omega
      subst e
      exact LCt.CompRestT.zero (fin ys nw hy)
    | succ j ih =>
      intro i ys nw hi hy
      refine LCt.CompRestT.succ ?_
      intro v I oI C oC D m₂ h tk E' hv hC hx F N off ne
      refine wpAny_mono (turn i v ys nw I oI C oC D m₂ h tk E' (by omega) hv hy hC hx F N off ne) (fun b s₂ hq => ?_) fun _ _ e => e
      cases b with
      | true =>
        simp only [if_true] at hq ⊢
        refine wpAny_mono hq (fun y s₃ hr => ?_) fun _ _ e => e
        obtain ⟨h', tk', nw', e, F', N', off', hS, hk⟩ := hr
        exact ⟨h', tk', nw', e, F', N', off', hS, ih (i + 1) _ _ (by omega) hk⟩
      | false =>
        simp only [Bool.false_eq_true, if_false] at hq ⊢
        obtain ⟨h', tk', nw', e, F', N', off', hS, hk⟩ := hq
        exact ⟨h', tk', nw', e, F', N', off', hS, ih (i + 1) _ _ (by omega) hk⟩
  exact key n 0 [] news (by omega) h0
end
end Mine

end
section
open PySem PySem.W PyProof.Rows PySem.Calls PySem.Spec
set_option Elab.async false
set_option maxRecDepth 100000
set_option maxHeartbeats 8000000
namespace Mine
theorem freshWHid : True := by w_top off; trivial
/-- a fact held out of the sight of omega -/
noncomputable def Hd (p : Prop) : Prop := p
theorem Hd.mk {p : Prop} (h : p) : Hd p := h
theorem Hd.out {p : Prop} (h : Hd p) : p := h
/- small facts that stand for a call of omega -/
theorem om_c {n k : Nat} {b : Int} (h : n ≤ k) (hk : (k : Int) < b) : (n : Int) < b := Int.lt_of_le_of_lt (Int.ofNat_le.mpr h) hk
theorem om_n {n : Nat} {b : Int} (hb : b ≤ 0) : b ≤ (n : Int) := Int.le_trans hb (Int.natCast_nonneg n)
theorem om_r {dp a b m : Nat} (h : dp + a < m) (hb : b ≤ a) : dp + b < m := Nat.lt_of_le_of_lt (Nat.add_le_add_left hb dp) h
theorem sub_step {n i : Nat} (h : i < n) : n - i = n - (i + 1) + 1 := by omega
theorem toNat_step {z : Int} (h : 0 < z) : z.toNat = (z - 1).toNat + 1 := by omega
theorem fmc {α : Type} {P : α → Prop} {a : α} {l : List α} (h : P a) (t : ∀ x ∈ l, P x) : ∀ x ∈ a :: l, P x := List.forall_mem_cons.mpr ⟨h, t⟩
theorem fmn {α : Type} {P : α → Prop} : ∀ x ∈ ([] : List α), P x := List.forall_mem_nil _
theorem sub_nil {all : Led} : ∀ p ∈ ([] : Led), p ∈ all := fun _ h => nomatch h
theorem sub_keep {a : Addr × Obj} {l all : Led} (h : ∀ p ∈ l, p ∈ all) : ∀ p ∈ a :: l, p ∈ a :: all := by
  intro p hp
  rcases List.mem_cons.mp hp with rfl | hp
  · exact List.mem_cons_self
  · exact List.mem_cons_of_mem _ (h p hp)
theorem sub_drop {a : Addr × Obj} {l all : Led} (h : ∀ p ∈ l, p ∈ all) : ∀ p ∈ l, p ∈ a :: all := fun p hp => List.mem_cons_of_mem _ (h p hp)
theorem lt_zero {P : Nat → Prop} : ∀ p < 0, P p := fun p h => absurd h (Nat.not_lt_zero p)
theorem lt_step {P : Nat → Prop} {n : Nat} (h : ∀ p < n, P p) (hn : P n) : ∀ p < n + 1, P p := fun p hp => (Nat.lt_succ_iff_lt_or_eq.mp hp).elim (h p) fun e => e ▸ hn
/-- two name tables agree but for the names of ps and stored -/
noncomputable def Sm (ps : List (Str × Value)) (stored : List Str) (m' m₀ : Str → Option Value) : Prop := ∀ z, (∀ p ∈ ps, z ≠ p.1) → stored.contains z = false → m' z = m₀ z
section
variable {ps l : List (Str × Value)} {stored st : List Str} {m m₀ u : Str → Option Value} {x : Str} {v : Option Value}
theorem Sm.out (h : Sm ps stored m m₀) : ∀ z, (∀ p ∈ ps, z ≠ p.1) → stored.contains z = false → m z = m₀ z := h
theorem sm_refl : Sm ps stored m m := fun _ _ _ => rfl
noncomputable def InN (x : Str) (ps : List (Str × Value)) : Prop := ∃ p ∈ ps, p.1 = x
theorem inn_here {x : Str} {v : Value} {r : List (Str × Value)} : InN x ((x, v) :: r) := ⟨_, List.mem_cons_self, rfl⟩
theorem inn_on {x : Str} {p : Str × Value} {r : List (Str × Value)} (h : InN x r) : InN x (p :: r) := ⟨h.choose, List.mem_cons_of_mem _ h.choose_spec.1, h.choose_spec.2⟩
theorem sm_names {z : Str} (h1 : ∀ p ∈ ps, z ≠ p.1) (h2 : stored.contains z = false) (hx : x ∈ stored ∨ InN x ps) : z ≠ x := by
  rintro rfl
  rcases hx with hx | ⟨p, hp, e⟩
  · rw [List.contains_iff_mem.mpr hx] at h2; cases h2
  · exact h1 p hp e.symm
theorem sm_if (hx : x ∈ stored ∨ InN x ps) (h : Sm ps stored m m₀) : Sm ps stored (fun y => if y = x then v else m y) m₀ := by
  intro z h1 h2
  show (if z = x then v else m z) = m₀ z
  rw [if_neg (sm_names h1 h2 hx)]
  exact h z h1 h2
theorem sm_kn (h : Sm ps stored m m₀) : Sm ps stored (kstB m []) m₀ := h
theorem sm_kc {a : Value} (hx : x ∈ stored ∨ InN x ps) (h : Sm ps stored (kstB m l) m₀) : Sm ps stored (kstB m ((x, a) :: l)) m₀ := sm_if hx h
theorem sm_rest (hs : ∀ x ∈ st, x ∈ stored ∨ InN x ps) (h : Sm ps stored m m₀) : Sm ps stored (Rest st u m) m₀ := by
  intro z h1 h2
  show (if st.contains z then u z else m z) = m₀ z
  rw [if_neg (fun hc => sm_names h1 h2 (hs z (List.contains_iff_mem.mp hc)) rfl)]
  exact h z h1 h2
theorem all_cons {P : Str → Prop} {a : Str} {r : List Str} (ha : P a) (hr : ∀ x ∈ r, P x) : ∀ x ∈ a :: r, P x := List.forall_mem_cons.mpr ⟨ha, hr⟩
theorem all_nil {P : Str → Prop} : ∀ x ∈ ([] : List Str), P x := fun _ h => nomatch h
theorem in_here {a : Str} {r : List Str} : a ∈ a :: r := List.mem_cons_self
theorem in_on {a b : Str} {r : List Str} (h : a ∈ r) : a ∈ b :: r := List.mem_cons_of_mem _ h
end
section
variable {M : Model} {A : Around} {env : Env} {st : Stmt} {rest : List Stmt} {Q R : Flow → Shared → Prop} {E : Value → Shared → Prop} {s : Shared}
noncomputable def Hid (R Q : Flow → Shared → Prop) : Prop := ∀ f s', Q f s' → R f s'
noncomputable def HidC (M : Model) (A : Around) (env : Env) (rest : List Stmt) (E : Value → Shared → Prop) (R Q : Flow → Shared → Prop) : Prop := (∀ s', wpAny M A (execs rest env) Q E s' → R .next s') ∧ ∀ f s', f ≠ .next → Q f s' → R f s'
theorem hid_one (h : ∀ R, Hid R Q → wpAny M A (exec st env) R E s) : wpAny M A (execs [st] env) Q E s := by
  refine wpAny_execs_cons (h _ fun f s' q => ?_)
  cases f with
  | next => exact wpAny_execs_nil q
  | _ => exact q
theorem hid_cons (h : ∀ R, HidC M A env rest E R Q → wpAny M A (exec st env) R E s) : wpAny M A (execs (st :: rest) env) Q E s := by
  refine wpAny_execs_cons (h _ ⟨fun s' q => q, fun f s' hf q => ?_⟩)
  cases f with
  | next => exact absurd rfl hf
  | _ => exact q
theorem hid_exec (h : ∀ R, Hid R Q → wpAny M A (exec st env) R E s) : wpAny M A (exec st env) Q E s := h Q fun _ _ q => q
theorem hid_any {f : Flow} (h : Hid R Q) (q : Q f s) : R f s := h f s q
theorem hid_next (h : HidC M A env rest E R Q) (q : wpAny M A (execs rest env) Q E s) : R .next s := h.1 s q
theorem hid_ret {v : Value} (h : HidC M A env rest E R Q) (q : Q (.ret v) s) : R (.ret v) s := h.2 _ s (fun e => nomatch e) q
theorem hid_brk (h : HidC M A env rest E R Q) (q : Q .brk s) : R .brk s := h.2 _ s (fun e => nomatch e) q
theorem hid_cont (h : HidC M A env rest E R Q) (q : Q .cont s) : R .cont s := h.2 _ s (fun e => nomatch e) q
end
section
variable {σ : Type} {L : Addr} {h₀ : Heap} {s₁ : Shared} {Q : Flow → Shared → Prop} {h' : Heap} {tk : Nat} {m' m₀ : Str → Option Value} {all : Led} {Le : σ → Led} {ps : σ → List (Str × Value)} {stored : List Str} {P : σ → Prop}
theorem sj_mk {m : Str → Option Value} {nx : Led} (c : σ) (e : nx = Le c) (hP : P c) (h1 : ∀ p ∈ ps c, m p.1 = some p.2) (h2 : ∀ z, (∀ p ∈ ps c, z ≠ p.1) → stored.contains z = false → m z = m₀ z) : SJ Le ps stored m₀ P m nx := ⟨c, e, hP, h1, h2⟩
theorem swhl_in (c : σ) (F : Fr h₀ L h' m') (N : News h₀ L h' all) (hs : ∀ p ∈ Le c, p ∈ all) (hP : P c) (h1 : ∀ p ∈ ps c, m' p.1 = some p.2) (h2 : ∀ z, (∀ p ∈ ps c, z ≠ p.1) → stored.contains z = false → m' z = m₀ z) :
    WhlP h₀ L (SJ Le ps stored m₀ P) s₁ Q .next { s₁ with heap := h', toks := tk } := whl_in (Le c) F N hs ⟨c, rfl, hP, h1, h2⟩
theorem scut_in (c : σ) (F : Fr h₀ L h' m') (N : News h₀ L h' all) (hs : ∀ p ∈ Le c, p ∈ all) (hP : P c) (h1 : ∀ p ∈ ps c, m' p.1 = some p.2) (h2 : ∀ z, (∀ p ∈ ps c, z ≠ p.1) → stored.contains z = false → m' z = m₀ z) :
    CutE h₀ L (SJ Le ps stored m₀ P) s₁ .next { s₁ with heap := h', toks := tk } := cut_in (Le c) F N hs ⟨c, rfl, hP, h1, h2⟩
end
theorem ifcut {prog : Program} {w : World} {A : Around} {h₀ : Heap} {L : Addr} {s : Shared} {m : Str → Option Value} {led : Led} {T : Sem Bool} {Q : Bool → Shared → Prop} {E : Value → Shared → Prop} (P : Bool → Prop) (_F : Fr h₀ L s.heap m) (_N : News h₀ L s.heap led)
    (h : ∀ R : Bool → Shared → Prop, (∀ b h' tk, P b → Fr h₀ L h' m → News h₀ L h' led → R b { s with heap := h', toks := tk }) → wpAny (model prog w) A T R E s)
    (k : ∀ b h' tk, P b → Fr h₀ L h' m → News h₀ L h' led → Q b { s with heap := h', toks := tk }) : wpAny (model prog w) A T Q E s := h Q k
theorem ctr_go {w : World} {f : Addr} {sz : Nat} {needed : Led} {vs : List Value} {R : Value → Led → Prop} {dp un : Nat} {gd : Option (List Code)} {env : Env} {outer : List Env} {A₀ : Around} {base h₀ : Heap} {L : Addr} {m : Str → Option Value} {mean : ExcName → Option Value} {mg mb : Str → Option Value} {news : Led} {s : Shared} {Q E : Value → Shared → Prop}
    (C : Ctr w f sz needed vs R) (hret : Rets h₀ L m needed news R s Q) (B : Below A₀ base outer h₀ := by k_asm) (F : Fr h₀ L s.heap m := by k_asm) (X : (Kq w.params).In h₀ := by k_asm) (N : News h₀ L s.heap news := by k_asm)
    (hsub : ∀ p ∈ needed, p ∈ news := by repeat' (first | exact fmn | refine fmc (by k_mem) ?_)) (T : Top hd.view_39 (looseW hd.view_39 []) mean mg mb h₀ := by k_asm) (hf : env.frame = some L := by rfl) (hke : env.scope.kind = .function := by rfl)
    (hd : dp + sz < recursionLimit := by walk_at "MY room") (hu : un + 40 * sz < cLine := by walk_at "MY room") :
    wpAny (model rx.row.prog w) (topA dp un gd env outer) (call (.ref f) vs) Q E s := ctr_use C B F X N hsub T hf hke hd hu hret
section
variable {prog : Program} {w : World} {A : Around} {h₀ : Heap} {L : Addr} {m : Str → Option Value} {env : Env} {ct elt : Expr} {x : Str} {scope : Scope} {cl : List (Str × Addr)} {s : Shared} {S : Led → Prop} {P : Nat → Value → Prop} {Fin : List Value → Led → Prop} {news : Led}
theorem comp_invF {n : Nat} (K : Nat → List Value → Prop) (h0 : K 0 [])
    (turn : ∀ i v ys I oI C oC D m₂ h tk (E' : Value → Shared → Prop), i < n → P i v → K i ys → LCg.NsObj oC m₂ → m₂ x = some v → Fr h₀ L h m → News h₀ L h ((I, oI) :: (C, oC) :: (D, LCg.lst ys) :: news) → LCg.Off3 I C D news → ((@Ne Nat I C) ∧ (@Ne Nat I D) ∧ (@Ne Nat C D)) →
      wpAny (model prog w) A (eval elt (compEnvC scope cl C env)) (LCg.CompEnd h₀ L m { s with heap := h, toks := tk } I oI C oC D (LCg.lst ys) S (fun y nw' => nw' = news ∧ K (i + 1) (ys ++ [y]))) E' { s with heap := h, toks := tk })
    (fin : ∀ ys, K n ys → Fin ys news) : LCg.CompRest prog w A h₀ L m env elt x scope cl s S P Fin n 0 [] news :=
  comp_inv (fun i ys nw => nw = news ∧ K i ys) ⟨rfl, h0⟩ (fun i v ys nw I oI C oC D m₂ h tk E' hi hv hk => by
    obtain ⟨e, hk⟩ := hk
    rw [e]
    exact turn i v ys I oI C oC D m₂ h tk E' hi hv hk) fun ys nw hk => by
    rw [hk.1]
    exact fin ys hk.2
theorem comp_invTF {n : Nat} (K : Nat → List Value → Prop) (h0 : K 0 [])
    (turn : ∀ i v ys I oI C oC D m₂ h tk (E' : Value → Shared → Prop), i < n → P i v → K i ys → LCg.NsObj oC m₂ → m₂ x = some v → Fr h₀ L h m → News h₀ L h ((I, oI) :: (C, oC) :: (D, LCg.lst ys) :: news) → LCg.Off3 I C D news → ((@Ne Nat I C) ∧ (@Ne Nat I D) ∧ (@Ne Nat C D)) →
      wpAny (model prog w) A (isTrue ct (compEnvC scope cl C env) (eval ct (compEnvC scope cl C env))) (fun b s' => if b = true then
        wpAny (model prog w) A (eval elt (compEnvC scope cl C env)) (LCg.CompEnd h₀ L m { s with heap := h, toks := tk } I oI C oC D (LCg.lst ys) S (fun y nw' => nw' = news ∧ K (i + 1) (ys ++ [y]))) E' s'
        else LCg.CompEnd h₀ L m { s with heap := h, toks := tk } I oI C oC D (LCg.lst ys) S (fun _ nw' => nw' = news ∧ K (i + 1) ys) Value.none s') E' { s with heap := h, toks := tk })
    (fin : ∀ ys, K n ys → Fin ys news) : LCt.CompRestT prog w A h₀ L m env ct elt x scope cl s S P Fin n 0 [] news :=
  comp_invT (fun i ys nw => nw = news ∧ K i ys) ⟨rfl, h0⟩ (fun i v ys nw I oI C oC D m₂ h tk E' hi hv hk => by
    obtain ⟨e, hk⟩ := hk
    rw [e]
    exact turn i v ys I oI C oC D m₂ h tk E' hi hv hk) fun ys nw hk => by
    rw [hk.1]
    exact fin ys hk.2
end
end Mine

end
section
open PySem PySem.W PyProof.Rows PySem.Calls PySem.Spec
set_option Elab.async false
set_option maxRecDepth 100000
set_option maxHeartbeats 8000000
namespace Mine
theorem freshWLoopT : True := by w_top off; trivial
section
variable {prog : Program} {w : World} {A : Around} {s : Shared} {env : Env} {h₀ : Heap} {L : Addr} {target : Expr} {body : List Stmt} {Q : Flow → Shared → Prop}
theorem gloopT {I : Addr} {fp : List Addr} {n : Nat} {P : Nat → Value → Prop} {St : Nat → Heap → Prop} {m : Str → Option Value} {news src : Led} (J : Nat → (Str → Option Value) → Led → Prop)
    (W : Walks prog w A I fp [I] n P St) (hob : ∀ i h, St i h → ∃ o, h.get? I = some o) (hLf : env.locals ∉ fp) (hI0 : h₀.get? I = none)
    (hfp : ∀ b ∈ fp, b = I ∨ (∃ q, h₀.get? b = some q) ∨ ∃ o, (b, o) ∈ src) (hsrc : ∀ i m nx, J i m nx → ∀ p ∈ src, p ∈ nx)
    (hst : St 0 s.heap) (F : Fr h₀ env.locals s.heap m) (N : News h₀ env.locals s.heap news) (hne : ∀ p ∈ news, p.1 ≠ I) (hj : J 0 m news)
    (hgo : ∀ i v (s : Shared) (Q' : Unit → Shared → Prop) (E' : Value → Shared → Prop), P i v → St (i + 1) s.heap → Q' () s → wpAny (model prog w) A (letOwnedTupleGo target (.ref I) v) Q' E' s)
    (turn : ∀ i v m₁ nx oI h tk, i < n → P i v → J i m₁ nx → (∀ p ∈ nx, p.1 ≠ I) → Fr h₀ env.locals h m₁ → News h₀ env.locals h ((I, oI) :: nx) →
      wpAny (model prog w) A (assign target env v) (fun _ s₂ => wpAny (model prog w) A (execs body env) (TurnP h₀ env.locals I oI (J (i + 1)) { s with heap := h, toks := tk } Q) NoE s₂) NoE { s with heap := h, toks := tk })
    (done : ∀ m₁ nx h tk, J n m₁ nx → Fr h₀ env.locals h m₁ → News h₀ env.locals h nx → Q .next { s with heap := h, toks := tk }) :
    LoopG prog w A env target body Q (.ref I) s := by
  have hIL : env.locals ≠ I := fun e => by obtain ⟨o, ho⟩ := hob _ _ hst; exact hLf (e ▸ W.sub _ (List.mem_singleton.mpr rfl))
  have hE := PassesOwn.never (M := model prog w) (A := A) (env := env)
  refine codeAny_forLoop_any
    (fun k s' => ∃ h' tk m' nx i, s' = { s with heap := h', toks := tk } ∧ St i h' ∧ Fr h₀ env.locals h' m' ∧ News h₀ env.locals h' nx ∧ (∀ p ∈ nx, p.1 ≠ I) ∧ J i m' nx ∧ i ≤ n ∧ k = n + 1 - i) ?_ (n + 1)
    ⟨s.heap, s.toks, m, news, 0, rfl, hst, F, N, hne, hj, Nat.zero_le _, rfl⟩
  rintro k s' ⟨h', tk, m', nx, i, rfl, hst', F', N', hne', hJ, hi, rfl⟩
  have next : ∀ h₁ : Heap, (∀ b o, b ∉ [I] → h'.get? b = some o → h₁.get? b = some o) → Fr h₀ env.locals h₁ m' ∧ News h₀ env.locals h₁ nx := fun h₁ hk₁ =>
    ⟨⟨F'.ns.at' fun o e => hk₁ _ o (fun hm => hIL (List.mem_singleton.mp hm)) e, fun b o e => hk₁ b o (fun hm => by rw [List.mem_singleton.mp hm, hI0] at e; cases e) (F'.keep b o e), F'.above⟩,
      fun p hp => ⟨hk₁ _ _ (fun hm => hne' p hp (List.mem_singleton.mp hm)) (N' p hp).1, (N' p hp).2⟩⟩
  by_cases hlt : i < n
  · refine W.item i _ _ _ hlt hst' fun v h₁ tk₁ hP hst₁ hk₁ => ?_
    refine hgo i v _ _ _ hP hst₁ ?_
    obtain ⟨F₁, N₁⟩ := next h₁ hk₁
    obtain ⟨oI, hoI⟩ := hob _ _ hst₁
    have N₂ : News h₀ env.locals h₁ ((I, oI) :: nx) := by
      intro p hp
      rcases List.mem_cons.mp hp with rfl | hp
      · exact ⟨hoI, fun e => hIL e.symm, hI0⟩
      · exact N₁ p hp
    refine wpAny_mono (turn i v m' nx oI h₁ tk₁ hlt hP hJ hne' F₁ N₂) (fun _ s₂ h₂ => wpAny_mono h₂ (fun f s₃ h₃ => ?_) fun _ _ e => e.elim) fun _ _ e => e.elim
    have fin : TurnE h₀ env.locals I oI (J (i + 1)) { s with heap := h₁, toks := tk₁ } s₃ → ∃ m_1, m_1 < n + 1 - i ∧ ∃ h' tk m' nx j, s₃ = { s with heap := h', toks := tk } ∧ St j h' ∧ Fr h₀ env.locals h' m' ∧ News h₀ env.locals h' nx ∧ (∀ p ∈ nx, p.1 ≠ I) ∧ J j m' nx ∧ j ≤ n ∧ m_1 = n + 1 - j := by
      rintro ⟨h₃', tk₃, m₃, all, nx₃, rfl, F₃, N₃, hI, hs, hne₃, hJ₃⟩
      refine ⟨n + 1 - (i + 1), by omega, h₃', tk₃, m₃, nx₃, i + 1, rfl, ?_, F₃, fun p hp => N₃ p (hs p hp), hne₃, hJ₃, hlt, rfl⟩
      refine W.frame _ _ _ hst₁ fun b hb o e => ?_
      rcases hfp b hb with rfl | ⟨q, hq⟩ | ⟨o', ho'⟩
      · rw [hoI] at e; cases e; exact (N₃ _ hI).1
      · have : q = o := by have := F₁.keep b q hq; rw [e] at this; exact (Option.some.inj this).symm
        exact this ▸ F₃.keep b q hq
      · have h1 := (N₁ _ (hsrc _ _ _ hJ _ ho')).1
        rw [e] at h1; cases h1
        exact (N₃ _ (hs _ (hsrc _ _ _ hJ₃ _ ho'))).1
    cases f with
    | ret v => exact h₃
    | brk => exact h₃
    | cont => exact fin h₃
    | next => exact fin h₃
  · have hin : i = n := by omega
    subst hin
    refine W.done _ _ _ hst' fun h₁ tk₁ hk₁ => wpAny_execs_nil ?_
    obtain ⟨F₁, N₁⟩ := next h₁ hk₁
    exact done m' nx h₁ tk₁ hJ F₁ N₁

theorem gloopT_list {σ : Type} {ax : Addr} {oax : Obj} {vs : List Value} {k : Nat} {elts : List Expr} {x1 : Nat} {tpos : Pos} {m₀ : Str → Option Value} {news : Led} (Le : σ → Led) (ps : σ → List (Str × Value)) (stored : List Str) (P : Nat → σ → Prop)
    (hh : A.handled = none) (hkeep : ∀ c, (ax, oax) ∈ Le c) (hc : oax.cls = .type "list") (hd : oax.data = .seq vs.toArray k) (F : Fr h₀ env.locals s.heap m₀) (N : News h₀ env.locals s.heap news) (h0 : SJ Le ps stored m₀ (P 0) m₀ news)
    (hvs : ∀ (i : Nat) (v : Value), vs[i]? = some v → ∃ T, v = Value.ref T)
    (turn : ∀ i c v u I oI h tk, vs[i]? = some v → P i c → (∀ p ∈ Le c, p.1 ≠ I) → (∀ p ∈ news, p.1 < I) → Fr h₀ env.locals h (kstB (Rest stored u m₀) (ps c)) → News h₀ env.locals h ((I, oI) :: Le c) →
      wpAny (model prog w) A (assign (.Tuple elts x1 tpos) env v) (fun _ s₂ => wpAny (model prog w) A (execs body env) (TurnP h₀ env.locals I oI (SJ Le ps stored m₀ (P (i + 1))) { s with heap := h, toks := tk } Q) NoE s₂) NoE { s with heap := h, toks := tk })
    (done : ∀ c u h tk, P vs.length c → Fr h₀ env.locals h (kstB (Rest stored u m₀) (ps c)) → News h₀ env.locals h (Le c) → Q .next { s with heap := h, toks := tk }) :
    wpAny (model prog w) A (pyIter (.ref ax)) (fun it s₂ => LoopG prog w A env (.Tuple elts x1 tpos) body Q it s₂) NoE s := by
  have hm : (ax, oax) ∈ news := by obtain ⟨c, rfl, _⟩ := h0; exact hkeep c
  have hls : s.heap.IsList ax vs.toArray := ⟨oax, (N _ hm).1, hc, k, hd⟩
  have hlt : ax < s.heap.objs.size := Heap.lt_size (N _ hm).1
  have hne : ax ≠ s.heap.objs.size := Nat.ne_of_lt hlt
  refine wpAny_pyIter_list hls ?_
  have W := Walks.list (prog := prog) (w := w) hh s.heap.objs.size ax hne vs.toArray
  have hlen : vs.toArray.size = vs.length := by simp
  rw [hlen] at W
  refine gloopT (src := [(ax, oax)]) (news := news) (fun i => SJ Le ps stored m₀ (P i)) W (fun i h st => by obtain ⟨⟨o, ho, _⟩, _⟩ := st; exact ⟨o, ho⟩) ?_ (next_is_new F) (fun b hb => ?_) ?_ ⟨⟨_, Heap.get?_push_size _ rfl, rfl, rfl⟩, hls.at fun o e => Heap.get?_push_of_some _ e⟩
    (F.push _) (fun p hp => ⟨Heap.get?_push_of_some _ (N p hp).1, (N p hp).2⟩) (fun p hp => Nat.ne_of_lt (Heap.lt_size (N p hp).1)) h0 ?_ ?_ ?_
  · intro hm'
    rcases List.mem_cons.mp hm' with e | hm'
    · exact absurd F.ns.lt (e ▸ Nat.lt_irrefl _)
    · exact (N _ hm).2.1 (List.mem_singleton.mp hm').symm
  · rcases List.mem_cons.mp hb with e | hb
    · exact .inl e
    · exact .inr (.inr ⟨oax, by rw [List.mem_singleton.mp hb]; exact List.mem_singleton.mpr rfl⟩)
  · rintro i m nx ⟨c, rfl, _⟩ p hp
    rw [List.mem_singleton.mp hp]; exact hkeep c
  · intro i v s' Q' E' hP st hQ
    obtain ⟨T, rfl⟩ := hvs i v (by simpa using hP)
    exact wpAny_letOwnedTupleGo_listiter st.1 hQ
  · rintro i v m₁ nx oI h tk hi hP ⟨c, rfl, hc, h1, h2⟩ hne F₁ N₁
    exact turn i c v m₁ _ oI h tk (by simpa using hP) hc hne (fun p hp => Heap.lt_size (N p hp).1) (sj_fr h1 h2 ▸ F₁) N₁
  · rintro m₁ nx h tk ⟨c, rfl, hc, h1, h2⟩ F₁ N₁
    exact done c m₁ h tk hc (sj_fr h1 h2 ▸ F₁) N₁
end
end Mine

end
section
open PySem PySem.W PyProof.Rows PySem.Calls PySem.Spec
set_option Elab.async false
set_option maxRecDepth 100000
set_option maxHeartbeats 8000000
namespace Mine
theorem freshWCompX : True := by w_top off; trivial
section
variable {prog : Program} {w : World} {A : Around} {E : Value → Shared → Prop} {s : Shared} {env : Env} {h₀ : Heap} {L : Addr} {m : Str → Option Value}
abbrev KeepX (wr : List Addr) (h h' : Heap) : Prop := ∀ b o, b ∉ wr → h.get? b = some o → h'.get? b = some o
abbrev Grows (h h' : Heap) : Prop := ∀ b o, h.get? b = some o → h'.get? b = some o
abbrev AssignX (prog : Program) (w : World) (A : Around) (env : Env) (target : Expr) (scope : Scope) (cl : List (Str × Addr)) (fp : List Addr) (n : Nat) (P : Nat → Value → Heap → Prop) (Bd : Nat → (Str → Option Value) → Heap → Prop) : Prop :=
  ∀ i v C (s' : Shared) m' (Q' : Unit → Shared → Prop) (E' : Value → Shared → Prop), i < n → P i v s'.heap → s'.heap.Ns C m' → (∀ b ∈ fp, b ≠ C) →
    (∀ h tk m'', h.Ns C m'' → Bd i m'' h → (∀ b o, b ≠ C → s'.heap.get? b = some o → h.get? b = some o) → Q' () { s' with heap := h, toks := tk }) →
    wpAny (model prog w) A (assign target (compEnvC scope cl C env) v) Q' E' s'
abbrev EltX (prog : Program) (w : World) (A : Around) (env : Env) (elt : Expr) (scope : Scope) (cl : List (Str × Addr)) (wr : List Addr) (n : Nat) (Bd : Nat → (Str → Option Value) → Heap → Prop) (Rv : Nat → Value → Prop) (hb : Heap) : Prop :=
  ∀ i C (s' : Shared) m'' (E' : Value → Shared → Prop), i < n → s'.heap.Ns C m'' → Bd i m'' s'.heap → KeepX wr hb s'.heap → hb.get? C = none →
    wpAny (model prog w) A (eval elt (compEnvC scope cl C env)) (fun y s'' => ∃ h tk, s'' = { s' with heap := h, toks := tk } ∧ Grows s'.heap h ∧ Rv i y) E' s'

theorem blockX {elt target iter : Expr} {scope : Scope} {cl : List (Str × Addr)} {pos : Pos} {s₂ : Shared} {I : Addr} {fp wr : List Addr} {n : Nat} {P Md : Nat → Value → Heap → Prop} {St : Nat → Heap → Prop} {RR : Value → Addr → Result → Shared → Prop}
    (Bd : Nat → (Str → Option Value) → Heap → Prop) (Rv : Nat → Value → Prop)
    (W : KTurns prog w A target I fp wr n P Md St) (hsz : n ≤ sizeLine) (hcell : ∀ y ∈ scope.names, y.2 ≠ .cell) (hkind : scope.kind = .function) (hst : St 0 s₂.heap) (hfp : ∀ b ∈ fp, b < s₂.heap.objs.size)
    (self : ∀ (s' : Shared) (Q' : Value → Shared → Prop) (E' : Value → Shared → Prop), St 0 s'.heap → Q' (.ref I) s' → wpAny (model prog w) A (pyIter (.ref I)) Q' E' s')
    (hassign : AssignX prog w A env target scope cl fp n P Bd) (helt : EltX prog w A env elt scope cl wr n Bd Rv s₂.heap)
    (hRR : ∀ D C h tk m' ys, List.length ys = n → (∀ j y, ys[j]? = some y → Rv j y) → h.get? D = some (LCg.lst ys) → h.Ns C m' → s₂.heap.get? D = none → s₂.heap.get? C = none → C ≠ D → KeepX wr s₂.heap h → (C ∉ wr) → (D ∉ wr) → RR (.ref D) C (.ok .next) { s₂ with heap := h, toks := tk }) :
    wpAny (model prog w) A (newList []) (fun acc s₃ => wpAny (model prog w) A (newFunctionEnv scope env.globals cl [] env.qual none .none (some env)) (fun cenv s₄ =>
      codeAny (model prog w) A (.compStart (.ListComp elt [⟨target, iter, [], 0⟩] scope pos) 0 (.ref I) acc { cenv with scope := relabel scope env }) (RR acc cenv.locals) s₄) E s₃) E s₂ := by
  refine wpAny_newObj_type (wpAny_newFunctionEnv hcell (by intro y hy; simp at hy) (fun h₁ hns₁ hsb₁ => ?_) hkind)
  dsimp only at hns₁ hsb₁ ⊢
  generalize hH2 : s₂.heap.push { cls := .type "list", dict := none, data := .seq ([] : List Value).toArray } = H2 at hns₁ hsb₁ ⊢
  have hC : H2.objs.size = s₂.heap.objs.size + 1 := by rw [← hH2, Heap.size_push]
  have hDC : s₂.heap.objs.size ≠ H2.objs.size := by rw [hC]; exact Nat.ne_of_lt (Nat.lt_succ_self _)
  have below : ∀ b, b < s₂.heap.objs.size → b ≠ H2.objs.size ∧ b ≠ s₂.heap.objs.size := fun b hb => ⟨by rw [hC]; exact Nat.ne_of_lt (Nat.lt_succ_of_lt hb), Nat.ne_of_lt hb⟩
  have hDw : s₂.heap.objs.size ∉ wr := fun hm => Nat.lt_irrefl _ (hfp _ (W.sub _ hm))
  have hDf : s₂.heap.objs.size ∉ fp := fun hm => Nat.lt_irrefl _ (hfp _ hm)
  have hCf : H2.objs.size ∉ fp := fun hm => by have := hfp _ hm; rw [hC] at this; exact Nat.lt_irrefl _ (Nat.lt_of_succ_lt this)
  have hCw : H2.objs.size ∉ wr := fun hm => hCf (W.sub _ hm)
  have old : ∀ b o, s₂.heap.get? b = some o → h₁.get? b = some o := fun b o e => hsb₁.extBut b o (below b (Heap.lt_size e)).1 (Heap.get?_push_of_some _ (hH2 ▸ Heap.get?_push_of_some _ e))
  have hacc : h₁.get? s₂.heap.objs.size = some (LCg.lst []) := hsb₁.extBut _ _ hDC (Heap.get?_push_of_some _ (hH2 ▸ Heap.get?_push_size _ rfl))
  have hst₁ : St 0 h₁ := W.frame _ _ _ hst fun b _ o e => old b o e
  have fresh : ∀ a, s₂.heap.objs.size ≤ a → s₂.heap.get? a = none := fun a ha => by
    cases e : s₂.heap.get? a with
    | none => rfl
    | some o' => exact absurd (Heap.lt_size e) (Nat.not_lt.mpr ha)
  have loop : ∀ s₃ : Shared, s₃ = { s₂ with heap := h₁, toks := s₂.toks + ([] : List (Str × Value)).length } →
      codeAny (model prog w) A (.compLoop (.ListComp elt [⟨target, iter, [], 0⟩] scope pos) 0 (.ref I) (.ref s₂.heap.objs.size) (compEnvC scope cl H2.objs.size env))
        (RR (.ref s₂.heap.objs.size) H2.objs.size) s₃ := by
    rintro s₃ rfl
    refine kcp_loop
      (fun k s' => ∃ h' tk i ys m', s' = { s₂ with heap := h', toks := tk } ∧ i ≤ n ∧ k = n + 1 - i ∧ List.length ys = i ∧ St i h' ∧ h'.Ns H2.objs.size m' ∧ h'.get? s₂.heap.objs.size = some (LCg.lst ys) ∧ KeepX wr s₂.heap h' ∧ ∀ j y, ys[j]? = some y → Rv j y) ?_ (n + 1)
      ⟨h₁, _, 0, [], _, rfl, Nat.zero_le _, rfl, rfl, hst₁, hns₁, hacc, fun b o _ e => old b o e, fun j y e => by simp at e⟩
    rintro k s' ⟨h', tk, i, ys, m', rfl, hi, rfl, hyl, hst', hn', hD', hk', hR'⟩
    by_cases hlt : i < n
    · refine W.item i _ _ _ hlt hst' fun v h₂ tk₂ hMd hk₂ => ?_
      refine W.go i v _ _ _ hMd fun h₃ hP hst₃ hk₃ => ?_
      have hn₃ : h₃.Ns H2.objs.size m' := (hn'.at' fun o e => hk₂ _ o hCw e).at' fun o e => hk₃ _ o hCw e
      refine hassign i v _ _ m' _ _ hlt hP hn₃ (fun b hb e => hCf (e ▸ hb)) fun h₄ tk₄ m₄ hn₄ hB hk₄ => ?_
      have hst₄ : St (i + 1) h₄ := W.frame _ _ _ hst₃ fun b hb o e => hk₄ b o (fun q => hCf (q ▸ hb)) e
      have kp₄ : KeepX wr s₂.heap h₄ := fun b o hb e => hk₄ b o (below b (Heap.lt_size e)).1 (hk₃ b o hb (hk₂ b o hb (hk' b o hb e)))
      have hD₄ : h₄.get? s₂.heap.objs.size = some (LCg.lst ys) := hk₄ _ _ hDC (hk₃ _ _ hDw (hk₂ _ _ hDw hD'))
      refine wpAny_mono (helt i _ _ m₄ _ hlt hn₄ hB kp₄ (fresh _ (by rw [hC]; exact Nat.le_succ _))) (fun y s₅ hq => ?_) fun _ _ e => e
      obtain ⟨h₅, tk₅, rfl, hg, hRy⟩ := hq
      refine append_at (hsz := by show ys.toArray.size ≤ sizeLine; rw [List.size_toArray, hyl]; exact Nat.le_trans hi hsz) (hg _ _ hD₄) fun h₆ hs₆ hD₆ => ?_
      refine ⟨n + 1 - (i + 1), by omega, h₆, tk₅, i + 1, ys ++ [y], m₄, rfl, hlt, rfl, by rw [List.length_append, List.length_singleton, hyl], ?_, ?_, hD₆.trans (congrArg some (LCg.lst_snoc ys y)), ?_, ?_⟩
      · exact W.frame _ _ _ hst₄ fun b hb o e => hs₆.extBut b o (fun q => hDf (q ▸ hb)) (hg b o e)
      · exact (hn₄.at' fun o e => hg _ o e).sameBut hs₆ (Ne.symm hDC)
      · exact fun b o hb e => hs₆.extBut b o (below b (Heap.lt_size e)).2 (hg b o (kp₄ b o hb e))
      · intro j z hz
        by_cases hj : j < ys.length
        · rw [List.getElem?_append_left hj] at hz
          exact hR' j z hz
        · rw [List.getElem?_append_right (by omega)] at hz
          have h0 : j - ys.length = 0 := by
            have := (List.getElem?_eq_some_iff.mp hz).1
            simp at this; omega
          rw [h0] at hz
          have hz : z = y := (Option.some.inj hz).symm
          have hj' : j = i := by omega
          rw [hz, hj']; exact hRy
    · obtain rfl : i = n := Nat.le_antisymm hi (Nat.not_lt.mp hlt)
      refine W.done _ _ _ hst' fun h₂ tk₂ hk₂ => ?_
      exact hRR _ _ h₂ tk₂ m' ys hyl hR' (hk₂ _ _ hDw hD') (hn'.at' fun o e => hk₂ _ o hCw e) (fresh _ (Nat.le_refl _)) (fresh _ (by rw [hC]; exact Nat.le_succ _)) (Ne.symm hDC) (fun b o hb e => hk₂ b o hb (hk' b o hb e)) hCw hDw
  exact codeAny_compStart_list (loop _ rfl) (self _ _ _ hst₁ (loop _ rfl))

/-- what the iterable of a comprehension hands on -/
noncomputable def SrcX (prog : Program) (w : World) (A : Around) (h₀ : Heap) (L : Addr) (m : Str → Option Value) (env : Env) (elt target : Expr) (scope : Scope) (cl : List (Str × Addr)) (Fin : Shared → List Value → Led → Prop) (xv : Value) (s₁ : Shared) : Prop :=
  ∃ (I : Addr) (fp wr : List Addr) (n : Nat) (P Md : Nat → Value → Heap → Prop) (St : Nat → Heap → Prop) (news : Led) (Bd : Nat → (Str → Option Value) → Heap → Prop) (Rv : Nat → Value → Prop),
    xv = .ref I ∧ KTurns prog w A target I fp wr n P Md St ∧ n ≤ sizeLine ∧ St 0 s₁.heap ∧ (∀ b ∈ fp, b < s₁.heap.objs.size) ∧
    (∀ (i : Nat) (s' : Shared) (Q' : Value → Shared → Prop) (E' : Value → Shared → Prop), St i s'.heap → Q' (.ref I) s' → wpAny (model prog w) A (pyIter (.ref I)) Q' E' s') ∧
    AssignX prog w A env target scope cl fp n P Bd ∧ EltX prog w A env elt scope cl wr n Bd Rv s₁.heap ∧
    Fr h₀ L s₁.heap m ∧ News h₀ L s₁.heap news ∧ L ∉ wr ∧ (∀ b ∈ wr, h₀.get? b = none) ∧ (∀ p ∈ news, p.1 ∉ wr) ∧
    ∀ ys, List.length ys = n → (∀ j y, ys[j]? = some y → Rv j y) → Fin s₁ ys news

theorem srcX_frame {h h' : Heap} {wr : List Addr} {D : Addr} {ys : List Value} {news : Led} (F : Fr h₀ L h m) (N : News h₀ L h news) (hLw : L ∉ wr) (hw0 : ∀ b ∈ wr, h₀.get? b = none) (hwn : ∀ p ∈ news, p.1 ∉ wr)
    (hD : h'.get? D = some (LCg.lst ys)) (hD0 : h.get? D = none) (hk : KeepX wr h h') : Fr h₀ L h' m ∧ News h₀ L h' ((D, LCg.lst ys) :: news) ∧ LCg.Off1 D news := by
  have up : ∀ b o, h₀.get? b = some o → b ∉ wr := fun b o e hm => by rw [hw0 b hm] at e; cases e
  refine ⟨⟨F.ns.at' fun o e => hk _ o hLw e, fun b o e => hk b o (up b o e) (F.keep b o e), F.above⟩, fun p hp => ?_, ?_⟩
  · rcases List.mem_cons.mp hp with rfl | hp
    · refine ⟨hD, fun e => ?_, ?_⟩
      · have h1 : D = L := e
        obtain ⟨o, _, _, e1, _⟩ := F.ns
        rw [← h1, hD0] at e1; cases e1
      · cases q : h₀.get? D with
        | none => rfl
        | some o => have := F.keep _ _ q; rw [hD0] at this; cases this
    · exact ⟨hk _ _ (hwn p hp) (N p hp).1, (N p hp).2⟩
  · have : ∀ l : Led, (∀ p ∈ l, p ∈ news) → LCg.Off1 D l := by
      intro l
      induction l with
      | nil => intro _; trivial
      | cons p l ih =>
        intro hs
        refine ⟨fun e => ?_, ih fun q hq => hs q (List.mem_cons_of_mem _ hq)⟩
        have h1 := (N p (hs p List.mem_cons_self)).1
        have e' : p.1 = D := e
        rw [e', hD0] at h1; cases h1
    exact this news fun _ h => h

theorem ListComp_X {elt target iter : Expr} {scope : Scope} {cl : List (Str × Addr)} {pos : Pos} {Q : Value → Shared → Prop} (_F₀ : Fr h₀ L s.heap m)
    (hclos : closureFor scope env = pure cl) (hcell : ∀ y ∈ scope.names, y.2 ≠ .cell) (hkind : scope.kind = .function)
    (hnames : ∀ y ∈ scope.names, y.2 = .local → scope.names.lookup y.1 = some .local)
    (h : wpAny (model prog w) A (eval iter env) (SrcX prog w A h₀ L m env elt target scope cl (fun s₂ => LCg.FinE h₀ L m s₂ Q)) E s)
    (hs : ∀ x, foldedSetIterable iter env x = pure x := by intro _; rfl) :
    wpAny (model prog w) A (eval (.ListComp elt [⟨target, iter, [], 0⟩] scope pos) env) Q E s := by
  rw [eval_ListComp]
  refine wpAny_comprehension_free (use := none) rfl hs hclos hkind hnames (wpAny_mono h (fun xv s₁ h₁ => ?_) fun _ _ e => e)
  obtain ⟨I, fp, wr, n, P, Md, St, news, Bd, Rv, rfl, W, hsz, hst, hfp, self, ha, he, F, N, hLw, hw0, hwn, fin⟩ := h₁
  refine self 0 _ _ _ hst ?_
  refine blockX Bd Rv W hsz hcell hkind hst hfp (fun s' Q' E' => self 0 s' Q' E') ha he ?_
  intro D C h' tk m' ys hyl hR hD hn hD0 hC0 hCD hk hCw hDw
  refine ⟨m', hn, fun h'' hs'' => ?_⟩
  obtain ⟨F', N', o1⟩ := srcX_frame F N hLw hw0 hwn (hs''.extBut _ _ (Ne.symm hCD) hD) hD0 (fun b o hb e => hs''.extBut b o (fun q => by rw [q, hC0] at e; cases e) (hk b o hb e))
  exact fin ys hyl hR D h'' tk F' N' o1

theorem Assign_ListComp_X {elt target iter : Expr} {y : Str} {py : Pos} {scope : Scope} {cl : List (Str × Addr)} {pos spos : Pos} {Q : Flow → Shared → Prop} (_F₀ : Fr h₀ L s.heap m) (hLe : env.locals = L)
    (hsw : swapsWith (.ListComp elt [⟨target, iter, [], 0⟩] scope pos) (some (.Name y py)) spos.line env = pure true)
    (hclos : closureFor scope env = pure cl) (hcell : ∀ z ∈ scope.names, z.2 ≠ .cell) (hkind : scope.kind = .function)
    (hnames : ∀ z ∈ scope.names, z.2 = .local → scope.names.lookup z.1 = some .local)
    (hy : env.kindOf y = some .local) (hp : (env.scope.kind == .class || (env.scope.kind == .module && env.locals != env.globals)) = false)
    (h : wpAny (model prog w) A (eval iter env) (SrcX prog w A h₀ L m env elt target scope cl (fun s₂ => LCg.FinA h₀ L m s₂ y Q)) E s)
    (hs : ∀ x, foldedSetIterable iter env x = pure x := by intro _; rfl) :
    wpAny (model prog w) A (exec (.Assign [.Name y py] (.ListComp elt [⟨target, iter, [], 0⟩] scope pos) spos) env) Q E s := by
  subst hLe
  rw [exec_Assign_Name_used _ _ _ _ hsw]
  refine wpAny_bind (wpAny_standAt (wpAny_bind ?_))
  show wpAny _ A (do let _ ← comprehension (.ListComp elt [⟨target, iter, [], 0⟩] scope pos) scope env _ (newList []) false (eval iter env) (some (assign (.Name y py) env))) _ _ s
  refine wpAny_bind (wpAny_mono (wpAny_comprehension_free (use := some (assign (.Name y py) env)) (Q := fun _ s' => Q .next s') rfl hs hclos hkind hnames
    (wpAny_mono h (fun xv s₁ h₁ => ?_) fun _ _ e => e)) (fun _ s' hq => wpAny_pure (wpAny_pure hq)) fun _ _ e => e)
  obtain ⟨I, fp, wr, n, P, Md, St, news, Bd, Rv, rfl, W, hsz, hst, hfp, self, ha, he, F, N, hLw, hw0, hwn, fin⟩ := h₁
  refine self 0 _ _ _ hst ?_
  refine blockX Bd Rv W hsz hcell hkind hst hfp (fun s' Q' E' => self 0 s' Q' E') ha he ?_
  intro D C h' tk m' ys hyl hR hD hn hD0 hC0 hCD hk hCw hDw
  show wpAny _ A (assign (.Name y py) env (.ref D)) _ _ _
  obtain ⟨F', N', o1⟩ := srcX_frame F N hLw hw0 hwn hD hD0 hk
  have hCL : C ≠ env.locals := fun e => by obtain ⟨o, _, _, e1, _⟩ := F.ns; rw [← e, hC0] at e1; cases e1
  have hC₀ : h₀.get? C = none := by
    cases q : h₀.get? C with
    | none => rfl
    | some o => have := F.keep _ _ q; rw [hC0] at this; cases this
  refine wpAny_assign_Name (wpAny_storeName_local hy F'.ns (fun h₂ hn₂ hs₂ => ?_) hp)
  have hL₀ : h₀.get? env.locals = none := Heap.get?_none_of_le F'.above
  have F₂ : Fr h₀ env.locals h₂ (fun z => if z = y then some (.ref D) else m z) := ⟨hn₂, fun b o e => hs₂.extBut b o (fun q => by rw [q, hL₀] at e; cases e) (F'.keep b o e), F'.above⟩
  refine ⟨m', hn.sameBut hs₂ hCL, fun h'' hs'' => fin ys hyl hR D h'' _ (F₂.change hs'' hCL hC₀) (fun p hp => ?_) o1⟩
  have z : h₂.get? p.1 = some p.2 := hs₂.extBut _ _ (N' p hp).2.1 (N' p hp).1
  refine ⟨hs''.extBut _ _ ?_ z, (N' p hp).2⟩
  rcases List.mem_cons.mp hp with rfl | hp
  · exact Ne.symm hCD
  · intro e
    have h1 := (N p hp).1
    rw [e, hC0] at h1; cases h1
end
end Mine

end
section
open PySem PySem.W PyProof.Rows PySem.Calls PySem.Spec
set_option Elab.async false
set_option maxRecDepth 100000
set_option maxHeartbeats 8000000
namespace Mine
theorem freshWZip : True := by w_top off; trivial
abbrev IsZipM (h : Heap) (z TI TO : Addr) (f0 f1 : Value) : Prop :=
  h.get? z = some { cls := .type "zip", dict := none, data := .fields #[f0, f1, .bool false, .ref TI, .ref TO], slots := #[] }
abbrev IsTupA (h : Heap) (T : Addr) (vs : List Value) : Prop := h.get? T = some { cls := .type "tuple", data := .seq vs.toArray }
abbrev ZR := Addr × Addr × List Value
noncomputable def RowsAt (h : Heap) (i : Nat) (R : List ZR) : Prop := ∀ r ∈ R, h.IsListIter r.1 r.2.1 i ∧ h.IsList r.2.1 r.2.2.toArray
structure ZAp (z TI TO : Addr) (R : List ZR) : Prop where
  TIz : TI ≠ z
  TOz : TO ≠ z
  TITO : TI ≠ TO
  it : ∀ r ∈ R, r.1 ≠ z ∧ r.1 ≠ TO ∧ r.1 ≠ TI
  nd : (R.map (·.1)).Nodup
  ls : ∀ r ∈ R, r.2.1 ≠ z ∧ r.2.1 ≠ TO ∧ ∀ q ∈ R, r.2.1 ≠ q.1
abbrev wrZ (z TO : Addr) (R : List ZR) : List Addr := z :: TO :: R.map (·.1)
abbrev colZ (R : List ZR) (i : Nat) : List Value := R.map fun r => r.2.2.getD i .none
section
variable {prog : Program} {w : World} {A : Around} {E : Value → Shared → Prop} {s : Shared}
theorem wpAny_loadIfAlive {M : Model} {a : Addr} {Q : Option Obj → Shared → Prop} (h : Q (s.heap.get? a) s) : wpAny M A (loadIfAlive a) Q E s := fun Γ p _ => by
  show Sem.wp M Γ (Sem.loadIfAlive a Sem.pure) _ _ _ _
  rw [Sem.wp, Sem.wp]
  exact h
theorem rowsAt_keep {h h' : Heap} {i : Nat} {R : List ZR} {wr : List Addr} (x : RowsAt h i R) (hk : ∀ b o, b ∉ wr → h.get? b = some o → h'.get? b = some o) (h1 : ∀ r ∈ R, r.1 ∉ wr) (h2 : ∀ r ∈ R, r.2.1 ∉ wr) : RowsAt h' i R :=
  fun r hr => ⟨(x r hr).1.at fun o e => hk _ o (h1 r hr) e, (x r hr).2.at fun o e => hk _ o (h2 r hr) e⟩

/-- one iterator of the row moves on -/
theorem rows_step {h h' : Heap} {i : Nat} {z TI TO : Addr} {done rem : List ZR} {r : ZR} (D : ZAp z TI TO (done ++ r :: rem)) (hd : RowsAt h (i + 1) done) (hr : RowsAt h i (r :: rem)) (hit : h'.IsListIter r.1 r.2.1 (i + 1)) (hs : Heap.SameBut r.1 h h') :
    RowsAt h' (i + 1) (done ++ [r]) ∧ RowsAt h' i rem := by
  have nd := D.nd
  rw [List.map_append, List.map_cons] at nd
  have hnd := List.nodup_append.mp nd
  have hm : r ∈ done ++ r :: rem := List.mem_append_right _ List.mem_cons_self
  constructor
  · intro q hq
    rcases List.mem_append.mp hq with hq | hq
    · have hne : q.1 ≠ r.1 := hnd.2.2 q.1 (List.mem_map_of_mem hq) r.1 List.mem_cons_self
      have hl := (D.ls q (List.mem_append_left _ hq)).2.2 r hm
      exact ⟨(hd q hq).1.extBut hs.extBut hne, (hd q hq).2.extBut hs.extBut hl⟩
    · rw [List.mem_singleton.mp hq]
      exact ⟨hit, (hr r List.mem_cons_self).2.extBut hs.extBut ((D.ls r hm).2.2 r hm)⟩
  · intro q hq
    have hne : q.1 ≠ r.1 := fun e => (List.nodup_cons.mp hnd.2.1).1 (e ▸ List.mem_map_of_mem hq)
    have hl := (D.ls q (List.mem_append_right _ (List.mem_cons_of_mem _ hq))).2.2 r hm
    exact ⟨(hr q (List.mem_cons_of_mem _ hq)).1.extBut hs.extBut hne, (hr q (List.mem_cons_of_mem _ hq)).2.extBut hs.extBut hl⟩
theorem getD_of_lt {row : List Value} {i : Nat} (h : i < row.length) : row.toArray[i]? = some (row.getD i .none) := by
  rw [List.getElem?_toArray, List.getD_eq_getElem?_getD, List.getElem?_eq_getElem h]; rfl

theorem wpAny_updTup {T : Addr} {tv : List Value} {x : Value} {k : Nat} {Q : Unit → Shared → Prop} (hT : IsTupA s.heap T tv) (hsz : tv.length ≤ sizeLine)
    (h : ∀ h', IsTupA h' T (tv.set k x) → Heap.SameBut T s.heap h' → Q () { s with heap := h' }) : wpAny (model prog w) A (updateSeq T (·.setIfInBounds k x)) Q E s := by
  refine wpAny_updateSeq hT rfl (h _ ?_ (Heap.SameBut.update ..)) (by rw [List.size_toArray]; exact hsz) (by simp only [Array.size_setIfInBounds, List.size_toArray]; omega)
  show _ = some _
  rw [Heap.get?_update_self _ hT rfl]
  simp [Obj.mapSeq]
theorem take_set_snoc {tv : List Value} {k : Nat} {x : Value} {c : List Value} (hk : k < tv.length) (h : tv.take k = c) : (tv.set k x).take (k + 1) = c ++ [x] := by
  rw [List.take_add_one, List.take_set_of_le (Nat.le_refl _), h, List.getElem?_set_self hk]
  rfl
theorem zipM_free {z TI TO : Addr} {f0 f1 : Value} {Q : Bool → Shared → Prop} (hz : IsZipM s.heap z TI TO f0 f1) (hf : f0 = .none ∨ ∃ T, f0 = rawInt T) (hT : Q true s)
    (hF : ∀ h' f1', IsZipM h' z TI TO f0 f1' → Heap.SameBut z s.heap h' → Q false { s with heap := h' }) : wpAny (model prog w) A (Builtin.SmallTypes.ownedTupleIsFree (.ref z)) Q E s := by
  unfold Builtin.SmallTypes.ownedTupleIsFree
  refine wpAny_bind (wpAny_field hz rfl (x := f0) rfl ?_)
  rcases hf with rfl | ⟨T, rfl⟩
  · exact wpAny_pure hT
  · show wpAny _ _ (loadIfAlive _ >>= _) _ _ _
    refine wpAny_bind (wpAny_loadIfAlive ?_)
    cases q : s.heap.get? ((T : Int).toNat) with
    | none => exact wpAny_pure hT
    | some o =>
      show wpAny _ _ (field (.ref z) 1 >>= _) _ _ _
      refine wpAny_bind (wpAny_field hz rfl (x := f1) rfl ?_)
      refine wpAny_ite ?_
      split
      · refine wpAny_bind (wpAny_setField_rec hz (by simp) fun h₁ hz₁ hs₁ => ?_)
        exact wpAny_pure (hF h₁ _ hz₁ hs₁)
      · exact wpAny_pure (hF s.heap f1 hz (.refl ..))

theorem zipM_next {z TI TO : Addr} {f0 f1 : Value} {R : List ZR} {i : Nat} {tv : List Value} {Q : Value → Shared → Prop} (D : ZAp z TI TO R)
    (hz : IsZipM s.heap z TI TO f0 f1) (hf : f0 = .none ∨ ∃ T, f0 = rawInt T) (hTI : IsTupA s.heap TI (R.map fun r => .ref r.1)) (hTO : IsTupA s.heap TO tv) (htv : tv.length = R.length) (hR : RowsAt s.heap i R) (hlt : ∀ r ∈ R, i < r.2.2.length) (hne : R ≠ []) (hsz : R.length ≤ sizeLine)
    (hQ : ∀ h' T f0' f1' tv', IsZipM h' z TI TO f0' f1' → (f0' = .none ∨ ∃ T, f0' = rawInt T) → IsTupA h' TI (R.map fun r => .ref r.1) → IsTupA h' TO tv' → tv'.length = R.length → RowsAt h' (i + 1) R → h'.IsTuple T (colZ R i).toArray → KeepX (wrZ z TO R) s.heap h' → T ∉ wrZ z TO R → Q (.ref T) { s with heap := h' }) :
    wpAny (model prog w) A (Builtin.«zip.__next__» ⟨[.ref z], []⟩) (fun fin s' => ∃ v, fin = .done (.ret v) ∧ Q v s') E s := by
  show wpAny _ _ (field (.ref z) 2 >>= _) _ _ _
  refine wpAny_bind (wpAny_field hz rfl (x := .bool false) rfl ?_)
  show wpAny _ _ (field (.ref z) 3 >>= _) _ _ _
  refine wpAny_bind (wpAny_field hz rfl (x := .ref TI) rfl ?_)
  refine wpAny_bind (wpAny_seqItems hTI rfl ?_)
  have he : ((R.map fun r => Value.ref r.1).toArray.isEmpty) = false := by
    cases R with
    | nil => exact absurd rfl hne
    | cons r R => rfl
  show wpAny _ _ (if (R.map fun r => Value.ref r.1).toArray.isEmpty = true then _ else _) _ _ _
  rw [if_neg (by rw [he]; simp)]
  show wpAny _ _ (Builtin.SmallTypes.ownedTupleIsFree (.ref z) >>= _) _ _ _
  refine wpAny_bind (zipM_free hz hf ?_ ?_)
  · simp only [if_true]
    refine wpAny_bind (wpAny_rule ?_)
    refine wpAny_bind (wpAny_field hz rfl (x := .ref TO) rfl ?_)
    refine wpAny_bind (wpAny_setField_rec hz (by simp) fun h₁ hz₁ hs₁ => ?_)
    have rows₁ : RowsAt h₁ i R := rowsAt_keep (wr := [z]) hR (fun b o hb e => hs₁.extBut b o (by simpa using hb) e) (fun r hr => by simpa using (D.it r hr).1) (fun r hr => by simpa using (D.ls r hr).1)
    have hTO₁ : IsTupA h₁ TO tv := hs₁.extBut _ _ D.TOz hTO
    refine wpAny_bind (wpAny_forIn_list _ (fun rest b s' => ∃ (done rem : List ZR) (h' : Heap) (tv' : List Value), R = done ++ rem ∧ rest = (rem.map fun r => Value.ref r.1).zipIdx done.length ∧ b = (none, ()) ∧ s' = { s with heap := h' } ∧ RowsAt h' (i + 1) done ∧ RowsAt h' i rem ∧
      IsTupA h' TO tv' ∧ tv'.length = R.length ∧ tv'.take done.length = colZ done i ∧ KeepX (TO :: R.map (·.1)) h₁ h') _ ?_ ?_ _ _ ⟨[], R, h₁, tv, rfl, rfl, rfl, rfl, (fun _ h => (nomatch h)), rows₁, hTO₁, htv, rfl, fun _ _ _ e => e⟩)
    · rintro x rest b s' ⟨done, rem, h', tv', e, hrest, rfl, rfl, hd, hr, hTO', hl', htk, hk⟩
      cases rem with
      | nil => cases hrest
      | cons r rem =>
        rw [List.map_cons, List.zipIdx_cons] at hrest
        obtain ⟨rfl, rfl⟩ := List.cons.inj hrest
        have D' : ZAp z TI TO (done ++ r :: rem) := e ▸ D
        have hm : r ∈ R := e ▸ List.mem_append_right _ List.mem_cons_self
        refine wpAny_bind (wpAny_onRaise ?_)
        show wpAny _ _ (Builtin.SmallTypes.nextOf (.ref r.1) >>= _) _ _ _
        refine wpAny_bind (wpAny_nextOf_list_item (hr r List.mem_cons_self).1 (hr r List.mem_cons_self).2 (getD_of_lt (hlt r hm)) fun h₂ hit hs => wpAny_pure ?_)
        have hTO₂ : IsTupA h₂ TO tv' := hs.extBut _ _ (Ne.symm (D.it r hm).2.1) hTO'
        obtain ⟨g1, g2⟩ := rows_step D' hd hr hit hs
        refine wpAny_bind (wpAny_seqItems hTO₂ rfl ?_)
        refine wpAny_bind (wpAny_updTup hTO₂ (by rw [hl']; exact hsz) fun h₃ hTO₃ hs₃ => ?_)
        refine wpAny_bind (wpAny_letGo (wpAny_pure ?_))
        have hlen : R.length = done.length + (rem.length + 1) := by rw [e, List.length_append, List.length_cons]
        have k3 : ∀ b o, b ∉ [TO] → h₂.get? b = some o → h₃.get? b = some o := fun b o hb e => hs₃.extBut b o (by simpa using hb) e
        refine ⟨done ++ [r], rem, h₃, _, by rw [e, List.append_assoc]; rfl, by rw [List.length_append]; rfl, rfl, rfl, ?_, ?_, hTO₃, by rw [List.length_set]; exact hl', ?_, ?_⟩
        · exact rowsAt_keep g1 k3 (fun q hq => by simpa using (D'.it q (by rcases List.mem_append.mp hq with h | h; exact List.mem_append_left _ h; rw [List.mem_singleton.mp h]; exact List.mem_append_right _ List.mem_cons_self)).2.1) (fun q hq => by simpa using (D'.ls q (by rcases List.mem_append.mp hq with h | h; exact List.mem_append_left _ h; rw [List.mem_singleton.mp h]; exact List.mem_append_right _ List.mem_cons_self)).2.1)
        · exact rowsAt_keep g2 k3 (fun q hq => by simpa using (D'.it q (List.mem_append_right _ (List.mem_cons_of_mem _ hq))).2.1) (fun q hq => by simpa using (D'.ls q (List.mem_append_right _ (List.mem_cons_of_mem _ hq))).2.1)
        · rw [List.length_append, colZ, List.map_append]
          exact take_set_snoc (by omega) htk
        · intro b o hb e2
          have hb1 : b ≠ TO := fun q => hb (by rw [q]; exact List.mem_cons_self)
          have hb2 : b ≠ r.1 := fun q => hb (by rw [q]; exact List.mem_cons_of_mem _ (List.mem_map_of_mem hm))
          exact hs₃.extBut b o hb1 (hs.extBut b o hb2 (hk b o hb e2))
    · rintro b s' ⟨done, rem, h', tv', e, hrest, rfl, rfl, hd, hr, hTO', hl', htk, hk⟩
      cases rem with
      | cons r rem => rw [List.map_cons, List.zipIdx_cons] at hrest; cases hrest
      | nil =>
      rw [List.append_nil] at e
      subst e
      rw [List.take_of_length_le (Nat.le_of_eq hl')] at htk
      subst htk
      refine wpAny_bind (wpAny_seqItems hTO' rfl ?_)
      refine wpAny_bind (wpAny_newTuple ?_ (by rw [List.toList_toArray, hl']; exact hsz))
      have hzw : z ∉ TO :: R.map (·.1) := by
        intro hm
        rcases List.mem_cons.mp hm with h | h
        · exact D.TOz h.symm
        · obtain ⟨q, hq, e⟩ := List.mem_map.mp h
          exact (D.it q hq).1 e
      have hTIw : TI ∉ TO :: R.map (·.1) := by
        intro hm
        rcases List.mem_cons.mp hm with h | h
        · exact D.TITO h
        · obtain ⟨q, hq, e⟩ := List.mem_map.mp h
          exact (D.it q hq).2.2 e
      have hz' : IsZipM h' z TI TO .ellipsis f1 := hk _ _ hzw hz₁
      have hTI' : IsTupA h' TI (R.map fun r => .ref r.1) := hk _ _ hTIw (hs₁.extBut _ _ D.TIz hTI)
      show wpAny _ _ (Builtin.SmallTypes.ownedTupleHandOut (.ref z) (.ref h'.objs.size) >>= _) _ _ _
      refine wpAny_bind ?_
      unfold Builtin.SmallTypes.ownedTupleHandOut
      have hz₆ : IsZipM (h'.push { cls := .type "tuple", data := .seq (colZ R i).toArray.toList.toArray }) z TI TO .ellipsis f1 := Heap.get?_push_of_some _ hz'
      refine wpAny_bind (wpAny_setField_rec hz₆ (by simp) fun h₇ hz₇ hs₇ => ?_)
      replace hz₇ : IsZipM h₇ z TI TO (rawInt h'.objs.size) f1 := hz₇
      refine wpAny_setField_rec hz₇ (by simp) fun h₈ hz₈ hs₈ => ?_
      replace hz₈ : IsZipM h₈ z TI TO (rawInt h'.objs.size) (.bool false) := hz₈
      have hzlt : z < h'.objs.size := Heap.lt_size hz'
      have up : ∀ c o, c ≠ z → h'.get? c = some o → h₈.get? c = some o := fun c o c1 e => hs₈.extBut _ _ c1 (hs₇.extBut _ _ c1 (Heap.get?_push_of_some _ e))
      have hT₈ : h₈.IsTuple h'.objs.size (colZ R i).toArray := ⟨_, hs₈.extBut _ _ (Nat.ne_of_gt hzlt) (hs₇.extBut _ _ (Nat.ne_of_gt hzlt) (Heap.get?_push_size _ rfl)), rfl, _, rfl⟩
      refine wpAny_pure ⟨_, rfl, ?_⟩
      refine hQ h₈ _ _ _ _ hz₈ (.inr ⟨_, rfl⟩) (up _ _ D.TIz hTI') (up _ _ D.TOz hTO') hl' (rowsAt_keep (wr := [z]) hd (fun b o hb e => up b o (by simpa using hb) e) (fun r hr => by simpa using (D.it r hr).1) (fun r hr => by simpa using (D.ls r hr).1)) hT₈ ?_ ?_
      · intro b o hb e2
        have hb1 : b ≠ z := fun q => hb (by rw [q]; exact List.mem_cons_self)
        exact up b o hb1 (hk b o (fun hm => hb (List.mem_cons_of_mem _ hm)) (hs₁.extBut b o hb1 e2))
      · intro hm
        rcases List.mem_cons.mp hm with h | h
        · exact Nat.ne_of_gt hzlt h
        · rcases List.mem_cons.mp h with h | h
          · exact Nat.ne_of_gt (Heap.lt_size hTO') h
          · obtain ⟨q, hq, e⟩ := List.mem_map.mp h
            obtain ⟨_, e1, _⟩ := (hd q hq).1
            exact Nat.ne_of_lt (Heap.lt_size e1) e
  · intro h₁ f1' hz₁ hs₁
    simp only [Bool.false_eq_true, if_false]
    have rows₁ : RowsAt h₁ i R := rowsAt_keep (wr := [z]) hR (fun b o hb e => hs₁.extBut b o (by simpa using hb) e) (fun r hr => by simpa using (D.it r hr).1) (fun r hr => by simpa using (D.ls r hr).1)
    refine wpAny_bind (forIn_array_ _ (fun rest b s' => ∃ (done rem : List ZR) (h' : Heap), R = done ++ rem ∧ rest = (rem.map fun r => Value.ref r.1) ∧ b = (none, (colZ done i).toArray) ∧ s' = { s with heap := h' } ∧ RowsAt h' (i + 1) done ∧ RowsAt h' i rem ∧ KeepX (R.map (·.1)) h₁ h') _ ?_ ?_ _ _
      ⟨[], R, h₁, rfl, rfl, rfl, rfl, (fun _ h => (nomatch h)), rows₁, fun _ _ _ e => e⟩)
    · rintro x rest b s' ⟨done, rem, h', e, hrest, rfl, rfl, hd, hr, hk⟩
      cases rem with
      | nil => cases hrest
      | cons r rem =>
        obtain ⟨rfl, rfl⟩ := List.cons.inj hrest
        have D' : ZAp z TI TO (done ++ r :: rem) := e ▸ D
        have hm : r ∈ R := e ▸ List.mem_append_right _ List.mem_cons_self
        refine wpAny_bind (wpAny_holding ?_)
        show wpAny _ _ (Builtin.SmallTypes.nextOf (.ref r.1) >>= _) _ _ _
        refine wpAny_bind (wpAny_nextOf_list_item (hr r List.mem_cons_self).1 (hr r List.mem_cons_self).2 (getD_of_lt (hlt r hm)) fun h₂ hit hs => wpAny_pure ?_)
        obtain ⟨g1, g2⟩ := rows_step D' hd hr hit hs
        refine wpAny_pure ⟨done ++ [r], rem, h₂, by rw [e, List.append_assoc]; rfl, rfl, ?_, rfl, g1, g2, ?_⟩
        · show (none, (colZ done i).toArray.push _) = _
          rw [List.push_toArray, colZ, colZ, List.map_append]; rfl
        · intro b o hb e2
          have hb2 : b ≠ r.1 := fun q => hb (by rw [q]; exact List.mem_map_of_mem hm)
          exact hs.extBut b o hb2 (hk b o hb e2)
    · rintro b s' ⟨done, rem, h', e, hrest, rfl, rfl, hd, hr, hk⟩
      cases rem with
      | cons r rem => cases hrest
      | nil =>
      rw [List.append_nil] at e
      subst e
      show wpAny _ _ (newTuple (colZ R i).toArray.toList >>= _) _ _ _
      refine wpAny_bind (wpAny_newTuple ?_ (by rw [List.toList_toArray, colZ, List.length_map]; exact hsz))
      have hzw : z ∉ R.map (·.1) := fun h => by
        obtain ⟨q, hq, e⟩ := List.mem_map.mp h
        exact (D.it q hq).1 e
      have hTIw : TI ∉ R.map (·.1) := fun h => by
        obtain ⟨q, hq, e⟩ := List.mem_map.mp h
        exact (D.it q hq).2.2 e
      have hTOw : TO ∉ R.map (·.1) := fun h => by
        obtain ⟨q, hq, e⟩ := List.mem_map.mp h
        exact (D.it q hq).2.1 e
      have up : ∀ c o, h'.get? c = some o → (h'.push { cls := .type "tuple", data := .seq (colZ R i).toArray.toList.toArray }).get? c = some o := fun c o e => Heap.get?_push_of_some _ e
      have hz' : IsZipM h' z TI TO f0 f1' := hk _ _ hzw hz₁
      have hTO' : IsTupA h' TO tv := hk _ _ hTOw (hs₁.extBut _ _ D.TOz hTO)
      refine wpAny_pure ⟨_, rfl, ?_⟩
      refine hQ _ _ _ _ _ (up _ _ hz') hf (up _ _ (hk _ _ hTIw (hs₁.extBut _ _ D.TIz hTI))) (up _ _ hTO') htv (rowsAt_keep (wr := []) hd (fun b o _ e => up b o e) (fun _ _ h => nomatch h) (fun _ _ h => nomatch h)) ⟨_, Heap.get?_push_size _ rfl, rfl, _, rfl⟩ ?_ ?_
      · intro b o hb e2
        have hb1 : b ≠ z := fun q => hb (by rw [q]; exact List.mem_cons_self)
        exact up _ _ (hk b o (fun hm => hb (List.mem_cons_of_mem _ (List.mem_cons_of_mem _ hm))) (hs₁.extBut b o hb1 e2))
      · intro hm
        rcases List.mem_cons.mp hm with h | h
        · exact Nat.ne_of_gt (Heap.lt_size hz') h
        · rcases List.mem_cons.mp h with h | h
          · exact Nat.ne_of_gt (Heap.lt_size hTO') h
          · obtain ⟨q, hq, e⟩ := List.mem_map.mp h
            obtain ⟨_, e1, _⟩ := (hd q hq).1
            exact Nat.ne_of_lt (Heap.lt_size e1) e
end
end Mine

end
section
open PySem PySem.W PyProof.Rows PySem.Calls PySem.Spec
set_option Elab.async false
set_option maxRecDepth 100000
set_option maxHeartbeats 8000000
namespace Mine
theorem freshWZip2 : True := by w_top off; trivial
theorem typeCall_zip (as : List Value) : checkTypeCall "zip" ⟨as, []⟩ = pure () := by kernel_rfl
theorem newCall_zip : ∀ (ls : List Addr), ls.length ≤ 11 → checkBuiltinCall "zip.__new__" ⟨.type "zip" :: ls.map .ref, []⟩ = pure ()
  | [], _ => by kernel_rfl
  | [a], _ => by kernel_rfl
  | [a, b], _ => by kernel_rfl
  | [a, b, c], _ => by kernel_rfl
  | [a, b, c, d], _ => by kernel_rfl
  | [a, b, c, d, e], _ => by kernel_rfl
  | [a, b, c, d, e, f], _ => by kernel_rfl
  | [a, b, c, d, e, f, g], _ => by kernel_rfl
  | [a, b, c, d, e, f, g, h], _ => by kernel_rfl
  | [a, b, c, d, e, f, g, h, i], _ => by kernel_rfl
  | [a, b, c, d, e, f, g, h, i, j], _ => by kernel_rfl
  | [a, b, c, d, e, f, g, h, i, j, k], _ => by kernel_rfl
  | a :: b :: c :: d :: e :: f :: g :: h :: i :: j :: k :: l :: _, hh => absurd hh (by simp only [List.length_cons]; omega)
theorem args_object_init (obj : Value) : ∀ (ls : List Addr), ls.length ≤ 11 → argsOk "object.__init__" ⟨obj :: ls.map .ref, []⟩ := by
  intro ls hl
  unfold argsOk; rw [signature?_of (id := "object.__init__") (n := ['_', '_', 't', 'i', 'n', 'i', '_', '_']) (o := ['t', 'c', 'e', 'j', 'b', 'o']) (by kernel_rfl) PySem.F.owner_object]
  match ls, hl with
  | [], _ => kernel_rfl
  | [a], _ => kernel_rfl
  | [a, b], _ => kernel_rfl
  | [a, b, c], _ => kernel_rfl
  | [a, b, c, d], _ => kernel_rfl
  | [a, b, c, d, e], _ => kernel_rfl
  | [a, b, c, d, e, f], _ => kernel_rfl
  | [a, b, c, d, e, f, g], _ => kernel_rfl
  | [a, b, c, d, e, f, g, h], _ => kernel_rfl
  | [a, b, c, d, e, f, g, h, i], _ => kernel_rfl
  | [a, b, c, d, e, f, g, h, i, j], _ => kernel_rfl
  | [a, b, c, d, e, f, g, h, i, j, k], _ => kernel_rfl
  | a :: b :: c :: d :: e :: f :: g :: h :: i :: j :: k :: l :: _, hh => exact absurd hh (by simp only [List.length_cons]; omega)
section
variable {prog : Program} {w : World} {A : Around} {E : Value → Shared → Prop} {s : Shared}
theorem newClass_zip {xs : List Value} {Q : Value × List Value → Shared → Prop} (h : Q (.type "zip", xs) s) : wpAny (model prog w) A (Builtin.SmallTypes.newClass "zip" ⟨.type "zip" :: xs, []⟩) Q E s := by
  have hsub := sub_zip
  unfold Builtin.SmallTypes.newClass
  wp_walk
  exact h
abbrev LR := Addr × List Value
theorem iterAll_lists (R0 : List LR) {Q : List Value → Shared → Prop} (hl : ∀ r ∈ R0, s.heap.IsList r.1 r.2.toArray)
    (hQ : ∀ h' (R : List ZR), R.map (fun r => (r.2.1, r.2.2)) = R0 → RowsAt h' 0 R → (R.map (·.1)).Nodup → (∀ r ∈ R, s.heap.objs.size ≤ r.1 ∧ r.1 < h'.objs.size) → (∀ b o, s.heap.get? b = some o → h'.get? b = some o) → s.heap.objs.size ≤ h'.objs.size → Q (R.map fun r => .ref r.1) { s with heap := h' }) :
    wpAny (model prog w) A (Builtin.SmallTypes.iterAll (R0.map fun r => .ref r.1)) Q E s := by
  unfold Builtin.SmallTypes.iterAll
  refine wpAny_bind (wpAny_forIn_list _ (fun rest b s' => ∃ (R : List ZR) (rem : List LR) (h' : Heap), R.map (fun r => (r.2.1, r.2.2)) ++ rem = R0 ∧ rest = rem.map (fun r => Value.ref r.1) ∧ b = (R.map fun r => Value.ref r.1).toArray ∧ s' = { s with heap := h' } ∧
    RowsAt h' 0 R ∧ (R.map (·.1)).Nodup ∧ (∀ r ∈ R, s.heap.objs.size ≤ r.1 ∧ r.1 < h'.objs.size) ∧ (∀ b o, s.heap.get? b = some o → h'.get? b = some o) ∧ s.heap.objs.size ≤ h'.objs.size) _ ?_ ?_ _ _
    ⟨[], R0, s.heap, rfl, rfl, rfl, rfl, (fun _ h => (nomatch h)), List.nodup_nil, (fun _ h => (nomatch h)), (fun _ _ e => e), Nat.le_refl _⟩)
  · rintro x rest b s' ⟨R, rem, h', e, hrest, rfl, rfl, hr, hn, hs, hk, hz⟩
    cases rem with
    | nil => cases hrest
    | cons r rem =>
      obtain ⟨rfl, rfl⟩ := List.cons.inj hrest
      have hm : r ∈ R0 := e ▸ List.mem_append_right _ List.mem_cons_self
      have hl' : h'.IsList r.1 r.2.toArray := (hl r hm).at fun o e => hk _ o e
      refine wpAny_bind (wpAny_holding (wpAny_pyIter_list hl' ?_))
      have up : ∀ b o, h'.get? b = some o → (h'.push { cls := .type "list_iterator", data := .fields #[.ref r.1, .int 0 0] }).get? b = some o := fun b o e => Heap.get?_push_of_some _ e
      refine wpAny_pure ⟨R ++ [(h'.objs.size, r.1, r.2)], rem, _, ?_, rfl, ?_, rfl, ?_, ?_, ?_, fun b o e => up b o (hk b o e), ?_⟩
      · rw [← e, List.map_append, List.append_assoc]; rfl
      · show (List.toArray _).push _ = _
        rw [List.push_toArray, List.map_append]; rfl
      · intro q hq
        rcases List.mem_append.mp hq with hq | hq
        · exact ⟨(hr q hq).1.at fun o e => up _ o e, (hr q hq).2.at fun o e => up _ o e⟩
        · rw [List.mem_singleton.mp hq]
          exact ⟨⟨_, Heap.get?_push_size _ rfl, rfl, rfl⟩, hl'.at fun o e => up _ o e⟩
      · rw [List.map_append]
        refine List.nodup_append.mpr ⟨hn, by simp, ?_⟩
        intro a ha b hb
        rw [List.mem_singleton.mp hb]
        obtain ⟨q, hq, rfl⟩ := List.mem_map.mp ha
        exact Nat.ne_of_lt (hs q hq).2
      · intro q hq
        rw [Heap.size_push]
        rcases List.mem_append.mp hq with hq | hq
        · exact ⟨(hs q hq).1, Nat.lt_succ_of_lt (hs q hq).2⟩
        · rw [List.mem_singleton.mp hq]
          exact ⟨hz, Nat.lt_succ_self _⟩
      · rw [Heap.size_push]
        exact Nat.le_succ_of_le hz
  · rintro b s' ⟨R, rem, h', e, hrest, rfl, rfl, hr, hn, hs, hk, hz⟩
    cases rem with
    | cons r rem => cases hrest
    | nil =>
      rw [List.append_nil] at e
      exact wpAny_pure (hQ h' R e hr hn hs hk hz)
end
noncomputable def ZipNew (R0 : List LR) (s : Shared) (P : Value → Shared → Prop) : Prop :=
  (∀ r ∈ R0, s.heap.IsList r.1 r.2.toArray) ∧ R0.length ≤ sizeLine ∧ ∀ h' z TI TO (R : List ZR), R.map (fun r => (r.2.1, r.2.2)) = R0 → ZAp z TI TO R → IsZipM h' z TI TO .none (.bool false) → IsTupA h' TI (R.map fun r => .ref r.1) → (∃ tv, IsTupA h' TO tv ∧ tv.length = R.length) →
    RowsAt h' 0 R → (∀ b o, s.heap.get? b = some o → h'.get? b = some o) → (∀ b ∈ wrZ z TO R, s.heap.objs.size ≤ b ∧ b < h'.objs.size) → TI < h'.objs.size → P (.ref z) { s with heap := h' }
theorem meets_zip (R0 : List LR) : Meets (Builtin.«zip.__new__» ⟨.type "zip" :: R0.map (fun r => .ref r.1), []⟩) (fun _ P s => ZipNew R0 s (fun v s' => P (.ok (.ret v)) s')) :=
  .of_wp fun prog w A P s h => by
    obtain ⟨hl, hsz, h⟩ := h
    show wpAny _ _ (Builtin.SmallTypes.newClass "zip" _ >>= _) _ _ _
    refine wpAny_bind (newClass_zip ?_)
    show wpAny _ _ (Builtin.SmallTypes.iterAll (R0.map fun r => .ref r.1) >>= _) _ _ _
    refine wpAny_bind (iterAll_lists R0 hl fun h' R e hr hn hs hk hsz0 => ?_)
    have hlen : R.length = R0.length := by rw [← e, List.length_map]
    refine wpAny_bind (wpAny_newTuple ?_ (by rw [List.length_map, hlen]; exact hsz))
    refine wpAny_bind (wpAny_newTuple ?_ (by rw [List.length_map, List.length_map, hlen]; exact hsz))
    refine wpAny_bind ?_
    unfold Builtin.SmallTypes.newRecord
    refine wpAny_newObj_type ?_ (by show _ ≤ sizeLine + 2; rw [PySem.sizeLine_eq]; exact Nat.le_of_ble_eq_true rfl)
    refine wpAny_pure ⟨_, rfl, ?_⟩
    dsimp only
    generalize hH1 : h'.push { cls := .type "tuple", data := .seq (R.map fun r => Value.ref r.1).toArray } = H1
    generalize hH2 : H1.push { cls := .type "tuple", data := .seq (List.map (fun x => Value.none) (List.map (fun r => Value.ref r.1) R)).toArray } = H2
    have s1 : H1.objs.size = h'.objs.size + 1 := by rw [← hH1, Heap.size_push]
    have s2 : H2.objs.size = h'.objs.size + 1 + 1 := by rw [← hH2, Heap.size_push, s1]
    have u1 : ∀ b o, h'.get? b = some o → H1.get? b = some o := fun b o e => hH1 ▸ Heap.get?_push_of_some _ e
    have u2 : ∀ b o, H1.get? b = some o → H2.get? b = some o := fun b o e => hH2 ▸ Heap.get?_push_of_some _ e
    have t1 : H1.get? h'.objs.size = some { cls := .type "tuple", data := .seq (R.map fun r => Value.ref r.1).toArray } := hH1 ▸ Heap.get?_push_size _ rfl
    have t2 : H2.get? H1.objs.size = some { cls := .type "tuple", data := .seq (List.map (fun x => Value.none) (List.map (fun r => Value.ref r.1) R)).toArray } := hH2 ▸ Heap.get?_push_size _ rfl
    have hsN : ∀ r ∈ R, @LE.le Nat _ s.heap.objs.size r.1 ∧ @LT.lt Nat _ r.1 h'.objs.size := hs
    have hls : ∀ r ∈ R, @LT.lt Nat _ r.2.1 s.heap.objs.size := fun r hr => by
      have hm : (r.2.1, r.2.2) ∈ R0 := e ▸ List.mem_map_of_mem (f := fun r : ZR => (r.2.1, r.2.2)) hr
      obtain ⟨o, e1, _⟩ := hl _ hm
      exact Heap.lt_size e1
    refine h _ _ h'.objs.size H1.objs.size R e ⟨?_, ?_, ?_, ?_, hn, ?_⟩ (Heap.get?_push_size _ rfl) (Heap.get?_push_of_some _ (u2 _ _ t1)) ⟨_, Heap.get?_push_of_some _ t2, by rw [List.length_map, List.length_map]⟩ ?_ ?_ ?_ ?_
    · refine neN ?_
      omega
    · refine neN ?_
      omega
    · refine neN ?_
      omega
    · intro r hr
      have := hsN r hr
      refine ⟨neN ?_, neN ?_, neN ?_⟩ <;> omega
    · intro r hr
      have := hls r hr
      refine ⟨neN ?_, neN ?_, fun q hq => neN ?_⟩
      · omega
      · omega
      · have := hsN q hq
        omega
    · exact rowsAt_keep (wr := []) hr (fun b o _ e => Heap.get?_push_of_some _ (u2 _ _ (u1 _ _ e))) (fun _ _ h => nomatch h) (fun _ _ h => nomatch h)
    · exact fun b o e => Heap.get?_push_of_some _ (u2 _ _ (u1 _ _ (hk b o e)))
    · intro b hb
      rw [Heap.size_push]
      suffices hh : @LE.le Nat _ s.heap.objs.size b ∧ @LT.lt Nat _ b (H2.objs.size + 1) from hh
      rcases List.mem_cons.mp hb with rfl | hb
      · omega
      · rcases List.mem_cons.mp hb with rfl | hb
        · omega
        · obtain ⟨q, hq, rfl⟩ := List.mem_map.mp hb
          have := hsN q hq
          omega
    · rw [Heap.size_push]
      refine ltN ?_
      omega
end Mine

end
section
open PySem PySem.W PyProof.Rows PySem.Calls PySem.Spec
set_option Elab.async false
set_option maxRecDepth 100000
set_option maxHeartbeats 8000000
namespace Mine
theorem freshWZip3 : True := by w_top off; trivial
section
variable {prog : Program} {w : World} {A : Around} {E : Value → Shared → Prop} {s : Shared}
theorem zipM_end {z TI TO : Addr} {f0 f1 : Value} {r : ZR} {R : List ZR} {i : Nat} {tv : List Value} {Q : Fin → Shared → Prop} (hh : A.handled = none) (D : ZAp z TI TO (r :: R))
    (hz : IsZipM s.heap z TI TO f0 f1) (hf : f0 = .none ∨ ∃ T, f0 = rawInt T) (hTI : IsTupA s.heap TI ((r :: R).map fun r => .ref r.1)) (hTO : IsTupA s.heap TO tv) (hR : RowsAt s.heap i (r :: R)) (hend : r.2.2.length ≤ i)
    (hE : ∀ h' e, KeepX (wrZ z TO (r :: R)) s.heap h' → (∃ o, h'.get? e = some o ∧ o.cls = .type "StopIteration") → E (.ref e) { s with heap := h' }) :
    wpAny (model prog w) A (Builtin.«zip.__next__» ⟨[.ref z], []⟩) Q E s := by
  have hx : r.2.2.toArray[i]? = none := by rw [List.getElem?_toArray]; exact List.getElem?_eq_none hend
  have hm : r ∈ r :: R := List.mem_cons_self
  show wpAny _ _ (field (.ref z) 2 >>= _) _ _ _
  refine wpAny_bind (wpAny_field hz rfl (x := .bool false) rfl ?_)
  show wpAny _ _ (field (.ref z) 3 >>= _) _ _ _
  refine wpAny_bind (wpAny_field hz rfl (x := .ref TI) rfl ?_)
  refine wpAny_bind (wpAny_seqItems hTI rfl ?_)
  show wpAny _ _ (if ((r :: R).map fun r => Value.ref r.1).toArray.isEmpty = true then _ else _) _ _ _
  rw [if_neg (by simp)]
  show wpAny _ _ (Builtin.SmallTypes.ownedTupleIsFree (.ref z) >>= _) _ _ _
  refine wpAny_bind (zipM_free hz hf ?_ ?_)
  · simp only [if_true]
    refine wpAny_bind (wpAny_rule ?_)
    refine wpAny_bind (wpAny_field hz rfl (x := .ref TO) rfl ?_)
    refine wpAny_bind (wpAny_setField_rec hz (by simp) fun h₁ hz₁ hs₁ => ?_)
    refine wpAny_bind ?_
    simp only [List.map_cons, List.zipIdx_cons, List.forIn_cons]
    refine wpAny_bind (wpAny_bind (wpAny_onRaise ?_))
    show wpAny _ _ (Builtin.SmallTypes.nextOf (.ref r.1) >>= _) _ _ _
    refine wpAny_bind (wpAny_nextOf_list_end hh ((hR r hm).1.extBut hs₁.extBut (D.it r hm).1) ((hR r hm).2.extBut hs₁.extBut (D.ls r hm).1) hx fun h₂ e hs₂ he => ?_)
    obtain ⟨oe, hoe, hce⟩ := he
    have hz₂ := hs₂ _ _ (Ne.symm (D.it r hm).1) hz₁
    have hez : e ≠ z := fun x => by subst x; rw [hz₂] at hoe; cases hoe; simp at hce
    refine wpAny_setField_rec hz₂ (by simp) fun h₃ _ hs₃ => hE h₃ e (fun c o hc x => ?_) ⟨oe, hs₃.extBut _ _ hez hoe, hce⟩
    have hb1 : c ≠ z := fun q => hc (by rw [q]; exact List.mem_cons_self)
    have hb2 : c ≠ r.1 := fun q => hc (by rw [q]; exact List.mem_cons_of_mem _ (List.mem_cons_of_mem _ List.mem_cons_self))
    exact hs₃.extBut _ _ hb1 (hs₂ _ _ hb2 (hs₁.extBut _ _ hb1 x))
  · intro h₁ f1' hz₁ hs₁
    simp only [Bool.false_eq_true, if_false]
    refine wpAny_bind ?_
    simp only [List.forIn_toArray, List.map_cons, List.forIn_cons]
    refine wpAny_bind (wpAny_bind (wpAny_holding ?_))
    show wpAny _ _ (Builtin.SmallTypes.nextOf (.ref r.1) >>= _) _ _ _
    refine wpAny_bind (wpAny_nextOf_list_end hh ((hR r hm).1.extBut hs₁.extBut (D.it r hm).1) ((hR r hm).2.extBut hs₁.extBut (D.ls r hm).1) hx fun h₂ e hs₂ he => ?_)
    refine hE h₂ e (fun c o hc x => ?_) he
    have hb1 : c ≠ z := fun q => hc (by rw [q]; exact List.mem_cons_self)
    have hb2 : c ≠ r.1 := fun q => hc (by rw [q]; exact List.mem_cons_of_mem _ (List.mem_cons_of_mem _ List.mem_cons_self))
    exact hs₂ _ _ hb2 (hs₁.extBut _ _ hb1 x)

noncomputable def ZSt (z TI TO : Addr) (R : List ZR) (i : Nat) (h : Heap) : Prop :=
  (∃ f0 f1, IsZipM h z TI TO f0 f1 ∧ (f0 = .none ∨ ∃ T, f0 = rawInt T)) ∧ IsTupA h TI (R.map fun r => .ref r.1) ∧ (∃ tv, IsTupA h TO tv ∧ tv.length = R.length) ∧ RowsAt h i R
noncomputable def ZP (R : List ZR) (i : Nat) (v : Value) (h : Heap) : Prop := ∃ T, v = .ref T ∧ h.IsTuple T (colZ R i).toArray
theorem zipM_turns (hh : A.handled = none) {z TI TO : Addr} {R : List ZR} {n : Nat} {x : Str} {px : Pos} (D : ZAp z TI TO R) (hne : R ≠ []) (hlen : ∀ r ∈ R, r.2.2.length = n) (hsz : R.length ≤ sizeLine) :
    KTurns prog w A (.Name x px) z (z :: TI :: TO :: (R.map (·.1) ++ R.map (·.2.1))) (wrZ z TO R) n (ZP R) (fun i v h => ZP R i v h ∧ ZSt z TI TO R (i + 1) h) (ZSt z TI TO R) where
  sub := fun b hb => by
    rcases List.mem_cons.mp hb with rfl | hb
    · exact List.mem_cons_self
    · rcases List.mem_cons.mp hb with rfl | hb
      · exact List.mem_cons_of_mem _ (List.mem_cons_of_mem _ List.mem_cons_self)
      · exact List.mem_cons_of_mem _ (List.mem_cons_of_mem _ (List.mem_cons_of_mem _ (List.mem_append_left _ hb)))
  frame := fun i h h' st hk => by
    obtain ⟨⟨f0, f1, hz, hf⟩, hTI, ⟨tv, hTO, htv⟩, hr⟩ := st
    refine ⟨⟨f0, f1, hk _ List.mem_cons_self _ hz, hf⟩, hk _ (List.mem_cons_of_mem _ List.mem_cons_self) _ hTI, ⟨tv, hk _ (List.mem_cons_of_mem _ (List.mem_cons_of_mem _ List.mem_cons_self)) _ hTO, htv⟩, fun r hr' => ?_⟩
    exact ⟨(hr r hr').1.at fun o e => hk _ (List.mem_cons_of_mem _ (List.mem_cons_of_mem _ (List.mem_cons_of_mem _ (List.mem_append_left _ (List.mem_map_of_mem hr'))))) o e,
      (hr r hr').2.at fun o e => hk _ (List.mem_cons_of_mem _ (List.mem_cons_of_mem _ (List.mem_cons_of_mem _ (List.mem_append_right _ (List.mem_map_of_mem (f := fun r : ZR => r.2.1) hr'))))) o e⟩
  item := fun i s Q E hi st hQ => by
    obtain ⟨⟨f0, f1, hz, hf⟩, hTI, ⟨tv, hTO, htv⟩, hr⟩ := st
    have hT : s.TypeIs (.ref z) "zip" := ⟨_, hz, rfl⟩
    unfold pyNext
    refine wpAny_bind (wpAny_attempt (wpAny_callSpecial?_slot (name := Str.ofString "__next__") hT PySem.F.slot_zip_next
      (wpAny_call_entry PySem.F.slot_zip_next hT PySem.F.entry_zip_next
        (zipM_next D hz hf hTI hTO htv hr (fun r hr' => by rw [hlen r hr']; exact hi) hne hsz fun h' T f0' f1' tv' a1 a2 a3 a4 a5 a6 a7 a8 _ => wpAny_pure ?_) (PySem.F.args_zip_next_1 _))))
    exact hQ (.ref T) h' _ ⟨⟨T, rfl, a7⟩, ⟨f0', f1', a1, a2⟩, a3, ⟨tv', a4, a5⟩, a6⟩ a8
  go := fun i v s Q E hm hQ => wpAny_pure (hQ s.heap hm.1 hm.2 fun _ _ _ e => e)
  done := fun s Q E st hQ => by
    obtain ⟨⟨f0, f1, hz, hf⟩, hTI, ⟨tv, hTO, htv⟩, hr⟩ := st
    have hT : s.TypeIs (.ref z) "zip" := ⟨_, hz, rfl⟩
    cases R with
    | nil => exact absurd rfl hne
    | cons r R =>
      unfold pyNext
      refine wpAny_bind (wpAny_attempt (wpAny_callSpecial?_slot (name := Str.ofString "__next__") hT PySem.F.slot_zip_next
        (wpAny_call_entry PySem.F.slot_zip_next hT PySem.F.entry_zip_next (zipM_end hh D hz hf hTI hTO hr (Nat.le_of_eq (hlen r List.mem_cons_self)) fun h' e hk he => ?_) (PySem.F.args_zip_next_1 _))))
      obtain ⟨o, ho, hc⟩ := he
      refine wpAny_bind (wpAny_isInstance (T := "StopIteration") (b := true) ⟨o, ho, hc⟩ isSubtype_stop ?_)
      exact wpAny_pure (hQ h' _ hk)
theorem zipM_self {z TI TO : Addr} {R : List ZR} {i : Nat} {Q : Value → Shared → Prop} (st : ZSt z TI TO R i s.heap) (h : Q (.ref z) s) : wpAny (model prog w) A (pyIter (.ref z)) Q E s := by
  obtain ⟨⟨f0, f1, hz, hf⟩, _⟩ := st
  have hT : s.TypeIs (.ref z) "zip" := ⟨_, hz, rfl⟩
  refine wpAny_pyIter_slot hT PySem.F.slot_zip_iter (wpAny_call_entry PySem.F.slot_zip_iter hT PySem.F.entry_zip_iter ?_ (PySem.F.args_zip_iter_1 _))
  show wpAny _ _ (ret (.ref z)) _ _ s
  exact wpAny_pure ⟨_, rfl, "zip", _, hT, PySem.F.slot_zip_next.lookup, h⟩
theorem call_zipM (R0 : List LR) {Q : Value → Shared → Prop} (hl : ∀ r ∈ R0, s.heap.IsList r.1 r.2.toArray) (h11 : R0.length ≤ 11)
    (h : ∀ h' z TI TO (R : List ZR), R.map (fun r => (r.2.1, r.2.2)) = R0 → ZAp z TI TO R → ZSt z TI TO R 0 h' → (∀ b o, s.heap.get? b = some o → h'.get? b = some o) → (∀ b ∈ wrZ z TO R, s.heap.objs.size ≤ b ∧ b < h'.objs.size) → TI < h'.objs.size → Q (.ref z) { s with heap := h' }) :
    wpAny (model prog w) A (call (.type "zip") (R0.map fun r => .ref r.1)) Q E s := by
  have e : R0.map (fun r => Value.ref r.1) = (R0.map (·.1)).map .ref := by rw [List.map_map]; rfl
  rw [e]
  refine callType_new PySem.F.called_zip (by decide) (typeCall_zip _) (newCall_zip _ (by rw [List.length_map]; exact h11)) (fun obj => args_object_init obj _ (by rw [List.length_map]; exact h11)) PySem.F.entry_zip_new (e ▸ meets_zip R0) ?_
  refine ⟨hl, by rw [PySem.sizeLine_eq]; omega, fun h' z TI TO R e D hz hTI hTO hr hk hw ht => ⟨⟨_, hz, rfl⟩, h h' z TI TO R e D ⟨⟨_, _, hz, .inl rfl⟩, hTI, hTO, hr⟩ hk hw ht⟩⟩
end
end Mine

end
section
open PySem PySem.W PyProof.Rows PySem.Calls PySem.Spec
set_option Elab.async false
set_option maxRecDepth 100000
set_option maxHeartbeats 8000000
namespace Mine
theorem freshWZip4 : True := by w_top off; trivial
noncomputable def minL : List Int → Int
  | [] => 0
  | [a] => a
  | a :: b :: l => min a (minL (b :: l))
theorem minL_mem : ∀ {l : List Int}, l ≠ [] → minL l ∈ l ∧ ∀ a ∈ l, minL l ≤ a
  | [], h => absurd rfl h
  | [a], _ => ⟨List.mem_cons_self, fun b hb => by rw [List.mem_singleton.mp hb]; exact Int.le_refl _⟩
  | a :: b :: l, _ => by
    obtain ⟨h1, h2⟩ := minL_mem (l := b :: l) (List.cons_ne_nil _ _)
    have e : minL (a :: b :: l) = min a (minL (b :: l)) := rfl
    rw [e]
    constructor
    · rcases Int.le_total a (minL (b :: l)) with h | h
      · rw [Int.min_eq_left h]; exact List.mem_cons_self
      · rw [Int.min_eq_right h]; exact List.mem_cons_of_mem _ h1
    · intro c hc
      rcases List.mem_cons.mp hc with rfl | hc
      · exact Int.min_le_left _ _
      · exact Int.le_trans (Int.min_le_right _ _) (h2 c hc)
theorem minL_eq {l : List Int} {M : Int} (h1 : M ∈ l) (h2 : ∀ a ∈ l, M ≤ a) : M = minL l := by
  obtain ⟨g1, g2⟩ := minL_mem (l := l) (List.ne_nil_of_mem h1)
  exact Int.le_antisymm (h2 _ g1) (g2 _ h1)
section
variable {prog : Program} {w : World} {A : Around} {E : Value → Shared → Prop} {s : Shared} {env : Env} {h₀ : Heap} {L : Addr} {m : Str → Option Value} {news : Led}
theorem min_tuple {T : Addr} {vs : List Value} {ns : List Int} {Q : Value → Shared → Prop} (hh : A.handled = none) (hT : s.heap.IsTuple T vs.toArray) (hi : IntsAre vs ns) (hne : ns ≠ [])
    (h : ∀ h' (t : Tok) tk, Grows s.heap h' → Q (.int (minL ns) t) { s with heap := h', toks := tk }) : wpAny (model prog w) A (call (.builtin "min") [.ref T]) Q E s := by
  obtain ⟨xs, e⟩ := hi.allInts.items
  have hns : ns = xs.toList.map (·.1) := by rw [← hi.numsOf, ← nums_intItems, ← e]
  have hsz : 0 < xs.size := by
    have h3 := List.length_pos_iff.mpr hne
    rw [hns, List.length_map, Array.length_toList] at h3; exact h3
  rw [e] at hT
  have hlt : T < s.heap.objs.size := by obtain ⟨_, e, _⟩ := hT; exact Heap.lt_size e
  refine call_min_walk (wpAny_pyIter_tuple hT ?_)
  refine ⟨_, [_, T], [_], _, _, _, _, rfl, Walks.tuple (A := A.in1) hh _ T (Nat.ne_of_lt hlt) (intItems xs), ⟨⟨_, Heap.get?_push_size _ rfl, rfl, rfl⟩, hT.push _⟩, fun c hc => ?_, by simpa [intItems] using hsz, CmpOf.ints_lt (numAt xs) (fun _ _ => intItems_at), fun v h' tk hP hk => ?_⟩
  · show c < (s.heap.push _).objs.size
    rw [Heap.size_push]
    rcases List.mem_cons.mp hc with rfl | hc
    · exact Nat.lt_succ_self _
    · rw [List.mem_singleton.mp hc]; exact Nat.lt_succ_of_lt hlt
  · obtain ⟨t, rfl⟩ := intItems_at hP
    have hold : Grows s.heap h' := fun c o e => by
      refine hk c o (fun hm => ?_) (Heap.get?_push_of_some _ e)
      rw [List.mem_singleton.mp hm] at e
      exact Nat.lt_irrefl _ (Heap.lt_size e)
    have hsz' : (intItems xs).size = xs.size := by simp [intItems]
    rw [hsz']
    obtain ⟨h1, h2⟩ := argBest_lt (numAt xs) (xs.size - 1)
    have hmin : numAt xs (argBest (fun i j => decide (numAt xs i < numAt xs j)) (xs.size - 1)) = minL ns := by
      refine minL_eq ?_ fun a ha => ?_
      · rw [hns, numAt_eq]; exact PySem.getD_mem (by rw [List.length_map, Array.length_toList]; omega)
      · rw [hns] at ha
        obtain ⟨j, hj, rfl⟩ := mem_getD ha
        rw [List.length_map, Array.length_toList] at hj
        rw [← numAt_eq]; exact h2 j (by omega)
    rw [hmin]
    exact h h' t tk hold

theorem tuple_ne_ns {h : Heap} {T C : Addr} {vals : Array Value} {m' : Str → Option Value} (x : h.IsTuple T vals) (y : h.Ns C m') : T ≠ C := by
  rintro rfl
  obtain ⟨o, e, _, n, hd⟩ := x
  obtain ⟨o', es, ep, e', hd', _⟩ := y
  rw [e] at e'; cases e'
  rw [hd] at hd'; cases hd'

theorem assignX_name {x : Str} {px : Pos} {scope : Scope} {cl : List (Str × Addr)} {fp : List Addr} {n : Nat} {R : List ZR} (hx : scope.names.lookup x = some .local) (hkind : scope.kind = .function) :
    AssignX prog w A env (.Name x px) scope cl fp n (ZP R) (fun i m h => ∃ T, m x = some (.ref T) ∧ h.IsTuple T (colZ R i).toArray) := by
  rintro i v C s' m' Q' E' hi ⟨T, rfl, hT⟩ hn hfp hQ
  refine wpAny_assign_Name (wpAny_storeName_local (lookup_relabel_local hx) hn (fun h₃ hn₃ hs₃ => ?_) (by simp [compEnvC, relabel, hkind]))
  exact hQ h₃ _ _ hn₃ ⟨T, by simp, hT.extBut hs₃.extBut (tuple_ne_ns hT hn)⟩ fun b o hb e => hs₃.extBut b o hb e

theorem elt_frame {wr : List Addr} {hb h : Heap} {C : Addr} {m'' : Str → Option Value} (F : Fr h₀ L hb m) (hLw : L ∉ wr) (hw0 : ∀ b ∈ wr, h₀.get? b = none) (hn : h.Ns C m'') (hk : KeepX wr hb h) (hC : hb.get? C = none) :
    Fr h₀ L h m ∧ ∃ oC, News h₀ L h [(C, oC)] ∧ LCg.NsObj oC m'' := by
  have up : ∀ b o, h₀.get? b = some o → b ∉ wr := fun b o e hm => by rw [hw0 b hm] at e; cases e
  refine ⟨⟨F.ns.at' fun o e => hk _ o hLw e, fun b o e => hk b o (up b o e) (F.keep b o e), F.above⟩, ?_⟩
  obtain ⟨oC, e, hoC⟩ := LCg.ns_obj hn
  refine ⟨oC, fun p hp => ?_, hoC⟩
  rw [List.mem_singleton.mp hp]
  refine ⟨e, fun e1 => ?_, ?_⟩
  · have h1 : C = L := e1
    obtain ⟨o, _, _, e2, _⟩ := F.ns
    rw [← h1, hC] at e2; cases e2
  · cases q : h₀.get? C with
    | none => rfl
    | some o => have := F.keep _ _ q; rw [hC] at this; cases this

/-- what an element of such a comprehension must show -/
abbrev EltOk (prog : Program) (w : World) (A : Around) (env : Env) (h₀ : Heap) (L : Addr) (m : Str → Option Value) (elt : Expr) (scope : Scope) (cl : List (Str × Addr)) (n : Nat) (Bd : Nat → (Str → Option Value) → Heap → Prop) (Rv : Nat → Value → Prop) : Prop :=
  ∀ i C (s' : Shared) m'' oC (E' : Value → Shared → Prop), i < n → Bd i m'' s'.heap → Fr h₀ L s'.heap m → News h₀ L s'.heap [(C, oC)] → LCg.NsObj oC m'' →
    wpAny (model prog w) A (eval elt (compEnvC scope cl C env)) (fun y s'' => ∃ h tk, s'' = { s' with heap := h, toks := tk } ∧ Grows s'.heap h ∧ Rv i y) E' s'

theorem srcX_zipM {elt : Expr} {x : Str} {px : Pos} {scope : Scope} {cl : List (Str × Addr)} {Fin : Shared → List Value → Led → Prop} (R0 : List LR) (n : Nat) (Rv : Nat → Value → Prop) (hh : A.handled = none) (F : Fr h₀ L s.heap m) (N : News h₀ L s.heap news)
    (hl : ∀ r ∈ R0, s.heap.IsList r.1 r.2.toArray) (h11 : R0.length ≤ 11) (hne : R0 ≠ []) (hlen : ∀ r ∈ R0, r.2.length = n) (hn : n ≤ sizeLine)
    (hx : scope.names.lookup x = some .local) (hkind : scope.kind = .function)
    (helt : EltOk prog w A env h₀ L m elt scope cl n (fun i m h => ∃ T, m x = some (.ref T) ∧ h.IsTuple T (R0.map fun r => r.2.getD i .none).toArray) Rv)
    (fin : ∀ s₁ ys, List.length ys = n → (∀ j y, ys[j]? = some y → Rv j y) → (∃ h, s₁ = { s with heap := h }) → Fin s₁ ys news) :
    wpAny (model prog w) A (call (.type "zip") (R0.map fun r => .ref r.1)) (SrcX prog w A h₀ L m env elt (.Name x px) scope cl Fin) E s := by
  refine call_zipM R0 hl h11 fun h' z TI TO R e D st hk hw ht => ?_
  have hcol : ∀ i, colZ R i = R0.map fun r => r.2.getD i .none := fun i => by rw [← e, List.map_map]; rfl
  have hneR : R ≠ [] := fun q => hne (by rw [← e, q]; rfl)
  have hlenR : ∀ r ∈ R, r.2.2.length = n := fun r hr => hlen (r.2.1, r.2.2) (e ▸ List.mem_map_of_mem (f := fun r : ZR => (r.2.1, r.2.2)) hr)
  have hszR : R.length ≤ sizeLine := by rw [← List.length_map (as := R) (f := fun r : ZR => (r.2.1, r.2.2)), e, PySem.sizeLine_eq]; omega
  have F' : Fr h₀ L h' m := F.keeps hk
  have N' : News h₀ L h' news := N.grown hk
  have hLw : L ∉ wrZ z TO R := fun hm => Nat.lt_irrefl _ (Nat.lt_of_lt_of_le F.ns.lt (hw _ hm).1)
  have hw0 : ∀ b ∈ wrZ z TO R, h₀.get? b = none := fun b hb => by
    cases q : h₀.get? b with
    | none => rfl
    | some o => exact absurd (Nat.lt_of_lt_of_le (Heap.lt_size (F.keep _ _ q)) (hw _ hb).1) (Nat.lt_irrefl _)
  refine ⟨z, _, _, n, _, _, _, news, _, Rv, rfl, zipM_turns hh D hneR hlenR hszR, hn, st, ?_, fun i s' Q' E' st' hq => zipM_self st' hq, assignX_name hx hkind, ?_, F', N', hLw, hw0, fun p hp hm => Nat.lt_irrefl _ (Nat.lt_of_lt_of_le (Heap.lt_size (N p hp).1) (hw _ hm).1), fun ys a b => fin _ ys a b ⟨h', rfl⟩⟩
  · intro b hb
    rcases List.mem_cons.mp hb with rfl | hb
    · exact (hw _ List.mem_cons_self).2
    · rcases List.mem_cons.mp hb with rfl | hb
      · exact ht
      · rcases List.mem_cons.mp hb with rfl | hb
        · exact (hw _ (List.mem_cons_of_mem _ List.mem_cons_self)).2
        · rcases List.mem_append.mp hb with hb | hb
          · exact (hw _ (List.mem_cons_of_mem _ (List.mem_cons_of_mem _ hb))).2
          · obtain ⟨r, hr, rfl⟩ := List.mem_map.mp hb
            obtain ⟨o, e1, _⟩ := (st.2.2.2 r hr).2
            exact Heap.lt_size e1
  · intro i C s' m'' E' hi hns hB hkx hC
    obtain ⟨F₁, oC, N₁, hoC⟩ := elt_frame F' hLw hw0 hns hkx hC
    obtain ⟨T, h1, h2⟩ := hB
    rw [hcol] at h2
    exact helt i C s' m'' oC E' hi ⟨T, h1, h2⟩ F₁ N₁ hoC

theorem srcX_zip2 {elt : Expr} {a b : Str} {pa pb tp : Pos} {kk : Nat} {scope : Scope} {cl : List (Str × Addr)} {Fin : Shared → List Value → Led → Prop} {l1 l2 : Addr} {xs ys : List Value} (Rv : Nat → Value → Prop) (hh : A.handled = none) (F : Fr h₀ L s.heap m) (N : News h₀ L s.heap news)
    (hl1 : s.heap.IsList l1 xs.toArray) (hl2 : s.heap.IsList l2 ys.toArray) (hsz : xs.length ≤ sizeLine)
    (ha : scope.names.lookup a = some .local) (hb : scope.names.lookup b = some .local) (hkind : scope.kind = .function) (hab : a ≠ b)
    (helt : EltOk prog w A env h₀ L m elt scope cl (min xs.length ys.length) (fun i m _ => ∃ x y, xs[i]? = some x ∧ ys[i]? = some y ∧ m a = some x ∧ m b = some y) Rv)
    (fin : ∀ s₁ zs, List.length zs = min xs.length ys.length → (∀ j y, zs[j]? = some y → Rv j y) → (∃ h, s₁ = { s with heap := h }) → Fin s₁ zs news) :
    wpAny (model prog w) A (call (.type "zip") [.ref l1, .ref l2]) (SrcX prog w A h₀ L m env elt (.Tuple [.Name a pa, .Name b pb] kk tp) scope cl Fin) E s := by
  refine call_zip_2 hl1 hl2 fun h' hz hTI hTO hi1 hi2 hsz' hk => ?_
  have lt1 : l1 < s.heap.objs.size := by obtain ⟨_, e, _⟩ := hl1; exact Heap.lt_size e
  have lt2 : l2 < s.heap.objs.size := by obtain ⟨_, e, _⟩ := hl2; exact Heap.lt_size e
  have lt1' : @LT.lt Nat _ l1 s.heap.objs.size := lt1
  have lt2' : @LT.lt Nat _ l2 s.heap.objs.size := lt2
  have hLlt : @LT.lt Nat _ L s.heap.objs.size := F.ns.lt
  have D : ZipApart (s.heap.objs.size + 4) (s.heap.objs.size + 2) (s.heap.objs.size + 3) s.heap.objs.size (s.heap.objs.size + 1) l1 l2 := by
    constructor <;> (refine neN ?_; omega)
  have F' : Fr h₀ L h' m := F.keeps hk
  have N' : News h₀ L h' news := N.grown hk
  have hwlo : ∀ b ∈ [s.heap.objs.size + 4, s.heap.objs.size + 3, s.heap.objs.size, s.heap.objs.size + 1], s.heap.objs.size ≤ b := by
    intro b hb
    simp only [List.mem_cons, List.not_mem_nil, or_false] at hb
    rcases hb with rfl | rfl | rfl | rfl <;> omega
  have hLw : L ∉ [s.heap.objs.size + 4, s.heap.objs.size + 3, s.heap.objs.size, s.heap.objs.size + 1] := fun hm => Nat.lt_irrefl _ (Nat.lt_of_lt_of_le F.ns.lt (hwlo _ hm))
  have hw0 : ∀ b ∈ [s.heap.objs.size + 4, s.heap.objs.size + 3, s.heap.objs.size, s.heap.objs.size + 1], h₀.get? b = none := fun b hb => by
    cases q : h₀.get? b with
    | none => rfl
    | some o => exact absurd (Nat.lt_of_lt_of_le (Heap.lt_size (F.keep _ _ q)) (hwlo _ hb)) (Nat.lt_irrefl _)
  have W := KTurns.ofWalksU (elts := [.Name a pa, .Name b pb]) (k := kk) (pos := tp) (WalksT.zip2 (prog := prog) (w := w) (A := A) hh (s.heap.objs.size + 4) (s.heap.objs.size + 2) (s.heap.objs.size + 3) s.heap.objs.size (s.heap.objs.size + 1) l1 l2 D xs.toArray ys.toArray).toU
  have emin : min xs.toArray.size ys.toArray.size = min xs.length ys.length := by simp
  rw [emin] at W
  refine ⟨_, _, _, _, _, _, _, news, (fun i m _ => ∃ x y, xs[i]? = some x ∧ ys[i]? = some y ∧ m a = some x ∧ m b = some y), Rv, rfl, W, Nat.le_trans (Nat.min_le_left _ _) hsz, ⟨hz, hTI, ⟨_, _, hTO⟩, hi1, hi2, hl1.at fun o e => hk _ o e, hl2.at fun o e => hk _ o e⟩, ?_,
    fun i s' Q' E' st' hq => wpAny_pyIter_zip st'.1 hq, ?_, ?_, F', N', hLw, hw0, fun p hp hm => Nat.lt_irrefl _ (Nat.lt_of_lt_of_le (Heap.lt_size (N p hp).1) (hwlo _ hm)), fun zs a b => fin _ zs a b ⟨h', rfl⟩⟩
  · intro b hb
    rw [hsz']
    simp only [List.mem_cons, List.not_mem_nil, or_false] at hb
    suffices hh : @LT.lt Nat _ b (s.heap.objs.size + 5) from hh
    rcases hb with rfl | rfl | rfl | rfl | rfl | rfl | rfl <;> omega
  · rintro i v C s' m' Q' E' hi ⟨T, vals, rfl, ⟨x, y, hx, hy, rfl⟩, hT⟩ hn hfp hQ
    refine kcp_assign hh hT (lookup_relabel_local ha) (lookup_relabel_local hb) (by simp [compEnvC, relabel, hkind]) hn fun h₃ tk hn₃ hk₃ => ?_
    refine hQ h₃ tk _ hn₃ ⟨x, y, by simpa using hx, by simpa using hy, ?_, by simp⟩ hk₃
    simp [hab]
  · intro i C s' m'' E' hi hns hB hkx hC
    obtain ⟨F₁, oC, N₁, hoC⟩ := elt_frame F' hLw hw0 hns hkx hC
    exact helt i C s' m'' oC E' hi hB F₁ N₁ hoC
end
end Mine

end
section
open PySem PySem.W PyProof.Rows PySem.Calls PySem.Spec
set_option Elab.async false
set_option maxRecDepth 100000
set_option maxHeartbeats 8000000
namespace Mine
theorem freshWCut : True := by w_top off; trivial
noncomputable def FJ {σ : Type} (Le : σ → Led) (ps : σ → List (Str × Value)) (P : σ → Prop) (m : Str → Option Value) (nx : Led) : Prop := ∃ c : σ, nx = Le c ∧ P c ∧ ∀ p ∈ ps c, m p.1 = some p.2
section
variable {prog : Program} {w : World} {A : Around} {s : Shared} {env : Env} {h₀ : Heap} {L : Addr} {Q : Flow → Shared → Prop}
/-- a statement's cut: what it leaves is c; all other names are forgotten -/
theorem cutF {σ : Type} {st : Stmt} {m₀ : Str → Option Value} (Le : σ → Led) (ps : σ → List (Str × Value)) (P : σ → Prop) (_F : Fr h₀ L s.heap m₀)
    (h : wpAny (model prog w) A (exec st env) (CutE h₀ L (FJ Le ps P) s) NoE s)
    (k : ∀ c u h tk, P c → Fr h₀ L h (kstB u (ps c)) → News h₀ L h (Le c) → Q .next { s with heap := h, toks := tk }) :
    wpAny (model prog w) A (exec st env) Q NoE s :=
  wpAny_mono h (fun f s₂ q => by
    obtain ⟨rfl, h', tk, m', all, nx, rfl, F', N', hs, c, rfl, hc, h1⟩ := q
    have e : m' = kstB m' (ps c) := by
      funext y
      exact (kstB_eq h1 fun _ => rfl).symm
    exact k c m' h' tk hc (e ▸ F') fun p hp => N' p (hs p hp)) fun _ _ e => e.elim
theorem cutF_in {σ : Type} {Le : σ → Led} {ps : σ → List (Str × Value)} {P : σ → Prop} {s₁ : Shared} {h' : Heap} {tk : Nat} {m' : Str → Option Value} {all : Led} (c : σ)
    (F : Fr h₀ L h' m') (N : News h₀ L h' all) (hs : ∀ p ∈ Le c, p ∈ all) (hP : P c) (h1 : ∀ p ∈ ps c, m' p.1 = some p.2) : CutE h₀ L (FJ Le ps P) s₁ .next { s₁ with heap := h', toks := tk } :=
  ⟨rfl, h', tk, m', all, _, rfl, F, N, hs, c, rfl, hP, h1⟩
end
noncomputable def AllNe (d : Nat) : Led → Prop
  | [] => True
  | p :: r => (@Ne Nat p.1 d) ∧ AllNe d r
theorem allNe_of {d : Addr} : ∀ {l : Led}, (∀ q ∈ l, q.1 ≠ d) → AllNe d l
  | [], _ => trivial
  | p :: _, h => ⟨h p List.mem_cons_self, allNe_of fun q hq => h q (List.mem_cons_of_mem _ hq)⟩
theorem hne_one {lr : Addr} {o : Obj} {news : Led} (h : ∀ p ∈ [(lr, o)], ∀ q ∈ news, q.1 ≠ p.1) : AllNe lr news := allNe_of (h _ List.mem_cons_self)
theorem ints_at2 {vs : List Value} {ns : List Int} (h : IntsAre vs ns) : ∀ (i : Nat) {v : Value}, vs[i]? = some v → ∃ x t, v = .int x t ∧ ns[i]? = some x := by
  induction h with
  | nil => intro i v e; cases e
  | cons x t _ ih =>
    intro i v e
    cases i with
    | zero => exact ⟨x, t, (Option.some.inj e).symm, rfl⟩
    | succ i => exact ih i e
theorem ints_get : ∀ {ys : List Value} {xs : List Int}, ys.length = xs.length → (∀ (j : Nat) (y : Value), ys[j]? = some y → ∃ t, y = .int (xs.getD j 0) t) → IntsAre ys xs
  | [], [], _, _ => .nil
  | [], _ :: _, h, _ => nomatch h
  | _ :: _, [], h, _ => nomatch h
  | y :: ys, x :: xs, h, hr => by
    obtain ⟨t, e⟩ := hr 0 y rfl
    have e : y = .int x t := e
    subst e
    exact .cons x t (ints_get (Nat.succ.inj h) fun j z hz => hr (j + 1) z hz)
end Mine

end
section
open PySem PySem.W PyProof.Rows PySem.Calls PySem.Spec
set_option Elab.async false
set_option maxRecDepth 100000
set_option maxHeartbeats 8000000
namespace Mine
theorem freshWCompC : True := by w_top off; trivial
section
variable {prog : Program} {w : World} {A : Around} {E : Value → Shared → Prop} {s : Shared} {env : Env} {h₀ : Heap} {L : Addr} {m : Str → Option Value}
abbrev cellO : Obj := { cls := .type "cell", data := .cell none }
theorem newEnv_cells {M : Model} {scope : Scope} {globals : Addr} {cl : List (Str × Addr)} {qual : Str} {outer : Env} {Q : Env → Shared → Prop}
    (h : Q (newEnv scope s.heap.objs.size globals (cellsFrom (s.heap.objs.size + 1) scope.names cl) qual none .none (some outer) builtinsNs) { s with heap := pushCells (s.heap.push { cls := .type "dict", data := .dict #[] }) scope.names }) :
    wpAny M A (newFunctionEnv scope globals cl [] qual none .none (some outer)) Q E s := by
  simp only [newFunctionEnv, Option.isSome_some, if_true]
  refine wpAny_bind (wpAny_alloc ?_)
  refine wpAny_bind (wpAny_layCells _ (fun name kind cells => by cases hkc : kind == NameKind.cell <;> simp [hkc]) _ _ _ _ ?_)
  rw [show ({ s with heap := s.heap.push { cls := .type "dict", data := .dict #[] } } : Shared).heap.objs.size = s.heap.objs.size + 1 from Heap.size_push ..]
  rw [List.forIn_nil]
  exact wpAny_bind (wpAny_pure (wpAny_pure h))

noncomputable def EndC (h₀ : Heap) (L : Addr) (m : Str → Option Value) (s₁ : Shared) (priv : Led) (K : Value → Led → Prop) (y : Value) (s₂ : Shared) : Prop :=
  ∃ h' tk nw', s₂ = { s₁ with heap := h', toks := tk } ∧ Fr h₀ L h' m ∧ News h₀ L h' (priv ++ nw') ∧ (∀ q ∈ priv, AllNe q.1 nw') ∧ K y nw'
theorem allNe_mem {d : Nat} : ∀ {l : Led}, AllNe d l → ∀ q ∈ l, q.1 ≠ d
  | [], _, _, h => nomatch h
  | _ :: _, x, q, h => by
    rcases List.mem_cons.mp h with rfl | h
    · exact x.1
    · exact allNe_mem x.2 q h
abbrev TurnC (prog : Program) (w : World) (A : Around) (h₀ : Heap) (L : Addr) (m : Str → Option Value) (env : Env) (elt : Expr) (x : Str) (scope : Scope) (cl : List (Str × Addr)) (s₂ : Shared) (its : Array Value) (K : Nat → List Value → Led → Prop) : Prop :=
  ∀ i v ys nw I oI C oC X oX D h tk (E' : Value → Shared → Prop), its[i]? = some v → K i ys nw → oX.data = .cell (some v) → Fr h₀ L h m → News h₀ L h ([(I, oI), (C, oC), (X, oX), (D, LCg.lst ys)] ++ nw) → (∀ q ∈ [(I, oI), (C, oC), (X, oX), (D, LCg.lst ys)], AllNe q.1 nw) →
    ((@Ne Nat I C) ∧ (@Ne Nat I X) ∧ (@Ne Nat I D) ∧ (@Ne Nat C X) ∧ (@Ne Nat C D) ∧ (@Ne Nat X D)) →
    wpAny (model prog w) A (eval elt (compEnvC scope ((x, X) :: cl) C env)) (EndC h₀ L m { s₂ with heap := h, toks := tk } [(I, oI), (C, oC), (X, oX), (D, LCg.lst ys)] (fun y nw' => K (i + 1) (ys ++ [y]) nw')) E' { s₂ with heap := h, toks := tk }

theorem blockC {elt iter : Expr} {x : Str} {px : Pos} {scope : Scope} {cl : List (Str × Addr)} {pos : Pos} {s₂ : Shared} {I ax : Addr} {oax : Obj} {its : Array Value} {nx : Nat} {news : Led} {RR : Value → Addr → Result → Shared → Prop}
    (K : Nat → List Value → Led → Prop) (hh : A.handled = none) (hne : ax ≠ I) (hsz : its.size ≤ sizeLine) (hcf : ∀ n, cellsFrom n scope.names cl = (x, n) :: cl) (hpc : ∀ h, pushCells h scope.names = h.push cellO) (hkind : scope.kind = .function) (hxk : (relabel scope env).names.lookup x = some .cell)
    (hit : s₂.heap.IsListIter I ax 0) (hc : oax.cls = .type "list") (hd : oax.data = .seq its nx)
    (F : Fr h₀ L s₂.heap m) (N : News h₀ L s₂.heap news) (hIL : L ≠ I) (hI₀ : h₀.get? I = none) (off : ∀ p ∈ news, p.1 ≠ I) (h0 : K 0 [] news) (hsrc : ∀ i ys nw, K i ys nw → (ax, oax) ∈ nw)
    (turn : TurnC prog w A h₀ L m env elt x scope cl s₂ its K)
    (hRR : ∀ D C h tk m' ys nw, Fr h₀ L h m → News h₀ L h ((D, LCg.lst ys) :: nw) → AllNe D nw → h.Ns C m' → h₀.get? C = none → C ≠ L → C ≠ D → AllNe C nw → K its.size ys nw → RR (.ref D) C (.ok .next) { s₂ with heap := h, toks := tk }) :
    wpAny (model prog w) A (newList []) (fun acc s₃ => wpAny (model prog w) A (newFunctionEnv scope env.globals cl [] env.qual none .none (some env)) (fun cenv s₄ =>
      codeAny (model prog w) A (.compStart (.ListComp elt [⟨.Name x px, iter, [], 0⟩] scope pos) 0 (.ref I) acc { cenv with scope := relabel scope env }) (RR acc cenv.locals) s₄) E s₃) E s₂ := by
  refine wpAny_newObj_type (newEnv_cells ?_)
  dsimp only
  rw [hcf, hpc]
  generalize hH2 : s₂.heap.push { cls := .type "list", dict := none, data := .seq ([] : List Value).toArray } = H2
  generalize hH3 : H2.push { cls := .type "dict", data := .dict #[] } = H3
  generalize hH4 : H3.push cellO = h₁
  have z2 : @Eq Nat H2.objs.size (s₂.heap.objs.size + 1) := by rw [← hH2, Heap.size_push]
  have z3 : @Eq Nat H3.objs.size (s₂.heap.objs.size + 2) := by rw [← hH3, Heap.size_push, z2]
  have z4 : @Eq Nat h₁.objs.size (s₂.heap.objs.size + 3) := by rw [← hH4, Heap.size_push, z3]
  have zX : H2.objs.size + 1 = H3.objs.size := by rw [z2, z3]
  rw [zX]
  have u3 : ∀ b o, H2.get? b = some o → H3.get? b = some o := fun b o e => hH3 ▸ Heap.get?_push_of_some _ e
  have u4 : ∀ b o, H3.get? b = some o → h₁.get? b = some o := fun b o e => hH4 ▸ Heap.get?_push_of_some _ e
  have old : ∀ b o, s₂.heap.get? b = some o → h₁.get? b = some o := fun b o e => u4 _ _ (u3 _ _ (hH2 ▸ Heap.get?_push_of_some _ e))
  have gD : h₁.get? s₂.heap.objs.size = some (LCg.lst []) := u4 _ _ (u3 _ _ (hH2 ▸ Heap.get?_push_size _ rfl))
  have gC : h₁.get? H2.objs.size = some { cls := .type "dict", data := .dict #[] } := u4 _ _ (hH3 ▸ Heap.get?_push_size _ rfl)
  have gX : h₁.get? H3.objs.size = some cellO := hH4 ▸ Heap.get?_push_size _ rfl
  have nC : h₁.Ns H2.objs.size (fun _ => none) := by
    have h1 : H3.Ns H2.objs.size (fun _ => none) := hH3 ▸ Heap.Ns.new H2 (.type "dict")
    exact h1.at' fun o e => u4 _ _ e
  have fresh : ∀ a, s₂.heap.objs.size ≤ a → s₂.heap.get? a = none := fun a ha => by
    cases e : s₂.heap.get? a with
    | none => rfl
    | some o' => exact absurd (Heap.lt_size e) (Nat.not_lt.mpr ha)
  have fresh₀ : ∀ a, s₂.heap.objs.size ≤ a → h₀.get? a = none := fun a ha => by
    cases e : h₀.get? a with
    | none => rfl
    | some o' => have := F.keep a o' e; rw [fresh a ha] at this; cases this
  have hD₀ : h₀.get? s₂.heap.objs.size = none := fresh₀ _ (Nat.le_refl _)
  have hC₀ : h₀.get? H2.objs.size = none := fresh₀ _ (by rw [z2]; exact Nat.le_add_right _ _)
  have hX₀ : h₀.get? H3.objs.size = none := fresh₀ _ (by rw [z3]; exact Nat.le_add_right _ _)
  have hLlt : @LT.lt Nat _ L s₂.heap.objs.size := F.ns.lt
  have hIlt : @LT.lt Nat _ I s₂.heap.objs.size := by obtain ⟨_, e, _⟩ := hit; exact Heap.lt_size e
  have hDL : s₂.heap.objs.size ≠ L := Nat.ne_of_gt hLlt
  have hCL : H2.objs.size ≠ L := neN (by omega)
  have hXL : H3.objs.size ≠ L := neN (by omega)
  have hCI : I ≠ H2.objs.size := neN (by omega)
  have hXI : I ≠ H3.objs.size := neN (by omega)
  have hDI : I ≠ s₂.heap.objs.size := neN (by omega)
  have hCX : H2.objs.size ≠ H3.objs.size := neN (by omega)
  have hCD : H2.objs.size ≠ s₂.heap.objs.size := neN (by omega)
  have hXD : H3.objs.size ≠ s₂.heap.objs.size := neN (by omega)
  have hxlt : ∀ p ∈ news, @LT.lt Nat _ p.1 s₂.heap.objs.size := fun p hp => Heap.lt_size (N p hp).1
  have W := Walks.list (prog := prog) (w := w) hh I ax hne its
  have stOf : ∀ (h : Heap) (i : Nat), h.IsListIter I ax i → h.get? ax = some oax → (h.IsListIter I ax i ∧ h.IsList ax its) := fun h i a b => ⟨a, oax, b, hc, nx, hd⟩
  have loop : ∀ s₃ : Shared, s₃ = { s₂ with heap := h₁ } →
      codeAny (model prog w) A (.compLoop (.ListComp elt [⟨.Name x px, iter, [], 0⟩] scope pos) 0 (.ref I) (.ref s₂.heap.objs.size) (compEnvC scope ((x, H3.objs.size) :: cl) H2.objs.size env))
        (RR (.ref s₂.heap.objs.size) H2.objs.size) s₃ := by
    rintro s₃ rfl
    obtain ⟨Inv, hI1, hI2⟩ : ∃ Inv : Nat → Shared → Prop, (∀ k s', Inv k s' → ∃ h' tk i ys nw, s' = { s₂ with heap := h', toks := tk } ∧ i ≤ its.size ∧ k = its.size + 1 - i ∧ List.length ys = i ∧ h'.IsListIter I ax i ∧ Fr h₀ L h' m ∧ h'.Ns H2.objs.size (fun _ => none) ∧ (∃ v, h'.IsCell H3.objs.size v) ∧ News h₀ L h' ((s₂.heap.objs.size, LCg.lst ys) :: nw) ∧ AllNe I nw ∧ AllNe H2.objs.size nw ∧ AllNe H3.objs.size nw ∧ AllNe s₂.heap.objs.size nw ∧ K i ys nw) ∧ (∀ k s', (∃ h' tk i ys nw, s' = { s₂ with heap := h', toks := tk } ∧ i ≤ its.size ∧ k = its.size + 1 - i ∧ List.length ys = i ∧ h'.IsListIter I ax i ∧ Fr h₀ L h' m ∧ h'.Ns H2.objs.size (fun _ => none) ∧ (∃ v, h'.IsCell H3.objs.size v) ∧ News h₀ L h' ((s₂.heap.objs.size, LCg.lst ys) :: nw) ∧ AllNe I nw ∧ AllNe H2.objs.size nw ∧ AllNe H3.objs.size nw ∧ AllNe s₂.heap.objs.size nw ∧ K i ys nw) → Inv k s') := ⟨fun k s' => ∃ h' tk i ys nw, s' = { s₂ with heap := h', toks := tk } ∧ i ≤ its.size ∧ k = its.size + 1 - i ∧ List.length ys = i ∧ h'.IsListIter I ax i ∧ Fr h₀ L h' m ∧ h'.Ns H2.objs.size (fun _ => none) ∧ (∃ v, h'.IsCell H3.objs.size v) ∧ News h₀ L h' ((s₂.heap.objs.size, LCg.lst ys) :: nw) ∧ AllNe I nw ∧ AllNe H2.objs.size nw ∧ AllNe H3.objs.size nw ∧ AllNe s₂.heap.objs.size nw ∧ K i ys nw, fun _ _ h => h, fun _ _ h => h⟩
    refine kcp_loop Inv ?_ (its.size + 1) (hI2 _ _ ⟨h₁, _, 0, [], news, rfl, Nat.zero_le _, rfl, rfl, hit.at fun o e => old _ o e, F.keeps old, nC, ⟨none, _, gX, rfl⟩, fun p hp => ?_, allNe_of off, allNe_of fun q hq => neN (by have := hxlt q hq; omega), allNe_of fun q hq => neN (by have := hxlt q hq; omega), allNe_of fun q hq => neN (Nat.ne_of_lt (hxlt q hq)), h0⟩)
    · intro k s' hs'
      obtain ⟨h', tk, i, ys, nw, rfl, hi, rfl, hyl, hit', F', hn', ⟨v0, hX'⟩, N', aI, aC, aX, aD, hK⟩ := hI1 _ _ hs'
      clear hs'
      have hax' : h'.get? ax = some oax := (N' _ (List.mem_cons_of_mem _ (hsrc _ _ _ hK))).1
      have hst' := stOf h' i hit' hax'
      by_cases hlt : i < its.size
      · refine W.item i _ _ _ hlt hst' fun v h₂ tk₂ hPv hst₂ hk₂ => ?_
        refine wpAny_pure ?_
        have k2 : ∀ b o, b ≠ I → h'.get? b = some o → h₂.get? b = some o := fun b o hb e => hk₂ b o (by simpa using hb) e
        have hX₂ : h₂.IsCell H3.objs.size v0 := by obtain ⟨oX0, eX0, dX0⟩ := hX'; exact ⟨oX0, k2 _ _ (Ne.symm hXI) eX0, dX0⟩
        refine wpAny_assign_Name (wpAny_storeName_cell (by exact hkind) hxk (c := H3.objs.size) (by simp [compEnvC]) hX₂ fun h₃ hX₃ hs₃ => ?_)
        have k3 : ∀ b o, b ≠ I → b ≠ H3.objs.size → h'.get? b = some o → h₃.get? b = some o := fun b o hb hb' e => hs₃.extBut b o hb' (k2 b o hb e)
        have F₃ : Fr h₀ L h₃ m := ⟨F'.ns.at' fun o e => k3 _ o hIL (Ne.symm hXL) e, fun b o e => k3 b o (fun q => by rw [q, hI₀] at e; cases e) (fun q => by rw [q, hX₀] at e; cases e) (F'.keep b o e), F'.above⟩
        obtain ⟨oX, eX, dX⟩ := hX₃
        have hst₃ : h₃.IsListIter I ax (i + 1) := hst₂.1.extBut hs₃.extBut hXI
        obtain ⟨oI, eI, rI⟩ := hst₃
        obtain ⟨oC, eC, rC⟩ := LCg.ns_obj (hn'.at' fun o e => k3 _ o (Ne.symm hCI) hCX e : h₃.Ns H2.objs.size (fun _ => none))
        have N₃ : News h₀ L h₃ ([(I, oI), (H2.objs.size, oC), (H3.objs.size, oX), (s₂.heap.objs.size, LCg.lst ys)] ++ nw) := by
          intro p hp
          simp only [List.cons_append, List.nil_append, List.mem_cons] at hp
          rcases hp with rfl | rfl | rfl | rfl | hp
          · exact ⟨eI, Ne.symm hIL, hI₀⟩
          · exact ⟨eC, hCL, hC₀⟩
          · exact ⟨eX, hXL, hX₀⟩
          · have q := N' _ List.mem_cons_self
            exact ⟨k3 _ _ (Ne.symm hDI) (Ne.symm hXD) q.1, q.2⟩
          · have q := N' _ (List.mem_cons_of_mem _ hp)
            exact ⟨k3 _ _ (allNe_mem aI _ hp) (allNe_mem aX _ hp) q.1, q.2⟩
        have aP : ∀ q ∈ [(I, oI), (H2.objs.size, oC), (H3.objs.size, oX), (s₂.heap.objs.size, LCg.lst ys)], AllNe q.1 nw := by
          intro q hq
          simp only [List.mem_cons, List.not_mem_nil, or_false] at hq
          rcases hq with rfl | rfl | rfl | rfl
          · exact aI
          · exact aC
          · exact aX
          · exact aD
        refine wpAny_mono (turn i v ys nw I oI H2.objs.size oC H3.objs.size oX s₂.heap.objs.size h₃ tk₂ _ hPv hK dX F₃ N₃ aP ⟨hCI, hXI, hDI, hCX, hCD, hXD⟩) (fun y s₅ hq => ?_) fun _ _ e => e
        obtain ⟨h₄, tk₄, nw', rfl, F₄, N₄, a₄, hK₄⟩ := hq
        have mI := N₄ (I, oI) (by simp)
        have mC := N₄ (H2.objs.size, oC) (by simp)
        have mX := N₄ (H3.objs.size, oX) (by simp)
        have mD := N₄ (s₂.heap.objs.size, LCg.lst ys) (by simp)
        have aI' := a₄ (I, oI) (by simp)
        have aC' := a₄ (H2.objs.size, oC) (by simp)
        have aX' := a₄ (H3.objs.size, oX) (by simp)
        have aD' := a₄ (s₂.heap.objs.size, LCg.lst ys) (by simp)
        refine append_at (hsz := by show ys.toArray.size ≤ sizeLine; rw [List.size_toArray, hyl]; exact Nat.le_trans hi hsz) mD.1 fun h₅ hs₅ hD₅ => ?_
        refine ⟨its.size + 1 - (i + 1), by omega, hI2 _ _ ⟨h₅, tk₄, i + 1, ys ++ [y], nw', rfl, hlt, rfl, by rw [List.length_append, List.length_singleton, hyl], ⟨oI, hs₅.extBut _ _ hDI mI.1, rI⟩, F₄.change hs₅ hDL hD₀, ?_, ⟨_, oX, hs₅.extBut _ _ hXD mX.1, dX⟩, fun p hp => ?_, aI', aC', aX', aD', hK₄⟩⟩
        · exact (rC.ns mC.1).sameBut hs₅ hCD
        · rcases List.mem_cons.mp hp with rfl | hp
          · exact ⟨hD₅.trans (congrArg some (LCg.lst_snoc ys y)), mD.2⟩
          · have q := N₄ p (List.mem_append_right _ hp)
            exact ⟨hs₅.extBut _ _ (allNe_mem aD' _ hp) q.1, q.2⟩
      · obtain rfl : i = its.size := Nat.le_antisymm hi (Nat.not_lt.mp hlt)
        refine W.done _ _ _ hst' fun h₂ tk₂ hk₂ => ?_
        have k2 : ∀ b o, b ≠ I → h'.get? b = some o → h₂.get? b = some o := fun b o hb e => hk₂ b o (by simpa using hb) e
        refine hRR _ _ h₂ tk₂ _ ys nw ⟨F'.ns.at' fun o e => k2 _ o hIL e, fun b o e => k2 b o (fun q => by rw [q, hI₀] at e; cases e) (F'.keep b o e), F'.above⟩ (fun p hp => ?_) aD (hn'.at' fun o e => k2 _ o (Ne.symm hCI) e) hC₀ hCL hCD aC hK
        have q := N' p hp
        refine ⟨k2 _ _ ?_ q.1, q.2⟩
        rcases List.mem_cons.mp hp with rfl | hp
        · exact Ne.symm hDI
        · exact allNe_mem aI _ hp
    · rcases List.mem_cons.mp hp with rfl | hp
      · exact ⟨gD, hDL, hD₀⟩
      · exact ⟨old _ _ (N p hp).1, (N p hp).2⟩
  exact codeAny_compStart_list (loop _ rfl) (W.self 0 _ _ _ (stOf h₁ 0 (hit.at fun o e => old _ o e) (old _ _ (N _ (hsrc _ _ _ h0)).1)) (loop _ rfl))

noncomputable def SrcC (prog : Program) (w : World) (A : Around) (h₀ : Heap) (L : Addr) (m : Str → Option Value) (env : Env) (elt : Expr) (x : Str) (scope : Scope) (cl : List (Str × Addr)) (Fin : Shared → List Value → Led → Prop) (xv : Value) (s₁ : Shared) : Prop :=
  ∃ (ax : Addr) (oax : Obj) (its : Array Value) (nx : Nat) (news : Led) (K : Nat → List Value → Led → Prop), xv = .ref ax ∧ A.handled = none ∧ Fr h₀ L s₁.heap m ∧ News h₀ L s₁.heap news ∧ oax.cls = .type "list" ∧ oax.data = .seq its nx ∧ its.size ≤ sizeLine ∧ K 0 [] news ∧ (∀ i ys nw, K i ys nw → (ax, oax) ∈ nw) ∧
    (∀ g, TurnC prog w A h₀ L m env elt x scope cl { s₁ with heap := g } its K) ∧ ∀ g ys nw, K its.size ys nw → Fin { s₁ with heap := g } ys nw
theorem allNe_off1 {D : Addr} : ∀ {l : Led}, AllNe D l → LCg.Off1 D l
  | [], _ => trivial
  | _ :: _, x => ⟨x.1, allNe_off1 x.2⟩
theorem Assign_ListComp_C {elt iter : Expr} {x y : Str} {px py : Pos} {scope : Scope} {cl : List (Str × Addr)} {pos spos : Pos} {Q : Flow → Shared → Prop} (_F₀ : Fr h₀ L s.heap m) (hLe : env.locals = L)
    (hsw : swapsWith (.ListComp elt [⟨.Name x px, iter, [], 0⟩] scope pos) (some (.Name y py)) spos.line env = pure true)
    (hclos : closureFor scope env = pure cl) (hcf : ∀ n, cellsFrom n scope.names cl = (x, n) :: cl) (hpc : ∀ h, pushCells h scope.names = h.push cellO) (hkind : scope.kind = .function) (hxk : (relabel scope env).names.lookup x = some .cell)
    (hnames : ∀ z ∈ scope.names, z.2 = .local → scope.names.lookup z.1 = some .local)
    (hy : env.kindOf y = some .local) (hp : (env.scope.kind == .class || (env.scope.kind == .module && env.locals != env.globals)) = false)
    (h : wpAny (model prog w) A (eval iter env) (SrcC prog w A h₀ L m env elt x scope cl (fun s₂ => LCg.FinA h₀ L m s₂ y Q)) E s)
    (hs : ∀ x, foldedSetIterable iter env x = pure x := by intro _; rfl) :
    wpAny (model prog w) A (exec (.Assign [.Name y py] (.ListComp elt [⟨.Name x px, iter, [], 0⟩] scope pos) spos) env) Q E s := by
  subst hLe
  rw [exec_Assign_Name_used _ _ _ _ hsw]
  refine wpAny_bind (wpAny_standAt (wpAny_bind ?_))
  show wpAny _ A (do let _ ← comprehension (.ListComp elt [⟨.Name x px, iter, [], 0⟩] scope pos) scope env _ (newList []) false (eval iter env) (some (assign (.Name y py) env))) _ _ s
  refine wpAny_bind (wpAny_mono (wpAny_comprehension_free (use := some (assign (.Name y py) env)) (Q := fun _ s' => Q .next s') rfl hs hclos hkind hnames
    (wpAny_mono h (fun xv s₁ h₁ => ?_) fun _ _ e => e)) (fun _ s' hq => wpAny_pure (wpAny_pure hq)) fun _ _ e => e)
  obtain ⟨ax, oax, its, nx, news, K, rfl, hh, F, N, hc, hd, hsz, h0, hsrc, turn, fin⟩ := h₁
  have hm := hsrc _ _ _ h0
  have hl : s₁.heap.IsList ax its := ⟨oax, (N _ hm).1, hc, nx, hd⟩
  have hlt : ax < s₁.heap.objs.size := Heap.lt_size (N _ hm).1
  refine wpAny_pyIter_list hl ?_
  have up : ∀ b o, s₁.heap.get? b = some o → (s₁.heap.push { cls := .type "list_iterator", data := .fields #[.ref ax, .int 0 0] }).get? b = some o := fun b o e => Heap.get?_push_of_some _ e
  refine blockC K hh (Nat.ne_of_lt hlt) hsz hcf hpc hkind hxk ⟨_, Heap.get?_push_size _ rfl, rfl, rfl⟩ hc hd (F.keeps up) (N.grown up) (Nat.ne_of_lt F.ns.lt) (next_is_new F) (fun p hp => Nat.ne_of_lt (Heap.lt_size (N p hp).1)) h0 hsrc (turn _) ?_
  intro D C h' tk m' ys nw F' N' o1 hn hC₀ hCL hCD aC hK
  show wpAny _ A (assign (.Name y py) env (.ref D)) _ _ _
  refine wpAny_assign_Name (wpAny_storeName_local hy F'.ns (fun h₂ hn₂ hs₂ => ?_) hp)
  have hL₀ : h₀.get? env.locals = none := Heap.get?_none_of_le F'.above
  have F₂ : Fr h₀ env.locals h₂ (fun z => if z = y then some (.ref D) else m z) := ⟨hn₂, fun b o e => hs₂.extBut b o (fun q => by rw [q, hL₀] at e; cases e) (F'.keep b o e), F'.above⟩
  refine ⟨m', hn.sameBut hs₂ hCL, fun h'' hs'' => fin (s₁.heap.push { cls := .type "list_iterator", data := .fields #[.ref ax, .int 0 0] }) ys nw hK D h'' _ (F₂.change hs'' hCL hC₀) (fun p hp => ?_) (allNe_off1 o1)⟩
  have z : h₂.get? p.1 = some p.2 := hs₂.extBut _ _ (N' p hp).2.1 (N' p hp).1
  refine ⟨hs''.extBut _ _ ?_ z, (N' p hp).2⟩
  rcases List.mem_cons.mp hp with rfl | hp
  · exact Ne.symm hCD
  · exact allNe_mem aC _ hp
end
end Mine

end
section
open PySem PySem.W PyProof.Rows PySem.Calls PySem.Spec
set_option Elab.async false
set_option maxRecDepth 100000
set_option maxHeartbeats 8000000
namespace Mine
theorem freshWStar : True := by w_top off; trivial
section
variable {M : Model} {A : Around} {E : Value → Shared → Prop} {s : Shared} {env : Env} {pos p : Pos} {Q : Value → Shared → Prop} {e : Expr} {T : String}
theorem callWith_starT (h : wpAny M A (eval e env) (fun v s₁ => StarOf M A E v (fun vs s₂ => wpAny M A (call (.type T) vs) Q E s₂) s₁) E s)
    (he : starEach [.Starred e p] env = [(true, eval e env)] := by rfl) :
    wpAny M A (callWith pos (.type T) [] (backTo pos (starEach [.Starred e p] env)) []) Q E s := by
  rw [he]
  refine ks_call (P := fun _ => True) rfl (fun h _ => ⟨.machine, .inr (.inl rfl), ?_⟩) (ks_lone (wpAny_mono h (fun v s₁ h₁ => ?_) fun _ _ x => x))
  · exact fun _ _ _ _ _ q => wpAny_pure q
  · unfold StarOf at h₁ ⊢
    refine wpAny_mono h₁ (fun b s₂ h₂ => ⟨h₂.1, wpAny_mono h₂.2 (fun vs s₃ h₃ => ⟨trivial, h₃⟩) fun _ _ x => x⟩) fun _ _ x => x
end
end Mine

end
section
open PySem PySem.W PyProof.Rows PySem.Calls PySem.Spec
set_option Elab.async false
set_option maxRecDepth 100000
set_option maxHeartbeats 8000000
namespace Mine
theorem freshWSort : True := by w_top off; trivial
section
variable {prog : Program} {w : World} {A : Around} {E : Value → Shared → Prop} {s : Shared} {h₀ : Heap} {L d : Addr} {m : Str → Option Value} {news : Led}
theorem sort_new {D : Addr} {vs : List Value} {ns : List Int} {Q : Value → Shared → Prop} (F : Fr h₀ L s.heap m) (N : News h₀ L s.heap ((D, PySem.W.listOf vs.toArray 0) :: news)) (hlt : ∀ q ∈ news, q.1 < D) (hI : IntsAre vs ns) (h64 : vs.length < 64)
    (h : ∀ vs' ns' c h', Fr h₀ L h' m → News h₀ L h' ((D, PySem.W.listOf (List.toArray vs') c) :: news) → IntsAre vs' ns' → ns'.Perm ns → ns'.Pairwise (· ≤ ·) → Q .none { s with heap := h' }) :
    wpAny (model prog w) A (call (.builtin "list.sort") [.ref D]) Q E s := by
  have z := N _ List.mem_cons_self
  refine wpAny_call_entry PyProof.Rows.slot_list_sort ⟨_, z.1, rfl⟩ PyProof.Rows.entry_list_sort (list_sort_tree (n := 0) z.1 hI h64 fun out ns' a1 a2 a3 => ⟨.none, rfl, ?_⟩) (PyProof.Rows.args_list_sort _)
  obtain ⟨e, he⟩ := sortedHeap_at (out := out) z.1
  have old : ∀ b o, b ≠ D → s.heap.get? b = some o → (sortedHeap s.heap D vs out).get? b = some o := fun b o hb e => by rw [sortedHeap_old hb (Heap.lt_size e)]; exact e
  refine h out.toList ns' e _ ⟨F.ns.at' (fun o e => old L o (Ne.symm z.2.1) e), fun b o e => old b o (fun q => by rw [q, z.2.2] at e; cases e) (F.keep b o e), F.above⟩ (fun p hp => ?_) a1 a2 a3
  rcases List.mem_cons.mp hp with rfl | hp
  · exact ⟨he, z.2⟩
  · exact ⟨old _ _ (Nat.ne_of_lt (hlt p hp)) (N p (List.mem_cons_of_mem _ hp)).1, (N p (List.mem_cons_of_mem _ hp)).2⟩
theorem sorted_dict {o : Obj} {kvs : List (Int × Value)} {out : List (Int × Int)} {Q : Value → Shared → Prop} (hh : A.handled = none) (F : Fr h₀ L s.heap m) (N : News h₀ L s.heap news) (hm : (d, o) ∈ news) (lo : (d == sysModules) = false)
    (ho : o.IsDictOf (PySem.intKind prog w) kvs) (hf : PyProof.V.FlatPairs PyData.int kvs (kdfD out)) (hn : out.length < 64)
    (h : ∀ D vs' ns' c h' tk, Fr h₀ L h' m → News h₀ L h' ((D, PySem.W.listOf (List.toArray vs') c) :: news) → (∀ q ∈ news, q.1 < D) → IntsAre vs' ns' → ns'.Perm (out.map (·.1)) → ns'.Pairwise (· ≤ ·) → Q (.ref D) { s with heap := h', toks := tk }) :
    wpAny (model prog w) A (call (.builtin "sorted") [.ref d]) Q E s := by
  have Ta : TabAt (PySem.intKind prog w) PyData.int s.heap d (kdfD out) := TabAt.ofNews N hm lo ho hf
  obtain ⟨lo, kvs, hD, hf⟩ := Ta
  obtain ⟨ep, hat⟩ := hD.dictAt
  have hkl : kvs.length = out.length := hf.length.symm.trans (by unfold kdfD; exact List.length_map _)
  refine kdu_sorted (kdl_dict (knd := PySem.intKind prog w) (kvs := kvs) (ep := ep) lo) hh F N hat (kdl_size (by omega)) fun B h' tk vs F' N' l1 hl hv => ?_
  have hi : IntsAre vs (out.map (·.1)) := ints_get (by rw [hl, hkl, List.length_map]) fun j y hy => by
    obtain ⟨k, x, hx, hk⟩ := hv j y hy
    obtain ⟨dv, hd, _⟩ := hf.at hx
    obtain ⟨t, rfl⟩ := Value.isInt_shape hk
    refine ⟨t, ?_⟩
    unfold kdfD at hd
    rw [List.getElem?_map] at hd
    rw [List.getD_eq_getElem?_getD, List.getElem?_map]
    cases q : out[j]? with
    | none => rw [q] at hd; cases hd
    | some p =>
      rw [q] at hd
      have h1 := congrArg Prod.fst (Option.some.inj hd)
      have h2 : p.1 = k := PyData.int.inj h1
      rw [← h2]; rfl
  exact sort_new F' N' l1 hi (by omega) fun vs' ns' c h'' F'' N'' a1 a2 a3 => h B vs' ns' c h'' tk F'' N'' l1 a1 a2 a3
end
end Mine

end
section
open PySem PySem.W PyProof.Rows PySem.Calls PySem.Spec
namespace Mine
local macro_rules | `(tactic| k_mem) => `(tactic| first | exact List.mem_cons_self | assumption | (refine List.mem_cons_of_mem _ ?_; k_mem))
local macro_rules | `(tactic| walk_at "MY idx") => `(tactic| first | omega | assumption)
local macro_rules | `(tactic| walk_at "subscriptTail Name Name ref int") => `(tactic| (k_here; k_dflt (refine item_list_ints (isL (by k_asm) (by k_mem)) (by assumption) (by walk_at "MY idx") (by walk_at "MY idx") (by walk_at "MY idx") ?_; intro _)))
local macro_rules | `(tactic| walk_at "MY room") => `(tactic| first | omega | ((simp only [depth_under_make, depth_under_kw, depth_in1, depth_deeper, depth_caller]); dsimp only [topA]; omega))
local macro_rules | `(tactic| walk_at "compareOp In int ref") => `(tactic| (k_here; k_dflt (refine in_list_ints (isL (by k_asm) (by k_mem)) (by assumption) ?_; k_whole)))
local macro_rules | `(tactic| walk_at "CompSrc") => `(tactic| (k_here; k_dflt (first | refine LCg.CompSrc.range (by rfl) (by k_asm) (by k_asm) (by assumption) (by exact small_one (by omega) (by omega) (by omega) (by omega)) (PyProof.Rows.rangeSize_nat _ _) (by walk_at "MY sum") ?_; intro g' | refine LCg.CompSrc.ledger (by rfl) (by k_asm) (by k_asm) (by k_mem) (by walk_at "MY sum") ?_; intro g')))
local macro_rules | `(tactic| walk_at "call builtin:str.join") => `(tactic| (k_here; k_dflt (refine join_listW (isL (by k_asm) (by k_mem)) (by assumption) (by decide) (by assumption) ?_; intro _ _)))
local macro_rules | `(tactic| walk_at "MY sum") => `(tactic| ((rw [PySem.sizeLine_eq]); (try simp only [List.size_toArray, List.length_map, rangeKs_length, List.length_cons, List.length_nil, List.length_append]); omega))
local macro_rules | `(tactic| walk_at "MY post0") => `(tactic| (intro _ _ _ _ _ N' hn' hx' hR'; clear hx' hn'; obtain ⟨hr1, _, hr2⟩ := hR'; subst hr1 hr2; rw [List.nil_append] at N'; (try dsimp only)))
local macro_rules | `(tactic| walk_at "binaryOp Add ref ref") => `(tactic| (k_here; k_dflt (refine kmk_add_ints (by k_asm) (by k_asm) (isL (by k_asm) (by k_mem)) (isL (by k_asm) (by k_mem)) (by assumption) (by assumption) ?_ (by walk_at "MY sum")); intro _ _ _ _ _ l1 _; (try k_lt l1); (try k_sweep)))
local macro_rules | `(tactic| walk_at "CompSrcT") => `(tactic| (k_here; k_dflt (refine LCt.CompSrcT.ledger (by rfl) (by k_asm) (by k_asm) (by k_mem) (by walk_at "MY sum") ?_; intro g')))
set_option hygiene false
local macro_rules | `(tactic| walk_at "execs cons") => `(tactic| (k_here; first | (k_made; walk_at "execs cons") | k_gentoks | ((with_reducible refine hid_one ?_); intro R9 hR9; (try dsimp only)) | ((with_reducible refine hid_cons ?_); intro R9 hR9; (try dsimp only))))
local macro_rules | `(tactic| walk_at "MY hid") => `(tactic| ((with_reducible first | refine hid_next (by assumption) ?_ | refine hid_any (by assumption) ?_ | refine hid_ret (by assumption) ?_ | refine hid_brk (by assumption) ?_ | refine hid_cont (by assumption) ?_); (try clear hR9 R9); (try dsimp only)))
set_option hygiene true
local macro_rules | `(tactic| omega) => `(tactic| first | (k_whole; with_reducible first | assumption | exact Nat.le_trans (by assumption) (by decide) | exact om_c (by assumption) (by decide) | exact om_n (by decide) | exact Nat.ne_of_lt (by assumption) | exact Nat.ne_of_gt (by assumption)) | decide | omega +splitDisjunctions)
namespace WC4
theorem freshWC4 : True := by w_top off; trivial
theorem ctr_and (w : World) (a b : Int) (t u : Tok) :
    Ctr w 28 2 [] [.int a t, .int b u] fun r tl => tl = [] ∧ ∃ v, r = .int (Builtin.bitAnd a b) v := by
  unfold Ctr
  k_fill
  intro dp un gd env outer A₀ base h₀ L m mean mg mb news s Q E B F X N hsub T hf hk hd hu hret
  k_dflt ((refine' my_def ?k1 ?k2 ?k3 ?k4 ?kS ?k5 ?kF ?kK ?k6 ?k7 ?k8 ?k9 ?kB ?kR ?_ ?c2 ?c3 ?c4 ?c5; (case kF => assumption); (case kK => assumption); (case k1 => k_asm); (case k2 => k_asm); (case k3 => k_asm); (case k4 => k_asm); (case kS => assumption); (case k5 => k_asm); (case k6 => k_is); (case k7 => k_is); (case k8 => walk_at "MY room"); (case k9 => exact BindsTo.of_eq rfl); (case kR => assumption); (case c5 => decide); (case kB => exact locs rfl); (case c2 => exact rfl); (case c3 => exact rfl); (case c4 => exact rfl); k_whole))
  intro g' L' h' F' N' B' X' T'
  clear hret hsub B F X N T hk hf
  (repeat' ((fail_if_success (with_reducible show wpAny _ _ (pyIter _) _ _ _)); (fail_if_success (with_reducible show wpAny _ _ (exec (Stmt.While _ _ _ _) _) _ _ _)); first | walk_at "MY hid" | (k_unfold; (try dsimp only)) | (k_end; wrow_close) | walk1 | (dsimp only; walk1) | (leave1; walk_say "STEP leave1"; try dsimp only) | fail "no step"))
  try dsimp only
  exact leave_in [] (by assumption) (by assumption) (fun _ h => h) (fun _ h => nomatch h) ⟨rfl, _, rfl⟩
theorem ctr_or (w : World) (a b : Int) (t u : Tok) :
    Ctr w 42 2 [] [.int a t, .int b u] fun r tl => tl = [] ∧ ∃ v, r = .int (Builtin.bitOr a b) v := by
  unfold Ctr
  k_fill
  intro dp un gd env outer A₀ base h₀ L m mean mg mb news s Q E B F X N hsub T hf hk hd hu hret
  k_dflt ((refine' my_def ?k1 ?k2 ?k3 ?k4 ?kS ?k5 ?kF ?kK ?k6 ?k7 ?k8 ?k9 ?kB ?kR ?_ ?c2 ?c3 ?c4 ?c5; (case kF => assumption); (case kK => assumption); (case k1 => k_asm); (case k2 => k_asm); (case k3 => k_asm); (case k4 => k_asm); (case kS => assumption); (case k5 => k_asm); (case k6 => k_is); (case k7 => k_is); (case k8 => walk_at "MY room"); (case k9 => exact BindsTo.of_eq rfl); (case kR => assumption); (case c5 => decide); (case kB => exact locs rfl); (case c2 => exact rfl); (case c3 => exact rfl); (case c4 => exact rfl); k_whole))
  intro g' L' h' F' N' B' X' T'
  clear hret hsub B F X N T hk hf
  (repeat' ((fail_if_success (with_reducible show wpAny _ _ (pyIter _) _ _ _)); (fail_if_success (with_reducible show wpAny _ _ (exec (Stmt.While _ _ _ _) _) _ _ _)); first | walk_at "MY hid" | (k_unfold; (try dsimp only)) | (k_end; wrow_close) | walk1 | (dsimp only; walk1) | (leave1; walk_say "STEP leave1"; try dsimp only) | fail "no step"))
  try dsimp only
  exact leave_in [] (by assumption) (by assumption) (fun _ h => h) (fun _ h => nomatch h) ⟨rfl, _, rfl⟩
theorem ctr_xor (w : World) (a b : Int) (t u : Tok) :
    Ctr w 49 2 [] [.int a t, .int b u] fun r tl => tl = [] ∧ ∃ v, r = .int (Builtin.bitXor a b) v := by
  unfold Ctr
  k_fill
  intro dp un gd env outer A₀ base h₀ L m mean mg mb news s Q E B F X N hsub T hf hk hd hu hret
  k_dflt ((refine' my_def ?k1 ?k2 ?k3 ?k4 ?kS ?k5 ?kF ?kK ?k6 ?k7 ?k8 ?k9 ?kB ?kR ?_ ?c2 ?c3 ?c4 ?c5; (case kF => assumption); (case kK => assumption); (case k1 => k_asm); (case k2 => k_asm); (case k3 => k_asm); (case k4 => k_asm); (case kS => assumption); (case k5 => k_asm); (case k6 => k_is); (case k7 => k_is); (case k8 => walk_at "MY room"); (case k9 => exact BindsTo.of_eq rfl); (case kR => assumption); (case c5 => decide); (case kB => exact locs rfl); (case c2 => exact rfl); (case c3 => exact rfl); (case c4 => exact rfl); k_whole))
  intro g' L' h' F' N' B' X' T'
  clear hret hsub B F X N T hk hf
  (repeat' ((fail_if_success (with_reducible show wpAny _ _ (pyIter _) _ _ _)); (fail_if_success (with_reducible show wpAny _ _ (exec (Stmt.While _ _ _ _) _) _ _ _)); first | walk_at "MY hid" | (k_unfold; (try dsimp only)) | (k_end; wrow_close) | walk1 | (dsimp only; walk1) | (leave1; walk_say "STEP leave1"; try dsimp only) | fail "no step"))
  try dsimp only
  exact leave_in [] (by assumption) (by assumption) (fun _ h => h) (fun _ h => nomatch h) ⟨rfl, _, rfl⟩
theorem ctr_shl (w : World) (a b : Int) (t u : Tok) (ha : 0 ≤ a ∧ a < 100) (hb : 0 ≤ b ∧ b < 64) :
    Ctr w 35 2 [] [.int a t, .int b u] fun r tl => tl = [] ∧ ∃ v, r = .int (a * 2 ^ b.toNat) v := by
  unfold Ctr
  k_fill
  intro dp un gd env outer A₀ base h₀ L m mean mg mb news s Q E B F X N hsub T hf hk hd hu hret
  k_dflt ((refine' my_def ?k1 ?k2 ?k3 ?k4 ?kS ?k5 ?kF ?kK ?k6 ?k7 ?k8 ?k9 ?kB ?kR ?_ ?c2 ?c3 ?c4 ?c5; (case kF => assumption); (case kK => assumption); (case k1 => k_asm); (case k2 => k_asm); (case k3 => k_asm); (case k4 => k_asm); (case kS => assumption); (case k5 => k_asm); (case k6 => k_is); (case k7 => k_is); (case k8 => walk_at "MY room"); (case k9 => exact BindsTo.of_eq rfl); (case kR => assumption); (case c5 => decide); (case kB => exact locs rfl); (case c2 => exact rfl); (case c3 => exact rfl); (case c4 => exact rfl); k_whole))
  intro g' L' h' F' N' B' X' T'
  clear hret hsub B F X N T hk hf
  (repeat' ((fail_if_success (with_reducible show wpAny _ _ (pyIter _) _ _ _)); (fail_if_success (with_reducible show wpAny _ _ (exec (Stmt.While _ _ _ _) _) _ _ _)); first | walk_at "MY hid" | (k_unfold; (try dsimp only)) | (k_end; wrow_close) | walk1 | (dsimp only; walk1) | (leave1; walk_say "STEP leave1"; try dsimp only) | fail "no step"))
  try dsimp only
  exact leave_in [] (by assumption) (by assumption) (fun _ h => h) (fun _ h => nomatch h) ⟨rfl, _, rfl⟩
end WC4
namespace WC7
open WC4
theorem freshWC7 : True := by w_top off; trivial
noncomputable def sqF (c : Int) : Int × Int × Int := (10 * 2 ^ (2 * c).toNat, 65 * 2 ^ (2 * c).toNat, Builtin.bitOr (10 * 2 ^ (2 * c).toNat) (65 * 2 ^ (2 * c).toNat))
noncomputable def rStep (one : Int) (s : List (Int × Int) × List Int) (q : Int × Int × Int) : List (Int × Int) × List Int :=
  if Builtin.bitAnd one q.1 = q.1 ∨ Builtin.bitOr one q.2.1 = one then
    if kdfHas s.1 (Builtin.bitXor one q.2.2) = true then s else (kdfPut s.1 (Builtin.bitXor one q.2.2) (kdfLook s.1 one 0 + 1), s.2 ++ [Builtin.bitXor one q.2.2])
  else s
noncomputable def rF : Nat → List (Int × Int × Int) → List (Int × Int) → List Int → Option (List (Int × Int))
  | 0, _, _, _ => none
  | n + 1, sq, r, q => if q = [] then some r else rF n sq (sq.foldl (rStep (q.getD 0 0)) (r, q.drop 1)).1 (sq.foldl (rStep (q.getD 0 0)) (r, q.drop 1)).2
abbrev tup3 (a b c : Int) (t u v : Tok) (n : Nat) : Obj := { cls := .type "tuple", data := .seq #[.int a t, .int b u, .int c v] n }
inductive SqAre (led : Led) : List Value → List (Int × Int × Int) → Prop where
  | nil : SqAre led [] []
  | cons {T : Addr} {a b c : Int} {t u v : Tok} {n : Nat} {vs : List Value} {qs : List (Int × Int × Int)} : (T, tup3 a b c t u v n) ∈ led → SqAre led vs qs → SqAre led (.ref T :: vs) ((a, b, c) :: qs)
theorem SqAre.mono {l1 l2 : Led} {vs : List Value} {qs : List (Int × Int × Int)} (h : SqAre l1 vs qs) (hs : ∀ p ∈ l1, p ∈ l2) : SqAre l2 vs qs := by
  induction h with
  | nil => exact .nil
  | cons hm _ ih => exact .cons (hs _ hm) ih
theorem SqAre.snoc {led : Led} {vs : List Value} {qs : List (Int × Int × Int)} {T : Addr} {a b c : Int} {t u v : Tok} {n : Nat} (h : SqAre led vs qs) (hm : (T, tup3 a b c t u v n) ∈ led) : SqAre led (vs ++ [.ref T]) (qs ++ [(a, b, c)]) := by
  induction h with
  | nil => exact .cons hm .nil
  | cons h1 _ ih => exact .cons h1 ih
theorem SqAre.at {led : Led} {vs : List Value} {qs : List (Int × Int × Int)} (h : SqAre led vs qs) : ∀ (i : Nat) {v : Value}, vs[i]? = some v → ∃ T a b c t u w n, v = .ref T ∧ qs[i]? = some (a, b, c) ∧ (T, tup3 a b c t u w n) ∈ led := by
  induction h with
  | nil => intro i v e; cases e
  | cons hm _ ih =>
    intro i v e
    cases i with
    | zero => exact ⟨_, _, _, _, _, _, _, _, (Option.some.inj e).symm, rfl, hm⟩
    | succ i => exact ih i e
theorem SqAre.length {led : Led} {vs : List Value} {qs : List (Int × Int × Int)} (h : SqAre led vs qs) : vs.length = qs.length := by
  induction h with
  | nil => rfl
  | cons _ _ ih => simp only [List.length_cons, ih]
theorem rStep_no {one : Int} {s : List (Int × Int) × List Int} {a b c : Int} (h1 : Builtin.bitAnd one a ≠ a) (h2 : Builtin.bitOr one b ≠ one) : rStep one s (a, b, c) = s := by
  unfold rStep
  rw [if_neg]
  rintro (h | h)
  · exact h1 h
  · exact h2 h
theorem rStep_seen {one : Int} {s : List (Int × Int) × List Int} {a b c : Int} (h : Builtin.bitAnd one a = a ∨ Builtin.bitOr one b = one) (h3 : kdfHas s.1 (Builtin.bitXor one c) = true) : rStep one s (a, b, c) = s := by
  unfold rStep
  rw [if_pos h, if_pos h3]
theorem rStep_new {one : Int} {s : List (Int × Int) × List Int} {a b c : Int} (h : Builtin.bitAnd one a = a ∨ Builtin.bitOr one b = one) (h3 : kdfHas s.1 (Builtin.bitXor one c) = false) :
    rStep one s (a, b, c) = (kdfPut s.1 (Builtin.bitXor one c) (kdfLook s.1 one 0 + 1), s.2 ++ [Builtin.bitXor one c]) := by
  unfold rStep
  rw [if_pos h, if_neg]
  show ¬ kdfHas s.1 (Builtin.bitXor one c) = true
  rw [h3]
  simp
theorem fold_at {α β : Type} {f : β → α → β} {z s : β} {l : List α} {i : Nat} {x : α} (hq : l[i]? = some x) (e : s = (l.take i).foldl f z) : (l.take (i + 1)).foldl f z = f s x := by
  rw [List.take_add_one, hq, List.foldl_append, ← e]; rfl
theorem put_new {c : List (Int × Int)} {k v : Int} (h : kdfHas c k = false) : kdfPut c k v = c ++ [(k, v)] := by
  unfold kdfPut
  rw [if_neg]
  show ¬ kdfHas c k = true
  rw [h]
  simp
theorem has_app {c : List (Int × Int)} {k v x : Int} (h : kdfHas c x = true) : kdfHas (c ++ [(k, v)]) x = true := by
  unfold kdfHas at h ⊢
  rw [List.any_append, h, Bool.true_or]
theorem has_new (c : List (Int × Int)) (k v : Int) : kdfHas (c ++ [(k, v)]) k = true := by
  unfold kdfHas
  rw [List.any_append]
  simp
theorem rF_next {k : Nat} {sq : List (Int × Int × Int)} {r r2 out : List (Int × Int)} {q0 : Int} {q q2 : List Int} (h : rF (k + 1) sq r (q0 :: q) = some out) (e : (r2, q2) = sq.foldl (rStep q0) (r, q)) : rF k sq r2 q2 = some out := by
  rw [rF, if_neg (List.cons_ne_nil _ _)] at h
  have e1 : (q0 :: q).getD 0 0 = q0 := rfl
  have e2 : (q0 :: q).drop 1 = q := rfl
  rw [e1, e2, ← e] at h
  exact h
structure SS where
  vs : List Value
  ep : Nat
  tups : Led
structure RS where
  k : Nat
  od : Obj
  kvs : List (Int × Value)
  r : List (Int × Int)
  qd : Addr
  qv : List Value
  qe : Nat
  q : List Int
structure IS where
  od : Obj
  kvs : List (Int × Value)
  r : List (Int × Int)
  qv : List Value
  qe : Nat
  q : List Int
theorem rS_has (p : Int) : kdfHas [(p, 0)] p = true := by unfold kdfHas; simp
set_option pp.maxSteps 2500
set_option pp.deepTerms false
local macro_rules | `(tactic| walk_at "call ref") => `(tactic| (k_here; k_dflt (refine ctr_go (by first | exact ctr_shl _ _ _ _ _ (by decide) (by omega) | exact ctr_and _ _ _ _ _ | exact ctr_or _ _ _ _ _ | exact ctr_xor _ _ _ _ _) ?_; walk_at "MY post0")))
local macro_rules | `(tactic| k_all) => `(tactic| assumption)
local macro_rules | `(tactic| walk_at "eval Dict") => `(tactic| (k_here; k_dflt (refine kdn_eval (knd := PySem.intKind _ _) (by k_asm) (by first | k_asm | exact News.nil) (Top.nolimit (by k_asm)) (by rfl) (by rfl) (List.cons_ne_nil _ _) (Nat.le_of_ble_eq_true rfl) ?_); intro _ _ _ _ _ l1 lo' hd'; (try k_lt l1)))
local macro_rules | `(tactic| walk_at "call builtin:list.append") => `(tactic| (k_here; k_dflt (refine append_K (by k_asm) (by k_asm) (by k_upd) ?_ (by walk_at "MY sum"); k_whole); intro h' F' N'; (try rw [List.push_toArray] at N'); (try k_sweep)))
theorem ints_at {vs : List Value} {ns : List Int} (h : IntsAre vs ns) : ∀ (i : Nat) {v : Value}, vs[i]? = some v → ∃ x t, v = .int x t ∧ ns[i]? = some x := by
  induction h with
  | nil => intro i v e; cases e
  | cons x t _ ih =>
    intro i v e
    cases i with
    | zero => exact ⟨x, t, (Option.some.inj e).symm, rfl⟩
    | succ i => exact ih i e
theorem ctr_rounds (w : World) (p : Int) (t : Tok) (l : Addr) (vs : List Value) (n : Nat) (spots : List Int) (out : List (Int × Int)) (hv : IntsAre vs spots) (hlen : spots.length ≤ 12) (hrange : ∀ c ∈ spots, 0 ≤ c ∧ c < 12)
    (hout : rF 20 (spots.map sqF) [(p, 0)] [p] = some out) :
    Ctr w 80 4 [(l, listOf vs.toArray n)] [.int p t, .ref l] fun r tl => ∃ lr o kvs, r = .ref lr ∧ tl = [(lr, o)] ∧ o.IsDictOf (PySem.intKind rx.row.prog w) kvs ∧ PyProof.V.FlatPairs PyData.int kvs (kdfD out) ∧ (lr == sysModules) = false := by
  unfold Ctr
  k_fill
  intro dp un gd env outer A₀ base h₀ L m mean mg mb news s Q E B F X N hsub T hf hk hd hu hret
  have hrm0 : dp < recursionLimit := by omega
  have hrm1 : dp + 1 + 2 < recursionLimit := by omega
  have hrm2 : un + 3 + 40 * 2 < cLine := by omega
  have hrm3 : un + 3 + 64 < cLine := by omega
  k_dflt ((refine' my_def ?k1 ?k2 ?k3 ?k4 ?kS ?k5 ?kF ?kK ?k6 ?k7 ?k8 ?k9 ?kB ?kR ?_ ?c2 ?c3 ?c4 ?c5; (case kF => assumption); (case kK => assumption); (case k1 => k_asm); (case k2 => k_asm); (case k3 => k_asm); (case k4 => k_asm); (case kS => assumption); (case k5 => k_asm); (case k6 => k_is); (case k7 => k_is); (case k8 => walk_at "MY room"); (case k9 => exact BindsTo.of_eq rfl); (case kR => assumption); (case c5 => decide); (case kB => exact locs rfl); (case c2 => exact rfl); (case c3 => exact rfl); (case c4 => exact rfl); k_whole))
  intro g' L' h' F' N' B' X' T'
  clear hret hsub B F X N T hk hf
  (repeat' ((fail_if_success (with_reducible show wpAny _ _ (pyIter _) _ _ _)); (fail_if_success (with_reducible show wpAny _ _ (exec (Stmt.While _ _ _ _) _) _ _ _)); first | walk_at "MY hid" | (k_unfold; (try dsimp only)) | (k_end; wrow_close) | walk1 | (dsimp only; walk1) | (leave1; walk_say "STEP leave1"; try dsimp only) | fail "no step"))
  rename_i sqa _ l1 _ F1 N1
  with_unfolding_all
    refine sloop_list (σ := SS) (vs := vs) (k := n) (ax := l) (oax := listOf vs.toArray n) (fun c => (sqa, listOf c.vs.toArray c.ep) :: (l, listOf vs.toArray n) :: c.tups) (fun _ => []) [Str.ofString "c", Str.ofString "lying", Str.ofString "standing"]
      (fun i c => SqAre c.tups c.vs ((spots.take i).map sqF) ∧ c.vs.length = i ∧ ∀ p ∈ c.tups, @LT.lt Nat _ sqa p.1) rfl (fun c => by k_mem) rfl rfl F1 N1
      (sj_mk ⟨[], 0, []⟩ rfl ⟨.nil, rfl, fmn⟩ fmn (fun _ _ _ => rfl)) ?_ ?_
  · intro i zz1 v u I oI h tq hi zz9 hne hlt F3 N3
    try k_fold
    obtain ⟨sv, ep, tups⟩ := zz1
    obtain ⟨p1, p2, p3⟩ := zz9
    dsimp only at p1 p2 p3 hne F3 N3
    have e1 : @LT.lt Nat _ sqa I := hlt _ List.mem_cons_self
    have hi9 : i < 12 := by
      have h1 := IntsAre.length (by assumption : IntsAre vs spots)
      have h2 := (List.getElem?_eq_some_iff.mp hi).1
      omega
    obtain ⟨c, tc, rfl, hc⟩ := ints_at (by assumption : IntsAre vs spots) i hi
    have hcr := hrange c (List.mem_of_getElem? hc)
    have hlv : sv.length ≤ 12 := by omega
    have hT : ∀ p ∈ tups, p.1 ≠ sqa := fun p hp => neN (Nat.ne_of_gt (p3 p hp))
    clear F1 N1
    try k_fold
    (repeat' ((fail_if_success (with_reducible show wpAny _ _ (pyIter _) _ _ _)); (fail_if_success (with_reducible show wpAny _ _ (exec (Stmt.While _ _ _ _) _) _ _ _)); first | walk_at "MY hid" | (k_unfold; (try dsimp only)) | (k_end; wrow_close) | walk1 | (dsimp only; walk1) | (leave1; walk_say "STEP leave1"; try dsimp only) | fail "no step"))
    (rename Fr _ _ _ _ => F9); (rename News _ _ _ _ => N9)
    rename_i T _ lT _
    obtain ⟨_, q2, q3, q4, q5⟩ := lT
    have hs9 := fun (o : Obj) => (@SqAre.mono tups ((T, o) :: tups) sv _ p1 fun p hp => List.mem_cons_of_mem _ hp)
    have ha9 : ∀ (o : Obj), ∀ p ∈ (T, o) :: tups, @LT.lt Nat _ sqa p.1 := fun o => fmc q3 p3
    have hl9 : (sv ++ [Value.ref T]).length = i + 1 := by rw [List.length_append, p2]; rfl
    have hn9 : ∀ (o o1 : Obj), ∀ p ∈ (sqa, o1) :: (l, listOf vs.toArray n) :: (T, o) :: tups, p.1 ≠ I := fun o o1 => fmc (neN (Nat.ne_of_lt e1)) (fmc (hne _ (List.mem_cons_of_mem _ List.mem_cons_self)) (fmc (neN (Nat.ne_of_gt q2)) (fun p hp => hne p (List.mem_cons_of_mem _ (List.mem_cons_of_mem _ hp)))))
    with_unfolding_all
      refine sturn_in ⟨_, _, (T, _) :: tups⟩ F9 N9 (by k_mem) (by (first | exact fun _ h => h | ((repeat' (with_reducible first | exact sub_nil | exact fun _ h => h | refine sub_keep ?_ | refine sub_drop ?_)); done) | ((repeat' (first | exact fmn | refine fmc (by k_mem) ?_ | (intro p hp; k_mem))); done))) (hn9 _ _) ⟨?_, hl9, ha9 _⟩ (fmn) (by (first | ((refine Sm.out ?_); (repeat' (with_reducible first | exact sm_refl | refine sm_if ?_ ?_ | refine sm_kn ?_ | refine sm_kc ?_ ?_ | refine sm_rest ?_ ?_ | exact all_nil | refine all_cons ?_ ?_ | (refine Or.inl ?_; (repeat (first | exact in_here | refine in_on ?_)); done) | (refine Or.inr ?_; (repeat (first | exact inn_here | refine inn_on ?_)); done))); done) | (intro z h2 h3; (simp only [List.forall_mem_cons, List.not_mem_nil, false_implies, implies_true, and_true, ne_eq] at h2); (simp only [List.contains_cons, List.contains_nil, Bool.or_false, Bool.or_eq_false_iff, beq_eq_false_iff_ne, ne_eq] at h3); (simp [kstB, Rest, h2, h3]; done))))
    try dsimp only
    rw [List.take_add_one, hc, List.map_append]
    exact SqAre.snoc (hs9 _) List.mem_cons_self
  · intro zz0 u h tq zz4 F3 N3
    try k_fold
    obtain ⟨sv, ep, tups⟩ := zz0
    obtain ⟨p1, p2, p3⟩ := zz4
    dsimp only at p1 p2 p3 F3 N3
    have hlv : sv.length ≤ 12 := by
      have h1 := IntsAre.length (by assumption : IntsAre vs spots)
      omega
    have hT : ∀ p ∈ tups, p.1 ≠ sqa := fun p hp => neN (Nat.ne_of_gt (p3 p hp))
    rw [List.take_of_length_le (Nat.le_of_eq (IntsAre.length (by assumption : IntsAre vs spots)).symm)] at p1
    clear F1 N1
    try k_fold
    (repeat' ((fail_if_success (with_reducible show wpAny _ _ (pyIter _) _ _ _)); (fail_if_success (with_reducible show wpAny _ _ (exec (Stmt.While _ _ _ _) _) _ _ _)); first | walk_at "MY hid" | (k_unfold; (try dsimp only)) | (k_end; wrow_close) | walk1 | (dsimp only; walk1) | (leave1; walk_say "STEP leave1"; try dsimp only) | fail "no step"))
    (rename Fr _ _ _ _ => F1); (rename News _ _ _ _ => N1); (rename Obj.IsDictOf _ _ _ => hd1); (rename PyProof.V.FlatPairs _ _ _ => hf1)
    rename_i rd _ _ _ _ lo1 _ lrd _ od1 _ _ _ _ qd1 _ lq1 _
    obtain ⟨lq1, lq2, lq3, lq4⟩ := lq1
    have hf2 : PyProof.V.FlatPairs PyData.int _ (kdfD [(p, 0)]) := hf1
    clear hf1
    with_unfolding_all
      refine swhile (σ := RS) (fun c => (c.qd, listOf c.qv.toArray c.qe) :: (rd, c.od) :: (sqa, listOf sv.toArray ep) :: (l, listOf vs.toArray n) :: tups) (fun c => [(Str.ofString "queue", .ref c.qd)]) [Str.ofString "one", Str.ofString "lying", Str.ofString "standing", Str.ofString "both", Str.ofString "other"]
        (fun c => c.od.IsDictOf (PySem.intKind rx.row.prog w) c.kvs ∧ PyProof.V.FlatPairs PyData.int c.kvs (kdfD c.r) ∧ IntsAre c.qv c.q ∧ rF c.k (spots.map sqF) c.r c.q = some out ∧ (∀ x ∈ c.q, kdfHas c.r x = true) ∧ c.r.length + 12 * c.k ≤ 241 ∧ c.q.length + 12 * c.k ≤ 241 ∧ @LT.lt Nat _ rd c.qd ∧ @LT.lt Nat _ sqa c.qd ∧ @LT.lt Nat _ l c.qd ∧ ∀ p ∈ tups, @LT.lt Nat _ p.1 c.qd) (fun c => c.k) F1 N1
        (sj_mk ⟨20, od1, _, [(p, 0)], qd1, [.int p t], 0, [p]⟩ rfl ⟨hd1, hf2, .cons _ _ .nil, hout, fmc (rS_has p) (fmn), Nat.le_refl _, Nat.le_refl _, lq1, lq2, lq3, tb_ltOf lq4⟩ (fmc rfl (fmn)) (fun _ _ _ => rfl)) ?_ PassesOwn.never
    rintro ⟨k, od, kvs, r, qd, qv, qe, q⟩ u2 h2 tk2 ⟨r1, r2, r3, r4, r5, r6, r7, r8, r9, r10, r11⟩ F4 N4
    dsimp only at r1 r2 r3 r4 r5 r6 r7 r8 r9 r10 r11 F4 N4
    clear F1 N1 hd1 hf2 lq1 lq2 lq3 lq4
    cases k with
    | zero => cases r4
    | succ k =>
    cases r3 with
    | nil =>
      have r4 : r = out := Option.some.inj r4
      subst r4
      try k_fold
      (repeat' ((fail_if_success (with_reducible show wpAny _ _ (pyIter _) _ _ _)); (fail_if_success (with_reducible show wpAny _ _ (exec (Stmt.While _ _ _ _) _) _ _ _)); first | walk_at "MY hid" | (k_unfold; (try dsimp only)) | (k_end; wrow_close) | walk1 | (dsimp only; walk1) | (leave1; walk_say "STEP leave1"; try dsimp only) | fail "no step"))
      (rename Fr _ _ _ _ => F6); (rename News _ _ _ _ => N6)
      try dsimp only
      refine leave_in [(rd, od)] F6 N6 (fmc (by k_mem) (fmc (by k_mem) (fmn))) ?_ ⟨rd, od, _, rfl, rfl, r1, r2, lo1⟩
      exact fmc (fmc lrd.2.1 (fmn)) (fmn)
    | @cons q0 tq0 qv q r3 =>
      have hpos : 0 < (q0 :: q).length := Nat.succ_pos _
      have hq0 : kdfHas r q0 = true := r5 q0 List.mem_cons_self
      have r5' : ∀ x ∈ q, kdfHas r x = true := fun x hx => r5 x (List.mem_cons_of_mem _ hx)
      rw [List.length_cons] at r7
      try k_fold
      (repeat' ((fail_if_success (with_reducible show wpAny _ _ (pyIter _) _ _ _)); (fail_if_success (with_reducible show wpAny _ _ (exec (Stmt.While _ _ _ _) _) _ _ _)); first | walk_at "MY hid" | (k_unfold; (try dsimp only)) | (k_end; wrow_close) | walk1 | (dsimp only; walk1) | (leave1; walk_say "STEP leave1"; try dsimp only) | fail "no step"))
      any_goals (exfalso; exact List.cons_ne_nil _ _ (of_decide_eq_true (by assumption)))
      refine gfor ?_ (fun _ => rfl)
      (repeat' ((fail_if_success (with_reducible show wpAny _ _ (pyIter _) _ _ _)); (fail_if_success (with_reducible show wpAny _ _ (exec (Stmt.While _ _ _ _) _) _ _ _)); first | walk_at "MY hid" | (k_unfold; (try dsimp only)) | (k_end; wrow_close) | walk1 | (dsimp only; walk1) | (leave1; walk_say "STEP leave1"; try dsimp only) | fail "no step"))
      (rename Fr _ _ _ _ => F1); (rename News _ _ _ _ => N1); (rename IntsAre _ (List.drop _ _) => hI1)
      have hI1 : IntsAre _ q := hI1
      have e0 : (q0 :: q).getD (Int.toNat 0) 0 = q0 := rfl
      rw [e0] at F1
      rename_i q2 q2v _ _ _ _ lq2 _
      obtain ⟨_, _, lq3, lq4, lq5, lq6⟩ := lq2
      have N2 : News g' L' _ ((q2, listOf q2v.toArray 0) :: (rd, od) :: (sqa, listOf sv.toArray ep) :: (l, listOf vs.toArray n) :: tups) := fun p hp => N1 p (by
        rcases List.mem_cons.mp hp with h | hp
        · exact List.mem_cons.mpr (.inl h)
        · exact List.mem_cons_of_mem _ (List.mem_cons_of_mem _ (List.mem_cons_of_mem _ hp)))
      clear N1
      with_unfolding_all
        refine gloopT_list (σ := IS) (vs := sv) (k := ep) (ax := sqa) (oax := listOf sv.toArray ep) (fun c => (q2, listOf c.qv.toArray c.qe) :: (rd, c.od) :: (sqa, listOf sv.toArray ep) :: (l, listOf vs.toArray n) :: tups) (fun _ => []) [Str.ofString "lying", Str.ofString "standing", Str.ofString "both", Str.ofString "other"]
          (fun i c => c.od.IsDictOf (PySem.intKind rx.row.prog w) c.kvs ∧ PyProof.V.FlatPairs PyData.int c.kvs (kdfD c.r) ∧ IntsAre c.qv c.q ∧ (c.r, c.q) = ((spots.map sqF).take i).foldl (rStep q0) (r, q) ∧ (∀ x ∈ c.q, kdfHas c.r x = true) ∧ kdfHas c.r q0 = true ∧ c.r.length ≤ r.length + i ∧ c.q.length ≤ q.length + i) rfl (fun c => by k_mem) rfl rfl F1 N2
          (sj_mk ⟨od, kvs, r, q2v, 0, q⟩ rfl ⟨r1, r2, hI1, rfl, r5', hq0, Nat.le_refl _, Nat.le_refl _⟩ fmn (fun _ _ _ => rfl)) (fun i v hi => by obtain ⟨T, _, _, _, _, _, _, _, e, _⟩ := SqAre.at p1 i hi; exact ⟨T, e⟩) ?_ ?_
      · intro i zz1 v u3 I oI h3 tk3 hi zz9 hne hlt F5 N5
        try k_fold
        obtain ⟨od3, kvs3, r3, qv3, qe3, q3⟩ := zz1
        obtain ⟨s1, s2, s3, s4, s5, s6, s7, s8⟩ := zz9
        dsimp only at s1 s2 s3 s4 s5 s6 s7 s8 hne F5 N5
        obtain ⟨T, a, b, c, t1, t2, t3, n3, rfl, hq, hT9⟩ := SqAre.at p1 i hi
        have hi9 : i < 12 := by
          have h2 := (List.getElem?_eq_some_iff.mp hi).1
          omega
        have e1 : @LT.lt Nat _ q2 I := hlt _ List.mem_cons_self
        have e2 : @LT.lt Nat _ rd I := hlt _ (List.mem_cons_of_mem _ List.mem_cons_self)
        have hT2 : ∀ p ∈ tups, p.1 ≠ rd := fun p hp => neN (Nat.ne_of_lt (tb_ltOf lrd.2.2 p hp))
        have hT3 : ∀ p ∈ tups, p.1 ≠ q2 := fun p hp => neN (Nat.ne_of_lt (tb_ltOf lq6 p hp))
        have hl3 := IntsAre.length s3
        have hn9 : ∀ (o1 o2 : Obj), ∀ p ∈ (q2, o1) :: (rd, o2) :: (sqa, listOf sv.toArray ep) :: (l, listOf vs.toArray n) :: tups, p.1 ≠ I := fun o1 o2 => fmc (neN (Nat.ne_of_lt e1)) (fmc (neN (Nat.ne_of_lt e2)) (fun p hp => hne p (List.mem_cons_of_mem _ (List.mem_cons_of_mem _ hp))))
        clear F1 N2
        try k_fold
        (repeat' ((fail_if_success (with_reducible show wpAny _ _ (pyIter _) _ _ _)); (fail_if_success (with_reducible show wpAny _ _ (exec (Stmt.While _ _ _ _) _) _ _ _)); (fail_if_success (with_reducible show wpAny _ _ (exec (Stmt.If _ _ _ _) _) _ _ _)); first | walk_at "MY hid" | (k_unfold; (try dsimp only)) | (k_end; wrow_close) | walk1 | (dsimp only; walk1) | (leave1; walk_say "STEP leave1"; try dsimp only) | fail "no step"))
        (rename Fr _ _ _ _ => F8); (rename News _ _ _ _ => N8)
        walk1
        refine ifcut (fun bb => (bb = true → Builtin.bitAnd q0 a = a ∨ Builtin.bitOr q0 b = q0) ∧ (bb = false → rStep q0 (r3, q3) (a, b, c) = (r3, q3))) F8 N8 ?_ ?_
        · intro R8 hR8
          (repeat' ((fail_if_success (with_reducible show wpAny _ _ (pyIter _) _ _ _)); (fail_if_success (with_reducible show wpAny _ _ (exec (Stmt.While _ _ _ _) _) _ _ _)); first | walk_at "MY hid" | (k_unfold; (try dsimp only)) | (k_end; wrow_close) | walk1 | (dsimp only; walk1) | (leave1; walk_say "STEP leave1"; try dsimp only) | fail "no step"))
          all_goals ((rename Fr _ _ _ _ => F9); (rename News _ _ _ _ => N9); refine hR8 _ _ _ ?_ F9 N9)
          all_goals first
            | exact ⟨fun _ => .inl (by assumption), (fun e => nomatch e)⟩
            | exact ⟨fun _ => .inr (by assumption), (fun e => nomatch e)⟩
            | exact ⟨(fun e => nomatch e), fun _ => rStep_no (by assumption) (by assumption)⟩
        rintro bb u9 tk9 hbb F10 N10
        clear F8 N8
        cases bb
        all_goals (first | replace hbb := hbb.1 rfl | replace hbb := hbb.2 rfl)
        all_goals (try k_fold)
        all_goals (repeat' ((fail_if_success (with_reducible show wpAny _ _ (pyIter _) _ _ _)); (fail_if_success (with_reducible show wpAny _ _ (exec (Stmt.While _ _ _ _) _) _ _ _)); first | walk_at "MY hid" | (k_unfold; (try dsimp only)) | (k_end; wrow_close) | walk1 | (dsimp only; walk1) | (leave1; walk_say "STEP leave1"; try dsimp only) | fail "no step"))
        all_goals ((rename Fr _ _ _ _ => F9); (rename News _ _ _ _ => N9); (rename Obj.IsDictOf _ _ _ => hd9); (rename PyProof.V.FlatPairs _ _ _ => hf9))
        all_goals (
          first
          | (with_unfolding_all refine sturn_in ⟨_, _, r3, qv3, _, q3⟩ F9 N9 (by k_mem) (by (first | exact fun _ h => h | ((repeat' (with_reducible first | exact sub_nil | exact fun _ h => h | refine sub_keep ?_ | refine sub_drop ?_)); done) | ((repeat' (first | exact fmn | refine fmc (by k_mem) ?_ | (intro p hp; k_mem))); done))) (hn9 _ _) ⟨hd9, hf9, s3, ?_, s5, s6, Nat.le_succ_of_le s7, Nat.le_succ_of_le s8⟩ (fmn) (by (first | ((refine Sm.out ?_); (repeat' (with_reducible first | exact sm_refl | refine sm_if ?_ ?_ | refine sm_kn ?_ | refine sm_kc ?_ ?_ | refine sm_rest ?_ ?_ | exact all_nil | refine all_cons ?_ ?_ | (refine Or.inl ?_; (repeat (first | exact in_here | refine in_on ?_)); done) | (refine Or.inr ?_; (repeat (first | exact inn_here | refine inn_on ?_)); done))); done) | (intro z h2 h3; (simp only [List.forall_mem_cons, List.not_mem_nil, false_implies, implies_true, and_true, ne_eq] at h2); (simp only [List.contains_cons, List.contains_nil, Bool.or_false, Bool.or_eq_false_iff, beq_eq_false_iff_ne, ne_eq] at h3); (simp [kstB, Rest, h2, h3]; done))))
             rw [fold_at hq s4]
             first
             | exact hbb.symm
             | exact (rStep_seen hbb (by assumption)).symm)
          | (have hh := put_new (v := kdfLook r3 q0 0 + 1) (by assumption : kdfHas r3 (Builtin.bitXor q0 c) = false)
             with_unfolding_all refine sturn_in ⟨_, _, kdfPut r3 (Builtin.bitXor q0 c) (kdfLook r3 q0 0 + 1), qv3 ++ [_], _, q3 ++ [Builtin.bitXor q0 c]⟩ F9 N9 (by k_mem) (by (first | exact fun _ h => h | ((repeat' (with_reducible first | exact sub_nil | exact fun _ h => h | refine sub_keep ?_ | refine sub_drop ?_)); done) | ((repeat' (first | exact fmn | refine fmc (by k_mem) ?_ | (intro p hp; k_mem))); done))) (hn9 _ _) ⟨hd9, hf9, ints_snoc s3, ?_, ?_, ?_, ?_, ?_⟩ (fmn) (by (first | ((refine Sm.out ?_); (repeat' (with_reducible first | exact sm_refl | refine sm_if ?_ ?_ | refine sm_kn ?_ | refine sm_kc ?_ ?_ | refine sm_rest ?_ ?_ | exact all_nil | refine all_cons ?_ ?_ | (refine Or.inl ?_; (repeat (first | exact in_here | refine in_on ?_)); done) | (refine Or.inr ?_; (repeat (first | exact inn_here | refine inn_on ?_)); done))); done) | (intro z h2 h3; (simp only [List.forall_mem_cons, List.not_mem_nil, false_implies, implies_true, and_true, ne_eq] at h2); (simp only [List.contains_cons, List.contains_nil, Bool.or_false, Bool.or_eq_false_iff, beq_eq_false_iff_ne, ne_eq] at h3); (simp [kstB, Rest, h2, h3]; done))))
             · rw [fold_at hq s4]
               exact (rStep_new (one := q0) (s := (r3, q3)) (a := a) (b := b) (c := c) hbb (by assumption)).symm
             · dsimp only
               rw [hh]
               intro x hx
               rcases List.mem_append.mp hx with hx | hx
               · exact has_app (s5 x hx)
               · rw [List.mem_singleton.mp hx]; exact has_new _ _ _
             · dsimp only
               rw [hh]
               exact has_app s6
             · dsimp only
               rw [hh, List.length_append]
               exact Nat.succ_le_succ s7
             · dsimp only
               rw [List.length_append]
               exact Nat.succ_le_succ s8))
      · intro zz0 u3 h3 tk3 zz4 F5 N5
        try k_fold
        obtain ⟨od3, kvs3, r3, qv3, qe3, q3⟩ := zz0
        obtain ⟨s1, s2, s3, s4, s5, s6, s7, s8⟩ := zz4
        dsimp only at s1 s2 s3 s4 s5 s6 s7 s8 F5 N5
        have hlv2 := IntsAre.length (by assumption : IntsAre vs spots)
        rw [List.take_of_length_le (by rw [List.length_map]; omega)] at s4
        clear F1 N2
        try k_fold
        (repeat' ((fail_if_success (with_reducible show wpAny _ _ (pyIter _) _ _ _)); (fail_if_success (with_reducible show wpAny _ _ (exec (Stmt.While _ _ _ _) _) _ _ _)); first | walk_at "MY hid" | (k_unfold; (try dsimp only)) | (k_end; wrow_close) | walk1 | (dsimp only; walk1) | (leave1; walk_say "STEP leave1"; try dsimp only) | fail "no step"))
        (rename Fr _ _ _ _ => F9); (rename News _ _ _ _ => N9)
        with_unfolding_all refine swhl_in ⟨k, od3, kvs3, r3, q2, qv3, qe3, q3⟩ F9 N9 (by (first | exact fun _ h => h | ((repeat' (with_reducible first | exact sub_nil | exact fun _ h => h | refine sub_keep ?_ | refine sub_drop ?_)); done) | ((repeat' (first | exact fmn | refine fmc (by k_mem) ?_ | (intro p hp; k_mem))); done))) ⟨⟨s1, s2, s3, rF_next r4 s4, s5, ?_, ?_, lq3, lq4, lq5, tb_ltOf lq6⟩, Nat.lt_succ_self _⟩ (fmc rfl (fmn)) (by (first | ((refine Sm.out ?_); (repeat' (with_reducible first | exact sm_refl | refine sm_if ?_ ?_ | refine sm_kn ?_ | refine sm_kc ?_ ?_ | refine sm_rest ?_ ?_ | exact all_nil | refine all_cons ?_ ?_ | (refine Or.inl ?_; (repeat (first | exact in_here | refine in_on ?_)); done) | (refine Or.inr ?_; (repeat (first | exact inn_here | refine inn_on ?_)); done))); done) | (intro z h2 h3; (simp only [List.forall_mem_cons, List.not_mem_nil, false_implies, implies_true, and_true, ne_eq] at h2); (simp only [List.contains_cons, List.contains_nil, Bool.or_false, Bool.or_eq_false_iff, beq_eq_false_iff_ne, ne_eq] at h3); (simp [kstB, Rest, h2, h3]; done))))
        · dsimp only
          omega
        · dsimp only
          omega
end WC7
namespace WC6a
theorem freshWC6a : True := by w_top off; trivial
noncomputable def covStep (f : List Int → List Int) (cells : List Int) (found : List Int) (st : Int) : List Int :=
  if cells.any (· == cells.getD 0 0 + st) && (st == 3 || decide ((cells.getD 0 0).fmod 3 < 2)) then
    found ++ (f ((cells.drop 1).filter fun x => !(x == cells.getD 0 0 + st))).map (fun more => 2 ^ (2 * cells.getD 0 0 + st.fdiv 3).toNat + more) else found
noncomputable def covF : Nat → List Int → List Int
  | 0, _ => []
  | n + 1, cells => if cells = [] then [0] else ([1, 3] : List Int).foldl (covStep (covF n) cells) []
structure CS where
  fd : Addr
  vs : List Value
  ep : Nat
  found : List Int
structure VS where
  fd : Addr
  vs : List Value
  ep : Nat
  found : List Int
  ox : Obj
noncomputable def RecC (w : World) (m : Nat) : Prop := ∀ (l : Addr) (vs : List Value) (k : Nat) (cells : List Int), IntsAre vs cells → cells.length ≤ m → (∀ c ∈ cells, 0 ≤ c ∧ c < 12) →
    Ctr w 73 (2 * m + 3) [(l, listOf vs.toArray k)] [.ref l] fun r tl => ∃ lr us nr, r = .ref lr ∧ tl = [(lr, listOf (List.toArray us) nr)] ∧ IntsAre us (covF (m + 1) cells)
theorem foldl_len (f : List Int → List Int) (cells : List Int) {b : Nat} (h : ∀ c, (f c).length ≤ b) : (([1, 3] : List Int).foldl (covStep f cells) []).length ≤ 2 * b := by
  have step : ∀ found st, (covStep f cells found st).length ≤ found.length + b := by
    intro found st
    unfold covStep
    split
    · rw [List.length_append, List.length_map]
      exact Nat.add_le_add_left (h _) _
    · exact Nat.le_add_right _ _
  have h1 := step [] 1
  have h2 := step (covStep f cells [] 1) 3
  simp only [List.foldl_cons, List.foldl_nil, List.length_nil] at h1 h2 ⊢
  omega
theorem covF_len : ∀ (n : Nat) (cells : List Int), (covF n cells).length ≤ 2 ^ n
  | 0, _ => Nat.zero_le _
  | n + 1, cells => by
    unfold covF
    split
    · exact Nat.one_le_two_pow
    · have := foldl_len (covF n) cells (covF_len n)
      rw [Nat.pow_succ]
      omega
theorem covF_len_le {n : Nat} (h : n ≤ 12) (cells : List Int) : (covF n cells).length ≤ 4096 := Nat.le_trans (covF_len n cells) (Nat.pow_le_pow_right (by decide) h)
theorem filt_len {m : Nat} {cells : List Int} {p : Int → Bool} (h : cells.length ≤ m + 1) : (((cells.drop 1).filter p).map (fun a => a)).length ≤ m := by
  have h1 := List.length_filter_le p (cells.drop 1)
  rw [List.length_map]
  rw [List.length_drop] at h1
  omega
theorem filt_mem {cells : List Int} {p : Int → Bool} (h : ∀ c ∈ cells, 0 ≤ c ∧ c < 12) : ∀ c ∈ ((cells.drop 1).filter p).map (fun a => a), 0 ≤ c ∧ c < 12 := by
  intro c hc
  rw [List.map_id'] at hc
  exact h c (List.mem_of_mem_drop (List.mem_filter.mp hc).1)
theorem ints_at {vs : List Value} {ns : List Int} (h : IntsAre vs ns) : ∀ (i : Nat) {v : Value}, vs[i]? = some v → ∃ x t, v = .int x t ∧ ns[i]? = some x := by
  induction h with
  | nil => intro i v e; cases e
  | cons x t _ ih =>
    intro i v e
    cases i with
    | zero => exact ⟨x, t, (Option.some.inj e).symm, rfl⟩
    | succ i => exact ih i e
theorem take_snoc {ns : List Int} {i : Nat} {x : Int} (h : ns[i]? = some x) : ns.take (i + 1) = ns.take i ++ [x] := by rw [List.take_add_one, h]; rfl
theorem covStep_len (f : List Int → List Int) (cells : List Int) {b : Nat} (h : ∀ c, (f c).length ≤ b) (found : List Int) (st : Int) : (covStep f cells found st).length ≤ found.length + b := by
  unfold covStep
  split
  · rw [List.length_append, List.length_map]
    exact Nat.add_le_add_left (h _) _
  · exact Nat.le_add_right _ _
theorem foldl_len2 (f : List Int → List Int) (cells : List Int) {b : Nat} (h : ∀ c, (f c).length ≤ b) : ∀ (l : List Int) (a : List Int), (l.foldl (covStep f cells) a).length ≤ a.length + l.length * b
  | [], a => Nat.le_add_right _ _
  | st :: l, a => by
    have h1 := foldl_len2 f cells h l (covStep f cells a st)
    have h2 := covStep_len f cells h a st
    rw [List.foldl_cons, List.length_cons, Nat.add_mul, Nat.one_mul]
    omega
theorem found_len {n : Nat} (hn : n ≤ 12) {cells found : List Int} {i : Nat} (h : found = (([1, 3] : List Int).take i).foldl (covStep (covF n) cells) []) : found.length ≤ 8192 := by
  have h1 := foldl_len2 (covF n) cells (covF_len_le hn) (([1, 3] : List Int).take i) []
  rw [← h, List.length_nil] at h1
  have h2 : (([1, 3] : List Int).take i).length ≤ 2 := by
    rw [List.length_take]
    exact Nat.min_le_right _ _
  have h3 : (([1, 3] : List Int).take i).length * 4096 ≤ 2 * 4096 := Nat.mul_le_mul_right _ h2
  omega
theorem cov_yes {f : List Int → List Int} {cells found : List Int} {st : Int} (h1 : (cells.any fun x => x == cells.getD 0 0 + st) = true) (h2 : st = 3 ∨ (cells.getD 0 0).fmod 3 < 2) :
    found ++ (f ((((cells.drop 1).filter fun a => a != cells.getD 0 0 + st)).map fun a => a)).map (fun more => 2 ^ (2 * cells.getD 0 0 + st.fdiv 3).toNat + more) = covStep f cells found st := by
  unfold covStep
  rw [if_pos, List.map_id']
  · rfl
  · rw [Bool.and_eq_true, Bool.or_eq_true, beq_iff_eq, decide_eq_true_eq]
    exact ⟨h1, h2⟩
theorem cov_no1 {f : List Int → List Int} {cells found : List Int} {st : Int} (h1 : (cells.any fun x => x == cells.getD 0 0 + st) = false) : found = covStep f cells found st := by
  unfold covStep
  rw [if_neg]
  rw [h1]
  simp
theorem cov_no2 {f : List Int → List Int} {cells found : List Int} {st : Int} (h2 : ¬ st = 3) (h1 : ¬ (cells.getD 0 0).fmod 3 < 2) : found = covStep f cells found st := by
  unfold covStep
  rw [if_neg]
  rw [Bool.and_eq_true, Bool.or_eq_true, beq_iff_eq, decide_eq_true_eq]
  rintro ⟨_, h | h⟩
  · exact h2 h
  · exact h1 h
end WC6a
namespace WC6
open WC6a
local macro_rules | `(tactic| walk_at "MY blank 0") => `(tactic| skip)
local macro_rules | `(tactic| walk_at "MY blank 1") => `(tactic| skip)
local macro_rules | `(tactic| walk_at "MY blank 2") => `(tactic| skip)
theorem freshWC6 : True := by w_top off; trivial
set_option pp.maxSteps 2500
set_option pp.deepTerms false
local macro_rules | `(tactic| walk_at "eval Name") => `(tactic| (k_here; (with_reducible show wpAny _ _ (eval (Expr.Name _ _) (envOfC _ _ _ _ _)) _ _ _); k_dflt (refine nameX_C (by k_asm) (by rfl) (by k_mem) (by k_asm) ?_ (by rfl) (by rfl))))
set_option maxHeartbeats 100000000 in
theorem ctr_cov (w : World) : ∀ (n : Nat) (l : Addr) (vs : List Value) (k : Nat) (cells : List Int), IntsAre vs cells → cells.length ≤ n → n ≤ 12 → (∀ c ∈ cells, 0 ≤ c ∧ c < 12) →
    Ctr w 73 (2 * n + 3) [(l, listOf vs.toArray k)] [.ref l] fun r tl => ∃ lr us nr, r = .ref lr ∧ tl = [(lr, listOf (List.toArray us) nr)] ∧ IntsAre us (covF (n + 1) cells) := by
  intro n
  induction n using Nat.strongRecOn with
  | ind n IH =>
  intro l vs kk cells hv hlen hn12 hrange
  unfold Ctr
  k_fill
  intro dp un gd env outer A₀ base h₀ L m mean mg mb news s Q E B F X N hsub T hf hk hd hu hret
  have hrm0 : dp < recursionLimit := by omega
  have hrm1 : un + 3 + 64 < cLine := by omega
  k_dflt ((refine' my_defC ?k1 ?k2 ?k3 ?k4 ?kS ?k5 ?kF ?kK ?k6 ?k7 ?k8 ?k9 ?kB ?kD ?kR ?_ ?c2 ?c3 ?c4; (case kF => assumption); (case kK => assumption); (case k1 => k_asm); (case k2 => k_asm); (case k3 => k_asm); (case k4 => k_asm); (case kS => assumption); (case k5 => k_asm); (case k6 => k_is); (case k7 => k_is); (case k8 => walk_at "MY room"); (case k9 => exact BindsTo.of_eq rfl); (case kR => assumption); (case kB => exact rfl); (case kD => decide +kernel); (case c2 => exact rfl); (case c3 => exact rfl); (case c4 => exact rfl); k_whole))
  intro g' L' h' tk' cells' F' N' Y' B' X' T' l1
  (try k_lt l1); k_cells Y'; (try simp only [List.cons_append, List.nil_append] at N')
  clear hret hsub B F X N T hk hf
  (repeat' ((fail_if_success (with_reducible show wpAny _ _ (pyIter _) _ _ _)); (fail_if_success (with_reducible show wpAny _ _ (exec (Stmt.While _ _ _ _) _) _ _ _)); first | walk_at "MY hid" | (k_unfold; (try dsimp only)) | (k_end; wrow_close) | walk1 | (dsimp only; walk1) | (leave1; walk_say "STEP leave1"; try dsimp only) | fail "no step"))
  · (rename Fr _ _ _ _ => F6); (rename News _ _ _ _ => N6); (rename decide (cells = []) = true => he)
    have he := of_decide_eq_true he
    rename_i lr _ _
    refine leave_in [(lr, _)] F6 N6 (fmc (by k_mem) (fmc (by k_mem) (fmn))) ?_ ⟨lr, [.int 0 _], 0, rfl, rfl, ?_⟩
    · refine fmc (fmc ?_ (fmn)) (fmn)
      refine ltN ?_
      try dsimp only
      omega
    · unfold covF
      rw [if_pos he]
      exact .cons 0 _ .nil
  · (rename decide (cells = []) = false => he)
    have he := of_decide_eq_false he
    have hpos : 0 < cells.length := List.length_pos_iff.mpr he
    have hc0 : 0 ≤ cells.getD 0 0 ∧ cells.getD 0 0 < 12 := by
      cases cells with
      | nil => exact absurd rfl he
      | cons c0 cs => exact hrange c0 (.head _)
    obtain ⟨nn, rfl⟩ : ∃ m, n = m + 1 := ⟨n - 1, by omega⟩
    have IHC : RecC w nn := fun l vs k cells a b c => IH nn (by omega) l vs k cells a b (by omega) c
    have hn11 : nn + 1 ≤ 12 := hn12
    have hc1 : 0 ≤ cells.getD (Int.toNat 0) 0 ∧ cells.getD (Int.toNat 0) 0 < 12 := hc0
    have hf1 : Int.fdiv 1 3 = 0 := rfl
    have hf3 : Int.fdiv 3 3 = 1 := rfl
    clear IH
    refine gfor ?_ (fun _ => rfl)
    (repeat' ((fail_if_success (with_reducible show wpAny _ _ (pyIter _) _ _ _)); (fail_if_success (with_reducible show wpAny _ _ (exec (Stmt.While _ _ _ _) _) _ _ _)); first | walk_at "MY hid" | (k_unfold; (try dsimp only)) | (k_end; wrow_close) | walk1 | (dsimp only; walk1) | (leave1; walk_say "STEP leave1"; try dsimp only) | fail "no step"))
    rename_i o1 o2 d1 d2 E0 _ _ _ fd0 _ _ _ l13 _ F1 N1 q13
    have N2 : News g' L' _ [(fd0, listOf #[] 0), (L' + 1 + 1, o1), (L' + 1, o2), (l13, listOf #[Value.int 1 tk, Value.int 3 (tk + 1)] 0), (l, listOf vs.toArray kk)] := fun p hp => N1 p (by
      simp only [List.mem_cons, List.not_mem_nil, or_false] at hp ⊢
      rcases hp with h | h | h | h | h <;> simp [h])
    clear N1
    obtain ⟨ol, hol⟩ : ∃ o : Obj, o = listOf #[Value.int 1 tk, Value.int 3 (tk + 1)] 0 := ⟨_, rfl⟩
    rw [← hol] at N2
    have hol1 : ol.cls = .type "list" := by rw [hol]
    have hol2 : ol.data = .seq ([Value.int 1 tk, Value.int 3 (tk + 1)] : List Value).toArray 0 := by rw [hol]
    clear hol
    have hC : @LT.lt Nat _ (L' + 1 + 1) fd0 := by omega
    with_unfolding_all
      refine gloop_list (σ := VS) (vs := [Value.int 1 tk, Value.int 3 (tk + 1)]) (k := 0) (ax := l13) (oax := ol)
        (fun c => [(c.fd, listOf c.vs.toArray c.ep), (L' + 1 + 1, c.ox), (L' + 1, o2), (l13, ol), (l, listOf vs.toArray kk)]) (fun c => [(Str.ofString "found", .ref c.fd)]) [Str.ofString "rest"]
        (fun i c => IntsAre c.vs c.found ∧ (∃ v, c.ox.data = .cell v) ∧ @LT.lt Nat _ (L' + 1 + 1) c.fd ∧ c.found = (([1, 3] : List Int).take i).foldl (covStep (covF (nn + 1)) cells) []) rfl (fun c => by k_mem) hol1 hol2 F1 N2
        (sj_mk ⟨fd0, [], 0, [], o1⟩ rfl ⟨.nil, ⟨_, d1⟩, hC, rfl⟩ (fmc rfl (fmn)) (fun _ _ _ => rfl)) (fun _ _ => rfl) ?_ ?_
    · intro i zz1 v u I oI h tq hi zz9 hne hlt F3 N3
      try k_fold
      obtain ⟨fd, vf, ep, found, ox⟩ := zz1
      obtain ⟨p1, ⟨v0, p2⟩, p3, p4⟩ := zz9
      dsimp only at p1 p2 p3 p4 hne F3 N3
      clear F1 N2
      have e1 : @LT.lt Nat _ (L' + 1 + 1) I := hlt _ (List.mem_cons_of_mem _ List.mem_cons_self)
      obtain ⟨st, ts, hst, rfl, hv1⟩ : ∃ st ts, (st = 1 ∨ st = 3) ∧ v = .int st ts ∧ ([1, 3] : List Int)[i]? = some st := by
        match i, hi with
        | 0, hi => exact ⟨1, _, .inl rfl, (Option.some.inj hi).symm, rfl⟩
        | 1, hi => exact ⟨3, _, .inr rfl, (Option.some.inj hi).symm, rfl⟩
        | i + 2, hi => exact absurd hi (by simp)
      try k_fold
      (repeat' ((fail_if_success (with_reducible show wpAny _ _ (pyIter _) _ _ _)); (fail_if_success (with_reducible show wpAny _ _ (exec (Stmt.While _ _ _ _) _) _ _ _)); (fail_if_success (with_reducible show wpAny _ _ (exec (Stmt.If _ _ _ _) _) _ _ _)); first | walk_at "MY hid" | (k_unfold; (try dsimp only)) | (k_end; wrow_close) | walk1 | (dsimp only; walk1) | (leave1; walk_say "STEP leave1"; try dsimp only) | fail "no step"))
      (rename Fr _ _ _ _ => F9); (rename News _ _ _ _ => N9)
      rename_i o9 d9
      with_unfolding_all
        refine cut (σ := CS) (fun c => [(I, oI), (c.fd, listOf c.vs.toArray c.ep), (L' + 1 + 1, o9), (L' + 1, o2), (l13, ol), (l, listOf vs.toArray kk)]) (fun c => [(Str.ofString "found", .ref c.fd)]) [Str.ofString "rest"]
          (fun c => IntsAre c.vs c.found ∧ @LT.lt Nat _ (L' + 1 + 1) c.fd ∧ @Ne Nat c.fd I ∧ c.found = covStep (covF (nn + 1)) cells found st) F9 ?_ ?_
      · have hfI : @Ne Nat fd I := hne _ List.mem_cons_self
        have hl6 := found_len hn11 p4
        have hfd : 0 ≤ Int.fdiv st 3 ∧ Int.fdiv st 3 ≤ 1 := by rcases hst with rfl | rfl <;> decide
        try k_fold
        walk1
        refine ifcut (fun b => (b = true → found ++ (covF (nn + 1) ((((cells.drop 1).filter fun a => a != cells.getD 0 0 + st)).map fun a => a)).map (fun more => 2 ^ (2 * cells.getD 0 0 + st.fdiv 3).toNat + more) = covStep (covF (nn + 1)) cells found st) ∧ (b = false → found = covStep (covF (nn + 1)) cells found st)) F9 N9 ?_ ?_
        · intro R8 hR8
          (repeat' ((fail_if_success (with_reducible show wpAny _ _ (pyIter _) _ _ _)); (fail_if_success (with_reducible show wpAny _ _ (exec (Stmt.While _ _ _ _) _) _ _ _)); first | walk_at "MY hid" | (k_unfold; (try dsimp only)) | (k_end; wrow_close) | walk1 | (dsimp only; walk1) | (leave1; walk_say "STEP leave1"; try dsimp only) | fail "no step"))
          all_goals ((rename Fr _ _ _ _ => F6); (rename News _ _ _ _ => N6); refine hR8 _ _ _ ?_ F6 N6)
          all_goals first
            | exact ⟨fun _ => cov_yes (by assumption) (.inl (by assumption)), (fun e => nomatch e)⟩
            | exact ⟨fun _ => cov_yes (by assumption) (.inr (by assumption)), (fun e => nomatch e)⟩
            | exact ⟨(fun e => nomatch e), fun _ => cov_no1 (by assumption)⟩
            | exact ⟨(fun e => nomatch e), fun _ => cov_no2 (by assumption) (by assumption)⟩
        · rintro b u9 tk9 hb F10 N10
          clear F9 N9
          cases b
          · replace hb := hb.2 rfl
            try k_fold
            (repeat' ((fail_if_success (with_reducible show wpAny _ _ (pyIter _) _ _ _)); (fail_if_success (with_reducible show wpAny _ _ (exec (Stmt.While _ _ _ _) _) _ _ _)); first | walk_at "MY hid" | (k_unfold; (try dsimp only)) | (k_end; wrow_close) | walk1 | (dsimp only; walk1) | (leave1; walk_say "STEP leave1"; try dsimp only) | fail "no step"))
            (rename Fr _ _ _ _ => F6); (rename News _ _ _ _ => N6)
            with_unfolding_all refine scut_in ⟨_, _, _, _⟩ F6 N6 (by (first | exact fun _ h => h | ((repeat' (with_reducible first | exact sub_nil | exact fun _ h => h | refine sub_keep ?_ | refine sub_drop ?_)); done) | ((repeat' (first | exact fmn | refine fmc (by k_mem) ?_ | (intro p hp; k_mem))); done))) ⟨p1, p3, hfI, hb⟩ (fmc rfl (fmn)) (by (first | ((refine Sm.out ?_); (repeat' (with_reducible first | exact sm_refl | refine sm_if ?_ ?_ | refine sm_kn ?_ | refine sm_kc ?_ ?_ | refine sm_rest ?_ ?_ | exact all_nil | refine all_cons ?_ ?_ | (refine Or.inl ?_; (repeat (first | exact in_here | refine in_on ?_)); done) | (refine Or.inr ?_; (repeat (first | exact inn_here | refine inn_on ?_)); done))); done) | (intro z h2 h3; (simp only [List.forall_mem_cons, List.not_mem_nil, false_implies, implies_true, and_true, ne_eq] at h2); (simp only [List.contains_cons, List.contains_nil, Bool.or_false, Bool.or_eq_false_iff, beq_eq_false_iff_ne, ne_eq] at h3); (simp [kstB, Rest, h2, h3]; done))))
          · replace hb := hb.1 rfl
            try k_fold
            (repeat' ((fail_if_success (with_reducible show wpAny _ _ (eval (Expr.ListComp _ _ _ _) _) _ _ _)); (fail_if_success (with_reducible show wpAny _ _ (pyIter _) _ _ _)); (fail_if_success (with_reducible show wpAny _ _ (exec (Stmt.While _ _ _ _) _) _ _ _)); first | walk_at "MY hid" | (k_unfold; (try dsimp only)) | (k_end; wrow_close) | walk1 | (dsimp only; walk1) | (leave1; walk_say "STEP leave1"; try dsimp only) | fail "no step"))
            k_here
            lcf_look
            lcg_calm
            k_dflt (refine LCg.ListComp_U (F₀ := by k_asm) (by with_unfolding_all rfl) (by decide) (by rfl) (by decide) (by rfl) ?_)
            walk1
            walk1
            walk1
            walk1
            walk1
            walk1
            walk1
            (rename RecC _ _ => IHC)
            k_dflt (refine ctr_go (IHC _ _ _ _ (by assumption) (filt_len (by assumption)) (filt_mem (by assumption))) ?_)
            intro _ _ _ _ _ N9 _ hlt9 hR9
            obtain ⟨lr, us, nr, hr1, hr2, hr3⟩ := hR9
            subst hr1 hr2
            simp only [List.cons_append, List.nil_append] at N9
            have hlt9 : @LT.lt Nat _ _ lr := hlt9 _ List.mem_cons_self _ List.mem_cons_self
            dsimp only at hlt9
            have hlu := IntsAre.length hr3
            have hl4 := Nat.le_trans (Nat.le_of_eq hlu) (covF_len_le (by assumption) _)
            try dsimp only
            (((try dsimp only); walk_at "CompSrc"))
            refine comp_invF (fun j ys => IntsAre ys (((covF (nn + 1) ((((cells.drop 1).filter fun a => a != cells.getD 0 0 + st)).map fun a => a)).take j).map (fun more => 2 ^ (2 * cells.getD 0 0 + Int.fdiv st 3).toNat + more))) .nil ?_ ?_
            · (rename IntsAre _ (covF _ _) => hr3)
              rintro j v ys I3 oI3 C3 oC3 D3 m3 h3 tk3 E3 hj hv3 hy hC3 hx3 F3 N3 off ne
              have hv4 := hv3
              rw [List.getElem?_toArray] at hv4
              obtain ⟨x3, t3, rfl, hx4⟩ := ints_at hr3 j hv4
              clear hv4
              try k_fold
              (repeat' ((fail_if_success (with_reducible show wpAny _ _ (pyIter _) _ _ _)); (fail_if_success (with_reducible show wpAny _ _ (exec (Stmt.While _ _ _ _) _) _ _ _)); first | walk_at "MY hid" | (k_unfold; (try dsimp only)) | (k_end; wrow_close) | walk1 | (dsimp only; walk1) | (leave1; walk_say "STEP leave1"; try dsimp only) | fail "no step"))
              (rename Fr _ _ _ _ => F6); (rename News _ _ _ _ => N6)
              refine comp_end _ F6 N6 (by (first | exact fun _ h => h | ((repeat' (with_reducible first | exact sub_nil | exact fun _ h => h | refine sub_keep ?_ | refine sub_drop ?_)); done) | ((repeat' (first | exact fmn | refine fmc (by k_mem) ?_ | (intro p hp; k_mem))); done))) off (Or.inr ⟨_, by k_mem, rfl, _, rfl⟩) ⟨rfl, ?_⟩
              have hx5 : (covF (nn + 1) ((((cells.drop 1).filter fun a => a != cells.getD 0 0 + st)).map fun a => a))[j]? = some x3 := hx4
              rw [take_snoc hx5, List.map_append]
              exact ints_snoc hy
            · (rename IntsAre _ (covF _ _) => hr3)
              rintro ys hy
              rw [List.take_of_length_le (by rw [List.size_toArray]; exact Nat.le_of_eq (IntsAre.length hr3).symm)] at hy
              have hl5 := covF_len_le hn11 ((((cells.drop 1).filter fun a => a != cells.getD 0 0 + st)).map fun a => a)
              (repeat' ((fail_if_success (with_reducible show wpAny _ _ (pyIter _) _ _ _)); (fail_if_success (with_reducible show wpAny _ _ (exec (Stmt.While _ _ _ _) _) _ _ _)); first | walk_at "MY hid" | (k_unfold; (try dsimp only)) | (k_end; wrow_close) | walk1 | (dsimp only; walk1) | (leave1; walk_say "STEP leave1"; try dsimp only) | fail "no step"))
              (rename Fr _ _ _ _ => F6); (rename News _ _ _ _ => N6); (rename IntsAre _ (_ ++ _) => hI6)
              with_unfolding_all refine scut_in ⟨_, _, _, _⟩ F6 N6 (by (first | exact fun _ h => h | ((repeat' (with_reducible first | exact sub_nil | exact fun _ h => h | refine sub_keep ?_ | refine sub_drop ?_)); done) | ((repeat' (first | exact fmn | refine fmc (by k_mem) ?_ | (intro p hp; k_mem))); done))) ⟨hI6, ?_, ?_, hb⟩ (fmc rfl (fmn)) (by (first | ((refine Sm.out ?_); (repeat' (with_reducible first | exact sm_refl | refine sm_if ?_ ?_ | refine sm_kn ?_ | refine sm_kc ?_ ?_ | refine sm_rest ?_ ?_ | exact all_nil | refine all_cons ?_ ?_ | (refine Or.inl ?_; (repeat (first | exact in_here | refine in_on ?_)); done) | (refine Or.inr ?_; (repeat (first | exact inn_here | refine inn_on ?_)); done))); done) | (intro z h2 h3; (simp only [List.forall_mem_cons, List.not_mem_nil, false_implies, implies_true, and_true, ne_eq] at h2); (simp only [List.contains_cons, List.contains_nil, Bool.or_false, Bool.or_eq_false_iff, beq_eq_false_iff_ne, ne_eq] at h3); (simp [kstB, Rest, h2, h3]; done))))
              · try dsimp only
                omega
              · try dsimp only
                omega
      · intro zz0 u2 h2 tk2 zz4 F8 N8
        try k_fold
        obtain ⟨f2, v2, ep2, found2⟩ := zz0
        obtain ⟨q1, q2, q3, q4⟩ := zz4
        dsimp only at q1 q2 q3 q4 F8 N8
        clear F9 N9
        try k_fold
        (repeat' ((fail_if_success (with_reducible show wpAny _ _ (pyIter _) _ _ _)); (fail_if_success (with_reducible show wpAny _ _ (exec (Stmt.While _ _ _ _) _) _ _ _)); first | walk_at "MY hid" | (k_unfold; (try dsimp only)) | (k_end; wrow_close) | walk1 | (dsimp only; walk1) | (leave1; walk_say "STEP leave1"; try dsimp only) | fail "no step"))
        have hne2 : ∀ p ∈ [(f2, listOf v2.toArray ep2), (L' + 1 + 1, o9), (L' + 1, o2), (l13, ol), (l, listOf vs.toArray kk)], p.1 ≠ I := fmc q3 (fun p hp => by
          rcases List.mem_cons.mp hp with rfl | hp
          · refine neN ?_
            try dsimp only
            omega
          · exact hne p (List.mem_cons_of_mem _ (List.mem_cons_of_mem _ hp)))
        with_unfolding_all refine sturn_in ⟨_, _, _, _, _⟩ F8 N8 (by k_mem) (by (first | exact fun _ h => h | ((repeat' (with_reducible first | exact sub_nil | exact fun _ h => h | refine sub_keep ?_ | refine sub_drop ?_)); done) | ((repeat' (first | exact fmn | refine fmc (by k_mem) ?_ | (intro p hp; k_mem))); done))) hne2 ⟨q1, ⟨_, d9⟩, q2, ?_⟩ (fmc rfl (fmn)) (by (first | ((refine Sm.out ?_); (repeat' (with_reducible first | exact sm_refl | refine sm_if ?_ ?_ | refine sm_kn ?_ | refine sm_kc ?_ ?_ | refine sm_rest ?_ ?_ | exact all_nil | refine all_cons ?_ ?_ | (refine Or.inl ?_; (repeat (first | exact in_here | refine in_on ?_)); done) | (refine Or.inr ?_; (repeat (first | exact inn_here | refine inn_on ?_)); done))); done) | (intro z h2 h3; (simp only [List.forall_mem_cons, List.not_mem_nil, false_implies, implies_true, and_true, ne_eq] at h2); (simp only [List.contains_cons, List.contains_nil, Bool.or_false, Bool.or_eq_false_iff, beq_eq_false_iff_ne, ne_eq] at h3); (simp [kstB, Rest, h2, h3]; done))))
        try dsimp only
        rw [take_snoc hv1, List.foldl_append, ← p4]
        exact q4
    · intro zz0 u h tk zz4 F3 N3
      try k_fold
      obtain ⟨fd, vf, ep, found, ox⟩ := zz0
      obtain ⟨p1, ⟨v0, p2⟩, p3, p4⟩ := zz4
      dsimp only at p1 p2 p3 p4 F3 N3
      clear F1 N2
      try k_fold
      (repeat' ((fail_if_success (with_reducible show wpAny _ _ (pyIter _) _ _ _)); (fail_if_success (with_reducible show wpAny _ _ (exec (Stmt.While _ _ _ _) _) _ _ _)); first | walk_at "MY hid" | (k_unfold; (try dsimp only)) | (k_end; wrow_close) | walk1 | (dsimp only; walk1) | (leave1; walk_say "STEP leave1"; try dsimp only) | fail "no step"))
      (rename Fr _ _ _ _ => F6); (rename News _ _ _ _ => N6)
      try dsimp only
      refine leave_in [(fd, listOf vf.toArray ep)] F6 N6 (fmc (by k_mem) (fmc (by k_mem) (fmn))) ?_ ⟨fd, vf, ep, rfl, rfl, ?_⟩
      · refine fmc (fmc ?_ (fmn)) (fmn)
        refine ltN ?_
        try dsimp only
        omega
      · unfold covF
        rw [if_neg he]
        rw [p4] at p1
        exact p1
end WC6
namespace WC1
theorem freshWC1 : True := by w_top off; trivial
noncomputable def costP (x y : Str) : Int := if x = y then 0 else if Txt.lower x = Txt.lower y then 1 else 2
theorem cost_0 {x y : Str} (h : (x == y) = true) : (0 : Int) = costP x y := by unfold costP; rw [if_pos (by simpa using h)]
theorem cost_1 {x y : Str} (h : (x == y) = false) (h2 : (Txt.lower x == Txt.lower y) = true) : (1 : Int) = costP x y := by unfold costP; rw [if_neg (by simpa using h), if_pos (by simpa using h2)]
theorem cost_2 {x y : Str} (h : (x == y) = false) (h2 : (Txt.lower x == Txt.lower y) = false) : (2 : Int) = costP x y := by unfold costP; rw [if_neg (by simpa using h), if_neg (by simpa using h2)]
theorem ctr_cost (w : World) (x y : Str) (t u : Tok) (hx : x.length ≤ 10) (hy : y.length ≤ 10) :
    Ctr w 56 2 [] [.str x t, .str y u] fun r tl => tl = [] ∧ ∃ v, r = .int (costP x y) v := by
  unfold Ctr
  k_fill
  intro dp un gd env outer A₀ base h₀ L m mean mg mb news s Q E B F X N hsub T hf hk hd hu hret
  k_dflt ((refine' my_def ?k1 ?k2 ?k3 ?k4 ?kS ?k5 ?kF ?kK ?k6 ?k7 ?k8 ?k9 ?kB ?kR ?_ ?c2 ?c3 ?c4 ?c5; (case kF => assumption); (case kK => assumption); (case k1 => k_asm); (case k2 => k_asm); (case k3 => k_asm); (case k4 => k_asm); (case kS => assumption); (case k5 => k_asm); (case k6 => k_is); (case k7 => k_is); (case k8 => walk_at "MY room"); (case k9 => exact BindsTo.of_eq rfl); (case kR => assumption); (case c5 => decide); (case kB => exact locs rfl); (case c2 => exact rfl); (case c3 => exact rfl); (case c4 => exact rfl); k_whole))
  intro g' L' h' F' N' B' X' T'
  clear hret hsub B F X N T hk hf
  (repeat' ((fail_if_success (with_reducible show wpAny _ _ (pyIter _) _ _ _)); (fail_if_success (with_reducible show wpAny _ _ (exec (Stmt.While _ _ _ _) _) _ _ _)); first | walk_at "MY hid" | (k_unfold; (try dsimp only)) | (k_end; wrow_close) | walk1 | (dsimp only; walk1) | (leave1; walk_say "STEP leave1"; try dsimp only) | fail "no step"))
  all_goals (
    first
    | exact leave_in [] (by assumption) (by assumption) (fun _ h => h) (fun _ h => nomatch h) ⟨rfl, _, congrArg (fun i => Value.int i _) (cost_0 (by assumption))⟩
    | exact leave_in [] (by assumption) (by assumption) (fun _ h => h) (fun _ h => nomatch h) ⟨rfl, _, congrArg (fun i => Value.int i _) (cost_1 (by assumption) (by assumption))⟩
    | exact leave_in [] (by assumption) (by assumption) (fun _ h => h) (fun _ h => nomatch h) ⟨rfl, _, congrArg (fun i => Value.int i _) (cost_2 (by assumption) (by assumption))⟩)
end WC1
namespace WC3
local macro_rules | `(tactic| walk_at "MY blank 0") => `(tactic| skip)
local macro_rules | `(tactic| walk_at "MY blank 1") => `(tactic| skip)
local macro_rules | `(tactic| walk_at "MY blank 2") => `(tactic| skip)
local macro_rules | `(tactic| walk_at "MY blank 3") => `(tactic| skip)
theorem freshWC3 : True := by w_top off; trivial
noncomputable def apTab : Array UInt8 := #[65, 66, 67, 68, 69, 70, 71, 72, 73, 74, 75, 76, 77, 78, 79, 80]
noncomputable def apF : Nat → Int → Array UInt8 → Array UInt8
  | 0, _, v => v
  | k + 1, n, v => if n = 0 then v else apF k (n.fdiv 16) (KBy.picked apTab (some (n.fmod 16)) (some (n.fmod 16 + 1)) ++ v)
theorem apF_zero : ∀ k v, apF k 0 v = v
  | 0, _ => rfl
  | _ + 1, _ => rfl
theorem ap_size (lo hi : Option Int) : (KBy.picked apTab lo hi).size ≤ 16 := KBc.size_picked_le apTab lo hi
theorem ap_next {k : Nat} {n : Int} {v z' : Array UInt8} (p1 : 0 ≤ n) (p2 : n < 16 ^ k) (p3 : v.size + 16 * k ≤ 96) (p4 : apF k n v = z' ) (hn : n ≠ 0) :
    ∃ j, j < k ∧ 0 ≤ n.fdiv 16 ∧ n.fdiv 16 < 16 ^ j ∧ (KBy.picked apTab (some (n.fmod 16)) (some (n.fmod 16 + 1)) ++ v).size + 16 * j ≤ 96 ∧ apF j (n.fdiv 16) (KBy.picked apTab (some (n.fmod 16)) (some (n.fmod 16 + 1)) ++ v) = z' := by
  cases k with
  | zero => simp at p2; omega
  | succ j =>
    have e : n.fdiv 16 = n / 16 := Int.fdiv_eq_ediv_of_nonneg n (by decide)
    refine ⟨j, Nat.lt_succ_self _, by rw [e]; omega, ?_, ?_, ?_⟩
    · rw [e]
      have : (16 : Int) ^ (j + 1) = 16 * 16 ^ j := by rw [Int.pow_succ, Int.mul_comm]
      rw [this] at p2
      generalize (16 : Int) ^ j = X at p2 ⊢
      omega
    · have := ap_size (some (n.fmod 16)) (some (n.fmod 16 + 1))
      rw [Array.size_append]; omega
    · rw [← p4, apF, if_neg hn]
local macro_rules | `(tactic| walk_at "subscriptTail") => `(tactic| (k_here; (with_reducible show wpAny _ _ (subscriptTail _ (Expr.Slice _ _ none _) (Value.bytes _ _) (Value.ref _)) _ _ _); (refine KBc.slice_K (s := ⟨_, _, _, _, _⟩) (by k_asm) (by k_asm) rfl (by constructor) (by constructor) (by decide +kernel) ?_); intro _ _ _ _ _ _))
local macro_rules | `(tactic| walk_at "binaryOp Add bytes bytes") => `(tactic| (k_here; (refine KBy.add_bytes (by exact Nat.le_trans (Nat.add_le_add (ap_size _ _) (Nat.le_refl _)) (by omega)) ?_); intro _ _))
theorem ctr_ap (w : World) (z : Int) (t : Tok) (hz : -(16 ^ 6) < z ∧ z ≤ 0) :
    Ctr w 21 2 [] [.int z t] fun r tl => tl = [] ∧ ∃ v, r = .bytes (apF 6 (-z) #[]) v := by
  unfold Ctr
  k_fill
  intro dp un gd env outer A₀ base h₀ L m mean mg mb news s Q E B F X N hsub T hf hk hd hu hret
  k_dflt ((refine' my_def ?k1 ?k2 ?k3 ?k4 ?kS ?k5 ?kF ?kK ?k6 ?k7 ?k8 ?k9 ?kB ?kR ?_ ?c2 ?c3 ?c4 ?c5; (case kF => assumption); (case kK => assumption); (case k1 => k_asm); (case k2 => k_asm); (case k3 => k_asm); (case k4 => k_asm); (case kS => assumption); (case k5 => k_asm); (case k6 => k_is); (case k7 => k_is); (case k8 => walk_at "MY room"); (case k9 => exact BindsTo.of_eq rfl); (case kR => assumption); (case c5 => decide); (case kB => exact locs rfl); (case c2 => exact rfl); (case c3 => exact rfl); (case c4 => exact rfl); k_whole))
  intro g' L' h' F' N' B' X' T'
  clear hret hsub B F X N T hk hf
  (repeat' ((fail_if_success (with_reducible show wpAny _ _ (pyIter _) _ _ _)); (fail_if_success (with_reducible show wpAny _ _ (exec (Stmt.While _ _ _ _) _) _ _ _)); first | walk_at "MY hid" | (k_unfold; (try dsimp only)) | (k_end; wrow_close) | walk1 | (dsimp only; walk1) | (leave1; walk_say "STEP leave1"; try dsimp only) | fail "no step"))
  (rename Fr _ _ _ _ => F1); (rename News _ _ _ _ => N1)
  have ez : (if z < 0 then -z else z) = -z := by split <;> omega
  rw [ez] at F1
  have hz1 : 0 ≤ -z := by omega
  have hz2 : -z < 16 ^ 6 := by omega
  with_unfolding_all
    refine swhile (σ := Nat × Int × Tok × Array UInt8 × Tok) (fun _ => []) (fun c => [(Str.ofString "num", .int c.2.1 c.2.2.1), (Str.ofString "val", .bytes c.2.2.2.1 c.2.2.2.2)]) [Str.ofString "mod"]
      (fun c => 0 ≤ c.2.1 ∧ c.2.1 < 16 ^ c.1 ∧ c.2.2.2.1.size + 16 * c.1 ≤ 96 ∧ apF c.1 c.2.1 c.2.2.2.1 = apF 6 (-z) #[]) (fun c => c.1) F1 N1
      (sj_mk (6, -z, _, #[], _) rfl ⟨hz1, hz2, Nat.le_refl _, rfl⟩ (fmc rfl (fmc rfl (fmn))) (fun _ _ _ => rfl)) ?_ PassesOwn.never
  intro zz0 u h tk hP F2 N2
  try k_fold
  obtain ⟨k, n, tn, v, tv⟩ := zz0
  dsimp only at hP
  obtain ⟨p1, p2, p3, p4⟩ := hP
  have h5 : v.size ≤ 96 := by omega
  clear F1 N1
  try k_fold
  (repeat' ((fail_if_success (with_reducible show wpAny _ _ (pyIter _) _ _ _)); (fail_if_success (with_reducible show wpAny _ _ (exec (Stmt.While _ _ _ _) _) _ _ _)); first | walk_at "MY hid" | (k_unfold; (try dsimp only)) | (k_end; wrow_close) | walk1 | (dsimp only; walk1) | (leave1; walk_say "STEP leave1"; try dsimp only) | fail "no step"))
  · (rename Fr _ _ _ _ => F9); (rename News _ _ _ _ => N9)
    obtain ⟨j, q0, q1, q2, q3, q4⟩ := ap_next p1 p2 p3 p4 (by assumption)
    with_unfolding_all
      refine swhl_in (j, _, _, _, _) F9 N9 (by (first | exact fun _ h => h | ((repeat' (with_reducible first | exact sub_nil | exact fun _ h => h | refine sub_keep ?_ | refine sub_drop ?_)); done) | ((repeat' (first | exact fmn | refine fmc (by k_mem) ?_ | (intro p hp; k_mem))); done))) ?_ (fmc rfl (fmc rfl (fmn))) (by (first | ((refine Sm.out ?_); (repeat' (with_reducible first | exact sm_refl | refine sm_if ?_ ?_ | refine sm_kn ?_ | refine sm_kc ?_ ?_ | refine sm_rest ?_ ?_ | exact all_nil | refine all_cons ?_ ?_ | (refine Or.inl ?_; (repeat (first | exact in_here | refine in_on ?_)); done) | (refine Or.inr ?_; (repeat (first | exact inn_here | refine inn_on ?_)); done))); done) | (intro z h2 h3; (simp only [List.forall_mem_cons, List.not_mem_nil, false_implies, implies_true, and_true, ne_eq] at h2); (simp only [List.contains_cons, List.contains_nil, Bool.or_false, Bool.or_eq_false_iff, beq_eq_false_iff_ne, ne_eq] at h3); (simp [kstB, Rest, h2, h3]; done))))
    exact ⟨⟨q1, q2, q3, q4⟩, q0⟩
  · (rename (_ : Int) = 0 => hz0)
    try dsimp only at hz0 ⊢
    rw [hz0, apF_zero] at p4
    exact leave_in [] (by assumption) (by assumption) (fun _ h => h) (fun _ h => nomatch h) ⟨rfl, _, by rw [p4]⟩
end WC3
namespace WC8
theorem freshWC8 : True := by w_top off; trivial
noncomputable def hstep (cv : Int) (cells : List Int) (h c : Int) : Int :=
  if cells.any (· == c) && cells.any (· == c + 3) then h + (1 - 4 * (cv.fdiv (2 ^ (2 * c + 1).toNat)).fmod 2) * (1 - 2 * ((c.fdiv 3 + c.fmod 3).fmod 2)) else h
noncomputable def heightP (cv sp : Int) (cells : List Int) : Int := (rangeKs (sp - sp.fmod 3) (sp.fmod 3 + 1).toNat).foldl (hstep cv cells) 0
theorem hstep_tt {cv : Int} {cells : List Int} {h c : Int} (h1 : cells.any (· == c) = true) (h2 : cells.any (· == c + 3) = true) : h + (1 - 4 * (cv.fdiv (2 ^ (2 * c + 1).toNat)).fmod 2) * (1 - 2 * ((c.fdiv 3 + c.fmod 3).fmod 2)) = hstep cv cells h c := by
  unfold hstep; rw [h1, h2]; rfl
theorem hstep_tf {cv : Int} {cells : List Int} {h c : Int} (h2 : cells.any (· == c + 3) = false) : h = hstep cv cells h c := by
  unfold hstep; rw [h2, Bool.and_false]; rfl
theorem hstep_f {cv : Int} {cells : List Int} {h c : Int} (h1 : cells.any (· == c) = false) : h = hstep cv cells h c := by
  unfold hstep; rw [h1]; rfl
theorem ctr_height (w : World) (l : Addr) (vs : List Value) (n : Nat) (cells : List Int) (hv : IntsAre vs cells) (cv sp : Int) (t1 t2 : Tok) (hsp : 0 ≤ sp ∧ sp < 12) (hcv : 0 ≤ cv ∧ cv < 2 ^ 24) :
    Ctr w 87 2 [(l, listOf vs.toArray n)] [.int cv t1, .int sp t2, .ref l] fun r tl => tl = [] ∧ ∃ v, r = .int (heightP cv sp cells) v := by
  unfold Ctr
  k_fill
  intro dp un gd env outer A₀ base h₀ L m mean mg mb news s Q E B F X N hsub T hf hk hd hu hret
  have hrm0 : dp < recursionLimit := by omega
  have hrm1 : un + 3 + 64 < cLine := by omega
  k_dflt ((refine' my_def ?k1 ?k2 ?k3 ?k4 ?kS ?k5 ?kF ?kK ?k6 ?k7 ?k8 ?k9 ?kB ?kR ?_ ?c2 ?c3 ?c4 ?c5; (case kF => assumption); (case kK => assumption); (case k1 => k_asm); (case k2 => k_asm); (case k3 => k_asm); (case k4 => k_asm); (case kS => assumption); (case k5 => k_asm); (case k6 => k_is); (case k7 => k_is); (case k8 => walk_at "MY room"); (case k9 => exact BindsTo.of_eq rfl); (case kR => assumption); (case c5 => decide); (case kB => exact locs rfl); (case c2 => exact rfl); (case c3 => exact rfl); (case c4 => exact rfl); k_whole))
  intro g' L' h' F' N' B' X' T'
  clear hret hsub B F X N T hk hf
  have h3 := fmod3 sp
  have h4 : sp.fmod 3 = sp % 3 := Int.fmod_eq_emod_of_nonneg sp (by decide)
  (repeat' ((fail_if_success (with_reducible show wpAny _ _ (pyIter _) _ _ _)); (fail_if_success (with_reducible show wpAny _ _ (exec (Stmt.While _ _ _ _) _) _ _ _)); first | walk_at "MY hid" | (k_unfold; (try dsimp only)) | (k_end; wrow_close) | walk1 | (dsimp only; walk1) | (leave1; walk_say "STEP leave1"; try dsimp only) | fail "no step"))
  (rename Fr _ _ _ _ => F1); (rename News _ _ _ _ => N1); (rename IsRange _ _ _ _ _ _ _ _ => R1)
  with_unfolding_all refine sloop_range (σ := Int × Tok) (n := (sp.fmod 3 + 1).toNat) (fun _ => [(l, listOf vs.toArray n)]) (fun c => [(Str.ofString "height", .int c.1 c.2)]) [Str.ofString "c", Str.ofString "flat"] (fun i c => c.1 = (rangeKs (sp - sp.fmod 3) i).foldl (hstep cv cells) 0) rfl R1 ?hsm ?hn F1 N1 (sj_mk (0, _) rfl rfl (fmc rfl (fmn)) (fun _ _ _ => rfl)) ?turn ?done
  case hsm => exact small_one (by omega) (by omega) (by omega) (by omega)
  case hn => exact range_n (by omega)
  case turn =>
    intro i zz1 tc u I oI h tk hi hP hne hlt F2 N2
    try k_fold
    obtain ⟨a, t⟩ := zz1
    have hc : 0 ≤ sp - sp.fmod 3 + (i : Int) ∧ sp - sp.fmod 3 + (i : Int) < 12 := by omega
    dsimp only at hP
    clear F1 N1 R1
    try k_fold
    (repeat' ((fail_if_success (with_reducible show wpAny _ _ (pyIter _) _ _ _)); (fail_if_success (with_reducible show wpAny _ _ (exec (Stmt.While _ _ _ _) _) _ _ _)); first | walk_at "MY hid" | (k_unfold; (try dsimp only)) | (k_end; wrow_close) | walk1 | (dsimp only; walk1) | (leave1; walk_say "STEP leave1"; try dsimp only) | fail "no step"))
    all_goals (
      (rename Fr _ _ _ _ => F9); (rename News _ _ _ _ => N9)
      with_unfolding_all refine sturn_in (_, _) F9 N9 (by k_mem) (by (first | exact fun _ h => h | ((repeat' (with_reducible first | exact sub_nil | exact fun _ h => h | refine sub_keep ?_ | refine sub_drop ?_)); done) | ((repeat' (first | exact fmn | refine fmc (by k_mem) ?_ | (intro p hp; k_mem))); done))) hne ?_ (fmc rfl (fmn)) (by (first | ((refine Sm.out ?_); (repeat' (with_reducible first | exact sm_refl | refine sm_if ?_ ?_ | refine sm_kn ?_ | refine sm_kc ?_ ?_ | refine sm_rest ?_ ?_ | exact all_nil | refine all_cons ?_ ?_ | (refine Or.inl ?_; (repeat (first | exact in_here | refine in_on ?_)); done) | (refine Or.inr ?_; (repeat (first | exact inn_here | refine inn_on ?_)); done))); done) | (intro z h2 h3; (simp only [List.forall_mem_cons, List.not_mem_nil, false_implies, implies_true, and_true, ne_eq] at h2); (simp only [List.contains_cons, List.contains_nil, Bool.or_false, Bool.or_eq_false_iff, beq_eq_false_iff_ne, ne_eq] at h3); (simp [kstB, Rest, h2, h3]; done))))
      refine fold_next hP ?_
      first | exact hstep_tt (by assumption) (by assumption) | exact hstep_tf (by assumption) | exact hstep_f (by assumption))
  case done =>
    intro zz0 u h tk hP F2 N2
    try k_fold
    obtain ⟨a, t⟩ := zz0
    dsimp only at hP
    try k_fold
    (repeat' ((fail_if_success (with_reducible show wpAny _ _ (pyIter _) _ _ _)); (fail_if_success (with_reducible show wpAny _ _ (exec (Stmt.While _ _ _ _) _) _ _ _)); first | walk_at "MY hid" | (k_unfold; (try dsimp only)) | (k_end; wrow_close) | walk1 | (dsimp only; walk1) | (leave1; walk_say "STEP leave1"; try dsimp only) | fail "no step"))
    try dsimp only
    exact leave_in [] (by assumption) (by assumption) (fun _ h => h) (fun _ h => nomatch h) ⟨rfl, _, by rw [hP]; rfl⟩
end WC8
namespace WC9
theorem freshWC9 : True := by w_top off; trivial
noncomputable def letterP (x : Str) (hs ls : List Int) (k : Int) : Str := if ls.getD k.toNat 0 < hs.getD k.toNat 0 then Txt.item x k else Txt.lower (Txt.item x k)
theorem letter_t {x : Str} {hs ls : List Int} {k : Int} (h : ls.getD k.toNat 0 < hs.getD k.toNat 0) : Txt.item x k = letterP x hs ls k := by unfold letterP; rw [if_pos h]
theorem letter_f {x : Str} {hs ls : List Int} {k : Int} (h : ¬ ls.getD k.toNat 0 < hs.getD k.toNat 0) : Txt.lower (Txt.item x k) = letterP x hs ls k := by unfold letterP; rw [if_neg h]
noncomputable def wordP (x : Str) (hs ls : List Int) : Str := Txt.join Str.empty ((rangeKs 0 x.length).map (letterP x hs ls))
theorem word_snoc {x : Str} {hs ls : List Int} {ys : List Value} {i : Nat} {y : Str} {t : Tok} (h : StrsAre ys ((rangeKs 0 i).map (letterP x hs ls))) (e : y = letterP x hs ls (0 + (i : Int))) : StrsAre (ys ++ [.str y t]) ((rangeKs 0 (i + 1)).map (letterP x hs ls)) := by
  rw [map_next, e]; exact strs_snoc h
theorem ctr_word (w : World) (x : Str) (t : Tok) (lh ll : Addr) (vh vl : List Value) (nh nl : Nat) (hs ls : List Int) (hh : IntsAre vh hs) (hl : IntsAre vl ls) (h1 : x.length = hs.length) (h2 : ls.length = hs.length) (h3 : hs.length ≤ 12)
    (hsum : (((rangeKs 0 x.length).map (letterP x hs ls)).map (·.length)).sum + ((rangeKs 0 x.length).map (letterP x hs ls)).length ≤ 1048576) :
    Ctr w 92 2 [(lh, listOf vh.toArray nh), (ll, listOf vl.toArray nl)] [.str x t, .ref lh, .ref ll] fun r tl => tl = [] ∧ ∃ v, r = .str (wordP x hs ls) v := by
  unfold Ctr
  k_fill
  intro dp un gd env outer A₀ base h₀ L m mean mg mb news s Q E B F X N hsub T hf hk hd hu hret
  k_dflt ((refine' my_defC ?k1 ?k2 ?k3 ?k4 ?kS ?k5 ?kF ?kK ?k6 ?k7 ?k8 ?k9 ?kB ?kD ?kR ?_ ?c2 ?c3 ?c4; (case kF => assumption); (case kK => assumption); (case k1 => k_asm); (case k2 => k_asm); (case k3 => k_asm); (case k4 => k_asm); (case kS => assumption); (case k5 => k_asm); (case k6 => k_is); (case k7 => k_is); (case k8 => walk_at "MY room"); (case k9 => exact BindsTo.of_eq rfl); (case kR => assumption); (case kB => exact rfl); (case kD => decide +kernel); (case c2 => exact rfl); (case c3 => exact rfl); (case c4 => exact rfl); k_whole))
  intro g' L' h' tk' cells' F' N' Y' B' X' T' l1
  (try k_lt l1); k_cells Y'; (try simp only [List.cons_append, List.nil_append] at N')
  clear hret hsub B F X N T hk hf
  (repeat' ((fail_if_success (with_reducible show wpAny _ _ (pyIter _) _ _ _)); (fail_if_success (with_reducible show wpAny _ _ (exec (Stmt.While _ _ _ _) _) _ _ _)); first | walk_at "MY hid" | (k_unfold; (try dsimp only)) | (k_end; wrow_close) | walk1 | (dsimp only; walk1) | (leave1; walk_say "STEP leave1"; try dsimp only) | fail "no step"))
  (rename News _ _ _ _ => N1)
  have en : ((x.length : Int) - 0).toNat = x.length := by omega
  refine comp_invF (fun i ys => StrsAre ys ((rangeKs 0 i).map (letterP x hs ls))) .nil ?_ ?_
  · rintro i v ys I oI C oC D m₂ h tk E' hi ⟨t, rfl⟩ hy hC hx F2 N2 off ne
    have hi2 : 0 ≤ 0 + (i : Int) ∧ 0 + (i : Int) < x.length ∧ 0 + (i : Int) < hs.length ∧ 0 + (i : Int) < ls.length := by omega
    clear N1
    try k_fold
    (repeat' ((fail_if_success (with_reducible show wpAny _ _ (pyIter _) _ _ _)); (fail_if_success (with_reducible show wpAny _ _ (exec (Stmt.While _ _ _ _) _) _ _ _)); first | walk_at "MY hid" | (k_unfold; (try dsimp only)) | (k_end; wrow_close) | walk1 | (dsimp only; walk1) | (leave1; walk_say "STEP leave1"; try dsimp only) | fail "no step"))
    all_goals (
      (rename Fr _ _ _ _ => F9); (rename News _ _ _ _ => N9)
      refine comp_end _ F9 N9 (by (first | exact fun _ h => h | ((repeat' (with_reducible first | exact sub_nil | exact fun _ h => h | refine sub_keep ?_ | refine sub_drop ?_)); done) | ((repeat' (first | exact fmn | refine fmc (by k_mem) ?_ | (intro p hp; k_mem))); done))) off True.intro ⟨rfl, word_snoc hy ?_⟩
      first | exact letter_t (by assumption) | exact letter_f (by assumption))
  · rintro ys hy
    rw [en] at hy
    (repeat' ((fail_if_success (with_reducible show wpAny _ _ (pyIter _) _ _ _)); (fail_if_success (with_reducible show wpAny _ _ (exec (Stmt.While _ _ _ _) _) _ _ _)); first | walk_at "MY hid" | (k_unfold; (try dsimp only)) | (k_end; wrow_close) | walk1 | (dsimp only; walk1) | (leave1; walk_say "STEP leave1"; try dsimp only) | fail "no step"))
    exact leave_in [] (by assumption) (by assumption) (by (first | exact fun _ h => h | ((repeat' (with_reducible first | exact sub_nil | exact fun _ h => h | refine sub_keep ?_ | refine sub_drop ?_)); done) | ((repeat' (first | exact fmn | refine fmc (by k_mem) ?_ | (intro p hp; k_mem))); done))) (fun _ h => nomatch h) ⟨rfl, _, rfl⟩
end WC9
namespace WC5
local macro_rules | `(tactic| walk_at "MY blank 0") => `(tactic| skip)
local macro_rules | `(tactic| walk_at "MY blank 1") => `(tactic| skip)
local macro_rules | `(tactic| walk_at "MY blank 2") => `(tactic| skip)
local macro_rules | `(tactic| walk_at "MY blank 3") => `(tactic| skip)
local macro_rules | `(tactic| walk_at "MY blank 4") => `(tactic| skip)
local macro_rules | `(tactic| walk_at "MY blank 5") => `(tactic| skip)
theorem freshWC5 : True := by w_top off; trivial
theorem cells_pack {g : Heap} {L : Addr} {h : Heap} {D C K T1 T2 T3 T4 T5 T6 X l : Addr} {oD oC oK o1 o2 o3 o4 o5 o6 oX ol : Obj}
    (N : News g L h [(D, oD), (C, oC), (K, oK), (T1, o1), (T2, o2), (T3, o3), (T4, o4), (T5, o5), (T6, o6), (X, oX), (l, ol)]) :
    ∃ rest : Led, News g L h ((C, oC) :: (X, oX) :: rest) ∧ (K, oK) ∈ rest ∧ (T1, o1) ∈ rest ∧ (T2, o2) ∈ rest ∧ (T3, o3) ∈ rest ∧ (T4, o4) ∈ rest ∧ (T5, o5) ∈ rest ∧ (T6, o6) ∈ rest ∧ (l, ol) ∈ rest ∧
      (∀ p ∈ rest, @Eq Nat p.1 K ∨ @Eq Nat p.1 T1 ∨ @Eq Nat p.1 T2 ∨ @Eq Nat p.1 T3 ∨ @Eq Nat p.1 T4 ∨ @Eq Nat p.1 T5 ∨ @Eq Nat p.1 T6 ∨ @Eq Nat p.1 l) := by
  exact ⟨[(K, oK), (T1, o1), (T2, o2), (T3, o3), (T4, o4), (T5, o5), (T6, o6), (l, ol)], fun p hp => N p ((show ∀ q ∈ [(C, oC), (X, oX), (K, oK), (T1, o1), (T2, o2), (T3, o3), (T4, o4), (T5, o5), (T6, o6), (l, ol)], q ∈ [(D, oD), (C, oC), (K, oK), (T1, o1), (T2, o2), (T3, o3), (T4, o4), (T5, o5), (T6, o6), (X, oX), (l, ol)] from (fmc (by k_mem) (fmc (by k_mem) (fmc (by k_mem) (fmc (by k_mem) (fmc (by k_mem) (fmc (by k_mem) (fmc (by k_mem) (fmc (by k_mem) (fmc (by k_mem) (fmc (by k_mem) fmn))))))))))) p hp),
    by k_mem, by k_mem, by k_mem, by k_mem, by k_mem, by k_mem, by k_mem, by k_mem, (fmc (.inl rfl) (fmc (.inr (.inl rfl)) (fmc (.inr (.inr (.inl rfl))) (fmc (.inr (.inr (.inr (.inl rfl)))) (fmc (.inr (.inr (.inr (.inr (.inl rfl))))) (fmc (.inr (.inr (.inr (.inr (.inr (.inl rfl)))))) (fmc (.inr (.inr (.inr (.inr (.inr (.inr (.inl rfl))))))) (fmc (.inr (.inr (.inr (.inr (.inr (.inr (.inr rfl))))))) fmn))))))))⟩
structure CS where
  lc : Addr
  vs : List Value
  ep : Nat
  cs : List Int
  low : Int
  t1 : Tok
  top : Int
  t2 : Tok
  ox : Obj
noncomputable def footP (d : Int) : Int := ([0, 0, 1, 1, 0, 2] : List Int).getD (d.fmod 6).toNat 0
noncomputable def headP (d : Int) : Int := ([3, 2, 3, 2, 1, 3] : List Int).getD (d.fmod 6).toNat 0
theorem fh_cases (d : Int) : (d.fmod 6 = ((0 : Nat) : Int) ∧ footP d = 0 ∧ headP d = 3) ∨ (d.fmod 6 = ((1 : Nat) : Int) ∧ footP d = 0 ∧ headP d = 2) ∨ (d.fmod 6 = ((2 : Nat) : Int) ∧ footP d = 1 ∧ headP d = 3) ∨
    (d.fmod 6 = ((3 : Nat) : Int) ∧ footP d = 1 ∧ headP d = 2) ∨ (d.fmod 6 = ((4 : Nat) : Int) ∧ footP d = 0 ∧ headP d = 1) ∨ (d.fmod 6 = ((5 : Nat) : Int) ∧ footP d = 2 ∧ headP d = 3) := by
  have h1 : 0 ≤ d.fmod 6 := Int.fmod_nonneg_of_pos _ (by decide)
  have h2 : d.fmod 6 < 6 := Int.fmod_lt_of_pos _ (by decide)
  have h : d.fmod 6 = 0 ∨ d.fmod 6 = 1 ∨ d.fmod 6 = 2 ∨ d.fmod 6 = 3 ∨ d.fmod 6 = 4 ∨ d.fmod 6 = 5 := by omega
  unfold footP headP
  rcases h with h | h | h | h | h | h <;> rw [h] <;> decide
noncomputable def footQ (d low top : Int) : Int := if footP d ≥ top ∨ headP d ≤ low then 0 else footP d
noncomputable def headQ (d low top : Int) : Int := if footP d ≥ top ∨ headP d ≤ low then 3 else headP d
theorem fq_bounds (d low top : Int) : 0 ≤ footQ d low top ∧ footQ d low top ≤ headQ d low top ∧ headQ d low top ≤ 3 := by
  unfold footQ headQ
  split
  · decide
  · rcases fh_cases d with h | h | h | h | h | h <;> omega
theorem fq_t {d low top f e : Int} (pf : f = footP d) (pe : e = headP d) (h : top ≤ f ∨ e ≤ low) : 0 = footQ d low top ∧ 3 = headQ d low top := by
  subst pf pe; unfold footQ headQ; rw [if_pos (by omega), if_pos (by omega)]; exact ⟨rfl, rfl⟩
theorem fq_f {d low top f e : Int} (pf : f = footP d) (pe : e = headP d) (h1 : ¬ top ≤ f) (h2 : ¬ e ≤ low) : f = footQ d low top ∧ e = headQ d low top := by
  subst pf pe; unfold footQ headQ; rw [if_neg (by omega), if_neg (by omega)]; exact ⟨rfl, rfl⟩
noncomputable def cellStep (ds : List Int) (c : List Int × Int × Int) (x : Int) : List Int × Int × Int :=
  let d := ds.getD x.toNat 0
  let f := footQ d c.2.1 c.2.2
  let e := headQ d c.2.1 c.2.2
  (c.1 ++ (rangeKs f (e - f).toNat).map (fun y => 3 * x + y), f, e)
section
variable {prog : Program} {w : World} {A : Around} {E : Value → Shared → Prop} {s : Shared}
theorem kinds_item {value slice : Expr} {l : Addr} {vs : List Value} {k : Int} {j : Nat} {u : Tok} {v : Value} {Q : Value → Shared → Prop} (hl : s.heap.IsList l vs.toArray) (e : k = (j : Int)) (hx : vs[j]? = some v) (hj : j < 1000) (h : Q v s)
    (hs : subscripted slice false (.ref l) (.int k u) = operate [.ref l, .int k u] (getItem (.ref l) (.int k u)) := by with_unfolding_all rfl) (hg : ∀ r, letTemporaryGo value (.ref l) r = pure () := by intro _; with_unfolding_all rfl) :
    wpAny (model prog w) A (subscriptTail value slice (.ref l) (.int k u)) Q E s :=
  item_list hl (by omega) (by omega) (by rw [e]; simpa using hx) h hs hg
end
noncomputable def cellsP (ds : List Int) : List Int := ((rangeKs 0 4).foldl (cellStep ds) ([], 0, 3)).1
local macro_rules | `(tactic| k_all) => `(tactic| assumption)
local macro_rules | `(tactic| walk_at "subscriptTail Name BinOp ref int") => `(tactic| (k_here; k_dflt (refine kinds_item (isL (by k_asm) (by k_mem)) (by assumption) (by assumption) (by assumption) ?_)))
set_option pp.maxSteps 2500
set_option pp.deepTerms false
theorem ctr_cells (w : World) (l : Addr) (vs : List Value) (n : Nat) (ds : List Int) (hv : IntsAre vs ds) (hlen : 4 ≤ ds.length) (hlen2 : ds.length ≤ 10) :
    Ctr w 68 2 [(l, listOf vs.toArray n)] [.ref l] fun r tl => ∃ lr us nr, r = .ref lr ∧ tl = [(lr, listOf (List.toArray us) nr)] ∧ IntsAre us (cellsP ds) := by
  unfold Ctr
  k_fill
  intro dp un gd env outer A₀ base h₀ L m mean mg mb news s Q E B F X N hsub T hf hk hd hu hret
  have hrm0 : dp < recursionLimit := by omega
  have hrm1 : un + 3 + 64 < cLine := by omega
  k_dflt ((refine' my_defC ?k1 ?k2 ?k3 ?k4 ?kS ?k5 ?kF ?kK ?k6 ?k7 ?k8 ?k9 ?kB ?kD ?kR ?_ ?c2 ?c3 ?c4; (case kF => assumption); (case kK => assumption); (case k1 => k_asm); (case k2 => k_asm); (case k3 => k_asm); (case k4 => k_asm); (case kS => assumption); (case k5 => k_asm); (case k6 => k_is); (case k7 => k_is); (case k8 => walk_at "MY room"); (case k9 => exact BindsTo.of_eq rfl); (case kR => assumption); (case kB => exact rfl); (case kD => decide +kernel); (case c2 => exact rfl); (case c3 => exact rfl); (case c4 => exact rfl); k_whole))
  intro g' L' h' tk' cells' F' N' Y' B' X' T' l1
  (try k_lt l1); k_cells Y'; (try simp only [List.cons_append, List.nil_append] at N')
  clear hret hsub B F X N T hk hf
  (repeat' ((fail_if_success (with_reducible show wpAny _ _ (exec (Stmt.Assign [Expr.Tuple _ _ _] (Expr.Subscript _ _ _) _) _) _ _ _)); (fail_if_success (with_reducible show wpAny _ _ (pyIter _) _ _ _)); (fail_if_success (with_reducible show wpAny _ _ (exec (Stmt.While _ _ _ _) _) _ _ _)); first | walk_at "MY hid" | (k_unfold; (try dsimp only)) | (k_end; wrow_close) | walk1 | (dsimp only; walk1) | (leave1; walk_say "STEP leave1"; try dsimp only) | fail "no step"))
  refine gfor ?_ (fun _ => rfl)
  (repeat' ((fail_if_success (with_reducible show wpAny _ _ (exec (Stmt.Assign [Expr.Tuple _ _ _] (Expr.Subscript _ _ _) _) _) _ _ _)); (fail_if_success (with_reducible show wpAny _ _ (pyIter _) _ _ _)); (fail_if_success (with_reducible show wpAny _ _ (exec (Stmt.While _ _ _ _) _) _ _ _)); first | walk_at "MY hid" | (k_unfold; (try dsimp only)) | (k_end; wrow_close) | walk1 | (dsimp only; walk1) | (leave1; walk_say "STEP leave1"; try dsimp only) | fail "no step"))
  rename_i o1 d1 T6 _ q6 T5 _ q5 T4 _ q4 T3 _ q3 T2 _ q2 T1 _ q1 K0 _ q0 _ _ C0 _ qc _ _ D0 _ qd _ _ _ _ _ _ _ _ _ _ R1 F1 N1 _
  obtain ⟨rest, N2, mK, m1, m2, m3, m4, m5, m6, ml, hr⟩ := cells_pack N1
  have hx : ∀ p ∈ rest, p.1 ≠ L' + 1 := by
    intro p hp
    have := hr p hp
    refine neN ?_
    omega
  have hC : @LT.lt Nat _ (L' + 1) C0 := by omega
  with_unfolding_all
    refine gloop_range (σ := CS) (n := 4) (fun c => (c.lc, listOf c.vs.toArray c.ep) :: (L' + 1, c.ox) :: rest) (fun c => [(Str.ofString "cells", .ref c.lc), (Str.ofString "low", .int c.low c.t1), (Str.ofString "top", .int c.top c.t2)]) [Str.ofString "foot", Str.ofString "head"]
      (fun i c => IntsAre c.vs c.cs ∧ (∃ v, c.ox.data = .cell v) ∧ @LT.lt Nat _ (L' + 1) c.lc ∧ c.cs.length ≤ 3 * i ∧ (c.cs, c.low, c.top) = (rangeKs 0 i).foldl (cellStep ds) ([], 0, 3)) rfl R1 (by decide) (by decide) F1 N2
      (sj_mk ⟨C0, [], 0, [], 0, _, 3, _, o1⟩ rfl ⟨.nil, ⟨_, d1⟩, hC, Nat.le_refl _, rfl⟩ (fmc rfl (fmc rfl (fmc rfl (fmn)))) (fun _ _ _ => rfl)) (fun _ _ => rfl) ?_ ?_
  · intro i zz1 tI u I oI h tk hi zz9 hne hlt F3 N3
    try k_fold
    obtain ⟨lc, cv, ep, cs, low, t1, top, t2, ox⟩ := zz1
    obtain ⟨p1, ⟨v0, p2⟩, p3, p5, p4⟩ := zz9
    dsimp only at p1 p2 p3 p4 p5 hne F3 N3
    have e1 : @LT.lt Nat _ (L' + 1) I := hlt (L' + 1, o1) (List.mem_cons_of_mem _ List.mem_cons_self)
    have hi2 : 0 ≤ 0 + (i : Int) ∧ 0 + (i : Int) < 4 ∧ 0 + (i : Int) < ds.length := by omega
    have h6 : 0 ≤ (ds.getD (0 + (i : Int)).toNat 0).fmod 6 ∧ (ds.getD (0 + (i : Int)).toNat 0).fmod 6 < 6 := ⟨Int.fmod_nonneg_of_pos _ (by decide), Int.fmod_lt_of_pos _ (by decide)⟩
    clear F1 N1 R1 N2 q0 q1 q2 q3 q4 q5 q6 qc qd
    try k_fold
    (repeat' ((fail_if_success (with_reducible show wpAny _ _ (exec (Stmt.Assign [Expr.Tuple _ _ _] (Expr.Subscript _ _ _) _) _) _ _ _)); (fail_if_success (with_reducible show wpAny _ _ (pyIter _) _ _ _)); (fail_if_success (with_reducible show wpAny _ _ (exec (Stmt.While _ _ _ _) _) _ _ _)); first | walk_at "MY hid" | (k_unfold; (try dsimp only)) | (k_end; wrow_close) | walk1 | (dsimp only; walk1) | (leave1; walk_say "STEP leave1"; try dsimp only) | fail "no step"))
    (rename Fr _ _ _ _ => F9); (rename News _ _ _ _ => N9)
    rename_i o9 d9
    generalize hd : ds.getD (0 + (i : Int)).toNat 0 = d at h6
    refine cut (σ := Int × Tok × Int × Tok) (fun _ => (I, oI) :: (lc, listOf cv.toArray ep) :: (L' + 1, o9) :: rest) (fun c => [(Str.ofString "foot", .int c.1 c.2.1), (Str.ofString "head", .int c.2.2.1 c.2.2.2)]) [] (fun c => c.1 = footP d ∧ c.2.2.1 = headP d) F9 ?_ ?_
    · obtain ⟨T, ta, tb, j, hT9, hx9, he9, hj9⟩ : ∃ (T : Addr) (ta tb : Tok) (j : Nat), (T, ({ cls := .type "tuple", data := .seq #[.int (footP d) ta, .int (headP d) tb] } : Obj)) ∈ rest ∧ ([.ref T6, .ref T5, .ref T4, .ref T3, .ref T2, .ref T1] : List Value)[j]? = some (.ref T) ∧ d.fmod 6 = (j : Int) ∧ j < 1000 := by
        rcases fh_cases d with ⟨hk, hf, hh⟩ | ⟨hk, hf, hh⟩ | ⟨hk, hf, hh⟩ | ⟨hk, hf, hh⟩ | ⟨hk, hf, hh⟩ | ⟨hk, hf, hh⟩ <;> rw [hf, hh]
        · exact ⟨T6, _, _, _, m6, rfl, hk, by decide⟩
        · exact ⟨T5, _, _, _, m5, rfl, hk, by decide⟩
        · exact ⟨T4, _, _, _, m4, rfl, hk, by decide⟩
        · exact ⟨T3, _, _, _, m3, rfl, hk, by decide⟩
        · exact ⟨T2, _, _, _, m2, rfl, hk, by decide⟩
        · exact ⟨T1, _, _, _, m1, rfl, hk, by decide⟩
      rw [← hd] at he9
      clear F3 N3
      try k_fold
      (repeat' ((fail_if_success (with_reducible show wpAny _ _ (pyIter _) _ _ _)); (fail_if_success (with_reducible show wpAny _ _ (exec (Stmt.While _ _ _ _) _) _ _ _)); first | walk_at "MY hid" | (k_unfold; (try dsimp only)) | (k_end; wrow_close) | walk1 | (dsimp only; walk1) | (leave1; walk_say "STEP leave1"; try dsimp only) | fail "no step"))
      (rename Fr _ _ _ _ => F8); (rename News _ _ _ _ => N8)
      with_unfolding_all refine scut_in (_, _, _, _) F8 N8 (by (first | exact fun _ h => h | ((repeat' (with_reducible first | exact sub_nil | exact fun _ h => h | refine sub_keep ?_ | refine sub_drop ?_)); done) | ((repeat' (first | exact fmn | refine fmc (by k_mem) ?_ | (intro p hp; k_mem))); done))) ?_ (fmc rfl (fmc rfl (fmn))) (by (first | ((refine Sm.out ?_); (repeat' (with_reducible first | exact sm_refl | refine sm_if ?_ ?_ | refine sm_kn ?_ | refine sm_kc ?_ ?_ | refine sm_rest ?_ ?_ | exact all_nil | refine all_cons ?_ ?_ | (refine Or.inl ?_; (repeat (first | exact in_here | refine in_on ?_)); done) | (refine Or.inr ?_; (repeat (first | exact inn_here | refine inn_on ?_)); done))); done) | (intro z h2 h3; (simp only [List.forall_mem_cons, List.not_mem_nil, false_implies, implies_true, and_true, ne_eq] at h2); (simp only [List.contains_cons, List.contains_nil, Bool.or_false, Bool.or_eq_false_iff, beq_eq_false_iff_ne, ne_eq] at h3); (simp [kstB, Rest, h2, h3]; done))))
      exact ⟨rfl, rfl⟩
    · intro zz0 u9 h9 tk9 zz4 F8 N8
      try k_fold
      obtain ⟨f, tf, e, te⟩ := zz0
      obtain ⟨pf, pe⟩ := zz4
      dsimp only at pf pe F8 N8
      clear F9 N9 F3 N3
      try k_fold
      (repeat' ((fail_if_success (with_reducible show wpAny _ _ (pyIter _) _ _ _)); (fail_if_success (with_reducible show wpAny _ _ (exec (Stmt.While _ _ _ _) _) _ _ _)); (fail_if_success (with_reducible show wpAny _ _ (exec (Stmt.If _ _ _ _) _) _ _ _)); first | walk_at "MY hid" | (k_unfold; (try dsimp only)) | (k_end; wrow_close) | walk1 | (dsimp only; walk1) | (leave1; walk_say "STEP leave1"; try dsimp only) | fail "no step"))
      refine cut (σ := Int × Tok × Int × Tok) (fun _ => (I, oI) :: (lc, listOf cv.toArray ep) :: (L' + 1, o9) :: rest) (fun c => [(Str.ofString "foot", .int c.1 c.2.1), (Str.ofString "head", .int c.2.2.1 c.2.2.2)]) [] (fun c => c.1 = footQ d low top ∧ c.2.2.1 = headQ d low top) F8 ?_ ?_
      · try k_fold
        (repeat' ((fail_if_success (with_reducible show wpAny _ _ (pyIter _) _ _ _)); (fail_if_success (with_reducible show wpAny _ _ (exec (Stmt.While _ _ _ _) _) _ _ _)); first | walk_at "MY hid" | (k_unfold; (try dsimp only)) | (k_end; wrow_close) | walk1 | (dsimp only; walk1) | (leave1; walk_say "STEP leave1"; try dsimp only) | fail "no step"))
        all_goals (
          (rename Fr _ _ _ _ => F7); (rename News _ _ _ _ => N7)
          with_unfolding_all refine scut_in (_, _, _, _) F7 N7 (by (first | exact fun _ h => h | ((repeat' (with_reducible first | exact sub_nil | exact fun _ h => h | refine sub_keep ?_ | refine sub_drop ?_)); done) | ((repeat' (first | exact fmn | refine fmc (by k_mem) ?_ | (intro p hp; k_mem))); done))) ?_ (fmc rfl (fmc rfl (fmn))) (by (first | ((refine Sm.out ?_); (repeat' (with_reducible first | exact sm_refl | refine sm_if ?_ ?_ | refine sm_kn ?_ | refine sm_kc ?_ ?_ | refine sm_rest ?_ ?_ | exact all_nil | refine all_cons ?_ ?_ | (refine Or.inl ?_; (repeat (first | exact in_here | refine in_on ?_)); done) | (refine Or.inr ?_; (repeat (first | exact inn_here | refine inn_on ?_)); done))); done) | (intro z h2 h3; (simp only [List.forall_mem_cons, List.not_mem_nil, false_implies, implies_true, and_true, ne_eq] at h2); (simp only [List.contains_cons, List.contains_nil, Bool.or_false, Bool.or_eq_false_iff, beq_eq_false_iff_ne, ne_eq] at h3); (simp [kstB, Rest, h2, h3]; done))))
          first | exact fq_t pf pe (by omega) | exact fq_f pf pe (by omega) (by omega))
      · intro zz0 u8 h8 tk8 zz4 F7 N7
        try k_fold
        obtain ⟨f2, tf2, e2, te2⟩ := zz0
        obtain ⟨pf2, pe2⟩ := zz4
        dsimp only at pf2 pe2 F7 N7
        clear F8 N8
        have hb := fq_bounds d low top
        rw [← pf2, ← pe2] at hb
        try k_fold
        (repeat' ((fail_if_success (with_reducible show wpAny _ _ (pyIter _) _ _ _)); (fail_if_success (with_reducible show wpAny _ _ (exec (Stmt.While _ _ _ _) _) _ _ _)); first | walk_at "MY hid" | (k_unfold; (try dsimp only)) | (k_end; wrow_close) | walk1 | (dsimp only; walk1) | (leave1; walk_say "STEP leave1"; try dsimp only) | fail "no step"))
        refine comp_invF (fun j ys => IntsAre ys ((rangeKs f2 j).map (fun y => 3 * (0 + (i : Int)) + y))) .nil ?_ ?_
        · intro j v ys I3 oI3 C3 oC3 D3 m3 h3 tk3 E3 hj zz13 hy hC3 hx3 F3 N3 off ne
          try k_fold
          obtain ⟨t3, rfl⟩ := zz13
          try k_fold
          (repeat' ((fail_if_success (with_reducible show wpAny _ _ (pyIter _) _ _ _)); (fail_if_success (with_reducible show wpAny _ _ (exec (Stmt.While _ _ _ _) _) _ _ _)); first | walk_at "MY hid" | (k_unfold; (try dsimp only)) | (k_end; wrow_close) | walk1 | (dsimp only; walk1) | (leave1; walk_say "STEP leave1"; try dsimp only) | fail "no step"))
          (rename Fr _ _ _ _ => F6); (rename News _ _ _ _ => N6)
          refine comp_end _ F6 N6 (by (first | exact fun _ h => h | ((repeat' (with_reducible first | exact sub_nil | exact fun _ h => h | refine sub_keep ?_ | refine sub_drop ?_)); done) | ((repeat' (first | exact fmn | refine fmc (by k_mem) ?_ | (intro p hp; k_mem))); done))) off True.intro ⟨rfl, ?_⟩
          rw [map_next]
          exact ints_snoc hy
        · rintro ys hy
          (repeat' ((fail_if_success (with_reducible show wpAny _ _ (pyIter _) _ _ _)); (fail_if_success (with_reducible show wpAny _ _ (exec (Stmt.While _ _ _ _) _) _ _ _)); first | walk_at "MY hid" | (k_unfold; (try dsimp only)) | (k_end; wrow_close) | walk1 | (dsimp only; walk1) | (leave1; walk_say "STEP leave1"; try dsimp only) | fail "no step"))
          (rename Fr _ _ _ _ => F6); (rename News _ _ _ _ => N6); (rename IntsAre _ (_ ++ _) => hI6)
          with_unfolding_all refine sturn_in ⟨_, _, _, _, _, _, _, _, _⟩ F6 N6 (by k_mem) (by (first | exact fun _ h => h | ((repeat' (with_reducible first | exact sub_nil | exact fun _ h => h | refine sub_keep ?_ | refine sub_drop ?_)); done) | ((repeat' (first | exact fmn | refine fmc (by k_mem) ?_ | (intro p hp; k_mem))); done))) ?_ ⟨hI6, ⟨_, d9⟩, ?_, ?_, ?_⟩ (fmc rfl (fmc rfl (fmc rfl (fmn)))) (by (first | ((refine Sm.out ?_); (repeat' (with_reducible first | exact sm_refl | refine sm_if ?_ ?_ | refine sm_kn ?_ | refine sm_kc ?_ ?_ | refine sm_rest ?_ ?_ | exact all_nil | refine all_cons ?_ ?_ | (refine Or.inl ?_; (repeat (first | exact in_here | refine in_on ?_)); done) | (refine Or.inr ?_; (repeat (first | exact inn_here | refine inn_on ?_)); done))); done) | (intro z h2 h3; (simp only [List.forall_mem_cons, List.not_mem_nil, false_implies, implies_true, and_true, ne_eq] at h2); (simp only [List.contains_cons, List.contains_nil, Bool.or_false, Bool.or_eq_false_iff, beq_eq_false_iff_ne, ne_eq] at h3); (simp [kstB, Rest, h2, h3]; done))))
          · refine fmc ?_ (fmc ?_ (fun p hp => hne p (List.mem_cons_of_mem _ (List.mem_cons_of_mem _ hp))))
            · refine neN ?_
              try dsimp only
              omega
            · refine neN ?_
              try dsimp only
              omega
          · dsimp only
            omega
          · dsimp only
            simp only [List.length_append, List.length_map, rangeKs_length]
            omega
          · dsimp only
            rw [rangeKs_succ, List.foldl_append, ← p4]
            show _ = cellStep ds (cs, low, top) (0 + (i : Int))
            unfold cellStep
            try dsimp only
            rw [hd, ← pf2, ← pe2]
  · intro zz0 u h tk zz4 F3 N3
    try k_fold
    obtain ⟨lc, cv, ep, cs, low, t1, top, t2, ox⟩ := zz0
    obtain ⟨p1, ⟨v0, p2⟩, p3, p5, p4⟩ := zz4
    dsimp only at p1 p2 p3 p4 p5 F3 N3
    clear F1 N1 R1 N2
    try k_fold
    (repeat' ((fail_if_success (with_reducible show wpAny _ _ (pyIter _) _ _ _)); (fail_if_success (with_reducible show wpAny _ _ (exec (Stmt.While _ _ _ _) _) _ _ _)); first | walk_at "MY hid" | (k_unfold; (try dsimp only)) | (k_end; wrow_close) | walk1 | (dsimp only; walk1) | (leave1; walk_say "STEP leave1"; try dsimp only) | fail "no step"))
    (rename Fr _ _ _ _ => F6); (rename News _ _ _ _ => N6)
    try dsimp only
    refine leave_in [(lc, listOf cv.toArray ep)] F6 N6 (fmc (by k_mem) (fmc (by k_mem) (fmn))) ?_ ⟨lc, cv, ep, rfl, rfl, ?_⟩
    · refine fmc (fmc ?_ (fmn)) (fmn)
      refine ltN ?_
      try dsimp only
      omega
    · have : cellsP ds = cs := by unfold cellsP; rw [← p4]
      rw [this]; exact p1
end WC5
namespace WC2
open WC1
local macro_rules | `(tactic| walk_at "MY blank 0") => `(tactic| skip)
local macro_rules | `(tactic| walk_at "MY blank 1") => `(tactic| skip)
local macro_rules | `(tactic| walk_at "MY blank 2") => `(tactic| skip)
local macro_rules | `(tactic| walk_at "MY blank 3") => `(tactic| skip)
local macro_rules | `(tactic| walk_at "MY blank 4") => `(tactic| skip)
local macro_rules | `(tactic| walk_at "MY blank 5") => `(tactic| skip)
local macro_rules | `(tactic| walk_at "MY blank 6") => `(tactic| skip)
theorem freshWC2 : True := by w_top off; trivial
noncomputable def preF : Nat → Str → Str → Int → Int
  | 0, _, _, k => k
  | n + 1, x, y, k => if k < x.length ∧ k < y.length ∧ (Txt.item x k == Txt.item y k) = true then preF n x y (k + 1) else k
theorem preF_step {x y : Str} {k : Int} (h0 : 0 ≤ k) (h1 : k < x.length) (h2 : k < y.length) (h3 : (Txt.item x k == Txt.item y k) = true) : preF (x.length - k.toNat) x y k = preF (x.length - (k + 1).toNat) x y (k + 1) := by
  have : x.length - k.toNat = (x.length - (k + 1).toNat) + 1 := by
    obtain ⟨n, rfl⟩ := Int.eq_ofNat_of_zero_le h0
    exact sub_step (Int.ofNat_lt.mp h1)
  rw [this, preF, if_pos ⟨h1, h2, h3⟩]
theorem preF_stop {n : Nat} {x y : Str} {k : Int} (h : ¬ (k < x.length ∧ k < y.length ∧ (Txt.item x k == Txt.item y k) = true)) : preF n x y k = k := by
  cases n with
  | zero => rfl
  | succ n => rw [preF, if_neg h]
noncomputable def preP (x y : Str) : Int := preF x.length x y 0
noncomputable def postF : Nat → Str → Str → Int → Int
  | 0, _, _, k => k
  | n + 1, x, y, k => if 0 < x.length + k ∧ 0 < y.length + k ∧ (Txt.item x (k - 1) == Txt.item y (k - 1)) = true then postF n x y (k - 1) else k
theorem postF_step {x y : Str} {k : Int} (h0 : k ≤ 0) (h1 : 0 < x.length + k) (h2 : 0 < y.length + k) (h3 : (Txt.item x (k - 1) == Txt.item y (k - 1)) = true) : postF (x.length + k).toNat x y k = postF (x.length + (k - 1)).toNat x y (k - 1) := by
  have : (x.length + k).toNat = (x.length + (k - 1)).toNat + 1 := by
    have e := toNat_step h1
    rwa [Int.add_sub_assoc] at e
  rw [this, postF, if_pos ⟨h1, h2, h3⟩]
theorem ne_tf {c : Bool} (h : c = true) (q : c = false) : False := by rw [h] at q; cases q
theorem postF_stop {n : Nat} {x y : Str} {k : Int} (h : ¬ (0 < x.length + k ∧ 0 < y.length + k ∧ (Txt.item x (k - 1) == Txt.item y (k - 1)) = true)) : postF n x y k = k := by
  cases n with
  | zero => rfl
  | succ n => rw [postF, if_neg h]
noncomputable def postP (x y : Str) : Int := postF ((x.length : Int) + 0).toNat x y 0
noncomputable def cutP (x : Str) (k : Int) : Str := if k = 0 then Txt.slice x none none else Txt.slice x none (some k)
theorem sliceRange_one (a b : Int) : sliceRange a b 1 = (List.range (b - a).toNat).map fun (k : Nat) => (a + 1 * (k : Int)).toNat := by
  unfold sliceRange
  try dsimp only
  rw [if_pos (by decide)]
  congr 2
  split
  · rw [Int.ediv_one, Int.add_sub_cancel]
  · rename_i h
    rw [Int.toNat_of_nonpos (Int.sub_nonpos_of_le (Int.not_lt.mp h))]; rfl
theorem slice_nn (x : Str) : Txt.slice x none none = x := by
  unfold Txt.slice Builtin.Str.strSliceIndices
  rw [if_pos]
  try dsimp only
  rw [if_pos (by decide), if_pos (by decide), sliceRange_one]
  simp
theorem slice_eq (x : Str) (l u : Option Int) (lo hi : Int) (hl : lo = (match l with | none => 0 | some i => max 0 (min (if i < 0 then i + x.length else i) x.length))) (hu : hi = (match u with | none => (x.length : Int) | some i => max 0 (min (if i < 0 then i + x.length else i) x.length)))
    (h0 : 0 ≤ lo) (h1 : lo ≤ hi) (h2 : hi ≤ x.length) :
    (Txt.slice x l u).cps.toList = (x.cps.toList.drop lo.toNat).take (hi - lo).toNat := by
  have key : Builtin.Str.strSliceIndices l u 1 x.length = (List.range (hi - lo).toNat).map fun (k : Nat) => (lo + 1 * (k : Int)).toNat := by
    subst hl hu
    rw [← sliceRange_one]
    unfold Builtin.Str.strSliceIndices
    simp only [show ((1 : Int) > 0) = True from by simp, if_true]
    rfl
  have hsz : x.cps.toList.length = x.length := rfl
  have hw : (hi - lo).toNat ≤ x.length - lo.toNat := by
    clear key hl hu
    obtain ⟨a, rfl⟩ := Int.eq_ofNat_of_zero_le h0
    obtain ⟨b, rfl⟩ := Int.eq_ofNat_of_zero_le (Int.le_trans h0 h1)
    rw [← Int.ofNat_sub (Int.ofNat_le.mp h1), Int.toNat_natCast, Int.toNat_natCast]
    exact Nat.sub_le_sub_right (Int.ofNat_le.mp h2) a
  have hmap : ∀ (l : List Nat) (f : Nat → Option Nat) (g : Nat → Nat), (∀ i ∈ l, f i = some (g i)) → l.filterMap f = l.map g := by
    intro l f g h
    induction l with
    | nil => rfl
    | cons i r ih => rw [List.filterMap_cons, h i (.head _), ih fun j hj => h j (.tail _ hj)]; rfl
  have e2 : ((List.range (hi - lo).toNat).map fun (k : Nat) => (lo + 1 * (k : Int)).toNat).filterMap (x.cps[·]?) = (x.cps.toList.drop lo.toNat).take (hi - lo).toNat := by
    rw [List.filterMap_map, hmap _ _ (fun i => x.cps.toList.getD (lo.toNat + i) 0)]
    · apply List.ext_getElem
      · rw [List.length_map, List.length_range, List.length_take, List.length_drop, hsz]; exact (Nat.min_eq_left hw).symm
      · intro i h1' h2'
        simp only [List.length_map, List.length_range] at h1'
        have hl : lo.toNat + i < x.cps.toList.length := by rw [hsz]; exact Nat.add_lt_of_lt_sub' (Nat.lt_of_lt_of_le h1' hw)
        rw [List.getElem_take, List.getElem_drop, List.getElem_map, List.getElem_range, List.getD_eq_getElem?_getD, List.getElem?_eq_getElem hl]
        rfl
    · intro i hi'
      have hi' := List.mem_range.mp hi'
      have hl : lo.toNat + i < x.cps.toList.length := by rw [hsz]; exact Nat.add_lt_of_lt_sub' (Nat.lt_of_lt_of_le hi' hw)
      have e : (lo + 1 * (i : Int)).toNat = lo.toNat + i := by
        rw [Int.one_mul, Int.toNat_add h0 (Int.natCast_nonneg i)]; rfl
      show x.cps[(lo + 1 * (i : Int)).toNat]? = _
      rw [e, List.getD_eq_getElem?_getD, List.getElem?_eq_getElem hl, ← Array.getElem?_toList, List.getElem?_eq_getElem hl]
      rfl
  unfold Txt.slice
  rw [key]
  split
  · rename_i h
    simp only [beq_self_eq_true, Bool.true_and, beq_iff_eq, List.length_map, List.length_range] at h
    have a1 : lo = 0 := by omega
    have a2 : (hi - lo).toNat = x.cps.toList.length := by rw [hsz]; exact h
    rw [a2, a1]; exact List.take_length.symm
  · show List.filterMap _ _ = _
    exact e2
theorem cutP_le (x : Str) (k : Int) : (cutP x k).length ≤ x.length := by
  unfold cutP; split <;> exact PyProof.Txt.length_slice_le x _ _
theorem slice_neg_len (x : Str) (k : Int) (h : k < 0) (h2 : -k ≤ x.length) : ((Txt.slice x none (some k)).length : Int) = x.length + k := by
  have hn : 0 ≤ (x.length : Int) + k := by omega
  have hk : (x.length : Int) + k ≤ x.length := by clear h2 hn; omega
  have hle : ((x.length : Int) + k).toNat ≤ x.length := Int.toNat_natCast x.length ▸ Int.toNat_le_toNat hk
  have e := slice_eq x none (some k) 0 (x.length + k) rfl (by dsimp only; rw [if_pos h, Int.add_comm k, Int.min_eq_left hk, Int.max_eq_right hn]) (Int.le_refl _) hn hk
  have e2 := congrArg List.length e
  have e3 : (Txt.slice x none (some k)).cps.toList.length = (Txt.slice x none (some k)).length := rfl
  have e4 : x.cps.toList.length = x.length := rfl
  rw [e3, List.length_take, List.length_drop, e4, Int.sub_zero] at e2
  rw [e2]
  show ((min ((x.length : Int) + k).toNat x.length : Nat) : Int) = _
  rw [Nat.min_eq_left hle]
  exact Int.toNat_of_nonneg hn
set_option pp.maxSteps 2500
set_option pp.deepTerms false
structure Cell where
  row : List Int
  dist : Int
  res : Int
  mn : Int
noncomputable def innerStep (a bc : Str) (c : Cell) (i : Int) : Cell :=
  let d := c.row.getD i.toNat 0
  let s := c.dist + costP bc (Txt.item a i)
  let n := (if d < c.res then d else c.res) + 2
  let r := if s < n then s else n
  ⟨c.row.set i.toNat r, d, r, if r < c.mn then r else c.mn⟩
noncomputable def innerP (a bc : Str) (row : List Int) (d : Int) : Cell := (rangeKs 0 a.length).foldl (innerStep a bc) ⟨row, d, d, 9223372036854775807⟩
noncomputable def outF (a b : Str) (mx : Int) : Nat → Int → List Int → Int → Int
  | 0, _, _, res => res
  | n + 1, j, row, _ => if mx < (innerP a (Txt.item b j) row (j * 2)).mn then mx + 1 else outF a b mx n (j + 1) (innerP a (Txt.item b j) row (j * 2)).row (innerP a (Txt.item b j) row (j * 2)).res
noncomputable def tailP (a3 b3 : Str) (mx : Int) : Int := if mx < ((b3.length : Int) - a3.length) * 2 then mx + 1 else outF a3 b3 mx b3.length 0 (rangeInts 2 2 a3.length) 0
noncomputable def midP (a2 b2 : Str) (mx : Int) : Int := if a2.length = 0 ∨ b2.length = 0 then 2 * ((a2.length : Int) + b2.length) else tailP (if b2.length < a2.length then b2 else a2) (if b2.length < a2.length then a2 else b2) mx
noncomputable def levQ (a b : Str) (mx : Int) : Int := midP (cutP a (postP a b)) (cutP b (postP a b)) mx
noncomputable def levP (x y : Str) (mx : Int) : Int := if (x == y) = true then 0 else levQ (Txt.slice x (some (preP x y)) none) (Txt.slice y (some (preP x y)) none) mx
theorem size_two (n : Nat) : Builtin.Range.rangeSize 2 (2 * ((n : Int) + 1)) 2 = (n : Int) := by
  unfold Builtin.Range.rangeSize
  rw [if_pos (by decide)]
  split <;> omega
theorem small_two (n : Nat) (h : n ≤ 1000) : Builtin.Range.small 2 (2 * ((n : Int) + 1)) 2 = true := by
  have e := size_two n
  unfold Builtin.Range.small Builtin.Range.rangeFitsLong
  rw [e]
  rw [if_pos (by decide)]
  simp only [Bool.and_eq_true, Bool.or_eq_true, decide_eq_true_eq]
  refine ⟨⟨⟨⟨⟨?_, ?_⟩, ?_, ?_⟩, ?_, ?_⟩, ?_, ?_⟩, .inr ⟨?_, ?_⟩⟩ <;> omega
theorem out_ret {a b : Str} {mx : Int} {i : Nat} {row : List Int} {res R : Int} {c : Cell} (hi : i < b.length) (hO : outF a b mx (b.length - i) (i : Int) row res = R) (hC : c = innerP a (Txt.item b (0 + (i : Int))) row ((0 + (i : Int)) * 2)) (h : mx < c.mn) : mx + 1 = R := by
  have e : b.length - i = (b.length - (i + 1)) + 1 := sub_step hi
  rw [e, outF] at hO
  rw [Int.zero_add] at hC
  rw [← hC, if_pos h] at hO
  exact hO
theorem out_next {a b : Str} {mx : Int} {i : Nat} {row : List Int} {res R : Int} {c : Cell} (hi : i < b.length) (hO : outF a b mx (b.length - i) (i : Int) row res = R) (hC : c = innerP a (Txt.item b (0 + (i : Int))) row ((0 + (i : Int)) * 2)) (h : ¬ mx < c.mn) :
    outF a b mx (b.length - (i + 1)) ((i + 1 : Nat) : Int) c.row c.res = R := by
  have e : b.length - i = (b.length - (i + 1)) + 1 := sub_step hi
  rw [e, outF] at hO
  rw [Int.zero_add] at hC
  rw [← hC, if_neg h] at hO
  rw [Int.natCast_succ]
  exact hO
structure IS where
  vs : List Value
  ep : Nat
  cell : Cell
  t1 : Tok
  t2 : Tok
  t3 : Tok
local macro_rules | `(tactic| walk_at "call ref") => `(tactic| (k_here; k_dflt (refine ctr_go (ctr_cost _ _ _ _ _ (by omega) (by omega)) ?_; walk_at "MY post0")))
structure LS where
  vs : List Value
  ep : Nat
  row : List Int
  res : Int
  t : Tok
local macro_rules | `(tactic| walk_at "call type:list") => `(tactic| (k_here; k_dflt (refine list_range_ints (by rfl) (by k_asm) (by k_asm) (by assumption) (small_two _ (by omega)) (size_two _) (by omega) ?_; intro _ _ _ _ _ _ _ l1 _; (try k_lt l1); (try k_sweep))))
local macro_rules | `(tactic| walk_at "subscriptTail Name Slice str ref") => `(tactic| (k_here; (refine slice_strN_nn (s := ⟨_, _, _, _, _⟩) (by k_asm) (by k_asm) ?_); intro _ _ _ _ _))
theorem ctr_lev (w : World) (x y : Str) (t u : Tok) (mx : Int) (v : Tok) (hx : x.length ≤ 12) (hy : y.length ≤ 12) (hm : 0 ≤ mx ∧ mx ≤ 1000) :
    Ctr w 63 4 [] [.str x t, .str y u, .int mx v] fun r tl => tl = [] ∧ ∃ v, r = .int (levP x y mx) v := by
  unfold Ctr
  k_fill
  intro dp un gd env outer A₀ base h₀ L m mean mg mb news s Q E B F X N hsub T hf hk hd hu hret
  have hrm0 : dp < recursionLimit := by omega
  have hrm1 : dp + 1 + 2 < recursionLimit := by omega
  have hrm2 : un + 3 + 40 * 2 < cLine := by omega
  have hrm3 : un + 3 + 64 < cLine := by omega
  k_dflt ((refine' my_def ?k1 ?k2 ?k3 ?k4 ?kS ?k5 ?kF ?kK ?k6 ?k7 ?k8 ?k9 ?kB ?kR ?_ ?c2 ?c3 ?c4 ?c5; (case kF => assumption); (case kK => assumption); (case k1 => k_asm); (case k2 => k_asm); (case k3 => k_asm); (case k4 => k_asm); (case kS => assumption); (case k5 => k_asm); (case k6 => k_is); (case k7 => k_is); (case k8 => walk_at "MY room"); (case k9 => exact BindsTo.of_eq rfl); (case kR => assumption); (case c5 => decide); (case kB => exact locs rfl); (case c2 => exact rfl); (case c3 => exact rfl); (case c4 => exact rfl); k_whole))
  intro g' L' h' F' N' B' X' T'
  clear hret hsub B F X N T hk hf
  (repeat' ((fail_if_success (with_reducible show wpAny _ _ (exec (Stmt.Assign [Expr.Name _ _] (Expr.Subscript _ (Expr.Slice none _ _ _) _) _) _) _ _ _)); (fail_if_success (with_reducible show wpAny _ _ (pyIter _) _ _ _)); (fail_if_success (with_reducible show wpAny _ _ (exec (Stmt.While _ _ _ _) _) _ _ _)); first | walk_at "MY hid" | (k_unfold; (try dsimp only)) | (k_end; wrow_close) | walk1 | (dsimp only; walk1) | (leave1; walk_say "STEP leave1"; try dsimp only) | fail "no step"))
  · try dsimp only
    exact leave_in [] (by assumption) (by assumption) (fmn) (fun _ h => nomatch h) ⟨rfl, _, congrArg (fun i => Value.int i _) (by unfold levP; rw [if_pos (by assumption)])⟩
  (rename Fr _ _ _ _ => F1); (rename News _ _ _ _ => N1)
  refine cut (σ := Int × Tok) (fun _ => []) (fun c => [(Str.ofString "pre", .int c.1 c.2)]) [] (fun c => Hd (c.1 = preP x y) ∧ 0 ≤ c.1 ∧ c.1 ≤ x.length ∧ c.1 ≤ y.length) F1 ?_ ?_
  · with_unfolding_all
      refine swhile (σ := Int × Tok) (fun _ => []) (fun c => [(Str.ofString "pre", .int c.1 c.2)]) [] (fun c => Hd (preF (x.length - c.1.toNat) x y c.1 = preP x y) ∧ 0 ≤ c.1 ∧ c.1 ≤ x.length ∧ c.1 ≤ y.length) (fun c => (x.length - c.1).toNat) F1 N1
        (sj_mk (0, _) rfl ⟨rfl, Int.le_refl 0, Int.natCast_nonneg _, Int.natCast_nonneg _⟩ (fmc rfl (fmn)) (fun _ _ _ => rfl)) ?_ PassesOwn.never
    intro zz0 u1 h1 tk2 hP F2 N2
    try k_fold
    obtain ⟨k, tk1⟩ := zz0
    dsimp only at hP F2 N2
    obtain ⟨p0, p1, p2, p3⟩ := hP
    clear F1 N1
    try k_fold
    (repeat' ((fail_if_success (with_reducible show wpAny _ _ (exec (Stmt.Assign [Expr.Name _ _] (Expr.Subscript _ (Expr.Slice none _ _ _) _) _) _) _ _ _)); (fail_if_success (with_reducible show wpAny _ _ (pyIter _) _ _ _)); (fail_if_success (with_reducible show wpAny _ _ (exec (Stmt.While _ _ _ _) _) _ _ _)); first | walk_at "MY hid" | (k_unfold; (try dsimp only)) | (k_end; wrow_close) | walk1 | (dsimp only; walk1) | (leave1; walk_say "STEP leave1"; try dsimp only) | fail "no step"))
    · (rename Fr _ _ _ _ => F9); (rename News _ _ _ _ => N9)
      have hk1 : k < x.length := by omega
      have hk2 : k < y.length := by omega
      with_unfolding_all refine swhl_in (_, _) F9 N9 (by (first | exact fun _ h => h | ((repeat' (with_reducible first | exact sub_nil | exact fun _ h => h | refine sub_keep ?_ | refine sub_drop ?_)); done) | ((repeat' (first | exact fmn | refine fmc (by k_mem) ?_ | (intro p hp; k_mem))); done))) ?_ (fmc rfl (fmn)) (by (first | ((refine Sm.out ?_); (repeat' (with_reducible first | exact sm_refl | refine sm_if ?_ ?_ | refine sm_kn ?_ | refine sm_kc ?_ ?_ | refine sm_rest ?_ ?_ | exact all_nil | refine all_cons ?_ ?_ | (refine Or.inl ?_; (repeat (first | exact in_here | refine in_on ?_)); done) | (refine Or.inr ?_; (repeat (first | exact inn_here | refine inn_on ?_)); done))); done) | (intro z h2 h3; (simp only [List.forall_mem_cons, List.not_mem_nil, false_implies, implies_true, and_true, ne_eq] at h2); (simp only [List.contains_cons, List.contains_nil, Bool.or_false, Bool.or_eq_false_iff, beq_eq_false_iff_ne, ne_eq] at h3); (simp [kstB, Rest, h2, h3]; done))))
      try dsimp only
      rw [preF_step p1 hk1 hk2 (by assumption)] at p0
      exact ⟨⟨p0, by omega, by omega, by omega⟩, by omega⟩
    all_goals (
      (rename Fr _ _ _ _ => F9); (rename News _ _ _ _ => N9)
      with_unfolding_all refine scut_in (_, _) F9 N9 (by (first | exact fun _ h => h | ((repeat' (with_reducible first | exact sub_nil | exact fun _ h => h | refine sub_keep ?_ | refine sub_drop ?_)); done) | ((repeat' (first | exact fmn | refine fmc (by k_mem) ?_ | (intro p hp; k_mem))); done))) ?_ (fmc rfl (fmn)) (by (first | ((refine Sm.out ?_); (repeat' (with_reducible first | exact sm_refl | refine sm_if ?_ ?_ | refine sm_kn ?_ | refine sm_kc ?_ ?_ | refine sm_rest ?_ ?_ | exact all_nil | refine all_cons ?_ ?_ | (refine Or.inl ?_; (repeat (first | exact in_here | refine in_on ?_)); done) | (refine Or.inr ?_; (repeat (first | exact inn_here | refine inn_on ?_)); done))); done) | (intro z h2 h3; (simp only [List.forall_mem_cons, List.not_mem_nil, false_implies, implies_true, and_true, ne_eq] at h2); (simp only [List.contains_cons, List.contains_nil, Bool.or_false, Bool.or_eq_false_iff, beq_eq_false_iff_ne, ne_eq] at h3); (simp [kstB, Rest, h2, h3]; done))))
      refine ⟨Hd.mk ?_, p1, p2, p3⟩
      rw [← p0.out, preF_stop]
      first | (rintro ⟨q1, q2, q3⟩; omega) | (rintro ⟨q1, q2, q3⟩; exact ne_tf q3 (by assumption)))
  · intro zz0 u1 h1 tk2 zz4 F2 N2
    try k_fold
    obtain ⟨k, tk1⟩ := zz0
    obtain ⟨p0, p1, p2, p3⟩ := zz4
    dsimp only at p0 p1 p2 p3 F2 N2
    clear F1 N1
    try k_fold
    (repeat' ((fail_if_success (with_reducible show wpAny _ _ (exec (Stmt.Assign [Expr.Name _ _] (Expr.Subscript _ (Expr.Slice none _ _ _) _) _) _) _ _ _)); (fail_if_success (with_reducible show wpAny _ _ (pyIter _) _ _ _)); (fail_if_success (with_reducible show wpAny _ _ (exec (Stmt.While _ _ _ _) _) _ _ _)); first | walk_at "MY hid" | (k_unfold; (try dsimp only)) | (k_end; wrow_close) | walk1 | (dsimp only; walk1) | (leave1; walk_say "STEP leave1"; try dsimp only) | fail "no step"))
    (rename Fr _ _ _ _ => F1); (rename News _ _ _ _ => N1)
    generalize hA : Txt.slice x (some k) none = a at *
    generalize hB : Txt.slice y (some k) none = b at *
    have hna : ((Txt.slice a none none).length : Int) = a.length := by rw [slice_nn]
    have hnb : ((Txt.slice b none none).length : Int) = b.length := by rw [slice_nn]
    have h00 : Hd (postF ((a.length : Int) + 0).toNat a b 0 = postP a b) := Hd.mk rfl
    have h01 : -(0 : Int) ≤ a.length := by omega
    have h02 : -(0 : Int) ≤ b.length := by omega
    refine cut (σ := Int × Tok) (fun _ => []) (fun c => [(Str.ofString "post", .int c.1 c.2)]) [] (fun c => Hd (c.1 = postP a b) ∧ c.1 ≤ 0 ∧ -c.1 ≤ a.length ∧ -c.1 ≤ b.length) F1 ?_ ?_
    · with_unfolding_all
        refine swhile (σ := Int × Tok) (fun _ => []) (fun c => [(Str.ofString "post", .int c.1 c.2)]) [] (fun c => Hd (postF (a.length + c.1).toNat a b c.1 = postP a b) ∧ c.1 ≤ 0 ∧ -c.1 ≤ a.length ∧ -c.1 ≤ b.length) (fun c => (a.length + c.1).toNat) F1 N1
          (sj_mk (0, _) rfl ⟨h00, Int.le_refl 0, h01, h02⟩ (fmc rfl (fmn)) (fun _ _ _ => rfl)) ?_ PassesOwn.never
      rintro ⟨k2, tk3⟩ u2 h2 tk4 hP2 F3 N3
      dsimp only at hP2 F3 N3
      obtain ⟨r0, r1, r2, r3⟩ := hP2
      clear F1 N1
      rcases Int.lt_or_eq_of_le r1 with hlt | heq
      · have hga := slice_neg_len a k2 hlt r2
        have hgb := slice_neg_len b k2 hlt r3
        try k_fold
        (repeat' ((fail_if_success (with_reducible show wpAny _ _ (exec (Stmt.Assign [Expr.Name _ _] (Expr.Subscript _ (Expr.Slice none _ _ _) _) _) _) _ _ _)); (fail_if_success (with_reducible show wpAny _ _ (pyIter _) _ _ _)); (fail_if_success (with_reducible show wpAny _ _ (exec (Stmt.While _ _ _ _) _) _ _ _)); first | walk_at "MY hid" | (k_unfold; (try dsimp only)) | (k_end; wrow_close) | walk1 | (dsimp only; walk1) | (leave1; walk_say "STEP leave1"; try dsimp only) | fail "no step"))
        all_goals (rename Fr _ _ _ _ => F9); (rename News _ _ _ _ => N9)
        all_goals first
          | (with_unfolding_all refine swhl_in (_, _) F9 N9 (by (first | exact fun _ h => h | ((repeat' (with_reducible first | exact sub_nil | exact fun _ h => h | refine sub_keep ?_ | refine sub_drop ?_)); done) | ((repeat' (first | exact fmn | refine fmc (by k_mem) ?_ | (intro p hp; k_mem))); done))) ?_ (fmc rfl (fmn)) (by (first | ((refine Sm.out ?_); (repeat' (with_reducible first | exact sm_refl | refine sm_if ?_ ?_ | refine sm_kn ?_ | refine sm_kc ?_ ?_ | refine sm_rest ?_ ?_ | exact all_nil | refine all_cons ?_ ?_ | (refine Or.inl ?_; (repeat (first | exact in_here | refine in_on ?_)); done) | (refine Or.inr ?_; (repeat (first | exact inn_here | refine inn_on ?_)); done))); done) | (intro z h2 h3; (simp only [List.forall_mem_cons, List.not_mem_nil, false_implies, implies_true, and_true, ne_eq] at h2); (simp only [List.contains_cons, List.contains_nil, Bool.or_false, Bool.or_eq_false_iff, beq_eq_false_iff_ne, ne_eq] at h3); (simp [kstB, Rest, h2, h3]; done))))
             try dsimp only
             have hk1 : 0 < a.length + k2 := by omega
             have hk2 : 0 < b.length + k2 := by omega
             rw [postF_step r1 hk1 hk2 (by assumption)] at r0
             exact ⟨⟨r0, by omega, by omega, by omega⟩, by omega⟩)
          | (with_unfolding_all refine scut_in (_, _) F9 N9 (by (first | exact fun _ h => h | ((repeat' (with_reducible first | exact sub_nil | exact fun _ h => h | refine sub_keep ?_ | refine sub_drop ?_)); done) | ((repeat' (first | exact fmn | refine fmc (by k_mem) ?_ | (intro p hp; k_mem))); done))) ?_ (fmc rfl (fmn)) (by (first | ((refine Sm.out ?_); (repeat' (with_reducible first | exact sm_refl | refine sm_if ?_ ?_ | refine sm_kn ?_ | refine sm_kc ?_ ?_ | refine sm_rest ?_ ?_ | exact all_nil | refine all_cons ?_ ?_ | (refine Or.inl ?_; (repeat (first | exact in_here | refine in_on ?_)); done) | (refine Or.inr ?_; (repeat (first | exact inn_here | refine inn_on ?_)); done))); done) | (intro z h2 h3; (simp only [List.forall_mem_cons, List.not_mem_nil, false_implies, implies_true, and_true, ne_eq] at h2); (simp only [List.contains_cons, List.contains_nil, Bool.or_false, Bool.or_eq_false_iff, beq_eq_false_iff_ne, ne_eq] at h3); (simp [kstB, Rest, h2, h3]; done))))
             refine ⟨Hd.mk ?_, r1, r2, r3⟩
             rw [← r0.out, postF_stop]
             first | (rintro ⟨q1, q2, q3⟩; omega) | (rintro ⟨q1, q2, q3⟩; exact ne_tf q3 (by assumption)))
          | (exfalso; omega)
      · subst heq
        try k_fold
        (repeat' ((fail_if_success (with_reducible show wpAny _ _ (exec (Stmt.Assign [Expr.Name _ _] (Expr.Subscript _ (Expr.Slice none _ _ _) _) _) _) _ _ _)); (fail_if_success (with_reducible show wpAny _ _ (pyIter _) _ _ _)); (fail_if_success (with_reducible show wpAny _ _ (exec (Stmt.While _ _ _ _) _) _ _ _)); first | walk_at "MY hid" | (k_unfold; (try dsimp only)) | (k_end; wrow_close) | walk1 | (dsimp only; walk1) | (leave1; walk_say "STEP leave1"; try dsimp only) | fail "no step"))
        all_goals (rename Fr _ _ _ _ => F9); (rename News _ _ _ _ => N9)
        all_goals first
          | (with_unfolding_all refine swhl_in (_, _) F9 N9 (by (first | exact fun _ h => h | ((repeat' (with_reducible first | exact sub_nil | exact fun _ h => h | refine sub_keep ?_ | refine sub_drop ?_)); done) | ((repeat' (first | exact fmn | refine fmc (by k_mem) ?_ | (intro p hp; k_mem))); done))) ?_ (fmc rfl (fmn)) (by (first | ((refine Sm.out ?_); (repeat' (with_reducible first | exact sm_refl | refine sm_if ?_ ?_ | refine sm_kn ?_ | refine sm_kc ?_ ?_ | refine sm_rest ?_ ?_ | exact all_nil | refine all_cons ?_ ?_ | (refine Or.inl ?_; (repeat (first | exact in_here | refine in_on ?_)); done) | (refine Or.inr ?_; (repeat (first | exact inn_here | refine inn_on ?_)); done))); done) | (intro z h2 h3; (simp only [List.forall_mem_cons, List.not_mem_nil, false_implies, implies_true, and_true, ne_eq] at h2); (simp only [List.contains_cons, List.contains_nil, Bool.or_false, Bool.or_eq_false_iff, beq_eq_false_iff_ne, ne_eq] at h3); (simp [kstB, Rest, h2, h3]; done))))
             try dsimp only
             have hk1 : 0 < (a.length : Int) + 0 := by omega
             have hk2 : 0 < (b.length : Int) + 0 := by omega
             rw [postF_step (by omega) hk1 hk2 (by assumption)] at r0
             exact ⟨⟨r0, by omega, by omega, by omega⟩, by omega⟩)
          | (with_unfolding_all refine scut_in (_, _) F9 N9 (by (first | exact fun _ h => h | ((repeat' (with_reducible first | exact sub_nil | exact fun _ h => h | refine sub_keep ?_ | refine sub_drop ?_)); done) | ((repeat' (first | exact fmn | refine fmc (by k_mem) ?_ | (intro p hp; k_mem))); done))) ?_ (fmc rfl (fmn)) (by (first | ((refine Sm.out ?_); (repeat' (with_reducible first | exact sm_refl | refine sm_if ?_ ?_ | refine sm_kn ?_ | refine sm_kc ?_ ?_ | refine sm_rest ?_ ?_ | exact all_nil | refine all_cons ?_ ?_ | (refine Or.inl ?_; (repeat (first | exact in_here | refine in_on ?_)); done) | (refine Or.inr ?_; (repeat (first | exact inn_here | refine inn_on ?_)); done))); done) | (intro z h2 h3; (simp only [List.forall_mem_cons, List.not_mem_nil, false_implies, implies_true, and_true, ne_eq] at h2); (simp only [List.contains_cons, List.contains_nil, Bool.or_false, Bool.or_eq_false_iff, beq_eq_false_iff_ne, ne_eq] at h3); (simp [kstB, Rest, h2, h3]; done))))
             refine ⟨Hd.mk ?_, r1, r2, r3⟩
             rw [← r0.out, postF_stop]
             first | (rintro ⟨q1, q2, q3⟩; omega) | (rintro ⟨q1, q2, q3⟩; exact ne_tf q3 (by assumption)))
    · intro zz0 u2 h2 tk4 zz4 F3 N3
      try k_fold
      obtain ⟨k2, tk3⟩ := zz0
      obtain ⟨r0, r1, r2, r3⟩ := zz4
      dsimp only at r0 r1 r2 r3 F3 N3
      clear F1 N1
      try k_fold
      (repeat' ((fail_if_success (with_reducible show wpAny _ _ (exec (Stmt.Assign [Expr.Name _ _] (Expr.Subscript _ (Expr.Slice none _ _ _) _) _) _) _ _ _)); (fail_if_success (with_reducible show wpAny _ _ (pyIter _) _ _ _)); (fail_if_success (with_reducible show wpAny _ _ (exec (Stmt.While _ _ _ _) _) _ _ _)); first | walk_at "MY hid" | (k_unfold; (try dsimp only)) | (k_end; wrow_close) | walk1 | (dsimp only; walk1) | (leave1; walk_say "STEP leave1"; try dsimp only) | fail "no step"))
      (rename Fr _ _ _ _ => F1); (rename News _ _ _ _ => N1)
      refine cut (σ := Str × Tok) (fun _ => []) (fun c => [(Str.ofString "a", .str c.1 c.2)]) [] (fun c => c.1 = cutP a k2) F1 ?_ ?_
      · rcases Int.lt_or_eq_of_le r1 with hlt | heq
        · try k_fold
          (repeat' ((fail_if_success (with_reducible show wpAny _ _ (pyIter _) _ _ _)); (fail_if_success (with_reducible show wpAny _ _ (exec (Stmt.While _ _ _ _) _) _ _ _)); first | walk_at "MY hid" | (k_unfold; (try dsimp only)) | (k_end; wrow_close) | walk1 | (dsimp only; walk1) | (leave1; walk_say "STEP leave1"; try dsimp only) | fail "no step"))
          all_goals (rename Fr _ _ _ _ => F9); (rename News _ _ _ _ => N9)
          all_goals first
            | (with_unfolding_all refine scut_in (_, _) F9 N9 (by (first | exact fun _ h => h | ((repeat' (with_reducible first | exact sub_nil | exact fun _ h => h | refine sub_keep ?_ | refine sub_drop ?_)); done) | ((repeat' (first | exact fmn | refine fmc (by k_mem) ?_ | (intro p hp; k_mem))); done))) ?_ (fmc rfl (fmn)) (by (first | ((refine Sm.out ?_); (repeat' (with_reducible first | exact sm_refl | refine sm_if ?_ ?_ | refine sm_kn ?_ | refine sm_kc ?_ ?_ | refine sm_rest ?_ ?_ | exact all_nil | refine all_cons ?_ ?_ | (refine Or.inl ?_; (repeat (first | exact in_here | refine in_on ?_)); done) | (refine Or.inr ?_; (repeat (first | exact inn_here | refine inn_on ?_)); done))); done) | (intro z h2 h3; (simp only [List.forall_mem_cons, List.not_mem_nil, false_implies, implies_true, and_true, ne_eq] at h2); (simp only [List.contains_cons, List.contains_nil, Bool.or_false, Bool.or_eq_false_iff, beq_eq_false_iff_ne, ne_eq] at h3); (simp [kstB, Rest, h2, h3]; done))))
               exact (if_neg (by omega)).symm)
            | (exfalso; omega)
        · subst heq
          try k_fold
          (repeat' ((fail_if_success (with_reducible show wpAny _ _ (pyIter _) _ _ _)); (fail_if_success (with_reducible show wpAny _ _ (exec (Stmt.While _ _ _ _) _) _ _ _)); first | walk_at "MY hid" | (k_unfold; (try dsimp only)) | (k_end; wrow_close) | walk1 | (dsimp only; walk1) | (leave1; walk_say "STEP leave1"; try dsimp only) | fail "no step"))
          all_goals (rename Fr _ _ _ _ => F9); (rename News _ _ _ _ => N9)
          all_goals first
            | (with_unfolding_all refine scut_in (_, _) F9 N9 (by (first | exact fun _ h => h | ((repeat' (with_reducible first | exact sub_nil | exact fun _ h => h | refine sub_keep ?_ | refine sub_drop ?_)); done) | ((repeat' (first | exact fmn | refine fmc (by k_mem) ?_ | (intro p hp; k_mem))); done))) ?_ (fmc rfl (fmn)) (by (first | ((refine Sm.out ?_); (repeat' (with_reducible first | exact sm_refl | refine sm_if ?_ ?_ | refine sm_kn ?_ | refine sm_kc ?_ ?_ | refine sm_rest ?_ ?_ | exact all_nil | refine all_cons ?_ ?_ | (refine Or.inl ?_; (repeat (first | exact in_here | refine in_on ?_)); done) | (refine Or.inr ?_; (repeat (first | exact inn_here | refine inn_on ?_)); done))); done) | (intro z h2 h3; (simp only [List.forall_mem_cons, List.not_mem_nil, false_implies, implies_true, and_true, ne_eq] at h2); (simp only [List.contains_cons, List.contains_nil, Bool.or_false, Bool.or_eq_false_iff, beq_eq_false_iff_ne, ne_eq] at h3); (simp [kstB, Rest, h2, h3]; done))))
               exact (if_pos rfl).symm)
            | (exfalso; omega)
      · intro zz0 u3 h3 tk5 ea F4 N4
        try k_fold
        obtain ⟨a2, ta2⟩ := zz0
        dsimp only at ea F4 N4
        clear F1 N1
        try k_fold
        (repeat' ((fail_if_success (with_reducible show wpAny _ _ (exec (Stmt.Assign [Expr.Name _ _] (Expr.Subscript _ (Expr.Slice none _ _ _) _) _) _) _ _ _)); (fail_if_success (with_reducible show wpAny _ _ (pyIter _) _ _ _)); (fail_if_success (with_reducible show wpAny _ _ (exec (Stmt.While _ _ _ _) _) _ _ _)); first | walk_at "MY hid" | (k_unfold; (try dsimp only)) | (k_end; wrow_close) | walk1 | (dsimp only; walk1) | (leave1; walk_say "STEP leave1"; try dsimp only) | fail "no step"))
        (rename Fr _ _ _ _ => F1); (rename News _ _ _ _ => N1)
        refine cut (σ := Str × Tok) (fun _ => []) (fun c => [(Str.ofString "b", .str c.1 c.2)]) [] (fun c => c.1 = cutP b k2) F1 ?_ ?_
        · rcases Int.lt_or_eq_of_le r1 with hlt | heq
          · try k_fold
            (repeat' ((fail_if_success (with_reducible show wpAny _ _ (pyIter _) _ _ _)); (fail_if_success (with_reducible show wpAny _ _ (exec (Stmt.While _ _ _ _) _) _ _ _)); first | walk_at "MY hid" | (k_unfold; (try dsimp only)) | (k_end; wrow_close) | walk1 | (dsimp only; walk1) | (leave1; walk_say "STEP leave1"; try dsimp only) | fail "no step"))
            all_goals (rename Fr _ _ _ _ => F9); (rename News _ _ _ _ => N9)
            all_goals first
              | (with_unfolding_all refine scut_in (_, _) F9 N9 (by (first | exact fun _ h => h | ((repeat' (with_reducible first | exact sub_nil | exact fun _ h => h | refine sub_keep ?_ | refine sub_drop ?_)); done) | ((repeat' (first | exact fmn | refine fmc (by k_mem) ?_ | (intro p hp; k_mem))); done))) ?_ (fmc rfl (fmn)) (by (first | ((refine Sm.out ?_); (repeat' (with_reducible first | exact sm_refl | refine sm_if ?_ ?_ | refine sm_kn ?_ | refine sm_kc ?_ ?_ | refine sm_rest ?_ ?_ | exact all_nil | refine all_cons ?_ ?_ | (refine Or.inl ?_; (repeat (first | exact in_here | refine in_on ?_)); done) | (refine Or.inr ?_; (repeat (first | exact inn_here | refine inn_on ?_)); done))); done) | (intro z h2 h3; (simp only [List.forall_mem_cons, List.not_mem_nil, false_implies, implies_true, and_true, ne_eq] at h2); (simp only [List.contains_cons, List.contains_nil, Bool.or_false, Bool.or_eq_false_iff, beq_eq_false_iff_ne, ne_eq] at h3); (simp [kstB, Rest, h2, h3]; done))))
                 exact (if_neg (by omega)).symm)
              | (exfalso; omega)
          · subst heq
            try k_fold
            (repeat' ((fail_if_success (with_reducible show wpAny _ _ (pyIter _) _ _ _)); (fail_if_success (with_reducible show wpAny _ _ (exec (Stmt.While _ _ _ _) _) _ _ _)); first | walk_at "MY hid" | (k_unfold; (try dsimp only)) | (k_end; wrow_close) | walk1 | (dsimp only; walk1) | (leave1; walk_say "STEP leave1"; try dsimp only) | fail "no step"))
            all_goals (rename Fr _ _ _ _ => F9); (rename News _ _ _ _ => N9)
            all_goals first
              | (with_unfolding_all refine scut_in (_, _) F9 N9 (by (first | exact fun _ h => h | ((repeat' (with_reducible first | exact sub_nil | exact fun _ h => h | refine sub_keep ?_ | refine sub_drop ?_)); done) | ((repeat' (first | exact fmn | refine fmc (by k_mem) ?_ | (intro p hp; k_mem))); done))) ?_ (fmc rfl (fmn)) (by (first | ((refine Sm.out ?_); (repeat' (with_reducible first | exact sm_refl | refine sm_if ?_ ?_ | refine sm_kn ?_ | refine sm_kc ?_ ?_ | refine sm_rest ?_ ?_ | exact all_nil | refine all_cons ?_ ?_ | (refine Or.inl ?_; (repeat (first | exact in_here | refine in_on ?_)); done) | (refine Or.inr ?_; (repeat (first | exact inn_here | refine inn_on ?_)); done))); done) | (intro z h2 h3; (simp only [List.forall_mem_cons, List.not_mem_nil, false_implies, implies_true, and_true, ne_eq] at h2); (simp only [List.contains_cons, List.contains_nil, Bool.or_false, Bool.or_eq_false_iff, beq_eq_false_iff_ne, ne_eq] at h3); (simp [kstB, Rest, h2, h3]; done))))
                 exact (if_pos rfl).symm)
              | (exfalso; omega)
        · intro zz0 u4 h4 tk6 eb F5 N5
          try k_fold
          obtain ⟨b2, tb2⟩ := zz0
          dsimp only at eb F5 N5
          clear F1 N1
          have hlev : Hd (levP x y mx = levQ a b mx) := Hd.mk <| by
            unfold levP
            rw [if_neg (by intro hxy; exact ne_tf hxy (by assumption)), ← p0.out, hA, hB]
          have hlq : Hd (levQ a b mx = midP a2 b2 mx) := Hd.mk <| by
            unfold levQ
            rw [← r0.out, ← ea, ← eb]
          have la : a2.length ≤ 12 := by rw [ea]; exact Nat.le_trans (cutP_le a k2) (by omega)
          have lb : b2.length ≤ 12 := by rw [eb]; exact Nat.le_trans (cutP_le b k2) (by omega)
          try k_fold
          (repeat' ((fail_if_success (with_reducible show wpAny _ _ (exec (Stmt.If (Expr.Compare (Expr.Call _ _ _ _) _ _ _) _ _ _) _) _ _ _)); first | walk_at "MY hid" | (k_unfold; (try dsimp only)) | (k_end; wrow_close) | walk1 | (dsimp only; walk1) | (leave1; walk_say "STEP leave1"; try dsimp only) | fail "no step"))
          · (rename Fr _ _ _ _ => F1); (rename News _ _ _ _ => N1)
            refine cut (σ := Str × Tok × Str × Tok) (fun _ => []) (fun c => [(Str.ofString "a", .str c.1 c.2.1), (Str.ofString "b", .str c.2.2.1 c.2.2.2)]) [] (fun c => c.1 = (if b2.length < a2.length then b2 else a2) ∧ c.2.2.1 = (if b2.length < a2.length then a2 else b2)) F1 ?_ ?_
            · try k_fold
              (repeat' ((fail_if_success (with_reducible show wpAny _ _ (pyIter _) _ _ _)); (fail_if_success (with_reducible show wpAny _ _ (exec (Stmt.While _ _ _ _) _) _ _ _)); first | walk_at "MY hid" | (k_unfold; (try dsimp only)) | (k_end; wrow_close) | walk1 | (dsimp only; walk1) | (leave1; walk_say "STEP leave1"; try dsimp only) | fail "no step"))
              all_goals (rename Fr _ _ _ _ => F9); (rename News _ _ _ _ => N9)
              all_goals (
                with_unfolding_all refine scut_in (_, _, _, _) F9 N9 (by (first | exact fun _ h => h | ((repeat' (with_reducible first | exact sub_nil | exact fun _ h => h | refine sub_keep ?_ | refine sub_drop ?_)); done) | ((repeat' (first | exact fmn | refine fmc (by k_mem) ?_ | (intro p hp; k_mem))); done))) ?_ (fmc rfl (fmc rfl (fmn))) (by (first | ((refine Sm.out ?_); (repeat' (with_reducible first | exact sm_refl | refine sm_if ?_ ?_ | refine sm_kn ?_ | refine sm_kc ?_ ?_ | refine sm_rest ?_ ?_ | exact all_nil | refine all_cons ?_ ?_ | (refine Or.inl ?_; (repeat (first | exact in_here | refine in_on ?_)); done) | (refine Or.inr ?_; (repeat (first | exact inn_here | refine inn_on ?_)); done))); done) | (intro z h2 h3; (simp only [List.forall_mem_cons, List.not_mem_nil, false_implies, implies_true, and_true, ne_eq] at h2); (simp only [List.contains_cons, List.contains_nil, Bool.or_false, Bool.or_eq_false_iff, beq_eq_false_iff_ne, ne_eq] at h3); (simp [kstB, Rest, h2, h3]; done))))
                try dsimp only
                first | exact ⟨(if_pos (by omega)).symm, (if_pos (by omega)).symm⟩ | exact ⟨(if_neg (by omega)).symm, (if_neg (by omega)).symm⟩)
            · intro zz0 u5 h5 tk7 zz4 F6 N6
              try k_fold
              obtain ⟨a3, ta3, b3, tb3⟩ := zz0
              obtain ⟨ea3, eb3⟩ := zz4
              dsimp only at ea3 eb3 F6 N6
              clear F1 N1
              have hab : a3.length ≤ b3.length ∧ b3.length ≤ 12 := by
                rw [ea3, eb3]; split <;> omega
              have hmid : Hd (levP x y mx = tailP a3 b3 mx) := Hd.mk <| by
                rw [hlev.out, hlq.out]; unfold midP; rw [if_neg (by omega), ← ea3, ← eb3]
              clear la lb hlev hlq ea3 eb3 r0 r1 r2 r3 ea eb p0 p1 p2 p3 h00 h01 h02 hna hnb hA hB
              try k_fold
              (repeat' ((fail_if_success (with_reducible show wpAny _ _ (exec (Stmt.Assign [Expr.Name _ _] (Expr.Subscript _ (Expr.Slice none _ _ _) _) _) _) _ _ _)); (fail_if_success (with_reducible show wpAny _ _ (pyIter _) _ _ _)); (fail_if_success (with_reducible show wpAny _ _ (exec (Stmt.While _ _ _ _) _) _ _ _)); first | walk_at "MY hid" | (k_unfold; (try dsimp only)) | (k_end; wrow_close) | walk1 | (dsimp only; walk1) | (leave1; walk_say "STEP leave1"; try dsimp only) | fail "no step"))
              · try dsimp only
                exact leave_in [] (by assumption) (by assumption) (fmn) (fun _ h => nomatch h) ⟨rfl, _, congrArg (fun i => Value.int i _) (by rw [hmid.out]; unfold tailP; rw [if_pos (by omega)])⟩
              · (rename Fr _ _ _ _ => F1); (rename News _ _ _ _ => N1); (rename IsRange _ _ _ _ _ _ _ _ => R1); (rename IntsAre _ _ => hI1)
                rename_i D0 _ _ ys0 k0 l10 _ _ _ _ _ _ _ _ _ _ _
                have hlen0 : (rangeInts 2 2 a3.length).length = a3.length := rangeInts_length _ _ _
                obtain ⟨R0, hRo⟩ : ∃ R0, Hd (outF a3 b3 mx b3.length 0 (rangeInts 2 2 a3.length) 0 = R0) := ⟨_, Hd.mk rfl⟩
                have hfin : Hd (levP x y mx = R0) := Hd.mk <| by
                  rw [hmid.out]
                  unfold tailP
                  rw [if_neg (by omega), hRo.out]
                have h0R : Hd (outF a3 b3 mx (b3.length - 0) ((0 : Nat) : Int) (rangeInts 2 2 a3.length) 0 = R0) := hRo
                with_unfolding_all
                  refine sloop_range (σ := LS) (n := b3.length) (fun c => [(D0, listOf c.vs.toArray c.ep)]) (fun c => [(Str.ofString "result", .int c.res c.t)]) [Str.ofString "bindex", Str.ofString "bchar", Str.ofString "distance", Str.ofString "minimum", Str.ofString "index", Str.ofString "substitute", Str.ofString "insert_delete"]
                    (fun i c => IntsAre c.vs c.row ∧ c.row.length = a3.length ∧ Hd (outF a3 b3 mx (b3.length - i) (i : Int) c.row c.res = R0)) rfl R1 ?hsm ?hn F1 N1
                    (sj_mk ⟨ys0, k0, rangeInts 2 2 a3.length, 0, _⟩ rfl ⟨hI1, hlen0, h0R⟩ (fmc rfl (fmn)) (fun _ _ _ => rfl)) ?turn ?done
                case hsm => exact small_one (by omega) (by omega) (by omega) (by omega)
                case hn => exact range_n (by omega)
                case turn =>
                  intro i zz1 ti u6 I oI h6 tk8 hi zz9 hne hlt F7 N7
                  try k_fold
                  obtain ⟨vr, ep, row, res, tr⟩ := zz1
                  obtain ⟨hIr, hlr, hO⟩ := zz9
                  dsimp only at hIr hlr hO hne F7 N7
                  clear F1 N1 R1
                  try k_fold
                  (repeat' ((fail_if_success (with_reducible show wpAny _ _ (exec (Stmt.Assign [Expr.Name _ _] (Expr.Subscript _ (Expr.Slice none _ _ _) _) _) _) _ _ _)); (fail_if_success (with_reducible show wpAny _ _ (pyIter _) _ _ _)); (fail_if_success (with_reducible show wpAny _ _ (exec (Stmt.While _ _ _ _) _) _ _ _)); first | walk_at "MY hid" | (k_unfold; (try dsimp only)) | (k_end; wrow_close) | walk1 | (dsimp only; walk1) | (leave1; walk_say "STEP leave1"; try dsimp only) | fail "no step"))
                  (rename Fr _ _ _ _ => F8); (rename News _ _ _ _ => N8); (rename IsRange _ _ _ _ _ _ _ _ => R2)
                  with_unfolding_all
                    refine sloop_range (σ := IS) (n := a3.length) (fun c => [(I, oI), (D0, listOf c.vs.toArray c.ep)]) (fun c => [(Str.ofString "distance", .int c.cell.dist c.t1), (Str.ofString "result", .int c.cell.res c.t2), (Str.ofString "minimum", .int c.cell.mn c.t3)]) [Str.ofString "index", Str.ofString "substitute", Str.ofString "insert_delete"]
                      (fun j c => IntsAre c.vs c.cell.row ∧ c.cell.row.length = a3.length ∧ c.cell = (rangeKs 0 j).foldl (innerStep a3 (Txt.item b3 (0 + (i : Int)))) ⟨row, (0 + (i : Int)) * 2, (0 + (i : Int)) * 2, 9223372036854775807⟩) rfl R2 ?hsm2 ?hn2 F8 N8
                      (sj_mk ⟨vr, ep, ⟨row, (0 + (i : Int)) * 2, (0 + (i : Int)) * 2, 9223372036854775807⟩, _, _, _⟩ rfl ⟨hIr, hlr, rfl⟩ (fmc rfl (fmc rfl (fmc rfl (fmn)))) (fun _ _ _ => rfl)) ?turn2 ?done2
                  case hsm2 => exact small_one (by omega) (by omega) (by omega) (by omega)
                  case hn2 => exact range_n (by omega)
                  case turn2 =>
                    intro j zz1 tj u7 I2 oI2 h7 tk9 hj zz9 hne2 hlt2 F9 N9
                    try k_fold
                    obtain ⟨vr2, ep2, ⟨row2, dist2, res2, mn2⟩, td, tr2, tm⟩ := zz1
                    obtain ⟨hI2, hl2, hC2⟩ := zz9
                    dsimp only at hI2 hl2 hC2 hne2 F9 N9
                    have hj2 : 0 ≤ 0 + (j : Int) ∧ 0 + (j : Int) < row2.length ∧ 0 + (j : Int) < a3.length := by omega
                    have e1 : @LT.lt Nat _ D0 I := hlt _ List.mem_cons_self
                    have e2 : @LT.lt Nat _ D0 I2 := hlt2 _ (List.mem_cons_of_mem _ List.mem_cons_self)
                    have e3 : @LT.lt Nat _ I I2 := hlt2 _ List.mem_cons_self
                    clear F8 N8 R2
                    try k_fold
                    (repeat' ((fail_if_success (with_reducible show wpAny _ _ (exec (Stmt.Assign [Expr.Name _ _] (Expr.Subscript _ (Expr.Slice none _ _ _) _) _) _) _ _ _)); (fail_if_success (with_reducible show wpAny _ _ (pyIter _) _ _ _)); (fail_if_success (with_reducible show wpAny _ _ (exec (Stmt.While _ _ _ _) _) _ _ _)); first | walk_at "MY hid" | (k_unfold; (try dsimp only)) | (k_end; wrow_close) | walk1 | (dsimp only; walk1) | (leave1; walk_say "STEP leave1"; try dsimp only) | fail "no step"))
                    all_goals (
                      (rename Fr _ _ _ _ => F10); (rename News _ _ _ _ => N10); (rename IntsAre (List.set _ _ _) _ => hI3)
                      with_unfolding_all refine sturn_in ⟨_, _, ⟨_, _, _, _⟩, _, _, _⟩ F10 N10 (by k_mem) (by (first | exact fun _ h => h | ((repeat' (with_reducible first | exact sub_nil | exact fun _ h => h | refine sub_keep ?_ | refine sub_drop ?_)); done) | ((repeat' (first | exact fmn | refine fmc (by k_mem) ?_ | (intro p hp; k_mem))); done))) ?_ ⟨hI3, ?_, ?_⟩ (fmc rfl (fmc rfl (fmc rfl (fmn)))) (by (first | ((refine Sm.out ?_); (repeat' (with_reducible first | exact sm_refl | refine sm_if ?_ ?_ | refine sm_kn ?_ | refine sm_kc ?_ ?_ | refine sm_rest ?_ ?_ | exact all_nil | refine all_cons ?_ ?_ | (refine Or.inl ?_; (repeat (first | exact in_here | refine in_on ?_)); done) | (refine Or.inr ?_; (repeat (first | exact inn_here | refine inn_on ?_)); done))); done) | (intro z h2 h3; (simp only [List.forall_mem_cons, List.not_mem_nil, false_implies, implies_true, and_true, ne_eq] at h2); (simp only [List.contains_cons, List.contains_nil, Bool.or_false, Bool.or_eq_false_iff, beq_eq_false_iff_ne, ne_eq] at h3); (simp [kstB, Rest, h2, h3]; done))))
                      · refine fmc (neN (by omega)) (fmc (neN (by omega)) (fmn))
                      · dsimp only
                        rw [List.length_set]; exact hl2
                      · dsimp only
                        rw [rangeKs_succ, List.foldl_append, ← hC2]
                        show _ = innerStep a3 (Txt.item b3 (0 + (i : Int))) ⟨row2, dist2, res2, mn2⟩ (0 + (j : Int))
                        unfold innerStep
                        try dsimp only
                        first | exact congrArg (Cell.mk _ _ _) (if_pos (by assumption)).symm | exact congrArg (Cell.mk _ _ _) (if_neg (by assumption)).symm)
                  case done2 =>
                    intro zz0 u7 h7 tk9 zz4 F9 N9
                    try k_fold
                    obtain ⟨vr2, ep2, ⟨row2, dist2, res2, mn2⟩, td, tr2, tm⟩ := zz0
                    obtain ⟨hI2, hl2, hC2⟩ := zz4
                    dsimp only at hI2 hl2 hC2 F9 N9
                    have e1 : @LT.lt Nat _ D0 I := hlt _ List.mem_cons_self
                    clear F8 N8 R2
                    try k_fold
                    (repeat' ((fail_if_success (with_reducible show wpAny _ _ (exec (Stmt.Assign [Expr.Name _ _] (Expr.Subscript _ (Expr.Slice none _ _ _) _) _) _) _ _ _)); (fail_if_success (with_reducible show wpAny _ _ (pyIter _) _ _ _)); (fail_if_success (with_reducible show wpAny _ _ (exec (Stmt.While _ _ _ _) _) _ _ _)); first | walk_at "MY hid" | (k_unfold; (try dsimp only)) | (k_end; wrow_close) | walk1 | (dsimp only; walk1) | (leave1; walk_say "STEP leave1"; try dsimp only) | fail "no step"))
                    · try dsimp only
                      (try k_unfold)
                      (try dsimp only [TurnP])
                      repeat walk_at "MY hid"
                      exact leave_in [] (by assumption) (by assumption) (fmn) (fun _ h => nomatch h) ⟨rfl, _, by rw [hfin.out, ← out_ret hi hO.out hC2 (by assumption)]⟩
                    · (rename Fr _ _ _ _ => F10); (rename News _ _ _ _ => N10)
                      with_unfolding_all refine sturn_in ⟨vr2, ep2, row2, _, _⟩ F10 N10 (by k_mem) (by (first | exact fun _ h => h | ((repeat' (with_reducible first | exact sub_nil | exact fun _ h => h | refine sub_keep ?_ | refine sub_drop ?_)); done) | ((repeat' (first | exact fmn | refine fmc (by k_mem) ?_ | (intro p hp; k_mem))); done))) ?_ ⟨hI2, hl2, Hd.mk (out_next hi hO.out hC2 (by assumption))⟩ (fmc rfl (fmn)) (by (first | ((refine Sm.out ?_); (repeat' (with_reducible first | exact sm_refl | refine sm_if ?_ ?_ | refine sm_kn ?_ | refine sm_kc ?_ ?_ | refine sm_rest ?_ ?_ | exact all_nil | refine all_cons ?_ ?_ | (refine Or.inl ?_; (repeat (first | exact in_here | refine in_on ?_)); done) | (refine Or.inr ?_; (repeat (first | exact inn_here | refine inn_on ?_)); done))); done) | (intro z h2 h3; (simp only [List.forall_mem_cons, List.not_mem_nil, false_implies, implies_true, and_true, ne_eq] at h2); (simp only [List.contains_cons, List.contains_nil, Bool.or_false, Bool.or_eq_false_iff, beq_eq_false_iff_ne, ne_eq] at h3); (simp [kstB, Rest, h2, h3]; done))))
                      exact fmc (neN (by dsimp only; omega)) (fmn)
                case done =>
                  intro zz0 u6 h6 tk8 zz4 F7 N7
                  try k_fold
                  obtain ⟨vr, ep, row, res, tr⟩ := zz0
                  obtain ⟨hIr, hlr, hO⟩ := zz4
                  dsimp only at hIr hlr hO F7 N7
                  clear F1 N1 R1
                  try k_fold
                  (repeat' ((fail_if_success (with_reducible show wpAny _ _ (exec (Stmt.Assign [Expr.Name _ _] (Expr.Subscript _ (Expr.Slice none _ _ _) _) _) _) _ _ _)); (fail_if_success (with_reducible show wpAny _ _ (pyIter _) _ _ _)); (fail_if_success (with_reducible show wpAny _ _ (exec (Stmt.While _ _ _ _) _) _ _ _)); first | walk_at "MY hid" | (k_unfold; (try dsimp only)) | (k_end; wrow_close) | walk1 | (dsimp only; walk1) | (leave1; walk_say "STEP leave1"; try dsimp only) | fail "no step"))
                  try dsimp only
                  have hO2 : res = R0 := by have hO := hO.out; rw [Nat.sub_self] at hO; exact hO
                  exact leave_in [] (by assumption) (by assumption) (fmn) (fun _ h => nomatch h) ⟨rfl, _, by rw [hfin.out, hO2]⟩
          all_goals (
            try dsimp only
            exact leave_in [] (by assumption) (by assumption) (fmn) (fun _ h => nomatch h) ⟨rfl, _, congrArg (fun i => Value.int i _) (by rw [hlev.out, hlq.out]; unfold midP; rw [if_pos (by omega)])⟩)
end WC2
namespace WPa
open WC5
open WC6a
open WC7
open WC8
theorem freshWPa : True := by w_top off; trivial
@[irreducible] noncomputable def drawsP (ns : List Int) : List Int := List.zipWith (· + ·) [1, 0, 0, 1, 2] (ns.take 5 ++ [0, 0, 0, 0, 0])
@[irreducible] noncomputable def cellsE (ds : List Int) : List Int := if covF 13 (cellsP ds) = [] then rangeKs 0 12 else cellsP ds
@[irreducible] noncomputable def covE (ds : List Int) : List Int := covF 13 (cellsE ds)
noncomputable def spotB (cs : List Int) (c : Int) : Bool := decide (c.fmod 3 < 2) && (cs.any (· == c + 1) && (cs.any (· == c + 3) && cs.any (· == c + 4)))
@[irreducible] noncomputable def spotsP (cs : List Int) : List Int := cs.filter (spotB cs)
noncomputable def rowP (cs sp : List Int) (cv : Int) : List Int := sp.map fun c => heightP cv c cs
@[irreducible] noncomputable def rowsP (cs sp cov : List Int) : List (List Int) := cov.map (rowP cs sp)
@[irreducible] noncomputable def leastP (rows : List (List Int)) (n : Nat) : List Int := (List.range n).map fun k => minL (rows.map fun r => r.getD k 0)
noncomputable def sumP (first : Int) (n : Nat) : Int := ((rangeKs 0 n).map fun k => (first + 1 + k).fmod 16 * 16 ^ ((n : Int) - 1 - k).toNat).sum
@[irreducible] noncomputable def roundsP (sp : List Int) (p : Int) : List (Int × Int) := (rF 20 (sp.map sqF) [(p, 0)] [p]).getD []
noncomputable def dueP (out : List (Int × Int)) (cov : List Int) : List Int := cov.map fun c => kdfLook out c 0
end WPa
namespace WQ1
open WC2
open WC1
theorem freshWQ1 : True := by w_top off; trivial
noncomputable def Sy (e : Nat → Nat) (l : List Nat) : Str := ⟨(l.map e).toArray⟩
structure Enc (e : Nat → Nat) : Prop where
  inj : ∀ a < 12, ∀ b < 12, e a = e b → a = b
  low : ∀ a < 12, Txt.lower ⟨#[e a]⟩ = ⟨#[e (a / 2 * 2)]⟩
noncomputable def Le (l : List Nat) : Prop := ∀ s ∈ l, s < 12
theorem sy_len (e : Nat → Nat) (l : List Nat) : (Sy e l).length = l.length := by
  show (l.map e).toArray.size = _
  rw [List.size_toArray, List.length_map]
theorem getD_lt {l : List Nat} (h : Le l) (i : Nat) : l.getD i 0 < 12 := by
  rw [List.getD_eq_getElem?_getD]
  by_cases hi : i < l.length
  · rw [List.getElem?_eq_getElem hi]; exact h _ (List.getElem_mem hi)
  · rw [List.getElem?_eq_none (by omega)]; decide
theorem item_sy {e : Nat → Nat} {l : List Nat} {k : Int} (h0 : 0 ≤ k) (h1 : k < l.length) : Txt.item (Sy e l) k = ⟨#[e (l.getD k.toNat 0)]⟩ := by
  refine PyProof.Rows.item_meets h0 ?_
  show (l.map e).toArray[k.toNat]? = _
  rw [List.getElem?_toArray, List.getElem?_map, List.getD_eq_getElem?_getD, List.getElem?_eq_getElem (by omega)]
  rfl
theorem item_syn {e : Nat → Nat} {l : List Nat} {k : Int} (h0 : k < 0) (h1 : 0 ≤ l.length + k) : Txt.item (Sy e l) k = ⟨#[e (l.getD (l.length + k).toNat 0)]⟩ := by
  have h2 := sy_len e l
  have hn := PyProof.Rows.at_getD (x := Sy e l) (i := k + (Sy e l).length) ⟨by omega, by omega⟩
  unfold Txt.item Txt.charAt
  rw [StrLaws.at_neg h0 (by omega) hn]
  have e3 : (k + ((Sy e l).length : Int)).toNat = (l.length + k).toNat := by omega
  rw [e3]
  show (⟨#[((l.map e).toArray).getD (l.length + k).toNat 0]⟩ : Str) = _
  rw [Array.getD_eq_getD_getElem?, List.getElem?_toArray, List.getElem?_map, List.getD_eq_getElem?_getD, List.getElem?_eq_getElem (by omega)]
  rfl
theorem str_ext {x y : Str} (h : x.cps.toList = y.cps.toList) : x = y := by
  cases x with | mk a => cases y with | mk b =>
  congr 1
  exact Array.toList_inj.mp h
theorem slice_from {e : Nat → Nat} {l : List Nat} {p : Int} (h0 : 0 ≤ p) : Txt.slice (Sy e l) (some p) none = Sy e (l.drop p.toNat) := by
  have h2 : (Sy e l).length = l.length := sy_len e l
  have hb : (0 : Int) ≤ l.length := Int.natCast_nonneg _
  apply str_ext
  rw [WC2.slice_eq (Sy e l) (some p) none (min p l.length) l.length (by dsimp only; rw [if_neg (Int.not_lt.mpr h0), h2, Int.max_eq_right (Int.le_min.mpr ⟨h0, hb⟩)]) (by dsimp only; rw [h2]) (Int.le_min.mpr ⟨h0, hb⟩) (Int.min_le_right _ _) (by rw [h2]; exact Int.le_refl _)]
  show (((l.map e).toArray.toList).drop _).take _ = ((l.drop p.toNat).map e).toArray.toList
  rw [List.toList_toArray, List.toList_toArray, List.map_drop]
  have e1 : ((l.map e).drop (min p (l.length : Int)).toNat) = (l.map e).drop p.toNat := by
    rcases Int.le_total p l.length with h | h
    · rw [Int.min_eq_left h]
    · rw [Int.min_eq_right h, Int.toNat_natCast, List.drop_of_length_le (by rw [List.length_map]; exact Nat.le_refl _), List.drop_of_length_le (by rw [List.length_map]; exact Int.toNat_natCast l.length ▸ Int.toNat_le_toNat h)]
  rw [e1]
  apply List.take_of_length_le
  rw [List.length_drop, List.length_map]
  rcases Int.le_total p l.length with h | h
  · obtain ⟨n, rfl⟩ := Int.eq_ofNat_of_zero_le h0
    rw [Int.min_eq_left h, Int.toNat_natCast, ← Int.ofNat_sub (Int.ofNat_le.mp h), Int.toNat_natCast]
    exact Nat.le_refl _
  · rw [Nat.sub_eq_zero_of_le (Int.toNat_natCast l.length ▸ Int.toNat_le_toNat h)]
    exact Nat.zero_le _
theorem slice_to {e : Nat → Nat} {l : List Nat} {k : Int} (h0 : k < 0) : Txt.slice (Sy e l) none (some k) = Sy e (l.take (l.length + k).toNat) := by
  have h2 : (Sy e l).length = l.length := sy_len e l
  have hb : (0 : Int) ≤ l.length := Int.natCast_nonneg _
  have hk : (l.length : Int) + k ≤ l.length := by have := h0; clear h2 hb; omega
  apply str_ext
  rw [WC2.slice_eq (Sy e l) none (some k) 0 (max 0 (l.length + k)) (by rfl) (by dsimp only; rw [if_pos h0, h2, Int.add_comm k, Int.min_eq_left hk]) (Int.le_refl _) (Int.le_max_left _ _) (by rw [h2]; exact Int.max_le.mpr ⟨hb, hk⟩)]
  show (((l.map e).toArray.toList).drop _).take _ = ((l.take (l.length + k).toNat).map e).toArray.toList
  rw [List.toList_toArray, List.toList_toArray, List.map_take]
  congr 1
  rw [Int.sub_zero]
  rcases Int.le_total 0 ((l.length : Int) + k) with h | h
  · rw [Int.max_eq_right h]
  · rw [Int.max_eq_left h, Int.toNat_of_nonpos h]; rfl
noncomputable def preG : Nat → List Nat → List Nat → Int → Int
  | 0, _, _, k => k
  | n + 1, x, y, k => if k < x.length ∧ k < y.length ∧ x.getD k.toNat 0 = y.getD k.toNat 0 then preG n x y (k + 1) else k
noncomputable def postG : Nat → List Nat → List Nat → Int → Int
  | 0, _, _, k => k
  | n + 1, x, y, k => if 0 < x.length + k ∧ 0 < y.length + k ∧ x.getD (x.length + (k - 1)).toNat 0 = y.getD (y.length + (k - 1)).toNat 0 then postG n x y (k - 1) else k
theorem one_eq {e : Nat → Nat} (h : Enc e) {a b : Nat} (ha : a < 12) (hb : b < 12) : (((⟨#[e a]⟩ : Str) == ⟨#[e b]⟩) = true) ↔ a = b := by
  rw [beq_iff_eq]
  constructor
  · intro q
    have q2 := congrArg (fun s : Str => s.cps.toList) q
    exact h.inj a ha b hb (List.cons.inj q2).1
  · intro q; rw [q]
theorem preG_nn (x y : List Nat) : ∀ n k, 0 ≤ k → 0 ≤ preG n x y k := by
  intro n
  induction n with
  | zero => intro k h; exact h
  | succ n ih =>
    intro k h
    rw [preG]
    split
    · exact ih _ (by omega)
    · exact h
theorem postG_np (x y : List Nat) : ∀ n k, k ≤ 0 → postG n x y k ≤ 0 := by
  intro n
  induction n with
  | zero => intro k h; exact h
  | succ n ih =>
    intro k h
    rw [postG]
    split
    · exact ih _ (by omega)
    · exact h
theorem pre_sy {e : Nat → Nat} (h : Enc e) {x y : List Nat} (hx : Le x) (hy : Le y) : ∀ n k, 0 ≤ k → WC2.preF n (Sy e x) (Sy e y) k = preG n x y k := by
  intro n
  induction n with
  | zero => intro k _; rfl
  | succ n ih =>
    intro k hk
    rw [WC2.preF, preG, sy_len, sy_len]
    by_cases h1 : k < x.length ∧ k < y.length
    · rw [item_sy hk h1.1, item_sy hk h1.2]
      simp only [one_eq h (getD_lt hx _) (getD_lt hy _), h1.1, h1.2, true_and]
      rw [ih _ (by omega)]
    · rw [if_neg (fun q => h1 ⟨q.1, q.2.1⟩), if_neg (fun q => h1 ⟨q.1, q.2.1⟩)]
theorem post_sy {e : Nat → Nat} (h : Enc e) {x y : List Nat} (hx : Le x) (hy : Le y) : ∀ n k, k ≤ 0 → WC2.postF n (Sy e x) (Sy e y) k = postG n x y k := by
  intro n
  induction n with
  | zero => intro k _; rfl
  | succ n ih =>
    intro k hk
    rw [WC2.postF, postG, sy_len, sy_len]
    by_cases h1 : 0 < (x.length : Int) + k ∧ 0 < (y.length : Int) + k
    · rw [item_syn (by omega) (by omega), item_syn (by omega) (by omega)]
      simp only [one_eq h (getD_lt hx _) (getD_lt hy _), h1.1, h1.2, true_and]
      rw [ih _ (by omega)]
    · rw [if_neg (fun q => h1 ⟨q.1, q.2.1⟩), if_neg (fun q => h1 ⟨q.1, q.2.1⟩)]
noncomputable def cutG (x : List Nat) (k : Int) : List Nat := if k = 0 then x else x.take (x.length + k).toNat
theorem cut_sy {e : Nat → Nat} {x : List Nat} {k : Int} (hk : k ≤ 0) : WC2.cutP (Sy e x) k = Sy e (cutG x k) := by
  unfold WC2.cutP cutG
  split
  · exact WC2.slice_nn _
  · exact slice_to (by omega)
noncomputable def costG (a b : Nat) : Int := if a = b then 0 else if a / 2 = b / 2 then 1 else 2
theorem cost_sy {e : Nat → Nat} (h : Enc e) {a b : Nat} (ha : a < 12) (hb : b < 12) : WC1.costP ⟨#[e a]⟩ ⟨#[e b]⟩ = costG a b := by
  have h1 := one_eq h ha hb
  have h2 := one_eq h (a := a / 2 * 2) (b := b / 2 * 2) (by omega) (by omega)
  rw [beq_iff_eq] at h1 h2
  unfold WC1.costP costG
  rw [h.low a ha, h.low b hb]
  by_cases q : a = b
  · rw [if_pos (h1.mpr q), if_pos q]
  · rw [if_neg (fun p => q (h1.mp p)), if_neg q]
    by_cases q2 : a / 2 = b / 2
    · rw [if_pos (h2.mpr (by omega)), if_pos q2]
    · rw [if_neg (fun p => q2 (by have := h2.mp p; omega)), if_neg q2]
noncomputable def innerSG (a : List Nat) (b : Nat) (c : WC2.Cell) (i : Int) : WC2.Cell :=
  let d := c.row.getD i.toNat 0
  let s := c.dist + costG b (a.getD i.toNat 0)
  let n := (if d < c.res then d else c.res) + 2
  let r := if s < n then s else n
  ⟨c.row.set i.toNat r, d, r, if r < c.mn then r else c.mn⟩
noncomputable def innerG (a : List Nat) (b : Nat) (row : List Int) (d : Int) : WC2.Cell := (rangeKs 0 a.length).foldl (innerSG a b) ⟨row, d, d, 9223372036854775807⟩
theorem foldl_same {α β : Type} {f g : β → α → β} : ∀ {l : List α}, (∀ x ∈ l, ∀ b, f b x = g b x) → ∀ b, l.foldl f b = l.foldl g b
  | [], _, _ => rfl
  | x :: l, h, b => by
    rw [List.foldl_cons, List.foldl_cons, h x List.mem_cons_self]
    exact foldl_same (fun y hy => h y (List.mem_cons_of_mem _ hy)) _
theorem range_mem {n : Nat} {i : Int} (h : i ∈ rangeKs 0 n) : 0 ≤ i ∧ i < n := by
  obtain ⟨k, hk, rfl⟩ := List.mem_map.mp h
  have := List.mem_range.mp hk
  omega
theorem inner_sy {e : Nat → Nat} (h : Enc e) {a : List Nat} (ha : Le a) {b : Nat} (hb : b < 12) (row : List Int) (d : Int) : WC2.innerP (Sy e a) ⟨#[e b]⟩ row d = innerG a b row d := by
  unfold WC2.innerP innerG
  rw [sy_len]
  refine foldl_same (fun i hi c => ?_) _
  obtain ⟨h0, h1⟩ := range_mem hi
  unfold WC2.innerStep innerSG
  rw [item_sy h0 h1, cost_sy h hb (getD_lt ha _)]
noncomputable def outG (a b : List Nat) (mx : Int) : Nat → Int → List Int → Int → Int
  | 0, _, _, res => res
  | n + 1, j, row, _ => if mx < (innerG a (b.getD j.toNat 0) row (j * 2)).mn then mx + 1 else outG a b mx n (j + 1) (innerG a (b.getD j.toNat 0) row (j * 2)).row (innerG a (b.getD j.toNat 0) row (j * 2)).res
theorem out_sy {e : Nat → Nat} (h : Enc e) {a b : List Nat} (ha : Le a) (hb : Le b) (mx : Int) : ∀ (n : Nat) (j : Int) (row : List Int) (res : Int), 0 ≤ j → j + n ≤ b.length → WC2.outF (Sy e a) (Sy e b) mx n j row res = outG a b mx n j row res := by
  intro n
  induction n with
  | zero => intro j row res _ _; rfl
  | succ n ih =>
    intro j row res h0 h1
    rw [WC2.outF, outG, item_sy h0 (by omega), inner_sy h ha (getD_lt hb _), ih _ _ _ (by omega) (by omega)]
noncomputable def tailG (a b : List Nat) (mx : Int) : Int := if mx < ((b.length : Int) - a.length) * 2 then mx + 1 else outG a b mx b.length 0 (rangeInts 2 2 a.length) 0
noncomputable def midG (a b : List Nat) (mx : Int) : Int := if a.length = 0 ∨ b.length = 0 then 2 * ((a.length : Int) + b.length) else tailG (if b.length < a.length then b else a) (if b.length < a.length then a else b) mx
noncomputable def levQG (a b : List Nat) (mx : Int) : Int := midG (cutG a (postG a.length a b 0)) (cutG b (postG a.length a b 0)) mx
noncomputable def levG (x y : List Nat) (mx : Int) : Int := if x = y then 0 else levQG (x.drop (preG x.length x y 0).toNat) (y.drop (preG x.length x y 0).toNat) mx
theorem le_drop {l : List Nat} (h : Le l) (n : Nat) : Le (l.drop n) := fun s hs => h s (List.mem_of_mem_drop hs)
theorem le_cut {l : List Nat} (h : Le l) (k : Int) : Le (cutG l k) := by
  unfold cutG
  split
  · exact h
  · exact fun s hs => h s (List.mem_of_mem_take hs)
theorem tail_sy {e : Nat → Nat} (h : Enc e) {a b : List Nat} (ha : Le a) (hb : Le b) (mx : Int) : WC2.tailP (Sy e a) (Sy e b) mx = tailG a b mx := by
  unfold WC2.tailP tailG
  rw [sy_len, sy_len, out_sy h ha hb mx _ _ _ _ (by omega) (by omega)]
theorem mid_sy {e : Nat → Nat} (h : Enc e) {a b : List Nat} (ha : Le a) (hb : Le b) (mx : Int) : WC2.midP (Sy e a) (Sy e b) mx = midG a b mx := by
  unfold WC2.midP midG
  rw [sy_len, sy_len]
  split
  · rfl
  · by_cases q : b.length < a.length
    · simp only [if_pos q]; exact tail_sy h hb ha mx
    · simp only [if_neg q]; exact tail_sy h ha hb mx
theorem map_inj {e : Nat → Nat} (h : Enc e) : ∀ {x y : List Nat}, Le x → Le y → x.map e = y.map e → x = y
  | [], [], _, _, _ => rfl
  | [], _ :: _, _, _, q => nomatch q
  | _ :: _, [], _, _, q => nomatch q
  | a :: x, b :: y, hx, hy, q => by
    rw [List.map_cons, List.map_cons] at q
    obtain ⟨q1, q2⟩ := List.cons.inj q
    rw [h.inj a (hx a List.mem_cons_self) b (hy b List.mem_cons_self) q1, map_inj h (fun s hs => hx s (List.mem_cons_of_mem _ hs)) (fun s hs => hy s (List.mem_cons_of_mem _ hs)) q2]
theorem sy_eq {e : Nat → Nat} (h : Enc e) {x y : List Nat} (hx : Le x) (hy : Le y) : ((Sy e x == Sy e y) = true) ↔ x = y := by
  rw [beq_iff_eq]
  constructor
  · intro q
    have q2 := congrArg (fun s : Str => s.cps.toList) q
    exact map_inj h hx hy (by simpa [Sy] using q2)
  · intro q; rw [q]
theorem lev_sy {e : Nat → Nat} (h : Enc e) {x y : List Nat} (hx : Le x) (hy : Le y) (mx : Int) : WC2.levP (Sy e x) (Sy e y) mx = levG x y mx := by
  unfold WC2.levP levG
  have hp : WC2.preP (Sy e x) (Sy e y) = preG x.length x y 0 := by
    unfold WC2.preP
    rw [sy_len]; exact pre_sy h hx hy _ _ (by omega)
  rw [hp, slice_from (preG_nn x y _ _ (by omega)), slice_from (preG_nn x y _ _ (by omega))]
  have hx2 := le_drop hx (preG x.length x y 0).toNat
  have hy2 := le_drop hy (preG x.length x y 0).toNat
  generalize x.drop (preG x.length x y 0).toNat = a at hx2
  generalize y.drop (preG x.length x y 0).toNat = b at hy2
  by_cases q : x = y
  · rw [if_pos ((sy_eq h hx hy).mpr q), if_pos q]
  · rw [if_neg (fun p => q ((sy_eq h hx hy).mp p)), if_neg q]
    unfold WC2.levQ levQG
    have hq : WC2.postP (Sy e a) (Sy e b) = postG a.length a b 0 := by
      unfold WC2.postP
      rw [sy_len, show ((a.length : Int) + 0).toNat = a.length by omega]
      exact post_sy h hx2 hy2 _ _ (by omega)
    rw [hq, cut_sy (postG_np a b _ _ (by omega)), cut_sy (postG_np a b _ _ (by omega))]
    exact mid_sy h (le_cut hx2 _) (le_cut hy2 _) mx
end WQ1
namespace WQ3
open WC2
open WC1
open WC5
open WC6a
open WC7
open WC8
open WPa
open WQ1
theorem freshWQ3 : True := by w_top off; trivial
noncomputable def symR (n : Nat) (row least : List Int) : List Nat := (List.range n).map fun i => if least.getD i 0 < row.getD i 0 then 2 * i + 1 else 2 * i
noncomputable def okPair (n : Nat) (r1 r2 least : List Int) (d : Int) : Bool :=
  decide (0 ≤ d) && decide (d ≤ 1000) && decide (levG (symR n r1 least) (symR n r2 least) d = d) && decide (levG (symR n r2 least) (symR n r1 least) (d.fdiv 2) = if d.fdiv 2 + 1 < d then d.fdiv 2 + 1 else d)
noncomputable def okRounds (cov : List Int) (n : Nat) (rows : List (List Int)) (least : List Int) (row : List Int) (o : Option (List (Int × Int))) : Bool :=
  o.any fun out => (out.map (·.1)).isPerm cov && (List.range cov.length).all fun k => okPair n row (rows.getD k []) least (kdfLook out (cov.getD k 0) 0)
noncomputable def okPick (cov sp : List Int) (rows : List (List Int)) (least : List Int) (p : Nat) : Bool :=
  okRounds cov sp.length rows least (rows.getD p []) (rF 20 (sp.map sqF) [(cov.getD p 0, 0)] [cov.getD p 0])
noncomputable def okTop (cov sp : List Int) : Bool :=
  decide (cov ≠ []) && decide (cov.length ≤ 11) && cov.all (fun c => decide (0 ≤ c) && decide (c < 2 ^ 24)) && decide (sp.length ≤ 6)
noncomputable def okHead (C : List Int) : Bool := okTop (covF 13 C) (spotsP C)
noncomputable def okPickC (C : List Int) (p : Nat) : Bool := okPick (covF 13 C) (spotsP C) (rowsP C (spotsP C) (covF 13 C)) (leastP (rowsP C (spotsP C) (covF 13 C)) (spotsP C).length) p
noncomputable def okField (C : List Int) : Bool := okHead C && (List.range (covF 13 C).length).all fun p => okPickC C p
theorem okField_of {C : List Int} {m : Nat} (h : okHead C = true) (hm : (covF 13 C).length = m) (hp : ∀ p < m, okPickC C p = true) : okField C = true := by
  unfold okField
  rw [h, hm, Bool.true_and, List.all_eq_true]
  exact fun p hq => hp p (List.mem_range.mp hq)

noncomputable def fieldsL : List (List Int) := [[0, 1, 2, 3, 4, 5, 6, 7, 8, 9, 10, 11],
  [0, 1, 2, 3, 4, 5, 6, 7, 8, 9],
  [0, 1, 2, 3, 4, 5, 6, 7, 8, 11],
  [0, 1, 2, 3, 4, 5, 6, 7, 9, 10],
  [0, 1, 2, 3, 4, 5, 6, 7, 10, 11],
  [0, 1, 2, 3, 4, 5, 7, 8, 9, 10],
  [0, 1, 2, 3, 4, 5, 7, 8, 10, 11],
  [0, 1, 2, 3, 4, 5, 7, 10],
  [0, 1, 2, 3, 4, 5, 6, 9, 10, 11],
  [0, 1, 2, 3, 4, 5, 6, 9],
  [0, 1, 2, 3, 4, 5, 8, 9, 10, 11],
  [0, 1, 2, 3, 4, 5, 8, 11],
  [0, 1, 2, 3, 4, 6, 7, 9, 10, 11],
  [0, 1, 2, 3, 4, 6, 7, 9],
  [0, 1, 2, 3, 4, 7, 8, 9, 10, 11],
  [0, 1, 2, 3, 4, 7, 8, 11],
  [0, 1, 2, 3, 4, 7, 9, 10],
  [0, 1, 2, 3, 4, 7, 10, 11],
  [0, 1, 2, 4, 5, 6, 7, 9, 10, 11],
  [0, 1, 2, 4, 5, 6, 7, 9],
  [0, 1, 2, 4, 5, 7, 8, 9, 10, 11],
  [0, 1, 2, 4, 5, 7, 8, 11],
  [0, 1, 2, 4, 5, 7, 9, 10],
  [0, 1, 2, 4, 5, 7, 10, 11],
  [0, 1, 2, 3, 6, 7, 8, 9, 10, 11],
  [0, 1, 2, 3, 6, 7, 8, 9],
  [0, 1, 2, 3, 6, 7, 8, 11],
  [0, 1, 2, 3, 6, 7, 9, 10],
  [0, 1, 2, 3, 6, 7, 10, 11],
  [0, 1, 2, 3, 6, 9, 10, 11],
  [0, 1, 2, 3, 6, 9],
  [0, 1, 2, 5, 6, 7, 8, 9, 10, 11],
  [0, 1, 2, 5, 6, 7, 8, 9],
  [0, 1, 2, 5, 6, 7, 8, 11],
  [0, 1, 2, 5, 7, 8, 9, 10],
  [0, 1, 2, 5, 7, 8, 10, 11],
  [0, 1, 2, 5, 8, 9, 10, 11],
  [0, 1, 2, 5, 8, 11],
  [0, 1, 3, 4, 5, 6, 7, 8, 9, 10],
  [0, 1, 3, 4, 5, 6, 7, 8, 10, 11],
  [0, 1, 3, 4, 5, 6, 7, 10],
  [0, 1, 3, 4, 5, 7, 8, 10],
  [0, 1, 3, 4, 5, 6, 9, 10],
  [0, 1, 3, 4, 5, 8, 10, 11],
  [0, 1, 3, 4, 6, 7, 8, 9, 10, 11],
  [0, 1, 3, 4, 6, 7, 8, 9],
  [0, 1, 3, 4, 6, 7, 8, 11],
  [0, 1, 3, 4, 6, 7, 9, 10],
  [0, 1, 3, 4, 6, 7, 10, 11],
  [0, 1, 3, 4, 7, 8, 9, 10],
  [0, 1, 3, 4, 7, 8, 10, 11],
  [0, 1, 3, 4, 7, 10],
  [0, 1, 3, 4, 6, 9, 10, 11],
  [0, 1, 3, 4, 6, 9],
  [0, 1, 4, 5, 6, 7, 8, 9, 10, 11],
  [0, 1, 4, 5, 6, 7, 8, 9],
  [0, 1, 4, 5, 6, 7, 8, 11],
  [0, 1, 4, 5, 6, 7, 9, 10],
  [0, 1, 4, 5, 6, 7, 10, 11],
  [0, 1, 4, 5, 7, 8, 9, 10],
  [0, 1, 4, 5, 7, 8, 10, 11],
  [0, 1, 4, 5, 7, 10],
  [0, 1, 4, 5, 8, 9, 10, 11],
  [0, 1, 4, 5, 8, 11],
  [0, 1, 4, 6, 7, 9, 10, 11],
  [0, 1, 4, 6, 7, 9],
  [0, 1, 4, 7, 8, 9, 10, 11],
  [0, 1, 4, 7, 8, 11],
  [0, 1, 4, 7, 9, 10],
  [0, 1, 4, 7, 10, 11],
  [0, 1, 3, 6, 7, 8, 9, 10],
  [0, 1, 3, 6, 7, 8, 10, 11],
  [0, 1, 3, 6, 7, 10],
  [0, 1, 3, 6, 9, 10],
  [1, 2, 3, 4, 5, 6, 7, 8, 9, 10],
  [1, 2, 3, 4, 5, 6, 7, 8, 10, 11],
  [1, 2, 3, 4, 5, 6, 7, 10],
  [1, 2, 3, 4, 5, 7, 8, 10],
  [1, 2, 3, 4, 5, 6, 9, 10],
  [1, 2, 3, 4, 5, 8, 10, 11],
  [1, 2, 3, 4, 6, 7, 8, 9, 10, 11],
  [1, 2, 3, 4, 6, 7, 8, 9],
  [1, 2, 3, 4, 6, 7, 8, 11],
  [1, 2, 3, 4, 6, 7, 9, 10],
  [1, 2, 3, 4, 6, 7, 10, 11],
  [1, 2, 3, 4, 7, 8, 9, 10],
  [1, 2, 3, 4, 7, 8, 10, 11],
  [1, 2, 3, 4, 7, 10],
  [1, 2, 3, 4, 6, 9, 10, 11],
  [1, 2, 3, 4, 6, 9],
  [1, 2, 4, 5, 6, 7, 8, 9, 10, 11],
  [1, 2, 4, 5, 6, 7, 8, 9],
  [1, 2, 4, 5, 6, 7, 8, 11],
  [1, 2, 4, 5, 6, 7, 9, 10],
  [1, 2, 4, 5, 6, 7, 10, 11],
  [1, 2, 4, 5, 7, 8, 9, 10],
  [1, 2, 4, 5, 7, 8, 10, 11],
  [1, 2, 4, 5, 7, 10],
  [1, 2, 4, 5, 8, 9, 10, 11],
  [1, 2, 4, 5, 8, 11],
  [1, 2, 4, 6, 7, 9, 10, 11],
  [1, 2, 4, 6, 7, 9],
  [1, 2, 4, 7, 8, 9, 10, 11],
  [1, 2, 4, 7, 8, 11],
  [1, 2, 4, 7, 9, 10],
  [1, 2, 4, 7, 10, 11],
  [1, 2, 5, 6, 7, 8, 9, 10],
  [1, 2, 5, 6, 7, 8, 10, 11],
  [1, 2, 5, 7, 8, 10],
  [1, 2, 5, 8, 10, 11],
  [1, 3, 4, 5, 6, 7, 8, 10],
  [1, 3, 4, 6, 7, 8, 9, 10],
  [1, 3, 4, 6, 7, 8, 10, 11],
  [1, 3, 4, 6, 7, 10],
  [1, 3, 4, 6, 9, 10],
  [1, 4, 5, 6, 7, 8, 9, 10],
  [1, 4, 5, 6, 7, 8, 10, 11],
  [1, 4, 5, 7, 8, 10],
  [1, 4, 5, 8, 10, 11],
  [1, 4, 6, 7, 8, 9, 10, 11],
  [1, 4, 6, 7, 8, 9],
  [1, 4, 6, 7, 8, 11],
  [1, 4, 6, 7, 9, 10],
  [1, 4, 6, 7, 10, 11],
  [1, 4, 7, 8, 9, 10],
  [1, 4, 7, 8, 10, 11],
  [1, 4, 7, 10],
  [0, 3, 4, 5, 6, 7, 8, 9, 10, 11],
  [0, 3, 4, 5, 6, 7, 8, 9],
  [0, 3, 4, 5, 6, 7, 8, 11],
  [0, 3, 4, 5, 6, 7, 9, 10],
  [0, 3, 4, 5, 6, 7, 10, 11],
  [0, 3, 4, 5, 7, 8, 9, 10],
  [0, 3, 4, 5, 7, 8, 10, 11],
  [0, 3, 4, 5, 7, 10],
  [0, 3, 4, 5, 6, 9, 10, 11],
  [0, 3, 4, 5, 6, 9],
  [0, 3, 4, 5, 8, 9, 10, 11],
  [0, 3, 4, 5, 8, 11],
  [0, 3, 4, 6, 7, 9, 10, 11],
  [0, 3, 4, 6, 7, 9],
  [0, 3, 4, 7, 8, 9, 10, 11],
  [0, 3, 4, 7, 8, 11],
  [0, 3, 4, 7, 9, 10],
  [0, 3, 4, 7, 10, 11],
  [0, 3, 6, 7, 8, 9, 10, 11],
  [0, 3, 6, 7, 8, 9],
  [0, 3, 6, 7, 8, 11],
  [0, 3, 6, 7, 9, 10],
  [0, 3, 6, 7, 10, 11],
  [0, 3, 6, 9, 10, 11],
  [0, 3, 6, 9],
  [2, 3, 4, 5, 6, 7, 8, 9, 10, 11],
  [2, 3, 4, 5, 6, 7, 8, 9],
  [2, 3, 4, 5, 6, 7, 8, 11],
  [2, 3, 4, 5, 6, 7, 9, 10],
  [2, 3, 4, 5, 6, 7, 10, 11],
  [2, 3, 4, 5, 7, 8, 9, 10],
  [2, 3, 4, 5, 7, 8, 10, 11],
  [2, 3, 4, 5, 7, 10],
  [2, 3, 4, 5, 6, 9, 10, 11],
  [2, 3, 4, 5, 6, 9],
  [2, 3, 4, 5, 8, 9, 10, 11],
  [2, 3, 4, 5, 8, 11],
  [2, 4, 5, 6, 7, 9, 10, 11],
  [2, 4, 5, 6, 7, 9],
  [2, 4, 5, 7, 8, 9, 10, 11],
  [2, 4, 5, 7, 8, 11],
  [2, 4, 5, 7, 9, 10],
  [2, 4, 5, 7, 10, 11],
  [2, 5, 6, 7, 8, 9, 10, 11],
  [2, 5, 6, 7, 8, 9],
  [2, 5, 6, 7, 8, 11],
  [2, 5, 7, 8, 9, 10],
  [2, 5, 7, 8, 10, 11],
  [2, 5, 8, 9, 10, 11],
  [2, 5, 8, 11]]
theorem fld_0 : okField [0, 1, 2, 3, 4, 5, 6, 7, 8, 9, 10, 11] = true := by decide +kernel
theorem fld_1 : okField [0, 1, 2, 3, 4, 5, 6, 7, 8, 9] = true := by decide +kernel
theorem fld_2 : okField [0, 1, 2, 3, 4, 5, 6, 7, 8, 11] = true := by decide +kernel
theorem fld_3 : okField [0, 1, 2, 3, 4, 5, 6, 7, 9, 10] = true := by decide +kernel
theorem fld_4 : okField [0, 1, 2, 3, 4, 5, 6, 7, 10, 11] = true := by decide +kernel
theorem fld_5 : okField [0, 1, 2, 3, 4, 5, 7, 8, 9, 10] = true := by decide +kernel
theorem fld_6 : okField [0, 1, 2, 3, 4, 5, 7, 8, 10, 11] = true := by decide +kernel
theorem fld_7 : okField [0, 1, 2, 3, 4, 5, 7, 10] = true := by decide +kernel
theorem fld_8 : okField [0, 1, 2, 3, 4, 5, 6, 9, 10, 11] = true := by decide +kernel
theorem fld_9 : okField [0, 1, 2, 3, 4, 5, 6, 9] = true := by decide +kernel
theorem fld_10 : okField [0, 1, 2, 3, 4, 5, 8, 9, 10, 11] = true := by decide +kernel
theorem fld_11 : okField [0, 1, 2, 3, 4, 5, 8, 11] = true := by decide +kernel
theorem fld_12 : okField [0, 1, 2, 3, 4, 6, 7, 9, 10, 11] = true := by decide +kernel
theorem fld_13 : okField [0, 1, 2, 3, 4, 6, 7, 9] = true := by decide +kernel
theorem fld_14 : okField [0, 1, 2, 3, 4, 7, 8, 9, 10, 11] = true := by decide +kernel
theorem fld_15 : okField [0, 1, 2, 3, 4, 7, 8, 11] = true := by decide +kernel
theorem fld_16 : okField [0, 1, 2, 3, 4, 7, 9, 10] = true := by decide +kernel
theorem fld_17 : okField [0, 1, 2, 3, 4, 7, 10, 11] = true := by decide +kernel
theorem fld_18 : okField [0, 1, 2, 4, 5, 6, 7, 9, 10, 11] = true := by decide +kernel
theorem fld_19 : okField [0, 1, 2, 4, 5, 6, 7, 9] = true := by decide +kernel
theorem fld_20 : okField [0, 1, 2, 4, 5, 7, 8, 9, 10, 11] = true := by decide +kernel
theorem fld_21 : okField [0, 1, 2, 4, 5, 7, 8, 11] = true := by decide +kernel
theorem fld_22 : okField [0, 1, 2, 4, 5, 7, 9, 10] = true := by decide +kernel
theorem fld_23 : okField [0, 1, 2, 4, 5, 7, 10, 11] = true := by decide +kernel
theorem fld_24 : okField [0, 1, 2, 3, 6, 7, 8, 9, 10, 11] = true := by decide +kernel
theorem fld_25 : okField [0, 1, 2, 3, 6, 7, 8, 9] = true := by decide +kernel
theorem fld_26 : okField [0, 1, 2, 3, 6, 7, 8, 11] = true := by decide +kernel
theorem fld_27 : okField [0, 1, 2, 3, 6, 7, 9, 10] = true := by decide +kernel
theorem fld_28 : okField [0, 1, 2, 3, 6, 7, 10, 11] = true := by decide +kernel
theorem fld_29 : okField [0, 1, 2, 3, 6, 9, 10, 11] = true := by decide +kernel
theorem fld_30 : okField [0, 1, 2, 3, 6, 9] = true := by decide +kernel
theorem fld_31 : okField [0, 1, 2, 5, 6, 7, 8, 9, 10, 11] = true := by decide +kernel
theorem fld_32 : okField [0, 1, 2, 5, 6, 7, 8, 9] = true := by decide +kernel
theorem fld_33 : okField [0, 1, 2, 5, 6, 7, 8, 11] = true := by decide +kernel
theorem fld_34 : okField [0, 1, 2, 5, 7, 8, 9, 10] = true := by decide +kernel
theorem fld_35 : okField [0, 1, 2, 5, 7, 8, 10, 11] = true := by decide +kernel
theorem fld_36 : okField [0, 1, 2, 5, 8, 9, 10, 11] = true := by decide +kernel
theorem fld_37 : okField [0, 1, 2, 5, 8, 11] = true := by decide +kernel
theorem fld_38 : okField [0, 1, 3, 4, 5, 6, 7, 8, 9, 10] = true := by decide +kernel
theorem fld_39 : okField [0, 1, 3, 4, 5, 6, 7, 8, 10, 11] = true := by decide +kernel
theorem fld_40 : okField [0, 1, 3, 4, 5, 6, 7, 10] = true := by decide +kernel
theorem fld_41 : okField [0, 1, 3, 4, 5, 7, 8, 10] = true := by decide +kernel
theorem fld_42 : okField [0, 1, 3, 4, 5, 6, 9, 10] = true := by decide +kernel
theorem fld_43 : okField [0, 1, 3, 4, 5, 8, 10, 11] = true := by decide +kernel
theorem fld_44 : okField [0, 1, 3, 4, 6, 7, 8, 9, 10, 11] = true := by decide +kernel
theorem fld_45 : okField [0, 1, 3, 4, 6, 7, 8, 9] = true := by decide +kernel
theorem fld_46 : okField [0, 1, 3, 4, 6, 7, 8, 11] = true := by decide +kernel
theorem fld_47 : okField [0, 1, 3, 4, 6, 7, 9, 10] = true := by decide +kernel
theorem fld_48 : okField [0, 1, 3, 4, 6, 7, 10, 11] = true := by decide +kernel
theorem fld_49 : okField [0, 1, 3, 4, 7, 8, 9, 10] = true := by decide +kernel
theorem fld_50 : okField [0, 1, 3, 4, 7, 8, 10, 11] = true := by decide +kernel
theorem fld_51 : okField [0, 1, 3, 4, 7, 10] = true := by decide +kernel
theorem fld_52 : okField [0, 1, 3, 4, 6, 9, 10, 11] = true := by decide +kernel
theorem fld_53 : okField [0, 1, 3, 4, 6, 9] = true := by decide +kernel
theorem fld_54 : okField [0, 1, 4, 5, 6, 7, 8, 9, 10, 11] = true := by decide +kernel
theorem fld_55 : okField [0, 1, 4, 5, 6, 7, 8, 9] = true := by decide +kernel
theorem fld_56 : okField [0, 1, 4, 5, 6, 7, 8, 11] = true := by decide +kernel
theorem fld_57 : okField [0, 1, 4, 5, 6, 7, 9, 10] = true := by decide +kernel
theorem fld_58 : okField [0, 1, 4, 5, 6, 7, 10, 11] = true := by decide +kernel
theorem fld_59 : okField [0, 1, 4, 5, 7, 8, 9, 10] = true := by decide +kernel
theorem fld_60 : okField [0, 1, 4, 5, 7, 8, 10, 11] = true := by decide +kernel
theorem fld_61 : okField [0, 1, 4, 5, 7, 10] = true := by decide +kernel
theorem fld_62 : okField [0, 1, 4, 5, 8, 9, 10, 11] = true := by decide +kernel
theorem fld_63 : okField [0, 1, 4, 5, 8, 11] = true := by decide +kernel
theorem fld_64 : okField [0, 1, 4, 6, 7, 9, 10, 11] = true := by decide +kernel
theorem fld_65 : okField [0, 1, 4, 6, 7, 9] = true := by decide +kernel
theorem fld_66 : okField [0, 1, 4, 7, 8, 9, 10, 11] = true := by decide +kernel
theorem fld_67 : okField [0, 1, 4, 7, 8, 11] = true := by decide +kernel
theorem fld_68 : okField [0, 1, 4, 7, 9, 10] = true := by decide +kernel
theorem fld_69 : okField [0, 1, 4, 7, 10, 11] = true := by decide +kernel
theorem fld_70 : okField [0, 1, 3, 6, 7, 8, 9, 10] = true := by decide +kernel
theorem fld_71 : okField [0, 1, 3, 6, 7, 8, 10, 11] = true := by decide +kernel
theorem fld_72 : okField [0, 1, 3, 6, 7, 10] = true := by decide +kernel
theorem fld_73 : okField [0, 1, 3, 6, 9, 10] = true := by decide +kernel
theorem fld_74 : okField [1, 2, 3, 4, 5, 6, 7, 8, 9, 10] = true := by decide +kernel
theorem fld_75 : okField [1, 2, 3, 4, 5, 6, 7, 8, 10, 11] = true := by decide +kernel
theorem fld_76 : okField [1, 2, 3, 4, 5, 6, 7, 10] = true := by decide +kernel
theorem fld_77 : okField [1, 2, 3, 4, 5, 7, 8, 10] = true := by decide +kernel
theorem fld_78 : okField [1, 2, 3, 4, 5, 6, 9, 10] = true := by decide +kernel
theorem fld_79 : okField [1, 2, 3, 4, 5, 8, 10, 11] = true := by decide +kernel
theorem fld_80 : okField [1, 2, 3, 4, 6, 7, 8, 9, 10, 11] = true := by decide +kernel
theorem fld_81 : okField [1, 2, 3, 4, 6, 7, 8, 9] = true := by decide +kernel
theorem fld_82 : okField [1, 2, 3, 4, 6, 7, 8, 11] = true := by decide +kernel
theorem fld_83 : okField [1, 2, 3, 4, 6, 7, 9, 10] = true := by decide +kernel
theorem fld_84 : okField [1, 2, 3, 4, 6, 7, 10, 11] = true := by decide +kernel
theorem fld_85 : okField [1, 2, 3, 4, 7, 8, 9, 10] = true := by decide +kernel
theorem fld_86 : okField [1, 2, 3, 4, 7, 8, 10, 11] = true := by decide +kernel
theorem fld_87 : okField [1, 2, 3, 4, 7, 10] = true := by decide +kernel
theorem fld_88 : okField [1, 2, 3, 4, 6, 9, 10, 11] = true := by decide +kernel
theorem fld_89 : okField [1, 2, 3, 4, 6, 9] = true := by decide +kernel
theorem fld_90 : okField [1, 2, 4, 5, 6, 7, 8, 9, 10, 11] = true := by decide +kernel
theorem fld_91 : okField [1, 2, 4, 5, 6, 7, 8, 9] = true := by decide +kernel
theorem fld_92 : okField [1, 2, 4, 5, 6, 7, 8, 11] = true := by decide +kernel
theorem fld_93 : okField [1, 2, 4, 5, 6, 7, 9, 10] = true := by decide +kernel
theorem fld_94 : okField [1, 2, 4, 5, 6, 7, 10, 11] = true := by decide +kernel
theorem fld_95 : okField [1, 2, 4, 5, 7, 8, 9, 10] = true := by decide +kernel
theorem fld_96 : okField [1, 2, 4, 5, 7, 8, 10, 11] = true := by decide +kernel
theorem fld_97 : okField [1, 2, 4, 5, 7, 10] = true := by decide +kernel
theorem fld_98 : okField [1, 2, 4, 5, 8, 9, 10, 11] = true := by decide +kernel
theorem fld_99 : okField [1, 2, 4, 5, 8, 11] = true := by decide +kernel
theorem fld_100 : okField [1, 2, 4, 6, 7, 9, 10, 11] = true := by decide +kernel
theorem fld_101 : okField [1, 2, 4, 6, 7, 9] = true := by decide +kernel
theorem fld_102 : okField [1, 2, 4, 7, 8, 9, 10, 11] = true := by decide +kernel
theorem fld_103 : okField [1, 2, 4, 7, 8, 11] = true := by decide +kernel
theorem fld_104 : okField [1, 2, 4, 7, 9, 10] = true := by decide +kernel
theorem fld_105 : okField [1, 2, 4, 7, 10, 11] = true := by decide +kernel
theorem fld_106 : okField [1, 2, 5, 6, 7, 8, 9, 10] = true := by decide +kernel
theorem fld_107 : okField [1, 2, 5, 6, 7, 8, 10, 11] = true := by decide +kernel
theorem fld_108 : okField [1, 2, 5, 7, 8, 10] = true := by decide +kernel
theorem fld_109 : okField [1, 2, 5, 8, 10, 11] = true := by decide +kernel
theorem fld_110 : okField [1, 3, 4, 5, 6, 7, 8, 10] = true := by decide +kernel
theorem fld_111 : okField [1, 3, 4, 6, 7, 8, 9, 10] = true := by decide +kernel
theorem fld_112 : okField [1, 3, 4, 6, 7, 8, 10, 11] = true := by decide +kernel
theorem fld_113 : okField [1, 3, 4, 6, 7, 10] = true := by decide +kernel
theorem fld_114 : okField [1, 3, 4, 6, 9, 10] = true := by decide +kernel
theorem fld_115 : okField [1, 4, 5, 6, 7, 8, 9, 10] = true := by decide +kernel
theorem fld_116 : okField [1, 4, 5, 6, 7, 8, 10, 11] = true := by decide +kernel
theorem fld_117 : okField [1, 4, 5, 7, 8, 10] = true := by decide +kernel
theorem fld_118 : okField [1, 4, 5, 8, 10, 11] = true := by decide +kernel
theorem fld_119 : okField [1, 4, 6, 7, 8, 9, 10, 11] = true := by decide +kernel
theorem fld_120 : okField [1, 4, 6, 7, 8, 9] = true := by decide +kernel
theorem fld_121 : okField [1, 4, 6, 7, 8, 11] = true := by decide +kernel
theorem fld_122 : okField [1, 4, 6, 7, 9, 10] = true := by decide +kernel
theorem fld_123 : okField [1, 4, 6, 7, 10, 11] = true := by decide +kernel
theorem fld_124 : okField [1, 4, 7, 8, 9, 10] = true := by decide +kernel
theorem fld_125 : okField [1, 4, 7, 8, 10, 11] = true := by decide +kernel
theorem fld_126 : okField [1, 4, 7, 10] = true := by decide +kernel
theorem fld_127 : okField [0, 3, 4, 5, 6, 7, 8, 9, 10, 11] = true := by decide +kernel
theorem fld_128 : okField [0, 3, 4, 5, 6, 7, 8, 9] = true := by decide +kernel
theorem fld_129 : okField [0, 3, 4, 5, 6, 7, 8, 11] = true := by decide +kernel
theorem fld_130 : okField [0, 3, 4, 5, 6, 7, 9, 10] = true := by decide +kernel
theorem fld_131 : okField [0, 3, 4, 5, 6, 7, 10, 11] = true := by decide +kernel
theorem fld_132 : okField [0, 3, 4, 5, 7, 8, 9, 10] = true := by decide +kernel
theorem fld_133 : okField [0, 3, 4, 5, 7, 8, 10, 11] = true := by decide +kernel
theorem fld_134 : okField [0, 3, 4, 5, 7, 10] = true := by decide +kernel
theorem fld_135 : okField [0, 3, 4, 5, 6, 9, 10, 11] = true := by decide +kernel
theorem fld_136 : okField [0, 3, 4, 5, 6, 9] = true := by decide +kernel
theorem fld_137 : okField [0, 3, 4, 5, 8, 9, 10, 11] = true := by decide +kernel
theorem fld_138 : okField [0, 3, 4, 5, 8, 11] = true := by decide +kernel
theorem fld_139 : okField [0, 3, 4, 6, 7, 9, 10, 11] = true := by decide +kernel
theorem fld_140 : okField [0, 3, 4, 6, 7, 9] = true := by decide +kernel
theorem fld_141 : okField [0, 3, 4, 7, 8, 9, 10, 11] = true := by decide +kernel
theorem fld_142 : okField [0, 3, 4, 7, 8, 11] = true := by decide +kernel
theorem fld_143 : okField [0, 3, 4, 7, 9, 10] = true := by decide +kernel
theorem fld_144 : okField [0, 3, 4, 7, 10, 11] = true := by decide +kernel
theorem fld_145 : okField [0, 3, 6, 7, 8, 9, 10, 11] = true := by decide +kernel
theorem fld_146 : okField [0, 3, 6, 7, 8, 9] = true := by decide +kernel
theorem fld_147 : okField [0, 3, 6, 7, 8, 11] = true := by decide +kernel
theorem fld_148 : okField [0, 3, 6, 7, 9, 10] = true := by decide +kernel
theorem fld_149 : okField [0, 3, 6, 7, 10, 11] = true := by decide +kernel
theorem fld_150 : okField [0, 3, 6, 9, 10, 11] = true := by decide +kernel
theorem fld_151 : okField [0, 3, 6, 9] = true := by decide +kernel
theorem fld_152 : okField [2, 3, 4, 5, 6, 7, 8, 9, 10, 11] = true := by decide +kernel
theorem fld_153 : okField [2, 3, 4, 5, 6, 7, 8, 9] = true := by decide +kernel
theorem fld_154 : okField [2, 3, 4, 5, 6, 7, 8, 11] = true := by decide +kernel
theorem fld_155 : okField [2, 3, 4, 5, 6, 7, 9, 10] = true := by decide +kernel
theorem fld_156 : okField [2, 3, 4, 5, 6, 7, 10, 11] = true := by decide +kernel
theorem fld_157 : okField [2, 3, 4, 5, 7, 8, 9, 10] = true := by decide +kernel
theorem fld_158 : okField [2, 3, 4, 5, 7, 8, 10, 11] = true := by decide +kernel
theorem fld_159 : okField [2, 3, 4, 5, 7, 10] = true := by decide +kernel
theorem fld_160 : okField [2, 3, 4, 5, 6, 9, 10, 11] = true := by decide +kernel
theorem fld_161 : okField [2, 3, 4, 5, 6, 9] = true := by decide +kernel
theorem fld_162 : okField [2, 3, 4, 5, 8, 9, 10, 11] = true := by decide +kernel
theorem fld_163 : okField [2, 3, 4, 5, 8, 11] = true := by decide +kernel
theorem fld_164 : okField [2, 4, 5, 6, 7, 9, 10, 11] = true := by decide +kernel
theorem fld_165 : okField [2, 4, 5, 6, 7, 9] = true := by decide +kernel
theorem fld_166 : okField [2, 4, 5, 7, 8, 9, 10, 11] = true := by decide +kernel
theorem fld_167 : okField [2, 4, 5, 7, 8, 11] = true := by decide +kernel
theorem fld_168 : okField [2, 4, 5, 7, 9, 10] = true := by decide +kernel
theorem fld_169 : okField [2, 4, 5, 7, 10, 11] = true := by decide +kernel
theorem fld_170 : okField [2, 5, 6, 7, 8, 9, 10, 11] = true := by decide +kernel
theorem fld_171 : okField [2, 5, 6, 7, 8, 9] = true := by decide +kernel
theorem fld_172 : okField [2, 5, 6, 7, 8, 11] = true := by decide +kernel
theorem fld_173 : okField [2, 5, 7, 8, 9, 10] = true := by decide +kernel
theorem fld_174 : okField [2, 5, 7, 8, 10, 11] = true := by decide +kernel
theorem fld_175 : okField [2, 5, 8, 9, 10, 11] = true := by decide +kernel
theorem fld_176 : okField [2, 5, 8, 11] = true := by decide +kernel
theorem fields_ok : ∀ C ∈ fieldsL, okField C = true := 
  (fmc fld_0
  (fmc fld_1
  (fmc fld_2
  (fmc fld_3
  (fmc fld_4
  (fmc fld_5
  (fmc fld_6
  (fmc fld_7
  (fmc fld_8
  (fmc fld_9
  (fmc fld_10
  (fmc fld_11
  (fmc fld_12
  (fmc fld_13
  (fmc fld_14
  (fmc fld_15
  (fmc fld_16
  (fmc fld_17
  (fmc fld_18
  (fmc fld_19
  (fmc fld_20
  (fmc fld_21
  (fmc fld_22
  (fmc fld_23
  (fmc fld_24
  (fmc fld_25
  (fmc fld_26
  (fmc fld_27
  (fmc fld_28
  (fmc fld_29
  (fmc fld_30
  (fmc fld_31
  (fmc fld_32
  (fmc fld_33
  (fmc fld_34
  (fmc fld_35
  (fmc fld_36
  (fmc fld_37
  (fmc fld_38
  (fmc fld_39
  (fmc fld_40
  (fmc fld_41
  (fmc fld_42
  (fmc fld_43
  (fmc fld_44
  (fmc fld_45
  (fmc fld_46
  (fmc fld_47
  (fmc fld_48
  (fmc fld_49
  (fmc fld_50
  (fmc fld_51
  (fmc fld_52
  (fmc fld_53
  (fmc fld_54
  (fmc fld_55
  (fmc fld_56
  (fmc fld_57
  (fmc fld_58
  (fmc fld_59
  (fmc fld_60
  (fmc fld_61
  (fmc fld_62
  (fmc fld_63
  (fmc fld_64
  (fmc fld_65
  (fmc fld_66
  (fmc fld_67
  (fmc fld_68
  (fmc fld_69
  (fmc fld_70
  (fmc fld_71
  (fmc fld_72
  (fmc fld_73
  (fmc fld_74
  (fmc fld_75
  (fmc fld_76
  (fmc fld_77
  (fmc fld_78
  (fmc fld_79
  (fmc fld_80
  (fmc fld_81
  (fmc fld_82
  (fmc fld_83
  (fmc fld_84
  (fmc fld_85
  (fmc fld_86
  (fmc fld_87
  (fmc fld_88
  (fmc fld_89
  (fmc fld_90
  (fmc fld_91
  (fmc fld_92
  (fmc fld_93
  (fmc fld_94
  (fmc fld_95
  (fmc fld_96
  (fmc fld_97
  (fmc fld_98
  (fmc fld_99
  (fmc fld_100
  (fmc fld_101
  (fmc fld_102
  (fmc fld_103
  (fmc fld_104
  (fmc fld_105
  (fmc fld_106
  (fmc fld_107
  (fmc fld_108
  (fmc fld_109
  (fmc fld_110
  (fmc fld_111
  (fmc fld_112
  (fmc fld_113
  (fmc fld_114
  (fmc fld_115
  (fmc fld_116
  (fmc fld_117
  (fmc fld_118
  (fmc fld_119
  (fmc fld_120
  (fmc fld_121
  (fmc fld_122
  (fmc fld_123
  (fmc fld_124
  (fmc fld_125
  (fmc fld_126
  (fmc fld_127
  (fmc fld_128
  (fmc fld_129
  (fmc fld_130
  (fmc fld_131
  (fmc fld_132
  (fmc fld_133
  (fmc fld_134
  (fmc fld_135
  (fmc fld_136
  (fmc fld_137
  (fmc fld_138
  (fmc fld_139
  (fmc fld_140
  (fmc fld_141
  (fmc fld_142
  (fmc fld_143
  (fmc fld_144
  (fmc fld_145
  (fmc fld_146
  (fmc fld_147
  (fmc fld_148
  (fmc fld_149
  (fmc fld_150
  (fmc fld_151
  (fmc fld_152
  (fmc fld_153
  (fmc fld_154
  (fmc fld_155
  (fmc fld_156
  (fmc fld_157
  (fmc fld_158
  (fmc fld_159
  (fmc fld_160
  (fmc fld_161
  (fmc fld_162
  (fmc fld_163
  (fmc fld_164
  (fmc fld_165
  (fmc fld_166
  (fmc fld_167
  (fmc fld_168
  (fmc fld_169
  (fmc fld_170
  (fmc fld_171
  (fmc fld_172
  (fmc fld_173
  (fmc fld_174
  (fmc fld_175
  (fmc fld_176
  fmn)))))))))))))))))))))))))))))))))))))))))))))))))))))))))))))))))))))))))))))))))))))))))))))))))))))))))))))))))))))))))))))))))))))))))))))))))))))))))))))))))))))))))))))))))
noncomputable def cellsX (cs : List Int) : List Int := if covF 13 cs = [] then rangeKs 0 12 else cs
theorem cellsE_eq (ds : List Int) : cellsE ds = cellsX (cellsP ds) := by unfold cellsE cellsX; rfl
noncomputable def okRaw (C : List Int) : Bool := decide (C.length ≤ 12) && C.all (fun c => decide (0 ≤ c) && decide (c < 12)) && decide (cellsX C ∈ fieldsL)
noncomputable def fourCells (a b c d : Nat) : List Int := cellsP [Int.ofNat a, Int.ofNat b, Int.ofNat c, Int.ofNat d]
theorem raw_0_0 : ∀ c < 6, ∀ d < 6, okRaw (fourCells 0 0 c d) = true := by decide +kernel
theorem raw_0_1 : ∀ c < 6, ∀ d < 6, okRaw (fourCells 0 1 c d) = true := by decide +kernel
theorem raw_0_2 : ∀ c < 6, ∀ d < 6, okRaw (fourCells 0 2 c d) = true := by decide +kernel
theorem raw_0_3 : ∀ c < 6, ∀ d < 6, okRaw (fourCells 0 3 c d) = true := by decide +kernel
theorem raw_0_4 : ∀ c < 6, ∀ d < 6, okRaw (fourCells 0 4 c d) = true := by decide +kernel
theorem raw_0_5 : ∀ c < 6, ∀ d < 6, okRaw (fourCells 0 5 c d) = true := by decide +kernel
theorem raw0 : ∀ b < 6, ∀ c < 6, ∀ d < 6, okRaw (fourCells 0 b c d) = true := (lt_step (lt_step (lt_step (lt_step (lt_step (lt_step lt_zero raw_0_0) raw_0_1) raw_0_2) raw_0_3) raw_0_4) raw_0_5)
theorem raw_1_0 : ∀ c < 6, ∀ d < 6, okRaw (fourCells 1 0 c d) = true := by decide +kernel
theorem raw_1_1 : ∀ c < 6, ∀ d < 6, okRaw (fourCells 1 1 c d) = true := by decide +kernel
theorem raw_1_2 : ∀ c < 6, ∀ d < 6, okRaw (fourCells 1 2 c d) = true := by decide +kernel
theorem raw_1_3 : ∀ c < 6, ∀ d < 6, okRaw (fourCells 1 3 c d) = true := by decide +kernel
theorem raw_1_4 : ∀ c < 6, ∀ d < 6, okRaw (fourCells 1 4 c d) = true := by decide +kernel
theorem raw_1_5 : ∀ c < 6, ∀ d < 6, okRaw (fourCells 1 5 c d) = true := by decide +kernel
theorem raw1 : ∀ b < 6, ∀ c < 6, ∀ d < 6, okRaw (fourCells 1 b c d) = true := (lt_step (lt_step (lt_step (lt_step (lt_step (lt_step lt_zero raw_1_0) raw_1_1) raw_1_2) raw_1_3) raw_1_4) raw_1_5)
theorem raw_2_0 : ∀ c < 6, ∀ d < 6, okRaw (fourCells 2 0 c d) = true := by decide +kernel
theorem raw_2_1 : ∀ c < 6, ∀ d < 6, okRaw (fourCells 2 1 c d) = true := by decide +kernel
theorem raw_2_2 : ∀ c < 6, ∀ d < 6, okRaw (fourCells 2 2 c d) = true := by decide +kernel
theorem raw_2_3 : ∀ c < 6, ∀ d < 6, okRaw (fourCells 2 3 c d) = true := by decide +kernel
theorem raw_2_4 : ∀ c < 6, ∀ d < 6, okRaw (fourCells 2 4 c d) = true := by decide +kernel
theorem raw_2_5 : ∀ c < 6, ∀ d < 6, okRaw (fourCells 2 5 c d) = true := by decide +kernel
theorem raw2 : ∀ b < 6, ∀ c < 6, ∀ d < 6, okRaw (fourCells 2 b c d) = true := (lt_step (lt_step (lt_step (lt_step (lt_step (lt_step lt_zero raw_2_0) raw_2_1) raw_2_2) raw_2_3) raw_2_4) raw_2_5)
theorem raw_3_0 : ∀ c < 6, ∀ d < 6, okRaw (fourCells 3 0 c d) = true := by decide +kernel
theorem raw_3_1 : ∀ c < 6, ∀ d < 6, okRaw (fourCells 3 1 c d) = true := by decide +kernel
theorem raw_3_2 : ∀ c < 6, ∀ d < 6, okRaw (fourCells 3 2 c d) = true := by decide +kernel
theorem raw_3_3 : ∀ c < 6, ∀ d < 6, okRaw (fourCells 3 3 c d) = true := by decide +kernel
theorem raw_3_4 : ∀ c < 6, ∀ d < 6, okRaw (fourCells 3 4 c d) = true := by decide +kernel
theorem raw_3_5 : ∀ c < 6, ∀ d < 6, okRaw (fourCells 3 5 c d) = true := by decide +kernel
theorem raw3 : ∀ b < 6, ∀ c < 6, ∀ d < 6, okRaw (fourCells 3 b c d) = true := (lt_step (lt_step (lt_step (lt_step (lt_step (lt_step lt_zero raw_3_0) raw_3_1) raw_3_2) raw_3_3) raw_3_4) raw_3_5)
theorem raw_4_0 : ∀ c < 6, ∀ d < 6, okRaw (fourCells 4 0 c d) = true := by decide +kernel
theorem raw_4_1 : ∀ c < 6, ∀ d < 6, okRaw (fourCells 4 1 c d) = true := by decide +kernel
theorem raw_4_2 : ∀ c < 6, ∀ d < 6, okRaw (fourCells 4 2 c d) = true := by decide +kernel
theorem raw_4_3 : ∀ c < 6, ∀ d < 6, okRaw (fourCells 4 3 c d) = true := by decide +kernel
theorem raw_4_4 : ∀ c < 6, ∀ d < 6, okRaw (fourCells 4 4 c d) = true := by decide +kernel
theorem raw_4_5 : ∀ c < 6, ∀ d < 6, okRaw (fourCells 4 5 c d) = true := by decide +kernel
theorem raw4 : ∀ b < 6, ∀ c < 6, ∀ d < 6, okRaw (fourCells 4 b c d) = true := (lt_step (lt_step (lt_step (lt_step (lt_step (lt_step lt_zero raw_4_0) raw_4_1) raw_4_2) raw_4_3) raw_4_4) raw_4_5)
theorem raw_5_0 : ∀ c < 6, ∀ d < 6, okRaw (fourCells 5 0 c d) = true := by decide +kernel
theorem raw_5_1 : ∀ c < 6, ∀ d < 6, okRaw (fourCells 5 1 c d) = true := by decide +kernel
theorem raw_5_2 : ∀ c < 6, ∀ d < 6, okRaw (fourCells 5 2 c d) = true := by decide +kernel
theorem raw_5_3 : ∀ c < 6, ∀ d < 6, okRaw (fourCells 5 3 c d) = true := by decide +kernel
theorem raw_5_4 : ∀ c < 6, ∀ d < 6, okRaw (fourCells 5 4 c d) = true := by decide +kernel
theorem raw_5_5 : ∀ c < 6, ∀ d < 6, okRaw (fourCells 5 5 c d) = true := by decide +kernel
theorem raw5 : ∀ b < 6, ∀ c < 6, ∀ d < 6, okRaw (fourCells 5 b c d) = true := (lt_step (lt_step (lt_step (lt_step (lt_step (lt_step lt_zero raw_5_0) raw_5_1) raw_5_2) raw_5_3) raw_5_4) raw_5_5)
theorem raw_ok {a b c d : Nat} (ha : a < 6) (hb : b < 6) (hc : c < 6) (hd : d < 6) : okRaw (fourCells a b c d) = true := by
  have h : a = 0 ∨ a = 1 ∨ a = 2 ∨ a = 3 ∨ a = 4 ∨ a = 5 := by omega
  rcases h with rfl | rfl | rfl | rfl | rfl | rfl
  · exact raw0 b hb c hc d hd
  · exact raw1 b hb c hc d hd
  · exact raw2 b hb c hc d hd
  · exact raw3 b hb c hc d hd
  · exact raw4 b hb c hc d hd
  · exact raw5 b hb c hc d hd
theorem fmod6 (d : Int) : (d.fmod 6).fmod 6 = d.fmod 6 := by
  rw [Int.fmod_eq_emod_of_nonneg _ (by decide), Int.fmod_eq_emod_of_nonneg _ (by decide)]
  omega
theorem foot6 (d low top : Int) : footQ (d.fmod 6) low top = footQ d low top := by
  unfold footQ footP headP
  rw [fmod6]
theorem head6 (d low top : Int) : headQ (d.fmod 6) low top = headQ d low top := by
  unfold headQ footP headP
  rw [fmod6]
theorem step6 {ds es : List Int} {x : Int} (h : es.getD x.toNat 0 = (ds.getD x.toNat 0).fmod 6) (c : List Int × Int × Int) : cellStep ds c x = cellStep es c x := by
  unfold cellStep
  rw [h]
  simp only [foot6, head6]
noncomputable def resN (d : Int) : Nat := (d.fmod 6).toNat
theorem resN_eq (d : Int) : Int.ofNat (resN d) = d.fmod 6 := by
  have h0 : 0 ≤ d.fmod 6 := Int.fmod_nonneg_of_pos _ (by decide)
  unfold resN
  exact Int.toNat_of_nonneg h0
theorem resN_lt (d : Int) : resN d < 6 := by
  have h0 : 0 ≤ d.fmod 6 := Int.fmod_nonneg_of_pos _ (by decide)
  have h1 : d.fmod 6 < 6 := Int.fmod_lt_of_pos _ (by decide)
  unfold resN
  omega
theorem cells_res (ds : List Int) : cellsP ds = fourCells (resN (ds.getD 0 0)) (resN (ds.getD 1 0)) (resN (ds.getD 2 0)) (resN (ds.getD 3 0)) := by
  unfold fourCells cellsP
  refine congrArg (·.1) (foldl_same (fun x hx c => step6 ?_ c) _)
  obtain ⟨h0, h1⟩ := range_mem hx
  have h : x = 0 ∨ x = 1 ∨ x = 2 ∨ x = 3 := by omega
  rcases h with rfl | rfl | rfl | rfl <;> exact resN_eq _
theorem okRaw_ds (ds : List Int) : okRaw (cellsP ds) = true := by
  rw [cells_res]
  exact raw_ok (resN_lt _) (resN_lt _) (resN_lt _) (resN_lt _)
theorem cells_ok (ds : List Int) : (cellsP ds).length ≤ 12 ∧ ∀ c ∈ cellsP ds, 0 ≤ c ∧ c < 12 := by
  have h := okRaw_ds ds
  unfold okRaw at h
  simp only [Bool.and_eq_true, decide_eq_true_eq, List.all_eq_true] at h
  exact h.1
theorem cellsE_mem (ds : List Int) : cellsE ds ∈ fieldsL := by
  have h := okRaw_ds ds
  unfold okRaw at h
  simp only [Bool.and_eq_true, decide_eq_true_eq, List.all_eq_true] at h
  rw [cellsE_eq]
  exact h.2
theorem field_ok (ds : List Int) : okField (cellsE ds) = true := fields_ok _ (cellsE_mem ds)
theorem field_top (ds : List Int) : okTop (covE ds) (spotsP (cellsE ds)) = true := by
  have h := field_ok ds
  unfold okField at h
  unfold covE
  exact (Bool.and_eq_true_iff.mp h).1
theorem field_pick (ds : List Int) {p : Nat} (hp : p < (covE ds).length) : okPick (covE ds) (spotsP (cellsE ds)) (rowsP (cellsE ds) (spotsP (cellsE ds)) (covE ds)) (leastP (rowsP (cellsE ds) (spotsP (cellsE ds)) (covE ds)) (spotsP (cellsE ds)).length) p = true := by
  have h := field_ok ds
  unfold okField at h
  unfold covE at hp ⊢
  exact List.all_eq_true.mp (Bool.and_eq_true_iff.mp h).2 p (List.mem_range.mpr hp)
theorem okTop_out {cov sp : List Int} (h : okTop cov sp = true) : cov ≠ [] ∧ cov.length ≤ 11 ∧ (∀ c ∈ cov, 0 ≤ c ∧ c < 2 ^ 24) ∧ sp.length ≤ 6 := by
  unfold okTop at h
  simp only [Bool.and_eq_true, decide_eq_true_eq, List.all_eq_true] at h
  exact ⟨h.1.1.1, h.1.1.2, h.1.2, h.2⟩
theorem cov_ok (ds : List Int) : covE ds ≠ [] ∧ (covE ds).length ≤ 11 ∧ ∀ c ∈ covE ds, 0 ≤ c ∧ c < 2 ^ 24 :=
  have h := okTop_out (field_top ds)
  ⟨h.1, h.2.1, h.2.2.1⟩
theorem spots6 (ds : List Int) : (spotsP (cellsE ds)).length ≤ 6 := (okTop_out (field_top ds)).2.2.2
theorem pick_out {cov sp : List Int} {rows : List (List Int)} {least : List Int} {p : Nat} (h : okPick cov sp rows least p = true) :
    rF 20 (sp.map sqF) [(cov.getD p 0, 0)] [cov.getD p 0] = some (roundsP sp (cov.getD p 0)) ∧ ((roundsP sp (cov.getD p 0)).map (·.1)).Perm cov ∧
    ∀ k < cov.length, okPair sp.length (rows.getD p []) (rows.getD k []) least (kdfLook (roundsP sp (cov.getD p 0)) (cov.getD k 0) 0) = true := by
  unfold okPick okRounds at h
  unfold roundsP
  cases e : rF 20 (sp.map sqF) [(cov.getD p 0, 0)] [cov.getD p 0] with
  | none => rw [e] at h; cases h
  | some out =>
    rw [e] at h
    simp only [Option.any_some, Bool.and_eq_true, List.all_eq_true, List.mem_range] at h
    exact ⟨rfl, List.isPerm_iff.mp h.1, h.2⟩
theorem rounds_ok (ds : List Int) {p : Int} (hp : p ∈ covE ds) : rF 20 ((spotsP (cellsE ds)).map sqF) [(p, 0)] [p] = some (roundsP (spotsP (cellsE ds)) p) ∧ ((roundsP (spotsP (cellsE ds)) p).map (·.1)).Perm (covE ds) := by
  obtain ⟨i, hi, rfl⟩ := List.getElem_of_mem hp
  have h := pick_out (field_pick ds hi)
  have e : (covE ds).getD i 0 = (covE ds)[i] := by rw [List.getD_eq_getElem?_getD, List.getElem?_eq_getElem hi]; rfl
  rw [e] at h
  exact ⟨h.1, h.2.1⟩
theorem pairs_ok (ds : List Int) {i k : Nat} (hi : i < (covE ds).length) (hk : k < (covE ds).length) :
    okPair (spotsP (cellsE ds)).length ((rowsP (cellsE ds) (spotsP (cellsE ds)) (covE ds)).getD i []) ((rowsP (cellsE ds) (spotsP (cellsE ds)) (covE ds)).getD k []) (leastP (rowsP (cellsE ds) (spotsP (cellsE ds)) (covE ds)) (spotsP (cellsE ds)).length)
      (kdfLook (roundsP (spotsP (cellsE ds)) ((covE ds).getD i 0)) ((covE ds).getD k 0) 0) = true :=
  (pick_out (field_pick ds hi)).2.2 k hk
end WQ3
namespace WP
open WPa
open WQ3
open WC3
open WC5
open WC6a
open WC7
open WC8
open WC9
open WC1
open WC2
theorem freshWP : True := by w_top off; trivial
theorem spot_t {cs : List Int} {c : Int} (h1 : c.fmod 3 < 2) (h2 : (cs.any fun x => x == c + 1) = true) (h3 : (cs.any fun x => x == c + 3) = true) (h4 : (cs.any fun x => x == c + 4) = true) : spotB cs c = true := by
  unfold spotB
  rw [h2, h3, h4, decide_eq_true h1]; rfl
theorem spot_f1 {cs : List Int} {c : Int} (h1 : ¬ c.fmod 3 < 2) : spotB cs c = false := by
  unfold spotB
  rw [decide_eq_false h1]; rfl
theorem spot_f2 {cs : List Int} {c : Int} (h : (cs.any fun x => x == c + 1) = false) : spotB cs c = false := by
  unfold spotB
  rw [h, Bool.false_and, Bool.and_false]
theorem spot_f3 {cs : List Int} {c : Int} (h : (cs.any fun x => x == c + 3) = false) : spotB cs c = false := by
  unfold spotB
  rw [h, Bool.false_and, Bool.and_false, Bool.and_false]
theorem spot_f4 {cs : List Int} {c : Int} (h : (cs.any fun x => x == c + 4) = false) : spotB cs c = false := by
  unfold spotB
  rw [h, Bool.and_false, Bool.and_false, Bool.and_false]
theorem filt_t {f : Int → Bool} {cs : List Int} {j : Nat} {c : Int} (hc : cs[j]? = some c) (h : f c = true) : (cs.take (j + 1)).filter f = (cs.take j).filter f ++ [c] := by
  rw [List.take_add_one, hc, List.filter_append]
  simp [h]
theorem filt_f {f : Int → Bool} {cs : List Int} {j : Nat} {c : Int} (hc : cs[j]? = some c) (h : f c = false) : (cs.take (j + 1)).filter f = (cs.take j).filter f := by
  rw [List.take_add_one, hc, List.filter_append]
  simp [h]
theorem draws_len (ns : List Int) : (drawsP ns).length = 5 := by
  unfold drawsP
  rw [List.length_zipWith, List.length_append]
  simp only [List.length_cons, List.length_nil]
  omega
theorem cellsE_ok (ds : List Int) : (cellsE ds).length ≤ 12 ∧ ∀ c ∈ cellsE ds, 0 ≤ c ∧ c < 12 := by
  unfold cellsE
  split
  · decide
  · exact cells_ok ds

inductive RowsAre (led : Led) : List Value → List (List Int) → Prop where
  | nil : RowsAre led [] []
  | cons {a : Addr} {vs : List Value} {n : Nat} {row : List Int} {r : List Value} {rs : List (List Int)} : (a, listOf vs.toArray n) ∈ led → IntsAre vs row → RowsAre led r rs → RowsAre led (.ref a :: r) (row :: rs)
theorem RowsAre.mono {l1 l2 : Led} {r : List Value} {rs : List (List Int)} (h : RowsAre l1 r rs) (hs : ∀ p ∈ l1, p ∈ l2) : RowsAre l2 r rs := by
  induction h with
  | nil => exact .nil
  | cons hm hi _ ih => exact .cons (hs _ hm) hi ih
theorem RowsAre.snoc {led : Led} {r : List Value} {rs : List (List Int)} {a : Addr} {vs : List Value} {n : Nat} {row : List Int} (h : RowsAre led r rs) (hm : (a, listOf vs.toArray n) ∈ led) (hi : IntsAre vs row) : RowsAre led (r ++ [.ref a]) (rs ++ [row]) := by
  induction h with
  | nil => exact .cons hm hi .nil
  | cons h1 h2 _ ih => exact .cons h1 h2 ih
theorem RowsAre.length {led : Led} {r : List Value} {rs : List (List Int)} (h : RowsAre led r rs) : r.length = rs.length := by
  induction h with
  | nil => rfl
  | cons _ _ _ ih => simp only [List.length_cons, ih]
theorem RowsAre.at {led : Led} {r : List Value} {rs : List (List Int)} (h : RowsAre led r rs) : ∀ (i : Nat) {v : Value}, r[i]? = some v → ∃ a vs n row, v = .ref a ∧ rs[i]? = some row ∧ (a, listOf vs.toArray n) ∈ led ∧ IntsAre vs row := by
  induction h with
  | nil => intro i v e; cases e
  | cons hm hi _ ih =>
    intro i v e
    cases i with
    | zero => exact ⟨_, _, _, _, (Option.some.inj e).symm, rfl, hm, hi⟩
    | succ i => exact ih i e
theorem allNe_ins {d : Nat} {B rl : Led} {p : Addr × Obj} (h : AllNe d (B ++ rl)) (hp : @Ne Nat p.1 d) : AllNe d (B ++ p :: rl) := allNe_of fun q hq => by
  rcases List.mem_append.mp hq with h1 | h1
  · exact allNe_mem h _ (List.mem_append_left _ h1)
  · rcases List.mem_cons.mp h1 with rfl | h1
    · exact hp
    · exact allNe_mem h _ (List.mem_append_right _ h1)
theorem take_map_snoc {α β : Type} {f : α → β} {l : List α} {i : Nat} {x : α} (h : l[i]? = some x) : (l.take (i + 1)).map f = (l.take i).map f ++ [f x] := by rw [List.take_add_one, h, List.map_append]; rfl
theorem spots_ok (ds : List Int) : (spotsP (cellsE ds)).length ≤ 12 ∧ ∀ c ∈ spotsP (cellsE ds), 0 ≤ c ∧ c < 12 := by
  unfold spotsP
  exact ⟨Nat.le_trans (List.length_filter_le _ _) (cellsE_ok ds).1, fun c hc => (cellsE_ok ds).2 c (List.mem_filter.mp hc).1⟩
theorem ints_getD {vs : List Value} {ns : List Int} (h : IntsAre vs ns) : ∀ {i : Nat}, i < ns.length → ∃ t, vs.getD i .none = .int (ns.getD i 0) t := by
  induction h with
  | nil => intro i hi; exact absurd hi (Nat.not_lt_zero _)
  | cons n t _ ih =>
    intro i hi
    cases i with
    | zero => exact ⟨t, rfl⟩
    | succ i => exact ih (i := i) (Nat.lt_of_succ_lt_succ hi)
theorem RowsAre.lrs {led : Led} {hv : List Value} {rows : List (List Int)} (h : RowsAre led hv rows) : ∃ R0 : List LR, hv = (R0.map fun r => .ref r.1) ∧ R0.length = rows.length ∧ (∀ r ∈ R0, ∃ n, (r.1, listOf r.2.toArray n) ∈ led) ∧
    ∀ n, (∀ row ∈ rows, row.length = n) → (∀ r ∈ R0, r.2.length = n) ∧ ∀ i, i < n → IntsAre (R0.map fun r => r.2.getD i .none) (rows.map fun r => r.getD i 0) := by
  induction h with
  | nil => exact ⟨[], rfl, rfl, fmn, fun n _ => ⟨fmn, fun _ _ => .nil⟩⟩
  | @cons a vs k row r rs hm hi _ ih =>
    obtain ⟨R0, e, hl, hmem, hn⟩ := ih
    refine ⟨(a, vs) :: R0, by rw [e]; rfl, by rw [List.length_cons, List.length_cons, hl], fun r hr => ?_, fun n hrow => ?_⟩
    · rcases List.mem_cons.mp hr with rfl | hr
      · exact ⟨_, hm⟩
      · exact hmem r hr
    · obtain ⟨h1, h2⟩ := hn n (fun row hr => hrow row (List.mem_cons_of_mem _ hr))
      have h0 := hrow _ List.mem_cons_self
      refine ⟨fun r hr => ?_, fun i hin => ?_⟩
      · rcases List.mem_cons.mp hr with rfl | hr
        · rw [← h0]; exact IntsAre.length hi
        · exact h1 r hr
      · obtain ⟨t, et⟩ := ints_getD hi (i := i) (by rw [h0]; exact hin)
        rw [List.map_cons, List.map_cons]
        dsimp only
        rw [et]
        exact .cons _ _ (h2 i hin)
theorem rowsP_len (cs sp cov : List Int) : ∀ row ∈ rowsP cs sp cov, row.length = sp.length := by
  intro row hr
  unfold rowsP at hr
  obtain ⟨c, _, rfl⟩ := List.mem_map.mp hr
  exact List.length_map _
theorem leastP_len (rows : List (List Int)) (n : Nat) : (leastP rows n).length = n := by
  unfold leastP
  rw [List.length_map, List.length_range]
theorem leastP_at {rows : List (List Int)} {n i : Nat} (h : i < n) : (leastP rows n).getD i 0 = minL (rows.map fun r => r.getD i 0) := by
  unfold leastP
  rw [List.getD_eq_getElem?_getD, List.getElem?_map, List.getElem?_range h]
  rfl
theorem len_ints {prog : Program} {w : World} {A : Around} {E : Value → Shared → Prop} {s : Shared} {h₀ : Heap} {L a : Addr} {news : Led} {vs : List Value} {n : Nat} {ns : List Int} {Q : Value → Shared → Prop} (N : News h₀ L s.heap news)
    (hm : (a, listOf vs.toArray n) ∈ news) (hi : IntsAre vs ns) (hfit : ns.length ≤ 1000) (h : ∀ t tk, Q (.int (ns.length : Int) t) { s with toks := tk }) : wpAny (model prog w) A (call (.builtin "len") [.ref a]) Q E s := by
  have e := IntsAre.length hi
  refine Calls.call_len_list (isL N hm) (by rw [List.size_toArray]; omega) ?_
  rw [List.size_toArray, e]
  exact h _ _
theorem rowsP_length (cs sp cov : List Int) : (rowsP cs sp cov).length = cov.length := by unfold rowsP; exact List.length_map _
noncomputable def NCs (L a : Nat) : Prop := a ≠ L + 1 ∧ a ≠ L + 1 + 1 ∧ a ≠ L + 1 + 1 + 1 ∧ a ≠ L + 1 + 1 + 1 + 1 ∧ a ≠ L + 1 + 1 + 1 + 1 + 1 ∧ a ≠ L + 1 + 1 + 1 + 1 + 1 + 1 ∧ a ≠ L + 1 + 1 + 1 + 1 + 1 + 1 + 1 ∧ a ≠ L + 1 + 1 + 1 + 1 + 1 + 1 + 1 + 1
theorem nc_mk {L a : Nat} (h : a ≠ L + 1 ∧ a ≠ L + 1 + 1 ∧ a ≠ L + 1 + 1 + 1 ∧ a ≠ L + 1 + 1 + 1 + 1 ∧ a ≠ L + 1 + 1 + 1 + 1 + 1 ∧ a ≠ L + 1 + 1 + 1 + 1 + 1 + 1 ∧ a ≠ L + 1 + 1 + 1 + 1 + 1 + 1 + 1 ∧ a ≠ L + 1 + 1 + 1 + 1 + 1 + 1 + 1 + 1) : NCs L a := h
theorem NCs.n1 {L a : Nat} (h : NCs L a) : a ≠ L + 1 := h.1
theorem NCs.n2 {L a : Nat} (h : NCs L a) : a ≠ L + 1 + 1 := h.2.1
theorem NCs.n3 {L a : Nat} (h : NCs L a) : a ≠ L + 1 + 1 + 1 := h.2.2.1
theorem NCs.n4 {L a : Nat} (h : NCs L a) : a ≠ L + 1 + 1 + 1 + 1 := h.2.2.2.1
theorem NCs.n5 {L a : Nat} (h : NCs L a) : a ≠ L + 1 + 1 + 1 + 1 + 1 := h.2.2.2.2.1
theorem NCs.n6 {L a : Nat} (h : NCs L a) : a ≠ L + 1 + 1 + 1 + 1 + 1 + 1 := h.2.2.2.2.2.1
theorem NCs.n7 {L a : Nat} (h : NCs L a) : a ≠ L + 1 + 1 + 1 + 1 + 1 + 1 + 1 := h.2.2.2.2.2.2.1
theorem NCs.n8 {L a : Nat} (h : NCs L a) : a ≠ L + 1 + 1 + 1 + 1 + 1 + 1 + 1 + 1 := h.2.2.2.2.2.2.2
theorem nc_of {L d : Nat} {led : Led} {o1 o2 o3 o4 o5 o6 o7 o8 : Obj} (h : AllNe d led) (h1 : (L + 1, o1) ∈ led) (h2 : (L + 1 + 1, o2) ∈ led) (h3 : (L + 1 + 1 + 1, o3) ∈ led) (h4 : (L + 1 + 1 + 1 + 1, o4) ∈ led)
    (h5 : (L + 1 + 1 + 1 + 1 + 1, o5) ∈ led) (h6 : (L + 1 + 1 + 1 + 1 + 1 + 1, o6) ∈ led) (h7 : (L + 1 + 1 + 1 + 1 + 1 + 1 + 1, o7) ∈ led) (h8 : (L + 1 + 1 + 1 + 1 + 1 + 1 + 1 + 1, o8) ∈ led) : NCs L d :=
  ⟨Ne.symm (allNe_mem h _ h1), Ne.symm (allNe_mem h _ h2), Ne.symm (allNe_mem h _ h3), Ne.symm (allNe_mem h _ h4), Ne.symm (allNe_mem h _ h5), Ne.symm (allNe_mem h _ h6), Ne.symm (allNe_mem h _ h7), Ne.symm (allNe_mem h _ h8)⟩
theorem off_all {D : Addr} : ∀ {led : Led}, LCg.Off1 D led → AllNe D led
  | [], _ => True.intro
  | _ :: _, h => ⟨h.1, off_all h.2⟩
theorem rows_get {led : Led} {hv : List Value} {rows : List (List Int)} {i : Nat} (h : RowsAre led hv rows) (hi : i < rows.length) : ∃ ra rvs rn, hv[i]? = some (.ref ra) ∧ (ra, listOf rvs.toArray rn) ∈ led ∧ IntsAre rvs (rows.getD i []) := by
  have hl := h.length
  obtain ⟨a, vs, n, row, e1, e2, e3, e4⟩ := h.at i (v := hv[i]'(by omega)) (List.getElem?_eq_getElem _)
  refine ⟨a, vs, n, by rw [List.getElem?_eq_getElem (by omega), e1], e3, ?_⟩
  rw [List.getD_eq_getElem?_getD, e2]
  exact e4
theorem getD_memG {α : Type} {l : List α} {i : Nat} {d : α} (h : i < l.length) : l.getD i d ∈ l := by rw [List.getD_eq_getElem?_getD, List.getElem?_eq_getElem h]; exact List.getElem_mem h
theorem has_of_perm {out : List (Int × Int)} {cov : List Int} {c : Int} (h : (out.map (·.1)).Perm cov) (hc : c ∈ cov) : kdfHas out c = true := by
  obtain ⟨p, hp, rfl⟩ := List.mem_map.mp (h.mem_iff.mpr hc)
  unfold kdfHas
  exact List.any_eq_true.mpr ⟨p, hp, by simp⟩
end WP
namespace WDec
open WC3
open WC9
open WPa
open WP
theorem freshWDec : True := by w_top off; trivial
open Builtin
noncomputable def lettersP (fr : Int) (n : Nat) : Str := Txt.slice (Str.ofString "BCDEFGHIJKLMNOPABCDE") (some fr) (some (fr + n))
theorem entry_nil {t : Tok} : «bytes.decode» ⟨[.bytes #[] t], []⟩ = (rule "bytes.decode.empty" >>= fun _ => retStr Str.empty) := by kernel_rfl
theorem meets_decode0 {t : Tok} :
    Meets («bytes.decode» ⟨[.bytes #[] t], []⟩) (fun _ R s => ∀ t' k, R (.ok (.ret (.str Str.empty t'))) { s with toks := k }) := by
  refine .of_wp fun prog w A R s hS => ?_
  rw [entry_nil]
  refine wpAny_bind (wpAny_rule ?_)
  exact wpAny_bind (wpAny_mkStr (wpAny_pure ⟨_, rfl, hS _ _⟩) (by decide))
theorem decode0 {prog : Program} {w : World} {A : Around} {E : Value → Shared → Prop} {s : Shared} {t : Tok} {Q : Value → Shared → Prop} (h : ∀ t' k, Q (.str Str.empty t') { s with toks := k }) :
    wpAny (model prog w) A (call (.builtin "bytes.decode") [.bytes #[] t]) Q E s :=
  call_meets FB.slot_bytes_decode (typeIs_bytes _ _ _) FB.entry_bytes_decode (FB.args_bytes_decode_1 _) meets_decode0 h
noncomputable def DecOk (b : Array UInt8) (x : Str) : Prop := (b = #[] ∧ x = Str.empty) ∨ ∃ c cs n, b = List.toArray (c :: cs) ∧ (∀ id : String, _codecs.runDecoder id _codecs.utf8Decoder none true (List.toArray (c :: cs)) 0 [] = pure (x.cps, n)) ∧ x.length ≤ 16777216
theorem decodeS {prog : Program} {w : World} {A : Around} {E : Value → Shared → Prop} {s : Shared} {t : Tok} {b : Array UInt8} {x : Str} {Q : Value → Shared → Prop} (hd : DecOk b x) (h : ∀ t' k, Q (.str x t') { s with toks := k }) :
    wpAny (model prog w) A (call (.builtin "bytes.decode") [.bytes b t]) Q E s := by
  rcases hd with ⟨rfl, rfl⟩ | ⟨c, cs, n, rfl, hd, hs⟩
  · exact decode0 h
  · exact KBd.decode hd hs h
theorem letters_len : ∀ k < 15, ∀ n < 7, (lettersP (Int.ofNat k) n).length = n := by decide +kernel
theorem sums_ok : ∀ k < 15, ∀ n < 7, -(16 ^ 6) < -sumP (Int.ofNat k) n ∧ -sumP (Int.ofNat k) n ≤ 0 := by decide +kernel
theorem sum_ok {fr : Int} {n : Nat} (h0 : 0 ≤ fr) (h1 : fr < 15) (hn : n ≤ 6) : -(16 ^ 6) < -sumP fr n ∧ -sumP fr n ≤ 0 := by
  obtain ⟨k, rfl⟩ := Int.eq_ofNat_of_zero_le h0
  exact sums_ok k (by omega) n (by omega)
theorem letter_len {fr : Int} {n : Nat} (h0 : 0 ≤ fr) (h1 : fr < 15) (hn : n ≤ 6) : (lettersP fr n).length = n := by
  obtain ⟨k, rfl⟩ := Int.eq_ofNat_of_zero_le h0
  exact letters_len k (by omega) n (by omega)
theorem item_lens : ∀ k < 15, ∀ n < 7, ∀ i < n, (Txt.item (lettersP (Int.ofNat k) n) (Int.ofNat i)).length ≤ 1 ∧ (Txt.lower (Txt.item (lettersP (Int.ofNat k) n) (Int.ofNat i))).length ≤ 1 := by decide +kernel
theorem sum_le1 : ∀ {l : List Str}, (∀ x ∈ l, x.length ≤ 1) → (l.map (·.length)).sum ≤ l.length
  | [], _ => Nat.le_refl _
  | a :: l, h => by
    have h1 := h a List.mem_cons_self
    have h2 := sum_le1 (l := l) (fun x hx => h x (List.mem_cons_of_mem _ hx))
    rw [List.map_cons, List.sum_cons, List.length_cons]
    omega
theorem word_sum {fr : Int} {n : Nat} (h0 : 0 ≤ fr) (h1 : fr < 15) (hn : n ≤ 6) (hs ls : List Int) :
    (((rangeKs 0 (lettersP fr n).length).map (WC9.letterP (lettersP fr n) hs ls)).map (·.length)).sum + ((rangeKs 0 (lettersP fr n).length).map (WC9.letterP (lettersP fr n) hs ls)).length ≤ 1048576 := by
  have hl := letter_len h0 h1 hn
  have h : ∀ x ∈ (rangeKs 0 (lettersP fr n).length).map (WC9.letterP (lettersP fr n) hs ls), x.length ≤ 1 := by
    intro x hx
    obtain ⟨k, hk, rfl⟩ := List.mem_map.mp hx
    obtain ⟨i, hi, rfl⟩ := List.mem_map.mp hk
    obtain ⟨j, rfl⟩ := Int.eq_ofNat_of_zero_le h0
    have hi2 := List.mem_range.mp hi
    have h3 := item_lens j (by omega) n (by omega) i (by omega)
    rw [show (0 : Int) + (i : Int) = Int.ofNat i from Int.zero_add _]
    unfold WC9.letterP
    split
    · exact h3.1
    · exact h3.2
  have h2 := sum_le1 h
  have h4 : ((rangeKs 0 (lettersP fr n).length).map (WC9.letterP (lettersP fr n) hs ls)).length ≤ 6 := by
    rw [List.length_map, rangeKs_length, hl]; exact hn
  omega

theorem dec_0_0 : DecOk (apF 6 (- -sumP (Int.ofNat 0) 0) #[]) (lettersP (Int.ofNat 0) 0) := .inl ⟨by kernel_rfl, by kernel_rfl⟩
theorem dec_0_1 : DecOk (apF 6 (- -sumP (Int.ofNat 0) 1) #[]) (lettersP (Int.ofNat 0) 1) := .inr ⟨66, [], 1, by kernel_rfl, by intro _; kernel_rfl, by decide +kernel⟩
theorem dec_0_2 : DecOk (apF 6 (- -sumP (Int.ofNat 0) 2) #[]) (lettersP (Int.ofNat 0) 2) := .inr ⟨66, [67], 2, by kernel_rfl, by intro _; kernel_rfl, by decide +kernel⟩
theorem dec_0_3 : DecOk (apF 6 (- -sumP (Int.ofNat 0) 3) #[]) (lettersP (Int.ofNat 0) 3) := .inr ⟨66, [67, 68], 3, by kernel_rfl, by intro _; kernel_rfl, by decide +kernel⟩
theorem dec_0_4 : DecOk (apF 6 (- -sumP (Int.ofNat 0) 4) #[]) (lettersP (Int.ofNat 0) 4) := .inr ⟨66, [67, 68, 69], 4, by kernel_rfl, by intro _; kernel_rfl, by decide +kernel⟩
theorem dec_0_5 : DecOk (apF 6 (- -sumP (Int.ofNat 0) 5) #[]) (lettersP (Int.ofNat 0) 5) := .inr ⟨66, [67, 68, 69, 70], 5, by kernel_rfl, by intro _; kernel_rfl, by decide +kernel⟩
theorem dec_0_6 : DecOk (apF 6 (- -sumP (Int.ofNat 0) 6) #[]) (lettersP (Int.ofNat 0) 6) := .inr ⟨66, [67, 68, 69, 70, 71], 6, by kernel_rfl, by intro _; kernel_rfl, by decide +kernel⟩
theorem dec_1_0 : DecOk (apF 6 (- -sumP (Int.ofNat 1) 0) #[]) (lettersP (Int.ofNat 1) 0) := .inl ⟨by kernel_rfl, by kernel_rfl⟩
theorem dec_1_1 : DecOk (apF 6 (- -sumP (Int.ofNat 1) 1) #[]) (lettersP (Int.ofNat 1) 1) := .inr ⟨67, [], 1, by kernel_rfl, by intro _; kernel_rfl, by decide +kernel⟩
theorem dec_1_2 : DecOk (apF 6 (- -sumP (Int.ofNat 1) 2) #[]) (lettersP (Int.ofNat 1) 2) := .inr ⟨67, [68], 2, by kernel_rfl, by intro _; kernel_rfl, by decide +kernel⟩
theorem dec_1_3 : DecOk (apF 6 (- -sumP (Int.ofNat 1) 3) #[]) (lettersP (Int.ofNat 1) 3) := .inr ⟨67, [68, 69], 3, by kernel_rfl, by intro _; kernel_rfl, by decide +kernel⟩
theorem dec_1_4 : DecOk (apF 6 (- -sumP (Int.ofNat 1) 4) #[]) (lettersP (Int.ofNat 1) 4) := .inr ⟨67, [68, 69, 70], 4, by kernel_rfl, by intro _; kernel_rfl, by decide +kernel⟩
theorem dec_1_5 : DecOk (apF 6 (- -sumP (Int.ofNat 1) 5) #[]) (lettersP (Int.ofNat 1) 5) := .inr ⟨67, [68, 69, 70, 71], 5, by kernel_rfl, by intro _; kernel_rfl, by decide +kernel⟩
theorem dec_1_6 : DecOk (apF 6 (- -sumP (Int.ofNat 1) 6) #[]) (lettersP (Int.ofNat 1) 6) := .inr ⟨67, [68, 69, 70, 71, 72], 6, by kernel_rfl, by intro _; kernel_rfl, by decide +kernel⟩
theorem dec_2_0 : DecOk (apF 6 (- -sumP (Int.ofNat 2) 0) #[]) (lettersP (Int.ofNat 2) 0) := .inl ⟨by kernel_rfl, by kernel_rfl⟩
theorem dec_2_1 : DecOk (apF 6 (- -sumP (Int.ofNat 2) 1) #[]) (lettersP (Int.ofNat 2) 1) := .inr ⟨68, [], 1, by kernel_rfl, by intro _; kernel_rfl, by decide +kernel⟩
theorem dec_2_2 : DecOk (apF 6 (- -sumP (Int.ofNat 2) 2) #[]) (lettersP (Int.ofNat 2) 2) := .inr ⟨68, [69], 2, by kernel_rfl, by intro _; kernel_rfl, by decide +kernel⟩
theorem dec_2_3 : DecOk (apF 6 (- -sumP (Int.ofNat 2) 3) #[]) (lettersP (Int.ofNat 2) 3) := .inr ⟨68, [69, 70], 3, by kernel_rfl, by intro _; kernel_rfl, by decide +kernel⟩
theorem dec_2_4 : DecOk (apF 6 (- -sumP (Int.ofNat 2) 4) #[]) (lettersP (Int.ofNat 2) 4) := .inr ⟨68, [69, 70, 71], 4, by kernel_rfl, by intro _; kernel_rfl, by decide +kernel⟩
theorem dec_2_5 : DecOk (apF 6 (- -sumP (Int.ofNat 2) 5) #[]) (lettersP (Int.ofNat 2) 5) := .inr ⟨68, [69, 70, 71, 72], 5, by kernel_rfl, by intro _; kernel_rfl, by decide +kernel⟩
theorem dec_2_6 : DecOk (apF 6 (- -sumP (Int.ofNat 2) 6) #[]) (lettersP (Int.ofNat 2) 6) := .inr ⟨68, [69, 70, 71, 72, 73], 6, by kernel_rfl, by intro _; kernel_rfl, by decide +kernel⟩
theorem dec_3_0 : DecOk (apF 6 (- -sumP (Int.ofNat 3) 0) #[]) (lettersP (Int.ofNat 3) 0) := .inl ⟨by kernel_rfl, by kernel_rfl⟩
theorem dec_3_1 : DecOk (apF 6 (- -sumP (Int.ofNat 3) 1) #[]) (lettersP (Int.ofNat 3) 1) := .inr ⟨69, [], 1, by kernel_rfl, by intro _; kernel_rfl, by decide +kernel⟩
theorem dec_3_2 : DecOk (apF 6 (- -sumP (Int.ofNat 3) 2) #[]) (lettersP (Int.ofNat 3) 2) := .inr ⟨69, [70], 2, by kernel_rfl, by intro _; kernel_rfl, by decide +kernel⟩
theorem dec_3_3 : DecOk (apF 6 (- -sumP (Int.ofNat 3) 3) #[]) (lettersP (Int.ofNat 3) 3) := .inr ⟨69, [70, 71], 3, by kernel_rfl, by intro _; kernel_rfl, by decide +kernel⟩
theorem dec_3_4 : DecOk (apF 6 (- -sumP (Int.ofNat 3) 4) #[]) (lettersP (Int.ofNat 3) 4) := .inr ⟨69, [70, 71, 72], 4, by kernel_rfl, by intro _; kernel_rfl, by decide +kernel⟩
theorem dec_3_5 : DecOk (apF 6 (- -sumP (Int.ofNat 3) 5) #[]) (lettersP (Int.ofNat 3) 5) := .inr ⟨69, [70, 71, 72, 73], 5, by kernel_rfl, by intro _; kernel_rfl, by decide +kernel⟩
theorem dec_3_6 : DecOk (apF 6 (- -sumP (Int.ofNat 3) 6) #[]) (lettersP (Int.ofNat 3) 6) := .inr ⟨69, [70, 71, 72, 73, 74], 6, by kernel_rfl, by intro _; kernel_rfl, by decide +kernel⟩
theorem dec_4_0 : DecOk (apF 6 (- -sumP (Int.ofNat 4) 0) #[]) (lettersP (Int.ofNat 4) 0) := .inl ⟨by kernel_rfl, by kernel_rfl⟩
theorem dec_4_1 : DecOk (apF 6 (- -sumP (Int.ofNat 4) 1) #[]) (lettersP (Int.ofNat 4) 1) := .inr ⟨70, [], 1, by kernel_rfl, by intro _; kernel_rfl, by decide +kernel⟩
theorem dec_4_2 : DecOk (apF 6 (- -sumP (Int.ofNat 4) 2) #[]) (lettersP (Int.ofNat 4) 2) := .inr ⟨70, [71], 2, by kernel_rfl, by intro _; kernel_rfl, by decide +kernel⟩
theorem dec_4_3 : DecOk (apF 6 (- -sumP (Int.ofNat 4) 3) #[]) (lettersP (Int.ofNat 4) 3) := .inr ⟨70, [71, 72], 3, by kernel_rfl, by intro _; kernel_rfl, by decide +kernel⟩
theorem dec_4_4 : DecOk (apF 6 (- -sumP (Int.ofNat 4) 4) #[]) (lettersP (Int.ofNat 4) 4) := .inr ⟨70, [71, 72, 73], 4, by kernel_rfl, by intro _; kernel_rfl, by decide +kernel⟩
theorem dec_4_5 : DecOk (apF 6 (- -sumP (Int.ofNat 4) 5) #[]) (lettersP (Int.ofNat 4) 5) := .inr ⟨70, [71, 72, 73, 74], 5, by kernel_rfl, by intro _; kernel_rfl, by decide +kernel⟩
theorem dec_4_6 : DecOk (apF 6 (- -sumP (Int.ofNat 4) 6) #[]) (lettersP (Int.ofNat 4) 6) := .inr ⟨70, [71, 72, 73, 74, 75], 6, by kernel_rfl, by intro _; kernel_rfl, by decide +kernel⟩
theorem dec_5_0 : DecOk (apF 6 (- -sumP (Int.ofNat 5) 0) #[]) (lettersP (Int.ofNat 5) 0) := .inl ⟨by kernel_rfl, by kernel_rfl⟩
theorem dec_5_1 : DecOk (apF 6 (- -sumP (Int.ofNat 5) 1) #[]) (lettersP (Int.ofNat 5) 1) := .inr ⟨71, [], 1, by kernel_rfl, by intro _; kernel_rfl, by decide +kernel⟩
theorem dec_5_2 : DecOk (apF 6 (- -sumP (Int.ofNat 5) 2) #[]) (lettersP (Int.ofNat 5) 2) := .inr ⟨71, [72], 2, by kernel_rfl, by intro _; kernel_rfl, by decide +kernel⟩
theorem dec_5_3 : DecOk (apF 6 (- -sumP (Int.ofNat 5) 3) #[]) (lettersP (Int.ofNat 5) 3) := .inr ⟨71, [72, 73], 3, by kernel_rfl, by intro _; kernel_rfl, by decide +kernel⟩
theorem dec_5_4 : DecOk (apF 6 (- -sumP (Int.ofNat 5) 4) #[]) (lettersP (Int.ofNat 5) 4) := .inr ⟨71, [72, 73, 74], 4, by kernel_rfl, by intro _; kernel_rfl, by decide +kernel⟩
theorem dec_5_5 : DecOk (apF 6 (- -sumP (Int.ofNat 5) 5) #[]) (lettersP (Int.ofNat 5) 5) := .inr ⟨71, [72, 73, 74, 75], 5, by kernel_rfl, by intro _; kernel_rfl, by decide +kernel⟩
theorem dec_5_6 : DecOk (apF 6 (- -sumP (Int.ofNat 5) 6) #[]) (lettersP (Int.ofNat 5) 6) := .inr ⟨71, [72, 73, 74, 75, 76], 6, by kernel_rfl, by intro _; kernel_rfl, by decide +kernel⟩
theorem dec_6_0 : DecOk (apF 6 (- -sumP (Int.ofNat 6) 0) #[]) (lettersP (Int.ofNat 6) 0) := .inl ⟨by kernel_rfl, by kernel_rfl⟩
theorem dec_6_1 : DecOk (apF 6 (- -sumP (Int.ofNat 6) 1) #[]) (lettersP (Int.ofNat 6) 1) := .inr ⟨72, [], 1, by kernel_rfl, by intro _; kernel_rfl, by decide +kernel⟩
theorem dec_6_2 : DecOk (apF 6 (- -sumP (Int.ofNat 6) 2) #[]) (lettersP (Int.ofNat 6) 2) := .inr ⟨72, [73], 2, by kernel_rfl, by intro _; kernel_rfl, by decide +kernel⟩
theorem dec_6_3 : DecOk (apF 6 (- -sumP (Int.ofNat 6) 3) #[]) (lettersP (Int.ofNat 6) 3) := .inr ⟨72, [73, 74], 3, by kernel_rfl, by intro _; kernel_rfl, by decide +kernel⟩
theorem dec_6_4 : DecOk (apF 6 (- -sumP (Int.ofNat 6) 4) #[]) (lettersP (Int.ofNat 6) 4) := .inr ⟨72, [73, 74, 75], 4, by kernel_rfl, by intro _; kernel_rfl, by decide +kernel⟩
theorem dec_6_5 : DecOk (apF 6 (- -sumP (Int.ofNat 6) 5) #[]) (lettersP (Int.ofNat 6) 5) := .inr ⟨72, [73, 74, 75, 76], 5, by kernel_rfl, by intro _; kernel_rfl, by decide +kernel⟩
theorem dec_6_6 : DecOk (apF 6 (- -sumP (Int.ofNat 6) 6) #[]) (lettersP (Int.ofNat 6) 6) := .inr ⟨72, [73, 74, 75, 76, 77], 6, by kernel_rfl, by intro _; kernel_rfl, by decide +kernel⟩
theorem dec_7_0 : DecOk (apF 6 (- -sumP (Int.ofNat 7) 0) #[]) (lettersP (Int.ofNat 7) 0) := .inl ⟨by kernel_rfl, by kernel_rfl⟩
theorem dec_7_1 : DecOk (apF 6 (- -sumP (Int.ofNat 7) 1) #[]) (lettersP (Int.ofNat 7) 1) := .inr ⟨73, [], 1, by kernel_rfl, by intro _; kernel_rfl, by decide +kernel⟩
theorem dec_7_2 : DecOk (apF 6 (- -sumP (Int.ofNat 7) 2) #[]) (lettersP (Int.ofNat 7) 2) := .inr ⟨73, [74], 2, by kernel_rfl, by intro _; kernel_rfl, by decide +kernel⟩
theorem dec_7_3 : DecOk (apF 6 (- -sumP (Int.ofNat 7) 3) #[]) (lettersP (Int.ofNat 7) 3) := .inr ⟨73, [74, 75], 3, by kernel_rfl, by intro _; kernel_rfl, by decide +kernel⟩
theorem dec_7_4 : DecOk (apF 6 (- -sumP (Int.ofNat 7) 4) #[]) (lettersP (Int.ofNat 7) 4) := .inr ⟨73, [74, 75, 76], 4, by kernel_rfl, by intro _; kernel_rfl, by decide +kernel⟩
theorem dec_7_5 : DecOk (apF 6 (- -sumP (Int.ofNat 7) 5) #[]) (lettersP (Int.ofNat 7) 5) := .inr ⟨73, [74, 75, 76, 77], 5, by kernel_rfl, by intro _; kernel_rfl, by decide +kernel⟩
theorem dec_7_6 : DecOk (apF 6 (- -sumP (Int.ofNat 7) 6) #[]) (lettersP (Int.ofNat 7) 6) := .inr ⟨73, [74, 75, 76, 77, 78], 6, by kernel_rfl, by intro _; kernel_rfl, by decide +kernel⟩
theorem dec_8_0 : DecOk (apF 6 (- -sumP (Int.ofNat 8) 0) #[]) (lettersP (Int.ofNat 8) 0) := .inl ⟨by kernel_rfl, by kernel_rfl⟩
theorem dec_8_1 : DecOk (apF 6 (- -sumP (Int.ofNat 8) 1) #[]) (lettersP (Int.ofNat 8) 1) := .inr ⟨74, [], 1, by kernel_rfl, by intro _; kernel_rfl, by decide +kernel⟩
theorem dec_8_2 : DecOk (apF 6 (- -sumP (Int.ofNat 8) 2) #[]) (lettersP (Int.ofNat 8) 2) := .inr ⟨74, [75], 2, by kernel_rfl, by intro _; kernel_rfl, by decide +kernel⟩
theorem dec_8_3 : DecOk (apF 6 (- -sumP (Int.ofNat 8) 3) #[]) (lettersP (Int.ofNat 8) 3) := .inr ⟨74, [75, 76], 3, by kernel_rfl, by intro _; kernel_rfl, by decide +kernel⟩
theorem dec_8_4 : DecOk (apF 6 (- -sumP (Int.ofNat 8) 4) #[]) (lettersP (Int.ofNat 8) 4) := .inr ⟨74, [75, 76, 77], 4, by kernel_rfl, by intro _; kernel_rfl, by decide +kernel⟩
theorem dec_8_5 : DecOk (apF 6 (- -sumP (Int.ofNat 8) 5) #[]) (lettersP (Int.ofNat 8) 5) := .inr ⟨74, [75, 76, 77, 78], 5, by kernel_rfl, by intro _; kernel_rfl, by decide +kernel⟩
theorem dec_8_6 : DecOk (apF 6 (- -sumP (Int.ofNat 8) 6) #[]) (lettersP (Int.ofNat 8) 6) := .inr ⟨74, [75, 76, 77, 78, 79], 6, by kernel_rfl, by intro _; kernel_rfl, by decide +kernel⟩
theorem dec_9_0 : DecOk (apF 6 (- -sumP (Int.ofNat 9) 0) #[]) (lettersP (Int.ofNat 9) 0) := .inl ⟨by kernel_rfl, by kernel_rfl⟩
theorem dec_9_1 : DecOk (apF 6 (- -sumP (Int.ofNat 9) 1) #[]) (lettersP (Int.ofNat 9) 1) := .inr ⟨75, [], 1, by kernel_rfl, by intro _; kernel_rfl, by decide +kernel⟩
theorem dec_9_2 : DecOk (apF 6 (- -sumP (Int.ofNat 9) 2) #[]) (lettersP (Int.ofNat 9) 2) := .inr ⟨75, [76], 2, by kernel_rfl, by intro _; kernel_rfl, by decide +kernel⟩
theorem dec_9_3 : DecOk (apF 6 (- -sumP (Int.ofNat 9) 3) #[]) (lettersP (Int.ofNat 9) 3) := .inr ⟨75, [76, 77], 3, by kernel_rfl, by intro _; kernel_rfl, by decide +kernel⟩
theorem dec_9_4 : DecOk (apF 6 (- -sumP (Int.ofNat 9) 4) #[]) (lettersP (Int.ofNat 9) 4) := .inr ⟨75, [76, 77, 78], 4, by kernel_rfl, by intro _; kernel_rfl, by decide +kernel⟩
theorem dec_9_5 : DecOk (apF 6 (- -sumP (Int.ofNat 9) 5) #[]) (lettersP (Int.ofNat 9) 5) := .inr ⟨75, [76, 77, 78, 79], 5, by kernel_rfl, by intro _; kernel_rfl, by decide +kernel⟩
theorem dec_9_6 : DecOk (apF 6 (- -sumP (Int.ofNat 9) 6) #[]) (lettersP (Int.ofNat 9) 6) := .inr ⟨75, [76, 77, 78, 79, 80], 6, by kernel_rfl, by intro _; kernel_rfl, by decide +kernel⟩
theorem dec_10_0 : DecOk (apF 6 (- -sumP (Int.ofNat 10) 0) #[]) (lettersP (Int.ofNat 10) 0) := .inl ⟨by kernel_rfl, by kernel_rfl⟩
theorem dec_10_1 : DecOk (apF 6 (- -sumP (Int.ofNat 10) 1) #[]) (lettersP (Int.ofNat 10) 1) := .inr ⟨76, [], 1, by kernel_rfl, by intro _; kernel_rfl, by decide +kernel⟩
theorem dec_10_2 : DecOk (apF 6 (- -sumP (Int.ofNat 10) 2) #[]) (lettersP (Int.ofNat 10) 2) := .inr ⟨76, [77], 2, by kernel_rfl, by intro _; kernel_rfl, by decide +kernel⟩
theorem dec_10_3 : DecOk (apF 6 (- -sumP (Int.ofNat 10) 3) #[]) (lettersP (Int.ofNat 10) 3) := .inr ⟨76, [77, 78], 3, by kernel_rfl, by intro _; kernel_rfl, by decide +kernel⟩
theorem dec_10_4 : DecOk (apF 6 (- -sumP (Int.ofNat 10) 4) #[]) (lettersP (Int.ofNat 10) 4) := .inr ⟨76, [77, 78, 79], 4, by kernel_rfl, by intro _; kernel_rfl, by decide +kernel⟩
theorem dec_10_5 : DecOk (apF 6 (- -sumP (Int.ofNat 10) 5) #[]) (lettersP (Int.ofNat 10) 5) := .inr ⟨76, [77, 78, 79, 80], 5, by kernel_rfl, by intro _; kernel_rfl, by decide +kernel⟩
theorem dec_10_6 : DecOk (apF 6 (- -sumP (Int.ofNat 10) 6) #[]) (lettersP (Int.ofNat 10) 6) := .inr ⟨76, [77, 78, 79, 80, 65], 6, by kernel_rfl, by intro _; kernel_rfl, by decide +kernel⟩
theorem dec_11_0 : DecOk (apF 6 (- -sumP (Int.ofNat 11) 0) #[]) (lettersP (Int.ofNat 11) 0) := .inl ⟨by kernel_rfl, by kernel_rfl⟩
theorem dec_11_1 : DecOk (apF 6 (- -sumP (Int.ofNat 11) 1) #[]) (lettersP (Int.ofNat 11) 1) := .inr ⟨77, [], 1, by kernel_rfl, by intro _; kernel_rfl, by decide +kernel⟩
theorem dec_11_2 : DecOk (apF 6 (- -sumP (Int.ofNat 11) 2) #[]) (lettersP (Int.ofNat 11) 2) := .inr ⟨77, [78], 2, by kernel_rfl, by intro _; kernel_rfl, by decide +kernel⟩
theorem dec_11_3 : DecOk (apF 6 (- -sumP (Int.ofNat 11) 3) #[]) (lettersP (Int.ofNat 11) 3) := .inr ⟨77, [78, 79], 3, by kernel_rfl, by intro _; kernel_rfl, by decide +kernel⟩
theorem dec_11_4 : DecOk (apF 6 (- -sumP (Int.ofNat 11) 4) #[]) (lettersP (Int.ofNat 11) 4) := .inr ⟨77, [78, 79, 80], 4, by kernel_rfl, by intro _; kernel_rfl, by decide +kernel⟩
theorem dec_11_5 : DecOk (apF 6 (- -sumP (Int.ofNat 11) 5) #[]) (lettersP (Int.ofNat 11) 5) := .inr ⟨77, [78, 79, 80, 65], 5, by kernel_rfl, by intro _; kernel_rfl, by decide +kernel⟩
theorem dec_11_6 : DecOk (apF 6 (- -sumP (Int.ofNat 11) 6) #[]) (lettersP (Int.ofNat 11) 6) := .inr ⟨77, [78, 79, 80, 65, 66], 6, by kernel_rfl, by intro _; kernel_rfl, by decide +kernel⟩
theorem dec_12_0 : DecOk (apF 6 (- -sumP (Int.ofNat 12) 0) #[]) (lettersP (Int.ofNat 12) 0) := .inl ⟨by kernel_rfl, by kernel_rfl⟩
theorem dec_12_1 : DecOk (apF 6 (- -sumP (Int.ofNat 12) 1) #[]) (lettersP (Int.ofNat 12) 1) := .inr ⟨78, [], 1, by kernel_rfl, by intro _; kernel_rfl, by decide +kernel⟩
theorem dec_12_2 : DecOk (apF 6 (- -sumP (Int.ofNat 12) 2) #[]) (lettersP (Int.ofNat 12) 2) := .inr ⟨78, [79], 2, by kernel_rfl, by intro _; kernel_rfl, by decide +kernel⟩
theorem dec_12_3 : DecOk (apF 6 (- -sumP (Int.ofNat 12) 3) #[]) (lettersP (Int.ofNat 12) 3) := .inr ⟨78, [79, 80], 3, by kernel_rfl, by intro _; kernel_rfl, by decide +kernel⟩
theorem dec_12_4 : DecOk (apF 6 (- -sumP (Int.ofNat 12) 4) #[]) (lettersP (Int.ofNat 12) 4) := .inr ⟨78, [79, 80, 65], 4, by kernel_rfl, by intro _; kernel_rfl, by decide +kernel⟩
theorem dec_12_5 : DecOk (apF 6 (- -sumP (Int.ofNat 12) 5) #[]) (lettersP (Int.ofNat 12) 5) := .inr ⟨78, [79, 80, 65, 66], 5, by kernel_rfl, by intro _; kernel_rfl, by decide +kernel⟩
theorem dec_12_6 : DecOk (apF 6 (- -sumP (Int.ofNat 12) 6) #[]) (lettersP (Int.ofNat 12) 6) := .inr ⟨78, [79, 80, 65, 66, 67], 6, by kernel_rfl, by intro _; kernel_rfl, by decide +kernel⟩
theorem dec_13_0 : DecOk (apF 6 (- -sumP (Int.ofNat 13) 0) #[]) (lettersP (Int.ofNat 13) 0) := .inl ⟨by kernel_rfl, by kernel_rfl⟩
theorem dec_13_1 : DecOk (apF 6 (- -sumP (Int.ofNat 13) 1) #[]) (lettersP (Int.ofNat 13) 1) := .inr ⟨79, [], 1, by kernel_rfl, by intro _; kernel_rfl, by decide +kernel⟩
theorem dec_13_2 : DecOk (apF 6 (- -sumP (Int.ofNat 13) 2) #[]) (lettersP (Int.ofNat 13) 2) := .inr ⟨79, [80], 2, by kernel_rfl, by intro _; kernel_rfl, by decide +kernel⟩
theorem dec_13_3 : DecOk (apF 6 (- -sumP (Int.ofNat 13) 3) #[]) (lettersP (Int.ofNat 13) 3) := .inr ⟨79, [80, 65], 3, by kernel_rfl, by intro _; kernel_rfl, by decide +kernel⟩
theorem dec_13_4 : DecOk (apF 6 (- -sumP (Int.ofNat 13) 4) #[]) (lettersP (Int.ofNat 13) 4) := .inr ⟨79, [80, 65, 66], 4, by kernel_rfl, by intro _; kernel_rfl, by decide +kernel⟩
theorem dec_13_5 : DecOk (apF 6 (- -sumP (Int.ofNat 13) 5) #[]) (lettersP (Int.ofNat 13) 5) := .inr ⟨79, [80, 65, 66, 67], 5, by kernel_rfl, by intro _; kernel_rfl, by decide +kernel⟩
theorem dec_13_6 : DecOk (apF 6 (- -sumP (Int.ofNat 13) 6) #[]) (lettersP (Int.ofNat 13) 6) := .inr ⟨79, [80, 65, 66, 67, 68], 6, by kernel_rfl, by intro _; kernel_rfl, by decide +kernel⟩
theorem dec_14_0 : DecOk (apF 6 (- -sumP (Int.ofNat 14) 0) #[]) (lettersP (Int.ofNat 14) 0) := .inl ⟨by kernel_rfl, by kernel_rfl⟩
theorem dec_14_1 : DecOk (apF 6 (- -sumP (Int.ofNat 14) 1) #[]) (lettersP (Int.ofNat 14) 1) := .inr ⟨80, [], 1, by kernel_rfl, by intro _; kernel_rfl, by decide +kernel⟩
theorem dec_14_2 : DecOk (apF 6 (- -sumP (Int.ofNat 14) 2) #[]) (lettersP (Int.ofNat 14) 2) := .inr ⟨80, [65], 2, by kernel_rfl, by intro _; kernel_rfl, by decide +kernel⟩
theorem dec_14_3 : DecOk (apF 6 (- -sumP (Int.ofNat 14) 3) #[]) (lettersP (Int.ofNat 14) 3) := .inr ⟨80, [65, 66], 3, by kernel_rfl, by intro _; kernel_rfl, by decide +kernel⟩
theorem dec_14_4 : DecOk (apF 6 (- -sumP (Int.ofNat 14) 4) #[]) (lettersP (Int.ofNat 14) 4) := .inr ⟨80, [65, 66, 67], 4, by kernel_rfl, by intro _; kernel_rfl, by decide +kernel⟩
theorem dec_14_5 : DecOk (apF 6 (- -sumP (Int.ofNat 14) 5) #[]) (lettersP (Int.ofNat 14) 5) := .inr ⟨80, [65, 66, 67, 68], 5, by kernel_rfl, by intro _; kernel_rfl, by decide +kernel⟩
theorem dec_14_6 : DecOk (apF 6 (- -sumP (Int.ofNat 14) 6) #[]) (lettersP (Int.ofNat 14) 6) := .inr ⟨80, [65, 66, 67, 68, 69], 6, by kernel_rfl, by intro _; kernel_rfl, by decide +kernel⟩
theorem dec_0 : ∀ n < 7, DecOk (apF 6 (- -sumP (Int.ofNat 0) n) #[]) (lettersP (Int.ofNat 0) n) := (lt_step (lt_step (lt_step (lt_step (lt_step (lt_step (lt_step lt_zero dec_0_0) dec_0_1) dec_0_2) dec_0_3) dec_0_4) dec_0_5) dec_0_6)
theorem dec_1 : ∀ n < 7, DecOk (apF 6 (- -sumP (Int.ofNat 1) n) #[]) (lettersP (Int.ofNat 1) n) := (lt_step (lt_step (lt_step (lt_step (lt_step (lt_step (lt_step lt_zero dec_1_0) dec_1_1) dec_1_2) dec_1_3) dec_1_4) dec_1_5) dec_1_6)
theorem dec_2 : ∀ n < 7, DecOk (apF 6 (- -sumP (Int.ofNat 2) n) #[]) (lettersP (Int.ofNat 2) n) := (lt_step (lt_step (lt_step (lt_step (lt_step (lt_step (lt_step lt_zero dec_2_0) dec_2_1) dec_2_2) dec_2_3) dec_2_4) dec_2_5) dec_2_6)
theorem dec_3 : ∀ n < 7, DecOk (apF 6 (- -sumP (Int.ofNat 3) n) #[]) (lettersP (Int.ofNat 3) n) := (lt_step (lt_step (lt_step (lt_step (lt_step (lt_step (lt_step lt_zero dec_3_0) dec_3_1) dec_3_2) dec_3_3) dec_3_4) dec_3_5) dec_3_6)
theorem dec_4 : ∀ n < 7, DecOk (apF 6 (- -sumP (Int.ofNat 4) n) #[]) (lettersP (Int.ofNat 4) n) := (lt_step (lt_step (lt_step (lt_step (lt_step (lt_step (lt_step lt_zero dec_4_0) dec_4_1) dec_4_2) dec_4_3) dec_4_4) dec_4_5) dec_4_6)
theorem dec_5 : ∀ n < 7, DecOk (apF 6 (- -sumP (Int.ofNat 5) n) #[]) (lettersP (Int.ofNat 5) n) := (lt_step (lt_step (lt_step (lt_step (lt_step (lt_step (lt_step lt_zero dec_5_0) dec_5_1) dec_5_2) dec_5_3) dec_5_4) dec_5_5) dec_5_6)
theorem dec_6 : ∀ n < 7, DecOk (apF 6 (- -sumP (Int.ofNat 6) n) #[]) (lettersP (Int.ofNat 6) n) := (lt_step (lt_step (lt_step (lt_step (lt_step (lt_step (lt_step lt_zero dec_6_0) dec_6_1) dec_6_2) dec_6_3) dec_6_4) dec_6_5) dec_6_6)
theorem dec_7 : ∀ n < 7, DecOk (apF 6 (- -sumP (Int.ofNat 7) n) #[]) (lettersP (Int.ofNat 7) n) := (lt_step (lt_step (lt_step (lt_step (lt_step (lt_step (lt_step lt_zero dec_7_0) dec_7_1) dec_7_2) dec_7_3) dec_7_4) dec_7_5) dec_7_6)
theorem dec_8 : ∀ n < 7, DecOk (apF 6 (- -sumP (Int.ofNat 8) n) #[]) (lettersP (Int.ofNat 8) n) := (lt_step (lt_step (lt_step (lt_step (lt_step (lt_step (lt_step lt_zero dec_8_0) dec_8_1) dec_8_2) dec_8_3) dec_8_4) dec_8_5) dec_8_6)
theorem dec_9 : ∀ n < 7, DecOk (apF 6 (- -sumP (Int.ofNat 9) n) #[]) (lettersP (Int.ofNat 9) n) := (lt_step (lt_step (lt_step (lt_step (lt_step (lt_step (lt_step lt_zero dec_9_0) dec_9_1) dec_9_2) dec_9_3) dec_9_4) dec_9_5) dec_9_6)
theorem dec_10 : ∀ n < 7, DecOk (apF 6 (- -sumP (Int.ofNat 10) n) #[]) (lettersP (Int.ofNat 10) n) := (lt_step (lt_step (lt_step (lt_step (lt_step (lt_step (lt_step lt_zero dec_10_0) dec_10_1) dec_10_2) dec_10_3) dec_10_4) dec_10_5) dec_10_6)
theorem dec_11 : ∀ n < 7, DecOk (apF 6 (- -sumP (Int.ofNat 11) n) #[]) (lettersP (Int.ofNat 11) n) := (lt_step (lt_step (lt_step (lt_step (lt_step (lt_step (lt_step lt_zero dec_11_0) dec_11_1) dec_11_2) dec_11_3) dec_11_4) dec_11_5) dec_11_6)
theorem dec_12 : ∀ n < 7, DecOk (apF 6 (- -sumP (Int.ofNat 12) n) #[]) (lettersP (Int.ofNat 12) n) := (lt_step (lt_step (lt_step (lt_step (lt_step (lt_step (lt_step lt_zero dec_12_0) dec_12_1) dec_12_2) dec_12_3) dec_12_4) dec_12_5) dec_12_6)
theorem dec_13 : ∀ n < 7, DecOk (apF 6 (- -sumP (Int.ofNat 13) n) #[]) (lettersP (Int.ofNat 13) n) := (lt_step (lt_step (lt_step (lt_step (lt_step (lt_step (lt_step lt_zero dec_13_0) dec_13_1) dec_13_2) dec_13_3) dec_13_4) dec_13_5) dec_13_6)
theorem dec_14 : ∀ n < 7, DecOk (apF 6 (- -sumP (Int.ofNat 14) n) #[]) (lettersP (Int.ofNat 14) n) := (lt_step (lt_step (lt_step (lt_step (lt_step (lt_step (lt_step lt_zero dec_14_0) dec_14_1) dec_14_2) dec_14_3) dec_14_4) dec_14_5) dec_14_6)
theorem dec_all : ∀ k < 15, ∀ n < 7, DecOk (apF 6 (- -sumP (Int.ofNat k) n) #[]) (lettersP (Int.ofNat k) n) := (lt_step (lt_step (lt_step (lt_step (lt_step (lt_step (lt_step (lt_step (lt_step (lt_step (lt_step (lt_step (lt_step (lt_step (lt_step lt_zero dec_0) dec_1) dec_2) dec_3) dec_4) dec_5) dec_6) dec_7) dec_8) dec_9) dec_10) dec_11) dec_12) dec_13) dec_14)
theorem dec_ok {fr : Int} {n : Nat} (h0 : 0 ≤ fr) (h1 : fr < 15) (hn : n ≤ 6) : DecOk (apF 6 (- -sumP fr n) #[]) (lettersP fr n) := by
  obtain ⟨k, rfl⟩ := Int.eq_ofNat_of_zero_le h0
  exact dec_all k (by omega) n (by omega)
end WDec
namespace WQ2
open WC9
open WC2
open WC1
open WPa
open WQ3
open WP
open WDec
open WQ1
theorem freshWQ2 : True := by w_top off; trivial
noncomputable def eF (k s : Nat) : Nat := 65 + (k + 1 + s / 2) % 16 + (if s % 2 = 0 then 32 else 0)
theorem eF_inj : ∀ k < 15, ∀ a < 12, ∀ b < 12, eF k a = eF k b → a = b := by decide +kernel
theorem eF_low : ∀ k < 15, ∀ a < 12, Txt.lower ⟨#[eF k a]⟩ = ⟨#[eF k (a / 2 * 2)]⟩ := by decide +kernel
theorem enc_ok {k : Nat} (h : k < 15) : Enc (eF k) := ⟨eF_inj k h, eF_low k h⟩
noncomputable def oddL (n : Nat) : List Nat := (List.range n).map fun i => 2 * i + 1
theorem letters_sy : ∀ k < 15, ∀ n < 7, lettersP (Int.ofNat k) n = Sy (eF k) (oddL n) := by decide +kernel
theorem symR_le {n : Nat} (hn : n ≤ 6) (row least : List Int) : Le (symR n row least) := by
  intro s hs
  obtain ⟨i, hi, rfl⟩ := List.mem_map.mp hs
  have := List.mem_range.mp hi
  split <;> omega
theorem join_one : ∀ l : List Nat, Str.join ⟨#[]⟩ (l.map fun c => (⟨#[c]⟩ : Str)) = ⟨l.toArray⟩
  | [] => rfl
  | c :: l => by
    rw [List.map_cons, PyProof.Rows.join_nil_cons, join_one l]
    apply str_ext
    show (#[c] ++ l.toArray).toList = _
    simp
theorem word_sy {k n : Nat} (hk : k < 15) (hn : n ≤ 6) (row least : List Int) : WC9.wordP (lettersP (Int.ofNat k) n) row least = Sy (eF k) (symR n row least) := by
  have hl : (lettersP (Int.ofNat k) n).length = n := letters_len k hk n (by omega)
  have hod : (oddL n).length = n := by unfold oddL; rw [List.length_map, List.length_range]
  unfold WC9.wordP
  rw [hl]
  have e1 : (rangeKs 0 n).map (WC9.letterP (lettersP (Int.ofNat k) n) row least) = ((symR n row least).map (eF k)).map fun c => (⟨#[c]⟩ : Str) := by
    unfold symR rangeKs
    rw [List.map_map, List.map_map, List.map_map]
    refine List.map_congr_left fun i hi => ?_
    have hi2 := List.mem_range.mp hi
    show WC9.letterP _ _ _ ((0 : Int) + (i : Int)) = (⟨#[eF k (if least.getD i 0 < row.getD i 0 then 2 * i + 1 else 2 * i)]⟩ : Str)
    have e2 : ((0 : Int) + (i : Int)).toNat = i := by omega
    have e3 : Txt.item (lettersP (Int.ofNat k) n) (0 + (i : Int)) = ⟨#[eF k (2 * i + 1)]⟩ := by
      rw [letters_sy k hk n (by omega), item_sy (by omega) (by rw [hod]; omega), e2]
      congr 4
      unfold oddL
      rw [List.getD_eq_getElem?_getD, List.getElem?_map, List.getElem?_range hi2]
      rfl
    unfold WC9.letterP
    rw [e2, e3]
    by_cases q : least.getD i 0 < row.getD i 0
    · rw [if_pos q, if_pos q]
    · rw [if_neg q, if_neg q, eF_low k hk (2 * i + 1) (by omega), show (2 * i + 1) / 2 * 2 = 2 * i by omega]
  rw [e1, eq_of_beq (PyProof.Rows.join_plain_closes _ _)]
  exact join_one _
end WQ2
namespace WQ
open WC9
open WC2
open WC1
open WPa
open WQ1
open WQ3
open WP
open WDec
open WQ2
theorem freshWQ : True := by w_top off; trivial
noncomputable def LevFacts (W : Str) (Ws : List Str) (du : List Int) : Prop :=
  W.length ≤ 12 ∧ (∀ x ∈ Ws, x.length ≤ 12) ∧ Ws.length = du.length ∧ (∀ d ∈ du, 0 ≤ d ∧ d ≤ 1000) ∧ du.length ≤ 11 ∧
  ((rangeKs 0 du.length).map fun k => WC2.levP W (Ws.getD k.toNat Str.empty) (du.getD k.toNat 0)) = du ∧
  ((rangeKs 0 du.length).map fun k => WC2.levP (Ws.getD k.toNat Str.empty) W ((du.getD k.toNat 0).fdiv 2)) = du.map fun d => if d.fdiv 2 + 1 < d then d.fdiv 2 + 1 else d
theorem pair_out {n : Nat} {r1 r2 least : List Int} {d : Int} (h : okPair n r1 r2 least d = true) : 0 ≤ d ∧ d ≤ 1000 ∧ levG (symR n r1 least) (symR n r2 least) d = d ∧ levG (symR n r2 least) (symR n r1 least) (d.fdiv 2) = if d.fdiv 2 + 1 < d then d.fdiv 2 + 1 else d := by
  unfold okPair at h
  simp only [Bool.and_eq_true, decide_eq_true_eq] at h
  exact ⟨h.1.1.1, h.1.1.2, h.1.2, h.2⟩
theorem range_at {f : Int → Int} {n j : Nat} (h : j < n) : ((rangeKs 0 n).map f).getD j 0 = f (j : Int) := by
  unfold rangeKs
  rw [List.map_map, List.getD_eq_getElem?_getD, List.getElem?_map, List.getElem?_range h]
  show f (0 + (j : Int)) = _
  rw [Int.zero_add]
theorem map_at {g : Int → Int} {l : List Int} {j : Nat} (h : j < l.length) : (l.map g).getD j 0 = g (l.getD j 0) := by
  rw [List.getD_eq_getElem?_getD, List.getElem?_map, List.getD_eq_getElem?_getD, List.getElem?_eq_getElem h]
  rfl
theorem range_is {l m : List Int} {d : Int} (hl : l.length = m.length) (h : ∀ j, j < m.length → l.getD j d = m.getD j d) : l = m := by
  apply List.ext_getElem hl
  intro j h1 h2
  have e := h j h2
  rw [List.getD_eq_getElem?_getD, List.getElem?_eq_getElem h1, List.getD_eq_getElem?_getD, List.getElem?_eq_getElem h2] at e
  exact e
theorem lev_all (ds : List Int) {fr pk : Int} (h0 : 0 ≤ fr) (h1 : fr < 15) (hp0 : 0 ≤ pk) (hp1 : pk < ((covE ds).length : Int)) :
    LevFacts (WC9.wordP (lettersP fr (spotsP (cellsE ds)).length) ((rowsP (cellsE ds) (spotsP (cellsE ds)) (covE ds)).getD pk.toNat []) (leastP (rowsP (cellsE ds) (spotsP (cellsE ds)) (covE ds)) (spotsP (cellsE ds)).length))
      ((rowsP (cellsE ds) (spotsP (cellsE ds)) (covE ds)).map fun row => WC9.wordP (lettersP fr (spotsP (cellsE ds)).length) row (leastP (rowsP (cellsE ds) (spotsP (cellsE ds)) (covE ds)) (spotsP (cellsE ds)).length))
      (dueP (roundsP (spotsP (cellsE ds)) ((covE ds).getD pk.toNat 0)) (covE ds)) := by
  obtain ⟨k, rfl⟩ := Int.eq_ofNat_of_zero_le h0
  obtain ⟨i, rfl⟩ := Int.eq_ofNat_of_zero_le hp0
  have hk : k < 15 := by omega
  have hi : i < (covE ds).length := by omega
  have hn := spots6 ds
  have hrl := rowsP_length (cellsE ds) (spotsP (cellsE ds)) (covE ds)
  have hpo := fun j (hj : j < (covE ds).length) => pairs_ok ds hi hj
  have hc11 := (cov_ok ds).2.1
  rw [show ((i : Nat) : Int).toNat = i from rfl]
  have hmap : ∀ row, wordP (lettersP (k : Int) (spotsP (cellsE ds)).length) row (leastP (rowsP (cellsE ds) (spotsP (cellsE ds)) (covE ds)) (spotsP (cellsE ds)).length) = Sy (eF k) (symR (spotsP (cellsE ds)).length row (leastP (rowsP (cellsE ds) (spotsP (cellsE ds)) (covE ds)) (spotsP (cellsE ds)).length)) := fun row => word_sy hk hn row _
  have hsl : ∀ row, (symR (spotsP (cellsE ds)).length row (leastP (rowsP (cellsE ds) (spotsP (cellsE ds)) (covE ds)) (spotsP (cellsE ds)).length)).length ≤ 12 := by
    intro row
    unfold symR
    rw [List.length_map, List.length_range]
    omega
  generalize leastP (rowsP (cellsE ds) (spotsP (cellsE ds)) (covE ds)) (spotsP (cellsE ds)).length = least at hpo hmap hsl
  generalize rowsP (cellsE ds) (spotsP (cellsE ds)) (covE ds) = rows at hpo hrl
  generalize roundsP (spotsP (cellsE ds)) ((covE ds).getD i 0) = out at hpo
  have hdl : (dueP out (covE ds)).length = (covE ds).length := List.length_map _
  have hdat : ∀ j, j < (covE ds).length → (dueP out (covE ds)).getD j 0 = kdfLook out ((covE ds).getD j 0) 0 := by
    intro j hj
    unfold dueP
    rw [List.getD_eq_getElem?_getD, List.getElem?_map, List.getD_eq_getElem?_getD, List.getElem?_eq_getElem hj]
    rfl
  have hwat : ∀ j, j < (covE ds).length → (rows.map fun row => wordP (lettersP (k : Int) (spotsP (cellsE ds)).length) row least).getD j Str.empty = Sy (eF k) (symR (spotsP (cellsE ds)).length (rows.getD j []) least) := by
    intro j hj
    rw [List.getD_eq_getElem?_getD, List.getElem?_map, List.getD_eq_getElem?_getD, List.getElem?_eq_getElem (by omega)]
    exact hmap _
  have hpr := fun j hj => pair_out (hpo j hj)
  refine ⟨?_, ?_, ?_, ?_, ?_, ?_, ?_⟩
  · rw [hmap, sy_len]; exact hsl _
  · intro x hx
    obtain ⟨row, _, rfl⟩ := List.mem_map.mp hx
    rw [hmap, sy_len]; exact hsl _
  · rw [List.length_map]; omega
  · intro d hd
    obtain ⟨j, hj, rfl⟩ := List.getElem_of_mem hd
    have e := hdat j (by omega)
    rw [List.getD_eq_getElem?_getD, List.getElem?_eq_getElem hj] at e
    have h := hpr j (by omega)
    rw [← e] at h
    exact ⟨h.1, h.2.1⟩
  · omega
  · refine range_is (d := 0) (by rw [List.length_map, rangeKs_length]) fun j hj => ?_
    rw [hdl] at hj
    rw [range_at (by omega), show ((j : Nat) : Int).toNat = j from rfl, hmap, hwat j hj, hdat j hj, lev_sy (enc_ok hk) (symR_le hn _ _) (symR_le hn _ _)]
    exact (hpr j hj).2.2.1
  · refine range_is (d := 0) (by rw [List.length_map, rangeKs_length, List.length_map]) fun j hj => ?_
    rw [List.length_map, hdl] at hj
    rw [range_at (by omega), show ((j : Nat) : Int).toNat = j from rfl, hmap, hwat j hj, hdat j hj, lev_sy (enc_ok hk) (symR_le hn _ _) (symR_le hn _ _), (hpr j hj).2.2.2]
    rw [map_at (g := fun d : Int => if d.fdiv 2 + 1 < d then d.fdiv 2 + 1 else d) (l := dueP out (covE ds)) (by omega), hdat j hj]
end WQ
namespace WL
open WC3
open WC5
open WC6a
open WC6
open WC7
open WC8
open WC9
open WC1
open WC2
open WPa
open WQ1
open WQ3
open WP
open WDec
open WQ2
open WQ
local macro_rules | `(tactic| walk_at "MY blank 0") => `(tactic| skip)
local macro_rules | `(tactic| walk_at "MY blank 1") => `(tactic| skip)
local macro_rules | `(tactic| walk_at "MY blank 2") => `(tactic| skip)
local macro_rules | `(tactic| walk_at "MY blank 3") => `(tactic| skip)
local macro_rules | `(tactic| walk_at "MY blank 4") => `(tactic| skip)
local macro_rules | `(tactic| walk_at "MY blank 5") => `(tactic| skip)
local macro_rules | `(tactic| walk_at "MY blank 6") => `(tactic| skip)
local macro_rules | `(tactic| walk_at "MY blank 7") => `(tactic| skip)
local macro_rules | `(tactic| walk_at "MY blank 8") => `(tactic| skip)
local macro_rules | `(tactic| walk_at "MY blank 9") => `(tactic| skip)
theorem freshWL : True := by w_top off; trivial
theorem topA_law (env : Env) : callerA.deeper env = topA 302 7 (some []) env [] := rfl
structure S7 where
  hl : Addr
  hv : List Value
  hn : Nat
  rl : Led
structure S4 where
  cl : Addr
  cv : List Value
  cn : Nat
  ox : Obj
structure D1 where
  dl : Addr
  dv : List Value
  dn : Nat
structure O1 where
  o : Obj
structure Tk where
  t : Tok
structure D2 where
  dl : Addr
  dx : Obj
  kvs : List (Int × Value)
  ox : Obj
theorem min5 {ws : List Value} {ns : List Int} (h : IntsAre ws (List.take 5 ns ++ [0, 0, 0, 0, 0])) {a b c d e : Value} : min [a, b, c, d, e].length ws.length = 5 := by
  rw [IntsAre.length h, List.length_append]
  simp only [List.length_cons, List.length_nil]
  omega
theorem draw_at {ns : List Int} {i : Nat} {a b : Int} (h1 : [1, 0, 0, 1, 2][i]? = some a) (h2 : (List.take 5 ns ++ [0, 0, 0, 0, 0])[i]? = some b) : a + b = (drawsP ns).getD i 0 := by
  unfold drawsP
  rw [List.getD_eq_getElem?_getD, List.getElem?_zipWith, h1, h2]
  rfl
theorem hl5 (a b c d e : Tok) : IntsAre [.int 1 a, .int 0 b, .int 0 c, .int 1 d, .int 2 e] [1, 0, 0, 1, 2] := .cons 1 _ (.cons 0 _ (.cons 0 _ (.cons 1 _ (.cons 2 _ .nil))))
set_option pp.maxSteps 2500
set_option pp.deepTerms false
theorem size_one (n : Nat) : Builtin.Range.rangeSize 0 (n : Int) 1 = (n : Int) := by rw [PyProof.Rows.rangeSize_nat]; omega
theorem range12 : rangeInts 0 1 12 = rangeKs 0 12 := by decide
theorem cellsE_t {ds : List Int} {ys : List Value} (hq : covF (12 + 1) (cellsP ds) = []) (h : IntsAre ys (rangeInts 0 1 12)) : IntsAre ys (cellsE ds) := by unfold cellsE; rw [if_pos hq, ← range12]; exact h
local macro_rules | `(tactic| walk_at "MY room") => `(tactic| decide +kernel)
local macro_rules | `(tactic| k_all) => `(tactic| assumption)
local macro_rules | `(tactic| k_ne) => `(tactic| first | exact NCs.n8 (by assumption) | exact NCs.n7 (by assumption) | exact NCs.n6 (by assumption) | exact NCs.n5 (by assumption) | exact NCs.n4 (by assumption) | exact NCs.n3 (by assumption) | exact NCs.n2 (by assumption) | exact NCs.n1 (by assumption))
local macro_rules | `(tactic| walk_at "call ref") => `(tactic| (k_here; k_dflt (first | (refine' ctr_go (WC8.ctr_height _ _ _ _ _ ?z1 _ _ _ _ ?z2 ?z3) ?_; (case z1 => assumption); (case z2 => assumption); (case z3 => assumption); walk_at "MY post0") | ((first | (refine' ctr_go (WC5.ctr_cells _ _ _ _ _ ?z1 ?z2 ?z3) ?_; (case z1 => assumption); (case z2 => omega); (case z3 => omega)) | (refine' ctr_go (WC6.ctr_cov _ 12 _ _ _ _ ?z1 ?z2 (by decide) ?z3) ?_; (case z1 => assumption); (case z2 => first | exact (cells_ok _).1 | exact (cellsE_ok _).1); (case z3 => first | exact (cells_ok _).2 | exact (cellsE_ok _).2))); intro _ _ _ _ _ N' hn' hx' hR'; clear hx'; obtain ⟨lr, us, nr, hr1, hr2, hr3⟩ := hR'; subst hr1 hr2; (simp only [List.cons_append, List.nil_append] at N'); replace hn' := hne_one hn'; (simp only [AllNe, and_true] at hn'); (try dsimp only)))))
local macro_rules | `(tactic| walk_at "call type:list") => `(tactic| (k_here; k_dflt (refine list_range_ints (n := 12) (by rfl) (by k_asm) (by k_asm) (by assumption) (by decide) (size_one 12) (by decide) ?_; intro _ _ _ _ _ _ _ l1 _; (try k_lt l1); (try k_sweep))))
local macro_rules | `(tactic| walk_at "call builtin:len") => `(tactic| (k_here; k_dflt (refine len_ints (by k_asm) (by k_mem) (by assumption) (by omega) ?_; intro _ _; (try dsimp only))))
theorem nc_here {L d : Nat} {o1 o2 o3 o4 o5 o6 o7 o8 : Obj} {r : Led} (h : AllNe d ((L + 1 + 1 + 1 + 1 + 1 + 1 + 1 + 1, o8) :: (L + 1 + 1 + 1 + 1 + 1 + 1 + 1, o7) :: (L + 1 + 1 + 1 + 1 + 1 + 1, o6) :: (L + 1 + 1 + 1 + 1 + 1, o5) :: (L + 1 + 1 + 1 + 1, o4) :: (L + 1 + 1 + 1, o3) :: (L + 1 + 1, o2) :: (L + 1, o1) :: r)) : NCs L d :=
  ⟨Ne.symm h.2.2.2.2.2.2.2.1, Ne.symm h.2.2.2.2.2.2.1, Ne.symm h.2.2.2.2.2.1, Ne.symm h.2.2.2.2.1, Ne.symm h.2.2.2.1, Ne.symm h.2.2.1, Ne.symm h.2.1, Ne.symm h.1⟩
theorem nc_tl {L d : Nat} {p : Addr × Obj} {r : Led} (h : AllNe d (p :: r)) : (AllNe d r) := h.2
theorem nc_lt0 {L d : Nat} (h : @LT.lt Nat _ (L + 1 + 1 + 1 + 1 + 1 + 1 + 1 + 1) d ∧ @LT.lt Nat _ (L + 1 + 1 + 1 + 1 + 1 + 1 + 1) d ∧ @LT.lt Nat _ (L + 1 + 1 + 1 + 1 + 1 + 1) d ∧ @LT.lt Nat _ (L + 1 + 1 + 1 + 1 + 1) d ∧ @LT.lt Nat _ (L + 1 + 1 + 1 + 1) d ∧ @LT.lt Nat _ (L + 1 + 1 + 1) d ∧ @LT.lt Nat _ (L + 1 + 1) d ∧ @LT.lt Nat _ (L + 1) d) : NCs L d := ⟨Nat.ne_of_gt h.2.2.2.2.2.2.2, Nat.ne_of_gt h.2.2.2.2.2.2.1, Nat.ne_of_gt h.2.2.2.2.2.1, Nat.ne_of_gt h.2.2.2.2.1, Nat.ne_of_gt h.2.2.2.1, Nat.ne_of_gt h.2.2.1, Nat.ne_of_gt h.2.1, Nat.ne_of_gt h.1⟩
theorem nc_lt1 {L d : Nat} {P : Prop} (h : P ∧ @LT.lt Nat _ (L + 1 + 1 + 1 + 1 + 1 + 1 + 1 + 1) d ∧ @LT.lt Nat _ (L + 1 + 1 + 1 + 1 + 1 + 1 + 1) d ∧ @LT.lt Nat _ (L + 1 + 1 + 1 + 1 + 1 + 1) d ∧ @LT.lt Nat _ (L + 1 + 1 + 1 + 1 + 1) d ∧ @LT.lt Nat _ (L + 1 + 1 + 1 + 1) d ∧ @LT.lt Nat _ (L + 1 + 1 + 1) d ∧ @LT.lt Nat _ (L + 1 + 1) d ∧ @LT.lt Nat _ (L + 1) d) : NCs L d := nc_lt0 h.2
theorem nc_lt2 {L d : Nat} {P Q : Prop} (h : P ∧ Q ∧ @LT.lt Nat _ (L + 1 + 1 + 1 + 1 + 1 + 1 + 1 + 1) d ∧ @LT.lt Nat _ (L + 1 + 1 + 1 + 1 + 1 + 1 + 1) d ∧ @LT.lt Nat _ (L + 1 + 1 + 1 + 1 + 1 + 1) d ∧ @LT.lt Nat _ (L + 1 + 1 + 1 + 1 + 1) d ∧ @LT.lt Nat _ (L + 1 + 1 + 1 + 1) d ∧ @LT.lt Nat _ (L + 1 + 1 + 1) d ∧ @LT.lt Nat _ (L + 1 + 1) d ∧ @LT.lt Nat _ (L + 1) d) : NCs L d := nc_lt0 h.2.2
theorem nc_lt3 {L d : Nat} {P Q R : Prop} (h : P ∧ Q ∧ R ∧ @LT.lt Nat _ (L + 1 + 1 + 1 + 1 + 1 + 1 + 1 + 1) d ∧ @LT.lt Nat _ (L + 1 + 1 + 1 + 1 + 1 + 1 + 1) d ∧ @LT.lt Nat _ (L + 1 + 1 + 1 + 1 + 1 + 1) d ∧ @LT.lt Nat _ (L + 1 + 1 + 1 + 1 + 1) d ∧ @LT.lt Nat _ (L + 1 + 1 + 1 + 1) d ∧ @LT.lt Nat _ (L + 1 + 1 + 1) d ∧ @LT.lt Nat _ (L + 1 + 1) d ∧ @LT.lt Nat _ (L + 1) d) : NCs L d := nc_lt0 h.2.2.2
theorem nc_lt4 {L d : Nat} {P Q R S : Prop} (h : P ∧ Q ∧ R ∧ S ∧ @LT.lt Nat _ (L + 1 + 1 + 1 + 1 + 1 + 1 + 1 + 1) d ∧ @LT.lt Nat _ (L + 1 + 1 + 1 + 1 + 1 + 1 + 1) d ∧ @LT.lt Nat _ (L + 1 + 1 + 1 + 1 + 1 + 1) d ∧ @LT.lt Nat _ (L + 1 + 1 + 1 + 1 + 1) d ∧ @LT.lt Nat _ (L + 1 + 1 + 1 + 1) d ∧ @LT.lt Nat _ (L + 1 + 1 + 1) d ∧ @LT.lt Nat _ (L + 1 + 1) d ∧ @LT.lt Nat _ (L + 1) d) : NCs L d := nc_lt0 h.2.2.2.2
theorem nc_sym0 {L d : Nat} (h : (L + 1 + 1 + 1 + 1 + 1 + 1 + 1 + 1) ≠ d ∧ (L + 1 + 1 + 1 + 1 + 1 + 1 + 1) ≠ d ∧ (L + 1 + 1 + 1 + 1 + 1 + 1) ≠ d ∧ (L + 1 + 1 + 1 + 1 + 1) ≠ d ∧ (L + 1 + 1 + 1 + 1) ≠ d ∧ (L + 1 + 1 + 1) ≠ d ∧ (L + 1 + 1) ≠ d ∧ (L + 1) ≠ d) : NCs L d := ⟨Ne.symm h.2.2.2.2.2.2.2, Ne.symm h.2.2.2.2.2.2.1, Ne.symm h.2.2.2.2.2.1, Ne.symm h.2.2.2.2.1, Ne.symm h.2.2.2.1, Ne.symm h.2.2.1, Ne.symm h.2.1, Ne.symm h.1⟩
theorem nc_sym1 {L d : Nat} {P : Prop} (h : P ∧ (L + 1 + 1 + 1 + 1 + 1 + 1 + 1 + 1) ≠ d ∧ (L + 1 + 1 + 1 + 1 + 1 + 1 + 1) ≠ d ∧ (L + 1 + 1 + 1 + 1 + 1 + 1) ≠ d ∧ (L + 1 + 1 + 1 + 1 + 1) ≠ d ∧ (L + 1 + 1 + 1 + 1) ≠ d ∧ (L + 1 + 1 + 1) ≠ d ∧ (L + 1 + 1) ≠ d ∧ (L + 1) ≠ d) : NCs L d := nc_sym0 h.2
theorem nc_sym2 {L d : Nat} {P Q : Prop} (h : P ∧ Q ∧ (L + 1 + 1 + 1 + 1 + 1 + 1 + 1 + 1) ≠ d ∧ (L + 1 + 1 + 1 + 1 + 1 + 1 + 1) ≠ d ∧ (L + 1 + 1 + 1 + 1 + 1 + 1) ≠ d ∧ (L + 1 + 1 + 1 + 1 + 1) ≠ d ∧ (L + 1 + 1 + 1 + 1) ≠ d ∧ (L + 1 + 1 + 1) ≠ d ∧ (L + 1 + 1) ≠ d ∧ (L + 1) ≠ d) : NCs L d := nc_sym0 h.2.2
theorem nc_sym3 {L d : Nat} {P Q R : Prop} (h : P ∧ Q ∧ R ∧ (L + 1 + 1 + 1 + 1 + 1 + 1 + 1 + 1) ≠ d ∧ (L + 1 + 1 + 1 + 1 + 1 + 1 + 1) ≠ d ∧ (L + 1 + 1 + 1 + 1 + 1 + 1) ≠ d ∧ (L + 1 + 1 + 1 + 1 + 1) ≠ d ∧ (L + 1 + 1 + 1 + 1) ≠ d ∧ (L + 1 + 1 + 1) ≠ d ∧ (L + 1 + 1) ≠ d ∧ (L + 1) ≠ d) : NCs L d := nc_sym0 h.2.2.2
theorem nc_sym4 {L d : Nat} {P Q R S : Prop} (h : P ∧ Q ∧ R ∧ S ∧ (L + 1 + 1 + 1 + 1 + 1 + 1 + 1 + 1) ≠ d ∧ (L + 1 + 1 + 1 + 1 + 1 + 1 + 1) ≠ d ∧ (L + 1 + 1 + 1 + 1 + 1 + 1) ≠ d ∧ (L + 1 + 1 + 1 + 1 + 1) ≠ d ∧ (L + 1 + 1 + 1 + 1) ≠ d ∧ (L + 1 + 1 + 1) ≠ d ∧ (L + 1 + 1) ≠ d ∧ (L + 1) ≠ d) : NCs L d := nc_sym0 h.2.2.2.2
set_option maxHeartbeats 100000000 in
theorem lawx : rx.Holds := by
  refine hd ?_
  k_go0
  rename_i w s0 s1 mg mb G Y fa o pm doc ho hg KX X V GL T B TE TW a1 a2 M a3 a4 hcd ns hs hlay0 hLay1 hr1 hl2 a5 a6 l vs a7 hL ra w1 r0 hI hr hc1 hc2 K0 hD h1 tk1 F c1 c2 c3 c4 c5 c6 c7 c8 e1 e2 e3 e4 e5 e6 e7 e8 N0 X0
  refine wpAny_mono (E := NoE) (Q := fun f s' => f = Flow.ret (.bool true) ∧ ∃ h' tk' m', s' = { s1 with heap := h', toks := tk' } ∧ Fr s1.heap s1.heap.objs.size h' m') ?_ ?_ (fun _ _ e => e.elim)
  · rw [topA_law]
    clear Y ho hg X V GL B TE TW M hcd hs hlay0 hLay1 hr1 hl2 ra w1 r0 hr hc2 hD X0 G
    have K1 : Below callerA s1.heap [] s1.heap := K0
    clear K0
    obtain ⟨v1, x1⟩ : ∃ v, c1.data = .cell v := ⟨_, e1⟩
    obtain ⟨v2, x2⟩ : ∃ v, c2.data = .cell v := ⟨_, e2⟩
    obtain ⟨v3, x3⟩ : ∃ v, c3.data = .cell v := ⟨_, e3⟩
    obtain ⟨v4, x4⟩ : ∃ v, c4.data = .cell v := ⟨_, e4⟩
    obtain ⟨v5, x5⟩ : ∃ v, c5.data = .cell v := ⟨_, e5⟩
    obtain ⟨v6, x6⟩ : ∃ v, c6.data = .cell v := ⟨_, e6⟩
    obtain ⟨v7, x7⟩ : ∃ v, c7.data = .cell v := ⟨_, e7⟩
    obtain ⟨v8, x8⟩ : ∃ v, c8.data = .cell v := ⟨_, e8⟩
    clear e1 e2 e3 e4 e5 e6 e7 e8
    generalize hLL : s1.heap.objs.size = L at *
    clear hLL
    generalize s1.heap = g at *
    (try walk_at "MY hid")
    try k_fold
    walk1
    refine cutF (σ := D1) (fun c => [(c.dl, listOf c.dv.toArray c.dn), (L + 1 + 1 + 1 + 1 + 1 + 1 + 1 + 1, c1), (L + 1 + 1 + 1 + 1 + 1 + 1 + 1, c2), (L + 1 + 1 + 1 + 1 + 1 + 1, c3), (L + 1 + 1 + 1 + 1 + 1, c4), (L + 1 + 1 + 1 + 1, c5), (L + 1 + 1 + 1, c6), (L + 1 + 1, c7), (L + 1, c8)]) (fun c => [(Str.ofString "draws", .ref c.dl)]) (fun c => IntsAre c.dv (drawsP ns) ∧ NCs L c.dl) F ?_ ?_
    · refine Assign_ListComp_X F rfl (by with_unfolding_all rfl) (by with_unfolding_all rfl) (by decide) (by rfl) (by decide) (by rfl) (by rfl) ?_ (fun _ => rfl)
      (repeat' ((fail_if_success (with_reducible show wpAny _ _ (call (Value.type _) _) _ _ _)); (fail_if_success (with_reducible show wpAny _ _ (pyIter _) _ _ _)); first | walk_at "MY hid" | (k_unfold; (try dsimp only)) | (k_end; wrow_close) | walk1 | (dsimp only; walk1) | (leave1; walk_say "STEP leave1"; try dsimp only) | fail "no step"))
      (rename Fr _ _ _ _ => F1); (rename News _ _ _ _ => N1); (rename IntsAre _ (_ ++ _) => hI1)
      refine srcX_zip2 (fun j y => ∃ t, y = .int ((drawsP ns).getD j 0) t) (by rfl) F1 N1 (isL N1 (by k_mem)) (isL N1 (by k_mem)) (by rw [PySem.sizeLine_eq]; exact Nat.le_of_ble_eq_true rfl) (by rfl) (by rfl) (by rfl) (by decide) ?_ ?_
      · rintro i C s' m'' oC E' hi ⟨x, y, hx, hy, ha, hb⟩ F2 N2 hoC
        obtain ⟨a, ta, rfl, hxa⟩ := ints_at2 (hl5 _ _ _ _ _) i hx
        obtain ⟨b, tb, rfl, hyb⟩ := ints_at2 hI1 i hy
        walk1
        walk1
        walk1
        walk1
        exact ⟨_, _, rfl, fun _ _ e => e, _, congrArg (fun i => Value.int i _) (draw_at hxa hyb)⟩
      · rintro s₁ zs hzl hR ⟨h5, rfl⟩
        rw [min5 hI1] at hzl
        have hz := ints_get (xs := drawsP ns) (hzl.trans (draws_len ns).symm) hR
        intro D h6 tk6 F6 N6 o6
        have hNC : NCs L D := (by first | exact nc_here (off_all o6) | exact nc_here (nc_tl (L := L) (off_all o6)) | exact nc_here (nc_tl (L := L) (nc_tl (L := L) (off_all o6))) | exact nc_here (nc_tl (L := L) (nc_tl (L := L) (nc_tl (L := L) (off_all o6)))) | exact nc_here (nc_tl (L := L) (nc_tl (L := L) (nc_tl (L := L) (nc_tl (L := L) (off_all o6))))) | exact nc_here (nc_tl (L := L) (nc_tl (L := L) (nc_tl (L := L) (nc_tl (L := L) (nc_tl (L := L) (off_all o6)))))) | exact nc_here (nc_tl (L := L) (nc_tl (L := L) (nc_tl (L := L) (nc_tl (L := L) (nc_tl (L := L) (nc_tl (L := L) (off_all o6))))))) | exact nc_here (nc_tl (L := L) (nc_tl (L := L) (nc_tl (L := L) (nc_tl (L := L) (nc_tl (L := L) (nc_tl (L := L) (nc_tl (L := L) (off_all o6)))))))) | exact nc_here (nc_tl (L := L) (nc_tl (L := L) (nc_tl (L := L) (nc_tl (L := L) (nc_tl (L := L) (nc_tl (L := L) (nc_tl (L := L) (nc_tl (L := L) (off_all o6))))))))) | exact nc_here (nc_tl (L := L) (nc_tl (L := L) (nc_tl (L := L) (nc_tl (L := L) (nc_tl (L := L) (nc_tl (L := L) (nc_tl (L := L) (nc_tl (L := L) (nc_tl (L := L) (off_all o6)))))))))) | exact nc_here (nc_tl (L := L) (nc_tl (L := L) (nc_tl (L := L) (nc_tl (L := L) (nc_tl (L := L) (nc_tl (L := L) (nc_tl (L := L) (nc_tl (L := L) (nc_tl (L := L) (nc_tl (L := L) (off_all o6))))))))))) | exact nc_here (nc_tl (L := L) (nc_tl (L := L) (nc_tl (L := L) (nc_tl (L := L) (nc_tl (L := L) (nc_tl (L := L) (nc_tl (L := L) (nc_tl (L := L) (nc_tl (L := L) (nc_tl (L := L) (nc_tl (L := L) (off_all o6)))))))))))))
        clear o6
        refine cutF_in ⟨D, zs, zs.length⟩ F6 N6 (by (first | exact fun _ h => h | ((repeat' (with_reducible first | exact sub_nil | exact fun _ h => h | refine sub_keep ?_ | refine sub_drop ?_)); done) | ((repeat' (first | exact fmn | refine fmc (by k_mem) ?_ | (intro p hp; k_mem))); done))) ⟨hz, hNC⟩ (fmc (by with_unfolding_all rfl) (fmn))
    · rintro ⟨dl, dv, dn⟩ u2 h2 tk2 ⟨P2, hnd⟩ F2 N2
      dsimp only at P2 hnd F2 N2
      clear F N0 hL hI
      generalize hds : drawsP ns = ds at P2
      have hlen : ds.length = 5 := by rw [← hds]; exact draws_len ns
      clear hds
      (try walk_at "MY hid")
      try k_fold
      (repeat' ((fail_if_success first | (with_reducible show wpAny _ _ (exec (Stmt.Assign [Expr.Name _ _] (Expr.IfExp _ _ _ _) _) _) _ _ _) | (with_reducible show wpAny _ _ (exec (Stmt.Assign [Expr.Name _ _] (Expr.ListComp _ _ _ _) _) _) _ _ _) | (with_reducible show wpAny _ _ (exec (Stmt.If _ _ _ _) _) _ _ _)); (fail_if_success (with_reducible show wpAny _ _ (pyIter _) _ _ _)); (fail_if_success (with_reducible show wpAny _ _ (exec (Stmt.While _ _ _ _) _) _ _ _)); first | walk_at "MY hid" | (k_unfold; (try dsimp only)) | (k_end; wrow_close) | walk1 | (dsimp only; walk1) | (leave1; walk_say "STEP leave1"; try dsimp only) | fail "no step"))
      (rename Fr _ _ _ _ => F3); (rename News _ _ _ _ => N3)
      rename_i rl rv rn hr3 hnr _ _ _ _ fl fv fn hf3 hnf _
      replace hnr : NCs L rl := nc_sym1 hnr
      replace hnf : NCs L fl := nc_sym2 hnf
      refine cutF (σ := S4) (fun c => [(c.cl, listOf c.cv.toArray c.cn), (fl, listOf fv.toArray fn), (dl, listOf dv.toArray dn), (L + 1 + 1 + 1 + 1 + 1 + 1 + 1 + 1, c1), (L + 1 + 1 + 1 + 1 + 1 + 1 + 1, c2), (L + 1 + 1 + 1 + 1 + 1 + 1, c3), (L + 1 + 1 + 1 + 1 + 1, c4), (L + 1 + 1 + 1 + 1, c5), (L + 1 + 1 + 1, c6), (L + 1 + 1, c7), (L + 1, c.ox)]) (fun c => [(Str.ofString "draws", .ref dl), (Str.ofString "found", .ref fl)])
        (fun c => IntsAre c.cv (cellsE ds) ∧ c.ox.data = .cell (some (.ref c.cl)) ∧ NCs L c.cl) F3 ?_ ?_
      · (try walk_at "MY hid")
        try k_fold
        (repeat' ((fail_if_success (with_reducible show wpAny _ _ (pyIter _) _ _ _)); (fail_if_success (with_reducible show wpAny _ _ (exec (Stmt.While _ _ _ _) _) _ _ _)); first | walk_at "MY hid" | (k_unfold; (try dsimp only)) | (k_end; wrow_close) | walk1 | (dsimp only; walk1) | (leave1; walk_say "STEP leave1"; try dsimp only) | fail "no step"))
        all_goals ((rename Fr _ _ _ _ => F4); (rename News _ _ _ _ => N4))
        · (rename IntsAre _ (rangeInts _ _ _) => hi4); (rename _ = Data.cell (some _) => hd4); (rename decide _ = true => hq)
          have hq := of_decide_eq_true hq
          have hi5 := cellsE_t hq hi4
          refine cutF_in ⟨_, _, _, _⟩ F4 N4 (by (first | exact fun _ h => h | ((repeat' (with_reducible first | exact sub_nil | exact fun _ h => h | refine sub_keep ?_ | refine sub_drop ?_)); done) | ((repeat' (first | exact fmn | refine fmc (by k_mem) ?_ | (intro p hp; k_mem))); done))) ⟨hi5, hd4, by first | exact nc_lt0 (by assumption) | exact nc_lt1 (by assumption) | exact nc_lt2 (by assumption) | exact nc_lt3 (by assumption) | exact nc_lt4 (by assumption)⟩ (fmc (by with_unfolding_all rfl) (fmc (by with_unfolding_all rfl) (fmn)))
        · (rename _ = Data.cell (some _) => hd4); (rename decide _ = false => hq)
          have hq := of_decide_eq_false hq
          have hi5 : IntsAre rv (cellsE ds) := by unfold cellsE; rw [if_neg hq]; exact hr3
          refine cutF_in ⟨_, _, _, _⟩ F4 N4 (by (first | exact fun _ h => h | ((repeat' (with_reducible first | exact sub_nil | exact fun _ h => h | refine sub_keep ?_ | refine sub_drop ?_)); done) | ((repeat' (first | exact fmn | refine fmc (by k_mem) ?_ | (intro p hp; k_mem))); done))) ⟨hi5, hd4, hnr⟩ (fmc (by with_unfolding_all rfl) (fmc (by with_unfolding_all rfl) (fmn)))
      · rintro ⟨cl, cv, cn, ox⟩ u3 h3 tk3 ⟨P3, hox, hnc⟩ F5 N5
        dsimp only at P3 hox hnc F5 N5
        clear F3 N3 hr3 hnr x8
        (try walk_at "MY hid")
        try k_fold
        (repeat' ((fail_if_success first | (with_reducible show wpAny _ _ (exec (Stmt.Assign [Expr.Name _ _] (Expr.IfExp _ _ _ _) _) _) _ _ _) | (with_reducible show wpAny _ _ (exec (Stmt.Assign [Expr.Name _ _] (Expr.ListComp _ _ _ _) _) _) _ _ _) | (with_reducible show wpAny _ _ (exec (Stmt.If _ _ _ _) _) _ _ _)); (fail_if_success (with_reducible show wpAny _ _ (pyIter _) _ _ _)); (fail_if_success (with_reducible show wpAny _ _ (exec (Stmt.While _ _ _ _) _) _ _ _)); first | walk_at "MY hid" | (k_unfold; (try dsimp only)) | (k_end; wrow_close) | walk1 | (dsimp only; walk1) | (leave1; walk_say "STEP leave1"; try dsimp only) | fail "no step"))
        refine cutF (σ := D1) (fun c => [(c.dl, listOf c.dv.toArray c.dn), (cl, listOf cv.toArray cn), (dl, listOf dv.toArray dn), (L + 1 + 1 + 1 + 1 + 1 + 1 + 1 + 1, c1), (L + 1 + 1 + 1 + 1 + 1 + 1 + 1, c2), (L + 1 + 1 + 1 + 1 + 1 + 1, c3), (L + 1 + 1 + 1 + 1 + 1, c4), (L + 1 + 1 + 1 + 1, c5), (L + 1 + 1 + 1, c6), (L + 1 + 1, c7), (L + 1, ox)]) (fun c => [(Str.ofString "draws", .ref dl), (Str.ofString "coverings", .ref c.dl)])
          (fun c => IntsAre c.dv (covE ds) ∧ NCs L c.dl) F5 ?_ ?_
        · (try walk_at "MY hid")
          try k_fold
          (repeat' ((fail_if_success (with_reducible show wpAny _ _ (pyIter _) _ _ _)); (fail_if_success (with_reducible show wpAny _ _ (exec (Stmt.While _ _ _ _) _) _ _ _)); first | walk_at "MY hid" | (k_unfold; (try dsimp only)) | (k_end; wrow_close) | walk1 | (dsimp only; walk1) | (leave1; walk_say "STEP leave1"; try dsimp only) | fail "no step"))
          all_goals ((rename Fr _ _ _ _ => F4); (rename News _ _ _ _ => N4))
          · (rename decide _ = true => hq)
            refine cutF_in ⟨_, _, _⟩ F4 N4 (by (first | exact fun _ h => h | ((repeat' (with_reducible first | exact sub_nil | exact fun _ h => h | refine sub_keep ?_ | refine sub_drop ?_)); done) | ((repeat' (first | exact fmn | refine fmc (by k_mem) ?_ | (intro p hp; k_mem))); done))) ⟨by unfold covE; assumption, by first | exact nc_sym0 (by assumption) | exact nc_sym1 (by assumption) | exact nc_sym2 (by assumption) | exact nc_sym3 (by assumption) | exact nc_sym4 (by assumption)⟩ (fmc (by with_unfolding_all rfl) (fmc (by with_unfolding_all rfl) (fmn)))
          · (rename decide _ = false => hq)
            have hq := of_decide_eq_false hq
            have hi5 : IntsAre fv (covE ds) := by unfold covE cellsE; rw [if_neg hq]; exact hf3
            refine cutF_in ⟨_, _, _⟩ F4 N4 (by (first | exact fun _ h => h | ((repeat' (with_reducible first | exact sub_nil | exact fun _ h => h | refine sub_keep ?_ | refine sub_drop ?_)); done) | ((repeat' (first | exact fmn | refine fmc (by k_mem) ?_ | (intro p hp; k_mem))); done))) ⟨hi5, hnf⟩ (fmc (by with_unfolding_all rfl) (fmc (by with_unfolding_all rfl) (fmn)))
        · rintro ⟨vl, vv, vn⟩ u4 h4 tk4 ⟨P4, hnv⟩ F6 N6
          dsimp only at P4 hnv F6 N6
          clear F5 N5 hf3 hnf
          (try walk_at "MY hid")
          try k_fold
          (repeat' ((fail_if_success first | (with_reducible show wpAny _ _ (exec (Stmt.Assign [Expr.Name _ _] (Expr.IfExp _ _ _ _) _) _) _ _ _) | (with_reducible show wpAny _ _ (exec (Stmt.Assign [Expr.Name _ _] (Expr.ListComp _ _ _ _) _) _) _ _ _) | (with_reducible show wpAny _ _ (exec (Stmt.If _ _ _ _) _) _ _ _)); (fail_if_success (with_reducible show wpAny _ _ (pyIter _) _ _ _)); (fail_if_success (with_reducible show wpAny _ _ (exec (Stmt.While _ _ _ _) _) _ _ _)); first | walk_at "MY hid" | (k_unfold; (try dsimp only)) | (k_end; wrow_close) | walk1 | (dsimp only; walk1) | (leave1; walk_say "STEP leave1"; try dsimp only) | fail "no step"))
          refine cutF (σ := S4) (fun c => [(c.cl, listOf c.cv.toArray c.cn), (vl, listOf vv.toArray vn), (cl, listOf cv.toArray cn), (dl, listOf dv.toArray dn), (L + 1 + 1 + 1 + 1 + 1 + 1 + 1 + 1, c1), (L + 1 + 1 + 1 + 1 + 1 + 1 + 1, c2), (L + 1 + 1 + 1 + 1 + 1 + 1, c3), (L + 1 + 1 + 1 + 1 + 1, c4), (L + 1 + 1 + 1 + 1, c5), (L + 1 + 1 + 1, c6), (L + 1 + 1, c.ox), (L + 1, ox)]) (fun c => [(Str.ofString "draws", .ref dl), (Str.ofString "coverings", .ref vl)])
            (fun c => IntsAre c.cv (spotsP (cellsE ds)) ∧ c.ox.data = .cell (some (.ref c.cl)) ∧ NCs L c.cl) F6 ?_ ?_
          · (try walk_at "MY hid")
            try k_fold
            have hcl := IntsAre.length P3
            have hc12 := (cellsE_ok ds).1
            have hcr := (cellsE_ok ds).2
            walk1
            ((k_here; lct_look; lcg_calm; k_dflt (refine LCt.ListComp_T (F₀ := by k_asm) (by with_unfolding_all rfl) (by decide) (by rfl) (by decide) (by rfl) ?_)))
            walk1
            walk_at "CompSrcT"
            refine comp_invTF (fun j ys => IntsAre ys (((cellsE ds).take j).filter (spotB (cellsE ds)))) .nil ?_ ?_
            · rintro j v ys I3 oI3 C3 oC3 D3 m3 h3 tk3 E3 hj hv3 hy hC3 hx3 F3 N3 off ne
              have hv4 := hv3
              rw [List.getElem?_toArray] at hv4
              obtain ⟨x3, t3, rfl, hx4⟩ := ints_at2 P3 j hv4
              clear hv4
              have hx5 := hcr x3 (List.mem_of_getElem? hx4)
              (try walk_at "MY hid")
              try k_fold
              (repeat' ((fail_if_success (with_reducible show wpAny _ _ (pyIter _) _ _ _)); (fail_if_success (with_reducible show wpAny _ _ (exec (Stmt.While _ _ _ _) _) _ _ _)); first | walk_at "MY hid" | (k_unfold; (try dsimp only)) | (k_end; wrow_close) | walk1 | (dsimp only; walk1) | (leave1; walk_say "STEP leave1"; try dsimp only) | fail "no step"))
              all_goals ((rename Fr _ _ _ _ => F9); (rename News _ _ _ _ => N9))
              all_goals (
                refine comp_end _ F9 N9 (by (first | exact fun _ h => h | ((repeat' (with_reducible first | exact sub_nil | exact fun _ h => h | refine sub_keep ?_ | refine sub_drop ?_)); done) | ((repeat' (first | exact fmn | refine fmc (by k_mem) ?_ | (intro p hp; k_mem))); done))) off (Or.inr ⟨_, by k_mem, rfl, _, rfl⟩) ⟨rfl, ?_⟩
                first
                | (rw [filt_t hx4 (spot_t (by assumption) (by assumption) (by assumption) (by assumption))]; exact ints_snoc hy)
                | (rw [filt_f hx4 (spot_f4 (by assumption))]; exact hy)
                | (rw [filt_f hx4 (spot_f3 (by assumption))]; exact hy)
                | (rw [filt_f hx4 (spot_f2 (by assumption))]; exact hy)
                | (rw [filt_f hx4 (spot_f1 (by assumption))]; exact hy))
            · rintro ys hy
              rw [List.take_of_length_le (by rw [List.size_toArray]; omega)] at hy
              unfold LCg.FinE
              intro D9 h9 tk9 F9 N9 o9
              have hND : NCs L D9 := (by first | exact nc_here (off_all o9) | exact nc_here (nc_tl (L := L) (off_all o9)) | exact nc_here (nc_tl (L := L) (nc_tl (L := L) (off_all o9))) | exact nc_here (nc_tl (L := L) (nc_tl (L := L) (nc_tl (L := L) (off_all o9)))) | exact nc_here (nc_tl (L := L) (nc_tl (L := L) (nc_tl (L := L) (nc_tl (L := L) (off_all o9))))) | exact nc_here (nc_tl (L := L) (nc_tl (L := L) (nc_tl (L := L) (nc_tl (L := L) (nc_tl (L := L) (off_all o9)))))) | exact nc_here (nc_tl (L := L) (nc_tl (L := L) (nc_tl (L := L) (nc_tl (L := L) (nc_tl (L := L) (nc_tl (L := L) (off_all o9))))))) | exact nc_here (nc_tl (L := L) (nc_tl (L := L) (nc_tl (L := L) (nc_tl (L := L) (nc_tl (L := L) (nc_tl (L := L) (nc_tl (L := L) (off_all o9)))))))) | exact nc_here (nc_tl (L := L) (nc_tl (L := L) (nc_tl (L := L) (nc_tl (L := L) (nc_tl (L := L) (nc_tl (L := L) (nc_tl (L := L) (nc_tl (L := L) (off_all o9))))))))) | exact nc_here (nc_tl (L := L) (nc_tl (L := L) (nc_tl (L := L) (nc_tl (L := L) (nc_tl (L := L) (nc_tl (L := L) (nc_tl (L := L) (nc_tl (L := L) (nc_tl (L := L) (off_all o9)))))))))) | exact nc_here (nc_tl (L := L) (nc_tl (L := L) (nc_tl (L := L) (nc_tl (L := L) (nc_tl (L := L) (nc_tl (L := L) (nc_tl (L := L) (nc_tl (L := L) (nc_tl (L := L) (nc_tl (L := L) (off_all o9))))))))))) | exact nc_here (nc_tl (L := L) (nc_tl (L := L) (nc_tl (L := L) (nc_tl (L := L) (nc_tl (L := L) (nc_tl (L := L) (nc_tl (L := L) (nc_tl (L := L) (nc_tl (L := L) (nc_tl (L := L) (nc_tl (L := L) (off_all o9)))))))))))))
              clear o9
              try dsimp only
              (repeat' ((fail_if_success (with_reducible show wpAny _ _ (pyIter _) _ _ _)); (fail_if_success (with_reducible show wpAny _ _ (exec (Stmt.While _ _ _ _) _) _ _ _)); first | walk_at "MY hid" | (k_unfold; (try dsimp only)) | (k_end; wrow_close) | walk1 | (dsimp only; walk1) | (leave1; walk_say "STEP leave1"; try dsimp only) | fail "no step"))
              (rename Fr _ _ _ _ => F4); (rename News _ _ _ _ => N4); (rename _ = Data.cell (some _) => hd4)
              refine cutF_in ⟨_, ys, _, _⟩ F4 N4 (by (first | exact fun _ h => h | ((repeat' (with_reducible first | exact sub_nil | exact fun _ h => h | refine sub_keep ?_ | refine sub_drop ?_)); done) | ((repeat' (first | exact fmn | refine fmc (by k_mem) ?_ | (intro p hp; k_mem))); done))) ⟨by unfold spotsP; exact hy, hd4, hND⟩ (fmc (by with_unfolding_all rfl) (fmc (by with_unfolding_all rfl) (fmn)))
          · rintro ⟨sl, sv, sn, oy⟩ u5 h5 tk5 ⟨P5, hoy, hns⟩ F7 N7
            dsimp only at P5 hoy hns F7 N7
            clear F6 N6 x7
            have hsl := IntsAre.length P5
            have hs12 := (spots_ok ds).1
            have hsr := (spots_ok ds).2
            have hvl := IntsAre.length P4
            have hv11 := (cov_ok ds).2.1
            have hv0 := List.length_pos_iff.mpr (cov_ok ds).1
            have hvr := (cov_ok ds).2.2
            (try walk_at "MY hid")
            try k_fold
            (repeat' ((fail_if_success first | (with_reducible show wpAny _ _ (exec (Stmt.Assign [Expr.Name _ _] (Expr.IfExp _ _ _ _) _) _) _ _ _) | (with_reducible show wpAny _ _ (exec (Stmt.Assign [Expr.Name _ _] (Expr.ListComp _ _ _ _) _) _) _ _ _) | (with_reducible show wpAny _ _ (exec (Stmt.If _ _ _ _) _) _ _ _)); (fail_if_success (with_reducible show wpAny _ _ (pyIter _) _ _ _)); (fail_if_success (with_reducible show wpAny _ _ (exec (Stmt.While _ _ _ _) _) _ _ _)); first | walk_at "MY hid" | (k_unfold; (try dsimp only)) | (k_end; wrow_close) | walk1 | (dsimp only; walk1) | (leave1; walk_say "STEP leave1"; try dsimp only) | fail "no step"))
            refine cutF (σ := S7) (fun c => (c.hl, listOf c.hv.toArray c.hn) :: ([(sl, listOf sv.toArray sn), (vl, listOf vv.toArray vn), (cl, listOf cv.toArray cn), (dl, listOf dv.toArray dn), (L + 1 + 1 + 1 + 1 + 1 + 1 + 1 + 1, c1), (L + 1 + 1 + 1 + 1 + 1 + 1 + 1, c2), (L + 1 + 1 + 1 + 1 + 1 + 1, c3), (L + 1 + 1 + 1 + 1 + 1, c4), (L + 1 + 1 + 1 + 1, c5), (L + 1 + 1 + 1, c6), (L + 1 + 1, oy), (L + 1, ox)] ++ c.rl)) (fun c => [(Str.ofString "draws", .ref dl), (Str.ofString "coverings", .ref vl), (Str.ofString "heights", .ref c.hl)])
              (fun c => RowsAre c.rl c.hv (rowsP (cellsE ds) (spotsP (cellsE ds)) (covE ds)) ∧ (∀ p ∈ c.rl, NCs L p.1) ∧ NCs L c.hl) F7 ?_ ?_
            · (try walk_at "MY hid")
              try k_fold
              refine Assign_ListComp_C F7 rfl (by with_unfolding_all rfl) (by with_unfolding_all rfl) (fun _ => by with_unfolding_all rfl) (fun _ => by with_unfolding_all rfl) (by rfl) (by with_unfolding_all rfl) (by decide) (by rfl) (by rfl) ?_ (fun _ => rfl)
              walk1
              refine ⟨vl, listOf vv.toArray vn, _, vn, [(sl, listOf sv.toArray sn), (vl, listOf vv.toArray vn), (cl, listOf cv.toArray cn), (dl, listOf dv.toArray dn), (L + 1 + 1 + 1 + 1 + 1 + 1 + 1 + 1, c1), (L + 1 + 1 + 1 + 1 + 1 + 1 + 1, c2), (L + 1 + 1 + 1 + 1 + 1 + 1, c3), (L + 1 + 1 + 1 + 1 + 1, c4), (L + 1 + 1 + 1 + 1, c5), (L + 1 + 1 + 1, c6), (L + 1 + 1, oy), (L + 1, ox)], fun i ys nw => ∃ rl, nw = [(sl, listOf sv.toArray sn), (vl, listOf vv.toArray vn), (cl, listOf cv.toArray cn), (dl, listOf dv.toArray dn), (L + 1 + 1 + 1 + 1 + 1 + 1 + 1 + 1, c1), (L + 1 + 1 + 1 + 1 + 1 + 1 + 1, c2), (L + 1 + 1 + 1 + 1 + 1 + 1, c3), (L + 1 + 1 + 1 + 1 + 1, c4), (L + 1 + 1 + 1 + 1, c5), (L + 1 + 1 + 1, c6), (L + 1 + 1, oy), (L + 1, ox)] ++ rl ∧ RowsAre rl ys (((covE ds).take i).map (rowP (cellsE ds) (spotsP (cellsE ds)))) ∧ ∀ p ∈ rl, NCs L p.1, rfl, by rfl, F7, N7, rfl, rfl, ?_, ⟨[], rfl, .nil, fmn⟩, ?_, ?_, ?_⟩
              · rw [List.size_toArray, PySem.sizeLine_eq]; omega
              · rintro i ys nw ⟨rl, rfl, _⟩
                exact List.mem_append_left _ (by k_mem)
              · rintro g9 i v ys nw I oI C oC X oX D h tk9 E' hv ⟨rl, rfl, hR, hnr⟩ hX F8 N8 aP ne
                rw [List.getElem?_toArray] at hv
                obtain ⟨cv9, tv9, rfl, hcv⟩ := ints_at2 P4 i hv
                have hcr := hvr cv9 (List.mem_of_getElem? hcv)
                simp only [List.cons_append, List.nil_append] at N8
                (try walk_at "MY hid")
                try k_fold
                ((k_here; k_dflt (refine LCg.ListComp_U (F₀ := by k_asm) (by with_unfolding_all rfl) (by decide) (by rfl) (by decide) (by rfl) ?_)))
                walk1
                walk_at "CompSrc"
                refine comp_invF (fun j zs => IntsAre zs (((spotsP (cellsE ds)).take j).map (fun c => WC8.heightP cv9 c (cellsE ds)))) .nil ?_ ?_
                · rintro j v zs I3 oI3 C3 oC3 D3 m3 h3 tk3 E3 hj hv3 hy hC3 hx3 F3 N3 off ne3
                  have hv4 := hv3
                  rw [List.getElem?_toArray] at hv4
                  obtain ⟨x3, t3, rfl, hx4⟩ := ints_at2 P5 j hv4
                  clear hv4
                  have hx5 := hsr x3 (List.mem_of_getElem? hx4)
                  (try walk_at "MY hid")
                  try k_fold
                  (repeat' ((fail_if_success (with_reducible show wpAny _ _ (pyIter _) _ _ _)); (fail_if_success (with_reducible show wpAny _ _ (exec (Stmt.While _ _ _ _) _) _ _ _)); first | walk_at "MY hid" | (k_unfold; (try dsimp only)) | (k_end; wrow_close) | walk1 | (dsimp only; walk1) | (leave1; walk_say "STEP leave1"; try dsimp only) | fail "no step"))
                  (rename Fr _ _ _ _ => F9); (rename News _ _ _ _ => N9)
                  refine comp_end _ F9 N9 (by (first | exact fun _ h => h | ((repeat' (with_reducible first | exact sub_nil | exact fun _ h => h | refine sub_keep ?_ | refine sub_drop ?_)); done) | ((repeat' (first | exact fmn | refine fmc (by k_mem) ?_ | (intro p hp; k_mem))); done))) off (Or.inr ⟨_, by k_mem, rfl, _, rfl⟩) ⟨rfl, ?_⟩
                  rw [take_map_snoc hx4]
                  exact ints_snoc hy
                · rintro zs hy
                  rw [List.take_of_length_le (by rw [List.size_toArray]; omega)] at hy
                  unfold LCg.FinE
                  intro D9 h9 tk9 F9 N9 o9
                  have hND : NCs L D9 := (by first | exact nc_here (off_all o9) | exact nc_here (nc_tl (L := L) (off_all o9)) | exact nc_here (nc_tl (L := L) (nc_tl (L := L) (off_all o9))) | exact nc_here (nc_tl (L := L) (nc_tl (L := L) (nc_tl (L := L) (off_all o9)))) | exact nc_here (nc_tl (L := L) (nc_tl (L := L) (nc_tl (L := L) (nc_tl (L := L) (off_all o9))))) | exact nc_here (nc_tl (L := L) (nc_tl (L := L) (nc_tl (L := L) (nc_tl (L := L) (nc_tl (L := L) (off_all o9)))))) | exact nc_here (nc_tl (L := L) (nc_tl (L := L) (nc_tl (L := L) (nc_tl (L := L) (nc_tl (L := L) (nc_tl (L := L) (off_all o9))))))) | exact nc_here (nc_tl (L := L) (nc_tl (L := L) (nc_tl (L := L) (nc_tl (L := L) (nc_tl (L := L) (nc_tl (L := L) (nc_tl (L := L) (off_all o9)))))))) | exact nc_here (nc_tl (L := L) (nc_tl (L := L) (nc_tl (L := L) (nc_tl (L := L) (nc_tl (L := L) (nc_tl (L := L) (nc_tl (L := L) (nc_tl (L := L) (off_all o9))))))))) | exact nc_here (nc_tl (L := L) (nc_tl (L := L) (nc_tl (L := L) (nc_tl (L := L) (nc_tl (L := L) (nc_tl (L := L) (nc_tl (L := L) (nc_tl (L := L) (nc_tl (L := L) (off_all o9)))))))))) | exact nc_here (nc_tl (L := L) (nc_tl (L := L) (nc_tl (L := L) (nc_tl (L := L) (nc_tl (L := L) (nc_tl (L := L) (nc_tl (L := L) (nc_tl (L := L) (nc_tl (L := L) (nc_tl (L := L) (off_all o9))))))))))) | exact nc_here (nc_tl (L := L) (nc_tl (L := L) (nc_tl (L := L) (nc_tl (L := L) (nc_tl (L := L) (nc_tl (L := L) (nc_tl (L := L) (nc_tl (L := L) (nc_tl (L := L) (nc_tl (L := L) (nc_tl (L := L) (off_all o9)))))))))))))
                  simp only [LCg.Off1] at o9
                  try dsimp only
                  refine ⟨h9, tk9, [(sl, listOf sv.toArray sn), (vl, listOf vv.toArray vn), (cl, listOf cv.toArray cn), (dl, listOf dv.toArray dn), (L + 1 + 1 + 1 + 1 + 1 + 1 + 1 + 1, c1), (L + 1 + 1 + 1 + 1 + 1 + 1 + 1, c2), (L + 1 + 1 + 1 + 1 + 1 + 1, c3), (L + 1 + 1 + 1 + 1 + 1, c4), (L + 1 + 1 + 1 + 1, c5), (L + 1 + 1 + 1, c6), (L + 1 + 1, oy), (L + 1, ox)] ++ (D9, LCg.lst zs) :: rl, rfl, F9, ?_, ?_, (D9, LCg.lst zs) :: rl, rfl, ?_, ?_⟩
                  · intro p hp
                    refine N9 p ?_
                    revert p
                    (try simp only [List.cons_append, List.nil_append])
                    repeat' (first | exact fmn | refine fmc (by k_mem) ?_ | (intro p hp; k_mem))
                  · intro q hq
                    refine allNe_ins (aP q hq) ?_
                    simp only [List.mem_cons, List.not_mem_nil, or_false] at hq
                    rcases hq with rfl | rfl | rfl | rfl <;> first | exact o9.1 | exact o9.2.1 | exact o9.2.2.1 | exact o9.2.2.2.1 | exact Ne.symm o9.1 | exact Ne.symm o9.2.1 | exact Ne.symm o9.2.2.1 | exact Ne.symm o9.2.2.2.1
                  · rw [take_map_snoc hcv]
                    exact (hR.mono fun p hp => List.mem_cons_of_mem _ hp).snoc List.mem_cons_self hy
                  · exact fmc hND hnr
              · rintro g9 ys nw ⟨rl, rfl, hR, hnr⟩
                rw [List.take_of_length_le (by rw [List.size_toArray]; omega)] at hR
                intro D9 h9 tk9 F9 N9 o9
                have hND : NCs L D9 := (by first | exact nc_here (off_all o9) | exact nc_here (nc_tl (L := L) (off_all o9)) | exact nc_here (nc_tl (L := L) (nc_tl (L := L) (off_all o9))) | exact nc_here (nc_tl (L := L) (nc_tl (L := L) (nc_tl (L := L) (off_all o9)))) | exact nc_here (nc_tl (L := L) (nc_tl (L := L) (nc_tl (L := L) (nc_tl (L := L) (off_all o9))))) | exact nc_here (nc_tl (L := L) (nc_tl (L := L) (nc_tl (L := L) (nc_tl (L := L) (nc_tl (L := L) (off_all o9)))))) | exact nc_here (nc_tl (L := L) (nc_tl (L := L) (nc_tl (L := L) (nc_tl (L := L) (nc_tl (L := L) (nc_tl (L := L) (off_all o9))))))) | exact nc_here (nc_tl (L := L) (nc_tl (L := L) (nc_tl (L := L) (nc_tl (L := L) (nc_tl (L := L) (nc_tl (L := L) (nc_tl (L := L) (off_all o9)))))))) | exact nc_here (nc_tl (L := L) (nc_tl (L := L) (nc_tl (L := L) (nc_tl (L := L) (nc_tl (L := L) (nc_tl (L := L) (nc_tl (L := L) (nc_tl (L := L) (off_all o9))))))))) | exact nc_here (nc_tl (L := L) (nc_tl (L := L) (nc_tl (L := L) (nc_tl (L := L) (nc_tl (L := L) (nc_tl (L := L) (nc_tl (L := L) (nc_tl (L := L) (nc_tl (L := L) (off_all o9)))))))))) | exact nc_here (nc_tl (L := L) (nc_tl (L := L) (nc_tl (L := L) (nc_tl (L := L) (nc_tl (L := L) (nc_tl (L := L) (nc_tl (L := L) (nc_tl (L := L) (nc_tl (L := L) (nc_tl (L := L) (off_all o9))))))))))) | exact nc_here (nc_tl (L := L) (nc_tl (L := L) (nc_tl (L := L) (nc_tl (L := L) (nc_tl (L := L) (nc_tl (L := L) (nc_tl (L := L) (nc_tl (L := L) (nc_tl (L := L) (nc_tl (L := L) (nc_tl (L := L) (off_all o9)))))))))))))
                refine cutF_in ⟨D9, ys, ys.length, rl⟩ F9 N9 (fun p hp => hp) ⟨by unfold rowsP; exact hR, hnr, hND⟩ (fmc (by with_unfolding_all rfl) (fmc (by with_unfolding_all rfl) (fmc (by with_unfolding_all rfl) (fmn))))
            · rintro ⟨hl, hv, hn, rl⟩ u6 h6 tk6 ⟨P6, hnr, hnh⟩ F8 N8
              dsimp only at P6 hnr hnh F8 N8
              simp only [List.cons_append, List.nil_append] at N8
              clear F7 N7
              (try walk_at "MY hid")
              try k_fold
              walk1
              refine cutF (σ := S4) (fun c => (c.cl, listOf c.cv.toArray c.cn) :: ([(hl, listOf hv.toArray hn), (sl, listOf sv.toArray sn), (vl, listOf vv.toArray vn), (cl, listOf cv.toArray cn), (dl, listOf dv.toArray dn), (L + 1 + 1 + 1 + 1 + 1 + 1 + 1 + 1, c1), (L + 1 + 1 + 1 + 1 + 1 + 1 + 1, c2), (L + 1 + 1 + 1 + 1 + 1 + 1, c3), (L + 1 + 1 + 1 + 1 + 1, c4), (L + 1 + 1 + 1 + 1, c5), (L + 1 + 1 + 1, c.ox), (L + 1 + 1, oy), (L + 1, ox)] ++ rl)) (fun c => [(Str.ofString "draws", .ref dl), (Str.ofString "coverings", .ref vl), (Str.ofString "heights", .ref hl)])
                (fun c => IntsAre c.cv (leastP (rowsP (cellsE ds) (spotsP (cellsE ds)) (covE ds)) (spotsP (cellsE ds)).length) ∧ c.ox.data = .cell (some (.ref c.cl)) ∧ (NCs L c.cl)) F8 ?_ ?_
              · (try walk_at "MY hid")
                try k_fold
                walk1
                refine ListComp_X F8 rfl (by decide) (by rfl) (by decide) ?_ (fun _ => rfl)
                walk1
                walk1
                refine callWith_starT ?_
                walk1
                try dsimp only
                refine star_seq F8 N8 List.mem_cons_self rfl rfl (.inl rfl) List.toList_toArray (by rw [List.size_toArray, P6.length, PySem.sizeLine_eq, rowsP_length]; omega) ?_
                intro h7 F9 N9
                obtain ⟨R0, e0, hR0, hR1, hR2⟩ := P6.lrs
                obtain ⟨hR3, hR4⟩ := hR2 _ (rowsP_len _ _ _)
                have hR5 : (rowsP (cellsE ds) (spotsP (cellsE ds)) (covE ds)).length = (covE ds).length := rowsP_length _ _ _
                rw [e0]
                refine srcX_zipM (m := kstB u6 [(Str.ofString "draws", Value.ref dl), (Str.ofString "coverings", Value.ref vl), (Str.ofString "heights", Value.ref hl)]) R0 (spotsP (cellsE ds)).length (fun j y => ∃ t, y = .int ((leastP (rowsP (cellsE ds) (spotsP (cellsE ds)) (covE ds)) (spotsP (cellsE ds)).length).getD j 0) t) (by rfl) F9 N9 (fun r hr => ?_) (by omega) (fun q => ?_) hR3 (by rw [PySem.sizeLine_eq]; omega) (by rfl) (by rfl) ?_ ?_
                · obtain ⟨n, hn⟩ := hR1 r hr
                  exact isL N9 (by simp only [List.mem_cons]; exact .inr (.inr (.inr (.inr (.inr (.inr (.inr (.inr (.inr (.inr (.inr (.inr (.inr hn)))))))))))))
                · rw [q] at hR0
                  exact (cov_ok ds).1 (List.eq_nil_of_length_eq_zero (hR5.symm.trans hR0.symm))
                · rintro i C s' m'' oC E' hi ⟨T, hm, hT⟩ F2 N2 hoC
                  walk1
                  walk1
                  walk1
                  walk1
                  walk1
                  walk1
                  refine' min_tuple ?h0 hT (hR4 i hi) (fun q => ?_) ?_
                  case h0 => rfl
                  · rw [List.map_eq_nil_iff] at q
                    rw [q] at hR5
                    exact (cov_ok ds).1 (List.eq_nil_of_length_eq_zero hR5.symm)
                  · intro h' t tk hg
                    exact ⟨h', tk, rfl, hg, t, by rw [leastP_at hi]⟩
                · rintro s₁ zs hzl hR ⟨h5, rfl⟩
                  have hz := ints_get (xs := leastP (rowsP (cellsE ds) (spotsP (cellsE ds)) (covE ds)) (spotsP (cellsE ds)).length) (hzl.trans (leastP_len _ _).symm) hR
                  intro D h6 tk6 F6 N6 o6
                  have hND : (NCs L D) := (by first | exact nc_here (off_all o6) | exact nc_here (nc_tl (L := L) (off_all o6)) | exact nc_here (nc_tl (L := L) (nc_tl (L := L) (off_all o6))) | exact nc_here (nc_tl (L := L) (nc_tl (L := L) (nc_tl (L := L) (off_all o6)))) | exact nc_here (nc_tl (L := L) (nc_tl (L := L) (nc_tl (L := L) (nc_tl (L := L) (off_all o6))))) | exact nc_here (nc_tl (L := L) (nc_tl (L := L) (nc_tl (L := L) (nc_tl (L := L) (nc_tl (L := L) (off_all o6)))))) | exact nc_here (nc_tl (L := L) (nc_tl (L := L) (nc_tl (L := L) (nc_tl (L := L) (nc_tl (L := L) (nc_tl (L := L) (off_all o6))))))) | exact nc_here (nc_tl (L := L) (nc_tl (L := L) (nc_tl (L := L) (nc_tl (L := L) (nc_tl (L := L) (nc_tl (L := L) (nc_tl (L := L) (off_all o6)))))))) | exact nc_here (nc_tl (L := L) (nc_tl (L := L) (nc_tl (L := L) (nc_tl (L := L) (nc_tl (L := L) (nc_tl (L := L) (nc_tl (L := L) (nc_tl (L := L) (off_all o6))))))))) | exact nc_here (nc_tl (L := L) (nc_tl (L := L) (nc_tl (L := L) (nc_tl (L := L) (nc_tl (L := L) (nc_tl (L := L) (nc_tl (L := L) (nc_tl (L := L) (nc_tl (L := L) (off_all o6)))))))))) | exact nc_here (nc_tl (L := L) (nc_tl (L := L) (nc_tl (L := L) (nc_tl (L := L) (nc_tl (L := L) (nc_tl (L := L) (nc_tl (L := L) (nc_tl (L := L) (nc_tl (L := L) (nc_tl (L := L) (off_all o6))))))))))) | exact nc_here (nc_tl (L := L) (nc_tl (L := L) (nc_tl (L := L) (nc_tl (L := L) (nc_tl (L := L) (nc_tl (L := L) (nc_tl (L := L) (nc_tl (L := L) (nc_tl (L := L) (nc_tl (L := L) (nc_tl (L := L) (off_all o6)))))))))))))
                  clear o6
                  have hr3 : ∀ p ∈ rl, p.1 ≠ L + 1 + 1 + 1 := fun p hp => (hnr p hp).n3
                  try dsimp only
                  walk1
                  (rename Fr _ _ _ _ => F4); (rename News _ _ _ _ => N4); (rename _ = Data.cell (some _) => hd4)
                  refine cutF_in ⟨D, zs, zs.length, _⟩ F4 N4 (fun p hp => hp) ⟨hz, hd4, hND⟩ (fmc (by with_unfolding_all rfl) (fmc (by with_unfolding_all rfl) (fmc (by with_unfolding_all rfl) (fmn))))
              · rintro ⟨ll, lv, ln, oz⟩ u7 h7 tk7 ⟨P7, hoz, hnl⟩ F9 N9
                dsimp only at P7 hoz hnl F9 N9
                simp only [List.cons_append, List.nil_append] at N9
                clear F8 N8 x6
                (try walk_at "MY hid")
                try k_fold
                walk1
                refine cutF (σ := Tk) (fun _ => (ll, listOf lv.toArray ln) :: (hl, listOf hv.toArray hn) :: (sl, listOf sv.toArray sn) :: (vl, listOf vv.toArray vn) :: (cl, listOf cv.toArray cn) :: (dl, listOf dv.toArray dn) :: (L + 1 + 1 + 1 + 1 + 1 + 1 + 1 + 1, c1) :: (L + 1 + 1 + 1 + 1 + 1 + 1 + 1, c2) :: (L + 1 + 1 + 1 + 1 + 1 + 1, c3) :: (L + 1 + 1 + 1 + 1 + 1, c4) :: (L + 1 + 1 + 1 + 1, c5) :: (L + 1 + 1 + 1, oz) :: (L + 1 + 1, oy) :: (L + 1, ox) :: rl) (fun c => [(Str.ofString "draws", .ref dl), (Str.ofString "coverings", .ref vl), (Str.ofString "heights", .ref hl), (Str.ofString "pick", .int ((ds.getD (Int.toNat 4) 0).fmod ((covE ds).length : Int)) c.t)]) (fun _ => True) F9 ?_ ?_
                · (try walk_at "MY hid")
                  try k_fold
                  (repeat' ((fail_if_success (with_reducible show wpAny _ _ (pyIter _) _ _ _)); (fail_if_success (with_reducible show wpAny _ _ (exec (Stmt.While _ _ _ _) _) _ _ _)); first | walk_at "MY hid" | (k_unfold; (try dsimp only)) | (k_end; wrow_close) | walk1 | (dsimp only; walk1) | (leave1; walk_say "STEP leave1"; try dsimp only) | fail "no step"))
                  (rename Fr _ _ _ _ => F4); (rename News _ _ _ _ => N4)
                  refine cutF_in ⟨_⟩ F4 N4 (fun p hp => hp) True.intro (fmc (by with_unfolding_all rfl) (fmc (by with_unfolding_all rfl) (fmc (by with_unfolding_all rfl) (fmc (by with_unfolding_all rfl) (fmn)))))
                · rintro ⟨pt⟩ u8 h8 tk8 _ F10 N10
                  dsimp only at F10 N10
                  clear F9 N9
                  have hp0 : 0 ≤ (ds.getD (Int.toNat 4) 0).fmod ((covE ds).length : Int) := Int.fmod_nonneg_of_pos _ (by omega)
                  have hp1 : (ds.getD (Int.toNat 4) 0).fmod ((covE ds).length : Int) < ((covE ds).length : Int) := Int.fmod_lt_of_pos _ (by omega)
                  generalize hpk : (ds.getD (Int.toNat 4) 0).fmod ((covE ds).length : Int) = pk at hp0 hp1 F10
                  obtain ⟨out, hout, hr1, hr2⟩ : ∃ out, out = roundsP (spotsP (cellsE ds)) ((covE ds).getD pk.toNat 0) ∧ rF 20 ((spotsP (cellsE ds)).map sqF) [((covE ds).getD pk.toNat 0, 0)] [(covE ds).getD pk.toNat 0] = some out ∧ (out.map (·.1)).Perm (covE ds) := ⟨_, rfl, rounds_ok ds (p := (covE ds).getD pk.toNat 0) (PySem.getD_mem (by omega))⟩
                  have hro : ∀ p ∈ rl, p.1 ≠ L + 1 + 1 + 1 + 1 := fun p hp => (hnr p hp).n4
                  (try walk_at "MY hid")
                  try k_fold
                  walk1
                  refine cutF (σ := D2) (fun c => (c.dl, c.dx) :: (ll, listOf lv.toArray ln) :: (hl, listOf hv.toArray hn) :: (sl, listOf sv.toArray sn) :: (vl, listOf vv.toArray vn) :: (cl, listOf cv.toArray cn) :: (dl, listOf dv.toArray dn) :: (L + 1 + 1 + 1 + 1 + 1 + 1 + 1 + 1, c1) :: (L + 1 + 1 + 1 + 1 + 1 + 1 + 1, c2) :: (L + 1 + 1 + 1 + 1 + 1 + 1, c3) :: (L + 1 + 1 + 1 + 1 + 1, c4) :: (L + 1 + 1 + 1 + 1, c.ox) :: (L + 1 + 1 + 1, oz) :: (L + 1 + 1, oy) :: (L + 1, ox) :: rl) (fun c => [(Str.ofString "draws", .ref dl), (Str.ofString "coverings", .ref vl), (Str.ofString "heights", .ref hl), (Str.ofString "pick", .int pk pt)])
                    (fun c => c.dx.IsDictOf (PySem.intKind rx.row.prog w) c.kvs ∧ PyProof.V.FlatPairs PyData.int c.kvs (kdfD out) ∧ (c.dl == sysModules) = false ∧ c.ox.data = .cell (some (.ref c.dl)) ∧ (NCs L c.dl)) F10 ?_ ?_
                  · (try walk_at "MY hid")
                    try k_fold
                    iterate 8 walk1
                    try dsimp only
                    walk_at "subscriptTail Name Name ref int"
                    iterate 4 walk1
                    ((k_here; (with_reducible show wpAny _ _ (call (Value.ref 80) [Value.int _ _, Value.ref _]) _ _ _); k_dflt (refine' ctr_use (WC7.ctr_rounds _ _ _ _ _ _ _ _ ?z1 ?z2 ?z3 ?z4) ?k1 ?k2 ?k3 ?k4 ?kS ?k5 ?kF ?kK ?kd ?ku ?_; (((case k1 => k_asm); (case k2 => k_asm); (case k3 => k_asm); (case k4 => k_asm); (case kS => first | exact fmn | exact fmc (by k_mem) (fmn) | exact fmc (by k_mem) (fmc (by k_mem) (fmn))); (case k5 => k_asm); (case kF => rfl); (case kK => rfl); (case kd => walk_at "MY room"); (case ku => walk_at "MY room"))); (case z1 => assumption); (case z4 => assumption); (case z2 => assumption); (case z3 => assumption); ((intro _ _ _ _ _ N' hn' hx' hR'; clear hx'; obtain ⟨lr, us, kvs, hr1, hr2, hr3, hr4, hr5⟩ := hR'; subst hr1 hr2; (simp only [List.cons_append, List.nil_append] at N'); replace hn' := hne_one hn'; (try dsimp only))))))
                    (rename Fr _ _ _ _ => F4); (rename News _ _ _ _ => N4); (rename Obj.IsDictOf _ _ _ => hr3); (rename PyProof.V.FlatPairs _ _ _ => hr4); (rename _ = false => hr5)
                    have hND : (NCs L lr) := (by first | exact nc_here hn' | exact nc_here (nc_tl (L := L) hn') | exact nc_here (nc_tl (L := L) (nc_tl (L := L) hn')) | exact nc_here (nc_tl (L := L) (nc_tl (L := L) (nc_tl (L := L) hn'))) | exact nc_here (nc_tl (L := L) (nc_tl (L := L) (nc_tl (L := L) (nc_tl (L := L) hn')))) | exact nc_here (nc_tl (L := L) (nc_tl (L := L) (nc_tl (L := L) (nc_tl (L := L) (nc_tl (L := L) hn'))))) | exact nc_here (nc_tl (L := L) (nc_tl (L := L) (nc_tl (L := L) (nc_tl (L := L) (nc_tl (L := L) (nc_tl (L := L) hn')))))) | exact nc_here (nc_tl (L := L) (nc_tl (L := L) (nc_tl (L := L) (nc_tl (L := L) (nc_tl (L := L) (nc_tl (L := L) (nc_tl (L := L) hn'))))))) | exact nc_here (nc_tl (L := L) (nc_tl (L := L) (nc_tl (L := L) (nc_tl (L := L) (nc_tl (L := L) (nc_tl (L := L) (nc_tl (L := L) (nc_tl (L := L) hn')))))))) | exact nc_here (nc_tl (L := L) (nc_tl (L := L) (nc_tl (L := L) (nc_tl (L := L) (nc_tl (L := L) (nc_tl (L := L) (nc_tl (L := L) (nc_tl (L := L) (nc_tl (L := L) hn'))))))))) | exact nc_here (nc_tl (L := L) (nc_tl (L := L) (nc_tl (L := L) (nc_tl (L := L) (nc_tl (L := L) (nc_tl (L := L) (nc_tl (L := L) (nc_tl (L := L) (nc_tl (L := L) (nc_tl (L := L) hn')))))))))) | exact nc_here (nc_tl (L := L) (nc_tl (L := L) (nc_tl (L := L) (nc_tl (L := L) (nc_tl (L := L) (nc_tl (L := L) (nc_tl (L := L) (nc_tl (L := L) (nc_tl (L := L) (nc_tl (L := L) (nc_tl (L := L) hn'))))))))))))
                    clear hn'
                    walk1
                    (rename Fr _ _ _ _ => F5); (rename News _ _ _ _ => N5); (rename _ = Data.cell (some _) => hd4)
                    refine cutF_in ⟨lr, _, _, _⟩ F5 N5 (fun p hp => hp) ⟨hr3, hr4, hr5, hd4, hND⟩ (fmc (by with_unfolding_all rfl) (fmc (by with_unfolding_all rfl) (fmc (by with_unfolding_all rfl) (fmc (by with_unfolding_all rfl) (fmn)))))
                  · rintro ⟨dq, dx, kvs, ow⟩ u9 h9 tk9 ⟨hdx, hfx, hlx, how, hnq⟩ F11 N11
                    dsimp only at hdx hfx hlx how hnq F11 N11
                    clear F10 N10 x5 hro
                    have hol : out.length = (covE ds).length := by rw [← hr2.length_eq, List.length_map]
                    (try walk_at "MY hid")
                    try k_fold
                    walk1
                    refine cutF (σ := Unit) (fun _ => (dq, dx) :: (ll, listOf lv.toArray ln) :: (hl, listOf hv.toArray hn) :: (sl, listOf sv.toArray sn) :: (vl, listOf vv.toArray vn) :: (cl, listOf cv.toArray cn) :: (dl, listOf dv.toArray dn) :: (L + 1 + 1 + 1 + 1 + 1 + 1 + 1 + 1, c1) :: (L + 1 + 1 + 1 + 1 + 1 + 1 + 1, c2) :: (L + 1 + 1 + 1 + 1 + 1 + 1, c3) :: (L + 1 + 1 + 1 + 1 + 1, c4) :: (L + 1 + 1 + 1 + 1, ow) :: (L + 1 + 1 + 1, oz) :: (L + 1 + 1, oy) :: (L + 1, ox) :: rl) (fun _ => [(Str.ofString "draws", .ref dl), (Str.ofString "coverings", .ref vl), (Str.ofString "heights", .ref hl), (Str.ofString "pick", .int pk pt)]) (fun _ => True) F11 ?_ ?_
                    · (try walk_at "MY hid")
                      try k_fold
                      (repeat' ((fail_if_success (with_reducible show wpAny _ _ (call (Value.builtin "sorted") _) _ _ _)); (fail_if_success (with_reducible show wpAny _ _ (call (Value.ref _) _) _ _ _)); (fail_if_success (with_reducible show wpAny _ _ (call (Value.type _) _) _ _ _)); (fail_if_success (with_reducible show wpAny _ _ (compareOp _ _ _) _ _ _)); first | walk_at "MY hid" | (k_unfold; (try dsimp only)) | (k_end; wrow_close) | walk1 | (dsimp only; walk1) | (leave1; walk_say "STEP leave1"; try dsimp only) | fail "no step"))
                      ((k_here; (with_reducible show wpAny _ _ (call (Value.builtin "sorted") [Value.ref _]) _ _ _); k_dflt (refine' sorted_dict ?k0 ?k1 ?k2 ?k3 ?k4 ?k5 ?k6 ?k7 ?_; (case k1 => k_asm); (case k2 => k_asm); (case k3 => k_mem); (case k4 => assumption); (case k5 => assumption); (case k6 => assumption); (case k7 => omega); (case k0 => rfl); intro _ _ _ _ _ _ _ _ _ _ _ _)))
                      (rename Fr _ _ _ _ => F12); (rename News _ _ _ _ => N12); (rename IntsAre _ _ => hi1); (rename List.Perm _ _ => hq1); (rename List.Pairwise _ _ => hs1)
                      try dsimp only
                      (repeat' ((fail_if_success (with_reducible show wpAny _ _ (call (Value.builtin "sorted") _) _ _ _)); (fail_if_success (with_reducible show wpAny _ _ (call (Value.ref _) _) _ _ _)); (fail_if_success (with_reducible show wpAny _ _ (call (Value.type _) _) _ _ _)); (fail_if_success (with_reducible show wpAny _ _ (compareOp _ _ _) _ _ _)); first | walk_at "MY hid" | (k_unfold; (try dsimp only)) | (k_end; wrow_close) | walk1 | (dsimp only; walk1) | (leave1; walk_say "STEP leave1"; try dsimp only) | fail "no step"))
                      refine kso_sorted (vs := vv) F12 N12 (isL N12 (by k_mem)) P4 (by omega) ?_
                      intro d2 v2 n2 c2' h2 F13 N13 l2 hi2 he2 hq2 hs2 hb2
                      have hns := ksm_same (hq1.trans (hr2.trans hq2.symm)) hs1 hs2
                      subst hns
                      clear hb2 he2 l2
                      try dsimp only
                      (repeat' ((fail_if_success (with_reducible show wpAny _ _ (call (Value.builtin "sorted") _) _ _ _)); (fail_if_success (with_reducible show wpAny _ _ (call (Value.ref _) _) _ _ _)); (fail_if_success (with_reducible show wpAny _ _ (call (Value.type _) _) _ _ _)); (fail_if_success (with_reducible show wpAny _ _ (compareOp _ _ _) _ _ _)); first | walk_at "MY hid" | (k_unfold; (try dsimp only)) | (k_end; wrow_close) | walk1 | (dsimp only; walk1) | (leave1; walk_say "STEP leave1"; try dsimp only) | fail "no step"))
                      walk1
                      (repeat' ((fail_if_success (with_reducible show wpAny _ _ (call (Value.builtin "sorted") _) _ _ _)); (fail_if_success (with_reducible show wpAny _ _ (call (Value.ref _) _) _ _ _)); (fail_if_success (with_reducible show wpAny _ _ (call (Value.type _) _) _ _ _)); (fail_if_success (with_reducible show wpAny _ _ (compareOp _ _ _) _ _ _)); first | walk_at "MY hid" | (k_unfold; (try dsimp only)) | (k_end; wrow_close) | walk1 | (dsimp only; walk1) | (leave1; walk_say "STEP leave1"; try dsimp only) | fail "no step"))
                      refine cutF_in () F13 N13 (by (first | exact fun _ h => h | ((repeat' (with_reducible first | exact sub_nil | exact fun _ h => h | refine sub_keep ?_ | refine sub_drop ?_)); done) | ((repeat' (first | exact fmn | refine fmc (by k_mem) ?_ | (intro p hp; k_mem))); done))) True.intro (fmc (by with_unfolding_all rfl) (fmc (by with_unfolding_all rfl) (fmc (by with_unfolding_all rfl) (fmc (by with_unfolding_all rfl) (fmn)))))
                    · rintro ⟨⟩ u9 h9 tk9 _ F12 N12
                      clear F11 N11
                      have hrp : ∀ p ∈ rl, p.1 ≠ L + 1 + 1 + 1 + 1 + 1 := fun p hp => (hnr p hp).n5
                      (try walk_at "MY hid")
                      try k_fold
                      walk1
                      refine cutF (σ := O1) (fun c => (dq, dx) :: (ll, listOf lv.toArray ln) :: (hl, listOf hv.toArray hn) :: (sl, listOf sv.toArray sn) :: (vl, listOf vv.toArray vn) :: (cl, listOf cv.toArray cn) :: (dl, listOf dv.toArray dn) :: (L + 1 + 1 + 1 + 1 + 1 + 1 + 1 + 1, c1) :: (L + 1 + 1 + 1 + 1 + 1 + 1 + 1, c2) :: (L + 1 + 1 + 1 + 1 + 1 + 1, c3) :: (L + 1 + 1 + 1 + 1 + 1, c.o) :: (L + 1 + 1 + 1 + 1, ow) :: (L + 1 + 1 + 1, oz) :: (L + 1 + 1, oy) :: (L + 1, ox) :: rl) (fun _ => [(Str.ofString "draws", .ref dl), (Str.ofString "coverings", .ref vl), (Str.ofString "heights", .ref hl), (Str.ofString "pick", .int pk pt)]) (fun c => ∃ t, c.o.data = .cell (some (.int ((ds.getD (Int.toNat 4) 0).fmod 15) t))) F12 ?_ ?_
                      · (try walk_at "MY hid")
                        try k_fold
                        (repeat' ((fail_if_success (with_reducible show wpAny _ _ (call (Value.builtin "sorted") _) _ _ _)); (fail_if_success (with_reducible show wpAny _ _ (call (Value.ref _) _) _ _ _)); (fail_if_success (with_reducible show wpAny _ _ (call (Value.type _) _) _ _ _)); (fail_if_success (with_reducible show wpAny _ _ (compareOp _ _ _) _ _ _)); first | walk_at "MY hid" | (k_unfold; (try dsimp only)) | (k_end; wrow_close) | walk1 | (dsimp only; walk1) | (leave1; walk_say "STEP leave1"; try dsimp only) | fail "no step"))
                        (rename Fr _ _ _ _ => F5); (rename News _ _ _ _ => N5); (rename _ = Data.cell (some _) => hd4)
                        refine cutF_in ⟨_⟩ F5 N5 (fun p hp => hp) ⟨_, hd4⟩ (fmc (by with_unfolding_all rfl) (fmc (by with_unfolding_all rfl) (fmc (by with_unfolding_all rfl) (fmc (by with_unfolding_all rfl) (fmn)))))
                      · rintro ⟨oq⟩ u10 h10 tk10 ⟨ft, hoq⟩ F13 N13
                        dsimp only at hoq F13 N13
                        clear F12 N12 x4 hrp
                        have hf0 : 0 ≤ (ds.getD (Int.toNat 4) 0).fmod 15 := Int.fmod_nonneg_of_pos _ (by decide)
                        have hf1 : (ds.getD (Int.toNat 4) 0).fmod 15 < 15 := Int.fmod_lt_of_pos _ (by decide)
                        generalize hfr : (ds.getD (Int.toNat 4) 0).fmod 15 = fr at hoq hf0 hf1
                        (try walk_at "MY hid")
                        try k_fold
                        try dsimp only
                        walk1
                        refine cutF (σ := Tk) (fun _ => (dq, dx) :: (ll, listOf lv.toArray ln) :: (hl, listOf hv.toArray hn) :: (sl, listOf sv.toArray sn) :: (vl, listOf vv.toArray vn) :: (cl, listOf cv.toArray cn) :: (dl, listOf dv.toArray dn) :: (L + 1 + 1 + 1 + 1 + 1 + 1 + 1 + 1, c1) :: (L + 1 + 1 + 1 + 1 + 1 + 1 + 1, c2) :: (L + 1 + 1 + 1 + 1 + 1 + 1, c3) :: (L + 1 + 1 + 1 + 1 + 1, oq) :: (L + 1 + 1 + 1 + 1, ow) :: (L + 1 + 1 + 1, oz) :: (L + 1 + 1, oy) :: (L + 1, ox) :: rl) (fun c => [(Str.ofString "draws", .ref dl), (Str.ofString "coverings", .ref vl), (Str.ofString "heights", .ref hl), (Str.ofString "pick", .int pk pt), (Str.ofString "written", .bytes (apF 6 (- -sumP fr (spotsP (cellsE ds)).length) #[]) c.t)]) (fun _ => True) F13 ?_ ?_
                        · (try walk_at "MY hid")
                          try k_fold
                          (repeat' ((fail_if_success (with_reducible show wpAny _ _ (call (Value.builtin "sorted") _) _ _ _)); (fail_if_success (with_reducible show wpAny _ _ (call (Value.ref _) _) _ _ _)); (fail_if_success (with_reducible show wpAny _ _ (call (Value.type _) _) _ _ _)); (fail_if_success (with_reducible show wpAny _ _ (compareOp _ _ _) _ _ _)); (fail_if_success (with_reducible show wpAny _ _ (eval (Expr.ListComp _ _ _ _) _) _ _ _)); (fail_if_success (with_reducible show wpAny _ _ (pyIter _) _ _ _)); first | walk_at "MY hid" | (k_unfold; (try dsimp only)) | (k_end; wrow_close) | walk1 | (dsimp only; walk1) | (leave1; walk_say "STEP leave1"; try dsimp only) | fail "no step"))
                          ((k_here; k_dflt (refine LCg.ListComp_U (F₀ := by k_asm) (by with_unfolding_all rfl) (by decide) (by rfl) (by decide) (by rfl) ?_)))
                          (repeat' ((fail_if_success (with_reducible show wpAny _ _ (call (Value.builtin "sorted") _) _ _ _)); (fail_if_success (with_reducible show wpAny _ _ (call (Value.ref _) _) _ _ _)); (fail_if_success (with_reducible show wpAny _ _ (call (Value.type _) _) _ _ _)); (fail_if_success (with_reducible show wpAny _ _ (compareOp _ _ _) _ _ _)); (fail_if_success (with_reducible show wpAny _ _ (eval (Expr.ListComp _ _ _ _) _) _ _ _)); (fail_if_success (with_reducible show wpAny _ _ (pyIter _) _ _ _)); first | walk_at "MY hid" | (k_unfold; (try dsimp only)) | (k_end; wrow_close) | walk1 | (dsimp only; walk1) | (leave1; walk_say "STEP leave1"; try dsimp only) | fail "no step"))
                          walk1
                          walk_at "CompSrc"
                          refine comp_invF (fun j zs => IntsAre zs ((rangeKs 0 j).map fun k => (fr + 1 + k).fmod 16 * 16 ^ (((spotsP (cellsE ds)).length : Int) - 1 - k).toNat)) .nil ?_ ?_
                          · rintro j v zs I3 oI3 C3 oC3 D3 m3 h3 tk3 E3 hj ⟨t, rfl⟩ hy hC3 hx3 F3 N3 off ne
                            have hj2 : 0 ≤ 0 + (j : Int) ∧ 0 + (j : Int) < (spotsP (cellsE ds)).length := by omega
                            (try walk_at "MY hid")
                            try k_fold
                            (repeat' ((fail_if_success (with_reducible show wpAny _ _ (call (Value.builtin "sorted") _) _ _ _)); (fail_if_success (with_reducible show wpAny _ _ (call (Value.ref _) _) _ _ _)); (fail_if_success (with_reducible show wpAny _ _ (call (Value.type _) _) _ _ _)); (fail_if_success (with_reducible show wpAny _ _ (compareOp _ _ _) _ _ _)); (fail_if_success (with_reducible show wpAny _ _ (eval (Expr.ListComp _ _ _ _) _) _ _ _)); (fail_if_success (with_reducible show wpAny _ _ (pyIter _) _ _ _)); first | walk_at "MY hid" | (k_unfold; (try dsimp only)) | (k_end; wrow_close) | walk1 | (dsimp only; walk1) | (leave1; walk_say "STEP leave1"; try dsimp only) | fail "no step"))
                            refine comp_end _ F3 N3 (by (first | exact fun _ h => h | ((repeat' (with_reducible first | exact sub_nil | exact fun _ h => h | refine sub_keep ?_ | refine sub_drop ?_)); done) | ((repeat' (first | exact fmn | refine fmc (by k_mem) ?_ | (intro p hp; k_mem))); done))) off True.intro ⟨rfl, ?_⟩
                            rw [rangeKs_succ, List.map_append]
                            exact ints_snoc hy
                          · rintro zs hy
                            rw [show (((spotsP (cellsE ds)).length : Int) - 0).toNat = (spotsP (cellsE ds)).length by omega] at hy
                            unfold LCg.FinE
                            intro D9 h9 tk9 F9 N9 o9
                            have hzl := IntsAre.length hy
                            rw [List.length_map, rangeKs_length] at hzl
                            clear o9
                            (try walk_at "MY hid")
                            try k_fold
                            walk1
                            refine' sumK ?h0 F9 N9 (isL N9 (by k_mem)) hy ?_
                            case h0 => rfl
                            intro h11 tk11 st F14 N14
                            try dsimp only
                            clear hy hzl F9 N9
                            have hsp : ((rangeKs 0 (spotsP (cellsE ds)).length).map fun k => (fr + 1 + k).fmod 16 * 16 ^ (((spotsP (cellsE ds)).length : Int) - 1 - k).toNat).sum = sumP fr (spotsP (cellsE ds)).length := rfl
                            rw [hsp]
                            clear hsp
                            walk1
                            have hz6 := sum_ok (fr := fr) hf0 hf1 (spots6 ds)
                            walk1
                            walk1
                            ((k_here; (with_reducible show wpAny _ _ (call (Value.ref 21) [Value.int _ _]) _ _ _); k_dflt (refine' ctr_use (WC3.ctr_ap _ _ _ ?z1) ?k1 ?k2 ?k3 ?k4 ?kS ?k5 ?kF ?kK ?kd ?ku ?_; (((case k1 => k_asm); (case k2 => k_asm); (case k3 => k_asm); (case k4 => k_asm); (case kS => first | exact fmn | exact fmc (by k_mem) (fmn) | exact fmc (by k_mem) (fmc (by k_mem) (fmn))); (case k5 => k_asm); (case kF => rfl); (case kK => rfl); (case kd => walk_at "MY room"); (case ku => walk_at "MY room"))); (case z1 => assumption); walk_at "MY post0")))
                            walk1
                            (rename Fr _ _ _ _ => F5); (rename News _ _ _ _ => N5)
                            refine cutF_in ⟨_⟩ F5 N5 (by (first | exact fun _ h => h | ((repeat' (with_reducible first | exact sub_nil | exact fun _ h => h | refine sub_keep ?_ | refine sub_drop ?_)); done) | ((repeat' (first | exact fmn | refine fmc (by k_mem) ?_ | (intro p hp; k_mem))); done))) True.intro (fmc (by with_unfolding_all rfl) (fmc (by with_unfolding_all rfl) (fmc (by with_unfolding_all rfl) (fmc (by with_unfolding_all rfl) (fmc (by with_unfolding_all rfl) (fmn))))))
                        · rintro ⟨wt⟩ u11 h11 tk11 _ F14 N14
                          clear F13 N13
                          (try walk_at "MY hid")
                          try k_fold
                          try dsimp only
                          walk1
                          have hs6 := spots6 ds
                          have hrs : ∀ p ∈ rl, p.1 ≠ L + 1 + 1 + 1 + 1 + 1 + 1 := fun p hp => (hnr p hp).n6
                          refine cutF (σ := O1) (fun c => (dq, dx) :: (ll, listOf lv.toArray ln) :: (hl, listOf hv.toArray hn) :: (sl, listOf sv.toArray sn) :: (vl, listOf vv.toArray vn) :: (cl, listOf cv.toArray cn) :: (dl, listOf dv.toArray dn) :: (L + 1 + 1 + 1 + 1 + 1 + 1 + 1 + 1, c1) :: (L + 1 + 1 + 1 + 1 + 1 + 1 + 1, c2) :: (L + 1 + 1 + 1 + 1 + 1 + 1, c.o) :: (L + 1 + 1 + 1 + 1 + 1, oq) :: (L + 1 + 1 + 1 + 1, ow) :: (L + 1 + 1 + 1, oz) :: (L + 1 + 1, oy) :: (L + 1, ox) :: rl) (fun _ => [(Str.ofString "coverings", .ref vl), (Str.ofString "heights", .ref hl)])
                            (fun c => ∃ t, c.o.data = .cell (some (.str (wordP (lettersP fr (spotsP (cellsE ds)).length) ((rowsP (cellsE ds) (spotsP (cellsE ds)) (covE ds)).getD pk.toNat []) (leastP (rowsP (cellsE ds) (spotsP (cellsE ds)) (covE ds)) (spotsP (cellsE ds)).length)) t))) F14 ?_ ?_
                          · have hrow : ∃ ra rvs rn, hv[pk.toNat]? = some (.ref ra) ∧ (ra, listOf rvs.toArray rn) ∈ rl ∧ IntsAre rvs ((rowsP (cellsE ds) (spotsP (cellsE ds)) (covE ds)).getD pk.toNat []) := rows_get P6 (by rw [rowsP_length]; omega)
                            obtain ⟨ra, rvs, rn, hrv, hrm, hri⟩ := hrow
                            have hrm2 : (ra, listOf rvs.toArray rn) ∈ (dq, dx) :: (ll, listOf lv.toArray ln) :: (hl, listOf hv.toArray hn) :: (sl, listOf sv.toArray sn) :: (vl, listOf vv.toArray vn) :: (cl, listOf cv.toArray cn) :: (dl, listOf dv.toArray dn) :: (L + 1 + 1 + 1 + 1 + 1 + 1 + 1 + 1, c1) :: (L + 1 + 1 + 1 + 1 + 1 + 1 + 1, c2) :: (L + 1 + 1 + 1 + 1 + 1 + 1, c3) :: (L + 1 + 1 + 1 + 1 + 1, oq) :: (L + 1 + 1 + 1 + 1, ow) :: (L + 1 + 1 + 1, oz) :: (L + 1 + 1, oy) :: (L + 1, ox) :: rl := by
                              iterate 15 apply List.mem_cons_of_mem
                              exact hrm
                            have hrl : ((rowsP (cellsE ds) (spotsP (cellsE ds)) (covE ds)).getD pk.toNat []).length = (spotsP (cellsE ds)).length := rowsP_len (cellsE ds) (spotsP (cellsE ds)) (covE ds) ((rowsP (cellsE ds) (spotsP (cellsE ds)) (covE ds)).getD pk.toNat []) (getD_memG (by rw [rowsP_length]; omega))
                            have hwl := letter_len hf0 hf1 hs6
                            have hws := word_sum hf0 hf1 hs6 ((rowsP (cellsE ds) (spotsP (cellsE ds)) (covE ds)).getD pk.toNat []) (leastP (rowsP (cellsE ds) (spotsP (cellsE ds)) (covE ds)) (spotsP (cellsE ds)).length)
                            have hll := leastP_len (rowsP (cellsE ds) (spotsP (cellsE ds)) (covE ds)) (spotsP (cellsE ds)).length
                            generalize (rowsP (cellsE ds) (spotsP (cellsE ds)) (covE ds)).getD pk.toNat [] = row at hri hrl hws
                            (try walk_at "MY hid")
                            try k_fold
                            iterate 8 walk1
                            walk1
                            refine decodeS (dec_ok hf0 hf1 hs6) ?_
                            intro wt2 tk12
                            (try walk_at "MY hid")
                            try k_fold
                            iterate 4 walk1
                            try dsimp only
                            refine item_list (isL N14 (by k_mem)) hp0 (by omega) (by rw [List.getElem?_toArray]; exact hrv) ?_
                            iterate 4 walk1
                            ((refine' ctr_use (WC9.ctr_word _ _ _ _ _ _ _ _ _ _ _ ?z1 ?z2 ?z3 ?z4 ?z5 ?z6) ?k1 ?k2 ?k3 ?k4 ?kS ?k5 ?kF ?kK ?kd ?ku ?_; (case k1 => k_asm); (case k2 => k_asm); (case k3 => k_asm); (case k4 => k_asm); (case kS => exact fmc (by assumption) (fmc (by k_mem) (fmn))); (case k5 => k_asm); (case kF => rfl); (case kK => rfl); (case kd => walk_at "MY room"); (case ku => walk_at "MY room"); (case z1 => assumption); (case z2 => assumption); (case z3 => omega); (case z4 => omega); (case z5 => omega); (case z6 => assumption); walk_at "MY post0"))
                            walk1
                            (rename Fr _ _ _ _ => F5); (rename News _ _ _ _ => N5); (rename _ = Data.cell (some _) => hd4)
                            refine cutF_in ⟨_⟩ F5 N5 (fun p hp => hp) ⟨_, hd4⟩ (fmc (by with_unfolding_all rfl) (fmc (by with_unfolding_all rfl) (fmn)))
                          · rintro ⟨or⟩ u12 h12 tk12 ⟨wt3, hor⟩ F15 N15
                            dsimp only at hor F15 N15
                            clear F14 N14 x3 hrs
                            have hrs : ∀ p ∈ rl, p.1 ≠ L + 1 + 1 + 1 + 1 + 1 + 1 + 1 := fun p hp => (hnr p hp).n7
                            have hwl := letter_len hf0 hf1 hs6
                            have hll := leastP_len (rowsP (cellsE ds) (spotsP (cellsE ds)) (covE ds)) (spotsP (cellsE ds)).length
                            have hrl := rowsP_len (cellsE ds) (spotsP (cellsE ds)) (covE ds)
                            have hrc := rowsP_length (cellsE ds) (spotsP (cellsE ds)) (covE ds)
                            have hhl := P6.length
                            (try walk_at "MY hid")
                            try k_fold
                            try dsimp only
                            walk1
                            refine cutF (σ := S4) (fun c => (c.cl, listOf c.cv.toArray c.cn) :: (dq, dx) :: (ll, listOf lv.toArray ln) :: (hl, listOf hv.toArray hn) :: (sl, listOf sv.toArray sn) :: (vl, listOf vv.toArray vn) :: (cl, listOf cv.toArray cn) :: (dl, listOf dv.toArray dn) :: (L + 1 + 1 + 1 + 1 + 1 + 1 + 1 + 1, c1) :: (L + 1 + 1 + 1 + 1 + 1 + 1 + 1, c.ox) :: (L + 1 + 1 + 1 + 1 + 1 + 1, or) :: (L + 1 + 1 + 1 + 1 + 1, oq) :: (L + 1 + 1 + 1 + 1, ow) :: (L + 1 + 1 + 1, oz) :: (L + 1 + 1, oy) :: (L + 1, ox) :: rl) (fun _ => [(Str.ofString "coverings", .ref vl)])
                              (fun c => StrsAre c.cv ((rowsP (cellsE ds) (spotsP (cellsE ds)) (covE ds)).map fun row => wordP (lettersP fr (spotsP (cellsE ds)).length) row (leastP (rowsP (cellsE ds) (spotsP (cellsE ds)) (covE ds)) (spotsP (cellsE ds)).length)) ∧ c.ox.data = .cell (some (.ref c.cl)) ∧ (NCs L c.cl)) F15 ?_ ?_
                            · (try walk_at "MY hid")
                              try k_fold
                              (repeat' ((fail_if_success (with_reducible show wpAny _ _ (call (Value.builtin "sorted") _) _ _ _)); (fail_if_success (with_reducible show wpAny _ _ (call (Value.ref _) _) _ _ _)); (fail_if_success (with_reducible show wpAny _ _ (call (Value.type _) _) _ _ _)); (fail_if_success (with_reducible show wpAny _ _ (compareOp _ _ _) _ _ _)); (fail_if_success (with_reducible show wpAny _ _ (eval (Expr.ListComp _ _ _ _) _) _ _ _)); (fail_if_success (with_reducible show wpAny _ _ (pyIter _) _ _ _)); first | walk_at "MY hid" | (k_unfold; (try dsimp only)) | (k_end; wrow_close) | walk1 | (dsimp only; walk1) | (leave1; walk_say "STEP leave1"; try dsimp only) | fail "no step"))
                              ((k_here; k_dflt (refine LCg.ListComp_U (F₀ := by k_asm) (by with_unfolding_all rfl) (by decide) (by rfl) (by decide) (by rfl) ?_)))
                              walk1
                              walk_at "CompSrc"
                              refine comp_invF (fun j zs => StrsAre zs (((rowsP (cellsE ds) (spotsP (cellsE ds)) (covE ds)).take j).map fun row => wordP (lettersP fr (spotsP (cellsE ds)).length) row (leastP (rowsP (cellsE ds) (spotsP (cellsE ds)) (covE ds)) (spotsP (cellsE ds)).length))) .nil ?_ ?_
                              · rintro j v zs I3 oI3 C3 oC3 D3 m3 h3 tk3 E3 hj hv3 hy hC3 hx3 F3 N3 off ne
                                have hv4 := hv3
                                rw [List.getElem?_toArray] at hv4
                                obtain ⟨ra, rvs, rn, row, rfl, hrow, hrm, hri⟩ := P6.at j hv4
                                clear hv4
                                have hrl2 := hrl row (List.mem_of_getElem? hrow)
                                have hws := word_sum hf0 hf1 hs6 row (leastP (rowsP (cellsE ds) (spotsP (cellsE ds)) (covE ds)) (spotsP (cellsE ds)).length)
                                have hrm2 : (ra, listOf rvs.toArray rn) ∈ (I3, oI3) :: (C3, oC3) :: (D3, LCg.lst zs) :: (dq, dx) :: (ll, listOf lv.toArray ln) :: (hl, listOf hv.toArray hn) :: (sl, listOf sv.toArray sn) :: (vl, listOf vv.toArray vn) :: (cl, listOf cv.toArray cn) :: (dl, listOf dv.toArray dn) :: (L + 1 + 1 + 1 + 1 + 1 + 1 + 1 + 1, c1) :: (L + 1 + 1 + 1 + 1 + 1 + 1 + 1, c2) :: (L + 1 + 1 + 1 + 1 + 1 + 1, or) :: (L + 1 + 1 + 1 + 1 + 1, oq) :: (L + 1 + 1 + 1 + 1, ow) :: (L + 1 + 1 + 1, oz) :: (L + 1 + 1, oy) :: (L + 1, ox) :: rl := by
                                  iterate 18 apply List.mem_cons_of_mem
                                  exact hrm
                                (try walk_at "MY hid")
                                try k_fold
                                (repeat' ((fail_if_success (with_reducible show wpAny _ _ (call (Value.builtin "sorted") _) _ _ _)); (fail_if_success (with_reducible show wpAny _ _ (call (Value.ref _) _) _ _ _)); (fail_if_success (with_reducible show wpAny _ _ (call (Value.type _) _) _ _ _)); (fail_if_success (with_reducible show wpAny _ _ (compareOp _ _ _) _ _ _)); (fail_if_success (with_reducible show wpAny _ _ (eval (Expr.ListComp _ _ _ _) _) _ _ _)); (fail_if_success (with_reducible show wpAny _ _ (pyIter _) _ _ _)); first | walk_at "MY hid" | (k_unfold; (try dsimp only)) | (k_end; wrow_close) | walk1 | (dsimp only; walk1) | (leave1; walk_say "STEP leave1"; try dsimp only) | fail "no step"))
                                rw [show Txt.slice (Str.ofString "BCDEFGHIJKLMNOPABCDE") (some fr) (some (fr + ((spotsP (cellsE ds)).length : Int))) = lettersP fr (spotsP (cellsE ds)).length from rfl]
                                ((refine' ctr_use (WC9.ctr_word _ _ _ _ _ _ _ _ _ _ _ ?z1 ?z2 ?z3 ?z4 ?z5 ?z6) ?k1 ?k2 ?k3 ?k4 ?kS ?k5 ?kF ?kK ?kd ?ku ?_; (case k1 => k_asm); (case k2 => k_asm); (case k3 => k_asm); (case k4 => k_asm); (case kS => exact fmc (by assumption) (fmc (by k_mem) (fmn))); (case k5 => k_asm); (case kF => rfl); (case kK => rfl); (case kd => walk_at "MY room"); (case ku => walk_at "MY room"); (case z1 => assumption); (case z2 => assumption); (case z3 => omega); (case z4 => omega); (case z5 => omega); (case z6 => assumption); walk_at "MY post0"))
                                (rename Fr _ _ _ _ => F9); (rename News _ _ _ _ => N9)
                                refine comp_end _ F9 N9 (by (first | exact fun _ h => h | ((repeat' (with_reducible first | exact sub_nil | exact fun _ h => h | refine sub_keep ?_ | refine sub_drop ?_)); done) | ((repeat' (first | exact fmn | refine fmc (by k_mem) ?_ | (intro p hp; k_mem))); done))) off (Or.inr ⟨_, by k_mem, rfl, _, rfl⟩) ⟨rfl, ?_⟩
                                rw [take_map_snoc hrow]
                                exact strs_snoc hy
                              · rintro zs hy
                                rw [List.take_of_length_le (by rw [List.size_toArray]; omega)] at hy
                                unfold LCg.FinE
                                intro D9 h9 tk9 F9 N9 o9
                                have hND : (NCs L D9) := (by first | exact nc_here (off_all o9) | exact nc_here (nc_tl (L := L) (off_all o9)) | exact nc_here (nc_tl (L := L) (nc_tl (L := L) (off_all o9))) | exact nc_here (nc_tl (L := L) (nc_tl (L := L) (nc_tl (L := L) (off_all o9)))) | exact nc_here (nc_tl (L := L) (nc_tl (L := L) (nc_tl (L := L) (nc_tl (L := L) (off_all o9))))) | exact nc_here (nc_tl (L := L) (nc_tl (L := L) (nc_tl (L := L) (nc_tl (L := L) (nc_tl (L := L) (off_all o9)))))) | exact nc_here (nc_tl (L := L) (nc_tl (L := L) (nc_tl (L := L) (nc_tl (L := L) (nc_tl (L := L) (nc_tl (L := L) (off_all o9))))))) | exact nc_here (nc_tl (L := L) (nc_tl (L := L) (nc_tl (L := L) (nc_tl (L := L) (nc_tl (L := L) (nc_tl (L := L) (nc_tl (L := L) (off_all o9)))))))) | exact nc_here (nc_tl (L := L) (nc_tl (L := L) (nc_tl (L := L) (nc_tl (L := L) (nc_tl (L := L) (nc_tl (L := L) (nc_tl (L := L) (nc_tl (L := L) (off_all o9))))))))) | exact nc_here (nc_tl (L := L) (nc_tl (L := L) (nc_tl (L := L) (nc_tl (L := L) (nc_tl (L := L) (nc_tl (L := L) (nc_tl (L := L) (nc_tl (L := L) (nc_tl (L := L) (off_all o9)))))))))) | exact nc_here (nc_tl (L := L) (nc_tl (L := L) (nc_tl (L := L) (nc_tl (L := L) (nc_tl (L := L) (nc_tl (L := L) (nc_tl (L := L) (nc_tl (L := L) (nc_tl (L := L) (nc_tl (L := L) (off_all o9))))))))))) | exact nc_here (nc_tl (L := L) (nc_tl (L := L) (nc_tl (L := L) (nc_tl (L := L) (nc_tl (L := L) (nc_tl (L := L) (nc_tl (L := L) (nc_tl (L := L) (nc_tl (L := L) (nc_tl (L := L) (nc_tl (L := L) (off_all o9)))))))))))))
                                clear o9
                                (try walk_at "MY hid")
                                try k_fold
                                walk1
                                (rename Fr _ _ _ _ => F5); (rename News _ _ _ _ => N5); (rename _ = Data.cell (some _) => hd4)
                                refine cutF_in ⟨D9, zs, zs.length, _⟩ F5 N5 (fun p hp => hp) ⟨hy, hd4, hND⟩ (fmc (by with_unfolding_all rfl) (fmn))
                            · rintro ⟨ul, uv, un, os⟩ u13 h13 tk13 ⟨P8, hos, hnu⟩ F16 N16
                              dsimp only at P8 hos F16 N16
                              clear F15 N15 x2 hrs
                              have hrs : ∀ p ∈ rl, p.1 ≠ L + 1 + 1 + 1 + 1 + 1 + 1 + 1 + 1 := fun p hp => (hnr p hp).n8
                              (try walk_at "MY hid")
                              try k_fold
                              try dsimp only
                              walk1
                              refine cutF (σ := S4) (fun c => (c.cl, listOf c.cv.toArray c.cn) :: (ul, listOf uv.toArray un) :: (dq, dx) :: (ll, listOf lv.toArray ln) :: (hl, listOf hv.toArray hn) :: (sl, listOf sv.toArray sn) :: (vl, listOf vv.toArray vn) :: (cl, listOf cv.toArray cn) :: (dl, listOf dv.toArray dn) :: (L + 1 + 1 + 1 + 1 + 1 + 1 + 1 + 1, c.ox) :: (L + 1 + 1 + 1 + 1 + 1 + 1 + 1, os) :: (L + 1 + 1 + 1 + 1 + 1 + 1, or) :: (L + 1 + 1 + 1 + 1 + 1, oq) :: (L + 1 + 1 + 1 + 1, ow) :: (L + 1 + 1 + 1, oz) :: (L + 1 + 1, oy) :: (L + 1, ox) :: rl) (fun _ => [])
                                (fun c => IntsAre c.cv (dueP out (covE ds)) ∧ c.ox.data = .cell (some (.ref c.cl)) ∧ (NCs L c.cl)) F16 ?_ ?_
                              · (try walk_at "MY hid")
                                try k_fold
                                (repeat' ((fail_if_success (with_reducible show wpAny _ _ (call (Value.builtin "sorted") _) _ _ _)); (fail_if_success (with_reducible show wpAny _ _ (call (Value.ref _) _) _ _ _)); (fail_if_success (with_reducible show wpAny _ _ (call (Value.type _) _) _ _ _)); (fail_if_success (with_reducible show wpAny _ _ (compareOp _ _ _) _ _ _)); (fail_if_success (with_reducible show wpAny _ _ (eval (Expr.ListComp _ _ _ _) _) _ _ _)); (fail_if_success (with_reducible show wpAny _ _ (pyIter _) _ _ _)); first | walk_at "MY hid" | (k_unfold; (try dsimp only)) | (k_end; wrow_close) | walk1 | (dsimp only; walk1) | (leave1; walk_say "STEP leave1"; try dsimp only) | fail "no step"))
                                ((k_here; k_dflt (refine LCg.ListComp_U (F₀ := by k_asm) (by with_unfolding_all rfl) (by decide) (by rfl) (by decide) (by rfl) ?_)))
                                walk1
                                walk_at "CompSrc"
                                refine comp_invF (fun j zs => IntsAre zs (((covE ds).take j).map fun c => kdfLook out c 0)) .nil ?_ ?_
                                · rintro j v zs I3 oI3 C3 oC3 D3 m3 h3 tk3 E3 hj hv3 hy hC3 hx3 F3 N3 off ne
                                  have hv4 := hv3
                                  rw [List.getElem?_toArray] at hv4
                                  obtain ⟨x3, t3, rfl, hx4⟩ := ints_at2 P4 j hv4
                                  clear hv4
                                  have hk3 : kdfHas out x3 = true := has_of_perm hr2 (List.mem_of_getElem? hx4)
                                  (try walk_at "MY hid")
                                  try k_fold
                                  iterate 3 walk1
                                  try dsimp only
                                  refine kdf_item (TabAt.ofNews N3 (by k_mem) hlx hdx hfx) hk3 ?_
                                  intro t9
                                  (repeat' ((fail_if_success (with_reducible show wpAny _ _ (call (Value.builtin "sorted") _) _ _ _)); (fail_if_success (with_reducible show wpAny _ _ (call (Value.ref _) _) _ _ _)); (fail_if_success (with_reducible show wpAny _ _ (call (Value.type _) _) _ _ _)); (fail_if_success (with_reducible show wpAny _ _ (compareOp _ _ _) _ _ _)); (fail_if_success (with_reducible show wpAny _ _ (eval (Expr.ListComp _ _ _ _) _) _ _ _)); (fail_if_success (with_reducible show wpAny _ _ (pyIter _) _ _ _)); first | walk_at "MY hid" | (k_unfold; (try dsimp only)) | (k_end; wrow_close) | walk1 | (dsimp only; walk1) | (leave1; walk_say "STEP leave1"; try dsimp only) | fail "no step"))
                                  (rename Fr _ _ _ _ => F9); (rename News _ _ _ _ => N9)
                                  refine comp_end _ F9 N9 (by (first | exact fun _ h => h | ((repeat' (with_reducible first | exact sub_nil | exact fun _ h => h | refine sub_keep ?_ | refine sub_drop ?_)); done) | ((repeat' (first | exact fmn | refine fmc (by k_mem) ?_ | (intro p hp; k_mem))); done))) off (Or.inr ⟨_, by k_mem, rfl, _, rfl⟩) ⟨rfl, ?_⟩
                                  rw [take_map_snoc hx4]
                                  exact ints_snoc hy
                                · rintro zs hy
                                  rw [List.take_of_length_le (by rw [List.size_toArray]; omega)] at hy
                                  unfold LCg.FinE
                                  intro D9 h9 tk9 F9 N9 o9
                                  have hND : (NCs L D9) := (by first | exact nc_here (off_all o9) | exact nc_here (nc_tl (L := L) (off_all o9)) | exact nc_here (nc_tl (L := L) (nc_tl (L := L) (off_all o9))) | exact nc_here (nc_tl (L := L) (nc_tl (L := L) (nc_tl (L := L) (off_all o9)))) | exact nc_here (nc_tl (L := L) (nc_tl (L := L) (nc_tl (L := L) (nc_tl (L := L) (off_all o9))))) | exact nc_here (nc_tl (L := L) (nc_tl (L := L) (nc_tl (L := L) (nc_tl (L := L) (nc_tl (L := L) (off_all o9)))))) | exact nc_here (nc_tl (L := L) (nc_tl (L := L) (nc_tl (L := L) (nc_tl (L := L) (nc_tl (L := L) (nc_tl (L := L) (off_all o9))))))) | exact nc_here (nc_tl (L := L) (nc_tl (L := L) (nc_tl (L := L) (nc_tl (L := L) (nc_tl (L := L) (nc_tl (L := L) (nc_tl (L := L) (off_all o9)))))))) | exact nc_here (nc_tl (L := L) (nc_tl (L := L) (nc_tl (L := L) (nc_tl (L := L) (nc_tl (L := L) (nc_tl (L := L) (nc_tl (L := L) (nc_tl (L := L) (off_all o9))))))))) | exact nc_here (nc_tl (L := L) (nc_tl (L := L) (nc_tl (L := L) (nc_tl (L := L) (nc_tl (L := L) (nc_tl (L := L) (nc_tl (L := L) (nc_tl (L := L) (nc_tl (L := L) (off_all o9)))))))))) | exact nc_here (nc_tl (L := L) (nc_tl (L := L) (nc_tl (L := L) (nc_tl (L := L) (nc_tl (L := L) (nc_tl (L := L) (nc_tl (L := L) (nc_tl (L := L) (nc_tl (L := L) (nc_tl (L := L) (off_all o9))))))))))) | exact nc_here (nc_tl (L := L) (nc_tl (L := L) (nc_tl (L := L) (nc_tl (L := L) (nc_tl (L := L) (nc_tl (L := L) (nc_tl (L := L) (nc_tl (L := L) (nc_tl (L := L) (nc_tl (L := L) (nc_tl (L := L) (off_all o9)))))))))))))
                                  clear o9
                                  (try walk_at "MY hid")
                                  try k_fold
                                  walk1
                                  (rename Fr _ _ _ _ => F5); (rename News _ _ _ _ => N5); (rename _ = Data.cell (some _) => hd4)
                                  refine cutF_in ⟨D9, zs, zs.length, _⟩ F5 N5 (fun p hp => hp) ⟨hy, hd4, hND⟩ (fmn)
                              · rintro ⟨el, ev, en, ot⟩ u14 h14 tk14 ⟨P9, hot, hne⟩ F17 N17
                                dsimp only at P9 hot F17 N17
                                clear F16 N16 x1 hrs
                                (try walk_at "MY hid")
                                try k_fold
                                try dsimp only
                                have hlev := lev_all ds hf0 hf1 hp0 hp1
                                rw [← hout] at hlev
                                generalize (wordP (lettersP fr (spotsP (cellsE ds)).length) ((rowsP (cellsE ds) (spotsP (cellsE ds)) (covE ds)).getD pk.toNat []) (leastP (rowsP (cellsE ds) (spotsP (cellsE ds)) (covE ds)) (spotsP (cellsE ds)).length)) = W at hlev hor
                                generalize ((rowsP (cellsE ds) (spotsP (cellsE ds)) (covE ds)).map fun row => WC9.wordP (lettersP fr (spotsP (cellsE ds)).length) row (leastP (rowsP (cellsE ds) (spotsP (cellsE ds)) (covE ds)) (spotsP (cellsE ds)).length)) = Ws at hlev P8
                                generalize dueP out (covE ds) = du at hlev P9
                                obtain ⟨hW12, hWs12, hWl, hdu, hd11, hq1, hq2⟩ := hlev
                                clear hout hr1 hr2 hol hwl hll hrl hrc hhl P2 P3 P4 P5 P6 P7 hsl hs12 hsr hvl hv11 hv0 hvr hs6 hdx hfx hlx hlen hfr hp0 hp1 hpk
                                walk1
                                refine cutF (σ := Unit) (fun _ => (el, listOf ev.toArray en) :: (ul, listOf uv.toArray un) :: (dq, dx) :: (ll, listOf lv.toArray ln) :: (hl, listOf hv.toArray hn) :: (sl, listOf sv.toArray sn) :: (vl, listOf vv.toArray vn) :: (cl, listOf cv.toArray cn) :: (dl, listOf dv.toArray dn) :: (L + 1 + 1 + 1 + 1 + 1 + 1 + 1 + 1, ot) :: (L + 1 + 1 + 1 + 1 + 1 + 1 + 1, os) :: (L + 1 + 1 + 1 + 1 + 1 + 1, or) :: (L + 1 + 1 + 1 + 1 + 1, oq) :: (L + 1 + 1 + 1 + 1, ow) :: (L + 1 + 1 + 1, oz) :: (L + 1 + 1, oy) :: (L + 1, ox) :: rl) (fun _ => []) (fun _ => True) F17 ?_ ?_
                                · (try walk_at "MY hid")
                                  try k_fold
                                  (repeat' ((fail_if_success (with_reducible show wpAny _ _ (call (Value.builtin "sorted") _) _ _ _)); (fail_if_success (with_reducible show wpAny _ _ (call (Value.ref _) _) _ _ _)); (fail_if_success (with_reducible show wpAny _ _ (call (Value.type _) _) _ _ _)); (fail_if_success (with_reducible show wpAny _ _ (compareOp _ _ _) _ _ _)); (fail_if_success (with_reducible show wpAny _ _ (eval (Expr.ListComp _ _ _ _) _) _ _ _)); (fail_if_success (with_reducible show wpAny _ _ (pyIter _) _ _ _)); first | walk_at "MY hid" | (k_unfold; (try dsimp only)) | (k_end; wrow_close) | walk1 | (dsimp only; walk1) | (leave1; walk_say "STEP leave1"; try dsimp only) | fail "no step"))
                                  ((k_here; k_dflt (refine LCg.ListComp_U (F₀ := by k_asm) (by with_unfolding_all rfl) (by decide) (by rfl) (by decide) (by rfl) ?_)))
                                  (repeat' ((fail_if_success (with_reducible show wpAny _ _ (call (Value.builtin "sorted") _) _ _ _)); (fail_if_success (with_reducible show wpAny _ _ (call (Value.ref _) _) _ _ _)); (fail_if_success (with_reducible show wpAny _ _ (call (Value.type _) _) _ _ _)); (fail_if_success (with_reducible show wpAny _ _ (compareOp _ _ _) _ _ _)); (fail_if_success (with_reducible show wpAny _ _ (eval (Expr.ListComp _ _ _ _) _) _ _ _)); (fail_if_success (with_reducible show wpAny _ _ (pyIter _) _ _ _)); first | walk_at "MY hid" | (k_unfold; (try dsimp only)) | (k_end; wrow_close) | walk1 | (dsimp only; walk1) | (leave1; walk_say "STEP leave1"; try dsimp only) | fail "no step"))
                                  walk1
                                  walk_at "CompSrc"
                                  refine comp_invF (fun j zs => IntsAre zs ((rangeKs 0 j).map fun k => levP W (Ws.getD k.toNat Str.empty) (du.getD k.toNat 0))) .nil ?_ ?_
                                  · rintro j v zs I3 oI3 C3 oC3 D3 m3 h3 tk3 E3 hj ⟨t, rfl⟩ hy hC3 hx3 F3 N3 off ne
                                    have hj2 : 0 ≤ 0 + (j : Int) ∧ 0 + (j : Int) < du.length ∧ 0 + (j : Int) < Ws.length := by omega
                                    (try walk_at "MY hid")
                                    try k_fold
                                    have z2 : (Ws.getD (0 + (j : Int)).toNat Str.empty).length ≤ 12 := hWs12 _ (getD_memG (by omega))
                                    have z3 := hdu (du.getD (0 + (j : Int)).toNat 0) (getD_memG (by omega))
                                    iterate 10 walk1
                                    try dsimp only
                                    refine KTb.item_list (isL N3 (by k_mem)) P8 (by omega) (by omega) (by omega) ?_
                                    intro t8 _
                                    iterate 4 walk1
                                    try dsimp only
                                    refine item_list_ints (isL N3 (by k_mem)) P9 (by omega) (by omega) (by omega) ?_
                                    intro t9
                                    iterate 2 walk1
                                    ((refine' ctr_use (WC2.ctr_lev _ _ _ _ _ _ _ ?z1 ?z2 ?z3) ?k1 ?k2 ?k3 ?k4 ?kS ?k5 ?kF ?kK ?kd ?ku ?_; (case k1 => k_asm); (case k2 => k_asm); (case k3 => k_asm); (case k4 => k_asm); (case kS => exact fmn); (case k5 => k_asm); (case kF => rfl); (case kK => rfl); (case kd => walk_at "MY room"); (case ku => walk_at "MY room"); (case z1 => assumption); (case z2 => assumption); (case z3 => assumption); walk_at "MY post0"))
                                    (rename Fr _ _ _ _ => F9); (rename News _ _ _ _ => N9)
                                    refine comp_end _ F9 N9 (by (first | exact fun _ h => h | ((repeat' (with_reducible first | exact sub_nil | exact fun _ h => h | refine sub_keep ?_ | refine sub_drop ?_)); done) | ((repeat' (first | exact fmn | refine fmc (by k_mem) ?_ | (intro p hp; k_mem))); done))) off True.intro ⟨rfl, ?_⟩
                                    rw [rangeKs_succ, List.map_append]
                                    exact ints_snoc hy
                                  · rintro zs hy
                                    rw [show ((du.length : Int) - 0).toNat = du.length by omega, hq1] at hy
                                    unfold LCg.FinE
                                    intro D9 h9 tk9 F9 N9 o9
                                    have hND : (NCs L D9) := (by first | exact nc_here (off_all o9) | exact nc_here (nc_tl (L := L) (off_all o9)) | exact nc_here (nc_tl (L := L) (nc_tl (L := L) (off_all o9))) | exact nc_here (nc_tl (L := L) (nc_tl (L := L) (nc_tl (L := L) (off_all o9)))) | exact nc_here (nc_tl (L := L) (nc_tl (L := L) (nc_tl (L := L) (nc_tl (L := L) (off_all o9))))) | exact nc_here (nc_tl (L := L) (nc_tl (L := L) (nc_tl (L := L) (nc_tl (L := L) (nc_tl (L := L) (off_all o9)))))) | exact nc_here (nc_tl (L := L) (nc_tl (L := L) (nc_tl (L := L) (nc_tl (L := L) (nc_tl (L := L) (nc_tl (L := L) (off_all o9))))))) | exact nc_here (nc_tl (L := L) (nc_tl (L := L) (nc_tl (L := L) (nc_tl (L := L) (nc_tl (L := L) (nc_tl (L := L) (nc_tl (L := L) (off_all o9)))))))) | exact nc_here (nc_tl (L := L) (nc_tl (L := L) (nc_tl (L := L) (nc_tl (L := L) (nc_tl (L := L) (nc_tl (L := L) (nc_tl (L := L) (nc_tl (L := L) (off_all o9))))))))) | exact nc_here (nc_tl (L := L) (nc_tl (L := L) (nc_tl (L := L) (nc_tl (L := L) (nc_tl (L := L) (nc_tl (L := L) (nc_tl (L := L) (nc_tl (L := L) (nc_tl (L := L) (off_all o9)))))))))) | exact nc_here (nc_tl (L := L) (nc_tl (L := L) (nc_tl (L := L) (nc_tl (L := L) (nc_tl (L := L) (nc_tl (L := L) (nc_tl (L := L) (nc_tl (L := L) (nc_tl (L := L) (nc_tl (L := L) (off_all o9))))))))))) | exact nc_here (nc_tl (L := L) (nc_tl (L := L) (nc_tl (L := L) (nc_tl (L := L) (nc_tl (L := L) (nc_tl (L := L) (nc_tl (L := L) (nc_tl (L := L) (nc_tl (L := L) (nc_tl (L := L) (nc_tl (L := L) (off_all o9)))))))))))))
                                    clear o9
                                    (try walk_at "MY hid")
                                    try k_fold
                                    (repeat' ((fail_if_success (with_reducible show wpAny _ _ (call (Value.builtin "sorted") _) _ _ _)); (fail_if_success (with_reducible show wpAny _ _ (call (Value.ref _) _) _ _ _)); (fail_if_success (with_reducible show wpAny _ _ (call (Value.type _) _) _ _ _)); (fail_if_success (with_reducible show wpAny _ _ (compareOp _ _ _) _ _ _)); (fail_if_success (with_reducible show wpAny _ _ (eval (Expr.ListComp _ _ _ _) _) _ _ _)); (fail_if_success (with_reducible show wpAny _ _ (pyIter _) _ _ _)); first | walk_at "MY hid" | (k_unfold; (try dsimp only)) | (k_end; wrow_close) | walk1 | (dsimp only; walk1) | (leave1; walk_say "STEP leave1"; try dsimp only) | fail "no step"))
                                    walk1
                                    (repeat' ((fail_if_success (with_reducible show wpAny _ _ (call (Value.builtin "sorted") _) _ _ _)); (fail_if_success (with_reducible show wpAny _ _ (call (Value.ref _) _) _ _ _)); (fail_if_success (with_reducible show wpAny _ _ (call (Value.type _) _) _ _ _)); (fail_if_success (with_reducible show wpAny _ _ (compareOp _ _ _) _ _ _)); (fail_if_success (with_reducible show wpAny _ _ (eval (Expr.ListComp _ _ _ _) _) _ _ _)); (fail_if_success (with_reducible show wpAny _ _ (pyIter _) _ _ _)); first | walk_at "MY hid" | (k_unfold; (try dsimp only)) | (k_end; wrow_close) | walk1 | (dsimp only; walk1) | (leave1; walk_say "STEP leave1"; try dsimp only) | fail "no step"))
                                    refine cutF_in () F9 N9 (by (first | exact fun _ h => h | ((repeat' (with_reducible first | exact sub_nil | exact fun _ h => h | refine sub_keep ?_ | refine sub_drop ?_)); done) | ((repeat' (first | exact fmn | refine fmc (by k_mem) ?_ | (intro p hp; k_mem))); done))) True.intro (fmn)
                                · rintro ⟨⟩ u15 h15 tk15 _ F18 N18
                                  clear F17 N17
                                  (try walk_at "MY hid")
                                  try k_fold
                                  try dsimp only
                                  (repeat' ((fail_if_success (with_reducible show wpAny _ _ (call (Value.builtin "sorted") _) _ _ _)); (fail_if_success (with_reducible show wpAny _ _ (call (Value.ref _) _) _ _ _)); (fail_if_success (with_reducible show wpAny _ _ (call (Value.type _) _) _ _ _)); (fail_if_success (with_reducible show wpAny _ _ (compareOp _ _ _) _ _ _)); (fail_if_success (with_reducible show wpAny _ _ (eval (Expr.ListComp _ _ _ _) _) _ _ _)); (fail_if_success (with_reducible show wpAny _ _ (pyIter _) _ _ _)); first | walk_at "MY hid" | (k_unfold; (try dsimp only)) | (k_end; wrow_close) | walk1 | (dsimp only; walk1) | (leave1; walk_say "STEP leave1"; try dsimp only) | fail "no step"))
                                  ((k_here; k_dflt (refine LCg.ListComp_U (F₀ := by k_asm) (by with_unfolding_all rfl) (by decide) (by rfl) (by decide) (by rfl) ?_)))
                                  (repeat' ((fail_if_success (with_reducible show wpAny _ _ (call (Value.builtin "sorted") _) _ _ _)); (fail_if_success (with_reducible show wpAny _ _ (call (Value.ref _) _) _ _ _)); (fail_if_success (with_reducible show wpAny _ _ (call (Value.type _) _) _ _ _)); (fail_if_success (with_reducible show wpAny _ _ (compareOp _ _ _) _ _ _)); (fail_if_success (with_reducible show wpAny _ _ (eval (Expr.ListComp _ _ _ _) _) _ _ _)); (fail_if_success (with_reducible show wpAny _ _ (pyIter _) _ _ _)); first | walk_at "MY hid" | (k_unfold; (try dsimp only)) | (k_end; wrow_close) | walk1 | (dsimp only; walk1) | (leave1; walk_say "STEP leave1"; try dsimp only) | fail "no step"))
                                  walk1
                                  walk_at "CompSrc"
                                  refine comp_invF (fun j zs => IntsAre zs ((rangeKs 0 j).map fun k => levP (Ws.getD k.toNat Str.empty) W ((du.getD k.toNat 0).fdiv 2))) .nil ?_ ?_
                                  · rintro j v zs I3 oI3 C3 oC3 D3 m3 h3 tk3 E3 hj ⟨t, rfl⟩ hy hC3 hx3 F3 N3 off ne
                                    have hj2 : 0 ≤ 0 + (j : Int) ∧ 0 + (j : Int) < du.length ∧ 0 + (j : Int) < Ws.length := by omega
                                    (try walk_at "MY hid")
                                    try k_fold
                                    have z2 : (Ws.getD (0 + (j : Int)).toNat Str.empty).length ≤ 12 := hWs12 _ (getD_memG (by omega))
                                    have z3 := hdu (du.getD (0 + (j : Int)).toNat 0) (getD_memG (by omega))
                                    have z4 : 0 ≤ (du.getD (0 + (j : Int)).toNat 0).fdiv 2 ∧ (du.getD (0 + (j : Int)).toNat 0).fdiv 2 ≤ 1000 := by
                                      rw [Int.fdiv_eq_ediv_of_nonneg _ (by decide)]
                                      omega
                                    iterate 8 walk1
                                    try dsimp only
                                    refine KTb.item_list (isL N3 (by k_mem)) P8 (by omega) (by omega) (by omega) ?_
                                    intro t8 _
                                    iterate 7 walk1
                                    try dsimp only
                                    refine item_list_ints (isL N3 (by k_mem)) P9 (by omega) (by omega) (by omega) ?_
                                    intro t9
                                    iterate 4 walk1
                                    ((refine' ctr_use (WC2.ctr_lev _ _ _ _ _ _ _ ?z1 ?z2 ?z3) ?k1 ?k2 ?k3 ?k4 ?kS ?k5 ?kF ?kK ?kd ?ku ?_; (case k1 => k_asm); (case k2 => k_asm); (case k3 => k_asm); (case k4 => k_asm); (case kS => exact fmn); (case k5 => k_asm); (case kF => rfl); (case kK => rfl); (case kd => walk_at "MY room"); (case ku => walk_at "MY room"); (case z1 => assumption); (case z2 => assumption); (case z3 => assumption); walk_at "MY post0"))
                                    (rename Fr _ _ _ _ => F9); (rename News _ _ _ _ => N9)
                                    refine comp_end _ F9 N9 (by (first | exact fun _ h => h | ((repeat' (with_reducible first | exact sub_nil | exact fun _ h => h | refine sub_keep ?_ | refine sub_drop ?_)); done) | ((repeat' (first | exact fmn | refine fmc (by k_mem) ?_ | (intro p hp; k_mem))); done))) off True.intro ⟨rfl, ?_⟩
                                    rw [rangeKs_succ, List.map_append]
                                    exact ints_snoc hy
                                  · rintro zs hy
                                    rw [show ((du.length : Int) - 0).toNat = du.length by omega, hq2] at hy
                                    unfold LCg.FinE
                                    intro D9 h9 tk9 F9 N9 o9
                                    have hND : (NCs L D9) := (by first | exact nc_here (off_all o9) | exact nc_here (nc_tl (L := L) (off_all o9)) | exact nc_here (nc_tl (L := L) (nc_tl (L := L) (off_all o9))) | exact nc_here (nc_tl (L := L) (nc_tl (L := L) (nc_tl (L := L) (off_all o9)))) | exact nc_here (nc_tl (L := L) (nc_tl (L := L) (nc_tl (L := L) (nc_tl (L := L) (off_all o9))))) | exact nc_here (nc_tl (L := L) (nc_tl (L := L) (nc_tl (L := L) (nc_tl (L := L) (nc_tl (L := L) (off_all o9)))))) | exact nc_here (nc_tl (L := L) (nc_tl (L := L) (nc_tl (L := L) (nc_tl (L := L) (nc_tl (L := L) (nc_tl (L := L) (off_all o9))))))) | exact nc_here (nc_tl (L := L) (nc_tl (L := L) (nc_tl (L := L) (nc_tl (L := L) (nc_tl (L := L) (nc_tl (L := L) (nc_tl (L := L) (off_all o9)))))))) | exact nc_here (nc_tl (L := L) (nc_tl (L := L) (nc_tl (L := L) (nc_tl (L := L) (nc_tl (L := L) (nc_tl (L := L) (nc_tl (L := L) (nc_tl (L := L) (off_all o9))))))))) | exact nc_here (nc_tl (L := L) (nc_tl (L := L) (nc_tl (L := L) (nc_tl (L := L) (nc_tl (L := L) (nc_tl (L := L) (nc_tl (L := L) (nc_tl (L := L) (nc_tl (L := L) (off_all o9)))))))))) | exact nc_here (nc_tl (L := L) (nc_tl (L := L) (nc_tl (L := L) (nc_tl (L := L) (nc_tl (L := L) (nc_tl (L := L) (nc_tl (L := L) (nc_tl (L := L) (nc_tl (L := L) (nc_tl (L := L) (off_all o9))))))))))) | exact nc_here (nc_tl (L := L) (nc_tl (L := L) (nc_tl (L := L) (nc_tl (L := L) (nc_tl (L := L) (nc_tl (L := L) (nc_tl (L := L) (nc_tl (L := L) (nc_tl (L := L) (nc_tl (L := L) (nc_tl (L := L) (off_all o9)))))))))))))
                                    clear o9
                                    (try walk_at "MY hid")
                                    try k_fold
                                    (repeat' ((fail_if_success (with_reducible show wpAny _ _ (call (Value.builtin "sorted") _) _ _ _)); (fail_if_success (with_reducible show wpAny _ _ (call (Value.ref _) _) _ _ _)); (fail_if_success (with_reducible show wpAny _ _ (call (Value.type _) _) _ _ _)); (fail_if_success (with_reducible show wpAny _ _ (compareOp _ _ _) _ _ _)); (fail_if_success (with_reducible show wpAny _ _ (eval (Expr.ListComp _ _ _ _) _) _ _ _)); (fail_if_success (with_reducible show wpAny _ _ (pyIter _) _ _ _)); first | walk_at "MY hid" | (k_unfold; (try dsimp only)) | (k_end; wrow_close) | walk1 | (dsimp only; walk1) | (leave1; walk_say "STEP leave1"; try dsimp only) | fail "no step"))
                                    have hevl := IntsAre.length P9
                                    ((k_here; k_dflt (refine LCg.ListComp_U (F₀ := by k_asm) (by with_unfolding_all rfl) (by decide) (by rfl) (by decide) (by rfl) ?_)))
                                    walk1
                                    walk_at "CompSrc"
                                    refine comp_invF (fun j ys => IntsAre ys ((du.take j).map fun d => if d.fdiv 2 + 1 < d then d.fdiv 2 + 1 else d)) .nil ?_ ?_
                                    · rintro j v ys I3 oI3 C3 oC3 D3 m3 h3 tk3 E3 hj hv3 hz hC3 hx3 F3 N3 off ne
                                      have hv4 := hv3
                                      rw [List.getElem?_toArray] at hv4
                                      obtain ⟨x3, t3, rfl, hx4⟩ := ints_at2 P9 j hv4
                                      clear hv4
                                      have hx5 := hdu x3 (List.mem_of_getElem? hx4)
                                      (try walk_at "MY hid")
                                      try k_fold
                                      (repeat' ((fail_if_success (with_reducible show wpAny _ _ (call (Value.builtin "sorted") _) _ _ _)); (fail_if_success (with_reducible show wpAny _ _ (call (Value.ref _) _) _ _ _)); (fail_if_success (with_reducible show wpAny _ _ (call (Value.type _) _) _ _ _)); (fail_if_success (with_reducible show wpAny _ _ (compareOp _ _ _) _ _ _)); (fail_if_success (with_reducible show wpAny _ _ (eval (Expr.ListComp _ _ _ _) _) _ _ _)); (fail_if_success (with_reducible show wpAny _ _ (pyIter _) _ _ _)); first | walk_at "MY hid" | (k_unfold; (try dsimp only)) | (k_end; wrow_close) | walk1 | (dsimp only; walk1) | (leave1; walk_say "STEP leave1"; try dsimp only) | fail "no step"))
                                      (rename Fr _ _ _ _ => F9); (rename News _ _ _ _ => N9)
                                      refine comp_end _ F9 N9 (by (first | exact fun _ h => h | ((repeat' (with_reducible first | exact sub_nil | exact fun _ h => h | refine sub_keep ?_ | refine sub_drop ?_)); done) | ((repeat' (first | exact fmn | refine fmc (by k_mem) ?_ | (intro p hp; k_mem))); done))) off (Or.inr ⟨_, by k_mem, rfl, _, rfl⟩) ⟨rfl, ?_⟩
                                      rw [take_map_snoc hx4]
                                      exact ints_snoc hz
                                    · rintro ys hz
                                      rw [List.take_of_length_le (by rw [List.size_toArray, IntsAre.length P9]; exact Nat.le_refl _)] at hz
                                      unfold LCg.FinE
                                      intro D8 h8 tk8 F8 N8 o8
                                      have hND8 : (NCs L D8) := (by first | exact nc_here (off_all o8) | exact nc_here (nc_tl (L := L) (off_all o8)) | exact nc_here (nc_tl (L := L) (nc_tl (L := L) (off_all o8))) | exact nc_here (nc_tl (L := L) (nc_tl (L := L) (nc_tl (L := L) (off_all o8)))) | exact nc_here (nc_tl (L := L) (nc_tl (L := L) (nc_tl (L := L) (nc_tl (L := L) (off_all o8))))) | exact nc_here (nc_tl (L := L) (nc_tl (L := L) (nc_tl (L := L) (nc_tl (L := L) (nc_tl (L := L) (off_all o8)))))) | exact nc_here (nc_tl (L := L) (nc_tl (L := L) (nc_tl (L := L) (nc_tl (L := L) (nc_tl (L := L) (nc_tl (L := L) (off_all o8))))))) | exact nc_here (nc_tl (L := L) (nc_tl (L := L) (nc_tl (L := L) (nc_tl (L := L) (nc_tl (L := L) (nc_tl (L := L) (nc_tl (L := L) (off_all o8)))))))) | exact nc_here (nc_tl (L := L) (nc_tl (L := L) (nc_tl (L := L) (nc_tl (L := L) (nc_tl (L := L) (nc_tl (L := L) (nc_tl (L := L) (nc_tl (L := L) (off_all o8))))))))) | exact nc_here (nc_tl (L := L) (nc_tl (L := L) (nc_tl (L := L) (nc_tl (L := L) (nc_tl (L := L) (nc_tl (L := L) (nc_tl (L := L) (nc_tl (L := L) (nc_tl (L := L) (off_all o8)))))))))) | exact nc_here (nc_tl (L := L) (nc_tl (L := L) (nc_tl (L := L) (nc_tl (L := L) (nc_tl (L := L) (nc_tl (L := L) (nc_tl (L := L) (nc_tl (L := L) (nc_tl (L := L) (nc_tl (L := L) (off_all o8))))))))))) | exact nc_here (nc_tl (L := L) (nc_tl (L := L) (nc_tl (L := L) (nc_tl (L := L) (nc_tl (L := L) (nc_tl (L := L) (nc_tl (L := L) (nc_tl (L := L) (nc_tl (L := L) (nc_tl (L := L) (nc_tl (L := L) (off_all o8)))))))))))))
                                      clear o8
                                      (try walk_at "MY hid")
                                      try k_fold
                                      (repeat' ((fail_if_success (with_reducible show wpAny _ _ (call (Value.builtin "sorted") _) _ _ _)); (fail_if_success (with_reducible show wpAny _ _ (call (Value.ref _) _) _ _ _)); (fail_if_success (with_reducible show wpAny _ _ (call (Value.type _) _) _ _ _)); (fail_if_success (with_reducible show wpAny _ _ (compareOp _ _ _) _ _ _)); (fail_if_success (with_reducible show wpAny _ _ (eval (Expr.ListComp _ _ _ _) _) _ _ _)); (fail_if_success (with_reducible show wpAny _ _ (pyIter _) _ _ _)); first | walk_at "MY hid" | (k_unfold; (try dsimp only)) | (k_end; wrow_close) | walk1 | (dsimp only; walk1) | (leave1; walk_say "STEP leave1"; try dsimp only) | fail "no step"))
                                      walk1
                                      (repeat walk_at "MY hid")
                                      (try k_unfold)
                                      (try dsimp only)
                                      first | exact ⟨True.intro, h8, tk8, _, rfl, F8⟩ | exact ⟨rfl, h8, tk8, _, rfl, F8⟩
  · rintro f s' ⟨rfl, h', tk', m', rfl, F'⟩
    try dsimp only
    kc_close
end WL
end Mine
end
theorem PySem.Challenge.cw_wn0041_01_holds : PySem.Challenge.rw_wn0041_01.Holds :=
  Mine.rx_eq ▸ Mine.WL.lawx


import PyProof.Rows.All
import Wide.All
import OpenK.AllK
import Wide.FinOn
import PySem.Challenge.RW_qw0054_01
open PySem PySem.W PyProof.Rows PySem.W.X
set_option Elab.async false
set_option maxRecDepth 100000
set_option maxHeartbeats 8000000
set_option linter.unusedVariables false
namespace Mine
-- the head: the top's run, by one kernel check of its whole run and with no twins (the pieces' twins make the compiled file 50 MB; the lid is 32 MiB);
-- k_head is turned to x_head, whose written part of the heap is the larger
section
local macro_rules | `(tactic| k_head) => `(tactic| x_head)
local macro_rules | `(tactic| o_law) => `(tactic| refine' holds_law (by decide +kernel) fun said => ?_)
local macro_rules | `(tactic| refine $e:term) => `(tactic| (refine' $e:term; (case hl => exact fun w => by kernel_rfl)))
open_top hd for PySem.Challenge.rw_qw0054_01
end

abbrev PRG : Program := PySem.Challenge.rw_qw0054_01.row.prog
abbrev LSE : List Str := [Str.ofString "_filemode_table"]

section
variable {A₀ A : Around} {s : Shared} {base h₀ : Heap} {outer : List Env} {L : Addr} {m : Str → Option Value} {env : Env} {arg : List (Addr × Obj)} {R : Result → Shared → Prop}
/-- the ground of a callee: all that stands is kept, but what is handed in -/
theorem ground (B : Below A₀ base outer h₀) (F : Fr h₀ L s.heap m) (N : News h₀ L s.heap arg) (hA : A.frames = some (env :: outer)) (hf : env.frame = some L) (hke : env.scope.kind = .function) :
    ∃ g : Heap, (∀ b o, s.heap.get? b = some o → (∀ p ∈ arg, p.1 ≠ b) → g.get? b = some o) ∧ (∀ b o, g.get? b = some o → s.heap.get? b = some o) ∧ g.objs.size = s.heap.objs.size ∧ (∀ p ∈ arg, g.get? p.1 = none) ∧
      Below A base (env :: outer) g ∧ h₀.StaysIn g ∧ ∀ v s', LeaveK h₀ L m g R v s' → R (.ok (.ret v)) s' := by
  obtain ⟨_, BG, st, lv⟩ := groundX (R := R) B F N hA hf hke
  refine ⟨hideAll s.heap (arg.map (·.1)), fun b o e hn => hideAll_get _ e fun q => ?_, fun b o e => of_hideAll _ e, hideAll_size _ _, fun p hp => hideAll_none _ (List.mem_map_of_mem hp), BG, st, lv⟩
  obtain ⟨p, hp, e'⟩ := List.mem_map.mp q
  exact hn p hp e'
end

section
variable {w : World} {A₀ A : Around} {s : Shared} {base h₀ : Heap} {outer : List Env} {L : Addr} {m : Str → Option Value} {env : Env} {arg : List (Addr × Obj)} {K : Frag} {mean : ExcName → Option Value} {mg mb : Str → Option Value}
  {R : Result → Shared → Prop} {name qual : Str} {params : Arguments} {body : List Stmt} {scope : Scope} {dV kV doc pm cdv ct oc : Value} {an od : Option Addr} {osl : Array (Option Value)} {f : Addr} {args : Args} {binds : List (Str × Value)} {p : Program} {loose : List Str} {prog : Program}
theorem enterP (B : Below A₀ base outer h₀) (F : Fr h₀ L s.heap m) (X₀ : K.In h₀) (N : News h₀ L s.heap arg) (T : Top p loose mean mg mb h₀) (hA : A.frames = some (env :: outer)) (hf : env.frame = some L) (hke : env.scope.kind = .function)
    (ho : K.lookup f = some ⟨oc, od, .func (fnOf name qual params body scope dV kV doc pm an cdv ct), osl⟩) (hcd : codeIn K cdv qual = true) (hroom : A.depth < recursionLimit)
    (hbind : BindsTo s (fnOf name qual params body scope dV kV doc pm an cdv ct) args binds) (hloc : ∀ y ∈ binds, scope.names.lookup y.1 = some .local) (bl : List (Str × Value)) (hbl : binds.reverse = bl)
    (h : ∀ g L' h₁ tk, (∀ b o, s.heap.get? b = some o → (∀ p ∈ arg, p.1 ≠ b) → g.get? b = some o) → Fr g L' h₁ (fun y => bl.lookup y) → News g L' h₁ arg → Below A base (env :: outer) g → K.In g → Top p loose mean mg mb g → (∀ p ∈ arg, p.1 < L') →
      wpAny (model prog w) (A.deeper (envOf qual scope L' f cdv)) (execs body (envOf qual scope L' f cdv))
        (fun fl s' => LeaveK h₀ L m g R (match fl with | .ret v => v | _ => .none) s')
        (fun e s' => wpAny (model prog w) (A.deeper (envOf qual scope L' f cdv)) (leaving (envOf qual scope L' f cdv) e) (fun _ s'' => R (.error e) s'') (fun e' s'' => R (.error e') s'') s')
        { s with heap := h₁, toks := tk })
    (hco : scope.isCoroutine = false) (hgen : scope.isGenerator = false) (hk : scope.kind = .function)
    (hcell : ∀ x ∈ scope.names, x.2 ≠ .cell) : codeAny (model prog w) A (.call (.ref f) args) R s := by
  subst hbl
  obtain ⟨g, g1, g2, g3, g4, BG, st, lv⟩ := ground (R := R) B F N hA hf hke
  refine codeAny_call_def (fd := fnOf name qual params body scope dV kV doc pm an cdv ct) (body := body) (binds := binds) hroom ((X₀.keeps F.keep) _ _ ho) rfl (T.nolimit.keeps F.keep) (codeRec_of (X₀.keeps F.keep) hcd) rfl hbind hcell hloc (fun h₁ hns hk₁ => ?_) hco hgen hk
  refine wpAny_mono (h g s.heap.objs.size h₁ _ g1 ⟨hns, fun b o e => hk₁ b o (g2 b o e), Nat.le_of_eq g3⟩ (fun p hp => ⟨hk₁ _ _ (N p hp).1, Nat.ne_of_lt (Heap.lt_size (N p hp).1), g4 p hp⟩) BG (X₀.keeps st) (T.keeps st) fun p hp => Heap.lt_size (N p hp).1) (fun fl s' hl => lv _ _ hl) fun _ _ y => y
theorem enterC (B : Below A₀ base outer h₀) (F : Fr h₀ L s.heap m) (X₀ : K.In h₀) (N : News h₀ L s.heap arg) (T : Top p loose mean mg mb h₀) (hA : A.frames = some (env :: outer)) (hf : env.frame = some L) (hke : env.scope.kind = .function)
    (ho : K.lookup f = some ⟨oc, od, .func (fnOf name qual params body scope dV kV doc pm an cdv ct), osl⟩) (hcd : codeIn K cdv qual = true) (hroom : A.depth < recursionLimit)
    (hbind : BindsTo s (fnOf name qual params body scope dV kV doc pm an cdv ct) args binds) (hkind : (binds.all fun y => scope.names.lookup y.1 == some .local || scope.names.lookup y.1 == some .cell) = true)
    (hnd : ((cellsFrom 0 scope.names []).map (·.1)).Nodup)
    (h : ∀ g L' h₁ tk cells, (∀ b o, s.heap.get? b = some o → (∀ p ∈ arg, p.1 ≠ b) → g.get? b = some o) → Fr g L' h₁ (bindL (envOfC qual scope L' f cdv).kindOf binds fun _ => none) → News g L' h₁ (cells ++ arg) →
      CellsAre (bindC (envOfC qual scope L' f cdv).kindOf binds fun _ => none) (cellsFrom (L' + 1) scope.names []) cells → Below A base (env :: outer) g → K.In g → Top p loose mean mg mb g → (∀ p ∈ arg, p.1 < L') →
      wpAny (model prog w) (A.deeper (envOfC qual scope L' f cdv)) (execs body (envOfC qual scope L' f cdv))
        (fun fl s' => LeaveK h₀ L m g R (match fl with | .ret v => v | _ => .none) s')
        (fun e s' => wpAny (model prog w) (A.deeper (envOfC qual scope L' f cdv)) (leaving (envOfC qual scope L' f cdv) e) (fun _ s'' => R (.error e) s'') (fun e' s'' => R (.error e') s'') s')
        { s with heap := h₁, toks := tk })
    (hco : scope.isCoroutine = false) (hgen : scope.isGenerator = false) (hk : scope.kind = .function) : codeAny (model prog w) A (.call (.ref f) args) R s := by
  obtain ⟨g, g1, g2, g3, g4, BG, st, lv⟩ := ground (R := R) B F N hA hf hke
  refine codeAny_call_function (fd := fnOf name qual params body scope dV kV doc pm an cdv ct) hroom ((X₀.keeps F.keep) _ _ ho) rfl hco hgen rfl (codeRec_of (X₀.keeps F.keep) hcd) (hbind _ _ _ _ ?_)
  refine wpAny_newFunctionEnv_cells hk (kindsX hkind _) fun env' he s' x => ?_
  subst he
  refine ⟨(T.nolimit.keeps F.keep).keeps x.toInCall.keep, codeAny_func ?_⟩
  obtain ⟨h₁, tk, rfl, _⟩ := x.done
  have k₁ := x.toInCall.keep
  obtain ⟨cells, NC, Y⟩ := Cl.news (h₀ := s.heap) (Nat.le_refl _) fun n c hm => ⟨x.cell n c (lookup_of_mem_nodup (cellsFrom_names scope.names 0 (s.heap.objs.size + 1) [] [] rfl ▸ hnd) hm), x.above n c hm⟩
  refine wpAny_mono (h g s.heap.objs.size h₁ tk cells g1 ⟨x.toInCall.ns, fun b o e => k₁ b o (g2 b o e), Nat.le_of_eq g3⟩ (fun p hp => ?_) Y BG (X₀.keeps st) (T.keeps st) fun p hp => Heap.lt_size (N p hp).1) (fun fl s' hl => lv _ _ hl) fun _ _ y => y
  rcases List.mem_append.mp hp with hp | hp
  · refine ⟨(NC p hp).1, (NC p hp).2.1, ?_⟩
    cases q : g.get? p.1 with
    | none => rfl
    | some o => have := g2 _ _ q; rw [(NC p hp).2.2] at this; cases this
  · exact ⟨k₁ _ _ (N p hp).1, Nat.ne_of_lt (Heap.lt_size (N p hp).1), g4 p hp⟩
end

/-- a contract of the def at f upon vs, what is handed in being arg: all that stood stays, the result r and what was made for it (tl) meet Res -/
def Spec (d : Nat) (w : World) (f : Addr) (vs : List Value) (arg : List (Addr × Obj)) (Res : Value → List (Addr × Obj) → Prop) : Prop :=
  ∀ (mean : ExcName → Option Value) (mg mb : Str → Option Value) (dp un : Nat) (gd : Option (List Code)) (cn : Str) (cs : Scope) (a : Addr) (ccd : Value) (cl : List (Str × Addr)) (outer : List Env) (A₀ : Around) (base h₀ : Heap) (L : Addr) (m : Str → Option Value) (s : Shared) (Q E : Value → Shared → Prop),
    Below A₀ base outer h₀ → Fr h₀ L s.heap m → (hd.heap_1 w.params).In h₀ → News h₀ L s.heap arg → Top hd.view_1 [Str.ofString "_filemode_table"] mean mg mb h₀ → cs.kind = .function → dp + d < recursionLimit → un + 8 * d < cLine →
    (∀ (r : Value) (tl : List (Addr × Obj)) (h' : Heap) (tk' : Nat), (∀ b o, s.heap.get? b = some o → h'.get? b = some o) → (∀ p ∈ tl, h'.get? p.1 = some p.2 ∧ s.heap.get? p.1 = none) → Res r tl → Q r { s with heap := h', toks := tk' }) →
    wpAny (model PySem.Challenge.rw_qw0054_01.row.prog w) (ktrTop dp un gd cn cs L a ccd cl outer) (call (.ref f) vs) Q E s

theorem frKeep {h₀ h h' : Heap} {L : Addr} {m : Str → Option Value} (F : Fr h₀ L h m) (k : ∀ b o, h.get? b = some o → h'.get? b = some o) : Fr h₀ L h' m :=
  ⟨F.ns.keeps k, fun b o e => k b o (F.keep b o e), F.above⟩
theorem newsKeep {h₀ h h' : Heap} {L : Addr} {m : Str → Option Value} {news tl : List (Addr × Obj)} (F : Fr h₀ L h m) (N : News h₀ L h news) (k : ∀ b o, h.get? b = some o → h'.get? b = some o) (ht : ∀ p ∈ tl, h'.get? p.1 = some p.2 ∧ h.get? p.1 = none) :
    News h₀ L h' (tl ++ news) := by
  intro p hp
  rcases List.mem_append.mp hp with hp | hp
  · obtain ⟨a, b⟩ := ht p hp
    refine ⟨a, fun e => ?_, ?_⟩
    · obtain ⟨oL, _, _, hL, _⟩ := F.ns
      rw [e, hL] at b; cases b
    · cases q : h₀.get? p.1 with
      | none => rfl
      | some o => rw [F.keep _ _ q] at b; cases b
  · exact ⟨k _ _ (N p hp).1, (N p hp).2⟩
theorem newsApart {h₀ h : Heap} {L : Addr} {news tl : List (Addr × Obj)} (N : News h₀ L h news) {h' : Heap} (ht : ∀ p ∈ tl, h'.get? p.1 = some p.2 ∧ h.get? p.1 = none) : ∀ q ∈ news, ∀ p ∈ tl, q.1 ≠ p.1 := by
  intro q hq p hp e
  have a := (N q hq).1
  rw [e, (ht p hp).2] at a; cases a

theorem Spec.use {d : Nat} {w : World} {f : Addr} {vs : List Value} {arg news : List (Addr × Obj)} {Res : Value → List (Addr × Obj) → Prop} (C : Spec d w f vs arg Res)
    {mean : ExcName → Option Value} {mg mb : Str → Option Value} {dp un : Nat} {gd : Option (List Code)} {cn : Str} {cs : Scope} {a : Addr} {ccd : Value} {cl : List (Str × Addr)} {outer : List Env} {A₀ : Around} {base h₀ : Heap} {L : Addr} {m : Str → Option Value} {s : Shared} {Q E : Value → Shared → Prop}
    (B : Below A₀ base outer h₀) (F : Fr h₀ L s.heap m) (X : (hd.heap_1 w.params).In h₀) (N : News h₀ L s.heap news) (T : Top hd.view_1 [Str.ofString "_filemode_table"] mean mg mb h₀) (hk : cs.kind = .function) (hd : dp + d < recursionLimit) (hu : un + 8 * d < cLine) (ha : ∀ p ∈ arg, p ∈ news)
    (ret : ∀ (r : Value) (tl : List (Addr × Obj)) (h' : Heap) (tk' : Nat), Fr h₀ L h' m → News h₀ L h' (tl ++ news) → (∀ q ∈ news, ∀ p ∈ tl, q.1 ≠ p.1) → Res r tl → Q r { s with heap := h', toks := tk' }) :
    wpAny (model PySem.Challenge.rw_qw0054_01.row.prog w) (ktrTop dp un gd cn cs L a ccd cl outer) (call (.ref f) vs) Q E s :=
  C _ _ _ _ _ _ _ _ _ _ _ _ _ _ _ _ _ _ _ _ B F X (fun p hp => N p (ha p hp)) T hk hd hu fun r tl h' tk' k ht hr => ret r tl h' tk' (frKeep F k) (newsKeep F N k ht) (newsApart N ht) hr

section
variable {g h' : Heap} {s : Shared} {L' : Addr} {m' : Str → Option Value} {arg led : List (Addr × Obj)}
/-- behind the callee all that stood stands: the ground's by the frame, what was handed in by the ledger -/
theorem keepZ (hg : ∀ b o, s.heap.get? b = some o → (∀ p ∈ arg, p.1 ≠ b) → g.get? b = some o) {h₀ : Heap} {L : Addr} (NA : News h₀ L s.heap arg) (F : Fr g L' h' m') (N : News g L' h' led) (ha : ∀ p ∈ arg, p ∈ led) : ∀ b o, s.heap.get? b = some o → h'.get? b = some o := by
  intro b o e
  by_cases q : ∀ p ∈ arg, p.1 ≠ b
  · exact F.keep b o (hg b o e q)
  · simp only [Classical.not_forall, Classical.not_not] at q
    obtain ⟨p, hp, rfl⟩ := q
    have : p.2 = o := by have := (NA p hp).1; rw [e] at this; exact (Option.some.inj this).symm
    rw [← this]
    exact (N p (ha p hp)).1
theorem freshZ (hg : ∀ b o, s.heap.get? b = some o → (∀ p ∈ arg, p.1 ≠ b) → g.get? b = some o) (N : News g L' h' led) {D : Addr} {o : Obj} (hD : (D, o) ∈ led) (hne : ∀ p ∈ arg, p.1 ≠ D) : h'.get? D = some o ∧ s.heap.get? D = none := by
  refine ⟨(N _ hD).1, ?_⟩
  cases q : s.heap.get? D with
  | none => rfl
  | some o' => have := hg D o' q hne; have n := (N _ hD).2.2; rw [this] at n; cases n
end

/-- a text, an int, a bool comes back and nothing is made for it -/
abbrev SpecS (d : Nat) (w : World) (f : Addr) (vs : List Value) (arg : List (Addr × Obj)) (x : Str) (k : Nat) : Prop := Spec d w f vs arg (fun r tl => tl = [] ∧ (∃ t, r = .str x t) ∧ x.length ≤ k)
abbrev SpecI (d : Nat) (w : World) (f : Addr) (vs : List Value) (arg : List (Addr × Obj)) (x : Int) : Prop := Spec d w f vs arg (fun r tl => tl = [] ∧ ∃ t, r = .int x t)
abbrev SpecB (d : Nat) (w : World) (f : Addr) (vs : List Value) (arg : List (Addr × Obj)) (b : Bool) : Prop := Spec d w f vs arg (fun r tl => tl = [] ∧ r = .bool b)
section
variable {h' : Heap} {s : Shared} {Q : Value → Shared → Prop} {t : Tok} {tk : Nat} {Res : Value → List (Addr × Obj) → Prop}
theorem retV {v : Value} (hret : ∀ (r : Value) (tl : List (Addr × Obj)) (h' : Heap) (tk' : Nat), (∀ b o, s.heap.get? b = some o → h'.get? b = some o) → (∀ p ∈ tl, h'.get? p.1 = some p.2 ∧ s.heap.get? p.1 = none) → Res r tl → Q r { s with heap := h', toks := tk' })
    (k : ∀ b o, s.heap.get? b = some o → h'.get? b = some o) (hr : Res v []) : Q v { s with heap := h', toks := tk } := hret _ [] _ _ k (fun _ h => nomatch h) hr
theorem ret1 {D : Addr} {o : Obj} (hret : ∀ (r : Value) (tl : List (Addr × Obj)) (h' : Heap) (tk' : Nat), (∀ b o, s.heap.get? b = some o → h'.get? b = some o) → (∀ p ∈ tl, h'.get? p.1 = some p.2 ∧ s.heap.get? p.1 = none) → Res r tl → Q r { s with heap := h', toks := tk' })
    (k : ∀ b o, s.heap.get? b = some o → h'.get? b = some o) (hD : h'.get? D = some o ∧ s.heap.get? D = none) (hr : Res (.ref D) [(D, o)]) : Q (.ref D) { s with heap := h', toks := tk } :=
  hret _ [(D, o)] _ _ k (fun p h => by rw [List.mem_singleton.mp h]; exact hD) hr
end
section
variable {M : Model} {A : Around} {E : Value → Shared → Prop} {s : Shared} {K : Frag} {h₀ : Heap} {env : Env} {pos : Pos} {f : Value} {Q : Value → Shared → Prop}
/-- a call of one, two, three plain arguments in one step -/
theorem callA1 {e1 : PySem.Expr} (X : K.In h₀) (hk : keepIn K f = true) (h : wpAny M A (eval e1 env) (fun v s₁ => K.In s₁.heap ∧ wpAny M A (call f [v]) Q E s₁) E s) (h1 : starEach [e1] env = (false, eval e1 env) :: starEach [] env := by rfl) (hp : (backTo pos (starEach [] env)).any (·.1) = false := by rfl) :
    wpAny M A (callWith pos f [] (backTo pos (starEach [e1] env)) []) Q E s :=
  callWith_K X hk (args_cons (wpAny_mono h (fun v s₁ h => args_nil h) fun _ _ e => e) h1) h1 hp
theorem callA2 {e1 e2 : PySem.Expr} (X : K.In h₀) (hk : keepIn K f = true) (h : wpAny M A (eval e1 env) (fun v s₁ => wpAny M A (eval e2 env) (fun u s₂ => K.In s₂.heap ∧ wpAny M A (call f [v, u]) Q E s₂) E s₁) E s) (h1 : starEach [e1, e2] env = (false, eval e1 env) :: starEach [e2] env := by rfl) (h2 : starEach [e2] env = (false, eval e2 env) :: starEach [] env := by rfl) (hp : (backTo pos (starEach [e2] env)).any (·.1) = false := by rfl) :
    wpAny M A (callWith pos f [] (backTo pos (starEach [e1, e2] env)) []) Q E s :=
  callWith_K X hk (args_cons (wpAny_mono h (fun v s₁ h => args_cons (wpAny_mono h (fun u s₂ h => args_nil h) fun _ _ e => e) h2) fun _ _ e => e) h1) h1 hp
end
section
variable {M : Model} {A : Around} {E : Value → Shared → Prop} {s : Shared} {env : Env} {pos : Pos} {id : String} {o : Value} {Q : Value → Shared → Prop} {e1 e2 : PySem.Expr}
/-- a call of a built-in function or method with one, two plain arguments in one step -/
theorem callM1 (h : wpAny M A (eval e1 env) (fun v s₁ => wpAny M A (call (.builtin id) [o, v]) Q E s₁) E s) (h1 : starEach [e1] env = (false, eval e1 env) :: starEach [] env := by rfl) (hp : (backTo pos (starEach [] env)).any (·.1) = false := by rfl) : wpAny M A (callWith pos (.builtin id) [o] (backTo pos (starEach [e1] env)) []) Q E s :=
  callWith_method1 (args_cons (wpAny_mono h (fun v s₁ h => args_nil h) fun _ _ e => e) h1) h1 hp
theorem callM2 (h : wpAny M A (eval e1 env) (fun v s₁ => wpAny M A (eval e2 env) (fun u s₂ => wpAny M A (call (.builtin id) [o, v, u]) Q E s₂) E s₁) E s) (h1 : starEach [e1, e2] env = (false, eval e1 env) :: starEach [e2] env := by rfl) (h2 : starEach [e2] env = (false, eval e2 env) :: starEach [] env := by rfl) (hp : (backTo pos (starEach [e2] env)).any (·.1) = false := by rfl) :
    wpAny M A (callWith pos (.builtin id) [o] (backTo pos (starEach [e1, e2] env)) []) Q E s :=
  callWith_method1 (args_cons (wpAny_mono h (fun v s₁ h => args_cons (wpAny_mono h (fun u s₂ h => args_nil h) fun _ _ e => e) h2) fun _ _ e => e) h1) h1 hp
theorem callB1 (h : wpAny M A (eval e1 env) (fun v s₁ => wpAny M A (call (.builtin id) [v]) Q E s₁) E s) (h1 : starEach [e1] env = (false, eval e1 env) :: starEach [] env := by rfl) (hp : (backTo pos (starEach [] env)).any (·.1) = false := by rfl) : wpAny M A (callWith pos (.builtin id) [] (backTo pos (starEach [e1] env)) []) Q E s :=
  callWith_method1 (args_cons (wpAny_mono h (fun v s₁ h => args_nil h) fun _ _ e => e) h1) h1 hp
theorem callB2 (h : wpAny M A (eval e1 env) (fun v s₁ => wpAny M A (eval e2 env) (fun u s₂ => wpAny M A (call (.builtin id) [v, u]) Q E s₂) E s₁) E s) (h1 : starEach [e1, e2] env = (false, eval e1 env) :: starEach [e2] env := by rfl) (h2 : starEach [e2] env = (false, eval e2 env) :: starEach [] env := by rfl) (hp : (backTo pos (starEach [e2] env)).any (·.1) = false := by rfl) :
    wpAny M A (callWith pos (.builtin id) [] (backTo pos (starEach [e1, e2] env)) []) Q E s :=
  callWith_method1 (args_cons (wpAny_mono h (fun v s₁ h => args_cons (wpAny_mono h (fun u s₂ h => args_nil h) fun _ _ e => e) h2) fun _ _ e => e) h1) h1 hp
end
theorem room1 {d n k R : Nat} (h : d + n < R) (hk : Nat.ble (1 + k) n = true) : d + 1 + k < R := Nat.lt_of_le_of_lt (by rw [Nat.add_assoc]; exact Nat.add_le_add_left (Nat.le_of_ble_eq_true hk) d) h
theorem units1 {u n k R : Nat} (h : u + 8 * n < R) (hk : Nat.ble (3 + 8 * k) (8 * n) = true) : u + 3 + 8 * k < R := Nat.lt_of_le_of_lt (by rw [Nat.add_assoc]; exact Nat.add_le_add_left (Nat.le_of_ble_eq_true hk) u) h
section
variable {prog : Program} {w : World} {A : Around} {E : Value → Shared → Prop} {s : Shared} {env : Env} {st : Stmt} {rest : List Stmt} {Q : Flow → Shared → Prop}
/-- what stands behind a statement of a block -/
def SeqK (prog : Program) (w : World) (A : Around) (env : Env) (rest : List Stmt) (Q : Flow → Shared → Prop) (E : Value → Shared → Prop) : Flow → Shared → Prop :=
  fun f s => match f with | .next => wpAny (model prog w) A (execs rest env) Q E s | f => Q f s
theorem seqA (h : wpAny (model prog w) A (exec st env) (SeqK prog w A env rest Q E) E s) : wpAny (model prog w) A (execs (st :: rest) env) Q E s := wpAny_execs_cons h
theorem seqN (h : wpAny (model prog w) A (execs (st :: rest) env) Q E s) : SeqK prog w A env (st :: rest) Q E .next s := h
theorem seqE (h : Q .next s) : SeqK prog w A env [] Q E .next s := wpAny_execs_nil (M := model prog w) (A := A) (E := E) h
theorem seqR {v : Value} (h : Q (.ret v) s) : SeqK prog w A env rest Q E (.ret v) s := h
theorem seqB (h : Q .brk s) : SeqK prog w A env rest Q E .brk s := h
theorem seqC (h : Q .cont s) : SeqK prog w A env rest Q E .cont s := h
end

local macro_rules | `(tactic| walk_at $s:str) => `(tactic| k_extra $s)
local macro_rules | `(tactic| size_fits) => `(tactic| first | with_unfolding_all exact Nat.le_of_ble_eq_true rfl | (rw [sizeLine_eq]; omega))
/-- two figures, four figures -/
def two (n : Int) : Str := ⟨#[48 + (n / 10).toNat, 48 + (n % 10).toNat]⟩
def four (n : Int) : Str := ⟨#[48 + (n / 1000).toNat, 48 + (n / 100 % 10).toNat, 48 + (n / 10 % 10).toNat, 48 + (n % 10).toNat]⟩
def padZ (k : Nat) (d : List Nat) : List Nat := List.replicate (k - d.length) 48 ++ d
theorem two_len (n : Int) : (two n).length = 2 := rfl
theorem four_len (n : Int) : (four n).length = 4 := rfl
theorem pad_two_nat : ∀ k < 100, (⟨(padZ 2 (Str.ofString (toString ((k : Nat) : Int))).cps.toList).toArray⟩ : Str) = two k := by decide +kernel
theorem zfill_two_nat : ∀ k < 100, Txt.zfill (Str.ofString (toString ((k : Nat) : Int))) 2 = two k := by decide +kernel
theorem pad_two {n : Int} (h0 : 0 ≤ n) (h1 : n < 100) : (⟨(padZ 2 (Str.ofString (toString n)).cps.toList).toArray⟩ : Str) = two n := by
  obtain ⟨k, rfl⟩ := Int.eq_ofNat_of_zero_le h0
  exact pad_two_nat k (by omega)
theorem zfill_two {n : Int} (h0 : 0 ≤ n) (h1 : n < 100) : Txt.zfill (Str.ofString (toString n)) 2 = two n := by
  obtain ⟨k, rfl⟩ := Int.eq_ofNat_of_zero_le h0
  exact zfill_two_nat k (by omega)
theorem pad_four {y : Int} (h : y = 7 ∨ y = 97 ∨ y = 1997) : (⟨(padZ 4 (Str.ofString (toString y)).cps.toList).toArray⟩ : Str) = four y := by
  rcases h with rfl | rfl | rfl <;> decide +kernel
theorem zfill_four {y : Int} (h : y = 7 ∨ y = 97 ∨ y = 1997) : Txt.zfill (Str.ofString (toString y)) 4 = four y := by
  rcases h with rfl | rfl | rfl <;> decide +kernel
section
variable {prog : Program} {w : World} {A : Around} {s : Shared} {E Q : Value → Shared → Prop} {x y : Str} {t u : Tok} {k1 k2 : Nat}
theorem add_strL (hx : x.length ≤ k1) (hy : y.length ≤ k2) (hk : k1 + k2 ≤ 100000) (h : ∀ t' tk, (x ++ y).length ≤ k1 + k2 → Q (.str (x ++ y) t') { s with toks := tk }) : wpAny (model prog w) A (binaryOp .Add (.str x t) (.str y u)) Q E s :=
  add_str (fun t' tk => h t' tk (by rw [Str.length_append]; omega)) (by rw [sizeLine_eq]; omega)
theorem iadd_strL (hx : x.length ≤ k1) (hy : y.length ≤ k2) (hk : k1 + k2 ≤ 100000) (h : ∀ t' tk, (x ++ y).length ≤ k1 + k2 → Q (.str (x ++ y) t') { s with toks := tk }) : wpAny (model prog w) A (inplaceOp .Add (.str x t) (.str y u)) Q E s :=
  iadd_str (fun t' tk => h t' tk (by rw [Str.length_append]; omega)) (by rw [sizeLine_eq]; omega)
end
section
variable {prog : Program} {w : World} {A : Around} {s : Shared} {E Q : Value → Shared → Prop} {x y x' y' : Str} {t u : Tok} {k1 k2 : Nat}
theorem add_strE (ex : x = x') (ey : y = y') (hx : x'.length ≤ k1) (hy : y'.length ≤ k2) (hk : k1 + k2 ≤ 100000) (h : ∀ t' tk, (x' ++ y').length ≤ k1 + k2 → Q (.str (x' ++ y') t') { s with toks := tk }) : wpAny (model prog w) A (binaryOp .Add (.str x t) (.str y u)) Q E s := by
  subst ex ey
  exact add_strL hx hy hk h
theorem iadd_strE (ex : x = x') (ey : y = y') (hx : x'.length ≤ k1) (hy : y'.length ≤ k2) (hk : k1 + k2 ≤ 100000) (h : ∀ t' tk, (x' ++ y').length ≤ k1 + k2 → Q (.str (x' ++ y') t') { s with toks := tk }) : wpAny (model prog w) A (inplaceOp .Add (.str x t) (.str y u)) Q E s := by
  subst ex ey
  exact iadd_strL hx hy hk h
end
theorem lit_len {x : String} (h : (Str.ofString x).length ≤ 40 := by decide +kernel) : (Str.ofString x).length ≤ 40 := h
/-- the names of days and months -/
def wdN (wd : Int) : Str := [Str.ofString "Mon", Str.ofString "Tue", Str.ofString "Wed", Str.ofString "Thu", Str.ofString "Fri", Str.ofString "Sat", Str.ofString "Sun"].getD wd.toNat Str.empty
def moN (mo : Int) : Str := [Str.ofString "Jan", Str.ofString "Feb", Str.ofString "Mar", Str.ofString "Apr", Str.ofString "May", Str.ofString "Jun", Str.ofString "Jul", Str.ofString "Aug", Str.ofString "Sep", Str.ofString "Oct", Str.ofString "Nov", Str.ofString "Dec"].getD (mo - 1).toNat Str.empty
theorem slice_wd_nat : ∀ k < 7, Txt.slice (Str.ofString "MonTueWedThuFriSatSun") (some (3 * (k : Nat))) (some (3 * (k : Nat) + 3)) = wdN k ∧ (wdN k).length = 3 := by decide +kernel
theorem slice_mo_nat : ∀ k < 12, Txt.slice (Str.ofString "JanFebMarAprMayJunJulAugSepOctNovDec") (some (3 * ((k : Nat) + 1 : Int) - 3)) (some (3 * ((k : Nat) + 1 : Int))) = moN ((k : Nat) + 1 : Int) ∧ (moN ((k : Nat) + 1 : Int)).length = 3 := by decide +kernel
theorem slice_wd {wd : Int} (h : 0 ≤ wd ∧ wd < 7) : Txt.slice (Str.ofString "MonTueWedThuFriSatSun") (some (3 * wd)) (some (3 * wd + 3)) = wdN wd := by
  obtain ⟨k, rfl⟩ := Int.eq_ofNat_of_zero_le h.1
  exact (slice_wd_nat k (by omega)).1
theorem wdN_len {wd : Int} (h : 0 ≤ wd ∧ wd < 7) : (wdN wd).length = 3 := by
  obtain ⟨k, rfl⟩ := Int.eq_ofNat_of_zero_le h.1
  exact (slice_wd_nat k (by omega)).2
theorem slice_mo {mo : Int} (h : 1 ≤ mo ∧ mo ≤ 12) : Txt.slice (Str.ofString "JanFebMarAprMayJunJulAugSepOctNovDec") (some (3 * mo - 3)) (some (3 * mo)) = moN mo := by
  obtain ⟨k, e⟩ := Int.eq_ofNat_of_zero_le (show 0 ≤ mo - 1 by omega)
  obtain rfl : mo = (k : Int) + 1 := by omega
  exact (slice_mo_nat k (by omega)).1
theorem moN_len {mo : Int} (h : 1 ≤ mo ∧ mo ≤ 12) : (moN mo).length = 3 := by
  obtain ⟨k, e⟩ := Int.eq_ofNat_of_zero_le (show 0 ≤ mo - 1 by omega)
  obtain rfl : mo = (k : Int) + 1 := by omega
  exact (slice_mo_nat k (by omega)).2

theorem two_spec {w : World} (n : Int) (t : Tok) (h : 0 ≤ n ∧ n < 100) : SpecS 1 w 221 [.int n t] [] (two n) 2 := by
  k_with_none
  w_top off
  k_with "my open" => (((try unfold SpecS); (try unfold SpecI); (try unfold SpecB); (try unfold SpecT); unfold Spec; k_fill; intros; refine wpAny_call ?_))
  k_with "my enterP" => ((walk_at "my open"; k_dflt (refine' enterP ?k1_r2 ?k2_r2 ?k3_r2 ?k4_r2 ?k5_r2 ?kA_r2 ?kF_r2 ?kK_r2 ?k6_r2 ?k7_r2 ?k8_r2 ?k9_r2 ?kB_r2 _ ?kL_r2 ?_ ?c2_r2 ?c3_r2 ?c4_r2 ?c5_r2; (case kA_r2 => exact rfl); (case kF_r2 => exact rfl); (case kK_r2 => assumption); (case k1_r2 => k_asm); (case k2_r2 => k_asm); (case k3_r2 => k_asm); (case k4_r2 => k_asm); (case k5_r2 => k_asm); (case k6_r2 => k_is); (case k7_r2 => k_is); (case k8_r2 => ktr_room); (case k9_r2 => exact BindsTo.of_eq rfl); (case c5_r2 => decide); (case kB_r2 => exact locs rfl); (case kL_r2 => exact rfl); (case c2_r2 => exact rfl); (case c3_r2 => exact rfl); (case c4_r2 => exact rfl); k_whole; intro g'm L'm h'm tk'm HG'm F'm N'm B'm X'm T'm l1m; (try k_lt l1m); (try dsimp only); (try k_lift B'm); (try k_unmd); (try k_fold); (try refine (let A9 := _; (?_ : PySem.wpAny _ A9 _ _ _ _))); (try refine (let e9 := _; (?_ : PySem.wpAny _ _ (PySem.execs _ e9) _ _ _))))))
  k_with "my sub" => (first | exact List.forall_mem_nil _ | (refine' List.forall_mem_cons.mpr ⟨?a_r4, ?b_r4⟩; (case a_r4 => k_mem); (case b_r4 => walk_at "my sub")))
  k_with "my keep" => (exact keepZ (by assumption) (by assumption) (by assumption) (by assumption) (by walk_at "my sub"))
  k_with "my retS" => ((refine' retV (by assumption) ?r1_r8 ?r2_r8; (case r1_r8 => walk_at "my keep"); refine ⟨rfl, ⟨_, rfl⟩, ?_⟩))
  k_with "my len" => (first | with_reducible assumption | with_reducible exact Nat.le_of_eq (two_len _) | with_reducible exact Nat.le_of_eq (four_len _) | with_reducible exact Nat.le_of_eq (wdN_len (by assumption)) | with_reducible exact Nat.le_of_eq (moN_len (by assumption)) | with_reducible exact lit_len)
  k_with "my text" => (first | with_reducible exact slice_wd (by assumption) | with_reducible exact slice_mo (by assumption) | with_reducible exact zfill_four (by assumption) | with_reducible exact rfl)
  k_with "binaryOp Add str str" => ((k_here; (refine' add_strE ?e1_r15 ?e2_r15 ?a1_r15 ?a2_r15 ?a3_r15 ?_; (case e1_r15 => walk_at "my text"); (case e2_r15 => walk_at "my text"); (case a1_r15 => walk_at "my len"); (case a2_r15 => walk_at "my len"); (case a3_r15 => omega); intro t'm tk'm ln'm)))
  k_with "inplaceOp Add str str" => ((k_here; (refine' iadd_strE ?e1_r16 ?e2_r16 ?a1_r16 ?a2_r16 ?a3_r16 ?_; (case e1_r16 => walk_at "my text"); (case e2_r16 => walk_at "my text"); (case a1_r16 => walk_at "my len"); (case a2_r16 => walk_at "my len"); (case a3_r16 => omega); intro t'm tk'm ln'm)))
  k_with "execs cons" => ((k_here; (try ((fail_if_success (fail_if_success k_fold)); (refine (let q8 := _; (?_ : PySem.wpAny _ _ _ q8 _ _))))); (with_reducible refine seqA ?_); (refine (let q8 := _; (?_ : PySem.wpAny _ _ _ q8 _ _))); (try ((with_reducible rename Fr _ _ _ (fun _ => _) => lF8); (refine (let lm8 := _; (fun (F' : Fr _ _ _ lm8) => ?_) lF8)); clear lF8))))
  k_with "execs cons" => ((k_here; k_gentoks))
  k_with "execs cons" => ((k_here; k_made; walk_at "execs cons"))
  k_with "eval Call" => ((k_here; (fail_if_success (fail_if_success k_fold)); (refine (let q8 := _; (?_ : PySem.wpAny _ _ _ q8 _ _)))))
  k_with "eval BinOp" => ((k_here; (fail_if_success (fail_if_success k_fold)); (refine (let q8 := _; (?_ : PySem.wpAny _ _ _ q8 _ _)))))
  k_with "eval Subscript" => ((k_here; (fail_if_success (fail_if_success k_fold)); (refine (let q8 := _; (?_ : PySem.wpAny _ _ _ q8 _ _)))))
  k_with "eval Tuple" => ((k_here; (fail_if_success (fail_if_success k_fold)); (refine (let q8 := _; (?_ : PySem.wpAny _ _ _ q8 _ _)))))
  k_with "eval List" => ((k_here; (fail_if_success (fail_if_success k_fold)); (refine (let q8 := _; (?_ : PySem.wpAny _ _ _ q8 _ _)))))
  k_with "eval Compare" => ((k_here; (fail_if_success (fail_if_success k_fold)); (refine (let q8 := _; (?_ : PySem.wpAny _ _ _ q8 _ _)))))
  k_with "call ref" => ((k_here; (fail_if_success (fail_if_success k_fold)); (refine (let q8 := _; (?_ : PySem.wpAny _ _ _ q8 _ _)))))
  k_with "callWith ref" => ((k_here; k_dflt (refine' callA1 ?k1_r37 ?k2_r37 ?_; (case k1_r37 => k_asm); (case k2_r37 => k_is); k_whole)))
  k_with "callWith ref" => ((k_here; k_dflt (refine' callA2 ?k1_r38 ?k2_r38 ?_; (case k1_r38 => k_asm); (case k2_r38 => k_is); k_whole)))
  k_with "isTrue BoolOp" => ((k_here; (fail_if_success (fail_if_success k_fold)); (refine (let q8 := _; (?_ : PySem.wpAny _ _ _ q8 _ _)))))
  k_with "isTrue Compare" => ((k_here; (fail_if_success (fail_if_success k_fold)); (refine (let q8 := _; (?_ : PySem.wpAny _ _ _ q8 _ _)))))
  k_with "isTrue UnaryOp" => ((k_here; (fail_if_success (fail_if_success k_fold)); (refine (let q8 := _; (?_ : PySem.wpAny _ _ _ q8 _ _)))))
  k_with "assign Name" => ((k_here; (fail_if_success (fail_if_success k_fold)); (refine (let q8 := _; (?_ : PySem.wpAny _ _ _ q8 _ _)))))
  k_with "assign Tuple" => ((k_here; (fail_if_success (fail_if_success k_fold)); (refine (let q8 := _; (?_ : PySem.wpAny _ _ _ q8 _ _)))))
  k_with "callWith" => ((k_here; (with_reducible show PySem.wpAny _ _ (PySem.callWith _ (PySem.Value.builtin _) _ _ []) _ _ _); k_dflt (first | refine callM1 ?_ | refine callM2 ?_ | refine callB1 ?_ | refine callB2 ?_); k_whole))
  walk_at "my enterP"
  repeat' (first | ((fail_if_success goal_has PySem.wpAny); (try dsimp only); first | (with_reducible refine seqN ?_) | ((with_reducible refine seqE ?_); (try dsimp only)) | ((with_reducible refine seqR ?_); (try dsimp only)) | ((with_reducible refine seqC ?_); (try dsimp only)) | ((with_reducible refine seqB ?_); (try dsimp only))) | ((fail_if_success (fail_if_success k_unfold)); (try dsimp only); k_unfold; (try dsimp only)) | ((fail_if_success goal_has PySem.wpAny); show PySem.wpAny _ _ _ _ _ _; (try dsimp only)) | walk1 | (dsimp only; walk1) | fail "no step")
  rw [zfill_two h.1 h.2]
  walk_at "my retS"
  exact Nat.le_of_eq (two_len _)
theorem ifmt_spec {w : World} (n : Int) (t : Tok) : SpecI 1 w 162 [.int n t] [] (Builtin.bitAnd n 61440) := by
  k_with_none
  w_top off
  k_with "my open" => (((try unfold SpecS); (try unfold SpecI); (try unfold SpecB); (try unfold SpecT); unfold Spec; k_fill; intros; refine wpAny_call ?_))
  k_with "my enterP" => ((walk_at "my open"; k_dflt (refine' enterP ?k1_r2 ?k2_r2 ?k3_r2 ?k4_r2 ?k5_r2 ?kA_r2 ?kF_r2 ?kK_r2 ?k6_r2 ?k7_r2 ?k8_r2 ?k9_r2 ?kB_r2 _ ?kL_r2 ?_ ?c2_r2 ?c3_r2 ?c4_r2 ?c5_r2; (case kA_r2 => exact rfl); (case kF_r2 => exact rfl); (case kK_r2 => assumption); (case k1_r2 => k_asm); (case k2_r2 => k_asm); (case k3_r2 => k_asm); (case k4_r2 => k_asm); (case k5_r2 => k_asm); (case k6_r2 => k_is); (case k7_r2 => k_is); (case k8_r2 => ktr_room); (case k9_r2 => exact BindsTo.of_eq rfl); (case c5_r2 => decide); (case kB_r2 => exact locs rfl); (case kL_r2 => exact rfl); (case c2_r2 => exact rfl); (case c3_r2 => exact rfl); (case c4_r2 => exact rfl); k_whole; intro g'm L'm h'm tk'm HG'm F'm N'm B'm X'm T'm l1m; (try k_lt l1m); (try dsimp only); (try k_lift B'm); (try k_unmd); (try k_fold); (try refine (let A9 := _; (?_ : PySem.wpAny _ A9 _ _ _ _))); (try refine (let e9 := _; (?_ : PySem.wpAny _ _ (PySem.execs _ e9) _ _ _))))))
  k_with "my sub" => (first | exact List.forall_mem_nil _ | (refine' List.forall_mem_cons.mpr ⟨?a_r4, ?b_r4⟩; (case a_r4 => k_mem); (case b_r4 => walk_at "my sub")))
  k_with "my keep" => (exact keepZ (by assumption) (by assumption) (by assumption) (by assumption) (by walk_at "my sub"))
  k_with "my retI" => ((refine' retV (by assumption) ?r1_r9 ?r2_r9; (case r1_r9 => walk_at "my keep"); (case r2_r9 => exact ⟨rfl, _, rfl⟩)))
  k_with "my len" => (first | with_reducible assumption | with_reducible exact Nat.le_of_eq (two_len _) | with_reducible exact Nat.le_of_eq (four_len _) | with_reducible exact Nat.le_of_eq (wdN_len (by assumption)) | with_reducible exact Nat.le_of_eq (moN_len (by assumption)) | with_reducible exact lit_len)
  k_with "my text" => (first | with_reducible exact slice_wd (by assumption) | with_reducible exact slice_mo (by assumption) | with_reducible exact zfill_four (by assumption) | with_reducible exact rfl)
  k_with "binaryOp Add str str" => ((k_here; (refine' add_strE ?e1_r15 ?e2_r15 ?a1_r15 ?a2_r15 ?a3_r15 ?_; (case e1_r15 => walk_at "my text"); (case e2_r15 => walk_at "my text"); (case a1_r15 => walk_at "my len"); (case a2_r15 => walk_at "my len"); (case a3_r15 => omega); intro t'm tk'm ln'm)))
  k_with "inplaceOp Add str str" => ((k_here; (refine' iadd_strE ?e1_r16 ?e2_r16 ?a1_r16 ?a2_r16 ?a3_r16 ?_; (case e1_r16 => walk_at "my text"); (case e2_r16 => walk_at "my text"); (case a1_r16 => walk_at "my len"); (case a2_r16 => walk_at "my len"); (case a3_r16 => omega); intro t'm tk'm ln'm)))
  k_with "execs cons" => ((k_here; (try ((fail_if_success (fail_if_success k_fold)); (refine (let q8 := _; (?_ : PySem.wpAny _ _ _ q8 _ _))))); (with_reducible refine seqA ?_); (refine (let q8 := _; (?_ : PySem.wpAny _ _ _ q8 _ _))); (try ((with_reducible rename Fr _ _ _ (fun _ => _) => lF8); (refine (let lm8 := _; (fun (F' : Fr _ _ _ lm8) => ?_) lF8)); clear lF8))))
  k_with "execs cons" => ((k_here; k_gentoks))
  k_with "execs cons" => ((k_here; k_made; walk_at "execs cons"))
  k_with "eval Call" => ((k_here; (fail_if_success (fail_if_success k_fold)); (refine (let q8 := _; (?_ : PySem.wpAny _ _ _ q8 _ _)))))
  k_with "eval BinOp" => ((k_here; (fail_if_success (fail_if_success k_fold)); (refine (let q8 := _; (?_ : PySem.wpAny _ _ _ q8 _ _)))))
  k_with "eval Subscript" => ((k_here; (fail_if_success (fail_if_success k_fold)); (refine (let q8 := _; (?_ : PySem.wpAny _ _ _ q8 _ _)))))
  k_with "eval Tuple" => ((k_here; (fail_if_success (fail_if_success k_fold)); (refine (let q8 := _; (?_ : PySem.wpAny _ _ _ q8 _ _)))))
  k_with "eval List" => ((k_here; (fail_if_success (fail_if_success k_fold)); (refine (let q8 := _; (?_ : PySem.wpAny _ _ _ q8 _ _)))))
  k_with "eval Compare" => ((k_here; (fail_if_success (fail_if_success k_fold)); (refine (let q8 := _; (?_ : PySem.wpAny _ _ _ q8 _ _)))))
  k_with "call ref" => ((k_here; (fail_if_success (fail_if_success k_fold)); (refine (let q8 := _; (?_ : PySem.wpAny _ _ _ q8 _ _)))))
  k_with "callWith ref" => ((k_here; k_dflt (refine' callA1 ?k1_r37 ?k2_r37 ?_; (case k1_r37 => k_asm); (case k2_r37 => k_is); k_whole)))
  k_with "callWith ref" => ((k_here; k_dflt (refine' callA2 ?k1_r38 ?k2_r38 ?_; (case k1_r38 => k_asm); (case k2_r38 => k_is); k_whole)))
  k_with "isTrue BoolOp" => ((k_here; (fail_if_success (fail_if_success k_fold)); (refine (let q8 := _; (?_ : PySem.wpAny _ _ _ q8 _ _)))))
  k_with "isTrue Compare" => ((k_here; (fail_if_success (fail_if_success k_fold)); (refine (let q8 := _; (?_ : PySem.wpAny _ _ _ q8 _ _)))))
  k_with "isTrue UnaryOp" => ((k_here; (fail_if_success (fail_if_success k_fold)); (refine (let q8 := _; (?_ : PySem.wpAny _ _ _ q8 _ _)))))
  k_with "assign Name" => ((k_here; (fail_if_success (fail_if_success k_fold)); (refine (let q8 := _; (?_ : PySem.wpAny _ _ _ q8 _ _)))))
  k_with "assign Tuple" => ((k_here; (fail_if_success (fail_if_success k_fold)); (refine (let q8 := _; (?_ : PySem.wpAny _ _ _ q8 _ _)))))
  k_with "callWith" => ((k_here; (with_reducible show PySem.wpAny _ _ (PySem.callWith _ (PySem.Value.builtin _) _ _ []) _ _ _); k_dflt (first | refine callM1 ?_ | refine callM2 ?_ | refine callB1 ?_ | refine callB2 ?_); k_whole))
  walk_at "my enterP"
  repeat' (first | ((fail_if_success goal_has PySem.wpAny); (try dsimp only); first | (with_reducible refine seqN ?_) | ((with_reducible refine seqE ?_); (try dsimp only)) | ((with_reducible refine seqR ?_); (try dsimp only)) | ((with_reducible refine seqC ?_); (try dsimp only)) | ((with_reducible refine seqB ?_); (try dsimp only))) | ((fail_if_success (fail_if_success k_unfold)); (try dsimp only); k_unfold; (try dsimp only)) | ((fail_if_success goal_has PySem.wpAny); show PySem.wpAny _ _ _ _ _ _; (try dsimp only)) | walk1 | (dsimp only; walk1) | fail "no step")
  walk_at "my retI"
theorem get_sep_spec {w : World} (x : Str) (t : Tok) : SpecS 1 w 122 [.str x t] [] (Str.ofString "/") 1 := by
  k_with_none
  w_top off
  k_with "my open" => (((try unfold SpecS); (try unfold SpecI); (try unfold SpecB); (try unfold SpecT); unfold Spec; k_fill; intros; refine wpAny_call ?_))
  k_with "my enterP" => ((walk_at "my open"; k_dflt (refine' enterP ?k1_r2 ?k2_r2 ?k3_r2 ?k4_r2 ?k5_r2 ?kA_r2 ?kF_r2 ?kK_r2 ?k6_r2 ?k7_r2 ?k8_r2 ?k9_r2 ?kB_r2 _ ?kL_r2 ?_ ?c2_r2 ?c3_r2 ?c4_r2 ?c5_r2; (case kA_r2 => exact rfl); (case kF_r2 => exact rfl); (case kK_r2 => assumption); (case k1_r2 => k_asm); (case k2_r2 => k_asm); (case k3_r2 => k_asm); (case k4_r2 => k_asm); (case k5_r2 => k_asm); (case k6_r2 => k_is); (case k7_r2 => k_is); (case k8_r2 => ktr_room); (case k9_r2 => exact BindsTo.of_eq rfl); (case c5_r2 => decide); (case kB_r2 => exact locs rfl); (case kL_r2 => exact rfl); (case c2_r2 => exact rfl); (case c3_r2 => exact rfl); (case c4_r2 => exact rfl); k_whole; intro g'm L'm h'm tk'm HG'm F'm N'm B'm X'm T'm l1m; (try k_lt l1m); (try dsimp only); (try k_lift B'm); (try k_unmd); (try k_fold); (try refine (let A9 := _; (?_ : PySem.wpAny _ A9 _ _ _ _))); (try refine (let e9 := _; (?_ : PySem.wpAny _ _ (PySem.execs _ e9) _ _ _))))))
  k_with "my sub" => (first | exact List.forall_mem_nil _ | (refine' List.forall_mem_cons.mpr ⟨?a_r4, ?b_r4⟩; (case a_r4 => k_mem); (case b_r4 => walk_at "my sub")))
  k_with "my keep" => (exact keepZ (by assumption) (by assumption) (by assumption) (by assumption) (by walk_at "my sub"))
  k_with "my retS" => ((refine' retV (by assumption) ?r1_r8 ?r2_r8; (case r1_r8 => walk_at "my keep"); refine ⟨rfl, ⟨_, rfl⟩, ?_⟩))
  k_with "my len" => (first | with_reducible assumption | with_reducible exact Nat.le_of_eq (two_len _) | with_reducible exact Nat.le_of_eq (four_len _) | with_reducible exact Nat.le_of_eq (wdN_len (by assumption)) | with_reducible exact Nat.le_of_eq (moN_len (by assumption)) | with_reducible exact lit_len)
  k_with "my text" => (first | with_reducible exact slice_wd (by assumption) | with_reducible exact slice_mo (by assumption) | with_reducible exact zfill_four (by assumption) | with_reducible exact rfl)
  k_with "binaryOp Add str str" => ((k_here; (refine' add_strE ?e1_r15 ?e2_r15 ?a1_r15 ?a2_r15 ?a3_r15 ?_; (case e1_r15 => walk_at "my text"); (case e2_r15 => walk_at "my text"); (case a1_r15 => walk_at "my len"); (case a2_r15 => walk_at "my len"); (case a3_r15 => omega); intro t'm tk'm ln'm)))
  k_with "inplaceOp Add str str" => ((k_here; (refine' iadd_strE ?e1_r16 ?e2_r16 ?a1_r16 ?a2_r16 ?a3_r16 ?_; (case e1_r16 => walk_at "my text"); (case e2_r16 => walk_at "my text"); (case a1_r16 => walk_at "my len"); (case a2_r16 => walk_at "my len"); (case a3_r16 => omega); intro t'm tk'm ln'm)))
  k_with "execs cons" => ((k_here; (try ((fail_if_success (fail_if_success k_fold)); (refine (let q8 := _; (?_ : PySem.wpAny _ _ _ q8 _ _))))); (with_reducible refine seqA ?_); (refine (let q8 := _; (?_ : PySem.wpAny _ _ _ q8 _ _))); (try ((with_reducible rename Fr _ _ _ (fun _ => _) => lF8); (refine (let lm8 := _; (fun (F' : Fr _ _ _ lm8) => ?_) lF8)); clear lF8))))
  k_with "execs cons" => ((k_here; k_gentoks))
  k_with "execs cons" => ((k_here; k_made; walk_at "execs cons"))
  k_with "eval Call" => ((k_here; (fail_if_success (fail_if_success k_fold)); (refine (let q8 := _; (?_ : PySem.wpAny _ _ _ q8 _ _)))))
  k_with "eval BinOp" => ((k_here; (fail_if_success (fail_if_success k_fold)); (refine (let q8 := _; (?_ : PySem.wpAny _ _ _ q8 _ _)))))
  k_with "eval Subscript" => ((k_here; (fail_if_success (fail_if_success k_fold)); (refine (let q8 := _; (?_ : PySem.wpAny _ _ _ q8 _ _)))))
  k_with "eval Tuple" => ((k_here; (fail_if_success (fail_if_success k_fold)); (refine (let q8 := _; (?_ : PySem.wpAny _ _ _ q8 _ _)))))
  k_with "eval List" => ((k_here; (fail_if_success (fail_if_success k_fold)); (refine (let q8 := _; (?_ : PySem.wpAny _ _ _ q8 _ _)))))
  k_with "eval Compare" => ((k_here; (fail_if_success (fail_if_success k_fold)); (refine (let q8 := _; (?_ : PySem.wpAny _ _ _ q8 _ _)))))
  k_with "call ref" => ((k_here; (fail_if_success (fail_if_success k_fold)); (refine (let q8 := _; (?_ : PySem.wpAny _ _ _ q8 _ _)))))
  k_with "callWith ref" => ((k_here; k_dflt (refine' callA1 ?k1_r37 ?k2_r37 ?_; (case k1_r37 => k_asm); (case k2_r37 => k_is); k_whole)))
  k_with "callWith ref" => ((k_here; k_dflt (refine' callA2 ?k1_r38 ?k2_r38 ?_; (case k1_r38 => k_asm); (case k2_r38 => k_is); k_whole)))
  k_with "isTrue BoolOp" => ((k_here; (fail_if_success (fail_if_success k_fold)); (refine (let q8 := _; (?_ : PySem.wpAny _ _ _ q8 _ _)))))
  k_with "isTrue Compare" => ((k_here; (fail_if_success (fail_if_success k_fold)); (refine (let q8 := _; (?_ : PySem.wpAny _ _ _ q8 _ _)))))
  k_with "isTrue UnaryOp" => ((k_here; (fail_if_success (fail_if_success k_fold)); (refine (let q8 := _; (?_ : PySem.wpAny _ _ _ q8 _ _)))))
  k_with "assign Name" => ((k_here; (fail_if_success (fail_if_success k_fold)); (refine (let q8 := _; (?_ : PySem.wpAny _ _ _ q8 _ _)))))
  k_with "assign Tuple" => ((k_here; (fail_if_success (fail_if_success k_fold)); (refine (let q8 := _; (?_ : PySem.wpAny _ _ _ q8 _ _)))))
  k_with "callWith" => ((k_here; (with_reducible show PySem.wpAny _ _ (PySem.callWith _ (PySem.Value.builtin _) _ _ []) _ _ _); k_dflt (first | refine callM1 ?_ | refine callM2 ?_ | refine callB1 ?_ | refine callB2 ?_); k_whole))
  walk_at "my enterP"
  repeat' (first | ((fail_if_success goal_has PySem.wpAny); (try dsimp only); first | (with_reducible refine seqN ?_) | ((with_reducible refine seqE ?_); (try dsimp only)) | ((with_reducible refine seqR ?_); (try dsimp only)) | ((with_reducible refine seqC ?_); (try dsimp only)) | ((with_reducible refine seqB ?_); (try dsimp only))) | ((fail_if_success (fail_if_success k_unfold)); (try dsimp only); k_unfold; (try dsimp only)) | ((fail_if_success goal_has PySem.wpAny); show PySem.wpAny _ _ _ _ _ _; (try dsimp only)) | walk1 | (dsimp only; walk1) | fail "no step")
  walk_at "my retS"
  decide +kernel
theorem isreg_spec {w : World} (n : Int) (t : Tok) : SpecB 2 w 169 [.int n t] [] (Builtin.bitAnd n 61440 == 32768) := by
  k_with_none
  w_top off
  k_with "my open" => (((try unfold SpecS); (try unfold SpecI); (try unfold SpecB); (try unfold SpecT); unfold Spec; k_fill; intros; refine wpAny_call ?_))
  k_with "my enterP" => ((walk_at "my open"; k_dflt (refine' enterP ?k1_r2 ?k2_r2 ?k3_r2 ?k4_r2 ?k5_r2 ?kA_r2 ?kF_r2 ?kK_r2 ?k6_r2 ?k7_r2 ?k8_r2 ?k9_r2 ?kB_r2 _ ?kL_r2 ?_ ?c2_r2 ?c3_r2 ?c4_r2 ?c5_r2; (case kA_r2 => exact rfl); (case kF_r2 => exact rfl); (case kK_r2 => assumption); (case k1_r2 => k_asm); (case k2_r2 => k_asm); (case k3_r2 => k_asm); (case k4_r2 => k_asm); (case k5_r2 => k_asm); (case k6_r2 => k_is); (case k7_r2 => k_is); (case k8_r2 => ktr_room); (case k9_r2 => exact BindsTo.of_eq rfl); (case c5_r2 => decide); (case kB_r2 => exact locs rfl); (case kL_r2 => exact rfl); (case c2_r2 => exact rfl); (case c3_r2 => exact rfl); (case c4_r2 => exact rfl); k_whole; intro g'm L'm h'm tk'm HG'm F'm N'm B'm X'm T'm l1m; (try k_lt l1m); (try dsimp only); (try k_lift B'm); (try k_unmd); (try k_fold); (try refine (let A9 := _; (?_ : PySem.wpAny _ A9 _ _ _ _))); (try refine (let e9 := _; (?_ : PySem.wpAny _ _ (PySem.execs _ e9) _ _ _))))))
  k_with "my sub" => (first | exact List.forall_mem_nil _ | (refine' List.forall_mem_cons.mpr ⟨?a_r4, ?b_r4⟩; (case a_r4 => k_mem); (case b_r4 => walk_at "my sub")))
  k_with "my keep" => (exact keepZ (by assumption) (by assumption) (by assumption) (by assumption) (by walk_at "my sub"))
  k_with "my retB" => ((refine' retV (by assumption) ?r1_r10 ?r2_r10; (case r1_r10 => walk_at "my keep"); (case r2_r10 => exact ⟨rfl, rfl⟩)))
  k_with "my use" => (((case b1 => k_asm); (case f1 => k_asm); (case x1 => k_asm); (case n1 => k_asm); (case t1 => k_asm); (case kk => first | exact rfl | assumption); (case hd => first | exact room1 (by with_reducible assumption) rfl | omega | ((try dsimp only [A9]); (try dsimp only [Around.deeper]); omega) | (trace_state; ktr_room)); (case hu => first | exact units1 (by with_reducible assumption) rfl | omega | ((try dsimp only [A9]); (try dsimp only [Around.deeper]); omega) | (trace_state; ktr_units)); (case ha => walk_at "my sub")))
  k_with "my len" => (first | with_reducible assumption | with_reducible exact Nat.le_of_eq (two_len _) | with_reducible exact Nat.le_of_eq (four_len _) | with_reducible exact Nat.le_of_eq (wdN_len (by assumption)) | with_reducible exact Nat.le_of_eq (moN_len (by assumption)) | with_reducible exact lit_len)
  k_with "my text" => (first | with_reducible exact slice_wd (by assumption) | with_reducible exact slice_mo (by assumption) | with_reducible exact zfill_four (by assumption) | with_reducible exact rfl)
  k_with "binaryOp Add str str" => ((k_here; (refine' add_strE ?e1_r15 ?e2_r15 ?a1_r15 ?a2_r15 ?a3_r15 ?_; (case e1_r15 => walk_at "my text"); (case e2_r15 => walk_at "my text"); (case a1_r15 => walk_at "my len"); (case a2_r15 => walk_at "my len"); (case a3_r15 => omega); intro t'm tk'm ln'm)))
  k_with "inplaceOp Add str str" => ((k_here; (refine' iadd_strE ?e1_r16 ?e2_r16 ?a1_r16 ?a2_r16 ?a3_r16 ?_; (case e1_r16 => walk_at "my text"); (case e2_r16 => walk_at "my text"); (case a1_r16 => walk_at "my len"); (case a2_r16 => walk_at "my len"); (case a3_r16 => omega); intro t'm tk'm ln'm)))
  k_with "execs cons" => ((k_here; (try ((fail_if_success (fail_if_success k_fold)); (refine (let q8 := _; (?_ : PySem.wpAny _ _ _ q8 _ _))))); (with_reducible refine seqA ?_); (refine (let q8 := _; (?_ : PySem.wpAny _ _ _ q8 _ _))); (try ((with_reducible rename Fr _ _ _ (fun _ => _) => lF8); (refine (let lm8 := _; (fun (F' : Fr _ _ _ lm8) => ?_) lF8)); clear lF8))))
  k_with "execs cons" => ((k_here; k_gentoks))
  k_with "execs cons" => ((k_here; k_made; walk_at "execs cons"))
  k_with "eval Call" => ((k_here; (fail_if_success (fail_if_success k_fold)); (refine (let q8 := _; (?_ : PySem.wpAny _ _ _ q8 _ _)))))
  k_with "eval BinOp" => ((k_here; (fail_if_success (fail_if_success k_fold)); (refine (let q8 := _; (?_ : PySem.wpAny _ _ _ q8 _ _)))))
  k_with "eval Subscript" => ((k_here; (fail_if_success (fail_if_success k_fold)); (refine (let q8 := _; (?_ : PySem.wpAny _ _ _ q8 _ _)))))
  k_with "eval Tuple" => ((k_here; (fail_if_success (fail_if_success k_fold)); (refine (let q8 := _; (?_ : PySem.wpAny _ _ _ q8 _ _)))))
  k_with "eval List" => ((k_here; (fail_if_success (fail_if_success k_fold)); (refine (let q8 := _; (?_ : PySem.wpAny _ _ _ q8 _ _)))))
  k_with "eval Compare" => ((k_here; (fail_if_success (fail_if_success k_fold)); (refine (let q8 := _; (?_ : PySem.wpAny _ _ _ q8 _ _)))))
  k_with "call ref" => ((k_here; (fail_if_success (fail_if_success k_fold)); (refine (let q8 := _; (?_ : PySem.wpAny _ _ _ q8 _ _)))))
  k_with "callWith ref" => ((k_here; k_dflt (refine' callA1 ?k1_r37 ?k2_r37 ?_; (case k1_r37 => k_asm); (case k2_r37 => k_is); k_whole)))
  k_with "callWith ref" => ((k_here; k_dflt (refine' callA2 ?k1_r38 ?k2_r38 ?_; (case k1_r38 => k_asm); (case k2_r38 => k_is); k_whole)))
  k_with "isTrue BoolOp" => ((k_here; (fail_if_success (fail_if_success k_fold)); (refine (let q8 := _; (?_ : PySem.wpAny _ _ _ q8 _ _)))))
  k_with "isTrue Compare" => ((k_here; (fail_if_success (fail_if_success k_fold)); (refine (let q8 := _; (?_ : PySem.wpAny _ _ _ q8 _ _)))))
  k_with "isTrue UnaryOp" => ((k_here; (fail_if_success (fail_if_success k_fold)); (refine (let q8 := _; (?_ : PySem.wpAny _ _ _ q8 _ _)))))
  k_with "assign Name" => ((k_here; (fail_if_success (fail_if_success k_fold)); (refine (let q8 := _; (?_ : PySem.wpAny _ _ _ q8 _ _)))))
  k_with "assign Tuple" => ((k_here; (fail_if_success (fail_if_success k_fold)); (refine (let q8 := _; (?_ : PySem.wpAny _ _ _ q8 _ _)))))
  k_with "callWith" => ((k_here; (with_reducible show PySem.wpAny _ _ (PySem.callWith _ (PySem.Value.builtin _) _ _ []) _ _ _); k_dflt (first | refine callM1 ?_ | refine callM2 ?_ | refine callB1 ?_ | refine callB2 ?_); k_whole))
  k_with "call ref" => (k_here; k_dflt (refine' Spec.use (ifmt_spec _ _) ?b1 ?f1 ?x1 ?n1 ?t1 ?kk ?hd ?hu ?ha ?_; walk_at "my use"; k_whole; rintro _ _ h' tk' F' N' lt' ⟨rfl, t', rfl⟩; (try dsimp only [List.nil_append] at N'); clear lt'))
  walk_at "my enterP"
  repeat' (first | ((fail_if_success goal_has PySem.wpAny); (try dsimp only); first | (with_reducible refine seqN ?_) | ((with_reducible refine seqE ?_); (try dsimp only)) | ((with_reducible refine seqR ?_); (try dsimp only)) | ((with_reducible refine seqC ?_); (try dsimp only)) | ((with_reducible refine seqB ?_); (try dsimp only))) | ((fail_if_success (fail_if_success k_unfold)); (try dsimp only); k_unfold; (try dsimp only)) | ((fail_if_success goal_has PySem.wpAny); show PySem.wpAny _ _ _ _ _ _; (try dsimp only)) | walk1 | (dsimp only; walk1) | fail "no step")
  walk_at "my retB"
section
local macro_rules | `(tactic| x_close) => `(tactic| apply_assumption)
theorem issub_str {w : World} {A : Around} {s : Shared} {a : Addr} {n : Nat} {Q E : Value → Shared → Prop}
  (ha : s.heap.get? a = some { cls := .type "tuple", data := .seq #[.type "str", .type "bytes"] n }) (h : ∀ tk, Q (.bool true) { s with toks := tk }) :
   wpAny (model PySem.Challenge.rw_qw0054_01.row.prog w) A (call (.builtin "issubclass") [.type "str", .ref a]) Q E s := by
  x_run
end
theorem fspath_spec {w : World} (x : Str) (t : Tok) : SpecS 1 w 108 [.str x t] [] x x.length := by
  k_with_none
  w_top off
  k_with "my open" => (((try unfold SpecS); (try unfold SpecI); (try unfold SpecB); (try unfold SpecT); unfold Spec; k_fill; intros; refine wpAny_call ?_))
  k_with "my enterP" => ((walk_at "my open"; k_dflt (refine' enterP ?k1_r2 ?k2_r2 ?k3_r2 ?k4_r2 ?k5_r2 ?kA_r2 ?kF_r2 ?kK_r2 ?k6_r2 ?k7_r2 ?k8_r2 ?k9_r2 ?kB_r2 _ ?kL_r2 ?_ ?c2_r2 ?c3_r2 ?c4_r2 ?c5_r2; (case kA_r2 => exact rfl); (case kF_r2 => exact rfl); (case kK_r2 => assumption); (case k1_r2 => k_asm); (case k2_r2 => k_asm); (case k3_r2 => k_asm); (case k4_r2 => k_asm); (case k5_r2 => k_asm); (case k6_r2 => k_is); (case k7_r2 => k_is); (case k8_r2 => ktr_room); (case k9_r2 => exact BindsTo.of_eq rfl); (case c5_r2 => decide); (case kB_r2 => exact locs rfl); (case kL_r2 => exact rfl); (case c2_r2 => exact rfl); (case c3_r2 => exact rfl); (case c4_r2 => exact rfl); k_whole; intro g'm L'm h'm tk'm HG'm F'm N'm B'm X'm T'm l1m; (try k_lt l1m); (try dsimp only); (try k_lift B'm); (try k_unmd); (try k_fold); (try refine (let A9 := _; (?_ : PySem.wpAny _ A9 _ _ _ _))); (try refine (let e9 := _; (?_ : PySem.wpAny _ _ (PySem.execs _ e9) _ _ _))))))
  k_with "my sub" => (first | exact List.forall_mem_nil _ | (refine' List.forall_mem_cons.mpr ⟨?a_r4, ?b_r4⟩; (case a_r4 => k_mem); (case b_r4 => walk_at "my sub")))
  k_with "my keep" => (exact keepZ (by assumption) (by assumption) (by assumption) (by assumption) (by walk_at "my sub"))
  k_with "my retS" => ((refine' retV (by assumption) ?r1_r8 ?r2_r8; (case r1_r8 => walk_at "my keep"); refine ⟨rfl, ⟨_, rfl⟩, ?_⟩))
  k_with "my len" => (first | with_reducible assumption | with_reducible exact Nat.le_of_eq (two_len _) | with_reducible exact Nat.le_of_eq (four_len _) | with_reducible exact Nat.le_of_eq (wdN_len (by assumption)) | with_reducible exact Nat.le_of_eq (moN_len (by assumption)) | with_reducible exact lit_len)
  k_with "my text" => (first | with_reducible exact slice_wd (by assumption) | with_reducible exact slice_mo (by assumption) | with_reducible exact zfill_four (by assumption) | with_reducible exact rfl)
  k_with "binaryOp Add str str" => ((k_here; (refine' add_strE ?e1_r15 ?e2_r15 ?a1_r15 ?a2_r15 ?a3_r15 ?_; (case e1_r15 => walk_at "my text"); (case e2_r15 => walk_at "my text"); (case a1_r15 => walk_at "my len"); (case a2_r15 => walk_at "my len"); (case a3_r15 => omega); intro t'm tk'm ln'm)))
  k_with "inplaceOp Add str str" => ((k_here; (refine' iadd_strE ?e1_r16 ?e2_r16 ?a1_r16 ?a2_r16 ?a3_r16 ?_; (case e1_r16 => walk_at "my text"); (case e2_r16 => walk_at "my text"); (case a1_r16 => walk_at "my len"); (case a2_r16 => walk_at "my len"); (case a3_r16 => omega); intro t'm tk'm ln'm)))
  k_with "execs cons" => ((k_here; (try ((fail_if_success (fail_if_success k_fold)); (refine (let q8 := _; (?_ : PySem.wpAny _ _ _ q8 _ _))))); (with_reducible refine seqA ?_); (refine (let q8 := _; (?_ : PySem.wpAny _ _ _ q8 _ _))); (try ((with_reducible rename Fr _ _ _ (fun _ => _) => lF8); (refine (let lm8 := _; (fun (F' : Fr _ _ _ lm8) => ?_) lF8)); clear lF8))))
  k_with "execs cons" => ((k_here; k_gentoks))
  k_with "execs cons" => ((k_here; k_made; walk_at "execs cons"))
  k_with "eval Call" => ((k_here; (fail_if_success (fail_if_success k_fold)); (refine (let q8 := _; (?_ : PySem.wpAny _ _ _ q8 _ _)))))
  k_with "eval BinOp" => ((k_here; (fail_if_success (fail_if_success k_fold)); (refine (let q8 := _; (?_ : PySem.wpAny _ _ _ q8 _ _)))))
  k_with "eval Subscript" => ((k_here; (fail_if_success (fail_if_success k_fold)); (refine (let q8 := _; (?_ : PySem.wpAny _ _ _ q8 _ _)))))
  k_with "eval Tuple" => ((k_here; (fail_if_success (fail_if_success k_fold)); (refine (let q8 := _; (?_ : PySem.wpAny _ _ _ q8 _ _)))))
  k_with "eval List" => ((k_here; (fail_if_success (fail_if_success k_fold)); (refine (let q8 := _; (?_ : PySem.wpAny _ _ _ q8 _ _)))))
  k_with "eval Compare" => ((k_here; (fail_if_success (fail_if_success k_fold)); (refine (let q8 := _; (?_ : PySem.wpAny _ _ _ q8 _ _)))))
  k_with "call ref" => ((k_here; (fail_if_success (fail_if_success k_fold)); (refine (let q8 := _; (?_ : PySem.wpAny _ _ _ q8 _ _)))))
  k_with "callWith ref" => ((k_here; k_dflt (refine' callA1 ?k1_r37 ?k2_r37 ?_; (case k1_r37 => k_asm); (case k2_r37 => k_is); k_whole)))
  k_with "callWith ref" => ((k_here; k_dflt (refine' callA2 ?k1_r38 ?k2_r38 ?_; (case k1_r38 => k_asm); (case k2_r38 => k_is); k_whole)))
  k_with "isTrue BoolOp" => ((k_here; (fail_if_success (fail_if_success k_fold)); (refine (let q8 := _; (?_ : PySem.wpAny _ _ _ q8 _ _)))))
  k_with "isTrue Compare" => ((k_here; (fail_if_success (fail_if_success k_fold)); (refine (let q8 := _; (?_ : PySem.wpAny _ _ _ q8 _ _)))))
  k_with "isTrue UnaryOp" => ((k_here; (fail_if_success (fail_if_success k_fold)); (refine (let q8 := _; (?_ : PySem.wpAny _ _ _ q8 _ _)))))
  k_with "assign Name" => ((k_here; (fail_if_success (fail_if_success k_fold)); (refine (let q8 := _; (?_ : PySem.wpAny _ _ _ q8 _ _)))))
  k_with "assign Tuple" => ((k_here; (fail_if_success (fail_if_success k_fold)); (refine (let q8 := _; (?_ : PySem.wpAny _ _ _ q8 _ _)))))
  k_with "callWith" => ((k_here; (with_reducible show PySem.wpAny _ _ (PySem.callWith _ (PySem.Value.builtin _) _ _ []) _ _ _); k_dflt (first | refine callM1 ?_ | refine callM2 ?_ | refine callB1 ?_ | refine callB2 ?_); k_whole))
  k_with "call builtin:issubclass" => (k_here; k_dflt (refine' issub_str ?ha ?_; (case ha => exact News.get (by k_asm) (by k_mem)); k_whole; intro tk))
  walk_at "my enterP"
  repeat' (first | ((fail_if_success goal_has PySem.wpAny); (try dsimp only); first | (with_reducible refine seqN ?_) | ((with_reducible refine seqE ?_); (try dsimp only)) | ((with_reducible refine seqR ?_); (try dsimp only)) | ((with_reducible refine seqC ?_); (try dsimp only)) | ((with_reducible refine seqB ?_); (try dsimp only))) | ((fail_if_success (fail_if_success k_unfold)); (try dsimp only); k_unfold; (try dsimp only)) | ((fail_if_success goal_has PySem.wpAny); show PySem.wpAny _ _ _ _ _ _; (try dsimp only)) | walk1 | (dsimp only; walk1) | fail "no step")
  walk_at "my retS"
  exact Nat.le_refl _

theorem three_of {l : List (Str × Tok)} {a b c : Str} (h : l.map (fun x => x.fst) = [a, b, c]) : ∃ t1 t2 t3, l = [(a, t1), (b, t2), (c, t3)] := by
  match l, h with
  | [(a', t1), (b', t2), (c', t3)], h =>
    simp at h
    obtain ⟨rfl, rfl, rfl⟩ := h
    exact ⟨t1, t2, t3, rfl⟩
abbrev tupleO (vs : Array Value) (n : Nat) : Obj := { cls := .type "tuple", data := .seq vs n }
abbrev listO (vs : Array Value) (n : Nat) : Obj := { cls := .type "list", data := .seq vs n }
theorem decode3_spec {w : World} (x a b c : Str) (t : Tok) (hx : x.length ≤ 1000) (h3 : Txt.splitMax x (Str.ofString "'") 2 = [a, b, c]) :
    Spec 1 w 35 [.str x t] [] (fun r tl => ∃ D n t1 t2 t3, r = .ref D ∧ tl = [(D, listO #[.str a t1, .str b t2, .str c t3] n)]) := by
  k_with_none
  w_top off
  k_with "my open" => (((try unfold SpecS); (try unfold SpecI); (try unfold SpecB); (try unfold SpecT); unfold Spec; k_fill; intros; refine wpAny_call ?_))
  k_with "my enterP" => ((walk_at "my open"; k_dflt (refine' enterP ?k1_r2 ?k2_r2 ?k3_r2 ?k4_r2 ?k5_r2 ?kA_r2 ?kF_r2 ?kK_r2 ?k6_r2 ?k7_r2 ?k8_r2 ?k9_r2 ?kB_r2 _ ?kL_r2 ?_ ?c2_r2 ?c3_r2 ?c4_r2 ?c5_r2; (case kA_r2 => exact rfl); (case kF_r2 => exact rfl); (case kK_r2 => assumption); (case k1_r2 => k_asm); (case k2_r2 => k_asm); (case k3_r2 => k_asm); (case k4_r2 => k_asm); (case k5_r2 => k_asm); (case k6_r2 => k_is); (case k7_r2 => k_is); (case k8_r2 => ktr_room); (case k9_r2 => exact BindsTo.of_eq rfl); (case c5_r2 => decide); (case kB_r2 => exact locs rfl); (case kL_r2 => exact rfl); (case c2_r2 => exact rfl); (case c3_r2 => exact rfl); (case c4_r2 => exact rfl); k_whole; intro g'm L'm h'm tk'm HG'm F'm N'm B'm X'm T'm l1m; (try k_lt l1m); (try dsimp only); (try k_lift B'm); (try k_unmd); (try k_fold); (try refine (let A9 := _; (?_ : PySem.wpAny _ A9 _ _ _ _))); (try refine (let e9 := _; (?_ : PySem.wpAny _ _ (PySem.execs _ e9) _ _ _))))))
  k_with "my sub" => (first | exact List.forall_mem_nil _ | (refine' List.forall_mem_cons.mpr ⟨?a_r4, ?b_r4⟩; (case a_r4 => k_mem); (case b_r4 => walk_at "my sub")))
  k_with "my nes" => (first | exact List.forall_mem_nil _ | (refine' List.forall_mem_cons.mpr ⟨?a_r5, ?b_r5⟩; (case a_r5 => (dsimp only; omega)); (case b_r5 => walk_at "my nes")))
  k_with "my keep" => (exact keepZ (by assumption) (by assumption) (by assumption) (by assumption) (by walk_at "my sub"))
  k_with "my fresh" => (exact freshZ (by assumption) (by assumption) (by k_mem) (by walk_at "my nes"))
  k_with "my ret1" => ((refine' ret1 (by assumption) ?r1_r12 ?r2_r12 ?r3_r12; (case r2_r12 => walk_at "my fresh"); (case r1_r12 => walk_at "my keep")))
  k_with "my len" => (first | with_reducible assumption | with_reducible exact Nat.le_of_eq (two_len _) | with_reducible exact Nat.le_of_eq (four_len _) | with_reducible exact Nat.le_of_eq (wdN_len (by assumption)) | with_reducible exact Nat.le_of_eq (moN_len (by assumption)) | with_reducible exact lit_len)
  k_with "my text" => (first | with_reducible exact slice_wd (by assumption) | with_reducible exact slice_mo (by assumption) | with_reducible exact zfill_four (by assumption) | with_reducible exact rfl)
  k_with "binaryOp Add str str" => ((k_here; (refine' add_strE ?e1_r15 ?e2_r15 ?a1_r15 ?a2_r15 ?a3_r15 ?_; (case e1_r15 => walk_at "my text"); (case e2_r15 => walk_at "my text"); (case a1_r15 => walk_at "my len"); (case a2_r15 => walk_at "my len"); (case a3_r15 => omega); intro t'm tk'm ln'm)))
  k_with "inplaceOp Add str str" => ((k_here; (refine' iadd_strE ?e1_r16 ?e2_r16 ?a1_r16 ?a2_r16 ?a3_r16 ?_; (case e1_r16 => walk_at "my text"); (case e2_r16 => walk_at "my text"); (case a1_r16 => walk_at "my len"); (case a2_r16 => walk_at "my len"); (case a3_r16 => omega); intro t'm tk'm ln'm)))
  k_with "execs cons" => ((k_here; (try ((fail_if_success (fail_if_success k_fold)); (refine (let q8 := _; (?_ : PySem.wpAny _ _ _ q8 _ _))))); (with_reducible refine seqA ?_); (refine (let q8 := _; (?_ : PySem.wpAny _ _ _ q8 _ _))); (try ((with_reducible rename Fr _ _ _ (fun _ => _) => lF8); (refine (let lm8 := _; (fun (F' : Fr _ _ _ lm8) => ?_) lF8)); clear lF8))))
  k_with "execs cons" => ((k_here; k_gentoks))
  k_with "execs cons" => ((k_here; k_made; walk_at "execs cons"))
  k_with "eval Call" => ((k_here; (fail_if_success (fail_if_success k_fold)); (refine (let q8 := _; (?_ : PySem.wpAny _ _ _ q8 _ _)))))
  k_with "eval BinOp" => ((k_here; (fail_if_success (fail_if_success k_fold)); (refine (let q8 := _; (?_ : PySem.wpAny _ _ _ q8 _ _)))))
  k_with "eval Subscript" => ((k_here; (fail_if_success (fail_if_success k_fold)); (refine (let q8 := _; (?_ : PySem.wpAny _ _ _ q8 _ _)))))
  k_with "eval Tuple" => ((k_here; (fail_if_success (fail_if_success k_fold)); (refine (let q8 := _; (?_ : PySem.wpAny _ _ _ q8 _ _)))))
  k_with "eval List" => ((k_here; (fail_if_success (fail_if_success k_fold)); (refine (let q8 := _; (?_ : PySem.wpAny _ _ _ q8 _ _)))))
  k_with "eval Compare" => ((k_here; (fail_if_success (fail_if_success k_fold)); (refine (let q8 := _; (?_ : PySem.wpAny _ _ _ q8 _ _)))))
  k_with "call ref" => ((k_here; (fail_if_success (fail_if_success k_fold)); (refine (let q8 := _; (?_ : PySem.wpAny _ _ _ q8 _ _)))))
  k_with "callWith ref" => ((k_here; k_dflt (refine' callA1 ?k1_r37 ?k2_r37 ?_; (case k1_r37 => k_asm); (case k2_r37 => k_is); k_whole)))
  k_with "callWith ref" => ((k_here; k_dflt (refine' callA2 ?k1_r38 ?k2_r38 ?_; (case k1_r38 => k_asm); (case k2_r38 => k_is); k_whole)))
  k_with "isTrue BoolOp" => ((k_here; (fail_if_success (fail_if_success k_fold)); (refine (let q8 := _; (?_ : PySem.wpAny _ _ _ q8 _ _)))))
  k_with "isTrue Compare" => ((k_here; (fail_if_success (fail_if_success k_fold)); (refine (let q8 := _; (?_ : PySem.wpAny _ _ _ q8 _ _)))))
  k_with "isTrue UnaryOp" => ((k_here; (fail_if_success (fail_if_success k_fold)); (refine (let q8 := _; (?_ : PySem.wpAny _ _ _ q8 _ _)))))
  k_with "assign Name" => ((k_here; (fail_if_success (fail_if_success k_fold)); (refine (let q8 := _; (?_ : PySem.wpAny _ _ _ q8 _ _)))))
  k_with "assign Tuple" => ((k_here; (fail_if_success (fail_if_success k_fold)); (refine (let q8 := _; (?_ : PySem.wpAny _ _ _ q8 _ _)))))
  k_with "callWith" => ((k_here; (with_reducible show PySem.wpAny _ _ (PySem.callWith _ (PySem.Value.builtin _) _ _ []) _ _ _); k_dflt (first | refine callM1 ?_ | refine callM2 ?_ | refine callB1 ?_ | refine callB2 ?_); k_whole))
  walk_at "my enterP"
  repeat' (first | ((fail_if_success goal_has PySem.wpAny); (try dsimp only); first | (with_reducible refine seqN ?_) | ((with_reducible refine seqE ?_); (try dsimp only)) | ((with_reducible refine seqR ?_); (try dsimp only)) | ((with_reducible refine seqC ?_); (try dsimp only)) | ((with_reducible refine seqB ?_); (try dsimp only))) | ((fail_if_success (fail_if_success k_unfold)); (try dsimp only); k_unfold; (try dsimp only)) | ((fail_if_success goal_has PySem.wpAny); show PySem.wpAny _ _ _ _ _ _; (try dsimp only)) | walk1 | (dsimp only; walk1) | fail "no step")
  (rename List.map _ _ = _ => hl)
  rw [h3] at hl
  obtain ⟨t1, t2, t3, rfl⟩ := three_of hl
  simp only [strValues, List.map_cons, List.map_nil] at *
  repeat' (first | ((fail_if_success goal_has PySem.wpAny); (try dsimp only); first | (with_reducible refine seqN ?_) | ((with_reducible refine seqE ?_); (try dsimp only)) | ((with_reducible refine seqR ?_); (try dsimp only)) | ((with_reducible refine seqC ?_); (try dsimp only)) | ((with_reducible refine seqB ?_); (try dsimp only))) | ((fail_if_success (fail_if_success k_unfold)); (try dsimp only); k_unfold; (try dsimp only)) | ((fail_if_success goal_has PySem.wpAny); show PySem.wpAny _ _ _ _ _ _; (try dsimp only)) | walk1 | (dsimp only; walk1) | fail "no step")
  walk_at "my ret1"
  exact ⟨_, _, _, _, _, rfl, rfl⟩
theorem dirname_spec {w : World} (x y : Str) (t : Tok) (hx : x.length ≤ 1000) (h1 : ((Txt.slice x none (some (Txt.rfind x (Str.ofString "/") + 1))).length : Int) ≠ 0)
    (h2 : (Txt.slice x none (some (Txt.rfind x (Str.ofString "/") + 1)) != Txt.mul (Str.ofString "/") ((Txt.slice x none (some (Txt.rfind x (Str.ofString "/") + 1))).length : Int)) = true)
    (h3 : Txt.rstripChars (Txt.slice x none (some (Txt.rfind x (Str.ofString "/") + 1))) (Str.ofString "/") = y) : SpecS 2 w 143 [.str x t] [] y x.length := by
  k_with_none
  w_top off
  k_with "my open" => (((try unfold SpecS); (try unfold SpecI); (try unfold SpecB); (try unfold SpecT); unfold Spec; k_fill; intros; refine wpAny_call ?_))
  k_with "my enterP" => ((walk_at "my open"; k_dflt (refine' enterP ?k1_r2 ?k2_r2 ?k3_r2 ?k4_r2 ?k5_r2 ?kA_r2 ?kF_r2 ?kK_r2 ?k6_r2 ?k7_r2 ?k8_r2 ?k9_r2 ?kB_r2 _ ?kL_r2 ?_ ?c2_r2 ?c3_r2 ?c4_r2 ?c5_r2; (case kA_r2 => exact rfl); (case kF_r2 => exact rfl); (case kK_r2 => assumption); (case k1_r2 => k_asm); (case k2_r2 => k_asm); (case k3_r2 => k_asm); (case k4_r2 => k_asm); (case k5_r2 => k_asm); (case k6_r2 => k_is); (case k7_r2 => k_is); (case k8_r2 => ktr_room); (case k9_r2 => exact BindsTo.of_eq rfl); (case c5_r2 => decide); (case kB_r2 => exact locs rfl); (case kL_r2 => exact rfl); (case c2_r2 => exact rfl); (case c3_r2 => exact rfl); (case c4_r2 => exact rfl); k_whole; intro g'm L'm h'm tk'm HG'm F'm N'm B'm X'm T'm l1m; (try k_lt l1m); (try dsimp only); (try k_lift B'm); (try k_unmd); (try k_fold); (try refine (let A9 := _; (?_ : PySem.wpAny _ A9 _ _ _ _))); (try refine (let e9 := _; (?_ : PySem.wpAny _ _ (PySem.execs _ e9) _ _ _))))))
  k_with "my sub" => (first | exact List.forall_mem_nil _ | (refine' List.forall_mem_cons.mpr ⟨?a_r4, ?b_r4⟩; (case a_r4 => k_mem); (case b_r4 => walk_at "my sub")))
  k_with "my keep" => (exact keepZ (by assumption) (by assumption) (by assumption) (by assumption) (by walk_at "my sub"))
  k_with "my retS" => ((refine' retV (by assumption) ?r1_r8 ?r2_r8; (case r1_r8 => walk_at "my keep"); refine ⟨rfl, ⟨_, rfl⟩, ?_⟩))
  k_with "my use" => (((case b1 => k_asm); (case f1 => k_asm); (case x1 => k_asm); (case n1 => k_asm); (case t1 => k_asm); (case kk => first | exact rfl | assumption); (case hd => first | exact room1 (by with_reducible assumption) rfl | omega | ((try dsimp only [A9]); (try dsimp only [Around.deeper]); omega) | (trace_state; ktr_room)); (case hu => first | exact units1 (by with_reducible assumption) rfl | omega | ((try dsimp only [A9]); (try dsimp only [Around.deeper]); omega) | (trace_state; ktr_units)); (case ha => walk_at "my sub")))
  k_with "my len" => (first | with_reducible assumption | with_reducible exact Nat.le_of_eq (two_len _) | with_reducible exact Nat.le_of_eq (four_len _) | with_reducible exact Nat.le_of_eq (wdN_len (by assumption)) | with_reducible exact Nat.le_of_eq (moN_len (by assumption)) | with_reducible exact lit_len)
  k_with "my text" => (first | with_reducible exact slice_wd (by assumption) | with_reducible exact slice_mo (by assumption) | with_reducible exact zfill_four (by assumption) | with_reducible exact rfl)
  k_with "binaryOp Add str str" => ((k_here; (refine' add_strE ?e1_r15 ?e2_r15 ?a1_r15 ?a2_r15 ?a3_r15 ?_; (case e1_r15 => walk_at "my text"); (case e2_r15 => walk_at "my text"); (case a1_r15 => walk_at "my len"); (case a2_r15 => walk_at "my len"); (case a3_r15 => omega); intro t'm tk'm ln'm)))
  k_with "inplaceOp Add str str" => ((k_here; (refine' iadd_strE ?e1_r16 ?e2_r16 ?a1_r16 ?a2_r16 ?a3_r16 ?_; (case e1_r16 => walk_at "my text"); (case e2_r16 => walk_at "my text"); (case a1_r16 => walk_at "my len"); (case a2_r16 => walk_at "my len"); (case a3_r16 => omega); intro t'm tk'm ln'm)))
  k_with "execs cons" => ((k_here; (try ((fail_if_success (fail_if_success k_fold)); (refine (let q8 := _; (?_ : PySem.wpAny _ _ _ q8 _ _))))); (with_reducible refine seqA ?_); (refine (let q8 := _; (?_ : PySem.wpAny _ _ _ q8 _ _))); (try ((with_reducible rename Fr _ _ _ (fun _ => _) => lF8); (refine (let lm8 := _; (fun (F' : Fr _ _ _ lm8) => ?_) lF8)); clear lF8))))
  k_with "execs cons" => ((k_here; k_gentoks))
  k_with "execs cons" => ((k_here; k_made; walk_at "execs cons"))
  k_with "eval Call" => ((k_here; (fail_if_success (fail_if_success k_fold)); (refine (let q8 := _; (?_ : PySem.wpAny _ _ _ q8 _ _)))))
  k_with "eval BinOp" => ((k_here; (fail_if_success (fail_if_success k_fold)); (refine (let q8 := _; (?_ : PySem.wpAny _ _ _ q8 _ _)))))
  k_with "eval Subscript" => ((k_here; (fail_if_success (fail_if_success k_fold)); (refine (let q8 := _; (?_ : PySem.wpAny _ _ _ q8 _ _)))))
  k_with "eval Tuple" => ((k_here; (fail_if_success (fail_if_success k_fold)); (refine (let q8 := _; (?_ : PySem.wpAny _ _ _ q8 _ _)))))
  k_with "eval List" => ((k_here; (fail_if_success (fail_if_success k_fold)); (refine (let q8 := _; (?_ : PySem.wpAny _ _ _ q8 _ _)))))
  k_with "eval Compare" => ((k_here; (fail_if_success (fail_if_success k_fold)); (refine (let q8 := _; (?_ : PySem.wpAny _ _ _ q8 _ _)))))
  k_with "call ref" => ((k_here; (fail_if_success (fail_if_success k_fold)); (refine (let q8 := _; (?_ : PySem.wpAny _ _ _ q8 _ _)))))
  k_with "callWith ref" => ((k_here; k_dflt (refine' callA1 ?k1_r37 ?k2_r37 ?_; (case k1_r37 => k_asm); (case k2_r37 => k_is); k_whole)))
  k_with "callWith ref" => ((k_here; k_dflt (refine' callA2 ?k1_r38 ?k2_r38 ?_; (case k1_r38 => k_asm); (case k2_r38 => k_is); k_whole)))
  k_with "isTrue BoolOp" => ((k_here; (fail_if_success (fail_if_success k_fold)); (refine (let q8 := _; (?_ : PySem.wpAny _ _ _ q8 _ _)))))
  k_with "isTrue Compare" => ((k_here; (fail_if_success (fail_if_success k_fold)); (refine (let q8 := _; (?_ : PySem.wpAny _ _ _ q8 _ _)))))
  k_with "isTrue UnaryOp" => ((k_here; (fail_if_success (fail_if_success k_fold)); (refine (let q8 := _; (?_ : PySem.wpAny _ _ _ q8 _ _)))))
  k_with "assign Name" => ((k_here; (fail_if_success (fail_if_success k_fold)); (refine (let q8 := _; (?_ : PySem.wpAny _ _ _ q8 _ _)))))
  k_with "assign Tuple" => ((k_here; (fail_if_success (fail_if_success k_fold)); (refine (let q8 := _; (?_ : PySem.wpAny _ _ _ q8 _ _)))))
  k_with "callWith" => ((k_here; (with_reducible show PySem.wpAny _ _ (PySem.callWith _ (PySem.Value.builtin _) _ _ []) _ _ _); k_dflt (first | refine callM1 ?_ | refine callM2 ?_ | refine callB1 ?_ | refine callB2 ?_); k_whole))
  k_with "call ref" => (k_here; k_dflt (refine' Spec.use (fspath_spec _ _) ?b1 ?f1 ?x1 ?n1 ?t1 ?kk ?hd ?hu ?ha ?_; walk_at "my use"; k_whole; rintro _ _ h' tk' F' N' lt' ⟨rfl, ⟨t', rfl⟩, ln'⟩; (try dsimp only [List.nil_append] at N'); clear lt'))
  k_with "call ref" => (k_here; k_dflt (refine' Spec.use (get_sep_spec _ _) ?b1 ?f1 ?x1 ?n1 ?t1 ?kk ?hd ?hu ?ha ?_; walk_at "my use"; k_whole; rintro _ _ h' tk' F' N' lt' ⟨rfl, ⟨t', rfl⟩, ln'⟩; (try dsimp only [List.nil_append] at N'); clear lt'))
  walk_at "my enterP"
  repeat' (first | ((fail_if_success goal_has PySem.wpAny); (try dsimp only); first | (with_reducible refine seqN ?_) | ((with_reducible refine seqE ?_); (try dsimp only)) | ((with_reducible refine seqR ?_); (try dsimp only)) | ((with_reducible refine seqC ?_); (try dsimp only)) | ((with_reducible refine seqB ?_); (try dsimp only))) | ((fail_if_success (fail_if_success k_unfold)); (try dsimp only); k_unfold; (try dsimp only)) | ((fail_if_success goal_has PySem.wpAny); show PySem.wpAny _ _ _ _ _ _; (try dsimp only)) | walk1 | (dsimp only; walk1) | fail "no step")
  · (rename (Txt.rstripChars _ _).length ≤ _ => hl1)
    rw [h3] at hl1 ⊢
    walk_at "my retS"
    (rename (Txt.slice _ _ _).length ≤ _ => hl2)
    omega
  all_goals contradiction
theorem splitroot_spec {w : World} (x : Str) (t : Tok) (hx : x.length ≤ 1000) (h1 : (Txt.slice x none (some 1) != Str.ofString "/") = false) (h2 : (Txt.slice x (some 1) (some 2) != Str.ofString "/") = true) :
    Spec 2 w 136 [.str x t] [] (fun r tl => ∃ D n t1 t2 t3, r = .ref D ∧ tl = [(D, tupleO #[.str (Str.ofString "") t1, .str (Str.ofString "/") t2, .str (Txt.slice x (some 1) none) t3] n)]) := by
  k_with_none
  w_top off
  k_with "my open" => (((try unfold SpecS); (try unfold SpecI); (try unfold SpecB); (try unfold SpecT); unfold Spec; k_fill; intros; refine wpAny_call ?_))
  k_with "my enterP" => ((walk_at "my open"; k_dflt (refine' enterP ?k1_r2 ?k2_r2 ?k3_r2 ?k4_r2 ?k5_r2 ?kA_r2 ?kF_r2 ?kK_r2 ?k6_r2 ?k7_r2 ?k8_r2 ?k9_r2 ?kB_r2 _ ?kL_r2 ?_ ?c2_r2 ?c3_r2 ?c4_r2 ?c5_r2; (case kA_r2 => exact rfl); (case kF_r2 => exact rfl); (case kK_r2 => assumption); (case k1_r2 => k_asm); (case k2_r2 => k_asm); (case k3_r2 => k_asm); (case k4_r2 => k_asm); (case k5_r2 => k_asm); (case k6_r2 => k_is); (case k7_r2 => k_is); (case k8_r2 => ktr_room); (case k9_r2 => exact BindsTo.of_eq rfl); (case c5_r2 => decide); (case kB_r2 => exact locs rfl); (case kL_r2 => exact rfl); (case c2_r2 => exact rfl); (case c3_r2 => exact rfl); (case c4_r2 => exact rfl); k_whole; intro g'm L'm h'm tk'm HG'm F'm N'm B'm X'm T'm l1m; (try k_lt l1m); (try dsimp only); (try k_lift B'm); (try k_unmd); (try k_fold); (try refine (let A9 := _; (?_ : PySem.wpAny _ A9 _ _ _ _))); (try refine (let e9 := _; (?_ : PySem.wpAny _ _ (PySem.execs _ e9) _ _ _))))))
  k_with "my sub" => (first | exact List.forall_mem_nil _ | (refine' List.forall_mem_cons.mpr ⟨?a_r4, ?b_r4⟩; (case a_r4 => k_mem); (case b_r4 => walk_at "my sub")))
  k_with "my nes" => (first | exact List.forall_mem_nil _ | (refine' List.forall_mem_cons.mpr ⟨?a_r5, ?b_r5⟩; (case a_r5 => (dsimp only; omega)); (case b_r5 => walk_at "my nes")))
  k_with "my keep" => (exact keepZ (by assumption) (by assumption) (by assumption) (by assumption) (by walk_at "my sub"))
  k_with "my fresh" => (exact freshZ (by assumption) (by assumption) (by k_mem) (by walk_at "my nes"))
  k_with "my use" => (((case b1 => k_asm); (case f1 => k_asm); (case x1 => k_asm); (case n1 => k_asm); (case t1 => k_asm); (case kk => first | exact rfl | assumption); (case hd => first | exact room1 (by with_reducible assumption) rfl | omega | ((try dsimp only [A9]); (try dsimp only [Around.deeper]); omega) | (trace_state; ktr_room)); (case hu => first | exact units1 (by with_reducible assumption) rfl | omega | ((try dsimp only [A9]); (try dsimp only [Around.deeper]); omega) | (trace_state; ktr_units)); (case ha => walk_at "my sub")))
  k_with "my ret1" => ((refine' ret1 (by assumption) ?r1_r12 ?r2_r12 ?r3_r12; (case r2_r12 => walk_at "my fresh"); (case r1_r12 => walk_at "my keep")))
  k_with "my len" => (first | with_reducible assumption | with_reducible exact Nat.le_of_eq (two_len _) | with_reducible exact Nat.le_of_eq (four_len _) | with_reducible exact Nat.le_of_eq (wdN_len (by assumption)) | with_reducible exact Nat.le_of_eq (moN_len (by assumption)) | with_reducible exact lit_len)
  k_with "my text" => (first | with_reducible exact slice_wd (by assumption) | with_reducible exact slice_mo (by assumption) | with_reducible exact zfill_four (by assumption) | with_reducible exact rfl)
  k_with "binaryOp Add str str" => ((k_here; (refine' add_strE ?e1_r15 ?e2_r15 ?a1_r15 ?a2_r15 ?a3_r15 ?_; (case e1_r15 => walk_at "my text"); (case e2_r15 => walk_at "my text"); (case a1_r15 => walk_at "my len"); (case a2_r15 => walk_at "my len"); (case a3_r15 => omega); intro t'm tk'm ln'm)))
  k_with "inplaceOp Add str str" => ((k_here; (refine' iadd_strE ?e1_r16 ?e2_r16 ?a1_r16 ?a2_r16 ?a3_r16 ?_; (case e1_r16 => walk_at "my text"); (case e2_r16 => walk_at "my text"); (case a1_r16 => walk_at "my len"); (case a2_r16 => walk_at "my len"); (case a3_r16 => omega); intro t'm tk'm ln'm)))
  k_with "execs cons" => ((k_here; (try ((fail_if_success (fail_if_success k_fold)); (refine (let q8 := _; (?_ : PySem.wpAny _ _ _ q8 _ _))))); (with_reducible refine seqA ?_); (refine (let q8 := _; (?_ : PySem.wpAny _ _ _ q8 _ _))); (try ((with_reducible rename Fr _ _ _ (fun _ => _) => lF8); (refine (let lm8 := _; (fun (F' : Fr _ _ _ lm8) => ?_) lF8)); clear lF8))))
  k_with "execs cons" => ((k_here; k_gentoks))
  k_with "execs cons" => ((k_here; k_made; walk_at "execs cons"))
  k_with "eval Call" => ((k_here; (fail_if_success (fail_if_success k_fold)); (refine (let q8 := _; (?_ : PySem.wpAny _ _ _ q8 _ _)))))
  k_with "eval BinOp" => ((k_here; (fail_if_success (fail_if_success k_fold)); (refine (let q8 := _; (?_ : PySem.wpAny _ _ _ q8 _ _)))))
  k_with "eval Subscript" => ((k_here; (fail_if_success (fail_if_success k_fold)); (refine (let q8 := _; (?_ : PySem.wpAny _ _ _ q8 _ _)))))
  k_with "eval Tuple" => ((k_here; (fail_if_success (fail_if_success k_fold)); (refine (let q8 := _; (?_ : PySem.wpAny _ _ _ q8 _ _)))))
  k_with "eval List" => ((k_here; (fail_if_success (fail_if_success k_fold)); (refine (let q8 := _; (?_ : PySem.wpAny _ _ _ q8 _ _)))))
  k_with "eval Compare" => ((k_here; (fail_if_success (fail_if_success k_fold)); (refine (let q8 := _; (?_ : PySem.wpAny _ _ _ q8 _ _)))))
  k_with "call ref" => ((k_here; (fail_if_success (fail_if_success k_fold)); (refine (let q8 := _; (?_ : PySem.wpAny _ _ _ q8 _ _)))))
  k_with "callWith ref" => ((k_here; k_dflt (refine' callA1 ?k1_r37 ?k2_r37 ?_; (case k1_r37 => k_asm); (case k2_r37 => k_is); k_whole)))
  k_with "callWith ref" => ((k_here; k_dflt (refine' callA2 ?k1_r38 ?k2_r38 ?_; (case k1_r38 => k_asm); (case k2_r38 => k_is); k_whole)))
  k_with "isTrue BoolOp" => ((k_here; (fail_if_success (fail_if_success k_fold)); (refine (let q8 := _; (?_ : PySem.wpAny _ _ _ q8 _ _)))))
  k_with "isTrue Compare" => ((k_here; (fail_if_success (fail_if_success k_fold)); (refine (let q8 := _; (?_ : PySem.wpAny _ _ _ q8 _ _)))))
  k_with "isTrue UnaryOp" => ((k_here; (fail_if_success (fail_if_success k_fold)); (refine (let q8 := _; (?_ : PySem.wpAny _ _ _ q8 _ _)))))
  k_with "assign Name" => ((k_here; (fail_if_success (fail_if_success k_fold)); (refine (let q8 := _; (?_ : PySem.wpAny _ _ _ q8 _ _)))))
  k_with "assign Tuple" => ((k_here; (fail_if_success (fail_if_success k_fold)); (refine (let q8 := _; (?_ : PySem.wpAny _ _ _ q8 _ _)))))
  k_with "callWith" => ((k_here; (with_reducible show PySem.wpAny _ _ (PySem.callWith _ (PySem.Value.builtin _) _ _ []) _ _ _); k_dflt (first | refine callM1 ?_ | refine callM2 ?_ | refine callB1 ?_ | refine callB2 ?_); k_whole))
  k_with "call ref" => (k_here; k_dflt (refine' Spec.use (fspath_spec _ _) ?b1 ?f1 ?x1 ?n1 ?t1 ?kk ?hd ?hu ?ha ?_; walk_at "my use"; k_whole; rintro _ _ h' tk' F' N' lt' ⟨rfl, ⟨t', rfl⟩, ln'⟩; (try dsimp only [List.nil_append] at N'); clear lt'))
  walk_at "my enterP"
  repeat' (first | ((fail_if_success goal_has PySem.wpAny); (try dsimp only); first | (with_reducible refine seqN ?_) | ((with_reducible refine seqE ?_); (try dsimp only)) | ((with_reducible refine seqR ?_); (try dsimp only)) | ((with_reducible refine seqC ?_); (try dsimp only)) | ((with_reducible refine seqB ?_); (try dsimp only))) | ((fail_if_success (fail_if_success k_unfold)); (try dsimp only); k_unfold; (try dsimp only)) | ((fail_if_success goal_has PySem.wpAny); show PySem.wpAny _ _ _ _ _ _; (try dsimp only)) | walk1 | (dsimp only; walk1) | fail "no step")
  walk_at "my ret1"
  exact ⟨_, _, _, _, _, rfl, rfl⟩

theorem two_of {l : List (Str × Tok)} {a b : Str} (h : l.map (fun x => x.fst) = [a, b]) : ∃ t1 t2, l = [(a, t1), (b, t2)] := by
  match l, h with
  | [(a', t1), (b', t2)], h =>
    simp at h
    obtain ⟨rfl, rfl⟩ := h
    exact ⟨t1, t2, rfl⟩
theorem one_of {l : List (Str × Tok)} {a : Str} (h : l.map (fun x => x.fst) = [a]) : ∃ t1, l = [(a, t1)] := by
  match l, h with
  | [(a', t1)], h =>
    simp at h
    subst h
    exact ⟨t1, rfl⟩
theorem decode2_spec {w : World} (x a b : Str) (t : Tok) (hx : x.length ≤ 1000) (h3 : Txt.splitMax x (Str.ofString "'") 2 = [a, b]) :
    Spec 1 w 35 [.str x t] [] (fun r tl => ∃ D n t1, r = .ref D ∧ tl = [(D, tupleO #[.none, .none, .str x t1] n)]) := by
  k_with_none
  w_top off
  k_with "my open" => (((try unfold SpecS); (try unfold SpecI); (try unfold SpecB); (try unfold SpecT); unfold Spec; k_fill; intros; refine wpAny_call ?_))
  k_with "my enterP" => ((walk_at "my open"; k_dflt (refine' enterP ?k1_r2 ?k2_r2 ?k3_r2 ?k4_r2 ?k5_r2 ?kA_r2 ?kF_r2 ?kK_r2 ?k6_r2 ?k7_r2 ?k8_r2 ?k9_r2 ?kB_r2 _ ?kL_r2 ?_ ?c2_r2 ?c3_r2 ?c4_r2 ?c5_r2; (case kA_r2 => exact rfl); (case kF_r2 => exact rfl); (case kK_r2 => assumption); (case k1_r2 => k_asm); (case k2_r2 => k_asm); (case k3_r2 => k_asm); (case k4_r2 => k_asm); (case k5_r2 => k_asm); (case k6_r2 => k_is); (case k7_r2 => k_is); (case k8_r2 => ktr_room); (case k9_r2 => exact BindsTo.of_eq rfl); (case c5_r2 => decide); (case kB_r2 => exact locs rfl); (case kL_r2 => exact rfl); (case c2_r2 => exact rfl); (case c3_r2 => exact rfl); (case c4_r2 => exact rfl); k_whole; intro g'm L'm h'm tk'm HG'm F'm N'm B'm X'm T'm l1m; (try k_lt l1m); (try dsimp only); (try k_lift B'm); (try k_unmd); (try k_fold); (try refine (let A9 := _; (?_ : PySem.wpAny _ A9 _ _ _ _))); (try refine (let e9 := _; (?_ : PySem.wpAny _ _ (PySem.execs _ e9) _ _ _))))))
  k_with "my sub" => (first | exact List.forall_mem_nil _ | (refine' List.forall_mem_cons.mpr ⟨?a_r4, ?b_r4⟩; (case a_r4 => k_mem); (case b_r4 => walk_at "my sub")))
  k_with "my nes" => (first | exact List.forall_mem_nil _ | (refine' List.forall_mem_cons.mpr ⟨?a_r5, ?b_r5⟩; (case a_r5 => (dsimp only; omega)); (case b_r5 => walk_at "my nes")))
  k_with "my keep" => (exact keepZ (by assumption) (by assumption) (by assumption) (by assumption) (by walk_at "my sub"))
  k_with "my fresh" => (exact freshZ (by assumption) (by assumption) (by k_mem) (by walk_at "my nes"))
  k_with "my ret1" => ((refine' ret1 (by assumption) ?r1_r12 ?r2_r12 ?r3_r12; (case r2_r12 => walk_at "my fresh"); (case r1_r12 => walk_at "my keep")))
  k_with "my len" => (first | with_reducible assumption | with_reducible exact Nat.le_of_eq (two_len _) | with_reducible exact Nat.le_of_eq (four_len _) | with_reducible exact Nat.le_of_eq (wdN_len (by assumption)) | with_reducible exact Nat.le_of_eq (moN_len (by assumption)) | with_reducible exact lit_len)
  k_with "my text" => (first | with_reducible exact slice_wd (by assumption) | with_reducible exact slice_mo (by assumption) | with_reducible exact zfill_four (by assumption) | with_reducible exact rfl)
  k_with "binaryOp Add str str" => ((k_here; (refine' add_strE ?e1_r15 ?e2_r15 ?a1_r15 ?a2_r15 ?a3_r15 ?_; (case e1_r15 => walk_at "my text"); (case e2_r15 => walk_at "my text"); (case a1_r15 => walk_at "my len"); (case a2_r15 => walk_at "my len"); (case a3_r15 => omega); intro t'm tk'm ln'm)))
  k_with "inplaceOp Add str str" => ((k_here; (refine' iadd_strE ?e1_r16 ?e2_r16 ?a1_r16 ?a2_r16 ?a3_r16 ?_; (case e1_r16 => walk_at "my text"); (case e2_r16 => walk_at "my text"); (case a1_r16 => walk_at "my len"); (case a2_r16 => walk_at "my len"); (case a3_r16 => omega); intro t'm tk'm ln'm)))
  k_with "execs cons" => ((k_here; (try ((fail_if_success (fail_if_success k_fold)); (refine (let q8 := _; (?_ : PySem.wpAny _ _ _ q8 _ _))))); (with_reducible refine seqA ?_); (refine (let q8 := _; (?_ : PySem.wpAny _ _ _ q8 _ _))); (try ((with_reducible rename Fr _ _ _ (fun _ => _) => lF8); (refine (let lm8 := _; (fun (F' : Fr _ _ _ lm8) => ?_) lF8)); clear lF8))))
  k_with "execs cons" => ((k_here; k_gentoks))
  k_with "execs cons" => ((k_here; k_made; walk_at "execs cons"))
  k_with "eval Call" => ((k_here; (fail_if_success (fail_if_success k_fold)); (refine (let q8 := _; (?_ : PySem.wpAny _ _ _ q8 _ _)))))
  k_with "eval BinOp" => ((k_here; (fail_if_success (fail_if_success k_fold)); (refine (let q8 := _; (?_ : PySem.wpAny _ _ _ q8 _ _)))))
  k_with "eval Subscript" => ((k_here; (fail_if_success (fail_if_success k_fold)); (refine (let q8 := _; (?_ : PySem.wpAny _ _ _ q8 _ _)))))
  k_with "eval Tuple" => ((k_here; (fail_if_success (fail_if_success k_fold)); (refine (let q8 := _; (?_ : PySem.wpAny _ _ _ q8 _ _)))))
  k_with "eval List" => ((k_here; (fail_if_success (fail_if_success k_fold)); (refine (let q8 := _; (?_ : PySem.wpAny _ _ _ q8 _ _)))))
  k_with "eval Compare" => ((k_here; (fail_if_success (fail_if_success k_fold)); (refine (let q8 := _; (?_ : PySem.wpAny _ _ _ q8 _ _)))))
  k_with "call ref" => ((k_here; (fail_if_success (fail_if_success k_fold)); (refine (let q8 := _; (?_ : PySem.wpAny _ _ _ q8 _ _)))))
  k_with "callWith ref" => ((k_here; k_dflt (refine' callA1 ?k1_r37 ?k2_r37 ?_; (case k1_r37 => k_asm); (case k2_r37 => k_is); k_whole)))
  k_with "callWith ref" => ((k_here; k_dflt (refine' callA2 ?k1_r38 ?k2_r38 ?_; (case k1_r38 => k_asm); (case k2_r38 => k_is); k_whole)))
  k_with "isTrue BoolOp" => ((k_here; (fail_if_success (fail_if_success k_fold)); (refine (let q8 := _; (?_ : PySem.wpAny _ _ _ q8 _ _)))))
  k_with "isTrue Compare" => ((k_here; (fail_if_success (fail_if_success k_fold)); (refine (let q8 := _; (?_ : PySem.wpAny _ _ _ q8 _ _)))))
  k_with "isTrue UnaryOp" => ((k_here; (fail_if_success (fail_if_success k_fold)); (refine (let q8 := _; (?_ : PySem.wpAny _ _ _ q8 _ _)))))
  k_with "assign Name" => ((k_here; (fail_if_success (fail_if_success k_fold)); (refine (let q8 := _; (?_ : PySem.wpAny _ _ _ q8 _ _)))))
  k_with "assign Tuple" => ((k_here; (fail_if_success (fail_if_success k_fold)); (refine (let q8 := _; (?_ : PySem.wpAny _ _ _ q8 _ _)))))
  k_with "callWith" => ((k_here; (with_reducible show PySem.wpAny _ _ (PySem.callWith _ (PySem.Value.builtin _) _ _ []) _ _ _); k_dflt (first | refine callM1 ?_ | refine callM2 ?_ | refine callB1 ?_ | refine callB2 ?_); k_whole))
  walk_at "my enterP"
  repeat' (first | ((fail_if_success goal_has PySem.wpAny); (try dsimp only); first | (with_reducible refine seqN ?_) | ((with_reducible refine seqE ?_); (try dsimp only)) | ((with_reducible refine seqR ?_); (try dsimp only)) | ((with_reducible refine seqC ?_); (try dsimp only)) | ((with_reducible refine seqB ?_); (try dsimp only))) | ((fail_if_success (fail_if_success k_unfold)); (try dsimp only); k_unfold; (try dsimp only)) | ((fail_if_success goal_has PySem.wpAny); show PySem.wpAny _ _ _ _ _ _; (try dsimp only)) | walk1 | (dsimp only; walk1) | fail "no step")
  (rename List.map _ _ = _ => hl)
  rw [h3] at hl
  obtain ⟨t1, t2, rfl⟩ := two_of hl
  simp only [strValues, List.map_cons, List.map_nil] at *
  repeat' (first | ((fail_if_success goal_has PySem.wpAny); (try dsimp only); first | (with_reducible refine seqN ?_) | ((with_reducible refine seqE ?_); (try dsimp only)) | ((with_reducible refine seqR ?_); (try dsimp only)) | ((with_reducible refine seqC ?_); (try dsimp only)) | ((with_reducible refine seqB ?_); (try dsimp only))) | ((fail_if_success (fail_if_success k_unfold)); (try dsimp only); k_unfold; (try dsimp only)) | ((fail_if_success goal_has PySem.wpAny); show PySem.wpAny _ _ _ _ _ _; (try dsimp only)) | walk1 | (dsimp only; walk1) | fail "no step")
  walk_at "my ret1"
  exact ⟨_, _, _, rfl, rfl⟩
theorem decode1_spec {w : World} (x a : Str) (t : Tok) (hx : x.length ≤ 1000) (h3 : Txt.splitMax x (Str.ofString "'") 2 = [a]) :
    Spec 1 w 35 [.str x t] [] (fun r tl => ∃ D n t1, r = .ref D ∧ tl = [(D, tupleO #[.none, .none, .str x t1] n)]) := by
  k_with_none
  w_top off
  k_with "my open" => (((try unfold SpecS); (try unfold SpecI); (try unfold SpecB); (try unfold SpecT); unfold Spec; k_fill; intros; refine wpAny_call ?_))
  k_with "my enterP" => ((walk_at "my open"; k_dflt (refine' enterP ?k1_r2 ?k2_r2 ?k3_r2 ?k4_r2 ?k5_r2 ?kA_r2 ?kF_r2 ?kK_r2 ?k6_r2 ?k7_r2 ?k8_r2 ?k9_r2 ?kB_r2 _ ?kL_r2 ?_ ?c2_r2 ?c3_r2 ?c4_r2 ?c5_r2; (case kA_r2 => exact rfl); (case kF_r2 => exact rfl); (case kK_r2 => assumption); (case k1_r2 => k_asm); (case k2_r2 => k_asm); (case k3_r2 => k_asm); (case k4_r2 => k_asm); (case k5_r2 => k_asm); (case k6_r2 => k_is); (case k7_r2 => k_is); (case k8_r2 => ktr_room); (case k9_r2 => exact BindsTo.of_eq rfl); (case c5_r2 => decide); (case kB_r2 => exact locs rfl); (case kL_r2 => exact rfl); (case c2_r2 => exact rfl); (case c3_r2 => exact rfl); (case c4_r2 => exact rfl); k_whole; intro g'm L'm h'm tk'm HG'm F'm N'm B'm X'm T'm l1m; (try k_lt l1m); (try dsimp only); (try k_lift B'm); (try k_unmd); (try k_fold); (try refine (let A9 := _; (?_ : PySem.wpAny _ A9 _ _ _ _))); (try refine (let e9 := _; (?_ : PySem.wpAny _ _ (PySem.execs _ e9) _ _ _))))))
  k_with "my sub" => (first | exact List.forall_mem_nil _ | (refine' List.forall_mem_cons.mpr ⟨?a_r4, ?b_r4⟩; (case a_r4 => k_mem); (case b_r4 => walk_at "my sub")))
  k_with "my nes" => (first | exact List.forall_mem_nil _ | (refine' List.forall_mem_cons.mpr ⟨?a_r5, ?b_r5⟩; (case a_r5 => (dsimp only; omega)); (case b_r5 => walk_at "my nes")))
  k_with "my keep" => (exact keepZ (by assumption) (by assumption) (by assumption) (by assumption) (by walk_at "my sub"))
  k_with "my fresh" => (exact freshZ (by assumption) (by assumption) (by k_mem) (by walk_at "my nes"))
  k_with "my ret1" => ((refine' ret1 (by assumption) ?r1_r12 ?r2_r12 ?r3_r12; (case r2_r12 => walk_at "my fresh"); (case r1_r12 => walk_at "my keep")))
  k_with "my len" => (first | with_reducible assumption | with_reducible exact Nat.le_of_eq (two_len _) | with_reducible exact Nat.le_of_eq (four_len _) | with_reducible exact Nat.le_of_eq (wdN_len (by assumption)) | with_reducible exact Nat.le_of_eq (moN_len (by assumption)) | with_reducible exact lit_len)
  k_with "my text" => (first | with_reducible exact slice_wd (by assumption) | with_reducible exact slice_mo (by assumption) | with_reducible exact zfill_four (by assumption) | with_reducible exact rfl)
  k_with "binaryOp Add str str" => ((k_here; (refine' add_strE ?e1_r15 ?e2_r15 ?a1_r15 ?a2_r15 ?a3_r15 ?_; (case e1_r15 => walk_at "my text"); (case e2_r15 => walk_at "my text"); (case a1_r15 => walk_at "my len"); (case a2_r15 => walk_at "my len"); (case a3_r15 => omega); intro t'm tk'm ln'm)))
  k_with "inplaceOp Add str str" => ((k_here; (refine' iadd_strE ?e1_r16 ?e2_r16 ?a1_r16 ?a2_r16 ?a3_r16 ?_; (case e1_r16 => walk_at "my text"); (case e2_r16 => walk_at "my text"); (case a1_r16 => walk_at "my len"); (case a2_r16 => walk_at "my len"); (case a3_r16 => omega); intro t'm tk'm ln'm)))
  k_with "execs cons" => ((k_here; (try ((fail_if_success (fail_if_success k_fold)); (refine (let q8 := _; (?_ : PySem.wpAny _ _ _ q8 _ _))))); (with_reducible refine seqA ?_); (refine (let q8 := _; (?_ : PySem.wpAny _ _ _ q8 _ _))); (try ((with_reducible rename Fr _ _ _ (fun _ => _) => lF8); (refine (let lm8 := _; (fun (F' : Fr _ _ _ lm8) => ?_) lF8)); clear lF8))))
  k_with "execs cons" => ((k_here; k_gentoks))
  k_with "execs cons" => ((k_here; k_made; walk_at "execs cons"))
  k_with "eval Call" => ((k_here; (fail_if_success (fail_if_success k_fold)); (refine (let q8 := _; (?_ : PySem.wpAny _ _ _ q8 _ _)))))
  k_with "eval BinOp" => ((k_here; (fail_if_success (fail_if_success k_fold)); (refine (let q8 := _; (?_ : PySem.wpAny _ _ _ q8 _ _)))))
  k_with "eval Subscript" => ((k_here; (fail_if_success (fail_if_success k_fold)); (refine (let q8 := _; (?_ : PySem.wpAny _ _ _ q8 _ _)))))
  k_with "eval Tuple" => ((k_here; (fail_if_success (fail_if_success k_fold)); (refine (let q8 := _; (?_ : PySem.wpAny _ _ _ q8 _ _)))))
  k_with "eval List" => ((k_here; (fail_if_success (fail_if_success k_fold)); (refine (let q8 := _; (?_ : PySem.wpAny _ _ _ q8 _ _)))))
  k_with "eval Compare" => ((k_here; (fail_if_success (fail_if_success k_fold)); (refine (let q8 := _; (?_ : PySem.wpAny _ _ _ q8 _ _)))))
  k_with "call ref" => ((k_here; (fail_if_success (fail_if_success k_fold)); (refine (let q8 := _; (?_ : PySem.wpAny _ _ _ q8 _ _)))))
  k_with "callWith ref" => ((k_here; k_dflt (refine' callA1 ?k1_r37 ?k2_r37 ?_; (case k1_r37 => k_asm); (case k2_r37 => k_is); k_whole)))
  k_with "callWith ref" => ((k_here; k_dflt (refine' callA2 ?k1_r38 ?k2_r38 ?_; (case k1_r38 => k_asm); (case k2_r38 => k_is); k_whole)))
  k_with "isTrue BoolOp" => ((k_here; (fail_if_success (fail_if_success k_fold)); (refine (let q8 := _; (?_ : PySem.wpAny _ _ _ q8 _ _)))))
  k_with "isTrue Compare" => ((k_here; (fail_if_success (fail_if_success k_fold)); (refine (let q8 := _; (?_ : PySem.wpAny _ _ _ q8 _ _)))))
  k_with "isTrue UnaryOp" => ((k_here; (fail_if_success (fail_if_success k_fold)); (refine (let q8 := _; (?_ : PySem.wpAny _ _ _ q8 _ _)))))
  k_with "assign Name" => ((k_here; (fail_if_success (fail_if_success k_fold)); (refine (let q8 := _; (?_ : PySem.wpAny _ _ _ q8 _ _)))))
  k_with "assign Tuple" => ((k_here; (fail_if_success (fail_if_success k_fold)); (refine (let q8 := _; (?_ : PySem.wpAny _ _ _ q8 _ _)))))
  k_with "callWith" => ((k_here; (with_reducible show PySem.wpAny _ _ (PySem.callWith _ (PySem.Value.builtin _) _ _ []) _ _ _); k_dflt (first | refine callM1 ?_ | refine callM2 ?_ | refine callB1 ?_ | refine callB2 ?_); k_whole))
  walk_at "my enterP"
  repeat' (first | ((fail_if_success goal_has PySem.wpAny); (try dsimp only); first | (with_reducible refine seqN ?_) | ((with_reducible refine seqE ?_); (try dsimp only)) | ((with_reducible refine seqR ?_); (try dsimp only)) | ((with_reducible refine seqC ?_); (try dsimp only)) | ((with_reducible refine seqB ?_); (try dsimp only))) | ((fail_if_success (fail_if_success k_unfold)); (try dsimp only); k_unfold; (try dsimp only)) | ((fail_if_success goal_has PySem.wpAny); show PySem.wpAny _ _ _ _ _ _; (try dsimp only)) | walk1 | (dsimp only; walk1) | fail "no step")
  (rename List.map _ _ = _ => hl)
  rw [h3] at hl
  obtain ⟨t1, rfl⟩ := one_of hl
  simp only [strValues, List.map_cons, List.map_nil] at *
  repeat' (first | ((fail_if_success goal_has PySem.wpAny); (try dsimp only); first | (with_reducible refine seqN ?_) | ((with_reducible refine seqE ?_); (try dsimp only)) | ((with_reducible refine seqR ?_); (try dsimp only)) | ((with_reducible refine seqC ?_); (try dsimp only)) | ((with_reducible refine seqB ?_); (try dsimp only))) | ((fail_if_success (fail_if_success k_unfold)); (try dsimp only); k_unfold; (try dsimp only)) | ((fail_if_success goal_has PySem.wpAny); show PySem.wpAny _ _ _ _ _ _; (try dsimp only)) | walk1 | (dsimp only; walk1) | fail "no step")
  walk_at "my ret1"
  exact ⟨_, _, _, rfl, rfl⟩

section
open Builtin.Str
theorem field_pad {c : Percent} {k : Nat} {n : Int} {d : List Nat} (h1 : c.ljust = false) (h2 : c.sign = false) (h3 : c.blank = false) (h4 : c.alt = false) (h5 : c.zero = true) (h6 : c.width = some k) (h7 : c.prec = none) (h8 : c.type = 100) (hn : 0 ≤ n)
    (hd : ∀ x ∈ d, 48 ≤ x) : percentInt c (decide (n < 0)) d = d ∧ percentField c true d = if k ≤ d.length then none else some (padZ k d) := by
  have e1 : percentInt c (decide (n < 0)) d = d := KPc.int_text c h4 (.inl h8) h7 hn d
  refine ⟨e1, ?_⟩
  unfold percentField
  simp only [h1, h2, h3, h4, h5, h6, h7, h8, Option.all_some, Option.all_none]
  by_cases hk : k ≤ d.length
  · simp [hk]
  · simp only [hk, decide_false, Bool.false_and, Bool.false_eq_true, if_false]
    have hne : ∀ r, d ≠ 45 :: r := fun r e => by have := hd 45 (by rw [e]; exact .head _); omega
    have hne' : ∀ r, d ≠ 43 :: r := fun r e => by have := hd 43 (by rw [e]; exact .head _); omega
    simp only [Bool.not_true, Bool.not_false, Bool.and_true, Bool.true_and, Bool.false_eq_true, if_false, if_true]
    match d, hne, hne', hk with
    | [], _, _, hk => simp [padZ]
    | x :: r, hne, hne', hk =>
      have x1 : x ≠ 45 := fun e => hne r (by rw [e])
      have x2 : x ≠ 43 := fun e => hne' r (by rw [e])
      simp [padZ, x1, x2]
theorem pad_wp {M : Model} {A : Around} {E : Value → Shared → Prop} {s : Shared} {β : Type} {Q : β → Shared → Prop} {G1 : Sem β} {G2 : List Nat → Sem β} {c : Percent} {k : Nat} {n : Int} {d : List Nat}
    (h1 : c.ljust = false) (h2 : c.sign = false) (h3 : c.blank = false) (h4 : c.alt = false) (h5 : c.zero = true) (h6 : c.width = some k) (h7 : c.prec = none) (h8 : c.type = 100) (hn : 0 ≤ n)
    (hd : ∀ x ∈ d, 48 ≤ x) (hG : G1 = G2 (percentInt c (decide (n < 0)) d)) (h : wpAny M A (G2 (padZ k d)) Q E s) :
    wpAny M A (match percentField c true (percentInt c (decide (n < 0)) d) with | none => G1 | some laid => G2 laid) Q E s := by
  obtain ⟨e1, e2⟩ := field_pad (k := k) h1 h2 h3 h4 h5 h6 h7 h8 hn hd
  rw [e1] at hG
  rw [e1, e2]
  by_cases hk : k ≤ d.length
  · rw [if_pos hk, hG]
    have : padZ k d = d := by simp [padZ, Nat.sub_eq_zero_of_le hk]
    rw [this] at h
    exact h
  · rw [if_neg hk]
    exact h
end
theorem digits_nat : ∀ k < 100, (Str.ofString (toString ((k : Nat) : Int))).cps.toList.all (fun x => decide (48 ≤ x)) = true := by decide +kernel
theorem digits_ge {n : Int} (h0 : 0 ≤ n) (h1 : n < 100) : ∀ x ∈ (Str.ofString (toString ((n.natAbs : Nat) : Int))).cps.toList, 48 ≤ x := by
  intro x hx
  have := List.all_eq_true.mp (digits_nat n.natAbs (by omega)) x hx
  simpa using this
theorem natAbs_text {n : Int} (h0 : 0 ≤ n) : Str.ofString (toString ((n.natAbs : Nat) : Int)) = Str.ofString (toString n) := by rw [Int.natAbs_of_nonneg h0]
theorem pad_two' {n : Int} (h0 : 0 ≤ n) (h1 : n < 100) : (⟨(padZ 2 (Str.ofString (toString ((n.natAbs : Nat) : Int))).cps.toList).toArray⟩ : Str) = two n := by rw [natAbs_text h0]; exact pad_two h0 h1
section
open Builtin.Str
variable {M : Model} {A : Around} {E : Value → Shared → Prop} {s : Shared} {f : Nat → List Value × Writer × List Nat → Sem (ForInStep (List Value × Writer × List Nat))} {Q : List Value × Writer × List Nat → Shared → Prop}
  {p : List Value} {w : Writer} {r ds : List Nat} {T y z : Str} {N K k x c : Nat} {l : List Nat} {n : Int} {u : Tok}
/-- what a turn of the format's loop does with plain signs, a text, a number, the end -/
structure FmtTurns (M : Model) (A : Around) (E : Value → Shared → Prop) (f : Nat → List Value × Writer × List Nat → Sem (ForInStep (List Value × Writer × List Nat))) : Prop where
  lit : ∀ {x p w r l t R s}, tooLong w.total = false → r.isEmpty = false → r.span (· != 37) = (l, t) → l.isEmpty = false → (l.length == 34) = false → (∀ o, o = none → R (.yield (p, w.add ⟨l.toArray⟩ o, t)) s) → wpAny M A (f x (p, w, r)) R E s
  str : ∀ {x p w r z u R s}, tooLong w.total = false → (∀ o, KPc.Obj o z → R (.yield (p, w.add ⟨z.cps.toList.toArray⟩ o, r)) s) → wpAny M A (f x (.str z u :: p, w, 37 :: 115 :: r)) R E s
  pad2 : ∀ {x c p w r n u R s}, tooLong w.total = false → 0 ≤ n → n < 10000 → (∀ x ∈ (Str.ofString (toString ((n.natAbs : Nat) : Int))).cps.toList, 48 ≤ x) → (∀ o k, o = none → R (.yield (p, w.add ⟨(padZ 2 (Str.ofString (toString ((n.natAbs : Nat) : Int))).cps.toList).toArray⟩ o, c :: r)) { s with toks := k }) → wpAny M A (f x (.int n u :: p, w, 37 :: 48 :: 50 :: 100 :: c :: r)) R E s
  pad4 : ∀ {x c p w r n u R s}, tooLong w.total = false → 0 ≤ n → n < 10000 → (∀ x ∈ (Str.ofString (toString ((n.natAbs : Nat) : Int))).cps.toList, 48 ≤ x) → (∀ o k, o = none → R (.yield (p, w.add ⟨(padZ 4 (Str.ofString (toString ((n.natAbs : Nat) : Int))).cps.toList).toArray⟩ o, c :: r)) { s with toks := k }) → wpAny M A (f x (.int n u :: p, w, 37 :: 48 :: 52 :: 100 :: c :: r)) R E s
  fin : ∀ {x p w R s}, tooLong w.total = false → R (.done (p, w, [])) s → wpAny M A (f x (p, w, [])) R E s
theorem short_of (g : KPc.Good w T N) (hN : N ≤ 16777216) : tooLong w.total = false := Bool.eq_false_iff.mpr (KPc.short_good g hN)
theorem tLit {t : List Nat} (P : FmtTurns M A E f) (g : KPc.Good w T N) (hN : N ≤ 16777216) (hs : r.span (· != 37) = (ds, t)) (hr : r.isEmpty = false) (hd : ds.isEmpty = false) (hl : (ds.length == 34) = false) (hy : (⟨ds.toArray⟩ : Str) = y) (hk : y.length ≤ K)
    (h : ∀ w', KPc.Good w' (T ++ y) (N + K) → wpAny M A (forIn l (p, w', t) f) Q E s) : wpAny M A (forIn (x :: l) (p, w, r) f) Q E s :=
  KPc.turn (P.lit (short_of g hN) hr hs hd hl fun _ ho => h _ (by subst hy ho; exact KPc.good_mono (KPc.good_add g (KPc.obj_none rfl)) (Nat.add_le_add_left hk _)))
theorem tStr (P : FmtTurns M A E f) (g : KPc.Good w T N) (hN : N ≤ 16777216) (hk : z.length ≤ K) (h : ∀ w', KPc.Good w' (T ++ z) (N + K) → wpAny M A (forIn l (p, w', r) f) Q E s) : wpAny M A (forIn (x :: l) (.str z u :: p, w, 37 :: 115 :: r) f) Q E s :=
  KPc.turn (P.str (short_of g hN) fun _ ho => KPc.after_str g hk ho h)
theorem tPad2 (P : FmtTurns M A E f) (g : KPc.Good w T N) (hN : N ≤ 16777216) (h0 : 0 ≤ n) (h1 : n < 100) (h : ∀ k w', KPc.Good w' (T ++ two n) (N + 2) → wpAny M A (forIn l (p, w', c :: r) f) Q E { s with toks := k }) : wpAny M A (forIn (x :: l) (.int n u :: p, w, 37 :: 48 :: 50 :: 100 :: c :: r) f) Q E s :=
  KPc.turn (P.pad2 (short_of g hN) h0 (Int.lt_trans h1 (by decide)) (digits_ge h0 h1) fun _ k ho => h k _ (by subst ho; rw [pad_two' h0 h1]; exact KPc.good_mono (KPc.good_add g (KPc.obj_none rfl)) (Nat.add_le_add_left (Nat.le_of_eq (two_len _)) _)))
theorem tPad4 (P : FmtTurns M A E f) (g : KPc.Good w T N) (hN : N ≤ 16777216) (h0 : 0 ≤ n) (h1 : n < 10000) (hd : ∀ x ∈ (Str.ofString (toString ((n.natAbs : Nat) : Int))).cps.toList, 48 ≤ x) (hY : (⟨(padZ 4 (Str.ofString (toString ((n.natAbs : Nat) : Int))).cps.toList).toArray⟩ : Str) = y) (hY4 : y.length ≤ 4)
    (h : ∀ k w', KPc.Good w' (T ++ y) (N + 4) → wpAny M A (forIn l (p, w', c :: r) f) Q E { s with toks := k }) : wpAny M A (forIn (x :: l) (.int n u :: p, w, 37 :: 48 :: 52 :: 100 :: c :: r) f) Q E s :=
  KPc.turn (P.pad4 (short_of g hN) h0 h1 hd fun _ k ho => h k _ (by subst ho; rw [hY]; exact KPc.good_mono (KPc.good_add g (KPc.obj_none rfl)) (Nat.add_le_add_left hY4 _)))
theorem fmt_all {a m z Y : Str} {d y h mi se : Int} {ta tm tz t1 t3 t4 t5 t6 : Tok} (P : FmtTurns M A E f) (g : KPc.Good w Str.empty 0)
    (ha : a.length ≤ 1000) (hm : m.length ≤ 1000) (hz : z.length ≤ 1000) (b1 : 0 ≤ y ∧ y < 10000) (b3 : 0 ≤ d ∧ d < 100) (b4 : 0 ≤ h ∧ h < 100) (b5 : 0 ≤ mi ∧ mi < 100) (b6 : 0 ≤ se ∧ se < 100)
    (hY : (⟨(padZ 4 (Str.ofString (toString ((y.natAbs : Nat) : Int))).cps.toList).toArray⟩ : Str) = Y) (hYl : Y.length ≤ 4) (hYd : ∀ x ∈ (Str.ofString (toString ((y.natAbs : Nat) : Int))).cps.toList, 48 ≤ x)
    (hq : ∀ k w' r, KPc.Good w' (a ++ Str.ofString ", " ++ two d ++ Str.ofString " " ++ m ++ Str.ofString " " ++ Y ++ Str.ofString " " ++ two h ++ Str.ofString ":" ++ two mi ++ Str.ofString ":" ++ two se ++ Str.ofString " " ++ z) 4000 → Q ([], w', r) { s with toks := k }) :
    wpAny M A (forIn (List.range' 0 34 1) ([.str a ta, .int d t3, .str m tm, .int y t1, .int h t4, .int mi t5, .int se t6, .str z tz], w, [37,115,44,32,37,48,50,100,32,37,115,32,37,48,52,100,32,37,48,50,100,58,37,48,50,100,58,37,48,50,100,32,37,115]) f) Q E s := by
  have blank : (⟨#[32]⟩ : Str) = Str.ofString " " := by decide +kernel
  have colon : (⟨#[58]⟩ : Str) = Str.ofString ":" := by decide +kernel
  refine tStr P g (by decide) ha fun w1 g1 => ?_
  rw [KPc.empty_app] at g1
  refine tLit (ds := [44, 32]) P g1 (by decide) rfl rfl rfl rfl (show _ = Str.ofString ", " by decide +kernel) (show _ ≤ 2 by decide +kernel) fun w2 g2 => ?_
  refine tPad2 P g2 (by decide) b3.1 b3.2 fun _ w3 g3 => ?_
  refine tLit (ds := [32]) P g3 (by decide) rfl rfl rfl rfl blank (show _ ≤ 1 by decide +kernel) fun w4 g4 => ?_
  refine tStr P g4 (by decide) hm fun w5 g5 => ?_
  refine tLit (ds := [32]) P g5 (by decide) rfl rfl rfl rfl blank (show _ ≤ 1 by decide +kernel) fun w6 g6 => ?_
  refine tPad4 P g6 (by decide) b1.1 b1.2 hYd hY hYl fun _ w7 g7 => ?_
  refine tLit (ds := [32]) P g7 (by decide) rfl rfl rfl rfl blank (show _ ≤ 1 by decide +kernel) fun w8 g8 => ?_
  refine tPad2 P g8 (by decide) b4.1 b4.2 fun _ w9 g9 => ?_
  refine tLit (ds := [58]) P g9 (by decide) rfl rfl rfl rfl colon (show _ ≤ 1 by decide +kernel) fun w10 g10 => ?_
  refine tPad2 P g10 (by decide) b5.1 b5.2 fun _ w11 g11 => ?_
  refine tLit (ds := [58]) P g11 (by decide) rfl rfl rfl rfl colon (show _ ≤ 1 by decide +kernel) fun w12 g12 => ?_
  refine tPad2 P g12 (by decide) b6.1 b6.2 fun _ w13 g13 => ?_
  refine tLit (ds := [32]) P g13 (by decide) rfl rfl rfl rfl blank (show _ ≤ 1 by decide +kernel) fun w14 g14 => ?_
  refine tStr P g14 (by decide) hz fun w15 g15 => ?_
  exact KPc.turn (P.fin (short_of g15 (by decide)) (hq _ _ _ (KPc.good_mono g15 (by decide))))
end
theorem format_mod {w : World} {A : Around} {s : Shared} {h₀ : Heap} {L b : Addr} {news : List (Addr × Obj)} {E Q : Value → Shared → Prop} {a m z Y : Str} {d y h mi se : Int} {t ta tm tz t1 t3 t4 t5 t6 : Tok} {n : Nat}
    (N : News h₀ L s.heap news) (hb : (b, tupleO #[.str a ta, .int d t3, .str m tm, .int y t1, .int h t4, .int mi t5, .int se t6, .str z tz] n) ∈ news)
    (ha : a.length ≤ 1000) (hm : m.length ≤ 1000) (hz : z.length ≤ 1000) (b1 : 0 ≤ y ∧ y < 10000) (b3 : 0 ≤ d ∧ d < 100) (b4 : 0 ≤ h ∧ h < 100) (b5 : 0 ≤ mi ∧ mi < 100) (b6 : 0 ≤ se ∧ se < 100)
    (hY : (⟨(padZ 4 (Str.ofString (toString ((y.natAbs : Nat) : Int))).cps.toList).toArray⟩ : Str) = Y) (hYl : Y.length ≤ 4) (hYd : ∀ x ∈ (Str.ofString (toString ((y.natAbs : Nat) : Int))).cps.toList, 48 ≤ x)
    (hq : ∀ t' k, Q (.str (a ++ Str.ofString ", " ++ two d ++ Str.ofString " " ++ m ++ Str.ofString " " ++ Y ++ Str.ofString " " ++ two h ++ Str.ofString ":" ++ two mi ++ Str.ofString ":" ++ two se ++ Str.ofString " " ++ z) t') { s with toks := k }) :
    wpAny (model PySem.Challenge.rw_qw0054_01.row.prog w) A (binaryOp .Mod (.str (Str.ofString "%s, %02d %s %04d %02d:%02d:%02d %s") t) (.ref b)) Q E s := by
  obtain ⟨b11, b12⟩ := b1
  obtain ⟨b31, b32⟩ := b3
  obtain ⟨b41, b42⟩ := b4
  obtain ⟨b51, b52⟩ := b5
  obtain ⟨b61, b62⟩ := b6
  k_dflt (refine' KPt.mod_tuple ?kptN ?kptb ?kptF ?kptm ?_; (case kptN => k_asm); (case kptb => exact hb); (case kptF => kpt_eq); skip)
  case kptm =>
    apply KPt.meets_tup
    intro _ _ _ _ _ _ kptH hQ'
    obtain ⟨kptO, kptG, kptC, kptN, kptD⟩ := kptH
    rw [KPt.entry_is_r]
    unfold Builtin.Str.percentFormat
    refine wpAny_bind (wpAny_isInstance (T := "tuple") ⟨kptO, kptG, kptC⟩ KPt.sub_tt ?_)
    refine wpAny_bind (KPt.asStr_ref kptG kptD ?_)
    refine wpAny_bind (KPt.fills_ref ⟨kptO, kptG, kptC⟩ ?_)
    intro _
    kpc_if
    refine wpAny_bind (wpAny_seqItems kptG kptD ?_)
    refine wpAny_bind (wpAny_pure ?_)
    refine wpAny_bind ?_
    rw [KPc.range_list]
    refine KPc.start ?_
    intro _ _
    refine fmt_all ?P (by assumption) ha hm hz ⟨b11, b12⟩ ⟨b31, b32⟩ ⟨b41, b42⟩ ⟨b51, b52⟩ ⟨b61, b62⟩ hY hYl hYd ?fin
    case P =>
      refine ⟨?lit, ?str, ?pad2, ?pad4, ?fi⟩
      case lit =>
        intro _ _ _ _ _ _ _ _ ht hr hs hd hl k
        refine wpAny_ite (KPc.ite_no (fun e => Bool.false_ne_true (ht.symm.trans e)) ?_)
        refine wpAny_ite (KPc.ite_no (fun e => Bool.false_ne_true (hr.symm.trans e)) ?_)
        rw [hs]
        refine wpAny_ite (KPc.ite_yes (by rw [hd]; rfl) ?_)
        exact wpAny_pure (k _ (if_neg fun e => Bool.false_ne_true (hl.symm.trans e)))
      case str =>
        intro _ _ _ _ _ _ _ _ ht k
        refine wpAny_ite (KPc.ite_no (fun e => Bool.false_ne_true (ht.symm.trans e)) ?_)
        (repeat kpc_if)
        refine wpAny_bind ?_; refine wpAny_holding ?_; (repeat kpc_if); kpt_conv; refine wpAny_pure ?_; refine wpAny_pure ?_
        refine k _ fun v e => ?_
        split at e
        · exact ⟨_, (Option.some.inj e).symm⟩
        · cases e
      case fi =>
        intro _ _ _ _ _ ht k
        refine wpAny_ite (KPc.ite_no (fun e => Bool.false_ne_true (ht.symm.trans e)) ?_)
        kpc_if
        exact wpAny_pure k
      all_goals
        intro _ _ _ _ _ _ _ _ _ ht h0 h1 hd k
        refine wpAny_ite (KPc.ite_no (fun e => Bool.false_ne_true (ht.symm.trans e)) ?_)
        (repeat kpc_if)
        refine wpAny_bind ?_; refine wpAny_holding ?_; (repeat kpc_if); kpt_conv
        refine wpAny_bind (wpAny_pure ?_); refine wpAny_pure ?_
        refine pad_wp rfl rfl rfl rfl rfl rfl rfl rfl h0 hd rfl ?_
        refine wpAny_pure ?_
        exact k _ _ rfl
    case fin =>
      intro _ w9 r9 g9
      kpc_if
      refine KPc.finish_ok g9 (by decide) rfl ?_
      exact hQ'
  exact hq

/-- a moment's tuple -/
abbrev momO (y mo d h mi s wd : Int) (t1 t2 t3 t4 t5 t6 t7 : Tok) (n : Nat) : Obj := tupleO #[.int y t1, .int mo t2, .int d t3, .int h t4, .int mi t5, .int s t6, .int wd t7] n
def dateN (y mo d h mi s wd : Int) (z : Str) : Str := wdN wd ++ Str.ofString ", " ++ two d ++ Str.ofString " " ++ (moN mo ++ Str.ofString " " ++ four y ++ Str.ofString " ") ++ Txt.join (Str.ofString ":") [two h, two mi, two s] ++ Str.ofString " " ++ z
def wayN (y mo d h mi s n : Int) : Str := Str.ofString "/mail/" ++ four y ++ Str.ofString "/" ++ two mo ++ Str.ofString "/" ++ two d ++ Str.ofString "/" ++ Txt.join (Str.ofString ".") [two h, two mi, two s] ++ Str.ofString "/o'clock'" ++ two n
theorem join3_len (c : String) (a b d : Int) (hc : (Str.ofString c).length = 1) : (Txt.join (Str.ofString c) [two a, two b, two d]).length = 8 := by
  show (two a ++ Str.ofString c ++ two b ++ Str.ofString c ++ two d).length = 8
  simp only [Str.length_append, two_len, hc]
theorem ofString_len (x : String) (k : Nat) (h : (Str.ofString x).length = k := by decide +kernel) : (Str.ofString x).length = k := h
theorem dateN_len {y mo d h mi s wd : Int} {z : Str} (b2 : 1 ≤ mo ∧ mo ≤ 12) (b7 : 0 ≤ wd ∧ wd < 7) (hz : z.length ≤ 5) : (dateN y mo d h mi s wd z).length ≤ 1000 := by
  unfold dateN
  simp only [Str.length_append, two_len, four_len, wdN_len b7, moN_len b2, join3_len ":" h mi s (by decide +kernel), ofString_len ", " 2, ofString_len " " 1]
  omega
theorem wayN_len {y mo d h mi s n : Int} : (wayN y mo d h mi s n).length = 36 := by
  unfold wayN
  simp only [Str.length_append, two_len, four_len, join3_len "." h mi s (by decide +kernel), ofString_len "/mail/" 6, ofString_len "/" 1, ofString_len "/o'clock'" 9]
theorem date_spec {w : World} (y mo d h mi s wd : Int) (t1 t2 t3 t4 t5 t6 t7 t: Tok) (n : Nat) (z : Str) (D : Addr) (hz : z.length ≤ 5)
   (b1 : y = 7 ∨ y = 97 ∨ y = 1997) (b2 : 1 ≤ mo ∧ mo ≤ 12) (b3 : 1 ≤ d ∧ d < 32) (b4 : 0 ≤ h ∧ h < 24) (b5 : 0 ≤ mi ∧ mi < 60) (b6 : 0 ≤ s ∧ s < 60) (b7 : 0 ≤ wd ∧ wd < 7) :
   SpecS 2 w 235 [.ref D, .str z t] [(D, momO y mo d h mi s wd t1 t2 t3 t4 t5 t6 t7 n)] (dateN y mo d h mi s wd z) 1000 := by
  k_with_none
  w_top off
  k_with "my open" => (((try unfold SpecS); (try unfold SpecI); (try unfold SpecB); (try unfold SpecT); unfold Spec; k_fill; intros; refine wpAny_call ?_))
  k_with "my sub" => (first | exact List.forall_mem_nil _ | (refine' List.forall_mem_cons.mpr ⟨?a_r4, ?b_r4⟩; (case a_r4 => k_mem); (case b_r4 => walk_at "my sub")))
  k_with "my keep" => (exact keepZ (by assumption) (by assumption) (by assumption) (by assumption) (by walk_at "my sub"))
  k_with "my retS" => ((refine' retV (by assumption) ?r1_r8 ?r2_r8; (case r1_r8 => walk_at "my keep"); refine ⟨rfl, ⟨_, rfl⟩, ?_⟩))
  k_with "my use" => (((case b1 => k_asm); (case f1 => k_asm); (case x1 => k_asm); (case n1 => k_asm); (case t1 => k_asm); (case kk => first | exact rfl | assumption); (case hd => first | exact room1 (by with_reducible assumption) rfl | omega | ((try dsimp only [A9]); (try dsimp only [Around.deeper]); omega) | (trace_state; ktr_room)); (case hu => first | exact units1 (by with_reducible assumption) rfl | omega | ((try dsimp only [A9]); (try dsimp only [Around.deeper]); omega) | (trace_state; ktr_units)); (case ha => walk_at "my sub")))
  k_with "my len" => (first | with_reducible assumption | with_reducible exact Nat.le_of_eq (two_len _) | with_reducible exact Nat.le_of_eq (four_len _) | with_reducible exact Nat.le_of_eq (wdN_len (by assumption)) | with_reducible exact Nat.le_of_eq (moN_len (by assumption)) | with_reducible exact lit_len)
  k_with "my text" => (first | with_reducible exact slice_wd (by assumption) | with_reducible exact slice_mo (by assumption) | with_reducible exact zfill_four (by assumption) | with_reducible exact rfl)
  k_with "binaryOp Add str str" => ((k_here; (refine' add_strE ?e1_r15 ?e2_r15 ?a1_r15 ?a2_r15 ?a3_r15 ?_; (case e1_r15 => walk_at "my text"); (case e2_r15 => walk_at "my text"); (case a1_r15 => walk_at "my len"); (case a2_r15 => walk_at "my len"); (case a3_r15 => omega); intro t'm tk'm ln'm)))
  k_with "inplaceOp Add str str" => ((k_here; (refine' iadd_strE ?e1_r16 ?e2_r16 ?a1_r16 ?a2_r16 ?a3_r16 ?_; (case e1_r16 => walk_at "my text"); (case e2_r16 => walk_at "my text"); (case a1_r16 => walk_at "my len"); (case a2_r16 => walk_at "my len"); (case a3_r16 => omega); intro t'm tk'm ln'm)))
  k_with "my entered" => (((case kA => exact rfl); (case kF => exact rfl); (case kK => assumption); (case k1 => k_asm); (case k2 => k_asm); (case k3 => k_asm); (case k4 => k_asm); (case k5 => k_asm); (case k6 => k_is); (case k7 => k_is); (case k8 => ktr_room); (case k9 => exact BindsTo.of_eq rfl); (case c5 => decide); (case kB => exact locs rfl); (case kL => exact rfl); (case c2 => exact rfl); (case c3 => exact rfl); (case c4 => exact rfl); k_whole; intro g'm L'm h'm tk'm HG'm F'm N'm B'm X'm T'm l1m; (try k_lt l1m); (try dsimp only); (try k_lift B'm); (try k_unmd); (try k_fold); (try refine (let A9 := _; (?_ : PySem.wpAny _ A9 _ _ _ _))); (try refine (let e9 := _; (?_ : PySem.wpAny _ _ (PySem.execs _ e9) _ _ _)))))
  k_with "execs cons" => ((k_here; (try ((fail_if_success (fail_if_success k_fold)); (refine (let q8 := _; (?_ : PySem.wpAny _ _ _ q8 _ _))))); (with_reducible refine seqA ?_); (refine (let q8 := _; (?_ : PySem.wpAny _ _ _ q8 _ _))); (try ((with_reducible rename Fr _ _ _ (fun _ => _) => lF8); (refine (let lm8 := _; (fun (F' : Fr _ _ _ lm8) => ?_) lF8)); clear lF8))))
  k_with "execs cons" => ((k_here; k_gentoks))
  k_with "execs cons" => ((k_here; k_made; walk_at "execs cons"))
  k_with "eval Call" => ((k_here; (fail_if_success (fail_if_success k_fold)); (refine (let q8 := _; (?_ : PySem.wpAny _ _ _ q8 _ _)))))
  k_with "eval BinOp" => ((k_here; (fail_if_success (fail_if_success k_fold)); (refine (let q8 := _; (?_ : PySem.wpAny _ _ _ q8 _ _)))))
  k_with "eval Subscript" => ((k_here; (fail_if_success (fail_if_success k_fold)); (refine (let q8 := _; (?_ : PySem.wpAny _ _ _ q8 _ _)))))
  k_with "eval Tuple" => ((k_here; (fail_if_success (fail_if_success k_fold)); (refine (let q8 := _; (?_ : PySem.wpAny _ _ _ q8 _ _)))))
  k_with "eval List" => ((k_here; (fail_if_success (fail_if_success k_fold)); (refine (let q8 := _; (?_ : PySem.wpAny _ _ _ q8 _ _)))))
  k_with "eval Compare" => ((k_here; (fail_if_success (fail_if_success k_fold)); (refine (let q8 := _; (?_ : PySem.wpAny _ _ _ q8 _ _)))))
  k_with "call ref" => ((k_here; (fail_if_success (fail_if_success k_fold)); (refine (let q8 := _; (?_ : PySem.wpAny _ _ _ q8 _ _)))))
  k_with "callWith ref" => ((k_here; k_dflt (refine' callA1 ?k1_r37 ?k2_r37 ?_; (case k1_r37 => k_asm); (case k2_r37 => k_is); k_whole)))
  k_with "callWith ref" => ((k_here; k_dflt (refine' callA2 ?k1_r38 ?k2_r38 ?_; (case k1_r38 => k_asm); (case k2_r38 => k_is); k_whole)))
  k_with "isTrue BoolOp" => ((k_here; (fail_if_success (fail_if_success k_fold)); (refine (let q8 := _; (?_ : PySem.wpAny _ _ _ q8 _ _)))))
  k_with "isTrue Compare" => ((k_here; (fail_if_success (fail_if_success k_fold)); (refine (let q8 := _; (?_ : PySem.wpAny _ _ _ q8 _ _)))))
  k_with "isTrue UnaryOp" => ((k_here; (fail_if_success (fail_if_success k_fold)); (refine (let q8 := _; (?_ : PySem.wpAny _ _ _ q8 _ _)))))
  k_with "assign Name" => ((k_here; (fail_if_success (fail_if_success k_fold)); (refine (let q8 := _; (?_ : PySem.wpAny _ _ _ q8 _ _)))))
  k_with "assign Tuple" => ((k_here; (fail_if_success (fail_if_success k_fold)); (refine (let q8 := _; (?_ : PySem.wpAny _ _ _ q8 _ _)))))
  k_with "callWith" => ((k_here; (with_reducible show PySem.wpAny _ _ (PySem.callWith _ (PySem.Value.builtin _) _ _ []) _ _ _); k_dflt (first | refine callM1 ?_ | refine callM2 ?_ | refine callB1 ?_ | refine callB2 ?_); k_whole))
  k_with "call ref" => (k_here; k_dflt (refine' Spec.use (two_spec _ _ (by constructor <;> omega)) ?b1 ?f1 ?x1 ?n1 ?t1 ?kk ?hd ?hu ?ha ?_; walk_at "my use"; k_whole; rintro _ _ h' tk' F' N' lt' ⟨rfl, ⟨t', rfl⟩, ln'⟩; (try dsimp only [List.nil_append] at N'); clear lt'))
  w_top off; walk_at "my open"; k_dflt (refine' enterP ?k1 ?k2 ?k3 ?k4 ?k5 ?kA ?kF ?kK ?k6 ?k7 ?k8 ?k9 ?kB [(Str.ofString "zone", .str z t), (Str.ofString "moment", .ref D)] ?kL ?_ ?c2 ?c3 ?c4 ?c5; walk_at "my entered")
  repeat' (first | ((fail_if_success goal_has PySem.wpAny); (try dsimp only); first | (with_reducible refine seqN ?_) | ((with_reducible refine seqE ?_); (try dsimp only)) | ((with_reducible refine seqR ?_); (try dsimp only)) | ((with_reducible refine seqC ?_); (try dsimp only)) | ((with_reducible refine seqB ?_); (try dsimp only))) | ((fail_if_success (fail_if_success k_unfold)); (try dsimp only); k_unfold; (try dsimp only)) | ((fail_if_success goal_has PySem.wpAny); show PySem.wpAny _ _ _ _ _ _; (try dsimp only)) | walk1 | (dsimp only; walk1) | fail "no step")
  walk_at "my retS"
  exact dateN_len b2 b7 hz
theorem way_spec {w : World} (y mo d h mi s wd n : Int) (t1 t2 t3 t4 t5 t6 t7 t: Tok) (k : Nat) (D : Addr)
   (b1 : y = 7 ∨ y = 97 ∨ y = 1997) (b2 : 1 ≤ mo ∧ mo ≤ 12) (b3 : 1 ≤ d ∧ d < 32) (b4 : 0 ≤ h ∧ h < 24) (b5 : 0 ≤ mi ∧ mi < 60) (b6 : 0 ≤ s ∧ s < 60) (b8 : 0 ≤ n ∧ n < 100) :
   SpecS 2 w 242 [.ref D, .int n t] [(D, momO y mo d h mi s wd t1 t2 t3 t4 t5 t6 t7 k)] (wayN y mo d h mi s n) 1000 := by
  k_with_none
  w_top off
  k_with "my open" => (((try unfold SpecS); (try unfold SpecI); (try unfold SpecB); (try unfold SpecT); unfold Spec; k_fill; intros; refine wpAny_call ?_))
  k_with "my sub" => (first | exact List.forall_mem_nil _ | (refine' List.forall_mem_cons.mpr ⟨?a_r4, ?b_r4⟩; (case a_r4 => k_mem); (case b_r4 => walk_at "my sub")))
  k_with "my keep" => (exact keepZ (by assumption) (by assumption) (by assumption) (by assumption) (by walk_at "my sub"))
  k_with "my retS" => ((refine' retV (by assumption) ?r1_r8 ?r2_r8; (case r1_r8 => walk_at "my keep"); refine ⟨rfl, ⟨_, rfl⟩, ?_⟩))
  k_with "my use" => (((case b1 => k_asm); (case f1 => k_asm); (case x1 => k_asm); (case n1 => k_asm); (case t1 => k_asm); (case kk => first | exact rfl | assumption); (case hd => first | exact room1 (by with_reducible assumption) rfl | omega | ((try dsimp only [A9]); (try dsimp only [Around.deeper]); omega) | (trace_state; ktr_room)); (case hu => first | exact units1 (by with_reducible assumption) rfl | omega | ((try dsimp only [A9]); (try dsimp only [Around.deeper]); omega) | (trace_state; ktr_units)); (case ha => walk_at "my sub")))
  k_with "my len" => (first | with_reducible assumption | with_reducible exact Nat.le_of_eq (two_len _) | with_reducible exact Nat.le_of_eq (four_len _) | with_reducible exact Nat.le_of_eq (wdN_len (by assumption)) | with_reducible exact Nat.le_of_eq (moN_len (by assumption)) | with_reducible exact lit_len)
  k_with "my text" => (first | with_reducible exact slice_wd (by assumption) | with_reducible exact slice_mo (by assumption) | with_reducible exact zfill_four (by assumption) | with_reducible exact rfl)
  k_with "binaryOp Add str str" => ((k_here; (refine' add_strE ?e1_r15 ?e2_r15 ?a1_r15 ?a2_r15 ?a3_r15 ?_; (case e1_r15 => walk_at "my text"); (case e2_r15 => walk_at "my text"); (case a1_r15 => walk_at "my len"); (case a2_r15 => walk_at "my len"); (case a3_r15 => omega); intro t'm tk'm ln'm)))
  k_with "inplaceOp Add str str" => ((k_here; (refine' iadd_strE ?e1_r16 ?e2_r16 ?a1_r16 ?a2_r16 ?a3_r16 ?_; (case e1_r16 => walk_at "my text"); (case e2_r16 => walk_at "my text"); (case a1_r16 => walk_at "my len"); (case a2_r16 => walk_at "my len"); (case a3_r16 => omega); intro t'm tk'm ln'm)))
  k_with "my entered" => (((case kA => exact rfl); (case kF => exact rfl); (case kK => assumption); (case k1 => k_asm); (case k2 => k_asm); (case k3 => k_asm); (case k4 => k_asm); (case k5 => k_asm); (case k6 => k_is); (case k7 => k_is); (case k8 => ktr_room); (case k9 => exact BindsTo.of_eq rfl); (case c5 => decide); (case kB => exact locs rfl); (case kL => exact rfl); (case c2 => exact rfl); (case c3 => exact rfl); (case c4 => exact rfl); k_whole; intro g'm L'm h'm tk'm HG'm F'm N'm B'm X'm T'm l1m; (try k_lt l1m); (try dsimp only); (try k_lift B'm); (try k_unmd); (try k_fold); (try refine (let A9 := _; (?_ : PySem.wpAny _ A9 _ _ _ _))); (try refine (let e9 := _; (?_ : PySem.wpAny _ _ (PySem.execs _ e9) _ _ _)))))
  k_with "execs cons" => ((k_here; (try ((fail_if_success (fail_if_success k_fold)); (refine (let q8 := _; (?_ : PySem.wpAny _ _ _ q8 _ _))))); (with_reducible refine seqA ?_); (refine (let q8 := _; (?_ : PySem.wpAny _ _ _ q8 _ _))); (try ((with_reducible rename Fr _ _ _ (fun _ => _) => lF8); (refine (let lm8 := _; (fun (F' : Fr _ _ _ lm8) => ?_) lF8)); clear lF8))))
  k_with "execs cons" => ((k_here; k_gentoks))
  k_with "execs cons" => ((k_here; k_made; walk_at "execs cons"))
  k_with "eval Call" => ((k_here; (fail_if_success (fail_if_success k_fold)); (refine (let q8 := _; (?_ : PySem.wpAny _ _ _ q8 _ _)))))
  k_with "eval BinOp" => ((k_here; (fail_if_success (fail_if_success k_fold)); (refine (let q8 := _; (?_ : PySem.wpAny _ _ _ q8 _ _)))))
  k_with "eval Subscript" => ((k_here; (fail_if_success (fail_if_success k_fold)); (refine (let q8 := _; (?_ : PySem.wpAny _ _ _ q8 _ _)))))
  k_with "eval Tuple" => ((k_here; (fail_if_success (fail_if_success k_fold)); (refine (let q8 := _; (?_ : PySem.wpAny _ _ _ q8 _ _)))))
  k_with "eval List" => ((k_here; (fail_if_success (fail_if_success k_fold)); (refine (let q8 := _; (?_ : PySem.wpAny _ _ _ q8 _ _)))))
  k_with "eval Compare" => ((k_here; (fail_if_success (fail_if_success k_fold)); (refine (let q8 := _; (?_ : PySem.wpAny _ _ _ q8 _ _)))))
  k_with "call ref" => ((k_here; (fail_if_success (fail_if_success k_fold)); (refine (let q8 := _; (?_ : PySem.wpAny _ _ _ q8 _ _)))))
  k_with "callWith ref" => ((k_here; k_dflt (refine' callA1 ?k1_r37 ?k2_r37 ?_; (case k1_r37 => k_asm); (case k2_r37 => k_is); k_whole)))
  k_with "callWith ref" => ((k_here; k_dflt (refine' callA2 ?k1_r38 ?k2_r38 ?_; (case k1_r38 => k_asm); (case k2_r38 => k_is); k_whole)))
  k_with "isTrue BoolOp" => ((k_here; (fail_if_success (fail_if_success k_fold)); (refine (let q8 := _; (?_ : PySem.wpAny _ _ _ q8 _ _)))))
  k_with "isTrue Compare" => ((k_here; (fail_if_success (fail_if_success k_fold)); (refine (let q8 := _; (?_ : PySem.wpAny _ _ _ q8 _ _)))))
  k_with "isTrue UnaryOp" => ((k_here; (fail_if_success (fail_if_success k_fold)); (refine (let q8 := _; (?_ : PySem.wpAny _ _ _ q8 _ _)))))
  k_with "assign Name" => ((k_here; (fail_if_success (fail_if_success k_fold)); (refine (let q8 := _; (?_ : PySem.wpAny _ _ _ q8 _ _)))))
  k_with "assign Tuple" => ((k_here; (fail_if_success (fail_if_success k_fold)); (refine (let q8 := _; (?_ : PySem.wpAny _ _ _ q8 _ _)))))
  k_with "callWith" => ((k_here; (with_reducible show PySem.wpAny _ _ (PySem.callWith _ (PySem.Value.builtin _) _ _ []) _ _ _); k_dflt (first | refine callM1 ?_ | refine callM2 ?_ | refine callB1 ?_ | refine callB2 ?_); k_whole))
  k_with "call ref" => (k_here; k_dflt (refine' Spec.use (two_spec _ _ (by constructor <;> omega)) ?b1 ?f1 ?x1 ?n1 ?t1 ?kk ?hd ?hu ?ha ?_; walk_at "my use"; k_whole; rintro _ _ h' tk' F' N' lt' ⟨rfl, ⟨t', rfl⟩, ln'⟩; (try dsimp only [List.nil_append] at N'); clear lt'))
  w_top off; walk_at "my open"; k_dflt (refine' enterP ?k1 ?k2 ?k3 ?k4 ?k5 ?kA ?kF ?kK ?k6 ?k7 ?k8 ?k9 ?kB [(Str.ofString "number", .int n t), (Str.ofString "moment", .ref D)] ?kL ?_ ?c2 ?c3 ?c4 ?c5; walk_at "my entered")
  repeat' (first | ((fail_if_success goal_has PySem.wpAny); (try dsimp only); first | (with_reducible refine seqN ?_) | ((with_reducible refine seqE ?_); (try dsimp only)) | ((with_reducible refine seqR ?_); (try dsimp only)) | ((with_reducible refine seqC ?_); (try dsimp only)) | ((with_reducible refine seqB ?_); (try dsimp only))) | ((fail_if_success (fail_if_success k_unfold)); (try dsimp only); k_unfold; (try dsimp only)) | ((fail_if_success goal_has PySem.wpAny); show PySem.wpAny _ _ _ _ _ _; (try dsimp only)) | walk1 | (dsimp only; walk1) | fail "no step")
  walk_at "my retS"
  exact Nat.le_trans (Nat.le_of_eq wayN_len) (by decide)

theorem year_digits {y : Int} (h : y = 7 ∨ y = 97 ∨ y = 1997) : (⟨(padZ 4 (Str.ofString (toString ((y.natAbs : Nat) : Int))).cps.toList).toArray⟩ : Str) = four y ∧ (∀ x ∈ (Str.ofString (toString ((y.natAbs : Nat) : Int))).cps.toList, 48 ≤ x) ∧ 0 ≤ y ∧ y < 10000 := by
  rcases h with rfl | rfl | rfl <;> decide +kernel
theorem dateN_flat {y mo d h mi s wd : Int} {z : Str} : wdN wd ++ Str.ofString ", " ++ two d ++ Str.ofString " " ++ moN mo ++ Str.ofString " " ++ four y ++ Str.ofString " " ++ two h ++ Str.ofString ":" ++ two mi ++ Str.ofString ":" ++ two s ++ Str.ofString " " ++ z = dateN y mo d h mi s wd z := by
  unfold dateN
  have e : Txt.join (Str.ofString ":") [two h, two mi, two s] = two h ++ Str.ofString ":" ++ two mi ++ Str.ofString ":" ++ two s := rfl
  rw [e]
  simp only [Str.append_assoc]
section
theorem format_spec {w : World} (y mo d h mi s wd : Int) (t1 t2 t3 t4 t5 t6 t7 t: Tok) (n : Nat) (z : Str) (D : Addr) (hz : z.length ≤ 5)
   (b1 : y = 7 ∨ y = 97 ∨ y = 1997) (b2 : 1 ≤ mo ∧ mo ≤ 12) (b3 : 1 ≤ d ∧ d < 32) (b4 : 0 ≤ h ∧ h < 24) (b5 : 0 ≤ mi ∧ mi < 60) (b6 : 0 ≤ s ∧ s < 60) (b7 : 0 ≤ wd ∧ wd < 7) :
   SpecS 1 w 28 [.ref D, .str z t] [(D, momO y mo d h mi s wd t1 t2 t3 t4 t5 t6 t7 n)] (dateN y mo d h mi s wd z) 1000 := by
  k_with_none
  w_top off
  k_with "my open" => (((try unfold SpecS); (try unfold SpecI); (try unfold SpecB); (try unfold SpecT); unfold Spec; k_fill; intros; refine wpAny_call ?_))
  k_with "my sub" => (first | exact List.forall_mem_nil _ | (refine' List.forall_mem_cons.mpr ⟨?a_r4, ?b_r4⟩; (case a_r4 => k_mem); (case b_r4 => walk_at "my sub")))
  k_with "my keep" => (exact keepZ (by assumption) (by assumption) (by assumption) (by assumption) (by walk_at "my sub"))
  k_with "my retS" => ((refine' retV (by assumption) ?r1_r8 ?r2_r8; (case r1_r8 => walk_at "my keep"); refine ⟨rfl, ⟨_, rfl⟩, ?_⟩))
  k_with "my len" => (first | with_reducible assumption | with_reducible exact Nat.le_of_eq (two_len _) | with_reducible exact Nat.le_of_eq (four_len _) | with_reducible exact Nat.le_of_eq (wdN_len (by assumption)) | with_reducible exact Nat.le_of_eq (moN_len (by assumption)) | with_reducible exact lit_len)
  k_with "my text" => (first | with_reducible exact slice_wd (by assumption) | with_reducible exact slice_mo (by assumption) | with_reducible exact zfill_four (by assumption) | with_reducible exact rfl)
  k_with "binaryOp Add str str" => ((k_here; (refine' add_strE ?e1_r15 ?e2_r15 ?a1_r15 ?a2_r15 ?a3_r15 ?_; (case e1_r15 => walk_at "my text"); (case e2_r15 => walk_at "my text"); (case a1_r15 => walk_at "my len"); (case a2_r15 => walk_at "my len"); (case a3_r15 => omega); intro t'm tk'm ln'm)))
  k_with "inplaceOp Add str str" => ((k_here; (refine' iadd_strE ?e1_r16 ?e2_r16 ?a1_r16 ?a2_r16 ?a3_r16 ?_; (case e1_r16 => walk_at "my text"); (case e2_r16 => walk_at "my text"); (case a1_r16 => walk_at "my len"); (case a2_r16 => walk_at "my len"); (case a3_r16 => omega); intro t'm tk'm ln'm)))
  k_with "my entered" => (((case kA => exact rfl); (case kF => exact rfl); (case kK => assumption); (case k1 => k_asm); (case k2 => k_asm); (case k3 => k_asm); (case k4 => k_asm); (case k5 => k_asm); (case k6 => k_is); (case k7 => k_is); (case k8 => ktr_room); (case k9 => exact BindsTo.of_eq rfl); (case c5 => decide); (case kB => exact locs rfl); (case kL => exact rfl); (case c2 => exact rfl); (case c3 => exact rfl); (case c4 => exact rfl); k_whole; intro g'm L'm h'm tk'm HG'm F'm N'm B'm X'm T'm l1m; (try k_lt l1m); (try dsimp only); (try k_lift B'm); (try k_unmd); (try k_fold); (try refine (let A9 := _; (?_ : PySem.wpAny _ A9 _ _ _ _))); (try refine (let e9 := _; (?_ : PySem.wpAny _ _ (PySem.execs _ e9) _ _ _)))))
  k_with "execs cons" => ((k_here; (try ((fail_if_success (fail_if_success k_fold)); (refine (let q8 := _; (?_ : PySem.wpAny _ _ _ q8 _ _))))); (with_reducible refine seqA ?_); (refine (let q8 := _; (?_ : PySem.wpAny _ _ _ q8 _ _))); (try ((with_reducible rename Fr _ _ _ (fun _ => _) => lF8); (refine (let lm8 := _; (fun (F' : Fr _ _ _ lm8) => ?_) lF8)); clear lF8))))
  k_with "execs cons" => ((k_here; k_gentoks))
  k_with "execs cons" => ((k_here; k_made; walk_at "execs cons"))
  k_with "eval Call" => ((k_here; (fail_if_success (fail_if_success k_fold)); (refine (let q8 := _; (?_ : PySem.wpAny _ _ _ q8 _ _)))))
  k_with "eval BinOp" => ((k_here; (fail_if_success (fail_if_success k_fold)); (refine (let q8 := _; (?_ : PySem.wpAny _ _ _ q8 _ _)))))
  k_with "eval Subscript" => ((k_here; (fail_if_success (fail_if_success k_fold)); (refine (let q8 := _; (?_ : PySem.wpAny _ _ _ q8 _ _)))))
  k_with "eval Tuple" => ((k_here; (fail_if_success (fail_if_success k_fold)); (refine (let q8 := _; (?_ : PySem.wpAny _ _ _ q8 _ _)))))
  k_with "eval List" => ((k_here; (fail_if_success (fail_if_success k_fold)); (refine (let q8 := _; (?_ : PySem.wpAny _ _ _ q8 _ _)))))
  k_with "eval Compare" => ((k_here; (fail_if_success (fail_if_success k_fold)); (refine (let q8 := _; (?_ : PySem.wpAny _ _ _ q8 _ _)))))
  k_with "call ref" => ((k_here; (fail_if_success (fail_if_success k_fold)); (refine (let q8 := _; (?_ : PySem.wpAny _ _ _ q8 _ _)))))
  k_with "callWith ref" => ((k_here; k_dflt (refine' callA1 ?k1_r37 ?k2_r37 ?_; (case k1_r37 => k_asm); (case k2_r37 => k_is); k_whole)))
  k_with "callWith ref" => ((k_here; k_dflt (refine' callA2 ?k1_r38 ?k2_r38 ?_; (case k1_r38 => k_asm); (case k2_r38 => k_is); k_whole)))
  k_with "isTrue BoolOp" => ((k_here; (fail_if_success (fail_if_success k_fold)); (refine (let q8 := _; (?_ : PySem.wpAny _ _ _ q8 _ _)))))
  k_with "isTrue Compare" => ((k_here; (fail_if_success (fail_if_success k_fold)); (refine (let q8 := _; (?_ : PySem.wpAny _ _ _ q8 _ _)))))
  k_with "isTrue UnaryOp" => ((k_here; (fail_if_success (fail_if_success k_fold)); (refine (let q8 := _; (?_ : PySem.wpAny _ _ _ q8 _ _)))))
  k_with "assign Name" => ((k_here; (fail_if_success (fail_if_success k_fold)); (refine (let q8 := _; (?_ : PySem.wpAny _ _ _ q8 _ _)))))
  k_with "assign Tuple" => ((k_here; (fail_if_success (fail_if_success k_fold)); (refine (let q8 := _; (?_ : PySem.wpAny _ _ _ q8 _ _)))))
  k_with "callWith" => ((k_here; (with_reducible show PySem.wpAny _ _ (PySem.callWith _ (PySem.Value.builtin _) _ _ []) _ _ _); k_dflt (first | refine callM1 ?_ | refine callM2 ?_ | refine callB1 ?_ | refine callB2 ?_); k_whole))
  k_with "binaryOp Mod str ref" => ((k_here; k_dflt (refine' format_mod ?N_r48 ?hb_r48 (Nat.le_trans (Nat.le_of_eq (wdN_len ?w7_r48)) (by decide)) (Nat.le_trans (Nat.le_of_eq (moN_len ?m2_r48)) (by decide)) ?hz_r48 ?b1_r48 ?b3_r48 ?b4_r48 ?b5_r48 ?b6_r48 (year_digits ?y1_r48).1 (Nat.le_of_eq (four_len _)) (year_digits ?y1_r48).2.1 ?_; (case N_r48 => k_asm); (case hb_r48 => exact List.Mem.head _); (case w7_r48 => assumption); (case m2_r48 => assumption); (case y1_r48 => assumption); (case hz_r48 => omega); (case b1_r48 => constructor <;> omega); (case b3_r48 => constructor <;> omega); (case b4_r48 => constructor <;> omega); (case b5_r48 => constructor <;> omega); (case b6_r48 => constructor <;> omega); k_whole; intro t'm k'm)))
  k_with "table" => skip
  w_top off; walk_at "my open"; k_dflt (refine' enterP ?k1 ?k2 ?k3 ?k4 ?k5 ?kA ?kF ?kK ?k6 ?k7 ?k8 ?k9 ?kB [(Str.ofString "zone", .str z t), (Str.ofString "timetuple", .ref D)] ?kL ?_ ?c2 ?c3 ?c4 ?c5; walk_at "my entered")
  repeat' (first | ((fail_if_success goal_has PySem.wpAny); (try dsimp only); first | (with_reducible refine seqN ?_) | ((with_reducible refine seqE ?_); (try dsimp only)) | ((with_reducible refine seqR ?_); (try dsimp only)) | ((with_reducible refine seqC ?_); (try dsimp only)) | ((with_reducible refine seqB ?_); (try dsimp only))) | ((fail_if_success (fail_if_success k_unfold)); (try dsimp only); k_unfold; (try dsimp only)) | ((fail_if_success goal_has PySem.wpAny); show PySem.wpAny _ _ _ _ _ _; (try dsimp only)) | walk1 | (dsimp only; walk1) | fail "no step")
  rw [dateN_flat]
  walk_at "my retS"
  exact dateN_len b2 b7 hz
end

/-- a tree that only looks up what is written out and makes one object -/
theorem one_made {α : Type} {K : Frag} {M : Model} {A : Around} {E : Value → Shared → Prop} {Q : α → Shared → Prop} {s : Shared} {o : Obj} {r : α} (X : K.In s.heap) (hq : Q r { s with heap := s.heap.push o }) :
    ∀ (t : Sem α) (g : Addr → Option α), peek1 K ⟨M.prog, M.w.params⟩ t = some (o, g) → g s.heap.objs.size = some r → wpAny M A t Q E s := by
  intro t
  induction t with
  | rule _ k ih => exact fun g e hg Γ p hΓ => ih () g e hg Γ p hΓ
  | point _ k ih => exact fun g e hg Γ p hΓ => ih () g e hg Γ p hΓ
  | ask k ih => exact fun g e hg Γ p hΓ => ih _ g e hg Γ p hΓ
  | load a _ k ih =>
    intro g e hg Γ p hΓ
    cases ho : K.lookup a with
    | none => simp only [peek1, ho] at e; cases e
    | some ob =>
      simp only [peek1, ho] at e
      exact ⟨ob, X _ _ ho, ih ob g e hg Γ p hΓ⟩
  | alloc ob k _ =>
    intro g e hg
    have e : some (ob, fun D => peek K ⟨M.prog, M.w.params⟩ (k D)) = some (o, g) := e
    obtain ⟨e1, e2⟩ := Prod.mk.inj (Option.some.inj e)
    subst e1
    subst e2
    exact wpAny_bind (wpAny_alloc ((Looks.of_peek (M := M) (h := s.heap.push ob) (X.keeps fun b x hb => Heap.get?_push_of_some _ hb) hg).here (s := { s with heap := s.heap.push ob }) hq))
  | _ => intro g e; cases e
section
variable {w : World} {A₀ A : Around} {s : Shared} {base h₀ : Heap} {outer : List Env} {L : Addr} {m : Str → Option Value} {env : Env} {arg : List (Addr × Obj)} {K : Frag} {mean : ExcName → Option Value} {mg mb : Str → Option Value}
  {R : Result → Shared → Prop} {name qual : Str} {params : Arguments} {body : List Stmt} {scope : Scope} {dV kV doc pm cdv ct oc : Value} {an od : Option Addr} {osl : Array (Option Value)} {f : Addr} {args : Args} {p : Program} {loose : List Str} {prog : Program}
/-- the entry of a def with a star parameter: the tuple of the rest is made first -/
theorem enterR {vs : List Value} {g₁ : Addr → Option (List (Str × Value))} {binds : Addr → List (Str × Value)}
    (B : Below A₀ base outer h₀) (F : Fr h₀ L s.heap m) (X₀ : K.In h₀) (N : News h₀ L s.heap arg) (T : Top p loose mean mg mb h₀) (hA : A.frames = some (env :: outer)) (hf : env.frame = some L) (hke : env.scope.kind = .function)
    (ho : K.lookup f = some ⟨oc, od, .func (fnOf name qual params body scope dV kV doc pm an cdv ct), osl⟩) (hcd : codeIn K cdv qual = true) (hroom : A.depth < recursionLimit)
    (hp : peek1 K ⟨prog, w.params⟩ (bindArgs (fnOf name qual params body scope dV kV doc pm an cdv ct) args) = some (({ cls := .type "tuple", data := .seq vs.toArray } : Obj), g₁))
    (hg : ∀ D, g₁ D = some (binds D)) (hloc : ∀ D, ∀ y ∈ binds D, scope.names.lookup y.1 = some .local) (bl : Addr → List (Str × Value)) (hbl : ∀ D, (binds D).reverse = bl D)
    (h : ∀ D g L' h₁ tk, (∀ p ∈ arg, p.1 < D) → (∀ b o, s.heap.get? b = some o → (∀ p ∈ arg, p.1 ≠ b) → g.get? b = some o) → Fr g L' h₁ (fun y => (bl D).lookup y) → News g L' h₁ ((D, ({ cls := .type "tuple", data := .seq vs.toArray } : Obj)) :: arg) → Below A base (env :: outer) g → K.In g → Top p loose mean mg mb g →
      wpAny (model prog w) (A.deeper (envOf qual scope L' f cdv)) (execs body (envOf qual scope L' f cdv))
        (fun fl s' => LeaveK h₀ L m g R (match fl with | .ret v => v | _ => .none) s')
        (fun e s' => wpAny (model prog w) (A.deeper (envOf qual scope L' f cdv)) (leaving (envOf qual scope L' f cdv) e) (fun _ s'' => R (.error e) s'') (fun e' s'' => R (.error e') s'') s')
        { s with heap := h₁, toks := tk })
    (hco : scope.isCoroutine = false) (hgen : scope.isGenerator = false) (hk : scope.kind = .function)
    (hcell : ∀ x ∈ scope.names, x.2 ≠ .cell) : codeAny (model prog w) A (.call (.ref f) args) R s := by
  refine codeAny_call_function (fd := fnOf name qual params body scope dV kV doc pm an cdv ct) (body := body) hroom ((X₀.keeps F.keep) _ _ ho) rfl hco hgen rfl (codeRec_of (X₀.keeps F.keep) hcd) ?_
  refine one_made (r := binds s.heap.objs.size) (X₀.keeps F.keep) ?_ _ g₁ hp (hg _)
  have F' := F.push ({ cls := .type "tuple", data := .seq vs.toArray } : Obj)
  have N' := News.push F N ({ cls := .type "tuple", data := .seq vs.toArray } : Obj) rfl
  obtain ⟨g, g1, g2, g3, g4, BG, st, lv⟩ := ground (R := R) (s := { s with heap := s.heap.push { cls := .type "tuple", data := .seq vs.toArray } }) B F' N' hA hf hke
  refine wpAny_newFunctionEnv hcell (hloc _) (fun h₁ hns hsb => ⟨(T.nolimit.keeps F'.keep).fresh _ hsb, codeAny_func ?_⟩) hk
  have hk₁ : ∀ b o, (s.heap.push { cls := .type "tuple", data := .seq vs.toArray }).get? b = some o → h₁.get? b = some o := fun b o e => hsb.extBut b o (Nat.ne_of_lt (Heap.lt_size e)) (Heap.get?_push_of_some _ e)
  rw [hbl] at hns
  refine wpAny_mono (h s.heap.objs.size g _ h₁ _ (fun p hp => Heap.lt_size (N p hp).1) (fun b o e hn => g1 b o (Heap.get?_push_of_some _ e) fun p hp => ?_) ⟨hns, fun b o e => hk₁ b o (g2 b o e), Nat.le_of_eq g3⟩
    (fun p hp => ⟨hk₁ _ _ (N' p hp).1, Nat.ne_of_lt (Heap.lt_size (N' p hp).1), g4 p hp⟩) BG (X₀.keeps st) (T.keeps st)) (fun fl s' hl => lv _ _ hl) fun _ _ y => y
  rcases List.mem_cons.mp hp with rfl | hp
  · intro e'
    have e1 : s.heap.objs.size = b := e'
    exact absurd (Heap.lt_size e) (by rw [← e1]; exact Nat.lt_irrefl _)
  · exact hn p hp
end
section
variable {prog : Program} {w : World} {A : Around} {E : Value → Shared → Prop} {s : Shared} {h₀ : Heap} {L : Addr} {m : Str → Option Value} {news : List (Addr × Obj)} {x y : Str} {t u : Tok} {Q : Value → Shared → Prop} {as : List Str}
theorem splitE (hs : Txt.split x y = as) (hF : Fr h₀ L s.heap m) (hN : News h₀ L s.heap news) (hy : (y.length == 0) = false) (hz : x.length + 2 ≤ sizeLine)
    (h : ∀ D l h' k, l.map (·.1) = as → Fr h₀ L h' m → News h₀ L h' ((D, listOf (strValues l).toArray 0) :: news) → (∀ p ∈ news, p.1 < D) → Q (.ref D) { s with heap := h', toks := k }) :
    wpAny (model prog w) A (call (.builtin "str.split") [.str x t, .str y u]) Q E s :=
  KSpl.split1 hF hN hy (fun D l h' k e _ F N lt => h D l h' k (e.trans hs) F N lt) hz
end
section
variable {prog : Program} {w : World} {A : Around} {E : Value → Shared → Prop} {s : Shared} {h₀ : Heap} {L : Addr} {m : Str → Option Value} {news : List (Addr × Obj)} {x y : Str} {t u : Tok}
theorem truthyT {Q : Bool → Shared → Prop} (h : x.length ≠ 0) (hk : x.length ≤ 100000) (hq : ∀ k, Q true { s with toks := k }) : wpAny (model prog w) A (truthy (.str x t)) Q E s := by
  refine P.truthy_str (by omega) ?_
  have e : ((x.length : Int) != 0) = true := by simpa using h
  rw [e]
  exact hq _
theorem truthyF {Q : Bool → Shared → Prop} (h : x.length = 0) (hq : ∀ k, Q false { s with toks := k }) : wpAny (model prog w) A (truthy (.str x t)) Q E s := by
  refine P.truthy_str (by omega) ?_
  have e : ((x.length : Int) != 0) = false := by simpa using h
  rw [e]
  exact hq _
variable {Q : Value → Shared → Prop}
theorem eqF (h : (x == y) = false) (hq : Q (.bool false) s) : wpAny (model prog w) A (compareOp .Eq (.str x t) (.str y u)) Q E s := PyProof.Rows.eq_str (by rw [h]; exact hq)
theorem eqT (h : (x == y) = true) (hq : Q (.bool true) s) : wpAny (model prog w) A (compareOp .Eq (.str x t) (.str y u)) Q E s := PyProof.Rows.eq_str (by rw [h]; exact hq)
theorem neT (h : (x == y) = false) (hq : Q (.bool true) s) : wpAny (model prog w) A (compareOp .NotEq (.str x t) (.str y u)) Q E s := PyProof.Rows.ne_str (by rw [bne, h]; exact hq)
theorem neF (h : (x == y) = true) (hq : Q (.bool false) s) : wpAny (model prog w) A (compareOp .NotEq (.str x t) (.str y u)) Q E s := PyProof.Rows.ne_str (by rw [bne, h]; exact hq)
/-- the two ways of a comparison -/
theorem neB (h1 : (x == y) = false → Q (.bool true) s) (h2 : x = y → Q (.bool false) s) : wpAny (model prog w) A (compareOp .NotEq (.str x t) (.str y u)) Q E s := by
  cases e : (x == y) with
  | false => exact neT e (h1 e)
  | true => exact neF e (h2 (by simpa using e))
theorem joinE {D : Addr} {items : Array Value} {ys : List Str} (hl : s.heap.IsList D items) (hi : StrsAre items.toList ys) (hsep : x.length ≤ 4) (hw : (ys.map (·.length)).sum + ys.length ≤ 20000)
    (h : ∀ t' k, (Txt.join x ys).length ≤ 80000 → Q (.str (Txt.join x ys) t') { s with toks := k }) : wpAny (model prog w) A (call (.builtin "str.join") [.str x t, .ref D]) Q E s :=
  join_listW hl hi (Nat.le_trans hsep (by decide)) (Nat.le_trans hw (by decide)) fun t' k => h t' k (len_join_le (n := 19999) hw hsep)
end
/-- a part of a path: a name, neither empty nor one of the two dotted ones -/
structure Plain (a : Str) : Prop where
  ne : a.length ≠ 0
  le : a.length ≤ 1000
  dot : (a == Str.ofString ".") = false
  dots : (a == Str.ofString "..") = false
section
variable {h' : Heap} {s : Shared} {Q : Value → Shared → Prop} {t : Tok} {tk : Nat} {x y : Str} {k : Nat}
theorem retSE (hret : ∀ (r : Value) (tl : List (Addr × Obj)) (h' : Heap) (tk' : Nat), (∀ b o, s.heap.get? b = some o → h'.get? b = some o) → (∀ p ∈ tl, h'.get? p.1 = some p.2 ∧ s.heap.get? p.1 = none) → (tl = [] ∧ (∃ t, r = .str x t) ∧ x.length ≤ k) → Q r { s with heap := h', toks := tk' })
    (hk : ∀ b o, s.heap.get? b = some o → h'.get? b = some o) (e : y = x) (hl : x.length ≤ k) : Q (.str y t) { s with heap := h', toks := tk } := hret _ [] _ _ hk (fun _ h => nomatch h) ⟨rfl, ⟨_, by rw [e]⟩, hl⟩
theorem retTE (hret : ∀ (r : Value) (tl : List (Addr × Obj)) (h' : Heap) (tk' : Nat), (∀ b o, s.heap.get? b = some o → h'.get? b = some o) → (∀ p ∈ tl, h'.get? p.1 = some p.2 ∧ s.heap.get? p.1 = none) → (tl = [] ∧ ∃ t, r = .str x t) → Q r { s with heap := h', toks := tk' })
    (hk : ∀ b o, s.heap.get? b = some o → h'.get? b = some o) (e : y = x) : Q (.str y t) { s with heap := h', toks := tk } := hret _ [] _ _ hk (fun _ h => nomatch h) ⟨rfl, ⟨_, by rw [e]⟩⟩
end
/-- a text comes back, nothing is made for it, its length is not told -/
abbrev SpecT (d : Nat) (w : World) (f : Addr) (vs : List Value) (arg : List (Addr × Obj)) (x : Str) : Prop := Spec d w f vs arg (fun r tl => tl = [] ∧ ∃ t, r = .str x t)

theorem cps_len (x : Str) : x.cps.toList.length = x.length := Array.length_toList
theorem toList_app (x y : Str) : (x ++ y).cps.toList = x.cps.toList ++ y.cps.toList := by rw [Str.cps_append, Array.toList_append]
theorem ends_app1 {x y : Str} (hy : y.length ≠ 0) : Txt.endswith (x ++ y) (Str.ofString "/") = Txt.endswith y (Str.ofString "/") := by
  have l1 : (Str.ofString "/").length = 1 := by decide +kernel
  unfold Txt.endswith
  rw [StrLaws.subAt_eq, StrLaws.subAt_eq, Str.length_append, l1, toList_app]
  have e : x.length + y.length - 1 = x.cps.toList.length + (y.length - 1) := by rw [cps_len]; omega
  rw [e, List.drop_append]
  have h1 : decide (0 + 1 ≤ x.length + y.length) = true := decide_eq_true (by omega)
  have h2 : decide (0 + 1 ≤ y.length) = true := decide_eq_true (by omega)
  rw [h1, h2, List.drop_of_length_le (by omega : x.cps.toList.length ≤ x.cps.toList.length + (y.length - 1)), List.nil_append, Nat.add_sub_cancel_left]
/-- a part that is put to a path -/
structure Part (a : Str) : Prop where
  ne : a.length ≠ 0
  le : a.length ≤ 1000
  st : Txt.startswith a (Str.ofString "/") = false
  en : Txt.endswith a (Str.ofString "/") = false
theorem Part.after {x y : Str} (h : Part y) : Txt.endswith (x ++ (Str.ofString "/" ++ y)) (Str.ofString "/") = false := by
  rw [ends_app1 (by rw [Str.length_append]; have := h.ne; omega), ends_app1 h.ne]
  exact h.en
theorem Part.longer {x y : Str} (h : Part y) : (x ++ (Str.ofString "/" ++ y)).length ≠ 0 := by
  rw [Str.length_append, Str.length_append]
  have := h.ne
  omega
section
variable {prog : Program} {w : World} {A : Around} {E : Value → Shared → Prop} {s : Shared} {x y : Str} {t u : Tok} {Q : Value → Shared → Prop}
theorem startsB {b : Bool} (e : Txt.startswith x y = b) (hq : Q (.bool b) s) : wpAny (model prog w) A (call (.builtin "str.startswith") [.str x t, .str y u]) Q E s := SC.startswith (by rw [e]; exact hq)
theorem endsB {b : Bool} (e : Txt.endswith x y = b) (hq : Q (.bool b) s) : wpAny (model prog w) A (call (.builtin "str.endswith") [.str x t, .str y u]) Q E s := SC.endswith (by rw [e]; exact hq)
end

/-- what two lists have in common ahead -/
def comPre : List Str → List Str → List Str
  | a :: r, b :: q => if a = b then a :: comPre r q else []
  | _, _ => []
theorem comPre_step {a b : Str} {X r q : List Str} (h : a = b) (e : X = comPre r q) : a :: X = comPre (a :: r) (b :: q) := by rw [e, comPre, if_pos h]
theorem comPre_stop {a b : Str} {r q : List Str} (h : (a == b) = false) : [] = comPre (a :: r) (b :: q) := by
  have : a ≠ b := fun e => by rw [e] at h; simp at h
  rw [comPre, if_neg this]
theorem comPre_nil (r : List Str) : [] = comPre [] r := rfl

section
theorem join1_spec {w : World} (x y : Str) (t u : Tok) (hx : x.length ≤ 1000) (h2 : x.length ≠ 0) (h3 : Txt.endswith x (Str.ofString "/") = false) (p1 : Part y) (l1 : y.length ≤ 1000) : SpecS 2 w 129 [.str x t, .str y u] [] (x ++ (Str.ofString "/" ++ y)) 2040 := by
  k_with_none
  w_top off
  k_with "my open" => (((try unfold SpecS); (try unfold SpecI); (try unfold SpecB); (try unfold SpecT); unfold Spec; k_fill; intros; refine wpAny_call ?_))
  k_with "my sub" => (first | exact List.forall_mem_nil _ | (refine' List.forall_mem_cons.mpr ⟨?a_r4, ?b_r4⟩; (case a_r4 => k_mem); (case b_r4 => walk_at "my sub")))
  k_with "my keep" => (exact keepZ (by assumption) (by assumption) (by assumption) (by assumption) (by walk_at "my sub"))
  k_with "my retS" => ((refine' retV (by assumption) ?r1_r8 ?r2_r8; (case r1_r8 => walk_at "my keep"); refine ⟨rfl, ⟨_, rfl⟩, ?_⟩))
  k_with "my use" => (((case b1 => k_asm); (case f1 => k_asm); (case x1 => k_asm); (case n1 => k_asm); (case t1 => k_asm); (case kk => first | exact rfl | assumption); (case hd => first | exact room1 (by with_reducible assumption) rfl | omega | ((try dsimp only [A9]); (try dsimp only [Around.deeper]); omega) | (trace_state; ktr_room)); (case hu => first | exact units1 (by with_reducible assumption) rfl | omega | ((try dsimp only [A9]); (try dsimp only [Around.deeper]); omega) | (trace_state; ktr_units)); (case ha => walk_at "my sub")))
  k_with "my len" => (first | with_reducible assumption | with_reducible exact Nat.le_of_eq (two_len _) | with_reducible exact Nat.le_of_eq (four_len _) | with_reducible exact Nat.le_of_eq (wdN_len (by assumption)) | with_reducible exact Nat.le_of_eq (moN_len (by assumption)) | with_reducible exact lit_len)
  k_with "my text" => (first | with_reducible exact slice_wd (by assumption) | with_reducible exact slice_mo (by assumption) | with_reducible exact zfill_four (by assumption) | with_reducible exact rfl)
  k_with "binaryOp Add str str" => ((k_here; (refine' add_strE ?e1_r15 ?e2_r15 ?a1_r15 ?a2_r15 ?a3_r15 ?_; (case e1_r15 => walk_at "my text"); (case e2_r15 => walk_at "my text"); (case a1_r15 => walk_at "my len"); (case a2_r15 => walk_at "my len"); (case a3_r15 => omega); intro t'm tk'm ln'm)))
  k_with "inplaceOp Add str str" => ((k_here; (refine' iadd_strE ?e1_r16 ?e2_r16 ?a1_r16 ?a2_r16 ?a3_r16 ?_; (case e1_r16 => walk_at "my text"); (case e2_r16 => walk_at "my text"); (case a1_r16 => walk_at "my len"); (case a2_r16 => walk_at "my len"); (case a3_r16 => omega); intro t'm tk'm ln'm)))
  k_with "my enteredR" => (((case kA => exact rfl); (case kF => exact rfl); (case kK => assumption); (case k1 => k_asm); (case k2 => k_asm); (case k3 => k_asm); (case k4 => k_asm); (case k5 => k_asm); (case k6 => k_is); (case k7 => k_is); (case k8 => ktr_room); (case kP => exact rfl); (case kG => exact fun _ => rfl); (case c5 => decide); (case kB => exact fun _ => locs rfl); (case kL => exact fun _ => rfl); (case c2 => exact rfl); (case c3 => exact rfl); (case c4 => exact rfl); k_whole; intro D'm g'm L'm h'm tk'm l1m HG'm F'm N'm B'm X'm T'm; (try k_lt l1m); (try dsimp only); (try k_lift B'm); (try k_unmd); (try k_fold); (try refine (let A9 := _; (?_ : PySem.wpAny _ A9 _ _ _ _))); (try refine (let e9 := _; (?_ : PySem.wpAny _ _ (PySem.execs _ e9) _ _ _)))))
  k_with "execs cons" => ((k_here; (try ((fail_if_success (fail_if_success k_fold)); (refine (let q8 := _; (?_ : PySem.wpAny _ _ _ q8 _ _))))); (with_reducible refine seqA ?_); (refine (let q8 := _; (?_ : PySem.wpAny _ _ _ q8 _ _))); (try ((with_reducible rename Fr _ _ _ (fun _ => _) => lF8); (refine (let lm8 := _; (fun (F' : Fr _ _ _ lm8) => ?_) lF8)); clear lF8))))
  k_with "execs cons" => ((k_here; k_gentoks))
  k_with "execs cons" => ((k_here; k_made; walk_at "execs cons"))
  k_with "eval Call" => ((k_here; (fail_if_success (fail_if_success k_fold)); (refine (let q8 := _; (?_ : PySem.wpAny _ _ _ q8 _ _)))))
  k_with "eval BinOp" => ((k_here; (fail_if_success (fail_if_success k_fold)); (refine (let q8 := _; (?_ : PySem.wpAny _ _ _ q8 _ _)))))
  k_with "eval Subscript" => ((k_here; (fail_if_success (fail_if_success k_fold)); (refine (let q8 := _; (?_ : PySem.wpAny _ _ _ q8 _ _)))))
  k_with "eval Tuple" => ((k_here; (fail_if_success (fail_if_success k_fold)); (refine (let q8 := _; (?_ : PySem.wpAny _ _ _ q8 _ _)))))
  k_with "eval List" => ((k_here; (fail_if_success (fail_if_success k_fold)); (refine (let q8 := _; (?_ : PySem.wpAny _ _ _ q8 _ _)))))
  k_with "eval Compare" => ((k_here; (fail_if_success (fail_if_success k_fold)); (refine (let q8 := _; (?_ : PySem.wpAny _ _ _ q8 _ _)))))
  k_with "call ref" => ((k_here; (fail_if_success (fail_if_success k_fold)); (refine (let q8 := _; (?_ : PySem.wpAny _ _ _ q8 _ _)))))
  k_with "callWith ref" => ((k_here; k_dflt (refine' callA1 ?k1_r37 ?k2_r37 ?_; (case k1_r37 => k_asm); (case k2_r37 => k_is); k_whole)))
  k_with "callWith ref" => ((k_here; k_dflt (refine' callA2 ?k1_r38 ?k2_r38 ?_; (case k1_r38 => k_asm); (case k2_r38 => k_is); k_whole)))
  k_with "isTrue BoolOp" => ((k_here; (fail_if_success (fail_if_success k_fold)); (refine (let q8 := _; (?_ : PySem.wpAny _ _ _ q8 _ _)))))
  k_with "isTrue Compare" => ((k_here; (fail_if_success (fail_if_success k_fold)); (refine (let q8 := _; (?_ : PySem.wpAny _ _ _ q8 _ _)))))
  k_with "isTrue UnaryOp" => ((k_here; (fail_if_success (fail_if_success k_fold)); (refine (let q8 := _; (?_ : PySem.wpAny _ _ _ q8 _ _)))))
  k_with "assign Name" => ((k_here; (fail_if_success (fail_if_success k_fold)); (refine (let q8 := _; (?_ : PySem.wpAny _ _ _ q8 _ _)))))
  k_with "assign Tuple" => ((k_here; (fail_if_success (fail_if_success k_fold)); (refine (let q8 := _; (?_ : PySem.wpAny _ _ _ q8 _ _)))))
  k_with "callWith" => ((k_here; (with_reducible show PySem.wpAny _ _ (PySem.callWith _ (PySem.Value.builtin _) _ _ []) _ _ _); k_dflt (first | refine callM1 ?_ | refine callM2 ?_ | refine callB1 ?_ | refine callB2 ?_); k_whole))
  k_with "call builtin:str.startswith" => ((k_here; refine' startsB ?ta_r49 ?_; (case ta_r49 => with_reducible exact Part.st (by assumption))))
  k_with "call builtin:str.endswith" => ((k_here; refine' endsB ?ta_r50 ?_; (case ta_r50 => with_reducible (first | assumption | exact Part.after (by assumption)))))
  k_with "truthy str" => ((k_here; (refine' truthyT ?ta_r51 ?tb_r51 ?_; (case ta_r51 => with_reducible (first | assumption | exact Part.longer (by assumption))); (case tb_r51 => omega); intro k'm)))
  k_with "call ref" => (k_here; k_dflt (refine' Spec.use (fspath_spec _ _) ?b1 ?f1 ?x1 ?n1 ?t1 ?kk ?hd ?hu ?ha ?_; walk_at "my use"; k_whole; rintro _ _ h' tk' F' N' lt' ⟨rfl, ⟨t', rfl⟩, ln'⟩; (try dsimp only [List.nil_append] at N'); clear lt'))
  k_with "call ref" => (k_here; k_dflt (refine' Spec.use (get_sep_spec _ _) ?b1 ?f1 ?x1 ?n1 ?t1 ?kk ?hd ?hu ?ha ?_; walk_at "my use"; k_whole; rintro _ _ h' tk' F' N' lt' ⟨rfl, ⟨t', rfl⟩, ln'⟩; (try dsimp only [List.nil_append] at N'); clear lt'))
  w_top off; walk_at "my open"; k_dflt (refine' enterR (vs := [.str y u]) ?k1 ?k2 ?k3 ?k4 ?k5 ?kA ?kF ?kK ?k6 ?k7 ?k8 ?kP ?kG ?kB (fun D => [(Str.ofString "p", .ref D), (Str.ofString "a", .str x t)]) ?kL ?_ ?c2 ?c3 ?c4 ?c5; walk_at "my enteredR")
  repeat' (first | ((fail_if_success goal_has PySem.wpAny); (try dsimp only); first | (with_reducible refine seqN ?_) | ((with_reducible refine seqE ?_); (try dsimp only)) | ((with_reducible refine seqR ?_); (try dsimp only)) | ((with_reducible refine seqC ?_); (try dsimp only)) | ((with_reducible refine seqB ?_); (try dsimp only))) | ((fail_if_success (fail_if_success k_unfold)); (try dsimp only); k_unfold; (try dsimp only)) | ((fail_if_success goal_has PySem.wpAny); show PySem.wpAny _ _ _ _ _ _; (try dsimp only)) | walk1 | (dsimp only; walk1) | fail "no step")
  walk_at "my retS"
  have l9 : (Str.ofString "/").length = 1 := by decide +kernel
  rw [Str.length_append, Str.length_append]
  omega
end

def kindK (k : Int) : Nat := if k = 8 then 45 else if k = 4 then 100 else if k = 10 then 108 else if k = 2 then 99 else if k = 6 then 98 else if k = 1 then 112 else if k = 12 then 115 else 63
def kindC (k : Int) : Str := ⟨#[kindK k]⟩
theorem at_cons {c k : Int} {v d : Value} {r : List (Int × Value)} {P : Value → Prop} (h1 : k = c → P v) (h2 : k ≠ c → P ((valueAt r k).getD d)) : P ((valueAt ((c, v) :: r) k).getD d) := by
  unfold valueAt
  rw [List.find?_cons]
  by_cases h : k = c
  · rw [show decide ((c, v).1 = k) = true from decide_eq_true h.symm]
    exact h1 h
  · rw [show decide ((c, v).1 = k) = false from decide_eq_false fun e => h e.symm]
    exact h2 h
theorem kind_at (k : Int) (t1 t2 t3 t4 t5 t6 t7 u1 u2 u3 u4 u5 u6 u7 u : Tok) : ∃ t, (valueAt (intKeyPairs [(.int 8 t1, .str (Str.ofString "-") u1), (.int 4 t2, .str (Str.ofString "d") u2), (.int 10 t3, .str (Str.ofString "l") u3), (.int 2 t4, .str (Str.ofString "c") u4), (.int 6 t5, .str (Str.ofString "b") u5), (.int 1 t6, .str (Str.ofString "p") u6), (.int 12 t7, .str (Str.ofString "s") u7)]) k).getD (.str (Str.ofString "?") u) = .str (kindC k) t := by
  have g : ∀ {x : Str} {c : Nat} (v : Tok), x = ⟨#[c]⟩ → kindK k = c → ∃ t, Value.str x v = .str (kindC k) t := fun v e e2 => ⟨v, by rw [e, ← e2]; rfl⟩
  refine at_cons (P := fun v => ∃ t, v = .str (kindC k) t) (fun e => g u1 (c := 45) (by decide +kernel) (by rw [e]; rfl)) fun h1 => ?_
  refine at_cons (P := fun v => ∃ t, v = .str (kindC k) t) (fun e => g u2 (c := 100) (by decide +kernel) (by rw [e]; rfl)) fun h2 => ?_
  refine at_cons (P := fun v => ∃ t, v = .str (kindC k) t) (fun e => g u3 (c := 108) (by decide +kernel) (by rw [e]; rfl)) fun h3 => ?_
  refine at_cons (P := fun v => ∃ t, v = .str (kindC k) t) (fun e => g u4 (c := 99) (by decide +kernel) (by rw [e]; rfl)) fun h4 => ?_
  refine at_cons (P := fun v => ∃ t, v = .str (kindC k) t) (fun e => g u5 (c := 98) (by decide +kernel) (by rw [e]; rfl)) fun h5 => ?_
  refine at_cons (P := fun v => ∃ t, v = .str (kindC k) t) (fun e => g u6 (c := 112) (by decide +kernel) (by rw [e]; rfl)) fun h6 => ?_
  refine at_cons (P := fun v => ∃ t, v = .str (kindC k) t) (fun e => g u7 (c := 115) (by decide +kernel) (by rw [e]; rfl)) fun h7 => ?_
  exact g u (c := 63) (by decide +kernel) (by unfold kindK; rw [if_neg h1, if_neg h2, if_neg h3, if_neg h4, if_neg h5, if_neg h6, if_neg h7])
section
variable {prog : Program} {w : World} {A : Around} {E Q : Value → Shared → Prop} {s : Shared} {h₀ : Heap} {L d : Addr} {m : Str → Option Value} {news : List (Addr × Obj)} {o : Obj}
theorem get_kind {k : Int} {t0 t1 t2 t3 t4 t5 t6 t7 u1 u2 u3 u4 u5 u6 u7 u : Tok} (N : News h₀ L s.heap news) (hp : (d, o) ∈ news)
    (hd : o.IsDictOf (intKind prog w) (intKeyPairs [(.int 8 t1, .str (Str.ofString "-") u1), (.int 4 t2, .str (Str.ofString "d") u2), (.int 10 t3, .str (Str.ofString "l") u3), (.int 2 t4, .str (Str.ofString "c") u4), (.int 6 t5, .str (Str.ofString "b") u5), (.int 1 t6, .str (Str.ofString "p") u6), (.int 12 t7, .str (Str.ofString "s") u7)]))
    (lo : (d == sysModules) = false) (h : ∀ t tk, Q (.str (kindC k) t) { s with toks := tk }) : wpAny (model prog w) A (call (.builtin "dict.get") [.ref d, .int k t0, .str (Str.ofString "?") u]) Q E s := by
  obtain ⟨t, e⟩ := kind_at k t1 t2 t3 t4 t5 t6 t7 u1 u2 u3 u4 u5 u6 u7 u
  refine kdg_get2 N hp hd lo (intKind_is _ _ _ _) _ rfl ?_
  rw [e]
  exact h _ _
end
theorem kindC_len (k : Int) : (kindC k).length = 1 := rfl
def pick2 (k : Int) (a b : Str) : Str := [a, b].getD k.toNat Str.empty
theorem pick2_len {k : Int} {a b : Str} (h0 : 0 ≤ k) (h1 : k < 2) (ha : a.length = 2) (hb : b.length = 2) : (pick2 k a b).length = 2 := by
  have : k = 0 ∨ k = 1 := by omega
  rcases this with rfl | rfl
  · exact ha
  · exact hb
section
variable {prog : Program} {w : World} {A : Around} {E Q : Value → Shared → Prop} {s : Shared} {h₀ : Heap} {L d : Addr} {news : List (Addr × Obj)} {n : Nat} {a b : Str} {ta tb u : Tok} {k : Int} {value slice : PySem.Expr}
theorem item_pair (N : News h₀ L s.heap news) (hp : (d, tupleO #[.str a ta, .str b tb] n) ∈ news) (h0 : 0 ≤ k) (h1 : k < 2) (ha : a.length = 2) (hb : b.length = 2) (h : ∀ t', (pick2 k a b).length = 2 → Q (.str (pick2 k a b) t') s)
    (hs : subscripted slice false (.ref d) (.int k u) = operate [.ref d, .int k u] (getItem (.ref d) (.int k u))) :
    wpAny (model prog w) A (subscriptTail value slice (.ref d) (.int k u)) Q E s := by
  have hT : IsTup s.heap d [Value.str a ta, Value.str b tb].toArray := News.isTup N hp
  have hk : k = 0 ∨ k = 1 := by omega
  rcases hk with rfl | rfl
  · exact item_tupleT (j := 0) (x := .str a ta) hT (by decide) (by decide) rfl rfl (h ta (pick2_len h0 h1 ha hb)) hs
  · exact item_tupleT (j := 1) (x := .str b tb) hT (by decide) (by decide) rfl rfl (h tb (pick2_len h0 h1 ha hb)) hs
end
/-- the ten signs of a mode -/
def bitC (b : Int) (c : Nat) : Nat := if b = 1 then c else 45
def execC (e b : Int) (c d : Nat) : Nat := if e = 1 then (if b = 1 then c else d) else (if b = 1 then 120 else 45)
def rowN (n : Int) : Str := ⟨#[kindK (n / 4096 % 16), bitC (n / 256 % 2) 114, bitC (n / 128 % 2) 119, execC (n / 2048 % 2) (n / 64 % 2) 115 83, bitC (n / 32 % 2) 114, bitC (n / 16 % 2) 119, execC (n / 1024 % 2) (n / 8 % 2) 115 83, bitC (n / 4 % 2) 114, bitC (n / 2 % 2) 119, execC (n / 512 % 2) (n % 2) 116 84]⟩
theorem item_bit {x : String} {c : Nat} {k b : Int} (hk : k = b) (hb : b = 0 ∨ b = 1) (h0 : Txt.item (Str.ofString x) 0 = ⟨#[45]⟩) (h1 : Txt.item (Str.ofString x) 1 = ⟨#[c]⟩) : Txt.item (Str.ofString x) k = ⟨#[bitC b c]⟩ := by
  subst hk
  rcases hb with rfl | rfl
  · exact h0
  · exact h1
theorem item_exec {x : String} {c d : Nat} {k e b l : Int} (hk : k = b) (hl : l = e) (hb : b = 0 ∨ b = 1) (he : e = 0 ∨ e = 1) (h0 : Txt.item (Str.ofString x) 0 = ⟨#[d]⟩) (h1 : Txt.item (Str.ofString x) 1 = ⟨#[c]⟩) : Txt.item (pick2 l (Str.ofString "-x") (Str.ofString x)) k = ⟨#[execC e b c d]⟩ := by
  subst hk hl
  rcases he with rfl | rfl
  · rcases hb with rfl | rfl
    · exact (by decide +kernel : Txt.item (Str.ofString "-x") 0 = ⟨#[45]⟩)
    · exact (by decide +kernel : Txt.item (Str.ofString "-x") 1 = ⟨#[120]⟩)
  · rcases hb with rfl | rfl
    · exact h0
    · exact h1
theorem b84 (x : Int) : x % 8 / 4 = x / 4 % 2 := by omega
theorem b82 (x : Int) : x % 8 / 2 % 2 = x / 2 % 2 := by omega
theorem b81 (x : Int) : x % 8 % 2 = x % 2 := by omega
theorem bq84 {n a c : Int} (ha : 0 ≤ a) (e : a * 4 = c) : n / a % 8 / 4 = n / c % 2 := by rw [b84, Int.ediv_ediv_of_nonneg ha, e]
theorem bq82 {n a c : Int} (ha : 0 ≤ a) (e : a * 2 = c) : n / a % 8 / 2 % 2 = n / c % 2 := by rw [b82, Int.ediv_ediv_of_nonneg ha, e]
theorem row_end {n p0 p1 p2 q0 q1 q2 : Int} (h : 0 ≤ n) (e0 : p0 = 64) (e1 : p1 = 8) (e2 : p2 = 1) (f0 : q0 = 2048) (f1 : q1 = 1024) (f2 : q2 = 512) :
    kindC ((n.fdiv 4096).fmod 16) ++ (Txt.item (Str.ofString "-r") (((n.fdiv p0).fmod 8).fdiv 4) ++ Txt.item (Str.ofString "-w") ((((n.fdiv p0).fmod 8).fdiv 2).fmod 2)) ++ Txt.item (pick2 ((n.fdiv q0).fmod 2) (Str.ofString "-x") (Str.ofString "Ss")) (((n.fdiv p0).fmod 8).fmod 2) ++
      (Txt.item (Str.ofString "-r") (((n.fdiv p1).fmod 8).fdiv 4) ++ Txt.item (Str.ofString "-w") ((((n.fdiv p1).fmod 8).fdiv 2).fmod 2)) ++ Txt.item (pick2 ((n.fdiv q1).fmod 2) (Str.ofString "-x") (Str.ofString "Ss")) (((n.fdiv p1).fmod 8).fmod 2) ++
      (Txt.item (Str.ofString "-r") (((n.fdiv p2).fmod 8).fdiv 4) ++ Txt.item (Str.ofString "-w") ((((n.fdiv p2).fmod 8).fdiv 2).fmod 2)) ++ Txt.item (pick2 ((n.fdiv q2).fmod 2) (Str.ofString "-x") (Str.ofString "Tt")) (((n.fdiv p2).fmod 8).fmod 2) = rowN n := by
  subst e0 e1 e2 f0 f1 f2
  have d : ∀ (x k : Int), 0 ≤ k → x.fdiv k = x / k := fun x k hk => Int.fdiv_eq_ediv_of_nonneg x hk
  have m : ∀ (x k : Int), 0 ≤ k → x.fmod k = x % k := fun x k hk => Int.fmod_eq_emod_of_nonneg x hk
  simp only [d _ _ (show (0:Int) ≤ 64 by decide), d _ _ (show (0:Int) ≤ 4096 by decide), d _ _ (show (0:Int) ≤ 8 by decide), d _ _ (show (0:Int) ≤ 1 by decide), d _ _ (show (0:Int) ≤ 2048 by decide), d _ _ (show (0:Int) ≤ 1024 by decide), d _ _ (show (0:Int) ≤ 512 by decide), d _ _ (show (0:Int) ≤ 4 by decide), d _ _ (show (0:Int) ≤ 2 by decide),
    m _ _ (show (0:Int) ≤ 16 by decide), m _ _ (show (0:Int) ≤ 8 by decide), m _ _ (show (0:Int) ≤ 2 by decide)]
  have g2 : ∀ x : Int, x % 2 = 0 ∨ x % 2 = 1 := Int.emod_two_eq
  rw [item_bit (b := n / 256 % 2) (c := 114) (bq84 (by decide) (by decide)) (g2 _) (by decide +kernel) (by decide +kernel), item_bit (b := n / 128 % 2) (c := 119) (bq82 (by decide) (by decide)) (g2 _) (by decide +kernel) (by decide +kernel),
    item_exec (e := n / 2048 % 2) (b := n / 64 % 2) (c := 115) (d := 83) (b81 _) rfl (g2 _) (g2 _) (by decide +kernel) (by decide +kernel),
    item_bit (b := n / 32 % 2) (c := 114) (bq84 (by decide) (by decide)) (g2 _) (by decide +kernel) (by decide +kernel), item_bit (b := n / 16 % 2) (c := 119) (bq82 (by decide) (by decide)) (g2 _) (by decide +kernel) (by decide +kernel),
    item_exec (e := n / 1024 % 2) (b := n / 8 % 2) (c := 115) (d := 83) (b81 _) rfl (g2 _) (g2 _) (by decide +kernel) (by decide +kernel),
    item_bit (b := n / 4 % 2) (c := 114) (bq84 (by decide) (by decide)) (g2 _) (by decide +kernel) (by decide +kernel), item_bit (b := n / 2 % 2) (c := 119) (bq82 (by decide) (by decide)) (g2 _) (by decide +kernel) (by decide +kernel),
    item_exec (e := n / 512 % 2) (b := n % 2) (c := 116) (d := 84) (by rw [Int.ediv_one]; exact b81 _) rfl (g2 _) (g2 _) (by decide +kernel) (by decide +kernel)]
  rfl
theorem fd4_lo (x : Int) : 0 ≤ (x.fmod 8).fdiv 4 := Int.fdiv_nonneg (fmod_lo x (by decide)) (by decide)
theorem fd4_hi (x : Int) : (x.fmod 8).fdiv 4 < 2 := by
  rw [Int.fdiv_eq_ediv_of_nonneg _ (by decide)]
  exact Int.ediv_lt_of_lt_mul (by decide) (fmod_hi x (by decide))
theorem item_s2 {prog : Program} {w : World} {A : Around} {E : Value → Shared → Prop} {s : Shared} {value slice : PySem.Expr} {x : PySem.Str} {t u : Tok} {i : Int} {Q : Value → Shared → Prop} (hk : x.length = 2) (h0 : 0 ≤ i) (h1 : i < 2) (h : (Txt.item x i).length = 1 → Q (.str (Txt.item x i) s.toks) { s with toks := s.toks + 1 })
    (hs : subscripted slice false (.str x t) (.int i u) = operate [.str x t, .int i u] (getItem (.str x t) (.int i u)))
    (ht : ∀ r, letTemporaryGo value (.str x t) r = pure ()) : wpAny (model prog w) A (subscriptTail value slice (.str x t) (.int i u)) Q E s :=
  KXi.item hk (Int.le_trans (by decide) h0) h1 (by decide) h hs ht
section
local macro_rules | `(tactic| kxi_len) => `(tactic| with_reducible assumption)
theorem row_spec {w : World} (n : Int) (t : Tok) (h : 0 ≤ n ∧ n < 2 ^ 32) : SpecS 1 w 228 [.int n t] [] (rowN n) 10 := by
  k_with_none
  w_top off
  k_with "my open" => (((try unfold SpecS); (try unfold SpecI); (try unfold SpecB); (try unfold SpecT); unfold Spec; k_fill; intros; refine wpAny_call ?_))
  k_with "my sub" => (first | exact List.forall_mem_nil _ | (refine' List.forall_mem_cons.mpr ⟨?a_r4, ?b_r4⟩; (case a_r4 => k_mem); (case b_r4 => walk_at "my sub")))
  k_with "my keep" => (exact keepZ (by assumption) (by assumption) (by assumption) (by assumption) (by walk_at "my sub"))
  k_with "my len" => (first | with_reducible assumption | with_reducible exact Nat.le_of_eq (two_len _) | with_reducible exact Nat.le_of_eq (four_len _) | with_reducible exact Nat.le_of_eq (wdN_len (by assumption)) | with_reducible exact Nat.le_of_eq (moN_len (by assumption)) | with_reducible exact lit_len)
  k_with "my text" => (first | with_reducible exact slice_wd (by assumption) | with_reducible exact slice_mo (by assumption) | with_reducible exact zfill_four (by assumption) | with_reducible exact rfl)
  k_with "binaryOp Add str str" => ((k_here; (refine' add_strE ?e1_r15 ?e2_r15 ?a1_r15 ?a2_r15 ?a3_r15 ?_; (case e1_r15 => walk_at "my text"); (case e2_r15 => walk_at "my text"); (case a1_r15 => walk_at "my len"); (case a2_r15 => walk_at "my len"); (case a3_r15 => omega); intro t'm tk'm ln'm)))
  k_with "inplaceOp Add str str" => ((k_here; (refine' iadd_strE ?e1_r16 ?e2_r16 ?a1_r16 ?a2_r16 ?a3_r16 ?_; (case e1_r16 => walk_at "my text"); (case e2_r16 => walk_at "my text"); (case a1_r16 => walk_at "my len"); (case a2_r16 => walk_at "my len"); (case a3_r16 => omega); intro t'm tk'm ln'm)))
  k_with "my entered" => (((case kA => exact rfl); (case kF => exact rfl); (case kK => assumption); (case k1 => k_asm); (case k2 => k_asm); (case k3 => k_asm); (case k4 => k_asm); (case k5 => k_asm); (case k6 => k_is); (case k7 => k_is); (case k8 => ktr_room); (case k9 => exact BindsTo.of_eq rfl); (case c5 => decide); (case kB => exact locs rfl); (case kL => exact rfl); (case c2 => exact rfl); (case c3 => exact rfl); (case c4 => exact rfl); k_whole; intro g'm L'm h'm tk'm HG'm F'm N'm B'm X'm T'm l1m; (try k_lt l1m); (try dsimp only); (try k_lift B'm); (try k_unmd); (try k_fold); (try refine (let A9 := _; (?_ : PySem.wpAny _ A9 _ _ _ _))); (try refine (let e9 := _; (?_ : PySem.wpAny _ _ (PySem.execs _ e9) _ _ _)))))
  k_with "execs cons" => ((k_here; (try ((fail_if_success (fail_if_success k_fold)); (refine (let q8 := _; (?_ : PySem.wpAny _ _ _ q8 _ _))))); (with_reducible refine seqA ?_); (refine (let q8 := _; (?_ : PySem.wpAny _ _ _ q8 _ _))); (try ((with_reducible rename Fr _ _ _ (fun _ => _) => lF8); (refine (let lm8 := _; (fun (F' : Fr _ _ _ lm8) => ?_) lF8)); clear lF8))))
  k_with "execs cons" => ((k_here; k_gentoks))
  k_with "execs cons" => ((k_here; k_made; walk_at "execs cons"))
  k_with "eval Call" => ((k_here; (fail_if_success (fail_if_success k_fold)); (refine (let q8 := _; (?_ : PySem.wpAny _ _ _ q8 _ _)))))
  k_with "eval BinOp" => ((k_here; (fail_if_success (fail_if_success k_fold)); (refine (let q8 := _; (?_ : PySem.wpAny _ _ _ q8 _ _)))))
  k_with "eval Subscript" => ((k_here; (fail_if_success (fail_if_success k_fold)); (refine (let q8 := _; (?_ : PySem.wpAny _ _ _ q8 _ _)))))
  k_with "eval Tuple" => ((k_here; (fail_if_success (fail_if_success k_fold)); (refine (let q8 := _; (?_ : PySem.wpAny _ _ _ q8 _ _)))))
  k_with "eval List" => ((k_here; (fail_if_success (fail_if_success k_fold)); (refine (let q8 := _; (?_ : PySem.wpAny _ _ _ q8 _ _)))))
  k_with "eval Compare" => ((k_here; (fail_if_success (fail_if_success k_fold)); (refine (let q8 := _; (?_ : PySem.wpAny _ _ _ q8 _ _)))))
  k_with "call ref" => ((k_here; (fail_if_success (fail_if_success k_fold)); (refine (let q8 := _; (?_ : PySem.wpAny _ _ _ q8 _ _)))))
  k_with "callWith ref" => ((k_here; k_dflt (refine' callA1 ?k1_r37 ?k2_r37 ?_; (case k1_r37 => k_asm); (case k2_r37 => k_is); k_whole)))
  k_with "callWith ref" => ((k_here; k_dflt (refine' callA2 ?k1_r38 ?k2_r38 ?_; (case k1_r38 => k_asm); (case k2_r38 => k_is); k_whole)))
  k_with "isTrue BoolOp" => ((k_here; (fail_if_success (fail_if_success k_fold)); (refine (let q8 := _; (?_ : PySem.wpAny _ _ _ q8 _ _)))))
  k_with "isTrue Compare" => ((k_here; (fail_if_success (fail_if_success k_fold)); (refine (let q8 := _; (?_ : PySem.wpAny _ _ _ q8 _ _)))))
  k_with "isTrue UnaryOp" => ((k_here; (fail_if_success (fail_if_success k_fold)); (refine (let q8 := _; (?_ : PySem.wpAny _ _ _ q8 _ _)))))
  k_with "assign Name" => ((k_here; (fail_if_success (fail_if_success k_fold)); (refine (let q8 := _; (?_ : PySem.wpAny _ _ _ q8 _ _)))))
  k_with "assign Tuple" => ((k_here; (fail_if_success (fail_if_success k_fold)); (refine (let q8 := _; (?_ : PySem.wpAny _ _ _ q8 _ _)))))
  k_with "callWith" => ((k_here; (with_reducible show PySem.wpAny _ _ (PySem.callWith _ (PySem.Value.builtin _) _ _ []) _ _ _); k_dflt (first | refine callM1 ?_ | refine callM2 ?_ | refine callB1 ?_ | refine callB2 ?_); k_whole))
  k_with "my len" => (first | with_reducible exact Nat.le_of_eq (kindC_len _) | with_reducible exact Nat.le_of_eq (len_item _ _) | with_reducible assumption)
  k_with "call builtin:dict.get" => ((k_here; k_dflt (refine' get_kind ?N_r53 ?hp_r53 ?hd_r53 ?lo_r53 ?_; (case N_r53 => k_asm); (case hp_r53 => k_mem); (case hd_r53 => k_asm); (case lo_r53 => k_asm); k_whole); intro t'm tk'm))
  k_with "subscriptTail" => ((k_here; (with_reducible show wpAny _ _ (subscriptTail _ _ (Value.ref _) (Value.int _ _)) _ _ _); k_dflt (refine' item_pair ?N_r54 ?hp_r54 ?h0_r54 ?h1_r54 ?ha_r54 ?hb_r54 ?_ ?hs_r54; (case N_r54 => k_asm); (case hp_r54 => k_mem); (case h0_r54 => exact fmod_lo _ (by decide)); (case h1_r54 => exact fmod_hi _ (by decide)); (case ha_r54 => decide +kernel); (case hb_r54 => decide +kernel); (case hs_r54 => with_unfolding_all rfl); k_whole); intro t'm ln'm))
  k_with "subscriptTail Name Name ref int" => ((k_here; (with_reducible show wpAny _ _ (subscriptTail _ _ (Value.ref _) (Value.int _ _)) _ _ _); k_dflt (refine' item_pair ?N_r55 ?hp_r55 ?h0_r55 ?h1_r55 ?ha_r55 ?hb_r55 ?_ ?hs_r55; (case N_r55 => k_asm); (case hp_r55 => k_mem); (case h0_r55 => exact fmod_lo _ (by decide)); (case h1_r55 => exact fmod_hi _ (by decide)); (case ha_r55 => decide +kernel); (case hb_r55 => decide +kernel); (case hs_r55 => with_unfolding_all rfl); k_whole); intro t'm ln'm))
  k_with "subscriptTail Name BinOp ref int" => ((k_here; (with_reducible show wpAny _ _ (subscriptTail _ _ (Value.ref _) (Value.int _ _)) _ _ _); k_dflt (refine' item_pair ?N_r56 ?hp_r56 ?h0_r56 ?h1_r56 ?ha_r56 ?hb_r56 ?_ ?hs_r56; (case N_r56 => k_asm); (case hp_r56 => k_mem); (case h0_r56 => exact fmod_lo _ (by decide)); (case h1_r56 => exact fmod_hi _ (by decide)); (case ha_r56 => decide +kernel); (case hb_r56 => decide +kernel); (case hs_r56 => with_unfolding_all rfl); k_whole); intro t'm ln'm))
  k_with "subscriptTail Name Constant ref int" => ((k_here; (with_reducible show wpAny _ _ (subscriptTail _ _ (Value.ref _) (Value.int _ _)) _ _ _); k_dflt (refine' item_pair ?N_r57 ?hp_r57 ?h0_r57 ?h1_r57 ?ha_r57 ?hb_r57 ?_ ?hs_r57; (case N_r57 => k_asm); (case hp_r57 => k_mem); (case h0_r57 => exact fmod_lo _ (by decide)); (case h1_r57 => exact fmod_hi _ (by decide)); (case ha_r57 => decide +kernel); (case hb_r57 => decide +kernel); (case hs_r57 => with_unfolding_all rfl); k_whole); intro t'm ln'm))
  k_with "subscriptTail" => ((k_here; (with_reducible show wpAny _ _ (subscriptTail _ _ (Value.str _ _) (Value.int _ _)) _ _ _); k_dflt (refine' item_s2 (by kxi_len) ?i0_r58 ?i1_r58 ?_ ?is_r58 ?it_r58; (case i0_r58 => first | exact fmod_lo _ (by decide) | exact fd4_lo _); (case i1_r58 => first | exact fmod_hi _ (by decide) | exact fd4_hi _); (case is_r58 => with_unfolding_all rfl); (case it_r58 => (intro _; with_unfolding_all rfl))); intro kxiEm; k_whole))
  k_with "table" => skip
  w_top off; walk_at "my open"; k_dflt (refine' enterP ?k1 ?k2 ?k3 ?k4 ?k5 ?kA ?kF ?kK ?k6 ?k7 ?k8 ?k9 ?kB [(Str.ofString "mode", .int n t)] ?kL ?_ ?c2 ?c3 ?c4 ?c5; walk_at "my entered")
  repeat' (first | ((fail_if_success goal_has PySem.wpAny); (try dsimp only); first | (with_reducible refine seqN ?_) | ((with_reducible refine seqE ?_); (try dsimp only)) | ((with_reducible refine seqR ?_); (try dsimp only)) | ((with_reducible refine seqC ?_); (try dsimp only)) | ((with_reducible refine seqB ?_); (try dsimp only))) | ((fail_if_success (fail_if_success k_unfold)); (try dsimp only); k_unfold; (try dsimp only)) | ((fail_if_success goal_has PySem.wpAny); show PySem.wpAny _ _ _ _ _ _; (try dsimp only)) | walk1 | (dsimp only; walk1) | fail "no step")
  refine' retSE (by assumption) ?_ (row_end h.1 (by decide) (by decide) (by decide) (by decide) (by decide) (by decide)) (Nat.le_refl _)
  walk_at "my keep"
end

section
open AutoSeq1 (wpAny_loadPart')
open Builtin
variable {prog : Program} {w : World} {A : Around} {E : Value → Shared → Prop} {s : Shared}
/-- a tuple's iterator asked by a built-in: an item -/
theorem nextTup {it t : Addr} {i : Nat} {items : Array Value} {x : Value} {Q : Value → Shared → Prop} (hit : s.heap.IsTupleIter it t i) (ht : s.heap.IsTuple t items) (hx : items[i]? = some x)
    (hQ : ∀ h', h'.IsTupleIter it t (i + 1) → Heap.SameBut it s.heap h' → Q x { s with heap := h' }) : wpAny (model prog w) A (Builtin.SmallTypes.nextOf (.ref it)) Q E s := by
  obtain ⟨o, ho, hc, hd⟩ := id hit
  obtain ⟨ol, hol, _, nl, hdl⟩ := ht
  unfold Builtin.SmallTypes.nextOf
  refine wpAny_bind (wpAny_callSpecial?_slot (name := Str.ofString "__next__") hit.typeIs PySem.F.slot_tuple_iterator_next
    (wpAny_call_entry PySem.F.slot_tuple_iterator_next hit.typeIs PySem.F.entry_tuple_iterator_next ?_ (PySem.F.args_tuple_iterator_next_1 _)))
  show wpAny _ _ (field (.ref it) 0 >>= _) _ _ s
  refine wpAny_bind (wpAny_field ho hd (x := .ref t) rfl ?_)
  show wpAny _ _ (if (Value.ref t == Value.none) = true then _ else _) _ _ s
  rw [if_neg (show ¬ ((Value.ref t == Value.none) = true) from Bool.false_ne_true)]
  show wpAny _ _ (field (.ref it) 1 >>= _) _ _ s
  refine wpAny_bind (wpAny_field ho hd (x := .int i 0) rfl ?_)
  show wpAny _ _ (seqItems? (.ref t) >>= _) _ _ s
  refine wpAny_bind (wpAny_seqItems hol hdl ?_)
  simp only [Int.toNat_natCast, hx]
  refine wpAny_bind (wpAny_setField ho hd (by simp) (wpAny_pure ⟨x, rfl, wpAny_pure (hQ _ ?_ (Heap.SameBut.update ..))⟩))
  exact ⟨_, Heap.get?_update_self _ ho (Obj.isFreed_of_fields (Obj.data_mapFields hd _)), (Obj.cls_mapFields ..).trans hc, by rw [Obj.data_mapFields hd]; simp [rawInt]⟩
/-- and its end -/
theorem nextTup_end {it t : Addr} {i : Nat} {items : Array Value} {Q : Value → Shared → Prop} (hh : A.handled = none) (hit : s.heap.IsTupleIter it t i) (ht : s.heap.IsTuple t items) (hx : items[i]? = none)
    (hE : ∀ h' e, Heap.ExtBut it s.heap h' → (∃ o, h'.get? e = some o ∧ o.cls = .type "StopIteration") → E (.ref e) { s with heap := h' }) : wpAny (model prog w) A (Builtin.SmallTypes.nextOf (.ref it)) Q E s := by
  obtain ⟨o, ho, hc, hd⟩ := id hit
  obtain ⟨ol, hol, _, nl, hdl⟩ := ht
  unfold Builtin.SmallTypes.nextOf
  refine wpAny_bind (wpAny_callSpecial?_slot (name := Str.ofString "__next__") hit.typeIs PySem.F.slot_tuple_iterator_next
    (wpAny_call_entry PySem.F.slot_tuple_iterator_next hit.typeIs PySem.F.entry_tuple_iterator_next ?_ (PySem.F.args_tuple_iterator_next_1 _)))
  show wpAny _ _ (field (.ref it) 0 >>= _) _ _ s
  refine wpAny_bind (wpAny_field ho hd (x := .ref t) rfl ?_)
  show wpAny _ _ (if (Value.ref t == Value.none) = true then _ else _) _ _ s
  rw [if_neg (show ¬ ((Value.ref t == Value.none) = true) from Bool.false_ne_true)]
  show wpAny _ _ (field (.ref it) 1 >>= _) _ _ s
  refine wpAny_bind (wpAny_field ho hd (x := .int i 0) rfl ?_)
  show wpAny _ _ (seqItems? (.ref t) >>= _) _ _ s
  refine wpAny_bind (wpAny_seqItems hol hdl ?_)
  simp only [Int.toNat_natCast, hx]
  refine wpAny_bind (wpAny_rule (wpAny_bind (wpAny_setField ho hd (by simp) ?_)))
  show wpAny _ _ (newExc (.type "StopIteration") [] >>= _) _ _ _
  refine wpAny_bind ?_
  simp only [newExc, newTuple]
  refine wpAny_bind (wpAny_newObj_type ?_ (by size_fits))
  refine wpAny_bind (m := firstArgMember _ _) (wpAny_of_eq (a := Value.none) (by first | rfl | (simp only [firstArgMember]; rfl)) ?_)
  refine wpAny_newObj_type ?_ (by size_fits)
  simp only [raiseNew]
  refine wpAny_bind (wpAny_handled ?_)
  first | rw [show A.in1.handled = none from hh] | rw [hh]
  refine wpAny_bind (wpAny_pure (wpAny_throw ?_))
  exact hE _ _ (((Heap.SameBut.update ..).extBut.push _).push _) ⟨_, Heap.get?_push_size _ rfl, rfl⟩
theorem drawsTup (hh : A.handled = none) (it t : Addr) (hne : t ≠ it) (items : Array Value) :
    Draws prog w A it [it, t] items.size (fun i v => items[i]? = some v) (fun i h => h.IsTupleIter it t i ∧ h.IsTuple t items) where
  live := fun _ _ st => let ⟨o, ho, _⟩ := st.1; ⟨o, ho⟩
  frame := fun _ _ _ st hk => ⟨st.1.at fun o e => hk it (by simp) o e, st.2.at fun o e => hk t (by simp) o e⟩
  item := fun i s Q E hi st hQ => nextTup st.1 st.2 (x := items[i]) (by simp [hi]) fun h' hit' hs' => hQ _ h' s.toks (by simp [hi]) ⟨hit', st.2.extBut hs'.extBut hne⟩ hs'
  done := fun s Q E st hE => nextTup_end hh st.1 st.2 (by simp) hE
set_option maxHeartbeats 1000000 in
theorem meets_enumT (l : Addr) (items : Array Value) (n : Nat) (dct : Option Addr) (sl : Array (Option Value)) :
    Meets (Builtin.«enumerate.__new__» ⟨[.type "enumerate", .ref l], []⟩) (fun _ R s => s.heap.get? l = some { cls := .type "tuple", dict := dct, data := .seq items n, slots := sl } ∧
      R (.ok (.ret (.ref (s.heap.push { cls := .type "tuple_iterator", data := .fields #[.ref l, .int 0 0] }).objs.size)))
        { s with heap := (s.heap.push { cls := .type "tuple_iterator", data := .fields #[.ref l, .int 0 0] }).push { cls := .type "enumerate", data := .fields #[.none, .bool false, .ref s.heap.objs.size, rawInt 0, .none, .none] } }) :=
  .of_wp fun prog w A R s h => by
    obtain ⟨hp, g, d, tk, os⟩ := s; obtain ⟨hl, h⟩ := h
    have hsub := sub_enumerate
    have hL : Heap.IsTuple (Shared.heap ⟨hp, g, d, tk, os⟩) l items := ⟨_, hl, rfl, n, rfl⟩
    wp_walk using wpAny_loadPart' hl
    refine wpAny_stack_any fun st => wpAny_pure ?_
    split
    · rename_i c _ _ _ _ _
      cases (c == Value.type "enumerate")
      · wp_walk using wpAny_loadPart' hl, wpAny_pyIter_tuple hL
        exact ⟨_, rfl, h⟩
      · wp_walk using wpAny_loadPart' hl, wpAny_pyIter_tuple hL
        exact ⟨_, rfl, h⟩
    · wp_walk using wpAny_loadPart' hl, wpAny_pyIter_tuple hL
      exact ⟨_, rfl, h⟩
theorem call_enumT {l : Addr} {items : Array Value} {Q : Value → Shared → Prop} (hL : s.heap.IsTuple l items)
    (h : ∀ h', IsEnum h' (s.heap.objs.size + 1) s.heap.objs.size 0 .none → h'.IsTupleIter s.heap.objs.size l 0 → h'.objs.size = s.heap.objs.size + 2 →
      (∀ b o, s.heap.get? b = some o → h'.get? b = some o) → Q (.ref (s.heap.objs.size + 1)) { s with heap := h' }) :
    wpAny (model prog w) A (call (.type "enumerate") [.ref l]) Q E s := by
  obtain ⟨⟨c, dct, dt, sl⟩, hl, hc, n, hd⟩ := hL
  replace hc : c = .type "tuple" := hc
  replace hd : dt = .seq items n := hd
  subst hc hd
  refine callType_new PySem.F.called_enumerate (by decide) (PySem.F.typeCall_enumerate_1 _) (PySem.F.newCall_enumerate_1 _) (fun obj => PySem.F.args_object_init_2 obj _) PySem.F.entry_enumerate_new
    (meets_enumT l items n dct sl) ⟨hl, ?_⟩
  have hz : (s.heap.push { cls := .type "tuple_iterator", data := .fields #[.ref l, .int 0 0] }).objs.size = s.heap.objs.size + 1 := Heap.size_push ..
  show _ ∧ _
  rw [hz]
  have he : IsEnum ((s.heap.push { cls := .type "tuple_iterator", data := .fields #[.ref l, .int 0 0] }).push
      { cls := .type "enumerate", data := .fields #[.none, .bool false, .ref s.heap.objs.size, rawInt 0, .none, .none] }) (s.heap.objs.size + 1) s.heap.objs.size 0 .none := by
    have := Heap.get?_push_size (s.heap.push { cls := .type "tuple_iterator", data := .fields #[.ref l, .int 0 0] })
      (o := { cls := .type "enumerate", data := .fields #[.none, .bool false, .ref s.heap.objs.size, rawInt 0, .none, .none] }) rfl
    rw [hz] at this; exact this
  refine ⟨⟨_, he, rfl⟩, h _ he ⟨_, Heap.get?_push_of_some _ (Heap.get?_push_size _ rfl), rfl, rfl⟩ (by rw [Heap.size_push, hz]) fun b o x => Heap.get?_push_of_some _ (Heap.get?_push_of_some _ x)⟩
end

section
variable {prog : Program} {w : World} {A : Around} {E : Value → Shared → Prop} {s : Shared} {env : Env} {h₀ : Heap} {target iter : PySem.Expr} {body orelse : List Stmt} {pos : Pos} {Q : Flow → Shared → Prop}
/-- the loop itself, its iterator at hand -/
def TurnsJ (prog : Program) (w : World) (A : Around) (h₀ : Heap) (env : Env) (target : PySem.Expr) (body orelse : List Stmt) (Q : Flow → Shared → Prop) (E : Value → Shared → Prop) (it : Value) (s₂ : Shared) : Prop :=
  codeAny (model prog w) A (.forLoop target it body orelse env) (fun r s' => match r with | .ok f => Q f s' | .error e => cameBackBy (model prog w) A env E e s') s₂
theorem forJ (h₀ : Heap) (h : wpAny (model prog w) A (eval iter env) (fun xv s₁ => wpAny (model prog w) A (pyIter xv) (fun it s₂ => TurnsJ prog w A h₀ env target body orelse Q E it s₂) E s₁) E s)
    (hs : ∀ x, foldedSetIterable iter env x = pure x := by intro _; rfl) : wpAny (model prog w) A (exec (.For target iter body orelse pos) env) Q E s := wpAny_For h hs
theorem objs_addr {ws : List (Addr × String)} {its : List (Addr × Obj)} (h : Objs ws its) {a : Addr} : a ∈ ws.map (·.1) ↔ ∃ o, (a, o) ∈ its := by
  rw [← h.map]
  constructor
  · intro q
    obtain ⟨⟨b, o⟩, hp, rfl⟩ := List.mem_map.mp q
    exact ⟨o, hp⟩
  · rintro ⟨o, ho⟩
    exact List.mem_map.mpr ⟨_, ho, rfl⟩
theorem turnLess {n i : Nat} (h : i < n) : n + 1 - (i + 1) < n + 1 - i := by omega
/-- where a loop stands: k turns to go -/
inductive LoopInv (h₀ : Heap) (L : Addr) (s : Shared) (n : Nat) (ws : List (Addr × String)) (keep : List (Addr × Obj)) (St : Nat → Heap → Prop) (J : Nat → (Str → Option Value) → List (Addr × Obj) → Prop) : Nat → Shared → Prop
  | mk (h' : Heap) (tk : Nat) (m' : Str → Option Value) (news' : List (Addr × Obj)) (i : Nat) (hst : St i h') (F : Fr h₀ L h' m') (N : News h₀ L h' news') (off : ∀ p ∈ news', p.1 ∉ ws.map (·.1)) (hk : SubL keep news') (hJ : J i m' news') (hi : i ≤ n) : LoopInv h₀ L s n ws keep St J (n + 1 - i) { s with heap := h', toks := tk }
/-- a loop by what holds of the frame's names and of the ledger, turn by turn -/
theorem loopJ {I : Addr} {fp wr : List Addr} {n : Nat} {P Md : Nat → Value → Heap → Prop} {St : Nat → Heap → Prop} {ws : List (Addr × String)} {keep : List (Addr × Obj)} {J : Nat → (Str → Option Value) → List (Addr × Obj) → Prop} {m₀ : Str → Option Value} {news : List (Addr × Obj)} {hp : Heap} {tk0 : Nat}
    (W : KTurns prog w A target I fp wr n P Md St) (hobj : ∀ i h, St i h → ∃ its, Objs ws its ∧ ∀ p ∈ its, h.get? p.1 = some p.2)
    (hws : ∀ b ∈ ws.map (·.1), h₀.get? b = none ∧ b ≠ env.locals) (hwr : ∀ b ∈ wr, b ∈ ws.map (·.1))
    (hfp : ∀ b ∈ fp, b ∈ ws.map (·.1) ∨ (∃ o, h₀.get? b = some o) ∨ ∃ o, (b, o) ∈ keep) (hnw : ∀ p ∈ news, p.1 ∉ ws.map (·.1)) (hst : St 0 hp)
    (F : Fr h₀ env.locals hp m₀) (N : News h₀ env.locals hp news) (hk : SubL keep news) (h0 : J 0 m₀ news)
    (turn : ∀ i v h tk m₁ news₁, i < n → P i v h → J i m₁ news₁ → SubL keep news₁ → Fr h₀ env.locals h m₁ → AllObj ws (fun its => News h₀ env.locals h (its ++ news₁) → (∀ p ∈ news₁, ∀ q ∈ its, p.1 ≠ q.1) →
      wpAny (model prog w) A (assign target env v) (fun _ s₂ => wpAny (model prog w) A (execs body env) (UnrPostW h₀ env.locals { s with heap := h, toks := tk } its (fun m' n' => SubL keep n' ∧ J (i + 1) m' n') Q) E s₂) E { s with heap := h, toks := tk }))
    (done : ∀ h tk m' news', Fr h₀ env.locals h m' → News h₀ env.locals h news' → SubL keep news' → J n m' news' → wpAny (model prog w) A (execs orelse env) Q E { s with heap := h, toks := tk })
    (hE : PassesOwn (model prog w) A env E) : TurnsJ prog w A h₀ env target body orelse Q E (.ref I) { s with heap := hp, toks := tk0 } := by
  have hLw : ∀ b ∈ wr, b ≠ env.locals := fun b hb => (hws b (hwr b hb)).2
  have old : ∀ b o, h₀.get? b = some o → b ∉ wr := fun b o e hb => by rw [(hws b (hwr b hb)).1] at e; cases e
  show codeAny _ _ _ _ _
  refine codeAny_forLoop_any
    (LoopInv h₀ env.locals s n ws keep St J) ?_ (n + 1)
    (.mk hp tk0 m₀ news 0 hst F N hnw hk h0 (Nat.zero_le _))
  rintro _ _ ⟨h', tk, m', news', i, hst', F', N', hnw', hk', hJ, hi⟩
  have next : ∀ h₁ : Heap, (∀ b o, b ∉ wr → h'.get? b = some o → h₁.get? b = some o) → Fr h₀ env.locals h₁ m' ∧ News h₀ env.locals h₁ news' := fun h₁ hk₁ =>
    ⟨⟨F'.ns.at' fun o e => hk₁ _ o (fun hb => hLw _ hb rfl) e, fun b o e => hk₁ b o (old b o e) (F'.keep b o e), F'.above⟩, fun p hp => ⟨hk₁ _ _ (fun hb => hnw' p hp (hwr _ hb)) (N' p hp).1, (N' p hp).2⟩⟩
  by_cases hlt : i < n
  · refine W.item i _ _ _ hlt hst' fun v h₁ tk₁ hMd hk₁ => ?_
    refine W.go i v _ _ _ hMd fun h₂ hP hst₂ hk₂ => ?_
    obtain ⟨F₂, N₂⟩ := next h₂ fun b o hb x => hk₂ b o hb (hk₁ b o hb x)
    obtain ⟨its, hits, hval⟩ := hobj (i + 1) h₂ hst₂
    have N₃ : News h₀ env.locals h₂ (its ++ news') := fun p hp => by
      rcases List.mem_append.mp hp with hp | hp
      · have h1 := hws p.1 ((objs_addr hits).mpr ⟨p.2, hp⟩)
        exact ⟨hval p hp, h1.2, h1.1⟩
      · exact N₂ p hp
    have off : ∀ p ∈ news', ∀ q ∈ its, p.1 ≠ q.1 := fun p hp q hq e => hnw' p hp (e ▸ (objs_addr hits).mpr ⟨q.2, hq⟩)
    have fin : ∀ s₃, UnrEndW h₀ env.locals { s with heap := h₂, toks := tk₁ } its (fun m' n' => SubL keep n' ∧ J (i + 1) m' n') s₃ →
        ∃ k, k < n + 1 - i ∧ LoopInv h₀ env.locals s n ws keep St J k s₃ := by
      rintro s₃ ⟨h₃, tk₃, m₂, news₂, rfl, F₃, N₄, ho, hk₃, hJ₃⟩
      refine ⟨n + 1 - (i + 1), turnLess hlt, .mk h₃ tk₃ m₂ news₂ (i + 1) ?_ F₃ (fun p hp => N₄ p (List.mem_append_right _ hp)) (fun p hp hI => ?_) hk₃ hJ₃ hlt⟩
      · refine W.frame _ _ _ hst₂ fun b hb o e => ?_
        rcases hfp b hb with h1 | ⟨o', h1⟩ | ⟨o', h1⟩
        · obtain ⟨o', h2⟩ := (objs_addr hits).mp h1
          have h3 : h₂.get? b = some o' := hval _ h2
          rw [e] at h3
          cases h3
          exact (N₄ _ (List.mem_append_left _ h2)).1
        · have h3 := F₂.keep b o' h1
          rw [e] at h3
          cases h3
          exact F₃.keep b o h1
        · have h3 := (N₂ _ (hk'.mem _ h1)).1
          have h3 : h₂.get? b = some o' := h3
          rw [e] at h3
          cases h3
          exact (N₄ _ (List.mem_append_right _ (hk₃.mem _ h1))).1
      · obtain ⟨o', h2⟩ := (objs_addr hits).mp hI
        exact ho p hp _ h2 rfl
    have T := (turn i v h₂ tk₁ m' news' hlt hP hJ hk' F₂).at hits N₃ off
    refine wpAny_mono T (fun _ s₂ h₂' => wpAny_mono h₂' (fun f s₃ p => ?_) hE) hE
    cases f with
    | ret v => exact p
    | brk => exact p
    | next => exact fin _ p
    | cont => exact fin _ p
  · have hin : i = n := Nat.le_antisymm hi (Nat.not_lt.mp hlt)
    subst hin
    refine W.done _ _ _ hst' fun h₁ tk₁ hk₁ => ?_
    obtain ⟨F₁, N₁⟩ := next h₁ hk₁
    exact wpAny_mono (done h₁ tk₁ m' news' F₁ N₁ hk' hJ) (fun _ _ x => x) hE
end

section
variable {prog : Program} {w : World} {A : Around} {E : Value → Shared → Prop} {s : Shared} {env : Env} {h₀ : Heap} {target iter : PySem.Expr} {body orelse : List Stmt} {pos : Pos} {Q : Flow → Shared → Prop} {J : Nat → (Str → Option Value) → List (Addr × Obj) → Prop} {m₀ : Str → Option Value} {news : List (Addr × Obj)}
theorem forJF (F : Fr h₀ env.locals s.heap m₀) (h : wpAny (model prog w) A (eval iter env) (fun xv s₁ => wpAny (model prog w) A (pyIter xv) (fun it s₂ => TurnsJ prog w A h₀ env target body orelse Q E it s₂) E s₁) E s)
    (hs : ∀ x, foldedSetIterable iter env x = pure x := by intro _; rfl) : wpAny (model prog w) A (exec (.For target iter body orelse pos) env) Q E s := forJ h₀ h hs
/-- a name of the frame's told ahead of all else -/
theorem frPin {L : Addr} {h : Heap} {m : Str → Option Value} {x : Str} {v : Value} (F : Fr h₀ L h m) (e : m x = some v) : Fr h₀ L h (fun y => if y = x then some v else m y) := by
  have : (fun y => if y = x then some v else m y) = m := by
    funext y
    by_cases q : y = x
    · rw [if_pos q, q, e]
    · rw [if_neg q]
  rw [this]; exact F
theorem frPin2 {L : Addr} {h : Heap} {m : Str → Option Value} {x1 x2 : Str} {v1 v2 : Value} (F : Fr h₀ L h m) (e1 : m x1 = some v1) (e2 : m x2 = some v2) : Fr h₀ L h (fun y => if y = x1 then some v1 else if y = x2 then some v2 else m y) := by
  have F2 := frPin F e2
  refine frPin F2 ?_
  show (if x1 = x2 then some v2 else m x1) = some v1
  by_cases q : x1 = x2
  · rw [if_pos q, ← e2, ← q, e1]
  · rw [if_neg q, e1]
theorem frPin3 {L : Addr} {h : Heap} {m : Str → Option Value} {x1 x2 x3 : Str} {v1 v2 v3 : Value} (F : Fr h₀ L h m) (e1 : m x1 = some v1) (e2 : m x2 = some v2) (e3 : m x3 = some v3) : Fr h₀ L h (fun y => if y = x1 then some v1 else if y = x2 then some v2 else if y = x3 then some v3 else m y) := by
  have F2 := frPin2 F e2 e3
  refine frPin F2 ?_
  show (if x1 = x2 then some v2 else if x1 = x3 then some v3 else m x1) = some v1
  by_cases q : x1 = x2
  · rw [if_pos q, ← e2, ← q, e1]
  · rw [if_neg q]
    by_cases r : x1 = x3
    · rw [if_pos r, ← e3, ← r, e1]
    · rw [if_neg r, e1]
theorem newsOnly {L : Addr} {h : Heap} {news : List (Addr × Obj)} {p : Addr × Obj} (N : News h₀ L h news) (hp : p ∈ news) : News h₀ L h [p] := fun q hq => N q (by rw [List.mem_singleton.mp hq]; exact hp)
theorem newsOnly2 {L : Addr} {h : Heap} {news : List (Addr × Obj)} {a b p : Addr × Obj} (N : News h₀ L h (a :: b :: news)) (hp : p ∈ news) : News h₀ L h [a, b, p] := fun q hq => by
  rcases List.mem_cons.mp hq with rfl | hq
  · exact N _ (.head _)
  rcases List.mem_cons.mp hq with rfl | hq
  · exact N _ (.tail _ (.head _))
  rw [List.mem_singleton.mp hq]
  exact N _ (.tail _ (.tail _ hp))
def AllNe (d : Addr) : List (Addr × Obj) → Prop
  | [] => True
  | p :: r => @Ne Nat p.1 d ∧ AllNe d r
theorem allNe_of {d : Addr} : ∀ {l : List (Addr × Obj)}, (∀ p ∈ l, p.1 ≠ d) → AllNe d l
  | [], _ => trivial
  | p :: _, h => ⟨h p (.head _), allNe_of fun q hq => h q (.tail _ hq)⟩
theorem newAddr {L b : Addr} {h : Heap} {m : Str → Option Value} (F : Fr h₀ L h m) (hb : h.objs.size ≤ b) : h₀.get? b = none ∧ b ≠ L := by
  refine ⟨ktu_new F hb, fun e => ?_⟩
  rw [e] at hb
  exact absurd F.ns.lt (Nat.not_lt.mpr hb)
/-- over a tuple that stood before the call -/
theorem iterTupJ {ax : Addr} {vs : List Value} (hh : A.handled = none) (hT : h₀.IsTuple ax vs.toArray) (F : Fr h₀ env.locals s.heap m₀) (N : News h₀ env.locals s.heap news) (h0 : J 0 m₀ news)
    (turn : ∀ i v h tk m₁ news₁ I o, vs[i]? = some v → J i m₁ news₁ → Fr h₀ env.locals h m₁ → o.cls = .type "tuple_iterator" → News h₀ env.locals h ((I, o) :: news₁) → (∀ p ∈ news₁, p.1 ≠ I) →
      wpAny (model prog w) A (assign target env v) (fun _ s₂ => wpAny (model prog w) A (execs body env) (UnrPostW h₀ env.locals { s with heap := h, toks := tk } [(I, o)] (fun m' n' => SubL [] n' ∧ J (i + 1) m' n') Q) E s₂) E { s with heap := h, toks := tk })
    (done : ∀ h tk m' news', Fr h₀ env.locals h m' → News h₀ env.locals h news' → J vs.length m' news' → wpAny (model prog w) A (execs orelse env) Q E { s with heap := h, toks := tk })
    (hE : PassesOwn (model prog w) A env E) : wpAny (model prog w) A (pyIter (.ref ax)) (fun it s₂ => TurnsJ prog w A h₀ env target body orelse Q E it s₂) E s := by
  have hl : s.heap.IsTuple ax vs.toArray := hT.at fun o e => F.keep ax o e
  obtain ⟨ox, hox, _⟩ := id hT
  have hne : ax ≠ s.heap.objs.size := Nat.ne_of_lt (Heap.lt_size (F.keep _ _ hox))
  refine wpAny_pyIter_tuple hl ?_
  refine loopJ (tk0 := s.toks) (ws := [(s.heap.objs.size, "tuple_iterator")]) (keep := []) (J := J) (m₀ := m₀) (news := news) (KTurns.ofWalks (Walks.tuple hh s.heap.objs.size ax hne vs.toArray) fun i v s Q E st q => letGo_tupleiter st.1 q)
    (fun i h st => ?_) (fun b hb => ?_) (fun b hb => hb) (fun b hb => ?_) (fun p hp hI => ?_) ⟨⟨_, Heap.get?_push_size _ rfl, rfl, rfl⟩, hl.at fun o e => Heap.get?_push_of_some _ e⟩ (F.push _) (fun p hp => ⟨Heap.get?_push_of_some _ (N p hp).1, (N p hp).2⟩) trivial h0 ?_ ?_ hE
  · obtain ⟨it, hit, hic, _⟩ := st.1
    exact ⟨[(s.heap.objs.size, it)], ⟨⟨rfl, hic⟩, trivial⟩, fun p hp => by rw [List.mem_singleton.mp hp]; exact hit⟩
  · rw [List.mem_singleton.mp hb]
    exact newAddr F (Nat.le_refl _)
  · rcases List.mem_cons.mp hb with e | hb
    · exact .inl (by simp [e])
    · rw [List.mem_singleton.mp hb]
      exact .inr (.inl ⟨ox, hox⟩)
  · exact absurd (Heap.lt_size (N p hp).1) ((List.mem_singleton.mp hI) ▸ Nat.lt_irrefl _)
  · intro i v h tk m₁ news₁ hi hP hJ _ F₁ o ho
    refine AllObj.nil fun N₁ off => turn i v h tk m₁ news₁ _ o (by simpa using hP) hJ F₁ ho N₁ fun p hp => off p hp _ (List.mem_singleton.mpr rfl)
  · intro h tk m' news' F' N' _ hJ
    exact done h tk m' news' F' N' (by simpa using hJ)
/-- «for i, x in enumerate(t)», t a tuple that stood before the call -/
theorem enumTupJ {elts : List PySem.Expr} {k : Nat} {l : Addr} {vs : List Value} (hh : A.handled = none) (hT : h₀.IsTuple l vs.toArray) (F : Fr h₀ env.locals s.heap m₀) (N : News h₀ env.locals s.heap news) (h0 : J 0 m₀ news)
    (turn : ∀ (i : Nat) x t T h tk m₁ news₁ I I' o o', vs[i]? = some x → J i m₁ news₁ → Fr h₀ env.locals h m₁ → IsTup h T #[.int i t, x] → o.cls = .type "enumerate" → o'.cls = .type "tuple_iterator" → News h₀ env.locals h ((I, o) :: (I', o') :: news₁) → (∀ p ∈ news₁, p.1 ≠ I) → (∀ p ∈ news₁, p.1 ≠ I') →
      wpAny (model prog w) A (assign (.Tuple elts k pos) env (.ref T)) (fun _ s₂ => wpAny (model prog w) A (execs body env) (UnrPostW h₀ env.locals { s with heap := h, toks := tk } [(I, o), (I', o')] (fun m' n' => SubL [] n' ∧ J (i + 1) m' n') Q) E s₂) E { s with heap := h, toks := tk })
    (done : ∀ h tk m' news', Fr h₀ env.locals h m' → News h₀ env.locals h news' → J vs.length m' news' → wpAny (model prog w) A (execs orelse env) Q E { s with heap := h, toks := tk })
    (hE : PassesOwn (model prog w) A env E) :
    wpAny (model prog w) A (call (.type "enumerate") [.ref l]) (fun xv s₁ => wpAny (model prog w) A (pyIter xv) (fun it s₂ => TurnsJ prog w A h₀ env (.Tuple elts k pos) body orelse Q E it s₂) E s₁) E s := by
  have hl : s.heap.IsTuple l vs.toArray := hT.at fun o e => F.keep l o e
  obtain ⟨ox, hox, _⟩ := id hT
  have hlt : l < s.heap.objs.size := Heap.lt_size (F.keep _ _ hox)
  refine call_enumT hl fun h' hEn hI hsz hk => ?_
  refine wpAny_pyIter_enum hEn ?_
  have D : Draws prog w A.in1 s.heap.objs.size [s.heap.objs.size, l] vs.toArray.size (fun i v => vs.toArray[i]? = some v) (fun i h => h.IsTupleIter s.heap.objs.size l i ∧ h.IsTuple l vs.toArray) := drawsTup (A := A.in1) hh _ _ (Nat.ne_of_lt hlt) _
  have hef : s.heap.objs.size + 1 ∉ [s.heap.objs.size, l] := by
    intro q
    rcases List.mem_cons.mp q with q | q
    · exact absurd q (Nat.succ_ne_self _)
    · exact absurd hlt (by rw [← List.mem_singleton.mp q]; exact Nat.not_lt.mpr (Nat.le_succ _))
  refine loopJ (tk0 := s.toks) (ws := [(s.heap.objs.size + 1, "enumerate"), (s.heap.objs.size, "tuple_iterator")]) (keep := []) (J := J) (m₀ := m₀) (news := news) (KTurns.ofWalksU (WalksT.enumerateD D (s.heap.objs.size + 1) (Nat.succ_ne_self _) hef (by simp)).toU)
    ?_ ?_ (fun b hb => hb) ?_ ?_ ⟨⟨.none, hEn⟩, hI, hl.at fun o e => hk l o e⟩ (F.keeps hk) (N.grown hk) trivial h0 ?_ ?_ hE
  · rintro i h ⟨⟨old, he⟩, ⟨oi, hoi, hic, _⟩, _⟩
    have he' : ∃ oe : Obj, h.get? (s.heap.objs.size + 1) = some oe ∧ oe.cls = .type "enumerate" := ⟨_, he, rfl⟩
    obtain ⟨oe, h1, h2⟩ := he'
    refine ⟨[(s.heap.objs.size + 1, oe), (s.heap.objs.size, oi)], ⟨⟨rfl, h2⟩, ⟨rfl, hic⟩, trivial⟩, fun p hp => ?_⟩
    rcases List.mem_cons.mp hp with rfl | hp
    · exact h1
    · rw [List.mem_singleton.mp hp]; exact hoi
  · intro b hb
    have hb' : b = s.heap.objs.size + 1 ∨ b = s.heap.objs.size := by simpa using hb
    rcases hb' with rfl | rfl
    · exact newAddr F (Nat.le_succ _)
    · exact newAddr F (Nat.le_refl _)
  · intro b hb
    have hb' : b = s.heap.objs.size + 1 ∨ b = s.heap.objs.size ∨ b = l := by simpa using hb
    rcases hb' with rfl | rfl | rfl
    · exact .inl (by simp)
    · exact .inl (by simp)
    · exact .inr (.inl ⟨ox, hox⟩)
  · intro p hp hI'
    have hb' : p.1 = s.heap.objs.size + 1 ∨ p.1 = s.heap.objs.size := by simpa using hI'
    have hlp := Heap.lt_size (N p hp).1
    rcases hb' with e | e
    · exact ktu_ne 1 hlp e
    · exact Nat.ne_of_lt hlp e
  · rintro i v h tk m₁ news₁ hi ⟨T, vals, rfl, ⟨t, x, hx, rfl⟩, hTT⟩ hJ _ F₁ o ho o' ho'
    refine AllObj.nil fun N₁ off => turn i x t T h tk m₁ news₁ _ _ o o' (by simpa using hx) hJ F₁ hTT ho ho' N₁ (fun p hp => off p hp (_, o) (.head _)) fun p hp => off p hp (_, o') (.tail _ (.head _))
  · intro h tk m' news' F' N' _ hJ
    exact done h tk m' news' F' N' (by simpa using hJ)
end

/-- the table of filemode: where it stands, its masks and signs -/
def fmT : List (Addr × List (Addr × Int × Str × Tok × Tok)) :=
  [(177, [(170, 40960, Str.ofString "l", 405, 440), (171, 49152, Str.ofString "s", 407, 441), (172, 32768, Str.ofString "-", 401, 442), (173, 24576, Str.ofString "b", 399, 443), (174, 16384, Str.ofString "d", 395, 444), (175, 8192, Str.ofString "c", 397, 445), (176, 4096, Str.ofString "p", 403, 446)]),
   (179, [(178, 256, Str.ofString "r", 422, 447)]), (181, [(180, 128, Str.ofString "w", 424, 448)]), (185, [(182, 2112, Str.ofString "s", 449, 450), (183, 2048, Str.ofString "S", 416, 451), (184, 64, Str.ofString "x", 426, 452)]),
   (187, [(186, 32, Str.ofString "r", 428, 453)]), (189, [(188, 16, Str.ofString "w", 430, 454)]), (193, [(190, 1032, Str.ofString "s", 455, 456), (191, 1024, Str.ofString "S", 418, 457), (192, 8, Str.ofString "x", 432, 458)]),
   (195, [(194, 4, Str.ofString "r", 434, 459)]), (197, [(196, 2, Str.ofString "w", 436, 460)]), (201, [(198, 513, Str.ofString "t", 461, 462), (199, 512, Str.ofString "T", 420, 463), (200, 1, Str.ofString "x", 438, 464)])]
theorem fm_heap (P : Params) : ∀ e ∈ fmT, (hd.heap_1 P).lookup e.1 = some (tupleO (e.2.map fun p => Value.ref p.1).toArray 0) ∧ ∀ p ∈ e.2, (hd.heap_1 P).lookup p.1 = some (tupleO #[.int p.2.1 p.2.2.2.1, .str p.2.2.1 p.2.2.2.2] 0) := by
  unfold fmT
  repeat' (first | exact List.forall_mem_nil _ | refine List.forall_mem_cons.mpr ⟨?_, ?_⟩ | refine And.intro rfl ?_ | exact rfl)
theorem fm_top (P : Params) : (hd.heap_1 P).lookup 202 = some (tupleO (fmT.map fun e => Value.ref e.1).toArray 0) := rfl
def fmTest (i : Nat) (n b : Int) : Bool := if i = 0 then Builtin.bitAnd n 61440 == b else Builtin.bitAnd n b == b
def fmPick (i : Nat) (n : Int) : List (Addr × Int × Str × Tok × Tok) → Str
  | [] => if i = 0 then Str.ofString "?" else Str.ofString "-"
  | p :: r => if fmTest i n p.2.1 = true then p.2.2.1 else fmPick i n r
def fmCols (n : Int) : List Str := fmT.zipIdx.map fun e => fmPick e.2 n e.1.2
theorem pick_at {i : Nat} {n : Int} {p : Addr × Int × Str × Tok × Tok} : ∀ {ps : List (Addr × Int × Str × Tok × Tok)} {j : Nat}, (∀ q ∈ ps.take j, fmTest i n q.2.1 = false) → ps[j]? = some p → fmTest i n p.2.1 = true → fmPick i n ps = p.2.2.1
  | [], _, _, h, _ => by simp at h
  | q :: r, 0, _, h, ht => by
    have : q = p := by simpa using h
    subst this
    rw [fmPick, if_pos ht]
  | q :: r, j + 1, hf, h, ht => by
    have h1 := hf q (by simp)
    rw [fmPick, h1, if_neg (by decide)]
    exact pick_at (ps := r) (j := j) (fun x hx => hf x (by rw [List.take_succ_cons]; exact .tail _ hx)) (by simpa using h) ht
theorem pick_none {i : Nat} {n : Int} : ∀ {ps : List (Addr × Int × Str × Tok × Tok)}, (∀ q ∈ ps, fmTest i n q.2.1 = false) → fmPick i n ps = if i = 0 then Str.ofString "?" else Str.ofString "-"
  | [], _ => rfl
  | q :: r, hf => by
    have h1 := hf q (by simp)
    rw [fmPick, h1, if_neg (by decide)]
    exact pick_none fun x hx => hf x (by simp [hx])
inductive JO (n : Int) (i : Nat) (m : Str → Option Value) (news : List (Addr × Obj)) : Prop
  | mk (D : Addr) (vs : Array Value) (k : Nat) (t : Tok) (hm1 : m (Str.ofString "mode") = some (.int n t)) (hm2 : m (Str.ofString "perm") = some (.ref D)) (hmem : (D, listO vs k) ∈ news) (hS : StrsAre vs.toList ((fmCols n).take i)) : JO n i m news
inductive JI (n : Int) (i : Nat) (ps : List (Addr × Int × Str × Tok × Tok)) (D : Addr) (vs : Array Value) (k : Nat) (its : List (Addr × Obj)) (j : Nat) (m : Str → Option Value) : List (Addr × Obj) → Prop
  | mk (t ti : Tok) (hm1 : m (Str.ofString "mode") = some (.int n t)) (hm2 : m (Str.ofString "perm") = some (.ref D)) (hm3 : m (Str.ofString "index") = some (.int (i : Int) ti)) (hno : ∀ p ∈ ps.take j, fmTest i n p.2.1 = false) : JI n i ps D vs k its j m (its ++ [(D, listO vs k)])
theorem fm_item {n : Int} {i : Nat} {x : Value} (h : (fmT.map fun e => Value.ref e.1)[i]? = some x) : ∃ e, fmT[i]? = some e ∧ e ∈ fmT ∧ x = .ref e.1 ∧ (fmCols n)[i]? = some (fmPick i n e.2) := by
  rw [List.getElem?_map] at h
  obtain ⟨e, he, rfl⟩ := Option.map_eq_some_iff.mp h
  refine ⟨e, he, List.mem_of_getElem? he, rfl, ?_⟩
  unfold fmCols
  rw [List.getElem?_map, List.getElem?_zipIdx, he]
  simp
theorem pair_item {ps : List (Addr × Int × Str × Tok × Tok)} {j : Nat} {v : Value} (h : (ps.map fun p => Value.ref p.1)[j]? = some v) : ∃ p, ps[j]? = some p ∧ p ∈ ps ∧ v = .ref p.1 := by
  rw [List.getElem?_map] at h
  obtain ⟨p, hp, rfl⟩ := Option.map_eq_some_iff.mp h
  exact ⟨p, hp, List.mem_of_getElem? hp, rfl⟩
theorem fm_isTup {P : Params} {h : Heap} (X : (hd.heap_1 P).In h) {e : Addr × List (Addr × Int × Str × Tok × Tok)} (he : e ∈ fmT) : h.IsTuple e.1 (e.2.map fun p => Value.ref p.1).toArray := ⟨_, X _ _ (fm_heap P e he).1, rfl, 0, rfl⟩
theorem fm_isPair {P : Params} {h : Heap} (X : (hd.heap_1 P).In h) {e : Addr × List (Addr × Int × Str × Tok × Tok)} (he : e ∈ fmT) {p : Addr × Int × Str × Tok × Tok} (hp : p ∈ e.2) : IsTup h p.1 #[.int p.2.1 p.2.2.2.1, .str p.2.2.1 p.2.2.2.2] := ⟨_, X _ _ ((fm_heap P e he).2 p hp), rfl, 0, rfl⟩
theorem strs_snoc {c : Str} {t : Tok} {l : List Value} {ys : List Str} (h : StrsAre l ys) : StrsAre (l ++ [.str c t]) (ys ++ (some c).toList) := by
  induction h with
  | nil => exact StrsAre.cons _ _ StrsAre.nil
  | cons y t' _ ih => exact StrsAre.cons _ _ ih
theorem JO_step {n : Int} {i : Nat} {vs : Array Value} {c d : Str} {t : Tok} (h : StrsAre vs.toList ((fmCols n).take i)) (hc : (fmCols n)[i]? = some d) (e : d = c) : StrsAre (vs.push (.str c t)).toList ((fmCols n).take (i + 1)) := by
  subst e
  rw [List.take_add_one, hc, Array.toList_push]
  exact strs_snoc h
theorem pick_len {i : Nat} {n : Int} : ∀ {ps : List (Addr × Int × Str × Tok × Tok)}, (∀ p ∈ ps, p.2.2.1.length = 1) → (fmPick i n ps).length = 1
  | [], _ => by unfold fmPick; split <;> decide +kernel
  | q :: r, hf => by
    unfold fmPick
    split
    · exact hf q (.head _)
    · exact pick_len fun p hp => hf p (.tail _ hp)
theorem fm_ones : ∀ e ∈ fmT, ∀ p ∈ e.2, p.2.2.1.length = 1 := by decide +kernel
theorem cols_one (n : Int) : ∀ c ∈ fmCols n, c.length = 1 := by
  intro c hc
  unfold fmCols at hc
  obtain ⟨⟨e, i⟩, he, rfl⟩ := List.mem_map.mp hc
  exact pick_len (fm_ones e (by have := List.mem_zipIdx he; exact List.mem_of_getElem? (List.getElem?_eq_some_iff.mpr ⟨by simpa using this.2.1, by simpa using this.2.2.symm⟩)))
theorem cols_len (n : Int) : (fmCols n).length = 10 := by unfold fmCols; rw [List.length_map, List.length_zipIdx]; rfl
theorem sum_ones : ∀ {l : List Str}, (∀ c ∈ l, c.length = 1) → (l.map (·.length)).sum = l.length
  | [], _ => rfl
  | c :: r, h => by rw [List.map_cons, List.sum_cons, h c (.head _), sum_ones fun d hd => h d (.tail _ hd), List.length_cons]; omega
theorem cols_weight (n : Int) : ((fmCols n).map (·.length)).sum + (fmCols n).length ≤ 20000 := by rw [sum_ones (cols_one n), cols_len]; decide
theorem cols_all {n : Int} {vs : List Value} (h : StrsAre vs ((fmCols n).take (fmT.map fun e => Value.ref e.1).length)) : StrsAre vs (fmCols n) := by
  have e : (fmCols n).take (fmT.map fun e => Value.ref e.1).length = fmCols n := List.take_of_length_le (by rw [cols_len]; decide)
  rw [e] at h; exact h
section
variable {i j : Nat} {n : Int} {ps : List (Addr × Int × Str × Tok × Tok)} {p : Addr × Int × Str × Tok × Tok} {f : Addr × Int × Str × Tok × Tok → Value}
theorem no_all (h : ∀ q ∈ ps.take (ps.map f).length, fmTest i n q.2.1 = false) : ∀ q ∈ ps, fmTest i n q.2.1 = false := by
  rw [List.length_map, List.take_length] at h; exact h
theorem pickA (h : ∀ q ∈ ps.take (ps.map f).length, fmTest i n q.2.1 = false) (hi : (i : Int) = 0) : fmPick i n ps = Str.ofString "?" := by rw [pick_none (no_all h), if_pos (by omega)]
theorem pickB (h : ∀ q ∈ ps.take (ps.map f).length, fmTest i n q.2.1 = false) (hi : (i : Int) ≠ 0) : fmPick i n ps = Str.ofString "-" := by rw [pick_none (no_all h), if_neg (by omega)]
theorem testZ {b : Int} (hi : (i : Int) = 0) : fmTest i n b = (Builtin.bitAnd n 61440 == b) := by rw [fmTest, if_pos (by omega)]
theorem testN {b : Int} (hi : (i : Int) ≠ 0) : fmTest i n b = (Builtin.bitAnd n b == b) := by rw [fmTest, if_neg (by omega)]
theorem pickC (h : ∀ q ∈ ps.take j, fmTest i n q.2.1 = false) (hp : ps[j]? = some p) (hi : (i : Int) = 0) (e : Builtin.bitAnd n 61440 = p.2.1) : fmPick i n ps = p.2.2.1 := pick_at h hp (by rw [testZ hi, e]; simp)
theorem pickD (h : ∀ q ∈ ps.take j, fmTest i n q.2.1 = false) (hp : ps[j]? = some p) (hi : (i : Int) ≠ 0) (e : Builtin.bitAnd n p.2.1 = p.2.1) : fmPick i n ps = p.2.2.1 := pick_at h hp (by rw [testN hi, e]; simp)
theorem no_more (h : ∀ q ∈ ps.take j, fmTest i n q.2.1 = false) (hp : ps[j]? = some p) (e : fmTest i n p.2.1 = false) : ∀ q ∈ ps.take (j + 1), fmTest i n q.2.1 = false := by
  intro q hq
  rw [List.take_add_one, hp] at hq
  rcases List.mem_append.mp hq with hq | hq
  · exact h q hq
  · have : q = p := by simpa using hq
    rw [this]; exact e
theorem no_moreZ (h : ∀ q ∈ ps.take j, fmTest i n q.2.1 = false) (hp : ps[j]? = some p) (hi : (i : Int) = 0) (e : Builtin.bitAnd n 61440 ≠ p.2.1) : ∀ q ∈ ps.take (j + 1), fmTest i n q.2.1 = false := no_more h hp (by rw [testZ hi]; simpa using e)
theorem no_moreN (h : ∀ q ∈ ps.take j, fmTest i n q.2.1 = false) (hp : ps[j]? = some p) (hi : (i : Int) ≠ 0) (e : Builtin.bitAnd n p.2.1 ≠ p.2.1) : ∀ q ∈ ps.take (j + 1), fmTest i n q.2.1 = false := no_more h hp (by rw [testN hi]; simpa using e)
end
theorem cols_few {n : Int} {i : Nat} {vs : Array Value} (h : StrsAre vs.toList ((fmCols n).take i)) : vs.size ≤ 10 := by
  have e : vs.toList.length = ((fmCols n).take i).length := h.length
  rw [List.length_take, cols_len, Array.length_toList] at e
  omega
section
theorem filemode_spec {w : World} (n : Int) (t : Tok) : SpecT 2 w 209 [.int n t] [] (Txt.join (Str.ofString "") (fmCols n)) := by
  k_with_none
  w_top off
  k_with "my open" => (((try unfold SpecS); (try unfold SpecI); (try unfold SpecB); (try unfold SpecT); unfold Spec; k_fill; intros; refine wpAny_call ?_))
  k_with "my sub" => (first | exact List.forall_mem_nil _ | (refine' List.forall_mem_cons.mpr ⟨?a_r4, ?b_r4⟩; (case a_r4 => k_mem); (case b_r4 => walk_at "my sub")))
  k_with "my keep" => (exact keepZ (by assumption) (by assumption) (by assumption) (by assumption) (by walk_at "my sub"))
  k_with "my use" => (((case b1 => k_asm); (case f1 => k_asm); (case x1 => k_asm); (case n1 => k_asm); (case t1 => k_asm); (case kk => first | exact rfl | assumption); (case hd => first | exact room1 (by with_reducible assumption) rfl | omega | ((try dsimp only [A9]); (try dsimp only [Around.deeper]); omega) | (trace_state; ktr_room)); (case hu => first | exact units1 (by with_reducible assumption) rfl | omega | ((try dsimp only [A9]); (try dsimp only [Around.deeper]); omega) | (trace_state; ktr_units)); (case ha => walk_at "my sub")))
  k_with "my len" => (first | with_reducible assumption | with_reducible exact Nat.le_of_eq (two_len _) | with_reducible exact Nat.le_of_eq (four_len _) | with_reducible exact Nat.le_of_eq (wdN_len (by assumption)) | with_reducible exact Nat.le_of_eq (moN_len (by assumption)) | with_reducible exact lit_len)
  k_with "my text" => (first | with_reducible exact slice_wd (by assumption) | with_reducible exact slice_mo (by assumption) | with_reducible exact zfill_four (by assumption) | with_reducible exact rfl)
  k_with "binaryOp Add str str" => ((k_here; (refine' add_strE ?e1_r15 ?e2_r15 ?a1_r15 ?a2_r15 ?a3_r15 ?_; (case e1_r15 => walk_at "my text"); (case e2_r15 => walk_at "my text"); (case a1_r15 => walk_at "my len"); (case a2_r15 => walk_at "my len"); (case a3_r15 => omega); intro t'm tk'm ln'm)))
  k_with "inplaceOp Add str str" => ((k_here; (refine' iadd_strE ?e1_r16 ?e2_r16 ?a1_r16 ?a2_r16 ?a3_r16 ?_; (case e1_r16 => walk_at "my text"); (case e2_r16 => walk_at "my text"); (case a1_r16 => walk_at "my len"); (case a2_r16 => walk_at "my len"); (case a3_r16 => omega); intro t'm tk'm ln'm)))
  k_with "my entered" => (((case kA => exact rfl); (case kF => exact rfl); (case kK => assumption); (case k1 => k_asm); (case k2 => k_asm); (case k3 => k_asm); (case k4 => k_asm); (case k5 => k_asm); (case k6 => k_is); (case k7 => k_is); (case k8 => ktr_room); (case k9 => exact BindsTo.of_eq rfl); (case c5 => decide); (case kB => exact locs rfl); (case kL => exact rfl); (case c2 => exact rfl); (case c3 => exact rfl); (case c4 => exact rfl); k_whole; intro g'm L'm h'm tk'm HG'm F'm N'm B'm X'm T'm l1m; (try k_lt l1m); (try dsimp only); (try k_lift B'm); (try k_unmd); (try k_fold); (try refine (let A9 := _; (?_ : PySem.wpAny _ A9 _ _ _ _))); (try refine (let e9 := _; (?_ : PySem.wpAny _ _ (PySem.execs _ e9) _ _ _)))))
  k_with "execs cons" => ((k_here; (try ((fail_if_success (fail_if_success k_fold)); (refine (let q8 := _; (?_ : PySem.wpAny _ _ _ q8 _ _))))); (with_reducible refine seqA ?_); (refine (let q8 := _; (?_ : PySem.wpAny _ _ _ q8 _ _))); (try ((with_reducible rename Fr _ _ _ (fun _ => _) => lF8); (refine (let lm8 := _; (fun (F' : Fr _ _ _ lm8) => ?_) lF8)); clear lF8))))
  k_with "execs cons" => ((k_here; k_gentoks))
  k_with "execs cons" => ((k_here; k_made; walk_at "execs cons"))
  k_with "eval Call" => ((k_here; (fail_if_success (fail_if_success k_fold)); (refine (let q8 := _; (?_ : PySem.wpAny _ _ _ q8 _ _)))))
  k_with "eval BinOp" => ((k_here; (fail_if_success (fail_if_success k_fold)); (refine (let q8 := _; (?_ : PySem.wpAny _ _ _ q8 _ _)))))
  k_with "eval Subscript" => ((k_here; (fail_if_success (fail_if_success k_fold)); (refine (let q8 := _; (?_ : PySem.wpAny _ _ _ q8 _ _)))))
  k_with "eval Tuple" => ((k_here; (fail_if_success (fail_if_success k_fold)); (refine (let q8 := _; (?_ : PySem.wpAny _ _ _ q8 _ _)))))
  k_with "eval List" => ((k_here; (fail_if_success (fail_if_success k_fold)); (refine (let q8 := _; (?_ : PySem.wpAny _ _ _ q8 _ _)))))
  k_with "eval Compare" => ((k_here; (fail_if_success (fail_if_success k_fold)); (refine (let q8 := _; (?_ : PySem.wpAny _ _ _ q8 _ _)))))
  k_with "call ref" => ((k_here; (fail_if_success (fail_if_success k_fold)); (refine (let q8 := _; (?_ : PySem.wpAny _ _ _ q8 _ _)))))
  k_with "callWith ref" => ((k_here; k_dflt (refine' callA1 ?k1_r37 ?k2_r37 ?_; (case k1_r37 => k_asm); (case k2_r37 => k_is); k_whole)))
  k_with "callWith ref" => ((k_here; k_dflt (refine' callA2 ?k1_r38 ?k2_r38 ?_; (case k1_r38 => k_asm); (case k2_r38 => k_is); k_whole)))
  k_with "isTrue BoolOp" => ((k_here; (fail_if_success (fail_if_success k_fold)); (refine (let q8 := _; (?_ : PySem.wpAny _ _ _ q8 _ _)))))
  k_with "isTrue Compare" => ((k_here; (fail_if_success (fail_if_success k_fold)); (refine (let q8 := _; (?_ : PySem.wpAny _ _ _ q8 _ _)))))
  k_with "isTrue UnaryOp" => ((k_here; (fail_if_success (fail_if_success k_fold)); (refine (let q8 := _; (?_ : PySem.wpAny _ _ _ q8 _ _)))))
  k_with "assign Name" => ((k_here; (fail_if_success (fail_if_success k_fold)); (refine (let q8 := _; (?_ : PySem.wpAny _ _ _ q8 _ _)))))
  k_with "assign Tuple" => ((k_here; (fail_if_success (fail_if_success k_fold)); (refine (let q8 := _; (?_ : PySem.wpAny _ _ _ q8 _ _)))))
  k_with "callWith" => ((k_here; (with_reducible show PySem.wpAny _ _ (PySem.callWith _ (PySem.Value.builtin _) _ _ []) _ _ _); k_dflt (first | refine callM1 ?_ | refine callM2 ?_ | refine callB1 ?_ | refine callB2 ?_); k_whole))
  k_with "call builtin:str.join" => ((k_here; k_dflt (refine' joinE ?ja_r59 ?jb_r59 ?jc_r59 (cols_weight _) ?_; (case ja_r59 => is_list); (case jb_r59 => with_reducible assumption); (case jc_r59 => decide +kernel)); intro t'm k'm ln'm))
  k_with "exec For Tuple Call cons nil" => ((k_here; (rename Fr _ _ _ _ => lF'm); (with_unfolding_all refine' forJF lF'm ?_; k_whole)))
  k_with "exec For Tuple Name cons cons" => ((k_here; (rename Fr _ _ _ _ => lF'm); (with_unfolding_all refine' forJF lF'm ?_; k_whole)))
  k_with "call ref" => (k_here; k_dflt (refine' Spec.use (ifmt_spec _ _) ?b1 ?f1 ?x1 ?n1 ?t1 ?kk ?hd ?hu ?ha ?_; walk_at "my use"; k_whole; rintro _ _ h' tk' F' N' lt' ⟨rfl, t', rfl⟩; (try dsimp only [List.nil_append] at N'); clear lt'))
  k_with "call type:enumerate" => ((rename Fr _ _ _ _ => lF'); (rename News _ _ _ _ => lN'); (with_unfolding_all refine' enumTupJ (J := JO n) (vs := fmT.map fun e => Value.ref e.1) (by rfl) ?hT lF' lN' ?h0 ?turn ?done (by passes_own)); (case hT => exact ⟨_, (by assumption : (hd.heap_1 w.params).In _) _ _ (fm_top _), rfl, 0, rfl⟩); (case h0 => exact ⟨_, #[], 0, _, rfl, rfl, .head _, StrsAre.nil⟩); clear lF' lN'; (case' turn => (intro i x ti T h tk m₁ news₁ I I' o o' hx hJ F' hTT ho ho' N' off off'; (refine (let G9 : Prop := _; (?_ : G9))); (obtain ⟨D, vs, k, t0, hm1, hm2, hmem, hS⟩ := hJ); (replace N' := newsOnly2 N' hmem); (have off1 := neN (off _ hmem)); (have off2 := neN (off' _ hmem)); (obtain ⟨e, he, hem, rfl, hcol⟩ := fm_item (n := n) hx); (have hvs := cols_few hS); (dsimp only at off1 off2); (replace F' := frPin2 F' hm1 hm2))); (case' done => (intro h tk m₁ news₁ F' N' hJ; (refine (let G9 : Prop := _; (?_ : G9))); (obtain ⟨D, vs, k, t0, hm1, hm2, hmem, hS⟩ := hJ); (replace N' := newsOnly N' hmem); (replace hS := cols_all hS); (replace F' := frPin2 F' hm1 hm2))))
  k_with "pyIter ref" => ((rename Fr _ _ _ _ => lF'); (rename News _ _ _ _ => lN'); (with_unfolding_all refine' iterTupJ (J := JI n i e.2 D vs k [(I, o), (I', o')]) (vs := e.2.map fun p => Value.ref p.1) (by rfl) ?hT2 lF' lN' ?h02 ?turn2 ?done2 (by passes_own)); (case hT2 => exact fm_isTup (by assumption) hem); (case h02 => exact ⟨_, _, rfl, rfl, rfl, fun q hq => by simp at hq⟩); clear lF' lN'; (case' turn2 => (intro j v h tk m₁ news₁ I2 o2 hv hJ F' ho2 N' off2; (refine (let G9 : Prop := _; (?_ : G9))); (obtain ⟨t1, ti1, hm1, hm2, hm3, hno⟩ := hJ); (obtain ⟨p, hp, hpm, rfl⟩ := pair_item hv); (dsimp only [List.cons_append, List.nil_append] at N' off2); (replace off2 := allNe_of off2); (simp only [AllNe, and_true] at off2); (have hPP := fm_isPair (Frag.In.keeps (by assumption) F'.keep) hem hpm); (replace F' := frPin3 F' hm1 hm2 hm3))); (case' done2 => (intro h tk m₁ news₁ F' N' hJ; (refine (let G9 : Prop := _; (?_ : G9))); (obtain ⟨t1, ti1, hm1, hm2, hm3, hno⟩ := hJ); (dsimp only [List.cons_append, List.nil_append] at N'); (replace F' := frPin3 F' hm1 hm2 hm3))))
  w_top off; walk_at "my open"; k_dflt (refine' enterP ?k1 ?k2 ?k3 ?k4 ?k5 ?kA ?kF ?kK ?k6 ?k7 ?k8 ?k9 ?kB [(Str.ofString "mode", .int n t)] ?kL ?_ ?c2 ?c3 ?c4 ?c5; walk_at "my entered")
  repeat' (first | ((fail_if_success goal_has PySem.wpAny); (try dsimp only); first | (with_reducible refine seqN ?_) | ((with_reducible refine seqE ?_); (try dsimp only)) | ((with_reducible refine seqR ?_); (try dsimp only)) | ((with_reducible refine seqC ?_); (try dsimp only)) | ((with_reducible refine seqB ?_); (try dsimp only))) | ((fail_if_success (fail_if_success k_unfold)); (try dsimp only); k_unfold; (try dsimp only)) | ((fail_if_success goal_has PySem.wpAny); show PySem.wpAny _ _ _ _ _ _; (try dsimp only)) | walk1 | (dsimp only; walk1) | fail "no step")
  all_goals first
    | (refine' retTE (by assumption) ?_ rfl; walk_at "my keep")
    | exact ⟨D, _, _, _, rfl, rfl, by k_mem, JO_step hS hcol (by first | exact pickA hno (by assumption) | exact pickB hno (by assumption) | exact pickC hno hp (by assumption) (by assumption) | exact pickD hno hp (by assumption) (by assumption))⟩
    | exact ⟨_, _, rfl, rfl, rfl, by first | exact no_moreZ hno hp (by assumption) (by assumption) | exact no_moreN hno hp (by assumption) (by assumption)⟩
end

section
local macro_rules | `(tactic| omega) => `(tactic| lia)
theorem and_even (x y : Int) : Builtin.bitAnd x (2 * y) = 2 * Builtin.bitAnd (x / 2) y := by
  rw [kbt_halves, show 2 * y / 2 = y by omega, if_neg (by omega)]
  omega
theorem and_shift (k : Nat) : ∀ x y : Int, Builtin.bitAnd x (2 ^ k * y) = 2 ^ k * Builtin.bitAnd (x / 2 ^ k) y := by
  induction k with
  | zero => intro x y; simp
  | succ k ih =>
    intro x y
    rw [show (2 : Int) ^ (k + 1) * y = 2 * (2 ^ k * y) by rw [Int.pow_succ]; rw [Int.mul_comm (2 ^ k) 2, Int.mul_assoc], and_even, ih, Int.ediv_ediv_of_nonneg (by decide), show (2 : Int) * 2 ^ k = 2 ^ (k + 1) by rw [Int.pow_succ, Int.mul_comm], ← Int.mul_assoc, show (2 : Int) * 2 ^ k = 2 ^ (k + 1) by rw [Int.pow_succ, Int.mul_comm]]
theorem and_kind (n : Int) : Builtin.bitAnd n 61440 = 4096 * (n / 4096 % 16) := by
  have h := and_shift 12 n 15
  rw [bitAnd_m4] at h
  exact h
theorem and_one (n : Int) (k : Nat) : Builtin.bitAnd n (2 ^ k) = (n / 2 ^ k % 2) * 2 ^ k := kbt_bit n k
theorem col_bit {i : Nat} {n b : Int} {a : Addr} {t u : Tok} {x : String} {c : Nat} (k : Nat) (hb : b = 2 ^ k) (hi : i ≠ 0) (hx : Str.ofString x = ⟨#[c]⟩) (hd : Str.ofString "-" = ⟨#[45]⟩ := by decide +kernel) : fmPick i n [(a, b, Str.ofString x, t, u)] = ⟨#[bitC (n / b % 2) c]⟩ := by
  subst hb
  have hp : (0 : Int) < 2 ^ k := Int.pow_pos (by decide)
  unfold fmPick fmPick fmTest bitC
  rw [if_neg hi, if_neg hi, and_one, hx, hd]
  by_cases h : n / 2 ^ k % 2 = 1
  · rw [h, Int.one_mul, if_pos (by simp), if_pos rfl]
  · have h0 : n / 2 ^ k % 2 = 0 := by omega
    rw [h0, Int.zero_mul, if_neg (by simp; omega), if_neg (by decide)]
theorem col_exec {i : Nat} {n b1 b2 b3 s v : Int} {a1 a2 a3 : Addr} {t1 u1 t2 u2 t3 u3 : Tok} {x y : String} {c d : Nat} (e1 : Builtin.bitAnd n b1 = s * b2 + v * b3) (e2 : Builtin.bitAnd n b2 = s * b2) (e3 : Builtin.bitAnd n b3 = v * b3) (hb : b1 = b2 + b3) (p3 : 0 < b3) (p2 : b3 < b2)
    (hs : s = 0 ∨ s = 1) (hv : v = 0 ∨ v = 1) (hi : i ≠ 0) (hx : Str.ofString x = ⟨#[c]⟩) (hy : Str.ofString y = ⟨#[d]⟩)
    (hz : Str.ofString "x" = ⟨#[120]⟩ := by decide +kernel) (hd : Str.ofString "-" = ⟨#[45]⟩ := by decide +kernel) :
    fmPick i n [(a1, b1, Str.ofString x, t1, u1), (a2, b2, Str.ofString y, t2, u2), (a3, b3, Str.ofString "x", t3, u3)] = ⟨#[execC s v c d]⟩ := by
  unfold fmPick fmPick fmPick fmPick fmTest execC
  rw [if_neg hi, if_neg hi, if_neg hi, if_neg hi, e1, e2, e3, hx, hy, hz, hd, hb]
  rcases hs with rfl | rfl <;> rcases hv with rfl | rfl
  · rw [if_neg (by simp; omega), if_neg (by simp; omega), if_neg (by simp; omega)]; rfl
  · rw [if_neg (by simp; omega), if_neg (by simp; omega), if_pos (by simp)]; rfl
  · rw [if_neg (by simp; omega), if_pos (by simp)]; rfl
  · rw [if_pos (by simp)]; rfl
theorem and_exec (n : Int) (k : Nat) (b m q : Int) (hb : b = 2 ^ k * (2 * m + 1)) (hm : ∀ x, Builtin.bitAnd x m = (x / m % 2) * m) : Builtin.bitAnd n b = 2 ^ k * (2 * ((n / 2 ^ k / 2 / m % 2) * m) + n / 2 ^ k % 2) := by
  rw [hb, and_shift, kbt_halves, show (2 * m + 1) / 2 = m by omega, hm]
  congr 1
  by_cases h : n / 2 ^ k % 2 = 1
  · rw [if_pos ⟨h, by omega⟩, h]
  · rw [if_neg (fun q => h q.1)]; omega
theorem kind_pick (n : Int) : fmPick 0 n [(170, 40960, Str.ofString "l", 405, 440), (171, 49152, Str.ofString "s", 407, 441), (172, 32768, Str.ofString "-", 401, 442), (173, 24576, Str.ofString "b", 399, 443), (174, 16384, Str.ofString "d", 395, 444), (175, 8192, Str.ofString "c", 397, 445), (176, 4096, Str.ofString "p", 403, 446)] = kindC (n / 4096 % 16) := by
  have k0 : 0 ≤ n / 4096 % 16 := by omega
  have k1 : n / 4096 % 16 < 16 := by omega
  simp only [fmPick, fmTest, if_true, and_kind]
  generalize n / 4096 % 16 = k at *
  obtain ⟨j, rfl⟩ := Int.eq_ofNat_of_zero_le k0
  have hj : j < 16 := by omega
  clear k0 k1
  revert j
  decide +kernel
theorem join_signs : ∀ a b c d e f g h i j : Nat, Txt.join (Str.ofString "") [⟨#[a]⟩, ⟨#[b]⟩, ⟨#[c]⟩, ⟨#[d]⟩, ⟨#[e]⟩, ⟨#[f]⟩, ⟨#[g]⟩, ⟨#[h]⟩, ⟨#[i]⟩, ⟨#[j]⟩] = ⟨#[a, b, c, d, e, f, g, h, i, j]⟩ := by
  intro a b c d e f g h i j
  rw [show Str.ofString "" = ⟨#[]⟩ by decide +kernel]
  rfl
theorem exec_eq {n a m c y : Int} (ha : 0 ≤ a) (hc : a * 2 * m = c) (hm : 0 ≤ a * 2) : a * (2 * (n / a / 2 / m % 2 * m) + y) = n / c % 2 * c + y * a := by
  rw [Int.mul_add, ← Int.mul_assoc, Int.mul_left_comm (a * 2), hc, Int.mul_comm a y, Int.ediv_ediv_of_nonneg ha, Int.ediv_ediv_of_nonneg hm, hc]
theorem col_3 (n : Int) : fmPick 3 n [(182, 2112, Str.ofString "s", 449, 450), (183, 2048, Str.ofString "S", 416, 451), (184, 64, Str.ofString "x", 426, 452)] = ⟨#[execC (n / 2048 % 2) (n / 64 % 2) 115 83]⟩ :=
    col_exec (by rw [and_exec n 6 2112 16 0 (by decide) (fun x => and_one x 4)]; exact exec_eq (a := 64) (m := 16) (c := 2048) (by decide) (by decide) (by decide)) (and_one n 11) (and_one n 6) (by decide) (by decide) (by decide) (by omega) (by omega) (by decide) (by decide +kernel) (by decide +kernel)
theorem col_6 (n : Int) : fmPick 6 n [(190, 1032, Str.ofString "s", 455, 456), (191, 1024, Str.ofString "S", 418, 457), (192, 8, Str.ofString "x", 432, 458)] = ⟨#[execC (n / 1024 % 2) (n / 8 % 2) 115 83]⟩ :=
    col_exec (by rw [and_exec n 3 1032 64 0 (by decide) (fun x => and_one x 6)]; exact exec_eq (a := 8) (m := 64) (c := 1024) (by decide) (by decide) (by decide)) (and_one n 10) (and_one n 3) (by decide) (by decide) (by decide) (by omega) (by omega) (by decide) (by decide +kernel) (by decide +kernel)
theorem col_9 (n : Int) : fmPick 9 n [(198, 513, Str.ofString "t", 461, 462), (199, 512, Str.ofString "T", 420, 463), (200, 1, Str.ofString "x", 438, 464)] = ⟨#[execC (n / 512 % 2) (n % 2) 116 84]⟩ :=
    col_exec (by rw [and_exec n 0 513 256 0 (by decide) (fun x => and_one x 8)]; exact (exec_eq (a := 1) (m := 256) (c := 512) (by decide) (by decide) (by decide)).trans (by rw [show (2 : Int) ^ 0 = 1 by decide, Int.ediv_one])) (and_one n 9) (by rw [bitAnd_m1, Int.mul_one]) (by decide) (by decide) (by decide) (by omega) (by omega) (by decide) (by decide +kernel) (by decide +kernel)
theorem cols_row (n : Int) : Txt.join (Str.ofString "") (fmCols n) = rowN n := by
  have c0 := kind_pick n
  have c1 : fmPick 1 n [(178, 256, Str.ofString "r", 422, 447)] = ⟨#[bitC (n / 256 % 2) 114]⟩ := col_bit 8 (by decide) (by decide) (by decide +kernel)
  have c2 : fmPick 2 n [(180, 128, Str.ofString "w", 424, 448)] = ⟨#[bitC (n / 128 % 2) 119]⟩ := col_bit 7 (by decide) (by decide) (by decide +kernel)
  have c4 : fmPick 4 n [(186, 32, Str.ofString "r", 428, 453)] = ⟨#[bitC (n / 32 % 2) 114]⟩ := col_bit 5 (by decide) (by decide) (by decide +kernel)
  have c5 : fmPick 5 n [(188, 16, Str.ofString "w", 430, 454)] = ⟨#[bitC (n / 16 % 2) 119]⟩ := col_bit 4 (by decide) (by decide) (by decide +kernel)
  have c7 : fmPick 7 n [(194, 4, Str.ofString "r", 434, 459)] = ⟨#[bitC (n / 4 % 2) 114]⟩ := col_bit 2 (by decide) (by decide) (by decide +kernel)
  have c8 : fmPick 8 n [(196, 2, Str.ofString "w", 436, 460)] = ⟨#[bitC (n / 2 % 2) 119]⟩ := col_bit 1 (by decide) (by decide) (by decide +kernel)
  have c3 : fmPick 3 n [(182, 2112, Str.ofString "s", 449, 450), (183, 2048, Str.ofString "S", 416, 451), (184, 64, Str.ofString "x", 426, 452)] = ⟨#[execC (n / 2048 % 2) (n / 64 % 2) 115 83]⟩ := col_3 n
  have c6 : fmPick 6 n [(190, 1032, Str.ofString "s", 455, 456), (191, 1024, Str.ofString "S", 418, 457), (192, 8, Str.ofString "x", 432, 458)] = ⟨#[execC (n / 1024 % 2) (n / 8 % 2) 115 83]⟩ := col_6 n
  have c9 : fmPick 9 n [(198, 513, Str.ofString "t", 461, 462), (199, 512, Str.ofString "T", 420, 463), (200, 1, Str.ofString "x", 438, 464)] = ⟨#[execC (n / 512 % 2) (n % 2) 116 84]⟩ := col_9 n
  have e : fmCols n = [kindC (n / 4096 % 16), ⟨#[bitC (n / 256 % 2) 114]⟩, ⟨#[bitC (n / 128 % 2) 119]⟩, ⟨#[execC (n / 2048 % 2) (n / 64 % 2) 115 83]⟩, ⟨#[bitC (n / 32 % 2) 114]⟩, ⟨#[bitC (n / 16 % 2) 119]⟩, ⟨#[execC (n / 1024 % 2) (n / 8 % 2) 115 83]⟩, ⟨#[bitC (n / 4 % 2) 114]⟩, ⟨#[bitC (n / 2 % 2) 119]⟩, ⟨#[execC (n / 512 % 2) (n % 2) 116 84]⟩] := by
    rw [← c0, ← c1, ← c2, ← c3, ← c4, ← c5, ← c6, ← c7, ← c8, ← c9]
    rfl
  rw [e, kindC, join_signs]
  rfl
theorem filemode_row {w : World} (n : Int) (t : Tok) : SpecT 2 w 209 [.int n t] [] (rowN n) := by
  have h := filemode_spec (w := w) n t
  rw [cols_row] at h
  exact h

end
theorem slot_map_next : Slot "map" "__next__" "map.__next__" :=
  .of (owner := "map") (n := "__next__") (by rw [typeLookup_type, builtinLookup_eq_fast]; kernel_rfl) (by decide +kernel) (by decide +kernel) (by decide +kernel)
    (by first | exact .inl (by decide +kernel) | exact .inr (by decide +kernel)) (by rw [isSubtype_type]; kernel_rfl)
theorem entry_map_next : entryFor table "map.__next__" = some Builtin.«map.__next__» := entryFor_of_tree (by kernel_rfl)
theorem map_no_len : typeLookup (.type "map") "__len__" = pure none := by rw [typeLookup_type, builtinLookup_eq_fast]; kernel_rfl
theorem map_no_hint : typeLookup (.type "map") "__length_hint__" = pure none := by rw [typeLookup_type, builtinLookup_eq_fast]; kernel_rfl
section
open Builtin
variable {prog : Program} {w : World} {A : Around} {E : Value → Shared → Prop} {s : Shared}
theorem nextMap {M T I D f : Addr} {i : Nat} {items : Array Value} {x : Value} {Q : Option Value → Shared → Prop} (hM : s.heap.get? M = some { cls := .type "map", data := .fields #[.ref T, .ref f] }) (hT : s.heap.get? T = some { cls := .type "tuple", data := .seq #[.ref I] })
    (hI : s.heap.IsListIter I D i) (hD : s.heap.IsList D items) (hx : items[i]? = some x)
    (hcall : ∀ h', h'.IsListIter I D (i + 1) → Heap.SameBut I s.heap h' → wpAny (model prog w) A.in1 (call (.ref f) [x]) (fun v s' => Q (some v) s') (fun _ _ => False) { s with heap := h' }) :
    wpAny (model prog w) A (pyNext (.ref M)) Q E s := by
  unfold pyNext
  refine wpAny_bind (wpAny_attempt (wpAny_callSpecial?_slot (name := Str.ofString "__next__") (T := "map") ⟨_, hM, rfl⟩ slot_map_next
    (wpAny_call_entry slot_map_next ⟨_, hM, rfl⟩ entry_map_next ?_ (by rfl))))
  show wpAny _ _ (field (.ref M) 0 >>= _) _ _ s
  refine wpAny_bind (wpAny_field hM rfl (x := .ref T) rfl ?_)
  show wpAny _ _ (seqItems? (.ref T) >>= _) _ _ s
  refine wpAny_bind (wpAny_seqItems hT rfl ?_)
  dsimp only
  refine wpAny_bind ?_
  rw [List.forIn_toArray, List.forIn_cons]
  refine wpAny_bind (wpAny_bind (wpAny_holding (wpAny_nextOf_list_item hI hD hx fun h' hI' hs => ?_)))
  refine wpAny_pure ?_
  dsimp only
  rw [List.forIn_nil]
  refine wpAny_pure ?_
  have hne : M ≠ I := fun e => by
    obtain ⟨o, ho, hc, _⟩ := hI
    rw [e, ho] at hM
    have hm := congrArg Obj.cls (Option.some.inj hM)
    rw [hc] at hm
    have hc := hm.symm
    exact absurd (Value.type.inj hc) (by decide)
  have hM' := (hs.2 M hne).trans hM
  refine wpAny_bind (wpAny_field hM' rfl (x := .ref f) rfl ?_)
  refine wpAny_bind (wpAny_holding (wpAny_mono (hcall h' hI' hs) (fun v s' hv => ?_) fun _ _ e => e.elim))
  refine wpAny_bind (wpAny_letGo ?_)
  exact wpAny_pure ⟨_, rfl, wpAny_pure hv⟩
theorem nextMap_end {M T I D f : Addr} {i : Nat} {items : Array Value} {Q : Option Value → Shared → Prop} (hh : A.handled = none) (hM : s.heap.get? M = some { cls := .type "map", data := .fields #[.ref T, .ref f] }) (hT : s.heap.get? T = some { cls := .type "tuple", data := .seq #[.ref I] })
    (hI : s.heap.IsListIter I D i) (hD : s.heap.IsList D items) (hx : items[i]? = none) (hQ : ∀ h', Heap.ExtBut I s.heap h' → Q none { s with heap := h' }) :
    wpAny (model prog w) A (pyNext (.ref M)) Q E s := by
  unfold pyNext
  refine wpAny_bind (wpAny_attempt (wpAny_callSpecial?_slot (name := Str.ofString "__next__") (T := "map") ⟨_, hM, rfl⟩ slot_map_next
    (wpAny_call_entry slot_map_next ⟨_, hM, rfl⟩ entry_map_next ?_ (by rfl))))
  show wpAny _ _ (field (.ref M) 0 >>= _) _ _ s
  refine wpAny_bind (wpAny_field hM rfl (x := .ref T) rfl ?_)
  show wpAny _ _ (seqItems? (.ref T) >>= _) _ _ s
  refine wpAny_bind (wpAny_seqItems hT rfl ?_)
  dsimp only
  refine wpAny_bind ?_
  rw [List.forIn_toArray, List.forIn_cons]
  refine wpAny_bind (wpAny_bind (wpAny_holding (wpAny_nextOf_list_end (A := A.in1) hh hI hD hx fun h' e he hc => ?_)))
  obtain ⟨o, ho, hc⟩ := hc
  refine wpAny_bind (wpAny_isInstance (T := "StopIteration") (b := true) ⟨o, ho, hc⟩ isSubtype_stop ?_)
  exact wpAny_pure (hQ h' he)
end

theorem slot_map_iter : Slot "map" "__iter__" "map.__iter__" :=
  .of (owner := "map") (n := "__iter__") (by rw [typeLookup_type, builtinLookup_eq_fast]; kernel_rfl) (by decide +kernel) (by decide +kernel) (by decide +kernel)
    (by first | exact .inl (by decide +kernel) | exact .inr (by decide +kernel)) (by rw [isSubtype_type]; kernel_rfl)
theorem entry_map_iter : entryFor table "map.__iter__" = some Builtin.«dict_keyiterator.__iter__» :=
  entryFor_alias (id' := "dict_keyiterator.__iter__") (by kernel_rfl) (by first | rfl | decide +kernel | (unfold String.splitOn; simp +decide [String.splitOnAux])) (by decide +kernel) (by kernel_rfl)
abbrev mapO (T f : Addr) : Obj := { cls := .type "map", data := .fields #[.ref T, .ref f] }
section
variable {prog : Program} {w : World} {A : Around} {E : Value → Shared → Prop} {s : Shared}
theorem iterMap {M T f : Addr} {Q : Value → Shared → Prop} (hM : s.heap.get? M = some (mapO T f)) (h : Q (.ref M) s) : wpAny (model prog w) A (pyIter (.ref M)) Q E s := by
  have hT : s.TypeIs (.ref M) "map" := ⟨_, hM, rfl⟩
  refine wpAny_pyIter_slot hT slot_map_iter (wpAny_call_entry slot_map_iter hT entry_map_iter ?_ (by rfl))
  show wpAny _ _ (ret (.ref M)) _ _ s
  exact wpAny_pure ⟨_, rfl, "map", _, hT, slot_map_next.lookup, h⟩
end
/-- where a map over a list stands, i items taken -/
def MapSt (s₀ : Shared) (I D : Addr) (i : Nat) (s : Shared) : Prop := (∀ b o, b ≠ I → s₀.heap.get? b = some o → s.heap.get? b = some o) ∧ s.heap.IsListIter I D i
section
variable {w : World} {s₀ : Shared} {M T I D : Addr} {mean : ExcName → Option Value} {mg mb : Str → Option Value} {dp un : Nat} {gd : Option (List Code)} {cn : Str} {cs : Scope} {a : Addr} {ccd : Value} {cl : List (Str × Addr)} {outer : List Env} {A₀ : Around} {base h₀ : Heap} {L : Addr} {m : Str → Option Value} {vs : List Value} {ys : List Str}
theorem mapWalks (B : Below A₀ base outer h₀) (F : Fr h₀ L s₀.heap m) (X : (hd.heap_1 w.params).In h₀) (TT : Top hd.view_1 [Str.ofString "_filemode_table"] mean mg mb h₀) (hk : cs.kind = .function) (hd : dp + 1 < recursionLimit) (hu : un + 8 * 2 < cLine)
    (hM : s₀.heap.get? M = some (mapO T 108)) (hT : s₀.heap.get? T = some { cls := .type "tuple", data := .seq #[.ref I] }) (hI : s₀.heap.IsListIter I D 0) (hD : s₀.heap.IsList D vs.toArray) (hS : StrsAre vs ys) (nI : h₀.get? I = none) (nL : L ≠ I) (nM : M ≠ I) (nT : T ≠ I) (nD : D ≠ I) :
    WalksS PRG w (ktrTop dp un gd cn cs L a ccd cl outer) M (List.range s₀.heap.objs.size) [I] (fun a b => b = a) ys.length (fun i v => ∃ y t, ys[i]? = some y ∧ v = .str y t) (MapSt s₀ I D) where
  sub := fun b hb => by
    rw [List.mem_singleton.mp hb]
    obtain ⟨o, ho, _⟩ := hI
    exact List.mem_range.mpr (Heap.lt_size ho)
  grefl := fun _ => rfl
  gtrans := fun _ _ _ x y => y.trans x
  frame := fun i s h' tk st _ hk => ⟨fun b o hb e => hk b (List.mem_range.mpr (Heap.lt_size e)) o (st.1 b o hb e), st.2.at fun o e => hk I (by obtain ⟨o', ho, _⟩ := hI; exact List.mem_range.mpr (Heap.lt_size ho)) o e⟩
  item := fun i s Q E hi st hQ => by
    obtain ⟨y, hy⟩ : ∃ y, ys[i]? = some y := ⟨_, List.getElem?_eq_getElem hi⟩
    obtain ⟨t, ht⟩ := hS.at hy
    refine wpAny_with_toks (Nat.le_refl _) ?_
    refine nextMap (st.1 _ _ nM hM) (st.1 _ _ nT hT) st.2 (hD.at fun o e => st.1 _ o nD e) (x := .str y t) (by simpa using ht) fun h' hI' hs => ?_
    have up : ∀ b o, b ≠ I → s₀.heap.get? b = some o → h'.get? b = some o := fun b o hb e => (hs.2 b hb).trans (st.1 b o hb e)
    have F' : Fr h₀ L h' m := ⟨F.ns.at' fun o e => up _ o nL e, fun b o e => up b o (fun q => by rw [q, nI] at e; cases e) (F.keep b o e), F.above⟩
    refine fspath_spec y t mean mg mb dp (un + 1) gd cn cs a ccd cl outer A₀ base h₀ L m { s with heap := h' } _ _ B F' X News.nil TT hk (by omega) (by omega) ?_
    rintro r tl h'' tk' k _ ⟨rfl, ⟨t', rfl⟩, _⟩ htk
    exact hQ _ _ ⟨y, t', hy, rfl⟩ ⟨fun b o hb e => k b o (up b o hb e), hI'.at fun o e => k _ o e⟩ ⟨fun b o hb e => k b o ((hs.2 b fun q => hb (by rw [q]; exact .head _)).trans e), rfl, rfl, rfl, htk⟩
  done := fun s Q E st hQ => by
    refine nextMap_end rfl (st.1 _ _ nM hM) (st.1 _ _ nT hT) st.2 (hD.at fun o e => st.1 _ o nD e) (by simp [hS.length]) fun h' he => ?_
    exact hQ _ ⟨fun b o hb e => he b o (fun q => hb (by rw [q]; exact .head _)) e, rfl, rfl, rfl, Nat.le_refl _⟩
  self := fun i s Q E st hQ => iterMap (st.1 _ _ nM hM) hQ
end

section
open AutoSeq1 (wpAny_loadPart')
variable {prog : Program} {w : World} {A : Around} {E : Value → Shared → Prop} {s : Shared} {I : Addr} {fp wr : List Addr} {G : Array GenState → Array GenState → Prop} {n : Nat} {P : Nat → Value → Prop} {St : Nat → Shared → Prop}
/-- what a map gives, collected -/
theorem collectMap {Q : List Value → Shared → Prop} (W : WalksS prog w A.in1 I fp wr G n P St) (hT : ∀ i s, St i s → s.TypeIs (.ref I) "map") (hst : St 0 s) (hfp : ∀ b ∈ fp, b < s.heap.objs.size) (hI : I ∈ fp)
    (hQ : ∀ s' acc, Moved wr G s s' → ItemsOf P acc n → Q acc.toList s') (hn : n ≤ sizeLine) : wpAny (model prog w) A (collect (.ref I)) Q E s := by
  have hSf : s.heap.objs.size ∉ fp := fun hm => Nat.lt_irrefl _ (hfp _ hm)
  have hSI : s.heap.objs.size ≠ I := fun e => hSf (e ▸ hI)
  unfold collect
  refine wpAny_bind (wpAny_runValue (codeAny_builtin PySem.F.entry_proto_collect ?_))
  rw [Around.under_plainId PySem.F.plain_proto_collect _]
  show wpAny _ A.in1 (newList [] >>= fun l => again (.builtin "list.__iadd__" ⟨[l, .ref I], []⟩)) _ _ s
  refine wpAny_bind (wpAny_newObj_type ?_)
  refine wpAny_pure ⟨plainId_quiet PySem.F.plain_list_iadd _, codeAny_builtin PySem.F.entry_list_iadd ?_⟩
  rw [Around.under_plainId PySem.F.plain_list_iadd _]
  have hst₁ := W.frame 0 s (s.heap.push { cls := .type "list", data := .seq ([] : List Value).toArray }) s.toks hst (Nat.le_refl _) fun b _ o e => Heap.get?_push_of_some _ e
  show wpAny _ A.in1 (Builtin.List.listExtendWith (.ref s.heap.objs.size) (.ref I) (.ref s.heap.objs.size)) _ _ _
  unfold Builtin.List.listExtendWith
  refine wpAny_bind (wpAny_typeOf (hT 0 _ hst₁) ?_)
  have h1 : Builtin.List.listSameRef (.ref s.heap.objs.size) (.ref I) = false := by simp [Builtin.List.listSameRef, hSI]
  have h2 : (Value.type "map" == Value.type "list") = false := by decide
  have h3 : (Value.type "map" == Value.type "tuple") = false := by decide
  simp only [h1, h2, h3, Bool.or_false, Bool.false_eq_true, if_false]
  refine wpAny_bind (W.self 0 _ _ _ hst₁ ?_)
  refine wpAny_bind (wpAny_holding ?_)
  unfold Builtin.List.listLengthHint
  refine wpAny_bind (wpAny_specialOf (hT 0 _ hst₁) map_no_len ?_)
  show wpAny _ A.in1 (specialOf (Value.ref I) (Str.ofString "__length_hint__") >>= _) _ _ _
  refine wpAny_bind (wpAny_specialOf (hT 0 _ hst₁) map_no_hint ?_)
  refine wpAny_pure ?_
  show wpAny _ A.in1 (rule "list.extend.makes-room" >>= fun _ => Builtin.List.listTouch (.ref s.heap.objs.size) >>= fun _ =>
    again (.builtin "list.extend.loop" ⟨[.ref s.heap.objs.size, .ref I, .ref s.heap.objs.size], []⟩)) _ _ _
  refine wpAny_bind (wpAny_rule ?_)
  have hS₁ : (s.heap.push { cls := .type "list", data := .seq ([] : List Value).toArray }).get? s.heap.objs.size = some { cls := .type "list", data := .seq ([] : List Value).toArray } := Heap.get?_push_size _ rfl
  refine wpAny_bind ?_
  show wpAny _ A.in1 (updateSeq s.heap.objs.size (·.push .none) >>= fun _ => updateSeq s.heap.objs.size (·.pop)) _ _ _
  refine wpAny_bind (wpAny_updateSeq hS₁ rfl ?_)
  have hS₂ := Heap.get?_update_self (Obj.mapSeq (·.push Value.none)) hS₁ rfl
  refine wpAny_updateSeq hS₂ rfl ?_
  have hS₃ := Heap.get?_update_self (Obj.mapSeq (·.pop)) hS₂ rfl
  have oth : ∀ b o, b ≠ s.heap.objs.size → (s.heap.push { cls := .type "list", data := .seq ([] : List Value).toArray }).get? b = some o →
      (((s.heap.push { cls := .type "list", data := .seq ([] : List Value).toArray }).update s.heap.objs.size (Obj.mapSeq (·.push Value.none))).update s.heap.objs.size (Obj.mapSeq (·.pop))).get? b = some o :=
    fun b o hb e => (Heap.get?_update_other _ _ (Ne.symm hb)).trans ((Heap.get?_update_other _ _ (Ne.symm hb)).trans e)
  refine wpAny_pure ⟨plainId_quiet PySem.F.plain_extend_loop _, codeAny_extend_loopS W hn _ hSf _ n 0 _ _ _ rfl (Nat.zero_le _)
    (W.frame 0 ({ s with heap := s.heap.push { cls := .type "list", data := .seq ([] : List Value).toArray } } : Shared) _ s.toks hst₁ (Nat.le_refl _) fun b hb o e => oth b o (fun h => hSf (h ▸ hb)) e) hS₃ (ItemsOf.nil P) fun s' acc' c' hm hS' hacc => ?_⟩
  show wpAny _ A (load s.heap.objs.size >>= _) _ _ s'
  refine wpAny_bind (wpAny_load hS' ?_)
  refine wpAny_pure (hQ s' acc' (Moved.drop_new (o := { cls := .type "list", data := .seq ([] : List Value).toArray }) (tk := s.toks) (Moved.trans W.gtrans ((Moved.refl W.grefl).then_heap (by first | exact Nat.le_refl _ | exact Nat.le_succ _ | omega) fun b o hb e => ?_) hm) (Nat.le_refl _)) hacc)
  exact oth b o (fun h => hb (h ▸ List.mem_cons_self)) e
theorem codeTupMap {Q₁ : Value → Shared → Prop} (W : WalksS prog w A.in1.in1 I fp wr G n P St) (hT : ∀ i s, St i s → s.TypeIs (.ref I) "map") (hst : St 0 s) (hfp : ∀ b ∈ fp, b < s.heap.objs.size) (hI : I ∈ fp)
    (h : ∀ s' acc, Moved wr G s s' → ItemsOf P acc n → Q₁ (.ref s'.heap.objs.size) { s' with heap := s'.heap.push { cls := .type "tuple", data := .seq acc } }) (hsz : n ≤ sizeLine) :
    codeAny (model prog w) A (.call (.builtin "tuple.__new__") ⟨[.type "tuple", .ref I], []⟩) (wants Q₁ E) s := by
  refine codeAny_of_tree ?_
  show wpAny _ A.in1 (do checkBuiltinCall "tuple.__new__" ⟨[.type "tuple", .ref I], []⟩; again (.builtin "tuple.__new__" ⟨[.type "tuple", .ref I], []⟩)) _ _ s
  refine wpAny_bind (wpAny_of_eq (PySem.F.newCall_tuple_1 _) (wpAny_pure ⟨plainId_quiet PySem.F.plain_tuple_new _, codeAny_builtin PySem.F.entry_tuple_new ?_⟩))
  rw [Around.under_plainId PySem.F.plain_tuple_new _]
  have hsub := sub_tuple_self
  have hinit := init_tuple_lookup
  have hmh := madeHere_tuple
  have hTI := hT 0 s hst
  wp_walk using wpAny_typeOf hTI, collectMap (hn := hsz) W hT hst hfp hI
  intro s' acc hm hacc
  show wpAny _ _ (Builtin.Tuple.tupleExact acc.toList.toArray >>= fun v => ret v) _ _ _
  unfold Builtin.Tuple.tupleExact
  refine wpAny_bind (wpAny_newObj_type ?_ (by show acc.toList.toArray.size ≤ sizeLine; simp only [Array.toArray_toList]; rw [hacc.1]; exact hsz))
  refine wpAny_pure ?_
  have e : acc.toList.toArray = acc := by simp
  rw [e]
  exact h s' acc hm hacc
theorem callTupMap {Q : Value → Shared → Prop} (W : WalksS prog w A.in1.in1.in1 I fp wr G n P St) (hT : ∀ i s, St i s → s.TypeIs (.ref I) "map") (hst : St 0 s) (hfp : ∀ b ∈ fp, b < s.heap.objs.size) (hI : I ∈ fp)
    (hQ : ∀ s' acc, Moved wr G s s' → ItemsOf P acc n → Q (.ref s'.heap.objs.size) { s' with heap := s'.heap.push { cls := .type "tuple", data := .seq acc } }) (hsz : n ≤ sizeLine) :
    wpAny (model prog w) A (call (.type "tuple") [.ref I]) Q E s := by
  refine callType_codes (Q₁ := fun obj s₁ => s₁.TypeIs obj "tuple" ∧ Q obj s₁) PySem.F.called_tuple (PySem.F.typeCall_tuple_1 _) PySem.F.entry_object_init
    (codeTupMap (hsz := hsz) W hT hst hfp hI fun s' acc hm hacc => ⟨⟨_, Heap.get?_push_size _ rfl, rfl⟩, hQ s' acc hm hacc⟩) fun obj s₁ h₁ => ?_
  exact ⟨h₁.1, PySem.F.args_object_init_2 obj _, object_init_meets PySem.F.called_tuple.init.lookup PySem.F.called_tuple.made (by decide) prog w A.in1 _ s₁ ⟨h₁.1, rfl, h₁.2⟩⟩
end
section
local macro_rules | `(tactic| x_close) => `(tactic| (apply_assumption <;> assumption))
/-- a map over a list is made -/
theorem mapMake {w : World} {A : Around} {s : Shared} {D f : Addr} {n : Nat} {vs : Array Value} {Q E : Value → Shared → Prop} (KX : (hd.heap_1 w.params).In s.heap) (ha : s.heap.get? D = some { cls := .type "list", data := .seq vs n })
  (hq : ∀ I T M h, Mem s.heap h [] [(M, mapO T f), (T, { cls := Value.type "tuple", data := Data.seq #[.ref I] }), (I, { cls := Value.type "list_iterator", data := Data.fields #[.ref D, .int 0 0] })] → Q (.ref M) { s with heap := h }) :
   wpAny (model PySem.Challenge.rw_qw0054_01.row.prog w) A (call (.type "map") [.ref f, .ref D]) Q E s := by
  x_run
end

theorem memKeep {h₀ h : Heap} {tl : List (Addr × Obj)} (M : Mem h₀ h [] tl) : ∀ b o, h₀.get? b = some o → h.get? b = some o := fun b o e => M.keep b o e (by simp [away])
section
variable {w : World} {A A₀ : Around} {s : Shared} {base h₀ : Heap} {L D : Addr} {m : Str → Option Value} {news : List (Addr × Obj)} {n : Nat} {Q E : Value → Shared → Prop} {mean : ExcName → Option Value} {mg mb : Str → Option Value} {dp un : Nat} {gd : Option (List Code)} {cn : Str} {cs : Scope} {a : Addr} {ccd : Value} {cl : List (Str × Addr)} {outer : List Env}
theorem mapK {f : Addr} {vs : Array Value} (F : Fr h₀ L s.heap m) (N : News h₀ L s.heap news) (X : (hd.heap_1 w.params).In h₀) (hD : (D, listO vs n) ∈ news)
   (hq : ∀ I T M h, Fr h₀ L h m → News h₀ L h ((M, mapO T f) :: (T, { cls := Value.type "tuple", data := Data.seq #[.ref I] }) :: (I, { cls := Value.type "list_iterator", data := Data.fields #[.ref D, .int 0 0] }) :: news) → (∀ q ∈ news, q.1 ≠ I) → Q (.ref M) { s with heap := h }) :
   wpAny (model PySem.Challenge.rw_qw0054_01.row.prog w) A (call (.type "map") [.ref f, .ref D]) Q E s :=
  mapMake (X.keeps F.keep) (N _ hD).1 fun I T M h me => hq I T M h (frKeep F (memKeep me)) (newsKeep F N (memKeep me) (fun p hp => me.nw p hp)) fun q hq => newsApart N (fun p hp => me.nw p hp) q hq _ (.tail _ (.tail _ (.head _)))
theorem tupK {x y : Str} {tx ty : Tok} {M T I : Addr} (B : Below A₀ base outer h₀) (F : Fr h₀ L s.heap m) (X : (hd.heap_1 w.params).In h₀) (TT : Top hd.view_1 [Str.ofString "_filemode_table"] mean mg mb h₀) (hk : cs.kind = .function) (hd : dp + 1 < recursionLimit) (hu : un + 50 < cLine)
   (N : News h₀ L s.heap ((M, mapO T 108) :: (T, { cls := Value.type "tuple", data := Data.seq #[.ref I] }) :: (I, { cls := Value.type "list_iterator", data := Data.fields #[.ref D, .int 0 0] }) :: news)) (hn : ∀ q ∈ news, q.1 ≠ I) (hD : (D, listO #[.str x tx, .str y ty] n) ∈ news)
   (hq : ∀ D2 t1 t2 h tk, Fr h₀ L h m → News h₀ L h ((D2, tupleO #[.str x t1, .str y t2] 0) :: news) → (∀ q ∈ news, q.1 < D2) → Q (.ref D2) { s with heap := h, toks := tk }) :
   wpAny (model PySem.Challenge.rw_qw0054_01.row.prog w) (ktrTop dp un gd cn cs L a ccd cl outer) (call (.type "tuple") [.ref M]) Q E s := by
  have gM := N _ (.head _)
  have gT := N _ (.tail _ (.head _))
  have gI := N _ (.tail _ (.tail _ (.head _)))
  have gD := N _ (.tail _ (.tail _ (.tail _ hD)))
  have diff : ∀ {b c : Addr} {o o' : Obj}, s.heap.get? b = some o → s.heap.get? c = some o' → o.cls ≠ o'.cls → b ≠ c := fun e1 e2 hne e => by
    subst e
    exact hne (congrArg Obj.cls (Option.some.inj (e1.symm.trans e2)))
  have nMI : M ≠ I := diff gM.1 gI.1 (fun e => absurd (Value.type.inj e) (by decide))
  have nTI : T ≠ I := diff gT.1 gI.1 (fun e => absurd (Value.type.inj e) (by decide))
  have hit : s.heap.IsListIter I D 0 := ⟨_, gI.1, rfl, rfl⟩
  have hDl : s.heap.IsList D [Value.str x tx, Value.str y ty].toArray := ⟨_, gD.1, rfl, n, rfl⟩
  have W := mapWalks (w := w) (dp := dp) (un := un + 3) (gd := gd) (cn := cn) (a := a) (ccd := ccd) (cl := cl) (T := T) (ys := [x, y]) B F X TT hk hd (by omega) gM.1 gT.1 hit hDl (StrsAre.cons x tx (StrsAre.cons y ty StrsAre.nil)) gI.2.2 (Ne.symm gI.2.1) nMI nTI (hn _ hD)
  refine callTupMap (A := ktrTop dp un gd cn cs L a ccd cl outer) (n := 2) W (fun i s' st => ⟨_, st.1 _ _ nMI gM.1, rfl⟩) ⟨fun _ _ _ e => e, hit⟩ (fun b hb => List.mem_range.mp hb) (List.mem_range.mpr (Heap.lt_size gM.1)) (fun s' acc hm hacc => ?_) (by decide)
  obtain ⟨h', g', d', tk', os'⟩ := s'
  obtain ⟨k1, rfl, rfl, rfl, _⟩ := hm
  have at_ : ∀ i z, [x, y][i]? = some z → ∃ t, acc[i]? = some (Value.str z t) := fun i z hz => by
    have hi : i < acc.size := by
      rw [hacc.1]
      exact (List.getElem?_eq_some_iff.mp hz).1
    obtain ⟨y', t, h1, h2⟩ := hacc.2 i acc[i] (by simp [hi])
    rw [hz] at h1
    cases h1
    exact ⟨t, by rw [Array.getElem?_eq_getElem hi, h2]⟩
  have e0 := at_ 0 x rfl
  have e1 := at_ 1 y rfl
  obtain ⟨t1, e0⟩ := e0
  obtain ⟨t2, e1⟩ := e1
  have ha : acc = #[.str x t1, .str y t2] := by
    apply Array.ext_getElem?
    intro i
    match i with
    | 0 => rw [e0]; rfl
    | 1 => rw [e1]; rfl
    | i + 2 => rw [Array.getElem?_eq_none (by rw [hacc.1]; omega)]; rfl
  subst ha
  have k1' : ∀ b o, b ≠ I → s.heap.get? b = some o → h'.get? b = some o := fun b o hb e => k1 b o (fun q => hb (List.mem_singleton.mp q)) e
  have F1 : Fr h₀ L h' m := ⟨F.ns.at' fun o e => k1' _ o (Ne.symm gI.2.1) e, fun b o e => k1' b o (fun q => by rw [q, gI.2.2] at e; cases e) (F.keep b o e), F.above⟩
  have N1 : News h₀ L h' news := fun p hp => ⟨k1' _ _ (hn p hp) (N p (.tail _ (.tail _ (.tail _ hp)))).1, (N p (.tail _ (.tail _ (.tail _ hp)))).2⟩
  exact hq _ t1 t2 _ _ (F1.push _) (News.push F1 N1 _ rfl) fun p hp => Heap.lt_size (N1 p hp).1
end
/-- a try whose body raises nothing -/
theorem try_ok {prog : Program} {w : World} {A : Around} {E : Value → Shared → Prop} {s : Shared} {env : Env} {body orelse : List Stmt} {h₀ : ExceptHandler} {hs : List ExceptHandler} {pos : Pos} {Q : Flow → Shared → Prop}
    (h : wpAny (model prog w) A (execs body env) (fun f s₁ => match f with | .next => wpAny (model prog w) A (execs orelse env) Q E s₁ | f => Q f s₁) (fun _ _ => False) s) :
    wpAny (model prog w) A (exec (.Try body (h₀ :: hs) orelse [] pos) env) Q E s := wpAny_Try_except (wpAny_mono h (fun _ _ x => x) fun _ _ x => x.elim)

section
variable {prog : Program} {w : World} {A : Around} {E : Value → Shared → Prop} {R : Result → Shared → Prop} {s : Shared}
/-- the tests of a comprehension's clause -/
abbrev testsOf (ifs : List PySem.Expr) (env : Env) : Sem Bool := forIn ifs true fun c r => if r = true then do let ok ← isTrue c env (eval c env); pure (ForInStep.yield ok) else pure (ForInStep.yield r)
abbrev nb (prog : Program) (w : World) (A : Around) (env : Env) (R : Result → Shared → Prop) : Value → Shared → Prop := notedBy (model prog w) A env fun e s' => R (.error e) s'
theorem compLoopL {elt target iter : PySem.Expr} {ifs : List PySem.Expr} {scope : Scope} {pos : Pos} {it acc : Value} {env : Env} (I : Nat → Shared → Prop)
    (turn : ∀ n s, I n s → wpAny (model prog w) A (pyNext it) (fun r s₁ => match r with
      | none => R (.ok .next) s₁
      | some v => wpAny (model prog w) A (letOwnedTupleGo target it v) (fun _ s₁' => wpAny (model prog w) A (assign target env v) (fun _ s₂ =>
          wpAny (model prog w) A (testsOf ifs env) (fun ok s₃ =>
            if ok = true then wpAny (model prog w) A (eval elt env) (fun x s₄ =>
              wpAny (model prog w) A (call (.builtin "list.append") [acc, x]) (fun _ s₅ => ∃ m, m < n ∧ I m s₅) (nb prog w A env R) s₄) (nb prog w A env R) s₃
            else ∃ m, m < n ∧ I m s₃) (nb prog w A env R) s₂) (nb prog w A env R) s₁') (nb prog w A env R) s₁) (nb prog w A env R) s)
    (n : Nat) (h : I n s) : codeAny (model prog w) A (.compLoop (.ListComp elt [⟨target, iter, ifs, 0⟩] scope pos) 0 it acc env) R s := by
  refine codeAny_loop rfl I (fun n s hI => ?_) n h
  show wpAny _ A ((compTurn (.ListComp elt [⟨target, iter, ifs, 0⟩] scope pos) 0 it acc env).onRaise (fun x => do noteFrame x env; theTreesLotGoes x)) _ _ s
  refine wpAny_noted ?_
  rw [compTurn_list]
  refine wpAny_bind (wpAny_standAt (wpAny_bind (wpAny_mono (turn n s hI) (fun r s₁ h₁ => ?_) fun _ _ h' => h')))
  cases r with
  | none => exact wpAny_pure h₁
  | some v =>
    refine wpAny_bind (wpAny_mono h₁ (fun _ s₁' h₁' => ?_) fun _ _ h' => h')
    refine wpAny_bind (wpAny_mono h₁' (fun _ s₂ h₂ => wpAny_bind (wpAny_mono h₂ (fun ok s₃ h₃ => ?_) fun _ _ h' => h')) fun _ _ h' => h')
    cases ok with
    | false => exact wpAny_pure ⟨rfl, h₃⟩
    | true => exact wpAny_bind (wpAny_bind (wpAny_mono h₃ (fun x s₄ h₄ => wpAny_bind (wpAny_mono h₄ (fun _ s₅ h₅ => wpAny_pure (wpAny_pure ⟨rfl, h₅⟩)) fun _ _ h' => h')) fun _ _ h' => h'))
theorem compTurn_set (elt target iter : PySem.Expr) (ifs : List PySem.Expr) (scope : Scope) (pos : Pos) (it acc : Value) (env : Env) :
    compTurn (.SetComp elt [⟨target, iter, ifs, 0⟩] scope pos) 0 it acc env = (do
      standAt iter.pos
      match ← pyNext it with
      | none => pure (.done .next)
      | some v =>
        letOwnedTupleGo target it v
        assign target env v
        let mut ok := true
        for c in ifs do
          if ok then ok ← isTrue c env (eval c env)
        if ok then
          (do let v ← eval elt env; standAt elt.pos; let _ ← call (.builtin "set.add") [acc, v])
        again (.compLoop (.SetComp elt [⟨target, iter, ifs, 0⟩] scope pos) 0 it acc env)) := by rfl
theorem compLoopS {elt target iter : PySem.Expr} {ifs : List PySem.Expr} {scope : Scope} {pos : Pos} {it acc : Value} {env : Env} (I : Nat → Shared → Prop)
    (turn : ∀ n s, I n s → wpAny (model prog w) A (pyNext it) (fun r s₁ => match r with
      | none => R (.ok .next) s₁
      | some v => wpAny (model prog w) A (letOwnedTupleGo target it v) (fun _ s₁' => wpAny (model prog w) A (assign target env v) (fun _ s₂ =>
          wpAny (model prog w) A (testsOf ifs env) (fun ok s₃ =>
            if ok = true then wpAny (model prog w) A (eval elt env) (fun x s₄ =>
              wpAny (model prog w) A (call (.builtin "set.add") [acc, x]) (fun _ s₅ => ∃ m, m < n ∧ I m s₅) (nb prog w A env R) s₄) (nb prog w A env R) s₃
            else ∃ m, m < n ∧ I m s₃) (nb prog w A env R) s₂) (nb prog w A env R) s₁') (nb prog w A env R) s₁) (nb prog w A env R) s)
    (n : Nat) (h : I n s) : codeAny (model prog w) A (.compLoop (.SetComp elt [⟨target, iter, ifs, 0⟩] scope pos) 0 it acc env) R s := by
  refine codeAny_loop rfl I (fun n s hI => ?_) n h
  show wpAny _ A ((compTurn (.SetComp elt [⟨target, iter, ifs, 0⟩] scope pos) 0 it acc env).onRaise (fun x => do noteFrame x env; theTreesLotGoes x)) _ _ s
  refine wpAny_noted ?_
  rw [compTurn_set]
  refine wpAny_bind (wpAny_standAt (wpAny_bind (wpAny_mono (turn n s hI) (fun r s₁ h₁ => ?_) fun _ _ h' => h')))
  cases r with
  | none => exact wpAny_pure h₁
  | some v =>
    refine wpAny_bind (wpAny_mono h₁ (fun _ s₁' h₁' => ?_) fun _ _ h' => h')
    refine wpAny_bind (wpAny_mono h₁' (fun _ s₂ h₂ => wpAny_bind (wpAny_mono h₂ (fun ok s₃ h₃ => ?_) fun _ _ h' => h')) fun _ _ h' => h')
    cases ok with
    | false => exact wpAny_pure ⟨rfl, h₃⟩
    | true => exact wpAny_bind (wpAny_bind (wpAny_mono h₃ (fun x s₄ h₄ => wpAny_bind (wpAny_standAt (wpAny_bind (wpAny_mono h₄ (fun _ s₅ h₅ => wpAny_pure (wpAny_pure ⟨rfl, h₅⟩)) fun _ _ h' => h')))) fun _ _ h' => h'))
end

section
variable {prog : Program} {w : World} {A : Around} {E : Value → Shared → Prop} {s : Shared} {h₀ : Heap} {L : Addr} {m : Str → Option Value} {env : Env} {elt target iter : PySem.Expr} {ifs : List PySem.Expr} {scope : Scope} {pos : Pos} {cl : List (Str × Addr)} {op : String} {e : PySem.Expr}
/-- the loop of a comprehension e that hands its elements to op -/
def LoopRule (prog : Program) (w : World) (A : Around) (e elt target : PySem.Expr) (ifs : List PySem.Expr) (op : String) : Prop :=
  ∀ (R : Result → Shared → Prop) (s : Shared) (it acc : Value) (env : Env) (I : Nat → Shared → Prop),
    (∀ n s, I n s → wpAny (model prog w) A (pyNext it) (fun r s₁ => match r with
      | none => R (.ok .next) s₁
      | some v => wpAny (model prog w) A (letOwnedTupleGo target it v) (fun _ s₁' => wpAny (model prog w) A (assign target env v) (fun _ s₂ =>
          wpAny (model prog w) A (testsOf ifs env) (fun ok s₃ =>
            if ok = true then wpAny (model prog w) A (eval elt env) (fun x s₄ =>
              wpAny (model prog w) A (call (.builtin op) [acc, x]) (fun _ s₅ => ∃ m, m < n ∧ I m s₅) (nb prog w A env R) s₄) (nb prog w A env R) s₃
            else ∃ m, m < n ∧ I m s₃) (nb prog w A env R) s₂) (nb prog w A env R) s₁') (nb prog w A env R) s₁) (nb prog w A env R) s) →
    ∀ n, I n s → codeAny (model prog w) A (.compLoop e 0 it acc env) R s
theorem loopRuleL : LoopRule prog w A (.ListComp elt [⟨target, iter, ifs, 0⟩] scope pos) elt target ifs "list.append" := fun _ _ _ _ _ I turn n h => compLoopL I turn n h
theorem loopRuleS : LoopRule prog w A (.SetComp elt [⟨target, iter, ifs, 0⟩] scope pos) elt target ifs "set.add" := fun _ _ _ _ _ I turn n h => compLoopS I turn n h
def StartRule (prog : Program) (w : World) (A : Around) (e : PySem.Expr) : Prop :=
  ∀ (R : Result → Shared → Prop) (s : Shared) (it acc : Value) (env : Env), codeAny (model prog w) A (.compLoop e 0 it acc env) R s →
    wpAny (model prog w) A (pyIter it) (fun it' s' => codeAny (model prog w) A (.compLoop e 0 it' acc env) R s') (nb prog w A env R) s → codeAny (model prog w) A (.compStart e 0 it acc env) R s
theorem startRuleL : StartRule prog w A (.ListComp elt [⟨target, iter, ifs, 0⟩] scope pos) := fun _ _ _ _ _ h0 h => codeAny_compStart_list h0 h
theorem startRuleS : StartRule prog w A (.SetComp elt [⟨target, iter, ifs, 0⟩] scope pos) := fun R s it acc env h0 h => by
  refine codeAny_of_tree ?_
  show wpAny _ _ ((compStart (.SetComp elt [⟨target, iter, ifs, 0⟩] scope pos) 0 it acc env).onRaise (fun x => do noteFrame x env; standAt theWindowsPlace)) _ _ s
  refine wpAny_notedAt ?_
  unfold compStart
  show wpAny _ _ (ask >>= _) _ _ s
  refine wpAny_bind (wpAny_askSetting (wpAny_ite ?_))
  split
  · first
      | exact wpAny_bind (wpAny_pure (wpAny_pure (And.intro rfl h0)))
      | exact wpAny_pure (And.intro rfl h0)
  · refine wpAny_bind (wpAny_rule ?_)
    show wpAny _ _ (standAt iter.pos >>= _) _ _ s
    exact wpAny_bind (wpAny_standAt (wpAny_bind (wpAny_mono h (fun it' s' h' => wpAny_pure (And.intro rfl h')) fun _ _ x => x)))
/-- what a comprehension's target gets of an item -/
def Binds (prog : Program) (w : World) (A : Around) (target : PySem.Expr) (cenv : Env) (P : Nat → Value → Heap → Prop) (Got : Nat → (Str → Option Value) → Prop) : Prop :=
  ∀ i v (s : Shared) (Q : Unit → Shared → Prop) (E : Value → Shared → Prop) m', P i v s.heap → s.heap.Ns cenv.locals m' →
    (∀ h' tk m₂, Got i m₂ → h'.Ns cenv.locals m₂ → Heap.ExtBut cenv.locals s.heap h' → Q () { s with heap := h', toks := tk }) → wpAny (model prog w) A (assign target cenv v) Q E s
/-- the end of a turn: what stands of the names, of the ledger; the accumulator's items -/
inductive CompEndJ (h₀ : Heap) (L : Addr) (m : Str → Option Value) (s₁ : Shared) (its : List (Addr × Obj)) (C D : Addr) (oC oD : Obj) (J : List (Addr × Obj) → Prop) : Shared → Prop
  | mk (h' : Heap) (tk : Nat) (news' : List (Addr × Obj)) (F : Fr h₀ L h' m) (N : News h₀ L h' (its ++ (C, oC) :: (D, oD) :: news')) (off : ∀ p ∈ news', (∀ q ∈ its, p.1 ≠ q.1) ∧ p.1 ≠ C ∧ p.1 ≠ D) (hJ : J news') : CompEndJ h₀ L m s₁ its C D oC oD J { s₁ with heap := h', toks := tk }
/-- where the loop of a comprehension stands: k turns to go, the names in C, the accumulator in D -/
inductive CompInv (h₀ : Heap) (L : Addr) (m : Str → Option Value) (s₂ : Shared) (C D : Addr) (n : Nat) (ws : List (Addr × String)) (keep : List (Addr × Obj)) (St : Nat → Heap → Prop) (AccIs : List Value → Obj → Prop) (J : Nat → List Value → List (Addr × Obj) → Prop) : Nat → Shared → Prop
  | mk (h' : Heap) (tk i : Nat) (ys : List Value) (m' : Str → Option Value) (oD : Obj) (news' : List (Addr × Obj)) (hi : i ≤ n) (hyl : ys.length ≤ i) (hst : St i h') (F : Fr h₀ L h' m) (hn : h'.Ns C m') (hd : h'.get? D = some oD) (ha : AccIs ys oD) (N : News h₀ L h' news')
    (off : ∀ p ∈ news', p.1 ∉ ws.map (·.1) ∧ p.1 ≠ C ∧ p.1 ≠ D) (hk : SubL keep news') (hJ : J i ys news') : CompInv h₀ L m s₂ C D n ws keep St AccIs J (n + 1 - i) { s₂ with heap := h', toks := tk }
theorem compJ {I : Addr} {fp wr : List Addr} {n : Nat} {P Md : Nat → Value → Heap → Prop} {St : Nat → Heap → Prop} {ws : List (Addr × String)} {keep : List (Addr × Obj)} {J : Nat → List Value → List (Addr × Obj) → Prop} {news : List (Addr × Obj)} {Got : Nat → (Str → Option Value) → Prop} {AccIs : List Value → Obj → Prop}
    {newAcc : Sem Value} {RR : Value → Addr → Result → Shared → Prop} {s₂ : Shared}
    (LR : LoopRule prog w A e elt target ifs op) (SR : StartRule prog w A e)
    (hnew : ∀ (s : Shared) (Q : Value → Shared → Prop) (E : Value → Shared → Prop), (∀ o tk, o.isFreed = false → AccIs [] o → Q (.ref s.heap.objs.size) { s with heap := s.heap.push o, toks := tk }) → wpAny (model prog w) A newAcc Q E s)
    (hadd : ∀ i ys y nw (s : Shared) (D : Addr) (o : Obj) (Q : Value → Shared → Prop) (E : Value → Shared → Prop), J (i + 1) (ys ++ [y]) nw → s.heap.get? D = some o → AccIs ys o → ys.length < n → (∀ h' tk o', Heap.SameBut D s.heap h' → h'.get? D = some o' → AccIs (ys ++ [y]) o' → Q .none { s with heap := h', toks := tk }) → wpAny (model prog w) A (call (.builtin op) [.ref D, y]) Q E s)
    (W : KTurns prog w A target I fp wr n P Md St) (hself : ∀ i (s : Shared) (Q : Value → Shared → Prop) (E : Value → Shared → Prop), St i s.heap → Q (.ref I) s → wpAny (model prog w) A (pyIter (.ref I)) Q E s)
    (hobj : ∀ i h, St i h → ∃ its, Objs ws its ∧ ∀ p ∈ its, h.get? p.1 = some p.2)
    (hws : ∀ b ∈ ws.map (·.1), h₀.get? b = none ∧ b ≠ L) (hwr : ∀ b ∈ wr, b ∈ ws.map (·.1)) (hfs : ∀ b ∈ fp, b < s₂.heap.objs.size) (hwf : ∀ b ∈ ws.map (·.1), b ∈ fp)
    (hfp : ∀ b ∈ fp, b ∈ ws.map (·.1) ∨ (∃ o, h₀.get? b = some o) ∨ ∃ o, (b, o) ∈ keep) (hnw : ∀ p ∈ news, p.1 ∉ ws.map (·.1)) (hst : St 0 s₂.heap)
    (hB : ∀ C, Binds prog w A target (compEnvC scope cl C env) P Got)
    (F : Fr h₀ L s₂.heap m) (N : News h₀ L s₂.heap news) (hk : SubL keep news) (h0 : J 0 [] news) (hcell : ∀ y ∈ scope.names, y.2 ≠ .cell) (hkind : scope.kind = .function)
    (turn : ∀ i ys C D oC oD m₂ h tk news₁ (E' : Value → Shared → Prop), i < n → J i ys news₁ → ys.length ≤ i → SubL keep news₁ → Got i m₂ → LCg.NsObj oC m₂ → AccIs ys oD → Fr h₀ L h m → @Ne Nat C D → AllObj ws (fun its => News h₀ L h (its ++ (C, oC) :: (D, oD) :: news₁) →
      (∀ p ∈ news₁, (∀ q ∈ its, p.1 ≠ q.1) ∧ p.1 ≠ C ∧ p.1 ≠ D) → (∀ q ∈ its, q.1 ≠ C ∧ q.1 ≠ D) →
      wpAny (model prog w) A (testsOf ifs (compEnvC scope cl C env)) (fun ok s₃ => if ok = true then wpAny (model prog w) A (eval elt (compEnvC scope cl C env)) (fun y s₄ => CompEndJ h₀ L m { s₂ with heap := h, toks := tk } its C D oC oD (fun n' => SubL keep n' ∧ J (i + 1) (ys ++ [y]) n') s₄) E' s₃
        else CompEndJ h₀ L m { s₂ with heap := h, toks := tk } its C D oC oD (fun n' => SubL keep n' ∧ J (i + 1) ys n') s₃) E' { s₂ with heap := h, toks := tk }))
    (hRR : ∀ D C h tk m' ys oD news', Fr h₀ L h m → News h₀ L h ((D, oD) :: news') → AccIs ys oD → (∀ p ∈ news', p.1 ≠ D) → h.Ns C m' → h₀.get? C = none → h₀.get? D = none → C ≠ L → D ≠ L → C ≠ D → (∀ p ∈ news', p.1 ≠ C) → SubL keep news' → J n ys news' → RR (.ref D) C (.ok .next) { s₂ with heap := h, toks := tk }) :
    wpAny (model prog w) A newAcc (fun acc s₃ => wpAny (model prog w) A (newFunctionEnv scope env.globals cl [] env.qual none .none (some env)) (fun cenv s₄ =>
      codeAny (model prog w) A (.compStart e 0 (.ref I) acc { cenv with scope := relabel scope env }) (RR acc cenv.locals) s₄) E s₃) E s₂ := by
  refine hnew s₂ _ _ fun oD₀ tk₀ hfr hacc₀ => wpAny_newFunctionEnv hcell (by intro y hy; simp at hy) (fun h₁ hns₁ hsb₁ => ?_) hkind
  dsimp only at hns₁ hsb₁ ⊢
  have hC : (s₂.heap.push oD₀).objs.size = s₂.heap.objs.size + 1 := Heap.size_push ..
  rw [hC] at hns₁ hsb₁ ⊢
  have below : ∀ b, b < s₂.heap.objs.size → b ≠ s₂.heap.objs.size + 1 ∧ b ≠ s₂.heap.objs.size := fun b hb => ⟨Nat.ne_of_lt (Nat.lt_succ_of_lt hb), Nat.ne_of_lt hb⟩
  have old : ∀ b o, s₂.heap.get? b = some o → h₁.get? b = some o := fun b o x => hsb₁.extBut b o (below b (Heap.lt_size x)).1 (Heap.get?_push_of_some _ (Heap.get?_push_of_some _ x))
  have hDC : s₂.heap.objs.size ≠ s₂.heap.objs.size + 1 := Nat.ne_of_lt (Nat.lt_succ_self _)
  have hacc : h₁.get? s₂.heap.objs.size = some oD₀ := hsb₁.extBut _ _ hDC (Heap.get?_push_of_some _ (Heap.get?_push_size _ hfr))
  have hst₁ : St 0 h₁ := W.frame _ _ _ hst fun b _ o x => old b o x
  have hD₀ : h₀.get? s₂.heap.objs.size = none := ktu_new F (Nat.le_refl _)
  have hC₀ : h₀.get? (s₂.heap.objs.size + 1) = none := ktu_new F (Nat.le_succ _)
  have hLlt : L < s₂.heap.objs.size := F.ns.lt
  have hDL : s₂.heap.objs.size ≠ L := Ne.symm (below L hLlt).2
  have hCL : s₂.heap.objs.size + 1 ≠ L := Ne.symm (below L hLlt).1
  have hCf : s₂.heap.objs.size + 1 ∉ fp := fun q => absurd (hfs _ q) (Nat.not_lt.mpr (Nat.le_succ _))
  have hDf : s₂.heap.objs.size ∉ fp := fun q => absurd (hfs _ q) (Nat.lt_irrefl _)
  have hCw : s₂.heap.objs.size + 1 ∉ ws.map (·.1) := fun q => hCf (hwf _ q)
  have hDw : s₂.heap.objs.size ∉ ws.map (·.1) := fun q => hDf (hwf _ q)
  have hLw : ∀ b ∈ wr, b ≠ L := fun b hb => (hws b (hwr b hb)).2
  have old₀ : ∀ b o, h₀.get? b = some o → b ∉ wr := fun b o x hb => by rw [(hws b (hwr b hb)).1] at x; cases x
  have loop : ∀ s₃ : Shared, s₃ = { s₂ with heap := h₁, toks := tk₀ + ([] : List (Str × Value)).length } →
      codeAny (model prog w) A (.compLoop e 0 (.ref I) (.ref s₂.heap.objs.size) (compEnvC scope cl (s₂.heap.objs.size + 1) env)) (RR (.ref s₂.heap.objs.size) (s₂.heap.objs.size + 1)) s₃ := by
    rintro s₃ rfl
    refine LR _ _ _ _ _
      (CompInv h₀ L m s₂ (s₂.heap.objs.size + 1) s₂.heap.objs.size n ws keep St AccIs J) ?_ (n + 1)
      (CompInv.mk h₁ _ 0 [] _ oD₀ news (Nat.zero_le _) (Nat.le_refl _) hst₁ (F.keeps old) hns₁ hacc hacc₀ (fun p hp => ⟨old _ _ (N p hp).1, (N p hp).2⟩) (fun p hp => ⟨hnw p hp, below _ (Heap.lt_size (N p hp).1)⟩) hk h0)
    rintro _ _ ⟨h', tk, i, ys, m', oD, news', hi, hyl, hst', F', hn', hd', ha', N', off', hk', hJ⟩
    have next : ∀ h₂ : Heap, (∀ b o, b ∉ wr → h'.get? b = some o → h₂.get? b = some o) → Fr h₀ L h₂ m ∧ News h₀ L h₂ news' ∧ h₂.Ns (s₂.heap.objs.size + 1) m' ∧ h₂.get? s₂.heap.objs.size = some oD := fun h₂ hk₂ =>
      ⟨⟨F'.ns.at' fun o x => hk₂ _ o (fun hb => hLw _ hb rfl) x, fun b o x => hk₂ b o (old₀ b o x) (F'.keep b o x), F'.above⟩, fun p hp => ⟨hk₂ _ _ (fun hb => (off' p hp).1 (hwr _ hb)) (N' p hp).1, (N' p hp).2⟩,
        hn'.at' fun o x => hk₂ _ o (fun hb => hCw (hwr _ hb)) x, hk₂ _ _ (fun hb => hDw (hwr _ hb)) hd'⟩
    by_cases hlt : i < n
    · refine W.item i _ _ _ hlt hst' fun v h₂ tk₂ hMd hk₂ => ?_
      refine W.go i v _ _ _ hMd fun h₃ hP hst₃ hk₃ => ?_
      obtain ⟨F₃, N₃, hn₃, hd₃⟩ := next h₃ fun b o hb x => hk₃ b o hb (hk₂ b o hb x)
      refine hB (s₂.heap.objs.size + 1) i v _ _ _ m' hP hn₃ fun h₄ tk₄ m₂ hG hn₄ hs₄ => ?_
      have hst₄ : St (i + 1) h₄ := W.frame _ _ _ hst₃ fun b hb o x => hs₄ b o (fun q => hCf ((show s₂.heap.objs.size + 1 = b from q.symm) ▸ hb)) x
      obtain ⟨oC, heC, hoC⟩ := LCg.ns_obj hn₄
      obtain ⟨its, hits, hval⟩ := hobj (i + 1) h₄ hst₄
      have F₄ : Fr h₀ L h₄ m := ⟨F₃.ns.at' fun o e => hs₄ _ o (Ne.symm hCL) e, fun b o e => hs₄ b o (fun q => by have q' : b = s₂.heap.objs.size + 1 := q; rw [q', hC₀] at e; cases e) (F₃.keep b o e), F₃.above⟩
      have hd₄ : h₄.get? s₂.heap.objs.size = some oD := hs₄ _ _ hDC hd₃
      have N₄ : News h₀ L h₄ news' := fun p hp => ⟨hs₄ _ _ (off' p hp).2.1 (N₃ p hp).1, (N₃ p hp).2⟩
      have N₅ : News h₀ L h₄ (its ++ (s₂.heap.objs.size + 1, oC) :: (s₂.heap.objs.size, oD) :: news') := fun p hp => by
        rcases List.mem_append.mp hp with hp | hp
        · have h1 := hws p.1 ((objs_addr hits).mpr ⟨p.2, hp⟩)
          exact ⟨hval p hp, h1.2, h1.1⟩
        · rcases List.mem_cons.mp hp with rfl | hp
          · exact ⟨heC, hCL, hC₀⟩
          · rcases List.mem_cons.mp hp with rfl | hp
            · exact ⟨hd₄, hDL, hD₀⟩
            · exact N₄ p hp
      have off₄ : ∀ p ∈ news', (∀ q ∈ its, p.1 ≠ q.1) ∧ p.1 ≠ s₂.heap.objs.size + 1 ∧ p.1 ≠ s₂.heap.objs.size := fun p hp => ⟨fun q hq x => (off' p hp).1 (x ▸ (objs_addr hits).mpr ⟨q.2, hq⟩), (off' p hp).2⟩
      have offI : ∀ q ∈ its, q.1 ≠ s₂.heap.objs.size + 1 ∧ q.1 ≠ s₂.heap.objs.size := fun q hq => ⟨fun x => hCw (x ▸ (objs_addr hits).mpr ⟨q.2, hq⟩), fun x => hDw (x ▸ (objs_addr hits).mpr ⟨q.2, hq⟩)⟩
      -- the end of a turn: the invariant at the next one, the accumulator's object given
      have fin : ∀ (ys' : List Value) (h₅ : Heap) (tk₅ : Nat) (oD' : Obj) (news₅ : List (Addr × Obj)) (h₆ : Heap) (tk₆ : Nat), ys'.length ≤ i + 1 → Fr h₀ L h₅ m → News h₀ L h₅ (its ++ (s₂.heap.objs.size + 1, oC) :: (s₂.heap.objs.size, oD) :: news₅) → (∀ p ∈ news₅, (∀ q ∈ its, p.1 ≠ q.1) ∧ p.1 ≠ s₂.heap.objs.size + 1 ∧ p.1 ≠ s₂.heap.objs.size) →
          Heap.SameBut s₂.heap.objs.size h₅ h₆ → h₆.get? s₂.heap.objs.size = some oD' → AccIs ys' oD' → SubL keep news₅ → J (i + 1) ys' news₅ →
          ∃ k, k < n + 1 - i ∧ CompInv h₀ L m s₂ (s₂.heap.objs.size + 1) s₂.heap.objs.size n ws keep St AccIs J k { s₂ with heap := h₆, toks := tk₆ } := by
        intro ys' h₅ tk₅ oD' news₅ h₆ tk₆ hyl' F₅ N₅' off₅ hs₆ hd₆ hA₆ hk₅ hJ₅
        refine ⟨n + 1 - (i + 1), turnLess hlt, CompInv.mk h₆ tk₆ (i + 1) ys' m₂ oD' news₅ hlt hyl' ?_ (F₅.change hs₆ hDL hD₀) ?_ hd₆ hA₆ (fun p hp => ?_) (fun p hp => ⟨fun q => ?_, (off₅ p hp).2⟩) hk₅ hJ₅⟩
        · refine W.frame _ _ _ hst₄ fun b hb o x => hs₆.extBut b o (fun q => hDf ((show s₂.heap.objs.size = b from q.symm) ▸ hb)) ?_
          rcases hfp b hb with h1 | ⟨o', h1⟩ | ⟨o', h1⟩
          · obtain ⟨o', h2⟩ := (objs_addr hits).mp h1
            have h3 : h₄.get? b = some o' := hval _ h2
            rw [x] at h3
            cases h3
            exact (N₅' _ (List.mem_append_left _ h2)).1
          · have h3 := F₄.keep b o' h1
            rw [x] at h3
            cases h3
            exact F₅.keep b o h1
          · have h3 : h₄.get? b = some o' := (N₄ _ (hk'.mem _ h1)).1
            rw [x] at h3
            cases h3
            exact (N₅' _ (List.mem_append_right _ (.tail _ (.tail _ (hk₅.mem _ h1))))).1
        · exact (hoC.ns (N₅' (s₂.heap.objs.size + 1, oC) (List.mem_append_right _ (.head _))).1).sameBut hs₆ (Ne.symm hDC)
        · exact ⟨hs₆.extBut _ _ (off₅ p hp).2.2 (N₅' p (List.mem_append_right _ (.tail _ (.tail _ hp)))).1, (N₅' p (List.mem_append_right _ (.tail _ (.tail _ hp)))).2⟩
        · obtain ⟨o', h2⟩ := (objs_addr hits).mp q
          exact (off₅ p hp).1 _ h2 rfl
      have T := (turn i ys _ _ oC oD m₂ h₄ tk₄ news' (nb prog w A (compEnvC scope cl (s₂.heap.objs.size + 1) env) (RR (.ref s₂.heap.objs.size) (s₂.heap.objs.size + 1))) hlt hJ hyl hk' hG hoC ha' F₄ (Ne.symm hDC)).at hits N₅ off₄ offI
      refine wpAny_mono T (fun ok s₃ p => ?_) fun _ _ x => x
      cases ok with
      | false =>
        simp only [Bool.false_eq_true, if_false] at p ⊢
        obtain ⟨h₅, tk₅, news₅, F₅, N₅', off₅, hk₅, hJ₅⟩ := p
        exact fin ys h₅ tk₅ oD news₅ h₅ tk₅ (Nat.le_succ_of_le hyl) F₅ N₅' off₅ (Heap.SameBut.refl ..) (N₅' (s₂.heap.objs.size, oD) (List.mem_append_right _ (.tail _ (.head _)))).1 ha' hk₅ hJ₅
      | true =>
        simp only [if_true] at p ⊢
        refine wpAny_mono p (fun y s₄ q => ?_) fun _ _ x => x
        obtain ⟨h₅, tk₅, news₅, F₅, N₅', off₅, hk₅, hJ₅⟩ := q
        refine hadd i ys y news₅ _ _ oD _ _ hJ₅ (N₅' (s₂.heap.objs.size, oD) (List.mem_append_right _ (.tail _ (.head _)))).1 ha' (by omega) fun h₆ tk₆ oD' hs₆ hd₆ hA₆ => ?_
        exact fin (ys ++ [y]) h₅ tk₅ oD' news₅ h₆ tk₆ (by rw [List.length_append, List.length_singleton]; omega) F₅ N₅' off₅ hs₆ hd₆ hA₆ hk₅ hJ₅
    · obtain rfl : i = n := Nat.le_antisymm hi (Nat.not_lt.mp hlt)
      refine W.done _ _ _ hst' fun h₂ tk₂ hk₂ => ?_
      obtain ⟨F₃, N₃, hn₃, hd₃⟩ := next h₂ hk₂
      exact hRR _ _ h₂ tk₂ _ ys oD news' F₃ (fun p hp => by
        rcases List.mem_cons.mp hp with rfl | hp
        · exact ⟨hd₃, hDL, hD₀⟩
        · exact N₃ p hp) ha' (fun p hp => (off' p hp).2.2) hn₃ hC₀ hD₀ hCL hDL (Ne.symm hDC) (fun p hp => (off' p hp).2.1) hk' hJ
  exact SR _ _ _ _ _ (loop _ rfl) (hself 0 _ _ _ hst₁ (loop _ rfl))
end

section
variable {prog : Program} {w : World} {A : Around} {E : Value → Shared → Prop} {s : Shared} {h₀ : Heap} {L : Addr} {m : Str → Option Value} {env : Env} {elt target iter : PySem.Expr} {ifs : List PySem.Expr} {scope : Scope} {pos : Pos} {cl : List (Str × Addr)}
/-- a list comprehension, its first iterator at hand; RR: what is to hold when it is through -/
def CompAt (prog : Program) (w : World) (A : Around) (env : Env) (cl : List (Str × Addr)) (scope : Scope) (elt target iter : PySem.Expr) (ifs : List PySem.Expr) (pos : Pos) (E : Value → Shared → Prop) (RR : Value → Addr → Result → Shared → Prop) (it : Value) (s₂ : Shared) : Prop :=
  wpAny (model prog w) A (newList []) (fun acc s₃ => wpAny (model prog w) A (newFunctionEnv scope env.globals cl [] env.qual none .none (some env)) (fun cenv s₄ =>
      codeAny (model prog w) A (.compStart (.ListComp elt [⟨target, iter, ifs, 0⟩] scope pos) 0 it acc { cenv with scope := relabel scope env }) (RR acc cenv.locals) s₄) E s₃) E s₂
theorem evalComp {Q : Value → Shared → Prop} (hclos : closureFor scope env = pure cl) (hkind : scope.kind = .function) (hnames : ∀ y ∈ scope.names, y.2 = .local → scope.names.lookup y.1 = some .local)
    (h : wpAny (model prog w) A (eval iter env) (fun xv s₁ => wpAny (model prog w) A (pyIter xv) (CompAt prog w A env cl scope elt target iter ifs pos E (compPost (model prog w) A E none Q)) E s₁) E s)
    (hs : ∀ x, foldedSetIterable iter env x = pure x) :
    wpAny (model prog w) A (eval (.ListComp elt [⟨target, iter, ifs, 0⟩] scope pos) env) Q E s := by
  rw [eval_ListComp]
  exact wpAny_comprehension_free (use := none) rfl hs hclos hkind hnames h
theorem assignComp {y : Str} {py spos : Pos} {Q : Flow → Shared → Prop} (hsw : swapsWith (.ListComp elt [⟨target, iter, ifs, 0⟩] scope pos) (some (.Name y py)) spos.line env = pure true)
    (hclos : closureFor scope env = pure cl) (hkind : scope.kind = .function) (hnames : ∀ y ∈ scope.names, y.2 = .local → scope.names.lookup y.1 = some .local)
    (h : wpAny (model prog w) A (eval iter env) (fun xv s₁ => wpAny (model prog w) A (pyIter xv) (CompAt prog w A env cl scope elt target iter ifs pos E (compPost (model prog w) A E (some (assign (.Name y py) env)) fun _ s' => Q .next s')) E s₁) E s)
    (hs : ∀ x, foldedSetIterable iter env x = pure x) :
    wpAny (model prog w) A (exec (.Assign [.Name y py] (.ListComp elt [⟨target, iter, ifs, 0⟩] scope pos) spos) env) Q E s := by
  rw [exec_Assign_Name_used _ _ _ _ hsw]
  refine wpAny_bind (wpAny_standAt (wpAny_bind ?_))
  show wpAny _ A (do let _ ← comprehension (.ListComp elt [⟨target, iter, ifs, 0⟩] scope pos) scope env _ (newList []) false (eval iter env) (some (assign (.Name y py) env))) _ _ s
  refine wpAny_bind (wpAny_mono (wpAny_comprehension_free (use := some (assign (.Name y py) env)) (Q := fun _ s' => Q .next s') rfl hs hclos hkind hnames h) (fun _ s' hq => wpAny_pure (wpAny_pure hq)) fun _ _ e => e)
/-- the ends: a value, a name that gets it -/
theorem compDoneE {Q : Value → Shared → Prop} {D C : Addr} {h : Heap} {tk : Nat} {m' : Str → Option Value} {news : List (Addr × Obj)} (F : Fr h₀ L h m) (N : News h₀ L h news) (hn : h.Ns C m') (hC₀ : h₀.get? C = none) (hCL : C ≠ L) (off : ∀ p ∈ news, p.1 ≠ C)
    (hq : ∀ h', Fr h₀ L h' m → News h₀ L h' news → Q (.ref D) { s with heap := h', toks := tk }) : compPost (model prog w) A E none Q (.ref D) C (.ok .next) { s with heap := h, toks := tk } :=
  ⟨m', hn, fun h' hs => hq h' (F.change hs hCL hC₀) fun p hp => ⟨hs.extBut _ _ (off p hp) (N p hp).1, (N p hp).2⟩⟩
theorem compDoneA {Q : Shared → Prop} {y : Str} {py : Pos} {D C : Addr} {h : Heap} {tk : Nat} {m' : Str → Option Value} {news : List (Addr × Obj)} (F : Fr h₀ L h m) (N : News h₀ L h news) (hn : h.Ns C m') (hC₀ : h₀.get? C = none) (hCL : C ≠ L) (off : ∀ p ∈ news, p.1 ≠ C) (hL : env.locals = L)
    (hy : env.kindOf y = some .local) (hp : (env.scope.kind == .class || (env.scope.kind == .module && env.locals != env.globals)) = false)
    (hq : ∀ h' tk', Fr h₀ L h' (fun z => if z = y then some (.ref D) else m z) → News h₀ L h' news → Q { s with heap := h', toks := tk' }) : compPost (model prog w) A E (some (assign (.Name y py) env)) (fun _ s' => Q s') (.ref D) C (.ok .next) { s with heap := h, toks := tk } := by
  subst hL
  show wpAny _ A (assign (.Name y py) env (.ref D)) _ _ _
  refine wpAny_assign_Name (wpAny_storeName_local hy F.ns (fun h₂ hn₂ hs₂ => ?_) hp)
  refine ⟨m', hn.sameBut hs₂ hCL, fun h' hs => hq h' _ ((F.set hn₂ hs₂).change hs hCL hC₀) fun p hpp => ⟨hs.extBut _ _ (off p hpp) (hs₂.extBut _ _ (N p hpp).2.1 (N p hpp).1), (N p hpp).2⟩⟩
/-- the list that a comprehension fills -/
theorem newListAcc (s : Shared) (Q : Value → Shared → Prop) (E : Value → Shared → Prop) (h : ∀ o tk, o.isFreed = false → o = LCg.lst [] → Q (.ref s.heap.objs.size) { s with heap := s.heap.push o, toks := tk }) : wpAny (model prog w) A (newList []) Q E s :=
  wpAny_newObj_type (h _ _ rfl rfl)
theorem addList {n : Nat} (hn : n ≤ sizeLine) (ys : List Value) (y : Value) (s : Shared) (D : Addr) (o : Obj) (Q : Value → Shared → Prop) (E : Value → Shared → Prop) (hD : s.heap.get? D = some o) (ho : o = LCg.lst ys) (hl : ys.length < n)
    (h : ∀ h' tk o', Heap.SameBut D s.heap h' → h'.get? D = some o' → o' = LCg.lst (ys ++ [y]) → Q .none { s with heap := h', toks := tk }) : wpAny (model prog w) A (call (.builtin "list.append") [.ref D, y]) Q E s := by
  subst ho
  refine append_at (hsz := by show ys.toArray.size ≤ sizeLine; rw [List.size_toArray]; omega) hD fun h' hs hD' => ?_
  exact h h' _ _ hs (hD'.trans (congrArg some (LCg.lst_snoc ys y))) rfl
/-- a name as target -/
theorem bindsName {x : Str} {px : Pos} {cenv : Env} {P : Nat → Value → Heap → Prop} (hx : cenv.kindOf x = some .local) (hk : (cenv.scope.kind == .class || (cenv.scope.kind == .module && cenv.locals != cenv.globals)) = false) : Binds prog w A (.Name x px) cenv P (fun i m₂ => ∃ v h, P i v h ∧ m₂ x = some v) :=
  fun i v s Q E m' hP hn hq => wpAny_assign_Name (wpAny_storeName_local hx hn (fun h' hn' hs' => hq h' _ _ ⟨v, s.heap, hP, by simp⟩ hn' hs'.extBut) hk)
theorem endC {s₁ : Shared} {its news' : List (Addr × Obj)} {C D : Addr} {oC oD : Obj} {J : List (Addr × Obj) → Prop} {h' : Heap} {tk : Nat} {all : List (Addr × Obj)} (F : Fr h₀ L h' m) (N : News h₀ L h' all) (sub : ∀ p ∈ its ++ (C, oC) :: (D, oD) :: news', p ∈ all)
    (off : ∀ p ∈ news', (∀ q ∈ its, p.1 ≠ q.1) ∧ p.1 ≠ C ∧ p.1 ≠ D) (hJ : J news') : CompEndJ h₀ L m s₁ its C D oC oD J { s₁ with heap := h', toks := tk } := ⟨h', tk, news', F, fun p hp => N p (sub p hp), off, hJ⟩
section
variable {J : Nat → List Value → List (Addr × Obj) → Prop} {news : List (Addr × Obj)} {RR : Value → Addr → Result → Shared → Prop} {ax : Addr} {x : Str} {px : Pos}
/-- over a tuple of the ledger, a name as target -/
theorem compTup {vs : List Value} {nn : Nat} (hh : A.handled = none) (hm : (ax, tupleO vs.toArray nn) ∈ news) (hn : vs.length ≤ sizeLine) (F : Fr h₀ L s.heap m) (N : News h₀ L s.heap news) (h0 : J 0 [] news) (hcell : ∀ y ∈ scope.names, y.2 ≠ .cell) (hkind : scope.kind = .function)
    (hx : ∀ C, (compEnvC scope cl C env).kindOf x = some .local) (hsk : ∀ C, ((compEnvC scope cl C env).scope.kind == .class || ((compEnvC scope cl C env).scope.kind == .module && (compEnvC scope cl C env).locals != (compEnvC scope cl C env).globals)) = false)
    (turn : ∀ i v ys I C D oI oC m₂ h tk news₁ (E' : Value → Shared → Prop), vs[i]? = some v → J i ys news₁ → (ax, tupleO vs.toArray nn) ∈ news₁ → m₂ x = some v → LCg.NsObj oC m₂ → oI.cls = .type "tuple_iterator" → Fr h₀ L h m → News h₀ L h ((I, oI) :: (C, oC) :: (D, LCg.lst ys) :: news₁) → @Ne Nat C D → @Ne Nat I C → @Ne Nat I D →
      (∀ p ∈ news₁, p.1 ≠ I ∧ p.1 ≠ C ∧ p.1 ≠ D) →
      wpAny (model prog w) A (testsOf ifs (compEnvC scope cl C env)) (fun ok s₃ => if ok = true then wpAny (model prog w) A (eval elt (compEnvC scope cl C env)) (fun y s₄ => CompEndJ h₀ L m { s with heap := h, toks := tk } [(I, oI)] C D oC (LCg.lst ys) (fun n' => SubL [(ax, tupleO vs.toArray nn)] n' ∧ J (i + 1) (ys ++ [y]) n') s₄) E' s₃
        else CompEndJ h₀ L m { s with heap := h, toks := tk } [(I, oI)] C D oC (LCg.lst ys) (fun n' => SubL [(ax, tupleO vs.toArray nn)] n' ∧ J (i + 1) ys n') s₃) E' { s with heap := h, toks := tk })
    (done : ∀ D C h tk m' ys news', Fr h₀ L h m → News h₀ L h ((D, LCg.lst ys) :: news') → (∀ p ∈ news', p.1 ≠ D) → h.Ns C m' → h₀.get? C = none → C ≠ L → C ≠ D → (∀ p ∈ news', p.1 ≠ C) → J vs.length ys news' → RR (.ref D) C (.ok .next) { s with heap := h, toks := tk }) :
    wpAny (model prog w) A (pyIter (.ref ax)) (CompAt prog w A env cl scope elt (.Name x px) iter ifs pos E RR) E s := by
  have hax := N _ hm
  have hl : s.heap.IsTuple ax vs.toArray := ⟨_, hax.1, rfl, nn, rfl⟩
  have hlt : ax < s.heap.objs.size := Heap.lt_size hax.1
  have hne : ax ≠ s.heap.objs.size := Nat.ne_of_lt hlt
  refine wpAny_pyIter_tuple hl ?_
  show wpAny _ _ _ _ _ _
  refine compJ (ws := [(s.heap.objs.size, "tuple_iterator")]) (keep := [(ax, tupleO vs.toArray nn)]) (n := vs.toArray.size) (AccIs := fun ys o => o = LCg.lst ys) (J := J) (Got := fun i m₂ => ∃ v, vs.toArray[i]? = some v ∧ m₂ x = some v) (s₂ := { s with heap := s.heap.push { cls := .type "tuple_iterator", data := .fields #[.ref ax, .int 0 0] } })
    loopRuleL startRuleL newListAcc (fun i ys y nw s D o Q E _ hD ho hl h => addList (n := vs.toArray.size) (by simpa using hn) ys y s D o Q E hD ho hl h) (KTurns.ofWalks (Walks.tuple hh s.heap.objs.size ax hne vs.toArray) fun i v s Q E st q => letGo_tupleiter st.1 q) (fun i s Q E st q => wpAny_pyIter_tupleiter st.1 q)
    (fun i h st => ?_) (fun b hb => ?_) (fun b hb => hb) (fun b hb => ?_) (fun b hb => ?_) (fun b hb => ?_) (fun p hp hI => ?_) ⟨⟨_, Heap.get?_push_size _ rfl, rfl, rfl⟩, hl.at fun o e => Heap.get?_push_of_some _ e⟩ (fun C => ?_) (F.push _) (fun p hp => ⟨Heap.get?_push_of_some _ (N p hp).1, (N p hp).2⟩) (And.intro hm trivial) h0 hcell hkind ?_ ?_
  · obtain ⟨it, hit, hic, _⟩ := st.1
    exact ⟨[(s.heap.objs.size, it)], ⟨⟨rfl, hic⟩, trivial⟩, fun p hp => by rw [List.mem_singleton.mp hp]; exact hit⟩
  · rw [List.mem_singleton.mp hb]
    exact newAddr F (Nat.le_refl _)
  · show b < (s.heap.push _).objs.size
    rw [Heap.size_push]
    rcases List.mem_cons.mp hb with rfl | hb
    · exact Nat.lt_succ_self _
    · rw [List.mem_singleton.mp hb]; exact Nat.lt_succ_of_lt hlt
  · rw [List.mem_singleton.mp hb]; exact .head _
  · rcases List.mem_cons.mp hb with e | hb
    · exact .inl (by simp [e])
    · rw [List.mem_singleton.mp hb]
      exact .inr (.inr ⟨_, .head _⟩)
  · exact absurd (Heap.lt_size (N p hp).1) ((List.mem_singleton.mp hI) ▸ Nat.lt_irrefl _)
  · intro i v s' Q' E' m' hP hn' hq
    exact wpAny_assign_Name (wpAny_storeName_local (hx C) hn' (fun h' hn2 hs2 => hq h' _ _ ⟨v, hP, by simp⟩ hn2 hs2.extBut) (hsk C))
  · rintro i ys C D oC oD m₂ h tk news₁ E' hi hJ hyl hk ⟨v, hv, hmx⟩ hoC rfl F₁ hCD o ho
    refine AllObj.nil fun N₁ off offI => ?_
    have o1 := offI (s.heap.objs.size, o) (.head _)
    exact turn i v ys _ C D o oC m₂ h tk news₁ E' (by simpa using hv) hJ (hk.mem _ (.head _)) hmx hoC ho F₁ N₁ hCD o1.1 o1.2 fun p hp => ⟨(off p hp).1 (s.heap.objs.size, o) (.head _), (off p hp).2⟩
  · intro D C h tk m' ys oD news' F' N' ho off hn' hC₀ hD₀ hCL hDL hCD offC hk hJ
    subst ho
    exact done D C h tk m' ys news' F' N' off hn' hC₀ hCL hCD offC (by simpa using hJ)
/-- over a list of the ledger, a name as target -/
theorem compLst {vs : List Value} {nn : Nat} (hh : A.handled = none) (hm : (ax, listO vs.toArray nn) ∈ news) (hn : vs.length ≤ sizeLine) (F : Fr h₀ L s.heap m) (N : News h₀ L s.heap news) (h0 : J 0 [] news) (hcell : ∀ y ∈ scope.names, y.2 ≠ .cell) (hkind : scope.kind = .function)
    (hx : ∀ C, (compEnvC scope cl C env).kindOf x = some .local) (hsk : ∀ C, ((compEnvC scope cl C env).scope.kind == .class || ((compEnvC scope cl C env).scope.kind == .module && (compEnvC scope cl C env).locals != (compEnvC scope cl C env).globals)) = false)
    (turn : ∀ i v ys I C D oI oC m₂ h tk news₁ (E' : Value → Shared → Prop), vs[i]? = some v → J i ys news₁ → (ax, listO vs.toArray nn) ∈ news₁ → m₂ x = some v → LCg.NsObj oC m₂ → oI.cls = .type "list_iterator" → Fr h₀ L h m → News h₀ L h ((I, oI) :: (C, oC) :: (D, LCg.lst ys) :: news₁) → @Ne Nat C D → @Ne Nat I C → @Ne Nat I D →
      (∀ p ∈ news₁, p.1 ≠ I ∧ p.1 ≠ C ∧ p.1 ≠ D) →
      wpAny (model prog w) A (testsOf ifs (compEnvC scope cl C env)) (fun ok s₃ => if ok = true then wpAny (model prog w) A (eval elt (compEnvC scope cl C env)) (fun y s₄ => CompEndJ h₀ L m { s with heap := h, toks := tk } [(I, oI)] C D oC (LCg.lst ys) (fun n' => SubL [(ax, listO vs.toArray nn)] n' ∧ J (i + 1) (ys ++ [y]) n') s₄) E' s₃
        else CompEndJ h₀ L m { s with heap := h, toks := tk } [(I, oI)] C D oC (LCg.lst ys) (fun n' => SubL [(ax, listO vs.toArray nn)] n' ∧ J (i + 1) ys n') s₃) E' { s with heap := h, toks := tk })
    (done : ∀ D C h tk m' ys news', Fr h₀ L h m → News h₀ L h ((D, LCg.lst ys) :: news') → (∀ p ∈ news', p.1 ≠ D) → h.Ns C m' → h₀.get? C = none → C ≠ L → C ≠ D → (∀ p ∈ news', p.1 ≠ C) → J vs.length ys news' → RR (.ref D) C (.ok .next) { s with heap := h, toks := tk }) :
    wpAny (model prog w) A (pyIter (.ref ax)) (CompAt prog w A env cl scope elt (.Name x px) iter ifs pos E RR) E s := by
  have hax := N _ hm
  have hl : s.heap.IsList ax vs.toArray := ⟨_, hax.1, rfl, nn, rfl⟩
  have hlt : ax < s.heap.objs.size := Heap.lt_size hax.1
  have hne : ax ≠ s.heap.objs.size := Nat.ne_of_lt hlt
  refine wpAny_pyIter_list hl ?_
  show wpAny _ _ _ _ _ _
  refine compJ (ws := [(s.heap.objs.size, "list_iterator")]) (keep := [(ax, listO vs.toArray nn)]) (n := vs.toArray.size) (AccIs := fun ys o => o = LCg.lst ys) (J := J) (Got := fun i m₂ => ∃ v, vs.toArray[i]? = some v ∧ m₂ x = some v) (s₂ := { s with heap := s.heap.push { cls := .type "list_iterator", data := .fields #[.ref ax, .int 0 0] } })
    loopRuleL startRuleL newListAcc (fun i ys y nw s D o Q E _ hD ho hl h => addList (n := vs.toArray.size) (by simpa using hn) ys y s D o Q E hD ho hl h) (KTurns.ofWalks (Walks.list hh s.heap.objs.size ax hne vs.toArray) fun i v s Q E st q => letGo_listiter st.1 q) (fun i s Q E st q => wpAny_pyIter_listiter st.1 q)
    (fun i h st => ?_) (fun b hb => ?_) (fun b hb => hb) (fun b hb => ?_) (fun b hb => ?_) (fun b hb => ?_) (fun p hp hI => ?_) ⟨⟨_, Heap.get?_push_size _ rfl, rfl, rfl⟩, hl.at fun o e => Heap.get?_push_of_some _ e⟩ (fun C => ?_) (F.push _) (fun p hp => ⟨Heap.get?_push_of_some _ (N p hp).1, (N p hp).2⟩) (And.intro hm trivial) h0 hcell hkind ?_ ?_
  · obtain ⟨it, hit, hic, _⟩ := st.1
    exact ⟨[(s.heap.objs.size, it)], ⟨⟨rfl, hic⟩, trivial⟩, fun p hp => by rw [List.mem_singleton.mp hp]; exact hit⟩
  · rw [List.mem_singleton.mp hb]
    exact newAddr F (Nat.le_refl _)
  · show b < (s.heap.push _).objs.size
    rw [Heap.size_push]
    rcases List.mem_cons.mp hb with rfl | hb
    · exact Nat.lt_succ_self _
    · rw [List.mem_singleton.mp hb]; exact Nat.lt_succ_of_lt hlt
  · rw [List.mem_singleton.mp hb]; exact .head _
  · rcases List.mem_cons.mp hb with e | hb
    · exact .inl (by simp [e])
    · rw [List.mem_singleton.mp hb]
      exact .inr (.inr ⟨_, .head _⟩)
  · exact absurd (Heap.lt_size (N p hp).1) ((List.mem_singleton.mp hI) ▸ Nat.lt_irrefl _)
  · intro i v s' Q' E' m' hP hn' hq
    exact wpAny_assign_Name (wpAny_storeName_local (hx C) hn' (fun h' hn2 hs2 => hq h' _ _ ⟨v, hP, by simp⟩ hn2 hs2.extBut) (hsk C))
  · rintro i ys C D oC oD m₂ h tk news₁ E' hi hJ hyl hk ⟨v, hv, hmx⟩ hoC rfl F₁ hCD o ho
    refine AllObj.nil fun N₁ off offI => ?_
    have o1 := offI (s.heap.objs.size, o) (.head _)
    exact turn i v ys _ C D o oC m₂ h tk news₁ E' (by simpa using hv) hJ (hk.mem _ (.head _)) hmx hoC ho F₁ N₁ hCD o1.1 o1.2 fun p hp => ⟨(off p hp).1 (s.heap.objs.size, o) (.head _), (off p hp).2⟩
  · intro D C h tk m' ys oD news' F' N' ho off hn' hC₀ hD₀ hCL hDL hCD offC hk hJ
    subst ho
    exact done D C h tk m' ys news' F' N' off hn' hC₀ hCL hCD offC (by simpa using hJ)
theorem compTupB {Jf : List (Addr × Obj) → Nat → List Value → List (Addr × Obj) → Prop} {vs : List Value} {nn : Nat} (hh : A.handled = none) (hm : (ax, tupleO vs.toArray nn) ∈ news) (hn : vs.length ≤ sizeLine) (F : Fr h₀ L s.heap m) (N : News h₀ L s.heap news) (h0 : Jf news 0 [] news) (hcell : ∀ y ∈ scope.names, y.2 ≠ .cell) (hkind : scope.kind = .function)
    (hx : ∀ C, (compEnvC scope cl C env).kindOf x = some .local) (hsk : ∀ C, ((compEnvC scope cl C env).scope.kind == .class || ((compEnvC scope cl C env).scope.kind == .module && (compEnvC scope cl C env).locals != (compEnvC scope cl C env).globals)) = false)
    (turn : ∀ i v ys I C D oI oC m₂ h tk news₁ (E' : Value → Shared → Prop), vs[i]? = some v → Jf news i ys news₁ → (ax, tupleO vs.toArray nn) ∈ news₁ → m₂ x = some v → LCg.NsObj oC m₂ → oI.cls = .type "tuple_iterator" → Fr h₀ L h m → News h₀ L h ((I, oI) :: (C, oC) :: (D, LCg.lst ys) :: news₁) → @Ne Nat C D → @Ne Nat I C → @Ne Nat I D →
      (∀ p ∈ news₁, p.1 ≠ I ∧ p.1 ≠ C ∧ p.1 ≠ D) →
      wpAny (model prog w) A (testsOf ifs (compEnvC scope cl C env)) (fun ok s₃ => if ok = true then wpAny (model prog w) A (eval elt (compEnvC scope cl C env)) (fun y s₄ => CompEndJ h₀ L m { s with heap := h, toks := tk } [(I, oI)] C D oC (LCg.lst ys) (fun n' => SubL [(ax, tupleO vs.toArray nn)] n' ∧ Jf news (i + 1) (ys ++ [y]) n') s₄) E' s₃
        else CompEndJ h₀ L m { s with heap := h, toks := tk } [(I, oI)] C D oC (LCg.lst ys) (fun n' => SubL [(ax, tupleO vs.toArray nn)] n' ∧ Jf news (i + 1) ys n') s₃) E' { s with heap := h, toks := tk })
    (done : ∀ D C h tk m' ys news', Fr h₀ L h m → News h₀ L h ((D, LCg.lst ys) :: news') → (∀ p ∈ news', p.1 ≠ D) → h.Ns C m' → h₀.get? C = none → C ≠ L → C ≠ D → (∀ p ∈ news', p.1 ≠ C) → Jf news vs.length ys news' → RR (.ref D) C (.ok .next) { s with heap := h, toks := tk }) :
    wpAny (model prog w) A (pyIter (.ref ax)) (CompAt prog w A env cl scope elt (.Name x px) iter ifs pos E RR) E s :=
  compTup (J := Jf news) hh hm hn F N h0 hcell hkind hx hsk turn done
theorem compLstB {Jf : List (Addr × Obj) → Nat → List Value → List (Addr × Obj) → Prop} {vs : List Value} {nn : Nat} (hh : A.handled = none) (hm : (ax, listO vs.toArray nn) ∈ news) (hn : vs.length ≤ sizeLine) (F : Fr h₀ L s.heap m) (N : News h₀ L s.heap news) (h0 : Jf news 0 [] news) (hcell : ∀ y ∈ scope.names, y.2 ≠ .cell) (hkind : scope.kind = .function)
    (hx : ∀ C, (compEnvC scope cl C env).kindOf x = some .local) (hsk : ∀ C, ((compEnvC scope cl C env).scope.kind == .class || ((compEnvC scope cl C env).scope.kind == .module && (compEnvC scope cl C env).locals != (compEnvC scope cl C env).globals)) = false)
    (turn : ∀ i v ys I C D oI oC m₂ h tk news₁ (E' : Value → Shared → Prop), vs[i]? = some v → Jf news i ys news₁ → (ax, listO vs.toArray nn) ∈ news₁ → m₂ x = some v → LCg.NsObj oC m₂ → oI.cls = .type "list_iterator" → Fr h₀ L h m → News h₀ L h ((I, oI) :: (C, oC) :: (D, LCg.lst ys) :: news₁) → @Ne Nat C D → @Ne Nat I C → @Ne Nat I D →
      (∀ p ∈ news₁, p.1 ≠ I ∧ p.1 ≠ C ∧ p.1 ≠ D) →
      wpAny (model prog w) A (testsOf ifs (compEnvC scope cl C env)) (fun ok s₃ => if ok = true then wpAny (model prog w) A (eval elt (compEnvC scope cl C env)) (fun y s₄ => CompEndJ h₀ L m { s with heap := h, toks := tk } [(I, oI)] C D oC (LCg.lst ys) (fun n' => SubL [(ax, listO vs.toArray nn)] n' ∧ Jf news (i + 1) (ys ++ [y]) n') s₄) E' s₃
        else CompEndJ h₀ L m { s with heap := h, toks := tk } [(I, oI)] C D oC (LCg.lst ys) (fun n' => SubL [(ax, listO vs.toArray nn)] n' ∧ Jf news (i + 1) ys n') s₃) E' { s with heap := h, toks := tk })
    (done : ∀ D C h tk m' ys news', Fr h₀ L h m → News h₀ L h ((D, LCg.lst ys) :: news') → (∀ p ∈ news', p.1 ≠ D) → h.Ns C m' → h₀.get? C = none → C ≠ L → C ≠ D → (∀ p ∈ news', p.1 ≠ C) → Jf news vs.length ys news' → RR (.ref D) C (.ok .next) { s with heap := h, toks := tk }) :
    wpAny (model prog w) A (pyIter (.ref ax)) (CompAt prog w A env cl scope elt (.Name x px) iter ifs pos E RR) E s :=
  compLst (J := Jf news) hh hm hn F N h0 hcell hkind hx hsk turn done
end
/-- a name of the enclosing def's, kept in a cell -/
theorem ldCell {news : List (Addr × Obj)} {Q : Value → Shared → Prop} {x : Str} {C c : Addr} {o : Obj} {v : Value} (N : News h₀ L s.heap news) (hc : cl.lookup x = some c) (hm : (c, o) ∈ news) (hd : o.data = .cell (some v)) (h : Q v s)
    (hk : (compEnvC scope cl C env).scope.kind = .function) (hx : (compEnvC scope cl C env).kindOf x = some .cell) (hb : (x == ("__debug__" : Str)) = false) :
    wpAny (model prog w) A (eval (.Name x pos) (compEnvC scope cl C env)) Q E s := wpAny_Name (wpAny_loadName_cell hk hx hc ⟨o, N.get hm, hd⟩ h) hb
end

section
local macro_rules | `(tactic| omega) => `(tactic| lia)
/-- the asking tree of a sort, asked by ranks -/
def wpp {α : Type} (n : Nat) (rk : Nat → Int) : KasT α → (α → Prop) → Prop
  | .ret a, Q => Q a
  | .ask i j k, Q => i < n ∧ j < n ∧ wpp n rk (k (decide (rk i < rk j))) Q
theorem wpp_bind {α β : Type} {n : Nat} {rk : Nat → Int} {f : α → KasT β} {Q : β → Prop} : ∀ {t : KasT α}, wpp n rk t (fun a => wpp n rk (f a) Q) → wpp n rk (t.bind f) Q
  | .ret _, h => h
  | .ask _ _ _, h => ⟨h.1, h.2.1, wpp_bind h.2.2⟩
theorem wpp_mono {α : Type} {n : Nat} {rk : Nat → Int} {Q Q' : α → Prop} (hq : ∀ a, Q a → Q' a) : ∀ {t : KasT α}, wpp n rk t Q → wpp n rk t Q'
  | .ret _, h => hq _ h
  | .ask _ _ _, h => ⟨h.1, h.2.1, wpp_mono hq h.2.2⟩
theorem wpp_to {α : Type} {n : Nat} {rk : Nat → Int} {I : Shared → Prop} {cmp : Nat → Nat → (Bool → Shared → Prop) → Shared → Prop} {Q' : α → Prop} {Q : α → Shared → Prop}
    (hc : ∀ i j C s, I s → i < n → j < n → (∀ s', I s' → C (decide (rk i < rk j)) s') → cmp i j C s) (hQ : ∀ a s', Q' a → I s' → Q a s') : ∀ {t : KasT α} {s : Shared}, wpp n rk t Q' → I s → t.kasWp cmp Q s
  | .ret _, _, h, hs => hQ _ _ h hs
  | .ask i j _, s, h, hs => hc i j _ s hs h.1 h.2.1 fun _ hs' => wpp_to hc hQ h.2.2 hs'
section
variable {n : Nat} {rk : Nat → Int}
def atR (rk : Nat → Int) (p : Array Nat) (k : Nat) : Int := rk (p.getD k 0)
def Asc (rk : Nat → Int) (p : Array Nat) (a : Nat) : Prop := ∀ i j, i < j → j < a → atR rk p i < atR rk p j
def Desc (rk : Nat → Int) (p : Array Nat) (a : Nat) : Prop := ∀ i j, i < j → j < a → atR rk p j < atR rk p i
def PermN (n : Nat) (p : Array Nat) : Prop := p.Perm (List.toArray (List.range n))
theorem PermN.size {p : Array Nat} (h : PermN n p) : p.size = n := by rw [h.size_eq]; simp
theorem PermN.lt {p : Array Nat} (h : PermN n p) (h0 : 0 < n) (k : Nat) : p.getD k 0 < n := by
  by_cases hk : k < p.size
  · have e : p.getD k 0 = p[k] := by simp [Array.getD, hk]
    rw [e]
    have hm : p[k] ∈ p.toList := by simp
    have := (List.Perm.mem_iff (Array.perm_iff_toList_perm.mp h)).mp hm
    simpa using this
  · have e : p.getD k 0 = 0 := by simp [Array.getD, hk]
    rw [e]; exact h0
theorem PermN.inj {p : Array Nat} (h : PermN n p) {i j : Nat} (hi : i < n) (hj : j < n) (e : p.getD i 0 = p.getD j 0) : i = j := by
  have nd : p.toList.Nodup := (List.Perm.nodup_iff (Array.perm_iff_toList_perm.mp h)).mpr (by simpa using List.nodup_range)
  have hs := h.size
  have a1 : p.getD i 0 = p.toList[i]'(by simp; omega) := by simp [Array.getD, show i < p.size by omega]
  have a2 : p.getD j 0 = p.toList[j]'(by simp; omega) := by simp [Array.getD, show j < p.size by omega]
  rw [a1, a2] at e
  have pw := List.pairwise_iff_getElem.mp nd
  rcases Nat.lt_trichotomy i j with q | q | q
  · exact absurd e (pw i j _ _ q)
  · exact q
  · exact absurd e.symm (pw j i _ _ q)
theorem getD_of {p q : Array Nat} {i j : Nat} (h : p[i]? = q[j]?) : p.getD i 0 = q.getD j 0 := by
  rw [Array.getD_eq_getD_getElem?, Array.getD_eq_getD_getElem?, h]
variable (hd : ∀ i j, i < n → j < n → rk i = rk j → i = j) (h0 : 0 < n)
include hd h0
theorem PermN.lt_of {p : Array Nat} (h : PermN n p) {i j : Nat} (hi : i < n) (hj : j < n) (hij : i ≠ j) (hn : ¬ atR rk p i < atR rk p j) : atR rk p j < atR rk p i := by
  have : atR rk p i ≠ atR rk p j := fun e => hij (h.inj hi hj (hd _ _ (h.lt h0 i) (h.lt h0 j) e))
  omega
omit hd h0 in
theorem asc_snoc {p : Array Nat} {k : Nat} (ha : Asc rk p (k + 1)) (hl : atR rk p k < atR rk p (k + 1)) : Asc rk p (k + 1 + 1) := fun i j hij hj => by
  rcases Nat.lt_or_eq_of_le (Nat.le_of_lt_succ hj) with hj | rfl
  · exact ha i j hij hj
  rcases Nat.lt_or_eq_of_le (Nat.le_of_lt_succ hij) with hi | rfl
  · exact Int.lt_trans (ha i k hi (Nat.lt_succ_self k)) hl
  · exact hl
omit hd h0 in
theorem desc_snoc {p : Array Nat} {k : Nat} (ha : Desc rk p (k + 1)) (hl : atR rk p (k + 1) < atR rk p k) : Desc rk p (k + 1 + 1) := fun i j hij hj => by
  rcases Nat.lt_or_eq_of_le (Nat.le_of_lt_succ hj) with hj | rfl
  · exact ha i j hij hj
  rcases Nat.lt_or_eq_of_le (Nat.le_of_lt_succ hij) with hi | rfl
  · exact Int.lt_trans hl (ha i k hi (Nat.lt_succ_self k))
  · exact hl
theorem asc_spec {p : Array Nat} (h : PermN n p) : ∀ (f k : Nat), k + 1 + f ≤ n → Asc rk p (k + 1) → wpp n rk (kas_asc p f (k + 1)) (fun m => k + 1 ≤ m ∧ m ≤ k + 1 + f ∧ Asc rk p m ∧ (m < k + 1 + f → atR rk p m < atR rk p (m - 1)))
  | 0, k, _, ha => ⟨Nat.le_refl _, Nat.le_refl _, ha, fun q => absurd q (Nat.lt_irrefl _)⟩
  | f + 1, k, hk, ha => by
    have e : k + 1 + (f + 1) = k + 1 + 1 + f := Nat.add_right_comm (k + 1) f 1
    rw [e] at hk ⊢
    have hkn : k + 1 < n := Nat.le_trans (Nat.le_add_right _ f) hk
    refine ⟨h.lt h0 _, h.lt h0 _, ?_⟩
    show wpp n rk (if decide (atR rk p (k + 1) < atR rk p k) = true then _ else _) _
    by_cases hc : atR rk p (k + 1) < atR rk p k
    · rw [decide_eq_true hc, if_pos rfl]
      exact ⟨Nat.le_refl _, Nat.le_trans (Nat.le_succ _) (Nat.le_add_right _ _), ha, fun _ => hc⟩
    · rw [decide_eq_false hc, if_neg (by decide)]
      exact wpp_mono (fun m hm => ⟨Nat.le_of_succ_le hm.1, hm.2⟩) (asc_spec h f (k + 1) hk (asc_snoc ha (h.lt_of hd h0 hkn (Nat.lt_of_succ_lt hkn) (Nat.succ_ne_self k) hc)))
theorem desc_spec {p : Array Nat} (h : PermN n p) : ∀ (f k : Nat), 1 ≤ k → k + 1 + f ≤ n → Desc rk p (k + 1) → wpp n rk (kas_desc f p (k + 1) 0) (fun r => ∃ m, r = (p, m, 0) ∧ k + 1 ≤ m ∧ m ≤ k + 1 + f ∧ Desc rk p m)
  | 0, k, _, _, ha => ⟨k + 1, rfl, Nat.le_refl _, Nat.le_refl _, ha⟩
  | f + 1, k, h1, hk, ha => by
    have e : k + 1 + (f + 1) = k + 1 + 1 + f := Nat.add_right_comm (k + 1) f 1
    rw [e] at hk ⊢
    have hkn : k + 1 < n := Nat.le_trans (Nat.le_add_right _ f) hk
    refine ⟨h.lt h0 _, h.lt h0 _, ?_⟩
    show wpp n rk (if decide (atR rk p (k + 1) < atR rk p k) = true then _ else _) _
    by_cases hc : atR rk p (k + 1) < atR rk p k
    · rw [decide_eq_true hc, if_pos rfl, if_neg (by decide)]
      exact wpp_mono (fun r ⟨m, e, a, b⟩ => ⟨m, e, Nat.le_of_succ_le a, b⟩) (desc_spec h f (k + 1) (Nat.le_succ_of_le h1) hk (desc_snoc ha hc))
    · rw [decide_eq_false hc, if_neg (by decide)]
      have hl := h.lt_of hd h0 hkn (Nat.lt_of_succ_lt hkn) (Nat.succ_ne_self k) hc
      refine ⟨h.lt h0 _, h.lt h0 _, ?_⟩
      show wpp n rk (if decide (atR rk p k < atR rk p (k + 1)) = true then _ else _) _
      rw [decide_eq_true hl, if_pos rfl]
      exact ⟨k + 1, rfl, Nat.le_refl _, Nat.le_trans (Nat.le_succ _) (Nat.le_add_right _ _), ha⟩
omit hd h0 in
theorem rev_perm {p : Array Nat} (h : PermN n p) (i j : Nat) : PermN n (kas_rev p i j) := (mirror_perm _ _ _ _).trans h
omit hd h0 in
theorem rev_at {p : Array Nat} {m : Nat} (hm : m ≤ p.size) {k : Nat} (hk : k < m) : atR rk (kas_rev p 0 m) k = atR rk p (m - 1 - k) := by
  unfold atR kas_rev
  rw [getD_of (q := p) (j := m - 1 - k) ?_]
  rw [getElem?_mirror_all hm, if_pos ⟨Nat.zero_le _, hk⟩]
  congr 1
  omega
theorem tail3_spec {p : Array Nat} (h : PermN n p) {m : Nat} (h1 : 1 ≤ m) (hm : m ≤ n) (ha : Desc rk p m) : wpp n rk (kas_tail3 m n p) (fun r => PermN n r.2 ∧ Asc rk r.2 r.1 ∧ 1 ≤ r.1 ∧ r.1 ≤ n) := by
  have hp := rev_perm h 0 m
  obtain ⟨q, rfl⟩ : ∃ q, m = q + 1 := ⟨m - 1, (Nat.sub_add_cancel h1).symm⟩
  have en : q + 1 + (n - (q + 1)) = n := Nat.add_sub_of_le hm
  refine wpp_bind (wpp_mono (fun k hk => ⟨hp, hk.2.2.1, Nat.le_trans h1 hk.1, en ▸ hk.2.1⟩) (asc_spec hd h0 hp (n - (q + 1)) q (Nat.le_of_eq en) fun i j hij hj => ?_))
  have hs : q + 1 ≤ p.size := by rw [h.size]; exact hm
  rw [rev_at hs hj, rev_at hs (Nat.lt_trans hij hj)]
  have hj' : j ≤ q := Nat.le_of_lt_succ hj
  exact ha _ _ (Nat.sub_lt_sub_left (Nat.lt_of_lt_of_le hij hj') hij) (Nat.lt_of_le_of_lt (Nat.sub_le _ _) (Nat.lt_succ_self q))
theorem count_spec {p : Array Nat} (h : PermN n p) : wpp n rk (kas_count n p) (fun r => PermN n r.2 ∧ Asc rk r.2 r.1 ∧ 1 ≤ r.1 ∧ r.1 ≤ n) := by
  have en : 0 + 1 + (n - 1) = n := Nat.add_sub_of_le h0
  refine wpp_bind (wpp_mono (fun k hk => ?_) (asc_spec hd h0 h (n - 1) 0 (Nat.le_of_eq en) fun i j hij hj => absurd (Nat.lt_of_lt_of_le hij (Nat.le_of_lt_succ hj)) (Nat.not_lt_zero i)))
  rw [en] at hk
  obtain ⟨k1, k2, k3, k4⟩ := hk
  by_cases he : (k == n) = true
  · rw [if_pos he]
    exact ⟨h, k3, k1, k2⟩
  · rw [if_neg he]
    have hne : k ≠ n := by simpa using he
    by_cases hk1 : k > 1
    · rw [if_pos hk1]
      refine ⟨h.lt h0 _, h.lt h0 _, ?_⟩
      show wpp n rk (if decide (atR rk p 0 < atR rk p (k - 1)) = true then _ else _) _
      rw [decide_eq_true (k3 0 (k - 1) (Nat.sub_pos_of_lt hk1) (Nat.sub_lt (Nat.lt_of_lt_of_le Nat.zero_lt_one k1) Nat.zero_lt_one)), if_pos rfl]
      exact ⟨h, k3, k1, k2⟩
    · rw [if_neg hk1]
      obtain rfl : k = 1 := Nat.le_antisymm (Nat.not_lt.mp hk1) k1
      have hlt := k4 (Nat.lt_of_le_of_ne k2 hne)
      refine wpp_bind (wpp_mono (fun r hr => ?_) (desc_spec hd h0 h (n - (1 + 1)) 1 (Nat.le_refl _) (Nat.le_of_eq (Nat.add_sub_of_le (Nat.lt_of_le_of_ne k2 hne))) fun i j hij hj => ?_))
      · obtain ⟨m, rfl, m1, m2, m3⟩ := hr
        dsimp only
        rw [if_neg (by decide)]
        exact tail3_spec hd h0 h (Nat.le_of_succ_le m1) (Nat.le_trans m2 (Nat.le_of_eq (Nat.add_sub_of_le (Nat.lt_of_le_of_ne k2 hne)))) m3
      · obtain rfl : j = 1 := by omega
        obtain rfl : i = 0 := by omega
        exact hlt
theorem place_spec {p : Array Nat} (h : PermN n p) {k : Nat} (hk : k < n) : ∀ (f l r : Nat), l ≤ r → r ≤ k → r ≤ l + f → (∀ i, i < l → atR rk p i < atR rk p k) → (∀ i, r ≤ i → i < k → atR rk p k < atR rk p i) → Asc rk p k →
    wpp n rk (kas_place p k f l r) (fun m => m ≤ k ∧ (∀ i, i < m → atR rk p i < atR rk p k) ∧ ∀ i, m ≤ i → i < k → atR rk p k < atR rk p i)
  | 0, l, r, hlr, hrk, hf, a1, a2, _ => ⟨Nat.le_trans hlr hrk, a1, fun i hi hik => a2 i (Nat.le_trans hf hi) hik⟩
  | f + 1, l, r, hlr, hrk, hf, a1, a2, ha => by
    show wpp n rk (if l ≥ r then _ else _) _
    by_cases hc : l ≥ r
    · rw [if_pos hc]
      exact ⟨Nat.le_trans hlr hrk, a1, fun i hi hik => a2 i (Nat.le_trans hc hi) hik⟩
    · rw [if_neg hc]
      refine ⟨h.lt h0 _, h.lt h0 _, ?_⟩
      show wpp n rk (if decide (atR rk p k < atR rk p ((l + r) / 2)) = true then _ else _) _
      obtain ⟨c, hcm, c1, c2⟩ : ∃ c, c = (l + r) / 2 ∧ l ≤ c ∧ c < r := ⟨_, rfl, by omega⟩
      rw [← hcm]
      have ck : c < k := Nat.lt_of_lt_of_le c2 hrk
      by_cases hq : atR rk p k < atR rk p c
      · rw [decide_eq_true hq, if_pos rfl]
        refine place_spec h hk f l c c1 (Nat.le_of_lt ck) (Nat.le_of_lt_succ (Nat.lt_of_lt_of_le c2 hf)) a1 (fun i hi hik => ?_) ha
        rcases Nat.lt_or_eq_of_le hi with hi | rfl
        · exact Int.lt_trans hq (ha c i hi hik)
        · exact hq
      · rw [decide_eq_false hq, if_neg (by decide)]
        have hl := h.lt_of hd h0 hk (Nat.lt_trans ck hk) (Nat.ne_of_gt ck) hq
        refine place_spec h hk f (c + 1) r c2 hrk (Nat.le_trans hf (Nat.le_trans (Nat.add_le_add_right c1 _) (Nat.le_of_eq (Nat.add_right_comm c f 1)))) (fun i hi => ?_) a2 ha
        rcases Nat.lt_or_eq_of_le (Nat.le_of_lt_succ hi) with hi | rfl
        · exact Int.lt_trans (ha i c hi ck) hl
        · exact hl
theorem bin_spec : ∀ (f : Nat) (p : Array Nat) (k : Nat), PermN n p → k + f = n → Asc rk p k → wpp n rk (kas_bin f p k) (fun q => PermN n q ∧ Asc rk q n)
  | 0, p, k, h, hk, ha => ⟨h, by rw [← hk]; exact ha⟩
  | f + 1, p, k, h, hk, ha => by
    have hkn : k < n := Nat.lt_of_lt_of_le (Nat.lt_add_of_pos_right (Nat.succ_pos f)) (Nat.le_of_eq hk)
    refine wpp_bind (wpp_mono (fun l hl => ?_) (place_spec hd h0 h hkn k 0 k (Nat.zero_le _) (Nat.le_refl _) (Nat.le_of_eq (Nat.zero_add k).symm) (fun i hi => absurd hi (Nat.not_lt_zero i)) (fun i hi hik => absurd hik (Nat.not_lt.mpr hi)) ha))
    obtain ⟨l1, l2, l3⟩ := hl
    have ekl : k - (k - l) = l := Nat.sub_sub_self l1
    have e0 := getElem?_bubble (show k < p.size by rw [h.size]; exact hkn) (k - l) (Nat.sub_le _ _)
    rw [ekl] at e0
    have at_l : atR rk (bubble p k (k - l)) l = atR rk p k := congrArg rk (getD_of ((e0 l).trans (if_pos rfl)))
    have at_mid : ∀ b, l ≤ b → b < k → atR rk (bubble p k (k - l)) (b + 1) = atR rk p b := fun b hb hbk => congrArg rk (getD_of ((e0 (b + 1)).trans ((if_neg (Nat.ne_of_gt (Nat.lt_succ_of_le hb))).trans (if_pos ⟨Nat.lt_succ_of_le hb, hbk⟩))))
    have at_lo : ∀ j, j < l → atR rk (bubble p k (k - l)) j = atR rk p j := fun j hj => congrArg rk (getD_of ((e0 j).trans ((if_neg (Nat.ne_of_lt hj)).trans (if_neg fun c => absurd c.1 (Nat.not_lt.mpr (Nat.le_of_lt hj))))))
    refine bin_spec f _ _ ((bubble_perm _ _ _).trans h) ((Nat.add_right_comm k 1 f).trans hk) fun i j hij hj => ?_
    rcases Nat.lt_trichotomy j l with q1 | rfl | q1
    · rw [at_lo i (Nat.lt_trans hij q1), at_lo j q1]
      exact ha i j hij (Nat.lt_of_lt_of_le q1 l1)
    · rw [at_l, at_lo i hij]
      exact l2 i hij
    · cases j with
      | zero => exact absurd q1 (Nat.not_lt_zero _)
      | succ b =>
        have hb : l ≤ b := Nat.le_of_lt_succ q1
        have hbk : b < k := Nat.lt_of_succ_lt_succ hj
        rw [at_mid b hb hbk]
        rcases Nat.lt_trichotomy i l with q2 | rfl | q2
        · rw [at_lo i q2]
          exact ha i b (Nat.lt_of_lt_of_le q2 hb) hbk
        · rw [at_l]
          exact l3 b hb hbk
        · cases i with
          | zero => exact absurd q2 (Nat.not_lt_zero _)
          | succ a =>
            rw [at_mid a (Nat.le_of_lt_succ q2) (Nat.lt_trans (Nat.lt_of_succ_lt_succ hij) hbk)]
            exact ha a b (Nat.lt_of_succ_lt_succ hij) hbk
theorem sort_spec : wpp n rk (kas_sort n) (fun p => PermN n p ∧ Asc rk p n) := by
  refine wpp_bind (wpp_mono (fun r hr => ?_) (count_spec hd h0 (Array.Perm.refl _)))
  obtain ⟨r1, r2, r3, r4⟩ := hr
  by_cases hc : r.1 < n
  · rw [if_pos hc]
    have e : max r.1 1 = r.1 := by omega
    rw [e]
    exact bin_spec hd h0 _ _ _ r1 (by omega) r2
  · rw [if_neg hc]
    have e : r.1 = n := by omega
    rw [e] at r2
    exact ⟨r1, r2⟩
end

section
open PySem.F
variable {prog : Program} {w : World} {A : Around} {E : Value → Shared → Prop} {s : Shared}
theorem mm2_min {hp : Heap} {v0 v1 : Value} {b : Bool} {I S : Addr} {fp wr : List Addr} {P : Nat → Value → Prop} {St : Nat → Heap → Prop} {R : Result → Shared → Prop} {c : Nat} (W : Walks prog w A.in1 I fp wr 2 P St) (hP0 : ∀ v, P 0 v → v = v0) (hP1 : ∀ v, P 1 v → v = v1)
    (cmp : ∀ h tk (Q E : Value → Shared → Prop), (∀ c o, hp.get? c = some o → h.get? c = some o) → Q (.bool b) { s with heap := h, toks := tk } → wpAny (model prog w) A.in1 (richCompare .Lt v1 v0) Q E { s with heap := h, toks := tk })
    (hSf : S ∉ fp) (hnew : ∀ c ∈ wr, hp.get? c = none) (hS0 : hp.get? S = none) (hst : St 0 s.heap) (hS : s.heap.get? S = some { cls := .type "list", dict := none, data := .seq #[] c, slots := #[] }) (hold : ∀ c o, hp.get? c = some o → s.heap.get? c = some o)
    (hR : ∀ h' tk, (∀ c o, hp.get? c = some o → h'.get? c = some o) → R (.ok (.ret (if b then v1 else v0))) { s with heap := h', toks := tk }) :
    codeAny (model prog w) A (.builtin "min.loop" ⟨[.ref I, .none, .ref S], []⟩) R s := by
  have hSw : S ∉ wr := fun h => hSf (W.sub _ h)
  have hname : (toString "min" ++ toString ".loop" : String) = "min.loop" := by decide
  have old : ∀ {h h' : Heap}, (∀ c o, hp.get? c = some o → h.get? c = some o) → (∀ b o, b ∉ wr → h.get? b = some o → h'.get? b = some o) → ∀ c o, hp.get? c = some o → h'.get? c = some o := fun a k c o e => k c o (fun q => by rw [hnew c q] at e; cases e) (a c o e)
  have oldS : ∀ {h : Heap} {g : Obj → Obj}, (∀ c o, hp.get? c = some o → h.get? c = some o) → ∀ c o, hp.get? c = some o → (h.update S g).get? c = some o := fun a c o e => (Heap.get?_update_other _ _ (fun q => by rw [q] at hS0; rw [hS0] at e; cases e)).trans (a c o e)
  have stS : ∀ {i : Nat} {h : Heap} {g : Obj → Obj}, St i h → St i (h.update S g) := fun st => W.frame _ _ _ st fun b hbf o e => (Heap.get?_update_other _ _ (fun h : S = b => hSf (by rw [h]; exact hbf))).trans e
  -- the end
  have fin : ∀ (h : Heap) (tk : Nat) (v : Value) (c : Nat), v = (if b then v1 else v0) → St 2 h → (∀ c o, hp.get? c = some o → h.get? c = some o) → h.get? S = some { cls := .type "list", dict := none, data := .seq #[v, v] c, slots := #[] } →
      codeAny (model prog w) A (.builtin "min.loop" ⟨[.ref I, .none, .ref S], []⟩) R { s with heap := h, toks := tk } := by
    rintro h tk v c rfl hst2 ho hS2
    refine codeAny_builtin F.entry_min_loop ?_
    rw [Around.under_plainId F.plain_min_loop _]
    show wpAny _ A.in1 (seqItems? (.ref S) >>= _) _ _ _
    refine wpAny_bind (wpAny_seqItems hS2 rfl ?_)
    show wpAny _ A.in1 (tryCatch (pyNext (.ref I)) _ >>= _) _ _ _
    refine wpAny_bind (wpAny_tryCatch (W.done _ _ _ hst2 fun h' tk hk' => ?_))
    have hS' := hk' S _ hSw hS2
    show wpAny _ A.in1 (updateSeq S (fun _ => #[]) >>= _) _ _ _
    refine wpAny_bind ?_
    refine wpAny_updateSeq hS' rfl (wpAny_bind (wpAny_letGo (wpAny_pure ?_)))
    exact hR _ _ (oldS (old ho hk'))
  refine codeAny_builtin F.entry_min_loop ?_
  rw [Around.under_plainId F.plain_min_loop _]
  show wpAny _ A.in1 (seqItems? (.ref S) >>= _) _ _ s
  refine wpAny_bind (wpAny_seqItems hS rfl ?_)
  show wpAny _ A.in1 (tryCatch (pyNext (.ref I)) _ >>= _) _ _ s
  refine wpAny_bind (wpAny_tryCatch (W.item 0 s _ _ (by decide) hst fun v h1 tk1 hPv hst1 hk1 => ?_))
  obtain rfl := hP0 v hPv
  have hS1 := hk1 S _ hSw hS
  show wpAny _ A.in1 (updateSeq S (fun _ => #[v, v]) >>= _) _ _ _
  refine wpAny_bind ?_
  refine wpAny_updateSeq hS1 rfl ?_
  rw [hname]
  refine wpAny_pure ⟨plainId_quiet F.plain_min_loop _, ?_⟩
  have hS2 := Heap.get?_update_self (Obj.mapSeq fun _ => #[v, v]) hS1 rfl
  have ho2 := oldS (g := Obj.mapSeq fun _ => #[v, v]) (old hold hk1)
  refine codeAny_builtin F.entry_min_loop ?_
  rw [Around.under_plainId F.plain_min_loop _]
  show wpAny _ A.in1 (seqItems? (.ref S) >>= _) _ _ _
  refine wpAny_bind (wpAny_seqItems hS2 rfl ?_)
  show wpAny _ A.in1 (tryCatch (pyNext (.ref I)) _ >>= _) _ _ _
  refine wpAny_bind (wpAny_tryCatch (W.item 1 _ _ _ (by decide) (stS hst1) fun v' h3 tk3 hPv' hst3 hk3 => ?_))
  obtain rfl := hP1 v' hPv'
  have hS3 := hk3 S _ hSw hS2
  have ho3 := old ho2 hk3
  show wpAny _ A.in1 (tryCatch (holding [v', v'] (richCompare .Lt v' v >>= _)) _ >>= _) _ _ _
  refine wpAny_bind (wpAny_tryCatch (wpAny_holding (wpAny_bind (cmp h3 tk3 _ _ ho3 ?_))))
  refine wpAny_bind (wpAny_holding (wpAny_truthy_bool ?_))
  refine wpAny_bind (wpAny_letGo (wpAny_pure ?_))
  cases b with
  | true =>
    simp only [if_true]
    refine wpAny_bind ?_
    refine wpAny_updateSeq hS3 rfl (wpAny_bind (wpAny_letGo ?_))
    rw [hname]
    exact wpAny_pure ⟨plainId_quiet F.plain_min_loop _, fin _ _ v' _ (by simp) (stS hst3) (oldS ho3) (Heap.get?_update_self _ hS3 rfl)⟩
  | false =>
    simp only [Bool.false_eq_true, if_false]
    refine wpAny_bind (wpAny_letGo ?_)
    rw [hname]
    exact wpAny_pure ⟨plainId_quiet F.plain_min_loop _, fin _ _ v _ (by simp) hst3 ho3 hS3⟩
theorem min_list2 {l : Addr} {v0 v1 : Value} {b : Bool} {Q : Value → Shared → Prop} (hh : A.handled = none) (hl : s.heap.IsList l #[v0, v1])
    (cmp : ∀ h tk (Q E : Value → Shared → Prop), (∀ c o, s.heap.get? c = some o → h.get? c = some o) → Q (.bool b) { s with heap := h, toks := tk } → wpAny (model prog w) A.in1 (richCompare .Lt v1 v0) Q E { s with heap := h, toks := tk })
    (hQ : ∀ h' tk, (∀ c o, s.heap.get? c = some o → h'.get? c = some o) → Q (if b then v1 else v0) { s with heap := h', toks := tk }) : wpAny (model prog w) A (call (.builtin "min") [.ref l]) Q E s := by
  have hname : (toString "min" ++ toString ".loop" : String) = "min.loop" := by decide
  refine call_function_tree F.kind_min F.plain_min F.entry_min (F.args_min1 _) ?_
  show wpAny _ A.in1 (Builtin.Builtins.bindParams "min" ["key", "default"] 0 ⟨[], []⟩ >>= _) _ _ s
  refine wpAny_bind (wpAny_of_eq (show Builtin.Builtins.bindParams "min" ["key", "default"] 0 ⟨[], []⟩ = pure [none, none] from rfl) ?_)
  refine wpAny_bind (wpAny_pure ?_)
  refine wpAny_bind (wpAny_pyIter_list hl ?_)
  refine wpAny_bind (wpAny_newObj_type ?_)
  have hlt : l < s.heap.objs.size := by obtain ⟨o, ho, _⟩ := hl; exact Heap.lt_size ho
  have hne : l ≠ s.heap.objs.size := Nat.ne_of_lt hlt
  have hsz : (s.heap.push { cls := .type "list_iterator", data := .fields #[.ref l, .int 0 0] }).objs.size = s.heap.objs.size + 1 := Heap.size_push ..
  have up : ∀ c o, s.heap.get? c = some o → ((s.heap.push { cls := .type "list_iterator", data := .fields #[.ref l, .int 0 0] }).push { cls := .type "list", data := .seq #[] }).get? c = some o := fun c o e => Heap.get?_push_of_some _ (Heap.get?_push_of_some _ e)
  rw [hname]
  refine wpAny_pure ⟨plainId_quiet F.plain_min_loop _, mm2_min (hp := s.heap) (b := b) (Walks.list (A := A.in1) hh s.heap.objs.size l hne #[v0, v1]) (fun v h => by simpa using h.symm) (fun v h => by simpa using h.symm) cmp ?_ ?_ ?_
    ⟨⟨_, Heap.get?_push_of_some _ (Heap.get?_push_size _ rfl), rfl, rfl⟩, hl.at fun o e => up _ o e⟩ (Heap.get?_push_size _ rfl) up hQ⟩
  · intro q
    dsimp only at q
    rw [hsz] at q
    rcases List.mem_cons.mp q with q | q
    · exact absurd q (Nat.succ_ne_self _)
    · exact absurd hlt (by rw [← List.mem_singleton.mp q]; exact Nat.not_lt.mpr (Nat.le_succ _))
  · intro c hc
    rw [List.mem_singleton.mp hc]
    exact Heap.get?_none_of_le (Nat.le_refl _)
  · dsimp only
    rw [hsz]
    exact Heap.get?_none_of_le (Nat.le_succ _)

theorem mm2_max {hp : Heap} {v0 v1 : Value} {b : Bool} {I S : Addr} {fp wr : List Addr} {P : Nat → Value → Prop} {St : Nat → Heap → Prop} {R : Result → Shared → Prop} {c : Nat} (W : Walks prog w A.in1 I fp wr 2 P St) (hP0 : ∀ v, P 0 v → v = v0) (hP1 : ∀ v, P 1 v → v = v1)
    (cmp : ∀ h tk (Q E : Value → Shared → Prop), (∀ c o, hp.get? c = some o → h.get? c = some o) → Q (.bool b) { s with heap := h, toks := tk } → wpAny (model prog w) A.in1 (richCompare .Gt v1 v0) Q E { s with heap := h, toks := tk })
    (hSf : S ∉ fp) (hnew : ∀ c ∈ wr, hp.get? c = none) (hS0 : hp.get? S = none) (hst : St 0 s.heap) (hS : s.heap.get? S = some { cls := .type "list", dict := none, data := .seq #[] c, slots := #[] }) (hold : ∀ c o, hp.get? c = some o → s.heap.get? c = some o)
    (hR : ∀ h' tk, (∀ c o, hp.get? c = some o → h'.get? c = some o) → R (.ok (.ret (if b then v1 else v0))) { s with heap := h', toks := tk }) :
    codeAny (model prog w) A (.builtin "max.loop" ⟨[.ref I, .none, .ref S], []⟩) R s := by
  have hSw : S ∉ wr := fun h => hSf (W.sub _ h)
  have hname : (toString "max" ++ toString ".loop" : String) = "max.loop" := by decide
  have old : ∀ {h h' : Heap}, (∀ c o, hp.get? c = some o → h.get? c = some o) → (∀ b o, b ∉ wr → h.get? b = some o → h'.get? b = some o) → ∀ c o, hp.get? c = some o → h'.get? c = some o := fun a k c o e => k c o (fun q => by rw [hnew c q] at e; cases e) (a c o e)
  have oldS : ∀ {h : Heap} {g : Obj → Obj}, (∀ c o, hp.get? c = some o → h.get? c = some o) → ∀ c o, hp.get? c = some o → (h.update S g).get? c = some o := fun a c o e => (Heap.get?_update_other _ _ (fun q => by rw [q] at hS0; rw [hS0] at e; cases e)).trans (a c o e)
  have stS : ∀ {i : Nat} {h : Heap} {g : Obj → Obj}, St i h → St i (h.update S g) := fun st => W.frame _ _ _ st fun b hbf o e => (Heap.get?_update_other _ _ (fun h : S = b => hSf (by rw [h]; exact hbf))).trans e
  -- the end
  have fin : ∀ (h : Heap) (tk : Nat) (v : Value) (c : Nat), v = (if b then v1 else v0) → St 2 h → (∀ c o, hp.get? c = some o → h.get? c = some o) → h.get? S = some { cls := .type "list", dict := none, data := .seq #[v, v] c, slots := #[] } →
      codeAny (model prog w) A (.builtin "max.loop" ⟨[.ref I, .none, .ref S], []⟩) R { s with heap := h, toks := tk } := by
    rintro h tk v c rfl hst2 ho hS2
    refine codeAny_builtin F.entry_max_loop ?_
    rw [Around.under_plainId F.plain_max_loop _]
    show wpAny _ A.in1 (seqItems? (.ref S) >>= _) _ _ _
    refine wpAny_bind (wpAny_seqItems hS2 rfl ?_)
    show wpAny _ A.in1 (tryCatch (pyNext (.ref I)) _ >>= _) _ _ _
    refine wpAny_bind (wpAny_tryCatch (W.done _ _ _ hst2 fun h' tk hk' => ?_))
    have hS' := hk' S _ hSw hS2
    show wpAny _ A.in1 (updateSeq S (fun _ => #[]) >>= _) _ _ _
    refine wpAny_bind ?_
    refine wpAny_updateSeq hS' rfl (wpAny_bind (wpAny_letGo (wpAny_pure ?_)))
    exact hR _ _ (oldS (old ho hk'))
  refine codeAny_builtin F.entry_max_loop ?_
  rw [Around.under_plainId F.plain_max_loop _]
  show wpAny _ A.in1 (seqItems? (.ref S) >>= _) _ _ s
  refine wpAny_bind (wpAny_seqItems hS rfl ?_)
  show wpAny _ A.in1 (tryCatch (pyNext (.ref I)) _ >>= _) _ _ s
  refine wpAny_bind (wpAny_tryCatch (W.item 0 s _ _ (by decide) hst fun v h1 tk1 hPv hst1 hk1 => ?_))
  obtain rfl := hP0 v hPv
  have hS1 := hk1 S _ hSw hS
  show wpAny _ A.in1 (updateSeq S (fun _ => #[v, v]) >>= _) _ _ _
  refine wpAny_bind ?_
  refine wpAny_updateSeq hS1 rfl ?_
  rw [hname]
  refine wpAny_pure ⟨plainId_quiet F.plain_max_loop _, ?_⟩
  have hS2 := Heap.get?_update_self (Obj.mapSeq fun _ => #[v, v]) hS1 rfl
  have ho2 := oldS (g := Obj.mapSeq fun _ => #[v, v]) (old hold hk1)
  refine codeAny_builtin F.entry_max_loop ?_
  rw [Around.under_plainId F.plain_max_loop _]
  show wpAny _ A.in1 (seqItems? (.ref S) >>= _) _ _ _
  refine wpAny_bind (wpAny_seqItems hS2 rfl ?_)
  show wpAny _ A.in1 (tryCatch (pyNext (.ref I)) _ >>= _) _ _ _
  refine wpAny_bind (wpAny_tryCatch (W.item 1 _ _ _ (by decide) (stS hst1) fun v' h3 tk3 hPv' hst3 hk3 => ?_))
  obtain rfl := hP1 v' hPv'
  have hS3 := hk3 S _ hSw hS2
  have ho3 := old ho2 hk3
  show wpAny _ A.in1 (tryCatch (holding [v', v'] (richCompare .Gt v' v >>= _)) _ >>= _) _ _ _
  refine wpAny_bind (wpAny_tryCatch (wpAny_holding (wpAny_bind (cmp h3 tk3 _ _ ho3 ?_))))
  refine wpAny_bind (wpAny_holding (wpAny_truthy_bool ?_))
  refine wpAny_bind (wpAny_letGo (wpAny_pure ?_))
  cases b with
  | true =>
    simp only [if_true]
    refine wpAny_bind ?_
    refine wpAny_updateSeq hS3 rfl (wpAny_bind (wpAny_letGo ?_))
    rw [hname]
    exact wpAny_pure ⟨plainId_quiet F.plain_max_loop _, fin _ _ v' _ (by simp) (stS hst3) (oldS ho3) (Heap.get?_update_self _ hS3 rfl)⟩
  | false =>
    simp only [Bool.false_eq_true, if_false]
    refine wpAny_bind (wpAny_letGo ?_)
    rw [hname]
    exact wpAny_pure ⟨plainId_quiet F.plain_max_loop _, fin _ _ v _ (by simp) hst3 ho3 hS3⟩
theorem max_list2 {l : Addr} {v0 v1 : Value} {b : Bool} {Q : Value → Shared → Prop} (hh : A.handled = none) (hl : s.heap.IsList l #[v0, v1])
    (cmp : ∀ h tk (Q E : Value → Shared → Prop), (∀ c o, s.heap.get? c = some o → h.get? c = some o) → Q (.bool b) { s with heap := h, toks := tk } → wpAny (model prog w) A.in1 (richCompare .Gt v1 v0) Q E { s with heap := h, toks := tk })
    (hQ : ∀ h' tk, (∀ c o, s.heap.get? c = some o → h'.get? c = some o) → Q (if b then v1 else v0) { s with heap := h', toks := tk }) : wpAny (model prog w) A (call (.builtin "max") [.ref l]) Q E s := by
  have hname : (toString "max" ++ toString ".loop" : String) = "max.loop" := by decide
  refine call_function_tree F.kind_max F.plain_max F.entry_max (F.args_max1 _) ?_
  show wpAny _ A.in1 (Builtin.Builtins.bindParams "max" ["key", "default"] 0 ⟨[], []⟩ >>= _) _ _ s
  refine wpAny_bind (wpAny_of_eq (show Builtin.Builtins.bindParams "max" ["key", "default"] 0 ⟨[], []⟩ = pure [none, none] from rfl) ?_)
  refine wpAny_bind (wpAny_pure ?_)
  refine wpAny_bind (wpAny_pyIter_list hl ?_)
  refine wpAny_bind (wpAny_newObj_type ?_)
  have hlt : l < s.heap.objs.size := by obtain ⟨o, ho, _⟩ := hl; exact Heap.lt_size ho
  have hne : l ≠ s.heap.objs.size := Nat.ne_of_lt hlt
  have hsz : (s.heap.push { cls := .type "list_iterator", data := .fields #[.ref l, .int 0 0] }).objs.size = s.heap.objs.size + 1 := Heap.size_push ..
  have up : ∀ c o, s.heap.get? c = some o → ((s.heap.push { cls := .type "list_iterator", data := .fields #[.ref l, .int 0 0] }).push { cls := .type "list", data := .seq #[] }).get? c = some o := fun c o e => Heap.get?_push_of_some _ (Heap.get?_push_of_some _ e)
  rw [hname]
  refine wpAny_pure ⟨plainId_quiet F.plain_max_loop _, mm2_max (hp := s.heap) (b := b) (Walks.list (A := A.in1) hh s.heap.objs.size l hne #[v0, v1]) (fun v h => by simpa using h.symm) (fun v h => by simpa using h.symm) cmp ?_ ?_ ?_
    ⟨⟨_, Heap.get?_push_of_some _ (Heap.get?_push_size _ rfl), rfl, rfl⟩, hl.at fun o e => up _ o e⟩ (Heap.get?_push_size _ rfl) up hQ⟩
  · intro q
    dsimp only at q
    rw [hsz] at q
    rcases List.mem_cons.mp q with q | q
    · exact absurd q (Nat.succ_ne_self _)
    · exact absurd hlt (by rw [← List.mem_singleton.mp q]; exact Nat.not_lt.mpr (Nat.le_succ _))
  · intro c hc
    rw [List.mem_singleton.mp hc]
    exact Heap.get?_none_of_le (Nat.le_refl _)
  · dsimp only
    rw [hsz]
    exact Heap.get?_none_of_le (Nat.le_succ _)

theorem max_pair {v0 v1 : Value} {b : Bool} {Q : Value → Shared → Prop} (hh : A.handled = none)
    (cmp : ∀ h tk (Q E : Value → Shared → Prop), (∀ c o, s.heap.get? c = some o → h.get? c = some o) → Q (.bool b) { s with heap := h, toks := tk } → wpAny (model prog w) A.in1 (richCompare .Gt v1 v0) Q E { s with heap := h, toks := tk })
    (hQ : ∀ h' tk, (∀ c o, s.heap.get? c = some o → h'.get? c = some o) → Q (if b then v1 else v0) { s with heap := h', toks := tk }) : wpAny (model prog w) A (call (.builtin "max") [v0, v1]) Q E s := by
  have hname : (toString "max" ++ toString ".loop" : String) = "max.loop" := by decide
  refine call_function_tree F.kind_max F.plain_max F.entry_max (F.args_max2 _ _) ?_
  show wpAny _ A.in1 (Builtin.Builtins.bindParams "max" ["key", "default"] 0 ⟨[], []⟩ >>= _) _ _ s
  refine wpAny_bind (wpAny_of_eq (show Builtin.Builtins.bindParams "max" ["key", "default"] 0 ⟨[], []⟩ = pure [none, none] from rfl) ?_)
  show wpAny _ A.in1 (newTuple [v0, v1] >>= _) _ _ s
  refine wpAny_bind (wpAny_newObj_type ?_)
  have hT : (s.heap.push { cls := .type "tuple", data := .seq #[v0, v1] }).IsTuple s.heap.objs.size #[v0, v1] := ⟨_, Heap.get?_push_size _ rfl, rfl, 0, rfl⟩
  refine wpAny_bind (wpAny_pyIter_tuple hT ?_)
  refine wpAny_bind (wpAny_newObj_type ?_)
  have s1 : (s.heap.push { cls := .type "tuple", data := .seq #[v0, v1] }).objs.size = s.heap.objs.size + 1 := Heap.size_push ..
  have s2 : ((s.heap.push { cls := .type "tuple", data := .seq #[v0, v1] }).push { cls := .type "tuple_iterator", data := .fields #[.ref s.heap.objs.size, .int 0 0] }).objs.size = s.heap.objs.size + 2 := (Heap.size_push ..).trans (by rw [s1])
  have up1 : ∀ c o, (s.heap.push { cls := .type "tuple", data := .seq #[v0, v1] }).get? c = some o → (((s.heap.push { cls := .type "tuple", data := .seq #[v0, v1] }).push { cls := .type "tuple_iterator", data := .fields #[.ref s.heap.objs.size, .int 0 0] }).push { cls := .type "list", data := .seq #[] }).get? c = some o := fun c o e => Heap.get?_push_of_some _ (Heap.get?_push_of_some _ e)
  have up : ∀ c o, s.heap.get? c = some o → (((s.heap.push { cls := .type "tuple", data := .seq #[v0, v1] }).push { cls := .type "tuple_iterator", data := .fields #[.ref s.heap.objs.size, .int 0 0] }).push { cls := .type "list", data := .seq #[] }).get? c = some o := fun c o e => up1 c o (Heap.get?_push_of_some _ e)
  have hne : s.heap.objs.size ≠ (s.heap.push { cls := .type "tuple", data := .seq #[v0, v1] }).objs.size := by rw [s1]; exact Nat.ne_of_lt (Nat.lt_succ_self _)
  rw [hname]
  refine wpAny_pure ⟨plainId_quiet F.plain_max_loop _, mm2_max (hp := s.heap) (b := b) (Walks.tuple (A := A.in1) hh (s.heap.push { cls := .type "tuple", data := .seq #[v0, v1] }).objs.size s.heap.objs.size hne #[v0, v1]) (fun v h => by simpa using h.symm) (fun v h => by simpa using h.symm) cmp ?_ ?_ ?_
    ⟨⟨_, Heap.get?_push_of_some _ (Heap.get?_push_size _ rfl), rfl, rfl⟩, hT.at fun o e => up1 _ o e⟩ (Heap.get?_push_size _ rfl) up hQ⟩
  · intro q
    dsimp only at q
    rw [s2, s1] at q
    rcases List.mem_cons.mp q with q | q
    · exact absurd q (Nat.succ_ne_self _)
    · exact absurd (List.mem_singleton.mp q) (Nat.ne_of_gt (Nat.lt_succ_of_lt (Nat.lt_succ_self _)))
  · intro c hc
    rw [List.mem_singleton.mp hc, s1]
    exact Heap.get?_none_of_le (Nat.le_succ _)
  · dsimp only
    rw [s2]
    exact Heap.get?_none_of_le (Nat.le_succ_of_le (Nat.le_succ _))
end

/-- one list of texts before another, item by item -/
def lexS : List Str → List Str → Bool
  | [], [] => false
  | [], _ :: _ => true
  | _ :: _, [] => false
  | a :: r, b :: q => if a = b then lexS r q else decide (a.cps.toList < b.cps.toList)
def lexI : List Int → List Int → Bool
  | [], [] => false
  | [], _ :: _ => true
  | _ :: _, [] => false
  | a :: r, b :: q => if a = b then lexI r q else decide (a < b)
theorem lexS_nil {xs ys : List Str} {i : Nat} (hi : i ≤ ys.length) (h : xs.length = i) : lexS (xs.drop i) (ys.drop i) = decide (xs.length < ys.length) := by
  rw [List.drop_of_length_le (by omega), h]
  cases e : ys.drop i with
  | nil =>
    have : ys.length ≤ i := by simpa using e
    simp [lexS]; omega
  | cons a r =>
    have : (ys.drop i).length = r.length + 1 := by rw [e]; rfl
    rw [List.length_drop] at this
    simp [lexS]; omega
theorem lexS_nilR {xs ys : List Str} {i : Nat} (hi : i < xs.length) (h : ys.length = i) : lexS (xs.drop i) (ys.drop i) = decide (xs.length < ys.length) := by
  rw [List.drop_of_length_le (show ys.length ≤ i by omega), List.drop_eq_getElem_cons hi, h]
  simp [lexS]; omega
theorem lexS_nilG {xs ys : List Str} {i : Nat} (hi : i ≤ ys.length) (h : xs.length = i) : lexS (ys.drop i) (xs.drop i) = decide (ys.length < xs.length) := by
  rw [List.drop_of_length_le (show xs.length ≤ i by omega), h]
  cases e : ys.drop i with
  | nil => simp [lexS]; omega
  | cons a r => simp [lexS]; omega
section
open AutoSeq1 (wpAny_loadPart')
open MeetsSeq MeetsSeq2 MeetsSeq3 SeqAt Builtin

theorem lt_loopS (l b : Addr) (items items2 : Array Value) (n n2 : Nat) (dd dd2 : Option Addr) (sl sl2 : Array (Option Value)) (xs ys : List Str) (hx : StrsAre items.toList xs) (hy : StrsAre items2.toList ys) (k : Nat) :
    ∀ i : Nat, items.size - i = k → i ≤ items.size → i ≤ items2.size → Meets (Builtin.«list.__eq__.loop» ⟨[.ref l, .ref b, rawInt i, rawInt 0], []⟩)
      (fun A R s => s.heap.get? l = some { cls := .type "list", dict := dd, data := .seq items n, slots := sl } ∧ s.heap.get? b = some { cls := .type "list", dict := dd2, data := .seq items2 n2, slots := sl2 } ∧
        R (.ok (.ret (.bool (lexS (xs.drop i) (ys.drop i))))) s) := by
  have hlx : items.size = xs.length := by rw [← hx.length]; simp
  have hly : items2.size = ys.length := by rw [← hy.length]; simp
  induction k with
  | zero =>
    intro i hk hi hi' prog w A R s h
    obtain ⟨hp, g, d, tk, os⟩ := s; obtain ⟨hl, hb, h⟩ := h
    wp_walk using wpAny_loadPart' hl, wpAny_loadPart' hb
    have hi1 : items[((i : Nat) : Int).toNat]? = none := by simp; omega
    rw [hi1]
    wp_walk using wpAny_loadPart' hl, wpAny_loadPart' hb
    show R (.ok (.ret (.bool (decide (items.size < items2.size))))) _
    rw [lexS_nil (by omega) (by omega)] at h
    rw [hlx, hly]
    exact h
  | succ k ih =>
    intro i hk hi hi' prog w A R s h
    obtain ⟨hp, g, d, tk, os⟩ := s; obtain ⟨hl, hb, h⟩ := h
    wp_walk using wpAny_loadPart' hl, wpAny_loadPart' hb
    have hlt : i < items.size := by omega
    have hi1 : items[((i : Nat) : Int).toNat]? = some items[i] := by simp [hlt]
    rw [hi1]
    by_cases hlt2 : i < items2.size
    · have hi2 : items2[((i : Nat) : Int).toNat]? = some items2[i] := by simp [hlt2]
      rw [hi2]
      obtain ⟨t, e1⟩ := hx.at (show xs[i]? = some (xs[i]'(by omega)) from List.getElem?_eq_getElem _)
      obtain ⟨u, e2⟩ := hy.at (show ys[i]? = some (ys[i]'(by omega)) from List.getElem?_eq_getElem _)
      have e1' : items[i] = .str (xs[i]'(by omega)) t := by simpa [hlt] using e1
      have e2' : items2[i] = .str (ys[i]'(by omega)) u := by simpa [hlt2] using e2
      rw [e1', e2']
      rw [List.drop_eq_getElem_cons (show i < xs.length by omega), List.drop_eq_getElem_cons (show i < ys.length by omega)] at h
      refine wpAny_bind (EqAt.str_str _ _ _ _ prog w _ _ ?_)
      have hc : ((i : Int) + 1) = ((i + 1 : Nat) : Int) := by push_cast; rfl
      by_cases he : (xs[i]'(by omega)) = (ys[i]'(by omega))
      · rw [lexS, if_pos he] at h
        have hb' : ((xs[i]'(by omega)) == (ys[i]'(by omega))) = true := by simpa using he
        rw [hb']
        wp_walk
        rw [hc]
        exact ⟨plainId_quiet plain_eq_loop _, codeAny_builtin entry_eq_loop (by
          rw [Around.under_plainId plain_eq_loop _]
          exact ih (i + 1) (by omega) (by omega) (by omega) prog w A R _ ⟨hl, hb, h⟩)⟩
      · rw [lexS, if_neg he] at h
        have hb' : ((xs[i]'(by omega)) == (ys[i]'(by omega))) = false := by simpa using he
        rw [hb']
        wp_walk using wpAny_loadPart' hl, wpAny_loadPart' hb
        rw [hi1, hi2, e1', e2']
        refine wpAny_bind (show wpAny _ _ (richCompare .Lt _ _) _ _ _ from PyProof.Rows.lt_str ?_)
        exact wpAny_pure h
    · have hi2 : items2[((i : Nat) : Int).toNat]? = none := by simp; omega
      rw [hi2]
      wp_walk using wpAny_loadPart' hl, wpAny_loadPart' hb
      show R (.ok (.ret (.bool (decide (items.size < items2.size))))) _
      rw [lexS_nilR (by omega) (by omega)] at h
      rw [hlx, hly]
      exact h

theorem rc_lt_lists {prog : Program} {w : World} {A : Around} {s : Shared} {E Q : Value → Shared → Prop} {l b : Addr} {items items2 : Array Value} {xs ys : List Str} (hl : s.heap.IsList l items) (hb : s.heap.IsList b items2) (hx : StrsAre items.toList xs) (hy : StrsAre items2.toList ys) (hu : A.units < cLine)
    (h : Q (.bool (lexS xs ys)) s) : wpAny (model prog w) A (richCompare .Lt (.ref l) (.ref b)) Q E s := by
  obtain ⟨⟨cls, dd, data, sl⟩, ho, hc, n, hd⟩ := id hl
  obtain ⟨⟨cls2, dd2, data2, sl2⟩, ho2, hc2, n2, hd2⟩ := id hb
  simp only at hc hd hc2 hd2
  subst hc hd hc2 hd2
  have M : Meets (Builtin.«list.__lt__» ⟨[.ref l, .ref b], []⟩) (fun A R s => s.heap.get? l = some { cls := .type "list", dict := dd, data := .seq items n, slots := sl } ∧ s.heap.get? b = some { cls := .type "list", dict := dd2, data := .seq items2 n2, slots := sl2 } ∧
        R (.ok (.ret (.bool (lexS xs ys)))) s) := by
    intro prog w A R s h
    obtain ⟨hp, g, d, tk, os⟩ := s; obtain ⟨hl, hb, h⟩ := h
    have f3 := AutoSeq1.sub_list_list
    wp_walk using wpAny_loadPart' hl, wpAny_loadPart' hb
    exact ⟨plainId_quiet plain_eq_loop _, codeAny_builtin entry_eq_loop (by
      rw [Around.under_plainId plain_eq_loop _]
      exact lt_loopS l b items items2 n n2 dd dd2 sl sl2 xs ys hx hy _ 0 rfl (Nat.zero_le _) (Nat.zero_le _) prog w A R _ ⟨hl, hb, h⟩)⟩
  exact richCompare_meets_room (op := .Lt) ⟨_, ho, rfl⟩ ⟨_, ho2, rfl⟩ F.slot_list_lt F.entry_list_lt (F.args_list_lt_2 _ _) M ⟨ho, ho2, (fun x => nomatch x), h⟩ hu

theorem gt_loopS (l b : Addr) (items items2 : Array Value) (n n2 : Nat) (dd dd2 : Option Addr) (sl sl2 : Array (Option Value)) (xs ys : List Str) (hx : StrsAre items.toList xs) (hy : StrsAre items2.toList ys) (k : Nat) :
    ∀ i : Nat, items.size - i = k → i ≤ items.size → i ≤ items2.size → Meets (Builtin.«list.__eq__.loop» ⟨[.ref l, .ref b, rawInt i, rawInt 4], []⟩)
      (fun A R s => s.heap.get? l = some { cls := .type "list", dict := dd, data := .seq items n, slots := sl } ∧ s.heap.get? b = some { cls := .type "list", dict := dd2, data := .seq items2 n2, slots := sl2 } ∧
        R (.ok (.ret (.bool (lexS (ys.drop i) (xs.drop i))))) s) := by
  have hlx : items.size = xs.length := by rw [← hx.length]; simp
  have hly : items2.size = ys.length := by rw [← hy.length]; simp
  induction k with
  | zero =>
    intro i hk hi hi' prog w A R s h
    obtain ⟨hp, g, d, tk, os⟩ := s; obtain ⟨hl, hb, h⟩ := h
    wp_walk using wpAny_loadPart' hl, wpAny_loadPart' hb
    have hi1 : items[((i : Nat) : Int).toNat]? = none := by simp; omega
    rw [hi1]
    wp_walk using wpAny_loadPart' hl, wpAny_loadPart' hb
    show R (.ok (.ret (.bool (decide (items.size > items2.size))))) _
    rw [lexS_nilG (by omega) (by omega)] at h
    rw [hlx, hly]
    exact h
  | succ k ih =>
    intro i hk hi hi' prog w A R s h
    obtain ⟨hp, g, d, tk, os⟩ := s; obtain ⟨hl, hb, h⟩ := h
    wp_walk using wpAny_loadPart' hl, wpAny_loadPart' hb
    have hlt : i < items.size := by omega
    have hi1 : items[((i : Nat) : Int).toNat]? = some items[i] := by simp [hlt]
    rw [hi1]
    by_cases hlt2 : i < items2.size
    · have hi2 : items2[((i : Nat) : Int).toNat]? = some items2[i] := by simp [hlt2]
      rw [hi2]
      obtain ⟨t, e1⟩ := hx.at (show xs[i]? = some (xs[i]'(by omega)) from List.getElem?_eq_getElem _)
      obtain ⟨u, e2⟩ := hy.at (show ys[i]? = some (ys[i]'(by omega)) from List.getElem?_eq_getElem _)
      have e1' : items[i] = .str (xs[i]'(by omega)) t := by simpa [hlt] using e1
      have e2' : items2[i] = .str (ys[i]'(by omega)) u := by simpa [hlt2] using e2
      rw [e1', e2']
      rw [List.drop_eq_getElem_cons (show i < xs.length by omega), List.drop_eq_getElem_cons (show i < ys.length by omega)] at h
      refine wpAny_bind (EqAt.str_str _ _ _ _ prog w _ _ ?_)
      have hc : ((i : Int) + 1) = ((i + 1 : Nat) : Int) := by push_cast; rfl
      by_cases he : (xs[i]'(by omega)) = (ys[i]'(by omega))
      · rw [lexS, if_pos he.symm] at h
        have hb' : ((xs[i]'(by omega)) == (ys[i]'(by omega))) = true := by simpa using he
        rw [hb']
        wp_walk
        rw [hc]
        exact ⟨plainId_quiet plain_eq_loop _, codeAny_builtin entry_eq_loop (by
          rw [Around.under_plainId plain_eq_loop _]
          exact ih (i + 1) (by omega) (by omega) (by omega) prog w A R _ ⟨hl, hb, h⟩)⟩
      · rw [lexS, if_neg (fun q => he q.symm)] at h
        have hb' : ((xs[i]'(by omega)) == (ys[i]'(by omega))) = false := by simpa using he
        rw [hb']
        wp_walk using wpAny_loadPart' hl, wpAny_loadPart' hb
        rw [hi1, hi2, e1', e2']
        refine wpAny_bind (show wpAny _ _ (richCompare .Gt _ _) _ _ _ from PySem.P.gt_str ?_)
        exact wpAny_pure h
    · have hi2 : items2[((i : Nat) : Int).toNat]? = none := by simp; omega
      rw [hi2]
      wp_walk using wpAny_loadPart' hl, wpAny_loadPart' hb
      show R (.ok (.ret (.bool (decide (items.size > items2.size))))) _
      rw [lexS_nil (by omega) (by omega)] at h
      rw [hlx, hly]
      exact h

theorem rc_gt_lists {prog : Program} {w : World} {A : Around} {s : Shared} {E Q : Value → Shared → Prop} {l b : Addr} {items items2 : Array Value} {xs ys : List Str} (hl : s.heap.IsList l items) (hb : s.heap.IsList b items2) (hx : StrsAre items.toList xs) (hy : StrsAre items2.toList ys) (hu : A.units < cLine)
    (h : Q (.bool (lexS ys xs)) s) : wpAny (model prog w) A (richCompare .Gt (.ref l) (.ref b)) Q E s := by
  obtain ⟨⟨cls, dd, data, sl⟩, ho, hc, n, hd⟩ := id hl
  obtain ⟨⟨cls2, dd2, data2, sl2⟩, ho2, hc2, n2, hd2⟩ := id hb
  simp only at hc hd hc2 hd2
  subst hc hd hc2 hd2
  have M : Meets (Builtin.«list.__gt__» ⟨[.ref l, .ref b], []⟩) (fun A R s => s.heap.get? l = some { cls := .type "list", dict := dd, data := .seq items n, slots := sl } ∧ s.heap.get? b = some { cls := .type "list", dict := dd2, data := .seq items2 n2, slots := sl2 } ∧
        R (.ok (.ret (.bool (lexS ys xs)))) s) := by
    intro prog w A R s h
    obtain ⟨hp, g, d, tk, os⟩ := s; obtain ⟨hl, hb, h⟩ := h
    have f3 := AutoSeq1.sub_list_list
    wp_walk using wpAny_loadPart' hl, wpAny_loadPart' hb
    exact ⟨plainId_quiet plain_eq_loop _, codeAny_builtin entry_eq_loop (by
      rw [Around.under_plainId plain_eq_loop _]
      exact gt_loopS l b items items2 n n2 dd dd2 sl sl2 xs ys hx hy _ 0 rfl (Nat.zero_le _) (Nat.zero_le _) prog w A R _ ⟨hl, hb, h⟩)⟩
  exact richCompare_meets_room (op := .Gt) ⟨_, ho, rfl⟩ ⟨_, ho2, rfl⟩ F.slot_list_gt F.entry_list_gt (F.args_list_gt_2 _ _) M ⟨ho, ho2, (fun x => nomatch x), h⟩ hu
end

section
open AutoSeq1 (wpAny_loadPart')
open MeetsSeq MeetsSeq2 MeetsSeq3 SeqAt Builtin
theorem gtInt {prog : Program} {w : World} {A : Around} {s : Shared} {E Q : Value → Shared → Prop} {a c : Int} {t u : Tok} (h : Q (.bool (decide (c < a))) s) : wpAny (model prog w) A (richCompare .Gt (.int a t) (.int c u)) Q E s := PyProof.Rows.gt_int h
theorem lexI_ends {xs ys : List Int} (h : xs = [] ∨ ys = []) : lexI ys xs = decide (ys.length < xs.length) := by
  rcases h with rfl | rfl
  · cases ys <;> simp [lexI]
  · cases xs <;> simp [lexI]
theorem gt_tupI (l b : Addr) (items items2 : Array Value) (n n2 : Nat) (dd dd2 : Option Addr) (sl sl2 : Array (Option Value)) (xs ys : List Int) (hx : IntsAre items.toList xs) (hy : IntsAre items2.toList ys) :
    Meets (Builtin.«tuple.__gt__» ⟨[.ref l, .ref b], []⟩)
      (fun A R s => s.heap.get? l = some { cls := .type "tuple", dict := dd, data := .seq items n, slots := sl } ∧ s.heap.get? b = some { cls := .type "tuple", dict := dd2, data := .seq items2 n2, slots := sl2 } ∧
        R (.ok (.ret (.bool (lexI ys xs)))) s) :=
  .of_wp fun prog w A R s h => by
    obtain ⟨hp, g, d, tk, os⟩ := s; obtain ⟨hl, hb, h⟩ := h
    have f2 := AutoSeq1.sub_tuple_tuple
    have hlx : items.size = xs.length := by rw [← hx.length]; simp
    have hly : items2.size = ys.length := by rw [← hy.length]; simp
    wp_walk using wpAny_loadPart' hl, wpAny_loadPart' hb, wpAny_forIn_list _ (fun rest b s' => b.1 = none ∧ s' = ⟨hp, g, d, tk, os⟩ ∧ ∃ us vs ms ns i, IntsAre us ms ∧ IntsAre vs ns ∧ rest = us.zip vs ∧ xs.length = i + ms.length ∧ ys.length = i + ns.length ∧
      R (.ok (.ret (.bool (lexI ns ms)))) ⟨hp, g, d, tk, os⟩) _
    case turn =>
      rintro ⟨y, x⟩ rest b s' ⟨hb', rfl, us, vs, ms, ns, i, hu, hv, hz, l1, l2, hR⟩
      cases hu with
      | nil => simp at hz
      | cons a t hu =>
        cases hv with
        | nil => simp at hz
        | cons c u hv =>
          rw [List.zip_cons_cons] at hz
          injection hz with hyx hrest
          have hy' := congrArg Prod.fst hyx
          have hx' := congrArg Prod.snd hyx
          simp only at hy' hx'
          subst hy' hx'
          refine wpAny_bind (EqAt.int_int _ _ _ _ prog w _ _ ?_)
          by_cases he : a = c
          · rw [lexI, if_pos he.symm] at hR
            have e : (a == c) = true := by simpa using he
            rw [e]
            wp_walk
            exact ⟨rfl, rfl, _, _, _, _, i + 1, hu, hv, hrest, by simp at l1; omega, by simp at l2; omega, hR⟩
          · rw [lexI, if_neg (fun q => he q.symm)] at hR
            have e : (a == c) = false := by simpa using he
            rw [e]
            have key : ∀ {Q E : Value → Shared → Prop} {s : Shared}, Q (.bool (decide (c < a))) s → wpAny (model prog w) A.in1 (richCompare .Gt (.int a t) (.int c u)) Q E s := fun h => gtInt h
            wp_walk using key
            exact ⟨_, rfl, hR⟩
    case fin =>
      rintro ⟨b1, b2⟩ s' ⟨hb', rfl, us, vs, ms, ns, i, hu, hv, hz, l1, l2, hR⟩
      simp only at hb'
      subst hb'
      have hend : ms = [] ∨ ns = [] := by
        cases hu with
        | nil => exact .inl rfl
        | cons a t hu =>
          cases hv with
          | nil => exact .inr rfl
          | cons c u hv => simp at hz
      rw [lexI_ends hend] at hR
      wp_walk
      have e : decide (ns.length < ms.length) = decide (items2.size < items.size) := by rw [hlx, hly, l1, l2]; simp
      rw [e] at hR
      exact ⟨_, rfl, by simpa [Builtin.Tuple.tupleCompareSizes] using hR⟩
    case h =>
      exact ⟨rfl, rfl, _, _, _, _, 0, hx, hy, rfl, by simp, by simp, h⟩
theorem rc_gt_tups {prog : Program} {w : World} {A : Around} {s : Shared} {E Q : Value → Shared → Prop} {l b : Addr} {items items2 : Array Value} {xs ys : List Int} (hl : s.heap.IsTuple l items) (hb : s.heap.IsTuple b items2) (hx : IntsAre items.toList xs) (hy : IntsAre items2.toList ys) (hu : A.units < cLine)
    (h : Q (.bool (lexI ys xs)) s) : wpAny (model prog w) A (richCompare .Gt (.ref l) (.ref b)) Q E s := by
  obtain ⟨⟨cls, dd, data, sl⟩, ho, hc, n, hd⟩ := id hl
  obtain ⟨⟨cls2, dd2, data2, sl2⟩, ho2, hc2, n2, hd2⟩ := id hb
  simp only at hc hd hc2 hd2
  subst hc hd hc2 hd2
  exact richCompare_meets_room (op := .Gt) ⟨_, ho, rfl⟩ ⟨_, ho2, rfl⟩ F.slot_tuple_gt F.entry_tuple_gt (F.args_tuple_gt_2 _ _) (gt_tupI l b items items2 n n2 dd dd2 sl sl2 xs ys hx hy) ⟨ho, ho2, (fun x => nomatch x), h⟩ hu
end

end
section
variable {w : World} {A₀ A : Around} {s : Shared} {base h₀ : Heap} {outer : List Env} {L : Addr} {m : Str → Option Value} {env : Env} {arg : List (Addr × Obj)} {K : Frag} {mean : ExcName → Option Value} {mg mb : Str → Option Value}
  {R : Result → Shared → Prop} {name qual : Str} {params : Arguments} {body : List Stmt} {scope : Scope} {dV kV doc pm cdv ct oc : Value} {an od : Option Addr} {osl : Array (Option Value)} {f : Addr} {args : Args} {p : Program} {loose : List Str} {prog : Program}
/-- enterC, its frame and its cells written out -/
theorem enterD (binds : List (Str × Value)) (mL mC : Str → Option Value) (B : Below A₀ base outer h₀) (F : Fr h₀ L s.heap m) (X₀ : K.In h₀) (N : News h₀ L s.heap arg) (T : Top p loose mean mg mb h₀) (hA : A.frames = some (env :: outer)) (hf : env.frame = some L) (hke : env.scope.kind = .function)
    (ho : K.lookup f = some ⟨oc, od, .func (fnOf name qual params body scope dV kV doc pm an cdv ct), osl⟩) (hcd : codeIn K cdv qual = true) (hroom : A.depth < recursionLimit)
    (hbind : BindsTo s (fnOf name qual params body scope dV kV doc pm an cdv ct) args binds) (hkind : (binds.all fun y => scope.names.lookup y.1 == some .local || scope.names.lookup y.1 == some .cell) = true)
    (hnd : ((cellsFrom 0 scope.names []).map (·.1)).Nodup) (hL : ∀ L', bindL (envOfC qual scope L' f cdv).kindOf binds (fun _ => none) = mL) (hC : ∀ L', bindC (envOfC qual scope L' f cdv).kindOf binds (fun _ => none) = mC)
    (h : ∀ g L' h₁ tk cells, (∀ b o, s.heap.get? b = some o → (∀ p ∈ arg, p.1 ≠ b) → g.get? b = some o) → Fr g L' h₁ mL → News g L' h₁ (cells ++ arg) →
      CellsAre mC (cellsFrom (L' + 1) scope.names []) cells → Below A base (env :: outer) g → K.In g → Top p loose mean mg mb g → (∀ p ∈ arg, p.1 < L') →
      wpAny (model prog w) (A.deeper (envOfC qual scope L' f cdv)) (execs body (envOfC qual scope L' f cdv))
        (fun fl s' => LeaveK h₀ L m g R (match fl with | .ret v => v | _ => .none) s')
        (fun e s' => wpAny (model prog w) (A.deeper (envOfC qual scope L' f cdv)) (leaving (envOfC qual scope L' f cdv) e) (fun _ s'' => R (.error e) s'') (fun e' s'' => R (.error e') s'') s')
        { s with heap := h₁, toks := tk })
    (hco : scope.isCoroutine = false) (hgen : scope.isGenerator = false) (hk : scope.kind = .function) : codeAny (model prog w) A (.call (.ref f) args) R s :=
  enterC B F X₀ N T hA hf hke ho hcd hroom hbind hkind hnd (fun g L' h₁ tk cells a F' N' Y => h g L' h₁ tk cells a (hL L' ▸ F') N' (hC L' ▸ Y)) hco hgen hk
end

abbrev setO (es : Array (Int × Value)) (ep : Nat) (t : SetTable) : Obj := { cls := .type "set", dict := none, data := .set es ep t }
/-- the table of a set that holds one True -/
def tabT (led : Bool) : SetTable := (layNew (.fresh 0 0 led) #[] 1 (.bool true)).2.1
theorem tabT_eq (led : Bool) : layNew (.fresh 0 0 led) #[] 1 (.bool true) = (#[(1, .bool true)], tabT led, false, false) := by cases led <;> rfl
theorem tabT_fits (led : Bool) : (tabT led).fits 1 = true := by cases led <;> rfl
theorem tabT_plain (led : Bool) : (tabT led).plain = true := by cases led <;> rfl
theorem tabT_full (led : Bool) : (tabT led).tooFull = false := by cases led <;> rfl
theorem tabT_led (led : Bool) : (tabT led).led = led := by cases led <;> rfl
theorem tabT_at (led : Bool) : SetTable.below (tabT led).place 0 = 0 ∧ (tabT led).place[0]? = some 1 ∧ SetTable.below (tabT led).place 2 = 1 := by cases led <;> exact ⟨rfl, rfl, rfl⟩
theorem pick_one {α : Type} (f : Nat → Nat) (x : α) : pickOrder f #[x] = #[x] := by
  unfold pickOrder pickOrder.go
  simp [Nat.mod_one, pickOrder.go]
section
variable {prog : Program} {w : World} {A : Around} {E : Value → Shared → Prop} {s : Shared} {D : Addr}
theorem unitsT (hu : A.units + 8 < cLine) : A.in1.units + (WData.bool true).depth < cLine := by
  have : A.in1.units ≤ A.units + 2 := by (first | exact Nat.le_refl _ | (dsimp only [Around.in1]; omega))
  have : (WData.bool true).depth ≤ 2 := by decide +kernel
  omega
abbrev ledW (w : World) : Bool := !w.params.followText "set-order"
theorem newSetW {Q : Value → Shared → Prop} (h : Q (.ref s.heap.objs.size) { s with heap := s.heap.push (setO #[] 0 (.fresh 0 0 (ledW w))) }) : wpAny (model prog w) A (newSet (.type "set")) Q E s := by
  unfold newSet setsByText
  refine wpAny_bind (wpAny_bind (wpAny_askSetting (wpAny_pure ?_)))
  dsimp only
  simp only [newObj]
  exact wpAny_bind (wpAny_alloc (wpAny_pure h))
theorem addT0 {led : Bool} {Q : Value → Shared → Prop} (hu : A.units + 8 < cLine) (ho : s.heap.get? D = some (setO #[] 0 (.fresh 0 0 led))) (h : ∀ h' tk, Heap.SameBut D s.heap h' → h'.get? D = some (setO #[(1, .bool true)] 1 (tabT led)) → Q .none { s with heap := h', toks := tk }) :
    wpAny (model prog w) A (call (.builtin "set.add") [.ref D, .bool true]) Q E s := by
  refine wpAny_call_entry F.slot_set_add ⟨_, ho, rfl⟩ F.entry_set_add ?_ (F.args_set_add_2 _ _)
  unfold Builtin.«set.add» Builtin.Frozenset.oneOther
  simp only [List.isEmpty_nil, bind_assoc]
  unfold Builtin.Frozenset.addrOf setAdd
  refine wpAny_bind (wpAny_pure ?_)
  try dsimp only
  refine wpAny_bind (wpAny_pure ?_)
  try dsimp only
  refine wpAny_bind ?_
  refine wpAny_holding ?_
  refine wpAny_bind (pyHash_laid (.bool true) (.bool true) _ _ _ rfl (.bool true) (unitsT hu) fun tk => ?_)
  rw [show hashW w.params (.bool true) = 1 from rfl]
  unfold setAddHashed setAddHashedIn
  refine wpAny_holding (wpAny_bind (wpAny_setState_of (s := { s with toks := tk }) ho rfl (by rfl) ?_))
  dsimp only
  rw [show byScan (.bool true) #[] = true by decide +kernel, if_pos rfl]
  unfold setAddByScan
  refine wpAny_bind ?_
  refine wpAny_bind (wpAny_rule ?_)
  refine wpAny_bind (show wpAny _ _ (pure ScanMet.absent) _ _ _ from wpAny_pure ?_)
  rw [tabT_eq]
  dsimp only
  refine wpAny_bind (show wpAny _ _ (pure ()) _ _ _ from wpAny_pure ?_)
  rw [if_pos (tabT_plain led)]
  refine wpAny_bind ?_
  refine wpAny_bind (show wpAny _ _ (pure true) _ _ _ from wpAny_pure ?_)
  refine wpAny_pure ?_
  simp only [if_true]
  refine wpAny_bind (wpAny_storeSet_of (s := { s with toks := tk }) (es' := #[(1, .bool true)]) (t' := tabT led) ho rfl ?_ (by decide +kernel))
  rw [tabT_full]
  simp only [Bool.and_false, Bool.false_eq_true, if_false]
  refine wpAny_pure (wpAny_pure ?_)
  show wpAny _ _ (ret Value.none) _ _ _
  have hg := Heap.get?_update_self (Obj.putSet #[(1, .bool true)] (tabT led)) ho rfl
  exact wpAny_pure ⟨_, rfl, h _ _ (Heap.SameBut.update ..) hg⟩
theorem addT1 {led : Bool} {ep : Nat} {Q : Value → Shared → Prop} (hu : A.units + 8 < cLine) (ho : s.heap.get? D = some (setO #[(1, .bool true)] ep (tabT led))) (h : ∀ tk, Q .none { s with toks := tk }) :
    wpAny (model prog w) A (call (.builtin "set.add") [.ref D, .bool true]) Q E s := by
  refine wpAny_call_entry F.slot_set_add ⟨_, ho, rfl⟩ F.entry_set_add ?_ (F.args_set_add_2 _ _)
  unfold Builtin.«set.add» Builtin.Frozenset.oneOther
  simp only [List.isEmpty_nil, bind_assoc]
  unfold Builtin.Frozenset.addrOf setAdd
  refine wpAny_bind (wpAny_pure ?_)
  try dsimp only
  refine wpAny_bind (wpAny_pure ?_)
  try dsimp only
  refine wpAny_bind ?_
  refine wpAny_holding ?_
  refine wpAny_bind (pyHash_laid (.bool true) (.bool true) _ _ _ rfl (.bool true) (unitsT hu) fun tk => ?_)
  rw [show hashW w.params (.bool true) = 1 from rfl]
  unfold setAddHashed setAddHashedIn
  refine wpAny_holding (wpAny_bind (wpAny_setState_of (s := { s with toks := tk }) ho rfl (tabT_fits led) ?_))
  dsimp only
  rw [show byScan (.bool true) #[(1, .bool true)] = true by decide +kernel, if_pos rfl]
  unfold setAddByScan
  refine wpAny_bind ?_
  refine wpAny_bind (wpAny_rule ?_)
  show wpAny _ _ (setScanFrom D (.bool true) 1 true [(1, .bool true)] 0 >>= _) _ _ _
  refine wpAny_bind ?_
  unfold setScanFrom
  rw [if_pos (by decide)]
  refine wpAny_bind (wpAny_setEpoch_of (s := { s with toks := tk }) ho rfl (tabT_fits led) ?_)
  refine wpAny_bind (SeqAt.EqAt.same _ prog w _ _ ?_)
  simp only [Bool.and_true, if_true]
  refine wpAny_pure ?_
  dsimp only
  refine wpAny_pure (wpAny_pure ?_)
  show wpAny _ _ (ret Value.none) _ _ _
  exact wpAny_pure ⟨_, rfl, h _⟩
theorem entry_set_iter : entryFor table "set.__iter__" = some Builtin.«frozenset.__iter__» := entryFor_alias (id' := "frozenset.__iter__") (by kernel_rfl) rfl (by decide +kernel) (by kernel_rfl)
theorem slot_setit_next : Slot "set_iterator" "__next__" "set_iterator.__next__" :=
  .of (owner := "set_iterator") (n := "__next__") (by rw [typeLookup_type, builtinLookup_eq_fast]; kernel_rfl) (by decide +kernel) (by decide +kernel) (by decide +kernel)
    (by first | exact .inl (by decide +kernel) | exact .inr (by decide +kernel)) (by rw [isSubtype_type]; kernel_rfl)
theorem entry_setit_next : entryFor table "set_iterator.__next__" = some Builtin.«set_iterator.__next__» := entryFor_of_tree (by kernel_rfl)
abbrev setIt (D : Addr) (ep slot i : Nat) : Obj := { cls := .type "set_iterator", data := .fields #[rawInt slot, rawInt i, .ref D, rawInt 1, rawInt ep] }
theorem iterT {ep : Nat} {Q : Value → Shared → Prop} (ho : s.heap.get? D = some (setO #[(1, .bool true)] ep (tabT (ledW w)))) (h : Q (.ref s.heap.objs.size) { s with heap := s.heap.push (setIt D ep 0 0) }) : wpAny (model prog w) A (pyIter (.ref D)) Q E s := by
  have hT : s.TypeIs (.ref D) "set" := ⟨_, ho, rfl⟩
  refine wpAny_pyIter_slot hT F.slot_set_iter (wpAny_call_entry F.slot_set_iter hT entry_set_iter ?_ (F.args_set_iter_1 _))
  show wpAny _ _ (Builtin.«frozenset.__iter__» ⟨[.ref D], []⟩) _ _ s
  unfold Builtin.«frozenset.__iter__»
  refine wpAny_bind (show wpAny _ _ (pure D) _ _ _ from wpAny_pure ?_)
  unfold Builtin.Frozenset.sizeOf
  refine wpAny_bind (wpAny_bind (wpAny_setEntries_of ho rfl (tabT_fits _) (wpAny_pure ?_)))
  unfold setDrawn setsByText
  refine wpAny_bind (wpAny_bind (wpAny_setState_of ho rfl (tabT_fits _) ?_))
  dsimp only
  refine wpAny_bind (wpAny_bind (wpAny_askSetting (wpAny_pure ?_)))
  refine wpAny_pure ?_
  split
  · rename_i hc
    exfalso
    simp only [Bool.and_eq_true] at hc
    have h2 := hc.2
    revert h2
    generalize ledW w = led
    cases led <;> exact fun q => Bool.false_ne_true q
  · refine wpAny_bind (wpAny_pure ?_)
    refine wpAny_bind (wpAny_setEpoch_of ho rfl (tabT_fits _) ?_)
    unfold newFields
    refine wpAny_bind (wpAny_newObj_type ?_)
    exact wpAny_pure ⟨_, rfl, "set_iterator", _, ⟨_, Heap.get?_push_size _ rfl, rfl⟩, slot_setit_next.lookup, h⟩
theorem walkT {ep : Nat} {Q : Array (Int × Value) → Shared → Prop} (hf : w.params.followText "set-order" = true) (ho : s.heap.get? D = some (setO #[(1, .bool true)] ep (tabT (ledW w)))) (h : Q #[(1, .bool true)] s) : wpAny (model prog w) A (setWalk D) Q E s := by
  unfold setWalk setsByText
  refine wpAny_bind (wpAny_setState_of ho rfl (tabT_fits _) ?_)
  dsimp only
  refine wpAny_bind (wpAny_bind (wpAny_askSetting (wpAny_pure ?_)))
  rw [if_pos (show (Setting.params ⟨(model prog w).prog, (model prog w).w.params⟩).followText "set-order" = true from hf)]
  refine wpAny_bind (wpAny_askSetting (wpAny_pure ?_))
  rw [pick_one]
  exact h
theorem setNextT0 {ep : Nat} {Q : Option (Value × Nat) → Shared → Prop} (ho : s.heap.get? D = some (setO #[(1, .bool true)] ep (tabT (ledW w)))) (h : ∀ k, (w.params.followText "set-order" = false → k = 2) → Q (some (.bool true, k)) s) : wpAny (model prog w) A (setNext D 0 0 ep) Q E s := by
  unfold setNext setsByText
  refine wpAny_bind (wpAny_setState_of ho rfl (tabT_fits _) ?_)
  dsimp only
  refine wpAny_bind (wpAny_bind (wpAny_askSetting (wpAny_pure ?_)))
  cases hf : w.params.followText "set-order" with
  | true =>
    rw [if_pos (show (Setting.params ⟨(model prog w).prog, (model prog w).w.params⟩).followText "set-order" = true from hf), if_neg (by simp)]
    refine wpAny_bind (walkT hf ho (wpAny_pure ?_))
    exact h 0 (fun q => by rw [hf] at q; cases q)
  | false =>
    rw [if_neg (show ¬ (Setting.params ⟨(model prog w).prog, (model prog w).w.params⟩).followText "set-order" = true from fun q => by have q' : w.params.followText "set-order" = true := q; rw [hf] at q'; cases q')]
    have hl : ledW w = true := by simp [hf]
    rw [hl]
    split
    · rename_i hc; exact absurd hc (by exact Bool.false_ne_true)
    · refine wpAny_bind (show wpAny _ _ (pure ()) _ _ _ from wpAny_pure ?_)
      exact wpAny_pure (h 2 fun _ => rfl)
theorem setNextT1 {ep k : Nat} {Q : Option (Value × Nat) → Shared → Prop} (ho : s.heap.get? D = some (setO #[(1, .bool true)] ep (tabT (ledW w)))) (hk : w.params.followText "set-order" = false → k = 2) (h : Q none s) : wpAny (model prog w) A (setNext D k 1 ep) Q E s := by
  unfold setNext setsByText
  refine wpAny_bind (wpAny_setState_of ho rfl (tabT_fits _) ?_)
  dsimp only
  refine wpAny_bind (wpAny_bind (wpAny_askSetting (wpAny_pure ?_)))
  cases hf : w.params.followText "set-order" with
  | true =>
    rw [if_pos (show (Setting.params ⟨(model prog w).prog, (model prog w).w.params⟩).followText "set-order" = true from hf), if_neg (by simp)]
    refine wpAny_bind (walkT hf ho (wpAny_pure ?_))
    exact h
  | false =>
    rw [if_neg (show ¬ (Setting.params ⟨(model prog w).prog, (model prog w).w.params⟩).followText "set-order" = true from fun q => by have q' : w.params.followText "set-order" = true := q; rw [hf] at q'; cases q')]
    obtain rfl := hk hf
    have hl : ledW w = true := by simp [hf]
    rw [hl]
    split
    · rename_i hc; exact absurd hc (by exact Bool.false_ne_true)
    · refine wpAny_bind (show wpAny _ _ (pure ()) _ _ _ from wpAny_pure ?_)
      exact wpAny_pure h
theorem nextT {I : Addr} {ep : Nat} {Q : Option Value → Shared → Prop} (hI : s.heap.get? I = some (setIt D ep 0 0)) (ho : s.heap.get? D = some (setO #[(1, .bool true)] ep (tabT (ledW w)))) (hne : D ≠ I)
    (hQ : ∀ h' k, Heap.SameBut I s.heap h' → h'.get? I = some (setIt D ep k 1) → (w.params.followText "set-order" = false → k = 2) → Q (some (.bool true)) { s with heap := h' }) : wpAny (model prog w) A (pyNext (.ref I)) Q E s := by
  have hT : s.TypeIs (.ref I) "set_iterator" := ⟨_, hI, rfl⟩
  unfold pyNext
  refine wpAny_bind (wpAny_attempt (wpAny_callSpecial?_slot (name := Str.ofString "__next__") (T := "set_iterator") hT slot_setit_next
    (wpAny_call_entry slot_setit_next hT entry_setit_next ?_ (by rfl))))
  unfold Builtin.«set_iterator.__next__»
  refine wpAny_bind (show wpAny _ _ (pure (Value.ref I, [])) _ _ _ from wpAny_pure ?_)
  refine wpAny_bind (wpAny_fieldsOf hI rfl ?_)
  dsimp only
  refine wpAny_bind (wpAny_setEntries_of ho rfl (tabT_fits _) ?_)
  rw [if_neg (by simp)]
  show wpAny _ _ (setNext D 0 0 (ep : Int).toNat >>= _) _ _ _
  rw [Int.toNat_natCast]
  refine wpAny_bind (setNextT0 ho fun k hk => ?_)
  dsimp only
  refine wpAny_bind (wpAny_setField hI rfl (by simp) ?_)
  have g1 := Heap.get?_update_self (Obj.mapFields (·.setIfInBounds 0 (rawInt k))) hI rfl
  refine wpAny_bind (wpAny_setField (s := { s with heap := s.heap.update I (Obj.mapFields (·.setIfInBounds 0 (rawInt k))) }) g1 rfl (by simp) ?_)
  have g2 := Heap.get?_update_self (Obj.mapFields (·.setIfInBounds 1 (rawInt (0 + 1)))) g1 rfl
  refine wpAny_pure ⟨_, rfl, wpAny_pure (hQ _ k ((Heap.SameBut.update ..).trans (Heap.SameBut.update ..)) (g2.trans rfl) hk)⟩
theorem nextT_end {I : Addr} {ep k : Nat} {Q : Option Value → Shared → Prop} (hh : A.handled = none) (hI : s.heap.get? I = some (setIt D ep k 1)) (hk : w.params.followText "set-order" = false → k = 2) (ho : s.heap.get? D = some (setO #[(1, .bool true)] ep (tabT (ledW w))))
    (hQ : ∀ h', Heap.ExtBut I s.heap h' → Q none { s with heap := h' }) : wpAny (model prog w) A (pyNext (.ref I)) Q E s := by
  have hT : s.TypeIs (.ref I) "set_iterator" := ⟨_, hI, rfl⟩
  unfold pyNext
  refine wpAny_bind (wpAny_attempt (wpAny_callSpecial?_slot (name := Str.ofString "__next__") (T := "set_iterator") hT slot_setit_next
    (wpAny_call_entry slot_setit_next hT entry_setit_next ?_ (by rfl))))
  unfold Builtin.«set_iterator.__next__»
  refine wpAny_bind (show wpAny _ _ (pure (Value.ref I, [])) _ _ _ from wpAny_pure ?_)
  refine wpAny_bind (wpAny_fieldsOf hI rfl ?_)
  dsimp only
  refine wpAny_bind (wpAny_setEntries_of ho rfl (tabT_fits _) ?_)
  rw [if_neg (by simp)]
  show wpAny _ _ (setNext D (k : Int).toNat 1 (ep : Int).toNat >>= _) _ _ _
  rw [Int.toNat_natCast, Int.toNat_natCast]
  refine wpAny_bind (setNextT1 ho hk ?_)
  dsimp only
  refine wpAny_bind (wpAny_setField hI rfl (by simp) ?_)
  show wpAny _ _ (newExc (.type "StopIteration") [] >>= _) _ _ _
  refine wpAny_bind ?_
  simp only [newExc, newTuple]
  refine wpAny_bind (wpAny_newObj_type ?_ (by size_fits))
  refine wpAny_bind (m := firstArgMember _ _) (wpAny_of_eq (a := Value.none) (by first | rfl | (simp only [firstArgMember]; rfl)) ?_)
  refine wpAny_newObj_type ?_ (by size_fits)
  simp only [raiseNew]
  refine wpAny_bind (wpAny_handled ?_)
  first | rw [show A.in1.handled = none from hh] | rw [hh]
  refine wpAny_bind (wpAny_pure (wpAny_throw ?_))
  refine wpAny_bind (wpAny_isInstance (T := "StopIteration") (b := true) ⟨_, Heap.get?_push_size _ rfl, rfl⟩ isSubtype_stop ?_)
  exact wpAny_pure (hQ _ (((Heap.SameBut.update ..).extBut.push _).push _))
theorem assignT {env : Env} {x : Str} {px pos : Pos} {k ep : Nat} {Q : Unit → Shared → Prop} (hh : A.handled = none) (ho : s.heap.get? D = some (setO #[(1, .bool true)] ep (tabT (ledW w))))
    (h : ∀ h', (∀ b o, s.heap.get? b = some o → h'.get? b = some o) → wpAny (model prog w) A (assign (.Name x px) env (.bool true)) Q E { s with heap := h' }) : wpAny (model prog w) A (assign (.Tuple [.Name x px] k pos) env (.ref D)) Q E s := by
  have hT : s.TypeIs (.ref D) "set" := ⟨_, ho, rfl⟩
  have hlt : D < s.heap.objs.size := Heap.lt_size ho
  have hne : D ≠ s.heap.objs.size := Nat.ne_of_lt hlt
  rw [arm_assign_Tuple]
  refine wpAny_bind (wpAny_standAt ?_)
  unfold unpack
  rw [show (assignEach [Expr.Name x px] env).length = 1 from rfl]
  refine wpAny_bind (wpAny_holding ?_)
  unfold unpackItems
  refine wpAny_bind ?_
  unfold notIterableAtAll
  refine wpAny_bind (wpAny_specialOf hT F.slot_set_iter.lookup ?_)
  refine wpAny_pure ?_
  simp only [Bool.false_eq_true, if_false]
  refine wpAny_bind (wpAny_holding (iterT ho ?_))
  have gD : (s.heap.push (setIt D ep 0 0)).get? D = some (setO #[(1, .bool true)] ep (tabT (ledW w))) := Heap.get?_push_of_some _ ho
  show wpAny _ _ (holding [.ref s.heap.objs.size] (draw (.ref s.heap.objs.size) 1) >>= _) _ _ _
  refine wpAny_bind (wpAny_holding ?_)
  unfold draw
  refine wpAny_bind (nextT (s := { s with heap := s.heap.push (setIt D ep 0 0) }) (Heap.get?_push_size _ rfl) gD hne fun h1 k hs1 hI1 hk => ?_)
  dsimp only
  refine wpAny_bind (wpAny_holding ?_)
  unfold draw
  refine wpAny_pure (wpAny_pure ?_)
  rw [if_neg (by simp)]
  refine wpAny_bind (wpAny_holding (nextT_end hh hI1 hk ((hs1.2 D hne).trans gD) fun h2 he => ?_))
  simp only [Option.isSome_none, Bool.false_eq_true, if_false]
  refine wpAny_pure ?_
  show wpAny _ _ (assignInOrder [assign (.Name x px) env] [.bool true]) _ _ _
  unfold assignInOrder
  refine wpAny_bind (wpAny_holding (wpAny_mono (h h2 fun b o e => ?_) (fun _ s' hq => ?_) fun _ _ x => x))
  · have hb : b ≠ s.heap.objs.size := Nat.ne_of_lt (Heap.lt_size e)
    exact he b o hb ((hs1.2 b hb).trans (Heap.get?_push_of_some _ e))
  · unfold assignInOrder
    exact wpAny_pure hq
end

section
variable {prog : Program} {w : World} {A : Around} {E : Value → Shared → Prop} {s : Shared} {h₀ : Heap} {L : Addr} {m : Str → Option Value} {env : Env} {elt target iter : PySem.Expr} {ifs : List PySem.Expr} {scope : Scope} {pos : Pos} {cl : List (Str × Addr)}
def CompAtS (prog : Program) (w : World) (A : Around) (env : Env) (cl : List (Str × Addr)) (scope : Scope) (elt target iter : PySem.Expr) (ifs : List PySem.Expr) (pos : Pos) (E : Value → Shared → Prop) (RR : Value → Addr → Result → Shared → Prop) (it : Value) (s₂ : Shared) : Prop :=
  wpAny (model prog w) A (newSet (.type "set")) (fun acc s₃ => wpAny (model prog w) A (newFunctionEnv scope env.globals cl [] env.qual none .none (some env)) (fun cenv s₄ =>
      codeAny (model prog w) A (.compStart (.SetComp elt [⟨target, iter, ifs, 0⟩] scope pos) 0 it acc { cenv with scope := relabel scope env }) (RR acc cenv.locals) s₄) E s₃) E s₂
theorem evalCompS {Q : Value → Shared → Prop} (hclos : closureFor scope env = pure cl) (hkind : scope.kind = .function) (hnames : ∀ y ∈ scope.names, y.2 = .local → scope.names.lookup y.1 = some .local)
    (h : wpAny (model prog w) A (eval iter env) (fun xv s₁ => wpAny (model prog w) A (pyIter xv) (CompAtS prog w A env cl scope elt target iter ifs pos E (compPost (model prog w) A E none Q)) E s₁) E s)
    (hs : ∀ x, foldedSetIterable iter env x = pure x) :
    wpAny (model prog w) A (eval (.SetComp elt [⟨target, iter, ifs, 0⟩] scope pos) env) Q E s := by
  rw [arm_eval_SetComp]
  exact wpAny_comprehension_free (use := none) rfl hs hclos hkind hnames h
theorem tests0 {cenv : Env} {Q1 : Value → Shared → Prop} {Z : Shared → Prop} (h : wpAny (model prog w) A (eval elt cenv) Q1 E s) : wpAny (model prog w) A (testsOf [] cenv) (fun ok s₃ => if ok = true then wpAny (model prog w) A (eval elt cenv) Q1 E s₃ else Z s₃) E s := by
  unfold testsOf
  rw [List.forIn_nil]
  exact wpAny_pure (by rw [if_pos rfl]; exact h)
/-- over a tuple of the ledger: a set whose elements are all True -/
theorem compTupT {x : Str} {px : Pos} {ax : Addr} {news : List (Addr × Obj)} {RR : Value → Addr → Result → Shared → Prop} {vs : List Value} {nn : Nat} (hh : A.handled = none) (hu : A.units + 8 < cLine) (hm : (ax, tupleO vs.toArray nn) ∈ news) (hn : vs.length ≤ sizeLine) (h0 : vs ≠ []) (F : Fr h₀ L s.heap m) (N : News h₀ L s.heap news) (hcell : ∀ y ∈ scope.names, y.2 ≠ .cell) (hkind : scope.kind = .function)
    (hx : ∀ C, (compEnvC scope cl C env).kindOf x = some .local) (hsk : ∀ C, ((compEnvC scope cl C env).scope.kind == .class || ((compEnvC scope cl C env).scope.kind == .module && (compEnvC scope cl C env).locals != (compEnvC scope cl C env).globals)) = false)
    (turn : ∀ (i : Nat) v I C D oI oC oD m₂ h tk (E' : Value → Shared → Prop), vs[i]? = some v → m₂ x = some v → LCg.NsObj oC m₂ → oI.cls = .type "tuple_iterator" → Fr h₀ L h m → News h₀ L h ((I, oI) :: (C, oC) :: (D, oD) :: news) → @Ne Nat C D → @Ne Nat I C → @Ne Nat I D →
      (∀ p ∈ news, p.1 ≠ I ∧ p.1 ≠ C ∧ p.1 ≠ D) → wpAny (model prog w) A (eval elt (compEnvC scope cl C env)) (fun y s₄ => y = .bool true ∧ ∃ tk', s₄ = { s with heap := h, toks := tk' }) E' { s with heap := h, toks := tk })
    (done : ∀ D C h tk m', Fr h₀ L h m → News h₀ L h ((D, setO #[(1, .bool true)] 1 (tabT (ledW w))) :: news) → (∀ p ∈ news, p.1 ≠ D) → h.Ns C m' → h₀.get? C = none → C ≠ L → C ≠ D → (∀ p ∈ news, p.1 ≠ C) → RR (.ref D) C (.ok .next) { s with heap := h, toks := tk }) :
    wpAny (model prog w) A (pyIter (.ref ax)) (CompAtS prog w A env cl scope elt (.Name x px) iter [] pos E RR) E s := by
  have hax := N _ hm
  have hl : s.heap.IsTuple ax vs.toArray := ⟨_, hax.1, rfl, nn, rfl⟩
  have hlt : ax < s.heap.objs.size := Heap.lt_size hax.1
  have hne : ax ≠ s.heap.objs.size := Nat.ne_of_lt hlt
  refine wpAny_pyIter_tuple hl ?_
  show wpAny _ _ _ _ _ _
  refine compJ (ws := [(s.heap.objs.size, "tuple_iterator")]) (keep := [(ax, tupleO vs.toArray nn)]) (n := vs.toArray.size) (AccIs := fun ys o => (ys = [] ∧ o = setO #[] 0 (.fresh 0 0 (ledW w))) ∨ (ys ≠ [] ∧ o = setO #[(1, .bool true)] 1 (tabT (ledW w)))) (J := fun i ys nw => (∀ y ∈ ys, y = .bool true) ∧ nw = news ∧ ys.length = i) (Got := fun i m₂ => ∃ v, vs.toArray[i]? = some v ∧ m₂ x = some v) (s₂ := { s with heap := s.heap.push { cls := .type "tuple_iterator", data := .fields #[.ref ax, .int 0 0] } })
    loopRuleS startRuleS (fun s Q E h => newSetW (h _ s.toks rfl (.inl ⟨rfl, rfl⟩))) (fun i ys y nw s D o Q E hJ hD ho hl h => ?_) (KTurns.ofWalks (Walks.tuple hh s.heap.objs.size ax hne vs.toArray) fun i v s Q E st q => letGo_tupleiter st.1 q) (fun i s Q E st q => wpAny_pyIter_tupleiter st.1 q)
    (fun i h st => ?_) (fun b hb => ?_) (fun b hb => hb) (fun b hb => ?_) (fun b hb => ?_) (fun b hb => ?_) (fun p hp hI => ?_) ⟨⟨_, Heap.get?_push_size _ rfl, rfl, rfl⟩, hl.at fun o e => Heap.get?_push_of_some _ e⟩ (fun C => ?_) (F.push _) (fun p hp => ⟨Heap.get?_push_of_some _ (N p hp).1, (N p hp).2⟩) (And.intro hm trivial) ⟨fun y hy => (by cases hy), rfl, rfl⟩ hcell hkind ?_ ?_
  · obtain rfl : y = .bool true := hJ.1 y (List.mem_append_right _ (.head _))
    rcases ho with ⟨rfl, rfl⟩ | ⟨hne', rfl⟩
    · exact addT0 hu hD fun h' tk hs hD' => h h' tk _ hs hD' (.inr ⟨by simp, rfl⟩)
    · exact addT1 hu hD fun tk => h _ tk _ (Heap.SameBut.refl ..) hD (.inr ⟨by simp, rfl⟩)
  · obtain ⟨it, hit, hic, _⟩ := st.1
    exact ⟨[(s.heap.objs.size, it)], ⟨⟨rfl, hic⟩, trivial⟩, fun p hp => by rw [List.mem_singleton.mp hp]; exact hit⟩
  · rw [List.mem_singleton.mp hb]
    exact newAddr F (Nat.le_refl _)
  · show b < (s.heap.push _).objs.size
    rw [Heap.size_push]
    rcases List.mem_cons.mp hb with rfl | hb
    · exact Nat.lt_succ_self _
    · rw [List.mem_singleton.mp hb]; exact Nat.lt_succ_of_lt hlt
  · rw [List.mem_singleton.mp hb]; exact .head _
  · rcases List.mem_cons.mp hb with e | hb
    · exact .inl (by simp [e])
    · rw [List.mem_singleton.mp hb]
      exact .inr (.inr ⟨_, .head _⟩)
  · exact absurd (Heap.lt_size (N p hp).1) ((List.mem_singleton.mp hI) ▸ Nat.lt_irrefl _)
  · intro i v s' Q' E' m' hP hn' hq
    exact wpAny_assign_Name (wpAny_storeName_local (hx C) hn' (fun h' hn2 hs2 => hq h' _ _ ⟨v, hP, by simp⟩ hn2 hs2.extBut) (hsk C))
  · rintro i ys C D oC oD m₂ h tk news₁ E' hi ⟨hT, rfl, hyl⟩ _ hk ⟨v, hv, hmx⟩ hoC hacc F₁ hCD o ho
    refine AllObj.nil fun N₁ off offI => ?_
    have o1 := offI (s.heap.objs.size, o) (.head _)
    have off' : ∀ p ∈ news₁, p.1 ≠ s.heap.objs.size ∧ p.1 ≠ C ∧ p.1 ≠ D := fun p hp => ⟨(off p hp).1 (s.heap.objs.size, o) (.head _), (off p hp).2⟩
    refine tests0 (wpAny_mono (turn i v _ C D o oC oD m₂ h tk E' (by simpa using hv) hmx hoC ho F₁ N₁ hCD o1.1 o1.2 off') (fun y s₄ q => ?_) fun _ _ e => e)
    obtain ⟨rfl, tk', rfl⟩ := q
    refine ⟨h, tk', news₁, F₁, N₁, off, hk, ⟨fun y hy => ?_, rfl, by simp [hyl]⟩⟩
    rcases List.mem_append.mp hy with hy | hy
    · exact hT y hy
    · exact List.mem_singleton.mp hy
  · rintro D C h tk m' ys oD news' F' N' hacc off hn' hC₀ hD₀ hCL hDL hCD offC hk ⟨hT, rfl, hyl⟩
    rcases hacc with ⟨rfl, _⟩ | ⟨_, rfl⟩
    · exfalso
      have : vs.toArray.size = 0 := hyl.symm
      rw [List.size_toArray] at this
      exact h0 (List.eq_nil_of_length_eq_zero this)
    · exact done D C h tk m' F' N' off hn' hC₀ hCL hCD offC
end

section
variable {prog : Program} {w : World} {A : Around} {E : Value → Shared → Prop} {s : Shared} {env : Env} {h₀ : Heap} {target iter : PySem.Expr} {body orelse : List Stmt} {pos : Pos} {Q : Flow → Shared → Prop} {J : Nat → (Str → Option Value) → List (Addr × Obj) → Prop} {m₀ : Str → Option Value} {news : List (Addr × Obj)}
theorem frPin4 {L : Addr} {h : Heap} {m : Str → Option Value} {x1 x2 x3 x4 : Str} {v1 v2 v3 v4 : Value} (F : Fr h₀ L h m) (e1 : m x1 = some v1) (e2 : m x2 = some v2) (e3 : m x3 = some v3) (e4 : m x4 = some v4) : Fr h₀ L h (fun y => if y = x1 then some v1 else if y = x2 then some v2 else if y = x3 then some v3 else if y = x4 then some v4 else m y) := by
  have F2 := frPin3 F e2 e3 e4
  refine frPin F2 ?_
  show (if x1 = x2 then some v2 else if x1 = x3 then some v3 else if x1 = x4 then some v4 else m x1) = some v1
  by_cases q : x1 = x2
  · rw [if_pos q, ← e2, ← q, e1]
  · rw [if_neg q]
    by_cases r : x1 = x3
    · rw [if_pos r, ← e3, ← r, e1]
    · rw [if_neg r]
      by_cases r4 : x1 = x4
      · rw [if_pos r4, ← e4, ← r4, e1]
      · rw [if_neg r4, e1]
/-- «for i, x in enumerate(l)», l a list of the ledger -/
theorem enumLstJ {elts : List PySem.Expr} {k : Nat} {l : Addr} {vs : List Value} {nn : Nat} (hh : A.handled = none) (hm : (l, listO vs.toArray nn) ∈ news) (F : Fr h₀ env.locals s.heap m₀) (N : News h₀ env.locals s.heap news) (h0 : J 0 m₀ news)
    (turn : ∀ (i : Nat) x t T h tk m₁ news₁ I I' o o', vs[i]? = some x → J i m₁ news₁ → (l, listO vs.toArray nn) ∈ news₁ → Fr h₀ env.locals h m₁ → IsTup h T #[.int i t, x] → o.cls = .type "enumerate" → o'.cls = .type "list_iterator" → News h₀ env.locals h ((I, o) :: (I', o') :: news₁) → (∀ p ∈ news₁, p.1 ≠ I) → (∀ p ∈ news₁, p.1 ≠ I') →
      wpAny (model prog w) A (assign (.Tuple elts k pos) env (.ref T)) (fun _ s₂ => wpAny (model prog w) A (execs body env) (UnrPostW h₀ env.locals { s with heap := h, toks := tk } [(I, o), (I', o')] (fun m' n' => SubL [(l, listO vs.toArray nn)] n' ∧ J (i + 1) m' n') Q) E s₂) E { s with heap := h, toks := tk })
    (done : ∀ h tk m' news', Fr h₀ env.locals h m' → News h₀ env.locals h news' → J vs.length m' news' → wpAny (model prog w) A (execs orelse env) Q E { s with heap := h, toks := tk })
    (hE : PassesOwn (model prog w) A env E) :
    wpAny (model prog w) A (call (.type "enumerate") [.ref l]) (fun xv s₁ => wpAny (model prog w) A (pyIter xv) (fun it s₂ => TurnsJ prog w A h₀ env (.Tuple elts k pos) body orelse Q E it s₂) E s₁) E s := by
  have hax := N _ hm
  have hl : s.heap.IsList l vs.toArray := ⟨_, hax.1, rfl, nn, rfl⟩
  have hlt : l < s.heap.objs.size := Heap.lt_size hax.1
  refine call_enumerate_list hl fun h' hEn hI hsz hk => ?_
  refine wpAny_pyIter_enum hEn ?_
  have D : Draws prog w A.in1 s.heap.objs.size [s.heap.objs.size, l] vs.toArray.size (fun i v => vs.toArray[i]? = some v) (fun i h => h.IsListIter s.heap.objs.size l i ∧ h.IsList l vs.toArray) := Draws.list (A := A.in1) hh _ _ (Nat.ne_of_lt hlt) _
  have hef : s.heap.objs.size + 1 ∉ [s.heap.objs.size, l] := by
    intro q
    rcases List.mem_cons.mp q with q | q
    · exact absurd q (Nat.succ_ne_self _)
    · exact absurd hlt (by rw [← List.mem_singleton.mp q]; exact Nat.not_lt.mpr (Nat.le_succ _))
  refine loopJ (tk0 := s.toks) (ws := [(s.heap.objs.size + 1, "enumerate"), (s.heap.objs.size, "list_iterator")]) (keep := [(l, listO vs.toArray nn)]) (J := J) (m₀ := m₀) (news := news) (KTurns.ofWalksU (WalksT.enumerateD D (s.heap.objs.size + 1) (Nat.succ_ne_self _) hef (by simp)).toU)
    ?_ ?_ (fun b hb => hb) ?_ ?_ ⟨⟨.none, hEn⟩, hI, hl.at fun o e => hk l o e⟩ (F.keeps hk) (N.grown hk) (And.intro hm trivial) h0 ?_ ?_ hE
  · rintro i h ⟨⟨old, he⟩, ⟨oi, hoi, hic, _⟩, _⟩
    have he' : ∃ oe : Obj, h.get? (s.heap.objs.size + 1) = some oe ∧ oe.cls = .type "enumerate" := ⟨_, he, rfl⟩
    obtain ⟨oe, h1, h2⟩ := he'
    refine ⟨[(s.heap.objs.size + 1, oe), (s.heap.objs.size, oi)], ⟨⟨rfl, h2⟩, ⟨rfl, hic⟩, trivial⟩, fun p hp => ?_⟩
    rcases List.mem_cons.mp hp with rfl | hp
    · exact h1
    · rw [List.mem_singleton.mp hp]; exact hoi
  · intro b hb
    have hb' : b = s.heap.objs.size + 1 ∨ b = s.heap.objs.size := by simpa using hb
    rcases hb' with rfl | rfl
    · exact newAddr F (Nat.le_succ _)
    · exact newAddr F (Nat.le_refl _)
  · intro b hb
    have hb' : b = s.heap.objs.size + 1 ∨ b = s.heap.objs.size ∨ b = l := by simpa using hb
    rcases hb' with rfl | rfl | rfl
    · exact .inl (by simp)
    · exact .inl (by simp)
    · exact .inr (.inr ⟨_, .head _⟩)
  · intro p hp hI'
    have hb' : p.1 = s.heap.objs.size + 1 ∨ p.1 = s.heap.objs.size := by simpa using hI'
    have hlp := Heap.lt_size (N p hp).1
    rcases hb' with e | e
    · exact ktu_ne 1 hlp e
    · exact Nat.ne_of_lt hlp e
  · rintro i v h tk m₁ news₁ hi ⟨T, vals, rfl, ⟨t, x, hx, rfl⟩, hTT⟩ hJ hkp F₁ o ho o' ho'
    refine AllObj.nil fun N₁ off => turn i x t T h tk m₁ news₁ _ _ o o' (by simpa using hx) hJ (hkp.mem _ (.head _)) F₁ hTT ho ho' N₁ (fun p hp => off p hp (_, o) (.head _)) fun p hp => off p hp (_, o') (.tail _ (.head _))
  · intro h tk m' news' F' N' _ hJ
    exact done h tk m' news' F' N' (by simpa using hJ)
theorem enumLstJB {Jf : List (Addr × Obj) → Nat → (Str → Option Value) → List (Addr × Obj) → Prop} {elts : List PySem.Expr} {k : Nat} {l : Addr} {vs : List Value} {nn : Nat} (hh : A.handled = none) (hm : (l, listO vs.toArray nn) ∈ news) (F : Fr h₀ env.locals s.heap m₀) (N : News h₀ env.locals s.heap news) (h0 : Jf news 0 m₀ news)
    (turn : ∀ (i : Nat) x t T h tk m₁ news₁ I I' o o', vs[i]? = some x → Jf news i m₁ news₁ → (l, listO vs.toArray nn) ∈ news₁ → Fr h₀ env.locals h m₁ → IsTup h T #[.int i t, x] → o.cls = .type "enumerate" → o'.cls = .type "list_iterator" → News h₀ env.locals h ((I, o) :: (I', o') :: news₁) → (∀ p ∈ news₁, p.1 ≠ I) → (∀ p ∈ news₁, p.1 ≠ I') →
      wpAny (model prog w) A (assign (.Tuple elts k pos) env (.ref T)) (fun _ s₂ => wpAny (model prog w) A (execs body env) (UnrPostW h₀ env.locals { s with heap := h, toks := tk } [(I, o), (I', o')] (fun m' n' => SubL [(l, listO vs.toArray nn)] n' ∧ Jf news (i + 1) m' n') Q) E s₂) E { s with heap := h, toks := tk })
    (done : ∀ h tk m' news', Fr h₀ env.locals h m' → News h₀ env.locals h news' → Jf news vs.length m' news' → wpAny (model prog w) A (execs orelse env) Q E { s with heap := h, toks := tk })
    (hE : PassesOwn (model prog w) A env E) :
    wpAny (model prog w) A (call (.type "enumerate") [.ref l]) (fun xv s₁ => wpAny (model prog w) A (pyIter xv) (fun it s₂ => TurnsJ prog w A h₀ env (.Tuple elts k pos) body orelse Q E it s₂) E s₁) E s :=
  enumLstJ (J := Jf news) hh hm F N h0 turn done hE
theorem enumLstJL {L : Addr} (hL : env.locals = L) {Jf : List (Addr × Obj) → Nat → (Str → Option Value) → List (Addr × Obj) → Prop} {elts : List PySem.Expr} {k : Nat} {l : Addr} {vs : List Value} {nn : Nat} (hh : A.handled = none) (hm : (l, listO vs.toArray nn) ∈ news) (F : Fr h₀ L s.heap m₀) (N : News h₀ L s.heap news) (h0 : Jf news 0 m₀ news)
    (turn : ∀ (i : Nat) x t T h tk m₁ news₁ I I' o o', vs[i]? = some x → Jf news i m₁ news₁ → (l, listO vs.toArray nn) ∈ news₁ → Fr h₀ L h m₁ → IsTup h T #[.int i t, x] → o.cls = .type "enumerate" → o'.cls = .type "list_iterator" → News h₀ L h ((I, o) :: (I', o') :: news₁) → (∀ p ∈ news₁, p.1 ≠ I) → (∀ p ∈ news₁, p.1 ≠ I') →
      wpAny (model prog w) A (assign (.Tuple elts k pos) env (.ref T)) (fun _ s₂ => wpAny (model prog w) A (execs body env) (UnrPostW h₀ L { s with heap := h, toks := tk } [(I, o), (I', o')] (fun m' n' => SubL [(l, listO vs.toArray nn)] n' ∧ Jf news (i + 1) m' n') Q) E s₂) E { s with heap := h, toks := tk })
    (done : ∀ h tk m' news', Fr h₀ L h m' → News h₀ L h news' → Jf news vs.length m' news' → wpAny (model prog w) A (execs orelse env) Q E { s with heap := h, toks := tk })
    (hE : PassesOwn (model prog w) A env E) :
    wpAny (model prog w) A (call (.type "enumerate") [.ref l]) (fun xv s₁ => wpAny (model prog w) A (pyIter xv) (fun it s₂ => TurnsJ prog w A h₀ env (.Tuple elts k pos) body orelse Q E it s₂) E s₁) E s := by
  subst hL
  exact enumLstJB hh hm F N h0 turn done hE
/-- «for x in l», l a list of the ledger -/
theorem iterLstJ {l : Addr} {vs : List Value} {nn : Nat} (hh : A.handled = none) (hm : (l, listO vs.toArray nn) ∈ news) (F : Fr h₀ env.locals s.heap m₀) (N : News h₀ env.locals s.heap news) (h0 : J 0 m₀ news)
    (turn : ∀ i v h tk m₁ news₁ I o, vs[i]? = some v → J i m₁ news₁ → (l, listO vs.toArray nn) ∈ news₁ → Fr h₀ env.locals h m₁ → o.cls = .type "list_iterator" → News h₀ env.locals h ((I, o) :: news₁) → (∀ p ∈ news₁, p.1 ≠ I) →
      wpAny (model prog w) A (assign target env v) (fun _ s₂ => wpAny (model prog w) A (execs body env) (UnrPostW h₀ env.locals { s with heap := h, toks := tk } [(I, o)] (fun m' n' => SubL [(l, listO vs.toArray nn)] n' ∧ J (i + 1) m' n') Q) E s₂) E { s with heap := h, toks := tk })
    (done : ∀ h tk m' news', Fr h₀ env.locals h m' → News h₀ env.locals h news' → J vs.length m' news' → wpAny (model prog w) A (execs orelse env) Q E { s with heap := h, toks := tk })
    (hE : PassesOwn (model prog w) A env E) : wpAny (model prog w) A (pyIter (.ref l)) (fun it s₂ => TurnsJ prog w A h₀ env target body orelse Q E it s₂) E s := by
  have hax := N _ hm
  have hl : s.heap.IsList l vs.toArray := ⟨_, hax.1, rfl, nn, rfl⟩
  have hlt : l < s.heap.objs.size := Heap.lt_size hax.1
  have hne : l ≠ s.heap.objs.size := Nat.ne_of_lt hlt
  refine wpAny_pyIter_list hl ?_
  refine loopJ (tk0 := s.toks) (ws := [(s.heap.objs.size, "list_iterator")]) (keep := [(l, listO vs.toArray nn)]) (J := J) (m₀ := m₀) (news := news) (KTurns.ofWalks (Walks.list hh s.heap.objs.size l hne vs.toArray) fun i v s Q E st q => letGo_listiter st.1 q)
    (fun i h st => ?_) (fun b hb => ?_) (fun b hb => hb) (fun b hb => ?_) (fun p hp hI => ?_) ⟨⟨_, Heap.get?_push_size _ rfl, rfl, rfl⟩, hl.at fun o e => Heap.get?_push_of_some _ e⟩ (F.push _) (fun p hp => ⟨Heap.get?_push_of_some _ (N p hp).1, (N p hp).2⟩) (And.intro hm trivial) h0 ?_ ?_ hE
  · obtain ⟨it, hit, hic, _⟩ := st.1
    exact ⟨[(s.heap.objs.size, it)], ⟨⟨rfl, hic⟩, trivial⟩, fun p hp => by rw [List.mem_singleton.mp hp]; exact hit⟩
  · rw [List.mem_singleton.mp hb]
    exact newAddr F (Nat.le_refl _)
  · rcases List.mem_cons.mp hb with e | hb
    · exact .inl (by simp [e])
    · rw [List.mem_singleton.mp hb]
      exact .inr (.inr ⟨_, .head _⟩)
  · exact absurd (Heap.lt_size (N p hp).1) ((List.mem_singleton.mp hI) ▸ Nat.lt_irrefl _)
  · intro i v h tk m₁ news₁ hi hP hJ hkp F₁ o ho
    refine AllObj.nil fun N₁ off => turn i v h tk m₁ news₁ _ o (by simpa using hP) hJ (hkp.mem _ (.head _)) F₁ ho N₁ fun p hp => off p hp _ (List.mem_singleton.mpr rfl)
  · intro h tk m' news' F' N' _ hJ
    exact done h tk m' news' F' N' (by simpa using hJ)
theorem iterLstJB {Jf : List (Addr × Obj) → Nat → (Str → Option Value) → List (Addr × Obj) → Prop} {l : Addr} {vs : List Value} {nn : Nat} (hh : A.handled = none) (hm : (l, listO vs.toArray nn) ∈ news) (F : Fr h₀ env.locals s.heap m₀) (N : News h₀ env.locals s.heap news) (h0 : Jf news 0 m₀ news)
    (turn : ∀ i v h tk m₁ news₁ I o, vs[i]? = some v → Jf news i m₁ news₁ → (l, listO vs.toArray nn) ∈ news₁ → Fr h₀ env.locals h m₁ → o.cls = .type "list_iterator" → News h₀ env.locals h ((I, o) :: news₁) → (∀ p ∈ news₁, p.1 ≠ I) →
      wpAny (model prog w) A (assign target env v) (fun _ s₂ => wpAny (model prog w) A (execs body env) (UnrPostW h₀ env.locals { s with heap := h, toks := tk } [(I, o)] (fun m' n' => SubL [(l, listO vs.toArray nn)] n' ∧ Jf news (i + 1) m' n') Q) E s₂) E { s with heap := h, toks := tk })
    (done : ∀ h tk m' news', Fr h₀ env.locals h m' → News h₀ env.locals h news' → Jf news vs.length m' news' → wpAny (model prog w) A (execs orelse env) Q E { s with heap := h, toks := tk })
    (hE : PassesOwn (model prog w) A env E) : wpAny (model prog w) A (pyIter (.ref l)) (fun it s₂ => TurnsJ prog w A h₀ env target body orelse Q E it s₂) E s :=
  iterLstJ (J := Jf news) hh hm F N h0 turn done hE
theorem iterLstJL {L : Addr} (hL : env.locals = L) {Jf : List (Addr × Obj) → Nat → (Str → Option Value) → List (Addr × Obj) → Prop} {l : Addr} {vs : List Value} {nn : Nat} (hh : A.handled = none) (hm : (l, listO vs.toArray nn) ∈ news) (F : Fr h₀ L s.heap m₀) (N : News h₀ L s.heap news) (h0 : Jf news 0 m₀ news)
    (turn : ∀ i v h tk m₁ news₁ I o, vs[i]? = some v → Jf news i m₁ news₁ → (l, listO vs.toArray nn) ∈ news₁ → Fr h₀ L h m₁ → o.cls = .type "list_iterator" → News h₀ L h ((I, o) :: news₁) → (∀ p ∈ news₁, p.1 ≠ I) →
      wpAny (model prog w) A (assign target env v) (fun _ s₂ => wpAny (model prog w) A (execs body env) (UnrPostW h₀ L { s with heap := h, toks := tk } [(I, o)] (fun m' n' => SubL [(l, listO vs.toArray nn)] n' ∧ Jf news (i + 1) m' n') Q) E s₂) E { s with heap := h, toks := tk })
    (done : ∀ h tk m' news', Fr h₀ L h m' → News h₀ L h news' → Jf news vs.length m' news' → wpAny (model prog w) A (execs orelse env) Q E { s with heap := h, toks := tk })
    (hE : PassesOwn (model prog w) A env E) : wpAny (model prog w) A (pyIter (.ref l)) (fun it s₂ => TurnsJ prog w A h₀ env target body orelse Q E it s₂) E s := by
  subst hL
  exact iterLstJB hh hm F N h0 turn done hE
end
section
variable {prog : Program} {w : World} {A : Around} {E Q : Value → Shared → Prop} {s : Shared} {h₀ : Heap} {L : Addr} {m : Str → Option Value} {news : List (Addr × Obj)} {D E1 E2 : Addr} {w1 w2 : Array Value} {k1 k2 n : Nat} {xs ys : List Str}
theorem unitsIn (hu : A.units + 8 < cLine) : A.in1.units < cLine := by
  have : A.in1.units ≤ A.units + 2 := by (first | exact Nat.le_refl _ | (dsimp only [Around.in1]; omega))
  omega
/-- the lesser of two lists of texts -/
theorem minK (hh : A.handled = none) (hu : A.units + 8 < cLine) (F : Fr h₀ L s.heap m) (N : News h₀ L s.heap news) (hm : (D, listO #[.ref E1, .ref E2] n) ∈ news) (h1 : (E1, listO w1 k1) ∈ news) (h2 : (E2, listO w2 k2) ∈ news) (f1 : StrsAre w1.toList xs) (f2 : StrsAre w2.toList ys)
    (hq : ∀ S (W : List Value) j us h' tk, Fr h₀ L h' m → News h₀ L h' ((S, listO W.toArray j) :: news) → StrsAre W.toArray.toList us → ((us = xs ∧ lexS ys xs = false) ∨ (us = ys ∧ lexS ys xs = true)) → Q (.ref S) { s with heap := h', toks := tk }) : wpAny (model prog w) A (call (.builtin "min") [.ref D]) Q E s := by
  refine min_list2 (b := lexS ys xs) hh ⟨_, (N _ hm).1, rfl, n, rfl⟩ (fun h tk Q' E' k hQ' => ?_) fun h' tk k => ?_
  · exact rc_lt_lists ⟨_, k _ _ (N _ h2).1, rfl, k2, rfl⟩ ⟨_, k _ _ (N _ h1).1, rfl, k1, rfl⟩ f2 f1 (unitsIn hu) hQ'
  · have N' := newsKeep (tl := []) F N k fun _ hp => nomatch hp
    have F' := frKeep F k
    cases e : lexS ys xs with
    | true => exact hq E2 w2.toList k2 ys h' tk F' (by rw [Array.toArray_toList]; exact fun p hp => by rcases List.mem_cons.mp hp with rfl | hp; exact N' _ h2; exact N' _ hp) (by rw [Array.toArray_toList]; exact f2) (.inr ⟨rfl, e⟩)
    | false => exact hq E1 w1.toList k1 xs h' tk F' (by rw [Array.toArray_toList]; exact fun p hp => by rcases List.mem_cons.mp hp with rfl | hp; exact N' _ h1; exact N' _ hp) (by rw [Array.toArray_toList]; exact f1) (.inl ⟨rfl, e⟩)
theorem maxK (hh : A.handled = none) (hu : A.units + 8 < cLine) (F : Fr h₀ L s.heap m) (N : News h₀ L s.heap news) (hm : (D, listO #[.ref E1, .ref E2] n) ∈ news) (h1 : (E1, listO w1 k1) ∈ news) (h2 : (E2, listO w2 k2) ∈ news) (f1 : StrsAre w1.toList xs) (f2 : StrsAre w2.toList ys)
    (hq : ∀ S (W : List Value) j us h' tk, Fr h₀ L h' m → News h₀ L h' ((S, listO W.toArray j) :: news) → StrsAre W.toArray.toList us → ((us = xs ∧ lexS xs ys = false) ∨ (us = ys ∧ lexS xs ys = true)) → Q (.ref S) { s with heap := h', toks := tk }) : wpAny (model prog w) A (call (.builtin "max") [.ref D]) Q E s := by
  refine max_list2 (b := lexS xs ys) hh ⟨_, (N _ hm).1, rfl, n, rfl⟩ (fun h tk Q' E' k hQ' => ?_) fun h' tk k => ?_
  · exact rc_gt_lists ⟨_, k _ _ (N _ h2).1, rfl, k2, rfl⟩ ⟨_, k _ _ (N _ h1).1, rfl, k1, rfl⟩ f2 f1 (unitsIn hu) hQ'
  · have N' := newsKeep (tl := []) F N k fun _ hp => nomatch hp
    have F' := frKeep F k
    cases e : lexS xs ys with
    | true => exact hq E2 w2.toList k2 ys h' tk F' (by rw [Array.toArray_toList]; exact fun p hp => by rcases List.mem_cons.mp hp with rfl | hp; exact N' _ h2; exact N' _ hp) (by rw [Array.toArray_toList]; exact f2) (.inr ⟨rfl, e⟩)
    | false => exact hq E1 w1.toList k1 xs h' tk F' (by rw [Array.toArray_toList]; exact fun p hp => by rcases List.mem_cons.mp hp with rfl | hp; exact N' _ h1; exact N' _ hp) (by rw [Array.toArray_toList]; exact f1) (.inl ⟨rfl, e⟩)
end
theorem lexS_irrefl : ∀ xs : List Str, lexS xs xs = false
  | [] => rfl
  | a :: r => by rw [lexS, if_pos rfl]; exact lexS_irrefl r
theorem lexS_total : ∀ {xs ys : List Str}, lexS xs ys = false → lexS ys xs = false → xs = ys
  | [], [], _, _ => rfl
  | [], _ :: _, h, _ => by simp [lexS] at h
  | _ :: _, [], _, h => by simp [lexS] at h
  | a :: r, b :: q, h1, h2 => by
    by_cases e : a = b
    · subst e
      rw [lexS, if_pos rfl] at h1 h2
      rw [lexS_total h1 h2]
    · rw [lexS, if_neg e] at h1
      rw [lexS, if_neg (fun q => e q.symm)] at h2
      exfalso
      apply e
      have n1 : ¬ a.cps.toList < b.cps.toList := by simpa using h1
      have n2 : ¬ b.cps.toList < a.cps.toList := by simpa using h2
      have := List.le_antisymm (List.not_lt.mp n2) (List.not_lt.mp n1)
      cases a; cases b
      simp only at this
      congr 1
      exact Array.toList_inj.mp this
theorem lexS_asymm : ∀ {xs ys : List Str}, lexS xs ys = true → lexS ys xs = false
  | [], [], h => by simp [lexS] at h
  | [], _ :: _, _ => by simp [lexS]
  | _ :: _, [], h => by simp [lexS] at h
  | a :: r, b :: q, h => by
    by_cases e : a = b
    · subst e
      rw [lexS, if_pos rfl] at h ⊢
      exact lexS_asymm h
    · rw [lexS, if_neg e] at h
      rw [lexS, if_neg (fun q => e q.symm)]
      have n1 : a.cps.toList < b.cps.toList := by simpa using h
      exact decide_eq_false (List.not_lt.mpr (List.le_of_lt n1))
theorem comPre_comm : ∀ xs ys : List Str, comPre xs ys = comPre ys xs
  | [], [] => rfl
  | [], _ :: _ => rfl
  | _ :: _, [] => rfl
  | a :: r, b :: q => by
    by_cases e : a = b
    · subst e
      rw [comPre, comPre, if_pos rfl, if_pos rfl, comPre_comm r q]
    · rw [comPre, comPre, if_neg e, if_neg (fun q => e q.symm)]
/-- the two, least and greatest -/
theorem minmax {xs ys us vs : List Str} (h1 : (us = xs ∧ lexS ys xs = false) ∨ (us = ys ∧ lexS ys xs = true)) (h2 : (vs = xs ∧ lexS xs ys = false) ∨ (vs = ys ∧ lexS xs ys = true)) : lexS vs us = false ∧ comPre us vs = comPre xs ys := by
  rcases h1 with ⟨rfl, a⟩ | ⟨rfl, a⟩ <;> rcases h2 with ⟨rfl, b⟩ | ⟨rfl, b⟩
  · have := lexS_total a b
    subst this
    exact ⟨a, rfl⟩
  · exact ⟨a, rfl⟩
  · exact ⟨b, comPre_comm _ _⟩
  · rw [lexS_asymm a] at b; cases b
/-- an item of the lesser has one of the greater beside it, as long as they are the same -/
theorem lexS_in : ∀ {us vs : List Str} {i : Nat}, lexS vs us = false → us.take i = vs.take i → i < us.length → i < vs.length
  | [], _, _, _, _, h => by simp at h
  | a :: r, [], i, h, _, _ => by simp [lexS] at h
  | a :: r, b :: q, 0, _, _, _ => by simp
  | a :: r, b :: q, i + 1, h, e, hi => by
    rw [List.take_succ_cons, List.take_succ_cons] at e
    obtain ⟨rfl, e'⟩ := List.cons.inj e
    rw [lexS, if_pos rfl] at h
    have := lexS_in h e' (by simpa using hi)
    simpa using this
theorem comPre_all : ∀ {us vs : List Str}, us.take us.length = vs.take us.length → comPre us vs = us
  | [], [], _ => rfl
  | [], _ :: _, _ => rfl
  | a :: r, [], e => by simp at e
  | a :: r, b :: q, e => by
    rw [List.length_cons, List.take_succ_cons, List.take_succ_cons] at e
    obtain ⟨rfl, e'⟩ := List.cons.inj e
    rw [comPre, if_pos rfl, comPre_all e']
theorem comPre_till : ∀ {us vs : List Str} {i : Nat} {a b : Str}, us.take i = vs.take i → us[i]? = some a → vs[i]? = some b → a ≠ b → comPre us vs = us.take i
  | [], _, _, _, _, _, h, _, _ => by simp at h
  | _ :: _, [], _, _, _, _, _, h, _ => by simp at h
  | c :: r, d :: q, 0, a, b, _, h1, h2, hn => by
    have e1 : c = a := by simpa using h1
    have e2 : d = b := by simpa using h2
    subst e1 e2
    rw [comPre, if_neg hn]; rfl
  | c :: r, d :: q, i + 1, a, b, e, h1, h2, hn => by
    rw [List.take_succ_cons, List.take_succ_cons] at e
    obtain ⟨rfl, e'⟩ := List.cons.inj e
    rw [comPre, if_pos rfl, List.take_succ_cons, comPre_till e' (by simpa using h1) (by simpa using h2) hn]

section
variable {prog : Program} {w : World} {A : Around} {E : Value → Shared → Prop} {s : Shared} {h₀ : Heap} {L l : Addr} {m : Str → Option Value} {news : List (Addr × Obj)} {value slice : PySem.Expr} {W : Array Value} {n : Nat} {us : List Str} {Q : Value → Shared → Prop}
/-- an item of a list of the ledger -/
theorem item_lst {i : Nat} {u : Tok} {v : Value} (N : News h₀ L s.heap news) (hm : (l, listO W n) ∈ news) (hi : i < 2 ^ 62) (hx : W.toList[i]? = some v) (h : Q v s)
    (hs : subscripted slice false (.ref l) (.int (i : Int) u) = operate [.ref l, .int (i : Int) u] (getItem (.ref l) (.int (i : Int) u))) : wpAny (model prog w) A (subscriptTail value slice (.ref l) (.int (i : Int) u)) Q E s := by
  have hl : s.heap.IsList l W := ⟨_, (N _ hm).1, rfl, n, rfl⟩
  exact tail_any hl.typeIs slot_list_getitem.lookup (wpAny_getItem_list hl (by omega) (by omega) (by simpa using hx) h) hs
theorem strs_upto {y : Int} (hy : 0 ≤ y) (hS : StrsAre W.toList us) : StrsAre (slicePick W none (some y) none).toList (us.take y.toNat) := by
  rw [kms_pick_eq]
  show StrsAre (kms_pick W.toList none (some y)) _
  unfold kms_pick kms_lo kms_hi
  dsimp only
  rw [if_neg (by omega), List.drop_zero, Nat.sub_zero, kmk_take_min]
  exact hS.take' _
theorem slice_upto {vl vu : Value} {y : Int} (F : Fr h₀ L s.heap m) (N : News h₀ L s.heap news) (hm : (l, listO W n) ∈ news) (hS : StrsAre W.toList us) (hy : 0 ≤ y) (pl : IsPart vl none) (pu : IsPart vu (some y)) (hz : W.size ≤ sizeLine)
    (h : ∀ D V h', Fr h₀ L h' m → News h₀ L h' ((D, listOf V 0) :: news) → (∀ p ∈ news, p.1 < D) → StrsAre V.toList (us.take y.toNat) → Q (.ref D) { s with heap := h' })
    (hs : subscripted slice false (.ref l) (.ref s.heap.objs.size) = operate [.ref s.heap.objs.size, .ref l] (getItem (.ref l) (.ref s.heap.objs.size))) (ht : ∀ r, letTemporaryGo value (.ref l) r = pure ()) :
    wpAny (model prog w) A (subscriptTail value slice (.ref l) (.ref s.heap.objs.size)) Q E { s with heap := s.heap.push { cls := .type "slice", data := .fields #[vl, vu, .none] } } :=
  kmk_slice F N ⟨_, (N _ hm).1, rfl, n, rfl⟩ pl pu (fun D h' F' N' l1 => h D _ h' F' N' l1 (strs_upto hy hS)) hs ht hz
end
inductive JC (base : List (Addr × Obj)) (us vs : List Str) (S1 S2 : Addr) (i : Nat) (m : Str → Option Value) : List (Addr × Obj) → Prop
  | mk (hm1 : m (Str.ofString "s1") = some (.ref S1)) (hm2 : m (Str.ofString "s2") = some (.ref S2)) (hm3 : m (Str.ofString "common") = some (.ref S1)) (hm4 : m (Str.ofString "isabs") = some (.bool true)) (hpre : us.take i = vs.take i) : JC base us vs S1 S2 i m base
theorem take_same {us vs : List Str} {i : Nat} {y z : Str} (h : us.take i = vs.take i) (h1 : us[i]? = some y) (h2 : vs[i]? = some z) (e : y = z) : us.take (i + 1) = vs.take (i + 1) := by
  subst e
  rw [List.take_add_one, List.take_add_one, h, h1, h2]
theorem parts_few {xs ys us : List Str} {p : Prop} {q : Prop} (h : (us = xs ∧ p) ∨ (us = ys ∧ q)) (h1 : xs.length ≤ 1000) (h2 : ys.length ≤ 1000) : us.length ≤ 1000 := by
  rcases h with ⟨rfl, _⟩ | ⟨rfl, _⟩ <;> assumption
/-- the weight of a path's parts -/
def wt (xs : List Str) : Nat := (xs.map (·.length)).sum + xs.length
theorem wt_take : ∀ (xs : List Str) (i : Nat), wt (xs.take i) ≤ wt xs
  | [], i => by simp
  | a :: r, 0 => by simp [wt]
  | a :: r, i + 1 => by
    have := wt_take r i
    unfold wt at this ⊢
    rw [List.take_succ_cons, List.map_cons, List.sum_cons, List.length_cons, List.map_cons, List.sum_cons, List.length_cons]
    omega
theorem wt_of {xs ys us : List Str} {p : Prop} {q : Prop} (h : (us = xs ∧ p) ∨ (us = ys ∧ q)) (h1 : wt xs ≤ 20000) (h2 : wt ys ≤ 20000) : wt us ≤ 20000 := by
  rcases h with ⟨rfl, _⟩ | ⟨rfl, _⟩ <;> assumption
section
variable {h₀ : Heap} {L I I' : Addr} {o o' : Obj} {news' : List (Addr × Obj)} {h' : Heap} {tk : Nat} {m' : Str → Option Value} {s₁ : Shared} {rest : (Str → Option Value) → List (Addr × Obj) → Prop}
theorem unrEnd2 (F : Fr h₀ L h' m') (N : News h₀ L h' ((I, o) :: (I', o') :: news')) (off : ∀ p ∈ news', p.1 ≠ I) (off' : ∀ p ∈ news', p.1 ≠ I') (r : rest m' news') : UnrEndW h₀ L s₁ [(I, o), (I', o')] rest { s₁ with heap := h', toks := tk } :=
  ⟨h', tk, m', news', rfl, F, N, fun p hp q hq => by
    rcases List.mem_cons.mp hq with rfl | hq
    · exact off p hp
    · rw [List.mem_singleton.mp hq]; exact off' p hp, r⟩
theorem unrEnd1 (F : Fr h₀ L h' m') (N : News h₀ L h' ((I, o) :: news')) (off : ∀ p ∈ news', p.1 ≠ I) (r : rest m' news') : UnrEndW h₀ L s₁ [(I, o)] rest { s₁ with heap := h', toks := tk } :=
  ⟨h', tk, m', news', rfl, F, N, fun p hp q hq => by rw [List.mem_singleton.mp hq]; exact off p hp, r⟩
end

section
variable {prog : Program} {w : World} {A : Around} {E : Value → Shared → Prop} {s : Shared} {env : Env} {h₀ : Heap} {target : PySem.Expr} {body orelse : List Stmt} {Q : Flow → Shared → Prop} {m₀ : Str → Option Value} {news : List (Addr × Obj)}
/-- a loop over a tuple of the ledger -/
theorem iterTupL {L : Addr} (hL : env.locals = L) {Jf : List (Addr × Obj) → Nat → (Str → Option Value) → List (Addr × Obj) → Prop} {l : Addr} {vs : List Value} {nn : Nat} (hh : A.handled = none) (hm : (l, tupleO vs.toArray nn) ∈ news) (F : Fr h₀ L s.heap m₀) (N : News h₀ L s.heap news) (h0 : Jf news 0 m₀ news)
    (turn : ∀ i v h tk m₁ news₁ I o, vs[i]? = some v → Jf news i m₁ news₁ → (l, tupleO vs.toArray nn) ∈ news₁ → Fr h₀ L h m₁ → o.cls = .type "tuple_iterator" → News h₀ L h ((I, o) :: news₁) → (∀ p ∈ news₁, p.1 ≠ I) →
      wpAny (model prog w) A (assign target env v) (fun _ s₂ => wpAny (model prog w) A (execs body env) (UnrPostW h₀ L { s with heap := h, toks := tk } [(I, o)] (fun m' n' => SubL [(l, tupleO vs.toArray nn)] n' ∧ Jf news (i + 1) m' n') Q) E s₂) E { s with heap := h, toks := tk })
    (done : ∀ h tk m' news', Fr h₀ L h m' → News h₀ L h news' → Jf news vs.length m' news' → wpAny (model prog w) A (execs orelse env) Q E { s with heap := h, toks := tk })
    (hE : PassesOwn (model prog w) A env E) : wpAny (model prog w) A (pyIter (.ref l)) (fun it s₂ => TurnsJ prog w A h₀ env target body orelse Q E it s₂) E s := by
  subst hL
  have hax := N _ hm
  have hl : s.heap.IsTuple l vs.toArray := ⟨_, hax.1, rfl, nn, rfl⟩
  have hlt : l < s.heap.objs.size := Heap.lt_size hax.1
  have hne : l ≠ s.heap.objs.size := Nat.ne_of_lt hlt
  refine wpAny_pyIter_tuple hl ?_
  refine loopJ (tk0 := s.toks) (ws := [(s.heap.objs.size, "tuple_iterator")]) (keep := [(l, tupleO vs.toArray nn)]) (J := Jf news) (m₀ := m₀) (news := news) (KTurns.ofWalks (Walks.tuple hh s.heap.objs.size l hne vs.toArray) fun i v s Q E st q => letGo_tupleiter st.1 q)
    (fun i h st => ?_) (fun b hb => ?_) (fun b hb => hb) (fun b hb => ?_) (fun p hp hI => ?_) ⟨⟨_, Heap.get?_push_size _ rfl, rfl, rfl⟩, hl.at fun o e => Heap.get?_push_of_some _ e⟩ (F.push _) (fun p hp => ⟨Heap.get?_push_of_some _ (N p hp).1, (N p hp).2⟩) (And.intro hm trivial) h0 ?_ ?_ hE
  · obtain ⟨it, hit, hic, _⟩ := st.1
    exact ⟨[(s.heap.objs.size, it)], ⟨⟨rfl, hic⟩, trivial⟩, fun p hp => by rw [List.mem_singleton.mp hp]; exact hit⟩
  · rw [List.mem_singleton.mp hb]
    exact newAddr F (Nat.le_refl _)
  · rcases List.mem_cons.mp hb with e | hb
    · exact .inl (by simp [e])
    · rw [List.mem_singleton.mp hb]
      exact .inr (.inr ⟨_, .head _⟩)
  · exact absurd (Heap.lt_size (N p hp).1) ((List.mem_singleton.mp hI) ▸ Nat.lt_irrefl _)
  · intro i v h tk m₁ news₁ hi hP hJ hkp F₁ o ho
    refine AllObj.nil fun N₁ off => turn i v h tk m₁ news₁ _ o (by simpa using hP) hJ (hkp.mem _ (.head _)) F₁ ho N₁ fun p hp => off p hp _ (List.mem_singleton.mpr rfl)
  · intro h tk m' news' F' N' _ hJ
    exact done h tk m' news' F' N' (by simpa using hJ)
end
/-- a path and the first parts put to it -/
def pathTo (x : Str) (ys : List Str) : Nat → Str
  | 0 => x
  | i + 1 => pathTo x ys i ++ (Str.ofString "/" ++ ys.getD i Str.empty)
theorem pathTo_ok {x : Str} {ys : List Str} (hx : x.length ≤ 1000) (h2 : x.length ≠ 0) (h3 : Txt.endswith x (Str.ofString "/") = false) (hp : ∀ y ∈ ys, Part y) : ∀ i, i ≤ ys.length → (pathTo x ys i).length ≤ 1000 + 1001 * i ∧ (pathTo x ys i).length ≠ 0 ∧ Txt.endswith (pathTo x ys i) (Str.ofString "/") = false
  | 0, _ => ⟨hx, h2, h3⟩
  | i + 1, hi => by
    have pi : Part (ys.getD i Str.empty) := by
      rw [List.getD_eq_getElem?_getD, List.getElem?_eq_getElem (show i < ys.length from hi)]
      exact hp _ (List.getElem_mem _)
    have ih := (pathTo_ok hx h2 h3 hp i (Nat.le_of_succ_le hi)).1
    refine ⟨?_, pi.longer, pi.after⟩
    show Str.length (_ ++ (_ ++ _)) ≤ _
    have l9 : (Str.ofString "/").length = 1 := by decide +kernel
    have := pi.le
    rw [Str.length_append, Str.length_append]
    omega
inductive JPa (x : Str) (ys : List Str) (b : List (Addr × Obj)) (i : Nat) (m : Str → Option Value) : List (Addr × Obj) → Prop
  | mk (t ts : Tok) (hm1 : m (Str.ofString "path") = some (.str (pathTo x ys i) t)) (hm2 : m (Str.ofString "sep") = some (.str (Str.ofString "/") ts)) : JPa x ys b i m b
section
theorem join4N {w : World} (x y1 y2 y3 y4 : Str) (t u1 u2 u3 u4 : Tok) (hx : x.length ≤ 1000) (h2 : x.length ≠ 0) (h3 : Txt.endswith x (Str.ofString "/") = false) (p1 : Part y1) (l1 : y1.length ≤ 1000) (p2 : Part y2) (l2 : y2.length ≤ 1000) (p3 : Part y3) (l3 : y3.length ≤ 1000) (p4 : Part y4) (l4 : y4.length ≤ 1000) :
   SpecT 2 w 129 [.str x t, .str y1 u1, .str y2 u2, .str y3 u3, .str y4 u4] [] (x ++ (Str.ofString "/" ++ y1) ++ (Str.ofString "/" ++ y2) ++ (Str.ofString "/" ++ y3) ++ (Str.ofString "/" ++ y4)) := by
  k_with_none
  w_top off
  k_with "my open" => (((try unfold SpecS); (try unfold SpecI); (try unfold SpecB); (try unfold SpecT); unfold Spec; k_fill; intros; refine wpAny_call ?_))
  k_with "my sub" => (first | exact List.forall_mem_nil _ | (refine' List.forall_mem_cons.mpr ⟨?a_r4, ?b_r4⟩; (case a_r4 => k_mem); (case b_r4 => walk_at "my sub")))
  k_with "my keep" => (exact keepZ (by assumption) (by assumption) (by assumption) (by assumption) (by walk_at "my sub"))
  k_with "my use" => (((case b1 => k_asm); (case f1 => k_asm); (case x1 => k_asm); (case n1 => k_asm); (case t1 => k_asm); (case kk => first | exact rfl | assumption); (case hd => first | exact room1 (by with_reducible assumption) rfl | omega | ((try dsimp only [A9]); (try dsimp only [Around.deeper]); omega) | (trace_state; ktr_room)); (case hu => first | exact units1 (by with_reducible assumption) rfl | omega | ((try dsimp only [A9]); (try dsimp only [Around.deeper]); omega) | (trace_state; ktr_units)); (case ha => walk_at "my sub")))
  k_with "my len" => (first | with_reducible assumption | with_reducible exact Nat.le_of_eq (two_len _) | with_reducible exact Nat.le_of_eq (four_len _) | with_reducible exact Nat.le_of_eq (wdN_len (by assumption)) | with_reducible exact Nat.le_of_eq (moN_len (by assumption)) | with_reducible exact lit_len)
  k_with "my text" => (first | with_reducible exact slice_wd (by assumption) | with_reducible exact slice_mo (by assumption) | with_reducible exact zfill_four (by assumption) | with_reducible exact rfl)
  k_with "binaryOp Add str str" => ((k_here; (refine' add_strE ?e1_r15 ?e2_r15 ?a1_r15 ?a2_r15 ?a3_r15 ?_; (case e1_r15 => walk_at "my text"); (case e2_r15 => walk_at "my text"); (case a1_r15 => walk_at "my len"); (case a2_r15 => walk_at "my len"); (case a3_r15 => omega); intro t'm tk'm ln'm)))
  k_with "inplaceOp Add str str" => ((k_here; (refine' iadd_strE ?e1_r16 ?e2_r16 ?a1_r16 ?a2_r16 ?a3_r16 ?_; (case e1_r16 => walk_at "my text"); (case e2_r16 => walk_at "my text"); (case a1_r16 => walk_at "my len"); (case a2_r16 => walk_at "my len"); (case a3_r16 => omega); intro t'm tk'm ln'm)))
  k_with "my enteredR" => (((case kA => exact rfl); (case kF => exact rfl); (case kK => assumption); (case k1 => k_asm); (case k2 => k_asm); (case k3 => k_asm); (case k4 => k_asm); (case k5 => k_asm); (case k6 => k_is); (case k7 => k_is); (case k8 => ktr_room); (case kP => exact rfl); (case kG => exact fun _ => rfl); (case c5 => decide); (case kB => exact fun _ => locs rfl); (case kL => exact fun _ => rfl); (case c2 => exact rfl); (case c3 => exact rfl); (case c4 => exact rfl); k_whole; intro D'm g'm L'm h'm tk'm l1m HG'm F'm N'm B'm X'm T'm; (try k_lt l1m); (try dsimp only); (try k_lift B'm); (try k_unmd); (try k_fold); (try refine (let A9 := _; (?_ : PySem.wpAny _ A9 _ _ _ _))); (try refine (let e9 := _; (?_ : PySem.wpAny _ _ (PySem.execs _ e9) _ _ _)))))
  k_with "execs cons" => ((k_here; (try ((fail_if_success (fail_if_success k_fold)); (refine (let q8 := _; (?_ : PySem.wpAny _ _ _ q8 _ _))))); (with_reducible refine seqA ?_); (refine (let q8 := _; (?_ : PySem.wpAny _ _ _ q8 _ _))); (try ((with_reducible rename Fr _ _ _ (fun _ => _) => lF8); (refine (let lm8 := _; (fun (F' : Fr _ _ _ lm8) => ?_) lF8)); clear lF8))))
  k_with "execs cons" => ((k_here; k_gentoks))
  k_with "execs cons" => ((k_here; k_made; walk_at "execs cons"))
  k_with "eval Call" => ((k_here; (fail_if_success (fail_if_success k_fold)); (refine (let q8 := _; (?_ : PySem.wpAny _ _ _ q8 _ _)))))
  k_with "eval BinOp" => ((k_here; (fail_if_success (fail_if_success k_fold)); (refine (let q8 := _; (?_ : PySem.wpAny _ _ _ q8 _ _)))))
  k_with "eval Subscript" => ((k_here; (fail_if_success (fail_if_success k_fold)); (refine (let q8 := _; (?_ : PySem.wpAny _ _ _ q8 _ _)))))
  k_with "eval Tuple" => ((k_here; (fail_if_success (fail_if_success k_fold)); (refine (let q8 := _; (?_ : PySem.wpAny _ _ _ q8 _ _)))))
  k_with "eval List" => ((k_here; (fail_if_success (fail_if_success k_fold)); (refine (let q8 := _; (?_ : PySem.wpAny _ _ _ q8 _ _)))))
  k_with "eval Compare" => ((k_here; (fail_if_success (fail_if_success k_fold)); (refine (let q8 := _; (?_ : PySem.wpAny _ _ _ q8 _ _)))))
  k_with "call ref" => ((k_here; (fail_if_success (fail_if_success k_fold)); (refine (let q8 := _; (?_ : PySem.wpAny _ _ _ q8 _ _)))))
  k_with "callWith ref" => ((k_here; k_dflt (refine' callA1 ?k1_r37 ?k2_r37 ?_; (case k1_r37 => k_asm); (case k2_r37 => k_is); k_whole)))
  k_with "callWith ref" => ((k_here; k_dflt (refine' callA2 ?k1_r38 ?k2_r38 ?_; (case k1_r38 => k_asm); (case k2_r38 => k_is); k_whole)))
  k_with "isTrue BoolOp" => ((k_here; (fail_if_success (fail_if_success k_fold)); (refine (let q8 := _; (?_ : PySem.wpAny _ _ _ q8 _ _)))))
  k_with "isTrue Compare" => ((k_here; (fail_if_success (fail_if_success k_fold)); (refine (let q8 := _; (?_ : PySem.wpAny _ _ _ q8 _ _)))))
  k_with "isTrue UnaryOp" => ((k_here; (fail_if_success (fail_if_success k_fold)); (refine (let q8 := _; (?_ : PySem.wpAny _ _ _ q8 _ _)))))
  k_with "assign Name" => ((k_here; (fail_if_success (fail_if_success k_fold)); (refine (let q8 := _; (?_ : PySem.wpAny _ _ _ q8 _ _)))))
  k_with "assign Tuple" => ((k_here; (fail_if_success (fail_if_success k_fold)); (refine (let q8 := _; (?_ : PySem.wpAny _ _ _ q8 _ _)))))
  k_with "callWith" => ((k_here; (with_reducible show PySem.wpAny _ _ (PySem.callWith _ (PySem.Value.builtin _) _ _ []) _ _ _); k_dflt (first | refine callM1 ?_ | refine callM2 ?_ | refine callB1 ?_ | refine callB2 ?_); k_whole))
  k_with "call builtin:str.startswith" => ((k_here; refine' startsB ?ta_r62 ?_; (case ta_r62 => with_reducible exact Part.st (by assumption))))
  k_with "call builtin:str.endswith" => ((k_here; refine' endsB ?ta_r63 ?_; (case ta_r63 => with_reducible assumption)))
  k_with "truthy str" => ((k_here; (refine' truthyT ?ta_r64 ?tb_r64 ?_; (case ta_r64 => with_reducible assumption); (case tb_r64 => omega); intro k'm)))
  k_with "exec For Name Name cons nil" => ((k_here; (rename Fr _ _ _ _ => lF'm); (with_unfolding_all refine' forJF lF'm ?_; k_whole)))
  k_with "exec Try" => ((k_here; refine try_ok ?_))
  k_with "call ref" => (k_here; k_dflt (refine' Spec.use (fspath_spec _ _) ?b1 ?f1 ?x1 ?n1 ?t1 ?kk ?hd ?hu ?ha ?_; walk_at "my use"; k_whole; rintro _ _ h' tk' F' N' lt' ⟨rfl, ⟨t', rfl⟩, ln'⟩; (try dsimp only [List.nil_append] at N'); clear lt'))
  k_with "call ref" => (k_here; k_dflt (refine' Spec.use (get_sep_spec _ _) ?b1 ?f1 ?x1 ?n1 ?t1 ?kk ?hd ?hu ?ha ?_; walk_at "my use"; k_whole; rintro _ _ h' tk' F' N' lt' ⟨rfl, ⟨t', rfl⟩, ln'⟩; (try dsimp only [List.nil_append] at N'); clear lt'))
  have hS : StrsAre [.str y1 u1, .str y2 u2, .str y3 u3, .str y4 u4] [y1, y2, y3, y4] := .cons _ _ (.cons _ _ (.cons _ _ (.cons _ _ .nil)))
  have hP : ∀ y ∈ [y1, y2, y3, y4], Part y := List.forall_mem_cons.mpr ⟨p1, List.forall_mem_cons.mpr ⟨p2, List.forall_mem_cons.mpr ⟨p3, List.forall_mem_cons.mpr ⟨p4, List.forall_mem_nil _⟩⟩⟩⟩
  k_with "pyIter ref" => ((rename Fr _ _ _ _ => lF'); (rename News _ _ _ (_ :: _) => lN'); k_dflt (refine' iterTupL rfl (Jf := fun b => JPa x [y1, y2, y3, y4] b) (vs := [.str y1 u1, .str y2 u2, .str y3 u3, .str y4 u4]) (by rfl) ?jm lF' lN' ?j0 ?jturn ?jdone (by passes_own)); (case jm => k_mem); (case j0 => exact ⟨_, _, rfl, rfl⟩); clear lF' lN'; (case' jturn => (intro i v h1 tk1 m₁ news₁ I o hv hJ hin F' ho N' off; (refine (let G9 : Prop := _; (?_ : G9))); (obtain ⟨tp, ts, hm1, hm2⟩ := hJ); (replace F' := frPin2 F' hm1 hm2); (obtain ⟨y, u, rfl, hy⟩ := hS.item i v hv); (have hil := (List.getElem?_eq_some_iff.mp hy).1); (have py := hP y (List.mem_of_getElem? hy)); (have ly := py.le); (have hst : pathTo x [y1, y2, y3, y4] i ++ (Str.ofString "/" ++ y) = pathTo x [y1, y2, y3, y4] (i + 1) := by rw [pathTo, List.getD_eq_getElem?_getD, hy]; rfl); (obtain ⟨lp, np, ep⟩ := pathTo_ok hx h2 h3 hP i (Nat.le_of_lt hil)); (replace lp : (pathTo x [y1, y2, y3, y4] i).length ≤ 9000 := Nat.le_trans lp (by have hil2 : i < 4 := hil; omega)))); (case' jdone => (intro h1 tk1 m₁ news₁ F' N' hJ; (refine (let G9 : Prop := _; (?_ : G9))); (obtain ⟨tp, ts, hm1, hm2⟩ := hJ); (replace F' := frPin2 F' hm1 hm2))))
  clear p1 p2 p3 p4 l1 l2 l3 l4
  w_top off; walk_at "my open"; k_dflt (refine' enterR (vs := [.str y1 u1, .str y2 u2, .str y3 u3, .str y4 u4]) ?k1 ?k2 ?k3 ?k4 ?k5 ?kA ?kF ?kK ?k6 ?k7 ?k8 ?kP ?kG ?kB (fun D => [(Str.ofString "p", .ref D), (Str.ofString "a", .str x t)]) ?kL ?_ ?c2 ?c3 ?c4 ?c5; walk_at "my enteredR")
  repeat' (first | ((fail_if_success goal_has PySem.wpAny); (try dsimp only); first | (with_reducible refine seqN ?_) | ((with_reducible refine seqE ?_); (try dsimp only)) | ((with_reducible refine seqR ?_); (try dsimp only)) | ((with_reducible refine seqC ?_); (try dsimp only)) | ((with_reducible refine seqB ?_); (try dsimp only))) | ((fail_if_success (fail_if_success k_unfold)); (try dsimp only); k_unfold; (try dsimp only)) | ((fail_if_success goal_has PySem.wpAny); show PySem.wpAny _ _ _ _ _ _; (try dsimp only)) | walk1 | (dsimp only; walk1) | fail "no step")
  all_goals try first
    | exact ⟨_, _, congrArg (fun z => some (Value.str z _)) hst, rfl⟩
    | exact unrEnd1 (by assumption) (by assumption) off ⟨⟨hin, trivial⟩, _, _, rfl, congrArg (fun z => some (Value.str z _)) hst, rfl⟩
    | (refine' retTE (by assumption) ?_ rfl; walk_at "my keep")
end

/-- the parts of two texts, one list each -/
def J2 (base : List (Addr × Obj)) (p q : List Str) (i : Nat) (ys : List Value) (news : List (Addr × Obj)) : Prop :=
  (i = 0 ∧ ys = [] ∧ news = base) ∨ (i = 1 ∧ ∃ D1 v1 n1, ys = [.ref D1] ∧ news = (D1, listO v1 n1) :: base ∧ StrsAre v1.toList p) ∨
  (i = 2 ∧ ∃ D1 v1 n1 D2 v2 n2, ys = [.ref D1, .ref D2] ∧ news = (D2, listO v2 n2) :: (D1, listO v1 n1) :: base ∧ StrsAre v1.toList p ∧ StrsAre v2.toList q)
theorem J2.at0 {base news : List (Addr × Obj)} {p q : List Str} {ys : List Value} (h : J2 base p q 0 ys news) : ys = [] ∧ news = base := by
  rcases h with ⟨_, h⟩ | ⟨h, _⟩ | ⟨h, _⟩
  · exact h
  · cases h
  · cases h
theorem J2.at1 {base news : List (Addr × Obj)} {p q : List Str} {ys : List Value} (h : J2 base p q 1 ys news) : ∃ D1 v1 n1, ys = [.ref D1] ∧ news = (D1, listO v1 n1) :: base ∧ StrsAre v1.toList p := by
  rcases h with ⟨h, _⟩ | ⟨_, h⟩ | ⟨h, _⟩
  · cases h
  · exact h
  · cases h
theorem J2.at2 {base news : List (Addr × Obj)} {p q : List Str} {ys : List Value} (h : J2 base p q 2 ys news) : ∃ D1 v1 n1 D2 v2 n2, ys = [.ref D1, .ref D2] ∧ news = (D2, listO v2 n2) :: (D1, listO v1 n1) :: base ∧ StrsAre v1.toList p ∧ StrsAre v2.toList q := by
  rcases h with ⟨h, _⟩ | ⟨h, _⟩ | ⟨_, h⟩
  · cases h
  · cases h
  · exact h
theorem newsOf {h₀ h : Heap} {L : Addr} {news led : List (Addr × Obj)} (N : News h₀ L h news) (hs : ∀ p ∈ led, p ∈ news) : News h₀ L h led := fun p hp => N p (hs p hp)
theorem offCons {C D : Addr} {o : Obj} {news : List (Addr × Obj)} (h : C ≠ D) (off : ∀ p ∈ news, p.1 ≠ C) : ∀ p ∈ (D, o) :: news, p.1 ≠ C := fun p hp => by
  rcases List.mem_cons.mp hp with rfl | hp
  · exact Ne.symm h
  · exact off p hp
theorem four_in {a b c d : Addr × Obj} {news : List (Addr × Obj)} (h : ∀ p ∈ [a, b, c, d], p ∈ news) : a ∈ news ∧ b ∈ news ∧ c ∈ news ∧ d ∈ news := ⟨h _ (.head _), h _ (.tail _ (.head _)), h _ (.tail _ (.tail _ (.head _))), h _ (.tail _ (.tail _ (.tail _ (.head _))))⟩
theorem sub7 {a b c d e f g : Addr × Obj} {news : List (Addr × Obj)} (h1 : a ∈ news) (h2 : b ∈ news) (h3 : c ∈ news) (h4 : d ∈ news) (h5 : e ∈ news) (h6 : f ∈ news) (h7 : g ∈ news) : ∀ p ∈ [a, b, c, d, e, f, g], p ∈ news := by
  intro p hp
  simp only [List.mem_cons, List.not_mem_nil, or_false] at hp
  rcases hp with rfl | rfl | rfl | rfl | rfl | rfl | rfl <;> assumption
theorem two_items {a b v : Value} {i : Nat} (h : [a, b][i]? = some v) : (i = 0 ∧ v = a) ∨ (i = 1 ∧ v = b) := by
  match i, h with
  | 0, h => exact .inl ⟨rfl, by simpa using h.symm⟩
  | 1, h => exact .inr ⟨rfl, by simpa using h.symm⟩
theorem endC1 {h₀ : Heap} {L : Addr} {m : Str → Option Value} {s₁ : Shared} {news₁ : List (Addr × Obj)} {I C D a : Addr} {oI oC oD oa : Obj} {J : List (Addr × Obj) → Prop} {h' : Heap} {tk : Nat} (F : Fr h₀ L h' m) (N : News h₀ L h' ((a, oa) :: (I, oI) :: (C, oC) :: (D, oD) :: news₁)) (l : ∀ p ∈ (I, oI) :: (C, oC) :: (D, oD) :: news₁, p.1 < a)
    (off : ∀ p ∈ news₁, p.1 ≠ I ∧ p.1 ≠ C ∧ p.1 ≠ D) (hJ : J ((a, oa) :: news₁)) : CompEndJ h₀ L m s₁ [(I, oI)] C D oC oD J { s₁ with heap := h', toks := tk } := by
  refine endC F N (news' := (a, oa) :: news₁) (fun p hp => ?_) (fun p hp => ?_) hJ
  · rcases List.mem_append.mp hp with hp | hp
    · rw [List.mem_singleton.mp hp]; exact .tail _ (.head _)
    · rcases List.mem_cons.mp hp with rfl | hp
      · exact .tail _ (.tail _ (.head _))
      rcases List.mem_cons.mp hp with rfl | hp
      · exact .tail _ (.tail _ (.tail _ (.head _)))
      rcases List.mem_cons.mp hp with rfl | hp
      · exact .head _
      · exact .tail _ (.tail _ (.tail _ (.tail _ hp)))
  · rcases List.mem_cons.mp hp with rfl | hp
    · exact ⟨fun q hq => by rw [List.mem_singleton.mp hq]; exact Nat.ne_of_gt (l _ (.head _)), Nat.ne_of_gt (l _ (.tail _ (.head _))), Nat.ne_of_gt (l _ (.tail _ (.tail _ (.head _))))⟩
    · exact ⟨fun q hq => by rw [List.mem_singleton.mp hq]; exact (off p hp).1, (off p hp).2⟩
theorem strsOf : ∀ l : List (Str × Tok), StrsAre (strValues l) (l.map (·.1))
  | [] => StrsAre.nil
  | (x, t) :: l => StrsAre.cons x t (strsOf l)
theorem strsOf' {l : List (Str × Tok)} {as : List Str} (h : l.map (·.1) = as) : StrsAre ((strValues l).toArray).toList as := by rw [← h]; exact strsOf l
section
variable {prog : Program} {w : World} {A : Around} {E : Value → Shared → Prop} {s : Shared} {cenv : Env}
theorem tests_false {Q : Bool → Shared → Prop} (h : Q false s) : ∀ cs : List PySem.Expr, wpAny (model prog w) A (forIn cs false fun c r => if r = true then do let ok ← isTrue c cenv (eval c cenv); pure (ForInStep.yield ok) else pure (ForInStep.yield r)) Q E s
  | [] => by rw [List.forIn_nil]; exact wpAny_pure h
  | c :: cs => by
    rw [List.forIn_cons]
    refine wpAny_bind (wpAny_pure ?_)
    exact tests_false h cs
theorem testsCons {c : PySem.Expr} {cs : List PySem.Expr} {Q : Bool → Shared → Prop} (h : wpAny (model prog w) A (isTrue c cenv (eval c cenv)) (fun ok s' => if ok = true then wpAny (model prog w) A (testsOf cs cenv) Q E s' else Q false s') E s) : wpAny (model prog w) A (testsOf (c :: cs) cenv) Q E s := by
  unfold testsOf
  rw [List.forIn_cons]
  refine wpAny_bind ?_
  rw [if_pos rfl]
  refine wpAny_bind (wpAny_mono h (fun ok s' h' => wpAny_pure ?_) fun _ _ e => e)
  cases ok with
  | true => rw [if_pos rfl] at h'; exact h'
  | false => rw [if_neg (by decide)] at h'; exact tests_false h' cs
end
def J3 (as : List Str) (base : List (Addr × Obj)) (i : Nat) (ys : List Value) (news : List (Addr × Obj)) : Prop := news = base ∧ StrsAre ys (as.take (i - 1))
theorem part_cases {as : List Str} (hp : ∀ a ∈ as, Plain a) {vs : Array Value} (h : StrsAre vs.toList (Str.ofString "" :: as)) {i : Nat} {v : Value} (hv : vs.toList[i]? = some v) : (∃ t, i = 0 ∧ v = .str (Str.ofString "") t) ∨ ∃ j y t, i = j + 1 ∧ v = .str y t ∧ as[j]? = some y ∧ Plain y := by
  obtain ⟨y, t, rfl, hy⟩ := h.item i v hv
  match i, hy with
  | 0, hy => exact .inl ⟨t, rfl, by have : Str.ofString "" = y := by simpa using hy
                                    rw [this]⟩
  | j + 1, hy =>
    have hy' : as[j]? = some y := by simpa using hy
    exact .inr ⟨j, y, t, rfl, rfl, hy', hp y (List.mem_of_getElem? hy')⟩
theorem J3.step {as : List Str} {j : Nat} {ys : List Value} {y : Str} {t : Tok} (h : StrsAre ys (as.take (j + 1 - 1))) (hy : as[j]? = some y) : StrsAre (ys ++ [.str y t]) (as.take (j + 1 + 1 - 1)) := by
  show StrsAre _ (as.take (j + 1))
  rw [List.take_add_one, hy]
  exact strs_snoc h
theorem J3.fin {as : List Str} {vs : Array Value} {ys : List Value} (h : StrsAre ys (as.take (vs.toList.length - 1))) (hS : StrsAre vs.toList (Str.ofString "" :: as)) : StrsAre ys as := by
  have e : vs.toList.length = as.length + 1 := hS.length
  rw [e, Nat.add_sub_cancel, List.take_of_length_le (Nat.le_refl _)] at h
  exact h
theorem few_parts {as : List Str} {vs : Array Value} (hS : StrsAre vs.toList (Str.ofString "" :: as)) (h : as.length ≤ 1000) : vs.toList.length ≤ sizeLine := by
  have e : vs.toList.length = as.length + 1 := hS.length
  rw [e, sizeLine_eq]
  omega
theorem endC2 {h₀ : Heap} {L : Addr} {m : Str → Option Value} {s₁ : Shared} {news₁ : List (Addr × Obj)} {I C D a : Addr} {oI oC oD oa : Obj} {J : List (Addr × Obj) → Prop} {h' : Heap} {tk : Nat} (F : Fr h₀ L h' m) (N : News h₀ L h' ((a, oa) :: (I, oI) :: (C, oC) :: (D, oD) :: news₁)) (l : ∀ p ∈ (I, oI) :: (C, oC) :: (D, oD) :: news₁, p.1 ≠ a)
    (off : ∀ p ∈ news₁, p.1 ≠ I ∧ p.1 ≠ C ∧ p.1 ≠ D) (hJ : J ((a, oa) :: news₁)) : CompEndJ h₀ L m s₁ [(I, oI)] C D oC oD J { s₁ with heap := h', toks := tk } := by
  refine endC F N (news' := (a, oa) :: news₁) (fun p hp => ?_) (fun p hp => ?_) hJ
  · rcases List.mem_append.mp hp with hp | hp
    · rw [List.mem_singleton.mp hp]; exact .tail _ (.head _)
    · rcases List.mem_cons.mp hp with rfl | hp
      · exact .tail _ (.tail _ (.head _))
      rcases List.mem_cons.mp hp with rfl | hp
      · exact .tail _ (.tail _ (.tail _ (.head _)))
      rcases List.mem_cons.mp hp with rfl | hp
      · exact .head _
      · exact .tail _ (.tail _ (.tail _ (.tail _ hp)))
  · rcases List.mem_cons.mp hp with rfl | hp
    · exact ⟨fun q hq => by rw [List.mem_singleton.mp hq]; exact Ne.symm (l _ (.head _)), Ne.symm (l _ (.tail _ (.head _))), Ne.symm (l _ (.tail _ (.tail _ (.head _))))⟩
    · exact ⟨fun q hq => by rw [List.mem_singleton.mp hq]; exact (off p hp).1, (off p hp).2⟩
theorem endC0 {h₀ : Heap} {L : Addr} {m : Str → Option Value} {s₁ : Shared} {news₁ : List (Addr × Obj)} {I C D : Addr} {oI oC oD : Obj} {J : List (Addr × Obj) → Prop} {h' : Heap} {tk : Nat} (F : Fr h₀ L h' m) (N : News h₀ L h' ((I, oI) :: (C, oC) :: (D, oD) :: news₁)) (off : ∀ p ∈ news₁, p.1 ≠ I ∧ p.1 ≠ C ∧ p.1 ≠ D) (hJ : J news₁) : CompEndJ h₀ L m s₁ [(I, oI)] C D oC oD J { s₁ with heap := h', toks := tk } :=
  endC F N (fun p hp => hp) (fun p hp => ⟨fun q hq => by rw [List.mem_singleton.mp hq]; exact (off p hp).1, (off p hp).2⟩) hJ
theorem size_of {us : List Str} {W : Array Value} (h : StrsAre W.toList us) (hl : us.length ≤ 1000) : W.size ≤ sizeLine := by
  have e : W.toList.length = us.length := h.length
  rw [Array.length_toList] at e
  rw [e, sizeLine_eq]
  omega
theorem len_of {us : List Str} {W : Array Value} (h : StrsAre W.toList us) : W.toList.length = us.length := h.length
section
theorem common_spec {w : World} (x y : Str) (as bs : List Str) (tx ty : Tok) (n : Nat) (D : Addr) (hx : x.length ≤ 1000) (hy : y.length ≤ 1000) (s1 : Txt.startswith x (Str.ofString "/") = true) (s2 : Txt.startswith y (Str.ofString "/") = true) (pa : ∀ a ∈ as, Plain a) (pb : ∀ a ∈ bs, Plain a) (la : as.length ≤ 1000) (lb : bs.length ≤ 1000) (wa : wt as ≤ 20000) (wb : wt bs ≤ 20000) (h1 : Txt.split x (Str.ofString "/") = Str.ofString "" :: as) (h2 : Txt.split y (Str.ofString "/") = Str.ofString "" :: bs) :
   SpecT 10 w 155 [.ref D] [(D, listO #[.str x tx, .str y ty] n)] (Str.ofString "/" ++ Txt.join (Str.ofString "/") (comPre as bs)) := by
  k_with_none
  w_top off
  k_with "my open" => (((try unfold SpecS); (try unfold SpecI); (try unfold SpecB); (try unfold SpecT); unfold Spec; k_fill; intros; refine wpAny_call ?_))
  k_with "my sub" => (first | exact List.forall_mem_nil _ | (refine' List.forall_mem_cons.mpr ⟨?a_r4, ?b_r4⟩; (case a_r4 => k_mem); (case b_r4 => walk_at "my sub")))
  k_with "my keep" => (exact keepZ (by assumption) (by assumption) (by assumption) (by assumption) (by walk_at "my sub"))
  k_with "my len" => (first | with_reducible assumption | with_reducible exact Nat.le_of_eq (two_len _) | with_reducible exact Nat.le_of_eq (four_len _) | with_reducible exact Nat.le_of_eq (wdN_len (by assumption)) | with_reducible exact Nat.le_of_eq (moN_len (by assumption)) | with_reducible exact lit_len)
  k_with "my text" => (first | with_reducible exact slice_wd (by assumption) | with_reducible exact slice_mo (by assumption) | with_reducible exact zfill_four (by assumption) | with_reducible exact rfl)
  k_with "binaryOp Add str str" => ((k_here; (refine' add_strE ?e1_r15 ?e2_r15 ?a1_r15 ?a2_r15 ?a3_r15 ?_; (case e1_r15 => walk_at "my text"); (case e2_r15 => walk_at "my text"); (case a1_r15 => walk_at "my len"); (case a2_r15 => walk_at "my len"); (case a3_r15 => omega); intro t'm tk'm ln'm)))
  k_with "inplaceOp Add str str" => ((k_here; (refine' iadd_strE ?e1_r16 ?e2_r16 ?a1_r16 ?a2_r16 ?a3_r16 ?_; (case e1_r16 => walk_at "my text"); (case e2_r16 => walk_at "my text"); (case a1_r16 => walk_at "my len"); (case a2_r16 => walk_at "my len"); (case a3_r16 => omega); intro t'm tk'm ln'm)))
  k_with "my size" => (first | (rw [sizeLine_eq]; first | omega | (simp only [Str.length_append] at *; omega)) | size_fits)
  k_with "my plain" => (first | with_reducible exact Plain.ne (by assumption) | with_reducible exact Plain.dot (by assumption) | with_reducible exact Plain.dots (by assumption) | with_reducible assumption | decide +kernel)
  k_with "my le" => (first | with_reducible assumption | with_reducible exact Nat.le_trans (Plain.le (by assumption)) (by decide) | decide +kernel | omega)
  k_with "my enteredD" => (((case kA => exact rfl); (case kF => exact rfl); (case kK => assumption); (case k1 => k_asm); (case k2 => k_asm); (case k3 => k_asm); (case k4 => k_asm); (case k5 => k_asm); (case k6 => k_is); (case k7 => k_is); (case k8 => ktr_room); (case k9 => exact BindsTo.of_eq rfl); (case kB => exact rfl); (case kD => decide +kernel); (case kL => intro _; exact rfl); (case kC => intro _; exact rfl); (case c2 => exact rfl); (case c3 => exact rfl); (case c4 => exact rfl); k_whole; intro g'm L'm h'm tk'm cells'm HG'm F'm N'm Y'm B'm X'm T'm l1m; (try k_lt l1m); k_cells Y'm; (try dsimp only [List.cons_append, List.nil_append] at N'm); (try dsimp only); (try k_lift B'm); (try k_unmd); (try k_fold); (try refine (let A9 := _; (?_ : PySem.wpAny _ A9 _ _ _ _))); (try refine (let e9 := _; (?_ : PySem.wpAny _ _ (PySem.execs _ e9) _ _ _)))))
  k_with "execs cons" => ((k_here; (try ((fail_if_success (fail_if_success k_fold)); (refine (let q8 := _; (?_ : PySem.wpAny _ _ _ q8 _ _))))); (with_reducible refine seqA ?_); (refine (let q8 := _; (?_ : PySem.wpAny _ _ _ q8 _ _))); (try ((with_reducible rename Fr _ _ _ (fun _ => _) => lF8); (refine (let lm8 := _; (fun (F' : Fr _ _ _ lm8) => ?_) lF8)); clear lF8))))
  k_with "execs cons" => ((k_here; k_gentoks))
  k_with "execs cons" => ((k_here; k_made; walk_at "execs cons"))
  k_with "eval Call" => ((k_here; (fail_if_success (fail_if_success k_fold)); (refine (let q8 := _; (?_ : PySem.wpAny _ _ _ q8 _ _)))))
  k_with "eval BinOp" => ((k_here; (fail_if_success (fail_if_success k_fold)); (refine (let q8 := _; (?_ : PySem.wpAny _ _ _ q8 _ _)))))
  k_with "eval Subscript" => ((k_here; (fail_if_success (fail_if_success k_fold)); (refine (let q8 := _; (?_ : PySem.wpAny _ _ _ q8 _ _)))))
  k_with "eval Tuple" => ((k_here; (fail_if_success (fail_if_success k_fold)); (refine (let q8 := _; (?_ : PySem.wpAny _ _ _ q8 _ _)))))
  k_with "eval List" => ((k_here; (fail_if_success (fail_if_success k_fold)); (refine (let q8 := _; (?_ : PySem.wpAny _ _ _ q8 _ _)))))
  k_with "eval Compare" => ((k_here; (fail_if_success (fail_if_success k_fold)); (refine (let q8 := _; (?_ : PySem.wpAny _ _ _ q8 _ _)))))
  k_with "call ref" => ((k_here; (fail_if_success (fail_if_success k_fold)); (refine (let q8 := _; (?_ : PySem.wpAny _ _ _ q8 _ _)))))
  k_with "callWith ref" => ((k_here; k_dflt (refine' callA1 ?k1_r37 ?k2_r37 ?_; (case k1_r37 => k_asm); (case k2_r37 => k_is); k_whole)))
  k_with "callWith ref" => ((k_here; k_dflt (refine' callA2 ?k1_r38 ?k2_r38 ?_; (case k1_r38 => k_asm); (case k2_r38 => k_is); k_whole)))
  k_with "isTrue BoolOp" => ((k_here; (fail_if_success (fail_if_success k_fold)); (refine (let q8 := _; (?_ : PySem.wpAny _ _ _ q8 _ _)))))
  k_with "isTrue Compare" => ((k_here; (fail_if_success (fail_if_success k_fold)); (refine (let q8 := _; (?_ : PySem.wpAny _ _ _ q8 _ _)))))
  k_with "isTrue UnaryOp" => ((k_here; (fail_if_success (fail_if_success k_fold)); (refine (let q8 := _; (?_ : PySem.wpAny _ _ _ q8 _ _)))))
  k_with "assign Name" => ((k_here; (fail_if_success (fail_if_success k_fold)); (refine (let q8 := _; (?_ : PySem.wpAny _ _ _ q8 _ _)))))
  k_with "assign Tuple" => ((k_here; (fail_if_success (fail_if_success k_fold)); (refine (let q8 := _; (?_ : PySem.wpAny _ _ _ q8 _ _)))))
  k_with "callWith" => ((k_here; (with_reducible show PySem.wpAny _ _ (PySem.callWith _ (PySem.Value.builtin _) _ _ []) _ _ _); k_dflt (first | refine callM1 ?_ | refine callM2 ?_ | refine callB1 ?_ | refine callB2 ?_); k_whole))
  k_with "exec Try" => ((k_here; refine try_ok ?_))
  k_with "call type:map" => ((k_here; (rename Fr _ _ _ _ => lF'm); (rename News _ _ _ _ => lN'm); k_dflt (refine' mapK lF'm lN'm (by k_asm) (by k_mem) ?_); clear lF'm lN'm; intro I'm T'm M'm h'm F'm N'm nI'm))
  k_with "call type:tuple" => ((k_here; (rename Fr _ _ _ _ => lF'm); (rename News _ _ _ _ => lN'm); k_dflt (refine' tupK (by k_asm) lF'm (by k_asm) (by k_asm) rfl (by first | omega | ((try dsimp only [A9]); (try dsimp only [Around.deeper]); omega)) (by first | omega | ((try dsimp only [A9]); (try dsimp only [Around.deeper]); omega)) lN'm (by assumption) (by k_mem) ?_); clear lF'm lN'm; intro D2'm t1'm t2'm h'm tk'm F'm N'm l1m; (try k_lt l1m)))
  k_with "exec Assign cons ListComp" => ((k_here; with_unfolding_all (refine' assignComp ?c1_r70 ?c2_r70 ?c3_r70 ?c4_r70 ?_ ?c6_r70; (case c1_r70 => exact rfl); (case c2_r70 => exact rfl); (case c3_r70 => exact rfl); (case c4_r70 => decide); (case c6_r70 => intro _; rfl); k_whole)))
  k_with "call builtin:str.split" => ((k_here; (refine' splitE ?hs_r71 ?hF_r71 ?hN_r71 ?hy_r71 ?hz_r71 ?_; (case hs_r71 => assumption); (case hF_r71 => k_asm); (case hN_r71 => k_asm); (case hy_r71 => decide); (case hz_r71 => walk_at "my size")); intro D'm l'm h'm k'm e'm F'm N'm l1m))
  k_with "eval Name" => ((k_here; (with_reducible show wpAny _ _ (eval (PySem.Expr.Name _ _) (compEnvC _ _ _ _)) _ _ _); with_unfolding_all (refine' ldCell ?ln_r72 ?lc_r72 ?lm_r72 ?ld_r72 ?_ ?lk_r72 ?lx_r72 ?lb_r72; (case ln_r72 => k_asm); (case lc_r72 => exact rfl); (case lm_r72 => k_mem); (case ld_r72 => assumption); (case lk_r72 => exact rfl); (case lx_r72 => exact rfl); (case lb_r72 => decide))))
  k_with "exec Assign cons SetComp" => ((k_here; with_unfolding_all (refine' Assign_Tuple ?_ ?cs1_r73 ?cs2_r73; (case cs1_r73 => exact rfl); (case cs2_r73 => exact rfl)); with_unfolding_all (refine' evalCompS ?c1_r73 ?c2_r73 ?c3_r73 ?_ ?c6_r73; (case c1_r73 => exact rfl); (case c2_r73 => exact rfl); (case c3_r73 => decide); (case c6_r73 => intro _; rfl); k_whole)))
  k_with "call builtin:str.startswith" => ((k_here; refine' startsB ?ta_r74 ?_; (case ta_r74 => with_reducible assumption)))
  k_with "eval ListComp" => ((k_here; with_unfolding_all (refine' evalComp ?c1_r75 ?c2_r75 ?c3_r75 ?_ ?c6_r75; (case c1_r75 => exact rfl); (case c2_r75 => exact rfl); (case c3_r75 => decide); (case c6_r75 => intro _; rfl); k_whole)))
  k_with "truthy str" => ((k_here; first | (refine' truthyT ?ta_r76 ?tb_r76 ?_; (case ta_r76 => walk_at "my plain"); (case tb_r76 => walk_at "my le"); intro k'm) | (refine' truthyF ?ta_r76 ?_; (case ta_r76 => decide +kernel); intro k'm)))
  k_with "compareOp NotEq str str" => ((k_here; refine' neB (fun hnem => ?_) (fun heqm => ?_)))
  k_with "compareOp NotEq str str" => ((k_here; refine' neT ?tc_r78 ?_; (case tc_r78 => with_reducible exact Plain.dot (by assumption))))
  k_with "subscriptTail" => ((k_here; (with_reducible show wpAny _ _ (subscriptTail _ _ (Value.ref _) (Value.int _ _)) _ _ _); k_dflt (refine' item_lst ?iN_r79 ?im_r79 ?ii_r79 ?ix_r79 ?_ ?is_r79; (case iN_r79 => k_asm); (case im_r79 => k_mem); (case ii_r79 => assumption); (case ix_r79 => assumption); (case is_r79 => with_unfolding_all rfl); k_whole)))
  k_with "subscriptTail Name Name ref int" => ((k_here; (with_reducible show wpAny _ _ (subscriptTail _ _ (Value.ref _) (Value.int _ _)) _ _ _); k_dflt (refine' item_lst ?iN_r80 ?im_r80 ?ii_r80 ?ix_r80 ?_ ?is_r80; (case iN_r80 => k_asm); (case im_r80 => k_mem); (case ii_r80 => assumption); (case ix_r80 => assumption); (case is_r80 => with_unfolding_all rfl); k_whole)))
  k_with "subscriptTail Name BinOp ref int" => ((k_here; (with_reducible show wpAny _ _ (subscriptTail _ _ (Value.ref _) (Value.int _ _)) _ _ _); k_dflt (refine' item_lst ?iN_r81 ?im_r81 ?ii_r81 ?ix_r81 ?_ ?is_r81; (case iN_r81 => k_asm); (case im_r81 => k_mem); (case ii_r81 => assumption); (case ix_r81 => assumption); (case is_r81 => with_unfolding_all rfl); k_whole)))
  k_with "subscriptTail Name Constant ref int" => ((k_here; (with_reducible show wpAny _ _ (subscriptTail _ _ (Value.ref _) (Value.int _ _)) _ _ _); k_dflt (refine' item_lst ?iN_r82 ?im_r82 ?ii_r82 ?ix_r82 ?_ ?is_r82; (case iN_r82 => k_asm); (case im_r82 => k_mem); (case ii_r82 => assumption); (case ix_r82 => assumption); (case is_r82 => with_unfolding_all rfl); k_whole)))
  k_with "subscriptTail Name Slice ref ref" => ((k_here; (with_reducible show wpAny _ _ (subscriptTail _ (PySem.Expr.Slice _ _ none _) (Value.ref _) (Value.ref _)) _ _ _); k_dflt (refine' slice_upto ?F_r83 ?N_r83 ?l_r83 ?hS_r83 ?hy_r83 ?p_r83 ?q_r83 ?z_r83 ?_ ?s_r83 ?t_r83; (case F_r83 => k_asm); (case N_r83 => k_asm); (case l_r83 => k_mem); (case hS_r83 => with_reducible assumption); (case p_r83 => kmk_part); (case q_r83 => kmk_part); (case hy_r83 => exact Int.natCast_nonneg _); (case s_r83 => with_unfolding_all rfl); (case t_r83 => kmk_pure); (case z_r83 => exact size_of (by with_reducible assumption) (by assumption))); intro D'm V'm h'm F'm N'm l1m hV'm; (try k_lt l1m)))
  k_with "call builtin:str.join" => ((k_here; (with_reducible show wpAny _ _ (call (Value.builtin _) [Value.str _ _, Value.ref _]) _ _ _); k_dflt (refine' joinE ?ja_r84 ?jb_r84 ?jc_r84 ?jd_r84 ?_; (case ja_r84 => is_list); (case jb_r84 => with_reducible assumption); (case jc_r84 => decide +kernel); (case jd_r84 => first | assumption | exact Nat.le_trans (wt_take _ _) (by assumption))); intro t'm k'm ln'm))
  k_with "exec For Tuple Call cons nil" => ((k_here; (rename Fr _ _ _ _ => lF'm); (with_unfolding_all refine' forJF lF'm ?_; k_whole)))
  k_with "pyIter ref" => ((with_reducible show wpAny _ _ _ (CompAt _ _ _ _ _ _ (PySem.Expr.Call _ _ _ _) _ _ _ _ _ _) _ _); (rename Fr _ _ _ _ => lF'); (rename News _ _ _ (_ :: _) => lN'); k_dflt (refine' compTupB (Jf := fun b => J2 b (Str.ofString "" :: as) (Str.ofString "" :: bs)) (vs := [_, _]) (by rfl) ?hm ?hn lF' lN' ?h0 ?hcell ?hkind ?hx ?hsk ?turn ?done); (case hm => k_mem); (case hn => exact Nat.le_of_ble_eq_true rfl); (case h0 => exact .inl ⟨rfl, rfl, rfl⟩); (case hcell => decide); (case hkind => exact rfl); (case hx => intro _; exact rfl); (case hsk => intro _; exact rfl); clear lF' lN'; (case' turn => (intro i v ys I C D oI oC m₂ h tk news₁ E' hv hJ hax hmx hoC hoI F' N' nCD nIC nID off; (refine (let G9 : Prop := _; (?_ : G9))); (rcases two_items hv with ⟨rfl, rfl⟩ | ⟨rfl, rfl⟩); (case' inl => (obtain ⟨rfl, rfl⟩ := hJ.at0)); (case' inr => (obtain ⟨D1, v1, n1, rfl, rfl, g1⟩ := hJ.at1)); all_goals ((try clear hJ); refine' tests0 ?_))); (case' done => (intro D C h tk m' ys news' F' N' off hn hC₀ hCL hCD offC hJ; (refine (let G9 : Prop := _; (?_ : G9))); (obtain ⟨D1, v1, n1, D2, v2, n2, rfl, rfl, g1, g2⟩ := hJ.at2); (refine' compDoneA F' N' hn hC₀ hCL (offCons hCD offC) ?hl3 ?hy3 ?hp3 ?hq3); (case hl3 => exact rfl); (case hy3 => exact rfl); (case hp3 => exact rfl); clear F' N' off hn offC hJ; (intro h' tk' F' N'))))
  k_with "pyIter ref" => ((with_reducible show wpAny _ _ _ (CompAtS _ _ _ _ _ _ _ _ _ _ _ _ _) _ _); (rename Fr _ _ _ _ => lF'); (rename News _ _ _ (_ :: _) => lN'); k_dflt (refine' compTupT (vs := [_, _]) (by rfl) ?hu_2 ?hm_2 ?hn_2 (List.cons_ne_nil _ _) lF' lN' ?hcell_2 ?hkind_2 ?hx_2 ?hsk_2 ?turn_2 ?done_2); (case hu_2 => first | omega | ((try dsimp only [A9]); (try dsimp only [Around.deeper]); omega)); (case hm_2 => k_mem); (case hn_2 => exact Nat.le_of_ble_eq_true rfl); (case hcell_2 => decide); (case hkind_2 => exact rfl); (case hx_2 => intro _; exact rfl); (case hsk_2 => intro _; exact rfl); clear lF' lN'; (case' turn_2 => (intro i v I C D oI oC oD m₂ h tk E' hv hmx hoC hoI F' N' nCD nIC nID off; (refine (let G9 : Prop := _; (?_ : G9))); (rcases two_items hv with ⟨rfl, rfl⟩ | ⟨rfl, rfl⟩))); (case' done_2 => (intro D C h tk m' F' N' off hn hC₀ hCL hCD offC; (refine' compDoneE F' N' hn hC₀ hCL (offCons hCD offC) ?hq3_2); clear F' N' off hn offC; (intro h' F' N'); (refine' assignT (by rfl) (N' _ (.head _)).1 ?_); (intro h'' k''); (replace N' := newsKeep (tl := []) F' N' k'' (fun _ hp => nomatch hp)); (replace F' := frKeep F' k''); (simp only [List.nil_append] at N'); clear k''; refine' wpAny_assign_Name ?_)))
  k_with "pyIter ref" => ((with_reducible show wpAny _ _ _ (CompAt _ _ _ _ _ _ (PySem.Expr.ListComp _ _ _ _) _ _ _ _ _ _) _ _); (rename Fr _ _ _ _ => lF'); (rename News _ _ _ (_ :: _) => lN'); k_dflt (refine' compLstB (Jf := fun b => J2 b as bs) (vs := [_, _]) (by rfl) ?hm_3 ?hn_3 lF' lN' ?h0_3 ?hcell_3 ?hkind_3 ?hx_3 ?hsk_3 ?turn_3 ?done_3); (case hm_3 => k_mem); (case hn_3 => exact Nat.le_of_ble_eq_true rfl); (case h0_3 => exact .inl ⟨rfl, rfl, rfl⟩); (case hcell_3 => decide); (case hkind_3 => exact rfl); (case hx_3 => intro _; exact rfl); (case hsk_3 => intro _; exact rfl); clear lF' lN'; (case' turn_3 => (intro i v ys I C D oI oC m₂ h tk news₁ E' hv hJ hax hmx hoC hoI F' N' nCD nIC nID off; (refine (let G9 : Prop := _; (?_ : G9))); (rcases two_items hv with ⟨rfl, rfl⟩ | ⟨rfl, rfl⟩); (case' inl => (obtain ⟨rfl, rfl⟩ := hJ.at0)); (case' inr => (obtain ⟨E1, w1, k1, rfl, rfl, f1⟩ := hJ.at1)); all_goals ((try clear hJ); refine' tests0 ?_))); (case' done_3 => (intro D C h tk m' ys news' F' N' off hn hC₀ hCL hCD offC hJ; (refine (let G9 : Prop := _; (?_ : G9))); (obtain ⟨E1, w1, k1, E2, w2, k2, rfl, rfl, f1, f2⟩ := hJ.at2); (refine' compDoneA F' N' hn hC₀ hCL (offCons hCD offC) ?hl3_3 ?hy3_3 ?hp3_3 ?hq3_3); (case hl3_3 => exact rfl); (case hy3_3 => exact rfl); (case hp3_3 => exact rfl); clear F' N' off hn offC hJ; (intro h' tk' F' N'))))
  k_with "pyIter ref" => ((with_reducible show wpAny _ _ _ (CompAt _ _ _ _ _ _ (PySem.Expr.Name _ _) _ _ _ _ _ _) _ _); (rename Fr _ _ _ _ => lF'); (rename News _ _ _ (_ :: _) => lN'); k_dflt (refine' compLstB (Jf := J3 as) (vs := v1.toList) (nn := n1) (by rfl) ?hm_4 ?hn_4 lF' lN' ?h0_4 ?hcell_4 ?hkind_4 ?hx_4 ?hsk_4 ?turn_4 ?done_4); (case hm_4 => rw [Array.toArray_toList]; k_mem); (case hn_4 => exact few_parts g1 la); (case h0_4 => exact ⟨rfl, StrsAre.nil⟩); (case hcell_4 => decide); (case hkind_4 => exact rfl); (case hx_4 => intro _; exact rfl); (case hsk_4 => intro _; exact rfl); clear lF' lN'; (case' turn_4 => (intro i v ys I C D oI oC m₂ h tk news₁ E' hv hJ hax hmx hoC hoI F' N' nCD nIC nID off; (refine (let G9 : Prop := _; (?_ : G9))); (obtain ⟨rfl, hys⟩ := hJ); (rcases part_cases pa g1 hv with ⟨t, rfl, rfl⟩ | ⟨j, yy, t, rfl, rfl, hyy, pyy⟩); all_goals (refine' testsCons ?_))); (case' done_4 => (intro D C h tk m' ys news' F' N' offD hn hC₀ hCL hCD offC hJ; (refine (let G9 : Prop := _; (?_ : G9))); (obtain ⟨rfl, hys⟩ := hJ); (replace hys := J3.fin hys g1); (refine' compDoneE F' N' hn hC₀ hCL (offCons hCD offC) ?hq3_4); clear F' N' hn offC; (intro h' F' N'))))
  k_with "pyIter ref" => ((with_reducible show wpAny _ _ _ (CompAt _ _ _ _ _ _ (PySem.Expr.Name _ _) _ _ _ _ _ _) _ _); (rename Fr _ _ _ _ => lF'); (rename News _ _ _ (_ :: _) => lN'); k_dflt (refine' compLstB (Jf := J3 bs) (vs := v2.toList) (nn := n2) (by rfl) ?hm_5 ?hn_5 lF' lN' ?h0_5 ?hcell_5 ?hkind_5 ?hx_5 ?hsk_5 ?turn_5 ?done_5); (case hm_5 => rw [Array.toArray_toList]; k_mem); (case hn_5 => exact few_parts g2 lb); (case h0_5 => exact ⟨rfl, StrsAre.nil⟩); (case hcell_5 => decide); (case hkind_5 => exact rfl); (case hx_5 => intro _; exact rfl); (case hsk_5 => intro _; exact rfl); clear lF' lN'; (case' turn_5 => (intro i v ys I C D oI oC m₂ h tk news₁ E' hv hJ hax hmx hoC hoI F' N' nCD nIC nID off; (refine (let G9 : Prop := _; (?_ : G9))); (obtain ⟨rfl, hys⟩ := hJ); (rcases part_cases pb g2 hv with ⟨t, rfl, rfl⟩ | ⟨j, yy, t, rfl, rfl, hyy, pyy⟩); all_goals (refine' testsCons ?_))); (case' done_5 => (intro D C h tk m' ys news' F' N' offD hn hC₀ hCL hCD offC hJ; (refine (let G9 : Prop := _; (?_ : G9))); (obtain ⟨rfl, hys⟩ := hJ); (replace hys := J3.fin hys g2); (refine' compDoneE F' N' hn hC₀ hCL (offCons hCD offC) ?hq3_5); clear F' N' hn offC; (intro h' F' N'))))
  k_with "call builtin:min" => ((rename Fr _ _ _ _ => lF'); (rename News _ _ _ (_ :: _) => lN'); k_dflt (refine' minK (by rfl) (by (first | omega | ((try dsimp only [A9]); (try dsimp only [Around.deeper]); omega))) lF' lN' (by k_mem) (by k_mem) (by k_mem) f1 f2 ?_); clear lF' lN'; (intro S1 W1 j1 us h1 tk1 F' N' hus hmin))
  k_with "call builtin:max" => ((rename Fr _ _ _ _ => lF'); (rename News _ _ _ (_ :: _) => lN'); k_dflt (refine' maxK (by rfl) (by (first | omega | ((try dsimp only [A9]); (try dsimp only [Around.deeper]); omega))) lF' lN' (by k_mem) (by k_mem) (by k_mem) f1 f2 ?_); clear lF' lN'; (intro S2 W2 j2 vs h2 tk2 F' N' hvs hmax); (obtain ⟨hle, hcom⟩ := minmax hmin hmax); (have lu := parts_few hmin la lb); (have lv := parts_few hmax la lb); (have wu := wt_of hmin wa wb))
  k_with "call type:enumerate" => ((rename Fr _ _ _ _ => lF'); (rename News _ _ _ (_ :: _) => lN'); k_dflt (refine' enumLstJL rfl (Jf := fun b => JC b us vs S1 S2) (vs := W1) (nn := j1) (by rfl) ?em lF' lN' ?e0 ?eturn ?edone (by passes_own)); (case em => k_mem); (case e0 => exact ⟨rfl, rfl, rfl, rfl, rfl⟩); clear lF' lN'; (case' eturn => (intro i x ti T h tk m₁ news₁ I I' o o' hx hJ hin F' hTT ho ho' N' off off'; (refine (let G9 : Prop := _; (?_ : G9))); (obtain ⟨hm1, hm2, hm3, hm4, hpre⟩ := hJ); (replace F' := frPin4 F' hm1 hm2 hm3 hm4); (obtain ⟨y1, ty1, rfl, hy1⟩ := hus.item i x hx); (have hi1 := lexS_in hle hpre (List.getElem?_eq_some_iff.mp hy1).1); (obtain ⟨z1, hz1⟩ : ∃ z1, vs[i]? = some z1 := ⟨_, List.getElem?_eq_getElem hi1⟩); (obtain ⟨tz1, hz2⟩ := hvs.at hz1); (have hi2 : i < 2 ^ 62 := by omega))); (case' edone => (intro h tk m₁ news₁ F' N' hJ; (refine (let G9 : Prop := _; (?_ : G9))); (obtain ⟨hm1, hm2, hm3, hm4, hpre⟩ := hJ); (replace F' := frPin4 F' hm1 hm2 hm3 hm4))))
  w_top off; walk_at "my open"; k_dflt (refine' enterD [(Str.ofString "paths", .ref D)] (fun y => if y = Str.ofString "paths" then some (.ref D) else none) (fun y => none) ?k1 ?k2 ?k3 ?k4 ?k5 ?kA ?kF ?kK ?k6 ?k7 ?k8 ?k9 ?kB ?kD ?kL ?kC ?_ ?c2 ?c3 ?c4; walk_at "my enteredD")
  repeat' (first | ((fail_if_success goal_has PySem.wpAny); (try dsimp only); first | (with_reducible refine seqN ?_) | ((with_reducible refine seqE ?_); (try dsimp only)) | ((with_reducible refine seqR ?_); (try dsimp only)) | ((with_reducible refine seqC ?_); (try dsimp only)) | ((with_reducible refine seqB ?_); (try dsimp only))) | ((fail_if_success (fail_if_success k_unfold)); (try dsimp only); k_unfold; (try dsimp only)) | ((fail_if_success goal_has PySem.wpAny); show PySem.wpAny _ _ _ _ _ _; (try dsimp only)) | walk1 | (dsimp only; walk1) | fail "no step")
  all_goals try (exact endC1 (by assumption) (by assumption) (by assumption) (by assumption) ⟨⟨.tail _ (by assumption), trivial⟩, by first | exact .inr (.inl ⟨rfl, _, _, _, rfl, rfl, strsOf' (by assumption)⟩) | exact .inr (.inr ⟨rfl, _, _, _, _, _, _, rfl, rfl, by assumption, strsOf' (by assumption)⟩)⟩)
  all_goals try exact ⟨rfl, _, rfl⟩
  all_goals try (exact endC2 (by assumption) (by assumption) (by assumption) (by assumption) ⟨⟨.tail _ (by assumption), trivial⟩, by first | exact .inr (.inl ⟨rfl, _, _, _, rfl, rfl, by assumption⟩) | exact .inr (.inr ⟨rfl, _, _, _, _, _, _, rfl, rfl, by assumption, by assumption⟩)⟩)
  all_goals try (exact endC0 (by assumption) (by assumption) (by assumption) ⟨⟨by assumption, trivial⟩, rfl, by first | exact hys | exact J3.step hys hyy⟩)
  all_goals try exact unrEnd2 (by assumption) (by assumption) off off' ⟨⟨hin, trivial⟩, rfl, rfl, rfl, rfl, take_same hpre hy1 hz1 (by first | assumption | (rename y1 = _ => hh; rw [hh, List.getD_eq_getElem?_getD]; simp [hz1]))⟩
  all_goals try (refine' retTE (by assumption) (by walk_at "my keep") ?_; rw [← hcom]; first | rw [comPre_all (by rw [← len_of hus]; exact hpre)] | rw [comPre_till hpre hy1 hz1 (fun q => by subst q; rename (_ == _) = false => hh; first | (simp at hh; done) | (rw [List.getD_eq_getElem?_getD] at hh; simp [hz1] at hh))]; rfl)
end

section
local macro_rules | `(tactic| omega) => `(tactic| lia)
section
open Builtin Builtin.Str StrLaws
/-- the places of a sign -/
def posL (c : Nat) : Nat → List Nat → List Nat
  | _, [] => []
  | k, a :: r => if a = c then k :: posL c (k + 1) r else posL c (k + 1) r
def glueL (c : Nat) : List (List Nat) → List Nat
  | [] => []
  | [p] => p
  | p :: q :: r => p ++ c :: glueL c (q :: r)
def cutN (c : Nat) : Nat → List (List Nat) → List (List Nat)
  | 0, ps => [glueL c ps]
  | _ + 1, [] => [[]]
  | _ + 1, [p] => [p]
  | n + 1, p :: q :: r => p :: cutN c n (q :: r)
def mkS (p : List Nat) : Str := ⟨p.toArray⟩
theorem subAt1 (s : Str) (c i : Nat) : subAt s ⟨#[c]⟩ i = (s.cps.toList[i]? == some c) := by
  rw [subAt_eq]
  show ((s.cps.toList.drop i).take 1 == [c]) = _
  cases e : s.cps.toList.drop i with
  | nil =>
    have : s.cps.toList[i]? = none := by
      rw [List.drop_eq_nil_iff] at e
      exact List.getElem?_eq_none e
    rw [this]; rfl
  | cons a r =>
    have : s.cps.toList[i]? = some a := by
      have := congrArg List.head? e
      rw [List.head?_drop] at this
      exact this
    rw [this]
    simp
theorem occ1_go (s : Str) (c limit : Nat) : ∀ (m k : Nat) (st : Array Nat × Nat), st.2 ≤ k → k + m = s.length + 1 →
    (forIn (List.range' k m) st (occBody s ⟨#[c]⟩ s.length limit)).run.fst.toList = st.1.toList ++ (posL c k (s.cps.toList.drop k)).take (limit - st.1.size)
  | 0, k, st, _, hk => by
    have : s.cps.toList.drop k = [] := by
      rw [List.drop_eq_nil_iff]
      have : s.cps.toList.length = s.length := Array.length_toList
      omega
    rw [this]
    show st.1.toList = _
    simp [posL]
  | m + 1, k, st, hf, hk => by
    rw [List.range'_succ, List.forIn_cons]
    have hlen : s.cps.toList.length = s.length := Array.length_toList
    unfold occBody
    split
    · rename_i hc
      obtain ⟨⟨⟨h1, h2⟩, h3⟩, h4⟩ := hc
      have h3' : k + 1 ≤ s.length := h3
      refine (occ1_go s c limit m (k + 1) (st.1.push k, k + 1) (Nat.le_refl _) (by omega)).trans ?_
      rw [subAt1] at h4
      have hk' : k < s.cps.toList.length := by omega
      have e : s.cps.toList[k] = c := by
        rw [List.getElem?_eq_getElem hk'] at h4
        simpa using h4
      rw [List.drop_eq_getElem_cons hk', posL, if_pos e, Array.toList_push, Array.size_push]
      obtain ⟨n, hn⟩ : ∃ n, limit - st.1.size = n + 1 := ⟨limit - st.1.size - 1, by omega⟩
      rw [hn, List.take_succ_cons, show limit - (st.1.size + 1) = n by omega, List.append_assoc]
      rfl
    · rename_i hc
      refine (occ1_go s c limit m (k + 1) (st.1, st.2) (by omega) (by omega)).trans ?_
      by_cases hk' : k < s.cps.toList.length
      · rw [List.drop_eq_getElem_cons hk', posL]
        by_cases e : s.cps.toList[k] = c
        · have hs : ¬ st.1.size < limit := fun q => hc ⟨⟨⟨q, hf⟩, by show k + 1 ≤ _; omega⟩, by rw [subAt1, List.getElem?_eq_getElem hk', e]; simp⟩
          rw [show limit - st.1.size = 0 by omega, List.take_zero, List.take_zero]
        · rw [if_neg e]
      · rw [List.drop_of_length_le (by omega), List.drop_of_length_le (by omega)]; rfl
theorem occ1 (s : Str) (c limit : Nat) : occurrences s ⟨#[c]⟩ 0 s.length limit = (posL c 0 s.cps.toList).take limit := by
  rw [occ_eq]
  have h := occ1_go s c limit (s.length + 1) 0 (#[], 0) (Nat.le_refl _) (by omega)
  simpa using h
theorem posL_skip {c : Nat} : ∀ (p : List Nat) (k : Nat) (r : List Nat), c ∉ p → posL c k (p ++ r) = posL c (k + p.length) r
  | [], _, _, _ => rfl
  | a :: p, k, r, h => by
    have h1 : a ≠ c := fun e => h (e ▸ .head _)
    rw [List.cons_append, posL, if_neg h1, posL_skip p (k + 1) r (fun q => h (.tail _ q)), List.length_cons]
    congr 1
    omega
theorem strSub_mid {s : Str} {pre p post : List Nat} (h : s.cps.toList = pre ++ (p ++ post)) : strSub s pre.length (pre.length + p.length) = mkS p := by
  apply Str.ext'
  apply Array.toList_inj.mp
  rw [strSub_toList, h, List.drop_left, Nat.add_sub_cancel_left, List.take_left]
  rfl
theorem parts_glue {c : Nat} {s : Str} : ∀ (ps : List (List Nat)) (n : Nat) (pre : List Nat), ps ≠ [] → (∀ p ∈ ps, c ∉ p) → s.cps.toList = pre ++ glueL c ps → partsFrom s 1 pre.length ((posL c pre.length (glueL c ps)).take n) = (cutN c n ps).map mkS
  | [], _, _, h, _, _ => absurd rfl h
  | ps, 0, pre, h, _, hs => by
    rw [List.take_zero]
    show [strSub s pre.length s.length] = [mkS (glueL c ps)]
    have hl : s.length = pre.length + (glueL c ps).length := by
      show s.cps.size = _
      rw [← Array.length_toList, hs, List.length_append]
    rw [hl, strSub_mid (post := []) (by rw [List.append_nil]; exact hs)]
  | [p], n + 1, pre, _, hp, hs => by
    have h1 : posL c pre.length (glueL c [p]) = [] := by
      have := posL_skip p pre.length [] (hp p (.head _))
      rw [List.append_nil] at this
      exact this
    rw [h1]
    show [strSub s pre.length s.length] = [mkS p]
    have hl : s.length = pre.length + p.length := by
      show s.cps.size = _
      rw [← Array.length_toList, hs, List.length_append]
      rfl
    rw [hl, strSub_mid (post := []) (by rw [List.append_nil]; exact hs)]
  | p :: q :: r, n + 1, pre, _, hp, hs => by
    show partsFrom s 1 pre.length ((posL c pre.length (p ++ c :: glueL c (q :: r))).take (n + 1)) = mkS p :: (cutN c n (q :: r)).map mkS
    rw [posL_skip p _ _ (hp p (.head _)), posL, if_pos rfl, List.take_succ_cons]
    show strSub s pre.length (pre.length + p.length) :: partsFrom s 1 (pre.length + p.length + 1) _ = _
    have hs' : s.cps.toList = pre ++ (p ++ c :: glueL c (q :: r)) := hs
    rw [strSub_mid hs']
    have ih := parts_glue (s := s) (q :: r) n (pre ++ (p ++ [c])) (List.cons_ne_nil _ _) (fun x hx => hp x (.tail _ hx)) (by rw [hs']; simp)
    have hl : (pre ++ (p ++ [c])).length = pre.length + p.length + 1 := by simp; omega
    rw [hl] at ih
    rw [ih]
theorem kind1 {c : Nat} (hc : c < 256) (x : Str) : decide (Str.strKind x < Str.strKind ⟨#[c]⟩) = false := by
  have h1 : Str.strKind ⟨#[c]⟩ = 1 := by unfold Str.strKind; simp [hc]
  rw [h1]
  unfold Str.strKind
  split
  · rfl
  · split <;> rfl
/-- a text parted by a sign -/
theorem splitAny {c : Nat} (hc : c < 256) {s : Str} {ps : List (List Nat)} (h0 : ps ≠ []) (hp : ∀ p ∈ ps, c ∉ p) (hs : s.cps.toList = glueL c ps) (n : Nat) (h1 : s.length ≠ 0) :
    (if (decide (s.length < (⟨#[c]⟩ : Str).length) || decide (Str.strKind s < Str.strKind ⟨#[c]⟩)) = true then [s] else if (occurrences s ⟨#[c]⟩ 0 s.length n).isEmpty = true then [s] else partsBetween s (occurrences s ⟨#[c]⟩ 0 s.length n) (⟨#[c]⟩ : Str).length) = (cutN c n ps).map mkS := by
  have h := parts_glue (c := c) (s := s) ps n [] h0 hp (by rw [hs]; rfl)
  rw [kind1 hc, Bool.or_false, if_neg (by show ¬ decide (s.length < 1) = true; simp; omega), occ1, hs]
  rw [partsBetween_eq]
  show (if ((posL c 0 (glueL c ps)).take n).isEmpty = true then [s] else partsFrom s 1 0 ((posL c 0 (glueL c ps)).take n)) = _
  rw [← h]
  show _ = partsFrom s 1 0 ((posL c 0 (glueL c ps)).take n)
  cases e : (posL c 0 (glueL c ps)).take n with
  | nil =>
    show [s] = [strSub s 0 s.length]
    rw [sub_whole]
  | cons a r => rw [if_neg (by simp)]
theorem cutN_all {c : Nat} : ∀ (ps : List (List Nat)) (n : Nat), ps ≠ [] → ps.length ≤ n + 1 → cutN c n ps = ps
  | [], _, h, _ => absurd rfl h
  | [p], 0, _, _ => rfl
  | [p], n + 1, _, _ => rfl
  | p :: q :: r, 0, _, h => by simp at h
  | p :: q :: r, n + 1, _, h => by
    show p :: cutN c n (q :: r) = _
    rw [cutN_all (q :: r) n (List.cons_ne_nil _ _) (by simpa using h)]
theorem glueL_len {c : Nat} : ∀ (ps : List (List Nat)), ps.length ≤ (glueL c ps).length + 1
  | [] => by simp
  | [p] => by simp [glueL]
  | p :: q :: r => by
    have := glueL_len (c := c) (q :: r)
    rw [glueL, List.length_append, List.length_cons, List.length_cons (as := glueL c (q :: r))]
    omega
end
theorem mkS_toList (x : Str) : mkS x.cps.toList = x := by cases x; rfl
theorem map_mkS : ∀ ps : List Str, (ps.map fun x => x.cps.toList).map mkS = ps
  | [] => rfl
  | x :: r => by rw [List.map_cons, List.map_cons, mkS_toList, map_mkS r]
/-- the parts that were glued -/
theorem split_glued {c : Nat} (hc : c < 256) {s : Str} {ps : List Str} (h0 : ps ≠ []) (hp : ∀ p ∈ ps, c ∉ p.cps.toList) (hs : s.cps.toList = glueL c (ps.map fun x => x.cps.toList)) (h1 : s.length ≠ 0) : Txt.split s ⟨#[c]⟩ = ps := by
  have h := splitAny hc (ps := ps.map fun x => x.cps.toList) (by simpa using h0) (by simpa using hp) hs (s.length + 1) h1
  rw [cutN_all _ _ (by simpa using h0) (by
    have := glueL_len (c := c) (ps.map fun x => x.cps.toList)
    rw [← hs] at this
    have e : s.cps.toList.length = s.length := Array.length_toList
    omega), map_mkS] at h
  exact h
theorem splitMax_glued {c : Nat} (hc : c < 256) {s : Str} {ps : List Str} {k : Nat} (h0 : ps ≠ []) (hp : ∀ p ∈ ps, c ∉ p.cps.toList) (hs : s.cps.toList = glueL c (ps.map fun x => x.cps.toList)) (h1 : s.length ≠ 0) : Txt.splitMax s ⟨#[c]⟩ (k : Int) = (cutN c k (ps.map fun x => x.cps.toList)).map mkS := by
  have h := splitAny hc (ps := ps.map fun x => x.cps.toList) (by simpa using h0) (by simpa using hp) hs k h1
  have e : limitOf s (k : Int) = k := by unfold limitOf; rw [if_neg (by omega)]; rfl
  unfold Txt.splitMax
  rw [e]
  exact h

section
open Builtin Builtin.Str StrLaws
theorem eqOfL {x y : Str} (h : x.cps.toList = y.cps.toList) : x = y := by
  apply Str.ext'
  exact Array.toList_inj.mp h
theorem sjoin_toList {c : Nat} : ∀ ps : List Str, (Str.join ⟨#[c]⟩ ps).cps.toList = glueL c (ps.map fun x => x.cps.toList)
  | [] => rfl
  | [p] => rfl
  | p :: q :: r => by
    show (p ++ ⟨#[c]⟩ ++ Str.join ⟨#[c]⟩ (q :: r)).cps.toList = p.cps.toList ++ c :: glueL c ((q :: r).map fun x => x.cps.toList)
    rw [toList_app, toList_app, sjoin_toList (q :: r), List.append_assoc]
    rfl
theorem join_toList {c : Nat} (ps : List Str) : (Txt.join ⟨#[c]⟩ ps).cps.toList = glueL c (ps.map fun x => x.cps.toList) := by
  show (glued _ _).cps.toList = _
  rw [glued_eq_join, sjoin_toList]
theorem slice_is {x : Str} {a b : Nat} {l : List Nat} (hab : a ≤ b) (hb : b ≤ x.length) (h : (x.cps.toList.drop a).take (b - a) = l) : Txt.slice x (some (a : Int)) (some (b : Int)) = mkS l := by
  have hs := sliced_plain x hab hb
  unfold Txt.slice
  rw [hs, h]
  split
  · rename_i hc
    have hl : (strSliceIndices (some (a : Int)) (some (b : Int)) 1 x.length).length = x.length := by simpa using hc
    rw [strSliceIndices_plain hab hb, List.length_map, List.length_range] at hl
    have ha : a = 0 := by omega
    have hb' : b = x.length := by omega
    subst ha
    rw [List.drop_zero, List.take_of_length_le (by rw [cps_len]; omega)] at h
    rw [← h, mkS_toList]
  · rfl
theorem slice_none {x : Str} {b : Option Int} : Txt.slice x none b = Txt.slice x (some 0) b := by
  unfold Txt.slice; rw [sliceIdx_none_lo]
theorem slice_end {x : Str} {a : Option Int} : Txt.slice x a none = Txt.slice x a (some (x.length : Int)) := by
  unfold Txt.slice; rw [sliceIdx_none_hi]
theorem sign_c (s : String) (c : Nat) (h : Str.ofString s = ⟨#[c]⟩ := by decide +kernel) : Str.ofString s = ⟨#[c]⟩ := h
theorem slash : Str.ofString "/" = ⟨#[47]⟩ := by decide +kernel
theorem tick : Str.ofString "'" = ⟨#[39]⟩ := by decide +kernel
theorem colon : Str.ofString ":" = ⟨#[58]⟩ := by decide +kernel
theorem fullstop : Str.ofString "." = ⟨#[46]⟩ := by decide +kernel
theorem two_toList (n : Int) : (two n).cps.toList = [48 + (n / 10).toNat, 48 + (n % 10).toNat] := rfl
theorem four_toList (n : Int) : (four n).cps.toList = [48 + (n / 1000).toNat, 48 + (n / 100 % 10).toNat, 48 + (n / 10 % 10).toNat, 48 + (n % 10).toNat] := rfl
/-- a text all of whose signs are figures -/
def Figs (x : Str) : Prop := ∀ c ∈ x.cps.toList, 48 ≤ c ∧ c ≤ 57
theorem figs_two {n : Int} (h : 0 ≤ n ∧ n < 100) : Figs (two n) := by
  intro c hc
  rw [two_toList] at hc
  simp only [List.mem_cons, List.not_mem_nil, or_false] at hc
  rcases hc with rfl | rfl <;> omega
theorem figs_four {n : Int} (h : 0 ≤ n ∧ n < 10000) : Figs (four n) := by
  intro c hc
  rw [four_toList] at hc
  simp only [List.mem_cons, List.not_mem_nil, or_false] at hc
  rcases hc with rfl | rfl | rfl | rfl <;> omega
theorem Figs.no {x : Str} (h : Figs x) {c : Nat} (hc : c < 48 ∨ 57 < c) : c ∉ x.cps.toList := fun q => by have := h c q; omega
/-- signs replaced where a text is parted -/
theorem replace_split {c : Nat} (hc : c < 256) {x z : Str} (h1 : x.length ≠ 0) : Txt.replace x ⟨#[c]⟩ z = Txt.join z (Txt.split x ⟨#[c]⟩) := by
  unfold Txt.replace Txt.split
  rw [kind1 hc, Bool.or_false, if_neg (show ¬ decide (x.length < (⟨#[c]⟩ : Str).length) = true by show ¬ decide (x.length < 1) = true; simp; omega)]
  show (if (_ || (((1 : Nat) == 0) && _)) = true then x else _) = _
  rw [show ((1 : Nat) == 0) = false from rfl, Bool.false_and, Bool.or_false]
  split
  · rename_i h
    show x = glued z [x]
    rw [glued_eq_join]
    rfl
  · rfl
theorem starts_slash {x : Str} {a : Nat} {r : List Nat} (h : x.cps.toList = a :: r) (ha : a ≠ 47) : Txt.startswith x (Str.ofString "/") = false := by
  rw [slash]
  unfold Txt.startswith
  rw [subAt1, h]
  have : (a == 47) = false := by simpa using ha
  simp [ha]
theorem starts_slash' {x : Str} {r : List Nat} (h : x.cps.toList = 47 :: r) : Txt.startswith x (Str.ofString "/") = true := by
  rw [slash]
  unfold Txt.startswith
  rw [subAt1, h]
  have : x.length = r.length + 1 := by rw [← cps_len, h]; rfl
  show (decide (0 + 1 ≤ x.length) && _) = true
  rw [this]
  simp
theorem ends_slash {x : Str} {a : Nat} {r : List Nat} (h : x.cps.toList = r ++ [a]) (ha : a ≠ 47) : Txt.endswith x (Str.ofString "/") = false := by
  rw [slash]
  unfold Txt.endswith
  have hl : x.length = r.length + 1 := by rw [← cps_len, h]; simp
  show (decide (0 + 1 ≤ x.length) && subAt x ⟨#[47]⟩ (x.length - 1)) = false
  rw [subAt1, h, hl, Nat.add_sub_cancel]
  simp [ha]
theorem part_of {x : Str} {a b : Nat} {r r' : List Nat} (h : x.cps.toList = a :: r) (h' : x.cps.toList = r' ++ [b]) (ha : a ≠ 47) (hb : b ≠ 47) (hl : x.length ≤ 1000) : Part x :=
  ⟨by rw [← cps_len, h]; simp, hl, starts_slash h ha, ends_slash h' hb⟩
/-- dirname of a path: what stands ahead of its last part -/
theorem rfind_slash {x : Str} {p l : List Nat} (h : x.cps.toList = p ++ 47 :: l) (hl : 47 ∉ l) : Txt.rfind x (Str.ofString "/") = (p.length : Int) := by
  rw [slash]
  unfold Txt.rfind
  have at_ : ∀ i, At x ⟨#[47]⟩ x.length i ↔ x.cps.toList[i]? = some 47 := fun i => by
    unfold At
    exact subAt_one x 47 i
  rcases last_spec x ⟨#[47]⟩ with ⟨h1, h2⟩ | ⟨i, h1, h2, h3⟩
  · exact absurd ((at_ p.length).mpr (by rw [h]; simp)) (h2 p.length)
  · rw [h1]
    have e1 := (at_ i).mp h2
    have hi : ¬ p.length < i := fun q => by
      rw [h, List.getElem?_append_right (by omega)] at e1
      obtain ⟨k, hk⟩ : ∃ k, i - p.length = k + 1 := ⟨i - p.length - 1, by omega⟩
      rw [hk, List.getElem?_cons_succ] at e1
      exact hl (List.mem_of_getElem? e1)
    have hi2 : ¬ i < p.length := fun q => h3 p.length q ((at_ p.length).mpr (by rw [h]; simp))
    show (i : Int) = _
    omega
end

section
open Builtin Builtin.Str StrLaws
theorem dir_head {x : Str} {p l : List Nat} (h : x.cps.toList = p ++ 47 :: l) (hl : 47 ∉ l) (hll : l ≠ []) : Txt.slice x none (some (Txt.rfind x (Str.ofString "/") + 1)) = mkS (p ++ [47]) := by
  rw [rfind_slash h hl, slice_none]
  have hx : x.length = p.length + (l.length + 1) := by rw [← cps_len, h, List.length_append, List.length_cons]
  have := slice_is (x := x) (a := 0) (b := p.length + 1) (l := p ++ [47]) (Nat.zero_le _) (by omega) (by
    rw [List.drop_zero, Nat.sub_zero, h, show p ++ 47 :: l = (p ++ [47]) ++ l by simp]
    exact List.take_left' (by simp))
  exact this
theorem rstrip_one {p : List Nat} {a : Nat} {q : List Nat} (hp : p = q ++ [a]) (ha : a ≠ 47) : Txt.rstripChars (mkS (p ++ [47])) (Str.ofString "/") = mkS p := by
  rw [slash]
  unfold Txt.rstripChars
  rw [PyProof.Rows.stripBy_eq]
  have h1 : stripHi (#[47] : Array Nat).contains true (mkS (p ++ [47])) (stripLo (#[47] : Array Nat).contains false (mkS (p ++ [47]))) = p.length := by
    have hn : (p ++ [47]).reverse = 47 :: a :: q.reverse := by rw [hp]; simp
    have hm : (mkS (p ++ [47])).length = p.length + 1 := by show (p ++ [47]).toArray.size = _; simp
    show (mkS (p ++ [47])).length - ((((mkS (p ++ [47])).cps.toList.drop 0).reverse.takeWhile _).length) = _
    rw [hm]
    show p.length + 1 - (((p ++ [47]).reverse.takeWhile _).length) = _
    rw [hn]
    have hb : (#[47] : Array Nat).contains a = false := by simpa using ha
    simp [List.takeWhile_cons, ha]
  show strSub (mkS (p ++ [47])) 0 _ = _
  rw [show ({ cps := #[47] } : Str).cps = #[47] from rfl, h1]
  have := strSub_mid (s := mkS (p ++ [47])) (pre := []) (p := p) (post := [47]) rfl
  simpa using this
theorem mul_slash_go : ∀ (n : Nat) (acc : Array Nat), (∀ c ∈ acc.toList, c = 47) → ∀ c ∈ ((List.replicate n (#[47] : Array Nat)).foldl (· ++ ·) acc).toList, c = 47
  | 0, acc, h, c, hc => h c hc
  | n + 1, acc, h, c, hc => by
    rw [List.replicate_succ, List.foldl_cons] at hc
    refine mul_slash_go n (acc ++ #[47]) (fun d hd => ?_) c hc
    rw [Array.toList_append] at hd
    rcases List.mem_append.mp hd with hd | hd
    · exact h d hd
    · simpa using hd
theorem mul_slash (n : Int) : ∀ c ∈ (Txt.mul ⟨#[47]⟩ n).cps.toList, c = 47 := by
  intro c hc
  unfold Txt.mul at hc
  split at hc
  · exact absurd hc (by simp [Str.empty])
  · split at hc
    · simpa using hc
    · exact mul_slash_go _ #[] (fun d hd => by simp at hd) c hc
theorem dir_more {p : List Nat} {a : Nat} {q : List Nat} (hp : p = q ++ [a]) (ha : a ≠ 47) (n : Int) : (mkS (p ++ [47]) != Txt.mul (Str.ofString "/") n) = true := by
  rw [slash, bne_iff_ne]
  intro e
  apply ha
  refine mul_slash n a ?_
  rw [← e, hp]
  show a ∈ (q ++ [a]) ++ [47]
  simp
end
/-- dirname of a path -/
theorem dirname_is {w : World} {x : Str} {t : Tok} {p l q : List Nat} {a : Nat} (hx : x.length ≤ 1000) (h : x.cps.toList = p ++ 47 :: l) (hl : 47 ∉ l) (hll : l ≠ []) (hp : p = q ++ [a]) (ha : a ≠ 47) : SpecS 2 w 143 [.str x t] [] (mkS p) x.length := by
  have e := dir_head h hl hll
  refine dirname_spec x (mkS p) t hx ?_ ?_ ?_
  · rw [e]
    show (((p ++ [47]).toArray.size : Nat) : Int) ≠ 0
    simp
    omega
  · rw [e]; exact dir_more hp ha _
  · rw [e]; exact rstrip_one hp ha

theorem lit_list (s : String) (l : List Nat) (h : (Str.ofString s).cps.toList = l := by decide +kernel) : (Str.ofString s).cps.toList = l := h
theorem three_list {l : List Nat} (h : l.length = 3 ∧ ∀ c ∈ l, 57 < c) : ∃ a b c : Nat, l = [a, b, c] ∧ 57 < a ∧ 57 < b ∧ 57 < c := by
  match l, h with
  | [a, b, c], h => exact ⟨a, b, c, rfl, h.2 a (by simp), h.2 b (by simp), h.2 c (by simp)⟩
theorem wd_list_nat : ∀ k < 7, (wdN (k : Nat)).cps.toList.length = 3 ∧ ∀ c ∈ (wdN (k : Nat)).cps.toList, 57 < c := by decide +kernel
theorem mo_list_nat : ∀ k < 12, (moN ((k : Nat) + 1 : Int)).cps.toList.length = 3 ∧ ∀ c ∈ (moN ((k : Nat) + 1 : Int)).cps.toList, 57 < c := by decide +kernel
theorem wd_list {wd : Int} (h : 0 ≤ wd ∧ wd < 7) : ∃ a b c : Nat, (wdN wd).cps.toList = [a, b, c] ∧ 57 < a ∧ 57 < b ∧ 57 < c := by
  obtain ⟨k, rfl⟩ := Int.eq_ofNat_of_zero_le h.1
  exact three_list (wd_list_nat k (by omega))
theorem mo_list {mo : Int} (h : 1 ≤ mo ∧ mo ≤ 12) : ∃ a b c : Nat, (moN mo).cps.toList = [a, b, c] ∧ 57 < a ∧ 57 < b ∧ 57 < c := by
  obtain ⟨k, e⟩ := Int.eq_ofNat_of_zero_le (show 0 ≤ mo - 1 by omega)
  obtain rfl : mo = (k : Int) + 1 := by omega
  exact three_list (mo_list_nat k (by omega))
section
variable {y mo d h mi s wd : Int} {z : Str}
theorem dateN_list : (dateN y mo d h mi s wd z).cps.toList = (wdN wd).cps.toList ++ ([44, 32] ++ ((two d).cps.toList ++ ([32] ++ ((moN mo).cps.toList ++ ([32] ++ ((four y).cps.toList ++ ([32] ++ ((two h).cps.toList ++ ([58] ++ ((two mi).cps.toList ++ ([58] ++ ((two s).cps.toList ++ ([32] ++ z.cps.toList))))))))))))) := by
  unfold dateN
  have e : Txt.join (Str.ofString ":") [two h, two mi, two s] = two h ++ Str.ofString ":" ++ two mi ++ Str.ofString ":" ++ two s := rfl
  rw [e]
  simp only [toList_app, lit_list ", " [44, 32], lit_list " " [32], lit_list ":" [58], List.append_assoc]
variable (b2 : 1 ≤ mo ∧ mo ≤ 12) (b7 : 0 ≤ wd ∧ wd < 7)
include b2 b7
theorem date_cut {a b : Nat} {x : Str} (hab : a ≤ b) (hb : b ≤ 26) (hc : ((dateN y mo d h mi s wd z).cps.toList.drop a).take (b - a) = x.cps.toList) : Txt.slice (dateN y mo d h mi s wd z) (some (a : Int)) (some (b : Int)) = x := by
  rw [slice_is (l := x.cps.toList) hab ?_ hc, mkS_toList]
  obtain ⟨p, q, r, e1, _⟩ := wd_list b7
  obtain ⟨p', q', r', e2, _⟩ := mo_list b2
  rw [← cps_len, dateN_list, e1, e2, two_toList, four_toList, two_toList, two_toList, two_toList]
  simp
  omega
theorem date_month : Txt.slice (dateN y mo d h mi s wd z) (some 8) (some 11) = moN mo := by
  refine date_cut b2 b7 (a := 8) (b := 11) (by decide) (by decide) ?_
  obtain ⟨p, q, r, e1, _⟩ := wd_list b7
  obtain ⟨p', q', r', e2, _⟩ := mo_list b2
  rw [dateN_list, e1, e2, two_toList]
  rfl
theorem date_year : Txt.slice (dateN y mo d h mi s wd z) (some 12) (some 16) = four y := by
  refine date_cut b2 b7 (a := 12) (b := 16) (by decide) (by decide) ?_
  obtain ⟨p, q, r, e1, _⟩ := wd_list b7
  obtain ⟨p', q', r', e2, _⟩ := mo_list b2
  rw [dateN_list, e1, e2, two_toList, four_toList]
  rfl
theorem date_day : Txt.slice (dateN y mo d h mi s wd z) (some 5) (some 7) = two d := by
  refine date_cut b2 b7 (a := 5) (b := 7) (by decide) (by decide) ?_
  obtain ⟨p, q, r, e1, _⟩ := wd_list b7
  rw [dateN_list, e1, two_toList]
  rfl
theorem date_time : Txt.slice (dateN y mo d h mi s wd z) (some 17) (some 25) = Txt.join (Str.ofString ":") [two h, two mi, two s] := by
  refine date_cut b2 b7 (a := 17) (b := 25) (by decide) (by decide) ?_
  obtain ⟨p, q, r, e1, _⟩ := wd_list b7
  obtain ⟨p', q', r', e2, _⟩ := mo_list b2
  rw [colon, join_toList, dateN_list, e1, e2, two_toList, four_toList, List.map_cons, List.map_cons, List.map_cons, List.map_nil, two_toList, two_toList, two_toList]
  simp only [glueL, List.cons_append, List.nil_append]
  rfl
theorem date_no_tick (b1 : y = 7 ∨ y = 97 ∨ y = 1997) (b3 : 1 ≤ d ∧ d < 32) (b4 : 0 ≤ h ∧ h < 24) (b5 : 0 ≤ mi ∧ mi < 60) (b6 : 0 ≤ s ∧ s < 60) (hz : 39 ∉ z.cps.toList) : 39 ∉ (dateN y mo d h mi s wd z).cps.toList := by
  obtain ⟨p, q, r, e1, p1, p2, p3⟩ := wd_list b7
  obtain ⟨p', q', r', e2, q1, q2, q3⟩ := mo_list b2
  have f1 := (figs_two (n := d) (by omega)).no (c := 39) (.inl (by decide))
  have f2 := (figs_four (n := y) (by omega)).no (c := 39) (.inl (by decide))
  have f3 := (figs_two (n := h) (by omega)).no (c := 39) (.inl (by decide))
  have f4 := (figs_two (n := mi) (by omega)).no (c := 39) (.inl (by decide))
  have f5 := (figs_two (n := s) (by omega)).no (c := 39) (.inl (by decide))
  rw [dateN_list, e1, e2]
  simp only [List.mem_append, List.mem_cons, List.not_mem_nil, or_false, not_or]
  exact ⟨⟨by omega, by omega, by omega⟩, ⟨by decide, by decide⟩, f1, by decide, ⟨by omega, by omega, by omega⟩, by decide, f2, by decide, f3, by decide, f4, by decide, f5, by decide, hz⟩
end
theorem time_dots {h mi s : Int} (b4 : 0 ≤ h ∧ h < 24) (b5 : 0 ≤ mi ∧ mi < 60) (b6 : 0 ≤ s ∧ s < 60) : Txt.replace (Txt.join (Str.ofString ":") [two h, two mi, two s]) (Str.ofString ":") (Str.ofString ".") = Txt.join (Str.ofString ".") [two h, two mi, two s] := by
  have hl : (Txt.join (Str.ofString ":") [two h, two mi, two s]).length ≠ 0 := by rw [join3_len ":" h mi s (by decide +kernel)]; decide
  rw [colon] at hl ⊢
  rw [replace_split (by decide) hl]
  congr 1
  refine split_glued (by decide) (by simp) (fun p hp => ?_) (join_toList _) hl
  simp only [List.mem_cons, List.not_mem_nil, or_false] at hp
  rcases hp with rfl | rfl | rfl
  · exact (figs_two (n := h) (by omega)).no (.inr (by decide))
  · exact (figs_two (n := mi) (by omega)).no (.inr (by decide))
  · exact (figs_two (n := s) (by omega)).no (.inr (by decide))
/-- the name of a letter -/
def nameN (n : Int) : Str := Str.ofString "./x//../o'clock'" ++ two n
theorem row_no_tick (n : Int) : 39 ∉ (rowN n).cps.toList := by
  have k : ∀ x : Int, kindK x ≠ 39 := fun x => by unfold kindK; split <;> (try split) <;> (try split) <;> (try split) <;> (try split) <;> (try split) <;> (try split) <;> decide
  have b : ∀ (x : Int) (c : Nat), c ≠ 39 → bitC x c ≠ 39 := fun x c hc => by unfold bitC; split; exact hc; decide
  have e : ∀ (x y : Int) (c d : Nat), c ≠ 39 → d ≠ 39 → execC x y c d ≠ 39 := fun x y c d hc hd => by unfold execC; split <;> split <;> first | exact hc | exact hd | decide
  show 39 ∉ [_, _, _, _, _, _, _, _, _, _]
  simp only [List.mem_cons, List.not_mem_nil, or_false, not_or]
  exact ⟨(k _).symm, (b _ _ (by decide)).symm, (b _ _ (by decide)).symm, (e _ _ _ _ (by decide) (by decide)).symm, (b _ _ (by decide)).symm, (b _ _ (by decide)).symm, (e _ _ _ _ (by decide) (by decide)).symm, (b _ _ (by decide)).symm, (b _ _ (by decide)).symm, (e _ _ _ _ (by decide) (by decide)).symm⟩
/-- a line, and less of it, parted by the ticks -/
theorem line_parts {row date : Str} {n : Int} (hr : 39 ∉ row.cps.toList) (hd : 39 ∉ date.cps.toList) (hn : 0 ≤ n ∧ n < 100) : Txt.splitMax (row ++ Str.ofString "'" ++ date ++ Str.ofString "'" ++ nameN n) (Str.ofString "'") 2 = [row, date, nameN n] := by
  have h := splitMax_glued (c := 39) (by decide) (s := row ++ Str.ofString "'" ++ date ++ Str.ofString "'" ++ nameN n) (ps := [row, date, Str.ofString "./x//../o", Str.ofString "clock", two n]) (k := 2) (by simp) (fun p hp => by
    simp only [List.mem_cons, List.not_mem_nil, or_false] at hp
    rcases hp with rfl | rfl | rfl | rfl | rfl
    · exact hr
    · exact hd
    · decide +kernel
    · decide +kernel
    · exact (figs_two hn).no (.inl (by decide))) (by
    unfold nameN
    simp only [toList_app, lit_list "'" [39], lit_list "./x//../o'clock'" [46, 47, 120, 47, 47, 46, 46, 47, 111, 39, 99, 108, 111, 99, 107, 39], List.map_cons, List.map_nil, glueL, lit_list "./x//../o" [46, 47, 120, 47, 47, 46, 46, 47, 111], lit_list "clock" [99, 108, 111, 99, 107]]
    simp) (by simp only [Str.length_append, ofString_len "'" 1]; omega)
  rw [tick]
  rw [tick] at h
  refine h.trans ?_
  show [mkS _, mkS _, mkS _] = _
  rw [mkS_toList, mkS_toList]
  congr 3
theorem line_two {row date : Str} (hr : 39 ∉ row.cps.toList) (hd : 39 ∉ date.cps.toList) : Txt.splitMax (row ++ Str.ofString "'" ++ date) (Str.ofString "'") 2 = [row, date] := by
  have h := splitMax_glued (c := 39) (by decide) (s := row ++ Str.ofString "'" ++ date) (ps := [row, date]) (k := 2) (by simp) (fun p hp => by
    simp only [List.mem_cons, List.not_mem_nil, or_false] at hp
    rcases hp with rfl | rfl
    · exact hr
    · exact hd) (by
    simp only [toList_app, lit_list "'" [39], List.map_cons, List.map_nil, glueL]
    simp) (by simp only [Str.length_append, ofString_len "'" 1]; omega)
  rw [tick]
  rw [tick] at h
  refine h.trans ?_
  show [mkS _, mkS _] = _
  rw [mkS_toList, mkS_toList]
theorem line_one {date : Str} (hd : 39 ∉ date.cps.toList) (h0 : date.length ≠ 0) : Txt.splitMax date (Str.ofString "'") 2 = [date] := by
  have h := splitMax_glued (c := 39) (by decide) (s := date) (ps := [date]) (k := 2) (by simp) (fun p hp => by rw [List.mem_singleton.mp hp]; exact hd) rfl h0
  rw [tick]
  refine h.trans ?_
  show [mkS _] = _
  rw [mkS_toList]

/-- the last part of a path, the time's part, the parts of a path -/
def ockN (n : Int) : Str := Str.ofString "o'clock'" ++ two n
def hmsN (h mi s : Int) : Str := Txt.join (Str.ofString ".") [two h, two mi, two s]
def wayP (y mo d h mi s n : Int) : List Str := [Str.ofString "mail", four y, two mo, two d, hmsN h mi s, ockN n]
/-- what a moment's numbers may be -/
structure Ok (y mo d h mi s n : Int) : Prop where
  y : y = 7 ∨ y = 97 ∨ y = 1997
  mo : 1 ≤ mo ∧ mo ≤ 12
  d : 1 ≤ d ∧ d < 32
  h : 0 ≤ h ∧ h < 24
  mi : 0 ≤ mi ∧ mi < 60
  s : 0 ≤ s ∧ s < 60
  n : 0 ≤ n ∧ n < 100
theorem hms_list (h mi s : Int) : (hmsN h mi s).cps.toList = (two h).cps.toList ++ ([46] ++ ((two mi).cps.toList ++ ([46] ++ (two s).cps.toList))) := by
  unfold hmsN
  rw [fullstop, join_toList]
  simp [glueL]
theorem ock_list (n : Int) : (ockN n).cps.toList = [111, 39, 99, 108, 111, 99, 107, 39] ++ (two n).cps.toList := by
  unfold ockN
  rw [toList_app, lit_list "o'clock'" [111, 39, 99, 108, 111, 99, 107, 39]]
section
variable {y mo d h mi s n : Int}
theorem way_list : (wayN y mo d h mi s n).cps.toList = glueL 47 ((Str.ofString "" :: wayP y mo d h mi s n).map fun x => x.cps.toList) := by
  unfold wayN wayP
  show (Str.ofString "/mail/" ++ four y ++ Str.ofString "/" ++ two mo ++ Str.ofString "/" ++ two d ++ Str.ofString "/" ++ hmsN h mi s ++ Str.ofString "/o'clock'" ++ two n).cps.toList = _
  simp only [toList_app, lit_list "/mail/" [47, 109, 97, 105, 108, 47], lit_list "/" [47], lit_list "/o'clock'" [47, 111, 39, 99, 108, 111, 99, 107, 39], List.map_cons, List.map_nil, glueL, lit_list "mail" [109, 97, 105, 108], lit_list "" [], ock_list]
  simp
variable (o : Ok y mo d h mi s n)
include o
theorem figs : Figs (four y) ∧ Figs (two mo) ∧ Figs (two d) ∧ Figs (two h) ∧ Figs (two mi) ∧ Figs (two s) ∧ Figs (two n) := by
  have := o.y; have := o.mo; have := o.d; have := o.h; have := o.mi; have := o.s; have := o.n
  exact ⟨figs_four (by omega), figs_two (by omega), figs_two (by omega), figs_two (by omega), figs_two (by omega), figs_two (by omega), figs_two (by omega)⟩
theorem hms_no {c : Nat} (hc : c < 46 ∨ c = 47 ∨ 57 < c) : c ∉ (hmsN h mi s).cps.toList := by
  obtain ⟨_, _, _, f4, f5, f6, _⟩ := figs o
  rw [hms_list]
  simp only [List.mem_append, List.mem_singleton, not_or]
  exact ⟨f4.no (by omega), by omega, f5.no (by omega), by omega, f6.no (by omega)⟩
theorem ock_no : 47 ∉ (ockN n).cps.toList := by
  obtain ⟨_, _, _, _, _, _, f7⟩ := figs o
  rw [ock_list]
  simp only [List.mem_append, not_or]
  exact ⟨by decide, f7.no (by omega)⟩
theorem wayP_no : ∀ p ∈ wayP y mo d h mi s n, 47 ∉ p.cps.toList := by
  obtain ⟨f1, f2, f3, _, _, _, _⟩ := figs o
  intro p hp
  unfold wayP at hp
  simp only [List.mem_cons, List.not_mem_nil, or_false] at hp
  rcases hp with rfl | rfl | rfl | rfl | rfl | rfl
  · decide +kernel
  · exact f1.no (by omega)
  · exact f2.no (by omega)
  · exact f3.no (by omega)
  · exact hms_no o (by omega)
  · exact ock_no o
theorem way_parts : Txt.split (wayN y mo d h mi s n) (Str.ofString "/") = Str.ofString "" :: wayP y mo d h mi s n := by
  rw [slash]
  refine split_glued (by decide) (by simp) (fun p hp => ?_) way_list (by rw [wayN_len]; decide)
  rcases List.mem_cons.mp hp with rfl | hp
  · decide +kernel
  · exact wayP_no o p hp
theorem plain_digits {x : Str} (hl : 2 ≤ x.length) (hl2 : x.length ≤ 1000) (h46 : x.cps.toList[1]? ≠ some 46) : Plain x := by
  have hn : x.length ≠ 0 := by omega
  refine ⟨hn, hl2, ?_, ?_⟩
  · rw [beq_eq_false_iff_ne]
    rintro rfl
    have : (Str.ofString ".").length = 1 := by decide +kernel
    omega
  · rw [beq_eq_false_iff_ne]
    rintro rfl
    exact h46 (by decide +kernel)
omit o in
theorem hms_len : (hmsN h mi s).length = 8 := join3_len "." h mi s (by decide +kernel)
omit o in
theorem ock_len : (ockN n).length = 10 := by
  unfold ockN
  rw [Str.length_append, ofString_len "o'clock'" 8, two_len]
theorem wayP_plain : ∀ p ∈ wayP y mo d h mi s n, Plain p := by
  obtain ⟨f1, f2, f3, f4, _, _, _⟩ := figs o
  intro p hp
  unfold wayP at hp
  simp only [List.mem_cons, List.not_mem_nil, or_false] at hp
  have dig : ∀ {x : Str} {c : Nat}, Figs x → x.cps.toList[1]? = some c → x.cps.toList[1]? ≠ some 46 := fun f e q => by
    have := f _ (List.mem_of_getElem? q)
    omega
  rcases hp with rfl | rfl | rfl | rfl | rfl | rfl
  · exact plain_digits o (by decide +kernel) (by decide +kernel) (by decide +kernel)
  · exact plain_digits o (by rw [four_len]; decide) (by rw [four_len]; decide) (dig f1 (by rw [four_toList]; rfl))
  · exact plain_digits o (by rw [two_len]; decide) (by rw [two_len]; decide) (dig f2 (by rw [two_toList]; rfl))
  · exact plain_digits o (by rw [two_len]; decide) (by rw [two_len]; decide) (dig f3 (by rw [two_toList]; rfl))
  · exact plain_digits o (by rw [hms_len]; decide) (by rw [hms_len]; decide) (by
      rw [hms_list, two_toList]
      intro q
      have q' : 48 + (h % 10).toNat = 46 := by simpa using q
      omega)
  · exact plain_digits o (by rw [ock_len]; decide) (by rw [ock_len]; decide) (by rw [ock_list]; simp)
end

section
variable {y mo d h mi s n : Int}
def foldN (y mo d h mi s : Int) : Str := Str.ofString "/mail" ++ (Str.ofString "/" ++ four y) ++ (Str.ofString "/" ++ two mo) ++ (Str.ofString "/" ++ two d) ++ (Str.ofString "/" ++ hmsN h mi s)
def fullN (y mo d h mi s n : Int) : Str := foldN y mo d h mi s ++ (Str.ofString "/" ++ nameN n)
def normP (y mo d h mi s n : Int) : List Str := [Str.ofString "mail", four y, two mo, two d, hmsN h mi s, Str.ofString ".", Str.ofString "x", Str.ofString "", Str.ofString "..", ockN n]
theorem name_list (n : Int) : (nameN n).cps.toList = [46, 47, 120, 47, 47, 46, 46, 47, 111, 39, 99, 108, 111, 99, 107, 39] ++ (two n).cps.toList := by
  unfold nameN
  rw [toList_app, lit_list "./x//../o'clock'" [46, 47, 120, 47, 47, 46, 46, 47, 111, 39, 99, 108, 111, 99, 107, 39]]
theorem name_len (n : Int) : (nameN n).length = 18 := by
  unfold nameN
  rw [Str.length_append, ofString_len "./x//../o'clock'" 16, two_len]
theorem full_list : (fullN y mo d h mi s n).cps.toList = 47 :: glueL 47 ((normP y mo d h mi s n).map fun x => x.cps.toList) := by
  unfold fullN foldN normP
  simp only [toList_app, lit_list "/mail" [47, 109, 97, 105, 108], lit_list "/" [47], List.map_cons, List.map_nil, glueL, lit_list "mail" [109, 97, 105, 108], lit_list "" [], lit_list "." [46], lit_list "x" [120], lit_list ".." [46, 46], ock_list, name_list]
  simp
theorem fold_len : (foldN y mo d h mi s).length = 25 := by
  unfold foldN
  simp only [Str.length_append, ofString_len "/mail" 5, ofString_len "/" 1, four_len, two_len, hms_len]
theorem full_len : (fullN y mo d h mi s n).length = 44 := by
  unfold fullN
  simp only [Str.length_append, fold_len, ofString_len "/" 1, name_len]
theorem full_s1 : (Txt.slice (fullN y mo d h mi s n) none (some 1) == Str.ofString "/") = true := by
  rw [slice_none]
  have := slice_is (x := fullN y mo d h mi s n) (a := 0) (b := 1) (l := [47]) (by decide) (by rw [full_len]; decide) (by rw [full_list]; rfl)
  rw [slash, beq_iff_eq]
  exact this
theorem full_s2 : (Txt.slice (fullN y mo d h mi s n) (some 1) (some 2) == Str.ofString "/") = false := by
  have := slice_is (x := fullN y mo d h mi s n) (a := 1) (b := 2) (l := [109]) (by decide) (by rw [full_len]; decide) (by
    rw [full_list]
    unfold normP
    simp only [List.map_cons, List.map_nil, glueL, lit_list "mail" [109, 97, 105, 108]]
    rfl)
  rw [slash, beq_eq_false_iff_ne]
  have this' : Txt.slice (fullN y mo d h mi s n) (some 1) (some 2) = mkS [109] := this
  rw [this']
  decide +kernel
theorem normP_wayP : Str.ofString "/" ++ Txt.join (Str.ofString "/") [Str.ofString "mail", four y, two mo, two d, hmsN h mi s, ockN n] = wayN y mo d h mi s n := by
  apply eqOfL
  rw [way_list, toList_app, slash, join_toList]
  unfold wayP
  simp only [List.map_cons, List.map_nil, glueL, lit_list "" []]
  simp
theorem fold_ends (o : Ok y mo d h mi s n) : Txt.endswith (foldN y mo d h mi s) (Str.ofString "/") = false := by
  have h6 := o.s
  refine ends_slash (a := 48 + (s % 10).toNat) (r := (Str.ofString "/mail" ++ (Str.ofString "/" ++ four y) ++ (Str.ofString "/" ++ two mo) ++ (Str.ofString "/" ++ two d)).cps.toList ++ ([47] ++ ((two h).cps.toList ++ ([46] ++ ((two mi).cps.toList ++ ([46] ++ [48 + (s / 10).toNat])))))) ?_ (by omega)
  unfold foldN
  rw [toList_app, toList_app (Str.ofString "/") (hmsN h mi s), hms_list, lit_list "/" [47], two_toList s]
  simp
variable (o : Ok y mo d h mi s n)
include o
theorem full_parts : Txt.split (Txt.slice (fullN y mo d h mi s n) (some 1) none) (Str.ofString "/") = normP y mo d h mi s n := by
  have hl := full_len (y := y) (mo := mo) (d := d) (h := h) (mi := mi) (s := s) (n := n)
  have e : Txt.slice (fullN y mo d h mi s n) (some 1) none = mkS (glueL 47 ((normP y mo d h mi s n).map fun x => x.cps.toList)) := by
    rw [slice_end]
    refine slice_is (a := 1) (b := (fullN y mo d h mi s n).length) (by omega) (Nat.le_refl _) ?_
    have h2 : (fullN y mo d h mi s n).cps.toList.length = (fullN y mo d h mi s n).length := cps_len _
    rw [full_list] at h2 ⊢
    rw [List.drop_succ_cons, List.drop_zero]
    refine List.take_of_length_le ?_
    rw [List.length_cons] at h2
    omega
  rw [e, slash]
  obtain ⟨f1, f2, f3, _, _, _, _⟩ := figs o
  refine split_glued (by decide) (by unfold normP; simp) (fun p hp => ?_) rfl ?_
  · unfold normP at hp
    simp only [List.mem_cons, List.not_mem_nil, or_false] at hp
    rcases hp with rfl | rfl | rfl | rfl | rfl | rfl | rfl | rfl | rfl | rfl
    · decide +kernel
    · exact f1.no (by omega)
    · exact f2.no (by omega)
    · exact f3.no (by omega)
    · exact hms_no o (by omega)
    · decide +kernel
    · decide +kernel
    · decide +kernel
    · decide +kernel
    · exact ock_no o
  · show (glueL 47 ((normP y mo d h mi s n).map fun x => x.cps.toList)).toArray.size ≠ 0
    unfold normP
    simp [glueL]
theorem part_year : Part (four y) := by
  have h1 := o.y
  refine part_of (a := 48 + (y / 1000).toNat) (b := 48 + (y % 10).toNat) (r := _) (r' := [48 + (y / 1000).toNat, 48 + (y / 100 % 10).toNat, 48 + (y / 10 % 10).toNat]) rfl rfl (by omega) (by omega) (by rw [four_len]; decide)
omit o in
theorem part_two {k : Int} (hk : 0 ≤ k ∧ k < 100) : Part (two k) := part_of (a := 48 + (k / 10).toNat) (b := 48 + (k % 10).toNat) (r' := [48 + (k / 10).toNat]) rfl rfl (by omega) (by omega) (by rw [two_len]; decide)
theorem part_hms : Part (hmsN h mi s) := by
  have h4 := o.h; have h6 := o.s
  refine part_of (a := 48 + (h / 10).toNat) (b := 48 + (s % 10).toNat) (r := [48 + (h % 10).toNat] ++ ([46] ++ ((two mi).cps.toList ++ ([46] ++ (two s).cps.toList)))) (r' := (two h).cps.toList ++ ([46] ++ ((two mi).cps.toList ++ ([46] ++ [48 + (s / 10).toNat])))) ?_ ?_ (by omega) (by omega) (by rw [hms_len]; decide)
  · rw [hms_list, two_toList h]; rfl
  · rw [hms_list, two_toList s]; simp
theorem part_name : Part (nameN n) := by
  have h7 := o.n
  refine part_of (a := 46) (b := 48 + (n % 10).toNat) (r := [47, 120, 47, 47, 46, 46, 47, 111, 39, 99, 108, 111, 99, 107, 39] ++ (two n).cps.toList) (r' := [46, 47, 120, 47, 47, 46, 46, 47, 111, 39, 99, 108, 111, 99, 107, 39] ++ [48 + (n / 10).toNat]) ?_ ?_ (by decide) (by omega) (by rw [name_len]; decide)
  · rw [name_list]; rfl
  · rw [name_list, two_toList n]; simp
end
theorem find_month_nat : ∀ k < 12, Builtin.Str.occurrences (Str.ofString "JanFebMarAprMayJunJulAugSepOctNovDec") (moN ((k : Nat) + 1 : Int)) 0 (Str.ofString "JanFebMarAprMayJunJulAugSepOctNovDec").length 1 = [3 * k] := by decide +kernel
theorem find_month {mo : Int} (h : 1 ≤ mo ∧ mo ≤ 12) : ∃ k : Nat, Builtin.Str.occurrences (Str.ofString "JanFebMarAprMayJunJulAugSepOctNovDec") (moN mo) 0 (Str.ofString "JanFebMarAprMayJunJulAugSepOctNovDec").length 1 = [k] ∧ (k : Int) = 3 * (mo - 1) := by
  obtain ⟨k, e⟩ := Int.eq_ofNat_of_zero_le (show 0 ≤ mo - 1 by omega)
  obtain rfl : mo = (k : Int) + 1 := by omega
  exact ⟨3 * k, find_month_nat k (by omega), by omega⟩

end
theorem subL_of {l : List (Addr × Obj)} : ∀ {k : List (Addr × Obj)}, (∀ p ∈ k, p ∈ l) → SubL k l
  | [], _ => trivial
  | p :: r, h => And.intro (h p (.head _)) (subL_of fun q hq => h q (.tail _ hq))
section
variable {prog : Program} {w : World} {A : Around} {target : PySem.Expr} {I : Addr} {fp wr : List Addr} {n : Nat} {P Md : Nat → Value → Heap → Prop} {St : Nat → Heap → Prop}
/-- a walk, and what else stands -/
theorem turnsWith (W : KTurns prog w A target I fp wr n P Md St) (ts : List (Addr × Obj)) (hw : ∀ p ∈ ts, p.1 ∉ wr) : KTurns prog w A target I (fp ++ ts.map (·.1)) wr n (fun i v h => P i v h ∧ ∀ p ∈ ts, h.get? p.1 = some p.2) (fun i v h => Md i v h ∧ ∀ p ∈ ts, h.get? p.1 = some p.2) (fun i h => St i h ∧ ∀ p ∈ ts, h.get? p.1 = some p.2) where
  sub := fun b hb => List.mem_append_left _ (W.sub b hb)
  frame := fun i h h' st hk => ⟨W.frame i h h' st.1 fun b hb o e => hk b (List.mem_append_left _ hb) o e, fun p hp => hk p.1 (List.mem_append_right _ (List.mem_map_of_mem hp)) _ (st.2 p hp)⟩
  item := fun i s Q E hi st hQ => W.item i s Q E hi st.1 fun v h' tk hm hk => hQ v h' tk ⟨hm, fun p hp => hk _ _ (hw p hp) (st.2 p hp)⟩ hk
  go := fun i v s Q E hm hQ => W.go i v s Q E hm.1 fun h' hP st hk => hQ h' ⟨hP, fun p hp => hk _ _ (hw p hp) (hm.2 p hp)⟩ ⟨st, fun p hp => hk _ _ (hw p hp) (hm.2 p hp)⟩ hk
  done := fun s Q E st hQ => W.done s Q E st.1 hQ
end
section
variable {prog : Program} {w : World} {A : Around} {E : Value → Shared → Prop} {s : Shared} {cenv : Env}
/-- a pair unpacked into two names -/
theorem assignPair {x1 x2 : Str} {p1 p2 pos : Pos} {k : Nat} {T : Addr} {a b : Value} {m : Str → Option Value} {Q : Unit → Shared → Prop} (hh : A.handled = none) (hT : s.heap.IsTuple T #[a, b]) (hn : s.heap.Ns cenv.locals m)
    (h1 : cenv.kindOf x1 = some .local) (h2 : cenv.kindOf x2 = some .local) (hk : (cenv.scope.kind == .class || (cenv.scope.kind == .module && cenv.locals != cenv.globals)) = false) (hne : x1 ≠ x2)
    (hq : ∀ h' tk m₂, m₂ x1 = some a → m₂ x2 = some b → h'.Ns cenv.locals m₂ → Heap.ExtBut cenv.locals s.heap h' → Q () { s with heap := h', toks := tk }) : wpAny (model prog w) A (assign (.Tuple [.Name x1 p1, .Name x2 p2] k pos) cenv (.ref T)) Q E s := by
  refine wpAny_assign_Tuple hh hT rfl rfl fun h' he => ?_
  have hlt : cenv.locals < s.heap.objs.size := hn.lt
  have hn' : h'.Ns cenv.locals m := hn.at' fun o e => he _ o (Nat.ne_of_lt hlt) e
  have up : ∀ b o, s.heap.get? b = some o → h'.get? b = some o := fun b o e => he b o (Nat.ne_of_lt (Heap.lt_size e)) e
  show wpAny _ _ (assignInOrder [assign (.Name x1 p1) cenv, assign (.Name x2 p2) cenv] [a, b]) _ _ _
  unfold assignInOrder
  refine wpAny_bind (wpAny_holding (wpAny_assign_Name (wpAny_storeName_local h1 hn' (fun h2' hn2 hs2 => ?_) hk)))
  unfold assignInOrder
  refine wpAny_bind (wpAny_holding (wpAny_assign_Name (wpAny_storeName_local h2 hn2 (fun h3 hn3 hs3 => ?_) hk)))
  unfold assignInOrder
  refine wpAny_pure (hq h3 _ _ ?_ ?_ hn3 fun b o hb e => ?_)
  · show (if x1 = x2 then some b else if x1 = x1 then some a else m x1) = some a
    rw [if_neg hne, if_pos rfl]
  · show (if x2 = x2 then some b else _) = some b
    rw [if_pos rfl]
  · exact hs3.extBut b o hb (hs2.extBut b o hb (up b o e))
end

theorem range_small {a b : Int} (ha : 0 ≤ a ∧ a ≤ 1000) (hb : 0 ≤ b ∧ b ≤ 1000) : Builtin.Range.small a b 1 = true := by
  have f : ∀ x : Int, -2000 ≤ x ∧ x ≤ 2000 → Builtin.Range.rangeFitsLong x = true := fun x hx => by
    unfold Builtin.Range.rangeFitsLong
    simp
    omega
  have hs := rangeSize_nat a b
  unfold Builtin.Range.small
  rw [f a (by omega), f b (by omega), f 1 (by omega), hs, f _ (by omega)]
  simp only [Bool.and_self, Bool.true_and, show (1 : Int) > 0 from by decide, if_true]
  rw [f (b + (1 - 1)) (by omega), Bool.or_true]
section
variable {prog : Program} {w : World} {A : Around} {E : Value → Shared → Prop} {s : Shared} {env : Env} {h₀ : Heap} {body orelse : List Stmt} {Q : Flow → Shared → Prop} {m₀ : Str → Option Value} {news : List (Addr × Obj)} {x : Str} {px : Pos}
theorem pyRangeJ {J : Nat → (Str → Option Value) → List (Addr × Obj) → Prop} {r : Addr} {a b : Int} {t₀ u₀ v₀ : Tok} (hh : A.handled = none) (hr : IsRange s.heap r a b 1 t₀ u₀ v₀) (ha : 0 ≤ a ∧ a ≤ 1000) (hb : 0 ≤ b ∧ b ≤ 1000) (F : Fr h₀ env.locals s.heap m₀) (N : News h₀ env.locals s.heap news) (h0 : J 0 m₀ news)
    (turn : ∀ (i : Nat) t h tk m₁ news₁ I o, i < (b - a).toNat → J i m₁ news₁ → Fr h₀ env.locals h m₁ → o.cls = .type "range_iterator" → News h₀ env.locals h ((I, o) :: news₁) → (∀ p ∈ news₁, p.1 ≠ I) →
      wpAny (model prog w) A (assign (.Name x px) env (.int (a + i) t)) (fun _ s₂ => wpAny (model prog w) A (execs body env) (UnrPostW h₀ env.locals { s with heap := h, toks := tk } [(I, o)] (fun m' n' => SubL [] n' ∧ J (i + 1) m' n') Q) E s₂) E { s with heap := h, toks := tk })
    (done : ∀ h tk m' news', Fr h₀ env.locals h m' → News h₀ env.locals h news' → J (b - a).toNat m' news' → wpAny (model prog w) A (execs orelse env) Q E { s with heap := h, toks := tk })
    (hE : PassesOwn (model prog w) A env E) : wpAny (model prog w) A (pyIter (.ref r)) (fun it s₂ => TurnsJ prog w A h₀ env (.Name x px) body orelse Q E it s₂) E s := by
  refine wpAny_pyIter_range hr (range_small ha hb) ?_
  have hs := rangeSize_nat a b
  refine loopJ (tk0 := s.toks) (ws := [(s.heap.objs.size, "range_iterator")]) (keep := []) (J := J) (m₀ := m₀) (news := news) (KTurns.ofWalks (Walks.range hh s.heap.objs.size a 1 (b - a).toNat) fun i v s Q E st q => wpAny_pure q)
    (fun i h st => ?_) (fun c hc => ?_) (fun c hc => hc) (fun c hc => ?_) (fun p hp hI => ?_) ?_ (F.push _) (fun p hp => ⟨Heap.get?_push_of_some _ (N p hp).1, (N p hp).2⟩) trivial h0 ?_ ?_ hE
  · exact ⟨[(s.heap.objs.size, _)], ⟨⟨rfl, rfl⟩, trivial⟩, fun p hp => by rw [List.mem_singleton.mp hp]; exact st⟩
  · rw [List.mem_singleton.mp hc]
    exact newAddr F (Nat.le_refl _)
  · exact .inl (by simpa using hc)
  · exact absurd (Heap.lt_size (N p hp).1) ((List.mem_singleton.mp hI) ▸ Nat.lt_irrefl _)
  · show IsRangeIter _ _ _ _ _
    rw [hs]
    simpa using Heap.get?_push_size _ rfl
  · rintro i v h tk m₁ news₁ hi ⟨t, rfl⟩ hJ _ F₁ o ho
    refine AllObj.nil fun N₁ off => ?_
    have e : a + (i : Int) * 1 = a + i := by omega
    rw [e]
    exact turn i t h tk m₁ news₁ _ o hi hJ F₁ ho N₁ fun p hp => off p hp _ (List.mem_singleton.mpr rfl)
  · intro h tk m' news' F' N' _ hJ
    exact done h tk m' news' F' N' hJ
theorem pyRange1L {L : Addr} (hL : env.locals = L) {Jf : List (Addr × Obj) → Nat → (Str → Option Value) → List (Addr × Obj) → Prop} {r : Addr} {b : Int} {t₀ u₀ v₀ : Tok} (hh : A.handled = none) (hr : IsRange s.heap r 0 b 1 t₀ u₀ v₀) (hb : 0 ≤ b ∧ b ≤ 1000) (F : Fr h₀ L s.heap m₀) (N : News h₀ L s.heap news) (h0 : Jf news 0 m₀ news)
    (turn : ∀ (i : Nat) t h tk m₁ news₁ I o, i < b.toNat → Jf news i m₁ news₁ → Fr h₀ L h m₁ → o.cls = .type "range_iterator" → News h₀ L h ((I, o) :: news₁) → (∀ p ∈ news₁, p.1 ≠ I) →
      wpAny (model prog w) A (assign (.Name x px) env (.int (i : Int) t)) (fun _ s₂ => wpAny (model prog w) A (execs body env) (UnrPostW h₀ L { s with heap := h, toks := tk } [(I, o)] (fun m' n' => SubL [] n' ∧ Jf news (i + 1) m' n') Q) E s₂) E { s with heap := h, toks := tk })
    (done : ∀ h tk m' news', Fr h₀ L h m' → News h₀ L h news' → Jf news b.toNat m' news' → wpAny (model prog w) A (execs orelse env) Q E { s with heap := h, toks := tk })
    (hE : PassesOwn (model prog w) A env E) : wpAny (model prog w) A (pyIter (.ref r)) (fun it s₂ => TurnsJ prog w A h₀ env (.Name x px) body orelse Q E it s₂) E s := by
  subst hL
  have e : (b - 0).toNat = b.toNat := by omega
  refine pyRangeJ (J := Jf news) hh hr (by decide) hb F N h0 (fun i t h tk m₁ news₁ I o hi => ?_) (fun h tk m' news' a b' c => done h tk m' news' a b' (e ▸ c)) hE
  rw [Int.zero_add]
  exact turn i t h tk m₁ news₁ I o (by omega)
theorem pyRange1M {L : Addr} (hL : env.locals = L) {Jf : List (Addr × Obj) → (Str → Option Value) → Nat → (Str → Option Value) → List (Addr × Obj) → Prop} {r : Addr} {b : Int} {t₀ u₀ v₀ : Tok} (hh : A.handled = none) (hr : IsRange s.heap r 0 b 1 t₀ u₀ v₀) (hb : 0 ≤ b ∧ b ≤ 1000) (F : Fr h₀ L s.heap m₀) (N : News h₀ L s.heap news) (h0 : Jf news m₀ 0 m₀ news)
    (turn : ∀ (i : Nat) t h tk m₁ news₁ I o, i < b.toNat → Jf news m₀ i m₁ news₁ → Fr h₀ L h m₁ → o.cls = .type "range_iterator" → News h₀ L h ((I, o) :: news₁) → (∀ p ∈ news₁, p.1 ≠ I) →
      wpAny (model prog w) A (assign (.Name x px) env (.int (i : Int) t)) (fun _ s₂ => wpAny (model prog w) A (execs body env) (UnrPostW h₀ L { s with heap := h, toks := tk } [(I, o)] (fun m' n' => SubL [] n' ∧ Jf news m₀ (i + 1) m' n') Q) E s₂) E { s with heap := h, toks := tk })
    (done : ∀ h tk m' news', Fr h₀ L h m' → News h₀ L h news' → Jf news m₀ b.toNat m' news' → wpAny (model prog w) A (execs orelse env) Q E { s with heap := h, toks := tk })
    (hE : PassesOwn (model prog w) A env E) : wpAny (model prog w) A (pyIter (.ref r)) (fun it s₂ => TurnsJ prog w A h₀ env (.Name x px) body orelse Q E it s₂) E s := by
  subst hL
  have e : (b - 0).toNat = b.toNat := by omega
  refine pyRangeJ (J := Jf news m₀) hh hr (by decide) hb F N h0 (fun i t h tk m₁ news₁ I o hi => ?_) (fun h tk m' news' a b' c => done h tk m' news' a b' (e ▸ c)) hE
  rw [Int.zero_add]
  exact turn i t h tk m₁ news₁ I o (by omega)
end

section
local macro_rules | `(tactic| omega) => `(tactic| lia)
/-- a letter: its moment, its number, its mode -/
structure Let where
  y : Int
  mo : Int
  d : Int
  h : Int
  mi : Int
  s : Int
  n : Int
  m : Int
def Let.way (l : Let) : Str := wayN l.y l.mo l.d l.h l.mi l.s l.n
def Let.row (l : Let) : Str := rowN l.m
def Let.parts (l : Let) : List Str := wayP l.y l.mo l.d l.h l.mi l.s l.n
abbrev Let.Ok (l : Let) : Prop := Mine.Ok l.y l.mo l.d l.h l.mi l.s l.n
/-- the first k parts of its path -/
def pathL (l : Let) (k : Nat) : List Nat := (l.parts.take k).flatMap fun p => 47 :: p.cps.toList
def pathT (l : Let) (k : Nat) : Str := mkS (pathL l k)
theorem Let.parts_len (l : Let) : l.parts.length = 6 := rfl
theorem glue_flat {c : Nat} : ∀ (ps : List (List Nat)), ps ≠ [] → c :: glueL c ps = ps.flatMap fun p => c :: p
  | [], h => absurd rfl h
  | [p], _ => by simp [glueL]
  | p :: q :: r, _ => by
    rw [List.flatMap_cons, ← glue_flat (q :: r) (List.cons_ne_nil _ _), glueL]
    rfl
theorem way_path (l : Let) : l.way.cps.toList = pathL l 6 := by
  unfold Let.way pathL
  rw [way_list, List.take_of_length_le (Nat.le_of_eq l.parts_len)]
  show [] ++ 47 :: glueL 47 (l.parts.map fun x => x.cps.toList) = _
  rw [List.nil_append, glue_flat _ (by unfold Let.parts wayP; simp), List.flatMap_map]
theorem way_is (l : Let) : l.way = pathT l 6 := by
  apply eqOfL
  rw [way_path]
  rfl
theorem pathL_succ (l : Let) {k : Nat} {p : Str} (hp : l.parts[k]? = some p) : pathL l (k + 1) = pathL l k ++ 47 :: p.cps.toList := by
  unfold pathL
  rw [List.take_add_one, hp, List.flatMap_append]
  simp
theorem part_at (l : Let) {k : Nat} (hk : k < 6) : ∃ p, l.parts[k]? = some p ∧ p ∈ l.parts := ⟨l.parts[k]'hk, List.getElem?_eq_getElem hk, List.getElem_mem hk⟩
theorem pathL_end (l : Let) (o : l.Ok) {k : Nat} (hk : k < 6) : ∃ q a, pathL l (k + 1) = q ++ [a] ∧ a ≠ 47 := by
  obtain ⟨p, hp, hm⟩ := part_at l hk
  have hne := (wayP_plain o p hm).ne
  have hno := wayP_no o p hm
  rw [pathL_succ l hp]
  have hl : p.cps.toList ≠ [] := fun e => hne (by rw [← cps_len, e]; rfl)
  refine ⟨pathL l k ++ 47 :: p.cps.toList.dropLast, p.cps.toList.getLast hl, ?_, fun e => hno (by rw [← e]; exact List.getLast_mem hl)⟩
  conv => lhs; rw [← List.dropLast_concat_getLast hl]
  simp
theorem pathL_len (l : Let) (k : Nat) : (pathL l k).length ≤ 36 := by
  have h6 : (pathL l 6).length = 36 := by
    rw [← way_path, cps_len]
    exact wayN_len
  have : ∀ (j : Nat) (ps : List Str), ((ps.take j).flatMap fun p => 47 :: p.cps.toList).length ≤ (ps.flatMap fun p => 47 :: p.cps.toList).length := by
    intro j ps
    induction ps generalizing j with
    | nil => simp
    | cons p r ih =>
      cases j with
      | zero => simp
      | succ j =>
        have := ih j
        rw [List.take_succ_cons, List.flatMap_cons, List.flatMap_cons, List.length_append, List.length_append]
        omega
  have h := this k l.parts
  have e : (l.parts.flatMap fun p => 47 :: p.cps.toList) = pathL l 6 := by
    unfold pathL
    rw [List.take_of_length_le (Nat.le_of_eq l.parts_len)]
  rw [e, h6] at h
  exact h
theorem pathT_len (l : Let) (k : Nat) : (pathT l k).length ≤ 36 := by
  show (pathL l k).toArray.size ≤ 36
  rw [List.size_toArray]
  exact pathL_len l k
/-- dirname takes the last part -/
theorem dir_path {w : World} (l : Let) (o : l.Ok) {k : Nat} (h0 : 0 < k) (hk : k < 6) (t : Tok) : SpecS 2 w 143 [.str (pathT l (k + 1)) t] [] (pathT l k) (pathT l (k + 1)).length := by
  obtain ⟨p, hp, hm⟩ := part_at l hk
  obtain ⟨j, rfl⟩ : ∃ j, k = j + 1 := ⟨k - 1, by omega⟩
  obtain ⟨q, a, e1, e2⟩ := pathL_end l o (k := j) (by omega)
  have hne := (wayP_plain o p hm).ne
  exact dirname_is (Nat.le_trans (pathT_len l _) (by decide)) (pathL_succ l hp) (wayP_no o p hm) (fun e => hne (by rw [← cps_len, e]; rfl)) e1 e2
theorem path_split (l : Let) (o : l.Ok) {k : Nat} (h0 : 0 < k) (hk : k ≤ 6) : Txt.split (pathT l k) (Str.ofString "/") = Str.ofString "" :: l.parts.take k := by
  have hne : l.parts.take k ≠ [] := by
    intro e
    have := congrArg List.length e
    rw [List.length_take, l.parts_len] at this
    simp at this
    omega
  rw [slash]
  refine split_glued (by decide) (by simp) (fun p hp => ?_) ?_ ?_
  · rcases List.mem_cons.mp hp with rfl | hp
    · decide +kernel
    · exact wayP_no o p (List.mem_of_mem_take hp)
  · show pathL l k = glueL 47 (([] : List Nat) :: (l.parts.take k).map fun x => x.cps.toList)
    unfold pathL
    cases e : l.parts.take k with
    | nil => exact absurd e hne
    | cons p r =>
      rw [List.map_cons]
      show _ = [] ++ 47 :: glueL 47 (p.cps.toList :: r.map fun x => x.cps.toList)
      rw [List.nil_append, glue_flat _ (List.cons_ne_nil _ _), ← List.map_cons (f := fun x : Str => x.cps.toList), List.flatMap_map]
  · show (pathL l k).toArray.size ≠ 0
    rw [List.size_toArray]
    obtain ⟨j, rfl⟩ : ∃ j, k = j + 1 := ⟨k - 1, by omega⟩
    obtain ⟨q, a, e1, _⟩ := pathL_end l o (k := j) (by omega)
    rw [e1]
    simp
theorem path_starts (l : Let) (o : l.Ok) {k : Nat} (h0 : 0 < k) : Txt.startswith (pathT l k) (Str.ofString "/") = true := by
  obtain ⟨j, rfl⟩ : ∃ j, k = j + 1 := ⟨k - 1, by omega⟩
  refine starts_slash' (r := (Str.ofString "mail").cps.toList ++ (([four l.y, two l.mo, two l.d, hmsN l.h l.mi l.s, ockN l.n].take j).flatMap fun p => 47 :: p.cps.toList)) ?_
  show pathL l (j + 1) = _
  unfold pathL Let.parts wayP
  rw [List.take_succ_cons, List.flatMap_cons]
  rfl
theorem path_wt (l : Let) (k : Nat) : wt (l.parts.take k) ≤ 20000 := by
  refine Nat.le_trans (wt_take _ _) ?_
  unfold Let.parts wayP wt
  simp only [List.map_cons, List.map_nil, List.sum_cons, List.sum_nil, List.length_cons, List.length_nil, four_len, two_len, hms_len, ock_len, ofString_len "mail" 4]
  decide

end
section
variable {prog : Program} {w : World} {A : Around} {E : Value → Shared → Prop} {s : Shared} {h₀ : Heap} {L : Addr} {m : Str → Option Value} {env : Env} {elt iter : PySem.Expr} {ifs : List PySem.Expr} {scope : Scope} {pos : Pos} {cl : List (Str × Addr)}
/-- over a list that stood before the call, whose items are pairs that stood too -/
theorem compBaseP {x1 x2 : Str} {p1 p2 tp : Pos} {tk' : Nat} {ax : Addr} {news : List (Addr × Obj)} {RR : Value → Addr → Result → Shared → Prop} {vs : List Value} {nn : Nat} (K : Nat → List Value → Prop) (ts : List (Addr × Obj)) (hh : A.handled = none) (hm : h₀.get? ax = some (listO vs.toArray nn)) (hts : ∀ p ∈ ts, h₀.get? p.1 = some p.2)
    (hp : ∀ (i : Nat) (v : Value), vs[i]? = some v → ∃ T k a b, v = .ref T ∧ (T, tupleO #[a, b] k) ∈ ts) (hn : vs.length ≤ sizeLine) (F : Fr h₀ L s.heap m) (N : News h₀ L s.heap news) (h0 : K 0 []) (hcell : ∀ y ∈ scope.names, y.2 ≠ .cell) (hkind : scope.kind = .function)
    (hx1 : ∀ C, (compEnvC scope cl C env).kindOf x1 = some .local) (hx2 : ∀ C, (compEnvC scope cl C env).kindOf x2 = some .local) (hne : x1 ≠ x2) (hsk : ∀ C, ((compEnvC scope cl C env).scope.kind == .class || ((compEnvC scope cl C env).scope.kind == .module && (compEnvC scope cl C env).locals != (compEnvC scope cl C env).globals)) = false)
    (turn : ∀ (i : Nat) T k a b ys I C D oI oC m₂ h tk (E' : Value → Shared → Prop), vs[i]? = some (.ref T) → (T, tupleO #[a, b] k) ∈ ts → K i ys → m₂ x1 = some a → m₂ x2 = some b → LCg.NsObj oC m₂ → Fr h₀ L h m → News h₀ L h ((I, oI) :: (C, oC) :: (D, LCg.lst ys) :: news) →
      wpAny (model prog w) A (testsOf ifs (compEnvC scope cl C env)) (fun ok s₃ => if ok = true then wpAny (model prog w) A (eval elt (compEnvC scope cl C env)) (fun y s₄ => (∃ tk2, s₄ = { s with heap := h, toks := tk2 }) ∧ K (i + 1) (ys ++ [y])) E' s₃
        else (∃ tk2, s₃ = { s with heap := h, toks := tk2 }) ∧ K (i + 1) ys) E' { s with heap := h, toks := tk })
    (done : ∀ D C h tk m' ys, Fr h₀ L h m → News h₀ L h ((D, LCg.lst ys) :: news) → (∀ p ∈ news, p.1 ≠ D) → h.Ns C m' → h₀.get? C = none → C ≠ L → C ≠ D → (∀ p ∈ news, p.1 ≠ C) → K vs.length ys → RR (.ref D) C (.ok .next) { s with heap := h, toks := tk }) :
    wpAny (model prog w) A (pyIter (.ref ax)) (CompAt prog w A env cl scope elt (.Tuple [.Name x1 p1, .Name x2 p2] tk' tp) iter ifs pos E RR) E s := by
  have hax := F.keep _ _ hm
  have hl : s.heap.IsList ax vs.toArray := ⟨_, hax, rfl, nn, rfl⟩
  have hlt : ax < s.heap.objs.size := Heap.lt_size hax
  have hne' : ax ≠ s.heap.objs.size := Nat.ne_of_lt hlt
  have tlt : ∀ p ∈ ts, p.1 < s.heap.objs.size := fun p hp => Heap.lt_size (F.keep _ _ (hts p hp))
  refine wpAny_pyIter_list hl ?_
  show wpAny _ _ _ _ _ _
  refine compJ (ws := [(s.heap.objs.size, "list_iterator")]) (keep := []) (n := vs.toArray.size) (AccIs := fun ys o => o = LCg.lst ys) (J := fun i ys nw => nw = news ∧ K i ys) (Got := fun i m₂ => ∃ T k a b, vs[i]? = some (.ref T) ∧ (T, tupleO #[a, b] k) ∈ ts ∧ m₂ x1 = some a ∧ m₂ x2 = some b) (s₂ := { s with heap := s.heap.push { cls := .type "list_iterator", data := .fields #[.ref ax, .int 0 0] } })
    loopRuleL startRuleL newListAcc (fun i ys y nw s D o Q E _ hD ho hl h => addList (n := vs.toArray.size) (by simpa using hn) ys y s D o Q E hD ho hl h) (turnsWith (KTurns.ofWalks (Walks.list hh s.heap.objs.size ax hne' vs.toArray) fun i v s Q E st q => letGo_listiter st.1 q) ts fun p hp q => absurd (tlt p hp) (by rw [List.mem_singleton.mp q]; exact Nat.lt_irrefl _)) (fun i s Q E st q => wpAny_pyIter_listiter st.1.1 q)
    (fun i h st => ?_) (fun b hb => ?_) (fun b hb => hb) (fun b hb => ?_) (fun b hb => ?_) (fun b hb => ?_) (fun p hp hI => ?_) ⟨⟨⟨_, Heap.get?_push_size _ rfl, rfl, rfl⟩, hl.at fun o e => Heap.get?_push_of_some _ e⟩, fun p hp => Heap.get?_push_of_some _ (F.keep _ _ (hts p hp))⟩ (fun C => ?_) (F.push _) (fun p hp => ⟨Heap.get?_push_of_some _ (N p hp).1, (N p hp).2⟩) trivial ⟨rfl, h0⟩ hcell hkind ?_ ?_
  · obtain ⟨it, hit, hic, _⟩ := st.1.1
    exact ⟨[(s.heap.objs.size, it)], ⟨⟨rfl, hic⟩, trivial⟩, fun p hp => by rw [List.mem_singleton.mp hp]; exact hit⟩
  · rw [List.mem_singleton.mp hb]
    exact newAddr F (Nat.le_refl _)
  · show b < (s.heap.push _).objs.size
    rw [Heap.size_push]
    rcases List.mem_append.mp hb with hb | hb
    · rcases List.mem_cons.mp hb with rfl | hb
      · exact Nat.lt_succ_self _
      · rw [List.mem_singleton.mp hb]; exact Nat.lt_succ_of_lt hlt
    · obtain ⟨p, hp, rfl⟩ := List.mem_map.mp hb
      exact Nat.lt_succ_of_lt (tlt p hp)
  · rw [List.mem_singleton.mp hb]; exact .head _
  · rcases List.mem_append.mp hb with hb | hb
    · rcases List.mem_cons.mp hb with e | hb
      · exact .inl (by simp [e])
      · rw [List.mem_singleton.mp hb]
        exact .inr (.inl ⟨_, hm⟩)
    · obtain ⟨p, hp, rfl⟩ := List.mem_map.mp hb
      exact .inr (.inl ⟨p.2, hts p hp⟩)
  · exact absurd (Heap.lt_size (N p hp).1) ((List.mem_singleton.mp hI) ▸ Nat.lt_irrefl _)
  · rintro i v s' Q' E' m' ⟨hP, hts'⟩ hn' hq
    have hv : vs[i]? = some v := by simpa using hP
    obtain ⟨T, k, a, b, rfl, hT⟩ := hp i v hv
    exact assignPair hh ⟨_, hts' _ hT, rfl, k, rfl⟩ hn' (hx1 C) (hx2 C) (hsk C) hne fun h' tk m₂ e1 e2 hn2 hs2 => hq h' tk m₂ ⟨T, k, a, b, hv, hT, e1, e2⟩ hn2 hs2
  · rintro i ys C D oC oD m₂ h tk news₁ E' hi ⟨rfl, hK⟩ hyl hk ⟨T, k, a, b, hv, hT, e1, e2⟩ hoC rfl F₁ hCD o ho
    refine AllObj.nil fun N₁ off offI => ?_
    refine wpAny_mono (turn i T k a b ys _ C D o oC m₂ h tk E' hv hT hK e1 e2 hoC F₁ N₁) (fun ok s₃ q => ?_) fun _ _ e => e
    cases ok with
    | false =>
      simp only [Bool.false_eq_true, if_false] at q ⊢
      obtain ⟨⟨tk2, rfl⟩, hK'⟩ := q
      exact ⟨h, tk2, news₁, F₁, N₁, off, hk, rfl, hK'⟩
    | true =>
      simp only [if_true] at q ⊢
      refine wpAny_mono q (fun y s₄ q => ?_) fun _ _ e => e
      obtain ⟨⟨tk2, rfl⟩, hK'⟩ := q
      exact ⟨h, tk2, news₁, F₁, N₁, off, hk, rfl, hK'⟩
  · intro D C h tk m' ys oD news' F' N' ho off hn' hC₀ hD₀ hCL hDL hCD offC hk hJ
    subst ho
    obtain ⟨rfl, hK⟩ := hJ
    exact done D C h tk m' ys F' N' off hn' hC₀ hCL hCD offC (by simpa using hK)
end
/-- a contract that reads what stands: fz -/
def SpecF (d : Nat) (w : World) (f : Addr) (vs : List Value) (fz : List (Addr × Obj)) (Res : Value → List (Addr × Obj) → Prop) : Prop :=
  ∀ (mean : ExcName → Option Value) (mg mb : Str → Option Value) (dp un : Nat) (gd : Option (List Code)) (cn : Str) (cs : Scope) (a : Addr) (ccd : Value) (cl : List (Str × Addr)) (outer : List Env) (A₀ : Around) (base h₀ : Heap) (L : Addr) (m : Str → Option Value) (s : Shared) (Q E : Value → Shared → Prop),
    Below A₀ base outer h₀ → Fr h₀ L s.heap m → (hd.heap_1 w.params).In h₀ → News h₀ L s.heap [] → Top hd.view_1 [Str.ofString "_filemode_table"] mean mg mb h₀ → cs.kind = .function → dp + d < recursionLimit → un + 8 * d < cLine →
    (∀ p ∈ fz, s.heap.get? p.1 = some p.2) →
    (∀ (r : Value) (tl : List (Addr × Obj)) (h' : Heap) (tk' : Nat), (∀ b o, s.heap.get? b = some o → h'.get? b = some o) → (∀ p ∈ tl, h'.get? p.1 = some p.2 ∧ s.heap.get? p.1 = none) → Res r tl → Q r { s with heap := h', toks := tk' }) →
    wpAny (model PySem.Challenge.rw_qw0054_01.row.prog w) (ktrTop dp un gd cn cs L a ccd cl outer) (call (.ref f) vs) Q E s
theorem SpecF.use {d : Nat} {w : World} {f : Addr} {vs : List Value} {fz news : List (Addr × Obj)} {Res : Value → List (Addr × Obj) → Prop} (C : SpecF d w f vs fz Res)
    {mean : ExcName → Option Value} {mg mb : Str → Option Value} {dp un : Nat} {gd : Option (List Code)} {cn : Str} {cs : Scope} {a : Addr} {ccd : Value} {cl : List (Str × Addr)} {outer : List Env} {A₀ : Around} {base h₀ : Heap} {L : Addr} {m : Str → Option Value} {s : Shared} {Q E : Value → Shared → Prop}
    (B : Below A₀ base outer h₀) (F : Fr h₀ L s.heap m) (X : (hd.heap_1 w.params).In h₀) (N : News h₀ L s.heap news) (T : Top hd.view_1 [Str.ofString "_filemode_table"] mean mg mb h₀) (hk : cs.kind = .function) (hd : dp + d < recursionLimit) (hu : un + 8 * d < cLine) (ha : ∀ p ∈ fz, s.heap.get? p.1 = some p.2)
    (ret : ∀ (r : Value) (tl : List (Addr × Obj)) (h' : Heap) (tk' : Nat), Fr h₀ L h' m → News h₀ L h' (tl ++ news) → (∀ q ∈ news, ∀ p ∈ tl, q.1 ≠ p.1) → Res r tl → (∀ b o, s.heap.get? b = some o → h'.get? b = some o) → Q r { s with heap := h', toks := tk' }) :
    wpAny (model PySem.Challenge.rw_qw0054_01.row.prog w) (ktrTop dp un gd cn cs L a ccd cl outer) (call (.ref f) vs) Q E s :=
  C _ _ _ _ _ _ _ _ _ _ _ _ _ _ _ _ _ _ _ _ B F X (fun _ hp => nomatch hp) T hk hd hu ha fun r tl h' tk' k ht hr => ret r tl h' tk' (frKeep F k) (newsKeep F N k ht) (newsApart N ht) hr k

/-- what was filed: pairs of a way and a row -/
def FiledAre (vs : List Value) (ts : List (Addr × Obj)) (ls : List Let) : Prop :=
  vs.length = ls.length ∧ ∀ (i : Nat) (l : Let), ls[i]? = some l → ∃ T k t1 t2, vs[i]? = some (.ref T) ∧ (T, tupleO #[.str l.way t1, .str l.row t2] k) ∈ ts
def keep1 (lv : Int) (l : Let) : Bool := (Txt.item l.row 0 == Str.ofString "-") && (Txt.item l.row (3 * lv - 2) == Str.ofString "r")
def sameB (j : Nat) (l l' : Let) : Bool := Str.ofString "/" ++ Txt.join (Str.ofString "/") (comPre (l.parts.take j) (l'.parts.take 6)) == pathT l j
def keepAt (j : Nat) (sm : List Let) (k : Nat) : Bool := match sm[k]?, sm[k + 1]? with
  | some l, some l' => !(sameB j l l')
  | _, _ => true
def keptTo (j : Nat) (sm : List Let) : Nat → List Str
  | 0 => []
  | k + 1 => keptTo j sm k ++ (if keepAt j sm k then (sm[k]?.map Let.way).toList else [])
theorem FiledAre.pairs {vs : List Value} {ts : List (Addr × Obj)} {ls : List Let} (h : FiledAre vs ts ls) : ∀ (i : Nat) (v : Value), vs[i]? = some v → ∃ T k a b, v = .ref T ∧ (T, tupleO #[a, b] k) ∈ ts := by
  intro i v hv
  have hi := (List.getElem?_eq_some_iff.mp hv).1
  obtain ⟨T, k, t1, t2, h1, h2⟩ := h.2 i _ (List.getElem?_eq_getElem (h.1 ▸ hi))
  rw [hv] at h1
  exact ⟨T, k, _, _, Option.some.inj h1, h2⟩
theorem FiledAre.item {vs : List Value} {ts : List (Addr × Obj)} {ls : List Let} (h : FiledAre vs ts ls) {h₀ : Heap} (hts : ∀ p ∈ ts, h₀.get? p.1 = some p.2) {i : Nat} {T : Addr} {a b : Value} {k : Nat} (hv : vs[i]? = some (.ref T)) (hm : (T, tupleO #[a, b] k) ∈ ts) : ∃ l t1 t2, ls[i]? = some l ∧ a = .str l.way t1 ∧ b = .str l.row t2 := by
  have hi := (List.getElem?_eq_some_iff.mp hv).1
  obtain ⟨T', k', t1, t2, h1, h2⟩ := h.2 i _ (List.getElem?_eq_getElem (h.1 ▸ hi))
  rw [hv] at h1
  have e : T = T' := Value.ref.inj (Option.some.inj h1)
  subst e
  have e1 := hts _ hm
  have e2 := hts _ h2
  rw [e1] at e2
  have e3 := congrArg Obj.data (Option.some.inj e2)
  have e4 := (Data.seq.inj e3).1
  have e5 := congrArg Array.toList e4
  simp at e5
  exact ⟨_, t1, t2, List.getElem?_eq_getElem (h.1 ▸ hi), e5.1, e5.2⟩
def JS (lv : Int) (ls : List Let) (i : Nat) (ys : List Value) : Prop := StrsAre ys (((ls.take i).filter (keep1 lv)).map fun l => pathT l 6)
theorem JS.yes {lv : Int} {ls : List Let} {i : Nat} {ys : List Value} {l : Let} {t : Tok} (h : JS lv ls i ys) (hl : ls[i]? = some l) (hk : keep1 lv l = true) : JS lv ls (i + 1) (ys ++ [.str l.way t]) := by
  unfold JS at h ⊢
  rw [List.take_add_one, hl, List.filter_append, List.map_append]
  show StrsAre _ (_ ++ (([l].filter (keep1 lv)).map fun l => pathT l 6))
  rw [List.filter_cons_of_pos hk, way_is]
  exact strs_snoc h
theorem JS.no {lv : Int} {ls : List Let} {i : Nat} {ys : List Value} {l : Let} (h : JS lv ls i ys) (hl : ls[i]? = some l) (hk : ¬ keep1 lv l = true) : JS lv ls (i + 1) ys := by
  unfold JS at h ⊢
  rw [List.take_add_one, hl, List.filter_append, List.map_append]
  show StrsAre _ (_ ++ (([l].filter (keep1 lv)).map fun l => pathT l 6))
  rw [List.filter_cons_of_neg hk]
  simpa using h
section
variable {prog : Program} {w : World} {A : Around} {E : Value → Shared → Prop} {s : Shared} {Q : Value → Shared → Prop}
theorem eqB {x y : Str} {t u : Tok} (h1 : (x == y) = true → Q (.bool true) s) (h2 : (x == y) = false → Q (.bool false) s) : wpAny (model prog w) A (compareOp .Eq (.str x t) (.str y u)) Q E s := by
  refine PyProof.Rows.eq_str ?_
  cases e : (x == y) with
  | true => exact h1 e
  | false => exact h2 e
end
theorem JS.all {lv : Int} {ls : List Let} {vs ys : List Value} {ts : List (Addr × Obj)} (h : JS lv ls vs.length ys) (hf : FiledAre vs ts ls) : StrsAre ys ((ls.filter (keep1 lv)).map fun l => pathT l 6) := by
  unfold JS at h
  rw [hf.1, List.take_of_length_le (Nat.le_refl _)] at h
  exact h
/-- the loop over what is readable: what is kept so far -/
inductive JK (j : Nat) (sm : List Let) (S : Addr) (b : List (Addr × Obj)) (i : Nat) (m : Str → Option Value) : List (Addr × Obj) → Prop
  | mk (V : Array Value) (c : Nat) (hm1 : m (Str.ofString "some") = some (.ref S)) (hm2 : m (Str.ofString "kept") = some (.ref (b.headD (0, listO #[] 0)).1)) (hV : StrsAre V.toList (keptTo j sm i)) (hVz : V.size ≤ i) : JK j sm S b i m (((b.headD (0, listO #[] 0)).1, listO V c) :: b.tail)
/-- the loop upwards -/
inductive JU (l : Let) (b : List (Addr × Obj)) (m₀ : Str → Option Value) (i : Nat) (m : Str → Option Value) : List (Addr × Obj) → Prop
  | mk (t : Tok) (hm3 : m (Str.ofString "some") = m₀ (Str.ofString "some")) (hm4 : m (Str.ofString "kept") = m₀ (Str.ofString "kept")) (hm5 : m (Str.ofString "k") = m₀ (Str.ofString "k")) (hm6 : m (Str.ofString "folder") = some (.str (pathT l (5 - i)) t)) : JU l b m₀ i m b
theorem dir_pathE {w : World} (l : Let) (o : l.Ok) (a k : Nat) (e : a = k + 1) (h0 : 0 < k) (hk : k < 6) (t : Tok) : SpecS 2 w 143 [.str (pathT l a) t] [] (pathT l k) (pathT l a).length := by
  subst e
  exact dir_path l o h0 hk t
theorem common_pathE {w : World} (l l' : Let) (o : l.Ok) (o' : l'.Ok) (j : Nat) (h0 : 0 < j) (hj : j ≤ 6) (y : Str) (e : y = pathT l' 6) (tx ty : Tok) (n : Nat) (D : Addr) :
    SpecT 10 w 155 [.ref D] [(D, listO #[.str (pathT l j) tx, .str y ty] n)] (Str.ofString "/" ++ Txt.join (Str.ofString "/") (comPre (l.parts.take j) (l'.parts.take 6))) := by
  subst e
  have pl : ∀ (x : Let), x.Ok → ∀ k, ∀ a ∈ x.parts.take k, Plain a := fun x ox k a ha => wayP_plain ox a (List.mem_of_mem_take ha)
  have len : ∀ (x : Let) (k : Nat), (x.parts.take k).length ≤ 1000 := fun x k => Nat.le_trans (by rw [List.length_take]; exact Nat.min_le_right _ _) (by rw [x.parts_len]; decide)
  exact common_spec (pathT l j) (pathT l' 6) _ _ tx ty n D (Nat.le_trans (pathT_len _ _) (by decide)) (Nat.le_trans (pathT_len _ _) (by decide)) (path_starts l o h0) (path_starts l' o' (by decide)) (pl l o _) (pl l' o' _) (len _ _) (len _ _) (path_wt _ _) (path_wt _ _) (path_split l o h0 hj) (path_split l' o' (by decide) (Nat.le_refl _))
section
variable {prog : Program} {w : World} {A : Around} {E : Value → Shared → Prop} {s : Shared} {Q : Value → Shared → Prop} {h₀ : Heap} {L D : Addr} {news : List (Addr × Obj)}
theorem lenMap {W : Array Value} {n : Nat} {sm : List Let} {f : Let → Str} (N : News h₀ L s.heap news) (hm : (D, listO W n) ∈ news) (hS : StrsAre W.toList (sm.map f)) (hl : sm.length ≤ 60) (h : ∀ t tk, Q (.int (sm.length : Nat) t) { s with toks := tk }) : wpAny (model prog w) A (call (.builtin "len") [.ref D]) Q E s := by
  have e : W.size = sm.length := by
    have := hS.length
    rw [List.length_map, Array.length_toList] at this
    exact this
  refine PyProof.Rows.len_list ⟨_, (N _ hm).1, rfl, n, rfl⟩ (by rw [e]; omega) ?_
  rw [e]
  exact h _ _
end
theorem keptTo_yes {j : Nat} {sm : List Let} {i : Nat} {V : Array Value} {l : Let} {t : Tok} (h : StrsAre V.toList (keptTo j sm i)) (hl : sm[i]? = some l) (hk : keepAt j sm i = true) : StrsAre (V.push (.str (pathT l 6) t)).toList (keptTo j sm (i + 1)) := by
  show StrsAre _ (_ ++ _)
  rw [if_pos hk, hl, Array.toList_push]
  show StrsAre _ (_ ++ [l.way])
  rw [way_is]
  exact strs_snoc h
theorem keptTo_no {j : Nat} {sm : List Let} {i : Nat} {V : Array Value} (h : StrsAre V.toList (keptTo j sm i)) (hk : keepAt j sm i = false) : StrsAre V.toList (keptTo j sm (i + 1)) := by
  show StrsAre _ (_ ++ _)
  rw [if_neg (by rw [hk]; decide), List.append_nil]
  exact h
theorem keepAt_last {j : Nat} {sm : List Let} {i : Nat} (h : ¬ i + 1 < sm.length) : keepAt j sm i = true := by
  unfold keepAt
  rw [List.getElem?_eq_none (Nat.le_of_not_lt h)]
  cases sm[i]? <;> rfl
theorem keepAt_at {j : Nat} {sm : List Let} {i : Nat} {l l' : Let} (h : sm[i]? = some l) (h' : sm[i + 1]? = some l') : keepAt j sm i = !(sameB j l l') := by
  unfold keepAt
  rw [h, h']
theorem sameB_ne {j : Nat} {l l' : Let} (h : (Str.ofString "/" ++ Txt.join (Str.ofString "/") (comPre (l.parts.take j) (l'.parts.take 6)) == pathT l j) = false) : (!(sameB j l l')) = true := by
  unfold sameB
  rw [h]; rfl
theorem sameB_eq {j : Nat} {l l' : Let} (h : Str.ofString "/" ++ Txt.join (Str.ofString "/") (comPre (l.parts.take j) (l'.parts.take 6)) = pathT l j) : (!(sameB j l l')) = false := by
  unfold sameB
  rw [h, beq_self_eq_true]; rfl
theorem apOf {g h : Heap} {L I l b D : Addr} {o o1 o2 o3 : Obj} (N : News g L h [(I, o), (l, o1), (D, o2), (b, o3)]) (e : D < l ∧ b < l) : ∀ p ∈ [(D, o2), (b, o3)], p.1 ≠ l := by
  intro p hp
  rcases List.mem_cons.mp hp with rfl | hp
  · exact Nat.ne_of_lt e.1
  · rw [List.mem_singleton.mp hp]
    exact Nat.ne_of_lt e.2
theorem offSwap {I l : Addr} {o o' : Obj} {r : List (Addr × Obj)} (h : ∀ p ∈ (l, o) :: r, p.1 ≠ I) : ∀ p ∈ (l, o') :: r, p.1 ≠ I := by
  intro p hp
  rcases List.mem_cons.mp hp with rfl | hp
  · exact h (l, o) (.head _)
  · exact h _ (.tail _ hp)
section
variable {prog : Program} {w : World} {A : Around} {E : Value → Shared → Prop} {s : Shared} {h₀ : Heap} {L : Addr} {m : Str → Option Value}
theorem appSecond {D I : Addr} {o : Obj} {its : Array Value} {n : Nat} {x : Value} {rest : List (Addr × Obj)} {Q : Value → Shared → Prop}
    (F : Fr h₀ L s.heap m) (N : News h₀ L s.heap ((I, o) :: (D, listO its n) :: rest)) (h1 : ∀ p ∈ (D, listO its n) :: rest, p.1 ≠ I) (hap : ∀ p ∈ rest, p.1 ≠ D) (hsz : its.size ≤ sizeLine)
    (h : ∀ h', Fr h₀ L h' m → News h₀ L h' ((I, o) :: (D, listO (its.push x) (n + 1)) :: rest) → Q .none { s with heap := h' }) :
    wpAny (model prog w) A (call (.builtin "list.append") [.ref D, x]) Q E s := append_second F N (fun e => h1 _ (.head _) e.symm) hap h hsz
theorem newsTail {p : Addr × Obj} {news : List (Addr × Obj)} {h : Heap} (N : News h₀ L h (p :: news)) : News h₀ L h news := fun q hq => N q (.tail _ hq)
end
theorem row_len (n : Int) : (rowN n).length = 10 := rfl
section
theorem kept_spec {w : World} (lv : Int) (tl : Tok) (hlv : 1 ≤ lv ∧ lv ≤ 3) (ls : List Let) (hls : ∀ l ∈ ls, l.Ok) (hn : ls.length ≤ 60) (Df : Addr) (vs : List Value) (nn : Nat) (ts : List (Addr × Obj)) (hfs : FiledAre vs ts ls) :
    SpecF 20 w 261 [.ref Df, .int lv tl] ((Df, listO vs.toArray nn) :: ts) (fun r tl => ∃ D V k, r = .ref D ∧ tl = [(D, listO V k)] ∧ StrsAre V.toList (keptTo (lv + 1).toNat (ls.filter (keep1 lv)) (ls.filter (keep1 lv)).length)) := by
  k_with_none
  w_top off
  k_with "my sub" => (first | exact List.forall_mem_nil _ | (refine' List.forall_mem_cons.mpr ⟨?a_r4, ?b_r4⟩; (case a_r4 => k_mem); (case b_r4 => walk_at "my sub")))
  k_with "my nes" => (first | exact List.forall_mem_nil _ | (refine' List.forall_mem_cons.mpr ⟨?a_r5, ?b_r5⟩; (case a_r5 => (dsimp only; omega)); (case b_r5 => walk_at "my nes")))
  k_with "my keep" => (exact keepZ (by assumption) (by assumption) (by assumption) (by assumption) (by walk_at "my sub"))
  k_with "my fresh" => (exact freshZ (by assumption) (by assumption) (by k_mem) (by walk_at "my nes"))
  k_with "my use" => (((case b1 => k_asm); (case f1 => k_asm); (case x1 => k_asm); (case n1 => k_asm); (case t1 => k_asm); (case kk => first | exact rfl | assumption); (case hd => first | exact room1 (by with_reducible assumption) rfl | omega | ((try dsimp only [A9]); (try dsimp only [Around.deeper]); omega) | (trace_state; ktr_room)); (case hu => first | exact units1 (by with_reducible assumption) rfl | omega | ((try dsimp only [A9]); (try dsimp only [Around.deeper]); omega) | (trace_state; ktr_units)); (case ha => walk_at "my sub")))
  k_with "my ret1" => ((refine' ret1 (by assumption) ?r1_r12 ?r2_r12 ?r3_r12; (case r2_r12 => walk_at "my fresh"); (case r1_r12 => walk_at "my keep")))
  k_with "my len" => (first | with_reducible assumption | with_reducible exact Nat.le_of_eq (two_len _) | with_reducible exact Nat.le_of_eq (four_len _) | with_reducible exact Nat.le_of_eq (wdN_len (by assumption)) | with_reducible exact Nat.le_of_eq (moN_len (by assumption)) | with_reducible exact lit_len)
  k_with "my text" => (first | with_reducible exact slice_wd (by assumption) | with_reducible exact slice_mo (by assumption) | with_reducible exact zfill_four (by assumption) | with_reducible exact rfl)
  k_with "binaryOp Add str str" => ((k_here; (refine' add_strE ?e1_r15 ?e2_r15 ?a1_r15 ?a2_r15 ?a3_r15 ?_; (case e1_r15 => walk_at "my text"); (case e2_r15 => walk_at "my text"); (case a1_r15 => walk_at "my len"); (case a2_r15 => walk_at "my len"); (case a3_r15 => omega); intro t'm tk'm ln'm)))
  k_with "inplaceOp Add str str" => ((k_here; (refine' iadd_strE ?e1_r16 ?e2_r16 ?a1_r16 ?a2_r16 ?a3_r16 ?_; (case e1_r16 => walk_at "my text"); (case e2_r16 => walk_at "my text"); (case a1_r16 => walk_at "my len"); (case a2_r16 => walk_at "my len"); (case a3_r16 => omega); intro t'm tk'm ln'm)))
  k_with "my enteredD" => (((case kA => exact rfl); (case kF => exact rfl); (case kK => assumption); (case k1 => k_asm); (case k2 => k_asm); (case k3 => k_asm); (case k4 => k_asm); (case k5 => k_asm); (case k6 => k_is); (case k7 => k_is); (case k8 => ktr_room); (case k9 => exact BindsTo.of_eq rfl); (case kB => exact rfl); (case kD => decide +kernel); (case kL => intro _; exact rfl); (case kC => intro _; exact rfl); (case c2 => exact rfl); (case c3 => exact rfl); (case c4 => exact rfl); k_whole; intro g'm L'm h'm tk'm cells'm HG'm F'm N'm Y'm B'm X'm T'm l1m; (try k_lt l1m); k_cells Y'm; (try dsimp only [List.cons_append, List.nil_append] at N'm); (try dsimp only); (try k_lift B'm); (try k_unmd); (try k_fold); (try refine (let A9 := _; (?_ : PySem.wpAny _ A9 _ _ _ _))); (try refine (let e9 := _; (?_ : PySem.wpAny _ _ (PySem.execs _ e9) _ _ _)))))
  k_with "execs cons" => ((k_here; (try ((fail_if_success (fail_if_success k_fold)); (refine (let q8 := _; (?_ : PySem.wpAny _ _ _ q8 _ _))))); (with_reducible refine seqA ?_); (refine (let q8 := _; (?_ : PySem.wpAny _ _ _ q8 _ _))); (try ((with_reducible rename Fr _ _ _ (fun _ => _) => lF8); (refine (let lm8 := _; (fun (F' : Fr _ _ _ lm8) => ?_) lF8)); clear lF8))))
  k_with "execs cons" => ((k_here; k_gentoks))
  k_with "execs cons" => ((k_here; k_made; walk_at "execs cons"))
  k_with "eval Call" => ((k_here; (fail_if_success (fail_if_success k_fold)); (refine (let q8 := _; (?_ : PySem.wpAny _ _ _ q8 _ _)))))
  k_with "eval BinOp" => ((k_here; (fail_if_success (fail_if_success k_fold)); (refine (let q8 := _; (?_ : PySem.wpAny _ _ _ q8 _ _)))))
  k_with "eval Subscript" => ((k_here; (fail_if_success (fail_if_success k_fold)); (refine (let q8 := _; (?_ : PySem.wpAny _ _ _ q8 _ _)))))
  k_with "eval Tuple" => ((k_here; (fail_if_success (fail_if_success k_fold)); (refine (let q8 := _; (?_ : PySem.wpAny _ _ _ q8 _ _)))))
  k_with "eval List" => ((k_here; (fail_if_success (fail_if_success k_fold)); (refine (let q8 := _; (?_ : PySem.wpAny _ _ _ q8 _ _)))))
  k_with "eval Compare" => ((k_here; (fail_if_success (fail_if_success k_fold)); (refine (let q8 := _; (?_ : PySem.wpAny _ _ _ q8 _ _)))))
  k_with "call ref" => ((k_here; (fail_if_success (fail_if_success k_fold)); (refine (let q8 := _; (?_ : PySem.wpAny _ _ _ q8 _ _)))))
  k_with "callWith ref" => ((k_here; k_dflt (refine' callA1 ?k1_r37 ?k2_r37 ?_; (case k1_r37 => k_asm); (case k2_r37 => k_is); k_whole)))
  k_with "callWith ref" => ((k_here; k_dflt (refine' callA2 ?k1_r38 ?k2_r38 ?_; (case k1_r38 => k_asm); (case k2_r38 => k_is); k_whole)))
  k_with "isTrue BoolOp" => ((k_here; (fail_if_success (fail_if_success k_fold)); (refine (let q8 := _; (?_ : PySem.wpAny _ _ _ q8 _ _)))))
  k_with "isTrue Compare" => ((k_here; (fail_if_success (fail_if_success k_fold)); (refine (let q8 := _; (?_ : PySem.wpAny _ _ _ q8 _ _)))))
  k_with "isTrue UnaryOp" => ((k_here; (fail_if_success (fail_if_success k_fold)); (refine (let q8 := _; (?_ : PySem.wpAny _ _ _ q8 _ _)))))
  k_with "assign Name" => ((k_here; (fail_if_success (fail_if_success k_fold)); (refine (let q8 := _; (?_ : PySem.wpAny _ _ _ q8 _ _)))))
  k_with "assign Tuple" => ((k_here; (fail_if_success (fail_if_success k_fold)); (refine (let q8 := _; (?_ : PySem.wpAny _ _ _ q8 _ _)))))
  k_with "callWith" => ((k_here; (with_reducible show PySem.wpAny _ _ (PySem.callWith _ (PySem.Value.builtin _) _ _ []) _ _ _); k_dflt (first | refine callM1 ?_ | refine callM2 ?_ | refine callB1 ?_ | refine callB2 ?_); k_whole))
  k_with "exec Assign cons ListComp" => ((k_here; with_unfolding_all (refine' assignComp ?c1_r86 ?c2_r86 ?c3_r86 ?c4_r86 ?_ ?c6_r86; (case c1_r86 => exact rfl); (case c2_r86 => exact rfl); (case c3_r86 => exact rfl); (case c4_r86 => decide); (case c6_r86 => intro _; rfl); k_whole)))
  k_with "eval Name" => ((k_here; (with_reducible show wpAny _ _ (eval (PySem.Expr.Name _ _) (compEnvC _ _ _ _)) _ _ _); with_unfolding_all (refine' ldCell ?ln_r87 ?lc_r87 ?lm_r87 ?ld_r87 ?_ ?lk_r87 ?lx_r87 ?lb_r87; (case ln_r87 => k_asm); (case lc_r87 => exact rfl); (case lm_r87 => k_mem); (case ld_r87 => assumption); (case lk_r87 => exact rfl); (case lx_r87 => exact rfl); (case lb_r87 => decide))))
  k_with "compareOp Eq str str" => ((k_here; refine' eqB (fun heqm => ?_) (fun hnem => ?_)))
  k_with "compareOp NotEq str str" => ((k_here; refine' neB (fun hnem => ?_) (fun heqm => ?_)))
  k_with "exec For Name Call cons nil" => ((k_here; (rename Fr _ _ _ _ => lF'm); (with_unfolding_all refine' forJF lF'm ?_; k_whole)))
  k_with "call builtin:len" => ((k_here; (refine' lenMap ?lN_r91 ?lm_r91 ?lS_r91 ?ll_r91 ?_; (case lN_r91 => k_asm); (case lm_r91 => k_mem); (case lS_r91 => assumption); (case ll_r91 => assumption)); intro t'm tk'm))
  k_with "subscriptTail" => ((k_here; (with_reducible show wpAny _ _ (subscriptTail _ _ (Value.ref _) (Value.int _ _)) _ _ _); k_dflt (refine' item_lst ?iN_r92 ?im_r92 ?ii_r92 ?ix_r92 ?_ ?is_r92; (case iN_r92 => k_asm); (case im_r92 => k_mem); (case ii_r92 => assumption); (case ix_r92 => assumption); (case is_r92 => with_unfolding_all rfl); k_whole)))
  k_with "subscriptTail Name Name ref int" => ((k_here; (with_reducible show wpAny _ _ (subscriptTail _ _ (Value.ref _) (Value.int _ _)) _ _ _); k_dflt (refine' item_lst ?iN_r93 ?im_r93 ?ii_r93 ?ix_r93 ?_ ?is_r93; (case iN_r93 => k_asm); (case im_r93 => k_mem); (case ii_r93 => assumption); (case ix_r93 => assumption); (case is_r93 => with_unfolding_all rfl); k_whole)))
  k_with "subscriptTail Name BinOp ref int" => ((k_here; (with_reducible show wpAny _ _ (subscriptTail _ _ (Value.ref _) (Value.int _ _)) _ _ _); k_dflt (refine' item_lst ?iN_r94 ?im_r94 ?ii_r94 ?ix_r94 ?_ ?is_r94; (case iN_r94 => k_asm); (case im_r94 => k_mem); (case ii_r94 => assumption); (case ix_r94 => assumption); (case is_r94 => with_unfolding_all rfl); k_whole)))
  k_with "subscriptTail Name Constant ref int" => ((k_here; (with_reducible show wpAny _ _ (subscriptTail _ _ (Value.ref _) (Value.int _ _)) _ _ _); k_dflt (refine' item_lst ?iN_r95 ?im_r95 ?ii_r95 ?ix_r95 ?_ ?is_r95; (case iN_r95 => k_asm); (case im_r95 => k_mem); (case ii_r95 => assumption); (case ix_r95 => assumption); (case is_r95 => with_unfolding_all rfl); k_whole)))
  k_with "pyIter ref" => ((with_reducible show wpAny _ _ _ (CompAt _ _ _ _ _ _ _ _ _ _ _ _ _) _ _); (rename Fr _ _ _ _ => lF'); (rename News _ _ _ (_ :: _) => lN'); k_dflt (refine' compBaseP (JS lv ls) ts (by rfl) hDf hts hfs.pairs ?hn lF' lN' ?h0 ?hcell ?hkind ?hx1 ?hx2 ?hne ?hsk ?turn ?done); (case hn => rw [hfs.1, sizeLine_eq]; omega); (case h0 => exact StrsAre.nil); (case hcell => decide); (case hkind => exact rfl); (case hx1 => intro _; exact rfl); (case hx2 => intro _; exact rfl); (case hne => decide); (case hsk => intro _; exact rfl); clear lF' lN'; (case' turn => (intro i T k a b ys I C D oI oC m₂ h tk E' hv hmT hK hm1 hm2 hoC F' N'; (refine (let G9 : Prop := _; (?_ : G9))); (obtain ⟨l, t1, t2, hl, rfl, rfl⟩ := hfs.item hts hv hmT); (have hrl : l.row.length = 10 := row_len l.m); refine' testsCons ?_)); (case' done => (intro D C h tk m' ys F' N' off hn hC₀ hCL hCD offC hK; (refine' compDoneA F' N' hn hC₀ hCL (offCons hCD offC) ?hl3 ?hy3 ?hp3 ?hq3); (case hl3 => exact rfl); (case hy3 => exact rfl); (case hp3 => exact rfl); clear F' N' off hn offC; (have hS := hK.all hfs); clear hK; (intro h' tk' F' N'))))
  k_with "pyIter ref" => ((rename IsRange _ _ _ _ _ _ _ _ => hR); (with_reducible (replace hR : IsRange _ _ 0 (4 - lv) 1 _ _ _ := hR)); (rename Fr _ _ _ _ => lF'); (rename News _ _ _ (_ :: _) => lN'); k_dflt (refine' pyRange1M rfl (Jf := JU l) (by rfl) hR ?ub lF' lN' ?u0 ?uturn ?udone (by passes_own)); (case ub => constructor <;> omega); (case u0 => exact ⟨_, rfl, rfl, rfl, rfl⟩); clear lF' lN' hR; (case' uturn => (intro j tj hu tku mu newsu Iu ou hj hJ F' hou N' offu; (refine (let G9 : Prop := _; (?_ : G9))); (obtain ⟨tf, hm3, hm4, hm5, hm6⟩ := hJ); (replace F' := frPin4 F' (hm3.trans rfl) (hm4.trans rfl) (hm5.trans rfl) hm6))); (case' udone => (intro hu tku mu newsu F' N' hJ; (refine (let G9 : Prop := _; (?_ : G9))); (obtain ⟨tf, hm3, hm4, hm5, hm6⟩ := hJ); (rw [hej] at hm6); (replace F' := frPin4 F' (hm3.trans rfl) (hm4.trans rfl) (hm5.trans rfl) hm6))))
  k_with "pyIter ref" => ((rename IsRange _ _ _ _ _ _ _ _ => hR); (with_reducible (replace hR : IsRange _ _ 0 (Nat.cast _) 1 _ _ _ := hR)); (rename Fr _ _ _ _ => lF'); (rename News _ _ _ (_ :: _) => lN'); k_dflt (refine' pyRange1L rfl (Jf := JK (lv + 1).toNat (ls.filter (keep1 lv)) D) (by rfl) hR ?kb lF' lN' ?k0 ?kturn ?kdone (by passes_own)); (case kb => constructor <;> omega); (case k0 => exact ⟨#[], 0, rfl, rfl, StrsAre.nil, Nat.le_refl _⟩); clear lF' lN' hR; (case' kturn => (intro i ti h1 tk1 m₁ news₁ I o hi hJ F' ho N' off; (refine (let G9 : Prop := _; (?_ : G9))); (obtain ⟨V, c, hm1, hm2, hV, hVz⟩ := hJ); (dsimp only [List.headD_cons, List.tail_cons] at N' hm2 off); (replace F' := frPin2 F' hm1 hm2); (have hi1 : i < (ls.filter (keep1 lv)).length := by omega); (obtain ⟨l, hl⟩ : ∃ l, (ls.filter (keep1 lv))[i]? = some l := ⟨_, List.getElem?_eq_getElem hi1⟩); (have ol := hls l (List.mem_filter.mp (List.mem_of_getElem? hl)).1); (obtain ⟨tw, htw⟩ := hS.at (show ((ls.filter (keep1 lv)).map fun l => pathT l 6)[i]? = some (pathT l 6) by rw [List.getElem?_map, hl]; rfl)); (have hi2 : i < 2 ^ 62 := by omega); (have hap := apOf N' (by assumption)))); (case' kdone => (intro h1 tk1 m₁ news₁ F' N' hJ; (refine (let G9 : Prop := _; (?_ : G9))); (obtain ⟨V, c, hm1, hm2, hV, hVz⟩ := hJ); (dsimp only [List.headD_cons, List.tail_cons] at N' hm2); (replace F' := frPin2 F' hm1 hm2))))
  have hsm : (ls.filter (keep1 lv)).length ≤ 60 := Nat.le_trans (List.length_filter_le _ _) hn
  k_with "call ref" => (k_here; (with_reducible show wpAny _ _ (call (Value.ref 143) _) _ _ _); k_dflt (first | refine' Spec.use (dir_pathE l ol 6 5 (by decide) (by decide) (by decide) _) ?b1 ?f1 ?x1 ?n1 ?t1 ?kk ?hd ?hu ?ha ?_ | refine' Spec.use (dir_pathE l ol (5 - j) (4 - j) (by omega) (by omega) (by omega) _) ?b1 ?f1 ?x1 ?n1 ?t1 ?kk ?hd ?hu ?ha ?_); walk_at "my use"; k_whole; rintro _ _ h' tk' F' N' lt' ⟨rfl, ⟨t', rfl⟩, ln'⟩; (try dsimp only [List.nil_append] at N'); clear lt' ln')
  k_with "call ref" => (k_here; (with_reducible show wpAny _ _ (call (Value.ref 155) _) _ _ _); (have hi3 : i + 1 < (ls.filter (keep1 lv)).length := by omega); (obtain ⟨l2, hl2⟩ : ∃ l2, (ls.filter (keep1 lv))[i + 1]? = some l2 := ⟨_, List.getElem?_eq_getElem hi3⟩); (have ol2 := hls l2 (List.mem_filter.mp (List.mem_of_getElem? hl2)).1); (have ey : ((ls.filter (keep1 lv)).map fun l => pathT l 6).getD ((i : Int) + 1).toNat Str.empty = pathT l2 6 := by rw [show ((i : Int) + 1).toNat = i + 1 by omega, List.getD_eq_getElem?_getD, List.getElem?_map, hl2]; rfl); k_dflt (refine' Spec.use (common_pathE l l2 ol ol2 (lv + 1).toNat (by omega) (by omega) _ ey _ _ _ _) ?b1 ?f1 ?x1 ?n1 ?t1 ?kk ?hd ?hu ?ha ?_); walk_at "my use"; k_whole; rintro _ _ h' tk' F' N' lt' ⟨rfl, t', rfl⟩; (dsimp only [List.nil_append] at N'); (replace N' := newsTail N'); clear lt')
  k_with "call builtin:list.append" => (k_here; k_dflt (refine' appSecond ?aF ?aN off hap ?az ?_; (case aF => assumption); (case aN => assumption); (case az => rw [sizeLine_eq]; omega)); intro h' F' N'; k_whole)
  have hej : 5 - (4 - lv).toNat = (lv + 1).toNat := by omega
  unfold SpecF
  k_fill
  intros
  refine wpAny_call ?_
  (rename (∀ p ∈ (Df, listO vs.toArray nn) :: ts, _) => hz0)
  k_dflt (refine' enterD [(Str.ofString "filed", .ref Df), (Str.ofString "level", .int lv tl)] (fun y => if y = Str.ofString "filed" then some (.ref Df) else none) (fun y => if y = Str.ofString "level" then some (.int lv tl) else none) ?k1 ?k2 ?k3 ?k4 ?k5 ?kA ?kF ?kK ?k6 ?k7 ?k8 ?k9 ?kB ?kD ?kL ?kC ?_ ?c2 ?c3 ?c4; walk_at "my enteredD")
  (rename (∀ b o, _ → (∀ p ∈ [], _) → _) => hg0)
  have hts : ∀ p ∈ ts, _ := fun p hp => hg0 _ _ (hz0 p (.tail _ hp)) (fun _ h => nomatch h)
  have hDf := hg0 _ _ (hz0 _ (.head _)) (fun _ h => nomatch h)
  clear hz0
  repeat' (first | ((fail_if_success goal_has PySem.wpAny); (try dsimp only); first | (with_reducible refine seqN ?_) | ((with_reducible refine seqE ?_); (try dsimp only)) | ((with_reducible refine seqR ?_); (try dsimp only)) | ((with_reducible refine seqC ?_); (try dsimp only)) | ((with_reducible refine seqB ?_); (try dsimp only))) | ((fail_if_success (fail_if_success k_unfold)); (try dsimp only); k_unfold; (try dsimp only)) | ((fail_if_success goal_has PySem.wpAny); show PySem.wpAny _ _ _ _ _ _; (try dsimp only)) | walk1 | (dsimp only; walk1) | fail "no step")
  all_goals try first
    | (rename (_ == Str.ofString "-") = true => e1; rename (_ == Str.ofString "r") = true => e2; exact ⟨⟨_, rfl⟩, JS.yes hK hl (by unfold keep1; rw [e1, e2]; rfl)⟩)
    | (rename (_ == Str.ofString "-") = true => e1; rename (_ == Str.ofString "r") = true => e2; exact JS.yes hK hl (by unfold keep1; rw [e1, e2]; rfl))
    | (rename (_ == Str.ofString "-") = true => e1; rename (_ == Str.ofString "r") = false => e2; exact JS.no hK hl (by unfold keep1; rw [e1, e2]; decide))
    | (rename (_ == Str.ofString "-") = false => e1; exact JS.no hK hl (by unfold keep1; rw [e1]; simp))
  all_goals try first
    | (walk_at "my ret1"; exact ⟨_, V, c, rfl, rfl, by rw [Int.toNat_natCast] at hV; exact hV⟩)
    | (rename (_ == _) = false => e1; exact unrEnd1 (by assumption) (by assumption) (offSwap off) ⟨trivial, _, _, rfl, rfl, keptTo_yes hV hl ((keepAt_at hl hl2).trans (sameB_ne e1)), by rw [Array.size_push]; omega⟩)
    | (rename _ = pathT l _ => e1; exact unrEnd1 (by assumption) (by assumption) off ⟨trivial, _, _, rfl, rfl, keptTo_no hV ((keepAt_at hl hl2).trans (sameB_eq e1)), by omega⟩)
    | (exact unrEnd1 (by assumption) (by assumption) (offSwap off) ⟨trivial, _, _, rfl, rfl, keptTo_yes hV hl (keepAt_last (by omega)), by rw [Array.size_push]; omega⟩)
    | ((rename Fr _ _ _ _ => hFF); exact unrEnd1 hFF (by assumption) offu ⟨trivial, t', rfl, rfl, rfl, congrArg (fun z => some (Value.str (pathT l z) t')) (show 4 - j = 5 - (j + 1) by omega)⟩)
end

section
local macro_rules | `(tactic| omega) => `(tactic| lia)
section
variable {prog : Program} {w : World} {A : Around} {E : Value → Shared → Prop} {s : Shared}
theorem oneLtI {o : Bool} {a c : Int} {t u : Tok} {Q : Bool → Shared → Prop} (h : Q (decide (a < c)) s) : wpAny (model prog w) A (oneLt' o (.int a t) (.int c u)) Q E s := by
  cases o with
  | true => exact oneLt_int h
  | false => exact kat_one _ _ (PyProof.Rows.lt_int h)
/-- two tuples of ints, of one length, under a sort -/
theorem katLexI {o : Bool} {Q : Bool → Shared → Prop} : ∀ {xs ys : List Int} {vx vy : List Value} (i : Nat), IntsAre vx xs → IntsAre vy ys → xs.length = ys.length → Q (lexI xs ys) s → KatLex prog w A o false Q (vx.zip vy) i s
  | [], [], _, _, i, hx, hy, _, h => by
    rw [hx.nil_inv, hy.nil_inv]
    exact kat_nil h
  | a :: xs, c :: ys, _, _, i, hx, hy, hl, h => by
    obtain ⟨t, vx', rfl, hx'⟩ := hx.cons_inv
    obtain ⟨u, vy', rfl, hy'⟩ := hy.cons_inv
    rw [List.zip_cons_cons]
    refine kat_cons (wpAny_eqBool_int ?_)
    by_cases e : a = c
    · subst e
      rw [beq_self_eq_true]
      refine kat_yes (katLexI (i + 1) hx' hy' (by simpa using hl) ?_)
      rw [lexI, if_pos rfl] at h
      exact h
    · rw [beq_eq_false_iff_ne.mpr e]
      refine kat_no (oneLtI ?_)
      rw [lexI, if_neg e] at h
      exact h
  | [], _ :: _, _, _, _, _, _, hl, _ => by simp at hl
  | _ :: _, [], _, _, _, _, _, hl, _ => by simp at hl
/-- two pairs of texts under a sort, told by the first -/
theorem katLexS {a b c d : Str} {t1 t2 t3 t4 : Tok} {Q : Bool → Shared → Prop} (hab : a = c → b = d) (h : Q (decide (a.cps.toList < c.cps.toList)) s) : KatLex prog w A true false Q [(.str a t1, .str c t3), (.str b t2, .str d t4)] 0 s := by
  refine kat_cons (wpAny_eqBool_str ?_)
  by_cases e : a = c
  · subst e
    obtain rfl := hab rfl
    rw [decide_eq_true rfl]
    refine kat_yes (kat_cons (wpAny_eqBool_str ?_))
    rw [decide_eq_true rfl]
    refine kat_yes (kat_nil ?_)
    rw [decide_eq_false (List.lt_irrefl _)] at h
    exact h
  · rw [decide_eq_false e]
    exact kat_no (oneLt_str h)
/-- asked by ranks, the sort tells the order of the ranks -/
theorem sort_ranks {κ : SortKind} {vs : List Value} {rk : Nat → Int} {Q : Array Nat → Shared → Prop} (I : Shared → Prop) (h0 : 0 < vs.length) (inj : ∀ i j, i < vs.length → j < vs.length → rk i = rk j → i = j)
    (hc : ∀ i j C s, I s → i < vs.length → j < vs.length → (∀ s', I s' → C (decide (rk i < rk j)) s') → kas_ask prog w A κ vs i j C s) (hQ : ∀ p s', PermN vs.length p → Asc rk p vs.length → I s' → Q p s') (hs : I s) : (kas_sort vs.length).kasWp (kas_ask prog w A κ vs) Q s :=
  wpp_to (I := I) hc (Q' := fun p => PermN vs.length p ∧ Asc rk p vs.length) (fun a s' h hI => hQ a s' h.1 h.2 hI) (sort_spec inj h0) hs
end
/-- a permuted list of places, its items in the order of the ranks -/
theorem sorted_of {α : Type} {ls : List α} {p : Array Nat} {rk : Nat → Int} (d : α) (h : PermN ls.length p) (ha : Asc rk p ls.length) (lt : α → α → Prop) (hlt : ∀ i j, i < ls.length → j < ls.length → rk i < rk j → lt (ls.getD i d) (ls.getD j d)) :
    (p.toList.map fun i => ls.getD i d).Perm ls ∧ (p.toList.map fun i => ls.getD i d).Pairwise lt := by
  have hs := h.size
  constructor
  · have e : ls = (List.range ls.length).map fun i => ls.getD i d := by
      apply List.ext_getElem?
      intro k
      by_cases hk : k < ls.length
      · simp [hk]
      · simp [hk]
    conv => rhs; rw [e]
    exact List.Perm.map _ (by simpa using Array.perm_iff_toList_perm.mp h)
  · rw [List.pairwise_iff_getElem]
    intro i j hi hj hij
    rw [List.length_map, Array.length_toList, hs] at hi hj
    simp only [List.getElem_map, Array.getElem_toList]
    have h0 : 0 < ls.length := by omega
    have g : ∀ k (hk : k < ls.length), p[k]'(by omega) = p.getD k 0 := fun k hk => by simp [Array.getD, show k < p.size by omega]
    rw [g i hi, g j hj]
    exact hlt _ _ (h.lt h0 i) (h.lt h0 j) (ha i j hij hj)

/-- a letter's place in time, then by its number -/
def rank (l : Let) : Int := (((((l.y * 13 + l.mo) * 32 + l.d) * 24 + l.h) * 60 + l.mi) * 60 + l.s) * 100 + l.n
def tupOf (l : Let) : List Int := [l.y, l.mo, l.d, l.h, l.mi, l.s, l.n]
theorem lexI_cons {a c : Int} {r q : List Int} : lexI (a :: r) (c :: q) = true ↔ a < c ∨ a = c ∧ lexI r q = true := by
  rw [lexI]
  by_cases e : a = c
  · subst e; simp
  · rw [if_neg e]; simp [e]
theorem cut_lt {k X X' n n' : Int} (h : 0 ≤ n ∧ n < k) (h' : 0 ≤ n' ∧ n' < k) : X * k + n < X' * k + n' ↔ X < X' ∨ X = X' ∧ n < n' := by
  constructor
  · intro e
    rcases Int.lt_trichotomy X X' with q | q | q
    · exact .inl q
    · subst q; exact .inr ⟨rfl, by omega⟩
    · exfalso
      have : (X' + 1) * k ≤ X * k := Int.mul_le_mul_of_nonneg_right (by omega) (by omega)
      rw [Int.add_mul, Int.one_mul] at this
      omega
  · rintro (q | ⟨rfl, q⟩)
    · have : (X + 1) * k ≤ X' * k := Int.mul_le_mul_of_nonneg_right (by omega) (by omega)
      rw [Int.add_mul, Int.one_mul] at this
      omega
    · omega
theorem cut_eq {k X X' n n' : Int} (h : 0 ≤ n ∧ n < k) (h' : 0 ≤ n' ∧ n' < k) : X * k + n = X' * k + n' ↔ X = X' ∧ n = n' := by
  constructor
  · intro e
    have h1 : ¬ (X * k + n < X' * k + n') := by omega
    have h2 : ¬ (X' * k + n' < X * k + n) := by omega
    rw [cut_lt h h'] at h1
    rw [cut_lt h' h] at h2
    omega
  · rintro ⟨rfl, rfl⟩; rfl
theorem rank_lt {a c : Let} (oa : a.Ok) (oc : c.Ok) : rank a < rank c ↔ a.y < c.y ∨ a.y = c.y ∧ (a.mo < c.mo ∨ a.mo = c.mo ∧ (a.d < c.d ∨ a.d = c.d ∧ (a.h < c.h ∨ a.h = c.h ∧ (a.mi < c.mi ∨ a.mi = c.mi ∧ (a.s < c.s ∨ a.s = c.s ∧ a.n < c.n))))) := by
  obtain ⟨a1, a2, a3, a4, a5, a6, a7⟩ := oa
  obtain ⟨c1, c2, c3, c4, c5, c6, c7⟩ := oc
  unfold rank
  rw [cut_lt a7 c7, cut_lt a6 c6, cut_lt a5 c5, cut_lt a4 c4, cut_lt (by omega) (by omega), cut_lt (by omega) (by omega), cut_eq a6 c6, cut_eq a5 c5, cut_eq a4 c4, cut_eq (k := 32) ⟨by omega, a3.2⟩ ⟨by omega, c3.2⟩, cut_eq (k := 13) (n := a.mo) (n' := c.mo) (by omega) (by omega)]
  clear a1 a2 a3 a4 a5 a6 a7 c1 c2 c3 c4 c5 c6 c7
  simp only [and_or_left, and_assoc, or_assoc]
theorem rank_n {a c : Let} (oa : a.Ok) (oc : c.Ok) (h : rank a = rank c) : a.n = c.n := ((cut_eq oa.n oc.n).mp h).2
theorem lexI_rank {a c : Let} (oa : a.Ok) (oc : c.Ok) : lexI (tupOf a) (tupOf c) = true ↔ rank a < rank c := by
  rw [rank_lt oa oc]
  unfold tupOf
  simp only [lexI_cons, show lexI [] [] = false from rfl, Bool.false_eq_true, and_false, or_false]
theorem lexI_rankB {a c : Let} (oa : a.Ok) (oc : c.Ok) : lexI (tupOf a) (tupOf c) = decide (rank a < rank c) := by
  rw [Bool.eq_iff_iff, lexI_rank oa oc, decide_eq_true_iff]
theorem lt_cons {a c : Nat} {r q : List Nat} : a :: r < c :: q ↔ a < c ∨ a = c ∧ r < q := List.cons_lt_cons_iff
theorem dig (k : Nat) {q r q' r' : Nat} {Z : Prop} (hr : r < k) (hr' : r' < k) : (q < q' ∨ q = q' ∧ (r < r' ∨ r = r' ∧ Z)) ↔ (k * q + r < k * q' + r' ∨ k * q + r = k * q' + r' ∧ Z) := by
  rcases Nat.lt_trichotomy q q' with h | h | h
  · have : k * (q + 1) ≤ k * q' := Nat.mul_le_mul_left k h
    rw [Nat.mul_add, Nat.mul_one] at this
    exact ⟨fun _ => .inl (by omega), fun _ => .inl h⟩
  · subst h
    simp only [Nat.lt_irrefl, false_or, true_and, Nat.add_lt_add_iff_left, Nat.add_left_cancel_iff]
  · have : k * (q' + 1) ≤ k * q := Nat.mul_le_mul_left k h
    rw [Nat.mul_add, Nat.mul_one] at this
    constructor
    · rintro (e | ⟨e, _⟩) <;> omega
    · rintro (e | ⟨e, _⟩) <;> omega
theorem dig2 (a : Nat) : 10 * (a / 10) + a % 10 = a := Nat.div_add_mod a 10
theorem dig4 (a : Nat) : 10 * (10 * (10 * (a / 1000) + a / 100 % 10) + a / 10 % 10) + a % 10 = a := by
  rw [show a / 1000 = a / 100 / 10 from (Nat.div_div_eq_div_mul a 100 10).symm, Nat.div_add_mod, show a / 100 = a / 10 / 10 from (Nat.div_div_eq_div_mul a 10 10).symm, Nat.div_add_mod, Nat.div_add_mod]
theorem lt_two {a c : Int} {r q : List Nat} (ha : 0 ≤ a ∧ a < 100) (hc : 0 ≤ c ∧ c < 100) : (two a).cps.toList ++ r < (two c).cps.toList ++ q ↔ a < c ∨ a = c ∧ r < q := by
  obtain ⟨a, rfl⟩ := Int.eq_ofNat_of_zero_le ha.1
  obtain ⟨c, rfl⟩ := Int.eq_ofNat_of_zero_le hc.1
  have e : ∀ x : Nat, ((x : Int) / 10).toNat = x / 10 := fun x => rfl
  have e2 : ∀ x : Nat, ((x : Int) % 10).toNat = x % 10 := fun x => rfl
  rw [two_toList, two_toList]
  simp only [List.cons_append, List.nil_append, lt_cons, e, e2, Nat.add_lt_add_iff_left, Nat.add_left_cancel_iff]
  rw [dig 10 (Nat.mod_lt _ (by decide)) (Nat.mod_lt _ (by decide)), dig2, dig2, Int.ofNat_lt, Int.ofNat_inj]
theorem lt_four {a c : Int} {r q : List Nat} (ha : 0 ≤ a ∧ a < 10000) (hc : 0 ≤ c ∧ c < 10000) : (four a).cps.toList ++ r < (four c).cps.toList ++ q ↔ a < c ∨ a = c ∧ r < q := by
  obtain ⟨a, rfl⟩ := Int.eq_ofNat_of_zero_le ha.1
  obtain ⟨c, rfl⟩ := Int.eq_ofNat_of_zero_le hc.1
  have e1 : ∀ x : Nat, ((x : Int) / 1000).toNat = x / 1000 := fun x => rfl
  have e2 : ∀ x : Nat, ((x : Int) / 100 % 10).toNat = x / 100 % 10 := fun x => rfl
  have e3 : ∀ x : Nat, ((x : Int) / 10 % 10).toNat = x / 10 % 10 := fun x => rfl
  have e4 : ∀ x : Nat, ((x : Int) % 10).toNat = x % 10 := fun x => rfl
  have m : ∀ x : Nat, x % 10 < 10 := fun x => Nat.mod_lt _ (by decide)
  rw [four_toList, four_toList]
  simp only [List.cons_append, List.nil_append, lt_cons, e1, e2, e3, e4, Nat.add_lt_add_iff_left, Nat.add_left_cancel_iff]
  rw [dig 10 (m _) (m _), dig 10 (m _) (m _), dig 10 (m _) (m _), dig4, dig4, Int.ofNat_lt, Int.ofNat_inj]
theorem lt_same {r q : List Nat} : ∀ p : List Nat, p ++ r < p ++ q ↔ r < q
  | [] => Iff.rfl
  | a :: p => by
    rw [List.cons_append, List.cons_append, lt_cons]
    simp only [Nat.lt_irrefl, false_or, true_and]
    exact lt_same p
theorem way_cps (l : Let) : l.way.cps.toList = [47, 109, 97, 105, 108, 47] ++ ((four l.y).cps.toList ++ ([47] ++ ((two l.mo).cps.toList ++ ([47] ++ ((two l.d).cps.toList ++ ([47] ++ ((two l.h).cps.toList ++ ([46] ++ ((two l.mi).cps.toList ++ ([46] ++ ((two l.s).cps.toList ++ ([47, 111, 39, 99, 108, 111, 99, 107, 39] ++ ((two l.n).cps.toList ++ []))))))))))))) := by
  unfold Let.way
  rw [way_list]
  unfold wayP
  simp only [List.map_cons, List.map_nil, glueL, lit_list "mail" [109, 97, 105, 108], lit_list "" [], ock_list, hms_list]
  simp
theorem way_rank {a c : Let} (oa : a.Ok) (oc : c.Ok) : a.way.cps.toList < c.way.cps.toList ↔ rank a < rank c := by
  rw [rank_lt oa oc]
  obtain ⟨a1, a2, a3, a4, a5, a6, a7⟩ := oa
  obtain ⟨c1, c2, c3, c4, c5, c6, c7⟩ := oc
  rw [way_cps, way_cps, lt_same, lt_four (by omega) (by omega), lt_same, lt_two (by omega) (by omega), lt_same, lt_two (by omega) (by omega), lt_same, lt_two (by omega) (by omega), lt_same, lt_two (by omega) (by omega), lt_same, lt_two (by omega) (by omega), lt_same, lt_two (by omega) (by omega)]
  have : ¬ ([] : List Nat) < [] := List.lt_irrefl _
  simp only [this, and_false, or_false]
theorem way_rankB {a c : Let} (oa : a.Ok) (oc : c.Ok) : decide (a.way.cps.toList < c.way.cps.toList) = decide (rank a < rank c) := by
  rw [decide_eq_decide]
  exact way_rank oa oc

def keepM (lv : Int) (l : Let) : Bool := decide (l.m / 4096 % 16 = 8) && decide (l.m / 2 ^ (11 - 3 * lv).toNat % 2 = 1)
def keyOf (lv : Int) (l : Let) : Int := if lv = 1 then l.y else if lv = 2 then l.y * 12 + l.mo else (l.y * 12 + l.mo) * 31 + l.d
theorem sign_is {a c : Nat} {x : String} (hx : Str.ofString x = ⟨#[c]⟩) : ((⟨#[a]⟩ : Str) == Str.ofString x) = decide (a = c) := by
  rw [hx, Bool.eq_iff_iff, beq_iff_eq, decide_eq_true_iff]
  constructor
  · intro h
    have := congrArg (fun z : Str => z.cps.toList) h
    simpa using this
  · rintro rfl; rfl
theorem ite_ne {c : Prop} [Decidable c] {a b x : Nat} (ha : a ≠ x) (hb : b ≠ x) : (if c then a else b) ≠ x := by
  split
  · exact ha
  · exact hb
theorem kind_is (k : Int) : (kindK k = 45) = (k = 8) := by
  apply propext
  unfold kindK
  constructor
  · intro h
    by_cases e : k = 8
    · exact e
    · rw [if_neg e] at h
      exact absurd h (ite_ne (by decide) (ite_ne (by decide) (ite_ne (by decide) (ite_ne (by decide) (ite_ne (by decide) (ite_ne (by decide) (by decide)))))))
  · rintro rfl; rfl
theorem bit_is (b : Int) : (bitC b 114 = 114) = (b = 1) := by
  apply propext
  unfold bitC
  by_cases e : b = 1
  · simp [e]
  · simp [e]
theorem item_row (n : Int) (i : Nat) (h : i < 10) : Txt.item (rowN n) (i : Int) = ⟨#[(rowN n).cps.getD i 0]⟩ := by
  have hl : (rowN n).length = 10 := rfl
  have := PySem.W.item_meets (x := rowN n) (i := (i : Int)) ⟨by omega, by rw [hl]; omega⟩
  simpa using this
theorem keep_is {lv : Int} (hlv : 1 ≤ lv ∧ lv ≤ 3) (l : Let) : keep1 lv l = keepM lv l := by
  unfold keep1 keepM Let.row
  have e0 : Txt.item (rowN l.m) 0 = ⟨#[kindK (l.m / 4096 % 16)]⟩ := item_row l.m 0 (by decide)
  have e1 : Txt.item (rowN l.m) 1 = ⟨#[bitC (l.m / 256 % 2) 114]⟩ := item_row l.m 1 (by decide)
  have e4 : Txt.item (rowN l.m) 4 = ⟨#[bitC (l.m / 32 % 2) 114]⟩ := item_row l.m 4 (by decide)
  have e7 : Txt.item (rowN l.m) 7 = ⟨#[bitC (l.m / 4 % 2) 114]⟩ := item_row l.m 7 (by decide)
  rw [e0, sign_is (c := 45) (by decide +kernel)]
  obtain rfl | rfl | rfl : lv = 1 ∨ lv = 2 ∨ lv = 3 := by omega
  · rw [show (3 * 1 - 2 : Int) = 1 by decide, e1, sign_is (c := 114) (by decide +kernel)]
    simp only [kind_is, bit_is]
    rfl
  · rw [show (3 * 2 - 2 : Int) = 4 by decide, e4, sign_is (c := 114) (by decide +kernel)]
    simp only [kind_is, bit_is]
    rfl
  · rw [show (3 * 3 - 2 : Int) = 7 by decide, e7, sign_is (c := 114) (by decide +kernel)]
    simp only [kind_is, bit_is]
    rfl
/-- what is common ahead, as a cut -/
theorem comPre_cut : ∀ P Q : List Str, ∃ i, i ≤ P.length ∧ comPre P Q = P.take i ∧ (i = P.length ↔ P = Q.take P.length)
  | [], Q => ⟨0, Nat.le_refl _, by cases Q <;> rfl, by simp⟩
  | a :: r, [] => ⟨0, Nat.zero_le _, rfl, by simp⟩
  | a :: r, b :: q => by
    by_cases e : a = b
    · obtain ⟨i, h1, h2, h3⟩ := comPre_cut r q
      refine ⟨i + 1, by simpa using h1, by rw [comPre, if_pos e, h2]; rfl, ?_⟩
      rw [List.length_cons, List.take_succ_cons, e, List.cons.injEq]
      simp only [Nat.add_right_cancel_iff, true_and]
      exact h3
    · refine ⟨0, Nat.zero_le _, by rw [comPre, if_neg e]; rfl, ?_⟩
      rw [List.length_cons, List.take_succ_cons, List.cons.injEq]
      simp [e]
theorem pathL_grow (l : Let) {k : Nat} (hk : k < 6) : (pathL l k).length < (pathL l (k + 1)).length := by
  obtain ⟨p, hp, _⟩ := part_at l hk
  rw [pathL_succ l hp, List.length_append, List.length_cons]
  omega
theorem pathL_less (l : Let) {i : Nat} : ∀ {j : Nat}, i < j → j ≤ 6 → (pathL l i).length < (pathL l j).length
  | 0, h, _ => absurd h (Nat.not_lt_zero _)
  | j + 1, h, hj => by
    have g := pathL_grow l (k := j) (by omega)
    by_cases e : i = j
    · rw [e]; exact g
    · exact Nat.lt_trans (pathL_less l (j := j) (by omega) (by omega)) g
theorem glued_path (l : Let) {i : Nat} (h0 : 0 < i) (hi : i ≤ 6) : Str.ofString "/" ++ Txt.join (Str.ofString "/") (l.parts.take i) = pathT l i := by
  apply eqOfL
  rw [toList_app, slash, join_toList]
  show [47] ++ glueL 47 _ = pathL l i
  rw [List.singleton_append, glue_flat]
  · unfold pathL
    rw [List.flatMap_map]
  · intro e
    have := congrArg List.length e
    rw [List.length_map, List.length_take, l.parts_len] at this
    simp at this
    omega
theorem sameB_parts (l l' : Let) {j : Nat} (h0 : 0 < j) (hj : j ≤ 6) : sameB j l l' = true ↔ l.parts.take j = l'.parts.take j := by
  unfold sameB
  rw [beq_iff_eq]
  have hl : (l.parts.take j).length = j := by rw [List.length_take, l.parts_len]; omega
  obtain ⟨i, h1, h2, h3⟩ := comPre_cut (l.parts.take j) (l'.parts.take 6)
  rw [hl] at h1 h3
  rw [List.take_take, Nat.min_eq_left hj] at h3
  rw [← h3, h2, List.take_take, Nat.min_eq_left h1]
  constructor
  · intro e
    rcases Nat.lt_or_ge i j with q | q
    · exfalso
      have e2 := congrArg (fun z : Str => z.cps.toList.length) e
      have ej : (pathT l j).cps.toList.length = (pathL l j).length := rfl
      simp only [ej] at e2
      have lj := pathL_less l (i := 0) h0 hj
      cases i with
      | zero =>
        have p1 := pathL_less l (i := 0) (j := 1) (by decide) (by decide)
        have p2 : (pathL l 1).length = 5 := by
          show (47 :: (Str.ofString "mail").cps.toList ++ []).length = 5
          rw [lit_list "mail" [109, 97, 105, 108]]; rfl
        have p3 : (pathL l 1).length ≤ (pathL l j).length := by
          rcases Nat.lt_or_ge 1 j with q | q
          · exact Nat.le_of_lt (pathL_less l q hj)
          · rw [show j = 1 by omega]; exact Nat.le_refl _
        have p4 : (Str.ofString "/" ++ Txt.join (Str.ofString "/") (l.parts.take 0)).cps.toList.length = 1 := by
          rw [List.take_zero]
          show (Str.ofString "/" ++ Txt.join (Str.ofString "/") []).cps.toList.length = 1
          decide +kernel
        have e3 : (pathL l j).length = 1 := by rw [← ej, ← e]; exact p4
        omega
      | succ i =>
        have l1 := pathL_less l q hj
        rw [glued_path l (Nat.succ_pos i) (by omega)] at e
        have l2 : (pathL l (i + 1)).length = (pathL l j).length := congrArg (fun z : Str => z.cps.toList.length) e
        omega
    · omega
  · rintro rfl
    exact glued_path l h0 hj
theorem two_inj {a c : Int} (ha : 0 ≤ a ∧ a < 100) (hc : 0 ≤ c ∧ c < 100) : two a = two c ↔ a = c := by
  constructor
  · intro h
    rcases Int.lt_trichotomy a c with q | q | q
    · have := (lt_two ha hc (r := []) (q := [])).mpr (.inl q)
      rw [h] at this
      exact absurd this (List.lt_irrefl _)
    · exact q
    · have := (lt_two hc ha (r := []) (q := [])).mpr (.inl q)
      rw [h] at this
      exact absurd this (List.lt_irrefl _)
  · rintro rfl; rfl
theorem four_inj {a c : Int} (ha : 0 ≤ a ∧ a < 10000) (hc : 0 ≤ c ∧ c < 10000) : four a = four c ↔ a = c := by
  constructor
  · intro h
    rcases Int.lt_trichotomy a c with q | q | q
    · have := (lt_four ha hc (r := []) (q := [])).mpr (.inl q)
      rw [h] at this
      exact absurd this (List.lt_irrefl _)
    · exact q
    · have := (lt_four hc ha (r := []) (q := [])).mpr (.inl q)
      rw [h] at this
      exact absurd this (List.lt_irrefl _)
  · rintro rfl; rfl
theorem key2 {y y' a a' : Int} (h : 1 ≤ a ∧ a ≤ 12) (h' : 1 ≤ a' ∧ a' ≤ 12) : y * 12 + a = y' * 12 + a' ↔ y = y' ∧ a = a' := ⟨fun e => ⟨by omega, by omega⟩, fun ⟨e, e'⟩ => by rw [e, e']⟩
theorem key3 {y y' a a' : Int} (h : 1 ≤ a ∧ a ≤ 31) (h' : 1 ≤ a' ∧ a' ≤ 31) : y * 31 + a = y' * 31 + a' ↔ y = y' ∧ a = a' := ⟨fun e => ⟨by omega, by omega⟩, fun ⟨e, e'⟩ => by rw [e, e']⟩
theorem same_key {lv : Int} (hlv : 1 ≤ lv ∧ lv ≤ 3) {l l' : Let} (o : l.Ok) (o' : l'.Ok) : sameB (lv + 1).toNat l l' = true ↔ keyOf lv l = keyOf lv l' := by
  obtain ⟨a1, a2, a3, _, _, _, _⟩ := o
  obtain ⟨c1, c2, c3, _, _, _, _⟩ := o'
  unfold keyOf
  obtain rfl | rfl | rfl : lv = 1 ∨ lv = 2 ∨ lv = 3 := by omega
  · rw [sameB_parts l l' (by decide) (by decide)]
    show [Str.ofString "mail", four l.y] = [Str.ofString "mail", four l'.y] ↔ _
    simp only [List.cons.injEq, true_and, and_true, if_true]
    exact four_inj (by omega) (by omega)
  · rw [sameB_parts l l' (by decide) (by decide)]
    show [Str.ofString "mail", four l.y, two l.mo] = [Str.ofString "mail", four l'.y, two l'.mo] ↔ _
    simp only [List.cons.injEq, true_and, and_true]
    rw [four_inj (by omega) (by omega), two_inj (by omega) (by omega)]
    simp only [show ¬ (2 : Int) = 1 by decide, if_false, if_true]
    exact (key2 (by omega) (by omega)).symm
  · rw [sameB_parts l l' (by decide) (by decide)]
    show [Str.ofString "mail", four l.y, two l.mo, two l.d] = [Str.ofString "mail", four l'.y, two l'.mo, two l'.d] ↔ _
    simp only [List.cons.injEq, true_and, and_true]
    rw [four_inj (by omega) (by omega), two_inj (by omega) (by omega), two_inj (by omega) (by omega)]
    simp only [show ¬ (3 : Int) = 1 by decide, show ¬ (3 : Int) = 2 by decide, if_false]
    rw [key3 (by omega) (by omega), key2 (by omega) (by omega), and_assoc]
theorem key_mono {lv : Int} {l l' : Let} (o : l.Ok) (o' : l'.Ok) (h : rank l ≤ rank l') : keyOf lv l ≤ keyOf lv l' := by
  obtain ⟨a1, a2, a3, a4, a5, a6, a7⟩ := o
  obtain ⟨c1, c2, c3, c4, c5, c6, c7⟩ := o'
  have hk : (l.y * 13 + l.mo) * 32 + l.d ≤ (l'.y * 13 + l'.mo) * 32 + l'.d := by
    unfold rank at h
    omega
  clear h a4 a5 a6 a7 c4 c5 c6 c7
  unfold keyOf
  split
  · omega
  · split
    · omega
    · omega
def keptL (j : Nat) (sm : List Let) : Nat → List Let
  | 0 => []
  | k + 1 => keptL j sm k ++ (if keepAt j sm k then (sm[k]?).toList else [])
theorem keptTo_map (j : Nat) (sm : List Let) : ∀ i, keptTo j sm i = (keptL j sm i).map Let.way
  | 0 => rfl
  | k + 1 => by
    rw [keptTo, keptL, keptTo_map j sm k, List.map_append]
    congr 1
    split
    · cases sm[k]? <;> rfl
    · rfl
theorem keptL_sub (j : Nat) (sm : List Let) : ∀ i, (keptL j sm i).Sublist (sm.take i)
  | 0 => by simp [keptL]
  | k + 1 => by
    rw [keptL, List.take_add_one]
    refine List.Sublist.append (keptL_sub j sm k) ?_
    split
    · exact List.Sublist.refl _
    · exact List.nil_sublist _
theorem mem_keptL {j : Nat} {sm : List Let} {l : Let} : ∀ {i : Nat}, l ∈ keptL j sm i ↔ ∃ k, k < i ∧ sm[k]? = some l ∧ keepAt j sm k = true
  | 0 => by simp [keptL]
  | i + 1 => by
    rw [keptL, List.mem_append, mem_keptL (i := i)]
    constructor
    · rintro (⟨k, h1, h2⟩ | h)
      · exact ⟨k, Nat.lt_succ_of_lt h1, h2⟩
      · by_cases e : keepAt j sm i = true
        · rw [if_pos e] at h
          exact ⟨i, Nat.lt_succ_self _, by simpa [Option.mem_toList] using h, e⟩
        · rw [if_neg e] at h
          cases h
    · rintro ⟨k, h1, h2, h3⟩
      by_cases e : k = i
      · subst e
        right
        rw [if_pos h3, h2]
        exact .head _
      · exact .inl ⟨k, by omega, h2, h3⟩
theorem eq_sorted : ∀ {xs ys : List Let}, xs.Pairwise (fun a c => rank a < rank c) → ys.Pairwise (fun a c => rank a < rank c) → (∀ l, l ∈ xs ↔ l ∈ ys) → xs = ys
  | [], [], _, _, _ => rfl
  | [], b :: q, _, _, h => absurd ((h b).mpr (.head _)) (by simp)
  | a :: r, [], _, _, h => absurd ((h a).mp (.head _)) (by simp)
  | a :: r, b :: q, hx, hy, h => by
    obtain ⟨x1, x2⟩ := List.pairwise_cons.mp hx
    obtain ⟨y1, y2⟩ := List.pairwise_cons.mp hy
    have e : a = b := by
      rcases List.mem_cons.mp ((h a).mp (.head _)) with e | e
      · exact e
      rcases List.mem_cons.mp ((h b).mpr (.head _)) with e' | e'
      · exact e'.symm
      have := y1 _ e
      have := x1 _ e'
      omega
    subst e
    congr 1
    refine eq_sorted x2 y2 fun l => ⟨fun hl => ?_, fun hl => ?_⟩
    · rcases List.mem_cons.mp ((h l).mp (.tail _ hl)) with rfl | e
      · exact absurd (x1 _ hl) (Int.lt_irrefl _)
      · exact e
    · rcases List.mem_cons.mp ((h l).mpr (.tail _ hl)) with rfl | e
      · exact absurd (y1 _ hl) (Int.lt_irrefl _)
      · exact e
/-- the last of each period among the letters kept -/
def LastOf (lv : Int) (ls rl : List Let) : Prop := rl.Pairwise (fun a c => rank a < rank c) ∧ ∀ l, l ∈ rl ↔ l ∈ ls ∧ keepM lv l = true ∧ ∀ l' ∈ ls, keepM lv l' = true → keyOf lv l' = keyOf lv l → rank l' ≤ rank l
theorem kept_last {lv : Int} (hlv : 1 ≤ lv ∧ lv ≤ 3) {ls sl rl : List Let} (ok : ∀ l ∈ ls, l.Ok) (hp : sl.Perm ls) (hs : sl.Pairwise (fun a c => rank a < rank c)) (hr : LastOf lv ls rl) :
    keptTo (lv + 1).toNat (sl.filter (keep1 lv)) (sl.filter (keep1 lv)).length = rl.map Let.way := by
  rw [keptTo_map]
  congr 1
  have hsm : (sl.filter (keep1 lv)).Pairwise (fun a c => rank a < rank c) := hs.sublist List.filter_sublist
  have mem : ∀ l, l ∈ sl.filter (keep1 lv) ↔ l ∈ ls ∧ keepM lv l = true := fun l => by rw [List.mem_filter, hp.mem_iff, keep_is hlv]
  generalize sl.filter (keep1 lv) = sm at hsm mem
  have at_ : ∀ {i j : Nat} {a c : Let}, sm[i]? = some a → sm[j]? = some c → i < j → rank a < rank c := fun {i j a c} ha hc hij => by
    obtain ⟨hi, rfl⟩ := List.getElem?_eq_some_iff.mp ha
    obtain ⟨hj, rfl⟩ := List.getElem?_eq_some_iff.mp hc
    exact List.pairwise_iff_getElem.mp hsm i j hi hj hij
  refine eq_sorted ?_ hr.1 fun l => ?_
  · exact hsm.sublist ((keptL_sub _ _ _).trans (List.take_sublist _ _))
  rw [hr.2, mem_keptL]
  constructor
  · rintro ⟨k, hk, hl, hkeep⟩
    obtain ⟨m1, m2⟩ := (mem l).mp (List.mem_of_getElem? hl)
    refine ⟨m1, m2, fun l' h1 h2 h3 => ?_⟩
    apply Int.not_lt.mp
    intro hlt
    obtain ⟨k', hk'⟩ := List.mem_iff_getElem?.mp ((mem l').mpr ⟨h1, h2⟩)
    have hkk : k < k' := by
      rcases Nat.lt_trichotomy k k' with q | q | q
      · exact q
      · subst q
        rw [hl] at hk'
        obtain rfl := Option.some.inj hk'
        omega
      · have := at_ hk' hl q
        omega
    have hk1 : k + 1 < sm.length := by
      have := (List.getElem?_eq_some_iff.mp hk').1
      omega
    obtain ⟨x, hx⟩ : ∃ x, sm[k + 1]? = some x := ⟨_, List.getElem?_eq_getElem hk1⟩
    have r1 := at_ hl hx (Nat.lt_succ_self _)
    have r2 : rank x ≤ rank l' := by
      by_cases e : k + 1 = k'
      · subst e
        rw [hx] at hk'
        obtain rfl := Option.some.inj hk'
        exact Int.le_refl _
      · exact Int.le_of_lt (at_ hx hk' (by omega))
    have ox := ok x ((mem x).mp (List.mem_of_getElem? hx)).1
    have k1 := key_mono (lv := lv) (ok l m1) ox (Int.le_of_lt r1)
    have k2 := key_mono (lv := lv) ox (ok l' h1) r2
    rw [keepAt_at hl hx, (same_key hlv (ok l m1) ox).mpr (by omega)] at hkeep
    cases hkeep
  · rintro ⟨h1, h2, h3⟩
    obtain ⟨k, hk⟩ := List.mem_iff_getElem?.mp ((mem l).mpr ⟨h1, h2⟩)
    refine ⟨k, (List.getElem?_eq_some_iff.mp hk).1, hk, ?_⟩
    by_cases hk1 : k + 1 < sm.length
    · obtain ⟨x, hx⟩ : ∃ x, sm[k + 1]? = some x := ⟨_, List.getElem?_eq_getElem hk1⟩
      have r1 := at_ hk hx (Nat.lt_succ_self _)
      obtain ⟨x1, x2⟩ := (mem x).mp (List.mem_of_getElem? hx)
      rw [keepAt_at hk hx]
      cases e : sameB (lv + 1).toNat l x with
      | false => rfl
      | true =>
        have := h3 x x1 x2 ((same_key hlv (ok l h1) (ok x x1)).mp e).symm
        omega
    · exact keepAt_last hk1

end
section
variable {prog : Program} {w : World} {A : Around} {E : Value → Shared → Prop} {hp : Heap} {ge : Array GenState} {dr : Drawn} {os : OsState} {k : Nat} {Q : Value → Shared → Prop} {a b : Int} {t u : Tok}
theorem fdivP (hb : 0 < b ∧ b < 1073741824) (h : ∀ t' tk, Q (.int (a / b) t') ⟨hp, ge, dr, tk, os⟩) : wpAny (model prog w) A (binaryOp .FloorDiv (.int a t) (.int b u)) Q E ⟨hp, ge, dr, k, os⟩ :=
  floordiv_int (by omega) (by rw [Int.fdiv_eq_ediv_of_nonneg _ (by omega)]; exact h _ _) (.inl (PyProof.noPylong_small (by omega)))
theorem modP (hb : 0 < b) (h : ∀ t' tk, Q (.int (a % b) t') ⟨hp, ge, dr, tk, os⟩) : wpAny (model prog w) A (binaryOp .Mod (.int a t) (.int b u)) Q E ⟨hp, ge, dr, k, os⟩ :=
  mod_int' (by omega) (by rw [Int.fmod_eq_emod_of_nonneg _ (by omega)]; exact h _ _)
theorem addP (h : ∀ t' tk, Q (.int (a + b) t') ⟨hp, ge, dr, tk, os⟩) : wpAny (model prog w) A (binaryOp .Add (.int a t) (.int b u)) Q E ⟨hp, ge, dr, k, os⟩ := PyProof.Rows.add_int (h _ _)
theorem subP (h : ∀ t' tk, Q (.int (a - b) t') ⟨hp, ge, dr, tk, os⟩) : wpAny (model prog w) A (binaryOp .Sub (.int a t) (.int b u)) Q E ⟨hp, ge, dr, k, os⟩ := PyProof.Rows.sub_int (h _ _)
theorem mulR (hb : Builtin.Int.intBits b ≤ 64) (h : ∀ t' tk, Q (.int (a * b) t') ⟨hp, ge, dr, tk, os⟩) : wpAny (model prog w) A (binaryOp .Mult (.int a t) (.int b u)) Q E ⟨hp, ge, dr, k, os⟩ := PyProof.Rows.mul_int (h _ _) (IntMulOk.of_right hb)
theorem mulL (hb : Builtin.Int.intBits a ≤ 64) (h : ∀ t' tk, Q (.int (a * b) t') ⟨hp, ge, dr, tk, os⟩) : wpAny (model prog w) A (binaryOp .Mult (.int a t) (.int b u)) Q E ⟨hp, ge, dr, k, os⟩ := PyProof.Rows.mul_int (h _ _) (IntMulOk.of_left hb)
theorem powP (hb : 0 ≤ b ∧ b ≤ 60) (h : ∀ t' tk, Q (.int (2 ^ b.toNat) t') ⟨hp, ge, dr, tk, os⟩) : wpAny (model prog w) A (binaryOp .Pow (.int 2 t) (.int b u)) Q E ⟨hp, ge, dr, k, os⟩ := pow_int_small hb.1 (by omega) (by decide) (h _ _)
theorem powE {p : Int} (hb : 0 ≤ b ∧ b ≤ 60) (e : 2 ^ b.toNat = p) (h : ∀ t' tk, Q (.int p t') ⟨hp, ge, dr, tk, os⟩) : wpAny (model prog w) A (binaryOp .Pow (.int 2 t) (.int b u)) Q E ⟨hp, ge, dr, k, os⟩ := by subst e; exact powP hb h
theorem eqI (h1 : a = b → Q (.bool true) ⟨hp, ge, dr, k, os⟩) (h2 : a ≠ b → Q (.bool false) ⟨hp, ge, dr, k, os⟩) : wpAny (model prog w) A (compareOp .Eq (.int a t) (.int b u)) Q E ⟨hp, ge, dr, k, os⟩ := by
  refine PyProof.Rows.eq_int ?_
  by_cases e : a = b
  · rw [beq_iff_eq.mpr e]; exact h1 e
  · rw [beq_eq_false_iff_ne.mpr e]; exact h2 e
end

section
variable {prog : Program} {w : World} {A : Around} {E : Value → Shared → Prop} {s : Shared}
theorem slice6 {sl : Addr} {u : Tok} {Q : Int × Int × Nat → Shared → Prop} (hs : s.heap.IsSliceOf sl .none (.int 6 u) .none) (h : Q (0, 1, 6) s) :
    wpAny (model prog w) A (Builtin.Slice.sliceApplied (.ref sl) (pure (7 : Int))) Q E s := by
  obtain ⟨os, hos, hcs, hds⟩ := id hs
  unfold Builtin.Slice.sliceApplied Builtin.Slice.sliceFields
  refine wpAny_bind (wpAny_bind (wpAny_field hos hds (x := .none) rfl (wpAny_bind (wpAny_field hos hds (x := .int 6 u) rfl (wpAny_bind (wpAny_field hos hds (x := .none) rfl (wpAny_pure ?_)))))))
  refine wpAny_bind (slicePart_none ?_)
  show wpAny _ _ (if ((1 : Int) == 0) = true then _ else _) _ _ s
  rw [if_neg (by decide)]
  refine wpAny_bind (slicePart_none (wpAny_bind (slicePart_int (wpAny_bind (wpAny_pure ?_)))))
  show wpAny _ _ (match Builtin.Slice.sliceAdjust none (some 6) 1 7 with | (lo, hi) => pure (lo, (1 : Int), Builtin.Slice.slicePlaces lo hi 1)) _ _ s
  rw [show Builtin.Slice.sliceAdjust none (some 6) 1 7 = (0, 6) from by decide]
  show wpAny _ _ (pure ((0 : Int), (1 : Int), Builtin.Slice.slicePlaces 0 6 1)) _ _ s
  rw [show Builtin.Slice.slicePlaces 0 6 1 = 6 from by decide]
  exact wpAny_pure h
theorem getItem6 {t sl : Addr} {a b c d e f g : Value} {n : Nat} {u : Tok} {Q : Value → Shared → Prop} (ho : s.heap.get? t = some (tupleO #[a, b, c, d, e, f, g] n)) (hs : s.heap.IsSliceOf sl .none (.int 6 u) .none)
    (h : Q (.ref s.heap.objs.size) { s with heap := s.heap.push { cls := .type "tuple", data := .seq #[a, b, c, d, e, f] } }) : wpAny (model prog w) A (getItem (.ref t) (.ref sl)) Q E s := by
  have ht : IsTup s.heap t #[a, b, c, d, e, f, g] := ⟨_, ho, rfl, n, rfl⟩
  obtain ⟨os, hos, hcs, hds⟩ := id hs
  have hTs : s.TypeIs (.ref sl) "slice" := ⟨os, hos, hcs⟩
  unfold getItem
  try with_reducible refine wpAny_holding ?_
  first | refine wpAny_bind (wpAny_pure ?_) | skip
  refine wpAny_bind (wpAny_sequenceKey ht.typeIs (by decide) ?_)
  refine wpAny_bind (wpAny_callSpecial?_slot (name := Str.ofString "__getitem__") ht.typeIs slot_tuple_getitem
    (wpAny_call_entry slot_tuple_getitem ht.typeIs entry_tuple_getitem ?_ (args_tuple_getitem _ _)))
  show wpAny _ _ (Builtin.Tuple.tupleItemsOf (.ref t) >>= _) _ _ s
  refine wpAny_bind (tupleItemsOf_ ht ?_)
  refine wpAny_bind (wpAny_typeOf hTs ?_)
  rw [if_pos (by decide)]
  refine wpAny_bind (slice6 hs ?_)
  show wpAny _ _ (if ((0 : Int) == 0 && (1 : Int) == 1 && 6 == (#[a, b, c, d, e, f, g] : Array Value).size) = true then _ else _) _ _ s
  rw [if_neg (by simp)]
  have hp : ((List.range 6).filterMap fun (k : Nat) => (#[a, b, c, d, e, f, g] : Array Value)[((0 : Int) + (k : Int) * 1).toNat]?).toArray = #[a, b, c, d, e, f] := rfl
  first
    | exact wpAny_bind (m := Builtin.Tuple.tupleExact _) (wpAny_newObj_type (wpAny_pure ⟨_, rfl, wpAny_pure h⟩) (by show (6 : Nat) ≤ sizeLine; rw [sizeLine_eq]; decide))
    | exact wpAny_bind (m := Builtin.Tuple.tupleExact _) (wpAny_newObj_type (wpAny_bind (wpAny_pure (wpAny_pure ⟨_, rfl, wpAny_pure h⟩))) (by show (6 : Nat) ≤ sizeLine; rw [sizeLine_eq]; decide))
    | exact wpAny_bind (wpAny_bind (m := Builtin.Tuple.tupleExact _) (wpAny_newObj_type (wpAny_pure (wpAny_pure ⟨_, rfl, wpAny_pure h⟩)) (by show (6 : Nat) ≤ sizeLine; rw [sizeLine_eq]; decide)))
    | exact wpAny_bind (wpAny_bind (m := Builtin.Tuple.tupleExact _) (wpAny_newObj_type (wpAny_pure ⟨_, rfl, wpAny_pure h⟩) (by show (6 : Nat) ≤ sizeLine; rw [sizeLine_eq]; decide)))
end
section
variable {prog : Program} {w : World} {A : Around} {E : Value → Shared → Prop} {hp : Heap} {ge : Array GenState} {dr : Drawn} {os : OsState} {kt : Nat} {h₀ : Heap} {L : Addr} {m : Str → Option Value} {news : List (Addr × Obj)}
/-- the first six of seven -/
theorem cut6 {value slice : PySem.Expr} {t : Addr} {a b c d e f g : Value} {n : Nat} {u : Tok} {Q : Value → Shared → Prop} (F : Fr h₀ L hp m) (N : News h₀ L hp news) (ht : (t, tupleO #[a, b, c, d, e, f, g] n) ∈ news)
    (h : ∀ D h', Fr h₀ L h' m → News h₀ L h' ((D, tupleO #[a, b, c, d, e, f] 0) :: news) → Q (.ref D) ⟨h', ge, dr, kt, os⟩)
    (hs : subscripted slice false (.ref t) (.ref hp.objs.size) = operate [.ref hp.objs.size, .ref t] (getItem (.ref t) (.ref hp.objs.size)))
    (hg : ∀ r, letTemporaryGo value (.ref t) r = pure ()) :
    wpAny (model prog w) A (subscriptTail value slice (.ref t) (.ref hp.objs.size)) Q E ⟨hp.push { cls := .type "slice", data := .fields #[.none, .int 6 u, .none] }, ge, dr, kt, os⟩ := by
  have F1 := F.push { cls := .type "slice", data := .fields #[.none, .int 6 u, .none] }
  have N1 : News h₀ L (hp.push { cls := .type "slice", data := .fields #[.none, .int 6 u, .none] }) news := N.grown fun _ _ e => Heap.get?_push_of_some _ e
  have ho := (N1 _ ht).1
  have ht' : IsTup (hp.push { cls := .type "slice", data := .fields #[.none, .int 6 u, .none] }) t #[a, b, c, d, e, f, g] := ⟨_, ho, rfl, n, rfl⟩
  refine subscriptTail_ops (s := ⟨hp.push { cls := .type "slice", data := .fields #[.none, .int 6 u, .none] }, ge, dr, kt, os⟩) ht'.typeIs slot_tuple_getitem.lookup (getItem6 ho (Heap.IsSliceOf.new ..) ?_) hs hg
  exact h _ _ (F1.push _) (News.push F1 N1 { cls := .type "tuple", data := .seq #[a, b, c, d, e, f] })
end

/-- the letter l stands at i: a pair of a moment and a mode -/
inductive LetAt (vs : List Value) (ts : List (Addr × Obj)) (i : Nat) (l : Let) : Prop
  | mk (P M : Addr) (k k' : Nat) (tm t1 t2 t3 t4 t5 t6 t7 : Tok) (wd : Int) (hw : 0 ≤ wd ∧ wd < 7) (hv : vs[i]? = some (.ref P)) (hP : (P, tupleO #[.ref M, .int l.m tm] k) ∈ ts) (hM : (M, momO l.y l.mo l.d l.h l.mi l.s wd t1 t2 t3 t4 t5 t6 t7 k') ∈ ts) : LetAt vs ts i l
/-- the letters -/
def LettersAre (vs : List Value) (ts : List (Addr × Obj)) (ls : List Let) : Prop :=
  vs.length = ls.length ∧ ∀ (i : Nat) (l : Let), ls[i]? = some l → l.n = i ∧ LetAt vs ts i l
/-- what the dict bears: of each period the last letter so far -/
structure DInv (lv : Int) (ls : List Let) (i : Nat) (kvs : List (Int × Value)) (tz : List (Addr × Obj)) : Prop where
  its : ∀ p ∈ kvs, ∃ l T W k, p.2 = .ref T ∧ (T, tupleO W k) ∈ tz ∧ IntsAre W.toList (tupOf l) ∧ l ∈ ls.take i ∧ keepM lv l = true ∧ p.1 = keyOf lv l ∧ ∀ l' ∈ ls.take i, keepM lv l' = true → keyOf lv l' = p.1 → rank l' ≤ rank l
  all : ∀ l ∈ ls.take i, keepM lv l = true → ∃ p ∈ kvs, p.1 = keyOf lv l
inductive JD (w : World) (lv : Int) (tl : Tok) (ls : List Let) (ts : List (Addr × Obj)) (Dl : Addr) (lst : Obj) (D : Addr) (i : Nat) (m : Str → Option Value) : List (Addr × Obj) → Prop
  | mk (o : Obj) (kvs : List (Int × Value)) (tz : List (Addr × Obj)) (hne : ∀ p ∈ (Dl, lst) :: tz, p.1 ≠ D) (hdi : o.IsDictOf (intKind PRG w) kvs) (hDI : DInv lv ls i kvs tz) (hsub : ∀ p ∈ ts, p ∈ tz) (hkl : kvs.length ≤ i) (hm1 : m (Str.ofString "letters") = some (.ref Dl)) (hm2 : m (Str.ofString "level") = some (.int lv tl)) (hm3 : m (Str.ofString "last") = some (.ref D)) : JD w lv tl ls ts Dl lst D i m ((D, o) :: (Dl, lst) :: tz)
theorem DInv.nil {lv : Int} {ls : List Let} {tz : List (Addr × Obj)} : DInv lv ls 0 [] tz := ⟨(fun _ h => nomatch h), (fun l h => by simp at h)⟩
theorem ltNe {Dl d : Addr} {o : Obj} {ts : List (Addr × Obj)} (h : @LT.lt Nat _ Dl d ∧ AllLt d ts) : ∀ p ∈ (Dl, o) :: ts, p.1 ≠ d := tbn_neAll (l := (Dl, o) :: ts) h
theorem turnNews {h₀ h : Heap} {L I D Dl P M : Addr} {oi od lst op om : Obj} {tz : List (Addr × Obj)} (N : News h₀ L h ((I, oi) :: (D, od) :: (Dl, lst) :: tz)) (hP : (P, op) ∈ tz) (hM : (M, om) ∈ tz) : News h₀ L h ((I, oi) :: (P, op) :: (M, om) :: (D, od) :: (Dl, lst) :: tz) := by
  intro p hp
  simp only [List.mem_cons] at hp
  rcases hp with rfl | rfl | rfl | rfl | rfl | hp
  · exact N _ (.head _)
  · exact N _ (.tail _ (.tail _ (.tail _ hP)))
  · exact N _ (.tail _ (.tail _ (.tail _ hM)))
  · exact N _ (.tail _ (.head _))
  · exact N _ (.tail _ (.tail _ (.head _)))
  · exact N _ (.tail _ (.tail _ (.tail _ hp)))
section
variable {prog : Program} {w : World} {A : Around} {E : Value → Shared → Prop} {hp : Heap} {ge : Array GenState} {dr : Drawn} {os : OsState} {kt : Nat} {Q : Value → Shared → Prop} {h₀ : Heap} {L D : Addr} {news : List (Addr × Obj)}
theorem lenVals {W : Array Value} {n k : Nat} (N : News h₀ L hp news) (hm : (D, listO W n) ∈ news) (hS : W.size = k) (hl : k ≤ 60) (h : ∀ t tk, Q (.int (k : Nat) t) ⟨hp, ge, dr, tk, os⟩) : wpAny (model prog w) A (call (.builtin "len") [.ref D]) Q E ⟨hp, ge, dr, kt, os⟩ := by
  refine PyProof.Rows.len_list ⟨_, (N _ hm).1, rfl, n, rfl⟩ (by rw [hS]; omega) ?_
  rw [hS]
  exact h _ _
end

/-- what stands under a key: nothing, or the last letter of that period so far -/
def OldIs (lv : Int) (ls : List Let) (i : Nat) (key : Int) (gs : List Int) : Prop :=
  (gs = [] ∧ ∀ l' ∈ ls.take i, keepM lv l' = true → keyOf lv l' ≠ key) ∨ ∃ l0, gs = tupOf l0 ∧ l0 ∈ ls.take i ∧ keepM lv l0 = true ∧ keyOf lv l0 = key ∧ ∀ l' ∈ ls.take i, keepM lv l' = true → keyOf lv l' = key → rank l' ≤ rank l0
theorem valueAt_mem {kvs : List (Int × Value)} {k : Int} {v : Value} (h : valueAt kvs k = some v) : (k, v) ∈ kvs := by
  unfold valueAt at h
  obtain ⟨p, hp, rfl⟩ := Option.map_eq_some_iff.mp h
  have e := List.find?_some hp
  have e' : p.1 = k := by simpa using e
  subst e'
  exact List.mem_of_find?_eq_some hp
theorem valueAt_no {kvs : List (Int × Value)} {k : Int} (h : valueAt kvs k = none) : ∀ p ∈ kvs, p.1 ≠ k := by
  unfold valueAt at h
  have h' := Option.map_eq_none_iff.mp h
  rw [List.find?_eq_none] at h'
  intro p hp
  simpa using h' p hp
theorem mem_stored {kvs : List (Int × Value)} {k : Int} {v : Value} {p : Int × Value} (h : p ∈ stored kvs k v) : p = (k, v) ∨ (p ∈ kvs ∧ p.1 ≠ k) := by
  unfold stored at h
  split at h
  · obtain ⟨q, hq, e⟩ := List.mem_map.mp h
    by_cases c : q.1 = k
    · rw [if_pos c] at e
      rw [c] at e
      exact .inl e.symm
    · rw [if_neg c] at e
      subst e
      exact .inr ⟨hq, c⟩
  · rename_i hc
    rcases List.mem_append.mp h with h | h
    · refine .inr ⟨h, fun c => hc ?_⟩
      rw [List.any_eq_true]
      exact ⟨p, h, by simpa using c⟩
    · exact .inl (List.mem_singleton.mp h)
theorem stored_has (kvs : List (Int × Value)) (k : Int) (v : Value) : (k, v) ∈ stored kvs k v := by
  unfold stored
  split
  · rename_i hc
    obtain ⟨p, hp, e⟩ := List.any_eq_true.mp hc
    have e' : p.1 = k := by simpa using e
    exact List.mem_map.mpr ⟨p, hp, by rw [if_pos e', e']⟩
  · exact List.mem_append_right _ (.head _)
theorem stored_keeps {kvs : List (Int × Value)} {k : Int} {v : Value} {p : Int × Value} (h : p ∈ kvs) : ∃ q ∈ stored kvs k v, q.1 = p.1 := by
  by_cases c : p.1 = k
  · exact ⟨(k, v), stored_has kvs k v, c.symm⟩
  · refine ⟨p, ?_, rfl⟩
    unfold stored
    split
    · exact List.mem_map.mpr ⟨p, h, by rw [if_neg c]⟩
    · exact List.mem_append_left _ h
theorem DInv.old {lv : Int} {ls : List Let} {i : Nat} {kvs : List (Int × Value)} {tz : List (Addr × Obj)} (h : DInv lv ls i kvs tz) (key : Int) :
    (valueAt kvs key = none ∧ OldIs lv ls i key []) ∨ ∃ l0 T W k, valueAt kvs key = some (.ref T) ∧ (T, tupleO W k) ∈ tz ∧ IntsAre W.toList (tupOf l0) ∧ OldIs lv ls i key (tupOf l0) := by
  cases e : valueAt kvs key with
  | none =>
    refine .inl ⟨rfl, .inl ⟨rfl, fun l' h1 h2 h3 => ?_⟩⟩
    obtain ⟨p, hp, hk⟩ := h.all l' h1 h2
    exact valueAt_no e p hp (hk.trans h3)
  | some v =>
    obtain ⟨l, T, W, k, rfl, h1, h2, h3, h4, h5, h6⟩ := h.its _ (valueAt_mem e)
    exact .inr ⟨l, T, W, k, rfl, h1, h2, .inr ⟨l, rfl, h3, h4, h5.symm, h6⟩⟩
theorem take_mem {ls : List Let} {i : Nat} {l l' : Let} (hl : ls[i]? = some l) : l' ∈ ls.take (i + 1) ↔ l' ∈ ls.take i ∨ l' = l := by
  rw [List.take_add_one, hl, List.mem_append]
  simp
theorem DInv.no {lv : Int} {ls : List Let} {i : Nat} {kvs : List (Int × Value)} {tz : List (Addr × Obj)} {l : Let} (h : DInv lv ls i kvs tz) (hl : ls[i]? = some l) (hk : keepM lv l = false) : DInv lv ls (i + 1) kvs tz where
  its := fun p hp => by
    obtain ⟨l0, T, W, k, e, h1, h2, h3, h4, h5, h6⟩ := h.its p hp
    refine ⟨l0, T, W, k, e, h1, h2, (take_mem hl).mpr (.inl h3), h4, h5, fun l' a b c => ?_⟩
    rcases (take_mem hl).mp a with a | rfl
    · exact h6 l' a b c
    · rw [hk] at b; cases b
  all := fun l' a b => by
    rcases (take_mem hl).mp a with a | rfl
    · exact h.all l' a b
    · rw [hk] at b; cases b
theorem DInv.step {lv : Int} {ls : List Let} {i : Nat} {kvs : List (Int × Value)} {tz tz' : List (Addr × Obj)} {l : Let} {gs : List Int} {R : Addr} {W : Array Value} {k : Nat} (h : DInv lv ls i kvs tz) (ok : ∀ l ∈ ls, l.Ok) (hl : ls[i]? = some l) (hk : keepM lv l = true)
    (ho : OldIs lv ls i (keyOf lv l) gs) (hs : ∀ p ∈ tz, p ∈ tz') (hR : (R, tupleO W k) ∈ tz') (hW : IntsAre W.toList (if lexI gs (tupOf l) = true then tupOf l else gs)) : DInv lv ls (i + 1) (stored kvs (keyOf lv l) (.ref R)) tz' where
  its := fun p hp => by
    rcases mem_stored hp with rfl | ⟨hp, hne⟩
    · rcases ho with ⟨rfl, h1⟩ | ⟨l0, rfl, h1, h2, h3, h4⟩
      · rw [if_pos (by rfl)] at hW
        refine ⟨l, R, W, k, rfl, hR, hW, (take_mem hl).mpr (.inr rfl), hk, rfl, fun l' a b c => ?_⟩
        rcases (take_mem hl).mp a with a | rfl
        · exact absurd c (h1 l' a b)
        · exact Int.le_refl _
      · have o0 := ok l0 (List.mem_of_mem_take h1)
        have o1 := ok l (List.mem_of_getElem? hl)
        by_cases c : lexI (tupOf l0) (tupOf l) = true
        · rw [if_pos c] at hW
          refine ⟨l, R, W, k, rfl, hR, hW, (take_mem hl).mpr (.inr rfl), hk, rfl, fun l' a b c' => ?_⟩
          rcases (take_mem hl).mp a with a | rfl
          · have := h4 l' a b c'
            have := (lexI_rank o0 o1).mp c
            omega
          · exact Int.le_refl _
        · rw [if_neg c] at hW
          refine ⟨l0, R, W, k, rfl, hR, hW, (take_mem hl).mpr (.inl h1), h2, h3.symm, fun l' a b c' => ?_⟩
          rcases (take_mem hl).mp a with a | rfl
          · exact h4 l' a b c'
          · rw [lexI_rank o0 o1] at c
            omega
    · obtain ⟨l0, T, W, k, e, h1, h2, h3, h4, h5, h6⟩ := h.its p hp
      refine ⟨l0, T, W, k, e, hs _ h1, h2, (take_mem hl).mpr (.inl h3), h4, h5, fun l' a b c => ?_⟩
      rcases (take_mem hl).mp a with a | rfl
      · exact h6 l' a b c
      · exact absurd c.symm hne
  all := fun l' a b => by
    rcases (take_mem hl).mp a with a | rfl
    · obtain ⟨p, hp, e⟩ := h.all l' a b
      obtain ⟨q, hq, e'⟩ := stored_keeps (k := keyOf lv l) (v := .ref R) hp
      exact ⟨q, hq, e'.trans e⟩
    · exact ⟨_, stored_has _ _ _, rfl⟩
section
variable {prog : Program} {w : World} {A : Around} {E : Value → Shared → Prop} {s : Shared} {hp : Heap} {ge : Array GenState} {dr : Drawn} {os : OsState} {kt : Nat} {Q : Value → Shared → Prop} {h₀ : Heap} {L D I Z : Addr} {m : Str → Option Value} {news tz : List (Addr × Obj)} {lv : Int} {ls : List Let} {i : Nat} {kvs : List (Int × Value)} {o : Obj}
theorem getOld {key : Int} {t : Tok} {nz : Nat} (N : News h₀ L hp news) (hpp : (D, o) ∈ news) (hd : o.IsDictOf (intKind prog w) kvs) (lo : (D == sysModules) = false) (hZ : (Z, tupleO #[] nz) ∈ news) (hDI : DInv lv ls i kvs tz) (hts : ∀ p ∈ tz, p ∈ news) (ap : ∀ p ∈ tz, p.1 ≠ D ∧ p.1 ≠ I) (az : Z ≠ D ∧ Z ≠ I)
    (h : ∀ T W k gs tk, News h₀ L hp ((T, tupleO W k) :: news) → IntsAre W.toList gs → OldIs lv ls i key gs → (T ≠ D ∧ T ≠ I) → Q (.ref T) ⟨hp, ge, dr, tk, os⟩) : wpAny (model prog w) A (call (.builtin "dict.get") [.ref D, .int key t, .ref Z]) Q E ⟨hp, ge, dr, kt, os⟩ := by
  refine kdg_get2 (knd := PySem.intKind _ _) N hpp hd lo (intKind_is _ _ _ _) _ rfl ?_
  have more : ∀ {T : Addr} {x : Obj}, (T, x) ∈ news → News h₀ L hp ((T, x) :: news) := fun hT p hp => by
    rcases List.mem_cons.mp hp with rfl | hp
    · exact N _ hT
    · exact N _ hp
  rcases hDI.old key with ⟨e, ho⟩ | ⟨l0, T, W, k, e, hT, hW, ho⟩
  · rw [e]
    exact h Z #[] nz [] _ (more hZ) .nil ho az
  · rw [e]
    exact h T W k _ _ (more (hts _ hT)) hW ho (ap _ hT)
theorem maxOld {T0 T1 : Addr} {W0 W1 : Array Value} {k0 k1 : Nat} {gs ns : List Int} (hh : A.handled = none) (hu : A.units + 8 < cLine) (F : Fr h₀ L hp m) (N : News h₀ L hp news) (h0 : (T0, tupleO W0 k0) ∈ news) (h1 : (T1, tupleO W1 k1) ∈ news) (i0 : IntsAre W0.toList gs) (i1 : IntsAre W1.toList ns) (a0 : T0 ≠ D ∧ T0 ≠ I) (a1 : T1 ≠ D ∧ T1 ≠ I)
    (h : ∀ R W k h' tk, Fr h₀ L h' m → News h₀ L h' ((R, tupleO W k) :: news) → IntsAre W.toList (if lexI gs ns = true then ns else gs) → (R ≠ D ∧ R ≠ I) → Q (.ref R) ⟨h', ge, dr, tk, os⟩) : wpAny (model prog w) A (call (.builtin "max") [.ref T0, .ref T1]) Q E ⟨hp, ge, dr, kt, os⟩ := by
  refine max_pair (b := lexI gs ns) hh (fun h' tk Q' E' k hQ' => ?_) fun h' tk k => ?_
  · exact rc_gt_tups ⟨_, k _ _ (N _ h1).1, rfl, k1, rfl⟩ ⟨_, k _ _ (N _ h0).1, rfl, k0, rfl⟩ i1 i0 (unitsIn hu) hQ'
  · have N' := newsKeep (tl := []) F N k fun _ hp => nomatch hp
    have F' := frKeep F k
    have more : ∀ {T : Addr} {x : Obj}, (T, x) ∈ news → News h₀ L h' ((T, x) :: news) := fun hT p hp => by
      rcases List.mem_cons.mp hp with rfl | hp
      · exact N' _ hT
      · exact N' _ hp
    cases e : lexI gs ns with
    | true => exact h T1 W1 k1 h' tk F' (more h1) (by rw [e, if_pos rfl]; exact i1) a1
    | false => exact h T0 W0 k0 h' tk F' (more h0) (by rw [e, if_neg (by decide)]; exact i0) a0
theorem setOld {key : Int} {t : Tok} {v : Value} {Q : Unit → Shared → Prop} (F : Fr h₀ L hp m) (N : News h₀ L hp news) (hpp : (D, o) ∈ news) (hd : o.IsDictOf (intKind prog w) kvs) (hsz : kvs.length ≤ sizeLine) (rest : List (Addr × Obj)) (hr : ∀ p ∈ rest, p ∈ news ∧ p.1 ≠ D)
    (h : ∀ h' o' tk, Fr h₀ L h' m → News h₀ L h' ((D, o') :: rest) → o'.IsDictOf (intKind prog w) (stored kvs key v) → Q () ⟨h', ge, dr, tk, os⟩) : wpAny (model prog w) A (setItem (.ref D) (.int key t) v) Q E ⟨hp, ge, dr, kt, os⟩ := by
  have hm := N _ hpp
  refine wpAny_setItem_pairs (knd := PySem.intKind prog w) (hsz := hsz) (intKind_is _ _ _ _) (Heap.dictOf_iff.mpr ⟨o, hm.1, hd⟩) fun h' hmm hs => ?_
  obtain ⟨o', ho', hd'⟩ := Heap.dictOf_iff.mp hmm
  refine h h' o' _ (F.change hs hm.2.1 hm.2.2) (fun p hq => ?_) hd'
  rcases List.mem_cons.mp hq with rfl | hq
  · exact ⟨ho', hm.2⟩
  · obtain ⟨a, b⟩ := hr p hq
    exact ⟨(hs.2 p.1 b).trans (N p a).1, (N p a).2⟩
theorem keyItem {T : Addr} {a b c : Int} {t1 t2 t3 u : Tok} {k : Nat} {value slice : PySem.Expr} (N : News h₀ L s.heap news) (hT : (T, tupleO #[.int a t1, .int b t2, .int c t3] k) ∈ news) (hlv : 1 ≤ lv ∧ lv ≤ 3) (h : ∀ t', Q (.int (if lv = 1 then a else if lv = 2 then b else c) t') s)
    (hs : subscripted slice false (.ref T) (.int (lv - 1) u) = operate [.ref T, .int (lv - 1) u] (getItem (.ref T) (.int (lv - 1) u))) : wpAny (model prog w) A (subscriptTail value slice (.ref T) (.int (lv - 1) u)) Q E s := by
  have hl : s.heap.IsTuple T #[.int a t1, .int b t2, .int c t3] := ⟨_, (N _ hT).1, rfl, k, rfl⟩
  obtain rfl | rfl | rfl : lv = 1 ∨ lv = 2 ∨ lv = 3 := by omega
  · exact item_tupleT (l := [.int a t1, .int b t2, .int c t3]) (j := 0) hl (by decide) (by decide) rfl rfl (h t1) hs
  · exact item_tupleT (l := [.int a t1, .int b t2, .int c t3]) (j := 1) hl (by decide) (by decide) rfl rfl (h t2) hs
  · exact item_tupleT (l := [.int a t1, .int b t2, .int c t3]) (j := 2) hl (by decide) (by decide) rfl rfl (h t3) hs
end
theorem rest4 {I R Dl D : Addr} {oi ro lst : Obj} {news tz : List (Addr × Obj)} (hI : (I, oi) ∈ news) (hR : (R, ro) ∈ news) (hDl : (Dl, lst) ∈ news) (hz : ∀ p ∈ tz, p ∈ news) (nI : I ≠ D) (nR : R ≠ D) (nz : ∀ p ∈ (Dl, lst) :: tz, p.1 ≠ D) : ∀ p ∈ (I, oi) :: (R, ro) :: (Dl, lst) :: tz, p ∈ news ∧ p.1 ≠ D := by
  intro p hp
  simp only [List.mem_cons] at hp
  rcases hp with rfl | rfl | rfl | hp
  · exact ⟨hI, nI⟩
  · exact ⟨hR, nR⟩
  · exact ⟨hDl, nz _ (.head _)⟩
  · exact ⟨hz _ hp, nz _ (.tail _ hp)⟩
theorem endNews {h₀ h : Heap} {L I D Dl R : Addr} {oi od lst ro : Obj} {tz : List (Addr × Obj)} (N : News h₀ L h ((D, od) :: (I, oi) :: (R, ro) :: (Dl, lst) :: tz)) : News h₀ L h ((I, oi) :: (D, od) :: (Dl, lst) :: (R, ro) :: tz) := by
  intro p hp
  refine N p ?_
  simp only [List.mem_cons] at hp ⊢
  rcases hp with h | h | h | h | h <;> simp [h]
theorem offR {I D Dl R : Addr} {od od' lst ro : Obj} {tz : List (Addr × Obj)} (off : ∀ p ∈ (D, od) :: (Dl, lst) :: tz, p.1 ≠ I) (aR : R ≠ I) : ∀ p ∈ (D, od') :: (Dl, lst) :: (R, ro) :: tz, p.1 ≠ I := by
  intro p hp
  simp only [List.mem_cons] at hp
  rcases hp with rfl | rfl | rfl | hp
  · exact off (D, od) (.head _)
  · exact off _ (.tail _ (.head _))
  · exact aR
  · exact off _ (.tail _ (.tail _ hp))
theorem neR {D Dl R : Addr} {lst ro : Obj} {tz : List (Addr × Obj)} (h : ∀ p ∈ (Dl, lst) :: tz, p.1 ≠ D) (aR : R ≠ D) : ∀ p ∈ (Dl, lst) :: (R, ro) :: tz, p.1 ≠ D := by
  intro p hp
  simp only [List.mem_cons] at hp
  rcases hp with rfl | rfl | hp
  · exact h _ (.head _)
  · exact aR
  · exact h _ (.tail _ hp)
theorem pow_lv {lv : Int} (hlv : 1 ≤ lv ∧ lv ≤ 3) : (0 : Int) < 2 ^ (11 - 3 * lv).toNat ∧ (2 : Int) ^ (11 - 3 * lv).toNat < 1073741824 := by
  obtain rfl | rfl | rfl : lv = 1 ∨ lv = 2 ∨ lv = 3 := by omega
  · decide
  · decide
  · decide
theorem keepM_yes {lv : Int} {l : Let} (h1 : l.m / 4096 % 16 = 8) (h2 : l.m / 2 ^ (11 - 3 * lv).toNat % 2 = 1) : keepM lv l = true := by unfold keepM; rw [decide_eq_true h1, decide_eq_true h2]; rfl
theorem keepM_no1 {lv : Int} {l : Let} (h1 : l.m / 4096 % 16 ≠ 8) : keepM lv l = false := by unfold keepM; rw [decide_eq_false h1]; rfl
theorem keepM_no2 {lv : Int} {l : Let} (h2 : l.m / 2 ^ (11 - 3 * lv).toNat % 2 ≠ 1) : keepM lv l = false := by unfold keepM; rw [decide_eq_false h2, Bool.and_false]
theorem apOff {I D Dl : Addr} {od lst : Obj} {tz : List (Addr × Obj)} (hne : ∀ p ∈ (Dl, lst) :: tz, p.1 ≠ D) (off : ∀ p ∈ (D, od) :: (Dl, lst) :: tz, p.1 ≠ I) : ∀ p ∈ tz, p.1 ≠ D ∧ p.1 ≠ I := fun p hp => ⟨hne p (.tail _ hp), off p (.tail _ (.tail _ hp))⟩
theorem newNe {h₀ h : Heap} {L D : Addr} {o : Obj} {news : List (Addr × Obj)} (N : News h₀ L h news) (hm : (D, o) ∈ news) : h.objs.size ≠ D := Nat.ne_of_gt (Heap.lt_size (N _ hm).1)
theorem tupInts {l : Let} {i : Nat} {t1 t2 t3 t4 t5 t6 t7 : Tok} (h : l.n = i) : IntsAre (#[Value.int l.y t1, .int l.mo t2, .int l.d t3, .int l.h t4, .int l.mi t5, .int l.s t6, .int (i : Int) t7] : Array Value).toList (tupOf l) := by
  unfold tupOf
  rw [h]
  exact .cons _ _ (.cons _ _ (.cons _ _ (.cons _ _ (.cons _ _ (.cons _ _ (.cons _ _ .nil))))))
theorem newsBack {h₀ h : Heap} {L I D Dl P M : Addr} {oi od lst op om : Obj} {tz : List (Addr × Obj)} (N : News h₀ L h ((I, oi) :: (P, op) :: (M, om) :: (D, od) :: (Dl, lst) :: tz)) : News h₀ L h ((I, oi) :: (D, od) :: (Dl, lst) :: tz) := by
  intro p hp
  refine N p ?_
  simp only [List.mem_cons] at hp ⊢
  rcases hp with h | h | h | h <;> simp [h]
theorem ints1 {vs : List Value} {n : Int} {ns : List Int} (h : IntsAre vs (n :: ns)) : ∃ t r, vs = .int n t :: r ∧ IntsAre r ns := by
  cases h with
  | cons _ t h => exact ⟨t, _, rfl, h⟩
theorem ints3 {vs : List Value} {a b c : Int} (h : IntsAre vs [a, b, c]) : ∃ t1 t2 t3, vs = [.int a t1, .int b t2, .int c t3] := by
  obtain ⟨t1, _, e1, h1⟩ := ints1 h
  obtain ⟨t2, _, e2, h2⟩ := ints1 h1
  obtain ⟨t3, _, e3, h3⟩ := ints1 h2
  cases h3
  exact ⟨t1, t2, t3, by rw [e1, e2, e3]⟩
theorem ints7 {vs : List Value} {a b c d e f g : Int} (h : IntsAre vs [a, b, c, d, e, f, g]) : ∃ t1 t2 t3 t4 t5 t6 t7, vs = [.int a t1, .int b t2, .int c t3, .int d t4, .int e t5, .int f t6, .int g t7] := by
  obtain ⟨t1, _, e1, h1⟩ := ints1 h
  obtain ⟨t2, _, e2, h2⟩ := ints1 h1
  obtain ⟨t3, _, e3, h3⟩ := ints1 h2
  obtain ⟨t4, _, e4, h4⟩ := ints1 h3
  obtain ⟨t5, t6, t7, e5⟩ := ints3 h4
  exact ⟨t1, t2, t3, t4, t5, t6, t7, by rw [e1, e2, e3, e4, e5]⟩

section
variable {prog : Program} {w : World} {A : Around} {E : Value → Shared → Prop} {s : Shared} {h₀ : Heap} {L a : Addr} {m : Str → Option Value} {news : List (Addr × Obj)} {vs : List Value}
/-- a list of none or one is sorted -/
theorem few_list_sort {n : Nat} {P : PySem.Fin → Shared → Prop} (F : Fr h₀ L s.heap m) (N : News h₀ L s.heap news) (ho : s.heap.get? a = some (seqObj "list" vs.toArray n)) (haL : a ≠ L) (ha0 : h₀.get? a = none) (hna : ∀ p ∈ news, p.1 ≠ a) (h2 : vs.length < 2)
    (h : ∀ c h' tk, Fr h₀ L h' m → News h₀ L h' ((a, seqObj "list" vs.toArray c) :: news) → P (.done (.ret .none)) { s with heap := h', toks := tk }) : wpAny (model prog w) A (Builtin.«list.sort» ⟨[.ref a], []⟩) P E s := by
  have s1 := Heap.SameBut.update s.heap a (Obj.mapSeq fun _ => (#[] : Array Value))
  obtain ⟨e1, ho1⟩ : ∃ e1, (s.heap.update a (Obj.mapSeq fun _ => (#[] : Array Value))).get? a = some (seqObj "list" #[] e1) := ⟨_, get?_update_seq ho fun _ => #[]⟩
  have F3 : Fr h₀ L (((s.heap.update a (Obj.mapSeq fun _ => (#[] : Array Value))).push (seqObj "tuple" vs.toArray 0)).push (seqObj "list" #[] 0)) m := ((kas_fr F s1 haL ha0).push _).push _
  have N2 : News h₀ L (((s.heap.update a (Obj.mapSeq fun _ => (#[] : Array Value))).push (seqObj "tuple" vs.toArray 0)).push (seqObj "list" #[] 0)) news :=
    (kas_news N s1 hna).grown fun b x e => Heap.get?_push_of_some _ (Heap.get?_push_of_some _ e)
  have na : (((s.heap.update a (Obj.mapSeq fun _ => (#[] : Array Value))).push (seqObj "tuple" vs.toArray 0)).push (seqObj "list" #[] 0)).get? a = some (seqObj "list" #[] e1) := Heap.get?_push_of_some _ (Heap.get?_push_of_some _ ho1)
  rw [list_sort_plain]
  refine wpAny_bind (listItems_at ho rfl ?_)
  refine wpAny_bind (listUpdate_at ho rfl ?_ (by rw [List.size_toArray, sizeLine_eq]; omega) (Nat.zero_le _))
  refine wpAny_bind (seqEpoch_at ho1 rfl ?_)
  refine wpAny_bind (wpAny_newTuple ?_ (by show vs.length ≤ _; rw [sizeLine_eq]; omega))
  refine wpAny_bind (wpAny_newList ?_ (Nat.zero_le _))
  refine wpAny_holding ?_
  show wpAny (model prog w) A _ P E { s with heap := ((s.heap.update a (Obj.mapSeq fun _ => (#[] : Array Value))).push (seqObj "tuple" vs.toArray 0)).push (seqObj "list" #[] 0) }
  dsimp only
  have hn2 : vs.toArray.size < 2 := by rw [List.size_toArray]; omega
  rw [if_pos hn2, if_pos hn2]
  refine wpAny_bind (wpAny_pure ?_)
  refine wpAny_bind (wpAny_pure ?_)
  have hout : (arrOf (SortSt.mk' general' (vs.toArray.zip vs.toArray) #[] 7 none)).map (·.2) = vs.toArray := by
    show (vs.toArray.zip vs.toArray).map (·.2) = vs.toArray
    rw [Array.map_snd_zip]
    exact Nat.le_refl _
  have s2 := Heap.SameBut.update (((s.heap.update a (Obj.mapSeq fun _ => (#[] : Array Value))).push (seqObj "tuple" vs.toArray 0)).push (seqObj "list" #[] 0)) a (Obj.mapSeq fun _ => vs.toArray)
  obtain ⟨c2, hc2⟩ : ∃ c2, ((((s.heap.update a (Obj.mapSeq fun _ => (#[] : Array Value))).push (seqObj "tuple" vs.toArray 0)).push (seqObj "list" #[] 0)).update a (Obj.mapSeq fun _ => vs.toArray)).get? a = some (seqObj "list" vs.toArray c2) := ⟨_, get?_update_seq na fun _ => vs.toArray⟩
  refine wpAny_bind (seqEpoch_at na rfl ?_)
  dsimp only
  rw [hout]
  refine wpAny_bind (listUpdate_at na rfl ?_ (Nat.zero_le _) (by rw [List.size_toArray, sizeLine_eq]; omega))
  simp only [bne_self_eq_false, Bool.false_eq_true, if_false]
  refine wpAny_pure (h c2 _ _ (kas_fr F3 s2 haL ha0) fun p hp => ?_)
  rcases List.mem_cons.mp hp with rfl | hp
  · exact ⟨hc2, haL, ha0⟩
  · exact kas_news N2 s2 hna p hp
end

/-- tuples of letters, as a list bears them -/
def TupsAre (vs : List Value) (news : List (Addr × Obj)) (ls : List Let) : Prop :=
  vs.length = ls.length ∧ ∀ (i : Nat) (l : Let), ls[i]? = some l → ∃ T W k, vs[i]? = some (.ref T) ∧ (T, tupleO W k) ∈ news ∧ IntsAre W.toList (tupOf l)
theorem katTups_of {h₀ h : Heap} {L : Addr} {news : List (Addr × Obj)} (N : News h₀ L h news) : ∀ {vs : List Value} {ls : List Let}, TupsAre vs news ls → ∃ fs, KatTups h vs fs ∧ fs.length = ls.length ∧ ∀ v ∈ fs, ∃ n t, v = .int n t
  | [], [], _ => ⟨[], KatTups.nil, rfl, fun _ h => nomatch h⟩
  | [], _ :: _, h => by have := h.1; simp at this
  | _ :: _, [], h => by have := h.1; simp at this
  | v :: vs, l :: ls, h => by
    obtain ⟨T, W, k, e, hT, hW⟩ := h.2 0 l rfl
    obtain rfl : v = .ref T := by simpa using e
    obtain ⟨fs, h1, h2, h3⟩ := katTups_of N (vs := vs) (ls := ls) ⟨by simpa using h.1, fun i l' hl => by simpa using h.2 (i + 1) l' (by simpa using hl)⟩
    unfold tupOf at hW
    obtain ⟨t, r, e1, _⟩ := hW.cons_inv
    refine ⟨.int l.y t :: fs, KatTups.cons (N _ hT).1 rfl rfl (by rw [← Array.getElem?_toList, e1]; rfl) h1, by rw [List.length_cons, List.length_cons, h2], fun v hv => ?_⟩
    rcases List.mem_cons.mp hv with rfl | hv
    · exact ⟨_, _, rfl⟩
    · exact h3 v hv
theorem TupsAre.more {vs : List Value} {news news' : List (Addr × Obj)} {ls : List Let} (h : TupsAre vs news ls) (hs : ∀ p ∈ news, p ∈ news') : TupsAre vs news' ls :=
  ⟨h.1, fun i l hl => by obtain ⟨T, W, k, a, b, c⟩ := h.2 i l hl; exact ⟨T, W, k, a, hs _ b, c⟩⟩
theorem TupsAre.pick {vs : List Value} {news : List (Addr × Obj)} {ls : List Let} (h : TupsAre vs news ls) (d : Let) : ∀ (p : List Nat), (∀ i ∈ p, i < ls.length) → TupsAre (p.map fun i => vs.getD i Value.none) news (p.map fun i => ls.getD i d) := by
  intro p hp
  refine ⟨by simp, fun i l hl => ?_⟩
  rw [List.getElem?_map] at hl
  obtain ⟨j, hj, rfl⟩ := Option.map_eq_some_iff.mp hl
  have hjl := hp j (List.mem_of_getElem? hj)
  obtain ⟨T, W, k, a, b, c⟩ := h.2 j (ls.getD j d) (by rw [List.getD_eq_getElem?_getD, List.getElem?_eq_getElem hjl]; rfl)
  exact ⟨T, W, k, by rw [List.getElem?_map, hj]; show some (vs.getD j Value.none) = _; rw [List.getD_eq_getElem?_getD, a]; rfl, b, c⟩
section
variable {prog : Program} {w : World} {A : Around} {E : Value → Shared → Prop} {s : Shared} {h₀ : Heap} {L a D : Addr} {m : Str → Option Value} {news : List (Addr × Obj)} {vs : List Value} {ls : List Let}
theorem askTups {news' : List (Addr × Obj)} {i j : Nat} {C : Bool → Shared → Prop} (N : News h₀ L s.heap news') (hs : ∀ p ∈ news, p ∈ news') (hT : TupsAre vs news ls) (ok : ∀ l ∈ ls, l.Ok) (d : Let) (hi : i < vs.length) (hj : j < vs.length) {o : Bool} (h : C (decide (rank (ls.getD i d) < rank (ls.getD j d))) s) : kas_ask prog w A (tuples' o) vs i j C s := by
  have at_ : ∀ k, k < vs.length → ∃ T W n, vs.getD k Value.none = .ref T ∧ s.heap.get? T = some (tupleO W n) ∧ IntsAre W.toList (tupOf (ls.getD k d)) ∧ (ls.getD k d).Ok := fun k hk => by
    have hk' : k < ls.length := hT.1 ▸ hk
    have e : ls[k]? = some (ls.getD k d) := by rw [List.getD_eq_getElem?_getD, List.getElem?_eq_getElem hk']; rfl
    obtain ⟨T, W, n, a, b, c⟩ := hT.2 k _ e
    exact ⟨T, W, n, by rw [List.getD_eq_getElem?_getD, a]; rfl, (N _ (hs _ b)).1, c, ok _ (List.mem_of_getElem? e)⟩
  obtain ⟨T1, W1, n1, e1, g1, i1, o1⟩ := at_ i hi
  obtain ⟨T2, W2, n2, e2, g2, i2, o2⟩ := at_ j hj
  unfold kas_ask
  rw [e1, e2]
  have l1 : W1.size = 7 := by rw [← Array.length_toList, i1.length]; rfl
  have l2 : W2.size = 7 := by rw [← Array.length_toList, i2.length]; rfl
  refine kat_lt g1 rfl g2 rfl ?_
  rw [l1, l2, show decide (7 < 7) = false from rfl]
  refine katLexI 0 i1 i2 rfl ?_
  rw [lexI_rankB o1 o2]
  exact h
/-- a list of letters' tuples is sorted by their ranks -/
theorem sortTups {n : Nat} {Q : Value → Shared → Prop} (F : Fr h₀ L s.heap m) (N : News h₀ L s.heap ((D, listO vs.toArray n) :: news)) (hna : ∀ p ∈ news, p.1 ≠ D) (h64 : vs.length < 64) (hT : TupsAre vs news ls) (ok : ∀ l ∈ ls, l.Ok) (hinj : ls.Pairwise fun a c => rank a ≠ rank c)
    (h : ∀ out sl c h' tk, Fr h₀ L h' m → News h₀ L h' ((D, listO (List.toArray out) c) :: news) → TupsAre out news sl → sl.Perm ls → sl.Pairwise (fun a c => rank a < rank c) → Q .none { s with heap := h', toks := tk }) : wpAny (model prog w) A (call (.builtin "list.sort") [.ref D]) Q E s := by
  have nz := N _ (.head _)
  have N₀ : News h₀ L s.heap news := fun p hp => N p (.tail _ hp)
  by_cases h2 : vs.length < 2
  · refine wpAny_call_entry slot_list_sort ⟨_, nz.1, rfl⟩ entry_list_sort (few_list_sort F N₀ nz.1 nz.2.1 nz.2.2 hna h2 fun c h' tk F' N' => ⟨_, rfl, h vs ls c h' tk F' N' hT (List.Perm.refl _) ?_⟩) (args_list_sort _)
    have hl := hT.1
    match ls, hl with
    | [], _ => exact List.Pairwise.nil
    | [x], _ => exact List.pairwise_singleton _ _
    | _ :: _ :: _, hl => simp at hl; omega
  · have h2' : 2 ≤ vs.length := by omega
    refine wpAny_call_entry slot_list_sort ⟨_, nz.1, rfl⟩ entry_list_sort (kat_list_sort F N₀ nz.1 nz.2.1 nz.2.2 hna h2' h64 fun e1 h' F' N' => ?_) (args_list_sort _)
    have N'' : News h₀ L h' news := fun p hp => N' p (.tail _ hp)
    obtain ⟨fs, k1, k2, k3⟩ := katTups_of N'' hT
    refine kat_kind (s := { s with heap := h' }) (T := Value.type "int") k1 (by rw [k2, ← hT.1]; omega) (fun v hv => ?_) rfl ?_
    · obtain ⟨x, t, rfl⟩ := k3 v hv
      exact .now
    · have d : Let := ⟨0, 0, 0, 0, 0, 0, 0, 0⟩
      have inj : ∀ i j, i < vs.length → j < vs.length → rank (ls.getD i d) = rank (ls.getD j d) → i = j := fun i j hi hj e => by
        rw [hT.1] at hi hj
        have g : ∀ k (hk : k < ls.length), ls.getD k d = ls[k] := fun k hk => by rw [List.getD_eq_getElem?_getD, List.getElem?_eq_getElem hk]; rfl
        rw [g i hi, g j hj] at e
        have pw := List.pairwise_iff_getElem.mp hinj
        rcases Nat.lt_trichotomy i j with q | q | q
        · exact absurd e (pw i j _ _ q)
        · exact q
        · exact absurd e.symm (pw j i _ _ q)
      refine sort_ranks (rk := fun i => rank (ls.getD i d)) (fun s' => s' = { s with heap := h' }) (by omega) inj (fun i j C s' e hi hj hC => ?_) (fun p s' hp ha e => ?_) rfl
      · subst e
        exact askTups N'' (fun _ h => h) hT ok d hi hj (hC _ rfl)
      · subst e
        rw [hT.1] at hp ha
        obtain ⟨q1, q2⟩ := sorted_of (ls := ls) d hp ha (fun a c => rank a < rank c) fun i j hi hj hr => hr
        have hlt : ∀ i ∈ p.toList, i < ls.length := fun i hi => by
          have := (List.Perm.mem_iff (Array.perm_iff_toList_perm.mp hp)).mp hi
          simpa using this
        refine KasFin.intro (g := fun o => (D, o) :: news) F' N' (UpdF.head hna) fun h'' c F3 N3 => ⟨_, rfl, h _ _ c h'' _ F3 N3 (hT.pick d _ hlt) q1 q2⟩
end
section
variable {prog : Program} {w : World} {A : Around} {E : Value → Shared → Prop} {hp : Heap} {ge : Array GenState} {dr : Drawn} {os : OsState} {kt : Nat} {h₀ : Heap} {L d v : Addr} {m : Str → Option Value} {news : List (Addr × Obj)} {kvs : List (Int × Value)} {o : Obj} {ls : List Let}
/-- «sorted(last.values())» -/
theorem sortedVals {Q : Value → Shared → Prop} (hh : A.handled = none) (F : Fr h₀ L hp m) (N : News h₀ L hp news) (hv : (v, { cls := .type "dict_values", data := .fields #[.ref d] }) ∈ news) (hpp : (d, o) ∈ news) (hd : o.IsDictOf (intKind prog w) kvs) (hn : kvs.length ≤ 60) (hT : TupsAre (kvs.map (·.2)) news ls) (ok : ∀ l ∈ ls, l.Ok) (hinj : ls.Pairwise fun a c => rank a ≠ rank c)
    (h : ∀ D out sl c h' tk, Fr h₀ L h' m → News h₀ L h' ((D, listO (List.toArray out) c) :: news) → (∀ p ∈ news, p.1 < D) → TupsAre out news sl → sl.Perm ls → sl.Pairwise (fun a c => rank a < rank c) → Q (.ref D) ⟨h', ge, dr, tk, os⟩) : wpAny (model prog w) A (call (.builtin "sorted") [.ref v]) Q E ⟨hp, ge, dr, kt, os⟩ := by
  obtain ⟨ep, hat⟩ := (kda_dict (s := ⟨hp, ge, dr, kt, os⟩) N hpp hd).dictAt
  refine kdu_sorted (kdl_values (knd := PySem.intKind prog w) (kvs := kvs) (ep := ep)) hh (s := ⟨hp, ge, dr, kt, os⟩) F N ⟨⟨_, (N _ hv).1, rfl, rfl⟩, hat⟩ (kdl_size (by omega)) fun B h' tk vs F' N' l1 hl hV => ?_
  have e := kdl_vals_eq vs hl hV
  subst e
  exact sortTups F' N' (fun p hp => Nat.ne_of_lt (l1 p hp)) (by rw [hl]; omega) hT ok hinj fun out sl c h'' tk' F3 N3 hT3 hp3 hs3 => h B out sl c h'' tk' F3 N3 l1 hT3 hp3 hs3
end
/-- the dict's letters -/
theorem DInv.letters {lv : Int} {ls : List Let} {kvs : List (Int × Value)} {tz : List (Addr × Obj)} (h : DInv lv ls ls.length kvs tz) (ok : ∀ l ∈ ls, l.Ok) (hnum : ∀ (i : Nat) (l : Let), ls[i]? = some l → l.n = i) (hnd : (kvs.map (·.1)).Nodup) :
    ∃ rl, TupsAre (kvs.map (·.2)) tz rl ∧ (∀ l ∈ rl, l.Ok) ∧ (rl.Pairwise fun a c => rank a ≠ rank c) ∧ ∀ sl, sl.Perm rl → sl.Pairwise (fun a c => rank a < rank c) → LastOf lv ls sl := by
  obtain ⟨its, all⟩ := h
  rw [List.take_length] at all
  simp only [List.take_length] at its
  obtain ⟨f, hf⟩ : ∃ f : Int × Value → Let, ∀ p ∈ kvs, ∃ T W k, p.2 = .ref T ∧ (T, tupleO W k) ∈ tz ∧ IntsAre W.toList (tupOf (f p)) ∧ f p ∈ ls ∧ keepM lv (f p) = true ∧ p.1 = keyOf lv (f p) ∧ ∀ l' ∈ ls, keepM lv l' = true → keyOf lv l' = p.1 → rank l' ≤ rank (f p) := by
    refine ⟨fun p => if hp : p ∈ kvs then Classical.choose (its p hp) else ⟨0, 0, 0, 0, 0, 0, 0, 0⟩, fun p hp => ?_⟩
    simp only [dif_pos hp]
    exact Classical.choose_spec (its p hp)
  have same : ∀ a ∈ ls, ∀ c ∈ ls, rank a = rank c → a = c := fun a ha c hc e => by
    obtain ⟨i, hi⟩ := List.mem_iff_getElem?.mp ha
    obtain ⟨j, hj⟩ := List.mem_iff_getElem?.mp hc
    have := rank_n (ok a ha) (ok c hc) e
    rw [hnum i a hi, hnum j c hj] at this
    have e' : i = j := by omega
    subst e'
    rw [hi] at hj
    exact Option.some.inj hj
  have memf : ∀ l, l ∈ kvs.map f ↔ l ∈ ls ∧ keepM lv l = true ∧ ∀ l' ∈ ls, keepM lv l' = true → keyOf lv l' = keyOf lv l → rank l' ≤ rank l := fun l => by
    rw [List.mem_map]
    constructor
    · rintro ⟨p, hp, rfl⟩
      obtain ⟨T, W, k, h1, h2, h3, h4, h5, h6, h7⟩ := hf p hp
      exact ⟨h4, h5, fun l' a b c => h7 l' a b (c.trans h6.symm)⟩
    · rintro ⟨h1, h2, h3⟩
      obtain ⟨p, hp, e⟩ := all l h1 h2
      obtain ⟨T, W, k, g1, g2, g3, g4, g5, g6, g7⟩ := hf p hp
      refine ⟨p, hp, same _ g4 _ h1 ?_⟩
      have a1 := h3 (f p) g4 g5 (g6.symm.trans e)
      have a2 := g7 l h1 h2 e.symm
      omega
  refine ⟨kvs.map f, ⟨by simp, fun i l hl => ?_⟩, fun l hl => ok l ((memf l).mp hl).1, ?_, fun sl hp hs => ⟨hs, fun l => by rw [hp.mem_iff, memf]⟩⟩
  · rw [List.getElem?_map] at hl ⊢
    obtain ⟨p, hp, rfl⟩ := Option.map_eq_some_iff.mp hl
    obtain ⟨T, W, k, g1, g2, g3, _⟩ := hf p (List.mem_of_getElem? hp)
    exact ⟨T, W, k, by rw [hp, ← g1]; rfl, g2, g3⟩
  · rw [List.pairwise_map]
    have hnd' : kvs.Pairwise fun a c => a.1 ≠ c.1 := List.pairwise_map.mp hnd
    refine List.Pairwise.imp_of_mem (fun {a c} ha hc hne e => hne ?_) hnd'
    obtain ⟨_, _, _, _, _, _, a4, _, a6, _⟩ := hf a ha
    obtain ⟨_, _, _, _, _, _, c4, _, c6, _⟩ := hf c hc
    rw [a6, c6]
    have k1 := key_mono (lv := lv) (ok _ a4) (ok _ c4) (Int.le_of_eq e)
    have k2 := key_mono (lv := lv) (ok _ c4) (ok _ a4) (Int.le_of_eq e.symm)
    omega
theorem sevenOf {W : Array Value} {l : Let} (h : IntsAre W.toList (tupOf l)) : ∃ t1 t2 t3 t4 t5 t6 t7, W = #[Value.int l.y t1, .int l.mo t2, .int l.d t3, .int l.h t4, .int l.mi t5, .int l.s t6, .int l.n t7] := by
  unfold tupOf at h
  obtain ⟨t1, t2, t3, t4, t5, t6, t7, e⟩ := ints7 h
  exact ⟨t1, t2, t3, t4, t5, t6, t7, Array.toList_inj.mp e⟩
theorem argSub {Dl : Addr} {lst : Obj} {ts led : List (Addr × Obj)} (h1 : (Dl, lst) ∈ led) (h2 : ∀ p ∈ ts, p ∈ led) : ∀ p ∈ (Dl, lst) :: ts, p ∈ led := fun p hp => by
  rcases List.mem_cons.mp hp with rfl | hp
  · exact h1
  · exact h2 p hp
theorem newsMore {h₀ h : Heap} {L T : Addr} {x : Obj} {news : List (Addr × Obj)} (N : News h₀ L h news) (hT : (T, x) ∈ news) : News h₀ L h ((T, x) :: news) := fun p hp => by
  rcases List.mem_cons.mp hp with rfl | hp
  · exact N _ hT
  · exact N _ hp
def JW (sl : List Let) (base : List (Addr × Obj)) (i : Nat) (ys : List Value) (news : List (Addr × Obj)) : Prop := news = base ∧ StrsAre ys ((sl.take i).map Let.way)
theorem ways_step {sl : List Let} {i : Nat} {ys : List Value} {l : Let} {t : Tok} (h : StrsAre ys ((sl.take i).map Let.way)) (hl : sl[i]? = some l) : StrsAre (ys ++ [.str l.way t]) ((sl.take (i + 1)).map Let.way) := by
  rw [List.take_add_one, hl, List.map_append]
  exact strs_snoc h
theorem ways_all {sl : List Let} {out ys : List Value} (h : StrsAre ys ((sl.take out.length).map Let.way)) (hl : out.length = sl.length) : StrsAre ys (sl.map Let.way) := by
  rw [hl, List.take_length] at h
  exact h

section
theorem last_spec {w : World} (lv : Int) (tl : Tok) (hlv : 1 ≤ lv ∧ lv ≤ 3) (ls : List Let) (hls : ∀ l ∈ ls, l.Ok) (hn : ls.length ≤ 60) (Dl : Addr) (vs : List Value) (nn : Nat) (ts : List (Addr × Obj)) (hfs : LettersAre vs ts ls) :
    Spec 20 w 266 [.ref Dl, .int lv tl] ((Dl, listO vs.toArray nn) :: ts) (fun r tl => ∃ D V k sl, r = .ref D ∧ tl = [(D, listO V k)] ∧ StrsAre V.toList (sl.map Let.way) ∧ LastOf lv ls sl) := by
  k_with_none
  w_top off
  k_with "my open" => (((try unfold SpecS); (try unfold SpecI); (try unfold SpecB); (try unfold SpecT); unfold Spec; k_fill; intros; refine wpAny_call ?_))
  k_with "my sub" => (first | exact List.forall_mem_nil _ | (refine' List.forall_mem_cons.mpr ⟨?a_r4, ?b_r4⟩; (case a_r4 => k_mem); (case b_r4 => walk_at "my sub")))
  k_with "my use" => (((case b1 => k_asm); (case f1 => k_asm); (case x1 => k_asm); (case n1 => k_asm); (case t1 => k_asm); (case kk => first | exact rfl | assumption); (case hd => first | exact room1 (by with_reducible assumption) rfl | omega | ((try dsimp only [A9]); (try dsimp only [Around.deeper]); omega) | (trace_state; ktr_room)); (case hu => first | exact units1 (by with_reducible assumption) rfl | omega | ((try dsimp only [A9]); (try dsimp only [Around.deeper]); omega) | (trace_state; ktr_units)); (case ha => walk_at "my sub")))
  k_with "my len" => (first | with_reducible assumption | with_reducible exact Nat.le_of_eq (two_len _) | with_reducible exact Nat.le_of_eq (four_len _) | with_reducible exact Nat.le_of_eq (wdN_len (by assumption)) | with_reducible exact Nat.le_of_eq (moN_len (by assumption)) | with_reducible exact lit_len)
  k_with "my text" => (first | with_reducible exact slice_wd (by assumption) | with_reducible exact slice_mo (by assumption) | with_reducible exact zfill_four (by assumption) | with_reducible exact rfl)
  k_with "binaryOp Add str str" => ((k_here; (refine' add_strE ?e1_r15 ?e2_r15 ?a1_r15 ?a2_r15 ?a3_r15 ?_; (case e1_r15 => walk_at "my text"); (case e2_r15 => walk_at "my text"); (case a1_r15 => walk_at "my len"); (case a2_r15 => walk_at "my len"); (case a3_r15 => omega); intro t'm tk'm ln'm)))
  k_with "inplaceOp Add str str" => ((k_here; (refine' iadd_strE ?e1_r16 ?e2_r16 ?a1_r16 ?a2_r16 ?a3_r16 ?_; (case e1_r16 => walk_at "my text"); (case e2_r16 => walk_at "my text"); (case a1_r16 => walk_at "my len"); (case a2_r16 => walk_at "my len"); (case a3_r16 => omega); intro t'm tk'm ln'm)))
  k_with "my entered" => (((case kA => exact rfl); (case kF => exact rfl); (case kK => assumption); (case k1 => k_asm); (case k2 => k_asm); (case k3 => k_asm); (case k4 => k_asm); (case k5 => k_asm); (case k6 => k_is); (case k7 => k_is); (case k8 => ktr_room); (case k9 => exact BindsTo.of_eq rfl); (case c5 => decide); (case kB => exact locs rfl); (case kL => exact rfl); (case c2 => exact rfl); (case c3 => exact rfl); (case c4 => exact rfl); k_whole; intro g'm L'm h'm tk'm HG'm F'm N'm B'm X'm T'm l1m; (try k_lt l1m); (try dsimp only); (try k_lift B'm); (try k_unmd); (try k_fold); (try refine (let A9 := _; (?_ : PySem.wpAny _ A9 _ _ _ _))); (try refine (let e9 := _; (?_ : PySem.wpAny _ _ (PySem.execs _ e9) _ _ _)))))
  k_with "execs cons" => ((k_here; (try ((fail_if_success (fail_if_success k_fold)); (refine (let q8 := _; (?_ : PySem.wpAny _ _ _ q8 _ _))))); (with_reducible refine seqA ?_); (refine (let q8 := _; (?_ : PySem.wpAny _ _ _ q8 _ _))); (try ((with_reducible rename Fr _ _ _ (fun _ => _) => lF8); (refine (let lm8 := _; (fun (F' : Fr _ _ _ lm8) => ?_) lF8)); clear lF8))))
  k_with "execs cons" => ((k_here; k_gentoks))
  k_with "execs cons" => ((k_here; k_made; walk_at "execs cons"))
  k_with "eval Call" => ((k_here; (fail_if_success (fail_if_success k_fold)); (refine (let q8 := _; (?_ : PySem.wpAny _ _ _ q8 _ _)))))
  k_with "eval BinOp" => ((k_here; (fail_if_success (fail_if_success k_fold)); (refine (let q8 := _; (?_ : PySem.wpAny _ _ _ q8 _ _)))))
  k_with "eval Subscript" => ((k_here; (fail_if_success (fail_if_success k_fold)); (refine (let q8 := _; (?_ : PySem.wpAny _ _ _ q8 _ _)))))
  k_with "eval Tuple" => ((k_here; (fail_if_success (fail_if_success k_fold)); (refine (let q8 := _; (?_ : PySem.wpAny _ _ _ q8 _ _)))))
  k_with "eval List" => ((k_here; (fail_if_success (fail_if_success k_fold)); (refine (let q8 := _; (?_ : PySem.wpAny _ _ _ q8 _ _)))))
  k_with "eval Compare" => ((k_here; (fail_if_success (fail_if_success k_fold)); (refine (let q8 := _; (?_ : PySem.wpAny _ _ _ q8 _ _)))))
  k_with "call ref" => ((k_here; (fail_if_success (fail_if_success k_fold)); (refine (let q8 := _; (?_ : PySem.wpAny _ _ _ q8 _ _)))))
  k_with "callWith ref" => ((k_here; k_dflt (refine' callA1 ?k1_r37 ?k2_r37 ?_; (case k1_r37 => k_asm); (case k2_r37 => k_is); k_whole)))
  k_with "callWith ref" => ((k_here; k_dflt (refine' callA2 ?k1_r38 ?k2_r38 ?_; (case k1_r38 => k_asm); (case k2_r38 => k_is); k_whole)))
  k_with "isTrue BoolOp" => ((k_here; (fail_if_success (fail_if_success k_fold)); (refine (let q8 := _; (?_ : PySem.wpAny _ _ _ q8 _ _)))))
  k_with "isTrue Compare" => ((k_here; (fail_if_success (fail_if_success k_fold)); (refine (let q8 := _; (?_ : PySem.wpAny _ _ _ q8 _ _)))))
  k_with "isTrue UnaryOp" => ((k_here; (fail_if_success (fail_if_success k_fold)); (refine (let q8 := _; (?_ : PySem.wpAny _ _ _ q8 _ _)))))
  k_with "assign Name" => ((k_here; (fail_if_success (fail_if_success k_fold)); (refine (let q8 := _; (?_ : PySem.wpAny _ _ _ q8 _ _)))))
  k_with "assign Tuple" => ((k_here; (fail_if_success (fail_if_success k_fold)); (refine (let q8 := _; (?_ : PySem.wpAny _ _ _ q8 _ _)))))
  k_with "callWith" => ((k_here; (with_reducible show PySem.wpAny _ _ (PySem.callWith _ (PySem.Value.builtin _) _ _ []) _ _ _); k_dflt (first | refine callM1 ?_ | refine callM2 ?_ | refine callB1 ?_ | refine callB2 ?_); k_whole))
  k_with "my pick" => ((with_reducible first | assumption | exact And.left (by assumption) | exact And.right (by assumption) | exact And.left (And.right (by assumption)) | exact And.right (And.right (by assumption)) | exact And.left (And.right (And.right (by assumption))) | exact And.right (And.right (And.right (by assumption))) | exact And.left (And.right (And.right (And.right (by assumption)))) | exact And.right (And.right (And.right (And.right (by assumption)))) | exact And.left (And.right (And.right (And.right (And.right (by assumption))))) | exact And.right (And.right (And.right (And.right (And.right (by assumption))))) | exact And.left (And.right (And.right (And.right (And.right (And.right (by assumption)))))) | exact And.right (And.right (And.right (And.right (And.right (And.right (by assumption)))))) | exact And.left (And.right (And.right (And.right (And.right (And.right (And.right (by assumption))))))) | exact And.right (And.right (And.right (And.right (And.right (And.right (And.right (by assumption))))))) | exact And.left (And.right (And.right (And.right (And.right (And.right (And.right (And.right (by assumption)))))))) | exact And.right (And.right (And.right (And.right (And.right (And.right (And.right (And.right (by assumption)))))))) | exact And.left (And.right (And.right (And.right (And.right (And.right (And.right (And.right (And.right (by assumption))))))))) | exact And.right (And.right (And.right (And.right (And.right (And.right (And.right (And.right (And.right (by assumption)))))))))))
  k_with "my less" => (first | with_reducible exact Int.emod_lt_of_pos _ (by decide) | with_reducible exact Int.emod_nonneg _ (by decide) | (with_reducible refine Nat.ne_of_lt ?_; walk_at "my pick") | (with_reducible refine Nat.ne_of_gt ?_; walk_at "my pick"))
  k_with "exec For Name Call cons nil" => ((k_here; (rename Fr _ _ _ _ => lF'm); (with_unfolding_all refine' forJF lF'm ?_; k_whole)))
  k_with "subscriptTail" => ((k_here; (with_reducible show wpAny _ _ (subscriptTail _ (PySem.Expr.Name _ _) (Value.ref _) (Value.int _ _)) _ _ _); k_dflt (refine' item_lst ?iN_r98 ?im_r98 ?ii_r98 ?ix_r98 ?_ ?is_r98; (case iN_r98 => k_asm); (case im_r98 => k_mem); (case ii_r98 => assumption); (case ix_r98 => assumption); (case is_r98 => with_unfolding_all rfl); k_whole)))
  k_with "subscriptTail Name Name ref int" => ((k_here; (with_reducible show wpAny _ _ (subscriptTail _ (PySem.Expr.Name _ _) (Value.ref _) (Value.int _ _)) _ _ _); k_dflt (refine' item_lst ?iN_r99 ?im_r99 ?ii_r99 ?ix_r99 ?_ ?is_r99; (case iN_r99 => k_asm); (case im_r99 => k_mem); (case ii_r99 => assumption); (case ix_r99 => assumption); (case is_r99 => with_unfolding_all rfl); k_whole)))
  k_with "subscriptTail Name BinOp ref int" => ((k_here; (with_reducible show wpAny _ _ (subscriptTail _ (PySem.Expr.Name _ _) (Value.ref _) (Value.int _ _)) _ _ _); k_dflt (refine' item_lst ?iN_r100 ?im_r100 ?ii_r100 ?ix_r100 ?_ ?is_r100; (case iN_r100 => k_asm); (case im_r100 => k_mem); (case ii_r100 => assumption); (case ix_r100 => assumption); (case is_r100 => with_unfolding_all rfl); k_whole)))
  k_with "subscriptTail Name Constant ref int" => ((k_here; (with_reducible show wpAny _ _ (subscriptTail _ (PySem.Expr.Name _ _) (Value.ref _) (Value.int _ _)) _ _ _); k_dflt (refine' item_lst ?iN_r101 ?im_r101 ?ii_r101 ?ix_r101 ?_ ?is_r101; (case iN_r101 => k_asm); (case im_r101 => k_mem); (case ii_r101 => assumption); (case ix_r101 => assumption); (case is_r101 => with_unfolding_all rfl); k_whole)))
  k_with "subscriptTail" => ((k_here; (with_reducible show wpAny _ _ (subscriptTail (PySem.Expr.Tuple _ _ _) _ (Value.ref _) (Value.int _ _)) _ _ _); k_dflt (refine' keyItem ?iN_r102 ?im_r102 ?ii_r102 ?_ ?is_r102; (case iN_r102 => k_asm); (case im_r102 => k_mem); (case ii_r102 => assumption); (case is_r102 => with_unfolding_all rfl)); intro t'm; k_whole))
  k_with "subscriptTail Name Name ref int" => ((k_here; (with_reducible show wpAny _ _ (subscriptTail (PySem.Expr.Tuple _ _ _) _ (Value.ref _) (Value.int _ _)) _ _ _); k_dflt (refine' keyItem ?iN_r103 ?im_r103 ?ii_r103 ?_ ?is_r103; (case iN_r103 => k_asm); (case im_r103 => k_mem); (case ii_r103 => assumption); (case is_r103 => with_unfolding_all rfl)); intro t'm; k_whole))
  k_with "subscriptTail Name BinOp ref int" => ((k_here; (with_reducible show wpAny _ _ (subscriptTail (PySem.Expr.Tuple _ _ _) _ (Value.ref _) (Value.int _ _)) _ _ _); k_dflt (refine' keyItem ?iN_r104 ?im_r104 ?ii_r104 ?_ ?is_r104; (case iN_r104 => k_asm); (case im_r104 => k_mem); (case ii_r104 => assumption); (case is_r104 => with_unfolding_all rfl)); intro t'm; k_whole))
  k_with "subscriptTail Name Constant ref int" => ((k_here; (with_reducible show wpAny _ _ (subscriptTail (PySem.Expr.Tuple _ _ _) _ (Value.ref _) (Value.int _ _)) _ _ _); k_dflt (refine' keyItem ?iN_r105 ?im_r105 ?ii_r105 ?_ ?is_r105; (case iN_r105 => k_asm); (case im_r105 => k_mem); (case ii_r105 => assumption); (case is_r105 => with_unfolding_all rfl)); intro t'm; k_whole))
  k_with "binaryOp FloorDiv int int" => ((k_here; (refine' fdivP ?hb_r106 ?_; (case hb_r106 => with_reducible assumption)); intro t'm tk'm))
  k_with "binaryOp FloorDiv int int" => ((k_here; (with_reducible show wpAny _ _ (binaryOp _ _ (Value.int 4096 _)) _ _ _); (refine' fdivP ?hb_r107 ?_; (case hb_r107 => constructor <;> decide)); intro t'm tk'm))
  k_with "binaryOp Mod int int" => ((k_here; (refine' modP ?hb_r108 ?_; (case hb_r108 => decide)); intro t'm tk'm))
  k_with "binaryOp Add int int" => ((k_here; refine' addP ?_; intro t'm tk'm))
  k_with "binaryOp Sub int int" => ((k_here; refine' subP ?_; intro t'm tk'm))
  k_with "binaryOp Mult int int" => ((k_here; first | (refine' mulR ?hb_r111 ?_; (case hb_r111 => decide)) | (refine' mulL ?hb_r111 ?_; (case hb_r111 => decide)); intro t'm tk'm))
  k_with "binaryOp Pow int int" => ((k_here; (refine' powE ?hb_r112 ?he_r112 ?_; (case hb_r112 => with_reducible assumption); (case he_r112 => with_reducible assumption)); intro t'm tk'm))
  k_with "compareOp Eq int int" => ((k_here; refine' eqI (fun heqm => ?_) (fun hnem => ?_)))
  k_with "ite" => ((k_here; first | (with_reducible refine ite_tt ?_) | (with_reducible refine ite_ff ?_)))
  k_with "subscriptTail Name Slice ref ref" => ((k_here; k_dflt (refine' cut6 ?cF_r115 ?cN_r115 ?ct_r115 ?_ ?cs_r115 ?cg_r115; (case cF_r115 => k_asm); (case cN_r115 => k_asm); (case ct_r115 => k_mem); (case cs_r115 => with_unfolding_all rfl); (case cg_r115 => kmk_pure)); intro D'm h'm F'm N'm))
  k_with "eval ListComp" => ((k_here; with_unfolding_all (refine' evalComp ?c1_r116 ?c2_r116 ?c3_r116 ?_ ?c6_r116; (case c1_r116 => exact rfl); (case c2_r116 => exact rfl); (case c3_r116 => decide); (case c6_r116 => intro _; rfl); k_whole)))
  k_with "getMethod ref" => ((k_here; (with_reducible show wpAny _ _ (getMethod (Value.ref _) (Str.ofString "values") _) _ _ _); k_dflt (refine kdl_method (knd := PySem.intKind _ _) PySem.F.slot_dict_values PySem.F.type_dict_values (by k_asm) (by k_mem) (by assumption) ?_)))
  k_with "getMethod ref" => ((k_here; (with_reducible show wpAny _ _ (getMethod (Value.ref _) (Str.ofString "get") _) _ _ _); k_dflt (refine kdg_method (knd := PySem.intKind _ _) (by k_asm) (by k_mem) (by assumption) ?_)))
  have hvl : vs.length ≤ 60 := by rw [hfs.1]; exact hn
  have hvn : ((vs.length : Nat) : Int).toNat = ls.length := by rw [Int.toNat_natCast]; exact hfs.1
  have hpw := pow_lv hlv
  obtain ⟨pw, hpe⟩ : ∃ pw : Int, 2 ^ (11 - 3 * lv).toNat = pw := ⟨_, rfl⟩
  rw [hpe] at hpw
  have hpx : 0 ≤ 11 - 3 * lv ∧ 11 - 3 * lv ≤ 60 := by omega
  k_with "call builtin:len" => (k_here; (refine' lenVals (k := vs.length) ?lN ?lm ?lS ?ll ?_; (case lN => k_asm); (case lm => k_mem); (case lS => exact List.size_toArray ..); (case ll => exact hvl)); intro t' tk')
  k_with "pyIter ref" => ((rename IsRange _ _ _ _ _ _ _ _ => hR); (with_reducible (replace hR : IsRange _ _ 0 (Nat.cast _) 1 _ _ _ := hR)); (rename Fr _ _ _ _ => lF'); (rename News _ _ _ (_ :: _) => lN'); (rename Obj.IsDictOf (intKind _ _) _ _ => hdi); k_dflt (refine' pyRange1L rfl (Jf := fun b => JD w lv tl ls ts Dl (listO vs.toArray nn) (b.headD (0, listO #[] 0)).1) (by rfl) hR ?kb lF' lN' ?k0 ?kturn ?kdone (by passes_own)); (case kb => constructor <;> omega); (case k0 => exact ⟨_, _, _, ltNe (by assumption), hdi, DInv.nil, (fun _ h => h), Nat.zero_le _, rfl, rfl, rfl⟩); clear lF' lN' hR hdi; (case' kturn => (intro i ti h1 tk1 m₁ news₁ I o hi hJ F' ho N' off; (refine (let G9 : Prop := _; (?_ : G9))); (obtain ⟨od, kvs, tz, hne, hdi, hDI, hsub, hkl, hm1, hm2, hm3⟩ := hJ); (dsimp only [List.headD_cons] at N' hm3 hne off); (replace F' := frPin3 F' hm1 hm2 hm3); (have hi1 : i < ls.length := by have := hfs.1; omega); (obtain ⟨l, hl⟩ : ∃ l, ls[i]? = some l := ⟨_, List.getElem?_eq_getElem hi1⟩); (have ol := hls l (List.mem_of_getElem? hl)); (obtain ⟨hln, P, M, kP, kM, tm, t1, t2, t3, t4, t5, t6, t7, wd, _, hv, hP, hM⟩ := hfs.2 i l hl); (have hi2 : i < 2 ^ 62 := by omega); (have hv2 : vs.toArray.toList[i]? = some (.ref P) := hv); (have hap := apOff hne off); (replace N' := turnNews N' (hsub _ hP) (hsub _ hM)))); (case' kdone => (intro h1 tk1 m₁ news₁ F' N' hJ; (refine (let G9 : Prop := _; (?_ : G9))); (obtain ⟨od, kvs, tz, hne, hdi, hDI, hsub, hkl, hm1, hm2, hm3⟩ := hJ); (dsimp only [List.headD_cons] at N' hm3 hne); (replace F' := frPin3 F' hm1 hm2 hm3); (rw [hvn] at hDI hkl); (obtain ⟨rl, hT, okr, hinj, hlast⟩ := hDI.letters hls (fun i l hl => (hfs.2 i l hl).1) (keysNodup_of_isDictOf hdi)))))
  k_with "call builtin:dict.get" => (k_here; k_dflt (refine' getOld (I := I) (tz := tz) ?gN ?gp hdi ?glo ?gZ hDI ?gt hap ?gz ?_); (case gN => k_asm); (case gp => k_mem); (case glo => assumption); (case gZ => k_mem); (case gt => intro p hp; repeat (first | exact hp | refine List.Mem.tail _ ?_)); (case gz => constructor <;> (refine' newNe ?nN ?nm; (case nN => assumption); (case nm => k_mem))); intro T0 W0 k0 gs tk0 N' hW0 hO hT0)
  k_with "call builtin:max" => (k_here; k_dflt (refine' maxOld (I := I) (gs := gs) (ns := tupOf l) (by rfl) ?xu ?xF ?xN ?x0 ?x1 hW0 ?xi hT0 ?xa ?_; (case xu => first | omega | ((try dsimp only [A9]); (try dsimp only [Around.deeper]); omega)); (case xF => k_asm); (case xN => k_asm); (case x0 => k_mem); (case x1 => k_mem); (case xi => exact tupInts hln); (case xa => constructor <;> (show @Ne Nat _ _; omega))); intro R0 WR kR hR tkR F' N' hWR hR0)
  k_with "setItem ref int ref" => (k_here; k_dflt (refine' setOld ?sF ?sN ?sp hdi ?sz ((I, o) :: (R0, tupleO WR kR) :: (Dl, listO vs.toArray nn) :: tz) ?sr ?_; (case sF => k_asm); (case sN => k_asm); (case sp => k_mem); (case sz => rw [sizeLine_eq]; omega); (case sr => exact rest4 (by k_mem) (by k_mem) (by k_mem) (fun p hp => by repeat (first | exact hp | refine List.Mem.tail _ ?_)) (Ne.symm (off _ (.head _))) hR0.1 hne)); intro hS od2 tkS F' N' hdi2; replace N' := endNews N')
  k_with "call builtin:dict.values" => (k_here; k_dflt (refine' kdl_view_values (knd := PySem.intKind _ _) ?vF ?vN ?vp hdi ?vl ?_; (case vF => k_asm); (case vN => k_asm); (case vp => k_mem); (case vl => assumption)); intro Dv hV F' N' lV; (try k_lt lV))
  k_with "call builtin:sorted" => (k_here; k_dflt (refine' sortedVals (ls := rl) (by rfl) ?oF ?oN ?ov ?op hdi ?on ?oT okr hinj ?_; (case oF => k_asm); (case oN => k_asm); (case ov => k_mem); (case op => k_mem); (case on => omega); (case oT => exact hT.more (fun p hp => by repeat (first | exact hp | refine List.Mem.tail _ ?_)))); intro B out sl cB hB tkB F' N' lB hTo hpo hso; (try k_lt lB))
  k_with "pyIter ref" => ((with_reducible show wpAny _ _ _ (CompAt _ _ _ _ _ _ _ _ _ _ _ _ _) _ _); (rename Fr _ _ _ _ => lF'); (rename News _ _ _ (_ :: _) => lN'); k_dflt (refine' compLstB (Jf := JW sl) (vs := out) (nn := cB) (by rfl) ?hm_4 ?hn_4 lF' lN' ?h0_4 ?hcell_4 ?hkind_4 ?hx_4 ?hsk_4 ?turn_4 ?done_4); (case hm_4 => k_mem); (case hn_4 => rw [hTo.1, hpo.length_eq, ← hT.1, List.length_map, sizeLine_eq]; omega); (case h0_4 => exact ⟨rfl, StrsAre.nil⟩); (case hcell_4 => decide); (case hkind_4 => exact rfl); (case hx_4 => intro _; exact rfl); (case hsk_4 => intro _; exact rfl); clear lF' lN'; (case' turn_4 => (intro i v ys I C D oI oC m₂ h tk news₁ E' hv hJ hax hmx hoC hoI F' N' nCD nIC nID off; (refine (let G9 : Prop := _; (?_ : G9))); (obtain ⟨rfl, hys⟩ := hJ); (obtain ⟨l, hl⟩ : ∃ l, sl[i]? = some l := ⟨_, List.getElem?_eq_getElem (hTo.1 ▸ (List.getElem?_eq_some_iff.mp hv).1)⟩); (have ol := okr l (hpo.mem_iff.mp (List.mem_of_getElem? hl))); (obtain ⟨T, W, kW, hvT, hTm, hW⟩ := hTo.2 i l hl); (obtain rfl : v = .ref T := Option.some.inj (hv.symm.trans hvT)); (obtain ⟨t1, t2, t3, t4, t5, t6, t7, rfl⟩ := sevenOf hW); (replace N' := newsMore N' (.tail _ (.tail _ (.tail _ (.tail _ hTm))))); (refine' tests0 ?_))); (case' done_4 => (intro D C h tk m' ys news' F' N' offD hn hC₀ hCL hCD offC hJ; (refine (let G9 : Prop := _; (?_ : G9))); (obtain ⟨rfl, hys⟩ := hJ); (refine' compDoneE F' N' hn hC₀ hCL (offCons hCD offC) ?hq3_4); clear F' N' hn offC; (intro h' F' N'))))
  k_with "call ref" => (k_here; (with_reducible show wpAny _ _ (call (Value.ref 242) _) _ _ _); k_dflt (refine' Spec.use (way_spec _ _ _ _ _ _ _ _ _ _ _ _ _ _ _ _ _ _ ol.y ol.mo ol.d ol.h ol.mi ol.s ol.n) ?b1 ?f1 ?x1 ?n1 ?t1 ?kk ?hd ?hu ?ha ?_); walk_at "my use"; k_whole; rintro _ _ h' tk' F' N' lt' ⟨rfl, ⟨t', rfl⟩, ln'⟩; (try dsimp only [List.nil_append] at N'); clear lt' ln')
  w_top off; walk_at "my open"; k_dflt (refine' enterP ?k1 ?k2 ?k3 ?k4 ?k5 ?kA ?kF ?kK ?k6 ?k7 ?k8 ?k9 ?kB [(Str.ofString "level", .int lv tl), (Str.ofString "letters", .ref Dl)] ?kL ?_ ?c2 ?c3 ?c4 ?c5; walk_at "my entered")
  repeat' (first | ((fail_if_success goal_has PySem.wpAny); (try dsimp only); first | (with_reducible refine seqN ?_) | ((with_reducible refine seqE ?_); (try dsimp only)) | ((with_reducible refine seqR ?_); (try dsimp only)) | ((with_reducible refine seqC ?_); (try dsimp only)) | ((with_reducible refine seqB ?_); (try dsimp only))) | ((fail_if_success (fail_if_success k_unfold)); (try dsimp only); k_unfold; (try dsimp only)) | ((fail_if_success goal_has PySem.wpAny); show PySem.wpAny _ _ _ _ _ _; (try dsimp only)) | walk1 | (dsimp only; walk1) | fail "no step")
  all_goals try first
    | exact unrEnd1 (by assumption) (by assumption) (offR off hR0.2) ⟨trivial, od2, _, _, neR hne hR0.1, hdi2, DInv.step hDI hls hl (keepM_yes (by assumption) (by rw [hpe]; assumption)) hO (fun p hp => .tail _ hp) (.head _) hWR, (fun p hp => .tail _ (hsub p hp)), Nat.le_trans (stored_length_le ..) (Nat.succ_le_succ hkl), rfl, rfl, rfl⟩
    | exact unrEnd1 (by assumption) (newsBack (by assumption)) off ⟨trivial, od, kvs, tz, hne, hdi, DInv.no hDI hl (by first | exact keepM_no1 (by assumption) | exact keepM_no2 (by rw [hpe]; assumption)), hsub, Nat.le_succ_of_le hkl, rfl, rfl, rfl⟩
  all_goals try first
    | exact endC (by assumption) (by assumption) (fun p hp => by repeat (first | exact hp | refine List.Mem.tail _ ?_)) (fun p hp => ⟨fun q hq => by rw [List.mem_singleton.mp hq]; exact (off p hp).1, (off p hp).2⟩) ⟨⟨hax, trivial⟩, rfl, ways_step hys hl⟩
    | (refine' ret1 (by assumption) ?r1 ?r2 ?r3; (case r2 => exact freshZ (by assumption) (by assumption) (List.Mem.head _) (fun p hp => offD p (argSub (by k_mem) (fun p hp => by have hp := hsub p hp; repeat (first | exact hp | refine List.Mem.tail _ ?_)) p hp))); (case r1 => exact keepZ (by assumption) (by assumption) (by assumption) (by assumption) (argSub (by k_mem) (fun p hp => by have hp := hsub p hp; repeat (first | exact hp | refine List.Mem.tail _ ?_)))); exact ⟨D, _, _, sl, rfl, rfl, ways_all hys hTo.1, hlast sl hpo hso⟩)
end

section
variable {prog : Program} {w : World} {A : Around} {E : Value → Shared → Prop} {s : Shared}
theorem seq_iadd : seqSlot? (.type "list") (dunderI "add") = pure (some (.builtin "list.__iadd__")) := PyProof.Rows.seqSlot_of F.slot_list_iadd.lookup (by decide +kernel)
theorem fills_iadd : fillsInplaceSlot (.type "list") "add" (Operator.Add == .Add) = pure false := by
  unfold fillsInplaceSlot
  show (typeLookup (.type "list") (dunderI "add") >>= fun fi => pure (fi.isSome && !isSeqSlot fi)) = pure false
  rw [F.slot_list_iadd.lookup]
  show (pure (_ && !isSeqSlot (some (.builtin "list.__iadd__"))) : Sem Bool) = pure false
  rw [show isSeqSlot (some (.builtin "list.__iadd__")) = true from by decide +kernel]
  rfl
theorem iaddRoad {a b : Addr} {Q : Value → Shared → Prop} (ha : s.TypeIs (.ref a) "list") (hb : s.TypeIs (.ref b) "list") (hc : wpAny (model prog w) A (call (.builtin "list.__iadd__") [.ref a, .ref b]) Q E s) : wpAny (model prog w) A (inplaceOp .Add (.ref a) (.ref b)) Q E s := by
  unfold inplaceOp
  refine wpAny_holding ?_
  refine wpAny_bind (wpAny_typeOf ha (wpAny_bind (wpAny_of_eq fills_iadd ?_)))
  show wpAny _ A (if false = true then _ else _) Q E s
  rw [if_neg Bool.false_ne_true]
  refine wpAny_bind (wpAny_binaryOp1_none (nm := "add") ha hb noFill_list_add ?_)
  refine wpAny_bind (wpAny_of_eq seq_iadd ?_)
  exact wpAny_bind (wpAny_rule hc)
end
section
variable {prog : Program} {w : World} {A : Around} {E : Value → Shared → Prop} {hp : Heap} {ge : Array GenState} {dr : Drawn} {os : OsState} {kt : Nat} {h₀ : Heap} {L : Addr} {m : Str → Option Value} {news : List (Addr × Obj)}
/-- «a += b» of two lists of the ledger -/
theorem iaddLst {a b : Addr} {V W : Array Value} {n k : Nat} {Q : Value → Shared → Prop} (F : Fr h₀ L hp m) (N : News h₀ L hp news) (ha : (a, listO V n) ∈ news) (hb : (b, listO W k) ∈ news) (hz : V.size + W.size ≤ 1000) (rest : List (Addr × Obj)) (hr : ∀ p ∈ rest, p ∈ news ∧ p.1 ≠ a)
    (h : ∀ h' c, Fr h₀ L h' m → News h₀ L h' ((a, listO (V ++ W) c) :: rest) → Q (.ref a) ⟨h', ge, dr, kt, os⟩) : wpAny (model prog w) A (inplaceOp .Add (.ref a) (.ref b)) Q E ⟨hp, ge, dr, kt, os⟩ := by
  have na := N _ ha
  have nb := N _ hb
  refine iaddRoad ⟨_, na.1, rfl⟩ ⟨_, nb.1, rfl⟩ ?_
  have s1 := Heap.SameBut.update hp a (Obj.mapSeq fun x => x ++ W)
  obtain ⟨c, hc⟩ : ∃ c, (hp.update a (Obj.mapSeq fun x => x ++ W)).get? a = some (seqObj "list" (V ++ W) c) := ⟨_, get?_update_seq na.1 fun x => x ++ W⟩
  have hz1 : ¬ (!V.isEmpty && Builtin.List.listTooLong (V.size + W.size)) = true := by
    have e : Builtin.List.listTooLong (V.size + W.size) = false := by
      unfold Builtin.List.listTooLong
      exact decide_eq_false (by rw [sizeLine_eq]; omega)
    rw [e, Bool.and_false]
    exact Bool.false_ne_true
  have hz2 : V.size ≤ sizeLine := by rw [sizeLine_eq]; omega
  have hz3 : V.size + W.size ≤ sizeLine + 1 := by rw [sizeLine_eq]; omega
  have hQ : Q (.ref a) ⟨hp.update a (Obj.mapSeq fun x => x ++ W), ge, dr, kt, os⟩ := h _ c (kas_fr F s1 na.2.1 na.2.2) fun p hq => by
    rcases List.mem_cons.mp hq with rfl | hq
    · exact ⟨hc, na.2⟩
    · obtain ⟨x, y⟩ := hr p hq
      exact ⟨(s1.2 p.1 y).trans (N p x).1, (N p x).2⟩
  exact call_meets (s := ⟨hp, ge, dr, kt, os⟩) (T := "list") PySem.F.slot_list_iadd ⟨_, na.1, rfl⟩ PySem.F.entry_list_iadd (PySem.F.args_list_iadd_2 _ _) (AutoSeq1.list___iadd___list_list_0 a V n b W k hz1 hz2 hz3) ⟨na.1, nb.1, hQ⟩
end
section
variable {prog : Program} {w : World} {A : Around} {E : Value → Shared → Prop} {hp : Heap} {ge : Array GenState} {dr : Drawn} {os : OsState} {kt : Nat} {h₀ : Heap} {L : Addr} {m : Str → Option Value} {news : List (Addr × Obj)}
theorem iaddU {a b : Addr} {V W : Array Value} {n k : Nat} {g : Obj → List (Addr × Obj)} {Q : Value → Shared → Prop} (F : Fr h₀ L hp m) (N : News h₀ L hp news) (U : UpdF a (listO V n) news g) (hb : (b, listO W k) ∈ news) (hz : V.size + W.size ≤ 1000)
    (h : ∀ h' c, Fr h₀ L h' m → News h₀ L h' (g (listO (V ++ W) c)) → Q (.ref a) ⟨h', ge, dr, kt, os⟩) : wpAny (model prog w) A (inplaceOp .Add (.ref a) (.ref b)) Q E ⟨hp, ge, dr, kt, os⟩ := by
  obtain ⟨pre, post, rfl, hg, x, y⟩ := U.split
  refine iaddLst F N (List.mem_append_right _ (.head _)) hb hz (pre ++ post) (fun p hp => ?_) fun h' c F' N' => h h' c F' ?_
  · rcases List.mem_append.mp hp with hp | hp
    · exact ⟨List.mem_append_left _ hp, x p hp⟩
    · exact ⟨List.mem_append_right _ (.tail _ hp), y p hp⟩
  · rw [hg]
    intro p hp
    rcases List.mem_append.mp hp with hp | hp
    · exact N' p (.tail _ (List.mem_append_left _ hp))
    · rcases List.mem_cons.mp hp with rfl | hp
      · exact N' _ (.head _)
      · exact N' p (.tail _ (List.mem_append_right _ hp))
end
/-- one of three, one of twelve -/
def pick3 (i a b c : Int) : Int := if i = 0 then a else if i = 1 then b else c
def kinds : List Int := [8, 8, 8, 8, 4, 10, 2, 6, 1, 12, 0, 15]
section
variable {prog : Program} {w : World} {A : Around} {E : Value → Shared → Prop} {s : Shared} {h₀ : Heap} {L : Addr} {news : List (Addr × Obj)} {value slice : PySem.Expr} {T : Addr} {n : Nat} {i : Int} {u : Tok} {Q : Value → Shared → Prop}
theorem menu3 {a b c : Int} {t1 t2 t3 : Tok} (N : News h₀ L s.heap news) (hT : (T, tupleO #[.int a t1, .int b t2, .int c t3] n) ∈ news) (hi : 0 ≤ i ∧ i < 3) (h : ∀ t', Q (.int (pick3 i a b c) t') s)
    (hs : subscripted slice false (.ref T) (.int i u) = operate [.ref T, .int i u] (getItem (.ref T) (.int i u))) : wpAny (model prog w) A (subscriptTail value slice (.ref T) (.int i u)) Q E s := by
  have hl : s.heap.IsTuple T #[.int a t1, .int b t2, .int c t3] := ⟨_, (N _ hT).1, rfl, n, rfl⟩
  obtain rfl | rfl | rfl : i = 0 ∨ i = 1 ∨ i = 2 := by omega
  · exact item_tupleT (l := [.int a t1, .int b t2, .int c t3]) (j := 0) hl (by decide) (by decide) rfl rfl (h t1) hs
  · exact item_tupleT (l := [.int a t1, .int b t2, .int c t3]) (j := 1) hl (by decide) (by decide) rfl rfl (h t2) hs
  · exact item_tupleT (l := [.int a t1, .int b t2, .int c t3]) (j := 2) hl (by decide) (by decide) rfl rfl (h t3) hs
theorem menuK {l : List Value} (N : News h₀ L s.heap news) (hT : (T, tupleO l.toArray n) ∈ news) (hl : IntsAre l kinds) (hi : 0 ≤ i ∧ i < 12) (h : ∀ k t', 0 ≤ k ∧ k ≤ 15 → Q (.int k t') s)
    (hs : subscripted slice false (.ref T) (.int i u) = operate [.ref T, .int i u] (getItem (.ref T) (.int i u))) : wpAny (model prog w) A (subscriptTail value slice (.ref T) (.int i u)) Q E s := by
  have ht : s.heap.IsTuple T l.toArray := ⟨_, (N _ hT).1, rfl, n, rfl⟩
  have hlen : l.length = 12 := hl.length
  obtain ⟨j, rfl⟩ := Int.eq_ofNat_of_zero_le hi.1
  obtain ⟨k, hk⟩ : ∃ k, kinds[j]? = some k := ⟨_, List.getElem?_eq_getElem (show j < kinds.length by show j < 12; omega)⟩
  obtain ⟨t, ht2⟩ := hl.get j k hk
  have hb : ∀ k ∈ kinds, 0 ≤ k ∧ k ≤ 15 := by decide
  refine item_tupleT (j := j) ht (by omega) (by omega) ?_ ht2 (h k t (hb k (List.mem_of_getElem? hk))) hs
  rw [hlen]
  unfold seqIndex?
  simp
  omega
end
section
variable {prog : Program} {w : World} {A : Around} {E : Value → Shared → Prop} {hp : Heap} {ge : Array GenState} {dr : Drawn} {os : OsState} {kt : Nat} {h₀ : Heap} {L D : Addr} {m : Str → Option Value} {news : List (Addr × Obj)}
/-- append to a list of the ledger: all else that the ledger bears stands -/
theorem appendLst {V : Array Value} {n : Nat} {x : Value} {Q : Value → Shared → Prop} (F : Fr h₀ L hp m) (N : News h₀ L hp news) (hD : (D, listO V n) ∈ news) (hz : V.size ≤ 1000)
    (h : ∀ h' c, Fr h₀ L h' m → News h₀ L h' [(D, listO (V.push x) c)] → (∀ p ∈ news, p.1 ≠ D → News h₀ L h' [p]) → Q .none ⟨h', ge, dr, kt, os⟩) : wpAny (model prog w) A (call (.builtin "list.append") [.ref D, x]) Q E ⟨hp, ge, dr, kt, os⟩ := by
  have nd := N _ hD
  refine append_at (hsz := by rw [sizeLine_eq]; omega) nd.1 fun h' hs hD' => ?_
  obtain ⟨c, hc⟩ : ∃ c, h'.get? D = some (listO (V.push x) c) := ⟨_, hD'⟩
  refine h h' c (kas_fr F hs nd.2.1 nd.2.2) (fun p hp => ?_) fun p hp hne q hq => ?_
  · rw [List.mem_singleton.mp hp]
    exact ⟨hc, nd.2⟩
  · rw [List.mem_singleton.mp hq]
    exact ⟨(hs.2 p.1 hne).trans (N p hp).1, (N p hp).2⟩
end

theorem allC {α : Type} {P : α → Prop} {a : α} {l : List α} (h : P a) (t : ∀ x ∈ l, P x) : ∀ x ∈ a :: l, P x := fun x hx => (List.mem_cons.mp hx).elim (fun e => e ▸ h) (t x)
theorem allN {α : Type} {P : α → Prop} : ∀ x ∈ ([] : List α), P x := fun _ h => nomatch h
theorem allOff {a : Addr} {l : List Addr} (h : ∀ x ∈ l, @Ne Nat a x) : a ∉ l := fun q => h _ q rfl
section
variable {prog : Program} {w : World} {A : Around} {E : Value → Shared → Prop} {s : Shared} {env : Env} {h₀ : Heap} {body orelse : List Stmt} {Q : Flow → Shared → Prop} {m₀ : Str → Option Value} {news : List (Addr × Obj)} {elts : List PySem.Expr} {k : Nat} {pos : Pos}
/-- a loop over zip(list, list), both of the ledger -/
theorem zipLstL {L : Addr} (hL : env.locals = L) {Jf : List (Addr × Obj) → Nat → (Str → Option Value) → List (Addr × Obj) → Prop} {l1 l2 : Addr} {xs ys : List Value} {n1 n2 : Nat} (hh : A.handled = none) (hm1 : (l1, listO xs.toArray n1) ∈ news) (hm2 : (l2, listO ys.toArray n2) ∈ news) (F : Fr h₀ L s.heap m₀) (N : News h₀ L s.heap news) (h0 : Jf news 0 m₀ news)
    (turn : ∀ (i : Nat) x y T h tk m₁ news₁ its, xs[i]? = some x → ys[i]? = some y → Jf news i m₁ news₁ → (l1, listO xs.toArray n1) ∈ news₁ → (l2, listO ys.toArray n2) ∈ news₁ → Fr h₀ L h m₁ → IsTup h T #[x, y] → News h₀ L h (its ++ news₁) → (∀ p ∈ news₁, ∀ q ∈ its, p.1 ≠ q.1) →
      wpAny (model prog w) A (assign (.Tuple elts k pos) env (.ref T)) (fun _ s₂ => wpAny (model prog w) A (execs body env) (UnrPostW h₀ L { s with heap := h, toks := tk } its (fun m' n' => SubL [(l1, listO xs.toArray n1), (l2, listO ys.toArray n2)] n' ∧ Jf news (i + 1) m' n') Q) E s₂) E { s with heap := h, toks := tk })
    (done : ∀ h tk m' news', Fr h₀ L h m' → News h₀ L h news' → Jf news (min xs.length ys.length) m' news' → wpAny (model prog w) A (execs orelse env) Q E { s with heap := h, toks := tk })
    (hE : PassesOwn (model prog w) A env E) :
    wpAny (model prog w) A (call (.type "zip") [.ref l1, .ref l2]) (fun xv s₁ => wpAny (model prog w) A (pyIter xv) (fun it s₂ => TurnsJ prog w A h₀ env (.Tuple elts k pos) body orelse Q E it s₂) E s₁) E s := by
  subst hL
  have hax1 := N _ hm1
  have hax2 := N _ hm2
  have hl1 : s.heap.IsList l1 xs.toArray := ⟨_, hax1.1, rfl, n1, rfl⟩
  have hl2 : s.heap.IsList l2 ys.toArray := ⟨_, hax2.1, rfl, n2, rfl⟩
  have hlt1 : l1 < s.heap.objs.size := Heap.lt_size hax1.1
  have hlt2 : l2 < s.heap.objs.size := Heap.lt_size hax2.1
  have D : ZipApart (s.heap.objs.size + 4) (s.heap.objs.size + 2) (s.heap.objs.size + 3) s.heap.objs.size (s.heap.objs.size + 1) l1 l2 := ktu_apart _ _ _ hlt1 hlt2
  refine call_zip_2 hl1 hl2 fun h' hz hTI hTO hi1 hi2 hsz hk => ?_
  refine wpAny_pyIter_zip hz ?_
  refine loopJ (tk0 := s.toks) (ws := [(s.heap.objs.size + 4, "zip"), (s.heap.objs.size + 2, "tuple"), (s.heap.objs.size + 3, "tuple"), (s.heap.objs.size, "list_iterator"), (s.heap.objs.size + 1, "list_iterator")]) (keep := [(l1, listO xs.toArray n1), (l2, listO ys.toArray n2)]) (J := Jf news) (m₀ := m₀) (news := news)
    (KTurns.ofWalksU (WalksT.zip2 hh _ _ _ _ _ _ _ D xs.toArray ys.toArray).toU) ?_ ?_ ?_ ?_ ?_ ⟨hz, hTI, ⟨_, _, hTO⟩, hi1, hi2, hl1.at fun o e => hk l1 o e, hl2.at fun o e => hk l2 o e⟩ (F.keeps hk) (N.grown hk) (And.intro hm1 (And.intro hm2 trivial)) h0 ?_ ?_ hE
  · rintro i h ⟨hz, hTI, ⟨a, b, hTO⟩, ⟨o1, ho1, hc1, _⟩, ⟨o2, ho2, hc2, _⟩, _⟩
    refine ⟨[(s.heap.objs.size + 4, _), (s.heap.objs.size + 2, _), (s.heap.objs.size + 3, _), (s.heap.objs.size, o1), (s.heap.objs.size + 1, o2)], ⟨⟨rfl, rfl⟩, ⟨rfl, rfl⟩, ⟨rfl, rfl⟩, ⟨rfl, hc1⟩, ⟨rfl, hc2⟩, trivial⟩, allC hz (allC hTI (allC hTO (allC ho1 (allC ho2 allN))))⟩
  · exact allC (newAddr F (Nat.le_add_right _ _)) (allC (newAddr F (Nat.le_add_right _ _)) (allC (newAddr F (Nat.le_add_right _ _)) (allC (newAddr F (Nat.le_refl _)) (allC (newAddr F (Nat.le_add_right _ _)) allN))))
  · exact allC (.head _) (allC (.tail _ (.tail _ (.head _))) (allC (.tail _ (.tail _ (.tail _ (.head _)))) (allC (.tail _ (.tail _ (.tail _ (.tail _ (.head _))))) allN)))
  · exact allC (.inl (.head _)) (allC (.inl (.tail _ (.head _))) (allC (.inl (.tail _ (.tail _ (.head _)))) (allC (.inl (.tail _ (.tail _ (.tail _ (.head _))))) (allC (.inl (.tail _ (.tail _ (.tail _ (.tail _ (.head _)))))) (allC (.inr (.inr ⟨_, .head _⟩)) (allC (.inr (.inr ⟨_, .tail _ (.head _)⟩)) allN))))))
  · intro p hp
    have hlp := Heap.lt_size (N p hp).1
    exact allOff (allC (ktu_ne 4 hlp) (allC (ktu_ne 2 hlp) (allC (ktu_ne 3 hlp) (allC (Nat.ne_of_lt hlp) (allC (ktu_ne 1 hlp) allN)))))
  · rintro i v h tk m₁ news₁ hi ⟨T, vals, rfl, ⟨x, y, hx, hy, rfl⟩, hTT⟩ hJ hkp F₁ o1 ho1 o2 ho2 o3 ho3 o4 ho4 o5 ho5
    refine AllObj.nil fun N₁ off => turn i x y T h tk m₁ news₁ _ (by simpa using hx) (by simpa using hy) hJ (hkp.mem _ (.head _)) (hkp.mem _ (.tail _ (.head _))) F₁ hTT N₁ off
  · intro h tk m' news' F' N' _ hJ
    exact done h tk m' news' F' N' (by simpa using hJ)
theorem unrEndA {m' : Str → Option Value} {s₁ : Shared} {L : Addr} {h' : Heap} {tk : Nat} {its news' : List (Addr × Obj)} {rest : (Str → Option Value) → List (Addr × Obj) → Prop} (F : Fr h₀ L h' m') (N : News h₀ L h' (its ++ news')) (off : ∀ p ∈ news', ∀ q ∈ its, p.1 ≠ q.1) (r : rest m' news') : UnrEndW h₀ L s₁ its rest { s₁ with heap := h', toks := tk } :=
  ⟨h', tk, m', news', rfl, F, N, off, r⟩
end
/-- what two texts' parts share so far -/
inductive JZ (us vs : List Str) (b : List (Addr × Obj)) (i : Nat) (m : Str → Option Value) : List (Addr × Obj) → Prop
  | mk (p q : Addr × Obj) (D : Addr) (o : Obj) (V : Array Value) (c : Nat) (hb : b = [p, q, (D, o)]) (hm1 : m (Str.ofString "shared") = some (.ref D)) (hV : StrsAre V.toList (us.take i)) (hpre : us.take i = vs.take i) (hVs : V.size ≤ i) (hpD : p.1 ≠ D) (hqD : q.1 ≠ D) : JZ us vs b i m [p, q, (D, listO V c)]
theorem newsSwap {h₀ h : Heap} {L : Addr} {its : List (Addr × Obj)} {p q r : Addr × Obj} (N : News h₀ L h (its ++ [p, q, r])) : News h₀ L h ([p, q, r] ++ its) := fun x hx => N x (by
  rcases List.mem_append.mp hx with h | h
  · exact List.mem_append_right _ h
  · exact List.mem_append_left _ h)
theorem newsBack3 {h₀ h' : Heap} {L D : Addr} {its : List (Addr × Obj)} {p q : Addr × Obj} {o o' : Obj} (N1 : News h₀ L h' [(D, o')]) (hk : ∀ x ∈ [p, q, (D, o)] ++ its, x.1 ≠ D → News h₀ L h' [x]) (off : ∀ x ∈ [p, q, (D, o)], ∀ y ∈ its, x.1 ≠ y.1) (hp : p.1 ≠ D) (hq : q.1 ≠ D) : News h₀ L h' (its ++ [p, q, (D, o')]) := by
  intro x hx
  rcases List.mem_append.mp hx with h | h
  · exact hk x (List.mem_append_right _ h) (fun e => off (D, o) (.tail _ (.tail _ (.head _))) x h e.symm) x (.head _)
  · simp only [List.mem_cons, List.not_mem_nil, or_false] at h
    rcases h with rfl | rfl | rfl
    · exact hk _ (.head _) hp _ (.head _)
    · exact hk _ (.tail _ (.head _)) hq _ (.head _)
    · exact N1 _ (.head _)
theorem off3 {its : List (Addr × Obj)} {p q : Addr × Obj} {D : Addr} {o o' : Obj} (off : ∀ x ∈ [p, q, (D, o)], ∀ y ∈ its, x.1 ≠ y.1) : ∀ x ∈ [p, q, (D, o')], ∀ y ∈ its, x.1 ≠ y.1 := by
  intro x hx
  simp only [List.mem_cons, List.not_mem_nil, or_false] at hx
  rcases hx with rfl | rfl | rfl
  · exact off _ (.head _)
  · exact off _ (.tail _ (.head _))
  · exact off (D, o) (.tail _ (.tail _ (.head _)))
theorem stepV {us : List Str} {V : Array Value} {i : Nat} {y : Str} {t : Tok} (h : StrsAre V.toList (us.take i)) (hy : us[i]? = some y) : StrsAre (V.push (.str y t)).toList (us.take (i + 1)) := by
  rw [List.take_add_one, hy, Array.toList_push]
  exact strs_snoc h
theorem strsL : ∀ l : List (Str × Tok), StrsAre (strValues l) (l.map (·.1))
  | [] => StrsAre.nil
  | (x, t) :: l => StrsAre.cons x t (strsL l)
theorem strsN {l : List (Str × Tok)} {as : List Str} (h : l.map (·.1) = as) : StrsAre (strValues l) as := by rw [← h]; exact strsL l
section
theorem shared_gen {w : World} (x y : Str) (us vs : List Str) (t u : Tok) (hx : x.length ≤ 1000) (hy : y.length ≤ 1000) (h1 : Txt.split x (Str.ofString "/") = us) (h2 : Txt.split y (Str.ofString "/") = vs) (hl : us.length = vs.length) (hu : us.length ≤ 1000) (hw : wt us ≤ 20000) :
   SpecT 2 w 249 [.str x t, .str y u] [] (Txt.join (Str.ofString "/") (comPre us vs)) := by
  k_with_none
  w_top off
  k_with "my open" => (((try unfold SpecS); (try unfold SpecI); (try unfold SpecB); (try unfold SpecT); unfold Spec; k_fill; intros; refine wpAny_call ?_))
  k_with "my sub" => (first | exact List.forall_mem_nil _ | (refine' List.forall_mem_cons.mpr ⟨?a_r4, ?b_r4⟩; (case a_r4 => k_mem); (case b_r4 => walk_at "my sub")))
  k_with "my keep" => (exact keepZ (by assumption) (by assumption) (by assumption) (by assumption) (by walk_at "my sub"))
  k_with "my len" => (first | with_reducible assumption | with_reducible exact Nat.le_of_eq (two_len _) | with_reducible exact Nat.le_of_eq (four_len _) | with_reducible exact Nat.le_of_eq (wdN_len (by assumption)) | with_reducible exact Nat.le_of_eq (moN_len (by assumption)) | with_reducible exact lit_len)
  k_with "my text" => (first | with_reducible exact slice_wd (by assumption) | with_reducible exact slice_mo (by assumption) | with_reducible exact zfill_four (by assumption) | with_reducible exact rfl)
  k_with "binaryOp Add str str" => ((k_here; (refine' add_strE ?e1_r15 ?e2_r15 ?a1_r15 ?a2_r15 ?a3_r15 ?_; (case e1_r15 => walk_at "my text"); (case e2_r15 => walk_at "my text"); (case a1_r15 => walk_at "my len"); (case a2_r15 => walk_at "my len"); (case a3_r15 => omega); intro t'm tk'm ln'm)))
  k_with "inplaceOp Add str str" => ((k_here; (refine' iadd_strE ?e1_r16 ?e2_r16 ?a1_r16 ?a2_r16 ?a3_r16 ?_; (case e1_r16 => walk_at "my text"); (case e2_r16 => walk_at "my text"); (case a1_r16 => walk_at "my len"); (case a2_r16 => walk_at "my len"); (case a3_r16 => omega); intro t'm tk'm ln'm)))
  k_with "my entered" => (((case kA => exact rfl); (case kF => exact rfl); (case kK => assumption); (case k1 => k_asm); (case k2 => k_asm); (case k3 => k_asm); (case k4 => k_asm); (case k5 => k_asm); (case k6 => k_is); (case k7 => k_is); (case k8 => ktr_room); (case k9 => exact BindsTo.of_eq rfl); (case c5 => decide); (case kB => exact locs rfl); (case kL => exact rfl); (case c2 => exact rfl); (case c3 => exact rfl); (case c4 => exact rfl); k_whole; intro g'm L'm h'm tk'm HG'm F'm N'm B'm X'm T'm l1m; (try k_lt l1m); (try dsimp only); (try k_lift B'm); (try k_unmd); (try k_fold); (try refine (let A9 := _; (?_ : PySem.wpAny _ A9 _ _ _ _))); (try refine (let e9 := _; (?_ : PySem.wpAny _ _ (PySem.execs _ e9) _ _ _)))))
  k_with "my size" => (first | (rw [sizeLine_eq]; first | omega | (simp only [Str.length_append] at *; omega)) | size_fits)
  k_with "execs cons" => ((k_here; (try ((fail_if_success (fail_if_success k_fold)); (refine (let q8 := _; (?_ : PySem.wpAny _ _ _ q8 _ _))))); (with_reducible refine seqA ?_); (refine (let q8 := _; (?_ : PySem.wpAny _ _ _ q8 _ _))); (try ((with_reducible rename Fr _ _ _ (fun _ => _) => lF8); (refine (let lm8 := _; (fun (F' : Fr _ _ _ lm8) => ?_) lF8)); clear lF8))))
  k_with "execs cons" => ((k_here; k_gentoks))
  k_with "execs cons" => ((k_here; k_made; walk_at "execs cons"))
  k_with "eval Call" => ((k_here; (fail_if_success (fail_if_success k_fold)); (refine (let q8 := _; (?_ : PySem.wpAny _ _ _ q8 _ _)))))
  k_with "eval BinOp" => ((k_here; (fail_if_success (fail_if_success k_fold)); (refine (let q8 := _; (?_ : PySem.wpAny _ _ _ q8 _ _)))))
  k_with "eval Subscript" => ((k_here; (fail_if_success (fail_if_success k_fold)); (refine (let q8 := _; (?_ : PySem.wpAny _ _ _ q8 _ _)))))
  k_with "eval Tuple" => ((k_here; (fail_if_success (fail_if_success k_fold)); (refine (let q8 := _; (?_ : PySem.wpAny _ _ _ q8 _ _)))))
  k_with "eval List" => ((k_here; (fail_if_success (fail_if_success k_fold)); (refine (let q8 := _; (?_ : PySem.wpAny _ _ _ q8 _ _)))))
  k_with "eval Compare" => ((k_here; (fail_if_success (fail_if_success k_fold)); (refine (let q8 := _; (?_ : PySem.wpAny _ _ _ q8 _ _)))))
  k_with "call ref" => ((k_here; (fail_if_success (fail_if_success k_fold)); (refine (let q8 := _; (?_ : PySem.wpAny _ _ _ q8 _ _)))))
  k_with "callWith ref" => ((k_here; k_dflt (refine' callA1 ?k1_r37 ?k2_r37 ?_; (case k1_r37 => k_asm); (case k2_r37 => k_is); k_whole)))
  k_with "callWith ref" => ((k_here; k_dflt (refine' callA2 ?k1_r38 ?k2_r38 ?_; (case k1_r38 => k_asm); (case k2_r38 => k_is); k_whole)))
  k_with "isTrue BoolOp" => ((k_here; (fail_if_success (fail_if_success k_fold)); (refine (let q8 := _; (?_ : PySem.wpAny _ _ _ q8 _ _)))))
  k_with "isTrue Compare" => ((k_here; (fail_if_success (fail_if_success k_fold)); (refine (let q8 := _; (?_ : PySem.wpAny _ _ _ q8 _ _)))))
  k_with "isTrue UnaryOp" => ((k_here; (fail_if_success (fail_if_success k_fold)); (refine (let q8 := _; (?_ : PySem.wpAny _ _ _ q8 _ _)))))
  k_with "assign Name" => ((k_here; (fail_if_success (fail_if_success k_fold)); (refine (let q8 := _; (?_ : PySem.wpAny _ _ _ q8 _ _)))))
  k_with "assign Tuple" => ((k_here; (fail_if_success (fail_if_success k_fold)); (refine (let q8 := _; (?_ : PySem.wpAny _ _ _ q8 _ _)))))
  k_with "callWith" => ((k_here; (with_reducible show PySem.wpAny _ _ (PySem.callWith _ (PySem.Value.builtin _) _ _ []) _ _ _); k_dflt (first | refine callM1 ?_ | refine callM2 ?_ | refine callB1 ?_ | refine callB2 ?_); k_whole))
  k_with "call builtin:str.split" => ((k_here; (refine' splitE ?hs_r119 ?hF_r119 ?hN_r119 ?hy_r119 ?hz_r119 ?_; (case hs_r119 => assumption); (case hF_r119 => k_asm); (case hN_r119 => k_asm); (case hy_r119 => decide); (case hz_r119 => walk_at "my size")); intro D'm l'm h'm k'm e'm F'm N'm l1m; (try k_lt l1m)))
  k_with "compareOp NotEq str str" => ((k_here; refine' neB (fun hnem => ?_) (fun heqm => ?_)))
  k_with "call builtin:str.join" => ((k_here; (with_reducible show wpAny _ _ (call (Value.builtin _) [Value.str _ _, Value.ref _]) _ _ _); k_dflt (refine' joinE ?ja_r121 ?jb_r121 ?jc_r121 ?jd_r121 ?_; (case ja_r121 => is_list); (case jb_r121 => with_reducible assumption); (case jc_r121 => decide +kernel); (case jd_r121 => first | assumption | exact Nat.le_trans (wt_take _ _) (by assumption))); intro t'm k'm ln'm))
  k_with "exec For Tuple Call cons nil" => ((k_here; (rename Fr _ _ _ _ => lF'm); (with_unfolding_all refine' forJF lF'm ?_; k_whole)))
  k_with "call type:zip" => (k_dflt ((rename Fr _ _ _ _ => lF'); (rename News _ _ _ (_ :: _) => lN'); (rename List.map _ _ = us => eu); (rename List.map _ _ = vs => ev); (have hS1 := strsN eu); (have hS2 := strsN ev); k_dflt (refine' zipLstL rfl (Jf := fun b => JZ us vs b) (by rfl) ?zm1 ?zm2 lF' lN' ?z0 ?zturn ?zdone (by passes_own); (case zm1 => k_mem); (case zm2 => k_mem); (case z0 => exact ⟨_, _, _, _, #[], 0, rfl, rfl, StrsAre.nil, rfl, Nat.le_refl _, by (show @Ne Nat _ _); omega, by (show @Ne Nat _ _); omega⟩)); clear lF' lN'; (case' zturn => (intro i x' y' T h1 tk1 m₁ news₁ its hx' hy' hJ hin1 hin2 F' hT N' off; (refine (let G9 : Prop := _; (?_ : G9))); (obtain ⟨p, q, D, o, V, c, hb, hm1, hV, hpre, hVs, hpD, hqD⟩ := hJ); (cases hb); (replace F' := frPin F' hm1); (obtain ⟨y1, t1, rfl, hy1⟩ := hS1.item i _ hx'); (obtain ⟨z1, u1, rfl, hz1⟩ := hS2.item i _ hy'); (replace N' := newsSwap N'); (have hi9 := (List.getElem?_eq_some_iff.mp hy1).1))); (case' zdone => (intro h1 tk1 m₁ news₁ F' N' hJ; (refine (let G9 : Prop := _; (?_ : G9))); (obtain ⟨p, q, D, o, V, c, hb, hm1, hV, hpre, hVs, hpD, hqD⟩ := hJ); (replace F' := frPin F' hm1); (rw [hS1.length, hS2.length, ← hl, Nat.min_self] at hV hpre); (rw [List.take_length] at hV)))))
  k_with "call builtin:list.append" => (k_here; k_dflt (refine' appendLst ?aF ?aN ?aD ?az ?_; (case aF => k_asm); (case aN => k_asm); (case aD => k_mem); (case az => omega)); intro hA cA F' N1 hkeep)
  w_top off; walk_at "my open"; k_dflt (refine' enterP ?k1 ?k2 ?k3 ?k4 ?k5 ?kA ?kF ?kK ?k6 ?k7 ?k8 ?k9 ?kB [(Str.ofString "other", .str y u), (Str.ofString "one", .str x t)] ?kL ?_ ?c2 ?c3 ?c4 ?c5; walk_at "my entered")
  repeat' (first | ((fail_if_success goal_has PySem.wpAny); (try dsimp only); first | (with_reducible refine seqN ?_) | ((with_reducible refine seqE ?_); (try dsimp only)) | ((with_reducible refine seqR ?_); (try dsimp only)) | ((with_reducible refine seqC ?_); (try dsimp only)) | ((with_reducible refine seqB ?_); (try dsimp only))) | ((fail_if_success (fail_if_success k_unfold)); (try dsimp only); k_unfold; (try dsimp only)) | ((fail_if_success goal_has PySem.wpAny); show PySem.wpAny _ _ _ _ _ _; (try dsimp only)) | walk1 | (dsimp only; walk1) | fail "no step")
  all_goals try first
    | (refine' retTE (by assumption) ?_ ?_; walk_at "my keep"; rw [comPre_all hpre])
    | (refine' retTE (by assumption) ?_ ?_; walk_at "my keep"; rw [comPre_till hpre hy1 hz1 (fun q => by rw [q] at hnem; simp at hnem)])
    | (exact unrEndA F' (newsBack3 N1 hkeep off hpD hqD) (off3 off) ⟨⟨by k_mem, by k_mem, trivial⟩, _, _, _, _, _, _, rfl, rfl, stepV hV hy1, take_same hpre hy1 hz1 heqm, by rw [Array.size_push]; omega, hpD, hqD⟩)
end

/-- what a step of normpath's loop makes of the parts so far -/
def normStep (ns : List Str) (p : Str) : List Str := if p = Str.ofString "" ∨ p = Str.ofString "." then ns else if p = Str.ofString ".." then ns.dropLast else ns ++ [p]
def normTo (ps : List Str) : Nat → List Str
  | 0 => []
  | i + 1 => normStep (normTo ps i) (ps.getD i Str.empty)
theorem klast_app (x : Value) : ∀ l : List Value, kl_last (l ++ [x]) = some (l, x)
  | [] => rfl
  | y :: r => by
    show (match kl_last (r ++ [x]) with | some (p, z) => some (y :: p, z) | none => some ([], y)) = _
    rw [klast_app x r]
theorem strs_last {ns : List Str} : ∀ {vs : List Value}, StrsAre vs ns → ns ≠ [] → ∃ ws y t, vs = ws ++ [.str y t] ∧ StrsAre ws ns.dropLast ∧ y ∈ ns
  | _, .nil, h => absurd rfl h
  | _, .cons x t (ys := []) .nil, _ => ⟨[], x, t, rfl, .nil, .head _⟩
  | _, .cons x t (ys := n :: ns) h, _ => by
    obtain ⟨ws, y, u, e, h', hm⟩ := strs_last h (List.cons_ne_nil _ _)
    exact ⟨.str x t :: ws, y, u, by rw [e]; rfl, .cons x t h', .tail _ hm⟩
section
variable {prog : Program} {w : World} {A : Around} {E : Value → Shared → Prop} {s : Shared} {h₀ : Heap} {L D : Addr} {m : Str → Option Value} {news rest : List (Addr × Obj)} {V : Array Value} {n : Nat}
theorem truthyLst {Q : Bool → Shared → Prop} (N : News h₀ L s.heap news) (hm : (D, listO V n) ∈ news) (hz : V.size ≤ 1000) (hne : V.size ≠ 0) (h : ∀ k, Q true { s with toks := k }) : wpAny (model prog w) A (truthy (.ref D)) Q E s := by
  refine wpAny_truthy_list ⟨_, (N _ hm).1, rfl, n, rfl⟩ (by omega) ?_
  rw [show (!V.isEmpty) = true from by simp [Array.isEmpty, hne]]
  exact h _
theorem lastItem {ws : List Value} {y : Str} {t u : Tok} {value slice : PySem.Expr} {Q : Value → Shared → Prop} (N : News h₀ L s.heap news) (hm : (D, listO V n) ∈ news) (e : V.toList = ws ++ [.str y t]) (h : Q (.str y t) s)
    (hs : subscripted slice false (.ref D) (.int (-1) u) = operate [.ref D, .int (-1) u] (getItem (.ref D) (.int (-1) u))) : wpAny (model prog w) A (subscriptTail value slice (.ref D) (.int (-1) u)) Q E s := by
  have hl : s.heap.IsList D (ws ++ [Value.str y t]).toArray := ⟨_, (N _ hm).1, rfl, n, by rw [← e, Array.toArray_toList]⟩
  have hj : seqIndex? (-1) (ws ++ [Value.str y t]).length = some ws.length := by
    rw [PySem.seqIndex_neg (by decide) (by rw [List.length_append, List.length_singleton]; omega), List.length_append, List.length_singleton]
    congr 1
    omega
  exact kde_neg hl (by decide) (by decide) hj (by simp) h hs
theorem popSecond {I : Addr} {o : Obj} {ws : List Value} {y : Value} {Q : Value → Shared → Prop} (F : Fr h₀ L s.heap m) (N : News h₀ L s.heap ((I, o) :: (D, listO V n) :: rest)) (h1 : I ≠ D) (hap : ∀ p ∈ rest, p.1 ≠ D) (e : V.toList = ws ++ [y]) (hz : V.size ≤ 1000)
    (h : ∀ h', Fr h₀ L h' m → News h₀ L h' ((I, o) :: (D, listO ws.toArray (n + 1)) :: rest) → Q y { s with heap := h' }) : wpAny (model prog w) A (call (.builtin "list.pop") [.ref D]) Q E s :=
  kl_pop F N (by rw [e]; exact klast_app y ws) (.tail h1 (.head hap)) (by rw [Array.length_toList, sizeLine_eq]; omega) h
end
theorem normTo_at {ps : List Str} {i : Nat} {p : Str} (h : ps[i]? = some p) : normTo ps (i + 1) = normStep (normTo ps i) p := by
  show normStep (normTo ps i) (ps.getD i Str.empty) = _
  rw [List.getD_eq_getElem?_getD, h]
  rfl
theorem normStep_plain {ns : List Str} {p : Str} (h : ∀ y ∈ ns, Plain y) (hk : p = Str.ofString "" ∨ p = Str.ofString "." ∨ p = Str.ofString ".." ∨ Plain p) : ∀ y ∈ normStep ns p, Plain y := by
  intro y hy
  unfold normStep at hy
  split at hy
  · exact h y hy
  split at hy
  · exact h y (List.dropLast_subset _ hy)
  · rename_i h1 h2
    rcases List.mem_append.mp hy with hy | hy
    · exact h y hy
    · rw [List.mem_singleton.mp hy]
      rcases hk with e | e | e | e
      · exact absurd (.inl e) h1
      · exact absurd (.inr e) h1
      · exact absurd e h2
      · exact e
/-- normpath's loop: what new_comps holds -/
inductive JNo (ps : List Str) (b : List (Addr × Obj)) (i : Nat) (m : Str → Option Value) : List (Addr × Obj) → Prop
  | mk (V : Array Value) (c : Nat) (t1 t2 t3 t4 : Tok) (hm1 : m (Str.ofString "new_comps") = some (.ref (b.headD (0, listO #[] 0)).1)) (hm2 : m (Str.ofString "dot") = some (.str (Str.ofString ".") t1)) (hm3 : m (Str.ofString "dotdot") = some (.str (Str.ofString "..") t2))
    (hm4 : m (Str.ofString "initial_slashes") = some (.str (Str.ofString "/") t3)) (hm5 : m (Str.ofString "sep") = some (.str (Str.ofString "/") t4)) (hap : ∀ p ∈ b.tail, p.1 ≠ (b.headD (0, listO #[] 0)).1) (hV : StrsAre V.toList (normTo ps i)) (hP : ∀ y ∈ normTo ps i, Plain y) (hVs : V.size ≤ i) :
      JNo ps b i m (((b.headD (0, listO #[] 0)).1, listO V c) :: b.tail)
theorem JNo.next {ps : List Str} {b : List (Addr × Obj)} {i c : Nat} {m : Str → Option Value} {V : Array Value} {t1 t2 t3 t4 : Tok} {p : Str} (hp : ps[i]? = some p) (hk : p = Str.ofString "" ∨ p = Str.ofString "." ∨ p = Str.ofString ".." ∨ Plain p) (hP : ∀ y ∈ normTo ps i, Plain y)
    (hap : ∀ p ∈ b.tail, p.1 ≠ (b.headD (0, listO #[] 0)).1) (hV : StrsAre V.toList (normStep (normTo ps i) p)) (hVs : V.size ≤ i + 1) (hm1 : m (Str.ofString "new_comps") = some (.ref (b.headD (0, listO #[] 0)).1)) (hm2 : m (Str.ofString "dot") = some (.str (Str.ofString ".") t1)) (hm3 : m (Str.ofString "dotdot") = some (.str (Str.ofString "..") t2))
    (hm4 : m (Str.ofString "initial_slashes") = some (.str (Str.ofString "/") t3)) (hm5 : m (Str.ofString "sep") = some (.str (Str.ofString "/") t4)) : JNo ps b (i + 1) m (((b.headD (0, listO #[] 0)).1, listO V c) :: b.tail) := by
  refine .mk V c _ _ _ _ hm1 hm2 hm3 hm4 hm5 hap ?_ ?_ hVs
  · rw [normTo_at hp]; exact hV
  · rw [normTo_at hp]; exact normStep_plain hP hk
theorem step_skip {ns : List Str} {p : Str} (h : p = Str.ofString "" ∨ p = Str.ofString ".") : normStep ns p = ns := if_pos h
theorem step_up (ns : List Str) : normStep ns (Str.ofString "..") = ns.dropLast := (if_neg (by decide +kernel)).trans (if_pos rfl)
theorem step_on {ns : List Str} {p : Str} (h : Plain p) : normStep ns p = ns ++ [p] := (if_neg (fun e => e.elim (fun e => by subst e; exact absurd h.ne (by decide +kernel)) (fun e => by subst e; exact absurd h.dot (by decide +kernel)))).trans (if_neg fun e => by subst e; exact absurd h.dots (by decide +kernel))
theorem vne {V : Array Value} {ns : List Str} (h : StrsAre V.toList ns) (hn : ns ≠ []) : V.size ≠ 0 := fun e => by
  have := h.length
  rw [Array.length_toList, e] at this
  exact hn (List.length_eq_zero_iff.mp this.symm)
theorem frPin5 {h₀ : Heap} {L : Addr} {h : Heap} {m : Str → Option Value} {x1 x2 x3 x4 x5 : Str} {v1 v2 v3 v4 v5 : Value} (F : Fr h₀ L h m) (e1 : m x1 = some v1) (e2 : m x2 = some v2) (e3 : m x3 = some v3) (e4 : m x4 = some v4) (e5 : m x5 = some v5) :
    Fr h₀ L h (fun y => if y = x1 then some v1 else if y = x2 then some v2 else if y = x3 then some v3 else if y = x4 then some v4 else if y = x5 then some v5 else m y) := by
  have pin : ∀ {x : Str} {v : Value} {m' : Str → Option Value}, m' = m → m x = some v → (fun y => if y = x then some v else m' y) = m := fun {x v m'} e1 e2 => by
    subst e1
    funext y
    by_cases q : y = x
    · exact (if_pos q).trans (q ▸ e2.symm)
    · exact if_neg q
  rw [pin (pin (pin (pin (pin rfl e5) e4) e3) e2) e1]
  exact F
theorem popLen {V : Array Value} {ws : List Value} {x : Value} {i : Nat} (e : V.toList = ws ++ [x]) (h : V.size ≤ i) : ws.toArray.size ≤ i + 1 := by
  have e2 := congrArg List.length e
  rw [Array.length_toList, List.length_append] at e2
  rw [List.size_toArray]
  exact Nat.le_trans (Nat.le_add_right _ _) (Nat.le_trans (Nat.le_of_eq e2.symm) (Nat.le_succ_of_le h))
theorem push_on {V : Array Value} {ns : List Str} {p : Str} {t : Tok} (h : StrsAre V.toList ns) (hp : Plain p) : StrsAre (V.push (.str p t)).toList (normStep ns p) := by
  rw [step_on hp, Array.toList_push]
  exact strs_snoc h

section
theorem norm_gen {w : World} (x : Str) (ps : List Str) (t : Tok) (hx : x.length ≤ 1000) (h0 : x.length ≠ 0) (h1 : (Txt.slice x none (some 1) == Str.ofString "/") = true) (h2 : (Txt.slice x (some 1) (some 2) == Str.ofString "/") = false)
   (h3 : Txt.split (Txt.slice x (some 1) none) (Str.ofString "/") = ps) (hk : ∀ p ∈ ps, p = Str.ofString "" ∨ p = Str.ofString "." ∨ p = Str.ofString ".." ∨ Plain p) (hdd : ∀ i, ps[i]? = some (Str.ofString "..") → normTo ps i ≠ []) (hn : ps.length ≤ 100) (hw : wt (normTo ps ps.length) ≤ 20000) :
   SpecT 4 w 150 [.str x t] [] (Str.ofString "/" ++ Txt.join (Str.ofString "/") (normTo ps ps.length)) := by
  k_with_none
  w_top off
  k_with "my open" => (((try unfold SpecS); (try unfold SpecI); (try unfold SpecB); (try unfold SpecT); unfold Spec; k_fill; intros; refine wpAny_call ?_))
  k_with "my sub" => (first | exact List.forall_mem_nil _ | (refine' List.forall_mem_cons.mpr ⟨?a_r4, ?b_r4⟩; (case a_r4 => k_mem); (case b_r4 => walk_at "my sub")))
  k_with "my keep" => (exact keepZ (by assumption) (by assumption) (by assumption) (by assumption) (by walk_at "my sub"))
  k_with "my use" => (((case b1 => k_asm); (case f1 => k_asm); (case x1 => k_asm); (case n1 => k_asm); (case t1 => k_asm); (case kk => first | exact rfl | assumption); (case hd => first | exact room1 (by with_reducible assumption) rfl | omega | ((try dsimp only [A9]); (try dsimp only [Around.deeper]); omega) | (trace_state; ktr_room)); (case hu => first | exact units1 (by with_reducible assumption) rfl | omega | ((try dsimp only [A9]); (try dsimp only [Around.deeper]); omega) | (trace_state; ktr_units)); (case ha => walk_at "my sub")))
  k_with "my len" => (first | with_reducible assumption | with_reducible exact Nat.le_of_eq (two_len _) | with_reducible exact Nat.le_of_eq (four_len _) | with_reducible exact Nat.le_of_eq (wdN_len (by assumption)) | with_reducible exact Nat.le_of_eq (moN_len (by assumption)) | with_reducible exact lit_len)
  k_with "my text" => (first | with_reducible exact slice_wd (by assumption) | with_reducible exact slice_mo (by assumption) | with_reducible exact zfill_four (by assumption) | with_reducible exact rfl)
  k_with "binaryOp Add str str" => ((k_here; (refine' add_strE ?e1_r15 ?e2_r15 ?a1_r15 ?a2_r15 ?a3_r15 ?_; (case e1_r15 => walk_at "my text"); (case e2_r15 => walk_at "my text"); (case a1_r15 => walk_at "my len"); (case a2_r15 => walk_at "my len"); (case a3_r15 => omega); intro t'm tk'm ln'm)))
  k_with "inplaceOp Add str str" => ((k_here; (refine' iadd_strE ?e1_r16 ?e2_r16 ?a1_r16 ?a2_r16 ?a3_r16 ?_; (case e1_r16 => walk_at "my text"); (case e2_r16 => walk_at "my text"); (case a1_r16 => walk_at "my len"); (case a2_r16 => walk_at "my len"); (case a3_r16 => omega); intro t'm tk'm ln'm)))
  k_with "my entered" => (((case kA => exact rfl); (case kF => exact rfl); (case kK => assumption); (case k1 => k_asm); (case k2 => k_asm); (case k3 => k_asm); (case k4 => k_asm); (case k5 => k_asm); (case k6 => k_is); (case k7 => k_is); (case k8 => ktr_room); (case k9 => exact BindsTo.of_eq rfl); (case c5 => decide); (case kB => exact locs rfl); (case kL => exact rfl); (case c2 => exact rfl); (case c3 => exact rfl); (case c4 => exact rfl); k_whole; intro g'm L'm h'm tk'm HG'm F'm N'm B'm X'm T'm l1m; (try k_lt l1m); (try dsimp only); (try k_lift B'm); (try k_unmd); (try k_fold); (try refine (let A9 := _; (?_ : PySem.wpAny _ A9 _ _ _ _))); (try refine (let e9 := _; (?_ : PySem.wpAny _ _ (PySem.execs _ e9) _ _ _)))))
  k_with "my size" => (first | (rw [sizeLine_eq]; first | omega | (simp only [Str.length_append] at *; omega)) | size_fits)
  k_with "my plain" => (first | with_reducible exact Plain.ne (by assumption) | with_reducible exact Plain.dot (by assumption) | with_reducible exact Plain.dots (by assumption) | with_reducible assumption | decide +kernel)
  k_with "my le" => (first | with_reducible assumption | with_reducible exact Nat.le_trans (Plain.le (by assumption)) (by decide) | decide +kernel | omega)
  k_with "execs cons" => ((k_here; (try ((fail_if_success (fail_if_success k_fold)); (refine (let q8 := _; (?_ : PySem.wpAny _ _ _ q8 _ _))))); (with_reducible refine seqA ?_); (refine (let q8 := _; (?_ : PySem.wpAny _ _ _ q8 _ _))); (try ((with_reducible rename Fr _ _ _ (fun _ => _) => lF8); (refine (let lm8 := _; (fun (F' : Fr _ _ _ lm8) => ?_) lF8)); clear lF8))))
  k_with "execs cons" => ((k_here; k_gentoks))
  k_with "execs cons" => ((k_here; k_made; walk_at "execs cons"))
  k_with "eval Call" => ((k_here; (fail_if_success (fail_if_success k_fold)); (refine (let q8 := _; (?_ : PySem.wpAny _ _ _ q8 _ _)))))
  k_with "eval BinOp" => ((k_here; (fail_if_success (fail_if_success k_fold)); (refine (let q8 := _; (?_ : PySem.wpAny _ _ _ q8 _ _)))))
  k_with "eval Subscript" => ((k_here; (fail_if_success (fail_if_success k_fold)); (refine (let q8 := _; (?_ : PySem.wpAny _ _ _ q8 _ _)))))
  k_with "eval Tuple" => ((k_here; (fail_if_success (fail_if_success k_fold)); (refine (let q8 := _; (?_ : PySem.wpAny _ _ _ q8 _ _)))))
  k_with "eval List" => ((k_here; (fail_if_success (fail_if_success k_fold)); (refine (let q8 := _; (?_ : PySem.wpAny _ _ _ q8 _ _)))))
  k_with "eval Compare" => ((k_here; (fail_if_success (fail_if_success k_fold)); (refine (let q8 := _; (?_ : PySem.wpAny _ _ _ q8 _ _)))))
  k_with "call ref" => ((k_here; (fail_if_success (fail_if_success k_fold)); (refine (let q8 := _; (?_ : PySem.wpAny _ _ _ q8 _ _)))))
  k_with "callWith ref" => ((k_here; k_dflt (refine' callA1 ?k1_r37 ?k2_r37 ?_; (case k1_r37 => k_asm); (case k2_r37 => k_is); k_whole)))
  k_with "callWith ref" => ((k_here; k_dflt (refine' callA2 ?k1_r38 ?k2_r38 ?_; (case k1_r38 => k_asm); (case k2_r38 => k_is); k_whole)))
  k_with "isTrue BoolOp" => ((k_here; (fail_if_success (fail_if_success k_fold)); (refine (let q8 := _; (?_ : PySem.wpAny _ _ _ q8 _ _)))))
  k_with "isTrue Compare" => ((k_here; (fail_if_success (fail_if_success k_fold)); (refine (let q8 := _; (?_ : PySem.wpAny _ _ _ q8 _ _)))))
  k_with "isTrue UnaryOp" => ((k_here; (fail_if_success (fail_if_success k_fold)); (refine (let q8 := _; (?_ : PySem.wpAny _ _ _ q8 _ _)))))
  k_with "assign Name" => ((k_here; (fail_if_success (fail_if_success k_fold)); (refine (let q8 := _; (?_ : PySem.wpAny _ _ _ q8 _ _)))))
  k_with "assign Tuple" => ((k_here; (fail_if_success (fail_if_success k_fold)); (refine (let q8 := _; (?_ : PySem.wpAny _ _ _ q8 _ _)))))
  k_with "callWith" => ((k_here; (with_reducible show PySem.wpAny _ _ (PySem.callWith _ (PySem.Value.builtin _) _ _ []) _ _ _); k_dflt (first | refine callM1 ?_ | refine callM2 ?_ | refine callB1 ?_ | refine callB2 ?_); k_whole))
  k_with "my nes2" => (first | exact List.forall_mem_nil _ | (refine' List.forall_mem_cons.mpr ⟨?a_r45, ?b_r45⟩; (case a_r45 => (show @Ne Nat _ _; omega)); (case b_r45 => walk_at "my nes2")))
  k_with "call builtin:str.split" => ((k_here; (refine' splitE ?hs_r123 ?hF_r123 ?hN_r123 ?hy_r123 ?hz_r123 ?_; (case hs_r123 => assumption); (case hF_r123 => k_asm); (case hN_r123 => k_asm); (case hy_r123 => decide); (case hz_r123 => walk_at "my size")); intro D'm l'm h'm k'm e'm F'm N'm l1m; (try k_lt l1m)))
  k_with "exec For Name Name cons nil" => ((k_here; (rename Fr _ _ _ _ => lF'm); (with_unfolding_all refine' forJF lF'm ?_; k_whole)))
  k_with "truthy str" => ((k_here; first | (refine' truthyT ?ta_r125 ?tb_r125 ?_; (case ta_r125 => walk_at "my plain"); (case tb_r125 => walk_at "my le"); intro k'm) | (refine' truthyF ?ta_r125 ?_; (case ta_r125 => decide +kernel); intro k'm)))
  k_with "compareOp Eq str str" => ((k_here; first | (refine' eqF ?tc_r126 ?_; (case tc_r126 => walk_at "my plain")) | (refine' eqT ?tc_r126 ?_; (case tc_r126 => decide +kernel))))
  k_with "compareOp NotEq str str" => ((k_here; first | (refine' neT ?tc_r127 ?_; (case tc_r127 => walk_at "my plain")) | (refine' neF ?tc_r127 ?_; (case tc_r127 => decide +kernel))))
  k_with "call builtin:str.join" => ((k_here; (with_reducible show wpAny _ _ (call (Value.builtin _) [Value.str _ _, Value.ref _]) _ _ _); k_dflt (refine' joinE ?ja_r128 ?jb_r128 ?jc_r128 ?jd_r128 ?_; (case ja_r128 => is_list); (case jb_r128 => with_reducible assumption); (case jc_r128 => decide +kernel); (case jd_r128 => assumption)); intro t'm k'm ln'm))
  k_with "call ref" => (k_here; k_dflt (refine' Spec.use (fspath_spec _ _) ?b1 ?f1 ?x1 ?n1 ?t1 ?kk ?hd ?hu ?ha ?_; walk_at "my use"; k_whole; rintro _ _ h' tk' F' N' lt' ⟨rfl, ⟨t', rfl⟩, ln'⟩; (try dsimp only [List.nil_append] at N'); clear lt'))
  k_with "call ref" => (k_here; k_dflt (refine' Spec.use (splitroot_spec _ _ (by assumption) (by first | assumption | simp [bne, h1]) (by first | assumption | simp [bne, h2])) ?b1 ?f1 ?x1 ?n1 ?t1 ?kk ?hd ?hu ?ha ?_; walk_at "my use"; k_whole; rintro _ _ h' tk' F' N' lt' ⟨D', n', t1', t2', t3', rfl, rfl⟩; (dsimp only [List.cons_append, List.nil_append] at N'); clear lt'))
  k_with "pyIter ref" => (k_dflt ((rename List.map _ _ = ps => eu); (have hS1 := strsN eu); (rename Fr _ _ _ _ => lF'); (rename News _ _ _ (_ :: _) => lN'); refine' iterLstJL rfl (Jf := fun b => JNo ps b) (by rfl) ?em lF' lN' ?e0 ?eturn ?edone (by passes_own); (case em => k_mem); (case e0 => refine .mk #[] 0 _ _ _ _ rfl rfl rfl rfl rfl ?ap StrsAre.nil (fun _ h => nomatch h) (Nat.le_refl _); (dsimp only [List.headD_cons, List.tail_cons]); walk_at "my nes2"); clear lF' lN'; (case' eturn => (intro i v h1' tk1 m₁ news₁ I o hv hJ hin F' ho N' off; (refine (let G9 : Prop := _; (?_ : G9))); (obtain ⟨V, c, t1, t2, t3, t4, hm1, hm2, hm3, hm4, hm5, hap, hV, hP, hVs⟩ := hJ); (dsimp only [List.headD_cons, List.tail_cons] at N' hm1 off hin hap); (replace F' := frPin5 F' hm1 hm2 hm3 hm4 hm5); (obtain ⟨p, tp, rfl, hp⟩ := hS1.item i v hv); (have hi1 : i < ps.length := (List.getElem?_eq_some_iff.mp hp).1); (have hl9 : p = Str.ofString ".." → V.size ≠ 0 ∧ ∃ ws y t, V.toList = ws ++ [Value.str y t] ∧ StrsAre ws (normTo ps i).dropLast ∧ Plain y := fun e => ⟨vne hV (hdd i (e ▸ hp)), have ⟨ws, y, t, a, b, c⟩ := strs_last hV (hdd i (e ▸ hp)); ⟨ws, y, t, a, b, hP y c⟩⟩); (have hk9 := hk p (List.mem_of_getElem? hp)); (rcases hk9 with rfl | rfl | rfl | pp))); (case' edone => (intro h1' tk1 m₁ news₁ F' N' hJ; (refine (let G9 : Prop := _; (?_ : G9))); (obtain ⟨V, c, t1, t2, t3, t4, hm1, hm2, hm3, hm4, hm5, hap, hV, hP, hVs⟩ := hJ); (rw [hS1.length] at hV hVs); (dsimp only [List.headD_cons, List.tail_cons] at N' hm1); (replace F' := frPin5 F' hm1 hm2 hm3 hm4 hm5)))))
  k_with "truthy ref" => (k_here; k_dflt (refine' truthyLst ?tN ?tm ?tz ?te ?_; (case tN => k_asm); (case tm => k_mem); (case tz => omega); (case te => exact (hl9 rfl).1)); intro k')
  k_with "subscriptTail" => (k_here; (with_reducible show wpAny _ _ (subscriptTail _ _ (Value.ref _) (Value.int _ _)) _ _ _); k_dflt ((obtain ⟨hne9, ws9, y9, t9, hVe9, hws9, hy9⟩ := hl9 rfl); refine' lastItem ?lN ?lm hVe9 ?_ ?ls; (case lN => k_asm); (case lm => k_mem); (case ls => with_unfolding_all rfl)))
  k_with "subscriptTail Name UnaryOp ref int" => (k_here; (with_reducible show wpAny _ _ (subscriptTail _ _ (Value.ref _) (Value.int _ _)) _ _ _); k_dflt ((obtain ⟨hne9, ws9, y9, t9, hVe9, hws9, hy9⟩ := hl9 rfl); refine' lastItem ?lN ?lm hVe9 ?_ ?ls; (case lN => k_asm); (case lm => k_mem); (case ls => with_unfolding_all rfl)))
  k_with "call builtin:list.pop" => (k_here; k_dflt (refine' popSecond ?pF ?pN ?p1 hap hVe9 ?pz ?_; (case pF => k_asm); (case pN => k_asm); (case p1 => exact fun e => off _ (.head _) e.symm); (case pz => omega)); intro h' F' N')
  k_with "call builtin:list.append" => (k_here; k_dflt (refine' appSecond ?aF ?aN off hap ?az ?_; (case aF => assumption); (case aN => assumption); (case az => rw [sizeLine_eq]; omega)); intro h' F' N'; k_whole)
  w_top off; walk_at "my open"; k_dflt (refine' enterP ?k1 ?k2 ?k3 ?k4 ?k5 ?kA ?kF ?kK ?k6 ?k7 ?k8 ?k9 ?kB [(Str.ofString "path", .str x t)] ?kL ?_ ?c2 ?c3 ?c4 ?c5; walk_at "my entered")
  repeat' (first | ((fail_if_success goal_has PySem.wpAny); (try dsimp only); first | (with_reducible refine seqN ?_) | ((with_reducible refine seqE ?_); (try dsimp only)) | ((with_reducible refine seqR ?_); (try dsimp only)) | ((with_reducible refine seqC ?_); (try dsimp only)) | ((with_reducible refine seqB ?_); (try dsimp only))) | ((fail_if_success (fail_if_success k_unfold)); (try dsimp only); k_unfold; (try dsimp only)) | ((fail_if_success goal_has PySem.wpAny); show PySem.wpAny _ _ _ _ _ _; (try dsimp only)) | walk1 | (dsimp only; walk1) | fail "no step")
  all_goals try first
    | exact JNo.next hp (.inl rfl) hP hap (by rw [step_skip (.inl rfl)]; exact hV) (Nat.le_succ_of_le hVs) rfl rfl rfl rfl rfl
    | exact JNo.next hp (.inr (.inl rfl)) hP hap (by rw [step_skip (.inr rfl)]; exact hV) (Nat.le_succ_of_le hVs) rfl rfl rfl rfl rfl
    | exact JNo.next hp (.inr (.inr (.inl rfl))) hP hap (by rw [step_up]; exact hws9) (popLen hVe9 hVs) rfl rfl rfl rfl rfl
    | exact JNo.next hp (.inr (.inr (.inr pp))) hP hap (push_on hV pp) (by rw [Array.size_push]; exact Nat.succ_le_succ hVs) rfl rfl rfl rfl rfl
    | (refine' retTE (by assumption) ?_ rfl; walk_at "my keep")
end
section
variable {a1 a2 a3 a4 a5 n : Str}
theorem plain_x : Plain (Str.ofString "x") := ⟨by decide +kernel, by decide +kernel, by decide +kernel, by decide +kernel⟩
theorem norm_8 (p1 : Plain a1) (p2 : Plain a2) (p3 : Plain a3) (p4 : Plain a4) (p5 : Plain a5) : normTo [a1, a2, a3, a4, a5, Str.ofString ".", Str.ofString "x", Str.ofString "", Str.ofString "..", n] 8 = [a1, a2, a3, a4, a5, Str.ofString "x"] := by
  show normStep (normStep (normStep (normStep (normStep (normStep (normStep (normStep [] a1) a2) a3) a4) a5) (Str.ofString ".")) (Str.ofString "x")) (Str.ofString "") = _
  rw [step_on p1, step_on p2, step_on p3, step_on p4, step_on p5, step_skip (.inr rfl), step_on plain_x, step_skip (.inl rfl)]
  rfl
theorem notUp {a : Str} (p : Plain a) (e : some a = some (Str.ofString "..")) : False := absurd ((congrArg (· == Str.ofString "..") (Option.some.inj e)).symm.trans p.dots) (by decide +kernel)
theorem wt_six (l1 : a1.length ≤ 1000) (l2 : a2.length ≤ 1000) (l3 : a3.length ≤ 1000) (l4 : a4.length ≤ 1000) (l5 : a5.length ≤ 1000) (l6 : n.length ≤ 1000) : wt [a1, a2, a3, a4, a5, n] ≤ 20000 := by
  show a1.length + (a2.length + (a3.length + (a4.length + (a5.length + (n.length + 0))))) + 6 ≤ 20000
  omega
theorem normpath_spec {w : World} (x : Str) (t : Tok) (hx : x.length ≤ 1000) (h0 : x.length ≠ 0) (h1 : (Txt.slice x none (some 1) == Str.ofString "/") = true) (h2 : (Txt.slice x (some 1) (some 2) == Str.ofString "/") = false)
   (h3 : Txt.split (Txt.slice x (some 1) none) (Str.ofString "/") = [a1, a2, a3, a4, a5, Str.ofString ".", Str.ofString "x", Str.ofString "", Str.ofString "..", n])
   (p1 : Plain a1) (p2 : Plain a2) (p3 : Plain a3) (p4 : Plain a4) (p5 : Plain a5) (p6 : Plain n) (l1 : a1.length ≤ 1000) (l2 : a2.length ≤ 1000) (l3 : a3.length ≤ 1000) (l4 : a4.length ≤ 1000) (l5 : a5.length ≤ 1000) (l6 : n.length ≤ 1000) :
   SpecT 4 w 150 [.str x t] [] (Str.ofString "/" ++ Txt.join (Str.ofString "/") [a1, a2, a3, a4, a5, n]) := by
  have n10 : normTo [a1, a2, a3, a4, a5, Str.ofString ".", Str.ofString "x", Str.ofString "", Str.ofString "..", n] 10 = [a1, a2, a3, a4, a5, n] := by
    show normStep (normStep (normTo _ 8) (Str.ofString "..")) n = _
    rw [norm_8 p1 p2 p3 p4 p5, step_up, step_on p6]
    rfl
  have h := norm_gen (w := w) x _ t hx h0 h1 h2 h3
    (allC (.inr (.inr (.inr p1))) (allC (.inr (.inr (.inr p2))) (allC (.inr (.inr (.inr p3))) (allC (.inr (.inr (.inr p4))) (allC (.inr (.inr (.inr p5))) (allC (.inr (.inl rfl)) (allC (.inr (.inr (.inr plain_x))) (allC (.inl rfl) (allC (.inr (.inr (.inl rfl))) (allC (.inr (.inr (.inr p6))) allN))))))))))
    (fun i h => ?_) (show 10 ≤ 100 by decide) (Nat.le_trans (Nat.le_of_eq (congrArg wt n10)) (wt_six l1 l2 l3 l4 l5 l6))
  · rw [show normTo [a1, a2, a3, a4, a5, Str.ofString ".", Str.ofString "x", Str.ofString "", Str.ofString "..", n] (List.length [a1, a2, a3, a4, a5, Str.ofString ".", Str.ofString "x", Str.ofString "", Str.ofString "..", n]) = _ from n10] at h
    exact h
  · match i, h with
    | 0, h => exact (notUp p1 h).elim
    | 1, h => exact (notUp p2 h).elim
    | 2, h => exact (notUp p3 h).elim
    | 3, h => exact (notUp p4 h).elim
    | 4, h => exact (notUp p5 h).elim
    | 5, h => exact absurd (show some (Str.ofString ".") = some (Str.ofString "..") from h) (by decide +kernel)
    | 6, h => exact (notUp plain_x h).elim
    | 7, h => exact absurd (show some (Str.ofString "") = some (Str.ofString "..") from h) (by decide +kernel)
    | 8, h => rw [norm_8 p1 p2 p3 p4 p5]; exact List.cons_ne_nil _ _
    | 9, h => exact (notUp p6 h).elim
    | i + 10, h => cases h
end

theorem date_short {y mo d h mi s wd : Int} {z : Str} (b2 : 1 ≤ mo ∧ mo ≤ 12) (b7 : 0 ≤ wd ∧ wd < 7) (hz : z.length ≤ 5) : (dateN y mo d h mi s wd z).length ≤ 40 := by
  unfold dateN
  simp only [Str.length_append, two_len, four_len, wdN_len b7, moN_len b2, join3_len ":" h mi s (by decide +kernel), ofString_len ", " 2, ofString_len " " 1]
  omega
abbrev lineN (row date : Str) (n : Int) : Str := row ++ Str.ofString "'" ++ date ++ Str.ofString "'" ++ nameN n
theorem line_len {row date : Str} {n : Int} (h1 : row.length ≤ 10) (h2 : date.length ≤ 40) : (lineN row date n).length ≤ 1000 := by
  simp only [lineN, Str.length_append, name_len, ofString_len "'" 1]
  omega
theorem two_specE {w : World} (n k : Int) (t : Tok) (e : n = k) (h : 0 ≤ k ∧ k < 100) : SpecS 1 w 221 [.int n t] [] (two k) 2 := by
  subst e
  exact two_spec n t h
theorem join4E {w : World} (x y1 y2 y3 y4 z1 z2 z3 z4 : Str) (t u1 u2 u3 u4 : Tok) (e1 : y1 = z1) (e2 : y2 = z2) (e3 : y3 = z3) (e4 : y4 = z4) (hx : x.length ≤ 1000) (h2 : x.length ≠ 0) (h3 : Txt.endswith x (Str.ofString "/") = false) (p1 : Part z1) (p2 : Part z2) (p3 : Part z3) (p4 : Part z4) :
   SpecT 2 w 129 [.str x t, .str y1 u1, .str y2 u2, .str y3 u3, .str y4 u4] [] (x ++ (Str.ofString "/" ++ z1) ++ (Str.ofString "/" ++ z2) ++ (Str.ofString "/" ++ z3) ++ (Str.ofString "/" ++ z4)) := by
  subst e1 e2 e3 e4
  exact join4N x y1 y2 y3 y4 t u1 u2 u3 u4 hx h2 h3 p1 p1.le p2 p2.le p3 p3.le p4 p4.le
theorem normE {w : World} {y mo d h mi s n : Int} (o : Ok y mo d h mi s n) (t : Tok) : SpecT 4 w 150 [.str (fullN y mo d h mi s n) t] [] (wayN y mo d h mi s n) := by
  have pl := wayP_plain o
  have e := normpath_spec (w := w) (fullN y mo d h mi s n) t (by rw [full_len]; decide) (by rw [full_len]; decide) full_s1 full_s2 (full_parts o) (pl _ (by simp [wayP])) (pl _ (by simp [wayP])) (pl _ (by simp [wayP])) (pl _ (by simp [wayP])) (pl _ (by simp [wayP])) (pl _ (by simp [wayP]))
    (pl _ (by simp [wayP])).le (pl _ (by simp [wayP])).le (pl _ (by simp [wayP])).le (pl _ (by simp [wayP])).le (pl _ (by simp [wayP])).le (pl _ (by simp [wayP])).le
  rw [normP_wayP] at e
  exact e
/-- the tokens only grow: kept for what comes -/
def Tok1 (n : Nat) (Q : Value → Shared → Prop) (v : Value) (s : Shared) : Prop := n ≤ s.toks → Q v s
section
variable {prog : Program} {w : World} {A : Around} {E : Value → Shared → Prop} {s : Shared} {Q : Value → Shared → Prop}
theorem tok1 {t : Sem Value} (h : wpAny (model prog w) A t (Tok1 s.toks Q) E s) : wpAny (model prog w) A t Q E s := wpAny_with_toks (Nat.le_refl _) (wpAny_mono h (fun _ _ x => x) fun _ _ x _ => x)
theorem index_month {mo : Int} {x : Str} {t u : Tok} (hx : x = moN mo) (h : 1 ≤ mo ∧ mo ≤ 12) (hq : ∀ t' tk, Q (.int (3 * (mo - 1)) t') { s with toks := tk }) : wpAny (model prog w) A (call (.builtin "str.index") [.str (Str.ofString "JanFebMarAprMayJunJulAugSepOctNovDec") t, .str x u]) Q E s := by
  subst hx
  obtain ⟨k, h1, h2⟩ := find_month h
  refine SC.index h1 ?_
  rw [h2]
  exact hq _ _
end
section
theorem filed_spec {w : World} (y mo d h mi s wd n m : Int) (z : Str) (t : Tok) (o : Ok y mo d h mi s n) (b2 : 1 ≤ mo ∧ mo ≤ 12) (b7 : 0 ≤ wd ∧ wd < 7) (hz : z.length ≤ 5) (hz2 : 39 ∉ z.cps.toList) :
   Spec 8 w 256 [.str (lineN (rowN m) (dateN y mo d h mi s wd z) n) t] [] (fun r tl => ∃ D k t1 t2, r = .ref D ∧ tl = [(D, tupleO #[.str (wayN y mo d h mi s n) t1, .str (rowN m) t2] k)]) := by
  k_with_none
  w_top off
  k_with "my open" => (((try unfold SpecS); (try unfold SpecI); (try unfold SpecB); (try unfold SpecT); unfold Spec; k_fill; intros; refine wpAny_call ?_))
  k_with "my sub" => (first | exact List.forall_mem_nil _ | (refine' List.forall_mem_cons.mpr ⟨?a_r4, ?b_r4⟩; (case a_r4 => k_mem); (case b_r4 => walk_at "my sub")))
  k_with "my nes" => (first | exact List.forall_mem_nil _ | (refine' List.forall_mem_cons.mpr ⟨?a_r5, ?b_r5⟩; (case a_r5 => (dsimp only; omega)); (case b_r5 => walk_at "my nes")))
  k_with "my keep" => (exact keepZ (by assumption) (by assumption) (by assumption) (by assumption) (by walk_at "my sub"))
  k_with "my fresh" => (exact freshZ (by assumption) (by assumption) (by k_mem) (by walk_at "my nes"))
  k_with "my use" => (((case b1 => k_asm); (case f1 => k_asm); (case x1 => k_asm); (case n1 => k_asm); (case t1 => k_asm); (case kk => first | exact rfl | assumption); (case hd => first | exact room1 (by with_reducible assumption) rfl | omega | ((try dsimp only [A9]); (try dsimp only [Around.deeper]); omega) | (trace_state; ktr_room)); (case hu => first | exact units1 (by with_reducible assumption) rfl | omega | ((try dsimp only [A9]); (try dsimp only [Around.deeper]); omega) | (trace_state; ktr_units)); (case ha => walk_at "my sub")))
  k_with "my ret1" => ((refine' ret1 (by assumption) ?r1_r12 ?r2_r12 ?r3_r12; (case r2_r12 => walk_at "my fresh"); (case r1_r12 => walk_at "my keep")))
  k_with "my len" => (first | with_reducible assumption | with_reducible exact Nat.le_of_eq (two_len _) | with_reducible exact Nat.le_of_eq (four_len _) | with_reducible exact Nat.le_of_eq (wdN_len (by assumption)) | with_reducible exact Nat.le_of_eq (moN_len (by assumption)) | with_reducible exact lit_len)
  k_with "my text" => (first | with_reducible exact slice_wd (by assumption) | with_reducible exact slice_mo (by assumption) | with_reducible exact zfill_four (by assumption) | with_reducible exact rfl)
  k_with "binaryOp Add str str" => ((k_here; (refine' add_strE ?e1_r15 ?e2_r15 ?a1_r15 ?a2_r15 ?a3_r15 ?_; (case e1_r15 => walk_at "my text"); (case e2_r15 => walk_at "my text"); (case a1_r15 => walk_at "my len"); (case a2_r15 => walk_at "my len"); (case a3_r15 => omega); intro t'm tk'm ln'm)))
  k_with "inplaceOp Add str str" => ((k_here; (refine' iadd_strE ?e1_r16 ?e2_r16 ?a1_r16 ?a2_r16 ?a3_r16 ?_; (case e1_r16 => walk_at "my text"); (case e2_r16 => walk_at "my text"); (case a1_r16 => walk_at "my len"); (case a2_r16 => walk_at "my len"); (case a3_r16 => omega); intro t'm tk'm ln'm)))
  k_with "my entered" => (((case kA => exact rfl); (case kF => exact rfl); (case kK => assumption); (case k1 => k_asm); (case k2 => k_asm); (case k3 => k_asm); (case k4 => k_asm); (case k5 => k_asm); (case k6 => k_is); (case k7 => k_is); (case k8 => ktr_room); (case k9 => exact BindsTo.of_eq rfl); (case c5 => decide); (case kB => exact locs rfl); (case kL => exact rfl); (case c2 => exact rfl); (case c3 => exact rfl); (case c4 => exact rfl); k_whole; intro g'm L'm h'm tk'm HG'm F'm N'm B'm X'm T'm l1m; (try k_lt l1m); (try dsimp only); (try k_lift B'm); (try k_unmd); (try k_fold); (try refine (let A9 := _; (?_ : PySem.wpAny _ A9 _ _ _ _))); (try refine (let e9 := _; (?_ : PySem.wpAny _ _ (PySem.execs _ e9) _ _ _)))))
  k_with "execs cons" => ((k_here; (try ((fail_if_success (fail_if_success k_fold)); (refine (let q8 := _; (?_ : PySem.wpAny _ _ _ q8 _ _))))); (with_reducible refine seqA ?_); (refine (let q8 := _; (?_ : PySem.wpAny _ _ _ q8 _ _))); (try ((with_reducible rename Fr _ _ _ (fun _ => _) => lF8); (refine (let lm8 := _; (fun (F' : Fr _ _ _ lm8) => ?_) lF8)); clear lF8))))
  k_with "execs cons" => ((k_here; k_gentoks))
  k_with "execs cons" => ((k_here; k_made; walk_at "execs cons"))
  k_with "eval Call" => ((k_here; (fail_if_success (fail_if_success k_fold)); (refine (let q8 := _; (?_ : PySem.wpAny _ _ _ q8 _ _)))))
  k_with "eval BinOp" => ((k_here; (fail_if_success (fail_if_success k_fold)); (refine (let q8 := _; (?_ : PySem.wpAny _ _ _ q8 _ _)))))
  k_with "eval Subscript" => ((k_here; (fail_if_success (fail_if_success k_fold)); (refine (let q8 := _; (?_ : PySem.wpAny _ _ _ q8 _ _)))))
  k_with "eval Tuple" => ((k_here; (fail_if_success (fail_if_success k_fold)); (refine (let q8 := _; (?_ : PySem.wpAny _ _ _ q8 _ _)))))
  k_with "eval List" => ((k_here; (fail_if_success (fail_if_success k_fold)); (refine (let q8 := _; (?_ : PySem.wpAny _ _ _ q8 _ _)))))
  k_with "eval Compare" => ((k_here; (fail_if_success (fail_if_success k_fold)); (refine (let q8 := _; (?_ : PySem.wpAny _ _ _ q8 _ _)))))
  k_with "call ref" => ((k_here; (fail_if_success (fail_if_success k_fold)); (refine (let q8 := _; (?_ : PySem.wpAny _ _ _ q8 _ _)))))
  k_with "callWith ref" => ((k_here; k_dflt (refine' callA1 ?k1_r37 ?k2_r37 ?_; (case k1_r37 => k_asm); (case k2_r37 => k_is); k_whole)))
  k_with "callWith ref" => ((k_here; k_dflt (refine' callA2 ?k1_r38 ?k2_r38 ?_; (case k1_r38 => k_asm); (case k2_r38 => k_is); k_whole)))
  k_with "isTrue BoolOp" => ((k_here; (fail_if_success (fail_if_success k_fold)); (refine (let q8 := _; (?_ : PySem.wpAny _ _ _ q8 _ _)))))
  k_with "isTrue Compare" => ((k_here; (fail_if_success (fail_if_success k_fold)); (refine (let q8 := _; (?_ : PySem.wpAny _ _ _ q8 _ _)))))
  k_with "isTrue UnaryOp" => ((k_here; (fail_if_success (fail_if_success k_fold)); (refine (let q8 := _; (?_ : PySem.wpAny _ _ _ q8 _ _)))))
  k_with "assign Name" => ((k_here; (fail_if_success (fail_if_success k_fold)); (refine (let q8 := _; (?_ : PySem.wpAny _ _ _ q8 _ _)))))
  k_with "assign Tuple" => ((k_here; (fail_if_success (fail_if_success k_fold)); (refine (let q8 := _; (?_ : PySem.wpAny _ _ _ q8 _ _)))))
  k_with "callWith" => ((k_here; (with_reducible show PySem.wpAny _ _ (PySem.callWith _ (PySem.Value.builtin _) _ _ []) _ _ _); k_dflt (first | refine callM1 ?_ | refine callM2 ?_ | refine callB1 ?_ | refine callB2 ?_); k_whole))
  k_with "call builtin:str.replace" => ((k_here; (refine' SC.replaceW ?ru_r129 ?rv_r129 ?ruv_r129 ?ryz_r129 ?rx_r129 ?rz_r129 ?_; (case ru_r129 => show @Ne Nat _ _; omega); (case rv_r129 => show @Ne Nat _ _; omega); (case ruv_r129 => show @Ne Nat _ _; omega); (case ryz_r129 => decide +kernel); (case rx_r129 => omega); (case rz_r129 => decide +kernel)); intro t'm tk'm))
  k_with "Tok1" => ((k_here; unfold Tok1; dsimp only; intro htk'm))
  k_with "subscriptTail Name Slice str ref" => ((k_here; (fail_if_success (with_reducible show wpAny _ _ _ (Tok1 _ _) _ _)); refine' tok1 ?_))
  k_with "call builtin:str.index" => ((k_here; (refine' index_month ?hx_r132 ?hm_r132 ?_; (case hx_r132 => exact date_month (by assumption) (by assumption)); (case hm_r132 => assumption)); intro t'm tk'm))
  have hdd := date_no_tick (y := y) (z := z) b2 b7 o.y o.d o.h o.mi o.s hz2
  have hl := date_short (y := y) (mo := mo) (d := d) (h := h) (mi := mi) (s := s) b2 b7 hz
  have h3 := line_parts (row_no_tick m) hdd o.n
  have hll := line_len (row := rowN m) (n := n) (Nat.le_refl _) hl
  k_with "call ref" => (k_here; (with_reducible show wpAny _ _ (call (Value.ref 35) _) _ _ _); k_dflt (refine' Spec.use (decode3_spec _ _ _ _ _ hll h3) ?b1 ?f1 ?x1 ?n1 ?t1 ?kk ?hd ?hu ?ha ?_; walk_at "my use"; k_whole; rintro _ _ h' tk' F' N' lt' ⟨D', n', t1', t2', t3', rfl, rfl⟩; (dsimp only [List.cons_append, List.nil_append] at N'); clear lt' h3 hdd hll))
  k_with "call ref" => (k_here; (with_reducible show wpAny _ _ (call (Value.ref 221) _) _ _ _); k_dflt (refine' tok1 (Spec.use (two_specE _ mo _ (by rw [Int.fdiv_eq_ediv_of_nonneg _ (by decide)]; omega) (by omega)) ?b1 ?f1 ?x1 ?n1 ?t1 ?kk ?hd ?hu ?ha ?_); walk_at "my use"; k_whole; rintro _ _ h' tk' F' N' lt' ⟨rfl, ⟨t', rfl⟩, ln'⟩; (try dsimp only [List.nil_append] at N'); clear lt'))
  k_with "call ref" => (k_here; (with_reducible show wpAny _ _ (call (Value.ref 129) [_, _, _, _, _]) _ _ _); k_dflt (refine' Spec.use (join4E _ _ _ _ _ _ _ _ _ _ _ _ _ _ (date_year b2 b7) rfl (date_day b2 b7) (by rw [date_time b2 b7]; exact time_dots o.h o.mi o.s) (by decide +kernel) (by decide +kernel) (by decide +kernel) (part_year o) (part_two (by omega)) (part_two (by have := o.d; omega)) (part_hms o)) ?b1 ?f1 ?x1 ?n1 ?t1 ?kk ?hd ?hu ?ha ?_; walk_at "my use"; k_whole; rintro _ _ h' tk' F' N' lt' ⟨rfl, t', rfl⟩; (try dsimp only [List.nil_append] at N'); clear lt'))
  k_with "call ref" => (k_here; (with_reducible show wpAny _ _ (call (Value.ref 129) [_, _]) _ _ _); k_dflt (refine' Spec.use (join1_spec _ _ _ _ (by show (foldN y mo d h mi s).length ≤ 1000; rw [fold_len]; decide) (by show (foldN y mo d h mi s).length ≠ 0; rw [fold_len]; decide) (fold_ends o) (part_name o) (part_name o).le) ?b1 ?f1 ?x1 ?n1 ?t1 ?kk ?hd ?hu ?ha ?_; walk_at "my use"; k_whole; rintro _ _ h' tk' F' N' lt' ⟨rfl, ⟨t', rfl⟩, ln'⟩; (try dsimp only [List.nil_append] at N'); clear lt' ln'))
  k_with "call ref" => (k_here; (with_reducible show wpAny _ _ (call (Value.ref 150) _) _ _ _); k_dflt (refine' Spec.use (normE o _) ?b1 ?f1 ?x1 ?n1 ?t1 ?kk ?hd ?hu ?ha ?_; walk_at "my use"; k_whole; rintro _ _ h' tk' F' N' lt' ⟨rfl, t', rfl⟩; (try dsimp only [List.nil_append] at N'); clear lt'))
  w_top off; walk_at "my open"; k_dflt (refine' enterP ?k1 ?k2 ?k3 ?k4 ?k5 ?kA ?kF ?kK ?k6 ?k7 ?k8 ?k9 ?kB [(Str.ofString "line", .str (lineN (rowN m) (dateN y mo d h mi s wd z) n) t)] ?kL ?_ ?c2 ?c3 ?c4 ?c5; walk_at "my entered")
  repeat' (first | ((fail_if_success goal_has PySem.wpAny); (try dsimp only); first | (with_reducible refine seqN ?_) | ((with_reducible refine seqE ?_); (try dsimp only)) | ((with_reducible refine seqR ?_); (try dsimp only)) | ((with_reducible refine seqC ?_); (try dsimp only)) | ((with_reducible refine seqB ?_); (try dsimp only))) | ((fail_if_success (fail_if_success k_unfold)); (try dsimp only); k_unfold; (try dsimp only)) | ((fail_if_success goal_has PySem.wpAny); show PySem.wpAny _ _ _ _ _ _; (try dsimp only)) | walk1 | (dsimp only; walk1) | fail "no step")
  all_goals (walk_at "my ret1"; exact ⟨_, _, _, _, rfl, rfl⟩)
end

/-- the ints below a million -/
def JX (base : List (Addr × Obj)) (i : Nat) (ys : List Value) (news : List (Addr × Obj)) : Prop := news = base ∧ ys.length = i ∧ ∃ zs, IntsAre ys zs ∧ ∀ z ∈ zs, 0 ≤ z ∧ z < 1000000
/-- the letters so far -/
inductive JL (Dl X : Addr) (xo : Obj) (i : Nat) (m : Str → Option Value) : List (Addr × Obj) → Prop
  | mk (ws : List Value) (k : Nat) (tz : List (Addr × Obj)) (ls : List Let) (hap : ∀ p ∈ (X, xo) :: tz, p.1 ≠ Dl) (hL : LettersAre ws tz ls) (hll : ls.length = 4 + i) (hok : ∀ l ∈ ls, l.Ok ∧ 0 ≤ l.m ∧ l.m < 4294967296) (hm1 : m (Str.ofString "letters") = some (.ref Dl)) : JL Dl X xo i m ((Dl, listO (List.toArray ws) k) :: (X, xo) :: tz)
theorem JX.step {base : List (Addr × Obj)} {i : Nat} {ys : List Value} {x : Int} {t : Tok} {zs : List Int} (hl : ys.length = i) (h : IntsAre ys zs) (hb : ∀ z ∈ zs, 0 ≤ z ∧ z < 1000000) : JX base (i + 1) (ys ++ [.int (x % 1000000) t]) base := by
  refine ⟨rfl, by simp [hl], zs ++ [x % 1000000], h.append (.cons _ _ .nil), fun z hz => ?_⟩
  rcases List.mem_append.mp hz with hz | hz
  · exact hb z hz
  · rw [List.mem_singleton.mp hz]
    omega
theorem startNews {h₀ h : Heap} {L : Addr} {x z1 z2 p4 m4 p3 m3 l : Addr × Obj} {r : List (Addr × Obj)} (N : News h₀ L h (x :: z1 :: z2 :: p4 :: m4 :: p3 :: m3 :: l :: r)) : News h₀ L h (l :: x :: p4 :: m4 :: p3 :: m3 :: r) := by
  intro p hp
  refine N p ?_
  rcases List.mem_cons.mp hp with rfl | hp
  · exact .tail _ (.tail _ (.tail _ (.tail _ (.tail _ (.tail _ (.tail _ (.head _)))))))
  rcases List.mem_cons.mp hp with rfl | hp
  · exact .head _
  refine .tail _ (.tail _ (.tail _ ?_))
  rcases List.mem_cons.mp hp with rfl | hp
  · exact .head _
  rcases List.mem_cons.mp hp with rfl | hp
  · exact .tail _ (.head _)
  rcases List.mem_cons.mp hp with rfl | hp
  · exact .tail _ (.tail _ (.head _))
  rcases List.mem_cons.mp hp with rfl | hp
  · exact .tail _ (.tail _ (.tail _ (.head _)))
  exact .tail _ (.tail _ (.tail _ (.tail _ (.tail _ hp))))
theorem snoc_at {α : Type} {ls : List α} {l l' : α} {i : Nat} (hl : (ls ++ [l])[i]? = some l') (hi : ¬ i < ls.length) : i = ls.length ∧ l' = l := by
  rw [List.getElem?_append_right (Nat.not_lt.mp hi)] at hl
  cases e : i - ls.length with
  | zero =>
    rw [e] at hl
    exact ⟨by omega, (Option.some.inj hl).symm⟩
  | succ n =>
    rw [e] at hl
    cases hl
theorem LettersAre.snoc {ws : List Value} {tz : List (Addr × Obj)} {ls : List Let} {l : Let} {P M : Addr} {k k' : Nat} {tm t1 t2 t3 t4 t5 t6 t7 : Tok} {wd : Int} (h : LettersAre ws tz ls) (hn : l.n = ls.length) (hw : 0 ≤ wd ∧ wd < 7) :
    LettersAre (ws ++ [.ref P]) ((P, tupleO #[.ref M, .int l.m tm] k) :: (M, momO l.y l.mo l.d l.h l.mi l.s wd t1 t2 t3 t4 t5 t6 t7 k') :: tz) (ls ++ [l]) := by
  refine ⟨by rw [List.length_append, List.length_append, h.1]; rfl, fun i l' hl => ?_⟩
  by_cases hi : i < ls.length
  · rw [List.getElem?_append_left hi] at hl
    obtain ⟨a, P', M', k1, k2, tm', s1, s2, s3, s4, s5, s6, s7, wd', b, c, d, e⟩ := h.2 i l' hl
    exact ⟨a, .mk _ _ _ _ _ _ _ _ _ _ _ _ _ b ((List.getElem?_append_left (h.1.symm ▸ hi)).trans c) (.tail _ (.tail _ d)) (.tail _ (.tail _ e))⟩
  · obtain ⟨rfl, rfl⟩ := snoc_at hl hi
    exact ⟨hn, .mk _ _ _ _ _ _ _ _ _ _ _ _ _ hw (by rw [← h.1]; exact List.getElem?_concat_length ..) (.head _) (.tail _ (.head _))⟩
theorem start4 {P1 M1 P2 M2 P3 M3 P4 M4 : Addr} {a1 a2 a3 a4 a5 a6 a7 a8 b1 b2 b3 b4 b5 b6 b7 b8 c1 c2 c3 c4 c5 c6 c7 c8 d1 d2 d3 d4 d5 d6 d7 d8 : Tok} {i1 i2 i3 i4 j1 j2 j3 j4 : Nat} :
    LettersAre [.ref P1, .ref P2, .ref P3, .ref P4] [(P4, tupleO #[.ref M4, .int 16877 d8] i4), (M4, momO 1997 12 9 1 2 3 4 d1 d2 d3 d4 d5 d6 d7 j4), (P3, tupleO #[.ref M3, .int 33152 c8] i3), (M3, momO 97 12 1 0 30 0 0 c1 c2 c3 c4 c5 c6 c7 j3), (P2, tupleO #[.ref M2, .int 35273 b8] i2), (M2, momO 1997 9 28 23 0 59 6 b1 b2 b3 b4 b5 b6 b7 j2), (P1, tupleO #[.ref M1, .int 33188 a8] i1), (M1, momO 1997 9 9 7 5 3 1 a1 a2 a3 a4 a5 a6 a7 j1)]
      [⟨1997, 9, 9, 7, 5, 3, 0, 33188⟩, ⟨1997, 9, 28, 23, 0, 59, 1, 35273⟩, ⟨97, 12, 1, 0, 30, 0, 2, 33152⟩, ⟨1997, 12, 9, 1, 2, 3, 3, 16877⟩] :=
  LettersAre.snoc (ws := [_, _, _]) (ls := [_, _, _]) (l := ⟨1997, 12, 9, 1, 2, 3, 3, 16877⟩) (LettersAre.snoc (ws := [_, _]) (ls := [_, _]) (l := ⟨97, 12, 1, 0, 30, 0, 2, 33152⟩) (LettersAre.snoc (ws := [_]) (ls := [_]) (l := ⟨1997, 9, 28, 23, 0, 59, 1, 35273⟩) (LettersAre.snoc (ws := []) (ls := []) (l := ⟨1997, 9, 9, 7, 5, 3, 0, 33188⟩) ⟨rfl, fun _ _ h => nomatch h⟩ rfl (by decide)) rfl (by decide)) rfl (by decide)) rfl (by decide)
theorem ok4 : ∀ l ∈ ([⟨1997, 9, 9, 7, 5, 3, 0, 33188⟩, ⟨1997, 9, 28, 23, 0, 59, 1, 35273⟩, ⟨97, 12, 1, 0, 30, 0, 2, 33152⟩, ⟨1997, 12, 9, 1, 2, 3, 3, 16877⟩] : List Let), l.Ok ∧ 0 ≤ l.m ∧ l.m < 4294967296 := by
  intro l hl
  simp only [List.mem_cons, List.not_mem_nil, or_false] at hl
  rcases hl with rfl | rfl | rfl | rfl <;> exact ⟨⟨by decide, by decide, by decide, by decide, by decide, by decide, by decide⟩, by decide, by decide⟩
theorem lettersEnd {h₀ h' : Heap} {L I Dl X P M : Addr} {oi xo po mo : Obj} {ws : List Value} {c : Nat} {news tz : List (Addr × Obj)} (N1 : News h₀ L h' [(Dl, listO ((List.toArray ws).push (.ref P)) c)]) (hk : ∀ p ∈ news, p.1 ≠ Dl → News h₀ L h' [p]) (hI : (I, oi) ∈ news) (hX : (X, xo) ∈ news) (hP : (P, po) ∈ news) (hM : (M, mo) ∈ news) (hz : ∀ p ∈ tz, p ∈ news)
    (nI : I ≠ Dl) (nP : P ≠ Dl) (nM : M ≠ Dl) (hap : ∀ p ∈ (X, xo) :: tz, p.1 ≠ Dl) : News h₀ L h' ((I, oi) :: (Dl, listO (List.toArray (ws ++ [.ref P])) c) :: (X, xo) :: (P, po) :: (M, mo) :: tz) := by
  rw [List.push_toArray] at N1
  have g : ∀ p ∈ news, p.1 ≠ Dl → h'.get? p.1 = some p.2 ∧ p.1 ≠ L ∧ h₀.get? p.1 = none := fun p hp hn => hk p hp hn p (.head _)
  intro p hp
  simp only [List.mem_cons] at hp
  rcases hp with rfl | rfl | rfl | rfl | rfl | hp
  · exact g _ hI nI
  · exact N1 _ (.head _)
  · exact g _ hX (hap _ (.head _))
  · exact g _ hP nP
  · exact g _ hM nM
  · exact g _ (hz _ hp) (hap _ (.tail _ hp))
theorem offL {I Dl X P M : Addr} {o1 o2 xo po mo : Obj} {tz : List (Addr × Obj)} (off : ∀ p ∈ (Dl, o1) :: (X, xo) :: tz, p.1 ≠ I) (nP : P ≠ I) (nM : M ≠ I) : ∀ p ∈ (Dl, o2) :: (X, xo) :: (P, po) :: (M, mo) :: tz, p.1 ≠ I := by
  intro p hp
  simp only [List.mem_cons] at hp
  rcases hp with rfl | rfl | rfl | rfl | hp
  · exact off (Dl, o1) (.head _)
  · exact off _ (.tail _ (.head _))
  · exact nP
  · exact nM
  · exact off _ (.tail _ (.tail _ hp))
theorem apL {Dl X P M : Addr} {xo po mo : Obj} {tz : List (Addr × Obj)} (hap : ∀ p ∈ (X, xo) :: tz, p.1 ≠ Dl) (nP : P ≠ Dl) (nM : M ≠ Dl) : ∀ p ∈ (X, xo) :: (P, po) :: (M, mo) :: tz, p.1 ≠ Dl := by
  intro p hp
  simp only [List.mem_cons] at hp
  rcases hp with rfl | rfl | rfl | hp
  · exact hap _ (.head _)
  · exact nP
  · exact nM
  · exact hap _ (.tail _ hp)
theorem pick_year (i : Int) : pick3 i 7 97 1997 = 7 ∨ pick3 i 7 97 1997 = 97 ∨ pick3 i 7 97 1997 = 1997 := by
  unfold pick3
  split
  · exact .inl rfl
  · split
    · exact .inr (.inl rfl)
    · exact .inr (.inr rfl)
theorem pick_in {i a b c lo hi : Int} (h1 : lo ≤ a ∧ a < hi) (h2 : lo ≤ b ∧ b < hi) (h3 : lo ≤ c ∧ c < hi) : lo ≤ pick3 i a b c ∧ pick3 i a b c < hi := by
  unfold pick3
  split
  · exact h1
  · split
    · exact h2
    · exact h3
/-- the letter of a number -/
def letOf (x k : Int) (n : Nat) : Let := ⟨pick3 (x % 3) 7 97 1997, pick3 (x / 3 % 3) 1 9 12, pick3 (x / 9 % 3) 1 9 28, x / 27 % 24, x / 648 % 60, x / 38880 % 60, n, x % 65536 * 65536 + k * 4096 + x / 60 % 4096⟩
theorem letOf_ok {x k : Int} {n : Nat} (hx : 0 ≤ x ∧ x < 1000000) (hk : 0 ≤ k ∧ k ≤ 15) (hn : n < 100) : (letOf x k n).Ok ∧ 0 ≤ (letOf x k n).m ∧ (letOf x k n).m < 4294967296 := by
  have h2 := pick_in (i := x / 3 % 3) (a := 1) (b := 9) (c := 12) (lo := 1) (hi := 13) (by decide) (by decide) (by decide)
  have h3 := pick_in (i := x / 9 % 3) (a := 1) (b := 9) (c := 28) (lo := 1) (hi := 32) (by decide) (by decide) (by decide)
  refine ⟨⟨pick_year _, ⟨h2.1, by show pick3 _ _ _ _ ≤ 12; omega⟩, h3, ?_, ?_, ?_, ?_⟩, ?_, ?_⟩
  · show 0 ≤ x / 27 % 24 ∧ x / 27 % 24 < 24; omega
  · show 0 ≤ x / 648 % 60 ∧ x / 648 % 60 < 60; omega
  · show 0 ≤ x / 38880 % 60 ∧ x / 38880 % 60 < 60; omega
  · show 0 ≤ (n : Int) ∧ (n : Int) < 100; omega
  · show 0 ≤ x % 65536 * 65536 + k * 4096 + x / 60 % 4096; omega
  · show x % 65536 * 65536 + k * 4096 + x / 60 % 4096 < 4294967296; omega
theorem ok_snoc {ls : List Let} {l : Let} (h : ∀ l ∈ ls, l.Ok ∧ 0 ≤ l.m ∧ l.m < 4294967296) (hl : l.Ok ∧ 0 ≤ l.m ∧ l.m < 4294967296) : ∀ l' ∈ ls ++ [l], l'.Ok ∧ 0 ≤ l'.m ∧ l'.m < 4294967296 := fun l' hl' => by
  rcases List.mem_append.mp hl' with h' | h'
  · exact h l' h'
  · rw [List.mem_singleton.mp h']; exact hl
theorem freshAll {g h' : Heap} {L' : Addr} {s : Shared} {tl : List (Addr × Obj)} (hg : ∀ b o, s.heap.get? b = some o → (∀ p ∈ ([] : List (Addr × Obj)), p.1 ≠ b) → g.get? b = some o) (N : News g L' h' tl) : ∀ p ∈ tl, h'.get? p.1 = some p.2 ∧ s.heap.get? p.1 = none := fun p hp => by
  refine ⟨(N p hp).1, ?_⟩
  cases e : s.heap.get? p.1 with
  | none => rfl
  | some o =>
    have := hg _ _ e (fun _ h => nomatch h)
    rw [(N p hp).2.2] at this
    cases this
section
variable {h' : Heap} {s : Shared} {Q : Value → Shared → Prop} {tk : Nat} {Res : Value → List (Addr × Obj) → Prop}
theorem retMany {r : Value} {tl : List (Addr × Obj)} (hret : ∀ (r : Value) (tl : List (Addr × Obj)) (h' : Heap) (tk' : Nat), (∀ b o, s.heap.get? b = some o → h'.get? b = some o) → (∀ p ∈ tl, h'.get? p.1 = some p.2 ∧ s.heap.get? p.1 = none) → Res r tl → Q r { s with heap := h', toks := tk' })
    (k : ∀ b o, s.heap.get? b = some o → h'.get? b = some o) (hf : ∀ p ∈ tl, h'.get? p.1 = some p.2 ∧ s.heap.get? p.1 = none) (hr : Res r tl) : Q r { s with heap := h', toks := tk } := hret _ _ _ _ k hf hr
end
section
variable {prog : Program} {w : World} {A : Around} {E : Value → Shared → Prop} {env : Env} {h₀ : Heap} {L : Addr} {m : Str → Option Value} {news : List (Addr × Obj)}
theorem splicedInts {pos : Pos} : ∀ (cs : List (Int × Nat × Pos)) {s : Shared} {Q : List Value → Shared → Prop}, (∀ vs tk, IntsAre vs (cs.map (·.1)) → Q vs { s with toks := tk }) →
    wpAny (model prog w) A (spliced (backTo pos (starEach (cs.map fun c => PySem.Expr.Constant (.int c.1) c.2.1 c.2.2) env))) Q E s
  | [], s, _, h => args_nil (h [] s.toks .nil)
  | c :: r, s, _, h => args_cons (wpAny_Constant_int (splicedInts r fun vs tk hvs => h (.int c.1 s.toks :: vs) tk (.cons _ _ hvs)))
/-- a tuple of written ints -/
theorem dispInts {s : Shared} {k : Nat} {pos : Pos} {Q : Value → Shared → Prop} (cs : List (Int × Nat × Pos)) (hz : cs.length ≤ 100) (F : Fr h₀ L s.heap m) (N : News h₀ L s.heap news)
    (h : ∀ D h' vs tk, IntsAre vs (cs.map (·.1)) → Fr h₀ L h' m → News h₀ L h' ((D, tupleO vs.toArray 0) :: news) → (∀ p ∈ news, p.1 < D) → Q (.ref D) { s with heap := h', toks := tk }) :
    wpAny (model prog w) A (eval (.Tuple (cs.map fun c => PySem.Expr.Constant (.int c.1) c.2.1 c.2.2) k pos) env) Q E s := by
  refine Tuple_ (splicedInts cs fun vs tk hvs => ?_)
  refine kup_newTuple (s := { s with toks := tk }) F N (fun D h' F' N' l => h D h' vs tk hvs F' N' l) ?_
  rw [hvs.length, List.length_map, sizeLine_eq]
  omega
end

section
theorem letters_spec {w : World} (S : Addr) (oS : Obj) (vs : List Value) (ns : List Int) (nS : Nat) (hc : oS.cls = .type "list") (hdS : oS.data = .seq vs.toArray nS) (hI : IntsAre vs ns) (hn : vs.length ≤ 1048576) :
    SpecF 2 w 214 [.ref S] [(S, oS)] (fun r tl => ∃ D ws k ts ls, r = .ref D ∧ tl = (D, listO (List.toArray ws) k) :: ts ∧ LettersAre ws ts ls ∧ 4 ≤ ls.length ∧ ls.length ≤ 12 ∧ (∀ l ∈ ls, l.Ok ∧ 0 ≤ l.m ∧ l.m < 4294967296)) := by
  k_with_none
  w_top off
  k_with "my len" => (first | with_reducible assumption | with_reducible exact Nat.le_of_eq (two_len _) | with_reducible exact Nat.le_of_eq (four_len _) | with_reducible exact Nat.le_of_eq (wdN_len (by assumption)) | with_reducible exact Nat.le_of_eq (moN_len (by assumption)) | with_reducible exact lit_len)
  k_with "my text" => (first | with_reducible exact slice_wd (by assumption) | with_reducible exact slice_mo (by assumption) | with_reducible exact zfill_four (by assumption) | with_reducible exact rfl)
  k_with "binaryOp Add str str" => ((k_here; (refine' add_strE ?e1_r15 ?e2_r15 ?a1_r15 ?a2_r15 ?a3_r15 ?_; (case e1_r15 => walk_at "my text"); (case e2_r15 => walk_at "my text"); (case a1_r15 => walk_at "my len"); (case a2_r15 => walk_at "my len"); (case a3_r15 => omega); intro t'm tk'm ln'm)))
  k_with "inplaceOp Add str str" => ((k_here; (refine' iadd_strE ?e1_r16 ?e2_r16 ?a1_r16 ?a2_r16 ?a3_r16 ?_; (case e1_r16 => walk_at "my text"); (case e2_r16 => walk_at "my text"); (case a1_r16 => walk_at "my len"); (case a2_r16 => walk_at "my len"); (case a3_r16 => omega); intro t'm tk'm ln'm)))
  k_with "my entered" => (((case kA => exact rfl); (case kF => exact rfl); (case kK => assumption); (case k1 => k_asm); (case k2 => k_asm); (case k3 => k_asm); (case k4 => k_asm); (case k5 => k_asm); (case k6 => k_is); (case k7 => k_is); (case k8 => ktr_room); (case k9 => exact BindsTo.of_eq rfl); (case c5 => decide); (case kB => exact locs rfl); (case kL => exact rfl); (case c2 => exact rfl); (case c3 => exact rfl); (case c4 => exact rfl); k_whole; intro g'm L'm h'm tk'm HG'm F'm N'm B'm X'm T'm l1m; (try k_lt l1m); (try dsimp only); (try k_lift B'm); (try k_unmd); (try k_fold); (try refine (let A9 := _; (?_ : PySem.wpAny _ A9 _ _ _ _))); (try refine (let e9 := _; (?_ : PySem.wpAny _ _ (PySem.execs _ e9) _ _ _)))))
  k_with "execs cons" => ((k_here; (try ((fail_if_success (fail_if_success k_fold)); (refine (let q8 := _; (?_ : PySem.wpAny _ _ _ q8 _ _))))); (with_reducible refine seqA ?_); (refine (let q8 := _; (?_ : PySem.wpAny _ _ _ q8 _ _))); (try ((with_reducible rename Fr _ _ _ (fun _ => _) => lF8); (refine (let lm8 := _; (fun (F' : Fr _ _ _ lm8) => ?_) lF8)); clear lF8))))
  k_with "execs cons" => ((k_here; k_gentoks))
  k_with "execs cons" => ((k_here; k_made; walk_at "execs cons"))
  k_with "eval Call" => ((k_here; (fail_if_success (fail_if_success k_fold)); (refine (let q8 := _; (?_ : PySem.wpAny _ _ _ q8 _ _)))))
  k_with "eval BinOp" => ((k_here; (fail_if_success (fail_if_success k_fold)); (refine (let q8 := _; (?_ : PySem.wpAny _ _ _ q8 _ _)))))
  k_with "eval Subscript" => ((k_here; (fail_if_success (fail_if_success k_fold)); (refine (let q8 := _; (?_ : PySem.wpAny _ _ _ q8 _ _)))))
  k_with "eval Tuple" => ((k_here; (fail_if_success (fail_if_success k_fold)); (refine (let q8 := _; (?_ : PySem.wpAny _ _ _ q8 _ _)))))
  k_with "eval List" => ((k_here; (fail_if_success (fail_if_success k_fold)); (refine (let q8 := _; (?_ : PySem.wpAny _ _ _ q8 _ _)))))
  k_with "eval Compare" => ((k_here; (fail_if_success (fail_if_success k_fold)); (refine (let q8 := _; (?_ : PySem.wpAny _ _ _ q8 _ _)))))
  k_with "call ref" => ((k_here; (fail_if_success (fail_if_success k_fold)); (refine (let q8 := _; (?_ : PySem.wpAny _ _ _ q8 _ _)))))
  k_with "callWith ref" => ((k_here; k_dflt (refine' callA1 ?k1_r37 ?k2_r37 ?_; (case k1_r37 => k_asm); (case k2_r37 => k_is); k_whole)))
  k_with "callWith ref" => ((k_here; k_dflt (refine' callA2 ?k1_r38 ?k2_r38 ?_; (case k1_r38 => k_asm); (case k2_r38 => k_is); k_whole)))
  k_with "isTrue BoolOp" => ((k_here; (fail_if_success (fail_if_success k_fold)); (refine (let q8 := _; (?_ : PySem.wpAny _ _ _ q8 _ _)))))
  k_with "isTrue Compare" => ((k_here; (fail_if_success (fail_if_success k_fold)); (refine (let q8 := _; (?_ : PySem.wpAny _ _ _ q8 _ _)))))
  k_with "isTrue UnaryOp" => ((k_here; (fail_if_success (fail_if_success k_fold)); (refine (let q8 := _; (?_ : PySem.wpAny _ _ _ q8 _ _)))))
  k_with "assign Name" => ((k_here; (fail_if_success (fail_if_success k_fold)); (refine (let q8 := _; (?_ : PySem.wpAny _ _ _ q8 _ _)))))
  k_with "assign Tuple" => ((k_here; (fail_if_success (fail_if_success k_fold)); (refine (let q8 := _; (?_ : PySem.wpAny _ _ _ q8 _ _)))))
  k_with "callWith" => ((k_here; (with_reducible show PySem.wpAny _ _ (PySem.callWith _ (PySem.Value.builtin _) _ _ []) _ _ _); k_dflt (first | refine callM1 ?_ | refine callM2 ?_ | refine callB1 ?_ | refine callB2 ?_); k_whole))
  k_with "my nes2" => (first | exact List.forall_mem_nil _ | (refine' List.forall_mem_cons.mpr ⟨?a_r45, ?b_r45⟩; (case a_r45 => (show @Ne Nat _ _; omega)); (case b_r45 => walk_at "my nes2")))
  k_with "my pick" => ((with_reducible first | assumption | exact And.left (by assumption) | exact And.right (by assumption) | exact And.left (And.right (by assumption)) | exact And.right (And.right (by assumption)) | exact And.left (And.right (And.right (by assumption))) | exact And.right (And.right (And.right (by assumption))) | exact And.left (And.right (And.right (And.right (by assumption)))) | exact And.right (And.right (And.right (And.right (by assumption)))) | exact And.left (And.right (And.right (And.right (And.right (by assumption))))) | exact And.right (And.right (And.right (And.right (And.right (by assumption))))) | exact And.left (And.right (And.right (And.right (And.right (And.right (by assumption)))))) | exact And.right (And.right (And.right (And.right (And.right (And.right (by assumption)))))) | exact And.left (And.right (And.right (And.right (And.right (And.right (And.right (by assumption))))))) | exact And.right (And.right (And.right (And.right (And.right (And.right (And.right (by assumption))))))) | exact And.left (And.right (And.right (And.right (And.right (And.right (And.right (And.right (by assumption)))))))) | exact And.right (And.right (And.right (And.right (And.right (And.right (And.right (And.right (by assumption)))))))) | exact And.left (And.right (And.right (And.right (And.right (And.right (And.right (And.right (And.right (by assumption))))))))) | exact And.right (And.right (And.right (And.right (And.right (And.right (And.right (And.right (And.right (by assumption)))))))))))
  k_with "my less" => (first | with_reducible exact Int.emod_lt_of_pos _ (by decide) | with_reducible exact Int.emod_nonneg _ (by decide) | (with_reducible refine Nat.ne_of_lt ?_; walk_at "my pick") | (with_reducible refine Nat.ne_of_gt ?_; walk_at "my pick"))
  k_with "inplaceOp Add ref ref" => ((k_here; k_dflt (refine' iaddU ?aF_r133 ?aN_r133 ?aU_r133 ?ab_r133 ?az_r133 ?_; (case aF_r133 => k_asm); (case aN_r133 => k_asm); (case aU_r133 => k_updF); (case ab_r133 => k_mem); (case az_r133 => exact Nat.le_of_ble_eq_true rfl)); intro hAm cAm F'm N'm; (try dsimp only at N'm)))
  k_with "exec For Name ListComp cons nil" => ((k_here; (rename Fr _ _ _ _ => lF'm); (with_unfolding_all refine' forJF lF'm ?_; k_whole)))
  k_with "eval ListComp" => ((k_here; with_unfolding_all (refine' evalComp ?c1_r135 ?c2_r135 ?c3_r135 ?_ ?c6_r135; (case c1_r135 => exact rfl); (case c2_r135 => exact rfl); (case c3_r135 => decide); (case c6_r135 => intro _; rfl); k_whole)))
  k_with "binaryOp FloorDiv int int" => ((k_here; (refine' fdivP ?hb_r136 ?_; (case hb_r136 => constructor <;> decide)); intro t'm tk'm))
  k_with "binaryOp Mod int int" => ((k_here; (refine' modP ?hb_r137 ?_; (case hb_r137 => decide)); intro t'm tk'm))
  k_with "binaryOp Add int int" => ((k_here; refine' addP ?_; intro t'm tk'm))
  k_with "binaryOp Mult int int" => ((k_here; (refine' mulR ?hb_r139 ?_; (case hb_r139 => decide)); intro t'm tk'm))
  k_with "subscriptTail" => ((k_here; (with_reducible show wpAny _ _ (subscriptTail (PySem.Expr.Tuple [_, _, _, _, _, _, _, _, _, _, _, _] _ _) _ (Value.ref _) (Value.int _ _)) _ _ _); k_dflt (refine' menuK ?iN_r140 ?im_r140 ?il_r140 ?ii_r140 ?_ ?is_r140; (case iN_r140 => k_asm); (case im_r140 => k_mem); (case il_r140 => exact .cons _ _ (.cons _ _ (.cons _ _ (.cons _ _ (.cons _ _ (.cons _ _ (.cons _ _ (.cons _ _ (.cons _ _ (.cons _ _ (.cons _ _ (.cons _ _ .nil)))))))))))); (case ii_r140 => constructor <;> omega); (case is_r140 => with_unfolding_all rfl)); intro kk'm t'm hkk'm; k_whole))
  k_with "subscriptTail Name Name ref int" => ((k_here; (with_reducible show wpAny _ _ (subscriptTail (PySem.Expr.Tuple [_, _, _, _, _, _, _, _, _, _, _, _] _ _) _ (Value.ref _) (Value.int _ _)) _ _ _); k_dflt (refine' menuK ?iN_r141 ?im_r141 ?il_r141 ?ii_r141 ?_ ?is_r141; (case iN_r141 => k_asm); (case im_r141 => k_mem); (case il_r141 => exact .cons _ _ (.cons _ _ (.cons _ _ (.cons _ _ (.cons _ _ (.cons _ _ (.cons _ _ (.cons _ _ (.cons _ _ (.cons _ _ (.cons _ _ (.cons _ _ .nil)))))))))))); (case ii_r141 => constructor <;> omega); (case is_r141 => with_unfolding_all rfl)); intro kk'm t'm hkk'm; k_whole))
  k_with "subscriptTail Name BinOp ref int" => ((k_here; (with_reducible show wpAny _ _ (subscriptTail (PySem.Expr.Tuple [_, _, _, _, _, _, _, _, _, _, _, _] _ _) _ (Value.ref _) (Value.int _ _)) _ _ _); k_dflt (refine' menuK ?iN_r142 ?im_r142 ?il_r142 ?ii_r142 ?_ ?is_r142; (case iN_r142 => k_asm); (case im_r142 => k_mem); (case il_r142 => exact .cons _ _ (.cons _ _ (.cons _ _ (.cons _ _ (.cons _ _ (.cons _ _ (.cons _ _ (.cons _ _ (.cons _ _ (.cons _ _ (.cons _ _ (.cons _ _ .nil)))))))))))); (case ii_r142 => constructor <;> omega); (case is_r142 => with_unfolding_all rfl)); intro kk'm t'm hkk'm; k_whole))
  k_with "subscriptTail Name Constant ref int" => ((k_here; (with_reducible show wpAny _ _ (subscriptTail (PySem.Expr.Tuple [_, _, _, _, _, _, _, _, _, _, _, _] _ _) _ (Value.ref _) (Value.int _ _)) _ _ _); k_dflt (refine' menuK ?iN_r143 ?im_r143 ?il_r143 ?ii_r143 ?_ ?is_r143; (case iN_r143 => k_asm); (case im_r143 => k_mem); (case il_r143 => exact .cons _ _ (.cons _ _ (.cons _ _ (.cons _ _ (.cons _ _ (.cons _ _ (.cons _ _ (.cons _ _ (.cons _ _ (.cons _ _ (.cons _ _ (.cons _ _ .nil)))))))))))); (case ii_r143 => constructor <;> omega); (case is_r143 => with_unfolding_all rfl)); intro kk'm t'm hkk'm; k_whole))
  k_with "subscriptTail" => ((k_here; (with_reducible show wpAny _ _ (subscriptTail (PySem.Expr.Tuple [_, _, _] _ _) _ (Value.ref _) (Value.int _ _)) _ _ _); k_dflt (refine' menu3 ?iN_r144 ?im_r144 ?ii_r144 ?_ ?is_r144; (case iN_r144 => k_asm); (case im_r144 => k_mem); (case ii_r144 => constructor <;> omega); (case is_r144 => with_unfolding_all rfl)); intro t'm; k_whole))
  k_with "subscriptTail Name Name ref int" => ((k_here; (with_reducible show wpAny _ _ (subscriptTail (PySem.Expr.Tuple [_, _, _] _ _) _ (Value.ref _) (Value.int _ _)) _ _ _); k_dflt (refine' menu3 ?iN_r145 ?im_r145 ?ii_r145 ?_ ?is_r145; (case iN_r145 => k_asm); (case im_r145 => k_mem); (case ii_r145 => constructor <;> omega); (case is_r145 => with_unfolding_all rfl)); intro t'm; k_whole))
  k_with "subscriptTail Name BinOp ref int" => ((k_here; (with_reducible show wpAny _ _ (subscriptTail (PySem.Expr.Tuple [_, _, _] _ _) _ (Value.ref _) (Value.int _ _)) _ _ _); k_dflt (refine' menu3 ?iN_r146 ?im_r146 ?ii_r146 ?_ ?is_r146; (case iN_r146 => k_asm); (case im_r146 => k_mem); (case ii_r146 => constructor <;> omega); (case is_r146 => with_unfolding_all rfl)); intro t'm; k_whole))
  k_with "subscriptTail Name Constant ref int" => ((k_here; (with_reducible show wpAny _ _ (subscriptTail (PySem.Expr.Tuple [_, _, _] _ _) _ (Value.ref _) (Value.int _ _)) _ _ _); k_dflt (refine' menu3 ?iN_r147 ?im_r147 ?ii_r147 ?_ ?is_r147; (case iN_r147 => k_asm); (case im_r147 => k_mem); (case ii_r147 => constructor <;> omega); (case is_r147 => with_unfolding_all rfl)); intro t'm; k_whole))
  k_with "eval Tuple" => (k_here; k_dflt ((with_reducible show wpAny _ _ (eval (PySem.Expr.Tuple [PySem.Expr.Constant (PySem.Const.int _) _ _, PySem.Expr.Constant (PySem.Const.int _) _ _, PySem.Expr.Constant (PySem.Const.int _) _ _, PySem.Expr.Constant (PySem.Const.int _) _ _, PySem.Expr.Constant (PySem.Const.int _) _ _, PySem.Expr.Constant (PySem.Const.int _) _ _, PySem.Expr.Constant (PySem.Const.int _) _ _] _ _) _) _ _ _); refine' dispInts [(_, _, _), (_, _, _), (_, _, _), (_, _, _), (_, _, _), (_, _, _), (_, _, _)] ?tz ?tF ?tN ?_; (case tz => decide); (case tF => k_asm); (case tN => k_asm); intro D7 h7 vs7 tk7 hI7 F' N' l1; (obtain ⟨q1, q2, q3, q4, q5, q6, q7, rfl⟩ := ints7 hI7); clear hI7; (try k_lt l1)))
  k_with "eval Tuple" => (k_here; k_dflt ((with_reducible show wpAny _ _ (eval (PySem.Expr.Tuple [PySem.Expr.Constant (PySem.Const.int _) _ _, PySem.Expr.Constant (PySem.Const.int _) _ _, PySem.Expr.Constant (PySem.Const.int _) _ _] _ _) _) _ _ _); refine' dispInts [(_, _, _), (_, _, _), (_, _, _)] ?tz ?tF ?tN ?_; (case tz => decide); (case tF => k_asm); (case tN => k_asm); intro D7 h7 vs7 tk7 hI7 F' N' l1; (obtain ⟨q1, q2, q3, rfl⟩ := ints3 hI7); clear hI7; (try k_lt l1)))
  k_with "pyIter ref" => ((rename Fr _ _ _ _ => lF'); (rename News _ _ _ (_ :: _) => lN'); (replace lN' := startNews lN'); k_dflt (refine' iterLstJL rfl (Jf := fun b => JL (b.headD (0, listO #[] 0)).1 X (LCg.lst ys)) (vs := ys) (nn := ys.length) (by rfl) ?em lF' lN' ?e0 ?eturn ?edone (by passes_own)); (case em => k_mem); (case e0 => refine ⟨[_, _, _, _], _, _, _, ?ap, start4, rfl, ok4, rfl⟩; (simp only [List.headD_cons]); refine' List.forall_mem_cons.mpr ⟨Ne.symm (offD (_, listO _ _) ?om), ?on⟩; (case om => (iterate 6 (refine List.Mem.tail _ ?_)); exact List.Mem.head _); (case on => walk_at "my nes2")); clear lF' lN'; (case' eturn => (intro i v h1 tk1 m₁ news₁ I o hv hJ hin F' ho N' off; (refine (let G9 : Prop := _; (?_ : G9))); (obtain ⟨ws, kw, tz, ls, hap, hL, hll, hok, hm1⟩ := hJ); (dsimp only [List.headD_cons] at N' hm1 hap off); (replace F' := frPin F' hm1); (obtain ⟨x, tx, rfl, hx⟩ := hzs.at i v hv); (have hxb := hzb x (List.mem_of_getElem? hx)); (have hi8 : i < ys.length := (List.getElem?_eq_some_iff.mp hv).1))); (case' edone => (intro h1 tk1 m₁ news₁ F' N' hJ; (refine (let G9 : Prop := _; (?_ : G9))); (obtain ⟨ws, kw, tz, ls, hap, hL, hll, hok, hm1⟩ := hJ); (dsimp only [List.headD_cons] at N' hm1 hap); (replace F' := frPin F' hm1))))
  k_with "pyIter ref" => ((with_reducible show wpAny _ _ _ (CompAt _ _ _ _ _ _ _ _ _ _ _ _ _) _ _); (rename IntsAre _ (List.take 8 ns) => hW8); (have hlen8 := hW8.length); (have hle8 : (List.take 8 ns).length ≤ 8 := by rw [List.length_take]; exact Nat.min_le_left _ _); (rename Fr _ _ _ _ => lF'); (rename News _ _ _ (_ :: _) => lN'); k_dflt (refine' compLstB (Jf := JX) (by rfl) ?hm ?hn lF' lN' ?h0 ?hcell ?hkind ?hx ?hsk ?turn ?done); (case hm => k_mem); (case hn => rw [hlen8, sizeLine_eq]; omega); (case h0 => exact ⟨rfl, rfl, [], .nil, fun _ h => nomatch h⟩); (case hcell => decide); (case hkind => exact rfl); (case hx => intro _; exact rfl); (case hsk => intro _; exact rfl); clear lF' lN'; (case' turn => (intro i v ys I C D oI oC m₂ h tk news₁ E' hv hJ hax hmx hoC hoI F' N' nCD nIC nID off; (refine (let G9 : Prop := _; (?_ : G9))); (obtain ⟨rfl, hyl, zs, hzs, hzb⟩ := hJ); (obtain ⟨x, tx, rfl, hx⟩ := hW8.at i v hv); (refine' tests0 ?_))); (case' done => (intro X C h tk m' ys news' F' N' offD hn hC₀ hCL hCD offC hJ; (refine (let G9 : Prop := _; (?_ : G9))); (obtain ⟨rfl, hyl, zs, hzs, hzb⟩ := hJ); (refine' compDoneE F' N' hn hC₀ hCL (offCons hCD offC) ?hq3); clear F' N' hn offC; (intro h' F' N'))))
  k_with "call builtin:list.append" => (k_here; k_dflt (refine' appendLst ?aF ?aN ?aD ?az ?_; (case aF => k_asm); (case aN => k_asm); (case aD => k_mem); (case az => rw [List.size_toArray, hL.1, hll]; omega)); intro hA cA F' N1 hkeep; replace N1 := lettersEnd (I := I) (oi := o) (X := X) (xo := LCg.lst ys) (tz := tz) N1 hkeep (by k_mem) (by k_mem) (List.Mem.head _) (List.Mem.tail _ (List.Mem.head _)) (fun p hp => by repeat (first | exact hp | refine List.Mem.tail _ ?_)) (Ne.symm (off (_, listO _ _) (List.Mem.head _))) (by show @Ne Nat _ _; omega) (by show @Ne Nat _ _; omega) hap)
  unfold SpecF
  k_fill
  intros
  refine wpAny_call ?_
  (rename (∀ p ∈ [(S, oS)], _) => hz0)
  k_dflt (refine' enterP ?k1 ?k2 ?k3 ?k4 ?k5 ?kA ?kF ?kK ?k6 ?k7 ?k8 ?k9 ?kB [(Str.ofString "script", .ref S)] ?kL ?_ ?c2 ?c3 ?c4 ?c5; walk_at "my entered")
  (rename (∀ b o, _ → (∀ p ∈ [], _) → _) => hg0)
  have hSS := hg0 _ _ (hz0 _ (.head _)) (fun _ h => nomatch h)
  have hSL : Heap.IsList _ S vs.toArray := ⟨oS, hSS, hc, nS, hdS⟩
  clear hz0
  repeat' (first | ((fail_if_success goal_has PySem.wpAny); (try dsimp only); first | (with_reducible refine seqN ?_) | ((with_reducible refine seqE ?_); (try dsimp only)) | ((with_reducible refine seqR ?_); (try dsimp only)) | ((with_reducible refine seqC ?_); (try dsimp only)) | ((with_reducible refine seqB ?_); (try dsimp only))) | ((fail_if_success (fail_if_success k_unfold)); (try dsimp only); k_unfold; (try dsimp only)) | ((fail_if_success goal_has PySem.wpAny); show PySem.wpAny _ _ _ _ _ _; (try dsimp only)) | walk1 | (dsimp only; walk1) | fail "no step")
  all_goals try first
    | exact endC0 (by assumption) (by assumption) off ⟨⟨hax, trivial⟩, JX.step hyl hzs hzb⟩
    | (refine' unrEnd1 (by assumption) ?eN ?eo ?er; (case eN => exact N1); (case eo => exact offL off (by show @Ne Nat _ _; omega) (by show @Ne Nat _ _; omega)); (case er => refine ⟨⟨List.Mem.tail _ (List.Mem.head _), trivial⟩, _, _, _, ls ++ [letOf x _ ls.length], ?_, LettersAre.snoc (wd := x % 7) hL rfl (by constructor <;> omega), by rw [List.length_append, List.length_singleton, hll]; omega, ok_snoc hok (letOf_ok hxb (by assumption) (by omega)), rfl⟩; (simp only [List.headD_cons]); exact apL hap (by show @Ne Nat _ _; omega) (by show @Ne Nat _ _; omega)))
    | (refine' retMany (by assumption) ?k1 ?k2 ?k3; (case k2 => exact freshAll hg0 (newsOf (led := (_, listO (List.toArray ws) kw) :: tz) N' (fun p hp => by rcases List.mem_cons.mp hp with h | h; exact h ▸ List.Mem.head _; exact List.Mem.tail _ (List.Mem.tail _ h)))); (case k1 => exact fun b o e => F'.keep _ _ (hg0 b o e (fun _ h => nomatch h))); exact ⟨_, ws, kw, tz, ls, rfl, rfl, hL, by omega, by omega, hok⟩)
end

section
variable {w : World} {A : Around} {s : Shared} {K : Frag} {mean : ExcName → Option Value} {mg mb : Str → Option Value}
  {R : Result → Shared → Prop} {name qual : Str} {params : Arguments} {body : List Stmt} {scope : Scope} {dV kV doc pm cdv ct oc : Value} {an od : Option Addr} {osl : Array (Option Value)} {f : Addr} {args : Args} {p : Program} {loose : List Str} {prog : Program}
/-- the entry of a def with cells, called by no frame -/
theorem enterT (binds : List (Str × Value)) (mL mC : Str → Option Value) (X₀ : K.In s.heap) (T : Top p loose mean mg mb s.heap)
    (ho : K.lookup f = some ⟨oc, od, .func (fnOf name qual params body scope dV kV doc pm an cdv ct), osl⟩) (hcd : codeIn K cdv qual = true) (hroom : A.depth < recursionLimit)
    (hbind : BindsTo s (fnOf name qual params body scope dV kV doc pm an cdv ct) args binds) (hkind : (binds.all fun y => scope.names.lookup y.1 == some .local || scope.names.lookup y.1 == some .cell) = true)
    (hnd : ((cellsFrom 0 scope.names []).map (·.1)).Nodup) (hL : ∀ L', bindL (envOfC qual scope L' f cdv).kindOf binds (fun _ => none) = mL) (hC : ∀ L', bindC (envOfC qual scope L' f cdv).kindOf binds (fun _ => none) = mC)
    (h : ∀ L' h₁ tk cells, Fr s.heap L' h₁ mL → News s.heap L' h₁ cells → CellsAre mC (cellsFrom (L' + 1) scope.names []) cells →
      wpAny (model prog w) (A.deeper (envOfC qual scope L' f cdv)) (execs body (envOfC qual scope L' f cdv))
        (fun fl s' => R (.ok (.ret (match fl with | .ret v => v | _ => .none))) s')
        (fun e s' => wpAny (model prog w) (A.deeper (envOfC qual scope L' f cdv)) (leaving (envOfC qual scope L' f cdv) e) (fun _ s'' => R (.error e) s'') (fun e' s'' => R (.error e') s'') s')
        { s with heap := h₁, toks := tk })
    (hco : scope.isCoroutine = false) (hgen : scope.isGenerator = false) (hk : scope.kind = .function) : codeAny (model prog w) A (.call (.ref f) args) R s := by
  refine codeAny_call_function (fd := fnOf name qual params body scope dV kV doc pm an cdv ct) hroom (X₀ _ _ ho) rfl hco hgen rfl (codeRec_of X₀ hcd) (hbind _ _ _ _ ?_)
  refine wpAny_newFunctionEnv_cells hk (kindsX hkind _) fun env' he s' x => ?_
  subst he
  refine ⟨T.nolimit.keeps x.toInCall.keep, codeAny_func ?_⟩
  obtain ⟨h₁, tk, rfl, _⟩ := x.done
  obtain ⟨cells, NC, Y⟩ := Cl.news (h₀ := s.heap) (Nat.le_refl _) fun n c hm => ⟨x.cell n c (lookup_of_mem_nodup (cellsFrom_names scope.names 0 (s.heap.objs.size + 1) [] [] rfl ▸ hnd) hm), x.above n c hm⟩
  exact h s.heap.objs.size h₁ tk cells (hL _ ▸ ⟨x.toInCall.ns, x.toInCall.keep, Nat.le_refl _⟩) NC (hC _ ▸ Y)
end

/-- signs that a text may hold -/
def Low (x : Str) : Prop := ∀ c ∈ x.cps.toList, c < 1114112
theorem Low.ok {x : Str} (h : Low x) : PyData.strOk x = true := by
  unfold PyData.strOk
  rw [Array.all_eq_true]
  intro i hi
  have := h x.cps[i] (by simp)
  simpa using this
theorem Low.app {x y : Str} (h : Low x) (h' : Low y) : Low (x ++ y) := fun c hc => by
  rw [toList_app] at hc
  rcases List.mem_append.mp hc with hc | hc
  · exact h c hc
  · exact h' c hc
theorem low_lit (s : String) (h : (Str.ofString s).cps.toList.all (fun c => decide (c < 1114112)) = true := by decide +kernel) : Low (Str.ofString s) := fun c hc => by
  have := List.all_eq_true.mp h c hc
  simpa using this
theorem Figs.low {x : Str} (h : Figs x) : Low x := fun c hc => by have := h c hc; omega
theorem low_wd_nat : ∀ k < 7, (wdN (k : Nat)).cps.toList.all (fun c => decide (c < 1114112)) = true := by decide +kernel
theorem low_mo_nat : ∀ k < 12, (moN ((k : Nat) + 1 : Int)).cps.toList.all (fun c => decide (c < 1114112)) = true := by decide +kernel
theorem low_wd {wd : Int} (h : 0 ≤ wd ∧ wd < 7) : Low (wdN wd) := by
  obtain ⟨k, rfl⟩ := Int.eq_ofNat_of_zero_le h.1
  intro c hc
  have := List.all_eq_true.mp (low_wd_nat k (by omega)) c hc
  simpa using this
theorem low_mo {mo : Int} (h : 1 ≤ mo ∧ mo ≤ 12) : Low (moN mo) := by
  obtain ⟨k, e⟩ := Int.eq_ofNat_of_zero_le (show 0 ≤ mo - 1 by omega)
  obtain rfl : mo = (k : Int) + 1 := by omega
  intro c hc
  have := List.all_eq_true.mp (low_mo_nat k (by omega)) c hc
  simpa using this
theorem low_row (n : Int) : Low (rowN n) := by
  have k : ∀ x : Int, kindK x < 1114112 := fun x => by unfold kindK; split <;> (try split) <;> (try split) <;> (try split) <;> (try split) <;> (try split) <;> (try split) <;> decide
  have b : ∀ (x : Int) (c : Nat), c < 1114112 → bitC x c < 1114112 := fun x c hc => by unfold bitC; split; exact hc; decide
  have e : ∀ (x y : Int) (c d : Nat), c < 1114112 → d < 1114112 → execC x y c d < 1114112 := fun x y c d hc hd => by unfold execC; split <;> split <;> first | exact hc | exact hd | decide
  show ∀ c ∈ [_, _, _, _, _, _, _, _, _, _], c < 1114112
  intro c hc
  simp only [List.mem_cons, List.not_mem_nil, or_false] at hc
  rcases hc with rfl | rfl | rfl | rfl | rfl | rfl | rfl | rfl | rfl | rfl
  · exact k _
  · exact b _ _ (by decide)
  · exact b _ _ (by decide)
  · exact e _ _ _ _ (by decide) (by decide)
  · exact b _ _ (by decide)
  · exact b _ _ (by decide)
  · exact e _ _ _ _ (by decide) (by decide)
  · exact b _ _ (by decide)
  · exact b _ _ (by decide)
  · exact e _ _ _ _ (by decide) (by decide)
section
variable {y mo d h mi s n wd : Int} {z : Str}
theorem low_two {n : Int} (h : 0 ≤ n ∧ n < 100) : Low (two n) := (figs_two h).low
theorem low_four {n : Int} (h : 0 ≤ n ∧ n < 10000) : Low (four n) := (figs_four h).low
theorem low_join3 {c : String} {a b d : Str} (hc : Low (Str.ofString c)) (ha : Low a) (hb : Low b) (hd : Low d) : Low (Txt.join (Str.ofString c) [a, b, d]) := (((ha.app hc).app hb).app hc).app hd
theorem low_date (o : Ok y mo d h mi s n) (b7 : 0 ≤ wd ∧ wd < 7) (hz : Low z) : Low (dateN y mo d h mi s wd z) := by
  have h1 := o.y; have h2 := o.mo; have h3 := o.d; have h4 := o.h; have h5 := o.mi; have h6 := o.s
  unfold dateN
  exact (((((((low_wd b7).app (low_lit ", ")).app (low_two (by omega))).app (low_lit " ")).app (((((low_mo h2).app (low_lit " ")).app (low_four (by omega))).app (low_lit " ")))).app (low_join3 (low_lit ":") (low_two (by omega)) (low_two (by omega)) (low_two (by omega)))).app (low_lit " ")).app hz
theorem low_name (hn : 0 ≤ n ∧ n < 100) : Low (nameN n) := (low_lit "./x//../o'clock'").app (low_two hn)
theorem low_way (o : Ok y mo d h mi s n) : Low (wayN y mo d h mi s n) := by
  have h1 := o.y; have h2 := o.mo; have h3 := o.d; have h4 := o.h; have h5 := o.mi; have h6 := o.s; have h7 := o.n
  unfold wayN
  exact (((((((((low_lit "/mail/").app (low_four (by omega))).app (low_lit "/")).app (low_two (by omega))).app (low_lit "/")).app (low_two (by omega))).app (low_lit "/")).app (low_join3 (low_lit ".") (low_two (by omega)) (low_two (by omega)) (low_two (by omega)))).app (low_lit "/o'clock'")).app (low_two h7)
end
theorem shaped_l3 {a b c : Str} (ha : Low a) (hb : Low b) (hc : Low c) : SeqAt.shaped (.list [.str a, .str b, .str c]) = true := by
  show (PyData.canLay0 _ && decide _) = true
  rw [Bool.and_eq_true]
  exact ⟨by simp [PyData.canLay0, PyData.canLayAll0, ha.ok, hb.ok, hc.ok], rfl⟩
theorem shaped_nn {a : Str} (ha : Low a) : SeqAt.shaped (.tuple [.none, .none, .str a]) = true := by
  show (PyData.canLay0 _ && decide _) = true
  rw [Bool.and_eq_true]
  exact ⟨by simp [PyData.canLay0, PyData.canLayAll0, ha.ok], rfl⟩
theorem shaped_t2 {a b : Str} (ha : Low a) (hb : Low b) : SeqAt.shaped (.tuple [.str a, .str b]) = true := by
  show (PyData.canLay0 _ && decide _) = true
  rw [Bool.and_eq_true]
  exact ⟨by simp [PyData.canLay0, PyData.canLayAll0, ha.ok, hb.ok], rfl⟩
theorem canLay_strs : ∀ {xs : List Str}, (∀ x ∈ xs, Low x) → PyData.canLayAll0 (xs.map PyData.str) = true
  | [], _ => rfl
  | a :: r, h => by
    rw [List.map_cons, PyData.canLayAll0, canLay_strs fun x hx => h x (.tail _ hx)]
    simp [PyData.canLay0, (h a (.head _)).ok]
theorem depth_strs : ∀ xs : List Str, PyData.depthAll (xs.map PyData.str) = 0
  | [] => rfl
  | a :: r => by rw [List.map_cons, PyData.depthAll, depth_strs r]; rfl
theorem shaped_3l {xs ys zs : List Str} (hx : ∀ x ∈ xs, Low x) (hy : ∀ x ∈ ys, Low x) (hz : ∀ x ∈ zs, Low x) : SeqAt.shaped (.list [.list (xs.map .str), .list (ys.map .str), .list (zs.map .str)]) = true := by
  show (PyData.canLay0 _ && decide _) = true
  rw [Bool.and_eq_true]
  refine ⟨by simp [PyData.canLay0, PyData.canLayAll0, canLay_strs hx, canLay_strs hy, canLay_strs hz], ?_⟩
  simp [PyData.depth, PyData.depthAll, depth_strs]

theorem lawNews {h₀ h : Heap} {L cF cL Dl : Addr} {o1 o2 lst : Obj} {ts : List (Addr × Obj)} (N : News h₀ L h ((Dl, lst) :: ts ++ [(cF, o1), (cL, o2)])) : News h₀ L h ((cL, o2) :: (Dl, lst) :: (cF, o1) :: ts) := by
  intro p hp
  refine N p ?_
  simp only [List.mem_cons, List.mem_append, List.cons_append, List.not_mem_nil, or_false] at hp ⊢
  rcases hp with h | h | h | h <;> simp [h]
theorem lawNe1 {cF cL Dl : Addr} {o1 o2 lst : Obj} {ts : List (Addr × Obj)} (lt : ∀ q ∈ [(cF, o1), (cL, o2)], ∀ p ∈ (Dl, lst) :: ts, q.1 ≠ p.1) (h : cF ≠ cL) : ∀ p ∈ (Dl, lst) :: (cF, o1) :: ts, p.1 ≠ cL := by
  intro p hp
  simp only [List.mem_cons] at hp
  rcases hp with rfl | rfl | hp
  · exact Ne.symm (lt _ (.tail _ (.head _)) _ (.head _))
  · exact h
  · exact Ne.symm (lt _ (.tail _ (.head _)) _ (.tail _ hp))
theorem lawNe2 {cF cL Dl : Addr} {o1 o2 lst : Obj} {ts : List (Addr × Obj)} (lt : ∀ q ∈ [(cF, o1), (cL, o2)], ∀ p ∈ (Dl, lst) :: ts, q.1 ≠ p.1) : ∀ p ∈ (Dl, lst) :: ts, p.1 ≠ cF := fun p hp => Ne.symm (lt _ (.head _) p hp)
/-- the loop over the letters: what is filed so far -/
inductive JF (ls : List Let) (ts : List (Addr × Obj)) (c1 c2 Dl : Addr) (o1 o2 lst : Obj) (Df : Addr) (i : Nat) : List (Addr × Obj) → Prop
  | mk (V : List Value) (k : Nat) (tz : List (Addr × Obj)) (hnz : ∀ p ∈ (c1, o1) :: (Dl, lst) :: (c2, o2) :: tz, p.1 ≠ Df) (hcf : ∀ p ∈ (Dl, lst) :: tz, p.1 ≠ c2) (hsub : ∀ p ∈ ts, p ∈ tz) (hFA : FiledAre V tz (ls.take i)) : JF ls ts c1 c2 Dl o1 o2 lst Df i ((Df, listO (List.toArray V) k) :: (c1, o1) :: (Dl, lst) :: (c2, o2) :: tz)
theorem FiledAre.nil {tz : List (Addr × Obj)} : FiledAre [] tz [] := ⟨rfl, fun i l h => by simp at h⟩
theorem FiledAre.snoc {V : List Value} {tz : List (Addr × Obj)} {ls : List Let} {i : Nat} {l : Let} {T : Addr} {k : Nat} {t1 t2 : Tok} (h : FiledAre V tz (ls.take i)) (hl : ls[i]? = some l) : FiledAre (V ++ [.ref T]) ((T, tupleO #[.str l.way t1, .str l.row t2] k) :: tz) (ls.take (i + 1)) := by
  rw [List.take_add_one, hl]
  refine ⟨by simp [h.1], fun j l' hj => ?_⟩
  by_cases hi : j < (ls.take i).length
  · rw [List.getElem?_append_left hi] at hj
    obtain ⟨T', k', u1, u2, a, b⟩ := h.2 j l' hj
    exact ⟨T', k', u1, u2, by rw [List.getElem?_append_left (by rw [h.1]; exact hi)]; exact a, .tail _ b⟩
  · have hj2 : j = (ls.take i).length := by
      have := (List.getElem?_eq_some_iff.mp hj).1
      simp at this
      simp at hi ⊢
      omega
    subst hj2
    rw [List.getElem?_append_right (Nat.le_refl _), Nat.sub_self] at hj
    obtain rfl := Option.some.inj hj
    exact ⟨T, k, t1, t2, by rw [← h.1, List.getElem?_append_right (Nat.le_refl _), Nat.sub_self]; rfl, .head _⟩
theorem turnNews4 {h₀ h : Heap} {L I Df c1 Dl c2 P M : Addr} {oi of o1 lst o2 op om : Obj} {tz : List (Addr × Obj)} (N : News h₀ L h ((I, oi) :: (Df, of) :: (c1, o1) :: (Dl, lst) :: (c2, o2) :: tz)) (hP : (P, op) ∈ tz) (hM : (M, om) ∈ tz) :
    News h₀ L h ((I, oi) :: (P, op) :: (M, om) :: (Df, of) :: (c1, o1) :: (Dl, lst) :: (c2, o2) :: tz) := by
  intro p hp
  simp only [List.mem_cons] at hp
  rcases hp with rfl | rfl | rfl | rfl | rfl | rfl | rfl | hp
  · exact N _ (.head _)
  · exact N _ (.tail _ (.tail _ (.tail _ (.tail _ (.tail _ hP)))))
  · exact N _ (.tail _ (.tail _ (.tail _ (.tail _ (.tail _ hM)))))
  · exact N _ (.tail _ (.head _))
  · exact N _ (.tail _ (.tail _ (.head _)))
  · exact N _ (.tail _ (.tail _ (.tail _ (.head _))))
  · exact N _ (.tail _ (.tail _ (.tail _ (.tail _ (.head _)))))
  · exact N _ (.tail _ (.tail _ (.tail _ (.tail _ (.tail _ hp)))))
theorem isreg_is (m : Int) : (Builtin.bitAnd m 61440 == 32768) = (Txt.item (rowN m) 0 == Str.ofString "-") := by
  have e0 : Txt.item (rowN m) 0 = ⟨#[kindK (m / 4096 % 16)]⟩ := item_row m 0 (by decide)
  rw [e0, sign_is (c := 45) (by decide +kernel), and_kind, Bool.eq_iff_iff, beq_iff_eq, decide_eq_true_iff, kind_is]
  omega
/-- a zone -/
def ZoneOk (z : Str) : Prop := z.length ≤ 5 ∧ 39 ∉ z.cps.toList ∧ Low z
theorem zone_gmt : ZoneOk (Str.ofString "GMT") := ⟨by decide +kernel, by decide +kernel, low_lit "GMT"⟩
theorem zone_neg : ZoneOk (Str.ofString "-0130") := ⟨by decide +kernel, by decide +kernel, low_lit "-0130"⟩
section
variable {prog : Program} {w : World} {A : Around} {E : Value → Shared → Prop} {s : Shared} {h₀ : Heap} {L : Addr} {news : List (Addr × Obj)} {value slice : PySem.Expr} {T : Addr} {n : Nat} {i : Int} {u : Tok} {Q : Value → Shared → Prop}
theorem zoneItem {t1 t2 : Tok} (N : News h₀ L s.heap news) (hT : (T, tupleO #[.str (Str.ofString "GMT") t1, .str (Str.ofString "-0130") t2] n) ∈ news) (hi : 0 ≤ i ∧ i < 2) (h : ∀ z t', ZoneOk z → Q (.str z t') s)
    (hs : subscripted slice false (.ref T) (.int i u) = operate [.ref T, .int i u] (getItem (.ref T) (.int i u))) : wpAny (model prog w) A (subscriptTail value slice (.ref T) (.int i u)) Q E s := by
  have hl : s.heap.IsTuple T #[.str (Str.ofString "GMT") t1, .str (Str.ofString "-0130") t2] := ⟨_, (N _ hT).1, rfl, n, rfl⟩
  obtain rfl | rfl : i = 0 ∨ i = 1 := by omega
  · exact item_tupleT (l := [.str (Str.ofString "GMT") t1, .str (Str.ofString "-0130") t2]) (j := 0) hl (by decide) (by decide) rfl rfl (h _ t1 zone_gmt) hs
  · exact item_tupleT (l := [.str (Str.ofString "GMT") t1, .str (Str.ofString "-0130") t2]) (j := 1) hl (by decide) (by decide) rfl rfl (h _ t2 zone_neg) hs
end
section
variable {prog : Program} {w : World} {A : Around} {E : Value → Shared → Prop} {s : Shared} {Q : Value → Shared → Prop} {a b : Addr} {d : PyData} {as bs : List Addr}
theorem eqRefl (ra : Reads s.heap (.ref a) d as) (rb : Reads s.heap (.ref b) d bs) (hd : SeqAt.shaped d = true) (hu : A.units + 64 < cLine) (h : Q (.bool true) s) : wpAny (model prog w) A (compareOp .Eq (.ref a) (.ref b)) Q E s := by
  refine eq_dataH ra rb hd hd hu ?_
  rw [PySem.SeqAt.eqv_refl d (PySem.SeqAt.canLay_of_shaped hd)]
  exact h
theorem neRefl (ra : Reads s.heap (.ref a) d as) (rb : Reads s.heap (.ref b) d bs) (hd : SeqAt.shaped d = true) (hu : A.units + 64 < cLine) (h : Q (.bool false) s) : wpAny (model prog w) A (compareOp .NotEq (.ref a) (.ref b)) Q E s := by
  refine ne_dataH ra rb hd hd hu ?_
  rw [PySem.SeqAt.eqv_refl d (PySem.SeqAt.canLay_of_shaped hd)]
  exact h
end
theorem isNotB {prog : Program} {w : World} {A : Around} {E : Value → Shared → Prop} {s : Shared} {Q : Value → Shared → Prop} {x y : Bool} (e : x = y) (h : Q (.bool false) s) : wpAny (model prog w) A (compareOp .IsNot (.bool x) (.bool y)) Q E s := by
  subst e
  exact wpAny_isNot_self (by cases x <;> rfl) h

theorem way_specE {w : World} (y mo d h mi s wd n k : Int) (t1 t2 t3 t4 t5 t6 t7 t: Tok) (kk : Nat) (D : Addr) (e : n = k) (o : Ok y mo d h mi s k) : SpecS 2 w 242 [.ref D, .int n t] [(D, momO y mo d h mi s wd t1 t2 t3 t4 t5 t6 t7 kk)] (wayN y mo d h mi s k) 1000 := by
  subst e
  exact way_spec y mo d h mi s wd n t1 t2 t3 t4 t5 t6 t7 t kk D o.y o.mo o.d o.h o.mi o.s o.n
theorem filedEnd {h₀ h' : Heap} {L I Df c1 Dl c2 T : Addr} {oi o1 lst o2 to : Obj} {V : List Value} {c : Nat} {news tz : List (Addr × Obj)} (N1 : News h₀ L h' [(Df, listO ((List.toArray V).push (.ref T)) c)]) (hk : ∀ p ∈ news, p.1 ≠ Df → News h₀ L h' [p]) (hI : (I, oi) ∈ news) (h1 : (c1, o1) ∈ news) (hD : (Dl, lst) ∈ news) (h2 : (c2, o2) ∈ news) (hT : (T, to) ∈ news) (hz : ∀ p ∈ tz, p ∈ news)
    (nI : I ≠ Df) (nT : T ≠ Df) (hap : ∀ p ∈ (c1, o1) :: (Dl, lst) :: (c2, o2) :: tz, p.1 ≠ Df) : News h₀ L h' ((I, oi) :: (Df, listO (List.toArray (V ++ [.ref T])) c) :: (c1, o1) :: (Dl, lst) :: (c2, o2) :: (T, to) :: tz) := by
  rw [List.push_toArray] at N1
  have g : ∀ p ∈ news, p.1 ≠ Df → h'.get? p.1 = some p.2 ∧ p.1 ≠ L ∧ h₀.get? p.1 = none := fun p hp hn => hk p hp hn p (.head _)
  intro p hp
  simp only [List.mem_cons] at hp
  rcases hp with rfl | rfl | rfl | rfl | rfl | rfl | hp
  · exact g _ hI nI
  · exact N1 _ (.head _)
  · exact g _ h1 (hap _ (.head _))
  · exact g _ hD (hap _ (.tail _ (.head _)))
  · exact g _ h2 (hap _ (.tail _ (.tail _ (.head _))))
  · exact g _ hT nT
  · exact g _ (hz _ hp) (hap _ (.tail _ (.tail _ (.tail _ hp))))
theorem offF {I Df c1 Dl c2 T : Addr} {oa ob o1 lst o2 to : Obj} {tz : List (Addr × Obj)} (off : ∀ p ∈ (Df, oa) :: (c1, o1) :: (Dl, lst) :: (c2, o2) :: tz, p.1 ≠ I) (nT : T ≠ I) : ∀ p ∈ (Df, ob) :: (c1, o1) :: (Dl, lst) :: (c2, o2) :: (T, to) :: tz, p.1 ≠ I := by
  intro p hp
  simp only [List.mem_cons] at hp
  rcases hp with rfl | rfl | rfl | rfl | rfl | hp
  · exact off (Df, oa) (.head _)
  · exact off _ (.tail _ (.head _))
  · exact off _ (.tail _ (.tail _ (.head _)))
  · exact off _ (.tail _ (.tail _ (.tail _ (.head _))))
  · exact nT
  · exact off _ (.tail _ (.tail _ (.tail _ (.tail _ hp))))
theorem apF {Df c1 Dl c2 T : Addr} {o1 lst o2 to : Obj} {tz : List (Addr × Obj)} (hap : ∀ p ∈ (c1, o1) :: (Dl, lst) :: (c2, o2) :: tz, p.1 ≠ Df) (nT : T ≠ Df) : ∀ p ∈ (c1, o1) :: (Dl, lst) :: (c2, o2) :: (T, to) :: tz, p.1 ≠ Df := by
  intro p hp
  simp only [List.mem_cons] at hp
  rcases hp with rfl | rfl | rfl | rfl | hp
  · exact hap _ (.head _)
  · exact hap _ (.tail _ (.head _))
  · exact hap _ (.tail _ (.tail _ (.head _)))
  · exact nT
  · exact hap _ (.tail _ (.tail _ (.tail _ hp)))
theorem AllLt.ne {d : Addr} {l : List (Addr × Obj)} (h : AllLt d l) : ∀ p ∈ l, p.1 ≠ d := tbn_neAll h
theorem ZoneOk.len {z : Str} (h : ZoneOk z) : z.length ≤ 5 := h.1
theorem ZoneOk.no {z : Str} (h : ZoneOk z) : 39 ∉ z.cps.toList := h.2.1
theorem ZoneOk.low {z : Str} (h : ZoneOk z) : Low z := h.2.2
section
variable {prog : Program} {w : World} {A : Around} {E : Value → Shared → Prop} {hp : Heap} {ge : Array GenState} {dr : Drawn} {os : OsState} {kt : Nat} {Q : Value → Shared → Prop} {value slice : PySem.Expr} {m : Int} {t u : Tok}
theorem rowItem (h : ∀ t' tk, Q (.str (Txt.item (rowN m) 0) t') ⟨hp, ge, dr, tk, os⟩) (hs : subscripted slice false (.str (rowN m) t) (.int 0 u) = operate [.str (rowN m) t, .int 0 u] (getItem (.str (rowN m) t) (.int 0 u)))
    (ht : ∀ r, letTemporaryGo value (.str (rowN m) t) r = pure ()) : wpAny (model prog w) A (subscriptTail value slice (.str (rowN m) t) (.int 0 u)) Q E ⟨hp, ge, dr, kt, os⟩ :=
  KXi.item (n := 10) rfl (by decide) (by decide) (by decide) (fun _ => h _ _) hs ht
end

theorem apC {c2 Dl T : Addr} {lst to : Obj} {tz : List (Addr × Obj)} (h : ∀ p ∈ (Dl, lst) :: tz, p.1 ≠ c2) (nT : T ≠ c2) : ∀ p ∈ (Dl, lst) :: (T, to) :: tz, p.1 ≠ c2 := by
  intro p hp
  simp only [List.mem_cons] at hp
  rcases hp with rfl | rfl | hp
  · exact h _ (.head _)
  · exact nT
  · exact h _ (.tail _ hp)

theorem katFiled_of {h₀ h : Heap} {L : Addr} {news ts : List (Addr × Obj)} (N : News h₀ L h news) (hs : ∀ p ∈ ts, p ∈ news) : ∀ {vs : List Value} {ls : List Let}, FiledAre vs ts ls → ∃ fs, KatTups h vs fs ∧ fs.length = ls.length ∧ ∀ v ∈ fs, ∃ x t, v = .str x t
  | [], [], _ => ⟨[], KatTups.nil, rfl, fun _ h => nomatch h⟩
  | [], _ :: _, h => by have := h.1; simp at this
  | _ :: _, [], h => by have := h.1; simp at this
  | v :: vs, l :: ls, h => by
    obtain ⟨T, k, t1, t2, e, hT⟩ := h.2 0 l rfl
    obtain rfl : v = .ref T := by simpa using e
    obtain ⟨fs, h1, h2, h3⟩ := katFiled_of N hs (vs := vs) (ls := ls) ⟨by simpa using h.1, fun i l' hl => by simpa using h.2 (i + 1) l' (by simpa using hl)⟩
    refine ⟨.str l.way t1 :: fs, KatTups.cons (N _ (hs _ hT)).1 rfl rfl rfl h1, by rw [List.length_cons, List.length_cons, h2], fun v hv => ?_⟩
    rcases List.mem_cons.mp hv with rfl | hv
    · exact ⟨_, _, rfl⟩
    · exact h3 v hv
theorem FiledAre.pick {vs : List Value} {ts : List (Addr × Obj)} {ls : List Let} (h : FiledAre vs ts ls) (d : Let) : ∀ (p : List Nat), (∀ i ∈ p, i < ls.length) → FiledAre (p.map fun i => vs.getD i Value.none) ts (p.map fun i => ls.getD i d) := by
  intro p hp
  refine ⟨by simp, fun i l hl => ?_⟩
  rw [List.getElem?_map] at hl
  obtain ⟨j, hj, rfl⟩ := Option.map_eq_some_iff.mp hl
  have hjl := hp j (List.mem_of_getElem? hj)
  obtain ⟨T, k, t1, t2, a, b⟩ := h.2 j (ls.getD j d) (by rw [List.getD_eq_getElem?_getD, List.getElem?_eq_getElem hjl]; rfl)
  exact ⟨T, k, t1, t2, by rw [List.getElem?_map, hj]; show some (vs.getD j Value.none) = _; rw [List.getD_eq_getElem?_getD, a]; rfl, b⟩
section
variable {prog : Program} {w : World} {A : Around} {E : Value → Shared → Prop} {s : Shared} {h₀ : Heap} {L D : Addr} {m : Str → Option Value} {news ts : List (Addr × Obj)} {vs : List Value} {ls : List Let}
theorem way_inj {a c : Let} (oa : a.Ok) (oc : c.Ok) (h : a.way = c.way) : rank a = rank c := by
  have h1 : ¬ rank a < rank c := fun q => by
    have := (way_rank oa oc).mpr q
    rw [h] at this
    exact List.lt_irrefl _ this
  have h2 : ¬ rank c < rank a := fun q => by
    have := (way_rank oc oa).mpr q
    rw [h] at this
    exact List.lt_irrefl _ this
  omega
theorem size_two (a b c d : Value) : decide ((#[a, b] : Array Value).size < (#[c, d] : Array Value).size) = false := by simp
theorem zip_two (a b c d : Value) : (#[a, b] : Array Value).toList.zip (#[c, d] : Array Value).toList = [(a, c), (b, d)] := rfl
theorem askFiled (N : News h₀ L s.heap news) (hs : ∀ p ∈ ts, p ∈ news) (hT : FiledAre vs ts ls) (ok : ∀ l ∈ ls, l.Ok) (hu : ∀ a ∈ ls, ∀ c ∈ ls, rank a = rank c → a = c) (d : Let) {i j : Nat} {C : Bool → Shared → Prop} (hi : i < vs.length) (hj : j < vs.length) {o : Bool} (ho : o = true) (h : C (decide (rank (ls.getD i d) < rank (ls.getD j d))) s) : kas_ask prog w A (tuples' o) vs i j C s := by
  have at_ : ∀ k, k < vs.length → ∃ T n t1 t2, vs.getD k Value.none = .ref T ∧ s.heap.get? T = some (tupleO #[.str (ls.getD k d).way t1, .str (ls.getD k d).row t2] n) ∧ (ls.getD k d) ∈ ls := fun k hk => by
    have hk' : k < ls.length := hT.1 ▸ hk
    have e : ls[k]? = some (ls.getD k d) := by rw [List.getD_eq_getElem?_getD, List.getElem?_eq_getElem hk']; rfl
    obtain ⟨T, n, t1, t2, a, b⟩ := hT.2 k _ e
    exact ⟨T, n, t1, t2, by rw [List.getD_eq_getElem?_getD, a]; rfl, (N _ (hs _ b)).1, List.mem_of_getElem? e⟩
  obtain ⟨T1, n1, a1, a2, e1, g1, m1⟩ := at_ i hi
  obtain ⟨T2, n2, b1, b2, e2, g2, m2⟩ := at_ j hj
  unfold kas_ask
  rw [e1, e2]
  refine kat_lt g1 rfl g2 rfl ?_
  subst ho
  rw [size_two, zip_two]
  with_reducible refine katLexS ?_ ?_
  · intro e
    rw [hu _ m1 _ m2 (way_inj (ok _ m1) (ok _ m2) e)]
  · rw [way_rankB (ok _ m1) (ok _ m2)]
    exact h
end
section
variable {prog : Program} {w : World} {A : Around} {E : Value → Shared → Prop} {hp : Heap} {ge : Array GenState} {dr : Drawn} {os : OsState} {kt : Nat} {h₀ : Heap} {L D : Addr} {m : Str → Option Value} {news ts : List (Addr × Obj)} {vs : List Value} {ls : List Let}
/-- «sorted(filed)»: in the order of the ranks -/
theorem sortedFiled {n : Nat} {Q : Value → Shared → Prop} (F : Fr h₀ L hp m) (N : News h₀ L hp news) (hD : (D, listO (List.toArray vs) n) ∈ news) (hs : ∀ p ∈ ts, p ∈ news) (h4 : 2 ≤ ls.length) (h64 : ls.length < 64) (hT : FiledAre vs ts ls) (ok : ∀ l ∈ ls, l.Ok) (hinj : ls.Pairwise fun a c => rank a ≠ rank c)
    (h : ∀ B out sl c h', Fr h₀ L h' m → News h₀ L h' ((B, listO (List.toArray out) c) :: news) → (∀ p ∈ news, p.1 < B) → FiledAre out ts sl → sl.Perm ls → sl.Pairwise (fun a c => rank a < rank c) → Q (.ref B) ⟨h', ge, dr, kt, os⟩) : wpAny (model prog w) A (call (.builtin "sorted") [.ref D]) Q E ⟨hp, ge, dr, kt, os⟩ := by
  have hu : ∀ a ∈ ls, ∀ c ∈ ls, rank a = rank c → a = c := fun a ha c hc e => by
    obtain ⟨i, hi, rfl⟩ := List.mem_iff_getElem.mp ha
    obtain ⟨j, hj, rfl⟩ := List.mem_iff_getElem.mp hc
    have pw := List.pairwise_iff_getElem.mp hinj
    rcases Nat.lt_trichotomy i j with q | q | q
    · exact absurd e (pw i j _ _ q)
    · subst q; rfl
    · exact absurd e.symm (pw j i _ _ q)
  refine kat_sorted (s := ⟨hp, ge, dr, kt, os⟩) F N ⟨_, (N _ hD).1, rfl, n, rfl⟩ (by rw [hT.1]; exact h4) (by rw [hT.1]; exact h64) fun B e1 h' F' N' lB => ?_
  have N'' : News h₀ L h' news := fun p hp => N' p (.tail _ hp)
  obtain ⟨fs, k1, k2, k3⟩ := katFiled_of N'' hs hT
  refine kat_kind (s := ⟨h', ge, dr, kt, os⟩) (T := Value.type "str") k1 (by rw [k2]; omega) (fun v hv => ?_) rfl ?_
  · obtain ⟨x, t, rfl⟩ := k3 v hv
    exact .now
  · have d : Let := ⟨0, 0, 0, 0, 0, 0, 0, 0⟩
    have inj : ∀ i j, i < vs.length → j < vs.length → rank (ls.getD i d) = rank (ls.getD j d) → i = j := fun i j hi hj e => by
      rw [hT.1] at hi hj
      have g : ∀ k (hk : k < ls.length), ls.getD k d = ls[k] := fun k hk => by rw [List.getD_eq_getElem?_getD, List.getElem?_eq_getElem hk]; rfl
      rw [g i hi, g j hj] at e
      have pw := List.pairwise_iff_getElem.mp hinj
      rcases Nat.lt_trichotomy i j with q | q | q
      · exact absurd e (pw i j _ _ q)
      · exact q
      · exact absurd e.symm (pw j i _ _ q)
    refine sort_ranks (rk := fun i => rank (ls.getD i d)) (fun s' => s' = ⟨h', ge, dr, kt, os⟩) (by rw [hT.1]; omega) inj (fun i j C s' e hi hj hC => ?_) (fun p s' hp ha e => ?_) rfl
    · subst e
      exact askFiled N'' hs hT ok hu d hi hj (by decide +kernel) (hC _ rfl)
    · subst e
      rw [hT.1] at hp ha
      obtain ⟨q1, q2⟩ := sorted_of (ls := ls) d hp ha (fun a c => rank a < rank c) fun i j hi hj hr => hr
      have hlt : ∀ i ∈ p.toList, i < ls.length := fun i hi => by
        have := (List.Perm.mem_iff (Array.perm_iff_toList_perm.mp hp)).mp hi
        simpa using this
      exact KasFin.intro (g := fun o => (B, o) :: news) F' N' (UpdF.head fun p hp => Nat.ne_of_lt (lB p hp)) fun h'' c F3 N3 => h B _ _ c h'' F3 N3 lB (hT.pick d _ hlt) q1 q2
end

theorem rank_apart {ls : List Let} (ok : ∀ l ∈ ls, l.Ok) (hnum : ∀ (i : Nat) (l : Let), ls[i]? = some l → l.n = i) : ls.Pairwise fun a c => rank a ≠ rank c := by
  rw [List.pairwise_iff_getElem]
  intro i j hi hj hij e
  have h1 := hnum i _ (List.getElem?_eq_getElem hi)
  have h2 := hnum j _ (List.getElem?_eq_getElem hj)
  have := rank_n (ok _ (List.getElem_mem hi)) (ok _ (List.getElem_mem hj)) e
  omega
theorem shared_pathE {w : World} (l l' : Let) (o : l.Ok) (o' : l'.Ok) (t u : Tok) : SpecT 2 w 249 [.str (pathT l 6) t, .str (pathT l' 6) u] [] (Str.ofString "/" ++ Txt.join (Str.ofString "/") (comPre (l.parts.take 6) (l'.parts.take 6))) := by
  have e : Str.ofString "/" ++ Txt.join (Str.ofString "/") (comPre (l.parts.take 6) (l'.parts.take 6)) = Txt.join (Str.ofString "/") (comPre (Str.ofString "" :: l.parts) (Str.ofString "" :: l'.parts)) := by
    have e1 : comPre (Str.ofString "" :: l.parts) (Str.ofString "" :: l'.parts) = Str.ofString "" :: comPre l.parts l'.parts := by rw [comPre, if_pos rfl]
    obtain ⟨r, e2⟩ : ∃ r, comPre l.parts l'.parts = Str.ofString "mail" :: r := ⟨_, by unfold Let.parts wayP; rw [comPre, if_pos rfl]⟩
    rw [e1, List.take_of_length_le (Nat.le_of_eq l.parts_len), List.take_of_length_le (Nat.le_of_eq l'.parts_len), e2, slash]
    apply eqOfL
    rw [toList_app, join_toList, join_toList]
    rfl
  rw [e]
  have q : ∀ k : Let, k.Ok → Txt.split (pathT k 6) (Str.ofString "/") = Str.ofString "" :: k.parts := fun k o => by rw [path_split k o (by decide) (Nat.le_refl _), List.take_of_length_le (Nat.le_of_eq k.parts_len)]
  refine shared_gen (pathT l 6) (pathT l' 6) _ _ t u (Nat.le_trans (pathT_len _ _) (by decide)) (Nat.le_trans (pathT_len _ _) (by decide)) (q l o) (q l' o') ?_ ?_ ?_
  · rw [List.length_cons, List.length_cons, l.parts_len, l'.parts_len]
  · rw [List.length_cons, l.parts_len]; decide
  · unfold wt Let.parts wayP
    simp only [List.map_cons, List.map_nil, List.sum_cons, List.sum_nil, List.length_cons, List.length_nil, four_len, two_len, hms_len, ock_len, ofString_len "mail" 4, ofString_len "" 0]
    decide
section
variable {prog : Program} {w : World} {A : Around} {E : Value → Shared → Prop} {s : Shared} {h₀ : Heap} {L : Addr} {news : List (Addr × Obj)} {value slice : PySem.Expr} {T : Addr} {n : Nat} {Q : Value → Shared → Prop}
theorem filedAt {B : Addr} {out : List Value} {ts : List (Addr × Obj)} {sl : List Let} {l : Let} {k : Int} {i : Nat} {u : Tok} (N : News h₀ L s.heap news) (hB : (B, listO (List.toArray out) n) ∈ news) (hF : FiledAre out ts sl) (hl : sl[i]? = some l) (hi : i < 2 ^ 62) (ek : k = i)
    (h : ∀ T n t1 t2, (T, tupleO #[.str (pathT l 6) t1, .str l.row t2] n) ∈ ts → Q (.ref T) s) (hs : subscripted slice false (.ref B) (.int k u) = operate [.ref B, .int k u] (getItem (.ref B) (.int k u))) : wpAny (model prog w) A (subscriptTail value slice (.ref B) (.int k u)) Q E s := by
  subst ek
  obtain ⟨T, n, t1, t2, a, b⟩ := hF.2 i l hl
  exact item_lst N hB hi (by simpa using a) (h T n t1 t2 (by rw [← way_is]; exact b)) hs
theorem pairAt0 {ts : List (Addr × Obj)} {x y : Value} {u : Tok} (N : News h₀ L s.heap news) (hsub : ∀ p ∈ ts, p ∈ news) (hT : (T, tupleO #[x, y] n) ∈ ts) (h : Q x s)
    (hs : subscripted slice false (.ref T) (.int 0 u) = operate [.ref T, .int 0 u] (getItem (.ref T) (.int 0 u))) : wpAny (model prog w) A (subscriptTail value slice (.ref T) (.int 0 u)) Q E s :=
  item_tupleT (l := [x, y]) (j := 0) ⟨_, (N _ (hsub _ hT)).1, rfl, n, rfl⟩ (by decide) (by decide) rfl rfl h hs
end
section
variable {prog : Program} {w : World} {A : Around} {E : Value → Shared → Prop} {s : Shared} {env : Env} {h₀ : Heap} {body orelse : List Stmt} {Q : Flow → Shared → Prop} {m₀ : Str → Option Value} {news : List (Addr × Obj)} {x : Str} {px : Pos}
theorem pyRangeAL {L : Addr} (hL : env.locals = L) {Jf : List (Addr × Obj) → Nat → (Str → Option Value) → List (Addr × Obj) → Prop} {r : Addr} {a b : Int} {t₀ u₀ v₀ : Tok} (hh : A.handled = none) (hr : IsRange s.heap r a b 1 t₀ u₀ v₀) (ha : 0 ≤ a ∧ a ≤ 1000) (hb : 0 ≤ b ∧ b ≤ 1000) (F : Fr h₀ L s.heap m₀) (N : News h₀ L s.heap news) (h0 : Jf news 0 m₀ news)
    (turn : ∀ (i : Nat) t h tk m₁ news₁ I o, i < (b - a).toNat → Jf news i m₁ news₁ → Fr h₀ L h m₁ → o.cls = .type "range_iterator" → News h₀ L h ((I, o) :: news₁) → (∀ p ∈ news₁, p.1 ≠ I) →
      wpAny (model prog w) A (assign (.Name x px) env (.int (a + i) t)) (fun _ s₂ => wpAny (model prog w) A (execs body env) (UnrPostW h₀ L { s with heap := h, toks := tk } [(I, o)] (fun m' n' => SubL [] n' ∧ Jf news (i + 1) m' n') Q) E s₂) E { s with heap := h, toks := tk })
    (done : ∀ h tk m' news', Fr h₀ L h m' → News h₀ L h news' → Jf news (b - a).toNat m' news' → wpAny (model prog w) A (execs orelse env) Q E { s with heap := h, toks := tk })
    (hE : PassesOwn (model prog w) A env E) : wpAny (model prog w) A (pyIter (.ref r)) (fun it s₂ => TurnsJ prog w A h₀ env (.Name x px) body orelse Q E it s₂) E s := by
  subst hL
  exact pyRangeJ (J := Jf news) hh hr ha hb F N h0 turn done hE
end

/-- the ways that a level keeps -/
def keptW (sl : List Let) (lv : Int) : List Str := keptTo (lv + 1).toNat (sl.filter (keep1 lv)) (sl.filter (keep1 lv)).length
theorem keptW_low {sl : List Let} (ok : ∀ l ∈ sl, l.Ok) (lv : Int) : ∀ x ∈ keptW sl lv, Low x := by
  intro x hx
  unfold keptW at hx
  rw [keptTo_map] at hx
  obtain ⟨l, hl, rfl⟩ := List.mem_map.mp hx
  have h1 := (keptL_sub _ _ _).subset hl
  have h2 := (List.mem_filter.mp (List.mem_of_mem_take h1)).1
  exact low_way (ok l h2)
theorem kept_specW {w : World} (lv : Int) (tl : Tok) (hlv : 1 ≤ lv ∧ lv ≤ 3) (ls : List Let) (hls : ∀ l ∈ ls, l.Ok) (hn : ls.length ≤ 60) (Df : Addr) (vs : List Value) (nn : Nat) (ts : List (Addr × Obj)) (hfs : FiledAre vs ts ls) :
    SpecF 20 w 261 [.ref Df, .int lv tl] ((Df, listO vs.toArray nn) :: ts) (fun r tl => ∃ D V k, r = .ref D ∧ tl = [(D, listO V k)] ∧ StrsAre V.toList (keptW ls lv)) :=
  kept_spec lv tl hlv ls hls hn Df vs nn ts hfs
theorem last_specW {w : World} (lv : Int) (tl : Tok) (hlv : 1 ≤ lv ∧ lv ≤ 3) (ls sl : List Let) (hls : ∀ l ∈ ls, l.Ok) (hn : ls.length ≤ 60) (hp : sl.Perm ls) (hs : sl.Pairwise (fun a c => rank a < rank c)) (Dl : Addr) (vs : List Value) (nn : Nat) (ts : List (Addr × Obj)) (hfs : LettersAre vs ts ls) :
    Spec 20 w 266 [.ref Dl, .int lv tl] ((Dl, listO vs.toArray nn) :: ts) (fun r tl => ∃ D V k, r = .ref D ∧ tl = [(D, listO V k)] ∧ StrsAre V.toList (keptW sl lv)) := by
  unfold Spec
  intro mean mg mb dp un gd cn cs a ccd cl outer A₀ base h₀ L m s Q E B F X N T hk hd' hu ret
  refine last_spec lv tl hlv ls hls hn Dl vs nn ts hfs mean mg mb dp un gd cn cs a ccd cl outer A₀ base h₀ L m s Q E B F X N T hk hd' hu fun r tl h' tk' k ht hr => ret r tl h' tk' k ht ?_
  obtain ⟨D, V, kk, rl, e1, e2, e3, e4⟩ := hr
  refine ⟨D, V, kk, e1, e2, ?_⟩
  unfold keptW
  rw [kept_last hlv hls hp hs e4]
  exact e3
/-- a list of texts for each level -/
def JR (f : Int → List Str) (base : List (Addr × Obj)) (i : Nat) (ys : List Value) (news : List (Addr × Obj)) : Prop :=
  (i = 0 ∧ ys = [] ∧ news = base) ∨ (i = 1 ∧ ∃ D1 v1 n1, ys = [.ref D1] ∧ news = (D1, listO v1 n1) :: base ∧ StrsAre v1.toList (f 1)) ∨
  (i = 2 ∧ ∃ D1 v1 n1 D2 v2 n2, ys = [.ref D1, .ref D2] ∧ news = (D2, listO v2 n2) :: (D1, listO v1 n1) :: base ∧ StrsAre v1.toList (f 1) ∧ StrsAre v2.toList (f 2)) ∨
  (i = 3 ∧ ∃ D1 v1 n1 D2 v2 n2 D3 v3 n3, ys = [.ref D1, .ref D2, .ref D3] ∧ news = (D3, listO v3 n3) :: (D2, listO v2 n2) :: (D1, listO v1 n1) :: base ∧ StrsAre v1.toList (f 1) ∧ StrsAre v2.toList (f 2) ∧ StrsAre v3.toList (f 3))
section
variable {f : Int → List Str} {base news : List (Addr × Obj)} {ys : List Value}
theorem JR.at0 (h : JR f base 0 ys news) : ys = [] ∧ news = base := by
  rcases h with ⟨_, h⟩ | ⟨h, _⟩ | ⟨h, _⟩ | ⟨h, _⟩
  · exact h
  all_goals cases h
theorem JR.at1 (h : JR f base 1 ys news) : ∃ D1 v1 n1, ys = [.ref D1] ∧ news = (D1, listO v1 n1) :: base ∧ StrsAre v1.toList (f 1) := by
  rcases h with ⟨h, _⟩ | ⟨_, h⟩ | ⟨h, _⟩ | ⟨h, _⟩
  · cases h
  · exact h
  all_goals cases h
theorem JR.at2 (h : JR f base 2 ys news) : ∃ D1 v1 n1 D2 v2 n2, ys = [.ref D1, .ref D2] ∧ news = (D2, listO v2 n2) :: (D1, listO v1 n1) :: base ∧ StrsAre v1.toList (f 1) ∧ StrsAre v2.toList (f 2) := by
  rcases h with ⟨h, _⟩ | ⟨h, _⟩ | ⟨_, h⟩ | ⟨h, _⟩
  · cases h
  · cases h
  · exact h
  · cases h
theorem JR.at3 (h : JR f base 3 ys news) : ∃ D1 v1 n1 D2 v2 n2 D3 v3 n3, ys = [.ref D1, .ref D2, .ref D3] ∧ news = (D3, listO v3 n3) :: (D2, listO v2 n2) :: (D1, listO v1 n1) :: base ∧ StrsAre v1.toList (f 1) ∧ StrsAre v2.toList (f 2) ∧ StrsAre v3.toList (f 3) := by
  rcases h with ⟨h, _⟩ | ⟨h, _⟩ | ⟨h, _⟩ | ⟨_, h⟩
  · cases h
  · cases h
  · cases h
  · exact h
end
theorem three_items {a b c v : Value} {i : Nat} (h : [a, b, c][i]? = some v) : (i = 0 ∧ v = a) ∨ (i = 1 ∧ v = b) ∨ (i = 2 ∧ v = c) := by
  match i, h with
  | 0, h => exact .inl ⟨rfl, by simpa using h.symm⟩
  | 1, h => exact .inr (.inl ⟨rfl, by simpa using h.symm⟩)
  | 2, h => exact .inr (.inr ⟨rfl, by simpa using h.symm⟩)
theorem readsR {h₀ h : Heap} {L D D1 D2 D3 : Addr} {v1 v2 v3 : Array Value} {n1 n2 n3 : Nat} {x1 x2 x3 : List Str} {news : List (Addr × Obj)} (N : News h₀ L h news) (hD : (D, LCg.lst [.ref D1, .ref D2, .ref D3]) ∈ news) (h1 : (D1, listO v1 n1) ∈ news) (h2 : (D2, listO v2 n2) ∈ news) (h3 : (D3, listO v3 n3) ∈ news)
    (s1 : StrsAre v1.toList x1) (s2 : StrsAre v2.toList x2) (s3 : StrsAre v3.toList x3) : ∃ as, Reads h (.ref D) (.list [.list (x1.map .str), .list (x2.map .str), .list (x3.map .str)]) as := by
  have g1 := Reads.list (N _ h1).1 rfl rfl (StrsAre.reads h s1)
  have g2 := Reads.list (N _ h2).1 rfl rfl (StrsAre.reads h s2)
  have g3 := Reads.list (N _ h3).1 rfl rfl (StrsAre.reads h s3)
  exact ⟨_, Reads.list (N _ hD).1 rfl rfl (.cons g1 (.cons g2 (.cons g3 .nil)))⟩
section
variable {prog : Program} {w : World} {A : Around} {E : Value → Shared → Prop} {s : Shared} {Q : Value → Shared → Prop} {h₀ : Heap} {L D D1 D2 D3 C C1 C2 C3 : Addr} {v1 v2 v3 u1 u2 u3 : Array Value} {n1 n2 n3 k1 k2 k3 : Nat} {f : Int → List Str} {news : List (Addr × Obj)}
/-- both sides hold the same texts -/
theorem eqLevels (N : News h₀ L s.heap news) (hD : (D, LCg.lst [.ref D1, .ref D2, .ref D3]) ∈ news) (h1 : (D1, listO v1 n1) ∈ news) (h2 : (D2, listO v2 n2) ∈ news) (h3 : (D3, listO v3 n3) ∈ news)
    (s1 : StrsAre v1.toList (f 1)) (s2 : StrsAre v2.toList (f 2)) (s3 : StrsAre v3.toList (f 3)) (hC : (C, LCg.lst [.ref C1, .ref C2, .ref C3]) ∈ news) (h4 : (C1, listO u1 k1) ∈ news) (h5 : (C2, listO u2 k2) ∈ news) (h6 : (C3, listO u3 k3) ∈ news)
    (s4 : StrsAre u1.toList (f 1)) (s5 : StrsAre u2.toList (f 2)) (s6 : StrsAre u3.toList (f 3)) (low : ∀ lv, ∀ x ∈ f lv, Low x) (hu : A.units + 64 < cLine) (h : Q (.bool true) s) : wpAny (model prog w) A (compareOp .Eq (.ref D) (.ref C)) Q E s := by
  obtain ⟨as, ra⟩ := readsR N hD h1 h2 h3 s1 s2 s3
  obtain ⟨bs, rb⟩ := readsR N hC h4 h5 h6 s4 s5 s6
  exact eqRefl ra rb (shaped_3l (low 1) (low 2) (low 3)) hu h
end
theorem frzOf {h₀ h : Heap} {L : Addr} {news fz : List (Addr × Obj)} (N : News h₀ L h news) (hs : ∀ p ∈ fz, p ∈ news) : ∀ p ∈ fz, h.get? p.1 = some p.2 := fun p hp => (N _ (hs p hp)).1
theorem subCons {p : Addr × Obj} {fz news : List (Addr × Obj)} (h : p ∈ news) (hs : ∀ q ∈ fz, q ∈ news) : ∀ q ∈ p :: fz, q ∈ news := fun q hq => by
  rcases List.mem_cons.mp hq with rfl | hq
  · exact h
  · exact hs q hq

theorem two_len' {row date : Str} (h1 : row.length ≤ 10) (h2 : date.length ≤ 40) : (row ++ Str.ofString "'" ++ date).length ≤ 1000 := by
  simp only [Str.length_append, ofString_len "'" 1]
  omega
theorem date_some {y mo d h mi s wd : Int} {z : Str} (b2 : 1 ≤ mo ∧ mo ≤ 12) (b7 : 0 ≤ wd ∧ wd < 7) : (dateN y mo d h mi s wd z).length ≠ 0 := by
  unfold dateN
  simp only [Str.length_append, two_len, four_len, wdN_len b7, moN_len b2, join3_len ":" h mi s (by decide +kernel), ofString_len ", " 2, ofString_len " " 1]
  omega
section
theorem lawTop {w : World} (mean : ExcName → Option Value) (mg mb : Str → Option Value) (S : Addr) (oS : Obj) (vs : List Value) (ns : List Int) (nS : Nat) (hc : oS.cls = .type "list") (hdS : oS.data = .seq vs.toArray nS) (hI : IntsAre vs ns) (hn : vs.length ≤ 1048576)
    (s : Shared) (R : Result → Shared → Prop) (X : (hd.heap_1 w.params).In s.heap) (T : Top hd.view_1 [Str.ofString "_filemode_table"] mean mg mb s.heap) (B : Below callerA s.heap [] s.heap) (hS : s.heap.get? S = some oS)
    (ret : ∀ h' tk, (∀ b o, s.heap.get? b = some o → h'.get? b = some o) → R (.ok (.ret (.bool true))) { s with heap := h', toks := tk }) : codeAny (model PySem.Challenge.rw_qw0054_01.row.prog w) callerA (.call (.ref 271) ⟨[.ref S], []⟩) R s := by
  k_with_none
  w_top off
  k_with "my sub" => (first | exact List.forall_mem_nil _ | (refine' List.forall_mem_cons.mpr ⟨?a_r4, ?b_r4⟩; (case a_r4 => k_mem); (case b_r4 => walk_at "my sub")))
  k_with "my len" => (first | with_reducible assumption | with_reducible exact Nat.le_of_eq (two_len _) | with_reducible exact Nat.le_of_eq (four_len _) | with_reducible exact Nat.le_of_eq (wdN_len (by assumption)) | with_reducible exact Nat.le_of_eq (moN_len (by assumption)) | with_reducible exact lit_len)
  k_with "my text" => (first | with_reducible exact slice_wd (by assumption) | with_reducible exact slice_mo (by assumption) | with_reducible exact zfill_four (by assumption) | with_reducible exact rfl)
  k_with "binaryOp Add str str" => ((k_here; (refine' add_strE ?e1_r15 ?e2_r15 ?a1_r15 ?a2_r15 ?a3_r15 ?_; (case e1_r15 => walk_at "my text"); (case e2_r15 => walk_at "my text"); (case a1_r15 => walk_at "my len"); (case a2_r15 => walk_at "my len"); (case a3_r15 => omega); intro t'm tk'm ln'm)))
  k_with "inplaceOp Add str str" => ((k_here; (refine' iadd_strE ?e1_r16 ?e2_r16 ?a1_r16 ?a2_r16 ?a3_r16 ?_; (case e1_r16 => walk_at "my text"); (case e2_r16 => walk_at "my text"); (case a1_r16 => walk_at "my len"); (case a2_r16 => walk_at "my len"); (case a3_r16 => omega); intro t'm tk'm ln'm)))
  k_with "execs cons" => ((k_here; (try ((fail_if_success (fail_if_success k_fold)); (refine (let q8 := _; (?_ : PySem.wpAny _ _ _ q8 _ _))))); (with_reducible refine seqA ?_); (refine (let q8 := _; (?_ : PySem.wpAny _ _ _ q8 _ _))); (try ((with_reducible rename Fr _ _ _ (fun _ => _) => lF8); (refine (let lm8 := _; (fun (F' : Fr _ _ _ lm8) => ?_) lF8)); clear lF8))))
  k_with "execs cons" => ((k_here; k_gentoks))
  k_with "execs cons" => ((k_here; k_made; walk_at "execs cons"))
  k_with "eval Call" => ((k_here; (fail_if_success (fail_if_success k_fold)); (refine (let q8 := _; (?_ : PySem.wpAny _ _ _ q8 _ _)))))
  k_with "eval BinOp" => ((k_here; (fail_if_success (fail_if_success k_fold)); (refine (let q8 := _; (?_ : PySem.wpAny _ _ _ q8 _ _)))))
  k_with "eval Subscript" => ((k_here; (fail_if_success (fail_if_success k_fold)); (refine (let q8 := _; (?_ : PySem.wpAny _ _ _ q8 _ _)))))
  k_with "eval Tuple" => ((k_here; (fail_if_success (fail_if_success k_fold)); (refine (let q8 := _; (?_ : PySem.wpAny _ _ _ q8 _ _)))))
  k_with "eval List" => ((k_here; (fail_if_success (fail_if_success k_fold)); (refine (let q8 := _; (?_ : PySem.wpAny _ _ _ q8 _ _)))))
  k_with "eval Compare" => ((k_here; (fail_if_success (fail_if_success k_fold)); (refine (let q8 := _; (?_ : PySem.wpAny _ _ _ q8 _ _)))))
  k_with "call ref" => ((k_here; (fail_if_success (fail_if_success k_fold)); (refine (let q8 := _; (?_ : PySem.wpAny _ _ _ q8 _ _)))))
  k_with "callWith ref" => ((k_here; k_dflt (refine' callA1 ?k1_r37 ?k2_r37 ?_; (case k1_r37 => k_asm); (case k2_r37 => k_is); k_whole)))
  k_with "callWith ref" => ((k_here; k_dflt (refine' callA2 ?k1_r38 ?k2_r38 ?_; (case k1_r38 => k_asm); (case k2_r38 => k_is); k_whole)))
  k_with "isTrue BoolOp" => ((k_here; (fail_if_success (fail_if_success k_fold)); (refine (let q8 := _; (?_ : PySem.wpAny _ _ _ q8 _ _)))))
  k_with "isTrue Compare" => ((k_here; (fail_if_success (fail_if_success k_fold)); (refine (let q8 := _; (?_ : PySem.wpAny _ _ _ q8 _ _)))))
  k_with "isTrue UnaryOp" => ((k_here; (fail_if_success (fail_if_success k_fold)); (refine (let q8 := _; (?_ : PySem.wpAny _ _ _ q8 _ _)))))
  k_with "assign Name" => ((k_here; (fail_if_success (fail_if_success k_fold)); (refine (let q8 := _; (?_ : PySem.wpAny _ _ _ q8 _ _)))))
  k_with "assign Tuple" => ((k_here; (fail_if_success (fail_if_success k_fold)); (refine (let q8 := _; (?_ : PySem.wpAny _ _ _ q8 _ _)))))
  k_with "callWith" => ((k_here; (with_reducible show PySem.wpAny _ _ (PySem.callWith _ (PySem.Value.builtin _) _ _ []) _ _ _); k_dflt (first | refine callM1 ?_ | refine callM2 ?_ | refine callB1 ?_ | refine callB2 ?_); k_whole))
  k_with "my pick" => ((with_reducible first | assumption | exact And.left (by assumption) | exact And.right (by assumption) | exact And.left (And.right (by assumption)) | exact And.right (And.right (by assumption)) | exact And.left (And.right (And.right (by assumption))) | exact And.right (And.right (And.right (by assumption))) | exact And.left (And.right (And.right (And.right (by assumption)))) | exact And.right (And.right (And.right (And.right (by assumption)))) | exact And.left (And.right (And.right (And.right (And.right (by assumption))))) | exact And.right (And.right (And.right (And.right (And.right (by assumption))))) | exact And.left (And.right (And.right (And.right (And.right (And.right (by assumption)))))) | exact And.right (And.right (And.right (And.right (And.right (And.right (by assumption)))))) | exact And.left (And.right (And.right (And.right (And.right (And.right (And.right (by assumption))))))) | exact And.right (And.right (And.right (And.right (And.right (And.right (And.right (by assumption))))))) | exact And.left (And.right (And.right (And.right (And.right (And.right (And.right (And.right (by assumption)))))))) | exact And.right (And.right (And.right (And.right (And.right (And.right (And.right (And.right (by assumption)))))))) | exact And.left (And.right (And.right (And.right (And.right (And.right (And.right (And.right (And.right (by assumption))))))))) | exact And.right (And.right (And.right (And.right (And.right (And.right (And.right (And.right (And.right (by assumption)))))))))))
  k_with "my less" => (first | with_reducible exact Int.emod_lt_of_pos _ (by decide) | with_reducible exact Int.emod_nonneg _ (by decide) | (with_reducible refine Nat.ne_of_lt ?_; walk_at "my pick") | (with_reducible refine Nat.ne_of_gt ?_; walk_at "my pick"))
  k_with "exec For Name Call cons nil" => ((k_here; (rename Fr _ _ _ _ => lF'm); (with_unfolding_all refine' forJF lF'm ?_; k_whole)))
  k_with "subscriptTail" => ((k_here; (with_reducible show wpAny _ _ (subscriptTail _ (PySem.Expr.Name _ _) (Value.ref _) (Value.int _ _)) _ _ _); k_dflt (refine' item_lst ?iN_r149 ?im_r149 ?ii_r149 ?ix_r149 ?_ ?is_r149; (case iN_r149 => k_asm); (case im_r149 => k_mem); (case ii_r149 => assumption); (case ix_r149 => assumption); (case is_r149 => with_unfolding_all rfl); k_whole)))
  k_with "subscriptTail Name Name ref int" => ((k_here; (with_reducible show wpAny _ _ (subscriptTail _ (PySem.Expr.Name _ _) (Value.ref _) (Value.int _ _)) _ _ _); k_dflt (refine' item_lst ?iN_r150 ?im_r150 ?ii_r150 ?ix_r150 ?_ ?is_r150; (case iN_r150 => k_asm); (case im_r150 => k_mem); (case ii_r150 => assumption); (case ix_r150 => assumption); (case is_r150 => with_unfolding_all rfl); k_whole)))
  k_with "subscriptTail Name BinOp ref int" => ((k_here; (with_reducible show wpAny _ _ (subscriptTail _ (PySem.Expr.Name _ _) (Value.ref _) (Value.int _ _)) _ _ _); k_dflt (refine' item_lst ?iN_r151 ?im_r151 ?ii_r151 ?ix_r151 ?_ ?is_r151; (case iN_r151 => k_asm); (case im_r151 => k_mem); (case ii_r151 => assumption); (case ix_r151 => assumption); (case is_r151 => with_unfolding_all rfl); k_whole)))
  k_with "subscriptTail Name Constant ref int" => ((k_here; (with_reducible show wpAny _ _ (subscriptTail _ (PySem.Expr.Name _ _) (Value.ref _) (Value.int _ _)) _ _ _); k_dflt (refine' item_lst ?iN_r152 ?im_r152 ?ii_r152 ?ix_r152 ?_ ?is_r152; (case iN_r152 => k_asm); (case im_r152 => k_mem); (case ii_r152 => assumption); (case ix_r152 => assumption); (case is_r152 => with_unfolding_all rfl); k_whole)))
  k_with "subscriptTail" => ((k_here; (with_reducible show wpAny _ _ (subscriptTail (PySem.Expr.Tuple [_, _] _ _) _ (Value.ref _) (Value.int _ _)) _ _ _); k_dflt (refine' zoneItem ?iN_r153 ?im_r153 ?ii_r153 ?_ ?is_r153; (case iN_r153 => k_asm); (case im_r153 => k_mem); (case ii_r153 => constructor <;> omega); (case is_r153 => with_unfolding_all rfl)); intro z'm t'm hz'm; k_whole))
  k_with "subscriptTail Name Name ref int" => ((k_here; (with_reducible show wpAny _ _ (subscriptTail (PySem.Expr.Tuple [_, _] _ _) _ (Value.ref _) (Value.int _ _)) _ _ _); k_dflt (refine' zoneItem ?iN_r154 ?im_r154 ?ii_r154 ?_ ?is_r154; (case iN_r154 => k_asm); (case im_r154 => k_mem); (case ii_r154 => constructor <;> omega); (case is_r154 => with_unfolding_all rfl)); intro z'm t'm hz'm; k_whole))
  k_with "subscriptTail Name BinOp ref int" => ((k_here; (with_reducible show wpAny _ _ (subscriptTail (PySem.Expr.Tuple [_, _] _ _) _ (Value.ref _) (Value.int _ _)) _ _ _); k_dflt (refine' zoneItem ?iN_r155 ?im_r155 ?ii_r155 ?_ ?is_r155; (case iN_r155 => k_asm); (case im_r155 => k_mem); (case ii_r155 => constructor <;> omega); (case is_r155 => with_unfolding_all rfl)); intro z'm t'm hz'm; k_whole))
  k_with "subscriptTail Name Constant ref int" => ((k_here; (with_reducible show wpAny _ _ (subscriptTail (PySem.Expr.Tuple [_, _] _ _) _ (Value.ref _) (Value.int _ _)) _ _ _); k_dflt (refine' zoneItem ?iN_r156 ?im_r156 ?ii_r156 ?_ ?is_r156; (case iN_r156 => k_asm); (case im_r156 => k_mem); (case ii_r156 => constructor <;> omega); (case is_r156 => with_unfolding_all rfl)); intro z'm t'm hz'm; k_whole))
  k_with "subscriptTail Name Constant str int" => ((k_here; (with_reducible show wpAny _ _ (subscriptTail _ _ (Value.str (rowN _) _) (Value.int 0 _)) _ _ _); (refine' rowItem ?_ ?is_r157 ?it_r157; (case is_r157 => with_unfolding_all rfl); (case it_r157 => intro _; with_unfolding_all rfl)); intro t'm tk'm))
  k_with "binaryOp Mod int int" => ((k_here; (refine' modP ?hb_r158 ?_; (case hb_r158 => decide)); intro t'm tk'm))
  k_with "ite" => ((k_here; first | (with_reducible refine ite_tt ?_) | (with_reducible refine ite_ff ?_)))
  k_with "my low" => (first | with_reducible exact low_row _ | with_reducible exact low_date (by assumption) (by assumption) (ZoneOk.low (by assumption)) | with_reducible exact low_name (Ok.n (by assumption)) | with_reducible exact low_way (by assumption) | with_reducible exact low_lit _ | (with_reducible refine Low.app ?_ ?_ <;> walk_at "my low"))
  k_with "my shaped" => (first | (with_reducible refine shaped_l3 ?_ ?_ ?_ <;> walk_at "my low") | (with_reducible refine shaped_nn ?_ <;> walk_at "my low") | (with_reducible refine shaped_t2 ?_ ?_ <;> walk_at "my low"))
  k_with "compareOp NotEq ref ref" => ((k_here; first | (k_dflt (refine' neRefl ?ra_r162 ?rb_r162 ?rs_r162 ?ru_r162 ?_; (case ra_r162 => ke_read); (case rb_r162 => ke_read); (case rs_r162 => walk_at "my shaped2"); (case ru_r162 => ke_room)); (try ((rename News _ _ _ (_ :: _ :: _) => lN8m); (replace lN8m := newsTail (newsTail lN8m))))) | (k_dflt (refine' neRefl ?ra_r162 ?rb_r162 ?rs_r162 ?ru_r162 ?_; (case ra_r162 => ke_read); (case rb_r162 => ke_read); (case rs_r162 => walk_at "my shaped"); (case ru_r162 => ke_room)))))
  k_with "my shaped2" => (first | (with_reducible refine shaped_l3 ?_ ?_ ?_ <;> walk_at "my low") | (with_reducible refine shaped_nn ?_ <;> walk_at "my low"))
  k_with "compareOp Eq str str" => ((k_here; refine PyProof.Rows.eq_str ?_))
  k_with "compareOp IsNot bool bool" => ((k_here; (refine' isNotB ?eb_r165 ?_; (case eb_r165 => exact isreg_is _))))
  k_with "binaryOp Sub int int" => ((k_here; refine' subP ?_; intro t'm tk'm))
  k_with "eval ListComp" => ((k_here; with_unfolding_all (refine' evalComp ?c1_r167 ?c2_r167 ?c3_r167 ?_ ?c6_r167; (case c1_r167 => exact rfl); (case c2_r167 => exact rfl); (case c3_r167 => decide); (case c6_r167 => intro _; rfl); k_whole)))
  k_with "eval Name" => ((k_here; (with_reducible show wpAny _ _ (eval (PySem.Expr.Name _ _) (compEnvC _ _ _ _)) _ _ _); with_unfolding_all (refine' ldCell ?ln_r168 ?lc_r168 ?lm_r168 ?ld_r168 ?_ ?lk_r168 ?lx_r168 ?lb_r168; (case ln_r168 => k_asm); (case lc_r168 => exact rfl); (case lm_r168 => k_mem); (case ld_r168 => assumption); (case lk_r168 => exact rfl); (case lx_r168 => exact rfl); (case lb_r168 => decide))))
  k_with "compareOp NotEq str str" => ((k_here; refine' neF ?te_r169 ?_; (case te_r169 => exact beq_self_eq_true _)))
  k_with "compareOp Eq ref ref" => ((k_here; k_dflt (refine' eqLevels ?eN_r170 ?m1_r170 ?m2_r170 ?m3_r170 ?m4_r170 ?e1_r170 ?e2_r170 ?e3_r170 ?m5_r170 ?m6_r170 ?m7_r170 ?m8_r170 ?e4_r170 ?e5_r170 ?e6_r170 (keptW_low ?eo_r170) ?eu_r170 ?_; (case eN_r170 => k_asm); (case m1_r170 => k_mem); (case m2_r170 => k_mem); (case m3_r170 => k_mem); (case m4_r170 => k_mem); (case m5_r170 => k_mem); (case m6_r170 => k_mem); (case m7_r170 => k_mem); (case m8_r170 => k_mem); (case e1_r170 => with_reducible assumption); (case e2_r170 => with_reducible assumption); (case e3_r170 => with_reducible assumption); (case e4_r170 => with_reducible assumption); (case e5_r170 => with_reducible assumption); (case e6_r170 => with_reducible assumption); (case eo_r170 => with_reducible assumption); (case eu_r170 => ke_room))))
  revert X
  k_fill
  intro X
  have TR := topRead_of T
  k_with "call ref" => (k_here; (with_reducible show wpAny _ _ (call (Value.ref 214) _) _ _ _); k_dflt (refine' SpecF.use (letters_spec S oS vs ns nS hc hdS hI hn) ?b1 ?f1 ?x1 ?n1 ?t1 ?kk ?hd ?hu ?ha ?_; (case b1 => k_asm); (case f1 => k_asm); (case x1 => k_asm); (case n1 => k_asm); (case t1 => k_asm); (case kk => exact rfl); (case hd => decide +kernel); (case hu => decide +kernel); (case ha => exact fun p hp => by rw [List.mem_singleton.mp hp]; exact F'.keep _ _ hS); k_whole; rintro _ _ h1 tk1 F' N' lt' ⟨Dl, ws, kw, ts, ls, rfl, rfl, hL, hl4, hl12, hok⟩ _; (replace N' := lawNews N'); (have hne1 := lawNe1 lt' (by show @Ne Nat _ _; omega)); (have hne2 := lawNe2 lt'); clear lt'))
  k_with "storeName" => (k_here; (with_reducible show wpAny _ _ (storeName _ (Str.ofString "letters") _) _ _ _); k_dflt (refine' storeX_C ?F ?N ?c (UpdF.head hne1) ?d ?_ ?a ?b; (case a => rfl); (case b => rfl); (case F => k_asm); (case N => k_asm); (case c => rfl); (case d => k_asm); k_whole); intro hC1 oL1 F' N' dL1)
  k_with "storeName" => (k_here; (with_reducible show wpAny _ _ (storeName _ (Str.ofString "filed") _) _ _ _); k_dflt (refine' storeX_C ?F ?N ?c (UpdF.tail ?u1 (UpdF.tail ?u2 (UpdF.tail ?u3 (UpdF.head ?u4)))) ?d ?_ ?a ?b; (case a => rfl); (case b => rfl); (case F => k_asm); (case N => k_asm); (case c => rfl); (case d => k_asm); (case u1 => (show @Ne Nat _ _; omega)); (case u2 => (show @Ne Nat _ _; omega)); (case u3 => exact hne2 (_, _) (.head _)); (case u4 => exact fun p hp => hne2 p (.tail _ hp)); k_whole); intro hC2 oF1 F' N' dF1; (try dsimp only at N'))
  have hwl : ∀ {ws : List Value} {ts : List (Addr × Obj)} {ls : List Let}, LettersAre ws ts ls → ls.length ≤ 12 → ws.length ≤ 60 := fun h h2 => by rw [h.1]; omega
  k_with "call builtin:len" => (k_here; (refine' lenVals (k := ws.length) ?lN ?lm ?lS ?ll ?_; (case lN => k_asm); (case lm => k_mem); (case lS => exact List.size_toArray ..); (case ll => exact hwl hL hl12)); intro t' tk')
  k_with "pyIter ref" => ((rename IsRange _ _ _ _ _ _ _ _ => hR); (with_reducible (replace hR : IsRange _ _ 0 (Nat.cast _) 1 _ _ _ := hR)); (rename Fr _ _ _ _ => lF'); (rename News _ _ _ (_ :: _) => lN'); k_dflt (refine' pyRange1L (L := L') (by rfl) (Jf := fun b i _ => JF ls ts (L' + 1) (L' + 1 + 1) Dl oL1 oF1 (listO (List.toArray ws) kw) (b.headD (0, listO #[] 0)).1 i) (by rfl) hR ?kb lF' lN' ?k0 ?kturn ?kdone (by passes_own)); (case kb => have := hwl hL hl12; exact ⟨by omega, by omega⟩); (case k0 => exact ⟨[], _, ts, AllLt.ne (by assumption), hne2, fun _ h => h, FiledAre.nil⟩); clear lF' lN' hR; (case' kturn => (intro i ti h2 tk2 m₁ news₁ I o hi hJ F' ho N' off; (refine (let G9 : Prop := _; (?_ : G9))); (obtain ⟨V, kV, tz, hnz, hcf, hsub, hFA⟩ := hJ); (dsimp only [List.headD_cons] at N' hnz off); (have hi1 : i < ls.length := by have := hL.1; omega); (obtain ⟨l, hl⟩ : ∃ l, ls[i]? = some l := ⟨_, List.getElem?_eq_getElem hi1⟩); (have ol := (hok l (List.mem_of_getElem? hl)).1); (have hm := (hok l (List.mem_of_getElem? hl)).2); (obtain ⟨hln, P, M, kP, kM, tm, t1, t2, t3, t4, t5, t6, t7, wd, hwd, hv, hP, hM⟩ := hL.2 i l hl); (have hi2 : i < 2 ^ 62 := by omega); (have hv2 : ws.toArray.toList[i]? = some (.ref P) := hv); (replace N' := turnNews4 N' (hsub _ hP) (hsub _ hM)); (have lnr : (rowN l.m).length ≤ 10 := Nat.le_refl _); (have hmr : 0 ≤ l.m ∧ l.m < 2 ^ 32 := ⟨hm.1, by omega⟩); (have hdd := fun (z : Str) (h : ZoneOk z) => date_no_tick (y := l.y) (z := z) ol.mo hwd ol.y ol.d ol.h ol.mi ol.s h.no); (have hdl := fun (z : Str) (h : ZoneOk z) => date_short (y := l.y) (mo := l.mo) (d := l.d) (h := l.h) (mi := l.mi) (s := l.s) ol.mo hwd h.len); (have hd3 := fun (z : Str) (h : ZoneOk z) => line_parts (row_no_tick l.m) (hdd z h) ol.n); (have hlen3 := fun (z : Str) (h : ZoneOk z) => line_len (n := l.n) lnr (hdl z h)); (have hd2 := fun (z : Str) (h : ZoneOk z) => line_two (row_no_tick l.m) (hdd z h)); (have hlen2 := fun (z : Str) (h : ZoneOk z) => two_len' lnr (hdl z h)); (have hd1 := fun (z : Str) (h : ZoneOk z) => line_one (hdd z h) (date_some ol.mo hwd)); (have hlr := low_row l.m); (have hld := fun (z : Str) (h : ZoneOk z) => low_date (n := l.n) ol hwd h.low); (have hlnm := low_name ol.n); (have hl2 := fun (z : Str) (h : ZoneOk z) => (hlr.app (low_lit "'")).app (hld z h)); (have hlw := low_way ol); (have hlen1 := fun (z : Str) (h : ZoneOk z) => Nat.le_trans (hdl z h) (show 40 ≤ 1000 by decide)))); (case' kdone => (intro h2 tk2 m₁ news₁ F' N' hJ; (refine (let G9 : Prop := _; (?_ : G9))); (obtain ⟨V, kV, tz, hnz, hcf, hsub, hFA⟩ := hJ); (dsimp only [List.headD_cons] at N' hnz); (rw [Int.toNat_natCast, hL.1, List.take_length] at hFA))))
  k_with "call ref" => (k_here; (with_reducible show wpAny _ _ (call (Value.ref 221) _) _ _ _); k_dflt (refine' Spec.use (two_specE _ l.n _ hln.symm ol.n) ?b1 ?f1 ?x1 ?n1 ?t1 ?kk ?hd ?hu ?ha ?_; (case b1 => k_asm); (case f1 => k_asm); (case x1 => k_asm); (case n1 => k_asm); (case t1 => k_asm); (case kk => exact rfl); (case hd => decide +kernel); (case hu => decide +kernel); (case ha => walk_at "my sub"); k_whole; rintro _ _ h' tk' F' N' lt' ⟨rfl, ⟨t', rfl⟩, ln'⟩; (try dsimp only [List.nil_append] at N'); clear lt'))
  k_with "call ref" => (k_here; (with_reducible show wpAny _ _ (call (Value.ref 209) _) _ _ _); k_dflt (refine' Spec.use (filemode_row _ _) ?b1 ?f1 ?x1 ?n1 ?t1 ?kk ?hd ?hu ?ha ?_; (case b1 => k_asm); (case f1 => k_asm); (case x1 => k_asm); (case n1 => k_asm); (case t1 => k_asm); (case kk => exact rfl); (case hd => decide +kernel); (case hu => decide +kernel); (case ha => walk_at "my sub"); k_whole; rintro _ _ h' tk' F' N' lt' ⟨rfl, t', rfl⟩; (try dsimp only [List.nil_append] at N'); clear lt'))
  k_with "call ref" => (k_here; (with_reducible show wpAny _ _ (call (Value.ref 28) _) _ _ _); k_dflt (refine' Spec.use (format_spec l.y l.mo l.d l.h l.mi l.s wd _ _ _ _ _ _ _ _ _ _ _ (ZoneOk.len ?hz) ol.y ol.mo ol.d ol.h ol.mi ol.s hwd) ?b1 ?f1 ?x1 ?n1 ?t1 ?kk ?hd ?hu ?ha ?_; (case b1 => k_asm); (case f1 => k_asm); (case x1 => k_asm); (case n1 => k_asm); (case t1 => k_asm); (case kk => exact rfl); (case hd => decide +kernel); (case hu => decide +kernel); (case ha => walk_at "my sub"); (case hz => assumption); k_whole; rintro _ _ h' tk' F' N' lt' ⟨rfl, ⟨t', rfl⟩, ln'⟩; (try dsimp only [List.nil_append] at N'); clear lt'))
  k_with "call ref" => (k_here; (with_reducible show wpAny _ _ (call (Value.ref 228) _) _ _ _); k_dflt (refine' Spec.use (row_spec _ _ hmr) ?b1 ?f1 ?x1 ?n1 ?t1 ?kk ?hd ?hu ?ha ?_; (case b1 => k_asm); (case f1 => k_asm); (case x1 => k_asm); (case n1 => k_asm); (case t1 => k_asm); (case kk => exact rfl); (case hd => decide +kernel); (case hu => decide +kernel); (case ha => walk_at "my sub"); k_whole; rintro _ _ h' tk' F' N' lt' ⟨rfl, ⟨t', rfl⟩, ln'⟩; (try dsimp only [List.nil_append] at N'); clear lt'))
  k_with "call ref" => (k_here; (with_reducible show wpAny _ _ (call (Value.ref 235) _) _ _ _); k_dflt (refine' Spec.use (date_spec l.y l.mo l.d l.h l.mi l.s wd _ _ _ _ _ _ _ _ _ _ _ (ZoneOk.len ?hz) ol.y ol.mo ol.d ol.h ol.mi ol.s hwd) ?b1 ?f1 ?x1 ?n1 ?t1 ?kk ?hd ?hu ?ha ?_; (case b1 => k_asm); (case f1 => k_asm); (case x1 => k_asm); (case n1 => k_asm); (case t1 => k_asm); (case kk => exact rfl); (case hd => decide +kernel); (case hu => decide +kernel); (case ha => walk_at "my sub"); (case hz => assumption); k_whole; rintro _ _ h' tk' F' N' lt' ⟨rfl, ⟨t', rfl⟩, ln'⟩; (try dsimp only [List.nil_append] at N'); clear lt'))
  k_with "call ref" => (k_here; (with_reducible show wpAny _ _ (call (Value.ref 35) [Value.str (_ ++ (_ ++ _)) _]) _ _ _); k_dflt (refine' Spec.use (decode3_spec _ _ _ _ _ (hlen3 _ ?hz) (hd3 _ ?hz)) ?b1 ?f1 ?x1 ?n1 ?t1 ?kk ?hd ?hu ?ha ?_; (case b1 => k_asm); (case f1 => k_asm); (case x1 => k_asm); (case n1 => k_asm); (case t1 => k_asm); (case kk => exact rfl); (case hd => decide +kernel); (case hu => decide +kernel); (case ha => walk_at "my sub"); (case hz => assumption); k_whole; rintro _ _ h' tk' F' N' lt' ⟨D1, n1, u1, u2, u3, rfl, rfl⟩; (try dsimp only [List.nil_append] at N'); (dsimp only [List.cons_append, List.nil_append] at N'); clear lt'))
  k_with "call ref" => (k_here; (with_reducible show wpAny _ _ (call (Value.ref 35) [Value.str (_ ++ dateN _ _ _ _ _ _ _ _) _]) _ _ _); k_dflt (refine' Spec.use (decode2_spec _ _ _ _ (hlen2 _ ?hz) (hd2 _ ?hz)) ?b1 ?f1 ?x1 ?n1 ?t1 ?kk ?hd ?hu ?ha ?_; (case b1 => k_asm); (case f1 => k_asm); (case x1 => k_asm); (case n1 => k_asm); (case t1 => k_asm); (case kk => exact rfl); (case hd => decide +kernel); (case hu => decide +kernel); (case ha => walk_at "my sub"); (case hz => assumption); k_whole; rintro _ _ h' tk' F' N' lt' ⟨D1, n1, u1, rfl, rfl⟩; (try dsimp only [List.nil_append] at N'); (dsimp only [List.cons_append, List.nil_append] at N'); clear lt'))
  k_with "call ref" => (k_here; (with_reducible show wpAny _ _ (call (Value.ref 35) [Value.str (dateN _ _ _ _ _ _ _ _) _]) _ _ _); k_dflt (refine' Spec.use (decode1_spec _ _ _ (hlen1 _ ?hz) (hd1 _ ?hz)) ?b1 ?f1 ?x1 ?n1 ?t1 ?kk ?hd ?hu ?ha ?_; (case b1 => k_asm); (case f1 => k_asm); (case x1 => k_asm); (case n1 => k_asm); (case t1 => k_asm); (case kk => exact rfl); (case hd => decide +kernel); (case hu => decide +kernel); (case ha => walk_at "my sub"); (case hz => assumption); k_whole; rintro _ _ h' tk' F' N' lt' ⟨D1, n1, u1, rfl, rfl⟩; (try dsimp only [List.nil_append] at N'); (dsimp only [List.cons_append, List.nil_append] at N'); clear lt'))
  k_with "call ref" => (k_here; (with_reducible show wpAny _ _ (call (Value.ref 169) _) _ _ _); k_dflt (refine' Spec.use (isreg_spec _ _) ?b1 ?f1 ?x1 ?n1 ?t1 ?kk ?hd ?hu ?ha ?_; (case b1 => k_asm); (case f1 => k_asm); (case x1 => k_asm); (case n1 => k_asm); (case t1 => k_asm); (case kk => exact rfl); (case hd => decide +kernel); (case hu => decide +kernel); (case ha => walk_at "my sub"); k_whole; rintro _ _ h' tk' F' N' lt' ⟨rfl, rfl⟩; (try dsimp only [List.nil_append] at N'); clear lt'))
  k_with "call ref" => (k_here; (with_reducible show wpAny _ _ (call (Value.ref 256) _) _ _ _); k_dflt (refine' Spec.use (filed_spec l.y l.mo l.d l.h l.mi l.s wd l.n l.m _ _ ol ol.mo hwd (ZoneOk.len ?hz) (ZoneOk.no ?hz)) ?b1 ?f1 ?x1 ?n1 ?t1 ?kk ?hd ?hu ?ha ?_; (case b1 => k_asm); (case f1 => k_asm); (case x1 => k_asm); (case n1 => k_asm); (case t1 => k_asm); (case kk => exact rfl); (case hd => decide +kernel); (case hu => decide +kernel); (case ha => walk_at "my sub"); (case hz => assumption); k_whole; rintro _ _ h' tk' F' N' lt' ⟨T1, kT, u1, u2, rfl, rfl⟩; (try dsimp only [List.nil_append] at N'); (dsimp only [List.cons_append, List.nil_append] at N'); (have hTI := lt' (I, o) (by k_mem) _ (List.Mem.head _)); (have hTD := lt' (_, listO (List.toArray V) kV) (by k_mem) _ (List.Mem.head _)); (have hTC := lt' (L' + 1 + 1, oF1) (by k_mem) _ (List.Mem.head _)); clear lt'))
  k_with "call ref" => (k_here; (with_reducible show wpAny _ _ (call (Value.ref 242) _) _ _ _); k_dflt (refine' Spec.use (way_specE l.y l.mo l.d l.h l.mi l.s wd _ l.n _ _ _ _ _ _ _ _ _ _ hln.symm ol) ?b1 ?f1 ?x1 ?n1 ?t1 ?kk ?hd ?hu ?ha ?_; (case b1 => k_asm); (case f1 => k_asm); (case x1 => k_asm); (case n1 => k_asm); (case t1 => k_asm); (case kk => exact rfl); (case hd => decide +kernel); (case hu => decide +kernel); (case ha => walk_at "my sub"); k_whole; rintro _ _ h' tk' F' N' lt' ⟨rfl, ⟨t', rfl⟩, ln'⟩; (try dsimp only [List.nil_append] at N'); clear lt'))
  k_with "call builtin:list.append" => (k_here; k_dflt (refine' appendLst ?aF ?aN ?aD ?az ?_; (case aF => k_asm); (case aN => k_asm); (case aD => k_mem); (case az => rw [List.size_toArray, hFA.1, List.length_take]; omega)); intro hA cA F' N1 hkeep; replace N1 := filedEnd (I := I) (oi := o) (tz := tz) (T := T1) N1 hkeep (by k_mem) (by k_mem) (by k_mem) (by k_mem) (by k_mem) (fun p hp => by repeat (first | exact hp | refine List.Mem.tail _ ?_)) (Ne.symm (off (_, listO _ _) (List.Mem.head _))) (Ne.symm hTD) hnz; clear hkeep)
  k_with "call builtin:sorted" => (k_here; k_dflt (refine' sortedFiled ?sF ?sN ?sD ?ss ?s4 ?s64 hFA ?sok (rank_apart (fun l hl => (hok l hl).1) (fun i l hl => (hL.2 i l hl).1)) ?_; (case sF => k_asm); (case sN => k_asm); (case sD => k_mem); (case ss => exact fun p hp => by repeat (first | exact hp | refine List.Mem.tail _ ?_)); (case s4 => omega); (case s64 => omega); (case sok => exact fun l hl => (hok l hl).1)); intro B out sl cB h' F' N' lB hFB hpm hpw; (have hoks : ∀ l ∈ sl, l.Ok := fun l hl => (hok l ((List.Perm.mem_iff hpm).mp hl)).1); (have hokl : ∀ l ∈ ls, l.Ok := fun l hl => (hok l hl).1); (have hsl := hpm.length_eq); (have hbl := hFB.1); (have hl60 : ls.length ≤ 60 := by omega); (have hs60 : sl.length ≤ 60 := by omega))
  k_with "storeName" => (k_here; (with_reducible show wpAny _ _ (storeName _ (Str.ofString "filed") _) _ _ _); (have hlB := lB); k_dflt (refine' storeX_C ?sF2 ?sN2 ?sc2 (UpdF.tail ?w1 (UpdF.tail ?w2 (UpdF.tail ?w3 (UpdF.tail ?w4 (UpdF.head ?w5))))) ?sd2 ?_ ?sa2 ?sb2; (case sa2 => rfl); (case sb2 => rfl); (case sF2 => k_asm); (case sN2 => k_asm); (case sc2 => rfl); (case sd2 => k_asm); (case w1 => exact Nat.ne_of_gt (lB _ (.tail _ (.tail _ (.tail _ (.head _)))))); (case w2 => exact Ne.symm (hnz _ (.tail _ (.tail _ (.head _))))); (case w3 => (show @Ne Nat _ _; omega)); (case w4 => exact hcf _ (.head _)); (case w5 => exact fun p hp => hcf p (.tail _ hp)); k_whole); intro hC3 oF2 F' N' dF2; (try dsimp only at N'); clear hlB)
  k_with "call builtin:len" => (k_here; (have hlB := lB); clear hlB; (refine' lenVals (k := out.length) ?lN2 ?lm2 ?lS2 ?ll2 ?_; (case lN2 => k_asm); (case lm2 => k_mem); (case lS2 => exact List.size_toArray ..); (case ll2 => omega)); intro t' tk')
  k_with "pyIter ref" => ((have hlB := lB); clear hlB; (rename IsRange _ _ _ _ _ _ _ _ => hR); (with_reducible (replace hR : IsRange _ _ 1 (Nat.cast _) 1 _ _ _ := hR)); (rename Fr _ _ _ _ => lF'); (rename News _ _ _ (_ :: _) => lN'); k_dflt (refine' pyRangeAL (L := L') (by rfl) (Jf := fun b _ _ nw => nw = b) (by rfl) hR ?pa ?pb lF' lN' ?p0 ?pturn ?pdone (by passes_own)); (case pa => decide); (case pb => exact ⟨by omega, by omega⟩); (case p0 => exact rfl); clear lF' lN' hR; (case' pturn => (intro i ti h2 tk2 m₁ news₁ I o hi hJ F' ho N' off; subst hJ; (have hi1 : i + 1 < sl.length := by omega); (obtain ⟨l, hl⟩ : ∃ l, sl[i]? = some l := ⟨_, List.getElem?_eq_getElem (by omega)⟩); (obtain ⟨l2, hl2⟩ : ∃ l, sl[i + 1]? = some l := ⟨_, List.getElem?_eq_getElem hi1⟩); (have ol := hoks l (List.mem_of_getElem? hl)); (have ol2 := hoks l2 (List.mem_of_getElem? hl2)))); (case' pdone => (intro h2 tk2 m₁ news₁ F' N' hJ; subst hJ)))
  k_with "subscriptTail Name BinOp ref int" => ((have hlB := lB); clear hlB; k_here; k_dflt (refine' filedAt ?iN_s1 ?im_s1 hFB hl ?ii_s1 ?ie_s1 ?_ ?is_s1; (case iN_s1 => k_asm); (case im_s1 => k_mem); (case ii_s1 => omega); (case ie_s1 => omega); (case is_s1 => with_unfolding_all rfl); k_whole); intro T1 nT1 tT1 uT1 hT1)
  k_with "subscriptTail Name Name ref int" => ((have hlB := lB); clear hlB; k_here; k_dflt (refine' filedAt ?iN_s2 ?im_s2 hFB hl2 ?ii_s2 ?ie_s2 ?_ ?is_s2; (case iN_s2 => k_asm); (case im_s2 => k_mem); (case ii_s2 => omega); (case ie_s2 => omega); (case is_s2 => with_unfolding_all rfl); k_whole); intro T1 nT1 tT1 uT1 hT1)
  k_with "subscriptTail Name Constant ref int" => ((have hlB := lB); clear hlB; k_here; k_dflt (refine' pairAt0 ?iN_s3 ?im_s3 hT1 ?_ ?is_s3; (case iN_s3 => k_asm); (case im_s3 => exact fun p hp => by repeat (first | exact hp | refine List.Mem.tail _ ?_)); (case is_s3 => with_unfolding_all rfl); k_whole))
  k_with "call ref" => (k_here; (with_reducible show wpAny _ _ (call (Value.ref 155) _) _ _ _); k_dflt (refine' Spec.use (common_pathE l l2 ol ol2 6 (by decide) (by decide) _ rfl _ _ _ _) ?b1_c1 ?f1_c1 ?x1_c1 ?n1_c1 ?t1_c1 ?kk_c1 ?hd_c1 ?hu_c1 ?ha_c1 ?_; (case b1_c1 => k_asm); (case f1_c1 => k_asm); (case x1_c1 => k_asm); (case n1_c1 => k_asm); (case t1_c1 => k_asm); (case kk_c1 => exact rfl); (case hd_c1 => decide +kernel); (case hu_c1 => decide +kernel); (case ha_c1 => walk_at "my sub")); k_whole; rintro _ _ h' tk' F' N' lt' ⟨rfl, t', rfl⟩; (dsimp only [List.nil_append] at N'); (replace N' := newsTail N'); clear lt')
  k_with "call ref" => (k_here; (with_reducible show wpAny _ _ (call (Value.ref 249) _) _ _ _); k_dflt (refine' Spec.use (shared_pathE l l2 ol ol2 _ _) ?b1_c2 ?f1_c2 ?x1_c2 ?n1_c2 ?t1_c2 ?kk_c2 ?hd_c2 ?hu_c2 ?ha_c2 ?_; (case b1_c2 => k_asm); (case f1_c2 => k_asm); (case x1_c2 => k_asm); (case n1_c2 => k_asm); (case t1_c2 => k_asm); (case kk_c2 => exact rfl); (case hd_c2 => decide +kernel); (case hu_c2 => decide +kernel); (case ha_c2 => walk_at "my sub")); k_whole; rintro _ _ h' tk' F' N' lt' ⟨rfl, t', rfl⟩; (dsimp only [List.nil_append] at N'); clear lt')
  k_with "pyIter ref" => ((with_reducible show wpAny _ _ _ (CompAt _ _ _ _ _ _ _ _ _ _ _ _ _) _ _); (have hlB := lB); clear hlB; (fail_if_success (have := g1_1)); (rename Fr _ _ _ _ => lF'); (rename News _ _ _ (_ :: _) => lN'); k_dflt (refine' compTupB (Jf := fun b => JR (keptW sl) b) (vs := [_, _, _]) (by rfl) ?hm_1 ?hn_1 lF' lN' ?h0_1 ?hcell_1 ?hkind_1 ?hx_1 ?hsk_1 ?turn_1 ?done_1); (case hm_1 => k_mem); (case hn_1 => exact Nat.le_of_ble_eq_true rfl); (case h0_1 => exact .inl ⟨rfl, rfl, rfl⟩); (case hcell_1 => decide); (case hkind_1 => exact rfl); (case hx_1 => intro _; exact rfl); (case hsk_1 => intro _; exact rfl); clear lF' lN'; (case' turn_1 => (intro i v ys I C D oI oC m₂ h tk news₁ E' hv hJ hax hmx hoC hoI F' N' nCD nIC nID off; (refine (let G9 : Prop := _; (?_ : G9))); (rcases three_items hv with ⟨rfl, rfl⟩ | ⟨rfl, rfl⟩ | ⟨rfl, rfl⟩); (case' inl => (obtain ⟨rfl, rfl⟩ := hJ.at0)); (case' inr.inl => (obtain ⟨P1, p1, j1, rfl, rfl, r1⟩ := hJ.at1)); (case' inr.inr => (obtain ⟨P1, p1, j1, P2, p2, j2, rfl, rfl, r1, r2⟩ := hJ.at2)); all_goals ((try clear hJ); refine' tests0 ?_))); (case' done_1 => (intro DA C h tk m' ys news' F' N' off hn hC₀ hCL hCD offC hJ; (refine (let G9 : Prop := _; (?_ : G9))); (obtain ⟨D1, v1, n1, D2, v2, n2, D3, v3, n3, rfl, rfl, g1_1, g2_1, g3_1⟩ := hJ.at3); (refine' compDoneE F' N' hn hC₀ hCL (offCons hCD offC) ?hq_1); clear F' N' off hn offC hJ; (intro h' F' N'))))
  k_with "pyIter ref" => ((with_reducible show wpAny _ _ _ (CompAt _ _ _ _ _ _ _ _ _ _ _ _ _) _ _); (have hlB := g1_1); clear hlB; (rename Fr _ _ _ _ => lF'); (rename News _ _ _ (_ :: _) => lN'); k_dflt (refine' compTupB (Jf := fun b => JR (keptW sl) b) (vs := [_, _, _]) (by rfl) ?hm_2 ?hn_2 lF' lN' ?h0_2 ?hcell_2 ?hkind_2 ?hx_2 ?hsk_2 ?turn_2 ?done_2); (case hm_2 => k_mem); (case hn_2 => exact Nat.le_of_ble_eq_true rfl); (case h0_2 => exact .inl ⟨rfl, rfl, rfl⟩); (case hcell_2 => decide); (case hkind_2 => exact rfl); (case hx_2 => intro _; exact rfl); (case hsk_2 => intro _; exact rfl); clear lF' lN'; (case' turn_2 => (intro i v ys I C D oI oC m₂ h tk news₁ E' hv hJ hax hmx hoC hoI F' N' nCD nIC nID off; (refine (let G9 : Prop := _; (?_ : G9))); (rcases three_items hv with ⟨rfl, rfl⟩ | ⟨rfl, rfl⟩ | ⟨rfl, rfl⟩); (case' inl => (obtain ⟨rfl, rfl⟩ := hJ.at0)); (case' inr.inl => (obtain ⟨P1, p1, j1, rfl, rfl, r1⟩ := hJ.at1)); (case' inr.inr => (obtain ⟨P1, p1, j1, P2, p2, j2, rfl, rfl, r1, r2⟩ := hJ.at2)); all_goals ((try clear hJ); refine' tests0 ?_))); (case' done_2 => (intro DA C h tk m' ys news' F' N' off hn hC₀ hCL hCD offC hJ; (refine (let G9 : Prop := _; (?_ : G9))); (obtain ⟨D1, v1, n1, D2, v2, n2, D3, v3, n3, rfl, rfl, g1_2, g2_2, g3_2⟩ := hJ.at3); (refine' compDoneE F' N' hn hC₀ hCL (offCons hCD offC) ?hq_2); clear F' N' off hn offC hJ; (intro h' F' N'))))
  k_with "call ref" => (k_here; (with_reducible show wpAny _ _ (call (Value.ref 261) _) _ _ _); k_dflt ((first | refine' SpecF.use (kept_specW 1 _ (by decide) sl hoks hs60 B out cB tz hFB) ?b1_c4 ?f1_c4 ?x1_c4 ?n1_c4 ?t1_c4 ?kk_c4 ?hd_c4 ?hu_c4 ?ha_c4 ?_ | refine' SpecF.use (kept_specW 2 _ (by decide) sl hoks hs60 B out cB tz hFB) ?b1_c4 ?f1_c4 ?x1_c4 ?n1_c4 ?t1_c4 ?kk_c4 ?hd_c4 ?hu_c4 ?ha_c4 ?_ | refine' SpecF.use (kept_specW 3 _ (by decide) sl hoks hs60 B out cB tz hFB) ?b1_c4 ?f1_c4 ?x1_c4 ?n1_c4 ?t1_c4 ?kk_c4 ?hd_c4 ?hu_c4 ?ha_c4 ?_) ; (case b1_c4 => k_asm); (case f1_c4 => exact F'); (case x1_c4 => k_asm); (case n1_c4 => exact N'); (case t1_c4 => k_asm); (case kk_c4 => exact rfl); (case hd_c4 => decide +kernel); (case hu_c4 => decide +kernel); (case ha_c4 => refine' frzOf ?hn_c4 (subCons ?hm_c4 ?hs_c4); (case hn_c4 => exact N'); (case hm_c4 => k_mem); (case hs_c4 => exact fun p hp => by repeat (first | exact hp | refine List.Mem.tail _ ?_)))); k_whole; rintro _ _ h' tk' F' N' lt' ⟨D4, V4, k4, rfl, rfl, r4⟩ _; (have ne4 := fun p hp => lt' p hp _ (List.Mem.head _)); (dsimp only [List.cons_append, List.nil_append] at N'); clear lt')
  k_with "call ref" => (k_here; (with_reducible show wpAny _ _ (call (Value.ref 266) _) _ _ _); k_dflt ((first | refine' Spec.use (last_specW 1 _ (by decide) ls sl hokl hl60 hpm hpw Dl ws kw ts hL) ?b1_c5 ?f1_c5 ?x1_c5 ?n1_c5 ?t1_c5 ?kk_c5 ?hd_c5 ?hu_c5 ?ha_c5 ?_ | refine' Spec.use (last_specW 2 _ (by decide) ls sl hokl hl60 hpm hpw Dl ws kw ts hL) ?b1_c5 ?f1_c5 ?x1_c5 ?n1_c5 ?t1_c5 ?kk_c5 ?hd_c5 ?hu_c5 ?ha_c5 ?_ | refine' Spec.use (last_specW 3 _ (by decide) ls sl hokl hl60 hpm hpw Dl ws kw ts hL) ?b1_c5 ?f1_c5 ?x1_c5 ?n1_c5 ?t1_c5 ?kk_c5 ?hd_c5 ?hu_c5 ?ha_c5 ?_) ; (case b1_c5 => k_asm); (case f1_c5 => exact F'); (case x1_c5 => k_asm); (case n1_c5 => exact N'); (case t1_c5 => k_asm); (case kk_c5 => exact rfl); (case hd_c5 => decide +kernel); (case hu_c5 => decide +kernel); (case ha_c5 => refine' subCons ?hm_c5 ?hs_c5; (case hm_c5 => k_mem); (case hs_c5 => exact fun p hp => by (replace hp := hsub p hp); repeat (first | exact hp | refine List.Mem.tail _ ?_)))); k_whole; rintro _ _ h' tk' F' N' lt' ⟨D4, V4, k4, rfl, rfl, r4⟩; (have ne4 := fun p hp => lt' p hp _ (List.Mem.head _)); (dsimp only [List.cons_append, List.nil_append] at N'); clear lt')
  k_dflt (refine' enterT [(Str.ofString "script", .ref S)] (fun y => if y = Str.ofString "script" then some (.ref S) else none) (fun _ => none) ?kX ?kT ?kA ?kF ?k8 ?k9 ?kB ?kD ?kL ?kC ?_ ?c2 ?c3 ?c4; (case kX => assumption); (case kT => assumption); (case kA => exact rfl); (case kF => exact rfl); (case k8 => decide); (case k9 => exact BindsTo.of_eq rfl); (case kB => exact rfl); (case kD => decide +kernel); (case kL => intro _; exact rfl); (case kC => intro _; exact rfl); (case c2 => exact rfl); (case c3 => exact rfl); (case c4 => exact rfl); k_whole; intro L' h' tk' cells' F' N' Y'; k_cells Y'; (try dsimp only [List.cons_append, List.nil_append] at N'); (try dsimp only); (try k_fold))
  repeat' (first | ((fail_if_success goal_has PySem.wpAny); (try dsimp only); first | (with_reducible refine seqN ?_) | ((with_reducible refine seqE ?_); (try dsimp only)) | ((with_reducible refine seqR ?_); (try dsimp only)) | ((with_reducible refine seqC ?_); (try dsimp only)) | ((with_reducible refine seqB ?_); (try dsimp only))) | ((fail_if_success (fail_if_success k_unfold)); (try dsimp only); k_unfold; (try dsimp only)) | ((fail_if_success goal_has PySem.wpAny); show PySem.wpAny _ _ _ _ _ _; (try dsimp only)) | walk1 | (dsimp only; walk1) | fail "no step")
  all_goals try first
    | (refine' unrEnd1 (by assumption) ?eN ?eo ?er; (case eN => exact N1); (case eo => exact offF off (Ne.symm hTI)); (case er => refine ⟨trivial, _, _, _, ?_, apC hcf (Ne.symm hTC), fun p hp => List.Mem.tail _ (hsub p hp), FiledAre.snoc hFA hl⟩; (simp only [List.headD_cons]); exact apF hnz (Ne.symm hTD)))
  all_goals try first
    | (exact unrEnd1 (by assumption) (by assumption) off ⟨trivial, rfl⟩)
    | (exact endC2 (by assumption) N' ne4 off ⟨⟨.tail _ hax, trivial⟩, .inr (.inl ⟨rfl, _, _, _, rfl, rfl, r4⟩)⟩)
    | (exact endC2 (by assumption) N' ne4 off ⟨⟨.tail _ hax, trivial⟩, .inr (.inr (.inl ⟨rfl, _, _, _, _, _, _, rfl, rfl, r1, r4⟩))⟩)
    | (exact endC2 (by assumption) N' ne4 off ⟨⟨.tail _ hax, trivial⟩, .inr (.inr (.inr ⟨rfl, _, _, _, _, _, _, _, _, _, rfl, rfl, r1, r2, r4⟩))⟩)
    | (exact ret _ _ fun b o e => F'.keep b o e)
end

end Mine
theorem PySem.Challenge.cw_qw0054_01_holds : PySem.Challenge.rw_qw0054_01.Holds := by
  refine Mine.hd ?_
  k_fill
  intro w s₀ s₁ mg mb G Y fa o pm cd doc dV kV ho hd0 hcd hD hmg hg args vals as hpre hlay hrd hwl hlo
  have KX := kIn_of Y
  have X := (Ground.X G).1
  refine Ground.open G ?_
  intro T B D TE TW
  have hfa : mg (Str.ofString "law") = some (.ref 271) := mg_of KX T.g (by kernel_rfl)
  obtain rfl : fa = 271 := by
    have e := hmg.symm.trans hfa
    exact Value.ref.inj (Option.some.inj e)
  clear hmg ho hd0 hcd hD
  wrow_args hpre hlay hrd hwl hlo
  refine enter_call ?_
  rename (IntsAre _ _) => hI
  rename (Heap.IsList _ _ _) => hLs
  rename (¬ _ < _) => hcl
  obtain ⟨oS, hS, hcS, nS, hdS⟩ := hLs
  have hlen := hI.length
  refine codeAny_mono (Mine.lawTop (ExcName.means s₀.heap) mg mb _ oS _ _ nS hcS hdS hI (by omega) s₁ (fun r s' => GoodW Challenge.rw_qw0054_01.row.claim (classAt s₀.heap) (ExcName.means s₀.heap) _ s₁ r s') KX T (below_caller T.heap) hS fun h' tk hk => ?_) (fun _ _ g => GoodW.toG g)
  refine ⟨.inl ⟨.bool true, .bool true, [], rfl, fun cls => ?_, .bool true, ?_, fun _ => ⟨List.nodup_nil, fun a h => nomatch h⟩⟩, hk, rfl, hg⟩
  · rfl
  · wrow_post

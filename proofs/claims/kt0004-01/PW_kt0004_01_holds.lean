import PyProof.Rows.All
import Wide.All
import OpenK.AllK
import Wide.FinOn
import KE.BytesMake
import KE.KLcTest
import Lean
import PySem.Challenge.RW_kt0004_01
set_option Elab.async false
set_option compiler.extract_closed false
set_option linter.unusedVariables false
set_option linter.unusedSimpArgs false

section
theorem Mine.anew_Hd : True := by w_top off; first | walk1 | exact True.intro
open PySem PySem.W PyProof.Rows
namespace Mine
set_option maxRecDepth 100000
set_option maxHeartbeats 8000000
open_top hd for PySem.Challenge.rw_kt0004_01
end Mine
end

section
theorem Mine.anew_Sp : True := by w_top off; first | walk1 | exact True.intro
open PySem PySem.W PySem.Calls PyProof.Rows
set_option maxRecDepth 100000
namespace Mine

/-- what a pure call gives back: the heap has grown only, and R holds of the answer -/
def Sp (w : World) (f : Addr) (args : List Value) (R : Heap → Heap → Value → Prop) : Prop :=
  ∀ (dp un : Nat) (gd : Option (List Code)) (cn : Str) (cs : Scope) (a : Addr) (ccd : Value) (cl : List (Str × Addr)) (outer : List Env) (A₀ : Around) (base h₀ : Heap) (L : Addr) (m : Str → Option Value) (mean : ExcName → Option Value) (mg mb : Str → Option Value) (s : Shared) (Q E : Value → Shared → Prop),
    Below A₀ base outer h₀ → Fr h₀ L s.heap m → (hd.heap_39 w.params).In h₀ → Top hd.view_39 (looseW hd.view_39 [Str.ofString "escape", Str.ofString "unescape", Str.ofString "quoteattr"]) mean mg mb h₀ → cs.kind = .function →
    dp + 4 < recursionLimit → un + 64 < cLine →
    (∀ v h' tk', (∀ b o, s.heap.get? b = some o → h'.get? b = some o) → R s.heap h' v → Q v { s with heap := h', toks := tk' }) →
    wpAny (model PySem.Challenge.rw_kt0004_01.row.prog w) (ktrTop dp un gd cn cs L a ccd cl outer) (call (.ref f) args) Q E s

/-- the end of a body -/
def Fin1 (g : Heap) (s : Shared) (R : Heap → Heap → Value → Prop) (fl : Flow) (s' : Shared) : Prop :=
  ∃ L' m' v h' tk', fl = .ret v ∧ s' = { s with heap := h', toks := tk' } ∧ Fr g L' h' m' ∧ R g h' v
theorem Fin1.intro {g : Heap} {s : Shared} {R : Heap → Heap → Value → Prop} {L' : Addr} {m' : Str → Option Value} {v : Value} {h' : Heap} {tk' : Nat} (F : Fr g L' h' m') (r : R g h' v) : Fin1 g s R (.ret v) { s with heap := h', toks := tk' } :=
  ⟨L', m', v, h', tk', rfl, rfl, F, r⟩

/-- a body's claim, without cells -/
def Bd (w : World) (f : Addr) (qual : Str) (scope : Scope) (cdv : Value) (body : List Stmt) (binds : List (Str × Value)) (R : Heap → Heap → Value → Prop) : Prop :=
  ∀ (dp un : Nat) (gd : Option (List Code)) (outer : List Env) (A₀ : Around) (base g : Heap) (L : Addr) (mean : ExcName → Option Value) (mg mb : Str → Option Value) (s : Shared),
    Below A₀ base outer g → (hd.heap_39 w.params).In g → Top hd.view_39 (looseW hd.view_39 [Str.ofString "escape", Str.ofString "unescape", Str.ofString "quoteattr"]) mean mg mb g →
    Fr g L s.heap (fun y => binds.reverse.lookup y) → News g L s.heap [] → 0 < s.toks → scope.kind = .function → dp + 3 < recursionLimit → un + 61 < cLine →
    wpAny (model PySem.Challenge.rw_kt0004_01.row.prog w) (ktrTop dp un gd qual scope L f cdv [] outer) (execs body (envX qual scope L f cdv [])) (Fin1 g s R) (fun _ _ => False) s

theorem sp_plain {w : World} {f : Addr} {args : List Value} {R : Heap → Heap → Value → Prop} {name qual : Str} {params : Arguments} {body : List Stmt} {scope : Scope} {dV kV doc pm cdv ct oc : Value} {an od : Option Addr} {osl : Array (Option Value)} {binds : List (Str × Value)}
    (ho : (hd.heap_39 w.params).lookup f = some ⟨oc, od, .func (fnX name qual params body scope [] dV kV doc pm an cdv ct), osl⟩) (hcd : codeIn (hd.heap_39 w.params) cdv qual = true)
    (hbind : ∀ s : Shared, (hd.heap_39 w.params).In s.heap → BindsTo s (fnX name qual params body scope [] dV kV doc pm an cdv ct) ⟨args, []⟩ binds) (hloc : ∀ y ∈ binds, scope.names.lookup y.1 = some .local)
    (hcell : ∀ x ∈ scope.names, x.2 ≠ .cell) (hco : scope.isCoroutine = false) (hgen : scope.isGenerator = false) (hk : scope.kind = .function) (hbl : 0 < binds.length)
    (h : Bd w f qual scope cdv body binds R) : Sp w f args R := by
  intro dp un gd cn cs a ccd cl outer A₀ base h₀ L m mean mg mb s Q E B F X T hck hd hu ret
  refine wpAny_call ?_
  have Xs := X.keeps F.keep
  refine codeAny_call_def (fd := fnX name qual params body scope [] dV kV doc pm an cdv ct) (body := body) (binds := binds) (by show dp < _; omega) (Xs _ _ ho) rfl (T.nolimit.keeps F.keep) (codeRec_of Xs hcd) rfl (hbind s Xs) hcell hloc (fun h₁ hns hk₁ => ?_) hco hgen hk
  have B₁ := pushX (env := envX cn cs L a ccd cl) B F rfl hck
  have B₂ : Below (ktrTop dp un gd cn cs L a ccd cl outer) base (envX cn cs L a ccd cl :: outer) s.heap := ⟨rfl, B₁.stays, B₁.frames⟩
  refine wpAny_mono (h (dp + 1) (un + 3) gd (envX cn cs L a ccd cl :: outer) _ base s.heap s.heap.objs.size mean mg mb { s with heap := h₁, toks := s.toks + binds.length } B₂ Xs (T.keeps F.keep) ⟨hns, hk₁, Nat.le_refl _⟩ News.nil (by show 0 < s.toks + binds.length; omega) hk (by omega) (by omega)) ?_ ?_
  · rintro fl s' ⟨L', m', v, h', tk', rfl, rfl, F', r⟩
    exact ret v h' tk' F'.keep r
  · intro _ _ e; exact e.elim

/-- the same for a call that is handed objects of the caller's own -/
def SpN (w : World) (f : Addr) (args : List Value) (news : List (Addr × Obj)) (R : Heap → Heap → Value → Prop) : Prop :=
  ∀ (dp un : Nat) (gd : Option (List Code)) (cn : Str) (cs : Scope) (a : Addr) (ccd : Value) (cl : List (Str × Addr)) (outer : List Env) (A₀ : Around) (base h₀ : Heap) (L : Addr) (m : Str → Option Value) (mean : ExcName → Option Value) (mg mb : Str → Option Value) (s : Shared) (Q E : Value → Shared → Prop),
    Below A₀ base outer h₀ → Fr h₀ L s.heap m → News h₀ L s.heap news → (hd.heap_39 w.params).In h₀ → Top hd.view_39 (looseW hd.view_39 [Str.ofString "escape", Str.ofString "unescape", Str.ofString "quoteattr"]) mean mg mb h₀ → cs.kind = .function →
    dp + 4 < recursionLimit → un + 64 < cLine →
    (∀ v h' tk', (∀ b o, s.heap.get? b = some o → h'.get? b = some o) → R s.heap h' v → Q v { s with heap := h', toks := tk' }) →
    wpAny (model PySem.Challenge.rw_kt0004_01.row.prog w) (ktrTop dp un gd cn cs L a ccd cl outer) (call (.ref f) args) Q E s
def FinN (g : Heap) (s : Shared) (news : List (Addr × Obj)) (R : Value → Prop) (fl : Flow) (s' : Shared) : Prop :=
  ∃ L' m' v h' tk', fl = .ret v ∧ s' = { s with heap := h', toks := tk' } ∧ Fr g L' h' m' ∧ News g L' h' news ∧ R v
theorem FinN.intro {g : Heap} {s : Shared} {news all : List (Addr × Obj)} {R : Value → Prop} {L' : Addr} {m' : Str → Option Value} {v : Value} {h' : Heap} {tk' : Nat} (F : Fr g L' h' m') (N : News g L' h' all) (sub : ∀ p ∈ news, p ∈ all) (r : R v) : FinN g s news R (.ret v) { s with heap := h', toks := tk' } :=
  ⟨L', m', v, h', tk', rfl, rfl, F, fun p hp => N p (sub p hp), r⟩
def BdN (w : World) (f : Addr) (qual : Str) (scope : Scope) (cdv : Value) (body : List Stmt) (binds : List (Str × Value)) (news : List (Addr × Obj)) (R : Value → Prop) : Prop :=
  ∀ (dp un : Nat) (gd : Option (List Code)) (outer : List Env) (A₀ : Around) (base g : Heap) (L : Addr) (mean : ExcName → Option Value) (mg mb : Str → Option Value) (s : Shared),
    Below A₀ base outer g → (hd.heap_39 w.params).In g → Top hd.view_39 (looseW hd.view_39 [Str.ofString "escape", Str.ofString "unescape", Str.ofString "quoteattr"]) mean mg mb g →
    Fr g L s.heap (fun y => binds.reverse.lookup y) → News g L s.heap news → 0 < s.toks → scope.kind = .function → dp + 3 < recursionLimit → un + 61 < cLine →
    wpAny (model PySem.Challenge.rw_kt0004_01.row.prog w) (ktrTop dp un gd qual scope L f cdv [] outer) (execs body (envX qual scope L f cdv [])) (FinN g s news R) (fun _ _ => False) s
theorem spN_plain {w : World} {f : Addr} {args : List Value} {news : List (Addr × Obj)} {R : Value → Prop} {name qual : Str} {params : Arguments} {body : List Stmt} {scope : Scope} {dV kV doc pm cdv ct oc : Value} {an od : Option Addr} {osl : Array (Option Value)} {binds : List (Str × Value)}
    (ho : (hd.heap_39 w.params).lookup f = some ⟨oc, od, .func (fnX name qual params body scope [] dV kV doc pm an cdv ct), osl⟩) (hcd : codeIn (hd.heap_39 w.params) cdv qual = true)
    (hbind : ∀ s : Shared, (hd.heap_39 w.params).In s.heap → BindsTo s (fnX name qual params body scope [] dV kV doc pm an cdv ct) ⟨args, []⟩ binds) (hloc : ∀ y ∈ binds, scope.names.lookup y.1 = some .local)
    (hcell : ∀ x ∈ scope.names, x.2 ≠ .cell) (hco : scope.isCoroutine = false) (hgen : scope.isGenerator = false) (hk : scope.kind = .function) (hbl : 0 < binds.length)
    (h : BdN w f qual scope cdv body binds news R) : SpN w f args news (fun _ _ v => R v) := by
  intro dp un gd cn cs a ccd cl outer A₀ base h₀ L m mean mg mb s Q E B F N X T hck hd hu ret
  refine wpAny_call ?_
  have Xs := X.keeps F.keep
  obtain ⟨FG, BG, st, -⟩ := groundX (R := fun _ _ => True) (A := ktrTop dp un gd cn cs L a ccd cl outer) (env := envX cn cs L a ccd cl) B F N rfl rfl hck
  have st' : ∀ b o, h₀.get? b = some o → (hideAll s.heap (news.map (·.1))).get? b = some o := fun b o e => st b o e
  refine codeAny_call_def (fd := fnX name qual params body scope [] dV kV doc pm an cdv ct) (body := body) (binds := binds) (by show dp < _; omega) (Xs _ _ ho) rfl (T.nolimit.keeps F.keep) (codeRec_of Xs hcd) rfl (hbind s Xs) hcell hloc (fun h₁ hns hk₁ => ?_) hco hgen hk
  refine wpAny_mono (h (dp + 1) (un + 3) gd (envX cn cs L a ccd cl :: outer) _ base (hideAll s.heap (news.map (·.1))) s.heap.objs.size mean mg mb { s with heap := h₁, toks := s.toks + binds.length } BG (X.keeps st') (T.keeps st') ⟨hns, fun b o e => hk₁ b o (of_hideAll _ e), Nat.le_of_eq (hideAll_size _ _)⟩
    (fun p hp => ⟨hk₁ _ _ (N p hp).1, Nat.ne_of_lt (Heap.lt_size (N p hp).1), hideAll_none _ (List.mem_map_of_mem hp)⟩) (by show 0 < s.toks + binds.length; omega) hk (by omega) (by omega)) ?_ ?_
  · rintro fl s' ⟨L', m', v, h', tk', rfl, rfl, F', N', r⟩
    refine ret v h' tk' (fun b o e => ?_) r
    by_cases hb : b ∈ news.map (·.1)
    · obtain ⟨p, hp, rfl⟩ := List.mem_map.mp hb
      have e1 := (N p hp).1
      rw [e] at e1; cases e1
      exact (N' p hp).1
    · exact F'.keep b o (hideAll_get _ e hb)
  · intro _ _ e; exact e.elim

/-- the tokens are positive, then -/
def PosThen (s : Shared) (p : Prop) : Prop := 0 < s.toks → p
theorem PosThen.mk {s : Shared} {p : Prop} (h : 0 < s.toks → p) : PosThen s p := h
theorem execs_pos {M : Model} {A : Around} {E : Value → Shared → Prop} {env : Env} {st : Stmt} {rest : List Stmt} {Q : Flow → Shared → Prop} {hp : Heap} {gs : Array GenState} {d : Drawn} {tk0 : Nat} {o : OsState} (h0 : 0 < tk0)
    (h : ∀ tk, 0 < tk → wpAny M A (exec st env) (fun f s' => PosThen s' (match f with | .next => wpAny M A (execs rest env) Q E s' | f => Q f s')) E ⟨hp, gs, d, tk, o⟩) : wpAny M A (execs (st :: rest) env) Q E ⟨hp, gs, d, tk0, o⟩ := by
  refine wpAny_execs_cons (wpAny_mono (wpAny_toks_of (n := 1) h0 (h tk0 h0)) (fun f s' x => ?_) fun _ _ x => x.2)
  exact x.2 x.1

/-- a body's claim, with cells -/
def BdC (w : World) (f : Addr) (qual : Str) (scope : Scope) (cdv : Value) (body : List Stmt) (binds : List (Str × Value)) (R : Heap → Heap → Value → Prop) : Prop :=
  ∀ (dp un : Nat) (gd : Option (List Code)) (outer : List Env) (A₀ : Around) (base g : Heap) (L : Addr) (cells : List (Addr × Obj)) (mean : ExcName → Option Value) (mg mb : Str → Option Value) (s : Shared),
    Below A₀ base outer g → (hd.heap_39 w.params).In g → Top hd.view_39 (looseW hd.view_39 [Str.ofString "escape", Str.ofString "unescape", Str.ofString "quoteattr"]) mean mg mb g →
    Fr g L s.heap (bindL (envOfC qual scope L f cdv).kindOf binds fun _ => none) → News g L s.heap cells →
    CellsAre (bindC (envOfC qual scope L f cdv).kindOf binds fun _ => none) (cellsFrom (L + 1) scope.names []) cells → scope.kind = .function → dp + 3 < recursionLimit → un + 61 < cLine →
    wpAny (model PySem.Challenge.rw_kt0004_01.row.prog w) (ktrTop dp un gd qual scope L f cdv (cellsFrom (L + 1) scope.names []) outer) (execs body (envX qual scope L f cdv (cellsFrom (L + 1) scope.names []))) (Fin1 g s R) (fun _ _ => False) s

theorem sp_cells {w : World} {f : Addr} {args : List Value} {R : Heap → Heap → Value → Prop} {name qual : Str} {params : Arguments} {body : List Stmt} {scope : Scope} {dV kV doc pm cdv ct oc : Value} {an od : Option Addr} {osl : Array (Option Value)} {binds : List (Str × Value)}
    (ho : (hd.heap_39 w.params).lookup f = some ⟨oc, od, .func (fnX name qual params body scope [] dV kV doc pm an cdv ct), osl⟩) (hcd : codeIn (hd.heap_39 w.params) cdv qual = true)
    (hbind : ∀ s : Shared, (hd.heap_39 w.params).In s.heap → BindsTo s (fnX name qual params body scope [] dV kV doc pm an cdv ct) ⟨args, []⟩ binds)
    (hkind : (binds.all fun y => scope.names.lookup y.1 == some .local || scope.names.lookup y.1 == some .cell) = true)
    (hnd : ((cellsFrom 0 scope.names []).map (·.1)).Nodup) (hco : scope.isCoroutine = false) (hgen : scope.isGenerator = false) (hk : scope.kind = .function)
    (h : BdC w f qual scope cdv body binds R) : Sp w f args R := by
  intro dp un gd cn cs a ccd cl outer A₀ base h₀ L m mean mg mb s Q E B F X T hck hd hu ret
  refine wpAny_call ?_
  have Xs := X.keeps F.keep
  have B₁ := pushX (env := envX cn cs L a ccd cl) B F rfl hck
  have B₂ : Below (ktrTop dp un gd cn cs L a ccd cl outer) base (envX cn cs L a ccd cl :: outer) s.heap := ⟨rfl, B₁.stays, B₁.frames⟩
  refine codeAny_call_function (by show dp < _; omega) (Xs _ _ ho) rfl hco hgen rfl (codeRec_of Xs hcd) ((hbind s Xs) _ _ _ _ ?_)
  refine wpAny_newFunctionEnv_cells hk (kindsX hkind _) fun env' he s' x => ?_
  subst he
  refine ⟨(T.nolimit.keeps F.keep).keeps x.toInCall.keep, codeAny_func ?_⟩
  obtain ⟨h₁, tk, rfl, _⟩ := x.done
  have hk₁ := x.toInCall.keep
  obtain ⟨cells, NC, Y⟩ := Cl.news (h₀ := s.heap) (Nat.le_refl _) fun n c hm => ⟨x.cell n c (lookup_of_mem_nodup (cellsFrom_names scope.names 0 (s.heap.objs.size + 1) [] [] rfl ▸ hnd) hm), x.above n c hm⟩
  refine wpAny_mono (h (dp + 1) (un + 3) gd (envX cn cs L a ccd cl :: outer) _ base s.heap s.heap.objs.size cells mean mg mb { s with heap := h₁, toks := tk } B₂ Xs (T.keeps F.keep) ⟨x.toInCall.ns, hk₁, Nat.le_refl _⟩ NC Y hk (by omega) (by omega)) ?_ ?_
  · rintro fl s' ⟨L', m', v, h', tk', rfl, rfl, F', r⟩
    exact ret v h' tk' F'.keep r
  · intro _ _ e; exact e.elim
end Mine
end

section
theorem Mine.anew_Cm : True := by w_top off; first | walk1 | exact True.intro
open PySem PySem.W PySem.Calls PyProof.Rows PySem.Spec
set_option maxRecDepth 100000
namespace Mine

def SrcW (prog : Program) (w : World) (A : Around) (h₀ : Heap) (L : Addr) (m : Str → Option Value) (env : Env) (elt : Expr) (x : Str) (scope : Scope) (cl : List (Str × Addr)) (Fin : Shared → List Value → List (Addr × Obj) → Prop) (xv : Value) (s₁ : Shared) : Prop :=
  ∀ E : Value → Shared → Prop, wpAny (model prog w) A (pyIter xv) (fun it s₂ => ∃ (I : Addr) (fp : List Addr) (n : Nat) (P : Nat → Value → Prop) (St : Nat → Heap → Prop) (S : List (Addr × Obj) → Prop) (news : List (Addr × Obj)), it = .ref I ∧ Walks prog w A I fp [I] n P St ∧ n ≤ sizeLine ∧ (∀ i h, St i h → ∃ o, h.get? I = some o) ∧
    (∀ i h h' o nw, St i h → h.get? I = some o → h'.get? I = some o → (∀ b o, h₀.get? b = some o → h'.get? b = some o) → News h₀ L h' nw → S nw → St i h') ∧ St 0 s₂.heap ∧ (∀ b ∈ fp, b < s₂.heap.objs.size) ∧ Fr h₀ L s₂.heap m ∧ News h₀ L s₂.heap news ∧ L ≠ I ∧ h₀.get? I = none ∧ (∀ p ∈ news, p.1 ≠ I) ∧ S news ∧
    LCg.CompRest prog w A h₀ L m env elt x scope cl s₂ S P (Fin s₂) n 0 [] news) E s₁

section
variable {prog : Program} {w : World} {A : Around} {E : Value → Shared → Prop} {s : Shared} {h₀ : Heap} {L : Addr} {m : Str → Option Value} {env : Env}

theorem ListComp_W {elt iter : Expr} {x : Str} {px : Pos} {scope : Scope} {cl : List (Str × Addr)} {pos : Pos} {Q : Value → Shared → Prop} (F₀ : Fr h₀ L s.heap m)
    (hclos : closureFor scope env = pure cl) (hcell : ∀ y ∈ scope.names, y.2 ≠ .cell) (hkind : scope.kind = .function)
    (hnames : ∀ y ∈ scope.names, y.2 = .local → scope.names.lookup y.1 = some .local) (hx : scope.names.lookup x = some .local)
    (h : wpAny (model prog w) A (eval iter env) (SrcW prog w A h₀ L m env elt x scope cl (fun s₂ => LCg.FinE h₀ L m s₂ Q)) E s)
    (hs : ∀ x, foldedSetIterable iter env x = pure x := by intro _; rfl) :
    wpAny (model prog w) A (eval (.ListComp elt [⟨.Name x px, iter, [], 0⟩] scope pos) env) Q E s := by
  rw [eval_ListComp]
  refine wpAny_comprehension_free (use := none) rfl hs hclos hkind hnames (wpAny_mono h (fun xv s₁ h₁ => ?_) fun _ _ e => e)
  refine wpAny_mono (h₁ _) (fun it s₂ h₂ => ?_) fun _ _ e => e
  obtain ⟨I, fp, n, P, St, S, news, rfl, W, hsz, hIo, hSt, st0, hfp, F, N, hIL, hI₀, off, hS, R⟩ := h₂
  refine LCg.block_U W hsz hIo hSt hcell hkind hx st0 hfp F N hIL hI₀ off hS R ?_
  intro D C h tk m' ys news' F' N' o1 hn hC₀ hD₀ hCL hDL hCD offC fin
  refine ⟨m', hn, fun h'' hs'' => fin D h'' tk (F'.change hs'' hCL hC₀) (fun p hp => ?_) o1⟩
  refine ⟨hs''.extBut _ _ ?_ (N' p hp).1, (N' p hp).2⟩
  rcases List.mem_cons.mp hp with rfl | hp
  · exact Ne.symm hCD
  · exact offC p hp

theorem Assign_ListComp_W {elt iter : Expr} {x y : Str} {px py : Pos} {scope : Scope} {cl : List (Str × Addr)} {pos spos : Pos} {Q : Flow → Shared → Prop} (F₀ : Fr h₀ L s.heap m) (hLe : env.locals = L)
    (hsw : swapsWith (.ListComp elt [⟨.Name x px, iter, [], 0⟩] scope pos) (some (.Name y py)) spos.line env = pure true)
    (hclos : closureFor scope env = pure cl) (hcell : ∀ z ∈ scope.names, z.2 ≠ .cell) (hkind : scope.kind = .function)
    (hnames : ∀ z ∈ scope.names, z.2 = .local → scope.names.lookup z.1 = some .local) (hx : scope.names.lookup x = some .local)
    (hy : env.kindOf y = some .local) (hp : (env.scope.kind == .class || (env.scope.kind == .module && env.locals != env.globals)) = false)
    (h : wpAny (model prog w) A (eval iter env) (SrcW prog w A h₀ L m env elt x scope cl (fun s₂ => LCg.FinA h₀ L m s₂ y Q)) E s)
    (hs : ∀ x, foldedSetIterable iter env x = pure x := by intro _; rfl) :
    wpAny (model prog w) A (exec (.Assign [.Name y py] (.ListComp elt [⟨.Name x px, iter, [], 0⟩] scope pos) spos) env) Q E s := by
  subst hLe
  rw [exec_Assign_Name_used _ _ _ _ hsw]
  refine wpAny_bind (wpAny_standAt (wpAny_bind ?_))
  show wpAny _ A (do let _ ← comprehension (.ListComp elt [⟨.Name x px, iter, [], 0⟩] scope pos) scope env _ (newList []) false (eval iter env) (some (assign (.Name y py) env))) _ _ s
  refine wpAny_bind (wpAny_mono (wpAny_comprehension_free (use := some (assign (.Name y py) env)) (Q := fun _ s' => Q .next s') rfl hs hclos hkind hnames
    (wpAny_mono h (fun xv s₁ h₁ => ?_) fun _ _ e => e)) (fun _ s' hq => wpAny_pure (wpAny_pure hq)) fun _ _ e => e)
  refine wpAny_mono (h₁ _) (fun it s₂ h₂ => ?_) fun _ _ e => e
  obtain ⟨I, fp, n, P, St, S, news, rfl, W, hsz, hIo, hSt, st0, hfp, F, N, hIL, hI₀, off, hS, R⟩ := h₂
  refine LCg.block_U W hsz hIo hSt hcell hkind hx st0 hfp F N hIL hI₀ off hS R ?_
  intro D C h' tk m' ys news' F' N' o1 hn hC₀ hD₀ hCL hDL hCD offC fin
  show wpAny _ A (assign (.Name y py) env (.ref D)) _ _ _
  refine wpAny_assign_Name (wpAny_storeName_local hy F'.ns (fun h₂ hn₂ hs₂ => ?_) hp)
  have hL₀ : h₀.get? env.locals = none := Heap.get?_none_of_le F'.above
  have F₂ : Fr h₀ env.locals h₂ (fun z => if z = y then some (.ref D) else m z) := ⟨hn₂, fun b o e => hs₂.extBut b o (fun q => by rw [q, hL₀] at e; cases e) (F'.keep b o e), F'.above⟩
  refine ⟨m', hn.sameBut hs₂ hCL, fun h'' hs'' => fin D h'' _ (F₂.change hs'' hCL hC₀) (fun p hp => ?_) o1⟩
  have z : h₂.get? p.1 = some p.2 := hs₂.extBut _ _ (N' p hp).2.1 (N' p hp).1
  refine ⟨hs''.extBut _ _ ?_ z, (N' p hp).2⟩
  rcases List.mem_cons.mp hp with rfl | hp
  · exact Ne.symm hCD
  · exact offC p hp

/-- the end of an element: the ledger stands as it stood -/
def CE (h₀ : Heap) (L : Addr) (m : Str → Option Value) (s₁ : Shared) (led : List (Addr × Obj)) (G : Value → Prop) (y : Value) (s₂ : Shared) : Prop :=
  ∃ h' tk, s₂ = { s₁ with heap := h', toks := tk } ∧ Fr h₀ L h' m ∧ News h₀ L h' led ∧ G y
theorem CE.intro {led all : List (Addr × Obj)} {G : Value → Prop} {y : Value} {h' : Heap} {tk : Nat} (F : Fr h₀ L h' m) (N : News h₀ L h' all) (sub : ∀ p ∈ led, p ∈ all) (g : G y) : CE h₀ L m s led G y { s with heap := h', toks := tk } :=
  ⟨h', tk, rfl, F, fun p hp => N p (sub p hp), g⟩

theorem rest_pure {elt : Expr} {x : Str} {scope : Scope} {cl : List (Str × Addr)} {S : List (Addr × Obj) → Prop} {P : Nat → Value → Prop} {Fin : List Value → List (Addr × Obj) → Prop} {n : Nat} {news : List (Addr × Obj)} (G : Nat → Value → Prop) (hS : S news)
    (turn : ∀ i v I oI C oC D m₂ ys h tk, i < n → P i v → LCg.NsObj oC m₂ → m₂ x = some v → Fr h₀ L h m → News h₀ L h ((I, oI) :: (C, oC) :: (D, LCg.lst ys) :: news) → LCg.Off3 I C D news → ((@Ne Nat I C) ∧ (@Ne Nat I D) ∧ (@Ne Nat C D)) →
      wpAny (model prog w) A (eval elt (compEnvC scope cl C env)) (CE h₀ L m { s with heap := h, toks := tk } ((I, oI) :: (C, oC) :: (D, LCg.lst ys) :: news) (G i)) (fun _ _ => False) { s with heap := h, toks := tk })
    (fin : ∀ ys, ys.length = n → (∀ i y, ys[i]? = some y → G i y) → Fin ys news) : LCg.CompRest prog w A h₀ L m env elt x scope cl s S P Fin n 0 [] news := by
  have key : ∀ (j i : Nat) (ys : List Value), i + j = n → ys.length = i → (∀ i y, ys[i]? = some y → G i y) → LCg.CompRest prog w A h₀ L m env elt x scope cl s S P Fin j i ys news := by
    intro j
    induction j with
    | zero =>
      intro i ys hi hy hg
      exact LCg.CompRest.zero (fin ys (by omega) hg)
    | succ j ih =>
      intro i ys hi hy hg
      refine LCg.CompRest.succ ?_
      intro v I oI C oC D m₂ h tk E' hv hC hx F N off ne
      refine wpAny_mono (turn i v I oI C oC D m₂ ys h tk (by omega) hv hC hx F N off ne) (fun y s₂ hq => ?_) fun _ _ e => e.elim
      obtain ⟨h', tk', e, F', N', hy'⟩ := hq
      refine ⟨h', tk', news, e, F', N', off, hS, ?_⟩
      refine ih (i + 1) _ (by omega) (by simp [hy]) ?_
      intro k z hz
      by_cases hk : k < ys.length
      · rw [List.getElem?_append_left hk] at hz
        exact hg k z hz
      · rw [List.getElem?_append_right (by omega)] at hz
        have hk0 : k - ys.length = 0 := by
          cases hq : k - ys.length with
          | zero => rfl
          | succ q => rw [hq] at hz; cases hz
        rw [hk0] at hz
        cases hz
        have : k = i := by omega
        rw [this]; exact hy'
  exact key n 0 [] (by omega) rfl (by intro i y h; cases h)

theorem src_str {elt : Expr} {x : Str} {scope : Scope} {cl : List (Str × Addr)} {Fin : Shared → List Value → List (Addr × Obj) → Prop} {xt : Str} {t : Tok} {news : List (Addr × Obj)} {s₁ : Shared}
    (hh : A.handled = none) (F : Fr h₀ L s₁.heap m) (N : News h₀ L s₁.heap news) (hsz : xt.cps.size ≤ sizeLine)
    (h : ∀ g, LCg.CompRest prog w A h₀ L m env elt x scope cl { s₁ with heap := g } (fun _ => True) (SignAt xt) (Fin { s₁ with heap := g }) xt.cps.size 0 [] news) :
    SrcW prog w A h₀ L m env elt x scope cl Fin (.str xt t) s₁ := by
  intro E
  have up : ∀ (o : Obj) b ob, s₁.heap.get? b = some ob → (s₁.heap.push o).get? b = some ob := fun o b ob e => Heap.get?_push_of_some _ e
  have fpl : ∀ (o : Obj), ∀ b ∈ [s₁.heap.objs.size], b < (s₁.heap.push o).objs.size := fun o b hb => by
    rw [List.mem_singleton.mp hb, Heap.size_push]; exact Nat.lt_succ_self _
  cases ha : xt.cps.all (· < 128)
  · refine wpAny_pyIter_wide ha ?_
    refine ⟨_, _, _, _, _, fun _ => True, news, rfl, Walks.strWide hh _ xt t, hsz, ?_, ?_, ⟨_, Heap.get?_push_size _ rfl, rfl, rfl⟩, fpl _, F.keeps (up _), N.grown (up _), Nat.ne_of_lt F.ns.lt, next_is_new F, (fun p hp => Nat.ne_of_lt (Heap.lt_size (N p hp).1)), trivial, h _⟩
    · rintro i h ⟨o, e, _⟩; exact ⟨o, e⟩
    · rintro i h h' o nw ⟨o', e', r⟩ e1 e2 _ _ _
      rw [e1] at e'; cases e'; exact ⟨_, e2, r⟩
  · refine wpAny_pyIter_ascii ha ?_
    refine ⟨_, _, _, _, _, fun _ => True, news, rfl, Walks.strAscii hh _ xt t, hsz, ?_, ?_, ⟨_, Heap.get?_push_size _ rfl, rfl, rfl⟩, fpl _, F.keeps (up _), N.grown (up _), Nat.ne_of_lt F.ns.lt, next_is_new F, (fun p hp => Nat.ne_of_lt (Heap.lt_size (N p hp).1)), trivial, h _⟩
    · rintro i h ⟨o, e, _⟩; exact ⟨o, e⟩
    · rintro i h h' o nw ⟨o', e', r⟩ e1 e2 _ _ _
      rw [e1] at e'; cases e'; exact ⟨_, e2, r⟩

theorem src_bytes {elt : Expr} {x : Str} {scope : Scope} {cl : List (Str × Addr)} {Fin : Shared → List Value → List (Addr × Obj) → Prop} {b : Array UInt8} {t : Tok} {news : List (Addr × Obj)} {s₁ : Shared}
    (hh : A.handled = none) (F : Fr h₀ L s₁.heap m) (N : News h₀ L s₁.heap news) (hsz : b.size ≤ sizeLine)
    (h : ∀ g, LCg.CompRest prog w A h₀ L m env elt x scope cl { s₁ with heap := g } (fun _ => True) (fun i v => ∃ n u, b[i]? = some n ∧ v = .int (n.toNat : Int) u) (Fin { s₁ with heap := g }) b.size 0 [] news) :
    SrcW prog w A h₀ L m env elt x scope cl Fin (.bytes b t) s₁ := by
  intro E
  have up : ∀ (o : Obj) b ob, s₁.heap.get? b = some ob → (s₁.heap.push o).get? b = some ob := fun o b ob e => Heap.get?_push_of_some _ e
  have fpl : ∀ (o : Obj), ∀ b ∈ [s₁.heap.objs.size], b < (s₁.heap.push o).objs.size := fun o b hb => by
    rw [List.mem_singleton.mp hb, Heap.size_push]; exact Nat.lt_succ_self _
  refine KBw.pyIter_bytes ?_
  refine ⟨_, _, _, _, _, fun _ => True, news, rfl, KBw.walks (prog := prog) (w := w) hh s₁.heap.objs.size b t, hsz, ?_, ?_, ⟨_, Heap.get?_push_size _ rfl, rfl, rfl⟩, fpl _, F.keeps (up _), N.grown (up _), Nat.ne_of_lt F.ns.lt, next_is_new F, (fun p hp => Nat.ne_of_lt (Heap.lt_size (N p hp).1)), trivial, h _⟩
  · rintro i h ⟨o, e, _⟩; exact ⟨o, e⟩
  · rintro i h h' o nw ⟨o', e', r⟩ e1 e2 _ _ _
    rw [e1] at e'; cases e'; exact ⟨_, e2, r⟩

theorem src_ledger {elt : Expr} {x : Str} {scope : Scope} {cl : List (Str × Addr)} {Fin : Shared → List Value → List (Addr × Obj) → Prop} {ax : Addr} {its : Array Value} {news : List (Addr × Obj)} {s₁ : Shared}
    (hh : A.handled = none) (F : Fr h₀ L s₁.heap m) (N : News h₀ L s₁.heap news) (hm : LCg.SrcAt h₀ ax its news) (hsz : its.size ≤ sizeLine)
    (h : ∀ g, LCg.CompRest prog w A h₀ L m env elt x scope cl { s₁ with heap := g } (LCg.SrcAt h₀ ax its) (fun i v => its[i]? = some v) (Fin { s₁ with heap := g }) its.size 0 [] news) :
    SrcW prog w A h₀ L m env elt x scope cl Fin (.ref ax) s₁ := by
  intro E
  have hl := hm.list F.keep N
  have hlt : ax < s₁.heap.objs.size := by obtain ⟨_, e, _⟩ := hl; exact Heap.lt_size e
  refine wpAny_pyIter_list hl ?_
  have up : ∀ b o, s₁.heap.get? b = some o → (s₁.heap.push { cls := .type "list_iterator", data := .fields #[.ref ax, .int 0 0] }).get? b = some o := fun b o e => Heap.get?_push_of_some _ e
  refine ⟨_, _, _, _, _, LCg.SrcAt h₀ ax its, news, rfl, Walks.list hh s₁.heap.objs.size ax (Nat.ne_of_lt hlt) its, hsz, (fun i h st => by obtain ⟨o, e, _⟩ := st.1; exact ⟨o, e⟩), LCg.list_st, ⟨⟨_, Heap.get?_push_size _ rfl, rfl, rfl⟩, hl.push _⟩, ?_, F.keeps up, N.grown up, Nat.ne_of_lt F.ns.lt, next_is_new F, (fun p hp => Nat.ne_of_lt (Heap.lt_size (N p hp).1)), hm, h _⟩
  intro b hb
  show b < (s₁.heap.push _).objs.size
  rw [Heap.size_push]
  rcases List.mem_cons.mp hb with rfl | hb
  · exact Nat.lt_succ_self _
  · rw [List.mem_singleton.mp hb]; exact Nat.lt_succ_of_lt hlt
end
end Mine
end

section
theorem Mine.anew_Fn : True := by w_top off; first | walk1 | exact True.intro
open PySem PySem.W PySem.Calls PyProof.Rows PySem.Builtin.Str
namespace Mine

/-- replacing on lists: k items are still to be skipped -/
def rep (y z : List Nat) : Nat → List Nat → List Nat
  | _, [] => []
  | k + 1, _ :: r => rep y z k r
  | 0, c :: r => if (c :: r).take y.length = y then z ++ rep y z (y.length - 1) r else c :: rep y z 0 r

theorem rep_nil (y z : List Nat) (k : Nat) : rep y z k [] = [] := by cases k <;> rfl
theorem rep_skip (y z : List Nat) : ∀ (k : Nat) (l : List Nat), rep y z k l = rep y z 0 (l.drop k)
  | 0, _ => rfl
  | k + 1, [] => by rw [rep_nil, List.drop_nil, rep_nil]
  | k + 1, _ :: r => rep_skip y z k r

theorem rep_at {y z l : List Nat} (hy : 1 ≤ y.length) (h : l.take y.length = y) : rep y z 0 l = z ++ rep y z 0 (l.drop y.length) := by
  cases l with
  | nil => simp at h; rw [h] at hy; simp at hy
  | cons c r =>
    show (if (c :: r).take y.length = y then z ++ rep y z (y.length - 1) r else c :: rep y z 0 r) = _
    rw [if_pos h, rep_skip]
    have : y.length = (y.length - 1) + 1 := by omega
    rw [this, List.drop_succ_cons]
    simp
theorem rep_off {y z : List Nat} {c : Nat} {r : List Nat} (h : ¬ (c :: r).take y.length = y) : rep y z 0 (c :: r) = c :: rep y z 0 r := by
  show (if (c :: r).take y.length = y then z ++ rep y z (y.length - 1) r else c :: rep y z 0 r) = _
  rw [if_neg h]

theorem rep_none {y z : List Nat} : ∀ {l : List Nat}, (∀ k, k < l.length → ¬ (l.drop k).take y.length = y) → rep y z 0 l = l
  | [], _ => rfl
  | c :: r, h => by
    rw [rep_off (h 0 (by simp)), rep_none (l := r)]
    intro k hk
    exact h (k + 1) (by simpa using hk)

theorem rep_run {y z : List Nat} : ∀ (n : Nat) {l : List Nat}, n ≤ l.length → (∀ k, k < n → ¬ (l.drop k).take y.length = y) → rep y z 0 l = l.take n ++ rep y z 0 (l.drop n)
  | 0, _, _, _ => by simp
  | n + 1, [], hn, _ => by simp at hn
  | n + 1, c :: r, hn, h => by
    rw [rep_off (h 0 (by omega)), rep_run n (l := r) (by simpa using hn) (fun k hk => h (k + 1) (by omega))]
    simp

theorem rep_chain (x y z : Str) (hy : 1 ≤ y.length) : ∀ (cuts : List Nat) (a f : Nat), a ≤ x.length → StrLaws.ChainG x y x.length a cuts f → (∀ k, f ≤ k → ¬ StrLaws.At x y x.length k) →
    (Str.join z (StrLaws.partsFrom x y.length a cuts)).cps.toList = rep y.cps.toList z.cps.toList 0 (x.cps.toList.drop a)
  | [], a, f, ha, h, hn => by
    have e : f = a := h
    subst e
    have hl : x.cps.toList.length = x.length := by simp [Str.length]
    show (strSub x f x.length).cps.toList = _
    rw [StrLaws.strSub_toList, rep_none]
    · rw [List.take_of_length_le]
      simp [Str.length]
    · intro k hk hm
      have hle : y.cps.toList.length = y.length := by simp [Str.length]
      refine hn (f + k) (by omega) ⟨?_, ?_⟩
      · have := congrArg List.length hm
        rw [hle] at this
        simp only [List.length_take, List.length_drop] at this
        omega
      · rw [StrLaws.subAt_eq, beq_iff_eq, ← List.drop_drop, ← hle]; exact hm
  | c :: r, a, f, ha, h, hn => by
    have hl : x.cps.toList.length = x.length := by simp [Str.length]
    have hle : y.cps.toList.length = y.length := by simp [Str.length]
    obtain ⟨hac, hA, hno, hr⟩ := h
    have ih := rep_chain x y z hy r (c + y.length) f hA.1 hr hn
    obtain ⟨p, q, hpq⟩ := StrLaws.partsFrom_ne x y.length (c + y.length) r
    have e1 : (Str.join z (StrLaws.partsFrom x y.length a (c :: r))).cps.toList = (strSub x a c).cps.toList ++ z.cps.toList ++ (Str.join z (StrLaws.partsFrom x y.length (c + y.length) r)).cps.toList := by
      show (Str.join z (strSub x a c :: StrLaws.partsFrom x y.length (c + y.length) r)).cps.toList = _
      rw [hpq]
      show (strSub x a c ++ z ++ Str.join z (p :: q)).cps.toList = _
      simp [Str.cps_append]
    rw [e1, ih, StrLaws.strSub_toList]
    have hAm : ((x.cps.toList.drop c).take y.cps.toList.length) = y.cps.toList := by
      have := hA.2
      rw [StrLaws.subAt_eq, beq_iff_eq] at this
      rw [hle]; exact this
    have hA1 := hA.1
    rw [rep_run (c - a) (l := x.cps.toList.drop a)]
    · rw [List.drop_drop, show a + (c - a) = c by omega, rep_at (l := x.cps.toList.drop c) (by omega) hAm, List.drop_drop, hle, List.append_assoc]
    · simp only [List.length_drop]; omega
    · intro k hk hm
      refine hno (a + k) (by omega) (by omega) ⟨by omega, ?_⟩
      rw [StrLaws.subAt_eq, beq_iff_eq, ← List.drop_drop, ← hle]; exact hm

theorem replace_rep (x y z : Str) (hy : 1 ≤ y.length) : (Txt.replace x y z).cps.toList = rep y.cps.toList z.cps.toList 0 x.cps.toList := by
  obtain ⟨f, hG, hn⟩ := StrLaws.occ_tight x y hy
  have h := rep_chain x y z hy _ 0 f (Nat.zero_le _) hG hn
  have hyl : (y.length == 0) = false := by simp; omega
  unfold Txt.replace
  rw [hyl, Bool.false_and, Bool.or_false]
  cases ho : occurrences x y 0 x.length (x.length + 1) with
  | nil =>
    rw [ho] at h
    simp only [List.isEmpty_nil, if_true]
    rw [List.drop_zero] at h
    rw [← h]
    show x.cps.toList = (strSub x 0 x.length).cps.toList
    rw [StrLaws.strSub_toList, List.drop_zero, List.take_of_length_le]
    simp [Str.length]
  | cons i r =>
    rw [ho] at h
    simp only [List.isEmpty_cons, Bool.false_eq_true, if_false]
    rw [StrLaws.glued_eq_join, StrLaws.partsBetween_eq, h, List.drop_zero]

/-- one sign by a text -/
theorem rep_one (c : Nat) (z : List Nat) : ∀ l : List Nat, rep [c] z 0 l = l.flatMap fun d => if d = c then z else [d]
  | [] => rfl
  | d :: r => by
    rw [List.flatMap_cons, ← rep_one c z r]
    by_cases h : d = c
    · subst h
      rw [rep_at (by simp) (by simp), if_pos rfl]; simp
    · rw [rep_off (by simpa using h), if_neg h]; rfl

abbrev rAmp : List Nat := [38, 97, 109, 112, 59]
abbrev rLt : List Nat := [38, 108, 116, 59]
abbrev rGt : List Nat := [38, 103, 116, 59]
abbrev rQuot : List Nat := [38, 113, 117, 111, 116, 59]
/-- what is written of a sign; q: the mark is the quotation mark -/
def esc (q : Bool) (c : Nat) : List Nat := if c = 38 then rAmp else if c = 60 then rLt else if c = 62 then rGt else if c = 34 then (if q then rQuot else [34]) else [c]
/-- the mark is the quotation mark -/
def mq (l : List Nat) : Bool := !(l.contains 34 && !l.contains 39)
def mk (l : List Nat) : Nat := if mq l then 34 else 39
def wr (l : List Nat) : List Nat := mk l :: (l.flatMap (esc (mq l)) ++ [mk l])
def S (l : List Nat) : Str := ⟨l.toArray⟩

theorem esc_len (q : Bool) (c : Nat) : 1 ≤ (esc q c).length ∧ (esc q c).length ≤ 6 := by
  unfold esc
  repeat' split
  all_goals simp
theorem flat_len (q : Bool) : ∀ l : List Nat, l.length ≤ (l.flatMap (esc q)).length ∧ (l.flatMap (esc q)).length ≤ 6 * l.length
  | [] => by simp
  | c :: r => by
    have h := flat_len q r
    have h1 := esc_len q c
    simp only [List.flatMap_cons, List.length_append, List.length_cons]
    omega
theorem wr_len (l : List Nat) : l.length + 2 ≤ (wr l).length ∧ (wr l).length ≤ 6 * l.length + 2 := by
  have h := flat_len (mq l) l
  simp only [wr, List.length_cons, List.length_append, List.length_nil]
  omega
end Mine
end

section
theorem Mine.anew_Fw : True := by w_top off; first | walk1 | exact True.intro
open PySem PySem.W PySem.Calls PyProof.Rows PySem.Builtin.Str
set_option maxRecDepth 100000
namespace Mine

theorem S_cps (x : Str) : S x.cps.toList = x := Str.ext' (by simp [S])
theorem S_len (l : List Nat) : (S l).length = l.length := by simp [S, Str.length]
theorem S_app (a b : List Nat) : S a ++ S b = S (a ++ b) := Str.ext' (by simp [S, Str.cps_append])
theorem lit_amp : Str.ofString "&amp;" = S rAmp := by decide +kernel
theorem lit_lt : Str.ofString "&lt;" = S rLt := by decide +kernel
theorem lit_gt : Str.ofString "&gt;" = S rGt := by decide +kernel
theorem lit_quot : Str.ofString "&quot;" = S rQuot := by decide +kernel
theorem lit_a : Str.ofString "&" = S [38] := by decide +kernel
theorem lit_l : Str.ofString "<" = S [60] := by decide +kernel
theorem lit_g : Str.ofString ">" = S [62] := by decide +kernel
theorem lit_q : Str.ofString "\"" = S [34] := by decide +kernel
theorem lit_p : Str.ofString "'" = S [39] := by decide +kernel
theorem lit_nil : Str.ofString "" = S [] := by decide +kernel
theorem lit_x : Str.ofString "x" = S [120] := by decide +kernel

theorem has_q (x : Str) : (!(occurrences x (Str.ofString "\"") 0 x.length 1).isEmpty) = x.cps.toList.contains 34 := by
  rw [lit_q, show S [34] = ⟨#[34]⟩ from rfl, StrLaws.found_one]; simp
theorem has_p (x : Str) : (!(occurrences x (Str.ofString "'") 0 x.length 1).isEmpty) = x.cps.toList.contains 39 := by
  rw [lit_p, show S [39] = ⟨#[39]⟩ from rfl, StrLaws.found_one]; simp

theorem strsAre_of : ∀ (ys : List Value) (ts : List Str), ys.length = ts.length → (∀ (i : Nat) (y : Value), ys[i]? = some y → ∃ (t : Str) (u : Tok), ts[i]? = some t ∧ y = Value.str t u) → StrsAre ys ts
  | [], [], _, _ => .nil
  | y :: ys, t :: ts, hl, h => by
    obtain ⟨t', u, e, rfl⟩ := h 0 y rfl
    cases e
    exact .cons _ _ (strsAre_of ys ts (by simpa using hl) fun i z hz => h (i + 1) z hz)

theorem join_S : ∀ ts : List (List Nat), Str.join (S []) (ts.map S) = S ts.flatten
  | [] => rfl
  | [a] => by simp [Str.join]
  | a :: b :: r => by
    show S a ++ S [] ++ Str.join (S []) (S b :: r.map S) = _
    have ih := join_S (b :: r)
    rw [List.map_cons] at ih
    rw [ih, S_app, S_app]; simp

theorem sum_S : ∀ ts : List (List Nat), ((ts.map S).map (·.length)).sum = ts.flatten.length
  | [] => rfl
  | a :: r => by
    have ih := sum_S r
    simp only [List.map_cons, List.sum_cons, List.flatten_cons, List.length_append, S_len, ih]

section
variable {prog : Program} {w : World} {A : Around} {E : Value → Shared → Prop} {s : Shared}
theorem join_of {D : Addr} {t : Tok} {Q : Value → Shared → Prop} {ys : List Value} {ts : List (List Nat)} (hl : s.heap.IsList D ys.toArray) (hlen : ys.length = ts.length)
    (hr : ∀ (i : Nat) (y : Value), ys[i]? = some y → ∃ (a : List Nat) (u : Tok), ts[i]? = some a ∧ y = Value.str (S a) u) (hw : ts.flatten.length + ts.length ≤ 1048576)
    (h : ∀ t' k, Q (.str (S ts.flatten) t') { s with toks := k }) : wpAny (model prog w) A (call (.builtin "str.join") [.str (Str.ofString "") t, .ref D]) Q E s := by
  rw [lit_nil]
  refine join_listW (ys := ts.map S) hl ?_ (by decide) ?_ ?_
  · refine strsAre_of _ _ (by simpa using hlen) fun i y hy => ?_
    obtain ⟨a, u, e, rfl⟩ := hr i y (by simpa using hy)
    exact ⟨S a, u, by simp [e], rfl⟩
  · rw [sum_S, List.length_map]; exact hw
  · intro t' k
    have e : Txt.join (S []) (ts.map S) = S ts.flatten := by
      show glued (S []) (ts.map S) = _
      rw [StrLaws.glued_eq_join, join_S]
    rw [e]; exact h t' k
end

theorem rep_len0 {y z : List Nat} (hy : 1 ≤ y.length) (hyz : z.length ≤ y.length) (l : List Nat) : (rep y z 0 l).length ≤ l.length := by
  have key : ∀ (n : Nat) (l : List Nat), l.length ≤ n → (rep y z 0 l).length ≤ l.length := by
    intro n
    induction n with
    | zero => intro l hl; cases l with | nil => simp [rep] | cons _ _ => simp at hl
    | succ n ih =>
      intro l hl
      cases l with
      | nil => simp [rep]
      | cons c r =>
        by_cases h : (c :: r).take y.length = y
        · rw [rep_at hy h]
          have h2 := congrArg List.length h
          rw [List.length_take] at h2
          have := ih ((c :: r).drop y.length) (by rw [List.length_drop]; simp only [List.length_cons] at *; omega)
          rw [List.length_drop] at this
          rw [List.length_append]
          simp only [List.length_cons] at *
          omega
        · rw [rep_off h]
          have := ih r (by simpa using hl)
          simp only [List.length_cons]; omega
  exact key _ l (Nat.le_refl _)
/-- one sign by a text -/
def r1 (c : Nat) (z l : List Nat) : List Nat := l.flatMap fun d => if d = c then z else [d]
theorem r1_nil (c : Nat) (z : List Nat) : r1 c z [] = [] := rfl
theorem r1_cons (c d : Nat) (z l : List Nat) : r1 c z (d :: l) = (if d = c then z else [d]) ++ r1 c z l := rfl
theorem r1_len (c : Nat) (z : List Nat) (hz : z.length ≤ 6) : ∀ l, (r1 c z l).length ≤ 6 * l.length
  | [] => by simp [r1]
  | d :: l => by
    have h := r1_len c z hz l
    rw [r1_cons, List.length_append, List.length_cons]
    split
    · omega
    · simp; omega
theorem r1_mem {c d : Nat} {z l : List Nat} (h : d ∈ r1 c z l) : d ∈ l ∨ d ∈ z := by
  unfold r1 at h
  obtain ⟨e, he, hd⟩ := List.mem_flatMap.mp h
  split at hd
  · exact .inr hd
  · rw [List.mem_singleton.mp hd]; exact .inl he
theorem repl_lit {c : Nat} {z l : List Nat} {y zz : Str} (hy : y = S [c]) (hz : zz = S z) : Txt.replace (S l) y zz = S (r1 c z l) := by
  subst hy hz
  rw [← S_cps (Txt.replace (S l) (S [c]) (S z)), replace_rep _ _ _ (by simp [S, Str.length])]
  congr 1
  show rep [c] z 0 l = _
  rw [rep_one]; rfl
theorem occ_none_of {c : Nat} {l : List Nat} {y : Str} (hy : y = S [c]) (h : c ∉ l) : (occurrences (S l) y 0 (S l).length ((S l).length + 1)).isEmpty = true := by
  subst hy
  cases ho : occurrences (S l) (S [c]) 0 (S l).length ((S l).length + 1) with
  | nil => rfl
  | cons i r =>
    exfalso
    have hs := StrLaws.occ_spec (S l) (S [c]) 0 (S l).length ((S l).length + 1) i (by rw [ho]; exact List.mem_cons_self ..)
    have := (StrLaws.subAt_one (S l) c i).mp hs
    exact h (List.mem_of_getElem? (by simpa [S] using this))

section
variable {prog : Program} {w : World} {A : Around} {E : Value → Shared → Prop} {s : Shared} {t u v : Tok} {Q : Value → Shared → Prop}
theorem replace_gen {l y z : List Nat} {ys zs : Str} (hy : ys = S y) (hz : zs = S z) (h1 : 1 ≤ y.length) (hu : u ≠ 0) (hv : v ≠ 0) (huv : u ≠ v) (hyz : (ys == zs) = false) (hl : l.length ≤ 1048576) (hz6 : z.length ≤ 14)
    (hq : ∀ t' k, Q (.str (S (rep y z 0 l)) t') { s with toks := k }) : wpAny (model prog w) A (call (.builtin "str.replace") [.str (S l) t, .str ys u, .str zs v]) Q E s := by
  refine SC.replaceW hu hv huv hyz (by rw [S_len]; exact hl) (by rw [hz, S_len]; exact hz6) fun t' k => ?_
  have e : Txt.replace (S l) ys zs = S (rep y z 0 l) := by
    subst hy hz
    rw [← S_cps (Txt.replace (S l) (S y) (S z)), replace_rep _ _ _ (by rw [S_len]; exact h1)]
    simp [S]
  rw [e]; exact hq t' k
theorem replace_none {c : Nat} {l : List Nat} {y z : Str} (hy : y = S [c]) (h : c ∉ l) (hq : Q (.str (S l) t) s) : wpAny (model prog w) A (call (.builtin "str.replace") [.str (S l) t, .str y u, .str z v]) Q E s := by
  have he := occ_none_of hy h
  refine call_gives F.slot_str_replace (typeIs_str _ _ _) F.entry_str_replace (F.args_str_replace_3 _ _ _) (gives_str_replace (S l) y z t u v fun hc => ?_) ?_
  · rw [he] at hc; cases hc
  · rw [he]; exact hq
theorem replace_lit {c : Nat} {l z : List Nat} {y zz : Str} (hy : y = S [c]) (hz : zz = S z) (hu : u ≠ 0) (hv : v ≠ 0) (huv : u ≠ v) (hyz : (y == zz) = false) (hl : l.length ≤ 1048576) (hz6 : z.length ≤ 14)
    (hq : ∀ t' k, Q (.str (S (r1 c z l)) t') { s with toks := k }) : wpAny (model prog w) A (call (.builtin "str.replace") [.str (S l) t, .str y u, .str zz v]) Q E s :=
  SC.replaceW hu hv huv hyz (by rw [S_len]; exact hl) (by rw [hz, S_len]; exact hz6) fun t' k => by rw [repl_lit hy hz]; exact hq t' k
end

theorem esc_of {v : Value} {c : Nat} {q : Bool} {z : PyData} (hz : z = .str (if q then S rQuot else S [34])) (h : PyProof.V.Flat v ((Spec.lookup (PyData.str ⟨#[c]⟩) [(.str (Str.ofString "&"), .str (Str.ofString "&amp;")), (.str (Str.ofString "<"), .str (Str.ofString "&lt;")), (.str (Str.ofString ">"), .str (Str.ofString "&gt;")), (.str (Str.ofString "\""), z)]).getD (PyData.str ⟨#[c]⟩))) : ∃ t, v = .str (S (esc q c)) t := by
  rw [lit_a, lit_l, lit_g, lit_q, lit_amp, lit_lt, lit_gt, hz] at h
  have key : (Spec.lookup (PyData.str ⟨#[c]⟩) [(.str (S [38]), .str (S rAmp)), (.str (S [60]), .str (S rLt)), (.str (S [62]), .str (S rGt)), (.str (S [34]), .str (if q then S rQuot else S [34]))]).getD (PyData.str ⟨#[c]⟩) = .str (S (esc q c)) := by
    have hs : ∀ a : Nat, Spec.same (PyData.str (S [a])) (PyData.str ⟨#[c]⟩) = (a == c) := fun a => by
      show ((S [a]) == (⟨#[c]⟩ : Str)) = (a == c)
      rw [Bool.eq_iff_iff, beq_iff_eq, beq_iff_eq]
      exact ⟨fun e => by simpa [S] using congrArg Str.cps e, fun e => by rw [e]; rfl⟩
    simp only [Spec.lookup, hs]
    unfold esc
    by_cases h1 : c = 38
    · subst h1; rfl
    by_cases h2 : c = 60
    · subst h2; rfl
    by_cases h3 : c = 62
    · subst h3; rfl
    by_cases h4 : c = 34
    · subst h4; cases q <;> rfl
    have e1 : (38 == c) = false := by simp; omega
    have e2 : (60 == c) = false := by simp; omega
    have e3 : (62 == c) = false := by simp; omega
    have e4 : (34 == c) = false := by simp; omega
    rw [e1, e2, e3, e4, if_neg h1, if_neg h2, if_neg h3, if_neg h4]
    rfl
  rw [key] at h
  exact h.str_inv
end Mine
end

section
theorem Mine.anew_Dm : True := by w_top off; first | walk1 | exact True.intro
open PySem PySem.W PySem.Calls PyProof.Rows
set_option maxRecDepth 100000
namespace Mine
section
variable {prog : Program} {w : World} {K : Type} [DecidableEq K] {knd : PySem.KeyKind prog w K} {A : Around} {E : Value → Shared → Prop} {s : Shared}

theorem dictPut_new {d : Addr} {kvs : List (K × Value)} {k : K} {key v : Value} {Q : Unit → Shared → Prop} (hkey : knd.is k key = true) (hm : s.heap.DictOf knd d kvs) (hnot : k ∉ kvs.map (·.1))
    (hsz : kvs.length ≤ sizeLine)
    (hQ : ∀ h', h'.DictOf knd d (kvs ++ [(k, v)]) → Heap.SameBut d s.heap h' → Q () { s with heap := h' }) :
    wpAny (model prog w) A (dictPut d (knd.hash k) key v) Q E s := by
  obtain ⟨o, es, ep, ho, hc, hd, hk, hp, hn⟩ := hm
  have hes : es.size ≤ sizeLine := by
    have e1 := hp.length; have e2 : es.toList.length = es.size := by simp
    omega
  unfold dictPut
  refine wpAny_bind (wpAny_dictFind_of hkey ho hd hk ?_)
  have hidx : (es.findIdx? fun e => knd.is k e.key) = kvs.findIdx? fun kv => decide (kv.1 = k) := by
    rw [← hp.findIdx k]; obtain ⟨l⟩ := es; simp
  have hno : (es.findIdx? fun e => knd.is k e.key) = none := by
    rw [hidx, List.findIdx?_eq_none_iff]
    intro kv hkv
    simp only [decide_eq_false_iff_not]
    intro e
    exact hnot (List.mem_map.mpr ⟨kv, hkv, e⟩)
  rw [hno]
  refine wpAny_updateDictKeys (hz := hes) ho hd (hQ _ ⟨_, _, ep + 1, Heap.get?_update_self _ ho (Obj.isFreed_of_dict (Obj.data_mapDictKeys hd _)),
      hc.mapDictKeys _, Obj.data_mapDictKeys hd _, hk.push hkey _, ?_, ?_⟩ (Heap.SameBut.update ..))
  · have := hp.append hkey (knd.hash k) v
    obtain ⟨l⟩ := es
    simpa using this
  · rw [List.map_append, List.nodup_append]
    refine ⟨hn, by simp, ?_⟩
    intro a ha b hb
    simp only [List.map_cons, List.map_nil, List.mem_singleton] at hb
    subst hb
    exact fun e => hnot (e ▸ ha)

theorem mergeMapping_new {d o : Addr} {more : List (K × Value)} {Q : Unit → Shared → Prop} (hdo : d ≠ o) (hoS : (o == sysModules) = false)
    (hd : s.heap.DictOf knd d []) (ho : s.heap.DictOf knd o more) (hnr : ∀ k v, knd.is k v = true → ∀ a, v ≠ .ref a) (hsz : more.length ≤ sizeLine)
    (hQ : ∀ h', h'.DictOf knd d more → Heap.SameBut d s.heap h' → Q () { s with heap := h' }) :
    wpAny (model prog w) A (mergeMapping d (.ref o) false) Q E s := by
  obtain ⟨od, esd, epd, hod, hcd, hdd, hkd, hpd, hnd⟩ := id hd
  obtain ⟨oo, eso, epo, hoo, hco, hdo', hko, hpo, hno⟩ := id ho
  have hT : s.TypeIs (.ref o) "dict" := ⟨oo, hoo, hco.1⟩
  have hlen : more.length = eso.size := by rw [← hpo.length]; simp
  unfold mergeMapping
  dsimp only
  refine wpAny_bind (wpAny_isInstance hT (U := "dict") (b := true) (by rw [isSubtype_type]; kernel_rfl) ?_)
  rw [if_pos rfl]
  refine wpAny_bind (wpAny_specialOf hT F.slot_dict_iter.lookup (wpAny_bind (wpAny_pure ?_)))
  have e0 : ((some (Value.builtin "dict.__iter__") : Option Value) == some (Value.builtin "dict.__iter__")) = true := by decide
  rw [e0]
  dsimp only
  rw [if_neg (by rw [hoS]; exact Bool.false_ne_true)]
  refine wpAny_bind (wpAny_dictEntries hod hdd ?_)
  have hemp : esd.isEmpty = true := by
    have e1 := hpd.length
    rw [Array.isEmpty_iff_size_eq_zero]
    simpa using e1
  rw [if_pos hemp]
  refine wpAny_bind (wpAny_dictEntries hoo hdo' (wpAny_bind ?_))
  refine forIn_array_ _ (fun rest _ s' => s' = s ∧ ∀ e ∈ rest, ∀ a, e.key ≠ .ref a) _ ?_ ?_ eso _ ⟨rfl, fun e he a => ?_⟩
  · rintro x rest b s' ⟨rfl, hr⟩
    have hx := hr x (List.mem_cons_self ..)
    split
    · rename_i a' e'; exact absurd e' (hx _)
    · exact wpAny_pure ⟨rfl, fun e he => hr e (List.mem_cons_of_mem _ he)⟩
  · rintro b s' ⟨rfl, _⟩
    refine wpAny_bind (wpAny_dictEntries hoo hdo' ?_)
    refine wpAny_bind (wpAny_dictEpoch hoo hdo' ?_)
    refine wpAny_bind ?_
    refine wpAny_forIn_list _
      (fun rest _ s₁ => ∃ h' i, s₁ = { s' with heap := h' } ∧ rest = List.range' i (eso.size - i) ∧ i ≤ eso.size ∧ h'.DictOf knd d (more.take i) ∧ h'.get? o = some oo ∧ Heap.SameBut d s'.heap h')
      _ ?_ ?_ _ _ ⟨s'.heap, 0, rfl, by simp [List.range_eq_range'], Nat.zero_le _, by simpa using hd, hoo, Heap.SameBut.refl _ _⟩
    · rintro x rest b s₁ ⟨h', i, rfl, hr, hi, hd', hoo', hs'⟩
      have hlt : i < eso.size := by
        rcases Nat.lt_or_ge i eso.size with h | h
        · exact h
        · rw [Nat.sub_eq_zero_of_le h] at hr; simp at hr
      obtain ⟨rfl, hrest⟩ : x = i ∧ rest = List.range' (i + 1) (eso.size - (i + 1)) := by
        have e : eso.size - i = (eso.size - (i + 1)) + 1 := by omega
        rw [e, List.range'_succ] at hr
        injection hr with h1 h2
        exact ⟨h1, h2⟩
      refine wpAny_bind (wpAny_dictEntries hoo' hdo' ?_)
      rw [Array.getElem?_eq_getElem hlt]
      obtain ⟨kv, hkv⟩ : ∃ kv, more[x]? = some kv := ⟨more[x]'(by rw [hlen]; exact hlt), List.getElem?_eq_getElem _⟩
      obtain ⟨k, v⟩ := kv
      obtain ⟨hkey, hval⟩ := hpo.get? (e := eso[x]) (by simp [hlt]) hkv
      obtain ⟨k', hkey', hhash⟩ := hko eso[x] (Array.getElem_mem hlt)
      obtain rfl : k' = k := knd.inj _ _ _ hkey' hkey
      dsimp only
      simp only [Bool.false_eq_true, if_false]
      rw [hhash, hval]
      have hnot : k' ∉ (more.take x).map (·.1) := by
        intro hm
        obtain ⟨p, hp1, hp2⟩ := List.mem_map.mp hm
        obtain ⟨j, hj⟩ := List.getElem?_of_mem hp1
        have hjx : j < x := by
          have := (List.getElem?_eq_some_iff.mp hj).1
          rw [List.length_take] at this; omega
        rw [List.getElem?_take_of_lt hjx] at hj
        have h1 : (more.map (·.1))[j]? = some k' := by rw [List.getElem?_map, hj, ← hp2]; rfl
        have h2 : (more.map (·.1))[x]? = some k' := by rw [List.getElem?_map, hkv]; rfl
        have := (List.getElem?_inj (by rw [List.length_map, hlen]; omega) hno).mp (h1.trans h2.symm)
        omega
      have hmx : (more.take x).length ≤ sizeLine := by rw [List.length_take]; omega
      refine wpAny_bind (wpAny_holding (dictPut_new hkey hd' hnot hmx fun h'' hd'' hs'' => ?_))
      have hoo'' : h''.get? o = some oo := (hs''.2 o (Ne.symm hdo)).trans hoo'
      refine wpAny_bind (wpAny_dictEpoch hoo'' hdo' ?_)
      rw [if_neg (by simp)]
      exact wpAny_pure ⟨h'', x + 1, rfl, hrest, hlt, by rw [List.take_add_one, hkv]; exact hd'', hoo'', hs'.trans hs''⟩
    · rintro b s₁ ⟨h', i, rfl, hr, hi, hd', hoo', hs'⟩
      have hin : i = eso.size := by
        rcases Nat.lt_or_ge i eso.size with h | h
        · have e : eso.size - i = (eso.size - (i + 1)) + 1 := by omega
          rw [e, List.range'_succ] at hr; exact nomatch hr
        · exact Nat.le_antisymm hi h
      rw [hin, ← hlen, List.take_length] at hd'
      exact wpAny_pure (hQ h' hd' hs')
  · obtain ⟨k, hk, _⟩ := hko e (by simpa using he)
    exact hnr k e.key hk a

theorem forIn_gather' (main : Option Addr) (f : (Option (Sem Value) × Sem Value) → (Option Addr × List (Sem Value × Sem Value)) → Sem (ForInStep (Option Addr × List (Sem Value × Sem Value))))
    (hf : ∀ (p : Sem Value × Sem Value) (run : List (Sem Value × Sem Value)), run.length + 1 < 17 → f (some p.1, p.2) (main, run) = pure (.yield (main, run ++ [p]))) :
    ∀ (items run : List (Sem Value × Sem Value)), run.length + items.length < 17 → forIn (items.map fun p => (some p.1, p.2)) (main, run) f = pure (main, run ++ items)
  | [], run, _ => by simp
  | p :: rest, run, h => by
    rw [List.map_cons, List.forIn_cons, hf p run (by simp at h; omega), pure_bind]
    have := forIn_gather' main f hf rest (run ++ [p]) (by simp at h ⊢; omega)
    simpa using this

theorem star_display {v0 : Sem Value} {pairs : List (Sem Value × Sem Value)} {Q : Value → Shared → Prop} (h0 : pairs ≠ []) (hlen : pairs.length ≤ 15)
    (h : wpAny (model prog w) A v0 (fun m0 s₁ => wpAny (model prog w) A (mergeMapping s.heap.objs.size m0 false) (fun _ s₂ => wpAny (model prog w) A (subDict pairs) (fun sub s₃ => wpAny (model prog w) A (mergeMapping s.heap.objs.size (.ref sub) false) (fun _ s₄ => Q (.ref s.heap.objs.size) s₄) (fun _ _ => False) s₃) (fun _ _ => False) s₂) (fun _ _ => False) s₁) (fun _ _ => False)
      { s with heap := s.heap.push { cls := .type "dict", data := .dict #[] } }) :
    wpAny (model prog w) A (dictDisplay ((none, v0) :: pairs.map fun p => (some p.1, p.2))) Q E s := by
  unfold dictDisplay
  dsimp only
  rw [List.forIn_cons]
  dsimp only
  refine wpAny_bind ?_
  refine wpAny_bind ?_
  simp only [List.isEmpty_nil, if_true]
  refine wpAny_bind (wpAny_pure ?_)
  refine wpAny_bind (wpAny_alloc ?_)
  refine wpAny_bind (wpAny_holding (wpAny_mono h (fun m0 s₁ h₁ => ?_) fun _ _ e => e.elim))
  refine wpAny_bind (wpAny_onRaise (wpAny_tryCatch (wpAny_onRaise (wpAny_holding (wpAny_mono h₁ (fun _ s₂ h₂ => ?_) fun _ _ e => e.elim)))))
  refine wpAny_pure ?_
  dsimp only
  rw [forIn_gather' _ _ (fun p run h => by
    have hne : ((run ++ [(p.1, p.2)]).length == 17) = false := by simp; omega
    simp only [hne, Bool.false_eq_true, if_false]) pairs [] (by simp; omega)]
  refine wpAny_bind (wpAny_pure ?_)
  refine wpAny_pure ?_
  dsimp only
  have hne : ([] ++ pairs).isEmpty = false := by cases pairs with | nil => exact absurd rfl h0 | cons a r => rfl
  rw [hne]
  rw [if_neg Bool.false_ne_true]
  refine wpAny_bind (wpAny_bind (wpAny_holding (wpAny_mono h₂ (fun sub s₃ h₃ => ?_) fun _ _ e => e.elim)))
  refine wpAny_bind (wpAny_onRaise (wpAny_holding (wpAny_mono h₃ (fun _ s₄ h₄ => ?_) fun _ _ e => e.elim)))
  exact wpAny_pure (wpAny_pure h₄)
end

section
variable {prog : Program} {w : World} {A : Around} {E : Value → Shared → Prop} {s : Shared} {h₀ : Heap} {L a : Addr} {m : Str → Option Value} {cn : Str} {cs : Scope} {ccd : Value} {cl : List (Str × Addr)} {news : List (Addr × Obj)}

theorem strKind_noref : ∀ (k : Str) (v : Value), (PySem.strKind prog w).is k v = true → ∀ a, v ≠ .ref a := fun k v h a e => by
  obtain ⟨t, rfl⟩ := Value.isStrOf_shape h
  cases e

theorem shape_star {keys : List (Option Expr)} {values : List Expr} {v0 : Expr} {env : Env} {pos : Pos} (hall : keys.all (·.isSome) = true) (hl : keys.length = values.length) :
    (evalEachOpt (none :: keys) env).zip ((evalEach (v0 :: values) env).map fun v => do let x ← v; standAt pos; pure x) = ((none, do let x ← eval v0 env; standAt pos; pure x) :: (pairTrees keys values env pos).map fun p => (some p.1, p.2)) := by
  have key : ∀ (keys : List (Option Expr)) (values : List Expr), keys.all (·.isSome) = true → keys.length = values.length →
      (evalEachOpt keys env).zip ((evalEach values env).map fun v => do let x ← v; standAt pos; pure x) = (pairTrees keys values env pos).map fun p => (some p.1, p.2) := by
    intro keys
    induction keys with
    | nil => intro values _ h; cases values with | nil => rfl | cons _ _ => cases h
    | cons k ks ih =>
      intro values ha h
      cases values with
      | nil => cases h
      | cons v vs =>
        cases k with
        | none => cases ha
        | some k =>
          have := ih vs (by simpa using ha) (by simpa using h)
          show (some (eval k env), (do let x ← eval v env; standAt pos; pure x)) :: (evalEachOpt ks env).zip ((evalEach vs env).map fun v => do let x ← v; standAt pos; pure x) = _
          rw [this]; rfl
  have := key keys values hall hl
  show (none, (do let x ← eval v0 env; standAt pos; pure x)) :: (evalEachOpt keys env).zip ((evalEach values env).map fun v => do let x ← v; standAt pos; pure x) = _
  rw [this]

theorem star_K {x : Str} {px : Pos} {keys : List (Option Expr)} {values : List Expr} {pos : Pos} {Q : Value → Shared → Prop} {e0 : Addr} {ob : Obj} (F : Fr h₀ L s.heap m) (N : News h₀ L s.heap news) (hbig : h₀.NoLimit)
    (hm : m x = some (.ref e0)) (hE : h₀.get? e0 = some ob) (hob : ob.IsDictOf (PySem.strKind prog w) []) (hlo : (e0 == sysModules) = false)
    (hall : keys.all (·.isSome) = true) (hl : keys.length = values.length) (h0 : keys ≠ []) (hlen : keys.length ≤ 15)
    (hk : cs.kind = .function) (hx : (envX cn cs L a ccd cl).kindOf x = some .local) (hd : (x == ("__debug__" : Str)) = false)
    (h : ∀ (d sub : Addr) (h' : Heap) (o od : Obj), Fr h₀ L h' m → News h₀ L h' ((sub, o) :: (d, od) :: news) → (∀ p ∈ news, p.1 < d) → @LT.lt Nat _ d sub → (d == sysModules) = false → (sub == sysModules) = false → o.IsDictOf (PySem.strKind prog w) [] → od.IsDictOf (PySem.strKind prog w) [] →
      wpAny (model prog w) A (evalPairs (pairTrees keys values (envX cn cs L a ccd cl) pos)) (fun vs s₁ => KdnMade prog w (PySem.strKind prog w) sub (fun v s₃ => wpAny (model prog w) A (mergeMapping d v false) (fun _ s₄ => Q (.ref d) s₄) (fun _ _ => False) s₃) vs s₁) (fun _ _ => False) { s with heap := h' }) :
    wpAny (model prog w) A (eval (.Dict (none :: keys) (.Name x px :: values) pos) (envX cn cs L a ccd cl)) Q E s := by
  rw [arm_eval_Dict, shape_star hall hl]
  have hpl := pairTrees_length keys values (envX cn cs L a ccd cl) pos hall hl
  refine wpAny_bind (wpAny_standAt (star_display (by intro e; rw [e] at hpl; exact h0 (List.length_eq_zero_iff.mp hpl.symm)) (by omega) ?_))
  have up : ∀ b o, s.heap.get? b = some o → (s.heap.push { cls := .type "dict", data := .dict #[] }).get? b = some o := fun b o e => Heap.get?_push_of_some _ e
  have F1 : Fr h₀ L (s.heap.push { cls := .type "dict", data := .dict #[] }) m := F.push _
  refine wpAny_bind (nameX_L (s := { s with heap := s.heap.push { cls := .type "dict", data := .dict #[] } }) F1 hm ?_ hk hx hd)
  refine wpAny_bind (wpAny_standAt (wpAny_pure ?_))
  have hd1 : (s.heap.push { cls := .type "dict", data := .dict #[] }).DictOf (PySem.strKind prog w) s.heap.objs.size [] := Heap.DictOf.new (knd := PySem.strKind prog w) s.heap
  have he1 : (s.heap.push { cls := .type "dict", data := .dict #[] }).DictOf (PySem.strKind prog w) e0 [] := Heap.dictOf_iff.mpr ⟨ob, F1.keep _ _ hE, hob⟩
  have hne : s.heap.objs.size ≠ e0 := fun e => by
    have := Heap.lt_size (F.keep _ _ hE); rw [← e] at this; exact Nat.lt_irrefl _ this
  refine mergeMapping_new (knd := PySem.strKind prog w) hne hlo hd1 he1 strKind_noref (by simp) (fun h₁ hd₂ hs₁ => ?_)
  obtain ⟨od, hod, hodd⟩ := Heap.dictOf_iff.mp hd₂
  have N1 : News h₀ L (s.heap.push { cls := .type "dict", data := .dict #[] }) ((s.heap.objs.size, { cls := .type "dict", data := .dict #[] }) :: news) := N.push F _
  have M1 := N1 _ (List.mem_cons_self ..)
  have F2 : Fr h₀ L h₁ m := F1.change hs₁ M1.2.1 M1.2.2
  have N2 : News h₀ L h₁ ((s.heap.objs.size, od) :: news) := by
    refine News.setIn (own := []) N1 (fun _ h => nomatch h) (fun p hp => Nat.ne_of_lt (Heap.lt_size (N p hp).1)) hs₁ hod
  refine wpAny_subDict (knd := PySem.strKind prog w) (by omega) ?_
  obtain ⟨o, ho, hdo⟩ := Heap.dictOf_iff.mp (Heap.DictOf.new (knd := PySem.strKind prog w) h₁)
  have F3 := F2.push { cls := .type "dict", data := .dict #[] }
  have N3 := N2.push F2 { cls := .type "dict", data := .dict #[] }
  have hoe : o = { cls := .type "dict", data := .dict #[] } := by
    have := Heap.get?_push_size (h := h₁) (o := ({ cls := .type "dict", data := .dict #[] } : Obj)) rfl
    rw [this] at ho; exact (Option.some.inj ho).symm
  refine wpAny_mono (h s.heap.objs.size h₁.objs.size _ o od F3 (hoe ▸ N3) (fun p hp => Heap.lt_size (N p hp).1) (Heap.lt_size hod) (F.notModules (modules_low hbig)) (F2.notModules (modules_low hbig)) hdo hodd) (fun vs s₁ x => ?_) fun _ _ e => e
  obtain ⟨kvs, hc, hnew, hq⟩ := x
  exact ⟨kvs, hc, hnew, fun h' a b => hq h' a b⟩

theorem mm_K {d sub : Addr} {o od : Obj} {kvs : List (Str × Value)} {g : Obj → List (Addr × Obj)} {Q : Unit → Shared → Prop} (F : Fr h₀ L s.heap m) (N : News h₀ L s.heap news) (ms : (sub, o) ∈ news) (ho : o.IsDictOf (PySem.strKind prog w) kvs)
    (U : UpdF d od news g) (hod : od.IsDictOf (PySem.strKind prog w) []) (hlt : @LT.lt Nat _ d sub) (hlo : (sub == sysModules) = false) (hsz : kvs.length ≤ 100)
    (h : ∀ h' o', Fr h₀ L h' m → News h₀ L h' (g o') → o'.IsDictOf (PySem.strKind prog w) kvs → Q () { s with heap := h' }) :
    wpAny (model prog w) A (mergeMapping d (.ref sub) false) Q E s := by
  obtain ⟨pre, post, rfl, hg, h1, h2⟩ := U.split
  have hm := N (d, od) (List.mem_append_right _ (.head _))
  refine mergeMapping_new (knd := PySem.strKind prog w) (Nat.ne_of_lt hlt) hlo (Heap.dictOf_iff.mpr ⟨od, hm.1, hod⟩) (Heap.dictOf_iff.mpr ⟨o, (N _ ms).1, ho⟩) strKind_noref (by rw [sizeLine_eq]; omega) (fun h' hd' hs => ?_)
  obtain ⟨o', ho', hd''⟩ := Heap.dictOf_iff.mp hd'
  exact h h' o' (F.change hs hm.2.1 hm.2.2) (hg o' ▸ N.setIn h1 h2 hs ho') hd''
end
end Mine
end

section
theorem Mine.anew_Fq : True := by w_top off; first | walk1 | exact True.intro
open PySem PySem.W PySem.Calls PyProof.Rows PySem.Builtin.Str
set_option maxRecDepth 100000
namespace Mine
def r3 (l : List Nat) : List Nat := r1 60 rLt (r1 62 rGt (r1 38 rAmp l))
theorem r1_app (c : Nat) (z a b : List Nat) : r1 c z (a ++ b) = r1 c z a ++ r1 c z b := by simp [r1]
theorem r3_eq : ∀ l : List Nat, r3 l = l.flatMap (esc false)
  | [] => rfl
  | d :: l => by
    have ih := r3_eq l
    unfold r3 at ih ⊢
    rw [r1_cons, r1_app, r1_app, ih, List.flatMap_cons]
    congr 1
    unfold esc
    by_cases h1 : d = 38
    · subst h1; decide
    · rw [if_neg h1, if_neg h1]
      by_cases h3 : d = 62
      · subst h3; decide
      · by_cases h2 : d = 60
        · subst h2; decide
        · have e1 : r1 62 rGt [d] = [d] := by simp [r1, h3]
          rw [e1]
          have e2 : r1 60 rLt [d] = [d] := by simp [r1, h2]
          rw [e2, if_neg h2, if_neg h3]
          by_cases h4 : d = 34
          · subst h4; rfl
          · rw [if_neg h4]
theorem r4_eq : ∀ l : List Nat, r1 34 rQuot (r3 l) = l.flatMap (esc true)
  | [] => rfl
  | d :: l => by
    have ih := r4_eq l
    rw [r3_eq] at ih ⊢
    rw [List.flatMap_cons, r1_app, ih, List.flatMap_cons]
    congr 1
    unfold esc
    by_cases h1 : d = 38
    · subst h1; decide
    · by_cases h3 : d = 62
      · subst h3; decide
      · by_cases h2 : d = 60
        · subst h2; decide
        · by_cases h4 : d = 34
          · subst h4; decide
          · simp [h1, h2, h3, h4, r1]
theorem esc_same {d : Nat} (h : d ≠ 34) : esc true d = esc false d := by simp [esc, h]
theorem flat_same : ∀ {l : List Nat}, 34 ∉ l → l.flatMap (esc true) = l.flatMap (esc false)
  | [], _ => rfl
  | d :: l, h => by
    rw [List.flatMap_cons, List.flatMap_cons, flat_same (fun m => h (List.mem_cons_of_mem _ m)), esc_same (fun e => h (e ▸ List.mem_cons_self ..))]
theorem mem_esc {c d : Nat} (hc : c = 34 ∨ c = 39) : c ∈ esc false d ↔ c = d := by
  unfold esc
  rcases hc with rfl | rfl
  all_goals
    by_cases h1 : d = 38
    · subst h1; decide
    · by_cases h2 : d = 60
      · subst h2; decide
      · by_cases h3 : d = 62
        · subst h3; decide
        · by_cases h4 : d = 34
          · subst h4; decide
          · simp [h1, h2, h3, h4]
theorem mem_r3 {c : Nat} {l : List Nat} (hc : c = 34 ∨ c = 39) : c ∈ r3 l ↔ c ∈ l := by
  rw [r3_eq, List.mem_flatMap]
  exact ⟨fun ⟨d, hd, h⟩ => by rw [(mem_esc hc).mp h]; exact hd, fun h => ⟨c, h, (mem_esc hc).mpr rfl⟩⟩
theorem S_toList (l : List Nat) : (S l).cps.toList = l := by simp [S]
theorem emp_q {l : List Nat} {b : Bool} (h : (occurrences (S (r3 l)) (Str.ofString "\"") 0 (S (r3 l)).length 1).isEmpty = b) : l.contains 34 = !b := by
  have e := has_q (S (r3 l))
  rw [h, S_toList] at e
  rw [e, Bool.eq_iff_iff]
  simp [mem_r3]
theorem emp_p {l : List Nat} {b : Bool} (h : (occurrences (S (r3 l)) (Str.ofString "'") 0 (S (r3 l)).length 1).isEmpty = b) : l.contains 39 = !b := by
  have e := has_p (S (r3 l))
  rw [h, S_toList] at e
  rw [e, Bool.eq_iff_iff]
  simp [mem_r3]
theorem qa_1 {l : List Nat} (h : (occurrences (S (r3 l)) (Str.ofString "\"") 0 (S (r3 l)).length 1).isEmpty = true) : Str.ofString "\"" ++ S (r3 l) ++ Str.ofString "\"" = S (wr l) := by
  have h1 := emp_q h
  have hn : 34 ∉ l := by simpa using h1
  rw [lit_q, S_app, S_app, r3_eq, ← flat_same hn]
  have hq : mq l = true := by unfold mq; rw [h1]; rfl
  simp [wr, mk, hq]
theorem qa_2 {l : List Nat} (h : (occurrences (S (r3 l)) (Str.ofString "\"") 0 (S (r3 l)).length 1).isEmpty = false) (h' : (occurrences (S (r3 l)) (Str.ofString "'") 0 (S (r3 l)).length 1).isEmpty = true) :
    Str.ofString "'" ++ S (r3 l) ++ Str.ofString "'" = S (wr l) := by
  have h1 := emp_q h
  have h2 := emp_p h'
  rw [lit_p, S_app, S_app, r3_eq]
  have hq : mq l = false := by unfold mq; rw [h1, h2]; rfl
  simp [wr, mk, hq]
theorem qa_3 {l : List Nat} (hx : (occurrences (S (r3 l)) (Str.ofString "\"") 0 (S (r3 l)).length 1).isEmpty = false) (h' : (occurrences (S (r3 l)) (Str.ofString "'") 0 (S (r3 l)).length 1).isEmpty = false) :
    Str.ofString "\"" ++ S (r1 34 rQuot (r3 l)) ++ Str.ofString "\"" = S (wr l) := by
  have h2 := emp_p h'
  rw [lit_q, S_app, S_app, r4_eq]
  have hq : mq l = true := by unfold mq; rw [h2]; simp
  simp [wr, mk, hq]
end Mine
end

section
theorem Mine.anew_Dn : True := by w_top off; first | walk1 | exact True.intro
open PySem PySem.W PySem.Calls PyProof.Rows
set_option maxRecDepth 100000

namespace Mine
section
variable {prog : Program} {w : World} {A : Around} {E : Value → Shared → Prop}

/-- the next pair of a dict's items, its key's own token kept -/
theorem next_pair {hp : Heap} {gs : Array GenState} {dr : Drawn} {tk : Nat} {os : OsState} {it d : Addr} {i ep : Nat} {ok ov : Value} {od : Obj} {es : Array DictEntry} {Q : Option Value → Shared → Prop}
    (hit : IsItemIter hp it d i es.size ep ok ov) (hod : hp.get? d = some od) (hdd : od.data = .dict es ep) (hi : i < es.size)
    (hQ : ∀ h', IsItemIterOut h' it d (i + 1) es.size ep es[i].key es[i].val hp.objs.size → h'.get? hp.objs.size = some { cls := .type "tuple", data := .seq #[es[i].key, es[i].val] } →
      (∀ b o, b ≠ it → hp.get? b = some o → h'.get? b = some o) → Q (some (.ref hp.objs.size)) ⟨h', gs, dr, tk, os⟩) :
    wpAny (model prog w) A (pyNext (.ref it)) Q E ⟨hp, gs, dr, tk, os⟩ := by
  have hT : Shared.TypeIs ⟨hp, gs, dr, tk, os⟩ (.ref it) "dict_itemiterator" := ⟨_, hit, rfl⟩
  unfold pyNext
  refine wpAny_bind (wpAny_attempt (wpAny_callSpecial?_slot (name := Str.ofString "__next__") hT F.slot_dict_itemiterator_next
    (wpAny_call_entry F.slot_dict_itemiterator_next hT F.entry_dict_itemiterator_next ?_ (F.args_dict_itemiterator_next_1 _))))
  refine wpAny_bind (wpAny_pure (wpAny_bind (wpAny_bind (wpAny_bind (wpAny_typeNameOfWhole_itemiter hT (wpAny_pure ?_))))))
  refine wpAny_bind (wpAny_fieldsOf hit rfl ?_)
  have hown : Builtin.Dict_items.ownsTuple "dict_itemiterator" = true := by decide
  simp only [hown, if_true]
  show wpAny _ _ (if (Value.ref d == Value.none) = true then _ else _) _ _ _
  rw [if_neg (show ¬ ((Value.ref d == Value.none) = true) from Bool.false_ne_true)]
  refine wpAny_bind (wpAny_pure (wpAny_bind (wpAny_dictEntries hod hdd ?_)))
  rw [if_neg (by simp)]
  refine wpAny_bind (wpAny_pure (wpAny_bind (wpAny_dictEpoch hod hdd ?_)))
  rw [if_neg (by simp)]
  refine wpAny_pure ?_
  simp only [show ¬ ((i : Int) < 0) from by omega, if_false, Int.toNat_natCast, Array.getElem?_eq_getElem hi]
  refine wpAny_bind (wpAny_bind (wpAny_typeNameOfWhole_itemiter hT (wpAny_pure ?_)))
  refine wpAny_bind (wpAny_isOneOf_itemiter hT ?_)
  show wpAny _ _ (setField (.ref it) 3 (rawInt ((i : Int) + 1)) >>= _) _ _ ⟨hp, gs, dr, tk, os⟩
  refine wpAny_bind (wpAny_setField_rec hit (by simp) fun h₁ he₁ hs₁ => ?_)
  have hs₁ : Heap.SameBut it hp h₁ := hs₁
  have he₁ : IsItemIter h₁ it d (i + 1) es.size ep ok ov := by
    have e : ((i + 1 : Nat) : Int) = (i : Int) + 1 := by omega
    unfold IsItemIter; rw [e]; simpa [rawInt] using he₁
  have hT₁ : Shared.TypeIs ⟨h₁, gs, dr, tk, os⟩ (.ref it) "dict_itemiterator" := ⟨_, he₁, rfl⟩
  have hz₁ : h₁.objs.size = hp.objs.size := hs₁.1
  have hil : it < hp.objs.size := Heap.lt_size hit
  refine wpAny_bind (wpAny_holding (wpAny_bind (wpAny_isOneOf_itemiter hT₁ (wpAny_bind (wpAny_isOneOf_itemiter hT₁ ?_)))))
  show wpAny _ _ (Builtin.Dict_items.pairFromOwner (.ref it) 6 es[i].key es[i].val) _ _ ⟨h₁, gs, dr, tk, os⟩
  unfold Builtin.Dict_items.pairFromOwner
  refine wpAny_bind (wpAny_newTuple ?_)
  obtain ⟨h₂, e₂⟩ : ∃ h₂, h₂ = h₁.push { cls := .type "tuple", data := .seq #[es[i].key, es[i].val] } := ⟨_, rfl⟩
  have he₂ : IsItemIter h₂ it d (i + 1) es.size ep ok ov := e₂ ▸ Heap.get?_push_of_some _ he₁
  have ht₂ : h₂.get? hp.objs.size = some { cls := .type "tuple", data := .seq #[es[i].key, es[i].val] } := by rw [e₂, ← hz₁]; exact Heap.get?_push_size _ rfl
  have hk₂ : ∀ b o, b ≠ it → hp.get? b = some o → h₂.get? b = some o := fun b o hb e => by rw [e₂]; exact Heap.get?_push_of_some _ (hs₁.extBut b o hb e)
  rw [← e₂]
  show wpAny _ _ (Builtin.Dict_items.ownedTupleIsFree (.ref it) >>= _) _ _ ⟨h₂, gs, dr, tk, os⟩
  rw [hz₁]
  refine wpAny_bind ?_
  unfold Builtin.Dict_items.ownedTupleIsFree
  refine wpAny_bind (wpAny_field he₂ rfl (x := .none) rfl (wpAny_pure ?_))
  simp only [if_true]
  refine wpAny_bind (wpAny_field he₂ rfl (x := ok) rfl (wpAny_bind (wpAny_field he₂ rfl (x := ov) rfl ?_)))
  refine wpAny_bind (wpAny_setField_rec he₂ (by simp) fun h₃ he₃ hs₃ => ?_)
  have he₃ : IsItemIter h₃ it d (i + 1) es.size ep es[i].key ov := he₃
  refine wpAny_bind (wpAny_setField_rec he₃ (by simp) fun h₄ he₄ hs₄ => ?_)
  have he₄ : IsItemIter h₄ it d (i + 1) es.size ep es[i].key es[i].val := he₄
  refine wpAny_bind (wpAny_setField_rec he₄ (by simp) fun h₅ he₅ hs₅ => ?_)
  have he₅ : IsItemIterOut h₅ it d (i + 1) es.size ep es[i].key es[i].val hp.objs.size := he₅
  refine wpAny_bind (wpAny_setField_rec he₅ (by simp) fun h₆ he₆ hs₆ => ?_)
  have he₆ : IsItemIterOut h₆ it d (i + 1) es.size ep es[i].key es[i].val hp.objs.size := he₆
  have up : ∀ b o, b ≠ it → h₂.get? b = some o → h₆.get? b = some o := fun b o hb e =>
    Heap.SameBut.extBut (h' := h₆) hs₆ b o hb (Heap.SameBut.extBut (h' := h₅) hs₅ b o hb (Heap.SameBut.extBut (h' := h₄) hs₄ b o hb (Heap.SameBut.extBut (h' := h₃) hs₃ b o hb e)))
  refine wpAny_bind (wpAny_letGo (wpAny_pure (wpAny_pure ⟨_, rfl, wpAny_pure (hQ h₆ he₆ ?_ ?_)⟩)))
  · exact up _ _ (Nat.ne_of_gt hil) ht₂
  · exact fun b o hb e => up b o hb (hk₂ b o hb e)

theorem pair_turns {od : Obj} {es : Array DictEntry} {kvs : List (Str × Value)} {ep : Nat} {elts : List Expr} {kk : Nat} {pos : Pos} (hh : A.handled = none) (I d : Addr) (hne : d ≠ I) (hdd : od.data = .dict es ep) (hat : KdkAt (PySem.strKind prog w) od kvs ep) (hsz : es.size = kvs.length) :
    KTurns prog w A (.Tuple elts kk pos) I [I, d] [I] es.size
      (fun i v h => ∃ T e, v = .ref T ∧ es[i]? = some e ∧ h.IsTuple T #[e.key, e.val])
      (fun i v h => ∃ T e ok ov, v = .ref T ∧ es[i]? = some e ∧ h.IsTuple T #[e.key, e.val] ∧ IsItemIterOut h I d (i + 1) es.size ep ok ov T ∧ h.get? d = some od ∧ T ≠ I)
      (fun i h => (∃ ok ov, IsItemIter h I d i es.size ep ok ov) ∧ h.get? d = some od) where
  sub := fun b hb => by simp at hb; simp [hb]
  frame := fun i h h' st hk => by
    obtain ⟨⟨ok, ov, he⟩, hm⟩ := st
    exact ⟨⟨ok, ov, hk I (by simp) _ he⟩, hk d (by simp) _ hm⟩
  item := fun i s Q E hi st hQ => by
    obtain ⟨⟨ok, ov, he⟩, hm⟩ := st
    obtain ⟨hp, gs, dr, tk, os⟩ := s
    refine next_pair he hm hdd hi fun h' ho hT hk => ?_
    exact hQ (.ref hp.objs.size) h' tk ⟨hp.objs.size, es[i], _, _, rfl, by simp [hi], ⟨_, hT, rfl, _, rfl⟩, ho, hk d _ hne hm, Nat.ne_of_gt (Heap.lt_size he)⟩ fun b o hb e => hk b o (fun h => hb (by simp [h])) e
  go := fun i v s Q E hm hQ => by
    obtain ⟨T, e, ok, ov, rfl, hx, hT, ho, hd, hTI⟩ := hm
    refine wpAny_letOwnedTupleGo_items ho fun h' he hs => ?_
    exact hQ h' ⟨T, e, rfl, hx, hT.at fun o e => hs.extBut T o hTI e⟩ ⟨⟨ok, ov, he⟩, hs.extBut d _ hne hd⟩ fun b o hb e => hs.extBut b o (fun h => hb (by simp [h])) e
  done := fun s Q E st hQ => by
    obtain ⟨⟨ok, ov, he⟩, hm⟩ := st
    rw [hsz] at he
    refine wpAny_pyNext_items_end hh he (hat.dictAt hm) (by simp [hsz]) fun h' hx => hQ h' s.toks fun b o hb e => hx b o (fun h => hb (by simp [h])) e

variable {s : Shared} {env : Env} {h₀ : Heap} {body : List Stmt} {Q : Flow → Shared → Prop}
theorem pair_items {elts : List Expr} {kk : Nat} {pos : Pos} {d vw : Addr} {od : Obj} {es : Array DictEntry} {kvs : List (Str × Value)} {ep : Nat} {m₀ : Str → Option Value} {news : List (Addr × Obj)}
    (hh : A.handled = none) (F : Fr h₀ env.locals s.heap m₀) (N : News h₀ env.locals s.heap news) (hvw : s.heap.IsItemsView vw d) (hm : (d, od) ∈ news)
    (hdd : od.data = .dict es ep) (hat : KdkAt (PySem.strKind prog w) od kvs ep) (hsz : es.size = kvs.length)
    (rest₀ : ∀ I : Addr, (∀ p ∈ news, p.1 < I) → ItemsRest prog w A E h₀ env (.Tuple elts kk pos) body Q s [(I, "dict_itemiterator")] [(d, od)] (es.toList.map fun e => Itm.pair (fun _ => e.key) e.val) m₀ news) :
    wpAny (model prog w) A (pyIter (.ref vw)) (fun it s₂ => TurnsAt prog w A h₀ env (.Tuple elts kk pos) body Q E it s₂) E s := by
  have hax := N _ hm
  have hdt := hat.dictAt hax.1
  have hne : d ≠ s.heap.objs.size := Nat.ne_of_lt hdt.lt_size
  refine wpAny_pyIter_items hvw hdt ?_
  refine ktu_core (tk0 := s.toks) (keep := [(d, od)]) (pair_turns hh s.heap.objs.size d hne hdd hat hsz) (by simp) ?_ ?_ ?_ ?_ ?_ ?_ ?_ ?_ (F.push _) (fun p hp => ⟨Heap.get?_push_of_some _ (N p hp).1, (N p hp).2⟩) (And.intro hm trivial) (rest₀ _ fun p hp => Heap.lt_size (N p hp).1)
  · rintro i v h ⟨T, e, rfl, hx, hT⟩
    refine ⟨Itm.pair (fun _ => e.key) e.val, by rw [List.getElem?_map]; simp [hx], T, 0, rfl, hT⟩
  · rintro i h ⟨⟨ok, ov, he⟩, _⟩
    have e1 : ∃ o : Obj, h.get? s.heap.objs.size = some o ∧ o.cls = .type "dict_itemiterator" := ⟨_, he, rfl⟩
    obtain ⟨oi, g, c⟩ := e1
    exact ⟨[(s.heap.objs.size, oi)], ⟨⟨rfl, c⟩, trivial⟩, fun p hp => by rw [List.mem_singleton.mp hp]; exact g⟩
  · intro b hb
    have hb' : b = s.heap.objs.size := by simpa using hb
    rw [hb']
    exact ⟨List.mem_cons_self .., next_is_new F⟩
  · intro b hb
    simpa using hb
  · intro b hb
    have hb' : b = s.heap.objs.size ∨ b = d := by simpa using hb
    rcases hb' with e | e
    · exact .inl (by simp [e])
    · exact .inr ⟨od, by simp [e]⟩
  · intro hI
    have hb' : env.locals = s.heap.objs.size ∨ env.locals = d := by simpa using hI
    rcases hb' with e | e
    · exact absurd F.ns.lt (e ▸ Nat.lt_irrefl _)
    · exact hax.2.1 e.symm
  · intro p hp hI
    exact absurd (Heap.lt_size (N p hp).1) ((List.mem_singleton.mp hI) ▸ Nat.lt_irrefl _)
  · refine ⟨⟨.none, .none, ?_⟩, Heap.get?_push_of_some _ hax.1⟩
    rw [hsz]; exact Heap.get?_push_size _ rfl

/-- a dict of one key that is a text: the object, to the token -/
def one (w : World) (k : Str) (t : Tok) (v : Value) : Obj := { cls := .type "dict", data := .dict #[⟨hashStr w k, .str k t, v⟩] 1 }
theorem one_at (k : Str) (t : Tok) (v : Value) : KdkAt (PySem.strKind prog w) (one w k t v) [(k, v)] 1 :=
  ⟨#[⟨hashStr w k, .str k t, v⟩], ⟨rfl, rfl, rfl⟩, rfl, fun e he => by
    have : e = ⟨hashStr w k, .str k t, v⟩ := by simpa using he
    subst this; exact ⟨k, strKind_is prog w k t, rfl⟩, by
    have h := (Pairs.nil (knd := PySem.strKind prog w)).append (strKind_is prog w k t) (hashStr w k) v
    simpa using h, by simp⟩
theorem one_is (k : Str) (t : Tok) (v : Value) : (one w k t v).IsDictOf (PySem.strKind prog w) [(k, v)] := let ⟨es, r⟩ := one_at (prog := prog) (w := w) k t v; ⟨es, 1, r⟩

theorem dictSet_one {d : Addr} {k : Str} {t : Tok} {v : Value} {Q : Unit → Shared → Prop} (ho : s.heap.get? d = some { cls := .type "dict", data := .dict #[] })
    (hQ : ∀ h', h'.get? d = some (one w k t v) → Heap.SameBut d s.heap h' → Q () { s with heap := h', toks := s.toks + 1 }) :
    wpAny (model prog w) A (dictSet d (.str k t) v) Q E s := by
  unfold dictSet
  try with_reducible refine wpAny_holding ?_
  refine wpAny_bind (wpAny_pyHash_str ?_)
  unfold dictSetHashed
  try with_reducible refine wpAny_holding ?_
  refine wpAny_bind (wpAny_dictFind_of (knd := PySem.strKind prog w) (k := k) (s := { s with toks := s.toks + 1 }) (strKind_is prog w k t) ho rfl (fun e he => by simp at he) ?_)
  have hno : ((#[] : Array DictEntry).findIdx? fun e => (PySem.strKind prog w).is k e.key) = none := by simp
  rw [hno]
  refine wpAny_bind (wpAny_rule (wpAny_updateDictKeys (s := { s with toks := s.toks + 1 }) ho rfl (hQ _ ?_ (Heap.SameBut.update ..)) (by simp)))
  exact Heap.get?_update_self _ ho rfl

def Pair1 (w : World) (h₀ : Heap) (L : Addr) (m : Str → Option Value) (news : List (Addr × Obj)) (d : Addr) (s : Shared) (Q : Value → Shared → Prop) (vs : List (Value × Value)) (s₁ : Shared) : Prop :=
  ∃ x t y h₁ tk, vs = [(.str x t, y)] ∧ s₁ = { s with heap := h₁, toks := tk } ∧ Fr h₀ L h₁ m ∧ News h₀ L h₁ ((d, { cls := .type "dict", data := .dict #[] }) :: news) ∧
        ∀ h₂, Fr h₀ L h₂ m → News h₀ L h₂ ((d, one w x t y) :: news) → Q (.ref d) { s with heap := h₂, toks := tk + 1 }
theorem Pair1.intro {L : Addr} {m : Str → Option Value} {news : List (Addr × Obj)} {d : Addr} {Q : Value → Shared → Prop} {x : Str} {t : Tok} {y : Value} {h₁ : Heap} {tk : Nat} (F : Fr h₀ L h₁ m) (N : News h₀ L h₁ ((d, { cls := .type "dict", data := .dict #[] }) :: news))
    (h : ∀ h₂, Fr h₀ L h₂ m → News h₀ L h₂ ((d, one w x t y) :: news) → Q (.ref d) { s with heap := h₂, toks := tk + 1 }) : Pair1 w h₀ L m news d s Q [(.str x t, y)] { s with heap := h₁, toks := tk } :=
  ⟨x, t, y, h₁, tk, rfl, rfl, F, N, h⟩

theorem dict1_eval {k v : Expr} {pos : Pos} {L : Addr} {m : Str → Option Value} {news : List (Addr × Obj)} {Q : Value → Shared → Prop} (F : Fr h₀ L s.heap m) (N : News h₀ L s.heap news) (hbig : h₀.NoLimit)
    (h : ∀ d h', Fr h₀ L h' m → News h₀ L h' ((d, { cls := .type "dict", data := .dict #[] }) :: news) → (∀ p ∈ news, p.1 < d) → (d == sysModules) = false →
      wpAny (model prog w) A (evalPairs (pairTrees [some k] [v] env pos)) (Pair1 w h₀ L m news d s Q) E { s with heap := h' }) :
    wpAny (model prog w) A (eval (.Dict [some k] [v] pos) env) Q E s := by
  rw [arm_eval_Dict]
  have hl1 : (pairTrees [some k] [v] env pos).length = 1 := rfl
  have e1 := dictDisplay_pairs (pairTrees [some k] [v] env pos) (by intro e; rw [e] at hl1; cases hl1) (by rw [hl1]; decide)
  have e2 : ((evalEachOpt [some k] env).zip ((evalEach [v] env).map fun v => do let x ← v; standAt pos; pure x)) = (pairTrees [some k] [v] env pos).map fun p => (some p.1, p.2) := rfl
  rw [e2, e1]
  refine wpAny_bind (wpAny_standAt ?_)
  refine wpAny_bind ?_
  unfold subDict
  refine wpAny_bind (wpAny_alloc ?_)
  refine wpAny_bind (wpAny_holding ?_)
  rw [if_pos (by rw [hl1]; decide)]
  have N1 : News h₀ L (s.heap.push { cls := .type "dict", data := .dict #[] }) ((s.heap.objs.size, { cls := .type "dict", data := .dict #[] }) :: news) := N.push F _
  refine wpAny_bind (wpAny_mono (h _ _ (F.push _) N1 (fun p hp => Heap.lt_size (N p hp).1) (F.notModules (modules_low hbig))) (fun vs s₁ h₁ => ?_) fun _ _ e => e)
  obtain ⟨x, t, y, h₁, tk, rfl, rfl, F₁, N₁, hq⟩ := h₁
  refine wpAny_holding ?_
  have hD := N₁ _ (List.mem_cons_self ..)
  rw [List.forIn_cons]
  refine wpAny_bind (wpAny_bind (wpAny_bind (dictSet_one (s := { s with heap := h₁, toks := tk }) hD.1 fun h₂ ho hs => wpAny_pure ?_)))
  dsimp only
  rw [List.forIn_nil]
  refine wpAny_pure (wpAny_pure (wpAny_pure ?_))
  exact wpAny_pure <| hq h₂ (F₁.change hs hD.2.1 hD.2.2) (News.setIn (own := []) N₁ (fun _ h => nomatch h) (fun p hp => Nat.ne_of_lt (Heap.lt_size (N p hp).1)) hs ho)
end
end Mine
end

section
theorem Mine.anew_Wr : True := by w_top off; first | walk1 | exact True.intro
open PySem PySem.W PySem.Calls PyProof.Rows
set_option maxRecDepth 100000
set_option maxHeartbeats 4000000
namespace Mine
local macro_rules | `(tactic| walk_at "eval ListComp") => `(tactic| (k_here; k_dflt (refine ListComp_W (F₀ := by k_asm) (by with_unfolding_all rfl) (by decide) (by rfl) (by decide) (by rfl) ?_)))

theorem wr_t {l : List Nat} (hq : mq l = true) : Str.ofString "\"" ++ S (l.map (esc (mq l))).flatten ++ Str.ofString "\"" = S (wr l) := by
  rw [lit_q, S_app, S_app]
  simp [wr, mk, hq, List.flatMap_def]
theorem wr_f {l : List Nat} (hq : mq l = false) : Str.ofString "'" ++ S (l.map (esc (mq l))).flatten ++ Str.ofString "'" = S (wr l) := by
  rw [lit_p, S_app, S_app]
  simp [wr, mk, hq, List.flatMap_def]
theorem mq_1 {x : Str} (h : (Builtin.Str.occurrences x (Str.ofString "\"") 0 x.length 1).isEmpty = true) : mq x.cps.toList = true := by
  unfold mq; rw [← has_q, ← has_p, h]; rfl
theorem mq_2 {x : Str} (h : (Builtin.Str.occurrences x (Str.ofString "'") 0 x.length 1).isEmpty = false) : mq x.cps.toList = true := by
  unfold mq; rw [← has_q, ← has_p, h]; simp
theorem mq_3 {x : Str} (h : (Builtin.Str.occurrences x (Str.ofString "\"") 0 x.length 1).isEmpty = false) (h' : (Builtin.Str.occurrences x (Str.ofString "'") 0 x.length 1).isEmpty = true) : mq x.cps.toList = false := by
  unfold mq; rw [← has_q, ← has_p, h, h']; rfl
theorem sp_writing (w : World) (x : Str) (t : Tok) (hx : x.length ≤ 1000) : Sp w 65 [.str x t] (fun g h' v => ∃ t', v = .str (S (wr x.cps.toList)) t') := by
  have hfill : PySem.Challenge.rw_kt0004_01.prog = PySem.Challenge.rw_kt0004_01.prog ∧ hd.heap_39 = hd.heap_39 := by k_fill; exact ⟨rfl, rfl⟩
  clear hfill
  refine sp_cells (binds := [(Str.ofString "text", .str x t)]) (by k_dflt k_is) (by k_dflt k_is) (fun s X => BindsTo.of_eq rfl) (by rfl) (by decide +kernel) (by rfl) (by rfl) (by rfl) ?_
  unfold BdC
  intro dp un gd outer A₀ base g L cells mean mg mb s B' X' T' F' N' Y' hk hd hu
  k_cells Y'
  (try dsimp only)
  have hsz : x.cps.size ≤ sizeLine := by rw [sizeLine_eq]; exact Nat.le_trans hx (by decide)
  k_steps
  all_goals first
    | (have hq := mq_1 (x := x) (by assumption))
    | (have hq := mq_2 (x := x) (by assumption))
    | (have hq := mq_3 (x := x) (by assumption) (by assumption))
    | skip
  all_goals (
    refine src_str (by rfl) (by k_asm) (by k_asm) hsz ?_
    intro hg
    refine rest_pure (fun i v => ∃ c t, x.cps.toList[i]? = some c ∧ v = .str (S (esc (mq x.cps.toList) c)) t) trivial ?_ ?_
    · intro i v I oI C oC D m₂ ys h tk hi hv hC hm F N off ne
      obtain ⟨c, u, hc, rfl⟩ := hv
      (try simp only [LCg.Off3, and_true] at off)
      (try dsimp only)
      k_steps
      (rename PyProof.V.Flat _ _ => hv)
      refine CE.intro (by k_asm) (by k_asm) (fun p hp => hp) ?_
      first
        | (obtain ⟨t', rfl⟩ := esc_of (q := true) (by rw [lit_quot]; rfl) hv; rw [hq]; exact ⟨c, t', by simpa using hc, rfl⟩)
        | (obtain ⟨t', rfl⟩ := esc_of (q := false) (by rw [lit_q]; rfl) hv; rw [hq]; exact ⟨c, t', by simpa using hc, rfl⟩)
    · intro ys hlen hG
      k_steps
      have hfl := flat_len (mq x.cps.toList) x.cps.toList
      have hxl : x.cps.toList.length ≤ 1000 := by simpa [Str.length] using hx
      refine join_of (ts := x.cps.toList.map (esc (mq x.cps.toList))) (by is_list) (by simpa using hlen) ?_ ?_ ?_
      · intro i y hy
        obtain ⟨c, t', hc, rfl⟩ := hG i y hy
        exact ⟨_, t', by simp [hc], rfl⟩
      · rw [List.length_map, ← List.flatMap_def]; omega
      · intro t1 k1
        have hfs : (S (List.map (esc (mq x.cps.toList)) x.cps.toList).flatten).length ≤ 6000 := by rw [S_len, ← List.flatMap_def]; omega
        k_steps
        first
          | exact Fin1.intro (by k_asm) ⟨_, by rw [wr_t hq]⟩
          | exact Fin1.intro (by k_asm) ⟨_, by rw [wr_f hq]⟩)
end Mine
end

section
theorem Mine.anew_Qa : True := by w_top off; first | walk1 | exact True.intro
open PySem PySem.W PySem.Calls PyProof.Rows
set_option maxRecDepth 100000
set_option maxHeartbeats 4000000
namespace Mine
local macro_rules | `(tactic| walk_at "eval Dict") => `(tactic| (k_here; k_dflt (refine' star_K ?F ?N ?b ?m ?e ?o ?l ?a ?n ?z ?y ?k ?x ?d ?_; (case F => k_asm); (case N => k_asm); (case b => exact Top.nolimit (by k_asm)); (case m => exact rfl); (case e => assumption); (case o => assumption); (case l => decide); (case a => rfl); (case n => rfl); (case z => exact List.cons_ne_nil _ _); (case y => exact Nat.le_of_ble_eq_true rfl); (case k => assumption); (case x => rfl); (case d => decide)); intro d' sub' h' o' od' F' N' l1 l2 lo0' lo' hd' hd2'; (try k_lt l1)))
local macro_rules | `(tactic| walk_at "mergeMapping") => `(tactic| (k_here; k_dflt (refine' mm_K ?F ?N ?m ?o ?U ?d ?l ?s ?z ?_; (case F => k_asm); (case N => k_asm); (case m => k_mem); (case o => assumption); (case U => k_updF); (case d => assumption); (case l => assumption); (case s => assumption); (case z => exact Nat.le_of_ble_eq_true rfl)); intro h' o' F' N' hd'; (try dsimp only at N')))
local macro_rules | `(tactic| walk_at "call ref") => `(tactic| (k_here; k_dflt (refine wpAny_call ?_; (refine' code_def ?k1 ?k2 ?k3 ?k4 ?k5 ?kA ?kF ?kK ?k6 ?k7 ?k8 ?k9 ?kB ?_ ?c2 ?c3 ?c4 ?c5; (case kA => exact rfl); (case kF => exact rfl); (case kK => assumption); (case k1 => k_asm); (case k2 => k_asm); (case k3 => k_asm); (case k4 => k_asm); (case k5 => k_asm); (case k6 => k_is); (case k7 => k_is); (case k8 => ktr_room); (case k9 => first | exact BindsTo.of_eq rfl | exact binds_K (by k_in) rfl (by k_is) rfl rfl rfl); (case c5 => decide); (case kB => exact locs rfl); (case c2 => exact rfl); (case c3 => exact rfl); (case c4 => exact rfl); k_whole; intro g' L' h' FG' F' N' B' X' T'; (try dsimp only); (try k_lift B'); (try k_fold)))))

local macro_rules | `(tactic| walk_at "execs cons") => `(tactic| (k_here; (refine execs_pos (by first | assumption | omega | ((try dsimp only); omega)) ?_); intro tk' htk'))
local macro_rules | `(tactic| walk_at "PosThen") => `(tactic| ((refine PosThen.mk ?_); intro htk'; (try dsimp only at htk'); (try dsimp only)))
local macro_rules | `(tactic| walk_at "call builtin:str.replace") => `(tactic| (k_here; first
  | (refine replace_none (c := 10) (by decide +kernel) (by assumption) ?_)
  | (refine replace_none (c := 13) (by decide +kernel) (by assumption) ?_)
  | (refine replace_none (c := 9) (by decide +kernel) (by assumption) ?_)
  | (refine replace_lit lit_a lit_amp (by first | exact Nat.ne_of_gt (by assumption) | exact Nat.succ_ne_zero _) (Nat.succ_ne_zero _) (Nat.ne_of_lt (Nat.lt_succ_self _)) (by decide +kernel) (by assumption) (by decide) ?_; intro t' k')
  | (refine replace_lit lit_g lit_gt (by first | exact Nat.ne_of_gt (by assumption) | exact Nat.succ_ne_zero _) (Nat.succ_ne_zero _) (Nat.ne_of_lt (Nat.lt_succ_self _)) (by decide +kernel) (by assumption) (by decide) ?_; intro t' k')
  | (refine replace_lit lit_l lit_lt (by first | exact Nat.ne_of_gt (by assumption) | exact Nat.succ_ne_zero _) (Nat.succ_ne_zero _) (Nat.ne_of_lt (Nat.lt_succ_self _)) (by decide +kernel) (by assumption) (by decide) ?_; intro t' k')
  | (refine replace_lit lit_q lit_quot (by first | exact Nat.ne_of_gt (by assumption) | exact Nat.succ_ne_zero _) (Nat.succ_ne_zero _) (Nat.ne_of_lt (Nat.lt_succ_self _)) (by decide +kernel) (by assumption) (by decide) ?_; intro t' k')))
theorem truthy_full {prog : Program} {w : World} {A : Around} {E : Value → Shared → Prop} {s : Shared} {d : Addr} {D : List (PyData × PyData)} {Q : Bool → Shared → Prop} (T : TabAt (PySem.strKind prog w) PyData.str s.heap d D) (hD : D.isEmpty = false) (hf : D.length ≤ 100)
    (h : Q true { s with toks := s.toks + 1 + 1 }) : wpAny (model prog w) A (truthy (.ref d)) Q E s :=
  truthy_tab T (by have : (2:Int)^63 = 9223372036854775808 := by decide
                   omega) (by rw [hD]; exact h)
local macro_rules | `(tactic| walk_at "truthy ref") => `(tactic| (k_here; k_dflt (refine truthy_full (by k_tabat) (by rfl) (by exact Nat.le_of_ble_eq_true rfl) ?_)))

theorem mod_dq {prog : Program} {w : World} {A : Around} {E : Value → Shared → Prop} {s : Shared} {y : Str} {t u : Tok} {Q : Value → Shared → Prop} (hy : y.length ≤ 1000000) (h : ∀ t' k, Q (.str (Str.ofString "\"" ++ y ++ Str.ofString "\"") t') { s with toks := k }) :
    wpAny (model prog w) A (binaryOp .Mod (.str (Str.ofString "\"%s\"") t) (.str y u)) Q E s := by
  refine' KPc.mod_str (T := fun y => Str.ofString "\"" ++ y ++ Str.ofString "\"") ?kpcF hy ?kpcm h
  case kpcF => kpc_eq
  case kpcm => k_dflt kpc_run_s
theorem mod_sq {prog : Program} {w : World} {A : Around} {E : Value → Shared → Prop} {s : Shared} {y : Str} {t u : Tok} {Q : Value → Shared → Prop} (hy : y.length ≤ 1000000) (h : ∀ t' k, Q (.str (Str.ofString "'" ++ y ++ Str.ofString "'") t') { s with toks := k }) :
    wpAny (model prog w) A (binaryOp .Mod (.str (Str.ofString "'%s'") t) (.str y u)) Q E s := by
  refine' KPc.mod_str (T := fun y => Str.ofString "'" ++ y ++ Str.ofString "'") ?kpcF hy ?kpcm h
  case kpcF => kpc_eq
  case kpcm => k_dflt kpc_run_s
local macro_rules | `(tactic| walk_at "binaryOp Mod str str") => `(tactic| (k_here; first | (refine mod_dq (by omega) ?_; intro _ _) | (refine mod_sq (by omega) ?_; intro _ _)))

theorem sp_quoteattr (w : World) (l : List Nat) (t : Tok) (hx : l.length ≤ 200) (h9 : 9 ∉ l) (h10 : 10 ∉ l) (h13 : 13 ∉ l) : Sp w 48 [.str (S l) t] (fun _ _ v => ∃ t', v = .str (S (wr l)) t') := by
  have hfill : PySem.Challenge.rw_kt0004_01.prog = PySem.Challenge.rw_kt0004_01.prog ∧ hd.heap_39 = hd.heap_39 := by k_fill; exact ⟨rfl, rfl⟩
  clear hfill
  refine sp_plain (binds := _) (by k_dflt k_is) (by k_dflt k_is) (fun s X => binds_K X rfl (by k_dflt k_is) rfl rfl rfl) (locs rfl) (by decide) (by rfl) (by rfl) (by rfl) (by exact Nat.succ_pos _) ?_
  unfold Bd
  intro dp un gd outer A₀ base g L mean mg mb s B' X' T' F' N' hpos hk hd hu
  (try dsimp only)
  have hE : g.get? 40 = some { cls := .type "dict", data := .dict #[] } := X' _ _ (by k_dflt k_is)
  have hE2 : Obj.IsDictOf (PySem.strKind PySem.Challenge.rw_kt0004_01.row.prog w) { cls := .type "dict", data := .dict #[] } [] := ⟨#[], 0, ⟨rfl, rfl, rfl⟩, rfl, fun e he => by simp at he, .nil, by simp⟩
  have b0 : l.length ≤ 1048576 := by omega
  have b1 : (r1 38 rAmp l).length ≤ 1048576 := by have := r1_len 38 rAmp (by decide) l; omega
  have b2 : (r1 62 rGt (r1 38 rAmp l)).length ≤ 1048576 := by have := r1_len 38 rAmp (by decide) l; have := r1_len 62 rGt (by decide) (r1 38 rAmp l); omega
  have b3 : (r1 60 rLt (r1 62 rGt (r1 38 rAmp l))).length ≤ 1048576 := by have := r1_len 38 rAmp (by decide) l; have := r1_len 62 rGt (by decide) (r1 38 rAmp l); have := r1_len 60 rLt (by decide) (r1 62 rGt (r1 38 rAmp l)); omega
  have keep : ∀ c, c ∉ l → c ∉ rAmp → c ∉ rGt → c ∉ rLt → c ∉ r1 60 rLt (r1 62 rGt (r1 38 rAmp l)) := fun c h0 h1 h2 h3 hm => (r1_mem hm).elim (fun hm => (r1_mem hm).elim (fun hm => (r1_mem hm).elim h0 h1) h2) h3
  have n10 := keep 10 h10 (by decide) (by decide) (by decide)
  have n13 := keep 13 h13 (by decide) (by decide) (by decide)
  have n9 := keep 9 h9 (by decide) (by decide) (by decide)
  clear keep
  have c3 : (S (r1 60 rLt (r1 62 rGt (r1 38 rAmp l)))).length ≤ 43200 := by rw [S_len]; have := r1_len 38 rAmp (by decide) l; have := r1_len 62 rGt (by decide) (r1 38 rAmp l); have := r1_len 60 rLt (by decide) (r1 62 rGt (r1 38 rAmp l)); omega
  have c4 : (S (r1 34 rQuot (r1 60 rLt (r1 62 rGt (r1 38 rAmp l))))).length ≤ 259200 := by rw [S_len] at *; have := r1_len 34 rQuot (by decide) (r1 60 rLt (r1 62 rGt (r1 38 rAmp l))); omega
  k_steps
  all_goals first
    | ((with_reducible rename (Builtin.Str.occurrences _ (Str.ofString "\"") _ _ _).isEmpty = true => hq1); exact Fin1.intro (by k_asm) ⟨_, congrArg (fun y => Value.str y _) (qa_1 hq1)⟩)
    | ((with_reducible rename (Builtin.Str.occurrences _ (Str.ofString "\"") _ _ _).isEmpty = false => hq1); (with_reducible rename (Builtin.Str.occurrences _ (Str.ofString "'") _ _ _).isEmpty = true => hq2); exact Fin1.intro (by k_asm) ⟨_, congrArg (fun y => Value.str y _) (qa_2 hq1 hq2)⟩)
    | ((with_reducible rename (Builtin.Str.occurrences _ (Str.ofString "\"") _ _ _).isEmpty = false => hq1); (with_reducible rename (Builtin.Str.occurrences _ (Str.ofString "'") _ _ _).isEmpty = false => hq2); exact Fin1.intro (by k_asm) ⟨_, congrArg (fun y => Value.str y _) (qa_3 hq1 hq2)⟩)
end Mine
end

section
theorem Mine.anew_Un : True := by w_top off; first | walk1 | exact True.intro
open PySem PySem.W PySem.Calls PyProof.Rows
set_option maxRecDepth 100000
set_option maxHeartbeats 4000000
namespace Mine
local macro_rules | `(tactic| walk_at "execs cons") => `(tactic| (k_here; (refine execs_pos (by first | assumption | omega | ((try dsimp only); omega)) ?_); intro tk' htk'))
local macro_rules | `(tactic| walk_at "PosThen") => `(tactic| ((refine PosThen.mk ?_); intro htk'; (try dsimp only at htk'); (try dsimp only)))
local macro_rules | `(tactic| walk_at "call ref") => `(tactic| (k_here; k_dflt (refine wpAny_call ?_; (refine' code_def ?k1 ?k2 ?k3 ?k4 ?k5 ?kA ?kF ?kK ?k6 ?k7 ?k8 ?k9 ?kB ?_ ?c2 ?c3 ?c4 ?c5; (case kA => exact rfl); (case kF => exact rfl); (case kK => assumption); (case k1 => k_asm); (case k2 => k_asm); (case k3 => k_asm); (case k4 => k_asm); (case k5 => k_asm); (case k6 => k_is); (case k7 => k_is); (case k8 => ktr_room); (case k9 => first | exact BindsTo.of_eq rfl | exact binds_K (by k_in) rfl (by k_is) rfl rfl rfl); (case c5 => decide); (case kB => exact locs rfl); (case c2 => exact rfl); (case c3 => exact rfl); (case c4 => exact rfl); k_whole; intro g' L' h' FG' F' N' B' X' T'; (try dsimp only); (try k_lift B'); (try k_fold)))))
local macro_rules | `(tactic| walk_at "call builtin:str.replace") => `(tactic| (k_here; first
  | (refine replace_gen lit_lt lit_l (by decide) (by first | exact Nat.ne_of_gt (by assumption) | exact Nat.succ_ne_zero _) (Nat.succ_ne_zero _) (Nat.ne_of_lt (Nat.lt_succ_self _)) (by decide +kernel) (by assumption) (by decide) ?_; intro t' k')
  | (refine replace_gen lit_gt lit_g (by decide) (by first | exact Nat.ne_of_gt (by assumption) | exact Nat.succ_ne_zero _) (Nat.succ_ne_zero _) (Nat.ne_of_lt (Nat.lt_succ_self _)) (by decide +kernel) (by assumption) (by decide) ?_; intro t' k')
  | (refine replace_gen lit_amp lit_a (by decide) (by first | exact Nat.ne_of_gt (by assumption) | exact Nat.succ_ne_zero _) (Nat.succ_ne_zero _) (Nat.ne_of_lt (Nat.lt_succ_self _)) (by decide +kernel) (by assumption) (by decide) ?_; intro t' k')
  | (refine replace_gen lit_quot lit_q (by decide) (by assumption) (by assumption) (by assumption) (by decide +kernel) (by assumption) (by decide) ?_; intro t' k')))

theorem truthy_one {prog : Program} {w : World} {A : Around} {E : Value → Shared → Prop} {s : Shared} {h₀ : Heap} {L d : Addr} {news : List (Addr × Obj)} {k : Str} {t : Tok} {v : Value} {Q : Bool → Shared → Prop} (N : News h₀ L s.heap news) (hm : (d, one w k t v) ∈ news) (lo : (d == sysModules) = false)
    (h : Q true { s with toks := s.toks + 1 + 1 }) : wpAny (model prog w) A (truthy (.ref d)) Q E s :=
  wpAny_truthy_dict (knd := PySem.strKind prog w) lo (Heap.dictOf_iff.mpr ⟨_, (N _ hm).1, one_is k t v⟩) (by show ((1 : Nat) : Int) < 2 ^ 63; decide) h
local macro_rules | `(tactic| walk_at "truthy ref") => `(tactic| (k_here; k_dflt (refine truthy_one (by k_asm) (by k_mem) (by assumption) ?_)))
local macro_rules | `(tactic| walk_at "exec For Tuple Call cons nil") => `(tactic| (k_here; (rename Fr _ _ _ _ => lF'); (rename News _ _ _ _ => lN'); with_unfolding_all ((refine' For_turns lF' ?_); k_whole; (refine MethodCall_ ?_); (refine ld lF' (by rfl) ?_); (refine kdl_method (knd := PySem.strKind _ _) PySem.F.slot_dict_items PySem.F.type_dict_items lN' (by k_mem) (one_is _ _ _) ?_); (refine callWith_method0 ?_); (refine kdx_view (knd := PySem.strKind _ _) lF' lN' (by k_mem) (one_is _ _ _) (by assumption) ?_); intro D' h' F' N' l1; (try k_lt l1); (refine pair_items (by rfl) F' N' ⟨_, (N' _ (List.mem_cons_self ..)).1, rfl, rfl⟩ (by k_mem) rfl (one_at _ _ _) (by rfl) ?_)); clear lF' lN'; intro i' l1; (try k_lt l1)))

theorem sp_unescape (w : World) (l : List Nat) (t : Tok) (hx : l.length ≤ 200) (a : Addr) (t1 t2 : Tok) (h1 : t1 ≠ 0) (h2 : t2 ≠ 0) (h12 : t1 ≠ t2) (hlo : (a == sysModules) = false) : SpN w 39 [.str (S l) t, .ref a] [(a, one w (Str.ofString "&quot;") t1 (.str (Str.ofString "\"") t2))] (fun _ _ v => ∃ t', v = .str (S (rep rAmp [38] 0 (rep rQuot [34] 0 (rep rGt [62] 0 (rep rLt [60] 0 l))))) t') := by
  have hfill : PySem.Challenge.rw_kt0004_01.prog = PySem.Challenge.rw_kt0004_01.prog ∧ hd.heap_39 = hd.heap_39 := by k_fill; exact ⟨rfl, rfl⟩
  clear hfill
  refine spN_plain (binds := _) (by k_dflt k_is) (by k_dflt k_is) (fun s X => binds_K X rfl (by k_dflt k_is) rfl rfl rfl) (locs rfl) (by decide) (by rfl) (by rfl) (by rfl) (by exact Nat.succ_pos _) ?_
  unfold BdN
  intro dp un gd outer A₀ base g L mean mg mb s B' X' T' F' N' hpos hk hd hu
  (try dsimp only)
  have c1 := rep_len0 (y := rLt) (z := [60]) (by decide) (by decide) l
  have c2 := rep_len0 (y := rGt) (z := [62]) (by decide) (by decide) (rep rLt [60] 0 l)
  have c3 := rep_len0 (y := rQuot) (z := [34]) (by decide) (by decide) (rep rGt [62] 0 (rep rLt [60] 0 l))
  have b0 : l.length ≤ 1048576 := by omega
  have b1 : (rep rLt [60] 0 l).length ≤ 1048576 := by omega
  have b2 : (rep rGt [62] 0 (rep rLt [60] 0 l)).length ≤ 1048576 := by omega
  have b3 : (rep rQuot [34] 0 (rep rGt [62] 0 (rep rLt [60] 0 l))).length ≤ 1048576 := by omega
  k_steps
  exact FinN.intro (by k_asm) (by k_asm) (fun p hp => by rw [List.mem_singleton.mp hp]; k_mem) ⟨_, rfl⟩
end Mine
end

section
theorem Mine.anew_Nn : True := by w_top off; first | walk1 | exact True.intro
open PySem PySem.W PySem.Calls PyProof.Rows
open Sem (wp)
set_option maxRecDepth 100000
namespace Mine

/-- the codes that `exported` looks for on the stack -/
def heldIds : List String := ["bytearray.__contains__", "bytearray.__mod__", "bytearray.__rmod__", "_struct.pack_into.held", "bytearray.find.held"] ++ PySem.Builtin.Bytes.decodersThatHold
def noDec : Code → Bool
  | .builtin id _ => !heldIds.contains id
  | _ => true
/-- no code of a context holds an octet object -/
def Clear (Γ : Ctx) : Prop := noDec Γ.code = true ∧ ∀ x ∈ Γ.below, noDec x.1 = true

def wpN {α : Type} (M : Model) (A : Around) (t : Sem α) (Q : α → Shared → Prop) (E : Value → Shared → Prop) (s : Shared) : Prop :=
  ∀ Γ p, Γ.In A → Clear Γ → wp M Γ t (fun a _ s' => Q a s') (fun e _ s' => E e s') p s
def codeN (M : Model) (A : Around) (c : Code) (R : Result → Shared → Prop) (s : Shared) : Prop :=
  ∀ Γ p, Γ.code = c → Γ.Below A → (∀ x ∈ Γ.below, noDec x.1 = true) → wpCode M Γ R p s

section
variable {α β : Type} {M : Model} {A : Around} {E : Value → Shared → Prop} {s : Shared}
theorem wpN_of_any {t : Sem α} {Q : α → Shared → Prop} (h : wpAny M A t Q E s) : wpN M A t Q E s := fun Γ p hΓ _ => h Γ p hΓ
theorem codeN_of_any {c : Code} {R : Result → Shared → Prop} (h : codeAny M A c R s) : codeN M A c R s := fun Γ p hc hΓ _ => h Γ p hc hΓ
theorem wpN_mono {t : Sem α} {Q Q' : α → Shared → Prop} {E' : Value → Shared → Prop} (h : wpN M A t Q E s) (hQ : ∀ a s, Q a s → Q' a s) (hE : ∀ e s, E e s → E' e s) : wpN M A t Q' E' s :=
  fun Γ p hΓ hC => Sem.wp_mono M Γ t (fun a _ s => hQ a s) (fun e _ s => hE e s) p s (h Γ p hΓ hC)
theorem wpN_bind {m : Sem α} {f : α → Sem β} {Q : β → Shared → Prop} (h : wpN M A m (fun a s' => wpN M A (f a) Q E s') E s) : wpN M A (m >>= f) Q E s := fun Γ p hΓ hC => by
  rw [Sem.wp_bind']
  exact Sem.wp_mono M Γ m (fun a p' s' h' => h' Γ p' hΓ hC) (fun _ _ _ h' => h') p s (h Γ p hΓ hC)
theorem wpN_bindA {m : Sem α} {f : α → Sem β} {Q : β → Shared → Prop} (h : wpAny M A m (fun a s' => wpN M A (f a) Q E s') E s) : wpN M A (m >>= f) Q E s := wpN_bind (wpN_of_any h)
theorem wpN_pure {a : α} {Q : α → Shared → Prop} (h : Q a s) : wpN M A (pure a) Q E s := fun _ _ _ _ => h
theorem wpN_onRaise {m : Sem α} {k : Value → Sem Unit} {Q : α → Shared → Prop} (h : wpN M A m Q (fun e s' => wpN M A (k e) (fun _ s'' => E e s'') E s') s) : wpN M A (m.onRaise k) Q E s := fun Γ p hΓ hC => by
  rw [Sem.wp_onRaise]
  exact Sem.wp_mono M Γ m (fun _ _ _ h' => h') (fun e p' s' h' => h' Γ p' hΓ hC) p s (h Γ p hΓ hC)
theorem wpN_holding {vs : List Value} {m : Sem α} {Q : α → Shared → Prop} (h : wpN M A m Q E s) : wpN M A (holding vs m) Q E s := fun Γ p hΓ hC => by rw [Sem.wp_holding]; exact h Γ p hΓ hC
theorem wpN_keep {vs : List Value} {m : Sem α} {Q : α → Shared → Prop} (h : wpN M A m Q E s) : wpN M A (m.keep vs) Q E s := fun Γ p hΓ hC => by rw [Sem.wp_keep]; exact h Γ p hΓ hC
theorem wpN_runValue {c : Code} {Q : Value → Shared → Prop} (hc : codeN M A c (fun r s' => match r with | .ok (.ret v) => Q v s' | .ok _ => False | .error e => E e s') s) : wpN M A (runValue c) Q E s := fun Γ p hΓ hC => by
  rw [Sem.wp_runValue]
  refine hc _ p rfl (hΓ.enter c none p (by intro x; cases x)) fun x hx => ?_
  rcases List.mem_cons.mp hx with rfl | hx
  · exact hC.1
  · exact hC.2 x hx
theorem wpN_call {f : Value} {pos : List Value} {kw : List (Str × Value)} {Q : Value → Shared → Prop}
    (hc : codeN M A (.call f ⟨pos, kw⟩) (fun r s' => match r with | .ok (.ret v) => Q v s' | .ok _ => False | .error e => E e s') s) : wpN M A (call f pos kw) Q E s := wpN_runValue hc
theorem codeN_of_tree {c : Code} {R : Result → Shared → Prop} (hn : noDec c = true)
    (h : wpN M (A.under c) (M.den c) (fun fin s' => match fin with | .done f => R (.ok f) s' | .again c' => c'.quiet = true ∧ codeN M A c' R s') (fun e s' => R (.error e) s') s) : codeN M A c R s := fun Γ p hc hΓ hb => by
  rw [wpCode_iff_wp, hc]
  refine Sem.wp_mono M Γ _ (fun fin p' s' h' => ?_) (fun _ _ _ h' => h') p s (h Γ p (hc ▸ hΓ.in) ⟨hc ▸ hn, hb⟩)
  cases fin with
  | done f => exact h'
  | again c' => exact ⟨h'.1, h'.2 (Γ.goto c') p' rfl (hΓ.goto c') hb⟩
theorem codeN_mono {c : Code} {R R' : Result → Shared → Prop} (h : codeN M A c R s) (hR : ∀ r s, R r s → R' r s) : codeN M A c R' s := fun Γ p hc hΓ hb => wpCode_mono hR (h Γ p hc hΓ hb)
theorem wpN_execs_cons {env : Env} {st : Stmt} {rest : List Stmt} {Q : Flow → Shared → Prop}
    (h : wpN M A (exec st env) (fun f s' => match f with | .next => wpN M A (execs rest env) Q E s' | f => Q f s') E s) : wpN M A (execs (st :: rest) env) Q E s := by
  rw [execs_cons]
  refine wpN_bind (wpN_mono h (fun f s' h' => ?_) fun _ _ x => x)
  cases f <;> first | exact h' | exact wpN_pure h'
theorem wpN_Assign_Name {env : Env} {x : Str} {pos' pos : Pos} {value : Expr} {Q : Flow → Shared → Prop}
    (h : wpN M A (eval value env) (fun v s₁ => wpAny M A (storeName env x v) (fun _ => Q .next) E s₁) E s) (hs : swapsWith value (some (.Name x pos')) pos.line env = pure false := by rfl) :
    wpN M A (exec (.Assign [.Name x pos'] value pos) env) Q E s := by
  rw [exec_Assign_Name env x pos' value pos hs]
  exact wpN_bindA (wpAny_standAt (wpN_bind (wpN_mono h (fun v s₁ h₁ => wpN_of_any (wpAny_bind (wpAny_standAt (wpAny_bind (wpAny_bindName (wpAny_mono h₁ (fun _ _ x => wpAny_pure x) fun _ _ x => x)))))) fun _ _ x => x)))
/-- a call by a name, as any -/
theorem wpN_Call_Name {env : Env} {id : Str} {p pos : Pos} {args : List Expr} {Q : Value → Shared → Prop}
    (h : wpAny M A (eval (.Name id p) env) (fun f s₁ => wpN M A (callWith pos f [] (backTo pos (starEach args env)) []) Q E s₁) E s) : wpN M A (eval (.Call (.Name id p) args [] pos) env) Q E s := by
  show wpN M A ((eval (.Name id p) env) >>= fun f => callWith pos f [] (backTo pos (starEach args env)) []) Q E s
  exact wpN_bindA h
theorem wpN_tail {t : Sem Value} {Q : Value → Shared → Prop} (h : wpN M A t Q E s) : wpN M A (t >>= fun r => holding [r] point >>= fun _ => pure r) Q E s :=
  wpN_bind (wpN_mono h (fun _ _ hr => wpN_of_any (wpAny_bind (wpAny_holding (wpAny_point (wpAny_pure hr))))) fun _ _ x => x)
theorem callN_function {pos : Pos} {a : Addr} {o : Obj} {fd : FuncData} {args : List (Bool × Sem Value)} {Q : Value → Shared → Prop} (hplain : args.any (·.1) = false)
    (h : wpAny M A (evalArgs (.ref a) true args []) (fun x s₁ => (s₁.heap.get? a = some o ∧ o.data = .func fd) ∧ wpN M A (call (.ref a) x.pos x.kw) Q E s₁) E s) : wpN M A (callWith pos (.ref a) [] args []) Q E s := by
  unfold callWith
  refine wpN_bindA (wpAny_holding (wpAny_mono h (fun x s₁ h₁ => wpN_bindA (wpAny_standAt ?_)) fun _ _ x => x))
  simp only [hplain, List.any_nil, Bool.or_false, List.nil_append]
  refine wpN_bindA ?_
  unfold keeperOf
  refine wpAny_bind (wpAny_load h₁.1.1 ?_)
  rw [h₁.1.2]
  refine wpAny_pure ?_
  dsimp only
  split
  · exact wpN_tail h₁.2
  · exact wpN_tail (by unfold callMarked; exact wpN_keep h₁.2)
theorem callN_type {pos : Pos} {T : String} {args : List (Bool × Sem Value)} {Q : Value → Shared → Prop} (hplain : args.any (·.1) = false)
    (h : wpAny M A (evalArgs (.type T) true args []) (fun x s₁ => wpN M A (call (.type T) x.pos x.kw) Q E s₁) E s) : wpN M A (callWith pos (.type T) [] args []) Q E s := by
  unfold callWith
  refine wpN_bindA (wpAny_holding (wpAny_mono h (fun x s₁ h₁ => wpN_bindA (wpAny_standAt ?_)) fun _ _ x => x))
  simp only [hplain, List.any_nil, Bool.or_false, List.nil_append]
  refine wpN_bindA (wpAny_pure ?_)
  exact wpN_tail h₁
end

section
variable {prog : Program} {w : World} {A : Around} {s : Shared} {R : Result → Shared → Prop}
theorem codeN_func {body : List Stmt} {env : Env} (h : wpN (model prog w) (A.deeper env) (execs body env) (fun f s' => R (.ok (.ret (match f with | .ret v => v | _ => .none))) s') (fun _ _ => False) s) :
    codeN (model prog w) A (.func body env) R s := by
  refine codeN_of_tree rfl ?_
  show wpN _ (A.deeper env) (do point; match ← (execs body env).onRaise (leaving env) with | .ret v => ret v | _ => ret .none) _ _ s
  refine wpN_bindA (wpAny_point (wpN_bind (wpN_onRaise (wpN_mono h (fun f s' h' => ?_) fun _ _ h' => h'.elim))))
  cases f <;> exact wpN_pure h'
theorem codeN_call_function {a : Addr} {args : Args} {o : Obj} {fd : FuncData} {body : List Stmt} (hroom : A.depth < recursionLimit) (ho : s.heap.get? a = some o)
    (hd' : o.data = .func fd) (hco : fd.scope.isCoroutine = false) (hgen : fd.scope.isGenerator = false) (hbody : fd.body = .stmts body) (hcd : s.heap.CodeRec fd.code fd.qualname)
    (h : wpAny (model prog w) A.in1 (bindArgs fd args) (fun binds s₁ =>
      wpAny (model prog w) A.in1 (newFunctionEnv fd.scope fd.globals fd.closure binds (fd.qualname ++ ".<locals>.") (some a) fd.code none fd.builtins)
        (fun env s₂ => s₂.heap.NoLimit ∧ codeN (model prog w) A (.func body env) R s₂) (fun e s' => R (.error e) s') s₁) (fun e s' => R (.error e) s') s) : codeN (model prog w) A (.call (.ref a) args) R s := by
  refine codeN_of_tree rfl (wpN_of_any ?_)
  show wpAny _ A.in1 (callAny (.ref a) args) _ _ s
  simp only [callAny]
  refine wpAny_bind (wpAny_load ho ?_)
  obtain ⟨c, oc, vs, tq, hc, hoc, hdc, hq⟩ := hcd
  simp only [hd', callFunction, hco, hgen, hbody, hc]
  rw [hc] at h
  refine wpAny_bind (m := field (.ref c) 1) (wpAny_field hoc hdc hq (wpAny_bind (wpAny_pure ?_)))
  exact wpAny_bind (wpAny_mono h (fun binds s₁ h₁ => wpAny_bind (wpAny_mono h₁ (fun env s₂ h₂ => wpAny_bind (wpAny_enterFrame h₂.1 hroom (wpAny_pure (And.intro rfl h₂.2)))) fun _ _ h' => h')) fun _ _ h' => h')
theorem codeN_builtin {id : String} {args : Args} {b : Builtin} (hn : heldIds.contains id = false) (hb : entryFor table id = some b)
    (h : wpN (model prog w) (A.under (.builtin id args)) (b args) (fun fin s' => match fin with | .done f => R (.ok f) s' | .again c' => c'.quiet = true ∧ codeN (model prog w) A c' R s') (fun e s' => R (.error e) s') s) : codeN (model prog w) A (.builtin id args) R s := by
  refine codeN_of_tree (by show (!heldIds.contains id) = true; rw [hn]; rfl) ?_
  show wpN _ _ (match entryFor table id with | some b => b args | none => unsupported ((withoutEnding? id "#data").getD id)) _ _ s
  rw [hb]; exact h
theorem codeN_call_builtin {id : String} {args : Args} {b : Builtin} (hq : plainId id = true) (hn : heldIds.contains id = false) (hb : entryFor table id = some b)
    (h : wpAny (model prog w) A.in1 (checkBuiltinCall id args) (fun _ s₁ => wpN (model prog w) A.in1 (b args)
      (fun fin s' => match fin with | .done f => R (.ok f) s' | .again c' => c'.quiet = true ∧ codeN (model prog w) A c' R s') (fun e s' => R (.error e) s') s₁) (fun e s' => R (.error e) s') s) : codeN (model prog w) A (.call (.builtin id) args) R s := by
  refine codeN_of_tree rfl (wpN_of_any ?_)
  show wpAny _ A.in1 (do checkBuiltinCall id args; again (.builtin id args)) _ _ s
  refine wpAny_bind (wpAny_mono h (fun _ s₁ h₁ => wpAny_pure (And.intro (plainId_quiet hq args) (codeN_builtin hn hb (by rw [Around.under_plainId hq args]; exact h₁)))) fun _ _ h' => h')
end
theorem noDec_held {id : String} {args : Args} (h : noDec (Code.builtin id args) = true) : heldIds.contains id = false := by
  have h' : (!heldIds.contains id) = true := h
  cases hd : heldIds.contains id with
  | false => rfl
  | true => rw [hd] at h'; cases h'
theorem noDec_id {id : String} {args : Args} (h : noDec (Code.builtin id args) = true) : PySem.Builtin.Bytes.decodersThatHold.contains id = false := by
  cases hd : PySem.Builtin.Bytes.decodersThatHold.contains id with
  | false => rfl
  | true =>
    exfalso
    have : heldIds.contains id = true := by
      rw [List.contains_iff_mem] at hd ⊢
      exact List.mem_append_right _ hd
    rw [noDec_held h] at this; cases this
theorem wpN_stackAny {M : Model} {A : Around} {E : Value → Shared → Prop} {s : Shared} {f : Code × Pos → Bool} {Q : Bool → Shared → Prop} (hf : ∀ c p, noDec c = true → f (c, p) = false) (h : Q false s) : wpN M A (do return (← stack).any f) Q E s := fun Γ p _ hC => by
  show Q (((Γ.code, p) :: Γ.below).any f) s
  have : ((Γ.code, p) :: Γ.below).any f = false := by
    rw [List.any_eq_false]
    rintro ⟨c, q⟩ hx
    rw [hf c q (by
      rcases List.mem_cons.mp hx with e | hx
      · cases e; exact hC.1
      · exact hC.2 _ hx)]
    exact Bool.false_ne_true
  rw [this]; exact h
theorem held_ne {id k : String} (h : heldIds.contains id = false) (hk : heldIds.contains k = true) : ¬ id = k := fun e => by rw [e, hk] at h; cases h
/-- nothing on a clear stack holds an octet object -/
theorem wpN_exported {M : Model} {A : Around} {E : Value → Shared → Prop} {s : Shared} {self : Value} {Q : Bool → Shared → Prop} (h : Q false s) : wpN M A (PySem.Builtin.Bytes.exported self) Q E s := by
  unfold PySem.Builtin.Bytes.exported
  refine wpN_stackAny (fun c p h1 => ?_) h
  cases c with
  | builtin id args =>
    have h2 := noDec_held h1
    have n1 := held_ne (k := "bytearray.__contains__") h2 (by decide +kernel)
    have n2 := held_ne (k := "bytearray.__mod__") h2 (by decide +kernel)
    have n3 := held_ne (k := "bytearray.__rmod__") h2 (by decide +kernel)
    have n4 := held_ne (k := "_struct.pack_into.held") h2 (by decide +kernel)
    have n5 := held_ne (k := "bytearray.find.held") h2 (by decide +kernel)
    have h3 := noDec_id h1
    obtain ⟨pos, kw⟩ := args
    delta PySem.Builtin.Bytes.exported.match_1
    show (dite (id = "bytearray.__contains__") _ _) = false
    rw [dif_neg n1, dif_neg n2, dif_neg n3, dif_neg n4, dif_neg n5]
    cases pos with
    | nil => rfl
    | cons v r =>
      show (_ && _) = false
      rw [h3, Bool.and_false]
  | _ => rfl
end Mine
end

section
theorem Mine.anew_Hn : True := by w_top off; first | walk1 | exact True.intro
open PySem PySem.W PySem.Calls PyProof.Rows PySem.Spec
open Sem (wp)
set_option maxRecDepth 100000
namespace Mine

noncomputable abbrev row1 : OpenRow := PySem.Challenge.rw_kt0004_01.row
abbrev looseA : List Str := [Str.ofString "escape", Str.ofString "unescape", Str.ofString "quoteattr"]
abbrev addrsA : List Addr := [2, 3, 6, 15, 17, 18, 20, 21, 22, 23, 24, 26, 27, 29, 30, 31, 32, 33, 35, 36, 38, 39, 40, 41, 42, 44, 45, 47, 48, 49, 51, 52, 54, 55, 56, 59, 60, 61, 64, 65, 66, 69, 70, 71, 74, 75]
noncomputable abbrev hookA : Hook := kHook hd.heap_39 addrsA (fun _ => by kernel_rfl)
noncomputable abbrev XtA : Shared → Bool := fun s => xlAt hd.view_39 [] s && recOk (RowW.records row1.toRowW) s

/-- the top, in one check -/
theorem leftA : LeftO row1.prog hd.view_39 looseA XtA hookA.obs hookA.val 880 := fun w => by kernel_rfl

theorem makersNil {r : RowW} (hm : r.makers = []) : r.claim.makers = [] := by show r.makers.map _ = []; rw [hm]; rfl
/-- the caller's own context is clear -/
theorem clear0 : Clear (⟨.builtin "claim.caller" {}, none, none, [], none⟩ : PySem.Ctx) := ⟨by decide +kernel, fun _ h => nomatch h⟩

theorem ends0 {prog : Program} {w : World} {t : Sem Fin} {s : Shared} {R : Result → Shared → Prop} (hreg : s.asleep)
    (h : wpN (model prog w) callerA t (fun fin s' => ∃ f, fin = .done f ∧ R (.ok f) s' ∧ leftWithCleanup s'.gens = false) (fun e s' => R (.error e) s' ∧ leftWithCleanup s'.gens = false) s) :
    ∃ n r s' s'', runN (denote table) prog w n s ⟨t, .builtin "claim.caller" {}, default, []⟩ = .halted (outcomeOf r) s' ∧
      schedN (denote table) prog w n (.single s ⟨t, .builtin "claim.caller" {}, default, []⟩) = .halted (outcomeOf r) s' ∧ s'.forget = s''.forget ∧ R r s'' := by
  have h1 : wp (model prog w) (⟨.builtin "claim.caller" {}, none, none, [], none⟩ : PySem.Ctx) t
      (Sem.finPost (model prog w) (⟨.builtin "claim.caller" {}, none, none, [], none⟩ : PySem.Ctx) fun r s' => R r s' ∧ leftWithCleanup s'.gens = false)
      (fun e _ s' => R (.error e) s' ∧ leftWithCleanup s'.gens = false) default s := by
    refine Sem.wp_mono _ _ t (fun fin p' s' h' => ?_) (fun _ _ _ h' => h') default s (h _ default caller_in clear0)
    obtain ⟨f, rfl, hf⟩ := h'
    exact hf
  obtain ⟨n, r, s₁, s₂, hs, hn, hfo, hR⟩ := wp_halts_full (M := model prog w) (R := R) hreg h1
  exact ⟨n, r, s₂, s₁, hn, hs, hfo, hR⟩

section
variable {d : DefRec} {kwd : List (Str × Expr)}
abbrev WalkQ (d : DefRec) (kwd : List (Str × Expr)) : Prop :=
  ∀ (w : World) (s₀ s₁ : Shared) (mg mb : Str → Option Value), Ground hd.view_39 looseA row1.records (XL hd.view_39 []) w s₀ mg mb s₁.heap → hookA.says w s₁.heap → ∀ (a : Addr) (o : Obj) (pm cd doc dV kV : Value), s₁.heap.get? a = some o →
    o.data = .func { docDef d.name d.params d.body d.scope pm cd doc with defaults := dV, kwdefaults := kV } → s₁.heap.CodeRec cd d.name → Dflts mg s₁.heap d.params kwd dV kV → mg d.name = some (.ref a) → s₁.gens = #[] →
    ∀ (args : List WData) (vals : List Value) (as : List Addr), row1.claim.pre args = true → WData.layableAll args = true → ReadsAllW row1.records (classAt s₀.heap) s₁.heap vals args as → WellAll w.params s₁.heap vals args → (∀ a ∈ as, (a == sysModules) = false) →
      wpN (model row1.prog w) callerA (PySem.call (.ref a) vals) (fun v s' => GoodWG row1.claim (classAt s₀.heap) (ExcName.means s₀.heap) args s₁ (.ok (.ret v)) s')
        (fun e s' => GoodWG row1.claim (classAt s₀.heap) (ExcName.means s₀.heap) args s₁ (.error e) s') s₁

theorem headN (hdef : defOf hd.view_39 row1.name = some (d, kwd)) (hp : row1.prog.theDef row1.name = some (d.params, d.body, d.scope))
    (hk : kwWritten? d.params.kwonlyargs d.params.kw_defaults = some kwd) (hr : row1.records.isEmpty = true) (k1 : row1.wellSaid = true)
    (ok : (chainsOk hd.view_39 && opensWell row1.prog && (frees row1.toRowW && row1.within.isEmpty)) = true) (hb : row1.prog.bare) (hw : row1.toRowW.promised)
    (walk : WalkQ d kwd) : row1.Holds := by
  obtain ⟨ok, kf⟩ := Bool.and_eq_true_iff.mp ok
  obtain ⟨hch, o1⟩ := Bool.and_eq_true_iff.mp ok
  obtain ⟨k5, k6⟩ := Bool.and_eq_true_iff.mp kf
  obtain ⟨hsame, hu, ha, hap, hm⟩ := frees_parts k5
  have hX : ∀ s, XtA s = true → XL hd.view_39 [] (s.heap.nsMap mainGlobals) s.heap ∧ RecFacts row1.records s.heap := fun s e => ⟨xl_of s (Bool.and_eq_true_iff.mp e).1, recFacts_of (Bool.and_eq_true_iff.mp e).2⟩
  refine ⟨k1, hw, ⟨⟨hb, o1, makersNil hm⟩, hw.witness, fun w => ⟨(leftA.behind (XP := fun mg h => XL hd.view_39 [] mg h ∧ RecFacts row1.records h) hX hch w).1, fun s' hs' => ?_⟩⟩⟩
  obtain ⟨s₀, hf, hg0, s, hT, hz, hgens, hg, G00, y⟩ := (leftA.behind (XP := fun mg h => XL hd.view_39 [] mg h ∧ RecFacts row1.records h) hX hch w).2 s' hs'
  have G0 : Ground hd.view_39 looseA [] (XL hd.view_39 []) w s (s.heap.nsMap mainGlobals) (s.heap.nsMap builtinsNs) s.heap :=
    ⟨G00.T, G00.B, G00.D, G00.TE, G00.TD, G00.W, G00.X.1, G00.cls, G00.has, G00.apart, G00.once, G00.K⟩
  have RF := G00.X.2
  refine ⟨s₀, hf, hg0, s, hT, fun n hn => ?_, RF.1, RF.2.1, ?_⟩
  · obtain rfl : n = row1.name := by split at hn <;> simp_all
    exact pinned_of_view hg G0 hdef hp hk
  have hgens : s.gens = #[] := Array.eq_empty_of_size_eq_zero (beq_iff_eq.mp hgens)
  have G : Ground hd.view_39 looseA row1.records (XL hd.view_39 []) w s _ _ s.heap := RF.ground G0
  intro args hpre hlay ord hord
  obtain ⟨⟨vs, s₁⟩, hlaid⟩ := Option.isSome_iff_exists.mp (layAllW_isSome (P := w.params) (ord := ord) G.has args row1.args s (pre_splitW hpre).1)
  have keeps := layAllW_keeps _ _ _ hlaid
  have hal := layAllW_rest _ _ _ hlaid
  obtain ⟨as, hrd, hin, hold⟩ := reads_layAllW hord _ _ _ hlaid hlay s₁.heap (fun _ _ e => e)
  have L : Laid row1.records w s s₁ args vs as := ⟨⟨ord, hord, hlaid⟩, hrd, hin, hold, keeps, hal.1.trans hgens, hal.2.2.1⟩
  have G₁ := G.keeps XL.keeps keeps
  obtain ⟨a, o, pm, cd, doc, dV, kV, h1, h2, h3, h4, h5⟩ := G₁.fn hdef
  have h := walk w s s₁ _ _ G₁ (hookA.keeps _ _ _ (hookA.of w s y) keeps) a o pm cd doc dV kV h2 h3 h4 h5 (defOf_name hdef ▸ h1) L.gens args vs as hpre hlay L.reads L.well (L.low G.low)
  have hi := ident_freeW hu ha hap
  have hwi : row1.toRowW.claim.within = [] := List.isEmpty_iff.mp k6
  have hend : ∀ r s', GoodWG row1.claim (classAt s.heap) (ExcName.means s.heap) args s₁ r s' → (row1.toRowW.claim.Ends s args vs s₁ r s' ∧ s'.os = s.os ∧ namesKept row1.prog row1.keeps s.heap s'.heap) ∧ leftWithCleanup s'.gens = false := fun r s' g =>
    have z := GoodWG.laid (c := row1.toRowW.claim) hsame hwi hi L g
    ⟨⟨z.1, z.2.1, namesKept_of hT hg row1.keeps keeps g.2.1.old⟩, leftWithCleanup_false_of_bare z.2.2⟩
  obtain ⟨k, r, s', s'', hrun, hsched, hfo, hcase, hos, hkp⟩ := ends0 (prog := row1.prog) (w := w) (s := s₁)
    (t := do match ← nsGet mainNs row1.name with
      | some f => do ret (← PySem.call f vs)
      | none => unsupported "claim.caller:no-such-global")
    (R := fun r s' => row1.toRowW.claim.Ends s args vs s₁ r s' ∧ s'.os = s.os ∧ namesKept row1.prog row1.keeps s.heap s'.heap)
    (Shared.asleep_of_life hal.2.2.2 hz)
    (wpN_bindA (wpAny_nsGet G₁.T.g (by
      rw [h1]
      exact wpN_bind (wpN_mono h (fun v s' g => wpN_pure ⟨_, rfl, (hend _ s' g).1, (hend _ s' g).2⟩) fun e s' g => ⟨(hend _ s' g).1, (hend _ s' g).2⟩))))
  obtain ⟨eh, _, _, eo, _⟩ := Shared.forget_eq hfo
  have hcase := hcase.congr eh
  rw [← eh] at hkp
  rw [← eo] at hos
  have hlife : s'.heap.life = s.heap.life := (runN_life _ _ _ hrun).trans hal.2.2.2
  refine ⟨vs, s₁, hlaid, k, _, s', hsched, ?_, (fun _ i x hx => by rw [hgens] at hx; simp at hx), fun q => ⟨hkp, noTable (writes := row1.writes) (R := row1.records) (by rw [hr, Bool.or_true]) q⟩, by rw [hlife], Shared.rest_eq hos⟩
  rcases hcase with ⟨v, rfl, d1, d2, d3, d4, d5⟩ | ⟨e, ob, cls, rfl, d1, d2, d3, d4, d5⟩
  · exact .inl ⟨v, rfl, d1, d2, d3, fun b o y _ => d4 b o y, d5⟩
  · exact .inr ⟨e, ob, cls, rfl, d1, d2, d3, d4, fun b o y _ => d5 b o y⟩
end
end Mine
end

section
theorem Mine.anew_Ba : True := by w_top off; first | walk1 | exact True.intro
open PySem PySem.W PySem.Calls PyProof.Rows
open Sem (wp)
set_option maxRecDepth 100000
namespace Mine
open PySem.Builtin
/-- an octet object -/
def baObj (b : Array UInt8) : Obj := { cls := .type "bytearray", data := .bytearray b }

theorem KBy_if {α : Type} {M : Model} {A : Around} {E : Value → Shared → Prop} {s : Shared} {c : Bool} {a b : Sem α} {Q : α → Shared → Prop} (hc : c = false) (h : wpAny M A b Q E s) : wpAny M A (if c = true then a else b) Q E s := by subst hc; exact h
theorem wpN_of_ite_false {α : Type} {M : Model} {A : Around} {E : Value → Shared → Prop} {s : Shared} {c : Bool} {a b : Sem α} {Q : α → Shared → Prop} (hc : c = false) (h : wpN M A b Q E s) : wpN M A (if c = true then a else b) Q E s := by subst hc; exact h
theorem bm_if_true {α : Type} {M : Model} {A : Around} {E : Value → Shared → Prop} {s : Shared} {c : Bool} {a b : Sem α} {Q : α → Shared → Prop} (hc : c = true) (h : wpAny M A a Q E s) : wpAny M A (if c = true then a else b) Q E s := by subst hc; exact h
namespace BF
theorem mro : mroOf (.type "bytearray") = pure [.type "bytearray", .type "object"] := by rw [mroOf_type]; kernel_rfl
theorem look_new : typeLookup (.type "bytearray") "__new__" = pure (some (.builtin "bytearray.__new__")) := by rw [typeLookup_type, builtinLookup_eq_fast]; kernel_rfl
theorem slot_init : Slot "bytearray" "__init__" "bytearray.__init__" :=
  .of (owner := "bytearray") (n := "__init__") (by rw [typeLookup_type, builtinLookup_eq_fast]; kernel_rfl) (by decide +kernel) (by decide +kernel) (by decide +kernel)
    (by first | exact .inl (by decide +kernel) | exact .inr (by decide +kernel)) (by rw [isSubtype_type]; kernel_rfl)
theorem slot_setitem : Slot "bytearray" "__setitem__" "bytearray.__setitem__" :=
  .of (owner := "bytearray") (n := "__setitem__") (by rw [typeLookup_type, builtinLookup_eq_fast]; kernel_rfl) (by decide +kernel) (by decide +kernel) (by decide +kernel)
    (by first | exact .inl (by decide +kernel) | exact .inr (by decide +kernel)) (by rw [isSubtype_type]; kernel_rfl)
theorem called : TypeCalled "bytearray" "bytearray.__new__" "bytearray.__init__" :=
  ⟨by decide +kernel, by decide +kernel, ⟨_, _, mro⟩, madeBy_type mro look_new (by decide +kernel), by decide +kernel, by rw [isSubtype_type]; kernel_rfl, slot_init⟩
theorem typeCall (a : Value) : checkTypeCall "bytearray" ⟨[a], []⟩ = pure () := by kernel_rfl
theorem newCall (a : Value) : checkBuiltinCall "bytearray.__new__" ⟨[.type "bytearray", a], []⟩ = pure () := by kernel_rfl
theorem entry_new : entryFor table "bytearray.__new__" = some Builtin.«list.__new__» := entryFor_alias (id' := "list.__new__") (by kernel_rfl) (by decide +kernel) (by decide +kernel) (by kernel_rfl)
theorem entry_init : entryFor table "bytearray.__init__" = some Builtin.«bytearray.__init__» := by first | exact entryFor_of_tree (by kernel_rfl) | exact entryFor_of_fast (by kernel_rfl)
theorem entry_setitem : entryFor table "bytearray.__setitem__" = some Builtin.«bytearray.__setitem__» := by first | exact entryFor_of_tree (by kernel_rfl) | exact entryFor_of_fast (by kernel_rfl)
theorem plain_new : plainId "bytearray.__new__" = true := by decide +kernel
theorem plain_init : plainId "bytearray.__init__" = true := by decide +kernel
theorem owner_ba : splitId "bytearray.__init__" = some ("bytearray", "__init__") := by decide +kernel
theorem args_init (a b : Value) : argsOk "bytearray.__init__" ⟨[a, b], []⟩ := by first | kernel_rfl | (unfold argsOk; kernel_rfl)
theorem args_setitem (a b c : Value) : argsOk "bytearray.__setitem__" ⟨[a, b, c], []⟩ := by first | kernel_rfl | (unfold argsOk; kernel_rfl)
theorem sub : isSubtype (.type "bytearray") (.type "bytearray") = pure true := by rw [isSubtype_type]; kernel_rfl
theorem look_release : typeLookup (.type "bytearray") "__release_buffer__" = pure (some (.builtin "bytearray.__release_buffer__")) := by rw [typeLookup_type, builtinLookup_eq_fast]; kernel_rfl
theorem look_buffer : typeLookup (.type "bytearray") "__buffer__" = pure (some (.builtin "bytearray.__buffer__")) := by rw [typeLookup_type, builtinLookup_eq_fast]; kernel_rfl
theorem look_bytes : typeLookup (.type "bytearray") "__bytes__" = pure none := by rw [typeLookup_type, builtinLookup_eq_fast]; kernel_rfl
theorem look_index : typeLookup (.type "bytearray") "__index__" = pure none := by rw [typeLookup_type, builtinLookup_eq_fast]; kernel_rfl
theorem bind_init (v : Value) : Builtin.Bytes.bindOptional "bytearray.__init__" "bytearray" ["source", "encoding", "errors"] [v] [] = pure [some v, none, none] := by kernel_rfl
end BF

set_option maxHeartbeats 4000000 in
theorem owner_new : ("bytearray.__new__".splitOn ".__new__").headD "" = "bytearray" := by simp +decide [String.splitOn, String.splitOnAux]

section
variable {prog : Program} {w : World} {A : Around} {E : Value → Shared → Prop} {s : Shared}
theorem code_ba_new (a : Value) {Q₁ : Value → Shared → Prop} (h : Q₁ (.ref s.heap.objs.size) { s with heap := s.heap.push (baObj #[]) }) :
    codeAny (model prog w) A (.call (.builtin "bytearray.__new__") ⟨[.type "bytearray", a], []⟩) (wants Q₁ E) s := by
  refine codeAny_of_tree ?_
  show wpAny _ A.in1 (do checkBuiltinCall "bytearray.__new__" ⟨[.type "bytearray", a], []⟩; again (.builtin "bytearray.__new__" ⟨[.type "bytearray", a], []⟩)) _ _ s
  refine wpAny_bind (wpAny_of_eq (BF.newCall a) (wpAny_pure ⟨plainId_quiet BF.plain_new _, codeAny_builtin_stack BF.entry_new rfl fun p st => ?_⟩))
  rw [Around.under_plainId BF.plain_new _]
  have hsub := BF.sub
  have hown := owner_new
  obtain ⟨hp, g, d, tk, os⟩ := s
  simp only [hown]
  wp_walk
  exact h

theorem payload_ba {M : Model} {D : Addr} {b : Array UInt8} {Q : Array UInt8 → Shared → Prop} (hD : s.heap.get? D = some (baObj b)) (h : Q b s) : wpAny M A (Bytes.payload (.ref D)) Q E s := by
  unfold Bytes.payload Bytes.payload?
  refine wpAny_bind (wpAny_bind (wpAny_load hD ?_))
  exact wpAny_pure (wpAny_pure h)
theorem own_ba {D : Addr} {b : Array UInt8} {name : String} {id : String} {Q : Bool → Shared → Prop} (hD : s.heap.get? D = some (baObj b)) (hl : typeLookup (.type "bytearray") (name : Str) = pure (some (.builtin id))) (he : (!id.endsWith ("." ++ name)) = false)
    (hd : id.dropRight (name.length + 1) = "bytearray") (h : Q true s) : wpAny (model prog w) A (Bytes.slotIsOwn (.ref D) name) Q E s := by
  unfold Bytes.slotIsOwn
  refine wpAny_bind (wpAny_specialOf ⟨_, hD, rfl⟩ hl ?_)
  dsimp only
  rw [he]
  refine KBy_if (by rfl) ?_
  have key : ∀ x : String, x = "bytearray" → wpAny (model prog w) A (isInstance (.ref D) (.type x)) Q E s := fun x hx => by rw [hx]; exact wpAny_isInstance ⟨_, hD, rfl⟩ BF.sub h
  exact key _ hd
theorem release_ba {D : Addr} {b : Array UInt8} {Q : Bool → Shared → Prop} (hD : s.heap.get? D = some (baObj b)) (h : Q false s) : wpAny (model prog w) A (Bytes.ownRelease (.ref D)) Q E s := by
  unfold Bytes.ownRelease
  exact wpAny_bind (own_ba hD BF.look_release (by decide +kernel) (by decide +kernel) (wpAny_pure h))
theorem write_ba {M : Model} {D : Addr} {b : Array UInt8} {f : Array UInt8 → Array UInt8} {Q : Unit → Shared → Prop} (hD : s.heap.get? D = some (baObj b)) (hz : (f b).size ≤ sizeLine)
    (h : ∀ h', h'.get? D = some (baObj (f b)) → Heap.SameBut D s.heap h' → Q () { s with heap := h' }) : wpAny M A (Bytes.write (.ref D) f) Q E s := by
  show wpAny M A (updateBytearray D f) Q E s
  unfold updateBytearray
  refine wpAny_bind (wpAny_load hD ?_)
  show wpAny M A (update D (Obj.mapBytearray f) >>= fun _ => lookBehind D) Q E s
  refine wpAny_bind (wpAny_update hD ?_)
  have h2 : (s.heap.update D (Obj.mapBytearray f)).get? D = some (baObj (f b)) := Heap.get?_update_self (Obj.mapBytearray f) hD rfl
  refine wpAny_lookBehind h2 ?_ (h _ h2 (Heap.SameBut.update ..))
  show (if (f b).size > sizeLine then some "bytearray:memory" else none) = none
  rw [if_neg (Nat.not_lt.mpr hz)]

theorem init_ba {A' : Around} {n : Int} {t : Tok} {R : Result → Shared → Prop} {D : Addr} (h0 : 0 ≤ n) (hz : n ≤ 16777216) (hD : s.heap.get? D = some (baObj #[]))
    (h : ∀ h', h'.get? D = some (baObj (Array.replicate n.toNat 0)) → Heap.SameBut D s.heap h' → R (.ok (.ret .none)) { s with heap := h' }) :
    wpN (model prog w) A (Builtin.«bytearray.__init__» ⟨[.ref D, .int n t], []⟩)
      (fun fin s' => match fin with | .done f => R (.ok f) s' | .again c' => c'.quiet = true ∧ codeN (model prog w) A' c' R s') (fun e s' => R (.error e) s') s := by
  unfold Builtin.«bytearray.__init__»
  refine wpN_bindA (release_ba hD ?_)
  refine wpN_of_ite_false rfl ?_
  refine wpN_bindA (wpAny_of_eq (BF.bind_init _) ?_)
  refine wpN_bindA (wpAny_of_eq (a := ()) rfl ?_)
  refine wpN_bindA (wpAny_of_eq (a := ()) rfl ?_)
  refine wpN_bind ?_
  refine wpN_bind (wpN_exported ?_)
  refine wpN_of_any ?_
  show wpAny _ _ (Bytes.exportsOf (.ref D) >>= fun n => pure (decide (n > 0))) _ _ _
  unfold Bytes.exportsOf
  refine wpAny_bind (wpAny_bind (wpAny_load hD (wpAny_pure (wpAny_pure ?_))))
  refine wpN_of_ite_false rfl ?_
  refine wpN_of_any ?_
  refine wpAny_bind (write_ba hD (by decide) fun h1 hD1 k1 => ?_)
  refine wpAny_bind (wpAny_of_eq (a := (none : Option Str)) (by rfl) ?_)
  refine KBy_if rfl ?_
  refine wpAny_bind (wpAny_of_eq (a := ()) rfl ?_)
  refine wpAny_bind (wpAny_specialOf (T := "int") (typeIs_int _ _ _) F.slot_int_index.lookup ?_)
  refine bm_if_true rfl ?_
  refine wpAny_bind (wpAny_attempt (wpAny_of_eq (a := n) rfl ?_))
  dsimp only
  refine KBy_if (by rw [Bytes.fitsIndex]; simp; omega) ?_
  rw [if_neg (Int.not_lt.mpr h0)]
  refine KBy_if (by rw [beq_eq_false_iff_ne]; omega) ?_
  refine KBy_if (by rw [Bytes.tooLong, sizeLine_eq]; exact decide_eq_false (by omega)) ?_
  refine wpAny_bind (wpAny_rule ?_)
  by_cases hp : n > 0
  · rw [if_pos hp]
    refine wpAny_bind (write_ba hD1 (by rw [Array.size_replicate, sizeLine_eq]; omega) fun h2 hD2 k2 => ?_)
    exact wpAny_pure (h h2 hD2 (k1.trans k2))
  · rw [if_neg hp]
    have : n.toNat = 0 := by omega
    rw [this] at h
    exact wpAny_pure (h h1 hD1 k1)
/-- bytearray(n): so many noughts -/
theorem call_ba {n : Int} {t : Tok} {Q : Value → Shared → Prop} (h0 : 0 ≤ n) (hz : n ≤ 16777216)
    (hQ : ∀ h', h'.get? s.heap.objs.size = some (baObj (Array.replicate n.toNat 0)) → (∀ b o, s.heap.get? b = some o → h'.get? b = some o) → Q (.ref s.heap.objs.size) { s with heap := h' }) :
    wpN (model prog w) A (call (.type "bytearray") [.int n t]) Q E s := by
  have hmade := BF.called.made
  have hsub := BF.called.sub
  refine wpN_call (codeN_of_tree rfl (wpN_of_any ?_))
  show wpAny _ _ (callAny (.type "bytearray") _) _ _ _
  refine wpAny_pure ⟨Code.quiet_builtin _ (by decide +kernel), codeN_builtin (by decide +kernel) F.entry_type_call ?_⟩
  rw [Around.under_plain (weight_type_call_type "bytearray" [.int n t] []) rfl]
  have h1 := BF.called.notType
  have h2 := BF.called.canCreate
  unfold Builtin.«type.__call__»
  refine wpN_of_ite_false h1 ?_
  refine wpN_of_ite_false h2 ?_
  refine wpN_bindA (wpAny_of_eq (BF.typeCall _) ?_)
  refine wpN_bindA (wpAny_of_eq BF.mro ?_)
  refine wpN_of_ite_false rfl ?_
  refine wpN_bindA (wpAny_of_eq hmade ?_)
  dsimp only
  refine wpN_bindA (wpAny_pure ?_)
  refine wpN_bindA (wpAny_holding (wpAny_call (codeAny_mono (code_ba_new (E := fun _ _ => False) (Q₁ := fun v s₁ => v = .ref s.heap.objs.size ∧ s₁ = { s with heap := s.heap.push (baObj #[]) }) _ ⟨rfl, rfl⟩) fun r s₁ hr => ?_)))
  cases r with
  | error e => exact hr.elim
  | ok fl =>
    cases fl with
    | ret obj =>
      obtain ⟨rfl, rfl⟩ := hr
      dsimp only
      have hD : (s.heap.push (baObj #[])).get? s.heap.objs.size = some (baObj #[]) := Heap.get?_push_size _ rfl
      have hT : ({ s with heap := s.heap.push (baObj #[]) } : Shared).TypeIs (.ref s.heap.objs.size) "bytearray" := ⟨_, hD, rfl⟩
      refine wpN_bindA (wpAny_isInstance hT BF.sub ?_)
      refine wpN_of_ite_false rfl ?_
      refine wpN_bind (wpN_holding ?_)
      unfold callSpecial?
      refine wpN_bindA (wpAny_specialOf hT BF.slot_init.lookup ?_)
      dsimp only
      refine wpN_holding ?_
      rw [BF.slot_init.bind]
      refine wpN_bindA (wpAny_pure ?_)
      dsimp only
      refine wpN_bind (wpN_call (codeN_mono (codeN_call_builtin (R := fun r s' => match r with | .ok (.ret v) => v = .none ∧ ∃ h', s' = { s with heap := h' } ∧ h'.get? s.heap.objs.size = some (baObj (Array.replicate n.toNat 0)) ∧ Heap.SameBut s.heap.objs.size (s.heap.push (baObj #[])) h' | _ => False) BF.plain_init (by decide +kernel) BF.entry_init (BF.slot_init.check _ _ _ _ _ _ _ _ hT (BF.args_init _ _) (wpN_mono (init_ba (R := fun r s' => match r with | .ok (.ret v) => v = .none ∧ ∃ h', s' = { s with heap := h' } ∧ h'.get? s.heap.objs.size = some (baObj (Array.replicate n.toNat 0)) ∧ Heap.SameBut s.heap.objs.size (s.heap.push (baObj #[])) h' | _ => False) h0 hz hD (fun h' a b => ⟨rfl, h', rfl, a, b⟩)) (fun _ _ x => x) fun _ _ x => x))) fun r s2 hr2 => ?_))
      cases r with
      | error e => exact hr2.elim
      | ok fl =>
        cases fl with
        | ret v =>
          obtain ⟨rfl, h', rfl, a, b⟩ := hr2
          dsimp only
          refine wpN_pure ?_
          dsimp only
          refine wpN_of_ite_false rfl ?_
          exact wpN_pure (hQ h' a fun c o e => (b.2 c (Nat.ne_of_lt (Heap.lt_size e))).trans (Heap.get?_push_of_some _ e))
        | _ => exact hr2.elim
    | _ => exact hr.elim

/-- ba[k] = v -/
theorem setItem_ba {D : Addr} {b : Array UInt8} {k v : Int} {t u : Tok} {Q : Unit → Shared → Prop} (hD : s.heap.get? D = some (baObj b)) (hb : b.size ≤ 16777216) (h0 : 0 ≤ k) (h1 : k < b.size) (v0 : 0 ≤ v) (v1 : v < 256)
    (hQ : ∀ h', h'.get? D = some (baObj (b.setIfInBounds k.toNat v.toNat.toUInt8)) → Heap.SameBut D s.heap h' → Q () { s with heap := h' }) :
    wpAny (model prog w) A (setItem (.ref D) (.int k t) (.int v u)) Q E s := by
  have hT : s.TypeIs (.ref D) "bytearray" := ⟨_, hD, rfl⟩
  unfold setItem
  refine wpAny_holding ?_
  refine wpAny_bind (wpAny_sequenceKey hT (by decide) ?_)
  refine wpAny_bind (wpAny_callSpecial?_slot (name := Str.ofString "__setitem__") hT BF.slot_setitem (wpAny_call_entry BF.slot_setitem hT BF.entry_setitem ?_ (BF.args_setitem _ _ _)))
  unfold Builtin.«bytearray.__setitem__»
  refine KBy_if rfl ?_
  dsimp only
  unfold Bytes.subscript?
  refine wpAny_bind (wpAny_bind (wpAny_specialOf (T := "int") (typeIs_int _ _ _) F.slot_int_index.lookup ?_))
  refine KBy_if rfl ?_
  refine wpAny_bind (wpAny_of_eq (a := k) rfl ?_)
  refine KBy_if (by rw [Bytes.fitsIndex]; simp; omega) ?_
  refine wpAny_pure ?_
  dsimp only
  unfold Bytes.byteValue
  refine wpAny_bind (wpAny_bind (wpAny_of_eq (a := v) rfl ?_))
  refine KBy_if (by simp only [Bool.or_eq_false_iff, decide_eq_false_iff_not]; omega) ?_
  refine wpAny_pure ?_
  refine wpAny_bind (payload_ba hD ?_)
  have hs : seqIndex? k b.size = some k.toNat := by
    unfold seqIndex?
    dsimp only
    rw [if_neg (Int.not_lt.mpr h0), if_pos (by rw [Bool.and_eq_true, decide_eq_true_iff, decide_eq_true_iff]; exact ⟨h0, h1⟩)]
  rw [hs]
  dsimp only
  refine wpAny_bind (write_ba hD (by rw [Array.size_setIfInBounds, sizeLine_eq]; exact hb) fun h' a c => ?_)
  exact wpAny_pure ⟨_, rfl, wpAny_pure (hQ h' a c)⟩
/-- bytes(ba) -/
theorem bytes_ba {D : Addr} {b : Array UInt8} {Q : Value → Shared → Prop} (hD : s.heap.get? D = some (baObj b)) (hb : b.size ≤ 16777216)
    (hQ : ∀ t k, Q (.bytes b t) { s with toks := k }) : wpAny (model prog w) A (call (.type "bytes") [.ref D]) Q E s := by
  have hT : s.TypeIs (.ref D) "bytearray" := ⟨_, hD, rfl⟩
  refine callType_codes (Q₁ := fun obj s₁ => s₁.TypeIs obj "bytes" ∧ Q obj s₁) F.bm_called (F.bm_typeCall _) F.entry_object_init (codeAny_of_tree ?_) fun obj s₁ h₁ => ?_
  · show wpAny _ A.in1.in1 (do checkBuiltinCall "bytes.__new__" ⟨[.type "bytes", .ref D], []⟩; again (.builtin "bytes.__new__" ⟨[.type "bytes", .ref D], []⟩)) _ _ s
    refine wpAny_bind (wpAny_of_eq (F.bm_newCall _) (wpAny_pure ⟨plainId_quiet F.bm_plain _, codeAny_builtin F.bm_entry ?_⟩))
    rw [Around.under_plainId F.bm_plain _]
    unfold Builtin.«bytes.__new__»
    refine wpAny_bind (wpAny_of_eq (a := true) rfl ?_)
    refine KBy_if rfl ?_
    refine wpAny_bind (wpAny_of_eq F.bm_sub ?_)
    refine KBy_if rfl ?_
    refine wpAny_bind (wpAny_of_eq (F.bm_bind _) ?_)
    refine wpAny_bind (wpAny_of_eq (a := ()) rfl ?_)
    refine wpAny_bind (wpAny_of_eq (a := ()) rfl ?_)
    refine KBy_if rfl ?_
    refine wpAny_bind (wpAny_specialOf hT BF.look_bytes ?_)
    refine wpAny_bind (wpAny_bind ?_)
    show wpAny _ _ (load D >>= _) _ _ _
    refine wpAny_bind (wpAny_load hD ?_)
    refine wpAny_pure (wpAny_pure ?_)
    refine KBy_if rfl ?_
    refine wpAny_bind (wpAny_specialOf hT BF.look_index ?_)
    refine bm_if_true rfl ?_
    first
      | show wpAny _ _ (Builtin.Bytes.buffer? "bytes.__new__" (.ref D) true >>= _) _ _ _
      | (refine wpAny_bind ?_; show wpAny _ _ (Builtin.Bytes.buffer? "bytes.__new__" (.ref D) true >>= _) _ _ _)
    refine wpAny_bind ?_
    unfold Builtin.Bytes.buffer?
    refine wpAny_bind (wpAny_specialOf hT BF.look_buffer ?_)
    refine wpAny_bind (own_ba hD BF.look_buffer (by decide +kernel) (by decide +kernel) ?_)
    refine KBy_if rfl ?_
    refine wpAny_bind (wpAny_specialOf hT BF.look_buffer ?_)
    show wpAny _ _ (Bytes.ownRelease (.ref D) >>= _) _ _ _
    refine wpAny_bind (release_ba hD ?_)
    refine KBy_if rfl ?_
    refine wpAny_bind (payload_ba hD (wpAny_pure ?_))
    dsimp only
    refine wpAny_bind (wpAny_rule ?_)
    refine wpAny_bind (wpAny_mkBytes ?_ (by rw [sizeLine_eq]; exact hb))
    show wpAny _ _ (if (Value.type "bytes" == Value.type "bytes") = true then _ else _) _ _ _
    refine bm_if_true (by decide) ?_
    first
      | exact wpAny_pure ⟨PySem.W.typeIs_bytes _ _ _, hQ _ _⟩
      | exact wpAny_bind (wpAny_pure (wpAny_pure ⟨PySem.W.typeIs_bytes _ _ _, hQ _ _⟩))
  · exact ⟨h₁.1, F.args_object_init_2 obj _, object_init_meets F.bm_called.init.lookup F.bm_called.made (by decide) prog w A.in1 _ s₁ ⟨h₁.1, rfl, h₁.2⟩⟩
end
end Mine
end

section
theorem Mine.anew_Lo : True := by w_top off; first | walk1 | exact True.intro
open PySem PySem.W PySem.Calls PyProof.Rows
set_option maxRecDepth 100000
namespace Mine

/-- the end of a turn -/
def LE (h₀ : Heap) (L : Addr) (J : (Str → Option Value) → List (Addr × Obj) → Prop) (own : List (Addr × Obj)) (adr : List Addr) (s₁ : Shared) (Q : Flow → Shared → Prop) (f : Flow) (s₂ : Shared) : Prop :=
  match f with
  | .ret v => Q (.ret v) s₂
  | .brk => Q .next s₂
  | _ => ∃ h' tk m' all nx, s₂ = { s₁ with heap := h', toks := tk } ∧ Fr h₀ L h' m' ∧ News h₀ L h' all ∧ (∀ p ∈ nx, p ∈ all) ∧ (∀ p ∈ own, p ∈ all) ∧ nx.map (·.1) = adr ∧ J m' nx
theorem LE.next {h₀ : Heap} {L : Addr} {J : (Str → Option Value) → List (Addr × Obj) → Prop} {own all : List (Addr × Obj)} {adr : List Addr} {s₁ : Shared} {Q : Flow → Shared → Prop} {h' : Heap} {tk : Nat} {m' : Str → Option Value} (nx : List (Addr × Obj))
    (F : Fr h₀ L h' m') (N : News h₀ L h' all) (hn : ∀ p ∈ nx, p ∈ all) (ho : ∀ p ∈ own, p ∈ all) (ha : nx.map (·.1) = adr) (hJ : J m' nx) : LE h₀ L J own adr s₁ Q .next { s₁ with heap := h', toks := tk } := ⟨h', tk, m', all, nx, rfl, F, N, hn, ho, ha, hJ⟩

section
variable {prog : Program} {w : World} {A : Around} {E : Value → Shared → Prop} {s : Shared} {env : Env} {h₀ : Heap} {x : Str} {body : List Stmt} {Q : Flow → Shared → Prop} {m : Str → Option Value} {news : List (Addr × Obj)}

/-- the loop's own things lie off the ledger's -/
def OffO (own news₁ : List (Addr × Obj)) : Prop := ∀ q ∈ own, ∀ p ∈ news₁, q.1 ≠ p.1
/-- where a loop takes its source -/
def PI (prog : Program) (w : World) (A : Around) (h₀ : Heap) (env : Env) (x : Str) (body : List Stmt) (Q : Flow → Shared → Prop) (E : Value → Shared → Prop) (xv : Value) (s₁ : Shared) : Prop :=
  wpAny (model prog w) A (pyIter xv) (fun it s₂ => LoopAtV prog w A h₀ env x body Q E it s₂) E s₁
theorem For_PI {px pos : Pos} {iter : Expr} (F₁ : Fr h₀ env.locals s.heap m) (hx : env.kindOf x = some .local)
    (hp : (env.scope.kind == .class || (env.scope.kind == .module && env.locals != env.globals)) = false)
    (h : wpAny (model prog w) A (eval iter env) (PI prog w A h₀ env x body Q E) E s) (hs : ∀ x, foldedSetIterable iter env x = pure x := by intro _; rfl) (hE : PassesOwn (model prog w) A env E := by passes_own) :
    wpAny (model prog w) A (exec (.For (.Name x px) iter body [] pos) env) Q E s := For_invV h₀ hx hp h hs

theorem loopV {I : Addr} {fp : List Addr} {n : Nat} {P : Nat → Value → Prop} {St : Nat → Heap → Prop} (J : Nat → (Str → Option Value) → List (Addr × Obj) → Prop) (W : Walks prog w A I fp [I] n P St) (hLf : env.locals ∉ fp) (hI : h₀.get? I = none)
    (hst : St 0 s.heap) (F : Fr h₀ env.locals s.heap m) (N : News h₀ env.locals s.heap news) (hnw : ∀ p ∈ news, p.1 ≠ I) (h0 : J 0 m news)
    (turn : ∀ i v m₁ news₁ h tk own, i < n → P i v → news₁.map (·.1) = news.map (·.1) → (∀ p ∈ own, p.1 ∈ fp) → J i m₁ news₁ → Fr h₀ env.locals h (fun y => if y = x then some v else m₁ y) → News h₀ env.locals h (news₁ ++ own) →
      wpAny (model prog w) A (execs body env) (LE h₀ env.locals (J (i + 1)) own (news.map (·.1)) { s with heap := h, toks := tk } Q) E { s with heap := h, toks := tk })
    (done : ∀ m₁ news₁ h tk, news₁.map (·.1) = news.map (·.1) → J n m₁ news₁ → Fr h₀ env.locals h m₁ → News h₀ env.locals h news₁ → Q .next { s with heap := h, toks := tk }) :
    LoopAtV prog w A h₀ env x body Q E (.ref I) s := by
  refine ⟨I, fp, [I], n, P, St, m, news, (fun i m₁ news₁ => news₁.map (·.1) = news.map (·.1) ∧ J i m₁ news₁), rfl, W, hLf, fun b hb => by rw [List.mem_singleton.mp hb]; exact hI, fun p hp hb => hnw p hp (List.mem_singleton.mp hb), hst, F, N, ⟨rfl, h0⟩, ?_, ?_⟩
  · rintro i v m₁ news₁ s₁ own ⟨hh', tk', rfl⟩ hin hP ⟨hadr, hJ⟩ hoff hown _ _ _ F₁ N₁
    have N₂ : News h₀ env.locals hh' (news₁ ++ own) := fun p hp => N₁ p ((List.mem_append.mp hp).elim (fun h => List.mem_append.mpr (.inr h)) fun h => List.mem_append.mpr (.inl h))
    refine wpAny_mono (turn i v m₁ news₁ hh' tk' own hin hP hadr hown hJ F₁ N₂) (fun f s₂ p => ?_) fun _ _ e => e
    have fin : (∃ h' tk m' all nx, s₂ = { s with heap := h', toks := tk } ∧ Fr h₀ env.locals h' m' ∧ News h₀ env.locals h' all ∧ (∀ p ∈ nx, p ∈ all) ∧ (∀ p ∈ own, p ∈ all) ∧ nx.map (·.1) = news.map (·.1) ∧ J (i + 1) m' nx) →
        LoopStepU h₀ env.locals [I] own (fun m₁ news₁ => news₁.map (·.1) = news.map (·.1) ∧ J (i + 1) m₁ news₁) { s with heap := hh', toks := tk' } .next s₂ := by
      rintro ⟨h', tk, m', all, nx, e, F', N', hn, ho, ha, hm⟩
      refine ⟨rfl, h', tk, m', nx, e, F', fun p hp => N' p ((List.mem_append.mp hp).elim (ho p) (hn p)), fun p hp hq => ?_, ha, hm⟩
      have h1 : p.1 ∈ nx.map (·.1) := List.mem_map.mpr ⟨p, hp, rfl⟩
      rw [ha] at h1
      obtain ⟨q, hq1, hq2⟩ := List.mem_map.mp h1
      exact hnw q hq1 (by rw [hq2]; exact List.mem_singleton.mp hq)
    cases f with
    | ret v => exact .ret p
    | brk => exact .brk p
    | next => exact .next (fin p)
    | cont => exact .cont (fin p)
  · rintro h' tk m' news' F' N' _ ⟨ha, hJ⟩
    exact done m' news' h' tk ha hJ F' N'

/-- a loop over a range -/
theorem range_loop {r : Addr} {a b c : Int} {t u v : Tok} {n : Nat} (J : Nat → (Str → Option Value) → List (Addr × Obj) → Prop) (hh : A.handled = none) (hr : IsRange s.heap r a b c t u v) (hsmall : Builtin.Range.small a b c = true) (hn : Builtin.Range.rangeSize a b c = (n : Int))
    (F : Fr h₀ env.locals s.heap m) (N : News h₀ env.locals s.heap news) (h0 : J 0 m news)
    (turn : ∀ i t m₁ news₁ h tk own, i < n → news₁.map (·.1) = news.map (·.1) → OffO own news₁ → J i m₁ news₁ → Fr h₀ env.locals h (fun y => if y = x then some (.int (a + (i : Nat) * c) t) else m₁ y) → News h₀ env.locals h (news₁ ++ own) →
      wpAny (model prog w) A (execs body env) (LE h₀ env.locals (J (i + 1)) own (news.map (·.1)) { s with heap := h, toks := tk } Q) E { s with heap := h, toks := tk })
    (done : ∀ m₁ news₁ h tk, news₁.map (·.1) = news.map (·.1) → J n m₁ news₁ → Fr h₀ env.locals h m₁ → News h₀ env.locals h news₁ → Q .next { s with heap := h, toks := tk }) :
    PI prog w A h₀ env x body Q E (.ref r) s := by
  refine wpAny_pyIter_range hr hsmall ?_
  have up : ∀ (o : Obj) b ob, s.heap.get? b = some ob → (s.heap.push o).get? b = some ob := fun o b ob e => Heap.get?_push_of_some _ e
  refine loopV (s := { s with heap := _ }) (n := n) J (Walks.range hh s.heap.objs.size a c n) ?_ (next_is_new F) ?_ (F.keeps (up _)) (N.grown (up _)) (fun p hp => Nat.ne_of_lt (Heap.lt_size (N p hp).1)) h0 ?_ ?_
  · intro hm
    exact absurd F.ns.lt ((List.mem_singleton.mp hm) ▸ Nat.lt_irrefl _)
  · show IsRangeIter _ _ _ _ _
    rw [hn]; simpa using Heap.get?_push_size _ rfl
  · rintro i v m₁ news₁ h tk own hi ⟨t, rfl⟩ ha ho hJ F₁ N₁
    refine turn i t m₁ news₁ h tk own hi ha (fun q hq p hp e => ?_) hJ F₁ N₁
    have h1 : p.1 ∈ news.map (·.1) := by rw [← ha]; exact List.mem_map.mpr ⟨p, hp, rfl⟩
    obtain ⟨p', hp', e'⟩ := List.mem_map.mp h1
    have e' : p'.1 = p.1 := e'
    have h2 := Heap.lt_size (N p' hp').1
    rw [e', ← e, List.mem_singleton.mp (ho q hq)] at h2
    exact Nat.lt_irrefl _ h2
  · intro m₁ news₁ h tk ha hJ F₁ N₁
    exact done m₁ news₁ h tk ha hJ F₁ N₁

/-- a loop over a list of the call's own -/
theorem list_loop {ax : Addr} {its : Array Value} (J : Nat → (Str → Option Value) → List (Addr × Obj) → Prop) (hh : A.handled = none) (hm : (ax, LCg.lst its.toList) ∈ news) (F : Fr h₀ env.locals s.heap m) (N : News h₀ env.locals s.heap news) (h0 : J 0 m news)
    (turn : ∀ i v m₁ news₁ h tk own, i < its.size → its[i]? = some v → news₁.map (·.1) = news.map (·.1) → J i m₁ news₁ → Fr h₀ env.locals h (fun y => if y = x then some v else m₁ y) → News h₀ env.locals h (news₁ ++ own) →
      wpAny (model prog w) A (execs body env) (LE h₀ env.locals (J (i + 1)) own (news.map (·.1)) { s with heap := h, toks := tk } Q) E { s with heap := h, toks := tk })
    (done : ∀ m₁ news₁ h tk, news₁.map (·.1) = news.map (·.1) → J its.size m₁ news₁ → Fr h₀ env.locals h m₁ → News h₀ env.locals h news₁ → Q .next { s with heap := h, toks := tk }) :
    PI prog w A h₀ env x body Q E (.ref ax) s := by
  have hl : s.heap.IsList ax its := ⟨_, (N _ hm).1, rfl, _, rfl⟩
  have hlt : ax < s.heap.objs.size := Heap.lt_size (N _ hm).1
  refine wpAny_pyIter_list hl ?_
  have up : ∀ b o, s.heap.get? b = some o → (s.heap.push { cls := .type "list_iterator", data := .fields #[.ref ax, .int 0 0] }).get? b = some o := fun b o e => Heap.get?_push_of_some _ e
  refine loopV (s := { s with heap := _ }) (n := its.size) J (Walks.list hh s.heap.objs.size ax (Nat.ne_of_lt hlt) its) ?_ (next_is_new F) ⟨⟨_, Heap.get?_push_size _ rfl, rfl, rfl⟩, hl.push _⟩ (F.keeps up) (N.grown up) (fun p hp => Nat.ne_of_lt (Heap.lt_size (N p hp).1)) h0 ?_ ?_
  · intro hm'
    rcases List.mem_cons.mp hm' with e | e
    · exact absurd F.ns.lt (e ▸ Nat.lt_irrefl _)
    · exact (N _ hm).2.1 (List.mem_singleton.mp e).symm
  · intro i v m₁ news₁ h tk own hi hP ha _ hJ F₁ N₁
    exact turn i v m₁ news₁ h tk own hi hP ha hJ F₁ N₁
  · intro m₁ news₁ h tk ha hJ F₁ N₁
    exact done m₁ news₁ h tk ha hJ F₁ N₁

/-- some names are told anew -/
def over (u : Str → Option Value) : List Str → (Str → Option Value) → Str → Option Value
  | [], m => m
  | z :: zs, m => fun y => if y = z then u y else over u zs m y
theorem over_eq {u m m' : Str → Option Value} : ∀ {ys : List Str}, (∀ y, y ∈ ys → u y = m' y) → (∀ y, y ∉ ys → m' y = m y) → over u ys m = m'
  | [], _, h => funext fun y => (h y (List.not_mem_nil)).symm
  | z :: zs, hu, h => funext fun y => by
    show (if y = z then u y else over u zs m y) = m' y
    by_cases hy : y = z
    · rw [if_pos hy]; exact hu y (by rw [hy]; exact List.mem_cons_self)
    · rw [if_neg hy, over_eq (m' := fun x => if x = z then over u zs m z else m' x) (ys := zs) (u := u) (m := m) ?_ ?_]
      · show (if y = z then _ else m' y) = m' y
        rw [if_neg hy]
      · intro x hx
        by_cases hxz : x = z
        · show u x = if x = z then _ else _
          rw [if_pos hxz, ← hxz]
          exact (over_at hx).symm
        · show u x = if x = z then _ else _
          rw [if_neg hxz]; exact hu x (List.mem_cons_of_mem _ hx)
      · intro x hx
        by_cases hxz : x = z
        · show (if x = z then _ else _) = m x
          rw [if_pos hxz, ← hxz]
          exact over_off hx
        · show (if x = z then _ else _) = m x
          rw [if_neg hxz]; exact h x (fun hm => (List.mem_cons.mp hm).elim hxz hx)
where
  over_at {u m : Str → Option Value} : ∀ {ys : List Str} {x : Str}, x ∈ ys → over u ys m x = u x
    | z :: zs, x, hx => by
      show (if x = z then u x else over u zs m x) = u x
      by_cases hxz : x = z
      · rw [if_pos hxz]
      · rw [if_neg hxz]; exact over_at ((List.mem_cons.mp hx).resolve_left hxz)
  over_off {u m : Str → Option Value} : ∀ {ys : List Str} {x : Str}, x ∉ ys → over u ys m x = m x
    | [], _, _ => rfl
    | z :: zs, x, hx => by
      show (if x = z then u x else over u zs m x) = m x
      rw [if_neg (fun e => hx (by rw [e]; exact List.mem_cons_self))]
      exact over_off fun hm => hx (List.mem_cons_of_mem _ hm)

theorem range_loopM (ys : List Str) {r : Addr} {a b c : Int} {t u v : Tok} {n : Nat} (J : Nat → List (Addr × Obj) → Prop) (hh : A.handled = none) (hr : IsRange s.heap r a b c t u v) (hsmall : Builtin.Range.small a b c = true) (hn : Builtin.Range.rangeSize a b c = (n : Int))
    (F : Fr h₀ env.locals s.heap m) (N : News h₀ env.locals s.heap news) (h0 : J 0 news)
    (turn : ∀ i t g news₁ h tk own, i < n → news₁.map (·.1) = news.map (·.1) → OffO own news₁ → J i news₁ → Fr h₀ env.locals h (fun y => if y = x then some (.int (a + (i : Nat) * c) t) else over g ys m y) → News h₀ env.locals h (news₁ ++ own) →
      wpAny (model prog w) A (execs body env) (LE h₀ env.locals (fun m' nx => (∀ y, y ∉ x :: ys → m' y = m y) ∧ J (i + 1) nx) own (news.map (·.1)) { s with heap := h, toks := tk } Q) E { s with heap := h, toks := tk })
    (done : ∀ g news₁ h tk, news₁.map (·.1) = news.map (·.1) → J n news₁ → Fr h₀ env.locals h (over g (x :: ys) m) → News h₀ env.locals h news₁ → Q .next { s with heap := h, toks := tk }) :
    PI prog w A h₀ env x body Q E (.ref r) s := by
  refine range_loop (fun i m' nx => (∀ y, y ∉ x :: ys → m' y = m y) ∧ J i nx) hh hr hsmall hn F N ⟨fun _ _ => rfl, h0⟩ ?_ ?_
  · rintro i t m₁ news₁ h tk own hi ha ho ⟨hm, hJ⟩ F₁ N₁
    refine turn i t m₁ news₁ h tk own hi ha ho hJ ?_ N₁
    have e : (fun y => if y = x then some (Value.int (a + (i : Nat) * c) t) else over m₁ ys m y) = fun y => if y = x then some (Value.int (a + (i : Nat) * c) t) else m₁ y := by
      funext y
      by_cases hy : y = x
      · rw [if_pos hy, if_pos hy]
      · rw [if_neg hy, if_neg hy]
        by_cases hm' : y ∈ ys
        · exact over_eq.over_at hm'
        · rw [over_eq.over_off hm']; exact (hm y (fun h => (List.mem_cons.mp h).elim hy hm')).symm
    rw [e]; exact F₁
  · rintro m₁ news₁ h tk ha ⟨hm, hJ⟩ F₁ N₁
    exact done m₁ news₁ h tk ha hJ (by rw [over_eq (fun _ _ => rfl) hm]; exact F₁) N₁

theorem list_loopM (ys : List Str) {ax : Addr} {its : Array Value} (J : Nat → (Str → Option Value) → List (Addr × Obj) → Prop) (hh : A.handled = none) (hm : (ax, LCg.lst its.toList) ∈ news) (F : Fr h₀ env.locals s.heap m) (N : News h₀ env.locals s.heap news) (h0 : J 0 m news)
    (turn : ∀ i v g news₁ h tk own, i < its.size → its[i]? = some v → news₁.map (·.1) = news.map (·.1) → J i g news₁ → Fr h₀ env.locals h (fun y => if y = x then some v else over g ys m y) → News h₀ env.locals h (news₁ ++ own) →
      wpAny (model prog w) A (execs body env) (LE h₀ env.locals (fun m' nx => (∀ y, y ∉ x :: ys → m' y = m y) ∧ J (i + 1) m' nx) own (news.map (·.1)) { s with heap := h, toks := tk } Q) E { s with heap := h, toks := tk })
    (done : ∀ g news₁ h tk, news₁.map (·.1) = news.map (·.1) → J its.size g news₁ → Fr h₀ env.locals h (over g (x :: ys) m) → News h₀ env.locals h news₁ → Q .next { s with heap := h, toks := tk }) :
    PI prog w A h₀ env x body Q E (.ref ax) s := by
  refine list_loop (fun i m' nx => (∀ y, y ∉ x :: ys → m' y = m y) ∧ J i m' nx) hh hm F N ⟨fun _ _ => rfl, h0⟩ ?_ ?_
  · rintro i v m₁ news₁ h tk own hi hv ha ⟨hm, hJ⟩ F₁ N₁
    refine turn i v m₁ news₁ h tk own hi hv ha hJ ?_ N₁
    have e : (fun y => if y = x then some v else over m₁ ys m y) = fun y => if y = x then some v else m₁ y := by
      funext y
      by_cases hy : y = x
      · rw [if_pos hy, if_pos hy]
      · rw [if_neg hy, if_neg hy]
        by_cases hm' : y ∈ ys
        · exact over_eq.over_at hm'
        · rw [over_eq.over_off hm']; exact (hm y (fun h => (List.mem_cons.mp h).elim hy hm')).symm
    rw [e]; exact F₁
  · rintro m₁ news₁ h tk ha ⟨hm, hJ⟩ F₁ N₁
    exact done m₁ news₁ h tk ha hJ (by rw [over_eq (fun _ _ => rfl) hm]; exact F₁) N₁

/-- the end of a while's turn -/
def WE (h₀ : Heap) (L : Addr) (s : Shared) (J : (Str → Option Value) → List (Addr × Obj) → Prop) (f : Flow) (s₂ : Shared) : Prop :=
  f = .next ∧ ∃ h' tk m' all nx, s₂ = { s with heap := h', toks := tk } ∧ Fr h₀ L h' m' ∧ News h₀ L h' all ∧ (∀ p ∈ nx, p ∈ all) ∧ J m' nx
theorem WE.next {L : Addr} {J : (Str → Option Value) → List (Addr × Obj) → Prop} {all : List (Addr × Obj)} {h' : Heap} {tk : Nat} {m' : Str → Option Value} (nx : List (Addr × Obj))
    (F : Fr h₀ L h' m') (N : News h₀ L h' all) (hn : ∀ p ∈ nx, p ∈ all) (hJ : J m' nx) : WE h₀ L s J .next { s with heap := h', toks := tk } := ⟨rfl, h', tk, m', all, nx, rfl, F, N, hn, hJ⟩
/-- where a while begins -/
def WI (prog : Program) (w : World) (A : Around) (h₀ : Heap) (L : Addr) (env : Env) (test : Expr) (body : List Stmt) (pos : Pos) (Q : Flow → Shared → Prop) (E : Value → Shared → Prop) (s : Shared) : Prop :=
  wpAny (model prog w) A (exec (.While test body [] pos) env) Q E s
theorem While_WI {L : Addr} {test : Expr} {pos : Pos} (F₁ : Fr h₀ L s.heap m) (h : WI prog w A h₀ L env test body pos Q E s) : wpAny (model prog w) A (exec (.While test body [] pos) env) Q E s := h
theorem While_M (ys : List Str) {L : Addr} {test : Expr} {pos : Pos} (J : Nat → (Str → Option Value) → List (Addr × Obj) → Prop) {n₀ : Nat}
    (F : Fr h₀ L s.heap m) (N : News h₀ L s.heap news) (h0 : J n₀ m news)
    (turn : ∀ n g news₁ h₁ tk₁, J n g news₁ → Fr h₀ L h₁ (over g ys m) → News h₀ L h₁ news₁ →
      wpAny (model prog w) A (isTrue test env (eval test env)) (fun b s₂ =>
        if b = true then wpAny (model prog w) A (execs body env) (WE h₀ L s (fun m' nx => (∀ y, y ∉ ys → m' y = m y) ∧ ∃ n', n' < n ∧ J n' m' nx)) E s₂ else Q .next s₂) E { s with heap := h₁, toks := tk₁ })
    (hE : PassesOwn (model prog w) A env E := by passes_own) :
    WI prog w A h₀ L env test body pos Q E s := by
  refine While_inv (fun n m₁ nx => (∀ y, y ∉ ys → m₁ y = m y) ∧ J n m₁ nx) F N ⟨fun _ _ => rfl, h0⟩ ?_
  rintro n m₁ news₁ h₁ tk₁ F₁ N₁ ⟨hm, hJ⟩
  have F₂ : Fr h₀ L h₁ (over m₁ ys m) := by rw [over_eq (fun _ _ => rfl) hm]; exact F₁
  refine wpAny_mono (turn n m₁ news₁ h₁ tk₁ hJ F₂ N₁) (fun b s₂ h₂ => ?_) fun _ _ e => e
  cases b with
  | false => exact h₂
  | true =>
    simp only [if_true] at h₂ ⊢
    refine wpAny_mono h₂ (fun f s₃ h₃ => ?_) fun _ _ e => e
    obtain ⟨rfl, h', tk, m', all, nx, rfl, F', N', hn, hm', n', hlt, hJ'⟩ := h₃
    exact ⟨rfl, h', tk, m', nx, n', rfl, F', fun p hp => N' p (hn p hp), hlt, hm', hJ'⟩
end
end Mine
end

section
theorem Mine.anew_Bq : True := by w_top off; first | walk1 | exact True.intro
open PySem PySem.W PySem.Calls PyProof.Rows
set_option maxRecDepth 100000
namespace Mine
/-- the contract of a pure call at a clear stack -/
def SpQ (w : World) (f : Addr) (args : List Value) (R : Heap → Heap → Value → Prop) : Prop :=
  ∀ (dp un : Nat) (gd : Option (List Code)) (cn : Str) (cs : Scope) (a : Addr) (ccd : Value) (cl : List (Str × Addr)) (outer : List Env) (A₀ : Around) (base h₀ : Heap) (L : Addr) (m : Str → Option Value) (mean : ExcName → Option Value) (mg mb : Str → Option Value) (s : Shared) (Q E : Value → Shared → Prop),
    Below A₀ base outer h₀ → Fr h₀ L s.heap m → (hd.heap_39 w.params).In h₀ → Top hd.view_39 (looseW hd.view_39 [Str.ofString "escape", Str.ofString "unescape", Str.ofString "quoteattr"]) mean mg mb h₀ → cs.kind = .function →
    dp + 4 < recursionLimit → un + 64 < cLine →
    (∀ v h' tk', (∀ b o, s.heap.get? b = some o → h'.get? b = some o) → R s.heap h' v → Q v { s with heap := h', toks := tk' }) →
    wpN (model PySem.Challenge.rw_kt0004_01.row.prog w) (ktrTop dp un gd cn cs L a ccd cl outer) (call (.ref f) args) Q E s
def BdQ (w : World) (f : Addr) (qual : Str) (scope : Scope) (cdv : Value) (body : List Stmt) (binds : List (Str × Value)) (R : Heap → Heap → Value → Prop) : Prop :=
  ∀ (dp un : Nat) (gd : Option (List Code)) (outer : List Env) (A₀ : Around) (base g : Heap) (L : Addr) (mean : ExcName → Option Value) (mg mb : Str → Option Value) (s : Shared),
    Below A₀ base outer g → (hd.heap_39 w.params).In g → Top hd.view_39 (looseW hd.view_39 [Str.ofString "escape", Str.ofString "unescape", Str.ofString "quoteattr"]) mean mg mb g →
    Fr g L s.heap (fun y => binds.reverse.lookup y) → News g L s.heap [] → 0 < s.toks → scope.kind = .function → dp + 3 < recursionLimit → un + 61 < cLine →
    wpN (model PySem.Challenge.rw_kt0004_01.row.prog w) (ktrTop dp un gd qual scope L f cdv [] outer) (execs body (envX qual scope L f cdv [])) (Fin1 g s R) (fun _ _ => False) s
theorem spQ_plain {w : World} {f : Addr} {args : List Value} {R : Heap → Heap → Value → Prop} {name qual : Str} {params : Arguments} {body : List Stmt} {scope : Scope} {dV kV doc pm cdv ct oc : Value} {an od : Option Addr} {osl : Array (Option Value)} {binds : List (Str × Value)}
    (ho : (hd.heap_39 w.params).lookup f = some ⟨oc, od, .func (fnX name qual params body scope [] dV kV doc pm an cdv ct), osl⟩) (hcd : codeIn (hd.heap_39 w.params) cdv qual = true)
    (hbind : ∀ s : Shared, (hd.heap_39 w.params).In s.heap → BindsTo s (fnX name qual params body scope [] dV kV doc pm an cdv ct) ⟨args, []⟩ binds) (hloc : ∀ y ∈ binds, scope.names.lookup y.1 = some .local)
    (hcell : ∀ x ∈ scope.names, x.2 ≠ .cell) (hco : scope.isCoroutine = false) (hgen : scope.isGenerator = false) (hk : scope.kind = .function) (hbl : 0 < binds.length)
    (h : BdQ w f qual scope cdv body binds R) : SpQ w f args R := by
  intro dp un gd cn cs a ccd cl outer A₀ base h₀ L m mean mg mb s Q E B F X T hck hd hu ret
  refine wpN_call ?_
  have Xs := X.keeps F.keep
  have B₁ := pushX (env := envX cn cs L a ccd cl) B F rfl hck
  have B₂ : Below (ktrTop dp un gd cn cs L a ccd cl outer) base (envX cn cs L a ccd cl :: outer) s.heap := ⟨rfl, B₁.stays, B₁.frames⟩
  refine codeN_call_function (fd := fnX name qual params body scope [] dV kV doc pm an cdv ct) (body := body) (by show dp < _; omega) (Xs _ _ ho) rfl hco hgen rfl (codeRec_of Xs hcd) (hbind s Xs _ _ _ _ ?_)
  refine wpAny_newFunctionEnv hcell hloc (fun h₁ hns hsb => ⟨(T.nolimit.keeps F.keep).fresh _ hsb, codeN_func ?_⟩) hk
  have hk₁ : ∀ b o, s.heap.get? b = some o → h₁.get? b = some o := fun b o e => hsb.extBut b o (Nat.ne_of_lt (Heap.lt_size e)) (Heap.get?_push_of_some _ e)
  refine wpN_mono (h (dp + 1) (un + 3) gd (envX cn cs L a ccd cl :: outer) _ base s.heap s.heap.objs.size mean mg mb { s with heap := h₁, toks := s.toks + binds.length } B₂ Xs (T.keeps F.keep) ⟨hns, hk₁, Nat.le_refl _⟩ News.nil (by show 0 < s.toks + binds.length; omega) hk (by omega) (by omega)) ?_ ?_
  · rintro fl s' ⟨L', m', v, h', tk', rfl, rfl, F', r⟩
    exact ret v h' tk' F'.keep r
  · intro _ _ e; exact e.elim
section
variable {M : Model} {A : Around} {E : Value → Shared → Prop} {s : Shared} {env : Env}
theorem callN_type1 {pos : Pos} {T : String} {e : Expr} {Q : Value → Shared → Prop} (hs : starEach [e] env = [(false, eval e env)])
    (h : wpAny M A (eval e env) (fun v s₁ => wpN M A (call (.type T) [v]) Q E s₁) E s) : wpN M A (callWith pos (.type T) [] (backTo pos (starEach [e] env)) []) Q E s := by
  rw [hs]
  show wpN M A (callWith pos (.type T) [] [(false, eval e env)] []) Q E s
  exact callN_type rfl (Calls.evalArgs_plain (Calls.spliced_cons (wpAny_mono h (fun v s₁ h₁ => Calls.spliced_nil h₁) fun _ _ x => x)))
theorem callN_def2 {pos : Pos} {a : Addr} {fd : FuncData} {e₁ e₂ : Expr} {Q : Value → Shared → Prop} (hs : starEach [e₁, e₂] env = [(false, eval e₁ env), (false, eval e₂ env)])
    (h : wpAny M A (eval e₁ env) (fun v₁ s₁ => wpAny M A (eval e₂ env) (fun v₂ s₂ => (∃ o, s₂.heap.get? a = some o ∧ o.data = .func fd) ∧ wpN M A (call (.ref a) [v₁, v₂]) Q E s₂) E s₁) E s) :
    wpN M A (callWith pos (.ref a) [] (backTo pos (starEach [e₁, e₂] env)) []) Q E s := by
  rw [hs]
  show wpN M A (callWith pos (.ref a) [] [(false, eval e₁ env), (false, eval e₂ env)] []) Q E s
  unfold callWith
  refine wpN_bindA (wpAny_holding (Calls.evalArgs_plain (Calls.spliced_cons (wpAny_mono h (fun v₁ s₁ h₁ => Calls.spliced_cons (wpAny_mono h₁ (fun v₂ s₂ h₂ => Calls.spliced_nil ?_) fun _ _ x => x)) fun _ _ x => x))))
  obtain ⟨⟨o, ho, hd⟩, h₂⟩ := h₂
  refine wpN_bindA (wpAny_standAt ?_)
  refine wpN_bindA ?_
  unfold keeperOf
  refine wpAny_bind (wpAny_load ho ?_)
  rw [hd]
  refine wpAny_pure ?_
  exact wpN_tail (by unfold callMarked; exact wpN_keep h₂)
end
end Mine
end

section
theorem Mine.anew_Bs : True := by w_top off; first | walk1 | exact True.intro
open PySem PySem.W PySem.Calls PyProof.Rows
set_option maxRecDepth 100000
set_option maxHeartbeats 4000000
namespace Mine
local macro_rules | `(tactic| walk_at "exec For Name Call cons nil") => `(tactic| (k_here; (rename Fr _ _ _ _ => lF); with_unfolding_all (refine For_PI lF (by rfl) (by rfl) ?_)))

/-- where an octet comes from -/
def sw (W p : Nat) : Nat := p / W * W + (W - 1 - p % W)
/-- i blocks are turned -/
def SwI (b : Array UInt8) (W i : Nat) (out : Array UInt8) : Prop := out.size = b.size ∧ ∀ p, p < i * W → out.toList.getD p 0 = b.toList.getD (sw W p) 0
theorem SwI.zero {b : Array UInt8} {W k : Nat} (hk : k = b.size) : SwI b W 0 (Array.replicate k 0) := ⟨by simp [hk], fun p hp => by omega⟩
/-- in a block, j octets are turned -/
def SwJ (b : Array UInt8) (W i j : Nat) (out : Array UInt8) : Prop := SwI b W i out ∧ ∀ q, q < j → out.toList.getD (i * W + (W - 1 - q)) 0 = b.toList.getD (i * W + q) 0
theorem SwI.J {b : Array UInt8} {W i : Nat} {out : Array UInt8} (h : SwI b W i out) : SwJ b W i 0 out := ⟨h, fun q hq => by omega⟩
theorem SwJ.done {b : Array UInt8} {W i : Nat} {out : Array UInt8} (h : SwJ b W i W out) : SwI b W (i + 1) out := by
  refine ⟨h.1.1, fun p hp => ?_⟩
  by_cases hl : p < i * W
  · exact h.1.2 p hl
  · have e1 : (i + 1) * W = i * W + W := by rw [Nat.add_mul, Nat.one_mul]
    have hW : 0 < W := by omega
    obtain ⟨r, hr⟩ : ∃ r, p = i * W + r := ⟨p - i * W, by omega⟩
    have hrW : r < W := by omega
    have e2 : p / W = i := by rw [hr, Nat.add_comm, Nat.add_mul_div_right _ _ hW, Nat.div_eq_of_lt hrW]; omega
    have e3 : p % W = r := by rw [hr, Nat.add_comm, Nat.add_mul_mod_self_right, Nat.mod_eq_of_lt hrW]
    have := h.2 (W - 1 - r) (by omega)
    unfold sw
    rw [e2, e3, ← this]
    congr 1
    omega
theorem SwJ.step {b : Array UInt8} {W i j : Nat} {out : Array UInt8} (h : SwJ b W i j out) (hj : j < W) (hs : (i + 1) * W ≤ b.size) : SwJ b W i (j + 1) (out.setIfInBounds (i * W + (W - 1 - j)) (b.toList.getD (i * W + j) 0)) := by
  have e1 : (i + 1) * W = i * W + W := by rw [Nat.add_mul, Nat.one_mul]
  have hsz := h.1.1
  have key : ∀ p, (out.setIfInBounds (i * W + (W - 1 - j)) (b.toList.getD (i * W + j) 0)).toList.getD p 0 = if p = i * W + (W - 1 - j) then b.toList.getD (i * W + j) 0 else out.toList.getD p 0 := by
    intro p
    rw [Array.toList_setIfInBounds, List.getD_eq_getElem?_getD, List.getElem?_set, List.getD_eq_getElem?_getD (l := out.toList)]
    by_cases hp : i * W + (W - 1 - j) = p
    · rw [if_pos hp, if_pos hp.symm, if_pos (by rw [Array.length_toList]; omega)]; rfl
    · rw [if_neg hp, if_neg (Ne.symm hp)]
  refine ⟨⟨by rw [Array.size_setIfInBounds]; exact hsz, fun p hp => ?_⟩, fun q hq => ?_⟩
  · rw [key, if_neg (by omega)]; exact h.1.2 p hp
  · rw [key]
    by_cases hqj : q = j
    · rw [if_pos (by rw [hqj]), hqj]
    · rw [if_neg (by omega)]; exact h.2 q (by omega)
theorem small_of {b c : Int} (h0 : 0 ≤ b) (h1 : b ≤ 1000000) (h2 : 1 ≤ c) (h3 : c ≤ 1000000) : PySem.Builtin.Range.small 0 b c = true := by
  have hs : 0 ≤ PySem.Builtin.Range.rangeSize 0 b c ∧ PySem.Builtin.Range.rangeSize 0 b c ≤ 1000001 := by
    unfold PySem.Builtin.Range.rangeSize
    rw [if_pos (by omega)]
    by_cases hb : 0 < b
    · rw [if_pos hb]
      have q0 : 0 ≤ (b - 0 - 1) / c := Int.ediv_nonneg (by omega) (by omega)
      have q1 : (b - 0 - 1) / c ≤ b - 0 - 1 := Int.ediv_le_self _ (by omega)
      omega
    · rw [if_neg hb]; omega
  have fits : ∀ i : Int, 0 ≤ i → i ≤ 3000000 → PySem.Builtin.Range.rangeFitsLong i = true := by
    intro i a b
    simp only [PySem.Builtin.Range.rangeFitsLong, Bool.and_eq_true, decide_eq_true_eq]
    omega
  unfold PySem.Builtin.Range.small
  rw [fits 0 (by omega) (by omega), fits b h0 (by omega), fits c (by omega) (by omega), fits _ hs.1 (by omega), if_pos (by omega), fits (b + (c - 1)) (by omega) (by omega)]
  simp
theorem range_size (n W : Nat) (hW : 1 ≤ W) : PySem.Builtin.Range.rangeSize 0 ((n * W : Nat) : Int) (W : Int) = (n : Int) := by
  unfold PySem.Builtin.Range.rangeSize
  rw [if_pos (by omega)]
  cases n with
  | zero => rw [if_neg (by simp)]; rfl
  | succ k =>
    have h1 : (k + 1) * W = k * W + W := by rw [Nat.add_mul, Nat.one_mul]
    rw [if_pos (by rw [h1]; omega)]
    have h2 : (((k + 1) * W : Nat) : Int) - 0 - 1 = ((W - 1 : Nat) : Int) + (k : Int) * (W : Int) := by
      have : ((k * W : Nat) : Int) = (k : Int) * (W : Int) := by exact Int.natCast_mul ..
      omega
    rw [h2, Int.add_mul_ediv_right _ _ (by omega), Int.ediv_eq_zero_of_lt (by omega) (by omega)]
    omega
theorem bItem {prog : Program} {w : World} {A : Around} {E : Value → Shared → Prop} {s : Shared} {value slice : Expr} {b : Array UInt8} {t : Tok} {i : Int} {ui : Tok} {Q : Value → Shared → Prop} (h0 : 0 ≤ i) (h1 : i < b.size) (hb : b.size ≤ 16777216)
    (h : ∀ t' k, Q (.int ((b.toList.getD i.toNat 0).toNat : Int) t') { s with toks := k })
    (hs : subscripted slice false (.bytes b t) (.int i ui) = operate [.bytes b t, .int i ui] (getItem (.bytes b t) (.int i ui)) := by with_unfolding_all rfl)
    (ht : ∀ r, letTemporaryGo value (.bytes b t) r = pure () := by intro _; with_unfolding_all rfl) : wpAny (model prog w) A (subscriptTail value slice (.bytes b t) (.int i ui)) Q E s := by
  refine KBw.item_K (ks := KBw.bInts b) rfl (by rw [KBw.ints_length]; omega) h0 (by rw [KBw.ints_length]; omega) ?_ hs ht
  intro t' k _ _
  unfold KBw.bInts
  rw [← KBw.getD_ints]
  exact h t' k
local macro_rules | `(tactic| walk_at "subscriptTail") => `(tactic| (k_here; (with_reducible show wpAny _ _ (subscriptTail _ _ (Value.bytes _ _) (Value.int _ _)) _ _ _); (refine bItem (by omega) (by omega) (by omega) ?_); intro _ _))
local macro_rules | `(tactic| walk_at "call builtin:len") => `(tactic| (k_here; (with_reducible show wpAny _ _ (call (Value.builtin "len") [Value.bytes _ _]) _ _ _); (refine len_bytes (by omega) ?_)))

theorem sp_byteswap (w : World) (b : Array UInt8) (W n : Nat) (t u : Tok) (hW : 1 ≤ W) (hW2 : W ≤ 1000) (hn : n ≤ 100) (hb : b.size = n * W) : SpQ w 55 [.bytes b t, .int (W : Int) u] (fun _ _ v => ∃ c t', v = .bytes c t' ∧ SwI b W n c) := by
  have hfill : PySem.Challenge.rw_kt0004_01.prog = PySem.Challenge.rw_kt0004_01.prog ∧ hd.heap_39 = hd.heap_39 := by k_fill; exact ⟨rfl, rfl⟩
  clear hfill
  refine spQ_plain (binds := _) (by k_dflt k_is) (by k_dflt k_is) (fun s X => BindsTo.of_eq rfl) (locs rfl) (by decide) (by rfl) (by rfl) (by rfl) (by exact Nat.succ_pos _) ?_
  unfold BdQ
  intro dp un gd outer A₀ base g L mean mg mb s B' X' T' F' N' hpos hk hd hu
  (try dsimp only)
  have hbz : b.size ≤ 100000 := by
    rw [hb]
    exact Nat.le_trans (Nat.mul_le_mul hn hW2) (by omega)
  refine wpN_execs_cons (wpN_Assign_Name (wpN_Call_Name ?_) (by rfl))
  k_steps
  refine callN_type1 (by rfl) ?_
  k_steps
  refine call_ba (by omega) (by omega) fun h' hD hk' => ?_
  (rename Fr _ _ _ _ => F'); (rename News _ _ _ _ => N')
  have F2 := F'.keeps hk'
  have N2 : News g L h' [(s.heap.objs.size, baObj (Array.replicate (b.size : Int).toNat 0))] := by
    intro p hp
    rw [List.mem_singleton.mp hp]
    exact ⟨hD, (Nat.ne_of_lt F'.ns.lt).symm, next_is_new F'⟩
  clear F' N' hD hk'
  have hsz : ∃ D, D = s.heap.objs.size := ⟨_, rfl⟩
  obtain ⟨D, hDe⟩ := hsz
  (try dsimp only)
  (try dsimp only at F2)
  rw [← hDe] at N2 ⊢
  k_steps
  refine wpN_of_any ?_
  k_steps
  (rename IsRange _ _ _ _ _ _ _ _ => hR); (rename Fr _ _ _ _ => F'); (rename News _ _ _ _ => N')
  refine range_loopM [Str.ofString "j"] (n := n) (fun i nx => ∃ out, nx = [(D, baObj out)] ∧ SwI b W i out) rfl hR (small_of (by omega) (by omega) (by omega) (by omega)) (by rw [hb]; exact range_size n W hW) F' N' ⟨_, rfl, SwI.zero (by omega)⟩ ?_ ?_
  · rintro i ti g1 news₁ h1 tk1 own hi - hoff ⟨out, rfl, hI⟩ F1 N1
    clear hR F' N'
    dsimp only [over] at F1
    k_steps
    (rename IsRange _ _ _ _ _ _ _ _ => hR); (rename Fr _ _ _ _ => F'); (rename News _ _ _ _ => N')
    have hbnd : (i + 1) * W ≤ b.size := by rw [hb]; exact Nat.mul_le_mul_right _ hi
    have hmul : (i + 1) * W = i * W + W := by rw [Nat.add_mul, Nat.one_mul]
    refine range_loopM [] (n := W) (fun j nx => ∃ out', nx = (D, baObj out') :: own ∧ SwJ b W i j out') rfl hR (small_of (by omega) (by omega) (by omega) (by omega)) (by have := range_size W 1 (by omega); rw [Nat.mul_one] at this; exact this) F' N' ⟨_, rfl, hI.J⟩ ?_ ?_
    · rintro j tj g2 news₂ h2 tk2 own2 hj - hoff2 ⟨out2, rfl, hJ⟩ F2 N2
      clear hR F' N'
      dsimp only [over] at F2
      k_steps
      (rename Fr _ _ _ _ => F'); (rename News _ _ _ _ => N')
      have hv := UInt8.toNat_lt (b.toList.getD (0 + ↑i * ↑W + (0 + ↑j * 1) : Int).toNat 0)
      have hsz := hJ.1.1
      have hDN := N' _ (List.mem_cons_self ..)
      refine setItem_ba hDN.1 (by omega) (by omega) (by omega) (by omega) (by omega) fun h3 hD3 hs3 => ?_
      have F3 := F'.change hs3 hDN.2.1 hDN.2.2
      have e1 : (0 + (i : Int) * (W : Int) + (W : Int) - 1 - (0 + (j : Int) * 1)).toNat = i * W + (W - 1 - j) := by
        have : ((i * W : Nat) : Int) = (i : Int) * (W : Int) := by exact Int.natCast_mul ..
        omega
      have e2 : (0 + (i : Int) * (W : Int) + (0 + (j : Int) * 1)).toNat = i * W + j := by
        have : ((i * W : Nat) : Int) = (i : Int) * (W : Int) := by exact Int.natCast_mul ..
        omega
      rw [e1, e2, Int.toNat_natCast, show ∀ x : UInt8, x.toNat.toUInt8 = x from fun x => UInt8.ofNat_toNat] at hD3
      have hJ3 := hJ.step hj hbnd
      have N3 : News g L h3 ((D, baObj (out2.setIfInBounds (i * W + (W - 1 - j)) (b.toList.getD (i * W + j) 0))) :: own ++ own2) := by
        intro p hp
        rcases List.mem_append.mp hp with hp | hp
        · rcases List.mem_cons.mp hp with rfl | hp
          · exact ⟨hD3, hDN.2⟩
          · have := N' p (List.mem_append_left _ (List.mem_cons_of_mem _ hp))
            exact ⟨hs3.extBut _ _ (hoff p hp _ (List.mem_cons_self ..)) this.1, this.2⟩
        · have := N' p (List.mem_append_right _ hp)
          exact ⟨hs3.extBut _ _ (hoff2 p hp _ (List.mem_cons_self ..)) this.1, this.2⟩
      clear F' N' hDN
      dsimp only
      k_steps
      (rename Fr _ _ _ _ => F'); (rename News _ _ _ _ => N')
      refine LE.next (_ :: own) F' N' (fun p hp => List.mem_append_left _ hp) (fun p hp => List.mem_append_right _ hp) rfl ⟨?_, _, rfl, hJ3⟩
      intro y hy
      have h2 : y ≠ Str.ofString "j" := fun e => hy (by rw [e]; exact List.mem_cons_self ..)
      dsimp only
      rw [if_neg h2]
    · rintro g2 news₂ h2 tk2 - ⟨out2, rfl, hJ⟩ F2 N2
      clear hR F' N'
      dsimp only [over] at F2
      k_steps
      (rename Fr _ _ _ _ => F'); (rename News _ _ _ _ => N')
      refine LE.next [(D, baObj out2)] F' N' (fun p hp => by rw [List.mem_singleton.mp hp]; exact List.mem_cons_self ..) (fun p hp => List.mem_cons_of_mem _ hp) rfl ⟨?_, _, rfl, hJ.done⟩
      intro y hy
      have h1 : y ≠ Str.ofString "i" := fun e => hy (by rw [e]; exact List.mem_cons_self ..)
      have h2 : y ≠ Str.ofString "j" := fun e => hy (by rw [e]; exact List.mem_cons_of_mem _ (List.mem_cons_self ..))
      dsimp only
      rw [if_neg h2, if_neg h1, if_neg h2]
  · rintro g1 news₁ h1 tk1 - ⟨out, rfl, hI⟩ F1 N1
    clear hR F' N'
    dsimp only [over] at F1
    k_steps
    (rename Fr _ _ _ _ => F'); (rename News _ _ _ _ => N')
    refine bytes_ba (N' _ (List.mem_cons_self ..)).1 (by rw [hI.1]; omega) fun t' k' => ?_
    refine Fin1.intro F' ⟨_, t', rfl, hI⟩
end Mine
end

section
theorem Mine.anew_Lt : True := by w_top off; first | walk1 | exact True.intro
open PySem PySem.W PySem.Calls PyProof.Rows
set_option maxRecDepth 100000
set_option maxHeartbeats 4000000
namespace Mine
section
variable {prog : Program} {w : World} {A : Around} {E : Value → Shared → Prop} {s : Shared} {h₀ : Heap} {L : Addr} {m : Str → Option Value} {env : Env}
theorem src_range {elt : Expr} {x : Str} {scope : Scope} {cl : List (Str × Addr)} {Fin : Shared → List Value → List (Addr × Obj) → Prop} {r : Addr} {a b c : Int} {t u v : Tok} {n : Nat} {news : List (Addr × Obj)} {s₁ : Shared}
    (hh : A.handled = none) (hr : IsRange s₁.heap r a b c t u v) (hsmall : Builtin.Range.small a b c = true) (hn : Builtin.Range.rangeSize a b c = (n : Int)) (F : Fr h₀ L s₁.heap m) (N : News h₀ L s₁.heap news) (hsz : n ≤ sizeLine)
    (h : ∀ g, LCg.CompRest prog w A h₀ L m env elt x scope cl { s₁ with heap := g } (fun _ => True) (fun i v => ∃ t, v = .int (a + (i : Nat) * c) t) (Fin { s₁ with heap := g }) n 0 [] news) :
    SrcW prog w A h₀ L m env elt x scope cl Fin (.ref r) s₁ := by
  intro E
  have up : ∀ (o : Obj) b ob, s₁.heap.get? b = some ob → (s₁.heap.push o).get? b = some ob := fun o b ob e => Heap.get?_push_of_some _ e
  have fpl : ∀ (o : Obj), ∀ b ∈ [s₁.heap.objs.size], b < (s₁.heap.push o).objs.size := fun o b hb => by
    rw [List.mem_singleton.mp hb, Heap.size_push]; exact Nat.lt_succ_self _
  refine wpAny_pyIter_range hr hsmall ?_
  refine ⟨_, _, _, _, _, fun _ => True, news, rfl, Walks.range hh s₁.heap.objs.size a c n, hsz, ?_, ?_, ?_, fpl _, F.keeps (up _), N.grown (up _), Nat.ne_of_lt F.ns.lt, next_is_new F, (fun p hp => Nat.ne_of_lt (Heap.lt_size (N p hp).1)), trivial, h _⟩
  · intro i h e; exact ⟨_, e⟩
  · intro i h h' o nw e e1 e2 _ _ _
    have e : h.get? s₁.heap.objs.size = _ := e
    rw [e1] at e; cases e; exact e2
  · show IsRangeIter _ _ _ _ _
    rw [hn]; simpa using Heap.get?_push_size _ rfl
end
local macro_rules | `(tactic| walk_at "exec For Name Name cons nil") => `(tactic| (k_here; (rename Fr _ _ _ _ => lF); with_unfolding_all (refine For_PI lF (by rfl) (by rfl) ?_)))
local macro_rules | `(tactic| walk_at "exec Assign cons ListComp") => `(tactic| (k_here; (rename Fr _ _ _ _ => lF); k_dflt (refine Assign_ListComp_W lF rfl (by with_unfolding_all rfl) (by with_unfolding_all rfl) (by decide) (by rfl) (by decide) (by rfl) (by rfl) (by rfl) ?_)))
theorem over_one {g m : Str → Option Value} {z : Str} {v : Value} (h : g z = some v) : over g [z] m = fun y => if y = z then some v else m y := by
  funext y
  show (if y = z then g y else m y) = _
  by_cases hy : y = z
  · rw [if_pos hy, if_pos hy, hy, h]
  · rw [if_neg hy, if_neg hy]
theorem fig_of (x : Int) (t : Tok) : ∃ f t', f < 20 ∧ Value.int (x.fmod 20) t = .int ((f : Nat) : Int) t' := by
  have m0 : 0 ≤ x.fmod 20 := Int.fmod_nonneg_of_pos _ (by decide)
  have m1 : x.fmod 20 < 20 := Int.fmod_lt_of_pos _ (by decide)
  exact ⟨(x.fmod 20).toNat, t, by omega, by rw [Int.toNat_of_nonneg m0]⟩
/-- a rest, by its place -/
def rest4 : Nat → List Nat
  | 0 => [59, 112, 109, 97]
  | 1 => [59, 116, 108]
  | 2 => [59, 116, 111, 117, 113]
  | _ => [59, 116, 103]
def beh4 : Nat → List Nat
  | 0 => [38]
  | 1 => [60]
  | 2 => [34]
  | _ => []
def one4 : Nat → List Nat
  | 0 => [39]
  | 1 => [34]
  | 2 => [62]
  | _ => [120]
/-- what one figure writes -/
def piece (f : Nat) : List Nat := if f < 16 then rest4 (f / 4) ++ beh4 (f % 4) else one4 (f - 16)
theorem Jtext {o : Option Value} {x : Str} {tt : Tok} {fs : List Nat} {i f : Nat} (hm : o = some (.str x tt)) (hx : x = S ((fs ++ [f]).flatMap piece)) (hfl : fs.length = i) (hfs : ∀ f ∈ fs, f < 20) (hf : f < 20) :
    ∃ (fs : List Nat) (tt : Tok), fs.length = i + 1 ∧ (∀ f ∈ fs, f < 20) ∧ o = some (.str (S (fs.flatMap piece)) tt) := by
  refine ⟨fs ++ [f], tt, by rw [List.length_append, hfl]; rfl, fun z hz => ?_, by rw [hm, hx]⟩
  rcases List.mem_append.mp hz with hz | hz
  · exact hfs z hz
  · rw [List.mem_singleton.mp hz]; exact hf
theorem rest4_len (k : Nat) : (S (rest4 k)).length ≤ 5 := by
  rw [S_len]; match k with | 0 => decide | 1 => decide | 2 => decide | _ + 3 => exact (by decide : 3 ≤ 5)
theorem beh4_len (k : Nat) : (S (beh4 k)).length ≤ 1 := by
  rw [S_len]; match k with | 0 => decide | 1 => decide | 2 => decide | _ + 3 => exact (by decide : 0 ≤ 1)
theorem one4_len (k : Nat) : (S (one4 k)).length ≤ 1 := by
  rw [S_len]; match k with | 0 => decide | 1 => decide | 2 => decide | _ + 3 => exact (by decide : 1 ≤ 1)
theorem piece_len (f : Nat) : (piece f).length ≤ 6 := by
  have h1 := rest4_len (f / 4); have h2 := beh4_len (f % 4); have h3 := one4_len (f - 16)
  rw [S_len] at h1 h2 h3
  unfold piece
  split
  · rw [List.length_append]; omega
  · omega
theorem pieces_len (fs : List Nat) : (S (fs.flatMap piece)).length ≤ 6 * fs.length := by
  rw [S_len]
  induction fs with
  | nil => exact Nat.le_refl _
  | cons f fs ih => rw [List.flatMap_cons, List.length_append, List.length_cons]; have := piece_len f; omega
theorem sub_tab4 {prog : Program} {w : World} {A : Around} {E : Value → Shared → Prop} {s : Shared} {h₀ : Heap} {L l : Addr} {news : List (Addr × Obj)} {value slice : Expr} {x0 x1 x2 x3 : Str} {t0 t1 t2 t3 u : Tok} {i : Int} {Q : Value → Shared → Prop} (f : Nat → List Nat) (k : Nat)
    (N : News h₀ L s.heap news) (hm : (l, listOf #[.str x0 t0, .str x1 t1, .str x2 t2, .str x3 t3] 0) ∈ news) (e0 : x0 = S (f 0)) (e1 : x1 = S (f 1)) (e2 : x2 = S (f 2)) (e3 : x3 = S (f 3)) (hi : i = (k : Int)) (hk : k < 4) (h : ∀ t', Q (.str (S (f k)) t') s)
    (hs : subscripted slice false (.ref l) (.int i u) = operate [.ref l, .int i u] (getItem (.ref l) (.int i u)) := by with_unfolding_all rfl) :
    wpAny (model prog w) A (subscriptTail value slice (.ref l) (.int i u)) Q E s := by
  have hl : s.heap.IsList l #[.str x0 t0, .str x1 t1, .str x2 t2, .str x3 t3] := ⟨_, (N _ hm).1, rfl, _, rfl⟩
  subst hi
  have hx : ∃ t', (#[Value.str x0 t0, .str x1 t1, .str x2 t2, .str x3 t3] : Array Value)[k]? = some (.str (S (f k)) t') := by
    have hk4 : k = 0 ∨ k = 1 ∨ k = 2 ∨ k = 3 := by omega
    rcases hk4 with rfl | rfl | rfl | rfl
    · exact ⟨t0, by rw [← e0]; rfl⟩
    · exact ⟨t1, by rw [← e1]; rfl⟩
    · exact ⟨t2, by rw [← e2]; rfl⟩
    · exact ⟨t3, by rw [← e3]; rfl⟩
  obtain ⟨t', e⟩ := hx
  exact tail_any hl.typeIs slot_list_getitem.lookup (wpAny_getItem_list hl (by omega) (by omega) (x := .str _ t') (by simpa using e) (h t')) hs
local macro_rules | `(tactic| walk_at "subscriptTail") => `(tactic| (k_here; (with_reducible show wpAny _ _ (subscriptTail _ _ (Value.ref _) (Value.int _ _)) _ _ _); first
  | (refine sub_tab4 rest4 (_ / 4) (by k_asm) (by k_mem) (by decide +kernel) (by decide +kernel) (by decide +kernel) (by decide +kernel) (Int.fdiv_eq_ediv_of_nonneg _ (by decide)) (by omega) ?_; intro _)
  | (refine sub_tab4 beh4 (_ % 4) (by k_asm) (by k_mem) (by decide +kernel) (by decide +kernel) (by decide +kernel) (by decide +kernel) (Int.fmod_eq_emod_of_nonneg _ (by decide)) (by omega) ?_; intro _)
  | (refine sub_tab4 one4 (Int.toNat _) (by k_asm) (by k_mem) (by decide +kernel) (by decide +kernel) (by decide +kernel) (by decide +kernel) (Int.toNat_of_nonneg (by omega)).symm (by omega) ?_; intro _)))
theorem sp_text (w : World) (n : Int) (t : Tok) (h0 : 0 ≤ n) (h1 : n < 24000) : Sp w 60 [.int n t] (fun _ _ v => ∃ (fs : List Nat) (t' : Tok), fs.length ≤ 3 ∧ (∀ f ∈ fs, f < 20) ∧ v = .str (S (fs.flatMap piece)) t') := by
  have hfill : PySem.Challenge.rw_kt0004_01.prog = PySem.Challenge.rw_kt0004_01.prog ∧ hd.heap_39 = hd.heap_39 := by k_fill; exact ⟨rfl, rfl⟩
  clear hfill
  refine sp_cells (binds := [(Str.ofString "number", .int n t)]) (by k_dflt k_is) (by k_dflt k_is) (fun s X => BindsTo.of_eq rfl) (by rfl) (by decide +kernel) (by rfl) (by rfl) (by rfl) ?_
  unfold BdC
  intro dp un gd outer A₀ base g L cells mean mg mb s B' X' T' F' N' Y' hk hd hu
  k_cells Y'
  (try dsimp only)
  k_steps
  (rename IsRange _ _ _ _ _ _ _ _ => hR); (rename Fr _ _ _ _ => F'); (rename News _ _ _ _ => N')
  have m0 : 0 ≤ n.fmod 3 := Int.fmod_nonneg_of_pos _ (by decide)
  have m1 : n.fmod 3 < 3 := Int.fmod_lt_of_pos _ (by decide)
  obtain ⟨c, hc⟩ : ∃ c : Nat, (c : Int) = 1 + n.fmod 3 := ⟨(1 + n.fmod 3).toNat, by omega⟩
  rw [← hc] at hR
  refine src_range (n := c) rfl hR (small_of (by omega) (by omega) (by omega) (by omega)) (by have := range_size c 1 (by omega); rw [Nat.mul_one] at this; exact this) F' N' (by rw [sizeLine_eq]; omega) ?_
  clear hR F' N'
  intro hg
  refine rest_pure (fun i v => ∃ f t, f < 20 ∧ v = .int ((f : Nat) : Int) t) trivial ?_ ?_
  · intro i v I oI C oC D m₂ ys h tk hi hv hC hm F N off ne
    obtain ⟨u, rfl⟩ := hv
    (try simp only [LCg.Off3, and_true] at off)
    (try dsimp only)
    have hi3 : i = 0 ∨ i = 1 ∨ i = 2 := by omega
    rcases hi3 with rfl | rfl | rfl
    all_goals k_steps
    all_goals exact CE.intro (by k_asm) (by k_asm) (fun p hp => hp) (fig_of _ _)
  · intro ys hlen hG
    k_steps
    (rename Fr _ _ _ _ => F'); (rename News _ _ _ _ => N')
    refine list_loopM [Str.ofString "text"] (its := ys.toArray) (fun i m' nx => nx = _ ∧ ∃ (fs : List Nat) (tt : Tok), fs.length = i ∧ (∀ f ∈ fs, f < 20) ∧ m' (Str.ofString "text") = some (.str (S (fs.flatMap piece)) tt)) rfl (by k_mem) F' N' ⟨rfl, [], _, rfl, (fun _ h => nomatch h), rfl⟩ ?_ ?_
    · rintro i v g1 news₁ h1 tk1 own hi hv - ⟨rfl, fs, tt, hfl, hfs, hgt⟩ F1 N1
      clear F' N'
      obtain ⟨f, tf, hf, rfl⟩ := hG i v (by simpa using hv)
      rw [over_one hgt] at F1
      have hi3 : i < 3 := by have : i < ys.length := by simpa using hi
                             omega
      have q0 := pieces_len fs
      have q1 := rest4_len (f / 4)
      have q2 := beh4_len (f % 4)
      have q3 := one4_len (((f : Int) - 16).toNat)
      k_steps
      all_goals (
        (rename Fr _ _ _ _ => F'); (rename News _ _ _ _ => N')
        refine LE.next _ F' N' ?_ ?_ ?_ ⟨?_, rfl, Jtext rfl ?_ hfl hfs hf⟩
        · intro p hp
          first | exact List.mem_append_left _ hp | exact List.mem_cons_of_mem _ (List.mem_append_left _ hp) | exact List.mem_cons_of_mem _ (List.mem_cons_of_mem _ (List.mem_append_left _ hp))
        · intro p hp
          first | exact List.mem_append_right _ hp | exact List.mem_cons_of_mem _ (List.mem_append_right _ hp) | exact List.mem_cons_of_mem _ (List.mem_cons_of_mem _ (List.mem_append_right _ hp))
        · rfl
        · intro y hy
          have n1 : y ≠ Str.ofString "figure" := fun e => hy (by rw [e]; exact List.mem_cons_self ..)
          have n2 : y ≠ Str.ofString "text" := fun e => hy (by rw [e]; exact List.mem_cons_of_mem _ (List.mem_cons_self ..))
          simp only [if_neg n1, if_neg n2]
        · rw [List.flatMap_append, S_app]
          first
            | (have hc16 : f < 16 := by omega
               simp [piece, hc16, S_app])
            | (have hc16 : ¬ f < 16 := by omega
               have e16 : ((f : Int) - 16).toNat = f - 16 := by omega
               simp [piece, hc16, e16]))
    · rintro g1 news₁ h1 tk1 - ⟨rfl, fs, tt, hfl, hfs, hgt⟩ F1 N1
      clear F' N'
      have e : over g1 [Str.ofString "figure", Str.ofString "text"] = over (fun y => if y = Str.ofString "text" then some (.str (S (fs.flatMap piece)) tt) else g1 y) [Str.ofString "figure", Str.ofString "text"] := by
        congr 1; funext y; by_cases hy : y = Str.ofString "text"
        · rw [if_pos hy, hy, hgt]
        · rw [if_neg hy]
      rw [e] at F1
      k_steps
      dsimp only
      refine Fin1.intro (by k_asm) ⟨fs, tt, ?_, hfs, rfl⟩
      rw [hfl, List.size_toArray, hlen]; omega
end Mine
end

section
theorem Mine.anew_Lr : True := by w_top off; first | walk1 | exact True.intro
open PySem PySem.W PySem.Calls PyProof.Rows
set_option maxRecDepth 100000
namespace Mine
/-- the rest of a sign -/
def rst (c : Nat) : List Nat := if c = 38 then [59, 112, 109, 97] else if c = 60 then [59, 116, 108] else if c = 62 then [59, 116, 103] else [59, 116, 111, 117, 113]
theorem rst_len (c : Nat) : 1 ≤ (rst c).length ∧ (rst c).length ≤ 5 := by
  unfold rst
  split
  · decide
  · split
    · decide
    · split <;> decide
/-- the sign's rest ends at a place -/
def ends (l : List Nat) (i c : Nat) : Bool := ((l.drop (i - (rst c).length)).take (i - (i - (rst c).length))) == rst c
def marks4 : List Nat := [38, 60, 62, 34]
def fnd (l : List Nat) (i : Nat) : Option Nat := marks4.find? (ends l i)
def mks (l : List Nat) : List Nat := if l.contains 39 then marks4 else [38, 60, 62]
/-- what is told from the end; k signs are still to be passed over -/
def goS (l : List Nat) : Nat → Nat → List Nat → Bool → List Nat × Bool
  | 0, _, told, again => (told, again)
  | j + 1, k + 1, told, again => goS l j k told again
  | j + 1, 0, told, again =>
    if (mks l).contains (l.getD j 0) then
      match fnd l j with
      | none => goS l j 0 (told ++ rst (l.getD j 0) ++ [38]) false
      | some d => goS l j (rst d).length (told ++ rst (l.getD j 0) ++ [d]) (again && !(d == 34 && !(l.contains 39)))
    else goS l j 0 (told ++ [l.getD j 0]) again
def go (l : List Nat) (i : Nat) (told : List Nat) (again : Bool) : List Nat × Bool := goS l i 0 told again
theorem goS_skip (l : List Nat) : ∀ (i k : Nat) (told : List Nat) (again : Bool), goS l i k told again = go l (i - k) told again
  | 0, k, told, again => by rw [Nat.zero_sub]; rfl
  | i + 1, 0, _, _ => rfl
  | i + 1, k + 1, told, again => by
    rw [Nat.add_sub_add_right]
    exact goS_skip l i k told again
theorem go_zero (l told : List Nat) (again : Bool) : go l 0 told again = (told, again) := rfl
theorem go_succ (l : List Nat) (j : Nat) (told : List Nat) (again : Bool) : go l (j + 1) told again =
    if (mks l).contains (l.getD j 0) then
      match fnd l j with
      | none => go l j (told ++ rst (l.getD j 0) ++ [38]) false
      | some d => go l (j - (rst d).length) (told ++ rst (l.getD j 0) ++ [d]) (again && !(d == 34 && !(l.contains 39)))
    else go l j (told ++ [l.getD j 0]) again := by
  show (if _ then _ else _) = _
  congr 1
  cases fnd l j with
  | none => rfl
  | some d => exact goS_skip l j _ _ _
def fe (l : List Nat) : List Nat × Bool := go l l.length [] true

theorem ends_le {l : List Nat} {i c : Nat} (h : ends l i c = true) : (rst c).length ≤ i := by
  have h1 : ((l.drop (i - (rst c).length)).take (i - (i - (rst c).length))) = rst c := by simpa [ends] using h
  have h2 := congrArg List.length h1
  rw [List.length_take] at h2
  omega
theorem fnd_ends {l : List Nat} {i c : Nat} (h : fnd l i = some c) : ends l i c = true := List.find?_some h
theorem fnd_mem {l : List Nat} {i c : Nat} (h : fnd l i = some c) : c ∈ marks4 := List.mem_of_find?_eq_some h

/-- two rests do not end at one place -/
theorem ends_one {l : List Nat} {i c d : Nat} (hc : c ∈ marks4) (hd : d ∈ marks4) (h1 : ends l i c = true) (h2 : ends l i d = true) : c = d := by
  have key : ∀ c, c ∈ marks4 → ends l i c = true → l[i - 1]? = (rst c).getLast? := by
    intro c hc h
    have e : ((l.drop (i - (rst c).length)).take (i - (i - (rst c).length))) = rst c := by simpa [ends] using h
    have hl := ends_le h
    have hr := rst_len c
    have hg : ∀ k : Nat, (rst c)[k]? = ((l.drop (i - (rst c).length)).take (i - (i - (rst c).length)))[k]? := fun k => by rw [e]
    have e2 : (rst c)[(rst c).length - 1]? = l[i - 1]? := by
      rw [hg, List.getElem?_take, if_pos (by omega), List.getElem?_drop]
      congr 1; omega
    rw [List.getLast?_eq_getElem?, e2]
  have e := (key c hc h1).symm.trans (key d hd h2)
  simp only [marks4, List.mem_cons, List.not_mem_nil, or_false] at hc hd
  rcases hc with rfl | rfl | rfl | rfl <;> rcases hd with rfl | rfl | rfl | rfl <;> first | rfl | (exact absurd e (by decide))

section
variable {prog : Program} {w : World} {A : Around} {E : Value → Shared → Prop} {s : Shared} {h₀ : Heap} {L : Addr} {m : Str → Option Value} {env : Env}

theorem item_S {value slice : Expr} {l : List Nat} {t u : Tok} {i : Int} {Q : Value → Shared → Prop} (h0 : 0 ≤ i) (h1 : i < l.length) (hz : l.length ≤ 1000000) (h : ∀ t', Q (.str (S [l.getD i.toNat 0]) t') { s with toks := s.toks + 1 })
    (hs : subscripted slice false (.str (S l) t) (.int i u) = operate [.str (S l) t, .int i u] (getItem (.str (S l) t) (.int i u)) := by with_unfolding_all rfl)
    (ht : ∀ r, letTemporaryGo value (.str (S l) t) r = pure () := by intro _; with_unfolding_all rfl) : wpAny (model prog w) A (subscriptTail value slice (.str (S l) t) (.int i u)) Q E s := by
  have e : Txt.item (S l) i = S [l.getD i.toNat 0] := by
    have hs : seqIndex? i (S l).length = some i.toNat := by
      unfold seqIndex?
      dsimp only
      rw [if_neg (Int.not_lt.mpr h0), if_pos (by rw [Bool.and_eq_true, decide_eq_true_iff, decide_eq_true_iff, S_len]; exact ⟨h0, h1⟩)]
    unfold Txt.item Txt.charAt
    rw [hs]
    simp [S, List.getD_eq_getElem?_getD]
  refine item_str (fitsSsize_of (N := 9223372036854775808) (by omega) (by omega) (Int.le_refl _)) (by rw [S_len]; omega) (by rw [S_len]; omega) (fun _ => ?_) hs ht
  rw [e]; exact h _

theorem notin_S {c : Nat} {x : Str} {ms : List Nat} {t u : Tok} {Q : Value → Shared → Prop} (hx : x = S ms) (h : Q (.bool (!(ms.contains c))) s) : wpAny (model prog w) A (compareOp .NotIn (.str (S [c]) t) (.str x u)) Q E s := by
  refine notIn_str ?_
  have e : (!(Builtin.Str.occurrences x (S [c]) 0 x.length 1).isEmpty) = ms.contains c := by
    rw [hx, show S [c] = ⟨#[c]⟩ from rfl, StrLaws.found_one, Bool.eq_iff_iff, decide_eq_true_iff, List.contains_iff_mem]
    simp [S]
  rw [e]; exact h

def restsD : List (PyData × PyData) := [(.str (Str.ofString "&"), .str (Str.ofString ";pma")), (.str (Str.ofString "<"), .str (Str.ofString ";tl")), (.str (Str.ofString ">"), .str (Str.ofString ";tg")), (.str (Str.ofString "\""), .str (Str.ofString ";touq"))]
theorem flat_str {v : Value} {x : Str} (h : PyProof.V.Flat v (.str x)) : ∃ t, v = .str x t := by
  have := h {  }
  cases this
  exact ⟨_, rfl⟩
theorem rests_S {value slice : Expr} {d : Addr} {c : Nat} {t : Tok} {Q : Value → Shared → Prop} (T : TabAt (PySem.strKind prog w) PyData.str s.heap d restsD) (hc : c ∈ marks4) (h : ∀ t', Q (.str (S (rst c)) t') { s with toks := s.toks + 1 })
    (hs : subscripted slice false (.ref d) (.str (S [c]) t) = operate [.ref d, .str (S [c]) t] (getItem (.ref d) (.str (S [c]) t)) := by with_unfolding_all rfl) (hg : ∀ r, letTemporaryGo value (.ref d) r = pure () := by intro _; with_unfolding_all rfl) :
    wpAny (model prog w) A (subscriptTail value slice (.ref d) (.str (S [c]) t)) Q E s := by
  have hl : PySem.Spec.lookup (.str (S [c])) restsD = some (.str (S (rst c))) := by
    simp only [marks4, List.mem_cons, List.not_mem_nil, or_false] at hc
    rcases hc with rfl | rfl | rfl | rfl <;> first | rfl | kernel_rfl
  refine item_strTab T hl (fun v hv => ?_) hs hg
  obtain ⟨t', rfl⟩ := flat_str hv
  exact h t'

theorem slice_S {l : List Nat} {a b : Nat} {i j : Int} (hi : i = (a : Int)) (hj : j = (b : Int)) (hab : a ≤ b) (hb : b ≤ l.length) : Txt.slice (S l) (some i) (some j) = S ((l.drop a).take (b - a)) := by
  have := slice_closesL (x := S l) (i := i) (j := j) (by omega) (by omega) (by rw [S_len]; omega)
  have e := eq_of_beq this
  have e1 : (j - i).toNat = b - a := by omega
  have e2 : i.toNat = a := by omega
  rw [e, e1, e2]
  rfl

/-- a source of a comprehension with one test -/
def SrcWT (prog : Program) (w : World) (A : Around) (h₀ : Heap) (L : Addr) (m : Str → Option Value) (env : Env) (ct elt : Expr) (x : Str) (scope : Scope) (cl : List (Str × Addr)) (Fin : Shared → List Value → List (Addr × Obj) → Prop) (xv : Value) (s₁ : Shared) : Prop :=
  ∀ E : Value → Shared → Prop, wpAny (model prog w) A (pyIter xv) (fun it s₂ => ∃ (I : Addr) (fp : List Addr) (n : Nat) (P : Nat → Value → Prop) (St : Nat → Heap → Prop) (S : List (Addr × Obj) → Prop) (news : List (Addr × Obj)), it = .ref I ∧ Walks prog w A I fp [I] n P St ∧ n ≤ sizeLine ∧ (∀ i h, St i h → ∃ o, h.get? I = some o) ∧
    (∀ i h h' o nw, St i h → h.get? I = some o → h'.get? I = some o → (∀ b o, h₀.get? b = some o → h'.get? b = some o) → News h₀ L h' nw → S nw → St i h') ∧ St 0 s₂.heap ∧ (∀ b ∈ fp, b < s₂.heap.objs.size) ∧ Fr h₀ L s₂.heap m ∧ News h₀ L s₂.heap news ∧ L ≠ I ∧ h₀.get? I = none ∧ (∀ p ∈ news, p.1 ≠ I) ∧ S news ∧
    LCt.CompRestT prog w A h₀ L m env ct elt x scope cl s₂ S P (Fin s₂) n 0 [] news) E s₁

theorem Assign_ListComp_WT {ct elt iter : Expr} {x y : Str} {px py : Pos} {scope : Scope} {cl : List (Str × Addr)} {pos spos : Pos} {Q : Flow → Shared → Prop} (F₁ : Fr h₀ L s.heap m) (hLe : env.locals = L)
    (hsw : swapsWith (.ListComp elt [⟨.Name x px, iter, [ct], 0⟩] scope pos) (some (.Name y py)) spos.line env = pure true)
    (hclos : closureFor scope env = pure cl) (hcell : ∀ z ∈ scope.names, z.2 ≠ .cell) (hkind : scope.kind = .function)
    (hnames : ∀ z ∈ scope.names, z.2 = .local → scope.names.lookup z.1 = some .local) (hx : scope.names.lookup x = some .local)
    (hy : env.kindOf y = some .local) (hp : (env.scope.kind == .class || (env.scope.kind == .module && env.locals != env.globals)) = false)
    (h : wpAny (model prog w) A (eval iter env) (SrcWT prog w A h₀ L m env ct elt x scope cl (fun s₂ => LCg.FinA h₀ L m s₂ y Q)) E s)
    (hs : ∀ x, foldedSetIterable iter env x = pure x := by intro _; rfl) :
    wpAny (model prog w) A (exec (.Assign [.Name y py] (.ListComp elt [⟨.Name x px, iter, [ct], 0⟩] scope pos) spos) env) Q E s := by
  subst hLe
  rw [exec_Assign_Name_used _ _ _ _ hsw]
  refine wpAny_bind (wpAny_standAt (wpAny_bind ?_))
  show wpAny _ A (do let _ ← comprehension (.ListComp elt [⟨.Name x px, iter, [ct], 0⟩] scope pos) scope env _ (newList []) false (eval iter env) (some (assign (.Name y py) env))) _ _ s
  refine wpAny_bind (wpAny_mono (wpAny_comprehension_free (use := some (assign (.Name y py) env)) (Q := fun _ s' => Q .next s') rfl hs hclos hkind hnames
    (wpAny_mono h (fun xv s₁ h₁ => ?_) fun _ _ e => e)) (fun _ s' hq => wpAny_pure (wpAny_pure hq)) fun _ _ e => e)
  refine wpAny_mono (h₁ _) (fun it s₂ h₂ => ?_) fun _ _ e => e
  obtain ⟨I, fp, n, P, St, S, news, rfl, W, hsz, hIo, hSt, st0, hfp, F, N, hIL, hI₀, off, hS, R⟩ := h₂
  refine LCt.block_T W hsz hIo hSt hcell hkind hx st0 hfp F N hIL hI₀ off hS R ?_
  intro D C h' tk m' ys news' F' N' o1 hn hC₀ hD₀ hCL hDL hCD offC fin
  show wpAny _ A (assign (.Name y py) env (.ref D)) _ _ _
  refine wpAny_assign_Name (wpAny_storeName_local hy F'.ns (fun h₂ hn₂ hs₂ => ?_) hp)
  have hL₀ : h₀.get? env.locals = none := Heap.get?_none_of_le F'.above
  have F₂ : Fr h₀ env.locals h₂ (fun z => if z = y then some (.ref D) else m z) := ⟨hn₂, fun b o e => hs₂.extBut b o (fun q => by rw [q, hL₀] at e; cases e) (F'.keep b o e), F'.above⟩
  refine ⟨m', hn.sameBut hs₂ hCL, fun h'' hs'' => fin D h'' _ (F₂.change hs'' hCL hC₀) (fun p hp => ?_) o1⟩
  have z : h₂.get? p.1 = some p.2 := hs₂.extBut _ _ (N' p hp).2.1 (N' p hp).1
  refine ⟨hs''.extBut _ _ ?_ z, (N' p hp).2⟩
  rcases List.mem_cons.mp hp with rfl | hp
  · exact Ne.symm hCD
  · exact offC p hp

/-- the end of a test -/
def CB (h₀ : Heap) (L : Addr) (m : Str → Option Value) (s₁ : Shared) (led : List (Addr × Obj)) (b : Bool) (ok : Bool) (s₂ : Shared) : Prop :=
  ∃ h' tk, s₂ = { s₁ with heap := h', toks := tk } ∧ Fr h₀ L h' m ∧ News h₀ L h' led ∧ ok = b
theorem CB.intro {led all : List (Addr × Obj)} {b ok : Bool} {h' : Heap} {tk : Nat} (F : Fr h₀ L h' m) (N : News h₀ L h' all) (sub : ∀ p ∈ led, p ∈ all) (g : ok = b) : CB h₀ L m s led b ok { s with heap := h', toks := tk } :=
  ⟨h', tk, rfl, F, fun p hp => N p (sub p hp), g⟩
/-- the elements that the test lets through -/
def Sel (keep : Nat → Bool) (G : Nat → Value → Prop) : Nat → List Value → Prop
  | 0, ys => ys = []
  | i + 1, ys => if keep i = true then ∃ zs y, ys = zs ++ [y] ∧ G i y ∧ Sel keep G i zs else Sel keep G i ys

theorem rest_test {ct elt : Expr} {x : Str} {scope : Scope} {cl : List (Str × Addr)} {S : List (Addr × Obj) → Prop} {P : Nat → Value → Prop} {Fin : List Value → List (Addr × Obj) → Prop} {n : Nat} {news : List (Addr × Obj)} (keep : Nat → Bool) (G : Nat → Value → Prop) (hS : S news)
    (test : ∀ i v I oI C oC D m₂ ys h tk, i < n → P i v → LCg.NsObj oC m₂ → m₂ x = some v → Fr h₀ L h m → News h₀ L h ((I, oI) :: (C, oC) :: (D, LCg.lst ys) :: news) → LCg.Off3 I C D news → ((@Ne Nat I C) ∧ (@Ne Nat I D) ∧ (@Ne Nat C D)) →
      wpAny (model prog w) A (isTrue ct (compEnvC scope cl C env) (eval ct (compEnvC scope cl C env))) (CB h₀ L m { s with heap := h, toks := tk } ((I, oI) :: (C, oC) :: (D, LCg.lst ys) :: news) (keep i)) (fun _ _ => False) { s with heap := h, toks := tk })
    (turn : ∀ i v I oI C oC D m₂ ys h tk, i < n → keep i = true → P i v → LCg.NsObj oC m₂ → m₂ x = some v → Fr h₀ L h m → News h₀ L h ((I, oI) :: (C, oC) :: (D, LCg.lst ys) :: news) → LCg.Off3 I C D news → ((@Ne Nat I C) ∧ (@Ne Nat I D) ∧ (@Ne Nat C D)) →
      wpAny (model prog w) A (eval elt (compEnvC scope cl C env)) (CE h₀ L m { s with heap := h, toks := tk } ((I, oI) :: (C, oC) :: (D, LCg.lst ys) :: news) (G i)) (fun _ _ => False) { s with heap := h, toks := tk })
    (fin : ∀ ys, Sel keep G n ys → Fin ys news) : LCt.CompRestT prog w A h₀ L m env ct elt x scope cl s S P Fin n 0 [] news := by
  have key : ∀ (j i : Nat) (ys : List Value), i + j = n → Sel keep G i ys → LCt.CompRestT prog w A h₀ L m env ct elt x scope cl s S P Fin j i ys news := by
    intro j
    induction j with
    | zero =>
      intro i ys hi hg
      exact LCt.CompRestT.zero (fin ys (by rw [show n = i by omega]; exact hg))
    | succ j ih =>
      intro i ys hi hg
      refine LCt.CompRestT.succ ?_
      intro v I oI C oC D m₂ h tk E' hv hC hx F N off ne
      refine wpAny_mono (test i v I oI C oC D m₂ ys h tk (by omega) hv hC hx F N off ne) (fun ok s₂ hq => ?_) fun _ _ e => e.elim
      obtain ⟨h', tk', rfl, F', N', rfl⟩ := hq
      by_cases hk : keep i = true
      · rw [if_pos hk]
        refine wpAny_mono (turn i v I oI C oC D m₂ ys h' tk' (by omega) hk hv hC hx F' N' off ne) (fun y s₂ hq => ?_) fun _ _ e => e.elim
        obtain ⟨h3, tk3, rfl, F3, N3, hy⟩ := hq
        exact ⟨h3, tk3, news, rfl, F3, N3, off, hS, ih (i + 1) _ (by omega) (by unfold Sel; rw [if_pos hk]; exact ⟨ys, y, rfl, hy, hg⟩)⟩
      · rw [if_neg hk]
        exact ⟨h', tk', news, rfl, F', N', off, hS, ih (i + 1) _ (by omega) (by unfold Sel; rw [if_neg hk]; exact hg)⟩
  exact key n 0 [] (by omega) rfl

theorem srcT_str {ct elt : Expr} {x : Str} {scope : Scope} {cl : List (Str × Addr)} {Fin : Shared → List Value → List (Addr × Obj) → Prop} {xt : Str} {t : Tok} {news : List (Addr × Obj)} {s₁ : Shared}
    (hh : A.handled = none) (F : Fr h₀ L s₁.heap m) (N : News h₀ L s₁.heap news) (hsz : xt.cps.size ≤ sizeLine) (ha : xt.cps.all (· < 128) = true)
    (h : ∀ g, LCt.CompRestT prog w A h₀ L m env ct elt x scope cl { s₁ with heap := g } (fun _ => True) (SignAt xt) (Fin { s₁ with heap := g }) xt.cps.size 0 [] news) :
    SrcWT prog w A h₀ L m env ct elt x scope cl Fin (.str xt t) s₁ := by
  intro E
  have up : ∀ (o : Obj) b ob, s₁.heap.get? b = some ob → (s₁.heap.push o).get? b = some ob := fun o b ob e => Heap.get?_push_of_some _ e
  have fpl : ∀ (o : Obj), ∀ b ∈ [s₁.heap.objs.size], b < (s₁.heap.push o).objs.size := fun o b hb => by
    rw [List.mem_singleton.mp hb, Heap.size_push]; exact Nat.lt_succ_self _
  refine wpAny_pyIter_ascii ha ?_
  refine ⟨_, _, _, _, _, fun _ => True, news, rfl, Walks.strAscii hh _ xt t, hsz, ?_, ?_, ⟨_, Heap.get?_push_size _ rfl, rfl, rfl⟩, fpl _, F.keeps (up _), N.grown (up _), Nat.ne_of_lt F.ns.lt, next_is_new F, (fun p hp => Nat.ne_of_lt (Heap.lt_size (N p hp).1)), trivial, h _⟩
  · rintro i h ⟨o, e, _⟩; exact ⟨o, e⟩
  · rintro i h h' o nw ⟨o', e', r⟩ e1 e2 _ _ _
    rw [e1] at e'; cases e'; exact ⟨_, e2, r⟩
end

theorem S_beq (a b : List Nat) : (S a == S b) = (a == b) := by
  rw [Bool.eq_iff_iff, beq_iff_eq, beq_iff_eq]
  exact ⟨fun e => by simpa [S] using congrArg Str.cps e, fun e => by rw [e]⟩
theorem ends_of {l : List Nat} {n e i : Nat} (hn : 1 ≤ n) (hnl : n ≤ l.length) (he : marks4[i]? = some e) :
    (Txt.slice (S l) (some (if (n : Int) - 1 - ((S (rst e)).length : Int) > 0 then (n : Int) - 1 - ((S (rst e)).length : Int) else 0)) (some ((n : Int) - 1)) == S (rst e)) = ends l (n - 1) (marks4.getD i 0) := by
  have e1 : marks4.getD i 0 = e := by rw [List.getD_eq_getElem?_getD, he]; rfl
  rw [e1, slice_S (a := n - 1 - (rst e).length) (b := n - 1) ?_ (by omega) (by omega) (by omega), S_beq]
  · rfl
  · rw [S_len]
    split <;> omega
theorem sel_fnd {l : List Nat} {k : Nat} {ys : List Value} (h : Sel (fun i => ends l k (marks4.getD i 0)) (fun i y => ∃ t, y = .str (S [marks4.getD i 0]) t) 4 ys) :
    (fnd l k = none ∧ ys = []) ∨ ∃ d t, fnd l k = some d ∧ d ∈ marks4 ∧ ys = [.str (S [d]) t] := by
  have one : ∀ c d, c ∈ marks4 → d ∈ marks4 → ends l k c = true → ends l k d = true → c = d := fun c d hc hd h1 h2 => ends_one hc hd h1 h2
  have m0 : marks4.getD 0 0 = 38 := rfl
  have m1 : marks4.getD 1 0 = 60 := rfl
  have m2 : marks4.getD 2 0 = 62 := rfl
  have m3 : marks4.getD 3 0 = 34 := rfl
  simp only [Sel, m0, m1, m2, m3] at h
  unfold fnd
  have i0 : (38 : Nat) ∈ marks4 := by decide
  have i1 : (60 : Nat) ∈ marks4 := by decide
  have i2 : (62 : Nat) ∈ marks4 := by decide
  have i3 : (34 : Nat) ∈ marks4 := by decide
  have n01 := one 38 60 i0 i1
  have n02 := one 38 62 i0 i2
  have n03 := one 38 34 i0 i3
  have n12 := one 60 62 i1 i2
  have n13 := one 60 34 i1 i3
  have n23 := one 62 34 i2 i3
  cases h0 : ends l k 38 <;> cases h1 : ends l k 60 <;> cases h2 : ends l k 62 <;> cases h3 : ends l k 34 <;> rw [h0, h1, h2, h3] at h <;>
    first
      | (exact absurd (n01 h0 h1) (by decide)) | (exact absurd (n02 h0 h2) (by decide)) | (exact absurd (n03 h0 h3) (by decide)) | (exact absurd (n12 h1 h2) (by decide)) | (exact absurd (n13 h1 h3) (by decide)) | (exact absurd (n23 h2 h3) (by decide))
      | (left; exact ⟨by simp [marks4, List.find?, h0, h1, h2, h3], by simpa using h⟩)
      | (right
         simp only [Bool.false_eq_true, if_false, if_true] at h
         obtain ⟨zs, y, rfl, ⟨t, rfl⟩, rfl⟩ := h
         first | exact ⟨38, t, by simp [marks4, List.find?, h0, h1, h2, h3], by decide, rfl⟩ | exact ⟨60, t, by simp [marks4, List.find?, h0, h1, h2, h3], by decide, rfl⟩ | exact ⟨62, t, by simp [marks4, List.find?, h0, h1, h2, h3], by decide, rfl⟩ | exact ⟨34, t, by simp [marks4, List.find?, h0, h1, h2, h3], by decide, rfl⟩)

section
variable {prog : Program} {w : World} {A : Around} {E : Value → Shared → Prop} {s : Shared} {h₀ : Heap} {L : Addr} {news : List (Addr × Obj)}
theorem eq_nil_nil {l b : Addr} {Q : Value → Shared → Prop} (N : News h₀ L s.heap news) (h1 : (l, LCg.lst []) ∈ news) (h2 : (b, listOf #[] 0) ∈ news) (hu : A.units < cLine) (h : Q (.bool true) s) : wpAny (model prog w) A (compareOp .Eq (.ref l) (.ref b)) Q E s := by
  have hl : s.heap.IsList l #[] := ⟨_, (N _ h1).1, rfl, _, rfl⟩
  have hb : s.heap.IsList b #[] := ⟨_, (N _ h2).1, rfl, _, rfl⟩
  exact SeqAt.eq_listAt (e := fun _ => true) hl hb rfl hu (fun j h1 _ => absurd h1 (Nat.not_lt_zero _)) h
theorem eq_one_nil {l b : Addr} {v : Value} {Q : Value → Shared → Prop} (N : News h₀ L s.heap news) (h1 : (l, LCg.lst [v]) ∈ news) (h2 : (b, listOf #[] 0) ∈ news) (hu : A.units < cLine) (h : Q (.bool false) s) : wpAny (model prog w) A (compareOp .Eq (.ref l) (.ref b)) Q E s := by
  have hl : s.heap.IsList l #[v] := ⟨_, (N _ h1).1, rfl, _, rfl⟩
  have hb : s.heap.IsList b #[] := ⟨_, (N _ h2).1, rfl, _, rfl⟩
  exact SeqAt.eq_list_lengthsAt hl hb rfl hu h
theorem head_one {value slice : Expr} {l : Addr} {v : Value} {u : Tok} {Q : Value → Shared → Prop} (N : News h₀ L s.heap news) (h1 : (l, LCg.lst [v]) ∈ news) (h : Q v s)
    (hs : subscripted slice false (.ref l) (.int 0 u) = operate [.ref l, .int 0 u] (getItem (.ref l) (.int 0 u)) := by with_unfolding_all rfl) : wpAny (model prog w) A (subscriptTail value slice (.ref l) (.int 0 u)) Q E s := by
  have hl : s.heap.IsList l #[v] := ⟨_, (N _ h1).1, rfl, _, rfl⟩
  exact tail_any hl.typeIs slot_list_getitem.lookup (wpAny_getItem_list hl (by decide) (by decide) (x := v) rfl h) hs
end

theorem step_un {l : List Nat} {n c : Nat} {told : List Nat} {again : Bool} (hn : 1 ≤ n) (hc : c = l.getD (n - 1) 0) (hm : (mks l).contains c = false) (h : go l n told again = fe l) : go l (n - 1) (told ++ [c]) again = fe l := by
  obtain ⟨k, rfl⟩ : ∃ k, n = k + 1 := ⟨n - 1, by omega⟩
  rw [go_succ] at h
  rw [Nat.add_sub_cancel] at hc ⊢
  rw [← hc, hm] at h
  simpa using h
theorem step_none {l : List Nat} {n c : Nat} {told : List Nat} {again : Bool} (hn : 1 ≤ n) (hc : c = l.getD (n - 1) 0) (hm : (mks l).contains c = true) (hf : fnd l (n - 1) = none) (h : go l n told again = fe l) : go l (n - 1) (told ++ rst c ++ [38]) false = fe l := by
  obtain ⟨k, rfl⟩ : ∃ k, n = k + 1 := ⟨n - 1, by omega⟩
  rw [go_succ] at h
  rw [Nat.add_sub_cancel] at hc hf ⊢
  rw [← hc, hm, hf] at h
  simpa using h
theorem step_some {l : List Nat} {n c d : Nat} {told : List Nat} {again ag : Bool} (hn : 1 ≤ n) (hc : c = l.getD (n - 1) 0) (hm : (mks l).contains c = true) (hf : fnd l (n - 1) = some d) (hag : ag = (again && !(d == 34 && !(l.contains 39)))) (h : go l n told again = fe l) : go l (n - 1 - (rst d).length) (told ++ rst c ++ [d]) ag = fe l := by
  obtain ⟨k, rfl⟩ : ∃ k, n = k + 1 := ⟨n - 1, by omega⟩
  rw [go_succ] at h
  rw [Nat.add_sub_cancel] at hc hf ⊢
  rw [← hc, hm, hf] at h
  rw [hag]
  simpa using h
theorem sq_eq (d : Nat) : (S [d] == Str.ofString "\"") = (d == 34) := by
  rw [lit_q, S_beq, Bool.eq_iff_iff, beq_iff_eq, beq_iff_eq]
  simp
theorem WJ {l : List Nat} {n n' : Nat} {a0 a3 a2 a1 : Addr} {o0 oi o2 o1 : Obj} {ot oa : Option Value} {k : Int} {ti tt : Tok} {x : Str} {told' : List Nat} {again' : Bool}
    (hcell : oi.data = Data.cell (some (.int k ti))) (ht : ot = some (.str x tt)) (ha : oa = some (.bool again')) (hk : k = ((n' : Nat) : Int)) (hlt : n' < n) (hx : x = S told') (hnl : n' ≤ l.length) (hlen : told'.length ≤ 10 * (150 - n')) (hgo : go l n' told' again' = fe l) :
    ∃ n', n' < n ∧ ∃ oi' ti told tt again, oi'.data = Data.cell (some (.int ((n' : Nat) : Int) ti)) ∧ [(a0, o0), (a3, oi), (a2, o2), (a1, o1)] = [(a0, o0), (a3, oi'), (a2, o2), (a1, o1)] ∧ ot = some (.str (S told) tt) ∧ oa = some (.bool again) ∧ n' ≤ l.length ∧ told.length ≤ 10 * (150 - n') ∧ go l n' told again = fe l :=
  ⟨n', hlt, oi, ti, told', tt, again', by rw [hcell, hk], rfl, by rw [ht, hx], ha, hnl, hlen, hgo⟩
theorem ne3 {a b c y : Str} (hy : y ∉ [a, b, c]) : y ≠ a ∧ y ≠ b ∧ y ≠ c := by
  simp only [List.mem_cons, List.not_mem_nil, or_false, not_or] at hy
  exact hy
end Mine
end

section
theorem Mine.anew_Le : True := by w_top off; first | walk1 | exact True.intro
open PySem PySem.W PySem.Calls PyProof.Rows
set_option maxRecDepth 100000
set_option maxHeartbeats 4000000
namespace Mine


def Stop2 (p : Prop) : Prop := p
theorem Stop2.intro {p : Prop} (h : Stop2 p) : p := h
theorem mem3 {c : Nat} (h : [38, 60, 62].contains c = true) : c ∈ marks4 := by
  have := List.contains_iff_mem.mp h
  simp only [List.mem_cons, List.not_mem_nil, or_false] at this
  simp only [marks4, List.mem_cons, List.not_mem_nil, or_false]
  omega
theorem mem4 {c : Nat} (h : [38, 60, 62, 34].contains c = true) : c ∈ marks4 := List.contains_iff_mem.mp h
theorem sign4 {i : Nat} {v : Value} (h : SignAt (Str.ofString "&<>\"") i v) : ∃ c u, marks4[i]? = some c ∧ v = .str (S [c]) u := by
  obtain ⟨c, u, hc, rfl⟩ := h
  exact ⟨c, u, by rw [← hc, show (Str.ofString "&<>\"").cps = [38, 60, 62, 34].toArray by decide +kernel, List.getElem?_toArray]; rfl, rfl⟩
theorem item_Sc {prog : Program} {w : World} {A : Around} {E : Value → Shared → Prop} {s : Shared} {value slice : Expr} {l : List Nat} {t u : Tok} {i : Int} {c : Nat} {Q : Value → Shared → Prop} (hc : c = l.getD i.toNat 0) (h0 : 0 ≤ i) (h1 : i < l.length) (hz : l.length ≤ 1000000) (h : ∀ t', Q (.str (S [c]) t') { s with toks := s.toks + 1 })
    (hs : subscripted slice false (.str (S l) t) (.int i u) = operate [.str (S l) t, .int i u] (getItem (.str (S l) t) (.int i u)) := by with_unfolding_all rfl)
    (ht : ∀ r, letTemporaryGo value (.str (S l) t) r = pure () := by intro _; with_unfolding_all rfl) : wpAny (model prog w) A (subscriptTail value slice (.str (S l) t) (.int i u)) Q E s := by
  subst hc; exact item_S h0 h1 hz h hs ht
local macro_rules | `(tactic| walk_at "exec While Compare cons nil") => `(tactic| (k_here; (rename Fr _ _ _ _ => lF); refine While_WI lF ?_))
local macro_rules | `(tactic| walk_at "subscriptTail Name Name str int") => `(tactic| (k_here; refine item_Sc (by assumption) (by omega) (by omega) (by omega) ?_; intro _))
local macro_rules | `(tactic| walk_at "compareOp NotIn str str") => `(tactic| (k_here; first | refine notin_S (ms := [38, 60, 62]) (by decide +kernel) ?_ | refine notin_S (ms := [38, 60, 62, 34]) (by decide +kernel) ?_))
local macro_rules | `(tactic| walk_at "subscriptTail Name Subscript ref str") => `(tactic| (k_here; (with_reducible show wpAny _ _ (subscriptTail _ _ (Value.ref _) (Value.str _ _)) _ _ _); k_dflt (refine rests_S (by k_tabat) (by first | with_reducible assumption | exact mem3 (by assumption) | exact mem4 (by assumption)) ?_); intro _))
local macro_rules | `(tactic| walk_at "subscriptTail Name Name ref str") => `(tactic| (k_here; (with_reducible show wpAny _ _ (subscriptTail _ _ (Value.ref _) (Value.str _ _)) _ _ _); k_dflt (refine rests_S (by k_tabat) (by first | with_reducible assumption | exact mem3 (by assumption) | exact mem4 (by assumption)) ?_); intro _))
local macro_rules | `(tactic| walk_at "exec Assign cons ListComp") => `(tactic| (k_here; (rename Fr _ _ _ _ => lF); k_dflt (refine Assign_ListComp_WT lF rfl (by with_unfolding_all rfl) (by with_unfolding_all rfl) (by decide) (by rfl) (by decide) (by rfl) (by rfl) (by rfl) ?_)))
local macro_rules | `(tactic| walk_at "compareOp Eq ref ref") => `(tactic| (k_here; k_dflt (first | refine eq_nil_nil (by k_asm) (by k_mem) (by k_mem) (by dsimp only [ktrTop]; omega) ?_ | refine eq_one_nil (by k_asm) (by k_mem) (by k_mem) (by dsimp only [ktrTop]; omega) ?_)))
local macro_rules | `(tactic| walk_at "subscriptTail Name Constant ref int") => `(tactic| (k_here; (with_reducible show wpAny _ _ (subscriptTail _ _ (Value.ref _) (Value.int 0 _)) _ _ _); k_dflt (refine head_one (by k_asm) (by k_mem) ?_)))
theorem sp_end (w : World) (l : List Nat) (t : Tok) (hl : l.length ≤ 150) : Sp w 70 [.str (S l) t] (fun g h' v => ∃ (a : Addr) (t' : Tok), v = .ref a ∧ h'.get? a = some (listOf #[.str (S (fe l).1) t', .bool (fe l).2] 0) ∧ g.get? a = none) := by
  have hfill : PySem.Challenge.rw_kt0004_01.prog = PySem.Challenge.rw_kt0004_01.prog ∧ hd.heap_39 = hd.heap_39 := by k_fill; exact ⟨rfl, rfl⟩
  clear hfill
  refine sp_cells (binds := [(Str.ofString "text", .str (S l) t)]) (by k_dflt k_is) (by k_dflt k_is) (fun s X => BindsTo.of_eq rfl) (by rfl) (by decide +kernel) (by rfl) (by rfl) (by rfl) ?_
  unfold BdC
  intro dp un gd outer A₀ base g L cells mean mg mb s B' X' T' F' N' Y' hk hd hu
  k_cells Y'
  (try dsimp only)
  have hlen : (S l).length ≤ 150 := by rw [S_len]; exact hl
  k_steps
  all_goals (
    first
      | (have hap : l.contains 39 = false := by
           have := has_p (S l)
           rw [show (Builtin.Str.occurrences (S l) (Str.ofString "'") 0 (S l).length 1).isEmpty = true by assumption] at this
           simpa [S] using this.symm)
      | (have hap : l.contains 39 = true := by
           have := has_p (S l)
           rw [show (Builtin.Str.occurrences (S l) (Str.ofString "'") 0 (S l).length 1).isEmpty = false by assumption] at this
           simpa [S] using this.symm)
    (rename PyProof.V.FlatPairs _ _ _ => hfp)
    change PyProof.V.FlatPairs PyData.str _ restsD at hfp
    (rename Fr _ _ _ _ => F'); (rename News _ _ _ _ => N')
    have hlt1 := ‹@LT.lt Nat _ (_ + 1) _ ∧ @LT.lt Nat _ (_ + 1) _ ∧ @LT.lt Nat _ (_ + 1) _›
    change @LT.lt Nat _ _ s.heap.objs.size ∧ @LT.lt Nat _ _ s.heap.objs.size ∧ @LT.lt Nat _ _ s.heap.objs.size at hlt1
    refine While_M [Str.ofString "told", Str.ofString "again", Str.ofString "found"] (n₀ := (S l).length) (fun n m' nx => ∃ oi ti told tt again, oi.data = Data.cell (some (.int ((n : Nat) : Int) ti)) ∧ nx = [(s.heap.objs.size, _), (L + 1 + 1 + 1, oi), (L + 1 + 1, _), (L + 1, _)] ∧ m' (Str.ofString "told") = some (.str (S told) tt) ∧ m' (Str.ofString "again") = some (.bool again) ∧ n ≤ l.length ∧ told.length ≤ 10 * (150 - n) ∧ go l n told again = fe l) F' N' ⟨_, _, [], _, true, by assumption, rfl, rfl, rfl, by rw [S_len]; exact Nat.le_refl _, Nat.zero_le _, by rw [S_len]; rfl⟩ ?_
    rintro n g1 news₁ h1 tk1 ⟨oi, ti, told, tt, again, hoi, rfl, htold, hagain, hnl, htl, hgo⟩ F1 N1
    clear F' N'
    have e : over g1 [Str.ofString "told", Str.ofString "again", Str.ofString "found"] = over (fun y => if y = Str.ofString "told" then some (.str (S told) tt) else if y = Str.ofString "again" then some (.bool again) else g1 y) [Str.ofString "told", Str.ofString "again", Str.ofString "found"] := by
      congr 1; funext y; by_cases hy : y = Str.ofString "told"
      · rw [if_pos hy, hy, htold]
      · rw [if_neg hy]; by_cases hy2 : y = Str.ofString "again"
        · rw [if_pos hy2, hy2, hagain]
        · rw [if_neg hy2]
    rw [e] at F1
    have htl2 : (S told).length ≤ 1500 := by rw [S_len]; omega
    obtain ⟨c, hcd⟩ : ∃ c, c = l.getD ((n : Int) - 1).toNat 0 := ⟨_, rfl⟩
    have hrc0 := rst_len c
    have hrc : (S (rst c)).length ≤ 5 := by rw [S_len]; exact (rst_len c).2
    have hcc : (S [c]).length ≤ 1 := by rw [S_len]; exact Nat.le_refl _
    k_steps
    ·   (refine srcT_str (by rfl) (by k_asm) (by k_asm) (by rw [sizeLine_eq]; decide) (by decide +kernel) ?_
         intro hg
         refine rest_test (fun i => ends l (n - 1) (marks4.getD i 0)) (fun i y => ∃ t, y = .str (S [marks4.getD i 0]) t) trivial ?_ ?_ ?_
         · intro i v I oI C oC D m₂ ys h tk hi hv hC hm F N off ne
           obtain ⟨e, u, he, rfl⟩ := sign4 hv
           have hem : e ∈ marks4 := List.mem_of_getElem? he
           have hlr := rst_len e
           have hlr2 : (S (rst e)).length ≤ 5 := by rw [S_len]; exact hlr.2
           (try simp only [LCg.Off3, and_true] at off)
           (try dsimp only)
           k_steps
           exact CB.intro (by k_asm) (by k_asm) (fun p hp => hp) (ends_of (by omega) hnl he)
         · intro i v I oI C oC D m₂ ys h tk hi hk hv hC hm F N off ne
           obtain ⟨e, u, he, rfl⟩ := sign4 hv
           (try simp only [LCg.Off3, and_true] at off)
           (try dsimp only)
           k_steps
           exact CE.intro (by k_asm) (by k_asm) (fun p hp => hp) ⟨u, by rw [List.getD_eq_getElem?_getD, he]; rfl⟩
         · intro ys hsel
           rw [show (Str.ofString "&<>\"").cps.size = 4 by decide +kernel] at hsel
           rcases sel_fnd hsel with ⟨hf, rfl⟩ | ⟨d, td, hf, hd4, rfl⟩
           · clear hsel
             k_steps
             (rename Fr _ _ _ _ => F'); (rename News _ _ _ _ => N')
             refine' WE.next _ F' N' ?sub ⟨?nm, WJ (n' := n - 1) (told' := told ++ rst c ++ [38]) ?hc rfl rfl ?hk (by omega) (by rw [lit_a, S_app, S_app]) (by omega) (by simp only [List.length_append, List.length_cons, List.length_nil]; omega) (step_none (by omega) (by rw [hcd]; congr 1; omega) (by unfold mks; rw [hap]; assumption) hf hgo)⟩
             case hc => assumption
             case hk => omega
             case sub => exact fun p hp => List.mem_cons_of_mem _ (List.mem_cons_of_mem _ hp)
             case nm => (intro y hy; obtain ⟨n1, n2, n3⟩ := ne3 hy; simp only [over, if_neg n1, if_neg n2, if_neg n3])
           · clear hsel
             have hrd0 := rst_len d
             have hrd : (S (rst d)).length ≤ 5 := by rw [S_len]; exact (rst_len d).2
             have hrdl : (S (rst d)).length = (rst d).length := S_len _
             have hdd : (S [d]).length ≤ 1 := by rw [S_len]; exact Nat.le_refl _
             have hle := ends_le (fnd_ends hf)
             k_steps
             all_goals (
               (rename Fr _ _ _ _ => F'); (rename News _ _ _ _ => N')
               refine' WE.next _ F' N' ?sub ⟨?nm, WJ (n' := n - 1 - (rst d).length) (told' := told ++ rst c ++ [d]) ?hc rfl rfl ?hk (by omega) (by rw [S_app, S_app]) (by omega) (by simp only [List.length_append, List.length_cons, List.length_nil]; omega) (step_some (by omega) (by rw [hcd]; congr 1; omega) (by unfold mks; rw [hap]; assumption) hf ?ag hgo)⟩
               case hc => assumption
               case hk => omega
               case sub => exact fun p hp => List.mem_cons_of_mem _ (List.mem_cons_of_mem _ hp)
               case nm => (intro y hy; obtain ⟨n1, n2, n3⟩ := ne3 hy; simp only [over, if_neg n1, if_neg n2, if_neg n3])
               case ag =>
                 first
                   | (rw [← sq_eq d, show (S [d] == Str.ofString "\"") = false by assumption]; simp)
                   | (rw [← sq_eq d, show (S [d] == Str.ofString "\"") = true by assumption, hap]; simp)))
    rotate_left
    ·   (refine Fin1.intro (by k_asm) ?_
         (rename News _ _ _ _ => N')
         have hn0 : n = 0 := by omega
         subst hn0
         rw [go_zero] at hgo
         have hh := N' _ (List.mem_cons_self ..)
         refine ⟨_, tt, rfl, ?_, hh.2.2⟩
         rw [← hgo]; exact hh.1)
    ·   ((rename Fr _ _ _ _ => F'); (rename News _ _ _ _ => N')
         refine' WE.next _ F' N' ?sub ⟨?nm, WJ (n' := n - 1) (told' := told ++ [c]) ?hc rfl rfl ?hk (by omega) (by rw [S_app]) (by omega) (by simp only [List.length_append, List.length_cons, List.length_nil]; omega) (step_un (by omega) (by rw [hcd]; congr 1; omega) (by unfold mks; rw [hap]; assumption) hgo)⟩
         case hc => assumption
         case hk => omega
         case sub => exact fun p hp => hp
         case nm => (intro y hy; obtain ⟨n1, n2, n3⟩ := ne3 hy; simp only [over, if_neg n1, if_neg n2, if_neg n3])))
end Mine
end

section
theorem Mine.anew_Pl : True := by w_top off; first | walk1 | exact True.intro
open PySem PySem.W PySem.Calls PyProof.Rows
set_option maxRecDepth 100000
namespace Mine
/-- what a turned text is made of: the turned rest of a sign, or a sign -/
inductive Tk where
  | wd (d : Nat)
  | sg (d : Nat)
def Tk.fl : Tk → List Nat
  | .wd d => (rst d).reverse
  | .sg d => [d]
def Tk.ok : Tk → Prop
  | .wd d => d ∈ marks4
  | .sg d => d ∈ [38, 60, 62, 34, 39, 120]
def mkd (ap : Bool) (c : Nat) : Bool := if ap then marks4.contains c else [38, 60, 62].contains c
def enc (ap : Bool) (J : Nat → Bool) : List Tk → List Nat
  | [] => []
  | .wd d :: r => (rst d).reverse ++ enc ap J r
  | .sg c :: .wd d :: r => (if mkd ap c then rst c ++ (if J d then [d] else 38 :: (rst d).reverse) else c :: (rst d).reverse) ++ enc ap J r
  | .sg c :: r => (if mkd ap c then rst c ++ [38] else [c]) ++ enc ap J r
def okT (ap : Bool) : List Tk → Bool
  | [] => true
  | .wd _ :: r => okT ap r
  | .sg c :: .wd d :: r => (!(mkd ap c) || !(d == 34 && !ap)) && okT ap r
  | .sg c :: r => !(mkd ap c) && okT ap r
/-- no word heads the rest -/
def NoW : List Tk → Prop
  | .wd _ :: _ => False
  | _ => True
theorem enc_sg {ap : Bool} {J : Nat → Bool} {c : Nat} {r : List Tk} (h : NoW r) : enc ap J (.sg c :: r) = (if mkd ap c then rst c ++ [38] else [c]) ++ enc ap J r := by
  match r, h with
  | [], _ => rfl
  | .sg _ :: _, _ => rfl
theorem okT_sg {ap : Bool} {c : Nat} {r : List Tk} (h : NoW r) : okT ap (.sg c :: r) = (!(mkd ap c) && okT ap r) := by
  match r, h with
  | [], _ => rfl
  | .sg _ :: _, _ => rfl
/-- the induction over the parts -/
theorem tk_ind {P : List Tk → Prop} (h0 : P []) (h1 : ∀ d r, P r → P (.wd d :: r)) (h2 : ∀ c d r, P r → P (.sg c :: .wd d :: r)) (h3 : ∀ c r, NoW r → P r → P (.sg c :: r)) : ∀ l, P l
  | [] => h0
  | .wd d :: r => h1 d r (tk_ind h0 h1 h2 h3 r)
  | .sg c :: .wd d :: r => h2 c d r (tk_ind h0 h1 h2 h3 r)
  | [.sg c] => h3 c [] trivial h0
  | .sg c :: .sg d :: r => h3 c _ trivial (tk_ind h0 h1 h2 h3 (.sg d :: r))
theorem mkd_mem {ap : Bool} {c : Nat} (h : mkd ap c = true) : c ∈ marks4 := by
  unfold mkd at h
  split at h
  · exact List.contains_iff_mem.mp h
  · have := List.contains_iff_mem.mp h
    simp only [List.mem_cons, List.not_mem_nil, or_false] at this
    simp only [marks4, List.mem_cons, List.not_mem_nil, or_false]
    omega
theorem mem4_cases {c : Nat} (h : c ∈ marks4) : c = 38 ∨ c = 60 ∨ c = 62 ∨ c = 34 := by
  simpa [marks4] using h
theorem rst_no38 (c : Nat) : 38 ∉ rst c := by
  unfold rst
  split
  · decide
  · split
    · decide
    · split <;> decide

/-- a sign that is no letter of a rest heads nothing that a reference needs -/
theorem off_word {d : Nat} {l : List Nat} (hd : d ∈ marks4) (h : ∀ c r, l = c :: r → c ≠ 97 ∧ c ≠ 108 ∧ c ≠ 103 ∧ c ≠ 113) : ¬ l.take (rst d).reverse.length = (rst d).reverse := by
  cases l with
  | nil => rcases mem4_cases hd with rfl | rfl | rfl | rfl <;> decide
  | cons c r =>
    have hc := h c r rfl
    intro e
    have e1 := congrArg List.head? e
    rcases mem4_cases hd with rfl | rfl | rfl | rfl <;> simp [rst] at e1 <;> omega
theorem rep_pre {d : Nat} {z p q : List Nat} (hp : 38 ∉ p) : rep (38 :: (rst d).reverse) z 0 (p ++ q) = p ++ rep (38 :: (rst d).reverse) z 0 q := by
  induction p with
  | nil => rfl
  | cons c p ih =>
    rw [List.cons_append, rep_off, ih (fun h => hp (List.mem_cons_of_mem _ h))]
    · rfl
    · intro e
      have e1 := congrArg List.head? e
      have : c = 38 := by simpa using e1
      exact hp (by rw [this]; exact List.mem_cons_self ..)
theorem rep_ref {d : Nat} {z q : List Nat} : rep (38 :: (rst d).reverse) z 0 (38 :: ((rst d).reverse ++ q)) = z ++ rep (38 :: (rst d).reverse) z 0 q := by
  rw [rep_at (by simp)]
  · congr 2
    rw [show (38 :: ((rst d).reverse ++ q)) = (38 :: (rst d).reverse) ++ q from rfl, List.drop_left]
  · rw [show (38 :: ((rst d).reverse ++ q)) = (38 :: (rst d).reverse) ++ q from rfl, List.take_left]
theorem rep_bare {d : Nat} {z q : List Nat} (h : ¬ q.take (rst d).reverse.length = (rst d).reverse) : rep (38 :: (rst d).reverse) z 0 (38 :: q) = 38 :: rep (38 :: (rst d).reverse) z 0 q := by
  rw [rep_off]
  intro e
  rw [List.length_cons, List.take_succ_cons] at e
  exact h (List.cons.inj e).2
theorem word_off {d e : Nat} {q : List Nat} (hd : d ∈ marks4) (he : e ∈ marks4) (hne : d ≠ e) : ¬ ((rst e).reverse ++ q).take (rst d).reverse.length = (rst d).reverse := by
  intro h
  have e1 := congrArg List.head? h
  rcases mem4_cases hd with rfl | rfl | rfl | rfl <;> rcases mem4_cases he with rfl | rfl | rfl | rfl <;> first | exact absurd rfl hne | (revert e1; simp [rst])

/-- nothing of a turned text that opens with a sign opens with a letter of a rest -/
theorem enc_head {ap : Bool} {J : Nat → Bool} {l : List Tk} (hok : ∀ t ∈ l, t.ok) (hl : NoW l) : ∀ c r, enc ap J l = c :: r → c ≠ 97 ∧ c ≠ 108 ∧ c ≠ 103 ∧ c ≠ 113 := by
  intro c r h
  have key : ∀ (e : Nat) (xs ys : List Nat), e ∈ [38, 60, 62, 34, 39, 120] → (if mkd ap e then rst e ++ xs else e :: ys) = c :: r → c ≠ 97 ∧ c ≠ 108 ∧ c ≠ 103 ∧ c ≠ 113 := by
    intro e xs ys he hh
    split at hh
    · rename_i hm
      have e1 := congrArg List.head? hh
      rcases mem4_cases (mkd_mem hm) with rfl | rfl | rfl | rfl <;> simp [rst] at e1 <;> omega
    · have := (List.cons.inj hh).1
      simp only [List.mem_cons, List.not_mem_nil, or_false] at he
      omega
  match l, hok, hl with
  | [], _, _ => simp [enc] at h
  | .sg e :: r', hok, _ =>
    have he : e ∈ [38, 60, 62, 34, 39, 120] := hok (.sg e) (List.mem_cons_self ..)
    match r' with
    | .wd d :: r2 =>
      rw [enc] at h
      refine key e ((if J d then [d] else 38 :: (rst d).reverse) ++ enc ap J r2) ((rst d).reverse ++ enc ap J r2) he ?_
      rw [← h]; split <;> simp
    | [] =>
      rw [enc_sg (r := []) trivial] at h
      refine key e ([38] ++ enc ap J []) (enc ap J []) he ?_
      rw [← h]; split <;> simp
    | .sg f :: r2 =>
      rw [enc_sg (r := .sg f :: r2) trivial] at h
      refine key e ([38] ++ enc ap J (.sg f :: r2)) (enc ap J (.sg f :: r2)) he ?_
      rw [← h]; split <;> simp

/-- one replacing of unescape's -/
theorem rep_enc {ap : Bool} {J J' : Nat → Bool} {d : Nat} (hd : d ∈ marks4) (hJ : J d = false) (hA : J 38 = false) (hJ' : ∀ e, e ∈ marks4 → J' e = (J e || e == d)) :
    ∀ l : List Tk, (∀ t ∈ l, t.ok) → rep (38 :: (rst d).reverse) [d] 0 (enc ap J l) = enc ap J' l := by
  refine tk_ind ?_ ?_ ?_ ?_
  · intro _; rw [enc, enc, rep_nil]
  · intro e r ih hok
    rw [enc, enc, rep_pre (by rw [List.mem_reverse]; exact rst_no38 e), ih fun t ht => hok t (List.mem_cons_of_mem _ ht)]
  · intro e f r ih hok
    have hf : f ∈ marks4 := hok (.wd f) (List.mem_cons_of_mem _ (List.mem_cons_self ..))
    have he : e ∈ [38, 60, 62, 34, 39, 120] := hok (.sg e) (List.mem_cons_self ..)
    have ih := ih fun t ht => hok t (List.mem_cons_of_mem _ (List.mem_cons_of_mem _ ht))
    rw [enc, enc]
    by_cases hm : mkd ap e = true
    · rw [if_pos hm, if_pos hm, List.append_assoc, rep_pre (rst_no38 e), List.append_assoc]
      congr 1
      rw [hJ' f hf]
      by_cases hfd : f = d
      · subst hfd
        rw [hJ]
        simp only [Bool.false_or, beq_self_eq_true, if_true, Bool.false_eq_true, if_false, List.cons_append]
        rw [rep_ref, ih]; rfl
      · have hb : (f == d) = false := beq_eq_false_iff_ne.mpr hfd
        rw [hb, Bool.or_false]
        by_cases hJf : J f = true
        · rw [if_pos hJf, rep_pre, ih]
          intro h38
          have := List.mem_singleton.mp h38
          rw [← this, hA] at hJf; cases hJf
        · rw [if_neg hJf]
          simp only [List.cons_append]
          rw [rep_bare (word_off hd hf (Ne.symm hfd)), rep_pre (by rw [List.mem_reverse]; exact rst_no38 f), ih]
    · rw [if_neg hm, if_neg hm, rep_pre, ih]
      intro h38
      rcases List.mem_cons.mp h38 with h38 | h38
      · rw [← h38] at hm; exact hm (by cases ap <;> rfl)
      · exact rst_no38 f (List.mem_reverse.mp h38)
  · intro e r hn ih hok
    have he : e ∈ [38, 60, 62, 34, 39, 120] := hok (.sg e) (List.mem_cons_self ..)
    have hr : ∀ t ∈ r, t.ok := fun t ht => hok t (List.mem_cons_of_mem _ ht)
    have ih := ih hr
    rw [enc_sg hn, enc_sg hn]
    by_cases hm : mkd ap e = true
    · rw [if_pos hm, List.append_assoc, rep_pre (rst_no38 e), List.append_assoc]
      congr 1
      show rep (38 :: (rst d).reverse) [d] 0 (38 :: enc ap J r) = 38 :: enc ap J' r
      rw [rep_bare (off_word hd (enc_head hr hn)), ih]
    · rw [if_neg hm, rep_pre, ih]
      intro h38
      have := List.mem_singleton.mp h38
      rw [← this] at hm; exact hm (by cases ap <;> rfl)

def J0 : Nat → Bool := fun _ => false
def J1 : Nat → Bool := fun e => marks4.contains e
theorem unescape_enc {ap : Bool} (l : List Tk) (hok : ∀ t ∈ l, t.ok) : rep rAmp [38] 0 (rep rQuot [34] 0 (rep rGt [62] 0 (rep rLt [60] 0 (enc ap J0 l)))) = enc ap J1 l := by
  rw [show rLt = 38 :: (rst 60).reverse by decide, show rGt = 38 :: (rst 62).reverse by decide, show rQuot = 38 :: (rst 34).reverse by decide, show rAmp = 38 :: (rst 38).reverse by decide]
  rw [rep_enc (J := J0) (J' := fun e => e == 60) (d := 60) (by decide) rfl rfl (fun e _ => rfl) l hok]
  rw [rep_enc (J := fun e => e == 60) (J' := fun e => e == 60 || e == 62) (d := 62) (by decide) rfl rfl (fun e _ => rfl) l hok]
  rw [rep_enc (J := fun e => e == 60 || e == 62) (J' := fun e => e == 60 || e == 62 || e == 34) (d := 34) (by decide) rfl rfl (fun e _ => rfl) l hok]
  rw [rep_enc (J := fun e => e == 60 || e == 62 || e == 34) (J' := J1) (d := 38) (by decide) rfl rfl (fun e he => ?_) l hok]
  rcases mem4_cases he with rfl | rfl | rfl | rfl <;> rfl

def fls (l : List Tk) : List Nat := l.flatMap Tk.fl
/-- one sign of the turned writing -/
def e1 (ap : Bool) : Tk → List Nat
  | .wd d => (rst d).reverse
  | .sg c => if mkd ap c then rst c ++ [38] else [c]
theorem enc_J0 (ap : Bool) : ∀ l : List Tk, enc ap J0 l = l.flatMap (e1 ap) := by
  refine tk_ind rfl ?_ ?_ ?_
  · intro d r ih; rw [enc, ih, List.flatMap_cons]; rfl
  · intro c d r ih
    rw [enc, ih, List.flatMap_cons, List.flatMap_cons]
    show _ = (if mkd ap c then rst c ++ [38] else [c]) ++ ((rst d).reverse ++ _)
    split <;> simp [J0]
  · intro c r hn ih
    rw [enc_sg hn, ih, List.flatMap_cons]; rfl
theorem esc_plain {q : Bool} {c : Nat} (h : c ≠ 38 ∧ c ≠ 60 ∧ c ≠ 62 ∧ c ≠ 34) : esc q c = [c] := by
  unfold esc; rw [if_neg h.1, if_neg h.2.1, if_neg h.2.2.1, if_neg h.2.2.2]
theorem rst_plain {d : Nat} : ∀ c ∈ rst d, c ≠ 38 ∧ c ≠ 60 ∧ c ≠ 62 ∧ c ≠ 34 ∧ c ≠ 39 := by
  unfold rst
  split
  · decide
  · split
    · decide
    · split <;> decide
theorem flat_plain {q : Bool} : ∀ l : List Nat, (∀ c ∈ l, c ≠ 38 ∧ c ≠ 60 ∧ c ≠ 62 ∧ c ≠ 34) → l.flatMap (esc q) = l
  | [], _ => rfl
  | c :: r, h => by rw [List.flatMap_cons, esc_plain (h c (List.mem_cons_self ..)), flat_plain r fun x hx => h x (List.mem_cons_of_mem _ hx)]; rfl
theorem esc_sg {ap q : Bool} {c : Nat} (hc : c ∈ [38, 60, 62, 34, 39, 120]) (hq : c = 34 → q = ap) : (esc q c).reverse = e1 ap (.sg c) := by
  simp only [List.mem_cons, List.not_mem_nil, or_false] at hc
  rcases hc with rfl | rfl | rfl | rfl | rfl | rfl
  · cases ap <;> rfl
  · cases ap <;> rfl
  · cases ap <;> rfl
  · rw [hq rfl]; cases ap <;> rfl
  · cases ap <;> rfl
  · cases ap <;> rfl
/-- the writing's inside, turned -/
theorem inside {ap q : Bool} {t : List Nat} {l : List Tk} (ht : t.reverse = fls l) (hok : ∀ t ∈ l, t.ok) (hq : Tk.sg 34 ∈ l → q = ap) : (t.flatMap (esc q)).reverse = enc ap J0 l := by
  rw [enc_J0, List.reverse_flatMap, ht]
  unfold fls
  rw [List.flatMap_assoc]
  clear ht
  induction l with
  | nil => rfl
  | cons a r ih =>
    rw [List.flatMap_cons, List.flatMap_cons, ih (fun t ht => hok t (List.mem_cons_of_mem _ ht)) fun h => hq (List.mem_cons_of_mem _ h)]
    congr 1
    cases a with
    | wd d =>
      show ((rst d).reverse.flatMap fun c => (esc q c).reverse) = (rst d).reverse
      have : ∀ m : List Nat, (∀ c ∈ m, c ∈ rst d) → (m.flatMap fun c => (esc q c).reverse) = m := by
        intro m
        induction m with
        | nil => intro _; rfl
        | cons c m ihm =>
          intro hm
          have hp := rst_plain c (hm c (List.mem_cons_self ..))
          rw [List.flatMap_cons, ihm fun x hx => hm x (List.mem_cons_of_mem _ hx), esc_plain ⟨hp.1, hp.2.1, hp.2.2.1, hp.2.2.2.1⟩]
          rfl
      exact this _ fun c hc => List.mem_reverse.mp hc
    | sg c =>
      show ([c].flatMap fun c => (esc q c).reverse) = _
      rw [List.flatMap_cons, List.flatMap_nil, List.append_nil]
      exact esc_sg (hok (.sg c) (List.mem_cons_self ..)) fun h => hq (by rw [← h]; exact List.mem_cons_self ..)

def pieceT (f : Nat) : List Tk :=
  if f < 16 then (match f % 4 with | 0 => [.sg 38] | 1 => [.sg 60] | 2 => [.sg 34] | _ => []) ++ [.wd (match f / 4 with | 0 => 38 | 1 => 60 | 2 => 34 | _ => 62)]
  else [.sg (match f - 16 with | 0 => 39 | 1 => 34 | 2 => 62 | _ => 120)]
theorem piece_rev : ∀ f, f < 20 → (piece f).reverse = fls (pieceT f) := by decide
theorem pieceT_ok {f : Nat} (hf : f < 20) : ∀ t ∈ pieceT f, t.ok := by
  intro t ht
  unfold pieceT at ht
  split at ht
  · rcases List.mem_append.mp ht with ht | ht
    · split at ht
      · rw [List.mem_singleton.mp ht]; show _ ∈ _; decide
      · rw [List.mem_singleton.mp ht]; show _ ∈ _; decide
      · rw [List.mem_singleton.mp ht]; show _ ∈ _; decide
      · cases ht
    · rw [List.mem_singleton.mp ht]
      show _ ∈ marks4
      split <;> decide
  · rw [List.mem_singleton.mp ht]
    show _ ∈ _
    split <;> decide
def toks (k : Nat) (fs : List Nat) : List Tk := fs.reverse.flatMap pieceT ++ List.replicate k (.sg 120)
theorem toks_rev (k : Nat) (fs : List Nat) (h : ∀ f ∈ fs, f < 20) : (List.replicate k 120 ++ fs.flatMap piece).reverse = fls (toks k fs) := by
  unfold toks fls
  rw [List.reverse_append, List.reverse_replicate, List.reverse_flatMap, List.flatMap_append]
  congr 1
  · have : ∀ gs : List Nat, (∀ f ∈ gs, f < 20) → gs.flatMap (List.reverse ∘ piece) = (gs.flatMap pieceT).flatMap Tk.fl := by
      intro gs
      induction gs with
      | nil => intro _; rfl
      | cons g gs ih =>
        intro hg
        rw [List.flatMap_cons, List.flatMap_cons, List.flatMap_append, ← ih fun f hf => hg f (List.mem_cons_of_mem _ hf)]
        congr 1
        exact piece_rev g (hg g (List.mem_cons_self ..))
    exact this _ fun f hf => h f (List.mem_reverse.mp hf)
  · induction k with
    | zero => rfl
    | succ k ih => rw [List.replicate_succ, List.replicate_succ, List.flatMap_cons, ← ih]; rfl
theorem toks_ok (k : Nat) (fs : List Nat) (h : ∀ f ∈ fs, f < 20) : ∀ t ∈ toks k fs, t.ok := by
  intro t ht
  rcases List.mem_append.mp ht with ht | ht
  · obtain ⟨f, hf, ht⟩ := List.mem_flatMap.mp ht
    exact pieceT_ok (h f (List.mem_reverse.mp hf)) t ht
  · rw [List.eq_of_mem_replicate ht]; show _ ∈ _; decide
end Mine
end

section
theorem Mine.anew_Pm : True := by w_top off; first | walk1 | exact True.intro
open PySem PySem.W PySem.Calls PyProof.Rows
set_option maxRecDepth 100000
namespace Mine
/-- the first i signs, turned, are these parts -/
def At (l : List Nat) (i : Nat) (ts : List Tk) : Prop := i ≤ l.length ∧ (l.take i).reverse = fls ts
theorem At.len {l : List Nat} {i : Nat} {ts : List Tk} (h : At l i ts) : (fls ts).length = i := by
  rw [← h.2, List.length_reverse, List.length_take]; exact Nat.min_eq_left h.1
theorem At.drop {l : List Nat} {i : Nat} {a : Tk} {ts : List Tk} (h : At l i (a :: ts)) : a.fl.length ≤ i ∧ At l (i - a.fl.length) ts := by
  have hl := h.len
  unfold fls at hl
  rw [List.flatMap_cons, List.length_append] at hl
  refine ⟨by omega, by have := h.1; omega, ?_⟩
  have e := congrArg (List.drop a.fl.length) h.2
  unfold fls at e
  rw [List.flatMap_cons, List.drop_left] at e
  unfold fls
  rw [← e, List.drop_reverse, List.length_take, Nat.min_eq_left h.1, List.take_take]
  congr 2
  omega
theorem At.sg {l : List Nat} {i c : Nat} {ts : List Tk} (h : At l i (.sg c :: ts)) : 1 ≤ i ∧ l.getD (i - 1) 0 = c ∧ At l (i - 1) ts := by
  obtain ⟨h1, h2⟩ := h.drop
  have h1 : 1 ≤ i := h1
  refine ⟨h1, ?_, h2⟩
  have e := congrArg (fun m => m[0]?) h.2
  unfold fls at e
  rw [List.flatMap_cons] at e
  have e : (l.take i).reverse[0]? = some c := e
  rw [List.getElem?_reverse (by rw [List.length_take, Nat.min_eq_left h.1]; omega), List.length_take, Nat.min_eq_left h.1, List.getElem?_take, if_pos (by omega)] at e
  rw [List.getD_eq_getElem?_getD, show i - 1 = i - 1 - 0 from rfl, e]; rfl
theorem mks_mkd (l : List Nat) (c : Nat) : (mks l).contains c = mkd (l.contains 39) c := by
  unfold mks mkd; split <;> rfl
/-- a word ahead ends there -/
theorem ends_wd {l : List Nat} {i d : Nat} {ts : List Tk} (h : At l i (.wd d :: ts)) : ends l i d = true := by
  obtain ⟨h1, h2⟩ := h.drop
  have hr : (Tk.wd d).fl.length = (rst d).length := List.length_reverse ..
  rw [hr] at h1
  have e := congrArg (List.take (rst d).length) h.2
  unfold fls at e
  rw [List.flatMap_cons, ← hr, List.take_left, hr, List.take_reverse, List.length_take, Nat.min_eq_left h.1] at e
  have e2 : (l.take i).drop (i - (rst d).length) = rst d := by
    have := congrArg List.reverse e
    rw [List.reverse_reverse] at this
    rw [this]; exact List.reverse_reverse _
  unfold ends
  rw [beq_iff_eq, ← List.drop_take]
  exact e2
theorem fnd_wd {l : List Nat} {i d : Nat} {ts : List Tk} (hd : d ∈ marks4) (h : At l i (.wd d :: ts)) : fnd l i = some d := by
  have he := ends_wd h
  cases hf : fnd l i with
  | none =>
    have := List.find?_eq_none.mp hf d hd
    exact absurd he this
  | some e => rw [ends_one (fnd_mem hf) hd (fnd_ends hf) he]
theorem fnd_none {l : List Nat} {i : Nat} {ts : List Tk} (hok : ∀ t ∈ ts, t.ok) (hn : NoW ts) (h : At l i ts) : fnd l i = none := by
  cases hf : fnd l i with
  | none => rfl
  | some e =>
    exfalso
    have he := fnd_ends hf
    have hle := ends_le he
    have hm := fnd_mem hf
    have e1 : (l.take i).drop (i - (rst e).length) = rst e := by
      have : ((l.drop (i - (rst e).length)).take (i - (i - (rst e).length))) = rst e := by simpa [ends] using he
      rw [List.drop_take]; exact this
    have e2 : (fls ts).take (rst e).length = (rst e).reverse := by
      rw [← h.2, List.take_reverse, List.length_take, Nat.min_eq_left h.1, e1]
    match ts, hn with
    | [], _ => rcases mem4_cases hm with rfl | rfl | rfl | rfl <;> exact absurd e2 (by decide)
    | .sg c :: r, _ =>
      have hc : c ∈ [38, 60, 62, 34, 39, 120] := hok (.sg c) (List.mem_cons_self ..)
      have e3 := congrArg List.head? e2
      simp only [List.mem_cons, List.not_mem_nil, or_false] at hc
      unfold fls at e3
      rw [List.flatMap_cons] at e3
      rcases mem4_cases hm with rfl | rfl | rfl | rfl <;> simp [rst, Tk.fl] at e3 <;> omega
/-- letters of a word are told as they stand -/
theorem go_run {l : List Nat} : ∀ (m : List Nat) (i : Nat) (told : List Nat) (again : Bool), m.length ≤ i → i ≤ l.length → (l.take i).reverse.take m.length = m → (∀ c ∈ m, c ≠ 38 ∧ c ≠ 60 ∧ c ≠ 62 ∧ c ≠ 34) → go l i told again = go l (i - m.length) (told ++ m) again
  | [], i, told, again, _, _, _, _ => by simp
  | c :: m, i, told, again, h1, h2, h3, h4 => by
    obtain ⟨k, rfl⟩ : ∃ k, i = k + 1 := ⟨i - 1, by rw [List.length_cons] at h1; omega⟩
    have hk : l.take (k + 1) = l.take k ++ [l.getD k 0] := by
      rw [List.take_add_one, List.getD_eq_getElem?_getD]
      cases e : l[k]? with
      | none => exact absurd (List.getElem?_eq_none_iff.mp e) (by omega)
      | some x => rfl
    rw [hk, List.reverse_append, List.reverse_singleton, List.length_cons] at h3
    have h3 : l.getD k 0 :: (l.take k).reverse.take m.length = c :: m := h3
    obtain ⟨hc, hm⟩ := List.cons.inj h3
    have hu : (mks l).contains (l.getD k 0) = false := by
      rw [hc, mks_mkd]
      have := h4 c (List.mem_cons_self ..)
      cases hq : mkd (l.contains 39) c with
      | false => rfl
      | true => rcases mem4_cases (mkd_mem hq) with rfl | rfl | rfl | rfl <;> simp at this
    rw [go_succ, if_neg (by rw [hu]; exact Bool.false_ne_true), hc, go_run m k (told ++ [c]) again (by rw [List.length_cons] at h1; omega) (by omega) hm fun x hx => h4 x (List.mem_cons_of_mem _ hx)]
    rw [List.append_assoc, List.length_cons]
    congr 1
    omega
theorem go_wd {l : List Nat} {i d : Nat} {ts : List Tk} (h : At l i (.wd d :: ts)) (told : List Nat) (again : Bool) : go l i told again = go l (i - (rst d).length) (told ++ (rst d).reverse) again := by
  obtain ⟨h1, h2⟩ := h.drop
  have hr : (Tk.wd d).fl.length = (rst d).length := List.length_reverse ..
  have h1' : (rst d).reverse.length ≤ i := h1
  have := go_run (l := l) (rst d).reverse i told again h1' h.1 ?_ ?_
  · rw [List.length_reverse] at this; exact this
  · rw [h.2]; unfold fls; rw [List.flatMap_cons]; exact List.take_left
  · intro c hc
    have := rst_plain c (List.mem_reverse.mp hc)
    exact ⟨this.1, this.2.1, this.2.2.1, this.2.2.2.1⟩
theorem go_toks {l : List Nat} : ∀ ts : List Tk, (∀ t ∈ ts, t.ok) → ∀ (i : Nat) (told : List Nat) (again : Bool), At l i ts → go l i told again = (told ++ enc (l.contains 39) J1 ts, again && okT (l.contains 39) ts) := by
  refine tk_ind ?_ ?_ ?_ ?_
  · intro _ i told again h
    have : i = 0 := h.len.symm
    subst this
    rw [go_zero, enc, okT, List.append_nil, Bool.and_true]
  · intro d r ih hok i told again h
    have hd : (Tk.wd d).fl.length = (rst d).length := List.length_reverse ..
    rw [go_wd h, ih (fun t ht => hok t (List.mem_cons_of_mem _ ht)) _ _ _ (hd ▸ h.drop.2), enc, okT, List.append_assoc]
  · intro c d r ih hok i told again h
    obtain ⟨h1, hc, h2⟩ := h.sg
    have hd4 : d ∈ marks4 := hok (.wd d) (List.mem_cons_of_mem _ (List.mem_cons_self ..))
    have hr := fun t ht => hok t (List.mem_cons_of_mem _ (List.mem_cons_of_mem _ ht))
    have hd : (Tk.wd d).fl.length = (rst d).length := List.length_reverse ..
    obtain ⟨k, rfl⟩ : ∃ k, i = k + 1 := ⟨i - 1, by omega⟩
    rw [Nat.add_sub_cancel] at hc h2
    rw [go_succ, hc, mks_mkd, enc, okT]
    by_cases hm : mkd (l.contains 39) c = true
    · rw [if_pos hm, if_pos hm, fnd_wd hd4 h2, hm]
      simp only []
      rw [ih hr _ _ _ (hd ▸ h2.drop.2)]
      have hJ : J1 d = true := List.contains_iff_mem.mpr hd4
      rw [if_pos hJ]
      simp only [List.append_assoc, Bool.not_true, Bool.false_or, Bool.and_assoc]
    · rw [if_neg hm, if_neg hm, go_wd h2, ih hr _ _ _ (hd ▸ h2.drop.2)]
      have hm' : mkd (l.contains 39) c = false := by simpa using hm
      rw [hm']
      simp
  · intro c r hn ih hok i told again h
    obtain ⟨h1, hc, h2⟩ := h.sg
    have hr := fun t ht => hok t (List.mem_cons_of_mem _ ht)
    obtain ⟨k, rfl⟩ : ∃ k, i = k + 1 := ⟨i - 1, by omega⟩
    rw [Nat.add_sub_cancel] at hc h2
    rw [go_succ, hc, mks_mkd, enc_sg hn, okT_sg hn]
    by_cases hm : mkd (l.contains 39) c = true
    · rw [if_pos hm, if_pos hm, fnd_none hr hn h2, hm]
      simp only []
      rw [ih hr _ _ _ h2]
      simp only [List.append_assoc, Bool.not_true, Bool.false_and, Bool.and_false]
    · rw [if_neg hm, if_neg hm, ih hr _ _ _ h2]
      have hm' : mkd (l.contains 39) c = false := by simpa using hm
      rw [hm']
      simp
theorem fe_toks {t : List Nat} {ts : List Tk} (hok : ∀ t ∈ ts, t.ok) (h : t.reverse = fls ts) : fe t = (enc (t.contains 39) J1 ts, okT (t.contains 39) ts) := by
  unfold fe
  rw [go_toks ts hok t.length [] true ⟨Nat.le_refl _, by rw [List.take_length]; exact h⟩]
  rfl

def bare (ap : Bool) : List Tk → Nat
  | [] => 0
  | .wd _ :: r => bare ap r
  | .sg _ :: .wd _ :: r => bare ap r
  | .sg c :: r => (if mkd ap c then 1 else 0) + bare ap r
def bad (ap : Bool) : List Tk → Nat
  | [] => 0
  | .wd _ :: r => bad ap r
  | .sg c :: .wd d :: r => (if mkd ap c && (d == 34 && !ap) then 1 else 0) + bad ap r
  | .sg _ :: r => bad ap r
theorem bare_sg {ap : Bool} {c : Nat} {r : List Tk} (h : NoW r) : bare ap (.sg c :: r) = (if mkd ap c then 1 else 0) + bare ap r := by
  match r, h with
  | [], _ => rfl
  | .sg _ :: _, _ => rfl
theorem bad_sg {ap : Bool} {c : Nat} {r : List Tk} (h : NoW r) : bad ap (.sg c :: r) = bad ap r := by
  match r, h with
  | [], _ => rfl
  | .sg _ :: _, _ => rfl
theorem okT_eq (ap : Bool) : ∀ ts, okT ap ts = (bare ap ts == 0 && bad ap ts == 0) := by
  refine tk_ind rfl ?_ ?_ ?_
  · intro d r ih; exact ih
  · intro c d r ih
    rw [okT, bare, bad, ih]
    cases mkd ap c <;> cases (d == 34 && !ap) <;> simp
  · intro c r hn ih
    rw [okT_sg hn, bare_sg hn, bad_sg hn, ih]
    cases mkd ap c <;> simp
theorem J1_true {d : Nat} (h : d ∈ marks4) : J1 d = true := List.contains_iff_mem.mpr h
theorem sg_mem {c x : Nat} {r : List Tk} : Tk.sg x ∈ Tk.sg c :: r ↔ x = c ∨ Tk.sg x ∈ r := by
  rw [List.mem_cons]
  exact or_congr ⟨fun h => by cases h; rfl, fun h => by rw [h]⟩ Iff.rfl
theorem wd_mem {d x : Nat} {r : List Tk} : Tk.sg x ∈ Tk.wd d :: r ↔ Tk.sg x ∈ r := by
  rw [List.mem_cons]
  exact ⟨fun h => h.resolve_left (fun e => by cases e), Or.inr⟩
theorem mem39 {ap : Bool} : ∀ ts : List Tk, (∀ t ∈ ts, t.ok) → (39 ∈ enc ap J1 ts ↔ Tk.sg 39 ∈ ts) := by
  have nr : ∀ c, 39 ∉ rst c := fun c h => (rst_plain 39 h).2.2.2.2 rfl
  refine tk_ind ?_ ?_ ?_ ?_
  · intro _; rw [enc]; simp
  · intro d r ih hok
    rw [enc, List.mem_append, List.mem_reverse, wd_mem, ih fun t ht => hok t (List.mem_cons_of_mem _ ht)]
    exact ⟨fun h => h.resolve_left (nr d), Or.inr⟩
  · intro c d r ih hok
    have hd4 : d ∈ marks4 := hok (.wd d) (List.mem_cons_of_mem _ (List.mem_cons_self ..))
    rw [enc, List.mem_append, sg_mem, wd_mem, ih fun t ht => hok t (List.mem_cons_of_mem _ (List.mem_cons_of_mem _ ht)), if_pos (J1_true hd4)]
    refine or_congr ?_ Iff.rfl
    by_cases hm : mkd ap c = true
    · rw [if_pos hm]
      constructor
      · intro h
        rcases List.mem_append.mp h with h | h
        · exact absurd h (nr c)
        · have := List.mem_singleton.mp h
          rcases mem4_cases hd4 with rfl | rfl | rfl | rfl <;> cases this
      · intro h; subst h; rcases mem4_cases (mkd_mem hm) with h | h | h | h <;> cases h
    · rw [if_neg hm]
      constructor
      · intro h
        rcases List.mem_cons.mp h with h | h
        · exact h
        · exact absurd (List.mem_reverse.mp h) (nr d)
      · intro h; rw [h]; exact List.mem_cons_self ..
  · intro c r hn ih hok
    rw [enc_sg hn, List.mem_append, sg_mem, ih fun t ht => hok t (List.mem_cons_of_mem _ ht)]
    refine or_congr ?_ Iff.rfl
    by_cases hm : mkd ap c = true
    · rw [if_pos hm]
      constructor
      · intro h
        rcases List.mem_append.mp h with h | h
        · exact absurd h (nr c)
        · cases List.mem_singleton.mp h
      · intro h; subst h; rcases mem4_cases (mkd_mem hm) with h | h | h | h <;> cases h
    · rw [if_neg hm]; exact List.mem_singleton
theorem mem34a : ∀ ts : List Tk, (∀ t ∈ ts, t.ok) → bad false ts = 0 → (34 ∈ enc false J1 ts ↔ Tk.sg 34 ∈ ts) := by
  have nr : ∀ c, 34 ∉ rst c := fun c h => (rst_plain 34 h).2.2.2.1 rfl
  refine tk_ind ?_ ?_ ?_ ?_
  · intro _ _; rw [enc]; simp
  · intro d r ih hok hb
    rw [enc, List.mem_append, List.mem_reverse, wd_mem, ih (fun t ht => hok t (List.mem_cons_of_mem _ ht)) hb]
    exact ⟨fun h => h.resolve_left (nr d), Or.inr⟩
  · intro c d r ih hok hb
    have hd4 : d ∈ marks4 := hok (.wd d) (List.mem_cons_of_mem _ (List.mem_cons_self ..))
    rw [bad] at hb
    rw [enc, List.mem_append, sg_mem, wd_mem, ih (fun t ht => hok t (List.mem_cons_of_mem _ (List.mem_cons_of_mem _ ht))) (by omega), if_pos (J1_true hd4)]
    refine or_congr ?_ Iff.rfl
    by_cases hm : mkd false c = true
    · rw [if_pos hm]
      constructor
      · intro h
        rcases List.mem_append.mp h with h | h
        · exact absurd h (nr c)
        · have := List.mem_singleton.mp h
          rw [hm, ← this] at hb
          simp at hb
      · intro h; subst h; exact absurd hm (by decide)
    · rw [if_neg hm]
      constructor
      · intro h
        rcases List.mem_cons.mp h with h | h
        · exact h
        · exact absurd (List.mem_reverse.mp h) (nr d)
      · intro h; rw [h]; exact List.mem_cons_self ..
  · intro c r hn ih hok hb
    rw [bad_sg hn] at hb
    rw [enc_sg hn, List.mem_append, sg_mem, ih (fun t ht => hok t (List.mem_cons_of_mem _ ht)) hb]
    refine or_congr ?_ Iff.rfl
    by_cases hm : mkd false c = true
    · rw [if_pos hm]
      constructor
      · intro h
        rcases List.mem_append.mp h with h | h
        · exact absurd h (nr c)
        · cases List.mem_singleton.mp h
      · intro h; subst h; exact absurd hm (by decide)
    · rw [if_neg hm]; exact List.mem_singleton
theorem mem34b {ap : Bool} : ∀ ts : List Tk, (∀ t ∈ ts, t.ok) → bad ap ts ≠ 0 → ap = false ∧ 34 ∈ enc ap J1 ts := by
  refine tk_ind ?_ ?_ ?_ ?_
  · intro _ h; exact absurd rfl h
  · intro d r ih hok hb
    have := ih (fun t ht => hok t (List.mem_cons_of_mem _ ht)) hb
    rw [enc]; exact ⟨this.1, List.mem_append_right _ this.2⟩
  · intro c d r ih hok hb
    have hd4 : d ∈ marks4 := hok (.wd d) (List.mem_cons_of_mem _ (List.mem_cons_self ..))
    rw [bad] at hb
    rw [enc, if_pos (J1_true hd4)]
    by_cases hz : bad ap r = 0
    · rw [hz] at hb
      have hc : (mkd ap c && (d == 34 && !ap)) = true := by
        cases hq : (mkd ap c && (d == 34 && !ap)) with
        | true => rfl
        | false => rw [hq] at hb; simp at hb
      simp only [Bool.and_eq_true, beq_iff_eq, Bool.not_eq_true'] at hc
      refine ⟨hc.2.2, List.mem_append_left _ ?_⟩
      rw [if_pos hc.1, hc.2.1]
      exact List.mem_append_right _ (List.mem_cons_self ..)
    · have := ih (fun t ht => hok t (List.mem_cons_of_mem _ (List.mem_cons_of_mem _ ht))) hz
      exact ⟨this.1, List.mem_append_right _ this.2⟩
  · intro c r hn ih hok hb
    rw [bad_sg hn] at hb
    have := ih (fun t ht => hok t (List.mem_cons_of_mem _ ht)) hb
    rw [enc_sg hn]; exact ⟨this.1, List.mem_append_right _ this.2⟩

theorem rst_flat (q : Bool) (c : Nat) : (rst c).flatMap (esc q) = rst c := flat_plain _ fun x hx => ⟨(rst_plain x hx).1, (rst_plain x hx).2.1, (rst_plain x hx).2.2.1, (rst_plain x hx).2.2.2.1⟩
theorem rstr_flat (q : Bool) (c : Nat) : (rst c).reverse.flatMap (esc q) = (rst c).reverse := flat_plain _ fun x hx => ⟨(rst_plain x (List.mem_reverse.mp hx)).1, (rst_plain x (List.mem_reverse.mp hx)).2.1, (rst_plain x (List.mem_reverse.mp hx)).2.2.1, (rst_plain x (List.mem_reverse.mp hx)).2.2.2.1⟩
theorem esc_ref {q : Bool} {d : Nat} (hd : d ∈ marks4) (h : d = 34 → q = true) : esc q d = 38 :: (rst d).reverse := by
  rcases mem4_cases hd with rfl | rfl | rfl | rfl
  · rfl
  · rfl
  · rfl
  · rw [h rfl]; rfl
theorem esc_unm {ap q : Bool} {c : Nat} (hc : c ∈ [38, 60, 62, 34, 39, 120]) (hm : mkd ap c = false) (hq : c = 34 → q = ap) : esc q c = [c] := by
  simp only [List.mem_cons, List.not_mem_nil, or_false] at hc
  rcases hc with rfl | rfl | rfl | rfl | rfl | rfl
  · cases ap <;> cases hm
  · cases ap <;> cases hm
  · cases ap <;> cases hm
  · rw [hq rfl]; cases ap
    · rfl
    · cases hm
  · rfl
  · rfl
/-- the reading, written again, and the writing turned: apart by the bare signs alone -/
theorem again_len {ap q : Bool} (hqa : ap = true → q = true) : ∀ ts : List Tk, (∀ t ∈ ts, t.ok) → (Tk.sg 34 ∈ ts → q = ap) → bad ap ts = 0 →
    ((enc ap J1 ts).flatMap (esc q)).length = (enc ap J0 ts).length + 4 * bare ap ts ∧ (bare ap ts = 0 → (enc ap J1 ts).flatMap (esc q) = enc ap J0 ts) := by
  refine tk_ind ?_ ?_ ?_ ?_
  · intro _ _ _; exact ⟨rfl, fun _ => rfl⟩
  · intro d r ih hok hs hb
    obtain ⟨i1, i2⟩ := ih (fun t ht => hok t (List.mem_cons_of_mem _ ht)) (fun h => hs (List.mem_cons_of_mem _ h)) hb
    rw [enc, enc, bare, List.flatMap_append, rstr_flat, List.length_append, List.length_append, i1]
    exact ⟨by omega, fun h => by rw [i2 h]⟩
  · intro c d r ih hok hs hb
    have hd4 : d ∈ marks4 := hok (.wd d) (List.mem_cons_of_mem _ (List.mem_cons_self ..))
    have hc : c ∈ [38, 60, 62, 34, 39, 120] := hok (.sg c) (List.mem_cons_self ..)
    rw [bad] at hb
    obtain ⟨i1, i2⟩ := ih (fun t ht => hok t (List.mem_cons_of_mem _ (List.mem_cons_of_mem _ ht))) (fun h => hs (List.mem_cons_of_mem _ (List.mem_cons_of_mem _ h))) (by omega)
    have key : (if mkd ap c = true then rst c ++ (if J1 d = true then [d] else 38 :: (rst d).reverse) else c :: (rst d).reverse).flatMap (esc q) = if mkd ap c = true then rst c ++ (if J0 d = true then [d] else 38 :: (rst d).reverse) else c :: (rst d).reverse := by
      rw [if_pos (J1_true hd4), if_neg (show ¬ J0 d = true from Bool.false_ne_true)]
      by_cases hm : mkd ap c = true
      · rw [if_pos hm, if_pos hm, List.flatMap_append, rst_flat, List.flatMap_cons, List.flatMap_nil, List.append_nil, esc_ref hd4]
        intro h34
        rw [hm, h34] at hb
        apply hqa
        cases ap with
        | true => rfl
        | false => simp at hb
      · have hm' : mkd ap c = false := by simpa using hm
        rw [if_neg hm, if_neg hm, List.flatMap_cons, rstr_flat, esc_unm hc hm' fun h => hs (by rw [← h]; exact List.mem_cons_self ..)]
        rfl
    rw [enc, enc, bare, List.flatMap_append, key, List.length_append, List.length_append, i1]
    exact ⟨by omega, fun h => by rw [i2 h]⟩
  · intro c r hn ih hok hs hb
    have hc : c ∈ [38, 60, 62, 34, 39, 120] := hok (.sg c) (List.mem_cons_self ..)
    rw [bad_sg hn] at hb
    obtain ⟨i1, i2⟩ := ih (fun t ht => hok t (List.mem_cons_of_mem _ ht)) (fun h => hs (List.mem_cons_of_mem _ h)) hb
    rw [enc_sg hn, enc_sg hn, bare_sg hn, List.flatMap_append, List.length_append, List.length_append, i1]
    by_cases hm : mkd ap c = true
    · rw [if_pos hm, if_pos hm, List.flatMap_append, rst_flat]
      have : [38].flatMap (esc q) = rAmp := by rfl
      rw [this, List.length_append, List.length_append]
      exact ⟨by rw [show rAmp.length = 5 from rfl]; simp only [List.length_cons, List.length_nil]; omega, fun h => by omega⟩
    · have hm' : mkd ap c = false := by simpa using hm
      rw [if_neg hm, if_neg hm, List.flatMap_cons, List.flatMap_nil, List.append_nil, esc_unm hc hm' fun h => hs (by rw [← h]; exact List.mem_cons_self ..)]
      exact ⟨by omega, fun h => by rw [i2 (by omega)]⟩
/-- the ampersands -/
theorem again_amp : ∀ ts : List Tk, (∀ t ∈ ts, t.ok) → ((enc false J1 ts).flatMap (esc false)).count 38 + bad false ts = (enc false J0 ts).count 38 := by
  have nr : ∀ c, (rst c).count 38 = 0 := fun c => List.count_eq_zero.mpr (rst_no38 c)
  have nrr : ∀ c, (rst c).reverse.count 38 = 0 := fun c => by rw [List.count_reverse]; exact nr c
  refine tk_ind ?_ ?_ ?_ ?_
  · intro _; rfl
  · intro d r ih hok
    have i1 := ih fun t ht => hok t (List.mem_cons_of_mem _ ht)
    rw [enc, enc, bad, List.flatMap_append, rstr_flat, List.count_append, List.count_append, nrr, ← i1]; omega
  · intro c d r ih hok
    have hd4 : d ∈ marks4 := hok (.wd d) (List.mem_cons_of_mem _ (List.mem_cons_self ..))
    have hc : c ∈ [38, 60, 62, 34, 39, 120] := hok (.sg c) (List.mem_cons_self ..)
    have i1 := ih fun t ht => hok t (List.mem_cons_of_mem _ (List.mem_cons_of_mem _ ht))
    rw [enc, enc, bad, List.flatMap_append, List.count_append, List.count_append, ← i1, if_pos (J1_true hd4), if_neg (show ¬ J0 d = true from Bool.false_ne_true)]
    by_cases hm : mkd false c = true
    · rw [if_pos hm, if_pos hm, List.flatMap_append, rst_flat, List.count_append, List.count_append, nr, hm]
      rcases mem4_cases hd4 with rfl | rfl | rfl | rfl
      · rw [show ([38].flatMap (esc false)).count 38 = 1 from rfl, show (38 :: (rst 38).reverse).count 38 = 1 from rfl]; simp; omega
      · rw [show ([60].flatMap (esc false)).count 38 = 1 from rfl, show (38 :: (rst 60).reverse).count 38 = 1 from rfl]; simp; omega
      · rw [show ([62].flatMap (esc false)).count 38 = 1 from rfl, show (38 :: (rst 62).reverse).count 38 = 1 from rfl]; simp; omega
      · rw [show ([34].flatMap (esc false)).count 38 = 0 from rfl, show (38 :: (rst 34).reverse).count 38 = 1 from rfl]; simp; omega
    · have hm' : mkd false c = false := by simpa using hm
      rw [if_neg hm, if_neg hm, List.flatMap_cons, rstr_flat, esc_unm hc hm' (fun h => rfl), hm']
      simp; omega
  · intro c r hn ih hok
    have hc : c ∈ [38, 60, 62, 34, 39, 120] := hok (.sg c) (List.mem_cons_self ..)
    have i1 := ih fun t ht => hok t (List.mem_cons_of_mem _ ht)
    rw [enc_sg hn, enc_sg hn, bad_sg hn, List.flatMap_append, List.count_append, List.count_append, ← i1]
    by_cases hm : mkd false c = true
    · rw [if_pos hm, List.flatMap_append, rst_flat, List.count_append, List.count_append, nr]
      rw [show ([38].flatMap (esc false)).count 38 = 1 from rfl]; simp; omega
    · have hm' : mkd false c = false := by simpa using hm
      rw [if_neg hm, List.flatMap_cons, List.flatMap_nil, List.append_nil, esc_unm hc hm' (fun h => rfl)]
      omega

theorem in_turned {t : List Nat} {ts : List Tk} {x : Nat} (hx : x = 34 ∨ x = 39) (h : t.reverse = fls ts) : x ∈ t ↔ Tk.sg x ∈ ts := by
  rw [← List.mem_reverse, h]
  unfold fls
  rw [List.mem_flatMap]
  constructor
  · rintro ⟨a, ha, hxa⟩
    cases a with
    | wd d =>
      have := rst_plain x (List.mem_reverse.mp hxa)
      rcases hx with rfl | rfl
      · exact absurd rfl this.2.2.2.1
      · exact absurd rfl this.2.2.2.2
    | sg c => rw [List.mem_singleton.mp hxa]; exact ha
  · intro hm; exact ⟨_, hm, List.mem_singleton.mpr rfl⟩
theorem mk_ne (l : List Nat) : mk l ≠ 38 := by unfold mk; split <;> decide
theorem wr_count (l : List Nat) : (wr l).count 38 = (l.flatMap (esc (mq l))).count 38 := by
  unfold wr
  rw [List.count_cons, List.count_append]
  have h1 : ([mk l] : List Nat).count 38 = 0 := List.count_eq_zero.mpr fun h => mk_ne l (List.mem_singleton.mp h).symm
  have h2 : (mk l == 38) = false := beq_eq_false_iff_ne.mpr (mk_ne l)
  rw [h1, h2]; simp
theorem wr_length (l : List Nat) : (wr l).length = (l.flatMap (esc (mq l))).length + 2 := by
  unfold wr; rw [List.length_cons, List.length_append]; rfl
/-- the plain law -/
theorem plain {t : List Nat} {ts : List Tk} (hok : ∀ t ∈ ts, t.ok) (h : t.reverse = fls ts) :
    rep rAmp [38] 0 (rep rQuot [34] 0 (rep rGt [62] 0 (rep rLt [60] 0 (t.flatMap (esc (mq t))).reverse))) = (fe t).1 ∧ (wr (fe t).1 == (wr t).reverse) = (fe t).2 := by
  have h34 := in_turned (x := 34) (.inl rfl) h
  have h39 := in_turned (x := 39) (.inr rfl) h
  obtain ⟨ap, hap⟩ : ∃ ap, ap = t.contains 39 := ⟨_, rfl⟩
  have hqa : ap = true → mq t = true := fun e => by unfold mq; rw [← hap, e]; simp
  have hqs : Tk.sg 34 ∈ ts → mq t = ap := fun e => by
    unfold mq
    rw [← hap, List.contains_iff_mem.mpr (h34.mpr e)]
    cases ap <;> rfl
  have hin := inside (q := mq t) h hok hqs
  rw [fe_toks hok h, ← hap, hin, unescape_enc ts hok]
  refine ⟨rfl, ?_⟩
  dsimp only
  obtain ⟨r, hr⟩ : ∃ r, r = enc ap J1 ts := ⟨_, rfl⟩
  have hr39 : r.contains 39 = ap := by
    rw [hap, Bool.eq_iff_iff, List.contains_iff_mem, List.contains_iff_mem, hr, mem39 ts hok, h39]
  have hrev : (wr t).reverse = mk t :: (enc ap J0 ts ++ [mk t]) := by
    unfold wr
    rw [List.reverse_cons, List.reverse_append, hin]; rfl
  rw [← hr, okT_eq]
  by_cases hb : bad ap ts = 0
  · have hmq : mq r = mq t := by
      unfold mq
      rw [hr39, ← hap]
      cases hap' : ap with
      | true => simp
      | false =>
        have : r.contains 34 = t.contains 34 := by
          rw [Bool.eq_iff_iff, List.contains_iff_mem, List.contains_iff_mem, h34, hr]
          rw [hap'] at hb ⊢
          exact mem34a ts hok hb
        rw [this]
    obtain ⟨g1, g2⟩ := again_len (q := mq t) hqa ts hok hqs hb
    rw [← hr] at g1 g2
    by_cases hz : bare ap ts = 0
    · rw [hz, hb, hrev]
      have hmk : mk r = mk t := by unfold mk; rw [hmq]
      unfold wr
      rw [hmq, g2 hz, hmk]; simp
    · have : (wr r == (wr t).reverse) = false := by
        rw [beq_eq_false_iff_ne]
        intro e
        have := congrArg List.length e
        rw [wr_length, hmq, g1, hrev, List.length_cons, List.length_append, List.length_singleton] at this
        omega
      rw [this]
      have hz' : (bare ap ts == 0) = false := beq_eq_false_iff_ne.mpr hz
      rw [hz']; rfl
  · have hb' : (bad ap ts == 0) = false := beq_eq_false_iff_ne.mpr hb
    rw [hb', Bool.and_false, beq_eq_false_iff_ne]
    obtain ⟨ha, hm⟩ := mem34b ts hok hb
    subst ha
    have hmq : mq r = false := by
      unfold mq
      rw [hr39, List.contains_iff_mem.mpr (hr ▸ hm)]; rfl
    intro e
    have := congrArg (List.count 38) e
    rw [wr_count, hmq, hrev, List.count_cons, List.count_append] at this
    have h1 : ([mk t] : List Nat).count 38 = 0 := List.count_eq_zero.mpr fun h => mk_ne t (List.mem_singleton.mp h).symm
    have h2 : (mk t == 38) = false := beq_eq_false_iff_ne.mpr (mk_ne t)
    have h3 := again_amp ts hok
    rw [h1, h2, hr] at this
    simp at this
    omega
end Mine
end

section
theorem Mine.anew_Lz : True := by w_top off; first | walk1 | exact True.intro
open PySem PySem.W PySem.Calls PyProof.Rows
set_option maxRecDepth 100000
namespace Mine
theorem sliceBy_rev (l : List Nat) (k : Tok) : PySem.Txt.sliceBy (S l) none none (-1, k) = S l.reverse := by
  rw [← S_cps (PySem.Txt.sliceBy (S l) none none (-1, k)), step_rev_list]
  congr 1
  apply List.ext_getElem?
  intro i
  rw [S_len, List.getElem?_map]
  by_cases h : i < l.length
  · rw [List.getElem?_range h, List.getElem?_reverse h]
    show some (l.toArray.getD (l.length - 1 - i) 0) = _
    rw [Array.getD_eq_getD_getElem?, List.getElem?_toArray, List.getElem?_eq_getElem (by omega)]
    rfl
  · rw [List.getElem?_eq_none (by rw [List.length_range]; omega), List.getElem?_eq_none (by rw [List.length_reverse]; omega)]; rfl
/-- equal blocks, turned one by one -/
theorem blocks_get {W : Nat} : ∀ {ls : List (List Nat)} {i q : Nat} {l : List Nat}, (∀ l ∈ ls, l.length = W) → ls[i]? = some l → q < W → ls.flatten[i * W + q]? = l[q]?
  | [], _, _, _, _, h, _ => by cases h
  | a :: ls, 0, q, l, hl, h, hq => by
    cases h
    rw [List.flatten_cons, Nat.zero_mul, Nat.zero_add, List.getElem?_append_left (by rw [hl a (List.mem_cons_self ..)]; exact hq)]
  | a :: ls, i + 1, q, l, hl, h, hq => by
    have ha := hl a (List.mem_cons_self ..)
    have e : (i + 1) * W = i * W + W := by rw [Nat.add_mul, Nat.one_mul]
    rw [List.flatten_cons, List.getElem?_append_right (by omega), ha, show (i + 1) * W + q - W = i * W + q by omega]
    exact blocks_get (fun l h => hl l (List.mem_cons_of_mem _ h)) h hq
theorem turned_blocks {W : Nat} {ls : List (List Nat)} {c : Array UInt8} (hW : 1 ≤ W) (hl : ∀ l ∈ ls, l.length = W) (hlen : ls.flatten.length = ls.length * W) (hsm : ∀ c ∈ ls.flatten, c < 256) (hsw : SwI (byteArr (ls.flatten.map fun c => ((c : Nat) : Int))) W ls.length c) {i : Nat} {l : List Nat} (hi : ls[i]? = some l) :
    ((c.toList.map fun x => x.toNat).drop (i * W)).take W = l.reverse := by
  have hil : i < ls.length := by
    obtain ⟨h, -⟩ := List.getElem?_eq_some_iff.mp hi
    exact h
  have hll := hl l (List.mem_of_getElem? hi)
  have hiW : (i + 1) * W ≤ ls.length * W := Nat.mul_le_mul_right _ hil
  have hiW1 : (i + 1) * W = i * W + W := by rw [Nat.add_mul, Nat.one_mul]
  have hsz : c.toList.length = ls.length * W := by rw [Array.length_toList, hsw.1, byteArr_size, List.length_map, hlen]
  apply List.ext_getElem?
  intro q
  by_cases hq : q < W
  · rw [List.getElem?_take, if_pos hq, List.getElem?_drop, List.getElem?_map, List.getElem?_reverse (by omega), hll]
    have h1 := hsw.2 (i * W + q) (by omega)
    have e1 : sw W (i * W + q) = i * W + (W - 1 - q) := by
      unfold sw
      rw [Nat.add_comm (i * W) q, Nat.add_mul_div_right _ _ hW, Nat.div_eq_of_lt hq, Nat.add_mul_mod_self_right, Nat.mod_eq_of_lt hq, Nat.zero_add]
    rw [e1] at h1
    have h2 := blocks_get (q := W - 1 - q) hl hi (by omega)
    have h3 : l[W - 1 - q]? = some (l[W - 1 - q]'(by omega)) := List.getElem?_eq_getElem (by omega)
    rw [h3] at h2 ⊢
    have hcl : i * W + q < c.toList.length := by omega
    rw [List.getElem?_eq_getElem hcl]
    rw [List.getD_eq_getElem?_getD, List.getElem?_eq_getElem hcl] at h1
    have hb : (byteArr (ls.flatten.map fun c => ((c : Nat) : Int))).toList = ls.flatten.map fun c => c.toUInt8 := by
      unfold byteArr
      simp [Function.comp_def]
    rw [hb, List.getD_eq_getElem?_getD, List.getElem?_map, h2] at h1
    have hm := hsm _ (List.mem_of_getElem? h2)
    have h1' : c.toList[i * W + q]'hcl = (l[W - 1 - q]'(by omega)).toUInt8 := h1
    show some (UInt8.toNat (c.toList[i * W + q]'hcl)) = _
    rw [h1']
    congr 1
    show (UInt8.ofNat _).toNat = _
    rw [UInt8.toNat_ofNat']
    exact Nat.mod_eq_of_lt hm
  · rw [List.getElem?_take, if_neg hq, List.getElem?_eq_none (by rw [List.length_reverse]; omega)]
theorem slice_in {l : List Nat} (h : 2 ≤ l.length) : PySem.Txt.slice (S l) (some 1) (some (-1)) = S ((l.drop 1).take (l.length - 2)) := by
  have h1 : PySem.Txt.slice (S l) (some 1) (some (-1)) = PySem.Txt.slice (S l) (some 1) (some (-1 + ((S l).length : Int))) := PySem.StrLaws.sliceText_neg_hi (S l) (some 1) (by decide) (by rw [S_len]; omega)
  rw [h1, slice_S (i := 1) (a := 1) (b := l.length - 1) rfl (by rw [S_len]; omega) (by omega) (by omega)]
  congr 1
end Mine
end

section
theorem Mine.anew_Ly : True := by w_top off; first | walk1 | exact True.intro
open PySem PySem.W PySem.Calls PyProof.Rows
set_option maxRecDepth 100000
namespace Mine
theorem rep_mem {y z : List Nat} {c : Nat} : ∀ (l : List Nat) (k : Nat), c ∈ rep y z k l → c ∈ l ∨ c ∈ z
  | [], k, h => by rw [rep_nil] at h; cases h
  | a :: l, k + 1, h => by
    have h : c ∈ rep y z k l := h
    exact (rep_mem l k h).imp (List.mem_cons_of_mem _) id
  | a :: l, 0, h => by
    have h : c ∈ (if (a :: l).take y.length = y then z ++ rep y z (y.length - 1) l else a :: rep y z 0 l) := h
    split at h
    · rcases List.mem_append.mp h with h | h
      · exact .inr h
      · exact (rep_mem l _ h).imp (List.mem_cons_of_mem _) id
    · rcases List.mem_cons.mp h with rfl | h
      · exact .inl (List.mem_cons_self ..)
      · exact (rep_mem l _ h).imp (List.mem_cons_of_mem _) id
theorem esc_mem {q : Bool} {c d : Nat} (hc : c = 9 ∨ c = 10 ∨ c = 13) (h : c ∈ esc q d) : c = d := by
  have k1 : ∀ x ∈ rAmp, x ≠ 9 ∧ x ≠ 10 ∧ x ≠ 13 := by decide
  have k2 : ∀ x ∈ rLt, x ≠ 9 ∧ x ≠ 10 ∧ x ≠ 13 := by decide
  have k3 : ∀ x ∈ rGt, x ≠ 9 ∧ x ≠ 10 ∧ x ≠ 13 := by decide
  have k4 : ∀ x ∈ rQuot, x ≠ 9 ∧ x ≠ 10 ∧ x ≠ 13 := by decide
  unfold esc at h
  (repeat' split at h) <;> first | (have := k1 c h; omega) | (have := k2 c h; omega) | (have := k3 c h; omega) | (have := k4 c h; omega) | (have := List.mem_singleton.mp h; omega)
theorem fe_no {l t : List Nat} {q : Bool} {c : Nat} (hc : c = 9 ∨ c = 10 ∨ c = 13) (h : c ∉ l) (e : rep rAmp [38] 0 (rep rQuot [34] 0 (rep rGt [62] 0 (rep rLt [60] 0 (l.flatMap (esc q)).reverse))) = t) : c ∉ t := by
  intro hm
  rw [← e] at hm
  have n1 : ∀ d, d = 38 ∨ d = 34 ∨ d = 62 ∨ d = 60 → c ∉ [d] := by
    intro d hd hm
    have := List.mem_singleton.mp hm
    omega
  have h1 := (rep_mem _ _ hm).resolve_right (n1 _ (by omega))
  have h2 := (rep_mem _ _ h1).resolve_right (n1 _ (by omega))
  have h3 := (rep_mem _ _ h2).resolve_right (n1 _ (by omega))
  have h4 := (rep_mem _ _ h3).resolve_right (n1 _ (by omega))
  obtain ⟨d, hd, hm⟩ := List.mem_flatMap.mp (List.mem_reverse.mp h4)
  exact h (esc_mem hc hm ▸ hd)
theorem ne_told {prog : Program} {w : World} {A : Around} {E : Value → Shared → Prop} {s : Shared} {a b : Addr} {x : Str} {t t' : Tok} {e e' : Bool} {Q : Value → Shared → Prop} (ha : s.heap.IsList a #[.str x t, .bool e]) (hb : s.heap.IsList b #[.str x t', .bool e']) (he : e = e') (hu : A.units < cLine) (h : Q (.bool false) s) :
    wpAny (model prog w) A (compareOp .NotEq (.ref a) (.ref b)) Q E s := by
  subst he
  refine SeqAt.RcNeAt.lists (e := fun _ => true) ha hb rfl hu (fun j h1 h2 => ?_) prog w E Q h
  have hj : j = 0 ∨ j = 1 := by
    have : j < 2 := h1
    omega
  rcases hj with rfl | rfl
  · have := SeqAt.EqAt.str_str (A := A.in1) (s := s) x t x t'
    rw [beq_self_eq_true] at this
    exact this
  · have := SeqAt.EqAt.bool_bool (A := A.in1) (s := s) e e
    rw [beq_self_eq_true] at this
    exact this
theorem pick2 {h₀ h : Heap} {L : Addr} {news : List (Addr × Obj)} {p q : Addr × Obj} (N : News h₀ L h news) (hp : p ∈ news) (hq : q ∈ news) : News h₀ L h [p, q] := by
  intro r hr
  rcases List.mem_cons.mp hr with rfl | hr
  · exact N _ hp
  · rw [List.mem_singleton.mp hr]; exact N _ hq
end Mine
end

section
theorem Mine.anew_Lw : True := by w_top off; first | walk1 | exact True.intro
open PySem PySem.W PySem.Calls PyProof.Rows
set_option maxRecDepth 100000
set_option maxHeartbeats 4000000
namespace Mine
local macro_rules | `(tactic| walk_at "exec Assign cons ListComp") => `(tactic| (k_here; (rename Fr _ _ _ _ => lF); k_dflt (refine Assign_ListComp_W lF rfl (by with_unfolding_all rfl) (by with_unfolding_all rfl) (by decide) (by rfl) (by decide) (by rfl) (by rfl) (by rfl) ?_)))
local macro_rules | `(tactic| walk_at "eval ListComp") => `(tactic| (k_here; k_dflt (refine ListComp_W (F₀ := by k_asm) (by with_unfolding_all rfl) (by decide) (by rfl) (by decide) (by rfl) ?_)))
/-- a call, where it stands -/
def CallAt (p : Prop) : Prop := p
theorem CallAt.intro {p : Prop} (h : CallAt p) : p := h
local macro_rules | `(tactic| walk_at "call ref") => `(tactic| (k_here; refine CallAt.intro ?_))
theorem CallAt.intro' {p : Prop} (h : p) : CallAt p := h
local macro_rules | `(tactic| walk_at "call builtin:str.join") => `(tactic| (k_here; refine CallAt.intro ?_))
local macro_rules | `(tactic| walk_at "exec For Name Call cons nil") => `(tactic| (k_here; (rename Fr _ _ _ _ => lF); with_unfolding_all (refine For_PI lF (by rfl) (by rfl) ?_)))
local macro_rules | `(tactic| walk_at "execs cons") => `(tactic| (k_here; (refine execs_pos (by first | assumption | omega | ((try dsimp only); omega)) ?_); intro tk' htk'))
local macro_rules | `(tactic| walk_at "PosThen") => `(tactic| ((refine PosThen.mk ?_); intro htk'; (try dsimp only at htk'); (try dsimp only)))
theorem slice_ss_pos {prog : Program} {w : World} {A : Around} {E : Value → Shared → Prop} {s : Shared} {h₀ : Heap} {L : Addr} {m : Str → Option Value} {news : List (Addr × Obj)} {value slice : Expr} {x : Str} {t : Tok} {Q : Value → Shared → Prop} {i j : Int} {ui uj : Tok} (hF : Fr h₀ L s.heap m) (hN : News h₀ L s.heap news) (hp : 0 < s.toks) (h : ∀ h' t' k, 0 < k → Fr h₀ L h' m → News h₀ L h' news → Q (.str (PySem.Txt.slice x (some i) (some j)) t') { s with heap := h', toks := k })
    (hs : subscripted slice false (.str x t) (.ref s.heap.objs.size) = operate [.ref s.heap.objs.size, .str x t] (getItem (.str x t) (.ref s.heap.objs.size)) := by with_unfolding_all rfl)
    (ht : ∀ r, letTemporaryGo value (.str x t) r = pure () := by intro _; with_unfolding_all rfl) (hsz : x.length ≤ sizeLine := by size_fits) :
    wpAny (model prog w) A (subscriptTail value slice (.str x t) (.ref s.heap.objs.size)) Q E { s with heap := s.heap.push { cls := .type "slice", data := .fields #[.int i ui, .int j uj, .none] } } :=
  wpAny_mono (wpAny_toks_of (n := 1) hp (slice_strN_ss (Q := fun a s' => 1 ≤ s'.toks → Q a s') (E := E) hF hN (fun h' t' k a b hk => h h' t' k hk a b) hs ht hsz)) (fun _ _ x => x.2 x.1) (fun _ _ x => x.2)
local macro_rules | `(tactic| walk_at "subscriptTail Name Slice str ref") => `(tactic| (k_here; (with_reducible show wpAny _ _ (subscriptTail _ (Expr.Slice (some _) (some _) none _) _ _) _ _ _); (with_reducible rename Fr _ _ _ _ => F'); (with_reducible rename News _ _ _ _ => N'); (refine slice_ss_pos (hsz := ?hsz) (hp := ?hp) (s := ⟨_, _, _, _, _⟩) F' N' ?_); (case hsz => size_fits); (case hp => first | assumption | omega | ((try dsimp only); omega)); intro _ _ _ htk' _ _))
local macro_rules | `(tactic| walk_at "eval Dict") => `(tactic| (k_here; refine CallAt.intro ?_))
local macro_rules | `(tactic| walk_at "Pair1") => `(tactic| ((rename Fr _ _ _ _ => lF); (rename News _ _ _ _ => lN); k_dflt (refine Pair1.intro lF lN ?_); clear lF lN; intro _ F' N'))
local macro_rules | `(tactic| walk_at "call type:bytes") => `(tactic| (k_here; refine CallAt.intro ?_))
local macro_rules | `(tactic| walk_at "subscriptTail Name Name ref int") => `(tactic| (k_here; refine CallAt.intro ?_))
local macro_rules | `(tactic| walk_at "newList") => `(tactic| (k_here; k_dflt (refine' newList_K (hsz := ?k3) ?k1 ?k2 ?_; (case k1 => k_asm); (case k2 => k_asm); (case k3 => (rw [sizeLine_eq]; simp only [List.length_cons, List.length_nil]; omega)); k_whole); intro l' h' F' N' l1; (try k_lt l1); (try k_sweep)))
local macro_rules | `(tactic| walk_at "compareOp NotEq ref ref") => `(tactic| (k_here; refine CallAt.intro ?_))
local macro_rules | `(tactic| walk_at "call builtin:max") => `(tactic| (k_here; refine CallAt.intro ?_))
theorem sp_at {w : World} {f : Addr} {args : List Value} {R : Heap → Heap → Value → Prop} {dp un : Nat} {gd : Option (List Code)} {cn : Str} {cs : Scope} {a : Addr} {ccd : Value} {cl : List (Str × Addr)} {outer : List Env} {A₀ : Around} {base h₀ : Heap} {L : Addr} {m : Str → Option Value} {mean : ExcName → Option Value} {mg mb : Str → Option Value} {s : Shared} {Q E : Value → Shared → Prop} {news : List (Addr × Obj)}
    (C : Sp w f args R) (B : Below A₀ base outer h₀) (F : Fr h₀ L s.heap m) (N : News h₀ L s.heap news) (X : (hd.heap_39 w.params).In h₀) (T : Top hd.view_39 (looseW hd.view_39 [Str.ofString "escape", Str.ofString "unescape", Str.ofString "quoteattr"]) mean mg mb h₀) (hk : cs.kind = .function)
    (hd : dp + 4 < recursionLimit) (hu : un + 64 < cLine) (h : ∀ v h' tk', Fr h₀ L h' m → News h₀ L h' news → R s.heap h' v → (∀ b o, s.heap.get? b = some o → h'.get? b = some o) → Q v { s with heap := h', toks := tk' }) :
    CallAt (wpAny (model PySem.Challenge.rw_kt0004_01.row.prog w) (ktrTop dp un gd cn cs L a ccd cl outer) (call (.ref f) args) Q E s) :=
  C dp un gd cn cs a ccd cl outer A₀ base h₀ L m mean mg mb s Q E B F X T hk hd hu fun v h' tk' k r => h v h' tk' (F.keeps k) (N.grown k) r k
theorem int_of : ∀ {vs : List Value} {ns : List Int} {i : Nat} {v : Value}, IntsAre vs ns → vs[i]? = some v → ∃ z u, v = .int z u
  | _, _, i, v, .nil, h => by cases i <;> cases h
  | _, _, 0, v, .cons .., h => by cases h; exact ⟨_, _, rfl⟩
  | _, _, i + 1, v, .cons _ _ r, h => int_of r h
def tx (fs : List Nat) : List Nat := fs.flatMap piece
def wl (fs : List Nat) : Nat := (wr (tx fs)).length
theorem tx_len {fs : List Nat} (h : fs.length ≤ 3) : (tx fs).length ≤ 18 := by
  have := pieces_len fs
  rw [S_len] at this
  exact Nat.le_trans this (by omega)
theorem wl_le {fs : List Nat} (h : fs.length ≤ 3) : 2 ≤ wl fs ∧ wl fs ≤ 110 := by
  have h1 := tx_len h
  have := wr_len (tx fs)
  unfold wl
  omega
theorem pick : ∀ {ys : List Value}, (∀ (i : Nat) (y : Value), ys[i]? = some y → ∃ (fs : List Nat) (t' : Tok), fs.length ≤ 3 ∧ (∀ f ∈ fs, f < 20) ∧ y = .str (S (fs.flatMap piece)) t') →
    ∃ fss : List (List Nat), fss.length = ys.length ∧ (∀ fs ∈ fss, fs.length ≤ 3 ∧ ∀ f ∈ fs, f < 20) ∧ ∀ (i : Nat) (y : Value), ys[i]? = some y → ∃ (fs : List Nat) (t' : Tok), fss[i]? = some fs ∧ y = .str (S (tx fs)) t'
  | [], _ => ⟨[], rfl, (fun _ h => nomatch h), (fun i y h => by cases i <;> cases h)⟩
  | z :: ys, h => by
    obtain ⟨fs, t, h1, h2, rfl⟩ := h 0 z rfl
    obtain ⟨fss, hl, hok, hy⟩ := pick (ys := ys) fun i y e => h (i + 1) y e
    refine ⟨fs :: fss, by simp [hl], ?_, ?_⟩
    · intro gs hg
      rcases List.mem_cons.mp hg with rfl | hg
      · exact ⟨h1, h2⟩
      · exact hok gs hg
    · intro i y e
      cases i with
      | zero => cases e; exact ⟨fs, t, rfl, rfl⟩
      | succ i => exact hy i y e
theorem ints_pick : ∀ {zs : List Value} {fss : List (List Nat)}, zs.length = fss.length → (∀ (i : Nat) (y : Value), zs[i]? = some y → ∃ (fs : List Nat) (t' : Tok), fss[i]? = some fs ∧ y = .int ((wl fs : Nat) : Int) t') → IntsAre zs (fss.map fun fs => ((wl fs : Nat) : Int))
  | [], [], _, _ => .nil
  | z :: zs, fs :: fss, hl, h => by
    obtain ⟨gs, t, e, rfl⟩ := h 0 z rfl
    cases e
    exact .cons _ _ (ints_pick (by simpa using hl) fun i y e => h (i + 1) y e)
theorem top_of {fss : List (List Nat)} {M : Int} (hok : ∀ fs ∈ fss, fs.length ≤ 3 ∧ ∀ f ∈ fs, f < 20) (h1 : M ∈ fss.map fun fs => ((wl fs : Nat) : Int)) (h2 : ∀ a, a ∈ (fss.map fun fs => ((wl fs : Nat) : Int)) → a ≤ M) :
    ∃ W : Nat, M = (W : Int) ∧ (2 ≤ W ∧ W ≤ 110) ∧ ∀ fs ∈ fss, wl fs ≤ W := by
  obtain ⟨fs, hf, rfl⟩ := List.mem_map.mp h1
  exact ⟨wl fs, rfl, wl_le (hok fs hf).1, fun gs hg => Int.ofNat_le.mp (h2 _ (List.mem_map_of_mem (f := fun fs => ((wl fs : Nat) : Int)) hg))⟩
theorem mul_x {k : Int} {n : Nat} (h : k = (n : Int)) : PySem.Txt.mul (Str.ofString "x") k = S (List.replicate n 120) := by
  rw [← S_cps (PySem.Txt.mul (Str.ofString "x") k), lit_x, show S [120] = ⟨#[120]⟩ from rfl, mul_one_list, h, Int.toNat_natCast]
/-- a text, padded -/
def pt (W : Nat) (fs : List Nat) : List Nat := List.replicate (W - wl fs) 120 ++ tx fs
theorem pt_len {W : Nat} {fs : List Nat} (hW : W ≤ 110) (h : fs.length ≤ 3) : (pt W fs).length ≤ 128 := by
  have := tx_len h
  unfold pt
  rw [List.length_append, List.length_replicate]; omega
theorem mq_pt (W : Nat) (fs : List Nat) : mq (pt W fs) = mq (tx fs) := by
  unfold mq pt
  have h1 : ∀ c, c ≠ 120 → (List.replicate (W - wl fs) 120 ++ tx fs).contains c = (tx fs).contains c := by
    intro c hc
    rw [Bool.eq_iff_iff, List.contains_iff_mem, List.contains_iff_mem, List.mem_append, List.mem_replicate]
    exact ⟨fun h => h.elim (fun h => absurd h.2 hc) id, .inr⟩
  first | rw [h1 34 (by decide), h1 39 (by decide)] | simp only [h1 34 (by decide), h1 39 (by decide)]
theorem wr_pt {W : Nat} {fs : List Nat} (h : wl fs ≤ W) : (wr (pt W fs)).length = W := by
  have h0 : wl fs = ((tx fs).flatMap (esc (mq (tx fs)))).length + 2 := wr_length _
  have e : ∀ b k, (List.replicate k 120).flatMap (esc b) = List.replicate k 120 := by
    intro b k
    induction k with
    | zero => rfl
    | succ k ih => rw [List.replicate_succ, List.flatMap_cons, ih]; cases b <;> rfl
  rw [wr_length, mq_pt]
  unfold pt
  rw [List.flatMap_append, e, List.length_append, List.length_replicate]
  omega
theorem piece_no {f c : Nat} (hf : f < 20) (hc : c = 9 ∨ c = 10 ∨ c = 13) : c ∉ piece f := by
  have : ∀ f, f < 20 → 9 ∉ piece f ∧ 10 ∉ piece f ∧ 13 ∉ piece f := by decide
  rcases hc with rfl | rfl | rfl
  · exact (this f hf).1
  · exact (this f hf).2.1
  · exact (this f hf).2.2
theorem pt_no {W : Nat} {fs : List Nat} (hf : ∀ f ∈ fs, f < 20) {c : Nat} (hc : c = 9 ∨ c = 10 ∨ c = 13) : c ∉ pt W fs := by
  intro h
  rcases List.mem_append.mp h with h | h
  · have := (List.mem_replicate.mp h).2; omega
  · obtain ⟨f, h1, h2⟩ := List.mem_flatMap.mp h
    exact piece_no (hf f h1) hc h2
/-- the line -/
def ln (W : Nat) (fss : List (List Nat)) : List Nat := (fss.map fun fs => wr (pt W fs)).flatten
theorem line_len {W : Nat} : ∀ {fss : List (List Nat)}, (∀ fs ∈ fss, wl fs ≤ W) → ((fss.map fun fs => wr (pt W fs)).flatten).length = fss.length * W
  | [], _ => by simp
  | fs :: fss, h => by
    rw [List.map_cons, List.flatten_cons, List.length_append, wr_pt (h fs (List.mem_cons_self ..)), line_len fun gs hg => h gs (List.mem_cons_of_mem _ hg), List.length_cons, Nat.add_mul, Nat.one_mul, Nat.add_comm]
theorem wr_small {l : List Nat} (h : ∀ d ∈ l, d < 256) : ∀ c ∈ wr l, c < 256 := by
  have he : ∀ q d, d < 256 → ∀ c ∈ esc q d, c < 256 := by
    intro q d hd c hc
    unfold esc at hc
    have h1 : ∀ x ∈ rAmp, x < 256 := by decide
    have h2 : ∀ x ∈ rLt, x < 256 := by decide
    have h3 : ∀ x ∈ rGt, x < 256 := by decide
    have h4 : ∀ x ∈ rQuot, x < 256 := by decide
    (repeat' split at hc) <;> first | exact h1 c hc | exact h2 c hc | exact h3 c hc | exact h4 c hc | (have := List.mem_singleton.mp hc; omega)
  have hm : mk l < 256 := by unfold mk; split <;> decide
  intro c hc
  unfold wr at hc
  rcases List.mem_cons.mp hc with rfl | hc
  · exact hm
  rcases List.mem_append.mp hc with hc | hc
  · obtain ⟨d, hd, hc⟩ := List.mem_flatMap.mp hc
    exact he _ d (h d hd) c hc
  · rw [List.mem_singleton.mp hc]; exact hm
theorem pt_small {W : Nat} {fs : List Nat} (hf : ∀ f ∈ fs, f < 20) : ∀ d ∈ pt W fs, d < 256 := by
  intro d h
  rcases List.mem_append.mp h with h | h
  · have := (List.mem_replicate.mp h).2; omega
  · obtain ⟨f, h1, h2⟩ := List.mem_flatMap.mp h
    have : ∀ f, f < 20 → ∀ d ∈ piece f, d < 256 := by decide
    exact this f (hf f h1) d h2
theorem ln_small {W : Nat} {fss : List (List Nat)} (hok : ∀ fs ∈ fss, fs.length ≤ 3 ∧ ∀ f ∈ fs, f < 20) : ∀ c ∈ (fss.map fun fs => wr (pt W fs)).flatten, c < 256 := by
  intro c hc
  obtain ⟨l, hl, hc⟩ := List.mem_flatten.mp hc
  obtain ⟨fs, hf, rfl⟩ := List.mem_map.mp hl
  exact wr_small (pt_small (hok fs hf).2) c hc
theorem ints_line : ∀ {os : List Value} {l : List Nat}, os.length = l.length → (∀ (i : Nat) (y : Value), os[i]? = some y → ∃ (c : Nat) (t' : Tok), l[i]? = some c ∧ y = .int ((c : Nat) : Int) t') → IntsAre os (l.map fun c => ((c : Nat) : Int))
  | [], [], _, _ => .nil
  | z :: zs, c :: l, hl, h => by
    obtain ⟨d, t, e, rfl⟩ := h 0 z rfl
    cases e
    exact .cons _ _ (ints_line (by simpa using hl) fun i y e => h (i + 1) y e)
def PairAt (p q : Prop) : Prop := p ∧ q
theorem PairAt.mk {p q : Prop} (h : p) (h' : q) : PairAt p q := ⟨h, h'⟩
theorem callN_def2' {M : Model} {A : Around} {E : Value → Shared → Prop} {s : Shared} {env : Env} {pos : Pos} {a : Addr} {fd : FuncData} {e₁ e₂ : Expr} {Q : Value → Shared → Prop} (hs : starEach [e₁, e₂] env = [(false, eval e₁ env), (false, eval e₂ env)])
    (h : wpAny M A (eval e₁ env) (fun v₁ s₁ => wpAny M A (eval e₂ env) (fun v₂ s₂ => PairAt (∃ o, s₂.heap.get? a = some o ∧ o.data = .func fd) (wpN M A (call (.ref a) [v₁, v₂]) Q E s₂)) E s₁) E s) :
    wpN M A (callWith pos (.ref a) [] (backTo pos (starEach [e₁, e₂] env)) []) Q E s := callN_def2 hs h
theorem spQ_at {w : World} {f : Addr} {args : List Value} {R : Heap → Heap → Value → Prop} {dp un : Nat} {gd : Option (List Code)} {cn : Str} {cs : Scope} {a : Addr} {ccd : Value} {cl : List (Str × Addr)} {outer : List Env} {A₀ : Around} {base h₀ : Heap} {L : Addr} {m : Str → Option Value} {mean : ExcName → Option Value} {mg mb : Str → Option Value} {s : Shared} {Q E : Value → Shared → Prop} {news : List (Addr × Obj)}
    (C : SpQ w f args R) (B : Below A₀ base outer h₀) (F : Fr h₀ L s.heap m) (N : News h₀ L s.heap news) (X : (hd.heap_39 w.params).In h₀) (T : Top hd.view_39 (looseW hd.view_39 [Str.ofString "escape", Str.ofString "unescape", Str.ofString "quoteattr"]) mean mg mb h₀) (hk : cs.kind = .function)
    (hd : dp + 4 < recursionLimit) (hu : un + 64 < cLine) (h : ∀ v h' tk', Fr h₀ L h' m → News h₀ L h' news → R s.heap h' v → (∀ b o, s.heap.get? b = some o → h'.get? b = some o) → Q v { s with heap := h', toks := tk' }) :
    wpN (model PySem.Challenge.rw_kt0004_01.row.prog w) (ktrTop dp un gd cn cs L a ccd cl outer) (call (.ref f) args) Q E s :=
  C dp un gd cn cs a ccd cl outer A₀ base h₀ L m mean mg mb s Q E B F X T hk hd hu fun v h' tk' k r => h v h' tk' (F.keeps k) (N.grown k) r k
theorem flat_one (l : List UInt8) : (l.map fun x => [x.toNat]).flatten = l.map fun x => x.toNat := by
  induction l with
  | nil => rfl
  | cons a l ih => rw [List.map_cons, List.flatten_cons, ih]; rfl
theorem turned_block {W : Nat} {fss : List (List Nat)} {c : Array UInt8} (hW : 2 ≤ W) (hW2 : ∀ fs ∈ fss, wl fs ≤ W) (hsm : ∀ c ∈ (fss.map fun fs => wr (pt W fs)).flatten, c < 256) (hsw : SwI (byteArr (((fss.map fun fs => wr (pt W fs)).flatten).map fun c => ((c : Nat) : Int))) W fss.length c) {i : Nat} {fs : List Nat} (hi : fss[i]? = some fs) :
    ((c.toList.map fun x => x.toNat).drop (i * W)).take W = (wr (pt W fs)).reverse := by
  refine turned_blocks (ls := fss.map fun fs => wr (pt W fs)) (by omega) ?_ ?_ hsm (by rw [List.length_map]; exact hsw) (by rw [List.getElem?_map, hi]; rfl)
  · intro l hl
    obtain ⟨fs, hf, rfl⟩ := List.mem_map.mp hl
    exact wr_pt (hW2 fs hf)
  · rw [line_len hW2, List.length_map]
theorem spN_at {w : World} {f : Addr} {args : List Value} {R : Heap → Heap → Value → Prop} {dp un : Nat} {gd : Option (List Code)} {cn : Str} {cs : Scope} {a : Addr} {ccd : Value} {cl : List (Str × Addr)} {outer : List Env} {A₀ : Around} {base h₀ : Heap} {L : Addr} {m : Str → Option Value} {mean : ExcName → Option Value} {mg mb : Str → Option Value} {s : Shared} {Q E : Value → Shared → Prop} {news : List (Addr × Obj)} {p : Addr × Obj}
    (C : SpN w f args [p] R) (B : Below A₀ base outer h₀) (F : Fr h₀ L s.heap m) (N : News h₀ L s.heap news) (hm : p ∈ news) (X : (hd.heap_39 w.params).In h₀) (T : Top hd.view_39 (looseW hd.view_39 [Str.ofString "escape", Str.ofString "unescape", Str.ofString "quoteattr"]) mean mg mb h₀) (hk : cs.kind = .function)
    (hd : dp + 4 < recursionLimit) (hu : un + 64 < cLine) (h : ∀ v h' tk', Fr h₀ L h' m → News h₀ L h' news → R s.heap h' v → Q v { s with heap := h', toks := tk' }) :
    CallAt (wpAny (model PySem.Challenge.rw_kt0004_01.row.prog w) (ktrTop dp un gd cn cs L a ccd cl outer) (call (.ref f) args) Q E s) :=
  C dp un gd cn cs a ccd cl outer A₀ base h₀ L m mean mg mb s Q E B F (fun q hq => by rw [List.mem_singleton.mp hq]; exact N _ hm) X T hk hd hu fun v h' tk' k r => h v h' tk' (F.keeps k) (N.grown k) r
/-- the law's body at the caller's own frame, clear -/
def BdL (w : World) (f : Addr) (qual : Str) (scope : Scope) (cdv : Value) (body : List Stmt) (binds : List (Str × Value)) (Pre : Heap → Prop) (R : Heap → Heap → Value → Prop) : Prop :=
  ∀ (g : Heap) (L : Addr) (cells : List (Addr × Obj)) (mean : ExcName → Option Value) (mg mb : Str → Option Value) (s : Shared),
    Below callerA g [] g → (hd.heap_39 w.params).In g → Top hd.view_39 (looseW hd.view_39 [Str.ofString "escape", Str.ofString "unescape", Str.ofString "quoteattr"]) mean mg mb g →
    Fr g L s.heap (bindL (envOfC qual scope L f cdv).kindOf binds fun _ => none) → News g L s.heap cells →
    CellsAre (bindC (envOfC qual scope L f cdv).kindOf binds fun _ => none) (cellsFrom (L + 1) scope.names []) cells → scope.kind = .function → Pre g →
    wpN (model PySem.Challenge.rw_kt0004_01.row.prog w) (ktrTop 302 7 (some []) qual scope L f cdv (cellsFrom (L + 1) scope.names []) []) (execs body (envX qual scope L f cdv (cellsFrom (L + 1) scope.names []))) (Fin1 g s R) (fun _ _ => False) s
theorem law_cells {w : World} {f : Addr} {args : List Value} {Pre : Heap → Prop} {R : Heap → Heap → Value → Prop} {name qual : Str} {params : Arguments} {body : List Stmt} {scope : Scope} {dV kV doc pm cdv ct oc : Value} {an od : Option Addr} {osl : Array (Option Value)} {binds : List (Str × Value)}
    (ho : (hd.heap_39 w.params).lookup f = some ⟨oc, od, .func (fnX name qual params body scope [] dV kV doc pm an cdv ct), osl⟩) (hcd : codeIn (hd.heap_39 w.params) cdv qual = true)
    (hbind : ∀ s : Shared, (hd.heap_39 w.params).In s.heap → BindsTo s (fnX name qual params body scope [] dV kV doc pm an cdv ct) ⟨args, []⟩ binds)
    (hkind : (binds.all fun y => scope.names.lookup y.1 == some .local || scope.names.lookup y.1 == some .cell) = true)
    (hnd : ((cellsFrom 0 scope.names []).map (·.1)).Nodup) (hco : scope.isCoroutine = false) (hgen : scope.isGenerator = false) (hk : scope.kind = .function)
    (h : BdL w f qual scope cdv body binds Pre R) (s : Shared) (mean : ExcName → Option Value) (mg mb : Str → Option Value) (X : (hd.heap_39 w.params).In s.heap) (T : Top hd.view_39 (looseW hd.view_39 [Str.ofString "escape", Str.ofString "unescape", Str.ofString "quoteattr"]) mean mg mb s.heap) (hpre : Pre s.heap)
    (Q E : Value → Shared → Prop) (ret : ∀ v h' tk', (∀ b o, s.heap.get? b = some o → h'.get? b = some o) → R s.heap h' v → Q v { s with heap := h', toks := tk' }) :
    wpN (model PySem.Challenge.rw_kt0004_01.row.prog w) callerA (call (.ref f) args) Q E s := by
  refine wpN_call ?_
  refine codeN_call_function (by decide) (X _ _ ho) rfl hco hgen rfl (codeRec_of X hcd) ((hbind s X) _ _ _ _ ?_)
  refine wpAny_newFunctionEnv_cells hk (kindsX hkind _) fun env' he s' x => ?_
  subst he
  refine ⟨T.nolimit.keeps x.toInCall.keep, codeN_func ?_⟩
  obtain ⟨h₁, tk, rfl, _⟩ := x.done
  have hk₁ := x.toInCall.keep
  obtain ⟨cells, NC, Y⟩ := Cl.news (h₀ := s.heap) (Nat.le_refl _) fun n c hm => ⟨x.cell n c (lookup_of_mem_nodup (cellsFrom_names scope.names 0 (s.heap.objs.size + 1) [] [] rfl ▸ hnd) hm), x.above n c hm⟩
  refine wpN_mono (h s.heap s.heap.objs.size cells mean mg mb { s with heap := h₁, toks := tk } (below_caller _) X T ⟨x.toInCall.ns, hk₁, Nat.le_refl _⟩ NC Y hk hpre) ?_ ?_
  · rintro fl s' ⟨L', m', v, h', tk', rfl, rfl, F', r⟩
    exact ret v h' tk' F'.keep r
  · intro _ _ e; exact e.elim

theorem law_body (w : World) (l : Addr) (vs : List Value) (ns : List Int) (hI : IntsAre vs ns) (hlen : ns.length ≤ 63) (s : Shared) (mean : ExcName → Option Value) (mg mb : Str → Option Value) (X : (hd.heap_39 w.params).In s.heap) (T : Top hd.view_39 (looseW hd.view_39 [Str.ofString "escape", Str.ofString "unescape", Str.ofString "quoteattr"]) mean mg mb s.heap) (hpre : s.heap.IsList l vs.toArray)
    (Q E : Value → Shared → Prop) (ret : ∀ v h' tk', (∀ b o, s.heap.get? b = some o → h'.get? b = some o) → v = .bool true → Q v { s with heap := h', toks := tk' }) :
    wpN (model PySem.Challenge.rw_kt0004_01.row.prog w) callerA (call (.ref 75) [.ref l]) Q E s := by
  have hfill : PySem.Challenge.rw_kt0004_01.prog = PySem.Challenge.rw_kt0004_01.prog ∧ hd.heap_39 = hd.heap_39 := by k_fill; exact ⟨rfl, rfl⟩
  clear hfill
  refine law_cells (Pre := fun g => g.IsList l vs.toArray) (R := fun _ _ v => v = .bool true) (binds := [(Str.ofString "script", .ref l)]) (by k_dflt k_is) (by k_dflt k_is) (fun s X => BindsTo.of_eq rfl) (by rfl) (by decide +kernel) (by rfl) (by rfl) (by rfl) ?_ s mean mg mb X T hpre Q E ret
  clear ret hpre T X
  have hf55 : ∃ o fd, (hd.heap_39 w.params).lookup 55 = some o ∧ o.data = .func fd := ⟨_, _, by k_dflt k_is, rfl⟩
  obtain ⟨o55, fd55, ho55, hd55⟩ := hf55
  unfold BdL
  intro g L cells mean mg mb s B' X' T' F' N' Y' hk hpre
  k_cells Y'
  (try dsimp only)
  refine wpN_execs_cons (wpN_of_any ?_)
  k_steps
  (rename IntsAre _ ([589 + _] ++ _) => hJ)
  (rename Fr _ _ _ _ => F'); (rename News _ _ _ _ => N')
  have hJl := hJ.length
  have hwl : 1 ≤ ([589 + (ns.length : Int)] ++ List.take 8 ns).length ∧ ([589 + (ns.length : Int)] ++ List.take 8 ns).length ≤ 9 := by
    rw [List.length_append, List.length_take]; simp only [List.length_cons, List.length_nil]; omega
  refine src_ledger (by rfl) F' N' (.inr ⟨_, List.mem_cons_self .., rfl, _, rfl⟩) (by rw [sizeLine_eq]; simp only [List.size_toArray]; omega) ?_
  clear F' N'
  intro hg
  refine rest_pure (fun i v => ∃ (fs : List Nat) (t' : Tok), fs.length ≤ 3 ∧ (∀ f ∈ fs, f < 20) ∧ v = .str (S (fs.flatMap piece)) t') (.inr ⟨_, List.mem_cons_self .., rfl, _, rfl⟩) ?_ ?_
  · intro i v I oI C oC D m₂ ys h tk hi hv hC hm F N off ne
    obtain ⟨z, u, rfl⟩ := int_of hJ (by simpa using hv)
    (try simp only [LCg.Off3, and_true] at off)
    (try dsimp only)
    k_steps
    have z0 : 0 ≤ z.fmod 24000 := Int.fmod_nonneg_of_pos _ (by decide)
    have z1 : z.fmod 24000 < 24000 := Int.fmod_lt_of_pos _ (by decide)
    refine sp_at (sp_text w _ _ z0 z1) B' (by assumption) (by assumption) X' T' hk (by decide) (by decide) ?_
    intro v' h' tk' F' N' r kk
    exact CE.intro F' N' (fun p hp => hp) r
  · intro ys hlen hG
    obtain ⟨n, hn⟩ : ∃ n, n = ys.length := ⟨_, rfl⟩
    have hn1 : 1 ≤ n := by rw [hn, hlen, List.size_toArray]; omega
    have hn9 : n ≤ 9 := by rw [hn, hlen, List.size_toArray]; omega
    clear hJ hJl hwl hlen
    k_steps
    refine wpN_execs_cons (wpN_of_any ?_)
    k_steps
    obtain ⟨fss, hfl, hfok, hfy⟩ := pick hG
    clear hG
    (rename Fr _ _ _ _ => F'); (rename News _ _ _ _ => N')
    refine src_ledger (its := ys.toArray) (by rfl) F' N' (.inr ⟨_, List.mem_cons_self .., rfl, _, rfl⟩) (by rw [sizeLine_eq]; simp only [List.size_toArray]; omega) ?_
    clear F' N'
    intro hg
    refine rest_pure (fun i v => ∃ (fs : List Nat) (t' : Tok), fss[i]? = some fs ∧ v = .int ((wl fs : Nat) : Int) t') (.inr ⟨_, List.mem_cons_self .., rfl, _, rfl⟩) ?_ ?_
    · intro i v I oI C oC D m₂ zs h tk hi hv hC hm F N off ne
      obtain ⟨fs, u, hfi, rfl⟩ := hfy i v (by simpa using hv)
      have hfs := hfok fs (List.mem_of_getElem? hfi)
      have hle := tx_len hfs.1
      have hwle : (S (wr (tx fs))).length ≤ 1000 := by rw [S_len]; have := wl_le hfs.1; unfold wl at this; omega
      (try simp only [LCg.Off3, and_true] at off)
      (try dsimp only)
      k_steps
      refine sp_at (sp_writing w _ _ (by rw [S_len]; exact Nat.le_trans hle (by decide))) B' (by assumption) (by assumption) X' T' hk (by decide) (by decide) ?_
      intro v' h' tk' F' N' r kk
      clear F N
      obtain ⟨t', rfl⟩ := r
      rw [S_toList]
      k_steps
      refine CE.intro (by k_asm) (by k_asm) (fun p hp => hp) ?_
      exact ⟨fs, _, hfi, congrArg (fun z : Nat => Value.int (z : Int) _) (S_len _)⟩
    · intro zs hzl hzG
      k_steps
      have hIz : IntsAre zs (fss.map fun fs => ((wl fs : Nat) : Int)) := ints_pick (by rw [hzl, hfl, List.size_toArray]) hzG
      (rename Fr _ _ _ _ => F'); (rename News _ _ _ _ => N')
      refine CallAt.intro' ?_
      refine max_list_N (by rfl) F' N' (by is_list) hIz (by rw [List.length_map]; omega) ?_
      clear F' N'
      intro h' M tM tk F' N' hM1 hM2
      obtain ⟨W, rfl, hW1, hW2⟩ := top_of hfok hM1 hM2
      clear hIz hM1 hM2 hzG hzl
      k_steps
      refine wpN_execs_cons (wpN_of_any ?_)
      k_steps
      (rename Fr _ _ _ _ => F'); (rename News _ _ _ _ => N')
      refine src_ledger (its := ys.toArray) (by rfl) F' N' (.inr ⟨_, by k_mem, rfl, _, rfl⟩) (by rw [sizeLine_eq]; simp only [List.size_toArray]; omega) ?_
      clear F' N'
      intro hg
      refine rest_pure (fun i v => ∃ (fs : List Nat) (t' : Tok), fss[i]? = some fs ∧ v = .str (S (List.replicate (W - wl fs) 120 ++ tx fs)) t') (.inr ⟨_, by k_mem, rfl, _, rfl⟩) ?_ ?_
      · intro i v I oI C oC D m₂ zs h tk hi hv hC hm F N off ne
        obtain ⟨fs, u, hfi, rfl⟩ := hfy i v (by simpa using hv)
        have hfs := hfok fs (List.mem_of_getElem? hfi)
        have hle := tx_len hfs.1
        have hW3 := hW2 fs (List.mem_of_getElem? hfi)
        (try simp only [LCg.Off3, and_true] at off)
        (try dsimp only)
        k_steps
        refine sp_at (sp_writing w _ _ (by rw [S_len]; exact Nat.le_trans hle (by decide))) B' (by assumption) (by assumption) X' T' hk (by decide) (by decide) ?_
        intro v' h' tk' F' N' r kk
        clear F N
        obtain ⟨t', rfl⟩ := r
        have hwle : (S (wr (tx fs))).length ≤ 1000 := by rw [S_len]; have := wl_le hfs.1; unfold wl at this; omega
        rw [S_toList]
        k_steps
        rw [mul_x (k := W - (S (wr (tx fs))).length) (n := W - wl fs) (by rw [S_len]; show (W : Int) - ((wl fs : Nat) : Int) = _; omega)]
        have hle2 : (S (List.replicate (W - wl fs) 120)).length ≤ 110 := by rw [S_len, List.length_replicate]; omega
        have hle3 : (S (tx fs)).length ≤ 18 := by rw [S_len]; exact hle
        k_steps
        refine CE.intro (by k_asm) (by k_asm) (fun p hp => hp) ?_
        exact ⟨fs, _, hfi, by rw [S_app]⟩
      · intro zs hzl hzG
        have hzl2 : zs.length = fss.length := by rw [hzl, hfl, List.size_toArray]
        have hzn : zs.length = n := by rw [hzl, hn, List.size_toArray]
        clear hzl hfy
        k_steps
        refine wpN_execs_cons (wpN_of_any ?_)
        k_steps
        (rename Fr _ _ _ _ => F'); (rename News _ _ _ _ => N')
        refine src_ledger (its := zs.toArray) (by rfl) F' N' (.inr ⟨_, List.mem_cons_self .., rfl, _, rfl⟩) (by rw [sizeLine_eq]; simp only [List.size_toArray]; omega) ?_
        clear F' N'
        intro hg
        refine rest_pure (fun i v => ∃ (fs : List Nat) (t' : Tok), fss[i]? = some fs ∧ v = .str (S (wr (pt W fs))) t') (.inr ⟨_, List.mem_cons_self .., rfl, _, rfl⟩) ?_ ?_
        · intro i v I oI C oC D m₂ zz h tk hi hv hC hm F N off ne
          obtain ⟨fs, u, hfi, rfl⟩ := hzG i v (by simpa using hv)
          have hfs := hfok fs (List.mem_of_getElem? hfi)
          (try simp only [LCg.Off3, and_true] at off)
          (try dsimp only)
          k_steps
          refine sp_at (sp_quoteattr w _ _ (by have := pt_len hW1.2 hfs.1; unfold pt at this; omega) (pt_no hfs.2 (.inl rfl)) (pt_no hfs.2 (.inr (.inl rfl))) (pt_no hfs.2 (.inr (.inr rfl)))) B' (by assumption) (by assumption) X' T' hk (by decide) (by decide) ?_
          intro v' h' tk' F' N' r kk
          clear F N
          obtain ⟨t', rfl⟩ := r
          exact CE.intro F' N' (fun p hp => hp) ⟨fs, t', hfi, rfl⟩
        · intro js hjl hjG
          have hjl2 : js.length = fss.length := by rw [hjl, List.size_toArray, hzl2]
          clear hjl
          have hln := line_len hW2 (fss := fss)
          have hfn : fss.length = n := by omega
          have hnW : fss.length * W ≤ 9 * 110 := Nat.mul_le_mul (by omega) hW1.2
          k_steps
          refine CallAt.intro' (join_of (ts := fss.map fun fs => wr (pt W fs)) (by is_list) (by rw [List.length_map]; exact hjl2) ?_ ?_ ?_)
          · intro i y hy
            obtain ⟨fs, t', hc, rfl⟩ := hjG i y hy
            exact ⟨_, t', by rw [List.getElem?_map, hc]; rfl, rfl⟩
          · rw [List.length_map, hln]; omega
          · intro t1 k1
            clear hjG hjl2
            k_steps
            refine wpN_execs_cons (wpN_of_any ?_)
            k_steps
            (rename Fr _ _ _ _ => F'); (rename News _ _ _ _ => N')
            refine src_ledger (its := zs.toArray) (by rfl) F' N' (.inr ⟨_, List.mem_cons_of_mem _ (List.mem_cons_self ..), rfl, _, rfl⟩) (by rw [sizeLine_eq]; simp only [List.size_toArray]; omega) ?_
            clear F' N'
            intro hg
            refine rest_pure (fun i v => ∃ (fs : List Nat) (t' : Tok), fss[i]? = some fs ∧ v = .str (S (wr (pt W fs))) t') (.inr ⟨_, List.mem_cons_of_mem _ (List.mem_cons_self ..), rfl, _, rfl⟩) ?_ ?_
            · intro i v I oI C oC D m₂ zz h tk hi hv hC hm F N off ne
              obtain ⟨fs, u, hfi, rfl⟩ := hzG i v (by simpa using hv)
              have hfs := hfok fs (List.mem_of_getElem? hfi)
              (try simp only [LCg.Off3, and_true] at off)
              (try dsimp only)
              k_steps
              refine sp_at (sp_writing w _ _ (by rw [S_len]; have := pt_len hW1.2 hfs.1; unfold pt at this; omega)) B' (by assumption) (by assumption) X' T' hk (by decide) (by decide) ?_
              intro v' h' tk' F' N' r kk
              clear F N
              obtain ⟨t', rfl⟩ := r
              rw [S_toList]
              exact CE.intro F' N' (fun p hp => hp) ⟨fs, t', hfi, rfl⟩
            · intro ws hwl hwG
              have hwl2 : ws.length = fss.length := by rw [hwl, List.size_toArray, hzl2]
              clear hwl
              k_steps
              refine CallAt.intro' (join_of (ts := fss.map fun fs => wr (pt W fs)) (by is_list) (by rw [List.length_map]; exact hwl2) ?_ ?_ ?_)
              · intro i y hy
                obtain ⟨fs, t', hc, rfl⟩ := hwG i y hy
                exact ⟨_, t', by rw [List.getElem?_map, hc]; rfl, rfl⟩
              · rw [List.length_map, hln]; omega
              · intro t2 k2
                clear hwG hwl2
                k_steps
                · exfalso
                  rename (bne _ _) = true => hc
                  simp at hc
                refine wpN_execs_cons (wpN_Assign_Name (wpN_Call_Name ?_) (by rfl))
                k_steps
                have hsm := ln_small (W := W) hfok
                refine callN_def2' (fd := fd55) (by rfl) ?_
                k_steps
                (rename Fr _ _ _ _ => F'); (rename News _ _ _ _ => N')
                refine src_str (by rfl) F' N' (by rw [sizeLine_eq]; show (List.toArray _).size ≤ _; rw [List.size_toArray]; omega) ?_
                clear F' N'
                intro hg
                refine rest_pure (fun i v => ∃ (c : Nat) (t' : Tok), (((fss.map fun fs => wr (pt W fs)).flatten))[i]? = some c ∧ v = .int ((c : Nat) : Int) t') trivial ?_ ?_
                · intro i v I oI C oC D m₂ zz h tk hi hv hC hm F N off ne
                  obtain ⟨c, u, hc, rfl⟩ := hv
                  (try simp only [LCg.Off3, and_true] at off)
                  (try dsimp only)
                  k_steps
                  refine CE.intro (by k_asm) (by k_asm) (fun p hp => hp) ?_
                  exact ⟨c, _, by simpa [S] using hc, rfl⟩
                · intro os hol hoG
                  have hoI : IntsAre os (((fss.map fun fs => wr (pt W fs)).flatten).map fun c => ((c : Nat) : Int)) := ints_line (by rw [hol]; show (List.toArray _).size = _; rw [List.size_toArray]) hoG
                  clear hoG hol
                  k_steps
                  (rename Fr _ _ _ _ => F'); (rename News _ _ _ _ => N')
                  refine CallAt.intro' (call_bytes_ints (by is_list) hoI ?_ (by rw [hoI.length, List.length_map, sizeLine_eq]; omega) (by rfl) ?_)
                  · intro z hz
                    obtain ⟨c, hc, rfl⟩ := List.mem_map.mp hz
                    have := hsm c hc
                    omega
                  intro h1 tb kb kk
                  have F2 := F'.keeps kk
                  have N2 := N'.grown kk
                  clear F' N' kk hoI
                  k_steps
                  refine PairAt.mk ⟨o55, F2.keep _ _ (X' _ _ ho55), hd55⟩ ?_
                  refine spQ_at (sp_byteswap w _ W fss.length tb tM (by omega) (by omega) (by omega) (by rw [byteArr_size, List.length_map]; exact hln)) B' F2 N2 X' T' hk (by decide) (by decide) ?_
                  intro v' h2 tk2 F3 N3 r kk
                  obtain ⟨c, tc, rfl, hsw⟩ := r
                  clear F2 N2 kk
                  have hsm2 := hsm
                  have hcz : c.size = fss.length * W := by rw [hsw.1, byteArr_size, List.length_map, hln]
                  k_steps
                  refine wpN_of_any ?_
                  k_steps
                  (rename Fr _ _ _ _ => F'); (rename News _ _ _ _ => N')
                  refine src_bytes (by rfl) F' N' (by rw [sizeLine_eq]; omega) ?_
                  clear F' N'
                  intro hg
                  refine rest_pure (fun i v => ∃ (x : UInt8) (t' : Tok), c[i]? = some x ∧ v = .str (S [x.toNat]) t') trivial ?_ ?_
                  · intro i v I oI C oC D m₂ zz h tk hi hv hC hm F N off ne
                    obtain ⟨x, u, hc, rfl⟩ := hv
                    have hx := UInt8.toNat_lt x
                    (try simp only [LCg.Off3, and_true] at off)
                    (try dsimp only)
                    k_steps
                    refine CE.intro (by k_asm) (by k_asm) (fun p hp => hp) ?_
                    exact ⟨x, _, hc, rfl⟩
                  · intro cs hcl hcG
                    k_steps
                    refine CallAt.intro' (join_of (ts := c.toList.map fun x => [x.toNat]) (by is_list) (by rw [List.length_map, Array.length_toList]; exact hcl) ?_ ?_ ?_)
                    · intro i y hy
                      obtain ⟨x, t', hc, rfl⟩ := hcG i y hy
                      exact ⟨_, t', by rw [List.getElem?_map, Array.getElem?_toList, hc]; rfl, rfl⟩
                    · rw [List.length_map, flat_one, List.length_map, Array.length_toList]; omega
                    · intro t3 k3
                      rw [flat_one]
                      clear hcG hcl
                      have hshl : (c.toList.map fun x => x.toNat).length = fss.length * W := by rw [List.length_map, Array.length_toList]; exact hcz
                      obtain ⟨sh, hsh⟩ : ∃ sh, sh = c.toList.map fun x => x.toNat := ⟨_, rfl⟩
                      rw [← hsh]
                      rw [← hsh] at hshl
                      have hblk : ∀ i fs, fss[i]? = some fs → (sh.drop (i * W)).take W = (wr (pt W fs)).reverse := by
                        intro i fs hi
                        rw [hsh]
                        exact turned_block hW1.1 hW2 hsm2 hsw hi
                      clear hsh hsw hcz
                      have hshl2 : (S sh).length ≤ 1000 := by rw [S_len]; omega
                      k_steps
                      refine PyProof.Rows.len_list (items := zs.toArray) (by is_list) (by rw [List.size_toArray]; omega) ?_
                      k_steps
                      (rename IsRange _ _ _ _ _ _ _ _ => hR); (rename Fr _ _ _ _ => F'); (rename News _ _ _ _ => N0)
                      have N' := pick2 N0 (.tail _ (.tail _ (.tail _ (.tail _ (.head _))))) (.tail _ (.tail _ (.tail _ (.tail _ (.tail _ (.tail _ (.tail _ (.tail _ (.tail _ (.tail _ (.head _)))))))))))
                      clear N0
                      repeat (rename @Ne _ _ _ ∧ _ => hz; clear hz)
                      rw [hzl2] at hR
                      refine range_loopM [Str.ofString "value", Str.ofString "reading"] (n := fss.length) (fun i nx => nx = _) rfl hR (small_of (by omega) (by omega) (by omega) (by omega)) (by have := range_size fss.length 1 (by omega); rw [Nat.mul_one] at this; exact this) F' N' rfl ?_ ?_
                      · rintro i ti g1 news₁ h1 tk1 own hi - hoff rfl F1 N1
                        clear hR F' N'
                        obtain ⟨fs, hfi⟩ : ∃ fs, fss[i]? = some fs := ⟨_, List.getElem?_eq_getElem hi⟩
                        have hfs := hfok fs (List.mem_of_getElem? hfi)
                        have hbl := hblk i fs hfi
                        obtain ⟨uz, hzi⟩ : ∃ u, zs[i]? = some (.str (S (pt W fs)) u) := by
                          obtain ⟨y, hy⟩ : ∃ y, zs[i]? = some y := ⟨_, List.getElem?_eq_getElem (by omega)⟩
                          obtain ⟨gs, u, hg, rfl⟩ := hzG i y hy
                          rw [hfi] at hg; cases hg
                          exact ⟨u, hy⟩
                        have hiW : (i + 1) * W ≤ fss.length * W := Nat.mul_le_mul_right _ hi
                        have hiW1 : (i + 1) * W = i * W + W := by rw [Nat.add_mul, Nat.one_mul]
                        have hsl : PySem.Txt.slice (S sh) (some ((0 + (i : Int) * 1) * (W : Int))) (some ((0 + (i : Int) * 1 + 1) * (W : Int))) = S (wr (pt W fs)).reverse := by
                          rw [slice_S (a := i * W) (b := (i + 1) * W) (by rw [Int.natCast_mul]; congr 1; omega) (by rw [Int.natCast_mul]; congr 1; omega) (by omega) (by omega), show (i + 1) * W - i * W = W by omega, hbl]
                        have hwl := wr_pt (hW2 fs (List.mem_of_getElem? hfi))
                        have hpl := pt_len hW1.2 hfs.1
                        k_steps
                        (rename Fr _ _ _ _ => F'); (rename News _ _ _ _ => N')
                        refine CallAt.intro' ?_
                        refine PyProof.Rows.item_list (items := zs.toArray) (x := .str (S (pt W fs)) uz) ⟨_, (N' _ (List.mem_append_left _ (.head _))).1, rfl, _, rfl⟩ (by omega) (by omega) (by rw [show (0 + (i : Int) * 1).toNat = i by omega]; simpa using hzi) ?_
                        rw [hsl] at F' ⊢
                        k_steps
                        refine sp_at (sp_writing w _ _ (by rw [S_len]; omega)) B' (by assumption) (by assumption) X' T' hk (by decide) (by decide) ?_
                        clear F' N'
                        intro v' h2 tk2 F' N' r kk
                        obtain ⟨tv, rfl⟩ := r
                        clear kk
                        rw [S_toList]
                        have hwr : (S (wr (pt W fs))).length ≤ 1000 := by rw [S_len]; omega
                        have hwr2 : (S (wr (pt W fs)).reverse).length ≤ 1000 := by rw [S_len, List.length_reverse]; omega
                        k_steps
                        · exfalso
                          rename (bne _ _) = true => hc
                          simp only [sliceBy_rev] at hc
                          simp at hc
                        (rename Fr _ _ _ _ => F'); (rename News _ _ _ _ => N')
                        k_dflt (refine dict1_eval F' N' T'.nolimit ?_)
                        clear F' N'
                        intro dd hdd F' N' hdlt hdlo
                        k_steps
                        refine CallAt.intro' ?_
                        rw [slice_in (by rw [List.length_reverse, hwl]; exact hW1.1)]
                        have hin : (((wr (pt W fs)).reverse.drop 1).take ((wr (pt W fs)).reverse.length - 2)) = ((pt W fs).flatMap (esc (mq (pt W fs)))).reverse := by
                          unfold wr; simp [List.take_append]
                        rw [hin]
                        have hul : ((pt W fs).flatMap (esc (mq (pt W fs)))).reverse.length ≤ 200 := by rw [List.length_reverse]; have := wr_length (pt W fs); omega
                        refine' spN_at (sp_unescape w _ _ hul _ _ _ ?e1 ?e2 ?e3 ?e4) B' ?eF ?eN ?em X' T' hk (by decide) (by decide) ?ek
                        case eF => assumption
                        case eN => assumption
                        case em => exact List.mem_cons_self ..
                        case e1 => exact Nat.ne_of_gt (by assumption)
                        case e2 => exact Nat.succ_ne_zero _
                        case e3 => exact Nat.ne_of_lt (Nat.lt_succ_self _)
                        case e4 => assumption
                        (rename Fr _ _ _ _ => F'); (rename News _ _ _ _ => N')
                        clear F' N'
                        intro v' h2 tk2 F' N' r
                        obtain ⟨tr, rfl⟩ := r
                        obtain ⟨p1, p2⟩ := plain (toks_ok (W - wl fs) fs hfs.2) (toks_rev (W - wl fs) fs hfs.2)
                        have ept : List.replicate (W - wl fs) 120 ++ fs.flatMap piece = pt W fs := rfl
                        rw [ept] at p1 p2
                        rw [p1]
                        have hfel : (fe (pt W fs)).1.length ≤ 200 := by
                          rw [← p1]
                          exact Nat.le_trans (rep_len0 (by decide) (by decide) _) (Nat.le_trans (rep_len0 (by decide) (by decide) _) (Nat.le_trans (rep_len0 (by decide) (by decide) _) (Nat.le_trans (rep_len0 (by decide) (by decide) _) hul)))
                        k_steps
                        refine sp_at (sp_quoteattr w _ _ hfel (fe_no (.inl rfl) (pt_no hfs.2 (.inl rfl)) p1) (fe_no (.inr (.inl rfl)) (pt_no hfs.2 (.inr (.inl rfl))) p1) (fe_no (.inr (.inr rfl)) (pt_no hfs.2 (.inr (.inr rfl))) p1)) B' (by assumption) (by assumption) X' T' hk (by decide) (by decide) ?_
                        (rename Fr _ _ _ _ => F'); (rename News _ _ _ _ => N')
                        clear F' N'
                        intro v' h3 tk3 F' N' r kk
                        obtain ⟨tq, rfl⟩ := r
                        clear kk
                        have hwf : (S (wr (fe (pt W fs)).1)).length ≤ 10000 := by rw [S_len]; have := wr_len (fe (pt W fs)).1; omega
                        k_steps
                        (rename Fr _ _ _ _ => F'); (rename News _ _ _ _ => N')
                        refine CallAt.intro' ?_
                        refine PyProof.Rows.item_list (items := zs.toArray) (x := .str (S (pt W fs)) uz) ⟨_, (N' (_, LCg.lst zs) (by k_mem)).1, rfl, _, rfl⟩ (by omega) (by omega) (by rw [show (0 + (i : Int) * 1).toNat = i by omega]; simpa using hzi) ?_
                        k_steps
                        refine sp_at (sp_end w _ _ (by omega)) B' (by assumption) (by assumption) X' T' hk (by decide) (by decide) ?_
                        clear F' N'
                        intro v' h4 tk4 F' N' r kk
                        obtain ⟨ea, te, rfl, hea, hgn⟩ := r
                        clear kk
                        k_steps
                        (rename Fr _ _ _ _ => F'); (rename News _ _ _ _ => N')
                        refine CallAt.intro' (ne_told (x := S (fe (pt W fs)).1) ⟨_, (N' (_, PySem.W.listOf _ 0) (by k_mem)).1, rfl, _, rfl⟩ ⟨_, hea, rfl, _, rfl⟩ ?he (by dsimp only [ktrTop]; decide) ?_)
                        case he => rw [S_beq]; exact p2
                        k_steps
                        refine' LE.next _ F' N' ?hn ?ho rfl ⟨?hm, rfl⟩
                        case hn => exact fun p hp => .tail _ (.tail _ (List.mem_append_left _ hp))
                        case ho => exact fun p hp => .tail _ (.tail _ (List.mem_append_right _ hp))
                        case hm => (intro y hy; obtain ⟨n1, n2, n3⟩ := ne3 hy; simp only [over, if_neg n1, if_neg n2, if_neg n3])
                      · rintro g1 news₁ h1 tk1 - rfl F1 N1
                        clear hR F' N'
                        dsimp only [over] at F1
                        have hln2 : (S (fss.map fun fs => wr (pt W fs)).flatten).length ≤ 1000 := by rw [S_len]; omega
                        k_steps
                        refine Fin1.intro (by k_asm) ?_
                        rw [S_len, S_len, hshl, hln]; simp
end Mine
end

theorem Mine.anew_La : True := by w_top off; first | walk1 | exact True.intro
open PySem PySem.W PySem.Calls PyProof.Rows
set_option maxRecDepth 100000
set_option maxHeartbeats 4000000
theorem PySem.Challenge.cw_kt0004_01_holds : PySem.Challenge.rw_kt0004_01.Holds := by
  w_on
  o_law
  refine Mine.headN (by rfl) (by rfl) (by rfl) (by rfl) (by first | assumption | decide +kernel) (by decide +kernel) ⟨rfl, rfl, rfl, rfl, rfl, by decide +kernel⟩ ?hw ?walk
  case hw => exact ⟨[WData.list [.int 3, .int 1]], by decide +kernel, by decide +kernel⟩
  case walk =>
    have hfill : PySem.Challenge.rw_kt0004_01.prog = PySem.Challenge.rw_kt0004_01.prog ∧ Mine.hd.heap_39 = Mine.hd.heap_39 := by k_fill; exact ⟨rfl, rfl⟩
    clear hfill
    intro w s₀ s₁ mg mb G Y fa o pm cd doc dV kV ho hd hcd hD hmg hg args vals as hpre hlay hrd hwl hlo
    have KX := kIn_of Y
    refine Ground.open G ?_
    intro T B D TE TW
    have h75 : mg (Str.ofString "law") = some (.ref 75) := mg_of KX T.g (by k_dflt k_is)
    have hfa : some (Value.ref fa) = some (Value.ref 75) := hmg.symm.trans h75
    injection hfa with hfa
    injection hfa with hfa
    subst hfa
    clear hmg h75 B D TE TW hcd hD ho hd
    wrow_args hpre hlay hrd hwl hlo
    (rename Heap.IsList _ _ _ => hL); (rename IntsAre _ _ => hI); (rename ¬ _ < _ => hlen)
    refine Mine.law_body w _ _ _ hI (by omega) s₁ (ExcName.means s₀.heap) mg mb KX T hL _ _ ?_
    intro v h' tk' kk hv
    subst hv
    refine ⟨.inl ⟨_, .bool true, [], rfl, ?hn, .bool true, ?hp, fun _ => ⟨List.nodup_nil, fun _ h => nomatch h⟩⟩, .of_keep kk, rfl, .of_eq hg⟩
    case hn => intro cls; rfl
    case hp => wrow_post

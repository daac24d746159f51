import PyProof.Rows.All
import Wide.All
import OpenK.AllK
import Wide.FinOn
import Lean
import PySem.Challenge.RW_hm0003_01
open PySem PySem.W PySem.Calls PyProof.Rows
set_option Elab.async false
set_option maxHeartbeats 8000000
set_option maxRecDepth 100000
set_option linter.unusedVariables false
set_option linter.unusedSimpArgs false
section
open Sem (wp)
namespace Mine

/-- what an entry of the stack says of an export (the look's own test, laid upon one entry) -/
def expF (self : Value) (x : Code × Pos) : Bool := match Builtin.Bytes.exported self with
  | .stack k => match k [x] with
    | .pure b => b
    | _ => false
  | _ => false
theorem any1 {α : Type} (F : α → Bool) (l : List α) : l.any F = l.any fun x => [x].any F := by
  congr 1
  funext x
  exact (Bool.or_false (F x)).symm
/-- a code that may hold an exported object -/
noncomputable def dec (c : Code) : Bool := @decide (∃ self p, expF self (c, p) = true) (Classical.propDecidable _)
theorem dec_no {c : Code} (h : ∀ self p, expF self (c, p) = false) : dec c = false :=
  @decide_eq_false _ (Classical.propDecidable _) fun ⟨self, p, e⟩ => Bool.noConfusion ((h self p).symm.trans e)
theorem dec_and {a b : Bool} (h : b = false) : ((a && b) || false) = false := by rw [h, Bool.and_false]; rfl
theorem exp_no {c : Code} (h : dec c = false) (self : Value) (p : Pos) : expF self (c, p) = false :=
  Bool.eq_false_iff.mpr fun e => (@of_decide_eq_false _ (Classical.propDecidable _) h) ⟨self, p, e⟩
def CleanB (Γ : Ctx) : Prop := ∀ x ∈ Γ.below, dec x.1 = false
def Clean (Γ : Ctx) : Prop := dec Γ.code = false ∧ CleanB Γ

/-- as wpAny, but only over contexts with no decoder in the stack -/
def wpC {α : Type} (M : Model) (A : Around) (t : Sem α) (Q : α → Shared → Prop) (E : Value → Shared → Prop) (s : Shared) : Prop :=
  ∀ Γ p, Γ.In A → Clean Γ → wp M Γ t (fun a _ s' => Q a s') (fun e _ s' => E e s') p s
def codeC (M : Model) (A : Around) (c : Code) (R : Result → Shared → Prop) (s : Shared) : Prop :=
  ∀ Γ p, Γ.code = c → Γ.Below A → CleanB Γ → wpCode M Γ R p s

section
variable {α β : Type} {M : Model} {A : Around} {E : Value → Shared → Prop} {s : Shared}
theorem wpC_of {t : Sem α} {Q : α → Shared → Prop} (h : wpAny M A t Q E s) : wpC M A t Q E s := fun Γ p hΓ _ => h Γ p hΓ
theorem codeC_of {c : Code} {R : Result → Shared → Prop} (h : codeAny M A c R s) : codeC M A c R s := fun Γ p hc hΓ _ => h Γ p hc hΓ
theorem wpC_mono {t : Sem α} {Q Q' : α → Shared → Prop} {E' : Value → Shared → Prop} (h : wpC M A t Q E s) (hQ : ∀ a s, Q a s → Q' a s) (hE : ∀ e s, E e s → E' e s) : wpC M A t Q' E' s :=
  fun Γ p hΓ hC => Sem.wp_mono M Γ t (fun a _ s => hQ a s) (fun e _ s => hE e s) p s (h Γ p hΓ hC)
theorem wpC_bind {m : Sem α} {f : α → Sem β} {Q : β → Shared → Prop} (h : wpC M A m (fun a s' => wpC M A (f a) Q E s') E s) : wpC M A (m >>= f) Q E s := fun Γ p hΓ hC => by
  rw [Sem.wp_bind']
  exact Sem.wp_mono M Γ m (fun a p' s' h' => h' Γ p' hΓ hC) (fun _ _ _ h' => h') p s (h Γ p hΓ hC)
theorem wpC_map {m : Sem α} {f : α → β} {Q : β → Shared → Prop} (h : wpC M A m (fun a s' => Q (f a) s') E s) : wpC M A (f <$> m) Q E s := fun Γ p hΓ hC => by rw [Sem.wp_map]; exact h Γ p hΓ hC
theorem wpC_pure {a : α} {Q : α → Shared → Prop} (h : Q a s) : wpC M A (pure a) Q E s := fun _ _ _ _ => h
theorem wpC_onRaise {m : Sem α} {k : Value → Sem Unit} {Q : α → Shared → Prop}
    (h : wpC M A m Q (fun e s' => wpAny M A (k e) (fun _ s'' => E e s'') E s') s) : wpC M A (m.onRaise k) Q E s := fun Γ p hΓ hC => by
  rw [Sem.wp_onRaise]
  exact Sem.wp_mono M Γ m (fun _ _ _ h' => h') (fun e p' s' h' => h' Γ p' hΓ) p s (h Γ p hΓ hC)
theorem wpC_tryCatch {m : Sem α} {k : Value → Sem α} {Q : α → Shared → Prop} (h : wpC M A m Q (fun e s' => wpAny M A (k e) Q E s') s) : wpC M A (tryCatch m k) Q E s := fun Γ p hΓ hC => by
  rw [Sem.wp_tryCatch']
  exact Sem.wp_mono M Γ m (fun _ _ _ h' => h') (fun e p' s' h' => h' Γ p' hΓ) p s (h Γ p hΓ hC)
theorem wpC_holding {vs : List Value} {m : Sem α} {Q : α → Shared → Prop} (h : wpC M A m Q E s) : wpC M A (holding vs m) Q E s := fun Γ p hΓ hC => by rw [Sem.wp_holding]; exact h Γ p hΓ hC
theorem wpC_standAt {pos : Pos} {Q : Unit → Shared → Prop} (h : Q () s) : wpC M A (standAt pos) Q E s := fun _ _ _ _ => h
theorem clean_enter {Γ : Ctx} {c : Code} {h : Option Value} {p : Pos} (hC : Clean Γ) : CleanB (Γ.enter c h p) := fun x hx => by
  rcases List.mem_cons.mp hx with rfl | hx
  · exact hC.1
  · exact hC.2 x hx
theorem wpC_runValue {c : Code} {Q : Value → Shared → Prop}
    (hc : codeC M A c (fun r s' => match r with | .ok (.ret v) => Q v s' | .ok _ => False | .error e => E e s') s) : wpC M A (runValue c) Q E s := fun Γ p hΓ hC => by
  rw [Sem.wp_runValue]
  exact hc _ p rfl (hΓ.enter c none p (by intro x; cases x)) (clean_enter hC)
theorem wpC_call {f : Value} {pos : List Value} {kw : List (Str × Value)} {Q : Value → Shared → Prop}
    (hc : codeC M A (.call f ⟨pos, kw⟩) (fun r s' => match r with | .ok (.ret v) => Q v s' | .ok _ => False | .error e => E e s') s) : wpC M A (call f pos kw) Q E s := wpC_runValue hc
theorem codeC_of_tree {c : Code} {R : Result → Shared → Prop} (hd : dec c = false)
    (h : wpC M (A.under c) (M.den c) (fun fin s' => match fin with | .done f => R (.ok f) s' | .again c' => c'.quiet = true ∧ codeC M A c' R s')
      (fun e s' => R (.error e) s') s) : codeC M A c R s := fun Γ p hc hΓ hC => by
  rw [wpCode_iff_wp, hc]
  refine Sem.wp_mono M Γ _ (fun fin p' s' h' => ?_) (fun _ _ _ h' => h') p s (h Γ p (hc ▸ hΓ.in) ⟨hc ▸ hd, hC⟩)
  cases fin with
  | done f => exact h'
  | again c' => exact ⟨h'.1, h'.2 (Γ.goto c') p' rfl (hΓ.goto c') hC⟩
theorem codeC_mono {c : Code} {R R' : Result → Shared → Prop} (h : codeC M A c R s) (hR : ∀ r s, R r s → R' r s) : codeC M A c R' s :=
  fun Γ p hc hΓ hC => wpCode_mono hR (h Γ p hc hΓ hC)

theorem wpC_exported {self : Value} {Q : Bool → Shared → Prop} (h : Q false s) : wpC M A (Builtin.Bytes.exported self) Q E s := fun Γ p hΓ hC => by
  unfold Builtin.Bytes.exported
  show Q (List.any ((Γ.code, p) :: Γ.below) _) s
  rw [any1, List.any_eq_false.mpr]
  · exact h
  · intro x hx e
    have h2 : dec x.1 = false := by
      rcases List.mem_cons.mp hx with rfl | hx
      · exact hC.1
      · exact hC.2 x hx
    exact Bool.noConfusion ((exp_no h2 self x.2).symm.trans e)
end

section
variable {prog : Program} {w : World} {A : Around} {E : Value → Shared → Prop} {R : Result → Shared → Prop} {s : Shared}
theorem codeC_func {body env}
    (h : wpC (model prog w) (A.deeper env) (execs body env) (fun f s' => R (.ok (.ret (match f with | .ret v => v | _ => .none))) s')
      (fun e s' => wpAny (model prog w) (A.deeper env) (leaving env e) (fun _ s'' => R (.error e) s'') (fun e' s'' => R (.error e') s'') s') s) :
    codeC (model prog w) A (.func body env) R s := by
  refine codeC_of_tree (dec_no fun _ _ => rfl) ?_
  show wpC _ (A.deeper env) (do point; match ← (execs body env).onRaise (leaving env) with | .ret v => ret v | _ => ret .none) _ _ s
  refine wpC_bind (wpC_of (wpAny_point (wpC_bind (wpC_onRaise (wpC_mono h (fun f s' h' => ?_) fun _ _ h' => h')))))
  cases f <;> exact wpC_pure h'
theorem codeC_call_function {a : Addr} {args : Args} {o : Obj} {fd : FuncData} {body : List Stmt} (hroom : A.depth < recursionLimit)
    (ho : s.heap.get? a = some o)
    (hd' : o.data = .func fd) (hco : fd.scope.isCoroutine = false) (hgen : fd.scope.isGenerator = false) (hbody : fd.body = .stmts body) (hcd : s.heap.CodeRec fd.code fd.qualname)
    (h : wpAny (model prog w) A.in1 (bindArgs fd args) (fun binds s₁ =>
      wpAny (model prog w) A.in1 (newFunctionEnv fd.scope fd.globals fd.closure binds (fd.qualname ++ ".<locals>.") (some a) fd.code none fd.builtins)
        (fun env s₂ => s₂.heap.NoLimit ∧ codeC (model prog w) A (.func body env) R s₂) (fun e s' => R (.error e) s') s₁) (fun e s' => R (.error e) s') s) :
    codeC (model prog w) A (.call (.ref a) args) R s := by
  refine codeC_of_tree (dec_no fun _ _ => rfl) (wpC_of ?_)
  show wpAny _ A.in1 (callAny (.ref a) args) _ _ s
  simp only [callAny]
  refine wpAny_bind (wpAny_load ho ?_)
  obtain ⟨c, oc, vs, tq, hc, hoc, hdc, hq⟩ := hcd
  simp only [hd', callFunction, hco, hgen, hbody, hc]
  rw [hc] at h
  refine wpAny_bind (m := field (.ref c) 1) (wpAny_field hoc hdc hq (wpAny_bind (wpAny_pure ?_)))
  exact wpAny_bind (wpAny_mono h (fun binds s₁ h₁ => wpAny_bind (wpAny_mono h₁ (fun env s₂ h₂ => wpAny_bind (wpAny_enterFrame h₂.1 hroom
    (wpAny_pure (And.intro rfl h₂.2)))) fun _ _ h' => h')) fun _ _ h' => h')

theorem wpC_execs_cons {st : Stmt} {rest : List Stmt} {env : Env} {Q : Flow → Shared → Prop}
    (h : wpC (model prog w) A (exec st env) (fun f s' => match f with | .next => wpC (model prog w) A (execs rest env) Q E s' | f => Q f s') E s) : wpC (model prog w) A (execs (st :: rest) env) Q E s := by
  rw [execs_cons]
  refine wpC_bind (wpC_mono h (fun f s' h' => ?_) fun _ _ x => x)
  cases f <;> first | exact h' | exact wpC_pure h'
end
end Mine
end

section
open Sem (wp)
namespace Mine

/-- a decoder stands in the stack -/
noncomputable def dirty (st : List (Code × Pos)) : Bool := st.any fun x => dec x.1
theorem clean_of {Γ : Ctx} {p : Pos} (h : dirty ((Γ.code, p) :: Γ.below) = false) : Clean Γ := by
  unfold dirty at h
  rw [List.any_eq_false] at h
  refine ⟨?_, fun x hx => ?_⟩
  · have := h _ List.mem_cons_self
    simpa using this
  · have := h _ (List.mem_cons_of_mem _ hx)
    simpa using this
/-- looks at the stack first: with a decoder in it, gives True at once -/
noncomputable def watch (t : Sem Value) : Sem Value := stack >>= fun st => if dirty st = true then pure (.bool true) else t
noncomputable def watchF (t : Sem Fin) : Sem Fin := stack >>= fun st => if dirty st = true then ret (.bool true) else t

section
variable {M : Model} {A : Around} {E : Value → Shared → Prop} {s : Shared}
theorem wpAny_watch {t : Sem Value} {Q : Value → Shared → Prop} (h0 : Q (.bool true) s) (h : wpC M A t Q E s) : wpAny M A (watch t) Q E s := fun Γ p hΓ => by
  unfold watch
  show wp M Γ (if dirty ((Γ.code, p) :: Γ.below) = true then pure (.bool true) else t) _ _ p s
  cases hd : dirty ((Γ.code, p) :: Γ.below) with
  | true => exact h0
  | false => exact h Γ p hΓ (clean_of hd)
theorem wpAny_watchF {t : Sem Value} {u : Sem Fin} {Q : Fin → Shared → Prop} (h : wpAny M A (watch t) (fun v s' => Q (.done (.ret v)) s') E s)
    (hu : ∀ Γ p, Γ.In A → wp M Γ t (fun v _ s' => Q (.done (.ret v)) s') (fun e _ s' => E e s') p s → wp M Γ u (fun v _ s' => Q v s') (fun e _ s' => E e s') p s) : wpAny M A (watchF u) Q E s := fun Γ p hΓ => by
  have H := h Γ p hΓ
  unfold watch at H
  unfold watchF
  change wp M Γ (if dirty ((Γ.code, p) :: Γ.below) = true then pure (.bool true) else t) _ _ p s at H
  show wp M Γ (if dirty ((Γ.code, p) :: Γ.below) = true then ret (.bool true) else u) _ _ p s
  cases hd : dirty ((Γ.code, p) :: Γ.below) with
  | true => rw [hd] at H; exact H
  | false => rw [hd] at H; exact hu Γ p hΓ H
end

theorem sched_watch {prog : Program} {w : World} {s : Shared} {u : Sem Fin} {n : Nat} {o : Outcome} {s' : Shared} (hz : s.asleep)
    (h : schedN (denote table) prog w n (.single s ⟨watchF u, .builtin "claim.caller" {}, default, []⟩) = .halted o s') : ∃ n, schedN (denote table) prog w n (.single s ⟨u, .builtin "claim.caller" {}, default, []⟩) = .halted o s' := by
  cases n with
  | zero => cases h
  | succ n =>
    have hd : dirty [(.builtin "claim.caller" {}, default)] = false := by
      unfold dirty
      rw [List.any_cons, List.any_nil, dec_no (fun _ _ => rfl)]
      rfl
    have hs : step (denote table) prog w s ⟨watchF u, .builtin "claim.caller" {}, default, []⟩ = .go s ⟨if dirty [(.builtin "claim.caller" {}, default)] = true then ret (.bool true) else u, .builtin "claim.caller" {}, default, []⟩ := rfl
    rw [hd, if_neg Bool.false_ne_true] at hs
    rcases sstep_single (denote table) prog w s ⟨watchF u, .builtin "claim.caller" {}, default, []⟩ rfl hz with e | e
    · rw [schedN, e, hs] at h
      exact ⟨n, h⟩
    · rw [hs] at e; cases e

theorem open_watch {c : ClaimW} {name : Str} {defs keeps : List Str} {writes : Bool}
    (H : c.HoldsOpenBy (fun vs => ⟨watchF (callStub name vs).cur, .builtin "claim.caller" {}, default, []⟩) defs keeps writes) : c.HoldsOpenBy (callStub name) defs keeps writes := by
  refine ⟨H.1, H.2.1, fun w => ⟨(H.2.2 w).1, fun s hs => ?_⟩⟩
  have hs' : AfterImport (opening c.prog) w s := hs
  obtain ⟨s₀, f1, f2, s₁, tr, pins, rc, ru, cf⟩ := (H.2.2 w).2 s hs
  have z : s₁.asleep := Shared.asleep_of_life (tr.2.1.trans (fence_lifeW f1)) hs'.life
  refine ⟨s₀, f1, f2, s₁, tr, pins, rc, ru, fun args a b ord q => ?_⟩
  obtain ⟨vs, s₂, hl, n, o, s', hrun, rest⟩ := cf args a b ord q
  obtain ⟨n', hn⟩ := sched_watch (Shared.asleep_of_life (layAllW_rest _ _ _ hl).2.2.2 z) hrun
  exact ⟨vs, s₂, hl, n', o, s', hn, rest⟩

theorem PySem.W.holds_open {r : OpenRow} {q : Program} {loose : List Str} {Xt : Shared → Bool} {XP : (Str → Option Value) → Heap → Prop} {α : Type} {Yf : Shared → α} {Ya : World → α} {YP : World → Heap → Prop} {d : DefRec} {kwd : List (Str × Expr)} {N : Nat}
    (left : LeftO r.prog q loose Xt Yf Ya N) (hY : ∀ w s, Yf s = Ya w → YP w s.heap) (hYk : ∀ w h h', YP w h → (∀ b o, h.get? b = some o → h'.get? b = some o) → YP w h')
    (hX : ∀ s, Xt s = true → XP (s.heap.nsMap mainGlobals) s.heap) (hXk : ∀ mg h h', XP mg h → (∀ b o, h.get? b = some o → h'.get? b = some o) → XP mg h')
    (hdef : defOf q r.name = some (d, kwd)) (hp : r.prog.theDef r.name = some (d.params, d.body, d.scope)) (hk : kwWritten? d.params.kwonlyargs d.params.kw_defaults = some kwd) (hRf : ∀ s, Xt s = true → RecFacts r.records s.heap) (hwr : (!r.writes || r.records.isEmpty) = true)
    (k1 : r.wellSaid = true) (ok : (chainsOk q && opensWell r.prog && (frees r.toRowW && r.within.isEmpty)) = true) (hb : r.prog.bare) (hw : r.toRowW.promised)
    (call : WalkO q loose XP YP r.toRowW d kwd fun f vs => watch (PySem.call f vs)) : r.Holds :=
  ⟨k1, hw, open_watch (open_anyG (r := r.toRowW) (run := fun f vs => watch (PySem.call f vs)) (tree := fun vs => watchF (callStub r.name vs).cur) left hY hYk hX hXk hRf hwr ok hb hw
    (fun vs w s mg f Q E hg hf h => wpAny_watchF h fun Γ p hΓ h' => by
      show wp _ Γ (nsGet mainNs r.name >>= _) _ _ p s
      rw [Sem.wp_bind']
      refine (Sem.wp_nsGet _ Γ _ p s hg _ _).mpr ?_
      rw [show mg r.toRowW.name = some f from hf]
      show wp _ Γ (PySem.call f vs >>= _) _ _ p s
      rw [Sem.wp_bind']
      exact Sem.wp_mono _ Γ _ (fun v p' s' h' => h') (fun _ _ _ h' => h') p s h')
    (fun w s hg G n hn => by
      obtain rfl : n = r.name := by split at hn <;> simp_all
      exact pinned_of_view hg G hdef hp hk)
    fun w s₀ s₁ mg mb G Y args vs as hpre hlay L low => by
      obtain ⟨a, o, pm, cd, doc, dV, kV, h1, h2, h3, h4, h5⟩ := G.fn hdef
      exact ⟨.ref a, h1, call w s₀ s₁ mg mb G Y a o pm cd doc dV kV h2 h3 h4 h5 (defOf_name hdef ▸ h1) L.gens args vs as hpre hlay L.reads L.well (L.low low)⟩)⟩

set_option maxRecDepth 100000 in
open_top hd for PySem.Challenge.rw_hm0003_01
end Mine
end

namespace Mine

section
variable {prog : Program} {w : World} {A₀ A : Around} {s : Shared} {base h₀ : Heap} {outer : List Env} {L : Addr} {m mg mb : Str → Option Value} {env : Env} {news : List (Addr × Obj)} {K : Frag} {p : Program} {loose : List Str} {mean : ExcName → Option Value}
  {R : Result → Shared → Prop} {name qual : Str} {params : Arguments} {body : List Stmt} {scope : Scope} {dV kV doc pm cdv ct oc : Value} {an od : Option Addr} {osl : Array (Option Value)} {f : Addr} {args : Args} {binds : List (Str × Value)}

/-- a def of the text is entered; the callee's ground holds ALL that stood, but the ledger's objects -/
theorem enter_all (B : Below A₀ base outer h₀) (F : Fr h₀ L s.heap m) (X₀ : K.In h₀) (N : News h₀ L s.heap news) (T : Top p loose mean mg mb h₀) (hA : A.frames = some (env :: outer)) (hf : env.frame = some L) (hke : env.scope.kind = .function)
    (ho : K.lookup f = some ⟨oc, od, .func (fnOf name qual params body scope dV kV doc pm an cdv ct), osl⟩) (hcd : codeIn K cdv qual = true) (hroom : A.depth < recursionLimit)
    (hbind : BindsTo s (fnOf name qual params body scope dV kV doc pm an cdv ct) args binds) (hloc : ∀ y ∈ binds, scope.names.lookup y.1 = some .local)
    (h : ∀ g L' h₁, (∀ b o, s.heap.get? b = some o → b ∉ news.map (·.1) → g.get? b = some o) → L' = s.heap.objs.size → L < L' → Fr h₀ L g m → Fr g L' h₁ (fun y => binds.reverse.lookup y) → News g L' h₁ news → Below A base (env :: outer) g → K.In g → Top p loose mean mg mb g → (∀ p ∈ news, p.1 < L') →
      wpAny (model prog w) (A.deeper (envOf qual scope L' f cdv)) (execs body (envOf qual scope L' f cdv))
        (fun fl s' => LeaveK h₀ L m g R (match fl with | .ret v => v | _ => .none) s')
        (fun e s' => wpAny (model prog w) (A.deeper (envOf qual scope L' f cdv)) (leaving (envOf qual scope L' f cdv) e) (fun _ s'' => R (.error e) s'') (fun e' s'' => R (.error e') s'') s')
        { s with heap := h₁, toks := s.toks + binds.length })
    (hco : scope.isCoroutine = false) (hgen : scope.isGenerator = false) (hk : scope.kind = .function)
    (hcell : ∀ x ∈ scope.names, x.2 ≠ .cell) : codeAny (model prog w) A (.call (.ref f) args) R s := by
  obtain ⟨FG, BG, st, lv⟩ := groundX (R := R) B F N hA hf hke
  refine codeAny_call_def (fd := fnOf name qual params body scope dV kV doc pm an cdv ct) (body := body) (binds := binds) hroom ((X₀.keeps F.keep) _ _ ho) rfl (T.nolimit.keeps F.keep) (codeRec_of (X₀.keeps F.keep) hcd) rfl hbind hcell hloc (fun h₁ hns hk₁ => ?_) hco hgen hk
  exact wpAny_mono (h _ s.heap.objs.size h₁ (fun b o e hn => hideAll_get _ e hn) rfl F.ns.lt FG ⟨hns, fun b o e => hk₁ b o (of_hideAll _ e), Nat.le_of_eq (hideAll_size _ _)⟩
    (fun p hp => ⟨hk₁ _ _ (N p hp).1, Nat.ne_of_lt (Heap.lt_size (N p hp).1), hideAll_none _ (List.mem_map_of_mem hp)⟩) BG (X₀.keeps st) (T.keeps st) (fun p hp => Heap.lt_size (N p hp).1)) (fun fl s' hl => lv _ _ hl) fun _ _ y => y

/-- the same for a def with cells -/
theorem enter_allC (B : Below A₀ base outer h₀) (F : Fr h₀ L s.heap m) (X₀ : K.In h₀) (N : News h₀ L s.heap news) (T : Top p loose mean mg mb h₀) (hA : A.frames = some (env :: outer)) (hf : env.frame = some L) (hke : env.scope.kind = .function)
    (ho : K.lookup f = some ⟨oc, od, .func (fnOf name qual params body scope dV kV doc pm an cdv ct), osl⟩) (hcd : codeIn K cdv qual = true) (hroom : A.depth < recursionLimit)
    (hbind : BindsTo s (fnOf name qual params body scope dV kV doc pm an cdv ct) args binds) (hkind : (binds.all fun y => scope.names.lookup y.1 == some .local || scope.names.lookup y.1 == some .cell) = true)
    (hnd : ((cellsFrom 0 scope.names []).map (·.1)).Nodup)
    (h : ∀ g L' h₁ tk cells, (∀ b o, s.heap.get? b = some o → b ∉ news.map (·.1) → g.get? b = some o) → L' = s.heap.objs.size → L < L' → Fr h₀ L g m → Fr g L' h₁ (bindL (envOfC qual scope L' f cdv).kindOf binds fun _ => none) → News g L' h₁ (cells ++ news) →
      CellsAre (bindC (envOfC qual scope L' f cdv).kindOf binds fun _ => none) (cellsFrom (L' + 1) scope.names []) cells → Below A base (env :: outer) g → K.In g → Top p loose mean mg mb g → (∀ p ∈ news, p.1 < L') →
      wpAny (model prog w) (A.deeper (envOfC qual scope L' f cdv)) (execs body (envOfC qual scope L' f cdv))
        (fun fl s' => LeaveK h₀ L m g R (match fl with | .ret v => v | _ => .none) s')
        (fun e s' => wpAny (model prog w) (A.deeper (envOfC qual scope L' f cdv)) (leaving (envOfC qual scope L' f cdv) e) (fun _ s'' => R (.error e) s'') (fun e' s'' => R (.error e') s'') s')
        { s with heap := h₁, toks := tk })
    (hco : scope.isCoroutine = false) (hgen : scope.isGenerator = false) (hk : scope.kind = .function) : codeAny (model prog w) A (.call (.ref f) args) R s := by
  obtain ⟨FG, BG, st, lv⟩ := groundX (R := R) B F N hA hf hke
  refine codeAny_call_function hroom ((X₀.keeps F.keep) _ _ ho) rfl hco hgen rfl (codeRec_of (X₀.keeps F.keep) hcd) (hbind _ _ _ _ ?_)
  refine wpAny_newFunctionEnv_cells hk (kindsX hkind _) fun env' he s' x => ?_
  subst he
  refine ⟨(T.nolimit.keeps F.keep).keeps x.toInCall.keep, codeAny_func ?_⟩
  obtain ⟨h₁, tk, rfl, _⟩ := x.done
  have hk₁ := x.toInCall.keep
  obtain ⟨cells, NC, Y⟩ := Cl.news (h₀ := s.heap) (Nat.le_refl _) fun n c hm => ⟨x.cell n c (lookup_of_mem_nodup (cellsFrom_names scope.names 0 (s.heap.objs.size + 1) [] [] rfl ▸ hnd) hm), x.above n c hm⟩
  refine wpAny_mono (h _ s.heap.objs.size h₁ tk cells (fun b o e hn => hideAll_get _ e hn) rfl F.ns.lt FG ⟨x.toInCall.ns, fun b o e => hk₁ b o (of_hideAll _ e), Nat.le_of_eq (hideAll_size _ _)⟩ (fun p hp => ?_) Y BG (X₀.keeps st) (T.keeps st) (fun p hp => Heap.lt_size (N p hp).1)) (fun fl s' hl => lv _ _ hl) fun _ _ y => y
  rcases List.mem_append.mp hp with hp | hp
  · refine ⟨(NC p hp).1, (NC p hp).2.1, ?_⟩
    cases q : (hideAll s.heap (news.map (·.1))).get? p.1 with
    | none => rfl
    | some o => have := of_hideAll _ q; rw [(NC p hp).2.2] at this; cases this
  · exact ⟨hk₁ _ _ (N p hp).1, Nat.ne_of_lt (Heap.lt_size (N p hp).1), hideAll_none _ (List.mem_map_of_mem hp)⟩
end

theorem ext_of {h h' g : Heap} {news : List (Addr × Obj)} (hn : ∀ p ∈ news, h.get? p.1 = some p.2 ∧ h'.get? p.1 = some p.2) (hg : ∀ b o, h.get? b = some o → b ∉ news.map (·.1) → g.get? b = some o) (hk : ∀ b o, g.get? b = some o → h'.get? b = some o) :
    ∀ b o, h.get? b = some o → h'.get? b = some o := fun b o e => by
  by_cases q : b ∈ news.map (·.1)
  · obtain ⟨p, hp, rfl⟩ := List.mem_map.mp q
    rw [(hn p hp).1] at e
    cases e
    exact (hn p hp).2
  · exact hk b o (hg b o e q)

/-- the two tables of codes, filled, and the codes -/
abbrev tabs (c1 c2 : Addr) (o1 o2 : Obj) : List (Addr × Obj) := [(44, tabObj #[rawInt 54, rawInt 4, .ref c2]), (37, tabObj #[rawInt 39, rawInt 4, .ref c1]), (c2, o2), (c1, o1)]

/-- a call of a def of the text, once the tables are filled: what it gives; all that stood, stands -/
def Tell (w : World) (dk : Nat) (f : Addr) (own : List (Addr × Obj)) (vs : List Value) (post : Heap → Heap → Value → Prop) : Prop :=
  ∀ (p : Program) (loose : List Str) (mean : ExcName → Option Value) (mg mb : Str → Option Value) (c1 c2 : Addr) (o1 o2 : Obj) (vs1 vs2 : Array Value) (t1 t2 : Tok)
    (dp un : Nat) (cn : Str) (cs : Scope) (a : Addr) (ccd : Value) (cl : List (Str × Addr)) (outer : List Env) (A₀ : Around) (base h₀ : Heap) (L : Addr) (m : Str → Option Value) (s : Shared) (Q E : Value → Shared → Prop),
    o1.data = .fields vs1 → vs1[1]? = some (.str (Str.ofString "_int2digits.<locals>.inner") t1) → o2.data = .fields vs2 → vs2[1]? = some (.str (Str.ofString "_digits2int.<locals>.inner") t2) →
    Below A₀ base outer h₀ → Fr h₀ L s.heap m → (hd.heap_39 w.params).In h₀ → News h₀ L s.heap (own ++ tabs c1 c2 o1 o2) → Top p loose mean mg mb h₀ → cs.kind = .function →
    dp + dk < recursionLimit → un + 8 * dk < cLine →
    (∀ v h' tk', (∀ b o, s.heap.get? b = some o → h'.get? b = some o) → post s.heap h' v → Q v { s with heap := h', toks := tk' }) →
    wpAny (model PySem.Challenge.rw_hm0003_01.row.prog w) (ktrTop dp un (some []) cn cs L a ccd cl outer) (call (.ref f) vs) Q E s

section
variable {w : World} {dk : Nat} {f : Addr} {vs : List Value} {post : Heap → Heap → Value → Prop}
    {p : Program} {loose : List Str} {mean : ExcName → Option Value} {mg mb : Str → Option Value} {c1 c2 : Addr} {o1 o2 : Obj} {vs1 vs2 : Array Value} {t1 t2 : Tok}
    {dp un : Nat} {cn : Str} {cs : Scope} {a : Addr} {ccd : Value} {cl : List (Str × Addr)} {outer : List Env} {A₀ : Around} {base h₀ : Heap} {L : Addr} {m : Str → Option Value} {news : List (Addr × Obj)} {s : Shared} {Q E : Value → Shared → Prop}
theorem Tell.use (C : Tell w dk f [] vs post)
    (B : Below A₀ base outer h₀) (F : Fr h₀ L s.heap m) (X : (hd.heap_39 w.params).In h₀) (N : News h₀ L s.heap news) (T : Top p loose mean mg mb h₀) (hk : cs.kind = .function)
    (e2 : vs1[1]? = some (.str (Str.ofString "_int2digits.<locals>.inner") t1)) (e1 : o1.data = .fields vs1) (e4 : vs2[1]? = some (.str (Str.ofString "_digits2int.<locals>.inner") t2)) (e3 : o2.data = .fields vs2)
    (m1 : (44, tabObj #[rawInt 54, rawInt 4, .ref c2]) ∈ news) (m2 : (37, tabObj #[rawInt 39, rawInt 4, .ref c1]) ∈ news) (m3 : (c2, o2) ∈ news) (m4 : (c1, o1) ∈ news)
    (hd : dp + dk < recursionLimit) (hu : un + 8 * dk < cLine)
    (h : ∀ v h' tk', Fr h₀ L h' m → News h₀ L h' news → (∀ b o, s.heap.get? b = some o → h'.get? b = some o) → post s.heap h' v → Q v { s with heap := h', toks := tk' }) :
    wpAny (model PySem.Challenge.rw_hm0003_01.row.prog w) (ktrTop dp un (some []) cn cs L a ccd cl outer) (call (.ref f) vs) Q E s :=
  C _ _ _ _ _ _ _ _ _ _ _ _ _ _ _ _ _ _ _ _ _ _ _ _ _ _ _ _ _ e1 e2 e3 e4 B F X (fun q hq => N q (by
    simp only [List.nil_append, tabs, List.mem_cons, List.not_mem_nil, or_false] at hq
    rcases hq with rfl | rfl | rfl | rfl <;> assumption)) T hk hd hu fun v h' tk' ext post => h v h' tk' (F.keptAll ext) (N.grown ext) ext post
theorem Tell.use1 {D : Addr} {o : Obj} (C : Tell w dk f [(D, o)] vs post)
    (B : Below A₀ base outer h₀) (F : Fr h₀ L s.heap m) (X : (hd.heap_39 w.params).In h₀) (N : News h₀ L s.heap news) (T : Top p loose mean mg mb h₀) (hk : cs.kind = .function)
    (e2 : vs1[1]? = some (.str (Str.ofString "_int2digits.<locals>.inner") t1)) (e1 : o1.data = .fields vs1) (e4 : vs2[1]? = some (.str (Str.ofString "_digits2int.<locals>.inner") t2)) (e3 : o2.data = .fields vs2)
    (m0 : (D, o) ∈ news) (m1 : (44, tabObj #[rawInt 54, rawInt 4, .ref c2]) ∈ news) (m2 : (37, tabObj #[rawInt 39, rawInt 4, .ref c1]) ∈ news) (m3 : (c2, o2) ∈ news) (m4 : (c1, o1) ∈ news)
    (hd : dp + dk < recursionLimit) (hu : un + 8 * dk < cLine)
    (h : ∀ v h' tk', Fr h₀ L h' m → News h₀ L h' news → (∀ b o, s.heap.get? b = some o → h'.get? b = some o) → post s.heap h' v → Q v { s with heap := h', toks := tk' }) :
    wpAny (model PySem.Challenge.rw_hm0003_01.row.prog w) (ktrTop dp un (some []) cn cs L a ccd cl outer) (call (.ref f) vs) Q E s :=
  C _ _ _ _ _ _ _ _ _ _ _ _ _ _ _ _ _ _ _ _ _ _ _ _ _ _ _ _ _ e1 e2 e3 e4 B F X (fun q hq => N q (by
    simp only [List.cons_append, List.nil_append, tabs, List.mem_cons, List.not_mem_nil, or_false] at hq
    rcases hq with rfl | rfl | rfl | rfl | rfl <;> assumption)) T hk hd hu fun v h' tk' ext post => h v h' tk' (F.keptAll ext) (N.grown ext) ext post
end

/-- a made object, laid onto the ledger -/
theorem news_made {h h' h₀ : Heap} {L D : Addr} {m : Str → Option Value} {news : List (Addr × Obj)} {o : Obj} (F : Fr h₀ L h m) (N : News h₀ L h news) (N' : News h₀ L h' news) (hD : h.objs.size ≤ D) (ho : h'.get? D = some o) :
    News h₀ L h' ((D, o) :: news) ∧ ∀ q ∈ news, q.1 < D := by
  have hL : L < h.objs.size := F.ns.lt
  refine ⟨fun q hq => ?_, fun q hq => Nat.lt_of_lt_of_le (Heap.lt_size (N q hq).1) hD⟩
  rcases List.mem_cons.mp hq with rfl | hq
  · exact ⟨ho, Nat.ne_of_gt (Nat.lt_of_lt_of_le hL hD), Heap.get?_none_of_le (Nat.le_trans F.above (Nat.le_of_lt (Nat.lt_of_lt_of_le hL hD)))⟩
  · exact N' q hq
end Mine

namespace Mine
section
variable {prog : Program} {w : World} {A : Around} {E : Value → Shared → Prop} {s : Shared} {a b k : Int} {t u : Tok} {Q : Value → Shared → Prop}
theorem bits17 : Builtin.Int.intBits 17 = 5 := by decide +kernel
theorem bits17_is (h : Q (.int 5 s.toks) { s with toks := s.toks + 1 }) :
    wpAny (model prog w) A (call (.builtin "int.bit_length") [.int 17 t]) Q E s := call_int_bit_length (by rw [bits17]; exact h)
theorem bits_is {nb : Nat} (e : Builtin.Int.intBits a = nb) (h : Q (.int (nb : Int) s.toks) { s with toks := s.toks + 1 }) :
    wpAny (model prog w) A (call (.builtin "int.bit_length") [.int a t]) Q E s := call_int_bit_length (by rw [e]; exact h)
theorem bits_bound (h0 : 0 ≤ a) (h1 : a < 2 ^ 20) : Builtin.Int.intBits a ≤ 20 := by
  unfold Builtin.Int.intBits
  split
  · omega
  · rename_i hz
    have hne : a.natAbs ≠ 0 := by
      intro q
      apply hz
      rw [beq_iff_eq]
      omega
    have := (Nat.log2_lt hne (k := 20)).2 (by omega)
    omega
theorem bits_rng {k j : Nat} (h0 : 2 ^ k ≤ a.natAbs) (h1 : a.natAbs < 2 ^ j) : k + 1 ≤ Builtin.Int.intBits a ∧ Builtin.Int.intBits a ≤ j := by
  have hp : 0 < 2 ^ k := Nat.two_pow_pos k
  have hne : a.natAbs ≠ 0 := by omega
  unfold Builtin.Int.intBits
  split
  · rename_i hz
    have : a = 0 := eq_of_beq hz
    omega
  · have e1 := (Nat.log2_lt hne (k := j)).2 h1
    have e2 := mt (Nat.log2_lt hne (k := k)).1 (by omega)
    omega
theorem bits_0 {n : Int} (h0 : 0 ≤ n) (h1 : n < 1) : ∃ nb : Nat, Builtin.Int.intBits n = nb ∧ nb ≤ 20 ∧ ((nb : Int) + 5 - 1).fdiv 5 = 0 := by
  have : n = 0 := by omega
  subst this
  exact ⟨0, by decide, by decide, by decide⟩
theorem bits_1 {n : Int} (h0 : 1 ≤ n) (h1 : n < 32) : ∃ nb : Nat, Builtin.Int.intBits n = nb ∧ nb ≤ 20 ∧ ((nb : Int) + 5 - 1).fdiv 5 = 1 := by
  have h := bits_rng (a := n) (k := 0) (j := 5) (by omega) (by omega)
  exact ⟨_, rfl, by omega, by rw [Int.fdiv_eq_ediv_of_nonneg _ (by decide)]; omega⟩
theorem bits_2 {n : Int} (h0 : 32 ≤ n) (h1 : n < 1024) : ∃ nb : Nat, Builtin.Int.intBits n = nb ∧ nb ≤ 20 ∧ ((nb : Int) + 5 - 1).fdiv 5 = 2 := by
  have h := bits_rng (a := n) (k := 5) (j := 10) (by omega) (by omega)
  exact ⟨_, rfl, by omega, by rw [Int.fdiv_eq_ediv_of_nonneg _ (by decide)]; omega⟩
theorem bits_3 {n : Int} (h0 : 1024 ≤ n) (h1 : n < 4096) : ∃ nb : Nat, Builtin.Int.intBits n = nb ∧ nb ≤ 20 ∧ ((nb : Int) + 5 - 1).fdiv 5 = 3 := by
  have h := bits_rng (a := n) (k := 10) (j := 12) (by omega) (by omega)
  exact ⟨_, rfl, by omega, by rw [Int.fdiv_eq_ediv_of_nonneg _ (by decide)]; omega⟩
theorem bits_le (h0 : 0 ≤ a) (h1 : a < 2 ^ 20) (h : ∀ nb : Nat, nb ≤ 20 → Q (.int (nb : Int) s.toks) { s with toks := s.toks + 1 }) :
    wpAny (model prog w) A (call (.builtin "int.bit_length") [.int a t]) Q E s := call_int_bit_length (h _ (bits_bound h0 h1))
theorem fdiv_is (hp : Builtin.divisionGoesByPylong a b = false) (hb : b ≠ 0) (e : a.fdiv b = k) (h : Q (.int k s.toks) { s with toks := s.toks + 1 }) :
    wpAny (model prog w) A (binaryOp .FloorDiv (.int a t) (.int b u)) Q E s := floordiv_int hb (by rw [e]; exact h) (.inl hp)
theorem fdiv_pow (a : Int) (n : Nat) : a.fdiv (2 ^ n) = a / 2 ^ n := Int.fdiv_eq_ediv_of_nonneg a (by exact_mod_cast Nat.zero_le (2 ^ n))
theorem rshift1_is (hb : b = 1) (h0 : 2 * k ≤ a) (h1 : a < 2 * k + 2) (h : Q (.int k s.toks) { s with toks := s.toks + 1 }) :
    wpAny (model prog w) A (binaryOp .RShift (.int a t) (.int b u)) Q E s := by
  subst hb
  refine rshift_int (by decide) ?_
  have e : a.fdiv (2 ^ (1 : Int).toNat) = k := by
    rw [fdiv_pow]
    show a / 2 = k
    omega
  rw [e]
  exact h
theorem rshift5_is (hb : b = 5) (h : ∀ q r, a = 32 * q + r → 0 ≤ r → r < 32 → Q (.int q s.toks) { s with toks := s.toks + 1 }) :
    wpAny (model prog w) A (binaryOp .RShift (.int a t) (.int b u)) Q E s := by
  subst hb
  refine rshift_int (by decide) ?_
  have e : a.fdiv (2 ^ (5 : Int).toNat) = a / 32 := fdiv_pow a 5
  rw [e]
  exact h (a / 32) (a % 32) (by omega) (by omega) (by omega)
theorem lshift5_is (hb : b = 5) (ha : a.natAbs < 2 ^ 64) (h : Q (.int (a * 32) s.toks) { s with toks := s.toks + 1 }) :
    wpAny (model prog w) A (binaryOp .LShift (.int a t) (.int b u)) Q E s := by
  subst hb
  exact lshift_int_small (by decide) (by decide) ha h
theorem and32 {x q r : Nat} (e : x = 32 * q + r) (h : r < 32) : x &&& (q * 32) = q * 32 := by
  apply Nat.eq_of_testBit_eq
  intro i
  have e2 : x = 2 ^ 5 * q + r := e
  have e3 : q * 32 = 2 ^ 5 * q + 0 := by omega
  rw [Nat.testBit_and, e2, e3, Nat.testBit_two_pow_mul_add q (by omega : r < 2 ^ 5), Nat.testBit_two_pow_mul_add q (by omega : 0 < 2 ^ 5)]
  by_cases hi : i < 5
  · simp [hi]
  · simp [hi]
theorem xor5_is {q r : Int} (hq : 0 ≤ q) (e : a = 32 * q + r) (h0 : 0 ≤ r) (h1 : r < 32) (h : Q (.int r s.toks) { s with toks := s.toks + 1 }) :
    wpAny (model prog w) A (binaryOp .BitXor (.int a t) (.int (q * 32) u)) Q E s := by
  refine xor_int ?_
  have hand : Builtin.bitAnd a (q * 32) = q * 32 := by
    have ha : decide (0 ≤ a) = true := decide_eq_true (by omega)
    have hb : decide (0 ≤ q * 32) = true := decide_eq_true (by omega)
    unfold Builtin.bitAnd
    rw [ha, hb]
    have k := and32 (x := a.toNat) (q := q.toNat) (r := r.toNat) (by omega) (by omega)
    have e1 : (q * 32).toNat = q.toNat * 32 := by omega
    show ((a.toNat &&& (q * 32).toNat : Nat) : Int) = q * 32
    rw [e1, k]
    omega
  have e : Builtin.bitXor a (q * 32) = r := by
    rw [bitXor_and, hand]
    omega
  rw [e]
  exact h
theorem truthy_pos {Q : Bool → Shared → Prop} (h0 : a ≠ 0) (h : Q true s) : wpAny (model prog w) A (truthy (.int a t)) Q E s := by
  refine truthy_int ?_
  have e : (a != 0) = true := by simpa using h0
  rw [e]
  exact h
theorem divmod_is {h₀ : Heap} {L : Addr} {m : Str → Option Value} {news : List (Addr × Obj)} (F : Fr h₀ L s.heap m) (N : News h₀ L s.heap news) (hp : Builtin.divisionGoesByPylong a b = false) (hb : 0 < b)
    (h : ∀ D q r t1 t2 h' tk, a = b * q + r → 0 ≤ r → r < b → Fr h₀ L h' m → News h₀ L h' ((D, { cls := .type "tuple", data := .seq #[.int q t1, .int r t2] }) :: news) → (∀ p ∈ news, p.1 < D) → L < D → Q (.ref D) { s with heap := h', toks := tk }) :
    wpAny (model prog w) A (call (.builtin "divmod") [.int a t, .int b u]) Q E s := by
  refine divmod_N F N (by omega) (fun h' F' N' => ?_) (.inl hp)
  have e1 : a.fdiv b = a / b := Int.fdiv_eq_ediv_of_nonneg a (by omega)
  have e2 : a.fmod b = a % b := Int.fmod_eq_emod_of_nonneg a (by omega)
  rw [e1, e2] at N'
  exact h _ (a / b) (a % b) _ _ _ _ (Int.mul_ediv_add_emod a b).symm (Int.emod_nonneg a (by omega)) (Int.emod_lt_of_pos a hb) F' N' (fun p hp => Heap.lt_size (N p hp).1) F.ns.lt
theorem newTuple_is {M : Model} {A : Around} {h₀ : Heap} {L : Addr} {m : Str → Option Value} {news : List (Addr × Obj)} {vs : List Value} (F : Fr h₀ L s.heap m) (N : News h₀ L s.heap news)
    (h : ∀ D h', Fr h₀ L h' m → News h₀ L h' ((D, ({ cls := .type "tuple", data := .seq vs.toArray } : Obj)) :: news) → (∀ p ∈ news, p.1 < D) → L < D → Q (.ref D) { s with heap := h' }) (hz : vs.length ≤ 100) : wpAny M A (newTuple vs) Q E s :=
  newTuple_N F N (fun h' F' N' => h _ h' F' N' (fun p hp => Heap.lt_size (N p hp).1) F.ns.lt) (by rw [sizeLine_eq]; omega)
theorem newList_is {M : Model} {A : Around} {h₀ : Heap} {L : Addr} {m : Str → Option Value} {news : List (Addr × Obj)} {vs : List Value} (F : Fr h₀ L s.heap m) (N : News h₀ L s.heap news)
    (h : ∀ D h', Fr h₀ L h' m → News h₀ L h' ((D, listOf vs.toArray 0) :: news) → (∀ p ∈ news, p.1 < D) → L < D → Q (.ref D) { s with heap := h' }) (hz : vs.length ≤ 100) : wpAny M A (newList vs) Q E s :=
  newList_N F N (fun h' F' N' => h _ h' F' N' (fun p hp => Heap.lt_size (N p hp).1) F.ns.lt) (by rw [sizeLine_eq]; omega)
theorem pow_is {prog : Program} {w : World} (j : Nat) (hb : b = j) (hj : j ≤ 1000000) (ha : a.natAbs < 2 ^ 64) (e : a ^ j = k) (h : Q (.int k s.toks) { s with toks := s.toks + 1 }) : wpAny (model prog w) A (binaryOp .Pow (.int a t) (.int b u)) Q E s := by
  subst hb
  refine pow_int_small (by omega) (by omega) ha ?_
  rw [Int.toNat_natCast, e]
  exact h
theorem set_is {h₀ : Heap} {L D : Addr} {m : Str → Option Value} {news news' : List (Addr × Obj)} {vs ws : List Value} {n : Nat} {v : Value} {Q : Unit → Shared → Prop} (F : Fr h₀ L s.heap m) (N : News h₀ L s.heap news) (U : Upd D (listOf vs.toArray n) (listOf ws.toArray n) news news')
    (h0 : 0 ≤ k) (h1 : k < vs.length) (e : vs.set k.toNat v = ws) (hfit : k < 2 ^ 63) (h : ∀ h', Fr h₀ L h' m → News h₀ L h' news' → Q () { s with heap := h' }) :
    wpAny (model prog w) A (setItem (.ref D) (.int k t) v) Q E s := by
  subst e
  obtain ⟨pre, post, rfl, rfl, a, b⟩ := U.split
  have z := N (D, listOf vs.toArray n) (List.mem_append.mpr (.inr (.head _)))
  refine ki_setAt z.1 h0 hfit (by simpa using h1) (h _ (F.change (Heap.SameBut.update ..) z.2.1 z.2.2) (ki_turn _ N a b ?_ ?_))
  · show vs.toArray.setIfInBounds k.toNat v = (vs.set k.toNat v).toArray
    apply Array.toList_inj.mp
    simp
  · simp
/-- a loop's iterator leaves the ledger (and the tuples that were but unpacked) -/
inductive Cut (I : Addr) (it : Obj) : List (Addr × Obj) → List (Addr × Obj) → Prop
  | head {r : List (Addr × Obj)} : (∀ p ∈ r, p.1 ≠ I) → Cut I it ((I, it) :: r) r
  | skip {a : Addr} {d : Data} {r r' : List (Addr × Obj)} : Cut I it r r' → Cut I it ((a, { cls := .type "tuple", data := d }) :: r) r'
  | tail {p : Addr × Obj} {r r' : List (Addr × Obj)} : p.1 ≠ I → Cut I it r r' → Cut I it (p :: r) (p :: r')
theorem Cut.mem {I : Addr} {it : Obj} {l l' : List (Addr × Obj)} (c : Cut I it l l') : (∀ p ∈ (I, it) :: l', p ∈ l) ∧ ∀ p ∈ l', p.1 ≠ I := by
  induction c with
  | head h => exact ⟨fun _ hp => hp, h⟩
  | skip _ ih => exact ⟨fun p hp => .tail _ (ih.1 p hp), ih.2⟩
  | tail hne _ ih =>
    refine ⟨fun p hp => ?_, fun p hp => ?_⟩
    · rcases List.mem_cons.mp hp with rfl | hp
      · exact .tail _ (ih.1 _ (.head _))
      · rcases List.mem_cons.mp hp with rfl | hp
        · exact .head _
        · exact .tail _ (ih.1 _ (.tail _ hp))
    · rcases List.mem_cons.mp hp with rfl | hp
      · exact hne
      · exact ih.2 p hp
theorem unr_end {h₀ : Heap} {L I : Addr} {it : Obj} {rest : (Str → Option Value) → List (Addr × Obj) → Prop} {s₁ : Shared} {h' : Heap} {tk : Nat} {m' : Str → Option Value} {all news' : List (Addr × Obj)} (F : Fr h₀ L h' m') (N : News h₀ L h' all)
    (c : Cut I it all news') (r : rest m' news') : UnrEnd h₀ L s₁ I it rest { s₁ with heap := h', toks := tk } := UnrEnd.intro F N news' c.mem.1 c.mem.2 r
theorem room_is {d i j k l : Nat} (h : d + k < l) (e : i + j ≤ k) : d + i + j < l := by omega
theorem room_is1 {d j k l : Nat} (h : d + k < l) (e : j ≤ k) : d + j < l := by omega
theorem news_tail {h₀ h : Heap} {L a : Addr} {d : Data} {r : List (Addr × Obj)} (N : News h₀ L h ((a, { cls := .type "tuple", data := d }) :: r)) : News h₀ L h r := fun p hp => N p (.tail _ hp)
theorem ext_end {h h' g h₀ : Heap} {L L' : Addr} {m : Str → Option Value} {news news' : List (Addr × Obj)} (N : News h₀ L h news) (hg : ∀ b o, h.get? b = some o → b ∉ news.map (·.1) → g.get? b = some o) (F' : Fr g L' h' m) (N' : News g L' h' news') (hs : ∀ q ∈ news, q ∈ news') :
    ∀ b o, h.get? b = some o → h'.get? b = some o := ext_of (fun p hp => ⟨(N p hp).1, (N' p (hs p hp)).1⟩) hg F'.keep
end
end Mine

namespace Mine
section
variable {prog : Program} {w : World} {A : Around} {E : Value → Shared → Prop} {s : Shared} {a b k : Int} {t u : Tok} {Q : Value → Shared → Prop} {h₀ : Heap} {L D : Addr} {m : Str → Option Value} {news : List (Addr × Obj)} {vs us : List Value} {ns ms : List Int} {b' c' : Array UInt8} {n n' : Nat}
theorem mod_small (h0 : 0 ≤ a) (h1 : a < b) (h : Q (.int a s.toks) { s with toks := s.toks + 1 }) : wpAny (model prog w) A (binaryOp .Mod (.int a t) (.int b u)) Q E s := by
  refine mod_int' (by omega) ?_
  rw [Int.fmod_eq_emod_of_nonneg a (by omega), Int.emod_eq_of_lt h0 h1]
  exact h
theorem mod_is (h0 : 0 < b) (h : Q (.int (a % b) s.toks) { s with toks := s.toks + 1 }) : wpAny (model prog w) A (binaryOp .Mod (.int a t) (.int b u)) Q E s := by
  refine mod_int' (by omega) ?_
  rw [Int.fmod_eq_emod_of_nonneg a (by omega)]
  exact h
theorem in1 {x : Int} (h0 : 0 ≤ x) (h1 : x < 256) : KBa.In [x] := by
  intro n hn
  simp only [List.mem_cons, List.not_mem_nil, or_false] at hn
  subst hn
  exact ⟨h0, h1⟩
theorem in_cons {x : Int} {r : List Int} (h0 : 0 ≤ x) (h1 : x < 256) (hr : KBa.In r) : KBa.In (x :: r) := by
  intro n hn
  rcases List.mem_cons.mp hn with rfl | hn
  · exact ⟨h0, h1⟩
  · exact hr n hn
theorem in_nil : KBa.In [] := fun _ hn => nomatch hn
theorem bytes_is (F : Fr h₀ L s.heap m) (N : News h₀ L s.heap news) (hh : A.handled = none) (hm : (D, listOf vs.toArray n) ∈ news) (hi : IntsAre vs ns) (hr : KBa.In ns) (hn : ns.length ≤ 100)
    (h : ∀ b' t' h' k, KBw.bInts b' = ns → Fr h₀ L h' m → News h₀ L h' news → Q (.bytes b' t') { s with heap := h', toks := k }) : wpAny (model prog w) A (call (.type "bytes") [.ref D]) Q E s :=
  KBa.make_K F N hh (News.isList N hm) hi hr (by omega) fun h' t' k F' N' hin => h _ t' h' k (KBa.ints_make hin) F' N'
theorem bytes_inj (hb : KBw.bInts b' = ns) (hc : KBw.bInts c' = ns) : b' = c' := by
  have e : KBw.bInts b' = KBw.bInts c' := hb.trans hc.symm
  have e2 : b'.toList = c'.toList := (List.map_inj_right (fun (x y : UInt8) (hxy : (x.toNat : Int) = (y.toNat : Int)) => UInt8.toNat_inj.mp (Int.ofNat.inj hxy))).mp e
  exact Array.toList_inj.mp e2
theorem ne_bytes_no (hb : KBw.bInts b' = ns) (hc : KBw.bInts c' = ms) (e : ns = ms) (h : Q (.bool false) s) : wpAny (model prog w) A (compareOp .NotEq (.bytes b' t) (.bytes c' u)) Q E s := by
  subst e
  obtain rfl := bytes_inj hb hc
  refine ne_bytes ?_
  have : (b'.toList != b'.toList) = false := by simp
  rw [this]
  exact h
theorem eq_bytes_yes (hb : KBw.bInts b' = ns) (hc : KBw.bInts c' = ms) (e : ns = ms) (h : Q (.bool true) s) : wpAny (model prog w) A (compareOp .Eq (.bytes b' t) (.bytes c' u)) Q E s := by
  subst e
  obtain rfl := bytes_inj hb hc
  refine eq_bytes ?_
  have : (b'.toList == b'.toList) = true := by simp
  rw [this]
  exact h
theorem ne_list_no {D' : Addr} (N : News h₀ L s.heap news) (hm : (D, listOf vs.toArray n) ∈ news) (hi : IntsAre vs ns) (hm' : (D', listOf us.toArray n') ∈ news) (hi' : IntsAre us ms) (hu : A.units + 64 < cLine) (e : ns = ms) (h : Q (.bool false) s) :
    wpAny (model prog w) A (compareOp .NotEq (.ref D) (.ref D')) Q E s := by
  subst e
  refine ne_intsK (News.isList N hm) hi (News.isList N hm') hi' hu ?_
  have : (!decide (ns = ns)) = false := by simp
  rw [this]
  exact h
end
end Mine

section
open PySem PySem.W PySem.Calls PyProof.Rows PyProof.Rows.LCg
namespace Mine
section
variable {M : Model} {A : Around} {E : Value → Shared → Prop} {s : Shared}
/-- a comprehension's namespace with one cell of its own -/
theorem newEnv_cell {scope : Scope} {cl : List (Str × Addr)} {env : Env} {x : Str} {Q : Env → Shared → Prop}
    (hcf : ∀ k, cellsFrom k scope.names cl = (x, k) :: cl) (hpc : ∀ h : Heap, pushCells h scope.names = h.push { cls := .type "cell", data := .cell none })
    (hQ : ∀ h' : Heap, h'.Ns s.heap.objs.size (fun _ => none) → h'.get? (s.heap.objs.size + 1) = some { cls := .type "cell", data := .cell none } → (∀ b o, s.heap.get? b = some o → h'.get? b = some o) →
      Q { scope := scope, locals := s.heap.objs.size, globals := env.globals, cells := (x, s.heap.objs.size + 1) :: cl, qual := env.qual, func := none, code := env.code, frame := env.frame, builtins := env.builtins } { s with heap := h' }) :
    wpAny M A (newFunctionEnv scope env.globals cl [] env.qual none .none (some env)) Q E s := by
  simp only [newFunctionEnv, Option.isSome_some, if_true]
  refine wpAny_bind (wpAny_alloc ?_)
  refine wpAny_bind (wpAny_layCells _ (fun name kind cells => by cases hkc : kind == NameKind.cell <;> simp [hkc]) _ _ _ _ ?_)
  rw [hcf, hpc]
  have e1 : ({ s with heap := s.heap.push { cls := .type "dict", data := .dict #[] } } : Shared).heap.objs.size = s.heap.objs.size + 1 := Heap.size_push ..
  rw [e1]
  refine wpAny_bind (wpAny_of_eq (a := PUnit.unit) (by first | rfl | simp) (wpAny_pure (hQ _ ?_ ?_ ?_)))
  · exact (Heap.Ns.new s.heap (.type "dict")).keeps fun b o e => Heap.get?_push_of_some _ e
  · rw [← e1]
    exact Heap.get?_push_size _ rfl
  · exact fun b o e => Heap.get?_push_of_some _ (Heap.get?_push_of_some _ e)
end

section
variable {prog : Program} {w : World} {A : Around} {E : Value → Shared → Prop} {s : Shared} {h₀ : Heap} {L : Addr} {m : Str → Option Value} {env : Env}
/-- the end of one turn: an int; the turn's objects and the ledger as they were -/
def EltEnd (h₀ : Heap) (L : Addr) (m : Str → Option Value) (led : List (Addr × Obj)) (y : Int) (s₁ : Shared) (v : Value) (s' : Shared) : Prop :=
  ∃ h' tk' u, s' = { s₁ with heap := h', toks := tk' } ∧ v = .int y u ∧ Fr h₀ L h' m ∧ News h₀ L h' led
theorem eltEnd {led all : List (Addr × Obj)} {y z : Int} {s₁ : Shared} {h' : Heap} {tk' : Nat} {u : Tok} (F : Fr h₀ L h' m) (N : News h₀ L h' all) (hs : ∀ q ∈ led, q ∈ all) (e : z = y) : EltEnd h₀ L m led y s₁ (.int z u) { s₁ with heap := h', toks := tk' } :=
  ⟨h', tk', u, rfl, by rw [e], F, fun p hp => N p (hs p hp)⟩
theorem ints_snoc {ys : List Value} {zs : List Int} {y : Int} {u : Tok} (h : IntsAre ys zs) : IntsAre (ys ++ [.int y u]) (zs ++ [y]) := by
  induction h with
  | nil => exact .cons y u .nil
  | cons i t _ ih => exact .cons i t ih
theorem ex7 {α β γ δ ε ζ η : Type} {P : α → β → γ → δ → ε → ζ → η → Prop} {G : Prop} (H : ∃ a b c d e f g, P a b c d e f g) (h : ∀ a b c d e f g, P a b c d e f g → G) : G := by
  obtain ⟨a, b, c, d, e, f, g, p⟩ := H
  exact h a b c d e f g p
theorem EltEnd.elim {led : List (Addr × Obj)} {y : Int} {s₁ s' : Shared} {v : Value} {G : Value → Shared → Prop} (H : EltEnd h₀ L m led y s₁ v s') (h : ∀ h' tk' u, Fr h₀ L h' m → News h₀ L h' led → G (.int y u) { s₁ with heap := h', toks := tk' }) : G v s' := by
  obtain ⟨h', tk', u, rfl, rfl, F, N⟩ := H
  exact h h' tk' u F N
theorem block_K {elt iter : Expr} {x : Str} {px : Pos} {scope : Scope} {cl : List (Str × Addr)} {pos : Pos} {s₂ : Shared} {I : Addr} {n : Nat} {zs : List Int} {news : List (Addr × Obj)} {RR : Value → Addr → Result → Shared → Prop}
    (hh : A.handled = none) (hzs : zs.length = n) (hsz : n ≤ sizeLine) (hkind : scope.kind = .function)
    (hcf : ∀ k, cellsFrom k scope.names cl = (x, k) :: cl) (hpc : ∀ h : Heap, pushCells h scope.names = h.push { cls := .type "cell", data := .cell none })
    (hx : (relabel scope env).names.lookup x = some .cell) (hst : IsRangeIter s₂.heap I (0 + ((0 : Nat) : Int) * 1) ((n : Int) - ((0 : Nat) : Int)) 1)
    (F : Fr h₀ L s₂.heap m) (N : News h₀ L s₂.heap news) (hLI : L < I) (hI : I < s₂.heap.objs.size) (hI₀ : h₀.get? I = none) (off : ∀ p ∈ news, p.1 < I)
    (turn : ∀ i ty I oI C oC c oc D ys h tk (E' : Value → Shared → Prop), i < n → oc.data = .cell (some (.int (i : Int) ty)) → Fr h₀ L h m → News h₀ L h ((I, oI) :: (C, oC) :: (c, oc) :: (D, lst ys) :: news) → (∀ p ∈ news, p.1 < I) → I < D → D < C → C < c →
      wpAny (model prog w) A (eval elt (compEnvC scope ((x, c) :: cl) C env)) (EltEnd h₀ L m ((I, oI) :: (C, oC) :: (c, oc) :: (D, lst ys) :: news) (zs.getD i 0) { s₂ with heap := h, toks := tk }) E' { s₂ with heap := h, toks := tk })
    (hRR : ∀ D C h tk m' ys, Fr h₀ L h m → News h₀ L h ((D, lst ys) :: news) → IntsAre ys zs → (∀ p ∈ news, p.1 < D) → L < D → h.Ns C m' → C ≠ L → h₀.get? C = none → D ≠ C → (∀ p ∈ news, p.1 ≠ C) → RR (.ref D) C (.ok .next) { s₂ with heap := h, toks := tk }) :
    wpAny (model prog w) A (newList []) (fun acc s₃ => wpAny (model prog w) A (newFunctionEnv scope env.globals cl [] env.qual none .none (some env)) (fun cenv s₄ =>
      codeAny (model prog w) A (.compStart (.ListComp elt [⟨.Name x px, iter, [], 0⟩] scope pos) 0 (.ref I) acc { cenv with scope := relabel scope env }) (RR acc cenv.locals) s₄) E s₃) E s₂ := by
  have W := range_walks (prog := prog) (w := w) (A := A) (I := I) hh 0 n
  refine wpAny_newObj_type (newEnv_cell hcf hpc fun h₁ hns₁ hc₁ old₁ => ?_)
  dsimp only at hns₁ hc₁ old₁ ⊢
  generalize hH2 : s₂.heap.push { cls := .type "list", dict := none, data := .seq ([] : List Value).toArray } = H2 at hns₁ hc₁ old₁ ⊢
  have hC : H2.objs.size = s₂.heap.objs.size + 1 := by rw [← hH2, Heap.size_push]
  rw [hC] at hns₁ hc₁ ⊢
  generalize hD : s₂.heap.objs.size = D at hns₁ hc₁ hI ⊢
  have fresh : ∀ a, D ≤ a → s₂.heap.get? a = none := fun a ha => Heap.get?_none_of_le (by rw [hD]; exact ha)
  have fresh₀ : ∀ a, D ≤ a → h₀.get? a = none := fun a ha => by
    cases e : h₀.get? a with
    | none => rfl
    | some o' => have := F.keep a o' e; rw [fresh a ha] at this; cases this
  have old : ∀ b o, s₂.heap.get? b = some o → h₁.get? b = some o := fun b o e => old₁ b o (hH2 ▸ Heap.get?_push_of_some _ e)
  have hacc : h₁.get? D = some (lst []) := old₁ _ _ (by rw [← hH2, ← hD]; exact Heap.get?_push_size _ rfl)
  have hst₁ : IsRangeIter h₁ I (0 + ((0 : Nat) : Int) * 1) ((n : Int) - ((0 : Nat) : Int)) 1 := W.frame _ _ _ hst fun b _ o e => old b o e
  have nI : ∀ p ∈ news, p.1 ≠ I := fun p hp => Nat.ne_of_lt (off p hp)
  have nD : ∀ p ∈ news, p.1 < D := fun p hp => Nat.lt_trans (off p hp) hI
  have hLD : L < D := Nat.lt_trans hLI hI
  have hIC : I ≠ D + 1 := Nat.ne_of_lt (Nat.lt_succ_of_lt hI)
  have hIc : I ≠ D + 1 + 1 := Nat.ne_of_lt (Nat.lt_succ_of_lt (Nat.lt_succ_of_lt hI))
  have hDI : D ≠ I := Nat.ne_of_gt hI
  have loop : ∀ s₃ : Shared, s₃ = { s₂ with heap := h₁ } →
      codeAny (model prog w) A (.compLoop (.ListComp elt [⟨.Name x px, iter, [], 0⟩] scope pos) 0 (.ref I) (.ref D) (compEnvC scope ((x, D + 1 + 1) :: cl) (D + 1) env)) (RR (.ref D) (D + 1)) s₃ := by
    rintro s₃ rfl
    refine codeAny_compLoop_tests
      (fun k s' => ∃ h' tk i ys m' oc v₀, s' = { s₂ with heap := h', toks := tk } ∧ i ≤ n ∧ k = n + 1 - i ∧ ys.length = i ∧ IntsAre ys (zs.take i) ∧ IsRangeIter h' I (0 + ((i : Nat) : Int) * 1) ((n : Int) - ((i : Nat) : Int)) 1 ∧ Fr h₀ L h' m ∧ h'.Ns (D + 1) m' ∧
        oc.data = .cell v₀ ∧ News h₀ L h' ((D + 1 + 1, oc) :: (D, lst ys) :: news)) ?_ (n + 1)
      ⟨h₁, _, 0, [], _, { cls := .type "cell", data := .cell none }, none, rfl, Nat.zero_le _, rfl, rfl, .nil, hst₁, F.keeps old, hns₁, rfl, fun p hp => ?_⟩
    · intro k s' H
      refine ex7 H ?_
      clear H
      intro h' tk i ys m' oc v₀ H
      have e1 := H.1
      have hi := H.2.1
      have e2 := H.2.2.1
      have hyl := H.2.2.2.1
      have hyi := H.2.2.2.2.1
      have hst' := H.2.2.2.2.2.1
      have F' := H.2.2.2.2.2.2.1
      have hn' := H.2.2.2.2.2.2.2.1
      have hoc := H.2.2.2.2.2.2.2.2.1
      have N' := H.2.2.2.2.2.2.2.2.2
      clear H
      subst e1 e2
      by_cases hlt : i < n
      · refine W.item i _ _ _ hlt hst' fun v h₂ tk₂ hPv hst₂ hk₂ => ?_
        obtain ⟨ty, rfl⟩ := hPv
        have N₂ : News h₀ L h₂ ((D + 1 + 1, oc) :: (D, lst ys) :: news) := news_but N' hk₂ fun p hp => by
          rcases List.mem_cons.mp hp with rfl | hp
          · exact Ne.symm hIc
          · rcases List.mem_cons.mp hp with rfl | hp
            · exact hDI
            · exact nI p hp
        have zc := N₂ _ (List.mem_cons_self ..)
        refine wpAny_assign_Name (wpAny_storeName_cell (c := D + 1 + 1) hkind hx (by simp [compEnvC]) ⟨oc, zc.1, hoc⟩ fun h₃ hv₃ hs₃ => ?_)
        obtain ⟨oc', hoc', hdc'⟩ := hv₃
        refine wpAny_tests_nil ?_
        simp only [if_true]
        have hst₃ : IsRangeIter h₃ I (0 + ((i + 1 : Nat) : Int) * 1) ((n : Int) - ((i + 1 : Nat) : Int)) 1 := W.frame _ _ _ hst₂ fun b hb o e => hs₃.extBut b o (fun q => hIc ((List.mem_singleton.mp hb).symm.trans q)) e
        obtain ⟨oI, heI⟩ : ∃ o, h₃.get? I = some o := ⟨_, hst₃⟩
        obtain ⟨oC, heC, hoC⟩ := ns_obj ((hn'.at' fun o e => hk₂ _ o (by simpa using Ne.symm hIC) e).sameBut hs₃ (Nat.ne_of_lt (Nat.lt_succ_self _)))
        have F₃ : Fr h₀ L h₃ m := (fr_but F' hk₂ (Nat.ne_of_lt hLI) hI₀).change hs₃ zc.2.1 zc.2.2
        have N₃ : News h₀ L h₃ ((I, oI) :: (D + 1, oC) :: (D + 1 + 1, oc') :: (D, lst ys) :: news) := fun p hp => by
          rcases List.mem_cons.mp hp with rfl | hp
          · exact ⟨heI, Nat.ne_of_gt hLI, hI₀⟩
          · rcases List.mem_cons.mp hp with rfl | hp
            · exact ⟨heC, Nat.ne_of_gt (Nat.lt_succ_of_lt hLD), fresh₀ _ (Nat.le_succ _)⟩
            · rcases List.mem_cons.mp hp with rfl | hp
              · exact ⟨hoc', zc.2⟩
              · have z := N₂ p (List.mem_cons_of_mem _ hp)
                refine ⟨hs₃.extBut _ _ ?_ z.1, z.2⟩
                rcases List.mem_cons.mp hp with rfl | hp
                · exact Nat.ne_of_lt (Nat.lt_succ_of_lt (Nat.lt_succ_self _))
                · exact Nat.ne_of_lt (Nat.lt_succ_of_lt (Nat.lt_succ_of_lt (nD p hp)))
        have hdc : oc'.data = .cell (some (.int (i : Int) ty)) := by rw [hdc', Int.zero_add]
        refine wpAny_mono (turn i ty I oI (D + 1) oC (D + 1 + 1) oc' D ys h₃ _ _ hlt hdc F₃ N₃ off hI (Nat.lt_succ_self _) (Nat.lt_succ_self _)) (fun v s₄ h₄ => ?_) fun _ _ e => e
        refine EltEnd.elim (G := fun v' s' => wpAny (model prog w) A (call (Value.builtin "list.append") [Value.ref D, v']) _ _ s') h₄ ?_
        clear h₄
        intro h₄ tk₄ u F₄ N₄
        have zI := (N₄ (I, oI) List.mem_cons_self).1
        have zC := (N₄ (D + 1, oC) (List.mem_cons_of_mem _ List.mem_cons_self)).1
        have zD := (N₄ (D, lst ys) (List.mem_cons_of_mem _ (List.mem_cons_of_mem _ (List.mem_cons_of_mem _ List.mem_cons_self))))
        have hst₄ : IsRangeIter h₄ I (0 + ((i + 1 : Nat) : Int) * 1) ((n : Int) - ((i + 1 : Nat) : Int)) 1 := by
          have q : h₃.get? I = some _ := hst₃
          rw [heI] at q
          show h₄.get? I = some _
          rw [zI]
          exact q
        refine append_at (hsz := by show ys.toArray.size ≤ sizeLine; rw [List.size_toArray, hyl]; exact Nat.le_trans hi hsz) zD.1 fun h₅ hs₅ hD₅ => ?_
        have hzi : zs[i]? = some (zs.getD i 0) := by
          rw [List.getD_eq_getElem?_getD, List.getElem?_eq_getElem (by omega)]
          rfl
        refine ⟨n + 1 - (i + 1), by omega, h₅, tk₄, i + 1, ys ++ [.int (zs.getD i 0) u], _, oc', _, rfl, hlt, rfl, by rw [List.length_append, List.length_singleton, hyl], ?_,
          W.frame _ _ _ hst₄ (fun b hb o e => hs₅.extBut b o (fun q => hDI (q.symm.trans (List.mem_singleton.mp hb))) e), F₄.change hs₅ zD.2.1 zD.2.2, (hoC.ns zC).sameBut hs₅ (Nat.ne_of_gt (Nat.lt_succ_self _)), hdc, fun p hp => ?_⟩
        · rw [List.take_add_one, hzi]
          exact ints_snoc hyi
        · rcases List.mem_cons.mp hp with rfl | hp
          · have z := N₄ (D + 1 + 1, oc') (List.mem_cons_of_mem _ (List.mem_cons_of_mem _ List.mem_cons_self))
            exact ⟨hs₅.extBut _ _ (Nat.ne_of_gt (Nat.lt_succ_of_lt (Nat.lt_succ_self _))) z.1, z.2⟩
          · rcases List.mem_cons.mp hp with rfl | hp
            · exact ⟨hD₅.trans (congrArg some (lst_snoc ys _)), zD.2⟩
            · have z := N₄ p (List.mem_cons_of_mem _ (List.mem_cons_of_mem _ (List.mem_cons_of_mem _ (List.mem_cons_of_mem _ hp))))
              exact ⟨hs₅.extBut _ _ (Nat.ne_of_lt (nD p hp)) z.1, z.2⟩
      · obtain rfl : i = n := Nat.le_antisymm hi (Nat.not_lt.mp hlt)
        refine W.done _ _ _ hst' fun h₂ tk₂ hk₂ => ?_
        have N₂ : News h₀ L h₂ ((D + 1 + 1, oc) :: (D, lst ys) :: news) := news_but N' hk₂ fun p hp => by
          rcases List.mem_cons.mp hp with rfl | hp
          · exact Ne.symm hIc
          · rcases List.mem_cons.mp hp with rfl | hp
            · exact hDI
            · exact nI p hp
        refine hRR _ _ h₂ tk₂ _ ys (fr_but F' hk₂ (Nat.ne_of_lt hLI) hI₀) (fun p hp => N₂ p (List.mem_cons_of_mem _ hp)) ?_ nD hLD (hn'.at' fun o e => hk₂ _ o (by simpa using Ne.symm hIC) e) (Nat.ne_of_gt (Nat.lt_succ_of_lt hLD)) (fresh₀ _ (Nat.le_succ _)) (Nat.ne_of_lt (Nat.lt_succ_self _))
          (fun p hp => Nat.ne_of_lt (Nat.lt_succ_of_lt (nD p hp)))
        rw [← hzs, List.take_length] at hyi
        exact hyi
    · rcases List.mem_cons.mp hp with rfl | hp
      · exact ⟨hc₁, Nat.ne_of_gt (Nat.lt_succ_of_lt (Nat.lt_succ_of_lt hLD)), fresh₀ _ (Nat.le_succ_of_le (Nat.le_succ _))⟩
      · rcases List.mem_cons.mp hp with rfl | hp
        · exact ⟨hacc, Nat.ne_of_gt hLD, fresh₀ _ (Nat.le_refl _)⟩
        · exact ⟨old _ _ (N p hp).1, (N p hp).2⟩
  exact codeAny_compStart_list (loop _ rfl) (W.self 0 _ _ _ hst₁ (loop _ rfl))

theorem ListComp_K {elt iter : Expr} {x : Str} {px : Pos} {scope : Scope} {cl : List (Str × Addr)} {pos : Pos} {Q : Value → Shared → Prop} {n : Nat} {zs : List Int} (_F₀ : Fr h₀ L s.heap m)
    (hclos : closureFor scope env = pure cl) (hkind : scope.kind = .function)
    (hnames : ∀ y ∈ scope.names, y.2 = .local → scope.names.lookup y.1 = some .local)
    (hcf : ∀ k, cellsFrom k scope.names cl = (x, k) :: cl) (hpc : ∀ h : Heap, pushCells h scope.names = h.push { cls := .type "cell", data := .cell none })
    (hx : (relabel scope env).names.lookup x = some .cell) (hzs : zs.length = n) (hsz : n ≤ 100) (hsm : Builtin.Range.small 0 (n : Int) 1 = true) (hrs : Builtin.Range.rangeSize 0 (n : Int) 1 = ((n : Nat) : Int))
    (h : wpAny (model prog w) A (eval iter env) (fun xv s₁ => ∃ r t u v news, xv = .ref r ∧ A.handled = none ∧ Fr h₀ L s₁.heap m ∧ News h₀ L s₁.heap news ∧ IsRange s₁.heap r 0 (n : Int) 1 t u v ∧
      (∀ i ty I oI C oC c oc D ys h tk (E' : Value → Shared → Prop), i < n → oc.data = .cell (some (.int (i : Int) ty)) → Fr h₀ L h m → News h₀ L h ((I, oI) :: (C, oC) :: (c, oc) :: (D, lst ys) :: news) → (∀ p ∈ news, p.1 < I) → I < D → D < C → C < c →
        wpAny (model prog w) A (eval elt (compEnvC scope ((x, c) :: cl) C env)) (EltEnd h₀ L m ((I, oI) :: (C, oC) :: (c, oc) :: (D, lst ys) :: news) (zs.getD i 0) { s₁ with heap := h, toks := tk }) E' { s₁ with heap := h, toks := tk }) ∧
      (∀ D h tk ys, Fr h₀ L h m → News h₀ L h ((D, lst ys) :: news) → IntsAre ys zs → (∀ p ∈ news, p.1 < D) → L < D → Q (.ref D) { s₁ with heap := h, toks := tk })) E s)
    (hs : ∀ x, foldedSetIterable iter env x = pure x := by intro _; rfl) :
    wpAny (model prog w) A (eval (.ListComp elt [⟨.Name x px, iter, [], 0⟩] scope pos) env) Q E s := by
  rw [eval_ListComp]
  refine wpAny_comprehension_free (use := none) rfl hs hclos hkind hnames (wpAny_mono h (fun xv s₁ h₁ => ?_) fun _ _ e => e)
  obtain ⟨r, t, u, v, news, rfl, hh, F, N, hr, hturn, hfin⟩ := h₁
  refine wpAny_pyIter_range hr hsm ?_
  refine block_K (news := news) hh hzs (by rw [sizeLine_eq]; omega) hkind hcf hpc hx (by show IsRangeIter _ _ _ _ _; rw [hrs]; simpa using Heap.get?_push_size _ rfl)
    (F.keeps fun _ _ e => Heap.get?_push_of_some _ e) (N.grown fun _ _ e => Heap.get?_push_of_some _ e) F.ns.lt (by show s₁.heap.objs.size < (s₁.heap.push _).objs.size; rw [Heap.size_push]; exact Nat.lt_succ_self _) (next_is_new F) (fun p hp => Heap.lt_size (N p hp).1)
    (fun i ty I oI C oC c oc D ys h tk E' hi hoc F' N' hp l1 l2 l3 => hturn i ty I oI C oC c oc D ys h tk E' hi hoc F' N' hp l1 l2 l3) ?_
  intro D C h tk m' ys F' N' hys hlt hLD hn hCL hC₀ hDC offC
  refine ⟨m', hn, fun h'' hs'' => hfin D h'' tk ys (F'.change hs'' hCL hC₀) (fun p hp => ?_) hys hlt hLD⟩
  refine ⟨hs''.extBut _ _ ?_ (N' p hp).1, (N' p hp).2⟩
  rcases List.mem_cons.mp hp with rfl | hp
  · exact hDC
  · exact offC p hp
end
end Mine
end

section
open Sem (wp)
namespace Mine
/-- what kn_post says of every code, said of one result -/
theorem kn_imp {s₁ s' : Shared} {cw : ClaimW} {cl : Str → Option Addr} {mean : ExcName → Option Value} {args : List WData} {tabs : List (Addr × Addr)} (w : World) (prog : Program) (hT : TabsAt tabs s₁.heap) (hr : ∀ a x, cw.raises a x = false) {r : Result}
    (h : GoodW cw cl mean args { s₁ with heap := ghostOf s₁.heap tabs } r s' ∧ GrownAll tabs s'.heap) : GoodWG cw cl mean args s₁ r s' := by
  cases r with
  | ok f =>
    have H := kn_post (M := ⟨fun _ => .pure (.done f), prog, w⟩) (A := {}) (cd := .builtin "x" {}) (s := s') hT hr (codeAny_of_tree (wpAny_pure h)) ⟨.builtin "x" {}, none, none, [], none⟩ default rfl
      ⟨rfl, Nat.le_refl _, fun _ e => by (cases e), fun _ e => by (cases e), Nat.zero_le _⟩
    rw [wpCode_iff_wp] at H
    exact H
  | error e =>
    have H := kn_post (M := ⟨fun _ => .raise e, prog, w⟩) (A := {}) (cd := .builtin "x" {}) (s := s') hT hr (codeAny_of_tree (wpAny_throw h)) ⟨.builtin "x" {}, none, none, [], none⟩ default rfl
      ⟨rfl, Nat.le_refl _, fun _ e => by (cases e), fun _ e => by (cases e), Nat.zero_le _⟩
    rw [wpCode_iff_wp] at H
    exact H

section
variable {prog : Program} {w : World} {A : Around} {R : Result → Shared → Prop} {s : Shared}
theorem enterC_call {c : ClaimW} {cl : Str → Option Addr} {mean : ExcName → Option Value} {args : List WData} {s₁ : Shared} {f : Value} {pos : List Value} {tabs : List (Addr × Addr)} (hT : TabsAt tabs s₁.heap) (hr : ∀ a x, c.raises a x = false)
    (h : codeC (model prog w) A (.call f ⟨pos, []⟩) (fun r s' => GoodW c cl mean args { s₁ with heap := ghostOf s₁.heap tabs } r s' ∧ GrownAll tabs s'.heap) s) :
    wpC (model prog w) A (PySem.call f pos) (fun v s' => GoodWG c cl mean args s₁ (.ok (.ret v)) s') (fun e s' => GoodWG c cl mean args s₁ (.error e) s') s :=
  wpC_call (codeC_mono h fun res s' g => by
    have g := kn_imp w prog hT hr g
    rcases g.1 with ⟨v, _, _, rfl, _⟩ | ⟨e, _, _, rfl, _⟩ <;> exact g)

theorem call_cellsC {name : Str} {params : Arguments} {body : List Stmt} {scope : Scope}
    {pm cd doc : Value} {a : Addr} {o : Obj} {args : List Value} {binds : List (Str × Value)}
    (hroom : A.depth < recursionLimit) (ho : s.heap.get? a = some o) (hdata : o.data = .func (Calls.docDef name params body scope pm cd doc)) (hlim : s.heap.NoLimit) (hcd : s.heap.CodeRec cd name)
    (hbind : bindArgs (Calls.docDef name params body scope pm cd doc) ⟨args, []⟩ = pure binds)
    (hkind : ∀ x ∈ binds, scope.names.lookup x.1 = some .local ∨ (scope.names.lookup x.1 = some .cell ∧ ((cellsFrom (s.heap.objs.size + 1) scope.names []).lookup x.1).isSome = true))
    (hnd : ((cellsFrom 0 scope.names []).map (·.1)).Nodup)
    (h : ∀ h₁ tk cells, Fr s.heap s.heap.objs.size h₁ (bindL (envOfC name scope s.heap.objs.size a cd).kindOf binds fun _ => none) → News s.heap s.heap.objs.size h₁ cells →
      CellsAre (bindC (envOfC name scope s.heap.objs.size a cd).kindOf binds fun _ => none) (cellsFrom (s.heap.objs.size + 1) scope.names []) cells →
      wpC (model prog w) (A.deeper (envOfC name scope s.heap.objs.size a cd)) (execs body (envOfC name scope s.heap.objs.size a cd))
        (fun f s' => R (.ok (.ret (match f with | .ret v => v | _ => .none))) s')
        (fun e s' => wpAny (model prog w) (A.deeper (envOfC name scope s.heap.objs.size a cd)) (leaving (envOfC name scope s.heap.objs.size a cd) e)
          (fun _ s'' => R (.error e) s'') (fun e' s'' => R (.error e') s'') s')
        { s with heap := h₁, toks := tk })
    (hco : scope.isCoroutine = false := by rfl) (hgen : scope.isGenerator = false := by rfl) (hk : scope.kind = .function := by rfl) :
    codeC (model prog w) A (.call (.ref a) ⟨args, []⟩) R s := by
  refine codeC_call_function hroom ho hdata hco hgen rfl hcd ?_
  rw [hbind]
  refine wpAny_pure (wpAny_newFunctionEnv_cells hk hkind fun env he s' x => ?_)
  subst he
  refine ⟨hlim.keeps x.toInCall.keep, codeC_func ?_⟩
  obtain ⟨h₁, tk, rfl, _⟩ := x.done
  obtain ⟨cells, N, Y⟩ := Cl.news (h₀ := s.heap) (Nat.le_refl _) fun n c hm => ⟨x.cell n c (lookup_of_mem_nodup (cellsFrom_names scope.names 0 (s.heap.objs.size + 1) [] [] rfl ▸ hnd) hm), x.above n c hm⟩
  exact h h₁ tk cells ⟨x.toInCall.ns, x.toInCall.keep, x.toInCall.fresh⟩ N Y
end
end Mine
end

section
open Sem (wp)
namespace Mine
section
variable {M : Model} {A : Around} {E : Value → Shared → Prop} {s : Shared} {env : Env} {pos : Pos}
theorem wpC_assign {x : Str} {pos' : Pos} {value : Expr} {Q : Flow → Shared → Prop}
    (h : wpC M A (eval value env) (fun v s₁ => wpAny M A (storeName env x v) (fun _ => Q .next) E s₁) E s)
    (hs : swapsWith value (some (.Name x pos')) pos.line env = pure false := by rfl) :
    wpC M A (exec (.Assign [.Name x pos'] value pos) env) Q E s := fun Γ p hΓ hC => by
  simp only [exec_Assign_Name env x pos' value pos hs, Sem.wp_bind', Sem.wp_cmd_standAt, Sem.wp_bindName, Sem.wp_pure']
  exact Sem.wp_mono M Γ _ (fun v _ s₁ h₁ => h₁ Γ _ hΓ) (fun _ _ _ h' => h') _ _ (h Γ _ hΓ hC)
theorem wpC_binOp {l r : Expr} {op : Operator} {Q : Value → Shared → Prop}
    (h : wpAny M A (eval l env) (fun a s₁ => wpC M A (eval r env) (fun b s₂ => wpAny M A (binaryOp op a b) Q E s₂) E s₁) E s) : wpC M A (eval (.BinOp l op r pos) env) Q E s := by
  rw [arm_eval_BinOp]
  refine wpC_bind (wpC_of (wpAny_mono h (fun a s₁ h₁ => wpC_bind (wpC_holding (wpC_mono h₁ (fun b s₂ h₂ => ?_) fun _ _ x => x))) fun _ _ x => x))
  exact wpC_of (wpAny_bind (wpAny_standAt (wpAny_operate' h₂)))
theorem wpC_callName {x : Str} {np : Pos} {e : Expr} {rest : List Expr} {Q : Value → Shared → Prop} (hs : starEach (e :: rest) env = (false, eval e env) :: starEach rest env)
    (h : wpAny M A (eval (.Name x np) env) (fun f s₁ => wpC M A (callWith pos f [] (backTo pos ((false, eval e env) :: starEach rest env)) []) Q E s₁) E s) : wpC M A (eval (.Call (.Name x np) (e :: rest) [] pos) env) Q E s := by
  rw [arm_eval_Call_Name', hs]
  exact wpC_bind (wpC_of h)
theorem wpC_keep {α : Type} {vs : List Value} {m : Sem α} {Q : α → Shared → Prop} (h : wpC M A m Q E s) : wpC M A (m.keep vs) Q E s :=
  fun Γ p hΓ hC => by rw [Sem.wp_keep]; exact h Γ p hΓ hC
theorem wpC_tail {t : Sem Value} {Q : Value → Shared → Prop} (ht : wpC M A t Q E s) : wpC M A (t >>= fun r => holding [r] point >>= fun _ => pure r) Q E s :=
  wpC_bind (wpC_mono ht (fun r s₂ hr => wpC_of (wpAny_bind (wpAny_holding (wpAny_point (wpAny_pure hr))))) fun _ _ x => x)
theorem wpC_callWith_def {a : Addr} {o : Obj} {fd : FuncData} {x : Sem Value} {rest : List (Bool × Sem Value)} {Q : Value → Shared → Prop} (hd : o.data = .func fd)
    (h : wpAny M A (spliced ((false, x) :: rest)) (fun vs s₁ => s₁.heap.get? a = some o ∧ wpC M A (call (.ref a) vs) Q E s₁) E s) :
    wpC M A (callWith pos (.ref a) [] ((false, x) :: rest) []) Q E s := by
  unfold callWith
  refine wpC_bind (wpC_holding (wpC_of (Calls.evalArgs_plain (wpAny_mono h (fun vs s₁ h₁ => wpC_bind (wpC_standAt ?_)) fun _ _ x => x))))
  refine wpC_bind (m := keeperOf (.ref a)) (wpC_of ?_)
  unfold keeperOf
  refine wpAny_bind (wpAny_load h₁.1 ?_)
  rw [hd]
  refine wpAny_pure ?_
  cases (((false, x) :: rest).any (·.1) || ([] : List (Option Str × Sem Value)).any (·.1.isNone)) with
  | true => exact wpC_tail (by unfold callMarked; exact wpC_keep h₁.2)
  | false =>
    dsimp only
    split
    · exact wpC_tail h₁.2
    · exact wpC_tail (by unfold callMarked; exact wpC_keep h₁.2)
theorem wpC_callWith_type {T : String} {x : Sem Value} {rest : List (Bool × Sem Value)} {Q : Value → Shared → Prop} (hplain : rest.any (·.1) = false)
    (h : wpAny M A (spliced ((false, x) :: rest)) (fun vs s₁ => wpC M A (call (.type T) vs) Q E s₁) E s) :
    wpC M A (callWith pos (.type T) [] ((false, x) :: rest) []) Q E s := by
  unfold callWith
  refine wpC_bind (wpC_holding (wpC_of (Calls.evalArgs_plain (wpAny_mono h (fun vs s₁ h₁ => wpC_bind (wpC_standAt ?_)) fun _ _ x => x))))
  refine wpC_bind (m := keeperOf (.type T)) (wpC_pure ?_)
  simp only [List.any_cons, hplain, List.any_nil, Bool.or_false]
  exact wpC_tail h₁
end
end Mine
end

section
open Sem (wp)
namespace Mine
theorem ba_mro : mroOf (.type "bytearray") = pure [.type "bytearray", .type "object"] := by rw [mroOf_type]; kernel_rfl
theorem ba_lookup_new : typeLookup (.type "bytearray") "__new__" = pure (some (.builtin "bytearray.__new__")) := by rw [typeLookup_type, builtinLookup_eq_fast]; kernel_rfl
theorem ba_slot_init : Slot "bytearray" "__init__" "bytearray.__init__" :=
  .of (owner := "bytearray") (n := "__init__") (by rw [typeLookup_type, builtinLookup_eq_fast]; kernel_rfl) (by decide +kernel) (by decide +kernel) (by decide +kernel)
    (by first | exact .inl (by decide +kernel) | exact .inr (by decide +kernel)) (by rw [isSubtype_type]; kernel_rfl)
theorem ba_called : TypeCalled "bytearray" "bytearray.__new__" "bytearray.__init__" :=
  ⟨by decide +kernel, by decide +kernel, ⟨_, _, ba_mro⟩, madeBy_type ba_mro ba_lookup_new (by decide +kernel), by decide +kernel, by rw [isSubtype_type]; kernel_rfl, ba_slot_init⟩
theorem ba_typeCall (a : Value) : checkTypeCall "bytearray" ⟨[a], []⟩ = pure () := by kernel_rfl
theorem ba_newCall (a : Value) : checkBuiltinCall "bytearray.__new__" ⟨[.type "bytearray", a], []⟩ = pure () := by kernel_rfl
theorem ba_entry_new : entryFor table "bytearray.__new__" = some Builtin.«list.__new__» := entryFor_alias (id' := "list.__new__") (by rw [fastTable_eq_tree]; kernel_rfl) (by decide +kernel) (by kernel_rfl) (by rw [fastTable_eq_tree]; kernel_rfl)
theorem ba_entry_init : entryFor table "bytearray.__init__" = some Builtin.«bytearray.__init__» := entryFor_of_tree (by kernel_rfl)
theorem ba_plain_new : plainId "bytearray.__new__" = true := by decide +kernel
theorem ba_plain_init : plainId "bytearray.__init__" = true := by decide +kernel
theorem ba_sub : isSubtype (.type "bytearray") (.type "bytearray") = pure true := F.sub_bytearray_bytearray

set_option maxHeartbeats 4000000 in
theorem ba_owner : ("bytearray.__new__".splitOn ".__new__").headD "" = "bytearray" := by simp +decide [String.splitOn, String.splitOnAux]
section
variable {prog : Program} {w : World} {A : Around} {E : Value → Shared → Prop} {s : Shared}
theorem ba_new (a : Value) {Q₁ : Value → Shared → Prop}
    (h : Q₁ (.ref s.heap.objs.size) { s with heap := s.heap.push { cls := .type "bytearray", data := .bytearray #[] } }) :
    codeAny (model prog w) A (.call (.builtin "bytearray.__new__") ⟨[.type "bytearray", a], []⟩) (wants Q₁ E) s := by
  refine codeAny_of_tree ?_
  show wpAny _ A.in1 (do checkBuiltinCall "bytearray.__new__" ⟨[.type "bytearray", a], []⟩; again (.builtin "bytearray.__new__" ⟨[.type "bytearray", a], []⟩)) _ _ s
  refine wpAny_bind (wpAny_of_eq (ba_newCall a) (wpAny_pure ⟨plainId_quiet ba_plain_new _, codeAny_builtin_stack ba_entry_new rfl fun p st => ?_⟩))
  rw [Around.under_plainId ba_plain_new _]
  have hsub := ba_sub
  have hown := ba_owner
  obtain ⟨hp, g, d, tk, os⟩ := s
  simp only [hown]
  wp_walk
  exact h
end
end Mine
end

section
open Sem (wp)
namespace Mine
theorem ba_look_release : typeLookup (.type "bytearray") "__release_buffer__" = pure (some (.builtin "bytearray.__release_buffer__")) := by rw [typeLookup_type, builtinLookup_eq_fast]; kernel_rfl
theorem ba_look_buffer : typeLookup (.type "bytearray") "__buffer__" = pure (some (.builtin "bytearray.__buffer__")) := by rw [typeLookup_type, builtinLookup_eq_fast]; kernel_rfl
theorem ba_bind (v : Value) : Builtin.Bytes.bindOptional "bytearray.__init__" "bytearray" ["source", "encoding", "errors"] [v] [] = pure [some v, none, none] := by kernel_rfl
theorem ba_len : ("__release_buffer__".length + 1) = 19 := by decide +kernel
theorem ba_drop : ("bytearray.__release_buffer__".dropRight ("__release_buffer__".length + 1)) = "bytearray" := by decide +kernel
theorem ba_drop2 : ("bytearray.__buffer__".dropRight ("__buffer__".length + 1)) = "bytearray" := by decide +kernel
theorem ba_ends : ("bytearray.__release_buffer__".endsWith ("." ++ "__release_buffer__")) = true := by decide +kernel
theorem ba_ends2 : ("bytearray.__buffer__".endsWith ("." ++ "__buffer__")) = true := by decide +kernel
section
theorem wpC_if_false {α : Type} {M : Model} {A : Around} {E : Value → Shared → Prop} {s : Shared} {c : Bool} {a b : Sem α} {Q : α → Shared → Prop} (hc : c = false) (h : wpC M A b Q E s) : wpC M A (if c = true then a else b) Q E s := by
  subst hc
  exact h
variable {prog : Program} {w : World} {A : Around} {E : Value → Shared → Prop} {s : Shared}
theorem ba_release {D : Addr} {Q : Bool → Shared → Prop} (hT : s.TypeIs (.ref D) "bytearray") (h : Q false s) : wpAny (model prog w) A (Builtin.Bytes.ownRelease (.ref D)) Q E s := by
  unfold Builtin.Bytes.ownRelease Builtin.Bytes.slotIsOwn
  refine wpAny_bind (wpAny_bind (wpAny_specialOf hT ba_look_release ?_))
  dsimp only
  rw [ba_ends, ba_drop]
  refine bm_if_false rfl ?_
  refine wpAny_isInstance hT ba_sub ?_
  exact wpAny_pure h
theorem ba_typeIs {h : Heap} {D : Addr} {b : Array UInt8} {d : Option Addr} (hD : h.get? D = some { cls := .type "bytearray", dict := d, data := .bytearray b }) {s : Shared} (e : s.heap = h) : s.TypeIs (.ref D) "bytearray" := by
  subst e
  exact ⟨_, hD, rfl⟩
theorem ba_write {D : Addr} {b : Array UInt8} {f : Array UInt8 → Array UInt8} {Q : Unit → Shared → Prop} (hD : s.heap.get? D = some { cls := .type "bytearray", data := .bytearray b }) (hz : (f b).size ≤ sizeLine)
    (h : Q () { s with heap := s.heap.update D (Obj.mapBytearray f) }) : wpAny (model prog w) A (Builtin.Bytes.write (.ref D) f) Q E s := by
  show wpAny _ _ (updateBytearray D f) _ _ _
  unfold updateBytearray
  refine wpAny_bind (wpAny_load hD ?_)
  show wpAny _ _ (update D (Obj.mapBytearray f) >>= fun _ => lookBehind D) _ _ _
  refine wpAny_bind (wpAny_update hD ?_)
  refine wpAny_lookBehind (o := Obj.mapBytearray f { cls := .type "bytearray", data := .bytearray b }) (Heap.get?_update_self (Obj.mapBytearray f) hD rfl) ?_ h
  show (if (f b).size > sizeLine then some "bytearray:memory" else none) = none
  rw [if_neg (Nat.not_lt.mpr hz)]
theorem ba_init {D : Addr} {n : Int} {t : Tok} (hg : A.guards = some []) (hD : s.heap.get? D = some { cls := .type "bytearray", data := .bytearray #[] }) (h0 : 0 < n) (h1 : n < 100) {Q : Fin → Shared → Prop}
    (h : ∀ h', (∀ b o, b ≠ D → s.heap.get? b = some o → h'.get? b = some o) → h'.get? D = some { cls := .type "bytearray", data := .bytearray (Array.replicate n.toNat 0) } → Q (.done (.ret .none)) { s with heap := h' }) :
    wpC (model prog w) A (Builtin.«bytearray.__init__» ⟨[.ref D, .int n t], []⟩) Q E s := by
  have hT : s.TypeIs (.ref D) "bytearray" := ba_typeIs hD rfl
  unfold Builtin.«bytearray.__init__»
  refine wpC_bind (wpC_of (ba_release hT ?_))
  refine wpC_if_false rfl ?_
  refine wpC_bind (wpC_of (wpAny_of_eq (ba_bind _) ?_))
  refine wpC_bind (wpC_of (wpAny_of_eq (a := ()) rfl ?_))
  refine wpC_bind (wpC_of (wpAny_of_eq (a := ()) rfl ?_))
  refine wpC_bind ?_
  show wpC _ _ (Builtin.Bytes.exported (.ref D) >>= _) _ _ _
  refine wpC_bind (wpC_exported ?_)
  refine wpC_of ?_
  show wpAny _ _ (Builtin.Bytes.exportsOf (.ref D) >>= _) _ _ _
  refine wpAny_bind ?_
  unfold Builtin.Bytes.exportsOf
  refine wpAny_bind (wpAny_load hD ?_)
  refine wpAny_pure (wpAny_pure (wpC_of ?_))
  refine bm_if_false rfl ?_
  refine wpAny_bind (ba_write hD (Nat.zero_le _) ?_)
  refine wpAny_bind (wpAny_of_eq (a := none) rfl ?_)
  refine bm_if_false rfl ?_
  refine wpAny_bind (wpAny_of_eq (a := ()) rfl ?_)
  refine wpAny_bind (wpAny_specialOf (T := "int") (typeIs_int _ n t) int_index ?_)
  refine bm_if_true rfl ?_
  refine wpAny_bind (wpAny_attempt (wpAny_of_eq (rfl : asIndex (.int n t) = pure n) ?_))
  refine bm_if_false (by unfold Builtin.Bytes.fitsIndex; simp only [Bool.not_eq_false', Bool.and_eq_true, decide_eq_true_eq]; omega) ?_
  dsimp only
  rw [if_neg (by omega : ¬ n < 0)]
  refine bm_if_false (beq_eq_false_iff_ne.mpr (by omega)) ?_
  refine bm_if_false (by unfold Builtin.Bytes.tooLong; rw [sizeLine_eq]; exact decide_eq_false (by omega)) ?_
  refine wpAny_bind (wpAny_rule ?_)
  rw [if_pos (by omega : n > 0)]
  have hD2 := Heap.get?_update_self (Obj.mapBytearray fun _ => #[]) hD rfl
  refine wpAny_bind (ba_write (b := #[]) hD2 (by simp only [Array.size_replicate]; rw [sizeLine_eq]; omega) ?_)
  refine wpAny_pure ?_
  refine h _ (fun b o hb e => ?_) ?_
  · rw [Heap.get?_update_other _ _ (Ne.symm hb), Heap.get?_update_other _ _ (Ne.symm hb)]
    exact e
  · exact Heap.get?_update_self (Obj.mapBytearray fun _ => Array.replicate n.toNat 0) hD2 rfl
theorem ba_initCall (D : Addr) (v : Value) : True := trivial
theorem codeC_call_builtin {id : String} {args : Args} {b : Builtin} {R : Result → Shared → Prop} (hq : plainId id = true) (hdec : dec (.builtin id args) = false) (hb : entryFor table id = some b)
    (h : wpAny (model prog w) A.in1 (checkBuiltinCall id args) (fun _ s₁ => wpC (model prog w) A.in1 (b args)
      (fun fin s' => match fin with | .done f => R (.ok f) s' | .again c' => c'.quiet = true ∧ codeC (model prog w) A c' R s') (fun e s' => R (.error e) s') s₁)
      (fun e s' => R (.error e) s') s) : codeC (model prog w) A (.call (.builtin id) args) R s := by
  refine codeC_of_tree (dec_no fun _ _ => rfl) ?_
  show wpC _ A.in1 (do checkBuiltinCall id args; again (.builtin id args)) _ _ s
  refine wpC_bind (wpC_of (wpAny_mono h (fun _ s₁ h₁ => wpC_pure (And.intro (plainId_quiet hq args) (codeC_of_tree hdec ?_))) fun _ _ h' => h'))
  rw [Around.under_plainId hq args]
  show wpC _ _ (match entryFor table id with | some b => b args | none => unsupported ((withoutEnding? id "#data").getD id)) _ _ s₁
  rw [hb]; exact h₁
end
end Mine
end

section
open Sem (wp)
namespace Mine
section
variable {prog : Program} {w : World} {A : Around} {E : Value → Shared → Prop} {s : Shared}
theorem ba_args (a b : Value) : argsOk "bytearray.__init__" ⟨[a, b], []⟩ := by
  unfold argsOk
  kernel_rfl
theorem codeC_builtin {id : String} {args : Args} {b : Builtin} {R : Result → Shared → Prop} (hdec : dec (.builtin id args) = false) (hb : entryFor table id = some b)
    (h : wpC (model prog w) (A.under (.builtin id args)) (b args)
      (fun fin s' => match fin with | .done f => R (.ok f) s' | .again c' => c'.quiet = true ∧ codeC (model prog w) A c' R s') (fun e s' => R (.error e) s') s) :
    codeC (model prog w) A (.builtin id args) R s := by
  refine codeC_of_tree hdec ?_
  show wpC _ _ (match entryFor table id with | some b => b args | none => unsupported ((withoutEnding? id "#data").getD id)) _ _ s
  rw [hb]; exact h
theorem ba_made {n : Int} {t : Tok} (hg : A.guards = some []) (h0 : 0 < n) (h1 : n < 100) {Q : Value → Shared → Prop}
    (h : ∀ h', (∀ b o, s.heap.get? b = some o → h'.get? b = some o) → h'.get? s.heap.objs.size = some { cls := .type "bytearray", data := .bytearray (Array.replicate n.toNat 0) } → Q (.ref s.heap.objs.size) { s with heap := h' }) :
    wpC (model prog w) A (call (.type "bytearray") [.int n t]) Q E s := by
  refine wpC_call (codeC_of_tree (dec_no fun _ _ => rfl) (wpC_of ?_))
  show wpAny _ _ (callAny (.type "bytearray") _) _ _ _
  refine wpAny_pure ⟨Code.quiet_builtin _ (by decide +kernel), codeC_builtin (dec_no fun _ _ => by first | exact rfl | exact dec_and (by decide +kernel)) F.entry_type_call ?_⟩
  rw [Around.under_plain (weight_type_call_type "bytearray" [.int n t] []) rfl]
  unfold Builtin.«type.__call__»
  have ht := ba_called.notType
  have hc := ba_called.canCreate
  refine wpC_if_false ht ?_
  refine wpC_if_false hc ?_
  refine wpC_bind (wpC_of (wpAny_of_eq (ba_typeCall _) ?_))
  refine wpC_bind (wpC_of (wpAny_of_eq ba_mro ?_))
  refine wpC_if_false rfl ?_
  refine wpC_bind (wpC_of (wpAny_of_eq ba_called.made ?_))
  refine wpC_bind (wpC_pure ?_)
  dsimp only
  refine wpC_bind (wpC_holding (wpC_of (wpAny_call (codeAny_mono (ba_new (E := E) (Q₁ := fun obj s₁ => obj = .ref s.heap.objs.size ∧ s₁ = { s with heap := s.heap.push { cls := .type "bytearray", data := .bytearray #[] } }) (.int n t) ⟨rfl, rfl⟩) fun r s₁ hr => ?_))))
  cases r with
  | error e => exact hr
  | ok fl =>
    cases fl with
    | ret obj =>
      obtain ⟨rfl, rfl⟩ := hr
      have hD := Heap.get?_push_size s.heap (o := { cls := .type "bytearray", data := .bytearray #[] }) rfl
      have hT : Shared.TypeIs { s with heap := s.heap.push { cls := .type "bytearray", data := .bytearray #[] } } (.ref s.heap.objs.size) "bytearray" := ba_typeIs hD rfl
      refine wpC_bind (wpC_of (wpAny_isInstance hT ba_sub ?_))
      refine wpC_if_false rfl ?_
      refine wpC_bind (wpC_holding ?_)
      unfold callSpecial?
      refine wpC_bind (wpC_of (wpAny_specialOf hT ba_slot_init.lookup ?_))
      dsimp only
      refine wpC_holding (wpC_bind (wpC_of (wpAny_of_eq (ba_slot_init.bind _) ?_)))
      dsimp only
      refine wpC_bind (wpC_call (codeC_call_builtin ba_plain_init (dec_no fun _ _ => by first | exact rfl | exact dec_and (by decide +kernel)) ba_entry_init ?_))
      refine ba_slot_init.check _ _ _ _ _ _ _ _ hT (ba_args _ _) ?_
      refine wpC_mono (t := Builtin.«bytearray.__init__» ⟨[.ref s.heap.objs.size, .int n t], []⟩) (ba_init (A := A.in1.in1) (s := { s with heap := s.heap.push { cls := .type "bytearray", data := .bytearray #[] } }) (D := s.heap.objs.size)
        (Q := fun fin s' => ∃ h', fin = .done (.ret .none) ∧ s' = { s with heap := h' } ∧ (∀ b o, b ≠ s.heap.objs.size → (s.heap.push { cls := .type "bytearray", data := .bytearray #[] }).get? b = some o → h'.get? b = some o) ∧ h'.get? s.heap.objs.size = some { cls := .type "bytearray", data := .bytearray (Array.replicate n.toNat 0) })
        (E := fun _ _ => False) (show A.in1.in1.guards = some [] from hg) hD h0 h1 fun h' hk hD' => ⟨h', rfl, rfl, hk, hD'⟩) ?_ (fun _ _ x => False.elim x)
      rintro fin s' ⟨h', rfl, rfl, hk, hD'⟩
      dsimp only
      refine wpC_pure ?_
      exact wpC_pure (h h' (fun b o e => hk b o (Nat.ne_of_lt (Heap.lt_size e)) (Heap.get?_push_of_some _ e)) hD')
    | _ => exact hr.elim
end
end Mine
end

section
open Sem (wp)
namespace Mine
theorem ba_slot_set : Slot "bytearray" "__setitem__" "bytearray.__setitem__" :=
  .of (owner := "bytearray") (n := "__setitem__") (by rw [typeLookup_type, builtinLookup_eq_fast]; kernel_rfl) (by decide +kernel) (by decide +kernel) (by decide +kernel)
    (by first | exact .inl (by decide +kernel) | exact .inr (by decide +kernel)) (by rw [isSubtype_type]; kernel_rfl)
theorem ba_entry_set : entryFor table "bytearray.__setitem__" = some Builtin.«bytearray.__setitem__» := entryFor_of_tree (by kernel_rfl)
theorem ba_args_set (a b c : Value) : argsOk "bytearray.__setitem__" ⟨[a, b, c], []⟩ := by
  unfold argsOk
  kernel_rfl
theorem ba_seqIndex {k : Int} {n : Nat} (h0 : 0 ≤ k) (h1 : k < n) : seqIndex? k n = some k.toNat := seqIndex_of h0 h1
section
variable {prog : Program} {w : World} {A : Around} {E : Value → Shared → Prop} {s : Shared}
theorem ba_set {D : Addr} {b : Array UInt8} {k x : Int} {t u : Tok} {Q : Unit → Shared → Prop} (hD : s.heap.get? D = some { cls := .type "bytearray", data := .bytearray b }) (h0 : 0 ≤ k) (h1 : k < b.size) (hb : b.size ≤ 100) (x0 : 0 ≤ x) (x1 : x < 256)
    (hQ : Q () { s with heap := s.heap.update D (Obj.mapBytearray (·.setIfInBounds k.toNat x.toNat.toUInt8)) }) : wpAny (model prog w) A (setItem (.ref D) (.int k t) (.int x u)) Q E s := by
  have hT : s.TypeIs (.ref D) "bytearray" := ba_typeIs hD rfl
  unfold setItem
  try with_reducible refine wpAny_holding ?_
  first | refine wpAny_bind (wpAny_pure ?_) | skip
  refine wpAny_bind (wpAny_sequenceKey hT (by decide) ?_)
  refine wpAny_bind (wpAny_callSpecial?_slot (name := Str.ofString "__setitem__") hT ba_slot_set
    (wpAny_call_entry ba_slot_set hT ba_entry_set ?_ (ba_args_set _ _ _)))
  unfold Builtin.«bytearray.__setitem__»
  refine bm_if_false rfl ?_
  refine wpAny_bind ?_
  unfold Builtin.Bytes.subscript?
  refine wpAny_bind (wpAny_specialOf (T := "int") (typeIs_int _ k t) int_index ?_)
  refine bm_if_false rfl ?_
  refine wpAny_bind (wpAny_of_eq (rfl : asIndex (.int k t) = pure k) ?_)
  refine bm_if_false (by unfold Builtin.Bytes.fitsIndex; simp only [Bool.not_eq_false', Bool.and_eq_true, decide_eq_true_eq]; omega) ?_
  refine wpAny_pure ?_
  dsimp only
  refine wpAny_bind ?_
  unfold Builtin.Bytes.byteValue
  refine wpAny_bind (wpAny_of_eq (rfl : asIndex (.int x u) = pure x) ?_)
  refine bm_if_false (by simp only [Bool.or_eq_false_iff, decide_eq_false_iff_not]; omega) ?_
  refine wpAny_pure ?_
  refine wpAny_bind ?_
  unfold Builtin.Bytes.payload Builtin.Bytes.payload?
  refine wpAny_bind (wpAny_bind (wpAny_load hD ?_))
  refine wpAny_pure (wpAny_pure ?_)
  rw [ba_seqIndex h0 h1]
  refine wpAny_bind (ba_write hD (by rw [Array.size_setIfInBounds, sizeLine_eq]; omega) ?_)
  exact wpAny_bind (wpAny_pure (wpAny_pure ⟨.none, rfl, wpAny_pure hQ⟩))
end
end Mine
end

section
open Sem (wp)
namespace Mine
theorem ba_no_bytes : typeLookup (.type "bytearray") "__bytes__" = pure none := by rw [typeLookup_type, builtinLookup_eq_fast]; kernel_rfl
theorem ba_no_index : typeLookup (.type "bytearray") "__index__" = pure none := by rw [typeLookup_type, builtinLookup_eq_fast]; kernel_rfl
section
variable {prog : Program} {w : World} {A : Around} {E : Value → Shared → Prop} {s : Shared}
theorem ba_own_buffer {D : Addr} {Q : Bool → Shared → Prop} (hT : s.TypeIs (.ref D) "bytearray") (h : Q true s) : wpAny (model prog w) A (Builtin.Bytes.slotIsOwn (.ref D) "__buffer__") Q E s := by
  unfold Builtin.Bytes.slotIsOwn
  refine wpAny_bind (wpAny_specialOf hT ba_look_buffer ?_)
  try dsimp only
  rw [ba_ends2, ba_drop2]
  refine bm_if_false rfl ?_
  exact wpAny_isInstance hT ba_sub h
theorem ba_bytes {D : Addr} {b : Array UInt8} {Q : Value → Shared → Prop} (hD : s.heap.get? D = some { cls := .type "bytearray", data := .bytearray b }) (hb : b.size ≤ 100)
    (hQ : ∀ t k, Q (.bytes b t) { s with toks := k }) :
    codeAny (model prog w) A (.call (.builtin "bytes.__new__") ⟨[.type "bytes", .ref D], []⟩) (wants Q E) s := by
  refine codeAny_of_tree ?_
  show wpAny _ A.in1 (do checkBuiltinCall "bytes.__new__" ⟨[.type "bytes", .ref D], []⟩; again (.builtin "bytes.__new__" ⟨[.type "bytes", .ref D], []⟩)) _ _ s
  refine wpAny_bind (wpAny_of_eq (F.bm_newCall _) (wpAny_pure ⟨plainId_quiet F.bm_plain _, codeAny_builtin F.bm_entry ?_⟩))
  rw [Around.under_plainId F.bm_plain _]
  have hT : s.TypeIs (.ref D) "bytearray" := ba_typeIs hD rfl
  unfold Builtin.«bytes.__new__»
  refine wpAny_bind (wpAny_of_eq (a := true) rfl ?_)
  refine bm_if_false rfl ?_
  refine wpAny_bind (wpAny_of_eq F.bm_sub ?_)
  refine bm_if_false rfl ?_
  refine wpAny_bind (wpAny_of_eq (F.bm_bind _) ?_)
  refine wpAny_bind (wpAny_of_eq (a := ()) rfl ?_)
  refine wpAny_bind (wpAny_of_eq (a := ()) rfl ?_)
  refine bm_if_false rfl ?_
  refine wpAny_bind (wpAny_specialOf hT ba_no_bytes ?_)
  refine wpAny_bind (wpAny_bind ?_)
  show wpAny _ _ (load D >>= _) _ _ _
  refine wpAny_bind (wpAny_load hD ?_)
  refine wpAny_pure (wpAny_pure ?_)
  refine bm_if_false rfl ?_
  refine wpAny_bind (wpAny_specialOf hT ba_no_index ?_)
  refine bm_if_true rfl ?_
  first
    | show wpAny _ _ (Builtin.Bytes.buffer? "bytes.__new__" (.ref D) true >>= _) _ _ _
    | (refine wpAny_bind ?_; show wpAny _ _ (Builtin.Bytes.buffer? "bytes.__new__" (.ref D) true >>= _) _ _ _)
  refine wpAny_bind ?_
  unfold Builtin.Bytes.buffer?
  refine wpAny_bind (wpAny_specialOf hT ba_look_buffer ?_)
  try dsimp only
  refine wpAny_bind (ba_own_buffer hT ?_)
  refine bm_if_false rfl ?_
  refine wpAny_bind (wpAny_specialOf hT ba_look_buffer ?_)
  try dsimp only
  refine wpAny_bind (ba_release hT ?_)
  refine bm_if_false rfl ?_
  unfold Builtin.Bytes.payload Builtin.Bytes.payload?
  refine wpAny_bind (wpAny_bind (wpAny_bind (wpAny_load hD ?_)))
  refine wpAny_pure (wpAny_pure (wpAny_pure ?_))
  try dsimp only
  refine wpAny_bind (wpAny_rule ?_)
  refine wpAny_bind (wpAny_mkBytes ?_ (by rw [sizeLine_eq]; omega))
  show wpAny _ _ (if (Value.type "bytes" == Value.type "bytes") = true then _ else _) _ _ _
  refine bm_if_true (by decide) ?_
  first
    | exact wpAny_pure (hQ _ _)
    | exact wpAny_bind (wpAny_pure (wpAny_pure (hQ _ _)))
    | exact wpAny_pure (wpAny_pure (hQ _ _))
theorem ba_to_bytes {D : Addr} {b : Array UInt8} {Q : Value → Shared → Prop} (hD : s.heap.get? D = some { cls := .type "bytearray", data := .bytearray b }) (hb : b.size ≤ 100)
    (hQ : ∀ t k, Q (.bytes b t) { s with toks := k }) : wpAny (model prog w) A (call (.type "bytes") [.ref D]) Q E s := by
  refine callType_codes (Q₁ := fun obj s₁ => s₁.TypeIs obj "bytes" ∧ Q obj s₁) F.bm_called (F.bm_typeCall _) F.entry_object_init
    (ba_bytes hD hb fun t k => ⟨PySem.W.typeIs_bytes _ _ _, hQ t k⟩) fun obj s₁ h₁ => ?_
  exact ⟨h₁.1, F.args_object_init_2 obj _, object_init_meets F.bm_called.init.lookup F.bm_called.made (by decide) prog w A.in1 _ s₁ ⟨h₁.1, rfl, h₁.2⟩⟩
end
end Mine
end

namespace Mine
section
variable {prog : Program} {w : World} {A : Around} {E : Value → Shared → Prop} {s : Shared}
abbrev ByteAt (b : Array UInt8) : Nat → Value → Prop := fun i v => ∃ c u, b[i]? = some c ∧ v = .int (c.toNat : Int) u
theorem extend_bytes {R : Result → Shared → Prop} (hh : A.handled = none) (x : Array UInt8) (t : Tok) (S : Addr) (res : Value) (c₀ : Nat) (hS : s.heap.get? S = some { cls := .type "list", data := .seq #[] c₀ })
    (hR : ∀ h' tk acc' c', (∀ b o, b ≠ S → s.heap.get? b = some o → h'.get? b = some o) → h'.get? S = some { cls := .type "list", dict := none, data := .seq acc' c', slots := #[] } →
      ItemsOf (ByteAt x) acc' x.size → R (.ok (.ret res)) { s with heap := h', toks := tk }) (hn : x.size ≤ sizeLine) :
    wpAny (model prog w) A.in1 (Builtin.List.listExtendWith (.ref S) (.bytes x t) res)
      (fun fin s' => match fin with | .done f => R (.ok f) s' | .again c' => c'.quiet = true ∧ codeAny (model prog w) A c' R s') (fun e s' => R (.error e) s') s := by
  have hSI : S ≠ s.heap.objs.size := Nat.ne_of_lt (Heap.lt_size hS)
  have hSf : S ∉ [s.heap.objs.size] := fun hm => hSI (List.mem_singleton.mp hm)
  have hT : ∀ s : Shared, s.TypeIs (.bytes x t) "bytes" := fun s => PySem.W.typeIs_bytes s x t
  unfold Builtin.List.listExtendWith
  refine wpAny_bind (wpAny_typeOf (hT s) ?_)
  have h1 : Builtin.List.listSameRef (.ref S) (.bytes x t) = false := rfl
  have h2 : (Value.type "bytes" == Value.type "list") = false := by decide
  have h3 : (Value.type "bytes" == Value.type "tuple") = false := by decide
  simp only [h1, h2, h3, Bool.or_false, Bool.false_eq_true, if_false]
  refine wpAny_bind (KBw.pyIter_bytes ?_)
  refine wpAny_bind (wpAny_holding ?_)
  unfold Builtin.List.listLengthHint
  refine wpAny_bind (wpAny_specialOf (hT _) FB.slot_bytes_len.lookup ?_)
  wp_delta
  refine wpAny_bind (wpAny_isInstance (hT _) (b := true) (by rw [isSubtype_type]; kernel_rfl) ?_)
  show wpAny _ _ (typeOf (Value.bytes x t) >>= _) _ _ _
  refine wpAny_bind (wpAny_typeOf (hT _) ?_)
  refine wpAny_pure ?_
  rw [if_neg (by decide)]
  refine wpAny_pure ⟨plainId_quiet F.plain_extend_loop _, codeAny_extend_loopS (KBw.walks (A := A.in1) hh s.heap.objs.size x t).toS hn _ hSf _ x.size 0 _ _ _ rfl (Nat.zero_le _) ⟨_, Heap.get?_push_size _ rfl, rfl, rfl⟩ (Heap.get?_push_of_some _ hS) (ItemsOf.nil _) fun s' acc' c' hm hS' hacc => ?_⟩
  rw [Moved.eq_with hm]
  refine hR s'.heap s'.toks acc' c' (fun b ob hb e => hm.heap b ob (fun hmem => ?_) (Heap.get?_push_of_some _ e)) hS' hacc
  rcases List.mem_cons.mp hmem with e' | hmem
  · exact hb e'
  · exact absurd (Heap.lt_size e) (by rw [List.mem_singleton.mp hmem]; exact Nat.lt_irrefl _)
theorem init_bytes {R : Result → Shared → Prop} (hh : A.handled = none) (x : Array UInt8) (t : Tok) (S : Addr) (hS : s.heap.get? S = some { cls := .type "list", data := .seq #[] })
    (hR : ∀ h' tk acc' c', (∀ b o, b ≠ S → s.heap.get? b = some o → h'.get? b = some o) → h'.get? S = some { cls := .type "list", dict := none, data := .seq acc' c', slots := #[] } →
      ItemsOf (ByteAt x) acc' x.size → R (.ok (.ret .none)) { s with heap := h', toks := tk }) (hn : x.size ≤ sizeLine) :
    wpAny (model prog w) A.in1 (Builtin.«list.__init__» ⟨[.ref S, .bytes x t], []⟩)
      (fun fin s' => match fin with | .done f => R (.ok f) s' | .again c' => c'.quiet = true ∧ codeAny (model prog w) A c' R s') (fun e s' => R (.error e) s') s := by
  show wpAny _ _ (do let old ← Builtin.List.listItems (.ref S); Builtin.List.listUpdate (.ref S) (fun _ => #[]); letGo old.toList.reverse; Builtin.List.listExtendWith (.ref S) (.bytes x t) .none) _ _ s
  refine wpAny_bind ?_
  unfold Builtin.List.listItems
  refine wpAny_bind (wpAny_seqItems hS rfl (wpAny_pure ?_))
  show wpAny _ _ (updateSeq S (fun _ => #[]) >>= fun _ => letGo (#[] : Array Value).toList.reverse >>= fun _ => Builtin.List.listExtendWith (.ref S) (.bytes x t) .none) _ _ s
  refine wpAny_bind (wpAny_updateSeq hS rfl ?_)
  have hS₂ := Heap.get?_update_self (Obj.mapSeq (fun _ => (#[] : Array Value))) hS rfl
  have oth : ∀ b o, b ≠ S → s.heap.get? b = some o → (s.heap.update S (Obj.mapSeq (fun _ => (#[] : Array Value)))).get? b = some o :=
    fun b o hb e => (Heap.get?_update_other _ _ (Ne.symm hb)).trans e
  refine wpAny_bind (wpAny_letGo ?_)
  refine extend_bytes (hn := hn) hh x t S .none _ hS₂ fun h' tk acc' c' hk hS' hacc => ?_
  exact hR h' tk acc' c' (fun b o hb e => hk b o hb (oth b o hb e)) hS' hacc
theorem list_bytes {Q : Value → Shared → Prop} (hh : A.handled = none) (x : Array UInt8) (t : Tok) (hn : x.size ≤ sizeLine)
    (hQ : ∀ h' tk acc' c', (∀ b o, s.heap.get? b = some o → h'.get? b = some o) →
      h'.get? s.heap.objs.size = some { cls := .type "list", dict := none, data := .seq acc' c', slots := #[] } → ItemsOf (ByteAt x) acc' x.size → Q (.ref s.heap.objs.size) { s with heap := h', toks := tk }) :
    wpAny (model prog w) A (call (.type "list") [.bytes x t]) Q E s := by
  refine callType_codes (Q₁ := fun obj s₁ => obj = .ref s.heap.objs.size ∧ s₁ = { s with heap := s.heap.push { cls := .type "list", data := .seq #[] } }) F.called_list (F.typeCall_list_1 _) F.entry_list_init
    (code_list_new _ ⟨rfl, rfl⟩) fun obj s₁ h₁ => ?_
  obtain ⟨rfl, rfl⟩ := h₁
  have hS : (s.heap.push { cls := .type "list", data := .seq #[] }).get? s.heap.objs.size = some { cls := .type "list", data := .seq #[] } := Heap.get?_push_size _ rfl
  refine ⟨⟨_, hS, rfl⟩, F.args_list_init_2 _ _, init_bytes (A := A.in1) (hn := hn) hh x t _ hS fun h' tk acc' c' hk hS' hacc => ?_⟩
  exact ⟨rfl, hQ h' tk acc' c' (fun b o e => hk b o (Nat.ne_of_lt (Heap.lt_size e)) (Heap.get?_push_of_some _ e)) hS' hacc⟩
end
end Mine

namespace Mine
theorem intsAre_at : ∀ {vs : List Value} {ns : List Int}, vs.length = ns.length → (∀ (j : Nat) (v : Value), vs[j]? = some v → ∃ n u, ns[j]? = some n ∧ v = .int n u) → IntsAre vs ns
  | [], [], _, _ => .nil
  | [], _ :: _, e, _ => by cases e
  | _ :: _, [], e, _ => by cases e
  | v :: vs, n :: ns, e, h => by
    obtain ⟨n', u, hn, rfl⟩ := h 0 v rfl
    cases hn
    exact .cons _ _ (intsAre_at (Nat.succ.inj e) fun j v hj => h (j + 1) v hj)
theorem items_bytes {x : Array UInt8} {acc : Array Value} (h : ItemsOf (ByteAt x) acc x.size) : IntsAre acc.toList (KBw.bInts x) := by
  refine intsAre_at (by rw [KBw.ints_length]; exact h.1) fun j v hj => ?_
  obtain ⟨c, u, hc, rfl⟩ := h.2 j v (by simpa using hj)
  refine ⟨_, u, ?_, rfl⟩
  unfold KBw.bInts
  rw [List.getElem?_map]
  rw [show x.toList[j]? = some c from by simpa using hc]
  rfl
section
variable {prog : Program} {w : World} {A : Around} {E : Value → Shared → Prop} {s : Shared} {h₀ : Heap} {L : Addr} {m : Str → Option Value} {news : List (Addr × Obj)} {ns : List Int} {b : Array UInt8} {t : Tok} {Q : Value → Shared → Prop}
theorem list_of_bytes (F : Fr h₀ L s.heap m) (N : News h₀ L s.heap news) (hh : A.handled = none) (hb : KBw.bInts b = ns) (hn : ns.length ≤ 100)
    (h : ∀ D h' k vs c, s.heap.objs.size ≤ D → IntsAre vs ns → (∀ b o, s.heap.get? b = some o → h'.get? b = some o) → Fr h₀ L h' m → News h₀ L h' ((D, listOf vs.toArray c) :: news) → (∀ q ∈ news, q.1 < D) → Q (.ref D) { s with heap := h', toks := k }) :
    wpAny (model prog w) A (call (.type "list") [.bytes b t]) Q E s := by
  have hz : b.size ≤ sizeLine := by rw [sizeLine_eq, ← KBw.ints_length, hb]; omega
  refine list_bytes hh b t hz fun h' tk acc' c' ext hD hi => ?_
  have N' := N.grown ext
  obtain ⟨N'', lt⟩ := news_made (o := listOf acc'.toList.toArray c') F N N' (Nat.le_refl _) (by rw [Array.toArray_toList]; exact hD)
  exact h _ h' tk acc'.toList c' (Nat.le_refl _) (hb ▸ items_bytes hi) ext (F.keptAll ext) N'' lt
end
end Mine

section
open PySem PySem.W PySem.Calls PyProof.Rows PyProof.V PySem.Spec
namespace Mine
open PySem.Builtin
theorem meets_step (b : Array UInt8) (t us : Tok) (a : Addr) {l : Value} {lo : Option Int} (hl : IsPart l lo) :
    Meets («bytes.__getitem__» ⟨[.bytes b t, .ref a], []⟩) (fun _ R s => s.heap.IsSliceOf a l .none (.int 2 us) ∧ (sliceBounds lo none (some 2) b.size).2.2 = 2 ∧
      (Bytes.sliced b (sliceBounds lo none (some 2) b.size).1 (sliceBounds lo none (some 2) b.size).2.1 2).size ≤ sizeLine ∧
      ∀ t' k, R (.ok (.ret (.bytes (Bytes.sliced b (sliceBounds lo none (some 2) b.size).1 (sliceBounds lo none (some 2) b.size).2.1 2) t'))) { s with toks := k }) := by
  refine .of_wp fun prog w A R s hS => ?_
  obtain ⟨⟨o, ho, hc, hd⟩, hst, hsz, h⟩ := hS
  have hT : s.TypeIs (.ref a) "slice" := ⟨o, ho, hc⟩
  show wpAny _ _ (Bytes.payload (.bytes b t) >>= fun r => _) _ _ s
  refine wpAny_bind (wpAny_of_eq (a := b) rfl ?_)
  show wpAny _ _ (Bytes.subscript? (.ref a) >>= fun r => _) _ _ s
  refine wpAny_bind ?_
  unfold Bytes.subscript?
  refine wpAny_bind (wpAny_specialOf hT slice_no_index (wpAny_pure ?_))
  refine wpAny_bind (wpAny_typeOf hT ?_)
  show wpAny _ _ (Bytes.sliceParts (.ref a) >>= fun r => _) _ _ s
  refine wpAny_bind ?_
  unfold Bytes.sliceParts
  refine wpAny_bind (wpAny_field (x := .int 2 us) ho hd rfl ?_)
  kby_int
  refine wpAny_ite (KBy.ite_no (by decide +kernel) ?_)
  refine wpAny_bind (wpAny_field (x := l) ho hd rfl ?_)
  have go : wpAny (model prog w) A.in1 (sliceIndices (rawPart lo) (rawPart none) (rawPart (some 2)) b.size) (fun r s' => r = sliceBounds lo none (some 2) b.size ∧ s' = s) (fun _ _ => False) s :=
    wpAny_of_eq (sliceIndices_raw lo none (some 2) b.size (by decide)) ⟨rfl, rfl⟩
  cases hl <;> (first
    | (kby_none; (refine wpAny_bind (wpAny_field (x := .none) ho hd rfl ?_)); kby_none)
    | (kby_int; (refine wpAny_bind (wpAny_field (x := .none) ho hd rfl ?_)); kby_none)) <;> refine wpAny_pure ?_
  all_goals
    refine wpAny_bind (wpAny_mono go (fun r s' hr => ?_) fun _ _ e => e.elim)
    obtain ⟨hr1, hr2⟩ := hr
    subst hr1 hr2
    refine wpAny_ite (KBy.ite_no (by simp) ?_)
    exact wpAny_bind (wpAny_mkBytes (wpAny_pure ⟨_, rfl, h _ _⟩) hsz)
end Mine
namespace Mine
section
variable {prog : Program} {w : World} {A : Around} {E : Value → Shared → Prop} {s : Shared} {value slice : PySem.Expr} {b : Array UInt8} {t us : Tok} {h₀ : Heap} {L : Addr} {m : PySem.Str → Option Value} {news : List (Addr × Obj)} {l : Value} {lo : Option Int} {Q : Value → Shared → Prop} {ns : List Int}
abbrev stepped (b : Array UInt8) (lo : Option Int) : Array UInt8 := PySem.Builtin.Bytes.sliced b (sliceBounds lo none (some 2) b.size).1 (sliceBounds lo none (some 2) b.size).2.1 2
theorem step_K (hF : Fr h₀ L s.heap m) (hN : News h₀ L s.heap news) (hl : IsPart l lo) (hz : (stepped b lo).size ≤ 100)
    (h : ∀ h' t' k, Fr h₀ L h' m → News h₀ L h' news → Q (.bytes (stepped b lo) t') { s with heap := h', toks := k })
    (hs : subscripted slice false (.bytes b t) (.ref s.heap.objs.size) = operate [.ref s.heap.objs.size, .bytes b t] (getItem (.bytes b t) (.ref s.heap.objs.size)) := by with_unfolding_all rfl)
    (ht : ∀ r, letTemporaryGo value (.bytes b t) r = pure () := by intro _; with_unfolding_all rfl) :
    wpAny (model prog w) A (subscriptTail value slice (.bytes b t) (.ref s.heap.objs.size)) Q E { s with heap := s.heap.push { cls := .type "slice", data := .fields #[l, .none, .int 2 us] } } :=
  tail_of_ItemOn ⟨"bytes", _, FB.slot_bytes_getitem.lookup, typeIs_bytes _ _ _, getItem_meets (typeIs_bytes _ _ _) (by decide) FB.slot_bytes_getitem FB.entry_bytes_getitem (FB.args_bytes_getitem_2 _ _) (meets_step b t us _ hl)
    ⟨Heap.IsSliceOf.new _ _ _ _, rfl, Nat.le_trans hz (by rw [sizeLine_eq]; omega), fun t' k => h _ _ _ (hF.push _) (News.pushKeep hN _)⟩⟩ hs ht
theorem arr_of {a : Int} {r : List Int} {cs : List UInt8} (h : cs.map (fun c => (c.toNat : Int)) = a :: r) : ∃ c cs', cs = c :: cs' ∧ (c.toNat : Int) = a ∧ cs'.map (fun c => (c.toNat : Int)) = r := by
  cases cs with
  | nil => cases h
  | cons c cs' => exact ⟨c, cs', rfl, (List.cons.inj h).1, (List.cons.inj h).2⟩
theorem stepped4 {a0 a1 a2 a3 : Int} (h : KBw.bInts b = [a0, a1, a2, a3]) : KBw.bInts (stepped b none) = [a0, a2] ∧ KBw.bInts (stepped b (some 1)) = [a1, a3] := by
  unfold KBw.bInts at h
  obtain ⟨c0, l0, e0, rfl, g0⟩ := arr_of h
  obtain ⟨c1, l1, rfl, rfl, g1⟩ := arr_of g0
  obtain ⟨c2, l2, rfl, rfl, g2⟩ := arr_of g1
  obtain ⟨c3, l3, rfl, rfl, g3⟩ := arr_of g2
  obtain rfl : l3 = [] := List.map_eq_nil_iff.mp g3
  obtain rfl : b = #[c0, c1, c2, c3] := Array.toList_inj.mp e0
  exact ⟨by kernel_rfl, by kernel_rfl⟩
theorem stepped2 {a0 a1 : Int} (h : KBw.bInts b = [a0, a1]) : KBw.bInts (stepped b none) = [a0] ∧ KBw.bInts (stepped b (some 1)) = [a1] := by
  unfold KBw.bInts at h
  obtain ⟨c0, l0, e0, rfl, g0⟩ := arr_of h
  obtain ⟨c1, l1, rfl, rfl, g1⟩ := arr_of g0
  obtain rfl : l1 = [] := List.map_eq_nil_iff.mp g1
  obtain rfl : b = #[c0, c1] := Array.toList_inj.mp e0
  exact ⟨by kernel_rfl, by kernel_rfl⟩
theorem step2_none {a0 a1 : Int} (hF : Fr h₀ L s.heap m) (hN : News h₀ L s.heap news) (hb : KBw.bInts b = [a0, a1])
    (h : ∀ b' h' t' k, Fr h₀ L h' m → News h₀ L h' news → KBw.bInts b' = [a0] → Q (.bytes b' t') { s with heap := h', toks := k })
    (hs : subscripted slice false (.bytes b t) (.ref s.heap.objs.size) = operate [.ref s.heap.objs.size, .bytes b t] (getItem (.bytes b t) (.ref s.heap.objs.size)) := by with_unfolding_all rfl)
    (ht : ∀ r, letTemporaryGo value (.bytes b t) r = pure () := by intro _; with_unfolding_all rfl) :
    wpAny (model prog w) A (subscriptTail value slice (.bytes b t) (.ref s.heap.objs.size)) Q E { s with heap := s.heap.push { cls := .type "slice", data := .fields #[.none, .none, .int 2 us] } } :=
  step_K (lo := none) hF hN (by constructor) (by rw [← KBw.ints_length, (stepped2 hb).1]; exact Nat.le_of_ble_eq_true rfl) (fun h' t' k F' N' => h _ h' t' k F' N' (stepped2 hb).1) hs ht
theorem step2_one {a0 a1 : Int} {ul : Tok} (hF : Fr h₀ L s.heap m) (hN : News h₀ L s.heap news) (hb : KBw.bInts b = [a0, a1])
    (h : ∀ b' h' t' k, Fr h₀ L h' m → News h₀ L h' news → KBw.bInts b' = [a1] → Q (.bytes b' t') { s with heap := h', toks := k })
    (hs : subscripted slice false (.bytes b t) (.ref s.heap.objs.size) = operate [.ref s.heap.objs.size, .bytes b t] (getItem (.bytes b t) (.ref s.heap.objs.size)) := by with_unfolding_all rfl)
    (ht : ∀ r, letTemporaryGo value (.bytes b t) r = pure () := by intro _; with_unfolding_all rfl) :
    wpAny (model prog w) A (subscriptTail value slice (.bytes b t) (.ref s.heap.objs.size)) Q E { s with heap := s.heap.push { cls := .type "slice", data := .fields #[(.int 1 ul), .none, .int 2 us] } } :=
  step_K (lo := (some 1)) hF hN (by constructor) (by rw [← KBw.ints_length, (stepped2 hb).2]; exact Nat.le_of_ble_eq_true rfl) (fun h' t' k F' N' => h _ h' t' k F' N' (stepped2 hb).2) hs ht
theorem step4_none {a0 a1 a2 a3 : Int} (hF : Fr h₀ L s.heap m) (hN : News h₀ L s.heap news) (hb : KBw.bInts b = [a0, a1, a2, a3])
    (h : ∀ b' h' t' k, Fr h₀ L h' m → News h₀ L h' news → KBw.bInts b' = [a0, a2] → Q (.bytes b' t') { s with heap := h', toks := k })
    (hs : subscripted slice false (.bytes b t) (.ref s.heap.objs.size) = operate [.ref s.heap.objs.size, .bytes b t] (getItem (.bytes b t) (.ref s.heap.objs.size)) := by with_unfolding_all rfl)
    (ht : ∀ r, letTemporaryGo value (.bytes b t) r = pure () := by intro _; with_unfolding_all rfl) :
    wpAny (model prog w) A (subscriptTail value slice (.bytes b t) (.ref s.heap.objs.size)) Q E { s with heap := s.heap.push { cls := .type "slice", data := .fields #[.none, .none, .int 2 us] } } :=
  step_K (lo := none) hF hN (by constructor) (by rw [← KBw.ints_length, (stepped4 hb).1]; exact Nat.le_of_ble_eq_true rfl) (fun h' t' k F' N' => h _ h' t' k F' N' (stepped4 hb).1) hs ht
theorem step4_one {a0 a1 a2 a3 : Int} {ul : Tok} (hF : Fr h₀ L s.heap m) (hN : News h₀ L s.heap news) (hb : KBw.bInts b = [a0, a1, a2, a3])
    (h : ∀ b' h' t' k, Fr h₀ L h' m → News h₀ L h' news → KBw.bInts b' = [a1, a3] → Q (.bytes b' t') { s with heap := h', toks := k })
    (hs : subscripted slice false (.bytes b t) (.ref s.heap.objs.size) = operate [.ref s.heap.objs.size, .bytes b t] (getItem (.bytes b t) (.ref s.heap.objs.size)) := by with_unfolding_all rfl)
    (ht : ∀ r, letTemporaryGo value (.bytes b t) r = pure () := by intro _; with_unfolding_all rfl) :
    wpAny (model prog w) A (subscriptTail value slice (.bytes b t) (.ref s.heap.objs.size)) Q E { s with heap := s.heap.push { cls := .type "slice", data := .fields #[(.int 1 ul), .none, .int 2 us] } } :=
  step_K (lo := (some 1)) hF hN (by constructor) (by rw [← KBw.ints_length, (stepped4 hb).2]; exact Nat.le_of_ble_eq_true rfl) (fun h' t' k F' N' => h _ h' t' k F' N' (stepped4 hb).2) hs ht
end
end Mine
end

namespace Mine
section
variable {prog : Program} {w : World} {A : Around} {E : Value → Shared → Prop} {s : Shared} {b : Array UInt8} {t : Tok} {Q : Value → Shared → Prop} {ns : List Int} {n : Int}
theorem len_is (hb : KBw.bInts b = ns) (hn : (ns.length : Int) = n) (h1 : n ≤ 100) (h : ∀ t' k, Q (.int n t') { s with toks := k }) : wpAny (model prog w) A (call (.builtin "len") [.bytes b t]) Q E s := by
  subst hb
  rw [KBw.ints_length] at hn
  exact call_len_gives (typeIs_bytes s b t) FB.slot_bytes_len FB.entry_bytes_len (FB.args_bytes_len_1 _) (hn ▸ gives_bytes_len b t) (by omega) (by omega) (by first | exact h _ _ | exact fun t' k => h t' k)
theorem len1 {a0 : Int} (hb : KBw.bInts b = [a0]) (h : ∀ t' k, Q (.int 1 t') { s with toks := k }) : wpAny (model prog w) A (call (.builtin "len") [.bytes b t]) Q E s := len_is hb rfl (by simp) h
theorem len2 {a0 a1 : Int} (hb : KBw.bInts b = [a0, a1]) (h : ∀ t' k, Q (.int 2 t') { s with toks := k }) : wpAny (model prog w) A (call (.builtin "len") [.bytes b t]) Q E s := len_is hb rfl (by simp) h
theorem len3 {a0 a1 a2 : Int} (hb : KBw.bInts b = [a0, a1, a2]) (h : ∀ t' k, Q (.int 3 t') { s with toks := k }) : wpAny (model prog w) A (call (.builtin "len") [.bytes b t]) Q E s := len_is hb rfl (by simp) h
theorem len4 {a0 a1 a2 a3 : Int} (hb : KBw.bInts b = [a0, a1, a2, a3]) (h : ∀ t' k, Q (.int 4 t') { s with toks := k }) : wpAny (model prog w) A (call (.builtin "len") [.bytes b t]) Q E s := len_is hb rfl (by simp) h
end
end Mine

namespace Mine
theorem news_lt {h h₀ : Heap} {L D : Addr} {m : Str → Option Value} (F : Fr h₀ L h m) (hD : h.objs.size ≤ D) : LT.lt (α := Nat) L D := Nat.lt_of_lt_of_le F.ns.lt hD
theorem size_le {L D : Addr} {n : Nat} (e : L = n) (h : L < D) : n ≤ D := e ▸ Nat.le_of_lt h
section
variable {prog : Program} {w : World} {A : Around} {E : Value → Shared → Prop} {s : Shared} {h₀ : Heap} {L : Addr} {m : Str → Option Value} {news : List (Addr × Obj)} {b : Array UInt8} {t : Tok} {Q : Value → Shared → Prop}
theorem list_bytes1 {a0 : Int} (F : Fr h₀ L s.heap m) (N : News h₀ L s.heap news) (hh : A.handled = none) (hb : KBw.bInts b = [a0])
    (h : ∀ D h' k u0 c, s.heap.objs.size ≤ D → LT.lt (α := Nat) L D → (∀ b o, s.heap.get? b = some o → h'.get? b = some o) → Fr h₀ L h' m → News h₀ L h' ((D, listOf #[.int a0 u0] c) :: news) → (∀ q ∈ news, q.1 < D) → Q (.ref D) { s with heap := h', toks := k }) :
    wpAny (model prog w) A (call (.type "list") [.bytes b t]) Q E s := by
  refine list_of_bytes F N hh hb (by simp) fun D h' k vs c hz hi ext F' N' lt => ?_
  obtain ⟨u0, w0, rfl, i0⟩ := IntsAre.cons_inv hi
  obtain rfl := IntsAre.nil_inv i0
  exact h D h' k u0 c hz (Nat.lt_of_lt_of_le F.ns.lt hz) ext F' N' lt
theorem list_bytes4 {a0 a1 a2 a3 : Int} (F : Fr h₀ L s.heap m) (N : News h₀ L s.heap news) (hh : A.handled = none) (hb : KBw.bInts b = [a0, a1, a2, a3])
    (h : ∀ D h' k u0 u1 u2 u3 c, s.heap.objs.size ≤ D → LT.lt (α := Nat) L D → (∀ b o, s.heap.get? b = some o → h'.get? b = some o) → Fr h₀ L h' m → News h₀ L h' ((D, listOf #[.int a0 u0, .int a1 u1, .int a2 u2, .int a3 u3] c) :: news) → (∀ q ∈ news, q.1 < D) → Q (.ref D) { s with heap := h', toks := k }) :
    wpAny (model prog w) A (call (.type "list") [.bytes b t]) Q E s := by
  refine list_of_bytes F N hh hb (by simp) fun D h' k vs c hz hi ext F' N' lt => ?_
  obtain ⟨u0, w0, rfl, i0⟩ := IntsAre.cons_inv hi
  obtain ⟨u1, w1, rfl, i1⟩ := IntsAre.cons_inv i0
  obtain ⟨u2, w2, rfl, i2⟩ := IntsAre.cons_inv i1
  obtain ⟨u3, w3, rfl, i3⟩ := IntsAre.cons_inv i2
  obtain rfl := IntsAre.nil_inv i3
  exact h D h' k u0 u1 u2 u3 c hz (Nat.lt_of_lt_of_le F.ns.lt hz) ext F' N' lt
end
end Mine

namespace Mine
theorem get1 {h : Heap} {D : Addr} {x0 v0 : Int} {u0 : Tok} {c : Nat} (g : h.get? D = some (listOf #[.int x0 u0] c)) (e0 : x0 = v0) : h.get? D = some (listOf #[.int v0 u0] c) := by subst e0; exact g
theorem get2 {h : Heap} {D : Addr} {x0 v0 x1 v1 : Int} {u0 u1 : Tok} {c : Nat} (g : h.get? D = some (listOf #[.int x0 u0, .int x1 u1] c)) (e0 : x0 = v0) (e1 : x1 = v1) : h.get? D = some (listOf #[.int v0 u0, .int v1 u1] c) := by subst e0 e1; exact g
theorem get4 {h : Heap} {D : Addr} {x0 v0 x1 v1 x2 v2 x3 v3 : Int} {u0 u1 u2 u3 : Tok} {c : Nat} (g : h.get? D = some (listOf #[.int x0 u0, .int x1 u1, .int x2 u2, .int x3 u3] c)) (e0 : x0 = v0) (e1 : x1 = v1) (e2 : x2 = v2) (e3 : x3 = v3) : h.get? D = some (listOf #[.int v0 u0, .int v1 u1, .int v2 u2, .int v3 u3] c) := by subst e0 e1 e2 e3; exact g
section
variable {prog : Program} {w : World} {A : Around} {E : Value → Shared → Prop} {s : Shared} {value slice : PySem.Expr} {D : Addr} {b : Array UInt8} {t u ui : Tok} {i n : Int} {ns : List Int} {vs : List Value} {v : Value} {Q : Value → Shared → Prop}
theorem at_list (k : Nat) (hi : i = k) (hk : k < 100) (hl : s.heap.IsList D vs.toArray) (hx : vs[k]? = some v) (h : Q v s)
    (hs : subscripted slice false (.ref D) (.int i u) = operate [.ref D, .int i u] (getItem (.ref D) (.int i u)) := by with_unfolding_all rfl) :
    wpAny (model prog w) A (subscriptTail value slice (.ref D) (.int i u)) Q E s :=
  item_litK hl (by omega) (by omega) (by subst hi; exact hx) h hs
theorem at_bytes (k : Nat) (hi : i = k) (hk : k < 100) (hb : KBw.bInts b = ns) (hz : ns.length < 1000) (hx : ns[k]? = some n) (h : ∀ t' tk, Q (.int n t') { s with toks := tk })
    (hs : subscripted slice false (.bytes b t) (.int i ui) = operate [.bytes b t, .int i ui] (getItem (.bytes b t) (.int i ui)) := by with_unfolding_all rfl)
    (ht : ∀ r, letTemporaryGo value (.bytes b t) r = pure () := by intro _; with_unfolding_all rfl) : wpAny (model prog w) A (subscriptTail value slice (.bytes b t) (.int i ui)) Q E s := by
  subst hi
  have hl : k < ns.length := (List.getElem?_eq_some_iff.mp hx).1
  refine KBw.item_K hb (by omega) (by omega) (by omega) (fun t' tk _ _ => ?_) hs ht
  have e : ns.getD (k : Int).toNat 0 = n := by rw [List.getD_eq_getElem?_getD, Int.toNat_natCast, hx]; rfl
  rw [e]
  exact h t' tk
theorem set_at {h₀ : Heap} {L D : Addr} {m : Str → Option Value} {news news' : List (Addr × Obj)} {vs ws : List Value} {n : Nat} {v : Value} {Q : Unit → Shared → Prop} (k : Nat) (hi : i = k) (hk : k < 100) (F : Fr h₀ L s.heap m) (N : News h₀ L s.heap news) (U : Upd D (listOf vs.toArray n) (listOf ws.toArray n) news news')
    (h1 : k < vs.length) (e : vs.set k v = ws) (h : ∀ h', Fr h₀ L h' m → News h₀ L h' news' → Q () { s with heap := h' }) :
    wpAny (model prog w) A (setItem (.ref D) (.int i t) v) Q E s := by
  subst hi
  exact set_is F N U (by omega) (by omega) e (by omega) h
end
end Mine
namespace Mine
theorem ext0 {h g h' : Heap} {L : Addr} {m : Str → Option Value} {news : List (Addr × Obj)} (hg : ∀ b o, h.get? b = some o → ¬ b ∈ news.map (·.1) → g.get? b = some o) (F : Fr g L h' m) (hn : news.map (·.1) = [44, 37]) :
    ∀ b o, h.get? b = some o → b ≠ 44 → b ≠ 37 → h'.get? b = some o := fun b o e n1 n2 => F.keep _ _ (hg b o e (by rw [hn]; simp [n1, n2]))
theorem tabs_of {h₀ h : Heap} {L : Addr} {news : List (Addr × Obj)} {c1 c2 : Addr} {o1 o2 : Obj} (m1 : (44, tabObj #[rawInt 54, rawInt 4, .ref c2]) ∈ news) (m2 : (37, tabObj #[rawInt 39, rawInt 4, .ref c1]) ∈ news) (m3 : (c2, o2) ∈ news) (m4 : (c1, o1) ∈ news) (N : News h₀ L h news) :
    News h₀ L h (tabs c1 c2 o1 o2) := fun q hq => N q (by
  simp only [tabs, List.mem_cons, List.not_mem_nil, or_false] at hq
  rcases hq with rfl | rfl | rfl | rfl <;> assumption)
end Mine

namespace Mine
theorem execs_cut {M : Model} {A : Around} {st : Stmt} {rest : List Stmt} {env : Env} {Q : Flow → Shared → Prop} {E : Value → Shared → Prop} {s : Shared}
    (h : ∀ (Q' : Flow → Shared → Prop) (E' : Value → Shared → Prop), (∀ s', wpAny M A (execs rest env) Q E s' → Q' .next s') → (∀ v s', Q (.ret v) s' → Q' (.ret v) s') → wpAny M A (exec st env) Q' E' s) :
    wpAny M A (execs (st :: rest) env) Q E s :=
  wpAny_execs_cons (h _ _ (fun _ x => x) (fun _ _ x => x))
/-- the locals as one list -/
def look (l : List (Str × Value)) : Str → Option Value := fun y => l.lookup y
def put (x : Str) (v : Value) : List (Str × Value) → List (Str × Value)
  | [] => [(x, v)]
  | p :: r => if x = p.1 then (x, v) :: r else p :: put x v r
theorem look_put (x : Str) (v : Value) (l : List (Str × Value)) : (fun y => if y = x then some v else look l y) = look (put x v l) := by
  funext y
  unfold look
  have beq : ∀ a : Str, ¬ y = a → (y == a) = false := fun a h => by simpa using h
  induction l with
  | nil =>
    show _ = List.lookup y [(x, v)]
    rw [List.lookup_cons]
    by_cases h : y = x
    · subst h; simp
    · rw [if_neg h, beq _ h]
  | cons p r ih =>
    obtain ⟨a, b⟩ := p
    by_cases h : x = a
    · subst h
      have e : put x v ((x, b) :: r) = (x, v) :: r := by simp [put]
      rw [e, List.lookup_cons, List.lookup_cons]
      by_cases hy : y = x
      · subst hy; simp
      · rw [if_neg hy, beq _ hy]
    · have e : put x v ((a, b) :: r) = (a, b) :: put x v r := by simp [put, h]
      rw [e, List.lookup_cons, List.lookup_cons]
      by_cases ha : y = a
      · subst ha
        have q : ¬ y = x := fun q => h q.symm
        rw [if_neg q]; simp
      · rw [beq _ ha]
        exact ih
theorem canon0 {g h : Heap} {L : Addr} {bs l : List (Str × Value)} {G : Prop} (F : Fr g L h (fun y => bs.lookup y)) (e : bs = l) (k : Fr g L h (look l) → G) : G := k (e ▸ F)
theorem canon {g h : Heap} {L : Addr} {x : Str} {v : Value} {l l' : List (Str × Value)} {G : Prop} (F : Fr g L h (fun y => if y = x then some v else look l y)) (e : put x v l = l') (k : Fr g L h (look l') → G) : G :=
  k (e ▸ look_put x v l ▸ F)
end Mine
namespace Mine
theorem cutQ {α β : Type} {M M₂ : Model} {A : Around} {t : Sem α} {A₂ : α → Shared → Around} {t₂ : α → Shared → Sem β} {Q₂ : α → Shared → β → Shared → Prop} {E₂ : α → Shared → Value → Shared → Prop} {s₂ : α → Shared → Shared} {E : Value → Shared → Prop} {s : Shared}
    (h : ∀ (Q : α → Shared → Prop), (∀ a s', wpAny M₂ (A₂ a s') (t₂ a s') (Q₂ a s') (E₂ a s') (s₂ a s') → Q a s') → wpAny M A t Q E s) :
    wpAny M A t (fun a s' => wpAny M₂ (A₂ a s') (t₂ a s') (Q₂ a s') (E₂ a s') (s₂ a s')) E s := h _ fun _ _ x => x
end Mine
namespace Mine
theorem mod_closed {prog : Program} {w : World} {A : Around} {E : Value → Shared → Prop} {s : Shared} {a b : Int} {t u : Tok} {Q : Value → Shared → Prop} (_hc : a < 1000000) (h0 : 0 < b) (h : Q (.int (a % b) s.toks) { s with toks := s.toks + 1 }) : wpAny (model prog w) A (binaryOp .Mod (.int a t) (.int b u)) Q E s := mod_is h0 h
end Mine

namespace Mine
section
variable {prog : Program} {w : World} {A₀ A : Around} {s : Shared} {base h₀ : Heap} {outer : List Env} {L : Addr} {m mg mb : Str → Option Value} {env : Env} {news : List (Addr × Obj)} {K : Frag} {p : Program} {loose : List Str} {mean : ExcName → Option Value}
  {R : Result → Shared → Prop} {name qual : Str} {params : Arguments} {body : List Stmt} {scope : Scope} {dV kV doc pm cdv ct oc : Value} {an od : Option Addr} {osl : Array (Option Value)} {f : Addr} {args : Args} {binds : List (Str × Value)}
theorem codeC_call_def {a : Addr} {o : Obj} {fd : FuncData}
    (hroom : A.depth < recursionLimit) (ho : s.heap.get? a = some o) (hdata : o.data = .func fd) (hlim : s.heap.NoLimit) (hcd : s.heap.CodeRec fd.code fd.qualname)
    (hbody : fd.body = .stmts body) (hbind : BindsTo s fd args binds)
    (hcell : ∀ x ∈ fd.scope.names, x.2 ≠ .cell) (hloc : ∀ x ∈ binds, fd.scope.names.lookup x.1 = some .local)
    (h : ∀ h₀, h₀.Ns s.heap.objs.size (fun x => binds.reverse.lookup x) → (∀ b o, s.heap.get? b = some o → h₀.get? b = some o) →
      wpC (model prog w) (A.deeper (callEnv fd s.heap.objs.size a)) (execs body (callEnv fd s.heap.objs.size a)) (fun f s' => R (.ok (.ret (match f with | .ret v => v | _ => .none))) s')
        (fun e s' => wpAny (model prog w) (A.deeper (callEnv fd s.heap.objs.size a)) (leaving (callEnv fd s.heap.objs.size a) e) (fun _ s'' => R (.error e) s'') (fun e' s'' => R (.error e') s'') s')
        { s with heap := h₀, toks := s.toks + binds.length })
    (hco : fd.scope.isCoroutine = false) (hgen : fd.scope.isGenerator = false) (hk : fd.scope.kind = .function) :
    codeC (model prog w) A (.call (.ref a) args) R s := by
  refine codeC_call_function hroom ho hdata hco hgen hbody hcd (hbind _ _ _ _ ?_)
  refine wpAny_newFunctionEnv hcell hloc (fun h₀ hns₀ hsb₀ => ⟨hlim.fresh _ hsb₀, codeC_func (h h₀ hns₀ fun b o e => ?_)⟩) hk
  exact hsb₀.extBut b o (Nat.ne_of_lt (Heap.lt_size e)) (Heap.get?_push_of_some _ e)
theorem enter_clean (B : Below A₀ base outer h₀) (F : Fr h₀ L s.heap m) (X₀ : K.In h₀) (N : News h₀ L s.heap news) (T : Top p loose mean mg mb h₀) (hA : A.frames = some (env :: outer)) (hf : env.frame = some L) (hke : env.scope.kind = .function)
    (ho : K.lookup f = some ⟨oc, od, .func (fnOf name qual params body scope dV kV doc pm an cdv ct), osl⟩) (hcd : codeIn K cdv qual = true) (hroom : A.depth < recursionLimit)
    (hbind : BindsTo s (fnOf name qual params body scope dV kV doc pm an cdv ct) args binds) (hloc : ∀ y ∈ binds, scope.names.lookup y.1 = some .local)
    (h : ∀ g L' h₁, (∀ b o, s.heap.get? b = some o → b ∉ news.map (·.1) → g.get? b = some o) → L' = s.heap.objs.size → L < L' → Fr h₀ L g m → Fr g L' h₁ (fun y => binds.reverse.lookup y) → News g L' h₁ news → Below A base (env :: outer) g → K.In g → Top p loose mean mg mb g → (∀ p ∈ news, p.1 < L') →
      wpC (model prog w) (A.deeper (envOf qual scope L' f cdv)) (execs body (envOf qual scope L' f cdv))
        (fun fl s' => LeaveK h₀ L m g R (match fl with | .ret v => v | _ => .none) s')
        (fun e s' => wpAny (model prog w) (A.deeper (envOf qual scope L' f cdv)) (leaving (envOf qual scope L' f cdv) e) (fun _ s'' => R (.error e) s'') (fun e' s'' => R (.error e') s'') s')
        { s with heap := h₁, toks := s.toks + binds.length })
    (hco : scope.isCoroutine = false) (hgen : scope.isGenerator = false) (hk : scope.kind = .function)
    (hcell : ∀ x ∈ scope.names, x.2 ≠ .cell) : codeC (model prog w) A (.call (.ref f) args) R s := by
  obtain ⟨FG, BG, st, lv⟩ := groundX (R := R) B F N hA hf hke
  refine codeC_call_def (fd := fnOf name qual params body scope dV kV doc pm an cdv ct) (body := body) (binds := binds) hroom ((X₀.keeps F.keep) _ _ ho) rfl (T.nolimit.keeps F.keep) (codeRec_of (X₀.keeps F.keep) hcd) rfl hbind hcell hloc (fun h₁ hns hk₁ => ?_) hco hgen hk
  exact wpC_mono (h _ s.heap.objs.size h₁ (fun b o e hn => hideAll_get _ e hn) rfl F.ns.lt FG ⟨hns, fun b o e => hk₁ b o (of_hideAll _ e), Nat.le_of_eq (hideAll_size _ _)⟩
    (fun p hp => ⟨hk₁ _ _ (N p hp).1, Nat.ne_of_lt (Heap.lt_size (N p hp).1), hideAll_none _ (List.mem_map_of_mem hp)⟩) BG (X₀.keeps st) (T.keeps st) (fun p hp => Heap.lt_size (N p hp).1)) (fun fl s' hl => lv _ _ hl) fun _ _ y => y
end
section
variable {M : Model} {A : Around} {E : Value → Shared → Prop} {s : Shared} {env : Env} {pos pos' : Pos}
theorem wpC_callType {T : String} {e : Expr} {rest : List Expr} {Q : Value → Shared → Prop} (hs : starEach (e :: rest) env = (false, eval e env) :: starEach rest env) (hplain : (backTo pos' (starEach rest env)).any (·.1) = false)
    (h : wpAny M A (spliced (backTo pos' (starEach (e :: rest) env))) (fun vs s₁ => wpC M A (call (.type T) vs) Q E s₁) E s) :
    wpC M A (callWith pos (.type T) [] (backTo pos' ((false, eval e env) :: starEach rest env)) []) Q E s := by
  rw [hs] at h
  exact wpC_callWith_type (x := if false = true then _ else eval e env) hplain h
theorem wpC_callDef {a : Addr} {o : Obj} {fd : FuncData} {e : Expr} {rest : List Expr} {Q : Value → Shared → Prop} (hs : starEach (e :: rest) env = (false, eval e env) :: starEach rest env) (hd : o.data = .func fd)
    (h : wpAny M A (spliced (backTo pos' (starEach (e :: rest) env))) (fun vs s₁ => s₁.heap.get? a = some o ∧ wpC M A (call (.ref a) vs) Q E s₁) E s) :
    wpC M A (callWith pos (.ref a) [] (backTo pos' ((false, eval e env) :: starEach rest env)) []) Q E s := by
  rw [hs] at h
  exact wpC_callWith_def (x := if false = true then _ else eval e env) hd h
end
abbrev baObj (b : Array UInt8) : Obj := { cls := .type "bytearray", data := .bytearray b }
section
variable {prog : Program} {w : World} {A : Around} {E : Value → Shared → Prop} {s : Shared} {h₀ : Heap} {L D : Addr} {m : Str → Option Value} {news news' : List (Addr × Obj)} {b b' : Array UInt8} {k x : Int} {t u : Tok}
theorem ba_set_is {Q : Unit → Shared → Prop} (j : Nat) (hk : k = j) (F : Fr h₀ L s.heap m) (N : News h₀ L s.heap news) (U : Upd D (baObj b) (baObj b') news news') (h1 : j < b.size) (hb : b.size ≤ 100) (x0 : 0 ≤ x) (x1 : x < 256)
    (e : b.setIfInBounds j x.toNat.toUInt8 = b') (h : ∀ h', Fr h₀ L h' m → News h₀ L h' news' → Q () { s with heap := h' }) :
    wpAny (model prog w) A (setItem (.ref D) (.int k t) (.int x u)) Q E s := by
  subst e hk
  obtain ⟨pre, post, rfl, rfl, q1, q2⟩ := U.split
  have z := N (D, baObj b) (List.mem_append.mpr (.inr (.head _)))
  exact ba_set z.1 (by omega) (by omega) hb x0 x1 (h _ (F.change (Heap.SameBut.update ..) z.2.1 z.2.2) (news_set N q1 q2 (Heap.SameBut.update ..) (Heap.get?_update_self _ z.1 rfl)))
theorem ba_bytes_is {Q : Value → Shared → Prop} (N : News h₀ L s.heap news) (hm : (D, baObj b) ∈ news) (hb : b.size ≤ 100) (hQ : ∀ t k, Q (.bytes b t) { s with toks := k }) : wpAny (model prog w) A (call (.type "bytes") [.ref D]) Q E s :=
  ba_to_bytes (N.get hm) hb hQ
theorem u8 {a : Int} (h0 : 0 ≤ a) (h1 : a < 256) : ((a.toNat.toUInt8).toNat : Int) = a := byte_back h0 h1
theorem swapped {a0 a1 a2 : Int} (h0 : 0 ≤ a0 ∧ a0 < 256) (h1 : 0 ≤ a1 ∧ a1 < 256) (h2 : 0 ≤ a2 ∧ a2 < 256) :
    KBw.bInts (((Array.replicate 3 0).setIfInBounds 2 a0.toNat.toUInt8 |>.setIfInBounds 1 a1.toNat.toUInt8).setIfInBounds 0 a2.toNat.toUInt8) = [a2, a1, a0] := by
  have e : (((Array.replicate 3 (0 : UInt8)).setIfInBounds 2 a0.toNat.toUInt8 |>.setIfInBounds 1 a1.toNat.toUInt8).setIfInBounds 0 a2.toNat.toUInt8) = #[a2.toNat.toUInt8, a1.toNat.toUInt8, a0.toNat.toUInt8] := rfl
  rw [e]
  unfold KBw.bInts
  simp only [List.map_cons, List.map_nil, u8 h0.1 h0.2, u8 h1.1 h1.2, u8 h2.1 h2.2]
/-- bytearray(n), onto the ledger -/
theorem ba_made_is {n : Int} {Q : Value → Shared → Prop} (hg : A.guards = some []) (h0 : 0 < n) (h1 : n < 100) (F : Fr h₀ L s.heap m) (N : News h₀ L s.heap news)
    (h : ∀ D h', LT.lt (α := Nat) L D → (∀ b o, s.heap.get? b = some o → h'.get? b = some o) → Fr h₀ L h' m → News h₀ L h' ((D, baObj (Array.replicate n.toNat 0)) :: news) → (∀ q ∈ news, q.1 < D) → Q (.ref D) { s with heap := h' }) :
    wpC (model prog w) A (call (.type "bytearray") [.int n t]) Q E s := by
  refine ba_made hg h0 h1 fun h' ext hD => ?_
  obtain ⟨N', lt⟩ := news_made F N (N.grown ext) (Nat.le_refl _) hD
  exact h _ h' F.ns.lt ext (F.keptAll ext) N' lt
/-- a call of a def, under a clean stack -/
def TellC (w : World) (dk : Nat) (f : Addr) (vs : List Value) (post : Heap → Heap → Value → Prop) : Prop :=
  ∀ (p : Program) (loose : List Str) (mean : ExcName → Option Value) (mg mb : Str → Option Value)
    (dp un : Nat) (cn : Str) (cs : Scope) (a : Addr) (ccd : Value) (cl : List (Str × Addr)) (outer : List Env) (A₀ : Around) (base h₀ : Heap) (L : Addr) (m : Str → Option Value) (s : Shared) (Q E : Value → Shared → Prop),
    Below A₀ base outer h₀ → Fr h₀ L s.heap m → (hd.heap_39 w.params).In h₀ → Top p loose mean mg mb h₀ → cs.kind = .function →
    dp + dk < recursionLimit → un + 8 * dk < cLine →
    (∀ v h' tk', (∀ b o, s.heap.get? b = some o → h'.get? b = some o) → post s.heap h' v → Q v { s with heap := h', toks := tk' }) →
    wpC (model PySem.Challenge.rw_hm0003_01.row.prog w) (ktrTop dp un (some []) cn cs L a ccd cl outer) (call (.ref f) vs) Q E s
end
end Mine
namespace Mine
theorem execsC_cut {prog : Program} {w : World} {A : Around} {st : Stmt} {rest : List Stmt} {env : Env} {Q : Flow → Shared → Prop} {E : Value → Shared → Prop} {s : Shared}
    (h : ∀ (Q' : Flow → Shared → Prop) (E' : Value → Shared → Prop), (∀ s', wpC (model prog w) A (execs rest env) Q E s' → Q' .next s') → (∀ v s', Q (.ret v) s' → Q' (.ret v) s') → wpAny (model prog w) A (exec st env) Q' E' s) :
    wpC (model prog w) A (execs (st :: rest) env) Q E s :=
  wpC_execs_cons (wpC_of (h (fun f s' => match f with | .next => wpC (model prog w) A (execs rest env) Q E s' | f => Q f s') _ (fun _ x => x) (fun _ _ x => x)))
end Mine

namespace Mine
theorem news_keep1 {h₀ h : Heap} {L : Addr} {a : Addr × Obj} {l : List (Addr × Obj)} (k : Nat) (N : News h₀ L h (a :: l)) : News h₀ L h (a :: l.drop k) := fun q hq => N q (by
  rcases List.mem_cons.mp hq with e | e
  · exact e ▸ List.mem_cons_self
  · exact List.mem_cons_of_mem _ (List.mem_of_mem_drop e))
theorem eight_go : ∀ (k : Nat) (l : List Int), l.length = k → ∃ r : List Int, r.length = k ∧ l.map (fun k' => k' % 17) = r ∧ ∀ x ∈ r, 0 ≤ x ∧ x < 17 := fun k l h => ⟨_, by simp [h], rfl, fun x hx => by
  obtain ⟨y, _, rfl⟩ := List.mem_map.mp hx
  exact ⟨Int.emod_nonneg _ (by decide), Int.emod_lt_of_pos _ (by decide)⟩⟩
theorem eight (ns : List Int) : ∃ n0 n1 n2 n3 n4 n5 n6 n7 : Int, List.map (fun k' => k' % 17) (List.take 8 (ns ++ (List.replicate 8 [0]).flatten)) = [n0, n1, n2, n3, n4, n5, n6, n7] ∧
    (0 ≤ n0 ∧ n0 < 17) ∧ (0 ≤ n1 ∧ n1 < 17) ∧ (0 ≤ n2 ∧ n2 < 17) ∧ (0 ≤ n3 ∧ n3 < 17) ∧ (0 ≤ n4 ∧ n4 < 17) ∧ (0 ≤ n5 ∧ n5 < 17) ∧ (0 ≤ n6 ∧ n6 < 17) ∧ (0 ≤ n7 ∧ n7 < 17) := by
  obtain ⟨r, hr, e, hb⟩ := eight_go 8 (List.take 8 (ns ++ (List.replicate 8 [0]).flatten)) (by
    have : (List.replicate 8 [(0 : Int)]).flatten.length = 8 := rfl
    rw [List.length_take, List.length_append, this]; omega)
  obtain ⟨n0, n1, n2, n3, n4, n5, n6, n7, rfl⟩ : ∃ n0 n1 n2 n3 n4 n5 n6 n7 : Int, r = [n0, n1, n2, n3, n4, n5, n6, n7] := by
    match r, hr with
    | [n0, n1, n2, n3, n4, n5, n6, n7], _ => exact ⟨n0, n1, n2, n3, n4, n5, n6, n7, rfl⟩
  refine ⟨n0, n1, n2, n3, n4, n5, n6, n7, e, ?_⟩
  refine ⟨hb _ ?_, hb _ ?_, hb _ ?_, hb _ ?_, hb _ ?_, hb _ ?_, hb _ ?_, hb _ ?_⟩ <;> simp
theorem ints8 {ys : List Value} {n0 n1 n2 n3 n4 n5 n6 n7 : Int} (h : IntsAre ys [n0, n1, n2, n3, n4, n5, n6, n7]) : ∃ u0 u1 u2 u3 u4 u5 u6 u7 : Tok, ys = [.int n0 u0, .int n1 u1, .int n2 u2, .int n3 u3, .int n4 u4, .int n5 u5, .int n6 u6, .int n7 u7] := by
  obtain ⟨u0, w0, rfl, i0⟩ := IntsAre.cons_inv h
  obtain ⟨u1, w1, rfl, i1⟩ := IntsAre.cons_inv i0
  obtain ⟨u2, w2, rfl, i2⟩ := IntsAre.cons_inv i1
  obtain ⟨u3, w3, rfl, i3⟩ := IntsAre.cons_inv i2
  obtain ⟨u4, w4, rfl, i4⟩ := IntsAre.cons_inv i3
  obtain ⟨u5, w5, rfl, i5⟩ := IntsAre.cons_inv i4
  obtain ⟨u6, w6, rfl, i6⟩ := IntsAre.cons_inv i5
  obtain ⟨u7, w7, rfl, i7⟩ := IntsAre.cons_inv i6
  obtain rfl := IntsAre.nil_inv i7
  exact ⟨u0, u1, u2, u3, u4, u5, u6, u7, rfl⟩
end Mine
namespace Mine
theorem news_dropk {h₀ h : Heap} {L : Addr} {l : List (Addr × Obj)} (k : Nat) (N : News h₀ L h l) : News h₀ L h (l.drop k) := fun q hq => N q (List.mem_of_mem_drop hq)
end Mine

namespace Mine
open PyProof.Rows.LCg in
section
variable {prog : Program} {w : World} {A : Around} {E : Value → Shared → Prop} {s : Shared} {h₀ : Heap} {L : Addr} {m : Str → Option Value} {env : Env}
def IntAt (ks : List Int) : Nat → Value → Prop := fun i v => ∃ (t : Tok) (k : Int), ks[i]? = some k ∧ v = .int k t
/-- a comprehension's source: bytes -/
def SrcB (prog : Program) (w : World) (A : Around) (h₀ : Heap) (L : Addr) (m : Str → Option Value) (env : Env) (elt : Expr) (x : Str) (scope : Scope) (cl : List (Str × Addr)) (Q : Value → Shared → Prop) (xv : Value) (s₁ : Shared) : Prop :=
  ∃ (b : Array UInt8) (t : Tok) (ks : List Int) (news : List (Addr × Obj)), xv = .bytes b t ∧ A.handled = none ∧ Fr h₀ L s₁.heap m ∧ News h₀ L s₁.heap news ∧ KBw.bInts b = ks ∧ ks.length ≤ 100 ∧
    ∀ g, CompRest prog w A h₀ L m env elt x scope cl { s₁ with heap := g } (fun _ => True) (IntAt ks) (FinE h₀ L m { s₁ with heap := g } Q) ks.length 0 [] news
theorem SrcB.four {elt : Expr} {x : Str} {scope : Scope} {cl : List (Str × Addr)} {Q : Value → Shared → Prop} {b : Array UInt8} {t : Tok} {k0 k1 k2 k3 : Int} {news : List (Addr × Obj)} {s₁ : Shared} (hh : A.handled = none) (F : Fr h₀ L s₁.heap m) (N : News h₀ L s₁.heap news) (hb : KBw.bInts b = [k0, k1, k2, k3])
    (h : ∀ g, CompRest prog w A h₀ L m env elt x scope cl { s₁ with heap := g } (fun _ => True) (IntAt [k0, k1, k2, k3]) (FinE h₀ L m { s₁ with heap := g } Q) 4 0 [] news) : SrcB prog w A h₀ L m env elt x scope cl Q (.bytes b t) s₁ :=
  ⟨b, t, _, news, rfl, hh, F, N, hb, by simp, h⟩
theorem bytes_walks {I : Addr} (hh : A.handled = none) (b : Array UInt8) (t : Tok) : Walks prog w A I [I] [I] b.size (IntAt (KBw.bInts b)) (fun i h => KBw.IsBytesIter h I b t i) :=
  let W := KBw.walks (prog := prog) (w := w) (A := A) hh I b t
  { sub := W.sub, frame := W.frame, done := W.done, self := W.self,
    item := fun i s Q E hi st hQ => W.item i s Q E hi st fun v h' tk hP => hQ v h' tk (by
      obtain ⟨c, u, hc, rfl⟩ := hP
      refine ⟨u, _, ?_, rfl⟩
      unfold KBw.bInts
      rw [List.getElem?_map, show b.toList[i]? = some c from by simpa using hc]
      rfl) }
theorem ListComp_B {elt iter : Expr} {x : Str} {px : Pos} {scope : Scope} {cl : List (Str × Addr)} {pos : Pos} {Q : Value → Shared → Prop} (_F₀ : Fr h₀ L s.heap m)
    (hclos : closureFor scope env = pure cl) (hcell : ∀ y ∈ scope.names, y.2 ≠ .cell) (hkind : scope.kind = .function)
    (hnames : ∀ y ∈ scope.names, y.2 = .local → scope.names.lookup y.1 = some .local) (hx : scope.names.lookup x = some .local)
    (h : wpAny (model prog w) A (eval iter env) (SrcB prog w A h₀ L m env elt x scope cl Q) E s)
    (hs : ∀ x, foldedSetIterable iter env x = pure x := by intro _; rfl) :
    wpAny (model prog w) A (eval (.ListComp elt [⟨.Name x px, iter, [], 0⟩] scope pos) env) Q E s := by
  rw [eval_ListComp]
  refine wpAny_comprehension_free (use := none) rfl hs hclos hkind hnames (wpAny_mono h (fun xv s₁ h₁ => ?_) fun _ _ e => e)
  obtain ⟨b, t, ks, news, rfl, hh, F, N, rfl, hsz, R⟩ := h₁
  have hz : (KBw.bInts b).length = b.size := KBw.ints_length b
  refine KBw.pyIter_bytes ?_
  refine block_U (bytes_walks hh b t) (by rw [sizeLine_eq]; omega) (fun i h st => by obtain ⟨o, ho, _⟩ := st; exact ⟨o, ho⟩)
    (fun i h h' o nw st e e' _ _ _ => by obtain ⟨o', q, r⟩ := st; rw [e] at q; cases q; exact ⟨o, e', r⟩) hcell hkind hx ⟨_, Heap.get?_push_size _ rfl, rfl, rfl⟩ (fun b hb => ?_)
    (F.keeps fun _ _ e => Heap.get?_push_of_some _ e) (N.grown fun _ _ e => Heap.get?_push_of_some _ e) (Nat.ne_of_lt F.ns.lt) (next_is_new F) (fun p hp => Nat.ne_of_lt (Heap.lt_size (N p hp).1)) trivial (hz ▸ R _) ?_
  · rw [List.mem_singleton.mp hb]
    show s₁.heap.objs.size < (s₁.heap.push _).objs.size
    rw [Heap.size_push]; exact Nat.lt_succ_self _
  · intro D C h tk m' ys news' F' N' o1 hn hC₀ hD₀ hCL hDL hCD offC fin
    refine ⟨m', hn, fun h'' hs'' => fin D h'' tk (F'.change hs'' hCL hC₀) (fun p hp => ?_) o1⟩
    refine ⟨hs''.extBut _ _ ?_ (N' p hp).1, (N' p hp).2⟩
    rcases List.mem_cons.mp hp with rfl | hp
    · exact Ne.symm hCD
    · exact offC p hp
end
end Mine
namespace Mine
theorem news8 {h₀ h : Heap} {L : Addr} {news : List (Addr × Obj)} {x0 x1 x2 x3 x4 x5 x6 x7 : Addr × Obj} (N : News h₀ L h news) (m0 : x0 ∈ news) (m1 : x1 ∈ news) (m2 : x2 ∈ news) (m3 : x3 ∈ news) (m4 : x4 ∈ news) (m5 : x5 ∈ news) (m6 : x6 ∈ news) (m7 : x7 ∈ news) : News h₀ L h [x0, x1, x2, x3, x4, x5, x6, x7] := fun q hq => N q (by
  simp only [List.mem_cons, List.not_mem_nil, or_false] at hq
  rcases hq with rfl | rfl | rfl | rfl | rfl | rfl | rfl | rfl <;> assumption)
end Mine
namespace Mine
theorem tabs_from {h₀ h : Heap} {L : Addr} {news : List (Addr × Obj)} {c1 c2 : Addr} {o1 o2 : Obj} (N : News h₀ L h news) (m1 : (44, tabObj #[rawInt 54, rawInt 4, .ref c2]) ∈ news) (m2 : (37, tabObj #[rawInt 39, rawInt 4, .ref c1]) ∈ news) (m3 : (c2, o2) ∈ news) (m4 : (c1, o1) ∈ news) :
    News h₀ L h (tabs c1 c2 o1 o2) := tabs_of m1 m2 m3 m4 N
end Mine

namespace Mine
theorem wpC_callDefK {prog : Program} {w : World} {A : Around} {E : Value → Shared → Prop} {s : Shared} {env : Env} {pos pos' : Pos} {K : Frag} {a : Addr} {oc : Value} {od : Option Addr} {osl : Array (Option Value)} {fd : FuncData} {e : Expr} {rest : List Expr} {Q : Value → Shared → Prop} (ho : K.lookup a = some ⟨oc, od, .func fd, osl⟩) (hs : starEach (e :: rest) env = (false, eval e env) :: starEach rest env)
    (h : wpAny (model prog w) A (spliced (backTo pos' (starEach (e :: rest) env))) (fun vs s₁ => K.In s₁.heap ∧ wpC (model prog w) A (call (.ref a) vs) Q E s₁) E s) :
    wpC (model prog w) A (callWith pos (.ref a) [] (backTo pos' ((false, eval e env) :: starEach rest env)) []) Q E s :=
  wpC_callDef (o := ⟨oc, od, .func fd, osl⟩) hs rfl (wpAny_mono h (fun _ _ x => ⟨x.1 _ _ ho, x.2⟩) fun _ _ x => x)
theorem TellC.use {w : World} {dk : Nat} {f : Addr} {vs : List Value} {post : Heap → Heap → Value → Prop} (C : TellC w dk f vs post)
    {p : Program} {loose : List Str} {mean : ExcName → Option Value} {mg mb : Str → Option Value}
    {dp un : Nat} {cn : Str} {cs : Scope} {a : Addr} {ccd : Value} {cl : List (Str × Addr)} {outer : List Env} {A₀ : Around} {base h₀ : Heap} {L : Addr} {m : Str → Option Value} {news : List (Addr × Obj)} {s : Shared} {Q E : Value → Shared → Prop}
    (B : Below A₀ base outer h₀) (F : Fr h₀ L s.heap m) (X : (hd.heap_39 w.params).In h₀) (N : News h₀ L s.heap news) (T : Top p loose mean mg mb h₀) (hk : cs.kind = .function)
    (hd : dp + dk < recursionLimit) (hu : un + 8 * dk < cLine)
    (h : ∀ v h' tk', Fr h₀ L h' m → News h₀ L h' news → post s.heap h' v → Q v { s with heap := h', toks := tk' }) :
    wpC (model PySem.Challenge.rw_hm0003_01.row.prog w) (ktrTop dp un (some []) cn cs L a ccd cl outer) (call (.ref f) vs) Q E s :=
  C p loose mean mg mb dp un cn cs a ccd cl outer A₀ base h₀ L m s Q E B F X T hk hd hu fun v h' tk' ext post => h v h' tk' (F.keptAll ext) (N.grown ext) post
end Mine

namespace Mine
/-- a def of the law's module: its statements, its scope; a loop's statements -/
def defOfLaw (n : Str) : Option (Arguments × List Stmt × Scope) := PySem.Challenge.rw_hm0003_01.row.prog.theDef n
def bodyOf (n : Str) : List Stmt := match defOfLaw n with | some (_, b, _) => b | none => []
def scopeOf (n : Str) : Scope := match defOfLaw n with | some (_, _, s) => s | none => default
def forBody : List Stmt → List Stmt
  | .For _ _ b _ _ :: _ => b
  | _ => []
theorem mul17_is' {prog : Program} {w : World} {A : Around} {E : Value → Shared → Prop} {s : Shared} {a b : Int} {t u : Tok} {Q : Value → Shared → Prop} (ha : 0 ≤ a ∧ a < 17) (hb : 0 ≤ b ∧ b < 17)
    (h : ∀ p, p = a * b → 0 ≤ p → p ≤ 256 → Q (.int p s.toks) { s with toks := s.toks + 1 }) : wpAny (model prog w) A (binaryOp .Mult (.int a t) (.int b u)) Q E s := by
  have h1 : 0 ≤ a * b := Int.mul_nonneg ha.1 hb.1
  have h2 : a * b ≤ 16 * 16 := Int.mul_le_mul (by omega) (by omega) hb.1 (by omega)
  exact mul_int (h _ rfl h1 (by omega)) (IntMulOk.of_left (Nat.le_trans (bits_bound ha.1 (by omega)) (by decide)))
theorem place_eq {z q0 q1 q2 q3 k1 k2 k3 S s1 s2 s3 a0 a1 a2 a3 : Int} (ez : z = (0 + q0 + q1 + q2 + q3) % 17) (e0 : q0 = a0 * 1) (e1 : q1 = a1 * k1) (e2 : q2 = a2 * k2) (e3 : q3 = a3 * k3) (f1 : k1 = 1 * S % 17) (f2 : k2 = k1 * S % 17) (f3 : k3 = k2 * S % 17)
    (h1 : (1 * S) % 17 = s1) (h2 : (s1 * S) % 17 = s2) (h3 : (s2 * S) % 17 = s3) : z = (a0 * 1 + a1 * s1 + a2 * s2 + a3 * s3) % 17 := by
  obtain rfl : k1 = s1 := f1.trans h1
  obtain rfl : k2 = s2 := f2.trans h2
  obtain rfl : k3 = s3 := f3.trans h3
  rw [ez, e0, e1, e2, e3, Int.zero_add]
end Mine

section
open PySem PySem.W PySem.Calls PyProof.Rows PyProof.Rows.LCg
namespace Mine
/-! small proofs of what the walk asks often -/
theorem all_nil {x : Addr} : ∀ p ∈ ([] : List (Addr × Obj)), p.1 ≠ x := List.forall_mem_nil _
theorem all_cons {a x : Addr} {o : Obj} {r : List (Addr × Obj)} (h : a ≠ x) (t : ∀ p ∈ r, p.1 ≠ x) : ∀ p ∈ (a, o) :: r, p.1 ≠ x := List.forall_mem_cons.mpr ⟨h, t⟩
theorem mem1 {α : Type} {a b : α} {l : List α} : b ∈ a :: b :: l := .tail _ (.head _)
theorem mem2 {α : Type} {a b c : α} {l : List α} : c ∈ a :: b :: c :: l := .tail _ mem1
theorem mem3 {α : Type} {a b c d : α} {l : List α} : d ∈ a :: b :: c :: d :: l := .tail _ mem2
theorem mem4 {α : Type} {a b c d e : α} {l : List α} : e ∈ a :: b :: c :: d :: e :: l := .tail _ mem3
theorem mem_go4 {α : Type} {a b c d x : α} {l : List α} (h : x ∈ l) : x ∈ a :: b :: c :: d :: l := .tail _ (.tail _ (.tail _ (.tail _ h)))
theorem sub_refl {l : List (Addr × Obj)} : ∀ q ∈ l, q ∈ l := fun _ h => h
theorem sub_tail {a : Addr × Obj} {l r : List (Addr × Obj)} (h : ∀ q ∈ l, q ∈ r) : ∀ q ∈ l, q ∈ a :: r := fun q hq => .tail _ (h q hq)
theorem four_cases {P : Nat → Prop} (h0 : P 0) (h1 : P 1) (h2 : P 2) (h3 : P 3) (k : Nat) (hk : k < 4) : P k := by
  rcases Nat.lt_succ_iff_lt_or_eq.mp hk with hk | rfl
  · rcases Nat.lt_succ_iff_lt_or_eq.mp hk with hk | rfl
    · rcases Nat.lt_succ_iff_lt_or_eq.mp hk with hk | rfl
      · rcases Nat.lt_succ_iff_lt_or_eq.mp hk with hk | rfl
        · exact absurd hk (Nat.not_lt_zero k)
        · exact h0
      · exact h1
    · exact h2
  · exact h3
theorem getD4 (f : Nat → Int) {i : Nat} (h : i < 4) : f i = [f 0, f 1, f 2, f 3].getD i 0 := four_cases (P := fun i => f i = [f 0, f 1, f 2, f 3].getD i 0) rfl rfl rfl rfl i h
theorem list4 {l : List Int} (h : l.length = 4) : ∃ a0 a1 a2 a3, l = [a0, a1, a2, a3] := by
  cases l with
  | nil => cases h
  | cons a0 l =>
    cases l with
    | nil => cases h
    | cons a1 l =>
      cases l with
      | nil => cases h
      | cons a2 l =>
        cases l with
        | nil => cases h
        | cons a3 l =>
          cases l with
          | nil => exact ⟨a0, a1, a2, a3, rfl⟩
          | cons a4 l => cases h
/-- a row of ints, each a rest by seventeen -/
def Low (l : List Int) : Prop := ∀ i : Nat, 0 ≤ l.getD i 0 ∧ l.getD i 0 < 17
theorem low4 {a b c d : Int} (h0 : 0 ≤ a ∧ a < 17) (h1 : 0 ≤ b ∧ b < 17) (h2 : 0 ≤ c ∧ c < 17) (h3 : 0 ≤ d ∧ d < 17) : Low [a, b, c, d] := fun i => by
  by_cases h : i < 4
  · exact four_cases (P := fun i => 0 ≤ [a, b, c, d].getD i 0 ∧ [a, b, c, d].getD i 0 < 17) h0 h1 h2 h3 i h
  · rw [List.getD_eq_getElem?_getD, List.getElem?_eq_none (Nat.not_lt.mp h)]
    exact ⟨Int.le_refl 0, (by decide : (0 : Int) < 17)⟩
section
variable {prog : Program} {w : World} {A : Around} {E : Value → Shared → Prop} {s : Shared} {h₀ : Heap} {L : Addr} {m : Str → Option Value} {env : Env}
/-- a comprehension of ints, its turn shown once -/
theorem comp_ints {elt : Expr} {x : Str} {scope : Scope} {cl : List (Str × Addr)} {S : List (Addr × Obj) → Prop} {P : Nat → Value → Prop} {Fin : List Value → List (Addr × Obj) → Prop} {n : Nat} {news : List (Addr × Obj)} (zs : List Int) (hz : zs.length = n) (hS : S news)
    (turn : ∀ i v I oI C oC D ys m₂ h tk (E' : Value → Shared → Prop), i < n → P i v → NsObj oC m₂ → m₂ x = some v → Fr h₀ L h m → News h₀ L h ((I, oI) :: (C, oC) :: (D, lst ys) :: news) → Off3 I C D news → ((@Ne Nat I C) ∧ (@Ne Nat I D) ∧ (@Ne Nat C D)) →
      wpAny (model prog w) A (eval elt (compEnvC scope cl C env)) (EltEnd h₀ L m ((I, oI) :: (C, oC) :: (D, lst ys) :: news) (zs.getD i 0) { s with heap := h, toks := tk }) E' { s with heap := h, toks := tk })
    (fin : ∀ ys, IntsAre ys zs → Fin ys news) : CompRest prog w A h₀ L m env elt x scope cl s S P Fin n 0 [] news := by
  suffices H : ∀ k i ys, i + k = n → IntsAre ys (zs.take i) → CompRest prog w A h₀ L m env elt x scope cl s S P Fin k i ys news from H n 0 [] (Nat.zero_add n) .nil
  intro k
  induction k with
  | zero =>
    intro i ys hi hy
    obtain rfl : i = n := hi
    rw [← hz, List.take_length] at hy
    exact fin ys hy
  | succ k ih =>
    intro i ys hi hy
    have hlt : i < n := by omega
    refine CompRest.succ fun v I oI C oC D m₂ h tk E' hP hC hx F N off ne => wpAny_mono (turn i v I oI C oC D ys m₂ h tk E' hlt hP hC hx F N off ne) (fun v' s' h' => ?_) fun _ _ e => e
    obtain ⟨h₁, tk₁, u, rfl, rfl, F₁, N₁⟩ := h'
    have hzi : zs[i]? = some (zs.getD i 0) := by
      rw [List.getD_eq_getElem?_getD, List.getElem?_eq_getElem (by omega)]
      rfl
    refine CompEnd.intro F₁ N₁ news (fun _ h => h) off hS (ih (i + 1) _ (by omega) ?_)
    rw [List.take_add_one, hzi]
    exact ints_snoc hy
theorem comp_range {elt : Expr} {x : Str} {scope : Scope} {cl : List (Str × Addr)} {Fin : List Value → List (Addr × Obj) → Prop} {news : List (Addr × Obj)} {n : Nat} {a : Int} (zs : List Int) (hz : zs.length = n)
    (turn : ∀ i t I oI C oC D ys m₂ h tk (E' : Value → Shared → Prop), i < n → NsObj oC m₂ → m₂ x = some (.int (a + (i : Nat)) t) → Fr h₀ L h m → News h₀ L h ((I, oI) :: (C, oC) :: (D, lst ys) :: news) →
      wpAny (model prog w) A (eval elt (compEnvC scope cl C env)) (EltEnd h₀ L m ((I, oI) :: (C, oC) :: (D, lst ys) :: news) (zs.getD i 0) { s with heap := h, toks := tk }) E' { s with heap := h, toks := tk })
    (fin : ∀ ys, IntsAre ys zs → Fin ys news) : CompRest prog w A h₀ L m env elt x scope cl s (fun _ => True) (fun i v => ∃ t, v = .int (a + (i : Int)) t) Fin n 0 [] news :=
  comp_ints zs hz trivial (fun i v I oI C oC D ys m₂ h tk E' hi hP hC hx F N _ _ => by
    obtain ⟨t, rfl⟩ := hP
    exact turn i t I oI C oC D ys m₂ h tk E' hi hC hx F N) fin
theorem comp_bytes {elt : Expr} {x : Str} {scope : Scope} {cl : List (Str × Addr)} {Fin : List Value → List (Addr × Obj) → Prop} {news : List (Addr × Obj)} {n : Nat} {ks : List Int} (zs : List Int) (hz : zs.length = n) (hk : ks.length = n)
    (turn : ∀ i t I oI C oC D ys m₂ h tk (E' : Value → Shared → Prop), i < n → NsObj oC m₂ → m₂ x = some (.int (ks.getD i 0) t) → Fr h₀ L h m → News h₀ L h ((I, oI) :: (C, oC) :: (D, lst ys) :: news) →
      wpAny (model prog w) A (eval elt (compEnvC scope cl C env)) (EltEnd h₀ L m ((I, oI) :: (C, oC) :: (D, lst ys) :: news) (zs.getD i 0) { s with heap := h, toks := tk }) E' { s with heap := h, toks := tk })
    (fin : ∀ ys, IntsAre ys zs → Fin ys news) : CompRest prog w A h₀ L m env elt x scope cl s (fun _ => True) (IntAt ks) Fin n 0 [] news :=
  comp_ints zs hz trivial (fun i v I oI C oC D ys m₂ h tk E' hi hP hC hx F N _ _ => by
    obtain ⟨t, k, hk', rfl⟩ := hP
    have e : k = ks.getD i 0 := by rw [List.getD_eq_getElem?_getD, hk']; rfl
    subst e
    exact turn i t I oI C oC D ys m₂ h tk E' hi hC hx F N) fin
/-- a turn's end -/
theorem elt_end {led : List (Addr × Obj)} {y z : Int} {s₁ : Shared} {h' : Heap} {tk' : Nat} {u : Tok} (F : Fr h₀ L h' m) (N : News h₀ L h' led) (e : z = y) : EltEnd h₀ L m led y s₁ (.int z u) { s₁ with heap := h', toks := tk' } := eltEnd F N (fun _ h => h) e
/-- an item of bytes at the turn's number -/
theorem at_bytes_i {value slice : PySem.Expr} {b : Array UInt8} {t : Tok} {i : Int} {ui : Tok} {ns : List Int} {Q : Value → Shared → Prop} (k : Nat) (hi : i = k) (hb : KBw.bInts b = ns) (hz : ns.length = 4) (hk : k < 4)
    (h : ∀ t' tk', Q (.int (ns.getD k 0) t') { s with toks := tk' })
    (hs : subscripted slice false (.bytes b t) (.int i ui) = operate [.bytes b t, .int i ui] (getItem (.bytes b t) (.int i ui)) := by with_unfolding_all rfl)
    (ht : ∀ r, letTemporaryGo value (.bytes b t) r = pure () := by intro _; with_unfolding_all rfl) : wpAny (model prog w) A (subscriptTail value slice (.bytes b t) (.int i ui)) Q E s := by
  subst hi
  refine KBw.item_K hb (by omega) (by omega) (by omega) (fun t' tk _ _ => ?_) hs ht
  rw [Int.toNat_natCast]
  exact h t' tk
theorem at_bytes_m {value slice : PySem.Expr} {b : Array UInt8} {t : Tok} {i : Int} {ui : Tok} {ns : List Int} {Q : Value → Shared → Prop} (hb : KBw.bInts b = ns) (hz : ns.length = 4)
    (h : ∀ t' tk', Q (.int (ns.getD (i % 4).toNat 0) t') { s with toks := tk' })
    (hs : subscripted slice false (.bytes b t) (.int (i % 4) ui) = operate [.bytes b t, .int (i % 4) ui] (getItem (.bytes b t) (.int (i % 4) ui)) := by with_unfolding_all rfl)
    (ht : ∀ r, letTemporaryGo value (.bytes b t) r = pure () := by intro _; with_unfolding_all rfl) : wpAny (model prog w) A (subscriptTail value slice (.bytes b t) (.int (i % 4) ui)) Q E s :=
  KBw.item_K hb (by omega) (by omega) (by omega) (fun t' tk _ _ => h t' tk) hs ht
end
/-! rows of four, by the places -/
def tab4 (f : Nat → Int) : List Int := [f 0, f 1, f 2, f 3]
theorem tab4_get {f : Nat → Int} {i : Nat} (h : i < 4) : (tab4 f).getD i 0 = f i := (getD4 f h).symm
theorem tab4_low {f : Nat → Int} (h : ∀ k, 0 ≤ f k ∧ f k < 17) : Low (tab4 f) := low4 (h 0) (h 1) (h 2) (h 3)
def Row (b : Array UInt8) (l : List Int) : Prop := KBw.bInts b = l ∧ l.length = 4 ∧ Low l
theorem Row.of {b : Array UInt8} {f : Nat → Int} (h : KBw.bInts b = tab4 f) (hf : ∀ k, 0 ≤ f k ∧ f k < 17) : Row b (tab4 f) := ⟨h, rfl, tab4_low hf⟩
theorem mod_low (n : Int) : 0 ≤ n % 17 ∧ n % 17 < 17 := ⟨Int.emod_nonneg _ (by decide), Int.emod_lt_of_pos _ (by decide)⟩
theorem Row.mod {b : Array UInt8} {f : Nat → Int} (h : KBw.bInts b = tab4 fun k => f k % 17) : Row b (tab4 fun k => f k % 17) := Row.of h fun _ => mod_low _
theorem low_in {l : List Int} (h : l.length = 4) (hl : Low l) : KBa.In l := fun x hx => by
  obtain ⟨i, hi, rfl⟩ := List.getElem_of_mem hx
  have := hl i
  rw [List.getD_eq_getElem?_getD, List.getElem?_eq_getElem hi] at this
  exact ⟨this.1, by have := this.2; simp at this; omega⟩
theorem low_mod {f : Nat → Int} : Low (tab4 fun k => f k % 17) := tab4_low fun _ => mod_low _
theorem mod_in {f : Nat → Int} : KBa.In (tab4 fun k => f k % 17) := low_in rfl (tab4_low fun _ => mod_low _)
/-- the wound row, by the powers of the root's rests -/
def wnd (p : Nat → Int) (a : List Int) : List Int := tab4 fun k => (a.getD 0 0 + p k * a.getD 1 0 + p (2 * k) * a.getD 2 0 + p (3 * k) * a.getD 3 0) % 17
def rnd (a b : List Int) : List Int := tab4 fun k => (tab4 fun j => a.getD j 0 * b.getD (((k : Int) - (0 + (j : Int))) % 4).toNat 0).sum % 17
section
variable {w : World} {dk : Nat} {f : Addr} {vs : List Value}
    {p : Program} {loose : List Str} {mean : ExcName → Option Value} {mg mb : Str → Option Value} {c1 c2 : Addr} {o1 o2 : Obj} {vs1 vs2 : Array Value} {t1 t2 : Tok}
    {dp un : Nat} {cn : Str} {cs : Scope} {a : Addr} {ccd : Value} {cl : List (Str × Addr)} {outer : List Env} {A₀ : Around} {base h₀ : Heap} {L : Addr} {m : Str → Option Value} {news : List (Addr × Obj)} {s : Shared} {Q E : Value → Shared → Prop}
/-- a contract that gives a row -/
theorem Tell.row {l : List Int} (C : Tell w dk f [] vs (fun _ _ v => ∃ b t, v = .bytes b t ∧ Row b l))
    (B : Below A₀ base outer h₀) (F : Fr h₀ L s.heap m) (X : (hd.heap_39 w.params).In h₀) (N : News h₀ L s.heap news) (T : Top p loose mean mg mb h₀) (hk : cs.kind = .function)
    (e2 : vs1[1]? = some (.str (Str.ofString "_int2digits.<locals>.inner") t1)) (e1 : o1.data = .fields vs1) (e4 : vs2[1]? = some (.str (Str.ofString "_digits2int.<locals>.inner") t2)) (e3 : o2.data = .fields vs2)
    (M : ∀ q ∈ tabs c1 c2 o1 o2, q ∈ news) (hd : dp + dk < recursionLimit) (hu : un + 8 * dk < cLine)
    (h : ∀ b t h' tk', Fr h₀ L h' m → News h₀ L h' news → Row b l → Q (.bytes b t) { s with heap := h', toks := tk' }) :
    wpAny (model PySem.Challenge.rw_hm0003_01.row.prog w) (ktrTop dp un (some []) cn cs L a ccd cl outer) (call (.ref f) vs) Q E s :=
  C _ _ _ _ _ _ _ _ _ _ _ _ _ _ _ _ _ _ _ _ _ _ _ _ _ _ _ _ _ e1 e2 e3 e4 B F X (fun q hq => N q (M q hq)) T hk hd hu fun v h' tk' ext post => by
    obtain ⟨b, t, rfl, r⟩ := post
    exact h b t h' tk' (F.keptAll ext) (N.grown ext) r
/-- a contract that gives an int -/
theorem Tell.int {n : Int} (C : Tell w dk f [] vs (fun _ _ v => ∃ t, v = .int n t))
    (B : Below A₀ base outer h₀) (F : Fr h₀ L s.heap m) (X : (hd.heap_39 w.params).In h₀) (N : News h₀ L s.heap news) (T : Top p loose mean mg mb h₀) (hk : cs.kind = .function)
    (e2 : vs1[1]? = some (.str (Str.ofString "_int2digits.<locals>.inner") t1)) (e1 : o1.data = .fields vs1) (e4 : vs2[1]? = some (.str (Str.ofString "_digits2int.<locals>.inner") t2)) (e3 : o2.data = .fields vs2)
    (M : ∀ q ∈ tabs c1 c2 o1 o2, q ∈ news) (hd : dp + dk < recursionLimit) (hu : un + 8 * dk < cLine)
    (h : ∀ t h' tk', Fr h₀ L h' m → News h₀ L h' news → Q (.int n t) { s with heap := h', toks := tk' }) :
    wpAny (model PySem.Challenge.rw_hm0003_01.row.prog w) (ktrTop dp un (some []) cn cs L a ccd cl outer) (call (.ref f) vs) Q E s :=
  C _ _ _ _ _ _ _ _ _ _ _ _ _ _ _ _ _ _ _ _ _ _ _ _ _ _ _ _ _ e1 e2 e3 e4 B F X (fun q hq => N q (M q hq)) T hk hd hu fun v h' tk' ext post => by
    obtain ⟨t, rfl⟩ := post
    exact h t h' tk' (F.keptAll ext) (N.grown ext)
end
end Mine
namespace Mine
section
variable {prog : Program} {w : World} {A : Around} {E : Value → Shared → Prop} {s : Shared} {h₀ : Heap} {L : Addr} {m : Str → Option Value} {env : Env}
theorem ints_at {ys : List Value} {ks : List Int} (h : IntsAre ys ks) : ∀ {i : Nat} {v : Value}, ys.toArray[i]? = some v → ∃ t, v = .int (ks.getD i 0) t := by
  induction h with
  | nil => intro i v e; simp at e
  | cons k t _ ih =>
    intro i v e
    cases i with
    | zero => simp at e; exact ⟨t, e.symm⟩
    | succ i => exact ih (i := i) (v := v) (by simpa using e)
theorem comp_list {elt : PySem.Expr} {x : Str} {scope : Scope} {cl : List (Str × Addr)} {Fin : List Value → List (Addr × Obj) → Prop} {news : List (Addr × Obj)} {n : Nat} {vs : List Value} {ax : Addr} {c : Nat} {ks : List Int} (zs : List Int) (hz : zs.length = n) (hv : IntsAre vs ks) (hm : (ax, listOf vs.toArray c) ∈ news)
    (turn : ∀ i t I oI C oC D ys m₂ h tk (E' : Value → Shared → Prop), i < n → LCg.NsObj oC m₂ → m₂ x = some (.int (ks.getD i 0) t) → Fr h₀ L h m → News h₀ L h ((I, oI) :: (C, oC) :: (D, LCg.lst ys) :: news) →
      wpAny (model prog w) A (eval elt (compEnvC scope cl C env)) (EltEnd h₀ L m ((I, oI) :: (C, oC) :: (D, LCg.lst ys) :: news) (zs.getD i 0) { s with heap := h, toks := tk }) E' { s with heap := h, toks := tk })
    (fin : ∀ ys, IntsAre ys zs → Fin ys news) : LCg.CompRest prog w A h₀ L m env elt x scope cl s (LCg.SrcAt h₀ ax vs.toArray) (fun i v => vs.toArray[i]? = some v) Fin n 0 [] news :=
  comp_ints zs hz (.inr ⟨_, hm, rfl, _, rfl⟩) (fun i v I oI C oC D ys m₂ h tk E' hi hP hC hx F N _ _ => by
    obtain ⟨t, rfl⟩ := ints_at hv hP
    exact turn i t I oI C oC D ys m₂ h tk E' hi hC hx F N) fin
/-- bytes of a made list of ints -/
theorem bytes_of {D : Addr} {vs : List Value} {zs : List Int} {n : Nat} {news : List (Addr × Obj)} {Q : Value → Shared → Prop} (F : Fr h₀ L s.heap m) (N : News h₀ L s.heap news) (hh : A.handled = none) (hm : (D, listOf vs.toArray n) ∈ news) (hi : IntsAre vs zs) (hr : KBa.In zs) (hn : zs.length = 4)
    (h : ∀ b' t' h' k, KBw.bInts b' = zs → Fr h₀ L h' m → News h₀ L h' news → Q (.bytes b' t') { s with heap := h', toks := k }) : wpAny (model prog w) A (call (.type "bytes") [.ref D]) Q E s :=
  bytes_is F N hh hm hi hr (by omega) h
theorem mul17_d {a b : Int} {t u : Tok} {Q : Value → Shared → Prop} (ha : 0 ≤ a ∧ a < 17) (hb : 0 ≤ b ∧ b < 17) (h : Q (.int (a * b) s.toks) { s with toks := s.toks + 1 }) : wpAny (model prog w) A (binaryOp .Mult (.int a t) (.int b u)) Q E s :=
  mul17_is' ha hb fun p e _ _ => e ▸ h
theorem mul17_l {a b : Int} {t u : Tok} {Q : Value → Shared → Prop} (ha : 0 ≤ a ∧ a < 17) (h : Q (.int (a * b) s.toks) { s with toks := s.toks + 1 }) : wpAny (model prog w) A (binaryOp .Mult (.int a t) (.int b u)) Q E s :=
  mul_int h (IntMulOk.of_left (Nat.le_trans (bits_bound ha.1 (by omega)) (by decide)))
/-- the powers of a root, by their rests -/
def Pw (R : Int) (p : Nat → Int) (k : Nat) : Prop := (-32 ≤ R ^ k ∧ R ^ k < 4096) ∧ R ^ k % 17 = p k ∧ (0 ≤ p k ∧ p k < 17) ∧ 1 * p k % 17 = p k ∧ p k * p k % 17 = p (2 * k) ∧ p (2 * k) * p k % 17 = p (3 * k)
theorem pow_k {j : Nat} {a b : Int} {t u : Tok} {Q : Value → Shared → Prop} (hb : b = j) (hj : j ≤ 1000000) (ha : a.natAbs < 2 ^ 64) (h : Q (.int (a ^ j) s.toks) { s with toks := s.toks + 1 }) : wpAny (model prog w) A (binaryOp .Pow (.int a t) (.int b u)) Q E s := pow_is j hb hj ha rfl h
theorem wound_at {z q0 q1 q2 q3 k1 k2 k3 S s2 s3 a0 a1 a2 a3 : Int} (ez : z = (0 + q0 + q1 + q2 + q3) % 17) (e0 : q0 = a0 * 1) (e1 : q1 = a1 * k1) (e2 : q2 = a2 * k2) (e3 : q3 = a3 * k3) (f1 : k1 = 1 * S % 17) (f2 : k2 = k1 * S % 17) (f3 : k3 = k2 * S % 17)
    (h1 : 1 * S % 17 = S) (h2 : S * S % 17 = s2) (h3 : s2 * S % 17 = s3) : z = (a0 + S * a1 + s2 * a2 + s3 * a3) % 17 := by
  obtain rfl : k1 = S := f1.trans h1
  obtain rfl : k2 = s2 := f2.trans h2
  obtain rfl : k3 = s3 := f3.trans h3
  rw [ez, e0, e1, e2, e3, Int.zero_add, Int.mul_one, Int.mul_comm a1, Int.mul_comm a2, Int.mul_comm a3]
theorem lt_all {D : Addr} {l : List (Addr × Obj)} (h : AllLt D l) : ∀ p ∈ l, p.1 ≠ D := tbn_neAll h
end
end Mine
namespace Mine
theorem Row.ints {b : Array UInt8} {l : List Int} (r : Row b l) : KBw.bInts b = l := r.1
theorem Row.len {b : Array UInt8} {l : List Int} (r : Row b l) : l.length = 4 := r.2.1
theorem Row.at {b : Array UInt8} {l : List Int} (r : Row b l) (i : Nat) : 0 ≤ l.getD i 0 ∧ l.getD i 0 < 17 := r.2.2 i
theorem prod_low {a b : Int} (ha : 0 ≤ a ∧ a < 17) (hb : 0 ≤ b ∧ b < 17) : 0 ≤ a * b ∧ a * b ≤ 256 :=
  ⟨Int.mul_nonneg ha.1 hb.1, (Int.mul_le_mul (by omega) (by omega) hb.1 (by omega) : a * b ≤ 16 * 16)⟩
theorem sum_low {a b : List Int} {g : Nat → Nat} (ha : Low a) (hb : Low b) : 0 ≤ (tab4 fun j => a.getD j 0 * b.getD (g j) 0).sum ∧ (tab4 fun j => a.getD j 0 * b.getD (g j) 0).sum ≤ 1024 := by
  have h0 := prod_low (ha 0) (hb (g 0))
  have h1 := prod_low (ha 1) (hb (g 1))
  have h2 := prod_low (ha 2) (hb (g 2))
  have h3 := prod_low (ha 3) (hb (g 3))
  simp only [tab4, List.sum_cons, List.sum_nil]
  generalize a.getD 0 0 * b.getD (g 0) 0 = p0 at *
  generalize a.getD 1 0 * b.getD (g 1) 0 = p1 at *
  generalize a.getD 2 0 * b.getD (g 2) 0 = p2 at *
  generalize a.getD 3 0 * b.getD (g 3) 0 = p3 at *
  omega
end Mine
namespace Mine
theorem news_sub {h₀ h : Heap} {L : Addr} {l l' : List (Addr × Obj)} (N : News h₀ L h l') (hs : ∀ q ∈ l, q ∈ l') : News h₀ L h l := cb_drop N hs
theorem Row.four {b : Array UInt8} {l : List Int} (r : Row b l) : ∃ a0 a1 a2 a3, l = [a0, a1, a2, a3] := list4 r.2.1
def p4 (j : Nat) : Int := 4 ^ j % 17
def p13 (j : Nat) : Int := 13 ^ j % 17
end Mine
namespace Mine
section
variable {prog : Program} {w : World} {A : Around} {E : Value → Shared → Prop} {s : Shared} {h₀ : Heap} {L : Addr} {m : Str → Option Value} {env : Env}
/-- bytes of a made list of rests -/
theorem bytes_row {D : Addr} {vs : List Value} {f : Nat → Int} {n : Nat} {news : List (Addr × Obj)} {Q : Value → Shared → Prop} (F : Fr h₀ L s.heap m) (N : News h₀ L s.heap news) (hh : A.handled = none) (hm : (D, listOf vs.toArray n) ∈ news) (hi : IntsAre vs (tab4 fun k => f k % 17))
    (h : ∀ b' t' h' k, Row b' (tab4 fun k => f k % 17) → Fr h₀ L h' m → News h₀ L h' news → Q (.bytes b' t') { s with heap := h', toks := k }) : wpAny (model prog w) A (call (.type "bytes") [.ref D]) Q E s :=
  bytes_of F N hh hm hi mod_in rfl fun b' t' h' k hb => h b' t' h' k (Row.mod hb)
theorem SrcB_row {elt : PySem.Expr} {x : Str} {scope : Scope} {cl : List (Str × Addr)} {Q : Value → Shared → Prop} {b : Array UInt8} {t : Tok} {ks : List Int} {news : List (Addr × Obj)} {s₁ : Shared} (hh : A.handled = none) (F : Fr h₀ L s₁.heap m) (N : News h₀ L s₁.heap news) (hb : KBw.bInts b = ks) (hk : ks.length = 4)
    (h : ∀ g, LCg.CompRest prog w A h₀ L m env elt x scope cl { s₁ with heap := g } (fun _ => True) (IntAt ks) (LCg.FinE h₀ L m { s₁ with heap := g } Q) 4 0 [] news) : SrcB prog w A h₀ L m env elt x scope cl Q (.bytes b t) s₁ :=
  ⟨b, t, ks, news, rfl, hh, F, N, hb, by omega, fun g => by rw [hk]; exact h g⟩
end
end Mine
namespace Mine
section
variable {w : World} {dk : Nat} {f : Addr} {vs : List Value}
    {p : Program} {loose : List Str} {mean : ExcName → Option Value} {mg mb : Str → Option Value} {c1 c2 : Addr} {o1 o2 : Obj} {vs1 vs2 : Array Value} {t1 t2 : Tok}
    {dp un : Nat} {cn : Str} {cs : Scope} {a : Addr} {ccd : Value} {cl : List (Str × Addr)} {outer : List Env} {A₀ : Around} {base h₀ : Heap} {L : Addr} {m : Str → Option Value} {news : List (Addr × Obj)} {s : Shared} {Q E : Value → Shared → Prop}
/-- what a contract says of a new list of ints -/
def LPost (zs : List Int) (h h' : Heap) (v : Value) : Prop := ∃ (D : Addr) (ys : List Value) (c : Nat), v = .ref D ∧ h.objs.size ≤ D ∧ h'.get? D = some (listOf ys.toArray c) ∧ IntsAre ys zs
theorem Tell.list {zs : List Int} (C : Tell w dk f [] vs (LPost zs))
    (B : Below A₀ base outer h₀) (F : Fr h₀ L s.heap m) (X : (hd.heap_39 w.params).In h₀) (N : News h₀ L s.heap news) (T : Top p loose mean mg mb h₀) (hk : cs.kind = .function)
    (e2 : vs1[1]? = some (.str (Str.ofString "_int2digits.<locals>.inner") t1)) (e1 : o1.data = .fields vs1) (e4 : vs2[1]? = some (.str (Str.ofString "_digits2int.<locals>.inner") t2)) (e3 : o2.data = .fields vs2)
    (M : ∀ q ∈ tabs c1 c2 o1 o2, q ∈ news) (hd : dp + dk < recursionLimit) (hu : un + 8 * dk < cLine)
    (h : ∀ D ys c h' tk', IntsAre ys zs → Fr h₀ L h' m → News h₀ L h' ((D, listOf ys.toArray c) :: news) → (∀ q ∈ news, q.1 < D) → LT.lt (α := Nat) L D → Q (.ref D) { s with heap := h', toks := tk' }) :
    wpAny (model PySem.Challenge.rw_hm0003_01.row.prog w) (ktrTop dp un (some []) cn cs L a ccd cl outer) (call (.ref f) vs) Q E s :=
  C _ _ _ _ _ _ _ _ _ _ _ _ _ _ _ _ _ _ _ _ _ _ _ _ _ _ _ _ _ e1 e2 e3 e4 B F X (fun q hq => N q (M q hq)) T hk hd hu fun v h' tk' ext post => by
    obtain ⟨D, ys, c, rfl, hD, g, hy⟩ := post
    have z := news_made F N (N.grown ext) hD g
    exact h D ys c h' tk' hy (F.keptAll ext) z.1 z.2 (Nat.lt_of_lt_of_le F.ns.lt hD)
theorem Tell.list1 {z0 : Int} (C : Tell w dk f [] vs (LPost [z0]))
    (B : Below A₀ base outer h₀) (F : Fr h₀ L s.heap m) (X : (hd.heap_39 w.params).In h₀) (N : News h₀ L s.heap news) (T : Top p loose mean mg mb h₀) (hk : cs.kind = .function)
    (e2 : vs1[1]? = some (.str (Str.ofString "_int2digits.<locals>.inner") t1)) (e1 : o1.data = .fields vs1) (e4 : vs2[1]? = some (.str (Str.ofString "_digits2int.<locals>.inner") t2)) (e3 : o2.data = .fields vs2)
    (M : ∀ q ∈ tabs c1 c2 o1 o2, q ∈ news) (hd : dp + dk < recursionLimit) (hu : un + 8 * dk < cLine)
    (h : ∀ D u0 c h' tk', Fr h₀ L h' m → News h₀ L h' ((D, listOf #[.int z0 u0] c) :: news) → (∀ q ∈ news, q.1 < D) → LT.lt (α := Nat) L D → Q (.ref D) { s with heap := h', toks := tk' }) :
    wpAny (model PySem.Challenge.rw_hm0003_01.row.prog w) (ktrTop dp un (some []) cn cs L a ccd cl outer) (call (.ref f) vs) Q E s :=
  Tell.list C B F X N T hk e2 e1 e4 e3 M hd hu fun D ys c h' tk' hy F' N' l1 l2 => by
    obtain ⟨u0, w0, rfl, i0⟩ := IntsAre.cons_inv hy
    obtain rfl := IntsAre.nil_inv i0
    exact h D u0 c h' tk' F' N' l1 l2
theorem Tell.list2 {z0 z1 : Int} (C : Tell w dk f [] vs (LPost [z0, z1]))
    (B : Below A₀ base outer h₀) (F : Fr h₀ L s.heap m) (X : (hd.heap_39 w.params).In h₀) (N : News h₀ L s.heap news) (T : Top p loose mean mg mb h₀) (hk : cs.kind = .function)
    (e2 : vs1[1]? = some (.str (Str.ofString "_int2digits.<locals>.inner") t1)) (e1 : o1.data = .fields vs1) (e4 : vs2[1]? = some (.str (Str.ofString "_digits2int.<locals>.inner") t2)) (e3 : o2.data = .fields vs2)
    (M : ∀ q ∈ tabs c1 c2 o1 o2, q ∈ news) (hd : dp + dk < recursionLimit) (hu : un + 8 * dk < cLine)
    (h : ∀ D u0 u1 c h' tk', Fr h₀ L h' m → News h₀ L h' ((D, listOf #[.int z0 u0, .int z1 u1] c) :: news) → (∀ q ∈ news, q.1 < D) → LT.lt (α := Nat) L D → Q (.ref D) { s with heap := h', toks := tk' }) :
    wpAny (model PySem.Challenge.rw_hm0003_01.row.prog w) (ktrTop dp un (some []) cn cs L a ccd cl outer) (call (.ref f) vs) Q E s :=
  Tell.list C B F X N T hk e2 e1 e4 e3 M hd hu fun D ys c h' tk' hy F' N' l1 l2 => by
    obtain ⟨u0, w0, rfl, i0⟩ := IntsAre.cons_inv hy
    obtain ⟨u1, w1, rfl, i1⟩ := IntsAre.cons_inv i0
    obtain rfl := IntsAre.nil_inv i1
    exact h D u0 u1 c h' tk' F' N' l1 l2
end
theorem ints_to {ys : List Value} {zs zs' : List Int} (h : IntsAre ys zs) (e : zs = zs') : IntsAre ys zs' := e ▸ h
end Mine
namespace Mine
theorem four_1 {x0 y0 : Int} (e0 : x0 = y0) : [x0] = [y0] := by rw [e0]
theorem four_2 {x0 y0 x1 y1 : Int} (e0 : x0 = y0) (e1 : x1 = y1) : [x0, x1] = [y0, y1] := by rw [e0, e1]
theorem four_4 {x0 y0 x1 y1 x2 y2 x3 y3 : Int} (e0 : x0 = y0) (e1 : x1 = y1) (e2 : x2 = y2) (e3 : x3 = y3) : [x0, x1, x2, x3] = [y0, y1, y2, y3] := by rw [e0, e1, e2, e3]
end Mine
namespace Mine
section
variable {prog : Program} {w : World} {A : Around} {E : Value → Shared → Prop} {s : Shared} {h₀ : Heap} {L : Addr} {m : Str → Option Value} {env : Env}
open PyProof.Rows.LCg in
/-- the rest of a comprehension over a range, its turn shown once -/
theorem comp_range_from {elt : PySem.Expr} {x : Str} {scope : Scope} {cl : List (Str × Addr)} {Fin : List Value → List (Addr × Obj) → Prop} {news : List (Addr × Obj)} {k i0 : Nat} {a : Int} {ys0 : List Value} (n : Nat) (zs : List Int) (hz : zs.length = n) (hk : i0 + k = n) (h0 : IntsAre ys0 (zs.take i0))
    (turn : ∀ i t I oI C oC D ys m₂ h tk (E' : Value → Shared → Prop), i < n → NsObj oC m₂ → m₂ x = some (.int (a + (i : Nat)) t) → Fr h₀ L h m → News h₀ L h ((I, oI) :: (C, oC) :: (D, lst ys) :: news) →
      wpAny (model prog w) A (eval elt (compEnvC scope cl C env)) (EltEnd h₀ L m ((I, oI) :: (C, oC) :: (D, lst ys) :: news) (zs.getD i 0) { s with heap := h, toks := tk }) E' { s with heap := h, toks := tk })
    (fin : ∀ ys, IntsAre ys zs → Fin ys news) : CompRest prog w A h₀ L m env elt x scope cl s (fun _ => True) (fun i v => ∃ t, v = .int (a + (i : Int)) t) Fin k i0 ys0 news := by
  revert hk h0
  induction k generalizing i0 ys0 with
  | zero =>
    intro hi hy
    obtain rfl : i0 = n := hi
    rw [← hz, List.take_length] at hy
    exact fin ys0 hy
  | succ k ih =>
    intro hi hy
    have hlt : i0 < n := by omega
    refine CompRest.succ fun v I oI C oC D m₂ h tk E' hP hC hx F N off ne => ?_
    obtain ⟨t, rfl⟩ := hP
    refine wpAny_mono (turn i0 t I oI C oC D ys0 m₂ h tk E' hlt hC hx F N) (fun v' s' h' => ?_) fun _ _ e => e
    obtain ⟨h₁, tk₁, u, rfl, rfl, F₁, N₁⟩ := h'
    have hzi : zs[i0]? = some (zs.getD i0 0) := by
      rw [List.getD_eq_getElem?_getD, List.getElem?_eq_getElem (by omega)]
      rfl
    refine CompEnd.intro F₁ N₁ news (fun _ h => h) off trivial (ih (by omega) ?_)
    rw [List.take_add_one, hzi]
    exact ints_snoc hy
theorem four_pow {i : Nat} (h : i < 4) : -32 ≤ (4 : Int) ^ (1 + i) ∧ (4 : Int) ^ (1 + i) < 4096 := by
  revert i; decide
end
theorem tabs_ne {x : Addr} {c1 c2 : Addr} {o1 o2 : Obj} (h1 : (44 : Nat) ≠ x) (h2 : (37 : Nat) ≠ x) (h3 : c2 ≠ x) (h4 : c1 ≠ x) : ∀ p ∈ tabs c1 c2 o1 o2, p.1 ≠ x := all_cons h1 (all_cons h2 (all_cons h3 (all_cons h4 all_nil)))
end Mine
namespace Mine
section
variable {w : World} {dk : Nat} {f : Addr} {vs : List Value}
    {p : Program} {loose : List Str} {mean : ExcName → Option Value} {mg mb : Str → Option Value} {c1 c2 : Addr} {o1 o2 : Obj} {vs1 vs2 : Array Value} {t1 t2 : Tok}
    {dp un : Nat} {cn : Str} {cs : Scope} {a : Addr} {ccd : Value} {cl : List (Str × Addr)} {outer : List Env} {A₀ : Around} {base h₀ : Heap} {L : Addr} {m : Str → Option Value} {news : List (Addr × Obj)} {s : Shared} {Q E : Value → Shared → Prop}
/-- what a contract says of a new pair of ints -/
def PPost (P : Int → Int → Prop) (h h' : Heap) (v : Value) : Prop := ∃ (D : Addr) (q r : Int) (u1 u2 : Tok), v = .ref D ∧ h.objs.size ≤ D ∧ h'.get? D = some { cls := .type "tuple", data := .seq #[.int q u1, .int r u2] } ∧ P q r
theorem Tell.pair {P : Int → Int → Prop} (C : Tell w dk f [] vs (PPost P))
    (B : Below A₀ base outer h₀) (F : Fr h₀ L s.heap m) (X : (hd.heap_39 w.params).In h₀) (N : News h₀ L s.heap news) (T : Top p loose mean mg mb h₀) (hk : cs.kind = .function)
    (e2 : vs1[1]? = some (.str (Str.ofString "_int2digits.<locals>.inner") t1)) (e1 : o1.data = .fields vs1) (e4 : vs2[1]? = some (.str (Str.ofString "_digits2int.<locals>.inner") t2)) (e3 : o2.data = .fields vs2)
    (M : ∀ q ∈ tabs c1 c2 o1 o2, q ∈ news) (hd : dp + dk < recursionLimit) (hu : un + 8 * dk < cLine)
    (h : ∀ D q r u1 u2 h' tk', P q r → Fr h₀ L h' m → News h₀ L h' ((D, { cls := .type "tuple", data := .seq #[.int q u1, .int r u2] }) :: news) → (∀ q ∈ news, q.1 < D) → LT.lt (α := Nat) L D → Q (.ref D) { s with heap := h', toks := tk' }) :
    wpAny (model PySem.Challenge.rw_hm0003_01.row.prog w) (ktrTop dp un (some []) cn cs L a ccd cl outer) (call (.ref f) vs) Q E s :=
  C _ _ _ _ _ _ _ _ _ _ _ _ _ _ _ _ _ _ _ _ _ _ _ _ _ _ _ _ _ e1 e2 e3 e4 B F X (fun q hq => N q (M q hq)) T hk hd hu fun v h' tk' ext post => by
    obtain ⟨D, q, r, u1, u2, rfl, hD, g, hp⟩ := post
    have z := news_made F N (N.grown ext) hD g
    exact h D q r u1 u2 h' tk' hp (F.keptAll ext) z.1 z.2 (Nat.lt_of_lt_of_le F.ns.lt hD)
theorem Tell.mono {k k' : Nat} {own : List (Addr × Obj)} {post : Heap → Heap → Value → Prop} (C : Tell w k f own vs post) (hk : k ≤ k') : Tell w k' f own vs post :=
  fun p loose mean mg mb c1 c2 o1 o2 vs1 vs2 t1 t2 dp un cn cs a ccd cl outer A₀ base h₀ L m s Q E hd1 hv1 hd2 hv2 B F X N T hc hdp hun hret =>
    C p loose mean mg mb c1 c2 o1 o2 vs1 vs2 t1 t2 dp un cn cs a ccd cl outer A₀ base h₀ L m s Q E hd1 hv1 hd2 hv2 B F X N T hc (by omega) (by omega) hret
end
/-- digits to the base 32 -/
def Digs (l : List Int) : Prop := ∀ d ∈ l, 0 ≤ d ∧ d < 32
/-- what the digits say, the highest last -/
def dval : List Int → Int
  | [] => 0
  | d :: r => d + 32 * dval r
end Mine
namespace Mine
section
variable {w : World} {dk : Nat} {f : Addr} {vs : List Value}
    {p : Program} {loose : List Str} {mean : ExcName → Option Value} {mg mb : Str → Option Value} {c1 c2 : Addr} {o1 o2 : Obj} {vs1 vs2 : Array Value} {t1 t2 : Tok}
    {dp un : Nat} {cn : Str} {cs : Scope} {a : Addr} {ccd : Value} {cl : List (Str × Addr)} {outer : List Env} {A₀ : Around} {base h₀ : Heap} {L : Addr} {m : Str → Option Value} {news : List (Addr × Obj)} {s : Shared} {Q E : Value → Shared → Prop}
/-- what a contract says of a new list of some ints -/
def LSome (P : List Int → Prop) (h h' : Heap) (v : Value) : Prop := ∃ zs, P zs ∧ LPost zs h h' v
theorem Tell.lists {P : List Int → Prop} (C : Tell w dk f [] vs (LSome P))
    (B : Below A₀ base outer h₀) (F : Fr h₀ L s.heap m) (X : (hd.heap_39 w.params).In h₀) (N : News h₀ L s.heap news) (T : Top p loose mean mg mb h₀) (hk : cs.kind = .function)
    (e2 : vs1[1]? = some (.str (Str.ofString "_int2digits.<locals>.inner") t1)) (e1 : o1.data = .fields vs1) (e4 : vs2[1]? = some (.str (Str.ofString "_digits2int.<locals>.inner") t2)) (e3 : o2.data = .fields vs2)
    (M : ∀ q ∈ tabs c1 c2 o1 o2, q ∈ news) (hd : dp + dk < recursionLimit) (hu : un + 8 * dk < cLine)
    (h : ∀ D zs ys c h' tk', P zs → IntsAre ys zs → Fr h₀ L h' m → News h₀ L h' ((D, listOf ys.toArray c) :: news) → (∀ q ∈ news, q.1 < D) → LT.lt (α := Nat) L D → Q (.ref D) { s with heap := h', toks := tk' }) :
    wpAny (model PySem.Challenge.rw_hm0003_01.row.prog w) (ktrTop dp un (some []) cn cs L a ccd cl outer) (call (.ref f) vs) Q E s :=
  C _ _ _ _ _ _ _ _ _ _ _ _ _ _ _ _ _ _ _ _ _ _ _ _ _ _ _ _ _ e1 e2 e3 e4 B F X (fun q hq => N q (M q hq)) T hk hd hu fun v h' tk' ext post => by
    obtain ⟨zs, hp, D, ys, c, rfl, hD, g, hy⟩ := post
    have z := news_made F N (N.grown ext) hD g
    exact h D zs ys c h' tk' hp hy (F.keptAll ext) z.1 z.2 (Nat.lt_of_lt_of_le F.ns.lt hD)
/-- a contract that reads one object and gives some int -/
theorem Tell.int1 {D : Addr} {o : Obj} (C : Tell w dk f [(D, o)] vs (fun _ _ v => ∃ (x : Int) (t : Tok), v = .int x t))
    (B : Below A₀ base outer h₀) (F : Fr h₀ L s.heap m) (X : (hd.heap_39 w.params).In h₀) (N : News h₀ L s.heap news) (T : Top p loose mean mg mb h₀) (hk : cs.kind = .function)
    (e2 : vs1[1]? = some (.str (Str.ofString "_int2digits.<locals>.inner") t1)) (e1 : o1.data = .fields vs1) (e4 : vs2[1]? = some (.str (Str.ofString "_digits2int.<locals>.inner") t2)) (e3 : o2.data = .fields vs2)
    (M : ∀ q ∈ tabs c1 c2 o1 o2, q ∈ news) (hd : dp + dk < recursionLimit) (hu : un + 8 * dk < cLine) (m0 : (D, o) ∈ news)
    (h : ∀ x t h' tk', Fr h₀ L h' m → News h₀ L h' news → Q (.int x t) { s with heap := h', toks := tk' }) :
    wpAny (model PySem.Challenge.rw_hm0003_01.row.prog w) (ktrTop dp un (some []) cn cs L a ccd cl outer) (call (.ref f) vs) Q E s :=
  C _ _ _ _ _ _ _ _ _ _ _ _ _ _ _ _ _ _ _ _ _ _ _ _ _ _ _ _ _ e1 e2 e3 e4 B F X (fun q hq => N q (by
    rcases List.mem_cons.mp hq with rfl | hq
    · exact m0
    · exact M q hq)) T hk hd hu fun v h' tk' ext post => by
    obtain ⟨x, t, rfl⟩ := post
    exact h x t h' tk' (F.keptAll ext) (N.grown ext)
end
def DigOf (n : Int) (ds : List Int) : Prop := Digs ds ∧ ds.length ≤ 3 ∧ dval ds = n
theorem ints_rev {ys : List Value} {zs : List Int} (h : IntsAre ys zs) : IntsAre ys.reverse zs.reverse := h.reverse
theorem digs_rev {l : List Int} (h : Digs l) : Digs l.reverse := fun d hd => h d (List.mem_reverse.mp hd)
theorem len_ints {ys : List Value} {zs : List Int} (h : IntsAre ys zs) : ys.length = zs.length := h.length
def hor (R : Int) (l : List Int) : Int := l.foldl (fun R d => (R * 32 + d) % 17) R
theorem hor_val (l : List Int) : hor 0 l.reverse = dval l % 17 := by
  induction l with
  | nil => rfl
  | cons d r ih =>
    unfold hor at ih ⊢
    rw [List.reverse_cons, List.foldl_append, ih]
    show (dval r % 17 * 32 + d) % 17 = (d + 32 * dval r) % 17
    rw [Int.add_comm, Int.mul_comm, Int.add_emod, Int.mul_emod, Int.emod_emod_of_dvd _ (Int.dvd_refl 17), ← Int.mul_emod, ← Int.add_emod]
end Mine
namespace Mine
theorem off_all {I : Addr} {it : Obj} : ∀ {l : List (Addr × Obj)}, (∀ p ∈ l, p.1 ≠ I) → OffI I it l
  | [], _ => trivial
  | p :: _, h => ⟨.inl (h p (.head _)), off_all fun q hq => h q (.tail _ hq)⟩
end Mine
namespace Mine
theorem digs1 {a : Int} (h : 0 ≤ a ∧ a < 32) : Digs [a] := fun d hd => by rw [List.mem_singleton.mp hd]; exact h
theorem digs_cons {a : Int} {l : List Int} (h : 0 ≤ a ∧ a < 32) (hl : Digs l) : Digs (a :: l) := fun d hd => by
  rcases List.mem_cons.mp hd with rfl | hd
  · exact h
  · exact hl d hd
theorem digs2 {a b : Int} (h : 0 ≤ a ∧ a < 32) (h1 : 0 ≤ b ∧ b < 32) : Digs [a, b] := digs_cons h (digs1 h1)
theorem digs3 {a b c : Int} (h : 0 ≤ a ∧ a < 32) (h1 : 0 ≤ b ∧ b < 32) (h2 : 0 ≤ c ∧ c < 32) : Digs [a, b, c] := digs_cons h (digs2 h1 h2)
end Mine
namespace Mine
theorem lsome {P : List Int → Prop} {zs : List Int} {D : Addr} {ys : List Value} {c : Nat} {h h' : Heap} (hz : P zs) (hD : h.objs.size ≤ D) (g : h'.get? D = some (listOf ys.toArray c)) (hy : IntsAre ys zs) : LSome P h h' (.ref D) := ⟨zs, hz, D, ys, c, rfl, hD, g, hy⟩
end Mine
namespace Mine
theorem ne_a3 {a L : Nat} (h : a < L) : a ≠ L + 1 + 1 + 1 := Nat.ne_of_lt (Nat.lt_of_lt_of_le h (Nat.le_add_right L 3))
theorem ne_a4 {a L : Nat} (h : a < L) : a ≠ L + 1 + 1 + 1 + 1 := Nat.ne_of_lt (Nat.lt_of_lt_of_le h (Nat.le_add_right L 4))
theorem ne_c4 {c L : Nat} (h : L + 1 + 1 + 1 + 1 < c) : c ≠ L + 1 + 1 + 1 + 1 := Nat.ne_of_gt h
theorem ne_c3 {c L : Nat} (h : L + 1 + 1 + 1 + 1 < c) : c ≠ L + 1 + 1 + 1 := Nat.ne_of_gt (Nat.lt_of_succ_lt h)
end Mine
end

namespace Mine
theorem tab4_eq {f g : Nat → Int} (h0 : f 0 = g 0) (h1 : f 1 = g 1) (h2 : f 2 = g 2) (h3 : f 3 = g 3) : tab4 f = tab4 g := by
  unfold tab4
  rw [h0, h1, h2, h3]
theorem tab4_ext {f g : Nat → Int} (h : ∀ k, k < 4 → f k = g k) : tab4 f = tab4 g := tab4_eq (h 0 (by decide)) (h 1 (by decide)) (h 2 (by decide)) (h 3 (by decide))
theorem l0 {c a0 a1 a2 a3 : Int} : c * a0 + 0 * a1 + 0 * a2 + 0 * a3 = c * a0 := by rw [Int.zero_mul, Int.zero_mul, Int.zero_mul, Int.add_zero, Int.add_zero, Int.add_zero]
theorem l1 {c a0 a1 a2 a3 : Int} : 0 * a0 + c * a1 + 0 * a2 + 0 * a3 = c * a1 := by rw [Int.zero_mul, Int.zero_mul, Int.zero_mul, Int.add_zero, Int.add_zero, Int.zero_add]
theorem l2 {c a0 a1 a2 a3 : Int} : 0 * a0 + 0 * a1 + c * a2 + 0 * a3 = c * a2 := by rw [Int.zero_mul, Int.zero_mul, Int.zero_mul, Int.add_zero, Int.zero_add, Int.zero_add]
theorem l3 {c a0 a1 a2 a3 : Int} : 0 * a0 + 0 * a1 + 0 * a2 + c * a3 = c * a3 := by rw [Int.zero_mul, Int.zero_mul, Int.zero_mul, Int.zero_add, Int.zero_add, Int.zero_add]
theorem m17 {x y : Int} (h : x = y) : x % 17 = y % 17 := congrArg (· % 17) h
theorem mod_of {x y k : Int} (h : x = y + 17 * k) : x % 17 = y % 17 := by
  subst h
  exact Int.add_mul_emod_self_left y 17 k
theorem mod_ex (x : Int) : ∃ q, x % 17 = x - 17 * q := ⟨x / 17, by omega⟩
theorem zero_ex {x : Int} (h : x % 17 = 0) : ∃ q, x = 17 * q := ⟨x / 17, by omega⟩
theorem lin_lin {d0 d1 d2 d3 x0 x1 x2 x3 c00 c01 c02 c03 c10 c11 c12 c13 c20 c21 c22 c23 c30 c31 c32 c33 e0 e1 e2 e3 a0 a1 a2 a3 : Int}
    (h0 : (d0 * c00 + d1 * c10 + d2 * c20 + d3 * c30 - e0) % 17 = 0) (h1 : (d0 * c01 + d1 * c11 + d2 * c21 + d3 * c31 - e1) % 17 = 0)
    (h2 : (d0 * c02 + d1 * c12 + d2 * c22 + d3 * c32 - e2) % 17 = 0) (h3 : (d0 * c03 + d1 * c13 + d2 * c23 + d3 * c33 - e3) % 17 = 0)
    (f0 : x0 = (c00 * a0 + c01 * a1 + c02 * a2 + c03 * a3) % 17) (f1 : x1 = (c10 * a0 + c11 * a1 + c12 * a2 + c13 * a3) % 17) (f2 : x2 = (c20 * a0 + c21 * a1 + c22 * a2 + c23 * a3) % 17) (f3 : x3 = (c30 * a0 + c31 * a1 + c32 * a2 + c33 * a3) % 17) :
    (d0 * x0 + d1 * x1 + d2 * x2 + d3 * x3) % 17 = (e0 * a0 + e1 * a1 + e2 * a2 + e3 * a3) % 17 := by
  obtain ⟨k0, g0⟩ := zero_ex h0
  obtain ⟨k1, g1⟩ := zero_ex h1
  obtain ⟨k2, g2⟩ := zero_ex h2
  obtain ⟨k3, g3⟩ := zero_ex h3
  obtain ⟨q0, r0⟩ := mod_ex (c00 * a0 + c01 * a1 + c02 * a2 + c03 * a3)
  obtain ⟨q1, r1⟩ := mod_ex (c10 * a0 + c11 * a1 + c12 * a2 + c13 * a3)
  obtain ⟨q2, r2⟩ := mod_ex (c20 * a0 + c21 * a1 + c22 * a2 + c23 * a3)
  obtain ⟨q3, r3⟩ := mod_ex (c30 * a0 + c31 * a1 + c32 * a2 + c33 * a3)
  rw [r0] at f0
  rw [r1] at f1
  rw [r2] at f2
  rw [r3] at f3
  clear r0 r1 r2 r3 h0 h1 h2 h3
  obtain rfl : e0 = d0 * c00 + d1 * c10 + d2 * c20 + d3 * c30 - 17 * k0 := by rw [← g0, Int.sub_sub_self]
  obtain rfl : e1 = d0 * c01 + d1 * c11 + d2 * c21 + d3 * c31 - 17 * k1 := by rw [← g1, Int.sub_sub_self]
  obtain rfl : e2 = d0 * c02 + d1 * c12 + d2 * c22 + d3 * c32 - 17 * k2 := by rw [← g2, Int.sub_sub_self]
  obtain rfl : e3 = d0 * c03 + d1 * c13 + d2 * c23 + d3 * c33 - 17 * k3 := by rw [← g3, Int.sub_sub_self]
  clear g0 g1 g2 g3
  subst f0 f1 f2 f3
  exact mod_of (k := k0 * a0 + k1 * a1 + k2 * a2 + k3 * a3 - (d0 * q0 + d1 * q1 + d2 * q2 + d3 * q3)) (by grind)
def mat (C : Nat → Nat → Int) (a : List Int) : List Int := tab4 fun k => (C k 0 * a.getD 0 0 + C k 1 * a.getD 1 0 + C k 2 * a.getD 2 0 + C k 3 * a.getD 3 0) % 17
def Mul4 (D C E : Nat → Nat → Int) : Prop := ∀ k, k < 4 → ∀ j, j < 4 → (D k 0 * C 0 j + D k 1 * C 1 j + D k 2 * C 2 j + D k 3 * C 3 j - E k j) % 17 = 0
theorem mat_mat {D C E : Nat → Nat → Int} {a : List Int} (h : Mul4 D C E) : mat D (mat C a) = mat E a :=
  tab4_ext fun k hk => lin_lin (h k hk 0 (by decide)) (h k hk 1 (by decide)) (h k hk 2 (by decide)) (h k hk 3 (by decide)) rfl rfl rfl rfl
def C4 (k j : Nat) : Int := p4 (k * j)
def C13 (k j : Nat) : Int := p13 (k * j)
def dg (c : Nat → Int) (k j : Nat) : Int := if k = j then c k else 0
theorem wnd4_mat (a : List Int) : wnd p4 a = mat C4 a := tab4_ext fun k _ => by
  show _ = (p4 (k * 0) * a.getD 0 0 + p4 (k * 1) * a.getD 1 0 + p4 (k * 2) * a.getD 2 0 + p4 (k * 3) * a.getD 3 0) % 17
  rw [Nat.mul_zero, Nat.mul_one, Nat.mul_comm k 2, Nat.mul_comm k 3, show p4 0 = 1 from rfl, Int.one_mul]
theorem wnd13_mat (a : List Int) : wnd p13 a = mat C13 a := tab4_ext fun k _ => by
  show _ = (p13 (k * 0) * a.getD 0 0 + p13 (k * 1) * a.getD 1 0 + p13 (k * 2) * a.getD 2 0 + p13 (k * 3) * a.getD 3 0) % 17
  rw [Nat.mul_zero, Nat.mul_one, Nat.mul_comm k 2, Nat.mul_comm k 3, show p13 0 = 1 from rfl, Int.one_mul]
theorem dg_mat (c : Nat → Int) (a : List Int) : (tab4 fun k => c k * a.getD k 0 % 17) = mat (dg c) a := tab4_eq (m17 l0.symm) (m17 l1.symm) (m17 l2.symm) (m17 l3.symm)
theorem mat_one {a : List Int} (h : a.length = 4) (hl : Low a) : mat (dg fun _ => 1) a = a := by
  obtain ⟨a0, a1, a2, a3, rfl⟩ := list4 h
  rw [← dg_mat]
  have e : ∀ x : Int, 0 ≤ x ∧ x < 17 → 1 * x % 17 = x := fun x hx => by rw [Int.one_mul, Int.emod_eq_of_lt hx.1 hx.2]
  show [1 * a0 % 17, 1 * a1 % 17, 1 * a2 % 17, 1 * a3 % 17] = _
  rw [e a0 (hl 0), e a1 (hl 1), e a2 (hl 2), e a3 (hl 3)]
/-- wound and wound back -/
theorem s7 {a : List Int} (h : a.length = 4) (hl : Low a) : (tab4 fun k => 13 * (wnd p13 (wnd p4 a)).getD k 0 % 17) = a := by
  rw [wnd4_mat, wnd13_mat, dg_mat (fun _ => 13), mat_mat (D := C13) (C := C4) (E := dg fun _ => 4) (by unfold Mul4; decide +kernel), mat_mat (D := dg fun _ => 13) (E := dg fun _ => 1) (by unfold Mul4; decide +kernel)]
  exact mat_one h hl
def sw (k j : Nat) : Int := if (k + j) % 4 = 0 then 4 else 0
theorem s9 (a0 a1 a2 a3 : Int) : wnd p4 (wnd p4 [a0, a1, a2, a3]) = tab4 fun k => 4 * [a0, a3, a2, a1].getD k 0 % 17 := by
  rw [wnd4_mat, wnd4_mat, mat_mat (E := sw) (by unfold Mul4; decide +kernel)]
  exact tab4_eq (m17 l0) (m17 l3) (m17 l2) (m17 l1)
theorem s10 (a : List Int) : wnd p4 (wnd p4 (wnd p4 (wnd p4 a))) = tab4 fun k => 16 * a.getD k 0 % 17 := by
  rw [wnd4_mat, wnd4_mat, wnd4_mat, wnd4_mat, mat_mat (D := C4) (C := C4) (E := sw) (by unfold Mul4; decide +kernel), mat_mat (D := C4) (C := C4) (E := sw) (by unfold Mul4; decide +kernel), mat_mat (E := dg fun _ => 16) (by unfold Mul4; decide +kernel), dg_mat (fun _ => 16)]
theorem s11 (a0 a1 a2 a3 : Int) : wnd p4 [a3, a0, a1, a2] = tab4 fun k => (wnd p4 [a0, a1, a2, a3]).getD k 0 * 4 ^ k % 17 := by
  have e : (tab4 fun k => (wnd p4 [a0, a1, a2, a3]).getD k 0 * 4 ^ k % 17) = tab4 fun k => (4 : Int) ^ k * (wnd p4 [a0, a1, a2, a3]).getD k 0 % 17 := tab4_ext fun k _ => by rw [Int.mul_comm]
  rw [e, dg_mat (fun k => 4 ^ k), wnd4_mat, wnd4_mat, mat_mat (D := dg fun k => 4 ^ k) (E := fun k j => C4 k ((j + 1) % 4)) (by unfold Mul4; decide +kernel)]
  exact tab4_ext fun k _ => congrArg (· % 17) (by
    show C4 k 0 * a3 + C4 k 1 * a0 + C4 k 2 * a1 + C4 k 3 * a2 = C4 k 1 * a0 + C4 k 2 * a1 + C4 k 3 * a2 + C4 k 0 * a3
    generalize C4 k 0 * a3 = x0
    generalize C4 k 1 * a0 = x1
    generalize C4 k 2 * a1 = x2
    generalize C4 k 3 * a2 = x3
    omega)
theorem s13 (a b : List Int) : wnd p4 (tab4 fun k => (a.getD k 0 + b.getD k 0) % 17) = tab4 fun k => ((wnd p4 a).getD k 0 + (wnd p4 b).getD k 0) % 17 := by
  rw [wnd4_mat, wnd4_mat, wnd4_mat]
  refine tab4_ext fun k hk => ?_
  have e : ∀ c : List Int, (mat C4 c).getD k 0 = (C4 k 0 * c.getD 0 0 + C4 k 1 * c.getD 1 0 + C4 k 2 * c.getD 2 0 + C4 k 3 * c.getD 3 0) % 17 := fun c => tab4_get hk
  rw [e a, e b]
  obtain ⟨q0, r0⟩ := mod_ex (a.getD 0 0 + b.getD 0 0)
  obtain ⟨q1, r1⟩ := mod_ex (a.getD 1 0 + b.getD 1 0)
  obtain ⟨q2, r2⟩ := mod_ex (a.getD 2 0 + b.getD 2 0)
  obtain ⟨q3, r3⟩ := mod_ex (a.getD 3 0 + b.getD 3 0)
  show (C4 k 0 * ((a.getD 0 0 + b.getD 0 0) % 17) + C4 k 1 * ((a.getD 1 0 + b.getD 1 0) % 17) + C4 k 2 * ((a.getD 2 0 + b.getD 2 0) % 17) + C4 k 3 * ((a.getD 3 0 + b.getD 3 0) % 17)) % 17 = _
  rw [r0, r1, r2, r3, ← Int.add_emod]
  refine mod_of (k := -(C4 k 0 * q0 + C4 k 1 * q1 + C4 k 2 * q2 + C4 k 3 * q3)) ?_
  grind
theorem conv_go {d0 d1 d2 d3 x0 x1 x2 x3 y0 y1 y2 y3 : Int} : (d0 * (x0 * y0 % 17) + d1 * (x1 * y1 % 17) + d2 * (x2 * y2 % 17) + d3 * (x3 * y3 % 17)) % 17 = (d0 * y0 * x0 + d1 * y1 * x1 + d2 * y2 * x2 + d3 * y3 * x3) % 17 := by
  obtain ⟨q0, r0⟩ := mod_ex (x0 * y0)
  obtain ⟨q1, r1⟩ := mod_ex (x1 * y1)
  obtain ⟨q2, r2⟩ := mod_ex (x2 * y2)
  obtain ⟨q3, r3⟩ := mod_ex (x3 * y3)
  rw [r0, r1, r2, r3]
  exact mod_of (k := -(d0 * q0 + d1 * q1 + d2 * q2 + d3 * q3)) (by grind)
theorem conv_in {d0 d1 d2 d3 c0 c1 c2 c3 e : Int} {b : List Int} {t : Nat → Int} (h : ∀ l, l < 4 → (d0 * c0 * C4 0 l + d1 * c1 * C4 1 l + d2 * c2 * C4 2 l + d3 * c3 * C4 3 l - t l) % 17 = 0) (e1 : (t 0 * b.getD 0 0 + t 1 * b.getD 1 0 + t 2 * b.getD 2 0 + t 3 * b.getD 3 0) = e) :
    (d0 * (mat C4 b).getD 0 0 * c0 + d1 * (mat C4 b).getD 1 0 * c1 + d2 * (mat C4 b).getD 2 0 * c2 + d3 * (mat C4 b).getD 3 0 * c3 - e) % 17 = 0 := by
  have H := lin_lin (h 0 (by decide)) (h 1 (by decide)) (h 2 (by decide)) (h 3 (by decide)) (a0 := b.getD 0 0) (a1 := b.getD 1 0) (a2 := b.getD 2 0) (a3 := b.getD 3 0) (x0 := (mat C4 b).getD 0 0) (x1 := (mat C4 b).getD 1 0) (x2 := (mat C4 b).getD 2 0) (x3 := (mat C4 b).getD 3 0) rfl rfl rfl rfl
  rw [e1] at H
  have := Int.emod_emod_of_dvd
  have K := Int.emod_eq_emod_iff_emod_sub_eq_zero.mp H
  refine Eq.trans (congrArg (· % 17) ?_) K
  rw [Int.mul_right_comm d0, Int.mul_right_comm d1, Int.mul_right_comm d2, Int.mul_right_comm d3]
theorem conv (d : Nat → Int) (a b : List Int) (e : Nat → Int) (t : Nat → Nat → Int) (h : ∀ j, j < 4 → ∀ l, l < 4 → (d 0 * C4 0 j * C4 0 l + d 1 * C4 1 j * C4 1 l + d 2 * C4 2 j * C4 2 l + d 3 * C4 3 j * C4 3 l - t j l) % 17 = 0)
    (e1 : ∀ j, j < 4 → (t j 0 * b.getD 0 0 + t j 1 * b.getD 1 0 + t j 2 * b.getD 2 0 + t j 3 * b.getD 3 0) = e j) :
    (d 0 * ((mat C4 a).getD 0 0 * (mat C4 b).getD 0 0 % 17) + d 1 * ((mat C4 a).getD 1 0 * (mat C4 b).getD 1 0 % 17) + d 2 * ((mat C4 a).getD 2 0 * (mat C4 b).getD 2 0 % 17) + d 3 * ((mat C4 a).getD 3 0 * (mat C4 b).getD 3 0 % 17)) % 17
      = (e 0 * a.getD 0 0 + e 1 * a.getD 1 0 + e 2 * a.getD 2 0 + e 3 * a.getD 3 0) % 17 :=
  conv_go.trans (lin_lin (conv_in (h 0 (by decide)) (e1 0 (by decide))) (conv_in (h 1 (by decide)) (e1 1 (by decide))) (conv_in (h 2 (by decide)) (e1 2 (by decide))) (conv_in (h 3 (by decide)) (e1 3 (by decide))) rfl rfl rfl rfl)
def tk (k j l : Nat) : Int := if (k + 4 - j) % 4 = l then 1 else 0
theorem o0 {a0 a1 a2 a3 : Int} : 1 * a0 + 0 * a1 + 0 * a2 + 0 * a3 = a0 := l0.trans (Int.one_mul _)
theorem o1 {a0 a1 a2 a3 : Int} : 0 * a0 + 1 * a1 + 0 * a2 + 0 * a3 = a1 := l1.trans (Int.one_mul _)
theorem o2 {a0 a1 a2 a3 : Int} : 0 * a0 + 0 * a1 + 1 * a2 + 0 * a3 = a2 := l2.trans (Int.one_mul _)
theorem o3 {a0 a1 a2 a3 : Int} : 0 * a0 + 0 * a1 + 0 * a2 + 1 * a3 = a3 := l3.trans (Int.one_mul _)
theorem s5 (a b : List Int) : (tab4 fun k => 13 * (wnd p13 (tab4 fun k => (wnd p4 a).getD k 0 * (wnd p4 b).getD k 0 % 17)).getD k 0 % 17) = rnd a b := by
  rw [wnd4_mat, wnd4_mat, wnd13_mat, dg_mat (fun _ => 13), mat_mat (E := fun k j => 13 * C13 k j) (by unfold Mul4; decide +kernel)]
  refine tab4_ext fun k hk => ?_
  refine (conv (fun i => 13 * C13 k i) a b (fun j => b.getD (((k : Int) - (0 + (j : Int))) % 4).toNat 0) (tk k) ?_ ?_).trans (congrArg (· % 17) ?_)
  · revert k; decide +kernel
  · refine four_cases (P := fun k => ∀ j, j < 4 → (tk k j 0 * b.getD 0 0 + tk k j 1 * b.getD 1 0 + tk k j 2 * b.getD 2 0 + tk k j 3 * b.getD 3 0) = b.getD (((k : Int) - (0 + (j : Int))) % 4).toNat 0) ?_ ?_ ?_ ?_ k hk
    · exact four_cases (o0) (o3) (o2) (o1)
    · exact four_cases (o1) (o0) (o3) (o2)
    · exact four_cases (o2) (o1) (o0) (o3)
    · exact four_cases (o3) (o2) (o1) (o0)
  · simp only [tab4, List.sum_cons, List.sum_nil]
    grind
theorem s6 (a b : List Int) : rnd a b = rnd b a := by
  have q : ∀ {x0 x1 x2 x3 y0 y1 y2 y3 : Int}, x0 * y0 + (x1 * y1 + (x2 * y2 + (x3 * y3 + 0))) = y0 * x0 + (y3 * x3 + (y2 * x2 + (y1 * x1 + 0))) := by
    intros
    grind
  have r : ∀ {x0 x1 x2 x3 y0 y1 y2 y3 : Int}, x0 * y0 + (x1 * y1 + (x2 * y2 + (x3 * y3 + 0))) = y1 * x1 + (y0 * x0 + (y3 * x3 + (y2 * x2 + 0))) := by
    intros
    grind
  have t : ∀ {x0 x1 x2 x3 y0 y1 y2 y3 : Int}, x0 * y0 + (x1 * y1 + (x2 * y2 + (x3 * y3 + 0))) = y2 * x2 + (y1 * x1 + (y0 * x0 + (y3 * x3 + 0))) := by
    intros
    grind
  have u : ∀ {x0 x1 x2 x3 y0 y1 y2 y3 : Int}, x0 * y0 + (x1 * y1 + (x2 * y2 + (x3 * y3 + 0))) = y3 * x3 + (y2 * x2 + (y1 * x1 + (y0 * x0 + 0))) := by
    intros
    grind
  exact tab4_eq (m17 q) (m17 r) (m17 t) (m17 u)
theorem s4l (a0 a1 a2 a3 : Int) : wnd p4 [a0, a1, a2, a3] = [(a0 + a1 + a2 + a3) % 17, (a0 + 4 * a1 + 16 * a2 + 13 * a3) % 17, (a0 + 16 * a1 + a2 + 16 * a3) % 17, (a0 + 13 * a1 + 16 * a2 + 4 * a3) % 17] := by
  have e : wnd p4 [a0, a1, a2, a3] = [(a0 + 1 * a1 + 1 * a2 + 1 * a3) % 17, (a0 + 4 * a1 + 16 * a2 + 13 * a3) % 17, (a0 + 16 * a1 + 1 * a2 + 16 * a3) % 17, (a0 + 13 * a1 + 16 * a2 + 4 * a3) % 17] := rfl
  rw [e, Int.one_mul, Int.one_mul, Int.one_mul]
theorem s4 (a0 a1 a2 a3 : Int) : (wnd p4 [a0, a1, a2, a3]).getD 0 0 = [a0, a1, a2, a3].sum % 17 := by
  rw [s4l]
  show (a0 + a1 + a2 + a3) % 17 = (a0 + (a1 + (a2 + (a3 + 0)))) % 17
  rw [Int.add_zero, Int.add_assoc, Int.add_assoc]
theorem ne_int_no {prog : PySem.Program} {w : PySem.World} {A : PySem.Around} {E : PySem.Value → PySem.Shared → Prop} {s : PySem.Shared} {a b : Int} {t u : PySem.Tok} {Q : PySem.Value → PySem.Shared → Prop} (e : a = b) (h : Q (.bool false) s) : PySem.wpAny (PySem.model prog w) A (PySem.compareOp .NotEq (.int a t) (.int b u)) Q E s := by
  subst e
  refine PyProof.Rows.ne_int ?_
  rw [bne_self_eq_false]
  exact h
end Mine

open Mine
local macro_rules | `(tactic| k_room) => `(tactic| ((try simp only [depth_mark, depth_under_make, depth_under_kw, depth_in1, depth_deeper]); (try dsimp only [ktrTop]); first | exact room_is (by with_reducible assumption) (by decide) | exact room_is1 (by with_reducible assumption) (by decide) | exact room_is (j := 0) (by with_reducible assumption) (by decide) | omega))
local macro_rules | `(tactic| ktr_units) => `(tactic| ((try simp only [units_in1, units_deeper, Around.mark_units]); (try dsimp only [ktrTop]); first | exact room_is (by with_reducible assumption) (by decide) | exact room_is1 (by with_reducible assumption) (by decide) | omega))
local macro_rules | `(tactic| kn_code) => `(tactic| first | exact codeHd_of_K (c := 41) (P := 37) (by k_asm) (by kernel_rfl) | exact codeHd_of_K (c := 48) (P := 44) (by k_asm) (by kernel_rfl))
local macro_rules | `(tactic| lcg_off) => `(tactic| ((try simp only [LCg.Off3, and_true]); first | assumption | exact True.intro))

namespace Mine

set_option maxRecDepth 100000 in
theorem rest0 {w : World} {t : Tok} {p : Program} {loose : List Str} {mean : ExcName → Option Value} {mg mb : Str → Option Value}
    {dp un : Nat} {cn : Str} {cs : Scope} {a : Addr} {ccd : Value} {cl : List (Str × Addr)} {outer : List Env} {A₀ : Around} {base h₀ : Heap} {L : Addr} {m : Str → Option Value} {s : Shared} {Q E : Value → Shared → Prop}
    (B : Below A₀ base outer h₀) (F : Fr h₀ L s.heap m) (X : (hd.heap_39 w.params).In h₀) (N : News h₀ L s.heap [(44, tabObj #[]), (37, tabObj #[])]) (C1 : CodeHd h₀ 41 37) (C2 : CodeHd h₀ 48 44) (T : Top p loose mean mg mb h₀) (hk : cs.kind = .function)
    (hdp : dp + 20 < recursionLimit) (hun : un + 8 * 20 < cLine)
    (hret : ∀ (k : Int) (c1 c2 : Addr) (o1 o2 : Obj) (vs1 vs2 : Array Value) (t1 t2 u : Tok) (h' : Heap) (tk' : Nat), k = 4 → o1.data = .fields vs1 → vs1[1]? = some (.str (Str.ofString "_int2digits.<locals>.inner") t1) → o2.data = .fields vs2 → vs2[1]? = some (.str (Str.ofString "_digits2int.<locals>.inner") t2) →
      (∀ b o, s.heap.get? b = some o → b ≠ 44 → b ≠ 37 → h'.get? b = some o) → LE.le (α := Nat) s.heap.objs.size c1 → LE.le (α := Nat) s.heap.objs.size c2 → Fr h₀ L h' m → News h₀ L h' (tabs c1 c2 o1 o2) → Q (.int k u) { s with heap := h', toks := tk' }) :
    wpAny (model PySem.Challenge.rw_hm0003_01.row.prog w) (ktrTop dp un (some []) cn cs L a ccd cl outer) (call (.ref 70) [.int 4 t]) Q E s := by
  revert X; k_fill; intro X
  obtain ⟨nb, hnb, hnb1, hD⟩ := bits_1 (n := 4) (by decide) (by decide)
  repeat' (first
    | (k_unfold; (try dsimp only))
    | (with_reducible refine hZ3 _ _ ?_; clear hZ3; (try clear Qz); (try dsimp only)) | (with_reducible refine hZ1 _ ?_; clear hZ1 hZ2; (try clear Qz Ez); (try dsimp only)) | (with_reducible refine hZ2 _ _ ?_; clear hZ1 hZ2; (try clear Qz Ez); (try dsimp only))
    | ((with_reducible show wpAny _ _ (eval _ _) _ _ _); first
          | ((with_reducible show wpAny _ _ (eval (Expr.Name _ _) _) _ _ _); (k_here; (fail_if_success (with_reducible show wpAny _ _ (eval (Expr.Name _ _) (compEnvC _ _ _ _)) _ _ _)); k_dflt (first | (refine' nameX_L ?zzF ?zzhv ?_ ?zzhk ?zzhx ?zzhd; (case zzhx => exact rfl); (case zzhk => exact rfl); (case zzhd => decide); (case zzF => k_asm); (case zzhv => exact rfl); k_whole) | (refine' nameX_K ?zzF ?zzX ?zzT ?zze ?_ ?zzhk ?zzhx ?zzhd; (case zzhx => exact rfl); (case zzhk => exact rfl); (case zzhd => decide); (case zzF => k_asm); (case zzX => with_reducible assumption); (case zzT => exact topRead_of (by with_reducible assumption)); (case zze => k_is); k_whole) | (refine' nameX_B ?zzF ?zzX ?zzT ?zze ?zzv ?zzzn ?_ ?zzhk ?zzhx ?zzhd; (case zzhx => exact rfl); (case zzhk => exact rfl); (case zzhd => decide); (case zzF => k_asm); (case zzX => with_reducible assumption); (case zzT => exact topRead_of (by with_reducible assumption)); (case zze => k_is); (case zzv => boot_fast); (case zzzn => decide); k_whole) | (refine' nameX_F ?zzN ?zzc ?zzm ?zzd ?_ ?zzhk ?zzhx ?zzhb ?zzhn; (case zzhx => exact rfl); (case zzhk => exact rfl); (case zzhb => decide); (case zzhn => decide); (case zzN => k_asm); (case zzc => rfl); (case zzm => k_mem); (case zzd => k_asm); k_whole) | (refine' nameX_C ?zzN ?zzc ?zzm ?zzd ?_ ?zzhk ?zzhx ?zzhb; (case zzhx => exact rfl); (case zzhk => exact rfl); (case zzhb => decide); (case zzN => k_asm); (case zzc => rfl); (case zzm => k_mem); (case zzd => k_asm); k_whole)))))
    | ((with_reducible show wpAny _ _ (call _ _ _) _ _ _); first
          | ((with_reducible show wpAny _ _ (call (Value.builtin "list.append") _ _) _ _ _); k_here; k_dflt (refine' append_K ?zzk1 ?zzk2 ?zzk3 ?_ ?zzz; (case zzk1 => k_asm); (case zzk2 => k_asm); (case zzk3 => k_upd); (case zzz => first | (rw [PySem.sizeLine_eq]; exact Nat.le_of_ble_eq_true rfl) | (rw [PySem.sizeLine_eq]; (try simp only [List.size_toArray]); omega)); k_whole); intro h' F' N'; (try k_sweep))
          | ((with_reducible show wpAny _ _ (call (Value.ref _) _ _) _ _ _); (refine wpAny_call ?_; (first | (refine' enter_all ?zzzzk1 ?zzzzk2 ?zzzzk3 ?zzzzk4 ?zzzzk5 ?zzzzkA ?zzzzkF ?zzzzkK ?zzzzk6 ?zzzzk7 ?zzzzk8 ?zzzzk9 ?zzzzkB ?_ ?zzzzc2 ?zzzzc3 ?zzzzc4 ?zzzzc5; (case zzzzkA => exact rfl); (case zzzzkF => exact rfl); (case zzzzkK => first | exact rfl | assumption); (case zzzzk1 => k_asm); (case zzzzk2 => k_asm); (case zzzzk3 => k_asm); (case zzzzk4 => k_asm); (case zzzzk5 => k_asm); (case zzzzk6 => k_is); (case zzzzk7 => k_is); (case zzzzk8 => k_room); (case zzzzk9 => exact BindsTo.of_eq rfl); (case zzzzc5 => decide); (case zzzzkB => exact locs rfl); (case zzzzc2 => exact rfl); (case zzzzc3 => exact rfl); (case zzzzc4 => exact rfl); k_whole; intro g' L' h' hext hLs hLL FG' F' N' B' X' T' l1; (try dsimp only [tabs, List.nil_append, List.cons_append] at N' l1); (try dsimp only); (try k_lt l1); (have hLN : LT.lt (α := Nat) _ _ := hLL); (try k_fold)) | (refine' enter_allC ?zzzzk1 ?zzzzk2 ?zzzzk3 ?zzzzk4 ?zzzzk5 ?zzzzkA ?zzzzkF ?zzzzkK ?zzzzk6 ?zzzzk7 ?zzzzk8 ?zzzzk9 ?zzzzkB ?zzzzkD ?_ ?zzzzc2 ?zzzzc3 ?zzzzc4; (case zzzzkA => exact rfl); (case zzzzkF => exact rfl); (case zzzzkK => first | exact rfl | assumption); (case zzzzk1 => k_asm); (case zzzzk2 => k_asm); (case zzzzk3 => k_asm); (case zzzzk4 => k_asm); (case zzzzk5 => k_asm); (case zzzzk6 => k_is); (case zzzzk7 => k_is); (case zzzzk8 => k_room); (case zzzzk9 => exact BindsTo.of_eq rfl); (case zzzzkB => exact rfl); (case zzzzkD => decide +kernel); (case zzzzc2 => exact rfl); (case zzzzc3 => exact rfl); (case zzzzc4 => exact rfl); k_whole; intro g' L' h' tk' cells' hext hLs hLL FG' F' N' Y' B' X' T' l1; (try dsimp only [tabs, List.nil_append, List.cons_append] at N' l1); (try k_lt l1); (have hLN : LT.lt (α := Nat) _ _ := hLL); k_cells Y'; (try simp only [List.cons_append, List.nil_append] at N'); (try dsimp only); (try k_fold)))))
          | ((with_reducible show wpAny _ _ (call (Value.builtin _) _ _) _ _ _); (k_here; (with_reducible show wpAny _ _ (call (Value.builtin _) [Value.int _ _, Value.int _ _]) _ _ _); (refine divmod_is (by k_asm) (by k_asm) (PyProof.noPylong_small (by omega)) (by decide) ?_); intro D' qd' rd' td1 td2 h' tk' ed' rd0 rd1 F' N' l1 l2; (try k_lt l1); (try k_lt2 l2)))
          | ((with_reducible show wpAny _ _ (call (Value.builtin _) _ _) _ _ _); first | (with_reducible refine bits17_is ?_) | (with_reducible refine bits_is (by with_reducible assumption) ?_) | (with_reducible refine bits_le (by omega) (by omega) ?_; intro nb' hnb')))
    | ((with_reducible show wpAny _ _ (binaryOp _ _ _) _ _ _); first
          | ((with_reducible show wpAny _ _ (binaryOp Operator.Mult _ _) _ _ _); (k_here; (with_reducible show wpAny _ _ (binaryOp Operator.Mult (Value.ref _) (Value.int _ _)) _ _ _); k_dflt (refine' KMa.mul ?zzF ?zzN ?zzl ?zzlo ?zzhi ?zzz ?zze ?_; (case zzF => k_asm); (case zzN => k_asm); (case zzl => is_list); (case zzlo => omega); (case zzhi => omega); (case zzz => (simp only [List.length_cons, List.length_nil]; decide)); (case zze => (simp only [Int.reduceToNat, Int.reduceAdd, Int.reduceMul, List.replicate_succ, List.replicate_zero, List.flatten_cons, List.flatten_nil, List.cons_append, List.nil_append, List.append_nil]; exact rfl)); k_whole); intro D' h' F' N' l1; (try k_lt l1); (try k_sweep)))
          | ((with_reducible show wpAny _ _ (binaryOp Operator.LShift _ _) _ _ _); (with_reducible refine lshift5_is (by omega) (by omega) ?_))
          | ((with_reducible show wpAny _ _ (binaryOp Operator.FloorDiv _ _) _ _ _); (with_reducible refine fdiv_is (PyProof.noPylong_small (by omega)) (by decide) (by with_reducible assumption) ?_)))
    | ((with_reducible show wpAny _ _ (execs _ _) _ _ _); first
          | ((fail_if_success (with_reducible show wpAny _ _ (execs (Stmt.For _ _ _ _ _ :: _) _) _ _ _)); (try k_gentoks); with_reducible refine execs_cut ?_; intro Qz Ez hZ1 hZ2))
    | ((with_reducible show wpAny _ _ _ _ _ _); (fail_if_success (with_reducible show wpAny _ _ (eval _ _) _ _ _)); (fail_if_success (with_reducible show wpAny _ _ (execs _ _) _ _ _)); first
          | ((with_reducible show wpAny _ _ (setItem (Value.ref _) (Value.int _ _) _) _ _ _); (k_here; (with_reducible show wpAny _ _ (setItem (Value.ref _) (Value.int _ _) _) _ _ _); k_dflt (refine' set_is ?zzk1 ?zzk2 ?zzk3 ?zzk4 ?zzk5 ?zzk6 ?zzk7 ?_; (case zzk1 => k_asm); (case zzk2 => k_asm); (case zzk3 => k_upd); (case zzk4 => omega); (case zzk5 => (simp only [List.length_cons, List.length_nil]; omega)); (case zzk6 => (simp only [Int.reduceToNat, Int.reduceAdd, List.set_cons_zero, List.set_cons_succ]; exact rfl)); (case zzk7 => omega); k_whole); intro h' F' N'; (try k_sweep)))
          | ((with_reducible show wpAny _ _ (callWith _ (Value.ref _) _ _ _) _ _ _); (k_here; k_dflt (refine' callWith_K ?zzk1 ?zzk2 ?_; (case zzk1 => with_reducible assumption); (case zzk2 => k_is); k_whole)))
          | ((with_reducible show wpAny _ _ (truthy (Value.int _ _)) _ _ _); (with_reducible refine truthy_pos (by omega) ?_))
          | ((with_reducible show wpAny _ _ (storeName _ _ _) _ _ _); (k_here; k_dflt (refine' storeX_L ?zzF ?zzN ?_ ?zzhk ?zzhx; (case zzhx => exact rfl); (case zzhk => exact rfl); (case zzF => k_asm); (case zzN => k_asm); k_whole; intro h' F' N'; (try k_sweep))))
          | ((with_reducible show wpAny _ _ (newList _) _ _ _); (k_here; k_dflt (refine' newList_is ?zzF ?zzN ?_ ?zzz; (case zzF => k_asm); (case zzN => k_asm); (case zzz => exact Nat.le_of_ble_eq_true rfl)); intro D' h' F' N' l1 l2; (try k_lt l1); (try k_lt2 l2); (try k_sweep)))
          | ((with_reducible show wpAny _ _ (newTuple _) _ _ _); (k_here; k_dflt (refine' newTuple_is ?zzF ?zzN ?_ ?zzz; (case zzF => k_asm); (case zzN => k_asm); (case zzz => exact Nat.le_of_ble_eq_true rfl)); intro D' h' F' N' l1 l2; (try k_lt l1); (try k_lt2 l2); (try k_sweep))))
    | walk1
    | (dsimp only; walk1))
  refine' hret _ ?c1 ?c2 ?o1 ?o2 ?vs1 ?vs2 ?t1 ?t2 _ _ _ ?e4 ?d1 ?d2 ?d3 ?d4 ?ext ?l1 ?l2 ?F ?N
  case N =>
    refine' tabs_of ?m1 ?m2 ?m3 ?m4 ?N
    case N => assumption
    case m1 => k_mem
    case m2 => k_mem
    case m3 => k_mem
    case m4 => k_mem
  case F => assumption
  case e4 => omega
  case d1 => assumption
  case d2 => assumption
  case d3 => assumption
  case d4 => assumption
  case ext => exact ext0 (by assumption) (by assumption) rfl
  case l1 => omega
  case l2 => omega
theorem rest0_use {w : World} {t : Tok} {p : Program} {loose : List Str} {mean : ExcName → Option Value} {mg mb : Str → Option Value}
    {dp un : Nat} {cn : Str} {cs : Scope} {a : Addr} {ccd : Value} {cl : List (Str × Addr)} {outer : List Env} {A₀ : Around} {base h₀ : Heap} {L : Addr} {m : Str → Option Value} {s : Shared} {Q E : Value → Shared → Prop} {news : List (Addr × Obj)} (k : Nat)
    (B : Below A₀ base outer h₀) (F : Fr h₀ L s.heap m) (X : (hd.heap_39 w.params).In h₀) (N : News h₀ L s.heap news) (hd : news.drop k = [(44, tabObj #[]), (37, tabObj #[])]) (hne : (news.take k).all (fun q => q.1 != 44 && q.1 != 37) = true ∨ (∀ q ∈ news.take k, q.1 ≠ 44 ∧ q.1 ≠ 37)) (C1 : CodeHd h₀ 41 37) (C2 : CodeHd h₀ 48 44) (T : Top p loose mean mg mb h₀) (hk : cs.kind = .function)
    (hdp : dp + 20 < recursionLimit) (hun : un + 8 * 20 < cLine)
    (hret : ∀ (c1 c2 : Addr) (o1 o2 : Obj) (vs1 vs2 : Array Value) (t1 t2 u : Tok) (h' : Heap) (tk' : Nat), o1.data = .fields vs1 → vs1[1]? = some (.str (Str.ofString "_int2digits.<locals>.inner") t1) → o2.data = .fields vs2 → vs2[1]? = some (.str (Str.ofString "_digits2int.<locals>.inner") t2) →
      (∀ q ∈ news, q.1 < c1) → (∀ q ∈ news, q.1 < c2) → Fr h₀ L h' m → News h₀ L h' (news.take k ++ tabs c1 c2 o1 o2) → Q (.int 4 u) { s with heap := h', toks := tk' }) :
    wpAny (model PySem.Challenge.rw_hm0003_01.row.prog w) (ktrTop dp un (some []) cn cs L a ccd cl outer) (call (.ref 70) [.int 4 t]) Q E s := by
  have N2 : News h₀ L s.heap [(44, tabObj #[]), (37, tabObj #[])] := fun q hq => N q (List.mem_of_mem_drop (hd ▸ hq))
  refine rest0 B F X N2 C1 C2 T hk hdp hun fun k' c1 c2 o1 o2 vs1 vs2 t1 t2 u h' tk' e4 d1 d2 d3 d4 ext l1 l2 F' N' => ?_
  subst e4
  refine hret c1 c2 o1 o2 vs1 vs2 t1 t2 u h' tk' d1 d2 d3 d4 (fun q hq => Nat.lt_of_lt_of_le (Heap.lt_size (N q hq).1) l1) (fun q hq => Nat.lt_of_lt_of_le (Heap.lt_size (N q hq).1) l2) F' fun q hq => ?_
  rcases List.mem_append.mp hq with hq | hq
  · have z := N q (List.mem_of_mem_take hq)
    have ne : q.1 ≠ 44 ∧ q.1 ≠ 37 := by
      rcases hne with h | h
      · have := List.all_eq_true.mp h q hq
        simpa using this
      · exact h q hq
    exact ⟨ext _ _ z.1 ne.1 ne.2, z.2⟩
  · exact N' q hq
end Mine

namespace Mine

set_option maxRecDepth 100000 in
theorem bswap {w : World} {b : Array UInt8} {t t' : Tok} {a0 a1 a2 : Int} (hb : KBw.bInts b = [a0, a1, a2]) (h0 : 0 ≤ a0 ∧ a0 < 256) (h1 : 0 ≤ a1 ∧ a1 < 256) (h2 : 0 ≤ a2 ∧ a2 < 256) :
    TellC w 4 21 [.bytes b t, .int 3 t'] (fun _ _ v => ∃ (b' : Array UInt8) (t : Tok), v = .bytes b' t ∧ KBw.bInts b' = [a2, a1, a0]) := by
  intro p loose mean mg mb dp un cn cs a ccd cl outer A₀ base h₀ L m s Q E B F X T hk hdp hun hret
  revert X; k_fill; intro X
  have N : News h₀ L s.heap [] := fun q hq => by cases hq
  refine wpC_call ?_
  (refine' enter_clean ?zzk1 ?zzk2 ?zzk3 ?zzk4 ?zzk5 ?zzkA ?zzkF ?zzkK ?zzk6 ?zzk7 ?zzk8 ?zzk9 ?zzkB ?_ ?zzc2 ?zzc3 ?zzc4 ?zzc5; (case zzkA => exact rfl); (case zzkF => exact rfl); (case zzkK => first | exact rfl | assumption); (case zzk1 => k_asm); (case zzk2 => k_asm); (case zzk3 => k_asm); (case zzk4 => k_asm); (case zzk5 => k_asm); (case zzk6 => k_is); (case zzk7 => k_is); (case zzk8 => k_room); (case zzk9 => exact BindsTo.of_eq rfl); (case zzc5 => decide); (case zzkB => exact locs rfl); (case zzc2 => exact rfl); (case zzc3 => exact rfl); (case zzc4 => exact rfl); k_whole; intro g' L' h' hext hLs hLL FG' F' N' B' X' T' l1; (try dsimp only [tabs, List.nil_append, List.cons_append] at N' l1); (try dsimp only); (try k_lt l1); (try k_lt2 hLL); (try k_fold))
  refine wpC_execs_cons (wpC_assign (wpC_callName ?hs ?_) ?hs2)
  case hs => rfl
  case hs2 => rfl
  iterate 30 (try (first
    | (k_unfold; (try dsimp only))
    | (with_reducible refine hZ3 _ _ ?_; clear hZ3; (try clear Qz); (try dsimp only)) | (with_reducible refine hZ1 _ ?_; clear hZ1 hZ2; (try clear Qz Ez); (try dsimp only)) | (with_reducible refine hZ2 _ _ ?_; clear hZ1 hZ2; (try clear Qz Ez); (try dsimp only))
    | ((with_reducible show wpAny _ _ (eval _ _) _ _ _); first
          | (((first | (with_reducible show wpAny _ _ (eval (Expr.Call _ _ _ _) _) _ _ _) | (with_reducible show wpAny _ _ (eval (Expr.BinOp _ _ _ _) _) _ _ _) | (with_reducible show wpAny _ _ (eval (Expr.Tuple _ _ _) _) _ _ _) | (with_reducible show wpAny _ _ (eval (Expr.List _ _ _) _) _ _ _) | (with_reducible show wpAny _ _ (eval (Expr.Subscript _ _ _) _) _ _ _) | (with_reducible show wpAny _ _ (eval (Expr.Compare _ _ _ _) _) _ _ _)); with_reducible refine cutQ ?_; intro Qz hZ3))
          | ((with_reducible show wpAny _ _ (eval (Expr.Name _ _) _) _ _ _); (k_here; (with_reducible show wpAny _ _ (eval (Expr.Name _ _) (compEnvC _ _ _ _)) _ _ _); k_dflt (first | refine LCgL.ld_own (by k_asm) (by k_mem) (by assumption) (by assumption) ?_ | (refine' lcf_cell ?zzN ?zzc ?zzm ?zzd ?_ ?zza ?zzb; (case zza => rfl); (case zzb => rfl); (case zzN => k_asm); (case zzc => rfl); (case zzm => k_mem); (case zzd => k_asm); k_whole) | (refine' lcf_free ?zzN ?zzc ?zzm ?zzd ?_ ?zza ?zzb; (case zza => rfl); (case zzb => rfl); (case zzN => k_asm); (case zzc => rfl); (case zzm => k_mem); (case zzd => k_asm); k_whole) | refine LCgL.ld_global (by k_asm) (by k_asm) (by k_asm) (by k_is) ?_ | refine LCgL.ld_built (by k_asm) (by k_asm) (by k_asm) (by k_is) (by boot_by_name) (by decide) ?_)))
          | ((with_reducible show wpAny _ _ (eval (Expr.ListComp _ _ _ _) _) _ _ _); (k_here; k_dflt (refine LCg.ListComp_U (F₀ := by k_asm) (by with_unfolding_all rfl) (by decide) (by rfl) (by decide) (by rfl) ?_)))
          | ((with_reducible show wpAny _ _ (eval (Expr.Name _ _) _) _ _ _); (k_here; (fail_if_success (with_reducible show wpAny _ _ (eval (Expr.Name _ _) (compEnvC _ _ _ _)) _ _ _)); k_dflt (first | (refine' nameX_L ?zzF ?zzhv ?_ ?zzhk ?zzhx ?zzhd; (case zzhx => exact rfl); (case zzhk => exact rfl); (case zzhd => decide); (case zzF => k_asm); (case zzhv => exact rfl); k_whole) | (refine' nameX_K ?zzF ?zzX ?zzT ?zze ?_ ?zzhk ?zzhx ?zzhd; (case zzhx => exact rfl); (case zzhk => exact rfl); (case zzhd => decide); (case zzF => k_asm); (case zzX => with_reducible assumption); (case zzT => exact topRead_of (by with_reducible assumption)); (case zze => k_is); k_whole) | (refine' nameX_B ?zzF ?zzX ?zzT ?zze ?zzv ?zzzn ?_ ?zzhk ?zzhx ?zzhd; (case zzhx => exact rfl); (case zzhk => exact rfl); (case zzhd => decide); (case zzF => k_asm); (case zzX => with_reducible assumption); (case zzT => exact topRead_of (by with_reducible assumption)); (case zze => k_is); (case zzv => boot_fast); (case zzzn => decide); k_whole) | (refine' nameX_F ?zzN ?zzc ?zzm ?zzd ?_ ?zzhk ?zzhx ?zzhb ?zzhn; (case zzhx => exact rfl); (case zzhk => exact rfl); (case zzhb => decide); (case zzhn => decide); (case zzN => k_asm); (case zzc => rfl); (case zzm => k_mem); (case zzd => k_asm); k_whole) | (refine' nameX_C ?zzN ?zzc ?zzm ?zzd ?_ ?zzhk ?zzhx ?zzhb; (case zzhx => exact rfl); (case zzhk => exact rfl); (case zzhb => decide); (case zzN => k_asm); (case zzc => rfl); (case zzm => k_mem); (case zzd => k_asm); k_whole)))))
    | ((with_reducible show wpAny _ _ (call _ _ _) _ _ _); first
          | ((with_reducible show wpAny _ _ (call (Value.type _) _ _) _ _ _); ((with_reducible show wpAny _ _ (call (Value.type "bytes") [Value.ref _]) _ _ _); (refine' ba_bytes_is ?zzhN ?zzhm ?zzhb ?_; (case zzhN => k_asm); (case zzhm => k_mem); (case zzhb => (simp only [Array.size_setIfInBounds, Array.size_replicate]; decide))); intro zt zk; (try dsimp only)))
          | ((with_reducible show wpAny _ _ (call (Value.builtin _) _ _) _ _ _); ((refine' len3 ?zzhb ?_; (case zzhb => assumption)); intro t' k'; (try dsimp only)))
          | ((with_reducible show wpAny _ _ (call (Value.type _) _ _) _ _ _); (k_here; (with_reducible show wpAny _ _ (call (Value.type "bytes") [Value.ref _]) _ _ _); k_dflt (refine' bytes_is ?zzF ?zzN ?zzh ?zzm ?zzi ?zzr ?zzz ?_; (case zzF => k_asm); (case zzN => k_asm); (case zzh => exact rfl); (case zzm => k_mem); (case zzi => first | assumption | (repeat constructor)); (case zzr => repeat' (first | exact in_nil | refine in_cons (by omega) (by omega) ?_)); (case zzz => exact Nat.le_of_ble_eq_true rfl)); intro b' t' h' k' hb' F' N'; (try k_sweep)))
          | ((with_reducible show wpAny _ _ (call (Value.ref _) _ _) _ _ _); (k_here; (refine wpAny_call ?_; (refine' enter_all ?zzk1 ?zzk2 ?zzk3 ?zzk4 ?zzk5 ?zzkA ?zzkF ?zzkK ?zzk6 ?zzk7 ?zzk8 ?zzk9 ?zzkB ?_ ?zzc2 ?zzc3 ?zzc4 ?zzc5; (case zzkA => exact rfl); (case zzkF => exact rfl); (case zzkK => first | exact rfl | assumption); (case zzk1 => k_asm); (case zzk2 => k_asm); (case zzk3 => k_asm); (case zzk4 => k_asm); (case zzk5 => k_asm); (case zzk6 => k_is); (case zzk7 => k_is); (case zzk8 => k_room); (case zzk9 => exact BindsTo.of_eq rfl); (case zzc5 => decide); (case zzkB => exact locs rfl); (case zzc2 => exact rfl); (case zzc3 => exact rfl); (case zzc4 => exact rfl); k_whole; intro g' L' h' hext hLs hLL FG' F' N' B' X' T' l1; (try dsimp only [tabs, List.nil_append, List.cons_append] at N' l1); (try dsimp only); (try k_lt l1); (try k_lt2 hLL); (try k_fold)))))
          | ((with_reducible show wpAny _ _ (call (Value.builtin _) _ _) _ _ _); (k_here; (with_reducible show wpAny _ _ (call (Value.builtin _) [Value.int _ _, Value.int _ _]) _ _ _); (refine divmod_is (by k_asm) (by k_asm) (PyProof.noPylong_small (by omega)) (by decide) ?_); intro D' qd' rd' td1 td2 h' tk' ed' rd0 rd1 F' N' l1 l2; (try k_lt l1); (try k_lt2 l2)))
          | ((with_reducible show wpAny _ _ (call (Value.builtin _) _ _) _ _ _); first | (with_reducible refine bits17_is ?_) | (with_reducible refine bits_is (by with_reducible assumption) ?_) | (with_reducible refine bits_le (by omega) (by omega) ?_; intro nb' hnb')))
    | ((with_reducible show wpAny _ _ (binaryOp _ _ _) _ _ _); first
          | ((with_reducible show wpAny _ _ (binaryOp Operator.Mod _ _) _ _ _); k_dflt (first | (refine mod_closed (by decide) (by decide) ?_) | (refine mod_small (by omega) (by omega) ?_) | (refine mod_is (by decide) ?_)))
          | ((with_reducible show wpAny _ _ (binaryOp Operator.Mult _ _) _ _ _); (k_here; (with_reducible show wpAny _ _ (binaryOp Operator.Mult (Value.ref _) (Value.int _ _)) _ _ _); k_dflt (refine' KMa.mul ?zzF ?zzN ?zzl ?zzlo ?zzhi ?zzz ?zze ?_; (case zzF => k_asm); (case zzN => k_asm); (case zzl => is_list); (case zzlo => omega); (case zzhi => omega); (case zzz => (simp only [List.length_cons, List.length_nil]; decide)); (case zze => (simp only [Int.reduceToNat, Int.reduceAdd, Int.reduceMul, List.replicate_succ, List.replicate_zero, List.flatten_cons, List.flatten_nil, List.cons_append, List.nil_append, List.append_nil]; exact rfl)); k_whole); intro D' h' F' N' l1; (try k_lt l1); (try k_sweep)))
          | ((with_reducible show wpAny _ _ (binaryOp Operator.BitXor _ _) _ _ _); (with_reducible refine xor5_is (by omega) (by with_reducible assumption) (by with_reducible assumption) (by with_reducible assumption) ?_))
          | ((with_reducible show wpAny _ _ (binaryOp Operator.LShift _ _) _ _ _); (with_reducible refine lshift5_is (by omega) (by omega) ?_))
          | ((with_reducible show wpAny _ _ (binaryOp Operator.RShift _ _) _ _ _); first | (with_reducible refine rshift1_is (k := 1) (by omega) (by omega) (by omega) ?_) | (with_reducible refine rshift1_is (k := 2) (by omega) (by omega) (by omega) ?_) | (with_reducible refine rshift5_is (by omega) ?_; intro q5 r5 e5 r50 r51))
          | ((with_reducible show wpAny _ _ (binaryOp Operator.FloorDiv _ _) _ _ _); (with_reducible refine fdiv_is (PyProof.noPylong_small (by omega)) (by decide) (by with_reducible assumption) ?_)))
    | ((with_reducible show wpAny _ _ (execs _ _) _ _ _); first
          | (((with_reducible rename Fr _ _ _ (fun y => List.lookup y _) => Fz); refine' canon0 Fz ?zze ?_; (case zze => first | exact @rfl _ [(_, _)] | exact @rfl _ [(_, _), (_, _)] | exact @rfl _ [(_, _), (_, _), (_, _)] | exact @rfl _ [(_, _), (_, _), (_, _), (_, _)]); clear Fz; intro F'))
          | (((with_reducible rename Fr _ _ _ (fun y => if y = _ then some _ else look _ y) => Fz); refine' canon Fz ?zze ?_; (case zze => first | exact @rfl _ [(_, _)] | exact @rfl _ [(_, _), (_, _)] | exact @rfl _ [(_, _), (_, _), (_, _)] | exact @rfl _ [(_, _), (_, _), (_, _), (_, _)] | exact @rfl _ [(_, _), (_, _), (_, _), (_, _), (_, _)] | exact @rfl _ [(_, _), (_, _), (_, _), (_, _), (_, _), (_, _)] | exact @rfl _ [(_, _), (_, _), (_, _), (_, _), (_, _), (_, _), (_, _)] | exact @rfl _ [(_, _), (_, _), (_, _), (_, _), (_, _), (_, _), (_, _), (_, _)] | exact @rfl _ [(_, _), (_, _), (_, _), (_, _), (_, _), (_, _), (_, _), (_, _), (_, _)] | exact @rfl _ [(_, _), (_, _), (_, _), (_, _), (_, _), (_, _), (_, _), (_, _), (_, _), (_, _)] | exact @rfl _ [(_, _), (_, _), (_, _), (_, _), (_, _), (_, _), (_, _), (_, _), (_, _), (_, _), (_, _)] | exact @rfl _ [(_, _), (_, _), (_, _), (_, _), (_, _), (_, _), (_, _), (_, _), (_, _), (_, _), (_, _), (_, _)]); clear Fz; intro F'))
          | ((fail_if_success (with_reducible show wpAny _ _ (execs (Stmt.For _ _ _ _ _ :: _) _) _ _ _)); (try k_gentoks); with_reducible refine execs_cut ?_; intro Qz Ez hZ1 hZ2))
    | ((with_reducible show wpAny _ _ _ _ _ _); (fail_if_success (with_reducible show wpAny _ _ (eval _ _) _ _ _)); (fail_if_success (with_reducible show wpAny _ _ (execs _ _) _ _ _)); first
          | ((with_reducible show wpAny _ _ (subscriptTail _ _ _ _) _ _ _); (k_here; (with_reducible show wpAny _ _ (subscriptTail _ _ (Value.bytes _ _) (Value.int _ _)) _ _ _); k_dflt (first | ((refine' at_bytes 0 ?zzk0 ?zzkz ?zzk1 ?zzk2 ?zzk4 ?_ ?zzk6 ?zzk7); (case zzk0 => omega); (case zzkz => decide); (case zzk1 => assumption); (case zzk2 => exact Nat.le_of_ble_eq_true rfl); (case zzk4 => exact rfl); (case zzk6 => with_unfolding_all rfl); (case zzk7 => (intro _; with_unfolding_all rfl))) | ((refine' at_bytes 1 ?zzk0 ?zzkz ?zzk1 ?zzk2 ?zzk4 ?_ ?zzk6 ?zzk7); (case zzk0 => omega); (case zzkz => decide); (case zzk1 => assumption); (case zzk2 => exact Nat.le_of_ble_eq_true rfl); (case zzk4 => exact rfl); (case zzk6 => with_unfolding_all rfl); (case zzk7 => (intro _; with_unfolding_all rfl))) | ((refine' at_bytes 2 ?zzk0 ?zzkz ?zzk1 ?zzk2 ?zzk4 ?_ ?zzk6 ?zzk7); (case zzk0 => omega); (case zzkz => decide); (case zzk1 => assumption); (case zzk2 => exact Nat.le_of_ble_eq_true rfl); (case zzk4 => exact rfl); (case zzk6 => with_unfolding_all rfl); (case zzk7 => (intro _; with_unfolding_all rfl))) | ((refine' at_bytes 3 ?zzk0 ?zzkz ?zzk1 ?zzk2 ?zzk4 ?_ ?zzk6 ?zzk7); (case zzk0 => omega); (case zzkz => decide); (case zzk1 => assumption); (case zzk2 => exact Nat.le_of_ble_eq_true rfl); (case zzk4 => exact rfl); (case zzk6 => with_unfolding_all rfl); (case zzk7 => (intro _; with_unfolding_all rfl)))); intro t' tk; (try dsimp only)))
          | ((with_reducible show wpAny _ _ (subscriptTail _ _ _ _) _ _ _); (k_here; (with_reducible show wpAny _ _ (subscriptTail _ _ (Value.bytes _ _) (Value.int _ _)) _ _ _); k_dflt (first | ((refine' at_bytes 0 ?zzk0 ?zzkz ?zzk1 ?zzk2 ?zzk4 ?_ ?zzk6 ?zzk7); (case zzk0 => omega); (case zzkz => decide); (case zzk1 => assumption); (case zzk2 => exact Nat.le_of_ble_eq_true rfl); (case zzk4 => exact rfl); (case zzk6 => with_unfolding_all rfl); (case zzk7 => (intro _; with_unfolding_all rfl))) | ((refine' at_bytes 1 ?zzk0 ?zzkz ?zzk1 ?zzk2 ?zzk4 ?_ ?zzk6 ?zzk7); (case zzk0 => omega); (case zzkz => decide); (case zzk1 => assumption); (case zzk2 => exact Nat.le_of_ble_eq_true rfl); (case zzk4 => exact rfl); (case zzk6 => with_unfolding_all rfl); (case zzk7 => (intro _; with_unfolding_all rfl))) | ((refine' at_bytes 2 ?zzk0 ?zzkz ?zzk1 ?zzk2 ?zzk4 ?_ ?zzk6 ?zzk7); (case zzk0 => omega); (case zzkz => decide); (case zzk1 => assumption); (case zzk2 => exact Nat.le_of_ble_eq_true rfl); (case zzk4 => exact rfl); (case zzk6 => with_unfolding_all rfl); (case zzk7 => (intro _; with_unfolding_all rfl))) | ((refine' at_bytes 3 ?zzk0 ?zzkz ?zzk1 ?zzk2 ?zzk4 ?_ ?zzk6 ?zzk7); (case zzk0 => omega); (case zzkz => decide); (case zzk1 => assumption); (case zzk2 => exact Nat.le_of_ble_eq_true rfl); (case zzk4 => exact rfl); (case zzk6 => with_unfolding_all rfl); (case zzk7 => (intro _; with_unfolding_all rfl)))); intro t' tk; (try dsimp only)))
          | ((with_reducible show wpAny _ _ (subscriptTail _ _ _ _) _ _ _); (k_here; (with_reducible show wpAny _ _ (subscriptTail _ _ (Value.ref _) (Value.int _ _)) _ _ _); k_dflt (first | ((refine' at_list 0 ?zzk0 ?zzkz ?zzk1 ?zzk4 ?_ ?zzk6); (case zzk0 => omega); (case zzkz => decide); (case zzk1 => is_list); (case zzk4 => exact rfl); (case zzk6 => with_unfolding_all rfl); k_whole) | ((refine' at_list 1 ?zzk0 ?zzkz ?zzk1 ?zzk4 ?_ ?zzk6); (case zzk0 => omega); (case zzkz => decide); (case zzk1 => is_list); (case zzk4 => exact rfl); (case zzk6 => with_unfolding_all rfl); k_whole) | ((refine' at_list 2 ?zzk0 ?zzkz ?zzk1 ?zzk4 ?_ ?zzk6); (case zzk0 => omega); (case zzkz => decide); (case zzk1 => is_list); (case zzk4 => exact rfl); (case zzk6 => with_unfolding_all rfl); k_whole) | ((refine' at_list 3 ?zzk0 ?zzkz ?zzk1 ?zzk4 ?_ ?zzk6); (case zzk0 => omega); (case zzkz => decide); (case zzk1 => is_list); (case zzk4 => exact rfl); (case zzk6 => with_unfolding_all rfl); k_whole)); (try dsimp only)))
          | ((with_reducible show wpAny _ _ (setItem (Value.ref _) (Value.int _ _) _) _ _ _); (first | (refine' ba_set_is 0 ?zzk0 ?zzk1 ?zzk2 ?zzk3 ?zzk4 ?zzk5 ?zzk6 ?zzk7 ?zzk8 ?_; (case zzk0 => omega); (case zzk1 => k_asm); (case zzk2 => k_asm); (case zzk3 => k_upd); (case zzk4 => (simp only [Array.size_setIfInBounds, Array.size_replicate]; decide)); (case zzk5 => (simp only [Array.size_setIfInBounds, Array.size_replicate]; decide)); (case zzk6 => omega); (case zzk7 => omega); (case zzk8 => exact rfl)) | (refine' ba_set_is 1 ?zzk0 ?zzk1 ?zzk2 ?zzk3 ?zzk4 ?zzk5 ?zzk6 ?zzk7 ?zzk8 ?_; (case zzk0 => omega); (case zzk1 => k_asm); (case zzk2 => k_asm); (case zzk3 => k_upd); (case zzk4 => (simp only [Array.size_setIfInBounds, Array.size_replicate]; decide)); (case zzk5 => (simp only [Array.size_setIfInBounds, Array.size_replicate]; decide)); (case zzk6 => omega); (case zzk7 => omega); (case zzk8 => exact rfl)) | (refine' ba_set_is 2 ?zzk0 ?zzk1 ?zzk2 ?zzk3 ?zzk4 ?zzk5 ?zzk6 ?zzk7 ?zzk8 ?_; (case zzk0 => omega); (case zzk1 => k_asm); (case zzk2 => k_asm); (case zzk3 => k_upd); (case zzk4 => (simp only [Array.size_setIfInBounds, Array.size_replicate]; decide)); (case zzk5 => (simp only [Array.size_setIfInBounds, Array.size_replicate]; decide)); (case zzk6 => omega); (case zzk7 => omega); (case zzk8 => exact rfl)); intro h' F' N'; (try k_sweep)))
          | ((with_reducible show wpAny _ _ (setItem (Value.ref _) (Value.int _ _) _) _ _ _); (k_here; (with_reducible show wpAny _ _ (setItem (Value.ref _) (Value.int _ _) _) _ _ _); k_dflt (first | ((refine' set_at 0 ?zzk0 ?zzkz ?zzk1 ?zzk2 ?zzk3 ?zzk5 ?zzk6 ?_); (case zzk0 => omega); (case zzkz => decide); (case zzk1 => k_asm); (case zzk2 => k_asm); (case zzk3 => k_upd); (case zzk5 => exact Nat.le_of_ble_eq_true rfl); (case zzk6 => (simp only [List.set_cons_zero, List.set_cons_succ]; exact rfl)); k_whole) | ((refine' set_at 1 ?zzk0 ?zzkz ?zzk1 ?zzk2 ?zzk3 ?zzk5 ?zzk6 ?_); (case zzk0 => omega); (case zzkz => decide); (case zzk1 => k_asm); (case zzk2 => k_asm); (case zzk3 => k_upd); (case zzk5 => exact Nat.le_of_ble_eq_true rfl); (case zzk6 => (simp only [List.set_cons_zero, List.set_cons_succ]; exact rfl)); k_whole) | ((refine' set_at 2 ?zzk0 ?zzkz ?zzk1 ?zzk2 ?zzk3 ?zzk5 ?zzk6 ?_); (case zzk0 => omega); (case zzkz => decide); (case zzk1 => k_asm); (case zzk2 => k_asm); (case zzk3 => k_upd); (case zzk5 => exact Nat.le_of_ble_eq_true rfl); (case zzk6 => (simp only [List.set_cons_zero, List.set_cons_succ]; exact rfl)); k_whole) | ((refine' set_at 3 ?zzk0 ?zzkz ?zzk1 ?zzk2 ?zzk3 ?zzk5 ?zzk6 ?_); (case zzk0 => omega); (case zzkz => decide); (case zzk1 => k_asm); (case zzk2 => k_asm); (case zzk3 => k_upd); (case zzk5 => exact Nat.le_of_ble_eq_true rfl); (case zzk6 => (simp only [List.set_cons_zero, List.set_cons_succ]; exact rfl)); k_whole)); intro h' F' N'; (try k_sweep)))
          | ((with_reducible show wpAny _ _ (setItem (Value.ref _) (Value.int _ _) _) _ _ _); (k_here; (with_reducible show wpAny _ _ (setItem (Value.ref _) (Value.int _ _) _) _ _ _); k_dflt (refine' set_is ?zzk1 ?zzk2 ?zzk3 ?zzk4 ?zzk5 ?zzk6 ?zzk7 ?_; (case zzk1 => k_asm); (case zzk2 => k_asm); (case zzk3 => k_upd); (case zzk4 => omega); (case zzk5 => (simp only [List.length_cons, List.length_nil]; omega)); (case zzk6 => (simp only [Int.reduceToNat, Int.reduceAdd, List.set_cons_zero, List.set_cons_succ]; exact rfl)); (case zzk7 => omega); k_whole); intro h' F' N'; (try k_sweep)))
          | ((with_reducible show wpAny _ _ (unpackItems (Value.ref _) _ _) _ _ _); (k_here; k_dflt (refine' unpackItemsN_ ?zzF ?zzN ?zzT ?zzk1 ?zzk2 ?_; (case zzF => k_asm); (case zzN => k_asm); (case zzT => refine News.isTup (by k_asm) (by k_mem)); (case zzk1 => exact rfl); (case zzk2 => exact rfl)); intro h' F' N'; (try k_dflt (replace N' := news_tail N')); (try k_sweep)))
          | ((with_reducible show wpAny _ _ (callWith _ (Value.ref _) _ _ _) _ _ _); (k_here; k_dflt (refine' callWith_K ?zzk1 ?zzk2 ?_; (case zzk1 => with_reducible assumption); (case zzk2 => k_is); k_whole)))
          | ((with_reducible show wpAny _ _ (truthy (Value.int _ _)) _ _ _); (with_reducible refine truthy_pos (by omega) ?_))
          | ((with_reducible show wpAny _ _ (storeName _ _ _) _ _ _); (k_here; k_dflt (refine' storeX_L ?zzF ?zzN ?_ ?zzhk ?zzhx; (case zzhx => exact rfl); (case zzhk => exact rfl); (case zzF => k_asm); (case zzN => k_asm); k_whole; intro h' F' N'; (try k_sweep))))
          | ((with_reducible show wpAny _ _ (newList _) _ _ _); (k_here; k_dflt (refine' newList_is ?zzF ?zzN ?_ ?zzz; (case zzF => k_asm); (case zzN => k_asm); (case zzz => exact Nat.le_of_ble_eq_true rfl)); intro D' h' F' N' l1 l2; (try k_lt l1); (try k_lt2 l2); (try k_sweep)))
          | ((with_reducible show wpAny _ _ (newTuple _) _ _ _); (k_here; k_dflt (refine' newTuple_is ?zzF ?zzN ?_ ?zzz; (case zzF => k_asm); (case zzN => k_asm); (case zzz => exact Nat.le_of_ble_eq_true rfl)); intro D' h' F' N' l1 l2; (try k_lt l1); (try k_lt2 l2); (try k_sweep))))
    | ((fail_if_success (with_reducible show wpAny _ _ _ _ _ _)); first
          | ((with_reducible show LCg.CompSrc _ _ _ _ _ _ _ _ _ _ _ _ _ _); (k_here; k_dflt (first | (refine LCg.CompSrc.range (by rfl) (by k_asm) (by k_asm) (by assumption) (by first | decide | rfl) (by first | rfl | decide) (by exact Nat.le_of_ble_eq_true rfl) ?_; intro g'; lcg_lit) | (refine LCg.CompSrc.ledger (by rfl) (by k_asm) (by k_asm) (by k_mem) (by exact Nat.le_of_ble_eq_true rfl) ?_; intro g'; lcg_lit)))))
    | walk1
    | (dsimp only; walk1)))
  refine wpC_callType ?hs3 ?hp ?_
  case hs3 => rfl
  case hp => rfl
  repeat' (first
    | (k_unfold; (try dsimp only))
    | (with_reducible refine hZ3 _ _ ?_; clear hZ3; (try clear Qz); (try dsimp only)) | (with_reducible refine hZ1 _ ?_; clear hZ1 hZ2; (try clear Qz Ez); (try dsimp only)) | (with_reducible refine hZ2 _ _ ?_; clear hZ1 hZ2; (try clear Qz Ez); (try dsimp only))
    | ((with_reducible show wpAny _ _ (eval _ _) _ _ _); first
          | (((first | (with_reducible show wpAny _ _ (eval (Expr.Call _ _ _ _) _) _ _ _) | (with_reducible show wpAny _ _ (eval (Expr.BinOp _ _ _ _) _) _ _ _) | (with_reducible show wpAny _ _ (eval (Expr.Tuple _ _ _) _) _ _ _) | (with_reducible show wpAny _ _ (eval (Expr.List _ _ _) _) _ _ _) | (with_reducible show wpAny _ _ (eval (Expr.Subscript _ _ _) _) _ _ _) | (with_reducible show wpAny _ _ (eval (Expr.Compare _ _ _ _) _) _ _ _)); with_reducible refine cutQ ?_; intro Qz hZ3))
          | ((with_reducible show wpAny _ _ (eval (Expr.Name _ _) _) _ _ _); (k_here; (fail_if_success (with_reducible show wpAny _ _ (eval (Expr.Name _ _) (compEnvC _ _ _ _)) _ _ _)); k_dflt (first | (refine' nameX_L ?zzF ?zzhv ?_ ?zzhk ?zzhx ?zzhd; (case zzhx => exact rfl); (case zzhk => exact rfl); (case zzhd => decide); (case zzF => k_asm); (case zzhv => exact rfl); k_whole) | (refine' nameX_K ?zzF ?zzX ?zzT ?zze ?_ ?zzhk ?zzhx ?zzhd; (case zzhx => exact rfl); (case zzhk => exact rfl); (case zzhd => decide); (case zzF => k_asm); (case zzX => with_reducible assumption); (case zzT => exact topRead_of (by with_reducible assumption)); (case zze => k_is); k_whole) | (refine' nameX_B ?zzF ?zzX ?zzT ?zze ?zzv ?zzzn ?_ ?zzhk ?zzhx ?zzhd; (case zzhx => exact rfl); (case zzhk => exact rfl); (case zzhd => decide); (case zzF => k_asm); (case zzX => with_reducible assumption); (case zzT => exact topRead_of (by with_reducible assumption)); (case zze => k_is); (case zzv => boot_fast); (case zzzn => decide); k_whole) | (refine' nameX_F ?zzN ?zzc ?zzm ?zzd ?_ ?zzhk ?zzhx ?zzhb ?zzhn; (case zzhx => exact rfl); (case zzhk => exact rfl); (case zzhb => decide); (case zzhn => decide); (case zzN => k_asm); (case zzc => rfl); (case zzm => k_mem); (case zzd => k_asm); k_whole) | (refine' nameX_C ?zzN ?zzc ?zzm ?zzd ?_ ?zzhk ?zzhx ?zzhb; (case zzhx => exact rfl); (case zzhk => exact rfl); (case zzhb => decide); (case zzN => k_asm); (case zzc => rfl); (case zzm => k_mem); (case zzd => k_asm); k_whole)))))
    | ((with_reducible show wpAny _ _ (call _ _ _) _ _ _); first
          | ((with_reducible show wpAny _ _ (call (Value.builtin _) _ _) _ _ _); ((refine' len3 ?zzhb ?_; (case zzhb => assumption)); intro t' k'; (try dsimp only))))
    | walk1
    | (dsimp only; walk1))
  refine ba_made_is rfl (by decide) (by decide) (by k_asm) (by k_asm) ?_
  intro D h' lD ext F' N' l1
  clear ext
  refine wpAny_mono ?_ (fun _ _ x => wpC_of x) (fun _ _ x => x)
  repeat' (first
    | (k_unfold; (try dsimp only))
    | (with_reducible refine hZ3 _ _ ?_; clear hZ3; (try clear Qz); (try dsimp only)) | (with_reducible refine hZ1 _ ?_; clear hZ1 hZ2; (try clear Qz Ez); (try dsimp only)) | (with_reducible refine hZ2 _ _ ?_; clear hZ1 hZ2; (try clear Qz Ez); (try dsimp only))
    | ((with_reducible show wpAny _ _ (eval _ _) _ _ _); first
          | (((first | (with_reducible show wpAny _ _ (eval (Expr.Call _ _ _ _) _) _ _ _) | (with_reducible show wpAny _ _ (eval (Expr.BinOp _ _ _ _) _) _ _ _) | (with_reducible show wpAny _ _ (eval (Expr.Tuple _ _ _) _) _ _ _) | (with_reducible show wpAny _ _ (eval (Expr.List _ _ _) _) _ _ _) | (with_reducible show wpAny _ _ (eval (Expr.Subscript _ _ _) _) _ _ _) | (with_reducible show wpAny _ _ (eval (Expr.Compare _ _ _ _) _) _ _ _)); with_reducible refine cutQ ?_; intro Qz hZ3))
          | ((with_reducible show wpAny _ _ (eval (Expr.Name _ _) _) _ _ _); (k_here; (fail_if_success (with_reducible show wpAny _ _ (eval (Expr.Name _ _) (compEnvC _ _ _ _)) _ _ _)); k_dflt (first | (refine' nameX_L ?zzF ?zzhv ?_ ?zzhk ?zzhx ?zzhd; (case zzhx => exact rfl); (case zzhk => exact rfl); (case zzhd => decide); (case zzF => k_asm); (case zzhv => exact rfl); k_whole) | (refine' nameX_K ?zzF ?zzX ?zzT ?zze ?_ ?zzhk ?zzhx ?zzhd; (case zzhx => exact rfl); (case zzhk => exact rfl); (case zzhd => decide); (case zzF => k_asm); (case zzX => with_reducible assumption); (case zzT => exact topRead_of (by with_reducible assumption)); (case zze => k_is); k_whole) | (refine' nameX_B ?zzF ?zzX ?zzT ?zze ?zzv ?zzzn ?_ ?zzhk ?zzhx ?zzhd; (case zzhx => exact rfl); (case zzhk => exact rfl); (case zzhd => decide); (case zzF => k_asm); (case zzX => with_reducible assumption); (case zzT => exact topRead_of (by with_reducible assumption)); (case zze => k_is); (case zzv => boot_fast); (case zzzn => decide); k_whole) | (refine' nameX_F ?zzN ?zzc ?zzm ?zzd ?_ ?zzhk ?zzhx ?zzhb ?zzhn; (case zzhx => exact rfl); (case zzhk => exact rfl); (case zzhb => decide); (case zzhn => decide); (case zzN => k_asm); (case zzc => rfl); (case zzm => k_mem); (case zzd => k_asm); k_whole) | (refine' nameX_C ?zzN ?zzc ?zzm ?zzd ?_ ?zzhk ?zzhx ?zzhb; (case zzhx => exact rfl); (case zzhk => exact rfl); (case zzhb => decide); (case zzN => k_asm); (case zzc => rfl); (case zzm => k_mem); (case zzd => k_asm); k_whole)))))
    | ((with_reducible show wpAny _ _ (call _ _ _) _ _ _); first
          | ((with_reducible show wpAny _ _ (call (Value.type _) _ _) _ _ _); ((with_reducible show wpAny _ _ (call (Value.type "bytes") [Value.ref _]) _ _ _); (refine' ba_bytes_is ?zzhN ?zzhm ?zzhb ?_; (case zzhN => k_asm); (case zzhm => k_mem); (case zzhb => (simp only [Array.size_setIfInBounds, Array.size_replicate]; decide))); intro zt zk; (try dsimp only)))
          | ((with_reducible show wpAny _ _ (call (Value.builtin _) _ _) _ _ _); ((refine' len3 ?zzhb ?_; (case zzhb => assumption)); intro t' k'; (try dsimp only))))
    | ((with_reducible show wpAny _ _ (execs _ _) _ _ _); first
          | ((fail_if_success (with_reducible show wpAny _ _ (execs (Stmt.For _ _ _ _ _ :: _) _) _ _ _)); (try k_gentoks); with_reducible refine execs_cut ?_; intro Qz Ez hZ1 hZ2))
    | ((with_reducible show wpAny _ _ _ _ _ _); (fail_if_success (with_reducible show wpAny _ _ (eval _ _) _ _ _)); (fail_if_success (with_reducible show wpAny _ _ (execs _ _) _ _ _)); first
          | ((with_reducible show wpAny _ _ (subscriptTail _ _ _ _) _ _ _); (k_here; (with_reducible show wpAny _ _ (subscriptTail _ _ (Value.bytes _ _) (Value.int _ _)) _ _ _); k_dflt (first | ((refine' at_bytes 0 ?zzk0 ?zzkz ?zzk1 ?zzk2 ?zzk4 ?_ ?zzk6 ?zzk7); (case zzk0 => omega); (case zzkz => decide); (case zzk1 => assumption); (case zzk2 => exact Nat.le_of_ble_eq_true rfl); (case zzk4 => exact rfl); (case zzk6 => with_unfolding_all rfl); (case zzk7 => (intro _; with_unfolding_all rfl))) | ((refine' at_bytes 1 ?zzk0 ?zzkz ?zzk1 ?zzk2 ?zzk4 ?_ ?zzk6 ?zzk7); (case zzk0 => omega); (case zzkz => decide); (case zzk1 => assumption); (case zzk2 => exact Nat.le_of_ble_eq_true rfl); (case zzk4 => exact rfl); (case zzk6 => with_unfolding_all rfl); (case zzk7 => (intro _; with_unfolding_all rfl))) | ((refine' at_bytes 2 ?zzk0 ?zzkz ?zzk1 ?zzk2 ?zzk4 ?_ ?zzk6 ?zzk7); (case zzk0 => omega); (case zzkz => decide); (case zzk1 => assumption); (case zzk2 => exact Nat.le_of_ble_eq_true rfl); (case zzk4 => exact rfl); (case zzk6 => with_unfolding_all rfl); (case zzk7 => (intro _; with_unfolding_all rfl))) | ((refine' at_bytes 3 ?zzk0 ?zzkz ?zzk1 ?zzk2 ?zzk4 ?_ ?zzk6 ?zzk7); (case zzk0 => omega); (case zzkz => decide); (case zzk1 => assumption); (case zzk2 => exact Nat.le_of_ble_eq_true rfl); (case zzk4 => exact rfl); (case zzk6 => with_unfolding_all rfl); (case zzk7 => (intro _; with_unfolding_all rfl)))); intro t' tk; (try dsimp only)))
          | ((with_reducible show wpAny _ _ (setItem (Value.ref _) (Value.int _ _) _) _ _ _); (first | (refine' ba_set_is 0 ?zzk0 ?zzk1 ?zzk2 ?zzk3 ?zzk4 ?zzk5 ?zzk6 ?zzk7 ?zzk8 ?_; (case zzk0 => omega); (case zzk1 => k_asm); (case zzk2 => k_asm); (case zzk3 => k_upd); (case zzk4 => (simp only [Array.size_setIfInBounds, Array.size_replicate]; decide)); (case zzk5 => (simp only [Array.size_setIfInBounds, Array.size_replicate]; decide)); (case zzk6 => omega); (case zzk7 => omega); (case zzk8 => exact rfl)) | (refine' ba_set_is 1 ?zzk0 ?zzk1 ?zzk2 ?zzk3 ?zzk4 ?zzk5 ?zzk6 ?zzk7 ?zzk8 ?_; (case zzk0 => omega); (case zzk1 => k_asm); (case zzk2 => k_asm); (case zzk3 => k_upd); (case zzk4 => (simp only [Array.size_setIfInBounds, Array.size_replicate]; decide)); (case zzk5 => (simp only [Array.size_setIfInBounds, Array.size_replicate]; decide)); (case zzk6 => omega); (case zzk7 => omega); (case zzk8 => exact rfl)) | (refine' ba_set_is 2 ?zzk0 ?zzk1 ?zzk2 ?zzk3 ?zzk4 ?zzk5 ?zzk6 ?zzk7 ?zzk8 ?_; (case zzk0 => omega); (case zzk1 => k_asm); (case zzk2 => k_asm); (case zzk3 => k_upd); (case zzk4 => (simp only [Array.size_setIfInBounds, Array.size_replicate]; decide)); (case zzk5 => (simp only [Array.size_setIfInBounds, Array.size_replicate]; decide)); (case zzk6 => omega); (case zzk7 => omega); (case zzk8 => exact rfl)); intro h' F' N'; (try k_sweep)))
          | ((with_reducible show wpAny _ _ (storeName _ _ _) _ _ _); (k_here; k_dflt (refine' storeX_L ?zzF ?zzN ?_ ?zzhk ?zzhx; (case zzhx => exact rfl); (case zzhk => exact rfl); (case zzF => k_asm); (case zzN => k_asm); k_whole; intro h' F' N'; (try k_sweep)))))
    | walk1
    | (dsimp only; walk1))
  refine hret (.bytes _ _) _ _ ?ext ⟨_, _, rfl, swapped h0 h1 h2⟩
  exact ext_end N (by assumption) (by assumption) (by assumption) (by kcj_all)
end Mine

local macro_rules | `(tactic| ktn_lt) => `(tactic| with_reducible first | assumption | exact And.left (by assumption) | exact And.left (And.right (by assumption)) | exact And.right (by assumption) | exact And.left (And.right (And.right (by assumption))) | exact And.right (And.right (by assumption)) | exact And.left (And.right (And.right (And.right (by assumption)))) | exact And.right (And.right (And.right (by assumption))) | exact And.left (And.right (And.right (And.right (And.right (by assumption))))) | exact And.right (And.right (And.right (And.right (by assumption)))) | exact And.left (And.right (And.right (And.right (And.right (And.right (by assumption)))))) | exact And.right (And.right (And.right (And.right (And.right (by assumption))))) | exact And.left (And.right (And.right (And.right (And.right (And.right (And.right (by assumption))))))) | exact And.right (And.right (And.right (And.right (And.right (And.right (by assumption)))))) | exact And.left (And.right (And.right (And.right (And.right (And.right (And.right (And.right (by assumption)))))))) | exact And.right (And.right (And.right (And.right (And.right (And.right (And.right (by assumption))))))) | exact And.left (And.right (And.right (And.right (And.right (And.right (And.right (And.right (And.right (by assumption))))))))) | exact And.right (And.right (And.right (And.right (And.right (And.right (And.right (And.right (by assumption)))))))))
local macro_rules | `(tactic| k_ne) => `(tactic| first | exact Nat.ne_of_lt (by ktn_lt) | exact Nat.ne_of_gt (by ktn_lt) | exact (by ktn_lt) | exact Ne.symm (by ktn_lt) | (refine neN ?_; (try dsimp only); omega))
local macro_rules | `(tactic| k_all) => `(tactic| first | exact all_nil | assumption | exact lt_all (by ktn_lt) | (refine' all_cons ?a ?b; (case a => k_ne); (case b => k_all)) | (refine' List.forall_mem_cons.mpr ⟨?a, ?b⟩; (case a => k_ne); (case b => k_all)))
local macro_rules | `(tactic| k_mem) => `(tactic| first | exact List.Mem.head _ | exact mem1 | exact mem2 | exact mem3 | exact mem4 | (refine' mem_go4 ?_; k_mem) | (refine' List.Mem.tail _ ?_; k_mem))

namespace Mine

set_option maxRecDepth 100000 in
theorem d21 {w : World} {n : Int} {t t' t'' : Tok} (hn0 : 0 ≤ n) (hn1 : n < 1000) : Tell w 2 28 [] [.int n t, .int 17 t', .int 5 t''] (PPost fun q r => n = 17 * q + r ∧ 0 ≤ r ∧ r < 17) := by
  intro p loose mean mg mb c1 c2 o1 o2 vs1 vs2 t1 t2 dp un cn cs a ccd cl outer A₀ base h₀ L m s Q E hd1 hv1 hd2 hv2 B F X N T hk hdp hun hret
  generalize htau : tabs c1 c2 o1 o2 = tau at N
  have M : ∀ q ∈ tabs c1 c2 o1 o2, q ∈ tau := htau ▸ sub_refl
  clear htau
  revert X; k_fill; intro X
  refine wpAny_call ?_
  (refine' enter_all ?zzk1 ?zzk2 ?zzk3 ?zzk4 ?zzk5 ?zzkA ?zzkF ?zzkK ?zzk6 ?zzk7 ?zzk8 ?zzk9 ?zzkB ?_ ?zzc2 ?zzc3 ?zzc4 ?zzc5; (case zzkA => exact rfl); (case zzkF => exact rfl); (case zzkK => first | exact rfl | assumption); (case zzk1 => k_asm); (case zzk2 => k_asm); (case zzk3 => k_asm); (case zzk4 => k_asm); (case zzk5 => k_asm); (case zzk6 => k_is); (case zzk7 => k_is); (case zzk8 => k_room); (case zzk9 => exact BindsTo.of_eq rfl); (case zzc5 => decide); (case zzkB => exact locs rfl); (case zzc2 => exact rfl); (case zzc3 => exact rfl); (case zzc4 => exact rfl); k_whole; intro g' L' h' hext hLs hLL FG' F' N' B' X' T' l1; (try dsimp only [tabs, List.nil_append, List.cons_append] at N' l1); (try dsimp only); (try (replace l1 := allLt_of l1; (try dsimp only [AllLt] at l1))); (try k_lt2 hLL); (try k_fold))
  repeat' (first
    | (k_unfold; (try dsimp only))
    | ((with_reducible show EltEnd _ _ _ _ _ _ _ _); (first | (refine' elt_end ?zzF ?zzN ?zze; (case zzF => assumption); (case zzN => assumption); (case zze => first | with_reducible rfl | assumption | exact Eq.symm (tab4_get (by assumption)))) | (refine' eltEnd ?zzF ?zzN ?zzS ?zze; (case zzF => assumption); (case zzN => assumption); (case zzS => (repeat' first | assumption | exact sub_refl | refine' sub_tail ?_)); (case zze => first | with_reducible rfl | assumption | exact Eq.symm (tab4_get (by assumption))))))
    | (with_reducible refine hZ3 _ _ ?_; clear hZ3; (try clear Qz); (try dsimp only)) | (with_reducible refine hZ1 _ ?_; clear hZ1 hZ2; (try clear Qz Ez); (try dsimp only)) | (with_reducible refine hZ2 _ _ ?_; clear hZ1 hZ2; (try clear Qz Ez); (try dsimp only))
    | ((with_reducible show wpAny _ _ (eval _ _) _ _ _); first
          | (((first | (with_reducible show wpAny _ _ (eval (Expr.Call _ _ _ _) _) _ _ _) | (with_reducible show wpAny _ _ (eval (Expr.BinOp _ _ _ _) _) _ _ _) | (with_reducible show wpAny _ _ (eval (Expr.Tuple _ _ _) _) _ _ _) | (with_reducible show wpAny _ _ (eval (Expr.List _ _ _) _) _ _ _) | (with_reducible show wpAny _ _ (eval (Expr.Subscript _ _ _) _) _ _ _) | (with_reducible show wpAny _ _ (eval (Expr.Compare _ _ _ _) _) _ _ _)); with_reducible refine cutQ ?_; intro Qz hZ3))
          | ((with_reducible show wpAny _ _ (eval (Expr.Name _ _) _) _ _ _); (k_here; (fail_if_success (with_reducible show wpAny _ _ (eval (Expr.Name _ _) (compEnvC _ _ _ _)) _ _ _)); k_dflt (first | (refine' nameX_L ?zzF ?zzhv ?_ ?zzhk ?zzhx ?zzhd; (case zzhx => exact rfl); (case zzhk => exact rfl); (case zzhd => decide); (case zzF => k_asm); (case zzhv => exact rfl); k_whole) | (refine' nameX_K ?zzF ?zzX ?zzT ?zze ?_ ?zzhk ?zzhx ?zzhd; (case zzhx => exact rfl); (case zzhk => exact rfl); (case zzhd => decide); (case zzF => k_asm); (case zzX => with_reducible assumption); (case zzT => exact topRead_of (by with_reducible assumption)); (case zze => k_is); k_whole) | (refine' nameX_B ?zzF ?zzX ?zzT ?zze ?zzv ?zzzn ?_ ?zzhk ?zzhx ?zzhd; (case zzhx => exact rfl); (case zzhk => exact rfl); (case zzhd => decide); (case zzF => k_asm); (case zzX => with_reducible assumption); (case zzT => exact topRead_of (by with_reducible assumption)); (case zze => k_is); (case zzv => boot_fast); (case zzzn => decide); k_whole) | (refine' nameX_F ?zzN ?zzc ?zzm ?zzd ?_ ?zzhk ?zzhx ?zzhb ?zzhn; (case zzhx => exact rfl); (case zzhk => exact rfl); (case zzhb => decide); (case zzhn => decide); (case zzN => k_asm); (case zzc => rfl); (case zzm => k_mem); (case zzd => k_asm); k_whole) | (refine' nameX_C ?zzN ?zzc ?zzm ?zzd ?_ ?zzhk ?zzhx ?zzhb; (case zzhx => exact rfl); (case zzhk => exact rfl); (case zzhb => decide); (case zzN => k_asm); (case zzc => rfl); (case zzm => k_mem); (case zzd => k_asm); k_whole)))))
    | ((with_reducible show wpAny _ _ (call _ _ _) _ _ _); first
          | ((with_reducible show wpAny _ _ (call (Value.builtin _) _ _) _ _ _); (k_here; (with_reducible show wpAny _ _ (call (Value.builtin _) [Value.int _ _, Value.int _ _]) _ _ _); (refine divmod_is (by k_asm) (by k_asm) (PyProof.noPylong_small (by omega)) (by decide) ?_); intro D' qd' rd' td1 td2 h' tk' ed' rd0 rd1 F' N' l1 l2; (try (replace l1 := allLt_of l1; (try dsimp only [AllLt] at l1))); (try k_lt2 l2)))
          | ((with_reducible show wpAny _ _ (call (Value.builtin _) _ _) _ _ _); first | (with_reducible refine bits17_is ?_) | (with_reducible refine bits_is (by with_reducible assumption) ?_) | (with_reducible refine bits_le (by omega) (by omega) ?_; intro nb' hnb')))
    | ((with_reducible show wpAny _ _ (execs _ _) _ _ _); first
          | (((with_reducible rename Fr _ _ _ (fun y => List.lookup y _) => Fz); refine' canon0 Fz ?zze ?_; (case zze => first | exact @rfl _ [(_, _)] | exact @rfl _ [(_, _), (_, _)] | exact @rfl _ [(_, _), (_, _), (_, _)] | exact @rfl _ [(_, _), (_, _), (_, _), (_, _)]); clear Fz; intro F'))
          | ((fail_if_success (with_reducible show wpAny _ _ (execs (Stmt.For _ _ _ _ _ :: _) _) _ _ _)); (try k_gentoks); with_reducible refine execs_cut ?_; intro Qz Ez hZ1 hZ2))
    | walk1
    | (dsimp only; walk1))
  refine' hret (.ref _) _ _ ?ext ⟨_, ?zq, ?zr, ?zu1, ?zu2, rfl, ?sz, ?gt, ?eq⟩
  case ext => exact ext_end N (by assumption) (by assumption) (by assumption) (by (repeat' first | assumption | exact sub_refl | refine' sub_tail ?_))
  case gt => exact News.get (by assumption) (by k_mem)
  case sz => omega
  case eq => exact ⟨by omega, by omega, by omega⟩
end Mine

namespace Mine

set_option maxRecDepth 100000 in
theorem i2d_0 {w : World} {n : Int} {t t' : Tok} (hn0 : 0 ≤ n) (hn1 : n < 1) : Tell w 8 42 [] [.int n t, .int 5 t'] (LSome (DigOf n)) := by
  intro p loose mean mg mb c1 c2 o1 o2 vs1 vs2 t1 t2 dp un cn cs a ccd cl outer A₀ base h₀ L m s Q E hd1 hv1 hd2 hv2 B F X N T hk hdp hun hret
  obtain rfl : n = 0 := by omega
  revert X; k_fill; intro X
  have C1 : CodeHd h₀ 41 37 := codeHd_of_K (c := 41) (P := 37) X (by kernel_rfl)
  obtain ⟨nb, hnb, hnb1, hD⟩ := bits_0 hn0 hn1
  refine wpAny_call ?_
  (refine' enter_allC ?zzk1 ?zzk2 ?zzk3 ?zzk4 ?zzk5 ?zzkA ?zzkF ?zzkK ?zzk6 ?zzk7 ?zzk8 ?zzk9 ?zzkB ?zzkD ?_ ?zzc2 ?zzc3 ?zzc4; (case zzkA => exact rfl); (case zzkF => exact rfl); (case zzkK => first | exact rfl | assumption); (case zzk1 => k_asm); (case zzk2 => k_asm); (case zzk3 => k_asm); (case zzk4 => k_asm); (case zzk5 => k_asm); (case zzk6 => k_is); (case zzk7 => k_is); (case zzk8 => k_room); (case zzk9 => exact BindsTo.of_eq rfl); (case zzkB => exact rfl); (case zzkD => decide +kernel); (case zzc2 => exact rfl); (case zzc3 => exact rfl); (case zzc4 => exact rfl); k_whole; intro g' L' h' tk' cells' hext hLs hLL FG' F' N' Y' B' X' T' l1; (try dsimp only [tabs, List.nil_append, List.cons_append] at N' l1); (try (replace l1 := allLt_of l1; (try dsimp only [AllLt] at l1))); k_cells Y'; (try simp only [List.cons_append, List.nil_append] at N'); (try dsimp only); (try k_fold))
  repeat' (first
    | (k_unfold; (try dsimp only))
    | ((with_reducible show EltEnd _ _ _ _ _ _ _ _); (first | (refine' elt_end ?zzF ?zzN ?zze; (case zzF => assumption); (case zzN => assumption); (case zze => first | with_reducible rfl | assumption | exact Eq.symm (tab4_get (by assumption)))) | (refine' eltEnd ?zzF ?zzN ?zzS ?zze; (case zzF => assumption); (case zzN => assumption); (case zzS => (repeat' first | assumption | exact sub_refl | refine' sub_tail ?_)); (case zze => first | with_reducible rfl | assumption | exact Eq.symm (tab4_get (by assumption))))))
    | (with_reducible refine hZ3 _ _ ?_; clear hZ3; (try clear Qz); (try dsimp only)) | (with_reducible refine hZ1 _ ?_; clear hZ1 hZ2; (try clear Qz Ez); (try dsimp only)) | (with_reducible refine hZ2 _ _ ?_; clear hZ1 hZ2; (try clear Qz Ez); (try dsimp only))
    | ((with_reducible show wpAny _ _ (eval _ _) _ _ _); first
          | ((with_reducible show wpAny _ _ (eval (Expr.Name _ _) _) _ _ _); (k_here; (fail_if_success (with_reducible show wpAny _ _ (eval (Expr.Name _ _) (compEnvC _ _ _ _)) _ _ _)); k_dflt (first | (refine' nameX_L ?zzF ?zzhv ?_ ?zzhk ?zzhx ?zzhd; (case zzhx => exact rfl); (case zzhk => exact rfl); (case zzhd => decide); (case zzF => k_asm); (case zzhv => exact rfl); k_whole) | (refine' nameX_K ?zzF ?zzX ?zzT ?zze ?_ ?zzhk ?zzhx ?zzhd; (case zzhx => exact rfl); (case zzhk => exact rfl); (case zzhd => decide); (case zzF => k_asm); (case zzX => with_reducible assumption); (case zzT => exact topRead_of (by with_reducible assumption)); (case zze => k_is); k_whole) | (refine' nameX_B ?zzF ?zzX ?zzT ?zze ?zzv ?zzzn ?_ ?zzhk ?zzhx ?zzhd; (case zzhx => exact rfl); (case zzhk => exact rfl); (case zzhd => decide); (case zzF => k_asm); (case zzX => with_reducible assumption); (case zzT => exact topRead_of (by with_reducible assumption)); (case zze => k_is); (case zzv => boot_fast); (case zzzn => decide); k_whole) | (refine' nameX_F ?zzN ?zzc ?zzm ?zzd ?_ ?zzhk ?zzhx ?zzhb ?zzhn; (case zzhx => exact rfl); (case zzhk => exact rfl); (case zzhb => decide); (case zzhn => decide); (case zzN => k_asm); (case zzc => rfl); (case zzm => k_mem); (case zzd => k_asm); k_whole) | (refine' nameX_C ?zzN ?zzc ?zzm ?zzd ?_ ?zzhk ?zzhx ?zzhb; (case zzhx => exact rfl); (case zzhk => exact rfl); (case zzhb => decide); (case zzN => k_asm); (case zzc => rfl); (case zzm => k_mem); (case zzd => k_asm); k_whole)))))
    | ((with_reducible show wpAny _ _ (call _ _ _) _ _ _); first
          | ((with_reducible show wpAny _ _ (call (Value.builtin _) _ _) _ _ _); first | (with_reducible refine bits17_is ?_) | (with_reducible refine bits_is (by with_reducible assumption) ?_) | (with_reducible refine bits_le (by omega) (by omega) ?_; intro nb' hnb')))
    | ((with_reducible show wpAny _ _ (binaryOp _ _ _) _ _ _); first
          | ((with_reducible show wpAny _ _ (binaryOp Operator.Mult _ _) _ _ _); (k_here; (with_reducible show wpAny _ _ (binaryOp Operator.Mult (Value.ref _) (Value.int _ _)) _ _ _); k_dflt (refine' KMa.mul ?zzF ?zzN ?zzl ?zzlo ?zzhi ?zzz ?zze ?_; (case zzF => k_asm); (case zzN => k_asm); (case zzl => is_list); (case zzlo => omega); (case zzhi => omega); (case zzz => (simp only [List.length_cons, List.length_nil]; decide)); (case zze => (simp only [Int.reduceToNat, Int.reduceAdd, Int.reduceMul, List.replicate_succ, List.replicate_zero, List.flatten_cons, List.flatten_nil, List.cons_append, List.nil_append, List.append_nil]; exact rfl)); k_whole); intro D' h' F' N' l1; (try (replace l1 := allLt_of l1; (try dsimp only [AllLt] at l1))); (try k_sweep)))
          | ((with_reducible show wpAny _ _ (binaryOp Operator.FloorDiv _ _) _ _ _); (with_reducible refine fdiv_is (PyProof.noPylong_small (by omega)) (by decide) (by with_reducible assumption) ?_)))
    | ((with_reducible show wpAny _ _ (execs _ _) _ _ _); first
          | ((fail_if_success (with_reducible show wpAny _ _ (execs (Stmt.For _ _ _ _ _ :: _) _) _ _ _)); (try k_gentoks); with_reducible refine execs_cut ?_; intro Qz Ez hZ1 hZ2))
    | ((with_reducible show wpAny _ _ _ _ _ _); (fail_if_success (with_reducible show wpAny _ _ (eval _ _) _ _ _)); (fail_if_success (with_reducible show wpAny _ _ (execs _ _) _ _ _)); first
          | ((with_reducible show wpAny _ _ (newList _) _ _ _); (k_here; k_dflt (refine' newList_is ?zzF ?zzN ?_ ?zzz; (case zzF => k_asm); (case zzN => k_asm); (case zzz => exact Nat.le_of_ble_eq_true rfl)); intro D' h' F' N' l1 l2; (try (replace l1 := allLt_of l1; (try dsimp only [AllLt] at l1))); (try k_lt2 l2); (try k_sweep))))
    | walk1
    | (dsimp only; walk1))
  refine' hret (.ref _) _ _ ?ext (lsome ?eq ?sz ?gt ?iz)
  case ext => exact ext_end N (by assumption) (by assumption) (by assumption) (by (repeat' first | assumption | exact sub_refl | refine' sub_tail ?_))
  case sz => omega
  case gt => exact News.get (by assumption) (by k_mem)
  case iz => repeat constructor
  case eq => exact ⟨(fun _ h => nomatch h), Nat.zero_le _, rfl⟩
end Mine

namespace Mine

set_option maxRecDepth 100000 in
theorem i2d_1 {w : World} {n : Int} {t t' : Tok} (hn0 : 1 ≤ n) (hn1 : n < 32) : Tell w 8 42 [] [.int n t, .int 5 t'] (LSome (DigOf n)) := by
  intro p loose mean mg mb c1 c2 o1 o2 vs1 vs2 t1 t2 dp un cn cs a ccd cl outer A₀ base h₀ L m s Q E hd1 hv1 hd2 hv2 B F X N T hk hdp hun hret
  skip
  revert X; k_fill; intro X
  have C1 : CodeHd h₀ 41 37 := codeHd_of_K (c := 41) (P := 37) X (by kernel_rfl)
  obtain ⟨nb, hnb, hnb1, hD⟩ := bits_1 hn0 hn1
  refine wpAny_call ?_
  (refine' enter_allC ?zzk1 ?zzk2 ?zzk3 ?zzk4 ?zzk5 ?zzkA ?zzkF ?zzkK ?zzk6 ?zzk7 ?zzk8 ?zzk9 ?zzkB ?zzkD ?_ ?zzc2 ?zzc3 ?zzc4; (case zzkA => exact rfl); (case zzkF => exact rfl); (case zzkK => first | exact rfl | assumption); (case zzk1 => k_asm); (case zzk2 => k_asm); (case zzk3 => k_asm); (case zzk4 => k_asm); (case zzk5 => k_asm); (case zzk6 => k_is); (case zzk7 => k_is); (case zzk8 => k_room); (case zzk9 => exact BindsTo.of_eq rfl); (case zzkB => exact rfl); (case zzkD => decide +kernel); (case zzc2 => exact rfl); (case zzc3 => exact rfl); (case zzc4 => exact rfl); k_whole; intro g' L' h' tk' cells' hext hLs hLL FG' F' N' Y' B' X' T' l1; (try dsimp only [tabs, List.nil_append, List.cons_append] at N' l1); (try (replace l1 := allLt_of l1; (try dsimp only [AllLt] at l1))); k_cells Y'; (try simp only [List.cons_append, List.nil_append] at N'); (try dsimp only); (try k_fold))
  repeat' (first
    | (k_unfold; (try dsimp only))
    | ((with_reducible show EltEnd _ _ _ _ _ _ _ _); (first | (refine' elt_end ?zzF ?zzN ?zze; (case zzF => assumption); (case zzN => assumption); (case zze => first | with_reducible rfl | assumption | exact Eq.symm (tab4_get (by assumption)))) | (refine' eltEnd ?zzF ?zzN ?zzS ?zze; (case zzF => assumption); (case zzN => assumption); (case zzS => (repeat' first | assumption | exact sub_refl | refine' sub_tail ?_)); (case zze => first | with_reducible rfl | assumption | exact Eq.symm (tab4_get (by assumption))))))
    | (with_reducible refine hZ3 _ _ ?_; clear hZ3; (try clear Qz); (try dsimp only)) | (with_reducible refine hZ1 _ ?_; clear hZ1 hZ2; (try clear Qz Ez); (try dsimp only)) | (with_reducible refine hZ2 _ _ ?_; clear hZ1 hZ2; (try clear Qz Ez); (try dsimp only))
    | ((with_reducible show wpAny _ _ (eval _ _) _ _ _); first
          | ((with_reducible show wpAny _ _ (eval (Expr.Name _ _) _) _ _ _); (k_here; (fail_if_success (with_reducible show wpAny _ _ (eval (Expr.Name _ _) (compEnvC _ _ _ _)) _ _ _)); k_dflt (first | (refine' nameX_L ?zzF ?zzhv ?_ ?zzhk ?zzhx ?zzhd; (case zzhx => exact rfl); (case zzhk => exact rfl); (case zzhd => decide); (case zzF => k_asm); (case zzhv => exact rfl); k_whole) | (refine' nameX_K ?zzF ?zzX ?zzT ?zze ?_ ?zzhk ?zzhx ?zzhd; (case zzhx => exact rfl); (case zzhk => exact rfl); (case zzhd => decide); (case zzF => k_asm); (case zzX => with_reducible assumption); (case zzT => exact topRead_of (by with_reducible assumption)); (case zze => k_is); k_whole) | (refine' nameX_B ?zzF ?zzX ?zzT ?zze ?zzv ?zzzn ?_ ?zzhk ?zzhx ?zzhd; (case zzhx => exact rfl); (case zzhk => exact rfl); (case zzhd => decide); (case zzF => k_asm); (case zzX => with_reducible assumption); (case zzT => exact topRead_of (by with_reducible assumption)); (case zze => k_is); (case zzv => boot_fast); (case zzzn => decide); k_whole) | (refine' nameX_F ?zzN ?zzc ?zzm ?zzd ?_ ?zzhk ?zzhx ?zzhb ?zzhn; (case zzhx => exact rfl); (case zzhk => exact rfl); (case zzhb => decide); (case zzhn => decide); (case zzN => k_asm); (case zzc => rfl); (case zzm => k_mem); (case zzd => k_asm); k_whole) | (refine' nameX_C ?zzN ?zzc ?zzm ?zzd ?_ ?zzhk ?zzhx ?zzhb; (case zzhx => exact rfl); (case zzhk => exact rfl); (case zzhb => decide); (case zzN => k_asm); (case zzc => rfl); (case zzm => k_mem); (case zzd => k_asm); k_whole)))))
    | ((with_reducible show wpAny _ _ (call _ _ _) _ _ _); first
          | ((with_reducible show wpAny _ _ (call (Value.builtin _) _ _) _ _ _); first | (with_reducible refine bits17_is ?_) | (with_reducible refine bits_is (by with_reducible assumption) ?_) | (with_reducible refine bits_le (by omega) (by omega) ?_; intro nb' hnb')))
    | ((with_reducible show wpAny _ _ (binaryOp _ _ _) _ _ _); first
          | ((with_reducible show wpAny _ _ (binaryOp Operator.Mult _ _) _ _ _); (k_here; (with_reducible show wpAny _ _ (binaryOp Operator.Mult (Value.ref _) (Value.int _ _)) _ _ _); k_dflt (refine' KMa.mul ?zzF ?zzN ?zzl ?zzlo ?zzhi ?zzz ?zze ?_; (case zzF => k_asm); (case zzN => k_asm); (case zzl => is_list); (case zzlo => omega); (case zzhi => omega); (case zzz => (simp only [List.length_cons, List.length_nil]; decide)); (case zze => (simp only [Int.reduceToNat, Int.reduceAdd, Int.reduceMul, List.replicate_succ, List.replicate_zero, List.flatten_cons, List.flatten_nil, List.cons_append, List.nil_append, List.append_nil]; exact rfl)); k_whole); intro D' h' F' N' l1; (try (replace l1 := allLt_of l1; (try dsimp only [AllLt] at l1))); (try k_sweep)))
          | ((with_reducible show wpAny _ _ (binaryOp Operator.FloorDiv _ _) _ _ _); (with_reducible refine fdiv_is (PyProof.noPylong_small (by omega)) (by decide) (by with_reducible assumption) ?_)))
    | ((with_reducible show wpAny _ _ (execs _ _) _ _ _); first
          | (((with_reducible rename Fr _ _ _ (fun y => List.lookup y _) => Fz); refine' canon0 Fz ?zze ?_; (case zze => first | exact @rfl _ [(_, _)] | exact @rfl _ [(_, _), (_, _)] | exact @rfl _ [(_, _), (_, _), (_, _)] | exact @rfl _ [(_, _), (_, _), (_, _), (_, _)]); clear Fz; intro F'))
          | ((fail_if_success (with_reducible show wpAny _ _ (execs (Stmt.For _ _ _ _ _ :: _) _) _ _ _)); (try k_gentoks); with_reducible refine execs_cut ?_; intro Qz Ez hZ1 hZ2))
    | ((with_reducible show wpAny _ _ _ _ _ _); (fail_if_success (with_reducible show wpAny _ _ (eval _ _) _ _ _)); (fail_if_success (with_reducible show wpAny _ _ (execs _ _) _ _ _)); first
          | ((with_reducible show wpAny _ _ (setItem (Value.ref _) (Value.int _ _) _) _ _ _); (k_here; (with_reducible show wpAny _ _ (setItem (Value.ref _) (Value.int _ _) _) _ _ _); k_dflt (first | ((refine' set_at 0 ?zzk0 ?zzkz ?zzk1 ?zzk2 ?zzk3 ?zzk5 ?zzk6 ?_); (case zzk0 => omega); (case zzkz => decide); (case zzk1 => k_asm); (case zzk2 => k_asm); (case zzk3 => k_upd); (case zzk5 => exact Nat.le_of_ble_eq_true rfl); (case zzk6 => (simp only [List.set_cons_zero, List.set_cons_succ]; exact rfl)); k_whole) | ((refine' set_at 1 ?zzk0 ?zzkz ?zzk1 ?zzk2 ?zzk3 ?zzk5 ?zzk6 ?_); (case zzk0 => omega); (case zzkz => decide); (case zzk1 => k_asm); (case zzk2 => k_asm); (case zzk3 => k_upd); (case zzk5 => exact Nat.le_of_ble_eq_true rfl); (case zzk6 => (simp only [List.set_cons_zero, List.set_cons_succ]; exact rfl)); k_whole) | ((refine' set_at 2 ?zzk0 ?zzkz ?zzk1 ?zzk2 ?zzk3 ?zzk5 ?zzk6 ?_); (case zzk0 => omega); (case zzkz => decide); (case zzk1 => k_asm); (case zzk2 => k_asm); (case zzk3 => k_upd); (case zzk5 => exact Nat.le_of_ble_eq_true rfl); (case zzk6 => (simp only [List.set_cons_zero, List.set_cons_succ]; exact rfl)); k_whole) | ((refine' set_at 3 ?zzk0 ?zzkz ?zzk1 ?zzk2 ?zzk3 ?zzk5 ?zzk6 ?_); (case zzk0 => omega); (case zzkz => decide); (case zzk1 => k_asm); (case zzk2 => k_asm); (case zzk3 => k_upd); (case zzk5 => exact Nat.le_of_ble_eq_true rfl); (case zzk6 => (simp only [List.set_cons_zero, List.set_cons_succ]; exact rfl)); k_whole)); intro h' F' N'; (try k_sweep)))
          | ((with_reducible show wpAny _ _ (truthy (Value.int _ _)) _ _ _); (with_reducible refine truthy_pos (by omega) ?_))
          | ((with_reducible show wpAny _ _ (newList _) _ _ _); (k_here; k_dflt (refine' newList_is ?zzF ?zzN ?_ ?zzz; (case zzF => k_asm); (case zzN => k_asm); (case zzz => exact Nat.le_of_ble_eq_true rfl)); intro D' h' F' N' l1 l2; (try (replace l1 := allLt_of l1; (try dsimp only [AllLt] at l1))); (try k_lt2 l2); (try k_sweep))))
    | walk1
    | (dsimp only; walk1))
  refine' hret (.ref _) _ _ ?ext (lsome ?eq ?sz ?gt ?iz)
  case ext => exact ext_end N (by assumption) (by assumption) (by assumption) (by (repeat' first | assumption | exact sub_refl | refine' sub_tail ?_))
  case sz => omega
  case gt => exact News.get (by assumption) (by k_mem)
  case iz => repeat constructor
  case eq => exact ⟨digs1 ⟨by omega, by omega⟩, Nat.le_of_ble_eq_true rfl, by simp only [dval]; omega⟩
end Mine

namespace Mine

set_option maxRecDepth 100000 in
theorem i2d_2 {w : World} {n : Int} {t t' : Tok} (hn0 : 32 ≤ n) (hn1 : n < 1024) : Tell w 8 42 [] [.int n t, .int 5 t'] (LSome (DigOf n)) := by
  intro p loose mean mg mb c1 c2 o1 o2 vs1 vs2 t1 t2 dp un cn cs a ccd cl outer A₀ base h₀ L m s Q E hd1 hv1 hd2 hv2 B F X N T hk hdp hun hret
  skip
  revert X; k_fill; intro X
  have C1 : CodeHd h₀ 41 37 := codeHd_of_K (c := 41) (P := 37) X (by kernel_rfl)
  obtain ⟨nb, hnb, hnb1, hD⟩ := bits_2 hn0 hn1
  refine wpAny_call ?_
  (refine' enter_allC ?zzk1 ?zzk2 ?zzk3 ?zzk4 ?zzk5 ?zzkA ?zzkF ?zzkK ?zzk6 ?zzk7 ?zzk8 ?zzk9 ?zzkB ?zzkD ?_ ?zzc2 ?zzc3 ?zzc4; (case zzkA => exact rfl); (case zzkF => exact rfl); (case zzkK => first | exact rfl | assumption); (case zzk1 => k_asm); (case zzk2 => k_asm); (case zzk3 => k_asm); (case zzk4 => k_asm); (case zzk5 => k_asm); (case zzk6 => k_is); (case zzk7 => k_is); (case zzk8 => k_room); (case zzk9 => exact BindsTo.of_eq rfl); (case zzkB => exact rfl); (case zzkD => decide +kernel); (case zzc2 => exact rfl); (case zzc3 => exact rfl); (case zzc4 => exact rfl); k_whole; intro g' L' h' tk' cells' hext hLs hLL FG' F' N' Y' B' X' T' l1; (try dsimp only [tabs, List.nil_append, List.cons_append] at N' l1); (try (replace l1 := allLt_of l1; (try dsimp only [AllLt] at l1))); k_cells Y'; (try simp only [List.cons_append, List.nil_append] at N'); (try dsimp only); (try k_fold))
  repeat' (first
    | (k_unfold; (try dsimp only))
    | ((with_reducible show EltEnd _ _ _ _ _ _ _ _); (first | (refine' elt_end ?zzF ?zzN ?zze; (case zzF => assumption); (case zzN => assumption); (case zze => first | with_reducible rfl | assumption | exact Eq.symm (tab4_get (by assumption)))) | (refine' eltEnd ?zzF ?zzN ?zzS ?zze; (case zzF => assumption); (case zzN => assumption); (case zzS => (repeat' first | assumption | exact sub_refl | refine' sub_tail ?_)); (case zze => first | with_reducible rfl | assumption | exact Eq.symm (tab4_get (by assumption))))))
    | (with_reducible refine hZ3 _ _ ?_; clear hZ3; (try clear Qz); (try dsimp only)) | (with_reducible refine hZ1 _ ?_; clear hZ1 hZ2; (try clear Qz Ez); (try dsimp only)) | (with_reducible refine hZ2 _ _ ?_; clear hZ1 hZ2; (try clear Qz Ez); (try dsimp only))
    | ((with_reducible show wpAny _ _ (eval _ _) _ _ _); first
          | ((with_reducible show wpAny _ _ (eval (Expr.Name _ _) _) _ _ _); (k_here; (fail_if_success (with_reducible show wpAny _ _ (eval (Expr.Name _ _) (compEnvC _ _ _ _)) _ _ _)); k_dflt (first | (refine' nameX_L ?zzF ?zzhv ?_ ?zzhk ?zzhx ?zzhd; (case zzhx => exact rfl); (case zzhk => exact rfl); (case zzhd => decide); (case zzF => k_asm); (case zzhv => exact rfl); k_whole) | (refine' nameX_K ?zzF ?zzX ?zzT ?zze ?_ ?zzhk ?zzhx ?zzhd; (case zzhx => exact rfl); (case zzhk => exact rfl); (case zzhd => decide); (case zzF => k_asm); (case zzX => with_reducible assumption); (case zzT => exact topRead_of (by with_reducible assumption)); (case zze => k_is); k_whole) | (refine' nameX_B ?zzF ?zzX ?zzT ?zze ?zzv ?zzzn ?_ ?zzhk ?zzhx ?zzhd; (case zzhx => exact rfl); (case zzhk => exact rfl); (case zzhd => decide); (case zzF => k_asm); (case zzX => with_reducible assumption); (case zzT => exact topRead_of (by with_reducible assumption)); (case zze => k_is); (case zzv => boot_fast); (case zzzn => decide); k_whole) | (refine' nameX_F ?zzN ?zzc ?zzm ?zzd ?_ ?zzhk ?zzhx ?zzhb ?zzhn; (case zzhx => exact rfl); (case zzhk => exact rfl); (case zzhb => decide); (case zzhn => decide); (case zzN => k_asm); (case zzc => rfl); (case zzm => k_mem); (case zzd => k_asm); k_whole) | (refine' nameX_C ?zzN ?zzc ?zzm ?zzd ?_ ?zzhk ?zzhx ?zzhb; (case zzhx => exact rfl); (case zzhk => exact rfl); (case zzhb => decide); (case zzN => k_asm); (case zzc => rfl); (case zzm => k_mem); (case zzd => k_asm); k_whole)))))
    | ((with_reducible show wpAny _ _ (call _ _ _) _ _ _); first
          | ((with_reducible show wpAny _ _ (call (Value.builtin _) _ _) _ _ _); first | (with_reducible refine bits17_is ?_) | (with_reducible refine bits_is (by with_reducible assumption) ?_) | (with_reducible refine bits_le (by omega) (by omega) ?_; intro nb' hnb')))
    | ((with_reducible show wpAny _ _ (binaryOp _ _ _) _ _ _); first
          | ((with_reducible show wpAny _ _ (binaryOp Operator.Mult _ _) _ _ _); (k_here; (with_reducible show wpAny _ _ (binaryOp Operator.Mult (Value.ref _) (Value.int _ _)) _ _ _); k_dflt (refine' KMa.mul ?zzF ?zzN ?zzl ?zzlo ?zzhi ?zzz ?zze ?_; (case zzF => k_asm); (case zzN => k_asm); (case zzl => is_list); (case zzlo => omega); (case zzhi => omega); (case zzz => (simp only [List.length_cons, List.length_nil]; decide)); (case zze => (simp only [Int.reduceToNat, Int.reduceAdd, Int.reduceMul, List.replicate_succ, List.replicate_zero, List.flatten_cons, List.flatten_nil, List.cons_append, List.nil_append, List.append_nil]; exact rfl)); k_whole); intro D' h' F' N' l1; (try (replace l1 := allLt_of l1; (try dsimp only [AllLt] at l1))); (try k_sweep)))
          | ((with_reducible show wpAny _ _ (binaryOp Operator.BitXor _ _) _ _ _); (with_reducible refine xor5_is (by omega) (by with_reducible assumption) (by with_reducible assumption) (by with_reducible assumption) ?_))
          | ((with_reducible show wpAny _ _ (binaryOp Operator.LShift _ _) _ _ _); (with_reducible refine lshift5_is (by omega) (by omega) ?_))
          | ((with_reducible show wpAny _ _ (binaryOp Operator.RShift _ _) _ _ _); first | (with_reducible refine rshift1_is (k := 1) (by omega) (by omega) (by omega) ?_) | (with_reducible refine rshift1_is (k := 2) (by omega) (by omega) (by omega) ?_) | (with_reducible refine rshift5_is (by omega) ?_; intro q5 r5 e5 r50 r51))
          | ((with_reducible show wpAny _ _ (binaryOp Operator.FloorDiv _ _) _ _ _); (with_reducible refine fdiv_is (PyProof.noPylong_small (by omega)) (by decide) (by with_reducible assumption) ?_)))
    | ((with_reducible show wpAny _ _ (execs _ _) _ _ _); first
          | (((with_reducible rename Fr _ _ _ (fun y => List.lookup y _) => Fz); refine' canon0 Fz ?zze ?_; (case zze => first | exact @rfl _ [(_, _)] | exact @rfl _ [(_, _), (_, _)] | exact @rfl _ [(_, _), (_, _), (_, _)] | exact @rfl _ [(_, _), (_, _), (_, _), (_, _)]); clear Fz; intro F'))
          | (((with_reducible rename Fr _ _ _ (fun y => if y = _ then some _ else look _ y) => Fz); refine' canon Fz ?zze ?_; (case zze => first | exact @rfl _ [(_, _)] | exact @rfl _ [(_, _), (_, _)] | exact @rfl _ [(_, _), (_, _), (_, _)] | exact @rfl _ [(_, _), (_, _), (_, _), (_, _)] | exact @rfl _ [(_, _), (_, _), (_, _), (_, _), (_, _)] | exact @rfl _ [(_, _), (_, _), (_, _), (_, _), (_, _), (_, _)] | exact @rfl _ [(_, _), (_, _), (_, _), (_, _), (_, _), (_, _), (_, _)] | exact @rfl _ [(_, _), (_, _), (_, _), (_, _), (_, _), (_, _), (_, _), (_, _)] | exact @rfl _ [(_, _), (_, _), (_, _), (_, _), (_, _), (_, _), (_, _), (_, _), (_, _)] | exact @rfl _ [(_, _), (_, _), (_, _), (_, _), (_, _), (_, _), (_, _), (_, _), (_, _), (_, _)] | exact @rfl _ [(_, _), (_, _), (_, _), (_, _), (_, _), (_, _), (_, _), (_, _), (_, _), (_, _), (_, _)] | exact @rfl _ [(_, _), (_, _), (_, _), (_, _), (_, _), (_, _), (_, _), (_, _), (_, _), (_, _), (_, _), (_, _)]); clear Fz; intro F'))
          | ((fail_if_success (with_reducible show wpAny _ _ (execs (Stmt.For _ _ _ _ _ :: _) _) _ _ _)); (try k_gentoks); with_reducible refine execs_cut ?_; intro Qz Ez hZ1 hZ2))
    | ((with_reducible show wpAny _ _ _ _ _ _); (fail_if_success (with_reducible show wpAny _ _ (eval _ _) _ _ _)); (fail_if_success (with_reducible show wpAny _ _ (execs _ _) _ _ _)); first
          | ((with_reducible show wpAny _ _ (setItem (Value.ref _) (Value.int _ _) _) _ _ _); (k_here; (with_reducible show wpAny _ _ (setItem (Value.ref _) (Value.int _ _) _) _ _ _); k_dflt (first | ((refine' set_at 0 ?zzk0 ?zzkz ?zzk1 ?zzk2 ?zzk3 ?zzk5 ?zzk6 ?_); (case zzk0 => omega); (case zzkz => decide); (case zzk1 => k_asm); (case zzk2 => k_asm); (case zzk3 => k_upd); (case zzk5 => exact Nat.le_of_ble_eq_true rfl); (case zzk6 => (simp only [List.set_cons_zero, List.set_cons_succ]; exact rfl)); k_whole) | ((refine' set_at 1 ?zzk0 ?zzkz ?zzk1 ?zzk2 ?zzk3 ?zzk5 ?zzk6 ?_); (case zzk0 => omega); (case zzkz => decide); (case zzk1 => k_asm); (case zzk2 => k_asm); (case zzk3 => k_upd); (case zzk5 => exact Nat.le_of_ble_eq_true rfl); (case zzk6 => (simp only [List.set_cons_zero, List.set_cons_succ]; exact rfl)); k_whole) | ((refine' set_at 2 ?zzk0 ?zzkz ?zzk1 ?zzk2 ?zzk3 ?zzk5 ?zzk6 ?_); (case zzk0 => omega); (case zzkz => decide); (case zzk1 => k_asm); (case zzk2 => k_asm); (case zzk3 => k_upd); (case zzk5 => exact Nat.le_of_ble_eq_true rfl); (case zzk6 => (simp only [List.set_cons_zero, List.set_cons_succ]; exact rfl)); k_whole) | ((refine' set_at 3 ?zzk0 ?zzkz ?zzk1 ?zzk2 ?zzk3 ?zzk5 ?zzk6 ?_); (case zzk0 => omega); (case zzkz => decide); (case zzk1 => k_asm); (case zzk2 => k_asm); (case zzk3 => k_upd); (case zzk5 => exact Nat.le_of_ble_eq_true rfl); (case zzk6 => (simp only [List.set_cons_zero, List.set_cons_succ]; exact rfl)); k_whole)); intro h' F' N'; (try k_sweep)))
          | ((with_reducible show wpAny _ _ (truthy (Value.int _ _)) _ _ _); (with_reducible refine truthy_pos (by omega) ?_))
          | ((with_reducible show wpAny _ _ (storeName _ _ _) _ _ _); (k_here; k_dflt (refine' storeX_L ?zzF ?zzN ?_ ?zzhk ?zzhx; (case zzhx => exact rfl); (case zzhk => exact rfl); (case zzF => k_asm); (case zzN => k_asm); k_whole; intro h' F' N'; (try k_sweep))))
          | ((with_reducible show wpAny _ _ (newList _) _ _ _); (k_here; k_dflt (refine' newList_is ?zzF ?zzN ?_ ?zzz; (case zzF => k_asm); (case zzN => k_asm); (case zzz => exact Nat.le_of_ble_eq_true rfl)); intro D' h' F' N' l1 l2; (try (replace l1 := allLt_of l1; (try dsimp only [AllLt] at l1))); (try k_lt2 l2); (try k_sweep))))
    | walk1
    | (dsimp only; walk1))
  refine' hret (.ref _) _ _ ?ext (lsome ?eq ?sz ?gt ?iz)
  case ext => exact ext_end N (by assumption) (by assumption) (by assumption) (by (repeat' first | assumption | exact sub_refl | refine' sub_tail ?_))
  case sz => omega
  case gt => exact News.get (by assumption) (by k_mem)
  case iz => repeat constructor
  case eq => exact ⟨digs2 ⟨by omega, by omega⟩ ⟨by omega, by omega⟩, Nat.le_of_ble_eq_true rfl, by simp only [dval]; omega⟩
end Mine

namespace Mine

set_option maxRecDepth 100000 in
theorem i2d_3 {w : World} {n : Int} {t t' : Tok} (hn0 : 1024 ≤ n) (hn1 : n < 4096) : Tell w 8 42 [] [.int n t, .int 5 t'] (LSome (DigOf n)) := by
  intro p loose mean mg mb c1 c2 o1 o2 vs1 vs2 t1 t2 dp un cn cs a ccd cl outer A₀ base h₀ L m s Q E hd1 hv1 hd2 hv2 B F X N T hk hdp hun hret
  skip
  revert X; k_fill; intro X
  have C1 : CodeHd h₀ 41 37 := codeHd_of_K (c := 41) (P := 37) X (by kernel_rfl)
  obtain ⟨nb, hnb, hnb1, hD⟩ := bits_3 hn0 hn1
  refine wpAny_call ?_
  (refine' enter_allC ?zzk1 ?zzk2 ?zzk3 ?zzk4 ?zzk5 ?zzkA ?zzkF ?zzkK ?zzk6 ?zzk7 ?zzk8 ?zzk9 ?zzkB ?zzkD ?_ ?zzc2 ?zzc3 ?zzc4; (case zzkA => exact rfl); (case zzkF => exact rfl); (case zzkK => first | exact rfl | assumption); (case zzk1 => k_asm); (case zzk2 => k_asm); (case zzk3 => k_asm); (case zzk4 => k_asm); (case zzk5 => k_asm); (case zzk6 => k_is); (case zzk7 => k_is); (case zzk8 => k_room); (case zzk9 => exact BindsTo.of_eq rfl); (case zzkB => exact rfl); (case zzkD => decide +kernel); (case zzc2 => exact rfl); (case zzc3 => exact rfl); (case zzc4 => exact rfl); k_whole; intro g' L' h' tk' cells' hext hLs hLL FG' F' N' Y' B' X' T' l1; (try dsimp only [tabs, List.nil_append, List.cons_append] at N' l1); (try (replace l1 := allLt_of l1; (try dsimp only [AllLt] at l1))); k_cells Y'; (try simp only [List.cons_append, List.nil_append] at N'); (try dsimp only); (try k_fold))
  repeat' (first
    | (k_unfold; (try dsimp only))
    | ((with_reducible show EltEnd _ _ _ _ _ _ _ _); (first | (refine' elt_end ?zzF ?zzN ?zze; (case zzF => assumption); (case zzN => assumption); (case zze => first | with_reducible rfl | assumption | exact Eq.symm (tab4_get (by assumption)))) | (refine' eltEnd ?zzF ?zzN ?zzS ?zze; (case zzF => assumption); (case zzN => assumption); (case zzS => (repeat' first | assumption | exact sub_refl | refine' sub_tail ?_)); (case zze => first | with_reducible rfl | assumption | exact Eq.symm (tab4_get (by assumption))))))
    | (with_reducible refine hZ3 _ _ ?_; clear hZ3; (try clear Qz); (try dsimp only)) | (with_reducible refine hZ1 _ ?_; clear hZ1 hZ2; (try clear Qz Ez); (try dsimp only)) | (with_reducible refine hZ2 _ _ ?_; clear hZ1 hZ2; (try clear Qz Ez); (try dsimp only))
    | ((with_reducible show wpAny _ _ (eval _ _) _ _ _); first
          | ((with_reducible show wpAny _ _ (eval (Expr.Name _ _) _) _ _ _); (k_here; (fail_if_success (with_reducible show wpAny _ _ (eval (Expr.Name _ _) (compEnvC _ _ _ _)) _ _ _)); k_dflt (first | (refine' nameX_L ?zzF ?zzhv ?_ ?zzhk ?zzhx ?zzhd; (case zzhx => exact rfl); (case zzhk => exact rfl); (case zzhd => decide); (case zzF => k_asm); (case zzhv => exact rfl); k_whole) | (refine' nameX_K ?zzF ?zzX ?zzT ?zze ?_ ?zzhk ?zzhx ?zzhd; (case zzhx => exact rfl); (case zzhk => exact rfl); (case zzhd => decide); (case zzF => k_asm); (case zzX => with_reducible assumption); (case zzT => exact topRead_of (by with_reducible assumption)); (case zze => k_is); k_whole) | (refine' nameX_B ?zzF ?zzX ?zzT ?zze ?zzv ?zzzn ?_ ?zzhk ?zzhx ?zzhd; (case zzhx => exact rfl); (case zzhk => exact rfl); (case zzhd => decide); (case zzF => k_asm); (case zzX => with_reducible assumption); (case zzT => exact topRead_of (by with_reducible assumption)); (case zze => k_is); (case zzv => boot_fast); (case zzzn => decide); k_whole) | (refine' nameX_F ?zzN ?zzc ?zzm ?zzd ?_ ?zzhk ?zzhx ?zzhb ?zzhn; (case zzhx => exact rfl); (case zzhk => exact rfl); (case zzhb => decide); (case zzhn => decide); (case zzN => k_asm); (case zzc => rfl); (case zzm => k_mem); (case zzd => k_asm); k_whole) | (refine' nameX_C ?zzN ?zzc ?zzm ?zzd ?_ ?zzhk ?zzhx ?zzhb; (case zzhx => exact rfl); (case zzhk => exact rfl); (case zzhb => decide); (case zzN => k_asm); (case zzc => rfl); (case zzm => k_mem); (case zzd => k_asm); k_whole)))))
    | ((with_reducible show wpAny _ _ (call _ _ _) _ _ _); first
          | ((with_reducible show wpAny _ _ (call (Value.builtin _) _ _) _ _ _); first | (with_reducible refine bits17_is ?_) | (with_reducible refine bits_is (by with_reducible assumption) ?_) | (with_reducible refine bits_le (by omega) (by omega) ?_; intro nb' hnb')))
    | ((with_reducible show wpAny _ _ (binaryOp _ _ _) _ _ _); first
          | ((with_reducible show wpAny _ _ (binaryOp Operator.Mult _ _) _ _ _); (k_here; (with_reducible show wpAny _ _ (binaryOp Operator.Mult (Value.ref _) (Value.int _ _)) _ _ _); k_dflt (refine' KMa.mul ?zzF ?zzN ?zzl ?zzlo ?zzhi ?zzz ?zze ?_; (case zzF => k_asm); (case zzN => k_asm); (case zzl => is_list); (case zzlo => omega); (case zzhi => omega); (case zzz => (simp only [List.length_cons, List.length_nil]; decide)); (case zze => (simp only [Int.reduceToNat, Int.reduceAdd, Int.reduceMul, List.replicate_succ, List.replicate_zero, List.flatten_cons, List.flatten_nil, List.cons_append, List.nil_append, List.append_nil]; exact rfl)); k_whole); intro D' h' F' N' l1; (try (replace l1 := allLt_of l1; (try dsimp only [AllLt] at l1))); (try k_sweep)))
          | ((with_reducible show wpAny _ _ (binaryOp Operator.BitXor _ _) _ _ _); (with_reducible refine xor5_is (by omega) (by with_reducible assumption) (by with_reducible assumption) (by with_reducible assumption) ?_))
          | ((with_reducible show wpAny _ _ (binaryOp Operator.LShift _ _) _ _ _); (with_reducible refine lshift5_is (by omega) (by omega) ?_))
          | ((with_reducible show wpAny _ _ (binaryOp Operator.RShift _ _) _ _ _); first | (with_reducible refine rshift1_is (k := 1) (by omega) (by omega) (by omega) ?_) | (with_reducible refine rshift1_is (k := 2) (by omega) (by omega) (by omega) ?_) | (with_reducible refine rshift5_is (by omega) ?_; intro q5 r5 e5 r50 r51))
          | ((with_reducible show wpAny _ _ (binaryOp Operator.FloorDiv _ _) _ _ _); (with_reducible refine fdiv_is (PyProof.noPylong_small (by omega)) (by decide) (by with_reducible assumption) ?_)))
    | ((with_reducible show wpAny _ _ (execs _ _) _ _ _); first
          | (((with_reducible rename Fr _ _ _ (fun y => List.lookup y _) => Fz); refine' canon0 Fz ?zze ?_; (case zze => first | exact @rfl _ [(_, _)] | exact @rfl _ [(_, _), (_, _)] | exact @rfl _ [(_, _), (_, _), (_, _)] | exact @rfl _ [(_, _), (_, _), (_, _), (_, _)]); clear Fz; intro F'))
          | (((with_reducible rename Fr _ _ _ (fun y => if y = _ then some _ else look _ y) => Fz); refine' canon Fz ?zze ?_; (case zze => first | exact @rfl _ [(_, _)] | exact @rfl _ [(_, _), (_, _)] | exact @rfl _ [(_, _), (_, _), (_, _)] | exact @rfl _ [(_, _), (_, _), (_, _), (_, _)] | exact @rfl _ [(_, _), (_, _), (_, _), (_, _), (_, _)] | exact @rfl _ [(_, _), (_, _), (_, _), (_, _), (_, _), (_, _)] | exact @rfl _ [(_, _), (_, _), (_, _), (_, _), (_, _), (_, _), (_, _)] | exact @rfl _ [(_, _), (_, _), (_, _), (_, _), (_, _), (_, _), (_, _), (_, _)] | exact @rfl _ [(_, _), (_, _), (_, _), (_, _), (_, _), (_, _), (_, _), (_, _), (_, _)] | exact @rfl _ [(_, _), (_, _), (_, _), (_, _), (_, _), (_, _), (_, _), (_, _), (_, _), (_, _)] | exact @rfl _ [(_, _), (_, _), (_, _), (_, _), (_, _), (_, _), (_, _), (_, _), (_, _), (_, _), (_, _)] | exact @rfl _ [(_, _), (_, _), (_, _), (_, _), (_, _), (_, _), (_, _), (_, _), (_, _), (_, _), (_, _), (_, _)]); clear Fz; intro F'))
          | ((fail_if_success (with_reducible show wpAny _ _ (execs (Stmt.For _ _ _ _ _ :: _) _) _ _ _)); (try k_gentoks); with_reducible refine execs_cut ?_; intro Qz Ez hZ1 hZ2))
    | ((with_reducible show wpAny _ _ _ _ _ _); (fail_if_success (with_reducible show wpAny _ _ (eval _ _) _ _ _)); (fail_if_success (with_reducible show wpAny _ _ (execs _ _) _ _ _)); first
          | ((with_reducible show wpAny _ _ (setItem (Value.ref _) (Value.int _ _) _) _ _ _); (k_here; (with_reducible show wpAny _ _ (setItem (Value.ref _) (Value.int _ _) _) _ _ _); k_dflt (first | ((refine' set_at 0 ?zzk0 ?zzkz ?zzk1 ?zzk2 ?zzk3 ?zzk5 ?zzk6 ?_); (case zzk0 => omega); (case zzkz => decide); (case zzk1 => k_asm); (case zzk2 => k_asm); (case zzk3 => k_upd); (case zzk5 => exact Nat.le_of_ble_eq_true rfl); (case zzk6 => (simp only [List.set_cons_zero, List.set_cons_succ]; exact rfl)); k_whole) | ((refine' set_at 1 ?zzk0 ?zzkz ?zzk1 ?zzk2 ?zzk3 ?zzk5 ?zzk6 ?_); (case zzk0 => omega); (case zzkz => decide); (case zzk1 => k_asm); (case zzk2 => k_asm); (case zzk3 => k_upd); (case zzk5 => exact Nat.le_of_ble_eq_true rfl); (case zzk6 => (simp only [List.set_cons_zero, List.set_cons_succ]; exact rfl)); k_whole) | ((refine' set_at 2 ?zzk0 ?zzkz ?zzk1 ?zzk2 ?zzk3 ?zzk5 ?zzk6 ?_); (case zzk0 => omega); (case zzkz => decide); (case zzk1 => k_asm); (case zzk2 => k_asm); (case zzk3 => k_upd); (case zzk5 => exact Nat.le_of_ble_eq_true rfl); (case zzk6 => (simp only [List.set_cons_zero, List.set_cons_succ]; exact rfl)); k_whole) | ((refine' set_at 3 ?zzk0 ?zzkz ?zzk1 ?zzk2 ?zzk3 ?zzk5 ?zzk6 ?_); (case zzk0 => omega); (case zzkz => decide); (case zzk1 => k_asm); (case zzk2 => k_asm); (case zzk3 => k_upd); (case zzk5 => exact Nat.le_of_ble_eq_true rfl); (case zzk6 => (simp only [List.set_cons_zero, List.set_cons_succ]; exact rfl)); k_whole)); intro h' F' N'; (try k_sweep)))
          | ((with_reducible show wpAny _ _ (truthy (Value.int _ _)) _ _ _); (with_reducible refine truthy_pos (by omega) ?_))
          | ((with_reducible show wpAny _ _ (storeName _ _ _) _ _ _); (k_here; k_dflt (refine' storeX_L ?zzF ?zzN ?_ ?zzhk ?zzhx; (case zzhx => exact rfl); (case zzhk => exact rfl); (case zzF => k_asm); (case zzN => k_asm); k_whole; intro h' F' N'; (try k_sweep))))
          | ((with_reducible show wpAny _ _ (newList _) _ _ _); (k_here; k_dflt (refine' newList_is ?zzF ?zzN ?_ ?zzz; (case zzF => k_asm); (case zzN => k_asm); (case zzz => exact Nat.le_of_ble_eq_true rfl)); intro D' h' F' N' l1 l2; (try (replace l1 := allLt_of l1; (try dsimp only [AllLt] at l1))); (try k_lt2 l2); (try k_sweep))))
    | walk1
    | (dsimp only; walk1))
  refine' hret (.ref _) _ _ ?ext (lsome ?eq ?sz ?gt ?iz)
  case ext => exact ext_end N (by assumption) (by assumption) (by assumption) (by (repeat' first | assumption | exact sub_refl | refine' sub_tail ?_))
  case sz => omega
  case gt => exact News.get (by assumption) (by k_mem)
  case iz => repeat constructor
  case eq => exact ⟨digs3 ⟨by omega, by omega⟩ ⟨by omega, by omega⟩ ⟨by omega, by omega⟩, Nat.le_of_ble_eq_true rfl, by simp only [dval]; omega⟩
end Mine

namespace Mine

set_option maxRecDepth 100000 in
theorem d2i_0 {w : World} {D : Addr} {c : Nat} {t' : Tok}  : Tell w 8 49 [(D, listOf #[] c)] [.ref D, .int 5 t'] (fun h h' v => ∃ (x : Int) (t : Tok), v = .int x t) := by
  intro p loose mean mg mb c1 c2 o1 o2 vs1 vs2 t1 t2 dp un cn cs a ccd cl outer A₀ base h₀ L m s Q E hd1 hv1 hd2 hv2 B F X N T hk hdp hun hret
  revert X; k_fill; intro X
  have C1 : CodeHd h₀ 41 37 := codeHd_of_K (c := 41) (P := 37) X (by kernel_rfl)
  refine wpAny_call ?_
  (refine' enter_allC ?zzk1 ?zzk2 ?zzk3 ?zzk4 ?zzk5 ?zzkA ?zzkF ?zzkK ?zzk6 ?zzk7 ?zzk8 ?zzk9 ?zzkB ?zzkD ?_ ?zzc2 ?zzc3 ?zzc4; (case zzkA => exact rfl); (case zzkF => exact rfl); (case zzkK => first | exact rfl | assumption); (case zzk1 => k_asm); (case zzk2 => k_asm); (case zzk3 => k_asm); (case zzk4 => k_asm); (case zzk5 => k_asm); (case zzk6 => k_is); (case zzk7 => k_is); (case zzk8 => k_room); (case zzk9 => exact BindsTo.of_eq rfl); (case zzkB => exact rfl); (case zzkD => decide +kernel); (case zzc2 => exact rfl); (case zzc3 => exact rfl); (case zzc4 => exact rfl); k_whole; intro g' L' h' tk' cells' hext hLs hLL FG' F' N' Y' B' X' T' l1; (try dsimp only [tabs, List.nil_append, List.cons_append] at N' l1); (try (replace l1 := allLt_of l1; (try dsimp only [AllLt] at l1))); k_cells Y'; (try simp only [List.cons_append, List.nil_append] at N'); (try dsimp only); (try k_fold))
  repeat' (first
    | (k_unfold; (try dsimp only))
    | ((with_reducible show EltEnd _ _ _ _ _ _ _ _); (first | (refine' elt_end ?zzF ?zzN ?zze; (case zzF => assumption); (case zzN => assumption); (case zze => first | with_reducible rfl | assumption | exact Eq.symm (tab4_get (by assumption)))) | (refine' eltEnd ?zzF ?zzN ?zzS ?zze; (case zzF => assumption); (case zzN => assumption); (case zzS => (repeat' first | assumption | exact sub_refl | refine' sub_tail ?_)); (case zze => first | with_reducible rfl | assumption | exact Eq.symm (tab4_get (by assumption))))))
    | (with_reducible refine hZ3 _ _ ?_; clear hZ3; (try clear Qz); (try dsimp only)) | (with_reducible refine hZ1 _ ?_; clear hZ1 hZ2; (try clear Qz Ez); (try dsimp only)) | (with_reducible refine hZ2 _ _ ?_; clear hZ1 hZ2; (try clear Qz Ez); (try dsimp only))
    | ((with_reducible show wpAny _ _ (eval _ _) _ _ _); first
          | ((with_reducible show wpAny _ _ (eval (Expr.Name _ _) _) _ _ _); (k_here; (fail_if_success (with_reducible show wpAny _ _ (eval (Expr.Name _ _) (compEnvC _ _ _ _)) _ _ _)); k_dflt (first | (refine' nameX_L ?zzF ?zzhv ?_ ?zzhk ?zzhx ?zzhd; (case zzhx => exact rfl); (case zzhk => exact rfl); (case zzhd => decide); (case zzF => k_asm); (case zzhv => exact rfl); k_whole) | (refine' nameX_K ?zzF ?zzX ?zzT ?zze ?_ ?zzhk ?zzhx ?zzhd; (case zzhx => exact rfl); (case zzhk => exact rfl); (case zzhd => decide); (case zzF => k_asm); (case zzX => with_reducible assumption); (case zzT => exact topRead_of (by with_reducible assumption)); (case zze => k_is); k_whole) | (refine' nameX_B ?zzF ?zzX ?zzT ?zze ?zzv ?zzzn ?_ ?zzhk ?zzhx ?zzhd; (case zzhx => exact rfl); (case zzhk => exact rfl); (case zzhd => decide); (case zzF => k_asm); (case zzX => with_reducible assumption); (case zzT => exact topRead_of (by with_reducible assumption)); (case zze => k_is); (case zzv => boot_fast); (case zzzn => decide); k_whole) | (refine' nameX_F ?zzN ?zzc ?zzm ?zzd ?_ ?zzhk ?zzhx ?zzhb ?zzhn; (case zzhx => exact rfl); (case zzhk => exact rfl); (case zzhb => decide); (case zzhn => decide); (case zzN => k_asm); (case zzc => rfl); (case zzm => k_mem); (case zzd => k_asm); k_whole) | (refine' nameX_C ?zzN ?zzc ?zzm ?zzd ?_ ?zzhk ?zzhx ?zzhb; (case zzhx => exact rfl); (case zzhk => exact rfl); (case zzhb => decide); (case zzN => k_asm); (case zzc => rfl); (case zzm => k_mem); (case zzd => k_asm); k_whole)))))
    | ((with_reducible show wpAny _ _ (execs _ _) _ _ _); first
          | ((fail_if_success (with_reducible show wpAny _ _ (execs (Stmt.For _ _ _ _ _ :: _) _) _ _ _)); (try k_gentoks); with_reducible refine execs_cut ?_; intro Qz Ez hZ1 hZ2))
    | walk1
    | (dsimp only; walk1))
  all_goals (
    refine hret (.int _ _) _ _ ?ext ⟨_, _, rfl⟩
    exact ext_end N (by assumption) (by assumption) (by assumption) (by (repeat' first | assumption | exact sub_refl | refine' sub_tail ?_)))
end Mine

namespace Mine

set_option maxRecDepth 100000 in
theorem d2i_1 {w : World} {D : Addr} {c : Nat} {t' : Tok} {q0 : Int} {u0 : Tok} (h0 : 0 ≤ q0 ∧ q0 < 32) : Tell w 8 49 [(D, listOf #[.int q0 u0] c)] [.ref D, .int 5 t'] (fun h h' v => ∃ (x : Int) (t : Tok), v = .int x t) := by
  intro p loose mean mg mb c1 c2 o1 o2 vs1 vs2 t1 t2 dp un cn cs a ccd cl outer A₀ base h₀ L m s Q E hd1 hv1 hd2 hv2 B F X N T hk hdp hun hret
  revert X; k_fill; intro X
  have C1 : CodeHd h₀ 41 37 := codeHd_of_K (c := 41) (P := 37) X (by kernel_rfl)
  refine wpAny_call ?_
  (refine' enter_allC ?zzk1 ?zzk2 ?zzk3 ?zzk4 ?zzk5 ?zzkA ?zzkF ?zzkK ?zzk6 ?zzk7 ?zzk8 ?zzk9 ?zzkB ?zzkD ?_ ?zzc2 ?zzc3 ?zzc4; (case zzkA => exact rfl); (case zzkF => exact rfl); (case zzkK => first | exact rfl | assumption); (case zzk1 => k_asm); (case zzk2 => k_asm); (case zzk3 => k_asm); (case zzk4 => k_asm); (case zzk5 => k_asm); (case zzk6 => k_is); (case zzk7 => k_is); (case zzk8 => k_room); (case zzk9 => exact BindsTo.of_eq rfl); (case zzkB => exact rfl); (case zzkD => decide +kernel); (case zzc2 => exact rfl); (case zzc3 => exact rfl); (case zzc4 => exact rfl); k_whole; intro g' L' h' tk' cells' hext hLs hLL FG' F' N' Y' B' X' T' l1; (try dsimp only [tabs, List.nil_append, List.cons_append] at N' l1); (try (replace l1 := allLt_of l1; (try dsimp only [AllLt] at l1))); k_cells Y'; (try simp only [List.cons_append, List.nil_append] at N'); (try dsimp only); (try k_fold))
  repeat' (first
    | (k_unfold; (try dsimp only))
    | ((with_reducible show EltEnd _ _ _ _ _ _ _ _); (first | (refine' elt_end ?zzF ?zzN ?zze; (case zzF => assumption); (case zzN => assumption); (case zze => first | with_reducible rfl | assumption | exact Eq.symm (tab4_get (by assumption)))) | (refine' eltEnd ?zzF ?zzN ?zzS ?zze; (case zzF => assumption); (case zzN => assumption); (case zzS => (repeat' first | assumption | exact sub_refl | refine' sub_tail ?_)); (case zze => first | with_reducible rfl | assumption | exact Eq.symm (tab4_get (by assumption))))))
    | (with_reducible refine hZ3 _ _ ?_; clear hZ3; (try clear Qz); (try dsimp only)) | (with_reducible refine hZ1 _ ?_; clear hZ1 hZ2; (try clear Qz Ez); (try dsimp only)) | (with_reducible refine hZ2 _ _ ?_; clear hZ1 hZ2; (try clear Qz Ez); (try dsimp only))
    | ((with_reducible show wpAny _ _ (eval _ _) _ _ _); first
          | ((with_reducible show wpAny _ _ (eval (Expr.Name _ _) _) _ _ _); (k_here; (fail_if_success (with_reducible show wpAny _ _ (eval (Expr.Name _ _) (compEnvC _ _ _ _)) _ _ _)); k_dflt (first | (refine' nameX_L ?zzF ?zzhv ?_ ?zzhk ?zzhx ?zzhd; (case zzhx => exact rfl); (case zzhk => exact rfl); (case zzhd => decide); (case zzF => k_asm); (case zzhv => exact rfl); k_whole) | (refine' nameX_K ?zzF ?zzX ?zzT ?zze ?_ ?zzhk ?zzhx ?zzhd; (case zzhx => exact rfl); (case zzhk => exact rfl); (case zzhd => decide); (case zzF => k_asm); (case zzX => with_reducible assumption); (case zzT => exact topRead_of (by with_reducible assumption)); (case zze => k_is); k_whole) | (refine' nameX_B ?zzF ?zzX ?zzT ?zze ?zzv ?zzzn ?_ ?zzhk ?zzhx ?zzhd; (case zzhx => exact rfl); (case zzhk => exact rfl); (case zzhd => decide); (case zzF => k_asm); (case zzX => with_reducible assumption); (case zzT => exact topRead_of (by with_reducible assumption)); (case zze => k_is); (case zzv => boot_fast); (case zzzn => decide); k_whole) | (refine' nameX_F ?zzN ?zzc ?zzm ?zzd ?_ ?zzhk ?zzhx ?zzhb ?zzhn; (case zzhx => exact rfl); (case zzhk => exact rfl); (case zzhb => decide); (case zzhn => decide); (case zzN => k_asm); (case zzc => rfl); (case zzm => k_mem); (case zzd => k_asm); k_whole) | (refine' nameX_C ?zzN ?zzc ?zzm ?zzd ?_ ?zzhk ?zzhx ?zzhb; (case zzhx => exact rfl); (case zzhk => exact rfl); (case zzhb => decide); (case zzN => k_asm); (case zzc => rfl); (case zzm => k_mem); (case zzd => k_asm); k_whole)))))
    | ((with_reducible show wpAny _ _ (execs _ _) _ _ _); first
          | (((with_reducible rename Fr _ _ _ (fun y => List.lookup y _) => Fz); refine' canon0 Fz ?zze ?_; (case zze => first | exact @rfl _ [(_, _)] | exact @rfl _ [(_, _), (_, _)] | exact @rfl _ [(_, _), (_, _), (_, _)] | exact @rfl _ [(_, _), (_, _), (_, _), (_, _)]); clear Fz; intro F'))
          | ((fail_if_success (with_reducible show wpAny _ _ (execs (Stmt.For _ _ _ _ _ :: _) _) _ _ _)); (try k_gentoks); with_reducible refine execs_cut ?_; intro Qz Ez hZ1 hZ2))
    | ((with_reducible show wpAny _ _ _ _ _ _); (fail_if_success (with_reducible show wpAny _ _ (eval _ _) _ _ _)); (fail_if_success (with_reducible show wpAny _ _ (execs _ _) _ _ _)); first
          | ((with_reducible show wpAny _ _ (subscriptTail _ _ _ _) _ _ _); (k_here; (with_reducible show wpAny _ _ (subscriptTail _ _ (Value.ref _) (Value.int _ _)) _ _ _); k_dflt (first | ((refine' at_list 0 ?zzk0 ?zzkz ?zzk1 ?zzk4 ?_ ?zzk6); (case zzk0 => omega); (case zzkz => decide); (case zzk1 => is_list); (case zzk4 => exact rfl); (case zzk6 => with_unfolding_all rfl); k_whole) | ((refine' at_list 1 ?zzk0 ?zzkz ?zzk1 ?zzk4 ?_ ?zzk6); (case zzk0 => omega); (case zzkz => decide); (case zzk1 => is_list); (case zzk4 => exact rfl); (case zzk6 => with_unfolding_all rfl); k_whole) | ((refine' at_list 2 ?zzk0 ?zzkz ?zzk1 ?zzk4 ?_ ?zzk6); (case zzk0 => omega); (case zzkz => decide); (case zzk1 => is_list); (case zzk4 => exact rfl); (case zzk6 => with_unfolding_all rfl); k_whole) | ((refine' at_list 3 ?zzk0 ?zzkz ?zzk1 ?zzk4 ?_ ?zzk6); (case zzk0 => omega); (case zzkz => decide); (case zzk1 => is_list); (case zzk4 => exact rfl); (case zzk6 => with_unfolding_all rfl); k_whole)); (try dsimp only))))
    | walk1
    | (dsimp only; walk1))
  all_goals (
    refine hret (.int _ _) _ _ ?ext ⟨_, _, rfl⟩
    exact ext_end N (by assumption) (by assumption) (by assumption) (by (repeat' first | assumption | exact sub_refl | refine' sub_tail ?_)))
end Mine

namespace Mine

set_option maxRecDepth 100000 in
theorem d2i_2 {w : World} {D : Addr} {c : Nat} {t' : Tok} {q0 q1 : Int} {u0 u1 : Tok} (h0 : 0 ≤ q0 ∧ q0 < 32) (h1 : 0 ≤ q1 ∧ q1 < 32) : Tell w 8 49 [(D, listOf #[.int q0 u0, .int q1 u1] c)] [.ref D, .int 5 t'] (fun h h' v => ∃ (x : Int) (t : Tok), v = .int x t) := by
  intro p loose mean mg mb c1 c2 o1 o2 vs1 vs2 t1 t2 dp un cn cs a ccd cl outer A₀ base h₀ L m s Q E hd1 hv1 hd2 hv2 B F X N T hk hdp hun hret
  revert X; k_fill; intro X
  have C1 : CodeHd h₀ 41 37 := codeHd_of_K (c := 41) (P := 37) X (by kernel_rfl)
  refine wpAny_call ?_
  (refine' enter_allC ?zzk1 ?zzk2 ?zzk3 ?zzk4 ?zzk5 ?zzkA ?zzkF ?zzkK ?zzk6 ?zzk7 ?zzk8 ?zzk9 ?zzkB ?zzkD ?_ ?zzc2 ?zzc3 ?zzc4; (case zzkA => exact rfl); (case zzkF => exact rfl); (case zzkK => first | exact rfl | assumption); (case zzk1 => k_asm); (case zzk2 => k_asm); (case zzk3 => k_asm); (case zzk4 => k_asm); (case zzk5 => k_asm); (case zzk6 => k_is); (case zzk7 => k_is); (case zzk8 => k_room); (case zzk9 => exact BindsTo.of_eq rfl); (case zzkB => exact rfl); (case zzkD => decide +kernel); (case zzc2 => exact rfl); (case zzc3 => exact rfl); (case zzc4 => exact rfl); k_whole; intro g' L' h' tk' cells' hext hLs hLL FG' F' N' Y' B' X' T' l1; (try dsimp only [tabs, List.nil_append, List.cons_append] at N' l1); (try (replace l1 := allLt_of l1; (try dsimp only [AllLt] at l1))); k_cells Y'; (try simp only [List.cons_append, List.nil_append] at N'); (try dsimp only); (try k_fold))
  repeat' (first
    | (k_unfold; (try dsimp only))
    | ((with_reducible show EltEnd _ _ _ _ _ _ _ _); (first | (refine' elt_end ?zzF ?zzN ?zze; (case zzF => assumption); (case zzN => assumption); (case zze => first | with_reducible rfl | assumption | exact Eq.symm (tab4_get (by assumption)))) | (refine' eltEnd ?zzF ?zzN ?zzS ?zze; (case zzF => assumption); (case zzN => assumption); (case zzS => (repeat' first | assumption | exact sub_refl | refine' sub_tail ?_)); (case zze => first | with_reducible rfl | assumption | exact Eq.symm (tab4_get (by assumption))))))
    | (with_reducible refine hZ3 _ _ ?_; clear hZ3; (try clear Qz); (try dsimp only)) | (with_reducible refine hZ1 _ ?_; clear hZ1 hZ2; (try clear Qz Ez); (try dsimp only)) | (with_reducible refine hZ2 _ _ ?_; clear hZ1 hZ2; (try clear Qz Ez); (try dsimp only))
    | ((with_reducible show wpAny _ _ (eval _ _) _ _ _); first
          | ((with_reducible show wpAny _ _ (eval (Expr.Name _ _) _) _ _ _); (k_here; (fail_if_success (with_reducible show wpAny _ _ (eval (Expr.Name _ _) (compEnvC _ _ _ _)) _ _ _)); k_dflt (first | (refine' nameX_L ?zzF ?zzhv ?_ ?zzhk ?zzhx ?zzhd; (case zzhx => exact rfl); (case zzhk => exact rfl); (case zzhd => decide); (case zzF => k_asm); (case zzhv => exact rfl); k_whole) | (refine' nameX_K ?zzF ?zzX ?zzT ?zze ?_ ?zzhk ?zzhx ?zzhd; (case zzhx => exact rfl); (case zzhk => exact rfl); (case zzhd => decide); (case zzF => k_asm); (case zzX => with_reducible assumption); (case zzT => exact topRead_of (by with_reducible assumption)); (case zze => k_is); k_whole) | (refine' nameX_B ?zzF ?zzX ?zzT ?zze ?zzv ?zzzn ?_ ?zzhk ?zzhx ?zzhd; (case zzhx => exact rfl); (case zzhk => exact rfl); (case zzhd => decide); (case zzF => k_asm); (case zzX => with_reducible assumption); (case zzT => exact topRead_of (by with_reducible assumption)); (case zze => k_is); (case zzv => boot_fast); (case zzzn => decide); k_whole) | (refine' nameX_F ?zzN ?zzc ?zzm ?zzd ?_ ?zzhk ?zzhx ?zzhb ?zzhn; (case zzhx => exact rfl); (case zzhk => exact rfl); (case zzhb => decide); (case zzhn => decide); (case zzN => k_asm); (case zzc => rfl); (case zzm => k_mem); (case zzd => k_asm); k_whole) | (refine' nameX_C ?zzN ?zzc ?zzm ?zzd ?_ ?zzhk ?zzhx ?zzhb; (case zzhx => exact rfl); (case zzhk => exact rfl); (case zzhb => decide); (case zzN => k_asm); (case zzc => rfl); (case zzm => k_mem); (case zzd => k_asm); k_whole)))))
    | ((with_reducible show wpAny _ _ (binaryOp _ _ _) _ _ _); first
          | ((with_reducible show wpAny _ _ (binaryOp Operator.LShift _ _) _ _ _); (with_reducible refine lshift5_is (by omega) (by omega) ?_))
          | ((with_reducible show wpAny _ _ (binaryOp Operator.RShift _ _) _ _ _); first | (with_reducible refine rshift1_is (k := 1) (by omega) (by omega) (by omega) ?_) | (with_reducible refine rshift1_is (k := 2) (by omega) (by omega) (by omega) ?_) | (with_reducible refine rshift5_is (by omega) ?_; intro q5 r5 e5 r50 r51)))
    | ((with_reducible show wpAny _ _ (execs _ _) _ _ _); first
          | (((with_reducible rename Fr _ _ _ (fun y => List.lookup y _) => Fz); refine' canon0 Fz ?zze ?_; (case zze => first | exact @rfl _ [(_, _)] | exact @rfl _ [(_, _), (_, _)] | exact @rfl _ [(_, _), (_, _), (_, _)] | exact @rfl _ [(_, _), (_, _), (_, _), (_, _)]); clear Fz; intro F'))
          | (((with_reducible rename Fr _ _ _ (fun y => if y = _ then some _ else look _ y) => Fz); refine' canon Fz ?zze ?_; (case zze => first | exact @rfl _ [(_, _)] | exact @rfl _ [(_, _), (_, _)] | exact @rfl _ [(_, _), (_, _), (_, _)] | exact @rfl _ [(_, _), (_, _), (_, _), (_, _)] | exact @rfl _ [(_, _), (_, _), (_, _), (_, _), (_, _)] | exact @rfl _ [(_, _), (_, _), (_, _), (_, _), (_, _), (_, _)] | exact @rfl _ [(_, _), (_, _), (_, _), (_, _), (_, _), (_, _), (_, _)] | exact @rfl _ [(_, _), (_, _), (_, _), (_, _), (_, _), (_, _), (_, _), (_, _)] | exact @rfl _ [(_, _), (_, _), (_, _), (_, _), (_, _), (_, _), (_, _), (_, _), (_, _)] | exact @rfl _ [(_, _), (_, _), (_, _), (_, _), (_, _), (_, _), (_, _), (_, _), (_, _), (_, _)] | exact @rfl _ [(_, _), (_, _), (_, _), (_, _), (_, _), (_, _), (_, _), (_, _), (_, _), (_, _), (_, _)] | exact @rfl _ [(_, _), (_, _), (_, _), (_, _), (_, _), (_, _), (_, _), (_, _), (_, _), (_, _), (_, _), (_, _)]); clear Fz; intro F'))
          | ((fail_if_success (with_reducible show wpAny _ _ (execs (Stmt.For _ _ _ _ _ :: _) _) _ _ _)); (try k_gentoks); with_reducible refine execs_cut ?_; intro Qz Ez hZ1 hZ2))
    | ((with_reducible show wpAny _ _ _ _ _ _); (fail_if_success (with_reducible show wpAny _ _ (eval _ _) _ _ _)); (fail_if_success (with_reducible show wpAny _ _ (execs _ _) _ _ _)); first
          | ((with_reducible show wpAny _ _ (subscriptTail _ _ _ _) _ _ _); (k_here; (with_reducible show wpAny _ _ (subscriptTail _ _ (Value.ref _) (Value.int _ _)) _ _ _); k_dflt (first | ((refine' at_list 0 ?zzk0 ?zzkz ?zzk1 ?zzk4 ?_ ?zzk6); (case zzk0 => omega); (case zzkz => decide); (case zzk1 => is_list); (case zzk4 => exact rfl); (case zzk6 => with_unfolding_all rfl); k_whole) | ((refine' at_list 1 ?zzk0 ?zzkz ?zzk1 ?zzk4 ?_ ?zzk6); (case zzk0 => omega); (case zzkz => decide); (case zzk1 => is_list); (case zzk4 => exact rfl); (case zzk6 => with_unfolding_all rfl); k_whole) | ((refine' at_list 2 ?zzk0 ?zzkz ?zzk1 ?zzk4 ?_ ?zzk6); (case zzk0 => omega); (case zzkz => decide); (case zzk1 => is_list); (case zzk4 => exact rfl); (case zzk6 => with_unfolding_all rfl); k_whole) | ((refine' at_list 3 ?zzk0 ?zzkz ?zzk1 ?zzk4 ?_ ?zzk6); (case zzk0 => omega); (case zzkz => decide); (case zzk1 => is_list); (case zzk4 => exact rfl); (case zzk6 => with_unfolding_all rfl); k_whole)); (try dsimp only)))
          | ((with_reducible show wpAny _ _ (storeName _ _ _) _ _ _); (k_here; k_dflt (refine' storeX_L ?zzF ?zzN ?_ ?zzhk ?zzhx; (case zzhx => exact rfl); (case zzhk => exact rfl); (case zzF => k_asm); (case zzN => k_asm); k_whole; intro h' F' N'; (try k_sweep)))))
    | walk1
    | (dsimp only; walk1))
  all_goals (
    refine hret (.int _ _) _ _ ?ext ⟨_, _, rfl⟩
    exact ext_end N (by assumption) (by assumption) (by assumption) (by (repeat' first | assumption | exact sub_refl | refine' sub_tail ?_)))
end Mine

namespace Mine

set_option maxRecDepth 100000 in
theorem d2i_3 {w : World} {D : Addr} {c : Nat} {t' : Tok} {q0 q1 q2 : Int} {u0 u1 u2 : Tok} (h0 : 0 ≤ q0 ∧ q0 < 32) (h1 : 0 ≤ q1 ∧ q1 < 32) (h2 : 0 ≤ q2 ∧ q2 < 32) : Tell w 8 49 [(D, listOf #[.int q0 u0, .int q1 u1, .int q2 u2] c)] [.ref D, .int 5 t'] (fun h h' v => ∃ (x : Int) (t : Tok), v = .int x t) := by
  intro p loose mean mg mb c1 c2 o1 o2 vs1 vs2 t1 t2 dp un cn cs a ccd cl outer A₀ base h₀ L m s Q E hd1 hv1 hd2 hv2 B F X N T hk hdp hun hret
  revert X; k_fill; intro X
  have C1 : CodeHd h₀ 41 37 := codeHd_of_K (c := 41) (P := 37) X (by kernel_rfl)
  refine wpAny_call ?_
  (refine' enter_allC ?zzk1 ?zzk2 ?zzk3 ?zzk4 ?zzk5 ?zzkA ?zzkF ?zzkK ?zzk6 ?zzk7 ?zzk8 ?zzk9 ?zzkB ?zzkD ?_ ?zzc2 ?zzc3 ?zzc4; (case zzkA => exact rfl); (case zzkF => exact rfl); (case zzkK => first | exact rfl | assumption); (case zzk1 => k_asm); (case zzk2 => k_asm); (case zzk3 => k_asm); (case zzk4 => k_asm); (case zzk5 => k_asm); (case zzk6 => k_is); (case zzk7 => k_is); (case zzk8 => k_room); (case zzk9 => exact BindsTo.of_eq rfl); (case zzkB => exact rfl); (case zzkD => decide +kernel); (case zzc2 => exact rfl); (case zzc3 => exact rfl); (case zzc4 => exact rfl); k_whole; intro g' L' h' tk' cells' hext hLs hLL FG' F' N' Y' B' X' T' l1; (try dsimp only [tabs, List.nil_append, List.cons_append] at N' l1); (try (replace l1 := allLt_of l1; (try dsimp only [AllLt] at l1))); k_cells Y'; (try simp only [List.cons_append, List.nil_append] at N'); (try dsimp only); (try k_fold))
  repeat' (first
    | (k_unfold; (try dsimp only))
    | ((with_reducible show EltEnd _ _ _ _ _ _ _ _); (first | (refine' elt_end ?zzF ?zzN ?zze; (case zzF => assumption); (case zzN => assumption); (case zze => first | with_reducible rfl | assumption | exact Eq.symm (tab4_get (by assumption)))) | (refine' eltEnd ?zzF ?zzN ?zzS ?zze; (case zzF => assumption); (case zzN => assumption); (case zzS => (repeat' first | assumption | exact sub_refl | refine' sub_tail ?_)); (case zze => first | with_reducible rfl | assumption | exact Eq.symm (tab4_get (by assumption))))))
    | (with_reducible refine hZ3 _ _ ?_; clear hZ3; (try clear Qz); (try dsimp only)) | (with_reducible refine hZ1 _ ?_; clear hZ1 hZ2; (try clear Qz Ez); (try dsimp only)) | (with_reducible refine hZ2 _ _ ?_; clear hZ1 hZ2; (try clear Qz Ez); (try dsimp only))
    | ((with_reducible show wpAny _ _ (eval _ _) _ _ _); first
          | ((with_reducible show wpAny _ _ (eval (Expr.Name _ _) _) _ _ _); (k_here; (fail_if_success (with_reducible show wpAny _ _ (eval (Expr.Name _ _) (compEnvC _ _ _ _)) _ _ _)); k_dflt (first | (refine' nameX_L ?zzF ?zzhv ?_ ?zzhk ?zzhx ?zzhd; (case zzhx => exact rfl); (case zzhk => exact rfl); (case zzhd => decide); (case zzF => k_asm); (case zzhv => exact rfl); k_whole) | (refine' nameX_K ?zzF ?zzX ?zzT ?zze ?_ ?zzhk ?zzhx ?zzhd; (case zzhx => exact rfl); (case zzhk => exact rfl); (case zzhd => decide); (case zzF => k_asm); (case zzX => with_reducible assumption); (case zzT => exact topRead_of (by with_reducible assumption)); (case zze => k_is); k_whole) | (refine' nameX_B ?zzF ?zzX ?zzT ?zze ?zzv ?zzzn ?_ ?zzhk ?zzhx ?zzhd; (case zzhx => exact rfl); (case zzhk => exact rfl); (case zzhd => decide); (case zzF => k_asm); (case zzX => with_reducible assumption); (case zzT => exact topRead_of (by with_reducible assumption)); (case zze => k_is); (case zzv => boot_fast); (case zzzn => decide); k_whole) | (refine' nameX_F ?zzN ?zzc ?zzm ?zzd ?_ ?zzhk ?zzhx ?zzhb ?zzhn; (case zzhx => exact rfl); (case zzhk => exact rfl); (case zzhb => decide); (case zzhn => decide); (case zzN => k_asm); (case zzc => rfl); (case zzm => k_mem); (case zzd => k_asm); k_whole) | (refine' nameX_C ?zzN ?zzc ?zzm ?zzd ?_ ?zzhk ?zzhx ?zzhb; (case zzhx => exact rfl); (case zzhk => exact rfl); (case zzhb => decide); (case zzN => k_asm); (case zzc => rfl); (case zzm => k_mem); (case zzd => k_asm); k_whole)))))
    | ((with_reducible show wpAny _ _ (binaryOp _ _ _) _ _ _); first
          | ((with_reducible show wpAny _ _ (binaryOp Operator.LShift _ _) _ _ _); (with_reducible refine lshift5_is (by omega) (by omega) ?_))
          | ((with_reducible show wpAny _ _ (binaryOp Operator.RShift _ _) _ _ _); first | (with_reducible refine rshift1_is (k := 1) (by omega) (by omega) (by omega) ?_) | (with_reducible refine rshift1_is (k := 2) (by omega) (by omega) (by omega) ?_) | (with_reducible refine rshift5_is (by omega) ?_; intro q5 r5 e5 r50 r51)))
    | ((with_reducible show wpAny _ _ (execs _ _) _ _ _); first
          | (((with_reducible rename Fr _ _ _ (fun y => List.lookup y _) => Fz); refine' canon0 Fz ?zze ?_; (case zze => first | exact @rfl _ [(_, _)] | exact @rfl _ [(_, _), (_, _)] | exact @rfl _ [(_, _), (_, _), (_, _)] | exact @rfl _ [(_, _), (_, _), (_, _), (_, _)]); clear Fz; intro F'))
          | (((with_reducible rename Fr _ _ _ (fun y => if y = _ then some _ else look _ y) => Fz); refine' canon Fz ?zze ?_; (case zze => first | exact @rfl _ [(_, _)] | exact @rfl _ [(_, _), (_, _)] | exact @rfl _ [(_, _), (_, _), (_, _)] | exact @rfl _ [(_, _), (_, _), (_, _), (_, _)] | exact @rfl _ [(_, _), (_, _), (_, _), (_, _), (_, _)] | exact @rfl _ [(_, _), (_, _), (_, _), (_, _), (_, _), (_, _)] | exact @rfl _ [(_, _), (_, _), (_, _), (_, _), (_, _), (_, _), (_, _)] | exact @rfl _ [(_, _), (_, _), (_, _), (_, _), (_, _), (_, _), (_, _), (_, _)] | exact @rfl _ [(_, _), (_, _), (_, _), (_, _), (_, _), (_, _), (_, _), (_, _), (_, _)] | exact @rfl _ [(_, _), (_, _), (_, _), (_, _), (_, _), (_, _), (_, _), (_, _), (_, _), (_, _)] | exact @rfl _ [(_, _), (_, _), (_, _), (_, _), (_, _), (_, _), (_, _), (_, _), (_, _), (_, _), (_, _)] | exact @rfl _ [(_, _), (_, _), (_, _), (_, _), (_, _), (_, _), (_, _), (_, _), (_, _), (_, _), (_, _), (_, _)]); clear Fz; intro F'))
          | ((fail_if_success (with_reducible show wpAny _ _ (execs (Stmt.For _ _ _ _ _ :: _) _) _ _ _)); (try k_gentoks); with_reducible refine execs_cut ?_; intro Qz Ez hZ1 hZ2))
    | ((with_reducible show wpAny _ _ _ _ _ _); (fail_if_success (with_reducible show wpAny _ _ (eval _ _) _ _ _)); (fail_if_success (with_reducible show wpAny _ _ (execs _ _) _ _ _)); first
          | ((with_reducible show wpAny _ _ (subscriptTail _ _ _ _) _ _ _); (k_here; (with_reducible show wpAny _ _ (subscriptTail _ _ (Value.ref _) (Value.int _ _)) _ _ _); k_dflt (first | ((refine' at_list 0 ?zzk0 ?zzkz ?zzk1 ?zzk4 ?_ ?zzk6); (case zzk0 => omega); (case zzkz => decide); (case zzk1 => is_list); (case zzk4 => exact rfl); (case zzk6 => with_unfolding_all rfl); k_whole) | ((refine' at_list 1 ?zzk0 ?zzkz ?zzk1 ?zzk4 ?_ ?zzk6); (case zzk0 => omega); (case zzkz => decide); (case zzk1 => is_list); (case zzk4 => exact rfl); (case zzk6 => with_unfolding_all rfl); k_whole) | ((refine' at_list 2 ?zzk0 ?zzkz ?zzk1 ?zzk4 ?_ ?zzk6); (case zzk0 => omega); (case zzkz => decide); (case zzk1 => is_list); (case zzk4 => exact rfl); (case zzk6 => with_unfolding_all rfl); k_whole) | ((refine' at_list 3 ?zzk0 ?zzkz ?zzk1 ?zzk4 ?_ ?zzk6); (case zzk0 => omega); (case zzkz => decide); (case zzk1 => is_list); (case zzk4 => exact rfl); (case zzk6 => with_unfolding_all rfl); k_whole)); (try dsimp only)))
          | ((with_reducible show wpAny _ _ (storeName _ _ _) _ _ _); (k_here; k_dflt (refine' storeX_L ?zzF ?zzN ?_ ?zzhk ?zzhx; (case zzhx => exact rfl); (case zzhk => exact rfl); (case zzF => k_asm); (case zzN => k_asm); k_whole; intro h' F' N'; (try k_sweep)))))
    | walk1
    | (dsimp only; walk1))
  all_goals (
    refine hret (.int _ _) _ _ ?ext ⟨_, _, rfl⟩
    exact ext_end N (by assumption) (by assumption) (by assumption) (by (repeat' first | assumption | exact sub_refl | refine' sub_tail ?_)))
end Mine

namespace Mine
theorem i2d {w : World} {n : Int} {t t' : Tok} (hn0 : 0 ≤ n) (hn1 : n < 4096) : Tell w 8 42 [] [.int n t, .int 5 t'] (LSome (DigOf n)) := by
  rcases (by omega : n < 1 ∨ (1 ≤ n ∧ n < 32) ∨ (32 ≤ n ∧ n < 1024) ∨ 1024 ≤ n) with h | h | h | h
  · exact i2d_0 hn0 h
  · exact i2d_1 h.1 h.2
  · exact i2d_2 h.1 h.2
  · exact i2d_3 h hn1
theorem d2i {w : World} {D : Addr} {c : Nat} {qs : List Value} {zs : List Int} {t' : Tok} (h : IntsAre qs zs) (hz : Digs zs) (hl : zs.length ≤ 3) : Tell w 8 49 [(D, listOf qs.toArray c)] [.ref D, .int 5 t'] (fun _ _ v => ∃ (x : Int) (t : Tok), v = .int x t) := by
  match zs, h, hz, hl with
  | [], h, _, _ =>
    obtain rfl := IntsAre.nil_inv h
    exact d2i_0
  | [a], h, hz, _ =>
    obtain ⟨u0, w0, rfl, i0⟩ := IntsAre.cons_inv h
    obtain rfl := IntsAre.nil_inv i0
    exact d2i_1 (hz _ (.head _))
  | [a, b], h, hz, _ =>
    obtain ⟨u0, w0, rfl, i0⟩ := IntsAre.cons_inv h
    obtain ⟨u1, w1, rfl, i1⟩ := IntsAre.cons_inv i0
    obtain rfl := IntsAre.nil_inv i1
    exact d2i_2 (hz _ (.head _)) (hz _ (.tail _ (.head _)))
  | [a, b, c], h, hz, _ =>
    obtain ⟨u0, w0, rfl, i0⟩ := IntsAre.cons_inv h
    obtain ⟨u1, w1, rfl, i1⟩ := IntsAre.cons_inv i0
    obtain ⟨u2, w2, rfl, i2⟩ := IntsAre.cons_inv i1
    obtain rfl := IntsAre.nil_inv i2
    exact d2i_3 (hz _ (.head _)) (hz _ (.tail _ (.head _))) (hz _ (.tail _ (.tail _ (.head _))))
  | a :: b :: c :: d :: l, _, _, hl => simp at hl
end Mine

namespace Mine

set_option maxRecDepth 100000 in
theorem dm_turn {w : World} {p : Program} {loose : List Str} {mean : ExcName → Option Value} {mg mb : Str → Option Value} {c1 c2 : Addr} {o1 o2 : Obj} {vs1 vs2 : Array Value} {t1 t2 : Tok} {dp un : Nat} {cn : Str} {cs : Scope} {a fa : Addr} {ccd fcd : Value} {cl : List (Str × Addr)} {outer : List Env} {base g h : Heap} {L₀ L : Addr} {m : Str → Option Value} {I0 Dq : Addr} {i0 : Obj} {qs : List Value} {cq : Nat} {tau : List (Addr × Obj)} {s : Shared} {tk : Nat} {Q : Flow → Shared → Prop} {E : Value → Shared → Prop}
    (B : Below (ktrTop dp un (some []) cn cs L₀ a ccd cl outer) base (envX cn cs L₀ a ccd cl :: outer) g) (F : Fr g L h m) (X : (hd.heap_39 w.params).In g) (N : News g L h ((I0, i0) :: (Dq, listOf qs.toArray cq) :: tau)) (T : Top p loose mean mg mb g)
    (hd1 : o1.data = .fields vs1) (hv1 : vs1[1]? = some (.str (Str.ofString "_int2digits.<locals>.inner") t1)) (hd2 : o2.data = .fields vs2) (hv2 : vs2[1]? = some (.str (Str.ofString "_digits2int.<locals>.inner") t2))
    (M : ∀ q ∈ tabs c1 c2 o1 o2, q ∈ tau) (hdp : dp + 10 < recursionLimit) (hun : un + 8 * 10 < cLine)
    {R d : Int} {tR td tb tn : Tok} (m1 : m (Str.ofString "b") = some (.int 17 tb)) (m2 : m (Str.ofString "n") = some (.int 5 tn)) (m3 : m (Str.ofString "q_digits") = some (.ref Dq)) (m4 : m (Str.ofString "r") = some (.int R tR)) (m5 : m (Str.ofString "a_digit") = some (.int d td))
    (hR : 0 ≤ R ∧ R < 17) (hd : 0 ≤ d ∧ d < 32) (hz : qs.length ≤ 50) (ID : I0 ≠ Dq) (off : ∀ p ∈ tau, p.1 ≠ Dq)
    (hQ : ∀ (q R' : Int) (u u' : Tok) (c' : Nat) (m' : Str → Option Value) (h' : Heap) (tk' : Nat), 0 ≤ q ∧ q < 32 → 0 ≤ R' ∧ R' < 17 → R' = (R * 32 + d) % 17 → m' (Str.ofString "b") = some (.int 17 tb) → m' (Str.ofString "n") = some (.int 5 tn) → m' (Str.ofString "q_digits") = some (.ref Dq) → m' (Str.ofString "r") = some (.int R' u') →
      Fr g L h' m' → News g L h' ((I0, i0) :: (Dq, listOf (qs ++ [Value.int q u]).toArray c') :: tau) → Q .next { s with heap := h', toks := tk' }) :
    wpAny (model PySem.Challenge.rw_hm0003_01.row.prog w) ((ktrTop dp un (some []) cn cs L₀ a ccd cl outer).deeper (envOf (Str.ofString "_divmod_pos") (scopeOf (Str.ofString "_divmod_pos")) L fa fcd)) (execs (forBody ((bodyOf (Str.ofString "_divmod_pos")).drop 4)) (envOf (Str.ofString "_divmod_pos") (scopeOf (Str.ofString "_divmod_pos")) L fa fcd)) Q E { s with heap := h, toks := tk } := by
  have hs : scopeOf (Str.ofString "_divmod_pos") = scopeOf (Str.ofString "_divmod_pos") := rfl
  conv at hs => rhs; whnf
  have hb : forBody ((bodyOf (Str.ofString "_divmod_pos")).drop 4) = forBody ((bodyOf (Str.ofString "_divmod_pos")).drop 4) := rfl
  conv at hb => rhs; whnf
  rw [hs, hb]
  clear hs hb
  revert X; k_fill; intro X
  repeat' (first
    | (k_unfold; (try dsimp only))
    | ((with_reducible show EltEnd _ _ _ _ _ _ _ _); (first | (refine' elt_end ?zzF ?zzN ?zze; (case zzF => assumption); (case zzN => assumption); (case zze => first | with_reducible rfl | assumption | exact Eq.symm (tab4_get (by assumption)))) | (refine' eltEnd ?zzF ?zzN ?zzS ?zze; (case zzF => assumption); (case zzN => assumption); (case zzS => (repeat' first | assumption | exact sub_refl | refine' sub_tail ?_)); (case zze => first | with_reducible rfl | assumption | exact Eq.symm (tab4_get (by assumption))))))
    | (with_reducible refine hZ3 _ _ ?_; clear hZ3; (try clear Qz); (try dsimp only)) | (with_reducible refine hZ1 _ ?_; clear hZ1 hZ2; (try clear Qz Ez); (try dsimp only)) | (with_reducible refine hZ2 _ _ ?_; clear hZ1 hZ2; (try clear Qz Ez); (try dsimp only))
    | ((with_reducible show wpAny _ _ (eval _ _) _ _ _); first
          | ((with_reducible show wpAny _ _ (eval (Expr.Name _ _) _) _ _ _); (k_here; (fail_if_success (with_reducible show wpAny _ _ (eval (Expr.Name _ _) (compEnvC _ _ _ _)) _ _ _)); k_dflt (first | (refine' nameX_L ?zzF ?zzhv ?_ ?zzhk ?zzhx ?zzhd; (case zzhx => exact rfl); (case zzhk => exact rfl); (case zzhd => decide); (case zzF => k_asm); (case zzhv => first | exact rfl | assumption); k_whole) | (refine' nameX_K ?zzF ?zzX ?zzT ?zze ?_ ?zzhk ?zzhx ?zzhd; (case zzhx => exact rfl); (case zzhk => exact rfl); (case zzhd => decide); (case zzF => k_asm); (case zzX => with_reducible assumption); (case zzT => exact topRead_of (by with_reducible assumption)); (case zze => k_is); k_whole) | (refine' nameX_B ?zzF ?zzX ?zzT ?zze ?zzv ?zzzn ?_ ?zzhk ?zzhx ?zzhd; (case zzhx => exact rfl); (case zzhk => exact rfl); (case zzhd => decide); (case zzF => k_asm); (case zzX => with_reducible assumption); (case zzT => exact topRead_of (by with_reducible assumption)); (case zze => k_is); (case zzv => boot_fast); (case zzzn => decide); k_whole) | (refine' nameX_F ?zzN ?zzc ?zzm ?zzd ?_ ?zzhk ?zzhx ?zzhb ?zzhn; (case zzhx => exact rfl); (case zzhk => exact rfl); (case zzhb => decide); (case zzhn => decide); (case zzN => k_asm); (case zzc => rfl); (case zzm => k_mem); (case zzd => k_asm); k_whole) | (refine' nameX_C ?zzN ?zzc ?zzm ?zzd ?_ ?zzhk ?zzhx ?zzhb; (case zzhx => exact rfl); (case zzhk => exact rfl); (case zzhb => decide); (case zzN => k_asm); (case zzc => rfl); (case zzm => k_mem); (case zzd => k_asm); k_whole)))))
    | ((with_reducible show wpAny _ _ (call _ _ _) _ _ _); first
          | ((with_reducible show wpAny _ _ (call (Value.builtin "list.append") _ _) _ _ _); k_here; k_dflt (refine' append_K ?zzk1 ?zzk2 ?zzk3 ?_ ?zzz; (case zzk1 => k_asm); (case zzk2 => k_asm); (case zzk3 => k_upd); (case zzz => first | (rw [PySem.sizeLine_eq]; exact Nat.le_of_ble_eq_true rfl) | (rw [PySem.sizeLine_eq]; (try simp only [List.size_toArray]); omega)); k_whole); intro h' F' N'; (try k_sweep))
          | ((with_reducible show wpAny _ _ (call (Value.ref _) _ _) _ _ _); ((with_reducible show wpAny _ _ (call (Value.ref 28) _ _) _ _ _); (refine' Tell.pair (d21 ?zzkn0 ?zzkn1) ?zzk1 ?zzk2 ?zzk3 ?zzk4 ?zzk5 ?zzkK ?zzv2 ?zzv1 ?zzv4 ?zzv3 ?zzkM ?zzkd ?zzku ?_; (case zzkK => exact rfl); (case zzk1 => k_asm); (case zzk2 => k_asm); (case zzk3 => k_asm); (case zzk4 => k_asm); (case zzk5 => k_asm); (case zzv2 => assumption); (case zzv1 => assumption); (case zzv4 => assumption); (case zzv3 => assumption); (case zzkM => (repeat' first | assumption | exact sub_refl | refine' sub_tail ?_)); (case zzkd => k_room); (case zzku => ktr_units); (all_goals try omega)); intro zD zq zr zu1 zu2 h' tk' zP F' N' l1 zL; (replace l1 := allLt_of l1; (try dsimp only [AllLt] at l1)); (try dsimp only); (try k_sweep))))
    | ((with_reducible show wpAny _ _ (binaryOp _ _ _) _ _ _); first
          | ((with_reducible show wpAny _ _ (binaryOp Operator.LShift _ _) _ _ _); (with_reducible refine lshift5_is (by omega) (by omega) ?_)))
    | ((with_reducible show wpAny _ _ (execs _ _) _ _ _); first
          | ((fail_if_success (with_reducible show wpAny _ _ (execs (Stmt.For _ _ _ _ _ :: _) _) _ _ _)); (try k_gentoks); with_reducible refine execs_cut ?_; intro Qz Ez hZ1 hZ2))
    | ((with_reducible show wpAny _ _ _ _ _ _); (fail_if_success (with_reducible show wpAny _ _ (eval _ _) _ _ _)); (fail_if_success (with_reducible show wpAny _ _ (execs _ _) _ _ _)); first
          | ((with_reducible show wpAny _ _ (callWith _ (Value.ref _) _ _ _) _ _ _); (k_here; k_dflt (refine' callWith_K ?zzk1 ?zzk2 ?_; (case zzk1 => with_reducible assumption); (case zzk2 => k_is); k_whole)))
          | ((with_reducible show wpAny _ _ (storeName _ _ _) _ _ _); (k_here; k_dflt (refine' storeX_L ?zzF ?zzN ?_ ?zzhk ?zzhx; (case zzhx => exact rfl); (case zzhk => exact rfl); (case zzF => k_asm); (case zzN => k_asm); k_whole; intro h' F' N'; (try k_sweep)))))
    | walk1
    | (dsimp only; walk1))
  rename News _ _ _ _ => N'
  rw [List.push_toArray] at N'
  refine' hQ _ ?zR _ ?zu' _ ?zm _ _ ?q0 ?r0 ?re ?e1 ?e2 ?e3 ?e4 ?F (news_sub N' (sub_tail sub_refl))
  case F => assumption
  case e1 => exact m1
  case e2 => exact m2
  case e3 => exact m3
  case e4 => exact rfl
  case q0 => omega
  case r0 => omega
  case re => omega
end Mine

namespace Mine

set_option maxRecDepth 100000 in
theorem dm_loop {w : World} {p : Program} {loose : List Str} {mean : ExcName → Option Value} {mg mb : Str → Option Value} {c1 c2 : Addr} {o1 o2 : Obj} {vs1 vs2 : Array Value} {t1 t2 : Tok} {dp un : Nat} {cn : Str} {cs : Scope} {a fa : Addr} {ccd fcd : Value} {cl : List (Str × Addr)} {outer : List Env} {base g : Heap} {L₀ L : Addr} {tau : List (Addr × Obj)} {s : Shared} {I Dq : Addr} {lp : Addr × Obj} {Q : Flow → Shared → Prop} {E : Value → Shared → Prop}
    (B : Below (ktrTop dp un (some []) cn cs L₀ a ccd cl outer) base (envX cn cs L₀ a ccd cl :: outer) g) (X : (hd.heap_39 w.params).In g) (T : Top p loose mean mg mb g)
    (hd1 : o1.data = .fields vs1) (hv1 : vs1[1]? = some (.str (Str.ofString "_int2digits.<locals>.inner") t1)) (hd2 : o2.data = .fields vs2) (hv2 : vs2[1]? = some (.str (Str.ofString "_digits2int.<locals>.inner") t2))
    (M : ∀ q ∈ tabs c1 c2 o1 o2, q ∈ tau) (hdp : dp + 10 < recursionLimit) (hun : un + 8 * 10 < cLine)
    {tb tn : Tok} (off : ∀ p ∈ tau, p.1 ≠ Dq) (offI : ∀ p ∈ tau, p.1 ≠ I) (DI : Dq ≠ I) (hlp : lp ∈ tau) :
    ∀ (r : List Value) (rs zs : List Int) (qs : List Value) (cq : Nat) (R : Int) (tR : Tok) (m : Str → Option Value), IntsAre r rs → Digs rs → IntsAre qs zs → Digs zs → qs.length + r.length ≤ 50 → 0 ≤ R ∧ R < 17 →
      m (Str.ofString "b") = some (.int 17 tb) → m (Str.ofString "n") = some (.int 5 tn) → m (Str.ofString "q_digits") = some (.ref Dq) → m (Str.ofString "r") = some (.int R tR) →
      (∀ (m' : Str → Option Value) (qs' : List Value) (zs' : List Int) (c' : Nat) (u : Tok) (h : Heap) (tk : Nat), IntsAre qs' zs' → Digs zs' → zs'.length = zs.length + rs.length → m' (Str.ofString "n") = some (.int 5 tn) → m' (Str.ofString "q_digits") = some (.ref Dq) → m' (Str.ofString "r") = some (.int (hor R rs) u) →
        Fr g L h m' → News g L h ((Dq, listOf qs'.toArray c') :: tau) → Q .next { s with heap := h, toks := tk }) →
      RevRest PySem.Challenge.rw_hm0003_01.row.prog w ((ktrTop dp un (some []) cn cs L₀ a ccd cl outer).deeper (envOf (Str.ofString "_divmod_pos") (scopeOf (Str.ofString "_divmod_pos")) L fa fcd)) E g (envOf (Str.ofString "_divmod_pos") (scopeOf (Str.ofString "_divmod_pos")) L fa fcd) (Str.ofString "a_digit") (forBody ((bodyOf (Str.ofString "_divmod_pos")).drop 4)) Q s I lp r m ((Dq, listOf qs.toArray cq) :: tau) := by
  intro r
  induction r with
  | nil =>
    intro rs zs qs cq R tR m hr hd hq hz hl hR m1 m2 m3 m4 fin
    cases hr
    exact fun h tk F N => fin m qs zs cq tR h tk hq hz rfl m2 m3 m4 F N
  | cons v r ih =>
    intro rs zs qs cq R tR m hr hd hq hz hl hR m1 m2 m3 m4 fin
    obtain ⟨d, td, rs', rfl, rfl, hr'⟩ : ∃ d td rs', v = .int d td ∧ rs = d :: rs' ∧ IntsAre r rs' := by
      cases hr with
      | cons d td h => exact ⟨d, td, _, rfl, rfl, h⟩
    refine RevRest.succ fun it h tk hit F N => ?_
    refine dm_turn B F X N T hd1 hv1 hd2 hv2 M hdp hun (m := fun y => if y = (Str.ofString "a_digit") then some (.int d td) else m y) (tb := tb) (tn := tn) m1 m2 m3 m4 rfl hR (hd d (.head _)) (by simp only [List.length_cons] at hl; omega) (Ne.symm DI) off ?_
    intro q R' u u' c' m' h' tk' q0 R0 eR e1 e2 e3 e4 F' N'
    refine ⟨h', tk', m', _, rfl, F', N', ?_, ?_, ih rs' (zs ++ [q]) (qs ++ [.int q u]) c' R' u' m' hr' (fun x hx => hd x (.tail _ hx)) (ints_snoc hq) ?_ ?_ R0 e1 e2 e3 e4 fun m2' qs' zs' c2' u2 h2 tk2 g1 g2 g3 g4 g5 g6 F2 N2 => fin m2' qs' zs' c2' u2 h2 tk2 g1 g2 ?_ g4 g5 ?_ F2 N2⟩
    · exact all_cons DI offI
    · exact .tail _ hlp
    · intro x hx
      rcases List.mem_append.mp hx with hx | hx
      · exact hz x hx
      · obtain rfl := List.mem_singleton.mp hx
        exact q0
    · simp only [List.length_cons, List.length_append, List.length_nil] at hl ⊢
      omega
    · rw [g3, List.length_append, List.length_cons, List.length_cons, List.length_nil]
      omega
    · rw [g6, eR]
      rfl
end Mine

namespace Mine

set_option maxRecDepth 100000 in
theorem dpos {w : World} {n : Int} {t zt17 : Tok} (hn0 : 0 ≤ n) (hn1 : n < 4096) : Tell w 12 56 [] [.int n t, .int 17 zt17] (PPost fun q r => r = n % 17) := by
  intro p loose mean mg mb c1 c2 o1 o2 vs1 vs2 t1 t2 dp un cn cs a ccd cl outer A₀ base h₀ L m s Q E hd1 hv1 hd2 hv2 B F X N T hk hdp hun hret
  generalize htau : tabs c1 c2 o1 o2 = tau at N
  have M : ∀ q ∈ tabs c1 c2 o1 o2, q ∈ tau := htau ▸ sub_refl
  clear htau
  revert X; k_fill; intro X
  refine wpAny_call ?_
  (refine' enter_all ?zzk1 ?zzk2 ?zzk3 ?zzk4 ?zzk5 ?zzkA ?zzkF ?zzkK ?zzk6 ?zzk7 ?zzk8 ?zzk9 ?zzkB ?_ ?zzc2 ?zzc3 ?zzc4 ?zzc5; (case zzkA => exact rfl); (case zzkF => exact rfl); (case zzkK => first | exact rfl | assumption); (case zzk1 => k_asm); (case zzk2 => k_asm); (case zzk3 => k_asm); (case zzk4 => k_asm); (case zzk5 => k_asm); (case zzk6 => k_is); (case zzk7 => k_is); (case zzk8 => k_room); (case zzk9 => exact BindsTo.of_eq rfl); (case zzc5 => decide); (case zzkB => exact locs rfl); (case zzc2 => exact rfl); (case zzc3 => exact rfl); (case zzc4 => exact rfl); k_whole; intro g' L' h' hext hLs hLL FG' F' N' B' X' T' l1; (try dsimp only [tabs, List.nil_append, List.cons_append] at N' l1); (try dsimp only); (try (replace l1 := allLt_of l1; (try dsimp only [AllLt] at l1))); (try k_lt2 hLL); (try k_fold))
  repeat' (first
    | (k_unfold; (try dsimp only))
    | ((with_reducible show EltEnd _ _ _ _ _ _ _ _); (first | (refine' elt_end ?zzF ?zzN ?zze; (case zzF => assumption); (case zzN => assumption); (case zze => first | with_reducible rfl | assumption | exact Eq.symm (tab4_get (by assumption)))) | (refine' eltEnd ?zzF ?zzN ?zzS ?zze; (case zzF => assumption); (case zzN => assumption); (case zzS => (repeat' first | assumption | exact sub_refl | refine' sub_tail ?_)); (case zze => first | with_reducible rfl | assumption | exact Eq.symm (tab4_get (by assumption))))))
    | (with_reducible refine hZ3 _ _ ?_; clear hZ3; (try clear Qz); (try dsimp only)) | (with_reducible refine hZ1 _ ?_; clear hZ1 hZ2; (try clear Qz Ez); (try dsimp only)) | (with_reducible refine hZ2 _ _ ?_; clear hZ1 hZ2; (try clear Qz Ez); (try dsimp only))
    | ((with_reducible show wpAny _ _ (eval _ _) _ _ _); first
          | (((first | (with_reducible show wpAny _ _ (eval (Expr.Call _ _ _ _) _) _ _ _) | (with_reducible show wpAny _ _ (eval (Expr.BinOp _ _ _ _) _) _ _ _) | (with_reducible show wpAny _ _ (eval (Expr.Tuple _ _ _) _) _ _ _) | (with_reducible show wpAny _ _ (eval (Expr.List _ _ _) _) _ _ _) | (with_reducible show wpAny _ _ (eval (Expr.Subscript _ _ _) _) _ _ _) | (with_reducible show wpAny _ _ (eval (Expr.Compare _ _ _ _) _) _ _ _)); with_reducible refine cutQ ?_; intro Qz hZ3))
          | ((with_reducible show wpAny _ _ (eval (Expr.Name _ _) _) _ _ _); (k_here; (fail_if_success (with_reducible show wpAny _ _ (eval (Expr.Name _ _) (compEnvC _ _ _ _)) _ _ _)); k_dflt (first | (refine' nameX_L ?zzF ?zzhv ?_ ?zzhk ?zzhx ?zzhd; (case zzhx => exact rfl); (case zzhk => exact rfl); (case zzhd => decide); (case zzF => k_asm); (case zzhv => first | exact rfl | assumption); k_whole) | (refine' nameX_K ?zzF ?zzX ?zzT ?zze ?_ ?zzhk ?zzhx ?zzhd; (case zzhx => exact rfl); (case zzhk => exact rfl); (case zzhd => decide); (case zzF => k_asm); (case zzX => with_reducible assumption); (case zzT => exact topRead_of (by with_reducible assumption)); (case zze => k_is); k_whole) | (refine' nameX_B ?zzF ?zzX ?zzT ?zze ?zzv ?zzzn ?_ ?zzhk ?zzhx ?zzhd; (case zzhx => exact rfl); (case zzhk => exact rfl); (case zzhd => decide); (case zzF => k_asm); (case zzX => with_reducible assumption); (case zzT => exact topRead_of (by with_reducible assumption)); (case zze => k_is); (case zzv => boot_fast); (case zzzn => decide); k_whole) | (refine' nameX_F ?zzN ?zzc ?zzm ?zzd ?_ ?zzhk ?zzhx ?zzhb ?zzhn; (case zzhx => exact rfl); (case zzhk => exact rfl); (case zzhb => decide); (case zzhn => decide); (case zzN => k_asm); (case zzc => rfl); (case zzm => k_mem); (case zzd => k_asm); k_whole) | (refine' nameX_C ?zzN ?zzc ?zzm ?zzd ?_ ?zzhk ?zzhx ?zzhb; (case zzhx => exact rfl); (case zzhk => exact rfl); (case zzhb => decide); (case zzN => k_asm); (case zzc => rfl); (case zzm => k_mem); (case zzd => k_asm); k_whole)))))
    | ((with_reducible show wpAny _ _ (call _ _ _) _ _ _); first
          | ((with_reducible show wpAny _ _ (call (Value.builtin _) _ _) _ _ _); (k_here; (with_reducible show wpAny _ _ (call (Value.builtin _) [Value.ref _]) _ _ _); k_dflt (refine' kl_reverse ?zzF ?zzN rfl ?zzU ?zzz ?_; (case zzF => k_asm); (case zzN => k_asm); (case zzU => k_upd); (case zzz => (rw [PySem.sizeLine_eq, List.toList_toArray, len_ints hq9]; omega))); intro h' F' N'; (try k_sweep)))
          | ((with_reducible show wpAny _ _ (call (Value.ref _) _ _) _ _ _); ((with_reducible show wpAny _ _ (call (Value.ref 49) _ _) _ _ _); (refine' Tell.int1 (d2i (ints_rev hq9) (digs_rev hz9) ?zzkl) ?zzk1 ?zzk2 ?zzk3 ?zzk4 ?zzk5 ?zzkK ?zzv2 ?zzv1 ?zzv4 ?zzv3 ?zzkM ?zzkd ?zzku ?zzkm ?_; (case zzkK => exact rfl); (case zzk1 => k_asm); (case zzk2 => k_asm); (case zzk3 => k_asm); (case zzk4 => k_asm); (case zzk5 => k_asm); (case zzv2 => assumption); (case zzv1 => assumption); (case zzv4 => assumption); (case zzv3 => assumption); (case zzkM => (repeat' first | assumption | exact sub_refl | refine' sub_tail ?_)); (case zzkd => k_room); (case zzku => ktr_units); (case zzkm => k_mem); (case zzkl => (rw [List.length_reverse]; exact hl9))); intro zx zt h' tk' F' N'; (try k_sweep)))
          | ((with_reducible show wpAny _ _ (call (Value.ref _) _ _) _ _ _); ((with_reducible show wpAny _ _ (call (Value.ref 42) _ _) _ _ _); (refine' Tell.lists (i2d hn0 hn1) ?zzk1 ?zzk2 ?zzk3 ?zzk4 ?zzk5 ?zzkK ?zzv2 ?zzv1 ?zzv4 ?zzv3 ?zzkM ?zzkd ?zzku ?_; (case zzkK => exact rfl); (case zzk1 => k_asm); (case zzk2 => k_asm); (case zzk3 => k_asm); (case zzk4 => k_asm); (case zzk5 => k_asm); (case zzv2 => assumption); (case zzv1 => assumption); (case zzv4 => assumption); (case zzv3 => assumption); (case zzkM => (repeat' first | assumption | exact sub_refl | refine' sub_tail ?_)); (case zzkd => k_room); (case zzku => ktr_units)); intro zD ds zys zc h' tk' hds hys F' N' l1 zL; (replace l1 := allLt_of l1; (try dsimp only [AllLt] at l1)); (try dsimp only); (try k_sweep)))
          | ((with_reducible show wpAny _ _ (call (Value.builtin _) _ _) _ _ _); first | (with_reducible refine bits17_is ?_) | (with_reducible refine bits_is (by with_reducible assumption) ?_) | (with_reducible refine bits_le (by omega) (by omega) ?_; intro nb' hnb')))
    | ((with_reducible show wpAny _ _ (execs _ _) _ _ _); first
          | (((with_reducible rename Fr _ _ _ (fun y => List.lookup y _) => Fz); refine' canon0 Fz ?zze ?_; (case zze => first | exact @rfl _ [(_, _)] | exact @rfl _ [(_, _), (_, _)] | exact @rfl _ [(_, _), (_, _), (_, _)] | exact @rfl _ [(_, _), (_, _), (_, _), (_, _)]); clear Fz; intro F'))
          | (((with_reducible rename Fr _ _ _ (fun y => if y = _ then some _ else look _ y) => Fz); refine' canon Fz ?zze ?_; (case zze => first | exact @rfl _ [(_, _)] | exact @rfl _ [(_, _), (_, _)] | exact @rfl _ [(_, _), (_, _), (_, _)] | exact @rfl _ [(_, _), (_, _), (_, _), (_, _)] | exact @rfl _ [(_, _), (_, _), (_, _), (_, _), (_, _)] | exact @rfl _ [(_, _), (_, _), (_, _), (_, _), (_, _), (_, _)] | exact @rfl _ [(_, _), (_, _), (_, _), (_, _), (_, _), (_, _), (_, _)] | exact @rfl _ [(_, _), (_, _), (_, _), (_, _), (_, _), (_, _), (_, _), (_, _)] | exact @rfl _ [(_, _), (_, _), (_, _), (_, _), (_, _), (_, _), (_, _), (_, _), (_, _)] | exact @rfl _ [(_, _), (_, _), (_, _), (_, _), (_, _), (_, _), (_, _), (_, _), (_, _), (_, _)] | exact @rfl _ [(_, _), (_, _), (_, _), (_, _), (_, _), (_, _), (_, _), (_, _), (_, _), (_, _), (_, _)] | exact @rfl _ [(_, _), (_, _), (_, _), (_, _), (_, _), (_, _), (_, _), (_, _), (_, _), (_, _), (_, _), (_, _)]); clear Fz; intro F'))
          | ((fail_if_success (with_reducible show wpAny _ _ (execs (Stmt.For _ _ _ _ _ :: _) _) _ _ _)); (try k_gentoks); with_reducible refine execs_cut ?_; intro Qz Ez hZ1 hZ2))
    | ((with_reducible show wpAny _ _ _ _ _ _); (fail_if_success (with_reducible show wpAny _ _ (eval _ _) _ _ _)); (fail_if_success (with_reducible show wpAny _ _ (execs _ _) _ _ _)); first
          | ((with_reducible show wpAny _ _ (pyIter _) _ _ _); ((with_reducible show wpAny _ _ (pyIter (Value.ref _)) (fun it s₂ => LoopAtV _ _ _ _ _ _ _ _ _ it s₂) _ _); (refine iter_revUnr (lo := listOf zys.toArray zc) (vs := zys) (n := zc) rfl (by assumption) (by assumption) (off_all (by k_all)) (by k_mem) rfl rfl ?_); (refine' dm_loop (tb := zt17) (tn := ?zztn) (by assumption) (by assumption) (by assumption) hd1 hv1 hd2 hv2 ?zzM ?zzhdp ?zzhun ?zzoff ?zzoffI ?zzDI ?zzhlp _ _ _ _ _ 0 _ _ (ints_rev hys) (digs_rev hds.1) .nil (fun _ h => nomatch h) ?zzhl ⟨by decide, by decide⟩ ?zze1 ?zze2 ?zze3 ?zze4 ?_; (case zze1 => exact rfl); (case zze2 => exact rfl); (case zze3 => exact rfl); (case zze4 => exact rfl); (case zzM => (repeat' first | assumption | exact sub_refl | refine' sub_tail ?_)); (case zzhdp => omega); (case zzhun => omega); (case zzoff => k_all); (case zzoffI => k_all); (case zzDI => k_ne); (case zzhlp => k_mem); (case zzhl => (rw [List.length_reverse, len_ints hys]; exact Nat.le_trans (Nat.add_le_add_left hds.2.1 _) (by decide)))); intro m' qs' zs' c' u h' tk' hq9 hz9 hl9' e1 e2 e3 F' N'; (have hl9 : zs'.length ≤ 3 := by rw [hl9', List.length_reverse]; exact Nat.le_trans (Nat.le_of_eq (Nat.zero_add _)) hds.2.1); (try k_sweep)))
          | ((with_reducible show wpAny _ _ (callWith _ (Value.ref _) _ _ _) _ _ _); (k_here; k_dflt (refine' callWith_K ?zzk1 ?zzk2 ?_; (case zzk1 => with_reducible assumption); (case zzk2 => k_is); k_whole)))
          | ((with_reducible show wpAny _ _ (storeName _ _ _) _ _ _); (k_here; k_dflt (refine' storeX_L ?zzF ?zzN ?_ ?zzhk ?zzhx; (case zzhx => exact rfl); (case zzhk => exact rfl); (case zzF => k_asm); (case zzN => k_asm); k_whole; intro h' F' N'; (try k_sweep))))
          | ((with_reducible show wpAny _ _ (newList _) _ _ _); (k_here; k_dflt (refine' newList_is ?zzF ?zzN ?_ ?zzz; (case zzF => k_asm); (case zzN => k_asm); (case zzz => exact Nat.le_of_ble_eq_true rfl)); intro D' h' F' N' l1 l2; (try (replace l1 := allLt_of l1; (try dsimp only [AllLt] at l1))); (try k_lt2 l2); (try k_sweep)))
          | ((with_reducible show wpAny _ _ (newTuple _) _ _ _); (k_here; k_dflt (refine' newTuple_is ?zzF ?zzN ?_ ?zzz; (case zzF => k_asm); (case zzN => k_asm); (case zzz => exact Nat.le_of_ble_eq_true rfl)); intro D' h' F' N' l1 l2; (try (replace l1 := allLt_of l1; (try dsimp only [AllLt] at l1))); (try k_lt2 l2); (try k_sweep))))
    | walk1
    | (dsimp only; walk1))
  refine' hret (.ref _) _ _ ?ext ⟨_, ?zq, ?zr, ?zu1, ?zu2, rfl, ?sz, ?gt, ?eq⟩
  case ext => exact ext_end N (by assumption) (by assumption) (by assumption) (by (repeat' first | assumption | exact sub_refl | refine' sub_tail ?_))
  case gt => exact News.get (by assumption) (by k_mem)
  case sz => omega
  case eq => exact (hor_val _).trans (congrArg (· % 17) hds.2.2)
end Mine

namespace Mine

theorem invert_is {prog : Program} {w : World} {A : Around} {E : Value → Shared → Prop} {s : Shared} {a : Int} {t : Tok} {Q : Value → Shared → Prop} (h : Q (.int (-a - 1) s.toks) { s with toks := s.toks + 1 }) : wpAny (model prog w) A (unaryOp .Invert (.int a t)) Q E s := invert_int h
set_option maxRecDepth 100000 in
theorem dm {w : World} {n : Int} {t t' : Tok} (hn0 : 0 ≤ n) (hn1 : n < 4096) : Tell w 14 63 [] [.int n t, .int 17 t'] (PPost fun q r => r = n % 17) := by
  intro p loose mean mg mb c1 c2 o1 o2 vs1 vs2 t1 t2 dp un cn cs a ccd cl outer A₀ base h₀ L m s Q E hd1 hv1 hd2 hv2 B F X N T hk hdp hun hret
  generalize htau : tabs c1 c2 o1 o2 = tau at N
  have M : ∀ q ∈ tabs c1 c2 o1 o2, q ∈ tau := htau ▸ sub_refl
  clear htau
  revert X; k_fill; intro X
  refine wpAny_call ?_
  (refine' enter_all ?zzk1 ?zzk2 ?zzk3 ?zzk4 ?zzk5 ?zzkA ?zzkF ?zzkK ?zzk6 ?zzk7 ?zzk8 ?zzk9 ?zzkB ?_ ?zzc2 ?zzc3 ?zzc4 ?zzc5; (case zzkA => exact rfl); (case zzkF => exact rfl); (case zzkK => first | exact rfl | assumption); (case zzk1 => k_asm); (case zzk2 => k_asm); (case zzk3 => k_asm); (case zzk4 => k_asm); (case zzk5 => k_asm); (case zzk6 => k_is); (case zzk7 => k_is); (case zzk8 => k_room); (case zzk9 => exact BindsTo.of_eq rfl); (case zzc5 => decide); (case zzkB => exact locs rfl); (case zzc2 => exact rfl); (case zzc3 => exact rfl); (case zzc4 => exact rfl); k_whole; intro g' L' h' hext hLs hLL FG' F' N' B' X' T' l1; (try dsimp only [tabs, List.nil_append, List.cons_append] at N' l1); (try dsimp only); (try (replace l1 := allLt_of l1; (try dsimp only [AllLt] at l1))); (try k_lt2 hLL); (try k_fold))
  repeat' (first
    | (k_unfold; (try dsimp only))
    | ((with_reducible show EltEnd _ _ _ _ _ _ _ _); (first | (refine' elt_end ?zzF ?zzN ?zze; (case zzF => assumption); (case zzN => assumption); (case zze => first | with_reducible rfl | assumption | exact Eq.symm (tab4_get (by assumption)))) | (refine' eltEnd ?zzF ?zzN ?zzS ?zze; (case zzF => assumption); (case zzN => assumption); (case zzS => (repeat' first | assumption | exact sub_refl | refine' sub_tail ?_)); (case zze => first | with_reducible rfl | assumption | exact Eq.symm (tab4_get (by assumption))))))
    | (with_reducible refine hZ3 _ _ ?_; clear hZ3; (try clear Qz); (try dsimp only)) | (with_reducible refine hZ1 _ ?_; clear hZ1 hZ2; (try clear Qz Ez); (try dsimp only)) | (with_reducible refine hZ2 _ _ ?_; clear hZ1 hZ2; (try clear Qz Ez); (try dsimp only))
    | ((with_reducible show wpAny _ _ (eval _ _) _ _ _); first
          | ((with_reducible show wpAny _ _ (eval (Expr.Name _ _) _) _ _ _); (k_here; (fail_if_success (with_reducible show wpAny _ _ (eval (Expr.Name _ _) (compEnvC _ _ _ _)) _ _ _)); k_dflt (first | (refine' nameX_L ?zzF ?zzhv ?_ ?zzhk ?zzhx ?zzhd; (case zzhx => exact rfl); (case zzhk => exact rfl); (case zzhd => decide); (case zzF => k_asm); (case zzhv => exact rfl); k_whole) | (refine' nameX_K ?zzF ?zzX ?zzT ?zze ?_ ?zzhk ?zzhx ?zzhd; (case zzhx => exact rfl); (case zzhk => exact rfl); (case zzhd => decide); (case zzF => k_asm); (case zzX => with_reducible assumption); (case zzT => exact topRead_of (by with_reducible assumption)); (case zze => k_is); k_whole) | (refine' nameX_B ?zzF ?zzX ?zzT ?zze ?zzv ?zzzn ?_ ?zzhk ?zzhx ?zzhd; (case zzhx => exact rfl); (case zzhk => exact rfl); (case zzhd => decide); (case zzF => k_asm); (case zzX => with_reducible assumption); (case zzT => exact topRead_of (by with_reducible assumption)); (case zze => k_is); (case zzv => boot_fast); (case zzzn => decide); k_whole) | (refine' nameX_F ?zzN ?zzc ?zzm ?zzd ?_ ?zzhk ?zzhx ?zzhb ?zzhn; (case zzhx => exact rfl); (case zzhk => exact rfl); (case zzhb => decide); (case zzhn => decide); (case zzN => k_asm); (case zzc => rfl); (case zzm => k_mem); (case zzd => k_asm); k_whole) | (refine' nameX_C ?zzN ?zzc ?zzm ?zzd ?_ ?zzhk ?zzhx ?zzhb; (case zzhx => exact rfl); (case zzhk => exact rfl); (case zzhb => decide); (case zzN => k_asm); (case zzc => rfl); (case zzm => k_mem); (case zzd => k_asm); k_whole)))))
    | ((with_reducible show wpAny _ _ (call _ _ _) _ _ _); first
          | ((with_reducible show wpAny _ _ (call (Value.ref _) _ _) _ _ _); ((with_reducible show wpAny _ _ (call (Value.ref 56) _ _) _ _ _); (refine' Tell.pair (dpos hn0 hn1) ?zzk1 ?zzk2 ?zzk3 ?zzk4 ?zzk5 ?zzkK ?zzv2 ?zzv1 ?zzv4 ?zzv3 ?zzkM ?zzkd ?zzku ?_; (case zzkK => exact rfl); (case zzk1 => k_asm); (case zzk2 => k_asm); (case zzk3 => k_asm); (case zzk4 => k_asm); (case zzk5 => k_asm); (case zzv2 => assumption); (case zzv1 => assumption); (case zzv4 => assumption); (case zzv3 => assumption); (case zzkM => (repeat' first | assumption | exact sub_refl | refine' sub_tail ?_)); (case zzkd => k_room); (case zzku => ktr_units); (all_goals try omega)); intro zD zq zr zu1 zu2 h' tk' zP F' N' l1 zL; (replace l1 := allLt_of l1; (try dsimp only [AllLt] at l1)); (try dsimp only); (try k_sweep))))
    | ((with_reducible show wpAny _ _ (execs _ _) _ _ _); first
          | (((with_reducible rename Fr _ _ _ (fun y => List.lookup y _) => Fz); refine' canon0 Fz ?zze ?_; (case zze => first | exact @rfl _ [(_, _)] | exact @rfl _ [(_, _), (_, _)] | exact @rfl _ [(_, _), (_, _), (_, _)] | exact @rfl _ [(_, _), (_, _), (_, _), (_, _)]); clear Fz; intro F'))
          | ((fail_if_success (with_reducible show wpAny _ _ (execs (Stmt.For _ _ _ _ _ :: _) _) _ _ _)); (try k_gentoks); with_reducible refine execs_cut ?_; intro Qz Ez hZ1 hZ2))
    | ((with_reducible show wpAny _ _ _ _ _ _); (fail_if_success (with_reducible show wpAny _ _ (eval _ _) _ _ _)); (fail_if_success (with_reducible show wpAny _ _ (execs _ _) _ _ _)); first
          | ((with_reducible show wpAny _ _ (callWith _ (Value.ref _) _ _ _) _ _ _); (k_here; k_dflt (refine' callWith_K ?zzk1 ?zzk2 ?_; (case zzk1 => with_reducible assumption); (case zzk2 => k_is); k_whole))))
    | walk1
    | (dsimp only; walk1))
  refine' hret (.ref _) _ _ ?ext ⟨_, ?zq, ?zr, ?zu1, ?zu2, rfl, ?sz, ?gt, ?eq⟩
  case ext => exact ext_end N (by assumption) (by assumption) (by assumption) (by (repeat' first | assumption | exact sub_refl | refine' sub_tail ?_))
  case gt => exact News.get (by assumption) (by k_mem)
  case sz => omega
  case eq => assumption
set_option maxRecDepth 100000 in
theorem dmn {w : World} {n : Int} {t t' : Tok} (hn0 : -32 ≤ n) (hn1 : n < 0) : Tell w 16 63 [] [.int n t, .int 17 t'] (PPost fun q r => r = n % 17) := by
  intro p loose mean mg mb c1 c2 o1 o2 vs1 vs2 t1 t2 dp un cn cs a ccd cl outer A₀ base h₀ L m s Q E hd1 hv1 hd2 hv2 B F X N T hk hdp hun hret
  generalize htau : tabs c1 c2 o1 o2 = tau at N
  have M : ∀ q ∈ tabs c1 c2 o1 o2, q ∈ tau := htau ▸ sub_refl
  clear htau
  revert X; k_fill; intro X
  refine wpAny_call ?_
  (refine' enter_all ?zzk1 ?zzk2 ?zzk3 ?zzk4 ?zzk5 ?zzkA ?zzkF ?zzkK ?zzk6 ?zzk7 ?zzk8 ?zzk9 ?zzkB ?_ ?zzc2 ?zzc3 ?zzc4 ?zzc5; (case zzkA => exact rfl); (case zzkF => exact rfl); (case zzkK => first | exact rfl | assumption); (case zzk1 => k_asm); (case zzk2 => k_asm); (case zzk3 => k_asm); (case zzk4 => k_asm); (case zzk5 => k_asm); (case zzk6 => k_is); (case zzk7 => k_is); (case zzk8 => k_room); (case zzk9 => exact BindsTo.of_eq rfl); (case zzc5 => decide); (case zzkB => exact locs rfl); (case zzc2 => exact rfl); (case zzc3 => exact rfl); (case zzc4 => exact rfl); k_whole; intro g' L' h' hext hLs hLL FG' F' N' B' X' T' l1; (try dsimp only [tabs, List.nil_append, List.cons_append] at N' l1); (try dsimp only); (try (replace l1 := allLt_of l1; (try dsimp only [AllLt] at l1))); (try k_lt2 hLL); (try k_fold))
  repeat' (first
    | (k_unfold; (try dsimp only))
    | ((with_reducible show EltEnd _ _ _ _ _ _ _ _); (first | (refine' elt_end ?zzF ?zzN ?zze; (case zzF => assumption); (case zzN => assumption); (case zze => first | with_reducible rfl | assumption | exact Eq.symm (tab4_get (by assumption)))) | (refine' eltEnd ?zzF ?zzN ?zzS ?zze; (case zzF => assumption); (case zzN => assumption); (case zzS => (repeat' first | assumption | exact sub_refl | refine' sub_tail ?_)); (case zze => first | with_reducible rfl | assumption | exact Eq.symm (tab4_get (by assumption))))))
    | (with_reducible refine hZ3 _ _ ?_; clear hZ3; (try clear Qz); (try dsimp only)) | (with_reducible refine hZ1 _ ?_; clear hZ1 hZ2; (try clear Qz Ez); (try dsimp only)) | (with_reducible refine hZ2 _ _ ?_; clear hZ1 hZ2; (try clear Qz Ez); (try dsimp only))
    | ((with_reducible show wpAny _ _ (eval _ _) _ _ _); first
          | (((first | (with_reducible show wpAny _ _ (eval (Expr.Call _ _ _ _) _) _ _ _) | (with_reducible show wpAny _ _ (eval (Expr.BinOp _ _ _ _) _) _ _ _) | (with_reducible show wpAny _ _ (eval (Expr.Tuple _ _ _) _) _ _ _) | (with_reducible show wpAny _ _ (eval (Expr.List _ _ _) _) _ _ _) | (with_reducible show wpAny _ _ (eval (Expr.Subscript _ _ _) _) _ _ _) | (with_reducible show wpAny _ _ (eval (Expr.Compare _ _ _ _) _) _ _ _)); with_reducible refine cutQ ?_; intro Qz hZ3))
          | ((with_reducible show wpAny _ _ (eval (Expr.Name _ _) _) _ _ _); (k_here; (fail_if_success (with_reducible show wpAny _ _ (eval (Expr.Name _ _) (compEnvC _ _ _ _)) _ _ _)); k_dflt (first | (refine' nameX_L ?zzF ?zzhv ?_ ?zzhk ?zzhx ?zzhd; (case zzhx => exact rfl); (case zzhk => exact rfl); (case zzhd => decide); (case zzF => k_asm); (case zzhv => exact rfl); k_whole) | (refine' nameX_K ?zzF ?zzX ?zzT ?zze ?_ ?zzhk ?zzhx ?zzhd; (case zzhx => exact rfl); (case zzhk => exact rfl); (case zzhd => decide); (case zzF => k_asm); (case zzX => with_reducible assumption); (case zzT => exact topRead_of (by with_reducible assumption)); (case zze => k_is); k_whole) | (refine' nameX_B ?zzF ?zzX ?zzT ?zze ?zzv ?zzzn ?_ ?zzhk ?zzhx ?zzhd; (case zzhx => exact rfl); (case zzhk => exact rfl); (case zzhd => decide); (case zzF => k_asm); (case zzX => with_reducible assumption); (case zzT => exact topRead_of (by with_reducible assumption)); (case zze => k_is); (case zzv => boot_fast); (case zzzn => decide); k_whole) | (refine' nameX_F ?zzN ?zzc ?zzm ?zzd ?_ ?zzhk ?zzhx ?zzhb ?zzhn; (case zzhx => exact rfl); (case zzhk => exact rfl); (case zzhb => decide); (case zzhn => decide); (case zzN => k_asm); (case zzc => rfl); (case zzm => k_mem); (case zzd => k_asm); k_whole) | (refine' nameX_C ?zzN ?zzc ?zzm ?zzd ?_ ?zzhk ?zzhx ?zzhb; (case zzhx => exact rfl); (case zzhk => exact rfl); (case zzhb => decide); (case zzN => k_asm); (case zzc => rfl); (case zzm => k_mem); (case zzd => k_asm); k_whole)))))
    | ((with_reducible show wpAny _ _ (call _ _ _) _ _ _); first
          | ((with_reducible show wpAny _ _ (call (Value.ref _) _ _) _ _ _); ((with_reducible show wpAny _ _ (call (Value.ref 63) _ _) _ _ _); (refine' Tell.pair (dm (n := -n - 1) ?zzkn0 ?zzkn1) ?zzk1 ?zzk2 ?zzk3 ?zzk4 ?zzk5 ?zzkK ?zzv2 ?zzv1 ?zzv4 ?zzv3 ?zzkM ?zzkd ?zzku ?_; (case zzkK => exact rfl); (case zzk1 => k_asm); (case zzk2 => k_asm); (case zzk3 => k_asm); (case zzk4 => k_asm); (case zzk5 => k_asm); (case zzv2 => assumption); (case zzv1 => assumption); (case zzv4 => assumption); (case zzv3 => assumption); (case zzkM => (repeat' first | assumption | exact sub_refl | refine' sub_tail ?_)); (case zzkd => k_room); (case zzku => ktr_units); (all_goals try omega)); intro zD zq zr zu1 zu2 h' tk' zP F' N' l1 zL; (replace l1 := allLt_of l1; (try dsimp only [AllLt] at l1)); (try dsimp only); (try k_sweep))))
    | ((with_reducible show wpAny _ _ (execs _ _) _ _ _); first
          | (((with_reducible rename Fr _ _ _ (fun y => List.lookup y _) => Fz); refine' canon0 Fz ?zze ?_; (case zze => first | exact @rfl _ [(_, _)] | exact @rfl _ [(_, _), (_, _)] | exact @rfl _ [(_, _), (_, _), (_, _)] | exact @rfl _ [(_, _), (_, _), (_, _), (_, _)]); clear Fz; intro F'))
          | ((fail_if_success (with_reducible show wpAny _ _ (execs (Stmt.For _ _ _ _ _ :: _) _) _ _ _)); (try k_gentoks); with_reducible refine execs_cut ?_; intro Qz Ez hZ1 hZ2))
    | ((with_reducible show wpAny _ _ _ _ _ _); (fail_if_success (with_reducible show wpAny _ _ (eval _ _) _ _ _)); (fail_if_success (with_reducible show wpAny _ _ (execs _ _) _ _ _)); first
          | ((with_reducible show wpAny _ _ (unaryOp UnaryOp.Invert (Value.int _ _)) _ _ _); ((with_reducible refine invert_is ?_)))
          | ((with_reducible show wpAny _ _ (callWith _ (Value.ref _) _ _ _) _ _ _); (k_here; k_dflt (refine' callWith_K ?zzk1 ?zzk2 ?_; (case zzk1 => with_reducible assumption); (case zzk2 => k_is); k_whole)))
          | ((with_reducible show wpAny _ _ (storeName _ _ _) _ _ _); (k_here; k_dflt (refine' storeX_L ?zzF ?zzN ?_ ?zzhk ?zzhx; (case zzhx => exact rfl); (case zzhk => exact rfl); (case zzF => k_asm); (case zzN => k_asm); k_whole; intro h' F' N'; (try k_sweep))))
          | ((with_reducible show wpAny _ _ (newTuple _) _ _ _); (k_here; k_dflt (refine' newTuple_is ?zzF ?zzN ?_ ?zzz; (case zzF => k_asm); (case zzN => k_asm); (case zzz => exact Nat.le_of_ble_eq_true rfl)); intro D' h' F' N' l1 l2; (try (replace l1 := allLt_of l1; (try dsimp only [AllLt] at l1))); (try k_lt2 l2); (try k_sweep))))
    | walk1
    | (dsimp only; walk1))
  refine' hret (.ref _) _ _ ?ext ⟨_, ?zq, ?zr, ?zu1, ?zu2, rfl, ?sz, ?gt, ?eq⟩
  case ext => exact ext_end N (by assumption) (by assumption) (by assumption) (by (repeat' first | assumption | exact sub_refl | refine' sub_tail ?_))
  case gt => exact News.get (by assumption) (by k_mem)
  case sz => omega
  case eq => omega
theorem dma {w : World} {n : Int} {t t' : Tok} (hn0 : -32 ≤ n) (hn1 : n < 4096) : Tell w 16 63 [] [.int n t, .int 17 t'] (PPost fun q r => r = n % 17) := by
  by_cases h : 0 ≤ n
  · exact (dm h hn1).mono (by decide)
  · exact dmn hn0 (Int.not_le.mp h)
set_option maxRecDepth 100000 in
theorem rest {w : World} {n : Int} {t : Tok} (hn0 : -32 ≤ n) (hn1 : n < 4096) : Tell w 18 70 [] [.int n t] (fun _ _ v => ∃ t, v = .int (n % 17) t) := by
  intro p loose mean mg mb c1 c2 o1 o2 vs1 vs2 t1 t2 dp un cn cs a ccd cl outer A₀ base h₀ L m s Q E hd1 hv1 hd2 hv2 B F X N T hk hdp hun hret
  generalize htau : tabs c1 c2 o1 o2 = tau at N
  have M : ∀ q ∈ tabs c1 c2 o1 o2, q ∈ tau := htau ▸ sub_refl
  clear htau
  revert X; k_fill; intro X
  refine wpAny_call ?_
  (refine' enter_all ?zzk1 ?zzk2 ?zzk3 ?zzk4 ?zzk5 ?zzkA ?zzkF ?zzkK ?zzk6 ?zzk7 ?zzk8 ?zzk9 ?zzkB ?_ ?zzc2 ?zzc3 ?zzc4 ?zzc5; (case zzkA => exact rfl); (case zzkF => exact rfl); (case zzkK => first | exact rfl | assumption); (case zzk1 => k_asm); (case zzk2 => k_asm); (case zzk3 => k_asm); (case zzk4 => k_asm); (case zzk5 => k_asm); (case zzk6 => k_is); (case zzk7 => k_is); (case zzk8 => k_room); (case zzk9 => exact BindsTo.of_eq rfl); (case zzc5 => decide); (case zzkB => exact locs rfl); (case zzc2 => exact rfl); (case zzc3 => exact rfl); (case zzc4 => exact rfl); k_whole; intro g' L' h' hext hLs hLL FG' F' N' B' X' T' l1; (try dsimp only [tabs, List.nil_append, List.cons_append] at N' l1); (try dsimp only); (try (replace l1 := allLt_of l1; (try dsimp only [AllLt] at l1))); (try k_lt2 hLL); (try k_fold))
  repeat' (first
    | (k_unfold; (try dsimp only))
    | ((with_reducible show EltEnd _ _ _ _ _ _ _ _); (first | (refine' elt_end ?zzF ?zzN ?zze; (case zzF => assumption); (case zzN => assumption); (case zze => first | with_reducible rfl | assumption | exact Eq.symm (tab4_get (by assumption)))) | (refine' eltEnd ?zzF ?zzN ?zzS ?zze; (case zzF => assumption); (case zzN => assumption); (case zzS => (repeat' first | assumption | exact sub_refl | refine' sub_tail ?_)); (case zze => first | with_reducible rfl | assumption | exact Eq.symm (tab4_get (by assumption))))))
    | (with_reducible refine hZ3 _ _ ?_; clear hZ3; (try clear Qz); (try dsimp only)) | (with_reducible refine hZ1 _ ?_; clear hZ1 hZ2; (try clear Qz Ez); (try dsimp only)) | (with_reducible refine hZ2 _ _ ?_; clear hZ1 hZ2; (try clear Qz Ez); (try dsimp only))
    | ((with_reducible show wpAny _ _ (eval _ _) _ _ _); first
          | (((first | (with_reducible show wpAny _ _ (eval (Expr.Call _ _ _ _) _) _ _ _) | (with_reducible show wpAny _ _ (eval (Expr.BinOp _ _ _ _) _) _ _ _) | (with_reducible show wpAny _ _ (eval (Expr.Tuple _ _ _) _) _ _ _) | (with_reducible show wpAny _ _ (eval (Expr.List _ _ _) _) _ _ _) | (with_reducible show wpAny _ _ (eval (Expr.Subscript _ _ _) _) _ _ _) | (with_reducible show wpAny _ _ (eval (Expr.Compare _ _ _ _) _) _ _ _)); with_reducible refine cutQ ?_; intro Qz hZ3))
          | ((with_reducible show wpAny _ _ (eval (Expr.Name _ _) _) _ _ _); (k_here; (fail_if_success (with_reducible show wpAny _ _ (eval (Expr.Name _ _) (compEnvC _ _ _ _)) _ _ _)); k_dflt (first | (refine' nameX_L ?zzF ?zzhv ?_ ?zzhk ?zzhx ?zzhd; (case zzhx => exact rfl); (case zzhk => exact rfl); (case zzhd => decide); (case zzF => k_asm); (case zzhv => exact rfl); k_whole) | (refine' nameX_K ?zzF ?zzX ?zzT ?zze ?_ ?zzhk ?zzhx ?zzhd; (case zzhx => exact rfl); (case zzhk => exact rfl); (case zzhd => decide); (case zzF => k_asm); (case zzX => with_reducible assumption); (case zzT => exact topRead_of (by with_reducible assumption)); (case zze => k_is); k_whole) | (refine' nameX_B ?zzF ?zzX ?zzT ?zze ?zzv ?zzzn ?_ ?zzhk ?zzhx ?zzhd; (case zzhx => exact rfl); (case zzhk => exact rfl); (case zzhd => decide); (case zzF => k_asm); (case zzX => with_reducible assumption); (case zzT => exact topRead_of (by with_reducible assumption)); (case zze => k_is); (case zzv => boot_fast); (case zzzn => decide); k_whole) | (refine' nameX_F ?zzN ?zzc ?zzm ?zzd ?_ ?zzhk ?zzhx ?zzhb ?zzhn; (case zzhx => exact rfl); (case zzhk => exact rfl); (case zzhb => decide); (case zzhn => decide); (case zzN => k_asm); (case zzc => rfl); (case zzm => k_mem); (case zzd => k_asm); k_whole) | (refine' nameX_C ?zzN ?zzc ?zzm ?zzd ?_ ?zzhk ?zzhx ?zzhb; (case zzhx => exact rfl); (case zzhk => exact rfl); (case zzhb => decide); (case zzN => k_asm); (case zzc => rfl); (case zzm => k_mem); (case zzd => k_asm); k_whole)))))
    | ((with_reducible show wpAny _ _ (call _ _ _) _ _ _); first
          | ((with_reducible show wpAny _ _ (call (Value.ref _) _ _) _ _ _); ((with_reducible show wpAny _ _ (call (Value.ref 63) _ _) _ _ _); (refine' Tell.pair (dma hn0 hn1) ?zzk1 ?zzk2 ?zzk3 ?zzk4 ?zzk5 ?zzkK ?zzv2 ?zzv1 ?zzv4 ?zzv3 ?zzkM ?zzkd ?zzku ?_; (case zzkK => exact rfl); (case zzk1 => k_asm); (case zzk2 => k_asm); (case zzk3 => k_asm); (case zzk4 => k_asm); (case zzk5 => k_asm); (case zzv2 => assumption); (case zzv1 => assumption); (case zzv4 => assumption); (case zzv3 => assumption); (case zzkM => (repeat' first | assumption | exact sub_refl | refine' sub_tail ?_)); (case zzkd => k_room); (case zzku => ktr_units); (all_goals try omega)); intro zD zq zr zu1 zu2 h' tk' zP F' N' l1 zL; (replace l1 := allLt_of l1; (try dsimp only [AllLt] at l1)); (try dsimp only); (try k_sweep))))
    | ((with_reducible show wpAny _ _ (execs _ _) _ _ _); first
          | (((with_reducible rename Fr _ _ _ (fun y => List.lookup y _) => Fz); refine' canon0 Fz ?zze ?_; (case zze => first | exact @rfl _ [(_, _)] | exact @rfl _ [(_, _), (_, _)] | exact @rfl _ [(_, _), (_, _), (_, _)] | exact @rfl _ [(_, _), (_, _), (_, _), (_, _)]); clear Fz; intro F'))
          | ((fail_if_success (with_reducible show wpAny _ _ (execs (Stmt.For _ _ _ _ _ :: _) _) _ _ _)); (try k_gentoks); with_reducible refine execs_cut ?_; intro Qz Ez hZ1 hZ2))
    | ((with_reducible show wpAny _ _ _ _ _ _); (fail_if_success (with_reducible show wpAny _ _ (eval _ _) _ _ _)); (fail_if_success (with_reducible show wpAny _ _ (execs _ _) _ _ _)); first
          | ((with_reducible show wpAny _ _ (callWith _ (Value.ref _) _ _ _) _ _ _); (k_here; k_dflt (refine' callWith_K ?zzk1 ?zzk2 ?_; (case zzk1 => with_reducible assumption); (case zzk2 => k_is); k_whole))))
    | walk1
    | (dsimp only; walk1))
  refine' hret (.int _ _) _ _ ?ext ⟨_, congrArg (fun z => Value.int z _) ?eq⟩
  case ext => exact ext_end N (by assumption) (by assumption) (by assumption) (by (repeat' first | assumption | exact sub_refl | refine' sub_tail ?_))
  case eq => assumption
theorem rest_is {w : World} {n k : Int} {t : Tok} (hn0 : -32 ≤ n) (hn1 : n < 4096) (e : n % 17 = k) : Tell w 18 70 [] [.int n t] (fun _ _ v => ∃ t, v = .int k t) := by
  subst e
  exact rest hn0 hn1
end Mine

namespace Mine

set_option maxRecDepth 100000 in
theorem octet_turn {w : World} {p : Program} {loose : List Str} {mean : ExcName → Option Value} {mg mb : Str → Option Value} {c1 c2 : Addr} {o1 o2 : Obj} {vs1 vs2 : Array Value} {t1 t2 : Tok} {dp un : Nat} {cn : Str} {cs : Scope} {a : Addr} {ccd : Value} {cl : List (Str × Addr)} {outer : List Env} {base g h : Heap} {L₀ L : Addr} {m : Str → Option Value} {tau : List (Addr × Obj)} {s : Shared} {tk : Nat} {Q : Flow → Shared → Prop} {E : Value → Shared → Prop}
    (B : Below (ktrTop dp un (some []) cn cs L₀ a ccd cl outer) base (envX cn cs L₀ a ccd cl :: outer) g) (F : Fr g L h m) (X : (hd.heap_39 w.params).In g) (N : News g L h tau) (T : Top p loose mean mg mb g)
    (hd1 : o1.data = .fields vs1) (hv1 : vs1[1]? = some (.str (Str.ofString "_int2digits.<locals>.inner") t1)) (hd2 : o2.data = .fields vs2) (hv2 : vs2[1]? = some (.str (Str.ofString "_digits2int.<locals>.inner") t2))
    (M : ∀ q ∈ tabs c1 c2 o1 o2, q ∈ tau) (hdp : dp + 22 < recursionLimit) (hun : un + 8 * 22 < cLine)
    {W P S o : Int} {tW tP tS to : Tok} (hw : m (Str.ofString "whole") = some (.int W tW)) (hp : m (Str.ofString "power") = some (.int P tP)) (hs : m (Str.ofString "step") = some (.int S tS)) (ho : m (Str.ofString "octet") = some (.int o to))
    (hP : 0 ≤ P ∧ P < 17) (hS : 0 ≤ S ∧ S < 17) (hO : 0 ≤ o ∧ o < 17)
    (hQ : ∀ (q k : Int) (u v : Tok) (h' : Heap) (tk' : Nat), q = o * P → 0 ≤ q → q ≤ 256 → k = (P * S) % 17 → Fr g L h' (fun y => if y = Str.ofString "whole" then some (.int (W + q) u) else if y = Str.ofString "power" then some (.int k v) else m y) → News g L h' tau → Q .next { s with heap := h', toks := tk' }) :
    wpAny (model PySem.Challenge.rw_hm0003_01.row.prog w) ((ktrTop dp un (some []) cn cs L₀ a ccd cl outer).deeper (envOf (Str.ofString "_law_wound") (scopeOf (Str.ofString "_law_wound")) L 75 (.ref 74))) (execs (forBody ((forBody ((bodyOf (Str.ofString "_law_wound")).drop 1)).drop 1)) (envOf (Str.ofString "_law_wound") (scopeOf (Str.ofString "_law_wound")) L 75 (.ref 74))) Q E { s with heap := h, toks := tk } := by
  have hs : scopeOf (Str.ofString "_law_wound") = scopeOf (Str.ofString "_law_wound") := rfl
  conv at hs => rhs; whnf
  have hb : forBody ((forBody ((bodyOf (Str.ofString "_law_wound")).drop 1)).drop 1) = forBody ((forBody ((bodyOf (Str.ofString "_law_wound")).drop 1)).drop 1) := rfl
  conv at hb => rhs; whnf
  rw [hs, hb]
  clear hs hb
  revert X; k_fill; intro X
  repeat' (first
    | (k_unfold; (try dsimp only))
    | ((with_reducible show EltEnd _ _ _ _ _ _ _ _); (first | (refine' elt_end ?zzF ?zzN ?zze; (case zzF => assumption); (case zzN => assumption); (case zze => first | with_reducible rfl | assumption | exact Eq.symm (tab4_get (by assumption)))) | (refine' eltEnd ?zzF ?zzN ?zzS ?zze; (case zzF => assumption); (case zzN => assumption); (case zzS => (repeat' first | assumption | exact sub_refl | refine' sub_tail ?_)); (case zze => first | with_reducible rfl | assumption | exact Eq.symm (tab4_get (by assumption))))))
    | (with_reducible refine hZ3 _ _ ?_; clear hZ3; (try clear Qz); (try dsimp only)) | (with_reducible refine hZ1 _ ?_; clear hZ1 hZ2; (try clear Qz Ez); (try dsimp only)) | (with_reducible refine hZ2 _ _ ?_; clear hZ1 hZ2; (try clear Qz Ez); (try dsimp only))
    | ((with_reducible show wpAny _ _ (eval _ _) _ _ _); first
          | ((with_reducible show wpAny _ _ (eval (Expr.Name _ _) _) _ _ _); (k_here; (fail_if_success (with_reducible show wpAny _ _ (eval (Expr.Name _ _) (compEnvC _ _ _ _)) _ _ _)); k_dflt (first | (refine' nameX_L ?zzF ?zzhv ?_ ?zzhk ?zzhx ?zzhd; (case zzhx => exact rfl); (case zzhk => exact rfl); (case zzhd => decide); (case zzF => k_asm); (case zzhv => first | exact rfl | assumption); k_whole) | (refine' nameX_K ?zzF ?zzX ?zzT ?zze ?_ ?zzhk ?zzhx ?zzhd; (case zzhx => exact rfl); (case zzhk => exact rfl); (case zzhd => decide); (case zzF => k_asm); (case zzX => with_reducible assumption); (case zzT => exact topRead_of (by with_reducible assumption)); (case zze => k_is); k_whole) | (refine' nameX_B ?zzF ?zzX ?zzT ?zze ?zzv ?zzzn ?_ ?zzhk ?zzhx ?zzhd; (case zzhx => exact rfl); (case zzhk => exact rfl); (case zzhd => decide); (case zzF => k_asm); (case zzX => with_reducible assumption); (case zzT => exact topRead_of (by with_reducible assumption)); (case zze => k_is); (case zzv => boot_fast); (case zzzn => decide); k_whole) | (refine' nameX_F ?zzN ?zzc ?zzm ?zzd ?_ ?zzhk ?zzhx ?zzhb ?zzhn; (case zzhx => exact rfl); (case zzhk => exact rfl); (case zzhb => decide); (case zzhn => decide); (case zzN => k_asm); (case zzc => rfl); (case zzm => k_mem); (case zzd => k_asm); k_whole) | (refine' nameX_C ?zzN ?zzc ?zzm ?zzd ?_ ?zzhk ?zzhx ?zzhb; (case zzhx => exact rfl); (case zzhk => exact rfl); (case zzhb => decide); (case zzN => k_asm); (case zzc => rfl); (case zzm => k_mem); (case zzd => k_asm); k_whole)))))
    | ((with_reducible show wpAny _ _ (call _ _ _) _ _ _); first
          | ((with_reducible show wpAny _ _ (call (Value.ref _) _ _) _ _ _); ((with_reducible show wpAny _ _ (call (Value.ref 70) [Value.int _ _] _) _ _ _); (refine' Tell.int (rest ?zzkn0 ?zzkn1) ?zzk1 ?zzk2 ?zzk3 ?zzk4 ?zzk5 ?zzkK ?zzv2 ?zzv1 ?zzv4 ?zzv3 ?zzkM ?zzkd ?zzku ?_; (case zzkK => exact rfl); (case zzk1 => k_asm); (case zzk2 => k_asm); (case zzk3 => k_asm); (case zzk4 => k_asm); (case zzk5 => k_asm); (case zzv2 => assumption); (case zzv1 => assumption); (case zzv4 => assumption); (case zzv3 => assumption); (case zzkM => (repeat' first | assumption | exact sub_refl | refine' sub_tail ?_)); (case zzkd => k_room); (case zzku => ktr_units); (case zzkn0 => omega); (case zzkn1 => omega)); intro zt h' tk' F' N'; (try k_sweep))))
    | ((with_reducible show wpAny _ _ (binaryOp _ _ _) _ _ _); first
          | ((with_reducible show wpAny _ _ (binaryOp Operator.Mult _ _) _ _ _); ((refine mul17_is' (by assumption) (by assumption) ?_); intro mp' me' m0' m1')))
    | ((with_reducible show wpAny _ _ (execs _ _) _ _ _); first
          | ((fail_if_success (with_reducible show wpAny _ _ (execs (Stmt.For _ _ _ _ _ :: _) _) _ _ _)); (try k_gentoks); with_reducible refine execs_cut ?_; intro Qz Ez hZ1 hZ2))
    | ((with_reducible show wpAny _ _ _ _ _ _); (fail_if_success (with_reducible show wpAny _ _ (eval _ _) _ _ _)); (fail_if_success (with_reducible show wpAny _ _ (execs _ _) _ _ _)); first
          | ((with_reducible show wpAny _ _ (unpackItems (Value.ref _) _ _) _ _ _); (k_here; k_dflt (refine' unpackItemsN_ ?zzF ?zzN ?zzT ?zzk1 ?zzk2 ?_; (case zzF => k_asm); (case zzN => k_asm); (case zzT => refine News.isTup (by k_asm) (by k_mem)); (case zzk1 => exact rfl); (case zzk2 => exact rfl)); intro h' F' N'; (try k_dflt (replace N' := news_tail N')); (try k_sweep)))
          | ((with_reducible show wpAny _ _ (callWith _ (Value.ref _) _ _ _) _ _ _); (k_here; k_dflt (refine' callWith_K ?zzk1 ?zzk2 ?_; (case zzk1 => with_reducible assumption); (case zzk2 => k_is); k_whole)))
          | ((with_reducible show wpAny _ _ (storeName _ _ _) _ _ _); (k_here; k_dflt (refine' storeX_L ?zzF ?zzN ?_ ?zzhk ?zzhx; (case zzhx => exact rfl); (case zzhk => exact rfl); (case zzF => k_asm); (case zzN => k_asm); k_whole; intro h' F' N'; (try k_sweep))))
          | ((with_reducible show wpAny _ _ (newTuple _) _ _ _); (k_here; k_dflt (refine' newTuple_is ?zzF ?zzN ?_ ?zzz; (case zzF => k_asm); (case zzN => k_asm); (case zzz => exact Nat.le_of_ble_eq_true rfl)); intro D' h' F' N' l1 l2; (try (replace l1 := allLt_of l1; (try dsimp only [AllLt] at l1))); (try k_lt2 l2); (try k_sweep))))
    | walk1
    | (dsimp only; walk1))
  refine' hQ ?zq ?zk ?zu ?zv _ _ ?e1 ?e2 ?e3 ?e4 ?F ?N
  case F => assumption
  case N => assumption
  case e1 => assumption
  case e2 => assumption
  case e3 => assumption
  case e4 => exact congrArg (· % 17) (by assumption)
end Mine

namespace Mine

set_option maxRecDepth 100000 in
theorem place_turn {w : World} {p : Program} {loose : List Str} {mean : ExcName → Option Value} {mg mb : Str → Option Value} {c1 c2 : Addr} {o1 o2 : Obj} {vs1 vs2 : Array Value} {t1 t2 : Tok} {dp un : Nat} {cn : Str} {cs : Scope} {a : Addr} {ccd : Value} {cl : List (Str × Addr)} {outer : List Env} {base g h : Heap} {L₀ L : Addr} {m : Str → Option Value} {I0 D : Addr} {i0 : Obj} {arr : Array Value} {n : Nat} {tau : List (Addr × Obj)} {s : Shared} {tk : Nat} {Q : Flow → Shared → Prop} {E : Value → Shared → Prop}
    (B : Below (ktrTop dp un (some []) cn cs L₀ a ccd cl outer) base (envX cn cs L₀ a ccd cl :: outer) g) (F : Fr g L h m) (X : (hd.heap_39 w.params).In g) (N : News g L h ((I0, i0) :: (D, listOf arr n) :: tau)) (T : Top p loose mean mg mb g)
    (hd1 : o1.data = .fields vs1) (hv1 : vs1[1]? = some (.str (Str.ofString "_int2digits.<locals>.inner") t1)) (hd2 : o2.data = .fields vs2) (hv2 : vs2[1]? = some (.str (Str.ofString "_digits2int.<locals>.inner") t2))
    (M : ∀ q ∈ tabs c1 c2 o1 o2, q ∈ tau) (hdp : dp + 22 < recursionLimit) (hun : un + 8 * 22 < cLine)
    {R pv a0 a1 a2 a3 : Int} {p9 : Nat → Int} {j : Nat} {b : Array UInt8} {tR tb tp : Tok} (hr : m (Str.ofString "root") = some (.int R tR)) (hw : m (Str.ofString "row") = some (.bytes b tb)) (hf : m (Str.ofString "found") = some (.ref D)) (hp : m (Str.ofString "place") = some (.int pv tp))
    (hb : KBw.bInts b = [a0, a1, a2, a3]) (A0 : 0 ≤ a0 ∧ a0 < 17) (A1 : 0 ≤ a1 ∧ a1 < 17) (A2 : 0 ≤ a2 ∧ a2 < 17) (A3 : 0 ≤ a3 ∧ a3 < 17)
    (hj : pv = j) (hj1 : j ≤ 1000000) (hR : R.natAbs < 2 ^ 64) (hp9 : Pw R p9 j)
    (hE : PassesOwn (model PySem.Challenge.rw_hm0003_01.row.prog w) ((ktrTop dp un (some []) cn cs L₀ a ccd cl outer).deeper (envOf (Str.ofString "_law_wound") (scopeOf (Str.ofString "_law_wound")) L 75 (.ref 74))) (envOf (Str.ofString "_law_wound") (scopeOf (Str.ofString "_law_wound")) L 75 (.ref 74)) E) (hz : arr.size ≤ 50) (ID : LT.lt (α := Nat) D I0) (off : ∀ p ∈ tau, p.1 ≠ D)
    (hQ : ∀ (u : Tok) (n' : Nat) (m' : Str → Option Value) (h' : Heap) (tk' : Nat), m' (Str.ofString "root") = some (.int R tR) → m' (Str.ofString "row") = some (.bytes b tb) → m' (Str.ofString "found") = some (.ref D) → Fr g L h' m' →
      News g L h' ((I0, i0) :: (D, listOf (arr.push (.int ((a0 + p9 j * a1 + p9 (2 * j) * a2 + p9 (3 * j) * a3) % 17) u)) n') :: tau) → Q .next { s with heap := h', toks := tk' }) :
    wpAny (model PySem.Challenge.rw_hm0003_01.row.prog w) ((ktrTop dp un (some []) cn cs L₀ a ccd cl outer).deeper (envOf (Str.ofString "_law_wound") (scopeOf (Str.ofString "_law_wound")) L 75 (.ref 74))) (execs (forBody ((bodyOf (Str.ofString "_law_wound")).drop 1)) (envOf (Str.ofString "_law_wound") (scopeOf (Str.ofString "_law_wound")) L 75 (.ref 74))) Q E { s with heap := h, toks := tk } := by
  have S9 := hp9.2.2.1
  have h1 := hp9.2.2.2.1
  have h2 := hp9.2.2.2.2.1
  have h3 := hp9.2.2.2.2.2
  have hs : scopeOf (Str.ofString "_law_wound") = scopeOf (Str.ofString "_law_wound") := rfl
  conv at hs => rhs; whnf
  have hb : forBody ((bodyOf (Str.ofString "_law_wound")).drop 1) = forBody ((bodyOf (Str.ofString "_law_wound")).drop 1) := rfl
  conv at hb => rhs; whnf
  rw [hs] at hE
  rw [hs, hb]
  clear hs hb
  revert X; k_fill; intro X
  repeat' (first
    | (k_unfold; (try dsimp only))
    | ((with_reducible show wpAny _ _ (execs [Stmt.Assign [Expr.Tuple [_, _] _ _] _ _] _) _ _ _); (refine' octet_turn ?zzk1 ?zzk2 ?zzk3 ?zzk4 ?zzk5 ?zzd1 ?zzd2 ?zzd3 ?zzd4 ?zzn1 ?zzhdp ?zzhun ?zzhw ?zzhp ?zzhs ?zzho ?zzhP ?zzhS ?zzhO ?_; (case zzk1 => k_asm); (case zzk2 => k_asm); (case zzk3 => k_asm); (case zzk4 => k_asm); (case zzk5 => k_asm); (case zzd2 => assumption); (case zzd1 => assumption); (case zzd4 => assumption); (case zzd3 => assumption); (case zzn1 => (repeat' first | assumption | exact sub_refl | refine' sub_tail ?_)); (case zzhdp => assumption); (case zzhun => assumption); (case zzhw => first | exact rfl | assumption); (case zzhp => first | exact rfl | assumption); (case zzhs => first | exact rfl | assumption); (case zzho => first | exact rfl | assumption); (case zzhP => first | assumption | exact ⟨by decide, by decide⟩); (case zzhS => first | assumption | omega); (case zzhO => assumption)); intro q k u v h' tk' q0 q1 q2 k0 F' N'; (have k1 : 0 ≤ k ∧ k < 17 := by rw [k0]; exact mod_low _))
    | ((with_reducible show wpAny _ _ (exec (Stmt.For _ (Expr.Name _ _) _ _ _) _) _ _ _); (rename Fr _ _ _ _ => lF'); (with_unfolding_all refine' For_invVF (hE := hE) lF' ?zzk1 ?zzk2 ?_; (case zzk1 => exact rfl); (case zzk2 => exact rfl); k_whole))
    | ((with_reducible show EltEnd _ _ _ _ _ _ _ _); (first | (refine' elt_end ?zzF ?zzN ?zze; (case zzF => assumption); (case zzN => assumption); (case zze => first | with_reducible rfl | assumption | exact Eq.symm (tab4_get (by assumption)))) | (refine' eltEnd ?zzF ?zzN ?zzS ?zze; (case zzF => assumption); (case zzN => assumption); (case zzS => (repeat' first | assumption | exact sub_refl | refine' sub_tail ?_)); (case zze => first | with_reducible rfl | assumption | exact Eq.symm (tab4_get (by assumption))))))
    | (with_reducible refine hZ3 _ _ ?_; clear hZ3; (try clear Qz); (try dsimp only)) | (with_reducible refine hZ1 _ ?_; clear hZ1 hZ2; (try clear Qz Ez); (try dsimp only)) | (with_reducible refine hZ2 _ _ ?_; clear hZ1 hZ2; (try clear Qz Ez); (try dsimp only))
    | ((with_reducible show wpAny _ _ (eval _ _) _ _ _); first
          | ((with_reducible show wpAny _ _ (eval (Expr.Name _ _) _) _ _ _); (k_here; (fail_if_success (with_reducible show wpAny _ _ (eval (Expr.Name _ _) (compEnvC _ _ _ _)) _ _ _)); k_dflt (first | (refine' nameX_L ?zzF ?zzhv ?_ ?zzhk ?zzhx ?zzhd; (case zzhx => exact rfl); (case zzhk => exact rfl); (case zzhd => decide); (case zzF => k_asm); (case zzhv => first | exact rfl | assumption); k_whole) | (refine' nameX_K ?zzF ?zzX ?zzT ?zze ?_ ?zzhk ?zzhx ?zzhd; (case zzhx => exact rfl); (case zzhk => exact rfl); (case zzhd => decide); (case zzF => k_asm); (case zzX => with_reducible assumption); (case zzT => exact topRead_of (by with_reducible assumption)); (case zze => k_is); k_whole) | (refine' nameX_B ?zzF ?zzX ?zzT ?zze ?zzv ?zzzn ?_ ?zzhk ?zzhx ?zzhd; (case zzhx => exact rfl); (case zzhk => exact rfl); (case zzhd => decide); (case zzF => k_asm); (case zzX => with_reducible assumption); (case zzT => exact topRead_of (by with_reducible assumption)); (case zze => k_is); (case zzv => boot_fast); (case zzzn => decide); k_whole) | (refine' nameX_F ?zzN ?zzc ?zzm ?zzd ?_ ?zzhk ?zzhx ?zzhb ?zzhn; (case zzhx => exact rfl); (case zzhk => exact rfl); (case zzhb => decide); (case zzhn => decide); (case zzN => k_asm); (case zzc => rfl); (case zzm => k_mem); (case zzd => k_asm); k_whole) | (refine' nameX_C ?zzN ?zzc ?zzm ?zzd ?_ ?zzhk ?zzhx ?zzhb; (case zzhx => exact rfl); (case zzhk => exact rfl); (case zzhb => decide); (case zzN => k_asm); (case zzc => rfl); (case zzm => k_mem); (case zzd => k_asm); k_whole)))))
    | ((with_reducible show wpAny _ _ (call _ _ _) _ _ _); first
          | ((with_reducible show wpAny _ _ (call (Value.builtin "list.append") _ _) _ _ _); k_here; k_dflt (refine' append_K ?zzk1 ?zzk2 ?zzk3 ?_ ?zzz; (case zzk1 => k_asm); (case zzk2 => k_asm); (case zzk3 => k_upd); (case zzz => first | (rw [PySem.sizeLine_eq]; exact Nat.le_of_ble_eq_true rfl) | (rw [PySem.sizeLine_eq]; (try simp only [List.size_toArray]); omega)); k_whole); intro h' F' N'; (try k_sweep))
          | ((with_reducible show wpAny _ _ (call (Value.ref _) _ _) _ _ _); ((with_reducible show wpAny _ _ (call (Value.ref 70) [Value.int _ _] _) _ _ _); (refine' Tell.int (rest_is (k := p9 j) hp9.1.1 hp9.1.2 hp9.2.1) ?zzk1 ?zzk2 ?zzk3 ?zzk4 ?zzk5 ?zzkK ?zzv2 ?zzv1 ?zzv4 ?zzv3 ?zzkM ?zzkd ?zzku ?_; (case zzkK => exact rfl); (case zzk1 => k_asm); (case zzk2 => k_asm); (case zzk3 => k_asm); (case zzk4 => k_asm); (case zzk5 => k_asm); (case zzv2 => assumption); (case zzv1 => assumption); (case zzv4 => assumption); (case zzv3 => assumption); (case zzkM => (repeat' first | assumption | exact sub_refl | refine' sub_tail ?_)); (case zzkd => k_room); (case zzku => ktr_units)); intro zt h' tk' F' N'; (try k_sweep)))
          | ((with_reducible show wpAny _ _ (call (Value.ref _) _ _) _ _ _); ((with_reducible show wpAny _ _ (call (Value.ref 70) [Value.int _ _] _) _ _ _); (refine' Tell.int (rest ?zzkn0 ?zzkn1) ?zzk1 ?zzk2 ?zzk3 ?zzk4 ?zzk5 ?zzkK ?zzv2 ?zzv1 ?zzv4 ?zzv3 ?zzkM ?zzkd ?zzku ?_; (case zzkK => exact rfl); (case zzk1 => k_asm); (case zzk2 => k_asm); (case zzk3 => k_asm); (case zzk4 => k_asm); (case zzk5 => k_asm); (case zzv2 => assumption); (case zzv1 => assumption); (case zzv4 => assumption); (case zzv3 => assumption); (case zzkM => (repeat' first | assumption | exact sub_refl | refine' sub_tail ?_)); (case zzkd => k_room); (case zzku => ktr_units); (case zzkn0 => omega); (case zzkn1 => omega)); intro zt h' tk' F' N'; (try k_sweep))))
    | ((with_reducible show wpAny _ _ (binaryOp _ _ _) _ _ _); first
          | ((with_reducible show wpAny _ _ (binaryOp Operator.Pow _ _) _ _ _); ((refine pow_k hj hj1 hR ?_))))
    | ((with_reducible show wpAny _ _ (execs _ _) _ _ _); first
          | ((fail_if_success (with_reducible show wpAny _ _ (execs (Stmt.For _ _ _ _ _ :: _) _) _ _ _)); (try k_gentoks); with_reducible refine execs_cut ?_; intro Qz Ez hZ1 hZ2))
    | ((with_reducible show wpAny _ _ _ _ _ _); (fail_if_success (with_reducible show wpAny _ _ (eval _ _) _ _ _)); (fail_if_success (with_reducible show wpAny _ _ (execs _ _) _ _ _)); first
          | ((with_reducible show wpAny _ _ (pyIter _) _ _ _); (k_here; (with_reducible show wpAny _ _ (pyIter (Value.bytes _ _)) (fun it s₂ => LoopAtV _ _ _ _ _ _ _ _ _ it s₂) _ _); k_bytesUnr))
          | ((with_reducible show wpAny _ _ (unpackItems (Value.ref _) _ _) _ _ _); (k_here; k_dflt (refine' unpackItemsN_ ?zzF ?zzN ?zzT ?zzk1 ?zzk2 ?_; (case zzF => k_asm); (case zzN => k_asm); (case zzT => refine News.isTup (by k_asm) (by k_mem)); (case zzk1 => exact rfl); (case zzk2 => exact rfl)); intro h' F' N'; (try k_dflt (replace N' := news_tail N')); (try k_sweep)))
          | ((with_reducible show wpAny _ _ (callWith _ (Value.ref _) _ _ _) _ _ _); (k_here; k_dflt (refine' callWith_K ?zzk1 ?zzk2 ?_; (case zzk1 => with_reducible assumption); (case zzk2 => k_is); k_whole)))
          | ((with_reducible show wpAny _ _ (storeName _ _ _) _ _ _); (k_here; k_dflt (refine' storeX_L ?zzF ?zzN ?_ ?zzhk ?zzhx; (case zzhx => exact rfl); (case zzhk => exact rfl); (case zzF => k_asm); (case zzN => k_asm); k_whole; intro h' F' N'; (try k_sweep))))
          | ((with_reducible show wpAny _ _ (newTuple _) _ _ _); (k_here; k_dflt (refine' newTuple_is ?zzF ?zzN ?_ ?zzz; (case zzF => k_asm); (case zzN => k_asm); (case zzz => exact Nat.le_of_ble_eq_true rfl)); intro D' h' F' N' l1 l2; (try (replace l1 := allLt_of l1; (try dsimp only [AllLt] at l1))); (try k_lt2 l2); (try k_sweep))))
    | ((fail_if_success (with_reducible show wpAny _ _ _ _ _ _)); first
          | ((with_reducible show UnrEnd _ _ _ _ _ _ _); (k_here; k_dflt (refine' unr_end ?zzF ?zzN ?zzU ?_; (case zzF => k_asm); (case zzN => k_asm); (case zzU => repeat' (first | (refine' Cut.head ?_; k_all) | refine' Cut.skip ?_ | (refine' Cut.tail ?zzzt ?_; (case zzzt => k_ne))))))))
    | walk1
    | (dsimp only; walk1))
  rename News _ _ _ _ => N'
  rw [wound_at rfl (by assumption) (by assumption) (by assumption) (by assumption) (by assumption) (by assumption) (by assumption) h1 h2 h3] at N'
  refine' hQ ?zu ?zn ?zm _ _ ?er ?ew ?ef ?F N'
  case F => assumption
  case er => exact hr
  case ew => exact hw
  case ef => exact hf
end Mine

namespace Mine

set_option maxRecDepth 100000 in
theorem wound {w : World} {b : Array UInt8} {t t' : Tok} {R a0 a1 a2 a3 : Int} {p9 : Nat → Int} (hb : KBw.bInts b = [a0, a1, a2, a3]) (h0 : 0 ≤ a0 ∧ a0 < 17) (h1 : 0 ≤ a1 ∧ a1 < 17) (h2 : 0 ≤ a2 ∧ a2 < 17) (h3 : 0 ≤ a3 ∧ a3 < 17) (hR : R.natAbs < 2 ^ 64) (P0 : Pw R p9 0) (P1 : Pw R p9 1) (P2 : Pw R p9 2) (P3 : Pw R p9 3) :
    Tell w 24 75 [] [.bytes b t, .int R t'] (fun _ _ v => ∃ (b' : Array UInt8) (t : Tok), v = .bytes b' t ∧ Row b' (wnd p9 [a0, a1, a2, a3])) := by
  intro p loose mean mg mb c1 c2 o1 o2 vs1 vs2 t1 t2 dp un cn cs a ccd cl outer A₀ base h₀ L m s Q E hd1 hv1 hd2 hv2 B F X N T hk hdp hun hret
  generalize htau : tabs c1 c2 o1 o2 = tau at N
  have M : ∀ q ∈ tabs c1 c2 o1 o2, q ∈ tau := htau ▸ sub_refl
  clear htau
  revert X; k_fill; intro X
  refine wpAny_call ?_
  (refine' enter_all ?zzk1 ?zzk2 ?zzk3 ?zzk4 ?zzk5 ?zzkA ?zzkF ?zzkK ?zzk6 ?zzk7 ?zzk8 ?zzk9 ?zzkB ?_ ?zzc2 ?zzc3 ?zzc4 ?zzc5; (case zzkA => exact rfl); (case zzkF => exact rfl); (case zzkK => first | exact rfl | assumption); (case zzk1 => k_asm); (case zzk2 => k_asm); (case zzk3 => k_asm); (case zzk4 => k_asm); (case zzk5 => k_asm); (case zzk6 => k_is); (case zzk7 => k_is); (case zzk8 => k_room); (case zzk9 => exact BindsTo.of_eq rfl); (case zzc5 => decide); (case zzkB => exact locs rfl); (case zzc2 => exact rfl); (case zzc3 => exact rfl); (case zzc4 => exact rfl); k_whole; intro g' L' h' hext hLs hLL FG' F' N' B' X' T' l1; (try dsimp only [tabs, List.nil_append, List.cons_append] at N' l1); (try dsimp only); (try (replace l1 := allLt_of l1; (try dsimp only [AllLt] at l1))); (try k_lt2 hLL); (try k_fold))
  repeat' (first
    | (k_unfold; (try dsimp only))
    | ((with_reducible show wpAny _ _ (execs (Stmt.Assign [Expr.Tuple [_, _, _] _ _] _ _ :: _) _) _ _ _); (first | (refine' place_turn (R := R) (p9 := p9) (j := 0) ?zzk1 ?zzk2 ?zzk3 ?zzk4 ?zzk5 hd1 hv1 hd2 hv2 ?zzM ?zzhdp ?zzhun ?zzr1 ?zzr2 ?zzr3 ?zzr4 hb h0 h1 h2 h3 ?zzj1 ?zzj2 hR P0 ?zzhE ?zzhz ?zzID ?zzoff ?_; (case zzk1 => k_asm); (case zzk2 => k_asm); (case zzr4 => first | exact rfl | assumption); (case zzj1 => first | exact rfl | omega); (case zzk3 => k_asm); (case zzk4 => k_asm); (case zzk5 => k_asm); (case zzM => (repeat' first | assumption | exact sub_refl | refine' sub_tail ?_)); (case zzhdp => omega); (case zzhun => omega); (case zzj2 => decide); (case zzr1 => first | exact rfl | assumption); (case zzr2 => first | exact rfl | assumption); (case zzr3 => first | exact rfl | assumption); (case zzhE => passes_own); (case zzhz => exact Nat.le_of_ble_eq_true rfl); (case zzID => ktn_lt); (case zzoff => k_all)) | (refine' place_turn (R := R) (p9 := p9) (j := 1) ?zzk1 ?zzk2 ?zzk3 ?zzk4 ?zzk5 hd1 hv1 hd2 hv2 ?zzM ?zzhdp ?zzhun ?zzr1 ?zzr2 ?zzr3 ?zzr4 hb h0 h1 h2 h3 ?zzj1 ?zzj2 hR P1 ?zzhE ?zzhz ?zzID ?zzoff ?_; (case zzk1 => k_asm); (case zzk2 => k_asm); (case zzr4 => first | exact rfl | assumption); (case zzj1 => first | exact rfl | omega); (case zzk3 => k_asm); (case zzk4 => k_asm); (case zzk5 => k_asm); (case zzM => (repeat' first | assumption | exact sub_refl | refine' sub_tail ?_)); (case zzhdp => omega); (case zzhun => omega); (case zzj2 => decide); (case zzr1 => first | exact rfl | assumption); (case zzr2 => first | exact rfl | assumption); (case zzr3 => first | exact rfl | assumption); (case zzhE => passes_own); (case zzhz => exact Nat.le_of_ble_eq_true rfl); (case zzID => ktn_lt); (case zzoff => k_all)) | (refine' place_turn (R := R) (p9 := p9) (j := 2) ?zzk1 ?zzk2 ?zzk3 ?zzk4 ?zzk5 hd1 hv1 hd2 hv2 ?zzM ?zzhdp ?zzhun ?zzr1 ?zzr2 ?zzr3 ?zzr4 hb h0 h1 h2 h3 ?zzj1 ?zzj2 hR P2 ?zzhE ?zzhz ?zzID ?zzoff ?_; (case zzk1 => k_asm); (case zzk2 => k_asm); (case zzr4 => first | exact rfl | assumption); (case zzj1 => first | exact rfl | omega); (case zzk3 => k_asm); (case zzk4 => k_asm); (case zzk5 => k_asm); (case zzM => (repeat' first | assumption | exact sub_refl | refine' sub_tail ?_)); (case zzhdp => omega); (case zzhun => omega); (case zzj2 => decide); (case zzr1 => first | exact rfl | assumption); (case zzr2 => first | exact rfl | assumption); (case zzr3 => first | exact rfl | assumption); (case zzhE => passes_own); (case zzhz => exact Nat.le_of_ble_eq_true rfl); (case zzID => ktn_lt); (case zzoff => k_all)) | (refine' place_turn (R := R) (p9 := p9) (j := 3) ?zzk1 ?zzk2 ?zzk3 ?zzk4 ?zzk5 hd1 hv1 hd2 hv2 ?zzM ?zzhdp ?zzhun ?zzr1 ?zzr2 ?zzr3 ?zzr4 hb h0 h1 h2 h3 ?zzj1 ?zzj2 hR P3 ?zzhE ?zzhz ?zzID ?zzoff ?_; (case zzk1 => k_asm); (case zzk2 => k_asm); (case zzr4 => first | exact rfl | assumption); (case zzj1 => first | exact rfl | omega); (case zzk3 => k_asm); (case zzk4 => k_asm); (case zzk5 => k_asm); (case zzM => (repeat' first | assumption | exact sub_refl | refine' sub_tail ?_)); (case zzhdp => omega); (case zzhun => omega); (case zzj2 => decide); (case zzr1 => first | exact rfl | assumption); (case zzr2 => first | exact rfl | assumption); (case zzr3 => first | exact rfl | assumption); (case zzhE => passes_own); (case zzhz => exact Nat.le_of_ble_eq_true rfl); (case zzID => ktn_lt); (case zzoff => k_all))); intro u n' m' h' tk' mr mw mf F' N'; (simp only [List.push_toArray, List.nil_append, List.cons_append] at N'))
    | ((with_reducible show EltEnd _ _ _ _ _ _ _ _); (first | (refine' elt_end ?zzF ?zzN ?zze; (case zzF => assumption); (case zzN => assumption); (case zze => first | with_reducible rfl | assumption | exact Eq.symm (tab4_get (by assumption)))) | (refine' eltEnd ?zzF ?zzN ?zzS ?zze; (case zzF => assumption); (case zzN => assumption); (case zzS => (repeat' first | assumption | exact sub_refl | refine' sub_tail ?_)); (case zze => first | with_reducible rfl | assumption | exact Eq.symm (tab4_get (by assumption))))))
    | (with_reducible refine hZ3 _ _ ?_; clear hZ3; (try clear Qz); (try dsimp only)) | (with_reducible refine hZ1 _ ?_; clear hZ1 hZ2; (try clear Qz Ez); (try dsimp only)) | (with_reducible refine hZ2 _ _ ?_; clear hZ1 hZ2; (try clear Qz Ez); (try dsimp only))
    | ((with_reducible show wpAny _ _ (eval _ _) _ _ _); first
          | ((with_reducible show wpAny _ _ (eval (Expr.Name _ _) _) _ _ _); (k_here; (with_reducible show wpAny _ _ (eval (Expr.Name _ _) (compEnvC _ _ _ _)) _ _ _); k_dflt (first | refine LCgL.ld_own (by k_asm) (by k_mem) (by assumption) (by assumption) ?_ | (refine' lcf_cell ?zzN ?zzc ?zzm ?zzd ?_ ?zza ?zzb; (case zza => rfl); (case zzb => rfl); (case zzN => k_asm); (case zzc => rfl); (case zzm => k_mem); (case zzd => k_asm); k_whole) | (refine' lcf_free ?zzN ?zzc ?zzm ?zzd ?_ ?zza ?zzb; (case zza => rfl); (case zzb => rfl); (case zzN => k_asm); (case zzc => rfl); (case zzm => k_mem); (case zzd => k_asm); k_whole) | refine LCgL.ld_global (by k_asm) (by k_asm) (by k_asm) (by k_is) ?_ | refine LCgL.ld_built (by k_asm) (by k_asm) (by k_asm) (by k_is) (by boot_by_name) (by decide) ?_)))
          | ((with_reducible show wpAny _ _ (eval (Expr.ListComp _ _ _ _) _) _ _ _); (k_here; k_dflt (refine LCg.ListComp_U (F₀ := by k_asm) (by with_unfolding_all rfl) (by decide) (by rfl) (by decide) (by rfl) ?_)))
          | ((with_reducible show wpAny _ _ (eval (Expr.Name _ _) _) _ _ _); (k_here; (fail_if_success (with_reducible show wpAny _ _ (eval (Expr.Name _ _) (compEnvC _ _ _ _)) _ _ _)); k_dflt (first | (refine' nameX_L ?zzF ?zzhv ?_ ?zzhk ?zzhx ?zzhd; (case zzhx => exact rfl); (case zzhk => exact rfl); (case zzhd => decide); (case zzF => k_asm); (case zzhv => first | exact rfl | assumption); k_whole) | (refine' nameX_K ?zzF ?zzX ?zzT ?zze ?_ ?zzhk ?zzhx ?zzhd; (case zzhx => exact rfl); (case zzhk => exact rfl); (case zzhd => decide); (case zzF => k_asm); (case zzX => with_reducible assumption); (case zzT => exact topRead_of (by with_reducible assumption)); (case zze => k_is); k_whole) | (refine' nameX_B ?zzF ?zzX ?zzT ?zze ?zzv ?zzzn ?_ ?zzhk ?zzhx ?zzhd; (case zzhx => exact rfl); (case zzhk => exact rfl); (case zzhd => decide); (case zzF => k_asm); (case zzX => with_reducible assumption); (case zzT => exact topRead_of (by with_reducible assumption)); (case zze => k_is); (case zzv => boot_fast); (case zzzn => decide); k_whole) | (refine' nameX_F ?zzN ?zzc ?zzm ?zzd ?_ ?zzhk ?zzhx ?zzhb ?zzhn; (case zzhx => exact rfl); (case zzhk => exact rfl); (case zzhb => decide); (case zzhn => decide); (case zzN => k_asm); (case zzc => rfl); (case zzm => k_mem); (case zzd => k_asm); k_whole) | (refine' nameX_C ?zzN ?zzc ?zzm ?zzd ?_ ?zzhk ?zzhx ?zzhb; (case zzhx => exact rfl); (case zzhk => exact rfl); (case zzhb => decide); (case zzN => k_asm); (case zzc => rfl); (case zzm => k_mem); (case zzd => k_asm); k_whole)))))
    | ((with_reducible show wpAny _ _ (call _ _ _) _ _ _); first
          | ((with_reducible show wpAny _ _ (call (Value.type _) _ _) _ _ _); ((with_reducible show wpAny _ _ (call (Value.type "bytes") [Value.ref _]) _ _ _); (refine' bytes_of ?zzF ?zzN ?zzh ?zzm ?zzi ?zzr ?zzz ?_; (case zzF => k_asm); (case zzN => k_asm); (case zzh => exact rfl); (case zzm => k_mem); (case zzi => first | assumption | (repeat constructor)); (case zzr => first | assumption | exact mod_in | exact low_in rfl (by assumption) | (repeat' (first | exact in_nil | refine in_cons (by omega) (by omega) ?_))); (case zzz => exact rfl)); intro b' t' h' k' hb' F' N'; (try k_sweep))))
    | ((with_reducible show wpAny _ _ (binaryOp _ _ _) _ _ _); first
          | ((with_reducible show wpAny _ _ (binaryOp Operator.Mod _ _) _ _ _); k_dflt (first | (refine mod_closed (by decide) (by decide) ?_) | (refine mod_small (by omega) (by omega) ?_) | (refine mod_is (by decide) ?_))))
    | ((with_reducible show wpAny _ _ (execs _ _) _ _ _); first
          | ((fail_if_success (with_reducible show wpAny _ _ (execs (Stmt.For _ _ _ _ _ :: _) _) _ _ _)); (try k_gentoks); with_reducible refine execs_cut ?_; intro Qz Ez hZ1 hZ2))
    | ((with_reducible show wpAny _ _ _ _ _ _); (fail_if_success (with_reducible show wpAny _ _ (eval _ _) _ _ _)); (fail_if_success (with_reducible show wpAny _ _ (execs _ _) _ _ _)); first
          | ((with_reducible show wpAny _ _ (storeName _ _ _) _ _ _); (k_here; k_dflt (refine' storeX_L ?zzF ?zzN ?_ ?zzhk ?zzhx; (case zzhx => exact rfl); (case zzhk => exact rfl); (case zzF => k_asm); (case zzN => k_asm); k_whole; intro h' F' N'; (try k_sweep))))
          | ((with_reducible show wpAny _ _ (newList _) _ _ _); (k_here; k_dflt (refine' newList_is ?zzF ?zzN ?_ ?zzz; (case zzF => k_asm); (case zzN => k_asm); (case zzz => exact Nat.le_of_ble_eq_true rfl)); intro D' h' F' N' l1 l2; (try (replace l1 := allLt_of l1; (try dsimp only [AllLt] at l1))); (try k_lt2 l2); (try k_sweep))))
    | ((fail_if_success (with_reducible show wpAny _ _ _ _ _ _)); first
          | ((with_reducible show LCg.CompSrc _ _ _ _ _ _ _ _ _ _ _ _ _ _); ((k_here; k_dflt (first | (refine LCg.CompSrc.ledger (by rfl) (by k_asm) (by k_asm) (by k_mem) (by exact Nat.le_of_ble_eq_true rfl) ?_; intro g'; refine' comp_list (ks := tab4 fun k => (a0 + p9 k * a1 + p9 (2 * k) * a2 + p9 (3 * k) * a3) % 17) (tab4 fun k => (a0 + p9 k * a1 + p9 (2 * k) * a2 + p9 (3 * k) * a3) % 17) rfl (by first | assumption | (repeat constructor)) (by k_mem) (fun i9 t9 I9 oI9 C9 oC9 D9 ys9 m9 h9 k9 E9 hi9 hC9 hx9 F9 N9 => have b9 : 0 ≤ (tab4 fun k => (a0 + p9 k * a1 + p9 (2 * k) * a2 + p9 (3 * k) * a3) % 17).getD i9 0 ∧ (tab4 fun k => (a0 + p9 k * a1 + p9 (2 * k) * a2 + p9 (3 * k) * a3) % 17).getD i9 0 < 17 := low_mod i9; ?_) (fun ys9 hy9 => ?_))))))
          | ((with_reducible show UnrEnd _ _ _ _ _ _ _); (k_here; k_dflt (refine' unr_end ?zzF ?zzN ?zzU ?_; (case zzF => k_asm); (case zzN => k_asm); (case zzU => repeat' (first | (refine' Cut.head ?_; k_all) | refine' Cut.skip ?_ | (refine' Cut.tail ?zzzt ?_; (case zzzt => k_ne))))))))
    | walk1
    | (dsimp only; walk1))
  refine hret (.bytes _ _) _ _ ?ext ⟨_, _, rfl, ?eq⟩
  case ext => exact ext_end N (by assumption) (by assumption) (by assumption) (by (repeat' first | assumption | exact sub_refl | refine' sub_tail ?_))
  case eq => exact ⟨by assumption, rfl, low_mod⟩
end Mine

namespace Mine

set_option maxRecDepth 100000 in
theorem round4 {w : World} {x y : Array UInt8} {t t' : Tok} {a b : List Int} (ha : Row x a) (hb : Row y b) :
    Tell w 24 87 [] [.bytes x t, .bytes y t'] (fun _ _ v => ∃ (b' : Array UInt8) (t : Tok), v = .bytes b' t ∧ Row b' (rnd a b)) := by
  intro p loose mean mg mb c1 c2 o1 o2 vs1 vs2 t1 t2 dp un cn cs a₀ ccd cl outer A₀ base h₀ L m s Q E hd1 hv1 hd2 hv2 B F X N T hk hdp hun hret
  generalize htau : tabs c1 c2 o1 o2 = tau at N
  have M : ∀ q ∈ tabs c1 c2 o1 o2, q ∈ tau := htau ▸ sub_refl
  clear htau
  revert X; k_fill; intro X
  refine wpAny_call ?_
  k_dflt (first | (refine' enter_all ?zzk1 ?zzk2 ?zzk3 ?zzk4 ?zzk5 ?zzkA ?zzkF ?zzkK ?zzk6 ?zzk7 ?zzk8 ?zzk9 ?zzkB ?_ ?zzc2 ?zzc3 ?zzc4 ?zzc5; (case zzkA => exact rfl); (case zzkF => exact rfl); (case zzkK => first | exact rfl | assumption); (case zzk1 => k_asm); (case zzk2 => k_asm); (case zzk3 => k_asm); (case zzk4 => k_asm); (case zzk5 => k_asm); (case zzk6 => k_is); (case zzk7 => k_is); (case zzk8 => k_room); (case zzk9 => exact BindsTo.of_eq rfl); (case zzc5 => decide); (case zzkB => exact locs rfl); (case zzc2 => exact rfl); (case zzc3 => exact rfl); (case zzc4 => exact rfl); k_whole; intro g' L' h' hext hLs hLL FG' F' N' B' X' T' l1; (try dsimp only [tabs, List.nil_append, List.cons_append] at N' l1); (try dsimp only); (try (replace l1 := allLt_of l1; (try dsimp only [AllLt] at l1))); (try k_lt2 hLL); (try k_fold)) | (refine' enter_allC ?zzk1 ?zzk2 ?zzk3 ?zzk4 ?zzk5 ?zzkA ?zzkF ?zzkK ?zzk6 ?zzk7 ?zzk8 ?zzk9 ?zzkB ?zzkD ?_ ?zzc2 ?zzc3 ?zzc4; (case zzkA => exact rfl); (case zzkF => exact rfl); (case zzkK => first | exact rfl | assumption); (case zzk1 => k_asm); (case zzk2 => k_asm); (case zzk3 => k_asm); (case zzk4 => k_asm); (case zzk5 => k_asm); (case zzk6 => k_is); (case zzk7 => k_is); (case zzk8 => k_room); (case zzk9 => exact BindsTo.of_eq rfl); (case zzkB => exact rfl); (case zzkD => decide +kernel); (case zzc2 => exact rfl); (case zzc3 => exact rfl); (case zzc4 => exact rfl); k_whole; intro g' L' h' tk' cells' hext hLs hLL FG' F' N' Y' B' X' T' l1; (try dsimp only [tabs, List.nil_append, List.cons_append] at N' l1); (try (replace l1 := allLt_of l1; (try dsimp only [AllLt] at l1))); k_cells Y'; (try simp only [List.cons_append, List.nil_append] at N'); (try dsimp only); (try k_fold)))
  repeat' (first
    | (k_unfold; (try dsimp only))
    | ((with_reducible show EltEnd _ _ _ _ _ _ _ _); (first | (refine' elt_end ?zzF ?zzN ?zze; (case zzF => assumption); (case zzN => assumption); (case zze => first | with_reducible rfl | assumption | exact Eq.symm (tab4_get (by assumption)))) | (refine' eltEnd ?zzF ?zzN ?zzS ?zze; (case zzF => assumption); (case zzN => assumption); (case zzS => (repeat' first | assumption | exact sub_refl | refine' sub_tail ?_)); (case zze => first | with_reducible rfl | assumption | exact Eq.symm (tab4_get (by assumption))))))
    | (with_reducible refine hZ3 _ _ ?_; clear hZ3; (try clear Qz); (try dsimp only)) | (with_reducible refine hZ1 _ ?_; clear hZ1 hZ2; (try clear Qz Ez); (try dsimp only)) | (with_reducible refine hZ2 _ _ ?_; clear hZ1 hZ2; (try clear Qz Ez); (try dsimp only))
    | ((with_reducible show wpAny _ _ (eval _ _) _ _ _); first
          | ((with_reducible show wpAny _ _ (eval (Expr.Name _ _) _) _ _ _); (k_here; (fail_if_success (with_reducible show wpAny _ _ (eval (Expr.Name _ _) (compEnvC _ _ _ _)) _ _ _)); k_dflt (first | (refine' nameX_L ?zzF ?zzhv ?_ ?zzhk ?zzhx ?zzhd; (case zzhx => exact rfl); (case zzhk => exact rfl); (case zzhd => decide); (case zzF => k_asm); (case zzhv => exact rfl); k_whole) | (refine' nameX_K ?zzF ?zzX ?zzT ?zze ?_ ?zzhk ?zzhx ?zzhd; (case zzhx => exact rfl); (case zzhk => exact rfl); (case zzhd => decide); (case zzF => k_asm); (case zzX => with_reducible assumption); (case zzT => exact topRead_of (by with_reducible assumption)); (case zze => k_is); k_whole) | (refine' nameX_B ?zzF ?zzX ?zzT ?zze ?zzv ?zzzn ?_ ?zzhk ?zzhx ?zzhd; (case zzhx => exact rfl); (case zzhk => exact rfl); (case zzhd => decide); (case zzF => k_asm); (case zzX => with_reducible assumption); (case zzT => exact topRead_of (by with_reducible assumption)); (case zze => k_is); (case zzv => boot_fast); (case zzzn => decide); k_whole) | (refine' nameX_F ?zzN ?zzc ?zzm ?zzd ?_ ?zzhk ?zzhx ?zzhb ?zzhn; (case zzhx => exact rfl); (case zzhk => exact rfl); (case zzhb => decide); (case zzhn => decide); (case zzN => k_asm); (case zzc => rfl); (case zzm => k_mem); (case zzd => k_asm); k_whole) | (refine' nameX_C ?zzN ?zzc ?zzm ?zzd ?_ ?zzhk ?zzhx ?zzhb; (case zzhx => exact rfl); (case zzhk => exact rfl); (case zzhb => decide); (case zzN => k_asm); (case zzc => rfl); (case zzm => k_mem); (case zzd => k_asm); k_whole)))))
    | ((with_reducible show wpAny _ _ (execs _ _) _ _ _); first
          | ((fail_if_success (with_reducible show wpAny _ _ (execs (Stmt.For _ _ _ _ _ :: _) _) _ _ _)); (try k_gentoks); with_reducible refine execs_cut ?_; intro Qz Ez hZ1 hZ2))
    | walk1
    | (dsimp only; walk1))
  k_dflt (refine' ListComp_K (n := 4) (zs := rnd a b) ?hF ?hclos ?hkind ?hnames ?hcf ?hpc ?hx ?hzs ?hsz ?hsm ?hrs ?_)
  case hF => k_asm
  case hclos => with_unfolding_all rfl
  case hkind => rfl
  case hnames => decide
  case hcf => exact fun _ => rfl
  case hpc => exact fun _ => rfl
  case hx => with_unfolding_all rfl
  case hzs => rfl
  case hsz => decide
  case hsm => decide
  case hrs => decide
  repeat' ((with_reducible show wpAny _ _ _ _ _ _); (first
    | (k_unfold; (try dsimp only))
    | ((with_reducible show EltEnd _ _ _ _ _ _ _ _); (first | (refine' elt_end ?zzF ?zzN ?zze; (case zzF => assumption); (case zzN => assumption); (case zze => first | with_reducible rfl | assumption | exact Eq.symm (tab4_get (by assumption)))) | (refine' eltEnd ?zzF ?zzN ?zzS ?zze; (case zzF => assumption); (case zzN => assumption); (case zzS => (repeat' first | assumption | exact sub_refl | refine' sub_tail ?_)); (case zze => first | with_reducible rfl | assumption | exact Eq.symm (tab4_get (by assumption))))))
    | (with_reducible refine hZ3 _ _ ?_; clear hZ3; (try clear Qz); (try dsimp only)) | (with_reducible refine hZ1 _ ?_; clear hZ1 hZ2; (try clear Qz Ez); (try dsimp only)) | (with_reducible refine hZ2 _ _ ?_; clear hZ1 hZ2; (try clear Qz Ez); (try dsimp only))
    | ((with_reducible show wpAny _ _ (eval _ _) _ _ _); first
          | ((with_reducible show wpAny _ _ (eval (Expr.Name _ _) _) _ _ _); (k_here; (fail_if_success (with_reducible show wpAny _ _ (eval (Expr.Name _ _) (compEnvC _ _ _ _)) _ _ _)); k_dflt (first | (refine' nameX_L ?zzF ?zzhv ?_ ?zzhk ?zzhx ?zzhd; (case zzhx => exact rfl); (case zzhk => exact rfl); (case zzhd => decide); (case zzF => k_asm); (case zzhv => exact rfl); k_whole) | (refine' nameX_K ?zzF ?zzX ?zzT ?zze ?_ ?zzhk ?zzhx ?zzhd; (case zzhx => exact rfl); (case zzhk => exact rfl); (case zzhd => decide); (case zzF => k_asm); (case zzX => with_reducible assumption); (case zzT => exact topRead_of (by with_reducible assumption)); (case zze => k_is); k_whole) | (refine' nameX_B ?zzF ?zzX ?zzT ?zze ?zzv ?zzzn ?_ ?zzhk ?zzhx ?zzhd; (case zzhx => exact rfl); (case zzhk => exact rfl); (case zzhd => decide); (case zzF => k_asm); (case zzX => with_reducible assumption); (case zzT => exact topRead_of (by with_reducible assumption)); (case zze => k_is); (case zzv => boot_fast); (case zzzn => decide); k_whole) | (refine' nameX_F ?zzN ?zzc ?zzm ?zzd ?_ ?zzhk ?zzhx ?zzhb ?zzhn; (case zzhx => exact rfl); (case zzhk => exact rfl); (case zzhb => decide); (case zzhn => decide); (case zzN => k_asm); (case zzc => rfl); (case zzm => k_mem); (case zzd => k_asm); k_whole) | (refine' nameX_C ?zzN ?zzc ?zzm ?zzd ?_ ?zzhk ?zzhx ?zzhb; (case zzhx => exact rfl); (case zzhk => exact rfl); (case zzhb => decide); (case zzN => k_asm); (case zzc => rfl); (case zzm => k_mem); (case zzd => k_asm); k_whole)))))
    | walk1
    | (dsimp only; walk1)))
  refine ⟨_, _, _, _, _, rfl, rfl, by k_asm, by k_asm, by assumption, ?turn, ?fin⟩
  case turn =>
    intro i ty I oI C oC c oc D ys h tk E' hi hoc F' N' hI hID hDC hCc
    have hI' := allLt_of hI
    dsimp only [AllLt] at hI'
    have sl := sum_low (g := fun j => (((i : Int) - (0 + (j : Int))) % 4).toNat) ha.2.2 hb.2.2
    repeat' (first
    | (k_unfold; (try dsimp only))
    | ((with_reducible show EltEnd _ _ _ _ _ _ _ _); (first | (refine' elt_end ?zzF ?zzN ?zze; (case zzF => assumption); (case zzN => assumption); (case zze => first | with_reducible rfl | assumption | exact Eq.symm (tab4_get (by assumption)))) | (refine' eltEnd ?zzF ?zzN ?zzS ?zze; (case zzF => assumption); (case zzN => assumption); (case zzS => (repeat' first | assumption | exact sub_refl | refine' sub_tail ?_)); (case zze => first | with_reducible rfl | assumption | exact Eq.symm (tab4_get (by assumption))))))
    | (with_reducible refine hZ3 _ _ ?_; clear hZ3; (try clear Qz); (try dsimp only)) | (with_reducible refine hZ1 _ ?_; clear hZ1 hZ2; (try clear Qz Ez); (try dsimp only)) | (with_reducible refine hZ2 _ _ ?_; clear hZ1 hZ2; (try clear Qz Ez); (try dsimp only))
    | ((with_reducible show wpAny _ _ (eval _ _) _ _ _); first
          | ((with_reducible show wpAny _ _ (eval (Expr.Name _ _) _) _ _ _); (k_here; (with_reducible show wpAny _ _ (eval (Expr.Name _ _) (compEnvC _ _ _ _)) _ _ _); k_dflt (first | refine LCgL.ld_own (by k_asm) (by k_mem) (by assumption) (by assumption) ?_ | (refine' lcf_cell ?zzN ?zzc ?zzm ?zzd ?_ ?zza ?zzb; (case zza => rfl); (case zzb => rfl); (case zzN => k_asm); (case zzc => rfl); (case zzm => k_mem); (case zzd => k_asm); k_whole) | (refine' lcf_free ?zzN ?zzc ?zzm ?zzd ?_ ?zza ?zzb; (case zza => rfl); (case zzb => rfl); (case zzN => k_asm); (case zzc => rfl); (case zzm => k_mem); (case zzd => k_asm); k_whole) | refine LCgL.ld_global (by k_asm) (by k_asm) (by k_asm) (by k_is) ?_ | refine LCgL.ld_built (by k_asm) (by k_asm) (by k_asm) (by k_is) (by boot_by_name) (by decide) ?_)))
          | ((with_reducible show wpAny _ _ (eval (Expr.ListComp _ _ _ _) _) _ _ _); (k_here; k_dflt (refine LCg.ListComp_U (F₀ := by k_asm) (by with_unfolding_all rfl) (by decide) (by rfl) (by decide) (by rfl) ?_))))
    | ((with_reducible show wpAny _ _ (call _ _ _) _ _ _); first
          | ((with_reducible show wpAny _ _ (call (Value.ref _) _ _) _ _ _); ((with_reducible show wpAny _ _ (call (Value.ref 70) [Value.int _ _] _) _ _ _); (refine' Tell.int (rest ?zzkn0 ?zzkn1) ?zzk1 ?zzk2 ?zzk3 ?zzk4 ?zzk5 ?zzkK ?zzv2 ?zzv1 ?zzv4 ?zzv3 ?zzkM ?zzkd ?zzku ?_; (case zzkK => exact rfl); (case zzk1 => k_asm); (case zzk2 => k_asm); (case zzk3 => k_asm); (case zzk4 => k_asm); (case zzk5 => k_asm); (case zzv2 => assumption); (case zzv1 => assumption); (case zzv4 => assumption); (case zzv3 => assumption); (case zzkM => (repeat' first | assumption | exact sub_refl | refine' sub_tail ?_)); (case zzkd => k_room); (case zzku => ktr_units); (case zzkn0 => omega); (case zzkn1 => omega)); intro zt h' tk' F' N'; (try k_sweep))))
    | ((with_reducible show wpAny _ _ (binaryOp _ _ _) _ _ _); first
          | ((with_reducible show wpAny _ _ (binaryOp Operator.Mult _ _) _ _ _); ((refine mul17_d (Row.at (by assumption) _) (Row.at (by assumption) _) ?_)))
          | ((with_reducible show wpAny _ _ (binaryOp Operator.Mod _ _) _ _ _); k_dflt (first | (refine mod_closed (by decide) (by decide) ?_) | (refine mod_small (by omega) (by omega) ?_) | (refine mod_is (by decide) ?_))))
    | ((with_reducible show wpAny _ _ _ _ _ _); (fail_if_success (with_reducible show wpAny _ _ (eval _ _) _ _ _)); (fail_if_success (with_reducible show wpAny _ _ (execs _ _) _ _ _)); first
          | ((with_reducible show wpAny _ _ (subscriptTail _ _ _ _) _ _ _); ((k_here; (with_reducible show wpAny _ _ (subscriptTail _ _ (Value.bytes _ _) (Value.int _ _)) _ _ _); k_dflt (first | (refine' at_bytes_i i9 ?zzhi ?zzhb ?zzhz ?zzhk ?_ ?zzhs ?zzht; (case zzhi => omega); (case zzhb => exact Row.ints (by assumption)); (case zzhz => exact Row.len (by assumption)); (case zzhk => assumption)) | (refine' at_bytes_m ?zzhb ?zzhz ?_ ?zzhs ?zzht; (case zzhb => exact Row.ints (by assumption)); (case zzhz => exact Row.len (by assumption)))); (case zzhs => with_unfolding_all rfl); (case zzht => (intro _; with_unfolding_all rfl)); intro _ _)))
          | ((with_reducible show wpAny _ _ (callWith _ (Value.ref _) _ _ _) _ _ _); (k_here; k_dflt (refine' callWith_K ?zzk1 ?zzk2 ?_; (case zzk1 => with_reducible assumption); (case zzk2 => k_is); k_whole))))
    | ((fail_if_success (with_reducible show wpAny _ _ _ _ _ _)); first
          | ((with_reducible show LCg.CompSrc _ _ _ _ _ _ _ _ _ _ _ _ _ _); ((k_here; k_dflt (first | (refine LCg.CompSrc.range (n := 4) (by rfl) (by k_asm) (by k_asm) (by assumption) (by first | decide | rfl) (by first | rfl | decide) (by exact Nat.le_of_ble_eq_true rfl) ?_; intro g'; refine' comp_range (tab4 (fun j => a.getD j 0 * b.getD (((i : Int) - (0 + (j : Int))) % 4).toNat 0)) rfl (fun i9 t9 I9 oI9 C9 oC9 D9 ys9 m9 h9 k9 E9 hi9 hC9 hx9 F9 N9 => ?_) (fun ys9 hy9 => ?_)))))))
    | walk1
    | (dsimp only; walk1))
  case fin =>
    intro D h tk ys F' N' hys hD hLD
    replace hD := allLt_of hD
    (try dsimp only [AllLt] at hD)
    repeat' (first
    | (k_unfold; (try dsimp only))
    | ((with_reducible show EltEnd _ _ _ _ _ _ _ _); (first | (refine' elt_end ?zzF ?zzN ?zze; (case zzF => assumption); (case zzN => assumption); (case zze => first | with_reducible rfl | assumption | exact Eq.symm (tab4_get (by assumption)))) | (refine' eltEnd ?zzF ?zzN ?zzS ?zze; (case zzF => assumption); (case zzN => assumption); (case zzS => (repeat' first | assumption | exact sub_refl | refine' sub_tail ?_)); (case zze => first | with_reducible rfl | assumption | exact Eq.symm (tab4_get (by assumption))))))
    | (with_reducible refine hZ3 _ _ ?_; clear hZ3; (try clear Qz); (try dsimp only)) | (with_reducible refine hZ1 _ ?_; clear hZ1 hZ2; (try clear Qz Ez); (try dsimp only)) | (with_reducible refine hZ2 _ _ ?_; clear hZ1 hZ2; (try clear Qz Ez); (try dsimp only))
    | ((with_reducible show wpAny _ _ (call _ _ _) _ _ _); first
          | ((with_reducible show wpAny _ _ (call (Value.type _) _ _) _ _ _); ((with_reducible show wpAny _ _ (call (Value.type "bytes") [Value.ref _]) _ _ _); (refine' bytes_of ?zzF ?zzN ?zzh ?zzm ?zzi ?zzr ?zzz ?_; (case zzF => k_asm); (case zzN => k_asm); (case zzh => exact rfl); (case zzm => k_mem); (case zzi => first | assumption | (repeat constructor)); (case zzr => first | assumption | exact mod_in | exact low_in rfl (by assumption) | (repeat' (first | exact in_nil | refine in_cons (by omega) (by omega) ?_))); (case zzz => exact rfl)); intro b' t' h' k' hb' F' N'; (try k_sweep))))
    | walk1
    | (dsimp only; walk1))
    refine hret (.bytes _ _) _ _ ?ext ⟨_, _, rfl, ?eq⟩
    case ext => exact ext_end N (by assumption) (by assumption) (by assumption) (by (repeat' first | assumption | exact sub_refl | refine' sub_tail ?_))
    case eq => exact ⟨by assumption, rfl, low_mod⟩
end Mine

namespace Mine

set_option maxRecDepth 100000 in
theorem halv1 {w : World} {b : Array UInt8} {t t' : Tok} {a0 r : Int} (hb : KBw.bInts b = [a0]) (h0 : 0 ≤ a0 ∧ a0 < 17) :
    Tell w 22 82 [] [.bytes b t, .int r t'] (LPost [a0]) := by
  intro p loose mean mg mb c1 c2 o1 o2 vs1 vs2 t1 t2 dp un cn cs a ccd cl outer A₀ base h₀ L m s Q E hd1 hv1 hd2 hv2 B F X N T hk hdp hun hret
  generalize htau : tabs c1 c2 o1 o2 = tau at N
  have M : ∀ q ∈ tabs c1 c2 o1 o2, q ∈ tau := htau ▸ sub_refl
  clear htau
  revert X; k_fill; intro X
  refine wpAny_call ?_
  (refine' enter_all ?zzk1 ?zzk2 ?zzk3 ?zzk4 ?zzk5 ?zzkA ?zzkF ?zzkK ?zzk6 ?zzk7 ?zzk8 ?zzk9 ?zzkB ?_ ?zzc2 ?zzc3 ?zzc4 ?zzc5; (case zzkA => exact rfl); (case zzkF => exact rfl); (case zzkK => first | exact rfl | assumption); (case zzk1 => k_asm); (case zzk2 => k_asm); (case zzk3 => k_asm); (case zzk4 => k_asm); (case zzk5 => k_asm); (case zzk6 => k_is); (case zzk7 => k_is); (case zzk8 => k_room); (case zzk9 => exact BindsTo.of_eq rfl); (case zzc5 => decide); (case zzkB => exact locs rfl); (case zzc2 => exact rfl); (case zzc3 => exact rfl); (case zzc4 => exact rfl); k_whole; intro g' L' h' hext hLs hLL FG' F' N' B' X' T' l1; (try dsimp only [tabs, List.nil_append, List.cons_append] at N' l1); (try dsimp only); (try (replace l1 := allLt_of l1; (try dsimp only [AllLt] at l1))); (try k_lt2 hLL); (try k_fold))
  repeat' (first
    | (k_unfold; (try dsimp only))
    | ((with_reducible show EltEnd _ _ _ _ _ _ _ _); (first | (refine' elt_end ?zzF ?zzN ?zze; (case zzF => assumption); (case zzN => assumption); (case zze => first | with_reducible rfl | assumption | exact Eq.symm (tab4_get (by assumption)))) | (refine' eltEnd ?zzF ?zzN ?zzS ?zze; (case zzF => assumption); (case zzN => assumption); (case zzS => (repeat' first | assumption | exact sub_refl | refine' sub_tail ?_)); (case zze => first | with_reducible rfl | assumption | exact Eq.symm (tab4_get (by assumption))))))
    | (with_reducible refine hZ3 _ _ ?_; clear hZ3; (try clear Qz); (try dsimp only)) | (with_reducible refine hZ1 _ ?_; clear hZ1 hZ2; (try clear Qz Ez); (try dsimp only)) | (with_reducible refine hZ2 _ _ ?_; clear hZ1 hZ2; (try clear Qz Ez); (try dsimp only))
    | ((with_reducible show wpAny _ _ (eval _ _) _ _ _); first
          | (((first | (with_reducible show wpAny _ _ (eval (Expr.Call _ _ _ _) _) _ _ _) | (with_reducible show wpAny _ _ (eval (Expr.BinOp _ _ _ _) _) _ _ _) | (with_reducible show wpAny _ _ (eval (Expr.Tuple _ _ _) _) _ _ _) | (with_reducible show wpAny _ _ (eval (Expr.List _ _ _) _) _ _ _) | (with_reducible show wpAny _ _ (eval (Expr.Subscript _ _ _) _) _ _ _) | (with_reducible show wpAny _ _ (eval (Expr.Compare _ _ _ _) _) _ _ _)); with_reducible refine cutQ ?_; intro Qz hZ3))
          | ((with_reducible show wpAny _ _ (eval (Expr.Name _ _) _) _ _ _); (k_here; (fail_if_success (with_reducible show wpAny _ _ (eval (Expr.Name _ _) (compEnvC _ _ _ _)) _ _ _)); k_dflt (first | (refine' nameX_L ?zzF ?zzhv ?_ ?zzhk ?zzhx ?zzhd; (case zzhx => exact rfl); (case zzhk => exact rfl); (case zzhd => decide); (case zzF => k_asm); (case zzhv => exact rfl); k_whole) | (refine' nameX_K ?zzF ?zzX ?zzT ?zze ?_ ?zzhk ?zzhx ?zzhd; (case zzhx => exact rfl); (case zzhk => exact rfl); (case zzhd => decide); (case zzF => k_asm); (case zzX => with_reducible assumption); (case zzT => exact topRead_of (by with_reducible assumption)); (case zze => k_is); k_whole) | (refine' nameX_B ?zzF ?zzX ?zzT ?zze ?zzv ?zzzn ?_ ?zzhk ?zzhx ?zzhd; (case zzhx => exact rfl); (case zzhk => exact rfl); (case zzhd => decide); (case zzF => k_asm); (case zzX => with_reducible assumption); (case zzT => exact topRead_of (by with_reducible assumption)); (case zze => k_is); (case zzv => boot_fast); (case zzzn => decide); k_whole) | (refine' nameX_F ?zzN ?zzc ?zzm ?zzd ?_ ?zzhk ?zzhx ?zzhb ?zzhn; (case zzhx => exact rfl); (case zzhk => exact rfl); (case zzhb => decide); (case zzhn => decide); (case zzN => k_asm); (case zzc => rfl); (case zzm => k_mem); (case zzd => k_asm); k_whole) | (refine' nameX_C ?zzN ?zzc ?zzm ?zzd ?_ ?zzhk ?zzhx ?zzhb; (case zzhx => exact rfl); (case zzhk => exact rfl); (case zzhb => decide); (case zzN => k_asm); (case zzc => rfl); (case zzm => k_mem); (case zzd => k_asm); k_whole)))))
    | ((with_reducible show wpAny _ _ (call _ _ _) _ _ _); first
          | ((with_reducible show wpAny _ _ (call (Value.type _) _ _) _ _ _); (k_here; (with_reducible show wpAny _ _ (call (Value.type "list") [Value.bytes _ _]) _ _ _); k_dflt (first | (refine' list_bytes1 ?zzhF ?zzhN ?zzhh ?zzhb ?_; (case zzhF => k_asm); (case zzhN => k_asm); (case zzhh => exact rfl); (case zzhb => assumption); (intro zD h' k' zu0 zc zsz zL zext F' N' l1)) | (refine' list_bytes4 ?zzhF ?zzhN ?zzhh ?zzhb ?_; (case zzhF => k_asm); (case zzhN => k_asm); (case zzhh => exact rfl); (case zzhb => assumption); (intro zD h' k' zu0 zu1 zu2 zu3 zc zsz zL zext F' N' l1))); (replace l1 := allLt_of l1; (try dsimp only [AllLt] at l1)); (try dsimp only)))
          | ((with_reducible show wpAny _ _ (call (Value.builtin _) _ _) _ _ _); (k_here; (with_reducible show wpAny _ _ (call (Value.builtin _) [Value.bytes _ _]) _ _ _); k_dflt (first | (refine' len1 ?zzhb ?_; (case zzhb => assumption)) | (refine' len2 ?zzhb ?_; (case zzhb => assumption)) | (refine' len3 ?zzhb ?_; (case zzhb => assumption)) | (refine' len4 ?zzhb ?_; (case zzhb => assumption))); intro t' k'; (try dsimp only))))
    | ((with_reducible show wpAny _ _ (execs _ _) _ _ _); first
          | (((with_reducible rename Fr _ _ _ (fun y => List.lookup y _) => Fz); refine' canon0 Fz ?zze ?_; (case zze => first | exact @rfl _ [(_, _)] | exact @rfl _ [(_, _), (_, _)] | exact @rfl _ [(_, _), (_, _), (_, _)] | exact @rfl _ [(_, _), (_, _), (_, _), (_, _)]); clear Fz; intro F'))
          | ((fail_if_success (with_reducible show wpAny _ _ (execs (Stmt.For _ _ _ _ _ :: _) _) _ _ _)); (try k_gentoks); with_reducible refine execs_cut ?_; intro Qz Ez hZ1 hZ2))
    | walk1
    | (dsimp only; walk1))
  refine' hret (.ref _) _ _ ?ext ⟨_, ?zys, ?zcc, rfl, ?sz, ?gt, ?iz⟩
  case ext => exact ext_end N (by assumption) (by assumption) (by assumption) (by (repeat' first | assumption | exact sub_refl | refine' sub_tail ?_))
  case gt => exact News.get (by assumption) (by k_mem)
  case sz => first | exact size_le (by assumption) (by assumption) | omega
  case iz => exact ints_to (by repeat constructor) (four_1 (by omega))
end Mine

namespace Mine

set_option maxRecDepth 100000 in
theorem halv2 {w : World} {b : Array UInt8} {t t' : Tok} {a0 a1 : Int} (hb : KBw.bInts b = [a0, a1]) (h0 : 0 ≤ a0 ∧ a0 < 17) (h1 : 0 ≤ a1 ∧ a1 < 17) :
    Tell w 24 82 [] [.bytes b t, .int 16 t'] (LPost [(a0 + a1) % 17, (a0 - a1) % 17]) := by
  intro p loose mean mg mb c1 c2 o1 o2 vs1 vs2 t1 t2 dp un cn cs a ccd cl outer A₀ base h₀ L m s Q E hd1 hv1 hd2 hv2 B F X N T hk hdp hun hret
  generalize htau : tabs c1 c2 o1 o2 = tau at N
  have M : ∀ q ∈ tabs c1 c2 o1 o2, q ∈ tau := htau ▸ sub_refl
  clear htau
  revert X; k_fill; intro X
  refine wpAny_call ?_
  (refine' enter_all ?zzk1 ?zzk2 ?zzk3 ?zzk4 ?zzk5 ?zzkA ?zzkF ?zzkK ?zzk6 ?zzk7 ?zzk8 ?zzk9 ?zzkB ?_ ?zzc2 ?zzc3 ?zzc4 ?zzc5; (case zzkA => exact rfl); (case zzkF => exact rfl); (case zzkK => first | exact rfl | assumption); (case zzk1 => k_asm); (case zzk2 => k_asm); (case zzk3 => k_asm); (case zzk4 => k_asm); (case zzk5 => k_asm); (case zzk6 => k_is); (case zzk7 => k_is); (case zzk8 => k_room); (case zzk9 => exact BindsTo.of_eq rfl); (case zzc5 => decide); (case zzkB => exact locs rfl); (case zzc2 => exact rfl); (case zzc3 => exact rfl); (case zzc4 => exact rfl); k_whole; intro g' L' h' hext hLs hLL FG' F' N' B' X' T' l1; (try dsimp only [tabs, List.nil_append, List.cons_append] at N' l1); (try dsimp only); (try (replace l1 := allLt_of l1; (try dsimp only [AllLt] at l1))); (try k_lt2 hLL); (try k_fold))
  repeat' (first
    | (k_unfold; (try dsimp only))
    | ((with_reducible show EltEnd _ _ _ _ _ _ _ _); (first | (refine' elt_end ?zzF ?zzN ?zze; (case zzF => assumption); (case zzN => assumption); (case zze => first | with_reducible rfl | assumption | exact Eq.symm (tab4_get (by assumption)))) | (refine' eltEnd ?zzF ?zzN ?zzS ?zze; (case zzF => assumption); (case zzN => assumption); (case zzS => (repeat' first | assumption | exact sub_refl | refine' sub_tail ?_)); (case zze => first | with_reducible rfl | assumption | exact Eq.symm (tab4_get (by assumption))))))
    | (with_reducible refine hZ3 _ _ ?_; clear hZ3; (try clear Qz); (try dsimp only)) | (with_reducible refine hZ1 _ ?_; clear hZ1 hZ2; (try clear Qz Ez); (try dsimp only)) | (with_reducible refine hZ2 _ _ ?_; clear hZ1 hZ2; (try clear Qz Ez); (try dsimp only))
    | ((with_reducible show wpAny _ _ (eval _ _) _ _ _); first
          | (((first | (with_reducible show wpAny _ _ (eval (Expr.Call _ _ _ _) _) _ _ _) | (with_reducible show wpAny _ _ (eval (Expr.BinOp _ _ _ _) _) _ _ _) | (with_reducible show wpAny _ _ (eval (Expr.Tuple _ _ _) _) _ _ _) | (with_reducible show wpAny _ _ (eval (Expr.List _ _ _) _) _ _ _) | (with_reducible show wpAny _ _ (eval (Expr.Subscript _ _ _) _) _ _ _) | (with_reducible show wpAny _ _ (eval (Expr.Compare _ _ _ _) _) _ _ _)); with_reducible refine cutQ ?_; intro Qz hZ3))
          | ((with_reducible show wpAny _ _ (eval (Expr.Name _ _) _) _ _ _); (k_here; (fail_if_success (with_reducible show wpAny _ _ (eval (Expr.Name _ _) (compEnvC _ _ _ _)) _ _ _)); k_dflt (first | (refine' nameX_L ?zzF ?zzhv ?_ ?zzhk ?zzhx ?zzhd; (case zzhx => exact rfl); (case zzhk => exact rfl); (case zzhd => decide); (case zzF => k_asm); (case zzhv => exact rfl); k_whole) | (refine' nameX_K ?zzF ?zzX ?zzT ?zze ?_ ?zzhk ?zzhx ?zzhd; (case zzhx => exact rfl); (case zzhk => exact rfl); (case zzhd => decide); (case zzF => k_asm); (case zzX => with_reducible assumption); (case zzT => exact topRead_of (by with_reducible assumption)); (case zze => k_is); k_whole) | (refine' nameX_B ?zzF ?zzX ?zzT ?zze ?zzv ?zzzn ?_ ?zzhk ?zzhx ?zzhd; (case zzhx => exact rfl); (case zzhk => exact rfl); (case zzhd => decide); (case zzF => k_asm); (case zzX => with_reducible assumption); (case zzT => exact topRead_of (by with_reducible assumption)); (case zze => k_is); (case zzv => boot_fast); (case zzzn => decide); k_whole) | (refine' nameX_F ?zzN ?zzc ?zzm ?zzd ?_ ?zzhk ?zzhx ?zzhb ?zzhn; (case zzhx => exact rfl); (case zzhk => exact rfl); (case zzhb => decide); (case zzhn => decide); (case zzN => k_asm); (case zzc => rfl); (case zzm => k_mem); (case zzd => k_asm); k_whole) | (refine' nameX_C ?zzN ?zzc ?zzm ?zzd ?_ ?zzhk ?zzhx ?zzhb; (case zzhx => exact rfl); (case zzhk => exact rfl); (case zzhb => decide); (case zzN => k_asm); (case zzc => rfl); (case zzm => k_mem); (case zzd => k_asm); k_whole)))))
    | ((with_reducible show wpAny _ _ (call _ _ _) _ _ _); first
          | ((with_reducible show wpAny _ _ (call (Value.ref _) _ _) _ _ _); ((with_reducible show wpAny _ _ (call (Value.ref _) [Value.bytes _ _, _] _) _ _ _); (refine' Tell.list1 (halv1 ?zzhb ?zzhh0) ?zzk1 ?zzk2 ?zzk3 ?zzk4 ?zzk5 ?zzkK ?zzv2 ?zzv1 ?zzv4 ?zzv3 ?zzkM ?zzkd ?zzku ?_; (case zzkK => exact rfl); (case zzk1 => k_asm); (case zzk2 => k_asm); (case zzk3 => k_asm); (case zzk4 => k_asm); (case zzk5 => k_asm); (case zzv2 => assumption); (case zzv1 => assumption); (case zzv4 => assumption); (case zzv3 => assumption); (case zzkM => (repeat' first | assumption | exact sub_refl | refine' sub_tail ?_)); (case zzkd => k_room); (case zzku => ktr_units); (case zzhb => assumption); (case zzhh0 => first | assumption | omega)); intro zD zu0 zc h' tk' F' N' l1 zL; (replace l1 := allLt_of l1; (try dsimp only [AllLt] at l1)); (try dsimp only); (try k_sweep)))
          | ((with_reducible show wpAny _ _ (call (Value.builtin _) _ _) _ _ _); (k_here; (with_reducible show wpAny _ _ (call (Value.builtin _) [Value.bytes _ _]) _ _ _); k_dflt (first | (refine' len1 ?zzhb ?_; (case zzhb => assumption)) | (refine' len2 ?zzhb ?_; (case zzhb => assumption)) | (refine' len3 ?zzhb ?_; (case zzhb => assumption)) | (refine' len4 ?zzhb ?_; (case zzhb => assumption))); intro t' k'; (try dsimp only)))
          | ((with_reducible show wpAny _ _ (call (Value.ref _) _ _) _ _ _); ((with_reducible show wpAny _ _ (call (Value.ref 70) [Value.int _ _] _) _ _ _); (refine' Tell.int (rest ?zzkn0 ?zzkn1) ?zzk1 ?zzk2 ?zzk3 ?zzk4 ?zzk5 ?zzkK ?zzv2 ?zzv1 ?zzv4 ?zzv3 ?zzkM ?zzkd ?zzku ?_; (case zzkK => exact rfl); (case zzk1 => k_asm); (case zzk2 => k_asm); (case zzk3 => k_asm); (case zzk4 => k_asm); (case zzk5 => k_asm); (case zzv2 => assumption); (case zzv1 => assumption); (case zzv4 => assumption); (case zzv3 => assumption); (case zzkM => (repeat' first | assumption | exact sub_refl | refine' sub_tail ?_)); (case zzkd => k_room); (case zzku => ktr_units); (case zzkn0 => omega); (case zzkn1 => omega)); intro zt h' tk' F' N'; (try k_sweep))))
    | ((with_reducible show wpAny _ _ (binaryOp _ _ _) _ _ _); first
          | ((with_reducible show wpAny _ _ (binaryOp Operator.Pow _ _) _ _ _); (k_dflt (first | (refine' pow_is 0 ?zzzb ?zzzj ?zzza ?zzze ?_; (case zzzb => first | exact rfl | omega); (case zzzj => decide); (case zzza => decide); (case zzze => (simp only [Int.reducePow]; exact rfl))) | (refine' pow_is 1 ?zzzb ?zzzj ?zzza ?zzze ?_; (case zzzb => first | exact rfl | omega); (case zzzj => decide); (case zzza => decide); (case zzze => (simp only [Int.reducePow]; exact rfl))))))
          | ((with_reducible show wpAny _ _ (binaryOp Operator.Mult _ _) _ _ _); (k_here; (with_reducible show wpAny _ _ (binaryOp Operator.Mult (Value.ref _) (Value.int _ _)) _ _ _); k_dflt (refine' KMa.mul ?zzF ?zzN ?zzl ?zzlo ?zzhi ?zzz ?zze ?_; (case zzF => k_asm); (case zzN => k_asm); (case zzl => is_list); (case zzlo => omega); (case zzhi => omega); (case zzz => (simp only [List.length_cons, List.length_nil]; decide)); (case zze => (simp only [Int.reduceToNat, Int.reduceAdd, Int.reduceMul, List.replicate_succ, List.replicate_zero, List.flatten_cons, List.flatten_nil, List.cons_append, List.nil_append, List.append_nil]; exact rfl)); k_whole); intro D' h' F' N' l1; (try (replace l1 := allLt_of l1; (try dsimp only [AllLt] at l1))); (try k_sweep))))
    | ((with_reducible show wpAny _ _ (execs _ _) _ _ _); first
          | (((with_reducible rename Fr _ _ _ (fun y => List.lookup y _) => Fz); refine' canon0 Fz ?zze ?_; (case zze => first | exact @rfl _ [(_, _)] | exact @rfl _ [(_, _), (_, _)] | exact @rfl _ [(_, _), (_, _), (_, _)] | exact @rfl _ [(_, _), (_, _), (_, _), (_, _)]); clear Fz; intro F'))
          | ((fail_if_success (with_reducible show wpAny _ _ (execs (Stmt.For _ _ _ _ _ :: _) _) _ _ _)); (try k_gentoks); with_reducible refine execs_cut ?_; intro Qz Ez hZ1 hZ2))
    | ((with_reducible show wpAny _ _ _ _ _ _); (fail_if_success (with_reducible show wpAny _ _ (eval _ _) _ _ _)); (fail_if_success (with_reducible show wpAny _ _ (execs _ _) _ _ _)); first
          | ((with_reducible show wpAny _ _ (subscriptTail _ _ _ _) _ _ _); (k_here; (with_reducible show wpAny _ _ (subscriptTail _ _ (Value.ref _) (Value.int _ _)) _ _ _); k_dflt (first | ((refine' at_list 0 ?zzk0 ?zzkz ?zzk1 ?zzk4 ?_ ?zzk6); (case zzk0 => omega); (case zzkz => decide); (case zzk1 => is_list); (case zzk4 => exact rfl); (case zzk6 => with_unfolding_all rfl); k_whole) | ((refine' at_list 1 ?zzk0 ?zzkz ?zzk1 ?zzk4 ?_ ?zzk6); (case zzk0 => omega); (case zzkz => decide); (case zzk1 => is_list); (case zzk4 => exact rfl); (case zzk6 => with_unfolding_all rfl); k_whole) | ((refine' at_list 2 ?zzk0 ?zzkz ?zzk1 ?zzk4 ?_ ?zzk6); (case zzk0 => omega); (case zzkz => decide); (case zzk1 => is_list); (case zzk4 => exact rfl); (case zzk6 => with_unfolding_all rfl); k_whole) | ((refine' at_list 3 ?zzk0 ?zzkz ?zzk1 ?zzk4 ?_ ?zzk6); (case zzk0 => omega); (case zzkz => decide); (case zzk1 => is_list); (case zzk4 => exact rfl); (case zzk6 => with_unfolding_all rfl); k_whole)); (try dsimp only)))
          | ((with_reducible show wpAny _ _ (setItem (Value.ref _) (Value.int _ _) _) _ _ _); (k_here; (with_reducible show wpAny _ _ (setItem (Value.ref _) (Value.int _ _) _) _ _ _); k_dflt (first | ((refine' set_at 0 ?zzk0 ?zzkz ?zzk1 ?zzk2 ?zzk3 ?zzk5 ?zzk6 ?_); (case zzk0 => omega); (case zzkz => decide); (case zzk1 => k_asm); (case zzk2 => k_asm); (case zzk3 => k_upd); (case zzk5 => exact Nat.le_of_ble_eq_true rfl); (case zzk6 => (simp only [List.set_cons_zero, List.set_cons_succ]; exact rfl)); k_whole) | ((refine' set_at 1 ?zzk0 ?zzkz ?zzk1 ?zzk2 ?zzk3 ?zzk5 ?zzk6 ?_); (case zzk0 => omega); (case zzkz => decide); (case zzk1 => k_asm); (case zzk2 => k_asm); (case zzk3 => k_upd); (case zzk5 => exact Nat.le_of_ble_eq_true rfl); (case zzk6 => (simp only [List.set_cons_zero, List.set_cons_succ]; exact rfl)); k_whole) | ((refine' set_at 2 ?zzk0 ?zzkz ?zzk1 ?zzk2 ?zzk3 ?zzk5 ?zzk6 ?_); (case zzk0 => omega); (case zzkz => decide); (case zzk1 => k_asm); (case zzk2 => k_asm); (case zzk3 => k_upd); (case zzk5 => exact Nat.le_of_ble_eq_true rfl); (case zzk6 => (simp only [List.set_cons_zero, List.set_cons_succ]; exact rfl)); k_whole) | ((refine' set_at 3 ?zzk0 ?zzkz ?zzk1 ?zzk2 ?zzk3 ?zzk5 ?zzk6 ?_); (case zzk0 => omega); (case zzkz => decide); (case zzk1 => k_asm); (case zzk2 => k_asm); (case zzk3 => k_upd); (case zzk5 => exact Nat.le_of_ble_eq_true rfl); (case zzk6 => (simp only [List.set_cons_zero, List.set_cons_succ]; exact rfl)); k_whole)); intro h' F' N'; (try k_sweep)))
          | ((with_reducible show wpAny _ _ (unpackItems (Value.ref _) _ _) _ _ _); (k_here; k_dflt (refine' unpackItemsN_ ?zzF ?zzN ?zzT ?zzk1 ?zzk2 ?_; (case zzF => k_asm); (case zzN => k_asm); (case zzT => refine News.isTup (by k_asm) (by k_mem)); (case zzk1 => exact rfl); (case zzk2 => exact rfl)); intro h' F' N'; (try k_dflt (replace N' := news_tail N')); (try k_sweep)))
          | ((with_reducible show wpAny _ _ (callWith _ (Value.ref _) _ _ _) _ _ _); (k_here; k_dflt (refine' callWith_K ?zzk1 ?zzk2 ?_; (case zzk1 => with_reducible assumption); (case zzk2 => k_is); k_whole)))
          | ((with_reducible show wpAny _ _ (subscriptTail _ _ _ _) _ _ _); (k_here; (with_reducible show wpAny _ _ (subscriptTail _ (Expr.Slice _ _ (some _) _) (Value.bytes _ _) (Value.ref _)) _ _ _); k_dflt (first | (refine' step2_none (s := ⟨_, _, _, _, _⟩) ?zzhF ?zzhN ?zzhb ?_; (case zzhF => k_asm); (case zzhN => k_asm); (case zzhb => assumption)) | (refine' step2_one (s := ⟨_, _, _, _, _⟩) ?zzhF ?zzhN ?zzhb ?_; (case zzhF => k_asm); (case zzhN => k_asm); (case zzhb => assumption))); intro zb h' t' k' F' N' zhb; (try dsimp only)))
          | ((with_reducible show wpAny _ _ (storeName _ _ _) _ _ _); (k_here; k_dflt (refine' storeX_L ?zzF ?zzN ?_ ?zzhk ?zzhx; (case zzhx => exact rfl); (case zzhk => exact rfl); (case zzF => k_asm); (case zzN => k_asm); k_whole; intro h' F' N'; (try k_sweep))))
          | ((with_reducible show wpAny _ _ (newList _) _ _ _); (k_here; k_dflt (refine' newList_is ?zzF ?zzN ?_ ?zzz; (case zzF => k_asm); (case zzN => k_asm); (case zzz => exact Nat.le_of_ble_eq_true rfl)); intro D' h' F' N' l1 l2; (try (replace l1 := allLt_of l1; (try dsimp only [AllLt] at l1))); (try k_lt2 l2); (try k_sweep)))
          | ((with_reducible show wpAny _ _ (newTuple _) _ _ _); (k_here; k_dflt (refine' newTuple_is ?zzF ?zzN ?_ ?zzz; (case zzF => k_asm); (case zzN => k_asm); (case zzz => exact Nat.le_of_ble_eq_true rfl)); intro D' h' F' N' l1 l2; (try (replace l1 := allLt_of l1; (try dsimp only [AllLt] at l1))); (try k_lt2 l2); (try k_sweep))))
    | ((fail_if_success (with_reducible show wpAny _ _ _ _ _ _)); first
          | ((with_reducible show UnrEnd _ _ _ _ _ _ _); (k_here; k_dflt (refine' unr_end ?zzF ?zzN ?zzU ?_; (case zzF => k_asm); (case zzN => k_asm); (case zzU => repeat' (first | (refine' Cut.head ?_; k_all) | refine' Cut.skip ?_ | (refine' Cut.tail ?zzzt ?_; (case zzzt => k_ne))))))))
    | walk1
    | (dsimp only; walk1))
  refine' hret (.ref _) _ _ ?ext ⟨_, ?zys, ?zcc, rfl, ?sz, ?gt, ?iz⟩
  case ext => exact ext_end N (by assumption) (by assumption) (by assumption) (by (repeat' first | assumption | exact sub_refl | refine' sub_tail ?_))
  case gt => exact News.get (by assumption) (by k_mem)
  case sz => first | exact size_le (by assumption) (by assumption) | omega
  case iz => exact ints_to (by repeat constructor) (four_2 (by omega) (by omega))
end Mine

namespace Mine

set_option maxRecDepth 100000 in
theorem halv4 {w : World} {b : Array UInt8} {t t' : Tok} {a0 a1 a2 a3 : Int} (hb : KBw.bInts b = [a0, a1, a2, a3]) (h0 : 0 ≤ a0 ∧ a0 < 17) (h1 : 0 ≤ a1 ∧ a1 < 17) (h2 : 0 ≤ a2 ∧ a2 < 17) (h3 : 0 ≤ a3 ∧ a3 < 17) :
    Tell w 28 82 [] [.bytes b t, .int 4 t'] (LPost [(a0 + a1 + a2 + a3) % 17, (a0 + 4 * a1 + 16 * a2 + 13 * a3) % 17, (a0 + 16 * a1 + a2 + 16 * a3) % 17, (a0 + 13 * a1 + 16 * a2 + 4 * a3) % 17]) := by
  intro p loose mean mg mb c1 c2 o1 o2 vs1 vs2 t1 t2 dp un cn cs a ccd cl outer A₀ base h₀ L m s Q E hd1 hv1 hd2 hv2 B F X N T hk hdp hun hret
  generalize htau : tabs c1 c2 o1 o2 = tau at N
  have M : ∀ q ∈ tabs c1 c2 o1 o2, q ∈ tau := htau ▸ sub_refl
  clear htau
  revert X; k_fill; intro X
  refine wpAny_call ?_
  (refine' enter_all ?zzk1 ?zzk2 ?zzk3 ?zzk4 ?zzk5 ?zzkA ?zzkF ?zzkK ?zzk6 ?zzk7 ?zzk8 ?zzk9 ?zzkB ?_ ?zzc2 ?zzc3 ?zzc4 ?zzc5; (case zzkA => exact rfl); (case zzkF => exact rfl); (case zzkK => first | exact rfl | assumption); (case zzk1 => k_asm); (case zzk2 => k_asm); (case zzk3 => k_asm); (case zzk4 => k_asm); (case zzk5 => k_asm); (case zzk6 => k_is); (case zzk7 => k_is); (case zzk8 => k_room); (case zzk9 => exact BindsTo.of_eq rfl); (case zzc5 => decide); (case zzkB => exact locs rfl); (case zzc2 => exact rfl); (case zzc3 => exact rfl); (case zzc4 => exact rfl); k_whole; intro g' L' h' hext hLs hLL FG' F' N' B' X' T' l1; (try dsimp only [tabs, List.nil_append, List.cons_append] at N' l1); (try dsimp only); (try (replace l1 := allLt_of l1; (try dsimp only [AllLt] at l1))); (try k_lt2 hLL); (try k_fold))
  repeat' (first
    | (k_unfold; (try dsimp only))
    | ((with_reducible show EltEnd _ _ _ _ _ _ _ _); (first | (refine' elt_end ?zzF ?zzN ?zze; (case zzF => assumption); (case zzN => assumption); (case zze => first | with_reducible rfl | assumption | exact Eq.symm (tab4_get (by assumption)))) | (refine' eltEnd ?zzF ?zzN ?zzS ?zze; (case zzF => assumption); (case zzN => assumption); (case zzS => (repeat' first | assumption | exact sub_refl | refine' sub_tail ?_)); (case zze => first | with_reducible rfl | assumption | exact Eq.symm (tab4_get (by assumption))))))
    | (with_reducible refine hZ3 _ _ ?_; clear hZ3; (try clear Qz); (try dsimp only)) | (with_reducible refine hZ1 _ ?_; clear hZ1 hZ2; (try clear Qz Ez); (try dsimp only)) | (with_reducible refine hZ2 _ _ ?_; clear hZ1 hZ2; (try clear Qz Ez); (try dsimp only))
    | ((with_reducible show wpAny _ _ (eval _ _) _ _ _); first
          | (((first | (with_reducible show wpAny _ _ (eval (Expr.Call _ _ _ _) _) _ _ _) | (with_reducible show wpAny _ _ (eval (Expr.BinOp _ _ _ _) _) _ _ _) | (with_reducible show wpAny _ _ (eval (Expr.Tuple _ _ _) _) _ _ _) | (with_reducible show wpAny _ _ (eval (Expr.List _ _ _) _) _ _ _) | (with_reducible show wpAny _ _ (eval (Expr.Subscript _ _ _) _) _ _ _) | (with_reducible show wpAny _ _ (eval (Expr.Compare _ _ _ _) _) _ _ _)); with_reducible refine cutQ ?_; intro Qz hZ3))
          | ((with_reducible show wpAny _ _ (eval (Expr.Name _ _) _) _ _ _); (k_here; (fail_if_success (with_reducible show wpAny _ _ (eval (Expr.Name _ _) (compEnvC _ _ _ _)) _ _ _)); k_dflt (first | (refine' nameX_L ?zzF ?zzhv ?_ ?zzhk ?zzhx ?zzhd; (case zzhx => exact rfl); (case zzhk => exact rfl); (case zzhd => decide); (case zzF => k_asm); (case zzhv => exact rfl); k_whole) | (refine' nameX_K ?zzF ?zzX ?zzT ?zze ?_ ?zzhk ?zzhx ?zzhd; (case zzhx => exact rfl); (case zzhk => exact rfl); (case zzhd => decide); (case zzF => k_asm); (case zzX => with_reducible assumption); (case zzT => exact topRead_of (by with_reducible assumption)); (case zze => k_is); k_whole) | (refine' nameX_B ?zzF ?zzX ?zzT ?zze ?zzv ?zzzn ?_ ?zzhk ?zzhx ?zzhd; (case zzhx => exact rfl); (case zzhk => exact rfl); (case zzhd => decide); (case zzF => k_asm); (case zzX => with_reducible assumption); (case zzT => exact topRead_of (by with_reducible assumption)); (case zze => k_is); (case zzv => boot_fast); (case zzzn => decide); k_whole) | (refine' nameX_F ?zzN ?zzc ?zzm ?zzd ?_ ?zzhk ?zzhx ?zzhb ?zzhn; (case zzhx => exact rfl); (case zzhk => exact rfl); (case zzhb => decide); (case zzhn => decide); (case zzN => k_asm); (case zzc => rfl); (case zzm => k_mem); (case zzd => k_asm); k_whole) | (refine' nameX_C ?zzN ?zzc ?zzm ?zzd ?_ ?zzhk ?zzhx ?zzhb; (case zzhx => exact rfl); (case zzhk => exact rfl); (case zzhb => decide); (case zzN => k_asm); (case zzc => rfl); (case zzm => k_mem); (case zzd => k_asm); k_whole)))))
    | ((with_reducible show wpAny _ _ (call _ _ _) _ _ _); first
          | ((with_reducible show wpAny _ _ (call (Value.ref _) _ _) _ _ _); ((with_reducible show wpAny _ _ (call (Value.ref _) [Value.bytes _ _, _] _) _ _ _); (refine' Tell.list2 (halv2 ?zzhb ?zzhh0 ?zzhh1) ?zzk1 ?zzk2 ?zzk3 ?zzk4 ?zzk5 ?zzkK ?zzv2 ?zzv1 ?zzv4 ?zzv3 ?zzkM ?zzkd ?zzku ?_; (case zzkK => exact rfl); (case zzk1 => k_asm); (case zzk2 => k_asm); (case zzk3 => k_asm); (case zzk4 => k_asm); (case zzk5 => k_asm); (case zzv2 => assumption); (case zzv1 => assumption); (case zzv4 => assumption); (case zzv3 => assumption); (case zzkM => (repeat' first | assumption | exact sub_refl | refine' sub_tail ?_)); (case zzkd => k_room); (case zzku => ktr_units); (case zzhb => assumption); (case zzhh0 => first | assumption | omega); (case zzhh1 => first | assumption | omega)); intro zD zu0 zu1 zc h' tk' F' N' l1 zL; (replace l1 := allLt_of l1; (try dsimp only [AllLt] at l1)); (try dsimp only); (try k_sweep)))
          | ((with_reducible show wpAny _ _ (call (Value.builtin _) _ _) _ _ _); (k_here; (with_reducible show wpAny _ _ (call (Value.builtin _) [Value.bytes _ _]) _ _ _); k_dflt (first | (refine' len1 ?zzhb ?_; (case zzhb => assumption)) | (refine' len2 ?zzhb ?_; (case zzhb => assumption)) | (refine' len3 ?zzhb ?_; (case zzhb => assumption)) | (refine' len4 ?zzhb ?_; (case zzhb => assumption))); intro t' k'; (try dsimp only)))
          | ((with_reducible show wpAny _ _ (call (Value.ref _) _ _) _ _ _); ((with_reducible show wpAny _ _ (call (Value.ref 70) [Value.int _ _] _) _ _ _); (refine' Tell.int (rest ?zzkn0 ?zzkn1) ?zzk1 ?zzk2 ?zzk3 ?zzk4 ?zzk5 ?zzkK ?zzv2 ?zzv1 ?zzv4 ?zzv3 ?zzkM ?zzkd ?zzku ?_; (case zzkK => exact rfl); (case zzk1 => k_asm); (case zzk2 => k_asm); (case zzk3 => k_asm); (case zzk4 => k_asm); (case zzk5 => k_asm); (case zzv2 => assumption); (case zzv1 => assumption); (case zzv4 => assumption); (case zzv3 => assumption); (case zzkM => (repeat' first | assumption | exact sub_refl | refine' sub_tail ?_)); (case zzkd => k_room); (case zzku => ktr_units); (case zzkn0 => omega); (case zzkn1 => omega)); intro zt h' tk' F' N'; (try k_sweep))))
    | ((with_reducible show wpAny _ _ (binaryOp _ _ _) _ _ _); first
          | ((with_reducible show wpAny _ _ (binaryOp Operator.Pow _ _) _ _ _); (k_dflt (first | (refine' pow_is 0 ?zzzb ?zzzj ?zzza ?zzze ?_; (case zzzb => first | exact rfl | omega); (case zzzj => decide); (case zzza => decide); (case zzze => (simp only [Int.reducePow]; exact rfl))) | (refine' pow_is 1 ?zzzb ?zzzj ?zzza ?zzze ?_; (case zzzb => first | exact rfl | omega); (case zzzj => decide); (case zzza => decide); (case zzze => (simp only [Int.reducePow]; exact rfl))))))
          | ((with_reducible show wpAny _ _ (binaryOp Operator.Mult _ _) _ _ _); (k_here; (with_reducible show wpAny _ _ (binaryOp Operator.Mult (Value.ref _) (Value.int _ _)) _ _ _); k_dflt (refine' KMa.mul ?zzF ?zzN ?zzl ?zzlo ?zzhi ?zzz ?zze ?_; (case zzF => k_asm); (case zzN => k_asm); (case zzl => is_list); (case zzlo => omega); (case zzhi => omega); (case zzz => (simp only [List.length_cons, List.length_nil]; decide)); (case zze => (simp only [Int.reduceToNat, Int.reduceAdd, Int.reduceMul, List.replicate_succ, List.replicate_zero, List.flatten_cons, List.flatten_nil, List.cons_append, List.nil_append, List.append_nil]; exact rfl)); k_whole); intro D' h' F' N' l1; (try (replace l1 := allLt_of l1; (try dsimp only [AllLt] at l1))); (try k_sweep))))
    | ((with_reducible show wpAny _ _ (execs _ _) _ _ _); first
          | (((with_reducible rename Fr _ _ _ (fun y => List.lookup y _) => Fz); refine' canon0 Fz ?zze ?_; (case zze => first | exact @rfl _ [(_, _)] | exact @rfl _ [(_, _), (_, _)] | exact @rfl _ [(_, _), (_, _), (_, _)] | exact @rfl _ [(_, _), (_, _), (_, _), (_, _)]); clear Fz; intro F'))
          | ((fail_if_success (with_reducible show wpAny _ _ (execs (Stmt.For _ _ _ _ _ :: _) _) _ _ _)); (try k_gentoks); with_reducible refine execs_cut ?_; intro Qz Ez hZ1 hZ2))
    | ((with_reducible show wpAny _ _ _ _ _ _); (fail_if_success (with_reducible show wpAny _ _ (eval _ _) _ _ _)); (fail_if_success (with_reducible show wpAny _ _ (execs _ _) _ _ _)); first
          | ((with_reducible show wpAny _ _ (subscriptTail _ _ _ _) _ _ _); (k_here; (with_reducible show wpAny _ _ (subscriptTail _ _ (Value.ref _) (Value.int _ _)) _ _ _); k_dflt (first | ((refine' at_list 0 ?zzk0 ?zzkz ?zzk1 ?zzk4 ?_ ?zzk6); (case zzk0 => omega); (case zzkz => decide); (case zzk1 => is_list); (case zzk4 => exact rfl); (case zzk6 => with_unfolding_all rfl); k_whole) | ((refine' at_list 1 ?zzk0 ?zzkz ?zzk1 ?zzk4 ?_ ?zzk6); (case zzk0 => omega); (case zzkz => decide); (case zzk1 => is_list); (case zzk4 => exact rfl); (case zzk6 => with_unfolding_all rfl); k_whole) | ((refine' at_list 2 ?zzk0 ?zzkz ?zzk1 ?zzk4 ?_ ?zzk6); (case zzk0 => omega); (case zzkz => decide); (case zzk1 => is_list); (case zzk4 => exact rfl); (case zzk6 => with_unfolding_all rfl); k_whole) | ((refine' at_list 3 ?zzk0 ?zzkz ?zzk1 ?zzk4 ?_ ?zzk6); (case zzk0 => omega); (case zzkz => decide); (case zzk1 => is_list); (case zzk4 => exact rfl); (case zzk6 => with_unfolding_all rfl); k_whole)); (try dsimp only)))
          | ((with_reducible show wpAny _ _ (setItem (Value.ref _) (Value.int _ _) _) _ _ _); (k_here; (with_reducible show wpAny _ _ (setItem (Value.ref _) (Value.int _ _) _) _ _ _); k_dflt (first | ((refine' set_at 0 ?zzk0 ?zzkz ?zzk1 ?zzk2 ?zzk3 ?zzk5 ?zzk6 ?_); (case zzk0 => omega); (case zzkz => decide); (case zzk1 => k_asm); (case zzk2 => k_asm); (case zzk3 => k_upd); (case zzk5 => exact Nat.le_of_ble_eq_true rfl); (case zzk6 => (simp only [List.set_cons_zero, List.set_cons_succ]; exact rfl)); k_whole) | ((refine' set_at 1 ?zzk0 ?zzkz ?zzk1 ?zzk2 ?zzk3 ?zzk5 ?zzk6 ?_); (case zzk0 => omega); (case zzkz => decide); (case zzk1 => k_asm); (case zzk2 => k_asm); (case zzk3 => k_upd); (case zzk5 => exact Nat.le_of_ble_eq_true rfl); (case zzk6 => (simp only [List.set_cons_zero, List.set_cons_succ]; exact rfl)); k_whole) | ((refine' set_at 2 ?zzk0 ?zzkz ?zzk1 ?zzk2 ?zzk3 ?zzk5 ?zzk6 ?_); (case zzk0 => omega); (case zzkz => decide); (case zzk1 => k_asm); (case zzk2 => k_asm); (case zzk3 => k_upd); (case zzk5 => exact Nat.le_of_ble_eq_true rfl); (case zzk6 => (simp only [List.set_cons_zero, List.set_cons_succ]; exact rfl)); k_whole) | ((refine' set_at 3 ?zzk0 ?zzkz ?zzk1 ?zzk2 ?zzk3 ?zzk5 ?zzk6 ?_); (case zzk0 => omega); (case zzkz => decide); (case zzk1 => k_asm); (case zzk2 => k_asm); (case zzk3 => k_upd); (case zzk5 => exact Nat.le_of_ble_eq_true rfl); (case zzk6 => (simp only [List.set_cons_zero, List.set_cons_succ]; exact rfl)); k_whole)); intro h' F' N'; (try k_sweep)))
          | ((with_reducible show wpAny _ _ (unpackItems (Value.ref _) _ _) _ _ _); (k_here; k_dflt (refine' unpackItemsN_ ?zzF ?zzN ?zzT ?zzk1 ?zzk2 ?_; (case zzF => k_asm); (case zzN => k_asm); (case zzT => refine News.isTup (by k_asm) (by k_mem)); (case zzk1 => exact rfl); (case zzk2 => exact rfl)); intro h' F' N'; (try k_dflt (replace N' := news_tail N')); (try k_sweep)))
          | ((with_reducible show wpAny _ _ (callWith _ (Value.ref _) _ _ _) _ _ _); (k_here; k_dflt (refine' callWith_K ?zzk1 ?zzk2 ?_; (case zzk1 => with_reducible assumption); (case zzk2 => k_is); k_whole)))
          | ((with_reducible show wpAny _ _ (subscriptTail _ _ _ _) _ _ _); (k_here; (with_reducible show wpAny _ _ (subscriptTail _ (Expr.Slice _ _ (some _) _) (Value.bytes _ _) (Value.ref _)) _ _ _); k_dflt (first | (refine' step4_none (s := ⟨_, _, _, _, _⟩) ?zzhF ?zzhN ?zzhb ?_; (case zzhF => k_asm); (case zzhN => k_asm); (case zzhb => assumption)) | (refine' step4_one (s := ⟨_, _, _, _, _⟩) ?zzhF ?zzhN ?zzhb ?_; (case zzhF => k_asm); (case zzhN => k_asm); (case zzhb => assumption))); intro zb h' t' k' F' N' zhb; (try dsimp only)))
          | ((with_reducible show wpAny _ _ (storeName _ _ _) _ _ _); (k_here; k_dflt (refine' storeX_L ?zzF ?zzN ?_ ?zzhk ?zzhx; (case zzhx => exact rfl); (case zzhk => exact rfl); (case zzF => k_asm); (case zzN => k_asm); k_whole; intro h' F' N'; (try k_sweep))))
          | ((with_reducible show wpAny _ _ (newList _) _ _ _); (k_here; k_dflt (refine' newList_is ?zzF ?zzN ?_ ?zzz; (case zzF => k_asm); (case zzN => k_asm); (case zzz => exact Nat.le_of_ble_eq_true rfl)); intro D' h' F' N' l1 l2; (try (replace l1 := allLt_of l1; (try dsimp only [AllLt] at l1))); (try k_lt2 l2); (try k_sweep)))
          | ((with_reducible show wpAny _ _ (newTuple _) _ _ _); (k_here; k_dflt (refine' newTuple_is ?zzF ?zzN ?_ ?zzz; (case zzF => k_asm); (case zzN => k_asm); (case zzz => exact Nat.le_of_ble_eq_true rfl)); intro D' h' F' N' l1 l2; (try (replace l1 := allLt_of l1; (try dsimp only [AllLt] at l1))); (try k_lt2 l2); (try k_sweep))))
    | ((fail_if_success (with_reducible show wpAny _ _ _ _ _ _)); first
          | ((with_reducible show UnrEnd _ _ _ _ _ _ _); (k_here; k_dflt (refine' unr_end ?zzF ?zzN ?zzU ?_; (case zzF => k_asm); (case zzN => k_asm); (case zzU => repeat' (first | (refine' Cut.head ?_; k_all) | refine' Cut.skip ?_ | (refine' Cut.tail ?zzzt ?_; (case zzzt => k_ne))))))))
    | walk1
    | (dsimp only; walk1))
  refine' hret (.ref _) _ _ ?ext ⟨_, ?zys, ?zcc, rfl, ?sz, ?gt, ?iz⟩
  case ext => exact ext_end N (by assumption) (by assumption) (by assumption) (by (repeat' first | assumption | exact sub_refl | refine' sub_tail ?_))
  case gt => exact News.get (by assumption) (by k_mem)
  case sz => first | exact size_le (by assumption) (by assumption) | omega
  case iz => exact ints_to (by repeat constructor) (four_4 (by omega) (by omega) (by omega) (by omega))
end Mine

namespace Mine
def lawDef : Option (Arguments × List Stmt × Scope) := PySem.Challenge.rw_hm0003_01.row.prog.theDef (Str.ofString "law")
def lawBody : List Stmt := match lawDef with | some (_, b, _) => b | none => []
def lawScope : Scope := match lawDef with | some (_, _, s) => s | none => default
theorem wnd4 {w : World} {b : Array UInt8} {t t' : Tok} {a : List Int} (r : Row b a) : Tell w 24 75 [] [.bytes b t, .int 4 t'] (fun _ _ v => ∃ (b' : Array UInt8) (t : Tok), v = .bytes b' t ∧ Row b' (wnd p4 a)) := by
  obtain ⟨a0, a1, a2, a3, rfl⟩ := r.four
  exact wound r.1 (r.at 0) (r.at 1) (r.at 2) (r.at 3) (by decide) (by unfold Pw; decide +kernel) (by unfold Pw; decide +kernel) (by unfold Pw; decide +kernel) (by unfold Pw; decide +kernel)
theorem wnd13 {w : World} {b : Array UInt8} {t t' : Tok} {a : List Int} (r : Row b a) : Tell w 24 75 [] [.bytes b t, .int 13 t'] (fun _ _ v => ∃ (b' : Array UInt8) (t : Tok), v = .bytes b' t ∧ Row b' (wnd p13 a)) := by
  obtain ⟨a0, a1, a2, a3, rfl⟩ := r.four
  exact wound r.1 (r.at 0) (r.at 1) (r.at 2) (r.at 3) (by decide) (by unfold Pw; decide +kernel) (by unfold Pw; decide +kernel) (by unfold Pw; decide +kernel) (by unfold Pw; decide +kernel)
end Mine

namespace Mine

set_option maxRecDepth 100000 in
theorem law13 {w : World} {p : Program} {loose : List Str} {mean : ExcName → Option Value} {mg mb : Str → Option Value} {L fa c1 c2 : Addr} {cd : Value} {g h : Heap} {s : Shared} {tk : Nat} {m : Str → Option Value} {o1 o2 q1 q2 q3 q4 : Obj} {vs1 vs2 : Array Value} {t1 t2 v1 v2 v3 v4 : Tok} {x1 x2 x3 x4 : Array UInt8} {a b : List Int} {tau : List (Addr × Obj)} {Q : Flow → Shared → Prop} {E : Value → Shared → Prop}
    (B : Below callerA g [] g) (X : (hd.heap_39 w.params).In g) (T : Top p loose mean mg mb g) (hd1 : o1.data = .fields vs1) (hv1 : vs1[1]? = some (.str (Str.ofString "_int2digits.<locals>.inner") t1)) (hd2 : o2.data = .fields vs2) (hv2 : vs2[1]? = some (.str (Str.ofString "_digits2int.<locals>.inner") t2))
    (hx1 : Row x1 a) (hx2 : Row x2 b) (qd1 : q1.data = .cell (some (.bytes x1 v1))) (qd2 : q2.data = .cell (some (.bytes x2 v2)))
    (hx3 : Row x3 (wnd p4 a)) (hx4 : Row x4 (wnd p4 b)) (qd3 : q3.data = .cell (some (.bytes x3 v3))) (qd4 : q4.data = .cell (some (.bytes x4 v4)))
    (M : ∀ q ∈ tabs c1 c2 o1 o2, q ∈ tau) (F : Fr g L h m) (N : News g L h ((L + 1 + 1 + 1 + 1, q4) :: (L + 1 + 1 + 1, q3) :: (L + 1 + 1, q2) :: (L + 1, q1) :: tau))
    (hQ : ∀ h' tk' m', Fr g L h' m' → News g L h' tau → Q (.ret (.bool true)) { s with heap := h', toks := tk' }) :
    wpC (model PySem.Challenge.rw_hm0003_01.row.prog w) (callerA.deeper (envOfC (Str.ofString "law") lawScope L fa cd)) (execs (lawBody.drop 13) (envOfC (Str.ofString "law") lawScope L fa cd)) Q E { s with heap := h, toks := tk } := by
  have hs : lawScope = lawScope := rfl
  conv at hs => rhs; whnf
  have hb : lawBody.drop 13 = lawBody.drop 13 := rfl
  conv at hb => rhs; whnf
  rw [hs, hb]
  clear hs hb
  revert X; k_fill; intro X
  refine execsC_cut ?_; intro Qz Ez hZ1 hZ2
  repeat' (first
    | (k_unfold; (try dsimp only))
    | ((with_reducible show EltEnd _ _ _ _ _ _ _ _); (first | (refine' elt_end ?zzF ?zzN ?zze; (case zzF => assumption); (case zzN => assumption); (case zze => first | with_reducible rfl | assumption | exact Eq.symm (tab4_get (by assumption)))) | (refine' eltEnd ?zzF ?zzN ?zzS ?zze; (case zzF => assumption); (case zzN => assumption); (case zzS => (repeat' first | assumption | exact sub_refl | refine' sub_tail ?_)); (case zze => first | with_reducible rfl | assumption | exact Eq.symm (tab4_get (by assumption))))))
    | (with_reducible refine hZ3 _ _ ?_; clear hZ3; (try clear Qz); (try dsimp only)) | (with_reducible refine hZ1 _ ?_; clear hZ1 hZ2; (try clear Qz Ez); (try dsimp only)) | (with_reducible refine hZ2 _ _ ?_; clear hZ1 hZ2; (try clear Qz Ez); (try dsimp only))
    | ((with_reducible show wpAny _ _ (eval _ _) _ _ _); first
          | (((first | (with_reducible show wpAny _ _ (eval (Expr.Call _ _ _ _) _) _ _ _) | (with_reducible show wpAny _ _ (eval (Expr.BinOp _ _ _ _) _) _ _ _) | (with_reducible show wpAny _ _ (eval (Expr.Tuple _ _ _) _) _ _ _) | (with_reducible show wpAny _ _ (eval (Expr.List _ _ _) _) _ _ _) | (with_reducible show wpAny _ _ (eval (Expr.Subscript _ _ _) _) _ _ _) | (with_reducible show wpAny _ _ (eval (Expr.Compare _ _ _ _) _) _ _ _)); with_reducible refine cutQ ?_; intro Qz hZ3))
          | ((with_reducible show wpAny _ _ (eval (Expr.Name _ _) _) _ _ _); (k_here; (with_reducible show wpAny _ _ (eval (Expr.Name _ _) (compEnvC _ _ _ _)) _ _ _); k_dflt (first | refine LCgL.ld_own (by k_asm) (by k_mem) (by assumption) (by assumption) ?_ | (refine' lcf_cell ?zzN ?zzc ?zzm ?zzd ?_ ?zza ?zzb; (case zza => rfl); (case zzb => rfl); (case zzN => k_asm); (case zzc => rfl); (case zzm => k_mem); (case zzd => k_asm); k_whole) | (refine' lcf_free ?zzN ?zzc ?zzm ?zzd ?_ ?zza ?zzb; (case zza => rfl); (case zzb => rfl); (case zzN => k_asm); (case zzc => rfl); (case zzm => k_mem); (case zzd => k_asm); k_whole) | refine LCgL.ld_global (by k_asm) (by k_asm) (by k_asm) (by k_is) ?_ | refine LCgL.ld_built (by k_asm) (by k_asm) (by k_asm) (by k_is) (by boot_by_name) (by decide) ?_)))
          | ((with_reducible show wpAny _ _ (eval (Expr.ListComp _ _ _ _) _) _ _ _); (k_here; k_dflt (refine LCg.ListComp_U (F₀ := by k_asm) (by with_unfolding_all rfl) (by decide) (by rfl) (by decide) (by rfl) ?_)))
          | ((with_reducible show wpAny _ _ (eval (Expr.Name _ _) _) _ _ _); (k_here; (fail_if_success (with_reducible show wpAny _ _ (eval (Expr.Name _ _) (compEnvC _ _ _ _)) _ _ _)); k_dflt (first | (refine' nameX_L ?zzF ?zzhv ?_ ?zzhk ?zzhx ?zzhd; (case zzhx => exact rfl); (case zzhk => exact rfl); (case zzhd => decide); (case zzF => k_asm); (case zzhv => first | exact rfl | assumption); k_whole) | (refine' nameX_K ?zzF ?zzX ?zzT ?zze ?_ ?zzhk ?zzhx ?zzhd; (case zzhx => exact rfl); (case zzhk => exact rfl); (case zzhd => decide); (case zzF => k_asm); (case zzX => with_reducible assumption); (case zzT => exact topRead_of (by with_reducible assumption)); (case zze => k_is); k_whole) | (refine' nameX_B ?zzF ?zzX ?zzT ?zze ?zzv ?zzzn ?_ ?zzhk ?zzhx ?zzhd; (case zzhx => exact rfl); (case zzhk => exact rfl); (case zzhd => decide); (case zzF => k_asm); (case zzX => with_reducible assumption); (case zzT => exact topRead_of (by with_reducible assumption)); (case zze => k_is); (case zzv => boot_fast); (case zzzn => decide); k_whole) | (refine' nameX_F ?zzN ?zzc ?zzm ?zzd ?_ ?zzhk ?zzhx ?zzhb ?zzhn; (case zzhx => exact rfl); (case zzhk => exact rfl); (case zzhb => decide); (case zzhn => decide); (case zzN => k_asm); (case zzc => rfl); (case zzm => k_mem); (case zzd => k_asm); k_whole) | (refine' nameX_C ?zzN ?zzc ?zzm ?zzd ?_ ?zzhk ?zzhx ?zzhb; (case zzhx => exact rfl); (case zzhk => exact rfl); (case zzhb => decide); (case zzN => k_asm); (case zzc => rfl); (case zzm => k_mem); (case zzd => k_asm); k_whole)))))
    | ((with_reducible show wpAny _ _ (call _ _ _) _ _ _); first
          | ((with_reducible show wpAny _ _ (call (Value.type _) _ _) _ _ _); ((with_reducible show wpAny _ _ (call (Value.type "bytes") [Value.ref _]) _ _ _); (refine' bytes_row ?zzF ?zzN ?zzh ?zzm ?zzi ?_; (case zzF => k_asm); (case zzN => k_asm); (case zzh => exact rfl); (case zzm => k_mem); (case zzi => assumption)); intro b' t' h' k' hb' F' N'; (try k_sweep))))
    | ((with_reducible show wpAny _ _ (binaryOp _ _ _) _ _ _); first
          | ((with_reducible show wpAny _ _ (binaryOp Operator.Mod _ _) _ _ _); k_dflt (first | (refine mod_closed (by decide) (by decide) ?_) | (refine mod_small (by omega) (by omega) ?_) | (refine mod_is (by decide) ?_))))
    | ((with_reducible show wpAny _ _ _ _ _ _); (fail_if_success (with_reducible show wpAny _ _ (eval _ _) _ _ _)); (fail_if_success (with_reducible show wpAny _ _ (execs _ _) _ _ _)); first
          | ((with_reducible show wpAny _ _ (subscriptTail _ _ _ _) _ _ _); ((k_here; (with_reducible show wpAny _ _ (subscriptTail _ _ (Value.bytes _ _) (Value.int _ _)) _ _ _); k_dflt (first | (refine' at_bytes_i i9 ?zzhi ?zzhb ?zzhz ?zzhk ?_ ?zzhs ?zzht; (case zzhi => omega); (case zzhb => exact Row.ints (by assumption)); (case zzhz => exact Row.len (by assumption)); (case zzhk => assumption)) | (refine' at_bytes_i 0 ?zzhi ?zzhb ?zzhz ?zzhk ?_ ?zzhs ?zzht; (case zzhi => exact rfl); (case zzhb => exact Row.ints (by assumption)); (case zzhz => exact Row.len (by assumption)); (case zzhk => decide)) | (refine' at_bytes_i 1 ?zzhi ?zzhb ?zzhz ?zzhk ?_ ?zzhs ?zzht; (case zzhi => exact rfl); (case zzhb => exact Row.ints (by assumption)); (case zzhz => exact Row.len (by assumption)); (case zzhk => decide)) | (refine' at_bytes_i 2 ?zzhi ?zzhb ?zzhz ?zzhk ?_ ?zzhs ?zzht; (case zzhi => exact rfl); (case zzhb => exact Row.ints (by assumption)); (case zzhz => exact Row.len (by assumption)); (case zzhk => decide)) | (refine' at_bytes_i 3 ?zzhi ?zzhb ?zzhz ?zzhk ?_ ?zzhs ?zzht; (case zzhi => exact rfl); (case zzhb => exact Row.ints (by assumption)); (case zzhz => exact Row.len (by assumption)); (case zzhk => decide))); (case zzhs => with_unfolding_all rfl); (case zzht => (intro _; with_unfolding_all rfl)); intro _ _)))
          | ((with_reducible show wpAny _ _ (storeName _ _ _) _ _ _); (k_here; k_dflt (refine' storeX_L ?zzF ?zzN ?_ ?zzhk ?zzhx; (case zzhx => exact rfl); (case zzhk => exact rfl); (case zzF => k_asm); (case zzN => k_asm); k_whole; intro h' F' N'; (try k_sweep)))))
    | ((fail_if_success (with_reducible show wpAny _ _ _ _ _ _)); first
          | ((with_reducible show LCg.CompSrc _ _ _ _ _ _ _ _ _ _ _ _ _ _); ((k_here; k_dflt (first | (refine LCg.CompSrc.range (n := 4) (by rfl) (by k_asm) (by k_asm) (by assumption) (by first | decide | rfl) (by first | rfl | decide) (by exact Nat.le_of_ble_eq_true rfl) ?_; intro g'; refine' comp_range (tab4 (fun k => (a.getD k 0 + b.getD k 0) % 17)) rfl (fun i9 t9 I9 oI9 C9 oC9 D9 ys9 m9 h9 k9 E9 hi9 hC9 hx9 F9 N9 => ?_) (fun ys9 hy9 => ?_)))))))
    | walk1
    | (dsimp only; walk1))
  refine execsC_cut ?_; intro Qz Ez hZ1 hZ2
  repeat' (first
    | (k_unfold; (try dsimp only))
    | ((with_reducible show EltEnd _ _ _ _ _ _ _ _); (first | (refine' elt_end ?zzF ?zzN ?zze; (case zzF => assumption); (case zzN => assumption); (case zze => first | with_reducible rfl | assumption | exact Eq.symm (tab4_get (by assumption)))) | (refine' eltEnd ?zzF ?zzN ?zzS ?zze; (case zzF => assumption); (case zzN => assumption); (case zzS => (repeat' first | assumption | exact sub_refl | refine' sub_tail ?_)); (case zze => first | with_reducible rfl | assumption | exact Eq.symm (tab4_get (by assumption))))))
    | (with_reducible refine hZ3 _ _ ?_; clear hZ3; (try clear Qz); (try dsimp only)) | (with_reducible refine hZ1 _ ?_; clear hZ1 hZ2; (try clear Qz Ez); (try dsimp only)) | (with_reducible refine hZ2 _ _ ?_; clear hZ1 hZ2; (try clear Qz Ez); (try dsimp only))
    | ((with_reducible show wpAny _ _ (eval _ _) _ _ _); first
          | (((first | (with_reducible show wpAny _ _ (eval (Expr.Call _ _ _ _) _) _ _ _) | (with_reducible show wpAny _ _ (eval (Expr.BinOp _ _ _ _) _) _ _ _) | (with_reducible show wpAny _ _ (eval (Expr.Tuple _ _ _) _) _ _ _) | (with_reducible show wpAny _ _ (eval (Expr.List _ _ _) _) _ _ _) | (with_reducible show wpAny _ _ (eval (Expr.Subscript _ _ _) _) _ _ _) | (with_reducible show wpAny _ _ (eval (Expr.Compare _ _ _ _) _) _ _ _)); with_reducible refine cutQ ?_; intro Qz hZ3))
          | ((with_reducible show wpAny _ _ (eval (Expr.Name _ _) _) _ _ _); (k_here; (with_reducible show wpAny _ _ (eval (Expr.Name _ _) (compEnvC _ _ _ _)) _ _ _); k_dflt (first | refine LCgL.ld_own (by k_asm) (by k_mem) (by assumption) (by assumption) ?_ | (refine' lcf_cell ?zzN ?zzc ?zzm ?zzd ?_ ?zza ?zzb; (case zza => rfl); (case zzb => rfl); (case zzN => k_asm); (case zzc => rfl); (case zzm => k_mem); (case zzd => k_asm); k_whole) | (refine' lcf_free ?zzN ?zzc ?zzm ?zzd ?_ ?zza ?zzb; (case zza => rfl); (case zzb => rfl); (case zzN => k_asm); (case zzc => rfl); (case zzm => k_mem); (case zzd => k_asm); k_whole) | refine LCgL.ld_global (by k_asm) (by k_asm) (by k_asm) (by k_is) ?_ | refine LCgL.ld_built (by k_asm) (by k_asm) (by k_asm) (by k_is) (by boot_by_name) (by decide) ?_)))
          | ((with_reducible show wpAny _ _ (eval (Expr.ListComp _ _ _ _) _) _ _ _); (k_here; k_dflt (refine LCg.ListComp_U (F₀ := by k_asm) (by with_unfolding_all rfl) (by decide) (by rfl) (by decide) (by rfl) ?_)))
          | ((with_reducible show wpAny _ _ (eval (Expr.Name _ _) _) _ _ _); (k_here; (fail_if_success (with_reducible show wpAny _ _ (eval (Expr.Name _ _) (compEnvC _ _ _ _)) _ _ _)); k_dflt (first | (refine' nameX_L ?zzF ?zzhv ?_ ?zzhk ?zzhx ?zzhd; (case zzhx => exact rfl); (case zzhk => exact rfl); (case zzhd => decide); (case zzF => k_asm); (case zzhv => first | exact rfl | assumption); k_whole) | (refine' nameX_K ?zzF ?zzX ?zzT ?zze ?_ ?zzhk ?zzhx ?zzhd; (case zzhx => exact rfl); (case zzhk => exact rfl); (case zzhd => decide); (case zzF => k_asm); (case zzX => with_reducible assumption); (case zzT => exact topRead_of (by with_reducible assumption)); (case zze => k_is); k_whole) | (refine' nameX_B ?zzF ?zzX ?zzT ?zze ?zzv ?zzzn ?_ ?zzhk ?zzhx ?zzhd; (case zzhx => exact rfl); (case zzhk => exact rfl); (case zzhd => decide); (case zzF => k_asm); (case zzX => with_reducible assumption); (case zzT => exact topRead_of (by with_reducible assumption)); (case zze => k_is); (case zzv => boot_fast); (case zzzn => decide); k_whole) | (refine' nameX_F ?zzN ?zzc ?zzm ?zzd ?_ ?zzhk ?zzhx ?zzhb ?zzhn; (case zzhx => exact rfl); (case zzhk => exact rfl); (case zzhb => decide); (case zzhn => decide); (case zzN => k_asm); (case zzc => rfl); (case zzm => k_mem); (case zzd => k_asm); k_whole) | (refine' nameX_C ?zzN ?zzc ?zzm ?zzd ?_ ?zzhk ?zzhx ?zzhb; (case zzhx => exact rfl); (case zzhk => exact rfl); (case zzhb => decide); (case zzN => k_asm); (case zzc => rfl); (case zzm => k_mem); (case zzd => k_asm); k_whole)))))
    | ((with_reducible show wpAny _ _ (call _ _ _) _ _ _); first
          | ((with_reducible show wpAny _ _ (call (Value.type _) _ _) _ _ _); ((with_reducible show wpAny _ _ (call (Value.type "bytes") [Value.ref _]) _ _ _); (refine' bytes_row ?zzF ?zzN ?zzh ?zzm ?zzi ?_; (case zzF => k_asm); (case zzN => k_asm); (case zzh => exact rfl); (case zzm => k_mem); (case zzi => assumption)); intro b' t' h' k' hb' F' N'; (try k_sweep)))
          | ((with_reducible show wpAny _ _ (call (Value.ref _) _ _) _ _ _); ((with_reducible show wpAny _ _ (call (Value.ref 75) [Value.bytes _ _, Value.int 4 _] _) _ _ _); (refine' Tell.row (wnd4 (by first | assumption | exact ⟨by assumption, rfl, by assumption⟩)) ?zzk1 ?zzk2 ?zzk3 ?zzk4 ?zzk5 ?zzkK ?zzv2 ?zzv1 ?zzv4 ?zzv3 ?zzkM ?zzkd ?zzku ?_; (case zzkK => exact rfl); (case zzk1 => k_asm); (case zzk2 => k_asm); (case zzk3 => k_asm); (case zzk4 => k_asm); (case zzk5 => k_asm); (case zzv2 => assumption); (case zzv1 => assumption); (case zzv4 => assumption); (case zzv3 => assumption); (case zzkM => (repeat' first | assumption | exact sub_refl | refine' sub_tail ?_)); (case zzkd => k_room); (case zzku => ktr_units)); intro zb zt h' tk' F' N' zr; (try k_sweep))))
    | ((with_reducible show wpAny _ _ (binaryOp _ _ _) _ _ _); first
          | ((with_reducible show wpAny _ _ (binaryOp Operator.Mod _ _) _ _ _); k_dflt (first | (refine mod_closed (by decide) (by decide) ?_) | (refine mod_small (by omega) (by omega) ?_) | (refine mod_is (by decide) ?_))))
    | ((with_reducible show wpAny _ _ _ _ _ _); (fail_if_success (with_reducible show wpAny _ _ (eval _ _) _ _ _)); (fail_if_success (with_reducible show wpAny _ _ (execs _ _) _ _ _)); first
          | ((with_reducible show wpAny _ _ (subscriptTail _ _ _ _) _ _ _); ((k_here; (with_reducible show wpAny _ _ (subscriptTail _ _ (Value.bytes _ _) (Value.int _ _)) _ _ _); k_dflt (first | (refine' at_bytes_i i9 ?zzhi ?zzhb ?zzhz ?zzhk ?_ ?zzhs ?zzht; (case zzhi => omega); (case zzhb => exact Row.ints (by assumption)); (case zzhz => exact Row.len (by assumption)); (case zzhk => assumption)) | (refine' at_bytes_i 0 ?zzhi ?zzhb ?zzhz ?zzhk ?_ ?zzhs ?zzht; (case zzhi => exact rfl); (case zzhb => exact Row.ints (by assumption)); (case zzhz => exact Row.len (by assumption)); (case zzhk => decide)) | (refine' at_bytes_i 1 ?zzhi ?zzhb ?zzhz ?zzhk ?_ ?zzhs ?zzht; (case zzhi => exact rfl); (case zzhb => exact Row.ints (by assumption)); (case zzhz => exact Row.len (by assumption)); (case zzhk => decide)) | (refine' at_bytes_i 2 ?zzhi ?zzhb ?zzhz ?zzhk ?_ ?zzhs ?zzht; (case zzhi => exact rfl); (case zzhb => exact Row.ints (by assumption)); (case zzhz => exact Row.len (by assumption)); (case zzhk => decide)) | (refine' at_bytes_i 3 ?zzhi ?zzhb ?zzhz ?zzhk ?_ ?zzhs ?zzht; (case zzhi => exact rfl); (case zzhb => exact Row.ints (by assumption)); (case zzhz => exact Row.len (by assumption)); (case zzhk => decide))); (case zzhs => with_unfolding_all rfl); (case zzht => (intro _; with_unfolding_all rfl)); intro _ _)))
          | (((with_reducible show wpAny _ _ (compareOp CmpOp.Eq (Value.bytes _ _) (Value.bytes _ _)) _ _ _); (refine' eq_bytes_yes ?zzhb ?zzhc ?zze ?_; (case zzhb => first | exact Row.ints (by assumption) | assumption); (case zzhc => first | exact Row.ints (by assumption) | assumption); (case zze => exact s13 a b))))
          | ((with_reducible show wpAny _ _ (callWith _ (Value.ref _) _ _ _) _ _ _); (k_here; k_dflt (refine' callWith_K ?zzk1 ?zzk2 ?_; (case zzk1 => with_reducible assumption); (case zzk2 => k_is); k_whole))))
    | ((fail_if_success (with_reducible show wpAny _ _ _ _ _ _)); first
          | ((with_reducible show LCg.CompSrc _ _ _ _ _ _ _ _ _ _ _ _ _ _); ((k_here; k_dflt (first | (refine LCg.CompSrc.range (n := 4) (by rfl) (by k_asm) (by k_asm) (by assumption) (by first | decide | rfl) (by first | rfl | decide) (by exact Nat.le_of_ble_eq_true rfl) ?_; intro g'; refine' comp_range (tab4 (fun k => ((wnd p4 a).getD k 0 + (wnd p4 b).getD k 0) % 17)) rfl (fun i9 t9 I9 oI9 C9 oC9 D9 ys9 m9 h9 k9 E9 hi9 hC9 hx9 F9 N9 => ?_) (fun ys9 hy9 => ?_)))))))
    | walk1
    | (dsimp only; walk1))
  exact hQ _ _ _ (by assumption) (news_sub (by assumption) (by (repeat' first | assumption | exact sub_refl | refine' sub_tail ?_)))
end Mine

namespace Mine

set_option maxRecDepth 100000 in
theorem law11 {w : World} {p : Program} {loose : List Str} {mean : ExcName → Option Value} {mg mb : Str → Option Value} {L fa c1 c2 : Addr} {cd : Value} {g h : Heap} {s : Shared} {tk : Nat} {m : Str → Option Value} {o1 o2 q1 q2 q3 q4 : Obj} {vs1 vs2 : Array Value} {t1 t2 v1 v2 v3 v4 : Tok} {x1 x2 x3 x4 : Array UInt8} {a b : List Int} {tau : List (Addr × Obj)} {Q : Flow → Shared → Prop} {E : Value → Shared → Prop}
    (B : Below callerA g [] g) (X : (hd.heap_39 w.params).In g) (T : Top p loose mean mg mb g) (hd1 : o1.data = .fields vs1) (hv1 : vs1[1]? = some (.str (Str.ofString "_int2digits.<locals>.inner") t1)) (hd2 : o2.data = .fields vs2) (hv2 : vs2[1]? = some (.str (Str.ofString "_digits2int.<locals>.inner") t2))
    (hx1 : Row x1 a) (hx2 : Row x2 b) (qd1 : q1.data = .cell (some (.bytes x1 v1))) (qd2 : q2.data = .cell (some (.bytes x2 v2)))
    (hx3 : Row x3 (wnd p4 a)) (hx4 : Row x4 (wnd p4 b)) (qd3 : q3.data = .cell (some (.bytes x3 v3))) (qd4 : q4.data = .cell (some (.bytes x4 v4)))
    (M : ∀ q ∈ tabs c1 c2 o1 o2, q ∈ tau) (F : Fr g L h m) (N : News g L h ((L + 1 + 1 + 1 + 1, q4) :: (L + 1 + 1 + 1, q3) :: (L + 1 + 1, q2) :: (L + 1, q1) :: tau))
    (hQ : ∀ h' tk' m', Fr g L h' m' → News g L h' tau → Q (.ret (.bool true)) { s with heap := h', toks := tk' }) :
    wpC (model PySem.Challenge.rw_hm0003_01.row.prog w) (callerA.deeper (envOfC (Str.ofString "law") lawScope L fa cd)) (execs (lawBody.drop 11) (envOfC (Str.ofString "law") lawScope L fa cd)) Q E { s with heap := h, toks := tk } := by
  have hs : lawScope = lawScope := rfl
  conv at hs => rhs; whnf
  have hb : lawBody.drop 11 = lawBody.drop 11 := rfl
  conv at hb => rhs; whnf
  rw [hs, hb]
  clear hs hb
  revert X; k_fill; intro X
  obtain ⟨a0, a1, a2, a3, rfl⟩ := hx1.four
  have hi1 : KBw.bInts x1 = [a0, a1, a2, a3] := hx1.ints
  have hK9 : Low [a3, a0, a1, a2] := low4 (hx1.at 3) (hx1.at 0) (hx1.at 1) (hx1.at 2)
  refine execsC_cut ?_; intro Qz Ez hZ1 hZ2
  repeat' (first
    | (k_unfold; (try dsimp only))
    | ((with_reducible show EltEnd _ _ _ _ _ _ _ _); (first | (refine' elt_end ?zzF ?zzN ?zze; (case zzF => assumption); (case zzN => assumption); (case zze => first | with_reducible rfl | assumption | exact Eq.symm (tab4_get (by assumption)))) | (refine' eltEnd ?zzF ?zzN ?zzS ?zze; (case zzF => assumption); (case zzN => assumption); (case zzS => (repeat' first | assumption | exact sub_refl | refine' sub_tail ?_)); (case zze => first | with_reducible rfl | assumption | exact Eq.symm (tab4_get (by assumption))))))
    | (with_reducible refine hZ3 _ _ ?_; clear hZ3; (try clear Qz); (try dsimp only)) | (with_reducible refine hZ1 _ ?_; clear hZ1 hZ2; (try clear Qz Ez); (try dsimp only)) | (with_reducible refine hZ2 _ _ ?_; clear hZ1 hZ2; (try clear Qz Ez); (try dsimp only))
    | ((with_reducible show wpAny _ _ (eval _ _) _ _ _); first
          | (((first | (with_reducible show wpAny _ _ (eval (Expr.Call _ _ _ _) _) _ _ _) | (with_reducible show wpAny _ _ (eval (Expr.BinOp _ _ _ _) _) _ _ _) | (with_reducible show wpAny _ _ (eval (Expr.Tuple _ _ _) _) _ _ _) | (with_reducible show wpAny _ _ (eval (Expr.List _ _ _) _) _ _ _) | (with_reducible show wpAny _ _ (eval (Expr.Subscript _ _ _) _) _ _ _) | (with_reducible show wpAny _ _ (eval (Expr.Compare _ _ _ _) _) _ _ _)); with_reducible refine cutQ ?_; intro Qz hZ3))
          | ((with_reducible show wpAny _ _ (eval (Expr.Name _ _) _) _ _ _); (k_here; (fail_if_success (with_reducible show wpAny _ _ (eval (Expr.Name _ _) (compEnvC _ _ _ _)) _ _ _)); k_dflt (first | (refine' nameX_L ?zzF ?zzhv ?_ ?zzhk ?zzhx ?zzhd; (case zzhx => exact rfl); (case zzhk => exact rfl); (case zzhd => decide); (case zzF => k_asm); (case zzhv => first | exact rfl | assumption); k_whole) | (refine' nameX_K ?zzF ?zzX ?zzT ?zze ?_ ?zzhk ?zzhx ?zzhd; (case zzhx => exact rfl); (case zzhk => exact rfl); (case zzhd => decide); (case zzF => k_asm); (case zzX => with_reducible assumption); (case zzT => exact topRead_of (by with_reducible assumption)); (case zze => k_is); k_whole) | (refine' nameX_B ?zzF ?zzX ?zzT ?zze ?zzv ?zzzn ?_ ?zzhk ?zzhx ?zzhd; (case zzhx => exact rfl); (case zzhk => exact rfl); (case zzhd => decide); (case zzF => k_asm); (case zzX => with_reducible assumption); (case zzT => exact topRead_of (by with_reducible assumption)); (case zze => k_is); (case zzv => boot_fast); (case zzzn => decide); k_whole) | (refine' nameX_F ?zzN ?zzc ?zzm ?zzd ?_ ?zzhk ?zzhx ?zzhb ?zzhn; (case zzhx => exact rfl); (case zzhk => exact rfl); (case zzhb => decide); (case zzhn => decide); (case zzN => k_asm); (case zzc => rfl); (case zzm => k_mem); (case zzd => k_asm); k_whole) | (refine' nameX_C ?zzN ?zzc ?zzm ?zzd ?_ ?zzhk ?zzhx ?zzhb; (case zzhx => exact rfl); (case zzhk => exact rfl); (case zzhb => decide); (case zzN => k_asm); (case zzc => rfl); (case zzm => k_mem); (case zzd => k_asm); k_whole)))))
    | ((with_reducible show wpAny _ _ (call _ _ _) _ _ _); first
          | ((with_reducible show wpAny _ _ (call (Value.ref _) _ _) _ _ _); ((with_reducible show wpAny _ _ (call (Value.ref 75) [Value.bytes _ _, Value.int 4 _] _) _ _ _); (refine' Tell.row (wnd4 (by first | assumption | exact ⟨by assumption, rfl, by assumption⟩)) ?zzk1 ?zzk2 ?zzk3 ?zzk4 ?zzk5 ?zzkK ?zzv2 ?zzv1 ?zzv4 ?zzv3 ?zzkM ?zzkd ?zzku ?_; (case zzkK => exact rfl); (case zzk1 => k_asm); (case zzk2 => k_asm); (case zzk3 => k_asm); (case zzk4 => k_asm); (case zzk5 => k_asm); (case zzv2 => assumption); (case zzv1 => assumption); (case zzv4 => assumption); (case zzv3 => assumption); (case zzkM => (repeat' first | assumption | exact sub_refl | refine' sub_tail ?_)); (case zzkd => k_room); (case zzku => ktr_units)); intro zb zt h' tk' F' N' zr; (try k_sweep))))
    | ((with_reducible show wpAny _ _ _ _ _ _); (fail_if_success (with_reducible show wpAny _ _ (eval _ _) _ _ _)); (fail_if_success (with_reducible show wpAny _ _ (execs _ _) _ _ _)); first
          | ((with_reducible show wpAny _ _ (callWith _ (Value.ref _) _ _ _) _ _ _); (k_here; k_dflt (refine' callWith_K ?zzk1 ?zzk2 ?_; (case zzk1 => with_reducible assumption); (case zzk2 => k_is); k_whole)))
          | ((with_reducible show wpAny _ _ (storeName _ _ _) _ _ _); (k_here; k_dflt (refine' storeX_L ?zzF ?zzN ?_ ?zzhk ?zzhx; (case zzhx => exact rfl); (case zzhk => exact rfl); (case zzF => k_asm); (case zzN => k_asm); k_whole; intro h' F' N'; (try k_sweep)))))
    | walk1
    | (dsimp only; walk1))
  refine execsC_cut ?_; intro Qz Ez hZ1 hZ2
  repeat' (first
    | (k_unfold; (try dsimp only))
    | ((with_reducible show EltEnd _ _ _ _ _ _ _ _); (first | (refine' elt_end ?zzF ?zzN ?zze; (case zzF => assumption); (case zzN => assumption); (case zze => first | with_reducible rfl | assumption | exact Eq.symm (tab4_get (by assumption)))) | (refine' eltEnd ?zzF ?zzN ?zzS ?zze; (case zzF => assumption); (case zzN => assumption); (case zzS => (repeat' first | assumption | exact sub_refl | refine' sub_tail ?_)); (case zze => first | with_reducible rfl | assumption | exact Eq.symm (tab4_get (by assumption))))))
    | (with_reducible refine hZ3 _ _ ?_; clear hZ3; (try clear Qz); (try dsimp only)) | (with_reducible refine hZ1 _ ?_; clear hZ1 hZ2; (try clear Qz Ez); (try dsimp only)) | (with_reducible refine hZ2 _ _ ?_; clear hZ1 hZ2; (try clear Qz Ez); (try dsimp only))
    | ((with_reducible show wpAny _ _ (eval _ _) _ _ _); first
          | (((first | (with_reducible show wpAny _ _ (eval (Expr.Call _ _ _ _) _) _ _ _) | (with_reducible show wpAny _ _ (eval (Expr.BinOp _ _ _ _) _) _ _ _) | (with_reducible show wpAny _ _ (eval (Expr.Tuple _ _ _) _) _ _ _) | (with_reducible show wpAny _ _ (eval (Expr.List _ _ _) _) _ _ _) | (with_reducible show wpAny _ _ (eval (Expr.Subscript _ _ _) _) _ _ _) | (with_reducible show wpAny _ _ (eval (Expr.Compare _ _ _ _) _) _ _ _)); with_reducible refine cutQ ?_; intro Qz hZ3))
          | ((with_reducible show wpAny _ _ (eval (Expr.Name _ _) _) _ _ _); (k_here; (with_reducible show wpAny _ _ (eval (Expr.Name _ _) (compEnvC _ _ _ _)) _ _ _); k_dflt (first | refine LCgL.ld_own (by k_asm) (by k_mem) (by assumption) (by assumption) ?_ | (refine' lcf_cell ?zzN ?zzc ?zzm ?zzd ?_ ?zza ?zzb; (case zza => rfl); (case zzb => rfl); (case zzN => k_asm); (case zzc => rfl); (case zzm => k_mem); (case zzd => k_asm); k_whole) | (refine' lcf_free ?zzN ?zzc ?zzm ?zzd ?_ ?zza ?zzb; (case zza => rfl); (case zzb => rfl); (case zzN => k_asm); (case zzc => rfl); (case zzm => k_mem); (case zzd => k_asm); k_whole) | refine LCgL.ld_global (by k_asm) (by k_asm) (by k_asm) (by k_is) ?_ | refine LCgL.ld_built (by k_asm) (by k_asm) (by k_asm) (by k_is) (by boot_by_name) (by decide) ?_)))
          | ((with_reducible show wpAny _ _ (eval (Expr.ListComp _ _ _ _) _) _ _ _); (k_here; k_dflt (refine LCg.ListComp_U (F₀ := by k_asm) (by with_unfolding_all rfl) (by decide) (by rfl) (by decide) (by rfl) ?_)))
          | ((with_reducible show wpAny _ _ (eval (Expr.Name _ _) _) _ _ _); (k_here; (fail_if_success (with_reducible show wpAny _ _ (eval (Expr.Name _ _) (compEnvC _ _ _ _)) _ _ _)); k_dflt (first | (refine' nameX_L ?zzF ?zzhv ?_ ?zzhk ?zzhx ?zzhd; (case zzhx => exact rfl); (case zzhk => exact rfl); (case zzhd => decide); (case zzF => k_asm); (case zzhv => first | exact rfl | assumption); k_whole) | (refine' nameX_K ?zzF ?zzX ?zzT ?zze ?_ ?zzhk ?zzhx ?zzhd; (case zzhx => exact rfl); (case zzhk => exact rfl); (case zzhd => decide); (case zzF => k_asm); (case zzX => with_reducible assumption); (case zzT => exact topRead_of (by with_reducible assumption)); (case zze => k_is); k_whole) | (refine' nameX_B ?zzF ?zzX ?zzT ?zze ?zzv ?zzzn ?_ ?zzhk ?zzhx ?zzhd; (case zzhx => exact rfl); (case zzhk => exact rfl); (case zzhd => decide); (case zzF => k_asm); (case zzX => with_reducible assumption); (case zzT => exact topRead_of (by with_reducible assumption)); (case zze => k_is); (case zzv => boot_fast); (case zzzn => decide); k_whole) | (refine' nameX_F ?zzN ?zzc ?zzm ?zzd ?_ ?zzhk ?zzhx ?zzhb ?zzhn; (case zzhx => exact rfl); (case zzhk => exact rfl); (case zzhb => decide); (case zzhn => decide); (case zzN => k_asm); (case zzc => rfl); (case zzm => k_mem); (case zzd => k_asm); k_whole) | (refine' nameX_C ?zzN ?zzc ?zzm ?zzd ?_ ?zzhk ?zzhx ?zzhb; (case zzhx => exact rfl); (case zzhk => exact rfl); (case zzhb => decide); (case zzN => k_asm); (case zzc => rfl); (case zzm => k_mem); (case zzd => k_asm); k_whole)))))
    | ((with_reducible show wpAny _ _ (call _ _ _) _ _ _); first
          | ((with_reducible show wpAny _ _ (call (Value.type _) _ _) _ _ _); ((with_reducible show wpAny _ _ (call (Value.type "bytes") [Value.ref _]) _ _ _); (refine' bytes_row ?zzF ?zzN ?zzh ?zzm ?zzi ?_; (case zzF => k_asm); (case zzN => k_asm); (case zzh => exact rfl); (case zzm => k_mem); (case zzi => assumption)); intro b' t' h' k' hb' F' N'; (try k_sweep))))
    | ((with_reducible show wpAny _ _ (binaryOp _ _ _) _ _ _); first
          | ((with_reducible show wpAny _ _ (binaryOp Operator.Pow _ _) _ _ _); ((refine pow_k (j := i9) (by omega) (by omega) (by decide) ?_)))
          | ((with_reducible show wpAny _ _ (binaryOp Operator.Mult _ _) _ _ _); ((refine mul17_l (by first | exact Row.at (by assumption) _ | decide) ?_)))
          | ((with_reducible show wpAny _ _ (binaryOp Operator.Mod _ _) _ _ _); k_dflt (first | (refine mod_closed (by decide) (by decide) ?_) | (refine mod_small (by omega) (by omega) ?_) | (refine mod_is (by decide) ?_))))
    | ((with_reducible show wpAny _ _ _ _ _ _); (fail_if_success (with_reducible show wpAny _ _ (eval _ _) _ _ _)); (fail_if_success (with_reducible show wpAny _ _ (execs _ _) _ _ _)); first
          | ((with_reducible show wpAny _ _ (subscriptTail _ _ _ _) _ _ _); ((k_here; (with_reducible show wpAny _ _ (subscriptTail _ _ (Value.bytes _ _) (Value.int _ _)) _ _ _); k_dflt (first | (refine' at_bytes_i i9 ?zzhi ?zzhb ?zzhz ?zzhk ?_ ?zzhs ?zzht; (case zzhi => omega); (case zzhb => exact Row.ints (by assumption)); (case zzhz => exact Row.len (by assumption)); (case zzhk => assumption)) | (refine' at_bytes_i 0 ?zzhi ?zzhb ?zzhz ?zzhk ?_ ?zzhs ?zzht; (case zzhi => exact rfl); (case zzhb => exact Row.ints (by assumption)); (case zzhz => exact Row.len (by assumption)); (case zzhk => decide)) | (refine' at_bytes_i 1 ?zzhi ?zzhb ?zzhz ?zzhk ?_ ?zzhs ?zzht; (case zzhi => exact rfl); (case zzhb => exact Row.ints (by assumption)); (case zzhz => exact Row.len (by assumption)); (case zzhk => decide)) | (refine' at_bytes_i 2 ?zzhi ?zzhb ?zzhz ?zzhk ?_ ?zzhs ?zzht; (case zzhi => exact rfl); (case zzhb => exact Row.ints (by assumption)); (case zzhz => exact Row.len (by assumption)); (case zzhk => decide)) | (refine' at_bytes_i 3 ?zzhi ?zzhb ?zzhz ?zzhk ?_ ?zzhs ?zzht; (case zzhi => exact rfl); (case zzhb => exact Row.ints (by assumption)); (case zzhz => exact Row.len (by assumption)); (case zzhk => decide))); (case zzhs => with_unfolding_all rfl); (case zzht => (intro _; with_unfolding_all rfl)); intro _ _)))
          | (((with_reducible show wpAny _ _ (compareOp CmpOp.NotEq (Value.bytes _ _) (Value.bytes _ _)) _ _ _); (refine' ne_bytes_no ?zzhb ?zzhc ?zze ?_; (case zzhb => first | exact Row.ints (by assumption) | assumption); (case zzhc => first | exact Row.ints (by assumption) | assumption); (case zze => exact s11 _ _ _ _)))))
    | ((fail_if_success (with_reducible show wpAny _ _ _ _ _ _)); first
          | ((with_reducible show LCg.CompSrc _ _ _ _ _ _ _ _ _ _ _ _ _ _); ((k_here; k_dflt (first | (refine LCg.CompSrc.range (n := 4) (by rfl) (by k_asm) (by k_asm) (by assumption) (by first | decide | rfl) (by first | rfl | decide) (by exact Nat.le_of_ble_eq_true rfl) ?_; intro g'; refine' comp_range (tab4 (fun k => (wnd p4 [a0, a1, a2, a3]).getD k 0 * 4 ^ k % 17)) rfl (fun i9 t9 I9 oI9 C9 oC9 D9 ys9 m9 h9 k9 E9 hi9 hC9 hx9 F9 N9 => ?_) (fun ys9 hy9 => ?_)))))))
    | walk1
    | (dsimp only; walk1))
  exact law13 B X T hd1 hv1 hd2 hv2 hx1 hx2 qd1 qd2 hx3 hx4 qd3 qd4 M (by assumption) (news_sub (by assumption) (by (repeat' first | assumption | exact sub_refl | refine' sub_tail ?_))) hQ
end Mine

namespace Mine

set_option maxRecDepth 100000 in
theorem law10 {w : World} {p : Program} {loose : List Str} {mean : ExcName → Option Value} {mg mb : Str → Option Value} {L fa c1 c2 : Addr} {cd : Value} {g h : Heap} {s : Shared} {tk : Nat} {m : Str → Option Value} {o1 o2 q1 q2 q3 q4 : Obj} {vs1 vs2 : Array Value} {t1 t2 v1 v2 v3 v4 : Tok} {x1 x2 x3 x4 : Array UInt8} {a b : List Int} {tau : List (Addr × Obj)} {Q : Flow → Shared → Prop} {E : Value → Shared → Prop}
    (B : Below callerA g [] g) (X : (hd.heap_39 w.params).In g) (T : Top p loose mean mg mb g) (hd1 : o1.data = .fields vs1) (hv1 : vs1[1]? = some (.str (Str.ofString "_int2digits.<locals>.inner") t1)) (hd2 : o2.data = .fields vs2) (hv2 : vs2[1]? = some (.str (Str.ofString "_digits2int.<locals>.inner") t2))
    (hx1 : Row x1 a) (hx2 : Row x2 b) (qd1 : q1.data = .cell (some (.bytes x1 v1))) (qd2 : q2.data = .cell (some (.bytes x2 v2)))
    (hx3 : Row x3 (wnd p4 a)) (hx4 : Row x4 (wnd p4 b)) (qd3 : q3.data = .cell (some (.bytes x3 v3))) (qd4 : q4.data = .cell (some (.bytes x4 v4)))
    (M : ∀ q ∈ tabs c1 c2 o1 o2, q ∈ tau) (F : Fr g L h m) (N : News g L h ((L + 1 + 1 + 1 + 1, q4) :: (L + 1 + 1 + 1, q3) :: (L + 1 + 1, q2) :: (L + 1, q1) :: tau))
    (hQ : ∀ h' tk' m', Fr g L h' m' → News g L h' tau → Q (.ret (.bool true)) { s with heap := h', toks := tk' }) :
    wpC (model PySem.Challenge.rw_hm0003_01.row.prog w) (callerA.deeper (envOfC (Str.ofString "law") lawScope L fa cd)) (execs (lawBody.drop 10) (envOfC (Str.ofString "law") lawScope L fa cd)) Q E { s with heap := h, toks := tk } := by
  have hs : lawScope = lawScope := rfl
  conv at hs => rhs; whnf
  have hb : lawBody.drop 10 = lawBody.drop 10 := rfl
  conv at hb => rhs; whnf
  rw [hs, hb]
  clear hs hb
  revert X; k_fill; intro X
  refine execsC_cut ?_; intro Qz Ez hZ1 hZ2
  repeat' (first
    | (k_unfold; (try dsimp only))
    | ((with_reducible show EltEnd _ _ _ _ _ _ _ _); (first | (refine' elt_end ?zzF ?zzN ?zze; (case zzF => assumption); (case zzN => assumption); (case zze => first | with_reducible rfl | assumption | exact Eq.symm (tab4_get (by assumption)))) | (refine' eltEnd ?zzF ?zzN ?zzS ?zze; (case zzF => assumption); (case zzN => assumption); (case zzS => (repeat' first | assumption | exact sub_refl | refine' sub_tail ?_)); (case zze => first | with_reducible rfl | assumption | exact Eq.symm (tab4_get (by assumption))))))
    | (with_reducible refine hZ3 _ _ ?_; clear hZ3; (try clear Qz); (try dsimp only)) | (with_reducible refine hZ1 _ ?_; clear hZ1 hZ2; (try clear Qz Ez); (try dsimp only)) | (with_reducible refine hZ2 _ _ ?_; clear hZ1 hZ2; (try clear Qz Ez); (try dsimp only))
    | ((with_reducible show wpAny _ _ (eval _ _) _ _ _); first
          | (((first | (with_reducible show wpAny _ _ (eval (Expr.Call _ _ _ _) _) _ _ _) | (with_reducible show wpAny _ _ (eval (Expr.BinOp _ _ _ _) _) _ _ _) | (with_reducible show wpAny _ _ (eval (Expr.Tuple _ _ _) _) _ _ _) | (with_reducible show wpAny _ _ (eval (Expr.List _ _ _) _) _ _ _) | (with_reducible show wpAny _ _ (eval (Expr.Subscript _ _ _) _) _ _ _) | (with_reducible show wpAny _ _ (eval (Expr.Compare _ _ _ _) _) _ _ _)); with_reducible refine cutQ ?_; intro Qz hZ3))
          | ((with_reducible show wpAny _ _ (eval (Expr.ListComp _ _ _ _) _) _ _ _); ((fail_if_success (with_reducible show wpAny _ _ (eval (Expr.ListComp _ [⟨_, Expr.Call (Expr.Name (Str.ofString "range") _) _ _ _, _, _⟩] _ _) _) _ _ _)); (refine ListComp_B (by k_asm) (by with_unfolding_all rfl) (by decide) (by rfl) (by decide) (by rfl) ?_)))
          | ((with_reducible show wpAny _ _ (eval (Expr.Name _ _) _) _ _ _); (k_here; (with_reducible show wpAny _ _ (eval (Expr.Name _ _) (compEnvC _ _ _ _)) _ _ _); k_dflt (first | refine LCgL.ld_own (by k_asm) (by k_mem) (by assumption) (by assumption) ?_ | (refine' lcf_cell ?zzN ?zzc ?zzm ?zzd ?_ ?zza ?zzb; (case zza => rfl); (case zzb => rfl); (case zzN => k_asm); (case zzc => rfl); (case zzm => k_mem); (case zzd => k_asm); k_whole) | (refine' lcf_free ?zzN ?zzc ?zzm ?zzd ?_ ?zza ?zzb; (case zza => rfl); (case zzb => rfl); (case zzN => k_asm); (case zzc => rfl); (case zzm => k_mem); (case zzd => k_asm); k_whole) | refine LCgL.ld_global (by k_asm) (by k_asm) (by k_asm) (by k_is) ?_ | refine LCgL.ld_built (by k_asm) (by k_asm) (by k_asm) (by k_is) (by boot_by_name) (by decide) ?_)))
          | ((with_reducible show wpAny _ _ (eval (Expr.Name _ _) _) _ _ _); (k_here; (fail_if_success (with_reducible show wpAny _ _ (eval (Expr.Name _ _) (compEnvC _ _ _ _)) _ _ _)); k_dflt (first | (refine' nameX_L ?zzF ?zzhv ?_ ?zzhk ?zzhx ?zzhd; (case zzhx => exact rfl); (case zzhk => exact rfl); (case zzhd => decide); (case zzF => k_asm); (case zzhv => first | exact rfl | assumption); k_whole) | (refine' nameX_K ?zzF ?zzX ?zzT ?zze ?_ ?zzhk ?zzhx ?zzhd; (case zzhx => exact rfl); (case zzhk => exact rfl); (case zzhd => decide); (case zzF => k_asm); (case zzX => with_reducible assumption); (case zzT => exact topRead_of (by with_reducible assumption)); (case zze => k_is); k_whole) | (refine' nameX_B ?zzF ?zzX ?zzT ?zze ?zzv ?zzzn ?_ ?zzhk ?zzhx ?zzhd; (case zzhx => exact rfl); (case zzhk => exact rfl); (case zzhd => decide); (case zzF => k_asm); (case zzX => with_reducible assumption); (case zzT => exact topRead_of (by with_reducible assumption)); (case zze => k_is); (case zzv => boot_fast); (case zzzn => decide); k_whole) | (refine' nameX_F ?zzN ?zzc ?zzm ?zzd ?_ ?zzhk ?zzhx ?zzhb ?zzhn; (case zzhx => exact rfl); (case zzhk => exact rfl); (case zzhb => decide); (case zzhn => decide); (case zzN => k_asm); (case zzc => rfl); (case zzm => k_mem); (case zzd => k_asm); k_whole) | (refine' nameX_C ?zzN ?zzc ?zzm ?zzd ?_ ?zzhk ?zzhx ?zzhb; (case zzhx => exact rfl); (case zzhk => exact rfl); (case zzhb => decide); (case zzN => k_asm); (case zzc => rfl); (case zzm => k_mem); (case zzd => k_asm); k_whole)))))
    | ((with_reducible show wpAny _ _ (call _ _ _) _ _ _); first
          | ((with_reducible show wpAny _ _ (call (Value.type _) _ _) _ _ _); ((with_reducible show wpAny _ _ (call (Value.type "bytes") [Value.ref _]) _ _ _); (refine' bytes_row ?zzF ?zzN ?zzh ?zzm ?zzi ?_; (case zzF => k_asm); (case zzN => k_asm); (case zzh => exact rfl); (case zzm => k_mem); (case zzi => assumption)); intro b' t' h' k' hb' F' N'; (try k_sweep)))
          | ((with_reducible show wpAny _ _ (call (Value.ref _) _ _) _ _ _); ((with_reducible show wpAny _ _ (call (Value.ref 75) [Value.bytes _ _, Value.int 4 _] _) _ _ _); (refine' Tell.row (wnd4 (by first | assumption | exact ⟨by assumption, rfl, by assumption⟩)) ?zzk1 ?zzk2 ?zzk3 ?zzk4 ?zzk5 ?zzkK ?zzv2 ?zzv1 ?zzv4 ?zzv3 ?zzkM ?zzkd ?zzku ?_; (case zzkK => exact rfl); (case zzk1 => k_asm); (case zzk2 => k_asm); (case zzk3 => k_asm); (case zzk4 => k_asm); (case zzk5 => k_asm); (case zzv2 => assumption); (case zzv1 => assumption); (case zzv4 => assumption); (case zzv3 => assumption); (case zzkM => (repeat' first | assumption | exact sub_refl | refine' sub_tail ?_)); (case zzkd => k_room); (case zzku => ktr_units)); intro zb zt h' tk' F' N' zr; (try k_sweep))))
    | ((with_reducible show wpAny _ _ (binaryOp _ _ _) _ _ _); first
          | ((with_reducible show wpAny _ _ (binaryOp Operator.Mult _ _) _ _ _); ((refine mul17_l (by first | exact Row.at (by assumption) _ | decide) ?_)))
          | ((with_reducible show wpAny _ _ (binaryOp Operator.Mod _ _) _ _ _); k_dflt (first | (refine mod_closed (by decide) (by decide) ?_) | (refine mod_small (by omega) (by omega) ?_) | (refine mod_is (by decide) ?_))))
    | ((with_reducible show wpAny _ _ _ _ _ _); (fail_if_success (with_reducible show wpAny _ _ (eval _ _) _ _ _)); (fail_if_success (with_reducible show wpAny _ _ (execs _ _) _ _ _)); first
          | (((with_reducible show wpAny _ _ (compareOp CmpOp.NotEq (Value.bytes _ _) (Value.bytes _ _)) _ _ _); (refine' ne_bytes_no ?zzhb ?zzhc ?zze ?_; (case zzhb => first | exact Row.ints (by assumption) | assumption); (case zzhc => first | exact Row.ints (by assumption) | assumption); (case zze => exact s10 a))))
          | ((with_reducible show wpAny _ _ (callWith _ (Value.ref _) _ _ _) _ _ _); (k_here; k_dflt (refine' callWith_K ?zzk1 ?zzk2 ?_; (case zzk1 => with_reducible assumption); (case zzk2 => k_is); k_whole))))
    | ((fail_if_success (with_reducible show wpAny _ _ _ _ _ _)); first
          | (((refine SrcB_row (ks := a) (by rfl) (by k_asm) (by k_asm) (by first | exact Row.ints (by assumption) | assumption) hx1.len ?_; intro g'; refine' comp_bytes (ks := a) (tab4 (fun k => 16 * a.getD k 0 % 17)) rfl hx1.len (fun i9 t9 I9 oI9 C9 oC9 D9 ys9 m9 h9 k9 E9 hi9 hC9 hx9 F9 N9 => have b9 : 0 ≤ (a).getD i9 0 ∧ (a).getD i9 0 < 17 := hx1.at i9; ?_) (fun ys9 hy9 => ?_)))))
    | walk1
    | (dsimp only; walk1))
  exact law11 B X T hd1 hv1 hd2 hv2 hx1 hx2 qd1 qd2 hx3 hx4 qd3 qd4 M (by assumption) (news_sub (by assumption) (by (repeat' first | assumption | exact sub_refl | refine' sub_tail ?_))) hQ
end Mine

namespace Mine

set_option maxRecDepth 100000 in
theorem law9 {w : World} {p : Program} {loose : List Str} {mean : ExcName → Option Value} {mg mb : Str → Option Value} {L fa c1 c2 : Addr} {cd : Value} {g h : Heap} {s : Shared} {tk : Nat} {m : Str → Option Value} {o1 o2 q1 q2 q3 q4 : Obj} {vs1 vs2 : Array Value} {t1 t2 v1 v2 v3 v4 : Tok} {x1 x2 x3 x4 : Array UInt8} {a b : List Int} {tau : List (Addr × Obj)} {Q : Flow → Shared → Prop} {E : Value → Shared → Prop}
    (B : Below callerA g [] g) (X : (hd.heap_39 w.params).In g) (T : Top p loose mean mg mb g) (hd1 : o1.data = .fields vs1) (hv1 : vs1[1]? = some (.str (Str.ofString "_int2digits.<locals>.inner") t1)) (hd2 : o2.data = .fields vs2) (hv2 : vs2[1]? = some (.str (Str.ofString "_digits2int.<locals>.inner") t2))
    (hx1 : Row x1 a) (hx2 : Row x2 b) (qd1 : q1.data = .cell (some (.bytes x1 v1))) (qd2 : q2.data = .cell (some (.bytes x2 v2)))
    (hx3 : Row x3 (wnd p4 a)) (hx4 : Row x4 (wnd p4 b)) (qd3 : q3.data = .cell (some (.bytes x3 v3))) (qd4 : q4.data = .cell (some (.bytes x4 v4)))
    {x5 : Array UInt8} {v5 : Tok} {a0 a1 a2 a3 : Int} (ea : a = [a0, a1, a2, a3]) (hx5 : KBw.bInts x5 = [a0, a3, a2, a1]) (hm5 : m (Str.ofString "turned") = some (.bytes x5 v5))
    (M : ∀ q ∈ tabs c1 c2 o1 o2, q ∈ tau) (F : Fr g L h m) (N : News g L h ((L + 1 + 1 + 1 + 1, q4) :: (L + 1 + 1 + 1, q3) :: (L + 1 + 1, q2) :: (L + 1, q1) :: tau))
    (hQ : ∀ h' tk' m', Fr g L h' m' → News g L h' tau → Q (.ret (.bool true)) { s with heap := h', toks := tk' }) :
    wpC (model PySem.Challenge.rw_hm0003_01.row.prog w) (callerA.deeper (envOfC (Str.ofString "law") lawScope L fa cd)) (execs (lawBody.drop 9) (envOfC (Str.ofString "law") lawScope L fa cd)) Q E { s with heap := h, toks := tk } := by
  have hs : lawScope = lawScope := rfl
  conv at hs => rhs; whnf
  have hb : lawBody.drop 9 = lawBody.drop 9 := rfl
  conv at hb => rhs; whnf
  rw [hs, hb]
  clear hs hb
  revert X; k_fill; intro X
  subst ea
  have hK9 : Low [a0, a3, a2, a1] := low4 (hx1.at 0) (hx1.at 3) (hx1.at 2) (hx1.at 1)
  refine execsC_cut ?_; intro Qz Ez hZ1 hZ2
  repeat' (first
    | (k_unfold; (try dsimp only))
    | ((with_reducible show EltEnd _ _ _ _ _ _ _ _); (first | (refine' elt_end ?zzF ?zzN ?zze; (case zzF => assumption); (case zzN => assumption); (case zze => first | with_reducible rfl | assumption | exact Eq.symm (tab4_get (by assumption)))) | (refine' eltEnd ?zzF ?zzN ?zzS ?zze; (case zzF => assumption); (case zzN => assumption); (case zzS => (repeat' first | assumption | exact sub_refl | refine' sub_tail ?_)); (case zze => first | with_reducible rfl | assumption | exact Eq.symm (tab4_get (by assumption))))))
    | (with_reducible refine hZ3 _ _ ?_; clear hZ3; (try clear Qz); (try dsimp only)) | (with_reducible refine hZ1 _ ?_; clear hZ1 hZ2; (try clear Qz Ez); (try dsimp only)) | (with_reducible refine hZ2 _ _ ?_; clear hZ1 hZ2; (try clear Qz Ez); (try dsimp only))
    | ((with_reducible show wpAny _ _ (eval _ _) _ _ _); first
          | (((first | (with_reducible show wpAny _ _ (eval (Expr.Call _ _ _ _) _) _ _ _) | (with_reducible show wpAny _ _ (eval (Expr.BinOp _ _ _ _) _) _ _ _) | (with_reducible show wpAny _ _ (eval (Expr.Tuple _ _ _) _) _ _ _) | (with_reducible show wpAny _ _ (eval (Expr.List _ _ _) _) _ _ _) | (with_reducible show wpAny _ _ (eval (Expr.Subscript _ _ _) _) _ _ _) | (with_reducible show wpAny _ _ (eval (Expr.Compare _ _ _ _) _) _ _ _)); with_reducible refine cutQ ?_; intro Qz hZ3))
          | ((with_reducible show wpAny _ _ (eval (Expr.ListComp _ _ _ _) _) _ _ _); ((fail_if_success (with_reducible show wpAny _ _ (eval (Expr.ListComp _ [⟨_, Expr.Call (Expr.Name (Str.ofString "range") _) _ _ _, _, _⟩] _ _) _) _ _ _)); (refine ListComp_B (by k_asm) (by with_unfolding_all rfl) (by decide) (by rfl) (by decide) (by rfl) ?_)))
          | ((with_reducible show wpAny _ _ (eval (Expr.Name _ _) _) _ _ _); (k_here; (with_reducible show wpAny _ _ (eval (Expr.Name _ _) (compEnvC _ _ _ _)) _ _ _); k_dflt (first | refine LCgL.ld_own (by k_asm) (by k_mem) (by assumption) (by assumption) ?_ | (refine' lcf_cell ?zzN ?zzc ?zzm ?zzd ?_ ?zza ?zzb; (case zza => rfl); (case zzb => rfl); (case zzN => k_asm); (case zzc => rfl); (case zzm => k_mem); (case zzd => k_asm); k_whole) | (refine' lcf_free ?zzN ?zzc ?zzm ?zzd ?_ ?zza ?zzb; (case zza => rfl); (case zzb => rfl); (case zzN => k_asm); (case zzc => rfl); (case zzm => k_mem); (case zzd => k_asm); k_whole) | refine LCgL.ld_global (by k_asm) (by k_asm) (by k_asm) (by k_is) ?_ | refine LCgL.ld_built (by k_asm) (by k_asm) (by k_asm) (by k_is) (by boot_by_name) (by decide) ?_)))
          | ((with_reducible show wpAny _ _ (eval (Expr.Name _ _) _) _ _ _); (k_here; (fail_if_success (with_reducible show wpAny _ _ (eval (Expr.Name _ _) (compEnvC _ _ _ _)) _ _ _)); k_dflt (first | (refine' nameX_L ?zzF ?zzhv ?_ ?zzhk ?zzhx ?zzhd; (case zzhx => exact rfl); (case zzhk => exact rfl); (case zzhd => decide); (case zzF => k_asm); (case zzhv => first | exact rfl | assumption); k_whole) | (refine' nameX_K ?zzF ?zzX ?zzT ?zze ?_ ?zzhk ?zzhx ?zzhd; (case zzhx => exact rfl); (case zzhk => exact rfl); (case zzhd => decide); (case zzF => k_asm); (case zzX => with_reducible assumption); (case zzT => exact topRead_of (by with_reducible assumption)); (case zze => k_is); k_whole) | (refine' nameX_B ?zzF ?zzX ?zzT ?zze ?zzv ?zzzn ?_ ?zzhk ?zzhx ?zzhd; (case zzhx => exact rfl); (case zzhk => exact rfl); (case zzhd => decide); (case zzF => k_asm); (case zzX => with_reducible assumption); (case zzT => exact topRead_of (by with_reducible assumption)); (case zze => k_is); (case zzv => boot_fast); (case zzzn => decide); k_whole) | (refine' nameX_F ?zzN ?zzc ?zzm ?zzd ?_ ?zzhk ?zzhx ?zzhb ?zzhn; (case zzhx => exact rfl); (case zzhk => exact rfl); (case zzhb => decide); (case zzhn => decide); (case zzN => k_asm); (case zzc => rfl); (case zzm => k_mem); (case zzd => k_asm); k_whole) | (refine' nameX_C ?zzN ?zzc ?zzm ?zzd ?_ ?zzhk ?zzhx ?zzhb; (case zzhx => exact rfl); (case zzhk => exact rfl); (case zzhb => decide); (case zzN => k_asm); (case zzc => rfl); (case zzm => k_mem); (case zzd => k_asm); k_whole)))))
    | ((with_reducible show wpAny _ _ (call _ _ _) _ _ _); first
          | ((with_reducible show wpAny _ _ (call (Value.type _) _ _) _ _ _); ((with_reducible show wpAny _ _ (call (Value.type "bytes") [Value.ref _]) _ _ _); (refine' bytes_row ?zzF ?zzN ?zzh ?zzm ?zzi ?_; (case zzF => k_asm); (case zzN => k_asm); (case zzh => exact rfl); (case zzm => k_mem); (case zzi => assumption)); intro b' t' h' k' hb' F' N'; (try k_sweep)))
          | ((with_reducible show wpAny _ _ (call (Value.ref _) _ _) _ _ _); ((with_reducible show wpAny _ _ (call (Value.ref 75) [Value.bytes _ _, Value.int 4 _] _) _ _ _); (refine' Tell.row (wnd4 (by first | assumption | exact ⟨by assumption, rfl, by assumption⟩)) ?zzk1 ?zzk2 ?zzk3 ?zzk4 ?zzk5 ?zzkK ?zzv2 ?zzv1 ?zzv4 ?zzv3 ?zzkM ?zzkd ?zzku ?_; (case zzkK => exact rfl); (case zzk1 => k_asm); (case zzk2 => k_asm); (case zzk3 => k_asm); (case zzk4 => k_asm); (case zzk5 => k_asm); (case zzv2 => assumption); (case zzv1 => assumption); (case zzv4 => assumption); (case zzv3 => assumption); (case zzkM => (repeat' first | assumption | exact sub_refl | refine' sub_tail ?_)); (case zzkd => k_room); (case zzku => ktr_units)); intro zb zt h' tk' F' N' zr; (try k_sweep)))
          | ((with_reducible show wpAny _ _ (call (Value.type _) _ _) _ _ _); ((with_reducible show wpAny _ _ (call (Value.type "bytes") [Value.ref _]) _ _ _); (refine' bytes_of ?zzF ?zzN ?zzh ?zzm ?zzi ?zzr ?zzz ?_; (case zzF => k_asm); (case zzN => k_asm); (case zzh => exact rfl); (case zzm => k_mem); (case zzi => first | assumption | (repeat constructor)); (case zzr => first | assumption | exact mod_in | exact low_in rfl (by assumption) | (repeat' (first | exact in_nil | refine in_cons (by omega) (by omega) ?_))); (case zzz => exact rfl)); intro b' t' h' k' hb' F' N'; (try k_sweep))))
    | ((with_reducible show wpAny _ _ (binaryOp _ _ _) _ _ _); first
          | ((with_reducible show wpAny _ _ (binaryOp Operator.Mult _ _) _ _ _); ((refine mul17_l (by first | exact Row.at (by assumption) _ | decide) ?_)))
          | ((with_reducible show wpAny _ _ (binaryOp Operator.Mod _ _) _ _ _); k_dflt (first | (refine mod_closed (by decide) (by decide) ?_) | (refine mod_small (by omega) (by omega) ?_) | (refine mod_is (by decide) ?_))))
    | ((with_reducible show wpAny _ _ _ _ _ _); (fail_if_success (with_reducible show wpAny _ _ (eval _ _) _ _ _)); (fail_if_success (with_reducible show wpAny _ _ (execs _ _) _ _ _)); first
          | ((with_reducible show wpAny _ _ (subscriptTail _ _ _ _) _ _ _); ((k_here; (with_reducible show wpAny _ _ (subscriptTail _ _ (Value.bytes _ _) (Value.int _ _)) _ _ _); k_dflt (first | (refine' at_bytes_i i9 ?zzhi ?zzhb ?zzhz ?zzhk ?_ ?zzhs ?zzht; (case zzhi => omega); (case zzhb => exact Row.ints (by assumption)); (case zzhz => exact Row.len (by assumption)); (case zzhk => assumption)) | (refine' at_bytes_i 0 ?zzhi ?zzhb ?zzhz ?zzhk ?_ ?zzhs ?zzht; (case zzhi => exact rfl); (case zzhb => exact Row.ints (by assumption)); (case zzhz => exact Row.len (by assumption)); (case zzhk => decide)) | (refine' at_bytes_i 1 ?zzhi ?zzhb ?zzhz ?zzhk ?_ ?zzhs ?zzht; (case zzhi => exact rfl); (case zzhb => exact Row.ints (by assumption)); (case zzhz => exact Row.len (by assumption)); (case zzhk => decide)) | (refine' at_bytes_i 2 ?zzhi ?zzhb ?zzhz ?zzhk ?_ ?zzhs ?zzht; (case zzhi => exact rfl); (case zzhb => exact Row.ints (by assumption)); (case zzhz => exact Row.len (by assumption)); (case zzhk => decide)) | (refine' at_bytes_i 3 ?zzhi ?zzhb ?zzhz ?zzhk ?_ ?zzhs ?zzht; (case zzhi => exact rfl); (case zzhb => exact Row.ints (by assumption)); (case zzhz => exact Row.len (by assumption)); (case zzhk => decide))); (case zzhs => with_unfolding_all rfl); (case zzht => (intro _; with_unfolding_all rfl)); intro _ _)))
          | (((with_reducible show wpAny _ _ (compareOp CmpOp.NotEq (Value.bytes _ _) (Value.bytes _ _)) _ _ _); (refine' ne_bytes_no ?zzhb ?zzhc ?zze ?_; (case zzhb => first | exact Row.ints (by assumption) | assumption); (case zzhc => first | exact Row.ints (by assumption) | assumption); (case zze => first | exact rfl | exact s9 _ _ _ _))))
          | ((with_reducible show wpAny _ _ (callWith _ (Value.ref _) _ _ _) _ _ _); (k_here; k_dflt (refine' callWith_K ?zzk1 ?zzk2 ?_; (case zzk1 => with_reducible assumption); (case zzk2 => k_is); k_whole)))
          | ((with_reducible show wpAny _ _ (newList _) _ _ _); (k_here; k_dflt (refine' newList_is ?zzF ?zzN ?_ ?zzz; (case zzF => k_asm); (case zzN => k_asm); (case zzz => exact Nat.le_of_ble_eq_true rfl)); intro D' h' F' N' l1 l2; (try (replace l1 := allLt_of l1; (try dsimp only [AllLt] at l1))); (try k_lt2 l2); (try k_sweep))))
    | ((fail_if_success (with_reducible show wpAny _ _ _ _ _ _)); first
          | (((refine SrcB_row (ks := [a0, a3, a2, a1]) (by rfl) (by k_asm) (by k_asm) (by first | exact Row.ints (by assumption) | assumption) rfl ?_; intro g'; refine' comp_bytes (ks := [a0, a3, a2, a1]) (tab4 (fun k => 4 * [a0, a3, a2, a1].getD k 0 % 17)) rfl rfl (fun i9 t9 I9 oI9 C9 oC9 D9 ys9 m9 h9 k9 E9 hi9 hC9 hx9 F9 N9 => have b9 : 0 ≤ ([a0, a3, a2, a1]).getD i9 0 ∧ ([a0, a3, a2, a1]).getD i9 0 < 17 := hK9 i9; ?_) (fun ys9 hy9 => ?_)))))
    | walk1
    | (dsimp only; walk1))
  exact law10 B X T hd1 hv1 hd2 hv2 hx1 hx2 qd1 qd2 hx3 hx4 qd3 qd4 M (by assumption) (news_sub (by assumption) (by (repeat' first | assumption | exact sub_refl | refine' sub_tail ?_))) hQ
end Mine

namespace Mine

set_option maxRecDepth 100000 in
theorem law8 {w : World} {p : Program} {loose : List Str} {mean : ExcName → Option Value} {mg mb : Str → Option Value} {L fa c1 c2 : Addr} {cd : Value} {g h : Heap} {s : Shared} {tk : Nat} {m : Str → Option Value} {o1 o2 q1 q2 q3 q4 : Obj} {vs1 vs2 : Array Value} {t1 t2 v1 v2 v3 v4 : Tok} {x1 x2 x3 x4 : Array UInt8} {a b : List Int} {tau : List (Addr × Obj)} {Q : Flow → Shared → Prop} {E : Value → Shared → Prop}
    (B : Below callerA g [] g) (X : (hd.heap_39 w.params).In g) (T : Top p loose mean mg mb g) (hd1 : o1.data = .fields vs1) (hv1 : vs1[1]? = some (.str (Str.ofString "_int2digits.<locals>.inner") t1)) (hd2 : o2.data = .fields vs2) (hv2 : vs2[1]? = some (.str (Str.ofString "_digits2int.<locals>.inner") t2))
    (hx1 : Row x1 a) (hx2 : Row x2 b) (qd1 : q1.data = .cell (some (.bytes x1 v1))) (qd2 : q2.data = .cell (some (.bytes x2 v2)))
    (hx3 : Row x3 (wnd p4 a)) (hx4 : Row x4 (wnd p4 b)) (qd3 : q3.data = .cell (some (.bytes x3 v3))) (qd4 : q4.data = .cell (some (.bytes x4 v4)))
    (M : ∀ q ∈ tabs c1 c2 o1 o2, q ∈ tau) (F : Fr g L h m) (N : News g L h ((L + 1 + 1 + 1 + 1, q4) :: (L + 1 + 1 + 1, q3) :: (L + 1 + 1, q2) :: (L + 1, q1) :: tau))
    (hQ : ∀ h' tk' m', Fr g L h' m' → News g L h' tau → Q (.ret (.bool true)) { s with heap := h', toks := tk' }) :
    wpC (model PySem.Challenge.rw_hm0003_01.row.prog w) (callerA.deeper (envOfC (Str.ofString "law") lawScope L fa cd)) (execs (lawBody.drop 8) (envOfC (Str.ofString "law") lawScope L fa cd)) Q E { s with heap := h, toks := tk } := by
  have hs : lawScope = lawScope := rfl
  conv at hs => rhs; whnf
  have hb : lawBody.drop 8 = lawBody.drop 8 := rfl
  conv at hb => rhs; whnf
  rw [hs, hb]
  clear hs hb
  revert X; k_fill; intro X
  obtain ⟨a0, a1, a2, a3, rfl⟩ := hx1.four
  have hi1 : KBw.bInts x1 = [a0, a1, a2, a3] := hx1.ints
  refine wpC_execs_cons (wpC_assign (wpC_binOp ?_) ?zzs)
  case zzs => rfl
  repeat' (first
    | (k_unfold; (try dsimp only))
    | ((with_reducible show EltEnd _ _ _ _ _ _ _ _); (first | (refine' elt_end ?zzF ?zzN ?zze; (case zzF => assumption); (case zzN => assumption); (case zze => first | with_reducible rfl | assumption | exact Eq.symm (tab4_get (by assumption)))) | (refine' eltEnd ?zzF ?zzN ?zzS ?zze; (case zzF => assumption); (case zzN => assumption); (case zzS => (repeat' first | assumption | exact sub_refl | refine' sub_tail ?_)); (case zze => first | with_reducible rfl | assumption | exact Eq.symm (tab4_get (by assumption))))))
    | (with_reducible refine hZ3 _ _ ?_; clear hZ3; (try clear Qz); (try dsimp only)) | (with_reducible refine hZ1 _ ?_; clear hZ1 hZ2; (try clear Qz Ez); (try dsimp only)) | (with_reducible refine hZ2 _ _ ?_; clear hZ1 hZ2; (try clear Qz Ez); (try dsimp only))
    | ((with_reducible show wpAny _ _ (eval _ _) _ _ _); first
          | ((with_reducible show wpAny _ _ (eval (Expr.Name _ _) _) _ _ _); (k_here; (fail_if_success (with_reducible show wpAny _ _ (eval (Expr.Name _ _) (compEnvC _ _ _ _)) _ _ _)); k_dflt (first | (refine' nameX_L ?zzF ?zzhv ?_ ?zzhk ?zzhx ?zzhd; (case zzhx => exact rfl); (case zzhk => exact rfl); (case zzhd => decide); (case zzF => k_asm); (case zzhv => first | exact rfl | assumption); k_whole) | (refine' nameX_K ?zzF ?zzX ?zzT ?zze ?_ ?zzhk ?zzhx ?zzhd; (case zzhx => exact rfl); (case zzhk => exact rfl); (case zzhd => decide); (case zzF => k_asm); (case zzX => with_reducible assumption); (case zzT => exact topRead_of (by with_reducible assumption)); (case zze => k_is); k_whole) | (refine' nameX_B ?zzF ?zzX ?zzT ?zze ?zzv ?zzzn ?_ ?zzhk ?zzhx ?zzhd; (case zzhx => exact rfl); (case zzhk => exact rfl); (case zzhd => decide); (case zzF => k_asm); (case zzX => with_reducible assumption); (case zzT => exact topRead_of (by with_reducible assumption)); (case zze => k_is); (case zzv => boot_fast); (case zzzn => decide); k_whole) | (refine' nameX_F ?zzN ?zzc ?zzm ?zzd ?_ ?zzhk ?zzhx ?zzhb ?zzhn; (case zzhx => exact rfl); (case zzhk => exact rfl); (case zzhb => decide); (case zzhn => decide); (case zzN => k_asm); (case zzc => rfl); (case zzm => k_mem); (case zzd => k_asm); k_whole) | (refine' nameX_C ?zzN ?zzc ?zzm ?zzd ?_ ?zzhk ?zzhx ?zzhb; (case zzhx => exact rfl); (case zzhk => exact rfl); (case zzhb => decide); (case zzN => k_asm); (case zzc => rfl); (case zzm => k_mem); (case zzd => k_asm); k_whole)))))
    | walk1
    | (dsimp only; walk1))
  refine wpC_callName ?zzs ?_
  case zzs => rfl
  repeat' (first
    | (k_unfold; (try dsimp only))
    | ((with_reducible show EltEnd _ _ _ _ _ _ _ _); (first | (refine' elt_end ?zzF ?zzN ?zze; (case zzF => assumption); (case zzN => assumption); (case zze => first | with_reducible rfl | assumption | exact Eq.symm (tab4_get (by assumption)))) | (refine' eltEnd ?zzF ?zzN ?zzS ?zze; (case zzF => assumption); (case zzN => assumption); (case zzS => (repeat' first | assumption | exact sub_refl | refine' sub_tail ?_)); (case zze => first | with_reducible rfl | assumption | exact Eq.symm (tab4_get (by assumption))))))
    | (with_reducible refine hZ3 _ _ ?_; clear hZ3; (try clear Qz); (try dsimp only)) | (with_reducible refine hZ1 _ ?_; clear hZ1 hZ2; (try clear Qz Ez); (try dsimp only)) | (with_reducible refine hZ2 _ _ ?_; clear hZ1 hZ2; (try clear Qz Ez); (try dsimp only))
    | ((with_reducible show wpAny _ _ (eval _ _) _ _ _); first
          | ((with_reducible show wpAny _ _ (eval (Expr.Name _ _) _) _ _ _); (k_here; (fail_if_success (with_reducible show wpAny _ _ (eval (Expr.Name _ _) (compEnvC _ _ _ _)) _ _ _)); k_dflt (first | (refine' nameX_L ?zzF ?zzhv ?_ ?zzhk ?zzhx ?zzhd; (case zzhx => exact rfl); (case zzhk => exact rfl); (case zzhd => decide); (case zzF => k_asm); (case zzhv => first | exact rfl | assumption); k_whole) | (refine' nameX_K ?zzF ?zzX ?zzT ?zze ?_ ?zzhk ?zzhx ?zzhd; (case zzhx => exact rfl); (case zzhk => exact rfl); (case zzhd => decide); (case zzF => k_asm); (case zzX => with_reducible assumption); (case zzT => exact topRead_of (by with_reducible assumption)); (case zze => k_is); k_whole) | (refine' nameX_B ?zzF ?zzX ?zzT ?zze ?zzv ?zzzn ?_ ?zzhk ?zzhx ?zzhd; (case zzhx => exact rfl); (case zzhk => exact rfl); (case zzhd => decide); (case zzF => k_asm); (case zzX => with_reducible assumption); (case zzT => exact topRead_of (by with_reducible assumption)); (case zze => k_is); (case zzv => boot_fast); (case zzzn => decide); k_whole) | (refine' nameX_F ?zzN ?zzc ?zzm ?zzd ?_ ?zzhk ?zzhx ?zzhb ?zzhn; (case zzhx => exact rfl); (case zzhk => exact rfl); (case zzhb => decide); (case zzhn => decide); (case zzN => k_asm); (case zzc => rfl); (case zzm => k_mem); (case zzd => k_asm); k_whole) | (refine' nameX_C ?zzN ?zzc ?zzm ?zzd ?_ ?zzhk ?zzhx ?zzhb; (case zzhx => exact rfl); (case zzhk => exact rfl); (case zzhb => decide); (case zzN => k_asm); (case zzc => rfl); (case zzm => k_mem); (case zzd => k_asm); k_whole)))))
    | walk1
    | (dsimp only; walk1))
  refine' wpC_callDefK (K := hd.heap_39 w.params) ?zzho ?zzs ?_
  case zzho => k_is
  case zzs => rfl
  repeat' (first
    | (k_unfold; (try dsimp only))
    | ((with_reducible show EltEnd _ _ _ _ _ _ _ _); (first | (refine' elt_end ?zzF ?zzN ?zze; (case zzF => assumption); (case zzN => assumption); (case zze => first | with_reducible rfl | assumption | exact Eq.symm (tab4_get (by assumption)))) | (refine' eltEnd ?zzF ?zzN ?zzS ?zze; (case zzF => assumption); (case zzN => assumption); (case zzS => (repeat' first | assumption | exact sub_refl | refine' sub_tail ?_)); (case zze => first | with_reducible rfl | assumption | exact Eq.symm (tab4_get (by assumption))))))
    | (with_reducible refine hZ3 _ _ ?_; clear hZ3; (try clear Qz); (try dsimp only)) | (with_reducible refine hZ1 _ ?_; clear hZ1 hZ2; (try clear Qz Ez); (try dsimp only)) | (with_reducible refine hZ2 _ _ ?_; clear hZ1 hZ2; (try clear Qz Ez); (try dsimp only))
    | ((with_reducible show wpAny _ _ (eval _ _) _ _ _); first
          | (((first | (with_reducible show wpAny _ _ (eval (Expr.Call _ _ _ _) _) _ _ _) | (with_reducible show wpAny _ _ (eval (Expr.BinOp _ _ _ _) _) _ _ _) | (with_reducible show wpAny _ _ (eval (Expr.Tuple _ _ _) _) _ _ _) | (with_reducible show wpAny _ _ (eval (Expr.List _ _ _) _) _ _ _) | (with_reducible show wpAny _ _ (eval (Expr.Subscript _ _ _) _) _ _ _) | (with_reducible show wpAny _ _ (eval (Expr.Compare _ _ _ _) _) _ _ _)); with_reducible refine cutQ ?_; intro Qz hZ3))
          | ((with_reducible show wpAny _ _ (eval (Expr.Name _ _) _) _ _ _); (k_here; (fail_if_success (with_reducible show wpAny _ _ (eval (Expr.Name _ _) (compEnvC _ _ _ _)) _ _ _)); k_dflt (first | (refine' nameX_L ?zzF ?zzhv ?_ ?zzhk ?zzhx ?zzhd; (case zzhx => exact rfl); (case zzhk => exact rfl); (case zzhd => decide); (case zzF => k_asm); (case zzhv => first | exact rfl | assumption); k_whole) | (refine' nameX_K ?zzF ?zzX ?zzT ?zze ?_ ?zzhk ?zzhx ?zzhd; (case zzhx => exact rfl); (case zzhk => exact rfl); (case zzhd => decide); (case zzF => k_asm); (case zzX => with_reducible assumption); (case zzT => exact topRead_of (by with_reducible assumption)); (case zze => k_is); k_whole) | (refine' nameX_B ?zzF ?zzX ?zzT ?zze ?zzv ?zzzn ?_ ?zzhk ?zzhx ?zzhd; (case zzhx => exact rfl); (case zzhk => exact rfl); (case zzhd => decide); (case zzF => k_asm); (case zzX => with_reducible assumption); (case zzT => exact topRead_of (by with_reducible assumption)); (case zze => k_is); (case zzv => boot_fast); (case zzzn => decide); k_whole) | (refine' nameX_F ?zzN ?zzc ?zzm ?zzd ?_ ?zzhk ?zzhx ?zzhb ?zzhn; (case zzhx => exact rfl); (case zzhk => exact rfl); (case zzhb => decide); (case zzhn => decide); (case zzN => k_asm); (case zzc => rfl); (case zzm => k_mem); (case zzd => k_asm); k_whole) | (refine' nameX_C ?zzN ?zzc ?zzm ?zzd ?_ ?zzhk ?zzhx ?zzhb; (case zzhx => exact rfl); (case zzhk => exact rfl); (case zzhb => decide); (case zzN => k_asm); (case zzc => rfl); (case zzm => k_mem); (case zzd => k_asm); k_whole)))))
    | walk1
    | (dsimp only; walk1))
  refine' TellC.use (bswap ?zzhb ?zzh1 ?zzh2 ?zzh3) ?zzB ?zzF ?zzX ?zzN ?zzT ?zzk ?zzd ?zzu ?_
  case zzk => exact rfl
  case zzhb => assumption
  case zzh1 => exact ⟨(hx1.at 1).1, Int.lt_trans (hx1.at 1).2 (by decide)⟩
  case zzh2 => exact ⟨(hx1.at 2).1, Int.lt_trans (hx1.at 2).2 (by decide)⟩
  case zzh3 => exact ⟨(hx1.at 3).1, Int.lt_trans (hx1.at 3).2 (by decide)⟩
  case zzB => k_asm
  case zzF => k_asm
  case zzX => k_asm
  case zzN => k_asm
  case zzT => k_asm
  case zzd => k_room
  case zzu => ktr_units
  intro v h' tk' F' N' post
  obtain ⟨zb, zt, zve, zhb⟩ := post
  subst zve
  repeat' (first
    | (k_unfold; (try dsimp only))
    | ((with_reducible show EltEnd _ _ _ _ _ _ _ _); (first | (refine' elt_end ?zzF ?zzN ?zze; (case zzF => assumption); (case zzN => assumption); (case zze => first | with_reducible rfl | assumption | exact Eq.symm (tab4_get (by assumption)))) | (refine' eltEnd ?zzF ?zzN ?zzS ?zze; (case zzF => assumption); (case zzN => assumption); (case zzS => (repeat' first | assumption | exact sub_refl | refine' sub_tail ?_)); (case zze => first | with_reducible rfl | assumption | exact Eq.symm (tab4_get (by assumption))))))
    | (with_reducible refine hZ3 _ _ ?_; clear hZ3; (try clear Qz); (try dsimp only)) | (with_reducible refine hZ1 _ ?_; clear hZ1 hZ2; (try clear Qz Ez); (try dsimp only)) | (with_reducible refine hZ2 _ _ ?_; clear hZ1 hZ2; (try clear Qz Ez); (try dsimp only))
    | ((with_reducible show wpAny _ _ _ _ _ _); (fail_if_success (with_reducible show wpAny _ _ (eval _ _) _ _ _)); (fail_if_success (with_reducible show wpAny _ _ (execs _ _) _ _ _)); first
          | ((with_reducible show wpAny _ _ (storeName _ _ _) _ _ _); (k_here; k_dflt (refine' storeX_L ?zzF ?zzN ?_ ?zzhk ?zzhx; (case zzhx => exact rfl); (case zzhk => exact rfl); (case zzF => k_asm); (case zzN => k_asm); k_whole; intro h' F' N'; (try k_sweep)))))
    | walk1
    | (dsimp only; walk1))
  refine' law9 B X T hd1 hv1 hd2 hv2 hx1 hx2 qd1 qd2 hx3 hx4 qd3 qd4 rfl ?zzx5 ?zzm5 M ?zzF (news_sub ?zzN (by (repeat' first | assumption | exact sub_refl | refine' sub_tail ?_))) hQ
  case zzF => assumption
  case zzN => assumption
  case zzm5 => exact rfl
  case zzx5 => assumption
end Mine

namespace Mine

set_option maxRecDepth 100000 in
theorem law7 {w : World} {p : Program} {loose : List Str} {mean : ExcName → Option Value} {mg mb : Str → Option Value} {L fa c1 c2 : Addr} {cd : Value} {g h : Heap} {s : Shared} {tk : Nat} {m : Str → Option Value} {o1 o2 q1 q2 q3 q4 : Obj} {vs1 vs2 : Array Value} {t1 t2 v1 v2 v3 v4 : Tok} {x1 x2 x3 x4 : Array UInt8} {a b : List Int} {tau : List (Addr × Obj)} {Q : Flow → Shared → Prop} {E : Value → Shared → Prop}
    (B : Below callerA g [] g) (X : (hd.heap_39 w.params).In g) (T : Top p loose mean mg mb g) (hd1 : o1.data = .fields vs1) (hv1 : vs1[1]? = some (.str (Str.ofString "_int2digits.<locals>.inner") t1)) (hd2 : o2.data = .fields vs2) (hv2 : vs2[1]? = some (.str (Str.ofString "_digits2int.<locals>.inner") t2))
    (hx1 : Row x1 a) (hx2 : Row x2 b) (qd1 : q1.data = .cell (some (.bytes x1 v1))) (qd2 : q2.data = .cell (some (.bytes x2 v2)))
    (hx3 : Row x3 (wnd p4 a)) (hx4 : Row x4 (wnd p4 b)) (qd3 : q3.data = .cell (some (.bytes x3 v3))) (qd4 : q4.data = .cell (some (.bytes x4 v4)))
    (M : ∀ q ∈ tabs c1 c2 o1 o2, q ∈ tau) (F : Fr g L h m) (N : News g L h ((L + 1 + 1 + 1 + 1, q4) :: (L + 1 + 1 + 1, q3) :: (L + 1 + 1, q2) :: (L + 1, q1) :: tau))
    (hQ : ∀ h' tk' m', Fr g L h' m' → News g L h' tau → Q (.ret (.bool true)) { s with heap := h', toks := tk' }) :
    wpC (model PySem.Challenge.rw_hm0003_01.row.prog w) (callerA.deeper (envOfC (Str.ofString "law") lawScope L fa cd)) (execs (lawBody.drop 7) (envOfC (Str.ofString "law") lawScope L fa cd)) Q E { s with heap := h, toks := tk } := by
  have hs : lawScope = lawScope := rfl
  conv at hs => rhs; whnf
  have hb : lawBody.drop 7 = lawBody.drop 7 := rfl
  conv at hb => rhs; whnf
  rw [hs, hb]
  clear hs hb
  revert X; k_fill; intro X
  refine execsC_cut ?_; intro Qz Ez hZ1 hZ2
  repeat' (first
    | (k_unfold; (try dsimp only))
    | ((with_reducible show EltEnd _ _ _ _ _ _ _ _); (first | (refine' elt_end ?zzF ?zzN ?zze; (case zzF => assumption); (case zzN => assumption); (case zze => first | with_reducible rfl | assumption | exact Eq.symm (tab4_get (by assumption)))) | (refine' eltEnd ?zzF ?zzN ?zzS ?zze; (case zzF => assumption); (case zzN => assumption); (case zzS => (repeat' first | assumption | exact sub_refl | refine' sub_tail ?_)); (case zze => first | with_reducible rfl | assumption | exact Eq.symm (tab4_get (by assumption))))))
    | (with_reducible refine hZ3 _ _ ?_; clear hZ3; (try clear Qz); (try dsimp only)) | (with_reducible refine hZ1 _ ?_; clear hZ1 hZ2; (try clear Qz Ez); (try dsimp only)) | (with_reducible refine hZ2 _ _ ?_; clear hZ1 hZ2; (try clear Qz Ez); (try dsimp only))
    | ((with_reducible show wpAny _ _ (eval _ _) _ _ _); first
          | (((first | (with_reducible show wpAny _ _ (eval (Expr.Call _ _ _ _) _) _ _ _) | (with_reducible show wpAny _ _ (eval (Expr.BinOp _ _ _ _) _) _ _ _) | (with_reducible show wpAny _ _ (eval (Expr.Tuple _ _ _) _) _ _ _) | (with_reducible show wpAny _ _ (eval (Expr.List _ _ _) _) _ _ _) | (with_reducible show wpAny _ _ (eval (Expr.Subscript _ _ _) _) _ _ _) | (with_reducible show wpAny _ _ (eval (Expr.Compare _ _ _ _) _) _ _ _)); with_reducible refine cutQ ?_; intro Qz hZ3))
          | ((with_reducible show wpAny _ _ (eval (Expr.ListComp _ _ _ _) _) _ _ _); ((fail_if_success (with_reducible show wpAny _ _ (eval (Expr.ListComp _ [⟨_, Expr.Call (Expr.Name (Str.ofString "range") _) _ _ _, _, _⟩] _ _) _) _ _ _)); (refine ListComp_B (by k_asm) (by with_unfolding_all rfl) (by decide) (by rfl) (by decide) (by rfl) ?_)))
          | ((with_reducible show wpAny _ _ (eval (Expr.Name _ _) _) _ _ _); (k_here; (with_reducible show wpAny _ _ (eval (Expr.Name _ _) (compEnvC _ _ _ _)) _ _ _); k_dflt (first | refine LCgL.ld_own (by k_asm) (by k_mem) (by assumption) (by assumption) ?_ | (refine' lcf_cell ?zzN ?zzc ?zzm ?zzd ?_ ?zza ?zzb; (case zza => rfl); (case zzb => rfl); (case zzN => k_asm); (case zzc => rfl); (case zzm => k_mem); (case zzd => k_asm); k_whole) | (refine' lcf_free ?zzN ?zzc ?zzm ?zzd ?_ ?zza ?zzb; (case zza => rfl); (case zzb => rfl); (case zzN => k_asm); (case zzc => rfl); (case zzm => k_mem); (case zzd => k_asm); k_whole) | refine LCgL.ld_global (by k_asm) (by k_asm) (by k_asm) (by k_is) ?_ | refine LCgL.ld_built (by k_asm) (by k_asm) (by k_asm) (by k_is) (by boot_by_name) (by decide) ?_)))
          | ((with_reducible show wpAny _ _ (eval (Expr.Name _ _) _) _ _ _); (k_here; (fail_if_success (with_reducible show wpAny _ _ (eval (Expr.Name _ _) (compEnvC _ _ _ _)) _ _ _)); k_dflt (first | (refine' nameX_L ?zzF ?zzhv ?_ ?zzhk ?zzhx ?zzhd; (case zzhx => exact rfl); (case zzhk => exact rfl); (case zzhd => decide); (case zzF => k_asm); (case zzhv => first | exact rfl | assumption); k_whole) | (refine' nameX_K ?zzF ?zzX ?zzT ?zze ?_ ?zzhk ?zzhx ?zzhd; (case zzhx => exact rfl); (case zzhk => exact rfl); (case zzhd => decide); (case zzF => k_asm); (case zzX => with_reducible assumption); (case zzT => exact topRead_of (by with_reducible assumption)); (case zze => k_is); k_whole) | (refine' nameX_B ?zzF ?zzX ?zzT ?zze ?zzv ?zzzn ?_ ?zzhk ?zzhx ?zzhd; (case zzhx => exact rfl); (case zzhk => exact rfl); (case zzhd => decide); (case zzF => k_asm); (case zzX => with_reducible assumption); (case zzT => exact topRead_of (by with_reducible assumption)); (case zze => k_is); (case zzv => boot_fast); (case zzzn => decide); k_whole) | (refine' nameX_F ?zzN ?zzc ?zzm ?zzd ?_ ?zzhk ?zzhx ?zzhb ?zzhn; (case zzhx => exact rfl); (case zzhk => exact rfl); (case zzhb => decide); (case zzhn => decide); (case zzN => k_asm); (case zzc => rfl); (case zzm => k_mem); (case zzd => k_asm); k_whole) | (refine' nameX_C ?zzN ?zzc ?zzm ?zzd ?_ ?zzhk ?zzhx ?zzhb; (case zzhx => exact rfl); (case zzhk => exact rfl); (case zzhb => decide); (case zzN => k_asm); (case zzc => rfl); (case zzm => k_mem); (case zzd => k_asm); k_whole)))))
    | ((with_reducible show wpAny _ _ (call _ _ _) _ _ _); first
          | ((with_reducible show wpAny _ _ (call (Value.type _) _ _) _ _ _); ((with_reducible show wpAny _ _ (call (Value.type "bytes") [Value.ref _]) _ _ _); (refine' bytes_row ?zzF ?zzN ?zzh ?zzm ?zzi ?_; (case zzF => k_asm); (case zzN => k_asm); (case zzh => exact rfl); (case zzm => k_mem); (case zzi => assumption)); intro b' t' h' k' hb' F' N'; (try k_sweep)))
          | ((with_reducible show wpAny _ _ (call (Value.ref _) _ _) _ _ _); ((with_reducible show wpAny _ _ (call (Value.ref 75) [Value.bytes _ _, Value.int 13 _] _) _ _ _); (refine' Tell.row (wnd13 (by first | assumption | exact ⟨by assumption, rfl, by assumption⟩)) ?zzk1 ?zzk2 ?zzk3 ?zzk4 ?zzk5 ?zzkK ?zzv2 ?zzv1 ?zzv4 ?zzv3 ?zzkM ?zzkd ?zzku ?_; (case zzkK => exact rfl); (case zzk1 => k_asm); (case zzk2 => k_asm); (case zzk3 => k_asm); (case zzk4 => k_asm); (case zzk5 => k_asm); (case zzv2 => assumption); (case zzv1 => assumption); (case zzv4 => assumption); (case zzv3 => assumption); (case zzkM => (repeat' first | assumption | exact sub_refl | refine' sub_tail ?_)); (case zzkd => k_room); (case zzku => ktr_units)); intro zb zt h' tk' F' N' zr; (try k_sweep))))
    | ((with_reducible show wpAny _ _ (binaryOp _ _ _) _ _ _); first
          | ((with_reducible show wpAny _ _ (binaryOp Operator.Mult _ _) _ _ _); ((refine mul17_l (by first | exact Row.at (by assumption) _ | decide) ?_)))
          | ((with_reducible show wpAny _ _ (binaryOp Operator.Mod _ _) _ _ _); k_dflt (first | (refine mod_closed (by decide) (by decide) ?_) | (refine mod_small (by omega) (by omega) ?_) | (refine mod_is (by decide) ?_))))
    | ((with_reducible show wpAny _ _ _ _ _ _); (fail_if_success (with_reducible show wpAny _ _ (eval _ _) _ _ _)); (fail_if_success (with_reducible show wpAny _ _ (execs _ _) _ _ _)); first
          | (((with_reducible show wpAny _ _ (compareOp CmpOp.NotEq (Value.bytes _ _) (Value.bytes _ _)) _ _ _); (refine' ne_bytes_no ?zzhb ?zzhc ?zze ?_; (case zzhb => first | exact Row.ints (by assumption) | assumption); (case zzhc => first | exact Row.ints (by assumption) | assumption); (case zze => exact s7 hx1.len hx1.2.2))))
          | ((with_reducible show wpAny _ _ (callWith _ (Value.ref _) _ _ _) _ _ _); (k_here; k_dflt (refine' callWith_K ?zzk1 ?zzk2 ?_; (case zzk1 => with_reducible assumption); (case zzk2 => k_is); k_whole))))
    | ((fail_if_success (with_reducible show wpAny _ _ _ _ _ _)); first
          | (((refine SrcB_row (ks := (wnd p13 (wnd p4 a))) (by rfl) (by k_asm) (by k_asm) (by first | exact Row.ints (by assumption) | assumption) rfl ?_; intro g'; refine' comp_bytes (ks := (wnd p13 (wnd p4 a))) (tab4 (fun k => 13 * (wnd p13 (wnd p4 a)).getD k 0 % 17)) rfl rfl (fun i9 t9 I9 oI9 C9 oC9 D9 ys9 m9 h9 k9 E9 hi9 hC9 hx9 F9 N9 => have b9 : 0 ≤ ((wnd p13 (wnd p4 a))).getD i9 0 ∧ ((wnd p13 (wnd p4 a))).getD i9 0 < 17 := low_mod i9; ?_) (fun ys9 hy9 => ?_)))))
    | walk1
    | (dsimp only; walk1))
  exact law8 B X T hd1 hv1 hd2 hv2 hx1 hx2 qd1 qd2 hx3 hx4 qd3 qd4 M (by assumption) (news_sub (by assumption) (by (repeat' first | assumption | exact sub_refl | refine' sub_tail ?_))) hQ
end Mine

namespace Mine

set_option maxRecDepth 100000 in
theorem law5 {w : World} {p : Program} {loose : List Str} {mean : ExcName → Option Value} {mg mb : Str → Option Value} {L fa c1 c2 : Addr} {cd : Value} {g h : Heap} {s : Shared} {tk : Nat} {m : Str → Option Value} {o1 o2 q1 q2 q3 q4 : Obj} {vs1 vs2 : Array Value} {t1 t2 v1 v2 v3 v4 : Tok} {x1 x2 x3 x4 : Array UInt8} {a b : List Int} {tau : List (Addr × Obj)} {Q : Flow → Shared → Prop} {E : Value → Shared → Prop}
    (B : Below callerA g [] g) (X : (hd.heap_39 w.params).In g) (T : Top p loose mean mg mb g) (hd1 : o1.data = .fields vs1) (hv1 : vs1[1]? = some (.str (Str.ofString "_int2digits.<locals>.inner") t1)) (hd2 : o2.data = .fields vs2) (hv2 : vs2[1]? = some (.str (Str.ofString "_digits2int.<locals>.inner") t2))
    (hx1 : Row x1 a) (hx2 : Row x2 b) (qd1 : q1.data = .cell (some (.bytes x1 v1))) (qd2 : q2.data = .cell (some (.bytes x2 v2)))
    (hx3 : Row x3 (wnd p4 a)) (hx4 : Row x4 (wnd p4 b)) (qd3 : q3.data = .cell (some (.bytes x3 v3))) (qd4 : q4.data = .cell (some (.bytes x4 v4)))
    (M : ∀ q ∈ tabs c1 c2 o1 o2, q ∈ tau) (F : Fr g L h m) (N : News g L h ((L + 1 + 1 + 1 + 1, q4) :: (L + 1 + 1 + 1, q3) :: (L + 1 + 1, q2) :: (L + 1, q1) :: tau))
    (hQ : ∀ h' tk' m', Fr g L h' m' → News g L h' tau → Q (.ret (.bool true)) { s with heap := h', toks := tk' }) :
    wpC (model PySem.Challenge.rw_hm0003_01.row.prog w) (callerA.deeper (envOfC (Str.ofString "law") lawScope L fa cd)) (execs (lawBody.drop 5) (envOfC (Str.ofString "law") lawScope L fa cd)) Q E { s with heap := h, toks := tk } := by
  have hs : lawScope = lawScope := rfl
  conv at hs => rhs; whnf
  have hb : lawBody.drop 5 = lawBody.drop 5 := rfl
  conv at hb => rhs; whnf
  rw [hs, hb]
  clear hs hb
  revert X; k_fill; intro X
  refine execsC_cut ?_; intro Qz Ez hZ1 hZ2
  repeat' (first
    | (k_unfold; (try dsimp only))
    | ((with_reducible show EltEnd _ _ _ _ _ _ _ _); (first | (refine' elt_end ?zzF ?zzN ?zze; (case zzF => assumption); (case zzN => assumption); (case zze => first | with_reducible rfl | assumption | exact Eq.symm (tab4_get (by assumption)))) | (refine' eltEnd ?zzF ?zzN ?zzS ?zze; (case zzF => assumption); (case zzN => assumption); (case zzS => (repeat' first | assumption | exact sub_refl | refine' sub_tail ?_)); (case zze => first | with_reducible rfl | assumption | exact Eq.symm (tab4_get (by assumption))))))
    | (with_reducible refine hZ3 _ _ ?_; clear hZ3; (try clear Qz); (try dsimp only)) | (with_reducible refine hZ1 _ ?_; clear hZ1 hZ2; (try clear Qz Ez); (try dsimp only)) | (with_reducible refine hZ2 _ _ ?_; clear hZ1 hZ2; (try clear Qz Ez); (try dsimp only))
    | ((with_reducible show wpAny _ _ (eval _ _) _ _ _); first
          | (((first | (with_reducible show wpAny _ _ (eval (Expr.Call _ _ _ _) _) _ _ _) | (with_reducible show wpAny _ _ (eval (Expr.BinOp _ _ _ _) _) _ _ _) | (with_reducible show wpAny _ _ (eval (Expr.Tuple _ _ _) _) _ _ _) | (with_reducible show wpAny _ _ (eval (Expr.List _ _ _) _) _ _ _) | (with_reducible show wpAny _ _ (eval (Expr.Subscript _ _ _) _) _ _ _) | (with_reducible show wpAny _ _ (eval (Expr.Compare _ _ _ _) _) _ _ _)); with_reducible refine cutQ ?_; intro Qz hZ3))
          | ((with_reducible show wpAny _ _ (eval (Expr.Name _ _) _) _ _ _); (k_here; (with_reducible show wpAny _ _ (eval (Expr.Name _ _) (compEnvC _ _ _ _)) _ _ _); k_dflt (first | refine LCgL.ld_own (by k_asm) (by k_mem) (by assumption) (by assumption) ?_ | (refine' lcf_cell ?zzN ?zzc ?zzm ?zzd ?_ ?zza ?zzb; (case zza => rfl); (case zzb => rfl); (case zzN => k_asm); (case zzc => rfl); (case zzm => k_mem); (case zzd => k_asm); k_whole) | (refine' lcf_free ?zzN ?zzc ?zzm ?zzd ?_ ?zza ?zzb; (case zza => rfl); (case zzb => rfl); (case zzN => k_asm); (case zzc => rfl); (case zzm => k_mem); (case zzd => k_asm); k_whole) | refine LCgL.ld_global (by k_asm) (by k_asm) (by k_asm) (by k_is) ?_ | refine LCgL.ld_built (by k_asm) (by k_asm) (by k_asm) (by k_is) (by boot_by_name) (by decide) ?_)))
          | ((with_reducible show wpAny _ _ (eval (Expr.ListComp _ _ _ _) _) _ _ _); (k_here; k_dflt (refine LCg.ListComp_U (F₀ := by k_asm) (by with_unfolding_all rfl) (by decide) (by rfl) (by decide) (by rfl) ?_)))
          | ((with_reducible show wpAny _ _ (eval (Expr.Name _ _) _) _ _ _); (k_here; (fail_if_success (with_reducible show wpAny _ _ (eval (Expr.Name _ _) (compEnvC _ _ _ _)) _ _ _)); k_dflt (first | (refine' nameX_L ?zzF ?zzhv ?_ ?zzhk ?zzhx ?zzhd; (case zzhx => exact rfl); (case zzhk => exact rfl); (case zzhd => decide); (case zzF => k_asm); (case zzhv => first | exact rfl | assumption); k_whole) | (refine' nameX_K ?zzF ?zzX ?zzT ?zze ?_ ?zzhk ?zzhx ?zzhd; (case zzhx => exact rfl); (case zzhk => exact rfl); (case zzhd => decide); (case zzF => k_asm); (case zzX => with_reducible assumption); (case zzT => exact topRead_of (by with_reducible assumption)); (case zze => k_is); k_whole) | (refine' nameX_B ?zzF ?zzX ?zzT ?zze ?zzv ?zzzn ?_ ?zzhk ?zzhx ?zzhd; (case zzhx => exact rfl); (case zzhk => exact rfl); (case zzhd => decide); (case zzF => k_asm); (case zzX => with_reducible assumption); (case zzT => exact topRead_of (by with_reducible assumption)); (case zze => k_is); (case zzv => boot_fast); (case zzzn => decide); k_whole) | (refine' nameX_F ?zzN ?zzc ?zzm ?zzd ?_ ?zzhk ?zzhx ?zzhb ?zzhn; (case zzhx => exact rfl); (case zzhk => exact rfl); (case zzhb => decide); (case zzhn => decide); (case zzN => k_asm); (case zzc => rfl); (case zzm => k_mem); (case zzd => k_asm); k_whole) | (refine' nameX_C ?zzN ?zzc ?zzm ?zzd ?_ ?zzhk ?zzhx ?zzhb; (case zzhx => exact rfl); (case zzhk => exact rfl); (case zzhb => decide); (case zzN => k_asm); (case zzc => rfl); (case zzm => k_mem); (case zzd => k_asm); k_whole)))))
    | ((with_reducible show wpAny _ _ (call _ _ _) _ _ _); first
          | ((with_reducible show wpAny _ _ (call (Value.type _) _ _) _ _ _); ((with_reducible show wpAny _ _ (call (Value.type "bytes") [Value.ref _]) _ _ _); (refine' bytes_row ?zzF ?zzN ?zzh ?zzm ?zzi ?_; (case zzF => k_asm); (case zzN => k_asm); (case zzh => exact rfl); (case zzm => k_mem); (case zzi => assumption)); intro b' t' h' k' hb' F' N'; (try k_sweep)))
          | ((with_reducible show wpAny _ _ (call (Value.ref _) _ _) _ _ _); ((with_reducible show wpAny _ _ (call (Value.ref 75) [Value.bytes _ _, Value.int 13 _] _) _ _ _); (refine' Tell.row (wnd13 (by first | assumption | exact ⟨by assumption, rfl, by assumption⟩)) ?zzk1 ?zzk2 ?zzk3 ?zzk4 ?zzk5 ?zzkK ?zzv2 ?zzv1 ?zzv4 ?zzv3 ?zzkM ?zzkd ?zzku ?_; (case zzkK => exact rfl); (case zzk1 => k_asm); (case zzk2 => k_asm); (case zzk3 => k_asm); (case zzk4 => k_asm); (case zzk5 => k_asm); (case zzv2 => assumption); (case zzv1 => assumption); (case zzv4 => assumption); (case zzv3 => assumption); (case zzkM => (repeat' first | assumption | exact sub_refl | refine' sub_tail ?_)); (case zzkd => k_room); (case zzku => ktr_units)); intro zb zt h' tk' F' N' zr; (try k_sweep))))
    | ((with_reducible show wpAny _ _ (binaryOp _ _ _) _ _ _); first
          | ((with_reducible show wpAny _ _ (binaryOp Operator.Mult _ _) _ _ _); ((refine mul17_l (by first | exact Row.at (by assumption) _ | decide) ?_)))
          | ((with_reducible show wpAny _ _ (binaryOp Operator.Mod _ _) _ _ _); k_dflt (first | (refine mod_closed (by decide) (by decide) ?_) | (refine mod_small (by omega) (by omega) ?_) | (refine mod_is (by decide) ?_))))
    | ((with_reducible show wpAny _ _ _ _ _ _); (fail_if_success (with_reducible show wpAny _ _ (eval _ _) _ _ _)); (fail_if_success (with_reducible show wpAny _ _ (execs _ _) _ _ _)); first
          | ((with_reducible show wpAny _ _ (subscriptTail _ _ _ _) _ _ _); ((k_here; (with_reducible show wpAny _ _ (subscriptTail _ _ (Value.bytes _ _) (Value.int _ _)) _ _ _); k_dflt (first | (refine' at_bytes_i i9 ?zzhi ?zzhb ?zzhz ?zzhk ?_ ?zzhs ?zzht; (case zzhi => omega); (case zzhb => exact Row.ints (by assumption)); (case zzhz => exact Row.len (by assumption)); (case zzhk => assumption)) | (refine' at_bytes_i 0 ?zzhi ?zzhb ?zzhz ?zzhk ?_ ?zzhs ?zzht; (case zzhi => exact rfl); (case zzhb => exact Row.ints (by assumption)); (case zzhz => exact Row.len (by assumption)); (case zzhk => decide)) | (refine' at_bytes_i 1 ?zzhi ?zzhb ?zzhz ?zzhk ?_ ?zzhs ?zzht; (case zzhi => exact rfl); (case zzhb => exact Row.ints (by assumption)); (case zzhz => exact Row.len (by assumption)); (case zzhk => decide)) | (refine' at_bytes_i 2 ?zzhi ?zzhb ?zzhz ?zzhk ?_ ?zzhs ?zzht; (case zzhi => exact rfl); (case zzhb => exact Row.ints (by assumption)); (case zzhz => exact Row.len (by assumption)); (case zzhk => decide)) | (refine' at_bytes_i 3 ?zzhi ?zzhb ?zzhz ?zzhk ?_ ?zzhs ?zzht; (case zzhi => exact rfl); (case zzhb => exact Row.ints (by assumption)); (case zzhz => exact Row.len (by assumption)); (case zzhk => decide))); (case zzhs => with_unfolding_all rfl); (case zzht => (intro _; with_unfolding_all rfl)); intro _ _)))
          | ((with_reducible show wpAny _ _ (callWith _ (Value.ref _) _ _ _) _ _ _); (k_here; k_dflt (refine' callWith_K ?zzk1 ?zzk2 ?_; (case zzk1 => with_reducible assumption); (case zzk2 => k_is); k_whole)))
          | ((with_reducible show wpAny _ _ (storeName _ _ _) _ _ _); (k_here; k_dflt (refine' storeX_L ?zzF ?zzN ?_ ?zzhk ?zzhx; (case zzhx => exact rfl); (case zzhk => exact rfl); (case zzF => k_asm); (case zzN => k_asm); k_whole; intro h' F' N'; (try k_sweep)))))
    | ((fail_if_success (with_reducible show wpAny _ _ _ _ _ _)); first
          | ((with_reducible show LCg.CompSrc _ _ _ _ _ _ _ _ _ _ _ _ _ _); ((k_here; k_dflt (first | (refine LCg.CompSrc.range (n := 4) (by rfl) (by k_asm) (by k_asm) (by assumption) (by first | decide | rfl) (by first | rfl | decide) (by exact Nat.le_of_ble_eq_true rfl) ?_; intro g'; refine' comp_range (tab4 (fun k => (wnd p4 a).getD k 0 * (wnd p4 b).getD k 0 % 17)) rfl (fun i9 t9 I9 oI9 C9 oC9 D9 ys9 m9 h9 k9 E9 hi9 hC9 hx9 F9 N9 => ?_) (fun ys9 hy9 => ?_)))))))
    | walk1
    | (dsimp only; walk1))
  refine execsC_cut ?_; intro Qz Ez hZ1 hZ2
  repeat' (first
    | (k_unfold; (try dsimp only))
    | ((with_reducible show EltEnd _ _ _ _ _ _ _ _); (first | (refine' elt_end ?zzF ?zzN ?zze; (case zzF => assumption); (case zzN => assumption); (case zze => first | with_reducible rfl | assumption | exact Eq.symm (tab4_get (by assumption)))) | (refine' eltEnd ?zzF ?zzN ?zzS ?zze; (case zzF => assumption); (case zzN => assumption); (case zzS => (repeat' first | assumption | exact sub_refl | refine' sub_tail ?_)); (case zze => first | with_reducible rfl | assumption | exact Eq.symm (tab4_get (by assumption))))))
    | (with_reducible refine hZ3 _ _ ?_; clear hZ3; (try clear Qz); (try dsimp only)) | (with_reducible refine hZ1 _ ?_; clear hZ1 hZ2; (try clear Qz Ez); (try dsimp only)) | (with_reducible refine hZ2 _ _ ?_; clear hZ1 hZ2; (try clear Qz Ez); (try dsimp only))
    | ((with_reducible show wpAny _ _ (eval _ _) _ _ _); first
          | (((first | (with_reducible show wpAny _ _ (eval (Expr.Call _ _ _ _) _) _ _ _) | (with_reducible show wpAny _ _ (eval (Expr.BinOp _ _ _ _) _) _ _ _) | (with_reducible show wpAny _ _ (eval (Expr.Tuple _ _ _) _) _ _ _) | (with_reducible show wpAny _ _ (eval (Expr.List _ _ _) _) _ _ _) | (with_reducible show wpAny _ _ (eval (Expr.Subscript _ _ _) _) _ _ _) | (with_reducible show wpAny _ _ (eval (Expr.Compare _ _ _ _) _) _ _ _)); with_reducible refine cutQ ?_; intro Qz hZ3))
          | ((with_reducible show wpAny _ _ (eval (Expr.ListComp _ _ _ _) _) _ _ _); ((fail_if_success (with_reducible show wpAny _ _ (eval (Expr.ListComp _ [⟨_, Expr.Call (Expr.Name (Str.ofString "range") _) _ _ _, _, _⟩] _ _) _) _ _ _)); (refine ListComp_B (by k_asm) (by with_unfolding_all rfl) (by decide) (by rfl) (by decide) (by rfl) ?_)))
          | ((with_reducible show wpAny _ _ (eval (Expr.Name _ _) _) _ _ _); (k_here; (with_reducible show wpAny _ _ (eval (Expr.Name _ _) (compEnvC _ _ _ _)) _ _ _); k_dflt (first | refine LCgL.ld_own (by k_asm) (by k_mem) (by assumption) (by assumption) ?_ | (refine' lcf_cell ?zzN ?zzc ?zzm ?zzd ?_ ?zza ?zzb; (case zza => rfl); (case zzb => rfl); (case zzN => k_asm); (case zzc => rfl); (case zzm => k_mem); (case zzd => k_asm); k_whole) | (refine' lcf_free ?zzN ?zzc ?zzm ?zzd ?_ ?zza ?zzb; (case zza => rfl); (case zzb => rfl); (case zzN => k_asm); (case zzc => rfl); (case zzm => k_mem); (case zzd => k_asm); k_whole) | refine LCgL.ld_global (by k_asm) (by k_asm) (by k_asm) (by k_is) ?_ | refine LCgL.ld_built (by k_asm) (by k_asm) (by k_asm) (by k_is) (by boot_by_name) (by decide) ?_)))
          | ((with_reducible show wpAny _ _ (eval (Expr.Name _ _) _) _ _ _); (k_here; (fail_if_success (with_reducible show wpAny _ _ (eval (Expr.Name _ _) (compEnvC _ _ _ _)) _ _ _)); k_dflt (first | (refine' nameX_L ?zzF ?zzhv ?_ ?zzhk ?zzhx ?zzhd; (case zzhx => exact rfl); (case zzhk => exact rfl); (case zzhd => decide); (case zzF => k_asm); (case zzhv => first | exact rfl | assumption); k_whole) | (refine' nameX_K ?zzF ?zzX ?zzT ?zze ?_ ?zzhk ?zzhx ?zzhd; (case zzhx => exact rfl); (case zzhk => exact rfl); (case zzhd => decide); (case zzF => k_asm); (case zzX => with_reducible assumption); (case zzT => exact topRead_of (by with_reducible assumption)); (case zze => k_is); k_whole) | (refine' nameX_B ?zzF ?zzX ?zzT ?zze ?zzv ?zzzn ?_ ?zzhk ?zzhx ?zzhd; (case zzhx => exact rfl); (case zzhk => exact rfl); (case zzhd => decide); (case zzF => k_asm); (case zzX => with_reducible assumption); (case zzT => exact topRead_of (by with_reducible assumption)); (case zze => k_is); (case zzv => boot_fast); (case zzzn => decide); k_whole) | (refine' nameX_F ?zzN ?zzc ?zzm ?zzd ?_ ?zzhk ?zzhx ?zzhb ?zzhn; (case zzhx => exact rfl); (case zzhk => exact rfl); (case zzhb => decide); (case zzhn => decide); (case zzN => k_asm); (case zzc => rfl); (case zzm => k_mem); (case zzd => k_asm); k_whole) | (refine' nameX_C ?zzN ?zzc ?zzm ?zzd ?_ ?zzhk ?zzhx ?zzhb; (case zzhx => exact rfl); (case zzhk => exact rfl); (case zzhb => decide); (case zzN => k_asm); (case zzc => rfl); (case zzm => k_mem); (case zzd => k_asm); k_whole)))))
    | ((with_reducible show wpAny _ _ (call _ _ _) _ _ _); first
          | ((with_reducible show wpAny _ _ (call (Value.type _) _ _) _ _ _); ((with_reducible show wpAny _ _ (call (Value.type "bytes") [Value.ref _]) _ _ _); (refine' bytes_row ?zzF ?zzN ?zzh ?zzm ?zzi ?_; (case zzF => k_asm); (case zzN => k_asm); (case zzh => exact rfl); (case zzm => k_mem); (case zzi => assumption)); intro b' t' h' k' hb' F' N'; (try k_sweep)))
          | ((with_reducible show wpAny _ _ (call (Value.ref _) _ _) _ _ _); ((with_reducible show wpAny _ _ (call (Value.ref 87) [Value.bytes _ _, Value.bytes _ _] _) _ _ _); (refine' Tell.row (round4 (by assumption) (by assumption)) ?zzk1 ?zzk2 ?zzk3 ?zzk4 ?zzk5 ?zzkK ?zzv2 ?zzv1 ?zzv4 ?zzv3 ?zzkM ?zzkd ?zzku ?_; (case zzkK => exact rfl); (case zzk1 => k_asm); (case zzk2 => k_asm); (case zzk3 => k_asm); (case zzk4 => k_asm); (case zzk5 => k_asm); (case zzv2 => assumption); (case zzv1 => assumption); (case zzv4 => assumption); (case zzv3 => assumption); (case zzkM => (repeat' first | assumption | exact sub_refl | refine' sub_tail ?_)); (case zzkd => k_room); (case zzku => ktr_units)); intro zb zt h' tk' F' N' zr; (try k_sweep))))
    | ((with_reducible show wpAny _ _ (binaryOp _ _ _) _ _ _); first
          | ((with_reducible show wpAny _ _ (binaryOp Operator.Mult _ _) _ _ _); ((refine mul17_l (by first | exact Row.at (by assumption) _ | decide) ?_)))
          | ((with_reducible show wpAny _ _ (binaryOp Operator.Mod _ _) _ _ _); k_dflt (first | (refine mod_closed (by decide) (by decide) ?_) | (refine mod_small (by omega) (by omega) ?_) | (refine mod_is (by decide) ?_))))
    | ((with_reducible show wpAny _ _ _ _ _ _); (fail_if_success (with_reducible show wpAny _ _ (eval _ _) _ _ _)); (fail_if_success (with_reducible show wpAny _ _ (execs _ _) _ _ _)); first
          | (((with_reducible show wpAny _ _ (compareOp CmpOp.NotEq (Value.bytes _ _) (Value.bytes _ _)) _ _ _); (refine' ne_bytes_no ?zzhb ?zzhc ?zze ?_; (case zzhb => first | exact Row.ints (by assumption) | assumption); (case zzhc => first | exact Row.ints (by assumption) | assumption); (case zze => first | exact s5 a b | exact s6 a b))))
          | ((with_reducible show wpAny _ _ (callWith _ (Value.ref _) _ _ _) _ _ _); (k_here; k_dflt (refine' callWith_K ?zzk1 ?zzk2 ?_; (case zzk1 => with_reducible assumption); (case zzk2 => k_is); k_whole))))
    | ((fail_if_success (with_reducible show wpAny _ _ _ _ _ _)); first
          | (((refine SrcB_row (ks := (wnd p13 (tab4 (fun k => (wnd p4 a).getD k 0 * (wnd p4 b).getD k 0 % 17)))) (by rfl) (by k_asm) (by k_asm) (by first | exact Row.ints (by assumption) | assumption) rfl ?_; intro g'; refine' comp_bytes (ks := (wnd p13 (tab4 (fun k => (wnd p4 a).getD k 0 * (wnd p4 b).getD k 0 % 17)))) (tab4 (fun k => 13 * (wnd p13 (tab4 (fun k => (wnd p4 a).getD k 0 * (wnd p4 b).getD k 0 % 17))).getD k 0 % 17)) rfl rfl (fun i9 t9 I9 oI9 C9 oC9 D9 ys9 m9 h9 k9 E9 hi9 hC9 hx9 F9 N9 => have b9 : 0 ≤ ((wnd p13 (tab4 (fun k => (wnd p4 a).getD k 0 * (wnd p4 b).getD k 0 % 17)))).getD i9 0 ∧ ((wnd p13 (tab4 (fun k => (wnd p4 a).getD k 0 * (wnd p4 b).getD k 0 % 17)))).getD i9 0 < 17 := low_mod i9; ?_) (fun ys9 hy9 => ?_)))))
    | walk1
    | (dsimp only; walk1))
  exact law7 B X T hd1 hv1 hd2 hv2 hx1 hx2 qd1 qd2 hx3 hx4 qd3 qd4 M (by assumption) (news_sub (by assumption) (by (repeat' first | assumption | exact sub_refl | refine' sub_tail ?_))) hQ
end Mine

namespace Mine

set_option maxRecDepth 100000 in
theorem law4 {w : World} {p : Program} {loose : List Str} {mean : ExcName → Option Value} {mg mb : Str → Option Value} {L fa c1 c2 : Addr} {cd : Value} {g h : Heap} {s : Shared} {tk : Nat} {m : Str → Option Value} {o1 o2 q1 q2 q3 q4 : Obj} {vs1 vs2 : Array Value} {t1 t2 v1 v2 v3 v4 : Tok} {x1 x2 x3 x4 : Array UInt8} {a b : List Int} {tau : List (Addr × Obj)} {Q : Flow → Shared → Prop} {E : Value → Shared → Prop}
    (B : Below callerA g [] g) (X : (hd.heap_39 w.params).In g) (T : Top p loose mean mg mb g) (hd1 : o1.data = .fields vs1) (hv1 : vs1[1]? = some (.str (Str.ofString "_int2digits.<locals>.inner") t1)) (hd2 : o2.data = .fields vs2) (hv2 : vs2[1]? = some (.str (Str.ofString "_digits2int.<locals>.inner") t2))
    (hx1 : Row x1 a) (hx2 : Row x2 b) (qd1 : q1.data = .cell (some (.bytes x1 v1))) (qd2 : q2.data = .cell (some (.bytes x2 v2)))
    (hx3 : Row x3 (wnd p4 a)) (hx4 : Row x4 (wnd p4 b)) (qd3 : q3.data = .cell (some (.bytes x3 v3))) (qd4 : q4.data = .cell (some (.bytes x4 v4)))
    (M : ∀ q ∈ tabs c1 c2 o1 o2, q ∈ tau) (F : Fr g L h m) (N : News g L h ((L + 1 + 1 + 1 + 1, q4) :: (L + 1 + 1 + 1, q3) :: (L + 1 + 1, q2) :: (L + 1, q1) :: tau))
    (hQ : ∀ h' tk' m', Fr g L h' m' → News g L h' tau → Q (.ret (.bool true)) { s with heap := h', toks := tk' }) :
    wpC (model PySem.Challenge.rw_hm0003_01.row.prog w) (callerA.deeper (envOfC (Str.ofString "law") lawScope L fa cd)) (execs (lawBody.drop 4) (envOfC (Str.ofString "law") lawScope L fa cd)) Q E { s with heap := h, toks := tk } := by
  have hs : lawScope = lawScope := rfl
  conv at hs => rhs; whnf
  have hb : lawBody.drop 4 = lawBody.drop 4 := rfl
  conv at hb => rhs; whnf
  rw [hs, hb]
  clear hs hb
  revert X; k_fill; intro X
  obtain ⟨a0, a1, a2, a3, rfl⟩ := hx1.four
  have hi1 : KBw.bInts x1 = [a0, a1, a2, a3] := hx1.ints
  have hi3 : KBw.bInts x3 = [(a0 + a1 + a2 + a3) % 17, (a0 + 4 * a1 + 16 * a2 + 13 * a3) % 17, (a0 + 16 * a1 + a2 + 16 * a3) % 17, (a0 + 13 * a1 + 16 * a2 + 4 * a3) % 17] := hx3.ints.trans (s4l _ _ _ _)
  refine execsC_cut ?_; intro Qz Ez hZ1 hZ2
  repeat' (first
    | (k_unfold; (try dsimp only))
    | ((with_reducible show EltEnd _ _ _ _ _ _ _ _); (first | (refine' elt_end ?zzF ?zzN ?zze; (case zzF => assumption); (case zzN => assumption); (case zze => first | with_reducible rfl | assumption | exact Eq.symm (tab4_get (by assumption)))) | (refine' eltEnd ?zzF ?zzN ?zzS ?zze; (case zzF => assumption); (case zzN => assumption); (case zzS => (repeat' first | assumption | exact sub_refl | refine' sub_tail ?_)); (case zze => first | with_reducible rfl | assumption | exact Eq.symm (tab4_get (by assumption))))))
    | (with_reducible refine hZ3 _ _ ?_; clear hZ3; (try clear Qz); (try dsimp only)) | (with_reducible refine hZ1 _ ?_; clear hZ1 hZ2; (try clear Qz Ez); (try dsimp only)) | (with_reducible refine hZ2 _ _ ?_; clear hZ1 hZ2; (try clear Qz Ez); (try dsimp only))
    | ((with_reducible show wpAny _ _ (eval _ _) _ _ _); first
          | (((first | (with_reducible show wpAny _ _ (eval (Expr.Call _ _ _ _) _) _ _ _) | (with_reducible show wpAny _ _ (eval (Expr.BinOp _ _ _ _) _) _ _ _) | (with_reducible show wpAny _ _ (eval (Expr.Tuple _ _ _) _) _ _ _) | (with_reducible show wpAny _ _ (eval (Expr.List _ _ _) _) _ _ _) | (with_reducible show wpAny _ _ (eval (Expr.Subscript _ _ _) _) _ _ _) | (with_reducible show wpAny _ _ (eval (Expr.Compare _ _ _ _) _) _ _ _)); with_reducible refine cutQ ?_; intro Qz hZ3))
          | ((with_reducible show wpAny _ _ (eval (Expr.Name _ _) _) _ _ _); (k_here; (fail_if_success (with_reducible show wpAny _ _ (eval (Expr.Name _ _) (compEnvC _ _ _ _)) _ _ _)); k_dflt (first | (refine' nameX_L ?zzF ?zzhv ?_ ?zzhk ?zzhx ?zzhd; (case zzhx => exact rfl); (case zzhk => exact rfl); (case zzhd => decide); (case zzF => k_asm); (case zzhv => first | exact rfl | assumption); k_whole) | (refine' nameX_K ?zzF ?zzX ?zzT ?zze ?_ ?zzhk ?zzhx ?zzhd; (case zzhx => exact rfl); (case zzhk => exact rfl); (case zzhd => decide); (case zzF => k_asm); (case zzX => with_reducible assumption); (case zzT => exact topRead_of (by with_reducible assumption)); (case zze => k_is); k_whole) | (refine' nameX_B ?zzF ?zzX ?zzT ?zze ?zzv ?zzzn ?_ ?zzhk ?zzhx ?zzhd; (case zzhx => exact rfl); (case zzhk => exact rfl); (case zzhd => decide); (case zzF => k_asm); (case zzX => with_reducible assumption); (case zzT => exact topRead_of (by with_reducible assumption)); (case zze => k_is); (case zzv => boot_fast); (case zzzn => decide); k_whole) | (refine' nameX_F ?zzN ?zzc ?zzm ?zzd ?_ ?zzhk ?zzhx ?zzhb ?zzhn; (case zzhx => exact rfl); (case zzhk => exact rfl); (case zzhb => decide); (case zzhn => decide); (case zzN => k_asm); (case zzc => rfl); (case zzm => k_mem); (case zzd => k_asm); k_whole) | (refine' nameX_C ?zzN ?zzc ?zzm ?zzd ?_ ?zzhk ?zzhx ?zzhb; (case zzhx => exact rfl); (case zzhk => exact rfl); (case zzhb => decide); (case zzN => k_asm); (case zzc => rfl); (case zzm => k_mem); (case zzd => k_asm); k_whole)))))
    | ((with_reducible show wpAny _ _ (call _ _ _) _ _ _); first
          | ((with_reducible show wpAny _ _ (call (Value.type _) _ _) _ _ _); (k_here; (with_reducible show wpAny _ _ (call (Value.type "list") [Value.bytes _ _]) _ _ _); k_dflt (first | (refine' list_bytes1 ?zzhF ?zzhN ?zzhh ?zzhb ?_; (case zzhF => k_asm); (case zzhN => k_asm); (case zzhh => exact rfl); (case zzhb => assumption); (intro zD h' k' zu0 zc zsz zL zext F' N' l1)) | (refine' list_bytes4 ?zzhF ?zzhN ?zzhh ?zzhb ?_; (case zzhF => k_asm); (case zzhN => k_asm); (case zzhh => exact rfl); (case zzhb => assumption); (intro zD h' k' zu0 zu1 zu2 zu3 zc zsz zL zext F' N' l1))); (replace l1 := allLt_of l1; (try dsimp only [AllLt] at l1)); (try dsimp only)))
          | ((with_reducible show wpAny _ _ (call (Value.ref _) _ _) _ _ _); ((with_reducible show wpAny _ _ (call (Value.ref 82) [Value.bytes _ _, Value.int 4 _] _) _ _ _); (refine' Tell.list (halv4 hi1 (hx1.at 0) (hx1.at 1) (hx1.at 2) (hx1.at 3)) ?zzk1 ?zzk2 ?zzk3 ?zzk4 ?zzk5 ?zzkK ?zzv2 ?zzv1 ?zzv4 ?zzv3 ?zzkM ?zzkd ?zzku ?_; (case zzkK => exact rfl); (case zzk1 => k_asm); (case zzk2 => k_asm); (case zzk3 => k_asm); (case zzk4 => k_asm); (case zzk5 => k_asm); (case zzv2 => assumption); (case zzv1 => assumption); (case zzv4 => assumption); (case zzv3 => assumption); (case zzkM => (repeat' first | assumption | exact sub_refl | refine' sub_tail ?_)); (case zzkd => k_room); (case zzku => ktr_units)); intro zD zys zc h' tk' zi F' N' l1 zL; (replace l1 := allLt_of l1; (try dsimp only [AllLt] at l1)); (try dsimp only); (try k_sweep))))
    | ((with_reducible show wpAny _ _ (binaryOp _ _ _) _ _ _); first
          | ((with_reducible show wpAny _ _ (binaryOp Operator.Mod _ _) _ _ _); k_dflt (first | (refine mod_closed (by decide) (by decide) ?_) | (refine mod_small (by omega) (by omega) ?_) | (refine mod_is (by decide) ?_))))
    | ((with_reducible show wpAny _ _ _ _ _ _); (fail_if_success (with_reducible show wpAny _ _ (eval _ _) _ _ _)); (fail_if_success (with_reducible show wpAny _ _ (execs _ _) _ _ _)); first
          | ((with_reducible show wpAny _ _ (subscriptTail _ _ _ _) _ _ _); ((k_here; (with_reducible show wpAny _ _ (subscriptTail _ _ (Value.bytes _ _) (Value.int _ _)) _ _ _); k_dflt (first | (refine' at_bytes_i i9 ?zzhi ?zzhb ?zzhz ?zzhk ?_ ?zzhs ?zzht; (case zzhi => omega); (case zzhb => exact Row.ints (by assumption)); (case zzhz => exact Row.len (by assumption)); (case zzhk => assumption)) | (refine' at_bytes_i 0 ?zzhi ?zzhb ?zzhz ?zzhk ?_ ?zzhs ?zzht; (case zzhi => exact rfl); (case zzhb => exact Row.ints (by assumption)); (case zzhz => exact Row.len (by assumption)); (case zzhk => decide)) | (refine' at_bytes_i 1 ?zzhi ?zzhb ?zzhz ?zzhk ?_ ?zzhs ?zzht; (case zzhi => exact rfl); (case zzhb => exact Row.ints (by assumption)); (case zzhz => exact Row.len (by assumption)); (case zzhk => decide)) | (refine' at_bytes_i 2 ?zzhi ?zzhb ?zzhz ?zzhk ?_ ?zzhs ?zzht; (case zzhi => exact rfl); (case zzhb => exact Row.ints (by assumption)); (case zzhz => exact Row.len (by assumption)); (case zzhk => decide)) | (refine' at_bytes_i 3 ?zzhi ?zzhb ?zzhz ?zzhk ?_ ?zzhs ?zzht; (case zzhi => exact rfl); (case zzhb => exact Row.ints (by assumption)); (case zzhz => exact Row.len (by assumption)); (case zzhk => decide))); (case zzhs => with_unfolding_all rfl); (case zzht => (intro _; with_unfolding_all rfl)); intro _ _)))
          | (((with_reducible show wpAny _ _ (compareOp CmpOp.NotEq (Value.int _ _) (Value.int _ _)) _ _ _); (refine' ne_int_no (s4 _ _ _ _) ?_)))
          | (((with_reducible show wpAny _ _ (compareOp CmpOp.NotEq (Value.ref _) (Value.ref _)) _ _ _); (refine' ne_list_no ?zzhN ?zzhm ?zzhi ?zzhn ?zzhj ?zzhu rfl ?_; (case zzhN => k_asm); (case zzhm => k_mem); (case zzhn => k_mem); (case zzhi => (repeat constructor)); (case zzhj => assumption); (case zzhu => ktr_units))))
          | ((with_reducible show wpAny _ _ (callWith _ (Value.ref _) _ _ _) _ _ _); (k_here; k_dflt (refine' callWith_K ?zzk1 ?zzk2 ?_; (case zzk1 => with_reducible assumption); (case zzk2 => k_is); k_whole))))
    | walk1
    | (dsimp only; walk1))
  exact law5 B X T hd1 hv1 hd2 hv2 hx1 hx2 qd1 qd2 hx3 hx4 qd3 qd4 M (by assumption) (news_sub (by assumption) (by (repeat' first | assumption | exact sub_refl | refine' sub_tail ?_))) hQ
end Mine

namespace Mine

set_option maxRecDepth 100000 in
theorem law3 {w : World} {p : Program} {loose : List Str} {mean : ExcName → Option Value} {mg mb : Str → Option Value} {L fa c1 c2 : Addr} {cd : Value} {g h : Heap} {s : Shared} {tk : Nat} {m : Str → Option Value} {o1 o2 q1 q2 q3 q4 : Obj} {vs1 vs2 : Array Value} {t1 t2 v1 v2 : Tok} {x1 x2 : Array UInt8} {a b : List Int} {tau : List (Addr × Obj)} {Q : Flow → Shared → Prop} {E : Value → Shared → Prop}
    (B : Below callerA g [] g) (X : (hd.heap_39 w.params).In g) (T : Top p loose mean mg mb g) (hd1 : o1.data = .fields vs1) (hv1 : vs1[1]? = some (.str (Str.ofString "_int2digits.<locals>.inner") t1)) (hd2 : o2.data = .fields vs2) (hv2 : vs2[1]? = some (.str (Str.ofString "_digits2int.<locals>.inner") t2))
    (hx1 : Row x1 a) (hx2 : Row x2 b) (qd1 : q1.data = .cell (some (.bytes x1 v1))) (qd2 : q2.data = .cell (some (.bytes x2 v2)))
    (qd3 : q3.data = .cell none) (qd4 : q4.data = .cell none) (off3 : ∀ p ∈ tau, p.1 ≠ L + 1 + 1 + 1) (off4 : ∀ p ∈ tau, p.1 ≠ L + 1 + 1 + 1 + 1)
    (M : ∀ q ∈ tabs c1 c2 o1 o2, q ∈ tau) (F : Fr g L h m) (N : News g L h ((L + 1 + 1 + 1 + 1, q4) :: (L + 1 + 1 + 1, q3) :: (L + 1 + 1, q2) :: (L + 1, q1) :: tau))
    (hQ : ∀ h' tk' m', Fr g L h' m' → News g L h' tau → Q (.ret (.bool true)) { s with heap := h', toks := tk' }) :
    wpC (model PySem.Challenge.rw_hm0003_01.row.prog w) (callerA.deeper (envOfC (Str.ofString "law") lawScope L fa cd)) (execs (lawBody.drop 3) (envOfC (Str.ofString "law") lawScope L fa cd)) Q E { s with heap := h, toks := tk } := by
  have hs : lawScope = lawScope := rfl
  conv at hs => rhs; whnf
  have hb : lawBody.drop 3 = lawBody.drop 3 := rfl
  conv at hb => rhs; whnf
  rw [hs, hb]
  clear hs hb
  revert X; k_fill; intro X
  refine execsC_cut ?_; intro Qz Ez hZ1 hZ2
  repeat' (first
    | (k_unfold; (try dsimp only))
    | ((with_reducible show EltEnd _ _ _ _ _ _ _ _); (first | (refine' elt_end ?zzF ?zzN ?zze; (case zzF => assumption); (case zzN => assumption); (case zze => first | with_reducible rfl | assumption | exact Eq.symm (tab4_get (by assumption)))) | (refine' eltEnd ?zzF ?zzN ?zzS ?zze; (case zzF => assumption); (case zzN => assumption); (case zzS => (repeat' first | assumption | exact sub_refl | refine' sub_tail ?_)); (case zze => first | with_reducible rfl | assumption | exact Eq.symm (tab4_get (by assumption))))))
    | (with_reducible refine hZ3 _ _ ?_; clear hZ3; (try clear Qz); (try dsimp only)) | (with_reducible refine hZ1 _ ?_; clear hZ1 hZ2; (try clear Qz Ez); (try dsimp only)) | (with_reducible refine hZ2 _ _ ?_; clear hZ1 hZ2; (try clear Qz Ez); (try dsimp only))
    | ((with_reducible show wpAny _ _ (eval _ _) _ _ _); first
          | (((first | (with_reducible show wpAny _ _ (eval (Expr.Call _ _ _ _) _) _ _ _) | (with_reducible show wpAny _ _ (eval (Expr.BinOp _ _ _ _) _) _ _ _) | (with_reducible show wpAny _ _ (eval (Expr.Tuple _ _ _) _) _ _ _) | (with_reducible show wpAny _ _ (eval (Expr.List _ _ _) _) _ _ _) | (with_reducible show wpAny _ _ (eval (Expr.Subscript _ _ _) _) _ _ _) | (with_reducible show wpAny _ _ (eval (Expr.Compare _ _ _ _) _) _ _ _)); with_reducible refine cutQ ?_; intro Qz hZ3))
          | ((with_reducible show wpAny _ _ (eval (Expr.Name _ _) _) _ _ _); (k_here; (fail_if_success (with_reducible show wpAny _ _ (eval (Expr.Name _ _) (compEnvC _ _ _ _)) _ _ _)); k_dflt (first | (refine' nameX_L ?zzF ?zzhv ?_ ?zzhk ?zzhx ?zzhd; (case zzhx => exact rfl); (case zzhk => exact rfl); (case zzhd => decide); (case zzF => k_asm); (case zzhv => first | exact rfl | assumption); k_whole) | (refine' nameX_K ?zzF ?zzX ?zzT ?zze ?_ ?zzhk ?zzhx ?zzhd; (case zzhx => exact rfl); (case zzhk => exact rfl); (case zzhd => decide); (case zzF => k_asm); (case zzX => with_reducible assumption); (case zzT => exact topRead_of (by with_reducible assumption)); (case zze => k_is); k_whole) | (refine' nameX_B ?zzF ?zzX ?zzT ?zze ?zzv ?zzzn ?_ ?zzhk ?zzhx ?zzhd; (case zzhx => exact rfl); (case zzhk => exact rfl); (case zzhd => decide); (case zzF => k_asm); (case zzX => with_reducible assumption); (case zzT => exact topRead_of (by with_reducible assumption)); (case zze => k_is); (case zzv => boot_fast); (case zzzn => decide); k_whole) | (refine' nameX_F ?zzN ?zzc ?zzm ?zzd ?_ ?zzhk ?zzhx ?zzhb ?zzhn; (case zzhx => exact rfl); (case zzhk => exact rfl); (case zzhb => decide); (case zzhn => decide); (case zzN => k_asm); (case zzc => rfl); (case zzm => k_mem); (case zzd => k_asm); k_whole) | (refine' nameX_C ?zzN ?zzc ?zzm ?zzd ?_ ?zzhk ?zzhx ?zzhb; (case zzhx => exact rfl); (case zzhk => exact rfl); (case zzhb => decide); (case zzN => k_asm); (case zzc => rfl); (case zzm => k_mem); (case zzd => k_asm); k_whole)))))
    | ((with_reducible show wpAny _ _ (call _ _ _) _ _ _); first
          | ((with_reducible show wpAny _ _ (call (Value.ref _) _ _) _ _ _); ((with_reducible show wpAny _ _ (call (Value.ref 75) [Value.bytes _ _, Value.int 4 _] _) _ _ _); (refine' Tell.row (wnd4 (by first | assumption | exact ⟨by assumption, rfl, by assumption⟩)) ?zzk1 ?zzk2 ?zzk3 ?zzk4 ?zzk5 ?zzkK ?zzv2 ?zzv1 ?zzv4 ?zzv3 ?zzkM ?zzkd ?zzku ?_; (case zzkK => exact rfl); (case zzk1 => k_asm); (case zzk2 => k_asm); (case zzk3 => k_asm); (case zzk4 => k_asm); (case zzk5 => k_asm); (case zzv2 => assumption); (case zzv1 => assumption); (case zzv4 => assumption); (case zzv3 => assumption); (case zzkM => (repeat' first | assumption | exact sub_refl | refine' sub_tail ?_)); (case zzkd => k_room); (case zzku => ktr_units)); intro zb zt h' tk' F' N' zr; (try k_sweep))))
    | ((with_reducible show wpAny _ _ _ _ _ _); (fail_if_success (with_reducible show wpAny _ _ (eval _ _) _ _ _)); (fail_if_success (with_reducible show wpAny _ _ (execs _ _) _ _ _)); first
          | ((with_reducible show wpAny _ _ (callWith _ (Value.ref _) _ _ _) _ _ _); (k_here; k_dflt (refine' callWith_K ?zzk1 ?zzk2 ?_; (case zzk1 => with_reducible assumption); (case zzk2 => k_is); k_whole)))
          | ((with_reducible show wpAny _ _ (newTuple _) _ _ _); (k_here; k_dflt (refine' newTuple_is ?zzF ?zzN ?_ ?zzz; (case zzF => k_asm); (case zzN => k_asm); (case zzz => exact Nat.le_of_ble_eq_true rfl)); intro D' h' F' N' l1 l2; (try (replace l1 := allLt_of l1; (try dsimp only [AllLt] at l1))); (try k_lt2 l2); (try k_sweep))))
    | walk1
    | (dsimp only; walk1))
  refine' law4 B X T hd1 hv1 hd2 hv2 hx1 hx2 qd1 qd2 ?zzx3 ?zzx4 ?zzq3 ?zzq4 M ?zzF (news_sub ?zzN ?zzS) hQ
  case zzF => assumption
  case zzN => assumption
  case zzS => (repeat' first | assumption | exact sub_refl | refine' sub_tail ?_)
  case zzq3 => assumption
  case zzq4 => assumption
  case zzx3 => assumption
  case zzx4 => assumption
end Mine

namespace Mine

set_option maxRecDepth 100000 in
theorem law2 {w : World} {p : Program} {loose : List Str} {mean : ExcName → Option Value} {mg mb : Str → Option Value} {L fa : Addr} {cd : Value} {g h : Heap} {s : Shared} {tk : Nat} {m : Str → Option Value} {q1 q2 q3 q4 : Obj} {v1 v2 : Tok} {x1 x2 : Array UInt8} {a b : List Int} {Q : Flow → Shared → Prop} {E : Value → Shared → Prop}
    (B : Below callerA g [] g) (X : (hd.heap_39 w.params).In g) (T : Top p loose mean mg mb g)
    (hx1 : Row x1 a) (hx2 : Row x2 b) (qd1 : q1.data = .cell (some (.bytes x1 v1))) (qd2 : q2.data = .cell (some (.bytes x2 v2)))
    (qd3 : q3.data = .cell none) (qd4 : q4.data = .cell none) (k44 : LT.lt (α := Nat) 44 L) (k37 : LT.lt (α := Nat) 37 L) (C1 : CodeHd g 41 37) (C2 : CodeHd g 48 44) (F : Fr g L h m)
    (N : News g L h [(L + 1 + 1 + 1 + 1, q4), (L + 1 + 1 + 1, q3), (L + 1 + 1, q2), (L + 1, q1), (44, tabObj #[]), (37, tabObj #[])])
    (hQ : ∀ c1 c2 o1 o2 h' tk' m', Fr g L h' m' → News g L h' (tabs c1 c2 o1 o2) → Q (.ret (.bool true)) { s with heap := h', toks := tk' }) :
    wpC (model PySem.Challenge.rw_hm0003_01.row.prog w) (callerA.deeper (envOfC (Str.ofString "law") lawScope L fa cd)) (execs (lawBody.drop 2) (envOfC (Str.ofString "law") lawScope L fa cd)) Q E { s with heap := h, toks := tk } := by
  have hs : lawScope = lawScope := rfl
  conv at hs => rhs; whnf
  have hb : lawBody.drop 2 = lawBody.drop 2 := rfl
  conv at hb => rhs; whnf
  rw [hs, hb]
  clear hs hb
  revert X; k_fill; intro X
  obtain ⟨nb, hnb, hnb1, hD⟩ := bits_1 (n := 4) (by decide) (by decide)
  refine execsC_cut ?_; intro Qz Ez hZ1 hZ2
  repeat' (first
    | (k_unfold; (try dsimp only))
    | ((with_reducible show EltEnd _ _ _ _ _ _ _ _); (first | (refine' elt_end ?zzF ?zzN ?zze; (case zzF => assumption); (case zzN => assumption); (case zze => first | with_reducible rfl | assumption | exact Eq.symm (tab4_get (by assumption)))) | (refine' eltEnd ?zzF ?zzN ?zzS ?zze; (case zzF => assumption); (case zzN => assumption); (case zzS => (repeat' first | assumption | exact sub_refl | refine' sub_tail ?_)); (case zze => first | with_reducible rfl | assumption | exact Eq.symm (tab4_get (by assumption))))))
    | (with_reducible refine hZ3 _ _ ?_; clear hZ3; (try clear Qz); (try dsimp only)) | (with_reducible refine hZ1 _ ?_; clear hZ1 hZ2; (try clear Qz Ez); (try dsimp only)) | (with_reducible refine hZ2 _ _ ?_; clear hZ1 hZ2; (try clear Qz Ez); (try dsimp only))
    | ((with_reducible show wpAny _ _ (eval _ _) _ _ _); first
          | (((first | (with_reducible show wpAny _ _ (eval (Expr.Call _ _ _ _) _) _ _ _) | (with_reducible show wpAny _ _ (eval (Expr.BinOp _ _ _ _) _) _ _ _) | (with_reducible show wpAny _ _ (eval (Expr.Tuple _ _ _) _) _ _ _) | (with_reducible show wpAny _ _ (eval (Expr.List _ _ _) _) _ _ _) | (with_reducible show wpAny _ _ (eval (Expr.Subscript _ _ _) _) _ _ _) | (with_reducible show wpAny _ _ (eval (Expr.Compare _ _ _ _) _) _ _ _)); with_reducible refine cutQ ?_; intro Qz hZ3))
          | ((with_reducible show wpAny _ _ (eval (Expr.Name _ _) _) _ _ _); (k_here; (with_reducible show wpAny _ _ (eval (Expr.Name _ _) (compEnvC _ _ _ _)) _ _ _); k_dflt (first | refine LCgL.ld_own (by k_asm) (by k_mem) (by assumption) (by assumption) ?_ | (refine' lcf_cell ?zzN ?zzc ?zzm ?zzd ?_ ?zza ?zzb; (case zza => rfl); (case zzb => rfl); (case zzN => k_asm); (case zzc => rfl); (case zzm => k_mem); (case zzd => k_asm); k_whole) | (refine' lcf_free ?zzN ?zzc ?zzm ?zzd ?_ ?zza ?zzb; (case zza => rfl); (case zzb => rfl); (case zzN => k_asm); (case zzc => rfl); (case zzm => k_mem); (case zzd => k_asm); k_whole) | refine LCgL.ld_global (by k_asm) (by k_asm) (by k_asm) (by k_is) ?_ | refine LCgL.ld_built (by k_asm) (by k_asm) (by k_asm) (by k_is) (by boot_by_name) (by decide) ?_)))
          | ((with_reducible show wpAny _ _ (eval (Expr.ListComp _ _ _ _) _) _ _ _); (k_here; k_dflt (refine LCg.ListComp_U (F₀ := by k_asm) (by with_unfolding_all rfl) (by decide) (by rfl) (by decide) (by rfl) ?_)))
          | ((with_reducible show wpAny _ _ (eval (Expr.Name _ _) _) _ _ _); (k_here; (fail_if_success (with_reducible show wpAny _ _ (eval (Expr.Name _ _) (compEnvC _ _ _ _)) _ _ _)); k_dflt (first | (refine' nameX_L ?zzF ?zzhv ?_ ?zzhk ?zzhx ?zzhd; (case zzhx => exact rfl); (case zzhk => exact rfl); (case zzhd => decide); (case zzF => k_asm); (case zzhv => first | exact rfl | assumption); k_whole) | (refine' nameX_K ?zzF ?zzX ?zzT ?zze ?_ ?zzhk ?zzhx ?zzhd; (case zzhx => exact rfl); (case zzhk => exact rfl); (case zzhd => decide); (case zzF => k_asm); (case zzX => with_reducible assumption); (case zzT => exact topRead_of (by with_reducible assumption)); (case zze => k_is); k_whole) | (refine' nameX_B ?zzF ?zzX ?zzT ?zze ?zzv ?zzzn ?_ ?zzhk ?zzhx ?zzhd; (case zzhx => exact rfl); (case zzhk => exact rfl); (case zzhd => decide); (case zzF => k_asm); (case zzX => with_reducible assumption); (case zzT => exact topRead_of (by with_reducible assumption)); (case zze => k_is); (case zzv => boot_fast); (case zzzn => decide); k_whole) | (refine' nameX_F ?zzN ?zzc ?zzm ?zzd ?_ ?zzhk ?zzhx ?zzhb ?zzhn; (case zzhx => exact rfl); (case zzhk => exact rfl); (case zzhb => decide); (case zzhn => decide); (case zzN => k_asm); (case zzc => rfl); (case zzm => k_mem); (case zzd => k_asm); k_whole) | (refine' nameX_C ?zzN ?zzc ?zzm ?zzd ?_ ?zzhk ?zzhx ?zzhb; (case zzhx => exact rfl); (case zzhk => exact rfl); (case zzhb => decide); (case zzN => k_asm); (case zzc => rfl); (case zzm => k_mem); (case zzd => k_asm); k_whole)))))
    | ((with_reducible show wpAny _ _ (call _ _ _) _ _ _); first
          | ((with_reducible show wpAny _ _ (call (Value.ref _) _ _) _ _ _); ((with_reducible show wpAny _ _ (call (Value.ref 70) [Value.int _ _] _) _ _ _); (refine' Tell.int (rest ?zzkn0 ?zzkn1) ?zzk1 ?zzk2 ?zzk3 ?zzk4 ?zzk5 ?zzkK ?zzv2 ?zzv1 ?zzv4 ?zzv3 ?zzkM ?zzkd ?zzku ?_; (case zzkK => exact rfl); (case zzk1 => k_asm); (case zzk2 => k_asm); (case zzk3 => k_asm); (case zzk4 => k_asm); (case zzk5 => k_asm); (case zzv2 => assumption); (case zzv1 => assumption); (case zzv4 => assumption); (case zzv3 => assumption); (case zzkM => (repeat' first | assumption | exact sub_refl | refine' sub_tail ?_)); (case zzkd => k_room); (case zzku => ktr_units); (case zzkn0 => exact b9.1); (case zzkn1 => exact b9.2)); intro zt h' tk' F' N'; (try k_sweep)))
          | ((with_reducible show wpAny _ _ (call (Value.ref _) _ _) _ _ _); ((with_reducible show wpAny _ _ (call (Value.ref 70) [Value.int 4 _]) _ _ _); (refine' rest0_use 7 ?zzk1 ?zzk2 ?zzk3 ?zzk4 ?zzhd ?zzhne ?zzc1 ?zzc2 ?zzk5 ?zzkK ?zzkd ?zzku ?_; (case zzkK => exact rfl); (case zzk1 => k_asm); (case zzk2 => k_asm); (case zzk3 => k_asm); (case zzk4 => k_asm); (case zzhd => exact rfl); (case zzhne => (refine .inr ?_; simp only [List.take_succ_cons, List.take_zero, List.forall_mem_cons, List.not_mem_nil, false_implies, implies_true, and_true]; (repeat' (first | k_ne | omega | refine And.intro ?_ ?_)))); (case zzc1 => assumption); (case zzc2 => assumption); (case zzk5 => k_asm); (case zzkd => k_room); (case zzku => ktr_units)); intro c1 c2 o1 o2 vs1 vs2 t1 t2 zu h' tk' hd1 hv1 hd2 hv2 l1 l2 F' N'; (have lc1 : LT.lt (α := Nat) (L + 1 + 1 + 1 + 1) c1 := l1 (L + 1 + 1 + 1 + 1, _) (by k_mem)); (have lc2 : LT.lt (α := Nat) (L + 1 + 1 + 1 + 1) c2 := l2 (L + 1 + 1 + 1 + 1, _) (by k_mem)); (simp only [List.take_succ_cons, List.take_zero, List.cons_append, List.nil_append] at N'); (replace l1 := allLt_of l1; (try dsimp only [AllLt] at l1)); (replace l2 := allLt_of l2; (try dsimp only [AllLt] at l2)); (have q1 := off'.1.1); (have q2 := off'.1.2.1); (have q3 := off'.1.2.2); (have q4 := off'.2.1.1); (have q5 := off'.2.1.2.1); (have q6 := off'.2.1.2.2); (have q7 := off'.2.2.1.1); (have q8 := off'.2.2.1.2.1); (have q9 := off'.2.2.1.2.2); (have q10 := off'.2.2.2.1.1); (have q11 := off'.2.2.2.1.2.1); (have q12 := off'.2.2.2.1.2.2); (have q13 := off'.2.2.2.2.1.1); (have q14 := off'.2.2.2.2.1.2.1); (have q15 := off'.2.2.2.2.1.2.2); (have q16 := off'.2.2.2.2.2.1); (have q17 := off'.2.2.2.2.2.2.1); (have q18 := off'.2.2.2.2.2.2.2); (try dsimp only))))
    | ((with_reducible show wpAny _ _ (binaryOp _ _ _) _ _ _); first
          | ((with_reducible show wpAny _ _ (binaryOp Operator.Pow _ _) _ _ _); (k_dflt (first | (refine' pow_k (j := 1 + i9) ?zzzb ?zzzj ?zzza ?_; (case zzzb => omega); (case zzzj => omega); (case zzza => decide)) | (refine' pow_is 1 ?zzzb ?zzzj ?zzza ?zzze ?_; (case zzzb => first | exact rfl | omega); (case zzzj => decide); (case zzza => decide); (case zzze => (simp only [Int.reducePow]; exact rfl)))))))
    | ((with_reducible show wpAny _ _ _ _ _ _); (fail_if_success (with_reducible show wpAny _ _ (eval _ _) _ _ _)); (fail_if_success (with_reducible show wpAny _ _ (execs _ _) _ _ _)); first
          | (((with_reducible show wpAny _ _ (compareOp CmpOp.NotEq (Value.ref _) (Value.ref _)) _ _ _); (refine' ne_list_no ?zzhN ?zzhm ?zzhi ?zzhn ?zzhj ?zzhu rfl ?_; (case zzhN => k_asm); (case zzhm => k_mem); (case zzhn => k_mem); (case zzhi => assumption); (case zzhj => (repeat constructor)); (case zzhu => ktr_units))))
          | ((with_reducible show wpAny _ _ (callWith _ (Value.ref _) _ _ _) _ _ _); (k_here; k_dflt (refine' callWith_K ?zzk1 ?zzk2 ?_; (case zzk1 => with_reducible assumption); (case zzk2 => k_is); k_whole)))
          | ((with_reducible show wpAny _ _ (newList _) _ _ _); (k_here; k_dflt (refine' newList_is ?zzF ?zzN ?_ ?zzz; (case zzF => k_asm); (case zzN => k_asm); (case zzz => exact Nat.le_of_ble_eq_true rfl)); intro D' h' F' N' l1 l2; (try (replace l1 := allLt_of l1; (try dsimp only [AllLt] at l1))); (try k_lt2 l2); (try k_sweep))))
    | ((fail_if_success (with_reducible show wpAny _ _ _ _ _ _)); first
          | (((refine' comp_range_from 4 (tab4 fun k => 4 ^ (1 + k) % 17) rfl rfl (by repeat constructor) (fun i9 t9 I9 oI9 C9 oC9 D9 ys9 m9 h9 k9 E9 hi9 hC9 hx9 F9 N9 => have b9 := four_pow hi9; ?_) (fun ys9 hy9 => ?_))))
          | ((with_reducible show LCg.CompSrc _ _ _ _ _ _ _ _ _ _ _ _ _ _); ((refine LCg.CompSrc.range (n := 4) (by rfl) (by k_asm) (by k_asm) (by assumption) (by first | decide | rfl) (by first | rfl | decide) (by exact Nat.le_of_ble_eq_true rfl) ?_; intro g'; refine LCg.CompRest.succ ?_; intro v' I' oI' C' oC' D' m' h' tk' E' hv' hC' hx' F' N' off' ne'; obtain ⟨t9', hv9'⟩ := hv'; subst hv9'; (try simp only [LCg.Off3, and_true] at off')))))
    | walk1
    | (dsimp only; walk1))
  refine' law3 B X T hd1 hv1 hd2 hv2 hx1 hx2 qd1 qd2 qd3 qd4 ?zzo3 ?zzo4 sub_refl ?zzF (news_sub ?zzN ?zzS) fun h' tk' m' F2 N2 => hQ _ _ _ _ h' tk' m' F2 N2
  case zzF => assumption
  case zzN => assumption
  case zzS => (repeat' first | assumption | exact sub_refl | refine' sub_tail ?_)
  case zzo3 => exact tabs_ne (ne_a3 k44) (ne_a3 k37) (ne_c3 lc2) (ne_c3 lc1)
  case zzo4 => exact tabs_ne (ne_a4 k44) (ne_a4 k37) (ne_c4 lc2) (ne_c4 lc1)
end Mine

namespace Mine
theorem slice_at {prog : Program} {w : World} {A : Around} {E : Value → Shared → Prop} {h₀ h : Heap} {L l : Addr} {m : Str → Option Value} {news : List (Addr × Obj)} {value slice : PySem.Expr} {vs : List Value} {ns : List Int} {t : Tok} {Q : Value → Shared → Prop} {s : Shared} {tk : Tok} (F : Fr h₀ L h m) (N : News h₀ L h news) (hl : h.IsList l vs.toArray) (hi' : IntsAre vs ns)
    (hQ : ∀ D ws h', Fr h₀ L h' m → News h₀ L h' ((D, W.listOf (List.toArray ws) 0) :: news) → (∀ p ∈ news, p.1 < D) → IntsAre ws (ns.take 8) → Q (.ref D) { s with heap := h', toks := tk })
    (hs : subscripted slice false (.ref l) (.ref h.objs.size) = operate [.ref h.objs.size, .ref l] (getItem (.ref l) (.ref h.objs.size))) (ht : ∀ r, letTemporaryGo value (.ref l) r = pure ()) (hz : vs.toArray.size ≤ sizeLine) :
    wpAny (model prog w) A (subscriptTail value slice (.ref l) (.ref h.objs.size)) Q E { s with heap := h.push { cls := .type "slice", data := .fields #[.none, .int 8 t, .none] }, toks := tk } :=
  kmk_slice_ints (s := { s with heap := h, toks := tk }) F N hl IsPart.none (IsPart.int _ _) hi' (kmk_upto hi' (by decide)) rfl (fun D ws h' F' N' l1 hI _ _ => hQ D ws h' F' N' l1 hI) hs ht hz
set_option maxRecDepth 100000 in
theorem law0 : PySem.Challenge.rw_hm0003_01.Holds := by
  refine hd ?_
  k_fill
  intro w s₀ s₁ mg mb G Y fa o pm cd doc dV kV ho hd hcd hD hmg hg args vals as hpre hlay hrd hwl hlo
  have KX := km_in_of Y
  km_tabs Y
  have X := (Ground.X G).1
  have V := (Ground.X G).2
  refine Ground.open G ?_
  intro T B D TE TW
  try (refine guard_noD D (by decide +kernel) ?_; clear D)
  km_lay T hmg ho hd cd
  clear hmg
  wrow_args hpre hlay hrd hwl hlo
  w_top on
  refine wpAny_watch ?_ (enterC_call hT9 (fun _ _ => rfl) ?_)
  · refine GoodW.toG ⟨.inl ⟨_, .bool true, [], rfl, raisesW_false (by wrow_none_raised), ReadsW.bool _, ?_, ?_⟩, fun _ _ e => e, rfl, hg⟩
    · first | rfl | wrow_post
    · exact fun _ => ⟨List.nodup_nil, fun _ h => by cases h⟩
  have he := Dflts.none hD rfl
  subst he
  have he := Dflts.noKw hD
  subst he
  refine call_cellsC (by decide) ho (fd_plain hd) (Top.nolimit T) hcd rfl (kinds_of (by kinds_ok)) (by decide) fun h₁ tk₁ cells F N0 X0 => ?_
  cells_open X0
  clear hd
  kn_ghosts F T
  k_drop
  refine execsC_cut ?_; intro Qz Ez hZ1 hZ2
  repeat' (first
    | (k_unfold; (try dsimp only))
    | ((with_reducible show EltEnd _ _ _ _ _ _ _ _); (first | (refine' elt_end ?zzF ?zzN ?zze; (case zzF => assumption); (case zzN => assumption); (case zze => first | with_reducible rfl | assumption | exact Eq.symm (tab4_get (by assumption)))) | (refine' eltEnd ?zzF ?zzN ?zzS ?zze; (case zzF => assumption); (case zzN => assumption); (case zzS => (repeat' first | assumption | exact sub_refl | refine' sub_tail ?_)); (case zze => first | with_reducible rfl | assumption | exact Eq.symm (tab4_get (by assumption))))))
    | (with_reducible refine hZ3 _ _ ?_; clear hZ3; (try clear Qz); (try dsimp only)) | (with_reducible refine hZ1 _ ?_; clear hZ1 hZ2; (try clear Qz Ez); (try dsimp only)) | (with_reducible refine hZ2 _ _ ?_; clear hZ1 hZ2; (try clear Qz Ez); (try dsimp only))
    | ((with_reducible show wpAny _ _ (eval _ _) _ _ _); first
          | ((with_reducible show wpAny _ _ (eval (Expr.Name _ _) _) _ _ _); (k_here; (with_reducible show wpAny _ _ (eval (Expr.Name _ _) (compEnvC _ _ _ _)) _ _ _); k_dflt (first | refine LCgL.ld_own (by k_asm) (by k_mem) (by assumption) (by assumption) ?_ | (refine' lcf_cell ?zzN ?zzc ?zzm ?zzd ?_ ?zza ?zzb; (case zza => rfl); (case zzb => rfl); (case zzN => k_asm); (case zzc => rfl); (case zzm => k_mem); (case zzd => k_asm); k_whole) | (refine' lcf_free ?zzN ?zzc ?zzm ?zzd ?_ ?zza ?zzb; (case zza => rfl); (case zzb => rfl); (case zzN => k_asm); (case zzc => rfl); (case zzm => k_mem); (case zzd => k_asm); k_whole) | refine LCgL.ld_global (by k_asm) (by k_asm) (by k_asm) (by k_is) ?_ | refine LCgL.ld_built (by k_asm) (by k_asm) (by k_asm) (by k_is) (by boot_by_name) (by decide) ?_))))
    | ((with_reducible show wpAny _ _ (binaryOp _ _ _) _ _ _); first
          | ((with_reducible show wpAny _ _ (binaryOp Operator.Mod _ _) _ _ _); k_dflt (first | (refine mod_closed (by decide) (by decide) ?_) | (refine mod_small (by omega) (by omega) ?_) | (refine mod_is (by decide) ?_))))
    | ((with_reducible show wpAny _ _ (exec (Stmt.Assign _ (Expr.ListComp _ _ _ _) _) _) _ _ _); refine LCg.Assign_ListComp_U (F₀ := by k_asm) (by rfl) (by with_unfolding_all rfl) (by with_unfolding_all rfl) (by decide) (by rfl) (by decide) (by rfl) (by rfl) (by rfl) ?_)
    | ((with_reducible show wpAny _ _ (binaryOp _ (Value.ref _) (Value.ref _)) _ _ _); (try dsimp only); (refine' kmk_add_ints ?zzF ?zzN ?zza ?zzb ?zzi ?zzj ?_ ?zzz; (case zzF => k_asm); (case zzN => k_asm); (case zza => kmk_list); (case zzb => kmk_list); (case zzi => l_ints); (case zzj => l_ints); (case zzz => kmk_sum)); intro D' ws' h' F' N' l1 hI'; (try k_lt l1); (try k_sweep))
    | ((with_reducible show wpAny _ _ (subscriptTail (PySem.Expr.BinOp _ _ _ _) _ _ _) _ _ _); (dsimp only); refine kba_turn (value' := PySem.Expr.Name (PySem.Str.ofString "_") ⟨0, 0, 0, 0⟩) (fun _ => rfl) ?_; (refine' slice_at ?zzF ?zzN ?zzl ?zzi ?_ ?zzs ?zzt ?zzz; (case zzF => k_asm); (case zzN => k_asm); (case zzl => kmk_list); (case zzi => l_ints); (case zzs => with_unfolding_all rfl); (case zzt => kmk_pure); (case zzz => kmk_size)); intro D' ws' h' F' N' l1 hI'; (simp only [Int.reduceToNat] at hI'); (try k_lt l1); (try k_sweep))
    | ((fail_if_success (with_reducible show wpAny _ _ _ _ _ _)); (refine LCg.CompSrc.ledger (by rfl) (by k_asm) (by k_asm) (by k_mem) (by kcf_size) ?_; intro g'; (refine' kcf_list _ (by first | assumption | l_ints) (fun k' t' I' oI' C' oC' D' m' ys' h' tk' E' hk' hC' hx' F' N' off' ne' hMark' => ?_) ?_); (all_goals (try (simp only [LCg.Off3, and_true] at off'))); kcf_last))
    | walk1
    | (dsimp only; walk1))
  rename IntsAre _ (List.map _ (List.take _ _)) => hI8
  obtain ⟨n0, n1, n2, n3, n4, n5, n6, n7, e8, g0, g1, g2, g3, g4, g5, g6, g7⟩ := eight _
  rw [e8] at hI8
  obtain ⟨u0, u1, u2, u3, u4, u5, u6, u7, ey⟩ := ints8 hI8
  subst ey
  clear e8 hI8
  rename News _ _ _ ((_, LCg.lst _) :: _) => N'
  replace N' := news_keep1 4 N'
  simp only [List.drop_succ_cons, List.drop_zero] at N'
  refine execsC_cut ?_; intro Qz Ez hZ1 hZ2
  repeat' (first
    | (k_unfold; (try dsimp only))
    | ((with_reducible show EltEnd _ _ _ _ _ _ _ _); (first | (refine' elt_end ?zzF ?zzN ?zze; (case zzF => assumption); (case zzN => assumption); (case zze => first | with_reducible rfl | assumption | exact Eq.symm (tab4_get (by assumption)))) | (refine' eltEnd ?zzF ?zzN ?zzS ?zze; (case zzF => assumption); (case zzN => assumption); (case zzS => (repeat' first | assumption | exact sub_refl | refine' sub_tail ?_)); (case zze => first | with_reducible rfl | assumption | exact Eq.symm (tab4_get (by assumption))))))
    | (with_reducible refine hZ3 _ _ ?_; clear hZ3; (try clear Qz); (try dsimp only)) | (with_reducible refine hZ1 _ ?_; clear hZ1 hZ2; (try clear Qz Ez); (try dsimp only)) | (with_reducible refine hZ2 _ _ ?_; clear hZ1 hZ2; (try clear Qz Ez); (try dsimp only))
    | ((with_reducible show wpAny _ _ (eval _ _) _ _ _); first
          | (((first | (with_reducible show wpAny _ _ (eval (Expr.Call _ _ _ _) _) _ _ _) | (with_reducible show wpAny _ _ (eval (Expr.BinOp _ _ _ _) _) _ _ _) | (with_reducible show wpAny _ _ (eval (Expr.Tuple _ _ _) _) _ _ _) | (with_reducible show wpAny _ _ (eval (Expr.List _ _ _) _) _ _ _) | (with_reducible show wpAny _ _ (eval (Expr.Subscript _ _ _) _) _ _ _) | (with_reducible show wpAny _ _ (eval (Expr.Compare _ _ _ _) _) _ _ _)); with_reducible refine cutQ ?_; intro Qz hZ3))
          | ((with_reducible show wpAny _ _ (eval (Expr.Name _ _) _) _ _ _); (k_here; (fail_if_success (with_reducible show wpAny _ _ (eval (Expr.Name _ _) (compEnvC _ _ _ _)) _ _ _)); k_dflt (first | (refine' nameX_L ?zzF ?zzhv ?_ ?zzhk ?zzhx ?zzhd; (case zzhx => exact rfl); (case zzhk => exact rfl); (case zzhd => decide); (case zzF => k_asm); (case zzhv => first | exact rfl | assumption); k_whole) | (refine' nameX_K ?zzF ?zzX ?zzT ?zze ?_ ?zzhk ?zzhx ?zzhd; (case zzhx => exact rfl); (case zzhk => exact rfl); (case zzhd => decide); (case zzF => k_asm); (case zzX => with_reducible assumption); (case zzT => exact topRead_of (by with_reducible assumption)); (case zze => k_is); k_whole) | (refine' nameX_B ?zzF ?zzX ?zzT ?zze ?zzv ?zzzn ?_ ?zzhk ?zzhx ?zzhd; (case zzhx => exact rfl); (case zzhk => exact rfl); (case zzhd => decide); (case zzF => k_asm); (case zzX => with_reducible assumption); (case zzT => exact topRead_of (by with_reducible assumption)); (case zze => k_is); (case zzv => boot_fast); (case zzzn => decide); k_whole) | (refine' nameX_F ?zzN ?zzc ?zzm ?zzd ?_ ?zzhk ?zzhx ?zzhb ?zzhn; (case zzhx => exact rfl); (case zzhk => exact rfl); (case zzhb => decide); (case zzhn => decide); (case zzN => k_asm); (case zzc => rfl); (case zzm => k_mem); (case zzd => k_asm); k_whole) | (refine' nameX_C ?zzN ?zzc ?zzm ?zzd ?_ ?zzhk ?zzhx ?zzhb; (case zzhx => exact rfl); (case zzhk => exact rfl); (case zzhb => decide); (case zzN => k_asm); (case zzc => rfl); (case zzm => k_mem); (case zzd => k_asm); k_whole)))))
    | ((with_reducible show wpAny _ _ (call _ _ _) _ _ _); first
          | ((with_reducible show wpAny _ _ (call (Value.type _) _ _) _ _ _); ((with_reducible show wpAny _ _ (call (Value.type "bytes") [Value.ref _]) _ _ _); (refine' bytes_of ?zzF ?zzN ?zzh ?zzm ?zzi ?zzr ?zzz ?_; (case zzF => k_asm); (case zzN => k_asm); (case zzh => exact rfl); (case zzm => k_mem); (case zzi => first | assumption | (repeat constructor)); (case zzr => first | assumption | exact mod_in | exact low_in rfl (by assumption) | (repeat' (first | exact in_nil | refine in_cons (by omega) (by omega) ?_))); (case zzz => exact rfl)); intro b' t' h' k' hb' F' N'; (try k_sweep))))
    | ((with_reducible show wpAny _ _ _ _ _ _); (fail_if_success (with_reducible show wpAny _ _ (eval _ _) _ _ _)); (fail_if_success (with_reducible show wpAny _ _ (execs _ _) _ _ _)); first
          | ((with_reducible show wpAny _ _ (newTuple _) _ _ _); (k_here; k_dflt (refine' newTuple_is ?zzF ?zzN ?_ ?zzz; (case zzF => k_asm); (case zzN => k_asm); (case zzz => exact Nat.le_of_ble_eq_true rfl)); intro D' h' F' N' l1 l2; (try (replace l1 := allLt_of l1; (try dsimp only [AllLt] at l1))); (try k_lt2 l2); (try k_sweep))))
    | walk1
    | (dsimp only; walk1))
  rename News _ _ _ ((_, ({ cls := _, dict := _, data := Data.seq _, slots := _ } : Obj)) :: _) => N'
  replace N' := news_dropk 4 N'
  simp only [List.drop_succ_cons, List.drop_zero] at N'
  have l0N : LT.lt (α := Nat) 44 s₁.heap.objs.size ∧ LT.lt (α := Nat) 37 s₁.heap.objs.size := by assumption
  refine' law2 (s := s₁) ?zzB ?zzX ?zzT ⟨?zzx1, rfl, low4 g0 g1 g2 g3⟩ ⟨?zzx2, rfl, low4 g4 g5 g6 g7⟩ ?zzq1 ?zzq2 ?zzq3 ?zzq4 l0N.1 l0N.2 ?zzC1 ?zzC2 ?zzF (news_sub ?zzN ?zzS) ?zzQ
  case zzF => assumption
  case zzN => assumption
  case zzS => (repeat' first | assumption | exact sub_refl | refine' sub_tail ?_)
  case zzB => assumption
  case zzX => assumption
  case zzT => assumption
  case zzC1 => assumption
  case zzC2 => assumption
  case zzq1 => assumption
  case zzq2 => assumption
  case zzq3 => assumption
  case zzq4 => assumption
  case zzx1 => assumption
  case zzx2 => assumption
  case zzQ =>
    intro c1 c2 o1 o2 h' tk' m' F2 N2
    exact ⟨goodW_bool F2 hg (raisesW_false (by wrow_none_raised)) (by first | rfl | wrow_post), GrownAt.of N2 (by k_mem), GrownAt.of N2 (by k_mem), trivial⟩
end Mine
theorem PySem.Challenge.cw_hm0003_01_holds : PySem.Challenge.rw_hm0003_01.Holds := by
  exact Mine.law0

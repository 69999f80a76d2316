import PyProof.Rows.All
import Wide.All
import OpenK.AllK
import Wide.FinOn
import Lean
import PySem.Challenge.RW_zo0031_01
set_option Elab.async false
set_option maxRecDepth 100000
set_option linter.unusedVariables false
set_option linter.unusedSimpArgs false

section
open PySem PySem.W PySem.Calls PyProof.Rows in
theorem Mine.resetSL {M : Model} {A : Around} {E : Value → Shared → Prop} {s : Shared} {Q : Bool → Shared → Prop} {v : Value} (h : wpAny M A (truthy v) Q E s) : wpAny M A (truthy v) Q E s := by
  w_top off
  k_with_none
  first | (walk1; fail) | exact h
open PySem PySem.W PySem.Calls PyProof.Rows
open Sem (wp)
namespace Mine
/-- codes that may hold a bytearray's bytes -/
noncomputable def badIds : List String := Builtin.Bytes.decodersThatHold ++ ["bytearray.__contains__", "bytearray.__mod__", "bytearray.__rmod__", "_struct.pack_into.held", "bytearray.find.held"]
noncomputable def bad : Code → Bool
  | .builtin id _ => badIds.contains id
  | _ => false
/-- no such code is at work -/
noncomputable def Clean (Γ : Ctx) : Prop := bad Γ.code = false ∧ ∀ x ∈ Γ.below, bad x.1 = false
theorem Clean.enter {Γ : Ctx} {c : Code} {hd : Option Value} {p : Pos} (h : Clean Γ) (hc : bad c = false) : Clean (Γ.enter c hd p) :=
  ⟨hc, fun x hx => by
    rcases List.mem_cons.mp hx with rfl | hx
    · exact h.1
    · exact h.2 x hx⟩
theorem Clean.goto {Γ : Ctx} {c : Code} (h : Clean Γ) (hc : bad c = false) : Clean (Γ.goto c) := ⟨hc, h.2⟩
/-- wpAny, for clean contexts alone -/
noncomputable def wpS {α : Type} (M : Model) (A : Around) (t : Sem α) (Q : α → Shared → Prop) (E : Value → Shared → Prop) (s : Shared) : Prop :=
  ∀ Γ p, Γ.In A → Clean Γ → wp M Γ t (fun a _ s' => Q a s') (fun e _ s' => E e s') p s
noncomputable def codeS (M : Model) (A : Around) (c : Code) (R : Result → Shared → Prop) (s : Shared) : Prop :=
  ∀ Γ p, Γ.code = c → Γ.Below A → Clean Γ → wpCode M Γ R p s
section
variable {α β : Type} {M : Model} {A : Around} {E : Value → Shared → Prop} {s : Shared}
theorem wpS_of {t : Sem α} {Q : α → Shared → Prop} (h : wpAny M A t Q E s) : wpS M A t Q E s := fun Γ p hΓ _ => h Γ p hΓ
theorem codeS_of {c : Code} {R : Result → Shared → Prop} (h : codeAny M A c R s) : codeS M A c R s := fun Γ p hc hΓ _ => h Γ p hc hΓ
theorem wpS_pure {a : α} {Q : α → Shared → Prop} (h : Q a s) : wpS M A (pure a) Q E s := wpS_of (wpAny_pure h)
theorem wpS_mono {t : Sem α} {Q Q' : α → Shared → Prop} {E' : Value → Shared → Prop} (h : wpS M A t Q E s)
    (hQ : ∀ a s, Q a s → Q' a s) (hE : ∀ e s, E e s → E' e s) : wpS M A t Q' E' s :=
  fun Γ p hΓ hC => Sem.wp_mono M Γ t (fun a _ s => hQ a s) (fun e _ s => hE e s) p s (h Γ p hΓ hC)
theorem wpS_bind {m : Sem α} {f : α → Sem β} {Q : β → Shared → Prop} (h : wpS M A m (fun a s' => wpS M A (f a) Q E s') E s) : wpS M A (m >>= f) Q E s := fun Γ p hΓ hC => by
  rw [Sem.wp_bind']
  exact Sem.wp_mono M Γ m (fun a p' s' h' => h' Γ p' hΓ hC) (fun _ _ _ h' => h') p s (h Γ p hΓ hC)
theorem wpS_bindA {m : Sem α} {f : α → Sem β} {Q : β → Shared → Prop} (h : wpAny M A m (fun a s' => wpS M A (f a) Q E s') E s) : wpS M A (m >>= f) Q E s := wpS_bind (wpS_of h)
theorem wpS_onRaise {m : Sem α} {k : Value → Sem Unit} {Q : α → Shared → Prop}
    (h : wpS M A m Q (fun e s' => wpS M A (k e) (fun _ s'' => E e s'') E s') s) : wpS M A (m.onRaise k) Q E s := fun Γ p hΓ hC => by
  rw [Sem.wp_onRaise]
  exact Sem.wp_mono M Γ m (fun _ _ _ h' => h') (fun e p' s' h' => h' Γ p' hΓ hC) p s (h Γ p hΓ hC)
theorem wpS_holding {vs : List Value} {m : Sem α} {Q : α → Shared → Prop} (h : wpS M A m Q E s) : wpS M A (holding vs m) Q E s :=
  fun Γ p hΓ hC => by rw [Sem.wp_holding]; exact h Γ p hΓ hC
theorem wpS_runValue {c : Code} {Q : Value → Shared → Prop} (hb : bad c = false)
    (hc : codeS M A c (fun r s' => match r with | .ok (.ret v) => Q v s' | .ok _ => False | .error e => E e s') s) :
    wpS M A (runValue c) Q E s := fun Γ p hΓ hC => by rw [Sem.wp_runValue]; exact hc _ p rfl (hΓ.enter c none p (by intro x; cases x)) (hC.enter hb)
theorem wpS_run {c : Code} {h : Option Value} {Q : Flow → Shared → Prop} (hb : bad c = false)
    (hc : codeS M (A.mark h) c (fun r s' => match r with | .ok f => Q f s' | .error e => E e s') s) (hnb : h ≠ some byPass := by intro x; cases x) :
    wpS M A (run c h) Q E s :=
  fun Γ p hΓ hC => by rw [Sem.wp_run]; exact hc _ p rfl (hΓ.enter c h p hnb) (hC.enter hb)
theorem wpS_call {f : Value} {pos : List Value} {kw : List (Str × Value)} {Q : Value → Shared → Prop}
    (hc : codeS M A (.call f ⟨pos, kw⟩) (fun r s' => match r with | .ok (.ret v) => Q v s' | .ok _ => False | .error e => E e s') s) :
    wpS M A (call f pos kw) Q E s := wpS_runValue rfl hc
theorem codeS_mono {c : Code} {R R' : Result → Shared → Prop} (h : codeS M A c R s) (hR : ∀ r s, R r s → R' r s) : codeS M A c R' s :=
  fun Γ p hc hΓ hC => wpCode_mono hR (h Γ p hc hΓ hC)
theorem codeS_of_tree {c : Code} {R : Result → Shared → Prop}
    (h : wpS M (A.under c) (M.den c) (fun fin s' => match fin with | .done f => R (.ok f) s' | .again c' => c'.quiet = true ∧ bad c' = false ∧ codeS M A c' R s')
      (fun e s' => R (.error e) s') s) : codeS M A c R s := fun Γ p hc hΓ hC => by
  rw [wpCode_iff_wp, hc]
  refine Sem.wp_mono M Γ _ (fun fin p' s' h' => ?_) (fun _ _ _ h' => h') p s (h Γ p (hc ▸ hΓ.in) hC)
  cases fin with
  | done f => exact h'
  | again c' => exact ⟨h'.1, h'.2.2 (Γ.goto c') p' rfl (hΓ.goto c') (hC.goto h'.2.1)⟩
theorem codeS_loop {c : Code} {R : Result → Shared → Prop} (hq : c.quiet = true) (hb : bad c = false) (I : Nat → Shared → Prop)
    (turn : ∀ n s, I n s → wpS M (A.under c) (M.den c)
      (fun fin s' => match fin with
        | .done f => R (.ok f) s'
        | .again c' => (c' = c ∧ ∃ m, m < n ∧ I m s') ∨ (c'.quiet = true ∧ bad c' = false ∧ codeS M A c' R s')) (fun e s' => R (.error e) s') s)
    (n : Nat) (h : I n s) : codeS M A c R s := by
  induction n using Nat.strongRecOn generalizing s with
  | ind n ih =>
    refine codeS_of_tree (wpS_mono (turn n s h) (fun fin s' hf => ?_) fun _ _ h' => h')
    cases fin with
    | done f => exact hf
    | again c' =>
      rcases hf with ⟨rfl, m, hm, hI⟩ | hf
      · exact ⟨hq, hb, ih m hm hI⟩
      · exact hf
end
section
variable {prog : Program} {w : World} {A : Around} {E : Value → Shared → Prop} {R : Result → Shared → Prop} {s : Shared} {env : Env}
theorem codeS_func {body : List Stmt}
    (h : wpS (model prog w) (A.deeper env) (execs body env) (fun f s' => R (.ok (.ret (match f with | .ret v => v | _ => .none))) s')
      (fun e s' => wpAny (model prog w) (A.deeper env) (leaving env e) (fun _ s'' => R (.error e) s'') (fun e' s'' => R (.error e') s'') s') s) :
    codeS (model prog w) A (.func body env) R s := by
  refine codeS_of_tree ?_
  show wpS _ (A.deeper env) (do point; match ← (execs body env).onRaise (leaving env) with | .ret v => ret v | _ => ret .none) _ _ s
  refine wpS_bindA (wpAny_point (wpS_bind (wpS_onRaise (wpS_mono h (fun f s' h' => ?_) fun _ _ h' => wpS_of h'))))
  cases f <;> exact wpS_pure h'
theorem codeS_call_function {a : Addr} {args : Args} {o : Obj} {fd : FuncData} {body : List Stmt} (hroom : A.depth < recursionLimit)
    (ho : s.heap.get? a = some o)
    (hd' : o.data = .func fd) (hco : fd.scope.isCoroutine = false) (hgen : fd.scope.isGenerator = false) (hbody : fd.body = .stmts body) (hcd : s.heap.CodeRec fd.code fd.qualname)
    (h : wpAny (model prog w) A.in1 (bindArgs fd args) (fun binds s₁ =>
      wpAny (model prog w) A.in1 (newFunctionEnv fd.scope fd.globals fd.closure binds (fd.qualname ++ ".<locals>.") (some a) fd.code none fd.builtins)
        (fun env s₂ => s₂.heap.NoLimit ∧ codeS (model prog w) A (.func body env) R s₂) (fun e s' => R (.error e) s') s₁) (fun e s' => R (.error e) s') s) :
    codeS (model prog w) A (.call (.ref a) args) R s := by
  refine codeS_of_tree ?_
  show wpS _ A.in1 (callAny (.ref a) args) _ _ s
  simp only [callAny]
  refine wpS_of (wpAny_bind (wpAny_load ho ?_))
  obtain ⟨c, oc, vs, tq, hc, hoc, hdc, hq⟩ := hcd
  simp only [hd', callFunction, hco, hgen, hbody, hc]
  rw [hc] at h
  refine wpAny_bind (m := field (.ref c) 1) (wpAny_field hoc hdc hq (wpAny_bind (wpAny_pure ?_)))
  exact wpAny_bind (wpAny_mono h (fun binds s₁ h₁ => wpAny_bind (wpAny_mono h₁ (fun env s₂ h₂ => wpAny_bind (wpAny_enterFrame h₂.1 hroom
    (wpAny_pure ⟨rfl, rfl, h₂.2⟩))) fun _ _ h' => h')) fun _ _ h' => h')
end
section
variable {prog : Program} {w : World} {A₀ A : Around} {s : Shared} {base h₀ : Heap} {outer : List Env} {L : Addr} {m : Str → Option Value} {env : Env} {news : List (Addr × Obj)} {K : Frag} {p : Program} {loose : List Str} {mean : ExcName → Option Value} {mg mb : Str → Option Value}
  {R : Result → Shared → Prop} {name qual : Str} {params : Arguments} {body : List Stmt} {scope : Scope} {dV kV doc pm cdv ct oc : Value} {an od : Option Addr} {osl : Array (Option Value)} {f : Addr} {args : Args} {binds : List (Str × Value)}
theorem code_defS (B : Below A₀ base outer h₀) (F : Fr h₀ L s.heap m) (X₀ : K.In h₀) (N : News h₀ L s.heap news) (T : Top p loose mean mg mb h₀) (hA : A.frames = some (env :: outer)) (hf : env.frame = some L) (hke : env.scope.kind = .function)
    (ho : K.lookup f = some ⟨oc, od, .func (fnOf name qual params body scope dV kV doc pm an cdv ct), osl⟩) (hcd : codeIn K cdv qual = true) (hroom : A.depth < recursionLimit)
    (hbind : BindsTo s (fnOf name qual params body scope dV kV doc pm an cdv ct) args binds) (hloc : ∀ y ∈ binds, scope.names.lookup y.1 = some .local)
    (h : ∀ g L' h₁, Fr h₀ L g m → Fr g L' h₁ (fun y => binds.reverse.lookup y) → News g L' h₁ news → Below A base (env :: outer) g → K.In g → Top p loose mean mg mb g → (∀ p ∈ news, p.1 < L') →
      wpS (model prog w) (A.deeper (envOf qual scope L' f cdv)) (execs body (envOf qual scope L' f cdv))
        (fun fl s' => LeaveK h₀ L m g R (match fl with | .ret v => v | _ => .none) s')
        (fun e s' => wpAny (model prog w) (A.deeper (envOf qual scope L' f cdv)) (leaving (envOf qual scope L' f cdv) e) (fun _ s'' => R (.error e) s'') (fun e' s'' => R (.error e') s'') s')
        { s with heap := h₁, toks := s.toks + binds.length })
    (hco : scope.isCoroutine = false) (hgen : scope.isGenerator = false) (hk : scope.kind = .function)
    (hcell : ∀ x ∈ scope.names, x.2 ≠ .cell) : codeS (model prog w) A (.call (.ref f) args) R s := by
  obtain ⟨FG, BG, st, lv⟩ := groundX (R := R) B F N hA hf hke
  have X : K.In s.heap := X₀.keeps F.keep
  refine codeS_call_function hroom (X _ _ ho) rfl hco hgen rfl (codeRec_of X hcd) (hbind _ _ _ _ ?_)
  refine wpAny_newFunctionEnv hcell hloc (fun h₁ hns hsb => ⟨(T.nolimit.keeps F.keep).fresh _ hsb, codeS_func ?_⟩) hk
  have hk₁ : ∀ b o, s.heap.get? b = some o → h₁.get? b = some o := fun b o e => hsb.extBut b o (Nat.ne_of_lt (Heap.lt_size e)) (Heap.get?_push_of_some _ e)
  exact wpS_mono (h _ s.heap.objs.size h₁ FG ⟨hns, fun b o e => hk₁ b o (of_hideAll _ e), Nat.le_of_eq (hideAll_size _ _)⟩
    (fun p hp => ⟨hk₁ _ _ (N p hp).1, Nat.ne_of_lt (Heap.lt_size (N p hp).1), hideAll_none _ (List.mem_map_of_mem hp)⟩) BG (X₀.keeps st) (T.keeps st) (fun p hp => Heap.lt_size (N p hp).1)) (fun fl s' hl => lv _ _ hl) fun _ _ y => y
end
end Mine
end

section
open PySem PySem.W PySem.Calls PyProof.Rows in
theorem Mine.resetSHead {M : Model} {A : Around} {E : Value → Shared → Prop} {s : Shared} {Q : Bool → Shared → Prop} {v : Value} (h : wpAny M A (truthy v) Q E s) : wpAny M A (truthy v) Q E s := by
  w_top off
  k_with_none
  first | (walk1; fail) | exact h
open PySem PySem.W PySem.Calls PyProof.Rows
open Sem (wp)
namespace Mine
theorem caller_clean : Clean ⟨.builtin "claim.caller" {}, none, none, [], none⟩ := ⟨by decide +kernel, fun _ h => nomatch h⟩
theorem ends_S {prog : Program} {w : World} {t : Sem Fin} {s : Shared} {R : Result → Shared → Prop} (hreg : s.asleep)
    (h : wpS (model prog w) callerA t (fun fin s' => ∃ f, fin = .done f ∧ (R (.ok f) s' ∧ leftWithCleanup s'.gens = false)) (fun e s' => R (.error e) s' ∧ leftWithCleanup s'.gens = false) s) :
    ∃ n r s' s'', runN (denote table) prog w n s ⟨t, .builtin "claim.caller" {}, default, []⟩ = .halted (outcomeOf r) s' ∧
      schedN (denote table) prog w n (.single s ⟨t, .builtin "claim.caller" {}, default, []⟩) = .halted (outcomeOf r) s' ∧ s'.forget = s''.forget ∧ R r s'' := by
  have hw : wp (model prog w) ⟨.builtin "claim.caller" {}, none, none, [], none⟩ t (Sem.finPost (model prog w) ⟨.builtin "claim.caller" {}, none, none, [], none⟩ fun r s' => R r s' ∧ leftWithCleanup s'.gens = false)
      (fun e _ s' => R (.error e) s' ∧ leftWithCleanup s'.gens = false) default s :=
    Sem.wp_mono _ _ t (fun fin p' s' h' => by obtain ⟨f, rfl, hf⟩ := h'; exact hf) (fun _ _ _ h' => h') default s (h _ default caller_in caller_clean)
  obtain ⟨n, r, s₁, s₂, hs, hn, hfo, hR⟩ := wp_halts_full (M := model prog w) (R := R) hreg hw
  exact ⟨n, r, s₂, s₁, hn, hs, hfo, hR⟩
theorem callFrom_S {c : ClaimW} {tree : List Value → Sem Fin} {w : World} {s : Shared} {free : Addr → Prop} {gens : Prop} {kept : Heap → Prop} (hz : s.asleep) (hgens : s.gens = #[])
    (hspec : ∀ args, c.pre args = true → WData.layableAll args = true →
      ∀ ord : List DictEntry → List DictEntry, (∀ l, (ord l).Perm l) →
      ∃ vs s₁, layAllW c.records (classAt s.heap) w.params ord args s = some (vs, s₁) ∧
        wpS (model c.prog w) callerA (tree vs) (fun fin s' => ∃ f, fin = .done f ∧ (c.Ends s args vs s₁ (.ok f) s' ∧ s'.os = s.os ∧ AllBare s'.gens ∧ kept s'.heap))
          (fun e s' => c.Ends s args vs s₁ (.error e) s' ∧ s'.os = s.os ∧ AllBare s'.gens ∧ kept s'.heap) s₁) :
    c.CallFrom (fun vs => ⟨tree vs, .builtin "claim.caller" {}, default, []⟩) w free gens kept s := by
  intro args hpre hlay ord hord
  obtain ⟨vs, s₁, hlaid, hcode⟩ := hspec args hpre hlay ord hord
  have hal := layAllW_rest _ _ _ hlaid
  obtain ⟨k, r, s', s'', hrun, hsched, hfo, hcase, hos, hkp⟩ := ends_S (prog := c.prog) (w := w) (t := tree vs) (s := s₁)
    (R := fun r s' => c.Ends s args vs s₁ r s' ∧ s'.os = s.os ∧ kept s'.heap) (Shared.asleep_of_life hal.2.2.2 hz)
    (wpS_mono hcode (fun fin s' ⟨f, e, h1, h2, h3, h4⟩ => ⟨f, e, ⟨h1, h2, h4⟩, leftWithCleanup_false_of_bare h3⟩) (fun e s' ⟨h1, h2, h3, h4⟩ => ⟨⟨h1, h2, h4⟩, leftWithCleanup_false_of_bare h3⟩))
  obtain ⟨eh, _, _, eo, _⟩ := Shared.forget_eq hfo
  have hcase := ClaimW.Ends.congr eh hcase
  have hkp : kept s'.heap := by rw [eh]; exact hkp
  rw [← eo] at hos
  have hlife : s'.heap.life = s.heap.life := (runN_life _ _ _ hrun).trans hal.2.2.2
  refine ⟨vs, s₁, hlaid, k, _, s', hsched, ?_, (fun _ i x hx => by rw [hgens] at hx; simp at hx), hkp, by rw [hlife], Shared.rest_eq hos⟩
  rcases hcase with ⟨v, rfl, d1, d2, d3, d4, d5⟩ | ⟨e, ob, cls, rfl, d1, d2, d3, d4, d5⟩
  · exact .inl ⟨v, rfl, d1, d2, d3, fun b o y _ => d4 b o y, d5⟩
  · exact .inr ⟨e, ob, cls, rfl, d1, d2, d3, d4, fun b o y _ => d5 b o y⟩
/-- the walk of the law, for clean contexts -/
abbrev WalkS (q : Program) (loose : List Str) (XP : (Str → Option Value) → Heap → Prop) (YP : World → Heap → Prop) (r : RowW) (d : DefRec) (kwd : List (Str × Expr)) : Prop :=
  ∀ (w : World) (s₀ s₁ : Shared) (mg mb : Str → Option Value), Ground q loose r.records XP w s₀ mg mb s₁.heap → YP w s₁.heap → ∀ (a : Addr) (o : Obj) (pm cd doc dV kV : Value), s₁.heap.get? a = some o →
    o.data = .func { docDef d.name d.params d.body d.scope pm cd doc with defaults := dV, kwdefaults := kV } → s₁.heap.CodeRec cd d.name → Dflts mg s₁.heap d.params kwd dV kV → mg d.name = some (.ref a) → s₁.gens = #[] →
    ∀ (args : List WData) (vals : List Value) (as : List Addr), r.claim.pre args = true → WData.layableAll args = true → ReadsAllW r.records (classAt s₀.heap) s₁.heap vals args as → WellAll w.params s₁.heap vals args → (∀ a ∈ as, (a == sysModules) = false) →
      wpS (model r.prog w) callerA (PySem.call (.ref a) vals) (fun v s' => GoodWG r.claim (classAt s₀.heap) (ExcName.means s₀.heap) args s₁ (.ok (.ret v)) s')
        (fun e s' => GoodWG r.claim (classAt s₀.heap) (ExcName.means s₀.heap) args s₁ (.error e) s') s₁
/-- the head for such a walk: it stands under this name so that the kit's head takes it -/
theorem PySem.W.holds_open {r : OpenRow} {q : Program} {loose : List Str} {Xt : Shared → Bool} {XP : (Str → Option Value) → Heap → Prop} {α : Type} {Yf : Shared → α} {Ya : World → α} {YP : World → Heap → Prop} {d : DefRec} {kwd : List (Str × Expr)} {N : Nat}
    (left : LeftO r.prog q loose Xt Yf Ya N) (hY : ∀ w s, Yf s = Ya w → YP w s.heap) (hYk : ∀ w h h', YP w h → (∀ b o, h.get? b = some o → h'.get? b = some o) → YP w h')
    (hX : ∀ s, Xt s = true → XP (s.heap.nsMap mainGlobals) s.heap) (hXk : ∀ mg h h', XP mg h → (∀ b o, h.get? b = some o → h'.get? b = some o) → XP mg h')
    (hdef : defOf q r.name = some (d, kwd)) (hp : r.prog.theDef r.name = some (d.params, d.body, d.scope)) (hk : kwWritten? d.params.kwonlyargs d.params.kw_defaults = some kwd) (hRf : ∀ s, Xt s = true → RecFacts r.records s.heap) (hwr : (!r.writes || r.records.isEmpty) = true)
    (k1 : r.wellSaid = true) (ok : (chainsOk q && opensWell r.prog && (frees r.toRowW && r.within.isEmpty)) = true) (hb : r.prog.bare) (hw : r.toRowW.promised)
    (call : WalkS q loose XP YP r.toRowW d kwd) : r.Holds := by
  obtain ⟨ok, k5⟩ := Bool.and_eq_true_iff.mp ok
  obtain ⟨hch, o1⟩ := Bool.and_eq_true_iff.mp ok
  obtain ⟨k5, k6⟩ := Bool.and_eq_true_iff.mp k5
  obtain ⟨hsame, hu, ha, hap, hm⟩ := frees_parts k5
  refine ⟨k1, hw, ⟨hb, o1, by show r.toRowW.makers.map _ = []; rw [hm]; rfl⟩, hw.witness, fun w => ⟨(left.behind hX hch w).1, fun s' hs' => ?_⟩⟩
  obtain ⟨s₀, hf, hg0, s, hT, hz, hgens, hg, G00, y⟩ := (left.behind (XP := fun mg h => XP mg h ∧ RecFacts r.records h) (fun s hs => ⟨hX s hs, hRf s hs⟩) hch w).2 s' hs'
  have G0 : Ground q loose [] XP w s (s.heap.nsMap mainGlobals) (s.heap.nsMap builtinsNs) s.heap := ⟨G00.T, G00.B, G00.D, G00.TE, G00.TD, G00.W, G00.X.1, G00.cls, G00.has, G00.apart, G00.once, G00.K⟩
  have RF := G00.X.2
  have hT' := hT
  refine ⟨s₀, hf, hg0, s, hT, fun n hn => ?_, RF.1, RF.2.1, ?_⟩
  · obtain rfl : n = r.name := by split at hn <;> simp_all
    exact pinned_of_view hg G0 hdef hp hk
  have hgens : s.gens = #[] := Array.eq_empty_of_size_eq_zero (beq_iff_eq.mp hgens)
  have G : Ground q loose r.records XP w s _ _ s.heap := RF.ground G0
  refine callFrom_S (c := r.toRowW.claim) hz hgens fun args hpre hlay ord hord => ?_
  obtain ⟨⟨vs, s₁⟩, hlaid⟩ := Option.isSome_iff_exists.mp (layAllW_isSome (P := w.params) (ord := ord) G.has args r.args s (pre_splitW hpre).1)
  have keeps := layAllW_keeps _ _ _ hlaid
  have hal := layAllW_rest _ _ _ hlaid
  obtain ⟨as, hrd, hin, hold⟩ := reads_layAllW hord _ _ _ hlaid hlay s₁.heap (fun _ _ e => e)
  have L : Laid r.records w s s₁ args vs as := ⟨⟨ord, hord, hlaid⟩, hrd, hin, hold, keeps, hal.1.trans hgens, hal.2.2.1⟩
  have G₁ := G.keeps hXk keeps
  obtain ⟨a, o, pm, cd, doc, dV, kV, h1, h2, h3, h4, h5⟩ := G₁.fn hdef
  have h := call w s s₁ _ _ G₁ (hYk _ _ _ (hY w s y) keeps) a o pm cd doc dV kV h2 h3 h4 h5 (defOf_name hdef ▸ h1) L.gens args vs as hpre hlay L.reads L.well (L.low G.low)
  have hi := ident_freeW hu ha hap
  have hwi : r.toRowW.claim.within = [] := List.isEmpty_iff.mp k6
  refine ⟨vs, s₁, hlaid, wpS_bindA (wpAny_nsGet G₁.T.g ?_)⟩
  rw [h1]
  exact wpS_bind (wpS_mono h
    (fun v s' g => wpS_pure ⟨_, rfl, have z := g.laid (c := r.toRowW.claim) hsame hwi hi L; ⟨z.1, z.2.1, z.2.2, fun q => ⟨namesKept_of hT' hg _ keeps g.2.1.old, noTable hwr q⟩⟩⟩)
    fun e s' g => have z := g.laid (c := r.toRowW.claim) hsame hwi hi L; ⟨z.1, z.2.1, z.2.2, fun q => ⟨namesKept_of hT' hg _ keeps g.2.1.old, noTable hwr q⟩⟩)
end Mine
end

section
open PySem PySem.W PySem.Calls PyProof.Rows in
theorem Mine.resetHeadK {M : Model} {A : Around} {E : Value → Shared → Prop} {s : Shared} {Q : Bool → Shared → Prop} {v : Value} (h : wpAny M A (truthy v) Q E s) : wpAny M A (truthy v) Q E s := by
  w_top off
  k_with_none
  first | (walk1; fail) | exact h
open PySem PySem.W PyProof.Rows
namespace Mine
set_option maxRecDepth 100000 in
set_option maxHeartbeats 8000000 in
open_top hd for PySem.Challenge.rw_zo0031_01
theorem fill0 : (PySem.Challenge.rw_zo0031_01, hd.heap_39) = (PySem.Challenge.rw_zo0031_01, hd.heap_39) := by
  k_fill
  rfl
end Mine
end

section
open PySem PySem.W PySem.Calls PyProof.Rows in
theorem Mine.resetSL2 {M : Model} {A : Around} {E : Value → Shared → Prop} {s : Shared} {Q : Bool → Shared → Prop} {v : Value} (h : wpAny M A (truthy v) Q E s) : wpAny M A (truthy v) Q E s := by
  w_top off
  k_with_none
  first | (walk1; fail) | exact h
open PySem PySem.W PySem.Calls PyProof.Rows
open Sem (wp)
namespace Mine
section
variable {M : Model} {A : Around} {E : Value → Shared → Prop} {s : Shared} {env : Env}
theorem execsA {st : Stmt} {rest : List Stmt} {Q : Flow → Shared → Prop}
    (h : wpAny M A (exec st env) (fun f s' => match f with | .next => wpS M A (execs rest env) Q E s' | f => Q f s') E s) :
    wpS M A (execs (st :: rest) env) Q E s := fun Γ p hΓ hC => by
  rw [execs_cons, Sem.wp_bind']
  refine Sem.wp_mono M Γ _ (fun f p' s' h' => ?_) (fun _ _ _ h' => h') _ _ (h Γ p hΓ)
  cases f <;> first | exact h' Γ p' hΓ hC | exact h'
theorem execsS {st : Stmt} {rest : List Stmt} {Q : Flow → Shared → Prop}
    (h : wpS M A (exec st env) (fun f s' => match f with | .next => wpS M A (execs rest env) Q E s' | f => Q f s') E s) :
    wpS M A (execs (st :: rest) env) Q E s := fun Γ p hΓ hC => by
  rw [execs_cons, Sem.wp_bind']
  refine Sem.wp_mono M Γ _ (fun f p' s' h' => ?_) (fun _ _ _ h' => h') _ _ (h Γ p hΓ hC)
  cases f <;> first | exact h' Γ p' hΓ hC | exact h'
theorem assignS {x : Str} {pos' : Pos} {value : Expr} {pos : Pos} {Q : Flow → Shared → Prop}
    (h : wpS M A (eval value env) (fun v s₁ => wpAny M A (storeName env x v) (fun _ => Q .next) E s₁) E s)
    (hs : swapsWith value (some (.Name x pos')) pos.line env = pure false := by rfl) :
    wpS M A (exec (.Assign [.Name x pos'] value pos) env) Q E s := fun Γ p hΓ hC => by
  simp only [exec_Assign_Name env x pos' value pos hs, Sem.wp_bind', Sem.wp_cmd_standAt, Sem.wp_bindName, Sem.wp_pure']
  exact Sem.wp_mono M Γ _ (fun v _ s₁ h₁ => h₁ Γ _ hΓ) (fun _ _ _ h' => h') _ _ (h Γ _ hΓ hC)
theorem assignSubS {o i value : Expr} {pos' pos : Pos} {Q : Flow → Shared → Prop}
    (h : wpS M A (eval value env) (fun v s₁ => wpAny M A (eval o env) (fun ov s₂ => wpAny M A (eval i env) (fun iv s₃ =>
      wpAny M A (setItem ov iv v) (fun _ => Q .next) E s₃) E s₂) E s₁) E s)
    (hs : swapsWith value (some (.Subscript o i pos')) pos.line env = pure false := by rfl) :
    wpS M A (exec (.Assign [.Subscript o i pos'] value pos) env) Q E s := fun Γ p hΓ hC => by
  simp only [exec_Assign_Subscript o i pos' value pos hs, assign_Subscript, Sem.wp_bind', Sem.wp_holding, Sem.wp_cmd_standAt, Sem.wp_release, Sem.wp_pure']
  exact Sem.wp_mono M Γ _ (fun v p₁ s₁ h₁ => Sem.wp_mono M Γ _ (fun ov p₂ s₂ h₂ => Sem.wp_mono M Γ _ (fun iv _ s₃ h₃ => h₃ Γ _ hΓ)
    (fun _ _ _ h' => h') _ _ (h₂ Γ p₂ hΓ)) (fun _ _ _ h' => h') _ _ (h₁ Γ p₁ hΓ)) (fun _ _ _ h' => h') _ _ (h Γ _ hΓ hC)
theorem ifS {test : Expr} {body orelse : List Stmt} {pos : Pos} {Q : Flow → Shared → Prop}
    (h : wpAny M A (isTrue test env (eval test env))
      (fun b s₂ => if b then wpS M A (execs body env) Q E s₂ else wpS M A (execs orelse env) Q E s₂) E s) :
    wpS M A (exec (.If test body orelse pos) env) Q E s := fun Γ p hΓ hC => by
  simp only [exec_If, Sem.wp_bind', Sem.wp_cmd_standAt]
  refine Sem.wp_mono M Γ _ (fun b p₂ s₂ h₂ => ?_) (fun _ _ _ h' => h') _ _ (h Γ _ hΓ)
  cases b <;> exact h₂ Γ p₂ hΓ hC
theorem returnS {e : Expr} {pos : Pos} {Q : Flow → Shared → Prop} (h : wpS M A (eval e env) (fun v => Q (.ret v)) E s) :
    wpS M A (exec (.Return (some e) pos) env) Q E s := fun Γ p hΓ hC => by
  simp only [exec_Return_some, Sem.wp_bind', Sem.wp_cmd_standAt, Sem.wp_pure']; exact h Γ _ hΓ hC
theorem binOpS {l r : Expr} {op : Operator} {pos : Pos} {Q : Value → Shared → Prop}
    (h : wpS M A (eval l env) (fun a s₁ => wpAny M A (eval r env) (fun b s₂ => wpAny M A (binaryOp op a b) Q E s₂) E s₁) E s) :
    wpS M A (eval (.BinOp l op r pos) env) Q E s := fun Γ p hΓ hC => by
  simp only [eval_BinOp, Sem.wp_bind', Sem.wp_holding, Sem.wp_cmd_standAt, Sem.wp_operate]
  exact Sem.wp_mono M Γ _ (fun a p₁ s₁ h₁ => Sem.wp_mono M Γ _ (fun b _ s₂ h₂ => h₂ Γ _ hΓ) (fun _ _ _ h' => h') _ _ (h₁ Γ p₁ hΓ))
    (fun _ _ _ h' => h') _ _ (h Γ p hΓ hC)
/-- the callee is a function of the text or a type -/
noncomputable def CalleeOk (f : Value) (s : Shared) : Prop := (∃ T, f = .type T) ∨ ∃ a o fd, f = .ref a ∧ s.heap.get? a = some o ∧ o.data = .func fd
/-- a call that is about to run -/
noncomputable def CallS (M : Model) (A : Around) (f : Value) (vs : List Value) (Q : Value → Shared → Prop) (E : Value → Shared → Prop) (s : Shared) : Prop :=
  CalleeOk f s ∧ wpS M A (call f vs []) Q E s
theorem callS {func e : Expr} {args : List Expr} {pos : Pos} {Q : Value → Shared → Prop}
    (h : wpAny M A (eval func env) (fun f s₁ => wpAny M A (spliced (backTo pos (starEach (e :: args) env))) (fun vs s₂ => CallS M A f vs Q E s₂) E s₁) E s)
    (he : eval (.Call func (e :: args) [] pos) env = (do callWith pos (← eval func env) [] (backTo pos (starEach (e :: args) env)) (backToKw pos (keywordEach [] env))) := by rfl)
    (hst : starEach (e :: args) env = (false, eval e env) :: starEach args env := by rfl)
    (hplain : (backTo pos (starEach (e :: args) env)).any (·.1) = false := by rfl) (hlen : ¬ (backTo pos (starEach (e :: args) env)).length > 30 := by exact Nat.not_lt.mpr (Nat.le_of_ble_eq_true rfl)) :
    wpS M A (eval (.Call func (e :: args) [] pos) env) Q E s := by
  rw [he]
  refine wpS_bindA (wpAny_mono h (fun f s₁ h₁ => ?_) fun _ _ x => x)
  show wpS M A (callWith pos f [] (backTo pos (starEach (e :: args) env)) []) Q E s₁
  unfold callWith
  refine wpS_bind (wpS_holding (wpS_of ?_))
  rw [hst] at h₁ hplain hlen ⊢
  refine evalArgs_plain (wpAny_mono h₁ (fun vs s₂ h₂ => ?_) fun _ _ x => x)
  obtain ⟨hok, hc⟩ := h₂
  refine wpS_bindA (wpAny_standAt ?_)
  simp only [hplain, List.any_nil, Bool.or_false, List.nil_append]
  have tail : ∀ {t : Sem Value}, wpS M A t Q E s₂ → wpS M A (t >>= fun r => holding [r] point >>= fun _ => pure r) Q E s₂ :=
    fun ht => wpS_bind (wpS_mono ht (fun r s₂ hr => wpS_bindA (wpAny_holding (wpAny_point (wpS_pure hr)))) fun _ _ x => x)
  rcases hok with ⟨T, rfl⟩ | ⟨a, o, fd, rfl, ho, hd⟩
  · exact wpS_bindA (wpAny_pure (tail hc))
  · refine wpS_bindA (m := keeperOf (.ref a)) ?_
    unfold keeperOf
    refine wpAny_bind (wpAny_load ho ?_)
    rw [hd]
    refine wpAny_pure ?_
    rw [List.length_nil, Nat.mul_zero, Nat.add_zero, if_neg hlen]
    refine tail ?_
    intro Γ p hΓ hC
    have := hc Γ p hΓ hC
    unfold callMarked
    rw [Sem.wp_keep]
    exact this
end
end Mine
end

section
open PySem PySem.W PySem.Calls PyProof.Rows in
theorem Mine.resetRe {M : Model} {A : Around} {E : Value → Shared → Prop} {s : Shared} {Q : Bool → Shared → Prop} {v : Value} (h : wpAny M A (truthy v) Q E s) : wpAny M A (truthy v) Q E s := by
  w_top off
  k_with_none
  first | (walk1; fail) | exact h
open PySem PySem.W PySem.Calls PyProof.Rows
namespace Mine
open Builtin.Re

theorem slot_re : Slot "re.Pattern" "search" "re.Pattern.search" :=
  .of (owner := "re.Pattern") (n := "search") (by rw [typeLookup_type, builtinLookup_eq_fast]; kernel_rfl) (by decide +kernel) (by decide +kernel) (by decide +kernel)
    (by first | exact .inl (by decide +kernel) | exact .inr (by decide +kernel)) (by rw [isSubtype_type]; kernel_rfl)
theorem type_re : typeOf (.builtin "re.Pattern.search") = pure (.type "method_descriptor") := by show builtinType _ = _; rw [builtinType_eq_fast]; kernel_rfl
theorem entry_re : entryFor table "re.Pattern.search" = some Builtin.«re.Pattern.search» := entryFor_of_tree (by kernel_rfl)
theorem args_re (a b : Value) : argsOk "re.Pattern.search" ⟨[a, b], []⟩ := by
  unfold argsOk
  first
  | kernel_rfl
  | (show (match Manifest.signature? "re.Pattern.search" with | some sig => Bind.checkArgs _ sig _ | none => pure ()) = pure ()
     rw [show Manifest.signature? "re.Pattern.search" = _ from by kernel_rfl])
theorem plain_re : PlainAttrs "re.Pattern" :=
  ⟨⟨"object.__getattribute__", by rw [typeLookup_type, builtinLookup_eq_fast]; kernel_rfl, by decide +kernel⟩, by rw [typeLookup_type, builtinLookup_eq_fast]; kernel_rfl⟩
end Mine
end

section
open PySem PySem.W PySem.Calls PyProof.Rows in
theorem Mine.resetRe2 {M : Model} {A : Around} {E : Value → Shared → Prop} {s : Shared} {Q : Bool → Shared → Prop} {v : Value} (h : wpAny M A (truthy v) Q E s) : wpAny M A (truthy v) Q E s := by
  w_top off
  k_with_none
  first | (walk1; fail) | exact h
open PySem PySem.W PySem.Calls PyProof.Rows
namespace Mine
open Builtin.Re Builtin
section
variable {prog : Program} {w : World} {A : Around} {E : Value → Shared → Prop} {s : Shared}
noncomputable def turns : Nat → Sre.M → Sre.M
  | 0, m => m
  | n + 1, m => let m' := m.runFor reTurnSteps; if m'.outcome.isSome then m' else turns n m'
theorem wp_drive {Q : Sre.M → Shared → Prop} : ∀ (n k : Nat) (m : Sre.M), (turns n m).outcome.isSome = true → Q (turns n m) s → wpAny (model prog w) A (reDrive (n + (k + 1)) m) Q E s
  | 0, k, m, h, q => by
    rw [Nat.zero_add]
    unfold reDrive
    have e : m.runFor reTurnSteps = m := by
      unfold reTurnSteps Sre.M.runFor
      exact if_pos h
    rw [e]
    have h' : m.outcome.isSome = true := h
    simp only [h', if_true]
    exact wpAny_pure q
  | n + 1, k, m, h, q => by
    rw [show n + 1 + (k + 1) = (n + (k + 1)) + 1 by (first | lia | omega)]
    unfold reDrive
    unfold turns at h q
    simp only [] at h q ⊢
    by_cases c : (m.runFor reTurnSteps).outcome.isSome = true
    · rw [if_pos c] at h q ⊢
      exact wpAny_pure q
    · rw [if_neg c] at h q ⊢
      exact wpAny_bind (wpAny_rule (wp_drive n k _ h q))
theorem wp_seen {m : Sre.M} {Q : PUnit → Shared → Prop} (h : Q PUnit.unit s) : ∀ l : List Nat, wpAny (model prog w) A (forIn l PUnit.unit fun i _ => if m.seen.has i = true then do rule (Sre.names.getD i ""); pure (ForInStep.yield PUnit.unit) else pure (ForInStep.yield PUnit.unit)) Q E s
  | [] => wpAny_pure h
  | a :: l => by
    rw [List.forIn_cons]
    refine wpAny_bind ?_
    by_cases c : m.seen.has a = true
    · rw [if_pos c]
      exact wpAny_bind (wpAny_rule (wpAny_pure (wp_seen h l)))
    · rw [if_neg c]
      exact wpAny_pure (wp_seen h l)
theorem wp_run {m : Sre.M} {Q : Option Sre.M → Shared → Prop} (n : Nat) (hn : n < 1000) (h : (match (turns n m).outcome with | some .failed => true | _ => false) = true) (q : Q none s) : wpAny (model prog w) A (reRunToEnd m) Q E s := by
  unfold reRunToEnd
  have e : (2 ^ 64 : Nat) = n + ((2 ^ 64 - n - 1) + 1) := by (first | lia | omega)
  rw [e]
  have h1 : (turns n m).outcome = some .failed := by
    split at h
    · assumption
    · cases h
  refine wpAny_bind (wp_drive n _ m (by rw [h1]; rfl) ?_)
  refine wpAny_bind (wp_seen ?_ _)
  rw [h1]
  exact wpAny_pure q
noncomputable def reCode : Array Nat := #[14, 8, 1, 2, 4294967295, 1, 1, 46, 0, 16, 46, 24, 9, 1, 4294967295, 13, 4, 8, 0, 0, 1, 6, 5, 1]
noncomputable def noIP (x : Str) : Bool := match (turns 40 (Sre.forSearch reCode x.cps 0 (min (Int.toNat 0) x.cps.size) (min (2 ^ 63 - 1 : Int).toNat x.cps.size) false)).outcome with | some .failed => true | _ => false
noncomputable def patObj : Obj := { cls := Value.type "re.Pattern", data := Data.fields #[Value.str (Str.ofString "\\.\\d+$") 285, Value.int 256 312, Value.int 0 0, Value.none, Value.none, Value.ref 35, Value.int 0 0] }
noncomputable def codObj : Obj := { cls := Value.type "tuple", data := Data.seq #[Value.int 14 0, Value.int 8 0, Value.int 1 0, Value.int 2 0, Value.int 4294967295 0, Value.int 1 0,
              Value.int 1 0, Value.int 46 0, Value.int 0 0, Value.int 16 0, Value.int 46 0, Value.int 24 0,
              Value.int 9 0, Value.int 1 0, Value.int 4294967295 0, Value.int 13 0, Value.int 4 0, Value.int 8 0,
              Value.int 0 0, Value.int 0 0, Value.int 1 0, Value.int 6 0, Value.int 5 0, Value.int 1 0] }
theorem search_none {x : Str} {t : Tok} {Q : Value → Shared → Prop} (h36 : s.heap.get? 36 = some patObj) (h35 : s.heap.get? 35 = some codObj) (hx : noIP x = true) (h : Q .none s) :
    wpAny (model prog w) A (call (.builtin "re.Pattern.search") [.ref 36, .str x t]) Q E s := by
  refine wpAny_call (codeAny_call_builtin slot_re.plain entry_re (slot_re.check _ _ _ _ _ _ _ _ ⟨_, h36, rfl⟩ (args_re _ _) ?_))
  unfold Builtin.«re.Pattern.search»
  refine wpAny_bind ?_
  unfold reTarget
  simp only []
  rw [show reNamed "re.Pattern.search" "search" ["string", "pos", "endpos"] 1 [Value.str x t] [] = pure [some (.str x t), none, none] from rfl]
  refine wpAny_bind (wpAny_pure ?_)
  simp only []
  refine wpAny_bind (wpAny_pure ?_)
  refine wpAny_bind (wpAny_pure ?_)
  refine wpAny_bind (wpAny_fieldsOf h36 rfl ?_)
  rw [show reTextOf (.str x t) = pure (x.cps, 0) from rfl]
  refine wpAny_bind (wpAny_pure ?_)
  simp only []
  rw [show (reRawNat (#[Value.str (Str.ofString "\\.\\d+$") 285, Value.int 256 312, Value.int 0 0, Value.none, Value.none, Value.ref 35, Value.int 0 0].getD 6 Value.none)) = 0 from rfl]
  simp only [Nat.reduceBEq, Bool.and_false, Bool.false_and, Bool.false_eq_true, if_false]
  rw [show reNoCollectionInside (.str x t) 0 = pure () from rfl]
  refine wpAny_bind (wpAny_pure ?_)
  show wpAny _ _ (do let c ← reRawItems (Value.ref 35); _) _ _ _
  unfold reRawItems
  refine wpAny_bind (wpAny_bind (wpAny_seqItems h35 rfl ?_))
  refine wpAny_pure ?_
  refine wpAny_pure ?_
  rw [show (Array.map (fun (x : Int) => x.toNat) (Array.map reRawOf ((some #[Value.int 14 0, Value.int 8 0, Value.int 1 0, Value.int 2 0, Value.int 4294967295 0, Value.int 1 0,
              Value.int 1 0, Value.int 46 0, Value.int 0 0, Value.int 16 0, Value.int 46 0, Value.int 24 0,
              Value.int 9 0, Value.int 1 0, Value.int 4294967295 0, Value.int 13 0, Value.int 4 0, Value.int 8 0,
              Value.int 0 0, Value.int 0 0, Value.int 1 0, Value.int 6 0, Value.int 5 0, Value.int 1 0]).getD #[]))) = reCode from by decide +kernel]
  unfold reAnswer
  refine wpAny_bind (wp_run 40 (by decide) ?_ ?_)
  · exact hx
  · simp only []
    exact wpAny_pure h
end
end Mine
end

section
open PySem PySem.W PySem.Calls PyProof.Rows in
theorem Mine.resetNoIP {M : Model} {A : Around} {E : Value → Shared → Prop} {s : Shared} {Q : Bool → Shared → Prop} {v : Value} (h : wpAny M A (truthy v) Q E s) : wpAny M A (truthy v) Q E s := by
  w_top off
  k_with_none
  first | (walk1; fail) | exact h
open PySem PySem.W PySem.Calls PyProof.Rows
namespace Mine
open Builtin.Re Builtin
/-- the pattern's machine ahead of its try at place s -/
noncomputable def stA (x : Array Nat) (s : Nat) (seen : Sre.Seen) (f : Bool) : Sre.M :=
  { code := reCode, text := x, lim := x.size, start := s, lastStart := x.size, pc := 9, pos := s, handed := s, outermost := f, marks := #[], frames := [{ wait := .nextStart, pc := 9, pos := s, outermost := f }], weight := 1, seen }
/-- the try at place s has failed -/
noncomputable def stN (x : Array Nat) (s : Nat) (seen : Sre.Seen) (f : Bool) (pc p : Nat) : Sre.M := { stA x s seen f with pc := pc, pos := p, answer := some false }
theorem st_end {x : Array Nat} {s : Nat} {seen : Sre.Seen} {f : Bool} (h : ¬ s < x.size) : (stA x s seen f).step = stN x s (seen.add 16) f 9 s := by
  show (if s ≥ x.size then _ else _ : Sre.M) = _
  rw [if_pos (by (first | lia | omega))]
  rfl
theorem st_lit {x : Array Nat} {s : Nat} {seen : Sre.Seen} {f : Bool} (h : s < x.size) (hc : (x.getD s 0 == 46) = false) : (stA x s seen f).step = stN x s (seen.add 16) f 9 s := by
  show (if s ≥ x.size then _ else (match Sre.accepts reCode 9 (x.getD s 0) (seen.add 16) with | .error why => _ | .ok (false, seen) => _ | .ok (true, seen) => _) : Sre.M) = _
  rw [if_neg (by (first | lia | omega)), show Sre.accepts reCode 9 (x.getD s 0) (seen.add 16) = .ok (x.getD s 0 == 46, seen.add 16) from rfl, hc]
  rfl
theorem st_dot {x : Array Nat} {s : Nat} {seen : Sre.Seen} {f : Bool} (h : s < x.size) (hc : (x.getD s 0 == 46) = true) : (stA x s seen f).step = { stA x s (seen.add 16) f with pc := 11, pos := s + 1 } := by
  show (if s ≥ x.size then _ else (match Sre.accepts reCode 9 (x.getD s 0) (seen.add 16) with | .error why => _ | .ok (false, seen) => _ | .ok (true, seen) => _) : Sre.M) = _
  rw [if_neg (by (first | lia | omega)), show Sre.accepts reCode 9 (x.getD s 0) (seen.add 16) = .ok (x.getD s 0 == 46, seen.add 16) from rfl, hc]
  rfl
theorem st_set {c : Nat} (s0 : Sre.Seen) (hc : Sre.isDigit c = false) : ∃ s2, Sre.accepts reCode 15 c s0 = .ok (false, s2) := by
  refine ⟨(((s0.add 8).add 55).add 0), ?_⟩
  show (do if ← Sre.category 0 c then pure (true, (s0.add 8).add 55) else Sre.inSet reCode c 23 19 true ((s0.add 8).add 55) : Except String (Bool × Sre.Seen)) = _
  rw [show Sre.category 0 c = .ok (Sre.isDigit c != false) from rfl, hc]
  rfl
theorem st_rep {x : Array Nat} {s : Nat} {seen : Sre.Seen} {f : Bool} (hc : Sre.isDigit (x.getD (s + 1) 0) = false) : ∃ seen', ({ stA x s seen f with pc := 11, pos := s + 1 } : Sre.M).step = stN x s seen' f 11 (s + 1) := by
  by_cases h : ((1 : Nat) : Int) > (x.size : Int) - ((s + 1 : Nat) : Int)
  · refine ⟨seen.add 24, ?_⟩
    show (if ((1 : Nat) : Int) > (x.size : Int) - ((s + 1 : Nat) : Int) then _ else _ : Sre.M) = _
    rw [if_pos h]
    rfl
  · obtain ⟨n, hn⟩ : ∃ n, min 4294967295 ((x.size : Int) - ((s + 1 : Nat) : Int)).toNat = n + 1 := by
      have h1 : 0 < ((x.size : Int) - ((s + 1 : Nat) : Int)).toNat := by (first | lia | omega)
      exact Nat.exists_eq_succ_of_ne_zero (Nat.ne_of_gt (Nat.lt_min.mpr ⟨by decide, h1⟩))
    obtain ⟨s2, e2⟩ := st_set ((seen.add 24).add 13) hc
    refine ⟨s2, ?_⟩
    show (if ((1 : Nat) : Int) > (x.size : Int) - ((s + 1 : Nat) : Int) then _ else (match Sre.run reCode x 15 (min 4294967295 ((x.size : Int) - ((s + 1 : Nat) : Int)).toNat) (s + 1) 0 ((seen.add 24).add 13) with | .error why => _ | .ok (n, seen) => _) : Sre.M) = _
    rw [if_neg h, hn]
    have e3 : Sre.run reCode x 15 (n + 1) (s + 1) 0 ((seen.add 24).add 13) = .ok (0, s2) := by
      show (do let (yes, seen) ← Sre.accepts reCode 15 (x.getD (s + 1) 0) ((seen.add 24).add 13); if yes then Sre.run reCode x 15 n (s + 1 + 1) (0 + 1) seen else pure (0, seen) : Except String (Nat × Sre.Seen)) = _
      rw [e2]
      rfl
    rw [e3]
    rfl
theorem st_back {x : Array Nat} {s : Nat} {seen : Sre.Seen} {f : Bool} {pc p : Nat} (h : s < x.size) : (stN x s seen f pc p).step = stA x (s + 1) seen false := by
  show (if s < x.size then _ else _ : Sre.M) = _
  rw [if_pos h]
  rfl
theorem st_out {x : Array Nat} {s : Nat} {seen : Sre.Seen} {f : Bool} {pc p : Nat} (h : ¬ s < x.size) : (stN x s seen f pc p).step.step.outcome = some .failed := by
  have e : (stN x s seen f pc p).step = { stN x s seen f pc p with pc := 9, pos := s, frames := [], weight := 0 } := by
    show (if s < x.size then _ else _ : Sre.M) = _
    rw [if_neg h]
    rfl
  rw [e]
  rfl
noncomputable def it : Nat → Sre.M → Sre.M
  | 0, m => m
  | n + 1, m => it n m.step
theorem it_add : ∀ (a b : Nat) (m : Sre.M), it (a + b) m = it b (it a m)
  | 0, b, m => by rw [Nat.zero_add]; rfl
  | a + 1, b, m => by rw [Nat.add_right_comm]; exact it_add a b m.step
theorem it_done : ∀ (n : Nat) {m : Sre.M}, m.outcome.isSome = true → it n m = m
  | 0, _, _ => rfl
  | n + 1, m, h => by
    have e : m.step = m := if_pos h
    show it n m.step = m
    rw [e]
    exact it_done n h
theorem run_it : ∀ (n : Nat) (m : Sre.M), m.runFor n = it n m
  | 0, _ => rfl
  | n + 1, m => by
    show (if m.outcome.isSome then m else Sre.M.runFor n m.step) = it (n + 1) m
    by_cases c : m.outcome.isSome = true
    · rw [if_pos c, it_done _ c]
    · rw [if_neg c]; exact run_it n m.step
theorem turns_it : ∀ (n : Nat) (m : Sre.M), turns n m = it (4 * n) m
  | 0, _ => rfl
  | n + 1, m => by
    show (if (m.runFor 4).outcome.isSome then m.runFor 4 else turns n (m.runFor 4)) = _
    rw [run_it, show 4 * (n + 1) = 4 + 4 * n by (first | lia | omega), it_add]
    by_cases c : (it 4 m).outcome.isSome = true
    · rw [if_pos c, it_done _ c]
    · rw [if_neg c]; exact turns_it n _
theorem st_run {x : Array Nat} (hx : ∀ i, Sre.isDigit (x.getD i 0) = false) : ∀ (d s : Nat) (seen : Sre.Seen) (f : Bool), s + d = x.size → ∃ k, k ≤ 3 * d + 3 ∧ (it k (stA x s seen f)).outcome = some .failed
  | 0, s, seen, f, h => ⟨3, Nat.le_refl _, by
    show ((stA x s seen f).step.step.step).outcome = _
    rw [st_end (by (first | lia | omega))]
    exact st_out (by (first | lia | omega))⟩
  | d + 1, s, seen, f, h => by
    cases hc : (x.getD s 0 == 46) with
    | false =>
      obtain ⟨k, h1, h2⟩ := st_run hx d (s + 1) (seen.add 16) false (by (first | lia | omega))
      refine ⟨2 + k, by (first | lia | omega), ?_⟩
      rw [it_add]
      show (it k (stA x s seen f).step.step).outcome = _
      rw [st_lit (by (first | lia | omega)) hc, st_back (by (first | lia | omega))]
      exact h2
    | true =>
      obtain ⟨s2, e⟩ := st_rep (seen := seen.add 16) (f := f) (hx (s + 1))
      obtain ⟨k, h1, h2⟩ := st_run hx d (s + 1) s2 false (by (first | lia | omega))
      refine ⟨3 + k, by (first | lia | omega), ?_⟩
      rw [it_add]
      show (it k (stA x s seen f).step.step.step).outcome = _
      rw [st_dot (by (first | lia | omega)) hc, e, st_back (by (first | lia | omega))]
      exact h2
theorem noIP_of {x : Str} (hx : ∀ c ∈ x.cps.toList, Sre.isDigit c = false) (h2 : 2 ≤ x.length) (h : x.length ≤ 52) : noIP x = true := by
  have hx' : ∀ i, Sre.isDigit (x.cps.getD i 0) = false := fun i => by
    by_cases c : i < x.cps.size
    · rw [show x.cps.getD i 0 = x.cps[i] from dif_pos c]
      exact hx _ (Array.getElem_mem_toList c)
    · rw [show x.cps.getD i 0 = 0 from dif_neg c]
      rfl
  have e : Sre.forSearch reCode x.cps 0 (min (Int.toNat 0) x.cps.size) (min (2 ^ 63 - 1 : Int).toNat x.cps.size) false = stA x.cps 0 (({} : Sre.Seen).add 14) true := by
    have hl : x.cps.size ≤ 52 := h
    have hl2 : 2 ≤ x.cps.size := h2
    have e1 : min (2 ^ 63 - 1 : Int).toNat x.cps.size = x.cps.size := by (first | lia | omega)
    have e2 : min (Int.toNat 0) x.cps.size = 0 := by (first | lia | omega)
    rw [e1, e2]
    show (if (decide (0 > x.cps.size) || decide (x.cps.size - 0 < 2)) = true then _ else _ : Sre.M) = _
    rw [if_neg (by simp; (first | lia | omega))]
    rfl
  obtain ⟨k, h1, h3⟩ := st_run hx' x.length 0 (({} : Sre.Seen).add 14) true (Nat.zero_add _)
  unfold noIP
  rw [e, turns_it, show 4 * 40 = k + (160 - k) by (first | lia | omega), it_add, it_done (160 - k) (by rw [h3]; rfl), h3]
end Mine
end

section
open PySem PySem.W PySem.Calls PyProof.Rows in
theorem Mine.resetHDN {M : Model} {A : Around} {E : Value → Shared → Prop} {s : Shared} {Q : Bool → Shared → Prop} {v : Value} (h : wpAny M A (truthy v) Q E s) : wpAny M A (truthy v) Q E s := by
  w_top off
  k_with_none
  first | (walk1; fail) | exact h
open PySem PySem.W PySem.Calls PyProof.Rows
namespace Mine
local macro_rules | `(tactic| walk_at $s:str) => `(tactic| k_extra $s)
abbrev PG : Program := PySem.Challenge.rw_zo0031_01.row.prog
theorem re_method {prog : Program} {w : World} {A : Around} {E : Value → Shared → Prop} {s : Shared} {h₀ : Heap} {L : Addr} {m : Str → Option Value} {pl : Sem Bool} {Q : Value × List Value → Shared → Prop}
   (F : Fr h₀ L s.heap m) (X : (hd.heap_39 w.params).In h₀) (h : Q (.builtin "re.Pattern.search", [.ref 36]) s) :
   wpAny (model prog w) A (getMethod (.ref 36) (Str.ofString "search") pl) Q E s :=
  have e : s.heap.get? 36 = some patObj := F.keep _ _ (X 36 patObj rfl)
  getMethod_builtin (T := "re.Pattern") ⟨_, e, rfl⟩ plain_re slot_re type_re (fun a q => by cases q; exact ⟨_, e, rfl⟩) h
theorem re_call {prog : Program} {w : World} {A : Around} {E : Value → Shared → Prop} {s : Shared} {h₀ : Heap} {L : Addr} {m : Str → Option Value} {x : Str} {t : Tok} {Q : Value → Shared → Prop}
   (F : Fr h₀ L s.heap m) (X : (hd.heap_39 w.params).In h₀) (hx : noIP x = true) (h : Q .none s) :
   wpAny (model prog w) A (call (.builtin "re.Pattern.search") [.ref 36, .str x t]) Q E s :=
  search_none (F.keep _ _ (X 36 patObj rfl)) (F.keep _ _ (X 35 codObj rfl)) hx h
structure HdnOk (x : Str) : Prop where
  ip : noIP x = true
  ne : (x == Str.ofString "") = false
  first : (Txt.item x 0 == Str.ofString ".") = false
  last : (Txt.item x (-1) == Str.ofString ".") = false
  len : 1 ≤ x.length
section
set_option maxHeartbeats 4000000 in
theorem is_HDN_call {w : World} {p : Program} {loose : List Str} {mean : ExcName → Option Value} {mg mb : Str → Option Value} {news : List (Addr × Obj)}
    {dp un : Nat} {gd : Option (List Code)} {cn : Str} {cs : Scope} {a : Addr} {ccd : Value} {cl : List (Str × Addr)} {outer : List Env} {A₀ : Around} {base h₀ : Heap} {L : Addr} {m : Str → Option Value} {s : Shared} {Q E : Value → Shared → Prop}
    {x : Str} {t : Tok}
    (B : Below A₀ base outer h₀) (F : Fr h₀ L s.heap m) (X : (hd.heap_39 w.params).In h₀) (N : News h₀ L s.heap news) (T : Top p loose mean mg mb h₀) (hk : cs.kind = .function)
    (hx : HdnOk x) (hd : dp + 1 < recursionLimit) (hu : un + 8 < cLine)
    (hret : ∀ (h' : Heap) (tk' : Nat), Fr h₀ L h' m → News h₀ L h' news → Q (.bool true) { s with heap := h', toks := tk' }) :
    wpAny (model PG w) (ktrTop dp un gd cn cs L a ccd cl outer) (call (.ref 43) [.str x t]) Q E s := by
  k_with_none
  (k_with "getMethod ref" => (k_here; k_dflt (refine' re_method ?k1 ?k2 ?_; (case k1 => k_asm); (case k2 => k_asm); k_whole)))
  (k_with "call builtin:re.Pattern.search" => (k_here; k_dflt (refine' re_call ?k1 ?k2 ?k3 ?_; (case k1 => k_asm); (case k2 => k_asm); (case k3 => assumption); k_whole)))
  obtain ⟨h1, h2, h3, h4, h5⟩ := hx
  refine wpAny_call ?_
  k_dflt cell_enter
  k_steps
  all_goals first | exact hret _ _ (by k_asm) (by k_asm) | (exfalso; simp_all; done)
end
end Mine
end

section
open PySem PySem.W PySem.Calls PyProof.Rows in
theorem Mine.resetDM {M : Model} {A : Around} {E : Value → Shared → Prop} {s : Shared} {Q : Bool → Shared → Prop} {v : Value} (h : wpAny M A (truthy v) Q E s) : wpAny M A (truthy v) Q E s := by
  w_top off
  k_with_none
  first | (walk1; fail) | exact h
open PySem PySem.W PySem.Calls PyProof.Rows
namespace Mine
local macro_rules | `(tactic| walk_at $s:str) => `(tactic| k_extra $s)
structure DmOk (x y : Str) : Prop where
  xl : x.length ≤ 100
  yl : y.length ≤ 100
  ne : (Txt.lower x == Txt.lower y) = false
  hx : HdnOk (Txt.lower x)
  hy : HdnOk (Txt.slice (Txt.lower y) (some 1) none)
  st : Txt.startswith (Txt.lower y) (Str.ofString ".") = true
noncomputable def dmv (x y : Str) : Bool := decide (Txt.rfind (Txt.lower x) (Txt.lower y) ≠ -1) && decide (Txt.rfind (Txt.lower x) (Txt.lower y) ≠ 0)
section
variable {w : World} {p : Program} {loose : List Str} {mean : ExcName → Option Value} {mg mb : Str → Option Value} {news : List (Addr × Obj)}
    {dp un : Nat} {gd : Option (List Code)} {cn : Str} {cs : Scope} {a : Addr} {ccd : Value} {cl : List (Str × Addr)} {outer : List Env} {A₀ : Around} {base h₀ : Heap} {L : Addr} {m : Str → Option Value} {s : Shared} {Q E : Value → Shared → Prop}


set_option maxHeartbeats 4000000 in
theorem domain_match_call {x y : Str} {t u : Tok}
    (B : Below A₀ base outer h₀) (F : Fr h₀ L s.heap m) (X : (hd.heap_39 w.params).In h₀) (N : News h₀ L s.heap news) (T : Top p loose mean mg mb h₀) (hk : cs.kind = .function)
    (hm : DmOk x y) (hd : dp + 2 < recursionLimit) (hu : un + 16 < cLine)
    (hret : ∀ (h' : Heap) (tk' : Nat), Fr h₀ L h' m → News h₀ L h' news → Q (.bool (dmv x y)) { s with heap := h', toks := tk' }) :
    wpAny (model PG w) (ktrTop dp un gd cn cs L a ccd cl outer) (call (.ref 50) [.str x t, .str y u]) Q E s := by
  k_with_none
  (k_with "call ref" => (k_here; k_dflt (refine' is_HDN_call ?k1 ?k2 ?k3 ?k4 ?k5 ?kK ?p0 ?kd ?ku ?_; (case k1 => k_asm); (case k2 => k_asm); (case k3 => k_asm); (case k4 => k_asm); (case k5 => k_asm); (case kK => first | exact rfl | assumption); (case p0 => assumption); (case kd => ktr_room); (case ku => ktr_units)); intro zzh9 zztk9 zzF9 zzN9; (try dsimp only); (try k_fold)))

  obtain ⟨h1, h2, h3, h4, h5, h6⟩ := hm
  have ef : (Txt.rfind (Txt.lower x) (Txt.lower y) = -1 ∨ Txt.rfind (Txt.lower x) (Txt.lower y) = 0) → dmv x y = false := by
    intro h; unfold dmv; rcases h with h | h <;> simp [h]
  have et : Txt.rfind (Txt.lower x) (Txt.lower y) ≠ -1 → Txt.rfind (Txt.lower x) (Txt.lower y) ≠ 0 → dmv x y = true := by
    intro q r; unfold dmv; simp [q, r]
  refine wpAny_call ?_
  k_dflt cell_enter
  k_steps
  all_goals first
    | (rw [ef (by first | exact .inl (by assumption) | exact .inr (by assumption))] at hret; exact hret _ _ (by k_asm) (by k_asm))
    | (rw [et (by assumption) (by assumption)] at hret; exact hret _ _ (by k_asm) (by k_asm))
end
section
variable {w : World} {p : Program} {loose : List Str} {mean : ExcName → Option Value} {mg mb : Str → Option Value} {news : List (Addr × Obj)}
    {dp un : Nat} {gd : Option (List Code)} {cn : Str} {cs : Scope} {a : Addr} {ccd : Value} {cl : List (Str × Addr)} {outer : List Env} {A₀ : Around} {base h₀ : Heap} {L : Addr} {m : Str → Option Value} {s : Shared} {Q E : Value → Shared → Prop}


structure ReachOk (x b r : Str) : Prop where
  xl : x.length ≤ 100
  dot : 0 ≤ Txt.find x (Str.ofString ".")
  tail : Txt.slice x (some (Txt.find x (Str.ofString ".") + 1)) none = b
  hx : HdnOk x
  nx : 0 ≤ Txt.find b (Str.ofString ".") ∨ (Txt.find b (Str.ofString ".") < 0 ∧ (b == Str.ofString "local") = true)
  out : Str.ofString "." ++ b = r
set_option maxHeartbeats 4000000 in
theorem reach_call {x b r : Str} {t : Tok}
    (B : Below A₀ base outer h₀) (F : Fr h₀ L s.heap m) (X : (hd.heap_39 w.params).In h₀) (N : News h₀ L s.heap news) (T : Top p loose mean mg mb h₀) (hk : cs.kind = .function)
    (hm : ReachOk x b r) (hd : dp + 2 < recursionLimit) (hu : un + 16 < cLine)
    (hret : ∀ (t' : Tok) (h' : Heap) (tk' : Nat), Fr h₀ L h' m → News h₀ L h' news → Q (.str r t') { s with heap := h', toks := tk' }) :
    wpAny (model PG w) (ktrTop dp un gd cn cs L a ccd cl outer) (call (.ref 57) [.str x t]) Q E s := by
  k_with_none
  (k_with "call ref" => (k_here; k_dflt (refine' is_HDN_call ?k1 ?k2 ?k3 ?k4 ?k5 ?kK ?p0 ?kd ?ku ?_; (case k1 => k_asm); (case k2 => k_asm); (case k3 => k_asm); (case k4 => k_asm); (case k5 => k_asm); (case kK => first | exact rfl | assumption); (case p0 => assumption); (case kd => ktr_room); (case ku => ktr_units)); intro zzh9 zztk9 zzF9 zzN9; (try dsimp only); (try k_fold)))

  obtain ⟨h1, h2, h3, h4, h5, h6⟩ := hm
  subst h3
  refine wpAny_call ?_
  k_dflt cell_enter
  k_steps
  all_goals first
    | (rw [h6]; exact hret _ _ _ (by k_asm) (by k_asm))
    | (exfalso; rcases h5 with h5 | ⟨_, h5⟩ <;> simp_all; done)
end
end Mine
end

section
open PySem PySem.W PySem.Calls PyProof.Rows in
theorem Mine.resetBisP {M : Model} {A : Around} {E : Value → Shared → Prop} {s : Shared} {Q : Bool → Shared → Prop} {v : Value} (h : wpAny M A (truthy v) Q E s) : wpAny M A (truthy v) Q E s := by
  w_top off
  k_with_none
  first | (walk1; fail) | exact h
open PySem PySem.W PySem.Calls PyProof.Rows
namespace Mine
theorem mem_isList {h₀ h : Heap} {L a : Addr} {news : List (Addr × Obj)} {vs : List Value} {n : Nat} (N : News h₀ L h news) (hm : (a, listOf vs.toArray n) ∈ news) : h.IsList a vs.toArray := ⟨_, (N _ hm).1, rfl, n, rfl⟩
noncomputable def KeyOk (w : World) (news : List (Addr × Obj)) (kf : Addr) (f : Str → Tok → Value) (P : Str → Prop) (k u : Nat) : Prop :=
  ∀ {p : Program} {loose : List Str} {mean : ExcName → Option Value} {mg mb : Str → Option Value}
    {dp un : Nat} {gd : Option (List Code)} {cn : Str} {cs : Scope} {a : Addr} {ccd : Value} {cl : List (Str × Addr)} {outer : List Env} {A₀ : Around} {base h₀ : Heap} {L : Addr} {m : Str → Option Value} {s : Shared} {Q E : Value → Shared → Prop} {x : Str} {t : Tok},
    Below A₀ base outer h₀ → Fr h₀ L s.heap m → (hd.heap_39 w.params).In h₀ → News h₀ L s.heap news → Top p loose mean mg mb h₀ → cs.kind = .function → P x → dp + k < recursionLimit → un + u < cLine →
    (∀ (t' : Tok) (h' : Heap) (tk' : Nat), Fr h₀ L h' m → News h₀ L h' news → Q (f x t') { s with heap := h', toks := tk' }) →
    wpAny (model PG w) (ktrTop dp un gd cn cs L a ccd cl outer) (call (.ref kf) [.str x t]) Q E s
theorem KeyOk.use {w : World} {news : List (Addr × Obj)} {kf : Addr} {f : Str → Tok → Value} {P : Str → Prop} {k u : Nat} (H : KeyOk w news kf f P k u)
    {p : Program} {loose : List Str} {mean : ExcName → Option Value} {mg mb : Str → Option Value}
    {dp un : Nat} {gd : Option (List Code)} {cn : Str} {cs : Scope} {a : Addr} {ccd : Value} {cl : List (Str × Addr)} {outer : List Env} {A₀ : Around} {base h₀ : Heap} {L : Addr} {m : Str → Option Value} {s : Shared} {Q E : Value → Shared → Prop} {x : Str} {t : Tok}
    (B : Below A₀ base outer h₀) (F : Fr h₀ L s.heap m) (X : (hd.heap_39 w.params).In h₀) (N : News h₀ L s.heap news) (T : Top p loose mean mg mb h₀) (hk : cs.kind = .function) (hP : P x) (hd : dp + k < recursionLimit) (hu : un + u < cLine)
    (h : ∀ (t' : Tok) (h' : Heap) (tk' : Nat), Fr h₀ L h' m → News h₀ L h' news → Q (f x t') { s with heap := h', toks := tk' }) :
    wpAny (model PG w) (ktrTop dp un gd cn cs L a ccd cl outer) (call (.ref kf) [.str x t]) Q E s := H B F X N T hk hP hd hu h
/-- the halving search: the first place where the test turns false -/
noncomputable def bisL (f : Nat → Bool) : Nat → Nat → Nat → Nat
  | 0, lo, _ => lo
  | n + 1, lo, hi => if lo < hi then (if f ((lo + hi) / 2) then bisL f n ((lo + hi) / 2 + 1) hi else bisL f n lo ((lo + hi) / 2)) else lo
theorem half (lo hi : Nat) (h : lo < hi) : ∃ m, (lo + hi) / 2 = m ∧ lo ≤ m ∧ m < hi := ⟨_, rfl, by omega, by omega⟩
theorem bisL_fuel (f : Nat → Bool) : ∀ (n n' lo hi : Nat), hi - lo ≤ n → hi - lo ≤ n' → bisL f n lo hi = bisL f n' lo hi
  | 0, 0, _, _, _, _ => rfl
  | 0, n' + 1, lo, hi, h, _ => by simp only [bisL]; rw [if_neg (by omega)]
  | n + 1, 0, lo, hi, _, h => by simp only [bisL]; rw [if_neg (by omega)]
  | n + 1, n' + 1, lo, hi, h, h' => by
    simp only [bisL]
    by_cases c : lo < hi
    · obtain ⟨m, e, a, b⟩ := half lo hi c
      rw [if_pos c, if_pos c, e]
      clear e c
      rw [bisL_fuel f n n' (m + 1) hi (by omega) (by omega), bisL_fuel f n n' lo m (by omega) (by omega)]
    · rw [if_neg c, if_neg c]
theorem bisL_succ (f : Nat → Bool) (n lo hi : Nat) : bisL f (n + 1) lo hi = if lo < hi then (if f ((lo + hi) / 2) then bisL f n ((lo + hi) / 2 + 1) hi else bisL f n lo ((lo + hi) / 2)) else lo := rfl
theorem bisL_step (f : Nat → Bool) (lo hi : Nat) (h : lo < hi) (h1 : hi ≤ 100) : bisL f 100 lo hi = if f ((lo + hi) / 2) then bisL f 100 ((lo + hi) / 2 + 1) hi else bisL f 100 lo ((lo + hi) / 2) := by
  rw [show bisL f 100 lo hi = _ from bisL_succ f 99 lo hi]
  obtain ⟨m, e, a, b⟩ := half lo hi h
  rw [if_pos h, e]
  clear e h
  rw [bisL_fuel f 99 100 (m + 1) hi (by omega) (by omega), bisL_fuel f 99 100 lo m (by omega) (by omega)]
theorem bisL_end (f : Nat → Bool) (n lo hi : Nat) (h : ¬ lo < hi) : bisL f n lo hi = lo := by
  cases n with
  | zero => rfl
  | succ n => simp only [bisL]; rw [if_neg h]
/-- what holds of lo and hi -/
structure BP (f : Nat → Bool) (n : Nat) (lo hi : Int) : Prop where
  h0 : 0 ≤ lo
  h1 : lo ≤ hi
  h2 : hi ≤ (n : Int)
  h3 : (n : Int) ≤ 100
  h4 : bisL f 100 lo.toNat hi.toNat = bisL f 100 0 n
section
variable {f : Nat → Bool} {n : Nat} {lo hi : Int}
theorem fd2 {a : Int} (h : 0 ≤ a) : Int.fdiv a 2 = a / 2 := Int.fdiv_eq_ediv_of_nonneg a (by omega)
theorem BP.start (h : (n : Int) ≤ 100) : BP f n 0 (n : Int) := ⟨by omega, by omega, by omega, h, by simp⟩
/-- the middle, as a natural number -/
theorem BP.mid (H : BP f n lo hi) (h : lo < hi) : ∃ l k m : Nat, lo = l ∧ hi = k ∧ Int.fdiv (lo + hi) 2 = m ∧ (l + k) / 2 = m ∧ l ≤ m ∧ m < k ∧ k ≤ n ∧ n ≤ 100 := by
  obtain ⟨h0, h1, h2, h3, h4⟩ := H
  obtain ⟨l, rfl⟩ := Int.eq_ofNat_of_zero_le h0
  obtain ⟨k, rfl⟩ := Int.eq_ofNat_of_zero_le (Int.le_trans h0 h1)
  obtain ⟨m, e, a, b⟩ := half l k (Int.ofNat_lt.mp h)
  refine ⟨l, k, m, rfl, rfl, ?_, e, a, b, Int.ofNat_le.mp h2, Int.ofNat_le.mp h3⟩
  rw [fd2 (by omega), ← e]
  rfl
theorem BP.mid0 (H : BP f n lo hi) (h : lo < hi) : 0 ≤ Int.fdiv (lo + hi) 2 := by
  obtain ⟨l, k, m, _, _, e, _, _, _, _, _⟩ := H.mid h; rw [e]; exact Int.natCast_nonneg m
theorem BP.midk (H : BP f n lo hi) (h : lo < hi) : Int.fdiv (lo + hi) 2 < (n : Int) := by
  obtain ⟨l, k, m, _, _, e, _, _, b, c, _⟩ := H.mid h; rw [e]; exact Int.ofNat_lt.mpr (Nat.lt_of_lt_of_le b c)
theorem BP.fit (H : BP f n lo hi) (h : lo < hi) : Int.fdiv (lo + hi) 2 < 2 ^ 63 := by
  have := H.midk h; have := H.h3; omega
theorem BP.goL (H : BP f n lo hi) (h : lo < hi) (hf : f (Int.fdiv (lo + hi) 2).toNat = true) : BP f n (Int.fdiv (lo + hi) 2 + 1) hi := by
  obtain ⟨l, k, m, rfl, rfl, e, d, a, b, c, c'⟩ := H.mid h
  obtain ⟨h0, h1, h2, h3, h4⟩ := H
  rw [e] at hf ⊢
  clear e
  refine ⟨by omega, by omega, h2, h3, ?_⟩
  rw [← h4]
  show bisL f 100 (m + 1) k = bisL f 100 l k
  rw [bisL_step f l k (by omega) (by omega), d, if_pos (show f m = true from hf)]
theorem BP.goR (H : BP f n lo hi) (h : lo < hi) (hf : f (Int.fdiv (lo + hi) 2).toNat = false) : BP f n lo (Int.fdiv (lo + hi) 2) := by
  obtain ⟨l, k, m, rfl, rfl, e, d, a, b, c, c'⟩ := H.mid h
  obtain ⟨h0, h1, h2, h3, h4⟩ := H
  rw [e] at hf ⊢
  clear e
  refine ⟨h0, by omega, by omega, h3, ?_⟩
  rw [← h4]
  show bisL f 100 l m = bisL f 100 l k
  rw [bisL_step f l k (by omega) (by omega), d, if_neg (by show ¬ f m = true; rw [show f m = false from hf]; decide)]
theorem BP.mL (H : BP f n lo hi) (h : lo < hi) : (hi - (Int.fdiv (lo + hi) 2 + 1)).toNat < (hi - lo).toNat := by
  obtain ⟨l, k, m, rfl, rfl, e, d, a, b, c, c'⟩ := H.mid h; rw [e]; clear e d c c' H h; omega
theorem BP.mR (H : BP f n lo hi) (h : lo < hi) : (Int.fdiv (lo + hi) 2 - lo).toNat < (hi - lo).toNat := by
  obtain ⟨l, k, m, rfl, rfl, e, d, a, b, c, c'⟩ := H.mid h; rw [e]; clear e d c c' H h; omega
theorem BP.inDom {P : Str → Prop} {xs : List Str} (H : BP f xs.length lo hi) (h : lo < hi) (hP : ∀ x ∈ xs, P x) : P (xs.getD (Int.fdiv (lo + hi) 2).toNat Str.empty) := by
  have h1 := H.mid0 h
  have h2 := H.midk h
  rw [List.getD_eq_getElem?_getD, List.getElem?_eq_getElem (by omega)]
  exact hP _ (List.getElem_mem _)
theorem BP.out (H : BP f n lo hi) (h : ¬ lo < hi) : lo = (bisL f 100 0 n : Nat) := by
  obtain ⟨h0, h1, h2, h3, h4⟩ := H
  rw [← h4, bisL_end f 100 _ _ (by omega)]
  omega
end
end Mine
end

section
open PySem PySem.W PySem.Calls PyProof.Rows in
theorem Mine.resetBis {M : Model} {A : Around} {E : Value → Shared → Prop} {s : Shared} {Q : Bool → Shared → Prop} {v : Value} (h : wpAny M A (truthy v) Q E s) : wpAny M A (truthy v) Q E s := by
  w_top off
  k_with_none
  first | (walk1; fail) | exact h
open PySem PySem.W PySem.Calls PyProof.Rows
namespace Mine
local macro_rules | `(tactic| walk_at $s:str) => `(tactic| k_extra $s)
section
variable {w : World} {p : Program} {loose : List Str} {mean : ExcName → Option Value} {mg mb : Str → Option Value} {news : List (Addr × Obj)}
    {dp un : Nat} {gd : Option (List Code)} {cn : Str} {cs : Scope} {a : Addr} {ccd : Value} {cl : List (Str × Addr)} {outer : List Env} {A₀ : Around} {base h₀ : Heap} {L : Addr} {m : Str → Option Value} {s : Shared} {Q E : Value → Shared → Prop}


set_option maxHeartbeats 4000000 in
theorem bisect_left_call {x : Str} {t : Tok} {row kf : Addr} {vs : List Value} {xs : List Str} {n : Nat} {f : Str → Str} {P : Str → Prop} {k u : Nat}
    (B : Below A₀ base outer h₀) (F : Fr h₀ L s.heap m) (X : (hd.heap_39 w.params).In h₀) (N : News h₀ L s.heap news) (T : Top p loose mean mg mb h₀) (hk : cs.kind = .function)
    (hr : (row, listOf vs.toArray n) ∈ news) (hv : StrsAre vs xs) {oc : Value} {od : Option Addr} {fd : FuncData} {sl : Array (Option Value)} (hfn : (kf, (⟨oc, od, .func fd, sl⟩ : Obj)) ∈ news) (hK : KeyOk w news kf (fun x t => .str (f x) t) P k u) (hP : ∀ x ∈ xs, P x) (hl : (xs.length : Int) ≤ 100) (hd : dp + (k + 1) < recursionLimit) (hu : un + (u + 8) < cLine)
    (hret : ∀ (t' : Tok) (h' : Heap) (tk' : Nat), Fr h₀ L h' m → News h₀ L h' news → Q (.int (bisL (fun i => decide ((f (xs.getD i Str.empty)).cps.toList < x.cps.toList)) 100 0 xs.length : Nat) t') { s with heap := h', toks := tk' }) :
    wpAny (model PG w) (ktrTop dp un gd cn cs L a ccd cl outer) (call (.ref 84) [.ref row, .str x t] [(Str.ofString "key", .ref kf)]) Q E s := by
  k_with_none
  (k_with "call builtin:len" => (k_here; (with_reducible show wpAny _ _ (call (Value.builtin "len") [Value.ref _]) _ _ _); k_dflt (refine' len_strsA (mem_isList ?N ?hm) ?hi ?hf ?_; (case N => k_asm); (case hm => assumption); (case hi => assumption); (case hf => (first | lia | omega)); k_whole)))
  (k_with "subscriptTail" => (k_here; (with_reducible show wpAny _ _ (subscriptTail _ _ (Value.ref _) (Value.int _ _)) _ _ _); k_dflt (refine' item_strsA (mem_isList ?N ?hm) ?hi ?h0 ?hk ?hfit ?_; (case N => k_asm); (case hm => assumption); (case hi => assumption); (case h0 => exact BP.mid0 (by assumption) (by assumption)); (case hk => exact BP.midk (by assumption) (by assumption)); (case hfit => exact BP.fit (by assumption) (by assumption)); k_whole); intro zzt9))
  (k_with "call ref" => (k_here; k_dflt (refine' KeyOk.use (by assumption) ?k1 ?k2 ?k3 ?k4 ?k5 ?kK ?kP ?kd ?ku ?_; (case k1 => k_asm); (case k2 => k_asm); (case k3 => k_asm); (case k4 => k_asm); (case k5 => k_asm); (case kK => first | exact rfl | assumption); (case kP => exact BP.inDom (by assumption) (by assumption) (by assumption)); (case kd => ktr_room); (case ku => ktr_units)); intro zzt9 zzh9 zztk9 zzF9 zzN9; (try dsimp only); (try k_fold)))
  (k_with "callWith ref" => (k_here; k_dflt (refine' callWith_F ?k1 ?_; (case k1 => exact FnAt.of (by k_asm) (by assumption)); k_whole)))
  (k_with "And" => ((with_reducible show FnAt _ _ ∧ _); refine ⟨FnAt.of (by k_asm) (by assumption), ?_⟩; try dsimp only [List.nil_append, List.cons_append]))

  refine wpAny_call ?_
  k_dflt (refine' code_def ?k1 ?k2 ?k3 ?k4 ?k5 ?kA ?kF ?kK ?k6 ?k7 ?k8 ?k9 ?kB ?_ ?c2 ?c3 ?c4 ?c5; (case kA => exact rfl); (case kF => exact rfl); (case kK => assumption); (case k1 => k_asm); (case k2 => k_asm); (case k3 => k_asm); (case k4 => k_asm); (case k5 => k_asm); (case k6 => k_is); (case k7 => k_is); (case k8 => ktr_room); (case k9 => exact kp_binds (by k_in) (fun _ => rfl)); (case c5 => decide); (case kB => exact locs rfl); (case c2 => exact rfl); (case c3 => exact rfl); (case c4 => exact rfl); k_whole; intro g' L' h' FG' F' N' B' X' T'; (try dsimp only); (try k_lift B'); (try k_fold))
  (k_with "exec While Compare cons nil" => k_while (fun _ lo hi => BP (fun i => decide ((f (xs.getD i Str.empty)).cps.toList < x.cps.toList)) xs.length lo hi) (fun _ lo hi => (hi - lo).toNat) "lo" "hi")
  (k_with "state" => (first | exact BP.start (by assumption) | exact BP.goL (by assumption) (by assumption) (decide_eq_true (by assumption)) | exact BP.goR (by assumption) (by assumption) (decide_eq_false (by assumption))))
  (k_with "measure" => (first | exact BP.mL (by assumption) (by assumption) | exact BP.mR (by assumption) (by assumption)))
  k_steps
  all_goals (rename BP _ _ _ _ => hb; rename ¬ (_ : Int) < _ => hn; rw [hb.out hn]; exact hret _ _ _ (by k_asm) (by k_asm))
end
end Mine
end

section
open PySem PySem.W PySem.Calls PyProof.Rows in
theorem Mine.resetBisB {M : Model} {A : Around} {E : Value → Shared → Prop} {s : Shared} {Q : Bool → Shared → Prop} {v : Value} (h : wpAny M A (truthy v) Q E s) : wpAny M A (truthy v) Q E s := by
  w_top off
  k_with_none
  first | (walk1; fail) | exact h
open PySem PySem.W PySem.Calls PyProof.Rows
namespace Mine
local macro_rules | `(tactic| walk_at $s:str) => `(tactic| k_extra $s)
theorem b2i_lt {b : Bool} (h : b2i b < b2i true) : (!b) = true := by cases b; rfl; exact absurd h (by decide)
theorem b2i_nlt {b : Bool} (h : ¬ b2i b < b2i true) : (!b) = false := by cases b; exact absurd (by decide) h; rfl
section
variable {w : World} {p : Program} {loose : List Str} {mean : ExcName → Option Value} {mg mb : Str → Option Value} {news : List (Addr × Obj)}
    {dp un : Nat} {gd : Option (List Code)} {cn : Str} {cs : Scope} {a : Addr} {ccd : Value} {cl : List (Str × Addr)} {outer : List Env} {A₀ : Around} {base h₀ : Heap} {L : Addr} {m : Str → Option Value} {s : Shared} {Q E : Value → Shared → Prop}


set_option maxHeartbeats 4000000 in
theorem bisect_leftB_call {row kf : Addr} {vs : List Value} {xs : List Str} {n : Nat} {f : Str → Bool} {P : Str → Prop} {k u : Nat}
    (B : Below A₀ base outer h₀) (F : Fr h₀ L s.heap m) (X : (hd.heap_39 w.params).In h₀) (N : News h₀ L s.heap news) (T : Top p loose mean mg mb h₀) (hk : cs.kind = .function)
    (hr : (row, listOf vs.toArray n) ∈ news) (hv : StrsAre vs xs) {oc : Value} {od : Option Addr} {fd : FuncData} {sl : Array (Option Value)} (hfn : (kf, (⟨oc, od, .func fd, sl⟩ : Obj)) ∈ news) (hK : KeyOk w news kf (fun x _ => .bool (f x)) P k u) (hP : ∀ x ∈ xs, P x) (hl : (xs.length : Int) ≤ 100) (hd : dp + (k + 1) < recursionLimit) (hu : un + (u + 8) < cLine)
    (hret : ∀ (t' : Tok) (h' : Heap) (tk' : Nat), Fr h₀ L h' m → News h₀ L h' news → Q (.int (bisL (fun i => !f (xs.getD i Str.empty)) 100 0 xs.length : Nat) t') { s with heap := h', toks := tk' }) :
    wpAny (model PG w) (ktrTop dp un gd cn cs L a ccd cl outer) (call (.ref 84) [.ref row, .bool true] [(Str.ofString "key", .ref kf)]) Q E s := by
  k_with_none
  (k_with "call builtin:len" => (k_here; (with_reducible show wpAny _ _ (call (Value.builtin "len") [Value.ref _]) _ _ _); k_dflt (refine' len_strsA (mem_isList ?N ?hm) ?hi ?hf ?_; (case N => k_asm); (case hm => assumption); (case hi => assumption); (case hf => (first | lia | omega)); k_whole)))
  (k_with "subscriptTail" => (k_here; (with_reducible show wpAny _ _ (subscriptTail _ _ (Value.ref _) (Value.int _ _)) _ _ _); k_dflt (refine' item_strsA (mem_isList ?N ?hm) ?hi ?h0 ?hk ?hfit ?_; (case N => k_asm); (case hm => assumption); (case hi => assumption); (case h0 => exact BP.mid0 (by assumption) (by assumption)); (case hk => exact BP.midk (by assumption) (by assumption)); (case hfit => exact BP.fit (by assumption) (by assumption)); k_whole); intro zzt9))
  (k_with "call ref" => (k_here; k_dflt (refine' KeyOk.use (by assumption) ?k1 ?k2 ?k3 ?k4 ?k5 ?kK ?kP ?kd ?ku ?_; (case k1 => k_asm); (case k2 => k_asm); (case k3 => k_asm); (case k4 => k_asm); (case k5 => k_asm); (case kK => first | exact rfl | assumption); (case kP => exact BP.inDom (by assumption) (by assumption) (by assumption)); (case kd => ktr_room); (case ku => ktr_units)); intro zzt9 zzh9 zztk9 zzF9 zzN9; (try dsimp only); (try k_fold)))
  (k_with "callWith ref" => (k_here; k_dflt (refine' callWith_F ?k1 ?_; (case k1 => exact FnAt.of (by k_asm) (by assumption)); k_whole)))
  (k_with "And" => ((with_reducible show FnAt _ _ ∧ _); refine ⟨FnAt.of (by k_asm) (by assumption), ?_⟩; try dsimp only [List.nil_append, List.cons_append]))

  refine wpAny_call ?_
  k_dflt (refine' code_def ?k1 ?k2 ?k3 ?k4 ?k5 ?kA ?kF ?kK ?k6 ?k7 ?k8 ?k9 ?kB ?_ ?c2 ?c3 ?c4 ?c5; (case kA => exact rfl); (case kF => exact rfl); (case kK => assumption); (case k1 => k_asm); (case k2 => k_asm); (case k3 => k_asm); (case k4 => k_asm); (case k5 => k_asm); (case k6 => k_is); (case k7 => k_is); (case k8 => ktr_room); (case k9 => exact kp_binds (by k_in) (fun _ => rfl)); (case c5 => decide); (case kB => exact locs rfl); (case c2 => exact rfl); (case c3 => exact rfl); (case c4 => exact rfl); k_whole; intro g' L' h' FG' F' N' B' X' T'; (try dsimp only); (try k_lift B'); (try k_fold))
  (k_with "exec While Compare cons nil" => k_while (fun _ lo hi => BP (fun i => !f (xs.getD i Str.empty)) xs.length lo hi) (fun _ lo hi => (hi - lo).toNat) "lo" "hi")
  (k_with "state" => (first | exact BP.start (by assumption) | exact BP.goL (by assumption) (by assumption) (b2i_lt (by assumption)) | exact BP.goR (by assumption) (by assumption) (b2i_nlt (by assumption))))
  (k_with "measure" => (first | exact BP.mL (by assumption) (by assumption) | exact BP.mR (by assumption) (by assumption)))
  k_steps
  all_goals (rename BP _ _ _ _ => hb; rename ¬ (_ : Int) < _ => hn; rw [hb.out hn]; exact hret _ _ _ (by k_asm) (by k_asm))
end
end Mine
end

section
open PySem PySem.W PySem.Calls PyProof.Rows in
theorem Mine.resetBisR {M : Model} {A : Around} {E : Value → Shared → Prop} {s : Shared} {Q : Bool → Shared → Prop} {v : Value} (h : wpAny M A (truthy v) Q E s) : wpAny M A (truthy v) Q E s := by
  w_top off
  k_with_none
  first | (walk1; fail) | exact h
open PySem PySem.W PySem.Calls PyProof.Rows
namespace Mine
local macro_rules | `(tactic| walk_at $s:str) => `(tactic| k_extra $s)
section
variable {w : World} {p : Program} {loose : List Str} {mean : ExcName → Option Value} {mg mb : Str → Option Value} {news : List (Addr × Obj)}
    {dp un : Nat} {gd : Option (List Code)} {cn : Str} {cs : Scope} {a : Addr} {ccd : Value} {cl : List (Str × Addr)} {outer : List Env} {A₀ : Around} {base h₀ : Heap} {L : Addr} {m : Str → Option Value} {s : Shared} {Q E : Value → Shared → Prop}


set_option maxHeartbeats 4000000 in
theorem bisect_right_call {x : Str} {t : Tok} {row kf : Addr} {vs : List Value} {xs : List Str} {n : Nat} {f : Str → Str} {P : Str → Prop} {k u : Nat}
    (B : Below A₀ base outer h₀) (F : Fr h₀ L s.heap m) (X : (hd.heap_39 w.params).In h₀) (N : News h₀ L s.heap news) (T : Top p loose mean mg mb h₀) (hk : cs.kind = .function)
    (hr : (row, listOf vs.toArray n) ∈ news) (hv : StrsAre vs xs) {oc : Value} {od : Option Addr} {fd : FuncData} {sl : Array (Option Value)} (hfn : (kf, (⟨oc, od, .func fd, sl⟩ : Obj)) ∈ news) (hK : KeyOk w news kf (fun x t => .str (f x) t) P k u) (hP : ∀ x ∈ xs, P x) (hl : (xs.length : Int) ≤ 100) (hd : dp + (k + 1) < recursionLimit) (hu : un + (u + 8) < cLine)
    (hret : ∀ (t' : Tok) (h' : Heap) (tk' : Nat), Fr h₀ L h' m → News h₀ L h' news → Q (.int (bisL (fun i => !decide (x.cps.toList < (f (xs.getD i Str.empty)).cps.toList)) 100 0 xs.length : Nat) t') { s with heap := h', toks := tk' }) :
    wpAny (model PG w) (ktrTop dp un gd cn cs L a ccd cl outer) (call (.ref 75) [.ref row, .str x t] [(Str.ofString "key", .ref kf)]) Q E s := by
  k_with_none
  (k_with "call builtin:len" => (k_here; (with_reducible show wpAny _ _ (call (Value.builtin "len") [Value.ref _]) _ _ _); k_dflt (refine' len_strsA (mem_isList ?N ?hm) ?hi ?hf ?_; (case N => k_asm); (case hm => assumption); (case hi => assumption); (case hf => (first | lia | omega)); k_whole)))
  (k_with "subscriptTail" => (k_here; (with_reducible show wpAny _ _ (subscriptTail _ _ (Value.ref _) (Value.int _ _)) _ _ _); k_dflt (refine' item_strsA (mem_isList ?N ?hm) ?hi ?h0 ?hk ?hfit ?_; (case N => k_asm); (case hm => assumption); (case hi => assumption); (case h0 => exact BP.mid0 (by assumption) (by assumption)); (case hk => exact BP.midk (by assumption) (by assumption)); (case hfit => exact BP.fit (by assumption) (by assumption)); k_whole); intro zzt9))
  (k_with "call ref" => (k_here; k_dflt (refine' KeyOk.use (by assumption) ?k1 ?k2 ?k3 ?k4 ?k5 ?kK ?kP ?kd ?ku ?_; (case k1 => k_asm); (case k2 => k_asm); (case k3 => k_asm); (case k4 => k_asm); (case k5 => k_asm); (case kK => first | exact rfl | assumption); (case kP => exact BP.inDom (by assumption) (by assumption) (by assumption)); (case kd => ktr_room); (case ku => ktr_units)); intro zzt9 zzh9 zztk9 zzF9 zzN9; (try dsimp only); (try k_fold)))
  (k_with "callWith ref" => (k_here; k_dflt (refine' callWith_F ?k1 ?_; (case k1 => exact FnAt.of (by k_asm) (by assumption)); k_whole)))
  (k_with "And" => ((with_reducible show FnAt _ _ ∧ _); refine ⟨FnAt.of (by k_asm) (by assumption), ?_⟩; try dsimp only [List.nil_append, List.cons_append]))

  refine wpAny_call ?_
  k_dflt (refine' code_def ?k1 ?k2 ?k3 ?k4 ?k5 ?kA ?kF ?kK ?k6 ?k7 ?k8 ?k9 ?kB ?_ ?c2 ?c3 ?c4 ?c5; (case kA => exact rfl); (case kF => exact rfl); (case kK => assumption); (case k1 => k_asm); (case k2 => k_asm); (case k3 => k_asm); (case k4 => k_asm); (case k5 => k_asm); (case k6 => k_is); (case k7 => k_is); (case k8 => ktr_room); (case k9 => exact kp_binds (by k_in) (fun _ => rfl)); (case c5 => decide); (case kB => exact locs rfl); (case c2 => exact rfl); (case c3 => exact rfl); (case c4 => exact rfl); k_whole; intro g' L' h' FG' F' N' B' X' T'; (try dsimp only); (try k_lift B'); (try k_fold))
  (k_with "exec While Compare cons nil" => k_while (fun _ lo hi => BP (fun i => !decide (x.cps.toList < (f (xs.getD i Str.empty)).cps.toList)) xs.length lo hi) (fun _ lo hi => (hi - lo).toNat) "lo" "hi")
  (k_with "state" => (first | exact BP.start (by assumption) | exact BP.goL (by assumption) (by assumption) (by show (!_) = true; rw [decide_eq_false (by assumption)]; rfl) | exact BP.goR (by assumption) (by assumption) (by show (!_) = false; rw [decide_eq_true (by assumption)]; rfl)))
  (k_with "measure" => (first | exact BP.mL (by assumption) (by assumption) | exact BP.mR (by assumption) (by assumption)))
  k_steps
  all_goals (rename BP _ _ _ _ => hb; rename ¬ (_ : Int) < _ => hn; rw [hb.out hn]; exact hret _ _ _ (by k_asm) (by k_asm))
end
end Mine
end

section
open PySem PySem.W PySem.Calls PyProof.Rows in
theorem Mine.resetBisR4 {M : Model} {A : Around} {E : Value → Shared → Prop} {s : Shared} {Q : Bool → Shared → Prop} {v : Value} (h : wpAny M A (truthy v) Q E s) : wpAny M A (truthy v) Q E s := by
  w_top off
  k_with_none
  first | (walk1; fail) | exact h
open PySem PySem.W PySem.Calls PyProof.Rows
namespace Mine
local macro_rules | `(tactic| walk_at $s:str) => `(tactic| k_extra $s)
section
variable {w : World} {p : Program} {loose : List Str} {mean : ExcName → Option Value} {mg mb : Str → Option Value} {news : List (Addr × Obj)}
    {dp un : Nat} {gd : Option (List Code)} {cn : Str} {cs : Scope} {a : Addr} {ccd : Value} {cl : List (Str × Addr)} {outer : List Env} {A₀ : Around} {base h₀ : Heap} {L : Addr} {m : Str → Option Value} {s : Shared} {Q E : Value → Shared → Prop}


set_option maxHeartbeats 4000000 in
theorem bisect_right4_call {x : Str} {t t0 : Tok} {row kf : Addr} {vs : List Value} {xs : List Str} {n : Nat} {f : Str → Str} {P : Str → Prop} {k u : Nat}
    (B : Below A₀ base outer h₀) (F : Fr h₀ L s.heap m) (X : (hd.heap_39 w.params).In h₀) (N : News h₀ L s.heap news) (T : Top p loose mean mg mb h₀) (hk : cs.kind = .function)
    (hr : (row, listOf vs.toArray n) ∈ news) (hv : StrsAre vs xs) {oc : Value} {od : Option Addr} {fd : FuncData} {sl : Array (Option Value)} (hfn : (kf, (⟨oc, od, .func fd, sl⟩ : Obj)) ∈ news) (hK : KeyOk w news kf (fun x t => .str (f x) t) P k u) (hP : ∀ x ∈ xs, P x) (hl : (xs.length : Int) ≤ 100) (hd : dp + (k + 1) < recursionLimit) (hu : un + (u + 8) < cLine)
    (hret : ∀ (t' : Tok) (h' : Heap) (tk' : Nat), Fr h₀ L h' m → News h₀ L h' news → Q (.int (bisL (fun i => !decide (x.cps.toList < (f (xs.getD i Str.empty)).cps.toList)) 100 0 xs.length : Nat) t') { s with heap := h', toks := tk' }) :
    wpAny (model PG w) (ktrTop dp un gd cn cs L a ccd cl outer) (call (.ref 75) [.ref row, .str x t, .int 0 t0, .none] [(Str.ofString "key", .ref kf)]) Q E s := by
  k_with_none
  (k_with "call builtin:len" => (k_here; (with_reducible show wpAny _ _ (call (Value.builtin "len") [Value.ref _]) _ _ _); k_dflt (refine' len_strsA (mem_isList ?N ?hm) ?hi ?hf ?_; (case N => k_asm); (case hm => assumption); (case hi => assumption); (case hf => (first | lia | omega)); k_whole)))
  (k_with "subscriptTail" => (k_here; (with_reducible show wpAny _ _ (subscriptTail _ _ (Value.ref _) (Value.int _ _)) _ _ _); k_dflt (refine' item_strsA (mem_isList ?N ?hm) ?hi ?h0 ?hk ?hfit ?_; (case N => k_asm); (case hm => assumption); (case hi => assumption); (case h0 => exact BP.mid0 (by assumption) (by assumption)); (case hk => exact BP.midk (by assumption) (by assumption)); (case hfit => exact BP.fit (by assumption) (by assumption)); k_whole); intro zzt9))
  (k_with "call ref" => (k_here; k_dflt (refine' KeyOk.use (by assumption) ?k1 ?k2 ?k3 ?k4 ?k5 ?kK ?kP ?kd ?ku ?_; (case k1 => k_asm); (case k2 => k_asm); (case k3 => k_asm); (case k4 => k_asm); (case k5 => k_asm); (case kK => first | exact rfl | assumption); (case kP => exact BP.inDom (by assumption) (by assumption) (by assumption)); (case kd => ktr_room); (case ku => ktr_units)); intro zzt9 zzh9 zztk9 zzF9 zzN9; (try dsimp only); (try k_fold)))
  (k_with "callWith ref" => (k_here; k_dflt (refine' callWith_F ?k1 ?_; (case k1 => exact FnAt.of (by k_asm) (by assumption)); k_whole)))
  (k_with "And" => ((with_reducible show FnAt _ _ ∧ _); refine ⟨FnAt.of (by k_asm) (by assumption), ?_⟩; try dsimp only [List.nil_append, List.cons_append]))

  refine wpAny_call ?_
  k_dflt (refine' code_def ?k1 ?k2 ?k3 ?k4 ?k5 ?kA ?kF ?kK ?k6 ?k7 ?k8 ?k9 ?kB ?_ ?c2 ?c3 ?c4 ?c5; (case kA => exact rfl); (case kF => exact rfl); (case kK => assumption); (case k1 => k_asm); (case k2 => k_asm); (case k3 => k_asm); (case k4 => k_asm); (case k5 => k_asm); (case k6 => k_is); (case k7 => k_is); (case k8 => ktr_room); (case k9 => exact kp_binds (by k_in) (fun _ => rfl)); (case c5 => decide); (case kB => exact locs rfl); (case c2 => exact rfl); (case c3 => exact rfl); (case c4 => exact rfl); k_whole; intro g' L' h' FG' F' N' B' X' T'; (try dsimp only); (try k_lift B'); (try k_fold))
  (k_with "exec While Compare cons nil" => k_while (fun _ lo hi => BP (fun i => !decide (x.cps.toList < (f (xs.getD i Str.empty)).cps.toList)) xs.length lo hi) (fun _ lo hi => (hi - lo).toNat) "lo" "hi")
  (k_with "state" => (first | exact BP.start (by assumption) | exact BP.goL (by assumption) (by assumption) (by show (!_) = true; rw [decide_eq_false (by assumption)]; rfl) | exact BP.goR (by assumption) (by assumption) (by show (!_) = false; rw [decide_eq_true (by assumption)]; rfl)))
  (k_with "measure" => (first | exact BP.mL (by assumption) (by assumption) | exact BP.mR (by assumption) (by assumption)))
  k_steps
  all_goals (rename BP _ _ _ _ => hb; rename ¬ (_ : Int) < _ => hn; rw [hb.out hn]; exact hret _ _ _ (by k_asm) (by k_asm))
end
end Mine
end

section
open PySem PySem.W PySem.Calls PyProof.Rows in
theorem Mine.resetIns {M : Model} {A : Around} {E : Value → Shared → Prop} {s : Shared} {Q : Bool → Shared → Prop} {v : Value} (h : wpAny M A (truthy v) Q E s) : wpAny M A (truthy v) Q E s := by
  w_top off
  k_with_none
  first | (walk1; fail) | exact h
open PySem PySem.W PySem.Calls PyProof.Rows
namespace Mine
local macro_rules | `(tactic| walk_at $s:str) => `(tactic| k_extra $s)
theorem bisL_le (f : Nat → Bool) : ∀ (n lo hi : Nat), lo ≤ hi → bisL f n lo hi ≤ hi
  | 0, lo, hi, h => h
  | n + 1, lo, hi, h => by
    rw [bisL_succ]
    by_cases c : lo < hi
    · rw [if_pos c]
      by_cases q : f ((lo + hi) / 2) = true
      · rw [if_pos q]; exact bisL_le f n _ _ (by (first | lia | omega))
      · rw [if_neg q]; exact Nat.le_trans (bisL_le f n _ _ (by (first | lia | omega))) (by (first | lia | omega))
    · rw [if_neg c]; exact h
theorem fits_small {f : Nat → Bool} {n : Nat} (h : (n : Int) ≤ 100) : Builtin.List.listFitsIndex ((bisL f 100 0 n : Nat) : Int) = true := by
  have := bisL_le f 100 0 n (by (first | lia | omega))
  unfold Builtin.List.listFitsIndex
  simp only [Bool.and_eq_true, decide_eq_true_eq]
  (first | lia | omega)
theorem len_small {vs : List Value} {xs : List Str} (hv : StrsAre vs xs) (h : (xs.length : Int) ≤ 100) : vs.toArray.toList.length ≤ sizeLine := by
  have := hv.len_eq
  show vs.length ≤ _
  rw [sizeLine_eq]; (first | lia | omega)
section
variable {w : World} {p : Program} {loose : List Str} {mean : ExcName → Option Value} {mg mb : Str → Option Value} {news : List (Addr × Obj)}
    {dp un : Nat} {gd : Option (List Code)} {cn : Str} {cs : Scope} {a : Addr} {ccd : Value} {cl : List (Str × Addr)} {outer : List Env} {A₀ : Around} {base h₀ : Heap} {L : Addr} {m : Str → Option Value} {s : Shared} {Q E : Value → Shared → Prop}



set_option maxHeartbeats 4000000 in
theorem insort_right_call {x : Str} {t : Tok} {row kf : Addr} {vs : List Value} {xs : List Str} {n : Nat} {f : Str → Str} {P : Str → Prop} {k u : Nat} {oc : Value} {od : Option Addr} {fd : FuncData} {sl : Array (Option Value)} {news' : List (Addr × Obj)}
    (B : Below A₀ base outer h₀) (F : Fr h₀ L s.heap m) (X : (hd.heap_39 w.params).In h₀) (N : News h₀ L s.heap news) (T : Top p loose mean mg mb h₀) (hk : cs.kind = .function)
    (hr : (row, listOf vs.toArray n) ∈ news) (hv : StrsAre vs xs) (hfn : (kf, (⟨oc, od, .func fd, sl⟩ : Obj)) ∈ news) (hK : KeyOk w news kf (fun x t => .str (f x) t) P k u) (hP : ∀ x ∈ xs, P x) (hPx : P x) (hl : (xs.length : Int) ≤ 100) (hU : Upd row (listOf vs.toArray n) (listOf (kl_ins vs ((bisL (fun i => !decide ((f x).cps.toList < (f (xs.getD i Str.empty)).cps.toList)) 100 0 xs.length : Nat) : Int) (.str x t)).toArray (n + 1)) news news') (hd : dp + (k + 2) < recursionLimit) (hu : un + (u + 16) < cLine)
    (hret : ∀ (h' : Heap) (tk' : Nat), Fr h₀ L h' m → News h₀ L h' news' → Q .none { s with heap := h', toks := tk' }) :
    wpAny (model PG w) (ktrTop dp un gd cn cs L a ccd cl outer) (call (.ref 66) [.ref row, .str x t] [(Str.ofString "key", .ref kf)]) Q E s := by
  k_with_none
  (k_with "call ref" => (k_here; k_dflt (refine' KeyOk.use (by assumption) ?z1k1 ?z1k2 ?z1k3 ?z1k4 ?z1k5 ?z1kK ?z1kP ?z1kd ?z1ku ?_; (case z1k1 => k_asm); (case z1k2 => k_asm); (case z1k3 => k_asm); (case z1k4 => k_asm); (case z1k5 => k_asm); (case z1kK => first | exact rfl | assumption); (case z1kP => assumption); (case z1kd => ktr_room); (case z1ku => ktr_units)); intro zzt9 zzh9 zztk9 zzF9 zzN9; (try dsimp only); (try k_fold)))
  (k_with "callWith ref" => (k_here; k_dflt (refine' callWith_F ?k1 ?_; (case k1 => exact FnAt.of (by k_asm) (by assumption)); k_whole)))
  (k_with "And" => ((with_reducible show FnAt _ _ ∧ _); refine ⟨FnAt.of (by k_asm) (by assumption), ?_⟩; try dsimp only [List.nil_append, List.cons_append]))
  (k_with "call ref" => (k_here; k_dflt (refine' bisect_right4_call ?z2k1 ?z2k2 ?z2k3 ?z2k4 ?z2k5 ?z2kK ?z2p0 ?z2p1 ?z2p2 ?z2p3 ?z2p4 ?z2p5 ?z2kd ?z2ku ?_; (case z2k1 => k_asm); (case z2k2 => k_asm); (case z2k3 => k_asm); (case z2k4 => k_asm); (case z2k5 => k_asm); (case z2kK => first | exact rfl | assumption); (case z2p0 => assumption); (case z2p1 => assumption); (case z2p2 => assumption); (case z2p3 => assumption); (case z2p4 => assumption); (case z2p5 => assumption); (case z2kd => ktr_room); (case z2ku => ktr_units)); intro zzt9 zzh9 zztk9 zzF9 zzN9; (try dsimp only); (try k_fold)))
  (k_with "getMethod ref" => (k_here; (with_reducible show wpAny _ _ (getMethod (Value.ref _) (PySem.Str.ofString "insert") _) _ _ _); k_dflt (refine' kl_method ?z3N ?z3m PySem.F.slot_list_insert PySem.F.type_list_insert ?_; (case z3N => k_asm); (case z3m => assumption))))
  (k_with "call builtin:list.insert" => (k_here; (with_reducible show wpAny _ _ (call (Value.builtin _) [Value.ref _, Value.int _ _, _]) _ _ _); k_dflt (refine' kl_insert ?z4F ?z4N ?z4f ?z4e ?z4U ?z4z ?_; (case z4F => k_asm); (case z4N => k_asm); (case z4U => assumption); (case z4f => exact fits_small (by assumption)); (case z4e => rfl); (case z4z => exact len_small (by assumption) (by assumption))); intro zzh9 zzF9 zzN9))

  refine wpAny_call ?_
  k_dflt (refine' code_def ?k1 ?k2 ?k3 ?k4 ?k5 ?kA ?kF ?kK ?k6 ?k7 ?k8 ?k9 ?kB ?_ ?c2 ?c3 ?c4 ?c5; (case kA => exact rfl); (case kF => exact rfl); (case kK => assumption); (case k1 => k_asm); (case k2 => k_asm); (case k3 => k_asm); (case k4 => k_asm); (case k5 => k_asm); (case k6 => k_is); (case k7 => k_is); (case k8 => ktr_room); (case k9 => exact kp_binds (by k_in) (fun _ => rfl)); (case c5 => decide); (case kB => exact locs rfl); (case c2 => exact rfl); (case c3 => exact rfl); (case c4 => exact rfl); k_whole; intro g' L' h' FG' F' N' B' X' T'; (try dsimp only); (try k_lift B'); (try k_fold))
  k_steps
  all_goals first | exact hret _ _ (by k_asm) (by k_asm) | skip
end
end Mine
end

section
open PySem PySem.W PySem.Calls PyProof.Rows in
theorem Mine.resetUtil {M : Model} {A : Around} {E : Value → Shared → Prop} {s : Shared} {Q : Bool → Shared → Prop} {v : Value} (h : wpAny M A (truthy v) Q E s) : wpAny M A (truthy v) Q E s := by
  w_top off
  k_with_none
  first | (walk1; fail) | exact h
open PySem PySem.W PySem.Calls PyProof.Rows
namespace Mine
theorem mem_isListA {h₀ h : Heap} {L a : Addr} {news : List (Addr × Obj)} {vs : Array Value} {n : Nat} (N : News h₀ L h news) (hm : (a, listOf vs n) ∈ news) : h.IsList a vs := ⟨_, (N _ hm).1, rfl, n, rfl⟩
theorem allLt_mem {d : Addr} {l : List (Addr × Obj)} (h : AllLt d l) : ∀ p ∈ l, p.1 < d := by
  induction l with
  | nil => intro p hp; cases hp
  | cons x l ih =>
    intro p hp
    rcases List.mem_cons.mp hp with rfl | hp
    · exact h.1
    · exact ih h.2 p hp
theorem upd_know {m : Str → Option Value} {k : Str} {v : Value} (h : m k = some v) : m = fun y => if y = k then some v else m y := by
  funext y
  by_cases e : y = k
  · subst e; rw [if_pos rfl, h]
  · rw [if_neg e]
theorem strs_values : ∀ l : List (Str × Tok), StrsAre (strValues l) (l.map (·.1))
  | [] => .nil
  | (x, t) :: l => .cons x t (strs_values l)
end Mine
end

section
open PySem PySem.W PySem.Calls PyProof.Rows in
theorem Mine.resetLinks {M : Model} {A : Around} {E : Value → Shared → Prop} {s : Shared} {Q : Bool → Shared → Prop} {v : Value} (h : wpAny M A (truthy v) Q E s) : wpAny M A (truthy v) Q E s := by
  w_top off
  k_with_none
  first | (walk1; fail) | exact h
open PySem PySem.W PySem.Calls PyProof.Rows
namespace Mine
local macro_rules | `(tactic| walk_at $s:str) => `(tactic| k_extra $s)
theorem dictItem {w : World} {A : Around} {E : Value → Shared → Prop} {s : Shared} {h₀ : Heap} {L d : Addr} {o : Obj} {news : List (Addr × Obj)} {kvs : List (Str × Value)} {x : Str} {t : Tok} {v : Value} {value slice : Expr} {Q : Value → Shared → Prop}
    (N : News h₀ L s.heap news) (hm : (d, o) ∈ news) (ho : o.IsDictOf (strKind PG w) kvs) (hv : valueAt kvs x = some v) (h : Q v { s with toks := s.toks + 1 })
    (hs : subscripted slice false (.ref d) (.str x t) = operate [.ref d, .str x t] (getItem (.ref d) (.str x t)) := by with_unfolding_all rfl) :
    wpAny (model PG w) A (subscriptTail value slice (.ref d) (.str x t)) Q E s :=
  have hd : s.heap.DictOf (strKind PG w) d kvs := Heap.dictOf_iff.mpr ⟨o, (N _ hm).1, ho⟩
  tail_any hd.typeIs slot_dict_getitem.lookup (wpAny_getItem_of (strKind_is PG w x t) hd.mapOf hv h) hs
noncomputable def InU (g : Obj → List (Addr × Obj)) (p : Addr × Obj) : Prop := ∀ o', p ∈ g o'
theorem InU.get {g : Obj → List (Addr × Obj)} {p : Addr × Obj} {o' : Obj} (h : InU g p) : p ∈ g o' := h o'
theorem updF_mem {d : Addr} {o : Obj} {news : List (Addr × Obj)} {g : Obj → List (Addr × Obj)} {p : Addr × Obj} (U : UpdF d o news g) (hp : p ∈ news) (hne : p.1 ≠ d) : InU g p := by
  intro o'
  obtain ⟨pre, post, e1, e2, _, _⟩ := U.split
  rw [e2]
  rw [e1] at hp
  rcases List.mem_append.mp hp with hp | hp
  · exact List.mem_append_left _ hp
  · rcases List.mem_cons.mp hp with rfl | hp
    · exact absurd rfl hne
    · exact List.mem_append_right _ (.tail _ hp)
theorem news_ne {h₀ h : Heap} {L a b : Addr} {oa ob : Obj} {news : List (Addr × Obj)} (N : News h₀ L h news) (ha : (a, oa) ∈ news) (hb : (b, ob) ∈ news) (hc : oa.cls ≠ ob.cls) : a ≠ b := by
  rintro rfl
  have h1 := (N _ ha).1
  rw [(N _ hb).1] at h1
  cases h1
  exact hc rfl
theorem dictOf_cls {w : World} {o : Obj} {kvs : List (Str × Value)} (h : o.IsDictOf (strKind PG w) kvs) : o.cls = .type "dict" := h.choose_spec.choose_spec.1.1
noncomputable def lamQ : Str := Str.ofString "_law_links" ++ Str.ofString ".<locals>." ++ Str.ofString "<lambda>"
noncomputable def upV (other : Str) (xs1 : List Str) : Nat := bisL (fun i => !dmv (Str.ofString "X." ++ Txt.upper other) (xs1.getD i Str.empty)) 100 0 xs1.length
noncomputable def linksV (other : Str) (xs1 : List Str) (n2 : Nat) : Int := ((upV other xs1 : Nat) : Int) + n2 - (xs1.length - ((upV other xs1 : Nat) : Int))
section
variable {w : World} {p : Program} {loose : List Str} {mean : ExcName → Option Value} {mg mb : Str → Option Value} {news : List (Addr × Obj)}
    {dp un : Nat} {gd : Option (List Code)} {cn : Str} {cs : Scope} {a : Addr} {ccd : Value} {cl : List (Str × Addr)} {outer : List Env} {A₀ : Around} {base h₀ : Heap} {L : Addr} {m : Str → Option Value} {s : Shared} {Q E : Value → Shared → Prop}

theorem bisB_links  {other : Str} {row kf : Addr} {vs : List Value} {xs : List Str} {n : Nat}
    (B : Below A₀ base outer h₀) (F : Fr h₀ L s.heap m) (X : (hd.heap_39 w.params).In h₀) (N : News h₀ L s.heap news) (T : Top p loose mean mg mb h₀) (hk : cs.kind = .function)
    (hr : (row, listOf vs.toArray n) ∈ news) (hv : StrsAre vs xs) {oc : Value} {od : Option Addr} {fd : FuncData} {sl : Array (Option Value)} (hfn : (kf, (⟨oc, od, .func fd, sl⟩ : Obj)) ∈ news) (hP : ∀ x ∈ xs, DmOk (Str.ofString "X." ++ Txt.upper other) x) (hl : (xs.length : Int) ≤ 100) (hK : KeyOk w news kf (fun x _ => .bool (dmv (Str.ofString "X." ++ Txt.upper other) x)) (fun x => DmOk (Str.ofString "X." ++ Txt.upper other) x) 4 32) (hd : dp + 5 < recursionLimit) (hu : un + 40 < cLine)
    (hret : ∀ (t' : Tok) (h' : Heap) (tk' : Nat), Fr h₀ L h' m → News h₀ L h' news → Q (.int (bisL (fun i => !dmv (Str.ofString "X." ++ Txt.upper other) (xs.getD i Str.empty)) 100 0 xs.length : Nat) t') { s with heap := h', toks := tk' }) :
    wpAny (model PG w) (ktrTop dp un gd cn cs L a ccd cl outer) (call (.ref 84) [.ref row, .bool true] [(Str.ofString "key", .ref kf)]) Q E s :=
  bisect_leftB_call (f := fun x => dmv (Str.ofString "X." ++ Txt.upper other) x) (P := fun x => DmOk (Str.ofString "X." ++ Txt.upper other) x) (k := 4) (u := 32) B F X N T hk hr hv hfn hK hP hl hd hu hret



local macro_rules | `(tactic| k_updF) => `(tactic| assumption)


set_option maxHeartbeats 4000000 in
theorem law_links_call {lad D1 D2 : Addr} {o : Obj} {kvs : List (Str × Value)} {one other : Str} {t1 t2 : Tok} {vs1 vs2 : List Value} {n1 n2 : Nat} {xs1 xs2 : List Str}
    (B : Below A₀ base outer h₀) (F : Fr h₀ L s.heap m) (X : (hd.heap_39 w.params).In h₀) (N : News h₀ L s.heap news) (T : Top p loose mean mg mb h₀) (hk : cs.kind = .function)
    (C : CodeHd h₀ 130 126) (hT : (126, tabObj #[]) ∈ news) {gU : Obj → List (Addr × Obj)} (hU : UpdF 126 (tabObj #[]) news gU) (hlad : (lad, o) ∈ news) (ho : o.IsDictOf (strKind PG w) kvs) (hv1 : valueAt kvs one = some (.ref D1)) (hv2 : valueAt kvs other = some (.ref D2)) (hD1 : (D1, listOf vs1.toArray n1) ∈ news) (hD2 : (D2, listOf vs2.toArray n2) ∈ news) (hs1 : StrsAre vs1 xs1) (hs2 : StrsAre vs2 xs2) (hdm : ∀ x ∈ xs1, DmOk (Str.ofString "X." ++ Txt.upper other) x) (hl1 : (xs1.length : Int) ≤ 100) (hl2 : (xs2.length : Int) ≤ 100) (hol : other.length ≤ 50) (hd : dp + 8 < recursionLimit) (hu : un + 64 < cLine)
    (hret : ∀ (t' : Tok) (h' : Heap) (tk' : Nat) (c' : Addr) (oc : Obj) (vq : Array Value) (tq : Tok), Fr h₀ L h' m → News h₀ L h' ((c', oc) :: gU (tabObj (#[] ++ #[rawInt (134 : Nat), rawInt (38 : Nat), Value.ref c']))) → oc.data = .fields vq → vq[1]? = some (.str lamQ tq) → (∀ p ∈ news, p.1 < c') → Q (.int (linksV other xs1 xs2.length) t') { s with heap := h', toks := tk' }) :
    wpAny (model PG w) (ktrTop dp un gd cn cs L a ccd cl outer) (call (.ref 131) [.ref lad, .str one t1, .str other t2]) Q E s := by
  k_with_none
  (k_with "subscriptTail" => (k_here; (with_reducible show wpAny _ _ (subscriptTail _ _ (Value.ref _) (Value.str _ _)) _ _ _); k_dflt (refine' dictItem ?z1N ?z1hm ?z1ho ?z1hv ?_; (case z1N => k_asm); (case z1hm => (first | assumption | exact List.Mem.head _ | exact InU.get (by assumption) | exact List.Mem.tail _ (List.Mem.head _) | exact List.Mem.tail _ (by assumption) | exact List.Mem.tail _ (InU.get (by assumption)) | exact List.Mem.tail _ (List.Mem.tail _ (List.Mem.head _)) | exact List.Mem.tail _ (List.Mem.tail _ (by assumption)) | exact List.Mem.tail _ (List.Mem.tail _ (InU.get (by assumption))) | exact List.Mem.tail _ (List.Mem.tail _ (List.Mem.tail _ (List.Mem.head _))) | exact List.Mem.tail _ (List.Mem.tail _ (List.Mem.tail _ (by assumption))) | exact List.Mem.tail _ (List.Mem.tail _ (List.Mem.tail _ (InU.get (by assumption)))) | exact List.Mem.tail _ (List.Mem.tail _ (List.Mem.tail _ (List.Mem.tail _ (List.Mem.head _)))) | exact List.Mem.tail _ (List.Mem.tail _ (List.Mem.tail _ (List.Mem.tail _ (by assumption)))) | exact List.Mem.tail _ (List.Mem.tail _ (List.Mem.tail _ (List.Mem.tail _ (InU.get (by assumption))))) | exact List.Mem.tail _ (List.Mem.tail _ (List.Mem.tail _ (List.Mem.tail _ (List.Mem.tail _ (List.Mem.head _))))) | exact List.Mem.tail _ (List.Mem.tail _ (List.Mem.tail _ (List.Mem.tail _ (List.Mem.tail _ (by assumption))))) | exact List.Mem.tail _ (List.Mem.tail _ (List.Mem.tail _ (List.Mem.tail _ (List.Mem.tail _ (InU.get (by assumption)))))) | exact List.Mem.tail _ (List.Mem.tail _ (List.Mem.tail _ (List.Mem.tail _ (List.Mem.tail _ (List.Mem.tail _ (List.Mem.head _)))))) | exact List.Mem.tail _ (List.Mem.tail _ (List.Mem.tail _ (List.Mem.tail _ (List.Mem.tail _ (List.Mem.tail _ (by assumption)))))) | exact List.Mem.tail _ (List.Mem.tail _ (List.Mem.tail _ (List.Mem.tail _ (List.Mem.tail _ (List.Mem.tail _ (InU.get (by assumption))))))) | exact List.Mem.tail _ (List.Mem.tail _ (List.Mem.tail _ (List.Mem.tail _ (List.Mem.tail _ (List.Mem.tail _ (List.Mem.tail _ (List.Mem.head _))))))) | exact List.Mem.tail _ (List.Mem.tail _ (List.Mem.tail _ (List.Mem.tail _ (List.Mem.tail _ (List.Mem.tail _ (List.Mem.tail _ (by assumption))))))) | exact List.Mem.tail _ (List.Mem.tail _ (List.Mem.tail _ (List.Mem.tail _ (List.Mem.tail _ (List.Mem.tail _ (List.Mem.tail _ (InU.get (by assumption)))))))) | exact List.Mem.tail _ (List.Mem.tail _ (List.Mem.tail _ (List.Mem.tail _ (List.Mem.tail _ (List.Mem.tail _ (List.Mem.tail _ (List.Mem.tail _ (List.Mem.head _)))))))) | exact List.Mem.tail _ (List.Mem.tail _ (List.Mem.tail _ (List.Mem.tail _ (List.Mem.tail _ (List.Mem.tail _ (List.Mem.tail _ (List.Mem.tail _ (by assumption)))))))) | exact List.Mem.tail _ (List.Mem.tail _ (List.Mem.tail _ (List.Mem.tail _ (List.Mem.tail _ (List.Mem.tail _ (List.Mem.tail _ (List.Mem.tail _ (InU.get (by assumption))))))))))); (case z1ho => assumption); (case z1hv => assumption); k_whole)))
  (k_with "call builtin:len" => (k_here; (with_reducible show wpAny _ _ (call (Value.builtin "len") [Value.ref _]) _ _ _); k_dflt (refine' len_strsA (mem_isList ?z2N ?z2hm) ?z2hi ?z2hf ?_; (case z2N => k_asm); (case z2hm => (first | assumption | exact List.Mem.head _ | exact InU.get (by assumption) | exact List.Mem.tail _ (List.Mem.head _) | exact List.Mem.tail _ (by assumption) | exact List.Mem.tail _ (InU.get (by assumption)) | exact List.Mem.tail _ (List.Mem.tail _ (List.Mem.head _)) | exact List.Mem.tail _ (List.Mem.tail _ (by assumption)) | exact List.Mem.tail _ (List.Mem.tail _ (InU.get (by assumption))) | exact List.Mem.tail _ (List.Mem.tail _ (List.Mem.tail _ (List.Mem.head _))) | exact List.Mem.tail _ (List.Mem.tail _ (List.Mem.tail _ (by assumption))) | exact List.Mem.tail _ (List.Mem.tail _ (List.Mem.tail _ (InU.get (by assumption)))) | exact List.Mem.tail _ (List.Mem.tail _ (List.Mem.tail _ (List.Mem.tail _ (List.Mem.head _)))) | exact List.Mem.tail _ (List.Mem.tail _ (List.Mem.tail _ (List.Mem.tail _ (by assumption)))) | exact List.Mem.tail _ (List.Mem.tail _ (List.Mem.tail _ (List.Mem.tail _ (InU.get (by assumption))))) | exact List.Mem.tail _ (List.Mem.tail _ (List.Mem.tail _ (List.Mem.tail _ (List.Mem.tail _ (List.Mem.head _))))) | exact List.Mem.tail _ (List.Mem.tail _ (List.Mem.tail _ (List.Mem.tail _ (List.Mem.tail _ (by assumption))))) | exact List.Mem.tail _ (List.Mem.tail _ (List.Mem.tail _ (List.Mem.tail _ (List.Mem.tail _ (InU.get (by assumption)))))) | exact List.Mem.tail _ (List.Mem.tail _ (List.Mem.tail _ (List.Mem.tail _ (List.Mem.tail _ (List.Mem.tail _ (List.Mem.head _)))))) | exact List.Mem.tail _ (List.Mem.tail _ (List.Mem.tail _ (List.Mem.tail _ (List.Mem.tail _ (List.Mem.tail _ (by assumption)))))) | exact List.Mem.tail _ (List.Mem.tail _ (List.Mem.tail _ (List.Mem.tail _ (List.Mem.tail _ (List.Mem.tail _ (InU.get (by assumption))))))) | exact List.Mem.tail _ (List.Mem.tail _ (List.Mem.tail _ (List.Mem.tail _ (List.Mem.tail _ (List.Mem.tail _ (List.Mem.tail _ (List.Mem.head _))))))) | exact List.Mem.tail _ (List.Mem.tail _ (List.Mem.tail _ (List.Mem.tail _ (List.Mem.tail _ (List.Mem.tail _ (List.Mem.tail _ (by assumption))))))) | exact List.Mem.tail _ (List.Mem.tail _ (List.Mem.tail _ (List.Mem.tail _ (List.Mem.tail _ (List.Mem.tail _ (List.Mem.tail _ (InU.get (by assumption)))))))) | exact List.Mem.tail _ (List.Mem.tail _ (List.Mem.tail _ (List.Mem.tail _ (List.Mem.tail _ (List.Mem.tail _ (List.Mem.tail _ (List.Mem.tail _ (List.Mem.head _)))))))) | exact List.Mem.tail _ (List.Mem.tail _ (List.Mem.tail _ (List.Mem.tail _ (List.Mem.tail _ (List.Mem.tail _ (List.Mem.tail _ (List.Mem.tail _ (by assumption)))))))) | exact List.Mem.tail _ (List.Mem.tail _ (List.Mem.tail _ (List.Mem.tail _ (List.Mem.tail _ (List.Mem.tail _ (List.Mem.tail _ (List.Mem.tail _ (InU.get (by assumption))))))))))); (case z2hi => assumption); (case z2hf => (first | lia | omega)); k_whole)))
  (k_with "call ref" => (k_here; k_dflt (refine' domain_match_call ?z3k1 ?z3k2 ?z3k3 ?z3k4 ?z3k5 ?z3kK ?z3p0 ?z3kd ?z3ku ?_; (case z3k1 => k_asm); (case z3k2 => k_asm); (case z3k3 => k_asm); (case z3k4 => k_asm); (case z3k5 => k_asm); (case z3kK => first | exact rfl | assumption); (case z3p0 => assumption); (case z3kd => ktr_room); (case z3ku => ktr_units)); intro zzh9 zztk9 zzF9 zzN9; (try dsimp only); (try k_fold)))
  (k_with "call ref" => (k_here; k_dflt (refine' bisB_links ?z4k1 ?z4k2 ?z4k3 ?z4k4 ?z4k5 ?z4kK ?z4p0 ?z4p1 ?z4p2 ?z4p3 ?z4p4 ?z4p5 ?z4kd ?z4ku ?_; (case z4k1 => k_asm); (case z4k2 => k_asm); (case z4k3 => k_asm); (case z4k4 => k_asm); (case z4k5 => k_asm); (case z4kK => first | exact rfl | assumption); (case z4p0 => (first | assumption | exact List.Mem.head _ | exact InU.get (by assumption) | exact List.Mem.tail _ (List.Mem.head _) | exact List.Mem.tail _ (by assumption) | exact List.Mem.tail _ (InU.get (by assumption)) | exact List.Mem.tail _ (List.Mem.tail _ (List.Mem.head _)) | exact List.Mem.tail _ (List.Mem.tail _ (by assumption)) | exact List.Mem.tail _ (List.Mem.tail _ (InU.get (by assumption))) | exact List.Mem.tail _ (List.Mem.tail _ (List.Mem.tail _ (List.Mem.head _))) | exact List.Mem.tail _ (List.Mem.tail _ (List.Mem.tail _ (by assumption))) | exact List.Mem.tail _ (List.Mem.tail _ (List.Mem.tail _ (InU.get (by assumption)))) | exact List.Mem.tail _ (List.Mem.tail _ (List.Mem.tail _ (List.Mem.tail _ (List.Mem.head _)))) | exact List.Mem.tail _ (List.Mem.tail _ (List.Mem.tail _ (List.Mem.tail _ (by assumption)))) | exact List.Mem.tail _ (List.Mem.tail _ (List.Mem.tail _ (List.Mem.tail _ (InU.get (by assumption))))) | exact List.Mem.tail _ (List.Mem.tail _ (List.Mem.tail _ (List.Mem.tail _ (List.Mem.tail _ (List.Mem.head _))))) | exact List.Mem.tail _ (List.Mem.tail _ (List.Mem.tail _ (List.Mem.tail _ (List.Mem.tail _ (by assumption))))) | exact List.Mem.tail _ (List.Mem.tail _ (List.Mem.tail _ (List.Mem.tail _ (List.Mem.tail _ (InU.get (by assumption)))))) | exact List.Mem.tail _ (List.Mem.tail _ (List.Mem.tail _ (List.Mem.tail _ (List.Mem.tail _ (List.Mem.tail _ (List.Mem.head _)))))) | exact List.Mem.tail _ (List.Mem.tail _ (List.Mem.tail _ (List.Mem.tail _ (List.Mem.tail _ (List.Mem.tail _ (by assumption)))))) | exact List.Mem.tail _ (List.Mem.tail _ (List.Mem.tail _ (List.Mem.tail _ (List.Mem.tail _ (List.Mem.tail _ (InU.get (by assumption))))))) | exact List.Mem.tail _ (List.Mem.tail _ (List.Mem.tail _ (List.Mem.tail _ (List.Mem.tail _ (List.Mem.tail _ (List.Mem.tail _ (List.Mem.head _))))))) | exact List.Mem.tail _ (List.Mem.tail _ (List.Mem.tail _ (List.Mem.tail _ (List.Mem.tail _ (List.Mem.tail _ (List.Mem.tail _ (by assumption))))))) | exact List.Mem.tail _ (List.Mem.tail _ (List.Mem.tail _ (List.Mem.tail _ (List.Mem.tail _ (List.Mem.tail _ (List.Mem.tail _ (InU.get (by assumption)))))))) | exact List.Mem.tail _ (List.Mem.tail _ (List.Mem.tail _ (List.Mem.tail _ (List.Mem.tail _ (List.Mem.tail _ (List.Mem.tail _ (List.Mem.tail _ (List.Mem.head _)))))))) | exact List.Mem.tail _ (List.Mem.tail _ (List.Mem.tail _ (List.Mem.tail _ (List.Mem.tail _ (List.Mem.tail _ (List.Mem.tail _ (List.Mem.tail _ (by assumption)))))))) | exact List.Mem.tail _ (List.Mem.tail _ (List.Mem.tail _ (List.Mem.tail _ (List.Mem.tail _ (List.Mem.tail _ (List.Mem.tail _ (List.Mem.tail _ (InU.get (by assumption))))))))))); (case z4p1 => assumption); (case z4p2 => (first | assumption | exact List.Mem.head _ | exact InU.get (by assumption) | exact List.Mem.tail _ (List.Mem.head _) | exact List.Mem.tail _ (by assumption) | exact List.Mem.tail _ (InU.get (by assumption)) | exact List.Mem.tail _ (List.Mem.tail _ (List.Mem.head _)) | exact List.Mem.tail _ (List.Mem.tail _ (by assumption)) | exact List.Mem.tail _ (List.Mem.tail _ (InU.get (by assumption))) | exact List.Mem.tail _ (List.Mem.tail _ (List.Mem.tail _ (List.Mem.head _))) | exact List.Mem.tail _ (List.Mem.tail _ (List.Mem.tail _ (by assumption))) | exact List.Mem.tail _ (List.Mem.tail _ (List.Mem.tail _ (InU.get (by assumption)))) | exact List.Mem.tail _ (List.Mem.tail _ (List.Mem.tail _ (List.Mem.tail _ (List.Mem.head _)))) | exact List.Mem.tail _ (List.Mem.tail _ (List.Mem.tail _ (List.Mem.tail _ (by assumption)))) | exact List.Mem.tail _ (List.Mem.tail _ (List.Mem.tail _ (List.Mem.tail _ (InU.get (by assumption))))) | exact List.Mem.tail _ (List.Mem.tail _ (List.Mem.tail _ (List.Mem.tail _ (List.Mem.tail _ (List.Mem.head _))))) | exact List.Mem.tail _ (List.Mem.tail _ (List.Mem.tail _ (List.Mem.tail _ (List.Mem.tail _ (by assumption))))) | exact List.Mem.tail _ (List.Mem.tail _ (List.Mem.tail _ (List.Mem.tail _ (List.Mem.tail _ (InU.get (by assumption)))))) | exact List.Mem.tail _ (List.Mem.tail _ (List.Mem.tail _ (List.Mem.tail _ (List.Mem.tail _ (List.Mem.tail _ (List.Mem.head _)))))) | exact List.Mem.tail _ (List.Mem.tail _ (List.Mem.tail _ (List.Mem.tail _ (List.Mem.tail _ (List.Mem.tail _ (by assumption)))))) | exact List.Mem.tail _ (List.Mem.tail _ (List.Mem.tail _ (List.Mem.tail _ (List.Mem.tail _ (List.Mem.tail _ (InU.get (by assumption))))))) | exact List.Mem.tail _ (List.Mem.tail _ (List.Mem.tail _ (List.Mem.tail _ (List.Mem.tail _ (List.Mem.tail _ (List.Mem.tail _ (List.Mem.head _))))))) | exact List.Mem.tail _ (List.Mem.tail _ (List.Mem.tail _ (List.Mem.tail _ (List.Mem.tail _ (List.Mem.tail _ (List.Mem.tail _ (by assumption))))))) | exact List.Mem.tail _ (List.Mem.tail _ (List.Mem.tail _ (List.Mem.tail _ (List.Mem.tail _ (List.Mem.tail _ (List.Mem.tail _ (InU.get (by assumption)))))))) | exact List.Mem.tail _ (List.Mem.tail _ (List.Mem.tail _ (List.Mem.tail _ (List.Mem.tail _ (List.Mem.tail _ (List.Mem.tail _ (List.Mem.tail _ (List.Mem.head _)))))))) | exact List.Mem.tail _ (List.Mem.tail _ (List.Mem.tail _ (List.Mem.tail _ (List.Mem.tail _ (List.Mem.tail _ (List.Mem.tail _ (List.Mem.tail _ (by assumption)))))))) | exact List.Mem.tail _ (List.Mem.tail _ (List.Mem.tail _ (List.Mem.tail _ (List.Mem.tail _ (List.Mem.tail _ (List.Mem.tail _ (List.Mem.tail _ (InU.get (by assumption))))))))))); (case z4p3 => assumption); (case z4p4 => (first | lia | omega)); (case z4p5 => (intro p9 loose9 mean9 mg9 mb9 dp9 un9 gd9 cn9 cs9 a9 ccd9 cl9 outer9 A9 base9 zzh9 L9 m9 zzs9 Q9 E9 zzx9 zzt9 B9 zzF9 X9 zzN9 T9 hk9 hP9 hd9 hu9 hret9; refine wpAny_call ?_; k_dflt (refine' kla_code ?z4q1 ?z4q2 ?z4q3 ?z4q4 ?z4q5 ?z4qA ?z4qF ?z4qK ?z4q6 ?z4q7 ?z4q8 ?z4q9 ?z4qB ?_ ?z4qc2 ?z4qc3 ?z4qc4 ?z4qc5; (case z4qA => exact rfl); (case z4qF => exact rfl); (case z4qK => first | exact rfl | assumption); (case z4q1 => k_asm); (case z4q2 => k_asm); (case z4q3 => k_asm); (case z4q4 => k_asm); (case z4q5 => k_asm); (case z4q6 => (first | assumption | exact List.Mem.head _ | exact InU.get (by assumption) | exact List.Mem.tail _ (List.Mem.head _) | exact List.Mem.tail _ (by assumption) | exact List.Mem.tail _ (InU.get (by assumption)) | exact List.Mem.tail _ (List.Mem.tail _ (List.Mem.head _)) | exact List.Mem.tail _ (List.Mem.tail _ (by assumption)) | exact List.Mem.tail _ (List.Mem.tail _ (InU.get (by assumption))) | exact List.Mem.tail _ (List.Mem.tail _ (List.Mem.tail _ (List.Mem.head _))) | exact List.Mem.tail _ (List.Mem.tail _ (List.Mem.tail _ (by assumption))) | exact List.Mem.tail _ (List.Mem.tail _ (List.Mem.tail _ (InU.get (by assumption)))) | exact List.Mem.tail _ (List.Mem.tail _ (List.Mem.tail _ (List.Mem.tail _ (List.Mem.head _)))) | exact List.Mem.tail _ (List.Mem.tail _ (List.Mem.tail _ (List.Mem.tail _ (by assumption)))) | exact List.Mem.tail _ (List.Mem.tail _ (List.Mem.tail _ (List.Mem.tail _ (InU.get (by assumption))))) | exact List.Mem.tail _ (List.Mem.tail _ (List.Mem.tail _ (List.Mem.tail _ (List.Mem.tail _ (List.Mem.head _))))) | exact List.Mem.tail _ (List.Mem.tail _ (List.Mem.tail _ (List.Mem.tail _ (List.Mem.tail _ (by assumption))))) | exact List.Mem.tail _ (List.Mem.tail _ (List.Mem.tail _ (List.Mem.tail _ (List.Mem.tail _ (InU.get (by assumption)))))) | exact List.Mem.tail _ (List.Mem.tail _ (List.Mem.tail _ (List.Mem.tail _ (List.Mem.tail _ (List.Mem.tail _ (List.Mem.head _)))))) | exact List.Mem.tail _ (List.Mem.tail _ (List.Mem.tail _ (List.Mem.tail _ (List.Mem.tail _ (List.Mem.tail _ (by assumption)))))) | exact List.Mem.tail _ (List.Mem.tail _ (List.Mem.tail _ (List.Mem.tail _ (List.Mem.tail _ (List.Mem.tail _ (InU.get (by assumption))))))) | exact List.Mem.tail _ (List.Mem.tail _ (List.Mem.tail _ (List.Mem.tail _ (List.Mem.tail _ (List.Mem.tail _ (List.Mem.tail _ (List.Mem.head _))))))) | exact List.Mem.tail _ (List.Mem.tail _ (List.Mem.tail _ (List.Mem.tail _ (List.Mem.tail _ (List.Mem.tail _ (List.Mem.tail _ (by assumption))))))) | exact List.Mem.tail _ (List.Mem.tail _ (List.Mem.tail _ (List.Mem.tail _ (List.Mem.tail _ (List.Mem.tail _ (List.Mem.tail _ (InU.get (by assumption)))))))) | exact List.Mem.tail _ (List.Mem.tail _ (List.Mem.tail _ (List.Mem.tail _ (List.Mem.tail _ (List.Mem.tail _ (List.Mem.tail _ (List.Mem.tail _ (List.Mem.head _)))))))) | exact List.Mem.tail _ (List.Mem.tail _ (List.Mem.tail _ (List.Mem.tail _ (List.Mem.tail _ (List.Mem.tail _ (List.Mem.tail _ (List.Mem.tail _ (by assumption)))))))) | exact List.Mem.tail _ (List.Mem.tail _ (List.Mem.tail _ (List.Mem.tail _ (List.Mem.tail _ (List.Mem.tail _ (List.Mem.tail _ (List.Mem.tail _ (InU.get (by assumption))))))))))); (case z4q7 => exact codeRec_news (by k_asm) (by (first | assumption | exact List.Mem.head _ | exact InU.get (by assumption) | exact List.Mem.tail _ (List.Mem.head _) | exact List.Mem.tail _ (by assumption) | exact List.Mem.tail _ (InU.get (by assumption)) | exact List.Mem.tail _ (List.Mem.tail _ (List.Mem.head _)) | exact List.Mem.tail _ (List.Mem.tail _ (by assumption)) | exact List.Mem.tail _ (List.Mem.tail _ (InU.get (by assumption))) | exact List.Mem.tail _ (List.Mem.tail _ (List.Mem.tail _ (List.Mem.head _))) | exact List.Mem.tail _ (List.Mem.tail _ (List.Mem.tail _ (by assumption))) | exact List.Mem.tail _ (List.Mem.tail _ (List.Mem.tail _ (InU.get (by assumption)))) | exact List.Mem.tail _ (List.Mem.tail _ (List.Mem.tail _ (List.Mem.tail _ (List.Mem.head _)))) | exact List.Mem.tail _ (List.Mem.tail _ (List.Mem.tail _ (List.Mem.tail _ (by assumption)))) | exact List.Mem.tail _ (List.Mem.tail _ (List.Mem.tail _ (List.Mem.tail _ (InU.get (by assumption))))) | exact List.Mem.tail _ (List.Mem.tail _ (List.Mem.tail _ (List.Mem.tail _ (List.Mem.tail _ (List.Mem.head _))))) | exact List.Mem.tail _ (List.Mem.tail _ (List.Mem.tail _ (List.Mem.tail _ (List.Mem.tail _ (by assumption))))) | exact List.Mem.tail _ (List.Mem.tail _ (List.Mem.tail _ (List.Mem.tail _ (List.Mem.tail _ (InU.get (by assumption)))))) | exact List.Mem.tail _ (List.Mem.tail _ (List.Mem.tail _ (List.Mem.tail _ (List.Mem.tail _ (List.Mem.tail _ (List.Mem.head _)))))) | exact List.Mem.tail _ (List.Mem.tail _ (List.Mem.tail _ (List.Mem.tail _ (List.Mem.tail _ (List.Mem.tail _ (by assumption)))))) | exact List.Mem.tail _ (List.Mem.tail _ (List.Mem.tail _ (List.Mem.tail _ (List.Mem.tail _ (List.Mem.tail _ (InU.get (by assumption))))))) | exact List.Mem.tail _ (List.Mem.tail _ (List.Mem.tail _ (List.Mem.tail _ (List.Mem.tail _ (List.Mem.tail _ (List.Mem.tail _ (List.Mem.head _))))))) | exact List.Mem.tail _ (List.Mem.tail _ (List.Mem.tail _ (List.Mem.tail _ (List.Mem.tail _ (List.Mem.tail _ (List.Mem.tail _ (by assumption))))))) | exact List.Mem.tail _ (List.Mem.tail _ (List.Mem.tail _ (List.Mem.tail _ (List.Mem.tail _ (List.Mem.tail _ (List.Mem.tail _ (InU.get (by assumption)))))))) | exact List.Mem.tail _ (List.Mem.tail _ (List.Mem.tail _ (List.Mem.tail _ (List.Mem.tail _ (List.Mem.tail _ (List.Mem.tail _ (List.Mem.tail _ (List.Mem.head _)))))))) | exact List.Mem.tail _ (List.Mem.tail _ (List.Mem.tail _ (List.Mem.tail _ (List.Mem.tail _ (List.Mem.tail _ (List.Mem.tail _ (List.Mem.tail _ (by assumption)))))))) | exact List.Mem.tail _ (List.Mem.tail _ (List.Mem.tail _ (List.Mem.tail _ (List.Mem.tail _ (List.Mem.tail _ (List.Mem.tail _ (List.Mem.tail _ (InU.get (by assumption))))))))))) (by assumption) (by assumption)); (case z4q8 => ktr_room); (case z4q9 => exact rfl); (case z4qc5 => decide); (case z4qB => exact locs rfl); (case z4qc2 => exact rfl); (case z4qc3 => exact rfl); (case z4qc4 => exact rfl); k_whole; intro g' L' zzhp FG' zzFp zzNp B' X' T'; (try dsimp only); (try k_lift B'); (try k_fold)); k_steps; all_goals exact hret9 0 _ _ (by k_asm) (by k_asm))); (case z4kd => ktr_room); (case z4ku => ktr_units)); intro zzt9 zzh9 zztk9 zzF9 zzN9; (try dsimp only); (try k_fold)))

  refine wpAny_call ?_
  k_dflt (refine' code_defC ?k1 ?k2 ?k3 ?k4 ?k5 ?kA ?kF ?kK ?k6 ?k7 ?k8 ?k9 ?kB ?kD ?_ ?c2 ?c3 ?c4; (case kA => exact rfl); (case kF => exact rfl); (case kK => assumption); (case k1 => k_asm); (case k2 => k_asm); (case k3 => k_asm); (case k4 => k_asm); (case k5 => k_asm); (case k6 => k_is); (case k7 => k_is); (case k8 => ktr_room); (case k9 => first | exact BindsTo.of_eq rfl | exact kp_binds (by k_in) (fun _ => rfl)); (case kB => exact rfl); (case kD => decide +kernel); (case c2 => exact rfl); (case c3 => exact rfl); (case c4 => exact rfl); k_whole; intro g' L' h' tk' cells' FG' F' N' Y' B' X' T' l1; (try k_lt l1); k_cells Y'; (try simp only [List.cons_append, List.nil_append] at N'); (try dsimp only); (try k_lift B'); (try k_fold))
  have q126 : @LT.lt Nat _ 126 L' := l1 _ hT
  have C9 := CodeHd.keeps C FG'.keep
  have i1 := updF_mem hU hD1 (news_ne N hD1 hT (by intro h; cases h))
  have i2 := updF_mem hU hD2 (news_ne N hD2 hT (by intro h; cases h))
  have i3 := updF_mem hU hlad (news_ne N hlad hT (by rw [dictOf_cls ho]; intro h; cases h))
  k_steps
  all_goals (rename (_ < _ ∧ AllLt _ _) => hlt9; rename News h₀ L _ _ => kN9; exact hret _ _ _ _ _ _ _ (by k_asm) (fun p hp => kN9 p (by first | (rcases List.mem_cons.mp hp with rfl | hp; exact .tail _ (.head _); exact .tail _ (.tail _ (.tail _ hp))))) (by assumption) (by assumption) (allLt_mem hlt9.2))


set_option maxHeartbeats 4000000 in
theorem law_links_next {lad D1 D2 : Addr} {o : Obj} {kvs : List (Str × Value)} {one other : Str} {t1 t2 : Tok} {vs1 vs2 : List Value} {n1 n2 : Nat} {xs1 xs2 : List Str}
    (B : Below A₀ base outer h₀) (F : Fr h₀ L s.heap m) (X : (hd.heap_39 w.params).In h₀) (N : News h₀ L s.heap news) (T : Top p loose mean mg mb h₀) (hk : cs.kind = .function)
    (C : CodeHd h₀ 130 126) {c' : Addr} {oc : Obj} {vq : Array Value} {tq : Tok} (hT : (126, tabObj (#[] ++ #[rawInt (134 : Nat), rawInt (38 : Nat), Value.ref c'])) ∈ news) (hc : (c', oc) ∈ news) (hoc : oc.data = .fields vq) (hvq : vq[1]? = some (.str lamQ tq)) (hlad : (lad, o) ∈ news) (ho : o.IsDictOf (strKind PG w) kvs) (hv1 : valueAt kvs one = some (.ref D1)) (hv2 : valueAt kvs other = some (.ref D2)) (hD1 : (D1, listOf vs1.toArray n1) ∈ news) (hD2 : (D2, listOf vs2.toArray n2) ∈ news) (hs1 : StrsAre vs1 xs1) (hs2 : StrsAre vs2 xs2) (hdm : ∀ x ∈ xs1, DmOk (Str.ofString "X." ++ Txt.upper other) x) (hl1 : (xs1.length : Int) ≤ 100) (hl2 : (xs2.length : Int) ≤ 100) (hol : other.length ≤ 50) (hd : dp + 8 < recursionLimit) (hu : un + 64 < cLine)
    (hret : ∀ (t' : Tok) (h' : Heap) (tk' : Nat), Fr h₀ L h' m → News h₀ L h' news → Q (.int (linksV other xs1 xs2.length) t') { s with heap := h', toks := tk' }) :
    wpAny (model PG w) (ktrTop dp un gd cn cs L a ccd cl outer) (call (.ref 131) [.ref lad, .str one t1, .str other t2]) Q E s := by
  k_with_none
  (k_with "subscriptTail" => (k_here; (with_reducible show wpAny _ _ (subscriptTail _ _ (Value.ref _) (Value.str _ _)) _ _ _); k_dflt (refine' dictItem ?z1N ?z1hm ?z1ho ?z1hv ?_; (case z1N => k_asm); (case z1hm => (first | assumption | exact List.Mem.head _ | exact InU.get (by assumption) | exact List.Mem.tail _ (List.Mem.head _) | exact List.Mem.tail _ (by assumption) | exact List.Mem.tail _ (InU.get (by assumption)) | exact List.Mem.tail _ (List.Mem.tail _ (List.Mem.head _)) | exact List.Mem.tail _ (List.Mem.tail _ (by assumption)) | exact List.Mem.tail _ (List.Mem.tail _ (InU.get (by assumption))) | exact List.Mem.tail _ (List.Mem.tail _ (List.Mem.tail _ (List.Mem.head _))) | exact List.Mem.tail _ (List.Mem.tail _ (List.Mem.tail _ (by assumption))) | exact List.Mem.tail _ (List.Mem.tail _ (List.Mem.tail _ (InU.get (by assumption)))) | exact List.Mem.tail _ (List.Mem.tail _ (List.Mem.tail _ (List.Mem.tail _ (List.Mem.head _)))) | exact List.Mem.tail _ (List.Mem.tail _ (List.Mem.tail _ (List.Mem.tail _ (by assumption)))) | exact List.Mem.tail _ (List.Mem.tail _ (List.Mem.tail _ (List.Mem.tail _ (InU.get (by assumption))))) | exact List.Mem.tail _ (List.Mem.tail _ (List.Mem.tail _ (List.Mem.tail _ (List.Mem.tail _ (List.Mem.head _))))) | exact List.Mem.tail _ (List.Mem.tail _ (List.Mem.tail _ (List.Mem.tail _ (List.Mem.tail _ (by assumption))))) | exact List.Mem.tail _ (List.Mem.tail _ (List.Mem.tail _ (List.Mem.tail _ (List.Mem.tail _ (InU.get (by assumption)))))) | exact List.Mem.tail _ (List.Mem.tail _ (List.Mem.tail _ (List.Mem.tail _ (List.Mem.tail _ (List.Mem.tail _ (List.Mem.head _)))))) | exact List.Mem.tail _ (List.Mem.tail _ (List.Mem.tail _ (List.Mem.tail _ (List.Mem.tail _ (List.Mem.tail _ (by assumption)))))) | exact List.Mem.tail _ (List.Mem.tail _ (List.Mem.tail _ (List.Mem.tail _ (List.Mem.tail _ (List.Mem.tail _ (InU.get (by assumption))))))) | exact List.Mem.tail _ (List.Mem.tail _ (List.Mem.tail _ (List.Mem.tail _ (List.Mem.tail _ (List.Mem.tail _ (List.Mem.tail _ (List.Mem.head _))))))) | exact List.Mem.tail _ (List.Mem.tail _ (List.Mem.tail _ (List.Mem.tail _ (List.Mem.tail _ (List.Mem.tail _ (List.Mem.tail _ (by assumption))))))) | exact List.Mem.tail _ (List.Mem.tail _ (List.Mem.tail _ (List.Mem.tail _ (List.Mem.tail _ (List.Mem.tail _ (List.Mem.tail _ (InU.get (by assumption)))))))) | exact List.Mem.tail _ (List.Mem.tail _ (List.Mem.tail _ (List.Mem.tail _ (List.Mem.tail _ (List.Mem.tail _ (List.Mem.tail _ (List.Mem.tail _ (List.Mem.head _)))))))) | exact List.Mem.tail _ (List.Mem.tail _ (List.Mem.tail _ (List.Mem.tail _ (List.Mem.tail _ (List.Mem.tail _ (List.Mem.tail _ (List.Mem.tail _ (by assumption)))))))) | exact List.Mem.tail _ (List.Mem.tail _ (List.Mem.tail _ (List.Mem.tail _ (List.Mem.tail _ (List.Mem.tail _ (List.Mem.tail _ (List.Mem.tail _ (InU.get (by assumption))))))))))); (case z1ho => assumption); (case z1hv => assumption); k_whole)))
  (k_with "call builtin:len" => (k_here; (with_reducible show wpAny _ _ (call (Value.builtin "len") [Value.ref _]) _ _ _); k_dflt (refine' len_strsA (mem_isList ?z2N ?z2hm) ?z2hi ?z2hf ?_; (case z2N => k_asm); (case z2hm => (first | assumption | exact List.Mem.head _ | exact InU.get (by assumption) | exact List.Mem.tail _ (List.Mem.head _) | exact List.Mem.tail _ (by assumption) | exact List.Mem.tail _ (InU.get (by assumption)) | exact List.Mem.tail _ (List.Mem.tail _ (List.Mem.head _)) | exact List.Mem.tail _ (List.Mem.tail _ (by assumption)) | exact List.Mem.tail _ (List.Mem.tail _ (InU.get (by assumption))) | exact List.Mem.tail _ (List.Mem.tail _ (List.Mem.tail _ (List.Mem.head _))) | exact List.Mem.tail _ (List.Mem.tail _ (List.Mem.tail _ (by assumption))) | exact List.Mem.tail _ (List.Mem.tail _ (List.Mem.tail _ (InU.get (by assumption)))) | exact List.Mem.tail _ (List.Mem.tail _ (List.Mem.tail _ (List.Mem.tail _ (List.Mem.head _)))) | exact List.Mem.tail _ (List.Mem.tail _ (List.Mem.tail _ (List.Mem.tail _ (by assumption)))) | exact List.Mem.tail _ (List.Mem.tail _ (List.Mem.tail _ (List.Mem.tail _ (InU.get (by assumption))))) | exact List.Mem.tail _ (List.Mem.tail _ (List.Mem.tail _ (List.Mem.tail _ (List.Mem.tail _ (List.Mem.head _))))) | exact List.Mem.tail _ (List.Mem.tail _ (List.Mem.tail _ (List.Mem.tail _ (List.Mem.tail _ (by assumption))))) | exact List.Mem.tail _ (List.Mem.tail _ (List.Mem.tail _ (List.Mem.tail _ (List.Mem.tail _ (InU.get (by assumption)))))) | exact List.Mem.tail _ (List.Mem.tail _ (List.Mem.tail _ (List.Mem.tail _ (List.Mem.tail _ (List.Mem.tail _ (List.Mem.head _)))))) | exact List.Mem.tail _ (List.Mem.tail _ (List.Mem.tail _ (List.Mem.tail _ (List.Mem.tail _ (List.Mem.tail _ (by assumption)))))) | exact List.Mem.tail _ (List.Mem.tail _ (List.Mem.tail _ (List.Mem.tail _ (List.Mem.tail _ (List.Mem.tail _ (InU.get (by assumption))))))) | exact List.Mem.tail _ (List.Mem.tail _ (List.Mem.tail _ (List.Mem.tail _ (List.Mem.tail _ (List.Mem.tail _ (List.Mem.tail _ (List.Mem.head _))))))) | exact List.Mem.tail _ (List.Mem.tail _ (List.Mem.tail _ (List.Mem.tail _ (List.Mem.tail _ (List.Mem.tail _ (List.Mem.tail _ (by assumption))))))) | exact List.Mem.tail _ (List.Mem.tail _ (List.Mem.tail _ (List.Mem.tail _ (List.Mem.tail _ (List.Mem.tail _ (List.Mem.tail _ (InU.get (by assumption)))))))) | exact List.Mem.tail _ (List.Mem.tail _ (List.Mem.tail _ (List.Mem.tail _ (List.Mem.tail _ (List.Mem.tail _ (List.Mem.tail _ (List.Mem.tail _ (List.Mem.head _)))))))) | exact List.Mem.tail _ (List.Mem.tail _ (List.Mem.tail _ (List.Mem.tail _ (List.Mem.tail _ (List.Mem.tail _ (List.Mem.tail _ (List.Mem.tail _ (by assumption)))))))) | exact List.Mem.tail _ (List.Mem.tail _ (List.Mem.tail _ (List.Mem.tail _ (List.Mem.tail _ (List.Mem.tail _ (List.Mem.tail _ (List.Mem.tail _ (InU.get (by assumption))))))))))); (case z2hi => assumption); (case z2hf => (first | lia | omega)); k_whole)))
  (k_with "call ref" => (k_here; k_dflt (refine' domain_match_call ?z3k1 ?z3k2 ?z3k3 ?z3k4 ?z3k5 ?z3kK ?z3p0 ?z3kd ?z3ku ?_; (case z3k1 => k_asm); (case z3k2 => k_asm); (case z3k3 => k_asm); (case z3k4 => k_asm); (case z3k5 => k_asm); (case z3kK => first | exact rfl | assumption); (case z3p0 => assumption); (case z3kd => ktr_room); (case z3ku => ktr_units)); intro zzh9 zztk9 zzF9 zzN9; (try dsimp only); (try k_fold)))
  (k_with "call ref" => (k_here; k_dflt (refine' bisB_links ?z4k1 ?z4k2 ?z4k3 ?z4k4 ?z4k5 ?z4kK ?z4p0 ?z4p1 ?z4p2 ?z4p3 ?z4p4 ?z4p5 ?z4kd ?z4ku ?_; (case z4k1 => k_asm); (case z4k2 => k_asm); (case z4k3 => k_asm); (case z4k4 => k_asm); (case z4k5 => k_asm); (case z4kK => first | exact rfl | assumption); (case z4p0 => (first | assumption | exact List.Mem.head _ | exact InU.get (by assumption) | exact List.Mem.tail _ (List.Mem.head _) | exact List.Mem.tail _ (by assumption) | exact List.Mem.tail _ (InU.get (by assumption)) | exact List.Mem.tail _ (List.Mem.tail _ (List.Mem.head _)) | exact List.Mem.tail _ (List.Mem.tail _ (by assumption)) | exact List.Mem.tail _ (List.Mem.tail _ (InU.get (by assumption))) | exact List.Mem.tail _ (List.Mem.tail _ (List.Mem.tail _ (List.Mem.head _))) | exact List.Mem.tail _ (List.Mem.tail _ (List.Mem.tail _ (by assumption))) | exact List.Mem.tail _ (List.Mem.tail _ (List.Mem.tail _ (InU.get (by assumption)))) | exact List.Mem.tail _ (List.Mem.tail _ (List.Mem.tail _ (List.Mem.tail _ (List.Mem.head _)))) | exact List.Mem.tail _ (List.Mem.tail _ (List.Mem.tail _ (List.Mem.tail _ (by assumption)))) | exact List.Mem.tail _ (List.Mem.tail _ (List.Mem.tail _ (List.Mem.tail _ (InU.get (by assumption))))) | exact List.Mem.tail _ (List.Mem.tail _ (List.Mem.tail _ (List.Mem.tail _ (List.Mem.tail _ (List.Mem.head _))))) | exact List.Mem.tail _ (List.Mem.tail _ (List.Mem.tail _ (List.Mem.tail _ (List.Mem.tail _ (by assumption))))) | exact List.Mem.tail _ (List.Mem.tail _ (List.Mem.tail _ (List.Mem.tail _ (List.Mem.tail _ (InU.get (by assumption)))))) | exact List.Mem.tail _ (List.Mem.tail _ (List.Mem.tail _ (List.Mem.tail _ (List.Mem.tail _ (List.Mem.tail _ (List.Mem.head _)))))) | exact List.Mem.tail _ (List.Mem.tail _ (List.Mem.tail _ (List.Mem.tail _ (List.Mem.tail _ (List.Mem.tail _ (by assumption)))))) | exact List.Mem.tail _ (List.Mem.tail _ (List.Mem.tail _ (List.Mem.tail _ (List.Mem.tail _ (List.Mem.tail _ (InU.get (by assumption))))))) | exact List.Mem.tail _ (List.Mem.tail _ (List.Mem.tail _ (List.Mem.tail _ (List.Mem.tail _ (List.Mem.tail _ (List.Mem.tail _ (List.Mem.head _))))))) | exact List.Mem.tail _ (List.Mem.tail _ (List.Mem.tail _ (List.Mem.tail _ (List.Mem.tail _ (List.Mem.tail _ (List.Mem.tail _ (by assumption))))))) | exact List.Mem.tail _ (List.Mem.tail _ (List.Mem.tail _ (List.Mem.tail _ (List.Mem.tail _ (List.Mem.tail _ (List.Mem.tail _ (InU.get (by assumption)))))))) | exact List.Mem.tail _ (List.Mem.tail _ (List.Mem.tail _ (List.Mem.tail _ (List.Mem.tail _ (List.Mem.tail _ (List.Mem.tail _ (List.Mem.tail _ (List.Mem.head _)))))))) | exact List.Mem.tail _ (List.Mem.tail _ (List.Mem.tail _ (List.Mem.tail _ (List.Mem.tail _ (List.Mem.tail _ (List.Mem.tail _ (List.Mem.tail _ (by assumption)))))))) | exact List.Mem.tail _ (List.Mem.tail _ (List.Mem.tail _ (List.Mem.tail _ (List.Mem.tail _ (List.Mem.tail _ (List.Mem.tail _ (List.Mem.tail _ (InU.get (by assumption))))))))))); (case z4p1 => assumption); (case z4p2 => (first | assumption | exact List.Mem.head _ | exact InU.get (by assumption) | exact List.Mem.tail _ (List.Mem.head _) | exact List.Mem.tail _ (by assumption) | exact List.Mem.tail _ (InU.get (by assumption)) | exact List.Mem.tail _ (List.Mem.tail _ (List.Mem.head _)) | exact List.Mem.tail _ (List.Mem.tail _ (by assumption)) | exact List.Mem.tail _ (List.Mem.tail _ (InU.get (by assumption))) | exact List.Mem.tail _ (List.Mem.tail _ (List.Mem.tail _ (List.Mem.head _))) | exact List.Mem.tail _ (List.Mem.tail _ (List.Mem.tail _ (by assumption))) | exact List.Mem.tail _ (List.Mem.tail _ (List.Mem.tail _ (InU.get (by assumption)))) | exact List.Mem.tail _ (List.Mem.tail _ (List.Mem.tail _ (List.Mem.tail _ (List.Mem.head _)))) | exact List.Mem.tail _ (List.Mem.tail _ (List.Mem.tail _ (List.Mem.tail _ (by assumption)))) | exact List.Mem.tail _ (List.Mem.tail _ (List.Mem.tail _ (List.Mem.tail _ (InU.get (by assumption))))) | exact List.Mem.tail _ (List.Mem.tail _ (List.Mem.tail _ (List.Mem.tail _ (List.Mem.tail _ (List.Mem.head _))))) | exact List.Mem.tail _ (List.Mem.tail _ (List.Mem.tail _ (List.Mem.tail _ (List.Mem.tail _ (by assumption))))) | exact List.Mem.tail _ (List.Mem.tail _ (List.Mem.tail _ (List.Mem.tail _ (List.Mem.tail _ (InU.get (by assumption)))))) | exact List.Mem.tail _ (List.Mem.tail _ (List.Mem.tail _ (List.Mem.tail _ (List.Mem.tail _ (List.Mem.tail _ (List.Mem.head _)))))) | exact List.Mem.tail _ (List.Mem.tail _ (List.Mem.tail _ (List.Mem.tail _ (List.Mem.tail _ (List.Mem.tail _ (by assumption)))))) | exact List.Mem.tail _ (List.Mem.tail _ (List.Mem.tail _ (List.Mem.tail _ (List.Mem.tail _ (List.Mem.tail _ (InU.get (by assumption))))))) | exact List.Mem.tail _ (List.Mem.tail _ (List.Mem.tail _ (List.Mem.tail _ (List.Mem.tail _ (List.Mem.tail _ (List.Mem.tail _ (List.Mem.head _))))))) | exact List.Mem.tail _ (List.Mem.tail _ (List.Mem.tail _ (List.Mem.tail _ (List.Mem.tail _ (List.Mem.tail _ (List.Mem.tail _ (by assumption))))))) | exact List.Mem.tail _ (List.Mem.tail _ (List.Mem.tail _ (List.Mem.tail _ (List.Mem.tail _ (List.Mem.tail _ (List.Mem.tail _ (InU.get (by assumption)))))))) | exact List.Mem.tail _ (List.Mem.tail _ (List.Mem.tail _ (List.Mem.tail _ (List.Mem.tail _ (List.Mem.tail _ (List.Mem.tail _ (List.Mem.tail _ (List.Mem.head _)))))))) | exact List.Mem.tail _ (List.Mem.tail _ (List.Mem.tail _ (List.Mem.tail _ (List.Mem.tail _ (List.Mem.tail _ (List.Mem.tail _ (List.Mem.tail _ (by assumption)))))))) | exact List.Mem.tail _ (List.Mem.tail _ (List.Mem.tail _ (List.Mem.tail _ (List.Mem.tail _ (List.Mem.tail _ (List.Mem.tail _ (List.Mem.tail _ (InU.get (by assumption))))))))))); (case z4p3 => assumption); (case z4p4 => (first | lia | omega)); (case z4p5 => (intro p9 loose9 mean9 mg9 mb9 dp9 un9 gd9 cn9 cs9 a9 ccd9 cl9 outer9 A9 base9 zzh9 L9 m9 zzs9 Q9 E9 zzx9 zzt9 B9 zzF9 X9 zzN9 T9 hk9 hP9 hd9 hu9 hret9; refine wpAny_call ?_; k_dflt (refine' kla_code ?z4q1 ?z4q2 ?z4q3 ?z4q4 ?z4q5 ?z4qA ?z4qF ?z4qK ?z4q6 ?z4q7 ?z4q8 ?z4q9 ?z4qB ?_ ?z4qc2 ?z4qc3 ?z4qc4 ?z4qc5; (case z4qA => exact rfl); (case z4qF => exact rfl); (case z4qK => first | exact rfl | assumption); (case z4q1 => k_asm); (case z4q2 => k_asm); (case z4q3 => k_asm); (case z4q4 => k_asm); (case z4q5 => k_asm); (case z4q6 => (first | assumption | exact List.Mem.head _ | exact InU.get (by assumption) | exact List.Mem.tail _ (List.Mem.head _) | exact List.Mem.tail _ (by assumption) | exact List.Mem.tail _ (InU.get (by assumption)) | exact List.Mem.tail _ (List.Mem.tail _ (List.Mem.head _)) | exact List.Mem.tail _ (List.Mem.tail _ (by assumption)) | exact List.Mem.tail _ (List.Mem.tail _ (InU.get (by assumption))) | exact List.Mem.tail _ (List.Mem.tail _ (List.Mem.tail _ (List.Mem.head _))) | exact List.Mem.tail _ (List.Mem.tail _ (List.Mem.tail _ (by assumption))) | exact List.Mem.tail _ (List.Mem.tail _ (List.Mem.tail _ (InU.get (by assumption)))) | exact List.Mem.tail _ (List.Mem.tail _ (List.Mem.tail _ (List.Mem.tail _ (List.Mem.head _)))) | exact List.Mem.tail _ (List.Mem.tail _ (List.Mem.tail _ (List.Mem.tail _ (by assumption)))) | exact List.Mem.tail _ (List.Mem.tail _ (List.Mem.tail _ (List.Mem.tail _ (InU.get (by assumption))))) | exact List.Mem.tail _ (List.Mem.tail _ (List.Mem.tail _ (List.Mem.tail _ (List.Mem.tail _ (List.Mem.head _))))) | exact List.Mem.tail _ (List.Mem.tail _ (List.Mem.tail _ (List.Mem.tail _ (List.Mem.tail _ (by assumption))))) | exact List.Mem.tail _ (List.Mem.tail _ (List.Mem.tail _ (List.Mem.tail _ (List.Mem.tail _ (InU.get (by assumption)))))) | exact List.Mem.tail _ (List.Mem.tail _ (List.Mem.tail _ (List.Mem.tail _ (List.Mem.tail _ (List.Mem.tail _ (List.Mem.head _)))))) | exact List.Mem.tail _ (List.Mem.tail _ (List.Mem.tail _ (List.Mem.tail _ (List.Mem.tail _ (List.Mem.tail _ (by assumption)))))) | exact List.Mem.tail _ (List.Mem.tail _ (List.Mem.tail _ (List.Mem.tail _ (List.Mem.tail _ (List.Mem.tail _ (InU.get (by assumption))))))) | exact List.Mem.tail _ (List.Mem.tail _ (List.Mem.tail _ (List.Mem.tail _ (List.Mem.tail _ (List.Mem.tail _ (List.Mem.tail _ (List.Mem.head _))))))) | exact List.Mem.tail _ (List.Mem.tail _ (List.Mem.tail _ (List.Mem.tail _ (List.Mem.tail _ (List.Mem.tail _ (List.Mem.tail _ (by assumption))))))) | exact List.Mem.tail _ (List.Mem.tail _ (List.Mem.tail _ (List.Mem.tail _ (List.Mem.tail _ (List.Mem.tail _ (List.Mem.tail _ (InU.get (by assumption)))))))) | exact List.Mem.tail _ (List.Mem.tail _ (List.Mem.tail _ (List.Mem.tail _ (List.Mem.tail _ (List.Mem.tail _ (List.Mem.tail _ (List.Mem.tail _ (List.Mem.head _)))))))) | exact List.Mem.tail _ (List.Mem.tail _ (List.Mem.tail _ (List.Mem.tail _ (List.Mem.tail _ (List.Mem.tail _ (List.Mem.tail _ (List.Mem.tail _ (by assumption)))))))) | exact List.Mem.tail _ (List.Mem.tail _ (List.Mem.tail _ (List.Mem.tail _ (List.Mem.tail _ (List.Mem.tail _ (List.Mem.tail _ (List.Mem.tail _ (InU.get (by assumption))))))))))); (case z4q7 => exact codeRec_news (by k_asm) (by (first | assumption | exact List.Mem.head _ | exact InU.get (by assumption) | exact List.Mem.tail _ (List.Mem.head _) | exact List.Mem.tail _ (by assumption) | exact List.Mem.tail _ (InU.get (by assumption)) | exact List.Mem.tail _ (List.Mem.tail _ (List.Mem.head _)) | exact List.Mem.tail _ (List.Mem.tail _ (by assumption)) | exact List.Mem.tail _ (List.Mem.tail _ (InU.get (by assumption))) | exact List.Mem.tail _ (List.Mem.tail _ (List.Mem.tail _ (List.Mem.head _))) | exact List.Mem.tail _ (List.Mem.tail _ (List.Mem.tail _ (by assumption))) | exact List.Mem.tail _ (List.Mem.tail _ (List.Mem.tail _ (InU.get (by assumption)))) | exact List.Mem.tail _ (List.Mem.tail _ (List.Mem.tail _ (List.Mem.tail _ (List.Mem.head _)))) | exact List.Mem.tail _ (List.Mem.tail _ (List.Mem.tail _ (List.Mem.tail _ (by assumption)))) | exact List.Mem.tail _ (List.Mem.tail _ (List.Mem.tail _ (List.Mem.tail _ (InU.get (by assumption))))) | exact List.Mem.tail _ (List.Mem.tail _ (List.Mem.tail _ (List.Mem.tail _ (List.Mem.tail _ (List.Mem.head _))))) | exact List.Mem.tail _ (List.Mem.tail _ (List.Mem.tail _ (List.Mem.tail _ (List.Mem.tail _ (by assumption))))) | exact List.Mem.tail _ (List.Mem.tail _ (List.Mem.tail _ (List.Mem.tail _ (List.Mem.tail _ (InU.get (by assumption)))))) | exact List.Mem.tail _ (List.Mem.tail _ (List.Mem.tail _ (List.Mem.tail _ (List.Mem.tail _ (List.Mem.tail _ (List.Mem.head _)))))) | exact List.Mem.tail _ (List.Mem.tail _ (List.Mem.tail _ (List.Mem.tail _ (List.Mem.tail _ (List.Mem.tail _ (by assumption)))))) | exact List.Mem.tail _ (List.Mem.tail _ (List.Mem.tail _ (List.Mem.tail _ (List.Mem.tail _ (List.Mem.tail _ (InU.get (by assumption))))))) | exact List.Mem.tail _ (List.Mem.tail _ (List.Mem.tail _ (List.Mem.tail _ (List.Mem.tail _ (List.Mem.tail _ (List.Mem.tail _ (List.Mem.head _))))))) | exact List.Mem.tail _ (List.Mem.tail _ (List.Mem.tail _ (List.Mem.tail _ (List.Mem.tail _ (List.Mem.tail _ (List.Mem.tail _ (by assumption))))))) | exact List.Mem.tail _ (List.Mem.tail _ (List.Mem.tail _ (List.Mem.tail _ (List.Mem.tail _ (List.Mem.tail _ (List.Mem.tail _ (InU.get (by assumption)))))))) | exact List.Mem.tail _ (List.Mem.tail _ (List.Mem.tail _ (List.Mem.tail _ (List.Mem.tail _ (List.Mem.tail _ (List.Mem.tail _ (List.Mem.tail _ (List.Mem.head _)))))))) | exact List.Mem.tail _ (List.Mem.tail _ (List.Mem.tail _ (List.Mem.tail _ (List.Mem.tail _ (List.Mem.tail _ (List.Mem.tail _ (List.Mem.tail _ (by assumption)))))))) | exact List.Mem.tail _ (List.Mem.tail _ (List.Mem.tail _ (List.Mem.tail _ (List.Mem.tail _ (List.Mem.tail _ (List.Mem.tail _ (List.Mem.tail _ (InU.get (by assumption))))))))))) (by assumption) (by assumption)); (case z4q8 => ktr_room); (case z4q9 => exact rfl); (case z4qc5 => decide); (case z4qB => exact locs rfl); (case z4qc2 => exact rfl); (case z4qc3 => exact rfl); (case z4qc4 => exact rfl); k_whole; intro g' L' zzhp FG' zzFp zzNp B' X' T'; (try dsimp only); (try k_lift B'); (try k_fold)); k_steps; all_goals exact hret9 0 _ _ (by k_asm) (by k_asm))); (case z4kd => ktr_room); (case z4ku => ktr_units)); intro zzt9 zzh9 zztk9 zzF9 zzN9; (try dsimp only); (try k_fold)))
  (k_with "eval Lambda" => (k_here; kn_here; k_dflt (refine' kla_eval ?z5d0 ?_; (case z5d0 => exact rfl)); (k_dflt (refine' kla_hit ?z5F ?z5N ?z5T ?z5C ?z5cd ?z5mem ?z5t ?z5n ?z5cl ?_; (case z5F => k_asm); (case z5N => k_asm); (case z5T => k_asm); (case z5cd => exact rfl); (case z5C => kn_code); (case z5mem => (first | assumption | exact List.Mem.head _ | exact InU.get (by assumption) | exact List.Mem.tail _ (List.Mem.head _) | exact List.Mem.tail _ (by assumption) | exact List.Mem.tail _ (InU.get (by assumption)) | exact List.Mem.tail _ (List.Mem.tail _ (List.Mem.head _)) | exact List.Mem.tail _ (List.Mem.tail _ (by assumption)) | exact List.Mem.tail _ (List.Mem.tail _ (InU.get (by assumption))) | exact List.Mem.tail _ (List.Mem.tail _ (List.Mem.tail _ (List.Mem.head _))) | exact List.Mem.tail _ (List.Mem.tail _ (List.Mem.tail _ (by assumption))) | exact List.Mem.tail _ (List.Mem.tail _ (List.Mem.tail _ (InU.get (by assumption)))) | exact List.Mem.tail _ (List.Mem.tail _ (List.Mem.tail _ (List.Mem.tail _ (List.Mem.head _)))) | exact List.Mem.tail _ (List.Mem.tail _ (List.Mem.tail _ (List.Mem.tail _ (by assumption)))) | exact List.Mem.tail _ (List.Mem.tail _ (List.Mem.tail _ (List.Mem.tail _ (InU.get (by assumption))))) | exact List.Mem.tail _ (List.Mem.tail _ (List.Mem.tail _ (List.Mem.tail _ (List.Mem.tail _ (List.Mem.head _))))) | exact List.Mem.tail _ (List.Mem.tail _ (List.Mem.tail _ (List.Mem.tail _ (List.Mem.tail _ (by assumption))))) | exact List.Mem.tail _ (List.Mem.tail _ (List.Mem.tail _ (List.Mem.tail _ (List.Mem.tail _ (InU.get (by assumption)))))) | exact List.Mem.tail _ (List.Mem.tail _ (List.Mem.tail _ (List.Mem.tail _ (List.Mem.tail _ (List.Mem.tail _ (List.Mem.head _)))))) | exact List.Mem.tail _ (List.Mem.tail _ (List.Mem.tail _ (List.Mem.tail _ (List.Mem.tail _ (List.Mem.tail _ (by assumption)))))) | exact List.Mem.tail _ (List.Mem.tail _ (List.Mem.tail _ (List.Mem.tail _ (List.Mem.tail _ (List.Mem.tail _ (InU.get (by assumption))))))) | exact List.Mem.tail _ (List.Mem.tail _ (List.Mem.tail _ (List.Mem.tail _ (List.Mem.tail _ (List.Mem.tail _ (List.Mem.tail _ (List.Mem.head _))))))) | exact List.Mem.tail _ (List.Mem.tail _ (List.Mem.tail _ (List.Mem.tail _ (List.Mem.tail _ (List.Mem.tail _ (List.Mem.tail _ (by assumption))))))) | exact List.Mem.tail _ (List.Mem.tail _ (List.Mem.tail _ (List.Mem.tail _ (List.Mem.tail _ (List.Mem.tail _ (List.Mem.tail _ (InU.get (by assumption)))))))) | exact List.Mem.tail _ (List.Mem.tail _ (List.Mem.tail _ (List.Mem.tail _ (List.Mem.tail _ (List.Mem.tail _ (List.Mem.tail _ (List.Mem.tail _ (List.Mem.head _)))))))) | exact List.Mem.tail _ (List.Mem.tail _ (List.Mem.tail _ (List.Mem.tail _ (List.Mem.tail _ (List.Mem.tail _ (List.Mem.tail _ (List.Mem.tail _ (by assumption)))))))) | exact List.Mem.tail _ (List.Mem.tail _ (List.Mem.tail _ (List.Mem.tail _ (List.Mem.tail _ (List.Mem.tail _ (List.Mem.tail _ (List.Mem.tail _ (InU.get (by assumption))))))))))); (case z5t => kn_triples); (case z5n => kn_hit); (case z5cl => exact rfl); k_whole); intro f' ct' zzhp tk' zzFp zzNp l1; (try dsimp only at zzNp); (try k_lt l1))))

  refine wpAny_call ?_
  k_dflt (refine' code_defC ?k1 ?k2 ?k3 ?k4 ?k5 ?kA ?kF ?kK ?k6 ?k7 ?k8 ?k9 ?kB ?kD ?_ ?c2 ?c3 ?c4; (case kA => exact rfl); (case kF => exact rfl); (case kK => assumption); (case k1 => k_asm); (case k2 => k_asm); (case k3 => k_asm); (case k4 => k_asm); (case k5 => k_asm); (case k6 => k_is); (case k7 => k_is); (case k8 => ktr_room); (case k9 => first | exact BindsTo.of_eq rfl | exact kp_binds (by k_in) (fun _ => rfl)); (case kB => exact rfl); (case kD => decide +kernel); (case c2 => exact rfl); (case c3 => exact rfl); (case c4 => exact rfl); k_whole; intro g' L' h' tk' cells' FG' F' N' Y' B' X' T' l1; (try k_lt l1); k_cells Y'; (try simp only [List.cons_append, List.nil_append] at N'); (try dsimp only); (try k_lift B'); (try k_fold))
  have C9 := CodeHd.keeps C FG'.keep
  k_steps
  all_goals (rename News h₀ L _ _ => kN9; exact hret _ _ _ (by k_asm) (fun p hp => kN9 p (.tail _ (.tail _ hp))))
end
end Mine
end

section
open PySem PySem.W PySem.Calls PyProof.Rows in
theorem Mine.resetHost {M : Model} {A : Around} {E : Value → Shared → Prop} {s : Shared} {Q : Bool → Shared → Prop} {v : Value} (h : wpAny M A (truthy v) Q E s) : wpAny M A (truthy v) Q E s := by
  w_top off
  k_with_none
  first | (walk1; fail) | exact h
open PySem PySem.W PySem.Calls PyProof.Rows
namespace Mine
local macro_rules | `(tactic| walk_at $s:str) => `(tactic| k_extra $s)
theorem unr3 {h₀ h' : Heap} {L I : Addr} {it : Obj} {rst : (Str → Option Value) → List (Addr × Obj) → Prop} {s₁ : Shared} {tk : Nat} {m' : Str → Option Value} {t y : Addr × Obj} {rest : List (Addr × Obj)} (F : Fr h₀ L h' m')
    (N : News h₀ L h' (t :: (I, it) :: y :: rest)) (l : y.1 < I ∧ AllLt I rest) (r : rst m' (y :: rest)) : UnrEnd h₀ L s₁ I it rst { s₁ with heap := h', toks := tk } :=
  UnrEnd.intro F N (y :: rest) (fun p hp => by rcases List.mem_cons.mp hp with rfl | hp; exact .tail _ (.head _); exact .tail _ (.tail _ hp))
    (fun p hp => by rcases List.mem_cons.mp hp with rfl | hp; exact Nat.ne_of_lt l.1; exact Nat.ne_of_lt (allLt_mem l.2 _ hp)) r
noncomputable def labs : List Str := [Str.ofString "a", Str.ofString "b", Str.ofString "ab", Str.ofString "c"]
theorem labs_len (k : Nat) : ([Str.ofString "a", Str.ofString "b", Str.ofString "ab", Str.ofString "c"].getD k Str.empty).length ≤ 2 := by
  match k with
  | 0 => decide
  | 1 => decide
  | 2 => decide
  | 3 => decide
  | k + 4 => exact Nat.zero_le _
noncomputable def labsOf : Nat → Int → List Str
  | 0, _ => []
  | j + 1, r => [Str.ofString "a", Str.ofString "b", Str.ofString "ab", Str.ofString "c"].getD (Int.fmod r 4).toNat Str.empty :: labsOf j (Int.fdiv r 4)
noncomputable def hostOf (n : Int) : Str := Txt.join (Str.ofString ".") (labsOf (Int.fmod n 3 + 1).toNat (Int.fdiv n 3) ++ [Str.ofString "local"])
theorem host_is {n : Int} {c : Int} (h : Int.fmod n 3 + 1 = c) : hostOf n = Txt.join (Str.ofString ".") (labsOf c.toNat (Int.fdiv n 3) ++ [Str.ofString "local"]) := by
  unfold hostOf; rw [h]
theorem join_room1 (i : Nat) : (([[Str.ofString "a", Str.ofString "b", Str.ofString "ab", Str.ofString "c"].getD i Str.empty, Str.ofString "local"] : List Str).map (·.length)).sum + ([[Str.ofString "a", Str.ofString "b", Str.ofString "ab", Str.ofString "c"].getD i Str.empty, Str.ofString "local"] : List Str).length * (Str.ofString ".").length ≤ 16777216 := by
  have h1 := labs_len i
  have h2 : (Str.ofString "local").length = 5 := by decide
  have h3 : (Str.ofString ".").length = 1 := by decide
  simp only [List.map_cons, List.map_nil, List.sum_cons, List.sum_nil, List.length_cons, List.length_nil, h2, h3]
  (first | lia | omega)
theorem join_room2 (i j : Nat) : (([[Str.ofString "a", Str.ofString "b", Str.ofString "ab", Str.ofString "c"].getD i Str.empty, [Str.ofString "a", Str.ofString "b", Str.ofString "ab", Str.ofString "c"].getD j Str.empty, Str.ofString "local"] : List Str).map (·.length)).sum + ([[Str.ofString "a", Str.ofString "b", Str.ofString "ab", Str.ofString "c"].getD i Str.empty, [Str.ofString "a", Str.ofString "b", Str.ofString "ab", Str.ofString "c"].getD j Str.empty, Str.ofString "local"] : List Str).length * (Str.ofString ".").length ≤ 16777216 := by
  have h1 := labs_len i
  have h1' := labs_len j
  have h2 : (Str.ofString "local").length = 5 := by decide
  have h3 : (Str.ofString ".").length = 1 := by decide
  simp only [List.map_cons, List.map_nil, List.sum_cons, List.sum_nil, List.length_cons, List.length_nil, h2, h3]
  (first | lia | omega)
theorem join_room3 (i j k : Nat) : (([[Str.ofString "a", Str.ofString "b", Str.ofString "ab", Str.ofString "c"].getD i Str.empty, [Str.ofString "a", Str.ofString "b", Str.ofString "ab", Str.ofString "c"].getD j Str.empty, [Str.ofString "a", Str.ofString "b", Str.ofString "ab", Str.ofString "c"].getD k Str.empty, Str.ofString "local"] : List Str).map (·.length)).sum + ([[Str.ofString "a", Str.ofString "b", Str.ofString "ab", Str.ofString "c"].getD i Str.empty, [Str.ofString "a", Str.ofString "b", Str.ofString "ab", Str.ofString "c"].getD j Str.empty, [Str.ofString "a", Str.ofString "b", Str.ofString "ab", Str.ofString "c"].getD k Str.empty, Str.ofString "local"] : List Str).length * (Str.ofString ".").length ≤ 16777216 := by
  have h1 := labs_len i
  have h1' := labs_len j
  have h1'' := labs_len k
  have h2 : (Str.ofString "local").length = 5 := by decide
  have h3 : (Str.ofString ".").length = 1 := by decide
  simp only [List.map_cons, List.map_nil, List.sum_cons, List.sum_nil, List.length_cons, List.length_nil, h2, h3]
  (first | lia | omega)
section
local macro_rules | `(tactic| walk_at "call builtin:str.join") => `(tactic| (k_here; (with_reducible show wpAny _ _ (call (Value.builtin "str.join") [Value.str _ _, Value.ref _]) _ _ _); k_dflt (first
  | (refine' join_list (mem_isListA ?j1N ?j1m) (.cons _ _ (.cons _ _ .nil)) (join_room1 _) ?_; (case j1N => k_asm); (case j1m => k_mem); k_whole)
  | (refine' join_list (mem_isListA ?j2N ?j2m) (.cons _ _ (.cons _ _ (.cons _ _ .nil))) (join_room2 _ _) ?_; (case j2N => k_asm); (case j2m => k_mem); k_whole)
  | (refine' join_list (mem_isListA ?j3N ?j3m) (.cons _ _ (.cons _ _ (.cons _ _ (.cons _ _ .nil)))) (join_room3 _ _ _) ?_; (case j3N => k_asm); (case j3m => k_mem); k_whole)); intro t9 k9))
variable {w : World} {p : Program} {loose : List Str} {mean : ExcName → Option Value} {mg mb : Str → Option Value} {news : List (Addr × Obj)}
    {dp un : Nat} {gd : Option (List Code)} {cn : Str} {cs : Scope} {a : Addr} {ccd : Value} {cl : List (Str × Addr)} {outer : List Env} {A₀ : Around} {base h₀ : Heap} {L : Addr} {m : Str → Option Value} {s : Shared} {Q E : Value → Shared → Prop}

set_option maxHeartbeats 4000000 in
theorem law_host_call {n : Int} {t : Tok}
    (B : Below A₀ base outer h₀) (F : Fr h₀ L s.heap m) (X : (hd.heap_39 w.params).In h₀) (N : News h₀ L s.heap news) (T : Top p loose mean mg mb h₀) (hk : cs.kind = .function)
    (h0 : 0 ≤ n) (hn : n < 192) (hd : dp + 2 < recursionLimit) (hu : un + 16 < cLine)
    (hret : ∀ (t' : Tok) (h' : Heap) (tk' : Nat), Fr h₀ L h' m → News h₀ L h' news → Q (.str (hostOf n) t') { s with heap := h', toks := tk' }) :
    wpAny (model PG w) (ktrTop dp un gd cn cs L a ccd cl outer) (call (.ref 112) [.int n t]) Q E s := by
  k_with_none
  (k_with "UnrEnd" => (k_dflt (refine' unr3 ?uF ?uN ?ul ?_; (case uF => k_asm); (case uN => assumption); (case ul => assumption))))

  refine wpAny_call ?_
  k_dflt cell_enter
  (k_with "table" => skip)
  k_steps
  all_goals (rename (Int.fmod _ _ + 1 = _) => hc; have e9 := host_is hc; rw [e9] at hret; exact hret _ _ _ (by k_asm) (by (rename News h₀ L _ _ => kN9; exact fun p hp => kN9 p (by repeat (first | exact hp | refine List.Mem.tail _ ?_)))))
end
end Mine
end

section
open PySem PySem.W PySem.Calls PyProof.Rows in
theorem Mine.resetLadder {M : Model} {A : Around} {E : Value → Shared → Prop} {s : Shared} {Q : Bool → Shared → Prop} {v : Value} (h : wpAny M A (truthy v) Q E s) : wpAny M A (truthy v) Q E s := by
  w_top off
  k_with_none
  first | (walk1; fail) | exact h
open PySem PySem.W PySem.Calls PyProof.Rows
namespace Mine
local macro_rules | `(tactic| walk_at $s:str) => `(tactic| k_extra $s)
section
variable {w : World} {p : Program} {loose : List Str} {mean : ExcName → Option Value} {mg mb : Str → Option Value} {news : List (Addr × Obj)}
    {dp un : Nat} {gd : Option (List Code)} {cn : Str} {cs : Scope} {a : Addr} {ccd : Value} {cl : List (Str × Addr)} {outer : List Env} {A₀ : Around} {base h₀ : Heap} {L : Addr} {m : Str → Option Value} {s : Shared} {Q E : Value → Shared → Prop}



set_option maxHeartbeats 4000000 in
theorem law_ladder1_call {x b1 r1 : Str} {t : Tok}
    (B : Below A₀ base outer h₀) (F : Fr h₀ L s.heap m) (X : (hd.heap_39 w.params).In h₀) (N : News h₀ L s.heap news) (T : Top p loose mean mg mb h₀) (hk : cs.kind = .function)
    (h0 : ((Str.ofString "." ++ x) != Str.ofString ".local") = true) (hm0 : ReachOk (Txt.slice (Str.ofString "." ++ x) (some 1) none) b1 r1) (h1 : (r1 != Str.ofString ".local") = false) (hx : x.length ≤ 100) (hl1 : r1.length ≤ 100) (hd : dp + 3 < recursionLimit) (hu : un + 24 < cLine)
    (hret : ∀ (D : Addr) (vs : List Value) (n : Nat) (h' : Heap) (tk' : Nat), Fr h₀ L h' m → News h₀ L h' ((D, listOf vs.toArray n) :: news) → StrsAre vs [Str.ofString "." ++ x, r1] → (∀ p ∈ news, p.1 < D) → Q (.ref D) { s with heap := h', toks := tk' }) :
    wpAny (model PG w) (ktrTop dp un gd cn cs L a ccd cl outer) (call (.ref 124) [.str x t]) Q E s := by
  k_with_none
  (k_with "call ref" => (k_here; k_dflt (refine' reach_call ?z1k1 ?z1k2 ?z1k3 ?z1k4 ?z1k5 ?z1kK ?z1p0 ?z1kd ?z1ku ?_; (case z1k1 => k_asm); (case z1k2 => k_asm); (case z1k3 => k_asm); (case z1k4 => k_asm); (case z1k5 => k_asm); (case z1kK => first | exact rfl | assumption); (case z1p0 => assumption); (case z1kd => ktr_room); (case z1ku => ktr_units)); intro zzt9 zzh9 zztk9 zzF9 zzN9; (try dsimp only); (try k_fold)))
  (k_with "exec While BoolOp" => (k_here; k_dflt (refine whl_start 100 ?_)))

  refine wpAny_call ?_
  k_dflt cell_enter
  k_steps
  all_goals (rename News h₀ _ _ _ => kN9; (try simp only [List.push_toArray, List.cons_append, List.nil_append] at kN9); exact hret _ _ _ _ _ (by k_asm) kN9 (.cons _ _ (.cons _ _ .nil)) (by assumption))

set_option maxHeartbeats 4000000 in
theorem law_ladder2_call {x b1 r1 b2 r2 : Str} {t : Tok}
    (B : Below A₀ base outer h₀) (F : Fr h₀ L s.heap m) (X : (hd.heap_39 w.params).In h₀) (N : News h₀ L s.heap news) (T : Top p loose mean mg mb h₀) (hk : cs.kind = .function)
    (h0 : ((Str.ofString "." ++ x) != Str.ofString ".local") = true) (hm0 : ReachOk (Txt.slice (Str.ofString "." ++ x) (some 1) none) b1 r1) (h1 : ((r1) != Str.ofString ".local") = true) (hm1 : ReachOk (Txt.slice (r1) (some 1) none) b2 r2) (h2 : (r2 != Str.ofString ".local") = false) (hx : x.length ≤ 100) (hl1 : r1.length ≤ 100) (hl2 : r2.length ≤ 100) (hd : dp + 3 < recursionLimit) (hu : un + 24 < cLine)
    (hret : ∀ (D : Addr) (vs : List Value) (n : Nat) (h' : Heap) (tk' : Nat), Fr h₀ L h' m → News h₀ L h' ((D, listOf vs.toArray n) :: news) → StrsAre vs [Str.ofString "." ++ x, r1, r2] → (∀ p ∈ news, p.1 < D) → Q (.ref D) { s with heap := h', toks := tk' }) :
    wpAny (model PG w) (ktrTop dp un gd cn cs L a ccd cl outer) (call (.ref 124) [.str x t]) Q E s := by
  k_with_none
  (k_with "call ref" => (k_here; k_dflt (refine' reach_call ?z1k1 ?z1k2 ?z1k3 ?z1k4 ?z1k5 ?z1kK ?z1p0 ?z1kd ?z1ku ?_; (case z1k1 => k_asm); (case z1k2 => k_asm); (case z1k3 => k_asm); (case z1k4 => k_asm); (case z1k5 => k_asm); (case z1kK => first | exact rfl | assumption); (case z1p0 => assumption); (case z1kd => ktr_room); (case z1ku => ktr_units)); intro zzt9 zzh9 zztk9 zzF9 zzN9; (try dsimp only); (try k_fold)))
  (k_with "exec While BoolOp" => (k_here; k_dflt (refine whl_start 100 ?_)))

  refine wpAny_call ?_
  k_dflt cell_enter
  k_steps
  all_goals (rename News h₀ _ _ _ => kN9; (try simp only [List.push_toArray, List.cons_append, List.nil_append] at kN9); exact hret _ _ _ _ _ (by k_asm) kN9 (.cons _ _ (.cons _ _ (.cons _ _ .nil))) (by assumption))

set_option maxHeartbeats 4000000 in
theorem law_ladder3_call {x b1 r1 b2 r2 b3 r3 : Str} {t : Tok}
    (B : Below A₀ base outer h₀) (F : Fr h₀ L s.heap m) (X : (hd.heap_39 w.params).In h₀) (N : News h₀ L s.heap news) (T : Top p loose mean mg mb h₀) (hk : cs.kind = .function)
    (h0 : ((Str.ofString "." ++ x) != Str.ofString ".local") = true) (hm0 : ReachOk (Txt.slice (Str.ofString "." ++ x) (some 1) none) b1 r1) (h1 : ((r1) != Str.ofString ".local") = true) (hm1 : ReachOk (Txt.slice (r1) (some 1) none) b2 r2) (h2 : ((r2) != Str.ofString ".local") = true) (hm2 : ReachOk (Txt.slice (r2) (some 1) none) b3 r3) (h3 : (r3 != Str.ofString ".local") = false) (hx : x.length ≤ 100) (hl1 : r1.length ≤ 100) (hl2 : r2.length ≤ 100) (hl3 : r3.length ≤ 100) (hd : dp + 3 < recursionLimit) (hu : un + 24 < cLine)
    (hret : ∀ (D : Addr) (vs : List Value) (n : Nat) (h' : Heap) (tk' : Nat), Fr h₀ L h' m → News h₀ L h' ((D, listOf vs.toArray n) :: news) → StrsAre vs [Str.ofString "." ++ x, r1, r2, r3] → (∀ p ∈ news, p.1 < D) → Q (.ref D) { s with heap := h', toks := tk' }) :
    wpAny (model PG w) (ktrTop dp un gd cn cs L a ccd cl outer) (call (.ref 124) [.str x t]) Q E s := by
  k_with_none
  (k_with "call ref" => (k_here; k_dflt (refine' reach_call ?z1k1 ?z1k2 ?z1k3 ?z1k4 ?z1k5 ?z1kK ?z1p0 ?z1kd ?z1ku ?_; (case z1k1 => k_asm); (case z1k2 => k_asm); (case z1k3 => k_asm); (case z1k4 => k_asm); (case z1k5 => k_asm); (case z1kK => first | exact rfl | assumption); (case z1p0 => assumption); (case z1kd => ktr_room); (case z1ku => ktr_units)); intro zzt9 zzh9 zztk9 zzF9 zzN9; (try dsimp only); (try k_fold)))
  (k_with "exec While BoolOp" => (k_here; k_dflt (refine whl_start 100 ?_)))

  refine wpAny_call ?_
  k_dflt cell_enter
  k_steps
  all_goals (rename News h₀ _ _ _ => kN9; (try simp only [List.push_toArray, List.cons_append, List.nil_append] at kN9); exact hret _ _ _ _ _ (by k_asm) kN9 (.cons _ _ (.cons _ _ (.cons _ _ (.cons _ _ .nil)))) (by assumption))

end
end Mine
end

section
open PySem PySem.W PySem.Calls PyProof.Rows in
theorem Mine.resetForG {M : Model} {A : Around} {E : Value → Shared → Prop} {s : Shared} {Q : Bool → Shared → Prop} {v : Value} (h : wpAny M A (truthy v) Q E s) : wpAny M A (truthy v) Q E s := by
  w_top off
  k_with_none
  first | (walk1; fail) | exact h
open PySem PySem.W PySem.Calls PyProof.Rows
namespace Mine
/-- a turn's end: the ledger may grow, generators may come -/
noncomputable def StepG (h₀ : Heap) (L : Addr) (I : Addr) (oI : Obj) (Jn : (Str → Option Value) → List (Addr × Obj) → Array GenState → Prop) (Q : Flow → Shared → Prop) (s : Shared) (f : Flow) (s₂ : Shared) : Prop :=
  match f with
  | .ret v => Q (.ret v) s₂
  | .brk => Q .next s₂
  | _ => ∃ h' tk m' nx g', s₂ = { s with heap := h', toks := tk, gens := g' } ∧ Fr h₀ L h' m' ∧ News h₀ L h' ((I, oI) :: nx) ∧ (∀ p ∈ nx, p.1 ≠ I) ∧ Jn m' nx g'
section
variable {prog : Program} {w : World} {A : Around} {E : Value → Shared → Prop} {s : Shared} {env : Env} {h₀ : Heap}
theorem codeAny_forLoopG {Q : Flow → Shared → Prop} {x : Str} {px : Pos} {body : List Stmt} {I : Addr} {fp : List Addr} {ob : Addr → Obj} {n : Nat} {P : Nat → Value → Prop} {St : Nat → Heap → Prop} {m : Str → Option Value}
    {news : List (Addr × Obj)} (W : Walks prog w A I (I :: fp) [I] n P St) (hIo : ∀ (i : Nat) (h : Heap), St i h → ∃ o, h.get? I = some o) (hx : env.kindOf x = some .local)
    (hp : (env.scope.kind == .class || (env.scope.kind == .module && env.locals != env.globals)) = false) (hE : PassesOwn (model prog w) A env E)
    (hLI : env.locals ≠ I) (hI₀ : h₀.get? I = none) (hnw : ∀ p ∈ news, p.1 ≠ I)
    (hst : St 0 s.heap) (F : Fr h₀ env.locals s.heap m) (N : News h₀ env.locals s.heap news)
    (J : Nat → (Str → Option Value) → List (Addr × Obj) → Array GenState → Prop) (h0 : J 0 m news s.gens) (hfp : ∀ i m nx g, J i m nx g → ∀ b ∈ fp, (b, ob b) ∈ nx)
    (turn : ∀ i v m₁ news₁ g oI h tk, i < n → P i v → J i m₁ news₁ g → (∀ p ∈ news₁, p.1 ≠ I) →
      Fr h₀ env.locals h (fun y => if y = x then some v else m₁ y) → News h₀ env.locals h ((I, oI) :: news₁) →
      wpAny (model prog w) A (execs body env) (StepG h₀ env.locals I oI (J (i + 1)) Q s) E { s with heap := h, toks := tk, gens := g })
    (done : ∀ h' tk m' news' g, Fr h₀ env.locals h' m' → News h₀ env.locals h' news' → J n m' news' g → Q .next { s with heap := h', toks := tk, gens := g }) :
    codeAny (model prog w) A (.forLoop (.Name x px) (.ref I) body [] env) (fun r s' => match r with | .ok f => Q f s' | .error e => cameBackBy (model prog w) A env E e s') s := by
  have old : ∀ b o, h₀.get? b = some o → b ∉ [I] := fun b o e hb => by rw [List.mem_singleton.mp hb, hI₀] at e; cases e
  refine codeAny_forLoop
    (fun k s' => ∃ h' tk m' news' g i, s' = { s with heap := h', toks := tk, gens := g } ∧ St i h' ∧ Fr h₀ env.locals h' m' ∧ News h₀ env.locals h' news' ∧ (∀ p ∈ news', p.1 ≠ I) ∧ J i m' news' g ∧ i ≤ n ∧ k = n + 1 - i) ?_ (n + 1)
    ⟨s.heap, s.toks, m, news, s.gens, 0, rfl, hst, F, N, hnw, h0, Nat.zero_le _, rfl⟩
  rintro k s' ⟨h', tk, m', news', g, i, rfl, hst', F', N', hnw', hJ, hi, rfl⟩
  have next : ∀ h₁ : Heap, (∀ b o, b ∉ [I] → h'.get? b = some o → h₁.get? b = some o) → Fr h₀ env.locals h₁ m' ∧ News h₀ env.locals h₁ news' := fun h₁ hk₁ =>
    ⟨⟨F'.ns.at' fun o e => hk₁ _ o (by simpa using hLI) e, fun b o e => hk₁ b o (old b o e) (F'.keep b o e), F'.above⟩, fun p hp => ⟨hk₁ _ _ (by simpa using hnw' p hp) (N' p hp).1, (N' p hp).2⟩⟩
  by_cases hlt : i < n
  · refine W.item i _ _ _ hlt hst' fun v h₁ tk₁ hP hst₁ hk₁ => ?_
    obtain ⟨F₁, N₁⟩ := next h₁ hk₁
    refine wpAny_assign_Name (wpAny_storeName_local hx F₁.ns (fun h₂ hn₂ hs₂ => ?_) hp)
    have F₂ := F₁.set hn₂ hs₂
    have N₂ := N₁.set hs₂
    obtain ⟨oI, hoI⟩ := hIo _ _ hst₁
    have hoI₂ : h₂.get? I = some oI := (hs₂.2 I (Ne.symm hLI)).trans hoI
    have N₃ : News h₀ env.locals h₂ ((I, oI) :: news') := fun p hp => by
      rcases List.mem_cons.mp hp with rfl | hp
      · exact ⟨hoI₂, Ne.symm hLI, hI₀⟩
      · exact N₂ p hp
    refine wpAny_mono (wpAny_passesOwn hE (turn i v m' news' g oI h₂ _ hlt hP hJ hnw' F₂ N₃)) (fun f s₃ h₃ => ?_) fun _ _ e => e
    have fin : StepG h₀ env.locals I oI (J (i + 1)) Q s .next s₃ → ∃ k', k' < n + 1 - i ∧ ∃ h' tk m' news' g i, s₃ = { s with heap := h', toks := tk, gens := g } ∧ St i h' ∧ Fr h₀ env.locals h' m' ∧ News h₀ env.locals h' news' ∧ (∀ p ∈ news', p.1 ≠ I) ∧ J i m' news' g ∧ i ≤ n ∧ k' = n + 1 - i := by
      rintro ⟨h₃', tk₃, m₂, news₂, g₂, rfl, F₃, N₄, ha₃, hJ₃⟩
      refine ⟨n + 1 - (i + 1), by (first | lia | omega), h₃', tk₃, m₂, news₂, g₂, i + 1, rfl, ?_, F₃, fun p hp => N₄ p (.tail _ hp), ha₃, hJ₃, hlt, rfl⟩
      refine W.frame _ _ _ hst₁ fun b hb o e => ?_
      rcases List.mem_cons.mp hb with rfl | hb
      · rw [hoI] at e; cases e
        exact (N₄ _ (.head _)).1
      · have e1 := (N₁ _ (hfp _ _ _ _ hJ b hb)).1
        have e2 := (N₄ _ (.tail _ (hfp _ _ _ _ hJ₃ b hb))).1
        dsimp only at e1 e2
        rw [e1] at e; cases e
        exact e2
    cases f with
    | ret v => exact h₃
    | brk => exact h₃
    | cont => exact fin h₃
    | next => exact fin h₃
  · have hin : i = n := by (first | lia | omega)
    subst hin
    refine W.done _ _ _ hst' fun h₁ tk₁ hk₁ => wpAny_execs_nil ?_
    obtain ⟨F₁, N₁⟩ := next h₁ hk₁
    exact done h₁ tk₁ m' news' g F₁ N₁ hJ

/-- for x in a list that stands in the ledger -/
theorem for_listG {Q : Flow → Shared → Prop} {x : Str} {px : Pos} {body : List Stmt} {l : Addr} {vs : List Value} {k : Nat} {m : Str → Option Value} {news : List (Addr × Obj)}
    (J : Nat → (Str → Option Value) → List (Addr × Obj) → Array GenState → Prop)
    (hh : A.handled = none) (hx : env.kindOf x = some .local)
    (hp : (env.scope.kind == .class || (env.scope.kind == .module && env.locals != env.globals)) = false) (hE : PassesOwn (model prog w) A env E)
    (F : Fr h₀ env.locals s.heap m) (N : News h₀ env.locals s.heap news) (h0 : J 0 m news s.gens) (hfp : ∀ i m nx g, J i m nx g → (l, listOf vs.toArray k) ∈ nx)
    (turn : ∀ i v m₁ news₁ g I oI h tk, vs[i]? = some v → J i m₁ news₁ g → (∀ p ∈ news₁, p.1 ≠ I) →
      Fr h₀ env.locals h (fun y => if y = x then some v else m₁ y) → News h₀ env.locals h ((I, oI) :: news₁) →
      wpAny (model prog w) A (execs body env) (StepG h₀ env.locals I oI (J (i + 1)) Q s) E { s with heap := h, toks := tk, gens := g })
    (done : ∀ h' tk m' news' g, Fr h₀ env.locals h' m' → News h₀ env.locals h' news' → J vs.length m' news' g → Q .next { s with heap := h', toks := tk, gens := g }) :
    wpAny (model prog w) A (pyIter (.ref l)) (fun it s₂ => codeAny (model prog w) A (.forLoop (.Name x px) it body [] env) (fun r s' => match r with | .ok f => Q f s' | .error e => cameBackBy (model prog w) A env E e s') s₂) E s := by
  have hls : s.heap.IsList l vs.toArray := mem_isList N (hfp _ _ _ _ h0)
  have hlt : l < s.heap.objs.size := by obtain ⟨o, e, _⟩ := id hls; exact Heap.lt_size e
  have hne : l ≠ s.heap.objs.size := Nat.ne_of_lt hlt
  refine wpAny_pyIter_list hls ?_
  have W := Walks.list (prog := prog) (w := w) hh s.heap.objs.size l hne vs.toArray
  rw [show vs.toArray.size = vs.length by simp] at W
  refine codeAny_forLoopG (fp := [l]) (ob := fun _ => listOf vs.toArray k) (n := vs.length) W (fun i h st => by obtain ⟨o, e, _⟩ := st.1; exact ⟨o, e⟩) hx hp hE (Nat.ne_of_lt F.ns.lt) (next_is_new F)
    (fun p hp => Nat.ne_of_lt (Heap.lt_size (N p hp).1)) ⟨⟨_, Heap.get?_push_size _ rfl, rfl, rfl⟩, hls.at fun o e => Heap.get?_push_of_some _ e⟩ (F.push _) (fun p hp => ⟨Heap.get?_push_of_some _ (N p hp).1, (N p hp).2⟩) J h0
    (fun i m nx g hj b hb => by rw [List.mem_singleton.mp hb]; exact hfp i m nx g hj) ?_ ?_
  · intro i v m₁ news₁ g oI h tk _ hP hJ hnw F₁ N₁
    exact turn i v m₁ news₁ g _ oI h tk (by simpa using hP) hJ hnw F₁ N₁
  · intro h' tk m' news' g F' N' hJ
    exact done h' tk m' news' g F' N' hJ
/-- for x in range(a, b, c) -/
theorem for_rangeC {Q : Flow → Shared → Prop} {x : Str} {px : Pos} {body : List Stmt} {r : Addr} {a b c : Int} {t u v : Tok} {n : Nat} {m : Str → Option Value} {news : List (Addr × Obj)}
    (J : Nat → (Str → Option Value) → List (Addr × Obj) → Array GenState → Prop)
    (hh : A.handled = none) (hx : env.kindOf x = some .local)
    (hp : (env.scope.kind == .class || (env.scope.kind == .module && env.locals != env.globals)) = false) (hE : PassesOwn (model prog w) A env E)
    (hr : IsRange s.heap r a b c t u v) (hsmall : Builtin.Range.small a b c = true) (hn : Builtin.Range.rangeSize a b c = (n : Int))
    (F : Fr h₀ env.locals s.heap m) (N : News h₀ env.locals s.heap news) (h0 : J 0 m news s.gens)
    (turn : ∀ i t m₁ news₁ g I oI h tk, i < n → J i m₁ news₁ g → (∀ p ∈ news₁, p.1 ≠ I) →
      Fr h₀ env.locals h (fun y => if y = x then some (.int (a + (i : Int) * c) t) else m₁ y) → News h₀ env.locals h ((I, oI) :: news₁) →
      wpAny (model prog w) A (execs body env) (StepG h₀ env.locals I oI (J (i + 1)) Q s) E { s with heap := h, toks := tk, gens := g })
    (done : ∀ h' tk m' news' g, Fr h₀ env.locals h' m' → News h₀ env.locals h' news' → J n m' news' g → Q .next { s with heap := h', toks := tk, gens := g }) :
    wpAny (model prog w) A (pyIter (.ref r)) (fun it s₂ => codeAny (model prog w) A (.forLoop (.Name x px) it body [] env) (fun r s' => match r with | .ok f => Q f s' | .error e => cameBackBy (model prog w) A env E e s') s₂) E s := by
  refine wpAny_pyIter_range hr hsmall ?_
  refine codeAny_forLoopG (fp := []) (ob := fun _ => default) (n := n) (Walks.range hh s.heap.objs.size a c n) (fun i h st => Exists.intro _ st) hx hp hE (Nat.ne_of_lt F.ns.lt) (next_is_new F)
    (fun p hp => Nat.ne_of_lt (Heap.lt_size (N p hp).1)) (by show IsRangeIter _ _ _ _ _; rw [hn]; simpa using Heap.get?_push_size _ rfl) (F.push _) (fun p hp => ⟨Heap.get?_push_of_some _ (N p hp).1, (N p hp).2⟩) J h0
    (fun i m nx g hj b hb => by cases hb) ?_ ?_
  · intro i v m₁ news₁ g oI h tk hi hv hJ hnw F₁ N₁
    obtain ⟨t, rfl⟩ := hv
    exact turn i t m₁ news₁ g _ oI h tk hi hJ hnw F₁ N₁
  · intro h' tk m' news' g F' N' hJ
    exact done h' tk m' news' g F' N' hJ
/-- for x in range(a, b) -/
theorem for_rangeG {Q : Flow → Shared → Prop} {x : Str} {px : Pos} {body : List Stmt} {r : Addr} {a b : Int} {t u v : Tok} {n : Nat} {m : Str → Option Value} {news : List (Addr × Obj)}
    (J : Nat → (Str → Option Value) → List (Addr × Obj) → Array GenState → Prop)
    (hh : A.handled = none) (hx : env.kindOf x = some .local)
    (hp : (env.scope.kind == .class || (env.scope.kind == .module && env.locals != env.globals)) = false) (hE : PassesOwn (model prog w) A env E)
    (hr : IsRange s.heap r a b 1 t u v) (hsmall : Builtin.Range.small a b 1 = true) (hn : Builtin.Range.rangeSize a b 1 = (n : Int))
    (F : Fr h₀ env.locals s.heap m) (N : News h₀ env.locals s.heap news) (h0 : J 0 m news s.gens)
    (turn : ∀ i t m₁ news₁ g I oI h tk, i < n → J i m₁ news₁ g → (∀ p ∈ news₁, p.1 ≠ I) →
      Fr h₀ env.locals h (fun y => if y = x then some (.int (a + (i : Int)) t) else m₁ y) → News h₀ env.locals h ((I, oI) :: news₁) →
      wpAny (model prog w) A (execs body env) (StepG h₀ env.locals I oI (J (i + 1)) Q s) E { s with heap := h, toks := tk, gens := g })
    (done : ∀ h' tk m' news' g, Fr h₀ env.locals h' m' → News h₀ env.locals h' news' → J n m' news' g → Q .next { s with heap := h', toks := tk, gens := g }) :
    wpAny (model prog w) A (pyIter (.ref r)) (fun it s₂ => codeAny (model prog w) A (.forLoop (.Name x px) it body [] env) (fun r s' => match r with | .ok f => Q f s' | .error e => cameBackBy (model prog w) A env E e s') s₂) E s := by
  refine wpAny_pyIter_range hr hsmall ?_
  refine codeAny_forLoopG (fp := []) (ob := fun _ => default) (n := n) (Walks.range hh s.heap.objs.size a 1 n) (fun i h st => Exists.intro _ st) hx hp hE (Nat.ne_of_lt F.ns.lt) (next_is_new F)
    (fun p hp => Nat.ne_of_lt (Heap.lt_size (N p hp).1)) (by show IsRangeIter _ _ _ _ _; rw [hn]; simpa using Heap.get?_push_size _ rfl) (F.push _) (fun p hp => ⟨Heap.get?_push_of_some _ (N p hp).1, (N p hp).2⟩) J h0
    (fun i m nx g hj b hb => by cases hb) ?_ ?_
  · intro i v m₁ news₁ g oI h tk hi hv hJ hnw F₁ N₁
    obtain ⟨t, rfl⟩ := hv
    have e1 : a + (i : Int) * 1 = a + (i : Int) := by (first | lia | omega)
    rw [e1] at F₁
    exact turn i t m₁ news₁ g _ oI h tk hi hJ hnw F₁ N₁
  · intro h' tk m' news' g F' N' hJ
    exact done h' tk m' news' g F' N' hJ
theorem news_add {h₀ h h' : Heap} {L : Addr} {m : Str → Option Value} {news : List (Addr × Obj)} {o : Obj} (F : Fr h₀ L h m) (N : News h₀ L h news) (up : ∀ b o, h.get? b = some o → h'.get? b = some o)
    (ho : h'.get? h.objs.size = some o) : News h₀ L h' ((h.objs.size, o) :: news) := fun p hp => by
  rcases List.mem_cons.mp hp with rfl | hp
  · refine ⟨ho, Ne.symm (Nat.ne_of_lt F.ns.lt), ?_⟩
    cases e : h₀.get? h.objs.size with
    | none => rfl
    | some o' => exact absurd (Heap.lt_size (F.keep _ _ e)) (Nat.lt_irrefl _)
  · exact ⟨up _ _ (N p hp).1, (N p hp).2⟩
end
end Mine
end

section
open PySem PySem.W PySem.Calls PyProof.Rows in
theorem Mine.resetComp {M : Model} {A : Around} {E : Value → Shared → Prop} {s : Shared} {Q : Bool → Shared → Prop} {v : Value} (h : wpAny M A (truthy v) Q E s) : wpAny M A (truthy v) Q E s := by
  w_top off
  k_with_none
  first | (walk1; fail) | exact h
open PySem PySem.W PySem.Calls PyProof.Rows PyProof.Rows.LCg PyProof.Rows.LCt
namespace Mine
/-- a test's end: it answers b, the ledger is as it was -/
noncomputable def TestEnd (h₀ : Heap) (L : Addr) (m : Str → Option Value) (s₀ : Shared) (nx : List (Addr × Obj)) (b ok : Bool) (s' : Shared) : Prop :=
  ok = b ∧ ∃ h' tk', s' = { s₀ with heap := h', toks := tk' } ∧ Fr h₀ L h' m ∧ News h₀ L h' nx
section
variable {prog : Program} {w : World} {A : Around} {E : Value → Shared → Prop} {s : Shared} {h₀ : Heap} {L : Addr} {m : Str → Option Value} {env : Env}
/-- [x for x in its if ct]: the turns' test answers b i -/
theorem compRest_filter {ct : Expr} {x : Str} {px : Pos} {scope : Scope} {cl : List (Str × Addr)} {S : List (Addr × Obj) → Prop} {its : Array Value} {Fin : List Value → List (Addr × Obj) → Prop} {news : List (Addr × Obj)} {b : Nat → Bool}
    (G : Nat → List Value → Prop) (hkind : scope.kind = .function) (hx : scope.names.lookup x = some .local) (hS : S news)
    (hb : (x == ("__debug__" : Str)) = false)
    (hGs : ∀ i v ys, its[i]? = some v → G i ys → G (i + 1) (if b i = true then ys ++ [v] else ys))
    (turn : ∀ i v I oI C oC D ys m₂ h tk (E' : Value → Shared → Prop), its[i]? = some v → NsObj oC m₂ → m₂ x = some v → Fr h₀ L h m → News h₀ L h ((I, oI) :: (C, oC) :: (D, lst ys) :: news) →
      wpAny (model prog w) A (isTrue ct (compEnvC scope cl C env) (eval ct (compEnvC scope cl C env))) (TestEnd h₀ L m s ((I, oI) :: (C, oC) :: (D, lst ys) :: news) (b i)) E' { s with heap := h, toks := tk }) :
    ∀ (k i : Nat) (ys : List Value), i + k = its.size → G i ys → (∀ ys, G its.size ys → Fin ys news) →
    CompRestT prog w A h₀ L m env ct (.Name x px) x scope cl s S (fun i v => its[i]? = some v) Fin k i ys news
  | 0, i, ys, hik, hG, hF => by
    have : i = its.size := by (first | lia | omega)
    subst this
    exact CompRestT.zero (hF _ hG)
  | k + 1, i, ys, hik, hG, hF => by
    refine CompRestT.succ ?_
    intro v I oI C oC D m₂ h tk E' hv hns hm₂ F N off ne
    refine wpAny_mono (turn i v I oI C oC D ys m₂ h tk E' hv hns hm₂ F N) (fun ok s' h₁ => ?_) fun _ _ e => e
    obtain ⟨rfl, h', tk', rfl, F', N'⟩ := h₁
    have hg := hGs i v ys hv hG
    by_cases hbi : b i = true
    · rw [if_pos hbi]
      rw [if_pos hbi] at hg
      refine wpAny_Name (wpAny_loadName_local (m := m₂) hkind (lookup_relabel_local hx) ?_ hm₂ ?_) hb
      · exact hns.ns (N' _ (.tail _ (.head _))).1
      · exact CompEnd.intro (s₁ := { s with heap := h, toks := tk }) F' N' news (fun p hp => hp) off hS (compRest_filter G hkind hx hS hb hGs turn k (i + 1) _ (by (first | lia | omega)) hg hF)
    · rw [if_neg hbi]
      rw [if_neg hbi] at hg
      exact CompEnd.intro (s₁ := { s with heap := h, toks := tk }) F' N' news (fun p hp => hp) off hS (compRest_filter G hkind hx hS hb hGs turn k (i + 1) _ (by (first | lia | omega)) hg hF)
end
end Mine
namespace Mine
section
variable {prog : Program} {w : World} {A : Around} {E : Value → Shared → Prop} {s : Shared} {h₀ : Heap} {L : Addr} {m : Str → Option Value} {env : Env}
/-- y = [x for x in l if ct], x a cell of the block (an inner block closes over it) -/
theorem comp_cell {ct iter : Expr} {x y fv : Str} {px px' py : Pos} {scope : Scope} {cl : List (Str × Addr)} {pos spos : Pos} {Q : Flow → Shared → Prop} {l : Addr} {vs : List Value} {cnt : Nat} {news : List (Addr × Obj)} {b : Nat → Bool}
    (G : Nat → List Value → Prop) (hLe : env.locals = L) (hh : A.handled = none)
    (hsw : swapsWith (.ListComp (.Name x px') [⟨.Name x px, iter, [ct], 0⟩] scope pos) (some (.Name y py)) spos.line env = pure true)
    (hclos : closureFor scope env = pure cl) (hkind : scope.kind = .function) (hsc : scope.names = [(Str.ofString ".0", .local), (x, .cell), (fv, .free)]) (hx0 : (x == Str.ofString ".0") = false)
    (hb : (x == ("__debug__" : Str)) = false)
    (hy : env.kindOf y = some .local) (hp : (env.scope.kind == .class || (env.scope.kind == .module && env.locals != env.globals)) = false)
    (hG0 : G 0 []) (hGs : ∀ i v ys, vs[i]? = some v → G i ys → G (i + 1) (if b i = true then ys ++ [v] else ys)) (hsz : vs.length ≤ sizeLine)
    (hiter : wpAny (model prog w) A (eval iter env) (fun xv s₁ => xv = .ref l ∧ Fr h₀ L s₁.heap m ∧ News h₀ L s₁.heap news ∧ (l, listOf vs.toArray cnt) ∈ news ∧
      (∀ i v I oI C oC K oK D ys h tk (E' : Value → Shared → Prop), vs[i]? = some v → oK.data = .cell (some v) → Fr h₀ L h m → News h₀ L h ((I, oI) :: (C, oC) :: (K, oK) :: (D, lst ys) :: news) →
        wpAny (model prog w) A (isTrue ct (compEnvC scope ((x, K) :: cl) C env) (eval ct (compEnvC scope ((x, K) :: cl) C env)))
          (TestEnd h₀ L m s₁ ((I, oI) :: (C, oC) :: (K, oK) :: (D, lst ys) :: news) (b i)) E' { s₁ with heap := h, toks := tk }) ∧
      (∀ D h tk ys, G vs.length ys → Fr h₀ L h (fun z => if z = y then some (.ref D) else m z) → News h₀ L h ((D, lst ys) :: news) → (∀ p ∈ news, p.1 < D) → Q .next { s₁ with heap := h, toks := tk })) E s)
    (hs : ∀ x, foldedSetIterable iter env x = pure x := by intro _; rfl) :
    wpAny (model prog w) A (exec (.Assign [.Name y py] (.ListComp (.Name x px') [⟨.Name x px, iter, [ct], 0⟩] scope pos) spos) env) Q E s := by
  subst hLe
  rw [exec_Assign_Name_used _ _ _ _ hsw]
  refine wpAny_bind (wpAny_standAt (wpAny_bind ?_))
  show wpAny _ A (do let _ ← comprehension (.ListComp (.Name x px') [⟨.Name x px, iter, [ct], 0⟩] scope pos) scope env _ (newList []) false (eval iter env) (some (assign (.Name y py) env))) _ _ s
  refine wpAny_bind (wpAny_mono (wpAny_comprehension_free (use := some (assign (.Name y py) env)) (Q := fun _ s' => Q .next s') rfl hs hclos hkind ?_
    (wpAny_mono hiter (fun xv s₁ h₁ => ?_) fun _ _ e => e)) (fun _ s' hq => wpAny_pure (wpAny_pure hq)) fun _ _ e => e)
  · intro z hz hl
    rw [hsc] at hz ⊢
    simp only [List.mem_cons, List.not_mem_nil, or_false] at hz
    rcases hz with rfl | rfl | rfl
    · rfl
    · cases hl
    · cases hl
  obtain ⟨rfl, F, N, hm, turn, done⟩ := h₁
  have hls : s₁.heap.IsList l vs.toArray := ⟨_, (N _ hm).1, rfl, cnt, rfl⟩
  have hlt : l < s₁.heap.objs.size := by obtain ⟨o, e, _⟩ := id hls; exact Heap.lt_size e
  have hne : l ≠ s₁.heap.objs.size := Nat.ne_of_lt hlt
  have hlt0 := hlt
  refine wpAny_pyIter_list hls ?_
  refine wpAny_newObj_type ?_
  simp only [newFunctionEnv, Option.isSome_some, if_true]
  refine wpAny_bind (wpAny_alloc ?_)
  refine wpAny_bind (wpAny_layCells _ (fun name kind cells => by cases hkc : kind == NameKind.cell <;> simp [hkc]) _ _ _ _ ?_)
  rw [List.forIn_nil]
  refine wpAny_bind (wpAny_pure (wpAny_pure ?_))
  rw [hsc]
  simp only [cellsFrom, pushCells, show (NameKind.local == NameKind.cell) = false from rfl, show (NameKind.cell == NameKind.cell) = true from rfl, show (NameKind.free == NameKind.cell) = false from rfl, Bool.false_eq_true, if_false, if_true]
  generalize hI : s₁.heap.objs.size = I at *
  generalize hH1 : s₁.heap.push { cls := .type "list_iterator", dict := none, data := .fields #[.ref l, .int 0 0] } = H1
  generalize hH2 : H1.push { cls := .type "list", dict := none, data := .seq #[] } = H2
  generalize hH3 : H2.push { cls := .type "dict", dict := none, data := .dict #[] } = H3
  generalize hH4 : H3.push { cls := .type "cell", dict := none, data := .cell none } = H4
  have e1 : H1.objs.size = I + 1 := by rw [← hH1, Heap.size_push, hI]
  have e2 : H2.objs.size = I + 2 := by rw [← hH2, Heap.size_push, e1]
  have e3 : H3.objs.size = I + 3 := by rw [← hH3, Heap.size_push, e2]
  have up1 : ∀ b o, s₁.heap.get? b = some o → H1.get? b = some o := fun b o e => hH1 ▸ Heap.get?_push_of_some _ e
  have up2 : ∀ b o, H1.get? b = some o → H2.get? b = some o := fun b o e => hH2 ▸ Heap.get?_push_of_some _ e
  have up3 : ∀ b o, H2.get? b = some o → H3.get? b = some o := fun b o e => hH3 ▸ Heap.get?_push_of_some _ e
  have up4 : ∀ b o, H3.get? b = some o → H4.get? b = some o := fun b o e => hH4 ▸ Heap.get?_push_of_some _ e
  have up : ∀ b o, s₁.heap.get? b = some o → H4.get? b = some o := fun b o e => up4 _ _ (up3 _ _ (up2 _ _ (up1 _ _ e)))
  have gI : H4.get? I = some { cls := .type "list_iterator", dict := none, data := .fields #[.ref l, .int 0 0] } := up4 _ _ (up3 _ _ (up2 _ _ (hH1 ▸ hI ▸ Heap.get?_push_size _ rfl)))
  have gD : H4.get? (I + 1) = some (lst []) := up4 _ _ (up3 _ _ (hH2 ▸ e1 ▸ Heap.get?_push_size _ rfl))
  have gC : H4.Ns (I + 2) (fun _ => none) := (e2 ▸ hH3 ▸ Heap.Ns.new H2 (.type "dict") : H3.Ns (I + 2) fun _ => none).keeps up4
  have gK : H4.get? (I + 3) = some { cls := .type "cell", dict := none, data := .cell none } := hH4 ▸ e3 ▸ Heap.get?_push_size _ rfl
  rw [e1, e2, e3]
  have fresh₀ : ∀ a, I ≤ a → h₀.get? a = none := fun a ha => by
    cases e : h₀.get? a with
    | none => rfl
    | some o' =>
      have := Heap.lt_size (F.keep a o' e)
      rw [hI] at this
      exact absurd this (Nat.not_lt.mpr ha)
  have hlI : l < I := by first | exact hlt0 | (rw [← hI]; exact hlt0)
  have hLI : env.locals < I := hI ▸ F.ns.lt
  have nI : ∀ p ∈ news, p.1 < I := fun p hp => hI ▸ Heap.lt_size (N p hp).1
  have F4 : Fr h₀ env.locals H4 m := F.keeps up
  have N4 : News h₀ env.locals H4 news := N.grown up
  have loop : codeAny (model prog w) A (.compLoop (.ListComp (.Name x px') [⟨.Name x px, iter, [ct], 0⟩] scope pos) 0 (.ref I) (.ref (I + 1)) (compEnvC scope ((x, I + 3) :: cl) (I + 2) env))
      (compPost (model prog w) A E (some (assign (Expr.Name y py) env)) (fun x s' => Q Flow.next s') (.ref (I + 1)) (I + 2)) { s₁ with heap := H4 } := by
    have W := Walks.list (prog := prog) (w := w) hh I l (hI ▸ hne) vs.toArray
    rw [show vs.toArray.size = vs.length by simp] at W
    refine codeAny_compLoop_tests
      (fun k s' => ∃ h' tk i ys v0, s' = { s₁ with heap := h', toks := tk } ∧ i ≤ vs.length ∧ k = vs.length + 1 - i ∧ ys.length ≤ i ∧ (h'.IsListIter I l i ∧ h'.IsList l vs.toArray) ∧ Fr h₀ env.locals h' m ∧ h'.Ns (I + 2) (fun _ => none) ∧ h'.IsCell (I + 3) v0 ∧
        News h₀ env.locals h' ((I + 1, lst ys) :: news) ∧ G i ys) ?_ (vs.length + 1)
      ⟨H4, _, 0, [], none, rfl, Nat.zero_le _, rfl, Nat.le_refl _, ⟨⟨_, gI, rfl, rfl⟩, hls.at fun o e => up _ o e⟩, F4, gC, ⟨_, gK, rfl⟩, ?_, hG0⟩
    · have dKI : I + 3 ≠ I := by show ¬ @Eq Nat (I + 3) I; (first | lia | omega)
      have dCI : I + 2 ≠ I := by show ¬ @Eq Nat (I + 2) I; (first | lia | omega)
      have dDI : I + 1 ≠ I := by show ¬ @Eq Nat (I + 1) I; (first | lia | omega)
      have dKC : I + 3 ≠ I + 2 := by show ¬ @Eq Nat (I + 3) (I + 2); (first | lia | omega)
      have dKD : I + 3 ≠ I + 1 := by show ¬ @Eq Nat (I + 3) (I + 1); (first | lia | omega)
      have dCD : I + 2 ≠ I + 1 := by show ¬ @Eq Nat (I + 2) (I + 1); (first | lia | omega)
      have lI : @LE.le Nat _ I (I + 1) := Nat.le_succ _
      have pL : ∀ a : Nat, I ≤ a → a ≠ env.locals := fun a ha e => Nat.lt_irrefl _ (Nat.lt_of_lt_of_le hLI (e ▸ ha))
      have pN : ∀ a : Nat, I ≤ a → ∀ p ∈ news, p.1 ≠ a := fun a ha p hp e => Nat.lt_irrefl _ (Nat.lt_of_lt_of_le (nI p hp) (e ▸ ha))
      rintro k s' ⟨h', tk, i, ys, v0, rfl, hi, rfl, hyl, hst', F', hn', hK', N', hG⟩
      by_cases hlt : i < vs.length
      · refine W.item i _ _ _ hlt hst' fun v h₂ tk₂ hPv hst₂ hk₂ => ?_
        have nK : ∀ a, a ≠ I → a ∉ [I] := fun a ha hm => ha (List.mem_singleton.mp hm)
        refine wpAny_assign_Name (wpAny_storeName_cell (c := I + 3) (v₀ := v0) hkind ?_ ?_ (by obtain ⟨oK0, a1, a2⟩ := id hK'; exact ⟨oK0, hk₂ _ _ (nK _ dKI) a1, a2⟩) (fun h₃ hc₃ hs₃ => ?_))
        · show List.lookup x ((relabel scope env).names) = _
          unfold relabel
          rw [hsc]
          simp [List.lookup_cons, hx0]
        · simp [compEnvC, List.lookup_cons]
        refine wpAny_tests_one ?_
        obtain ⟨oK, hoK, hdK⟩ := id hc₃
        have F₂ : Fr h₀ env.locals h₂ m := fr_but F' hk₂ (Nat.ne_of_lt hLI) (fresh₀ I (Nat.le_refl _))
        have F₃ : Fr h₀ env.locals h₃ m := F₂.change hs₃ (pL _ (Nat.le_add_right _ _)) (fresh₀ _ (Nat.le_add_right _ _))
        have g2 : ∀ b o, b ≠ I → b ≠ I + 3 → h'.get? b = some o → h₃.get? b = some o := fun b o b1 b2 e => hs₃.extBut b o b2 (hk₂ _ _ (nK _ b1) e)
        have N₃ : News h₀ env.locals h₃ ((I + 1, lst ys) :: news) := fun p hp => by
          refine ⟨g2 _ _ ?_ ?_ (N' p hp).1, (N' p hp).2⟩
          · rcases List.mem_cons.mp hp with rfl | hp
            · exact dDI
            · exact pN _ (Nat.le_refl _) p hp
          · rcases List.mem_cons.mp hp with rfl | hp
            · exact Ne.symm dKD
            · exact pN _ (Nat.le_add_right _ _) p hp
        obtain ⟨oC, hoC, hnC⟩ := ns_obj hn'
        have hoC₃ := g2 _ _ dCI (Ne.symm dKC) hoC
        have hst₃ : h₃.IsListIter I l (i + 1) ∧ h₃.IsList l vs.toArray := W.frame _ _ _ hst₂ fun b hb o e => hs₃.extBut b o (fun q => by
          simp only [List.mem_cons, List.not_mem_nil, or_false] at hb
          rcases hb with rfl | rfl
          · exact dKI q.symm
          · exact absurd q (fun q => Nat.lt_irrefl _ (Nat.lt_of_lt_of_le hlI (q ▸ Nat.le_add_right I 3)))) e
        obtain ⟨oI, hoI, hdI⟩ := id hst₃.1
        have N₄ : News h₀ env.locals h₃ ((I, oI) :: (I + 2, oC) :: (I + 3, oK) :: (I + 1, lst ys) :: news) := fun p hp => by
          rcases List.mem_cons.mp hp with rfl | hp
          · exact ⟨hoI, pL _ (Nat.le_refl _), fresh₀ _ (Nat.le_refl _)⟩
          rcases List.mem_cons.mp hp with rfl | hp
          · exact ⟨hoC₃, pL _ (Nat.le_add_right _ _), fresh₀ _ (Nat.le_add_right _ _)⟩
          rcases List.mem_cons.mp hp with rfl | hp
          · exact ⟨hoK, pL _ (Nat.le_add_right _ _), fresh₀ _ (Nat.le_add_right _ _)⟩
          · exact N₃ p hp
        have hvi : vs[i]? = some v := by simpa using hPv
        refine wpAny_mono (turn i v I oI (I + 2) oC (I + 3) oK (I + 1) ys h₃ _ _ hvi hdK F₃ N₄) (fun ok s' h₅ => ?_) fun _ _ e => e
        obtain ⟨rfl, h₆, tk₆, rfl, F₆, N₆⟩ := h₅
        have hg := hGs i v ys hvi hG
        have hst₆ : h₆.IsListIter I l (i + 1) ∧ h₆.IsList l vs.toArray := ⟨⟨oI, (N₆ _ (.head _)).1, hdI⟩, ⟨_, (N₆ _ (.tail _ (.tail _ (.tail _ (.tail _ hm))))).1, rfl, cnt, rfl⟩⟩
        have hC₆ : h₆.Ns (I + 2) (fun _ => none) := hnC.ns (N₆ _ (.tail _ (.head _))).1
        have hK₆ : h₆.IsCell (I + 3) (some v) := ⟨oK, (N₆ _ (.tail _ (.tail _ (.head _)))).1, hdK⟩
        have N₇ : News h₀ env.locals h₆ ((I + 1, lst ys) :: news) := fun p hp => N₆ p (.tail _ (.tail _ (.tail _ hp)))
        by_cases hbi : b i = true
        · rw [if_pos hbi]
          rw [if_pos hbi] at hg
          refine wpAny_Name (wpAny_loadName_cell (c := I + 3) hkind ?_ ?_ hK₆ ?_) hb
          · show List.lookup x ((relabel scope env).names) = _
            unfold relabel
            rw [hsc]
            simp [List.lookup_cons, hx0]
          · simp [compEnvC, List.lookup_cons]
          refine append_at (hsz := by show ys.toArray.size ≤ sizeLine; rw [List.size_toArray]; exact Nat.le_trans (Nat.le_trans hyl hi) hsz) (N₇ _ (.head _)).1 fun h₈ hs₈ hD₈ => ?_
          refine ⟨vs.length + 1 - (i + 1), by (first | lia | omega), h₈, _, i + 1, ys ++ [v], some v, rfl, hlt, rfl, by rw [List.length_append, List.length_singleton]; (first | lia | omega), ⟨?_, ?_⟩, F₆.change hs₈ (pL _ lI) (fresh₀ _ lI), hC₆.sameBut hs₈ dCD, hK₆.sameBut hs₈ dKD, ?_, hg⟩
          · exact ⟨oI, hs₈.extBut _ _ (Ne.symm dDI) (N₆ _ (.head _)).1, hdI⟩
          · exact ⟨_, hs₈.extBut _ _ (pN _ lI _ hm) (N₇ _ (.tail _ hm)).1, rfl, cnt, rfl⟩
          · intro p hp
            rcases List.mem_cons.mp hp with rfl | hp
            · exact ⟨hD₈.trans (congrArg some (lst_snoc ys v)), pL _ lI, fresh₀ _ lI⟩
            · exact ⟨hs₈.extBut _ _ (pN _ lI _ hp) (N₇ _ (.tail _ hp)).1, (N₇ _ (.tail _ hp)).2⟩
        · rw [if_neg hbi]
          rw [if_neg hbi] at hg
          exact ⟨vs.length + 1 - (i + 1), by (first | lia | omega), h₆, _, i + 1, ys, some v, rfl, hlt, rfl, by (first | lia | omega), hst₆, F₆, hC₆, hK₆, N₇, hg⟩
      · obtain rfl : i = vs.length := Nat.le_antisymm hi (Nat.not_lt.mp hlt)
        refine W.done _ _ _ hst' fun h₂ tk₂ hk₂ => ?_
        have nK : ∀ a, a ≠ I → a ∉ [I] := fun a ha hm => ha (List.mem_singleton.mp hm)
        have F₂ : Fr h₀ env.locals h₂ m := fr_but F' hk₂ (Nat.ne_of_lt hLI) (fresh₀ I (Nat.le_refl _))
        show wpAny _ A (assign (.Name y py) env (.ref (I + 1))) _ _ _
        refine wpAny_assign_Name (wpAny_storeName_local hy F₂.ns (fun h₃ hn₃ hs₃ => ?_) hp)
        have hL₀ : h₀.get? env.locals = none := Heap.get?_none_of_le F'.above
        have F₃ : Fr h₀ env.locals h₃ (fun z => if z = y then some (.ref (I + 1)) else m z) := ⟨hn₃, fun b o e => hs₃.extBut b o (fun q => by rw [q, hL₀] at e; cases e) (F₂.keep b o e), F₂.above⟩
        have hn₂ : h₂.Ns (I + 2) (fun _ => none) := hn'.at' fun o e => hk₂ _ o (nK _ dCI) e
        refine ⟨_, hn₂.sameBut hs₃ (pL _ (Nat.le_add_right _ _)), fun h'' hs'' => done (I + 1) h'' _ ys hG (F₃.change hs'' (pL _ (Nat.le_add_right _ _)) (fresh₀ _ (Nat.le_add_right _ _))) (fun p hp => ?_) (fun p hp => Nat.lt_succ_of_lt (nI p hp))⟩
        refine ⟨hs''.extBut _ _ ?_ (hs₃.extBut _ _ (N' p hp).2.1 (hk₂ _ _ (nK _ ?_) (N' p hp).1)), (N' p hp).2⟩
        · rcases List.mem_cons.mp hp with rfl | hp
          · exact Ne.symm dCD
          · exact pN _ (Nat.le_add_right _ _) p hp
        · rcases List.mem_cons.mp hp with rfl | hp
          · exact dDI
          · exact pN _ (Nat.le_refl _) p hp
    · intro p hp
      rcases List.mem_cons.mp hp with rfl | hp
      · exact ⟨gD, fun e => Nat.lt_irrefl _ (Nat.lt_trans hLI (e ▸ Nat.lt_succ_self I)), fresh₀ _ (Nat.le_succ _)⟩
      · exact N4 p hp
  exact codeAny_compStart_list loop (Walks.list (prog := prog) (w := w) hh I l (hI ▸ hne) vs.toArray |>.self 0 _ _ _ ⟨⟨_, gI, rfl, rfl⟩, hls.at fun o e => up _ o e⟩ loop)
end
end Mine
end

section
open PySem PySem.W PySem.Calls PyProof.Rows in
theorem Mine.resetEqS {M : Model} {A : Around} {E : Value → Shared → Prop} {s : Shared} {Q : Bool → Shared → Prop} {v : Value} (h : wpAny M A (truthy v) Q E s) : wpAny M A (truthy v) Q E s := by
  w_top off
  k_with_none
  first | (walk1; fail) | exact h
open PySem PySem.W PySem.Calls PyProof.Rows PyProof.V PySem.Spec
namespace Mine
theorem strs_canLay : ∀ ns : List Str, (∀ x ∈ ns, PyData.strOk x = true) → PyData.canLayAll0 (ns.map PyData.str) = true
  | [], _ => rfl
  | a :: r, h => by simp [PyData.canLayAll0, PyData.canLay0, strs_canLay r fun x hx => h x (.tail _ hx), h a (.head _)]
theorem strs_depth : ∀ ns : List Str, PyData.depthAll (ns.map PyData.str) = 0
  | [] => rfl
  | _ :: r => by simp [PyData.depthAll, PyData.depth, strs_depth r]
theorem strs_shaped (ns : List Str) (h : ∀ x ∈ ns, PyData.strOk x = true) : SeqAt.shaped (.list (ns.map PyData.str)) = true := by
  simp [SeqAt.shaped, PyData.canLay0, PyData.depth, strs_canLay ns h, strs_depth]
theorem strs_sameAll : ∀ ns ms : List Str, PySem.Spec.sameAll (ns.map PyData.str) (ms.map PyData.str) = decide (ns = ms)
  | [], [] => by simp [PySem.Spec.sameAll]
  | [], _ :: _ => by simp [PySem.Spec.sameAll]
  | _ :: _, [] => by simp [PySem.Spec.sameAll]
  | a :: r, b :: t => by
    simp only [List.map_cons, PySem.Spec.sameAll, PySem.Spec.same, strs_sameAll r t]
    by_cases h : a = b <;> by_cases h' : r = t <;> simp [h, h']
theorem strs_same (ns ms : List Str) : PySem.Spec.same (.list (ns.map PyData.str)) (.list (ms.map PyData.str)) = decide (ns = ms) := by
  simp only [PySem.Spec.same]; exact strs_sameAll ns ms
theorem strs_carried : ∀ {vs : List Value} {ns : List Str}, StrsAre vs ns → CarriedAll vs (ns.map PyData.str)
  | _, _, .nil => .nil
  | _, _, .cons _ t r => .cons (.str _ t) (strs_carried r)
section
variable {prog : Program} {w : World} {A : Around} {E : Value → Shared → Prop} {s : Shared} {a b : Addr} {xs ys : List Value} {ns ms : List Str} {Q : Value → Shared → Prop}
theorem eq_strs (ha : s.heap.IsList a xs.toArray) (hb : s.heap.IsList b ys.toArray) (hi : StrsAre xs ns) (hj : StrsAre ys ms) (oa : ∀ x ∈ ns, PyData.strOk x = true) (ob : ∀ x ∈ ms, PyData.strOk x = true) (hu : A.units + 64 < cLine) (h : Q (.bool (decide (ns = ms))) s) :
    wpAny (model prog w) A (compareOp .Eq (.ref a) (.ref b)) Q E s :=
  eq_dataH_same (reads_newData ha (strs_carried hi)) (reads_newData hb (strs_carried hj)) (strs_shaped _ oa) (strs_shaped _ ob) hu (SeqAt.noMix_of_shape (.list .str) rfl _ _ (list_map_has fun _ => rfl) (list_map_has fun _ => rfl)) (by rw [strs_same]; exact h)
theorem ne_strs (ha : s.heap.IsList a xs.toArray) (hb : s.heap.IsList b ys.toArray) (hi : StrsAre xs ns) (hj : StrsAre ys ms) (oa : ∀ x ∈ ns, PyData.strOk x = true) (ob : ∀ x ∈ ms, PyData.strOk x = true) (hu : A.units + 64 < cLine) (h : Q (.bool (!decide (ns = ms))) s) :
    wpAny (model prog w) A (compareOp .NotEq (.ref a) (.ref b)) Q E s :=
  ne_dataH_same (reads_newData ha (strs_carried hi)) (reads_newData hb (strs_carried hj)) (strs_shaped _ oa) (strs_shaped _ ob) hu (SeqAt.noMix_of_shape (.list .str) rfl _ _ (list_map_has fun _ => rfl) (list_map_has fun _ => rfl)) (by rw [strs_same]; exact h)
end
end Mine
end

section
open PySem PySem.W PySem.Calls PyProof.Rows in
theorem Mine.resetNet {M : Model} {A : Around} {E : Value → Shared → Prop} {s : Shared} {Q : Bool → Shared → Prop} {v : Value} (h : wpAny M A (truthy v) Q E s) : wpAny M A (truthy v) Q E s := by
  w_top off
  k_with_none
  first | (walk1; fail) | exact h
open PySem PySem.W PySem.Calls PyProof.Rows
namespace Mine
local macro_rules | `(tactic| walk_at $s:str) => `(tactic| k_extra $s)
noncomputable def addNew (names : List Str) (x : Str) : List Str := if x ∈ names then names else names ++ [x]
noncomputable def nameAt (labels : List Str) (k : Nat) : Str := Str.ofString "." ++ Txt.join (Str.ofString ".") (labels.drop k)
noncomputable def sufs (x : Str) : List Str := (List.range (Txt.split x (Str.ofString ".")).length).map (nameAt (Txt.split x (Str.ofString ".")))
noncomputable def addAll (ns : List Str) (x : Str) : List Str := (sufs x).foldl addNew ns
noncomputable def namesOf (xs : List Str) : List Str := xs.foldl addAll []
theorem names_step {xs : List Str} {i : Nat} {x : Str} (h : xs[i]? = some x) : namesOf (xs.take (i + 1)) = addAll (namesOf (xs.take i)) x := by
  unfold namesOf
  rw [List.take_add_one, h, List.foldl_append]
  rfl
theorem sufs_step {x : Str} {j : Nat} (ns : List Str) (h : j < (Txt.split x (Str.ofString ".")).length) :
    ((sufs x).take (j + 1)).foldl addNew ns = addNew (((sufs x).take j).foldl addNew ns) (Str.ofString "." ++ Txt.join (Str.ofString ".") ((Txt.split x (Str.ofString ".")).drop j)) := by
  have e : (sufs x)[j]? = some (nameAt (Txt.split x (Str.ofString ".")) j) := by
    unfold sufs
    rw [List.getElem?_map, List.getElem?_range h]
    rfl
  rw [List.take_add_one, e, List.foldl_append]
  rfl
theorem sufs_all (x : Str) : (sufs x).take (Txt.split x (Str.ofString ".")).length = sufs x := List.take_of_length_le (by unfold sufs; rw [List.length_map, List.length_range]; exact Nat.le_refl _)
theorem names_step' {xs : List Str} {i : Nat} {x : Str} (h : xs[i]? = some x) : namesOf (xs.take (i + 1)) = (sufs x).foldl addNew (namesOf (xs.take i)) := names_step h
/-- all the hosts end so -/
noncomputable def hasAll (xs : List Str) (nm : Str) : Bool := xs.all fun h => Txt.endswith (Str.ofString "." ++ h) nm
noncomputable def netV (xs : List Str) : Int := ((namesOf xs).length : Int) - (((namesOf xs).filter (hasAll xs)).length : Int)
theorem filter_step {vs : List Value} {xs : List Str} (hs : StrsAre vs xs) {i : Nat} {v : Value} (hv : vs[i]? = some v) {f : Str → Bool} {ys : List Value} (h : StrsAre ys ((xs.take i).filter f)) :
    StrsAre (if f (xs.getD i Str.empty) = true then ys ++ [v] else ys) ((xs.take (i + 1)).filter f) := by
  obtain ⟨x, t, rfl, hx⟩ := hs.item i v hv
  rw [List.getD_eq_getElem?_getD, hx, List.take_add_one, hx, List.filter_append]
  show StrsAre (if f x = true then _ else _) (_ ++ List.filter f [x])
  by_cases e : f x = true
  · rw [if_pos e, List.filter_cons_of_pos e]
    exact kct_snoc h
  · rw [if_neg e, List.filter_cons_of_neg e, List.filter_nil, List.append_nil]
    exact h
theorem none_left {xs : List Str} {f : Str → Bool} : decide (xs.filter (fun y => !f y) = []) = xs.all f := by
  induction xs with
  | nil => rfl
  | cons a l ih =>
    by_cases e : f a = true
    · rw [List.filter_cons_of_neg (by simp [e]), ih, List.all_cons, e, Bool.true_and]
    · rw [List.filter_cons_of_pos (by simp [e]), List.all_cons]
      simp [e]
theorem addNew_in {ns : List Str} {x : Str} (h : (ns.any fun y => y == x) = true) : addNew ns x = ns := by
  unfold addNew
  rw [if_pos]
  obtain ⟨y, hy, e⟩ := List.any_eq_true.mp h
  exact (beq_iff_eq.mp e) ▸ hy
theorem addNew_out {ns : List Str} {x : Str} (h : (ns.any fun y => y == x) = false) : addNew ns x = ns ++ [x] := by
  unfold addNew
  rw [if_neg]
  intro hx
  have : (ns.any fun y => y == x) = true := List.any_eq_true.mpr ⟨x, hx, beq_self_eq_true x⟩
  rw [h] at this
  cases this
theorem strs_from {lb : List (Str × Tok)} {ys : List Str} (e : lb.map (·.1) = ys) (j : Nat) : StrsAre (slicePick (strValues lb).toArray (some (0 + (j : Int))) none none).toList (ys.drop j) := by
  rw [Int.zero_add, slicePick_from', ← e]
  exact (strs_values lb).drop' j
theorem join_room {ys : List Str} {j : Nat} (h1 : ys.length ≤ 20) (h2 : ∀ a ∈ ys, a.length ≤ 50) : ((ys.drop j).map (·.length)).sum + (ys.drop j).length * (Str.ofString ".").length ≤ 16777216 := by
  have h3 : (Str.ofString ".").length = 1 := by decide
  have h4 : ∀ l : List Str, (∀ a ∈ l, a.length ≤ 50) → (l.map (·.length)).sum ≤ 50 * l.length := by
    intro l
    induction l with
    | nil => intro _; simp
    | cons a l ih =>
      intro h
      have := ih fun b hb => h b (.tail _ hb)
      have := h a (.head _)
      simp only [List.map_cons, List.sum_cons, List.length_cons]
      (first | lia | omega)
  have h5 := h4 (ys.drop j) fun a ha => h2 a (List.mem_of_mem_drop ha)
  have h6 : (ys.drop j).length ≤ 20 := by rw [List.length_drop]; (first | lia | omega)
  rw [h3]
  (first | lia | omega)
theorem names_len {xs : List Str} (hl : (xs.length : Int) ≤ 100) (hsl : ∀ x ∈ xs, (Txt.split x (Str.ofString ".")).length ≤ 20) : (namesOf xs).length ≤ 2000 := by
  have h1 : ∀ (l ns : List Str), (l.foldl addNew ns).length ≤ ns.length + l.length := by
    intro l
    induction l with
    | nil => intro ns; simp
    | cons a l ih =>
      intro ns
      rw [List.foldl_cons, List.length_cons]
      have := ih (addNew ns a)
      have h2 : (addNew ns a).length ≤ ns.length + 1 := by unfold addNew; split <;> simp
      (first | lia | omega)
  have h2 : ∀ (l ns : List Str), (∀ x ∈ l, (Txt.split x (Str.ofString ".")).length ≤ 20) → (l.foldl addAll ns).length ≤ ns.length + 20 * l.length := by
    intro l
    induction l with
    | nil => intro ns _; simp
    | cons a l ih =>
      intro ns h
      rw [List.foldl_cons, List.length_cons]
      have h3 := ih (addAll ns a) fun x hx => h x (.tail _ hx)
      have h4 := h1 (sufs a) ns
      have h5 : (sufs a).length ≤ 20 := by unfold sufs; rw [List.length_map, List.length_range]; exact h a (.head _)
      unfold addAll at *
      (first | lia | omega)
  have h3 := h2 xs [] hsl
  unfold namesOf
  simp only [List.length_nil] at h3
  (first | lia | omega)
noncomputable def StopN (p : Prop) : Prop := p
theorem stop_inN {p : Prop} (h : StopN p) : p := h
section
variable {w : World} {p : Program} {loose : List Str} {mean : ExcName → Option Value} {mg mb : Str → Option Value} {news : List (Addr × Obj)}
    {dp un : Nat} {gd : Option (List Code)} {cn : Str} {cs : Scope} {a : Addr} {ccd : Value} {cl : List (Str × Addr)} {outer : List Env} {A₀ : Around} {base h₀ : Heap} {L : Addr} {m : Str → Option Value} {s : Shared} {Q E : Value → Shared → Prop}

set_option maxHeartbeats 4000000 in
theorem law_net_call {D : Addr} {n : Nat} {vs : List Value} {xs : List Str}
    (B : Below A₀ base outer h₀) (F : Fr h₀ L s.heap m) (X : (hd.heap_39 w.params).In h₀) (N : News h₀ L s.heap news) (T : Top p loose mean mg mb h₀) (hk : cs.kind = .function)
    (hD : (D, listOf vs.toArray n) ∈ news) (hs : StrsAre vs xs) (hl : (xs.length : Int) ≤ 100) (hxl : ∀ x ∈ xs, x.length ≤ 50) (hsl : ∀ x ∈ xs, (Txt.split x (Str.ofString ".")).length ≤ 20 ∧ ∀ a ∈ Txt.split x (Str.ofString "."), a.length ≤ 50) (hok : ∀ x ∈ xs, PyData.strOk x = true) (hjn : ∀ x ∈ xs, ∀ k, (Txt.join (Str.ofString ".") ((Txt.split x (Str.ofString ".")).drop k)).length ≤ 100) (hd : dp + 2 < recursionLimit) (hu : un + 120 < cLine)
    (hret : ∀ (t' : Tok) (h' : Heap) (tk' : Nat), Fr h₀ L h' m → News h₀ L h' news → Q (.int (netV xs) t') { s with heap := h', toks := tk' }) :
    wpAny (model PG w) (ktrTop dp un gd cn cs L a ccd cl outer) (call (.ref 136) [.ref D]) Q E s := by
  k_with_none
  (k_with "call builtin:str.join" => (k_here; (with_reducible show wpAny _ _ (call (Value.builtin "str.join") [Value.str _ _, Value.ref _]) _ _ _); k_dflt (refine' join_list (mem_isListA ?j1N (List.Mem.head _)) (strs_from (by assumption) _) (join_room (by assumption) (by assumption)) ?_; (case j1N => k_asm); k_whole); intro zzt9 k9))
  (k_with "call builtin:len" => (k_here; (with_reducible show wpAny _ _ (call (Value.builtin "len") [Value.ref _]) _ _ _); k_dflt (refine' len_strsA (mem_isListA ?l1N ?l1m) ?l1i ?l1f ?_; (case l1N => k_asm); (case l1m => first | exact List.Mem.head _ | exact List.Mem.tail _ (List.Mem.head _)); (case l1i => assumption); (case l1f => (first | lia | omega)); k_whole)))
  (k_with "compareOp NotIn" => (k_here; (with_reducible show wpAny _ _ (compareOp CmpOp.NotIn (Value.str _ _) (Value.ref _)) _ _ _); k_dflt (refine' notin_list_strs (mem_isList ?n1N ?n1m) ?n1i ?_; (case n1N => k_asm); (case n1m => (first | assumption | exact List.Mem.head _ | exact InU.get (by assumption) | exact List.Mem.tail _ (List.Mem.head _) | exact List.Mem.tail _ (by assumption) | exact List.Mem.tail _ (InU.get (by assumption)) | exact List.Mem.tail _ (List.Mem.tail _ (List.Mem.head _)) | exact List.Mem.tail _ (List.Mem.tail _ (by assumption)) | exact List.Mem.tail _ (List.Mem.tail _ (InU.get (by assumption))) | exact List.Mem.tail _ (List.Mem.tail _ (List.Mem.tail _ (List.Mem.head _))) | exact List.Mem.tail _ (List.Mem.tail _ (List.Mem.tail _ (by assumption))) | exact List.Mem.tail _ (List.Mem.tail _ (List.Mem.tail _ (InU.get (by assumption)))) | exact List.Mem.tail _ (List.Mem.tail _ (List.Mem.tail _ (List.Mem.tail _ (List.Mem.head _)))) | exact List.Mem.tail _ (List.Mem.tail _ (List.Mem.tail _ (List.Mem.tail _ (by assumption)))) | exact List.Mem.tail _ (List.Mem.tail _ (List.Mem.tail _ (List.Mem.tail _ (InU.get (by assumption))))) | exact List.Mem.tail _ (List.Mem.tail _ (List.Mem.tail _ (List.Mem.tail _ (List.Mem.tail _ (List.Mem.head _))))) | exact List.Mem.tail _ (List.Mem.tail _ (List.Mem.tail _ (List.Mem.tail _ (List.Mem.tail _ (by assumption))))) | exact List.Mem.tail _ (List.Mem.tail _ (List.Mem.tail _ (List.Mem.tail _ (List.Mem.tail _ (InU.get (by assumption)))))) | exact List.Mem.tail _ (List.Mem.tail _ (List.Mem.tail _ (List.Mem.tail _ (List.Mem.tail _ (List.Mem.tail _ (List.Mem.head _)))))) | exact List.Mem.tail _ (List.Mem.tail _ (List.Mem.tail _ (List.Mem.tail _ (List.Mem.tail _ (List.Mem.tail _ (by assumption)))))) | exact List.Mem.tail _ (List.Mem.tail _ (List.Mem.tail _ (List.Mem.tail _ (List.Mem.tail _ (List.Mem.tail _ (InU.get (by assumption))))))) | exact List.Mem.tail _ (List.Mem.tail _ (List.Mem.tail _ (List.Mem.tail _ (List.Mem.tail _ (List.Mem.tail _ (List.Mem.tail _ (List.Mem.head _))))))) | exact List.Mem.tail _ (List.Mem.tail _ (List.Mem.tail _ (List.Mem.tail _ (List.Mem.tail _ (List.Mem.tail _ (List.Mem.tail _ (by assumption))))))) | exact List.Mem.tail _ (List.Mem.tail _ (List.Mem.tail _ (List.Mem.tail _ (List.Mem.tail _ (List.Mem.tail _ (List.Mem.tail _ (InU.get (by assumption)))))))) | exact List.Mem.tail _ (List.Mem.tail _ (List.Mem.tail _ (List.Mem.tail _ (List.Mem.tail _ (List.Mem.tail _ (List.Mem.tail _ (List.Mem.tail _ (List.Mem.head _)))))))) | exact List.Mem.tail _ (List.Mem.tail _ (List.Mem.tail _ (List.Mem.tail _ (List.Mem.tail _ (List.Mem.tail _ (List.Mem.tail _ (List.Mem.tail _ (by assumption)))))))) | exact List.Mem.tail _ (List.Mem.tail _ (List.Mem.tail _ (List.Mem.tail _ (List.Mem.tail _ (List.Mem.tail _ (List.Mem.tail _ (List.Mem.tail _ (InU.get (by assumption))))))))))); (case n1i => assumption); k_whole)))
  (k_with "exec For Name Name cons nil" => (k_here; k_dflt (refine wpAny_For ?_)))
  (k_with "exec For Name Call cons nil" => (k_here; k_dflt (refine wpAny_For ?_)))
  (k_with "compareOp Eq ref ref" => (k_here; refine stop_inN ?_))

  refine wpAny_call ?_
  k_dflt (refine' code_defC ?k1 ?k2 ?k3 ?k4 ?k5 ?kA ?kF ?kK ?k6 ?k7 ?k8 ?k9 ?kB ?kD ?_ ?c2 ?c3 ?c4; (case kA => exact rfl); (case kF => exact rfl); (case kK => assumption); (case k1 => k_asm); (case k2 => k_asm); (case k3 => k_asm); (case k4 => k_asm); (case k5 => k_asm); (case k6 => k_is); (case k7 => k_is); (case k8 => ktr_room); (case k9 => first | exact BindsTo.of_eq rfl | exact kp_binds (by k_in) (fun _ => rfl)); (case kB => exact rfl); (case kD => decide +kernel); (case c2 => exact rfl); (case c3 => exact rfl); (case c4 => exact rfl); k_whole; intro g' L' h' tk' cells' FG' F' N' Y' B' X' T' l1; (try k_lt l1); k_cells Y'; (try simp only [List.cons_append, List.nil_append] at N'); (try dsimp only); (try k_lift B'); (try k_fold))
  k_steps
  rename_i lN ha0 la0 hb0 F0 N0
  rename Obj => oC
  have laN : ∀ p ∈ news, p.1 ≠ lN := fun p hp => Nat.ne_of_lt (allLt_mem la0.2 p hp)
  refine for_listG (J := fun i m nx g => g = s.gens ∧ m (Str.ofString "names") = some (.ref lN) ∧ ∃ nv cnt, nx = (lN, listOf nv.toArray cnt) :: (L' + 1, oC) :: news ∧ StrsAre nv (namesOf (xs.take i))) (vs := vs) (k := n) rfl rfl rfl (by passes_own) (by k_asm) (by assumption) ?_ ?_ ?_ ?_
  · exact ⟨rfl, rfl, [], 0, rfl, .nil⟩
  · rintro i m nx g ⟨_, _, nv, cnt, rfl, _⟩
    exact .tail _ (.tail _ hD)
  · intro i v m₁ news₁ g I oI h tk hv hJ hoff F9 N9
    obtain ⟨hg, hm, nv, cnt, hnx, hsn⟩ := hJ
    subst hnx hg
    obtain ⟨x, tx, hvx, hx⟩ := hs.item i v hv
    subst hvx
    have hxl' := hxl x (List.mem_of_getElem? hx)
    have qN : @LT.lt Nat _ lN h.objs.size := Heap.lt_size (N9 _ (.tail _ (.head _))).1
    have qI : @LT.lt Nat _ I h.objs.size := Heap.lt_size (N9 _ (.head _)).1
    have qC : @LT.lt Nat _ (L' + 1) h.objs.size := Heap.lt_size (N9 _ (.tail _ (.tail _ (.head _)))).1
    have hIN : @Ne Nat lN I := hoff _ (.head _)
    rw [upd_know hm] at F9
    dsimp only at F9
    k_steps
    rename IsRange _ _ _ _ _ _ _ _ => hr9
    rename List (Str × Tok) => lb
    rename List.map _ _ = Txt.split _ _ => hsp
    have hlab : lb.length = (Txt.split x (Str.ofString ".")).length := by rw [← hsp, List.length_map]
    obtain ⟨hsl1, hsl2⟩ := hsl x (List.mem_of_getElem? hx)
    have qlab : lN ≠ h.objs.size := Nat.ne_of_lt qN
    have offI : ∀ v c, ∀ p ∈ (lN, listOf v c) :: (L' + 1, oC) :: news, p.1 ≠ I := by
      intro v c p hp
      rcases List.mem_cons.mp hp with rfl | hp
      · exact hIN
      · exact hoff _ (.tail _ hp)
    generalize h.objs.size = lab at *
    refine for_rangeG (J := fun j m nx g => g = s.gens ∧ m (Str.ofString "names") = some (.ref lN) ∧ m (Str.ofString "labels") = some (.ref lab) ∧ ∃ nv2 cnt2, nx = (lab, listOf (strValues lb).toArray 0) :: (I, oI) :: (lN, listOf nv2.toArray cnt2) :: (L' + 1, oC) :: news ∧ StrsAre nv2 (((sufs x).take j).foldl addNew (namesOf (xs.take i))) ∧ nv2.length ≤ nv.length + j) (n := lb.length) rfl rfl rfl (by passes_own) hr9 ?_ ?_ (by k_asm) (by assumption) ?_ ?_ ?_
    · exact small_one (by decide) (by decide) (by (first | lia | omega)) (by (first | lia | omega))
    · rw [rangeSize_nat, Int.sub_zero, Int.toNat_natCast]
    · exact ⟨rfl, rfl, rfl, nv, cnt, rfl, hsn, Nat.le_refl _⟩
    · intro j t2 m₂ news₂ g2 I2 oI2 h2 tk2 hj hJ2 hoff2 F8 N8
      obtain ⟨hg2, hm2, hm3, nv2, cnt2, hnx2, hsn2, hle2⟩ := hJ2
      subst hnx2 hg2
      have hIN2 : lN ≠ I2 := hoff2 _ (.tail _ (.tail _ (.head _)))
      have hLN2 : lab ≠ I2 := hoff2 _ (.head _)
      have hIN3 : lN ≠ I := hoff _ (.head _)
      have qn2 : @LT.lt Nat _ lN h2.objs.size := Heap.lt_size (N8 _ (.tail _ (.tail _ (.tail _ (.head _))))).1
      have qnv : nv2.length ≤ 5000 := by
        have h1 := hsn.len_eq
        have h2 := names_len (xs := xs.take i) (by rw [List.length_take]; (first | lia | omega)) fun y hy => (hsl y (List.mem_of_mem_take hy)).1
        (first | lia | omega)
      have nx3 : ∀ p ∈ (L' + 1, oC) :: news, p.1 ≠ lN := by
        intro p hp
        rcases List.mem_cons.mp hp with rfl | hp
        · exact Nat.ne_of_lt la0.1
        · exact laN p hp
      rw [upd_know hm2, upd_know hm3] at F8
      dsimp only at F8
      have hjl := hjn x (List.mem_of_getElem? hx) j
      have hstep := sufs_step (x := x) (j := j) (namesOf (xs.take i)) (by (first | lia | omega))
      k_steps
      · rename (List.any _ _ = true) => hin
        rw [addNew_in hin] at hstep
        refine ⟨_, _, _, _, _, rfl, by k_asm, (by rename News _ L' _ _ => kN; exact fun p hp => kN p (.tail _ hp)), hoff2, rfl, rfl, rfl, nv2, cnt2, rfl, hstep ▸ hsn2, Nat.le_succ_of_le hle2⟩
      · rename (List.any _ _ = false) => hin
        rw [addNew_out hin] at hstep
        rename News _ L' _ _ => kN
        refine append_K (its := nv2.toArray) (by k_asm) (fun p hp => kN p (.tail _ hp)) (Upd.tail (Ne.symm hIN2) (Upd.tail (Nat.ne_of_gt qN) (Upd.tail (Ne.symm hIN3) (Upd.head nx3)))) ?_ (by rw [List.size_toArray, sizeLine_eq]; (first | lia | omega))
        intro h5 F5 N5
        k_steps
        rw [List.push_toArray] at N5
        refine ⟨_, _, _, _, _, rfl, F5, N5, ?_, rfl, rfl, rfl, nv2 ++ [_], cnt2 + 1, rfl, hstep ▸ kct_snoc hsn2, ?_⟩
        · intro p hp
          rcases List.mem_cons.mp hp with rfl | hp
          · exact hLN2
          rcases List.mem_cons.mp hp with rfl | hp
          · exact hoff2 _ (.tail _ (.head _))
          rcases List.mem_cons.mp hp with rfl | hp
          · exact hIN2
          · exact hoff2 _ (.tail _ (.tail _ (.tail _ hp)))
        · rw [List.length_append, List.length_singleton]; (first | lia | omega)
    · intro h5 tk5 m5 news5 g5 F5 N5 hJ5
      obtain ⟨hg5, hm5, hm6, nv5, cnt5, hnx5, hsn5, hle5⟩ := hJ5
      subst hnx5 hg5
      rw [hlab, sufs_all, ← names_step' hx] at hsn5
      k_steps
      exact ⟨_, _, _, _, _, rfl, F5, fun p hp => N5 p (.tail _ hp), offI _ _, rfl, hm5, nv5, cnt5, rfl, hsn5⟩
  · intro h5 tk5 m5 news5 g5 F5 N5 hJ5
    obtain ⟨hg5, hm5, nv5, cnt5, hnx5, hsn5⟩ := hJ5
    subst hnx5 hg5
    rw [hs.len_eq, List.take_length] at hsn5
    rw [upd_know hm5] at F5
    k_steps
    have lenN := names_len hl fun y hy => (hsl y hy).1
    have lenV := hsn5.len_eq
    refine comp_cell (l := lN) (vs := nv5) (cnt := cnt5) (b := fun i => hasAll xs ((namesOf xs).getD i Str.empty)) (news := (lN, listOf nv5.toArray cnt5) :: (L' + 1, oC) :: news) (m := fun y => if y = Str.ofString "names" then some (.ref lN) else m5 y) (h₀ := g')
      (fun i ys => StrsAre ys (((namesOf xs).take i).filter (hasAll xs))) rfl rfl (by with_unfolding_all rfl) (by with_unfolding_all rfl) rfl rfl (by rfl) (by rfl) (by rfl) (by rfl) .nil ?_ (by rw [sizeLine_eq]; (first | lia | omega)) ?_
    · intro i v ys hv hys
      exact filter_step (f := hasAll xs) hsn5 hv hys
    refine wpAny_Name (wpAny_loadName_local (m := fun y => if y = Str.ofString "names" then some (.ref lN) else m5 y) rfl rfl F5.ns rfl ?_) rfl
    refine ⟨rfl, F5, N5, .head _, ?_, ?_⟩
    · intro i v I oI C oC K oK D2 ys h tk E' hv hoK F6 N6
      obtain ⟨nm, tn, rfl, hnm⟩ := hsn5.item i v hv
      refine wpAny_isTrue_Compare1 ?_
      refine LCt.ListComp_T (F₀ := F6) (by with_unfolding_all rfl) (by decide) (by rfl) (by decide) (by rfl) ?_
      refine lcf_cell N6 rfl (.tail _ (.tail _ (.tail _ (.tail _ (.tail _ (.head _)))))) (by assumption) ?_ rfl rfl
      refine LCt.CompSrcT.ledger (by rfl) F6 N6 (.tail _ (.tail _ (.tail _ (.tail _ (.tail _ (.tail _ hD)))))) (by rw [List.size_toArray, sizeLine_eq, hs.len_eq]; (first | lia | omega)) ?_
      intro g9
      refine compRest_filter (b := fun j => !Txt.endswith (Str.ofString "." ++ xs.getD j Str.empty) nm) (fun j ys => StrsAre ys ((xs.take j).filter fun y => !Txt.endswith (Str.ofString "." ++ y) nm)) rfl rfl ?_ rfl ?_ ?_ _ 0 [] (Nat.zero_add _) .nil ?_
      · exact .inr ⟨_, .tail _ (.tail _ (.tail _ (.tail _ (.tail _ (.tail _ hD))))), rfl, _, rfl⟩
      · intro j v ys3 hv3 hys3
        exact filter_step (f := fun y => !Txt.endswith (Str.ofString "." ++ y) nm) hs (by simpa using hv3) hys3
      · intro j v I3 oI3 C3 oC3 D3 ys3 m3 h3 tk3 E3 hv3 hns3 hm3 F7 N7
        have hv4 : vs[j]? = some v := by simpa using hv3
        obtain ⟨y, ty, rfl, hy⟩ := hs.item j v hv4
        have hyl := hxl y (List.mem_of_getElem? hy)
        have hyj : xs.getD j Str.empty = y := by rw [List.getD_eq_getElem?_getD, hy]; rfl
        rw [hyj]
        k_steps
        exact ⟨rfl, _, _, rfl, by k_asm, by k_asm⟩
      · rw [List.size_toArray, hs.len_eq, List.take_length]
        intro ys3 hys3 D3 h3 tk3 F7 N7 off7
        k_steps
        rename News _ L' _ _ => kN
        unfold StopN
        refine eq_strs (ys := []) (mem_isListA (n := ys3.length) kN (.tail _ (.head _))) (mem_isListA (n := 0) kN (.head _)) hys3 .nil (fun y hy => hok y (List.mem_filter.mp hy).1) (fun y hy => by cases hy) (by ktr_units) ?_
        rw [none_left (f := fun y => Txt.endswith (Str.ofString "." ++ y) nm)]
        have hgd : (namesOf xs).getD i Str.empty = nm := by rw [List.getD_eq_getElem?_getD, hnm]; rfl
        rw [hgd]
        k_steps
        exact ⟨rfl, _, _, rfl, by k_asm, fun p hp => kN p (.tail _ (.tail _ hp))⟩
    · intro D2 h tk ys hys F6 N6 hlt
      rw [hsn5.len_eq, List.take_length] at hys
      have lenF : ((namesOf xs).filter (hasAll xs)).length ≤ 5000 := Nat.le_trans (List.length_filter_le _ _) (by (first | lia | omega))
      have mC : (D2, listOf ys.toArray ys.length) ∈ (D2, LCg.lst ys) :: (lN, listOf nv5.toArray cnt5) :: (L' + 1, oC) :: news := .head _
      k_steps
      rename News h₀ L _ _ => kN
      exact hret _ _ _ (by k_asm) (fun p hp => kN p (.tail _ (.tail _ (.tail _ hp))))
end
end Mine
end

section
open PySem PySem.W PySem.Calls PyProof.Rows in
theorem Mine.resetSL3 {M : Model} {A : Around} {E : Value → Shared → Prop} {s : Shared} {Q : Bool → Shared → Prop} {v : Value} (h : wpAny M A (truthy v) Q E s) : wpAny M A (truthy v) Q E s := by
  w_top off
  k_with_none
  first | (walk1; fail) | exact h
open PySem PySem.W PySem.Calls PyProof.Rows
open Sem (wp)
namespace Mine
section
variable {M : Model} {A : Around} {E : Value → Shared → Prop} {s : Shared} {env : Env}
theorem wpS_runOwn {c : Code} {h : Option Value} {Q : Flow → Shared → Prop} (hb : bad c = false)
    (hc : codeS M (A.mark h) c (fun r s' => match r with | .ok f => Q f s' | .error e => cameBackBy M A env E e s') s) (hnb : h ≠ some byPass := by intro x; cases x) :
    wpS M A (runOwn c env h) Q E s := by
  unfold runOwn
  exact wpS_onRaise (wpS_mono (wpS_run hb hc hnb) (fun _ _ h => h) fun _ _ h => wpS_of h)
theorem forS {target iter : Expr} {body orelse : List Stmt} {pos : Pos} {Q : Flow → Shared → Prop}
    (h : wpAny M A (eval iter env) (fun x s₁ => wpAny M A (pyIter x) (fun it s₂ =>
      codeS M A (.forLoop target it body orelse env) (fun r s' => match r with | .ok f => Q f s' | .error e => cameBackBy M A env E e s') s₂) E s₁) E s)
    (hs : ∀ x, foldedSetIterable iter env x = pure x := by intro _; rfl) :
    wpS M A (exec (.For target iter body orelse pos) env) Q E s := by
  rw [exec_For]
  exact wpS_bindA (wpAny_standAt (wpS_bindA (wpAny_mono h (fun x s₁ h₁ => wpS_bindA (wpAny_of_eq (hs x) (wpS_bindA (wpAny_standAt (wpS_bind (wpS_holding
    (wpS_of (wpAny_mono h₁ (fun it s₂ h₂ => wpS_runOwn (h := none) rfl h₂) fun _ _ h' => h'))))))))
    fun _ _ h' => h')))
end
section
variable {prog : Program} {w : World} {A : Around} {E : Value → Shared → Prop} {s : Shared} {env : Env} {h₀ : Heap}
theorem wpS_noted {α : Type} {M : Model} {m : Sem α} {Q : α → Shared → Prop} (h : wpS M A m Q (notedBy M A env E) s) : wpS M A (m.onRaise fun x => do noteFrame x env; theTreesLotGoes x) Q E s :=
  wpS_onRaise (wpS_mono h (fun _ _ q => q) fun _ _ hx => wpS_of (wpAny_bind (wpAny_mono hx (fun _ _ e => wpAny_theTreesLotGoes e) fun _ _ e => e)))
theorem codeS_forLoop {R : Result → Shared → Prop} {target : Expr} {it : Value} {body orelse : List Stmt} (I : Nat → Shared → Prop)
    (turn : ∀ n s, I n s → wpAny (model prog w) A (pyNext it) (fun r s₁ => match r with
      | none => wpAny (model prog w) A (execs orelse env) (fun f s₃ => R (.ok f) s₃) (notedBy (model prog w) A env fun e s' => R (.error e) s') s₁
      | some v => wpAny (model prog w) A (assign target env v) (fun _ s₂ => wpS (model prog w) A (execs body env) (fun f s₃ => match f with
          | .next | .cont => ∃ m, m < n ∧ I m s₃
          | .brk => R (.ok .next) s₃
          | .ret v => R (.ok (.ret v)) s₃) (notedBy (model prog w) A env fun e s' => R (.error e) s') s₂) (notedBy (model prog w) A env fun e s' => R (.error e) s') s₁) (notedBy (model prog w) A env fun e s' => R (.error e) s') s)
    (n : Nat) (h : I n s) (ht : ∀ v, letOwnedTupleGo target it v = pure () := by intro _; rfl) : codeS (model prog w) A (.forLoop target it body orelse env) R s := by
  refine codeS_loop rfl rfl I (fun n s hI => ?_) n h
  show wpS _ _ ((forTurn target it body orelse env).onRaise (fun x => do noteFrame x env; theTreesLotGoes x)) _ _ s
  refine wpS_noted ?_
  simp only [forTurn]
  refine wpS_bindA (wpAny_standAt (wpS_bindA (wpAny_onRaise (wpAny_mono (turn n s hI) (fun r s₁ h₁ => ?_) fun _ _ h' => wpAny_standAt h'))))
  cases r with
  | none => exact wpS_pure (.inr ⟨rfl, rfl, codeS_of (codeAny_block h₁)⟩)
  | some v =>
    refine wpS_bindA (wpAny_of_eq (ht v) ?_)
    refine wpS_bindA (wpAny_mono h₁ (fun _ s₂ h₂ => wpS_bind (wpS_mono h₂ (fun f s₃ h₃ => ?_) fun _ _ h' => h')) fun _ _ h' => h')
    cases f with
    | next => exact wpS_pure (.inl ⟨rfl, h₃⟩)
    | cont => exact wpS_pure (.inl ⟨rfl, h₃⟩)
    | brk => exact wpS_pure h₃
    | ret v => exact wpS_pure h₃
theorem codeS_forLoopG {Q : Flow → Shared → Prop} {x : Str} {px : Pos} {body : List Stmt} {I : Addr} {fp : List Addr} {ob : Addr → Obj} {n : Nat} {P : Nat → Value → Prop} {St : Nat → Heap → Prop} {m : Str → Option Value}
    {news : List (Addr × Obj)} (W : Walks prog w A I (I :: fp) [I] n P St) (hIo : ∀ (i : Nat) (h : Heap), St i h → ∃ o, h.get? I = some o) (hx : env.kindOf x = some .local)
    (hp : (env.scope.kind == .class || (env.scope.kind == .module && env.locals != env.globals)) = false) (hE : PassesOwn (model prog w) A env E)
    (hLI : env.locals ≠ I) (hI₀ : h₀.get? I = none) (hnw : ∀ p ∈ news, p.1 ≠ I)
    (hst : St 0 s.heap) (F : Fr h₀ env.locals s.heap m) (N : News h₀ env.locals s.heap news)
    (J : Nat → (Str → Option Value) → List (Addr × Obj) → Array GenState → Prop) (h0 : J 0 m news s.gens) (hfp : ∀ i m nx g, J i m nx g → ∀ b ∈ fp, (b, ob b) ∈ nx)
    (turn : ∀ i v m₁ news₁ g oI h tk, i < n → P i v → J i m₁ news₁ g → (∀ p ∈ news₁, p.1 ≠ I) →
      Fr h₀ env.locals h (fun y => if y = x then some v else m₁ y) → News h₀ env.locals h ((I, oI) :: news₁) →
      wpS (model prog w) A (execs body env) (StepG h₀ env.locals I oI (J (i + 1)) Q s) E { s with heap := h, toks := tk, gens := g })
    (done : ∀ h' tk m' news' g, Fr h₀ env.locals h' m' → News h₀ env.locals h' news' → J n m' news' g → Q .next { s with heap := h', toks := tk, gens := g }) :
    codeS (model prog w) A (.forLoop (.Name x px) (.ref I) body [] env) (fun r s' => match r with | .ok f => Q f s' | .error e => cameBackBy (model prog w) A env E e s') s := by
  have old : ∀ b o, h₀.get? b = some o → b ∉ [I] := fun b o e hb => by rw [List.mem_singleton.mp hb, hI₀] at e; cases e
  refine codeS_forLoop
    (fun k s' => ∃ h' tk m' news' g i, s' = { s with heap := h', toks := tk, gens := g } ∧ St i h' ∧ Fr h₀ env.locals h' m' ∧ News h₀ env.locals h' news' ∧ (∀ p ∈ news', p.1 ≠ I) ∧ J i m' news' g ∧ i ≤ n ∧ k = n + 1 - i) ?_ (n + 1)
    ⟨s.heap, s.toks, m, news, s.gens, 0, rfl, hst, F, N, hnw, h0, Nat.zero_le _, rfl⟩
  rintro k s' ⟨h', tk, m', news', g, i, rfl, hst', F', N', hnw', hJ, hi, rfl⟩
  have next : ∀ h₁ : Heap, (∀ b o, b ∉ [I] → h'.get? b = some o → h₁.get? b = some o) → Fr h₀ env.locals h₁ m' ∧ News h₀ env.locals h₁ news' := fun h₁ hk₁ =>
    ⟨⟨F'.ns.at' fun o e => hk₁ _ o (by simpa using hLI) e, fun b o e => hk₁ b o (old b o e) (F'.keep b o e), F'.above⟩, fun p hp => ⟨hk₁ _ _ (by simpa using hnw' p hp) (N' p hp).1, (N' p hp).2⟩⟩
  by_cases hlt : i < n
  · refine W.item i _ _ _ hlt hst' fun v h₁ tk₁ hP hst₁ hk₁ => ?_
    obtain ⟨F₁, N₁⟩ := next h₁ hk₁
    refine wpAny_assign_Name (wpAny_storeName_local hx F₁.ns (fun h₂ hn₂ hs₂ => ?_) hp)
    have F₂ := F₁.set hn₂ hs₂
    have N₂ := N₁.set hs₂
    obtain ⟨oI, hoI⟩ := hIo _ _ hst₁
    have hoI₂ : h₂.get? I = some oI := (hs₂.2 I (Ne.symm hLI)).trans hoI
    have N₃ : News h₀ env.locals h₂ ((I, oI) :: news') := fun p hp => by
      rcases List.mem_cons.mp hp with rfl | hp
      · exact ⟨hoI₂, Ne.symm hLI, hI₀⟩
      · exact N₂ p hp
    refine wpS_mono (turn i v m' news' g oI h₂ _ hlt hP hJ hnw' F₂ N₃) (fun f s₃ h₃ => ?_) hE
    have fin : StepG h₀ env.locals I oI (J (i + 1)) Q s .next s₃ → ∃ k', k' < n + 1 - i ∧ ∃ h' tk m' news' g i, s₃ = { s with heap := h', toks := tk, gens := g } ∧ St i h' ∧ Fr h₀ env.locals h' m' ∧ News h₀ env.locals h' news' ∧ (∀ p ∈ news', p.1 ≠ I) ∧ J i m' news' g ∧ i ≤ n ∧ k' = n + 1 - i := by
      rintro ⟨h₃', tk₃, m₂, news₂, g₂, rfl, F₃, N₄, ha₃, hJ₃⟩
      refine ⟨n + 1 - (i + 1), by (first | lia | omega), h₃', tk₃, m₂, news₂, g₂, i + 1, rfl, ?_, F₃, fun p hp => N₄ p (.tail _ hp), ha₃, hJ₃, hlt, rfl⟩
      refine W.frame _ _ _ hst₁ fun b hb o e => ?_
      rcases List.mem_cons.mp hb with rfl | hb
      · rw [hoI] at e; cases e
        exact (N₄ _ (.head _)).1
      · have e1 := (N₁ _ (hfp _ _ _ _ hJ b hb)).1
        have e2 := (N₄ _ (.tail _ (hfp _ _ _ _ hJ₃ b hb))).1
        dsimp only at e1 e2
        rw [e1] at e; cases e
        exact e2
    cases f with
    | ret v => exact h₃
    | brk => exact h₃
    | cont => exact fin h₃
    | next => exact fin h₃
  · have hin : i = n := by (first | lia | omega)
    subst hin
    refine W.done _ _ _ hst' fun h₁ tk₁ hk₁ => wpAny_execs_nil ?_
    obtain ⟨F₁, N₁⟩ := next h₁ hk₁
    exact done h₁ tk₁ m' news' g F₁ N₁ hJ
/-- for x in a list that stands in the ledger -/
theorem for_listS {Q : Flow → Shared → Prop} {x : Str} {px : Pos} {body : List Stmt} {l : Addr} {vs : List Value} {k : Nat} {m : Str → Option Value} {news : List (Addr × Obj)}
    (J : Nat → (Str → Option Value) → List (Addr × Obj) → Array GenState → Prop)
    (hh : A.handled = none) (hx : env.kindOf x = some .local)
    (hp : (env.scope.kind == .class || (env.scope.kind == .module && env.locals != env.globals)) = false) (hE : PassesOwn (model prog w) A env E)
    (F : Fr h₀ env.locals s.heap m) (N : News h₀ env.locals s.heap news) (h0 : J 0 m news s.gens) (hfp : ∀ i m nx g, J i m nx g → (l, listOf vs.toArray k) ∈ nx)
    (turn : ∀ i v m₁ news₁ g I oI h tk, vs[i]? = some v → J i m₁ news₁ g → (∀ p ∈ news₁, p.1 ≠ I) →
      Fr h₀ env.locals h (fun y => if y = x then some v else m₁ y) → News h₀ env.locals h ((I, oI) :: news₁) →
      wpS (model prog w) A (execs body env) (StepG h₀ env.locals I oI (J (i + 1)) Q s) E { s with heap := h, toks := tk, gens := g })
    (done : ∀ h' tk m' news' g, Fr h₀ env.locals h' m' → News h₀ env.locals h' news' → J vs.length m' news' g → Q .next { s with heap := h', toks := tk, gens := g }) :
    wpAny (model prog w) A (pyIter (.ref l)) (fun it s₂ => codeS (model prog w) A (.forLoop (.Name x px) it body [] env) (fun r s' => match r with | .ok f => Q f s' | .error e => cameBackBy (model prog w) A env E e s') s₂) E s := by
  have hls : s.heap.IsList l vs.toArray := mem_isListA N (hfp _ _ _ _ h0)
  have hlt : l < s.heap.objs.size := by obtain ⟨o, e, _⟩ := id hls; exact Heap.lt_size e
  have hne : l ≠ s.heap.objs.size := Nat.ne_of_lt hlt
  refine wpAny_pyIter_list hls ?_
  have W := Walks.list (prog := prog) (w := w) hh s.heap.objs.size l hne vs.toArray
  rw [show vs.toArray.size = vs.length by simp] at W
  refine codeS_forLoopG (fp := [l]) (ob := fun _ => listOf vs.toArray k) (n := vs.length) W (fun i h st => by obtain ⟨o, e, _⟩ := st.1; exact ⟨o, e⟩) hx hp hE (Nat.ne_of_lt F.ns.lt) (next_is_new F)
    (fun p hp => Nat.ne_of_lt (Heap.lt_size (N p hp).1)) ⟨⟨_, Heap.get?_push_size _ rfl, rfl, rfl⟩, hls.at fun o e => Heap.get?_push_of_some _ e⟩ (F.push _) (fun p hp => ⟨Heap.get?_push_of_some _ (N p hp).1, (N p hp).2⟩) J h0
    (fun i m nx g hj b hb => by rw [List.mem_singleton.mp hb]; exact hfp i m nx g hj) ?_ ?_
  · intro i v m₁ news₁ g oI h tk _ hP hJ hnw F₁ N₁
    exact turn i v m₁ news₁ g _ oI h tk (by simpa using hP) hJ hnw F₁ N₁
  · intro h' tk m' news' g F' N' hJ
    exact done h' tk m' news' g F' N' hJ
end
end Mine
end

section
open PySem PySem.W PySem.Calls PyProof.Rows in
theorem Mine.resetSL4 {M : Model} {A : Around} {E : Value → Shared → Prop} {s : Shared} {Q : Bool → Shared → Prop} {v : Value} (h : wpAny M A (truthy v) Q E s) : wpAny M A (truthy v) Q E s := by
  w_top off
  k_with_none
  first | (walk1; fail) | exact h
open PySem PySem.W PySem.Calls PyProof.Rows
open Sem (wp)
namespace Mine
section
variable {prog : Program} {w : World} {A₀ A : Around} {s : Shared} {base h₀ : Heap} {outer : List Env} {L : Addr} {m : Str → Option Value} {env : Env} {news : List (Addr × Obj)} {K : Frag} {p : Program} {loose : List Str} {mean : ExcName → Option Value} {mg mb : Str → Option Value}
  {R : Result → Shared → Prop} {name qual : Str} {params : Arguments} {body : List Stmt} {scope : Scope} {dV kV doc pm cdv ct oc : Value} {an od : Option Addr} {osl : Array (Option Value)} {f : Addr} {args : Args} {binds : List (Str × Value)}
/-- a call of a function with cells, for clean contexts -/
theorem code_defCS (B : Below A₀ base outer h₀) (F : Fr h₀ L s.heap m) (X₀ : K.In h₀) (N : News h₀ L s.heap news) (T : Top p loose mean mg mb h₀) (hA : A.frames = some (env :: outer)) (hf : env.frame = some L) (hke : env.scope.kind = .function)
    (ho : K.lookup f = some ⟨oc, od, .func (fnOf name qual params body scope dV kV doc pm an cdv ct), osl⟩) (hcd : codeIn K cdv qual = true) (hroom : A.depth < recursionLimit)
    (hbind : BindsTo s (fnOf name qual params body scope dV kV doc pm an cdv ct) args binds) (hkind : (binds.all fun y => scope.names.lookup y.1 == some .local || scope.names.lookup y.1 == some .cell) = true)
    (hnd : ((cellsFrom 0 scope.names []).map (·.1)).Nodup)
    (h : ∀ g L' h₁ tk cells, Fr h₀ L g m → Fr g L' h₁ (bindL (envOfC qual scope L' f cdv).kindOf binds fun _ => none) → News g L' h₁ (cells ++ news) →
      CellsAre (bindC (envOfC qual scope L' f cdv).kindOf binds fun _ => none) (cellsFrom (L' + 1) scope.names []) cells → Below A base (env :: outer) g → K.In g → Top p loose mean mg mb g → (∀ p ∈ news, p.1 < L') →
      wpS (model prog w) (A.deeper (envOfC qual scope L' f cdv)) (execs body (envOfC qual scope L' f cdv))
        (fun fl s' => LeaveK h₀ L m g R (match fl with | .ret v => v | _ => .none) s')
        (fun e s' => wpAny (model prog w) (A.deeper (envOfC qual scope L' f cdv)) (leaving (envOfC qual scope L' f cdv) e) (fun _ s'' => R (.error e) s'') (fun e' s'' => R (.error e') s'') s')
        { s with heap := h₁, toks := tk })
    (hco : scope.isCoroutine = false) (hgen : scope.isGenerator = false) (hk : scope.kind = .function) : codeS (model prog w) A (.call (.ref f) args) R s := by
  obtain ⟨FG, BG, st, lv⟩ := groundX (R := R) B F N hA hf hke
  have X : K.In s.heap := X₀.keeps F.keep
  refine codeS_call_function hroom (X _ _ ho) rfl hco hgen rfl (codeRec_of X hcd) (hbind _ _ _ _ ?_)
  refine wpAny_newFunctionEnv_cells hk (kindsX hkind _) fun env' he s' x => ?_
  subst he
  refine ⟨(T.nolimit.keeps F.keep).keeps x.toInCall.keep, codeS_func ?_⟩
  obtain ⟨h₁, tk, rfl, _⟩ := x.done
  have hk₁ := x.toInCall.keep
  obtain ⟨cells, NC, Y⟩ := Cl.news (h₀ := s.heap) (Nat.le_refl _) fun n c hm => ⟨x.cell n c (lookup_of_mem_nodup (cellsFrom_names scope.names 0 (s.heap.objs.size + 1) [] [] rfl ▸ hnd) hm), x.above n c hm⟩
  refine wpS_mono (h _ s.heap.objs.size h₁ tk cells FG ⟨x.toInCall.ns, fun b o e => hk₁ b o (of_hideAll _ e), Nat.le_of_eq (hideAll_size _ _)⟩ (fun p hp => ?_) Y BG (X₀.keeps st) (T.keeps st) (fun p hp => Heap.lt_size (N p hp).1)) (fun fl s' hl => lv _ _ hl) fun _ _ y => y
  rcases List.mem_append.mp hp with hp | hp
  · refine ⟨(NC p hp).1, (NC p hp).2.1, ?_⟩
    cases q : (hideAll s.heap (news.map (·.1))).get? p.1 with
    | none => rfl
    | some o => have := of_hideAll _ q; rw [(NC p hp).2.2] at this; cases this
  · exact ⟨hk₁ _ _ (N p hp).1, Nat.ne_of_lt (Heap.lt_size (N p hp).1), hideAll_none _ (List.mem_map_of_mem hp)⟩
end
end Mine
end

section
open PySem PySem.W PySem.Calls PyProof.Rows in
theorem Mine.resetBA {M : Model} {A : Around} {E : Value → Shared → Prop} {s : Shared} {Q : Bool → Shared → Prop} {v : Value} (h : wpAny M A (truthy v) Q E s) : wpAny M A (truthy v) Q E s := by
  w_top off
  k_with_none
  first | (walk1; fail) | exact h
open PySem PySem.W PySem.Calls PyProof.Rows
open Sem (wp)
namespace Mine
section
variable {M : Model} {A : Around} {E : Value → Shared → Prop} {s : Shared}
theorem wpS_stack {Q : List (Code × Pos) → Shared → Prop} (h : ∀ st : List (Code × Pos), (∀ x ∈ st, bad x.1 = false) → Q st s) : wpS M A stack Q E s := fun Γ p _ hC => by
  show Q ((Γ.code, p) :: Γ.below) s
  exact h _ fun x hx => by
    rcases List.mem_cons.mp hx with rfl | hx
    · exact hC.1
    · exact hC.2 x hx
theorem exported_S {self : Value} {Q : Bool → Shared → Prop} (h : Q false s) : wpS M A (Builtin.Bytes.exported self) Q E s := by
  unfold Builtin.Bytes.exported
  refine wpS_bind (wpS_stack fun st hst => wpS_pure ?_)
  rw [List.any_eq_false.mpr ?_]
  · exact h
  rintro ⟨c, p⟩ hx
  have hb := hst _ hx
  dsimp only at hb
  cases c with
  | builtin id args =>
    simp only [bad, badIds] at hb
    rw [List.contains_eq_any_beq, List.any_append, Bool.or_eq_false_iff] at hb
    obtain ⟨h1, h2⟩ := hb
    simp only [List.any_cons, List.any_nil, Bool.or_false, Bool.or_eq_false_iff, beq_eq_false_iff_ne, ne_eq] at h2
    obtain ⟨a1, a2, a3, a4, a5⟩ := h2
    rw [← List.contains_eq_any_beq] at h1
    obtain ⟨pos, kw⟩ := args
    delta PySem.Builtin.Bytes.exported.match_1
    refine Bool.eq_false_iff.mp ?_
    have q : ∀ (v : Value) (r : List Value), (Builtin.Bytes.sameRef v self && Builtin.Bytes.decodersThatHold.contains id) = false := fun v r => by rw [h1, Bool.and_false]
    cases pos with
    | nil => exact (dif_neg a1).trans ((dif_neg a2).trans ((dif_neg a3).trans ((dif_neg a4).trans (dif_neg a5))))
    | cons v r => exact (dif_neg a1).trans ((dif_neg a2).trans ((dif_neg a3).trans ((dif_neg a4).trans ((dif_neg a5).trans (q v r)))))
  | _ => simp
end
namespace FB
theorem mro : mroOf (.type "bytearray") = pure [.type "bytearray", .type "object"] := by rw [mroOf_type]; kernel_rfl
theorem lookup_new : typeLookup (.type "bytearray") "__new__" = pure (some (.builtin "bytearray.__new__")) := by rw [typeLookup_type, builtinLookup_eq_fast]; kernel_rfl
theorem sub : isSubtype (.type "bytearray") (.type "bytearray") = pure true := by rw [isSubtype_type]; kernel_rfl
theorem slot_init : Slot "bytearray" "__init__" "bytearray.__init__" :=
  .of (owner := "bytearray") (n := "__init__") (by rw [typeLookup_type, builtinLookup_eq_fast]; kernel_rfl) (by decide +kernel) (by decide +kernel) (by decide +kernel)
    (by first | exact .inl (by decide +kernel) | exact .inr (by decide +kernel)) sub
theorem slot_setitem : Slot "bytearray" "__setitem__" "bytearray.__setitem__" :=
  .of (owner := "bytearray") (n := "__setitem__") (by rw [typeLookup_type, builtinLookup_eq_fast]; kernel_rfl) (by decide +kernel) (by decide +kernel) (by decide +kernel)
    (by first | exact .inl (by decide +kernel) | exact .inr (by decide +kernel)) sub
theorem called : TypeCalled "bytearray" "bytearray.__new__" "bytearray.__init__" :=
  ⟨by decide +kernel, by decide +kernel, ⟨_, _, mro⟩, madeBy_type mro lookup_new (by decide +kernel), by decide +kernel, sub, slot_init⟩
theorem typeCall (a : Value) : checkTypeCall "bytearray" ⟨[a], []⟩ = pure () := by kernel_rfl
theorem newCall (a : Value) : checkBuiltinCall "bytearray.__new__" ⟨[.type "bytearray", a], []⟩ = pure () := by kernel_rfl
theorem entry_new : entryFor table "bytearray.__new__" = some Builtin.«list.__new__» :=
  entryFor_alias (id' := "list.__new__") (by kernel_rfl) (by first | rfl | decide +kernel) (by decide +kernel) (by kernel_rfl)
theorem owner_bytearray : Manifest.owners.lookup (String.ofList ['y','a','r','r','a','e','t','y','b'].reverse) = some Manifest.sig_bytearray := by kernel_rfl
theorem entry_init : entryFor table "bytearray.__init__" = some Builtin.«bytearray.__init__» := by first | exact entryFor_of_fast (by kernel_rfl) | exact entryFor_of_tree (by kernel_rfl)
theorem entry_setitem : entryFor table "bytearray.__setitem__" = some Builtin.«bytearray.__setitem__» := by first | exact entryFor_of_fast (by kernel_rfl) | exact entryFor_of_tree (by kernel_rfl)
theorem plain_new : plainId "bytearray.__new__" = true := by decide +kernel
theorem args_init (a b : Value) : argsOk "bytearray.__init__" ⟨[a, b], []⟩ := by
  unfold argsOk; rw [signature?_of (id := "bytearray.__init__") (n := ['_', '_', 't', 'i', 'n', 'i', '_', '_']) (o := ['y','a','r','r','a','e','t','y','b']) (by kernel_rfl) owner_bytearray]; kernel_rfl
theorem args_setitem (a b c : Value) : argsOk "bytearray.__setitem__" ⟨[a, b, c], []⟩ := by
  unfold argsOk; rw [signature?_of (id := "bytearray.__setitem__") (n := ['_', '_', 'm', 'e', 't', 'i', 't', 'e', 's', '_', '_']) (o := ['y','a','r','r','a','e','t','y','b']) (by kernel_rfl) owner_bytearray]; kernel_rfl
theorem bind (v : Value) : Builtin.Bytes.bindOptional "bytearray.__init__" "bytearray" ["source", "encoding", "errors"] [v] [] = pure [some v, none, none] := by kernel_rfl
theorem release : typeLookup (.type "bytearray") "__release_buffer__" = pure (some (.builtin "bytearray.__release_buffer__")) := by rw [typeLookup_type, builtinLookup_eq_fast]; kernel_rfl
theorem buffer : typeLookup (.type "bytearray") "__buffer__" = pure (some (.builtin "bytearray.__buffer__")) := by rw [typeLookup_type, builtinLookup_eq_fast]; kernel_rfl
theorem noBytes : typeLookup (.type "bytearray") "__bytes__" = pure none := by rw [typeLookup_type, builtinLookup_eq_fast]; kernel_rfl
theorem noIndex : typeLookup (.type "bytearray") "__index__" = pure none := by rw [typeLookup_type, builtinLookup_eq_fast]; kernel_rfl
end FB
set_option maxRecDepth 1000000 in
set_option maxHeartbeats 4000000 in
theorem owner_new : ("bytearray.__new__".splitOn ".__new__").headD "" = "bytearray" := by simp +decide [String.splitOn, String.splitOnAux]
section
variable {prog : Program} {w : World} {A : Around} {E : Value → Shared → Prop} {s : Shared}
theorem code_new (a : Value) {Q₁ : Value → Shared → Prop}
    (h : Q₁ (.ref s.heap.objs.size) { s with heap := s.heap.push { cls := .type "bytearray", data := .bytearray #[] } }) :
    codeAny (model prog w) A (.call (.builtin "bytearray.__new__") ⟨[.type "bytearray", a], []⟩) (wants Q₁ E) s := by
  refine codeAny_of_tree ?_
  show wpAny _ A.in1 (do checkBuiltinCall "bytearray.__new__" ⟨[.type "bytearray", a], []⟩; again (.builtin "bytearray.__new__" ⟨[.type "bytearray", a], []⟩)) _ _ s
  refine wpAny_bind (wpAny_of_eq (FB.newCall a) (wpAny_pure ⟨plainId_quiet FB.plain_new _, codeAny_builtin_stack FB.entry_new rfl fun p st => ?_⟩))
  rw [Around.under_plainId FB.plain_new _]
  have hsub := FB.sub
  have hown := owner_new
  obtain ⟨hp, g, d, tk, os⟩ := s
  simp only [hown]
  wp_walk
  exact h
end
end Mine
namespace Mine
section
variable {prog : Program} {w : World} {A : Around} {E : Value → Shared → Prop} {s : Shared}
theorem wpS_ifF {α : Type} {M : Model} {c : Bool} {a b : Sem α} {Q : α → Shared → Prop} (hc : c = false) (h : wpS M A b Q E s) : wpS M A (if c = true then a else b) Q E s := by
  subst hc
  exact h
theorem wpS_ifT {α : Type} {M : Model} {c : Bool} {a b : Sem α} {Q : α → Shared → Prop} (hc : c = true) (h : wpS M A a Q E s) : wpS M A (if c = true then a else b) Q E s := by
  subst hc
  exact h
theorem wpS_iteF {α : Type} {M : Model} {c : Prop} [Decidable c] {a b : Sem α} {Q : α → Shared → Prop} (hc : ¬ c) (h : wpS M A b Q E s) : wpS M A (if c then a else b) Q E s := by
  rw [if_neg hc]; exact h
theorem wpS_iteT {α : Type} {M : Model} {c : Prop} [Decidable c] {a b : Sem α} {Q : α → Shared → Prop} (hc : c) (h : wpS M A a Q E s) : wpS M A (if c then a else b) Q E s := by
  rw [if_pos hc]; exact h
theorem ownRelease_false {a : Addr} {Q : Bool → Shared → Prop} (hT : s.TypeIs (.ref a) "bytearray") (h : Q false s) : wpAny (model prog w) A (Builtin.Bytes.ownRelease (.ref a)) Q E s := by
  unfold Builtin.Bytes.ownRelease Builtin.Bytes.slotIsOwn
  refine wpAny_bind (wpAny_bind (wpAny_specialOf hT FB.release ?_))
  dsimp only
  refine bm_if_false (by decide +kernel) ?_
  rw [show ("bytearray.__release_buffer__".dropRight ("__release_buffer__".length + 1)) = "bytearray" by decide +kernel]
  exact wpAny_isInstance hT FB.sub (wpAny_pure h)
theorem write_any {a : Addr} {b : Array UInt8} {n : Nat} {f : Array UInt8 → Array UInt8} {Q : Unit → Shared → Prop} (ho : s.heap.get? a = some { cls := .type "bytearray", data := .bytearray b n }) (hz : (f b).size ≤ sizeLine)
    (h : Q () { s with heap := s.heap.update a (Obj.mapBytearray f) }) : wpAny (model prog w) A (Builtin.Bytes.write (.ref a) f) Q E s := by
  show wpAny _ _ (updateBytearray a f) _ _ _
  unfold updateBytearray
  refine wpAny_bind (wpAny_load ho ?_)
  show wpAny _ _ (update a (Obj.mapBytearray f) >>= fun _ => lookBehind a) _ _ _
  refine wpAny_bind (wpAny_update ho ?_)
  have hS : (s.heap.update a (Obj.mapBytearray f)).get? a = some { cls := .type "bytearray", data := .bytearray (f b) n } := Heap.get?_update_self (Obj.mapBytearray f) ho rfl
  refine wpAny_lookBehind hS ?_ h
  show (if (f b).size > sizeLine then some "bytearray:memory" else none) = none
  rw [if_neg (Nat.not_lt.mpr hz)]
theorem updated_get {a : Addr} {b : Array UInt8} {n : Nat} {f : Array UInt8 → Array UInt8} {h : Heap} (ho : h.get? a = some { cls := .type "bytearray", data := .bytearray b n }) :
    (h.update a (Obj.mapBytearray f)).get? a = some { cls := .type "bytearray", data := .bytearray (f b) n } := Heap.get?_update_self (Obj.mapBytearray f) ho rfl
theorem init_S {a : Addr} {n : Int} {t : Tok} {Q : Fin → Shared → Prop} (ho : s.heap.get? a = some { cls := .type "bytearray", data := .bytearray #[] }) (h0 : 0 < n) (h1 : n ≤ 1000)
    (h : Q (.done (.ret .none)) { s with heap := (s.heap.update a (Obj.mapBytearray fun _ => #[])).update a (Obj.mapBytearray fun _ => Array.replicate n.toNat 0) }) :
    wpS (model prog w) A (Builtin.«bytearray.__init__» ⟨[.ref a, .int n t], []⟩) Q E s := by
  have hT : s.TypeIs (.ref a) "bytearray" := ⟨_, ho, rfl⟩
  unfold Builtin.«bytearray.__init__»
  refine wpS_bindA (ownRelease_false hT ?_)
  refine wpS_ifF rfl ?_
  refine wpS_bindA (wpAny_of_eq (FB.bind _) ?_)
  refine wpS_bindA (wpAny_of_eq (a := ()) rfl ?_)
  refine wpS_bindA (wpAny_of_eq (a := ()) rfl ?_)
  refine wpS_bind ?_
  unfold orM
  refine wpS_bind (exported_S ?_)
  refine wpS_of ?_
  show wpAny _ _ (Builtin.Bytes.exportsOf (.ref a) >>= _) _ _ _
  refine wpAny_bind ?_
  unfold Builtin.Bytes.exportsOf
  refine wpAny_bind (wpAny_load ho ?_)
  refine wpAny_pure (wpAny_pure ?_)
  refine wpS_ifF rfl ?_
  refine wpS_bindA (write_any ho (by rw [sizeLine_eq]; decide) ?_)
  have ho₁ := updated_get (f := fun _ => #[]) ho
  refine wpS_bindA (wpAny_of_eq (a := none) rfl ?_)
  refine wpS_ifF rfl ?_
  refine wpS_bindA (wpAny_of_eq (a := ()) rfl ?_)
  refine wpS_bindA (wpAny_specialOf (typeIs_int _ _ _) F.slot_int_index.lookup ?_)
  refine wpS_ifT rfl ?_
  refine wpS_bindA (wpAny_attempt (wpAny_of_eq (rfl : asIndex (.int n t) = pure n) ?_))
  dsimp only
  refine wpS_ifF (by simp only [Builtin.Bytes.fitsIndex, Bool.not_eq_false', Bool.and_eq_true, decide_eq_true_eq]; (first | lia | omega)) ?_
  refine wpS_iteF (by (first | lia | omega)) ?_
  refine wpS_ifF (by rw [beq_eq_false_iff_ne]; (first | lia | omega)) ?_
  refine wpS_ifF (by simp only [Builtin.Bytes.tooLong, decide_eq_false_iff_not, sizeLine_eq]; (first | lia | omega)) ?_
  refine wpS_bindA (wpAny_rule ?_)
  refine wpS_iteT h0 ?_
  exact wpS_bindA (write_any ho₁ (by rw [Array.size_replicate, sizeLine_eq]; (first | lia | omega)) (wpS_pure h))
theorem codeS_builtin {R : Result → Shared → Prop} {id : String} {args : Args} {b : Builtin} (hb : entryFor table id = some b)
    (h : wpS (model prog w) (A.under (.builtin id args)) (b args)
      (fun fin s' => match fin with | .done f => R (.ok f) s' | .again c' => c'.quiet = true ∧ bad c' = false ∧ codeS (model prog w) A c' R s') (fun e s' => R (.error e) s') s) :
    codeS (model prog w) A (.builtin id args) R s := by
  refine codeS_of_tree ?_
  show wpS _ _ (match entryFor table id with | some b => b args | none => unsupported ((withoutEnding? id "#data").getD id)) _ _ s
  rw [hb]; exact h
theorem bad_type_call : badIds.contains "type.__call__" = false := by decide +kernel
theorem bad_init : badIds.contains "bytearray.__init__" = false := by decide +kernel
/-- bytearray(n) -/
theorem new_bytearray {n : Int} {t : Tok} {Q : Value → Shared → Prop} (h0 : 0 < n) (h1 : n ≤ 1000)
    (h : ∀ h', (∀ b o, s.heap.get? b = some o → h'.get? b = some o) → h'.get? s.heap.objs.size = some { cls := .type "bytearray", data := .bytearray (Array.replicate n.toNat 0) } → Q (.ref s.heap.objs.size) { s with heap := h' }) :
    wpS (model prog w) A (call (.type "bytearray") [.int n t]) Q E s := by
  refine wpS_call (codeS_of_tree ?_)
  show wpS _ _ (callAny (.type "bytearray") _) _ _ _
  refine wpS_pure ⟨Code.quiet_builtin _ (by decide +kernel), bad_type_call, codeS_builtin F.entry_type_call ?_⟩
  rw [Around.under_plain (weight_type_call_type "bytearray" [.int n t] []) rfl]
  unfold Builtin.«type.__call__»
  dsimp only
  refine wpS_ifF (by decide +kernel) ?_
  refine wpS_ifF FB.called.canCreate ?_
  refine wpS_bindA (wpAny_of_eq (FB.typeCall _) ?_)
  refine wpS_bindA (wpAny_of_eq FB.mro ?_)
  refine wpS_ifF rfl ?_
  refine wpS_bindA (wpAny_of_eq FB.called.made ?_)
  refine wpS_bindA (wpAny_pure ?_)
  have ho : (s.heap.push { cls := .type "bytearray", dict := none, data := .bytearray #[] }).get? s.heap.objs.size = some { cls := .type "bytearray", dict := none, data := .bytearray #[] } := Heap.get?_push_size _ rfl
  refine wpS_bindA (wpAny_holding (wpAny_call (codeAny_mono (code_new (Q₁ := fun v s' => v = .ref s.heap.objs.size ∧ s' = { s with heap := s.heap.push { cls := .type "bytearray", dict := none, data := .bytearray #[] } }) (E := E) (.int n t) ⟨rfl, rfl⟩) fun r s' hr => ?_)))
  cases r with
  | error e => exact hr
  | ok fl =>
    cases fl with
    | ret obj =>
      obtain ⟨rfl, rfl⟩ := hr
      have hT : ({ s with heap := s.heap.push { cls := .type "bytearray", dict := none, data := .bytearray #[] } } : Shared).TypeIs (.ref s.heap.objs.size) "bytearray" := ⟨_, ho, rfl⟩
      refine wpS_bindA (wpAny_isInstance hT FB.sub ?_)
      refine wpS_ifF rfl ?_
      refine wpS_bind (wpS_holding ?_)
      unfold callSpecial?
      refine wpS_bindA (wpAny_specialOf hT FB.slot_init.lookup ?_)
      dsimp only
      simp only [FB.slot_init.bind]
      refine wpS_holding (wpS_bindA (wpAny_pure (wpS_bind (wpS_call (codeS_of_tree ?_)))))
      show wpS _ A.in1.in1 (do checkBuiltinCall "bytearray.__init__" ⟨[.ref s.heap.objs.size, .int n t], []⟩; again (.builtin "bytearray.__init__" ⟨[.ref s.heap.objs.size, .int n t], []⟩)) _ _ _
      refine wpS_bindA (FB.slot_init.check _ _ _ _ _ _ _ _ hT (FB.args_init _ _) ?_)
      refine wpS_pure ⟨plainId_quiet FB.slot_init.plain _, bad_init, codeS_builtin FB.entry_init ?_⟩
      refine init_S ho h0 h1 ?_
      dsimp only
      refine wpS_pure ?_
      dsimp only
      refine wpS_ifF rfl ?_
      refine wpS_pure ?_
      dsimp only
      refine h _ (fun b o e => ?_) ?_
      · have hne : b ≠ s.heap.objs.size := Nat.ne_of_lt (Heap.lt_size e)
        rw [Heap.get?_update_other _ _ (Ne.symm hne), Heap.get?_update_other _ _ (Ne.symm hne)]
        exact Heap.get?_push_of_some _ e
      · exact updated_get (updated_get ho)
    | _ => exact hr.elim
end
end Mine
end

section
open PySem PySem.W PySem.Calls PyProof.Rows in
theorem Mine.resetBA2 {M : Model} {A : Around} {E : Value → Shared → Prop} {s : Shared} {Q : Bool → Shared → Prop} {v : Value} (h : wpAny M A (truthy v) Q E s) : wpAny M A (truthy v) Q E s := by
  w_top off
  k_with_none
  first | (walk1; fail) | exact h
open PySem PySem.W PySem.Calls PyProof.Rows
open Sem (wp)
namespace Mine
section
variable {prog : Program} {w : World} {A : Around} {E : Value → Shared → Prop} {s : Shared}
/-- ba[i] = v -/
theorem set_bytearray {a : Addr} {b : Array UInt8} {i v : Int} {ti tv : Tok} {Q : Unit → Shared → Prop} (ho : s.heap.get? a = some { cls := .type "bytearray", data := .bytearray b })
    (h0 : 0 ≤ i) (h1 : i < b.size) (hz : b.size ≤ 1000) (hv0 : 0 ≤ v) (hv1 : v < 256)
    (h : ∀ h', Heap.SameBut a s.heap h' → h'.get? a = some { cls := .type "bytearray", data := .bytearray (b.setIfInBounds i.toNat v.toNat.toUInt8) } → Q () { s with heap := h' }) :
    wpAny (model prog w) A (setItem (.ref a) (.int i ti) (.int v tv)) Q E s := by
  have hT : s.TypeIs (.ref a) "bytearray" := ⟨_, ho, rfl⟩
  unfold setItem
  try with_reducible refine wpAny_holding ?_
  first | refine wpAny_bind (wpAny_pure ?_) | skip
  refine wpAny_bind (wpAny_sequenceKey hT (by decide) ?_)
  refine wpAny_bind (wpAny_callSpecial?_slot (name := Str.ofString "__setitem__") hT FB.slot_setitem
    (wpAny_call_entry FB.slot_setitem hT FB.entry_setitem ?_ (FB.args_setitem _ _ _)))
  show wpAny _ _ (Builtin.Bytes.subscript? (.int i ti) >>= _) _ _ s
  unfold Builtin.Bytes.subscript?
  refine wpAny_bind (wpAny_bind (wpAny_specialOf (typeIs_int _ _ _) F.slot_int_index.lookup ?_))
  refine bm_if_false rfl ?_
  refine wpAny_bind (wpAny_of_eq (rfl : asIndex (.int i ti) = pure i) ?_)
  refine bm_if_false (by simp only [Builtin.Bytes.fitsIndex, Bool.not_eq_false', Bool.and_eq_true, decide_eq_true_eq]; (first | lia | omega)) ?_
  refine wpAny_pure ?_
  dsimp only
  unfold Builtin.Bytes.byteValue
  refine wpAny_bind (wpAny_bind (wpAny_of_eq (rfl : asIndex (.int v tv) = pure v) ?_))
  refine bm_if_false (by simp only [Bool.or_eq_false_iff, decide_eq_false_iff_not]; (first | lia | omega)) ?_
  refine wpAny_pure ?_
  refine wpAny_bind ?_
  unfold Builtin.Bytes.payload Builtin.Bytes.payload?
  refine wpAny_bind (wpAny_bind (wpAny_load ho ?_))
  refine wpAny_pure (wpAny_pure ?_)
  have hq : seqIndex? i b.size = some i.toNat := by
    simp only [seqIndex?]
    rw [if_neg (show ¬ i < 0 by (first | lia | omega)), if_pos (by simp only [Bool.and_eq_true, decide_eq_true_eq]; exact ⟨h0, h1⟩)]
  rw [hq]
  dsimp only
  refine wpAny_bind (write_any ho (by rw [Array.size_setIfInBounds, sizeLine_eq]; (first | lia | omega)) ?_)
  refine wpAny_pure ⟨.none, rfl, wpAny_pure ?_⟩
  exact h _ (Heap.SameBut.update ..) (updated_get ho)
/-- bytes(ba) -/
theorem bytes_of_bytearray {a : Addr} {b : Array UInt8} {Q : Value → Shared → Prop} (ho : s.heap.get? a = some { cls := .type "bytearray", data := .bytearray b }) (hz : b.size ≤ 1000)
    (h : ∀ t k, Q (.bytes b t) { s with toks := k }) :
    wpAny (model prog w) A (call (.type "bytes") [.ref a]) Q E s := by
  refine callType_codes (Q₁ := fun obj s₁ => s₁.TypeIs obj "bytes" ∧ Q obj s₁) F.bm_called (F.bm_typeCall _) F.entry_object_init ?_ fun obj s₁ h₁ =>
    ⟨h₁.1, F.args_object_init_2 obj _, object_init_meets F.bm_called.init.lookup F.bm_called.made (by decide) prog w A.in1 _ s₁ ⟨h₁.1, rfl, h₁.2⟩⟩
  refine codeAny_of_tree ?_
  show wpAny _ A.in1.in1 (do checkBuiltinCall "bytes.__new__" ⟨[.type "bytes", .ref a], []⟩; again (.builtin "bytes.__new__" ⟨[.type "bytes", .ref a], []⟩)) _ _ s
  refine wpAny_bind (wpAny_of_eq (F.bm_newCall _) (wpAny_pure ⟨plainId_quiet F.bm_plain _, codeAny_builtin F.bm_entry ?_⟩))
  rw [Around.under_plainId F.bm_plain _]
  have hT : s.TypeIs (.ref a) "bytearray" := ⟨_, ho, rfl⟩
  unfold Builtin.«bytes.__new__»
  refine wpAny_bind (wpAny_of_eq (a := true) rfl ?_)
  refine bm_if_false rfl ?_
  refine wpAny_bind (wpAny_of_eq F.bm_sub ?_)
  refine bm_if_false rfl ?_
  refine wpAny_bind (wpAny_of_eq (F.bm_bind _) ?_)
  refine wpAny_bind (wpAny_of_eq (a := ()) rfl ?_)
  refine wpAny_bind (wpAny_of_eq (a := ()) rfl ?_)
  refine bm_if_false rfl ?_
  refine wpAny_bind (wpAny_specialOf hT FB.noBytes ?_)
  refine wpAny_bind (wpAny_bind ?_)
  show wpAny _ _ (load a >>= _) _ _ _
  refine wpAny_bind (wpAny_load ho ?_)
  refine wpAny_pure (wpAny_pure ?_)
  refine bm_if_false rfl ?_
  refine wpAny_bind (wpAny_specialOf hT FB.noIndex ?_)
  refine bm_if_true rfl ?_
  first
    | show wpAny _ _ (Builtin.Bytes.buffer? "bytes.__new__" (.ref a) true >>= _) _ _ _
    | (refine wpAny_bind ?_; show wpAny _ _ (Builtin.Bytes.buffer? "bytes.__new__" (.ref a) true >>= _) _ _ _)
  refine wpAny_bind ?_
  unfold Builtin.Bytes.buffer?
  refine wpAny_bind (wpAny_specialOf hT FB.buffer ?_)
  dsimp only
  unfold Builtin.Bytes.slotIsOwn
  refine wpAny_bind (wpAny_bind (wpAny_specialOf hT FB.buffer ?_))
  dsimp only
  refine bm_if_false (by decide +kernel) ?_
  rw [show ("bytearray.__buffer__".dropRight ("__buffer__".length + 1)) = "bytearray" by decide +kernel]
  refine wpAny_isInstance hT FB.sub ?_
  refine bm_if_false rfl ?_
  refine wpAny_bind (wpAny_specialOf hT FB.buffer ?_)
  refine wpAny_bind (ownRelease_false hT ?_)
  refine bm_if_false rfl ?_
  refine wpAny_bind ?_
  unfold Builtin.Bytes.payload Builtin.Bytes.payload?
  refine wpAny_bind (wpAny_bind (wpAny_load ho ?_))
  refine wpAny_pure (wpAny_pure (wpAny_pure ?_))
  refine wpAny_bind (wpAny_rule ?_)
  refine wpAny_bind (wpAny_mkBytes ?_ (by rw [sizeLine_eq]; (first | lia | omega)))
  show wpAny _ _ (if (Value.type "bytes" == Value.type "bytes") = true then _ else _) _ _ _
  refine bm_if_true (by decide) ?_
  first
    | exact wpAny_pure ⟨PySem.W.typeIs_bytes _ _ _, h _ _⟩
    | exact wpAny_bind (wpAny_pure (wpAny_pure ⟨PySem.W.typeIs_bytes _ _ _, h _ _⟩))
end
end Mine
end

section
open PySem PySem.W PySem.Calls PyProof.Rows in
theorem Mine.resetBsw {M : Model} {A : Around} {E : Value → Shared → Prop} {s : Shared} {Q : Bool → Shared → Prop} {v : Value} (h : wpAny M A (truthy v) Q E s) : wpAny M A (truthy v) Q E s := by
  w_top off
  k_with_none
  first | (walk1; fail) | exact h
open PySem PySem.W PySem.Calls PyProof.Rows
namespace Mine
local macro_rules | `(tactic| walk_at $s:str) => `(tactic| k_extra $s)
theorem size_n {n : Int} (h0 : 0 < n) : Builtin.Range.rangeSize 0 n n = ((1 : Nat) : Int) := by
  rw [rangeSize_pos (by (first | lia | omega)) (by (first | lia | omega))]
  rw [show n + n - 1 = (n - 1) + n * 1 by (first | lia | omega), Int.add_mul_ediv_left _ _ (by (first | lia | omega)), Int.ediv_eq_zero_of_lt (by (first | lia | omega)) (by (first | lia | omega))]
  rfl
theorem small_n {n : Int} (h0 : 0 < n) (h1 : n ≤ 50) : Builtin.Range.small 0 n n = true := by
  have fits : ∀ i : Int, -100 ≤ i → i ≤ 200 → Builtin.Range.rangeFitsLong i = true := fun i a b => by
    unfold Builtin.Range.rangeFitsLong
    simp only [Bool.and_eq_true, decide_eq_true_eq]
    (first | lia | omega)
  unfold Builtin.Range.small
  rw [size_n h0, fits 0 (by (first | lia | omega)) (by (first | lia | omega)), fits n (by (first | lia | omega)) (by (first | lia | omega)), fits ((1 : Nat) : Int) (by (first | lia | omega)) (by (first | lia | omega)), if_pos (by (first | lia | omega)), fits (n + (n - 1)) (by (first | lia | omega)) (by (first | lia | omega))]
  rfl
theorem bInts_set (b : Array UInt8) (k : Nat) (v : UInt8) : KBw.bInts (b.setIfInBounds k v) = (KBw.bInts b).set k (v.toNat : Int) := by
  unfold KBw.bInts
  rw [Array.toList_setIfInBounds, List.map_set]
theorem bInts_zeros (n : Nat) : KBw.bInts (Array.replicate n 0) = List.replicate n 0 := by
  unfold KBw.bInts
  rw [Array.toList_replicate, List.map_replicate]
  rfl
theorem swap_step {ks : List Int} {j : Nat} (hj : j < ks.length) :
    (List.replicate (ks.length - j) 0 ++ (ks.take j).reverse).set (ks.length - 1 - j) (ks.getD j 0) = List.replicate (ks.length - (j + 1)) 0 ++ (ks.take (j + 1)).reverse := by
  have e : ks.length - j = (ks.length - (j + 1)) + 1 := by (first | lia | omega)
  have hk : ks[j]? = some (ks.getD j 0) := by rw [List.getD_eq_getElem?_getD, List.getElem?_eq_getElem hj]; rfl
  rw [e, List.replicate_succ', List.append_assoc, List.take_add_one, hk, show ks.length - 1 - j = (List.replicate (ks.length - (j + 1)) (0 : Int)).length by rw [List.length_replicate]; (first | lia | omega)]
  rw [List.set_append_right _ _ (Nat.le_refl _), Nat.sub_self]
  simp
section
variable {w : World} {p : Program} {loose : List Str} {mean : ExcName → Option Value} {mg mb : Str → Option Value} {news : List (Addr × Obj)}
    {dp un : Nat} {gd : Option (List Code)} {cn : Str} {cs : Scope} {a : Addr} {ccd : Value} {cl : List (Str × Addr)} {outer : List Env} {A₀ : Around} {base h₀ : Heap} {L : Addr} {m : Str → Option Value} {s : Shared} {Q E : Value → Shared → Prop}

set_option maxHeartbeats 4000000 in
theorem byteswap_call {b : Array UInt8} {t t2 : Tok} {ks : List Int}
    (B : Below A₀ base outer h₀) (F : Fr h₀ L s.heap m) (X : (hd.heap_39 w.params).In h₀) (N : News h₀ L s.heap news) (T : Top p loose mean mg mb h₀) (hk : cs.kind = .function)
    (hb : KBw.bInts b = ks) (h0 : 0 < ks.length) (h1 : ks.length ≤ 50) (hd : dp + 4 < recursionLimit) (hu : un + 40 < cLine)
    (hret : ∀ (b' : Array UInt8) (t' : Tok) (h' : Heap) (tk' : Nat), KBw.bInts b' = ks.reverse → Fr h₀ L h' m → News h₀ L h' news → Q (.bytes b' t') { s with heap := h', toks := tk' }) :
    wpS (model PG w) (ktrTop dp un gd cn cs L a ccd cl outer) (call (.ref 105) [.bytes b t, .int (ks.length : Nat) t2]) Q E s := by
  k_with_none
  (k_with "exec For Name Call cons nil" => (k_here; k_dflt (refine wpAny_For ?_)))

  refine wpS_call ?_
  k_dflt (refine' code_defS ?s1 ?s2 ?s3 ?s4 ?s5 ?sA ?sF ?sK ?s6 ?s7 ?s8 ?s9 ?sB ?_ ?t2 ?t3 ?t4 ?t5; (case sA => exact rfl); (case sF => exact rfl); (case sK => assumption); (case s1 => k_asm); (case s2 => k_asm); (case s3 => k_asm); (case s4 => k_asm); (case s5 => k_asm); (case s6 => k_is); (case s7 => k_is); (case s8 => ktr_room); (case s9 => exact kp_binds (by k_in) (fun _ => rfl)); (case t5 => decide); (case sB => exact locs rfl); (case t2 => exact rfl); (case t3 => exact rfl); (case t4 => exact rfl); k_whole; intro g' L' h' FG' F' N' B' X' T' l1; (try dsimp only); (try k_lift B'); (try k_fold))
  refine execsS (assignS (callS ?_))
  k_steps
  refine ⟨.inl ⟨_, rfl⟩, new_bytearray (by (first | lia | omega)) (by (first | lia | omega)) fun h₁ up ho => ?_⟩
  rename News g' L' _ _ => kN
  rename Fr g' L' _ _ => kF
  have ba := kF.keeps up
  have bn := news_add kF kN up ho
  have ltA : ∀ p ∈ news, p.1 ≠ h'.objs.size := fun p hp => Nat.ne_of_lt (Heap.lt_size (kN p hp).1)
  rw [Int.toNat_natCast] at bn
  clear kN kF ho up
  dsimp only at bn ba
  dsimp only
  generalize h'.objs.size = BA at *
  k_steps
  refine wpS_of ?_
  k_steps
  rename IsRange _ _ _ _ _ _ _ _ => hr9
  refine for_rangeC (J := fun i m nx g => g = s.gens ∧ m (Str.ofString "swapped_data") = some (.ref BA) ∧ m (Str.ofString "data") = some (.bytes b t) ∧ m (Str.ofString "width") = some (.int (ks.length : Nat) t2) ∧
    ∃ arr : Array UInt8, nx = (BA, { cls := .type "bytearray", data := .bytearray arr }) :: news ∧ arr.size = ks.length ∧ (i = 0 → arr = Array.replicate ks.length 0) ∧ (i = 1 → KBw.bInts arr = ks.reverse)) (n := 1) rfl rfl rfl (by passes_own) hr9 ?_ ?_ (by k_asm) (by k_asm) ?_ ?_ ?_
  · exact small_n (by (first | lia | omega)) (by (first | lia | omega))
  · exact size_n (by (first | lia | omega))
  · exact ⟨rfl, rfl, rfl, rfl, _, rfl, Array.size_replicate, fun _ => rfl, fun h => by cases h⟩
  · intro i t3 m₁ news₁ g I oI h tk hi hJ hoff F9 N9
    obtain ⟨hg, hm1, hm2, hm3, arr, hnx, hsz, hz, _⟩ := hJ
    subst hnx hg
    have hi0 : i = 0 := by (first | lia | omega)
    subst hi0
    rw [hz rfl] at N9 hoff hsz
    rw [show (0 : Int) + ((0 : Nat) : Int) * ((ks.length : Nat) : Int) = 0 by (first | lia | omega), upd_know hm1, upd_know hm2, upd_know hm3] at F9
    have hBI : BA ≠ I := hoff _ (.head _)
    dsimp only at F9
    clear hz hr9
    k_steps
    rename IsRange _ _ _ _ _ _ _ _ => hr9
    refine for_rangeG (J := fun j m nx g => g = s.gens ∧ m (Str.ofString "swapped_data") = some (.ref BA) ∧ m (Str.ofString "data") = some (.bytes b t) ∧ m (Str.ofString "width") = some (.int (ks.length : Nat) t2) ∧ m (Str.ofString "i") = some (.int 0 t3) ∧
      ∃ arr : Array UInt8, nx = (I, oI) :: (BA, { cls := .type "bytearray", data := .bytearray arr }) :: news ∧ arr.size = ks.length ∧ KBw.bInts arr = List.replicate (ks.length - j) 0 ++ (ks.take j).reverse) (n := ks.length) rfl rfl rfl (by passes_own) hr9 ?_ ?_ (by k_asm) (by k_asm) ?_ ?_ ?_
    · exact small_one (by decide) (by decide) (by (first | lia | omega)) (by (first | lia | omega))
    · rw [rangeSize_nat, Int.sub_zero, Int.toNat_natCast]
    · exact ⟨rfl, rfl, rfl, rfl, rfl, _, rfl, Array.size_replicate, by rw [bInts_zeros]; simp⟩
    · intro j t4 m₂ news₂ g2 I2 oI2 h2 tk2 hj hJ2 hoff2 F8 N8
      obtain ⟨hg2, hn1, hn2, hn3, hn4, arr2, hnx2, hsz2, hb2⟩ := hJ2
      subst hnx2 hg2
      rw [upd_know hn1, upd_know hn2, upd_know hn3, upd_know hn4] at F8
      have hBI2 : BA ≠ I2 := hoff2 _ (.tail _ (.head _))
      have hII2 : I ≠ I2 := hoff2 _ (.head _)
      dsimp only at F8
      clear hr9
      k_steps
      rename News g' L' _ _ => kN
      rename Fr g' L' _ _ => kF
      rename (ks.getD _ 0 < 256) => hi256
      rename (0 ≤ ks.getD _ 0) => lo256
      have hjN : (0 + (0 + (j : Int))).toNat = j := by (first | lia | omega)
      have hiN : (0 + ((ks.length : Nat) : Int) - 1 - (0 + (j : Int))).toNat = ks.length - 1 - j := by (first | lia | omega)
      have zB := kN _ (.tail _ (.tail _ (.head _)))
      refine set_bytearray zB.1 (by (first | lia | omega)) (by (first | lia | omega)) (by (first | lia | omega)) lo256 hi256 fun h5 hs5 ho5 => ?_
      rw [hjN, hiN] at ho5
      have kF5 := kF.change hs5 zB.2.1 zB.2.2
      have kN5 : News g' L' h5 ((I2, oI2) :: (I, oI) :: (BA, { cls := .type "bytearray", data := .bytearray (arr2.setIfInBounds (ks.length - 1 - j) (ks.getD j 0).toNat.toUInt8) }) :: news) := by
        intro p hp
        rcases List.mem_cons.mp hp with rfl | hp
        · exact ⟨hs5.extBut _ _ (Ne.symm hBI2) (kN _ (.head _)).1, (kN _ (.head _)).2⟩
        rcases List.mem_cons.mp hp with rfl | hp
        · exact ⟨hs5.extBut _ _ (Ne.symm hBI) (kN _ (.tail _ (.head _))).1, (kN _ (.tail _ (.head _))).2⟩
        rcases List.mem_cons.mp hp with rfl | hp
        · exact ⟨ho5, zB.2⟩
        · have z := kN p (.tail _ (.tail _ (.tail _ hp)))
          exact ⟨hs5.extBut _ _ (ltA p hp) z.1, z.2⟩
      k_steps
      refine ⟨_, _, _, _, _, rfl, kF5, kN5, ?_, rfl, rfl, rfl, rfl, rfl, _, rfl, ?_, ?_⟩
      · intro p hp
        rcases List.mem_cons.mp hp with rfl | hp
        · exact hII2
        rcases List.mem_cons.mp hp with rfl | hp
        · exact hBI2
        · exact hoff2 p (.tail _ (.tail _ hp))
      · rw [Array.size_setIfInBounds]; exact hsz2
      · rw [bInts_set, hb2, byte_back (hjN ▸ lo256) (hjN ▸ hi256)]
        exact swap_step hj
    · intro h5 tk5 m5 news5 g5 F5 N5 hJ5
      obtain ⟨hg5, hn1, hn2, hn3, hn4, arr5, hnx5, hsz5, hb5⟩ := hJ5
      subst hnx5 hg5
      rw [Nat.sub_self, List.replicate_zero, List.nil_append, List.take_length] at hb5
      k_steps
      refine ⟨_, _, _, _, _, rfl, F5, N5, ?_, rfl, hn1, hn2, hn3, arr5, rfl, hsz5, (fun h => by cases h), fun _ => hb5⟩
      intro p hp
      rcases List.mem_cons.mp hp with rfl | hp
      · exact hBI
      · exact hoff p (.tail _ hp)
  · intro h5 tk5 m5 news5 g5 F5 N5 hJ5
    obtain ⟨hg5, hn1, hn2, hn3, arr5, hnx5, hsz5, _, hb5⟩ := hJ5
    subst hnx5 hg5
    have hb6 := hb5 rfl
    rw [upd_know hn1] at F5
    k_steps
    refine bytes_of_bytearray (N5 _ (.head _)).1 (by (first | lia | omega)) fun t9 k9 => ?_
    k_steps
    rename News h₀ L _ _ => kN
    exact hret _ _ _ _ hb6 (by k_asm) (fun p hp => kN p (.tail _ hp))
end
end Mine
end

section
open PySem PySem.W PySem.Calls PyProof.Rows in
theorem Mine.resetSegS {M : Model} {A : Around} {E : Value → Shared → Prop} {s : Shared} {Q : Bool → Shared → Prop} {v : Value} (h : wpAny M A (truthy v) Q E s) : wpAny M A (truthy v) Q E s := by
  w_top off
  k_with_none
  first | (walk1; fail) | exact h
open PySem PySem.W PySem.Calls PyProof.Rows
open Sem (wp)
namespace Mine
theorem wrap_bind {α β gam : Type} (m : Sem α) (f : α → Sem β) (K : β → Sem gam) (H : Value → Sem gam) (gd : Bool → Bool) (lv : List Value → List Value) :
    (m >>= f).wrap K H gd lv = m.wrap (fun a => (f a).wrap K H gd lv) H gd lv := by
  rw [Sem.bind_eq_wrap', Sem.wrap_wrap]
  exact Sem.wrap_congr _ _ _ (fun _ => rfl) (fun _ => rfl)
section
variable {M : Model} {A : Around} {R : GenEnd} {Y : Protocol} {n : Nat} {s₀ : Shared} {c : Code} {fs : List Frame} {s : Shared} {env : Env}
  {K : Flow → Sem Fin} {H : Value → Sem Fin} {gd : Bool → Bool} {lv : List Value → List Value}
theorem seg_If {test : Expr} {body orelse : List Stmt} {pos : Pos}
    (h : wpAny M (A.over c fs) (isTrue test env (eval test env)) (fun b s' => if b = true then Seg M A R Y n s₀ c ((execs body env).wrap K H gd lv) fs s' else Seg M A R Y n s₀ c ((execs orelse env).wrap K H gd lv) fs s')
      (fun x s' => Seg M A R Y n s₀ c (H x) fs s') s) :
    Seg M A R Y n s₀ c ((exec (.If test body orelse pos) env).wrap K H gd lv) fs s := by
  rw [exec_If, wrap_bind]
  refine seg_wrap (wpAny_standAt ?_)
  rw [wrap_bind]
  refine seg_wrap (wpAny_mono h (fun b s' hb => ?_) fun _ _ e => e)
  cases b with
  | true => exact hb
  | false => exact hb
theorem seg_For {target iter : Expr} {body orelse : List Stmt} {pos : Pos}
    (h : wpAny M (A.over c fs) (eval iter env) (fun x s₁ => wpAny M (A.over c fs) (pyIter x) (fun it s₂ =>
      ∀ p, Seg M A R Y n s₀ (.forLoop target it body orelse env) (M.den (.forLoop target it body orelse env))
      (.ret (fun r => ((match r with | .ok f => (.pure f : Sem Flow) | .error e => .raise e).onRaise fun (x : Value) => do
        if (← field x 1) == Value.none then unsupported "frame.own-activation:exception-without-traceback"
        setFlight x env.frame).wrap K H gd lv) none (gd false) (lv []) c p [] :: fs) s₂) (fun x s' => Seg M A R Y n s₀ c (H x) fs s') s₁) (fun x s' => Seg M A R Y n s₀ c (H x) fs s') s)
    (hs : ∀ x, foldedSetIterable iter env x = pure x := by intro _; rfl) :
    Seg M A R Y n s₀ c ((exec (.For target iter body orelse pos) env).wrap K H gd lv) fs s := by
  rw [exec_For, wrap_bind]
  refine seg_wrap (wpAny_standAt ?_)
  rw [wrap_bind]
  refine seg_wrap (wpAny_mono h (fun x s₁ h₁ => ?_) fun _ _ e => e)
  rw [wrap_bind]
  refine seg_wrap (wpAny_of_eq (hs x) ?_)
  rw [wrap_bind]
  refine seg_wrap (wpAny_standAt ?_)
  rw [wrap_bind]
  refine seg_wrap (wpAny_holding (wpAny_mono h₁ (fun it s₂ h₂ => ?_) fun _ _ e => e))
  exact seg_call h₂
end
section
variable {prog : Program} {w : World} {A : Around} {R : GenEnd} {Y : Protocol} {n : Nat} {s₀ : Shared} {fs : List Frame} {s : Shared} {env : Env}
/-- what a loop does with an exception of its turn -/
abbrev loopH (env : Env) : Value → Sem Fin := fun e => (do noteFrame e env; theTreesLotGoes e : Sem Unit).wrap (fun _ => .raise e) .raise id id
/-- a turn of a loop whose iterator still gives -/
theorem seg_forLoop {target : Expr} {it : Value} {body orelse : List Stmt}
    (h : wpAny (model prog w) (A.over (.forLoop target it body orelse env) fs) (pyNext it) (fun r s' => match r with
        | none => False
        | some v => wpAny (model prog w) (A.over (.forLoop target it body orelse env) fs) (assign target env v) (fun _ s'' =>
          Seg (model prog w) A R Y n s₀ (.forLoop target it body orelse env) ((execs body env).wrap (fun f => match f with
            | .next | .cont => .pure (.again (.forLoop target it body orelse env))
            | .brk => .pure (.done .next)
            | .ret v => .pure (.done (.ret v))) (loopH env) id id) fs s'')
          (fun x s' => Seg (model prog w) A R Y n s₀ (.forLoop target it body orelse env) (loopH env x) fs s') s')
      (fun _ _ => False) s)
    (ht : ∀ v, letOwnedTupleGo target it v = pure () := by intro _; rfl) :
    Seg (model prog w) A R Y n s₀ (.forLoop target it body orelse env) ((model prog w).den (.forLoop target it body orelse env)) fs s := by
  show Seg _ A R Y n s₀ _ ((forTurn target it body orelse env).onRaise (fun x => do noteFrame x env; theTreesLotGoes x)) fs s
  simp only [forTurn]
  rw [Sem.onRaise_eq_wrap, wrap_bind]
  refine seg_wrap (wpAny_standAt ?_)
  rw [wrap_bind]
  refine seg_wrap (wpAny_onRaise (wpAny_mono h (fun r s₁ h₁ => ?_) fun _ _ e => e.elim))
  cases r with
  | none => exact h₁.elim
  | some v =>
    dsimp only at h₁ ⊢
    rw [wrap_bind]
    refine seg_wrap (wpAny_of_eq (ht v) ?_)
    rw [wrap_bind]
    refine seg_wrap (wpAny_mono h₁ (fun _ s₂ h₂ => ?_) fun x s' hx => ?_)
    · rw [wrap_bind]
      rw [Sem.wrap_congr (execs body env) _ _ (K' := fun f => match f with
            | .next | .cont => .pure (.again (.forLoop target it body orelse env))
            | .brk => .pure (.done .next)
            | .ret v => .pure (.done (.ret v))) (H' := loopH env)
        (fun f => by cases f <;> rfl)
        (fun e => by first | exact Sem.bind_eq_wrap _ _ | (show (do noteFrame e env; theTreesLotGoes e : Sem Unit).bind (fun _ => .raise e) = _; rw [Sem.bind_eq_wrap]))]
      exact h₂
    · show Seg _ A R Y n s₀ _ ((do noteFrame x env; theTreesLotGoes x : Sem Unit).bind fun _ => .raise x) fs s'
      rw [Sem.bind_eq_wrap]
      exact hx
end
end Mine
end

section
open PySem PySem.W PySem.Calls PyProof.Rows in
theorem Mine.resetGenC {M : Model} {A : Around} {E : Value → Shared → Prop} {s : Shared} {Q : Bool → Shared → Prop} {v : Value} (h : wpAny M A (truthy v) Q E s) : wpAny M A (truthy v) Q E s := by
  w_top off
  k_with_none
  first | (walk1; fail) | exact h
open PySem PySem.W PySem.Calls PyProof.Rows PyProof.Rows.LCg
open Sem (wp)
namespace Mine
section
variable {prog : Program} {w : World} {A₀ A : Around} {s : Shared} {base h₀ : Heap} {outer : List Env} {L : Addr} {m : Str → Option Value} {env : Env} {news : List (Addr × Obj)} {K : Frag} {p : Program} {loose : List Str} {mean : ExcName → Option Value} {mg mb : Str → Option Value}
  {R : Result → Shared → Prop} {name qual : Str} {params : Arguments} {body : List Stmt} {scope : Scope} {dV kV doc pm cdv ct oc : Value} {an od : Option Addr} {osl : Array (Option Value)} {f : Addr} {args : Args} {binds : List (Str × Value)}
/-- a call of a generator function -/
theorem code_gen (F : Fr h₀ L s.heap m) (X₀ : K.In h₀) (N : News h₀ L s.heap news) (T : Top p loose mean mg mb h₀)
    (ho : K.lookup f = some ⟨oc, od, .func (fnOf name qual params body scope dV kV doc pm an cdv ct), osl⟩) (hcd : codeIn K cdv qual = true) (hroom : A.depth < recursionLimit)
    (hbind : BindsTo s (fnOf name qual params body scope dV kV doc pm an cdv ct) args binds) (hloc : ∀ y ∈ binds, scope.names.lookup y.1 = some .local)
    (h : ∀ G L' oG oL h₁ tk, L' = s.heap.objs.size → G = L' + 1 → Fr h₀ L h₁ m → News h₀ L h₁ ((G, oG) :: (L', oL) :: news) → h₁.objs.size = G + 1 → NsObj oL (fun y => binds.reverse.lookup y) → h₁.IsGen G s.gens.size →
      R (.ok (.ret (.ref G))) { s with heap := h₁, toks := tk, gens := s.gens.push (.fresh (.func body (envOf qual scope L' f cdv))) })
    (hco : scope.isCoroutine = false) (hgen : scope.isGenerator = true) (hk : scope.kind = .function)
    (hcell : ∀ x ∈ scope.names, x.2 ≠ .cell) : codeAny (model prog w) A (.call (.ref f) args) R s := by
  have X : K.In s.heap := X₀.keeps F.keep
  refine codeAny_call_generator hroom (X _ _ ho) rfl hco hgen rfl (codeRec_of X hcd) (hbind _ _ _ _ ?_)
  refine wpAny_newFunctionEnv hcell hloc (fun h₁ hns hsb => ⟨(T.nolimit.keeps F.keep).fresh _ hsb, ?_⟩) hk
  have hk₁ : ∀ b o, s.heap.get? b = some o → h₁.get? b = some o := fun b o e => hsb.extBut b o (Nat.ne_of_lt (Heap.lt_size e)) (Heap.get?_push_of_some _ e)
  have hsz : h₁.objs.size = s.heap.objs.size + 1 := by
    have := hsb.1
    rw [Heap.size_push] at this
    exact this
  obtain ⟨oL, hoL, hnL⟩ := ns_obj hns
  dsimp only
  rw [hsz]
  have up : ∀ (o : Obj) b o', s.heap.get? b = some o' → (h₁.push o).get? b = some o' := fun o b o' e => Heap.get?_push_of_some _ (hk₁ b o' e)
  have none₀ : ∀ a : Nat, s.heap.objs.size ≤ a → h₀.get? a = none := fun a ha => by
    cases e : h₀.get? a with
    | none => rfl
    | some o' => exact absurd (Heap.lt_size (F.keep _ _ e)) (Nat.not_lt.mpr ha)
  have hL : @LT.lt Nat _ L s.heap.objs.size := F.ns.lt
  have hG : ∀ (o : Obj), o.isFreed = false → (h₁.push o).get? (s.heap.objs.size + 1) = some o := fun o e => hsz ▸ Heap.get?_push_size _ e
  refine h (s.heap.objs.size + 1) _ { cls := .type "generator", data := .fields #[.int s.gens.size 0, .str name (s.toks + binds.length), .str qual (s.toks + binds.length + 1)] } oL _ _ rfl rfl (F.keeps (up _)) (fun p hp => ?_) (by rw [Heap.size_push, hsz]) hnL ⟨_, _, _, hG _ rfl, rfl, rfl, rfl⟩
  rcases List.mem_cons.mp hp with rfl | hp
  · exact ⟨hG _ rfl, fun e => Nat.lt_irrefl _ (Nat.lt_trans hL (e ▸ Nat.lt_succ_self _)), none₀ _ (Nat.le_succ _)⟩
  rcases List.mem_cons.mp hp with rfl | hp
  · exact ⟨Heap.get?_push_of_some _ hoL, fun e => Nat.lt_irrefl _ (e ▸ hL), none₀ _ (Nat.le_refl _)⟩
  · exact ⟨up _ _ _ (N p hp).1, (N p hp).2⟩
end
end Mine
namespace Mine
/-- a generator that never ends gives its items in turn; Lg its names, Ig its inner iterator, D the list it goes through -/
noncomputable def GP (h₀ : Heap) (Lg Ig D : Addr) (dobj : Obj) (it : Nat → Int) (N : Nat) : Protocol := fun n s₀ v s₁ kap =>
  ∃ oL oI h' tk t, v = .int (it (N - 1 - n)) t ∧ s₁ = { s₀ with heap := h', toks := tk } ∧ (∀ b o, b ≠ Lg → b ≠ Ig → s₀.heap.get? b = some o → h'.get? b = some o) ∧ h'.get? Lg = some oL ∧ h'.get? Ig = some oI ∧
    (n ≠ 0 → ∀ s'' : Shared, (∀ b o, h₀.get? b = some o → s''.heap.get? b = some o) → s''.heap.get? Lg = some oL → s''.heap.get? Ig = some oI → s''.heap.get? D = some dobj → kap (.send .none) s'')
noncomputable def noEnd : GenEnd := fun _ _ _ _ => False
theorem seg_ind {M : Model} {A : Around} {Y : Protocol} {c : Code} {fs : List Frame} (Cond : Nat → Nat → Shared → Shared → Prop)
    (step : ∀ n i s₀ s, Cond n i s₀ s → (∀ m, n = m + 1 → ∀ i' s₀' s', Cond m i' s₀' s' → Seg M A noEnd Y (m + 1) s₀' c (M.den c) fs s') → Seg M A noEnd Y (n + 1) s₀ c (M.den c) fs s) :
    ∀ n i s₀ s, Cond n i s₀ s → Seg M A noEnd Y (n + 1) s₀ c (M.den c) fs s
  | 0, i, s₀, s, h => step 0 i s₀ s h fun m e => by cases e
  | n + 1, i, s₀, s, h => step (n + 1) i s₀ s h fun m e i' s₀' s' h' => by
    cases e
    exact seg_ind Cond step n i' s₀' s' h'
section
variable {prog : Program} {w : World} {A : Around} {E : Value → Shared → Prop} {s : Shared}
theorem next_gen {a : Addr} {g n : Nat} {gs : GenState} {Y : Protocol} {Q : Option Value → Shared → Prop}
    (hl : s.heap.NoLimit) (hroom : A.depth < recursionLimit)
    (hg : s.heap.IsGen a g) (hgs : s.gens[g]? = some gs)
    (hgo : gs.Goes (model prog w) A.in1 noEnd Y n (.send .none) (s.setGen g .running))
    (hY : ∀ v s₁ gs', gs'.bare = true → Y (n - 1) (s.setGen g .running) v s₁ (fun r' s'' => match n with
        | 0 => False
        | m + 1 => gs'.Goes (model prog w) A.in1 noEnd Y m r' s'') → Q (some v) (s₁.setGen g gs')) :
    wpAny (model prog w) A (pyNext (.ref a)) Q E s := by
  unfold pyNext
  refine wpAny_bind (wpAny_attempt (wpAny_callSpecial?_slot (name := Str.ofString "__next__") hg.typeIs slot_gen_next
    (wpAny_call_entry slot_gen_next hg.typeIs entry_gen_next ?_ (args_gen_next _))))
  show wpAny _ A.in1 (Builtin.Generator.genWake (.ref a) (.send .none)) _ _ s
  unfold Builtin.Generator.genWake
  refine wpAny_bind (wpAny_holding (wpAny_genNumber hg (wpAny_bind (wpAny_genState hgs ?_))))
  cases gs with
  | running => exact hgo.elim
  | finished => exact hgo.elim
  | _ =>
    refine wpAny_bind (wpAny_roomToWake hl hroom ?_)
    show wpAny _ A.in1 (.resume g (.send .none) [] _) _ _ s
    refine wpAny_resumeQ hgs hgo (fun x s₁ hx => hx.elim) (fun v s₁ gs' hb hv => ?_)
    exact wpAny_pure ⟨v, rfl, wpAny_pure (hY v s₁ gs' hb hv)⟩
end
end Mine
end

section
open PySem PySem.W PySem.Calls PyProof.Rows in
theorem Mine.resetGenS {M : Model} {A : Around} {E : Value → Shared → Prop} {s : Shared} {Q : Bool → Shared → Prop} {v : Value} (h : wpAny M A (truthy v) Q E s) : wpAny M A (truthy v) Q E s := by
  w_top off
  k_with_none
  first | (walk1; fail) | exact h
open PySem PySem.W PySem.Calls PyProof.Rows PyProof.Rows.LCg
open Sem (wp)
namespace Mine
section
variable {prog : Program} {w : World} {A : Around} {E : Value → Shared → Prop} {s : Shared} {env : Env} {h₀ : Heap}
/-- a turn's end of a loop over a generator -/
noncomputable def StepN (h₀ : Heap) (L : Addr) (last : Bool) (top : List (Addr × Obj)) (Jn : (Str → Option Value) → List (Addr × Obj) → Prop) (Q : Flow → Shared → Prop) (s : Shared) (f : Flow) (s₂ : Shared) : Prop :=
  match f with
  | .ret v => Q (.ret v) s₂
  | .brk => Q .next s₂
  | _ => last = false ∧ ∃ h' tk m' nx, s₂ = { s with heap := h', toks := tk } ∧ Fr h₀ L h' m' ∧ News h₀ L h' (top ++ nx) ∧ (∀ p ∈ nx, ∀ q ∈ top, p.1 ≠ q.1) ∧ Jn m' nx
theorem push_set {α : Type} (g₀ : Array α) (a b : α) : (g₀.push a).setIfInBounds g₀.size b = g₀.push b := by
  apply Array.ext'
  rw [Array.toList_setIfInBounds, Array.toList_push, Array.toList_push, List.set_append_right _ _ (by simp), show g₀.size - g₀.toList.length = 0 by simp]
  rfl
theorem setGen_push {g₀ : Array GenState} {gs gs' : GenState} {s : Shared} (h : s.gens = g₀.push gs) : (s.setGen g₀.size gs').gens = g₀.push gs' := by
  show s.gens.setIfInBounds g₀.size gs' = _
  rw [h, push_set]
theorem for_genS {Q : Flow → Shared → Prop} {x : Str} {px : Pos} {body : List Stmt} {G Lg D : Addr} {dobj oG oL : Obj} {it : Nat → Int} {N : Nat} {m : Str → Option Value} {news : List (Addr × Obj)} {g₀ : Array GenState} {gs : GenState}
    (J : Nat → (Str → Option Value) → List (Addr × Obj) → Prop)
    (hroom : A.depth < recursionLimit) (hnl : h₀.NoLimit) (hx : env.kindOf x = some .local)
    (hp : (env.scope.kind == .class || (env.scope.kind == .module && env.locals != env.globals)) = false) (hE : PassesOwn (model prog w) A env E)
    (hN : 1 ≤ N) (hg : s.gens = g₀.push gs) (hbare : gs.bare = true) (F : Fr h₀ env.locals s.heap m) (Ns : News h₀ env.locals s.heap ((G, oG) :: (Lg, oL) :: news)) (hsz : s.heap.objs.size = G + 1) (hGL : G ≠ Lg)
    (hoff : ∀ p ∈ news, p.1 ≠ G ∧ p.1 ≠ Lg) (hig : s.heap.IsGen G g₀.size) (h0 : J 0 m news) (hD : ∀ i m nx, J i m nx → (D, dobj) ∈ nx)
    (hgoes : ∀ (A' : Around) (s'' : Shared), (∀ b o, h₀.get? b = some o → s''.heap.get? b = some o) → s''.heap.get? Lg = some oL → s''.heap.get? D = some dobj → s''.heap.objs.size = G + 1 → gs.Goes (model prog w) A' noEnd (GP h₀ Lg (G + 1) D dobj it N) N (.send .none) s'')
    (turn : ∀ i t m₁ nx gs₁ oL₁ oI h tk, i < N → J i m₁ nx → (∀ p ∈ nx, ∀ q ∈ [(G + 1, oI), (G, oG), (Lg, oL₁)], p.1 ≠ q.1) → gs₁.bare = true →
      Fr h₀ env.locals h (fun y => if y = x then some (.int (it i) t) else m₁ y) → News h₀ env.locals h ((G + 1, oI) :: (G, oG) :: (Lg, oL₁) :: nx) →
      wpS (model prog w) A (execs body env) (StepN h₀ env.locals (decide (i + 1 = N)) [(G + 1, oI), (G, oG), (Lg, oL₁)] (J (i + 1)) Q { s with gens := g₀.push gs₁ }) E { s with heap := h, toks := tk, gens := g₀.push gs₁ }) :
    codeS (model prog w) A (.forLoop (.Name x px) (.ref G) body [] env) (fun r s' => match r with | .ok f => Q f s' | .error e => cameBackBy (model prog w) A env E e s') s := by
  have nI : h₀.get? (G + 1) = none := by
    cases e : h₀.get? (G + 1) with
    | none => rfl
    | some o =>
      have h9 := Heap.lt_size (F.keep _ _ e)
      rw [hsz] at h9
      exact absurd h9 (Nat.lt_irrefl _)
  have hLI : env.locals ≠ G + 1 := by
    have h9 : @LT.lt Nat _ env.locals s.heap.objs.size := F.ns.lt
    rw [hsz] at h9
    exact Nat.ne_of_lt h9
  have lts : ∀ p ∈ (G, oG) :: (Lg, oL) :: news, p.1 ≠ G + 1 := fun p hp => by
    have h9 := Heap.lt_size (Ns p hp).1
    rw [hsz] at h9
    exact Nat.ne_of_lt h9
  have nG := (Ns _ (.head _)).2
  have nLg := (Ns _ (.tail _ (.head _))).2
  refine codeS_forLoop
    (fun k s' => ∃ i h tk gs₁ m₁ nx oL₁, k = N - i ∧ i < N ∧ s' = { s with heap := h, toks := tk, gens := g₀.push gs₁ } ∧ Fr h₀ env.locals h m₁ ∧ News h₀ env.locals h ((G, oG) :: (Lg, oL₁) :: nx) ∧ h.IsGen G g₀.size ∧ (∀ p ∈ nx, p.1 ≠ G ∧ p.1 ≠ Lg ∧ p.1 ≠ G + 1) ∧ J i m₁ nx ∧
      ∀ s'' : Shared, s''.heap = h → gs₁.Goes (model prog w) A.in1 noEnd (GP h₀ Lg (G + 1) D dobj it N) (N - i) (.send .none) s'') ?_ N
    ⟨0, s.heap, s.toks, gs, m, news, oL, by (first | lia | omega), by (first | lia | omega), by rw [← hg], F, Ns, hig, fun p hp => ⟨(hoff p hp).1, (hoff p hp).2, lts p (.tail _ (.tail _ hp))⟩, h0, fun s'' e => hgoes _ _ (e ▸ F.keep) (e ▸ (Ns _ (.tail _ (.head _))).1) (e ▸ (Ns _ (.tail _ (.tail _ (hD _ _ _ h0)))).1) (e ▸ hsz)⟩
  rintro k s3 ⟨i, h, tk, gs₁, m₁, nx, oL₁, rfl, hi, rfl, F₁, N₁, hig₁, hoff₁, hJ, hgo⟩
  obtain ⟨n', hn'⟩ : ∃ n', N - i = n' + 1 := ⟨N - i - 1, by (first | lia | omega)⟩
  rw [hn'] at hgo
  refine next_gen (g := g₀.size) (gs := gs₁) (n := n' + 1) (hnl.keeps F₁.keep) hroom hig₁ (by simp) (hgo _ rfl) ?_
  intro v s₁ gs' hb hv
  obtain ⟨oL', oI', h', tk', t, rfl, rfl, hkeep, hL', hI', hkap⟩ := hv
  dsimp only at hkeep hkap
  have keep2 : ∀ p ∈ (G, oG) :: nx, h'.get? p.1 = some p.2 := fun p hp => by
    rcases List.mem_cons.mp hp with rfl | hp
    · exact hkeep _ _ hGL (Nat.ne_of_lt (Nat.lt_succ_self G)) (N₁ _ (.head _)).1
    · exact hkeep _ _ (hoff₁ p hp).2.1 (hoff₁ p hp).2.2 (N₁ _ (.tail _ (.tail _ hp))).1
  have F₂ : Fr h₀ env.locals h' m₁ := ⟨F₁.ns.at' fun o e => hkeep _ _ (fun q => nLg.1 q.symm) hLI e, fun b o e => hkeep _ _ (fun q => by rw [q, nLg.2] at e; cases e) (fun q => by rw [q, nI] at e; cases e) (F₁.keep _ _ e), F₁.above⟩
  have N₂ : News h₀ env.locals h' ((G + 1, oI') :: (G, oG) :: (Lg, oL') :: nx) := fun p hp => by
    rcases List.mem_cons.mp hp with rfl | hp
    · exact ⟨hI', Ne.symm hLI, nI⟩
    rcases List.mem_cons.mp hp with rfl | hp
    · exact ⟨keep2 _ (.head _), nG⟩
    rcases List.mem_cons.mp hp with rfl | hp
    · exact ⟨hL', nLg⟩
    · exact ⟨keep2 _ (.tail _ hp), (N₁ _ (.tail _ (.tail _ hp))).2⟩
  refine wpAny_assign_Name (wpAny_storeName_local hx F₂.ns (fun h₄ hn₄ hs₄ => ?_) hp)
  have F₄ := F₂.set hn₄ hs₄
  have N₄ := N₂.set hs₄
  rw [show N - 1 - (n' + 1 - 1) = i by (first | lia | omega)] at F₄
  have e9 : ((g₀.push gs₁).setIfInBounds g₀.size .running).setIfInBounds g₀.size gs' = g₀.push gs' := by rw [push_set, push_set]
  have hoffs : ∀ p ∈ nx, ∀ q ∈ [(G + 1, oI'), (G, oG), (Lg, oL')], p.1 ≠ q.1 := fun p hp q hq => by
    have h9 := hoff₁ p hp
    rcases List.mem_cons.mp hq with rfl | hq
    · exact h9.2.2
    rcases List.mem_cons.mp hq with rfl | hq
    · exact h9.1
    · rw [List.mem_singleton.mp hq]; exact h9.2.1
  refine wpS_mono (Q := StepN h₀ env.locals (decide (i + 1 = N)) [(G + 1, oI'), (G, oG), (Lg, oL')] (J (i + 1)) Q { s with gens := g₀.push gs' }) (E := E) ?_ (fun f s₃ h₃ => ?_) hE
  · have h5 := fun kk => turn i t m₁ nx gs' oL' oI' h₄ kk hi hJ hoffs hb F₄ N₄
    have e10 : ∀ kk, ({ heap := h₄, gens := ((g₀.push gs₁).setIfInBounds g₀.size .running).setIfInBounds g₀.size gs', drawn := s.drawn, toks := kk, os := s.os } : Shared) = { s with heap := h₄, toks := kk, gens := g₀.push gs' } := fun kk => by rw [e9]
    refine Eq.mp (congrArg (fun st => wpS (model prog w) A (execs body env) _ E st) (e10 _).symm) (h5 _)
  have fin : StepN h₀ env.locals (decide (i + 1 = N)) [(G + 1, oI'), (G, oG), (Lg, oL')] (J (i + 1)) Q { s with gens := g₀.push gs' } .next s₃ → ∃ m, m < N - i ∧ ∃ i h tk gs₁ m₁ nx oL₁, m = N - i ∧ i < N ∧ s₃ = { s with heap := h, toks := tk, gens := g₀.push gs₁ } ∧ Fr h₀ env.locals h m₁ ∧ News h₀ env.locals h ((G, oG) :: (Lg, oL₁) :: nx) ∧ h.IsGen G g₀.size ∧ (∀ p ∈ nx, p.1 ≠ G ∧ p.1 ≠ Lg ∧ p.1 ≠ G + 1) ∧ J i m₁ nx ∧
      ∀ s'' : Shared, s''.heap = h → gs₁.Goes (model prog w) A.in1 noEnd (GP h₀ Lg (G + 1) D dobj it N) (N - i) (.send .none) s'' := by
    rintro ⟨hl, h5, tk5, m5, nx5, rfl, F5, N5, off5, hJ5⟩
    have hl2 : i + 1 ≠ N := by simpa using hl
    refine ⟨N - (i + 1), by (first | lia | omega), i + 1, h5, tk5, gs', m5, nx5, oL', rfl, by (first | lia | omega), rfl, F5, fun p hp => N5 p (.tail _ hp), ?_, fun p hp => ⟨off5 p hp _ (.tail _ (.head _)), off5 p hp _ (.tail _ (.tail _ (.head _))), off5 p hp _ (.head _)⟩, hJ5, fun s'' e => ?_⟩
    · obtain ⟨o, nm, qn, ho, r⟩ := hig₁
      have h6 := (N₁ _ (.head _)).1
      dsimp only at h6
      rw [ho] at h6
      cases h6
      exact ⟨_, nm, qn, (N5 _ (.tail _ (.head _))).1, r⟩
    · have h7 := hkap (by (first | lia | omega)) s'' (e ▸ F5.keep) (e ▸ (N5 _ (.tail _ (.tail _ (.head _)))).1) (e ▸ (N5 _ (.head _)).1) (e ▸ (N5 _ (.tail _ (.tail _ (.tail _ (hD _ _ _ hJ5))))).1)
      rw [show N - (i + 1) = n' by (first | lia | omega)]
      exact h7
  cases f with
  | ret v => exact h₃
  | brk => exact h₃
  | cont => exact fin h₃
  | next => exact fin h₃
end
end Mine
end

section
open PySem PySem.W PySem.Calls PyProof.Rows in
theorem Mine.resetGrp {M : Model} {A : Around} {E : Value → Shared → Prop} {s : Shared} {Q : Bool → Shared → Prop} {v : Value} (h : wpAny M A (truthy v) Q E s) : wpAny M A (truthy v) Q E s := by
  w_top off
  k_with_none
  first | (walk1; fail) | exact h
open PySem PySem.W PySem.Calls PyProof.Rows PyProof.Rows.LCg
namespace Mine
local macro_rules | `(tactic| walk_at $s:str) => `(tactic| k_extra $s)
/-- the items: those of sz, then its last for ever -/
noncomputable def itemG (sz : List Int) (i : Nat) : Int := if i < sz.length then sz.getD i 0 else sz.getD (sz.length - 1) 0
section
variable {w : World} {p : Program} {loose : List Str} {mean : ExcName → Option Value} {mg mb : Str → Option Value} {news : List (Addr × Obj)}
    {dp un : Nat} {gd : Option (List Code)} {cn : Str} {cs : Scope} {a : Addr} {ccd : Value} {cl : List (Str × Addr)} {outer : List Env} {A₀ : Around} {base h₀ : Heap} {L : Addr} {m : Str → Option Value} {s : Shared} {Q E : Value → Shared → Prop}

set_option maxHeartbeats 4000000 in
theorem grouping_call {D : Addr} {n : Nat} {vs : List Value} {sz : List Int} {NN : Nat}
    (B : Below A₀ base outer h₀) (F : Fr h₀ L s.heap m) (X : (hd.heap_39 w.params).In h₀) (N : News h₀ L s.heap news) (T : Top p loose mean mg mb h₀) (hk : cs.kind = .function)
    (hD : (D, listOf vs.toArray n) ∈ news) (hv : IntsAre vs (sz ++ [0])) (hne : sz ≠ []) (hsz : ∀ x ∈ sz, 0 < x ∧ x < 100) (hN : 1 ≤ NN) (hd : dp + 3 < recursionLimit) (hu : un + 40 < cLine)
    (hret : ∀ (G Lg : Addr) (oG oL : Obj) (h' : Heap) (tk' : Nat) (gs : GenState), Lg = s.heap.objs.size → G = Lg + 1 → Fr h₀ L h' m → News h₀ L h' ((G, oG) :: (Lg, oL) :: news) → h'.objs.size = G + 1 → h'.IsGen G s.gens.size → gs.bare = true → (∀ (A' : Around) (s'' : Shared), (∀ b o, h₀.get? b = some o → s''.heap.get? b = some o) → s''.heap.get? Lg = some oL → s''.heap.get? D = some (listOf vs.toArray n) → s''.heap.objs.size = G + 1 → gs.Goes (model PG w) A' noEnd (GP h₀ Lg (G + 1) D (listOf vs.toArray n) (itemG sz) NN) NN (.send .none) s'') → Q (.ref G) { s with heap := h', toks := tk', gens := s.gens.push gs }) :
    wpAny (model PG w) (ktrTop dp un gd cn cs L a ccd cl outer) (call (.ref 98) [.ref D]) Q E s := by
  k_with_none
  (k_with "storeName" => (k_here; k_dflt (refine' wpAny_storeName_local ?x1 ?x2 ?_ ?x3; (case x1 => rfl); (case x2 => exact Fr.ns (by k_asm)); (case x3 => rfl)); intro hQ9 hn9 zzhs9))

  refine wpAny_call ?_
  k_dflt (refine' code_gen ?s2 ?s3 ?s4 ?s5 ?s6 ?s7 ?s8 ?s9 ?sB ?_ ?t2 ?t3 ?t4 ?t5; (case s2 => k_asm); (case s3 => k_asm); (case s4 => k_asm); (case s5 => k_asm); (case s6 => k_is); (case s7 => k_is); (case s8 => ktr_room); (case s9 => exact kp_binds (by k_in) (fun _ => rfl)); (case t5 => decide); (case sB => exact locs rfl); (case t2 => exact rfl); (case t3 => exact rfl); (case t4 => exact rfl); k_whole)
  intro G L' oG oL h₁ tk eL eG F₁ N₁ hs₁ hns hig
  refine hret G L' oG oL h₁ tk _ eL eG F₁ N₁ hs₁ hig rfl ?_
  intro A' s'' hk'' hL'' hD'' hsz''
  obtain ⟨N', rfl⟩ : ∃ N', NN = N' + 1 := ⟨NN - 1, by (first | lia | omega)⟩
  have nL := (N₁ _ (.tail _ (.head _))).2.2
  have nD := (N₁ _ (.tail _ (.tail _ hD))).2.2
  have hLs : @LE.le Nat _ h₀.objs.size L' := by
    rw [eL]
    exact Nat.le_trans F.above (Nat.le_of_lt F.ns.lt)
  have nI : h₀.get? (G + 1) = none := by
    cases e : h₀.get? (G + 1) with
    | none => rfl
    | some o =>
      have h9 := Heap.lt_size (hk'' _ _ e)
      rw [hsz''] at h9
      exact absurd h9 (Nat.lt_irrefl _)
  have Fg : Fr h₀ L' s''.heap (fun y => ([(Str.ofString "grouping", Value.ref D)] : List (Str × Value)).reverse.lookup y) := ⟨hns.ns hL'', hk'', hLs⟩
  have Ng : News h₀ L' s''.heap [(D, listOf vs.toArray n)] := by
    intro p hp
    rw [List.mem_singleton.mp hp]
    refine ⟨hD'', fun e => ?_, nD⟩
    have h9 := Heap.lt_size (N _ hD).1
    rw [← eL] at h9
    exact absurd (e ▸ h9) (Nat.lt_irrefl _)
  clear F₁ N₁ N F hret
  refine ⟨rfl, seg_func ?_⟩
  refine seg_execs_cons (seg_wrap ?_)
  k_steps
  rename Heap.SameBut _ _ _ => hs1
  rename Heap.Ns _ _ _ => hn1
  rename Heap => h1
  have F1 := Fg.set hn1 hs1
  have N1 := Ng.set hs1
  have z1 : h1.objs.size = G + 1 := hs1.1.trans hsz''
  refine seg_execs_cons (seg_For ?_)
  k_steps
  have hl1 := mem_isListA N1 (.head _)
  refine wpAny_pyIter_list hl1 ?_
  intro p0
  dsimp only
  rw [z1]
  have dGL : G + 1 ≠ L' := by show ¬ @Eq Nat (G + 1) L'; have : @Eq Nat G (L' + 1) := eG; (first | lia | omega)
  have dDL : D ≠ L' := fun e => (Ng _ (.head _)).2.1 e
  have dDI : D ≠ G + 1 := by
    have h9 := Heap.lt_size (N1 _ (.head _)).1
    rw [z1] at h9
    exact Nat.ne_of_lt h9
  have hlv : vs.length = sz.length + 1 := by rw [hv.length, List.length_append]; rfl
  have hsl : 0 < sz.length := List.length_pos_iff.mpr hne
  have gI : (h1.push { cls := .type "list_iterator", dict := none, data := .fields #[.ref D, .int 0 0] }).get? (G + 1) = some { cls := .type "list_iterator", dict := none, data := .fields #[.ref D, .int 0 0] } := z1 ▸ Heap.get?_push_size _ rfl
  have up1 : ∀ b o, h1.get? b = some o → (h1.push { cls := .type "list_iterator", dict := none, data := .fields #[.ref D, .int 0 0] }).get? b = some o := fun b o e => Heap.get?_push_of_some _ e
  refine seg_ind (Cond := fun n1 i s₀ s => i + n1 = N' ∧ ∃ h tk mI, s = { s₀ with heap := h, toks := tk } ∧ (∀ b o, b ≠ L' → b ≠ G + 1 → s₀.heap.get? b = some o → h.get? b = some o) ∧ (∀ b o, h₀.get? b = some o → h.get? b = some o) ∧ h.Ns L' mI ∧
    (mI (Str.ofString "last_interval") = if i = 0 then some .none else mI (Str.ofString "last_interval")) ∧ (i ≠ 0 → ∃ t, mI (Str.ofString "last_interval") = some (.int (itemG sz (i - 1)) t)) ∧
    h.IsListIter (G + 1) D i ∧ h.get? D = some (listOf vs.toArray n) ∧ i ≤ sz.length) ?_ N' 0 s'' _ ⟨by (first | lia | omega), _, _, _, rfl, fun b o hb hbI e => up1 b o (hs1.extBut b o hb e), fun b o e => up1 b o (F1.keep b o e), hn1.keeps up1, rfl, fun h => absurd rfl h, ⟨_, gI, rfl, rfl⟩, up1 _ _ (N1 _ (.head _)).1, Nat.zero_le _⟩
  clear hk'' hL'' hD'' Fg Ng F1 N1 hn1 hs1 z1 hl1 gI up1 hsz'' h1
  rintro n1 i s₀ s3 ⟨hin, h, tk3, mI, rfl, hkeep, hkb, hnI, hl0, hlI, hit, hgD, hile⟩ ih
  refine seg_forLoop ?_
  have hiv : i < vs.length := by (first | lia | omega)
  obtain ⟨x, tx, hvx, hx⟩ := IntsAre.at hv i _ (List.getElem?_eq_getElem hiv)
  have hlD : h.IsList D vs.toArray := ⟨_, hgD, rfl, n, rfl⟩
  refine wpAny_pyNext_list_item (x := .int x tx) hit hlD (by rw [← hvx]; simp) fun h4 hit4 hs4 => ?_
  refine wpAny_assign_Name (wpAny_storeName_local rfl (hnI.at' fun o e => hs4.extBut _ o (Ne.symm dGL) e) (fun h5 hn5 hs5 => ?_) rfl)
  dsimp only at hn5 hs5
  have hit5 : h5.IsListIter (G + 1) D (i + 1) := hit4.at fun o e => hs5.extBut _ o dGL e
  have hgD5 : h5.get? D = some (listOf vs.toArray n) := hs5.extBut _ _ dDL (hs4.extBut _ _ dDI hgD)
  have hkb5 : ∀ b o, h₀.get? b = some o → h5.get? b = some o := fun b o e => hs5.extBut _ _ (fun q => by have e2 : h₀.get? L' = some o := by { have q2 : b = L' := q; rw [q2] at e; exact e }; rw [show h₀.get? L' = none from nL] at e2; cases e2) (hs4.extBut _ _ (fun q => by { rw [q, nI] at e; cases e }) (hkb b o e))
  have hkeep5 : ∀ b o, b ≠ L' → b ≠ G + 1 → s₀.heap.get? b = some o → h5.get? b = some o := fun b o b1 b2 e => hs5.extBut _ _ b1 (hs4.extBut _ _ b2 (hkeep b o b1 b2 e))
  have F5 : Fr h₀ L' h5 (fun y => if y = Str.ofString "interval" then some (.int x tx) else mI y) := ⟨hn5, hkb5, hLs⟩
  have N5 : News h₀ L' h5 [] := fun p hp => nomatch hp
  clear hit4 hs4 hs5 hnI hkb hkeep hgD hit hlD
  refine seg_execs_cons (seg_If ?_)
  k_steps
  · rename (x = _) => hx127
    exfalso
    rcases List.mem_append.mp (List.mem_of_getElem? hx) with hm | hm
    · have := hsz x hm
      (first | lia | omega)
    · rw [List.mem_singleton.mp hm] at hx127
      cases hx127
  · refine seg_execs_cons (seg_If ?_)
    k_steps
    · rename (x = _) => hx0
      have hie : i = sz.length := by
        rcases Nat.lt_or_ge i sz.length with h9 | h9
        · rw [List.getElem?_append_left h9] at hx
          have := hsz x (List.mem_of_getElem? hx)
          (first | lia | omega)
        · (first | lia | omega)
      obtain ⟨tl, hlI2⟩ := hlI (by (first | lia | omega))
      rw [upd_know hlI2] at F5
      refine seg_execs_cons (seg_If ?_)
      k_steps
      refine seg_execs_nil ?_
      dsimp only
      refine seg_execs_cons (seg_While ?_)
      intro p1
      have hIg : ∃ oI, h5.get? (G + 1) = some oI := by obtain ⟨oI, e, _⟩ := id hit5; exact ⟨oI, e⟩
      have hmn := F5.ns
      clear ih hx hx0 hvx hl0 hlI hlI2 hit5 hgD5
      refine seg_ind (Cond := fun n1 i s₀ s => i + n1 = N' ∧ sz.length ≤ i ∧ ∃ h tk mI, s = { s₀ with heap := h, toks := tk } ∧ (∀ b o, b ≠ L' → b ≠ G + 1 → s₀.heap.get? b = some o → h.get? b = some o) ∧ (∀ b o, h₀.get? b = some o → h.get? b = some o) ∧ h.Ns L' mI ∧
        mI (Str.ofString "last_interval") = some (.int (itemG sz (sz.length - 1)) tl) ∧ ∃ oI, h.get? (G + 1) = some oI) ?_ n1 i s₀ _ ⟨hin, by (first | lia | omega), _, _, _, rfl, hkeep5, hkb5, hmn, by rw [← hie]; rfl, hIg⟩
      clear F5 N5 hmn hIg hkeep5 hkb5 hn5 hin hie hile hiv h5
      rintro n1 i s₀ s3 ⟨hin, hsi, h, tk4, mI, rfl, hkeep, hkb, hnI, hlI, oI, hoI⟩ ih
      have F5 : Fr h₀ L' h (fun y => if y = Str.ofString "last_interval" then some (.int (itemG sz (sz.length - 1)) tl) else mI y) := ⟨upd_know hlI ▸ hnI, hkb, hLs⟩
      have N5 : News h₀ L' h [] := fun p hp => nomatch hp
      refine seg_whileLoop ?_
      k_steps
      refine seg_execs_cons (seg_Expr_Yield rfl rfl rfl ?_)
      k_steps
      rename (∀ _ _, _ → _) => hkap
      have hit6 : itemG sz (N' + 1 - 1 - n1) = itemG sz (sz.length - 1) := by
        rw [show N' + 1 - 1 - n1 = i by (first | lia | omega)]
        unfold itemG
        rw [if_neg (by (first | lia | omega)), if_pos (by (first | lia | omega))]
      obtain ⟨oL5, hoL5, hnL5⟩ := ns_obj hnI
      refine ⟨oL5, oI, h, _, tl, by rw [hit6], rfl, hkeep, hoL5, hoI, fun hn0 s6 hb6 hL6 hI6 hD6 => ?_⟩
      refine hkap _ _ ?_
      obtain ⟨n2, rfl⟩ : ∃ n2, n1 = n2 + 1 := ⟨n1 - 1, by (first | lia | omega)⟩
      dsimp only
      refine seg_execs_nil ?_
      dsimp only
      refine seg_again rfl ?_
      exact ih n2 rfl (i + 1) s6 _ ⟨by (first | lia | omega), by (first | lia | omega), _, _, _, rfl, fun b o _ _ e => e, hb6, hnL5.ns hL6, hlI, oI, hI6⟩
    · rename ¬ (x = 0) => hx0
      refine seg_execs_nil ?_
      dsimp only
      refine seg_execs_cons (seg_Expr_Yield rfl rfl rfl ?_)
      k_steps
      rename (∀ _ _, _ → _) => hkap
      have hlt : i < sz.length := by
        rcases Nat.lt_or_ge i sz.length with h9 | h9
        · exact h9
        · rw [List.getElem?_append_right h9, show i - sz.length = 0 by (first | lia | omega)] at hx
          cases hx
          exact absurd rfl hx0
      have hit6 : itemG sz (N' + 1 - 1 - n1) = x := by
        rw [show N' + 1 - 1 - n1 = i by (first | lia | omega)]
        unfold itemG
        rw [if_pos hlt, List.getD_eq_getElem?_getD]
        rw [List.getElem?_append_left hlt] at hx
        rw [hx]
        rfl
      obtain ⟨oL5, hoL5, hnL5⟩ := ns_obj F5.ns
      obtain ⟨oI5, hoI5, hdI5⟩ := id hit5
      refine ⟨oL5, oI5, h5, _, tx, by rw [hit6], rfl, hkeep5, hoL5, hoI5, fun hn0 s6 hb6 hL6 hI6 hD6 => ?_⟩
      refine hkap _ _ ?_
      obtain ⟨n2, rfl⟩ : ∃ n2, n1 = n2 + 1 := ⟨n1 - 1, by (first | lia | omega)⟩
      dsimp only
      have F6 : Fr h₀ L' s6.heap (fun y => if y = Str.ofString "interval" then some (.int x tx) else mI y) := ⟨hnL5.ns hL6, hb6, hLs⟩
      have N6 : News h₀ L' s6.heap [] := fun p hp => nomatch hp
      clear F5 N5
      refine seg_execs_cons (seg_wrap ?_)
      k_steps
      rename Heap.SameBut _ _ _ => hs7
      rename Heap.Ns _ _ _ => hn7
      refine seg_execs_nil ?_
      dsimp only
      refine seg_again rfl ?_
      refine ih n2 rfl (i + 1) s6 _ ⟨by (first | lia | omega), _, _, _, rfl, fun b o b1 _ e => hs7.extBut _ _ b1 e, fun b o e => hs7.extBut _ _ (fun q => by have q2 : b = L' := q; rw [q2, show h₀.get? L' = none from nL] at e; cases e) (hb6 _ _ e), hn7, by rw [if_neg (Nat.succ_ne_zero _)], fun _ => ⟨tx, ?_⟩, ⟨oI5, hs7.extBut _ _ dGL hI6, hdI5⟩, hs7.extBut _ _ dDL hD6, by (first | lia | omega)⟩
      rw [if_pos rfl, Nat.add_sub_cancel, ← hit6, show N' + 1 - 1 - (n2 + 1) = i by (first | lia | omega)]
end
end Mine
end

section
open PySem PySem.W PySem.Calls PyProof.Rows in
theorem Mine.resetComp2 {M : Model} {A : Around} {E : Value → Shared → Prop} {s : Shared} {Q : Bool → Shared → Prop} {v : Value} (h : wpAny M A (truthy v) Q E s) : wpAny M A (truthy v) Q E s := by
  w_top off
  k_with_none
  first | (walk1; fail) | exact h
open PySem PySem.W PySem.Calls PyProof.Rows PyProof.Rows.LCg
namespace Mine
/-- an element's end: it is as R says, the ledger is as it was -/
noncomputable def EltEnd (h₀ : Heap) (L : Addr) (m : Str → Option Value) (s₀ : Shared) (nx : List (Addr × Obj)) (R : Value → Prop) (y : Value) (s' : Shared) : Prop :=
  R y ∧ ∃ h' tk', s' = { s₀ with heap := h', toks := tk' } ∧ Fr h₀ L h' m ∧ News h₀ L h' nx
section
variable {prog : Program} {w : World} {A : Around} {E : Value → Shared → Prop} {s : Shared} {h₀ : Heap} {L : Addr} {m : Str → Option Value} {env : Env}
/-- [elt for x in ..] -/
theorem compRest_map {elt : Expr} {x : Str} {scope : Scope} {cl : List (Str × Addr)} {S : List (Addr × Obj) → Prop} {P : Nat → Value → Prop} {Fin : List Value → List (Addr × Obj) → Prop} {news : List (Addr × Obj)} {N : Nat}
    (G : Nat → List Value → Prop) (R : Nat → Value → Prop) (hS : S news)
    (hGs : ∀ i y ys, R i y → G i ys → G (i + 1) (ys ++ [y]))
    (turn : ∀ i v I oI C oC D ys m₂ h tk (E' : Value → Shared → Prop), i < N → P i v → NsObj oC m₂ → m₂ x = some v → Fr h₀ L h m → News h₀ L h ((I, oI) :: (C, oC) :: (D, lst ys) :: news) →
      wpAny (model prog w) A (eval elt (compEnvC scope cl C env)) (EltEnd h₀ L m s ((I, oI) :: (C, oC) :: (D, lst ys) :: news) (R i)) E' { s with heap := h, toks := tk }) :
    ∀ (k i : Nat) (ys : List Value), i + k = N → G i ys → (∀ ys, G N ys → Fin ys news) →
    CompRest prog w A h₀ L m env elt x scope cl s S P Fin k i ys news
  | 0, i, ys, hik, hG, hF => by
    have : i = N := by (first | lia | omega)
    subst this
    exact CompRest.zero (hF _ hG)
  | k + 1, i, ys, hik, hG, hF => by
    refine CompRest.succ ?_
    intro v I oI C oC D m₂ h tk E' hv hns hm₂ F N off ne
    refine wpAny_mono (turn i v I oI C oC D ys m₂ h tk E' (by (first | lia | omega)) hv hns hm₂ F N) (fun y s' h₁ => ?_) fun _ _ e => e
    obtain ⟨hR, h', tk', rfl, F', N'⟩ := h₁
    exact CompEnd.intro (s₁ := { s with heap := h, toks := tk }) F' N' news (fun p hp => hp) off hS (compRest_map G R hS hGs turn k (i + 1) _ (by (first | lia | omega)) (hGs i y ys hR hG) hF)
/-- the source of a comprehension: its iterator is one new object -/
noncomputable def SrcW (prog : Program) (w : World) (A : Around) (E : Value → Shared → Prop) (h₀ : Heap) (L : Addr) (m : Str → Option Value) (env : Env) (elt : Expr) (x : Str) (scope : Scope) (cl : List (Str × Addr)) (Q : Value → Shared → Prop) (xv : Value) (s₁ : Shared) : Prop :=
  ∃ (St : Addr → Nat → Heap → Prop) (n : Nat) (P : Nat → Value → Prop) (news : List (Addr × Obj)), n ≤ sizeLine ∧ (∀ I, Walks prog w A I [I] [I] n P (St I)) ∧ (∀ I i h, St I i h → ∃ o, h.get? I = some o) ∧ Fr h₀ L s₁.heap m ∧ News h₀ L s₁.heap news ∧
    wpAny (model prog w) A (pyIter xv) (fun it s₂ => it = .ref s₁.heap.objs.size ∧ ∃ o, s₂ = { s₁ with heap := s₁.heap.push o } ∧ St s₁.heap.objs.size 0 s₂.heap) E s₁ ∧
    ∀ s₂ : Shared, (∃ h, s₂ = { s₁ with heap := h }) → CompRest prog w A h₀ L m env elt x scope cl s₂ (fun _ => True) P (FinE h₀ L m s₂ Q) n 0 [] news
theorem ListComp_W {elt iter : Expr} {x : Str} {px : Pos} {scope : Scope} {cl : List (Str × Addr)} {pos : Pos} {Q : Value → Shared → Prop} (_F₀ : Fr h₀ L s.heap m)
    (hclos : closureFor scope env = pure cl) (hcell : ∀ y ∈ scope.names, y.2 ≠ .cell) (hkind : scope.kind = .function)
    (hnames : ∀ y ∈ scope.names, y.2 = .local → scope.names.lookup y.1 = some .local) (hx : scope.names.lookup x = some .local)
    (h : wpAny (model prog w) A (eval iter env) (SrcW prog w A E h₀ L m env elt x scope cl Q) E s)
    (hs : ∀ x, foldedSetIterable iter env x = pure x := by intro _; rfl) :
    wpAny (model prog w) A (eval (.ListComp elt [⟨.Name x px, iter, [], 0⟩] scope pos) env) Q E s := by
  rw [eval_ListComp]
  refine wpAny_comprehension_free (use := none) rfl hs hclos hkind hnames (wpAny_mono h (fun xv s₁ h₁ => ?_) fun _ _ e => e)
  obtain ⟨St, n, P, news, hsz, W, hIo, F, N, hit, R⟩ := h₁
  refine wpAny_mono hit (fun it s₂ h₂ => ?_) fun _ _ e => e
  obtain ⟨rfl, o, rfl, hst⟩ := h₂
  refine block_U (W s₁.heap.objs.size) hsz (fun i h st => hIo _ i h st) (fun i h h' o nw st e e' _ _ _ => (W _).frame i h h' st fun b hb o' e2 => ?_) hcell hkind hx hst (fun b hb => ?_)
    (F.keeps fun _ _ e => Heap.get?_push_of_some _ e) (N.grown fun _ _ e => Heap.get?_push_of_some _ e) (Nat.ne_of_lt F.ns.lt) (next_is_new F) (fun p hp => Nat.ne_of_lt (Heap.lt_size (N p hp).1)) trivial (R _ ⟨_, rfl⟩) ?_
  · rw [List.mem_singleton.mp hb] at e2 ⊢
    rw [e] at e2
    rw [e', e2]
  · rw [List.mem_singleton.mp hb]
    show s₁.heap.objs.size < (s₁.heap.push _).objs.size
    rw [Heap.size_push]; exact Nat.lt_succ_self _
  · intro D C h tk m' ys news' F' N' o1 hn hC₀ hD₀ hCL hDL hCD offC fin
    refine ⟨m', hn, fun h'' hs'' => fin D h'' tk (F'.change hs'' hCL hC₀) (fun p hp => ?_) o1⟩
    refine ⟨hs''.extBut _ _ ?_ (N' p hp).1, (N' p hp).2⟩
    rcases List.mem_cons.mp hp with rfl | hp
    · exact Ne.symm hCD
    · exact offC p hp
/-- the letters of a plain text -/
theorem SrcW.ascii {elt : Expr} {x : Str} {scope : Scope} {cl : List (Str × Addr)} {Q : Value → Shared → Prop} {y : Str} {t : Tok} {news : List (Addr × Obj)} (hh : A.handled = none) (ha : y.cps.all (· < 128) = true) (hz : y.cps.size ≤ sizeLine)
    (F : Fr h₀ L s.heap m) (N : News h₀ L s.heap news)
    (h : ∀ s₂ : Shared, (∃ h, s₂ = { s with heap := h }) → CompRest prog w A h₀ L m env elt x scope cl s₂ (fun _ => True) (SignAt y) (FinE h₀ L m s₂ Q) y.cps.size 0 [] news) :
    SrcW prog w A E h₀ L m env elt x scope cl Q (.str y t) s :=
  ⟨fun I i h => h.IsStrIter I "str_ascii_iterator" y t i, _, _, news, hz, fun I => Walks.strAscii hh I y t, fun I i h st => by obtain ⟨o, e, _⟩ := st; exact ⟨o, e⟩, F, N,
    wpAny_pyIter_ascii ha ⟨rfl, _, rfl, ⟨_, Heap.get?_push_size _ rfl, rfl, rfl⟩⟩, h⟩
/-- the bytes -/
theorem SrcW.bytes {elt : Expr} {x : Str} {scope : Scope} {cl : List (Str × Addr)} {Q : Value → Shared → Prop} {b : Array UInt8} {t : Tok} {news : List (Addr × Obj)} (hh : A.handled = none) (hz : b.size ≤ sizeLine)
    (F : Fr h₀ L s.heap m) (N : News h₀ L s.heap news)
    (h : ∀ s₂ : Shared, (∃ h, s₂ = { s with heap := h }) → CompRest prog w A h₀ L m env elt x scope cl s₂ (fun _ => True) (fun i v => ∃ c u, b[i]? = some c ∧ v = .int (c.toNat : Int) u) (FinE h₀ L m s₂ Q) b.size 0 [] news) :
    SrcW prog w A E h₀ L m env elt x scope cl Q (.bytes b t) s :=
  ⟨fun I i h => KBw.IsBytesIter h I b t i, _, _, news, hz, fun I => KBw.walks hh I b t, fun I i h st => by obtain ⟨o, e, _⟩ := st; exact ⟨o, e⟩, F, N,
    KBw.pyIter_bytes ⟨rfl, _, rfl, ⟨_, Heap.get?_push_size _ rfl, rfl, rfl⟩⟩, h⟩
end
end Mine
end

section
open PySem PySem.W PySem.Calls PyProof.Rows in
theorem Mine.resetTurn {M : Model} {A : Around} {E : Value → Shared → Prop} {s : Shared} {Q : Bool → Shared → Prop} {v : Value} (h : wpAny M A (truthy v) Q E s) : wpAny M A (truthy v) Q E s := by
  w_top off
  k_with_none
  first | (walk1; fail) | exact h
open PySem PySem.W PySem.Calls PyProof.Rows
namespace Mine
local macro_rules | `(tactic| walk_at $s:str) => `(tactic| k_extra $s)
/-- the letters' numbers of '.a.b' -/
noncomputable def octs (ls : List Str) : List Int := (Str.ofString "." ++ Txt.join (Str.ofString ".") ls).cps.toList.map fun (c : Nat) => (c : Int)
noncomputable def sizesOf (ls : List Str) : List Int := ls.map fun l => (l.length : Int) + 1
theorem off1_mem {D : Addr} : ∀ {l : List (Addr × Obj)}, LCg.Off1 D l → ∀ p ∈ l, p.1 ≠ D
  | [], _, _, h => nomatch h
  | _ :: _, x, p, h => by
    rcases List.mem_cons.mp h with rfl | h
    · exact x.1
    · exact off1_mem x.2 p h
theorem tail_eq {zs : List Int} {k : Nat} (hk : k + 1 ≤ zs.length)
    (e : List.drop ((List.take (k + 1) zs).length - 1) (List.take (k + 1) zs) = List.take ((List.take (k + 1) zs).length - 1 - ((List.take (k + 1) zs).length - 2)) (List.drop ((List.take (k + 1) zs).length - 2) (List.take (k + 1) zs))) :
    1 ≤ k ∧ zs.getD k 0 = zs.getD (k - 1) 0 := by
  have hl : (List.take (k + 1) zs).length = k + 1 := by rw [List.length_take]; (first | lia | omega)
  rw [hl] at e
  have hlen := congrArg List.length e
  simp only [List.length_drop, List.length_take, hl] at hlen
  have h1 : 1 ≤ k := by (first | lia | omega)
  refine ⟨h1, ?_⟩
  have h0 := congrArg (fun l => l[0]?) e
  simp only [List.getElem?_drop, List.getElem?_take] at h0
  rw [if_pos (by (first | lia | omega)), if_pos (by (first | lia | omega)), if_pos (by (first | lia | omega)), show k + 1 - 1 + 0 = k by (first | lia | omega), show k + 1 - 2 + 0 = k - 1 by (first | lia | omega)] at h0
  rw [List.getD_eq_getElem?_getD, List.getD_eq_getElem?_getD, h0]
theorem calleeOk {s : Shared} {h₀ : Heap} {L f : Addr} {m : Str → Option Value} {K : Frag} {oc : Value} {od : Option Addr} {fd : FuncData} {osl : Array (Option Value)} (F : Fr h₀ L s.heap m) (X : K.In h₀) (ho : K.lookup f = some ⟨oc, od, .func fd, osl⟩) : CalleeOk (.ref f) s :=
  .inr ⟨f, _, fd, rfl, F.keep _ _ (X _ _ ho), rfl⟩
noncomputable def chunk (l : Str) : List Int := (46 : Int) :: l.cps.toList.map fun (c : Nat) => (c : Int)
noncomputable def restI (ls : List Str) (i : Nat) : List Int := ((ls.drop i).map chunk).flatten.reverse
noncomputable def turnI (ls : List Str) (i : Nat) : List Int := ((ls.take i).reverse.map chunk).flatten
theorem octs_chunks {ls : List Str} (hdot : (Str.ofString "." ++ Txt.join (Str.ofString ".") ls).cps.toList = (ls.map fun l => 46 :: l.cps.toList).flatten) : octs ls = (ls.map chunk).flatten := by
  unfold octs
  rw [hdot, List.map_flatten, List.map_map]
  rfl
theorem restI_step {ls : List Str} {i : Nat} {l : Str} (h : ls[i]? = some l) : restI ls i = restI ls (i + 1) ++ (chunk l).reverse := by
  unfold restI
  obtain ⟨hi, e⟩ := List.getElem?_eq_some_iff.mp h
  rw [List.drop_eq_getElem_cons hi, e, List.map_cons, List.flatten_cons, List.reverse_append]
theorem turnI_step {ls : List Str} {i : Nat} {l : Str} (h : ls[i]? = some l) : turnI ls (i + 1) = chunk l ++ turnI ls i := by
  unfold turnI
  rw [List.take_add_one, h]
  simp
theorem restI_le (ls : List Str) (i : Nat) : (restI ls i).length ≤ (ls.map chunk).flatten.length := by
  unfold restI
  rw [List.length_reverse]
  have h9 : (ls.map chunk).flatten = ((ls.take i).map chunk).flatten ++ ((ls.drop i).map chunk).flatten := by
    rw [← List.flatten_append, ← List.map_append, List.take_append_drop]
  rw [h9, List.length_append]
  (first | lia | omega)
theorem clip_end {R C : List Int} (hC : 1 ≤ C.length) : List.take ((R ++ C).length - clipAt (R ++ C).length (-((C.length : Nat) : Int))) (List.drop (clipAt (R ++ C).length (-((C.length : Nat) : Int))) (R ++ C)) = C := by
  have h9 : clipAt (R ++ C).length (-((C.length : Nat) : Int)) = R.length := by
    rw [clipAt_neg _ _ hC, List.length_append]
    (first | lia | omega)
  rw [h9, List.drop_left, List.take_of_length_le (by rw [List.length_append]; (first | lia | omega))]
theorem clip_front {R C : List Int} (hC : 1 ≤ C.length) : List.take (clipAt (R ++ C).length (-((C.length : Nat) : Int))) (R ++ C) = R := by
  have h9 : clipAt (R ++ C).length (-((C.length : Nat) : Int)) = R.length := by
    rw [clipAt_neg _ _ hC, List.length_append]
    (first | lia | omega)
  rw [h9, List.take_left]
theorem turnI_le (ls : List Str) (i : Nat) : (turnI ls i).length ≤ (ls.map chunk).flatten.length := by
  unfold turnI
  have h9 : (ls.map chunk).flatten = ((ls.take i).map chunk).flatten ++ ((ls.drop i).map chunk).flatten := by
    rw [← List.flatten_append, ← List.map_append, List.take_append_drop]
  have h8 : (((ls.take i).reverse.map chunk).flatten).length = (((ls.take i).map chunk).flatten).length := by
    rw [List.length_flatten, List.length_flatten, List.map_reverse, List.map_reverse, List.sum_reverse]
  rw [h8, h9, List.length_append]
  (first | lia | omega)
theorem restI_end {ls : List Str} {i : Nat} (h : ls.length ≤ i) : restI ls i = [] := by
  unfold restI
  rw [List.drop_eq_nil_of_le h]
  rfl
theorem chunk_len (l : Str) : ((chunk l).length : Int) = (l.length : Int) + 1 := by
  unfold chunk
  rw [List.length_cons, List.length_map, Array.length_toList]
  rfl
theorem size_at {ls : List Str} {i : Nat} {l : Str} (h : ls[i]? = some l) : (sizesOf ls).getD i 0 = ((chunk l).length : Int) := by
  have e8 : (sizesOf ls)[i]? = some ((l.length : Int) + 1) := by
    unfold sizesOf
    rw [List.getElem?_map, h]
    rfl
  rw [List.getD_eq_getElem?_getD, e8, chunk_len]
  rfl
/-- the text of one sign -/
noncomputable def chrOf (k : Int) : Str := ⟨#[k.toNat]⟩
/-- what _law_turned gives -/
noncomputable def turnedV (ls : List Str) : Str := Txt.join (Str.ofString "") ((turnI ls ls.length).map chrOf)
theorem item_size {ls : List Str} {k i : Nat} (hk : k + 1 ≤ ls.length) (htail : ∀ i, k ≤ i → i < ls.length → (sizesOf ls).getD i 0 = (sizesOf ls).getD k 0) (hi : i < ls.length) :
    itemG ((sizesOf ls).take (k + 1)) i = (sizesOf ls).getD i 0 := by
  have hl : ((sizesOf ls).take (k + 1)).length = k + 1 := by rw [List.length_take]; unfold sizesOf; rw [List.length_map]; (first | lia | omega)
  unfold itemG
  rw [hl]
  have h1 : ∀ j, j < k + 1 → ((sizesOf ls).take (k + 1)).getD j 0 = (sizesOf ls).getD j 0 := fun j hj => by
    rw [List.getD_eq_getElem?_getD, List.getD_eq_getElem?_getD, List.getElem?_take, if_pos hj]
  by_cases h : i < k + 1
  · rw [if_pos h, h1 i h]
  · rw [if_neg h, Nat.add_sub_cancel, h1 k (Nat.lt_succ_self _), htail i (by (first | lia | omega)) hi]
theorem octs_in {ls : List Str} (h : (Str.ofString "." ++ Txt.join (Str.ofString ".") ls).cps.all (· < 128) = true) : ∀ k ∈ octs ls, 0 ≤ k ∧ k < 256 := by
  intro k hk
  obtain ⟨c, hc, rfl⟩ := List.mem_map.mp hk
  have h2 : c < 128 := by simpa using Array.all_eq_true_iff_forall_mem.mp h c (Array.mem_toList_iff.mp hc)
  (first | lia | omega)
theorem strs_butLast {lb : List (Str × Tok)} {ls : List Str} {last : Str} (e : lb.map (·.1) = ls ++ [last]) : StrsAre (slicePick (strValues lb).toArray none (some (-1)) none).toList ls := by
  have h := slicePick_butLast (strValues lb).toArray 1 (Nat.le_refl _)
  rw [show (-((1 : Nat) : Int)) = -1 by rfl] at h
  rw [h]
  have h2 := strs_values lb
  rw [e] at h2
  have h3 := h2.length
  simp only [List.length_append, List.length_cons, List.length_nil] at h3
  simp only [List.size_toArray]
  rw [h3, Nat.add_sub_cancel]
  have h4 := h2.take' ls.length
  rwa [List.take_left] at h4
section
variable {w : World} {p : Program} {loose : List Str} {mean : ExcName → Option Value} {mg mb : Str → Option Value} {news : List (Addr × Obj)}
    {dp un : Nat} {gd : Option (List Code)} {cn : Str} {cs : Scope} {a : Addr} {ccd : Value} {cl : List (Str × Addr)} {outer : List Env} {A₀ : Around} {base h₀ : Heap} {L : Addr} {m : Str → Option Value} {s : Shared} {Q E : Value → Shared → Prop}

set_option maxHeartbeats 4000000 in
theorem law_turned_call {x : Str} {t : Tok} {ls : List Str} {last : Str}
    (B : Below A₀ base outer h₀) (F : Fr h₀ L s.heap m) (X : (hd.heap_39 w.params).In h₀) (N : News h₀ L s.heap news) (T : Top p loose mean mg mb h₀) (hk : cs.kind = .function)
    (hsp : Txt.split x (Str.ofString ".") = ls ++ [last]) (hl0 : ls ≠ []) (hl : ls.length ≤ 4) (hll : ∀ l ∈ ls, l.length ≤ 8 ∧ ∀ c ∈ l.cps.toList, c < 128) (hxl : x.length ≤ 50) (hroom : (ls.map (·.length)).sum + ls.length * (Str.ofString ".").length ≤ 16777216) (hjl : (Txt.join (Str.ofString ".") ls).length ≤ 49) (hasc : (Str.ofString "." ++ Txt.join (Str.ofString ".") ls).cps.all (· < 128) = true) (hdot : (Str.ofString "." ++ Txt.join (Str.ofString ".") ls).cps.toList = (ls.map fun l => 46 :: l.cps.toList).flatten) (hd : dp + 6 < recursionLimit) (hu : un + 80 < cLine)
    (hret : ∀ (t' : Tok) (h' : Heap) (tk' : Nat) (gs' : GenState), Fr h₀ L h' m → News h₀ L h' news → gs'.bare = true → Q (.str (turnedV ls) t') { s with heap := h', toks := tk', gens := s.gens.push gs' }) :
    wpS (model PG w) (ktrTop dp un gd cn cs L a ccd cl outer) (call (.ref 117) [.str x t]) Q E s := by
  k_with_none
  (k_with "eval ListComp" => (k_here; k_dflt (refine ListComp_W (by k_asm) (by with_unfolding_all rfl) (by decide) (by rfl) (by decide) (by rfl) ?_)))
  (k_with "exec For Name Name cons nil" => (k_here; k_dflt (refine wpAny_For ?_)))
  (k_with "exec For Name Call cons nil" => (k_here; k_dflt (refine wpAny_For ?_)))

  refine wpS_call ?_
  k_dflt (refine' code_defS ?s1 ?s2 ?s3 ?s4 ?s5 ?sA ?sF ?sK ?s6 ?s7 ?s8 ?s9 ?sB ?_ ?t2 ?t3 ?t4 ?t5; (case sA => exact rfl); (case sF => exact rfl); (case sK => assumption); (case s1 => k_asm); (case s2 => k_asm); (case s3 => k_asm); (case s4 => k_asm); (case s5 => k_asm); (case s6 => k_is); (case s7 => k_is); (case s8 => ktr_room); (case s9 => exact kp_binds (by k_in) (fun _ => rfl)); (case t5 => decide); (case sB => exact locs rfl); (case t2 => exact rfl); (case t3 => exact rfl); (case t4 => exact rfl); k_whole; intro g' L' h' FG' F' N' B' X' T' l1; (try dsimp only); (try k_lift B'); (try k_fold))
  refine execsA ?_
  k_steps
  rename News g' L' _ _ => kN
  rename Fr g' L' _ _ => kF
  dsimp only at kN kF
  rename List.map _ _ = Txt.split _ _ => hsp2
  obtain ⟨LB, mm, its, kF, hmh, kN, hits⟩ : ∃ (LB : Addr) (mm : Str → Option Value) (its : Array Value), Fr g' L' _ (fun y => if y = Str.ofString "labels" then some (.ref LB) else mm y) ∧ mm (Str.ofString "host") = some (.str x t) ∧ News g' L' _ ((LB, listOf its 0) :: news) ∧ StrsAre its.toList ls :=
    ⟨_, _, _, kF, rfl, fun p hp => kN p (by rcases List.mem_cons.mp hp with rfl | hp; exact .head _; exact .tail _ (.tail _ hp)), strs_butLast (hsp2.trans hsp)⟩
  refine execsA ?_
  k_steps
  refine join_list (mem_isListA (by k_asm) (.head _)) hits hroom ?_
  intro t9 k9
  k_steps
  have hin := octs_in hasc
  have hsz : (Str.ofString "." ++ Txt.join (Str.ofString ".") ls).cps.size ≤ 50 := by
    have h1 : (Str.ofString ".").length = 1 := by decide
    show (Str.ofString "." ++ Txt.join (Str.ofString ".") ls).length ≤ 50
    rw [Str.length_append]
    (first | lia | omega)
  have hol : (octs ls).length ≤ 50 := by unfold octs; rw [List.length_map, Array.length_toList]; exact hsz
  refine SrcW.ascii rfl hasc (by rw [sizeLine_eq]; (first | lia | omega)) (by k_asm) (by k_asm) ?_
  rintro s₂ ⟨g9, rfl⟩
  refine compRest_map (N := (Str.ofString "." ++ Txt.join (Str.ofString ".") ls).cps.size) (fun i ys => IntsAre ys ((octs ls).take i)) (fun i v => i < (Str.ofString "." ++ Txt.join (Str.ofString ".") ls).cps.size ∧ ∃ t, v = .int ((octs ls).getD i 0) t) trivial ?_ ?_ _ 0 [] (Nat.zero_add _) .nil ?_
  · rintro i y ys ⟨hi9, t1, rfl⟩ hys
    have hi8 : i < (octs ls).length := by unfold octs; rw [List.length_map, Array.length_toList]; exact hi9
    have e9 : (octs ls)[i]? = some ((octs ls).getD i 0) := by rw [List.getD_eq_getElem?_getD, List.getElem?_eq_getElem hi8]; rfl
    rw [List.take_add_one, e9]
    exact IntsAre.append hys (.cons _ _ .nil)
  · rintro i v I oI C oC D ys m2 h2 tk2 E2 hi ⟨c, u, hc, rfl⟩ hns2 hm2 F2 N2
    k_steps
    refine ⟨⟨hi, tk2, ?_⟩, _, _, rfl, by k_asm, by k_asm⟩
    have e9 : (octs ls)[i]? = some (c : Int) := by
      unfold octs
      rw [List.getElem?_map, Array.getElem?_toList, hc]
      rfl
    rw [List.getD_eq_getElem?_getD, e9]
    rfl
  · intro ys hys D h2 tk2 F2 N2 off2
    rw [List.take_of_length_le (by unfold octs; rw [List.length_map, Array.length_toList]; exact Nat.le_refl _)] at hys
    k_steps
    rename News g' L' _ _ => kN
    rename Fr g' L' _ _ => kF
    obtain ⟨OT, kF, kN⟩ : ∃ OT : Tok, Fr g' L' _ (fun y => if y = Str.ofString "octets" then some (.bytes (byteArr (octs ls)) OT) else if y = Str.ofString "labels" then some (Value.ref LB) else mm y) ∧ News g' L' _ ((LB, listOf its 0) :: news) :=
      ⟨_, kF, fun p hp => kN p (.tail _ hp)⟩
    have hOB := KBa.ints_make hin
    generalize byteArr (octs ls) = OB at *
    have hil : its.size = ls.length := by rw [← Array.length_toList]; exact hits.len_eq
    refine execsA ?_
    refine LCg.Assign_ListComp_U (F₀ := kF) (by rfl) (by with_unfolding_all rfl) (by with_unfolding_all rfl) (by decide) (by rfl) (by decide) (by rfl) (by rfl) (by rfl) ?_
    refine wpAny_Name (wpAny_loadName_local (m := fun y => if y = Str.ofString "octets" then some (.bytes OB OT) else if y = Str.ofString "labels" then some (Value.ref LB) else mm y) rfl rfl kF.ns rfl ?_) rfl
    refine LCg.CompSrc.ledger rfl kF kN (.head _) (by rw [sizeLine_eq]; (first | lia | omega)) ?_
    intro g8
    refine compRest_map (N := its.size) (fun i ys => IntsAre ys ((sizesOf ls).take i)) (fun i v => i < ls.length ∧ ∃ t, v = .int ((sizesOf ls).getD i 0) t) (.inr ⟨_, .head _, rfl, _, rfl⟩) ?_ ?_ _ 0 [] (Nat.zero_add _) .nil ?_
    · rintro i y ys ⟨hi9, t1, rfl⟩ hys
      have e9 : (sizesOf ls)[i]? = some ((sizesOf ls).getD i 0) := by rw [List.getD_eq_getElem?_getD, List.getElem?_eq_getElem (by unfold sizesOf; rw [List.length_map]; exact hi9)]; rfl
      rw [List.take_add_one, e9]
      exact IntsAre.append hys (.cons _ _ .nil)
    · rintro i v I oI C oC D9 ys m2 h3 tk3 E2 hi hv hns2 hm2 F3 N3
      obtain ⟨l9, tl9, rfl, hl9⟩ := hits.item i v (by simpa using hv)
      have hlen := (hll l9 (List.mem_of_getElem? hl9)).1
      k_steps
      have e9 : (sizesOf ls).getD i 0 = (l9.length : Int) + 1 := by
        have e8 : (sizesOf ls)[i]? = some ((l9.length : Int) + 1) := by
          unfold sizesOf
          rw [List.getElem?_map, hl9]
          rfl
        rw [List.getD_eq_getElem?_getD, e8]
        rfl
      rw [← e9]
      exact ⟨⟨by (first | lia | omega), _, rfl⟩, _, _, rfl, by k_asm, by k_asm⟩
    · intro ys hys SD h3 tk3 F3 N3 off3
      rw [hil, List.take_of_length_le (by unfold sizesOf; rw [List.length_map]; exact Nat.le_refl _)] at hys
      have offS : ∀ p ∈ news, p.1 ≠ SD := fun p hp => off1_mem off3.2 p hp
      have neLS : LB ≠ SD := off3.1
      dsimp only at F3
      dsimp only
      have hsl : (sizesOf ls).length = ls.length := by unfold sizesOf; rw [List.length_map]
      have hlp : 0 < ls.length := List.length_pos_iff.mpr hl0
      refine execsA ?_
      refine wpAny_While ?_
      refine codeAny_whileLoop (I := fun k s' => ∃ h tk ys c, s' = { s with heap := h, toks := tk } ∧ Fr g' L' h (fun z => if z = Str.ofString "sizes" then some (Value.ref SD) else if z = Str.ofString "octets" then some (.bytes OB OT) else if z = Str.ofString "labels" then some (Value.ref LB) else mm z) ∧
        News g' L' h ((SD, listOf (List.toArray ys) c) :: (LB, listOf its 0) :: news) ∧ k + 1 ≤ ls.length ∧ IntsAre ys ((sizesOf ls).take (k + 1)) ∧ ∀ i, k ≤ i → i < ls.length → (sizesOf ls).getD i 0 = (sizesOf ls).getD k 0) ?_ (ls.length - 1)
        ⟨h3, _, ys, _, rfl, F3, N3, by (first | lia | omega), by rw [List.take_of_length_le (by (first | lia | omega))]; exact hys, fun i h1 h2 => by rw [show i = ls.length - 1 by (first | lia | omega)]⟩
      clear F3 N3 off3 hys ys
      rintro k s3 ⟨h3, tk3, ys, c3, rfl, F3, N3, hk, hys, htail⟩
      refine wpAny_isTrue_Compare1 ?_
      k_steps
      · rename (List.drop _ _ = List.take _ _) => heq
        obtain ⟨hk1, hkk⟩ := tail_eq (by (first | lia | omega)) heq
        have hyl : ys.length = k + 1 := by rw [hys.length, List.length_take]; (first | lia | omega)
        rename News g' L' _ _ => kN
        rename Fr g' L' _ _ => kF
        refine kpa_pop (D := SD) kF (fun p hp => kN p (.tail _ (.tail _ hp))) (Upd.head fun p hp => by rcases List.mem_cons.mp hp with rfl | hp; exact neLS; exact offS p hp) hys (by (first | lia | omega)) (by rw [sizeLine_eq]; (first | lia | omega)) fun h6 t6 F6 N6 hI6 => ?_
        dsimp only
        refine wpAny_execs_nil ?_
        dsimp only
        have hdl : ((sizesOf ls).take (k + 1)).dropLast = (sizesOf ls).take k := by
          rw [List.dropLast_eq_take, List.length_take, Nat.min_eq_left (by (first | lia | omega)), Nat.add_sub_cancel, List.take_take, Nat.min_eq_left (by (first | lia | omega))]
        rw [hdl] at hI6
        refine ⟨k - 1, by (first | lia | omega), h6, _, _, _, rfl, F6, N6, by (first | lia | omega), by rw [Nat.sub_add_cancel hk1]; exact hI6, fun i h1 h2 => ?_⟩
        rcases Nat.lt_or_ge i k with h9 | h9
        · rw [show i = k - 1 by (first | lia | omega)]
        · rw [htail i h9 h2, hkk]
      · rename News g' L' _ _ => kN
        rename Fr g' L' _ _ => kF
        obtain ⟨kN⟩ : Nonempty (News g' L' _ ((SD, listOf (List.toArray ys) c3) :: (LB, listOf its 0) :: news)) := ⟨fun p hp => kN p (.tail _ (.tail _ hp))⟩
        dsimp only
        have hOl : KBw.bInts OB = octs ls := hOB
        refine execsS (assignS (callS ?_))
        k_steps
        have hop : 0 < (octs ls).length := by
          unfold octs
          rw [List.length_map, Array.length_toList]
          have h1 : (Str.ofString ".").length = 1 := by decide
          show 0 < (Str.ofString "." ++ Txt.join (Str.ofString ".") ls).length
          rw [Str.length_append]
          (first | lia | omega)
        refine ⟨calleeOk (by assumption) X' (by k_is), ?_⟩
        k_dflt (refine byteswap_call B' (by k_asm) X' (by k_asm) T' rfl hOl hop hol (by ktr_room) (by ktr_units) ?_)
        intro ob2 ot2 h7 tk7 hob2 F7 N7
        k_steps
        refine execsA ?_
        k_steps
        refine execsS (forS ?_)
        k_steps
        rename IntsAre _ (List.take (k + 1) (sizesOf ls) ++ [0]) => hzs
        rename Addr => ZD
        rename List Value => zvs
        rename News g' L' _ _ => kN
        rename Fr g' L' _ _ => kF
        have htl : ((sizesOf ls).take (k + 1)).length = k + 1 := by rw [List.length_take]; (first | lia | omega)
        have hch := octs_chunks hdot
        k_dflt (refine grouping_call (NN := ls.length + 1) B' kF X' kN T' rfl (.head _) hzs (fun h => by rw [h] at htl; cases htl) ?_ (by (first | lia | omega)) (by ktr_room) (by ktr_units) ?_)
        · intro z hz
          obtain ⟨l9, hl9, rfl⟩ := List.mem_map.mp (List.mem_of_mem_take hz)
          have := (hll l9 hl9).1
          (first | lia | omega)
        intro G Lg oG oL h8 tk8 gs eL eG F8 N8 hs8 hig8 hb8 hgo8
        refine wpAny_pyIter_gen hig8 ?_
        rename (_ < _ ∧ _ < _ ∧ _ < _ ∧ AllLt _ _) => hltZ
        refine for_genS (J := fun i m nx => (∃ rb rt, m (Str.ofString "rest") = some (.bytes rb rt) ∧ KBw.bInts rb = restI ls i) ∧ (∃ tb tt, m (Str.ofString "turned") = some (.bytes tb tt) ∧ KBw.bInts tb = turnI ls i) ∧ ∃ a8, nx = (ZD, listOf zvs.toArray 0) :: a8 :: (SD, listOf (List.toArray ys) c3) :: (LB, listOf its 0) :: news) (D := ZD) (dobj := listOf zvs.toArray 0) (N := ls.length + 1) (it := itemG ((sizesOf ls).take (k + 1))) (by ktr_room) T'.nolimit rfl rfl (by passes_own) (by (first | lia | omega)) rfl hb8 F8 N8 hs8 ?_ ?_ hig8 ?_ ?_ hgo8 ?_
        · rw [eG]; exact Nat.succ_ne_self Lg
        · intro p hp
          have h9 : p.1 < Lg := eL ▸ Heap.lt_size (kN p hp).1
          exact ⟨fun e => by rw [e, eG] at h9; exact absurd h9 (Nat.not_lt.mpr (Nat.le_succ _)), Nat.ne_of_lt h9⟩
        · exact ⟨⟨ob2, ot2, rfl, by rw [hob2, hch]; unfold restI; rw [List.drop_zero]⟩, ⟨#[], _, rfl, rfl⟩, _, rfl⟩
        · rintro i m nx ⟨_, _, a8, rfl⟩
          exact .head _
        · rintro i t9 m₁ nx gs₁ oL₁ oI h9 tk9 hi ⟨⟨rb, rt, hm1, hrb⟩, ⟨tb, tt, hm2, htb⟩, a8, rfl⟩ hoff9 hb9 F9 N9
          rw [upd_know hm1, upd_know hm2] at F9
          dsimp only at F9
          clear hgo8 F8 N8 hig8 kF
          refine execsA ?_
          k_steps
          · rename ((rb.toList == _) = true) => hrb0
            have hie : restI ls i = [] := by
              rw [← hrb]
              unfold KBw.bInts
              rw [beq_iff_eq.mp hrb0]
              rfl
            have hil : i = ls.length := by
              rcases Nat.lt_or_ge i ls.length with h9 | h9
              · rw [restI_step (List.getElem?_eq_getElem h9)] at hie
                have := congrArg List.length hie
                rw [List.length_append, List.length_reverse] at this
                unfold chunk at this
                simp at this
              · (first | lia | omega)
            dsimp only
            unfold StepN
            dsimp only
            rw [hil] at htb
            have hbs : tb.size ≤ 50 := by
              have h9 := turnI_le ls ls.length
              rw [← hch, ← htb, KBw.ints_length] at h9
              (first | lia | omega)
            refine execsA ?_
            k_steps
            refine SrcW.bytes rfl (by rw [sizeLine_eq]; (first | lia | omega)) (by k_asm) (by k_asm) ?_
            rintro s₂ ⟨g9, rfl⟩
            refine compRest_map (N := tb.size) (fun i ys => StrsAre ys (((KBw.bInts tb).take i).map chrOf)) (fun i v => i < tb.size ∧ ∃ t, v = .str (chrOf ((KBw.bInts tb).getD i 0)) t) trivial ?_ ?_ _ 0 [] (Nat.zero_add _) .nil ?_
            · rintro i y ys ⟨hi9, t1, rfl⟩ hys
              have e9 : (KBw.bInts tb)[i]? = some ((KBw.bInts tb).getD i 0) := by rw [List.getD_eq_getElem?_getD, List.getElem?_eq_getElem (by rw [KBw.ints_length]; exact hi9)]; rfl
              rw [List.take_add_one, e9, List.map_append]
              exact kct_snoc hys
            · rintro i v I oI C oC D ys m2 h2 tk2 E2 hi ⟨c, u, hc, rfl⟩ hns2 hm2 F2 N2
              have hc256 : c.toNat < 256 := c.toNat_lt
              have e9 : (KBw.bInts tb).getD i 0 = (c.toNat : Int) := by
                rw [List.getD_eq_getElem?_getD, KBw.ints_get hc]
                rfl
              rw [e9]
              k_steps
              exact ⟨⟨hi, _, rfl⟩, _, _, rfl, by k_asm, by k_asm⟩
            · intro ys hys D h2 tk2 F2 N2 off2
              rw [List.take_of_length_le (by rw [KBw.ints_length]; exact Nat.le_refl _), htb] at hys
              k_steps
              refine join_list (mem_isListA (by k_asm) (.head _)) hys ?_ ?_
              · rw [List.map_map, List.length_map]
                have h9 := turnI_le ls ls.length
                rw [← hch] at h9
                have h8 : ((turnI ls ls.length).map ((fun (a : Str) => a.length) ∘ chrOf)).sum = (turnI ls ls.length).length := by
                  clear h9 htb hys
                  induction turnI ls ls.length with
                  | nil => rfl
                  | cons a l ih => rw [List.map_cons, List.sum_cons, ih, List.length_cons]; show 1 + _ = _; (first | lia | omega)
                rw [h8, show (Str.ofString "").length = 0 by decide]
                (first | lia | omega)
              intro t5 k5
              k_steps
              rename News h₀ L _ _ => kN
              exact hret _ _ _ _ (by k_asm) (fun p hp => kN p (.tail _ (.tail _ (.tail _ (.tail _ (.tail _ (.tail _ (.tail _ (.tail _ hp))))))))) hb9
          · rename ((rb.toList == _) = false) => hrb0
            dsimp only
            have hil : i < ls.length := by
              rcases Nat.lt_or_ge i ls.length with h9 | h9
              · exact h9
              · rw [restI_end h9] at hrb
                unfold KBw.bInts at hrb
                rw [List.map_eq_nil_iff.mp hrb] at hrb0
                cases hrb0
            obtain ⟨li, hli⟩ : ∃ li, ls[i]? = some li := ⟨_, List.getElem?_eq_getElem hil⟩
            have hsz9 := size_at hli
            have hcl := chunk_len li
            have hl8 := (hll li (List.mem_of_getElem? hli)).1
            have hrs := restI_step hli
            rename Fr g' _ _ _ => kF
            rw [item_size (by (first | lia | omega)) htail hil, hsz9] at kF
            have hrl : (restI ls i).length ≤ 50 := by
              have h9 : (restI ls i).length ≤ (octs ls).length := by
                rw [hch]
                exact restI_le ls i
              (first | lia | omega)
            have htl9 : (turnI ls i).length ≤ 50 := by
              have h9 := turnI_le ls i
              rw [← hch] at h9
              (first | lia | omega)
            refine execsS (assignS (binOpS (callS ?_)))
            k_steps
            rename (KBw.bInts (KBy.picked _ _ _) = _) => hpk
            rw [hrs, show (chunk li).length = (chunk li).reverse.length by rw [List.length_reverse], clip_end (by rw [List.length_reverse]; (first | lia | omega))] at hpk
            refine ⟨calleeOk (by assumption) X' (by k_is), ?_⟩
            rw [show ((chunk li).length : Int) = (((chunk li).reverse.length : Nat) : Int) by rw [List.length_reverse]]
            k_dflt (refine byteswap_call B' (by k_asm) X' (by k_asm) T' rfl hpk (by rw [List.length_reverse]; (first | lia | omega)) (by rw [List.length_reverse]; (first | lia | omega)) (by ktr_room) (by ktr_units) ?_)
            intro ob3 ot3 h7 tk7 hob3 F7 N7
            rw [List.reverse_reverse] at hob3
            k_steps
            rename (KBw.bInts (_ ++ _) = _) => hadd
            refine execsA ?_
            k_steps
            rename (KBw.bInts (KBy.picked _ _ _) = _) => hpk2
            rename News g' _ _ _ => kN
            rename Fr g' _ _ _ => kF
            refine wpS_of (wpAny_execs_nil ?_)
            refine ⟨by rw [decide_eq_false_iff_not]; (first | lia | omega), _, _, _, _, rfl, kF, kN, hoff9, ⟨_, _, rfl, ?_⟩, ⟨_, _, rfl, ?_⟩, a8, rfl⟩
            · rw [hpk2, hrs]
              have e := clip_front (R := restI ls (i + 1)) (C := (chunk li).reverse) (by rw [List.length_reverse]; (first | lia | omega))
              rw [show (chunk li).reverse.length = (chunk li).length from List.length_reverse] at e
              exact e
            · rw [hadd, turnI_step hli]
end
end Mine
end

section
open PySem PySem.W PySem.Calls PyProof.Rows in
theorem Mine.resetRing {M : Model} {A : Around} {E : Value → Shared → Prop} {s : Shared} {Q : Bool → Shared → Prop} {v : Value} (h : wpAny M A (truthy v) Q E s) : wpAny M A (truthy v) Q E s := by
  w_top off
  k_with_none
  first | (walk1; fail) | exact h
set_option autoImplicit false
namespace Mine
/-- 1 where the two differ -/
noncomputable def dif (a b : Bool) : Int := if a = b then 0 else 1
/-- the changes along a walk that starts at x -/
noncomputable def chg (f : Nat → Bool) : Nat → List Nat → Int
  | _, [] => 0
  | x, y :: l => dif (f x) (f y) + chg f y l
/-- the changes along the closed walk -/
noncomputable def cyc (f : Nat → Bool) : List Nat → Int
  | [] => 0
  | a :: l => chg f a (l ++ [a])
theorem chg_append (f : Nat → Bool) : ∀ (x : Nat) (l : List Nat) (y : Nat) (r : List Nat), chg f x (l ++ y :: r) = chg f x (l ++ [y]) + chg f y r
  | x, [], y, r => by simp [chg]
  | x, z :: l, y, r => by
    simp only [List.cons_append, chg]
    rw [chg_append f z l y r]
    (first | lia | omega)
/-- a walk over numbers that lie in order: few changes of an interval's indicator -/
theorem dif_self (a : Bool) : dif a a = 0 := by simp [dif]
theorem dif_comm (a b : Bool) : dif a b = dif b a := by unfold dif; by_cases h : a = b <;> simp [h, eq_comm]
end Mine
namespace Mine
/-- in the interval -/
noncomputable def inI (lo hi : Nat) (p : Nat) : Bool := decide (lo ≤ p) && decide (p ≤ hi)
theorem chg_hi {lo hi : Nat} : ∀ (x : Nat) (l : List Nat), hi < x → (x :: l).Pairwise (· ≤ ·) → chg (inI lo hi) x l = 0
  | _, [], _, _ => rfl
  | x, y :: l, h, hp => by
    have hxy : x ≤ y := (List.pairwise_cons.mp hp).1 y (.head _)
    have hp2 := (List.pairwise_cons.mp hp).2
    have e1 : inI lo hi x = false := by unfold inI; simp; (first | lia | omega)
    have e2 : inI lo hi y = false := by unfold inI; simp; (first | lia | omega)
    simp only [chg]
    rw [chg_hi y l (by (first | lia | omega)) hp2, e1, e2, dif_self]
    rfl
end Mine
namespace Mine
theorem inI_false_of_hi {lo hi p : Nat} (h : hi < p) : inI lo hi p = false := by unfold inI; simp; (first | lia | omega)
theorem inI_false_of_lo {lo hi p : Nat} (h : p < lo) : inI lo hi p = false := by unfold inI; simp; (first | lia | omega)
theorem inI_true {lo hi p : Nat} (h : lo ≤ p) (h' : p ≤ hi) : inI lo hi p = true := by unfold inI; simp; (first | lia | omega)
theorem getLastD_mem : ∀ (x : Nat) (l : List Nat), l.getLastD x ∈ x :: l
  | _, [] => .head _
  | x, y :: l => by
    rw [List.getLastD_cons]
    exact .tail _ (getLastD_mem y l)
theorem chg_ge {lo hi : Nat} : ∀ (x : Nat) (l : List Nat), lo ≤ x → (x :: l).Pairwise (· ≤ ·) → chg (inI lo hi) x l = dif (inI lo hi x) (inI lo hi (l.getLastD x))
  | x, [], _, _ => by simp [chg, dif_self]
  | x, y :: l, h, hp => by
    have hxy : x ≤ y := (List.pairwise_cons.mp hp).1 y (.head _)
    have hp2 := (List.pairwise_cons.mp hp).2
    simp only [chg]
    rw [List.getLastD_cons, chg_ge y l (by (first | lia | omega)) hp2]
    have hl : y ≤ l.getLastD y := by
      rcases List.mem_cons.mp (getLastD_mem y l) with e | e
      · (first | lia | omega)
      · exact (List.pairwise_cons.mp hp2).1 _ e
    by_cases hx : x ≤ hi
    · rw [inI_true h hx]
      by_cases hy : y ≤ hi
      · rw [inI_true (by (first | lia | omega)) hy, dif_self, Int.zero_add]
      · rw [inI_false_of_hi (by (first | lia | omega) : hi < y), inI_false_of_hi (by (first | lia | omega) : hi < l.getLastD y), dif_self, Int.add_zero]
    · rw [inI_false_of_hi (by (first | lia | omega) : hi < x), inI_false_of_hi (by (first | lia | omega) : hi < y), inI_false_of_hi (by (first | lia | omega) : hi < l.getLastD y), dif_self]
      rfl
end Mine
namespace Mine
theorem chg_lo {lo hi : Nat} : ∀ (x : Nat) (l : List Nat), x < lo → (x :: l).Pairwise (· ≤ ·) → chg (inI lo hi) x l = if l.any (inI lo hi) then 1 + dif true (inI lo hi (l.getLastD x)) else 0
  | x, [], _, _ => by simp [chg]
  | x, y :: l, h, hp => by
    have hp2 := (List.pairwise_cons.mp hp).2
    simp only [chg]
    rw [List.getLastD_cons, inI_false_of_lo h, List.any_cons]
    rcases Nat.lt_or_ge y lo with hy | hy
    · rw [chg_lo y l hy hp2, inI_false_of_lo hy, dif_self, Int.zero_add, Bool.false_or]
    · rw [chg_ge y l hy hp2]
      by_cases hyh : y ≤ hi
      · rw [inI_true hy hyh, Bool.true_or, if_pos rfl]
        rfl
      · have e1 : l.any (inI lo hi) = false := by
          rw [List.any_eq_false]
          intro z hz
          have := (List.pairwise_cons.mp hp2).1 z hz
          rw [inI_false_of_hi (by (first | lia | omega) : hi < z)]
          simp
        have hl : y ≤ l.getLastD y := by
          rcases List.mem_cons.mp (getLastD_mem y l) with e | e
          · (first | lia | omega)
          · exact (List.pairwise_cons.mp hp2).1 _ e
        rw [inI_false_of_hi (by (first | lia | omega) : hi < y), inI_false_of_hi (by (first | lia | omega) : hi < l.getLastD y), e1, dif_self]
        simp
end Mine
namespace Mine
theorem chg_snoc (f : Nat → Bool) : ∀ (x : Nat) (l : List Nat) (z : Nat), chg f x (l ++ [z]) = chg f x l + dif (f (l.getLastD x)) (f z)
  | x, [], z => by simp [chg]
  | x, y :: l, z => by
    simp only [List.cons_append, chg]
    rw [chg_snoc f y l z, List.getLastD_cons]
    (first | lia | omega)
end Mine
namespace Mine
theorem le_last : ∀ (x : Nat) (l : List Nat), (x :: l).Pairwise (· ≤ ·) → ∀ z ∈ x :: l, z ≤ l.getLastD x
  | x, [], _, z, hz => by rw [List.mem_singleton.mp hz]; exact Nat.le_refl _
  | x, y :: l, hp, z, hz => by
    have hp2 := (List.pairwise_cons.mp hp).2
    rw [List.getLastD_cons]
    rcases List.mem_cons.mp hz with rfl | hz
    · exact Nat.le_trans ((List.pairwise_cons.mp hp).1 y (.head _)) (le_last y l hp2 y (.head _))
    · exact le_last y l hp2 z hz
/-- around a sorted row an interval's indicator changes twice, or never -/
theorem cyc_eq {lo hi : Nat} : ∀ (l : List Nat), l.Pairwise (· ≤ ·) → cyc (inI lo hi) l = if l.any (inI lo hi) && !l.all (inI lo hi) then 2 else 0
  | [], _ => rfl
  | a :: l, hp => by
    show chg _ a (l ++ [a]) = _
    rw [chg_snoc, List.any_cons, List.all_cons]
    have hlast := le_last a l hp
    rcases Nat.lt_or_ge a lo with h | h
    · rw [chg_lo a l h hp, inI_false_of_lo h, Bool.false_or, Bool.false_and, Bool.not_false, Bool.and_true]
      by_cases e : l.any (inI lo hi) = true
      · rw [if_pos e, if_pos e]
        cases inI lo hi (l.getLastD a) <;> rfl
      · rw [if_neg e, if_neg e]
        have e2 : inI lo hi (l.getLastD a) = false := by
          rcases List.mem_cons.mp (getLastD_mem a l) with q | q
          · rw [q]; exact inI_false_of_lo h
          · cases q2 : inI lo hi (l.getLastD a) with
            | false => rfl
            | true => exact absurd (List.any_eq_true.mpr ⟨_, q, q2⟩) e
        rw [e2, dif_self]
        rfl
    · rw [chg_ge a l h hp]
      by_cases hh : a ≤ hi
      · rw [inI_true h hh, Bool.true_or, Bool.true_and, Bool.true_and]
        by_cases hl : l.getLastD a ≤ hi
        · have e3 : l.all (inI lo hi) = true := List.all_eq_true.mpr fun z hz => inI_true (Nat.le_trans h ((List.pairwise_cons.mp hp).1 z hz)) (Nat.le_trans (hlast z (.tail _ hz)) hl)
          rw [inI_true (Nat.le_trans h (hlast a (.head _))) hl, e3]
          rfl
        · have e3 : l.all (inI lo hi) = false := by
            rcases List.mem_cons.mp (getLastD_mem a l) with q | q
            · rw [q] at hl; exact absurd hh hl
            · rw [List.all_eq_false]
              exact ⟨_, q, by rw [inI_false_of_hi (by (first | lia | omega))]; simp⟩
          rw [inI_false_of_hi (by (first | lia | omega) : hi < l.getLastD a), e3]
          rfl
      · have e3 : l.any (inI lo hi) = false := by
          rw [List.any_eq_false]
          intro z hz
          have := (List.pairwise_cons.mp hp).1 z hz
          rw [inI_false_of_hi (by (first | lia | omega) : hi < z)]
          simp
        have := hlast a (.head _)
        rw [inI_false_of_hi (by (first | lia | omega) : hi < a), inI_false_of_hi (by (first | lia | omega) : hi < l.getLastD a), e3, dif_self]
        rfl
end Mine
namespace Mine
/-- a new stop between two neighbours -/
theorem cyc_mid (f : Nat → Bool) (a : Nat) (l r : List Nat) (x y h : Nat) :
    cyc f (a :: (l ++ x :: h :: y :: r)) = cyc f (a :: (l ++ x :: y :: r)) + (dif (f x) (f h) + dif (f h) (f y) - dif (f x) (f y)) := by
  show chg f a ((l ++ x :: h :: y :: r) ++ [a]) = chg f a ((l ++ x :: y :: r) ++ [a]) + _
  simp only [List.append_assoc, List.cons_append]
  rw [chg_append f a l x (h :: y :: (r ++ [a])), chg_append f a l x (y :: (r ++ [a]))]
  simp only [chg]
  (first | lia | omega)
end Mine
namespace Mine
/-- a new stop at the front, or at the end: between the last and the first -/
theorem cyc_front (f : Nat → Bool) (a : Nat) (l : List Nat) (h : Nat) :
    cyc f (h :: a :: l) = cyc f (a :: l) + (dif (f (l.getLastD a)) (f h) + dif (f h) (f a) - dif (f (l.getLastD a)) (f a)) := by
  show chg f h ((a :: l) ++ [h]) = chg f a (l ++ [a]) + _
  rw [chg_snoc, chg_snoc, List.getLastD_cons]
  simp only [chg]
  (first | lia | omega)
theorem cyc_end (f : Nat → Bool) (a : Nat) (l : List Nat) (h : Nat) :
    cyc f (a :: (l ++ [h])) = cyc f (a :: l) + (dif (f (l.getLastD a)) (f h) + dif (f h) (f a) - dif (f (l.getLastD a)) (f a)) := by
  show chg f a ((l ++ [h]) ++ [a]) = chg f a (l ++ [a]) + _
  rw [chg_snoc, chg_snoc, chg_snoc]
  have e : (l ++ [h]).getLastD a = h := by simp [List.getLastD_eq_getLast?]
  rw [e]
  (first | lia | omega)
end Mine
namespace Mine
/-- the stop before place k, and the one at it, on the closed walk -/
noncomputable def ahd (l : List Nat) (k : Nat) : Nat := if k = 0 then l.getLastD 0 else l.getD (k - 1) 0
noncomputable def beh (l : List Nat) (k : Nat) : Nat := if k = l.length then l.getD 0 0 else l.getD k 0
theorem cyc_mid0 (f : Nat → Bool) (a : Nat) (r : List Nat) (y h : Nat) :
    cyc f (a :: h :: y :: r) = cyc f (a :: y :: r) + (dif (f a) (f h) + dif (f h) (f y) - dif (f a) (f y)) := by
  show chg f a ((h :: y :: r) ++ [a]) = chg f a ((y :: r) ++ [a]) + _
  simp only [List.cons_append, chg]
  (first | lia | omega)
theorem getLastD_getD : ∀ (a : Nat) (t : List Nat), t.getLastD a = (a :: t).getD t.length 0
  | _, [] => rfl
  | a, y :: t => by
    rw [List.getLastD_cons, getLastD_getD y t]
    rfl
theorem cyc_insert (f : Nat → Bool) (l : List Nat) (k h : Nat) (hl : l ≠ []) (hk : k ≤ l.length) :
    cyc f (l.take k ++ h :: l.drop k) = cyc f l + (dif (f (ahd l k)) (f h) + dif (f h) (f (beh l k)) - dif (f (ahd l k)) (f (beh l k))) := by
  cases l with
  | nil => exact absurd rfl hl
  | cons a t =>
    rcases Nat.eq_zero_or_pos k with rfl | hk0
    · rw [List.take_zero, List.drop_zero, List.nil_append, cyc_front]
      unfold ahd beh
      rw [if_pos rfl, if_neg (by simp), List.getLastD_cons]
      rfl
    · obtain ⟨j, rfl⟩ : ∃ j, k = j + 1 := ⟨k - 1, by (first | lia | omega)⟩
      rw [List.take_succ_cons, List.drop_succ_cons]
      unfold ahd beh
      rw [if_neg (Nat.succ_ne_zero _), Nat.add_sub_cancel]
      rcases Nat.lt_or_ge j t.length with hj | hj
      · rw [if_neg (by simp only [List.length_cons]; (first | lia | omega))]
        have ed : t.drop j = t.getD j 0 :: t.drop (j + 1) := by
          rw [List.drop_eq_getElem_cons hj, List.getD_eq_getElem?_getD, List.getElem?_eq_getElem hj]; rfl
        have eb : (a :: t).getD (j + 1) 0 = t.getD j 0 := rfl
        rw [eb]
        rcases Nat.eq_zero_or_pos j with rfl | hj0
        · have et : t = t.getD 0 0 :: t.drop 1 := by simpa using ed
          generalize t.getD 0 0 = y at *
          generalize t.drop 1 = r at *
          subst et
          exact cyc_mid0 f a r y h
        · obtain ⟨i, rfl⟩ : ∃ i, j = i + 1 := ⟨j - 1, by (first | lia | omega)⟩
          have hti : t.take (i + 1) = t.take i ++ [t.getD i 0] := by
            rw [List.take_add_one, List.getD_eq_getElem?_getD, List.getElem?_eq_getElem (by (first | lia | omega))]; rfl
          have et : t = t.take i ++ t.getD i 0 :: t.getD (i + 1) 0 :: t.drop (i + 1 + 1) := by
            have h9 := List.take_append_drop (i + 1) t
            rw [ed, hti, List.append_assoc] at h9
            exact h9.symm
          have ea : (a :: t).getD (i + 1) 0 = t.getD i 0 := rfl
          rw [ea, ed, hti, List.cons_append, List.append_assoc, List.singleton_append]
          have h8 := cyc_mid f a (t.take i) (t.drop (i + 1 + 1)) (t.getD i 0) (t.getD (i + 1) 0) h
          rw [← et] at h8
          exact h8
      · have hj2 : j = t.length := by simp only [List.length_cons] at hk; (first | lia | omega)
        subst hj2
        rw [if_pos (by simp), List.take_length, List.drop_length, List.cons_append, cyc_end, getLastD_getD]
        rfl
end Mine
end

section
open PySem PySem.W PySem.Calls PyProof.Rows in
theorem Mine.resetHst {M : Model} {A : Around} {E : Value → Shared → Prop} {s : Shared} {Q : Bool → Shared → Prop} {v : Value} (h : wpAny M A (truthy v) Q E s) : wpAny M A (truthy v) Q E s := by
  w_top off
  k_with_none
  first | (walk1; fail) | exact h
open PySem PySem.W PySem.Calls PyProof.Rows
namespace Mine
/-- the names, in the order of their labels from the last one on: the codes of the labels ahead of local -/
noncomputable def labN : List (List (List Nat)) := [[],
  [[97]],
  [[97],[97]],
  [[97],[97],[97]],
  [[97,98],[97],[97]],
  [[98],[97],[97]],
  [[99],[97],[97]],
  [[97,98],[97]],
  [[97],[97,98],[97]],
  [[97,98],[97,98],[97]],
  [[98],[97,98],[97]],
  [[99],[97,98],[97]],
  [[98],[97]],
  [[97],[98],[97]],
  [[97,98],[98],[97]],
  [[98],[98],[97]],
  [[99],[98],[97]],
  [[99],[97]],
  [[97],[99],[97]],
  [[97,98],[99],[97]],
  [[98],[99],[97]],
  [[99],[99],[97]],
  [[97,98]],
  [[97],[97,98]],
  [[97],[97],[97,98]],
  [[97,98],[97],[97,98]],
  [[98],[97],[97,98]],
  [[99],[97],[97,98]],
  [[97,98],[97,98]],
  [[97],[97,98],[97,98]],
  [[97,98],[97,98],[97,98]],
  [[98],[97,98],[97,98]],
  [[99],[97,98],[97,98]],
  [[98],[97,98]],
  [[97],[98],[97,98]],
  [[97,98],[98],[97,98]],
  [[98],[98],[97,98]],
  [[99],[98],[97,98]],
  [[99],[97,98]],
  [[97],[99],[97,98]],
  [[97,98],[99],[97,98]],
  [[98],[99],[97,98]],
  [[99],[99],[97,98]],
  [[98]],
  [[97],[98]],
  [[97],[97],[98]],
  [[97,98],[97],[98]],
  [[98],[97],[98]],
  [[99],[97],[98]],
  [[97,98],[98]],
  [[97],[97,98],[98]],
  [[97,98],[97,98],[98]],
  [[98],[97,98],[98]],
  [[99],[97,98],[98]],
  [[98],[98]],
  [[97],[98],[98]],
  [[97,98],[98],[98]],
  [[98],[98],[98]],
  [[99],[98],[98]],
  [[99],[98]],
  [[97],[99],[98]],
  [[97,98],[99],[98]],
  [[98],[99],[98]],
  [[99],[99],[98]],
  [[99]],
  [[97],[99]],
  [[97],[97],[99]],
  [[97,98],[97],[99]],
  [[98],[97],[99]],
  [[99],[97],[99]],
  [[97,98],[99]],
  [[97],[97,98],[99]],
  [[97,98],[97,98],[99]],
  [[98],[97,98],[99]],
  [[99],[97,98],[99]],
  [[98],[99]],
  [[97],[98],[99]],
  [[97,98],[98],[99]],
  [[98],[98],[99]],
  [[99],[98],[99]],
  [[99],[99]],
  [[97],[99],[99]],
  [[97,98],[99],[99]],
  [[98],[99],[99]],
  [[99],[99],[99]]]
/-- the last name that ends in this one -/
noncomputable def hiN : List Nat := [84,21,6,3,4,5,6,11,8,9,10,11,16,13,14,15,16,21,18,19,20,21,42,27,24,25,26,27,32,29,30,31,32,37,34,35,36,37,42,39,40,41,42,63,48,45,46,47,48,53,50,51,52,53,58,55,56,57,58,63,60,61,62,63,84,69,66,67,68,69,74,71,72,73,74,79,76,77,78,79,84,81,82,83,84]
/-- the codes of the name, a dot ahead -/
noncomputable def tN : List (List Nat) := [[46,108,111,99,97,108],
  [46,97,46,108,111,99,97,108],
  [46,97,46,97,46,108,111,99,97,108],
  [46,97,46,97,46,97,46,108,111,99,97,108],
  [46,97,98,46,97,46,97,46,108,111,99,97,108],
  [46,98,46,97,46,97,46,108,111,99,97,108],
  [46,99,46,97,46,97,46,108,111,99,97,108],
  [46,97,98,46,97,46,108,111,99,97,108],
  [46,97,46,97,98,46,97,46,108,111,99,97,108],
  [46,97,98,46,97,98,46,97,46,108,111,99,97,108],
  [46,98,46,97,98,46,97,46,108,111,99,97,108],
  [46,99,46,97,98,46,97,46,108,111,99,97,108],
  [46,98,46,97,46,108,111,99,97,108],
  [46,97,46,98,46,97,46,108,111,99,97,108],
  [46,97,98,46,98,46,97,46,108,111,99,97,108],
  [46,98,46,98,46,97,46,108,111,99,97,108],
  [46,99,46,98,46,97,46,108,111,99,97,108],
  [46,99,46,97,46,108,111,99,97,108],
  [46,97,46,99,46,97,46,108,111,99,97,108],
  [46,97,98,46,99,46,97,46,108,111,99,97,108],
  [46,98,46,99,46,97,46,108,111,99,97,108],
  [46,99,46,99,46,97,46,108,111,99,97,108],
  [46,97,98,46,108,111,99,97,108],
  [46,97,46,97,98,46,108,111,99,97,108],
  [46,97,46,97,46,97,98,46,108,111,99,97,108],
  [46,97,98,46,97,46,97,98,46,108,111,99,97,108],
  [46,98,46,97,46,97,98,46,108,111,99,97,108],
  [46,99,46,97,46,97,98,46,108,111,99,97,108],
  [46,97,98,46,97,98,46,108,111,99,97,108],
  [46,97,46,97,98,46,97,98,46,108,111,99,97,108],
  [46,97,98,46,97,98,46,97,98,46,108,111,99,97,108],
  [46,98,46,97,98,46,97,98,46,108,111,99,97,108],
  [46,99,46,97,98,46,97,98,46,108,111,99,97,108],
  [46,98,46,97,98,46,108,111,99,97,108],
  [46,97,46,98,46,97,98,46,108,111,99,97,108],
  [46,97,98,46,98,46,97,98,46,108,111,99,97,108],
  [46,98,46,98,46,97,98,46,108,111,99,97,108],
  [46,99,46,98,46,97,98,46,108,111,99,97,108],
  [46,99,46,97,98,46,108,111,99,97,108],
  [46,97,46,99,46,97,98,46,108,111,99,97,108],
  [46,97,98,46,99,46,97,98,46,108,111,99,97,108],
  [46,98,46,99,46,97,98,46,108,111,99,97,108],
  [46,99,46,99,46,97,98,46,108,111,99,97,108],
  [46,98,46,108,111,99,97,108],
  [46,97,46,98,46,108,111,99,97,108],
  [46,97,46,97,46,98,46,108,111,99,97,108],
  [46,97,98,46,97,46,98,46,108,111,99,97,108],
  [46,98,46,97,46,98,46,108,111,99,97,108],
  [46,99,46,97,46,98,46,108,111,99,97,108],
  [46,97,98,46,98,46,108,111,99,97,108],
  [46,97,46,97,98,46,98,46,108,111,99,97,108],
  [46,97,98,46,97,98,46,98,46,108,111,99,97,108],
  [46,98,46,97,98,46,98,46,108,111,99,97,108],
  [46,99,46,97,98,46,98,46,108,111,99,97,108],
  [46,98,46,98,46,108,111,99,97,108],
  [46,97,46,98,46,98,46,108,111,99,97,108],
  [46,97,98,46,98,46,98,46,108,111,99,97,108],
  [46,98,46,98,46,98,46,108,111,99,97,108],
  [46,99,46,98,46,98,46,108,111,99,97,108],
  [46,99,46,98,46,108,111,99,97,108],
  [46,97,46,99,46,98,46,108,111,99,97,108],
  [46,97,98,46,99,46,98,46,108,111,99,97,108],
  [46,98,46,99,46,98,46,108,111,99,97,108],
  [46,99,46,99,46,98,46,108,111,99,97,108],
  [46,99,46,108,111,99,97,108],
  [46,97,46,99,46,108,111,99,97,108],
  [46,97,46,97,46,99,46,108,111,99,97,108],
  [46,97,98,46,97,46,99,46,108,111,99,97,108],
  [46,98,46,97,46,99,46,108,111,99,97,108],
  [46,99,46,97,46,99,46,108,111,99,97,108],
  [46,97,98,46,99,46,108,111,99,97,108],
  [46,97,46,97,98,46,99,46,108,111,99,97,108],
  [46,97,98,46,97,98,46,99,46,108,111,99,97,108],
  [46,98,46,97,98,46,99,46,108,111,99,97,108],
  [46,99,46,97,98,46,99,46,108,111,99,97,108],
  [46,98,46,99,46,108,111,99,97,108],
  [46,97,46,98,46,99,46,108,111,99,97,108],
  [46,97,98,46,98,46,99,46,108,111,99,97,108],
  [46,98,46,98,46,99,46,108,111,99,97,108],
  [46,99,46,98,46,99,46,108,111,99,97,108],
  [46,99,46,99,46,108,111,99,97,108],
  [46,97,46,99,46,99,46,108,111,99,97,108],
  [46,97,98,46,99,46,99,46,108,111,99,97,108],
  [46,98,46,99,46,99,46,108,111,99,97,108],
  [46,99,46,99,46,99,46,108,111,99,97,108]]
/-- the name without its first label -/
noncomputable def parN : List Nat := [0,0,1,2,2,2,2,1,7,7,7,7,1,12,12,12,12,1,17,17,17,17,0,22,23,23,23,23,22,28,28,28,28,22,33,33,33,33,22,38,38,38,38,0,43,44,44,44,44,43,49,49,49,49,43,54,54,54,54,43,59,59,59,59,0,64,65,65,65,65,64,70,70,70,70,64,75,75,75,75,64,80,80,80,80]
/-- the names that this one ends in -/
noncomputable def pathT : List (List Nat) := [[0],[1,0],[2,1,0],[3,2,1,0],[4,2,1,0],[5,2,1,0],[6,2,1,0],[7,1,0],[8,7,1,0],[9,7,1,0],[10,7,1,0],[11,7,1,0],[12,1,0],[13,12,1,0],[14,12,1,0],[15,12,1,0],[16,12,1,0],[17,1,0],[18,17,1,0],[19,17,1,0],[20,17,1,0],[21,17,1,0],[22,0],[23,22,0],[24,23,22,0],[25,23,22,0],[26,23,22,0],[27,23,22,0],[28,22,0],[29,28,22,0],[30,28,22,0],[31,28,22,0],[32,28,22,0],[33,22,0],[34,33,22,0],[35,33,22,0],[36,33,22,0],[37,33,22,0],[38,22,0],[39,38,22,0],[40,38,22,0],[41,38,22,0],[42,38,22,0],[43,0],[44,43,0],[45,44,43,0],[46,44,43,0],[47,44,43,0],[48,44,43,0],[49,43,0],[50,49,43,0],[51,49,43,0],[52,49,43,0],[53,49,43,0],[54,43,0],[55,54,43,0],[56,54,43,0],[57,54,43,0],[58,54,43,0],[59,43,0],[60,59,43,0],[61,59,43,0],[62,59,43,0],[63,59,43,0],[64,0],[65,64,0],[66,65,64,0],[67,65,64,0],[68,65,64,0],[69,65,64,0],[70,64,0],[71,70,64,0],[72,70,64,0],[73,70,64,0],[74,70,64,0],[75,64,0],[76,75,64,0],[77,75,64,0],[78,75,64,0],[79,75,64,0],[80,64,0],[81,80,64,0],[82,80,64,0],[83,80,64,0],[84,80,64,0]]
noncomputable def labT (v : Nat) : List Str := (labN.getD v []).map fun l => (⟨l.toArray⟩ : Str)
noncomputable def hostL (ls : List Str) : Str := Txt.join (Str.ofString ".") (ls ++ [Str.ofString "local"])
noncomputable def hv (v : Nat) : Str := hostL (labT v)
noncomputable def nameT (v : Nat) : Str := Str.ofString "." ++ hv v
noncomputable def below (n p : Nat) : Bool := inI n (hiN.getD n 0) p
noncomputable def pathN (v : Nat) : List Nat := pathT.getD v []
noncomputable def ladV (v : Nat) : List Str := (pathN v).map nameT
/-- the hosts -/
noncomputable def IsH (v : Nat) : Prop := 1 ≤ v ∧ v < 85
theorem all85 {f : Nat → Bool} (h : (List.range 85).all f = true) {v : Nat} (hv : v < 85) : f v = true := List.all_eq_true.mp h v (List.mem_range.mpr hv)
theorem all84 {f : Nat → Bool} (h : (List.range' 1 84).all f = true) {v : Nat} (hv : IsH v) : f v = true := List.all_eq_true.mp h v (List.mem_range'_1.mpr ⟨hv.1, by have := hv.2; (first | lia | omega)⟩)
theorem name_codes0 : (List.range 85).all (fun v => (nameT v).cps.toList == tN.getD v []) = true := by decide +kernel
theorem name_codes {v : Nat} (h : v < 85) : (nameT v).cps.toList = tN.getD v [] := beq_iff_eq.mp (all85 name_codes0 h)
theorem split_all : (List.range 85).all (fun v => Txt.split (hv v) (Str.ofString ".") == labT v ++ [Str.ofString "local"]) = true := by decide +kernel
theorem split_hv {v : Nat} (h : v < 85) : Txt.split (hv v) (Str.ofString ".") = labT v ++ [Str.ofString "local"] := beq_iff_eq.mp (all85 split_all h)
/-- the hosts by the law's numbers -/
noncomputable def hostK : List Nat := [1,2,3,43,12,5,22,7,4,64,17,6,1,44,13,43,54,15,22,49,14,64,59,16,1,23,8,43,33,10,22,28,9,64,38,11,1,65,18,43,75,20,22,70,19,64,80,21,1,2,45,43,12,47,22,7,46,64,17,48,1,44,55,43,54,57,22,49,56,64,59,58,1,23,50,43,33,52,22,28,51,64,38,53,1,65,60,43,75,62,22,70,61,64,80,63,1,2,24,43,12,26,22,7,25,64,17,27,1,44,34,43,54,36,22,49,35,64,59,37,1,23,29,43,33,31,22,28,30,64,38,32,1,65,39,43,75,41,22,70,40,64,80,42,1,2,66,43,12,68,22,7,67,64,17,69,1,44,76,43,54,78,22,49,77,64,59,79,1,23,71,43,33,73,22,28,72,64,38,74,1,65,81,43,75,83,22,70,82,64,80,84]
theorem hostOf_all : (List.range 192).all (fun k => decide (1 ≤ hostK.getD k 0) && (decide (hostK.getD k 0 < 85) && (labsOf (Int.fmod (k : Int) 3 + 1).toNat (Int.fdiv (k : Int) 3) == labT (hostK.getD k 0)))) = true := by decide +kernel
theorem hostOf_is {n : Int} (h0 : 0 ≤ n) (h1 : n < 192) : ∃ v, IsH v ∧ hostOf n = hv v := by
  have h := List.all_eq_true.mp hostOf_all n.toNat (List.mem_range.mpr (by (first | lia | omega)))
  rw [Int.toNat_of_nonneg h0] at h
  simp only [Bool.and_eq_true, decide_eq_true_eq, beq_iff_eq] at h
  exact ⟨_, ⟨h.1, h.2.1⟩, by unfold hostOf hv hostL; rw [h.2.2]⟩
/-- y stands in the list behind its first sign -/
noncomputable def occ1 (y : List Nat) : List Nat → Bool
  | [] => false
  | _ :: x => y.isPrefixOf x || occ1 y x
theorem occ_all : (List.range 85).all (fun v => (List.range 85).all fun n => occ1 (tN.getD n []) (120 :: tN.getD v []) == below n v) = true := by decide +kernel
theorem occ_is {v n : Nat} (h : v < 85) (h' : n < 85) : occ1 (tN.getD n []) (120 :: tN.getD v []) = below n v := beq_iff_eq.mp (all85 (all85 occ_all h) h')
theorem suf_all : (List.range 85).all (fun v => (List.range 85).all fun n => (tN.getD n []).isSuffixOf (tN.getD v []) == below n v) = true := by decide +kernel
theorem suf_is {v n : Nat} (h : v < 85) (h' : n < 85) : (tN.getD n []).isSuffixOf (tN.getD v []) = below n v := beq_iff_eq.mp (all85 (all85 suf_all h) h')
theorem path_all : (List.range 85).all (fun v => ((List.range 85).filter (below · v)).reverse == pathN v) = true := by decide +kernel
theorem path_is {v : Nat} (h : v < 85) : ((List.range 85).filter (below · v)).reverse = pathN v := beq_iff_eq.mp (all85 path_all h)
noncomputable def sufN (v : Nat) : List (List (List Nat)) := (List.range ((labN.getD v []).length + 1)).map fun j => (labN.getD v []).drop j
theorem sufN_all : (List.range 85).all (fun v => sufN v == (pathN v).map fun p => labN.getD p []) = true := by decide +kernel
theorem sufs_is {v : Nat} (h : v < 85) : sufs (hv v) = ladV v := by
  have e : sufN v = (pathN v).map fun p => labN.getD p [] := beq_iff_eq.mp (all85 sufN_all h)
  have e2 := congrArg (List.map fun l : List (List Nat) => Str.ofString "." ++ hostL (l.map fun c => (⟨c.toArray⟩ : Str))) e
  unfold sufN at e2
  rw [List.map_map, List.map_map] at e2
  have hl : (labT v ++ [Str.ofString "local"]).length = (labN.getD v []).length + 1 := by unfold labT; rw [List.length_append, List.length_map]; rfl
  unfold sufs ladV
  rw [split_hv h, hl]
  refine Eq.trans (List.map_congr_left fun j hj => ?_) e2
  have hj' := List.mem_range.mp hj
  show Str.ofString "." ++ Txt.join _ ((labT v ++ [Str.ofString "local"]).drop j) = Str.ofString "." ++ Txt.join _ (List.map _ (List.drop j (labN.getD v [])) ++ [Str.ofString "local"])
  rw [List.drop_append_of_le_length (by unfold labT; rw [List.length_map]; (first | lia | omega)), labT, List.map_drop]
/-- up as the halving search finds it, in numbers -/
noncomputable def upN (v u : Nat) : Nat := bisL (fun i => !below ((pathN v).getD i 0) u) 100 0 (pathN v).length
theorem up_all : (List.range' 1 84).all (fun v => (List.range' 1 84).all fun u => upN v u + ((pathN v).filter (below · u)).length == (pathN v).length) = true := by decide +kernel
theorem up_is {v u : Nat} (h : IsH v) (h' : IsH u) : upN v u + ((pathN v).filter (below · u)).length = (pathN v).length := beq_iff_eq.mp (all84 (all84 up_all h) h')
/-- what _law_turned wants of the labels -/
structure TurnOk (ls : List Str) : Prop where
  ne : ls ≠ []
  len : ls.length ≤ 4
  labs : ∀ l ∈ ls, l.length ≤ 8 ∧ ∀ c ∈ l.cps.toList, c < 128
  host : (hostL ls).length ≤ 50
  room : (ls.map (·.length)).sum + ls.length * (Str.ofString ".").length ≤ 16777216
  join : (Txt.join (Str.ofString ".") ls).length ≤ 49
  asc : (Str.ofString "." ++ Txt.join (Str.ofString ".") ls).cps.all (· < 128) = true
  dot : (Str.ofString "." ++ Txt.join (Str.ofString ".") ls).cps.toList = (ls.map fun l => 46 :: l.cps.toList).flatten
noncomputable def turnOkB (ls : List Str) : Bool := decide (ls ≠ []) && decide (ls.length ≤ 4) && ls.all (fun l => decide (l.length ≤ 8) && l.cps.toList.all fun c => decide (c < 128)) && decide ((hostL ls).length ≤ 50) &&
  decide ((ls.map (·.length)).sum + ls.length * (Str.ofString ".").length ≤ 16777216) && decide ((Txt.join (Str.ofString ".") ls).length ≤ 49) && (Str.ofString "." ++ Txt.join (Str.ofString ".") ls).cps.all (· < 128) &&
  decide ((Str.ofString "." ++ Txt.join (Str.ofString ".") ls).cps.toList = (ls.map fun l => 46 :: l.cps.toList).flatten)
theorem turnOk_all : (List.range' 1 84).all (fun v => turnOkB (labT v)) = true := by decide +kernel
theorem turnOk {v : Nat} (h : IsH v) : TurnOk (labT v) := by
  have h1 := all84 turnOk_all h
  unfold turnOkB at h1
  simp only [Bool.and_eq_true, decide_eq_true_eq] at h1
  obtain ⟨⟨⟨⟨⟨⟨⟨a1, a2⟩, a3⟩, a4⟩, a5⟩, a6⟩, a7⟩, a8⟩ := h1
  refine ⟨a1, a2, fun l hl => ?_, a4, a5, a6, a7, a8⟩
  have h3 := List.all_eq_true.mp a3 l hl
  simp only [Bool.and_eq_true, decide_eq_true_eq, List.all_eq_true] at h3
  exact h3
noncomputable def lexL : List Nat → List Nat → Bool
  | _, [] => false
  | [], _ :: _ => true
  | a :: x, b :: y => if a == b then lexL x y else Nat.blt a b
theorem lexL_is : ∀ (x y : List Nat), lexL x y = decide (x < y)
  | x, [] => by cases x <;> simp [lexL]
  | [], b :: y => by simp [lexL]
  | a :: x, b :: y => by
    unfold lexL
    by_cases h : a = b
    · subst h
      rw [if_pos (by simp), lexL_is x y]
      simp [List.cons_lt_cons_iff]
    · rw [if_neg (by simpa using h)]
      have e : decide (a :: x < b :: y) = decide (a < b) := by simp [List.cons_lt_cons_iff, h]
      rw [e]
      by_cases c : a < b
      · rw [decide_eq_true c]; exact Nat.blt_eq.mpr c
      · rw [decide_eq_false c]
        cases q : Nat.blt a b with
        | false => rfl
        | true => exact absurd (Nat.blt_eq.mp q) c
noncomputable def keyOf (v : Nat) : Str := turnedV (labT v)
noncomputable def keyN (v : Nat) : List Nat := ((labN.getD v []).reverse.map fun l => 46 :: l).flatten
theorem key_codes0 : (List.range 85).all (fun v => (keyOf v).cps.toList == keyN v) = true := by decide +kernel
theorem key_codes {v : Nat} (h : v < 85) : (keyOf v).cps.toList = keyN v := beq_iff_eq.mp (all85 key_codes0 h)
theorem key_all : (List.range' 1 84).all (fun v => (List.range' 1 84).all fun u => lexL (keyN v) (keyN u) == Nat.blt v u) = true := by decide +kernel
theorem key_lt {v u : Nat} (h : IsH v) (h' : IsH u) : decide ((keyOf v).cps.toList < (keyOf u).cps.toList) = decide (v < u) := by
  rw [key_codes h.2, key_codes h'.2, ← lexL_is]
  have := beq_iff_eq.mp (all84 (all84 key_all h) h')
  rw [this]
  by_cases c : v < u
  · rw [decide_eq_true c]; exact Nat.blt_eq.mpr c
  · rw [decide_eq_false c]
    cases q : Nat.blt v u with
    | false => rfl
    | true => exact absurd (Nat.blt_eq.mp q) c
/-- the key, from the host's text -/
noncomputable def tv (x : Str) : Str := turnedV ((Txt.split x (Str.ofString ".")).dropLast)
theorem tv_hv {v : Nat} (h : v < 85) : tv (hv v) = keyOf v := by
  unfold tv keyOf
  rw [split_hv h, List.dropLast_concat]
/-- two lists of labels: the first place where they part -/
noncomputable def lexS : List (List Nat) → List (List Nat) → Bool
  | _, [] => false
  | [], _ :: _ => true
  | a :: x, b :: y => if a == b then lexS x y else lexL a b
theorem lab_all : (List.range' 1 84).all (fun v => (List.range' 1 84).all fun u => lexS (labN.getD v []).reverse (labN.getD u []).reverse == Nat.blt v u) = true := by decide +kernel
end Mine
end

section
open PySem PySem.W PySem.Calls PyProof.Rows in
theorem Mine.resetPlain {M : Model} {A : Around} {E : Value → Shared → Prop} {s : Shared} {Q : Bool → Shared → Prop} {v : Value} (h : wpAny M A (truthy v) Q E s) : wpAny M A (truthy v) Q E s := by
  w_top off
  k_with_none
  first | (walk1; fail) | exact h
open PySem PySem.W PySem.Calls PyProof.Rows
namespace Mine
/-- a sum over the names -/
noncomputable def sumN (f : Nat → Int) : Int := ((List.range 85).map f).sum
theorem sum_add (f g : Nat → Int) : ∀ l : List Nat, (l.map fun n => f n + g n).sum = (l.map f).sum + (l.map g).sum
  | [] => rfl
  | a :: l => by
    have := sum_add f g l
    simp only [List.map_cons, List.sum_cons] at this ⊢
    (first | lia | omega)
theorem sum_sub (f g : Nat → Int) : ∀ l : List Nat, (l.map fun n => f n - g n).sum = (l.map f).sum - (l.map g).sum
  | [] => rfl
  | a :: l => by
    have := sum_sub f g l
    simp only [List.map_cons, List.sum_cons] at this ⊢
    (first | lia | omega)
noncomputable def ringOf (rs : List Nat) : Int := sumN fun n => cyc (below n) rs
noncomputable def wayN (a b : Nat) : Int := sumN fun n => dif (below n a) (below n b)
theorem ring_nil : ringOf [] = 0 := by
  unfold ringOf sumN
  have : ∀ l : List Nat, (l.map fun n => cyc (below n) []).sum = 0 := by
    intro l
    induction l with
    | nil => rfl
    | cons a l ih => rw [List.map_cons, List.sum_cons, ih]; rfl
  exact this _
theorem ring_one (h : Nat) : ringOf [h] = 0 := by
  unfold ringOf sumN
  have : ∀ l : List Nat, (l.map fun n => cyc (below n) [h]).sum = 0 := by
    intro l
    induction l with
    | nil => rfl
    | cons a l ih =>
      rw [List.map_cons, List.sum_cons, ih]
      show dif _ _ + 0 + 0 = (0 : Int)
      rw [dif_self]
      rfl
  exact this _
theorem ring_insert {l : List Nat} {k h : Nat} (hl : l ≠ []) (hk : k ≤ l.length) :
    ringOf (l.take k ++ h :: l.drop k) = ringOf l + (wayN (ahd l k) h + wayN h (beh l k) - wayN (ahd l k) (beh l k)) := by
  unfold ringOf wayN sumN
  rw [← sum_add, ← sum_sub, ← sum_add]
  congr 1
  refine List.map_congr_left fun n _ => ?_
  exact cyc_insert (below n) l k h hl hk
theorem ring_net' {rs : List Nat} (hs : rs.Pairwise (· ≤ ·)) : ringOf rs = 2 * sumN fun n => if rs.any (below n) && !rs.all (below n) then 1 else 0 := by
  unfold ringOf sumN
  have : ∀ l : List Nat, (l.map fun n => cyc (below n) rs).sum = 2 * (l.map fun n => if rs.any (below n) && !rs.all (below n) then (1 : Int) else 0).sum := by
    intro l
    induction l with
    | nil => rfl
    | cons a l ih =>
      rw [List.map_cons, List.sum_cons, ih, List.map_cons, List.sum_cons]
      have e : cyc (below a) rs = if rs.any (below a) && !rs.all (below a) then 2 else 0 := cyc_eq rs hs
      rw [e]
      split <;> (first | lia | omega)
  exact this _
theorem cong_perm {rs hs : List Nat} (h : rs.Perm hs) (n : Nat) : (rs.any (below n) && !rs.all (below n)) = (hs.any (below n) && !hs.all (below n)) := by
  have e1 : rs.any (below n) = hs.any (below n) := by
    rw [Bool.eq_iff_iff, List.any_eq_true, List.any_eq_true]
    exact ⟨fun ⟨x, a, b⟩ => ⟨x, h.mem_iff.mp a, b⟩, fun ⟨x, a, b⟩ => ⟨x, h.mem_iff.mpr a, b⟩⟩
  have e2 : rs.all (below n) = hs.all (below n) := by
    rw [Bool.eq_iff_iff, List.all_eq_true, List.all_eq_true]
    exact ⟨fun q x a => q x (h.mem_iff.mpr a), fun q x a => q x (h.mem_iff.mp a)⟩
  rw [e1, e2]
/-- different names, different texts -/
theorem name_inj {n m : Nat} (h : n < 85) (h' : m < 85) (e : nameT n = nameT m) : n = m := by
  have e1 : tN.getD n [] = tN.getD m [] := by rw [← name_codes h, ← name_codes h', e]
  have t1 : below n n = below m n := by rw [← suf_is h h, ← suf_is h h', e1]
  have t2 : below n m = below m m := by rw [← suf_is h' h, ← suf_is h' h', e1]
  have q1 : below n n = true := by
    have : (List.range 85).all (fun n => below n n) = true := by decide +kernel
    exact all85 this h
  have q2 : below m m = true := by
    have : (List.range 85).all (fun n => below n n) = true := by decide +kernel
    exact all85 this h'
  rw [q1] at t1
  rw [q2] at t2
  unfold below inI at t1 t2
  have a1 := t1.symm
  simp only [Bool.and_eq_true, decide_eq_true_eq] at a1 t2
  (first | lia | omega)
theorem hv_inj {n m : Nat} (h : n < 85) (h' : m < 85) (e : hv n = hv m) : n = m := name_inj h h' (by unfold nameT; rw [e])
theorem mem_addNew {ns : List Str} {x y : Str} : y ∈ addNew ns x ↔ y ∈ ns ∨ y = x := by
  unfold addNew
  split
  · rename_i h
    exact ⟨.inl, fun q => q.elim id fun e => e ▸ h⟩
  · rw [List.mem_append, List.mem_singleton]
theorem nodup_addNew {ns : List Str} {x : Str} (h : ns.Nodup) : (addNew ns x).Nodup := by
  unfold addNew
  split
  · exact h
  · rename_i q
    refine List.nodup_append.mpr ⟨h, List.pairwise_singleton _ _, ?_⟩
    intro a ha b hb e
    rw [List.mem_singleton.mp hb] at e
    exact q (e ▸ ha)
theorem mem_foldNew : ∀ {l ns : List Str} {y : Str}, y ∈ l.foldl addNew ns ↔ y ∈ ns ∨ y ∈ l
  | [], ns, y => by simp
  | a :: l, ns, y => by
    rw [List.foldl_cons, mem_foldNew, mem_addNew, List.mem_cons]
    constructor
    · rintro ((h | h) | h)
      · exact .inl h
      · exact .inr (.inl h)
      · exact .inr (.inr h)
    · rintro (h | h | h)
      · exact .inl (.inl h)
      · exact .inl (.inr h)
      · exact .inr h
theorem nodup_foldNew : ∀ {l ns : List Str}, ns.Nodup → (l.foldl addNew ns).Nodup
  | [], _, h => h
  | a :: l, ns, h => nodup_foldNew (l := l) (ns := addNew ns a) (nodup_addNew h)
theorem mem_addAll : ∀ {l ns : List Str} {y : Str}, y ∈ l.foldl addAll ns ↔ y ∈ ns ∨ ∃ x ∈ l, y ∈ sufs x
  | [], ns, y => by simp
  | a :: l, ns, y => by
    rw [List.foldl_cons, mem_addAll]
    unfold addAll
    rw [mem_foldNew]
    constructor
    · rintro ((h | h) | ⟨x, h, q⟩)
      · exact .inl h
      · exact .inr ⟨a, .head _, h⟩
      · exact .inr ⟨x, .tail _ h, q⟩
    · rintro (h | ⟨x, h, q⟩)
      · exact .inl (.inl h)
      · rcases List.mem_cons.mp h with rfl | h
        · exact .inl (.inr q)
        · exact .inr ⟨x, h, q⟩
theorem nodup_addAll : ∀ {l ns : List Str}, ns.Nodup → (l.foldl addAll ns).Nodup
  | [], _, h => h
  | a :: l, ns, h => nodup_addAll (l := l) (ns := addAll ns a) (nodup_foldNew h)
theorem mem_path {v n : Nat} (h : v < 85) : n ∈ pathN v ↔ n < 85 ∧ below n v = true := by
  rw [← path_is h, List.mem_reverse, List.mem_filter, List.mem_range]
theorem mem_names {hs : List Nat} (hh : ∀ v ∈ hs, IsH v) {y : Str} : y ∈ namesOf (hs.map hv) ↔ ∃ n, n < 85 ∧ hs.any (below n) = true ∧ y = nameT n := by
  unfold namesOf
  rw [mem_addAll]
  constructor
  · rintro (h | ⟨x, h, q⟩)
    · cases h
    · obtain ⟨v, hv1, rfl⟩ := List.mem_map.mp h
      rw [sufs_is (hh v hv1).2] at q
      obtain ⟨n, hn, rfl⟩ := List.mem_map.mp q
      have := (mem_path (hh v hv1).2).mp hn
      exact ⟨n, this.1, List.any_eq_true.mpr ⟨v, hv1, this.2⟩, rfl⟩
  · rintro ⟨n, hn, ha, rfl⟩
    obtain ⟨v, hv1, hb⟩ := List.any_eq_true.mp ha
    refine .inr ⟨hv v, List.mem_map_of_mem hv1, ?_⟩
    rw [sufs_is (hh v hv1).2]
    exact List.mem_map_of_mem ((mem_path (hh v hv1).2).mpr ⟨hn, hb⟩)
theorem names_perm {hs : List Nat} (hh : ∀ v ∈ hs, IsH v) : (namesOf (hs.map hv)).Perm (((List.range 85).filter fun n => hs.any (below n)).map nameT) := by
  refine (List.perm_ext_iff_of_nodup (nodup_addAll List.nodup_nil) ?_).mpr ?_
  · have h1 : ((List.range 85).filter fun n => hs.any (below n)).Nodup := List.Nodup.sublist List.filter_sublist List.nodup_range
    refine (List.pairwise_map).mpr (h1.imp_of_mem ?_)
    intro a b ha hb hne e
    exact hne (name_inj (List.mem_range.mp (List.mem_filter.mp ha).1) (List.mem_range.mp (List.mem_filter.mp hb).1) e)
  · intro y
    refine (mem_names hh).trans ?_
    constructor
    · rintro ⟨n, h1, h2, rfl⟩
      exact List.mem_map_of_mem (List.mem_filter.mpr ⟨List.mem_range.mpr h1, h2⟩)
    · intro h
      obtain ⟨n, h1, rfl⟩ := List.mem_map.mp h
      have := List.mem_filter.mp h1
      exact ⟨n, List.mem_range.mp this.1, this.2, rfl⟩
theorem ends_is {v n : Nat} (h : v < 85) (h' : n < 85) : Txt.endswith (Str.ofString "." ++ hv v) (nameT n) = below n v := by
  rw [← suf_is h h', ← name_codes h, ← name_codes h']
  show Txt.endswith (nameT v) (nameT n) = _
  unfold Txt.endswith
  generalize nameT v = x
  generalize nameT n = y
  rw [Bool.eq_iff_iff]
  simp only [Bool.and_eq_true, decide_eq_true_eq, Nat.zero_add, List.isSuffixOf_iff_suffix]
  unfold Builtin.Str.subAt Str.length
  constructor
  · rintro ⟨h1, h2⟩
    rw [beq_iff_eq] at h2
    have h3 : x.cps.size - y.cps.size + y.cps.size = x.cps.size := by (first | lia | omega)
    rw [h3] at h2
    rw [← h2, Array.toList_extract]
    refine ⟨x.cps.toList.take (x.cps.size - y.cps.size), ?_⟩
    have h4 : List.extract x.cps.toList (x.cps.size - y.cps.size) x.cps.size = x.cps.toList.drop (x.cps.size - y.cps.size) := by
      rw [List.extract_eq_take_drop, List.take_of_length_le (by rw [List.length_drop, Array.length_toList]; exact Nat.le_refl _)]
    rw [h4, List.take_append_drop]
  · rintro ⟨t, ht⟩
    have h1 : x.cps.size = t.length + y.cps.size := by
      have := congrArg List.length ht
      rw [List.length_append, Array.length_toList, Array.length_toList] at this
      exact this.symm
    refine ⟨by (first | lia | omega), ?_⟩
    rw [beq_iff_eq]
    apply Array.toList_inj.mp
    rw [Array.toList_extract, List.extract_eq_take_drop, ← ht, h1, Nat.add_sub_cancel, List.drop_left, List.take_of_length_le (by rw [Array.length_toList]; (first | lia | omega))]
theorem hasAll_is {hs : List Nat} (hh : ∀ v ∈ hs, IsH v) {n : Nat} (hn : n < 85) : hasAll (hs.map hv) (nameT n) = hs.all (below n) := by
  unfold hasAll
  rw [List.all_map, Bool.eq_iff_iff, List.all_eq_true, List.all_eq_true]
  constructor
  · intro h v hv1
    rw [← ends_is (hh v hv1).2 hn]
    exact h v hv1
  · intro h v hv1
    show Txt.endswith (Str.ofString "." ++ hv v) (nameT n) = true
    rw [ends_is (hh v hv1).2 hn]
    exact h v hv1
theorem count_sum (f g : Nat → Bool) : ∀ l : List Nat, (((l.filter f).length : Int) - (((l.filter f).filter g).length : Int)) = (l.map fun n => if f n && !g n then (1 : Int) else 0).sum
  | [] => rfl
  | a :: l => by
    have ih := count_sum f g l
    rw [List.map_cons, List.sum_cons, ← ih]
    cases hf : f a
    · rw [List.filter_cons_of_neg (by simp [hf])]
      simp
    · rw [List.filter_cons_of_pos hf, List.length_cons]
      cases hg : g a
      · rw [List.filter_cons_of_neg (by simp [hg])]
        simp
        (first | lia | omega)
      · rw [List.filter_cons_of_pos hg, List.length_cons]
        simp
        (first | lia | omega)
/-- the net, name by name -/
theorem net_is {hs : List Nat} (hh : ∀ v ∈ hs, IsH v) : netV (hs.map hv) = sumN fun n => if hs.any (below n) && !hs.all (below n) then 1 else 0 := by
  unfold netV sumN
  have P := names_perm hh
  rw [P.length_eq, (P.filter _).length_eq, ← count_sum, List.length_map, List.filter_map, List.length_map]
  congr 2
  congr 1
  refine List.filter_congr fun n hn => ?_
  exact hasAll_is hh (List.mem_range.mp (List.mem_filter.mp hn).1)
theorem ring_net {rs hs : List Nat} (hp : rs.Perm hs) (hs1 : rs.Pairwise (· ≤ ·)) (hh : ∀ v ∈ hs, IsH v) : ringOf rs = 2 * netV (hs.map hv) := by
  rw [ring_net' hs1, net_is hh]
  congr 2
  funext n
  rw [cong_perm hp n]
end Mine
end

section
open PySem PySem.W PySem.Calls PyProof.Rows in
theorem Mine.resetPlain2 {M : Model} {A : Around} {E : Value → Shared → Prop} {s : Shared} {Q : Bool → Shared → Prop} {v : Value} (h : wpAny M A (truthy v) Q E s) : wpAny M A (truthy v) Q E s := by
  w_top off
  k_with_none
  first | (walk1; fail) | exact h
open PySem PySem.W PySem.Calls PyProof.Rows
namespace Mine
theorem bisL_congr {f g : Nat → Bool} : ∀ (n lo hi : Nat), (∀ i, i < hi → f i = g i) → bisL f n lo hi = bisL g n lo hi
  | 0, _, _, _ => rfl
  | n + 1, lo, hi, h => by
    rw [bisL_succ, bisL_succ]
    by_cases c : lo < hi
    · rw [if_pos c, if_pos c, h ((lo + hi) / 2) (by (first | lia | omega)), bisL_congr n _ hi h, bisL_congr n lo _ fun i hi' => h i (by (first | lia | omega))]
    · rw [if_neg c, if_neg c]
theorem bisL_spec' {f : Nat → Bool} {N : Nat} (mono : ∀ i j, i ≤ j → j < N → f j = true → f i = true) : ∀ (n lo hi : Nat), hi - lo ≤ n → lo ≤ hi → hi ≤ N →
    (∀ i, i < lo → f i = true) → (∀ i, hi ≤ i → i < N → f i = false) →
    bisL f n lo hi ≤ N ∧ (∀ i, i < bisL f n lo hi → f i = true) ∧ ∀ i, bisL f n lo hi ≤ i → i < N → f i = false
  | 0, lo, hi, h, h1, h2, h3, h4 => by
    have e : lo = hi := by (first | lia | omega)
    subst e
    exact ⟨h2, h3, h4⟩
  | n + 1, lo, hi, h, h1, h2, h3, h4 => by
    rw [bisL_succ]
    by_cases c : lo < hi
    · rw [if_pos c]
      by_cases q : f ((lo + hi) / 2) = true
      · rw [if_pos q]
        exact bisL_spec' mono n _ hi (by (first | lia | omega)) (by (first | lia | omega)) h2 (fun i hi' => mono i _ (by (first | lia | omega)) (by (first | lia | omega)) q) h4
      · rw [if_neg q]
        refine bisL_spec' mono n lo _ (by (first | lia | omega)) (by (first | lia | omega)) (by (first | lia | omega)) h3 fun i hi' hN => ?_
        cases r : f i with
        | false => rfl
        | true => exact absurd (mono _ _ hi' hN r) q
    · rw [if_neg c]
      have e : lo = hi := by (first | lia | omega)
      subst e
      exact ⟨h2, h3, h4⟩
theorem bisL_spec {f : Nat → Bool} {N : Nat} (hN : N ≤ 100) (mono : ∀ i j, i ≤ j → j < N → f j = true → f i = true) :
    bisL f 100 0 N ≤ N ∧ (∀ i, i < bisL f 100 0 N → f i = true) ∧ ∀ i, bisL f 100 0 N ≤ i → i < N → f i = false :=
  bisL_spec' mono 100 0 N (by (first | lia | omega)) (by (first | lia | omega)) (Nat.le_refl _) (fun i h => absurd h (Nat.not_lt_zero _)) (fun i h h' => absurd h' (by (first | lia | omega)))
theorem sorted_get {rs : List Nat} (hs : rs.Pairwise (· ≤ ·)) {i j : Nat} (h : i ≤ j) (hj : j < rs.length) : rs.getD i 0 ≤ rs.getD j 0 := by
  have hi : i < rs.length := by (first | lia | omega)
  rw [List.getD_eq_getElem?_getD, List.getElem?_eq_getElem hi, List.getD_eq_getElem?_getD, List.getElem?_eq_getElem hj]
  rcases Nat.lt_or_ge i j with q | q
  · exact List.pairwise_iff_getElem.mp hs i j hi hj q
  · have : i = j := by (first | lia | omega)
    subst this
    exact Nat.le_refl _
/-- the places that the searches find -/
noncomputable def plL (rs : List Nat) (h : Nat) : Nat := bisL (fun i => decide (rs.getD i 0 < h)) 100 0 rs.length
noncomputable def plR (rs : List Nat) (h : Nat) : Nat := bisL (fun i => !decide (h < rs.getD i 0)) 100 0 rs.length
theorem getD_map {rs : List Nat} {i : Nat} (h : i < rs.length) : (rs.map hv).getD i Str.empty = hv (rs.getD i 0) := by
  rw [List.getD_eq_getElem?_getD, List.getElem?_map, List.getElem?_eq_getElem h, List.getD_eq_getElem?_getD, List.getElem?_eq_getElem h]
  rfl
theorem getD_mem {rs : List Nat} {i : Nat} (h : i < rs.length) : rs.getD i 0 ∈ rs := by
  rw [List.getD_eq_getElem?_getD, List.getElem?_eq_getElem h]
  exact List.getElem_mem h
theorem left_is {rs : List Nat} (hr : ∀ v ∈ rs, IsH v) {h : Nat} (hh : IsH h) :
    bisL (fun i => decide ((tv ((rs.map hv).getD i Str.empty)).cps.toList < (tv (hv h)).cps.toList)) 100 0 (rs.map hv).length = plL rs h := by
  rw [List.length_map]
  refine bisL_congr _ _ _ fun i hi => ?_
  have hm := hr _ (getD_mem hi)
  rw [getD_map hi, tv_hv hm.2, tv_hv hh.2]
  exact key_lt hm hh
theorem right_is {rs : List Nat} (hr : ∀ v ∈ rs, IsH v) {h : Nat} (hh : IsH h) :
    bisL (fun i => !decide ((tv (hv h)).cps.toList < (tv ((rs.map hv).getD i Str.empty)).cps.toList)) 100 0 (rs.map hv).length = plR rs h := by
  rw [List.length_map]
  refine bisL_congr _ _ _ fun i hi => ?_
  have hm := hr _ (getD_mem hi)
  show (!decide _) = !decide _
  rw [getD_map hi, tv_hv hm.2, tv_hv hh.2, key_lt hh hm]
theorem plL_spec {rs : List Nat} (hs : rs.Pairwise (· ≤ ·)) (hl : rs.length ≤ 100) (h : Nat) :
    plL rs h ≤ rs.length ∧ (∀ i, i < plL rs h → rs.getD i 0 < h) ∧ ∀ i, plL rs h ≤ i → i < rs.length → h ≤ rs.getD i 0 := by
  have := bisL_spec (f := fun i => decide (rs.getD i 0 < h)) (N := rs.length) hl fun i j hij hj q => by
    have := sorted_get hs hij hj
    rw [decide_eq_true_eq] at q ⊢
    (first | lia | omega)
  refine ⟨this.1, fun i hi => ?_, fun i hi hl => ?_⟩
  · have := this.2.1 i hi
    rw [decide_eq_true_eq] at this
    exact this
  · have := this.2.2 i hi hl
    rw [decide_eq_false_iff_not] at this
    (first | lia | omega)
theorem plR_spec {rs : List Nat} (hs : rs.Pairwise (· ≤ ·)) (hl : rs.length ≤ 100) (h : Nat) :
    plR rs h ≤ rs.length ∧ (∀ i, i < plR rs h → rs.getD i 0 ≤ h) ∧ ∀ i, plR rs h ≤ i → i < rs.length → h < rs.getD i 0 := by
  have := bisL_spec (f := fun i => !decide (h < rs.getD i 0)) (N := rs.length) hl fun i j hij hj q => by
    have := sorted_get hs hij hj
    rw [Bool.not_eq_true', decide_eq_false_iff_not] at q ⊢
    (first | lia | omega)
  refine ⟨this.1, fun i hi => ?_, fun i hi hl => ?_⟩
  · have := this.2.1 i hi
    rw [Bool.not_eq_true', decide_eq_false_iff_not] at this
    (first | lia | omega)
  · have := this.2.2 i hi hl
    rw [Bool.not_eq_false', decide_eq_true_eq] at this
    exact this
/-- a host that stands in the row is found -/
theorem plL_found {rs : List Nat} (hs : rs.Pairwise (· ≤ ·)) (hl : rs.length ≤ 100) {h : Nat} (hm : h ∈ rs) : plL rs h < rs.length ∧ rs.getD (plL rs h) 0 = h := by
  obtain ⟨h1, h2, h3⟩ := plL_spec hs hl h
  obtain ⟨j, hj, e⟩ := List.getElem_of_mem hm
  have ej : rs.getD j 0 = h := by rw [List.getD_eq_getElem?_getD, List.getElem?_eq_getElem hj, ← e]; rfl
  have hpj : plL rs h ≤ j := by
    rcases Nat.lt_or_ge j (plL rs h) with q | q
    · have := h2 j q; (first | lia | omega)
    · exact q
  have hlt : plL rs h < rs.length := by (first | lia | omega)
  refine ⟨hlt, ?_⟩
  have a := h3 _ (Nat.le_refl _) hlt
  have b := sorted_get hs hpj hj
  (first | lia | omega)
theorem mem_getD {rs : List Nat} {x : Nat} (h : x ∈ rs) : ∃ j, j < rs.length ∧ rs.getD j 0 = x := by
  obtain ⟨j, hj, e⟩ := List.getElem_of_mem h
  exact ⟨j, hj, by rw [List.getD_eq_getElem?_getD, List.getElem?_eq_getElem hj, ← e]; rfl⟩
/-- the row stays in order -/
theorem sorted_insert {rs : List Nat} (hs : rs.Pairwise (· ≤ ·)) (hl : rs.length ≤ 100) (h : Nat) : (rs.take (plR rs h) ++ h :: rs.drop (plR rs h)).Pairwise (· ≤ ·) := by
  obtain ⟨h1, h2, h3⟩ := plR_spec hs hl h
  refine List.pairwise_append.mpr ⟨hs.sublist (List.take_sublist _ _), List.pairwise_cons.mpr ⟨fun y hy => ?_, hs.sublist (List.drop_sublist _ _)⟩, fun x hx y hy => ?_⟩
  · obtain ⟨j, hj, e⟩ := mem_getD hy
    rw [List.length_drop] at hj
    rw [List.getD_eq_getElem?_getD, List.getElem?_drop, ← List.getD_eq_getElem?_getD] at e
    have := h3 (plR rs h + j) (by (first | lia | omega)) (by (first | lia | omega))
    (first | lia | omega)
  · obtain ⟨i, hi, e⟩ := mem_getD hx
    rw [List.length_take] at hi
    rw [List.getD_eq_getElem?_getD, List.getElem?_take_of_lt (by (first | lia | omega)), ← List.getD_eq_getElem?_getD] at e
    have hxh := h2 i (by (first | lia | omega))
    rcases List.mem_cons.mp hy with rfl | hy
    · (first | lia | omega)
    · obtain ⟨j, hj, e2⟩ := mem_getD hy
      rw [List.length_drop] at hj
      rw [List.getD_eq_getElem?_getD, List.getElem?_drop, ← List.getD_eq_getElem?_getD] at e2
      have := h3 (plR rs h + j) (by (first | lia | omega)) (by (first | lia | omega))
      (first | lia | omega)
theorem perm_insert {rs hs : List Nat} (hp : rs.Perm hs) (k h : Nat) : (rs.take k ++ h :: rs.drop k).Perm (hs ++ [h]) := by
  have h1 : (rs.take k ++ h :: rs.drop k).Perm (h :: rs) := by
    refine List.perm_middle.trans ?_
    rw [List.take_append_drop]
  exact h1.trans ((hp.cons h).trans (List.perm_append_comm (l₁ := [h])))
theorem split_at {rs : List Nat} {k h : Nat} (hk : k < rs.length) (e : rs.getD k 0 = h) : rs = (rs.eraseIdx k).take k ++ h :: (rs.eraseIdx k).drop k := by
  have h1 : rs.eraseIdx k = rs.take k ++ rs.drop (k + 1) := List.eraseIdx_eq_take_drop_succ ..
  have h2 : (rs.take k).length = k := by rw [List.length_take]; (first | lia | omega)
  rw [h1, List.take_left' h2, List.drop_left' h2]
  have h3 : rs.drop k = h :: rs.drop (k + 1) := by
    rw [List.drop_eq_getElem_cons hk]
    rw [List.getD_eq_getElem?_getD, List.getElem?_eq_getElem hk] at e
    rw [← e]
    rfl
  rw [← h3, List.take_append_drop]
theorem perm_erase {rs hs : List Nat} (hp : rs.Perm hs) {k j h : Nat} (hk : k < rs.length) (hj : j < hs.length) (e : rs.getD k 0 = h) (e' : hs.getD j 0 = h) : (rs.eraseIdx k).Perm (hs.eraseIdx j) := by
  have a : rs.Perm (h :: rs.eraseIdx k) := by
    have h1 : ((rs.eraseIdx k).take k ++ h :: (rs.eraseIdx k).drop k).Perm (h :: rs.eraseIdx k) := by
      refine List.perm_middle.trans ?_
      rw [List.take_append_drop]
    rw [← split_at hk e] at h1
    exact h1
  have b : hs.Perm (h :: hs.eraseIdx j) := by
    have h1 : ((hs.eraseIdx j).take j ++ h :: (hs.eraseIdx j).drop j).Perm (h :: hs.eraseIdx j) := by
      refine List.perm_middle.trans ?_
      rw [List.take_append_drop]
    rw [← split_at hj e'] at h1
    exact h1
  exact (a.symm.trans (hp.trans b)).cons_inv
theorem sorted_erase {rs : List Nat} (hs : rs.Pairwise (· ≤ ·)) (k : Nat) : (rs.eraseIdx k).Pairwise (· ≤ ·) := hs.sublist (List.eraseIdx_sublist ..)
/-- the links between two hosts -/
theorem dif_count (f g : Nat → Bool) : ∀ l : List Nat, (l.map fun n => dif (f n) (g n)).sum = ((l.filter f).length : Int) + ((l.filter g).length : Int) - 2 * (((l.filter f).filter g).length : Int)
  | [] => rfl
  | a :: l => by
    have ih := dif_count f g l
    rw [List.map_cons, List.sum_cons, ih]
    cases hf : f a <;> cases hg : g a
    · rw [List.filter_cons_of_neg (by simp [hf]), List.filter_cons_of_neg (by simp [hg]), dif_self]; (first | lia | omega)
    · rw [List.filter_cons_of_neg (by simp [hf]), List.filter_cons_of_pos hg, List.length_cons]
      show (1 : Int) + _ = _
      (first | lia | omega)
    · rw [List.filter_cons_of_pos hf, List.filter_cons_of_neg (by simp [hg]), List.filter_cons_of_neg (by simp [hg]), List.length_cons]
      show (1 : Int) + _ = _
      (first | lia | omega)
    · rw [List.filter_cons_of_pos hf, List.filter_cons_of_pos hg, List.filter_cons_of_pos hg, List.length_cons, List.length_cons, List.length_cons, dif_self]
      (first | lia | omega)
theorem path_len {v : Nat} (h : v < 85) : ((List.range 85).filter (below · v)).length = (pathN v).length := by rw [← path_is h, List.length_reverse]
theorem way_is {v u : Nat} (h : v < 85) (h' : u < 85) : wayN v u = ((pathN v).length : Int) + ((pathN u).length : Int) - 2 * (((pathN v).filter (below · u)).length : Int) := by
  have e := dif_count (below · v) (below · u) (List.range 85)
  have e3 : (((List.range 85).filter (below · v)).filter (below · u)).length = ((pathN v).filter (below · u)).length := by
    rw [← path_is h, List.filter_reverse, List.length_reverse]
  rw [path_len h, path_len h', e3] at e
  exact e
theorem occ1_at {y : List Nat} : ∀ {x : List Nat}, occ1 y x = true ↔ ∃ i, 1 ≤ i ∧ i ≤ x.length ∧ y <+: x.drop i
  | [] => by
    constructor
    · intro h; cases h
    · rintro ⟨i, h1, h2, _⟩
      rw [List.length_nil] at h2
      (first | lia | omega)
  | a :: x => by
    unfold occ1
    rw [Bool.or_eq_true, List.isPrefixOf_iff_prefix, occ1_at]
    constructor
    · rintro (h | ⟨i, h1, h2, h3⟩)
      · exact ⟨1, Nat.le_refl _, by simp, h⟩
      · exact ⟨i + 1, by (first | lia | omega), by simp; exact h2, h3⟩
    · rintro ⟨i, h1, h2, h3⟩
      obtain ⟨j, rfl⟩ : ∃ j, i = j + 1 := ⟨i - 1, by (first | lia | omega)⟩
      rw [List.drop_succ_cons] at h3
      rcases Nat.eq_zero_or_pos j with rfl | hj
      · exact .inl h3
      · exact .inr ⟨j, hj, by simpa using h2, h3⟩
theorem at_iff {x y : Str} {i : Nat} : StrLaws.At x y x.length i ↔ i ≤ x.cps.toList.length ∧ y.cps.toList <+: x.cps.toList.drop i := by
  unfold StrLaws.At Builtin.Str.subAt Str.length
  rw [beq_iff_eq, ← Array.toList_inj, Array.toList_extract, List.extract_eq_take_drop, Array.length_toList]
  have e : i + y.cps.size - i = y.cps.toList.length := by rw [Array.length_toList]; (first | lia | omega)
  rw [e]
  constructor
  · rintro ⟨h1, h2⟩
    exact ⟨by (first | lia | omega), List.prefix_iff_eq_take.mpr h2.symm⟩
  · rintro ⟨h1, h2⟩
    have h3 := h2.length_le
    rw [List.length_drop, Array.length_toList, Array.length_toList] at h3
    exact ⟨by (first | lia | omega), (List.prefix_iff_eq_take.mp h2).symm⟩
theorem dm_occ {x y x' y' : Str} (hx : Txt.lower x = x') (hy : Txt.lower y = y') : dmv x y = occ1 y'.cps.toList x'.cps.toList := by
  unfold dmv
  rw [hx, hy, Bool.eq_iff_iff, Bool.and_eq_true, decide_eq_true_eq, decide_eq_true_eq, occ1_at]
  rcases rfind_whole x' y' with ⟨h, hn⟩ | ⟨i, h, hi, hn⟩
  · rw [h]
    constructor
    · rintro ⟨q, _⟩; exact absurd rfl q
    · rintro ⟨i, _, h2, h3⟩; exact absurd (at_iff.mpr ⟨h2, h3⟩) (hn i)
  · rw [h]
    constructor
    · rintro ⟨_, q⟩
      have := at_iff.mp hi
      exact ⟨i, by (first | lia | omega), this.1, this.2⟩
    · rintro ⟨j, h1, h2, h3⟩
      refine ⟨by (first | lia | omega), fun q => ?_⟩
      exact hn j (by (first | lia | omega)) (at_iff.mpr ⟨h2, h3⟩)
end Mine
end

section
open PySem PySem.W PySem.Calls PyProof.Rows in
theorem Mine.resetHst2 {M : Model} {A : Around} {E : Value → Shared → Prop} {s : Shared} {Q : Bool → Shared → Prop} {v : Value} (h : wpAny M A (truthy v) Q E s) : wpAny M A (truthy v) Q E s := by
  w_top off
  k_with_none
  first | (walk1; fail) | exact h
open PySem PySem.W PySem.Calls PyProof.Rows
namespace Mine
noncomputable def hdnB (x : Str) : Bool := !(x == Str.ofString "") && !(Txt.item x 0 == Str.ofString ".") && !(Txt.item x (-1) == Str.ofString ".") && decide (2 ≤ x.length) && decide (x.length ≤ 52) && x.cps.toList.all fun c => !Sre.isDigit c
theorem hdnOk_of {x : Str} (h : hdnB x = true) : HdnOk x := by
  unfold hdnB at h
  simp only [Bool.and_eq_true, Bool.not_eq_true', decide_eq_true_eq, List.all_eq_true] at h
  obtain ⟨⟨⟨⟨⟨b, c⟩, d⟩, e⟩, e'⟩, f⟩ := h
  exact ⟨noIP_of f e e', b, c, d, Nat.le_trans (by decide) e⟩
theorem hdn_hosts : (List.range 85).all (fun v => hdnB (hv v)) = true := by decide +kernel
noncomputable def xOf (v : Nat) : Str := ⟨(120 :: tN.getD v []).toArray⟩
theorem hdn_x : (List.range' 1 84).all (fun v => hdnB (xOf v)) = true := by decide +kernel
theorem stillN : (List.range 85).all (fun v => (tN.getD v []).all (fun c => decide (33 ≤ c ∧ c < 127 ∧ (c < 65 ∨ 90 < c))) && decide ((tN.getD v []).length ≤ 50) && ((tN.getD v []).head? == some 46)) = true := by decide +kernel
theorem still_n {v : Nat} (h : v < 85) : KXs.Still (nameT v) := KXs.still_of (by
  have a := all85 stillN h
  simp only [Bool.and_eq_true] at a
  rw [name_codes h]
  exact a.1.1)
theorem hv_codes {v : Nat} (h : v < 85) : 46 :: (hv v).cps.toList = tN.getD v [] := by
  rw [← name_codes h]
  unfold nameT
  rw [Str.cps_append, Array.toList_append]
  rfl
theorem still_hv {v : Nat} (h : v < 85) : KXs.Still (hv v) := fun c hc => still_n h c (by rw [name_codes h, ← hv_codes h]; exact .tail _ hc)
theorem len_n1 {v : Nat} (h : v < 85) : (nameT v).length ≤ 50 := by
  have a := all85 stillN h
  simp only [Bool.and_eq_true, decide_eq_true_eq] at a
  show (nameT v).cps.size ≤ 50
  rw [← Array.length_toList, name_codes h]
  exact a.1.2
theorem len_hv1 {v : Nat} (h : v < 85) : (hv v).length + 1 = (nameT v).length := by
  unfold nameT
  rw [Str.length_append, show (Str.ofString ".").length = 1 from by decide, Nat.add_comm]
theorem lo_up {c : Nat} (h : 33 ≤ c ∧ c < 127 ∧ (c < 65 ∨ 90 < c)) : lo1 (up1 c) = c ∧ up1 c < 128 := by
  unfold up1 lo1
  by_cases q : 97 ≤ c ∧ c ≤ 122
  · rw [if_pos q, if_pos (by (first | lia | omega))]; (first | lia | omega)
  · rw [if_neg q, if_neg (by (first | lia | omega))]; (first | lia | omega)
theorem low_x1 {v : Nat} (h : v < 85) : Txt.lower (Str.ofString "X." ++ Txt.upper (hv v)) = xOf v := by
  have hs := still_hv h
  have eU : Txt.upper (hv v) = ⟨(hv v).cps.map up1⟩ := upper_ascii fun c hc => by have := hs c hc; (first | lia | omega)
  rw [eU, lower_ascii ?_]
  · unfold xOf
    rw [← hv_codes h]
    refine congrArg Str.mk (Array.toList_inj.mp ?_)
    rw [Array.toList_map, Str.cps_append, Array.toList_append, List.map_append]
    show [120, 46] ++ List.map lo1 (Array.map up1 (hv v).cps).toList = 120 :: 46 :: (hv v).cps.toList
    rw [Array.toList_map, List.map_map, List.map_congr_left (f := lo1 ∘ up1) (g := id) fun c hc => (lo_up (hs c hc)).1, List.map_id]
    rfl
  · intro c hc
    rw [Str.cps_append, Array.toList_append, List.mem_append] at hc
    rcases hc with hc | hc
    · have h2 : ∀ c ∈ (Str.ofString "X.").cps.toList, c < 128 := by decide
      exact h2 c hc
    · rw [Array.toList_map] at hc
      obtain ⟨d, hd, rfl⟩ := List.mem_map.mp hc
      exact (lo_up (hs d hd)).2
theorem len_x1 {v : Nat} (h : v < 85) : (Str.ofString "X." ++ Txt.upper (hv v)).length ≤ 100 := by
  have hs := still_hv h
  have eU : Txt.upper (hv v) = ⟨(hv v).cps.map up1⟩ := upper_ascii fun c hc => by have := hs c hc; (first | lia | omega)
  have a := len_n1 h
  have b := len_hv1 h
  have e : (⟨(hv v).cps.map up1⟩ : Str).length = (hv v).length := Array.size_map
  rw [Str.length_append, eU, e, show (Str.ofString "X.").length = 2 from by decide]
  (first | lia | omega)
theorem ok_hv {v : Nat} (h : v < 85) : PyData.strOk (hv v) = true := by
  unfold PyData.strOk
  rw [Array.all_eq_true']
  intro c hc
  have := still_hv h c (Array.mem_toList_iff.mpr hc)
  exact decide_eq_true (by (first | lia | omega))
theorem low_n1 {v : Nat} (h : v < 85) : Txt.lower (nameT v) = nameT v := KXs.lower_still (still_n h)
theorem slice_all : (List.range 85).all (fun v => Txt.slice (nameT v) (some 1) none == hv v) = true := by decide +kernel
theorem dot_all : (List.range 85).all (fun v => Txt.startswith (nameT v) (Str.ofString ".")) = true := by decide +kernel
theorem dmOk_all {v n : Nat} (h : IsH v) (hn : n < 85) : DmOk (Str.ofString "X." ++ Txt.upper (hv v)) (nameT n) := by
  have a1 := low_x1 h.2
  have b1 := low_n1 hn
  have b2 : Txt.slice (nameT n) (some 1) none = hv n := beq_iff_eq.mp (all85 slice_all hn)
  refine ⟨len_x1 h.2, Nat.le_trans (len_n1 hn) (by decide), ?_, ?_, ?_, ?_⟩
  · rw [a1, b1]
    rw [beq_eq_false_iff_ne]
    intro e
    have e2 := congrArg (fun x : Str => x.cps.toList) e
    rw [name_codes hn] at e2
    have h2 := all85 stillN hn
    simp only [Bool.and_eq_true] at h2
    rw [← e2] at h2
    exact absurd h2.2 (by unfold xOf; simp)
  · rw [a1]; exact hdnOk_of (all84 hdn_x h)
  · rw [b1, b2]; exact hdnOk_of (all85 hdn_hosts hn)
  · rw [b1]; exact all85 dot_all hn
theorem dm_is {v n : Nat} (h : IsH v) (hn : n < 85) : dmv (Str.ofString "X." ++ Txt.upper (hv v)) (nameT n) = below n v := by
  rw [dm_occ (low_x1 h.2) (low_n1 hn), name_codes hn]
  exact occ_is h.2 hn
theorem hv_len {v : Nat} (h : IsH v) : (hv v).length ≤ 50 := by
  have a := len_n1 h.2
  have b := len_hv1 h.2
  (first | lia | omega)
theorem hv_ok {v : Nat} (h : IsH v) : PyData.strOk (hv v) = true := ok_hv h.2
theorem path_mem {v i : Nat} (h : v < 85) (hi : i < (pathN v).length) : (pathN v).getD i 0 < 85 := ((mem_path h).mp (getD_mem hi)).1
theorem lad_get {v i : Nat} (hi : i < (pathN v).length) : (ladV v).getD i Str.empty = nameT ((pathN v).getD i 0) := by
  unfold ladV
  rw [List.getD_eq_getElem?_getD, List.getElem?_map, List.getElem?_eq_getElem hi, List.getD_eq_getElem?_getD, List.getElem?_eq_getElem hi]
  rfl
theorem lad_dm {v u : Nat} (h : IsH v) (h' : IsH u) : ∀ x ∈ ladV v, DmOk (Str.ofString "X." ++ Txt.upper (hv u)) x := by
  intro x hx
  obtain ⟨n, hn, rfl⟩ := List.mem_map.mp hx
  exact dmOk_all h' ((mem_path h.2).mp hn).1
/-- the links that the law reckons -/
theorem links_is {v u : Nat} (h : IsH v) (h' : IsH u) : linksV (hv u) (ladV v) (ladV u).length = wayN v u := by
  have e : upV (hv u) (ladV v) = upN v u := by
    unfold upV upN
    have el : (ladV v).length = (pathN v).length := by unfold ladV; rw [List.length_map]
    rw [el]
    refine bisL_congr _ _ _ fun i hi => ?_
    rw [lad_get hi, dm_is h' (path_mem h.2 hi)]
  unfold linksV
  have hu := up_is h h'
  rw [e, way_is h.2 h'.2]
  have el : (ladV v).length = (pathN v).length := by unfold ladV; rw [List.length_map]
  have el2 : (ladV u).length = (pathN u).length := by unfold ladV; rw [List.length_map]
  rw [el, el2]
  (first | lia | omega)
noncomputable def reachB (v : Nat) : Bool := decide ((hv v).length ≤ 100) && decide (0 ≤ Txt.find (hv v) (Str.ofString ".")) && Txt.slice (hv v) (some (Txt.find (hv v) (Str.ofString ".") + 1)) none == hv (parN.getD v 0) &&
  (decide (0 ≤ Txt.find (hv (parN.getD v 0)) (Str.ofString ".")) || (decide (Txt.find (hv (parN.getD v 0)) (Str.ofString ".") < 0) && (hv (parN.getD v 0) == Str.ofString "local")))
theorem reach_all : (List.range' 1 84).all reachB = true := by decide +kernel
theorem slice_n {v : Nat} (h : v < 85) : Txt.slice (nameT v) (some 1) none = hv v := beq_iff_eq.mp (all85 slice_all h)
theorem name_len {v : Nat} (h : v < 85) : (nameT v).length ≤ 100 := Nat.le_trans (len_n1 h) (by decide)
theorem reach_is {v : Nat} (h : IsH v) : ReachOk (Txt.slice (nameT v) (some 1) none) (hv (parN.getD v 0)) (nameT (parN.getD v 0)) := by
  rw [slice_n h.2]
  have a := all84 reach_all h
  unfold reachB at a
  simp only [Bool.and_eq_true, Bool.or_eq_true, decide_eq_true_eq, beq_iff_eq] at a
  obtain ⟨⟨⟨a1, a2⟩, a3⟩, a4⟩ := a
  exact ⟨a1, a2, a3, hdnOk_of (all85 hdn_hosts h.2), a4.imp id fun q => ⟨q.1, beq_iff_eq.mpr q.2⟩, rfl⟩
theorem name0 : nameT 0 = Str.ofString ".local" := by decide +kernel
theorem name_ne {v : Nat} (h : IsH v) : (nameT v != Str.ofString ".local") = true := by
  rw [← name0, bne_iff_ne]
  intro e
  have := name_inj h.2 (by (first | lia | omega)) e
  have := h.1
  (first | lia | omega)
theorem name_eq0 : (nameT 0 != Str.ofString ".local") = false := by rw [name0]; simp
/-- the ladder's shape -/
theorem path_shape : (List.range' 1 84).all (fun v => let p := parN.getD v 0; let q := parN.getD p 0
    (p == 0 && pathN v == [v, 0]) || (decide (1 ≤ p ∧ p < 85) && q == 0 && pathN v == [v, p, 0]) || (decide (1 ≤ p ∧ p < 85) && decide (1 ≤ q ∧ q < 85) && parN.getD q 0 == 0 && pathN v == [v, p, q, 0])) = true := by decide +kernel
end Mine
end

section
open PySem PySem.W PySem.Calls PyProof.Rows in
theorem Mine.resetCalls {M : Model} {A : Around} {E : Value → Shared → Prop} {s : Shared} {Q : Bool → Shared → Prop} {v : Value} (h : wpAny M A (truthy v) Q E s) : wpAny M A (truthy v) Q E s := by
  w_top off
  k_with_none
  first | (walk1; fail) | exact h
open PySem PySem.W PySem.Calls PyProof.Rows
namespace Mine
/-- the place of an object in a ledger whose addresses differ -/
theorem updF_of {d : Addr} {o : Obj} : ∀ {l : List (Addr × Obj)}, (d, o) ∈ l → (l.map (·.1)).Nodup → ∃ g, UpdF d o l g ∧ ∀ o', (g o').map (·.1) = l.map (·.1)
  | p :: l, hm, hn => by
    rw [List.map_cons, List.nodup_cons] at hn
    by_cases e : p = (d, o)
    · subst e
      exact ⟨_, .head fun q hq he => hn.1 (List.mem_map.mpr ⟨q, hq, he⟩), fun o' => rfl⟩
    · rcases List.mem_cons.mp hm with h | h
      · exact absurd h.symm e
      · obtain ⟨g, U, k⟩ := updF_of h hn.2
        refine ⟨_, .tail (fun he => hn.1 (List.mem_map.mpr ⟨_, h, he.symm⟩)) U, fun o' => ?_⟩
        rw [List.map_cons, k o']
        rfl
theorem updF_mem' {d : Addr} {o o' : Obj} {news : List (Addr × Obj)} {g : Obj → List (Addr × Obj)} (U : UpdF d o news g) : (d, o') ∈ g o' := by
  obtain ⟨pre, post, _, e2, _, _⟩ := U.split
  rw [e2]
  exact List.mem_append_right _ (.head _)
theorem updF_upd {d : Addr} {o : Obj} {news : List (Addr × Obj)} {g : Obj → List (Addr × Obj)} (U : UpdF d o news g) (o' : Obj) : Upd d o o' news (g o') := by
  induction U with
  | head h => exact .head h
  | tail h _ ih => exact .tail h ih
noncomputable def link0 : Obj := tabObj #[]
noncomputable def link1 (c' : Addr) : Obj := tabObj (#[] ++ #[rawInt (134 : Nat), rawInt (38 : Nat), Value.ref c'])
/-- the code table of _law_links: empty, or filled by its first call -/
noncomputable def Tab126 (rest : List (Addr × Obj)) : Prop :=
  (126, link0) ∈ rest ∨ ∃ (c' : Addr) (oc : Obj) (vq : Array Value) (tq : Tok), (126, link1 c') ∈ rest ∧ (c', oc) ∈ rest ∧ oc.data = .fields vq ∧ vq[1]? = some (.str lamQ tq)
noncomputable def LadAt (kL : List (Str × Value)) (rest : List (Addr × Obj)) (v : Nat) : Prop :=
  ∃ (D : Addr) (vs : List Value) (c : Nat), valueAt kL (hv v) = some (.ref D) ∧ (D, listOf vs.toArray c) ∈ rest ∧ StrsAre vs (ladV v)
/-- what the calls of _law_links keep of the ledger's tail -/
structure TL (kL : List (Str × Value)) (S : Nat → Prop) (base' : List (Addr × Obj)) (ks : List Addr) (rest : List (Addr × Obj)) : Prop where
  tab : Tab126 rest
  lads : ∀ v, S v → LadAt kL rest v
  nd : (ks ++ rest.map (·.1)).Nodup
  keep : ∀ p ∈ base', p ∈ rest
  base : ∀ p ∈ base', p.1 ≠ 126
  isH : ∀ v, S v → IsH v
theorem lad_len {v : Nat} (h : IsH v) : ((ladV v).length : Int) ≤ 100 := by
  have : (List.range 85).all (fun v => decide ((ladV v).length ≤ 100)) = true := by decide +kernel
  have := all85 this h.2
  rw [decide_eq_true_eq] at this
  (first | lia | omega)
section
variable {w : World} {p : Program} {loose : List Str} {mean : ExcName → Option Value} {mg mb : Str → Option Value} {news : List (Addr × Obj)}
    {dp un : Nat} {gd : Option (List Code)} {cn : Str} {cs : Scope} {a : Addr} {ccd : Value} {cl : List (Str × Addr)} {outer : List Env} {A₀ : Around} {base h₀ : Heap} {L : Addr} {m : Str → Option Value} {s : Shared} {Q E : Value → Shared → Prop}

set_option maxHeartbeats 4000000 in
theorem links_tab {LD : Addr} {oL : Obj} {kL : List (Str × Value)} {S : Nat → Prop} {base' : List (Addr × Obj)} {e1 e2 e3 e4 e5 e6 e7 e8 : Addr × Obj} {rest : List (Addr × Obj)} {v u : Nat} {t1 t2 : Tok}
    (B : Below A₀ base outer h₀) (F : Fr h₀ L s.heap m) (X : (hd.heap_39 w.params).In h₀) (N : News h₀ L s.heap (e1 :: e2 :: e3 :: e4 :: e5 :: e6 :: e7 :: e8 :: rest)) (T : Top p loose mean mg mb h₀) (hk : cs.kind = .function)
    (C : CodeHd h₀ 130 126) (H : TL kL S base' [e1.1, e2.1, e3.1, e4.1, e5.1, e6.1, e7.1, e8.1] rest) (hlad : (LD, oL) ∈ e1 :: e2 :: e3 :: e4 :: e5 :: e6 :: e7 :: e8 :: rest) (ho : oL.IsDictOf (strKind PG w) kL) (sv : S v) (su : S u) (hd : dp + 8 < recursionLimit) (hu : un + 64 < cLine)
    (hret : ∀ (t' : Tok) (h' : Heap) (tk' : Nat) (rest' : List (Addr × Obj)), Fr h₀ L h' m → News h₀ L h' (e1 :: e2 :: e3 :: e4 :: e5 :: e6 :: e7 :: e8 :: rest') → TL kL S base' [e1.1, e2.1, e3.1, e4.1, e5.1, e6.1, e7.1, e8.1] rest' → Q (.int (wayN v u) t') { s with heap := h', toks := tk' }) :
    wpAny (model PG w) (ktrTop dp un gd cn cs L a ccd cl outer) (call (.ref 131) [.ref LD, .str (hv v) t1, .str (hv u) t2]) Q E s := by
  have hv' := H.isH v sv
  have hu' := H.isH u su
  obtain ⟨D1, vs1, n1, hv1, hD1, hs1⟩ := H.lads v sv
  obtain ⟨D2, vs2, n2, hv2, hD2, hs2⟩ := H.lads u su
  have up : ∀ {p : Addr × Obj}, p ∈ rest → p ∈ e1 :: e2 :: e3 :: e4 :: e5 :: e6 :: e7 :: e8 :: rest := fun hp => .tail _ (.tail _ (.tail _ (.tail _ (.tail _ (.tail _ (.tail _ (.tail _ hp)))))))
  have ndA : ((e1 :: e2 :: e3 :: e4 :: e5 :: e6 :: e7 :: e8 :: rest).map (·.1)).Nodup := H.nd
  rcases H.tab with hT | ⟨c', oc, vq, tq, hT, hc, hoc, hvq⟩
  · have nd := (List.nodup_append.mp H.nd).2.1
    obtain ⟨gR, hU, hkeys⟩ := updF_of hT nd
    have n126 : ∀ k ∈ [e1.1, e2.1, e3.1, e4.1, e5.1, e6.1, e7.1, e8.1], k ≠ 126 := fun k hk e => (List.nodup_append.mp H.nd).2.2 k hk 126 (List.mem_map.mpr ⟨_, hT, rfl⟩) e
    have a1 := n126 e1.1 (.head _)
    have a2 := n126 e2.1 (.tail _ (.head _))
    have a3 := n126 e3.1 (.tail _ (.tail _ (.head _)))
    have a4 := n126 e4.1 (.tail _ (.tail _ (.tail _ (.head _))))
    have a5 := n126 e5.1 (.tail _ (.tail _ (.tail _ (.tail _ (.head _)))))
    have a6 := n126 e6.1 (.tail _ (.tail _ (.tail _ (.tail _ (.tail _ (.head _))))))
    have a7 := n126 e7.1 (.tail _ (.tail _ (.tail _ (.tail _ (.tail _ (.tail _ (.head _)))))))
    have a8 := n126 e8.1 (.tail _ (.tail _ (.tail _ (.tail _ (.tail _ (.tail _ (.tail _ (.head _))))))))
    have hU8 := UpdF.tail a1 (UpdF.tail a2 (UpdF.tail a3 (UpdF.tail a4 (UpdF.tail a5 (UpdF.tail a6 (UpdF.tail a7 (UpdF.tail a8 hU)))))))
    refine law_links_call B F X N T hk C (up hT) hU8 hlad ho hv1 hv2 (up hD1) (up hD2) hs1 hs2 (lad_dm hv' hu') (lad_len hv') (lad_len hu') (hv_len hu') hd hu ?_
    intro t' h' tk' c' oc vq tq F' N' hoc hvq hlt
    rw [links_is hv' hu']
    have hk1 : ∀ (o' : Obj) (p : Addr × Obj), p ∈ rest → p.1 ≠ 126 → p ∈ gR o' := fun o' p hp hne => updF_mem hU hp hne o'
    refine hret t' h' tk' ((c', oc) :: gR (link1 c')) F' ?_ ?_
    · intro p hp
      refine N' p ?_
      simp only [List.mem_cons] at hp ⊢
      rcases hp with h | h | h | h | h | h | h | h | h | h
      · exact .inr (.inl h)
      · exact .inr (.inr (.inl h))
      · exact .inr (.inr (.inr (.inl h)))
      · exact .inr (.inr (.inr (.inr (.inl h))))
      · exact .inr (.inr (.inr (.inr (.inr (.inl h)))))
      · exact .inr (.inr (.inr (.inr (.inr (.inr (.inl h))))))
      · exact .inr (.inr (.inr (.inr (.inr (.inr (.inr (.inl h)))))))
      · exact .inr (.inr (.inr (.inr (.inr (.inr (.inr (.inr (.inl h))))))))
      · exact .inl h
      · exact .inr (.inr (.inr (.inr (.inr (.inr (.inr (.inr (.inr h))))))))
    · refine ⟨.inr ⟨c', oc, vq, tq, .tail _ (updF_mem' hU), .head _, hoc, hvq⟩, fun x hx => ?_, ?_, fun p hp => .tail _ (hk1 _ p (H.keep p hp) (H.base p hp)), H.base, H.isH⟩
      · obtain ⟨D, vs, c, q1, q2, q3⟩ := H.lads x hx
        exact ⟨D, vs, c, q1, .tail _ (hk1 _ _ q2 (news_ne N (up q2) (up hT) (by intro h; cases h))), q3⟩
      · rw [List.map_cons, hkeys]
        refine (List.perm_middle.nodup_iff).mpr (List.nodup_cons.mpr ⟨fun hm => ?_, H.nd⟩)
        have hm' : c' ∈ (e1 :: e2 :: e3 :: e4 :: e5 :: e6 :: e7 :: e8 :: rest).map (·.1) := hm
        obtain ⟨p, hp, e⟩ := List.mem_map.mp hm'
        have := hlt p hp
        rw [e] at this
        exact Nat.lt_irrefl _ this
  · refine law_links_next B F X N T hk C (up hT) (up hc) hoc hvq hlad ho hv1 hv2 (up hD1) (up hD2) hs1 hs2 (lad_dm hv' hu') (lad_len hv') (lad_len hu') (hv_len hu') hd hu ?_
    intro t' h' tk' F' N'
    rw [links_is hv' hu']
    exact hret t' h' tk' rest F' N' H

theorem ladder_hv {v : Nat} {t : Tok}
    (B : Below A₀ base outer h₀) (F : Fr h₀ L s.heap m) (X : (hd.heap_39 w.params).In h₀) (N : News h₀ L s.heap news) (T : Top p loose mean mg mb h₀) (hk : cs.kind = .function)
    (h : IsH v) (hd : dp + 3 < recursionLimit) (hu : un + 24 < cLine)
    (hret : ∀ (D : Addr) (vs : List Value) (n : Nat) (h' : Heap) (tk' : Nat), Fr h₀ L h' m → News h₀ L h' ((D, listOf vs.toArray n) :: news) → StrsAre vs (ladV v) → (∀ p ∈ news, p.1 < D) → Q (.ref D) { s with heap := h', toks := tk' }) :
    wpAny (model PG w) (ktrTop dp un gd cn cs L a ccd cl outer) (call (.ref 124) [.str (hv v) t]) Q E s := by
  have sh := all84 path_shape h
  simp only [Bool.or_eq_true, Bool.and_eq_true, decide_eq_true_eq, beq_iff_eq] at sh
  have hl : (hv v).length ≤ 100 := Nat.le_trans (hv_len h) (by (first | lia | omega))
  have r0 := reach_is h
  have n0 := name_ne h
  rcases sh with (⟨h1, h2⟩ | ⟨⟨h1, h2⟩, h3⟩) | ⟨⟨⟨h1, h2⟩, h3⟩, h4⟩
  · rw [h1] at r0
    refine law_ladder1_call B F X N T hk n0 r0 name_eq0 hl (name_len (by (first | lia | omega))) hd hu ?_
    have e : ladV v = [nameT v, nameT 0] := by unfold ladV; rw [h2]; rfl
    rw [e] at hret
    exact hret
  · have r1 := reach_is h1
    rw [h2] at r1
    refine law_ladder2_call B F X N T hk n0 r0 (name_ne h1) r1 name_eq0 hl (name_len h1.2) (name_len (by (first | lia | omega))) hd hu ?_
    have e : ladV v = [nameT v, nameT (parN.getD v 0), nameT 0] := by unfold ladV; rw [h3]; rfl
    rw [e] at hret
    exact hret
  · have r1 := reach_is h1
    have r2 := reach_is h2
    rw [h3] at r2
    refine law_ladder3_call B F X N T hk n0 r0 (name_ne h1) r1 (name_ne h2) r2 name_eq0 hl (name_len h1.2) (name_len h2.2) (name_len (by (first | lia | omega))) hd hu ?_
    have e : ladV v = [nameT v, nameT (parN.getD v 0), nameT (parN.getD (parN.getD v 0) 0), nameT 0] := by unfold ladV; rw [h4]; rfl
    rw [e] at hret
    exact hret
theorem turned_hv {v : Nat} {t : Tok}
    (B : Below A₀ base outer h₀) (F : Fr h₀ L s.heap m) (X : (hd.heap_39 w.params).In h₀) (N : News h₀ L s.heap news) (T : Top p loose mean mg mb h₀) (hk : cs.kind = .function)
    (h : IsH v) (hd : dp + 6 < recursionLimit) (hu : un + 80 < cLine)
    (hret : ∀ (t' : Tok) (h' : Heap) (tk' : Nat) (gs' : GenState), Fr h₀ L h' m → News h₀ L h' news → gs'.bare = true → Q (.str (tv (hv v)) t') { s with heap := h', toks := tk', gens := s.gens.push gs' }) :
    wpS (model PG w) (ktrTop dp un gd cn cs L a ccd cl outer) (call (.ref 117) [.str (hv v) t]) Q E s := by
  have k := turnOk h
  refine law_turned_call B F X N T hk (split_hv h.2) k.ne k.len k.labs k.host k.room k.join k.asc k.dot hd hu ?_
  rw [tv_hv h.2] at hret
  exact hret
theorem host_hv {n : Int} {t : Tok}
    (B : Below A₀ base outer h₀) (F : Fr h₀ L s.heap m) (X : (hd.heap_39 w.params).In h₀) (N : News h₀ L s.heap news) (T : Top p loose mean mg mb h₀) (hk : cs.kind = .function)
    (h0 : 0 ≤ n) (hn : n < 192) (hd : dp + 2 < recursionLimit) (hu : un + 16 < cLine)
    (hret : ∀ (v : Nat) (t' : Tok) (h' : Heap) (tk' : Nat), IsH v → Fr h₀ L h' m → News h₀ L h' news → Q (.str (hv v) t') { s with heap := h', toks := tk' }) :
    wpAny (model PG w) (ktrTop dp un gd cn cs L a ccd cl outer) (call (.ref 112) [.int n t]) Q E s := by
  obtain ⟨v, hv1, e⟩ := hostOf_is h0 hn
  refine law_host_call B F X N T hk h0 hn hd hu ?_
  intro t' h' tk' F' N'
  rw [e]
  exact hret v t' h' tk' hv1 F' N'
theorem join_all : (List.range' 1 84).all (fun v => (labT v ++ [Str.ofString "local"]).all (fun a => decide (a.length ≤ 50)) && decide ((labT v).length ≤ 3) && (List.range 5).all (fun k => decide ((Txt.join (Str.ofString ".") ((labT v ++ [Str.ofString "local"]).drop k)).length ≤ 100))) = true := by decide +kernel
theorem net_hv {D : Addr} {n : Nat} {vs : List Value} {hs : List Nat}
    (B : Below A₀ base outer h₀) (F : Fr h₀ L s.heap m) (X : (hd.heap_39 w.params).In h₀) (N : News h₀ L s.heap news) (T : Top p loose mean mg mb h₀) (hk : cs.kind = .function)
    (hD : (D, listOf vs.toArray n) ∈ news) (hs' : StrsAre vs (hs.map hv)) (hh : ∀ v ∈ hs, IsH v) (hl : hs.length ≤ 100) (hd : dp + 2 < recursionLimit) (hu : un + 120 < cLine)
    (hret : ∀ (t' : Tok) (h' : Heap) (tk' : Nat), Fr h₀ L h' m → News h₀ L h' news → Q (.int (netV (hs.map hv)) t') { s with heap := h', toks := tk' }) :
    wpAny (model PG w) (ktrTop dp un gd cn cs L a ccd cl outer) (call (.ref 136) [.ref D]) Q E s := by
  have q : ∀ x ∈ hs.map hv, ∃ v, IsH v ∧ x = hv v := fun x hx => by
    obtain ⟨v, h1, rfl⟩ := List.mem_map.mp hx
    exact ⟨v, hh v h1, rfl⟩
  have j : ∀ v, IsH v → (∀ a ∈ labT v ++ [Str.ofString "local"], a.length ≤ 50) ∧ (labT v).length ≤ 3 ∧ ∀ k, (Txt.join (Str.ofString ".") ((labT v ++ [Str.ofString "local"]).drop k)).length ≤ 100 := fun v h => by
    have a := all84 join_all h
    simp only [Bool.and_eq_true, List.all_eq_true, decide_eq_true_eq] at a
    refine ⟨a.1.1, a.1.2, fun k => ?_⟩
    rcases Nat.lt_or_ge k 5 with c | c
    · exact a.2 k (List.mem_range.mpr c)
    · rw [List.drop_eq_nil_of_le (by rw [List.length_append, List.length_singleton]; (first | lia | omega))]
      decide
  refine law_net_call B F X N T hk hD hs' (by rw [List.length_map]; (first | lia | omega)) ?_ ?_ ?_ ?_ hd hu hret
  · intro x hx
    obtain ⟨v, h1, rfl⟩ := q x hx
    exact hv_len h1
  · intro x hx
    obtain ⟨v, h1, rfl⟩ := q x hx
    rw [split_hv h1.2]
    exact ⟨by rw [List.length_append, List.length_singleton]; have := (j v h1).2.1; (first | lia | omega), (j v h1).1⟩
  · intro x hx
    obtain ⟨v, h1, rfl⟩ := q x hx
    exact hv_ok h1
  · intro x hx
    obtain ⟨v, h1, rfl⟩ := q x hx
    rw [split_hv h1.2]
    exact (j v h1).2.2
end
end Mine
end

section
open PySem PySem.W PySem.Calls PyProof.Rows in
theorem Mine.resetRunL {M : Model} {A : Around} {E : Value → Shared → Prop} {s : Shared} {Q : Bool → Shared → Prop} {v : Value} (h : wpAny M A (truthy v) Q E s) : wpAny M A (truthy v) Q E s := by
  w_top off
  k_with_none
  first | (walk1; fail) | exact h
open PySem PySem.W PySem.Calls PyProof.Rows
open Sem (wp)
namespace Mine
theorem ints_item : ∀ {vs : List Value} {ns : List Int}, IntsAre vs ns → ∀ (i : Nat) (v : Value), vs[i]? = some v → ∃ n t, v = .int n t ∧ ns[i]? = some n
  | _, _, .nil, i, v, h => by cases h
  | _, _, .cons n t r, 0, v, h => by cases h; exact ⟨n, t, rfl, rfl⟩
  | _, _, .cons n t r, i + 1, v, h => ints_item r i v h
theorem ne_nilS {prog : Program} {w : World} {A : Around} {E : Value → Shared → Prop} {s : Shared} {h₀ : Heap} {L : Addr} {news : List (Addr × Obj)} {a b : Addr} {xs : List Value} {ns : List Str} {n k : Nat} {Q : Value → Shared → Prop}
    (N : News h₀ L s.heap news) (m1 : (a, listOf xs.toArray n) ∈ news) (m2 : (b, listOf #[] k) ∈ news) (hi : StrsAre xs ns) (oa : ∀ x ∈ ns, PyData.strOk x = true) (hu : A.units + 64 < cLine) (h : Q (.bool (!decide (ns = []))) s) :
    wpAny (model prog w) A (compareOp .NotEq (.ref a) (.ref b)) Q E s :=
  ne_strs (ys := []) (mem_isListA N m1) (mem_isListA N m2) hi .nil oa (fun x hx => by cases hx) hu h
theorem ne_oneS {prog : Program} {w : World} {A : Around} {E : Value → Shared → Prop} {s : Shared} {h₀ : Heap} {L : Addr} {news : List (Addr × Obj)} {a b : Addr} {xs : Array Value} {ns : List Str} {x : Str} {t : Tok} {n k : Nat} {Q : Value → Shared → Prop}
    (N : News h₀ L s.heap news) (m1 : (a, listOf xs n) ∈ news) (m2 : (b, listOf #[.str x t] k) ∈ news) (hi : StrsAre xs.toList ns) (oa : ∀ x ∈ ns, PyData.strOk x = true) (ob : PyData.strOk x = true) (hu : A.units + 64 < cLine) (h : Q (.bool (!decide (ns = [x]))) s) :
    wpAny (model prog w) A (compareOp .NotEq (.ref a) (.ref b)) Q E s :=
  ne_strs (xs := xs.toList) (ys := [.str x t]) (by rw [Array.toArray_toList]; exact mem_isListA N m1) (mem_isListA N m2) hi (.cons _ _ .nil) oa (fun y hy => by rw [List.mem_singleton.mp hy]; exact ob) hu h
/-- the end of a statement whose state is told by Mid -/
noncomputable def CutS (Q : Flow → Shared → Prop) (Mid : Shared → Prop) (f : Flow) (s : Shared) : Prop := match f with | .next => Mid s | f => Q f s
section
variable {M : Model} {A : Around} {E : Value → Shared → Prop} {s : Shared} {env : Env}
theorem cutA {st : Stmt} {rest : List Stmt} {Q : Flow → Shared → Prop} (Mid : Shared → Prop)
    (h : wpAny M A (exec st env) (CutS Q Mid) E s) (k : ∀ s', Mid s' → wpS M A (execs rest env) Q E s') : wpS M A (execs (st :: rest) env) Q E s :=
  execsA (wpAny_mono h (fun f s' hf => by cases f <;> first | exact k _ hf | exact hf) fun _ _ e => e)
theorem cutS {st : Stmt} {rest : List Stmt} {Q : Flow → Shared → Prop} (Mid : Shared → Prop)
    (h : wpS M A (exec st env) (CutS Q Mid) E s) (k : ∀ s', Mid s' → wpS M A (execs rest env) Q E s') : wpS M A (execs (st :: rest) env) Q E s :=
  execsS (wpS_mono h (fun f s' hf => by cases f <;> first | exact k _ hf | exact hf) fun _ _ e => e)
theorem nilS {Q : Flow → Shared → Prop} (h : Q .next s) : wpS M A (execs [] env) Q E s := wpS_of (wpAny_execs_nil h)
end
/-- the frame and the ledger behind a statement -/
noncomputable def MidS (s₀ : Shared) (g' : Heap) (L : Addr) (P : (Str → Option Value) → List (Addr × Obj) → Array GenState → Prop) (s : Shared) : Prop :=
  ∃ h tk m nx g, s = { s₀ with heap := h, toks := tk, gens := g } ∧ Fr g' L h m ∧ News g' L h nx ∧ P m nx g
theorem cut_at : ∀ {l : List Value} {k : Nat}, k < l.length → kl_cut l k = some (l.take k, l.getD k .none, l.drop (k + 1))
  | x :: r, 0, _ => rfl
  | x :: r, k + 1, h => by
    have ih := cut_at (l := r) (k := k) (by simpa using h)
    unfold kl_cut
    rw [ih]
    rfl
theorem strs_at {vs : List Value} {xs : List Str} (h : StrsAre vs xs) {k : Nat} (hk : k < xs.length) : ∃ t, vs.getD k .none = .str (xs.getD k Str.empty) t := by
  have hl := h.len_eq
  have hv : vs[k]? = some (vs.getD k .none) := by rw [List.getD_eq_getElem?_getD, List.getElem?_eq_getElem (by (first | lia | omega))]; rfl
  obtain ⟨x, t, e, hx⟩ := h.item k _ hv
  refine ⟨t, ?_⟩
  rw [e, List.getD_eq_getElem?_getD, hx]
  rfl
theorem strs_erase {vs : List Value} {xs : List Str} (h : StrsAre vs xs) (k : Nat) : StrsAre (vs.take k ++ vs.drop (k + 1)) (xs.eraseIdx k) := by
  have e : xs.eraseIdx k = xs.take k ++ xs.drop (k + 1) := List.eraseIdx_eq_take_drop_succ ..
  rw [e]
  exact (h.take' k).append' (h.drop' (k + 1))
theorem map_erase (rs : List Nat) (k : Nat) : (rs.map hv).eraseIdx k = (rs.eraseIdx k).map hv := by
  rw [List.eraseIdx_eq_take_drop_succ, List.eraseIdx_eq_take_drop_succ, List.map_append, List.map_take, List.map_drop]
section
variable {prog : Program} {w : World} {A : Around} {E : Value → Shared → Prop} {s : Shared} {h₀ : Heap} {L : Addr} {m : Str → Option Value} {news : List (Addr × Obj)}
/-- pop at a place in bounds, of a list of texts -/
theorem pop_strs {D : Addr} {vs : List Value} {xs : List Str} {n k : Nat} {i : Int} {u : Tok} {g : Obj → List (Addr × Obj)} {Q : Value → Shared → Prop} (F : Fr h₀ L s.heap m) (N : News h₀ L s.heap news)
    (hi : StrsAre vs xs) (e : i = (k : Int)) (hk : k < xs.length) (hl : xs.length ≤ 100) (U : UpdF D (listOf vs.toArray n) news g)
    (h : ∀ h' t, Fr h₀ L h' m → News h₀ L h' (g (listOf (List.toArray (vs.take k ++ vs.drop (k + 1))) (n + 1))) → Q (.str (xs.getD k Str.empty) t) { s with heap := h' }) :
    wpAny (model prog w) A (call (.builtin "list.pop") [.ref D, .int i u]) Q E s := by
  subst e
  have hv := hi.len_eq
  obtain ⟨t, ht⟩ := strs_at hi hk
  have hf : Builtin.List.listFitsIndex (k : Int) = true := by
    unfold Builtin.List.listFitsIndex
    simp only [Bool.and_eq_true, decide_eq_true_eq]
    (first | lia | omega)
  have hs : seqIndex? (k : Int) vs.toArray.size = some k := by
    unfold seqIndex?
    have h1 : ¬ ((k : Int) < 0) := by (first | lia | omega)
    simp only [if_neg h1, List.size_toArray]
    rw [if_pos (by simp only [Bool.and_eq_true, decide_eq_true_eq]; (first | lia | omega))]
    rfl
  have hc := cut_at (l := vs) (k := k) (by (first | lia | omega))
  rw [ht] at hc
  exact kl_popAt F N hf hs hc (updF_upd U _) (by show vs.length ≤ _; rw [sizeLine_eq]; (first | lia | omega)) fun h' F' N' => h h' t F' N'
theorem slice_one {vs : List Value} {xs : List Str} (hi : StrsAre vs xs) {x : Int} {k : Nat} (e : x = (k : Int)) (hk : k < xs.length) :
    StrsAre (slicePick vs.toArray (some x) (some (x + 1)) none).toList [xs.getD k Str.empty] := by
  subst e
  have hl := hi.len_eq
  have h1 : (k : Int) + 1 = ((k + 1 : Nat) : Int) := by (first | lia | omega)
  rw [h1, slicePick_run vs.toArray k (k + 1) (by rw [List.size_toArray]; (first | lia | omega)) (by (first | lia | omega))]
  have e2 : (xs.drop k).take (k + 1 - k) = [xs.getD k Str.empty] := by
    rw [List.drop_eq_getElem_cons hk, Nat.add_sub_cancel_left, List.getD_eq_getElem?_getD, List.getElem?_eq_getElem hk]
    rfl
  rw [← e2]
  simpa using (hi.drop' k).take' (k + 1 - k)
/-- an item of a list of texts, from either end -/
theorem item_any {value slice : Expr} {a : Addr} {vs : List Value} {rs : List Nat} {k : Int} {j : Nat} {u : Tok} {Q : Value → Shared → Prop} (hl : s.heap.IsList a vs.toArray) (hi : StrsAre vs (rs.map hv))
    (hk : (k = (j : Int) ∧ j < rs.length) ∨ (k = -1 ∧ j + 1 = rs.length)) (h100 : rs.length ≤ 100) (h : ∀ t', Q (.str (hv (rs.getD j 0)) t') s)
    (hs : subscripted slice false (.ref a) (.int k u) = operate [.ref a, .int k u] (getItem (.ref a) (.int k u)) := by with_unfolding_all rfl) (hg : ∀ r, letTemporaryGo value (.ref a) r = pure () := by intro _; with_unfolding_all rfl) :
    wpAny (model prog w) A (subscriptTail value slice (.ref a) (.int k u)) Q E s := by
  have hle := hi.len_eq
  rw [List.length_map] at hle
  rcases hk with ⟨rfl, hj⟩ | ⟨rfl, hj⟩
  · refine item_strsA hl hi (by (first | lia | omega)) (by rw [List.length_map]; (first | lia | omega)) (by (first | lia | omega)) ?_ hs hg
    intro t'
    rw [Int.toNat_natCast, getD_map hj]
    exact h t'
  · obtain ⟨t, ht⟩ := strs_at hi (k := j) (by rw [List.length_map]; (first | lia | omega))
    rw [getD_map (by (first | lia | omega))] at ht
    have e : vs = vs.take j ++ [Value.str (hv (rs.getD j 0)) t] := by
      have h1 : vs.drop j = [vs.getD j .none] := by
        rw [List.drop_eq_getElem_cons (by (first | lia | omega)), List.drop_eq_nil_of_le (by (first | lia | omega)), List.getD_eq_getElem?_getD, List.getElem?_eq_getElem (by (first | lia | omega))]
        rfl
      rw [← ht, ← h1, List.take_append_drop]
    rw [e] at hl
    exact item_last hl (h t) hs hg
end
end Mine
end

section
open PySem PySem.W PySem.Calls PyProof.Rows in
theorem Mine.resetCalls2 {M : Model} {A : Around} {E : Value → Shared → Prop} {s : Shared} {Q : Bool → Shared → Prop} {v : Value} (h : wpAny M A (truthy v) Q E s) : wpAny M A (truthy v) Q E s := by
  w_top off
  k_with_none
  first | (walk1; fail) | exact h
open PySem PySem.W PySem.Calls PyProof.Rows
namespace Mine
noncomputable def Knows (kT : List (Str × Value)) (x : Str) : Prop := ∃ t, valueAt kT x = some (.str (tv x) t)
section
variable {w : World} {p : Program} {loose : List Str} {mean : ExcName → Option Value} {mg mb : Str → Option Value} {news : List (Addr × Obj)}
    {dp un : Nat} {gd : Option (List Code)} {cn : Str} {cs : Scope} {a : Addr} {ccd : Value} {cl : List (Str × Addr)} {outer : List Env} {A₀ : Around} {base h₀ : Heap} {L : Addr} {m : Str → Option Value} {s : Shared} {Q E : Value → Shared → Prop}

theorem bisect_left_hv {hst : Nat} {t : Tok} {row kf : Addr} {vs : List Value} {rs : List Nat} {n : Nat} {kT : List (Str × Value)}
    (B : Below A₀ base outer h₀) (F : Fr h₀ L s.heap m) (X : (hd.heap_39 w.params).In h₀) (N : News h₀ L s.heap news) (T : Top p loose mean mg mb h₀) (hk : cs.kind = .function)
    (hr : (row, listOf vs.toArray n) ∈ news) (hvs : StrsAre vs (rs.map hv)) {oc : Value} {od : Option Addr} {fd : FuncData} {sl : Array (Option Value)} (hfn : (kf, (⟨oc, od, .func fd, sl⟩ : Obj)) ∈ news) (hK : KeyOk w news kf (fun x t => .str (tv x) t) (Knows kT) 6 60) (hP : ∀ v ∈ rs, IsH v ∧ Knows kT (hv v)) (hh : IsH hst) (hl : rs.length ≤ 100) (hd : dp + 7 < recursionLimit) (hu : un + 68 < cLine)
    (hret : ∀ (t' : Tok) (h' : Heap) (tk' : Nat), Fr h₀ L h' m → News h₀ L h' news → Q (.int (plL rs hst : Nat) t') { s with heap := h', toks := tk' }) :
    wpAny (model PG w) (ktrTop dp un gd cn cs L a ccd cl outer) (call (.ref 84) [.ref row, .str (tv (hv hst)) t] [(Str.ofString "key", .ref kf)]) Q E s := by
  refine bisect_left_call B F X N T hk hr hvs hfn hK (fun x hx => ?_) (by rw [List.length_map]; (first | lia | omega)) hd hu ?_
  · obtain ⟨v, h1, rfl⟩ := List.mem_map.mp hx
    exact (hP v h1).2
  · rw [left_is (fun v h => (hP v h).1) hh]
    exact hret
theorem bisect_right_hv {hst : Nat} {t : Tok} {row kf : Addr} {vs : List Value} {rs : List Nat} {n : Nat} {kT : List (Str × Value)}
    (B : Below A₀ base outer h₀) (F : Fr h₀ L s.heap m) (X : (hd.heap_39 w.params).In h₀) (N : News h₀ L s.heap news) (T : Top p loose mean mg mb h₀) (hk : cs.kind = .function)
    (hr : (row, listOf vs.toArray n) ∈ news) (hvs : StrsAre vs (rs.map hv)) {oc : Value} {od : Option Addr} {fd : FuncData} {sl : Array (Option Value)} (hfn : (kf, (⟨oc, od, .func fd, sl⟩ : Obj)) ∈ news) (hK : KeyOk w news kf (fun x t => .str (tv x) t) (Knows kT) 6 60) (hP : ∀ v ∈ rs, IsH v ∧ Knows kT (hv v)) (hh : IsH hst) (hl : rs.length ≤ 100) (hd : dp + 7 < recursionLimit) (hu : un + 68 < cLine)
    (hret : ∀ (t' : Tok) (h' : Heap) (tk' : Nat), Fr h₀ L h' m → News h₀ L h' news → Q (.int (plR rs hst : Nat) t') { s with heap := h', toks := tk' }) :
    wpAny (model PG w) (ktrTop dp un gd cn cs L a ccd cl outer) (call (.ref 75) [.ref row, .str (tv (hv hst)) t] [(Str.ofString "key", .ref kf)]) Q E s := by
  refine bisect_right_call B F X N T hk hr hvs hfn hK (fun x hx => ?_) (by rw [List.length_map]; (first | lia | omega)) hd hu ?_
  · obtain ⟨v, h1, rfl⟩ := List.mem_map.mp hx
    exact (hP v h1).2
  · rw [right_is (fun v h => (hP v h).1) hh]
    exact hret
theorem ins_strs {vs : List Value} {rs : List Nat} (h : StrsAre vs (rs.map hv)) {k : Nat} (hk : k ≤ rs.length) {v : Nat} {t : Tok} : StrsAre (kl_ins vs (k : Int) (.str (hv v) t)) ((rs.take k ++ v :: rs.drop k).map hv) := by
  have hl := h.len_eq
  rw [List.length_map] at hl
  unfold kl_ins
  rw [if_neg (by (first | lia | omega)), Int.toNat_natCast, Nat.min_eq_left (by (first | lia | omega)), List.map_append, List.map_cons, List.map_take, List.map_drop]
  exact (h.take' k).append' (.cons _ _ (h.drop' k))
theorem insort_hv {hst : Nat} {t : Tok} {row kf : Addr} {vs : List Value} {rs : List Nat} {n : Nat} {kT : List (Str × Value)} {g : Obj → List (Addr × Obj)}
    (B : Below A₀ base outer h₀) (F : Fr h₀ L s.heap m) (X : (hd.heap_39 w.params).In h₀) (N : News h₀ L s.heap news) (T : Top p loose mean mg mb h₀) (hk : cs.kind = .function)
    (hU : UpdF row (listOf vs.toArray n) news g) (hvs : StrsAre vs (rs.map hv)) {oc : Value} {od : Option Addr} {fd : FuncData} {sl : Array (Option Value)} (hfn : (kf, (⟨oc, od, .func fd, sl⟩ : Obj)) ∈ news) (hK : KeyOk w news kf (fun x t => .str (tv x) t) (Knows kT) 6 60) (hP : ∀ v ∈ rs, IsH v ∧ Knows kT (hv v)) (hh : IsH hst ∧ Knows kT (hv hst)) (hl : rs.length ≤ 100) (hple : plR rs hst ≤ rs.length) (hd : dp + 8 < recursionLimit) (hu : un + 76 < cLine)
    (hret : ∀ (vs' : List Value) (h' : Heap) (tk' : Nat), Fr h₀ L h' m → News h₀ L h' (g (listOf vs'.toArray (n + 1))) → StrsAre vs' ((rs.take (plR rs hst) ++ hst :: rs.drop (plR rs hst)).map hv) → Q .none { s with heap := h', toks := tk' }) :
    wpAny (model PG w) (ktrTop dp un gd cn cs L a ccd cl outer) (call (.ref 66) [.ref row, .str (hv hst) t] [(Str.ofString "key", .ref kf)]) Q E s := by
  obtain ⟨pre, post, e1, _, _, _⟩ := hU.split
  have hr : (row, listOf vs.toArray n) ∈ news := e1 ▸ List.mem_append_right _ (.head _)
  refine insort_right_call B F X N T hk hr hvs hfn hK (fun x hx => ?_) hh.2 (by rw [List.length_map]; (first | lia | omega)) (updF_upd hU _) hd hu ?_
  · obtain ⟨v, h1, rfl⟩ := List.mem_map.mp hx
    exact (hP v h1).2
  · rw [right_is (fun v h => (hP v h).1) hh.1]
    intro h' tk' F' N'
    exact hret _ h' tk' F' N' (ins_strs hvs hple)
end
theorem len_hv {w : World} {A : Around} {E : Value → Shared → Prop} {s : Shared} {h₀ : Heap} {L : Addr} {news : List (Addr × Obj)} {a : Addr} {vs : List Value} {rs : List Nat} {n : Nat} {Q : Value → Shared → Prop} {prog : Program}
    (N : News h₀ L s.heap news) (hm : (a, listOf vs.toArray n) ∈ news) (hi : StrsAre vs (rs.map hv)) (hl : rs.length ≤ 100) (h : ∀ t tk, Q (.int (rs.length : Int) t) { s with toks := tk }) :
    wpAny (model prog w) A (call (.builtin "len") [.ref a]) Q E s := by
  refine len_strsA (mem_isListA N hm) hi (by rw [List.length_map]; (first | lia | omega)) ?_
  rw [List.length_map]
  exact h _ _
theorem upd8_6 {I OF OC LD DT RW HD CL : Addr} {o1 o2 o3 o4 o5 o6 o7 o8 : Obj} {rest : List (Addr × Obj)} (nd : ([I, OF, OC, LD, DT, RW, HD, CL] ++ rest.map (·.1)).Nodup) :
    UpdF RW o6 ((I, o1) :: (OF, o2) :: (OC, o3) :: (LD, o4) :: (DT, o5) :: (RW, o6) :: (HD, o7) :: (CL, o8) :: rest) (fun o' => (I, o1) :: (OF, o2) :: (OC, o3) :: (LD, o4) :: (DT, o5) :: (RW, o') :: (HD, o7) :: (CL, o8) :: rest) := by
  simp only [List.cons_append, List.nil_append, List.nodup_cons, List.mem_cons, not_or] at nd
  obtain ⟨⟨_, _, _, _, a1, _⟩, ⟨_, _, _, a2, _⟩, ⟨_, _, a3, _⟩, ⟨_, a4, _⟩, ⟨a5, _⟩, ⟨b1, b2, b3⟩, _⟩ := nd
  refine .tail a1 (.tail a2 (.tail a3 (.tail a4 (.tail a5 (.head fun p hp => ?_)))))
  rcases List.mem_cons.mp hp with rfl | hp
  · exact fun e => b1 e.symm
  rcases List.mem_cons.mp hp with rfl | hp
  · exact fun e => b2 e.symm
  · exact fun e => b3 (List.mem_map.mpr ⟨p, hp, e⟩)
theorem upd8_7 {I OF OC LD DT RW HD CL : Addr} {o1 o2 o3 o4 o5 o6 o7 o8 : Obj} {rest : List (Addr × Obj)} (nd : ([I, OF, OC, LD, DT, RW, HD, CL] ++ rest.map (·.1)).Nodup) :
    UpdF HD o7 ((I, o1) :: (OF, o2) :: (OC, o3) :: (LD, o4) :: (DT, o5) :: (RW, o6) :: (HD, o7) :: (CL, o8) :: rest) (fun o' => (I, o1) :: (OF, o2) :: (OC, o3) :: (LD, o4) :: (DT, o5) :: (RW, o6) :: (HD, o') :: (CL, o8) :: rest) := by
  simp only [List.cons_append, List.nil_append, List.nodup_cons, List.mem_cons, not_or] at nd
  obtain ⟨⟨_, _, _, _, _, a1, _⟩, ⟨_, _, _, _, a2, _⟩, ⟨_, _, _, a3, _⟩, ⟨_, _, a4, _⟩, ⟨_, a5, _⟩, ⟨a6, _⟩, ⟨b2, b3⟩, _⟩ := nd
  refine .tail a1 (.tail a2 (.tail a3 (.tail a4 (.tail a5 (.tail a6 (.head fun p hp => ?_))))))
  rcases List.mem_cons.mp hp with rfl | hp
  · exact fun e => b2 e.symm
  · exact fun e => b3 (List.mem_map.mpr ⟨p, hp, e⟩)
theorem upd8_5 {I OF OC LD DT RW HD CL : Addr} {o1 o2 o3 o4 o5 o6 o7 o8 : Obj} {rest : List (Addr × Obj)} (nd : ([I, OF, OC, LD, DT, RW, HD, CL] ++ rest.map (·.1)).Nodup) :
    UpdF DT o5 ((I, o1) :: (OF, o2) :: (OC, o3) :: (LD, o4) :: (DT, o5) :: (RW, o6) :: (HD, o7) :: (CL, o8) :: rest) (fun o' => (I, o1) :: (OF, o2) :: (OC, o3) :: (LD, o4) :: (DT, o') :: (RW, o6) :: (HD, o7) :: (CL, o8) :: rest) := by
  simp only [List.cons_append, List.nil_append, List.nodup_cons, List.mem_cons, not_or] at nd
  obtain ⟨⟨_, _, _, a1, _⟩, ⟨_, _, a2, _⟩, ⟨_, a3, _⟩, ⟨a4, _⟩, ⟨b0, b1, b2, b3⟩, _⟩ := nd
  refine .tail a1 (.tail a2 (.tail a3 (.tail a4 (.head fun p hp => ?_))))
  rcases List.mem_cons.mp hp with rfl | hp
  · exact fun e => b0 e.symm
  rcases List.mem_cons.mp hp with rfl | hp
  · exact fun e => b1 e.symm
  rcases List.mem_cons.mp hp with rfl | hp
  · exact fun e => b2 e.symm
  · exact fun e => b3 (List.mem_map.mpr ⟨p, hp, e⟩)
theorem upd8_4 {I OF OC LD DT RW HD CL : Addr} {o1 o2 o3 o4 o5 o6 o7 o8 : Obj} {rest : List (Addr × Obj)} (nd : ([I, OF, OC, LD, DT, RW, HD, CL] ++ rest.map (·.1)).Nodup) :
    UpdF LD o4 ((I, o1) :: (OF, o2) :: (OC, o3) :: (LD, o4) :: (DT, o5) :: (RW, o6) :: (HD, o7) :: (CL, o8) :: rest) (fun o' => (I, o1) :: (OF, o2) :: (OC, o3) :: (LD, o') :: (DT, o5) :: (RW, o6) :: (HD, o7) :: (CL, o8) :: rest) := by
  simp only [List.cons_append, List.nil_append, List.nodup_cons, List.mem_cons, not_or] at nd
  obtain ⟨⟨_, _, a1, _⟩, ⟨_, a2, _⟩, ⟨a3, _⟩, ⟨b5, b0, b1, b2, b3⟩, _⟩ := nd
  refine .tail a1 (.tail a2 (.tail a3 (.head fun p hp => ?_)))
  rcases List.mem_cons.mp hp with rfl | hp
  · exact fun e => b5 e.symm
  rcases List.mem_cons.mp hp with rfl | hp
  · exact fun e => b0 e.symm
  rcases List.mem_cons.mp hp with rfl | hp
  · exact fun e => b1 e.symm
  rcases List.mem_cons.mp hp with rfl | hp
  · exact fun e => b2 e.symm
  · exact fun e => b3 (List.mem_map.mpr ⟨p, hp, e⟩)
theorem value_stored {kvs : List (Str × Value)} {k x : Str} {v : Value} : valueAt (stored kvs k v) x = if x = k then some v else valueAt kvs x := by
  unfold stored
  by_cases h : kvs.any (fun kv => kv.1 = k) = true
  · rw [if_pos h]
    induction kvs with
    | nil => cases h
    | cons p l ih =>
      unfold valueAt at ih ⊢
      rw [List.map_cons]
      by_cases e : p.1 = k
      · rw [if_pos e]
        by_cases q : x = k
        · rw [List.find?_cons_of_pos (by simp [e, q]), if_pos q]; rfl
        · rw [List.find?_cons_of_neg (by rw [decide_eq_true_eq]; intro h; exact q (h.symm.trans e)), if_neg q, List.find?_cons_of_neg (by rw [decide_eq_true_eq]; intro h; exact q (h.symm.trans e))]
          by_cases h2 : l.any (fun kv => kv.1 = k) = true
          · rw [ih h2, if_neg q]
          · have e3 : (l.map fun kv => if kv.1 = k then (kv.1, v) else kv) = l := by
              rw [List.map_congr_left (g := id) (fun kv hkv => ?_), List.map_id]
              rw [if_neg (fun hk => h2 (List.any_eq_true.mpr ⟨kv, hkv, by simp [hk]⟩))]
              rfl
            rw [e3]
      · rw [if_neg e]
        have h2 : l.any (fun kv => kv.1 = k) = true := by
          rw [List.any_cons] at h
          simpa [e] using h
        by_cases c : p.1 = x
        · rw [List.find?_cons_of_pos (by simp [c]), List.find?_cons_of_pos (by simp [c]), if_neg (fun q => e (c.trans q))]
        · rw [List.find?_cons_of_neg (by simpa using c), List.find?_cons_of_neg (by simpa using c)]
          exact ih h2
  · rw [if_neg h]
    unfold valueAt
    rw [List.find?_append]
    by_cases q : x = k
    · subst q
      rw [if_pos rfl]
      have e4 : kvs.find? (fun kv => kv.1 = x) = none := by
        rw [List.find?_eq_none]
        intro kv hkv hc
        exact h (List.any_eq_true.mpr ⟨kv, hkv, hc⟩)
      rw [e4]
      simp
    · rw [if_neg q]
      cases e5 : kvs.find? (fun kv => kv.1 = x) with
      | some p => rfl
      | none =>
        rw [List.find?_cons_of_neg (by simpa using fun h : k = x => q h.symm)]
        rfl
theorem ne_nilB {prog : Program} {w : World} {A : Around} {E : Value → Shared → Prop} {s : Shared} {h₀ : Heap} {L : Addr} {news : List (Addr × Obj)} {a b : Addr} {xs : List Value} {rs : List Nat} {n k : Nat} {bb : Bool} {Q : Value → Shared → Prop}
    (N : News h₀ L s.heap news) (m1 : (a, listOf xs.toArray n) ∈ news) (m2 : (b, listOf #[] k) ∈ news) (hi : StrsAre xs (rs.map hv)) (oa : ∀ x ∈ rs, IsH x) (hb : (!decide (rs = [])) = bb) (hu : A.units + 64 < cLine) (h : Q (.bool bb) s) :
    wpAny (model prog w) A (compareOp .NotEq (.ref a) (.ref b)) Q E s := by
  refine ne_nilS N m1 m2 hi (fun x hx => ?_) hu ?_
  · obtain ⟨v, h1, rfl⟩ := List.mem_map.mp hx
    exact hv_ok (oa v h1)
  · have e : decide (rs.map hv = []) = decide (rs = []) := by
      cases rs <;> simp
    rw [e, hb]
    exact h
theorem ring_way {rs : List Nat} {pl hst ja jb : Nat} (hne : rs ≠ []) (hpl : pl ≤ rs.length) (ea : rs.getD ja 0 = ahd rs pl) (eb : rs.getD jb 0 = beh rs pl) :
    ringOf (rs.take pl ++ hst :: rs.drop pl) = ringOf rs + (wayN (rs.getD ja 0) hst + wayN hst (rs.getD jb 0) - wayN (rs.getD ja 0) (rs.getD jb 0)) := by
  rw [ea, eb]
  exact ring_insert hne hpl
theorem ahead_at {rs : List Nat} {pl : Nat} (hne : rs ≠ []) (hpl : pl ≤ rs.length) : ∃ ja, rs.getD ja 0 = ahd rs pl ∧ ja < rs.length ∧ (((pl : Int) - 1 = (ja : Int) ∧ ja < rs.length) ∨ ((pl : Int) - 1 = -1 ∧ ja + 1 = rs.length)) := by
  have hl := List.length_pos_iff.mpr hne
  unfold ahd
  by_cases h : pl = 0
  · refine ⟨rs.length - 1, ?_, by (first | lia | omega), .inr ⟨by (first | lia | omega), by (first | lia | omega)⟩⟩
    rw [if_pos h]
    cases rs with
    | nil => exact absurd rfl hne
    | cons a t => rw [List.getLastD_cons, getLastD_getD]; rfl
  · refine ⟨pl - 1, ?_, by (first | lia | omega), .inl ⟨by (first | lia | omega), by (first | lia | omega)⟩⟩
    rw [if_neg h]
theorem behind_at {rs : List Nat} {pl : Nat} (hne : rs ≠ []) (hpl : pl ≤ rs.length) : ∃ jb, rs.getD jb 0 = beh rs pl ∧ jb < rs.length ∧ ((Int.fmod (pl : Int) (rs.length : Int) = (jb : Int) ∧ jb < rs.length) ∨ (Int.fmod (pl : Int) (rs.length : Int) = -1 ∧ jb + 1 = rs.length)) := by
  have hl := List.length_pos_iff.mpr hne
  unfold beh
  by_cases h : pl = rs.length
  · refine ⟨0, ?_, hl, .inl ⟨?_, hl⟩⟩
    · rw [if_pos h]
    · rw [h, Int.fmod_self]; rfl
  · refine ⟨pl, ?_, by (first | lia | omega), .inl ⟨?_, by (first | lia | omega)⟩⟩
    · rw [if_neg h]
    · rw [Int.fmod_eq_emod_of_nonneg _ (by (first | lia | omega)), Int.emod_eq_of_lt (by (first | lia | omega)) (by (first | lia | omega))]
theorem ne_oneF {prog : Program} {w : World} {A : Around} {E : Value → Shared → Prop} {s : Shared} {h₀ : Heap} {L : Addr} {news : List (Addr × Obj)} {a b : Addr} {xs : Array Value} {x : Str} {t : Tok} {n k : Nat} {Q : Value → Shared → Prop}
    (N : News h₀ L s.heap news) (m1 : (a, listOf xs n) ∈ news) (m2 : (b, listOf #[.str x t] k) ∈ news) (hi : StrsAre xs.toList [x]) (ob : PyData.strOk x = true) (hu : A.units + 64 < cLine) (h : Q (.bool false) s) :
    wpAny (model prog w) A (compareOp .NotEq (.ref a) (.ref b)) Q E s := by
  refine ne_oneS N m1 m2 hi (fun y hy => by rw [List.mem_singleton.mp hy]; exact ob) ob hu ?_
  rw [decide_eq_true rfl]
  exact h
theorem slice_row {prog : Program} {w : World} {A : Around} {E : Value → Shared → Prop} {s : Shared} {h₀ : Heap} {L l : Addr} {m : Str → Option Value} {news : List (Addr × Obj)} {value slice : Expr} {vs : List Value} {rs : List Nat} {n k v : Nat} {t1 t2 : Tok} {Q : Value → Shared → Prop}
    (F : Fr h₀ L s.heap m) (N : News h₀ L s.heap news) (hm : (l, listOf vs.toArray n) ∈ news) (hi : StrsAre vs (rs.map hv)) (hk : k < rs.length) (hv' : rs.getD k 0 = v) (hl : rs.length ≤ 100)
    (h : ∀ D ws h', Fr h₀ L h' m → News h₀ L h' ((D, listOf ws 0) :: news) → (∀ p ∈ news, p.1 < D) → StrsAre ws.toList [hv v] → Q (.ref D) { s with heap := h' })
    (hs : subscripted slice false (.ref l) (.ref s.heap.objs.size) = operate [.ref s.heap.objs.size, .ref l] (getItem (.ref l) (.ref s.heap.objs.size))) (ht : ∀ r, letTemporaryGo value (.ref l) r = pure ()) :
    wpAny (model prog w) A (subscriptTail value slice (.ref l) (.ref s.heap.objs.size)) Q E { s with heap := s.heap.push { cls := .type "slice", data := .fields #[.int (k : Int) t1, .int ((k : Int) + 1) t2, .none] } } := by
  have hle := hi.len_eq
  rw [List.length_map] at hle
  refine kmk_slice F N (mem_isListA N hm) (.int _ _) (.int _ _) ?_ hs ht (by rw [List.size_toArray, sizeLine_eq]; (first | lia | omega))
  intro D h' F' N' l1
  refine h D _ h' F' N' l1 ?_
  have := slice_one hi (x := (k : Int)) rfl (by rw [List.length_map]; exact hk)
  rw [getD_map hk, hv'] at this
  exact this
end Mine
end

section
open PySem PySem.W PySem.Calls PyProof.Rows in
theorem Mine.resetSortT {M : Model} {A : Around} {E : Value → Shared → Prop} {s : Shared} {Q : Bool → Shared → Prop} {v : Value} (h : wpAny M A (truthy v) Q E s) : wpAny M A (truthy v) Q E s := by
  w_top off
  k_with_none
  first | (walk1; fail) | exact h
open PySem PySem.W PySem.Calls PyProof.Rows
namespace Mine
/-- the answer's code: (a, b), a's key is no more than b's, is a * 8 + b -/
noncomputable def ansLe (i j : Nat) : Bool → Nat
  | true => i * 8 + j
  | false => j * 8 + i
noncomputable def memN (x : Nat) : List Nat → Bool
  | [] => false
  | a :: l => (Nat.beq a x).or (memN x l)
/-- a way of answers from a to b -/
noncomputable def way (F : List Nat) (n : Nat) : Nat → Nat → Nat → Bool
  | 0, _, _ => false
  | f + 1, a, b => (memN (a * 8 + b) F).or ((List.range n).any fun c => (memN (a * 8 + c) F).and (way F n f c b))
noncomputable def adjB (n : Nat) (F : List Nat) : List Nat → Bool
  | [] => true
  | a :: r => match r with
    | [] => true
    | b :: _ => ((memN (a * 8 + b) F).or (way F n n a b)).and (adjB n F r)
noncomputable def chk (n : Nat) : KasT (Array Nat) → List Nat → Bool
  | .ret p, F => (Nat.beq p.toList.length n).and (((List.range n).all fun i => memN i p.toList).and (adjB n F p.toList))
  | .ask i j k, F => ((Nat.blt i n).and (Nat.blt j n)).and ((chk n (k true) (ansLe i j true :: F)).and (chk n (k false) (ansLe i j false :: F)))
theorem chk2 : chk 2 (kas_sort 2) [] = true := by decide +kernel
theorem chk3 : chk 3 (kas_sort 3) [] = true := by decide +kernel
theorem chk4 : chk 4 (kas_sort 4) [] = true := by decide +kernel
theorem chk5 : chk 5 (kas_sort 5) [] = true := by decide +kernel
theorem chk6 : chk 6 (kas_sort 6) [] = true := by decide +kernel
theorem memN_is {x : Nat} : ∀ {l : List Nat}, memN x l = true ↔ x ∈ l
  | [] => by simp [memN]
  | a :: l => by
    unfold memN
    rw [Bool.or_eq_true, memN_is, List.mem_cons, Nat.beq_eq]
    exact or_congr_left ⟨fun h => h.symm, fun h => h.symm⟩
/-- the answers are true of the keys -/
noncomputable def Told6 (key : Nat → Nat) (F : List Nat) : Prop := ∀ a b, a < 8 → b < 8 → a * 8 + b ∈ F → key a ≤ key b
theorem way_le {key : Nat → Nat} {F : List Nat} (hF : Told6 key F) {n : Nat} (hn : n ≤ 6) : ∀ (f a b : Nat), a < 8 → b < 8 → way F n f a b = true → key a ≤ key b
  | 0, a, b, _, _, h => by cases h
  | f + 1, a, b, ha, hb, h => by
    unfold way at h
    rw [Bool.or_eq_true] at h
    rcases h with h | h
    · exact hF a b ha hb (memN_is.mp h)
    · obtain ⟨c, hc, h⟩ := List.any_eq_true.mp h
      rw [Bool.and_eq_true] at h
      have hc' := List.mem_range.mp hc
      exact Nat.le_trans (hF a c ha (by (first | lia | omega)) (memN_is.mp h.1)) (way_le hF hn f c b (by (first | lia | omega)) hb h.2)
theorem adj_sorted {key : Nat → Nat} {F : List Nat} (hF : Told6 key F) {n : Nat} (hn : n ≤ 6) : ∀ {l : List Nat}, (∀ x ∈ l, x < 8) → adjB n F l = true → (l.map key).Pairwise (· ≤ ·)
  | [], _, _ => .nil
  | [a], _, _ => List.pairwise_singleton _ _
  | a :: b :: r, hl, h => by
    unfold adjB at h
    dsimp only at h
    rw [Bool.and_eq_true, Bool.or_eq_true] at h
    have ih := adj_sorted hF hn (l := b :: r) (fun x hx => hl x (.tail _ hx)) h.2
    have hab : key a ≤ key b := h.1.elim (fun q => hF a b (hl a (.head _)) (hl b (.tail _ (.head _))) (memN_is.mp q)) fun q => way_le hF hn n a b (hl a (.head _)) (hl b (.tail _ (.head _))) q
    rw [List.map_cons]
    refine List.pairwise_cons.mpr ⟨fun y hy => ?_, ih⟩
    rw [List.map_cons] at hy ih
    rcases List.mem_cons.mp hy with rfl | hy
    · exact hab
    · exact Nat.le_trans hab ((List.pairwise_cons.mp ih).1 y hy)
theorem perm_sub : ∀ (r l : List Nat), r.Nodup → (∀ x ∈ r, x ∈ l) → l.length ≤ r.length → l.Perm r
  | [], l, _, _, h => by
    have : l = [] := List.length_eq_zero_iff.mp (Nat.le_zero.mp h)
    rw [this]
  | a :: r, l, hn, hs, h => by
    obtain ⟨l1, l2, rfl⟩ := List.append_of_mem (hs a (.head _))
    refine List.perm_middle.trans (List.Perm.cons a (perm_sub r (l1 ++ l2) (List.nodup_cons.mp hn).2 (fun x hx => ?_) ?_))
    · have hm := hs x (.tail _ hx)
      rw [List.mem_append, List.mem_cons] at hm
      rw [List.mem_append]
      rcases hm with hm | rfl | hm
      · exact .inl hm
      · exact absurd hx (List.nodup_cons.mp hn).1
      · exact .inr hm
    · rw [List.length_append, List.length_cons, List.length_cons] at h
      rw [List.length_append]
      (first | lia | omega)
theorem perm_of {n : Nat} {l : List Nat} (h1 : l.length = n) (h2 : ∀ i, i < n → i ∈ l) : l.Perm (List.range n) :=
  perm_sub _ _ List.nodup_range (fun i hi => h2 i (List.mem_range.mp hi)) (by rw [h1, List.length_range]; exact Nat.le_refl _)
/-- the sort's questions, answered by keys: a permutation in order -/
theorem sort_wp {key : Nat → Nat} {n : Nat} (hn : n ≤ 6) {cmp : Nat → Nat → (Bool → Shared → Prop) → Shared → Prop} {s : Shared} {Q : Array Nat → Shared → Prop}
    (hcmp : ∀ i j (C : Bool → Shared → Prop) tk, i < n → j < n → (∀ tk', C (decide (key i < key j)) { s with toks := tk' }) → cmp i j C { s with toks := tk })
    (hQ : ∀ p tk, p.size = n → p.toList.Perm (List.range n) → (p.toList.map key).Pairwise (· ≤ ·) → Q p { s with toks := tk }) :
    ∀ (t : KasT (Array Nat)) (F : List Nat), chk n t F = true → Told6 key F → ∀ tk, t.kasWp cmp Q { s with toks := tk }
  | .ret p, F, h, hF, tk => by
    unfold chk at h
    rw [Bool.and_eq_true, Bool.and_eq_true, Nat.beq_eq, List.all_eq_true] at h
    obtain ⟨h1, h2, h3⟩ := h
    have P := perm_of h1 fun i hi => memN_is.mp (h2 i (List.mem_range.mpr hi))
    refine hQ p tk (by rw [← Array.length_toList]; exact h1) P (adj_sorted hF hn (fun x hx => ?_) h3)
    have := List.mem_range.mp (P.mem_iff.mp hx)
    (first | lia | omega)
  | .ask i j k, F, h, hF, tk => by
    unfold chk at h
    rw [Bool.and_eq_true, Bool.and_eq_true, Bool.and_eq_true, Nat.blt_eq, Nat.blt_eq] at h
    obtain ⟨⟨hi, hj⟩, h1, h2⟩ := h
    refine hcmp i j _ tk hi hj fun tk' => ?_
    by_cases c : key i < key j
    · rw [decide_eq_true c]
      refine sort_wp hn hcmp hQ (k true) _ h1 ?_ tk'
      intro a b ha hb hm
      rcases List.mem_cons.mp hm with e | hm
      · have e' : a * 8 + b = i * 8 + j := e
        have ea : a = i := by (first | lia | omega)
        have eb : b = j := by (first | lia | omega)
        subst ea eb
        exact Nat.le_of_lt c
      · exact hF a b ha hb hm
    · rw [decide_eq_false c]
      refine sort_wp hn hcmp hQ (k false) _ h2 ?_ tk'
      intro a b ha hb hm
      rcases List.mem_cons.mp hm with e | hm
      · have e' : a * 8 + b = j * 8 + i := e
        have ea : a = j := by (first | lia | omega)
        have eb : b = i := by (first | lia | omega)
        subst ea eb
        exact Nat.le_of_not_lt c
      · exact hF a b ha hb hm
theorem chk_all {n : Nat} (h2 : 2 ≤ n) (h6 : n ≤ 6) : chk n (kas_sort n) [] = true := by
  rcases (by (first | lia | omega) : n = 2 ∨ n = 3 ∨ n = 4 ∨ n = 5 ∨ n = 6) with rfl | rfl | rfl | rfl | rfl
  · exact chk2
  · exact chk3
  · exact chk4
  · exact chk5
  · exact chk6
end Mine
end

section
open PySem PySem.W PySem.Calls PyProof.Rows in
theorem Mine.resetLtL {M : Model} {A : Around} {E : Value → Shared → Prop} {s : Shared} {Q : Bool → Shared → Prop} {v : Value} (h : wpAny M A (truthy v) Q E s) : wpAny M A (truthy v) Q E s := by
  w_top off
  k_with_none
  first | (walk1; fail) | exact h
open PySem PySem.W PySem.Calls PyProof.Rows
open PySem.AutoSeq1 (wpAny_loadPart')
open PySem.MeetsSeq3
namespace Mine
/-- two lists of texts: the first place where they part -/
noncomputable def lexT : List Str → List Str → Bool
  | _, [] => false
  | [], _ :: _ => true
  | a :: x, b :: y => if a = b then lexT x y else decide (a.cps.toList < b.cps.toList)
theorem lt_loop (l b : Addr) {xs ys : List Value} {ns ms : List Str} (n n2 : Nat) (hx : StrsAre xs ns) (hy : StrsAre ys ms) (k : Nat) :
    ∀ i : Nat, xs.length - i = k → i ≤ xs.length → i ≤ ys.length → Meets (Builtin.«list.__eq__.loop» ⟨[.ref l, .ref b, rawInt i, rawInt 0], []⟩)
      (fun _ R s => s.heap.get? l = some { cls := .type "list", dict := none, data := .seq xs.toArray n, slots := #[] } ∧ s.heap.get? b = some { cls := .type "list", dict := none, data := .seq ys.toArray n2, slots := #[] } ∧
        ∀ tk, R (.ok (.ret (.bool (lexT (ns.drop i) (ms.drop i))))) { s with toks := tk }) := by
  have hxl := hx.len_eq
  have hyl := hy.len_eq
  induction k with
  | zero =>
    intro i hk hle hle2 prog w A R s h
    obtain ⟨hp, g, d, tk, os⟩ := s; obtain ⟨hl, hb, h⟩ := h
    wp_walk using wpAny_loadPart' hl, wpAny_loadPart' hb
    have hi1 : xs.toArray[((i : Nat) : Int).toNat]? = none := by simp; (first | lia | omega)
    rw [hi1]
    wp_walk using wpAny_loadPart' hl, wpAny_loadPart' hb
    show R (.ok (.ret (.bool (decide (xs.toArray.size < ys.toArray.size))))) _
    have e : lexT (ns.drop i) (ms.drop i) = decide (xs.toArray.size < ys.toArray.size) := by
      rw [List.drop_eq_nil_of_le (by (first | lia | omega)), List.size_toArray, List.size_toArray]
      cases q : ms.drop i with
      | nil =>
        have : ms.length ≤ i := List.drop_eq_nil_iff.mp q
        rw [decide_eq_false (by (first | lia | omega))]
        rfl
      | cons a r =>
        have : i < ms.length := by
          rcases Nat.lt_or_ge i ms.length with c | c
          · exact c
          · rw [List.drop_eq_nil_of_le c] at q; cases q
        rw [decide_eq_true (by (first | lia | omega))]
        rfl
    rw [e] at h
    exact h _
  | succ k ih =>
    intro i hk hle hle2 prog w A R s h
    obtain ⟨hp, g, d, tk, os⟩ := s; obtain ⟨hl, hb, h⟩ := h
    wp_walk using wpAny_loadPart' hl, wpAny_loadPart' hb
    have hlt : i < xs.length := by (first | lia | omega)
    obtain ⟨x, tx, ex, hx1⟩ := hx.item i xs[i] (by simp [hlt])
    have hi1 : xs.toArray[((i : Nat) : Int).toNat]? = some (.str x tx) := by rw [← ex]; simp [hlt]
    have hc : ((i : Int) + 1) = ((i + 1 : Nat) : Int) := by (first | lia | omega)
    have hd : ns.drop i = x :: ns.drop (i + 1) := by
      have : i < ns.length := by (first | lia | omega)
      rw [List.drop_eq_getElem_cons this]
      rw [List.getElem?_eq_getElem this] at hx1
      rw [Option.some.inj hx1]
    rw [hd] at h
    rw [hi1]
    by_cases hlt2 : i < ys.length
    · obtain ⟨y, ty, ey, hy1⟩ := hy.item i ys[i] (by simp [hlt2])
      have hi2 : ys.toArray[((i : Nat) : Int).toNat]? = some (.str y ty) := by rw [← ey]; simp [hlt2]
      have hd2 : ms.drop i = y :: ms.drop (i + 1) := by
        have : i < ms.length := by (first | lia | omega)
        rw [List.drop_eq_getElem_cons this]
        rw [List.getElem?_eq_getElem this] at hy1
        rw [Option.some.inj hy1]
      rw [hd2] at h
      rw [hi2]
      refine wpAny_bind (wpAny_eqBool_str ?_)
      unfold lexT at h
      by_cases hb' : x = y
      · rw [if_pos hb'] at h
        rw [decide_eq_true hb']
        wp_walk
        rw [hc]
        exact ⟨plainId_quiet plain_eq_loop _, codeAny_builtin entry_eq_loop (by
          rw [Around.under_plainId plain_eq_loop _]
          exact ih (i + 1) (by (first | lia | omega)) (by (first | lia | omega)) (by (first | lia | omega)) prog w A R _ ⟨hl, hb, by simpa using h⟩)⟩
      · rw [if_neg hb'] at h
        rw [decide_eq_false hb']
        wp_walk using wpAny_loadPart' hl, wpAny_loadPart' hb
        rw [hi1, hi2]
        dsimp only
        refine wpAny_bind ?_
        show wpAny _ _ (compareOp .Lt (.str x tx) (.str y ty)) _ _ _
        refine lt_str ?_
        exact wpAny_pure (h _)
    · have hi2 : ys.toArray[((i : Nat) : Int).toNat]? = none := by simp; (first | lia | omega)
      rw [hi2]
      wp_walk using wpAny_loadPart' hl, wpAny_loadPart' hb
      show R (.ok (.ret (.bool (decide (xs.toArray.size < ys.toArray.size))))) _
      rw [show ms.drop i = [] from List.drop_eq_nil_of_le (by (first | lia | omega))] at h
      rw [List.size_toArray, List.size_toArray, decide_eq_false (by (first | lia | omega))]
      exact h _
theorem list_lt (l b : Addr) {xs ys : List Value} {ns ms : List Str} (n n2 : Nat) (hx : StrsAre xs ns) (hy : StrsAre ys ms) :
    Meets (Builtin.«list.__lt__» ⟨[.ref l, .ref b], []⟩)
      (fun _ R s => s.heap.get? l = some { cls := .type "list", dict := none, data := .seq xs.toArray n, slots := #[] } ∧ s.heap.get? b = some { cls := .type "list", dict := none, data := .seq ys.toArray n2, slots := #[] } ∧
        ∀ tk, R (.ok (.ret (.bool (lexT ns ms)))) { s with toks := tk }) := by
  intro prog w A R s h
  obtain ⟨hp, g, d, tk, os⟩ := s; obtain ⟨hl, hb, h⟩ := h
  have f3 := AutoSeq1.sub_list_list
  wp_walk using wpAny_loadPart' hl, wpAny_loadPart' hb
  exact ⟨plainId_quiet plain_eq_loop _, codeAny_builtin entry_eq_loop (by
    rw [Around.under_plainId plain_eq_loop _]
    exact lt_loop l b n n2 hx hy _ 0 rfl (Nat.zero_le _) (Nat.zero_le _) prog w A R _ ⟨hl, hb, by simpa using h⟩)⟩
/-- the question that the sort asks of two lists of texts -/
theorem keyLt_lists {prog : Program} {w : World} {A : Around} {E : Value → Shared → Prop} {s : Shared} {l b : Addr} {xs ys : List Value} {ns ms : List Str} {n n2 : Nat} {Q : Bool → Shared → Prop} (hx : StrsAre xs ns) (hy : StrsAre ys ms)
    (hl : s.heap.get? l = some (listOf xs.toArray n)) (hb : s.heap.get? b = some (listOf ys.toArray n2)) (hu : A.units < cLine) (h : ∀ tk, Q (lexT ns ms) { s with toks := tk }) :
    wpAny (model prog w) A (keyLt' oneType' (.ref l) (.ref b)) Q E s := by
  rw [keyLt'_oneType, oneLt'_eq]
  simp only [if_true]
  refine wpAny_bind (wpAny_cRoomFor hu ?_)
  refine wpAny_bind (wpAny_callSpecialIfBound?_slot ⟨_, hl, rfl⟩ PySem.F.slot_list_lt ?_)
  refine call_meets PySem.F.slot_list_lt ⟨_, hl, rfl⟩ PySem.F.entry_list_lt (PySem.F.args_list_lt_2 _ _) (list_lt l b n n2 hx hy) ⟨hl, hb, fun tk => ?_⟩
  exact wpAny_truthy_bool (h tk)
end Mine
end

section
open PySem PySem.W PySem.Calls PyProof.Rows in
theorem Mine.resetSortHv {M : Model} {A : Around} {E : Value → Shared → Prop} {s : Shared} {Q : Bool → Shared → Prop} {v : Value} (h : wpAny M A (truthy v) Q E s) : wpAny M A (truthy v) Q E s := by
  w_top off
  k_with_none
  first | (walk1; fail) | exact h
open PySem PySem.W PySem.Calls PyProof.Rows
namespace Mine
noncomputable def keyLs (v : Nat) : List Str := (labT v ++ [Str.ofString "local"]).reverse
noncomputable def toS (l : List Nat) : Str := ⟨l.toArray⟩
theorem lex_map : ∀ (x y : List (List Nat)), lexT (x.map toS) (y.map toS) = lexS x y
  | x, [] => by cases x <;> rfl
  | [], b :: y => rfl
  | a :: x, b :: y => by
    show (if toS a = toS b then lexT (x.map toS) (y.map toS) else decide ((toS a).cps.toList < (toS b).cps.toList)) = if a == b then lexS x y else lexL a b
    by_cases e : a = b
    · subst e
      rw [if_pos rfl, if_pos (by simp), lex_map x y]
    · rw [if_neg (fun h => e ?_), if_neg (by simpa using e), lexL_is]
      · rfl
      · have := congrArg (fun z : Str => z.cps.toList) h
        exact this
theorem key_ls {v u : Nat} (h : IsH v) (h' : IsH u) : lexT (keyLs v) (keyLs u) = decide (v < u) := by
  have e : ∀ v, keyLs v = Str.ofString "local" :: ((labN.getD v []).reverse.map toS) := fun v => by
    unfold keyLs labT
    rw [List.reverse_append, ← List.map_reverse]
    rfl
  rw [e v, e u]
  show (if Str.ofString "local" = Str.ofString "local" then lexT ((labN.getD v []).reverse.map toS) ((labN.getD u []).reverse.map toS) else _) = _
  rw [if_pos rfl, lex_map]
  have := beq_iff_eq.mp (all84 (all84 lab_all h) h')
  rw [this]
  by_cases c : v < u
  · rw [decide_eq_true c]; exact Nat.blt_eq.mpr c
  · rw [decide_eq_false c]
    cases q : Nat.blt v u with
    | false => rfl
    | true => exact absurd (Nat.blt_eq.mp q) c
/-- the key's call gives a new list of labels -/
noncomputable def KeyL (w : World) (need : List (Addr × Obj)) (kf : Addr) : Prop :=
  ∀ {p : Program} {loose : List Str} {mean : ExcName → Option Value} {mg mb : Str → Option Value}
    {dp un : Nat} {gd : Option (List Code)} {cn : Str} {cs : Scope} {a : Addr} {ccd : Value} {cl : List (Str × Addr)} {outer : List Env} {A₀ : Around} {base h₀ : Heap} {L : Addr} {m : Str → Option Value} {s : Shared} {Q E : Value → Shared → Prop} {nx : List (Addr × Obj)} {v : Nat} {t : Tok},
    Below A₀ base outer h₀ → Fr h₀ L s.heap m → (hd.heap_39 w.params).In h₀ → News h₀ L s.heap nx → Top p loose mean mg mb h₀ → cs.kind = .function → (∀ q ∈ need, q ∈ nx) → IsH v → dp + 6 < recursionLimit → un + 60 < cLine →
    (∀ (D' : Addr) (arr : Array Value) (h' : Heap) (tk' : Nat), Fr h₀ L h' m → News h₀ L h' ((D', listOf arr 0) :: nx) → (∀ q ∈ nx, q.1 < D') → StrsAre arr.toList (keyLs v) → Q (.ref D') { s with heap := h', toks := tk' }) →
    wpAny (model PG w) (ktrTop dp un gd cn cs L a ccd cl outer) (call (.ref kf) [.str (hv v) t]) Q E s
noncomputable def KsOk (nx : List (Addr × Obj)) : List Value → List Nat → Prop
  | [], [] => True
  | v :: vs, x :: xs => (∃ (a : Addr) (arr : Array Value), v = .ref a ∧ (a, listOf arr 0) ∈ nx ∧ StrsAre arr.toList (keyLs x)) ∧ KsOk nx vs xs
  | _, _ => False
theorem KsOk.len {nx : List (Addr × Obj)} : ∀ {vs : List Value} {xs : List Nat}, KsOk nx vs xs → vs.length = xs.length
  | [], [], _ => rfl
  | _ :: _, _ :: _, h => by rw [List.length_cons, List.length_cons, KsOk.len h.2]
  | [], _ :: _, h => h.elim
  | _ :: _, [], h => h.elim
theorem KsOk.mono {nx nx' : List (Addr × Obj)} (hs : ∀ p ∈ nx, p ∈ nx') : ∀ {vs : List Value} {xs : List Nat}, KsOk nx vs xs → KsOk nx' vs xs
  | [], [], _ => trivial
  | _ :: _, _ :: _, ⟨⟨a, arr, e, q, r⟩, h⟩ => ⟨⟨a, arr, e, hs _ q, r⟩, KsOk.mono hs h⟩
  | [], _ :: _, h => h.elim
  | _ :: _, [], h => h.elim
theorem KsOk.snoc {nx : List (Addr × Obj)} {v : Value} {x : Nat} (hv : ∃ (a : Addr) (arr : Array Value), v = .ref a ∧ (a, listOf arr 0) ∈ nx ∧ StrsAre arr.toList (keyLs x)) : ∀ {vs : List Value} {xs : List Nat}, KsOk nx vs xs → KsOk nx (vs ++ [v]) (xs ++ [x])
  | [], [], _ => ⟨hv, trivial⟩
  | _ :: _, _ :: _, ⟨h1, h⟩ => ⟨h1, KsOk.snoc hv h⟩
  | [], _ :: _, h => h.elim
  | _ :: _, [], h => h.elim
theorem KsOk.at {nx : List (Addr × Obj)} : ∀ {vs : List Value} {xs : List Nat}, KsOk nx vs xs → ∀ i, i < xs.length → ∃ (a : Addr) (arr : Array Value), vs.getD i .none = .ref a ∧ (a, listOf arr 0) ∈ nx ∧ StrsAre arr.toList (keyLs (xs.getD i 0))
  | [], [], _, i, h => absurd h (Nat.not_lt_zero _)
  | v :: vs, x :: xs, ⟨h1, h⟩, 0, _ => h1
  | v :: vs, x :: xs, ⟨h1, h⟩, i + 1, hi => KsOk.at h i (by simpa using hi)
  | [], _ :: _, h, _, _ => h.elim
  | _ :: _, [], h, _, _ => h.elim
theorem updF_app {d : Addr} {o : Obj} {post : List (Addr × Obj)} (hp : ∀ p ∈ post, p.1 ≠ d) : ∀ {pre : List (Addr × Obj)}, (∀ p ∈ pre, p.1 ≠ d) → UpdF d o (pre ++ (d, o) :: post) (fun o' => pre ++ (d, o') :: post)
  | [], _ => .head hp
  | a :: pre, h => .tail (h a (.head _)) (updF_app hp fun p hp' => h p (.tail _ hp'))
section
variable {w : World} {p : Program} {loose : List Str} {mean : ExcName → Option Value} {mg mb : Str → Option Value} {news : List (Addr × Obj)}
    {dp un : Nat} {gd : Option (List Code)} {cn : Str} {cs : Scope} {a : Addr} {ccd : Value} {cl : List (Str × Addr)} {outer : List Env} {A₀ : Around} {base h₀ : Heap} {L : Addr} {m : Str → Option Value} {s : Shared} {Q E : Value → Shared → Prop}

theorem keys_walk {need : List (Addr × Obj)} {kf kS D : Addr} {e1 : Nat} (B : Below A₀ base outer h₀) (X : (hd.heap_39 w.params).In h₀) (T : Top p loose mean mg mb h₀) (hk : cs.kind = .function) (hK : KeyL w need kf) (hneed : ∀ q ∈ need, q ∈ news)
    (hd : dp + 6 < recursionLimit) (hu : un + 60 < cLine) (hkD : D < kS) (hnD : ∀ q ∈ news, q.1 < D) {Fn : List Value → Nat → Shared → Prop} {ys : List Nat} {s₀ : Shared}
    (fin : ∀ (ks : List Value) (KL : List (Addr × Obj)) (e : Nat) (h' : Heap) (tk : Nat), Fr h₀ L h' m → News h₀ L h' (KL ++ (kS, seqObj "list" (List.toArray ks) e) :: (D, seqObj "list" #[] e1) :: news) → (∀ p ∈ KL, p.1 ≠ kS ∧ p.1 ≠ D) → KsOk KL ks ys → Fn ks e { s₀ with heap := h', toks := tk }) :
    ∀ (xs2 xs1 : List Nat) (r ks : List Value) (KL : List (Addr × Obj)) (e : Nat) (h : Heap) (tk : Nat), xs1 ++ xs2 = ys → (∀ v ∈ xs2, IsH v) → StrsAre r (xs2.map hv) → KsOk KL ks xs1 → (∀ p ∈ KL, p.1 ≠ kS ∧ p.1 ≠ D) → Fr h₀ L h m →
      News h₀ L h (KL ++ (kS, seqObj "list" (List.toArray ks) e) :: (D, seqObj "list" #[] e1) :: news) → KatKeys PG w (ktrTop dp un gd cn cs L a ccd cl outer) h₀ L m kS (.ref kf) Fn r ks e { s₀ with heap := h, toks := tk }
  | [], xs1, r, ks, KL, e, h, tk, hy, hI, hr, ho, hKL, F, N => by
    cases hr
    rw [List.append_nil] at hy
    subst hy
    exact KatKeys.nil (fin ks KL e h tk F N hKL ho)
  | x :: xs2, xs1, r, ks, KL, e, h, tk, hy, hI, hr, ho, hKL, F, N => by
    cases hr with
    | cons _ t hr =>
      refine KatKeys.cons ?_
      refine hK (E := fun _ _ => False) B F X N T hk (fun q hq => List.mem_append_right _ (.tail _ (.tail _ (hneed q hq)))) (hI x (.head _)) hd hu ?_
      intro D' arr h' tk' F' N' hlt hs
      have hpost : ∀ p ∈ (D, seqObj "list" #[] e1) :: news, p.1 ≠ kS := fun p hp => by
        rcases List.mem_cons.mp hp with rfl | hp
        · exact Nat.ne_of_lt hkD
        · exact Nat.ne_of_lt (Nat.lt_trans (hnD p hp) hkD)
      have hkS : kS < D' := hlt (kS, seqObj "list" (List.toArray ks) e) (List.mem_append_right _ (.head _))
      have hD' : D < D' := hlt (D, seqObj "list" #[] e1) (List.mem_append_right _ (.tail _ (.head _)))
      have hKL' : ∀ p ∈ (D', listOf arr 0) :: KL, p.1 ≠ kS ∧ p.1 ≠ D := fun p hp => by
        rcases List.mem_cons.mp hp with rfl | hp
        · exact ⟨Nat.ne_of_gt hkS, Nat.ne_of_gt hD'⟩
        · exact hKL p hp
      refine KatBack.intro F' N' (updF_app (pre := (D', listOf arr 0) :: KL) hpost fun p hp => (hKL' p hp).1) ?_
      intro h2 c F2 N2
      have ho' : KsOk ((D', listOf arr 0) :: KL) (ks ++ [.ref D']) (xs1 ++ [x]) := KsOk.snoc ⟨D', arr, rfl, .head _, hs⟩ (ho.mono fun p hp => .tail _ hp)
      exact keys_walk B X T hk hK hneed hd hu hkD hnD fin xs2 (xs1 ++ [x]) _ _ ((D', listOf arr 0) :: KL) c h2 tk' (by rw [List.append_assoc]; exact hy) (fun v hv => hI v (.tail _ hv)) hr ho' hKL' F2 N2
theorem fin_ok {kS D : Addr} {e1 e : Nat} {ks out : List Value} {KL : List (Addr × Obj)} {C : Shared → Prop} (hkD : D < kS) (hnD : ∀ q ∈ news, q.1 < D) (F : Fr h₀ L s.heap m) (N : News h₀ L s.heap (KL ++ (kS, seqObj "list" (List.toArray ks) e) :: (D, seqObj "list" #[] e1) :: news))
    (hKL : ∀ p ∈ KL, p.1 ≠ kS ∧ p.1 ≠ D) (h : ∀ h' c, Fr h₀ L h' m → News h₀ L h' ((D, listOf (List.toArray out) c) :: news) → C { s with heap := h' }) : KatFin h₀ L m kS D ks e e1 out C s := by
  have hpost : ∀ p ∈ (D, seqObj "list" #[] e1) :: news, p.1 ≠ kS := fun p hp => by
    rcases List.mem_cons.mp hp with rfl | hp
    · exact Nat.ne_of_lt hkD
    · exact Nat.ne_of_lt (Nat.lt_trans (hnD p hp) hkD)
  refine KatFin.intro F N (updF_app hpost fun p hp => (hKL p hp).1) ?_
  intro h1 c1 F1 N1
  refine KasFin.intro F1 (news := (KL ++ [(kS, seqObj "list" #[] c1)]) ++ (D, seqObj "list" #[] e1) :: news) (fun p hp => N1 p (by simpa using hp)) (updF_app (fun p hp => Nat.ne_of_lt (hnD p hp)) fun p hp => ?_) ?_
  · rcases List.mem_append.mp hp with hp | hp
    · exact (hKL p hp).2
    · rw [List.mem_singleton.mp hp]
      exact Nat.ne_of_gt hkD
  · intro h2 c2 F2 N2
    exact h h2 c2 F2 fun p hp => N2 p (List.mem_append_right _ hp)
theorem out_strs {vs : List Value} {xs : List Nat} (h : StrsAre vs (xs.map hv)) : ∀ {q : List Nat}, (∀ i ∈ q, i < xs.length) → StrsAre (q.map fun i => vs.getD i .none) ((q.map fun i => xs.getD i 0).map hv)
  | [], _ => .nil
  | i :: q, hq => by
    have hi := hq i (.head _)
    obtain ⟨t, ht⟩ := strs_at h (k := i) (by rw [List.length_map]; exact hi)
    rw [getD_map hi] at ht
    rw [List.map_cons, List.map_cons, List.map_cons, ht]
    exact .cons _ _ (out_strs h fun j hj => hq j (.tail _ hj))
theorem map_range_getD : ∀ (xs : List Nat), ((List.range xs.length).map fun i => xs.getD i 0) = xs := by
  intro xs
  apply List.ext_getElem?
  intro i
  rw [List.getElem?_map]
  by_cases h : i < xs.length
  · rw [List.getElem?_range h, List.getElem?_eq_getElem h]
    show some (xs.getD i 0) = _
    rw [List.getD_eq_getElem?_getD, List.getElem?_eq_getElem h]
    rfl
  · rw [List.getElem?_eq_none (by rw [List.length_range]; (first | lia | omega)), List.getElem?_eq_none (by (first | lia | omega))]
    rfl
theorem sorted_big {HD kf : Addr} {vs : List Value} {xs : List Nat} {n : Nat} {need : List (Addr × Obj)}
    (B : Below A₀ base outer h₀) (F : Fr h₀ L s.heap m) (X : (hd.heap_39 w.params).In h₀) (N : News h₀ L s.heap news) (T : Top p loose mean mg mb h₀) (hk : cs.kind = .function)
    (hm : (HD, listOf (List.toArray vs) n) ∈ news) (hvs : StrsAre vs (xs.map hv)) (hI : ∀ v ∈ xs, IsH v) (h2 : 2 ≤ xs.length) (h6 : xs.length ≤ 6) (hK : KeyL w need kf) (hneed : ∀ q ∈ need, q ∈ news) (hd : dp + 6 < recursionLimit) (hu : un + 70 < cLine)
    (hret : ∀ (D' : Addr) (out : List Value) (ys : List Nat) (c : Nat) (h' : Heap) (tk' : Nat), Fr h₀ L h' m → News h₀ L h' ((D', listOf (List.toArray out) c) :: news) → StrsAre out (ys.map hv) → ys.Perm xs → ys.Pairwise (· ≤ ·) → Q (.ref D') { s with heap := h', toks := tk' }) :
    wpAny (model PG w) (ktrTop dp un gd cn cs L a ccd cl outer) (call (.builtin "sorted") [.ref HD] [(Str.ofString "key", .ref kf)]) Q E s := by
  have hle := hvs.len_eq
  rw [List.length_map] at hle
  refine kat_sortedK (b := false) F N (mem_isListA N hm) (by (first | lia | omega)) (by (first | lia | omega)) (ksk_s1 _ _) (fun _ => ksk_l1 _ _) (fun _ => ksk_t1 _ _) ?_
  intro D kS e1 h' F' N' hkD hnD
  show KatKeys PG w (ktrTop dp (un + 1 + 1) gd cn cs L a ccd cl outer) h₀ L m kS (.ref kf) _ vs [] 0 { s with heap := h', toks := s.toks }
  refine keys_walk (s₀ := s) (ys := xs) B X T hk hK hneed hd (by (first | lia | omega)) hkD hnD ?_ xs [] vs [] [] 0 h' s.toks rfl hI hvs trivial (fun p hp => by cases hp) F' N'
  intro ks KL e h1 tk1 F1 N1 hKL ho
  have hkl := ho.len
  refine kas_kind (T := .type "list") (by (first | lia | omega)) (fun v hv => ?_) (by decide) (by decide) ?_
  · obtain ⟨i, hi, e⟩ := List.getElem_of_mem hv
    obtain ⟨a9, arr, q1, q2, q3⟩ := ho.at i (by (first | lia | omega))
    rw [List.getD_eq_getElem?_getD, List.getElem?_eq_getElem hi] at q1
    have q1' : ks[i] = .ref a9 := q1
    rw [← e, q1']
    have ho9 := (N1 _ (List.mem_append_left _ q2)).1
    exact show Looks _ h1 (typeOf (.ref a9)) (listOf arr 0).cls from (Looks.ld ho9).andThen .now
  · have eR : ∀ {α : Type} (l : List α), katRev false l = l := fun l => rfl
    rw [eR, eR]
    refine sort_wp (key := fun i => xs.getD i 0) (n := vs.length) (by (first | lia | omega)) (s := { s with heap := h1 }) ?_ ?_ (kas_sort vs.length) [] (chk_all (by (first | lia | omega)) (by (first | lia | omega))) (fun a b _ _ h => by cases h) tk1
    · intro i j C tk hi hj hC
      obtain ⟨a1, r1, p1, p2, p3⟩ := ho.at i (by (first | lia | omega))
      obtain ⟨a2, r2, q1, q2, q3⟩ := ho.at j (by (first | lia | omega))
      unfold kas_ask
      rw [p1, q1]
      have n1 := (N1 _ (List.mem_append_left _ p2)).1
      have n2 := (N1 _ (List.mem_append_left _ q2)).1
      refine keyLt_lists (xs := r1.toList) (ys := r2.toList) p3 q3 (by rw [Array.toArray_toList]; exact n1) (by rw [Array.toArray_toList]; exact n2) (by show un + 1 + 1 < cLine; (first | lia | omega)) ?_
      intro tk'
      rw [key_ls (hI _ (getD_mem (by (first | lia | omega)))) (hI _ (getD_mem (by (first | lia | omega))))]
      exact hC tk'
    · intro q tk hq hperm hsort
      refine fin_ok hkD hnD F1 N1 hKL ?_
      intro h2 c2 F2 N2
      have hq' : ∀ i ∈ q.toList, i < xs.length := fun i hi => by
        have := List.mem_range.mp (hperm.mem_iff.mp hi)
        (first | lia | omega)
      refine hret D _ (q.toList.map fun i => xs.getD i 0) c2 h2 tk F2 N2 (out_strs hvs hq') ?_ hsort
      have h9 := hperm.map (fun i => xs.getD i 0)
      rw [hle, map_range_getD] at h9
      exact h9
end
end Mine
end

section
open PySem PySem.W PySem.Calls PyProof.Rows in
theorem Mine.resetSortS {M : Model} {A : Around} {E : Value → Shared → Prop} {s : Shared} {Q : Bool → Shared → Prop} {v : Value} (h : wpAny M A (truthy v) Q E s) : wpAny M A (truthy v) Q E s := by
  w_top off
  k_with_none
  first | (walk1; fail) | exact h
open PySem PySem.W PySem.Calls PyProof.Rows
namespace Mine
section
variable {prog : Program} {w : World} {A : Around} {E : Value → Shared → Prop} {s : Shared} {h₀ : Heap} {L a kS : Addr} {m : Str → Option Value} {news : List (Addr × Obj)} {vs : List Value}
theorem snd_zip : ∀ (ks vs : List Value), ks.length = vs.length → ((List.toArray ks).zip (List.toArray vs)).map (·.2) = List.toArray vs := by
  intro ks vs h
  apply Array.toList_inj.mp
  rw [Array.toList_map, ksk_zip]
  induction ks generalizing vs with
  | nil => cases vs with
    | nil => rfl
    | cons v r => cases h
  | cons k ks ih => cases vs with
    | nil => cases h
    | cons v r =>
      show v :: List.map (·.2) (ks.zip r) = v :: r
      rw [show List.map (·.2) (ks.zip r) = r from ih r (by simpa using h)]
/-- the sort's body, of a list with one item at most -/
theorem rest_small {f : Value} {e1 : Nat} {P : PySem.Fin → Shared → Prop} (hk : s.heap.get? kS = some (seqObj "list" #[] 0)) (h2 : vs.length < 2)
    (h : KatKeys prog w A h₀ L m kS f (fun ks e s' => KatFin h₀ L m kS a ks e e1 vs (fun s4 => P (.done (.ret .none)) s4) s') vs [] 0 s) :
    wpAny (model prog w) A (ksk_rest a f false vs.toArray e1 (.ref kS)) P E s := by
  unfold ksk_rest
  refine wpAny_bind (wpAny_rule ?_)
  first
    | rw [List.forIn_toArray]
    | (rw [← Array.forIn_toList]; simp only [List.toList_toArray])
  refine wpAny_bind (wpAny_mono (kat_fold (n := vs.length) (by (first | lia | omega)) ?_ vs [] 0 s (by simp) hk h) ?_ fun _ _ x => x)
  · intro x ks e s1 C hz hx
    refine wpAny_bind (wpAny_attempt (wpAny_mono hx ?_ fun _ _ hF => hF.elim))
    rintro k s2 ⟨nx, g, F', N', U, c⟩
    obtain ⟨pre, post, e0, hg, x1, x2⟩ := U.split
    rw [e0] at N'
    have nk := N' (kS, seqObj "list" (List.toArray ks) e) (List.mem_append_right _ (.head _))
    have ea : (List.toArray ks).push k = List.toArray (ks ++ [k]) := by simp
    have sb := Heap.SameBut.update s2.heap kS (Obj.mapSeq (·.push k))
    obtain ⟨c2, hc2⟩ : ∃ c2, (s2.heap.update kS (Obj.mapSeq (·.push k))).get? kS = some (seqObj "list" (List.toArray (ks ++ [k])) c2) := ⟨_, by rw [← ea]; exact get?_update_seq nk.1 (·.push k)⟩
    try dsimp only
    refine wpAny_bind (listUpdate_at nk.1 rfl ?_ (by rw [List.size_toArray, sizeLine_eq]; (first | lia | omega)) (by rw [Array.size_push, List.size_toArray, sizeLine_eq]; (first | lia | omega)))
    refine wpAny_pure ⟨rfl, k, c2, hc2, c _ c2 (kas_fr F' sb nk.2.1 nk.2.2) ?_⟩
    rw [hg]
    exact news_set N' x1 x2 sb hc2
  · rintro _ s1 ⟨ks, e, hk', hl, fin⟩
    try dsimp only
    refine wpAny_bind (listItems_at hk' rfl ?_)
    unfold ksk_end
    have hz : vs.toArray.size < 2 := by rw [List.size_toArray]; exact h2
    simp only [Bool.false_eq_true, if_false, if_pos hz]
    refine wpAny_bind (wpAny_pure ?_)
    rw [StateT.run_pure]
    refine wpAny_bind (wpAny_pure ?_)
    try dsimp only
    exact kat_tail (st := SortSt.mk' general' ((List.toArray ks).zip vs.toArray) #[] 7 none) (snd_zip ks vs hl) (by (first | lia | omega)) (by (first | lia | omega)) rfl fin
theorem keyed_small {f : Value} {n : Nat} {P : PySem.Fin → Shared → Prop} (F : Fr h₀ L s.heap m) (N : News h₀ L s.heap news) (ho : s.heap.get? a = some (seqObj "list" vs.toArray n)) (haL : a ≠ L) (ha0 : h₀.get? a = none) (hna : ∀ p ∈ news, p.1 ≠ a) (h2 : vs.length < 2)
    (h : ∀ kS e1 h', Fr h₀ L h' m → News h₀ L h' ((kS, seqObj "list" #[] 0) :: (a, seqObj "list" #[] e1) :: news) → a < kS → (∀ q ∈ news, q.1 < kS) →
      KatKeys prog w A h₀ L m kS f (fun ks e s' => KatFin h₀ L m kS a ks e e1 vs (fun s4 => P (.done (.ret .none)) s4) s') vs [] 0 { s with heap := h' }) :
    wpAny (model prog w) A (ksk_tree a f false) P E s := by
  have ha : a < s.heap.objs.size := Heap.lt_size ho
  have sb := Heap.SameBut.update s.heap a (Obj.mapSeq fun _ => (#[] : Array Value))
  obtain ⟨e1, ho1⟩ : ∃ e1, (s.heap.update a (Obj.mapSeq fun _ => (#[] : Array Value))).get? a = some (seqObj "list" #[] e1) := ⟨_, get?_update_seq ho fun _ => #[]⟩
  have F1 := kas_fr F sb haL ha0
  have N1 := kas_news N sb hna
  have hz : ((s.heap.update a (Obj.mapSeq fun _ => (#[] : Array Value))).push (seqObj "tuple" vs.toArray 0)).objs.size = s.heap.objs.size + 1 := by rw [size_push', Heap.size_update]
  have hLk : L < ((s.heap.update a (Obj.mapSeq fun _ => (#[] : Array Value))).push (seqObj "tuple" vs.toArray 0)).objs.size := (F1.push _).ns.lt
  unfold ksk_tree
  refine wpAny_bind (listItems_at ho rfl ?_)
  refine wpAny_bind (listUpdate_at ho rfl ?_ (by rw [List.size_toArray, sizeLine_eq]; (first | lia | omega)) (Nat.zero_le _))
  refine wpAny_bind (seqEpoch_at ho1 rfl ?_)
  refine wpAny_bind (wpAny_newTuple ?_ (by show vs.length ≤ _; rw [sizeLine_eq]; (first | lia | omega)))
  refine wpAny_bind (wpAny_newList ?_ (Nat.zero_le _))
  refine wpAny_holding ?_
  refine rest_small (h₀ := h₀) (L := L) (m := m) (s := { s with heap := ((s.heap.update a (Obj.mapSeq fun _ => (#[] : Array Value))).push (seqObj "tuple" vs.toArray 0)).push (seqObj "list" #[] 0) }) (kS := ((s.heap.update a (Obj.mapSeq fun _ => (#[] : Array Value))).push (seqObj "tuple" vs.toArray 0)).objs.size) (Heap.get?_push_size _ rfl) h2 ?_
  refine h _ e1 _ ((F1.push _).push _) (fun p hp => ?_) (by rw [hz]; exact Nat.lt_succ_of_lt ha) (fun q hq => by rw [hz]; exact Nat.lt_succ_of_lt (Heap.lt_size (N q hq).1))
  rcases List.mem_cons.mp hp with rfl | hp
  · exact ⟨Heap.get?_push_size _ rfl, Nat.ne_of_gt hLk, Heap.get?_none_of_le (Nat.le_trans F.above (Nat.le_of_lt hLk))⟩
  rcases List.mem_cons.mp hp with rfl | hp
  · exact ⟨Heap.get?_push_of_some _ (Heap.get?_push_of_some _ ho1), haL, ha0⟩
  · exact ⟨Heap.get?_push_of_some _ (Heap.get?_push_of_some _ (N1 p hp).1), (N1 p hp).2⟩
theorem sorted_smallK {l kf : Addr} {Q : Value → Shared → Prop} (F : Fr h₀ L s.heap m) (N : News h₀ L s.heap news) (hl : s.heap.IsList l vs.toArray) (h2 : vs.length < 2)
    (h : ∀ D kS e1 h', Fr h₀ L h' m → News h₀ L h' ((kS, seqObj "list" #[] 0) :: (D, seqObj "list" #[] e1) :: news) → D < kS → (∀ q ∈ news, q.1 < D) →
      KatKeys prog w A.in1.in1 h₀ L m kS (.ref kf) (fun ks e s' => KatFin h₀ L m kS D ks e e1 vs (fun s4 => Q (.ref D) s4) s') vs [] 0 { s with heap := h' }) :
    wpAny (model prog w) A (call (.builtin "sorted") [.ref l] [(Str.ofString "key", .ref kf)]) Q E s := by
  refine call_function_entry_kw kind_sorted plain_sorted entry_sorted (ksk_s1 _ _) ?_
  unfold Builtin.«sorted»
  refine wpAny_bind (m := checkCount "sorted" 1 1 _) (wpAny_pure ?_)
  refine wpAny_bind (collect_list hl ?_ (by rw [sizeLine_eq]; (first | lia | omega)))
  refine wpAny_bind (wpAny_newList ?_ (by rw [sizeLine_eq]; (first | lia | omega)))
  have hL : L < s.heap.objs.size := F.ns.lt
  obtain ⟨hp, hhp⟩ : ∃ hp, (s.heap.push (seqObj "list" #[] 0)).update s.heap.objs.size (Obj.mapSeq (· ++ vs.toArray)) = hp := ⟨_, rfl⟩
  have hz : hp.objs.size = s.heap.objs.size + 1 := by rw [← hhp, Heap.size_update, size_push']
  have keep0 : ∀ b o, s.heap.get? b = some o → hp.get? b = some o := fun b o q => by
    have hlt : b < s.heap.objs.size := Heap.lt_size q
    rw [← hhp, Heap.get?_update_ne _ _ _ _ (Nat.ne_of_lt hlt), Heap.get?_push_ne _ _ _ (Nat.ne_of_lt hlt)]
    exact q
  have keep : ∀ b o, s.heap.get? b = some o → (hp.push (seqObj "list" vs.toArray 0)).get? b = some o := fun b o q => Heap.get?_push_of_some _ (keep0 b o q)
  have hoL : (hp.push (seqObj "list" vs.toArray 0)).get? (s.heap.objs.size + 1) = some (seqObj "list" vs.toArray 0) := by
    rw [← hz]; exact Heap.get?_push_size _ rfl
  show wpAny _ _ _ _ _ { s with heap := ((s.heap.push (seqObj "list" #[] 0)).update s.heap.objs.size (Obj.mapSeq (· ++ vs.toArray))).push (seqObj "list" vs.toArray 0) }
  rw [hhp, hz]
  refine wpAny_bind (wpAny_holding (wpAny_call_entry_kw slot_list_sort ⟨_, hoL, rfl⟩ entry_list_sort ?body (ksk_l1 _ _)))
  case body =>
    show wpAny (model prog w) A.in1.in1 (Builtin.«list.sort» ⟨[.ref (s.heap.objs.size + 1)], [(Str.ofString "key", .ref kf)]⟩) _ _ _
    rw [ksk_t1]
    refine keyed_small (s := { s with heap := hp.push (seqObj "list" vs.toArray 0) }) (F.kept keep) (N.grown keep) hoL (Nat.ne_of_gt (Nat.lt_succ_of_lt hL)) (Heap.get?_none_of_le (Nat.le_trans F.above (Nat.le_succ_of_le (Nat.le_of_lt hL))))
      (fun p hp => Nat.ne_of_lt (Nat.lt_succ_of_lt (Heap.lt_size (N p hp).1))) h2 ?_
    intro kS e1 h' F' N' l0 l1
    refine kat_keys_mono (h _ kS e1 h' F' N' l0 fun q hq => Nat.lt_succ_of_lt (Heap.lt_size (N q hq).1)) ?_
    intro ks e s' _ hd
    exact hd.mono fun s4 hq => ⟨_, rfl, wpAny_pure ⟨_, rfl, hq⟩⟩
end
section
variable {w : World} {p : Program} {loose : List Str} {mean : ExcName → Option Value} {mg mb : Str → Option Value} {news : List (Addr × Obj)}
    {dp un : Nat} {gd : Option (List Code)} {cn : Str} {cs : Scope} {a : Addr} {ccd : Value} {cl : List (Str × Addr)} {outer : List Env} {A₀ : Around} {base h₀ : Heap} {L : Addr} {m : Str → Option Value} {s : Shared} {Q E : Value → Shared → Prop}

/-- sorted by the labels from the last one on -/
theorem sorted_hv {HD kf : Addr} {vs : List Value} {xs : List Nat} {n : Nat} {need : List (Addr × Obj)}
    (B : Below A₀ base outer h₀) (F : Fr h₀ L s.heap m) (X : (hd.heap_39 w.params).In h₀) (N : News h₀ L s.heap news) (T : Top p loose mean mg mb h₀) (hk : cs.kind = .function)
    (hm : (HD, listOf (List.toArray vs) n) ∈ news) (hvs : StrsAre vs (xs.map hv)) (hI : ∀ v ∈ xs, IsH v) (h6 : xs.length ≤ 6) (hK : KeyL w need kf) (hneed : ∀ q ∈ need, q ∈ news) (hd : dp + 6 < recursionLimit) (hu : un + 70 < cLine)
    (hret : ∀ (D' : Addr) (out : List Value) (ys : List Nat) (c : Nat) (h' : Heap) (tk' : Nat), Fr h₀ L h' m → News h₀ L h' ((D', listOf (List.toArray out) c) :: news) → StrsAre out (ys.map hv) → ys.Perm xs → ys.Pairwise (· ≤ ·) → Q (.ref D') { s with heap := h', toks := tk' }) :
    wpAny (model PG w) (ktrTop dp un gd cn cs L a ccd cl outer) (call (.builtin "sorted") [.ref HD] [(Str.ofString "key", .ref kf)]) Q E s := by
  rcases Nat.lt_or_ge xs.length 2 with h2 | h2
  · have hle := hvs.len_eq
    rw [List.length_map] at hle
    refine sorted_smallK F N (mem_isListA N hm) (by (first | lia | omega)) ?_
    intro D kS e1 h' F' N' hkD hnD
    show KatKeys PG w (ktrTop dp (un + 1 + 1) gd cn cs L a ccd cl outer) h₀ L m kS (.ref kf) _ vs [] 0 { s with heap := h', toks := s.toks }
    refine keys_walk (s₀ := s) (ys := xs) B X T hk hK hneed hd (by (first | lia | omega)) hkD hnD ?_ xs [] vs [] [] 0 h' s.toks rfl hI hvs trivial (fun p hp => by cases hp) F' N'
    intro ks KL e h1 tk1 F1 N1 hKL ho
    refine fin_ok (s := { s with heap := h1, toks := tk1 }) hkD hnD F1 N1 hKL ?_
    intro h3 c3 F3 N3
    refine hret D vs xs c3 h3 tk1 F3 N3 hvs (List.Perm.refl _) ?_
    match xs, h2 with
    | [], _ => exact .nil
    | [x], _ => exact List.pairwise_singleton _ _
  · exact sorted_big B F X N T hk hm hvs hI h2 h6 hK hneed hd hu hret
end
end Mine
end

section
open PySem PySem.W PySem.Calls PyProof.Rows in
theorem Mine.resetCellU {M : Model} {A : Around} {E : Value → Shared → Prop} {s : Shared} {Q : Bool → Shared → Prop} {v : Value} (h : wpAny M A (truthy v) Q E s) : wpAny M A (truthy v) Q E s := by
  w_top off
  k_with_none
  first | (walk1; fail) | exact h
open PySem PySem.W PySem.Calls PyProof.Rows
namespace Mine
section
variable {M : Model} {A : Around} {E : Value → Shared → Prop} {s : Shared} {env : Env} {h₀ : Heap} {m : Str → Option Value} {news : List (Addr × Obj)} {g : Obj → List (Addr × Obj)}
/-- a store into a cell of the ledger -/
theorem store_cellU {x : Str} {c : Addr} {o : Obj} {v₀ : Option Value} {v : Value} {Q : Unit → Shared → Prop} (F : Fr h₀ env.locals s.heap m) (N : News h₀ env.locals s.heap news) (U : UpdF c o news g) (hd : o.data = .cell v₀)
    (hk : env.scope.kind = .function) (hl : env.kindOf x = some .cell) (hc : env.cells.lookup x = some c)
    (h : ∀ h' o', o'.data = .cell (some v) → Fr h₀ env.locals h' m → News h₀ env.locals h' (g o') → Q () { s with heap := h' }) : wpAny M A (storeName env x v) Q E s := by
  obtain ⟨pre, post, e1, e2, n1, n2⟩ := U.split
  have hm : (c, o) ∈ news := e1 ▸ List.mem_append.mpr (.inr (.head _))
  have z := N _ hm
  refine wpAny_storeName_cell hk hl hc ⟨o, z.1, hd⟩ fun h' hc' hs => ?_
  obtain ⟨o', ho', hd'⟩ := hc'
  refine h h' o' hd' (F.change hs z.2.1 z.2.2) (e2 o' ▸ fun p hp => ?_)
  rw [e1] at N
  rcases List.mem_append.mp hp with hp | hp
  · have y := N p (List.mem_append_left _ hp)
    exact ⟨hs.extBut _ _ (n1 p hp) y.1, y.2⟩
  rcases List.mem_cons.mp hp with rfl | hp
  · exact ⟨ho', z.2⟩
  · have y := N p (List.mem_append_right _ (.tail _ hp))
    exact ⟨hs.extBut _ _ (n2 p hp) y.1, y.2⟩
end
end Mine
end

section
open PySem PySem.W PySem.Calls PyProof.Rows in
theorem Mine.resetSx {M : Model} {A : Around} {E : Value → Shared → Prop} {s : Shared} {Q : Bool → Shared → Prop} {v : Value} (h : wpAny M A (truthy v) Q E s) : wpAny M A (truthy v) Q E s := by
  w_top off
  k_with_none
  first | (walk1; fail) | exact h
open PySem PySem.W PySem.Calls PyProof.Rows
namespace Mine
section
variable {w : World} {p : Program} {loose : List Str} {mean : ExcName → Option Value} {mg mb : Str → Option Value} {news : List (Addr × Obj)}
    {dp un : Nat} {gd : Option (List Code)} {cn : Str} {cs : Scope} {a : Addr} {ccd : Value} {cl : List (Str × Addr)} {outer : List Env} {A₀ : Around} {base h₀ : Heap} {L : Addr} {m : Str → Option Value} {s : Shared} {Q E : Value → Shared → Prop}

set_option maxHeartbeats 4000000 in
theorem strxfrm_call {x : Str} {t : Tok}
    (B : Below A₀ base outer h₀) (F : Fr h₀ L s.heap m) (X : (hd.heap_39 w.params).In h₀) (N : News h₀ L s.heap news) (T : Top p loose mean mg mb h₀) (hk : cs.kind = .function)
     (hd : dp + 2 < recursionLimit) (hu : un + 16 < cLine)
    (hret : ∀ (h' : Heap) (tk' : Nat), Fr h₀ L h' m → News h₀ L h' news → Q (.str x t) { s with heap := h', toks := tk' }) :
    wpAny (model PG w) (ktrTop dp un gd cn cs L a ccd cl outer) (call (.ref 91) [.str x t]) Q E s := by

  refine wpAny_call ?_
  k_dflt cell_enter
  k_steps
  all_goals exact hret _ _ (by k_asm) (by k_asm)
end
end Mine
end

section
open PySem PySem.W PySem.Calls PyProof.Rows in
theorem Mine.resetRun4 {M : Model} {A : Around} {E : Value → Shared → Prop} {s : Shared} {Q : Bool → Shared → Prop} {v : Value} (h : wpAny M A (truthy v) Q E s) : wpAny M A (truthy v) Q E s := by
  w_top off
  k_with_none
  first | (walk1; fail) | exact h
open PySem PySem.W PySem.Calls PyProof.Rows
namespace Mine
local macro_rules | `(tactic| walk_at $s:str) => `(tactic| k_extra $s)
theorem free_name {M : Model} {A : Around} {E : Value → Shared → Prop} {s : Shared} {h₀ : Heap} {L : Addr} {news : List (Addr × Obj)} {env : Env} {x : Str} {pos : Pos} {c : Addr} {o : Obj} {v : Value} {Q : Value → Shared → Prop} (N : News h₀ L s.heap news) (hm : (c, o) ∈ news) (hd : o.data = .cell (some v)) (h : Q v s)
    (hk : env.scope.kind = .function) (hl : env.kindOf x = some .free) (hc : env.cells.lookup x = some c) (hb : (x == ("__debug__" : Str)) = false) (hn : (x == ("__classdict__" : Str)) = false) : wpAny M A (eval (.Name x pos) env) Q E s :=
  wpAny_Name (wpAny_loadName_free hk hl hc ⟨o, (N _ hm).1, hd⟩ h hn) hb
/-- the state of the loop -/
structure RunK (w : World) (OF OC LD DT RW HD CL : Addr) (base' : List (Addr × Obj)) (i : Nat) (m : Str → Option Value) (g : Array GenState) (oL oT : Obj) (kL kT : List (Str × Value)) (vsR vsH : List Value) (hs rs : List Nat) (rest : List (Addr × Obj)) : Prop where
  gens : AllBare g
  held : m (Str.ofString "held") = some (.ref HD)
  row : m (Str.ofString "row") = some (.ref RW)
  ladders : m (Str.ofString "ladders") = some (.ref LD)
  order : m (Str.ofString "order") = some (.ref OF)
  ring : ∃ t, m (Str.ofString "ring") = some (.int (ringOf rs) t)
  sT : oT.IsDictOf (strKind PG w) kT
  sL : oL.IsDictOf (strKind PG w) kL
  vH : StrsAre vsH (hs.map hv)
  vR : StrsAre vsR (rs.map hv)
  perm : rs.Perm hs
  sorted : rs.Pairwise (· ≤ ·)
  len : hs.length ≤ i
  kTl : kT.length ≤ i
  kLl : kL.length ≤ i
  tvs : ∀ v ∈ hs, ∃ t, valueAt kT (hv v) = some (.str (tv (hv v)) t)
  tl : TL kL (· ∈ hs) base' [OF, OC, LD, DT, RW, HD, CL] rest
noncomputable def RunJ (w : World) (OF OC LD DT RW HD CL : Addr) (oF oc oC : Obj) (base' : List (Addr × Obj)) (i : Nat) (m : Str → Option Value) (nx : List (Addr × Obj)) (g : Array GenState) : Prop :=
  ∃ oL oT kL kT vsR cR vsH cH hs rs rest, nx = (OF, oF) :: (OC, oc) :: (LD, oL) :: (DT, oT) :: (RW, listOf (List.toArray vsR) cR) :: (HD, listOf (List.toArray vsH) cH) :: (CL, oC) :: rest ∧ RunK w OF OC LD DT RW HD CL base' i m g oL oT kL kT vsR vsH hs rs rest

noncomputable def Stop (p : Prop) : Prop := p
theorem stop_in {p : Prop} (h : Stop p) : p := h
theorem news_drop2 {h₀ h : Heap} {L : Addr} {x y : Addr × Obj} {nx : List (Addr × Obj)} (N : News h₀ L h (x :: y :: nx)) : News h₀ L h (x :: nx) := fun p hp => N p (by
  rcases List.mem_cons.mp hp with rfl | hp
  · exact .head _
  · exact .tail _ (.tail _ hp))
theorem strs_rev : ∀ {vs : List Value} {xs : List Str}, StrsAre vs xs → StrsAre vs.reverse xs.reverse
  | _, _, .nil => .nil
  | _, _, .cons x t h => by
    rw [List.reverse_cons, List.reverse_cons]
    exact (strs_rev h).append' (.cons x t .nil)
theorem sorted_eq : ∀ {a b : List Nat}, a.Perm b → a.Pairwise (· ≤ ·) → b.Pairwise (· ≤ ·) → a = b
  | [], b, h, _, _ => (List.nil_perm.mp h).symm
  | x :: a, [], h, _, _ => absurd h.symm (List.not_perm_nil_cons _ _ )
  | x :: a, y :: b, h, ha, hb => by
    have h1 : x ∈ y :: b := h.mem_iff.mp (.head _)
    have h2 : y ∈ x :: a := h.mem_iff.mpr (.head _)
    have e : x = y := by
      rcases List.mem_cons.mp h1 with e | h1
      · exact e
      rcases List.mem_cons.mp h2 with e | h2
      · exact e.symm
      · have := (List.pairwise_cons.mp ha).1 y h2
        have := (List.pairwise_cons.mp hb).1 x h1
        (first | lia | omega)
    subst e
    rw [sorted_eq h.cons_inv (List.pairwise_cons.mp ha).2 (List.pairwise_cons.mp hb).2]
/-- the names of a turn -/
structure NM (m : Str → Option Value) (OF LD RW HD : Addr) (r : Int) (nk : Int) (tn : Tok) : Prop where
  held : m (Str.ofString "held") = some (.ref HD)
  row : m (Str.ofString "row") = some (.ref RW)
  ladders : m (Str.ofString "ladders") = some (.ref LD)
  order : m (Str.ofString "order") = some (.ref OF)
  ring : ∃ t, m (Str.ofString "ring") = some (.int r t)
  number : m (Str.ofString "number") = some (.int nk tn)
section
local macro_rules | `(tactic| k_updF) => `(tactic| assumption)
variable {w : World} {p : Program} {loose : List Str} {mean : ExcName → Option Value} {mg mb : Str → Option Value} {news : List (Addr × Obj)}
    {dp un : Nat} {gd : Option (List Code)} {cn : Str} {cs : Scope} {a : Addr} {ccd : Value} {cl : List (Str × Addr)} {outer : List Env} {A₀ : Around} {base h₀ : Heap} {L : Addr} {m : Str → Option Value} {s : Shared} {Q E : Value → Shared → Prop}


set_option maxHeartbeats 4000000 in
theorem law_run_call {D : Addr} {vs : List Value} {ns : List Int} {nc : Nat}
    (B : Below A₀ base outer h₀) (F : Fr h₀ L s.heap m) (X : (hd.heap_39 w.params).In h₀) (N : News h₀ L s.heap news) (T : Top p loose mean mg mb h₀) (hk : cs.kind = .function)
    (C1 : CodeHd h₀ 130 126) (C2 : CodeHd h₀ 142 138) (hT1 : (126, tabObj #[]) ∈ news) (hT2 : (138, tabObj #[]) ∈ news) {gU : Obj → List (Addr × Obj)} (hU : UpdF 138 (tabObj #[]) news gU) (hD : (D, listOf vs.toArray nc) ∈ news) (hnd : (news.map (·.1)).Nodup) (hvI : IntsAre vs ns) (hl : ns.length ≤ 6) (hbare : AllBare s.gens) (hd : dp + 20 < recursionLimit) (hu : un + 200 < cLine)
    (hret : ∀ (h' : Heap) (tk' : Nat) (g' : Array GenState), Fr h₀ L h' m → AllBare g' → GrownAt 126 h' → GrownAt 138 h' → Q (.bool true) { s with heap := h', toks := tk', gens := g' }) :
    wpS (model PG w) (ktrTop dp un gd cn cs L a ccd cl outer) (call (.ref 143) [.ref D]) Q E s := by
  k_with_none
  (k_with "eval Name" => (k_here; k_dflt (refine' free_name ?z1N ?z1m ?z1d ?_ ?z1a ?z1b ?z1c ?z1e ?z1f; (case z1a => rfl); (case z1b => rfl); (case z1c => rfl); (case z1e => decide); (case z1f => decide); (case z1N => k_asm); (case z1m => assumption); (case z1d => assumption); k_whole)))
  (k_with "subscriptTail" => (k_here; (with_reducible show wpAny _ _ (subscriptTail _ _ (Value.ref _) (Value.str _ _)) _ _ _); k_dflt (refine' dictItem ?z1N ?z1hm ?z1ho ?z1hv ?_; (case z1N => k_asm); (case z1hm => (first | assumption | exact List.Mem.head _ | exact InU.get (by assumption) | exact List.Mem.tail _ (List.Mem.head _) | exact List.Mem.tail _ (by assumption) | exact List.Mem.tail _ (InU.get (by assumption)) | exact List.Mem.tail _ (List.Mem.tail _ (List.Mem.head _)) | exact List.Mem.tail _ (List.Mem.tail _ (by assumption)) | exact List.Mem.tail _ (List.Mem.tail _ (InU.get (by assumption))) | exact List.Mem.tail _ (List.Mem.tail _ (List.Mem.tail _ (List.Mem.head _))) | exact List.Mem.tail _ (List.Mem.tail _ (List.Mem.tail _ (by assumption))) | exact List.Mem.tail _ (List.Mem.tail _ (List.Mem.tail _ (InU.get (by assumption)))) | exact List.Mem.tail _ (List.Mem.tail _ (List.Mem.tail _ (List.Mem.tail _ (List.Mem.head _)))) | exact List.Mem.tail _ (List.Mem.tail _ (List.Mem.tail _ (List.Mem.tail _ (by assumption)))) | exact List.Mem.tail _ (List.Mem.tail _ (List.Mem.tail _ (List.Mem.tail _ (InU.get (by assumption))))) | exact List.Mem.tail _ (List.Mem.tail _ (List.Mem.tail _ (List.Mem.tail _ (List.Mem.tail _ (List.Mem.head _))))) | exact List.Mem.tail _ (List.Mem.tail _ (List.Mem.tail _ (List.Mem.tail _ (List.Mem.tail _ (by assumption))))) | exact List.Mem.tail _ (List.Mem.tail _ (List.Mem.tail _ (List.Mem.tail _ (List.Mem.tail _ (InU.get (by assumption)))))) | exact List.Mem.tail _ (List.Mem.tail _ (List.Mem.tail _ (List.Mem.tail _ (List.Mem.tail _ (List.Mem.tail _ (List.Mem.head _)))))) | exact List.Mem.tail _ (List.Mem.tail _ (List.Mem.tail _ (List.Mem.tail _ (List.Mem.tail _ (List.Mem.tail _ (by assumption)))))) | exact List.Mem.tail _ (List.Mem.tail _ (List.Mem.tail _ (List.Mem.tail _ (List.Mem.tail _ (List.Mem.tail _ (InU.get (by assumption))))))) | exact List.Mem.tail _ (List.Mem.tail _ (List.Mem.tail _ (List.Mem.tail _ (List.Mem.tail _ (List.Mem.tail _ (List.Mem.tail _ (List.Mem.head _))))))) | exact List.Mem.tail _ (List.Mem.tail _ (List.Mem.tail _ (List.Mem.tail _ (List.Mem.tail _ (List.Mem.tail _ (List.Mem.tail _ (by assumption))))))) | exact List.Mem.tail _ (List.Mem.tail _ (List.Mem.tail _ (List.Mem.tail _ (List.Mem.tail _ (List.Mem.tail _ (List.Mem.tail _ (InU.get (by assumption)))))))) | exact List.Mem.tail _ (List.Mem.tail _ (List.Mem.tail _ (List.Mem.tail _ (List.Mem.tail _ (List.Mem.tail _ (List.Mem.tail _ (List.Mem.tail _ (List.Mem.head _)))))))) | exact List.Mem.tail _ (List.Mem.tail _ (List.Mem.tail _ (List.Mem.tail _ (List.Mem.tail _ (List.Mem.tail _ (List.Mem.tail _ (List.Mem.tail _ (by assumption)))))))) | exact List.Mem.tail _ (List.Mem.tail _ (List.Mem.tail _ (List.Mem.tail _ (List.Mem.tail _ (List.Mem.tail _ (List.Mem.tail _ (List.Mem.tail _ (InU.get (by assumption))))))))))); (case z1ho => assumption); (case z1hv => assumption); k_whole)))
  (k_with "exec For Name Name cons nil" => (k_here; k_dflt (refine wpAny_For ?_)))
  (k_with "exec For Name Call cons nil" => (k_here; k_dflt (refine wpAny_For ?_)))
  (k_with "call ref" => (k_here; k_dflt (refine' strxfrm_call ?z2k1 ?z2k2 ?z2k3 ?z2k4 ?z2k5 ?z2kK  ?z2kd ?z2ku ?_; (case z2k1 => k_asm); (case z2k2 => k_asm); (case z2k3 => k_asm); (case z2k4 => k_asm); (case z2k5 => k_asm); (case z2kK => first | exact rfl | assumption);  (case z2kd => ktr_room); (case z2ku => ktr_units)); intro zzh9 zztk9 zzF9 zzN9; (try dsimp only); (try k_fold)))
  (k_with "compareOp NotEq ref ref" => (k_here; k_dflt (refine' ne_oneF ?z3N ?z3m1 ?z3m2 ?z3v1 ?z3o1 ?z3u ?_; (case z3N => k_asm); (case z3m1 => exact List.Mem.tail _ (List.Mem.head _)); (case z3m2 => exact List.Mem.head _); (case z3v1 => assumption); (case z3o1 => assumption); (case z3u => ktr_units); k_whole)))
  (k_with "compareOp NotEq ref ref" => (k_here; k_dflt (refine' ne_nilS ?z4N ?z4m1 ?z4m2 ?z4v1 ?z4o1 ?z4u ?_; (case z4N => k_asm); (case z4m1 => first | exact List.Mem.tail _ (List.Mem.tail _ (List.Mem.tail _ (List.Mem.tail _ (List.Mem.tail _ (List.Mem.tail _ (List.Mem.tail _ (List.Mem.head _))))))) | exact List.Mem.tail _ (List.Mem.tail _ (List.Mem.tail _ (List.Mem.tail _ (List.Mem.tail _ (List.Mem.tail _ (List.Mem.head _))))))); (case z4m2 => exact List.Mem.head _); (case z4v1 => assumption); (case z4o1 => assumption); (case z4u => ktr_units); k_whole)))
  (k_with "call builtin:len" => (k_here; (with_reducible show wpAny _ _ (call (Value.builtin "len") [Value.ref _]) _ _ _); k_dflt (refine' len_hv ?z5N ?z5hm ?z5hi ?z5hf ?_; (case z5N => k_asm); (case z5hm => first | exact List.Mem.tail _ (List.Mem.tail _ (List.Mem.tail _ (List.Mem.tail _ (List.Mem.tail _ (List.Mem.tail _ (List.Mem.head _)))))) | exact List.Mem.tail _ (List.Mem.tail _ (List.Mem.tail _ (List.Mem.tail _ (List.Mem.tail _ (List.Mem.head _)))))); (case z5hi => assumption); (case z5hf => (first | lia | omega)); k_whole); intro zzt9 zztk9))
  (k_with "call ref" => (k_here; k_dflt (refine' KeyOk.use (by assumption) ?z6k1 ?z6k2 ?z6k3 ?z6k4 ?z6k5 ?z6kK ?z6kP ?z6kd ?z6ku ?_; (case z6k1 => k_asm); (case z6k2 => k_asm); (case z6k3 => k_asm); (case z6k4 => k_asm); (case z6k5 => k_asm); (case z6kK => first | exact rfl | assumption); (case z6kP => assumption); (case z6kd => ktr_room); (case z6ku => ktr_units)); intro zzt9 zzh9 zztk9 zzF9 zzN9; (try dsimp only); (try k_fold)))
  (k_with "callWith ref" => (k_here; k_dflt (refine' callWith_F ?k1 ?_; (case k1 => exact FnAt.of (by k_asm) (by assumption)); k_whole)))
  (k_with "And" => ((with_reducible show FnAt _ _ ∧ _); refine ⟨FnAt.of (by k_asm) (by assumption), ?_⟩; try dsimp only [List.nil_append, List.cons_append]))
  (k_with "compareOp NotEq ref ref" => (k_here; k_dflt (refine' ne_nilB ?z7N ?z7m1 ?z7m2 ?z7v1 ?z7o1 ?z7hb ?z7u ?_; (case z7N => k_asm); (case z7m1 => first | exact List.Mem.tail _ (List.Mem.tail _ (List.Mem.tail _ (List.Mem.tail _ (List.Mem.tail _ (List.Mem.tail _ (List.Mem.tail _ (List.Mem.head _))))))) | exact List.Mem.tail _ (List.Mem.tail _ (List.Mem.tail _ (List.Mem.tail _ (List.Mem.tail _ (List.Mem.tail _ (List.Mem.head _))))))); (case z7m2 => exact List.Mem.head _); (case z7v1 => assumption); (case z7o1 => assumption); (case z7hb => assumption); (case z7u => ktr_units); k_whole)))
  (k_with "subscriptTail" => (k_here; (with_reducible show wpAny _ _ (subscriptTail _ _ (Value.ref _) (Value.int _ _)) _ _ _); k_dflt (refine' item_any (mem_isListA ?z8N ?z8hm) ?z8hi ?z8hk ?z8h100 ?_; (case z8N => k_asm); (case z8hm => exact List.Mem.tail _ (List.Mem.tail _ (List.Mem.tail _ (List.Mem.tail _ (List.Mem.tail _ (List.Mem.head _)))))); (case z8hi => assumption); (case z8hk => assumption); (case z8h100 => (first | lia | omega)); k_whole); intro zzt9))
  (k_with "call ref" => (k_here; k_dflt (refine' bisect_left_hv ?z9k1 ?z9k2 ?z9k3 ?z9k4 ?z9k5 ?z9kK ?z9p0 ?z9p1 ?z9p2 ?z9p3 ?z9p4 ?z9p5 ?z9p6 ?z9kd ?z9ku ?_; (case z9k1 => k_asm); (case z9k2 => k_asm); (case z9k3 => k_asm); (case z9k4 => k_asm); (case z9k5 => k_asm); (case z9kK => first | exact rfl | assumption); (case z9p0 => first | exact List.Mem.tail _ (List.Mem.tail _ (List.Mem.tail _ (List.Mem.tail _ (List.Mem.tail _ (List.Mem.head _)))))); (case z9p1 => assumption); (case z9p2 => assumption); (case z9p3 => assumption); (case z9p4 => assumption); (case z9p5 => assumption); (case z9p6 => (first | lia | omega)); (case z9kd => ktr_room); (case z9ku => ktr_units)); intro zzt9 zzh9 zztk9 zzF9 zzN9; (try dsimp only); (try k_fold)))
  (k_with "call ref" => (k_here; k_dflt (refine' bisect_right_hv ?z10k1 ?z10k2 ?z10k3 ?z10k4 ?z10k5 ?z10kK ?z10p0 ?z10p1 ?z10p2 ?z10p3 ?z10p4 ?z10p5 ?z10p6 ?z10kd ?z10ku ?_; (case z10k1 => k_asm); (case z10k2 => k_asm); (case z10k3 => k_asm); (case z10k4 => k_asm); (case z10k5 => k_asm); (case z10kK => first | exact rfl | assumption); (case z10p0 => first | exact List.Mem.tail _ (List.Mem.tail _ (List.Mem.tail _ (List.Mem.tail _ (List.Mem.tail _ (List.Mem.head _)))))); (case z10p1 => assumption); (case z10p2 => assumption); (case z10p3 => assumption); (case z10p4 => assumption); (case z10p5 => assumption); (case z10p6 => (first | lia | omega)); (case z10kd => ktr_room); (case z10ku => ktr_units)); intro zzt9 zzh9 zztk9 zzF9 zzN9; (try dsimp only); (try k_fold)))
  (k_with "call ref" => (k_here; k_dflt (refine' insort_hv ?z11k1 ?z11k2 ?z11k3 ?z11k4 ?z11k5 ?z11kK ?z11p0 ?z11p1 ?z11p2 ?z11p3 ?z11p4 ?z11p5 ?z11p6 ?z11p7 ?z11kd ?z11ku ?_; (case z11k1 => k_asm); (case z11k2 => k_asm); (case z11k3 => k_asm); (case z11k4 => k_asm); (case z11k5 => k_asm); (case z11kK => first | exact rfl | assumption); (case z11p0 => assumption); (case z11p1 => assumption); (case z11p2 => assumption); (case z11p3 => assumption); (case z11p4 => assumption); (case z11p5 => assumption); (case z11p6 => (first | lia | omega)); (case z11p7 => assumption); (case z11kd => ktr_room); (case z11ku => ktr_units)); intro vsI hI tkI FI NI hvsI; (try dsimp only at NI); (try dsimp only); (try k_fold)))
  (k_with "call ref" => (k_here; k_dflt (refine' host_hv ?z12k1 ?z12k2 ?z12k3 ?z12k4 ?z12k5 ?z12kK ?z12p0 ?z12p1 ?z12kd ?z12ku ?_; (case z12k1 => k_asm); (case z12k2 => k_asm); (case z12k3 => k_asm); (case z12k4 => k_asm); (case z12k5 => k_asm); (case z12kK => first | exact rfl | assumption); (case z12p0 => assumption); (case z12p1 => assumption); (case z12kd => ktr_room); (case z12ku => ktr_units)); intro hst th h9 tk9 hIs F9 N9; (try dsimp only); (try k_fold)))
  (k_with "call ref" => (k_here; k_dflt (refine' ladder_hv ?z13k1 ?z13k2 ?z13k3 ?z13k4 ?z13k5 ?z13kK ?z13p0 ?z13kd ?z13ku ?_; (case z13k1 => k_asm); (case z13k2 => k_asm); (case z13k3 => k_asm); (case z13k4 => k_asm); (case z13k5 => k_asm); (case z13kK => first | exact rfl | assumption); (case z13p0 => assumption); (case z13kd => ktr_room); (case z13ku => ktr_units)); intro DL vsL nL h9 tk9 F9 N9 hvsL hltL; (try dsimp only); (try k_fold)))
  (k_with "call ref" => (k_here; k_dflt (refine' net_hv ?z14k1 ?z14k2 ?z14k3 ?z14k4 ?z14k5 ?z14kK ?z14p0 ?z14p1 ?z14p2 ?z14p3 ?z14kd ?z14ku ?_; (case z14k1 => k_asm); (case z14k2 => k_asm); (case z14k3 => k_asm); (case z14k4 => k_asm); (case z14k5 => k_asm); (case z14kK => first | exact rfl | assumption); (case z14p0 => first | exact List.Mem.tail _ (List.Mem.tail _ (List.Mem.tail _ (List.Mem.tail _ (List.Mem.tail _ (List.Mem.tail _ (List.Mem.head _))))))); (case z14p1 => assumption); (case z14p2 => assumption); (case z14p3 => (first | lia | omega)); (case z14kd => ktr_room); (case z14ku => ktr_units)); intro zzt9 zzh9 zztk9 zzF9 zzN9; (try dsimp only); (try k_fold)))
  (k_with "call ref" => (k_here; k_dflt (refine' links_tab ?z15k1 ?z15k2 ?z15k3 ?z15k4 ?z15k5 ?z15kK ?z15p0 ?z15p1 ?z15p2 ?z15p3 ?z15p4 ?z15p5 ?z15kd ?z15ku ?_; (case z15k1 => k_asm); (case z15k2 => k_asm); (case z15k3 => k_asm); (case z15k4 => k_asm); (case z15k5 => k_asm); (case z15kK => first | exact rfl | assumption); (case z15p0 => assumption); (case z15p1 => assumption); (case z15p2 => exact List.Mem.tail _ (List.Mem.tail _ (List.Mem.tail _ (List.Mem.head _)))); (case z15p3 => assumption); (case z15p4 => assumption); (case z15p5 => assumption); (case z15kd => ktr_room); (case z15ku => ktr_units)); intro zzt9 zzh9 zztk9 zzrest9 zzF9 zzN9 zzH9; (try dsimp only at zzN9 zzH9); (try dsimp only); (try k_fold)))
  (k_with "compareOp Eq ref ref" => (k_here; refine stop_in ?_))
  (k_with "call builtin:sorted" => (k_here; refine stop_in ?_))

  refine wpS_call ?_
  k_dflt (refine' code_defCS ?k1 ?k2 ?k3 ?k4 ?k5 ?kA ?kF ?kK ?k6 ?k7 ?k8 ?k9 ?kB ?kD ?_ ?c2 ?c3 ?c4; (case kA => exact rfl); (case kF => exact rfl); (case kK => assumption); (case k1 => k_asm); (case k2 => k_asm); (case k3 => k_asm); (case k4 => k_asm); (case k5 => k_asm); (case k6 => k_is); (case k7 => k_is); (case k8 => ktr_room); (case k9 => first | exact BindsTo.of_eq rfl | exact kp_binds (by k_in) (fun _ => rfl)); (case kB => exact rfl); (case kD => decide +kernel); (case c2 => exact rfl); (case c3 => exact rfl); (case c4 => exact rfl); k_whole; intro g' L' h' tk' cells' FG' F' N' Y' B' X' T' l1; (try k_lt l1); k_cells Y'; (try simp only [List.cons_append, List.nil_append] at N'); (try dsimp only); (try k_lift B'); (try k_fold))
  refine execsA ?_
  k_steps
  refine execsA ?_
  k_steps
  refine execsA ?_
  k_steps
  rename_i oC dC HD hh1 lt1 hh2 RW hh3 lt2 hh4 DT hh5 oT kF kN loT hsT _ _ _ ltT
  refine store_cellU kF kN (.tail (Nat.ne_of_gt ltT.2.2.1) (.tail (Nat.ne_of_gt lt2.2.1) (.tail (Nat.ne_of_gt lt1.1) (.head fun p hp => Nat.ne_of_lt (Nat.lt_succ_of_lt (l1 p hp)))))) dC rfl rfl rfl ?_
  intro h6 oC6 dC6 F6 N6
  dsimp only at N6 F6
  clear kF kN dC
  k_steps
  have C9 := CodeHd.keeps C2 FG'.keep
  have CL1 := CodeHd.keeps C1 FG'.keep
  have q138 : @LT.lt Nat _ 138 L' := l1 _ hT2
  refine execsA ?_
  k_steps
  rename_i LD hh6 oL _ _ loL hsL _ _ _ ltL hh7 kF0 kN0
  refine execsA ?_
  k_steps
  rename_i OF OC oc vsC tC ctC hh8 tkC dc1 dc2 ltC ltF hh9 kF kN
  dsimp only
  obtain ⟨oF, fdF, kN, hoF, hkey⟩ : ∃ (oF : Obj) (fdF : FuncData), News g' L' _ ((OF, oF) :: (OC, oc) :: (LD, oL) :: (DT, oT) :: (RW, listOf #[] 0) :: (HD, listOf #[] 0) :: (L' + 1, oC6) :: gU (tabObj (#[] ++ #[rawInt _, rawInt _, Value.ref OC]))) ∧ oF.data = .func fdF ∧
      ∀ (nx : List (Addr × Obj)) (kvs : List (Str × Value)) (oT : Obj) (tv : Str → Str), (OF, oF) ∈ nx → (OC, oc) ∈ nx → (L' + 1, oC6) ∈ nx → (DT, oT) ∈ nx → oT.IsDictOf (strKind PG w) kvs → KeyOk w nx OF (fun x t => .str (tv x) t) (fun x => ∃ t, valueAt kvs x = some (.str (tv x) t)) 6 60 := by
    refine ⟨_, _, kN, rfl, ?_⟩
    clear kN kF
    intro nx kvs oT9 tv m1 m2 m3 m4 hdk
    intro p9 loose9 mean9 mg9 mb9 dp9 un9 gd9 cn9 cs9 a9 ccd9 cl9 outer9 A9 base9 h9 L9 m9 s9 Q9 E9 x9 t9 B9 F9 X9 N9 T9 hk9 hP9 hd9 hu9 hret9
    obtain ⟨ty9, hP9⟩ := hP9
    refine wpAny_call ?_
    k_dflt (refine' kla_code ?q1 ?q2 ?q3 ?q4 ?q5 ?qA ?qF ?qK ?q6 ?q7 ?q8 ?q9 ?qB ?_ ?qc2 ?qc3 ?qc4 ?qc5; (case qA => exact rfl); (case qF => exact rfl); (case qK => first | exact rfl | assumption); (case q1 => k_asm); (case q2 => k_asm); (case q3 => k_asm); (case q4 => k_asm); (case q5 => k_asm); (case q6 => (first | assumption | exact List.Mem.head _ | exact InU.get (by assumption) | exact List.Mem.tail _ (List.Mem.head _) | exact List.Mem.tail _ (by assumption) | exact List.Mem.tail _ (InU.get (by assumption)) | exact List.Mem.tail _ (List.Mem.tail _ (List.Mem.head _)) | exact List.Mem.tail _ (List.Mem.tail _ (by assumption)) | exact List.Mem.tail _ (List.Mem.tail _ (InU.get (by assumption))) | exact List.Mem.tail _ (List.Mem.tail _ (List.Mem.tail _ (List.Mem.head _))) | exact List.Mem.tail _ (List.Mem.tail _ (List.Mem.tail _ (by assumption))) | exact List.Mem.tail _ (List.Mem.tail _ (List.Mem.tail _ (InU.get (by assumption)))) | exact List.Mem.tail _ (List.Mem.tail _ (List.Mem.tail _ (List.Mem.tail _ (List.Mem.head _)))) | exact List.Mem.tail _ (List.Mem.tail _ (List.Mem.tail _ (List.Mem.tail _ (by assumption)))) | exact List.Mem.tail _ (List.Mem.tail _ (List.Mem.tail _ (List.Mem.tail _ (InU.get (by assumption))))) | exact List.Mem.tail _ (List.Mem.tail _ (List.Mem.tail _ (List.Mem.tail _ (List.Mem.tail _ (List.Mem.head _))))) | exact List.Mem.tail _ (List.Mem.tail _ (List.Mem.tail _ (List.Mem.tail _ (List.Mem.tail _ (by assumption))))) | exact List.Mem.tail _ (List.Mem.tail _ (List.Mem.tail _ (List.Mem.tail _ (List.Mem.tail _ (InU.get (by assumption)))))) | exact List.Mem.tail _ (List.Mem.tail _ (List.Mem.tail _ (List.Mem.tail _ (List.Mem.tail _ (List.Mem.tail _ (List.Mem.head _)))))) | exact List.Mem.tail _ (List.Mem.tail _ (List.Mem.tail _ (List.Mem.tail _ (List.Mem.tail _ (List.Mem.tail _ (by assumption)))))) | exact List.Mem.tail _ (List.Mem.tail _ (List.Mem.tail _ (List.Mem.tail _ (List.Mem.tail _ (List.Mem.tail _ (InU.get (by assumption))))))) | exact List.Mem.tail _ (List.Mem.tail _ (List.Mem.tail _ (List.Mem.tail _ (List.Mem.tail _ (List.Mem.tail _ (List.Mem.tail _ (List.Mem.head _))))))) | exact List.Mem.tail _ (List.Mem.tail _ (List.Mem.tail _ (List.Mem.tail _ (List.Mem.tail _ (List.Mem.tail _ (List.Mem.tail _ (by assumption))))))) | exact List.Mem.tail _ (List.Mem.tail _ (List.Mem.tail _ (List.Mem.tail _ (List.Mem.tail _ (List.Mem.tail _ (List.Mem.tail _ (InU.get (by assumption)))))))) | exact List.Mem.tail _ (List.Mem.tail _ (List.Mem.tail _ (List.Mem.tail _ (List.Mem.tail _ (List.Mem.tail _ (List.Mem.tail _ (List.Mem.tail _ (List.Mem.head _)))))))) | exact List.Mem.tail _ (List.Mem.tail _ (List.Mem.tail _ (List.Mem.tail _ (List.Mem.tail _ (List.Mem.tail _ (List.Mem.tail _ (List.Mem.tail _ (by assumption)))))))) | exact List.Mem.tail _ (List.Mem.tail _ (List.Mem.tail _ (List.Mem.tail _ (List.Mem.tail _ (List.Mem.tail _ (List.Mem.tail _ (List.Mem.tail _ (InU.get (by assumption))))))))))); (case q7 => exact codeRec_news (by k_asm) (by (first | assumption | exact List.Mem.head _ | exact InU.get (by assumption) | exact List.Mem.tail _ (List.Mem.head _) | exact List.Mem.tail _ (by assumption) | exact List.Mem.tail _ (InU.get (by assumption)) | exact List.Mem.tail _ (List.Mem.tail _ (List.Mem.head _)) | exact List.Mem.tail _ (List.Mem.tail _ (by assumption)) | exact List.Mem.tail _ (List.Mem.tail _ (InU.get (by assumption))) | exact List.Mem.tail _ (List.Mem.tail _ (List.Mem.tail _ (List.Mem.head _))) | exact List.Mem.tail _ (List.Mem.tail _ (List.Mem.tail _ (by assumption))) | exact List.Mem.tail _ (List.Mem.tail _ (List.Mem.tail _ (InU.get (by assumption)))) | exact List.Mem.tail _ (List.Mem.tail _ (List.Mem.tail _ (List.Mem.tail _ (List.Mem.head _)))) | exact List.Mem.tail _ (List.Mem.tail _ (List.Mem.tail _ (List.Mem.tail _ (by assumption)))) | exact List.Mem.tail _ (List.Mem.tail _ (List.Mem.tail _ (List.Mem.tail _ (InU.get (by assumption))))) | exact List.Mem.tail _ (List.Mem.tail _ (List.Mem.tail _ (List.Mem.tail _ (List.Mem.tail _ (List.Mem.head _))))) | exact List.Mem.tail _ (List.Mem.tail _ (List.Mem.tail _ (List.Mem.tail _ (List.Mem.tail _ (by assumption))))) | exact List.Mem.tail _ (List.Mem.tail _ (List.Mem.tail _ (List.Mem.tail _ (List.Mem.tail _ (InU.get (by assumption)))))) | exact List.Mem.tail _ (List.Mem.tail _ (List.Mem.tail _ (List.Mem.tail _ (List.Mem.tail _ (List.Mem.tail _ (List.Mem.head _)))))) | exact List.Mem.tail _ (List.Mem.tail _ (List.Mem.tail _ (List.Mem.tail _ (List.Mem.tail _ (List.Mem.tail _ (by assumption)))))) | exact List.Mem.tail _ (List.Mem.tail _ (List.Mem.tail _ (List.Mem.tail _ (List.Mem.tail _ (List.Mem.tail _ (InU.get (by assumption))))))) | exact List.Mem.tail _ (List.Mem.tail _ (List.Mem.tail _ (List.Mem.tail _ (List.Mem.tail _ (List.Mem.tail _ (List.Mem.tail _ (List.Mem.head _))))))) | exact List.Mem.tail _ (List.Mem.tail _ (List.Mem.tail _ (List.Mem.tail _ (List.Mem.tail _ (List.Mem.tail _ (List.Mem.tail _ (by assumption))))))) | exact List.Mem.tail _ (List.Mem.tail _ (List.Mem.tail _ (List.Mem.tail _ (List.Mem.tail _ (List.Mem.tail _ (List.Mem.tail _ (InU.get (by assumption)))))))) | exact List.Mem.tail _ (List.Mem.tail _ (List.Mem.tail _ (List.Mem.tail _ (List.Mem.tail _ (List.Mem.tail _ (List.Mem.tail _ (List.Mem.tail _ (List.Mem.head _)))))))) | exact List.Mem.tail _ (List.Mem.tail _ (List.Mem.tail _ (List.Mem.tail _ (List.Mem.tail _ (List.Mem.tail _ (List.Mem.tail _ (List.Mem.tail _ (by assumption)))))))) | exact List.Mem.tail _ (List.Mem.tail _ (List.Mem.tail _ (List.Mem.tail _ (List.Mem.tail _ (List.Mem.tail _ (List.Mem.tail _ (List.Mem.tail _ (InU.get (by assumption))))))))))) (by assumption) (by assumption)); (case q8 => ktr_room); (case q9 => exact rfl); (case qc5 => decide); (case qB => exact locs rfl); (case qc2 => exact rfl); (case qc3 => exact rfl); (case qc4 => exact rfl); k_whole; intro g' L' h' FG' F' N' B' X' T'; (try dsimp only); (try k_lift B'); (try k_fold))
    k_steps
    all_goals exact hret9 _ _ _ (by k_asm) (by k_asm)
  obtain ⟨foc, fod, fsl, rfl⟩ : ∃ oc od sl, oF = ⟨oc, od, .func fdF, sl⟩ := by
    cases oF
    dsimp only at hoF
    subst hoF
    exact ⟨_, _, _, rfl⟩
  clear hoF
  refine execsA ?_
  k_steps
  refine execsS (forS ?_)
  k_steps
  have hD9 : ∀ o', (D, listOf vs.toArray nc) ∈ gU o' := fun o' => updF_mem hU hD (news_ne N hD hT2 (by intro h; cases h)) o'
  have hT9 : ∀ o', (126, link0) ∈ gU o' := fun o' => updF_mem hU hT1 (by decide) o'
  have hkeys : ∀ o', (gU o').map (·.1) = news.map (·.1) := by
    intro o'
    obtain ⟨pre, post, e1, e2, _, _⟩ := hU.split
    rw [e2, e1, List.map_append, List.map_append]
    rfl
  rename News g' L' _ _ => kN
  rename Fr g' L' _ _ => kF
  have ndA : ([OF, OC, LD, DT, RW, HD, L' + 1] ++ news.map (·.1)).Nodup := by
    have low : ∀ p ∈ news, p.1 < L' + 1 := fun p hp => Nat.lt_succ_of_lt (l1 p hp)
    have off : ∀ x : Addr, @LE.le Nat _ (L' + 1) x → x ∉ news.map (·.1) := fun x hx hm => by
      obtain ⟨p, hp, e⟩ := List.mem_map.mp hm
      have := low p hp
      rw [e] at this
      exact Nat.lt_irrefl _ (Nat.lt_of_lt_of_le this hx)
    have i1 : @LT.lt Nat _ (L' + 1) HD := lt1.1
    have i2 : @LT.lt Nat _ HD RW := lt2.1
    have i3 : @LT.lt Nat _ RW DT := ltT.1
    have i4 : @LT.lt Nat _ DT LD := ltL.1
    have i5 : @LT.lt Nat _ LD OC := ltC.1
    have i6 : @LT.lt Nat _ OC OF := ltF
    have o1 := off OF (by (first | lia | omega))
    have o2 := off OC (by (first | lia | omega))
    have o3 := off LD (by (first | lia | omega))
    have o4 := off DT (by (first | lia | omega))
    have o5 := off RW (by (first | lia | omega))
    have o6 := off HD (by (first | lia | omega))
    have o7 := off (L' + 1) (Nat.le_refl _)
    simp only [List.cons_append, List.nil_append, List.nodup_cons, List.mem_cons, not_or]
    refine ⟨⟨?_, ?_, ?_, ?_, ?_, ?_, o1⟩, ⟨?_, ?_, ?_, ?_, ?_, o2⟩, ⟨?_, ?_, ?_, ?_, o3⟩, ⟨?_, ?_, ?_, o4⟩, ⟨?_, ?_, o5⟩, ⟨?_, o6⟩, o7, hnd⟩ <;> (refine Nat.ne_of_gt ?_; show @LT.lt Nat _ _ _; (first | lia | omega))
  refine for_listS (J := RunJ w OF OC LD DT RW HD (L' + 1) ⟨foc, fod, .func fdF, fsl⟩ oc oC6 [(D, listOf vs.toArray nc), (138, tabObj (#[] ++ #[rawInt (151 : Nat), rawInt (12 : Nat), Value.ref OC]))]) (vs := vs) (k := nc) rfl rfl rfl (by passes_own) kF kN ?_ ?_ ?_ ?_
  · refine ⟨oL, oT, [], [], [], 0, [], 0, [], [], _, rfl, ?_⟩
    refine ⟨hbare, rfl, rfl, rfl, rfl, ⟨_, by rw [ring_nil]; rfl⟩, hsT, hsL, .nil, .nil, .nil, .nil, Nat.zero_le _, Nat.zero_le _, Nat.zero_le _, (fun v h => by cases h), ?_⟩
    refine ⟨.inl (hT9 _), (fun v h => by cases h), by rw [hkeys]; exact ndA, fun p hp => ?_, fun p hp => ?_, (fun v h => by cases h)⟩
    · rcases List.mem_cons.mp hp with rfl | hp
      · exact hD9 _
      · rw [List.mem_singleton.mp hp]; exact updF_mem' hU
    · rcases List.mem_cons.mp hp with rfl | hp
      · exact news_ne N hD hT1 (by intro h; cases h)
      · rw [List.mem_singleton.mp hp]; show (138 : Nat) ≠ 126; decide
  · rintro i m nx g ⟨oL, oT, kL, kT, vsR, cR, vsH, cH, hs, rs, rest, rfl, K⟩
    exact .tail _ (.tail _ (.tail _ (.tail _ (.tail _ (.tail _ (.tail _ (K.tl.keep _ (.head _))))))))
  · intro i v m₁ news₁ g I oI h tk hv9 hJ hoff F9 N9
    obtain ⟨oL, oT, kL, kT, vsR, cR, vsH, cH, hs, rs, rest, rfl, K⟩ := hJ
    obtain ⟨tR, hring⟩ := K.ring
    obtain ⟨nk, tn, rfl, hnk⟩ := ints_item hvI i v hv9
    have hi6 : i < 6 := by
      have h1 : i < vs.length := by
        rcases Nat.lt_or_ge i vs.length with q | q
        · exact q
        · rw [List.getElem?_eq_none q] at hv9; cases hv9
      have := hvI.length
      (first | lia | omega)
    have hsl : hs.length ≤ 5 := Nat.le_trans K.len (by (first | lia | omega))
    have hrl : rs.length = hs.length := K.perm.length_eq
    rw [upd_know K.held, upd_know K.row, upd_know K.ladders, upd_know K.order, upd_know hring] at F9
    dsimp only at F9 N9
    have okH : ∀ x ∈ hs.map hv, PyData.strOk x = true := fun x hx => by
      obtain ⟨v, h1, rfl⟩ := List.mem_map.mp hx
      exact hv_ok (K.tl.isH v h1)
    have vH := K.vH
    have vR := K.vR
    have nd8 : ([I, OF, OC, LD, DT, RW, HD, L' + 1] ++ rest.map (·.1)).Nodup := by
      refine List.nodup_cons.mpr ⟨fun hm => ?_, K.tl.nd⟩
      have hm' : I ∈ ((OF, ⟨foc, fod, .func fdF, fsl⟩) :: (OC, oc) :: (LD, oL) :: (DT, oT) :: (RW, listOf (List.toArray vsR) cR) :: (HD, listOf (List.toArray vsH) cH) :: (L' + 1, oC6) :: rest).map (·.1) := hm
      obtain ⟨p, hp, e⟩ := List.mem_map.mp hm'
      exact hoff p hp e
    clear kF kN hD9 hT9 ndA hoff
    refine cutA (MidS s g' L' (fun m nx g1 => g1 = g ∧ nx = (I, oI) :: (OF, ⟨foc, fod, .func fdF, fsl⟩) :: (OC, oc) :: (LD, oL) :: (DT, oT) :: (RW, listOf (List.toArray vsR) cR) :: (HD, listOf (List.toArray vsH) cH) :: (L' + 1, oC6) :: rest ∧ NM m OF LD RW HD (ringOf rs) nk tn ∧ ∃ b : Bool, m (Str.ofString "goes") = some (.bool b) ∧ (b = true → hs ≠ []))) ?_ ?_
    · k_steps
      · rename News g' L' _ _ => kN
        rename Fr g' L' _ _ => kF
        exact ⟨_, _, _, _, _, rfl, kF, fun p hp => kN p (.tail _ hp), rfl, rfl, ⟨rfl, rfl, rfl, rfl, ⟨_, rfl⟩, rfl⟩, _, rfl, fun e he => by subst he; simp at e⟩
      · rename News g' L' _ _ => kN
        rename Fr g' L' _ _ => kF
        rename _ ≠ (0 : Int) => hne0
        exact ⟨_, _, _, _, _, rfl, kF, kN, rfl, rfl, ⟨rfl, rfl, rfl, rfl, ⟨_, rfl⟩, rfl⟩, _, rfl, fun e => absurd (beq_iff_eq.mp e) hne0⟩
    clear F9 N9
    · rintro s1 ⟨h1, tk1, m1, nx1, g1, rfl, F1, N1, rfl, rfl, nm1, b, hb, hbne⟩
      obtain ⟨tR1, hr1⟩ := nm1.ring
      rw [upd_know nm1.held, upd_know nm1.row, upd_know nm1.ladders, upd_know nm1.order, upd_know hr1, upd_know nm1.number, upd_know hb] at F1
      have hkK : KeyOk w ((I, oI) :: (OF, ⟨foc, fod, .func fdF, fsl⟩) :: (OC, oc) :: (LD, oL) :: (DT, oT) :: (RW, listOf (List.toArray vsR) cR) :: (HD, listOf (List.toArray vsH) cH) :: (L' + 1, oC6) :: rest) OF (fun x t => .str (tv x) t) (Knows kT) 6 60 := hkey _ kT oT tv (.tail _ (.head _)) (.tail _ (.tail _ (.head _))) (.tail _ (.tail _ (.tail _ (.tail _ (.tail _ (.tail _ (.tail _ (.head _)))))))) (.tail _ (.tail _ (.tail _ (.tail _ (.head _))))) K.sT
      have hfn : (OF, (⟨foc, fod, .func fdF, fsl⟩ : Obj)) ∈ (I, oI) :: (OF, ⟨foc, fod, .func fdF, fsl⟩) :: (OC, oc) :: (LD, oL) :: (DT, oT) :: (RW, listOf (List.toArray vsR) cR) :: (HD, listOf (List.toArray vsH) cH) :: (L' + 1, oC6) :: rest := .tail _ (.head _)
      refine cutS (MidS s g' L' (fun m nx g1 => ∃ (b : Bool) (hst pl : Nat) (rs1 hs1 : List Nat) (oL' oT' : Obj) (kL' kT' : List (Str × Value)) (vsR' vsH' : List Value) (cR' cH' : Nat) (rest' : List (Addr × Obj)) (th tp : Tok),
        nx = (I, oI) :: (OF, ⟨foc, fod, .func fdF, fsl⟩) :: (OC, oc) :: (LD, oL') :: (DT, oT') :: (RW, listOf (List.toArray vsR') cR') :: (HD, listOf (List.toArray vsH') cH') :: (L' + 1, oC6) :: rest' ∧ AllBare g1 ∧ NM m OF LD RW HD (ringOf (if b = true then rs1.take pl ++ hst :: rs1.drop pl else rs1)) nk tn ∧ m (Str.ofString "goes") = some (.bool b) ∧ m (Str.ofString "host") = some (.str (hv hst) th) ∧ m (Str.ofString "place") = some (.int (pl : Int) tp) ∧
        pl ≤ rs1.length ∧ (b = false → pl = plR rs1 hst) ∧ rs1.Perm hs1 ∧ (rs1.take pl ++ hst :: rs1.drop pl).Pairwise (· ≤ ·) ∧ hs1.length ≤ i ∧ oT'.IsDictOf (strKind PG w) kT' ∧ oL'.IsDictOf (strKind PG w) kL' ∧ StrsAre vsH' (hs1.map hv) ∧ StrsAre vsR' (rs1.map hv) ∧
        (∀ v, v ∈ hs1 ∨ v = hst → Knows kT' (hv v)) ∧ TL kL' (fun v => v ∈ hs1 ∨ v = hst) [(D, listOf vs.toArray nc), (138, tabObj (#[] ++ #[rawInt (151 : Nat), rawInt (12 : Nat), Value.ref OC]))] [I, OF, OC, LD, DT, RW, HD, L' + 1] rest' ∧ kT'.length ≤ i + 1 ∧ kL'.length ≤ i + 1)) (ifS ?_) ?_
      · cases b
        · k_steps
          have h0 : 0 ≤ Int.fmod (Int.fdiv nk 4) 192 := Int.fmod_nonneg_of_pos _ (by decide)
          have hn : Int.fmod (Int.fdiv nk 4) 192 < 192 := Int.fmod_lt_of_pos _ (by decide)
          refine execsA ?_
          k_steps
          (try dsimp only)
          refine execsS (assignSubS (callS ?_))
          k_steps
          refine ⟨calleeOk (by assumption) X' (by k_is), ?_⟩
          k_dflt (refine turned_hv B' (by k_asm) X' (by k_asm) T' rfl hIs (by ktr_room) (by ktr_units) ?_)
          intro t3 h3 tk3 gs3 F3 N3 hbare3
          k_steps
          have UT := upd8_5 (o1 := oI) (o2 := ⟨foc, fod, .func fdF, fsl⟩) (o3 := oc) (o4 := oL) (o5 := oT) (o6 := listOf (List.toArray vsR) cR) (o7 := listOf (List.toArray vsH) cH) (o8 := oC6) nd8
          refine kda_set F3 N3 UT K.sT (strKind_is PG w _ _) (by rw [sizeLine_eq]; have := K.kTl; (first | lia | omega)) ?_
          intro h4 oT4 F4 N4 sT4
          (try dsimp only at N4)
          (try dsimp only)
          refine execsA ?_
          k_steps
          rename News g' L' _ _ => kN
          rename Fr g' L' _ _ => kF
          have nd8b : ([I, OF, OC, LD, DT, RW, HD, L' + 1] ++ ((DL, listOf (List.toArray vsL) nL) :: rest).map (·.1)).Nodup := by
            rw [List.map_cons]
            refine (List.perm_middle.nodup_iff).mpr (List.nodup_cons.mpr ⟨fun hm => ?_, nd8⟩)
            have hm' : DL ∈ ((I, oI) :: (OF, ⟨foc, fod, .func fdF, fsl⟩) :: (OC, oc) :: (LD, oL) :: (DT, oT4) :: (RW, listOf (List.toArray vsR) cR) :: (HD, listOf (List.toArray vsH) cH) :: (L' + 1, oC6) :: rest).map (·.1) := hm
            obtain ⟨p, hp, e⟩ := List.mem_map.mp hm'
            have := hltL p hp
            rw [e] at this
            exact Nat.lt_irrefl _ this
          have UL := upd8_4 (o1 := oI) (o2 := ⟨foc, fod, .func fdF, fsl⟩) (o3 := oc) (o4 := oL) (o5 := oT4) (o6 := listOf (List.toArray vsR) cR) (o7 := listOf (List.toArray vsH) cH) (o8 := oC6) nd8b
          obtain ⟨kN⟩ : Nonempty (News g' L' _ ((I, oI) :: (OF, ⟨foc, fod, .func fdF, fsl⟩) :: (OC, oc) :: (LD, oL) :: (DT, oT4) :: (RW, listOf (List.toArray vsR) cR) :: (HD, listOf (List.toArray vsH) cH) :: (L' + 1, oC6) :: (DL, listOf (List.toArray vsL) nL) :: rest)) := ⟨fun p hp => kN p (by
            simp only [List.mem_cons] at hp ⊢
            rcases hp with h | h | h | h | h | h | h | h | h | h
            · exact .inr (.inl h)
            · exact .inr (.inr (.inl h))
            · exact .inr (.inr (.inr (.inl h)))
            · exact .inr (.inr (.inr (.inr (.inl h))))
            · exact .inr (.inr (.inr (.inr (.inr (.inl h)))))
            · exact .inr (.inr (.inr (.inr (.inr (.inr (.inl h))))))
            · exact .inr (.inr (.inr (.inr (.inr (.inr (.inr (.inl h)))))))
            · exact .inr (.inr (.inr (.inr (.inr (.inr (.inr (.inr (.inl h))))))))
            · exact .inl h
            · exact .inr (.inr (.inr (.inr (.inr (.inr (.inr (.inr (.inr h)))))))))⟩
          refine kda_set kF kN UL K.sL (strKind_is PG w _ _) (by rw [sizeLine_eq]; have := K.kLl; (first | lia | omega)) ?_
          intro h5 oL5 F5 N5 sL5
          (try dsimp only at N5)
          (try dsimp only)
          have hPS : ∀ v, v ∈ hs ∨ v = hst → Knows (stored kT (hv hst) (.str (tv (hv hst)) t3)) (hv v) := by
            intro v h
            unfold Knows
            rw [value_stored]
            by_cases e : hv v = hv hst
            · rw [if_pos e, e]; exact ⟨_, rfl⟩
            · rw [if_neg e]
              exact K.tvs v (h.elim id fun h => absurd (congrArg hv h) e)
          have hPR : ∀ v ∈ rs, IsH v ∧ Knows (stored kT (hv hst) (.str (tv (hv hst)) t3)) (hv v) := fun v h => ⟨K.tl.isH v (K.perm.mem_iff.mp h), hPS v (.inl (K.perm.mem_iff.mp h))⟩
          have hPh : Knows (stored kT (hv hst) (.str (tv (hv hst)) t3)) (hv hst) := hPS hst (.inr rfl)
          have hkK5 : KeyOk w ((I, oI) :: (OF, ⟨foc, fod, .func fdF, fsl⟩) :: (OC, oc) :: (LD, oL5) :: (DT, oT4) :: (RW, listOf (List.toArray vsR) cR) :: (HD, listOf (List.toArray vsH) cH) :: (L' + 1, oC6) :: (DL, listOf (List.toArray vsL) nL) :: rest) OF (fun x t => .str (tv x) t) (Knows (stored kT (hv hst) (.str (tv (hv hst)) t3))) 6 60 := hkey _ _ oT4 tv (.tail _ (.head _)) (.tail _ (.tail _ (.head _))) (.tail _ (.tail _ (.tail _ (.tail _ (.tail _ (.tail _ (.tail _ (.head _)))))))) (.tail _ (.tail _ (.tail _ (.tail _ (.head _))))) sT4
          have hfn5 : (OF, (⟨foc, fod, .func fdF, fsl⟩ : Obj)) ∈ (I, oI) :: (OF, ⟨foc, fod, .func fdF, fsl⟩) :: (OC, oc) :: (LD, oL5) :: (DT, oT4) :: (RW, listOf (List.toArray vsR) cR) :: (HD, listOf (List.toArray vsH) cH) :: (L' + 1, oC6) :: (DL, listOf (List.toArray vsL) nL) :: rest := .tail _ (.head _)
          refine execsA ?_
          k_steps
          (try dsimp only)
          rename Fr g' L' _ _ => kF
          rename News g' L' _ _ => kN
          refine nilS ?_
          obtain ⟨hple, _, _⟩ := plR_spec K.sorted (by (first | lia | omega)) hst
          refine ⟨_, _, _, _, _, rfl, kF, kN, false, hst, plR rs hst, rs, hs, oL5, oT4, _, _, vsR, vsH, _, _, _, _, _, rfl, K.gens.push hbare3, ?_, rfl, rfl, rfl, hple, (fun _ => rfl), K.perm, sorted_insert K.sorted (by (first | lia | omega)) hst, K.len, sT4, sL5, vH, vR, hPS, ?_, ?_, ?_⟩
          · rw [if_neg (by decide)]
            exact ⟨rfl, rfl, rfl, rfl, ⟨_, rfl⟩, rfl⟩
          · refine ⟨K.tl.tab.imp (fun h => .tail _ h) fun ⟨c', oc, vq, tq, q1, q2, q3⟩ => ⟨c', oc, vq, tq, .tail _ q1, .tail _ q2, q3⟩, fun v h => ?_, nd8b, fun p hp => .tail _ (K.tl.keep p hp), K.tl.base, fun v h => h.elim (K.tl.isH v) fun e => e ▸ hIs⟩
            unfold LadAt
            rw [value_stored]
            by_cases e : hv v = hv hst
            · rw [if_pos e]
              refine ⟨DL, vsL, nL, rfl, .head _, ?_⟩
              have e2 : v = hst := by
                rcases h with h | h
                · exact hv_inj (K.tl.isH v h).2 hIs.2 e
                · exact h
              rw [e2]
              exact hvsL
            · rw [if_neg e]
              obtain ⟨D', vs', c', q1, q2, q3⟩ := K.tl.lads v (h.elim id fun h => absurd (congrArg hv h) e)
              exact ⟨D', vs', c', q1, .tail _ q2, q3⟩
          · exact Nat.le_trans (stored_length_le ..) (Nat.succ_le_succ K.kTl)
          · exact Nat.le_trans (stored_length_le ..) (Nat.succ_le_succ K.kLl)
        · k_steps
          have hne := hbne rfl
          have hlpos : 0 < hs.length := List.length_pos_iff.mpr hne
          have hl0 : (hs.length : Int) ≠ 0 := by (first | lia | omega)
          obtain ⟨j, hj, hj2⟩ : ∃ j : Nat, Int.fmod (Int.fdiv nk 4) (hs.length : Int) = (j : Int) ∧ j < hs.length := by
            have h1 := Int.fmod_nonneg_of_pos (Int.fdiv nk 4) (b := (hs.length : Int)) (by (first | lia | omega))
            have h2 := Int.fmod_lt_of_pos (Int.fdiv nk 4) (b := (hs.length : Int)) (by (first | lia | omega))
            exact ⟨(Int.fmod (Int.fdiv nk 4) (hs.length : Int)).toNat, by (first | lia | omega), by (first | lia | omega)⟩
          have hj3 : j < (hs.map hv).length := by rw [List.length_map]; exact hj2
          have hl9 : (hs.map hv).length ≤ 100 := by rw [List.length_map]; (first | lia | omega)
          have UH := upd8_7 (o1 := oI) (o2 := ⟨foc, fod, .func fdF, fsl⟩) (o3 := oc) (o4 := oL) (o5 := oT) (o6 := listOf (List.toArray vsR) cR) (o7 := listOf (List.toArray vsH) cH) (o8 := oC6) nd8
          refine execsA ?_
          k_steps
          rename News g' L' _ _ => kN
          rename Fr g' L' _ _ => kF
          refine pop_strs kF kN vH hj hj3 hl9 UH ?_
          intro h2 t2 F2 N2
          rw [getD_map hj2]
          have hmem : hs.getD j 0 ∈ hs := getD_mem hj2
          obtain ⟨hst, hhst⟩ : ∃ hst, hs.getD j 0 = hst := ⟨_, rfl⟩
          rw [hhst] at hmem ⊢
          obtain ⟨vsH2, hvsH2⟩ : ∃ vsH2, vsH.take j ++ vsH.drop (j + 1) = vsH2 := ⟨_, rfl⟩
          have vH2 : StrsAre vsH2 ((hs.eraseIdx j).map hv) := by
            rw [← hvsH2, ← map_erase]
            exact strs_erase vH j
          rw [hvsH2] at N2
          (try dsimp only at N2)
          k_steps
          (try clear kF); (try clear kN)
          have hIs : IsH hst := K.tl.isH _ hmem
          have hPR : ∀ v ∈ rs, IsH v ∧ Knows kT (hv v) := fun v h => ⟨K.tl.isH v (K.perm.mem_iff.mp h), K.tvs v (K.perm.mem_iff.mp h)⟩
          have hPh : Knows kT (hv hst) := K.tvs _ hmem
          have hkK2 : KeyOk w ((I, oI) :: (OF, ⟨foc, fod, .func fdF, fsl⟩) :: (OC, oc) :: (LD, oL) :: (DT, oT) :: (RW, listOf (List.toArray vsR) cR) :: (HD, listOf (List.toArray vsH2) (cH + 1)) :: (L' + 1, oC6) :: rest) OF (fun x t => .str (tv x) t) (Knows kT) 6 60 := hkey _ kT oT tv (.tail _ (.head _)) (.tail _ (.tail _ (.head _))) (.tail _ (.tail _ (.tail _ (.tail _ (.tail _ (.tail _ (.tail _ (.head _)))))))) (.tail _ (.tail _ (.tail _ (.tail _ (.head _))))) K.sT
          have hfn2 : (OF, (⟨foc, fod, .func fdF, fsl⟩ : Obj)) ∈ (I, oI) :: (OF, ⟨foc, fod, .func fdF, fsl⟩) :: (OC, oc) :: (LD, oL) :: (DT, oT) :: (RW, listOf (List.toArray vsR) cR) :: (HD, listOf (List.toArray vsH2) (cH + 1)) :: (L' + 1, oC6) :: rest := .tail _ (.head _)
          refine execsA ?_
          k_steps
          obtain ⟨hpl, hpe⟩ := plL_found K.sorted (by (first | lia | omega)) (K.perm.mem_iff.mpr hmem)
          obtain ⟨pl, hplq⟩ : ∃ pl, plL rs hst = pl := ⟨_, rfl⟩
          rw [hplq] at hpl hpe
          have okh := hv_ok hIs
          have hl8 : (rs.map hv).length ≤ 100 := by rw [List.length_map]; (first | lia | omega)
          refine execsA ?_
          k_steps
          rename News g' L' _ _ => kN
          rename Fr g' L' _ _ => kF
          rw [hplq] at kF ⊢
          refine slice_row kF kN (List.Mem.tail _ (List.Mem.tail _ (List.Mem.tail _ (List.Mem.tail _ (List.Mem.tail _ (List.Mem.head _)))))) vR hpl hpe (by (first | lia | omega)) ?_ (by with_unfolding_all rfl) (fun _ => by with_unfolding_all rfl)
          intro D3 ws3 h3 F3 N3 l3 hws3
          k_steps
          dsimp only
          rename News g' L' _ _ => kN
          obtain ⟨kN⟩ : Nonempty (News g' L' _ ((I, oI) :: (OF, ⟨foc, fod, .func fdF, fsl⟩) :: (OC, oc) :: (LD, oL) :: (DT, oT) :: (RW, listOf (List.toArray vsR) cR) :: (HD, listOf (List.toArray vsH2) (cH + 1)) :: (L' + 1, oC6) :: rest)) := ⟨fun p hp => kN p (.tail _ (.tail _ hp))⟩
          refine execsA ?_
          k_steps
          rename Fr g' L' _ _ => kF
          have UR := upd8_6 (o1 := oI) (o2 := ⟨foc, fod, .func fdF, fsl⟩) (o3 := oc) (o4 := oL) (o5 := oT) (o6 := listOf (List.toArray vsR) cR) (o7 := listOf (List.toArray vsH2) (cH + 1)) (o8 := oC6) nd8
          refine pop_strs kF kN vR rfl (by rw [List.length_map]; exact hpl) hl8 UR ?_
          intro h4 t4 F4 N4
          k_steps
          dsimp only
          rename Fr g' L' _ _ => kF
          rename News g' L' _ _ => kN
          refine nilS ?_
          have eR : (if true = true then (rs.eraseIdx pl).take pl ++ hst :: (rs.eraseIdx pl).drop pl else rs.eraseIdx pl) = rs := by
            rw [if_pos rfl]
            exact (split_at hpl hpe).symm
          have hsub : ∀ v, v ∈ hs.eraseIdx j ∨ v = hst → v ∈ hs := fun v h => h.elim (fun h => List.mem_of_mem_eraseIdx h) (fun h => h ▸ hmem)
          refine ⟨_, _, _, _, _, rfl, kF, kN, true, hst, pl, rs.eraseIdx pl, hs.eraseIdx j, oL, oT, kL, kT, _, vsH2, _, _, rest, _, _, rfl, K.gens, ?_, rfl, rfl, rfl, ?_, (fun e => by cases e), perm_erase K.perm hpl hj2 hpe hhst, ?_, ?_, K.sT, K.sL, vH2, ?_, fun v h => K.tvs v (hsub v h), ?_, Nat.le_succ_of_le K.kTl, Nat.le_succ_of_le K.kLl⟩
          · rw [eR]
            exact ⟨rfl, rfl, rfl, rfl, ⟨_, rfl⟩, rfl⟩
          · rw [List.length_eraseIdx_of_lt hpl]; (first | lia | omega)
          · rw [← split_at hpl hpe]
            exact K.sorted
          · rw [List.length_eraseIdx_of_lt hj2]
            have := K.len
            (first | lia | omega)
          · rw [← map_erase]
            exact strs_erase vR pl
          · exact ⟨K.tl.tab, fun v h => K.tl.lads v (hsub v h), nd8, K.tl.keep, K.tl.base, fun v h => K.tl.isH v (hsub v h)⟩
      clear F1 N1 hkK hfn
      rintro s2 ⟨h2, tk2, m2, nx2, g2, rfl, F2, N2, b, hst, pl, rs1, hs1, oL', oT', kL', kT', vsR', vsH', cR', cH', rest', th, tp, rfl, hbare2, nm2, hgo, hho, hpl2, hple, hplR, hperm, hsort, hlen, sT', sL', vH', vR', hkn, tl', hkT', hkL'⟩
      obtain ⟨tR2, hr2⟩ := nm2.ring
      rw [upd_know nm2.held, upd_know nm2.row, upd_know nm2.ladders, upd_know nm2.order, upd_know hr2, upd_know nm2.number, upd_know hgo, upd_know hho, upd_know hpl2] at F2
      (try dsimp only at F2)
      have hl1 : rs1.length = hs1.length := hperm.length_eq
      have hIR : ∀ v ∈ rs1, IsH v := fun v h => tl'.isH v (.inl (hperm.mem_iff.mp h))
      refine cutS (MidS s g' L' (fun m nx g3 => g3 = g2 ∧ ∃ rest3, nx = (I, oI) :: (OF, ⟨foc, fod, .func fdF, fsl⟩) :: (OC, oc) :: (LD, oL') :: (DT, oT') :: (RW, listOf (List.toArray vsR') cR') :: (HD, listOf (List.toArray vsH') cH') :: (L' + 1, oC6) :: rest3 ∧ NM m OF LD RW HD (ringOf (if b = true then rs1 else rs1.take pl ++ hst :: rs1.drop pl)) nk tn ∧ m (Str.ofString "goes") = some (.bool b) ∧ m (Str.ofString "host") = some (.str (hv hst) th) ∧ TL kL' (fun v => v ∈ hs1 ∨ v = hst) [(D, listOf vs.toArray nc), (138, tabObj (#[] ++ #[rawInt (151 : Nat), rawInt (12 : Nat), Value.ref OC]))] [I, OF, OC, LD, DT, RW, HD, L' + 1] rest3)) (ifS ?_) ?_
      · by_cases hne : rs1 = []
        · have hb9 : (!decide (rs1 = [])) = false := by rw [decide_eq_true hne]; rfl
          k_steps
          rename News g' L' _ _ => kN
          rename Fr g' L' _ _ => kF
          refine nilS ?_
          have eR : ringOf (if b = true then rs1.take pl ++ hst :: rs1.drop pl else rs1) = ringOf (if b = true then rs1 else rs1.take pl ++ hst :: rs1.drop pl) := by
            subst hne
            rw [List.take_nil, List.drop_nil, List.nil_append]
            cases b
            · rw [if_neg (by decide), if_neg (by decide), ring_nil, ring_one]
            · rw [if_pos rfl, if_pos rfl, ring_nil, ring_one]
          refine ⟨_, _, _, _, _, rfl, kF, fun p hp => kN p (.tail _ hp), rfl, rest', rfl, ?_, rfl, rfl, tl'⟩
          rw [← eR]
          exact ⟨rfl, rfl, rfl, rfl, ⟨_, rfl⟩, rfl⟩
        · have hb9 : (!decide (rs1 = [])) = true := by rw [decide_eq_false hne]; rfl
          obtain ⟨ja, ea, hja, hka⟩ := ahead_at hne hple
          obtain ⟨jb, eb, hjb, hkb⟩ := behind_at hne hple
          have hrl0 : (rs1.length : Int) ≠ 0 := by (first | lia | omega)
          have hR := ring_way (hst := hst) hne hple ea eb
          obtain ⟨S, hS⟩ : ∃ S : Nat → Prop, S = fun v => v ∈ hs1 ∨ v = hst := ⟨_, rfl⟩
          have tlS := tl'
          rw [← hS] at tlS
          have sA : S (rs1.getD ja 0) := by rw [hS]; exact .inl (hperm.mem_iff.mp (getD_mem hja))
          have sB : S (rs1.getD jb 0) := by rw [hS]; exact .inl (hperm.mem_iff.mp (getD_mem hjb))
          have sH : S hst := by rw [hS]; exact .inr rfl
          obtain ⟨A, hA⟩ : ∃ A, rs1.getD ja 0 = A := ⟨_, rfl⟩
          obtain ⟨C, hC⟩ : ∃ C, rs1.getD jb 0 = C := ⟨_, rfl⟩
          k_steps
          rename News g' L' _ _ => kN
          obtain ⟨kN⟩ : Nonempty (News g' L' _ ((I, oI) :: (OF, ⟨foc, fod, .func fdF, fsl⟩) :: (OC, oc) :: (LD, oL') :: (DT, oT') :: (RW, listOf (List.toArray vsR') cR') :: (HD, listOf (List.toArray vsH') cH') :: (L' + 1, oC6) :: rest')) := ⟨fun p hp => kN p (.tail _ hp)⟩
          refine execsA ?_
          k_steps
          (try dsimp only)
          refine execsA ?_
          k_steps
          (try dsimp only)
          rename Fr g' L' _ _ => kF
          rename News g' L' _ _ => kN
          rw [hA, hC] at kF hR
          rw [hA] at sA
          rw [hC] at sB
          refine execsA ?_
          k_steps
          (try dsimp only)
          refine execsA ?_
          k_steps
          (try dsimp only)
          refine execsA ?_
          k_steps
          all_goals (try dsimp only)
          all_goals refine nilS ?_
          all_goals rename News g' L' _ _ => kN
          all_goals rename Fr g' L' _ _ => kF
          all_goals rename TL kL' S _ _ _ => tl9
          all_goals rw [hS] at tl9
          · rename b = true => hbt
            subst hbt
            have e : ringOf (if true = true then rs1.take pl ++ hst :: rs1.drop pl else rs1) - (wayN A hst + wayN hst C - wayN A C) = ringOf (if true = true then rs1 else rs1.take pl ++ hst :: rs1.drop pl) := by
              rw [if_pos rfl, if_pos rfl, hR]
              (first | lia | omega)
            rw [e] at kF
            exact ⟨_, _, _, _, _, rfl, kF, kN, rfl, _, rfl, ⟨rfl, rfl, rfl, rfl, ⟨_, rfl⟩, rfl⟩, rfl, rfl, tl9⟩
          · rename b = false => hbt
            subst hbt
            have e : ringOf (if false = true then rs1.take pl ++ hst :: rs1.drop pl else rs1) + (wayN A hst + wayN hst C - wayN A C) = ringOf (if false = true then rs1 else rs1.take pl ++ hst :: rs1.drop pl) := by
              rw [if_neg (by decide), if_neg (by decide), hR]
            rw [e] at kF
            exact ⟨_, _, _, _, _, rfl, kF, kN, rfl, _, rfl, ⟨rfl, rfl, rfl, rfl, ⟨_, rfl⟩, rfl⟩, rfl, rfl, tl9⟩
      clear F2 N2
      rintro s3 ⟨h3, tk3, m3, nx3, g3, rfl, F3, N3, rfl, rest3, rfl, nm3, hgo3, hho3, tl3⟩
      clear tl'
      obtain ⟨tR3, hr3⟩ := nm3.ring
      rw [upd_know nm3.held, upd_know nm3.row, upd_know nm3.ladders, upd_know nm3.order, upd_know hr3, upd_know nm3.number, upd_know hgo3, upd_know hho3] at F3
      (try dsimp only at F3)
      have hkK3 : KeyOk w ((I, oI) :: (OF, ⟨foc, fod, .func fdF, fsl⟩) :: (OC, oc) :: (LD, oL') :: (DT, oT') :: (RW, listOf (List.toArray vsR') cR') :: (HD, listOf (List.toArray vsH') cH') :: (L' + 1, oC6) :: rest3) OF (fun x t => .str (tv x) t) (Knows kT') 6 60 := hkey _ kT' oT' tv (.tail _ (.head _)) (.tail _ (.tail _ (.head _))) (.tail _ (.tail _ (.tail _ (.tail _ (.tail _ (.tail _ (.tail _ (.head _)))))))) (.tail _ (.tail _ (.tail _ (.tail _ (.head _))))) sT'
      have hfn3 : (OF, (⟨foc, fod, .func fdF, fsl⟩ : Obj)) ∈ (I, oI) :: (OF, ⟨foc, fod, .func fdF, fsl⟩) :: (OC, oc) :: (LD, oL') :: (DT, oT') :: (RW, listOf (List.toArray vsR') cR') :: (HD, listOf (List.toArray vsH') cH') :: (L' + 1, oC6) :: rest3 := .tail _ (.head _)
      have hPR3 : ∀ v ∈ rs1, IsH v ∧ Knows kT' (hv v) := fun v h => ⟨hIR v h, hkn v (.inl (hperm.mem_iff.mp h))⟩
      have hPh3 : IsH hst ∧ Knows kT' (hv hst) := ⟨tl3.isH hst (.inr rfl), hkn hst (.inr rfl)⟩
      have nd3 := tl3.nd
      have UR3 := upd8_6 (o1 := oI) (o2 := ⟨foc, fod, .func fdF, fsl⟩) (o3 := oc) (o4 := oL') (o5 := oT') (o6 := listOf (List.toArray vsR') cR') (o7 := listOf (List.toArray vsH') cH') (o8 := oC6) nd3
      refine cutA (MidS s g' L' (fun m nx g4 => g4 = g3 ∧ ∃ (vsR4 vsH4 : List Value) (cR4 cH4 : Nat) (rsF hsF : List Nat), nx = (I, oI) :: (OF, ⟨foc, fod, .func fdF, fsl⟩) :: (OC, oc) :: (LD, oL') :: (DT, oT') :: (RW, listOf (List.toArray vsR4) cR4) :: (HD, listOf (List.toArray vsH4) cH4) :: (L' + 1, oC6) :: rest3 ∧ NM m OF LD RW HD (ringOf rsF) nk tn ∧ StrsAre vsR4 (rsF.map hv) ∧ StrsAre vsH4 (hsF.map hv) ∧ rsF.Perm hsF ∧ rsF.Pairwise (· ≤ ·) ∧ hsF.length ≤ i + 1 ∧ (∀ v ∈ hsF, Knows kT' (hv v)) ∧ TL kL' (· ∈ hsF) [(D, listOf vs.toArray nc), (138, tabObj (#[] ++ #[rawInt (151 : Nat), rawInt (12 : Nat), Value.ref OC]))] [I, OF, OC, LD, DT, RW, HD, L' + 1] rest3)) ?_ ?_
      · cases b
        · have hplq := hplR rfl
          have hple2 : plR rs1 hst ≤ rs1.length := by rw [← hplq]; exact hple
          k_steps
          refine append_K (its := vsH'.toArray) FI NI (updF_upd (upd8_7 (o1 := oI) (o2 := ⟨foc, fod, .func fdF, fsl⟩) (o3 := oc) (o4 := oL') (o5 := oT') (o6 := listOf (List.toArray vsI) (cR' + 1)) (o7 := listOf (List.toArray vsH') cH') (o8 := oC6) nd3) _) ?_ (by
            have h1 := vH'.len_eq
            rw [List.length_map] at h1
            rw [List.size_toArray, sizeLine_eq]; (first | lia | omega))
          intro h5 F5 N5
          (try dsimp only at N5)
          k_steps
          rename News g' L' _ _ => kN
          rename Fr g' L' _ _ => kF
          rw [List.push_toArray] at kN
          rw [← hplq] at hvsI
          refine ⟨_, _, _, _, _, rfl, kF, kN, rfl, vsI, vsH' ++ [.str (hv hst) th], _, _, rs1.take pl ++ hst :: rs1.drop pl, hs1 ++ [hst], rfl, ⟨rfl, rfl, rfl, rfl, ⟨_, rfl⟩, rfl⟩, hvsI, ?_, perm_insert hperm pl hst, hsort, ?_, ?_, ?_⟩
          · rw [List.map_append]
            exact vH'.append' (.cons _ _ .nil)
          · rw [List.length_append, List.length_singleton]
            (first | lia | omega)
          · intro v h
            rcases List.mem_append.mp h with h | h
            · exact hkn v (.inl h)
            · exact hkn v (.inr (List.mem_singleton.mp h))
          · have hsub : ∀ v, v ∈ hs1 ++ [hst] → v ∈ hs1 ∨ v = hst := fun v h => (List.mem_append.mp h).imp id List.mem_singleton.mp
            exact ⟨tl3.tab, fun v h => tl3.lads v (hsub v h), tl3.nd, tl3.keep, tl3.base, fun v h => tl3.isH v (hsub v h)⟩
        · k_steps
          have hs9 : rs1.Pairwise (· ≤ ·) := by
            have h1 : (rs1.take pl ++ rs1.drop pl).Pairwise (· ≤ ·) := hsort.sublist ((List.sublist_cons_self hst _).append_left _)
            rw [List.take_append_drop] at h1
            exact h1
          exact ⟨_, _, _, _, _, rfl, F3, N3, rfl, vsR', vsH', _, _, rs1, hs1, rfl, ⟨rfl, rfl, rfl, rfl, ⟨_, rfl⟩, rfl⟩, vR', vH', hperm, hs9, Nat.le_succ_of_le hlen, fun v h => hkn v (.inl h), ⟨tl3.tab, fun v h => tl3.lads v (.inl h), tl3.nd, tl3.keep, tl3.base, fun v h => tl3.isH v (.inl h)⟩⟩
      clear F3 N3 hkK3 hfn3 hPR3 hPh3 UR3
      rintro s4 ⟨h4, tk4, m4, nx4, g4, rfl, F4, N4, rfl, vsR4, vsH4, cR4, cH4, rsF, hsF, rfl, nm4, vR4, vH4, hperm4, hsort4, hlen4, hkn4, tl4⟩
      obtain ⟨tR4, hr4⟩ := nm4.ring
      rw [upd_know nm4.held, upd_know nm4.row, upd_know nm4.ladders, upd_know nm4.order, upd_know hr4, upd_know nm4.number] at F4
      (try dsimp only at F4)
      have hIF : ∀ v ∈ hsF, IsH v := fun v h => tl4.isH v h
      refine execsA ?_
      k_steps
      · rename ringOf rsF ≠ _ => hbad
        exact absurd (ring_net hperm4 hsort4 hIF) hbad
      · (try dsimp only)
        refine nilS ?_
        rename News g' L' _ _ => kN
        rename Fr g' L' _ _ => kF
        have ndF := List.nodup_cons.mp tl4.nd
        refine ⟨_, _, _, _, _, rfl, kF, kN, fun p hp e => ndF.1 ?_, oL', oT', kL', kT', vsR4, cR4, vsH4, cH4, hsF, rsF, rest3, rfl, ?_⟩
        · rw [← e]
          exact (List.mem_map_of_mem hp : p.1 ∈ List.map (·.1) ((OF, ⟨foc, fod, .func fdF, fsl⟩) :: (OC, oc) :: (LD, oL') :: (DT, oT') :: (RW, listOf (List.toArray vsR4) cR4) :: (HD, listOf (List.toArray vsH4) cH4) :: (L' + 1, oC6) :: rest3))
        · exact ⟨hbare2, rfl, rfl, rfl, rfl, ⟨_, rfl⟩, sT', sL', vH4, vR4, hperm4, hsort4, hlen4, hkT', hkL', hkn4, ⟨tl4.tab, tl4.lads, ndF.2, tl4.keep, tl4.base, tl4.isH⟩⟩

  · intro h9 tk9 m9 news9 g9 F9 N9 hJ
    obtain ⟨oL, oT, kL, kT, vsR, cR, vsH, cH, hs, rs, rest, rfl, K⟩ := hJ
    rw [upd_know K.held, upd_know K.row] at F9
    (try dsimp only at F9 N9)
    have hTab8 : (138, tabObj (#[] ++ #[rawInt (151 : Nat), rawInt (12 : Nat), Value.ref OC])) ∈ rest := K.tl.keep _ (.tail _ (.head _))
    obtain ⟨g8, U8, _⟩ := updF_of (l := (OF, ⟨foc, fod, .func fdF, fsl⟩) :: (OC, oc) :: (LD, oL) :: (DT, oT) :: (RW, listOf (List.toArray vsR) cR) :: (HD, listOf (List.toArray vsH) cH) :: (L' + 1, oC6) :: rest) (d := 138) (.tail _ (.tail _ (.tail _ (.tail _ (.tail _ (.tail _ (.tail _ hTab8))))))) K.tl.nd
    have m1 : (RW, listOf (List.toArray vsR) cR) ∈ (OF, ⟨foc, fod, .func fdF, fsl⟩) :: (OC, oc) :: (LD, oL) :: (DT, oT) :: (RW, listOf (List.toArray vsR) cR) :: (HD, listOf (List.toArray vsH) cH) :: (L' + 1, oC6) :: rest := .tail _ (.tail _ (.tail _ (.tail _ (.head _))))
    have m2 : (HD, listOf (List.toArray vsH) cH) ∈ (OF, ⟨foc, fod, .func fdF, fsl⟩) :: (OC, oc) :: (LD, oL) :: (DT, oT) :: (RW, listOf (List.toArray vsR) cR) :: (HD, listOf (List.toArray vsH) cH) :: (L' + 1, oC6) :: rest := .tail _ (.tail _ (.tail _ (.tail _ (.tail _ (.head _)))))
    have i1 := updF_mem U8 m1 (news_ne N9 m1 (.tail _ (.tail _ (.tail _ (.tail _ (.tail _ (.tail _ (.tail _ hTab8))))))) (by intro h; cases h))
    have i2 := updF_mem U8 m2 (news_ne N9 m2 (.tail _ (.tail _ (.tail _ (.tail _ (.tail _ (.tail _ (.tail _ hTab8))))))) (by intro h; cases h))
    (try dsimp only)
    refine execsA ?_
    k_steps
    rename_i OF2 OC2 oc2 vsC2 tC2 ctC2 hh2 tk2 kF kN dc1' dc2' lc2 lf2
    unfold Stop
    (try dsimp only at kN)
    (try simp only [List.cons_append, List.nil_append] at kN)
    obtain ⟨oF2, kN, hKL⟩ : ∃ oF2, News g' L' _ ((OF2, oF2) :: (OC2, oc2) :: g8 (tabObj _)) ∧ KeyL w [(OF2, oF2), (OC2, oc2)] OF2 := by
      refine ⟨_, kN, ?_⟩
      clear kN kF
      intro p9 loose9 mean9 mg9 mb9 dp9 un9 gd9 cn9 cs9 a9 ccd9 cl9 outer9 A9 base9 h9 L9 m9 s9 Q9 E9 nx9 v9 t9 B9 F9 X9 N9 T9 hk9 hn9 hv9 hd9 hu9 hret9
      have q1 := hn9 _ (.head _)
      have q2 := hn9 _ (.tail _ (.head _))
      have hl9 := hv_len hv9
      have hsp9 := split_hv hv9.2
      refine wpAny_call ?_
      k_dflt (refine' kla_code ?q1 ?q2 ?q3 ?q4 ?q5 ?qA ?qF ?qK ?q6 ?q7 ?q8 ?q9 ?qB ?_ ?qc2 ?qc3 ?qc4 ?qc5; (case qA => exact rfl); (case qF => exact rfl); (case qK => first | exact rfl | assumption); (case q1 => k_asm); (case q2 => k_asm); (case q3 => k_asm); (case q4 => k_asm); (case q5 => k_asm); (case q6 => (first | assumption | exact List.Mem.head _ | exact InU.get (by assumption) | exact List.Mem.tail _ (List.Mem.head _) | exact List.Mem.tail _ (by assumption) | exact List.Mem.tail _ (InU.get (by assumption)) | exact List.Mem.tail _ (List.Mem.tail _ (List.Mem.head _)) | exact List.Mem.tail _ (List.Mem.tail _ (by assumption)) | exact List.Mem.tail _ (List.Mem.tail _ (InU.get (by assumption))) | exact List.Mem.tail _ (List.Mem.tail _ (List.Mem.tail _ (List.Mem.head _))) | exact List.Mem.tail _ (List.Mem.tail _ (List.Mem.tail _ (by assumption))) | exact List.Mem.tail _ (List.Mem.tail _ (List.Mem.tail _ (InU.get (by assumption)))) | exact List.Mem.tail _ (List.Mem.tail _ (List.Mem.tail _ (List.Mem.tail _ (List.Mem.head _)))) | exact List.Mem.tail _ (List.Mem.tail _ (List.Mem.tail _ (List.Mem.tail _ (by assumption)))) | exact List.Mem.tail _ (List.Mem.tail _ (List.Mem.tail _ (List.Mem.tail _ (InU.get (by assumption))))) | exact List.Mem.tail _ (List.Mem.tail _ (List.Mem.tail _ (List.Mem.tail _ (List.Mem.tail _ (List.Mem.head _))))) | exact List.Mem.tail _ (List.Mem.tail _ (List.Mem.tail _ (List.Mem.tail _ (List.Mem.tail _ (by assumption))))) | exact List.Mem.tail _ (List.Mem.tail _ (List.Mem.tail _ (List.Mem.tail _ (List.Mem.tail _ (InU.get (by assumption)))))) | exact List.Mem.tail _ (List.Mem.tail _ (List.Mem.tail _ (List.Mem.tail _ (List.Mem.tail _ (List.Mem.tail _ (List.Mem.head _)))))) | exact List.Mem.tail _ (List.Mem.tail _ (List.Mem.tail _ (List.Mem.tail _ (List.Mem.tail _ (List.Mem.tail _ (by assumption)))))) | exact List.Mem.tail _ (List.Mem.tail _ (List.Mem.tail _ (List.Mem.tail _ (List.Mem.tail _ (List.Mem.tail _ (InU.get (by assumption))))))) | exact List.Mem.tail _ (List.Mem.tail _ (List.Mem.tail _ (List.Mem.tail _ (List.Mem.tail _ (List.Mem.tail _ (List.Mem.tail _ (List.Mem.head _))))))) | exact List.Mem.tail _ (List.Mem.tail _ (List.Mem.tail _ (List.Mem.tail _ (List.Mem.tail _ (List.Mem.tail _ (List.Mem.tail _ (by assumption))))))) | exact List.Mem.tail _ (List.Mem.tail _ (List.Mem.tail _ (List.Mem.tail _ (List.Mem.tail _ (List.Mem.tail _ (List.Mem.tail _ (InU.get (by assumption)))))))) | exact List.Mem.tail _ (List.Mem.tail _ (List.Mem.tail _ (List.Mem.tail _ (List.Mem.tail _ (List.Mem.tail _ (List.Mem.tail _ (List.Mem.tail _ (List.Mem.head _)))))))) | exact List.Mem.tail _ (List.Mem.tail _ (List.Mem.tail _ (List.Mem.tail _ (List.Mem.tail _ (List.Mem.tail _ (List.Mem.tail _ (List.Mem.tail _ (by assumption)))))))) | exact List.Mem.tail _ (List.Mem.tail _ (List.Mem.tail _ (List.Mem.tail _ (List.Mem.tail _ (List.Mem.tail _ (List.Mem.tail _ (List.Mem.tail _ (InU.get (by assumption))))))))))); (case q7 => exact codeRec_news (by k_asm) (by (first | assumption | exact List.Mem.head _ | exact InU.get (by assumption) | exact List.Mem.tail _ (List.Mem.head _) | exact List.Mem.tail _ (by assumption) | exact List.Mem.tail _ (InU.get (by assumption)) | exact List.Mem.tail _ (List.Mem.tail _ (List.Mem.head _)) | exact List.Mem.tail _ (List.Mem.tail _ (by assumption)) | exact List.Mem.tail _ (List.Mem.tail _ (InU.get (by assumption))) | exact List.Mem.tail _ (List.Mem.tail _ (List.Mem.tail _ (List.Mem.head _))) | exact List.Mem.tail _ (List.Mem.tail _ (List.Mem.tail _ (by assumption))) | exact List.Mem.tail _ (List.Mem.tail _ (List.Mem.tail _ (InU.get (by assumption)))) | exact List.Mem.tail _ (List.Mem.tail _ (List.Mem.tail _ (List.Mem.tail _ (List.Mem.head _)))) | exact List.Mem.tail _ (List.Mem.tail _ (List.Mem.tail _ (List.Mem.tail _ (by assumption)))) | exact List.Mem.tail _ (List.Mem.tail _ (List.Mem.tail _ (List.Mem.tail _ (InU.get (by assumption))))) | exact List.Mem.tail _ (List.Mem.tail _ (List.Mem.tail _ (List.Mem.tail _ (List.Mem.tail _ (List.Mem.head _))))) | exact List.Mem.tail _ (List.Mem.tail _ (List.Mem.tail _ (List.Mem.tail _ (List.Mem.tail _ (by assumption))))) | exact List.Mem.tail _ (List.Mem.tail _ (List.Mem.tail _ (List.Mem.tail _ (List.Mem.tail _ (InU.get (by assumption)))))) | exact List.Mem.tail _ (List.Mem.tail _ (List.Mem.tail _ (List.Mem.tail _ (List.Mem.tail _ (List.Mem.tail _ (List.Mem.head _)))))) | exact List.Mem.tail _ (List.Mem.tail _ (List.Mem.tail _ (List.Mem.tail _ (List.Mem.tail _ (List.Mem.tail _ (by assumption)))))) | exact List.Mem.tail _ (List.Mem.tail _ (List.Mem.tail _ (List.Mem.tail _ (List.Mem.tail _ (List.Mem.tail _ (InU.get (by assumption))))))) | exact List.Mem.tail _ (List.Mem.tail _ (List.Mem.tail _ (List.Mem.tail _ (List.Mem.tail _ (List.Mem.tail _ (List.Mem.tail _ (List.Mem.head _))))))) | exact List.Mem.tail _ (List.Mem.tail _ (List.Mem.tail _ (List.Mem.tail _ (List.Mem.tail _ (List.Mem.tail _ (List.Mem.tail _ (by assumption))))))) | exact List.Mem.tail _ (List.Mem.tail _ (List.Mem.tail _ (List.Mem.tail _ (List.Mem.tail _ (List.Mem.tail _ (List.Mem.tail _ (InU.get (by assumption)))))))) | exact List.Mem.tail _ (List.Mem.tail _ (List.Mem.tail _ (List.Mem.tail _ (List.Mem.tail _ (List.Mem.tail _ (List.Mem.tail _ (List.Mem.tail _ (List.Mem.head _)))))))) | exact List.Mem.tail _ (List.Mem.tail _ (List.Mem.tail _ (List.Mem.tail _ (List.Mem.tail _ (List.Mem.tail _ (List.Mem.tail _ (List.Mem.tail _ (by assumption)))))))) | exact List.Mem.tail _ (List.Mem.tail _ (List.Mem.tail _ (List.Mem.tail _ (List.Mem.tail _ (List.Mem.tail _ (List.Mem.tail _ (List.Mem.tail _ (InU.get (by assumption))))))))))) (by assumption) (by assumption)); (case q8 => ktr_room); (case q9 => exact rfl); (case qc5 => decide); (case qB => exact locs rfl); (case qc2 => exact rfl); (case qc3 => exact rfl); (case qc4 => exact rfl); k_whole; intro g' L' h' FG' F' N' B' X' T'; (try dsimp only); (try k_lift B'); (try k_fold))
      k_steps
      rename News h9 L9 _ _ => kN
      rename Fr h9 L9 _ _ => kF
      rename List.map _ _ = Txt.split _ _ => hsp8
      rename News g' L' _ _ => kA
      clear kA
      rename News g' L' _ _ => kB
      refine hret9 _ _ _ _ kF (news_drop2 kN) (fun q hq => Nat.lt_succ_of_lt (Heap.lt_size (kB q (.tail _ hq)).1)) ?_
      rw [krv_pick]
      rename StrsAre (strValues _) _ => hsl8
      have h5 := strs_rev hsl8
      rw [hsp8, hsp9] at h5
      exact h5
    have hI9 : ∀ v ∈ hs, IsH v := fun v h => K.tl.isH v h
    have hl6 : hs.length ≤ 6 := by
      have h1 := K.len
      have h2 := hvI.length
      (first | lia | omega)
    k_dflt (refine sorted_hv (need := [(OF2, oF2), (OC2, oc2)]) B' kF X' kN T' rfl (.tail _ (.tail _ (i2 _))) K.vH hI9 hl6 hKL (fun q hq => ?_) (by ktr_room) (by ktr_units) ?_)
    · rcases List.mem_cons.mp hq with rfl | hq
      · exact .head _
      · rw [List.mem_singleton.mp hq]; exact .tail _ (.head _)
    intro D5 out5 ys5 c5 h5 tk5 F5 N5 hout5 hperm5 hsort5
    have eY : ys5 = rs := sorted_eq (hperm5.trans K.perm.symm) hsort5 K.sorted
    rw [eY] at hout5
    have okR : ∀ x ∈ rs.map hv, PyData.strOk x = true := fun x hx => by
      obtain ⟨v, h1, rfl⟩ := List.mem_map.mp hx
      exact hv_ok (hI9 v (K.perm.mem_iff.mp h1))
    k_steps
    unfold Stop
    refine eq_strs (mem_isListA (n := cR) N5 (.tail _ (.tail _ (.tail _ (i1 _))))) (mem_isListA N5 (.head _)) K.vR hout5 okR okR (by ktr_units) ?_
    rw [decide_eq_true rfl]
    k_steps
    rename Fr h₀ L _ _ => kF
    rename News h₀ L _ _ => kN
    obtain ⟨ps6, hps6⟩ : ∃ ps, InU g8 (126, tabObj ps) := by
      rcases K.tl.tab with h | ⟨c', oc, vq, tq, h, _⟩
      · exact ⟨_, updF_mem U8 (.tail _ (.tail _ (.tail _ (.tail _ (.tail _ (.tail _ (.tail _ h))))))) (by show (126 : Nat) ≠ 138; decide)⟩
      · exact ⟨_, updF_mem U8 (.tail _ (.tail _ (.tail _ (.tail _ (.tail _ (.tail _ (.tail _ h))))))) (by show (126 : Nat) ≠ 138; decide)⟩
    exact hret _ _ _ kF K.gens (GrownAt.of kN (.tail _ (.tail _ (.tail _ (hps6 _))))) (GrownAt.of kN (.tail _ (.tail _ (.tail _ (updF_mem' U8)))))
end
end Mine
end

section
open PySem PySem.W PySem.Calls PyProof.Rows in
theorem Mine.resetLaw {M : Model} {A : Around} {E : Value → Shared → Prop} {s : Shared} {Q : Bool → Shared → Prop} {v : Value} (h : wpAny M A (truthy v) Q E s) : wpAny M A (truthy v) Q E s := by
  w_top off
  k_with_none
  first | (walk1; fail) | exact h
open PySem PySem.W PySem.Calls PyProof.Rows
namespace Mine
local macro_rules | `(tactic| walk_at $s:str) => `(tactic| k_extra $s)
theorem enter_callS {M : Model} {A : Around} {s : Shared} {f : Value} {pos : List Value} {kw : List (Str × Value)} {c : ClaimW} {cl : Str → Option Addr} {mean : ExcName → Option Value} {args : List WData} {s₁ : Shared}
    (h : codeS M A (.call f ⟨pos, kw⟩) (GoodWG c cl mean args s₁) s) : wpS M A (PySem.call f pos kw) (fun v s' => GoodWG c cl mean args s₁ (.ok (.ret v)) s') (fun e s' => GoodWG c cl mean args s₁ (.error e) s') s :=
  wpS_call (codeS_mono h fun res s' g => by rcases g.1 with ⟨v, _, _, rfl, _⟩ | ⟨e, _, _, rfl, _⟩ <;> exact g)
theorem call_fullS {prog : Program} {w : World} {A : Around} {R : Result → Shared → Prop} {s : Shared} {name : Str} {params : Arguments} {body : List Stmt} {scope : Scope}
    {dV kV pm cd doc : Value} {a : Addr} {o : Obj} {args : Args} {binds : List (Str × Value)}
    (hroom : A.depth < recursionLimit) (ho : s.heap.get? a = some o) (hdata : o.data = .func { docDef name params body scope pm cd doc with defaults := dV, kwdefaults := kV }) (hlim : s.heap.NoLimit) (hcd : s.heap.CodeRec cd name)
    (hbind : BindsTo s { docDef name params body scope pm cd doc with defaults := dV, kwdefaults := kV } args binds)
    (hloc : ∀ x ∈ binds, scope.names.lookup x.1 = some .local)
    (h : ∀ h₁, Fr s.heap s.heap.objs.size h₁ (fun x => binds.reverse.lookup x) →
      wpS (model prog w) (A.deeper (envOf name scope s.heap.objs.size a cd)) (execs body (envOf name scope s.heap.objs.size a cd))
        (fun f s' => R (.ok (.ret (match f with | .ret v => v | _ => .none))) s')
        (fun e s' => wpAny (model prog w) (A.deeper (envOf name scope s.heap.objs.size a cd)) (leaving (envOf name scope s.heap.objs.size a cd) e)
          (fun _ s'' => R (.error e) s'') (fun e' s'' => R (.error e') s'') s')
        { s with heap := h₁, toks := s.toks + binds.length })
    (hco : scope.isCoroutine = false := by rfl) (hgen : scope.isGenerator = false := by rfl) (hk : scope.kind = .function := by rfl)
    (hcell : ∀ x ∈ scope.names, x.2 ≠ .cell := by decide) :
    codeS (model prog w) A (.call (.ref a) args) R s := by
  refine codeS_call_function hroom ho hdata hco hgen rfl hcd (hbind _ _ _ _ ?_)
  exact wpAny_newFunctionEnv hcell hloc (fun h₁ hns hsb => ⟨hlim.fresh _ hsb, codeS_func (h h₁ ⟨hns, fun b o e => hsb.extBut b o (Nat.ne_of_lt (Heap.lt_size e)) (Heap.get?_push_of_some _ e), Nat.le_refl _⟩)⟩) hk
/-- the end of the law: True, with the code tables grown -/
theorem kn_postS {M : Model} {A : Around} {cd : Code} {s s₁ : Shared} {cw : ClaimW} {cl : Str → Option Addr} {mean : ExcName → Option Value} {args : List WData} {tabs : List (Addr × Addr)} (hT : TabsAt tabs s₁.heap) (hr : ∀ x, cw.raises args x = false) (hp : cw.post args (.bool true) args = true)
    (h : codeS M A cd (fun r s' => r = .ok (.ret (.bool true)) ∧ (∀ b o, (ghostOf s₁.heap tabs).get? b = some o → s'.heap.get? b = some o) ∧ s'.os = s₁.os ∧ AllBare s'.gens ∧ GrownAll tabs s'.heap) s) : codeS M A cd (GoodWG cw cl mean args s₁) s :=
  codeS_mono h fun r s' ⟨hres, hk, hos, hg, hgr⟩ => by
    have same : ∀ b o, b ∉ tabs.map (·.2) → s₁.heap.get? b = some o → s'.heap.get? b = some o := fun b o hb e => hk b o (ghost_ne e hb)
    have more : ∀ b o, b ∈ tabs.map (·.2) → s₁.heap.get? b = some o → isCodeTable s₁.heap b ∧ o = tabObj #[] ∧ ∃ ps, s'.heap.get? b = some (tabObj ps) := fun b o hb e => by
      obtain ⟨q, hq, rfl⟩ := List.mem_map.mp hb
      have e2 := (hT q hq).2
      rw [e] at e2
      exact ⟨((hT q hq).1.tab (hT q hq).2).isCodeTable, Option.some.inj e2, hgr.get q hq⟩
    refine ⟨.inl ⟨_, _, [], hres, hr, ReadsW.bool true, hp, fun _ => ⟨List.nodup_nil, fun _ hm => (nomatch hm)⟩⟩, ⟨fun b o e => ?_, fun b o e => ?_⟩, hos, hg⟩
    · by_cases hb : b ∈ tabs.map (·.2)
      · obtain ⟨ht, rfl, ps, hP⟩ := more b o hb e
        exact .inr (.inl ⟨ht, rfl, #[], ps, rfl, by rw [Array.empty_append]; exact hP⟩)
      · exact .inl (same b o hb e)
    · by_cases hb : b ∈ tabs.map (·.2)
      · obtain ⟨_, _, ps, hP⟩ := more b o hb e
        exact ⟨_, hP⟩
      · exact ⟨o, same b o hb e⟩
set_option maxHeartbeats 8000000 in
theorem holds : PySem.Challenge.rw_zo0031_01.Holds := by
  k_with_none
  (k_with "subscriptTail Name Slice ref ref" => (k_here; refine stop_in ?_))
  refine hd ?_
  intro w s₀ s₁ mg mb G Y fa o pm cd doc dV kV ho hd' hcd hD hmg hg args vals as hpre hlay hrd hwl hlo
  have KX := km_in_of Y
  have KT := km_tabs_of Y
  have XG := (Ground.X G).1
  refine Ground.open G ?_
  intro T B D TE TW
  obtain ⟨_, _, M⟩ := bmod_of_top T
  have TA := at_of_top T
  wrow_args hpre hlay hrd hwl hlo
  have hT9 : TabsAt ([(130, 126), (142, 138)] : List (Addr × Addr)) s₁.heap := List.forall_mem_cons.mpr ⟨⟨codeHd_of_K (c := 130) (P := 126) KX (by kernel_rfl), KT 126 (.head _)⟩, List.forall_mem_cons.mpr ⟨⟨codeHd_of_K (c := 142) (P := 138) KX (by kernel_rfl), KT 138 (.tail _ (.head _))⟩, fun _ h => nomatch h⟩⟩
  refine enter_callS ?_
  refine kn_postS hT9 (fun _ => rfl) (by first | rfl | wrow_post) ?_
  have he := Dflts.none hD rfl
  subst he
  refine call_fullS (by decide) ho hd' (Top.nolimit T) hcd (BindsTo.of_eq rfl) (locs rfl) fun h₁ F => ?_
  w_binds F
  have N0 := (News.nil : News _ _ _ []).at F
  have C9 := ghost_code hT9
  have X9 := ghost_K hT9 KX (by kernel_rfl)
  have T9 := ghost_top hT9 T
  have B9 := ghost_below hT9
  have N9 := ghost_news hT9 F N0
  have F9 := ghost_fr hT9 F
  obtain ⟨C1, C2, _⟩ := C9
  rename IntsAre _ _ => hI
  rename Heap.IsList _ _ _ => hL
  have hL9 := ghost_list hT9 hL
  (try clear ra)
  (try clear w1)
  (try clear r0)
  (try clear hrd)
  (try clear hwl)
  (try clear hlo)
  (try clear hpre)
  (try clear hlay)
  (try clear hs)
  (try clear hlay0)
  (try clear hl2)
  (try clear hr)
  (try clear hL)
  (try clear X)
  (try clear V)
  (try clear M)
  (try clear TA)
  (try clear XG)
  (try clear KX)
  (try clear KT)
  (try clear F)
  (try clear N0)
  (try clear G)
  (try clear Y)
  (try clear ho)
  (try clear hd')
  (try clear hcd)
  (try clear hD)
  (try clear hmg)
  (try clear TE)
  (try clear TW)
  (try clear D)
  (try clear B)
  simp only [tabNews, List.map_cons, List.map_nil, List.nil_append] at N9
  have hsz : s₁.heap.objs.size = (ghostOf s₁.heap [(130, 126), (142, 138)]).objs.size := (hideAll_size _ _).symm
  obtain ⟨h₀, hh₀⟩ : ∃ h₀, ghostOf s₁.heap [(130, 126), (142, 138)] = h₀ := ⟨_, rfl⟩
  obtain ⟨L, hLL⟩ : ∃ L, s₁.heap.objs.size = L := ⟨_, rfl⟩
  rw [hh₀] at C1 C2 X9 T9 B9 N9 F9 hL9 ⊢
  rw [hLL] at N9 F9 ⊢
  dsimp only at C1 C2 F9 N9 ⊢
  refine execsA ?_
  k_steps
  rename News h₀ L _ _ => kN
  rename Fr h₀ L _ _ => kF
  obtain ⟨S, vS, nS, LF, vF, mm, h63, hLS, hIS, hIF, kF, hmm, kN, lt6, lt8⟩ : ∃ (S : Addr) (vS : List Value) (nS : List Int) (LF : Addr) (vF : List Value) (mm : Str → Option Value), ¬ ((63 : Int) < (nS.length : Int)) ∧ h₀.IsList S (List.toArray vS) ∧ IntsAre vS nS ∧ IntsAre vF [13, 25, 441, 4, 201] ∧
      Fr h₀ L _ (fun y => if y = Str.ofString "fixed" then some (.ref LF) else mm y) ∧ mm (Str.ofString "script") = some (.ref S) ∧ News h₀ L _ [(LF, listOf (List.toArray vF) 0), (126, tabObj #[]), (138, tabObj #[])] ∧ 126 < LF ∧ 138 < LF :=
    ⟨_, _, _, _, _, _, by assumption, hL9, hI, .cons _ _ (.cons _ _ (.cons _ _ (.cons _ _ (.cons _ _ .nil)))), kF, rfl, kN, by assumption⟩
  rw [upd_know hmm] at kF
  clear hL9 hI
  dsimp only at kF ⊢
  refine execsS (returnS (callS ?_))
  k_steps
  unfold Stop
  refine kmk_slice_ints (by k_asm) (by k_asm) (Fr.lst (by k_asm) hLS) .none (.int _ _) hIS (kmk_upto hIS (by decide)) rfl ?_ (by with_unfolding_all rfl) (fun _ => by with_unfolding_all rfl) (by rw [List.size_toArray, hIS.length, sizeLine_eq]; (first | lia | omega))
  intro D1 w1 h1 F1 N1 lt1 hw1 _ _
  k_steps
  unfold Stop
  refine kmk_slice_ints (vs := vF) (by k_asm) (by k_asm) (mem_isListA (by k_asm) (.tail _ (.head _))) (.int _ _) .none hIF (kmk_from hIF (by (first | lia | omega))) rfl ?_ (by with_unfolding_all rfl) (fun _ => by with_unfolding_all rfl) (by rw [List.size_toArray, hIF.length, sizeLine_eq]; decide)
  intro D2 w2 h2 F2 N2 lt2 hw2 _ _
  k_steps
  rename IntsAre _ (List.take _ _ ++ List.drop _ _) => hJ
  rename News h₀ L _ _ => kN
  rename Fr h₀ L _ _ => kF
  rename (_ < _ ∧ _ < _ ∧ _ < _ ∧ 126 < _ ∧ 138 < _) => hlt
  obtain ⟨_, _, _, hlt1, hlt2⟩ := hlt
  refine ⟨calleeOk kF X9 (by k_is), ?_⟩
  k_dflt (refine law_run_call (nc := 0) (news := [_, (126, tabObj #[]), (138, tabObj #[])]) B9 kF X9 (fun p hp => kN p ?_) T9 rfl C1 C2 (.tail _ (.head _)) (.tail _ (.tail _ (.head _))) (UpdF.tail (Nat.ne_of_gt hlt2) (UpdF.tail (by show (126 : Nat) ≠ 138; decide) (UpdF.head fun _ h => nomatch h))) (.head _) ?_ hJ ?_ (AllBare.of_eq hg) (by ktr_room) (by ktr_units) ?_)
  · rcases List.mem_cons.mp hp with rfl | hp
    · exact .head _
    · exact .tail _ (.tail _ (.tail _ (.tail _ hp)))
  · simp only [List.map_cons, List.map_nil, List.nodup_cons, List.mem_cons, List.not_mem_nil, or_false, not_or, not_false_eq_true, List.nodup_nil, and_true]
    exact ⟨⟨Nat.ne_of_gt hlt1, Nat.ne_of_gt hlt2⟩, by show (126 : Nat) ≠ 138; decide⟩
  · rw [List.length_append, List.length_take, List.length_drop]
    simp only [List.length_cons, List.length_nil]
    (first | lia | omega)
  · intro h' tk' g' F' hb g1 g2
    exact ⟨rfl, F'.keep, rfl, hb, g1, g2, trivial⟩
end Mine
end

theorem PySem.Challenge.cw_zo0031_01_holds : PySem.Challenge.rw_zo0031_01.Holds :=
  Mine.holds
